import JvmDerived
import JvmDerived.Pilot.@@N@@Statement
import JvmDerived.Pilot.@@N@@Code
set_option linter.unusedVariables false
set_option linter.unusedSimpArgs false
namespace Jvm.RoadKit
open Sem ClassFile Op Lib Jvm.Stand Jvm.Free Jvm.LawKit
section New
variable {p : Program} {l : Launch} {e : Env} {R : Room} {s : State} {m : MethodId} {args : Array Value} {below : List Frame} {meth : Method} {c : Code} {T : State} {locs : List Loc} {cells slots : Nat}
theorem retI (X : Stand p l e R s m args below meth c T locs cells slots) (hx : p.tables.exec = Jvm.exec) {pc : Nat} {Ls : Array Slot} {z : Int32} {rest : List Value} (hret : meth.sig.returnType = some .int) (hd : decode c.code pc = .ok (.ireturn, 1)) {fs : List Frame}
    (hl : ∀ (f : JFrame) (acts : List Action), f.method = m → f.locked = none → f.entered = [] → (doReturn e (T.setTop f) acts (some (.int z))).1 = T.setFrames fs) : Steps p.tables e below (T.setTop (mkF m pc Ls (.int z :: rest))) (T.setFrames fs) := by
  have hm' : T.vm.method? m = some meth := X.method'
  have hn : narrow .int (.int z) = .int z := rfl
  show Steps p.tables e below (T.setTop { method := m, pc := pc, locals := Ls, stack := _ :: rest, locked := none }) _
  jvm_step X.here [X.here.top, hx, hd, hm', hret, hn]
  first | (intro acts; rw [hl _ acts rfl rfl rfl]) | rw [hl _ _ rfl rfl rfl]
  exact Steps.refl _
end New
end Jvm.RoadKit
namespace Jvm.Pilot.@@N@@
open Jvm Jvm.ClassFile Sem Op Lib Jvm.Free Jvm.Stand Jvm.LawKit Jvm.RoadKit Bundle Jvm.Pilot.@@N@@.Jvm.D
/-! own_x1: one plain instruction over locals and stack, as a function; own_blk: a stretch of them in one row -/
def own_x1 : Instr → Nat → Array Slot → List Value → Option (Array Slot × List Value)
  | .iload_n k, 1, Ls, st => match Ls[k.val]? with | some (.val (.int x)) => some (Ls, .int x :: st) | _ => none
  | .iload k, 2, Ls, st => match Ls[k]? with | some (.val (.int x)) => some (Ls, .int x :: st) | _ => none
  | .lload_n k, 1, Ls, st => match Ls[k.val]? with | some (.val (.long x)) => some (Ls, .long x :: st) | _ => none
  | .lload k, 2, Ls, st => match Ls[k]? with | some (.val (.long x)) => some (Ls, .long x :: st) | _ => none
  | .aload_n k, 1, Ls, st => match Ls[k.val]? with | some (.val (.ref x)) => some (Ls, .ref x :: st) | some (.val .null) => some (Ls, .null :: st) | _ => none
  | .aload k, 2, Ls, st => match Ls[k]? with | some (.val (.ref x)) => some (Ls, .ref x :: st) | some (.val .null) => some (Ls, .null :: st) | _ => none
  | .istore_n k, 1, Ls, .int x :: st => match storeLocals Ls k.val (.int x) with | some L => some (L, st) | none => none
  | .istore k, 2, Ls, .int x :: st => match storeLocals Ls k (.int x) with | some L => some (L, st) | none => none
  | .lstore_n k, 1, Ls, .long x :: st => match storeLocals Ls k.val (.long x) with | some L => some (L, st) | none => none
  | .lstore k, 2, Ls, .long x :: st => match storeLocals Ls k (.long x) with | some L => some (L, st) | none => none
  | .astore_n k, 1, Ls, .ref x :: st => match storeLocals Ls k.val (.ref x) with | some L => some (L, st) | none => none
  | .astore k, 2, Ls, .ref x :: st => match storeLocals Ls k (.ref x) with | some L => some (L, st) | none => none
  | .iconst i, 1, Ls, st => some (Ls, .int (Int32.ofInt i) :: st)
  | .bipush i, 2, Ls, st => some (Ls, .int (Int8.ofInt i).toInt32 :: st)
  | .sipush i, 3, Ls, st => some (Ls, .int (Int16.ofInt i).toInt32 :: st)
  | .lconst k, 1, Ls, st => some (Ls, .long (Int64.ofNat k) :: st)
  | .aconst_null, 1, Ls, st => some (Ls, .null :: st)
  | .iadd, 1, Ls, .int y :: .int x :: st => some (Ls, .int (x + y) :: st)
  | .isub, 1, Ls, .int y :: .int x :: st => some (Ls, .int (x - y) :: st)
  | .imul, 1, Ls, .int y :: .int x :: st => some (Ls, .int (x * y) :: st)
  | .iand, 1, Ls, .int y :: .int x :: st => some (Ls, .int (x &&& y) :: st)
  | .ior, 1, Ls, .int y :: .int x :: st => some (Ls, .int (x ||| y) :: st)
  | .ixor, 1, Ls, .int y :: .int x :: st => some (Ls, .int (x ^^^ y) :: st)
  | .ishl, 1, Ls, .int y :: .int x :: st => some (Ls, .int (x <<< (y &&& 31)) :: st)
  | .ishr, 1, Ls, .int y :: .int x :: st => some (Ls, .int (x >>> (y &&& 31)) :: st)
  | .iushr, 1, Ls, .int y :: .int x :: st => some (Ls, .int ((x.toUInt32 >>> (y &&& 31).toUInt32).toInt32) :: st)
  | .ladd, 1, Ls, .long y :: .long x :: st => some (Ls, .long (x + y) :: st)
  | .lsub, 1, Ls, .long y :: .long x :: st => some (Ls, .long (x - y) :: st)
  | .lmul, 1, Ls, .long y :: .long x :: st => some (Ls, .long (x * y) :: st)
  | .land, 1, Ls, .long y :: .long x :: st => some (Ls, .long (x &&& y) :: st)
  | .lor, 1, Ls, .long y :: .long x :: st => some (Ls, .long (x ||| y) :: st)
  | .lxor, 1, Ls, .long y :: .long x :: st => some (Ls, .long (x ^^^ y) :: st)
  | .lushr, 1, Ls, .int y :: .long x :: st => some (Ls, .long ((x.toUInt64 >>> (y &&& 0x3f).toInt64.toUInt64).toInt64) :: st)
  | .ineg, 1, Ls, .int x :: st => some (Ls, .int (-x) :: st)
  | .i2l, 1, Ls, .int x :: st => some (Ls, .long x.toInt64 :: st)
  | .i2b, 1, Ls, .int x :: st => some (Ls, .int x.toInt8.toInt32 :: st)
  | .i2c, 1, Ls, .int x :: st => some (Ls, .int x.toUInt32.toUInt16.toUInt32.toInt32 :: st)
  | .i2s, 1, Ls, .int x :: st => some (Ls, .int x.toInt16.toInt32 :: st)
  | .lcmp, 1, Ls, .long y :: .long x :: st => some (Ls, .int (lcmpW x y) :: st)
  | .dup, 1, Ls, .int x :: st => some (Ls, .int x :: .int x :: st)
  | .dup, 1, Ls, .ref x :: st => some (Ls, .ref x :: .ref x :: st)
  | .iinc k i, 3, Ls, st => match Ls[k]? with | some (.val (.int x)) => (match storeLocals Ls k (.int (x + Int32.ofInt i)) with | some L => some (L, st) | none => none) | _ => none
  | _, _, _, _ => none
section OwnBlk
variable {p : Program} {l : Launch} {e : Env} {R : Room} {s : State} {m : MethodId} {args : Array Value} {below : List Frame} {meth : Method} {c : Code} {T target : State} {locs : List Loc} {cells slots : Nat}
set_option maxHeartbeats 4000000 in
theorem own_x1_ok (X : Stand p l e R s m args below meth c T locs cells slots) (hx : p.tables.exec = Jvm.exec) {i : Instr} {len pc : Nat} {Ls Ls' : Array Slot} {st st' : List Value} (hd : decode c.code pc = .ok (i, len)) (h : own_x1 i len Ls st = some (Ls', st'))
    (k : Steps p.tables e below (T.setTop (mkF m (pc + len) Ls' st')) target) : Steps p.tables e below (T.setTop (mkF m pc Ls st)) target := by
  unfold own_x1 at h
  split at h
  all_goals (try (split at h))
  all_goals (try (split at h))
  all_goals (try (cases h; done))
  all_goals (cases h)
  all_goals first
    | exact XS.iloadN X.here hx rfl hd (by assumption) k
    | exact XS.iload X.here hx rfl hd (by assumption) k
    | exact XS.lloadN X.here hx rfl hd (by assumption) k
    | exact XS.lload X.here hx rfl hd (by assumption) k
    | exact XS.aloadN X.here hx rfl hd (by assumption) rfl k
    | exact XS.aload X.here hx rfl hd (by assumption) rfl k
    | exact XS.istoreN X.here hx rfl hd rfl (by assumption) k
    | exact XS.istore X.here hx rfl hd rfl (by assumption) k
    | exact XS.lstoreN X.here hx rfl hd rfl (by assumption) k
    | exact XS.lstore X.here hx rfl hd rfl (by assumption) k
    | exact XS.astoreN X.here hx rfl hd rfl rfl (by assumption) k
    | exact XS.astore X.here hx rfl hd rfl rfl (by assumption) k
    | exact XS.iconst X.here hx rfl hd k
    | exact XS.bipush X.here hx rfl hd k
    | exact XS.sipush X.here hx rfl hd k
    | exact XS.lconst X.here hx rfl hd k
    | exact XS.aconstNull X.here hx rfl hd k
    | exact XS.iadd X.here hx rfl hd rfl k
    | exact XS.isub X.here hx rfl hd rfl k
    | exact XS.imul X.here hx rfl hd rfl k
    | exact XS.iand X.here hx rfl hd rfl k
    | exact XS.ior X.here hx rfl hd rfl k
    | exact XS.ixor X.here hx rfl hd rfl k
    | exact XS.ishl X.here hx rfl hd rfl k
    | exact XS.ishr X.here hx rfl hd rfl k
    | exact XS.iushr X.here hx rfl hd rfl k
    | exact XS.ladd X.here hx rfl hd rfl k
    | exact XS.lsub X.here hx rfl hd rfl k
    | exact XS.lmul X.here hx rfl hd rfl k
    | exact XS.land X.here hx rfl hd rfl k
    | exact XS.lor X.here hx rfl hd rfl k
    | exact XS.lxor X.here hx rfl hd rfl k
    | exact XS.lushr X.here hx rfl hd rfl k
    | exact XS.ineg X.here hx rfl hd rfl k
    | exact XS.i2l X.here hx rfl hd rfl k
    | exact XS.i2b X.here hx rfl hd rfl k
    | exact XS.i2c X.here hx rfl hd rfl k
    | exact XS.i2s X.here hx rfl hd rfl k
    | exact XS.lcmp X.here hx rfl hd rfl k
    | exact XS.dup X.here hx rfl hd rfl rfl k
    | exact XS.iinc X.here hx rfl hd (by assumption) (by assumption) k
/-- a stretch: each row's pc, instruction and length; a 'goto' among them goes where its row says -/
def own_xs : List (Nat × Instr × Nat) → Nat → Array Slot → List Value → Option (Nat × Array Slot × List Value)
  | [], pc, Ls, st => some (pc, Ls, st)
  | (q, .goto o, 3) :: is, pc, Ls, st => if q = pc then own_xs is ((pc : Int) + o).toNat Ls st else none
  | (q, i, len) :: is, pc, Ls, st => if q = pc then (match own_x1 i len Ls st with | some (L, t) => own_xs is (pc + len) L t | none => none) else none
def own_dec (b : ByteArray) (is : List (Nat × Instr × Nat)) : Bool := is.all fun r => (match decode b r.1 with | .ok (i, n) => decide (i = r.2.1) && decide (n = r.2.2) | .error _ => false) && (match r.2.1 with | .goto o => decide (0 ≤ (r.1 : Int) + o) | _ => true)
theorem own_blk (X : Stand p l e R s m args below meth c T locs cells slots) (hx : p.tables.exec = Jvm.exec) : ∀ (is : List (Nat × Instr × Nat)) {pc pc' : Nat} {Ls Ls' : Array Slot} {st st' : List Value}, own_dec c.code is = true → own_xs is pc Ls st = some (pc', Ls', st') →
    Steps p.tables e below (T.setTop (mkF m pc' Ls' st')) target → Steps p.tables e below (T.setTop (mkF m pc Ls st)) target := by
  intro is
  induction is with
  | nil => intro pc pc' Ls Ls' st st' _ h k; simp only [own_xs] at h; cases h; exact k
  | cons r is ih =>
    intro pc pc' Ls Ls' st st' hd h k
    simp only [own_dec, List.all_cons, Bool.and_eq_true] at hd
    obtain ⟨⟨h1, h2⟩, h3⟩ := hd
    obtain ⟨q, i, len⟩ := r
    have hdec : decode c.code q = .ok (i, len) := by
      revert h1
      dsimp only
      cases decode c.code q with
      | error _ => intro h; cases h
      | ok v => obtain ⟨i', n'⟩ := v; intro h; simp only [Bool.and_eq_true, decide_eq_true_eq] at h; obtain ⟨rfl, rfl⟩ := h; rfl
    have h3' : own_dec c.code is = true := h3
    unfold own_xs at h
    split at h
    · cases ‹_ :: _ = []›
    · rename_i e1
      cases e1
      split at h
      · rename_i e2
        subst e2
        exact XS.goto X.here hx rfl rfl hdec (by simpa using h2) rfl (ih h3' h k)
      · cases h
    · rename_i e1
      cases e1
      split at h
      · rename_i e2
        subst e2
        split at h
        · rename_i e3
          exact own_x1_ok X hx hdec e3 (ih h3' h k)
        · cases h
      · cases h
theorem own_hb {c : Code} {b : ByteArray} {is : List (Nat × Instr × Nat)} (h : c.code = b) (h2 : own_dec b is = true) : own_dec c.code is = true := h ▸ h2
end OwnBlk
/-! the three calls by contract, each as one 'obtain' (over the library's callS, specialBack, virtualBack and backOf) -/
section OwnCall
variable {p : Program} {l : Launch} {e : Env} {R : Room} {s : State} {m : MethodId} {args : Array Value} {below : List Frame} {meth : Method} {c : Code} {T : State} {locs : List Loc} {cells slots : Nat} {Z : State} {a0 : Array Value} {h : Heap}
theorem own_callS (X : Stand p l e R s m args below meth c T locs cells slots) (hx : p.tables.exec = Jvm.exec) (hZ : Z.Warmed39 s.vm) {own : String} {index : Nat} {y : MethodName} {bytes : ByteArray} {maxL : Nat} {ret : Option FieldType} {rm : Room} {Q : Option Value → Heap → List Loc → Prop}
    (hown : s.vm.findClass own = some m.cls) (w1 : (Jvm.Cond.methodLink own index y).before a0 Z = true) (w2 : (Jvm.Cond.static y).before a0 Z = true) (w3 : (Jvm.Cond.initialized y.cls).before a0 Z = true) (w4 : (Jvm.Cond.code y bytes maxL ret).before a0 Z = true)
    (hy : y.cls ≠ "java/lang/invoke/MethodHandle" ∧ y.cls ≠ "java/lang/invoke/VarHandle") {W : Nat} {argsL rest : List Value}
    (hM : MetFree l y (head1 [Jvm.Cond.code y bytes maxL ret] rm) (fun a U => a = argsL.toArray ∧ Z.Warmed39 U.vm ∧ U.heap = h) (fun _ _ _ _ _ => True) (fun _ U o U' => ∃ v L, o = .returned v ∧ Q v U'.heap L ∧ FrameEnd U o U' L rm.cells rm.slots))
    (hf : rm.frames + 1 ≤ R.frames) (hl : W + (maxL + 11) + rm.locals ≤ R.locals) {c' s' : Nat} (hc' : cells + rm.cells = c') (hs' : slots + rm.slots = s') (hc : c' ≤ R.cells) (hs : s' ≤ R.slots) (eT : T.heap = h)
    {g : JFrame} (hg : g.method = m) (hsize : g.locals.size = c.maxLocals) (hlen : ∀ sig, parseMethodDescriptor y.desc = some sig → argsL.length = sig.parameters.length) (hstack : g.stack = argsL.reverse ++ rest) (hW : 2 * g.monitorRoom + (rest.map fun v => v.category).sum ≤ W) (hdg : decode c.code g.pc = .ok (.invokestatic index, 3)) :
    ∃ (v : Option Value) (T' : State) (L : List Loc), Stand p l e R s m args below meth c T' (locs ++ L) c' s' ∧ Q v T'.heap L ∧ ∀ target, Steps p.tables e below (T'.setTop { g with pc := g.pc + 3, stack := v.toList ++ rest }) target → Steps p.tables e below (T.setTop g) target := by
  subst hc' hs'
  obtain ⟨v, vm₁, ⟨T', L', k', n'⟩, -, X', ⟨L, hQ, e1, e2, e3⟩, st⟩ := Jvm.LawKit.callS X hx hown (mvT hZ w1) (mvT hZ w2) (mvT hZ w3) (mvT hZ w4) hy (backOf (W := W) hM hZ w4 w3 hf hl) hg hsize hlen hstack hW hdg (fun _ _ => ⟨rfl, eT, hc, hs⟩)
  dsimp only [Pt.U, Pt.locs, Pt.cells, Pt.slots] at X' e1 e2 e3 st hQ
  subst e1 e2 e3
  exact ⟨v, T', L, X', hQ, st⟩
theorem own_callI (X : Stand p l e R s m args below meth c T locs cells slots) (hx : p.tables.exec = Jvm.exec) (hZ : Z.Warmed39 s.vm) {own : String} {index : Nat} {y : MethodName} (hy1 : y.name = "<init>") {bytes : ByteArray} {maxL : Nat} {rm : Room} {Q : Option Value → Heap → List Loc → Prop}
    (hown : s.vm.findClass own = some m.cls) (w1 : (Jvm.Cond.methodLink own index y).before a0 Z = true) (w2 : (Jvm.Cond.instanceMethod y).before a0 Z = true) (w3 : (Jvm.Cond.initialized y.cls).before a0 Z = true) (w4 : (Jvm.Cond.code y bytes maxL none).before a0 Z = true)
    (hy : y.cls ≠ "java/lang/invoke/MethodHandle" ∧ y.cls ≠ "java/lang/invoke/VarHandle") {W : Nat} {a : Addr} {argsL rest : List Value}
    (hM : MetFree l y (head1 [Jvm.Cond.code y bytes maxL none] rm) (fun b U => b = (.ref a :: argsL).toArray ∧ Z.Warmed39 U.vm ∧ U.heap = h) (fun _ _ _ _ _ => True) (fun _ U o U' => ∃ v L, o = .returned v ∧ Q v U'.heap L ∧ FrameEnd U o U' L rm.cells rm.slots))
    (hf : rm.frames + 1 ≤ R.frames) (hl : W + (maxL + 11) + rm.locals ≤ R.locals) {c' s' : Nat} (hc' : cells + rm.cells = c') (hs' : slots + rm.slots = s') (hc : c' ≤ R.cells) (hs : s' ≤ R.slots) (eT : T.heap = h)
    {g : JFrame} (hg : g.method = m) (hsize : g.locals.size = c.maxLocals) (hlen : ∀ sig, parseMethodDescriptor y.desc = some sig → argsL.length = sig.parameters.length) (hstack : g.stack = argsL.reverse ++ .ref a :: rest) (hW : 2 * g.monitorRoom + (rest.map fun v => v.category).sum ≤ W) (hdg : decode c.code g.pc = .ok (.invokespecial index, 3)) :
    ∃ (v : Option Value) (T' : State) (L : List Loc), Stand p l e R s m args below meth c T' (locs ++ L) c' s' ∧ Q v T'.heap L ∧ ∀ target, Steps p.tables e below (T'.setTop { g with pc := g.pc + 3, stack := v.toList ++ rest }) target → Steps p.tables e below (T.setTop g) target := by
  subst hc' hs'
  obtain ⟨v, vm₁, ⟨T', L', k', n'⟩, -, X', ⟨L, hQ, e1, e2, e3⟩, st⟩ := X.specialBack hx hy1 hown (mvT hZ w1) (mvT hZ w2) (mvT hZ w4) hy (backOf (W := W) hM hZ w4 w3 hf hl) hg hsize (Steps.refl _) (a := a) hlen hstack hW hdg (fun _ _ => ⟨rfl, eT, hc, hs⟩)
  dsimp only [Pt.U, Pt.locs, Pt.cells, Pt.slots] at X' e1 e2 e3 st hQ
  subst e1 e2 e3
  exact ⟨v, T', L, X', hQ, fun target k => st.trans k⟩
theorem own_callV (X : Stand p l e R s m args below meth c T locs cells slots) (hx : p.tables.exec = Jvm.exec) (hZ : Z.Warmed39 s.vm) {own C : String} {index : Nat} {y : MethodName} {bytes : ByteArray} {maxL : Nat} {ret : Option FieldType} {rm : Room} {Q : Option Value → Heap → List Loc → Prop}
    (hown : s.vm.findClass own = some m.cls) (w1 : (Jvm.Cond.methodLink own index y).before a0 Z = true) (w5 : (Jvm.Cond.declares y).before a0 Z = true) (w6 : (Jvm.Cond.selects C y y).before a0 Z = true) (w2 : (Jvm.Cond.instanceMethod y).before a0 Z = true) (w3 : (Jvm.Cond.initialized y.cls).before a0 Z = true) (w4 : (Jvm.Cond.code y bytes maxL ret).before a0 Z = true)
    (hy : y.cls ≠ "java/lang/invoke/MethodHandle" ∧ y.cls ≠ "java/lang/invoke/VarHandle") {W : Nat} {a : Addr} (E : Exa Z h a C) {argsL rest : List Value}
    (hM : MetFree l y (head1 [Jvm.Cond.code y bytes maxL ret] rm) (fun b U => b = (.ref a :: argsL).toArray ∧ Z.Warmed39 U.vm ∧ U.heap = h) (fun _ _ _ _ _ => True) (fun _ U o U' => ∃ v L, o = .returned v ∧ Q v U'.heap L ∧ FrameEnd U o U' L rm.cells rm.slots))
    (hf : rm.frames + 1 ≤ R.frames) (hl : W + (maxL + 11) + rm.locals ≤ R.locals) {c' s' : Nat} (hc' : cells + rm.cells = c') (hs' : slots + rm.slots = s') (hc : c' ≤ R.cells) (hs : s' ≤ R.slots) (eT : T.heap = h)
    {g : JFrame} (hg : g.method = m) (hsize : g.locals.size = c.maxLocals) (hlen : ∀ sig, parseMethodDescriptor y.desc = some sig → argsL.length = sig.parameters.length) (hstack : g.stack = argsL.reverse ++ .ref a :: rest) (hW : 2 * g.monitorRoom + (rest.map fun v => v.category).sum ≤ W) (hdg : decode c.code g.pc = .ok (.invokevirtual index, 3)) :
    ∃ (v : Option Value) (T' : State) (L : List Loc), Stand p l e R s m args below meth c T' (locs ++ L) c' s' ∧ Q v T'.heap L ∧ ∀ target, Steps p.tables e below (T'.setTop { g with pc := g.pc + 3, stack := v.toList ++ rest }) target → Steps p.tables e below (T.setTop g) target := by
  subst hc' hs'
  obtain ⟨cB, kB, q1, q2, q3⟩ := isOf hZ eT E
  obtain ⟨v, vm₁, ⟨T', L', k', n'⟩, -, X', ⟨L, hQ, e1, e2, e3⟩, st⟩ := X.virtualBack hx (z := y) hown (mvT hZ w1) (mvT hZ w5) (notFace_of_selects (args := #[]) (mvT hZ w6)) (mvT hZ w6) (mvT hZ w2) hy (backOf (W := W) hM hZ w4 w3 hf hl) q1 q3 hg hsize (Steps.refl _) hlen hstack hW hdg (fun _ _ => ⟨rfl, eT, hc, hs⟩)
  dsimp only [Pt.U, Pt.locs, Pt.cells, Pt.slots] at X' e1 e2 e3 st hQ
  subst e1 e2 e3
  exact ⟨v, T', L, X', hQ, fun target k => st.trans k⟩
end OwnCall
theorem own_small {n : Nat} (P : Int32 → Prop) (h : ∀ i : Fin n, P (Int32.ofNat i.1)) {x : Int32} (h0 : ¬ x < 0) (h1 : x.toInt < n) : P x := by
  have e0 : (0 : Int32).toInt = 0 := by decide
  have hx : Int32.ofNat x.toNatClampNeg = x := (back32 h0).1
  have hp : 0 ≤ x.toInt := by rw [Int32.lt_iff_toInt_lt] at h0; omega
  have hlt : x.toNatClampNeg < n := by
    show x.toInt.toNat < n
    omega
  have q := h ⟨x.toNatClampNeg, hlt⟩
  rw [← hx]; exact q
theorem own_ws {Z : State} {a0 : Array Value} (hw : ∀ d ∈ tables_1, d.before a0 Z = true) : ∀ a ∈ Bundle.stringAtoms, a.before a0 Z = true := fun d hd => by
  simp only [Bundle.stringAtoms, List.mem_cons, List.not_mem_nil, or_false] at hd
  rcases hd with rfl | rfl | rfl | rfl | rfl | rfl | rfl
  all_goals first | exact hw _ (List.mem_of_getElem? (i := 10) rfl) | exact hw _ (List.mem_of_getElem? (i := 11) rfl) | exact hw _ (List.mem_of_getElem? (i := 12) rfl) | exact hw _ (List.mem_of_getElem? (i := 13) rfl) | exact hw _ (List.mem_of_getElem? (i := 14) rfl) | exact hw _ (List.mem_of_getElem? (i := 15) rfl) | exact hw _ (List.mem_of_getElem? (i := 16) rfl)
theorem d1_0 : decode method_2_code 0 = .ok (.iload_n 0, 1) := by decide +kernel
theorem d1_1 : decode method_2_code 1 = .ok (.iconst 3, 1) := by decide +kernel
theorem d1_2 : decode method_2_code 2 = .ok (.iand, 1) := by decide +kernel
theorem d1_3 : decode method_2_code 3 = .ok (.istore_n 1, 1) := by decide +kernel
theorem d1_4 : decode method_2_code 4 = .ok (.iload_n 1, 1) := by decide +kernel
theorem d1_5 : decode method_2_code 5 = .ok (.ifCond .ne 6, 3) := by decide +kernel
theorem d1_8 : decode method_2_code 8 = .ok (.bipush 10, 2) := by decide +kernel
theorem d1_10 : decode method_2_code 10 = .ok (.ireturn, 1) := by decide +kernel
theorem d1_11 : decode method_2_code 11 = .ok (.iload_n 1, 1) := by decide +kernel
theorem d1_12 : decode method_2_code 12 = .ok (.iconst 1, 1) := by decide +kernel
theorem d1_13 : decode method_2_code 13 = .ok (.if_icmp .ne 6, 3) := by decide +kernel
theorem d1_16 : decode method_2_code 16 = .ok (.bipush 13, 2) := by decide +kernel
theorem d1_18 : decode method_2_code 18 = .ok (.ireturn, 1) := by decide +kernel
theorem d1_19 : decode method_2_code 19 = .ok (.iload_n 0, 1) := by decide +kernel
theorem d1_20 : decode method_2_code 20 = .ok (.iconst 2, 1) := by decide +kernel
theorem d1_21 : decode method_2_code 21 = .ok (.iushr, 1) := by decide +kernel
theorem d1_22 : decode method_2_code 22 = .ok (.sipush 255, 3) := by decide +kernel
theorem d1_25 : decode method_2_code 25 = .ok (.iand, 1) := by decide +kernel
theorem d1_26 : decode method_2_code 26 = .ok (.i2c, 1) := by decide +kernel
theorem d1_27 : decode method_2_code 27 = .ok (.ireturn, 1) := by decide +kernel
theorem pn_1 : plainName "com/example/endcon/endcon/yaml/CursorNewLinePinLaw" = true := by first | (simp [plainName, overriddenIn]; done) | decide +kernel
theorem ef_1 (m : MethodId) (x0 : Int32) : entryFrame m #[(.int x0)] 2 = mkF m 0 #[.val (.int x0), .unset] [] := by first | (simp [entryFrame, mkF, argsToLocals, Value.category]; done) | rfl
def bl1_0_4 : List (Nat × Instr × Nat) := [(0, .iload_n 0, 1), (1, .iconst 3, 1), (2, .iand, 1), (3, .istore_n 1, 1)]
theorem bd1_0_4 : own_dec method_2_code bl1_0_4 = true := by decide +kernel
def bl1_4_1 : List (Nat × Instr × Nat) := [(4, .iload_n 1, 1)]
theorem bd1_4_1 : own_dec method_2_code bl1_4_1 = true := by decide +kernel
def bl1_8_1 : List (Nat × Instr × Nat) := [(8, .bipush 10, 2)]
theorem bd1_8_1 : own_dec method_2_code bl1_8_1 = true := by decide +kernel
def bl1_11_2 : List (Nat × Instr × Nat) := [(11, .iload_n 1, 1), (12, .iconst 1, 1)]
theorem bd1_11_2 : own_dec method_2_code bl1_11_2 = true := by decide +kernel
def bl1_16_1 : List (Nat × Instr × Nat) := [(16, .bipush 13, 2)]
theorem bd1_16_1 : own_dec method_2_code bl1_16_1 = true := by decide +kernel
def bl1_19_6 : List (Nat × Instr × Nat) := [(19, .iload_n 0, 1), (20, .iconst 2, 1), (21, .iushr, 1), (22, .sipush 255, 3), (25, .iand, 1), (26, .i2c, 1)]
theorem bd1_19_6 : own_dec method_2_code bl1_19_6 = true := by decide +kernel

def f1 (p1 : Int32) : Int32 := (if (p1 &&& (3 : Int32)) = (0 : Int32) then (10 : Int32) else (if (p1 &&& (3 : Int32)) = (1 : Int32) then (13 : Int32) else (nar .char ((((p1.toUInt32 >>> ((2 : Int32) &&& 31).toUInt32).toInt32) &&& (255 : Int32)).toUInt32.toUInt16.toUInt32.toInt32))))
def Q1 (Z : State) (p1 : Int32) (h0 : Heap) (n0 : Nat) (v : Option Value) (h : Heap) (L : List Loc) : Prop := v = some (.int (f1 p1)) ∧ Fr n0 L ∧ h = h0
set_option maxRecDepth 65536 in
set_option maxHeartbeats 40000000 in
theorem rm1 (l : Launch) (Z : State) (a0 : Array Value) (hw : ∀ d ∈ tables_1, d.before a0 Z = true) (ws : List Jvm.Cond) (p1 : Int32) (h0 : Heap) (n0 : Nat) (Z0 : n0 ≤ h0.size) :
    MetFree l (⟨"com/example/endcon/endcon/yaml/CursorNewLinePinLaw", "pick", "(I)C"⟩ : MethodName) (head1 (Jvm.Cond.code (⟨"com/example/endcon/endcon/yaml/CursorNewLinePinLaw", "pick", "(I)C"⟩ : MethodName) method_2_code 2 (some .char) :: ws) ({ frames := 0, cells := 0, slots := 0, locals := 0 } : Room)) (fun a U => a = #[(.int p1)] ∧ Z.Warmed39 U.vm ∧ U.heap = h0) (fun _ _ _ _ _ => True) (fun _ U o U' => ∃ v L, o = .returned v ∧ Q1 Z p1 h0 n0 v U'.heap L ∧ FrameEnd U o U' L ({ frames := 0, cells := 0, slots := 0, locals := 0 } : Room).cells ({ frames := 0, cells := 0, slots := 0, locals := 0 } : Room).slots) := by
  refine MetFree.of_bodySF (plainFor_of_name pn_1) hisR ?_
  intro p e s m args below meth c s₁ Bd hml0 hP hK
  obtain ⟨rfl, hZ, hh⟩ := hP
  have hx := Bd.exec
  have hby := Bd.bytes
  have hml : c.maxLocals = 2 := hml0
  have hown : s.vm.findClass "com/example/endcon/endcon/yaml/CursorNewLinePinLaw" = some m.cls := findClass_of_methodNamed Bd.named
  have hnm := (name_of_methodNamed Bd.named Bd.method).1
  have X0 : Stand p l e ({ frames := 0, cells := 0, slots := 0, locals := 0 } : Room) s m #[(.int p1)] below meth c s₁ [] 0 0 := Stand.of_body Bd
  have e0 : s₁.heap = h0 := by rw [← hh, Bd.state]; rfl
  have N0 := Fr.nil n0
  have pre0 : ∀ t, Steps p.tables e below (s₁.setTop (mkF m 0 #[.val (.int p1), .unset] [])) t → Steps p.tables e below (s₁.setTop (entryFrame m #[(.int p1)] 2)) t := fun t k => castTop (ef_1 m p1) k
  have pre1 : ∀ t, Steps p.tables e below (s₁.setTop (mkF m 5 #[.val (.int p1), .val (.int (p1 &&& (3 : Int32)))] [(.int (p1 &&& (3 : Int32)))])) t → Steps p.tables e below (s₁.setTop (entryFrame m #[(.int p1)] 2)) t := fun t kt => by
    refine pre0 _ ?_
    show Steps p.tables e below (s₁.setTop (mkF m 0 #[.val (.int p1), .unset] [])) _
    refine own_blk X0 hx bl1_0_4 (own_hb hby bd1_0_4) (pc' := 4) (Ls' := #[.val (.int p1), .val (.int (p1 &&& (3 : Int32)))]) (st' := []) rfl ?_
    refine own_blk X0 hx bl1_4_1 (own_hb hby bd1_4_1) (pc' := 5) (Ls' := #[.val (.int p1), .val (.int (p1 &&& (3 : Int32)))]) (st' := [(.int (p1 &&& (3 : Int32)))]) rfl ?_
    exact kt
  by_cases hc2 : (p1 &&& (3 : Int32)) = (0 : Int32)
  · obtain ⟨fs, hr, hrun, hended, hW, hsame⟩ := X0.leave (v := some (.int (10 : Int32))) (fun h => by rw [Bd.returns] at h; cases h)
    refine ⟨_, _, pre1 _ ?_, hrun, hended, _, _, rfl, ?_, ⟨_, rfl⟩, hW, hsame.mono (by decide) (by decide)⟩
    · show Steps p.tables e below (s₁.setTop (mkF m 5 #[.val (.int p1), .val (.int (p1 &&& (3 : Int32)))] [(.int (p1 &&& (3 : Int32)))])) _
      refine XS.ifNo X0.here hx rfl (hb hby d1_5) rfl ((if0 _ _).trans (teq hc2).2) ?_
      show Steps p.tables e below (s₁.setTop (mkF m 8 #[.val (.int p1), .val (.int (p1 &&& (3 : Int32)))] [])) _
      refine own_blk X0 hx bl1_8_1 (own_hb hby bd1_8_1) (pc' := 10) (Ls' := #[.val (.int p1), .val (.int (p1 &&& (3 : Int32)))]) (st' := [(.int (10 : Int32))]) rfl ?_
      exact retN X0 hx (t := .char) Bd.returns (by simp) (hb hby d1_10) hr
    · show Q1 Z p1 h0 n0 _ s₁.heap _
      rw [e0]
      exact ⟨by rw [f1, if_pos hc2], N0, rfl⟩
  · have pre3 : ∀ t, Steps p.tables e below (s₁.setTop (mkF m 13 #[.val (.int p1), .val (.int (p1 &&& (3 : Int32)))] [(.int (1 : Int32)), (.int (p1 &&& (3 : Int32)))])) t → Steps p.tables e below (s₁.setTop (entryFrame m #[(.int p1)] 2)) t := fun t kt => by
      refine pre1 _ ?_
      show Steps p.tables e below (s₁.setTop (mkF m 5 #[.val (.int p1), .val (.int (p1 &&& (3 : Int32)))] [(.int (p1 &&& (3 : Int32)))])) _
      refine XS.ifYes X0.here hx rfl (pc0 := 5) (pc' := 11) rfl (hb hby d1_5) rfl ((if0 _ _).trans (feq hc2).2) (by decide) (by decide) ?_
      show Steps p.tables e below (s₁.setTop (mkF m 11 #[.val (.int p1), .val (.int (p1 &&& (3 : Int32)))] [])) _
      refine own_blk X0 hx bl1_11_2 (own_hb hby bd1_11_2) (pc' := 13) (Ls' := #[.val (.int p1), .val (.int (p1 &&& (3 : Int32)))]) (st' := [(.int (1 : Int32)), (.int (p1 &&& (3 : Int32)))]) rfl ?_
      exact kt
    by_cases hc4 : (p1 &&& (3 : Int32)) = (1 : Int32)
    · obtain ⟨fs, hr, hrun, hended, hW, hsame⟩ := X0.leave (v := some (.int (13 : Int32))) (fun h => by rw [Bd.returns] at h; cases h)
      refine ⟨_, _, pre3 _ ?_, hrun, hended, _, _, rfl, ?_, ⟨_, rfl⟩, hW, hsame.mono (by decide) (by decide)⟩
      · show Steps p.tables e below (s₁.setTop (mkF m 13 #[.val (.int p1), .val (.int (p1 &&& (3 : Int32)))] [(.int (1 : Int32)), (.int (p1 &&& (3 : Int32)))])) _
        refine XS.icmpNo X0.here hx rfl (hb hby d1_13) rfl (teq hc4).2 ?_
        show Steps p.tables e below (s₁.setTop (mkF m 16 #[.val (.int p1), .val (.int (p1 &&& (3 : Int32)))] [])) _
        refine own_blk X0 hx bl1_16_1 (own_hb hby bd1_16_1) (pc' := 18) (Ls' := #[.val (.int p1), .val (.int (p1 &&& (3 : Int32)))]) (st' := [(.int (13 : Int32))]) rfl ?_
        exact retN X0 hx (t := .char) Bd.returns (by simp) (hb hby d1_18) hr
      · show Q1 Z p1 h0 n0 _ s₁.heap _
        rw [e0]
        exact ⟨by rw [f1, if_neg hc2, if_pos hc4], N0, rfl⟩
    · obtain ⟨fs, hr, hrun, hended, hW, hsame⟩ := X0.leave (v := some (.int (nar .char ((((p1.toUInt32 >>> ((2 : Int32) &&& 31).toUInt32).toInt32) &&& (255 : Int32)).toUInt32.toUInt16.toUInt32.toInt32)))) (fun h => by rw [Bd.returns] at h; cases h)
      refine ⟨_, _, pre3 _ ?_, hrun, hended, _, _, rfl, ?_, ⟨_, rfl⟩, hW, hsame.mono (by decide) (by decide)⟩
      · show Steps p.tables e below (s₁.setTop (mkF m 13 #[.val (.int p1), .val (.int (p1 &&& (3 : Int32)))] [(.int (1 : Int32)), (.int (p1 &&& (3 : Int32)))])) _
        refine XS.icmpYes X0.here hx rfl (pc0 := 13) (pc' := 19) rfl (hb hby d1_13) rfl (feq hc4).2 (by decide) (by decide) ?_
        show Steps p.tables e below (s₁.setTop (mkF m 19 #[.val (.int p1), .val (.int (p1 &&& (3 : Int32)))] [])) _
        refine own_blk X0 hx bl1_19_6 (own_hb hby bd1_19_6) (pc' := 27) (Ls' := #[.val (.int p1), .val (.int (p1 &&& (3 : Int32)))]) (st' := [(.int ((((p1.toUInt32 >>> ((2 : Int32) &&& 31).toUInt32).toInt32) &&& (255 : Int32)).toUInt32.toUInt16.toUInt32.toInt32))]) rfl ?_
        exact retN X0 hx (t := .char) Bd.returns (by simp) (hb hby d1_27) hr
      · show Q1 Z p1 h0 n0 _ s₁.heap _
        rw [e0]
        exact ⟨by rw [f1, if_neg hc2, if_neg hc4], N0, rfl⟩
theorem d4_0 : decode jdk_89_method_16_code 0 = .ok (.iload_n 0, 1) := by decide +kernel
theorem d4_1 : decode jdk_89_method_16_code 1 = .ok (.ldc 75, 2) := by decide +kernel
theorem d4_3 : decode jdk_89_method_16_code 3 = .ok (.if_icmp .lt 13, 3) := by decide +kernel
theorem d4_16 : decode jdk_89_method_16_code 16 = .ok (.iconst 0, 1) := by decide +kernel
theorem d4_17 : decode jdk_89_method_16_code 17 = .ok (.ireturn, 1) := by decide +kernel
theorem pn_4 : plainName "java/lang/Character" = true := by first | (simp [plainName, overriddenIn]; done) | decide +kernel
theorem ef_4 (m : MethodId) (x0 : Int32) : entryFrame m #[(.int x0)] 1 = mkF m 0 #[.val (.int x0)] [] := by first | (simp [entryFrame, mkF, argsToLocals, Value.category]; done) | rfl
def bl4_0_1 : List (Nat × Instr × Nat) := [(0, .iload_n 0, 1)]
theorem bd4_0_1 : own_dec jdk_89_method_16_code bl4_0_1 = true := by decide +kernel
def bl4_16_1 : List (Nat × Instr × Nat) := [(16, .iconst 0, 1)]
theorem bd4_16_1 : own_dec jdk_89_method_16_code bl4_16_1 = true := by decide +kernel

def f4 (p1 : Int32) : Int32 := (0 : Int32)
def Q4 (Z : State) (p1 : Int32) (h0 : Heap) (n0 : Nat) (v : Option Value) (h : Heap) (L : List Loc) : Prop := v = some (.int (f4 p1)) ∧ Fr n0 L ∧ h = h0
set_option maxRecDepth 65536 in
set_option maxHeartbeats 40000000 in
theorem rm4 (l : Launch) (Z : State) (a0 : Array Value) (hw : ∀ d ∈ tables_1, d.before a0 Z = true) (ws : List Jvm.Cond) (p1 : Int32) (h0 : Heap) (n0 : Nat) (Z0 : n0 ≤ h0.size) (hs : p1 < (55296 : Int32)) :
    MetFree l (⟨"java/lang/Character", "isSurrogate", "(C)Z"⟩ : MethodName) (head1 (Jvm.Cond.code (⟨"java/lang/Character", "isSurrogate", "(C)Z"⟩ : MethodName) jdk_89_method_16_code 1 (some .boolean) :: ws) ({ frames := 0, cells := 0, slots := 0, locals := 0 } : Room)) (fun a U => a = #[(.int p1)] ∧ Z.Warmed39 U.vm ∧ U.heap = h0) (fun _ _ _ _ _ => True) (fun _ U o U' => ∃ v L, o = .returned v ∧ Q4 Z p1 h0 n0 v U'.heap L ∧ FrameEnd U o U' L ({ frames := 0, cells := 0, slots := 0, locals := 0 } : Room).cells ({ frames := 0, cells := 0, slots := 0, locals := 0 } : Room).slots) := by
  refine MetFree.of_bodySF (plainFor_of_name pn_4) hisR ?_
  intro p e s m args below meth c s₁ Bd hml0 hP hK
  obtain ⟨rfl, hZ, hh⟩ := hP
  have hx := Bd.exec
  have hby := Bd.bytes
  have hml : c.maxLocals = 1 := hml0
  have hown : s.vm.findClass "java/lang/Character" = some m.cls := findClass_of_methodNamed Bd.named
  have hnm := (name_of_methodNamed Bd.named Bd.method).1
  have X0 : Stand p l e ({ frames := 0, cells := 0, slots := 0, locals := 0 } : Room) s m #[(.int p1)] below meth c s₁ [] 0 0 := Stand.of_body Bd
  have e0 : s₁.heap = h0 := by rw [← hh, Bd.state]; rfl
  have N0 := Fr.nil n0
  have pre0 : ∀ t, Steps p.tables e below (s₁.setTop (mkF m 0 #[.val (.int p1)] [])) t → Steps p.tables e below (s₁.setTop (entryFrame m #[(.int p1)] 1)) t := fun t k => castTop (ef_4 m p1) k
  obtain ⟨fs, hr, hrun, hended, hW, hsame⟩ := X0.leave (v := some (.int (0 : Int32))) (fun h => by rw [Bd.returns] at h; cases h)
  refine ⟨_, _, pre0 _ ?_, hrun, hended, _, _, rfl, ?_, ⟨_, rfl⟩, hW, hsame.mono (by decide) (by decide)⟩
  · show Steps p.tables e below (s₁.setTop (mkF m 0 #[.val (.int p1)] [])) _
    refine own_blk X0 hx bl4_0_1 (own_hb hby bd4_0_1) (pc' := 1) (Ls' := #[.val (.int p1)]) (st' := [(.int p1)]) rfl ?_
    refine X0.ldcInt hx hown (mvT hZ (hw _ (List.mem_of_getElem? (i := 39) rfl))) (g := (mkF m 1 #[.val (.int p1)] [(.int p1)])) rfl (hb hby d4_1) _ ?_
    show Steps p.tables e below (s₁.setTop (mkF m 3 #[.val (.int p1)] [(.int (55296 : Int32)), (.int p1)])) _
    refine XS.icmpYes X0.here hx rfl (pc0 := 3) (pc' := 16) rfl (hb hby d4_3) rfl (tlt hs).1 (by decide) (by decide) ?_
    show Steps p.tables e below (s₁.setTop (mkF m 16 #[.val (.int p1)] [])) _
    refine own_blk X0 hx bl4_16_1 (own_hb hby bd4_16_1) (pc' := 17) (Ls' := #[.val (.int p1)]) (st' := [(.int (0 : Int32))]) rfl ?_
    exact retN X0 hx (t := .boolean) Bd.returns (by simp) (hb hby d4_17) hr
  · show Q4 Z p1 h0 n0 _ s₁.heap _
    rw [e0]
    exact ⟨by rw [f4], N0, rfl⟩
theorem own_bom {x : Int32} (h : x < 55296) : ¬ (x = (65279 : Int32)) := by
  intro e; subst e; revert h; decide
theorem d2_0 : decode prog_114_method_1_code 0 = .ok (.aload_n 0, 1) := by decide +kernel
theorem d2_1 : decode prog_114_method_1_code 1 = .ok (.invokespecial 1, 3) := by decide +kernel
theorem d2_4 : decode prog_114_method_1_code 4 = .ok (.aload_n 0, 1) := by decide +kernel
theorem d2_5 : decode prog_114_method_1_code 5 = .ok (.iconst 1, 1) := by decide +kernel
theorem d2_6 : decode prog_114_method_1_code 6 = .ok (.putfield 7, 3) := by decide +kernel
theorem d2_9 : decode prog_114_method_1_code 9 = .ok (.aload_n 0, 1) := by decide +kernel
theorem d2_10 : decode prog_114_method_1_code 10 = .ok (.iconst (-1), 1) := by decide +kernel
theorem d2_11 : decode prog_114_method_1_code 11 = .ok (.putfield 13, 3) := by decide +kernel
theorem d2_14 : decode prog_114_method_1_code 14 = .ok (.aload_n 0, 1) := by decide +kernel
theorem d2_15 : decode prog_114_method_1_code 15 = .ok (.iconst (-1), 1) := by decide +kernel
theorem d2_16 : decode prog_114_method_1_code 16 = .ok (.putfield 16, 3) := by decide +kernel
theorem d2_19 : decode prog_114_method_1_code 19 = .ok (.aload_n 0, 1) := by decide +kernel
theorem d2_20 : decode prog_114_method_1_code 20 = .ok (.aload_n 1, 1) := by decide +kernel
theorem d2_21 : decode prog_114_method_1_code 21 = .ok (.putfield 19, 3) := by decide +kernel
theorem d2_24 : decode prog_114_method_1_code 24 = .ok (.aload_n 0, 1) := by decide +kernel
theorem d2_25 : decode prog_114_method_1_code 25 = .ok (.aload_n 2, 1) := by decide +kernel
theorem d2_26 : decode prog_114_method_1_code 26 = .ok (.putfield 23, 3) := by decide +kernel
theorem d2_29 : decode prog_114_method_1_code 29 = .ok (.aload_n 0, 1) := by decide +kernel
theorem d2_30 : decode prog_114_method_1_code 30 = .ok (.iload_n 3, 1) := by decide +kernel
theorem d2_31 : decode prog_114_method_1_code 31 = .ok (.putfield 27, 3) := by decide +kernel
theorem d2_34 : decode prog_114_method_1_code 34 = .ok (.iconst 0, 1) := by decide +kernel
theorem d2_35 : decode prog_114_method_1_code 35 = .ok (.istore 4, 2) := by decide +kernel
theorem d2_37 : decode prog_114_method_1_code 37 = .ok (.iconst 0, 1) := by decide +kernel
theorem d2_38 : decode prog_114_method_1_code 38 = .ok (.istore 5, 2) := by decide +kernel
theorem d2_40 : decode prog_114_method_1_code 40 = .ok (.iload 5, 2) := by decide +kernel
theorem d2_42 : decode prog_114_method_1_code 42 = .ok (.iload_n 3, 1) := by decide +kernel
theorem d2_43 : decode prog_114_method_1_code 43 = .ok (.if_icmp .ge 23, 3) := by decide +kernel
theorem d2_46 : decode prog_114_method_1_code 46 = .ok (.iload 4, 2) := by decide +kernel
theorem d2_48 : decode prog_114_method_1_code 48 = .ok (.ifCond .ne 18, 3) := by decide +kernel
theorem d2_51 : decode prog_114_method_1_code 51 = .ok (.aload_n 2, 1) := by decide +kernel
theorem d2_52 : decode prog_114_method_1_code 52 = .ok (.iload 5, 2) := by decide +kernel
theorem d2_54 : decode prog_114_method_1_code 54 = .ok (.caload, 1) := by decide +kernel
theorem d2_55 : decode prog_114_method_1_code 55 = .ok (.invokestatic 30, 3) := by decide +kernel
theorem d2_58 : decode prog_114_method_1_code 58 = .ok (.istore 4, 2) := by decide +kernel
theorem d2_60 : decode prog_114_method_1_code 60 = .ok (.iinc 5 1, 3) := by decide +kernel
theorem d2_63 : decode prog_114_method_1_code 63 = .ok (.goto (-23), 3) := by decide +kernel
theorem d2_66 : decode prog_114_method_1_code 66 = .ok (.aload_n 0, 1) := by decide +kernel
theorem d2_67 : decode prog_114_method_1_code 67 = .ok (.iload 4, 2) := by decide +kernel
theorem d2_69 : decode prog_114_method_1_code 69 = .ok (.putfield 36, 3) := by decide +kernel
theorem d2_72 : decode prog_114_method_1_code 72 = .ok (.iload_n 3, 1) := by decide +kernel
theorem d2_73 : decode prog_114_method_1_code 73 = .ok (.ifCond .le 21, 3) := by decide +kernel
theorem d2_76 : decode prog_114_method_1_code 76 = .ok (.aload_n 2, 1) := by decide +kernel
theorem d2_77 : decode prog_114_method_1_code 77 = .ok (.iconst 0, 1) := by decide +kernel
theorem d2_78 : decode prog_114_method_1_code 78 = .ok (.caload, 1) := by decide +kernel
theorem d2_79 : decode prog_114_method_1_code 79 = .ok (.ldc 40, 2) := by decide +kernel
theorem d2_81 : decode prog_114_method_1_code 81 = .ok (.if_icmp .ne 13, 3) := by decide +kernel
theorem d2_94 : decode prog_114_method_1_code 94 = .ok (.return_, 1) := by decide +kernel
theorem pn_2 : plainName "com/example/endcon/endcon/yaml/Cursor" = true := by first | (simp [plainName, overriddenIn]; done) | decide +kernel
theorem pd_2_3 : parseMethodDescriptor "(C)Z" = some ⟨[.char], some .boolean⟩ := by decide +kernel
theorem ef_2 (m : MethodId) (x0 : Addr) (x1 : Addr) (x2 : Addr) (x3 : Int32) : entryFrame m #[(.ref x0), (.ref x1), (.ref x2), (.int x3)] 6 = mkF m 0 #[.val (.ref x0), .val (.ref x1), .val (.ref x2), .val (.int x3), .unset, .unset] [] := by first | (simp [entryFrame, mkF, argsToLocals, Value.category]; done) | rfl
def bl2_0_1 : List (Nat × Instr × Nat) := [(0, .aload_n 0, 1)]
theorem bd2_0_1 : own_dec prog_114_method_1_code bl2_0_1 = true := by decide +kernel
def bl2_4_2 : List (Nat × Instr × Nat) := [(4, .aload_n 0, 1), (5, .iconst 1, 1)]
theorem bd2_4_2 : own_dec prog_114_method_1_code bl2_4_2 = true := by decide +kernel
def bl2_9_2 : List (Nat × Instr × Nat) := [(9, .aload_n 0, 1), (10, .iconst (-1), 1)]
theorem bd2_9_2 : own_dec prog_114_method_1_code bl2_9_2 = true := by decide +kernel
def bl2_14_2 : List (Nat × Instr × Nat) := [(14, .aload_n 0, 1), (15, .iconst (-1), 1)]
theorem bd2_14_2 : own_dec prog_114_method_1_code bl2_14_2 = true := by decide +kernel
def bl2_19_2 : List (Nat × Instr × Nat) := [(19, .aload_n 0, 1), (20, .aload_n 1, 1)]
theorem bd2_19_2 : own_dec prog_114_method_1_code bl2_19_2 = true := by decide +kernel
def bl2_24_2 : List (Nat × Instr × Nat) := [(24, .aload_n 0, 1), (25, .aload_n 2, 1)]
theorem bd2_24_2 : own_dec prog_114_method_1_code bl2_24_2 = true := by decide +kernel
def bl2_29_2 : List (Nat × Instr × Nat) := [(29, .aload_n 0, 1), (30, .iload_n 3, 1)]
theorem bd2_29_2 : own_dec prog_114_method_1_code bl2_29_2 = true := by decide +kernel
def bl2_34_2 : List (Nat × Instr × Nat) := [(34, .iconst 0, 1), (35, .istore 4, 2)]
theorem bd2_34_2 : own_dec prog_114_method_1_code bl2_34_2 = true := by decide +kernel
def bl2_37_2 : List (Nat × Instr × Nat) := [(37, .iconst 0, 1), (38, .istore 5, 2)]
theorem bd2_37_2 : own_dec prog_114_method_1_code bl2_37_2 = true := by decide +kernel
def bl2_40_2 : List (Nat × Instr × Nat) := [(40, .iload 5, 2), (42, .iload_n 3, 1)]
theorem bd2_40_2 : own_dec prog_114_method_1_code bl2_40_2 = true := by decide +kernel
def bl2_46_1 : List (Nat × Instr × Nat) := [(46, .iload 4, 2)]
theorem bd2_46_1 : own_dec prog_114_method_1_code bl2_46_1 = true := by decide +kernel
def bl2_51_2 : List (Nat × Instr × Nat) := [(51, .aload_n 2, 1), (52, .iload 5, 2)]
theorem bd2_51_2 : own_dec prog_114_method_1_code bl2_51_2 = true := by decide +kernel
def bl2_58_1 : List (Nat × Instr × Nat) := [(58, .istore 4, 2)]
theorem bd2_58_1 : own_dec prog_114_method_1_code bl2_58_1 = true := by decide +kernel
def bl2_60_1 : List (Nat × Instr × Nat) := [(60, .iinc 5 1, 3)]
theorem bd2_60_1 : own_dec prog_114_method_1_code bl2_60_1 = true := by decide +kernel
def bl2_63_3 : List (Nat × Instr × Nat) := [(63, .goto (-23), 3), (40, .iload 5, 2), (42, .iload_n 3, 1)]
theorem bd2_63_3 : own_dec prog_114_method_1_code bl2_63_3 = true := by decide +kernel
def bl2_66_2 : List (Nat × Instr × Nat) := [(66, .aload_n 0, 1), (67, .iload 4, 2)]
theorem bd2_66_2 : own_dec prog_114_method_1_code bl2_66_2 = true := by decide +kernel
def bl2_72_1 : List (Nat × Instr × Nat) := [(72, .iload_n 3, 1)]
theorem bd2_72_1 : own_dec prog_114_method_1_code bl2_72_1 = true := by decide +kernel
def bl2_76_2 : List (Nat × Instr × Nat) := [(76, .aload_n 2, 1), (77, .iconst 0, 1)]
theorem bd2_76_2 : own_dec prog_114_method_1_code bl2_76_2 = true := by decide +kernel

def Q2 (Z : State) (a1 : Addr) (a2 : Addr) (a3 : Addr) (p4 : Int32) (c0 : Int32) (c1 : Int32) (c2 : Int32) (c3 : Int32) (k_a3 : ClassId) (h0 : Heap) (n0 : Nat) (v : Option Value) (h : Heap) (L : List Loc) : Prop := v = none ∧ Fr n0 L ∧ Keep h0 h [a1] ∧ Exa Z h a1 "com/example/endcon/endcon/yaml/Cursor" ∧ Fld Z h a1 "com/example/endcon/endcon/yaml/Cursor" "line" "I" (.int (1 : Int32)) ∧ Fld Z h a1 "com/example/endcon/endcon/yaml/Cursor" "blankLinesFrom" "I" (.int (-1 : Int32)) ∧ Fld Z h a1 "com/example/endcon/endcon/yaml/Cursor" "countedIndex" "I" (.int (-1 : Int32)) ∧ Fld Z h a1 "com/example/endcon/endcon/yaml/Cursor" "file" "Ljava/lang/String;" (.ref a2) ∧ Fld Z h a1 "com/example/endcon/endcon/yaml/Cursor" "text" "[C" (.ref a3) ∧ Fld Z h a1 "com/example/endcon/endcon/yaml/Cursor" "end" "I" (.int p4) ∧ Fld Z h a1 "com/example/endcon/endcon/yaml/Cursor" "hasSurrogates" "Z" (.int (0 : Int32)) ∧ Fld Z h a1 "com/example/endcon/endcon/yaml/Cursor" "pos" "I" (.int (0 : Int32)) ∧ Fld Z h a1 "com/example/endcon/endcon/yaml/Cursor" "lineStart" "I" (.int (0 : Int32))
set_option maxRecDepth 65536 in
set_option maxHeartbeats 40000000 in
theorem rm2 (l : Launch) (Z : State) (a0 : Array Value) (hw : ∀ d ∈ tables_1, d.before a0 Z = true) (ws : List Jvm.Cond) (a1 : Addr) (a2 : Addr) (a3 : Addr) (p4 : Int32) (c0 : Int32) (c1 : Int32) (c2 : Int32) (c3 : Int32) (k_a3 : ClassId) (h0 : Heap) (n0 : Nat) (Z0 : n0 ≤ h0.size) (E_a1 : Exa Z h0 a1 "com/example/endcon/endcon/yaml/Cursor") (F_a1_line : Fld Z h0 a1 "com/example/endcon/endcon/yaml/Cursor" "line" "I" (.int (0 : Int32))) (F_a1_blankLinesFrom : Fld Z h0 a1 "com/example/endcon/endcon/yaml/Cursor" "blankLinesFrom" "I" (.int (0 : Int32))) (F_a1_countedIndex : Fld Z h0 a1 "com/example/endcon/endcon/yaml/Cursor" "countedIndex" "I" (.int (0 : Int32))) (F_a1_file : Fld Z h0 a1 "com/example/endcon/endcon/yaml/Cursor" "file" "Ljava/lang/String;" .null) (F_a1_text : Fld Z h0 a1 "com/example/endcon/endcon/yaml/Cursor" "text" "[C" .null) (F_a1_end : Fld Z h0 a1 "com/example/endcon/endcon/yaml/Cursor" "end" "I" (.int (0 : Int32))) (F_a1_hasSurrogates : Fld Z h0 a1 "com/example/endcon/endcon/yaml/Cursor" "hasSurrogates" "Z" (.int (0 : Int32))) (F_a1_pos : Fld Z h0 a1 "com/example/endcon/endcon/yaml/Cursor" "pos" "I" (.int (0 : Int32))) (F_a1_lineStart : Fld Z h0 a1 "com/example/endcon/endcon/yaml/Cursor" "lineStart" "I" (.int (0 : Int32))) (g_a1 : n0 ≤ a1) (V_a3 : Arv Z h0 a3 k_a3 .char (4 : Int32) [(.int c0), (.int c1), (.int c2), (.int c3)] (.int (0 : Int32))) (ne_a1_a3 : a1 ≠ a3) (hn4 : ¬ ((4 : Int32) < p4)) (hc0 : c0 < (55296 : Int32)) (hc1 : c1 < (55296 : Int32)) (hc2 : c2 < (55296 : Int32)) (hc3 : c3 < (55296 : Int32)) :
    MetFree l (⟨"com/example/endcon/endcon/yaml/Cursor", "<init>", "(Ljava/lang/String;[CI)V"⟩ : MethodName) (head1 (Jvm.Cond.code (⟨"com/example/endcon/endcon/yaml/Cursor", "<init>", "(Ljava/lang/String;[CI)V"⟩ : MethodName) prog_114_method_1_code 6 none :: ws) ({ frames := 1, cells := 0, slots := 0, locals := 12 } : Room)) (fun a U => a = #[(.ref a1), (.ref a2), (.ref a3), (.int p4)] ∧ Z.Warmed39 U.vm ∧ U.heap = h0) (fun _ _ _ _ _ => True) (fun _ U o U' => ∃ v L, o = .returned v ∧ Q2 Z a1 a2 a3 p4 c0 c1 c2 c3 k_a3 h0 n0 v U'.heap L ∧ FrameEnd U o U' L ({ frames := 1, cells := 0, slots := 0, locals := 12 } : Room).cells ({ frames := 1, cells := 0, slots := 0, locals := 12 } : Room).slots) := by
  refine MetFree.of_bodySF (plainFor_of_name pn_2) hisR ?_
  intro p e s m args below meth c s₁ Bd hml0 hP hK
  obtain ⟨rfl, hZ, hh⟩ := hP
  have hx := Bd.exec
  have hby := Bd.bytes
  have hml : c.maxLocals = 6 := hml0
  have hown : s.vm.findClass "com/example/endcon/endcon/yaml/Cursor" = some m.cls := findClass_of_methodNamed Bd.named
  have hnm := (name_of_methodNamed Bd.named Bd.method).1
  have X0 : Stand p l e ({ frames := 1, cells := 0, slots := 0, locals := 12 } : Room) s m #[(.ref a1), (.ref a2), (.ref a3), (.int p4)] below meth c s₁ [] 0 0 := Stand.of_body Bd
  have e0 : s₁.heap = h0 := by rw [← hh, Bd.state]; rfl
  have N0 := Fr.nil n0
  have pre0 : ∀ t, Steps p.tables e below (s₁.setTop (mkF m 0 #[.val (.ref a1), .val (.ref a2), .val (.ref a3), .val (.int p4), .unset, .unset] [])) t → Steps p.tables e below (s₁.setTop (entryFrame m #[(.ref a1), (.ref a2), (.ref a3), (.int p4)] 6)) t := fun t k => castTop (ef_2 m a1 a2 a3 p4) k
  obtain ⟨T1, X1, e1, st1⟩ := initO X0 hx hZ hown (hw _ (List.mem_of_getElem? (i := 20) rfl)) (hw _ (List.mem_of_getElem? (i := 21) rfl)) (hw _ (List.mem_of_getElem? (i := 22) rfl)) e0 (g := (mkF m 1 #[.val (.ref a1), .val (.ref a2), .val (.ref a3), .val (.int p4), .unset, .unset] [(.ref a1)])) rfl (by rw [hml]; rfl) rfl (hb hby d2_1) (by decide) (W := 0) (by show 2 * 0 + _ ≤ _; exact Nat.le_of_eq rfl) (by decide)
  obtain ⟨T2, h2, X2, e2, W2, st2⟩ := putF X1 hx hZ hown (host := "") (Or.inl (hw _ (List.mem_of_getElem? (i := 23) rfl))) Via.refl e1 F_a1_line E_a1 (Or.inl (hw _ (List.mem_of_getElem? (i := 24) rfl))) (hw _ (List.mem_of_getElem? (i := 7) rfl)) (ty := .int) (by decide) rfl rfl (g := (mkF m 6 #[.val (.ref a1), .val (.ref a2), .val (.ref a3), .val (.int p4), .unset, .unset] [(.int (1 : Int32)), (.ref a1)])) rfl rfl (hb hby d2_6)
  have Fw2 : Fld Z h2 a1 "com/example/endcon/endcon/yaml/Cursor" "line" "I" (.int (1 : Int32)) := F_a1_line.same W2
  have zs3 : n0 ≤ h2.size := Nat.le_trans Z0 (Keep.of_wr W2).1
  have kp4 : Keep h0 h2 [a1] := (Keep.refl h0 [a1]).wr W2 (Or.inl (List.mem_of_getElem? (i := 0) rfl))
  have N2 := Fr.snoc X2 N0 g_a1
  have fa5 : Fld Z h2 a1 "com/example/endcon/endcon/yaml/Cursor" "blankLinesFrom" "I" (.int (0 : Int32)) := (F_a1_blankLinesFrom.other W2 (Or.inr (slot_ne (Or.inl (hw _ (List.mem_of_getElem? (i := 26) rfl))) (Or.inl (hw _ (List.mem_of_getElem? (i := 24) rfl))) (by decide) (t := .int) (t' := .int) (by decide) (by decide))))
  have fa6 : Exa Z h2 a1 "com/example/endcon/endcon/yaml/Cursor" := (E_a1.wr W2)
  obtain ⟨T7, h7, X7, e7, W7, st7⟩ := putF X2 hx hZ hown (host := "") (Or.inl (hw _ (List.mem_of_getElem? (i := 25) rfl))) Via.refl e2 fa5 fa6 (Or.inl (hw _ (List.mem_of_getElem? (i := 26) rfl))) (hw _ (List.mem_of_getElem? (i := 7) rfl)) (ty := .int) (by decide) rfl rfl (g := (mkF m 11 #[.val (.ref a1), .val (.ref a2), .val (.ref a3), .val (.int p4), .unset, .unset] [(.int (-1 : Int32)), (.ref a1)])) rfl rfl (hb hby d2_11)
  have Fw7 : Fld Z h7 a1 "com/example/endcon/endcon/yaml/Cursor" "blankLinesFrom" "I" (.int (-1 : Int32)) := fa5.same W7
  have zs8 : n0 ≤ h7.size := Nat.le_trans zs3 (Keep.of_wr W7).1
  have kp9 : Keep h0 h7 [a1] := kp4.wr W7 (Or.inl (List.mem_of_getElem? (i := 0) rfl))
  have N7 := Fr.snoc X7 N2 g_a1
  have fa10 : Fld Z h7 a1 "com/example/endcon/endcon/yaml/Cursor" "countedIndex" "I" (.int (0 : Int32)) := ((F_a1_countedIndex.other W2 (Or.inr (slot_ne (Or.inl (hw _ (List.mem_of_getElem? (i := 28) rfl))) (Or.inl (hw _ (List.mem_of_getElem? (i := 24) rfl))) (by decide) (t := .int) (t' := .int) (by decide) (by decide)))).other W7 (Or.inr (slot_ne (Or.inl (hw _ (List.mem_of_getElem? (i := 28) rfl))) (Or.inl (hw _ (List.mem_of_getElem? (i := 26) rfl))) (by decide) (t := .int) (t' := .int) (by decide) (by decide))))
  have fa11 : Exa Z h7 a1 "com/example/endcon/endcon/yaml/Cursor" := (fa6.wr W7)
  obtain ⟨T12, h12, X12, e12, W12, st12⟩ := putF X7 hx hZ hown (host := "") (Or.inl (hw _ (List.mem_of_getElem? (i := 27) rfl))) Via.refl e7 fa10 fa11 (Or.inl (hw _ (List.mem_of_getElem? (i := 28) rfl))) (hw _ (List.mem_of_getElem? (i := 7) rfl)) (ty := .int) (by decide) rfl rfl (g := (mkF m 16 #[.val (.ref a1), .val (.ref a2), .val (.ref a3), .val (.int p4), .unset, .unset] [(.int (-1 : Int32)), (.ref a1)])) rfl rfl (hb hby d2_16)
  have Fw12 : Fld Z h12 a1 "com/example/endcon/endcon/yaml/Cursor" "countedIndex" "I" (.int (-1 : Int32)) := fa10.same W12
  have zs13 : n0 ≤ h12.size := Nat.le_trans zs8 (Keep.of_wr W12).1
  have kp14 : Keep h0 h12 [a1] := kp9.wr W12 (Or.inl (List.mem_of_getElem? (i := 0) rfl))
  have N12 := Fr.snoc X12 N7 g_a1
  have fa15 : Fld Z h12 a1 "com/example/endcon/endcon/yaml/Cursor" "file" "Ljava/lang/String;" .null := (((F_a1_file.other W2 (Or.inr (slot_ne (Or.inr (hw _ (List.mem_of_getElem? (i := 30) rfl))) (Or.inl (hw _ (List.mem_of_getElem? (i := 24) rfl))) (by decide) (t := (.object "java/lang/String")) (t' := .int) (by decide) (by decide)))).other W7 (Or.inr (slot_ne (Or.inr (hw _ (List.mem_of_getElem? (i := 30) rfl))) (Or.inl (hw _ (List.mem_of_getElem? (i := 26) rfl))) (by decide) (t := (.object "java/lang/String")) (t' := .int) (by decide) (by decide)))).other W12 (Or.inr (slot_ne (Or.inr (hw _ (List.mem_of_getElem? (i := 30) rfl))) (Or.inl (hw _ (List.mem_of_getElem? (i := 28) rfl))) (by decide) (t := (.object "java/lang/String")) (t' := .int) (by decide) (by decide))))
  have fa16 : Exa Z h12 a1 "com/example/endcon/endcon/yaml/Cursor" := (fa11.wr W12)
  obtain ⟨T17, h17, X17, e17, W17, st17⟩ := putF X12 hx hZ hown (host := "") (Or.inl (hw _ (List.mem_of_getElem? (i := 29) rfl))) Via.refl e12 fa15 fa16 (Or.inr ⟨(hw _ (List.mem_of_getElem? (i := 30) rfl)), rfl, hnm⟩) (hw _ (List.mem_of_getElem? (i := 7) rfl)) (ty := (.object "java/lang/String")) (by decide) rfl rfl (g := (mkF m 21 #[.val (.ref a1), .val (.ref a2), .val (.ref a3), .val (.int p4), .unset, .unset] [(.ref a2), (.ref a1)])) rfl rfl (hb hby d2_21)
  have Fw17 : Fld Z h17 a1 "com/example/endcon/endcon/yaml/Cursor" "file" "Ljava/lang/String;" (.ref a2) := fa15.same W17
  have zs18 : n0 ≤ h17.size := Nat.le_trans zs13 (Keep.of_wr W17).1
  have kp19 : Keep h0 h17 [a1] := kp14.wr W17 (Or.inl (List.mem_of_getElem? (i := 0) rfl))
  have N17 := Fr.snoc X17 N12 g_a1
  have fa20 : Fld Z h17 a1 "com/example/endcon/endcon/yaml/Cursor" "text" "[C" .null := ((((F_a1_text.other W2 (Or.inr (slot_ne (Or.inl (hw _ (List.mem_of_getElem? (i := 32) rfl))) (Or.inl (hw _ (List.mem_of_getElem? (i := 24) rfl))) (by decide) (t := (.array .char)) (t' := .int) (by decide) (by decide)))).other W7 (Or.inr (slot_ne (Or.inl (hw _ (List.mem_of_getElem? (i := 32) rfl))) (Or.inl (hw _ (List.mem_of_getElem? (i := 26) rfl))) (by decide) (t := (.array .char)) (t' := .int) (by decide) (by decide)))).other W12 (Or.inr (slot_ne (Or.inl (hw _ (List.mem_of_getElem? (i := 32) rfl))) (Or.inl (hw _ (List.mem_of_getElem? (i := 28) rfl))) (by decide) (t := (.array .char)) (t' := .int) (by decide) (by decide)))).other W17 (Or.inr (slot_ne (Or.inl (hw _ (List.mem_of_getElem? (i := 32) rfl))) (Or.inr (hw _ (List.mem_of_getElem? (i := 30) rfl))) (by decide) (t := (.array .char)) (t' := (.object "java/lang/String")) (by decide) (by decide))))
  have fa21 : Exa Z h17 a1 "com/example/endcon/endcon/yaml/Cursor" := (fa16.wr W17)
  obtain ⟨T22, h22, X22, e22, W22, st22⟩ := putF X17 hx hZ hown (host := "") (Or.inl (hw _ (List.mem_of_getElem? (i := 31) rfl))) Via.refl e17 fa20 fa21 (Or.inl (hw _ (List.mem_of_getElem? (i := 32) rfl))) (hw _ (List.mem_of_getElem? (i := 7) rfl)) (ty := (.array .char)) (by decide) rfl rfl (g := (mkF m 26 #[.val (.ref a1), .val (.ref a2), .val (.ref a3), .val (.int p4), .unset, .unset] [(.ref a3), (.ref a1)])) rfl rfl (hb hby d2_26)
  have Fw22 : Fld Z h22 a1 "com/example/endcon/endcon/yaml/Cursor" "text" "[C" (.ref a3) := fa20.same W22
  have zs23 : n0 ≤ h22.size := Nat.le_trans zs18 (Keep.of_wr W22).1
  have kp24 : Keep h0 h22 [a1] := kp19.wr W22 (Or.inl (List.mem_of_getElem? (i := 0) rfl))
  have N22 := Fr.snoc X22 N17 g_a1
  have fa25 : Fld Z h22 a1 "com/example/endcon/endcon/yaml/Cursor" "end" "I" (.int (0 : Int32)) := (((((F_a1_end.other W2 (Or.inr (slot_ne (Or.inr (hw _ (List.mem_of_getElem? (i := 34) rfl))) (Or.inl (hw _ (List.mem_of_getElem? (i := 24) rfl))) (by decide) (t := .int) (t' := .int) (by decide) (by decide)))).other W7 (Or.inr (slot_ne (Or.inr (hw _ (List.mem_of_getElem? (i := 34) rfl))) (Or.inl (hw _ (List.mem_of_getElem? (i := 26) rfl))) (by decide) (t := .int) (t' := .int) (by decide) (by decide)))).other W12 (Or.inr (slot_ne (Or.inr (hw _ (List.mem_of_getElem? (i := 34) rfl))) (Or.inl (hw _ (List.mem_of_getElem? (i := 28) rfl))) (by decide) (t := .int) (t' := .int) (by decide) (by decide)))).other W17 (Or.inr (slot_ne (Or.inr (hw _ (List.mem_of_getElem? (i := 34) rfl))) (Or.inr (hw _ (List.mem_of_getElem? (i := 30) rfl))) (by decide) (t := .int) (t' := (.object "java/lang/String")) (by decide) (by decide)))).other W22 (Or.inr (slot_ne (Or.inr (hw _ (List.mem_of_getElem? (i := 34) rfl))) (Or.inl (hw _ (List.mem_of_getElem? (i := 32) rfl))) (by decide) (t := .int) (t' := (.array .char)) (by decide) (by decide))))
  have fa26 : Exa Z h22 a1 "com/example/endcon/endcon/yaml/Cursor" := (fa21.wr W22)
  obtain ⟨T27, h27, X27, e27, W27, st27⟩ := putF X22 hx hZ hown (host := "") (Or.inl (hw _ (List.mem_of_getElem? (i := 33) rfl))) Via.refl e22 fa25 fa26 (Or.inr ⟨(hw _ (List.mem_of_getElem? (i := 34) rfl)), rfl, hnm⟩) (hw _ (List.mem_of_getElem? (i := 7) rfl)) (ty := .int) (by decide) rfl rfl (g := (mkF m 31 #[.val (.ref a1), .val (.ref a2), .val (.ref a3), .val (.int p4), .unset, .unset] [(.int p4), (.ref a1)])) rfl rfl (hb hby d2_31)
  have Fw27 : Fld Z h27 a1 "com/example/endcon/endcon/yaml/Cursor" "end" "I" (.int p4) := fa25.same W27
  have zs28 : n0 ≤ h27.size := Nat.le_trans zs23 (Keep.of_wr W27).1
  have kp29 : Keep h0 h27 [a1] := kp24.wr W27 (Or.inl (List.mem_of_getElem? (i := 0) rfl))
  have N27 := Fr.snoc X27 N22 g_a1
  have pre30 : ∀ t, Steps p.tables e below (T27.setTop (mkF m 43 #[.val (.ref a1), .val (.ref a2), .val (.ref a3), .val (.int p4), .val (.int (0 : Int32)), .val (.int (0 : Int32))] [(.int p4), (.int (0 : Int32))])) t → Steps p.tables e below (s₁.setTop (entryFrame m #[(.ref a1), (.ref a2), (.ref a3), (.int p4)] 6)) t := fun t kt => by
    refine pre0 _ ?_
    show Steps p.tables e below (s₁.setTop (mkF m 0 #[.val (.ref a1), .val (.ref a2), .val (.ref a3), .val (.int p4), .unset, .unset] [])) _
    refine own_blk X0 hx bl2_0_1 (own_hb hby bd2_0_1) (pc' := 1) (Ls' := #[.val (.ref a1), .val (.ref a2), .val (.ref a3), .val (.int p4), .unset, .unset]) (st' := [(.ref a1)]) rfl ?_
    refine st1 _ ?_
    show Steps p.tables e below (T1.setTop (mkF m 4 #[.val (.ref a1), .val (.ref a2), .val (.ref a3), .val (.int p4), .unset, .unset] [])) _
    refine own_blk X1 hx bl2_4_2 (own_hb hby bd2_4_2) (pc' := 6) (Ls' := #[.val (.ref a1), .val (.ref a2), .val (.ref a3), .val (.int p4), .unset, .unset]) (st' := [(.int (1 : Int32)), (.ref a1)]) rfl ?_
    refine st2 _ ?_
    show Steps p.tables e below (T2.setTop (mkF m 9 #[.val (.ref a1), .val (.ref a2), .val (.ref a3), .val (.int p4), .unset, .unset] [])) _
    refine own_blk X2 hx bl2_9_2 (own_hb hby bd2_9_2) (pc' := 11) (Ls' := #[.val (.ref a1), .val (.ref a2), .val (.ref a3), .val (.int p4), .unset, .unset]) (st' := [(.int (-1 : Int32)), (.ref a1)]) rfl ?_
    refine st7 _ ?_
    show Steps p.tables e below (T7.setTop (mkF m 14 #[.val (.ref a1), .val (.ref a2), .val (.ref a3), .val (.int p4), .unset, .unset] [])) _
    refine own_blk X7 hx bl2_14_2 (own_hb hby bd2_14_2) (pc' := 16) (Ls' := #[.val (.ref a1), .val (.ref a2), .val (.ref a3), .val (.int p4), .unset, .unset]) (st' := [(.int (-1 : Int32)), (.ref a1)]) rfl ?_
    refine st12 _ ?_
    show Steps p.tables e below (T12.setTop (mkF m 19 #[.val (.ref a1), .val (.ref a2), .val (.ref a3), .val (.int p4), .unset, .unset] [])) _
    refine own_blk X12 hx bl2_19_2 (own_hb hby bd2_19_2) (pc' := 21) (Ls' := #[.val (.ref a1), .val (.ref a2), .val (.ref a3), .val (.int p4), .unset, .unset]) (st' := [(.ref a2), (.ref a1)]) rfl ?_
    refine st17 _ ?_
    show Steps p.tables e below (T17.setTop (mkF m 24 #[.val (.ref a1), .val (.ref a2), .val (.ref a3), .val (.int p4), .unset, .unset] [])) _
    refine own_blk X17 hx bl2_24_2 (own_hb hby bd2_24_2) (pc' := 26) (Ls' := #[.val (.ref a1), .val (.ref a2), .val (.ref a3), .val (.int p4), .unset, .unset]) (st' := [(.ref a3), (.ref a1)]) rfl ?_
    refine st22 _ ?_
    show Steps p.tables e below (T22.setTop (mkF m 29 #[.val (.ref a1), .val (.ref a2), .val (.ref a3), .val (.int p4), .unset, .unset] [])) _
    refine own_blk X22 hx bl2_29_2 (own_hb hby bd2_29_2) (pc' := 31) (Ls' := #[.val (.ref a1), .val (.ref a2), .val (.ref a3), .val (.int p4), .unset, .unset]) (st' := [(.int p4), (.ref a1)]) rfl ?_
    refine st27 _ ?_
    show Steps p.tables e below (T27.setTop (mkF m 34 #[.val (.ref a1), .val (.ref a2), .val (.ref a3), .val (.int p4), .unset, .unset] [])) _
    refine own_blk X27 hx bl2_34_2 (own_hb hby bd2_34_2) (pc' := 37) (Ls' := #[.val (.ref a1), .val (.ref a2), .val (.ref a3), .val (.int p4), .val (.int (0 : Int32)), .unset]) (st' := []) rfl ?_
    refine own_blk X27 hx bl2_37_2 (own_hb hby bd2_37_2) (pc' := 40) (Ls' := #[.val (.ref a1), .val (.ref a2), .val (.ref a3), .val (.int p4), .val (.int (0 : Int32)), .val (.int (0 : Int32))]) (st' := []) rfl ?_
    refine own_blk X27 hx bl2_40_2 (own_hb hby bd2_40_2) (pc' := 43) (Ls' := #[.val (.ref a1), .val (.ref a2), .val (.ref a3), .val (.int p4), .val (.int (0 : Int32)), .val (.int (0 : Int32))]) (st' := [(.int p4), (.int (0 : Int32))]) rfl ?_
    exact kt
  by_cases hc31 : (0 : Int32) < p4
  · have fa32 : Arv Z h27 a3 k_a3 .char (4 : Int32) [(.int c0), (.int c1), (.int c2), (.int c3)] (.int (0 : Int32)) := ((((((V_a3.other W2 (Ne.symm ne_a1_a3)).other W7 (Ne.symm ne_a1_a3)).other W12 (Ne.symm ne_a1_a3)).other W17 (Ne.symm ne_a1_a3)).other W22 (Ne.symm ne_a1_a3)).other W27 (Ne.symm ne_a1_a3))
    obtain ⟨cx33, Ar33, qq33, S33, N33_, H33, G33⟩ := id fa32
    have hin33 : ¬ ((0 : Int32) < 0 ∨ cx33.slots.size ≤ ((0 : Int32)).toNatClampNeg) := inb_of S33 ⟨by decide, by decide⟩
    have hat33 : cx33.slots[((0 : Int32)).toNatClampNeg]? = some (.int c0) := (H33 ((0 : Int32)).toNatClampNeg (Nat.lt_of_not_le fun w => hin33 (Or.inr w))).trans (congrArg some (rfl))
    obtain ⟨_, T34, Lc34, X34, hQ34, st34⟩ := own_callS X27 hx hZ (y := (⟨"java/lang/Character", "isSurrogate", "(C)Z"⟩ : MethodName)) hown (hw _ (List.mem_of_getElem? (i := 35) rfl)) (hw _ (List.mem_of_getElem? (i := 36) rfl)) (hw _ (List.mem_of_getElem? (i := 37) rfl)) (hw _ (List.mem_of_getElem? (i := 38) rfl)) (by decide) (W := 0) (argsL := [(.int c0)]) (rest := []) (rm4 l Z a0 hw [] c0 h27 n0 zs28 hc0) (by decide) (by decide) (c' := 0) (s' := 0) rfl rfl (by decide) (by decide) e27 (g := (mkF m 55 #[.val (.ref a1), .val (.ref a2), .val (.ref a3), .val (.int p4), .val (.int (0 : Int32)), .val (.int (0 : Int32))] [(.int c0)])) rfl (by rw [hml]; rfl) (lenOf pd_2_3 rfl) rfl (by show 2 * 0 + _ ≤ _; exact Nat.le_of_eq rfl) (hb hby d2_55)
    obtain ⟨hv34, N34q, e34⟩ := hQ34
    have N34 := Fr.app N27 N34q
    rw [f4] at hv34
    subst hv34
    have pre35 : ∀ t, Steps p.tables e below (T34.setTop (mkF m 43 #[.val (.ref a1), .val (.ref a2), .val (.ref a3), .val (.int p4), .val (.int (0 : Int32)), .val (.int (1 : Int32))] [(.int p4), (.int (1 : Int32))])) t → Steps p.tables e below (s₁.setTop (entryFrame m #[(.ref a1), (.ref a2), (.ref a3), (.int p4)] 6)) t := fun t kt => by
      refine pre30 _ ?_
      show Steps p.tables e below (T27.setTop (mkF m 43 #[.val (.ref a1), .val (.ref a2), .val (.ref a3), .val (.int p4), .val (.int (0 : Int32)), .val (.int (0 : Int32))] [(.int p4), (.int (0 : Int32))])) _
      refine XS.icmpNo X27.here hx rfl (hb hby d2_43) rfl (tlt hc31).2.1 ?_
      show Steps p.tables e below (T27.setTop (mkF m 46 #[.val (.ref a1), .val (.ref a2), .val (.ref a3), .val (.int p4), .val (.int (0 : Int32)), .val (.int (0 : Int32))] [])) _
      refine own_blk X27 hx bl2_46_1 (own_hb hby bd2_46_1) (pc' := 48) (Ls' := #[.val (.ref a1), .val (.ref a2), .val (.ref a3), .val (.int p4), .val (.int (0 : Int32)), .val (.int (0 : Int32))]) (st' := [(.int (0 : Int32))]) rfl ?_
      refine XS.ifNo X27.here hx rfl (hb hby d2_48) rfl ((if0 _ _).trans (teq (by decide : (0 : Int32) = (0 : Int32))).2) ?_
      show Steps p.tables e below (T27.setTop (mkF m 51 #[.val (.ref a1), .val (.ref a2), .val (.ref a3), .val (.int p4), .val (.int (0 : Int32)), .val (.int (0 : Int32))] [])) _
      refine own_blk X27 hx bl2_51_2 (own_hb hby bd2_51_2) (pc' := 54) (Ls' := #[.val (.ref a1), .val (.ref a2), .val (.ref a3), .val (.int p4), .val (.int (0 : Int32)), .val (.int (0 : Int32))]) (st' := [(.int (0 : Int32)), (.ref a3)]) rfl ?_
      refine X27.caload hx (j := (0 : Int32)) (v := (.int c0)) (by rw [e27]; exact Ar33.1) (State.isArrayOf_alike hZ.alike Ar33.2.1) Ar33.2.2 hin33 hat33 (g := (mkF m 54 #[.val (.ref a1), .val (.ref a2), .val (.ref a3), .val (.int p4), .val (.int (0 : Int32)), .val (.int (0 : Int32))] [(.int (0 : Int32)), (.ref a3)])) rfl rfl (hb hby d2_54) _ ?_
      show Steps p.tables e below (T27.setTop (mkF m 55 #[.val (.ref a1), .val (.ref a2), .val (.ref a3), .val (.int p4), .val (.int (0 : Int32)), .val (.int (0 : Int32))] [(.int c0)])) _
      refine st34 _ ?_
      show Steps p.tables e below (T34.setTop (mkF m 58 #[.val (.ref a1), .val (.ref a2), .val (.ref a3), .val (.int p4), .val (.int (0 : Int32)), .val (.int (0 : Int32))] [(.int (0 : Int32))])) _
      refine own_blk X34 hx bl2_58_1 (own_hb hby bd2_58_1) (pc' := 60) (Ls' := #[.val (.ref a1), .val (.ref a2), .val (.ref a3), .val (.int p4), .val (.int (0 : Int32)), .val (.int (0 : Int32))]) (st' := []) rfl ?_
      refine own_blk X34 hx bl2_60_1 (own_hb hby bd2_60_1) (pc' := 63) (Ls' := #[.val (.ref a1), .val (.ref a2), .val (.ref a3), .val (.int p4), .val (.int (0 : Int32)), .val (.int (1 : Int32))]) (st' := []) rfl ?_
      refine own_blk X34 hx bl2_63_3 (own_hb hby bd2_63_3) (pc' := 43) (Ls' := #[.val (.ref a1), .val (.ref a2), .val (.ref a3), .val (.int p4), .val (.int (0 : Int32)), .val (.int (1 : Int32))]) (st' := [(.int p4), (.int (1 : Int32))]) rfl ?_
      exact kt
    by_cases hc36 : (1 : Int32) < p4
    · obtain ⟨cx37, Ar37, qq37, S37, N37_, H37, G37⟩ := id fa32
      have hin37 : ¬ ((1 : Int32) < 0 ∨ cx37.slots.size ≤ ((1 : Int32)).toNatClampNeg) := inb_of S37 ⟨by decide, by decide⟩
      have hat37 : cx37.slots[((1 : Int32)).toNatClampNeg]? = some (.int c1) := (H37 ((1 : Int32)).toNatClampNeg (Nat.lt_of_not_le fun w => hin37 (Or.inr w))).trans (congrArg some (rfl))
      obtain ⟨_, T38, Lc38, X38, hQ38, st38⟩ := own_callS X34 hx hZ (y := (⟨"java/lang/Character", "isSurrogate", "(C)Z"⟩ : MethodName)) hown (hw _ (List.mem_of_getElem? (i := 35) rfl)) (hw _ (List.mem_of_getElem? (i := 36) rfl)) (hw _ (List.mem_of_getElem? (i := 37) rfl)) (hw _ (List.mem_of_getElem? (i := 38) rfl)) (by decide) (W := 0) (argsL := [(.int c1)]) (rest := []) (rm4 l Z a0 hw [] c1 h27 n0 zs28 hc1) (by decide) (by decide) (c' := 0) (s' := 0) rfl rfl (by decide) (by decide) e34 (g := (mkF m 55 #[.val (.ref a1), .val (.ref a2), .val (.ref a3), .val (.int p4), .val (.int (0 : Int32)), .val (.int (1 : Int32))] [(.int c1)])) rfl (by rw [hml]; rfl) (lenOf pd_2_3 rfl) rfl (by show 2 * 0 + _ ≤ _; exact Nat.le_of_eq rfl) (hb hby d2_55)
      obtain ⟨hv38, N38q, e38⟩ := hQ38
      have N38 := Fr.app N34 N38q
      rw [f4] at hv38
      subst hv38
      have pre39 : ∀ t, Steps p.tables e below (T38.setTop (mkF m 43 #[.val (.ref a1), .val (.ref a2), .val (.ref a3), .val (.int p4), .val (.int (0 : Int32)), .val (.int (2 : Int32))] [(.int p4), (.int (2 : Int32))])) t → Steps p.tables e below (s₁.setTop (entryFrame m #[(.ref a1), (.ref a2), (.ref a3), (.int p4)] 6)) t := fun t kt => by
        refine pre35 _ ?_
        show Steps p.tables e below (T34.setTop (mkF m 43 #[.val (.ref a1), .val (.ref a2), .val (.ref a3), .val (.int p4), .val (.int (0 : Int32)), .val (.int (1 : Int32))] [(.int p4), (.int (1 : Int32))])) _
        refine XS.icmpNo X34.here hx rfl (hb hby d2_43) rfl (tlt hc36).2.1 ?_
        show Steps p.tables e below (T34.setTop (mkF m 46 #[.val (.ref a1), .val (.ref a2), .val (.ref a3), .val (.int p4), .val (.int (0 : Int32)), .val (.int (1 : Int32))] [])) _
        refine own_blk X34 hx bl2_46_1 (own_hb hby bd2_46_1) (pc' := 48) (Ls' := #[.val (.ref a1), .val (.ref a2), .val (.ref a3), .val (.int p4), .val (.int (0 : Int32)), .val (.int (1 : Int32))]) (st' := [(.int (0 : Int32))]) rfl ?_
        refine XS.ifNo X34.here hx rfl (hb hby d2_48) rfl ((if0 _ _).trans (teq (by decide : (0 : Int32) = (0 : Int32))).2) ?_
        show Steps p.tables e below (T34.setTop (mkF m 51 #[.val (.ref a1), .val (.ref a2), .val (.ref a3), .val (.int p4), .val (.int (0 : Int32)), .val (.int (1 : Int32))] [])) _
        refine own_blk X34 hx bl2_51_2 (own_hb hby bd2_51_2) (pc' := 54) (Ls' := #[.val (.ref a1), .val (.ref a2), .val (.ref a3), .val (.int p4), .val (.int (0 : Int32)), .val (.int (1 : Int32))]) (st' := [(.int (1 : Int32)), (.ref a3)]) rfl ?_
        refine X34.caload hx (j := (1 : Int32)) (v := (.int c1)) (by rw [e34]; exact Ar37.1) (State.isArrayOf_alike hZ.alike Ar37.2.1) Ar37.2.2 hin37 hat37 (g := (mkF m 54 #[.val (.ref a1), .val (.ref a2), .val (.ref a3), .val (.int p4), .val (.int (0 : Int32)), .val (.int (1 : Int32))] [(.int (1 : Int32)), (.ref a3)])) rfl rfl (hb hby d2_54) _ ?_
        show Steps p.tables e below (T34.setTop (mkF m 55 #[.val (.ref a1), .val (.ref a2), .val (.ref a3), .val (.int p4), .val (.int (0 : Int32)), .val (.int (1 : Int32))] [(.int c1)])) _
        refine st38 _ ?_
        show Steps p.tables e below (T38.setTop (mkF m 58 #[.val (.ref a1), .val (.ref a2), .val (.ref a3), .val (.int p4), .val (.int (0 : Int32)), .val (.int (1 : Int32))] [(.int (0 : Int32))])) _
        refine own_blk X38 hx bl2_58_1 (own_hb hby bd2_58_1) (pc' := 60) (Ls' := #[.val (.ref a1), .val (.ref a2), .val (.ref a3), .val (.int p4), .val (.int (0 : Int32)), .val (.int (1 : Int32))]) (st' := []) rfl ?_
        refine own_blk X38 hx bl2_60_1 (own_hb hby bd2_60_1) (pc' := 63) (Ls' := #[.val (.ref a1), .val (.ref a2), .val (.ref a3), .val (.int p4), .val (.int (0 : Int32)), .val (.int (2 : Int32))]) (st' := []) rfl ?_
        refine own_blk X38 hx bl2_63_3 (own_hb hby bd2_63_3) (pc' := 43) (Ls' := #[.val (.ref a1), .val (.ref a2), .val (.ref a3), .val (.int p4), .val (.int (0 : Int32)), .val (.int (2 : Int32))]) (st' := [(.int p4), (.int (2 : Int32))]) rfl ?_
        exact kt
      by_cases hc40 : (2 : Int32) < p4
      · obtain ⟨cx41, Ar41, qq41, S41, N41_, H41, G41⟩ := id fa32
        have hin41 : ¬ ((2 : Int32) < 0 ∨ cx41.slots.size ≤ ((2 : Int32)).toNatClampNeg) := inb_of S41 ⟨by decide, by decide⟩
        have hat41 : cx41.slots[((2 : Int32)).toNatClampNeg]? = some (.int c2) := (H41 ((2 : Int32)).toNatClampNeg (Nat.lt_of_not_le fun w => hin41 (Or.inr w))).trans (congrArg some (rfl))
        obtain ⟨_, T42, Lc42, X42, hQ42, st42⟩ := own_callS X38 hx hZ (y := (⟨"java/lang/Character", "isSurrogate", "(C)Z"⟩ : MethodName)) hown (hw _ (List.mem_of_getElem? (i := 35) rfl)) (hw _ (List.mem_of_getElem? (i := 36) rfl)) (hw _ (List.mem_of_getElem? (i := 37) rfl)) (hw _ (List.mem_of_getElem? (i := 38) rfl)) (by decide) (W := 0) (argsL := [(.int c2)]) (rest := []) (rm4 l Z a0 hw [] c2 h27 n0 zs28 hc2) (by decide) (by decide) (c' := 0) (s' := 0) rfl rfl (by decide) (by decide) e38 (g := (mkF m 55 #[.val (.ref a1), .val (.ref a2), .val (.ref a3), .val (.int p4), .val (.int (0 : Int32)), .val (.int (2 : Int32))] [(.int c2)])) rfl (by rw [hml]; rfl) (lenOf pd_2_3 rfl) rfl (by show 2 * 0 + _ ≤ _; exact Nat.le_of_eq rfl) (hb hby d2_55)
        obtain ⟨hv42, N42q, e42⟩ := hQ42
        have N42 := Fr.app N38 N42q
        rw [f4] at hv42
        subst hv42
        have pre43 : ∀ t, Steps p.tables e below (T42.setTop (mkF m 43 #[.val (.ref a1), .val (.ref a2), .val (.ref a3), .val (.int p4), .val (.int (0 : Int32)), .val (.int (3 : Int32))] [(.int p4), (.int (3 : Int32))])) t → Steps p.tables e below (s₁.setTop (entryFrame m #[(.ref a1), (.ref a2), (.ref a3), (.int p4)] 6)) t := fun t kt => by
          refine pre39 _ ?_
          show Steps p.tables e below (T38.setTop (mkF m 43 #[.val (.ref a1), .val (.ref a2), .val (.ref a3), .val (.int p4), .val (.int (0 : Int32)), .val (.int (2 : Int32))] [(.int p4), (.int (2 : Int32))])) _
          refine XS.icmpNo X38.here hx rfl (hb hby d2_43) rfl (tlt hc40).2.1 ?_
          show Steps p.tables e below (T38.setTop (mkF m 46 #[.val (.ref a1), .val (.ref a2), .val (.ref a3), .val (.int p4), .val (.int (0 : Int32)), .val (.int (2 : Int32))] [])) _
          refine own_blk X38 hx bl2_46_1 (own_hb hby bd2_46_1) (pc' := 48) (Ls' := #[.val (.ref a1), .val (.ref a2), .val (.ref a3), .val (.int p4), .val (.int (0 : Int32)), .val (.int (2 : Int32))]) (st' := [(.int (0 : Int32))]) rfl ?_
          refine XS.ifNo X38.here hx rfl (hb hby d2_48) rfl ((if0 _ _).trans (teq (by decide : (0 : Int32) = (0 : Int32))).2) ?_
          show Steps p.tables e below (T38.setTop (mkF m 51 #[.val (.ref a1), .val (.ref a2), .val (.ref a3), .val (.int p4), .val (.int (0 : Int32)), .val (.int (2 : Int32))] [])) _
          refine own_blk X38 hx bl2_51_2 (own_hb hby bd2_51_2) (pc' := 54) (Ls' := #[.val (.ref a1), .val (.ref a2), .val (.ref a3), .val (.int p4), .val (.int (0 : Int32)), .val (.int (2 : Int32))]) (st' := [(.int (2 : Int32)), (.ref a3)]) rfl ?_
          refine X38.caload hx (j := (2 : Int32)) (v := (.int c2)) (by rw [e38]; exact Ar41.1) (State.isArrayOf_alike hZ.alike Ar41.2.1) Ar41.2.2 hin41 hat41 (g := (mkF m 54 #[.val (.ref a1), .val (.ref a2), .val (.ref a3), .val (.int p4), .val (.int (0 : Int32)), .val (.int (2 : Int32))] [(.int (2 : Int32)), (.ref a3)])) rfl rfl (hb hby d2_54) _ ?_
          show Steps p.tables e below (T38.setTop (mkF m 55 #[.val (.ref a1), .val (.ref a2), .val (.ref a3), .val (.int p4), .val (.int (0 : Int32)), .val (.int (2 : Int32))] [(.int c2)])) _
          refine st42 _ ?_
          show Steps p.tables e below (T42.setTop (mkF m 58 #[.val (.ref a1), .val (.ref a2), .val (.ref a3), .val (.int p4), .val (.int (0 : Int32)), .val (.int (2 : Int32))] [(.int (0 : Int32))])) _
          refine own_blk X42 hx bl2_58_1 (own_hb hby bd2_58_1) (pc' := 60) (Ls' := #[.val (.ref a1), .val (.ref a2), .val (.ref a3), .val (.int p4), .val (.int (0 : Int32)), .val (.int (2 : Int32))]) (st' := []) rfl ?_
          refine own_blk X42 hx bl2_60_1 (own_hb hby bd2_60_1) (pc' := 63) (Ls' := #[.val (.ref a1), .val (.ref a2), .val (.ref a3), .val (.int p4), .val (.int (0 : Int32)), .val (.int (3 : Int32))]) (st' := []) rfl ?_
          refine own_blk X42 hx bl2_63_3 (own_hb hby bd2_63_3) (pc' := 43) (Ls' := #[.val (.ref a1), .val (.ref a2), .val (.ref a3), .val (.int p4), .val (.int (0 : Int32)), .val (.int (3 : Int32))]) (st' := [(.int p4), (.int (3 : Int32))]) rfl ?_
          exact kt
        by_cases hc44 : (3 : Int32) < p4
        · obtain ⟨cx45, Ar45, qq45, S45, N45_, H45, G45⟩ := id fa32
          have hin45 : ¬ ((3 : Int32) < 0 ∨ cx45.slots.size ≤ ((3 : Int32)).toNatClampNeg) := inb_of S45 ⟨by decide, by decide⟩
          have hat45 : cx45.slots[((3 : Int32)).toNatClampNeg]? = some (.int c3) := (H45 ((3 : Int32)).toNatClampNeg (Nat.lt_of_not_le fun w => hin45 (Or.inr w))).trans (congrArg some (rfl))
          obtain ⟨_, T46, Lc46, X46, hQ46, st46⟩ := own_callS X42 hx hZ (y := (⟨"java/lang/Character", "isSurrogate", "(C)Z"⟩ : MethodName)) hown (hw _ (List.mem_of_getElem? (i := 35) rfl)) (hw _ (List.mem_of_getElem? (i := 36) rfl)) (hw _ (List.mem_of_getElem? (i := 37) rfl)) (hw _ (List.mem_of_getElem? (i := 38) rfl)) (by decide) (W := 0) (argsL := [(.int c3)]) (rest := []) (rm4 l Z a0 hw [] c3 h27 n0 zs28 hc3) (by decide) (by decide) (c' := 0) (s' := 0) rfl rfl (by decide) (by decide) e42 (g := (mkF m 55 #[.val (.ref a1), .val (.ref a2), .val (.ref a3), .val (.int p4), .val (.int (0 : Int32)), .val (.int (3 : Int32))] [(.int c3)])) rfl (by rw [hml]; rfl) (lenOf pd_2_3 rfl) rfl (by show 2 * 0 + _ ≤ _; exact Nat.le_of_eq rfl) (hb hby d2_55)
          obtain ⟨hv46, N46q, e46⟩ := hQ46
          have N46 := Fr.app N42 N46q
          rw [f4] at hv46
          subst hv46
          have fa47 : Fld Z h27 a1 "com/example/endcon/endcon/yaml/Cursor" "hasSurrogates" "Z" (.int (0 : Int32)) := ((((((F_a1_hasSurrogates.other W2 (Or.inr (slot_ne (Or.inr (hw _ (List.mem_of_getElem? (i := 41) rfl))) (Or.inl (hw _ (List.mem_of_getElem? (i := 24) rfl))) (by decide) (t := .boolean) (t' := .int) (by decide) (by decide)))).other W7 (Or.inr (slot_ne (Or.inr (hw _ (List.mem_of_getElem? (i := 41) rfl))) (Or.inl (hw _ (List.mem_of_getElem? (i := 26) rfl))) (by decide) (t := .boolean) (t' := .int) (by decide) (by decide)))).other W12 (Or.inr (slot_ne (Or.inr (hw _ (List.mem_of_getElem? (i := 41) rfl))) (Or.inl (hw _ (List.mem_of_getElem? (i := 28) rfl))) (by decide) (t := .boolean) (t' := .int) (by decide) (by decide)))).other W17 (Or.inr (slot_ne (Or.inr (hw _ (List.mem_of_getElem? (i := 41) rfl))) (Or.inr (hw _ (List.mem_of_getElem? (i := 30) rfl))) (by decide) (t := .boolean) (t' := (.object "java/lang/String")) (by decide) (by decide)))).other W22 (Or.inr (slot_ne (Or.inr (hw _ (List.mem_of_getElem? (i := 41) rfl))) (Or.inl (hw _ (List.mem_of_getElem? (i := 32) rfl))) (by decide) (t := .boolean) (t' := (.array .char)) (by decide) (by decide)))).other W27 (Or.inr (slot_ne (Or.inr (hw _ (List.mem_of_getElem? (i := 41) rfl))) (Or.inr (hw _ (List.mem_of_getElem? (i := 34) rfl))) (by decide) (t := .boolean) (t' := .int) (by decide) (by decide))))
          have fa48 : Exa Z h27 a1 "com/example/endcon/endcon/yaml/Cursor" := (fa26.wr W27)
          obtain ⟨T49, h49, X49, e49, W49, st49⟩ := putFN X46 hx hZ hown (hw _ (List.mem_of_getElem? (i := 40) rfl)) Via.refl e46 fa47 fa48 (Or.inr ⟨(hw _ (List.mem_of_getElem? (i := 41) rfl)), rfl, hnm⟩) (hw _ (List.mem_of_getElem? (i := 7) rfl)) (ty := .boolean) (v' := (.int (0 : Int32))) (by decide) rfl (by decide) (g := (mkF m 69 #[.val (.ref a1), .val (.ref a2), .val (.ref a3), .val (.int p4), .val (.int (0 : Int32)), .val (.int (4 : Int32))] [(.int (0 : Int32)), (.ref a1)])) rfl rfl (hb hby d2_69)
          have Fw49 : Fld Z h49 a1 "com/example/endcon/endcon/yaml/Cursor" "hasSurrogates" "Z" (.int (0 : Int32)) := fa47.same W49
          have zs50 : n0 ≤ h49.size := Nat.le_trans zs28 (Keep.of_wr W49).1
          have kp51 : Keep h0 h49 [a1] := kp29.wr W49 (Or.inl (List.mem_of_getElem? (i := 0) rfl))
          have N49 := Fr.snoc X49 N46 g_a1
          have fa52 : Arv Z h49 a3 k_a3 .char (4 : Int32) [(.int c0), (.int c1), (.int c2), (.int c3)] (.int (0 : Int32)) := (fa32.other W49 (Ne.symm ne_a1_a3))
          obtain ⟨cx53, Ar53, qq53, S53, N53_, H53, G53⟩ := id fa52
          have hin53 : ¬ ((0 : Int32) < 0 ∨ cx53.slots.size ≤ ((0 : Int32)).toNatClampNeg) := inb_of S53 ⟨by decide, by decide⟩
          have hat53 : cx53.slots[((0 : Int32)).toNatClampNeg]? = some (.int c0) := (H53 ((0 : Int32)).toNatClampNeg (Nat.lt_of_not_le fun w => hin53 (Or.inr w))).trans (congrArg some (rfl))
          obtain ⟨fs, hr, hrun, hended, hW, hsame⟩ := X49.leave (v := none) (fun _ => rfl)
          refine ⟨_, _, pre43 _ ?_, hrun, hended, _, _, rfl, ?_, ⟨_, rfl⟩, hW, hsame.mono (by decide) (by decide)⟩
          · show Steps p.tables e below (T42.setTop (mkF m 43 #[.val (.ref a1), .val (.ref a2), .val (.ref a3), .val (.int p4), .val (.int (0 : Int32)), .val (.int (3 : Int32))] [(.int p4), (.int (3 : Int32))])) _
            refine XS.icmpNo X42.here hx rfl (hb hby d2_43) rfl (tlt hc44).2.1 ?_
            show Steps p.tables e below (T42.setTop (mkF m 46 #[.val (.ref a1), .val (.ref a2), .val (.ref a3), .val (.int p4), .val (.int (0 : Int32)), .val (.int (3 : Int32))] [])) _
            refine own_blk X42 hx bl2_46_1 (own_hb hby bd2_46_1) (pc' := 48) (Ls' := #[.val (.ref a1), .val (.ref a2), .val (.ref a3), .val (.int p4), .val (.int (0 : Int32)), .val (.int (3 : Int32))]) (st' := [(.int (0 : Int32))]) rfl ?_
            refine XS.ifNo X42.here hx rfl (hb hby d2_48) rfl ((if0 _ _).trans (teq (by decide : (0 : Int32) = (0 : Int32))).2) ?_
            show Steps p.tables e below (T42.setTop (mkF m 51 #[.val (.ref a1), .val (.ref a2), .val (.ref a3), .val (.int p4), .val (.int (0 : Int32)), .val (.int (3 : Int32))] [])) _
            refine own_blk X42 hx bl2_51_2 (own_hb hby bd2_51_2) (pc' := 54) (Ls' := #[.val (.ref a1), .val (.ref a2), .val (.ref a3), .val (.int p4), .val (.int (0 : Int32)), .val (.int (3 : Int32))]) (st' := [(.int (3 : Int32)), (.ref a3)]) rfl ?_
            refine X42.caload hx (j := (3 : Int32)) (v := (.int c3)) (by rw [e42]; exact Ar45.1) (State.isArrayOf_alike hZ.alike Ar45.2.1) Ar45.2.2 hin45 hat45 (g := (mkF m 54 #[.val (.ref a1), .val (.ref a2), .val (.ref a3), .val (.int p4), .val (.int (0 : Int32)), .val (.int (3 : Int32))] [(.int (3 : Int32)), (.ref a3)])) rfl rfl (hb hby d2_54) _ ?_
            show Steps p.tables e below (T42.setTop (mkF m 55 #[.val (.ref a1), .val (.ref a2), .val (.ref a3), .val (.int p4), .val (.int (0 : Int32)), .val (.int (3 : Int32))] [(.int c3)])) _
            refine st46 _ ?_
            show Steps p.tables e below (T46.setTop (mkF m 58 #[.val (.ref a1), .val (.ref a2), .val (.ref a3), .val (.int p4), .val (.int (0 : Int32)), .val (.int (3 : Int32))] [(.int (0 : Int32))])) _
            refine own_blk X46 hx bl2_58_1 (own_hb hby bd2_58_1) (pc' := 60) (Ls' := #[.val (.ref a1), .val (.ref a2), .val (.ref a3), .val (.int p4), .val (.int (0 : Int32)), .val (.int (3 : Int32))]) (st' := []) rfl ?_
            refine own_blk X46 hx bl2_60_1 (own_hb hby bd2_60_1) (pc' := 63) (Ls' := #[.val (.ref a1), .val (.ref a2), .val (.ref a3), .val (.int p4), .val (.int (0 : Int32)), .val (.int (4 : Int32))]) (st' := []) rfl ?_
            refine own_blk X46 hx bl2_63_3 (own_hb hby bd2_63_3) (pc' := 43) (Ls' := #[.val (.ref a1), .val (.ref a2), .val (.ref a3), .val (.int p4), .val (.int (0 : Int32)), .val (.int (4 : Int32))]) (st' := [(.int p4), (.int (4 : Int32))]) rfl ?_
            refine XS.icmpYes X46.here hx rfl (pc0 := 43) (pc' := 66) rfl (hb hby d2_43) rfl (flt hn4).2.1 (by decide) (by decide) ?_
            show Steps p.tables e below (T46.setTop (mkF m 66 #[.val (.ref a1), .val (.ref a2), .val (.ref a3), .val (.int p4), .val (.int (0 : Int32)), .val (.int (4 : Int32))] [])) _
            refine own_blk X46 hx bl2_66_2 (own_hb hby bd2_66_2) (pc' := 69) (Ls' := #[.val (.ref a1), .val (.ref a2), .val (.ref a3), .val (.int p4), .val (.int (0 : Int32)), .val (.int (4 : Int32))]) (st' := [(.int (0 : Int32)), (.ref a1)]) rfl ?_
            refine st49 _ ?_
            show Steps p.tables e below (T49.setTop (mkF m 72 #[.val (.ref a1), .val (.ref a2), .val (.ref a3), .val (.int p4), .val (.int (0 : Int32)), .val (.int (4 : Int32))] [])) _
            refine own_blk X49 hx bl2_72_1 (own_hb hby bd2_72_1) (pc' := 73) (Ls' := #[.val (.ref a1), .val (.ref a2), .val (.ref a3), .val (.int p4), .val (.int (0 : Int32)), .val (.int (4 : Int32))]) (st' := [(.int p4)]) rfl ?_
            refine XS.ifNo X49.here hx rfl (hb hby d2_73) rfl ((if0 _ _).trans (tlt hc31).2.2.2) ?_
            show Steps p.tables e below (T49.setTop (mkF m 76 #[.val (.ref a1), .val (.ref a2), .val (.ref a3), .val (.int p4), .val (.int (0 : Int32)), .val (.int (4 : Int32))] [])) _
            refine own_blk X49 hx bl2_76_2 (own_hb hby bd2_76_2) (pc' := 78) (Ls' := #[.val (.ref a1), .val (.ref a2), .val (.ref a3), .val (.int p4), .val (.int (0 : Int32)), .val (.int (4 : Int32))]) (st' := [(.int (0 : Int32)), (.ref a3)]) rfl ?_
            refine X49.caload hx (j := (0 : Int32)) (v := (.int c0)) (by rw [e49]; exact Ar53.1) (State.isArrayOf_alike hZ.alike Ar53.2.1) Ar53.2.2 hin53 hat53 (g := (mkF m 78 #[.val (.ref a1), .val (.ref a2), .val (.ref a3), .val (.int p4), .val (.int (0 : Int32)), .val (.int (4 : Int32))] [(.int (0 : Int32)), (.ref a3)])) rfl rfl (hb hby d2_78) _ ?_
            show Steps p.tables e below (T49.setTop (mkF m 79 #[.val (.ref a1), .val (.ref a2), .val (.ref a3), .val (.int p4), .val (.int (0 : Int32)), .val (.int (4 : Int32))] [(.int c0)])) _
            refine X49.ldcInt hx hown (mvT hZ (hw _ (List.mem_of_getElem? (i := 42) rfl))) (g := (mkF m 79 #[.val (.ref a1), .val (.ref a2), .val (.ref a3), .val (.int p4), .val (.int (0 : Int32)), .val (.int (4 : Int32))] [(.int c0)])) rfl (hb hby d2_79) _ ?_
            show Steps p.tables e below (T49.setTop (mkF m 81 #[.val (.ref a1), .val (.ref a2), .val (.ref a3), .val (.int p4), .val (.int (0 : Int32)), .val (.int (4 : Int32))] [(.int (65279 : Int32)), (.int c0)])) _
            refine XS.icmpYes X49.here hx rfl (pc0 := 81) (pc' := 94) rfl (hb hby d2_81) rfl (feq (own_bom hc0)).2 (by decide) (by decide) ?_
            show Steps p.tables e below (T49.setTop (mkF m 94 #[.val (.ref a1), .val (.ref a2), .val (.ref a3), .val (.int p4), .val (.int (0 : Int32)), .val (.int (4 : Int32))] [])) _
            exact X49.returnOut hx Bd.returns (hb hby d2_94) hr
          · show Q2 Z a1 a2 a3 p4 c0 c1 c2 c3 k_a3 h0 n0 _ T49.heap _
            rw [e49]
            have fa54 : Exa Z h49 a1 "com/example/endcon/endcon/yaml/Cursor" := (fa48.wr W49)
            have fa55 : Fld Z h49 a1 "com/example/endcon/endcon/yaml/Cursor" "line" "I" (.int (1 : Int32)) := ((((((Fw2.other W7 (Or.inr (slot_ne (Or.inl (hw _ (List.mem_of_getElem? (i := 24) rfl))) (Or.inl (hw _ (List.mem_of_getElem? (i := 26) rfl))) (by decide) (t := .int) (t' := .int) (by decide) (by decide)))).other W12 (Or.inr (slot_ne (Or.inl (hw _ (List.mem_of_getElem? (i := 24) rfl))) (Or.inl (hw _ (List.mem_of_getElem? (i := 28) rfl))) (by decide) (t := .int) (t' := .int) (by decide) (by decide)))).other W17 (Or.inr (slot_ne (Or.inl (hw _ (List.mem_of_getElem? (i := 24) rfl))) (Or.inr (hw _ (List.mem_of_getElem? (i := 30) rfl))) (by decide) (t := .int) (t' := (.object "java/lang/String")) (by decide) (by decide)))).other W22 (Or.inr (slot_ne (Or.inl (hw _ (List.mem_of_getElem? (i := 24) rfl))) (Or.inl (hw _ (List.mem_of_getElem? (i := 32) rfl))) (by decide) (t := .int) (t' := (.array .char)) (by decide) (by decide)))).other W27 (Or.inr (slot_ne (Or.inl (hw _ (List.mem_of_getElem? (i := 24) rfl))) (Or.inr (hw _ (List.mem_of_getElem? (i := 34) rfl))) (by decide) (t := .int) (t' := .int) (by decide) (by decide)))).other W49 (Or.inr (slot_ne (Or.inl (hw _ (List.mem_of_getElem? (i := 24) rfl))) (Or.inr (hw _ (List.mem_of_getElem? (i := 41) rfl))) (by decide) (t := .int) (t' := .boolean) (by decide) (by decide))))
            have lf56 := fa55
            have fa57 : Fld Z h49 a1 "com/example/endcon/endcon/yaml/Cursor" "blankLinesFrom" "I" (.int (-1 : Int32)) := (((((Fw7.other W12 (Or.inr (slot_ne (Or.inl (hw _ (List.mem_of_getElem? (i := 26) rfl))) (Or.inl (hw _ (List.mem_of_getElem? (i := 28) rfl))) (by decide) (t := .int) (t' := .int) (by decide) (by decide)))).other W17 (Or.inr (slot_ne (Or.inl (hw _ (List.mem_of_getElem? (i := 26) rfl))) (Or.inr (hw _ (List.mem_of_getElem? (i := 30) rfl))) (by decide) (t := .int) (t' := (.object "java/lang/String")) (by decide) (by decide)))).other W22 (Or.inr (slot_ne (Or.inl (hw _ (List.mem_of_getElem? (i := 26) rfl))) (Or.inl (hw _ (List.mem_of_getElem? (i := 32) rfl))) (by decide) (t := .int) (t' := (.array .char)) (by decide) (by decide)))).other W27 (Or.inr (slot_ne (Or.inl (hw _ (List.mem_of_getElem? (i := 26) rfl))) (Or.inr (hw _ (List.mem_of_getElem? (i := 34) rfl))) (by decide) (t := .int) (t' := .int) (by decide) (by decide)))).other W49 (Or.inr (slot_ne (Or.inl (hw _ (List.mem_of_getElem? (i := 26) rfl))) (Or.inr (hw _ (List.mem_of_getElem? (i := 41) rfl))) (by decide) (t := .int) (t' := .boolean) (by decide) (by decide))))
            have lf58 := fa57
            have fa59 : Fld Z h49 a1 "com/example/endcon/endcon/yaml/Cursor" "countedIndex" "I" (.int (-1 : Int32)) := ((((Fw12.other W17 (Or.inr (slot_ne (Or.inl (hw _ (List.mem_of_getElem? (i := 28) rfl))) (Or.inr (hw _ (List.mem_of_getElem? (i := 30) rfl))) (by decide) (t := .int) (t' := (.object "java/lang/String")) (by decide) (by decide)))).other W22 (Or.inr (slot_ne (Or.inl (hw _ (List.mem_of_getElem? (i := 28) rfl))) (Or.inl (hw _ (List.mem_of_getElem? (i := 32) rfl))) (by decide) (t := .int) (t' := (.array .char)) (by decide) (by decide)))).other W27 (Or.inr (slot_ne (Or.inl (hw _ (List.mem_of_getElem? (i := 28) rfl))) (Or.inr (hw _ (List.mem_of_getElem? (i := 34) rfl))) (by decide) (t := .int) (t' := .int) (by decide) (by decide)))).other W49 (Or.inr (slot_ne (Or.inl (hw _ (List.mem_of_getElem? (i := 28) rfl))) (Or.inr (hw _ (List.mem_of_getElem? (i := 41) rfl))) (by decide) (t := .int) (t' := .boolean) (by decide) (by decide))))
            have lf60 := fa59
            have fa61 : Fld Z h49 a1 "com/example/endcon/endcon/yaml/Cursor" "file" "Ljava/lang/String;" (.ref a2) := (((Fw17.other W22 (Or.inr (slot_ne (Or.inr (hw _ (List.mem_of_getElem? (i := 30) rfl))) (Or.inl (hw _ (List.mem_of_getElem? (i := 32) rfl))) (by decide) (t := (.object "java/lang/String")) (t' := (.array .char)) (by decide) (by decide)))).other W27 (Or.inr (slot_ne (Or.inr (hw _ (List.mem_of_getElem? (i := 30) rfl))) (Or.inr (hw _ (List.mem_of_getElem? (i := 34) rfl))) (by decide) (t := (.object "java/lang/String")) (t' := .int) (by decide) (by decide)))).other W49 (Or.inr (slot_ne (Or.inr (hw _ (List.mem_of_getElem? (i := 30) rfl))) (Or.inr (hw _ (List.mem_of_getElem? (i := 41) rfl))) (by decide) (t := (.object "java/lang/String")) (t' := .boolean) (by decide) (by decide))))
            have lf62 := fa61
            have fa63 : Fld Z h49 a1 "com/example/endcon/endcon/yaml/Cursor" "text" "[C" (.ref a3) := ((Fw22.other W27 (Or.inr (slot_ne (Or.inl (hw _ (List.mem_of_getElem? (i := 32) rfl))) (Or.inr (hw _ (List.mem_of_getElem? (i := 34) rfl))) (by decide) (t := (.array .char)) (t' := .int) (by decide) (by decide)))).other W49 (Or.inr (slot_ne (Or.inl (hw _ (List.mem_of_getElem? (i := 32) rfl))) (Or.inr (hw _ (List.mem_of_getElem? (i := 41) rfl))) (by decide) (t := (.array .char)) (t' := .boolean) (by decide) (by decide))))
            have lf64 := fa63
            have fa65 : Fld Z h49 a1 "com/example/endcon/endcon/yaml/Cursor" "end" "I" (.int p4) := (Fw27.other W49 (Or.inr (slot_ne (Or.inr (hw _ (List.mem_of_getElem? (i := 34) rfl))) (Or.inr (hw _ (List.mem_of_getElem? (i := 41) rfl))) (by decide) (t := .int) (t' := .boolean) (by decide) (by decide))))
            have lf66 := fa65
            have lf67 := Fw49
            have fa68 : Fld Z h49 a1 "com/example/endcon/endcon/yaml/Cursor" "pos" "I" (.int (0 : Int32)) := (((((((F_a1_pos.other W2 (Or.inr (slot_ne (Or.inl (hw _ (List.mem_of_getElem? (i := 49) rfl))) (Or.inl (hw _ (List.mem_of_getElem? (i := 24) rfl))) (by decide) (t := .int) (t' := .int) (by decide) (by decide)))).other W7 (Or.inr (slot_ne (Or.inl (hw _ (List.mem_of_getElem? (i := 49) rfl))) (Or.inl (hw _ (List.mem_of_getElem? (i := 26) rfl))) (by decide) (t := .int) (t' := .int) (by decide) (by decide)))).other W12 (Or.inr (slot_ne (Or.inl (hw _ (List.mem_of_getElem? (i := 49) rfl))) (Or.inl (hw _ (List.mem_of_getElem? (i := 28) rfl))) (by decide) (t := .int) (t' := .int) (by decide) (by decide)))).other W17 (Or.inr (slot_ne (Or.inl (hw _ (List.mem_of_getElem? (i := 49) rfl))) (Or.inr (hw _ (List.mem_of_getElem? (i := 30) rfl))) (by decide) (t := .int) (t' := (.object "java/lang/String")) (by decide) (by decide)))).other W22 (Or.inr (slot_ne (Or.inl (hw _ (List.mem_of_getElem? (i := 49) rfl))) (Or.inl (hw _ (List.mem_of_getElem? (i := 32) rfl))) (by decide) (t := .int) (t' := (.array .char)) (by decide) (by decide)))).other W27 (Or.inr (slot_ne (Or.inl (hw _ (List.mem_of_getElem? (i := 49) rfl))) (Or.inr (hw _ (List.mem_of_getElem? (i := 34) rfl))) (by decide) (t := .int) (t' := .int) (by decide) (by decide)))).other W49 (Or.inr (slot_ne (Or.inl (hw _ (List.mem_of_getElem? (i := 49) rfl))) (Or.inr (hw _ (List.mem_of_getElem? (i := 41) rfl))) (by decide) (t := .int) (t' := .boolean) (by decide) (by decide))))
            have lf69 := fa68
            have fa70 : Fld Z h49 a1 "com/example/endcon/endcon/yaml/Cursor" "lineStart" "I" (.int (0 : Int32)) := (((((((F_a1_lineStart.other W2 (Or.inr (slot_ne (Or.inl (hw _ (List.mem_of_getElem? (i := 56) rfl))) (Or.inl (hw _ (List.mem_of_getElem? (i := 24) rfl))) (by decide) (t := .int) (t' := .int) (by decide) (by decide)))).other W7 (Or.inr (slot_ne (Or.inl (hw _ (List.mem_of_getElem? (i := 56) rfl))) (Or.inl (hw _ (List.mem_of_getElem? (i := 26) rfl))) (by decide) (t := .int) (t' := .int) (by decide) (by decide)))).other W12 (Or.inr (slot_ne (Or.inl (hw _ (List.mem_of_getElem? (i := 56) rfl))) (Or.inl (hw _ (List.mem_of_getElem? (i := 28) rfl))) (by decide) (t := .int) (t' := .int) (by decide) (by decide)))).other W17 (Or.inr (slot_ne (Or.inl (hw _ (List.mem_of_getElem? (i := 56) rfl))) (Or.inr (hw _ (List.mem_of_getElem? (i := 30) rfl))) (by decide) (t := .int) (t' := (.object "java/lang/String")) (by decide) (by decide)))).other W22 (Or.inr (slot_ne (Or.inl (hw _ (List.mem_of_getElem? (i := 56) rfl))) (Or.inl (hw _ (List.mem_of_getElem? (i := 32) rfl))) (by decide) (t := .int) (t' := (.array .char)) (by decide) (by decide)))).other W27 (Or.inr (slot_ne (Or.inl (hw _ (List.mem_of_getElem? (i := 56) rfl))) (Or.inr (hw _ (List.mem_of_getElem? (i := 34) rfl))) (by decide) (t := .int) (t' := .int) (by decide) (by decide)))).other W49 (Or.inr (slot_ne (Or.inl (hw _ (List.mem_of_getElem? (i := 56) rfl))) (Or.inr (hw _ (List.mem_of_getElem? (i := 41) rfl))) (by decide) (t := .int) (t' := .boolean) (by decide) (by decide))))
            have lf71 := fa70
            exact ⟨rfl, N49, kp51, fa54, lf56, lf58, lf60, lf62, lf64, lf66, lf67, lf69, lf71⟩
        · have fa72 : Fld Z h27 a1 "com/example/endcon/endcon/yaml/Cursor" "hasSurrogates" "Z" (.int (0 : Int32)) := ((((((F_a1_hasSurrogates.other W2 (Or.inr (slot_ne (Or.inr (hw _ (List.mem_of_getElem? (i := 41) rfl))) (Or.inl (hw _ (List.mem_of_getElem? (i := 24) rfl))) (by decide) (t := .boolean) (t' := .int) (by decide) (by decide)))).other W7 (Or.inr (slot_ne (Or.inr (hw _ (List.mem_of_getElem? (i := 41) rfl))) (Or.inl (hw _ (List.mem_of_getElem? (i := 26) rfl))) (by decide) (t := .boolean) (t' := .int) (by decide) (by decide)))).other W12 (Or.inr (slot_ne (Or.inr (hw _ (List.mem_of_getElem? (i := 41) rfl))) (Or.inl (hw _ (List.mem_of_getElem? (i := 28) rfl))) (by decide) (t := .boolean) (t' := .int) (by decide) (by decide)))).other W17 (Or.inr (slot_ne (Or.inr (hw _ (List.mem_of_getElem? (i := 41) rfl))) (Or.inr (hw _ (List.mem_of_getElem? (i := 30) rfl))) (by decide) (t := .boolean) (t' := (.object "java/lang/String")) (by decide) (by decide)))).other W22 (Or.inr (slot_ne (Or.inr (hw _ (List.mem_of_getElem? (i := 41) rfl))) (Or.inl (hw _ (List.mem_of_getElem? (i := 32) rfl))) (by decide) (t := .boolean) (t' := (.array .char)) (by decide) (by decide)))).other W27 (Or.inr (slot_ne (Or.inr (hw _ (List.mem_of_getElem? (i := 41) rfl))) (Or.inr (hw _ (List.mem_of_getElem? (i := 34) rfl))) (by decide) (t := .boolean) (t' := .int) (by decide) (by decide))))
          have fa73 : Exa Z h27 a1 "com/example/endcon/endcon/yaml/Cursor" := (fa26.wr W27)
          obtain ⟨T74, h74, X74, e74, W74, st74⟩ := putFN X42 hx hZ hown (hw _ (List.mem_of_getElem? (i := 40) rfl)) Via.refl e42 fa72 fa73 (Or.inr ⟨(hw _ (List.mem_of_getElem? (i := 41) rfl)), rfl, hnm⟩) (hw _ (List.mem_of_getElem? (i := 7) rfl)) (ty := .boolean) (v' := (.int (0 : Int32))) (by decide) rfl (by decide) (g := (mkF m 69 #[.val (.ref a1), .val (.ref a2), .val (.ref a3), .val (.int p4), .val (.int (0 : Int32)), .val (.int (3 : Int32))] [(.int (0 : Int32)), (.ref a1)])) rfl rfl (hb hby d2_69)
          have Fw74 : Fld Z h74 a1 "com/example/endcon/endcon/yaml/Cursor" "hasSurrogates" "Z" (.int (0 : Int32)) := fa72.same W74
          have zs75 : n0 ≤ h74.size := Nat.le_trans zs28 (Keep.of_wr W74).1
          have kp76 : Keep h0 h74 [a1] := kp29.wr W74 (Or.inl (List.mem_of_getElem? (i := 0) rfl))
          have N74 := Fr.snoc X74 N42 g_a1
          have fa77 : Arv Z h74 a3 k_a3 .char (4 : Int32) [(.int c0), (.int c1), (.int c2), (.int c3)] (.int (0 : Int32)) := (fa32.other W74 (Ne.symm ne_a1_a3))
          obtain ⟨cx78, Ar78, qq78, S78, N78_, H78, G78⟩ := id fa77
          have hin78 : ¬ ((0 : Int32) < 0 ∨ cx78.slots.size ≤ ((0 : Int32)).toNatClampNeg) := inb_of S78 ⟨by decide, by decide⟩
          have hat78 : cx78.slots[((0 : Int32)).toNatClampNeg]? = some (.int c0) := (H78 ((0 : Int32)).toNatClampNeg (Nat.lt_of_not_le fun w => hin78 (Or.inr w))).trans (congrArg some (rfl))
          obtain ⟨fs, hr, hrun, hended, hW, hsame⟩ := X74.leave (v := none) (fun _ => rfl)
          refine ⟨_, _, pre43 _ ?_, hrun, hended, _, _, rfl, ?_, ⟨_, rfl⟩, hW, hsame.mono (by decide) (by decide)⟩
          · show Steps p.tables e below (T42.setTop (mkF m 43 #[.val (.ref a1), .val (.ref a2), .val (.ref a3), .val (.int p4), .val (.int (0 : Int32)), .val (.int (3 : Int32))] [(.int p4), (.int (3 : Int32))])) _
            refine XS.icmpYes X42.here hx rfl (pc0 := 43) (pc' := 66) rfl (hb hby d2_43) rfl (flt hc44).2.1 (by decide) (by decide) ?_
            show Steps p.tables e below (T42.setTop (mkF m 66 #[.val (.ref a1), .val (.ref a2), .val (.ref a3), .val (.int p4), .val (.int (0 : Int32)), .val (.int (3 : Int32))] [])) _
            refine own_blk X42 hx bl2_66_2 (own_hb hby bd2_66_2) (pc' := 69) (Ls' := #[.val (.ref a1), .val (.ref a2), .val (.ref a3), .val (.int p4), .val (.int (0 : Int32)), .val (.int (3 : Int32))]) (st' := [(.int (0 : Int32)), (.ref a1)]) rfl ?_
            refine st74 _ ?_
            show Steps p.tables e below (T74.setTop (mkF m 72 #[.val (.ref a1), .val (.ref a2), .val (.ref a3), .val (.int p4), .val (.int (0 : Int32)), .val (.int (3 : Int32))] [])) _
            refine own_blk X74 hx bl2_72_1 (own_hb hby bd2_72_1) (pc' := 73) (Ls' := #[.val (.ref a1), .val (.ref a2), .val (.ref a3), .val (.int p4), .val (.int (0 : Int32)), .val (.int (3 : Int32))]) (st' := [(.int p4)]) rfl ?_
            refine XS.ifNo X74.here hx rfl (hb hby d2_73) rfl ((if0 _ _).trans (tlt hc31).2.2.2) ?_
            show Steps p.tables e below (T74.setTop (mkF m 76 #[.val (.ref a1), .val (.ref a2), .val (.ref a3), .val (.int p4), .val (.int (0 : Int32)), .val (.int (3 : Int32))] [])) _
            refine own_blk X74 hx bl2_76_2 (own_hb hby bd2_76_2) (pc' := 78) (Ls' := #[.val (.ref a1), .val (.ref a2), .val (.ref a3), .val (.int p4), .val (.int (0 : Int32)), .val (.int (3 : Int32))]) (st' := [(.int (0 : Int32)), (.ref a3)]) rfl ?_
            refine X74.caload hx (j := (0 : Int32)) (v := (.int c0)) (by rw [e74]; exact Ar78.1) (State.isArrayOf_alike hZ.alike Ar78.2.1) Ar78.2.2 hin78 hat78 (g := (mkF m 78 #[.val (.ref a1), .val (.ref a2), .val (.ref a3), .val (.int p4), .val (.int (0 : Int32)), .val (.int (3 : Int32))] [(.int (0 : Int32)), (.ref a3)])) rfl rfl (hb hby d2_78) _ ?_
            show Steps p.tables e below (T74.setTop (mkF m 79 #[.val (.ref a1), .val (.ref a2), .val (.ref a3), .val (.int p4), .val (.int (0 : Int32)), .val (.int (3 : Int32))] [(.int c0)])) _
            refine X74.ldcInt hx hown (mvT hZ (hw _ (List.mem_of_getElem? (i := 42) rfl))) (g := (mkF m 79 #[.val (.ref a1), .val (.ref a2), .val (.ref a3), .val (.int p4), .val (.int (0 : Int32)), .val (.int (3 : Int32))] [(.int c0)])) rfl (hb hby d2_79) _ ?_
            show Steps p.tables e below (T74.setTop (mkF m 81 #[.val (.ref a1), .val (.ref a2), .val (.ref a3), .val (.int p4), .val (.int (0 : Int32)), .val (.int (3 : Int32))] [(.int (65279 : Int32)), (.int c0)])) _
            refine XS.icmpYes X74.here hx rfl (pc0 := 81) (pc' := 94) rfl (hb hby d2_81) rfl (feq (own_bom hc0)).2 (by decide) (by decide) ?_
            show Steps p.tables e below (T74.setTop (mkF m 94 #[.val (.ref a1), .val (.ref a2), .val (.ref a3), .val (.int p4), .val (.int (0 : Int32)), .val (.int (3 : Int32))] [])) _
            exact X74.returnOut hx Bd.returns (hb hby d2_94) hr
          · show Q2 Z a1 a2 a3 p4 c0 c1 c2 c3 k_a3 h0 n0 _ T74.heap _
            rw [e74]
            have fa79 : Exa Z h74 a1 "com/example/endcon/endcon/yaml/Cursor" := (fa73.wr W74)
            have fa80 : Fld Z h74 a1 "com/example/endcon/endcon/yaml/Cursor" "line" "I" (.int (1 : Int32)) := ((((((Fw2.other W7 (Or.inr (slot_ne (Or.inl (hw _ (List.mem_of_getElem? (i := 24) rfl))) (Or.inl (hw _ (List.mem_of_getElem? (i := 26) rfl))) (by decide) (t := .int) (t' := .int) (by decide) (by decide)))).other W12 (Or.inr (slot_ne (Or.inl (hw _ (List.mem_of_getElem? (i := 24) rfl))) (Or.inl (hw _ (List.mem_of_getElem? (i := 28) rfl))) (by decide) (t := .int) (t' := .int) (by decide) (by decide)))).other W17 (Or.inr (slot_ne (Or.inl (hw _ (List.mem_of_getElem? (i := 24) rfl))) (Or.inr (hw _ (List.mem_of_getElem? (i := 30) rfl))) (by decide) (t := .int) (t' := (.object "java/lang/String")) (by decide) (by decide)))).other W22 (Or.inr (slot_ne (Or.inl (hw _ (List.mem_of_getElem? (i := 24) rfl))) (Or.inl (hw _ (List.mem_of_getElem? (i := 32) rfl))) (by decide) (t := .int) (t' := (.array .char)) (by decide) (by decide)))).other W27 (Or.inr (slot_ne (Or.inl (hw _ (List.mem_of_getElem? (i := 24) rfl))) (Or.inr (hw _ (List.mem_of_getElem? (i := 34) rfl))) (by decide) (t := .int) (t' := .int) (by decide) (by decide)))).other W74 (Or.inr (slot_ne (Or.inl (hw _ (List.mem_of_getElem? (i := 24) rfl))) (Or.inr (hw _ (List.mem_of_getElem? (i := 41) rfl))) (by decide) (t := .int) (t' := .boolean) (by decide) (by decide))))
            have lf81 := fa80
            have fa82 : Fld Z h74 a1 "com/example/endcon/endcon/yaml/Cursor" "blankLinesFrom" "I" (.int (-1 : Int32)) := (((((Fw7.other W12 (Or.inr (slot_ne (Or.inl (hw _ (List.mem_of_getElem? (i := 26) rfl))) (Or.inl (hw _ (List.mem_of_getElem? (i := 28) rfl))) (by decide) (t := .int) (t' := .int) (by decide) (by decide)))).other W17 (Or.inr (slot_ne (Or.inl (hw _ (List.mem_of_getElem? (i := 26) rfl))) (Or.inr (hw _ (List.mem_of_getElem? (i := 30) rfl))) (by decide) (t := .int) (t' := (.object "java/lang/String")) (by decide) (by decide)))).other W22 (Or.inr (slot_ne (Or.inl (hw _ (List.mem_of_getElem? (i := 26) rfl))) (Or.inl (hw _ (List.mem_of_getElem? (i := 32) rfl))) (by decide) (t := .int) (t' := (.array .char)) (by decide) (by decide)))).other W27 (Or.inr (slot_ne (Or.inl (hw _ (List.mem_of_getElem? (i := 26) rfl))) (Or.inr (hw _ (List.mem_of_getElem? (i := 34) rfl))) (by decide) (t := .int) (t' := .int) (by decide) (by decide)))).other W74 (Or.inr (slot_ne (Or.inl (hw _ (List.mem_of_getElem? (i := 26) rfl))) (Or.inr (hw _ (List.mem_of_getElem? (i := 41) rfl))) (by decide) (t := .int) (t' := .boolean) (by decide) (by decide))))
            have lf83 := fa82
            have fa84 : Fld Z h74 a1 "com/example/endcon/endcon/yaml/Cursor" "countedIndex" "I" (.int (-1 : Int32)) := ((((Fw12.other W17 (Or.inr (slot_ne (Or.inl (hw _ (List.mem_of_getElem? (i := 28) rfl))) (Or.inr (hw _ (List.mem_of_getElem? (i := 30) rfl))) (by decide) (t := .int) (t' := (.object "java/lang/String")) (by decide) (by decide)))).other W22 (Or.inr (slot_ne (Or.inl (hw _ (List.mem_of_getElem? (i := 28) rfl))) (Or.inl (hw _ (List.mem_of_getElem? (i := 32) rfl))) (by decide) (t := .int) (t' := (.array .char)) (by decide) (by decide)))).other W27 (Or.inr (slot_ne (Or.inl (hw _ (List.mem_of_getElem? (i := 28) rfl))) (Or.inr (hw _ (List.mem_of_getElem? (i := 34) rfl))) (by decide) (t := .int) (t' := .int) (by decide) (by decide)))).other W74 (Or.inr (slot_ne (Or.inl (hw _ (List.mem_of_getElem? (i := 28) rfl))) (Or.inr (hw _ (List.mem_of_getElem? (i := 41) rfl))) (by decide) (t := .int) (t' := .boolean) (by decide) (by decide))))
            have lf85 := fa84
            have fa86 : Fld Z h74 a1 "com/example/endcon/endcon/yaml/Cursor" "file" "Ljava/lang/String;" (.ref a2) := (((Fw17.other W22 (Or.inr (slot_ne (Or.inr (hw _ (List.mem_of_getElem? (i := 30) rfl))) (Or.inl (hw _ (List.mem_of_getElem? (i := 32) rfl))) (by decide) (t := (.object "java/lang/String")) (t' := (.array .char)) (by decide) (by decide)))).other W27 (Or.inr (slot_ne (Or.inr (hw _ (List.mem_of_getElem? (i := 30) rfl))) (Or.inr (hw _ (List.mem_of_getElem? (i := 34) rfl))) (by decide) (t := (.object "java/lang/String")) (t' := .int) (by decide) (by decide)))).other W74 (Or.inr (slot_ne (Or.inr (hw _ (List.mem_of_getElem? (i := 30) rfl))) (Or.inr (hw _ (List.mem_of_getElem? (i := 41) rfl))) (by decide) (t := (.object "java/lang/String")) (t' := .boolean) (by decide) (by decide))))
            have lf87 := fa86
            have fa88 : Fld Z h74 a1 "com/example/endcon/endcon/yaml/Cursor" "text" "[C" (.ref a3) := ((Fw22.other W27 (Or.inr (slot_ne (Or.inl (hw _ (List.mem_of_getElem? (i := 32) rfl))) (Or.inr (hw _ (List.mem_of_getElem? (i := 34) rfl))) (by decide) (t := (.array .char)) (t' := .int) (by decide) (by decide)))).other W74 (Or.inr (slot_ne (Or.inl (hw _ (List.mem_of_getElem? (i := 32) rfl))) (Or.inr (hw _ (List.mem_of_getElem? (i := 41) rfl))) (by decide) (t := (.array .char)) (t' := .boolean) (by decide) (by decide))))
            have lf89 := fa88
            have fa90 : Fld Z h74 a1 "com/example/endcon/endcon/yaml/Cursor" "end" "I" (.int p4) := (Fw27.other W74 (Or.inr (slot_ne (Or.inr (hw _ (List.mem_of_getElem? (i := 34) rfl))) (Or.inr (hw _ (List.mem_of_getElem? (i := 41) rfl))) (by decide) (t := .int) (t' := .boolean) (by decide) (by decide))))
            have lf91 := fa90
            have lf92 := Fw74
            have fa93 : Fld Z h74 a1 "com/example/endcon/endcon/yaml/Cursor" "pos" "I" (.int (0 : Int32)) := (((((((F_a1_pos.other W2 (Or.inr (slot_ne (Or.inl (hw _ (List.mem_of_getElem? (i := 49) rfl))) (Or.inl (hw _ (List.mem_of_getElem? (i := 24) rfl))) (by decide) (t := .int) (t' := .int) (by decide) (by decide)))).other W7 (Or.inr (slot_ne (Or.inl (hw _ (List.mem_of_getElem? (i := 49) rfl))) (Or.inl (hw _ (List.mem_of_getElem? (i := 26) rfl))) (by decide) (t := .int) (t' := .int) (by decide) (by decide)))).other W12 (Or.inr (slot_ne (Or.inl (hw _ (List.mem_of_getElem? (i := 49) rfl))) (Or.inl (hw _ (List.mem_of_getElem? (i := 28) rfl))) (by decide) (t := .int) (t' := .int) (by decide) (by decide)))).other W17 (Or.inr (slot_ne (Or.inl (hw _ (List.mem_of_getElem? (i := 49) rfl))) (Or.inr (hw _ (List.mem_of_getElem? (i := 30) rfl))) (by decide) (t := .int) (t' := (.object "java/lang/String")) (by decide) (by decide)))).other W22 (Or.inr (slot_ne (Or.inl (hw _ (List.mem_of_getElem? (i := 49) rfl))) (Or.inl (hw _ (List.mem_of_getElem? (i := 32) rfl))) (by decide) (t := .int) (t' := (.array .char)) (by decide) (by decide)))).other W27 (Or.inr (slot_ne (Or.inl (hw _ (List.mem_of_getElem? (i := 49) rfl))) (Or.inr (hw _ (List.mem_of_getElem? (i := 34) rfl))) (by decide) (t := .int) (t' := .int) (by decide) (by decide)))).other W74 (Or.inr (slot_ne (Or.inl (hw _ (List.mem_of_getElem? (i := 49) rfl))) (Or.inr (hw _ (List.mem_of_getElem? (i := 41) rfl))) (by decide) (t := .int) (t' := .boolean) (by decide) (by decide))))
            have lf94 := fa93
            have fa95 : Fld Z h74 a1 "com/example/endcon/endcon/yaml/Cursor" "lineStart" "I" (.int (0 : Int32)) := (((((((F_a1_lineStart.other W2 (Or.inr (slot_ne (Or.inl (hw _ (List.mem_of_getElem? (i := 56) rfl))) (Or.inl (hw _ (List.mem_of_getElem? (i := 24) rfl))) (by decide) (t := .int) (t' := .int) (by decide) (by decide)))).other W7 (Or.inr (slot_ne (Or.inl (hw _ (List.mem_of_getElem? (i := 56) rfl))) (Or.inl (hw _ (List.mem_of_getElem? (i := 26) rfl))) (by decide) (t := .int) (t' := .int) (by decide) (by decide)))).other W12 (Or.inr (slot_ne (Or.inl (hw _ (List.mem_of_getElem? (i := 56) rfl))) (Or.inl (hw _ (List.mem_of_getElem? (i := 28) rfl))) (by decide) (t := .int) (t' := .int) (by decide) (by decide)))).other W17 (Or.inr (slot_ne (Or.inl (hw _ (List.mem_of_getElem? (i := 56) rfl))) (Or.inr (hw _ (List.mem_of_getElem? (i := 30) rfl))) (by decide) (t := .int) (t' := (.object "java/lang/String")) (by decide) (by decide)))).other W22 (Or.inr (slot_ne (Or.inl (hw _ (List.mem_of_getElem? (i := 56) rfl))) (Or.inl (hw _ (List.mem_of_getElem? (i := 32) rfl))) (by decide) (t := .int) (t' := (.array .char)) (by decide) (by decide)))).other W27 (Or.inr (slot_ne (Or.inl (hw _ (List.mem_of_getElem? (i := 56) rfl))) (Or.inr (hw _ (List.mem_of_getElem? (i := 34) rfl))) (by decide) (t := .int) (t' := .int) (by decide) (by decide)))).other W74 (Or.inr (slot_ne (Or.inl (hw _ (List.mem_of_getElem? (i := 56) rfl))) (Or.inr (hw _ (List.mem_of_getElem? (i := 41) rfl))) (by decide) (t := .int) (t' := .boolean) (by decide) (by decide))))
            have lf96 := fa95
            exact ⟨rfl, N74, kp76, fa79, lf81, lf83, lf85, lf87, lf89, lf91, lf92, lf94, lf96⟩
      · have fa97 : Fld Z h27 a1 "com/example/endcon/endcon/yaml/Cursor" "hasSurrogates" "Z" (.int (0 : Int32)) := ((((((F_a1_hasSurrogates.other W2 (Or.inr (slot_ne (Or.inr (hw _ (List.mem_of_getElem? (i := 41) rfl))) (Or.inl (hw _ (List.mem_of_getElem? (i := 24) rfl))) (by decide) (t := .boolean) (t' := .int) (by decide) (by decide)))).other W7 (Or.inr (slot_ne (Or.inr (hw _ (List.mem_of_getElem? (i := 41) rfl))) (Or.inl (hw _ (List.mem_of_getElem? (i := 26) rfl))) (by decide) (t := .boolean) (t' := .int) (by decide) (by decide)))).other W12 (Or.inr (slot_ne (Or.inr (hw _ (List.mem_of_getElem? (i := 41) rfl))) (Or.inl (hw _ (List.mem_of_getElem? (i := 28) rfl))) (by decide) (t := .boolean) (t' := .int) (by decide) (by decide)))).other W17 (Or.inr (slot_ne (Or.inr (hw _ (List.mem_of_getElem? (i := 41) rfl))) (Or.inr (hw _ (List.mem_of_getElem? (i := 30) rfl))) (by decide) (t := .boolean) (t' := (.object "java/lang/String")) (by decide) (by decide)))).other W22 (Or.inr (slot_ne (Or.inr (hw _ (List.mem_of_getElem? (i := 41) rfl))) (Or.inl (hw _ (List.mem_of_getElem? (i := 32) rfl))) (by decide) (t := .boolean) (t' := (.array .char)) (by decide) (by decide)))).other W27 (Or.inr (slot_ne (Or.inr (hw _ (List.mem_of_getElem? (i := 41) rfl))) (Or.inr (hw _ (List.mem_of_getElem? (i := 34) rfl))) (by decide) (t := .boolean) (t' := .int) (by decide) (by decide))))
        have fa98 : Exa Z h27 a1 "com/example/endcon/endcon/yaml/Cursor" := (fa26.wr W27)
        obtain ⟨T99, h99, X99, e99, W99, st99⟩ := putFN X38 hx hZ hown (hw _ (List.mem_of_getElem? (i := 40) rfl)) Via.refl e38 fa97 fa98 (Or.inr ⟨(hw _ (List.mem_of_getElem? (i := 41) rfl)), rfl, hnm⟩) (hw _ (List.mem_of_getElem? (i := 7) rfl)) (ty := .boolean) (v' := (.int (0 : Int32))) (by decide) rfl (by decide) (g := (mkF m 69 #[.val (.ref a1), .val (.ref a2), .val (.ref a3), .val (.int p4), .val (.int (0 : Int32)), .val (.int (2 : Int32))] [(.int (0 : Int32)), (.ref a1)])) rfl rfl (hb hby d2_69)
        have Fw99 : Fld Z h99 a1 "com/example/endcon/endcon/yaml/Cursor" "hasSurrogates" "Z" (.int (0 : Int32)) := fa97.same W99
        have zs100 : n0 ≤ h99.size := Nat.le_trans zs28 (Keep.of_wr W99).1
        have kp101 : Keep h0 h99 [a1] := kp29.wr W99 (Or.inl (List.mem_of_getElem? (i := 0) rfl))
        have N99 := Fr.snoc X99 N38 g_a1
        have fa102 : Arv Z h99 a3 k_a3 .char (4 : Int32) [(.int c0), (.int c1), (.int c2), (.int c3)] (.int (0 : Int32)) := (fa32.other W99 (Ne.symm ne_a1_a3))
        obtain ⟨cx103, Ar103, qq103, S103, N103_, H103, G103⟩ := id fa102
        have hin103 : ¬ ((0 : Int32) < 0 ∨ cx103.slots.size ≤ ((0 : Int32)).toNatClampNeg) := inb_of S103 ⟨by decide, by decide⟩
        have hat103 : cx103.slots[((0 : Int32)).toNatClampNeg]? = some (.int c0) := (H103 ((0 : Int32)).toNatClampNeg (Nat.lt_of_not_le fun w => hin103 (Or.inr w))).trans (congrArg some (rfl))
        obtain ⟨fs, hr, hrun, hended, hW, hsame⟩ := X99.leave (v := none) (fun _ => rfl)
        refine ⟨_, _, pre39 _ ?_, hrun, hended, _, _, rfl, ?_, ⟨_, rfl⟩, hW, hsame.mono (by decide) (by decide)⟩
        · show Steps p.tables e below (T38.setTop (mkF m 43 #[.val (.ref a1), .val (.ref a2), .val (.ref a3), .val (.int p4), .val (.int (0 : Int32)), .val (.int (2 : Int32))] [(.int p4), (.int (2 : Int32))])) _
          refine XS.icmpYes X38.here hx rfl (pc0 := 43) (pc' := 66) rfl (hb hby d2_43) rfl (flt hc40).2.1 (by decide) (by decide) ?_
          show Steps p.tables e below (T38.setTop (mkF m 66 #[.val (.ref a1), .val (.ref a2), .val (.ref a3), .val (.int p4), .val (.int (0 : Int32)), .val (.int (2 : Int32))] [])) _
          refine own_blk X38 hx bl2_66_2 (own_hb hby bd2_66_2) (pc' := 69) (Ls' := #[.val (.ref a1), .val (.ref a2), .val (.ref a3), .val (.int p4), .val (.int (0 : Int32)), .val (.int (2 : Int32))]) (st' := [(.int (0 : Int32)), (.ref a1)]) rfl ?_
          refine st99 _ ?_
          show Steps p.tables e below (T99.setTop (mkF m 72 #[.val (.ref a1), .val (.ref a2), .val (.ref a3), .val (.int p4), .val (.int (0 : Int32)), .val (.int (2 : Int32))] [])) _
          refine own_blk X99 hx bl2_72_1 (own_hb hby bd2_72_1) (pc' := 73) (Ls' := #[.val (.ref a1), .val (.ref a2), .val (.ref a3), .val (.int p4), .val (.int (0 : Int32)), .val (.int (2 : Int32))]) (st' := [(.int p4)]) rfl ?_
          refine XS.ifNo X99.here hx rfl (hb hby d2_73) rfl ((if0 _ _).trans (tlt hc31).2.2.2) ?_
          show Steps p.tables e below (T99.setTop (mkF m 76 #[.val (.ref a1), .val (.ref a2), .val (.ref a3), .val (.int p4), .val (.int (0 : Int32)), .val (.int (2 : Int32))] [])) _
          refine own_blk X99 hx bl2_76_2 (own_hb hby bd2_76_2) (pc' := 78) (Ls' := #[.val (.ref a1), .val (.ref a2), .val (.ref a3), .val (.int p4), .val (.int (0 : Int32)), .val (.int (2 : Int32))]) (st' := [(.int (0 : Int32)), (.ref a3)]) rfl ?_
          refine X99.caload hx (j := (0 : Int32)) (v := (.int c0)) (by rw [e99]; exact Ar103.1) (State.isArrayOf_alike hZ.alike Ar103.2.1) Ar103.2.2 hin103 hat103 (g := (mkF m 78 #[.val (.ref a1), .val (.ref a2), .val (.ref a3), .val (.int p4), .val (.int (0 : Int32)), .val (.int (2 : Int32))] [(.int (0 : Int32)), (.ref a3)])) rfl rfl (hb hby d2_78) _ ?_
          show Steps p.tables e below (T99.setTop (mkF m 79 #[.val (.ref a1), .val (.ref a2), .val (.ref a3), .val (.int p4), .val (.int (0 : Int32)), .val (.int (2 : Int32))] [(.int c0)])) _
          refine X99.ldcInt hx hown (mvT hZ (hw _ (List.mem_of_getElem? (i := 42) rfl))) (g := (mkF m 79 #[.val (.ref a1), .val (.ref a2), .val (.ref a3), .val (.int p4), .val (.int (0 : Int32)), .val (.int (2 : Int32))] [(.int c0)])) rfl (hb hby d2_79) _ ?_
          show Steps p.tables e below (T99.setTop (mkF m 81 #[.val (.ref a1), .val (.ref a2), .val (.ref a3), .val (.int p4), .val (.int (0 : Int32)), .val (.int (2 : Int32))] [(.int (65279 : Int32)), (.int c0)])) _
          refine XS.icmpYes X99.here hx rfl (pc0 := 81) (pc' := 94) rfl (hb hby d2_81) rfl (feq (own_bom hc0)).2 (by decide) (by decide) ?_
          show Steps p.tables e below (T99.setTop (mkF m 94 #[.val (.ref a1), .val (.ref a2), .val (.ref a3), .val (.int p4), .val (.int (0 : Int32)), .val (.int (2 : Int32))] [])) _
          exact X99.returnOut hx Bd.returns (hb hby d2_94) hr
        · show Q2 Z a1 a2 a3 p4 c0 c1 c2 c3 k_a3 h0 n0 _ T99.heap _
          rw [e99]
          have fa104 : Exa Z h99 a1 "com/example/endcon/endcon/yaml/Cursor" := (fa98.wr W99)
          have fa105 : Fld Z h99 a1 "com/example/endcon/endcon/yaml/Cursor" "line" "I" (.int (1 : Int32)) := ((((((Fw2.other W7 (Or.inr (slot_ne (Or.inl (hw _ (List.mem_of_getElem? (i := 24) rfl))) (Or.inl (hw _ (List.mem_of_getElem? (i := 26) rfl))) (by decide) (t := .int) (t' := .int) (by decide) (by decide)))).other W12 (Or.inr (slot_ne (Or.inl (hw _ (List.mem_of_getElem? (i := 24) rfl))) (Or.inl (hw _ (List.mem_of_getElem? (i := 28) rfl))) (by decide) (t := .int) (t' := .int) (by decide) (by decide)))).other W17 (Or.inr (slot_ne (Or.inl (hw _ (List.mem_of_getElem? (i := 24) rfl))) (Or.inr (hw _ (List.mem_of_getElem? (i := 30) rfl))) (by decide) (t := .int) (t' := (.object "java/lang/String")) (by decide) (by decide)))).other W22 (Or.inr (slot_ne (Or.inl (hw _ (List.mem_of_getElem? (i := 24) rfl))) (Or.inl (hw _ (List.mem_of_getElem? (i := 32) rfl))) (by decide) (t := .int) (t' := (.array .char)) (by decide) (by decide)))).other W27 (Or.inr (slot_ne (Or.inl (hw _ (List.mem_of_getElem? (i := 24) rfl))) (Or.inr (hw _ (List.mem_of_getElem? (i := 34) rfl))) (by decide) (t := .int) (t' := .int) (by decide) (by decide)))).other W99 (Or.inr (slot_ne (Or.inl (hw _ (List.mem_of_getElem? (i := 24) rfl))) (Or.inr (hw _ (List.mem_of_getElem? (i := 41) rfl))) (by decide) (t := .int) (t' := .boolean) (by decide) (by decide))))
          have lf106 := fa105
          have fa107 : Fld Z h99 a1 "com/example/endcon/endcon/yaml/Cursor" "blankLinesFrom" "I" (.int (-1 : Int32)) := (((((Fw7.other W12 (Or.inr (slot_ne (Or.inl (hw _ (List.mem_of_getElem? (i := 26) rfl))) (Or.inl (hw _ (List.mem_of_getElem? (i := 28) rfl))) (by decide) (t := .int) (t' := .int) (by decide) (by decide)))).other W17 (Or.inr (slot_ne (Or.inl (hw _ (List.mem_of_getElem? (i := 26) rfl))) (Or.inr (hw _ (List.mem_of_getElem? (i := 30) rfl))) (by decide) (t := .int) (t' := (.object "java/lang/String")) (by decide) (by decide)))).other W22 (Or.inr (slot_ne (Or.inl (hw _ (List.mem_of_getElem? (i := 26) rfl))) (Or.inl (hw _ (List.mem_of_getElem? (i := 32) rfl))) (by decide) (t := .int) (t' := (.array .char)) (by decide) (by decide)))).other W27 (Or.inr (slot_ne (Or.inl (hw _ (List.mem_of_getElem? (i := 26) rfl))) (Or.inr (hw _ (List.mem_of_getElem? (i := 34) rfl))) (by decide) (t := .int) (t' := .int) (by decide) (by decide)))).other W99 (Or.inr (slot_ne (Or.inl (hw _ (List.mem_of_getElem? (i := 26) rfl))) (Or.inr (hw _ (List.mem_of_getElem? (i := 41) rfl))) (by decide) (t := .int) (t' := .boolean) (by decide) (by decide))))
          have lf108 := fa107
          have fa109 : Fld Z h99 a1 "com/example/endcon/endcon/yaml/Cursor" "countedIndex" "I" (.int (-1 : Int32)) := ((((Fw12.other W17 (Or.inr (slot_ne (Or.inl (hw _ (List.mem_of_getElem? (i := 28) rfl))) (Or.inr (hw _ (List.mem_of_getElem? (i := 30) rfl))) (by decide) (t := .int) (t' := (.object "java/lang/String")) (by decide) (by decide)))).other W22 (Or.inr (slot_ne (Or.inl (hw _ (List.mem_of_getElem? (i := 28) rfl))) (Or.inl (hw _ (List.mem_of_getElem? (i := 32) rfl))) (by decide) (t := .int) (t' := (.array .char)) (by decide) (by decide)))).other W27 (Or.inr (slot_ne (Or.inl (hw _ (List.mem_of_getElem? (i := 28) rfl))) (Or.inr (hw _ (List.mem_of_getElem? (i := 34) rfl))) (by decide) (t := .int) (t' := .int) (by decide) (by decide)))).other W99 (Or.inr (slot_ne (Or.inl (hw _ (List.mem_of_getElem? (i := 28) rfl))) (Or.inr (hw _ (List.mem_of_getElem? (i := 41) rfl))) (by decide) (t := .int) (t' := .boolean) (by decide) (by decide))))
          have lf110 := fa109
          have fa111 : Fld Z h99 a1 "com/example/endcon/endcon/yaml/Cursor" "file" "Ljava/lang/String;" (.ref a2) := (((Fw17.other W22 (Or.inr (slot_ne (Or.inr (hw _ (List.mem_of_getElem? (i := 30) rfl))) (Or.inl (hw _ (List.mem_of_getElem? (i := 32) rfl))) (by decide) (t := (.object "java/lang/String")) (t' := (.array .char)) (by decide) (by decide)))).other W27 (Or.inr (slot_ne (Or.inr (hw _ (List.mem_of_getElem? (i := 30) rfl))) (Or.inr (hw _ (List.mem_of_getElem? (i := 34) rfl))) (by decide) (t := (.object "java/lang/String")) (t' := .int) (by decide) (by decide)))).other W99 (Or.inr (slot_ne (Or.inr (hw _ (List.mem_of_getElem? (i := 30) rfl))) (Or.inr (hw _ (List.mem_of_getElem? (i := 41) rfl))) (by decide) (t := (.object "java/lang/String")) (t' := .boolean) (by decide) (by decide))))
          have lf112 := fa111
          have fa113 : Fld Z h99 a1 "com/example/endcon/endcon/yaml/Cursor" "text" "[C" (.ref a3) := ((Fw22.other W27 (Or.inr (slot_ne (Or.inl (hw _ (List.mem_of_getElem? (i := 32) rfl))) (Or.inr (hw _ (List.mem_of_getElem? (i := 34) rfl))) (by decide) (t := (.array .char)) (t' := .int) (by decide) (by decide)))).other W99 (Or.inr (slot_ne (Or.inl (hw _ (List.mem_of_getElem? (i := 32) rfl))) (Or.inr (hw _ (List.mem_of_getElem? (i := 41) rfl))) (by decide) (t := (.array .char)) (t' := .boolean) (by decide) (by decide))))
          have lf114 := fa113
          have fa115 : Fld Z h99 a1 "com/example/endcon/endcon/yaml/Cursor" "end" "I" (.int p4) := (Fw27.other W99 (Or.inr (slot_ne (Or.inr (hw _ (List.mem_of_getElem? (i := 34) rfl))) (Or.inr (hw _ (List.mem_of_getElem? (i := 41) rfl))) (by decide) (t := .int) (t' := .boolean) (by decide) (by decide))))
          have lf116 := fa115
          have lf117 := Fw99
          have fa118 : Fld Z h99 a1 "com/example/endcon/endcon/yaml/Cursor" "pos" "I" (.int (0 : Int32)) := (((((((F_a1_pos.other W2 (Or.inr (slot_ne (Or.inl (hw _ (List.mem_of_getElem? (i := 49) rfl))) (Or.inl (hw _ (List.mem_of_getElem? (i := 24) rfl))) (by decide) (t := .int) (t' := .int) (by decide) (by decide)))).other W7 (Or.inr (slot_ne (Or.inl (hw _ (List.mem_of_getElem? (i := 49) rfl))) (Or.inl (hw _ (List.mem_of_getElem? (i := 26) rfl))) (by decide) (t := .int) (t' := .int) (by decide) (by decide)))).other W12 (Or.inr (slot_ne (Or.inl (hw _ (List.mem_of_getElem? (i := 49) rfl))) (Or.inl (hw _ (List.mem_of_getElem? (i := 28) rfl))) (by decide) (t := .int) (t' := .int) (by decide) (by decide)))).other W17 (Or.inr (slot_ne (Or.inl (hw _ (List.mem_of_getElem? (i := 49) rfl))) (Or.inr (hw _ (List.mem_of_getElem? (i := 30) rfl))) (by decide) (t := .int) (t' := (.object "java/lang/String")) (by decide) (by decide)))).other W22 (Or.inr (slot_ne (Or.inl (hw _ (List.mem_of_getElem? (i := 49) rfl))) (Or.inl (hw _ (List.mem_of_getElem? (i := 32) rfl))) (by decide) (t := .int) (t' := (.array .char)) (by decide) (by decide)))).other W27 (Or.inr (slot_ne (Or.inl (hw _ (List.mem_of_getElem? (i := 49) rfl))) (Or.inr (hw _ (List.mem_of_getElem? (i := 34) rfl))) (by decide) (t := .int) (t' := .int) (by decide) (by decide)))).other W99 (Or.inr (slot_ne (Or.inl (hw _ (List.mem_of_getElem? (i := 49) rfl))) (Or.inr (hw _ (List.mem_of_getElem? (i := 41) rfl))) (by decide) (t := .int) (t' := .boolean) (by decide) (by decide))))
          have lf119 := fa118
          have fa120 : Fld Z h99 a1 "com/example/endcon/endcon/yaml/Cursor" "lineStart" "I" (.int (0 : Int32)) := (((((((F_a1_lineStart.other W2 (Or.inr (slot_ne (Or.inl (hw _ (List.mem_of_getElem? (i := 56) rfl))) (Or.inl (hw _ (List.mem_of_getElem? (i := 24) rfl))) (by decide) (t := .int) (t' := .int) (by decide) (by decide)))).other W7 (Or.inr (slot_ne (Or.inl (hw _ (List.mem_of_getElem? (i := 56) rfl))) (Or.inl (hw _ (List.mem_of_getElem? (i := 26) rfl))) (by decide) (t := .int) (t' := .int) (by decide) (by decide)))).other W12 (Or.inr (slot_ne (Or.inl (hw _ (List.mem_of_getElem? (i := 56) rfl))) (Or.inl (hw _ (List.mem_of_getElem? (i := 28) rfl))) (by decide) (t := .int) (t' := .int) (by decide) (by decide)))).other W17 (Or.inr (slot_ne (Or.inl (hw _ (List.mem_of_getElem? (i := 56) rfl))) (Or.inr (hw _ (List.mem_of_getElem? (i := 30) rfl))) (by decide) (t := .int) (t' := (.object "java/lang/String")) (by decide) (by decide)))).other W22 (Or.inr (slot_ne (Or.inl (hw _ (List.mem_of_getElem? (i := 56) rfl))) (Or.inl (hw _ (List.mem_of_getElem? (i := 32) rfl))) (by decide) (t := .int) (t' := (.array .char)) (by decide) (by decide)))).other W27 (Or.inr (slot_ne (Or.inl (hw _ (List.mem_of_getElem? (i := 56) rfl))) (Or.inr (hw _ (List.mem_of_getElem? (i := 34) rfl))) (by decide) (t := .int) (t' := .int) (by decide) (by decide)))).other W99 (Or.inr (slot_ne (Or.inl (hw _ (List.mem_of_getElem? (i := 56) rfl))) (Or.inr (hw _ (List.mem_of_getElem? (i := 41) rfl))) (by decide) (t := .int) (t' := .boolean) (by decide) (by decide))))
          have lf121 := fa120
          exact ⟨rfl, N99, kp101, fa104, lf106, lf108, lf110, lf112, lf114, lf116, lf117, lf119, lf121⟩
    · have fa122 : Fld Z h27 a1 "com/example/endcon/endcon/yaml/Cursor" "hasSurrogates" "Z" (.int (0 : Int32)) := ((((((F_a1_hasSurrogates.other W2 (Or.inr (slot_ne (Or.inr (hw _ (List.mem_of_getElem? (i := 41) rfl))) (Or.inl (hw _ (List.mem_of_getElem? (i := 24) rfl))) (by decide) (t := .boolean) (t' := .int) (by decide) (by decide)))).other W7 (Or.inr (slot_ne (Or.inr (hw _ (List.mem_of_getElem? (i := 41) rfl))) (Or.inl (hw _ (List.mem_of_getElem? (i := 26) rfl))) (by decide) (t := .boolean) (t' := .int) (by decide) (by decide)))).other W12 (Or.inr (slot_ne (Or.inr (hw _ (List.mem_of_getElem? (i := 41) rfl))) (Or.inl (hw _ (List.mem_of_getElem? (i := 28) rfl))) (by decide) (t := .boolean) (t' := .int) (by decide) (by decide)))).other W17 (Or.inr (slot_ne (Or.inr (hw _ (List.mem_of_getElem? (i := 41) rfl))) (Or.inr (hw _ (List.mem_of_getElem? (i := 30) rfl))) (by decide) (t := .boolean) (t' := (.object "java/lang/String")) (by decide) (by decide)))).other W22 (Or.inr (slot_ne (Or.inr (hw _ (List.mem_of_getElem? (i := 41) rfl))) (Or.inl (hw _ (List.mem_of_getElem? (i := 32) rfl))) (by decide) (t := .boolean) (t' := (.array .char)) (by decide) (by decide)))).other W27 (Or.inr (slot_ne (Or.inr (hw _ (List.mem_of_getElem? (i := 41) rfl))) (Or.inr (hw _ (List.mem_of_getElem? (i := 34) rfl))) (by decide) (t := .boolean) (t' := .int) (by decide) (by decide))))
      have fa123 : Exa Z h27 a1 "com/example/endcon/endcon/yaml/Cursor" := (fa26.wr W27)
      obtain ⟨T124, h124, X124, e124, W124, st124⟩ := putFN X34 hx hZ hown (hw _ (List.mem_of_getElem? (i := 40) rfl)) Via.refl e34 fa122 fa123 (Or.inr ⟨(hw _ (List.mem_of_getElem? (i := 41) rfl)), rfl, hnm⟩) (hw _ (List.mem_of_getElem? (i := 7) rfl)) (ty := .boolean) (v' := (.int (0 : Int32))) (by decide) rfl (by decide) (g := (mkF m 69 #[.val (.ref a1), .val (.ref a2), .val (.ref a3), .val (.int p4), .val (.int (0 : Int32)), .val (.int (1 : Int32))] [(.int (0 : Int32)), (.ref a1)])) rfl rfl (hb hby d2_69)
      have Fw124 : Fld Z h124 a1 "com/example/endcon/endcon/yaml/Cursor" "hasSurrogates" "Z" (.int (0 : Int32)) := fa122.same W124
      have zs125 : n0 ≤ h124.size := Nat.le_trans zs28 (Keep.of_wr W124).1
      have kp126 : Keep h0 h124 [a1] := kp29.wr W124 (Or.inl (List.mem_of_getElem? (i := 0) rfl))
      have N124 := Fr.snoc X124 N34 g_a1
      have fa127 : Arv Z h124 a3 k_a3 .char (4 : Int32) [(.int c0), (.int c1), (.int c2), (.int c3)] (.int (0 : Int32)) := (fa32.other W124 (Ne.symm ne_a1_a3))
      obtain ⟨cx128, Ar128, qq128, S128, N128_, H128, G128⟩ := id fa127
      have hin128 : ¬ ((0 : Int32) < 0 ∨ cx128.slots.size ≤ ((0 : Int32)).toNatClampNeg) := inb_of S128 ⟨by decide, by decide⟩
      have hat128 : cx128.slots[((0 : Int32)).toNatClampNeg]? = some (.int c0) := (H128 ((0 : Int32)).toNatClampNeg (Nat.lt_of_not_le fun w => hin128 (Or.inr w))).trans (congrArg some (rfl))
      obtain ⟨fs, hr, hrun, hended, hW, hsame⟩ := X124.leave (v := none) (fun _ => rfl)
      refine ⟨_, _, pre35 _ ?_, hrun, hended, _, _, rfl, ?_, ⟨_, rfl⟩, hW, hsame.mono (by decide) (by decide)⟩
      · show Steps p.tables e below (T34.setTop (mkF m 43 #[.val (.ref a1), .val (.ref a2), .val (.ref a3), .val (.int p4), .val (.int (0 : Int32)), .val (.int (1 : Int32))] [(.int p4), (.int (1 : Int32))])) _
        refine XS.icmpYes X34.here hx rfl (pc0 := 43) (pc' := 66) rfl (hb hby d2_43) rfl (flt hc36).2.1 (by decide) (by decide) ?_
        show Steps p.tables e below (T34.setTop (mkF m 66 #[.val (.ref a1), .val (.ref a2), .val (.ref a3), .val (.int p4), .val (.int (0 : Int32)), .val (.int (1 : Int32))] [])) _
        refine own_blk X34 hx bl2_66_2 (own_hb hby bd2_66_2) (pc' := 69) (Ls' := #[.val (.ref a1), .val (.ref a2), .val (.ref a3), .val (.int p4), .val (.int (0 : Int32)), .val (.int (1 : Int32))]) (st' := [(.int (0 : Int32)), (.ref a1)]) rfl ?_
        refine st124 _ ?_
        show Steps p.tables e below (T124.setTop (mkF m 72 #[.val (.ref a1), .val (.ref a2), .val (.ref a3), .val (.int p4), .val (.int (0 : Int32)), .val (.int (1 : Int32))] [])) _
        refine own_blk X124 hx bl2_72_1 (own_hb hby bd2_72_1) (pc' := 73) (Ls' := #[.val (.ref a1), .val (.ref a2), .val (.ref a3), .val (.int p4), .val (.int (0 : Int32)), .val (.int (1 : Int32))]) (st' := [(.int p4)]) rfl ?_
        refine XS.ifNo X124.here hx rfl (hb hby d2_73) rfl ((if0 _ _).trans (tlt hc31).2.2.2) ?_
        show Steps p.tables e below (T124.setTop (mkF m 76 #[.val (.ref a1), .val (.ref a2), .val (.ref a3), .val (.int p4), .val (.int (0 : Int32)), .val (.int (1 : Int32))] [])) _
        refine own_blk X124 hx bl2_76_2 (own_hb hby bd2_76_2) (pc' := 78) (Ls' := #[.val (.ref a1), .val (.ref a2), .val (.ref a3), .val (.int p4), .val (.int (0 : Int32)), .val (.int (1 : Int32))]) (st' := [(.int (0 : Int32)), (.ref a3)]) rfl ?_
        refine X124.caload hx (j := (0 : Int32)) (v := (.int c0)) (by rw [e124]; exact Ar128.1) (State.isArrayOf_alike hZ.alike Ar128.2.1) Ar128.2.2 hin128 hat128 (g := (mkF m 78 #[.val (.ref a1), .val (.ref a2), .val (.ref a3), .val (.int p4), .val (.int (0 : Int32)), .val (.int (1 : Int32))] [(.int (0 : Int32)), (.ref a3)])) rfl rfl (hb hby d2_78) _ ?_
        show Steps p.tables e below (T124.setTop (mkF m 79 #[.val (.ref a1), .val (.ref a2), .val (.ref a3), .val (.int p4), .val (.int (0 : Int32)), .val (.int (1 : Int32))] [(.int c0)])) _
        refine X124.ldcInt hx hown (mvT hZ (hw _ (List.mem_of_getElem? (i := 42) rfl))) (g := (mkF m 79 #[.val (.ref a1), .val (.ref a2), .val (.ref a3), .val (.int p4), .val (.int (0 : Int32)), .val (.int (1 : Int32))] [(.int c0)])) rfl (hb hby d2_79) _ ?_
        show Steps p.tables e below (T124.setTop (mkF m 81 #[.val (.ref a1), .val (.ref a2), .val (.ref a3), .val (.int p4), .val (.int (0 : Int32)), .val (.int (1 : Int32))] [(.int (65279 : Int32)), (.int c0)])) _
        refine XS.icmpYes X124.here hx rfl (pc0 := 81) (pc' := 94) rfl (hb hby d2_81) rfl (feq (own_bom hc0)).2 (by decide) (by decide) ?_
        show Steps p.tables e below (T124.setTop (mkF m 94 #[.val (.ref a1), .val (.ref a2), .val (.ref a3), .val (.int p4), .val (.int (0 : Int32)), .val (.int (1 : Int32))] [])) _
        exact X124.returnOut hx Bd.returns (hb hby d2_94) hr
      · show Q2 Z a1 a2 a3 p4 c0 c1 c2 c3 k_a3 h0 n0 _ T124.heap _
        rw [e124]
        have fa129 : Exa Z h124 a1 "com/example/endcon/endcon/yaml/Cursor" := (fa123.wr W124)
        have fa130 : Fld Z h124 a1 "com/example/endcon/endcon/yaml/Cursor" "line" "I" (.int (1 : Int32)) := ((((((Fw2.other W7 (Or.inr (slot_ne (Or.inl (hw _ (List.mem_of_getElem? (i := 24) rfl))) (Or.inl (hw _ (List.mem_of_getElem? (i := 26) rfl))) (by decide) (t := .int) (t' := .int) (by decide) (by decide)))).other W12 (Or.inr (slot_ne (Or.inl (hw _ (List.mem_of_getElem? (i := 24) rfl))) (Or.inl (hw _ (List.mem_of_getElem? (i := 28) rfl))) (by decide) (t := .int) (t' := .int) (by decide) (by decide)))).other W17 (Or.inr (slot_ne (Or.inl (hw _ (List.mem_of_getElem? (i := 24) rfl))) (Or.inr (hw _ (List.mem_of_getElem? (i := 30) rfl))) (by decide) (t := .int) (t' := (.object "java/lang/String")) (by decide) (by decide)))).other W22 (Or.inr (slot_ne (Or.inl (hw _ (List.mem_of_getElem? (i := 24) rfl))) (Or.inl (hw _ (List.mem_of_getElem? (i := 32) rfl))) (by decide) (t := .int) (t' := (.array .char)) (by decide) (by decide)))).other W27 (Or.inr (slot_ne (Or.inl (hw _ (List.mem_of_getElem? (i := 24) rfl))) (Or.inr (hw _ (List.mem_of_getElem? (i := 34) rfl))) (by decide) (t := .int) (t' := .int) (by decide) (by decide)))).other W124 (Or.inr (slot_ne (Or.inl (hw _ (List.mem_of_getElem? (i := 24) rfl))) (Or.inr (hw _ (List.mem_of_getElem? (i := 41) rfl))) (by decide) (t := .int) (t' := .boolean) (by decide) (by decide))))
        have lf131 := fa130
        have fa132 : Fld Z h124 a1 "com/example/endcon/endcon/yaml/Cursor" "blankLinesFrom" "I" (.int (-1 : Int32)) := (((((Fw7.other W12 (Or.inr (slot_ne (Or.inl (hw _ (List.mem_of_getElem? (i := 26) rfl))) (Or.inl (hw _ (List.mem_of_getElem? (i := 28) rfl))) (by decide) (t := .int) (t' := .int) (by decide) (by decide)))).other W17 (Or.inr (slot_ne (Or.inl (hw _ (List.mem_of_getElem? (i := 26) rfl))) (Or.inr (hw _ (List.mem_of_getElem? (i := 30) rfl))) (by decide) (t := .int) (t' := (.object "java/lang/String")) (by decide) (by decide)))).other W22 (Or.inr (slot_ne (Or.inl (hw _ (List.mem_of_getElem? (i := 26) rfl))) (Or.inl (hw _ (List.mem_of_getElem? (i := 32) rfl))) (by decide) (t := .int) (t' := (.array .char)) (by decide) (by decide)))).other W27 (Or.inr (slot_ne (Or.inl (hw _ (List.mem_of_getElem? (i := 26) rfl))) (Or.inr (hw _ (List.mem_of_getElem? (i := 34) rfl))) (by decide) (t := .int) (t' := .int) (by decide) (by decide)))).other W124 (Or.inr (slot_ne (Or.inl (hw _ (List.mem_of_getElem? (i := 26) rfl))) (Or.inr (hw _ (List.mem_of_getElem? (i := 41) rfl))) (by decide) (t := .int) (t' := .boolean) (by decide) (by decide))))
        have lf133 := fa132
        have fa134 : Fld Z h124 a1 "com/example/endcon/endcon/yaml/Cursor" "countedIndex" "I" (.int (-1 : Int32)) := ((((Fw12.other W17 (Or.inr (slot_ne (Or.inl (hw _ (List.mem_of_getElem? (i := 28) rfl))) (Or.inr (hw _ (List.mem_of_getElem? (i := 30) rfl))) (by decide) (t := .int) (t' := (.object "java/lang/String")) (by decide) (by decide)))).other W22 (Or.inr (slot_ne (Or.inl (hw _ (List.mem_of_getElem? (i := 28) rfl))) (Or.inl (hw _ (List.mem_of_getElem? (i := 32) rfl))) (by decide) (t := .int) (t' := (.array .char)) (by decide) (by decide)))).other W27 (Or.inr (slot_ne (Or.inl (hw _ (List.mem_of_getElem? (i := 28) rfl))) (Or.inr (hw _ (List.mem_of_getElem? (i := 34) rfl))) (by decide) (t := .int) (t' := .int) (by decide) (by decide)))).other W124 (Or.inr (slot_ne (Or.inl (hw _ (List.mem_of_getElem? (i := 28) rfl))) (Or.inr (hw _ (List.mem_of_getElem? (i := 41) rfl))) (by decide) (t := .int) (t' := .boolean) (by decide) (by decide))))
        have lf135 := fa134
        have fa136 : Fld Z h124 a1 "com/example/endcon/endcon/yaml/Cursor" "file" "Ljava/lang/String;" (.ref a2) := (((Fw17.other W22 (Or.inr (slot_ne (Or.inr (hw _ (List.mem_of_getElem? (i := 30) rfl))) (Or.inl (hw _ (List.mem_of_getElem? (i := 32) rfl))) (by decide) (t := (.object "java/lang/String")) (t' := (.array .char)) (by decide) (by decide)))).other W27 (Or.inr (slot_ne (Or.inr (hw _ (List.mem_of_getElem? (i := 30) rfl))) (Or.inr (hw _ (List.mem_of_getElem? (i := 34) rfl))) (by decide) (t := (.object "java/lang/String")) (t' := .int) (by decide) (by decide)))).other W124 (Or.inr (slot_ne (Or.inr (hw _ (List.mem_of_getElem? (i := 30) rfl))) (Or.inr (hw _ (List.mem_of_getElem? (i := 41) rfl))) (by decide) (t := (.object "java/lang/String")) (t' := .boolean) (by decide) (by decide))))
        have lf137 := fa136
        have fa138 : Fld Z h124 a1 "com/example/endcon/endcon/yaml/Cursor" "text" "[C" (.ref a3) := ((Fw22.other W27 (Or.inr (slot_ne (Or.inl (hw _ (List.mem_of_getElem? (i := 32) rfl))) (Or.inr (hw _ (List.mem_of_getElem? (i := 34) rfl))) (by decide) (t := (.array .char)) (t' := .int) (by decide) (by decide)))).other W124 (Or.inr (slot_ne (Or.inl (hw _ (List.mem_of_getElem? (i := 32) rfl))) (Or.inr (hw _ (List.mem_of_getElem? (i := 41) rfl))) (by decide) (t := (.array .char)) (t' := .boolean) (by decide) (by decide))))
        have lf139 := fa138
        have fa140 : Fld Z h124 a1 "com/example/endcon/endcon/yaml/Cursor" "end" "I" (.int p4) := (Fw27.other W124 (Or.inr (slot_ne (Or.inr (hw _ (List.mem_of_getElem? (i := 34) rfl))) (Or.inr (hw _ (List.mem_of_getElem? (i := 41) rfl))) (by decide) (t := .int) (t' := .boolean) (by decide) (by decide))))
        have lf141 := fa140
        have lf142 := Fw124
        have fa143 : Fld Z h124 a1 "com/example/endcon/endcon/yaml/Cursor" "pos" "I" (.int (0 : Int32)) := (((((((F_a1_pos.other W2 (Or.inr (slot_ne (Or.inl (hw _ (List.mem_of_getElem? (i := 49) rfl))) (Or.inl (hw _ (List.mem_of_getElem? (i := 24) rfl))) (by decide) (t := .int) (t' := .int) (by decide) (by decide)))).other W7 (Or.inr (slot_ne (Or.inl (hw _ (List.mem_of_getElem? (i := 49) rfl))) (Or.inl (hw _ (List.mem_of_getElem? (i := 26) rfl))) (by decide) (t := .int) (t' := .int) (by decide) (by decide)))).other W12 (Or.inr (slot_ne (Or.inl (hw _ (List.mem_of_getElem? (i := 49) rfl))) (Or.inl (hw _ (List.mem_of_getElem? (i := 28) rfl))) (by decide) (t := .int) (t' := .int) (by decide) (by decide)))).other W17 (Or.inr (slot_ne (Or.inl (hw _ (List.mem_of_getElem? (i := 49) rfl))) (Or.inr (hw _ (List.mem_of_getElem? (i := 30) rfl))) (by decide) (t := .int) (t' := (.object "java/lang/String")) (by decide) (by decide)))).other W22 (Or.inr (slot_ne (Or.inl (hw _ (List.mem_of_getElem? (i := 49) rfl))) (Or.inl (hw _ (List.mem_of_getElem? (i := 32) rfl))) (by decide) (t := .int) (t' := (.array .char)) (by decide) (by decide)))).other W27 (Or.inr (slot_ne (Or.inl (hw _ (List.mem_of_getElem? (i := 49) rfl))) (Or.inr (hw _ (List.mem_of_getElem? (i := 34) rfl))) (by decide) (t := .int) (t' := .int) (by decide) (by decide)))).other W124 (Or.inr (slot_ne (Or.inl (hw _ (List.mem_of_getElem? (i := 49) rfl))) (Or.inr (hw _ (List.mem_of_getElem? (i := 41) rfl))) (by decide) (t := .int) (t' := .boolean) (by decide) (by decide))))
        have lf144 := fa143
        have fa145 : Fld Z h124 a1 "com/example/endcon/endcon/yaml/Cursor" "lineStart" "I" (.int (0 : Int32)) := (((((((F_a1_lineStart.other W2 (Or.inr (slot_ne (Or.inl (hw _ (List.mem_of_getElem? (i := 56) rfl))) (Or.inl (hw _ (List.mem_of_getElem? (i := 24) rfl))) (by decide) (t := .int) (t' := .int) (by decide) (by decide)))).other W7 (Or.inr (slot_ne (Or.inl (hw _ (List.mem_of_getElem? (i := 56) rfl))) (Or.inl (hw _ (List.mem_of_getElem? (i := 26) rfl))) (by decide) (t := .int) (t' := .int) (by decide) (by decide)))).other W12 (Or.inr (slot_ne (Or.inl (hw _ (List.mem_of_getElem? (i := 56) rfl))) (Or.inl (hw _ (List.mem_of_getElem? (i := 28) rfl))) (by decide) (t := .int) (t' := .int) (by decide) (by decide)))).other W17 (Or.inr (slot_ne (Or.inl (hw _ (List.mem_of_getElem? (i := 56) rfl))) (Or.inr (hw _ (List.mem_of_getElem? (i := 30) rfl))) (by decide) (t := .int) (t' := (.object "java/lang/String")) (by decide) (by decide)))).other W22 (Or.inr (slot_ne (Or.inl (hw _ (List.mem_of_getElem? (i := 56) rfl))) (Or.inl (hw _ (List.mem_of_getElem? (i := 32) rfl))) (by decide) (t := .int) (t' := (.array .char)) (by decide) (by decide)))).other W27 (Or.inr (slot_ne (Or.inl (hw _ (List.mem_of_getElem? (i := 56) rfl))) (Or.inr (hw _ (List.mem_of_getElem? (i := 34) rfl))) (by decide) (t := .int) (t' := .int) (by decide) (by decide)))).other W124 (Or.inr (slot_ne (Or.inl (hw _ (List.mem_of_getElem? (i := 56) rfl))) (Or.inr (hw _ (List.mem_of_getElem? (i := 41) rfl))) (by decide) (t := .int) (t' := .boolean) (by decide) (by decide))))
        have lf146 := fa145
        exact ⟨rfl, N124, kp126, fa129, lf131, lf133, lf135, lf137, lf139, lf141, lf142, lf144, lf146⟩
  · have fa147 : Fld Z h27 a1 "com/example/endcon/endcon/yaml/Cursor" "hasSurrogates" "Z" (.int (0 : Int32)) := ((((((F_a1_hasSurrogates.other W2 (Or.inr (slot_ne (Or.inr (hw _ (List.mem_of_getElem? (i := 41) rfl))) (Or.inl (hw _ (List.mem_of_getElem? (i := 24) rfl))) (by decide) (t := .boolean) (t' := .int) (by decide) (by decide)))).other W7 (Or.inr (slot_ne (Or.inr (hw _ (List.mem_of_getElem? (i := 41) rfl))) (Or.inl (hw _ (List.mem_of_getElem? (i := 26) rfl))) (by decide) (t := .boolean) (t' := .int) (by decide) (by decide)))).other W12 (Or.inr (slot_ne (Or.inr (hw _ (List.mem_of_getElem? (i := 41) rfl))) (Or.inl (hw _ (List.mem_of_getElem? (i := 28) rfl))) (by decide) (t := .boolean) (t' := .int) (by decide) (by decide)))).other W17 (Or.inr (slot_ne (Or.inr (hw _ (List.mem_of_getElem? (i := 41) rfl))) (Or.inr (hw _ (List.mem_of_getElem? (i := 30) rfl))) (by decide) (t := .boolean) (t' := (.object "java/lang/String")) (by decide) (by decide)))).other W22 (Or.inr (slot_ne (Or.inr (hw _ (List.mem_of_getElem? (i := 41) rfl))) (Or.inl (hw _ (List.mem_of_getElem? (i := 32) rfl))) (by decide) (t := .boolean) (t' := (.array .char)) (by decide) (by decide)))).other W27 (Or.inr (slot_ne (Or.inr (hw _ (List.mem_of_getElem? (i := 41) rfl))) (Or.inr (hw _ (List.mem_of_getElem? (i := 34) rfl))) (by decide) (t := .boolean) (t' := .int) (by decide) (by decide))))
    have fa148 : Exa Z h27 a1 "com/example/endcon/endcon/yaml/Cursor" := (fa26.wr W27)
    obtain ⟨T149, h149, X149, e149, W149, st149⟩ := putFN X27 hx hZ hown (hw _ (List.mem_of_getElem? (i := 40) rfl)) Via.refl e27 fa147 fa148 (Or.inr ⟨(hw _ (List.mem_of_getElem? (i := 41) rfl)), rfl, hnm⟩) (hw _ (List.mem_of_getElem? (i := 7) rfl)) (ty := .boolean) (v' := (.int (0 : Int32))) (by decide) rfl (by decide) (g := (mkF m 69 #[.val (.ref a1), .val (.ref a2), .val (.ref a3), .val (.int p4), .val (.int (0 : Int32)), .val (.int (0 : Int32))] [(.int (0 : Int32)), (.ref a1)])) rfl rfl (hb hby d2_69)
    have Fw149 : Fld Z h149 a1 "com/example/endcon/endcon/yaml/Cursor" "hasSurrogates" "Z" (.int (0 : Int32)) := fa147.same W149
    have zs150 : n0 ≤ h149.size := Nat.le_trans zs28 (Keep.of_wr W149).1
    have kp151 : Keep h0 h149 [a1] := kp29.wr W149 (Or.inl (List.mem_of_getElem? (i := 0) rfl))
    have N149 := Fr.snoc X149 N27 g_a1
    obtain ⟨fs, hr, hrun, hended, hW, hsame⟩ := X149.leave (v := none) (fun _ => rfl)
    refine ⟨_, _, pre30 _ ?_, hrun, hended, _, _, rfl, ?_, ⟨_, rfl⟩, hW, hsame.mono (by decide) (by decide)⟩
    · show Steps p.tables e below (T27.setTop (mkF m 43 #[.val (.ref a1), .val (.ref a2), .val (.ref a3), .val (.int p4), .val (.int (0 : Int32)), .val (.int (0 : Int32))] [(.int p4), (.int (0 : Int32))])) _
      refine XS.icmpYes X27.here hx rfl (pc0 := 43) (pc' := 66) rfl (hb hby d2_43) rfl (flt hc31).2.1 (by decide) (by decide) ?_
      show Steps p.tables e below (T27.setTop (mkF m 66 #[.val (.ref a1), .val (.ref a2), .val (.ref a3), .val (.int p4), .val (.int (0 : Int32)), .val (.int (0 : Int32))] [])) _
      refine own_blk X27 hx bl2_66_2 (own_hb hby bd2_66_2) (pc' := 69) (Ls' := #[.val (.ref a1), .val (.ref a2), .val (.ref a3), .val (.int p4), .val (.int (0 : Int32)), .val (.int (0 : Int32))]) (st' := [(.int (0 : Int32)), (.ref a1)]) rfl ?_
      refine st149 _ ?_
      show Steps p.tables e below (T149.setTop (mkF m 72 #[.val (.ref a1), .val (.ref a2), .val (.ref a3), .val (.int p4), .val (.int (0 : Int32)), .val (.int (0 : Int32))] [])) _
      refine own_blk X149 hx bl2_72_1 (own_hb hby bd2_72_1) (pc' := 73) (Ls' := #[.val (.ref a1), .val (.ref a2), .val (.ref a3), .val (.int p4), .val (.int (0 : Int32)), .val (.int (0 : Int32))]) (st' := [(.int p4)]) rfl ?_
      refine XS.ifYes X149.here hx rfl (pc0 := 73) (pc' := 94) rfl (hb hby d2_73) rfl ((if0 _ _).trans (flt hc31).2.2.2) (by decide) (by decide) ?_
      show Steps p.tables e below (T149.setTop (mkF m 94 #[.val (.ref a1), .val (.ref a2), .val (.ref a3), .val (.int p4), .val (.int (0 : Int32)), .val (.int (0 : Int32))] [])) _
      exact X149.returnOut hx Bd.returns (hb hby d2_94) hr
    · show Q2 Z a1 a2 a3 p4 c0 c1 c2 c3 k_a3 h0 n0 _ T149.heap _
      rw [e149]
      have fa152 : Exa Z h149 a1 "com/example/endcon/endcon/yaml/Cursor" := (fa148.wr W149)
      have fa153 : Fld Z h149 a1 "com/example/endcon/endcon/yaml/Cursor" "line" "I" (.int (1 : Int32)) := ((((((Fw2.other W7 (Or.inr (slot_ne (Or.inl (hw _ (List.mem_of_getElem? (i := 24) rfl))) (Or.inl (hw _ (List.mem_of_getElem? (i := 26) rfl))) (by decide) (t := .int) (t' := .int) (by decide) (by decide)))).other W12 (Or.inr (slot_ne (Or.inl (hw _ (List.mem_of_getElem? (i := 24) rfl))) (Or.inl (hw _ (List.mem_of_getElem? (i := 28) rfl))) (by decide) (t := .int) (t' := .int) (by decide) (by decide)))).other W17 (Or.inr (slot_ne (Or.inl (hw _ (List.mem_of_getElem? (i := 24) rfl))) (Or.inr (hw _ (List.mem_of_getElem? (i := 30) rfl))) (by decide) (t := .int) (t' := (.object "java/lang/String")) (by decide) (by decide)))).other W22 (Or.inr (slot_ne (Or.inl (hw _ (List.mem_of_getElem? (i := 24) rfl))) (Or.inl (hw _ (List.mem_of_getElem? (i := 32) rfl))) (by decide) (t := .int) (t' := (.array .char)) (by decide) (by decide)))).other W27 (Or.inr (slot_ne (Or.inl (hw _ (List.mem_of_getElem? (i := 24) rfl))) (Or.inr (hw _ (List.mem_of_getElem? (i := 34) rfl))) (by decide) (t := .int) (t' := .int) (by decide) (by decide)))).other W149 (Or.inr (slot_ne (Or.inl (hw _ (List.mem_of_getElem? (i := 24) rfl))) (Or.inr (hw _ (List.mem_of_getElem? (i := 41) rfl))) (by decide) (t := .int) (t' := .boolean) (by decide) (by decide))))
      have lf154 := fa153
      have fa155 : Fld Z h149 a1 "com/example/endcon/endcon/yaml/Cursor" "blankLinesFrom" "I" (.int (-1 : Int32)) := (((((Fw7.other W12 (Or.inr (slot_ne (Or.inl (hw _ (List.mem_of_getElem? (i := 26) rfl))) (Or.inl (hw _ (List.mem_of_getElem? (i := 28) rfl))) (by decide) (t := .int) (t' := .int) (by decide) (by decide)))).other W17 (Or.inr (slot_ne (Or.inl (hw _ (List.mem_of_getElem? (i := 26) rfl))) (Or.inr (hw _ (List.mem_of_getElem? (i := 30) rfl))) (by decide) (t := .int) (t' := (.object "java/lang/String")) (by decide) (by decide)))).other W22 (Or.inr (slot_ne (Or.inl (hw _ (List.mem_of_getElem? (i := 26) rfl))) (Or.inl (hw _ (List.mem_of_getElem? (i := 32) rfl))) (by decide) (t := .int) (t' := (.array .char)) (by decide) (by decide)))).other W27 (Or.inr (slot_ne (Or.inl (hw _ (List.mem_of_getElem? (i := 26) rfl))) (Or.inr (hw _ (List.mem_of_getElem? (i := 34) rfl))) (by decide) (t := .int) (t' := .int) (by decide) (by decide)))).other W149 (Or.inr (slot_ne (Or.inl (hw _ (List.mem_of_getElem? (i := 26) rfl))) (Or.inr (hw _ (List.mem_of_getElem? (i := 41) rfl))) (by decide) (t := .int) (t' := .boolean) (by decide) (by decide))))
      have lf156 := fa155
      have fa157 : Fld Z h149 a1 "com/example/endcon/endcon/yaml/Cursor" "countedIndex" "I" (.int (-1 : Int32)) := ((((Fw12.other W17 (Or.inr (slot_ne (Or.inl (hw _ (List.mem_of_getElem? (i := 28) rfl))) (Or.inr (hw _ (List.mem_of_getElem? (i := 30) rfl))) (by decide) (t := .int) (t' := (.object "java/lang/String")) (by decide) (by decide)))).other W22 (Or.inr (slot_ne (Or.inl (hw _ (List.mem_of_getElem? (i := 28) rfl))) (Or.inl (hw _ (List.mem_of_getElem? (i := 32) rfl))) (by decide) (t := .int) (t' := (.array .char)) (by decide) (by decide)))).other W27 (Or.inr (slot_ne (Or.inl (hw _ (List.mem_of_getElem? (i := 28) rfl))) (Or.inr (hw _ (List.mem_of_getElem? (i := 34) rfl))) (by decide) (t := .int) (t' := .int) (by decide) (by decide)))).other W149 (Or.inr (slot_ne (Or.inl (hw _ (List.mem_of_getElem? (i := 28) rfl))) (Or.inr (hw _ (List.mem_of_getElem? (i := 41) rfl))) (by decide) (t := .int) (t' := .boolean) (by decide) (by decide))))
      have lf158 := fa157
      have fa159 : Fld Z h149 a1 "com/example/endcon/endcon/yaml/Cursor" "file" "Ljava/lang/String;" (.ref a2) := (((Fw17.other W22 (Or.inr (slot_ne (Or.inr (hw _ (List.mem_of_getElem? (i := 30) rfl))) (Or.inl (hw _ (List.mem_of_getElem? (i := 32) rfl))) (by decide) (t := (.object "java/lang/String")) (t' := (.array .char)) (by decide) (by decide)))).other W27 (Or.inr (slot_ne (Or.inr (hw _ (List.mem_of_getElem? (i := 30) rfl))) (Or.inr (hw _ (List.mem_of_getElem? (i := 34) rfl))) (by decide) (t := (.object "java/lang/String")) (t' := .int) (by decide) (by decide)))).other W149 (Or.inr (slot_ne (Or.inr (hw _ (List.mem_of_getElem? (i := 30) rfl))) (Or.inr (hw _ (List.mem_of_getElem? (i := 41) rfl))) (by decide) (t := (.object "java/lang/String")) (t' := .boolean) (by decide) (by decide))))
      have lf160 := fa159
      have fa161 : Fld Z h149 a1 "com/example/endcon/endcon/yaml/Cursor" "text" "[C" (.ref a3) := ((Fw22.other W27 (Or.inr (slot_ne (Or.inl (hw _ (List.mem_of_getElem? (i := 32) rfl))) (Or.inr (hw _ (List.mem_of_getElem? (i := 34) rfl))) (by decide) (t := (.array .char)) (t' := .int) (by decide) (by decide)))).other W149 (Or.inr (slot_ne (Or.inl (hw _ (List.mem_of_getElem? (i := 32) rfl))) (Or.inr (hw _ (List.mem_of_getElem? (i := 41) rfl))) (by decide) (t := (.array .char)) (t' := .boolean) (by decide) (by decide))))
      have lf162 := fa161
      have fa163 : Fld Z h149 a1 "com/example/endcon/endcon/yaml/Cursor" "end" "I" (.int p4) := (Fw27.other W149 (Or.inr (slot_ne (Or.inr (hw _ (List.mem_of_getElem? (i := 34) rfl))) (Or.inr (hw _ (List.mem_of_getElem? (i := 41) rfl))) (by decide) (t := .int) (t' := .boolean) (by decide) (by decide))))
      have lf164 := fa163
      have lf165 := Fw149
      have fa166 : Fld Z h149 a1 "com/example/endcon/endcon/yaml/Cursor" "pos" "I" (.int (0 : Int32)) := (((((((F_a1_pos.other W2 (Or.inr (slot_ne (Or.inl (hw _ (List.mem_of_getElem? (i := 49) rfl))) (Or.inl (hw _ (List.mem_of_getElem? (i := 24) rfl))) (by decide) (t := .int) (t' := .int) (by decide) (by decide)))).other W7 (Or.inr (slot_ne (Or.inl (hw _ (List.mem_of_getElem? (i := 49) rfl))) (Or.inl (hw _ (List.mem_of_getElem? (i := 26) rfl))) (by decide) (t := .int) (t' := .int) (by decide) (by decide)))).other W12 (Or.inr (slot_ne (Or.inl (hw _ (List.mem_of_getElem? (i := 49) rfl))) (Or.inl (hw _ (List.mem_of_getElem? (i := 28) rfl))) (by decide) (t := .int) (t' := .int) (by decide) (by decide)))).other W17 (Or.inr (slot_ne (Or.inl (hw _ (List.mem_of_getElem? (i := 49) rfl))) (Or.inr (hw _ (List.mem_of_getElem? (i := 30) rfl))) (by decide) (t := .int) (t' := (.object "java/lang/String")) (by decide) (by decide)))).other W22 (Or.inr (slot_ne (Or.inl (hw _ (List.mem_of_getElem? (i := 49) rfl))) (Or.inl (hw _ (List.mem_of_getElem? (i := 32) rfl))) (by decide) (t := .int) (t' := (.array .char)) (by decide) (by decide)))).other W27 (Or.inr (slot_ne (Or.inl (hw _ (List.mem_of_getElem? (i := 49) rfl))) (Or.inr (hw _ (List.mem_of_getElem? (i := 34) rfl))) (by decide) (t := .int) (t' := .int) (by decide) (by decide)))).other W149 (Or.inr (slot_ne (Or.inl (hw _ (List.mem_of_getElem? (i := 49) rfl))) (Or.inr (hw _ (List.mem_of_getElem? (i := 41) rfl))) (by decide) (t := .int) (t' := .boolean) (by decide) (by decide))))
      have lf167 := fa166
      have fa168 : Fld Z h149 a1 "com/example/endcon/endcon/yaml/Cursor" "lineStart" "I" (.int (0 : Int32)) := (((((((F_a1_lineStart.other W2 (Or.inr (slot_ne (Or.inl (hw _ (List.mem_of_getElem? (i := 56) rfl))) (Or.inl (hw _ (List.mem_of_getElem? (i := 24) rfl))) (by decide) (t := .int) (t' := .int) (by decide) (by decide)))).other W7 (Or.inr (slot_ne (Or.inl (hw _ (List.mem_of_getElem? (i := 56) rfl))) (Or.inl (hw _ (List.mem_of_getElem? (i := 26) rfl))) (by decide) (t := .int) (t' := .int) (by decide) (by decide)))).other W12 (Or.inr (slot_ne (Or.inl (hw _ (List.mem_of_getElem? (i := 56) rfl))) (Or.inl (hw _ (List.mem_of_getElem? (i := 28) rfl))) (by decide) (t := .int) (t' := .int) (by decide) (by decide)))).other W17 (Or.inr (slot_ne (Or.inl (hw _ (List.mem_of_getElem? (i := 56) rfl))) (Or.inr (hw _ (List.mem_of_getElem? (i := 30) rfl))) (by decide) (t := .int) (t' := (.object "java/lang/String")) (by decide) (by decide)))).other W22 (Or.inr (slot_ne (Or.inl (hw _ (List.mem_of_getElem? (i := 56) rfl))) (Or.inl (hw _ (List.mem_of_getElem? (i := 32) rfl))) (by decide) (t := .int) (t' := (.array .char)) (by decide) (by decide)))).other W27 (Or.inr (slot_ne (Or.inl (hw _ (List.mem_of_getElem? (i := 56) rfl))) (Or.inr (hw _ (List.mem_of_getElem? (i := 34) rfl))) (by decide) (t := .int) (t' := .int) (by decide) (by decide)))).other W149 (Or.inr (slot_ne (Or.inl (hw _ (List.mem_of_getElem? (i := 56) rfl))) (Or.inr (hw _ (List.mem_of_getElem? (i := 41) rfl))) (by decide) (t := .int) (t' := .boolean) (by decide) (by decide))))
      have lf169 := fa168
      exact ⟨rfl, N149, kp151, fa152, lf154, lf156, lf158, lf160, lf162, lf164, lf165, lf167, lf169⟩
theorem d5_0 : decode prog_114_method_27_code 0 = .ok (.aload_n 0, 1) := by decide +kernel
theorem d5_1 : decode prog_114_method_27_code 1 = .ok (.iload_n 1, 1) := by decide +kernel
theorem d5_2 : decode prog_114_method_27_code 2 = .ok (.putfield 41, 3) := by decide +kernel
theorem d5_5 : decode prog_114_method_27_code 5 = .ok (.return_, 1) := by decide +kernel
theorem pn_5 : plainName "com/example/endcon/endcon/yaml/Cursor" = true := by first | (simp [plainName, overriddenIn]; done) | decide +kernel
theorem ef_5 (m : MethodId) (x0 : Addr) (x1 : Int32) : entryFrame m #[(.ref x0), (.int x1)] 2 = mkF m 0 #[.val (.ref x0), .val (.int x1)] [] := by first | (simp [entryFrame, mkF, argsToLocals, Value.category]; done) | rfl
def bl5_0_2 : List (Nat × Instr × Nat) := [(0, .aload_n 0, 1), (1, .iload_n 1, 1)]
theorem bd5_0_2 : own_dec prog_114_method_27_code bl5_0_2 = true := by decide +kernel

def Q5 (Z : State) (a1 : Addr) (p2 : Int32) (t1 : Addr) (v_end : Int32) (v_pos : Int32) (v_line : Int32) (v_ls : Int32) (h0 : Heap) (n0 : Nat) (v : Option Value) (h : Heap) (L : List Loc) : Prop := v = none ∧ Fr n0 L ∧ Keep h0 h [a1] ∧ Exa Z h a1 "com/example/endcon/endcon/yaml/Cursor" ∧ Fld Z h a1 "com/example/endcon/endcon/yaml/Cursor" "text" "[C" (.ref t1) ∧ Fld Z h a1 "com/example/endcon/endcon/yaml/Cursor" "end" "I" (.int v_end) ∧ Fld Z h a1 "com/example/endcon/endcon/yaml/Cursor" "pos" "I" (.int p2) ∧ Fld Z h a1 "com/example/endcon/endcon/yaml/Cursor" "line" "I" (.int v_line) ∧ Fld Z h a1 "com/example/endcon/endcon/yaml/Cursor" "lineStart" "I" (.int v_ls)
set_option maxRecDepth 65536 in
set_option maxHeartbeats 40000000 in
theorem rm5 (l : Launch) (Z : State) (a0 : Array Value) (hw : ∀ d ∈ tables_1, d.before a0 Z = true) (ws : List Jvm.Cond) (a1 : Addr) (p2 : Int32) (t1 : Addr) (v_end : Int32) (v_pos : Int32) (v_line : Int32) (v_ls : Int32) (h0 : Heap) (n0 : Nat) (Z0 : n0 ≤ h0.size) (E_a1 : Exa Z h0 a1 "com/example/endcon/endcon/yaml/Cursor") (F_a1_text : Fld Z h0 a1 "com/example/endcon/endcon/yaml/Cursor" "text" "[C" (.ref t1)) (F_a1_end : Fld Z h0 a1 "com/example/endcon/endcon/yaml/Cursor" "end" "I" (.int v_end)) (F_a1_pos : Fld Z h0 a1 "com/example/endcon/endcon/yaml/Cursor" "pos" "I" (.int v_pos)) (F_a1_line : Fld Z h0 a1 "com/example/endcon/endcon/yaml/Cursor" "line" "I" (.int v_line)) (F_a1_lineStart : Fld Z h0 a1 "com/example/endcon/endcon/yaml/Cursor" "lineStart" "I" (.int v_ls)) (g_a1 : n0 ≤ a1) :
    MetFree l (⟨"com/example/endcon/endcon/yaml/Cursor", "moveTo", "(I)V"⟩ : MethodName) (head1 (Jvm.Cond.code (⟨"com/example/endcon/endcon/yaml/Cursor", "moveTo", "(I)V"⟩ : MethodName) prog_114_method_27_code 2 none :: ws) ({ frames := 0, cells := 0, slots := 0, locals := 0 } : Room)) (fun a U => a = #[(.ref a1), (.int p2)] ∧ Z.Warmed39 U.vm ∧ U.heap = h0) (fun _ _ _ _ _ => True) (fun _ U o U' => ∃ v L, o = .returned v ∧ Q5 Z a1 p2 t1 v_end v_pos v_line v_ls h0 n0 v U'.heap L ∧ FrameEnd U o U' L ({ frames := 0, cells := 0, slots := 0, locals := 0 } : Room).cells ({ frames := 0, cells := 0, slots := 0, locals := 0 } : Room).slots) := by
  refine MetFree.of_bodySF (plainFor_of_name pn_5) hisR ?_
  intro p e s m args below meth c s₁ Bd hml0 hP hK
  obtain ⟨rfl, hZ, hh⟩ := hP
  have hx := Bd.exec
  have hby := Bd.bytes
  have hml : c.maxLocals = 2 := hml0
  have hown : s.vm.findClass "com/example/endcon/endcon/yaml/Cursor" = some m.cls := findClass_of_methodNamed Bd.named
  have hnm := (name_of_methodNamed Bd.named Bd.method).1
  have X0 : Stand p l e ({ frames := 0, cells := 0, slots := 0, locals := 0 } : Room) s m #[(.ref a1), (.int p2)] below meth c s₁ [] 0 0 := Stand.of_body Bd
  have e0 : s₁.heap = h0 := by rw [← hh, Bd.state]; rfl
  have N0 := Fr.nil n0
  have pre0 : ∀ t, Steps p.tables e below (s₁.setTop (mkF m 0 #[.val (.ref a1), .val (.int p2)] [])) t → Steps p.tables e below (s₁.setTop (entryFrame m #[(.ref a1), (.int p2)] 2)) t := fun t k => castTop (ef_5 m a1 p2) k
  obtain ⟨T1, h1, X1, e1, W1, st1⟩ := putF X0 hx hZ hown (host := "") (Or.inl (hw _ (List.mem_of_getElem? (i := 48) rfl))) Via.refl e0 F_a1_pos E_a1 (Or.inl (hw _ (List.mem_of_getElem? (i := 49) rfl))) (hw _ (List.mem_of_getElem? (i := 7) rfl)) (ty := .int) (by decide) rfl rfl (g := (mkF m 2 #[.val (.ref a1), .val (.int p2)] [(.int p2), (.ref a1)])) rfl rfl (hb hby d5_2)
  have Fw1 : Fld Z h1 a1 "com/example/endcon/endcon/yaml/Cursor" "pos" "I" (.int p2) := F_a1_pos.same W1
  have zs2 : n0 ≤ h1.size := Nat.le_trans Z0 (Keep.of_wr W1).1
  have kp3 : Keep h0 h1 [a1] := (Keep.refl h0 [a1]).wr W1 (Or.inl (List.mem_of_getElem? (i := 0) rfl))
  have N1 := Fr.snoc X1 N0 g_a1
  obtain ⟨fs, hr, hrun, hended, hW, hsame⟩ := X1.leave (v := none) (fun _ => rfl)
  refine ⟨_, _, pre0 _ ?_, hrun, hended, _, _, rfl, ?_, ⟨_, rfl⟩, hW, hsame.mono (by decide) (by decide)⟩
  · show Steps p.tables e below (s₁.setTop (mkF m 0 #[.val (.ref a1), .val (.int p2)] [])) _
    refine own_blk X0 hx bl5_0_2 (own_hb hby bd5_0_2) (pc' := 2) (Ls' := #[.val (.ref a1), .val (.int p2)]) (st' := [(.int p2), (.ref a1)]) rfl ?_
    refine st1 _ ?_
    show Steps p.tables e below (T1.setTop (mkF m 5 #[.val (.ref a1), .val (.int p2)] [])) _
    exact X1.returnOut hx Bd.returns (hb hby d5_5) hr
  · show Q5 Z a1 p2 t1 v_end v_pos v_line v_ls h0 n0 _ T1.heap _
    rw [e1]
    have fa4 : Exa Z h1 a1 "com/example/endcon/endcon/yaml/Cursor" := (E_a1.wr W1)
    have fa5 : Fld Z h1 a1 "com/example/endcon/endcon/yaml/Cursor" "text" "[C" (.ref t1) := (F_a1_text.other W1 (Or.inr (slot_ne (Or.inl (hw _ (List.mem_of_getElem? (i := 32) rfl))) (Or.inl (hw _ (List.mem_of_getElem? (i := 49) rfl))) (by decide) (t := (.array .char)) (t' := .int) (by decide) (by decide))))
    have lf6 := fa5
    have fa7 : Fld Z h1 a1 "com/example/endcon/endcon/yaml/Cursor" "end" "I" (.int v_end) := (F_a1_end.other W1 (Or.inr (slot_ne (Or.inr (hw _ (List.mem_of_getElem? (i := 34) rfl))) (Or.inl (hw _ (List.mem_of_getElem? (i := 49) rfl))) (by decide) (t := .int) (t' := .int) (by decide) (by decide))))
    have lf8 := fa7
    have lf9 := Fw1
    have fa10 : Fld Z h1 a1 "com/example/endcon/endcon/yaml/Cursor" "line" "I" (.int v_line) := (F_a1_line.other W1 (Or.inr (slot_ne (Or.inl (hw _ (List.mem_of_getElem? (i := 24) rfl))) (Or.inl (hw _ (List.mem_of_getElem? (i := 49) rfl))) (by decide) (t := .int) (t' := .int) (by decide) (by decide))))
    have lf11 := fa10
    have fa12 : Fld Z h1 a1 "com/example/endcon/endcon/yaml/Cursor" "lineStart" "I" (.int v_ls) := (F_a1_lineStart.other W1 (Or.inr (slot_ne (Or.inl (hw _ (List.mem_of_getElem? (i := 56) rfl))) (Or.inl (hw _ (List.mem_of_getElem? (i := 49) rfl))) (by decide) (t := .int) (t' := .int) (by decide) (by decide))))
    have lf13 := fa12
    exact ⟨rfl, N1, kp3, fa4, lf6, lf8, lf9, lf11, lf13⟩
theorem d7_0 : decode prog_114_method_2_code 0 = .ok (.aload_n 0, 1) := by decide +kernel
theorem d7_1 : decode prog_114_method_2_code 1 = .ok (.getfield 41, 3) := by decide +kernel
theorem d7_4 : decode prog_114_method_2_code 4 = .ok (.ireturn, 1) := by decide +kernel
theorem pn_7 : plainName "com/example/endcon/endcon/yaml/Cursor" = true := by first | (simp [plainName, overriddenIn]; done) | decide +kernel
theorem ef_7 (m : MethodId) (x0 : Addr) : entryFrame m #[(.ref x0)] 1 = mkF m 0 #[.val (.ref x0)] [] := by first | (simp [entryFrame, mkF, argsToLocals, Value.category]; done) | rfl
def bl7_0_1 : List (Nat × Instr × Nat) := [(0, .aload_n 0, 1)]
theorem bd7_0_1 : own_dec prog_114_method_2_code bl7_0_1 = true := by decide +kernel

def f7 (v_x : Int32) : Int32 := v_x
def Q7 (Z : State) (a1 : Addr) (v_x : Int32) (h0 : Heap) (n0 : Nat) (v : Option Value) (h : Heap) (L : List Loc) : Prop := v = some (.int (f7 v_x)) ∧ Fr n0 L ∧ h = h0
set_option maxRecDepth 65536 in
set_option maxHeartbeats 40000000 in
theorem rm7 (l : Launch) (Z : State) (a0 : Array Value) (hw : ∀ d ∈ tables_1, d.before a0 Z = true) (ws : List Jvm.Cond) (a1 : Addr) (v_x : Int32) (h0 : Heap) (n0 : Nat) (Z0 : n0 ≤ h0.size) (E_a1 : Exa Z h0 a1 "com/example/endcon/endcon/yaml/Cursor") (F_a1_pos : Fld Z h0 a1 "com/example/endcon/endcon/yaml/Cursor" "pos" "I" (.int v_x)) :
    MetFree l (⟨"com/example/endcon/endcon/yaml/Cursor", "index", "()I"⟩ : MethodName) (head1 (Jvm.Cond.code (⟨"com/example/endcon/endcon/yaml/Cursor", "index", "()I"⟩ : MethodName) prog_114_method_2_code 1 (some .int) :: ws) ({ frames := 0, cells := 0, slots := 0, locals := 0 } : Room)) (fun a U => a = #[(.ref a1)] ∧ Z.Warmed39 U.vm ∧ U.heap = h0) (fun _ _ _ _ _ => True) (fun _ U o U' => ∃ v L, o = .returned v ∧ Q7 Z a1 v_x h0 n0 v U'.heap L ∧ FrameEnd U o U' L ({ frames := 0, cells := 0, slots := 0, locals := 0 } : Room).cells ({ frames := 0, cells := 0, slots := 0, locals := 0 } : Room).slots) := by
  refine MetFree.of_bodySF (plainFor_of_name pn_7) hisR ?_
  intro p e s m args below meth c s₁ Bd hml0 hP hK
  obtain ⟨rfl, hZ, hh⟩ := hP
  have hx := Bd.exec
  have hby := Bd.bytes
  have hml : c.maxLocals = 1 := hml0
  have hown : s.vm.findClass "com/example/endcon/endcon/yaml/Cursor" = some m.cls := findClass_of_methodNamed Bd.named
  have hnm := (name_of_methodNamed Bd.named Bd.method).1
  have X0 : Stand p l e ({ frames := 0, cells := 0, slots := 0, locals := 0 } : Room) s m #[(.ref a1)] below meth c s₁ [] 0 0 := Stand.of_body Bd
  have e0 : s₁.heap = h0 := by rw [← hh, Bd.state]; rfl
  have N0 := Fr.nil n0
  have pre0 : ∀ t, Steps p.tables e below (s₁.setTop (mkF m 0 #[.val (.ref a1)] [])) t → Steps p.tables e below (s₁.setTop (entryFrame m #[(.ref a1)] 1)) t := fun t k => castTop (ef_7 m a1) k
  obtain ⟨T1, X1, e1, st1⟩ := getF X0 hx hZ hown (host := "") (Or.inl (hw _ (List.mem_of_getElem? (i := 48) rfl))) Via.refl e0 F_a1_pos (g := (mkF m 1 #[.val (.ref a1)] [(.ref a1)])) rfl rfl (hb hby d7_1)
  obtain ⟨fs, hr, hrun, hended, hW, hsame⟩ := X1.leave (v := some (.int v_x)) (fun h => by rw [Bd.returns] at h; cases h)
  refine ⟨_, _, pre0 _ ?_, hrun, hended, _, _, rfl, ?_, ⟨_, rfl⟩, hW, hsame.mono (by decide) (by decide)⟩
  · show Steps p.tables e below (s₁.setTop (mkF m 0 #[.val (.ref a1)] [])) _
    refine own_blk X0 hx bl7_0_1 (own_hb hby bd7_0_1) (pc' := 1) (Ls' := #[.val (.ref a1)]) (st' := [(.ref a1)]) rfl ?_
    refine st1 _ ?_
    show Steps p.tables e below (T1.setTop (mkF m 4 #[.val (.ref a1)] [(.int v_x)])) _
    exact retI X1 hx Bd.returns (hb hby d7_4) hr
  · show Q7 Z a1 v_x h0 n0 _ T1.heap _
    rw [e1]
    exact ⟨by rw [f7], N0, rfl⟩
theorem d8_0 : decode prog_114_method_4_code 0 = .ok (.aload_n 0, 1) := by decide +kernel
theorem d8_1 : decode prog_114_method_4_code 1 = .ok (.getfield 7, 3) := by decide +kernel
theorem d8_4 : decode prog_114_method_4_code 4 = .ok (.ireturn, 1) := by decide +kernel
theorem pn_8 : plainName "com/example/endcon/endcon/yaml/Cursor" = true := by first | (simp [plainName, overriddenIn]; done) | decide +kernel
theorem ef_8 (m : MethodId) (x0 : Addr) : entryFrame m #[(.ref x0)] 1 = mkF m 0 #[.val (.ref x0)] [] := by first | (simp [entryFrame, mkF, argsToLocals, Value.category]; done) | rfl
def bl8_0_1 : List (Nat × Instr × Nat) := [(0, .aload_n 0, 1)]
theorem bd8_0_1 : own_dec prog_114_method_4_code bl8_0_1 = true := by decide +kernel

def f8 (v_x : Int32) : Int32 := v_x
def Q8 (Z : State) (a1 : Addr) (v_x : Int32) (h0 : Heap) (n0 : Nat) (v : Option Value) (h : Heap) (L : List Loc) : Prop := v = some (.int (f8 v_x)) ∧ Fr n0 L ∧ h = h0
set_option maxRecDepth 65536 in
set_option maxHeartbeats 40000000 in
theorem rm8 (l : Launch) (Z : State) (a0 : Array Value) (hw : ∀ d ∈ tables_1, d.before a0 Z = true) (ws : List Jvm.Cond) (a1 : Addr) (v_x : Int32) (h0 : Heap) (n0 : Nat) (Z0 : n0 ≤ h0.size) (E_a1 : Exa Z h0 a1 "com/example/endcon/endcon/yaml/Cursor") (F_a1_line : Fld Z h0 a1 "com/example/endcon/endcon/yaml/Cursor" "line" "I" (.int v_x)) :
    MetFree l (⟨"com/example/endcon/endcon/yaml/Cursor", "line", "()I"⟩ : MethodName) (head1 (Jvm.Cond.code (⟨"com/example/endcon/endcon/yaml/Cursor", "line", "()I"⟩ : MethodName) prog_114_method_4_code 1 (some .int) :: ws) ({ frames := 0, cells := 0, slots := 0, locals := 0 } : Room)) (fun a U => a = #[(.ref a1)] ∧ Z.Warmed39 U.vm ∧ U.heap = h0) (fun _ _ _ _ _ => True) (fun _ U o U' => ∃ v L, o = .returned v ∧ Q8 Z a1 v_x h0 n0 v U'.heap L ∧ FrameEnd U o U' L ({ frames := 0, cells := 0, slots := 0, locals := 0 } : Room).cells ({ frames := 0, cells := 0, slots := 0, locals := 0 } : Room).slots) := by
  refine MetFree.of_bodySF (plainFor_of_name pn_8) hisR ?_
  intro p e s m args below meth c s₁ Bd hml0 hP hK
  obtain ⟨rfl, hZ, hh⟩ := hP
  have hx := Bd.exec
  have hby := Bd.bytes
  have hml : c.maxLocals = 1 := hml0
  have hown : s.vm.findClass "com/example/endcon/endcon/yaml/Cursor" = some m.cls := findClass_of_methodNamed Bd.named
  have hnm := (name_of_methodNamed Bd.named Bd.method).1
  have X0 : Stand p l e ({ frames := 0, cells := 0, slots := 0, locals := 0 } : Room) s m #[(.ref a1)] below meth c s₁ [] 0 0 := Stand.of_body Bd
  have e0 : s₁.heap = h0 := by rw [← hh, Bd.state]; rfl
  have N0 := Fr.nil n0
  have pre0 : ∀ t, Steps p.tables e below (s₁.setTop (mkF m 0 #[.val (.ref a1)] [])) t → Steps p.tables e below (s₁.setTop (entryFrame m #[(.ref a1)] 1)) t := fun t k => castTop (ef_8 m a1) k
  obtain ⟨T1, X1, e1, st1⟩ := getF X0 hx hZ hown (host := "") (Or.inl (hw _ (List.mem_of_getElem? (i := 23) rfl))) Via.refl e0 F_a1_line (g := (mkF m 1 #[.val (.ref a1)] [(.ref a1)])) rfl rfl (hb hby d8_1)
  obtain ⟨fs, hr, hrun, hended, hW, hsame⟩ := X1.leave (v := some (.int v_x)) (fun h => by rw [Bd.returns] at h; cases h)
  refine ⟨_, _, pre0 _ ?_, hrun, hended, _, _, rfl, ?_, ⟨_, rfl⟩, hW, hsame.mono (by decide) (by decide)⟩
  · show Steps p.tables e below (s₁.setTop (mkF m 0 #[.val (.ref a1)] [])) _
    refine own_blk X0 hx bl8_0_1 (own_hb hby bd8_0_1) (pc' := 1) (Ls' := #[.val (.ref a1)]) (st' := [(.ref a1)]) rfl ?_
    refine st1 _ ?_
    show Steps p.tables e below (T1.setTop (mkF m 4 #[.val (.ref a1)] [(.int v_x)])) _
    exact retI X1 hx Bd.returns (hb hby d8_4) hr
  · show Q8 Z a1 v_x h0 n0 _ T1.heap _
    rw [e1]
    exact ⟨by rw [f8], N0, rfl⟩
theorem d9_0 : decode prog_114_method_5_code 0 = .ok (.aload_n 0, 1) := by decide +kernel
theorem d9_1 : decode prog_114_method_5_code 1 = .ok (.getfield 44, 3) := by decide +kernel
theorem d9_4 : decode prog_114_method_5_code 4 = .ok (.ireturn, 1) := by decide +kernel
theorem pn_9 : plainName "com/example/endcon/endcon/yaml/Cursor" = true := by first | (simp [plainName, overriddenIn]; done) | decide +kernel
theorem ef_9 (m : MethodId) (x0 : Addr) : entryFrame m #[(.ref x0)] 1 = mkF m 0 #[.val (.ref x0)] [] := by first | (simp [entryFrame, mkF, argsToLocals, Value.category]; done) | rfl
def bl9_0_1 : List (Nat × Instr × Nat) := [(0, .aload_n 0, 1)]
theorem bd9_0_1 : own_dec prog_114_method_5_code bl9_0_1 = true := by decide +kernel

def f9 (v_x : Int32) : Int32 := v_x
def Q9 (Z : State) (a1 : Addr) (v_x : Int32) (h0 : Heap) (n0 : Nat) (v : Option Value) (h : Heap) (L : List Loc) : Prop := v = some (.int (f9 v_x)) ∧ Fr n0 L ∧ h = h0
set_option maxRecDepth 65536 in
set_option maxHeartbeats 40000000 in
theorem rm9 (l : Launch) (Z : State) (a0 : Array Value) (hw : ∀ d ∈ tables_1, d.before a0 Z = true) (ws : List Jvm.Cond) (a1 : Addr) (v_x : Int32) (h0 : Heap) (n0 : Nat) (Z0 : n0 ≤ h0.size) (E_a1 : Exa Z h0 a1 "com/example/endcon/endcon/yaml/Cursor") (F_a1_lineStart : Fld Z h0 a1 "com/example/endcon/endcon/yaml/Cursor" "lineStart" "I" (.int v_x)) :
    MetFree l (⟨"com/example/endcon/endcon/yaml/Cursor", "lineStart", "()I"⟩ : MethodName) (head1 (Jvm.Cond.code (⟨"com/example/endcon/endcon/yaml/Cursor", "lineStart", "()I"⟩ : MethodName) prog_114_method_5_code 1 (some .int) :: ws) ({ frames := 0, cells := 0, slots := 0, locals := 0 } : Room)) (fun a U => a = #[(.ref a1)] ∧ Z.Warmed39 U.vm ∧ U.heap = h0) (fun _ _ _ _ _ => True) (fun _ U o U' => ∃ v L, o = .returned v ∧ Q9 Z a1 v_x h0 n0 v U'.heap L ∧ FrameEnd U o U' L ({ frames := 0, cells := 0, slots := 0, locals := 0 } : Room).cells ({ frames := 0, cells := 0, slots := 0, locals := 0 } : Room).slots) := by
  refine MetFree.of_bodySF (plainFor_of_name pn_9) hisR ?_
  intro p e s m args below meth c s₁ Bd hml0 hP hK
  obtain ⟨rfl, hZ, hh⟩ := hP
  have hx := Bd.exec
  have hby := Bd.bytes
  have hml : c.maxLocals = 1 := hml0
  have hown : s.vm.findClass "com/example/endcon/endcon/yaml/Cursor" = some m.cls := findClass_of_methodNamed Bd.named
  have hnm := (name_of_methodNamed Bd.named Bd.method).1
  have X0 : Stand p l e ({ frames := 0, cells := 0, slots := 0, locals := 0 } : Room) s m #[(.ref a1)] below meth c s₁ [] 0 0 := Stand.of_body Bd
  have e0 : s₁.heap = h0 := by rw [← hh, Bd.state]; rfl
  have N0 := Fr.nil n0
  have pre0 : ∀ t, Steps p.tables e below (s₁.setTop (mkF m 0 #[.val (.ref a1)] [])) t → Steps p.tables e below (s₁.setTop (entryFrame m #[(.ref a1)] 1)) t := fun t k => castTop (ef_9 m a1) k
  obtain ⟨T1, X1, e1, st1⟩ := getF X0 hx hZ hown (host := "") (Or.inl (hw _ (List.mem_of_getElem? (i := 55) rfl))) Via.refl e0 F_a1_lineStart (g := (mkF m 1 #[.val (.ref a1)] [(.ref a1)])) rfl rfl (hb hby d9_1)
  obtain ⟨fs, hr, hrun, hended, hW, hsame⟩ := X1.leave (v := some (.int v_x)) (fun h => by rw [Bd.returns] at h; cases h)
  refine ⟨_, _, pre0 _ ?_, hrun, hended, _, _, rfl, ?_, ⟨_, rfl⟩, hW, hsame.mono (by decide) (by decide)⟩
  · show Steps p.tables e below (s₁.setTop (mkF m 0 #[.val (.ref a1)] [])) _
    refine own_blk X0 hx bl9_0_1 (own_hb hby bd9_0_1) (pc' := 1) (Ls' := #[.val (.ref a1)]) (st' := [(.ref a1)]) rfl ?_
    refine st1 _ ?_
    show Steps p.tables e below (T1.setTop (mkF m 4 #[.val (.ref a1)] [(.int v_x)])) _
    exact retI X1 hx Bd.returns (hb hby d9_4) hr
  · show Q9 Z a1 v_x h0 n0 _ T1.heap _
    rw [e1]
    exact ⟨by rw [f9], N0, rfl⟩
def own_at4 (a b c d j : Int32) : Int32 := if j = 0 then a else if j = 1 then b else if j = 2 then c else d
theorem own_j4 {j : Int32} (h0 : ¬ j < 0) (h1 : j < 4) : j = 0 ∨ j = 1 ∨ j = 2 ∨ j = 3 := by
  have l4 : (4 : Int32).toInt = 4 := by decide
  have h2 : j.toInt < (4 : Nat) := by rw [Int32.lt_iff_toInt_lt, l4] at h1; exact h1
  exact own_small (n := 4) (fun j => j = 0 ∨ j = 1 ∨ j = 2 ∨ j = 3) (by decide +kernel) h0 h2
theorem own_at4_ok (a b c d : Int32) {j : Int32} (h0 : ¬ j < 0) (h1 : j < 4) : [Value.int a, .int b, .int c, .int d].getD j.toNatClampNeg (.int (0 : Int32)) = .int (own_at4 a b c d j) := by
  rcases own_j4 h0 h1 with rfl | rfl | rfl | rfl <;> rfl
theorem d6_0 : decode prog_114_method_28_code 0 = .ok (.aload_n 0, 1) := by decide +kernel
theorem d6_1 : decode prog_114_method_28_code 1 = .ok (.getfield 23, 3) := by decide +kernel
theorem d6_4 : decode prog_114_method_28_code 4 = .ok (.aload_n 0, 1) := by decide +kernel
theorem d6_5 : decode prog_114_method_28_code 5 = .ok (.getfield 41, 3) := by decide +kernel
theorem d6_8 : decode prog_114_method_28_code 8 = .ok (.caload, 1) := by decide +kernel
theorem d6_9 : decode prog_114_method_28_code 9 = .ok (.bipush 13, 2) := by decide +kernel
theorem d6_11 : decode prog_114_method_28_code 11 = .ok (.if_icmp .ne 20, 3) := by decide +kernel
theorem d6_14 : decode prog_114_method_28_code 14 = .ok (.aload_n 0, 1) := by decide +kernel
theorem d6_15 : decode prog_114_method_28_code 15 = .ok (.getfield 41, 3) := by decide +kernel
theorem d6_18 : decode prog_114_method_28_code 18 = .ok (.iconst 1, 1) := by decide +kernel
theorem d6_19 : decode prog_114_method_28_code 19 = .ok (.iadd, 1) := by decide +kernel
theorem d6_20 : decode prog_114_method_28_code 20 = .ok (.aload_n 0, 1) := by decide +kernel
theorem d6_21 : decode prog_114_method_28_code 21 = .ok (.getfield 27, 3) := by decide +kernel
theorem d6_24 : decode prog_114_method_28_code 24 = .ok (.if_icmp .ne 7, 3) := by decide +kernel
theorem d6_27 : decode prog_114_method_28_code 27 = .ok (.iconst 1, 1) := by decide +kernel
theorem d6_28 : decode prog_114_method_28_code 28 = .ok (.goto 4, 3) := by decide +kernel
theorem d6_31 : decode prog_114_method_28_code 31 = .ok (.iconst 0, 1) := by decide +kernel
theorem d6_32 : decode prog_114_method_28_code 32 = .ok (.istore_n 1, 1) := by decide +kernel
theorem d6_33 : decode prog_114_method_28_code 33 = .ok (.aload_n 0, 1) := by decide +kernel
theorem d6_34 : decode prog_114_method_28_code 34 = .ok (.dup, 1) := by decide +kernel
theorem d6_35 : decode prog_114_method_28_code 35 = .ok (.getfield 41, 3) := by decide +kernel
theorem d6_38 : decode prog_114_method_28_code 38 = .ok (.aload_n 0, 1) := by decide +kernel
theorem d6_39 : decode prog_114_method_28_code 39 = .ok (.getfield 23, 3) := by decide +kernel
theorem d6_42 : decode prog_114_method_28_code 42 = .ok (.aload_n 0, 1) := by decide +kernel
theorem d6_43 : decode prog_114_method_28_code 43 = .ok (.getfield 41, 3) := by decide +kernel
theorem d6_46 : decode prog_114_method_28_code 46 = .ok (.caload, 1) := by decide +kernel
theorem d6_47 : decode prog_114_method_28_code 47 = .ok (.bipush 13, 2) := by decide +kernel
theorem d6_49 : decode prog_114_method_28_code 49 = .ok (.if_icmp .ne 36, 3) := by decide +kernel
theorem d6_52 : decode prog_114_method_28_code 52 = .ok (.aload_n 0, 1) := by decide +kernel
theorem d6_53 : decode prog_114_method_28_code 53 = .ok (.getfield 41, 3) := by decide +kernel
theorem d6_56 : decode prog_114_method_28_code 56 = .ok (.iconst 1, 1) := by decide +kernel
theorem d6_57 : decode prog_114_method_28_code 57 = .ok (.iadd, 1) := by decide +kernel
theorem d6_58 : decode prog_114_method_28_code 58 = .ok (.aload_n 0, 1) := by decide +kernel
theorem d6_59 : decode prog_114_method_28_code 59 = .ok (.getfield 27, 3) := by decide +kernel
theorem d6_62 : decode prog_114_method_28_code 62 = .ok (.if_icmp .ge 23, 3) := by decide +kernel
theorem d6_65 : decode prog_114_method_28_code 65 = .ok (.aload_n 0, 1) := by decide +kernel
theorem d6_66 : decode prog_114_method_28_code 66 = .ok (.getfield 23, 3) := by decide +kernel
theorem d6_69 : decode prog_114_method_28_code 69 = .ok (.aload_n 0, 1) := by decide +kernel
theorem d6_70 : decode prog_114_method_28_code 70 = .ok (.getfield 41, 3) := by decide +kernel
theorem d6_73 : decode prog_114_method_28_code 73 = .ok (.iconst 1, 1) := by decide +kernel
theorem d6_74 : decode prog_114_method_28_code 74 = .ok (.iadd, 1) := by decide +kernel
theorem d6_75 : decode prog_114_method_28_code 75 = .ok (.caload, 1) := by decide +kernel
theorem d6_76 : decode prog_114_method_28_code 76 = .ok (.bipush 10, 2) := by decide +kernel
theorem d6_78 : decode prog_114_method_28_code 78 = .ok (.if_icmp .ne 7, 3) := by decide +kernel
theorem d6_81 : decode prog_114_method_28_code 81 = .ok (.iconst 2, 1) := by decide +kernel
theorem d6_82 : decode prog_114_method_28_code 82 = .ok (.goto 4, 3) := by decide +kernel
theorem d6_85 : decode prog_114_method_28_code 85 = .ok (.iconst 1, 1) := by decide +kernel
theorem d6_86 : decode prog_114_method_28_code 86 = .ok (.iadd, 1) := by decide +kernel
theorem d6_87 : decode prog_114_method_28_code 87 = .ok (.putfield 41, 3) := by decide +kernel
theorem d6_90 : decode prog_114_method_28_code 90 = .ok (.iload_n 1, 1) := by decide +kernel
theorem d6_91 : decode prog_114_method_28_code 91 = .ok (.ifCond .ne 21, 3) := by decide +kernel
theorem d6_94 : decode prog_114_method_28_code 94 = .ok (.aload_n 0, 1) := by decide +kernel
theorem d6_95 : decode prog_114_method_28_code 95 = .ok (.dup, 1) := by decide +kernel
theorem d6_96 : decode prog_114_method_28_code 96 = .ok (.getfield 7, 3) := by decide +kernel
theorem d6_99 : decode prog_114_method_28_code 99 = .ok (.iconst 1, 1) := by decide +kernel
theorem d6_100 : decode prog_114_method_28_code 100 = .ok (.iadd, 1) := by decide +kernel
theorem d6_101 : decode prog_114_method_28_code 101 = .ok (.putfield 7, 3) := by decide +kernel
theorem d6_104 : decode prog_114_method_28_code 104 = .ok (.aload_n 0, 1) := by decide +kernel
theorem d6_105 : decode prog_114_method_28_code 105 = .ok (.aload_n 0, 1) := by decide +kernel
theorem d6_106 : decode prog_114_method_28_code 106 = .ok (.getfield 41, 3) := by decide +kernel
theorem d6_109 : decode prog_114_method_28_code 109 = .ok (.putfield 44, 3) := by decide +kernel
theorem d6_112 : decode prog_114_method_28_code 112 = .ok (.return_, 1) := by decide +kernel
theorem pn_6 : plainName "com/example/endcon/endcon/yaml/Cursor" = true := by first | (simp [plainName, overriddenIn]; done) | decide +kernel
theorem ef_6 (m : MethodId) (x0 : Addr) : entryFrame m #[(.ref x0)] 2 = mkF m 0 #[.val (.ref x0), .unset] [] := by first | (simp [entryFrame, mkF, argsToLocals, Value.category]; done) | rfl
def bl6_0_1 : List (Nat × Instr × Nat) := [(0, .aload_n 0, 1)]
theorem bd6_0_1 : own_dec prog_114_method_28_code bl6_0_1 = true := by decide +kernel
def bl6_4_1 : List (Nat × Instr × Nat) := [(4, .aload_n 0, 1)]
theorem bd6_4_1 : own_dec prog_114_method_28_code bl6_4_1 = true := by decide +kernel
def bl6_9_1 : List (Nat × Instr × Nat) := [(9, .bipush 13, 2)]
theorem bd6_9_1 : own_dec prog_114_method_28_code bl6_9_1 = true := by decide +kernel
def bl6_14_1 : List (Nat × Instr × Nat) := [(14, .aload_n 0, 1)]
theorem bd6_14_1 : own_dec prog_114_method_28_code bl6_14_1 = true := by decide +kernel
def bl6_18_3 : List (Nat × Instr × Nat) := [(18, .iconst 1, 1), (19, .iadd, 1), (20, .aload_n 0, 1)]
theorem bd6_18_3 : own_dec prog_114_method_28_code bl6_18_3 = true := by decide +kernel
def bl6_27_3 : List (Nat × Instr × Nat) := [(27, .iconst 1, 1), (28, .goto 4, 3), (32, .istore_n 1, 1)]
theorem bd6_27_3 : own_dec prog_114_method_28_code bl6_27_3 = true := by decide +kernel
def bl6_33_2 : List (Nat × Instr × Nat) := [(33, .aload_n 0, 1), (34, .dup, 1)]
theorem bd6_33_2 : own_dec prog_114_method_28_code bl6_33_2 = true := by decide +kernel
def bl6_38_1 : List (Nat × Instr × Nat) := [(38, .aload_n 0, 1)]
theorem bd6_38_1 : own_dec prog_114_method_28_code bl6_38_1 = true := by decide +kernel
def bl6_42_1 : List (Nat × Instr × Nat) := [(42, .aload_n 0, 1)]
theorem bd6_42_1 : own_dec prog_114_method_28_code bl6_42_1 = true := by decide +kernel
def bl6_47_1 : List (Nat × Instr × Nat) := [(47, .bipush 13, 2)]
theorem bd6_47_1 : own_dec prog_114_method_28_code bl6_47_1 = true := by decide +kernel
def bl6_52_1 : List (Nat × Instr × Nat) := [(52, .aload_n 0, 1)]
theorem bd6_52_1 : own_dec prog_114_method_28_code bl6_52_1 = true := by decide +kernel
def bl6_56_3 : List (Nat × Instr × Nat) := [(56, .iconst 1, 1), (57, .iadd, 1), (58, .aload_n 0, 1)]
theorem bd6_56_3 : own_dec prog_114_method_28_code bl6_56_3 = true := by decide +kernel
def bl6_65_1 : List (Nat × Instr × Nat) := [(65, .aload_n 0, 1)]
theorem bd6_65_1 : own_dec prog_114_method_28_code bl6_65_1 = true := by decide +kernel
def bl6_69_1 : List (Nat × Instr × Nat) := [(69, .aload_n 0, 1)]
theorem bd6_69_1 : own_dec prog_114_method_28_code bl6_69_1 = true := by decide +kernel
def bl6_73_2 : List (Nat × Instr × Nat) := [(73, .iconst 1, 1), (74, .iadd, 1)]
theorem bd6_73_2 : own_dec prog_114_method_28_code bl6_73_2 = true := by decide +kernel
def bl6_76_1 : List (Nat × Instr × Nat) := [(76, .bipush 10, 2)]
theorem bd6_76_1 : own_dec prog_114_method_28_code bl6_76_1 = true := by decide +kernel
def bl6_81_3 : List (Nat × Instr × Nat) := [(81, .iconst 2, 1), (82, .goto 4, 3), (86, .iadd, 1)]
theorem bd6_81_3 : own_dec prog_114_method_28_code bl6_81_3 = true := by decide +kernel
def bl6_90_1 : List (Nat × Instr × Nat) := [(90, .iload_n 1, 1)]
theorem bd6_90_1 : own_dec prog_114_method_28_code bl6_90_1 = true := by decide +kernel
def bl6_85_2 : List (Nat × Instr × Nat) := [(85, .iconst 1, 1), (86, .iadd, 1)]
theorem bd6_85_2 : own_dec prog_114_method_28_code bl6_85_2 = true := by decide +kernel
def bl6_31_2 : List (Nat × Instr × Nat) := [(31, .iconst 0, 1), (32, .istore_n 1, 1)]
theorem bd6_31_2 : own_dec prog_114_method_28_code bl6_31_2 = true := by decide +kernel
def bl6_94_2 : List (Nat × Instr × Nat) := [(94, .aload_n 0, 1), (95, .dup, 1)]
theorem bd6_94_2 : own_dec prog_114_method_28_code bl6_94_2 = true := by decide +kernel
def bl6_99_2 : List (Nat × Instr × Nat) := [(99, .iconst 1, 1), (100, .iadd, 1)]
theorem bd6_99_2 : own_dec prog_114_method_28_code bl6_99_2 = true := by decide +kernel
def bl6_104_2 : List (Nat × Instr × Nat) := [(104, .aload_n 0, 1), (105, .aload_n 0, 1)]
theorem bd6_104_2 : own_dec prog_114_method_28_code bl6_104_2 = true := by decide +kernel

def f6_a1_pos (c0 : Int32) (c1 : Int32) (c2 : Int32) (c3 : Int32) (v_end : Int32) (v_pos : Int32) (v_line : Int32) (v_ls : Int32) : Int32 := (if (own_at4 c0 c1 c2 c3 v_pos) = (13 : Int32) then (if (v_pos + (1 : Int32)) = v_end then (if (v_pos + (1 : Int32)) < v_end then (if (own_at4 c0 c1 c2 c3 (v_pos + (1 : Int32))) = (10 : Int32) then (v_pos + (2 : Int32)) else (v_pos + (1 : Int32))) else (v_pos + (1 : Int32))) else (if (v_pos + (1 : Int32)) < v_end then (if (own_at4 c0 c1 c2 c3 (v_pos + (1 : Int32))) = (10 : Int32) then (v_pos + (2 : Int32)) else (v_pos + (1 : Int32))) else (v_pos + (1 : Int32)))) else (v_pos + (1 : Int32)))
def f6_a1_line (c0 : Int32) (c1 : Int32) (c2 : Int32) (c3 : Int32) (v_end : Int32) (v_pos : Int32) (v_line : Int32) (v_ls : Int32) : Int32 := (if (own_at4 c0 c1 c2 c3 v_pos) = (13 : Int32) then (if (v_pos + (1 : Int32)) = v_end then (if (v_pos + (1 : Int32)) < v_end then (if (own_at4 c0 c1 c2 c3 (v_pos + (1 : Int32))) = (10 : Int32) then v_line else v_line) else v_line) else (if (v_pos + (1 : Int32)) < v_end then (if (own_at4 c0 c1 c2 c3 (v_pos + (1 : Int32))) = (10 : Int32) then (v_line + (1 : Int32)) else (v_line + (1 : Int32))) else (v_line + (1 : Int32)))) else (v_line + (1 : Int32)))
def f6_a1_lineStart (c0 : Int32) (c1 : Int32) (c2 : Int32) (c3 : Int32) (v_end : Int32) (v_pos : Int32) (v_line : Int32) (v_ls : Int32) : Int32 := (if (own_at4 c0 c1 c2 c3 v_pos) = (13 : Int32) then (if (v_pos + (1 : Int32)) = v_end then (if (v_pos + (1 : Int32)) < v_end then (if (own_at4 c0 c1 c2 c3 (v_pos + (1 : Int32))) = (10 : Int32) then v_ls else v_ls) else v_ls) else (if (v_pos + (1 : Int32)) < v_end then (if (own_at4 c0 c1 c2 c3 (v_pos + (1 : Int32))) = (10 : Int32) then (v_pos + (2 : Int32)) else (v_pos + (1 : Int32))) else (v_pos + (1 : Int32)))) else (v_pos + (1 : Int32)))
def Q6 (Z : State) (a1 : Addr) (t1 : Addr) (c0 : Int32) (c1 : Int32) (c2 : Int32) (c3 : Int32) (v_end : Int32) (v_pos : Int32) (v_line : Int32) (v_ls : Int32) (k_t1 : ClassId) (h0 : Heap) (n0 : Nat) (v : Option Value) (h : Heap) (L : List Loc) : Prop := v = none ∧ Fr n0 L ∧ Keep h0 h [a1] ∧ Exa Z h a1 "com/example/endcon/endcon/yaml/Cursor" ∧ Fld Z h a1 "com/example/endcon/endcon/yaml/Cursor" "text" "[C" (.ref t1) ∧ Fld Z h a1 "com/example/endcon/endcon/yaml/Cursor" "end" "I" (.int v_end) ∧ Fld Z h a1 "com/example/endcon/endcon/yaml/Cursor" "pos" "I" (.int (f6_a1_pos c0 c1 c2 c3 v_end v_pos v_line v_ls)) ∧ Fld Z h a1 "com/example/endcon/endcon/yaml/Cursor" "line" "I" (.int (f6_a1_line c0 c1 c2 c3 v_end v_pos v_line v_ls)) ∧ Fld Z h a1 "com/example/endcon/endcon/yaml/Cursor" "lineStart" "I" (.int (f6_a1_lineStart c0 c1 c2 c3 v_end v_pos v_line v_ls))
set_option maxRecDepth 65536 in
set_option maxHeartbeats 40000000 in
theorem rm6 (l : Launch) (Z : State) (a0 : Array Value) (hw : ∀ d ∈ tables_1, d.before a0 Z = true) (ws : List Jvm.Cond) (a1 : Addr) (t1 : Addr) (c0 : Int32) (c1 : Int32) (c2 : Int32) (c3 : Int32) (v_end : Int32) (v_pos : Int32) (v_line : Int32) (v_ls : Int32) (k_t1 : ClassId) (h0 : Heap) (n0 : Nat) (Z0 : n0 ≤ h0.size) (E_a1 : Exa Z h0 a1 "com/example/endcon/endcon/yaml/Cursor") (F_a1_text : Fld Z h0 a1 "com/example/endcon/endcon/yaml/Cursor" "text" "[C" (.ref t1)) (F_a1_end : Fld Z h0 a1 "com/example/endcon/endcon/yaml/Cursor" "end" "I" (.int v_end)) (F_a1_pos : Fld Z h0 a1 "com/example/endcon/endcon/yaml/Cursor" "pos" "I" (.int v_pos)) (F_a1_line : Fld Z h0 a1 "com/example/endcon/endcon/yaml/Cursor" "line" "I" (.int v_line)) (F_a1_lineStart : Fld Z h0 a1 "com/example/endcon/endcon/yaml/Cursor" "lineStart" "I" (.int v_ls)) (g_a1 : n0 ≤ a1) (V_t1 : Arv Z h0 t1 k_t1 .char (4 : Int32) [(.int c0), (.int c1), (.int c2), (.int c3)] (.int (0 : Int32))) (ne_t1_a1 : t1 ≠ a1) (hp0 : ¬ (v_pos < 0)) (hp4 : v_pos < 4) (hq : (v_pos + (1 : Int32)) < v_end → ¬ ((v_pos + (1 : Int32)) < 0) ∧ (v_pos + (1 : Int32)) < 4) :
    MetFree l (⟨"com/example/endcon/endcon/yaml/Cursor", "newLine", "()V"⟩ : MethodName) (head1 (Jvm.Cond.code (⟨"com/example/endcon/endcon/yaml/Cursor", "newLine", "()V"⟩ : MethodName) prog_114_method_28_code 2 none :: ws) ({ frames := 0, cells := 0, slots := 0, locals := 0 } : Room)) (fun a U => a = #[(.ref a1)] ∧ Z.Warmed39 U.vm ∧ U.heap = h0) (fun _ _ _ _ _ => True) (fun _ U o U' => ∃ v L, o = .returned v ∧ Q6 Z a1 t1 c0 c1 c2 c3 v_end v_pos v_line v_ls k_t1 h0 n0 v U'.heap L ∧ FrameEnd U o U' L ({ frames := 0, cells := 0, slots := 0, locals := 0 } : Room).cells ({ frames := 0, cells := 0, slots := 0, locals := 0 } : Room).slots) := by
  refine MetFree.of_bodySF (plainFor_of_name pn_6) hisR ?_
  intro p e s m args below meth c s₁ Bd hml0 hP hK
  obtain ⟨rfl, hZ, hh⟩ := hP
  have hx := Bd.exec
  have hby := Bd.bytes
  have hml : c.maxLocals = 2 := hml0
  have hown : s.vm.findClass "com/example/endcon/endcon/yaml/Cursor" = some m.cls := findClass_of_methodNamed Bd.named
  have hnm := (name_of_methodNamed Bd.named Bd.method).1
  have X0 : Stand p l e ({ frames := 0, cells := 0, slots := 0, locals := 0 } : Room) s m #[(.ref a1)] below meth c s₁ [] 0 0 := Stand.of_body Bd
  have e0 : s₁.heap = h0 := by rw [← hh, Bd.state]; rfl
  have N0 := Fr.nil n0
  have pre0 : ∀ t, Steps p.tables e below (s₁.setTop (mkF m 0 #[.val (.ref a1), .unset] [])) t → Steps p.tables e below (s₁.setTop (entryFrame m #[(.ref a1)] 2)) t := fun t k => castTop (ef_6 m a1) k
  obtain ⟨T1, X1, e1, st1⟩ := getF X0 hx hZ hown (host := "") (Or.inl (hw _ (List.mem_of_getElem? (i := 31) rfl))) Via.refl e0 F_a1_text (g := (mkF m 1 #[.val (.ref a1), .unset] [(.ref a1)])) rfl rfl (hb hby d6_1)
  obtain ⟨T2, X2, e2, st2⟩ := getF X1 hx hZ hown (host := "") (Or.inl (hw _ (List.mem_of_getElem? (i := 48) rfl))) Via.refl e1 F_a1_pos (g := (mkF m 5 #[.val (.ref a1), .unset] [(.ref a1), (.ref t1)])) rfl rfl (hb hby d6_5)
  obtain ⟨cx3, Ar3, qq3, S3, N3_, H3, G3⟩ := id V_t1
  have hin3 : ¬ (v_pos < 0 ∨ cx3.slots.size ≤ (v_pos).toNatClampNeg) := inb_of S3 ⟨hp0, hp4⟩
  have hat3 : cx3.slots[(v_pos).toNatClampNeg]? = some (.int (own_at4 c0 c1 c2 c3 v_pos)) := (H3 (v_pos).toNatClampNeg (Nat.lt_of_not_le fun w => hin3 (Or.inr w))).trans (congrArg some (own_at4_ok c0 c1 c2 c3 hp0 hp4))
  have pre4 : ∀ t, Steps p.tables e below (T2.setTop (mkF m 11 #[.val (.ref a1), .unset] [(.int (13 : Int32)), (.int (own_at4 c0 c1 c2 c3 v_pos))])) t → Steps p.tables e below (s₁.setTop (entryFrame m #[(.ref a1)] 2)) t := fun t kt => by
    refine pre0 _ ?_
    show Steps p.tables e below (s₁.setTop (mkF m 0 #[.val (.ref a1), .unset] [])) _
    refine own_blk X0 hx bl6_0_1 (own_hb hby bd6_0_1) (pc' := 1) (Ls' := #[.val (.ref a1), .unset]) (st' := [(.ref a1)]) rfl ?_
    refine st1 _ ?_
    show Steps p.tables e below (T1.setTop (mkF m 4 #[.val (.ref a1), .unset] [(.ref t1)])) _
    refine own_blk X1 hx bl6_4_1 (own_hb hby bd6_4_1) (pc' := 5) (Ls' := #[.val (.ref a1), .unset]) (st' := [(.ref a1), (.ref t1)]) rfl ?_
    refine st2 _ ?_
    show Steps p.tables e below (T2.setTop (mkF m 8 #[.val (.ref a1), .unset] [(.int v_pos), (.ref t1)])) _
    refine X2.caload hx (j := v_pos) (v := (.int (own_at4 c0 c1 c2 c3 v_pos))) (by rw [e2]; exact Ar3.1) (State.isArrayOf_alike hZ.alike Ar3.2.1) Ar3.2.2 hin3 hat3 (g := (mkF m 8 #[.val (.ref a1), .unset] [(.int v_pos), (.ref t1)])) rfl rfl (hb hby d6_8) _ ?_
    show Steps p.tables e below (T2.setTop (mkF m 9 #[.val (.ref a1), .unset] [(.int (own_at4 c0 c1 c2 c3 v_pos))])) _
    refine own_blk X2 hx bl6_9_1 (own_hb hby bd6_9_1) (pc' := 11) (Ls' := #[.val (.ref a1), .unset]) (st' := [(.int (13 : Int32)), (.int (own_at4 c0 c1 c2 c3 v_pos))]) rfl ?_
    exact kt
  by_cases hc5 : (own_at4 c0 c1 c2 c3 v_pos) = (13 : Int32)
  · obtain ⟨T6, X6, e6, st6⟩ := getF X2 hx hZ hown (host := "") (Or.inl (hw _ (List.mem_of_getElem? (i := 48) rfl))) Via.refl e2 F_a1_pos (g := (mkF m 15 #[.val (.ref a1), .unset] [(.ref a1)])) rfl rfl (hb hby d6_15)
    obtain ⟨T7, X7, e7, st7⟩ := getF X6 hx hZ hown (host := "") (Or.inl (hw _ (List.mem_of_getElem? (i := 33) rfl))) Via.refl e6 F_a1_end (g := (mkF m 21 #[.val (.ref a1), .unset] [(.ref a1), (.int (v_pos + (1 : Int32)))])) rfl rfl (hb hby d6_21)
    have pre8 : ∀ t, Steps p.tables e below (T7.setTop (mkF m 24 #[.val (.ref a1), .unset] [(.int v_end), (.int (v_pos + (1 : Int32)))])) t → Steps p.tables e below (s₁.setTop (entryFrame m #[(.ref a1)] 2)) t := fun t kt => by
      refine pre4 _ ?_
      show Steps p.tables e below (T2.setTop (mkF m 11 #[.val (.ref a1), .unset] [(.int (13 : Int32)), (.int (own_at4 c0 c1 c2 c3 v_pos))])) _
      refine XS.icmpNo X2.here hx rfl (hb hby d6_11) rfl (teq hc5).2 ?_
      show Steps p.tables e below (T2.setTop (mkF m 14 #[.val (.ref a1), .unset] [])) _
      refine own_blk X2 hx bl6_14_1 (own_hb hby bd6_14_1) (pc' := 15) (Ls' := #[.val (.ref a1), .unset]) (st' := [(.ref a1)]) rfl ?_
      refine st6 _ ?_
      show Steps p.tables e below (T6.setTop (mkF m 18 #[.val (.ref a1), .unset] [(.int v_pos)])) _
      refine own_blk X6 hx bl6_18_3 (own_hb hby bd6_18_3) (pc' := 21) (Ls' := #[.val (.ref a1), .unset]) (st' := [(.ref a1), (.int (v_pos + (1 : Int32)))]) rfl ?_
      refine st7 _ ?_
      exact kt
    by_cases hc9 : (v_pos + (1 : Int32)) = v_end
    · obtain ⟨T10, X10, e10, st10⟩ := getF X7 hx hZ hown (host := "") (Or.inl (hw _ (List.mem_of_getElem? (i := 48) rfl))) Via.refl e7 F_a1_pos (g := (mkF m 35 #[.val (.ref a1), .val (.int (1 : Int32))] [(.ref a1), (.ref a1)])) rfl rfl (hb hby d6_35)
      obtain ⟨T11, X11, e11, st11⟩ := getF X10 hx hZ hown (host := "") (Or.inl (hw _ (List.mem_of_getElem? (i := 31) rfl))) Via.refl e10 F_a1_text (g := (mkF m 39 #[.val (.ref a1), .val (.int (1 : Int32))] [(.ref a1), (.int v_pos), (.ref a1)])) rfl rfl (hb hby d6_39)
      obtain ⟨T12, X12, e12, st12⟩ := getF X11 hx hZ hown (host := "") (Or.inl (hw _ (List.mem_of_getElem? (i := 48) rfl))) Via.refl e11 F_a1_pos (g := (mkF m 43 #[.val (.ref a1), .val (.int (1 : Int32))] [(.ref a1), (.ref t1), (.int v_pos), (.ref a1)])) rfl rfl (hb hby d6_43)
      obtain ⟨cx13, Ar13, qq13, S13, N13_, H13, G13⟩ := id V_t1
      have hin13 : ¬ (v_pos < 0 ∨ cx13.slots.size ≤ (v_pos).toNatClampNeg) := inb_of S13 ⟨hp0, hp4⟩
      have hat13 : cx13.slots[(v_pos).toNatClampNeg]? = some (.int (own_at4 c0 c1 c2 c3 v_pos)) := (H13 (v_pos).toNatClampNeg (Nat.lt_of_not_le fun w => hin13 (Or.inr w))).trans (congrArg some (own_at4_ok c0 c1 c2 c3 hp0 hp4))
      obtain ⟨T14, X14, e14, st14⟩ := getF X12 hx hZ hown (host := "") (Or.inl (hw _ (List.mem_of_getElem? (i := 48) rfl))) Via.refl e12 F_a1_pos (g := (mkF m 53 #[.val (.ref a1), .val (.int (1 : Int32))] [(.ref a1), (.int v_pos), (.ref a1)])) rfl rfl (hb hby d6_53)
      obtain ⟨T15, X15, e15, st15⟩ := getF X14 hx hZ hown (host := "") (Or.inl (hw _ (List.mem_of_getElem? (i := 33) rfl))) Via.refl e14 F_a1_end (g := (mkF m 59 #[.val (.ref a1), .val (.int (1 : Int32))] [(.ref a1), (.int (v_pos + (1 : Int32))), (.int v_pos), (.ref a1)])) rfl rfl (hb hby d6_59)
      have pre16 : ∀ t, Steps p.tables e below (T15.setTop (mkF m 62 #[.val (.ref a1), .val (.int (1 : Int32))] [(.int v_end), (.int (v_pos + (1 : Int32))), (.int v_pos), (.ref a1)])) t → Steps p.tables e below (s₁.setTop (entryFrame m #[(.ref a1)] 2)) t := fun t kt => by
        refine pre8 _ ?_
        show Steps p.tables e below (T7.setTop (mkF m 24 #[.val (.ref a1), .unset] [(.int v_end), (.int (v_pos + (1 : Int32)))])) _
        refine XS.icmpNo X7.here hx rfl (hb hby d6_24) rfl (teq hc9).2 ?_
        show Steps p.tables e below (T7.setTop (mkF m 27 #[.val (.ref a1), .unset] [])) _
        refine own_blk X7 hx bl6_27_3 (own_hb hby bd6_27_3) (pc' := 33) (Ls' := #[.val (.ref a1), .val (.int (1 : Int32))]) (st' := []) rfl ?_
        refine own_blk X7 hx bl6_33_2 (own_hb hby bd6_33_2) (pc' := 35) (Ls' := #[.val (.ref a1), .val (.int (1 : Int32))]) (st' := [(.ref a1), (.ref a1)]) rfl ?_
        refine st10 _ ?_
        show Steps p.tables e below (T10.setTop (mkF m 38 #[.val (.ref a1), .val (.int (1 : Int32))] [(.int v_pos), (.ref a1)])) _
        refine own_blk X10 hx bl6_38_1 (own_hb hby bd6_38_1) (pc' := 39) (Ls' := #[.val (.ref a1), .val (.int (1 : Int32))]) (st' := [(.ref a1), (.int v_pos), (.ref a1)]) rfl ?_
        refine st11 _ ?_
        show Steps p.tables e below (T11.setTop (mkF m 42 #[.val (.ref a1), .val (.int (1 : Int32))] [(.ref t1), (.int v_pos), (.ref a1)])) _
        refine own_blk X11 hx bl6_42_1 (own_hb hby bd6_42_1) (pc' := 43) (Ls' := #[.val (.ref a1), .val (.int (1 : Int32))]) (st' := [(.ref a1), (.ref t1), (.int v_pos), (.ref a1)]) rfl ?_
        refine st12 _ ?_
        show Steps p.tables e below (T12.setTop (mkF m 46 #[.val (.ref a1), .val (.int (1 : Int32))] [(.int v_pos), (.ref t1), (.int v_pos), (.ref a1)])) _
        refine X12.caload hx (j := v_pos) (v := (.int (own_at4 c0 c1 c2 c3 v_pos))) (by rw [e12]; exact Ar13.1) (State.isArrayOf_alike hZ.alike Ar13.2.1) Ar13.2.2 hin13 hat13 (g := (mkF m 46 #[.val (.ref a1), .val (.int (1 : Int32))] [(.int v_pos), (.ref t1), (.int v_pos), (.ref a1)])) rfl rfl (hb hby d6_46) _ ?_
        show Steps p.tables e below (T12.setTop (mkF m 47 #[.val (.ref a1), .val (.int (1 : Int32))] [(.int (own_at4 c0 c1 c2 c3 v_pos)), (.int v_pos), (.ref a1)])) _
        refine own_blk X12 hx bl6_47_1 (own_hb hby bd6_47_1) (pc' := 49) (Ls' := #[.val (.ref a1), .val (.int (1 : Int32))]) (st' := [(.int (13 : Int32)), (.int (own_at4 c0 c1 c2 c3 v_pos)), (.int v_pos), (.ref a1)]) rfl ?_
        refine XS.icmpNo X12.here hx rfl (hb hby d6_49) rfl (teq hc5).2 ?_
        show Steps p.tables e below (T12.setTop (mkF m 52 #[.val (.ref a1), .val (.int (1 : Int32))] [(.int v_pos), (.ref a1)])) _
        refine own_blk X12 hx bl6_52_1 (own_hb hby bd6_52_1) (pc' := 53) (Ls' := #[.val (.ref a1), .val (.int (1 : Int32))]) (st' := [(.ref a1), (.int v_pos), (.ref a1)]) rfl ?_
        refine st14 _ ?_
        show Steps p.tables e below (T14.setTop (mkF m 56 #[.val (.ref a1), .val (.int (1 : Int32))] [(.int v_pos), (.int v_pos), (.ref a1)])) _
        refine own_blk X14 hx bl6_56_3 (own_hb hby bd6_56_3) (pc' := 59) (Ls' := #[.val (.ref a1), .val (.int (1 : Int32))]) (st' := [(.ref a1), (.int (v_pos + (1 : Int32))), (.int v_pos), (.ref a1)]) rfl ?_
        refine st15 _ ?_
        exact kt
      by_cases hc17 : (v_pos + (1 : Int32)) < v_end
      · obtain ⟨T18, X18, e18, st18⟩ := getF X15 hx hZ hown (host := "") (Or.inl (hw _ (List.mem_of_getElem? (i := 31) rfl))) Via.refl e15 F_a1_text (g := (mkF m 66 #[.val (.ref a1), .val (.int (1 : Int32))] [(.ref a1), (.int v_pos), (.ref a1)])) rfl rfl (hb hby d6_66)
        obtain ⟨T19, X19, e19, st19⟩ := getF X18 hx hZ hown (host := "") (Or.inl (hw _ (List.mem_of_getElem? (i := 48) rfl))) Via.refl e18 F_a1_pos (g := (mkF m 70 #[.val (.ref a1), .val (.int (1 : Int32))] [(.ref a1), (.ref t1), (.int v_pos), (.ref a1)])) rfl rfl (hb hby d6_70)
        obtain ⟨cx20, Ar20, qq20, S20, N20_, H20, G20⟩ := id V_t1
        have hin20 : ¬ ((v_pos + (1 : Int32)) < 0 ∨ cx20.slots.size ≤ ((v_pos + (1 : Int32))).toNatClampNeg) := inb_of S20 ⟨(hq hc17).1, (hq hc17).2⟩
        have hat20 : cx20.slots[((v_pos + (1 : Int32))).toNatClampNeg]? = some (.int (own_at4 c0 c1 c2 c3 (v_pos + (1 : Int32)))) := (H20 ((v_pos + (1 : Int32))).toNatClampNeg (Nat.lt_of_not_le fun w => hin20 (Or.inr w))).trans (congrArg some (own_at4_ok c0 c1 c2 c3 (hq hc17).1 (hq hc17).2))
        have pre21 : ∀ t, Steps p.tables e below (T19.setTop (mkF m 78 #[.val (.ref a1), .val (.int (1 : Int32))] [(.int (10 : Int32)), (.int (own_at4 c0 c1 c2 c3 (v_pos + (1 : Int32)))), (.int v_pos), (.ref a1)])) t → Steps p.tables e below (s₁.setTop (entryFrame m #[(.ref a1)] 2)) t := fun t kt => by
          refine pre16 _ ?_
          show Steps p.tables e below (T15.setTop (mkF m 62 #[.val (.ref a1), .val (.int (1 : Int32))] [(.int v_end), (.int (v_pos + (1 : Int32))), (.int v_pos), (.ref a1)])) _
          refine XS.icmpNo X15.here hx rfl (hb hby d6_62) rfl (tlt hc17).2.1 ?_
          show Steps p.tables e below (T15.setTop (mkF m 65 #[.val (.ref a1), .val (.int (1 : Int32))] [(.int v_pos), (.ref a1)])) _
          refine own_blk X15 hx bl6_65_1 (own_hb hby bd6_65_1) (pc' := 66) (Ls' := #[.val (.ref a1), .val (.int (1 : Int32))]) (st' := [(.ref a1), (.int v_pos), (.ref a1)]) rfl ?_
          refine st18 _ ?_
          show Steps p.tables e below (T18.setTop (mkF m 69 #[.val (.ref a1), .val (.int (1 : Int32))] [(.ref t1), (.int v_pos), (.ref a1)])) _
          refine own_blk X18 hx bl6_69_1 (own_hb hby bd6_69_1) (pc' := 70) (Ls' := #[.val (.ref a1), .val (.int (1 : Int32))]) (st' := [(.ref a1), (.ref t1), (.int v_pos), (.ref a1)]) rfl ?_
          refine st19 _ ?_
          show Steps p.tables e below (T19.setTop (mkF m 73 #[.val (.ref a1), .val (.int (1 : Int32))] [(.int v_pos), (.ref t1), (.int v_pos), (.ref a1)])) _
          refine own_blk X19 hx bl6_73_2 (own_hb hby bd6_73_2) (pc' := 75) (Ls' := #[.val (.ref a1), .val (.int (1 : Int32))]) (st' := [(.int (v_pos + (1 : Int32))), (.ref t1), (.int v_pos), (.ref a1)]) rfl ?_
          refine X19.caload hx (j := (v_pos + (1 : Int32))) (v := (.int (own_at4 c0 c1 c2 c3 (v_pos + (1 : Int32))))) (by rw [e19]; exact Ar20.1) (State.isArrayOf_alike hZ.alike Ar20.2.1) Ar20.2.2 hin20 hat20 (g := (mkF m 75 #[.val (.ref a1), .val (.int (1 : Int32))] [(.int (v_pos + (1 : Int32))), (.ref t1), (.int v_pos), (.ref a1)])) rfl rfl (hb hby d6_75) _ ?_
          show Steps p.tables e below (T19.setTop (mkF m 76 #[.val (.ref a1), .val (.int (1 : Int32))] [(.int (own_at4 c0 c1 c2 c3 (v_pos + (1 : Int32)))), (.int v_pos), (.ref a1)])) _
          refine own_blk X19 hx bl6_76_1 (own_hb hby bd6_76_1) (pc' := 78) (Ls' := #[.val (.ref a1), .val (.int (1 : Int32))]) (st' := [(.int (10 : Int32)), (.int (own_at4 c0 c1 c2 c3 (v_pos + (1 : Int32)))), (.int v_pos), (.ref a1)]) rfl ?_
          exact kt
        by_cases hc22 : (own_at4 c0 c1 c2 c3 (v_pos + (1 : Int32))) = (10 : Int32)
        · obtain ⟨T23, h23, X23, e23, W23, st23⟩ := putF X19 hx hZ hown (host := "") (Or.inl (hw _ (List.mem_of_getElem? (i := 48) rfl))) Via.refl e19 F_a1_pos E_a1 (Or.inl (hw _ (List.mem_of_getElem? (i := 49) rfl))) (hw _ (List.mem_of_getElem? (i := 7) rfl)) (ty := .int) (by decide) rfl rfl (g := (mkF m 87 #[.val (.ref a1), .val (.int (1 : Int32))] [(.int (v_pos + (2 : Int32))), (.ref a1)])) rfl rfl (hb hby d6_87)
          have Fw23 : Fld Z h23 a1 "com/example/endcon/endcon/yaml/Cursor" "pos" "I" (.int (v_pos + (2 : Int32))) := F_a1_pos.same W23
          have zs24 : n0 ≤ h23.size := Nat.le_trans Z0 (Keep.of_wr W23).1
          have kp25 : Keep h0 h23 [a1] := (Keep.refl h0 [a1]).wr W23 (Or.inl (List.mem_of_getElem? (i := 0) rfl))
          have N23 := Fr.snoc X23 N0 g_a1
          obtain ⟨fs, hr, hrun, hended, hW, hsame⟩ := X23.leave (v := none) (fun _ => rfl)
          refine ⟨_, _, pre21 _ ?_, hrun, hended, _, _, rfl, ?_, ⟨_, rfl⟩, hW, hsame.mono (by decide) (by decide)⟩
          · show Steps p.tables e below (T19.setTop (mkF m 78 #[.val (.ref a1), .val (.int (1 : Int32))] [(.int (10 : Int32)), (.int (own_at4 c0 c1 c2 c3 (v_pos + (1 : Int32)))), (.int v_pos), (.ref a1)])) _
            refine XS.icmpNo X19.here hx rfl (hb hby d6_78) rfl (teq hc22).2 ?_
            show Steps p.tables e below (T19.setTop (mkF m 81 #[.val (.ref a1), .val (.int (1 : Int32))] [(.int v_pos), (.ref a1)])) _
            refine own_blk X19 hx bl6_81_3 (own_hb hby bd6_81_3) (pc' := 87) (Ls' := #[.val (.ref a1), .val (.int (1 : Int32))]) (st' := [(.int (v_pos + (2 : Int32))), (.ref a1)]) rfl ?_
            refine st23 _ ?_
            show Steps p.tables e below (T23.setTop (mkF m 90 #[.val (.ref a1), .val (.int (1 : Int32))] [])) _
            refine own_blk X23 hx bl6_90_1 (own_hb hby bd6_90_1) (pc' := 91) (Ls' := #[.val (.ref a1), .val (.int (1 : Int32))]) (st' := [(.int (1 : Int32))]) rfl ?_
            refine XS.ifYes X23.here hx rfl (pc0 := 91) (pc' := 112) rfl (hb hby d6_91) rfl ((if0 _ _).trans (feq (by decide : ¬ ((1 : Int32) = (0 : Int32)))).2) (by decide) (by decide) ?_
            show Steps p.tables e below (T23.setTop (mkF m 112 #[.val (.ref a1), .val (.int (1 : Int32))] [])) _
            exact X23.returnOut hx Bd.returns (hb hby d6_112) hr
          · show Q6 Z a1 t1 c0 c1 c2 c3 v_end v_pos v_line v_ls k_t1 h0 n0 _ T23.heap _
            rw [e23]
            have fa26 : Exa Z h23 a1 "com/example/endcon/endcon/yaml/Cursor" := (E_a1.wr W23)
            have fa27 : Fld Z h23 a1 "com/example/endcon/endcon/yaml/Cursor" "text" "[C" (.ref t1) := (F_a1_text.other W23 (Or.inr (slot_ne (Or.inl (hw _ (List.mem_of_getElem? (i := 32) rfl))) (Or.inl (hw _ (List.mem_of_getElem? (i := 49) rfl))) (by decide) (t := (.array .char)) (t' := .int) (by decide) (by decide))))
            have lf28 := fa27
            have fa29 : Fld Z h23 a1 "com/example/endcon/endcon/yaml/Cursor" "end" "I" (.int v_end) := (F_a1_end.other W23 (Or.inr (slot_ne (Or.inr (hw _ (List.mem_of_getElem? (i := 34) rfl))) (Or.inl (hw _ (List.mem_of_getElem? (i := 49) rfl))) (by decide) (t := .int) (t' := .int) (by decide) (by decide))))
            have lf30 := fa29
            have lf31 : Fld Z h23 a1 "com/example/endcon/endcon/yaml/Cursor" "pos" "I" (.int (f6_a1_pos c0 c1 c2 c3 v_end v_pos v_line v_ls)) := by rw [f6_a1_pos, if_pos hc5, if_pos hc9, if_pos hc17, if_pos hc22]; exact Fw23
            have fa32 : Fld Z h23 a1 "com/example/endcon/endcon/yaml/Cursor" "line" "I" (.int v_line) := (F_a1_line.other W23 (Or.inr (slot_ne (Or.inl (hw _ (List.mem_of_getElem? (i := 24) rfl))) (Or.inl (hw _ (List.mem_of_getElem? (i := 49) rfl))) (by decide) (t := .int) (t' := .int) (by decide) (by decide))))
            have lf33 : Fld Z h23 a1 "com/example/endcon/endcon/yaml/Cursor" "line" "I" (.int (f6_a1_line c0 c1 c2 c3 v_end v_pos v_line v_ls)) := by rw [f6_a1_line, if_pos hc5, if_pos hc9, if_pos hc17, if_pos hc22]; exact fa32
            have fa34 : Fld Z h23 a1 "com/example/endcon/endcon/yaml/Cursor" "lineStart" "I" (.int v_ls) := (F_a1_lineStart.other W23 (Or.inr (slot_ne (Or.inl (hw _ (List.mem_of_getElem? (i := 56) rfl))) (Or.inl (hw _ (List.mem_of_getElem? (i := 49) rfl))) (by decide) (t := .int) (t' := .int) (by decide) (by decide))))
            have lf35 : Fld Z h23 a1 "com/example/endcon/endcon/yaml/Cursor" "lineStart" "I" (.int (f6_a1_lineStart c0 c1 c2 c3 v_end v_pos v_line v_ls)) := by rw [f6_a1_lineStart, if_pos hc5, if_pos hc9, if_pos hc17, if_pos hc22]; exact fa34
            exact ⟨rfl, N23, kp25, fa26, lf28, lf30, lf31, lf33, lf35⟩
        · obtain ⟨T36, h36, X36, e36, W36, st36⟩ := putF X19 hx hZ hown (host := "") (Or.inl (hw _ (List.mem_of_getElem? (i := 48) rfl))) Via.refl e19 F_a1_pos E_a1 (Or.inl (hw _ (List.mem_of_getElem? (i := 49) rfl))) (hw _ (List.mem_of_getElem? (i := 7) rfl)) (ty := .int) (by decide) rfl rfl (g := (mkF m 87 #[.val (.ref a1), .val (.int (1 : Int32))] [(.int (v_pos + (1 : Int32))), (.ref a1)])) rfl rfl (hb hby d6_87)
          have Fw36 : Fld Z h36 a1 "com/example/endcon/endcon/yaml/Cursor" "pos" "I" (.int (v_pos + (1 : Int32))) := F_a1_pos.same W36
          have zs37 : n0 ≤ h36.size := Nat.le_trans Z0 (Keep.of_wr W36).1
          have kp38 : Keep h0 h36 [a1] := (Keep.refl h0 [a1]).wr W36 (Or.inl (List.mem_of_getElem? (i := 0) rfl))
          have N36 := Fr.snoc X36 N0 g_a1
          obtain ⟨fs, hr, hrun, hended, hW, hsame⟩ := X36.leave (v := none) (fun _ => rfl)
          refine ⟨_, _, pre21 _ ?_, hrun, hended, _, _, rfl, ?_, ⟨_, rfl⟩, hW, hsame.mono (by decide) (by decide)⟩
          · show Steps p.tables e below (T19.setTop (mkF m 78 #[.val (.ref a1), .val (.int (1 : Int32))] [(.int (10 : Int32)), (.int (own_at4 c0 c1 c2 c3 (v_pos + (1 : Int32)))), (.int v_pos), (.ref a1)])) _
            refine XS.icmpYes X19.here hx rfl (pc0 := 78) (pc' := 85) rfl (hb hby d6_78) rfl (feq hc22).2 (by decide) (by decide) ?_
            show Steps p.tables e below (T19.setTop (mkF m 85 #[.val (.ref a1), .val (.int (1 : Int32))] [(.int v_pos), (.ref a1)])) _
            refine own_blk X19 hx bl6_85_2 (own_hb hby bd6_85_2) (pc' := 87) (Ls' := #[.val (.ref a1), .val (.int (1 : Int32))]) (st' := [(.int (v_pos + (1 : Int32))), (.ref a1)]) rfl ?_
            refine st36 _ ?_
            show Steps p.tables e below (T36.setTop (mkF m 90 #[.val (.ref a1), .val (.int (1 : Int32))] [])) _
            refine own_blk X36 hx bl6_90_1 (own_hb hby bd6_90_1) (pc' := 91) (Ls' := #[.val (.ref a1), .val (.int (1 : Int32))]) (st' := [(.int (1 : Int32))]) rfl ?_
            refine XS.ifYes X36.here hx rfl (pc0 := 91) (pc' := 112) rfl (hb hby d6_91) rfl ((if0 _ _).trans (feq (by decide : ¬ ((1 : Int32) = (0 : Int32)))).2) (by decide) (by decide) ?_
            show Steps p.tables e below (T36.setTop (mkF m 112 #[.val (.ref a1), .val (.int (1 : Int32))] [])) _
            exact X36.returnOut hx Bd.returns (hb hby d6_112) hr
          · show Q6 Z a1 t1 c0 c1 c2 c3 v_end v_pos v_line v_ls k_t1 h0 n0 _ T36.heap _
            rw [e36]
            have fa39 : Exa Z h36 a1 "com/example/endcon/endcon/yaml/Cursor" := (E_a1.wr W36)
            have fa40 : Fld Z h36 a1 "com/example/endcon/endcon/yaml/Cursor" "text" "[C" (.ref t1) := (F_a1_text.other W36 (Or.inr (slot_ne (Or.inl (hw _ (List.mem_of_getElem? (i := 32) rfl))) (Or.inl (hw _ (List.mem_of_getElem? (i := 49) rfl))) (by decide) (t := (.array .char)) (t' := .int) (by decide) (by decide))))
            have lf41 := fa40
            have fa42 : Fld Z h36 a1 "com/example/endcon/endcon/yaml/Cursor" "end" "I" (.int v_end) := (F_a1_end.other W36 (Or.inr (slot_ne (Or.inr (hw _ (List.mem_of_getElem? (i := 34) rfl))) (Or.inl (hw _ (List.mem_of_getElem? (i := 49) rfl))) (by decide) (t := .int) (t' := .int) (by decide) (by decide))))
            have lf43 := fa42
            have lf44 : Fld Z h36 a1 "com/example/endcon/endcon/yaml/Cursor" "pos" "I" (.int (f6_a1_pos c0 c1 c2 c3 v_end v_pos v_line v_ls)) := by rw [f6_a1_pos, if_pos hc5, if_pos hc9, if_pos hc17, if_neg hc22]; exact Fw36
            have fa45 : Fld Z h36 a1 "com/example/endcon/endcon/yaml/Cursor" "line" "I" (.int v_line) := (F_a1_line.other W36 (Or.inr (slot_ne (Or.inl (hw _ (List.mem_of_getElem? (i := 24) rfl))) (Or.inl (hw _ (List.mem_of_getElem? (i := 49) rfl))) (by decide) (t := .int) (t' := .int) (by decide) (by decide))))
            have lf46 : Fld Z h36 a1 "com/example/endcon/endcon/yaml/Cursor" "line" "I" (.int (f6_a1_line c0 c1 c2 c3 v_end v_pos v_line v_ls)) := by rw [f6_a1_line, if_pos hc5, if_pos hc9, if_pos hc17, if_neg hc22]; exact fa45
            have fa47 : Fld Z h36 a1 "com/example/endcon/endcon/yaml/Cursor" "lineStart" "I" (.int v_ls) := (F_a1_lineStart.other W36 (Or.inr (slot_ne (Or.inl (hw _ (List.mem_of_getElem? (i := 56) rfl))) (Or.inl (hw _ (List.mem_of_getElem? (i := 49) rfl))) (by decide) (t := .int) (t' := .int) (by decide) (by decide))))
            have lf48 : Fld Z h36 a1 "com/example/endcon/endcon/yaml/Cursor" "lineStart" "I" (.int (f6_a1_lineStart c0 c1 c2 c3 v_end v_pos v_line v_ls)) := by rw [f6_a1_lineStart, if_pos hc5, if_pos hc9, if_pos hc17, if_neg hc22]; exact fa47
            exact ⟨rfl, N36, kp38, fa39, lf41, lf43, lf44, lf46, lf48⟩
      · obtain ⟨T49, h49, X49, e49, W49, st49⟩ := putF X15 hx hZ hown (host := "") (Or.inl (hw _ (List.mem_of_getElem? (i := 48) rfl))) Via.refl e15 F_a1_pos E_a1 (Or.inl (hw _ (List.mem_of_getElem? (i := 49) rfl))) (hw _ (List.mem_of_getElem? (i := 7) rfl)) (ty := .int) (by decide) rfl rfl (g := (mkF m 87 #[.val (.ref a1), .val (.int (1 : Int32))] [(.int (v_pos + (1 : Int32))), (.ref a1)])) rfl rfl (hb hby d6_87)
        have Fw49 : Fld Z h49 a1 "com/example/endcon/endcon/yaml/Cursor" "pos" "I" (.int (v_pos + (1 : Int32))) := F_a1_pos.same W49
        have zs50 : n0 ≤ h49.size := Nat.le_trans Z0 (Keep.of_wr W49).1
        have kp51 : Keep h0 h49 [a1] := (Keep.refl h0 [a1]).wr W49 (Or.inl (List.mem_of_getElem? (i := 0) rfl))
        have N49 := Fr.snoc X49 N0 g_a1
        obtain ⟨fs, hr, hrun, hended, hW, hsame⟩ := X49.leave (v := none) (fun _ => rfl)
        refine ⟨_, _, pre16 _ ?_, hrun, hended, _, _, rfl, ?_, ⟨_, rfl⟩, hW, hsame.mono (by decide) (by decide)⟩
        · show Steps p.tables e below (T15.setTop (mkF m 62 #[.val (.ref a1), .val (.int (1 : Int32))] [(.int v_end), (.int (v_pos + (1 : Int32))), (.int v_pos), (.ref a1)])) _
          refine XS.icmpYes X15.here hx rfl (pc0 := 62) (pc' := 85) rfl (hb hby d6_62) rfl (flt hc17).2.1 (by decide) (by decide) ?_
          show Steps p.tables e below (T15.setTop (mkF m 85 #[.val (.ref a1), .val (.int (1 : Int32))] [(.int v_pos), (.ref a1)])) _
          refine own_blk X15 hx bl6_85_2 (own_hb hby bd6_85_2) (pc' := 87) (Ls' := #[.val (.ref a1), .val (.int (1 : Int32))]) (st' := [(.int (v_pos + (1 : Int32))), (.ref a1)]) rfl ?_
          refine st49 _ ?_
          show Steps p.tables e below (T49.setTop (mkF m 90 #[.val (.ref a1), .val (.int (1 : Int32))] [])) _
          refine own_blk X49 hx bl6_90_1 (own_hb hby bd6_90_1) (pc' := 91) (Ls' := #[.val (.ref a1), .val (.int (1 : Int32))]) (st' := [(.int (1 : Int32))]) rfl ?_
          refine XS.ifYes X49.here hx rfl (pc0 := 91) (pc' := 112) rfl (hb hby d6_91) rfl ((if0 _ _).trans (feq (by decide : ¬ ((1 : Int32) = (0 : Int32)))).2) (by decide) (by decide) ?_
          show Steps p.tables e below (T49.setTop (mkF m 112 #[.val (.ref a1), .val (.int (1 : Int32))] [])) _
          exact X49.returnOut hx Bd.returns (hb hby d6_112) hr
        · show Q6 Z a1 t1 c0 c1 c2 c3 v_end v_pos v_line v_ls k_t1 h0 n0 _ T49.heap _
          rw [e49]
          have fa52 : Exa Z h49 a1 "com/example/endcon/endcon/yaml/Cursor" := (E_a1.wr W49)
          have fa53 : Fld Z h49 a1 "com/example/endcon/endcon/yaml/Cursor" "text" "[C" (.ref t1) := (F_a1_text.other W49 (Or.inr (slot_ne (Or.inl (hw _ (List.mem_of_getElem? (i := 32) rfl))) (Or.inl (hw _ (List.mem_of_getElem? (i := 49) rfl))) (by decide) (t := (.array .char)) (t' := .int) (by decide) (by decide))))
          have lf54 := fa53
          have fa55 : Fld Z h49 a1 "com/example/endcon/endcon/yaml/Cursor" "end" "I" (.int v_end) := (F_a1_end.other W49 (Or.inr (slot_ne (Or.inr (hw _ (List.mem_of_getElem? (i := 34) rfl))) (Or.inl (hw _ (List.mem_of_getElem? (i := 49) rfl))) (by decide) (t := .int) (t' := .int) (by decide) (by decide))))
          have lf56 := fa55
          have lf57 : Fld Z h49 a1 "com/example/endcon/endcon/yaml/Cursor" "pos" "I" (.int (f6_a1_pos c0 c1 c2 c3 v_end v_pos v_line v_ls)) := by rw [f6_a1_pos, if_pos hc5, if_pos hc9, if_neg hc17]; exact Fw49
          have fa58 : Fld Z h49 a1 "com/example/endcon/endcon/yaml/Cursor" "line" "I" (.int v_line) := (F_a1_line.other W49 (Or.inr (slot_ne (Or.inl (hw _ (List.mem_of_getElem? (i := 24) rfl))) (Or.inl (hw _ (List.mem_of_getElem? (i := 49) rfl))) (by decide) (t := .int) (t' := .int) (by decide) (by decide))))
          have lf59 : Fld Z h49 a1 "com/example/endcon/endcon/yaml/Cursor" "line" "I" (.int (f6_a1_line c0 c1 c2 c3 v_end v_pos v_line v_ls)) := by rw [f6_a1_line, if_pos hc5, if_pos hc9, if_neg hc17]; exact fa58
          have fa60 : Fld Z h49 a1 "com/example/endcon/endcon/yaml/Cursor" "lineStart" "I" (.int v_ls) := (F_a1_lineStart.other W49 (Or.inr (slot_ne (Or.inl (hw _ (List.mem_of_getElem? (i := 56) rfl))) (Or.inl (hw _ (List.mem_of_getElem? (i := 49) rfl))) (by decide) (t := .int) (t' := .int) (by decide) (by decide))))
          have lf61 : Fld Z h49 a1 "com/example/endcon/endcon/yaml/Cursor" "lineStart" "I" (.int (f6_a1_lineStart c0 c1 c2 c3 v_end v_pos v_line v_ls)) := by rw [f6_a1_lineStart, if_pos hc5, if_pos hc9, if_neg hc17]; exact fa60
          exact ⟨rfl, N49, kp51, fa52, lf54, lf56, lf57, lf59, lf61⟩
    · obtain ⟨T62, X62, e62, st62⟩ := getF X7 hx hZ hown (host := "") (Or.inl (hw _ (List.mem_of_getElem? (i := 48) rfl))) Via.refl e7 F_a1_pos (g := (mkF m 35 #[.val (.ref a1), .val (.int (0 : Int32))] [(.ref a1), (.ref a1)])) rfl rfl (hb hby d6_35)
      obtain ⟨T63, X63, e63, st63⟩ := getF X62 hx hZ hown (host := "") (Or.inl (hw _ (List.mem_of_getElem? (i := 31) rfl))) Via.refl e62 F_a1_text (g := (mkF m 39 #[.val (.ref a1), .val (.int (0 : Int32))] [(.ref a1), (.int v_pos), (.ref a1)])) rfl rfl (hb hby d6_39)
      obtain ⟨T64, X64, e64, st64⟩ := getF X63 hx hZ hown (host := "") (Or.inl (hw _ (List.mem_of_getElem? (i := 48) rfl))) Via.refl e63 F_a1_pos (g := (mkF m 43 #[.val (.ref a1), .val (.int (0 : Int32))] [(.ref a1), (.ref t1), (.int v_pos), (.ref a1)])) rfl rfl (hb hby d6_43)
      obtain ⟨cx65, Ar65, qq65, S65, N65_, H65, G65⟩ := id V_t1
      have hin65 : ¬ (v_pos < 0 ∨ cx65.slots.size ≤ (v_pos).toNatClampNeg) := inb_of S65 ⟨hp0, hp4⟩
      have hat65 : cx65.slots[(v_pos).toNatClampNeg]? = some (.int (own_at4 c0 c1 c2 c3 v_pos)) := (H65 (v_pos).toNatClampNeg (Nat.lt_of_not_le fun w => hin65 (Or.inr w))).trans (congrArg some (own_at4_ok c0 c1 c2 c3 hp0 hp4))
      obtain ⟨T66, X66, e66, st66⟩ := getF X64 hx hZ hown (host := "") (Or.inl (hw _ (List.mem_of_getElem? (i := 48) rfl))) Via.refl e64 F_a1_pos (g := (mkF m 53 #[.val (.ref a1), .val (.int (0 : Int32))] [(.ref a1), (.int v_pos), (.ref a1)])) rfl rfl (hb hby d6_53)
      obtain ⟨T67, X67, e67, st67⟩ := getF X66 hx hZ hown (host := "") (Or.inl (hw _ (List.mem_of_getElem? (i := 33) rfl))) Via.refl e66 F_a1_end (g := (mkF m 59 #[.val (.ref a1), .val (.int (0 : Int32))] [(.ref a1), (.int (v_pos + (1 : Int32))), (.int v_pos), (.ref a1)])) rfl rfl (hb hby d6_59)
      have pre68 : ∀ t, Steps p.tables e below (T67.setTop (mkF m 62 #[.val (.ref a1), .val (.int (0 : Int32))] [(.int v_end), (.int (v_pos + (1 : Int32))), (.int v_pos), (.ref a1)])) t → Steps p.tables e below (s₁.setTop (entryFrame m #[(.ref a1)] 2)) t := fun t kt => by
        refine pre8 _ ?_
        show Steps p.tables e below (T7.setTop (mkF m 24 #[.val (.ref a1), .unset] [(.int v_end), (.int (v_pos + (1 : Int32)))])) _
        refine XS.icmpYes X7.here hx rfl (pc0 := 24) (pc' := 31) rfl (hb hby d6_24) rfl (feq hc9).2 (by decide) (by decide) ?_
        show Steps p.tables e below (T7.setTop (mkF m 31 #[.val (.ref a1), .unset] [])) _
        refine own_blk X7 hx bl6_31_2 (own_hb hby bd6_31_2) (pc' := 33) (Ls' := #[.val (.ref a1), .val (.int (0 : Int32))]) (st' := []) rfl ?_
        refine own_blk X7 hx bl6_33_2 (own_hb hby bd6_33_2) (pc' := 35) (Ls' := #[.val (.ref a1), .val (.int (0 : Int32))]) (st' := [(.ref a1), (.ref a1)]) rfl ?_
        refine st62 _ ?_
        show Steps p.tables e below (T62.setTop (mkF m 38 #[.val (.ref a1), .val (.int (0 : Int32))] [(.int v_pos), (.ref a1)])) _
        refine own_blk X62 hx bl6_38_1 (own_hb hby bd6_38_1) (pc' := 39) (Ls' := #[.val (.ref a1), .val (.int (0 : Int32))]) (st' := [(.ref a1), (.int v_pos), (.ref a1)]) rfl ?_
        refine st63 _ ?_
        show Steps p.tables e below (T63.setTop (mkF m 42 #[.val (.ref a1), .val (.int (0 : Int32))] [(.ref t1), (.int v_pos), (.ref a1)])) _
        refine own_blk X63 hx bl6_42_1 (own_hb hby bd6_42_1) (pc' := 43) (Ls' := #[.val (.ref a1), .val (.int (0 : Int32))]) (st' := [(.ref a1), (.ref t1), (.int v_pos), (.ref a1)]) rfl ?_
        refine st64 _ ?_
        show Steps p.tables e below (T64.setTop (mkF m 46 #[.val (.ref a1), .val (.int (0 : Int32))] [(.int v_pos), (.ref t1), (.int v_pos), (.ref a1)])) _
        refine X64.caload hx (j := v_pos) (v := (.int (own_at4 c0 c1 c2 c3 v_pos))) (by rw [e64]; exact Ar65.1) (State.isArrayOf_alike hZ.alike Ar65.2.1) Ar65.2.2 hin65 hat65 (g := (mkF m 46 #[.val (.ref a1), .val (.int (0 : Int32))] [(.int v_pos), (.ref t1), (.int v_pos), (.ref a1)])) rfl rfl (hb hby d6_46) _ ?_
        show Steps p.tables e below (T64.setTop (mkF m 47 #[.val (.ref a1), .val (.int (0 : Int32))] [(.int (own_at4 c0 c1 c2 c3 v_pos)), (.int v_pos), (.ref a1)])) _
        refine own_blk X64 hx bl6_47_1 (own_hb hby bd6_47_1) (pc' := 49) (Ls' := #[.val (.ref a1), .val (.int (0 : Int32))]) (st' := [(.int (13 : Int32)), (.int (own_at4 c0 c1 c2 c3 v_pos)), (.int v_pos), (.ref a1)]) rfl ?_
        refine XS.icmpNo X64.here hx rfl (hb hby d6_49) rfl (teq hc5).2 ?_
        show Steps p.tables e below (T64.setTop (mkF m 52 #[.val (.ref a1), .val (.int (0 : Int32))] [(.int v_pos), (.ref a1)])) _
        refine own_blk X64 hx bl6_52_1 (own_hb hby bd6_52_1) (pc' := 53) (Ls' := #[.val (.ref a1), .val (.int (0 : Int32))]) (st' := [(.ref a1), (.int v_pos), (.ref a1)]) rfl ?_
        refine st66 _ ?_
        show Steps p.tables e below (T66.setTop (mkF m 56 #[.val (.ref a1), .val (.int (0 : Int32))] [(.int v_pos), (.int v_pos), (.ref a1)])) _
        refine own_blk X66 hx bl6_56_3 (own_hb hby bd6_56_3) (pc' := 59) (Ls' := #[.val (.ref a1), .val (.int (0 : Int32))]) (st' := [(.ref a1), (.int (v_pos + (1 : Int32))), (.int v_pos), (.ref a1)]) rfl ?_
        refine st67 _ ?_
        exact kt
      by_cases hc69 : (v_pos + (1 : Int32)) < v_end
      · obtain ⟨T70, X70, e70, st70⟩ := getF X67 hx hZ hown (host := "") (Or.inl (hw _ (List.mem_of_getElem? (i := 31) rfl))) Via.refl e67 F_a1_text (g := (mkF m 66 #[.val (.ref a1), .val (.int (0 : Int32))] [(.ref a1), (.int v_pos), (.ref a1)])) rfl rfl (hb hby d6_66)
        obtain ⟨T71, X71, e71, st71⟩ := getF X70 hx hZ hown (host := "") (Or.inl (hw _ (List.mem_of_getElem? (i := 48) rfl))) Via.refl e70 F_a1_pos (g := (mkF m 70 #[.val (.ref a1), .val (.int (0 : Int32))] [(.ref a1), (.ref t1), (.int v_pos), (.ref a1)])) rfl rfl (hb hby d6_70)
        obtain ⟨cx72, Ar72, qq72, S72, N72_, H72, G72⟩ := id V_t1
        have hin72 : ¬ ((v_pos + (1 : Int32)) < 0 ∨ cx72.slots.size ≤ ((v_pos + (1 : Int32))).toNatClampNeg) := inb_of S72 ⟨(hq hc69).1, (hq hc69).2⟩
        have hat72 : cx72.slots[((v_pos + (1 : Int32))).toNatClampNeg]? = some (.int (own_at4 c0 c1 c2 c3 (v_pos + (1 : Int32)))) := (H72 ((v_pos + (1 : Int32))).toNatClampNeg (Nat.lt_of_not_le fun w => hin72 (Or.inr w))).trans (congrArg some (own_at4_ok c0 c1 c2 c3 (hq hc69).1 (hq hc69).2))
        have pre73 : ∀ t, Steps p.tables e below (T71.setTop (mkF m 78 #[.val (.ref a1), .val (.int (0 : Int32))] [(.int (10 : Int32)), (.int (own_at4 c0 c1 c2 c3 (v_pos + (1 : Int32)))), (.int v_pos), (.ref a1)])) t → Steps p.tables e below (s₁.setTop (entryFrame m #[(.ref a1)] 2)) t := fun t kt => by
          refine pre68 _ ?_
          show Steps p.tables e below (T67.setTop (mkF m 62 #[.val (.ref a1), .val (.int (0 : Int32))] [(.int v_end), (.int (v_pos + (1 : Int32))), (.int v_pos), (.ref a1)])) _
          refine XS.icmpNo X67.here hx rfl (hb hby d6_62) rfl (tlt hc69).2.1 ?_
          show Steps p.tables e below (T67.setTop (mkF m 65 #[.val (.ref a1), .val (.int (0 : Int32))] [(.int v_pos), (.ref a1)])) _
          refine own_blk X67 hx bl6_65_1 (own_hb hby bd6_65_1) (pc' := 66) (Ls' := #[.val (.ref a1), .val (.int (0 : Int32))]) (st' := [(.ref a1), (.int v_pos), (.ref a1)]) rfl ?_
          refine st70 _ ?_
          show Steps p.tables e below (T70.setTop (mkF m 69 #[.val (.ref a1), .val (.int (0 : Int32))] [(.ref t1), (.int v_pos), (.ref a1)])) _
          refine own_blk X70 hx bl6_69_1 (own_hb hby bd6_69_1) (pc' := 70) (Ls' := #[.val (.ref a1), .val (.int (0 : Int32))]) (st' := [(.ref a1), (.ref t1), (.int v_pos), (.ref a1)]) rfl ?_
          refine st71 _ ?_
          show Steps p.tables e below (T71.setTop (mkF m 73 #[.val (.ref a1), .val (.int (0 : Int32))] [(.int v_pos), (.ref t1), (.int v_pos), (.ref a1)])) _
          refine own_blk X71 hx bl6_73_2 (own_hb hby bd6_73_2) (pc' := 75) (Ls' := #[.val (.ref a1), .val (.int (0 : Int32))]) (st' := [(.int (v_pos + (1 : Int32))), (.ref t1), (.int v_pos), (.ref a1)]) rfl ?_
          refine X71.caload hx (j := (v_pos + (1 : Int32))) (v := (.int (own_at4 c0 c1 c2 c3 (v_pos + (1 : Int32))))) (by rw [e71]; exact Ar72.1) (State.isArrayOf_alike hZ.alike Ar72.2.1) Ar72.2.2 hin72 hat72 (g := (mkF m 75 #[.val (.ref a1), .val (.int (0 : Int32))] [(.int (v_pos + (1 : Int32))), (.ref t1), (.int v_pos), (.ref a1)])) rfl rfl (hb hby d6_75) _ ?_
          show Steps p.tables e below (T71.setTop (mkF m 76 #[.val (.ref a1), .val (.int (0 : Int32))] [(.int (own_at4 c0 c1 c2 c3 (v_pos + (1 : Int32)))), (.int v_pos), (.ref a1)])) _
          refine own_blk X71 hx bl6_76_1 (own_hb hby bd6_76_1) (pc' := 78) (Ls' := #[.val (.ref a1), .val (.int (0 : Int32))]) (st' := [(.int (10 : Int32)), (.int (own_at4 c0 c1 c2 c3 (v_pos + (1 : Int32)))), (.int v_pos), (.ref a1)]) rfl ?_
          exact kt
        by_cases hc74 : (own_at4 c0 c1 c2 c3 (v_pos + (1 : Int32))) = (10 : Int32)
        · obtain ⟨T75, h75, X75, e75, W75, st75⟩ := putF X71 hx hZ hown (host := "") (Or.inl (hw _ (List.mem_of_getElem? (i := 48) rfl))) Via.refl e71 F_a1_pos E_a1 (Or.inl (hw _ (List.mem_of_getElem? (i := 49) rfl))) (hw _ (List.mem_of_getElem? (i := 7) rfl)) (ty := .int) (by decide) rfl rfl (g := (mkF m 87 #[.val (.ref a1), .val (.int (0 : Int32))] [(.int (v_pos + (2 : Int32))), (.ref a1)])) rfl rfl (hb hby d6_87)
          have Fw75 : Fld Z h75 a1 "com/example/endcon/endcon/yaml/Cursor" "pos" "I" (.int (v_pos + (2 : Int32))) := F_a1_pos.same W75
          have zs76 : n0 ≤ h75.size := Nat.le_trans Z0 (Keep.of_wr W75).1
          have kp77 : Keep h0 h75 [a1] := (Keep.refl h0 [a1]).wr W75 (Or.inl (List.mem_of_getElem? (i := 0) rfl))
          have N75 := Fr.snoc X75 N0 g_a1
          have fa78 : Fld Z h75 a1 "com/example/endcon/endcon/yaml/Cursor" "line" "I" (.int v_line) := (F_a1_line.other W75 (Or.inr (slot_ne (Or.inl (hw _ (List.mem_of_getElem? (i := 24) rfl))) (Or.inl (hw _ (List.mem_of_getElem? (i := 49) rfl))) (by decide) (t := .int) (t' := .int) (by decide) (by decide))))
          obtain ⟨T79, X79, e79, st79⟩ := getF X75 hx hZ hown (host := "") (Or.inl (hw _ (List.mem_of_getElem? (i := 23) rfl))) Via.refl e75 fa78 (g := (mkF m 96 #[.val (.ref a1), .val (.int (0 : Int32))] [(.ref a1), (.ref a1)])) rfl rfl (hb hby d6_96)
          have fa80 : Exa Z h75 a1 "com/example/endcon/endcon/yaml/Cursor" := (E_a1.wr W75)
          obtain ⟨T81, h81, X81, e81, W81, st81⟩ := putF X79 hx hZ hown (host := "") (Or.inl (hw _ (List.mem_of_getElem? (i := 23) rfl))) Via.refl e79 fa78 fa80 (Or.inl (hw _ (List.mem_of_getElem? (i := 24) rfl))) (hw _ (List.mem_of_getElem? (i := 7) rfl)) (ty := .int) (by decide) rfl rfl (g := (mkF m 101 #[.val (.ref a1), .val (.int (0 : Int32))] [(.int (v_line + (1 : Int32))), (.ref a1)])) rfl rfl (hb hby d6_101)
          have Fw81 : Fld Z h81 a1 "com/example/endcon/endcon/yaml/Cursor" "line" "I" (.int (v_line + (1 : Int32))) := fa78.same W81
          have zs82 : n0 ≤ h81.size := Nat.le_trans zs76 (Keep.of_wr W81).1
          have kp83 : Keep h0 h81 [a1] := kp77.wr W81 (Or.inl (List.mem_of_getElem? (i := 0) rfl))
          have N81 := Fr.snoc X81 N75 g_a1
          have fa84 : Fld Z h81 a1 "com/example/endcon/endcon/yaml/Cursor" "pos" "I" (.int (v_pos + (2 : Int32))) := (Fw75.other W81 (Or.inr (slot_ne (Or.inl (hw _ (List.mem_of_getElem? (i := 49) rfl))) (Or.inl (hw _ (List.mem_of_getElem? (i := 24) rfl))) (by decide) (t := .int) (t' := .int) (by decide) (by decide))))
          obtain ⟨T85, X85, e85, st85⟩ := getF X81 hx hZ hown (host := "") (Or.inl (hw _ (List.mem_of_getElem? (i := 48) rfl))) Via.refl e81 fa84 (g := (mkF m 106 #[.val (.ref a1), .val (.int (0 : Int32))] [(.ref a1), (.ref a1)])) rfl rfl (hb hby d6_106)
          have fa86 : Fld Z h81 a1 "com/example/endcon/endcon/yaml/Cursor" "lineStart" "I" (.int v_ls) := ((F_a1_lineStart.other W75 (Or.inr (slot_ne (Or.inl (hw _ (List.mem_of_getElem? (i := 56) rfl))) (Or.inl (hw _ (List.mem_of_getElem? (i := 49) rfl))) (by decide) (t := .int) (t' := .int) (by decide) (by decide)))).other W81 (Or.inr (slot_ne (Or.inl (hw _ (List.mem_of_getElem? (i := 56) rfl))) (Or.inl (hw _ (List.mem_of_getElem? (i := 24) rfl))) (by decide) (t := .int) (t' := .int) (by decide) (by decide))))
          have fa87 : Exa Z h81 a1 "com/example/endcon/endcon/yaml/Cursor" := (fa80.wr W81)
          obtain ⟨T88, h88, X88, e88, W88, st88⟩ := putF X85 hx hZ hown (host := "") (Or.inl (hw _ (List.mem_of_getElem? (i := 55) rfl))) Via.refl e85 fa86 fa87 (Or.inl (hw _ (List.mem_of_getElem? (i := 56) rfl))) (hw _ (List.mem_of_getElem? (i := 7) rfl)) (ty := .int) (by decide) rfl rfl (g := (mkF m 109 #[.val (.ref a1), .val (.int (0 : Int32))] [(.int (v_pos + (2 : Int32))), (.ref a1)])) rfl rfl (hb hby d6_109)
          have Fw88 : Fld Z h88 a1 "com/example/endcon/endcon/yaml/Cursor" "lineStart" "I" (.int (v_pos + (2 : Int32))) := fa86.same W88
          have zs89 : n0 ≤ h88.size := Nat.le_trans zs82 (Keep.of_wr W88).1
          have kp90 : Keep h0 h88 [a1] := kp83.wr W88 (Or.inl (List.mem_of_getElem? (i := 0) rfl))
          have N88 := Fr.snoc X88 N81 g_a1
          obtain ⟨fs, hr, hrun, hended, hW, hsame⟩ := X88.leave (v := none) (fun _ => rfl)
          refine ⟨_, _, pre73 _ ?_, hrun, hended, _, _, rfl, ?_, ⟨_, rfl⟩, hW, hsame.mono (by decide) (by decide)⟩
          · show Steps p.tables e below (T71.setTop (mkF m 78 #[.val (.ref a1), .val (.int (0 : Int32))] [(.int (10 : Int32)), (.int (own_at4 c0 c1 c2 c3 (v_pos + (1 : Int32)))), (.int v_pos), (.ref a1)])) _
            refine XS.icmpNo X71.here hx rfl (hb hby d6_78) rfl (teq hc74).2 ?_
            show Steps p.tables e below (T71.setTop (mkF m 81 #[.val (.ref a1), .val (.int (0 : Int32))] [(.int v_pos), (.ref a1)])) _
            refine own_blk X71 hx bl6_81_3 (own_hb hby bd6_81_3) (pc' := 87) (Ls' := #[.val (.ref a1), .val (.int (0 : Int32))]) (st' := [(.int (v_pos + (2 : Int32))), (.ref a1)]) rfl ?_
            refine st75 _ ?_
            show Steps p.tables e below (T75.setTop (mkF m 90 #[.val (.ref a1), .val (.int (0 : Int32))] [])) _
            refine own_blk X75 hx bl6_90_1 (own_hb hby bd6_90_1) (pc' := 91) (Ls' := #[.val (.ref a1), .val (.int (0 : Int32))]) (st' := [(.int (0 : Int32))]) rfl ?_
            refine XS.ifNo X75.here hx rfl (hb hby d6_91) rfl ((if0 _ _).trans (teq (by decide : (0 : Int32) = (0 : Int32))).2) ?_
            show Steps p.tables e below (T75.setTop (mkF m 94 #[.val (.ref a1), .val (.int (0 : Int32))] [])) _
            refine own_blk X75 hx bl6_94_2 (own_hb hby bd6_94_2) (pc' := 96) (Ls' := #[.val (.ref a1), .val (.int (0 : Int32))]) (st' := [(.ref a1), (.ref a1)]) rfl ?_
            refine st79 _ ?_
            show Steps p.tables e below (T79.setTop (mkF m 99 #[.val (.ref a1), .val (.int (0 : Int32))] [(.int v_line), (.ref a1)])) _
            refine own_blk X79 hx bl6_99_2 (own_hb hby bd6_99_2) (pc' := 101) (Ls' := #[.val (.ref a1), .val (.int (0 : Int32))]) (st' := [(.int (v_line + (1 : Int32))), (.ref a1)]) rfl ?_
            refine st81 _ ?_
            show Steps p.tables e below (T81.setTop (mkF m 104 #[.val (.ref a1), .val (.int (0 : Int32))] [])) _
            refine own_blk X81 hx bl6_104_2 (own_hb hby bd6_104_2) (pc' := 106) (Ls' := #[.val (.ref a1), .val (.int (0 : Int32))]) (st' := [(.ref a1), (.ref a1)]) rfl ?_
            refine st85 _ ?_
            show Steps p.tables e below (T85.setTop (mkF m 109 #[.val (.ref a1), .val (.int (0 : Int32))] [(.int (v_pos + (2 : Int32))), (.ref a1)])) _
            refine st88 _ ?_
            show Steps p.tables e below (T88.setTop (mkF m 112 #[.val (.ref a1), .val (.int (0 : Int32))] [])) _
            exact X88.returnOut hx Bd.returns (hb hby d6_112) hr
          · show Q6 Z a1 t1 c0 c1 c2 c3 v_end v_pos v_line v_ls k_t1 h0 n0 _ T88.heap _
            rw [e88]
            have fa91 : Exa Z h88 a1 "com/example/endcon/endcon/yaml/Cursor" := (fa87.wr W88)
            have fa92 : Fld Z h88 a1 "com/example/endcon/endcon/yaml/Cursor" "text" "[C" (.ref t1) := (((F_a1_text.other W75 (Or.inr (slot_ne (Or.inl (hw _ (List.mem_of_getElem? (i := 32) rfl))) (Or.inl (hw _ (List.mem_of_getElem? (i := 49) rfl))) (by decide) (t := (.array .char)) (t' := .int) (by decide) (by decide)))).other W81 (Or.inr (slot_ne (Or.inl (hw _ (List.mem_of_getElem? (i := 32) rfl))) (Or.inl (hw _ (List.mem_of_getElem? (i := 24) rfl))) (by decide) (t := (.array .char)) (t' := .int) (by decide) (by decide)))).other W88 (Or.inr (slot_ne (Or.inl (hw _ (List.mem_of_getElem? (i := 32) rfl))) (Or.inl (hw _ (List.mem_of_getElem? (i := 56) rfl))) (by decide) (t := (.array .char)) (t' := .int) (by decide) (by decide))))
            have lf93 := fa92
            have fa94 : Fld Z h88 a1 "com/example/endcon/endcon/yaml/Cursor" "end" "I" (.int v_end) := (((F_a1_end.other W75 (Or.inr (slot_ne (Or.inr (hw _ (List.mem_of_getElem? (i := 34) rfl))) (Or.inl (hw _ (List.mem_of_getElem? (i := 49) rfl))) (by decide) (t := .int) (t' := .int) (by decide) (by decide)))).other W81 (Or.inr (slot_ne (Or.inr (hw _ (List.mem_of_getElem? (i := 34) rfl))) (Or.inl (hw _ (List.mem_of_getElem? (i := 24) rfl))) (by decide) (t := .int) (t' := .int) (by decide) (by decide)))).other W88 (Or.inr (slot_ne (Or.inr (hw _ (List.mem_of_getElem? (i := 34) rfl))) (Or.inl (hw _ (List.mem_of_getElem? (i := 56) rfl))) (by decide) (t := .int) (t' := .int) (by decide) (by decide))))
            have lf95 := fa94
            have fa96 : Fld Z h88 a1 "com/example/endcon/endcon/yaml/Cursor" "pos" "I" (.int (v_pos + (2 : Int32))) := (fa84.other W88 (Or.inr (slot_ne (Or.inl (hw _ (List.mem_of_getElem? (i := 49) rfl))) (Or.inl (hw _ (List.mem_of_getElem? (i := 56) rfl))) (by decide) (t := .int) (t' := .int) (by decide) (by decide))))
            have lf97 : Fld Z h88 a1 "com/example/endcon/endcon/yaml/Cursor" "pos" "I" (.int (f6_a1_pos c0 c1 c2 c3 v_end v_pos v_line v_ls)) := by rw [f6_a1_pos, if_pos hc5, if_neg hc9, if_pos hc69, if_pos hc74]; exact fa96
            have fa98 : Fld Z h88 a1 "com/example/endcon/endcon/yaml/Cursor" "line" "I" (.int (v_line + (1 : Int32))) := (Fw81.other W88 (Or.inr (slot_ne (Or.inl (hw _ (List.mem_of_getElem? (i := 24) rfl))) (Or.inl (hw _ (List.mem_of_getElem? (i := 56) rfl))) (by decide) (t := .int) (t' := .int) (by decide) (by decide))))
            have lf99 : Fld Z h88 a1 "com/example/endcon/endcon/yaml/Cursor" "line" "I" (.int (f6_a1_line c0 c1 c2 c3 v_end v_pos v_line v_ls)) := by rw [f6_a1_line, if_pos hc5, if_neg hc9, if_pos hc69, if_pos hc74]; exact fa98
            have lf100 : Fld Z h88 a1 "com/example/endcon/endcon/yaml/Cursor" "lineStart" "I" (.int (f6_a1_lineStart c0 c1 c2 c3 v_end v_pos v_line v_ls)) := by rw [f6_a1_lineStart, if_pos hc5, if_neg hc9, if_pos hc69, if_pos hc74]; exact Fw88
            exact ⟨rfl, N88, kp90, fa91, lf93, lf95, lf97, lf99, lf100⟩
        · obtain ⟨T101, h101, X101, e101, W101, st101⟩ := putF X71 hx hZ hown (host := "") (Or.inl (hw _ (List.mem_of_getElem? (i := 48) rfl))) Via.refl e71 F_a1_pos E_a1 (Or.inl (hw _ (List.mem_of_getElem? (i := 49) rfl))) (hw _ (List.mem_of_getElem? (i := 7) rfl)) (ty := .int) (by decide) rfl rfl (g := (mkF m 87 #[.val (.ref a1), .val (.int (0 : Int32))] [(.int (v_pos + (1 : Int32))), (.ref a1)])) rfl rfl (hb hby d6_87)
          have Fw101 : Fld Z h101 a1 "com/example/endcon/endcon/yaml/Cursor" "pos" "I" (.int (v_pos + (1 : Int32))) := F_a1_pos.same W101
          have zs102 : n0 ≤ h101.size := Nat.le_trans Z0 (Keep.of_wr W101).1
          have kp103 : Keep h0 h101 [a1] := (Keep.refl h0 [a1]).wr W101 (Or.inl (List.mem_of_getElem? (i := 0) rfl))
          have N101 := Fr.snoc X101 N0 g_a1
          have fa104 : Fld Z h101 a1 "com/example/endcon/endcon/yaml/Cursor" "line" "I" (.int v_line) := (F_a1_line.other W101 (Or.inr (slot_ne (Or.inl (hw _ (List.mem_of_getElem? (i := 24) rfl))) (Or.inl (hw _ (List.mem_of_getElem? (i := 49) rfl))) (by decide) (t := .int) (t' := .int) (by decide) (by decide))))
          obtain ⟨T105, X105, e105, st105⟩ := getF X101 hx hZ hown (host := "") (Or.inl (hw _ (List.mem_of_getElem? (i := 23) rfl))) Via.refl e101 fa104 (g := (mkF m 96 #[.val (.ref a1), .val (.int (0 : Int32))] [(.ref a1), (.ref a1)])) rfl rfl (hb hby d6_96)
          have fa106 : Exa Z h101 a1 "com/example/endcon/endcon/yaml/Cursor" := (E_a1.wr W101)
          obtain ⟨T107, h107, X107, e107, W107, st107⟩ := putF X105 hx hZ hown (host := "") (Or.inl (hw _ (List.mem_of_getElem? (i := 23) rfl))) Via.refl e105 fa104 fa106 (Or.inl (hw _ (List.mem_of_getElem? (i := 24) rfl))) (hw _ (List.mem_of_getElem? (i := 7) rfl)) (ty := .int) (by decide) rfl rfl (g := (mkF m 101 #[.val (.ref a1), .val (.int (0 : Int32))] [(.int (v_line + (1 : Int32))), (.ref a1)])) rfl rfl (hb hby d6_101)
          have Fw107 : Fld Z h107 a1 "com/example/endcon/endcon/yaml/Cursor" "line" "I" (.int (v_line + (1 : Int32))) := fa104.same W107
          have zs108 : n0 ≤ h107.size := Nat.le_trans zs102 (Keep.of_wr W107).1
          have kp109 : Keep h0 h107 [a1] := kp103.wr W107 (Or.inl (List.mem_of_getElem? (i := 0) rfl))
          have N107 := Fr.snoc X107 N101 g_a1
          have fa110 : Fld Z h107 a1 "com/example/endcon/endcon/yaml/Cursor" "pos" "I" (.int (v_pos + (1 : Int32))) := (Fw101.other W107 (Or.inr (slot_ne (Or.inl (hw _ (List.mem_of_getElem? (i := 49) rfl))) (Or.inl (hw _ (List.mem_of_getElem? (i := 24) rfl))) (by decide) (t := .int) (t' := .int) (by decide) (by decide))))
          obtain ⟨T111, X111, e111, st111⟩ := getF X107 hx hZ hown (host := "") (Or.inl (hw _ (List.mem_of_getElem? (i := 48) rfl))) Via.refl e107 fa110 (g := (mkF m 106 #[.val (.ref a1), .val (.int (0 : Int32))] [(.ref a1), (.ref a1)])) rfl rfl (hb hby d6_106)
          have fa112 : Fld Z h107 a1 "com/example/endcon/endcon/yaml/Cursor" "lineStart" "I" (.int v_ls) := ((F_a1_lineStart.other W101 (Or.inr (slot_ne (Or.inl (hw _ (List.mem_of_getElem? (i := 56) rfl))) (Or.inl (hw _ (List.mem_of_getElem? (i := 49) rfl))) (by decide) (t := .int) (t' := .int) (by decide) (by decide)))).other W107 (Or.inr (slot_ne (Or.inl (hw _ (List.mem_of_getElem? (i := 56) rfl))) (Or.inl (hw _ (List.mem_of_getElem? (i := 24) rfl))) (by decide) (t := .int) (t' := .int) (by decide) (by decide))))
          have fa113 : Exa Z h107 a1 "com/example/endcon/endcon/yaml/Cursor" := (fa106.wr W107)
          obtain ⟨T114, h114, X114, e114, W114, st114⟩ := putF X111 hx hZ hown (host := "") (Or.inl (hw _ (List.mem_of_getElem? (i := 55) rfl))) Via.refl e111 fa112 fa113 (Or.inl (hw _ (List.mem_of_getElem? (i := 56) rfl))) (hw _ (List.mem_of_getElem? (i := 7) rfl)) (ty := .int) (by decide) rfl rfl (g := (mkF m 109 #[.val (.ref a1), .val (.int (0 : Int32))] [(.int (v_pos + (1 : Int32))), (.ref a1)])) rfl rfl (hb hby d6_109)
          have Fw114 : Fld Z h114 a1 "com/example/endcon/endcon/yaml/Cursor" "lineStart" "I" (.int (v_pos + (1 : Int32))) := fa112.same W114
          have zs115 : n0 ≤ h114.size := Nat.le_trans zs108 (Keep.of_wr W114).1
          have kp116 : Keep h0 h114 [a1] := kp109.wr W114 (Or.inl (List.mem_of_getElem? (i := 0) rfl))
          have N114 := Fr.snoc X114 N107 g_a1
          obtain ⟨fs, hr, hrun, hended, hW, hsame⟩ := X114.leave (v := none) (fun _ => rfl)
          refine ⟨_, _, pre73 _ ?_, hrun, hended, _, _, rfl, ?_, ⟨_, rfl⟩, hW, hsame.mono (by decide) (by decide)⟩
          · show Steps p.tables e below (T71.setTop (mkF m 78 #[.val (.ref a1), .val (.int (0 : Int32))] [(.int (10 : Int32)), (.int (own_at4 c0 c1 c2 c3 (v_pos + (1 : Int32)))), (.int v_pos), (.ref a1)])) _
            refine XS.icmpYes X71.here hx rfl (pc0 := 78) (pc' := 85) rfl (hb hby d6_78) rfl (feq hc74).2 (by decide) (by decide) ?_
            show Steps p.tables e below (T71.setTop (mkF m 85 #[.val (.ref a1), .val (.int (0 : Int32))] [(.int v_pos), (.ref a1)])) _
            refine own_blk X71 hx bl6_85_2 (own_hb hby bd6_85_2) (pc' := 87) (Ls' := #[.val (.ref a1), .val (.int (0 : Int32))]) (st' := [(.int (v_pos + (1 : Int32))), (.ref a1)]) rfl ?_
            refine st101 _ ?_
            show Steps p.tables e below (T101.setTop (mkF m 90 #[.val (.ref a1), .val (.int (0 : Int32))] [])) _
            refine own_blk X101 hx bl6_90_1 (own_hb hby bd6_90_1) (pc' := 91) (Ls' := #[.val (.ref a1), .val (.int (0 : Int32))]) (st' := [(.int (0 : Int32))]) rfl ?_
            refine XS.ifNo X101.here hx rfl (hb hby d6_91) rfl ((if0 _ _).trans (teq (by decide : (0 : Int32) = (0 : Int32))).2) ?_
            show Steps p.tables e below (T101.setTop (mkF m 94 #[.val (.ref a1), .val (.int (0 : Int32))] [])) _
            refine own_blk X101 hx bl6_94_2 (own_hb hby bd6_94_2) (pc' := 96) (Ls' := #[.val (.ref a1), .val (.int (0 : Int32))]) (st' := [(.ref a1), (.ref a1)]) rfl ?_
            refine st105 _ ?_
            show Steps p.tables e below (T105.setTop (mkF m 99 #[.val (.ref a1), .val (.int (0 : Int32))] [(.int v_line), (.ref a1)])) _
            refine own_blk X105 hx bl6_99_2 (own_hb hby bd6_99_2) (pc' := 101) (Ls' := #[.val (.ref a1), .val (.int (0 : Int32))]) (st' := [(.int (v_line + (1 : Int32))), (.ref a1)]) rfl ?_
            refine st107 _ ?_
            show Steps p.tables e below (T107.setTop (mkF m 104 #[.val (.ref a1), .val (.int (0 : Int32))] [])) _
            refine own_blk X107 hx bl6_104_2 (own_hb hby bd6_104_2) (pc' := 106) (Ls' := #[.val (.ref a1), .val (.int (0 : Int32))]) (st' := [(.ref a1), (.ref a1)]) rfl ?_
            refine st111 _ ?_
            show Steps p.tables e below (T111.setTop (mkF m 109 #[.val (.ref a1), .val (.int (0 : Int32))] [(.int (v_pos + (1 : Int32))), (.ref a1)])) _
            refine st114 _ ?_
            show Steps p.tables e below (T114.setTop (mkF m 112 #[.val (.ref a1), .val (.int (0 : Int32))] [])) _
            exact X114.returnOut hx Bd.returns (hb hby d6_112) hr
          · show Q6 Z a1 t1 c0 c1 c2 c3 v_end v_pos v_line v_ls k_t1 h0 n0 _ T114.heap _
            rw [e114]
            have fa117 : Exa Z h114 a1 "com/example/endcon/endcon/yaml/Cursor" := (fa113.wr W114)
            have fa118 : Fld Z h114 a1 "com/example/endcon/endcon/yaml/Cursor" "text" "[C" (.ref t1) := (((F_a1_text.other W101 (Or.inr (slot_ne (Or.inl (hw _ (List.mem_of_getElem? (i := 32) rfl))) (Or.inl (hw _ (List.mem_of_getElem? (i := 49) rfl))) (by decide) (t := (.array .char)) (t' := .int) (by decide) (by decide)))).other W107 (Or.inr (slot_ne (Or.inl (hw _ (List.mem_of_getElem? (i := 32) rfl))) (Or.inl (hw _ (List.mem_of_getElem? (i := 24) rfl))) (by decide) (t := (.array .char)) (t' := .int) (by decide) (by decide)))).other W114 (Or.inr (slot_ne (Or.inl (hw _ (List.mem_of_getElem? (i := 32) rfl))) (Or.inl (hw _ (List.mem_of_getElem? (i := 56) rfl))) (by decide) (t := (.array .char)) (t' := .int) (by decide) (by decide))))
            have lf119 := fa118
            have fa120 : Fld Z h114 a1 "com/example/endcon/endcon/yaml/Cursor" "end" "I" (.int v_end) := (((F_a1_end.other W101 (Or.inr (slot_ne (Or.inr (hw _ (List.mem_of_getElem? (i := 34) rfl))) (Or.inl (hw _ (List.mem_of_getElem? (i := 49) rfl))) (by decide) (t := .int) (t' := .int) (by decide) (by decide)))).other W107 (Or.inr (slot_ne (Or.inr (hw _ (List.mem_of_getElem? (i := 34) rfl))) (Or.inl (hw _ (List.mem_of_getElem? (i := 24) rfl))) (by decide) (t := .int) (t' := .int) (by decide) (by decide)))).other W114 (Or.inr (slot_ne (Or.inr (hw _ (List.mem_of_getElem? (i := 34) rfl))) (Or.inl (hw _ (List.mem_of_getElem? (i := 56) rfl))) (by decide) (t := .int) (t' := .int) (by decide) (by decide))))
            have lf121 := fa120
            have fa122 : Fld Z h114 a1 "com/example/endcon/endcon/yaml/Cursor" "pos" "I" (.int (v_pos + (1 : Int32))) := (fa110.other W114 (Or.inr (slot_ne (Or.inl (hw _ (List.mem_of_getElem? (i := 49) rfl))) (Or.inl (hw _ (List.mem_of_getElem? (i := 56) rfl))) (by decide) (t := .int) (t' := .int) (by decide) (by decide))))
            have lf123 : Fld Z h114 a1 "com/example/endcon/endcon/yaml/Cursor" "pos" "I" (.int (f6_a1_pos c0 c1 c2 c3 v_end v_pos v_line v_ls)) := by rw [f6_a1_pos, if_pos hc5, if_neg hc9, if_pos hc69, if_neg hc74]; exact fa122
            have fa124 : Fld Z h114 a1 "com/example/endcon/endcon/yaml/Cursor" "line" "I" (.int (v_line + (1 : Int32))) := (Fw107.other W114 (Or.inr (slot_ne (Or.inl (hw _ (List.mem_of_getElem? (i := 24) rfl))) (Or.inl (hw _ (List.mem_of_getElem? (i := 56) rfl))) (by decide) (t := .int) (t' := .int) (by decide) (by decide))))
            have lf125 : Fld Z h114 a1 "com/example/endcon/endcon/yaml/Cursor" "line" "I" (.int (f6_a1_line c0 c1 c2 c3 v_end v_pos v_line v_ls)) := by rw [f6_a1_line, if_pos hc5, if_neg hc9, if_pos hc69, if_neg hc74]; exact fa124
            have lf126 : Fld Z h114 a1 "com/example/endcon/endcon/yaml/Cursor" "lineStart" "I" (.int (f6_a1_lineStart c0 c1 c2 c3 v_end v_pos v_line v_ls)) := by rw [f6_a1_lineStart, if_pos hc5, if_neg hc9, if_pos hc69, if_neg hc74]; exact Fw114
            exact ⟨rfl, N114, kp116, fa117, lf119, lf121, lf123, lf125, lf126⟩
      · obtain ⟨T127, h127, X127, e127, W127, st127⟩ := putF X67 hx hZ hown (host := "") (Or.inl (hw _ (List.mem_of_getElem? (i := 48) rfl))) Via.refl e67 F_a1_pos E_a1 (Or.inl (hw _ (List.mem_of_getElem? (i := 49) rfl))) (hw _ (List.mem_of_getElem? (i := 7) rfl)) (ty := .int) (by decide) rfl rfl (g := (mkF m 87 #[.val (.ref a1), .val (.int (0 : Int32))] [(.int (v_pos + (1 : Int32))), (.ref a1)])) rfl rfl (hb hby d6_87)
        have Fw127 : Fld Z h127 a1 "com/example/endcon/endcon/yaml/Cursor" "pos" "I" (.int (v_pos + (1 : Int32))) := F_a1_pos.same W127
        have zs128 : n0 ≤ h127.size := Nat.le_trans Z0 (Keep.of_wr W127).1
        have kp129 : Keep h0 h127 [a1] := (Keep.refl h0 [a1]).wr W127 (Or.inl (List.mem_of_getElem? (i := 0) rfl))
        have N127 := Fr.snoc X127 N0 g_a1
        have fa130 : Fld Z h127 a1 "com/example/endcon/endcon/yaml/Cursor" "line" "I" (.int v_line) := (F_a1_line.other W127 (Or.inr (slot_ne (Or.inl (hw _ (List.mem_of_getElem? (i := 24) rfl))) (Or.inl (hw _ (List.mem_of_getElem? (i := 49) rfl))) (by decide) (t := .int) (t' := .int) (by decide) (by decide))))
        obtain ⟨T131, X131, e131, st131⟩ := getF X127 hx hZ hown (host := "") (Or.inl (hw _ (List.mem_of_getElem? (i := 23) rfl))) Via.refl e127 fa130 (g := (mkF m 96 #[.val (.ref a1), .val (.int (0 : Int32))] [(.ref a1), (.ref a1)])) rfl rfl (hb hby d6_96)
        have fa132 : Exa Z h127 a1 "com/example/endcon/endcon/yaml/Cursor" := (E_a1.wr W127)
        obtain ⟨T133, h133, X133, e133, W133, st133⟩ := putF X131 hx hZ hown (host := "") (Or.inl (hw _ (List.mem_of_getElem? (i := 23) rfl))) Via.refl e131 fa130 fa132 (Or.inl (hw _ (List.mem_of_getElem? (i := 24) rfl))) (hw _ (List.mem_of_getElem? (i := 7) rfl)) (ty := .int) (by decide) rfl rfl (g := (mkF m 101 #[.val (.ref a1), .val (.int (0 : Int32))] [(.int (v_line + (1 : Int32))), (.ref a1)])) rfl rfl (hb hby d6_101)
        have Fw133 : Fld Z h133 a1 "com/example/endcon/endcon/yaml/Cursor" "line" "I" (.int (v_line + (1 : Int32))) := fa130.same W133
        have zs134 : n0 ≤ h133.size := Nat.le_trans zs128 (Keep.of_wr W133).1
        have kp135 : Keep h0 h133 [a1] := kp129.wr W133 (Or.inl (List.mem_of_getElem? (i := 0) rfl))
        have N133 := Fr.snoc X133 N127 g_a1
        have fa136 : Fld Z h133 a1 "com/example/endcon/endcon/yaml/Cursor" "pos" "I" (.int (v_pos + (1 : Int32))) := (Fw127.other W133 (Or.inr (slot_ne (Or.inl (hw _ (List.mem_of_getElem? (i := 49) rfl))) (Or.inl (hw _ (List.mem_of_getElem? (i := 24) rfl))) (by decide) (t := .int) (t' := .int) (by decide) (by decide))))
        obtain ⟨T137, X137, e137, st137⟩ := getF X133 hx hZ hown (host := "") (Or.inl (hw _ (List.mem_of_getElem? (i := 48) rfl))) Via.refl e133 fa136 (g := (mkF m 106 #[.val (.ref a1), .val (.int (0 : Int32))] [(.ref a1), (.ref a1)])) rfl rfl (hb hby d6_106)
        have fa138 : Fld Z h133 a1 "com/example/endcon/endcon/yaml/Cursor" "lineStart" "I" (.int v_ls) := ((F_a1_lineStart.other W127 (Or.inr (slot_ne (Or.inl (hw _ (List.mem_of_getElem? (i := 56) rfl))) (Or.inl (hw _ (List.mem_of_getElem? (i := 49) rfl))) (by decide) (t := .int) (t' := .int) (by decide) (by decide)))).other W133 (Or.inr (slot_ne (Or.inl (hw _ (List.mem_of_getElem? (i := 56) rfl))) (Or.inl (hw _ (List.mem_of_getElem? (i := 24) rfl))) (by decide) (t := .int) (t' := .int) (by decide) (by decide))))
        have fa139 : Exa Z h133 a1 "com/example/endcon/endcon/yaml/Cursor" := (fa132.wr W133)
        obtain ⟨T140, h140, X140, e140, W140, st140⟩ := putF X137 hx hZ hown (host := "") (Or.inl (hw _ (List.mem_of_getElem? (i := 55) rfl))) Via.refl e137 fa138 fa139 (Or.inl (hw _ (List.mem_of_getElem? (i := 56) rfl))) (hw _ (List.mem_of_getElem? (i := 7) rfl)) (ty := .int) (by decide) rfl rfl (g := (mkF m 109 #[.val (.ref a1), .val (.int (0 : Int32))] [(.int (v_pos + (1 : Int32))), (.ref a1)])) rfl rfl (hb hby d6_109)
        have Fw140 : Fld Z h140 a1 "com/example/endcon/endcon/yaml/Cursor" "lineStart" "I" (.int (v_pos + (1 : Int32))) := fa138.same W140
        have zs141 : n0 ≤ h140.size := Nat.le_trans zs134 (Keep.of_wr W140).1
        have kp142 : Keep h0 h140 [a1] := kp135.wr W140 (Or.inl (List.mem_of_getElem? (i := 0) rfl))
        have N140 := Fr.snoc X140 N133 g_a1
        obtain ⟨fs, hr, hrun, hended, hW, hsame⟩ := X140.leave (v := none) (fun _ => rfl)
        refine ⟨_, _, pre68 _ ?_, hrun, hended, _, _, rfl, ?_, ⟨_, rfl⟩, hW, hsame.mono (by decide) (by decide)⟩
        · show Steps p.tables e below (T67.setTop (mkF m 62 #[.val (.ref a1), .val (.int (0 : Int32))] [(.int v_end), (.int (v_pos + (1 : Int32))), (.int v_pos), (.ref a1)])) _
          refine XS.icmpYes X67.here hx rfl (pc0 := 62) (pc' := 85) rfl (hb hby d6_62) rfl (flt hc69).2.1 (by decide) (by decide) ?_
          show Steps p.tables e below (T67.setTop (mkF m 85 #[.val (.ref a1), .val (.int (0 : Int32))] [(.int v_pos), (.ref a1)])) _
          refine own_blk X67 hx bl6_85_2 (own_hb hby bd6_85_2) (pc' := 87) (Ls' := #[.val (.ref a1), .val (.int (0 : Int32))]) (st' := [(.int (v_pos + (1 : Int32))), (.ref a1)]) rfl ?_
          refine st127 _ ?_
          show Steps p.tables e below (T127.setTop (mkF m 90 #[.val (.ref a1), .val (.int (0 : Int32))] [])) _
          refine own_blk X127 hx bl6_90_1 (own_hb hby bd6_90_1) (pc' := 91) (Ls' := #[.val (.ref a1), .val (.int (0 : Int32))]) (st' := [(.int (0 : Int32))]) rfl ?_
          refine XS.ifNo X127.here hx rfl (hb hby d6_91) rfl ((if0 _ _).trans (teq (by decide : (0 : Int32) = (0 : Int32))).2) ?_
          show Steps p.tables e below (T127.setTop (mkF m 94 #[.val (.ref a1), .val (.int (0 : Int32))] [])) _
          refine own_blk X127 hx bl6_94_2 (own_hb hby bd6_94_2) (pc' := 96) (Ls' := #[.val (.ref a1), .val (.int (0 : Int32))]) (st' := [(.ref a1), (.ref a1)]) rfl ?_
          refine st131 _ ?_
          show Steps p.tables e below (T131.setTop (mkF m 99 #[.val (.ref a1), .val (.int (0 : Int32))] [(.int v_line), (.ref a1)])) _
          refine own_blk X131 hx bl6_99_2 (own_hb hby bd6_99_2) (pc' := 101) (Ls' := #[.val (.ref a1), .val (.int (0 : Int32))]) (st' := [(.int (v_line + (1 : Int32))), (.ref a1)]) rfl ?_
          refine st133 _ ?_
          show Steps p.tables e below (T133.setTop (mkF m 104 #[.val (.ref a1), .val (.int (0 : Int32))] [])) _
          refine own_blk X133 hx bl6_104_2 (own_hb hby bd6_104_2) (pc' := 106) (Ls' := #[.val (.ref a1), .val (.int (0 : Int32))]) (st' := [(.ref a1), (.ref a1)]) rfl ?_
          refine st137 _ ?_
          show Steps p.tables e below (T137.setTop (mkF m 109 #[.val (.ref a1), .val (.int (0 : Int32))] [(.int (v_pos + (1 : Int32))), (.ref a1)])) _
          refine st140 _ ?_
          show Steps p.tables e below (T140.setTop (mkF m 112 #[.val (.ref a1), .val (.int (0 : Int32))] [])) _
          exact X140.returnOut hx Bd.returns (hb hby d6_112) hr
        · show Q6 Z a1 t1 c0 c1 c2 c3 v_end v_pos v_line v_ls k_t1 h0 n0 _ T140.heap _
          rw [e140]
          have fa143 : Exa Z h140 a1 "com/example/endcon/endcon/yaml/Cursor" := (fa139.wr W140)
          have fa144 : Fld Z h140 a1 "com/example/endcon/endcon/yaml/Cursor" "text" "[C" (.ref t1) := (((F_a1_text.other W127 (Or.inr (slot_ne (Or.inl (hw _ (List.mem_of_getElem? (i := 32) rfl))) (Or.inl (hw _ (List.mem_of_getElem? (i := 49) rfl))) (by decide) (t := (.array .char)) (t' := .int) (by decide) (by decide)))).other W133 (Or.inr (slot_ne (Or.inl (hw _ (List.mem_of_getElem? (i := 32) rfl))) (Or.inl (hw _ (List.mem_of_getElem? (i := 24) rfl))) (by decide) (t := (.array .char)) (t' := .int) (by decide) (by decide)))).other W140 (Or.inr (slot_ne (Or.inl (hw _ (List.mem_of_getElem? (i := 32) rfl))) (Or.inl (hw _ (List.mem_of_getElem? (i := 56) rfl))) (by decide) (t := (.array .char)) (t' := .int) (by decide) (by decide))))
          have lf145 := fa144
          have fa146 : Fld Z h140 a1 "com/example/endcon/endcon/yaml/Cursor" "end" "I" (.int v_end) := (((F_a1_end.other W127 (Or.inr (slot_ne (Or.inr (hw _ (List.mem_of_getElem? (i := 34) rfl))) (Or.inl (hw _ (List.mem_of_getElem? (i := 49) rfl))) (by decide) (t := .int) (t' := .int) (by decide) (by decide)))).other W133 (Or.inr (slot_ne (Or.inr (hw _ (List.mem_of_getElem? (i := 34) rfl))) (Or.inl (hw _ (List.mem_of_getElem? (i := 24) rfl))) (by decide) (t := .int) (t' := .int) (by decide) (by decide)))).other W140 (Or.inr (slot_ne (Or.inr (hw _ (List.mem_of_getElem? (i := 34) rfl))) (Or.inl (hw _ (List.mem_of_getElem? (i := 56) rfl))) (by decide) (t := .int) (t' := .int) (by decide) (by decide))))
          have lf147 := fa146
          have fa148 : Fld Z h140 a1 "com/example/endcon/endcon/yaml/Cursor" "pos" "I" (.int (v_pos + (1 : Int32))) := (fa136.other W140 (Or.inr (slot_ne (Or.inl (hw _ (List.mem_of_getElem? (i := 49) rfl))) (Or.inl (hw _ (List.mem_of_getElem? (i := 56) rfl))) (by decide) (t := .int) (t' := .int) (by decide) (by decide))))
          have lf149 : Fld Z h140 a1 "com/example/endcon/endcon/yaml/Cursor" "pos" "I" (.int (f6_a1_pos c0 c1 c2 c3 v_end v_pos v_line v_ls)) := by rw [f6_a1_pos, if_pos hc5, if_neg hc9, if_neg hc69]; exact fa148
          have fa150 : Fld Z h140 a1 "com/example/endcon/endcon/yaml/Cursor" "line" "I" (.int (v_line + (1 : Int32))) := (Fw133.other W140 (Or.inr (slot_ne (Or.inl (hw _ (List.mem_of_getElem? (i := 24) rfl))) (Or.inl (hw _ (List.mem_of_getElem? (i := 56) rfl))) (by decide) (t := .int) (t' := .int) (by decide) (by decide))))
          have lf151 : Fld Z h140 a1 "com/example/endcon/endcon/yaml/Cursor" "line" "I" (.int (f6_a1_line c0 c1 c2 c3 v_end v_pos v_line v_ls)) := by rw [f6_a1_line, if_pos hc5, if_neg hc9, if_neg hc69]; exact fa150
          have lf152 : Fld Z h140 a1 "com/example/endcon/endcon/yaml/Cursor" "lineStart" "I" (.int (f6_a1_lineStart c0 c1 c2 c3 v_end v_pos v_line v_ls)) := by rw [f6_a1_lineStart, if_pos hc5, if_neg hc9, if_neg hc69]; exact Fw140
          exact ⟨rfl, N140, kp142, fa143, lf145, lf147, lf149, lf151, lf152⟩
  · obtain ⟨T153, X153, e153, st153⟩ := getF X2 hx hZ hown (host := "") (Or.inl (hw _ (List.mem_of_getElem? (i := 48) rfl))) Via.refl e2 F_a1_pos (g := (mkF m 35 #[.val (.ref a1), .val (.int (0 : Int32))] [(.ref a1), (.ref a1)])) rfl rfl (hb hby d6_35)
    obtain ⟨T154, X154, e154, st154⟩ := getF X153 hx hZ hown (host := "") (Or.inl (hw _ (List.mem_of_getElem? (i := 31) rfl))) Via.refl e153 F_a1_text (g := (mkF m 39 #[.val (.ref a1), .val (.int (0 : Int32))] [(.ref a1), (.int v_pos), (.ref a1)])) rfl rfl (hb hby d6_39)
    obtain ⟨T155, X155, e155, st155⟩ := getF X154 hx hZ hown (host := "") (Or.inl (hw _ (List.mem_of_getElem? (i := 48) rfl))) Via.refl e154 F_a1_pos (g := (mkF m 43 #[.val (.ref a1), .val (.int (0 : Int32))] [(.ref a1), (.ref t1), (.int v_pos), (.ref a1)])) rfl rfl (hb hby d6_43)
    obtain ⟨cx156, Ar156, qq156, S156, N156_, H156, G156⟩ := id V_t1
    have hin156 : ¬ (v_pos < 0 ∨ cx156.slots.size ≤ (v_pos).toNatClampNeg) := inb_of S156 ⟨hp0, hp4⟩
    have hat156 : cx156.slots[(v_pos).toNatClampNeg]? = some (.int (own_at4 c0 c1 c2 c3 v_pos)) := (H156 (v_pos).toNatClampNeg (Nat.lt_of_not_le fun w => hin156 (Or.inr w))).trans (congrArg some (own_at4_ok c0 c1 c2 c3 hp0 hp4))
    obtain ⟨T157, h157, X157, e157, W157, st157⟩ := putF X155 hx hZ hown (host := "") (Or.inl (hw _ (List.mem_of_getElem? (i := 48) rfl))) Via.refl e155 F_a1_pos E_a1 (Or.inl (hw _ (List.mem_of_getElem? (i := 49) rfl))) (hw _ (List.mem_of_getElem? (i := 7) rfl)) (ty := .int) (by decide) rfl rfl (g := (mkF m 87 #[.val (.ref a1), .val (.int (0 : Int32))] [(.int (v_pos + (1 : Int32))), (.ref a1)])) rfl rfl (hb hby d6_87)
    have Fw157 : Fld Z h157 a1 "com/example/endcon/endcon/yaml/Cursor" "pos" "I" (.int (v_pos + (1 : Int32))) := F_a1_pos.same W157
    have zs158 : n0 ≤ h157.size := Nat.le_trans Z0 (Keep.of_wr W157).1
    have kp159 : Keep h0 h157 [a1] := (Keep.refl h0 [a1]).wr W157 (Or.inl (List.mem_of_getElem? (i := 0) rfl))
    have N157 := Fr.snoc X157 N0 g_a1
    have fa160 : Fld Z h157 a1 "com/example/endcon/endcon/yaml/Cursor" "line" "I" (.int v_line) := (F_a1_line.other W157 (Or.inr (slot_ne (Or.inl (hw _ (List.mem_of_getElem? (i := 24) rfl))) (Or.inl (hw _ (List.mem_of_getElem? (i := 49) rfl))) (by decide) (t := .int) (t' := .int) (by decide) (by decide))))
    obtain ⟨T161, X161, e161, st161⟩ := getF X157 hx hZ hown (host := "") (Or.inl (hw _ (List.mem_of_getElem? (i := 23) rfl))) Via.refl e157 fa160 (g := (mkF m 96 #[.val (.ref a1), .val (.int (0 : Int32))] [(.ref a1), (.ref a1)])) rfl rfl (hb hby d6_96)
    have fa162 : Exa Z h157 a1 "com/example/endcon/endcon/yaml/Cursor" := (E_a1.wr W157)
    obtain ⟨T163, h163, X163, e163, W163, st163⟩ := putF X161 hx hZ hown (host := "") (Or.inl (hw _ (List.mem_of_getElem? (i := 23) rfl))) Via.refl e161 fa160 fa162 (Or.inl (hw _ (List.mem_of_getElem? (i := 24) rfl))) (hw _ (List.mem_of_getElem? (i := 7) rfl)) (ty := .int) (by decide) rfl rfl (g := (mkF m 101 #[.val (.ref a1), .val (.int (0 : Int32))] [(.int (v_line + (1 : Int32))), (.ref a1)])) rfl rfl (hb hby d6_101)
    have Fw163 : Fld Z h163 a1 "com/example/endcon/endcon/yaml/Cursor" "line" "I" (.int (v_line + (1 : Int32))) := fa160.same W163
    have zs164 : n0 ≤ h163.size := Nat.le_trans zs158 (Keep.of_wr W163).1
    have kp165 : Keep h0 h163 [a1] := kp159.wr W163 (Or.inl (List.mem_of_getElem? (i := 0) rfl))
    have N163 := Fr.snoc X163 N157 g_a1
    have fa166 : Fld Z h163 a1 "com/example/endcon/endcon/yaml/Cursor" "pos" "I" (.int (v_pos + (1 : Int32))) := (Fw157.other W163 (Or.inr (slot_ne (Or.inl (hw _ (List.mem_of_getElem? (i := 49) rfl))) (Or.inl (hw _ (List.mem_of_getElem? (i := 24) rfl))) (by decide) (t := .int) (t' := .int) (by decide) (by decide))))
    obtain ⟨T167, X167, e167, st167⟩ := getF X163 hx hZ hown (host := "") (Or.inl (hw _ (List.mem_of_getElem? (i := 48) rfl))) Via.refl e163 fa166 (g := (mkF m 106 #[.val (.ref a1), .val (.int (0 : Int32))] [(.ref a1), (.ref a1)])) rfl rfl (hb hby d6_106)
    have fa168 : Fld Z h163 a1 "com/example/endcon/endcon/yaml/Cursor" "lineStart" "I" (.int v_ls) := ((F_a1_lineStart.other W157 (Or.inr (slot_ne (Or.inl (hw _ (List.mem_of_getElem? (i := 56) rfl))) (Or.inl (hw _ (List.mem_of_getElem? (i := 49) rfl))) (by decide) (t := .int) (t' := .int) (by decide) (by decide)))).other W163 (Or.inr (slot_ne (Or.inl (hw _ (List.mem_of_getElem? (i := 56) rfl))) (Or.inl (hw _ (List.mem_of_getElem? (i := 24) rfl))) (by decide) (t := .int) (t' := .int) (by decide) (by decide))))
    have fa169 : Exa Z h163 a1 "com/example/endcon/endcon/yaml/Cursor" := (fa162.wr W163)
    obtain ⟨T170, h170, X170, e170, W170, st170⟩ := putF X167 hx hZ hown (host := "") (Or.inl (hw _ (List.mem_of_getElem? (i := 55) rfl))) Via.refl e167 fa168 fa169 (Or.inl (hw _ (List.mem_of_getElem? (i := 56) rfl))) (hw _ (List.mem_of_getElem? (i := 7) rfl)) (ty := .int) (by decide) rfl rfl (g := (mkF m 109 #[.val (.ref a1), .val (.int (0 : Int32))] [(.int (v_pos + (1 : Int32))), (.ref a1)])) rfl rfl (hb hby d6_109)
    have Fw170 : Fld Z h170 a1 "com/example/endcon/endcon/yaml/Cursor" "lineStart" "I" (.int (v_pos + (1 : Int32))) := fa168.same W170
    have zs171 : n0 ≤ h170.size := Nat.le_trans zs164 (Keep.of_wr W170).1
    have kp172 : Keep h0 h170 [a1] := kp165.wr W170 (Or.inl (List.mem_of_getElem? (i := 0) rfl))
    have N170 := Fr.snoc X170 N163 g_a1
    obtain ⟨fs, hr, hrun, hended, hW, hsame⟩ := X170.leave (v := none) (fun _ => rfl)
    refine ⟨_, _, pre4 _ ?_, hrun, hended, _, _, rfl, ?_, ⟨_, rfl⟩, hW, hsame.mono (by decide) (by decide)⟩
    · show Steps p.tables e below (T2.setTop (mkF m 11 #[.val (.ref a1), .unset] [(.int (13 : Int32)), (.int (own_at4 c0 c1 c2 c3 v_pos))])) _
      refine XS.icmpYes X2.here hx rfl (pc0 := 11) (pc' := 31) rfl (hb hby d6_11) rfl (feq hc5).2 (by decide) (by decide) ?_
      show Steps p.tables e below (T2.setTop (mkF m 31 #[.val (.ref a1), .unset] [])) _
      refine own_blk X2 hx bl6_31_2 (own_hb hby bd6_31_2) (pc' := 33) (Ls' := #[.val (.ref a1), .val (.int (0 : Int32))]) (st' := []) rfl ?_
      refine own_blk X2 hx bl6_33_2 (own_hb hby bd6_33_2) (pc' := 35) (Ls' := #[.val (.ref a1), .val (.int (0 : Int32))]) (st' := [(.ref a1), (.ref a1)]) rfl ?_
      refine st153 _ ?_
      show Steps p.tables e below (T153.setTop (mkF m 38 #[.val (.ref a1), .val (.int (0 : Int32))] [(.int v_pos), (.ref a1)])) _
      refine own_blk X153 hx bl6_38_1 (own_hb hby bd6_38_1) (pc' := 39) (Ls' := #[.val (.ref a1), .val (.int (0 : Int32))]) (st' := [(.ref a1), (.int v_pos), (.ref a1)]) rfl ?_
      refine st154 _ ?_
      show Steps p.tables e below (T154.setTop (mkF m 42 #[.val (.ref a1), .val (.int (0 : Int32))] [(.ref t1), (.int v_pos), (.ref a1)])) _
      refine own_blk X154 hx bl6_42_1 (own_hb hby bd6_42_1) (pc' := 43) (Ls' := #[.val (.ref a1), .val (.int (0 : Int32))]) (st' := [(.ref a1), (.ref t1), (.int v_pos), (.ref a1)]) rfl ?_
      refine st155 _ ?_
      show Steps p.tables e below (T155.setTop (mkF m 46 #[.val (.ref a1), .val (.int (0 : Int32))] [(.int v_pos), (.ref t1), (.int v_pos), (.ref a1)])) _
      refine X155.caload hx (j := v_pos) (v := (.int (own_at4 c0 c1 c2 c3 v_pos))) (by rw [e155]; exact Ar156.1) (State.isArrayOf_alike hZ.alike Ar156.2.1) Ar156.2.2 hin156 hat156 (g := (mkF m 46 #[.val (.ref a1), .val (.int (0 : Int32))] [(.int v_pos), (.ref t1), (.int v_pos), (.ref a1)])) rfl rfl (hb hby d6_46) _ ?_
      show Steps p.tables e below (T155.setTop (mkF m 47 #[.val (.ref a1), .val (.int (0 : Int32))] [(.int (own_at4 c0 c1 c2 c3 v_pos)), (.int v_pos), (.ref a1)])) _
      refine own_blk X155 hx bl6_47_1 (own_hb hby bd6_47_1) (pc' := 49) (Ls' := #[.val (.ref a1), .val (.int (0 : Int32))]) (st' := [(.int (13 : Int32)), (.int (own_at4 c0 c1 c2 c3 v_pos)), (.int v_pos), (.ref a1)]) rfl ?_
      refine XS.icmpYes X155.here hx rfl (pc0 := 49) (pc' := 85) rfl (hb hby d6_49) rfl (feq hc5).2 (by decide) (by decide) ?_
      show Steps p.tables e below (T155.setTop (mkF m 85 #[.val (.ref a1), .val (.int (0 : Int32))] [(.int v_pos), (.ref a1)])) _
      refine own_blk X155 hx bl6_85_2 (own_hb hby bd6_85_2) (pc' := 87) (Ls' := #[.val (.ref a1), .val (.int (0 : Int32))]) (st' := [(.int (v_pos + (1 : Int32))), (.ref a1)]) rfl ?_
      refine st157 _ ?_
      show Steps p.tables e below (T157.setTop (mkF m 90 #[.val (.ref a1), .val (.int (0 : Int32))] [])) _
      refine own_blk X157 hx bl6_90_1 (own_hb hby bd6_90_1) (pc' := 91) (Ls' := #[.val (.ref a1), .val (.int (0 : Int32))]) (st' := [(.int (0 : Int32))]) rfl ?_
      refine XS.ifNo X157.here hx rfl (hb hby d6_91) rfl ((if0 _ _).trans (teq (by decide : (0 : Int32) = (0 : Int32))).2) ?_
      show Steps p.tables e below (T157.setTop (mkF m 94 #[.val (.ref a1), .val (.int (0 : Int32))] [])) _
      refine own_blk X157 hx bl6_94_2 (own_hb hby bd6_94_2) (pc' := 96) (Ls' := #[.val (.ref a1), .val (.int (0 : Int32))]) (st' := [(.ref a1), (.ref a1)]) rfl ?_
      refine st161 _ ?_
      show Steps p.tables e below (T161.setTop (mkF m 99 #[.val (.ref a1), .val (.int (0 : Int32))] [(.int v_line), (.ref a1)])) _
      refine own_blk X161 hx bl6_99_2 (own_hb hby bd6_99_2) (pc' := 101) (Ls' := #[.val (.ref a1), .val (.int (0 : Int32))]) (st' := [(.int (v_line + (1 : Int32))), (.ref a1)]) rfl ?_
      refine st163 _ ?_
      show Steps p.tables e below (T163.setTop (mkF m 104 #[.val (.ref a1), .val (.int (0 : Int32))] [])) _
      refine own_blk X163 hx bl6_104_2 (own_hb hby bd6_104_2) (pc' := 106) (Ls' := #[.val (.ref a1), .val (.int (0 : Int32))]) (st' := [(.ref a1), (.ref a1)]) rfl ?_
      refine st167 _ ?_
      show Steps p.tables e below (T167.setTop (mkF m 109 #[.val (.ref a1), .val (.int (0 : Int32))] [(.int (v_pos + (1 : Int32))), (.ref a1)])) _
      refine st170 _ ?_
      show Steps p.tables e below (T170.setTop (mkF m 112 #[.val (.ref a1), .val (.int (0 : Int32))] [])) _
      exact X170.returnOut hx Bd.returns (hb hby d6_112) hr
    · show Q6 Z a1 t1 c0 c1 c2 c3 v_end v_pos v_line v_ls k_t1 h0 n0 _ T170.heap _
      rw [e170]
      have fa173 : Exa Z h170 a1 "com/example/endcon/endcon/yaml/Cursor" := (fa169.wr W170)
      have fa174 : Fld Z h170 a1 "com/example/endcon/endcon/yaml/Cursor" "text" "[C" (.ref t1) := (((F_a1_text.other W157 (Or.inr (slot_ne (Or.inl (hw _ (List.mem_of_getElem? (i := 32) rfl))) (Or.inl (hw _ (List.mem_of_getElem? (i := 49) rfl))) (by decide) (t := (.array .char)) (t' := .int) (by decide) (by decide)))).other W163 (Or.inr (slot_ne (Or.inl (hw _ (List.mem_of_getElem? (i := 32) rfl))) (Or.inl (hw _ (List.mem_of_getElem? (i := 24) rfl))) (by decide) (t := (.array .char)) (t' := .int) (by decide) (by decide)))).other W170 (Or.inr (slot_ne (Or.inl (hw _ (List.mem_of_getElem? (i := 32) rfl))) (Or.inl (hw _ (List.mem_of_getElem? (i := 56) rfl))) (by decide) (t := (.array .char)) (t' := .int) (by decide) (by decide))))
      have lf175 := fa174
      have fa176 : Fld Z h170 a1 "com/example/endcon/endcon/yaml/Cursor" "end" "I" (.int v_end) := (((F_a1_end.other W157 (Or.inr (slot_ne (Or.inr (hw _ (List.mem_of_getElem? (i := 34) rfl))) (Or.inl (hw _ (List.mem_of_getElem? (i := 49) rfl))) (by decide) (t := .int) (t' := .int) (by decide) (by decide)))).other W163 (Or.inr (slot_ne (Or.inr (hw _ (List.mem_of_getElem? (i := 34) rfl))) (Or.inl (hw _ (List.mem_of_getElem? (i := 24) rfl))) (by decide) (t := .int) (t' := .int) (by decide) (by decide)))).other W170 (Or.inr (slot_ne (Or.inr (hw _ (List.mem_of_getElem? (i := 34) rfl))) (Or.inl (hw _ (List.mem_of_getElem? (i := 56) rfl))) (by decide) (t := .int) (t' := .int) (by decide) (by decide))))
      have lf177 := fa176
      have fa178 : Fld Z h170 a1 "com/example/endcon/endcon/yaml/Cursor" "pos" "I" (.int (v_pos + (1 : Int32))) := (fa166.other W170 (Or.inr (slot_ne (Or.inl (hw _ (List.mem_of_getElem? (i := 49) rfl))) (Or.inl (hw _ (List.mem_of_getElem? (i := 56) rfl))) (by decide) (t := .int) (t' := .int) (by decide) (by decide))))
      have lf179 : Fld Z h170 a1 "com/example/endcon/endcon/yaml/Cursor" "pos" "I" (.int (f6_a1_pos c0 c1 c2 c3 v_end v_pos v_line v_ls)) := by rw [f6_a1_pos, if_neg hc5]; exact fa178
      have fa180 : Fld Z h170 a1 "com/example/endcon/endcon/yaml/Cursor" "line" "I" (.int (v_line + (1 : Int32))) := (Fw163.other W170 (Or.inr (slot_ne (Or.inl (hw _ (List.mem_of_getElem? (i := 24) rfl))) (Or.inl (hw _ (List.mem_of_getElem? (i := 56) rfl))) (by decide) (t := .int) (t' := .int) (by decide) (by decide))))
      have lf181 : Fld Z h170 a1 "com/example/endcon/endcon/yaml/Cursor" "line" "I" (.int (f6_a1_line c0 c1 c2 c3 v_end v_pos v_line v_ls)) := by rw [f6_a1_line, if_neg hc5]; exact fa180
      have lf182 : Fld Z h170 a1 "com/example/endcon/endcon/yaml/Cursor" "lineStart" "I" (.int (f6_a1_lineStart c0 c1 c2 c3 v_end v_pos v_line v_ls)) := by rw [f6_a1_lineStart, if_neg hc5]; exact Fw170
      exact ⟨rfl, N170, kp172, fa173, lf175, lf177, lf179, lf181, lf182⟩
theorem own_nr (x : Int32) : 1 ≤ ((1 : Int32) + (x &&& (3 : Int32))).toInt ∧ ((1 : Int32) + (x &&& (3 : Int32))).toInt ≤ 4 := by
  have h := c_mask x 3 2 (by decide) (by decide)
  have a := c_iadd 1 (x &&& 3)
  have r := rng32 (1 + (x &&& 3))
  have l1 : (1 : Int32).toInt = 1 := by decide
  omega
theorem own_n0 (x : Int32) : ¬ (((1 : Int32) + (x &&& (3 : Int32))) = (0 : Int32)) := by
  have h := own_nr x
  have l0 : (0 : Int32).toInt = 0 := by decide
  rw [← Int32.toInt_inj, l0]; omega
theorem own_n4 (x : Int32) : ¬ ((4 : Int32) < ((1 : Int32) + (x &&& (3 : Int32)))) := by
  have h := own_nr x
  have l4 : (4 : Int32).toInt = 4 := by decide
  rw [Int32.lt_iff_toInt_lt, l4]; omega
theorem own_kr (x y : Int32) : 0 ≤ ((y &&& (2147483647 : Int32)) % ((1 : Int32) + (x &&& (3 : Int32)))).toInt ∧ ((y &&& (2147483647 : Int32)) % ((1 : Int32) + (x &&& (3 : Int32)))).toInt < ((1 : Int32) + (x &&& (3 : Int32))).toInt := by
  have h := c_mask y 2147483647 31 (by decide) (by decide)
  have n := own_nr x
  have q := (c_iremV (y &&& 2147483647) ((1 : Int32) + (x &&& (3 : Int32)))).1 (by rw [h]; omega) (by omega)
  exact ⟨q.1, q.2.1⟩
theorem own_pn (x y : Int32) {k : Int32} (h : ((y &&& (2147483647 : Int32)) % ((1 : Int32) + (x &&& (3 : Int32)))) = k) : k < ((1 : Int32) + (x &&& (3 : Int32))) := by
  have q := own_kr x y
  rw [h] at q
  rw [Int32.lt_iff_toInt_lt]; exact q.2
theorem own_eqlt {a b : Int32} (h : a = b) : ¬ a < b := by subst h; exact Int32.lt_irrefl
theorem own_nelt {k n : Int32} (h : k < n) (h2 : ¬ (k + 1 = n)) : k + 1 < n := by
  have a := c_iadd k 1
  have r := rng32 (k + 1)
  have r2 := rng32 n
  have r3 := rng32 k
  have l1 : (1 : Int32).toInt = 1 := by decide
  simp only [Int32.lt_iff_toInt_lt, ← Int32.toInt_inj, l1] at *
  omega
theorem own_chr {x : Int32} (h : 0 ≤ x.toInt ∧ x.toInt < 256) : (nar .char x) < (55296 : Int32) := by
  have q := c_i2c x
  have l : (55296 : Int32).toInt = 55296 := by decide
  show x.toUInt32.toUInt16.toUInt32.toInt32 < _
  rw [Int32.lt_iff_toInt_lt, l]; omega
theorem own_i2c8 (x : Int32) : 0 ≤ ((x &&& (255 : Int32)).toUInt32.toUInt16.toUInt32.toInt32).toInt ∧ ((x &&& (255 : Int32)).toUInt32.toUInt16.toUInt32.toInt32).toInt < 256 := by
  have q := c_i2c (x &&& 255)
  have h := c_mask x 255 8 (by decide) (by decide)
  omega
theorem own_lt1 (x : Int32) : (nar .char ((x &&& (255 : Int32)).toUInt32.toUInt16.toUInt32.toInt32)) < (55296 : Int32) := own_chr (own_i2c8 x)
theorem own_lt2 (x : Int32) : (nar .char ((((x.toUInt32 >>> ((8 : Int32) &&& 31).toUInt32).toInt32) &&& (255 : Int32)).toUInt32.toUInt16.toUInt32.toInt32)) < (55296 : Int32) := own_chr (own_i2c8 _)
theorem own_ltp (x : Int32) : (nar .char (f1 x)) < (55296 : Int32) := by
  unfold f1
  split
  · decide
  split
  · decide
  refine own_chr ?_
  have q := c_i2c ((((x.toUInt32 >>> ((2 : Int32) &&& 31).toUInt32).toInt32) &&& (255 : Int32)).toUInt32.toUInt16.toUInt32.toInt32)
  have h := own_i2c8 ((x.toUInt32 >>> ((2 : Int32) &&& 31).toUInt32).toInt32)
  show 0 ≤ ((((((x.toUInt32 >>> ((2 : Int32) &&& 31).toUInt32).toInt32) &&& (255 : Int32)).toUInt32.toUInt16.toUInt32.toInt32)).toUInt32.toUInt16.toUInt32.toInt32).toInt ∧ ((((((x.toUInt32 >>> ((2 : Int32) &&& 31).toUInt32).toInt32) &&& (255 : Int32)).toUInt32.toUInt16.toUInt32.toInt32)).toUInt32.toUInt16.toUInt32.toInt32).toInt < 256
  omega
theorem pn_0 : plainName "com/example/endcon/endcon/yaml/CursorNewLinePinLaw" = true := by first | (simp [plainName, overriddenIn]; done) | decide +kernel
theorem pd_0_0 : parseMethodDescriptor "(I)C" = some ⟨[.int], some .char⟩ := by decide +kernel
theorem pd_0_1 : parseMethodDescriptor "(Ljava/lang/String;[CI)V" = some ⟨[(.object "java/lang/String"), (.array .char), .int], none⟩ := by decide +kernel
theorem pd_0_4 : parseMethodDescriptor "(I)V" = some ⟨[.int], none⟩ := by decide +kernel
theorem pd_0_2 : parseMethodDescriptor "()V" = some ⟨[], none⟩ := by decide +kernel
theorem pd_0_5 : parseMethodDescriptor "()I" = some ⟨[], some .int⟩ := by decide +kernel
theorem ef_0 (m : MethodId) (x0 : Int32) (x1 : Int32) (x2 : Int32) (x3 : Int32) (x4 : Int32) (x5 : Int32) : entryFrame m #[(.int x0), (.int x1), (.int x2), (.int x3), (.int x4), (.int x5)] maxLocals = mkF m 0 #[.val (.int x0), .val (.int x1), .val (.int x2), .val (.int x3), .val (.int x4), .val (.int x5), .unset, .unset, .unset, .unset, .unset, .unset, .unset, .unset] [] := by first | (simp [entryFrame, mkF, argsToLocals, Value.category, maxLocals]; done) | rfl
def bl0_0_6 : List (Nat × Instr × Nat) := [(0, .iconst 1, 1), (1, .iload_n 0, 1), (2, .iconst 3, 1), (3, .iand, 1), (4, .iadd, 1), (5, .istore 6, 2)]
theorem bd0_0_6 : own_dec code bl0_0_6 = true := by decide +kernel
def bl0_7_1 : List (Nat × Instr × Nat) := [(7, .iload_n 1, 1)]
theorem bd0_7_1 : own_dec code bl0_7_1 = true := by decide +kernel
def bl0_10_2 : List (Nat × Instr × Nat) := [(10, .iand, 1), (11, .iload 6, 2)]
theorem bd0_10_2 : own_dec code bl0_10_2 = true := by decide +kernel
def bl0_14_1 : List (Nat × Instr × Nat) := [(14, .istore 7, 2)]
theorem bd0_14_1 : own_dec code bl0_14_1 = true := by decide +kernel
def bl0_16_1 : List (Nat × Instr × Nat) := [(16, .iconst 4, 1)]
theorem bd0_16_1 : own_dec code bl0_16_1 = true := by decide +kernel
def bl0_19_1 : List (Nat × Instr × Nat) := [(19, .astore 8, 2)]
theorem bd0_19_1 : own_dec code bl0_19_1 = true := by decide +kernel
def bl0_21_6 : List (Nat × Instr × Nat) := [(21, .aload 8, 2), (23, .iconst 0, 1), (24, .iload 4, 2), (26, .sipush 255, 3), (29, .iand, 1), (30, .i2c, 1)]
theorem bd0_21_6 : own_dec code bl0_21_6 = true := by decide +kernel
def bl0_32_8 : List (Nat × Instr × Nat) := [(32, .aload 8, 2), (34, .iconst 1, 1), (35, .iload 4, 2), (37, .bipush 8, 2), (39, .iushr, 1), (40, .sipush 255, 3), (43, .iand, 1), (44, .i2c, 1)]
theorem bd0_32_8 : own_dec code bl0_32_8 = true := by decide +kernel
def bl0_46_6 : List (Nat × Instr × Nat) := [(46, .aload 8, 2), (48, .iconst 2, 1), (49, .iload 5, 2), (51, .sipush 255, 3), (54, .iand, 1), (55, .i2c, 1)]
theorem bd0_46_6 : own_dec code bl0_46_6 = true := by decide +kernel
def bl0_57_8 : List (Nat × Instr × Nat) := [(57, .aload 8, 2), (59, .iconst 3, 1), (60, .iload 5, 2), (62, .bipush 8, 2), (64, .iushr, 1), (65, .sipush 255, 3), (68, .iand, 1), (69, .i2c, 1)]
theorem bd0_57_8 : own_dec code bl0_57_8 = true := by decide +kernel
def bl0_71_3 : List (Nat × Instr × Nat) := [(71, .iload_n 2, 1), (72, .iconst 1, 1), (73, .iand, 1)]
theorem bd0_71_3 : own_dec code bl0_71_3 = true := by decide +kernel
def bl0_81_2 : List (Nat × Instr × Nat) := [(81, .iconst 0, 1), (82, .istore 9, 2)]
theorem bd0_81_2 : own_dec code bl0_81_2 = true := by decide +kernel
def bl0_84_3 : List (Nat × Instr × Nat) := [(84, .aload 8, 2), (86, .iload 7, 2), (88, .iload 9, 2)]
theorem bd0_84_3 : own_dec code bl0_84_3 = true := by decide +kernel
def bl0_98_1 : List (Nat × Instr × Nat) := [(98, .bipush 10, 2)]
theorem bd0_98_1 : own_dec code bl0_98_1 = true := by decide +kernel
def bl0_101_4 : List (Nat × Instr × Nat) := [(101, .iload 7, 2), (103, .iconst 1, 1), (104, .iadd, 1), (105, .iconst 4, 1)]
theorem bd0_101_4 : own_dec code bl0_101_4 = true := by decide +kernel
def bl0_109_5 : List (Nat × Instr × Nat) := [(109, .aload 8, 2), (111, .iload 7, 2), (113, .iconst 1, 1), (114, .iadd, 1), (115, .iload_n 3, 1)]
theorem bd0_109_5 : own_dec code bl0_109_5 = true := by decide +kernel
def bl0_123_1 : List (Nat × Instr × Nat) := [(123, .dup, 1)]
theorem bd0_123_1 : own_dec code bl0_123_1 = true := by decide +kernel
def bl0_126_2 : List (Nat × Instr × Nat) := [(126, .aload 8, 2), (128, .iload 6, 2)]
theorem bd0_126_2 : own_dec code bl0_126_2 = true := by decide +kernel
def bl0_133_1 : List (Nat × Instr × Nat) := [(133, .astore 10, 2)]
theorem bd0_133_1 : own_dec code bl0_133_1 = true := by decide +kernel
def bl0_135_2 : List (Nat × Instr × Nat) := [(135, .aload 10, 2), (137, .iload 7, 2)]
theorem bd0_135_2 : own_dec code bl0_135_2 = true := by decide +kernel
def bl0_142_1 : List (Nat × Instr × Nat) := [(142, .aload 10, 2)]
theorem bd0_142_1 : own_dec code bl0_142_1 = true := by decide +kernel
def bl0_147_1 : List (Nat × Instr × Nat) := [(147, .iload 9, 2)]
theorem bd0_147_1 : own_dec code bl0_147_1 = true := by decide +kernel
def bl0_176_1 : List (Nat × Instr × Nat) := [(176, .iload 9, 2)]
theorem bd0_176_1 : own_dec code bl0_176_1 = true := by decide +kernel
def bl0_220_4 : List (Nat × Instr × Nat) := [(220, .iload 7, 2), (222, .iconst 1, 1), (223, .iadd, 1), (224, .istore 11, 2)]
theorem bd0_220_4 : own_dec code bl0_220_4 = true := by decide +kernel
def bl0_226_2 : List (Nat × Instr × Nat) := [(226, .iconst 2, 1), (227, .istore 12, 2)]
theorem bd0_226_2 : own_dec code bl0_226_2 = true := by decide +kernel
def bl0_229_4 : List (Nat × Instr × Nat) := [(229, .iload 7, 2), (231, .iconst 1, 1), (232, .iadd, 1), (233, .istore 13, 2)]
theorem bd0_229_4 : own_dec code bl0_229_4 = true := by decide +kernel
def bl0_235_1 : List (Nat × Instr × Nat) := [(235, .aload 10, 2)]
theorem bd0_235_1 : own_dec code bl0_235_1 = true := by decide +kernel
def bl0_240_1 : List (Nat × Instr × Nat) := [(240, .iload 11, 2)]
theorem bd0_240_1 : own_dec code bl0_240_1 = true := by decide +kernel
def bl0_245_1 : List (Nat × Instr × Nat) := [(245, .aload 10, 2)]
theorem bd0_245_1 : own_dec code bl0_245_1 = true := by decide +kernel
def bl0_250_1 : List (Nat × Instr × Nat) := [(250, .iload 12, 2)]
theorem bd0_250_1 : own_dec code bl0_250_1 = true := by decide +kernel
def bl0_255_1 : List (Nat × Instr × Nat) := [(255, .aload 10, 2)]
theorem bd0_255_1 : own_dec code bl0_255_1 = true := by decide +kernel
def bl0_260_1 : List (Nat × Instr × Nat) := [(260, .iload 13, 2)]
theorem bd0_260_1 : own_dec code bl0_260_1 = true := by decide +kernel
def bl0_265_2 : List (Nat × Instr × Nat) := [(265, .iconst 1, 1), (266, .goto 4, 3)]
theorem bd0_265_2 : own_dec code bl0_265_2 = true := by decide +kernel
def bl0_77_3 : List (Nat × Instr × Nat) := [(77, .iconst 1, 1), (78, .goto 4, 3), (82, .istore 9, 2)]
theorem bd0_77_3 : own_dec code bl0_77_3 = true := by decide +kernel
def bl0_93_2 : List (Nat × Instr × Nat) := [(93, .bipush 13, 2), (95, .goto 5, 3)]
theorem bd0_93_2 : own_dec code bl0_93_2 = true := by decide +kernel
def bl0_152_4 : List (Nat × Instr × Nat) := [(152, .iload 7, 2), (154, .iconst 1, 1), (155, .iadd, 1), (156, .iload 6, 2)]
theorem bd0_152_4 : own_dec code bl0_152_4 = true := by decide +kernel
def bl0_161_4 : List (Nat × Instr × Nat) := [(161, .iload 7, 2), (163, .iconst 1, 1), (164, .iadd, 1), (165, .istore 11, 2)]
theorem bd0_161_4 : own_dec code bl0_161_4 = true := by decide +kernel
def bl0_167_2 : List (Nat × Instr × Nat) := [(167, .iconst 1, 1), (168, .istore 12, 2)]
theorem bd0_167_2 : own_dec code bl0_167_2 = true := by decide +kernel
def bl0_170_2 : List (Nat × Instr × Nat) := [(170, .iconst 0, 1), (171, .istore 13, 2)]
theorem bd0_170_2 : own_dec code bl0_170_2 = true := by decide +kernel
def bl0_173_2 : List (Nat × Instr × Nat) := [(173, .goto 62, 3), (235, .aload 10, 2)]
theorem bd0_173_2 : own_dec code bl0_173_2 = true := by decide +kernel
def bl0_181_4 : List (Nat × Instr × Nat) := [(181, .iload 7, 2), (183, .iconst 1, 1), (184, .iadd, 1), (185, .iload 6, 2)]
theorem bd0_181_4 : own_dec code bl0_181_4 = true := by decide +kernel
def bl0_190_4 : List (Nat × Instr × Nat) := [(190, .aload 8, 2), (192, .iload 7, 2), (194, .iconst 1, 1), (195, .iadd, 1)]
theorem bd0_190_4 : own_dec code bl0_190_4 = true := by decide +kernel
def bl0_197_1 : List (Nat × Instr × Nat) := [(197, .bipush 10, 2)]
theorem bd0_197_1 : own_dec code bl0_197_1 = true := by decide +kernel
def bl0_202_4 : List (Nat × Instr × Nat) := [(202, .iload 7, 2), (204, .iconst 2, 1), (205, .iadd, 1), (206, .istore 11, 2)]
theorem bd0_202_4 : own_dec code bl0_202_4 = true := by decide +kernel
def bl0_208_2 : List (Nat × Instr × Nat) := [(208, .iconst 2, 1), (209, .istore 12, 2)]
theorem bd0_208_2 : own_dec code bl0_208_2 = true := by decide +kernel
def bl0_211_4 : List (Nat × Instr × Nat) := [(211, .iload 7, 2), (213, .iconst 2, 1), (214, .iadd, 1), (215, .istore 13, 2)]
theorem bd0_211_4 : own_dec code bl0_211_4 = true := by decide +kernel
def bl0_217_2 : List (Nat × Instr × Nat) := [(217, .goto 18, 3), (235, .aload 10, 2)]
theorem bd0_217_2 : own_dec code bl0_217_2 = true := by decide +kernel

def f0_0 (p1 : Int32) (p2 : Int32) (p3 : Int32) (p4 : Int32) (p5 : Int32) (p6 : Int32) : Int32 := (if (p3 &&& (1 : Int32)) = (0 : Int32) then (1 : Int32) else (if (1 : Int32) = ((1 : Int32) + (p1 &&& (3 : Int32))) then (1 : Int32) else (if (nar .char (f1 p4)) = (10 : Int32) then (1 : Int32) else (1 : Int32))))
def Q0_0 (Z : State) (p1 : Int32) (p2 : Int32) (p3 : Int32) (p4 : Int32) (p5 : Int32) (p6 : Int32) (h0 : Heap) (n0 : Nat) (v : Option Value) (h : Heap) (L : List Loc) : Prop := v = some (.int (f0_0 p1 p2 p3 p4 p5 p6)) ∧ Fr n0 L
set_option maxRecDepth 65536 in
set_option maxHeartbeats 40000000 in
theorem rm0_0 (l : Launch) (Z : State) (a0 : Array Value) (hw : ∀ d ∈ tables_1, d.before a0 Z = true) (ws : List Jvm.Cond) (p1 : Int32) (p2 : Int32) (p3 : Int32) (p4 : Int32) (p5 : Int32) (p6 : Int32) (h0 : Heap) (n0 : Nat) (Z0 : n0 ≤ h0.size) (hn : ((p2 &&& (2147483647 : Int32)) % ((1 : Int32) + (p1 &&& (3 : Int32)))) = (0 : Int32)) :
    MetFree l x (head1 (Jvm.Cond.code x code maxLocals ret :: ws) room_1) (fun a U => a = #[(.int p1), (.int p2), (.int p3), (.int p4), (.int p5), (.int p6)] ∧ Z.Warmed39 U.vm ∧ U.heap = h0) (fun _ _ _ _ _ => True) (fun _ U o U' => ∃ v L, o = .returned v ∧ Q0_0 Z p1 p2 p3 p4 p5 p6 h0 n0 v U'.heap L ∧ ReturnedEndW U o U' L room_1.cells room_1.slots) := by
  refine MetFree.of_bodySF (plainFor_of_name pn_0) hisR ?_
  intro p e s m args below meth c s₁ Bd hml0 hP hK
  obtain ⟨rfl, hZ, hh⟩ := hP
  have hx := Bd.exec
  have hby := Bd.bytes
  have hml : c.maxLocals = 14 := hml0
  have hown : s.vm.findClass "com/example/endcon/endcon/yaml/CursorNewLinePinLaw" = some m.cls := findClass_of_methodNamed Bd.named
  have hnm := (name_of_methodNamed Bd.named Bd.method).1
  have X0 : Stand p l e room_1 s m #[(.int p1), (.int p2), (.int p3), (.int p4), (.int p5), (.int p6)] below meth c s₁ [] 0 0 := Stand.of_body Bd
  have e0 : s₁.heap = h0 := by rw [← hh, Bd.state]; rfl
  have N0 := Fr.nil n0
  have pre0 : ∀ t, Steps p.tables e below (s₁.setTop (mkF m 0 #[.val (.int p1), .val (.int p2), .val (.int p3), .val (.int p4), .val (.int p5), .val (.int p6), .unset, .unset, .unset, .unset, .unset, .unset, .unset, .unset] [])) t → Steps p.tables e below (s₁.setTop (entryFrame m #[(.int p1), (.int p2), (.int p3), (.int p4), (.int p5), (.int p6)] maxLocals)) t := fun t k => castTop (ef_0 m p1 p2 p3 p4 p5 p6) k
  obtain ⟨T1, h1, k1, X1, e1, E1, A1, st1⟩ := newP X0 hx hZ (hw _ (List.mem_of_getElem? (i := 1) rfl)) e0 (g := (mkF m 17 #[.val (.int p1), .val (.int p2), .val (.int p3), .val (.int p4), .val (.int p5), .val (.int p6), .val (.int ((1 : Int32) + (p1 &&& (3 : Int32)))), .val (.int (0 : Int32)), .unset, .unset, .unset, .unset, .unset, .unset] [(.int (4 : Int32))])) rfl (hb hby at_17) rfl (by decide) (cap := 4) (by decide) (by decide) (by decide) (by decide)
  obtain ⟨b1, g1⟩ : ∃ z, z = h0.size := ⟨_, rfl⟩
  rw [← g1] at A1 st1
  have g_b1 : n0 ≤ b1 := Nat.le_trans Z0 (Nat.le_of_eq g1.symm)
  have zs2 : n0 ≤ h1.size := Nat.le_trans Z0 E1.1
  have V_b1 : Arv Z h1 b1 k1 .char (4 : Int32) [(.int (0 : Int32)), (.int (0 : Int32)), (.int (0 : Int32)), (.int (0 : Int32))] (.int (0 : Int32)) := (Arv.new A1 (by decide)).pad (pad_rep [] (.int (0 : Int32)) 4)
  obtain ⟨cx3, Ar3, qq3, S3, N3_, H3, G3⟩ := id V_b1
  have hin3 : ¬ ((0 : Int32) < 0 ∨ cx3.slots.size ≤ ((0 : Int32)).toNatClampNeg) := inb_of S3 ⟨by decide, by decide⟩
  obtain ⟨T3, h3, X3, e3, W3, st3⟩ := stC X1 hx hZ e1 Ar3 (j := (0 : Int32)) hin3 (g := (mkF m 31 #[.val (.int p1), .val (.int p2), .val (.int p3), .val (.int p4), .val (.int p5), .val (.int p6), .val (.int ((1 : Int32) + (p1 &&& (3 : Int32)))), .val (.int (0 : Int32)), .val (.ref b1), .unset, .unset, .unset, .unset, .unset] [(.int ((p5 &&& (255 : Int32)).toUInt32.toUInt16.toUInt32.toInt32)), (.int (0 : Int32)), (.ref b1)])) rfl rfl (hb hby at_31)
  have V3 : Arv Z h3 b1 k1 .char (4 : Int32) [(.int (nar .char ((p5 &&& (255 : Int32)).toUInt32.toUInt16.toUInt32.toInt32))), (.int (0 : Int32)), (.int (0 : Int32)), (.int (0 : Int32))] (.int (0 : Int32)) := Arv.set Ar3 qq3 S3 N3_ H3 G3 (fits_nar_char _) W3 0 rfl (Nat.le_of_ble_eq_true rfl)
  have zs4 : n0 ≤ h3.size := Nat.le_trans zs2 (Keep.of_wr W3).1
  have N3 := Fr.snoc X3 N0 g_b1
  obtain ⟨cx5, Ar5, qq5, S5, N5_, H5, G5⟩ := id V3
  have hin5 : ¬ ((1 : Int32) < 0 ∨ cx5.slots.size ≤ ((1 : Int32)).toNatClampNeg) := inb_of S5 ⟨by decide, by decide⟩
  obtain ⟨T5, h5, X5, e5, W5, st5⟩ := stC X3 hx hZ e3 Ar5 (j := (1 : Int32)) hin5 (g := (mkF m 45 #[.val (.int p1), .val (.int p2), .val (.int p3), .val (.int p4), .val (.int p5), .val (.int p6), .val (.int ((1 : Int32) + (p1 &&& (3 : Int32)))), .val (.int (0 : Int32)), .val (.ref b1), .unset, .unset, .unset, .unset, .unset] [(.int ((((p5.toUInt32 >>> ((8 : Int32) &&& 31).toUInt32).toInt32) &&& (255 : Int32)).toUInt32.toUInt16.toUInt32.toInt32)), (.int (1 : Int32)), (.ref b1)])) rfl rfl (hb hby at_45)
  have V5 : Arv Z h5 b1 k1 .char (4 : Int32) [(.int (nar .char ((p5 &&& (255 : Int32)).toUInt32.toUInt16.toUInt32.toInt32))), (.int (nar .char ((((p5.toUInt32 >>> ((8 : Int32) &&& 31).toUInt32).toInt32) &&& (255 : Int32)).toUInt32.toUInt16.toUInt32.toInt32))), (.int (0 : Int32)), (.int (0 : Int32))] (.int (0 : Int32)) := Arv.set Ar5 qq5 S5 N5_ H5 G5 (fits_nar_char _) W5 1 rfl (Nat.le_of_ble_eq_true rfl)
  have zs6 : n0 ≤ h5.size := Nat.le_trans zs4 (Keep.of_wr W5).1
  have N5 := Fr.snoc X5 N3 g_b1
  obtain ⟨cx7, Ar7, qq7, S7, N7_, H7, G7⟩ := id V5
  have hin7 : ¬ ((2 : Int32) < 0 ∨ cx7.slots.size ≤ ((2 : Int32)).toNatClampNeg) := inb_of S7 ⟨by decide, by decide⟩
  obtain ⟨T7, h7, X7, e7, W7, st7⟩ := stC X5 hx hZ e5 Ar7 (j := (2 : Int32)) hin7 (g := (mkF m 56 #[.val (.int p1), .val (.int p2), .val (.int p3), .val (.int p4), .val (.int p5), .val (.int p6), .val (.int ((1 : Int32) + (p1 &&& (3 : Int32)))), .val (.int (0 : Int32)), .val (.ref b1), .unset, .unset, .unset, .unset, .unset] [(.int ((p6 &&& (255 : Int32)).toUInt32.toUInt16.toUInt32.toInt32)), (.int (2 : Int32)), (.ref b1)])) rfl rfl (hb hby at_56)
  have V7 : Arv Z h7 b1 k1 .char (4 : Int32) [(.int (nar .char ((p5 &&& (255 : Int32)).toUInt32.toUInt16.toUInt32.toInt32))), (.int (nar .char ((((p5.toUInt32 >>> ((8 : Int32) &&& 31).toUInt32).toInt32) &&& (255 : Int32)).toUInt32.toUInt16.toUInt32.toInt32))), (.int (nar .char ((p6 &&& (255 : Int32)).toUInt32.toUInt16.toUInt32.toInt32))), (.int (0 : Int32))] (.int (0 : Int32)) := Arv.set Ar7 qq7 S7 N7_ H7 G7 (fits_nar_char _) W7 2 rfl (Nat.le_of_ble_eq_true rfl)
  have zs8 : n0 ≤ h7.size := Nat.le_trans zs6 (Keep.of_wr W7).1
  have N7 := Fr.snoc X7 N5 g_b1
  obtain ⟨cx9, Ar9, qq9, S9, N9_, H9, G9⟩ := id V7
  have hin9 : ¬ ((3 : Int32) < 0 ∨ cx9.slots.size ≤ ((3 : Int32)).toNatClampNeg) := inb_of S9 ⟨by decide, by decide⟩
  obtain ⟨T9, h9, X9, e9, W9, st9⟩ := stC X7 hx hZ e7 Ar9 (j := (3 : Int32)) hin9 (g := (mkF m 70 #[.val (.int p1), .val (.int p2), .val (.int p3), .val (.int p4), .val (.int p5), .val (.int p6), .val (.int ((1 : Int32) + (p1 &&& (3 : Int32)))), .val (.int (0 : Int32)), .val (.ref b1), .unset, .unset, .unset, .unset, .unset] [(.int ((((p6.toUInt32 >>> ((8 : Int32) &&& 31).toUInt32).toInt32) &&& (255 : Int32)).toUInt32.toUInt16.toUInt32.toInt32)), (.int (3 : Int32)), (.ref b1)])) rfl rfl (hb hby at_70)
  have V9 : Arv Z h9 b1 k1 .char (4 : Int32) [(.int (nar .char ((p5 &&& (255 : Int32)).toUInt32.toUInt16.toUInt32.toInt32))), (.int (nar .char ((((p5.toUInt32 >>> ((8 : Int32) &&& 31).toUInt32).toInt32) &&& (255 : Int32)).toUInt32.toUInt16.toUInt32.toInt32))), (.int (nar .char ((p6 &&& (255 : Int32)).toUInt32.toUInt16.toUInt32.toInt32))), (.int (nar .char ((((p6.toUInt32 >>> ((8 : Int32) &&& 31).toUInt32).toInt32) &&& (255 : Int32)).toUInt32.toUInt16.toUInt32.toInt32)))] (.int (0 : Int32)) := Arv.set Ar9 qq9 S9 N9_ H9 G9 (fits_nar_char _) W9 3 rfl (Nat.le_of_ble_eq_true rfl)
  have zs10 : n0 ≤ h9.size := Nat.le_trans zs8 (Keep.of_wr W9).1
  have N9 := Fr.snoc X9 N7 g_b1
  have pre11 : ∀ t, Steps p.tables e below (T9.setTop (mkF m 74 #[.val (.int p1), .val (.int p2), .val (.int p3), .val (.int p4), .val (.int p5), .val (.int p6), .val (.int ((1 : Int32) + (p1 &&& (3 : Int32)))), .val (.int (0 : Int32)), .val (.ref b1), .unset, .unset, .unset, .unset, .unset] [(.int (p3 &&& (1 : Int32)))])) t → Steps p.tables e below (s₁.setTop (entryFrame m #[(.int p1), (.int p2), (.int p3), (.int p4), (.int p5), (.int p6)] maxLocals)) t := fun t kt => by
    refine pre0 _ ?_
    show Steps p.tables e below (s₁.setTop (mkF m 0 #[.val (.int p1), .val (.int p2), .val (.int p3), .val (.int p4), .val (.int p5), .val (.int p6), .unset, .unset, .unset, .unset, .unset, .unset, .unset, .unset] [])) _
    refine own_blk X0 hx bl0_0_6 (own_hb hby bd0_0_6) (pc' := 7) (Ls' := #[.val (.int p1), .val (.int p2), .val (.int p3), .val (.int p4), .val (.int p5), .val (.int p6), .val (.int ((1 : Int32) + (p1 &&& (3 : Int32)))), .unset, .unset, .unset, .unset, .unset, .unset, .unset]) (st' := []) rfl ?_
    refine own_blk X0 hx bl0_7_1 (own_hb hby bd0_7_1) (pc' := 8) (Ls' := #[.val (.int p1), .val (.int p2), .val (.int p3), .val (.int p4), .val (.int p5), .val (.int p6), .val (.int ((1 : Int32) + (p1 &&& (3 : Int32)))), .unset, .unset, .unset, .unset, .unset, .unset, .unset]) (st' := [(.int p2)]) rfl ?_
    refine X0.ldcInt hx hown (mvT hZ (hw _ (List.mem_of_getElem? (i := 0) rfl))) (g := (mkF m 8 #[.val (.int p1), .val (.int p2), .val (.int p3), .val (.int p4), .val (.int p5), .val (.int p6), .val (.int ((1 : Int32) + (p1 &&& (3 : Int32)))), .unset, .unset, .unset, .unset, .unset, .unset, .unset] [(.int p2)])) rfl (hb hby at_8) _ ?_
    show Steps p.tables e below (s₁.setTop (mkF m 10 #[.val (.int p1), .val (.int p2), .val (.int p3), .val (.int p4), .val (.int p5), .val (.int p6), .val (.int ((1 : Int32) + (p1 &&& (3 : Int32)))), .unset, .unset, .unset, .unset, .unset, .unset, .unset] [(.int (2147483647 : Int32)), (.int p2)])) _
    refine own_blk X0 hx bl0_10_2 (own_hb hby bd0_10_2) (pc' := 13) (Ls' := #[.val (.int p1), .val (.int p2), .val (.int p3), .val (.int p4), .val (.int p5), .val (.int p6), .val (.int ((1 : Int32) + (p1 &&& (3 : Int32)))), .unset, .unset, .unset, .unset, .unset, .unset, .unset]) (st' := [(.int ((1 : Int32) + (p1 &&& (3 : Int32)))), (.int (p2 &&& (2147483647 : Int32)))]) rfl ?_
    refine iremM X0 hx rfl (hb hby at_13) rfl (own_n0 p1) ?_
    show Steps p.tables e below (s₁.setTop (mkF m 14 #[.val (.int p1), .val (.int p2), .val (.int p3), .val (.int p4), .val (.int p5), .val (.int p6), .val (.int ((1 : Int32) + (p1 &&& (3 : Int32)))), .unset, .unset, .unset, .unset, .unset, .unset, .unset] [(.int ((p2 &&& (2147483647 : Int32)) % ((1 : Int32) + (p1 &&& (3 : Int32)))))])) _
    rw [hn]
    show Steps p.tables e below (s₁.setTop (mkF m 14 #[.val (.int p1), .val (.int p2), .val (.int p3), .val (.int p4), .val (.int p5), .val (.int p6), .val (.int ((1 : Int32) + (p1 &&& (3 : Int32)))), .unset, .unset, .unset, .unset, .unset, .unset, .unset] [(.int (0 : Int32))])) _
    refine own_blk X0 hx bl0_14_1 (own_hb hby bd0_14_1) (pc' := 16) (Ls' := #[.val (.int p1), .val (.int p2), .val (.int p3), .val (.int p4), .val (.int p5), .val (.int p6), .val (.int ((1 : Int32) + (p1 &&& (3 : Int32)))), .val (.int (0 : Int32)), .unset, .unset, .unset, .unset, .unset, .unset]) (st' := []) rfl ?_
    refine own_blk X0 hx bl0_16_1 (own_hb hby bd0_16_1) (pc' := 17) (Ls' := #[.val (.int p1), .val (.int p2), .val (.int p3), .val (.int p4), .val (.int p5), .val (.int p6), .val (.int ((1 : Int32) + (p1 &&& (3 : Int32)))), .val (.int (0 : Int32)), .unset, .unset, .unset, .unset, .unset, .unset]) (st' := [(.int (4 : Int32))]) rfl ?_
    refine st1 _ ?_
    show Steps p.tables e below (T1.setTop (mkF m 19 #[.val (.int p1), .val (.int p2), .val (.int p3), .val (.int p4), .val (.int p5), .val (.int p6), .val (.int ((1 : Int32) + (p1 &&& (3 : Int32)))), .val (.int (0 : Int32)), .unset, .unset, .unset, .unset, .unset, .unset] [(.ref b1)])) _
    refine own_blk X1 hx bl0_19_1 (own_hb hby bd0_19_1) (pc' := 21) (Ls' := #[.val (.int p1), .val (.int p2), .val (.int p3), .val (.int p4), .val (.int p5), .val (.int p6), .val (.int ((1 : Int32) + (p1 &&& (3 : Int32)))), .val (.int (0 : Int32)), .val (.ref b1), .unset, .unset, .unset, .unset, .unset]) (st' := []) rfl ?_
    refine own_blk X1 hx bl0_21_6 (own_hb hby bd0_21_6) (pc' := 31) (Ls' := #[.val (.int p1), .val (.int p2), .val (.int p3), .val (.int p4), .val (.int p5), .val (.int p6), .val (.int ((1 : Int32) + (p1 &&& (3 : Int32)))), .val (.int (0 : Int32)), .val (.ref b1), .unset, .unset, .unset, .unset, .unset]) (st' := [(.int ((p5 &&& (255 : Int32)).toUInt32.toUInt16.toUInt32.toInt32)), (.int (0 : Int32)), (.ref b1)]) rfl ?_
    refine st3 _ ?_
    show Steps p.tables e below (T3.setTop (mkF m 32 #[.val (.int p1), .val (.int p2), .val (.int p3), .val (.int p4), .val (.int p5), .val (.int p6), .val (.int ((1 : Int32) + (p1 &&& (3 : Int32)))), .val (.int (0 : Int32)), .val (.ref b1), .unset, .unset, .unset, .unset, .unset] [])) _
    refine own_blk X3 hx bl0_32_8 (own_hb hby bd0_32_8) (pc' := 45) (Ls' := #[.val (.int p1), .val (.int p2), .val (.int p3), .val (.int p4), .val (.int p5), .val (.int p6), .val (.int ((1 : Int32) + (p1 &&& (3 : Int32)))), .val (.int (0 : Int32)), .val (.ref b1), .unset, .unset, .unset, .unset, .unset]) (st' := [(.int ((((p5.toUInt32 >>> ((8 : Int32) &&& 31).toUInt32).toInt32) &&& (255 : Int32)).toUInt32.toUInt16.toUInt32.toInt32)), (.int (1 : Int32)), (.ref b1)]) rfl ?_
    refine st5 _ ?_
    show Steps p.tables e below (T5.setTop (mkF m 46 #[.val (.int p1), .val (.int p2), .val (.int p3), .val (.int p4), .val (.int p5), .val (.int p6), .val (.int ((1 : Int32) + (p1 &&& (3 : Int32)))), .val (.int (0 : Int32)), .val (.ref b1), .unset, .unset, .unset, .unset, .unset] [])) _
    refine own_blk X5 hx bl0_46_6 (own_hb hby bd0_46_6) (pc' := 56) (Ls' := #[.val (.int p1), .val (.int p2), .val (.int p3), .val (.int p4), .val (.int p5), .val (.int p6), .val (.int ((1 : Int32) + (p1 &&& (3 : Int32)))), .val (.int (0 : Int32)), .val (.ref b1), .unset, .unset, .unset, .unset, .unset]) (st' := [(.int ((p6 &&& (255 : Int32)).toUInt32.toUInt16.toUInt32.toInt32)), (.int (2 : Int32)), (.ref b1)]) rfl ?_
    refine st7 _ ?_
    show Steps p.tables e below (T7.setTop (mkF m 57 #[.val (.int p1), .val (.int p2), .val (.int p3), .val (.int p4), .val (.int p5), .val (.int p6), .val (.int ((1 : Int32) + (p1 &&& (3 : Int32)))), .val (.int (0 : Int32)), .val (.ref b1), .unset, .unset, .unset, .unset, .unset] [])) _
    refine own_blk X7 hx bl0_57_8 (own_hb hby bd0_57_8) (pc' := 70) (Ls' := #[.val (.int p1), .val (.int p2), .val (.int p3), .val (.int p4), .val (.int p5), .val (.int p6), .val (.int ((1 : Int32) + (p1 &&& (3 : Int32)))), .val (.int (0 : Int32)), .val (.ref b1), .unset, .unset, .unset, .unset, .unset]) (st' := [(.int ((((p6.toUInt32 >>> ((8 : Int32) &&& 31).toUInt32).toInt32) &&& (255 : Int32)).toUInt32.toUInt16.toUInt32.toInt32)), (.int (3 : Int32)), (.ref b1)]) rfl ?_
    refine st9 _ ?_
    show Steps p.tables e below (T9.setTop (mkF m 71 #[.val (.int p1), .val (.int p2), .val (.int p3), .val (.int p4), .val (.int p5), .val (.int p6), .val (.int ((1 : Int32) + (p1 &&& (3 : Int32)))), .val (.int (0 : Int32)), .val (.ref b1), .unset, .unset, .unset, .unset, .unset] [])) _
    refine own_blk X9 hx bl0_71_3 (own_hb hby bd0_71_3) (pc' := 74) (Ls' := #[.val (.int p1), .val (.int p2), .val (.int p3), .val (.int p4), .val (.int p5), .val (.int p6), .val (.int ((1 : Int32) + (p1 &&& (3 : Int32)))), .val (.int (0 : Int32)), .val (.ref b1), .unset, .unset, .unset, .unset, .unset]) (st' := [(.int (p3 &&& (1 : Int32)))]) rfl ?_
    exact kt
  by_cases hc12 : (p3 &&& (1 : Int32)) = (0 : Int32)
  · obtain ⟨cx13, Ar13, qq13, S13, N13_, H13, G13⟩ := id V9
    have hin13 : ¬ ((0 : Int32) < 0 ∨ cx13.slots.size ≤ ((0 : Int32)).toNatClampNeg) := inb_of S13 ⟨by decide, by decide⟩
    obtain ⟨T13, h13, X13, e13, W13, st13⟩ := stC X9 hx hZ e9 Ar13 (j := (0 : Int32)) hin13 (g := (mkF m 100 #[.val (.int p1), .val (.int p2), .val (.int p3), .val (.int p4), .val (.int p5), .val (.int p6), .val (.int ((1 : Int32) + (p1 &&& (3 : Int32)))), .val (.int (0 : Int32)), .val (.ref b1), .val (.int (0 : Int32)), .unset, .unset, .unset, .unset] [(.int (10 : Int32)), (.int (0 : Int32)), (.ref b1)])) rfl rfl (hb hby at_100)
    have V13 : Arv Z h13 b1 k1 .char (4 : Int32) [(.int (nar .char (10 : Int32))), (.int (nar .char ((((p5.toUInt32 >>> ((8 : Int32) &&& 31).toUInt32).toInt32) &&& (255 : Int32)).toUInt32.toUInt16.toUInt32.toInt32))), (.int (nar .char ((p6 &&& (255 : Int32)).toUInt32.toUInt16.toUInt32.toInt32))), (.int (nar .char ((((p6.toUInt32 >>> ((8 : Int32) &&& 31).toUInt32).toInt32) &&& (255 : Int32)).toUInt32.toUInt16.toUInt32.toInt32)))] (.int (0 : Int32)) := Arv.set Ar13 qq13 S13 N13_ H13 G13 (fits_nar_char _) W13 0 rfl (Nat.le_of_ble_eq_true rfl)
    have zs14 : n0 ≤ h13.size := Nat.le_trans zs10 (Keep.of_wr W13).1
    have N13 := Fr.snoc X13 N9 g_b1
    obtain ⟨_, T15, Lc15, X15, hQ15, st15⟩ := own_callS X13 hx hZ (y := (⟨"com/example/endcon/endcon/yaml/CursorNewLinePinLaw", "pick", "(I)C"⟩ : MethodName)) hown (hw _ (List.mem_of_getElem? (i := 2) rfl)) (hw _ (List.mem_of_getElem? (i := 3) rfl)) (hw _ (List.mem_of_getElem? (i := 4) rfl)) (hw _ (List.mem_of_getElem? (i := 5) rfl)) (by decide) (W := 2) (argsL := [(.int p4)]) (rest := [(.int (1 : Int32)), (.ref b1)]) (rm1 l Z a0 hw [] p4 h13 n0 zs14 ) (by decide) (by decide) (c' := 1) (s' := 4) rfl rfl (by decide) (by decide) e13 (g := (mkF m 116 #[.val (.int p1), .val (.int p2), .val (.int p3), .val (.int p4), .val (.int p5), .val (.int p6), .val (.int ((1 : Int32) + (p1 &&& (3 : Int32)))), .val (.int (0 : Int32)), .val (.ref b1), .val (.int (0 : Int32)), .unset, .unset, .unset, .unset] [(.int p4), (.int (1 : Int32)), (.ref b1)])) rfl (by rw [hml]; rfl) (lenOf pd_0_0 rfl) rfl (by show 2 * 0 + _ ≤ _; exact Nat.le_of_eq rfl) (hb hby at_116)
    obtain ⟨rfl, N15q, e15⟩ := hQ15
    have N15 := Fr.app N13 N15q
    obtain ⟨cx16, Ar16, qq16, S16, N16_, H16, G16⟩ := id V13
    have hin16 : ¬ ((1 : Int32) < 0 ∨ cx16.slots.size ≤ ((1 : Int32)).toNatClampNeg) := inb_of S16 ⟨by decide, by decide⟩
    obtain ⟨T16, h16, X16, e16, W16, st16⟩ := stC X15 hx hZ e15 Ar16 (j := (1 : Int32)) hin16 (g := (mkF m 119 #[.val (.int p1), .val (.int p2), .val (.int p3), .val (.int p4), .val (.int p5), .val (.int p6), .val (.int ((1 : Int32) + (p1 &&& (3 : Int32)))), .val (.int (0 : Int32)), .val (.ref b1), .val (.int (0 : Int32)), .unset, .unset, .unset, .unset] [(.int (f1 p4)), (.int (1 : Int32)), (.ref b1)])) rfl rfl (hb hby at_119)
    have V16 : Arv Z h16 b1 k1 .char (4 : Int32) [(.int (nar .char (10 : Int32))), (.int (nar .char (f1 p4))), (.int (nar .char ((p6 &&& (255 : Int32)).toUInt32.toUInt16.toUInt32.toInt32))), (.int (nar .char ((((p6.toUInt32 >>> ((8 : Int32) &&& 31).toUInt32).toInt32) &&& (255 : Int32)).toUInt32.toUInt16.toUInt32.toInt32)))] (.int (0 : Int32)) := Arv.set Ar16 qq16 S16 N16_ H16 G16 (fits_nar_char _) W16 1 rfl (Nat.le_of_ble_eq_true rfl)
    have zs17 : n0 ≤ h16.size := Nat.le_trans zs14 (Keep.of_wr W16).1
    have N16 := Fr.snoc X16 N15 g_b1
    obtain ⟨T18, h18, X18, e18, E18, A18, D18, -, st18⟩ := newO X16 hx hZ hown (hw _ (List.mem_of_getElem? (i := 6) rfl)) (hw _ (List.mem_of_getElem? (i := 7) rfl)) (hw _ (List.mem_of_getElem? (i := 8) rfl)) e16 (g := (mkF m 120 #[.val (.int p1), .val (.int p2), .val (.int p3), .val (.int p4), .val (.int p5), .val (.int p6), .val (.int ((1 : Int32) + (p1 &&& (3 : Int32)))), .val (.int (0 : Int32)), .val (.ref b1), .val (.int (0 : Int32)), .unset, .unset, .unset, .unset] [])) rfl (hb hby at_120) (by decide) (by decide)
    obtain ⟨b18, g18⟩ : ∃ z, z = h16.size := ⟨_, rfl⟩
    rw [← g18] at A18 D18 st18
    have ne_b1_b18 : b1 ≠ b18 := Nat.ne_of_lt (Nat.lt_of_lt_of_le V16.lt (Nat.le_of_eq g18.symm))
    have g_b18 : n0 ≤ b18 := Nat.le_trans zs17 (Nat.le_of_eq g18.symm)
    have zs19 : n0 ≤ h18.size := Nat.le_trans zs17 E18.1
    have F_line_b18 : Fld Z h18 b18 "com/example/endcon/endcon/yaml/Cursor" "line" "I" (.int (0 : Int32)) := D18 (Or.inl (hw _ (List.mem_of_getElem? (i := 24) rfl))) (ty := .int) (by decide)
    have F_blankLinesFrom_b18 : Fld Z h18 b18 "com/example/endcon/endcon/yaml/Cursor" "blankLinesFrom" "I" (.int (0 : Int32)) := D18 (Or.inl (hw _ (List.mem_of_getElem? (i := 26) rfl))) (ty := .int) (by decide)
    have F_countedIndex_b18 : Fld Z h18 b18 "com/example/endcon/endcon/yaml/Cursor" "countedIndex" "I" (.int (0 : Int32)) := D18 (Or.inl (hw _ (List.mem_of_getElem? (i := 28) rfl))) (ty := .int) (by decide)
    have F_file_b18 : Fld Z h18 b18 "com/example/endcon/endcon/yaml/Cursor" "file" "Ljava/lang/String;" .null := D18 (Or.inr (hw _ (List.mem_of_getElem? (i := 30) rfl))) (ty := (.object "java/lang/String")) (by decide)
    have F_text_b18 : Fld Z h18 b18 "com/example/endcon/endcon/yaml/Cursor" "text" "[C" .null := D18 (Or.inl (hw _ (List.mem_of_getElem? (i := 32) rfl))) (ty := (.array .char)) (by decide)
    have F_end_b18 : Fld Z h18 b18 "com/example/endcon/endcon/yaml/Cursor" "end" "I" (.int (0 : Int32)) := D18 (Or.inr (hw _ (List.mem_of_getElem? (i := 34) rfl))) (ty := .int) (by decide)
    have F_hasSurrogates_b18 : Fld Z h18 b18 "com/example/endcon/endcon/yaml/Cursor" "hasSurrogates" "Z" (.int (0 : Int32)) := D18 (Or.inr (hw _ (List.mem_of_getElem? (i := 41) rfl))) (ty := .boolean) (by decide)
    have F_pos_b18 : Fld Z h18 b18 "com/example/endcon/endcon/yaml/Cursor" "pos" "I" (.int (0 : Int32)) := D18 (Or.inl (hw _ (List.mem_of_getElem? (i := 49) rfl))) (ty := .int) (by decide)
    have F_lineStart_b18 : Fld Z h18 b18 "com/example/endcon/endcon/yaml/Cursor" "lineStart" "I" (.int (0 : Int32)) := D18 (Or.inl (hw _ (List.mem_of_getElem? (i := 56) rfl))) (ty := .int) (by decide)
    have pre20 : ∀ t, Steps p.tables e below (T18.setTop (mkF m 124 #[.val (.int p1), .val (.int p2), .val (.int p3), .val (.int p4), .val (.int p5), .val (.int p6), .val (.int ((1 : Int32) + (p1 &&& (3 : Int32)))), .val (.int (0 : Int32)), .val (.ref b1), .val (.int (0 : Int32)), .unset, .unset, .unset, .unset] [(.ref b18), (.ref b18)])) t → Steps p.tables e below (s₁.setTop (entryFrame m #[(.int p1), (.int p2), (.int p3), (.int p4), (.int p5), (.int p6)] maxLocals)) t := fun t kt => by
      refine pre11 _ ?_
      show Steps p.tables e below (T9.setTop (mkF m 74 #[.val (.int p1), .val (.int p2), .val (.int p3), .val (.int p4), .val (.int p5), .val (.int p6), .val (.int ((1 : Int32) + (p1 &&& (3 : Int32)))), .val (.int (0 : Int32)), .val (.ref b1), .unset, .unset, .unset, .unset, .unset] [(.int (p3 &&& (1 : Int32)))])) _
      refine XS.ifYes X9.here hx rfl (pc0 := 74) (pc' := 81) rfl (hb hby at_74) rfl ((if0 _ _).trans (teq hc12).1) (by decide) (by decide) ?_
      show Steps p.tables e below (T9.setTop (mkF m 81 #[.val (.int p1), .val (.int p2), .val (.int p3), .val (.int p4), .val (.int p5), .val (.int p6), .val (.int ((1 : Int32) + (p1 &&& (3 : Int32)))), .val (.int (0 : Int32)), .val (.ref b1), .unset, .unset, .unset, .unset, .unset] [])) _
      refine own_blk X9 hx bl0_81_2 (own_hb hby bd0_81_2) (pc' := 84) (Ls' := #[.val (.int p1), .val (.int p2), .val (.int p3), .val (.int p4), .val (.int p5), .val (.int p6), .val (.int ((1 : Int32) + (p1 &&& (3 : Int32)))), .val (.int (0 : Int32)), .val (.ref b1), .val (.int (0 : Int32)), .unset, .unset, .unset, .unset]) (st' := []) rfl ?_
      refine own_blk X9 hx bl0_84_3 (own_hb hby bd0_84_3) (pc' := 90) (Ls' := #[.val (.int p1), .val (.int p2), .val (.int p3), .val (.int p4), .val (.int p5), .val (.int p6), .val (.int ((1 : Int32) + (p1 &&& (3 : Int32)))), .val (.int (0 : Int32)), .val (.ref b1), .val (.int (0 : Int32)), .unset, .unset, .unset, .unset]) (st' := [(.int (0 : Int32)), (.int (0 : Int32)), (.ref b1)]) rfl ?_
      refine XS.ifYes X9.here hx rfl (pc0 := 90) (pc' := 98) rfl (hb hby at_90) rfl ((if0 _ _).trans (teq (by decide : (0 : Int32) = (0 : Int32))).1) (by decide) (by decide) ?_
      show Steps p.tables e below (T9.setTop (mkF m 98 #[.val (.int p1), .val (.int p2), .val (.int p3), .val (.int p4), .val (.int p5), .val (.int p6), .val (.int ((1 : Int32) + (p1 &&& (3 : Int32)))), .val (.int (0 : Int32)), .val (.ref b1), .val (.int (0 : Int32)), .unset, .unset, .unset, .unset] [(.int (0 : Int32)), (.ref b1)])) _
      refine own_blk X9 hx bl0_98_1 (own_hb hby bd0_98_1) (pc' := 100) (Ls' := #[.val (.int p1), .val (.int p2), .val (.int p3), .val (.int p4), .val (.int p5), .val (.int p6), .val (.int ((1 : Int32) + (p1 &&& (3 : Int32)))), .val (.int (0 : Int32)), .val (.ref b1), .val (.int (0 : Int32)), .unset, .unset, .unset, .unset]) (st' := [(.int (10 : Int32)), (.int (0 : Int32)), (.ref b1)]) rfl ?_
      refine st13 _ ?_
      show Steps p.tables e below (T13.setTop (mkF m 101 #[.val (.int p1), .val (.int p2), .val (.int p3), .val (.int p4), .val (.int p5), .val (.int p6), .val (.int ((1 : Int32) + (p1 &&& (3 : Int32)))), .val (.int (0 : Int32)), .val (.ref b1), .val (.int (0 : Int32)), .unset, .unset, .unset, .unset] [])) _
      refine own_blk X13 hx bl0_101_4 (own_hb hby bd0_101_4) (pc' := 106) (Ls' := #[.val (.int p1), .val (.int p2), .val (.int p3), .val (.int p4), .val (.int p5), .val (.int p6), .val (.int ((1 : Int32) + (p1 &&& (3 : Int32)))), .val (.int (0 : Int32)), .val (.ref b1), .val (.int (0 : Int32)), .unset, .unset, .unset, .unset]) (st' := [(.int (4 : Int32)), (.int (1 : Int32))]) rfl ?_
      refine XS.icmpNo X13.here hx rfl (hb hby at_106) rfl (tlt (by decide : (1 : Int32) < (4 : Int32))).2.1 ?_
      show Steps p.tables e below (T13.setTop (mkF m 109 #[.val (.int p1), .val (.int p2), .val (.int p3), .val (.int p4), .val (.int p5), .val (.int p6), .val (.int ((1 : Int32) + (p1 &&& (3 : Int32)))), .val (.int (0 : Int32)), .val (.ref b1), .val (.int (0 : Int32)), .unset, .unset, .unset, .unset] [])) _
      refine own_blk X13 hx bl0_109_5 (own_hb hby bd0_109_5) (pc' := 116) (Ls' := #[.val (.int p1), .val (.int p2), .val (.int p3), .val (.int p4), .val (.int p5), .val (.int p6), .val (.int ((1 : Int32) + (p1 &&& (3 : Int32)))), .val (.int (0 : Int32)), .val (.ref b1), .val (.int (0 : Int32)), .unset, .unset, .unset, .unset]) (st' := [(.int p4), (.int (1 : Int32)), (.ref b1)]) rfl ?_
      refine st15 _ ?_
      show Steps p.tables e below (T15.setTop (mkF m 119 #[.val (.int p1), .val (.int p2), .val (.int p3), .val (.int p4), .val (.int p5), .val (.int p6), .val (.int ((1 : Int32) + (p1 &&& (3 : Int32)))), .val (.int (0 : Int32)), .val (.ref b1), .val (.int (0 : Int32)), .unset, .unset, .unset, .unset] [(.int (f1 p4)), (.int (1 : Int32)), (.ref b1)])) _
      refine st16 _ ?_
      show Steps p.tables e below (T16.setTop (mkF m 120 #[.val (.int p1), .val (.int p2), .val (.int p3), .val (.int p4), .val (.int p5), .val (.int p6), .val (.int ((1 : Int32) + (p1 &&& (3 : Int32)))), .val (.int (0 : Int32)), .val (.ref b1), .val (.int (0 : Int32)), .unset, .unset, .unset, .unset] [])) _
      refine st18 _ ?_
      show Steps p.tables e below (T18.setTop (mkF m 123 #[.val (.int p1), .val (.int p2), .val (.int p3), .val (.int p4), .val (.int p5), .val (.int p6), .val (.int ((1 : Int32) + (p1 &&& (3 : Int32)))), .val (.int (0 : Int32)), .val (.ref b1), .val (.int (0 : Int32)), .unset, .unset, .unset, .unset] [(.ref b18)])) _
      refine own_blk X18 hx bl0_123_1 (own_hb hby bd0_123_1) (pc' := 124) (Ls' := #[.val (.int p1), .val (.int p2), .val (.int p3), .val (.int p4), .val (.int p5), .val (.int p6), .val (.int ((1 : Int32) + (p1 &&& (3 : Int32)))), .val (.int (0 : Int32)), .val (.ref b1), .val (.int (0 : Int32)), .unset, .unset, .unset, .unset]) (st' := [(.ref b18), (.ref b18)]) rfl ?_
      exact kt
    have hS21a : s.Since s.vm h18.size := (State.WarmedH.refl s).since _
    obtain ⟨sa21, T21, h21, kk21, X21, e21, E21, hS21, hkk21, hZ, hown, st21⟩ := ldcS (s := s) (vm0 := s.vm) X18 hx hZ hown (hw _ (List.mem_of_getElem? (i := 9) rfl)) (own_ws hw) e18 hS21a (Nat.le_refl _) (g := (mkF m 124 #[.val (.int p1), .val (.int p2), .val (.int p3), .val (.int p4), .val (.int p5), .val (.int p6), .val (.int ((1 : Int32) + (p1 &&& (3 : Int32)))), .val (.int (0 : Int32)), .val (.ref b1), .val (.int (0 : Int32)), .unset, .unset, .unset, .unset] [(.ref b18), (.ref b18)])) rfl (hb hby at_124) (n := 4) (by decide) (by decide) (by decide) (by decide)
    have zs22 : n0 ≤ h21.size := Nat.le_trans zs19 E21.1
    have fa24 : Exa Z h21 b18 "com/example/endcon/endcon/yaml/Cursor" := (A18.ext E21)
    have fa25 : Fld Z h21 b18 "com/example/endcon/endcon/yaml/Cursor" "line" "I" (.int (0 : Int32)) := (F_line_b18.ext E21)
    have fa26 : Fld Z h21 b18 "com/example/endcon/endcon/yaml/Cursor" "blankLinesFrom" "I" (.int (0 : Int32)) := (F_blankLinesFrom_b18.ext E21)
    have fa27 : Fld Z h21 b18 "com/example/endcon/endcon/yaml/Cursor" "countedIndex" "I" (.int (0 : Int32)) := (F_countedIndex_b18.ext E21)
    have fa28 : Fld Z h21 b18 "com/example/endcon/endcon/yaml/Cursor" "file" "Ljava/lang/String;" .null := (F_file_b18.ext E21)
    have fa29 : Fld Z h21 b18 "com/example/endcon/endcon/yaml/Cursor" "text" "[C" .null := (F_text_b18.ext E21)
    have fa30 : Fld Z h21 b18 "com/example/endcon/endcon/yaml/Cursor" "end" "I" (.int (0 : Int32)) := (F_end_b18.ext E21)
    have fa31 : Fld Z h21 b18 "com/example/endcon/endcon/yaml/Cursor" "hasSurrogates" "Z" (.int (0 : Int32)) := (F_hasSurrogates_b18.ext E21)
    have fa32 : Fld Z h21 b18 "com/example/endcon/endcon/yaml/Cursor" "pos" "I" (.int (0 : Int32)) := (F_pos_b18.ext E21)
    have fa33 : Fld Z h21 b18 "com/example/endcon/endcon/yaml/Cursor" "lineStart" "I" (.int (0 : Int32)) := (F_lineStart_b18.ext E21)
    have fa34 : Arv Z h21 b1 k1 .char (4 : Int32) [(.int (nar .char (10 : Int32))), (.int (nar .char (f1 p4))), (.int (nar .char ((p6 &&& (255 : Int32)).toUInt32.toUInt16.toUInt32.toInt32))), (.int (nar .char ((((p6.toUInt32 >>> ((8 : Int32) &&& 31).toUInt32).toInt32) &&& (255 : Int32)).toUInt32.toUInt16.toUInt32.toInt32)))] (.int (0 : Int32)) := ((V16.ext E18).ext E21)
    obtain ⟨_, T23, Lc23, X23, hQ23, st23⟩ := own_callI X21 hx hZ (y := (⟨"com/example/endcon/endcon/yaml/Cursor", "<init>", "(Ljava/lang/String;[CI)V"⟩ : MethodName)) rfl hown (hw _ (List.mem_of_getElem? (i := 17) rfl)) (hw _ (List.mem_of_getElem? (i := 18) rfl)) (hw _ (List.mem_of_getElem? (i := 8) rfl)) (hw _ (List.mem_of_getElem? (i := 19) rfl)) (by decide) (W := 1) (a := b18) (argsL := [(.ref sa21), (.ref b1), (.int ((1 : Int32) + (p1 &&& (3 : Int32))))]) (rest := [(.ref b18)]) (rm2 l Z a0 hw [] b18 sa21 b1 ((1 : Int32) + (p1 &&& (3 : Int32))) (nar .char (10 : Int32)) (nar .char (f1 p4)) (nar .char ((p6 &&& (255 : Int32)).toUInt32.toUInt16.toUInt32.toInt32)) (nar .char ((((p6.toUInt32 >>> ((8 : Int32) &&& 31).toUInt32).toInt32) &&& (255 : Int32)).toUInt32.toUInt16.toUInt32.toInt32)) k1 h21 n0 zs22 fa24 fa25 fa26 fa27 fa28 fa29 fa30 fa31 fa32 fa33 g_b18 fa34 (Ne.symm ne_b1_b18) (own_n4 p1) (by decide) (own_ltp p4) (own_lt1 p6) (own_lt2 p6)) (by decide) (by decide) (c' := 4) (s' := 24) rfl rfl (by decide) (by decide) e21 (g := (mkF m 130 #[.val (.int p1), .val (.int p2), .val (.int p3), .val (.int p4), .val (.int p5), .val (.int p6), .val (.int ((1 : Int32) + (p1 &&& (3 : Int32)))), .val (.int (0 : Int32)), .val (.ref b1), .val (.int (0 : Int32)), .unset, .unset, .unset, .unset] [(.int ((1 : Int32) + (p1 &&& (3 : Int32)))), (.ref b1), (.ref sa21), (.ref b18), (.ref b18)])) rfl (by rw [hml]; rfl) (lenOf pd_0_1 rfl) rfl (by show 2 * 0 + _ ≤ _; exact Nat.le_of_eq rfl) (hb hby at_130)
    obtain ⟨rfl, N23q, K23, Ec23_a1, Fc23_a1_line, Fc23_a1_blankLinesFrom, Fc23_a1_countedIndex, Fc23_a1_file, Fc23_a1_text, Fc23_a1_end, Fc23_a1_hasSurrogates, Fc23_a1_pos, Fc23_a1_lineStart⟩ := hQ23
    have N23 := Fr.app N16 N23q
    have zk35 : kk21 ≤ T23.heap.size := Nat.le_trans hkk21 K23.1
    have zs36 : n0 ≤ T23.heap.size := Nat.le_trans zs22 K23.1
    obtain ⟨_, T37, Lc37, X37, hQ37, st37⟩ := own_callV X23 hx hZ (y := (⟨"com/example/endcon/endcon/yaml/Cursor", "moveTo", "(I)V"⟩ : MethodName)) hown (hw _ (List.mem_of_getElem? (i := 43) rfl)) (hw _ (List.mem_of_getElem? (i := 44) rfl)) (hw _ (List.mem_of_getElem? (i := 46) rfl)) (hw _ (List.mem_of_getElem? (i := 45) rfl)) (hw _ (List.mem_of_getElem? (i := 8) rfl)) (hw _ (List.mem_of_getElem? (i := 47) rfl)) (by decide) (W := 0) Ec23_a1 (argsL := [(.int (0 : Int32))]) (rest := []) (rm5 l Z a0 hw [] b18 (0 : Int32) b1 ((1 : Int32) + (p1 &&& (3 : Int32))) (0 : Int32) (1 : Int32) (0 : Int32) T23.heap n0 zs36 Ec23_a1 Fc23_a1_text Fc23_a1_end Fc23_a1_pos Fc23_a1_line Fc23_a1_lineStart g_b18) (by decide) (by decide) (c' := 4) (s' := 24) rfl rfl (by decide) (by decide) rfl (g := (mkF m 139 #[.val (.int p1), .val (.int p2), .val (.int p3), .val (.int p4), .val (.int p5), .val (.int p6), .val (.int ((1 : Int32) + (p1 &&& (3 : Int32)))), .val (.int (0 : Int32)), .val (.ref b1), .val (.int (0 : Int32)), .val (.ref b18), .unset, .unset, .unset] [(.int (0 : Int32)), (.ref b18)])) rfl (by rw [hml]; rfl) (lenOf pd_0_4 rfl) rfl (by show 2 * 0 + _ ≤ _; exact Nat.le_of_eq rfl) (hb hby at_139)
    obtain ⟨rfl, N37q, K37, Ec37_a1, Fc37_a1_text, Fc37_a1_end, Fc37_a1_pos, Fc37_a1_line, Fc37_a1_lineStart⟩ := hQ37
    have N37 := Fr.app N23 N37q
    have zk38 : kk21 ≤ T37.heap.size := Nat.le_trans zk35 K37.1
    have zs39 : n0 ≤ T37.heap.size := Nat.le_trans zs36 K37.1
    have fa41 : Arv Z T37.heap b1 k1 .char (4 : Int32) [(.int (nar .char (10 : Int32))), (.int (nar .char (f1 p4))), (.int (nar .char ((p6 &&& (255 : Int32)).toUInt32.toUInt16.toUInt32.toInt32))), (.int (nar .char ((((p6.toUInt32 >>> ((8 : Int32) &&& 31).toUInt32).toInt32) &&& (255 : Int32)).toUInt32.toUInt16.toUInt32.toInt32)))] (.int (0 : Int32)) := ((fa34.keep K23 (ninS ne_b1_b18 nin0)).keep K37 (ninS ne_b1_b18 nin0))
    obtain ⟨_, T40, Lc40, X40, hQ40, st40⟩ := own_callV X37 hx hZ (y := (⟨"com/example/endcon/endcon/yaml/Cursor", "newLine", "()V"⟩ : MethodName)) hown (hw _ (List.mem_of_getElem? (i := 50) rfl)) (hw _ (List.mem_of_getElem? (i := 51) rfl)) (hw _ (List.mem_of_getElem? (i := 53) rfl)) (hw _ (List.mem_of_getElem? (i := 52) rfl)) (hw _ (List.mem_of_getElem? (i := 8) rfl)) (hw _ (List.mem_of_getElem? (i := 54) rfl)) (by decide) (W := 0) Ec37_a1 (argsL := []) (rest := []) (rm6 l Z a0 hw [] b18 b1 (nar .char (10 : Int32)) (nar .char (f1 p4)) (nar .char ((p6 &&& (255 : Int32)).toUInt32.toUInt16.toUInt32.toInt32)) (nar .char ((((p6.toUInt32 >>> ((8 : Int32) &&& 31).toUInt32).toInt32) &&& (255 : Int32)).toUInt32.toUInt16.toUInt32.toInt32)) ((1 : Int32) + (p1 &&& (3 : Int32))) (0 : Int32) (1 : Int32) (0 : Int32) k1 T37.heap n0 zs39 Ec37_a1 Fc37_a1_text Fc37_a1_end Fc37_a1_pos Fc37_a1_line Fc37_a1_lineStart g_b18 fa41 ne_b1_b18 (by decide) (by decide) (fun _ => ⟨by decide, by decide⟩)) (by decide) (by decide) (c' := 4) (s' := 24) rfl rfl (by decide) (by decide) rfl (g := (mkF m 144 #[.val (.int p1), .val (.int p2), .val (.int p3), .val (.int p4), .val (.int p5), .val (.int p6), .val (.int ((1 : Int32) + (p1 &&& (3 : Int32)))), .val (.int (0 : Int32)), .val (.ref b1), .val (.int (0 : Int32)), .val (.ref b18), .unset, .unset, .unset] [(.ref b18)])) rfl (by rw [hml]; rfl) (lenOf pd_0_2 rfl) rfl (by show 2 * 0 + _ ≤ _; exact Nat.le_of_eq rfl) (hb hby at_144)
    obtain ⟨hv40, N40q, K40, Ec40_a1, Fc40_a1_text, Fc40_a1_end, Fc40_a1_pos, Fc40_a1_line, Fc40_a1_lineStart⟩ := hQ40
    have N40 := Fr.app N37 N40q
    subst hv40
    have lFc40_a1_pos : Fld Z T40.heap b18 "com/example/endcon/endcon/yaml/Cursor" "pos" "I" (.int ((0 : Int32) + (1 : Int32))) := by have q := Fc40_a1_pos; rw [f6_a1_pos, if_neg (show ¬ ((own_at4 (nar .char (10 : Int32)) (nar .char (f1 p4)) (nar .char ((p6 &&& (255 : Int32)).toUInt32.toUInt16.toUInt32.toInt32)) (nar .char ((((p6.toUInt32 >>> ((8 : Int32) &&& 31).toUInt32).toInt32) &&& (255 : Int32)).toUInt32.toUInt16.toUInt32.toInt32)) (0 : Int32)) = (13 : Int32)) from (by decide : ¬ ((nar .char (10 : Int32)) = (13 : Int32))))] at q; exact q
    have lFc40_a1_line : Fld Z T40.heap b18 "com/example/endcon/endcon/yaml/Cursor" "line" "I" (.int ((1 : Int32) + (1 : Int32))) := by have q := Fc40_a1_line; rw [f6_a1_line, if_neg (show ¬ ((own_at4 (nar .char (10 : Int32)) (nar .char (f1 p4)) (nar .char ((p6 &&& (255 : Int32)).toUInt32.toUInt16.toUInt32.toInt32)) (nar .char ((((p6.toUInt32 >>> ((8 : Int32) &&& 31).toUInt32).toInt32) &&& (255 : Int32)).toUInt32.toUInt16.toUInt32.toInt32)) (0 : Int32)) = (13 : Int32)) from (by decide : ¬ ((nar .char (10 : Int32)) = (13 : Int32))))] at q; exact q
    have lFc40_a1_lineStart : Fld Z T40.heap b18 "com/example/endcon/endcon/yaml/Cursor" "lineStart" "I" (.int ((0 : Int32) + (1 : Int32))) := by have q := Fc40_a1_lineStart; rw [f6_a1_lineStart, if_neg (show ¬ ((own_at4 (nar .char (10 : Int32)) (nar .char (f1 p4)) (nar .char ((p6 &&& (255 : Int32)).toUInt32.toUInt16.toUInt32.toInt32)) (nar .char ((((p6.toUInt32 >>> ((8 : Int32) &&& 31).toUInt32).toInt32) &&& (255 : Int32)).toUInt32.toUInt16.toUInt32.toInt32)) (0 : Int32)) = (13 : Int32)) from (by decide : ¬ ((nar .char (10 : Int32)) = (13 : Int32))))] at q; exact q
    have zk42 : kk21 ≤ T40.heap.size := Nat.le_trans zk38 K40.1
    have zs43 : n0 ≤ T40.heap.size := Nat.le_trans zs39 K40.1
    obtain ⟨_, T44, Lc44, X44, hQ44, st44⟩ := own_callV X40 hx hZ (y := (⟨"com/example/endcon/endcon/yaml/Cursor", "index", "()I"⟩ : MethodName)) hown (hw _ (List.mem_of_getElem? (i := 57) rfl)) (hw _ (List.mem_of_getElem? (i := 58) rfl)) (hw _ (List.mem_of_getElem? (i := 60) rfl)) (hw _ (List.mem_of_getElem? (i := 59) rfl)) (hw _ (List.mem_of_getElem? (i := 8) rfl)) (hw _ (List.mem_of_getElem? (i := 61) rfl)) (by decide) (W := 0) Ec40_a1 (argsL := []) (rest := []) (rm7 l Z a0 hw [] b18 ((0 : Int32) + (1 : Int32)) T40.heap n0 zs43 Ec40_a1 lFc40_a1_pos) (by decide) (by decide) (c' := 4) (s' := 24) rfl rfl (by decide) (by decide) rfl (g := (mkF m 237 #[.val (.int p1), .val (.int p2), .val (.int p3), .val (.int p4), .val (.int p5), .val (.int p6), .val (.int ((1 : Int32) + (p1 &&& (3 : Int32)))), .val (.int (0 : Int32)), .val (.ref b1), .val (.int (0 : Int32)), .val (.ref b18), .val (.int (1 : Int32)), .val (.int (2 : Int32)), .val (.int (1 : Int32))] [(.ref b18)])) rfl (by rw [hml]; rfl) (lenOf pd_0_5 rfl) rfl (by show 2 * 0 + _ ≤ _; exact Nat.le_of_eq rfl) (hb hby at_237)
    obtain ⟨hv44, N44q, e44⟩ := hQ44
    have N44 := Fr.app N40 N44q
    rw [f7] at hv44
    subst hv44
    obtain ⟨_, T45, Lc45, X45, hQ45, st45⟩ := own_callV X44 hx hZ (y := (⟨"com/example/endcon/endcon/yaml/Cursor", "line", "()I"⟩ : MethodName)) hown (hw _ (List.mem_of_getElem? (i := 62) rfl)) (hw _ (List.mem_of_getElem? (i := 63) rfl)) (hw _ (List.mem_of_getElem? (i := 65) rfl)) (hw _ (List.mem_of_getElem? (i := 64) rfl)) (hw _ (List.mem_of_getElem? (i := 8) rfl)) (hw _ (List.mem_of_getElem? (i := 66) rfl)) (by decide) (W := 0) Ec40_a1 (argsL := []) (rest := []) (rm8 l Z a0 hw [] b18 ((1 : Int32) + (1 : Int32)) T40.heap n0 zs43 Ec40_a1 lFc40_a1_line) (by decide) (by decide) (c' := 4) (s' := 24) rfl rfl (by decide) (by decide) e44 (g := (mkF m 247 #[.val (.int p1), .val (.int p2), .val (.int p3), .val (.int p4), .val (.int p5), .val (.int p6), .val (.int ((1 : Int32) + (p1 &&& (3 : Int32)))), .val (.int (0 : Int32)), .val (.ref b1), .val (.int (0 : Int32)), .val (.ref b18), .val (.int (1 : Int32)), .val (.int (2 : Int32)), .val (.int (1 : Int32))] [(.ref b18)])) rfl (by rw [hml]; rfl) (lenOf pd_0_5 rfl) rfl (by show 2 * 0 + _ ≤ _; exact Nat.le_of_eq rfl) (hb hby at_247)
    obtain ⟨hv45, N45q, e45⟩ := hQ45
    have N45 := Fr.app N44 N45q
    rw [f8] at hv45
    subst hv45
    obtain ⟨_, T46, Lc46, X46, hQ46, st46⟩ := own_callV X45 hx hZ (y := (⟨"com/example/endcon/endcon/yaml/Cursor", "lineStart", "()I"⟩ : MethodName)) hown (hw _ (List.mem_of_getElem? (i := 67) rfl)) (hw _ (List.mem_of_getElem? (i := 68) rfl)) (hw _ (List.mem_of_getElem? (i := 70) rfl)) (hw _ (List.mem_of_getElem? (i := 69) rfl)) (hw _ (List.mem_of_getElem? (i := 8) rfl)) (hw _ (List.mem_of_getElem? (i := 71) rfl)) (by decide) (W := 0) Ec40_a1 (argsL := []) (rest := []) (rm9 l Z a0 hw [] b18 ((0 : Int32) + (1 : Int32)) T40.heap n0 zs43 Ec40_a1 lFc40_a1_lineStart) (by decide) (by decide) (c' := 4) (s' := 24) rfl rfl (by decide) (by decide) e45 (g := (mkF m 257 #[.val (.int p1), .val (.int p2), .val (.int p3), .val (.int p4), .val (.int p5), .val (.int p6), .val (.int ((1 : Int32) + (p1 &&& (3 : Int32)))), .val (.int (0 : Int32)), .val (.ref b1), .val (.int (0 : Int32)), .val (.ref b18), .val (.int (1 : Int32)), .val (.int (2 : Int32)), .val (.int (1 : Int32))] [(.ref b18)])) rfl (by rw [hml]; rfl) (lenOf pd_0_5 rfl) rfl (by show 2 * 0 + _ ≤ _; exact Nat.le_of_eq rfl) (hb hby at_257)
    obtain ⟨hv46, N46q, e46⟩ := hQ46
    have N46 := Fr.app N45 N46q
    rw [f9] at hv46
    subst hv46
    obtain ⟨fs, hr, hrun, hended, hRW⟩ := X46.leaveW (s := s) hS21 (by rw [e46]; exact zk42) (v := some (.int (1 : Int32))) (fun h => by rw [Bd.returns] at h; cases h)
    refine ⟨_, _, pre20 _ ?_, hrun, hended, _, _, rfl, ?_, ⟨_, rfl⟩, hRW.2.1, hRW.2.2.1, hRW.2.2.2.mono (by decide) (by decide)⟩
    · show Steps p.tables e below (T18.setTop (mkF m 124 #[.val (.int p1), .val (.int p2), .val (.int p3), .val (.int p4), .val (.int p5), .val (.int p6), .val (.int ((1 : Int32) + (p1 &&& (3 : Int32)))), .val (.int (0 : Int32)), .val (.ref b1), .val (.int (0 : Int32)), .unset, .unset, .unset, .unset] [(.ref b18), (.ref b18)])) _
      refine st21 _ ?_
      show Steps p.tables e below (T21.setTop (mkF m 126 #[.val (.int p1), .val (.int p2), .val (.int p3), .val (.int p4), .val (.int p5), .val (.int p6), .val (.int ((1 : Int32) + (p1 &&& (3 : Int32)))), .val (.int (0 : Int32)), .val (.ref b1), .val (.int (0 : Int32)), .unset, .unset, .unset, .unset] [(.ref sa21), (.ref b18), (.ref b18)])) _
      refine own_blk X21 hx bl0_126_2 (own_hb hby bd0_126_2) (pc' := 130) (Ls' := #[.val (.int p1), .val (.int p2), .val (.int p3), .val (.int p4), .val (.int p5), .val (.int p6), .val (.int ((1 : Int32) + (p1 &&& (3 : Int32)))), .val (.int (0 : Int32)), .val (.ref b1), .val (.int (0 : Int32)), .unset, .unset, .unset, .unset]) (st' := [(.int ((1 : Int32) + (p1 &&& (3 : Int32)))), (.ref b1), (.ref sa21), (.ref b18), (.ref b18)]) rfl ?_
      refine st23 _ ?_
      show Steps p.tables e below (T23.setTop (mkF m 133 #[.val (.int p1), .val (.int p2), .val (.int p3), .val (.int p4), .val (.int p5), .val (.int p6), .val (.int ((1 : Int32) + (p1 &&& (3 : Int32)))), .val (.int (0 : Int32)), .val (.ref b1), .val (.int (0 : Int32)), .unset, .unset, .unset, .unset] [(.ref b18)])) _
      refine own_blk X23 hx bl0_133_1 (own_hb hby bd0_133_1) (pc' := 135) (Ls' := #[.val (.int p1), .val (.int p2), .val (.int p3), .val (.int p4), .val (.int p5), .val (.int p6), .val (.int ((1 : Int32) + (p1 &&& (3 : Int32)))), .val (.int (0 : Int32)), .val (.ref b1), .val (.int (0 : Int32)), .val (.ref b18), .unset, .unset, .unset]) (st' := []) rfl ?_
      refine own_blk X23 hx bl0_135_2 (own_hb hby bd0_135_2) (pc' := 139) (Ls' := #[.val (.int p1), .val (.int p2), .val (.int p3), .val (.int p4), .val (.int p5), .val (.int p6), .val (.int ((1 : Int32) + (p1 &&& (3 : Int32)))), .val (.int (0 : Int32)), .val (.ref b1), .val (.int (0 : Int32)), .val (.ref b18), .unset, .unset, .unset]) (st' := [(.int (0 : Int32)), (.ref b18)]) rfl ?_
      refine st37 _ ?_
      show Steps p.tables e below (T37.setTop (mkF m 142 #[.val (.int p1), .val (.int p2), .val (.int p3), .val (.int p4), .val (.int p5), .val (.int p6), .val (.int ((1 : Int32) + (p1 &&& (3 : Int32)))), .val (.int (0 : Int32)), .val (.ref b1), .val (.int (0 : Int32)), .val (.ref b18), .unset, .unset, .unset] [])) _
      refine own_blk X37 hx bl0_142_1 (own_hb hby bd0_142_1) (pc' := 144) (Ls' := #[.val (.int p1), .val (.int p2), .val (.int p3), .val (.int p4), .val (.int p5), .val (.int p6), .val (.int ((1 : Int32) + (p1 &&& (3 : Int32)))), .val (.int (0 : Int32)), .val (.ref b1), .val (.int (0 : Int32)), .val (.ref b18), .unset, .unset, .unset]) (st' := [(.ref b18)]) rfl ?_
      refine st40 _ ?_
      show Steps p.tables e below (T40.setTop (mkF m 147 #[.val (.int p1), .val (.int p2), .val (.int p3), .val (.int p4), .val (.int p5), .val (.int p6), .val (.int ((1 : Int32) + (p1 &&& (3 : Int32)))), .val (.int (0 : Int32)), .val (.ref b1), .val (.int (0 : Int32)), .val (.ref b18), .unset, .unset, .unset] [])) _
      refine own_blk X40 hx bl0_147_1 (own_hb hby bd0_147_1) (pc' := 149) (Ls' := #[.val (.int p1), .val (.int p2), .val (.int p3), .val (.int p4), .val (.int p5), .val (.int p6), .val (.int ((1 : Int32) + (p1 &&& (3 : Int32)))), .val (.int (0 : Int32)), .val (.ref b1), .val (.int (0 : Int32)), .val (.ref b18), .unset, .unset, .unset]) (st' := [(.int (0 : Int32))]) rfl ?_
      refine XS.ifYes X40.here hx rfl (pc0 := 149) (pc' := 176) rfl (hb hby at_149) rfl ((if0 _ _).trans (teq (by decide : (0 : Int32) = (0 : Int32))).1) (by decide) (by decide) ?_
      show Steps p.tables e below (T40.setTop (mkF m 176 #[.val (.int p1), .val (.int p2), .val (.int p3), .val (.int p4), .val (.int p5), .val (.int p6), .val (.int ((1 : Int32) + (p1 &&& (3 : Int32)))), .val (.int (0 : Int32)), .val (.ref b1), .val (.int (0 : Int32)), .val (.ref b18), .unset, .unset, .unset] [])) _
      refine own_blk X40 hx bl0_176_1 (own_hb hby bd0_176_1) (pc' := 178) (Ls' := #[.val (.int p1), .val (.int p2), .val (.int p3), .val (.int p4), .val (.int p5), .val (.int p6), .val (.int ((1 : Int32) + (p1 &&& (3 : Int32)))), .val (.int (0 : Int32)), .val (.ref b1), .val (.int (0 : Int32)), .val (.ref b18), .unset, .unset, .unset]) (st' := [(.int (0 : Int32))]) rfl ?_
      refine XS.ifYes X40.here hx rfl (pc0 := 178) (pc' := 220) rfl (hb hby at_178) rfl ((if0 _ _).trans (teq (by decide : (0 : Int32) = (0 : Int32))).1) (by decide) (by decide) ?_
      show Steps p.tables e below (T40.setTop (mkF m 220 #[.val (.int p1), .val (.int p2), .val (.int p3), .val (.int p4), .val (.int p5), .val (.int p6), .val (.int ((1 : Int32) + (p1 &&& (3 : Int32)))), .val (.int (0 : Int32)), .val (.ref b1), .val (.int (0 : Int32)), .val (.ref b18), .unset, .unset, .unset] [])) _
      refine own_blk X40 hx bl0_220_4 (own_hb hby bd0_220_4) (pc' := 226) (Ls' := #[.val (.int p1), .val (.int p2), .val (.int p3), .val (.int p4), .val (.int p5), .val (.int p6), .val (.int ((1 : Int32) + (p1 &&& (3 : Int32)))), .val (.int (0 : Int32)), .val (.ref b1), .val (.int (0 : Int32)), .val (.ref b18), .val (.int (1 : Int32)), .unset, .unset]) (st' := []) rfl ?_
      refine own_blk X40 hx bl0_226_2 (own_hb hby bd0_226_2) (pc' := 229) (Ls' := #[.val (.int p1), .val (.int p2), .val (.int p3), .val (.int p4), .val (.int p5), .val (.int p6), .val (.int ((1 : Int32) + (p1 &&& (3 : Int32)))), .val (.int (0 : Int32)), .val (.ref b1), .val (.int (0 : Int32)), .val (.ref b18), .val (.int (1 : Int32)), .val (.int (2 : Int32)), .unset]) (st' := []) rfl ?_
      refine own_blk X40 hx bl0_229_4 (own_hb hby bd0_229_4) (pc' := 235) (Ls' := #[.val (.int p1), .val (.int p2), .val (.int p3), .val (.int p4), .val (.int p5), .val (.int p6), .val (.int ((1 : Int32) + (p1 &&& (3 : Int32)))), .val (.int (0 : Int32)), .val (.ref b1), .val (.int (0 : Int32)), .val (.ref b18), .val (.int (1 : Int32)), .val (.int (2 : Int32)), .val (.int (1 : Int32))]) (st' := []) rfl ?_
      refine own_blk X40 hx bl0_235_1 (own_hb hby bd0_235_1) (pc' := 237) (Ls' := #[.val (.int p1), .val (.int p2), .val (.int p3), .val (.int p4), .val (.int p5), .val (.int p6), .val (.int ((1 : Int32) + (p1 &&& (3 : Int32)))), .val (.int (0 : Int32)), .val (.ref b1), .val (.int (0 : Int32)), .val (.ref b18), .val (.int (1 : Int32)), .val (.int (2 : Int32)), .val (.int (1 : Int32))]) (st' := [(.ref b18)]) rfl ?_
      refine st44 _ ?_
      show Steps p.tables e below (T44.setTop (mkF m 240 #[.val (.int p1), .val (.int p2), .val (.int p3), .val (.int p4), .val (.int p5), .val (.int p6), .val (.int ((1 : Int32) + (p1 &&& (3 : Int32)))), .val (.int (0 : Int32)), .val (.ref b1), .val (.int (0 : Int32)), .val (.ref b18), .val (.int (1 : Int32)), .val (.int (2 : Int32)), .val (.int (1 : Int32))] [(.int ((0 : Int32) + (1 : Int32)))])) _
      refine own_blk X44 hx bl0_240_1 (own_hb hby bd0_240_1) (pc' := 242) (Ls' := #[.val (.int p1), .val (.int p2), .val (.int p3), .val (.int p4), .val (.int p5), .val (.int p6), .val (.int ((1 : Int32) + (p1 &&& (3 : Int32)))), .val (.int (0 : Int32)), .val (.ref b1), .val (.int (0 : Int32)), .val (.ref b18), .val (.int (1 : Int32)), .val (.int (2 : Int32)), .val (.int (1 : Int32))]) (st' := [(.int (1 : Int32)), (.int ((0 : Int32) + (1 : Int32)))]) rfl ?_
      refine XS.icmpNo X44.here hx rfl (hb hby at_242) rfl (teq (show ((0 : Int32) + (1 : Int32)) = (1 : Int32) from (by decide : (1 : Int32) = (1 : Int32)))).2 ?_
      show Steps p.tables e below (T44.setTop (mkF m 245 #[.val (.int p1), .val (.int p2), .val (.int p3), .val (.int p4), .val (.int p5), .val (.int p6), .val (.int ((1 : Int32) + (p1 &&& (3 : Int32)))), .val (.int (0 : Int32)), .val (.ref b1), .val (.int (0 : Int32)), .val (.ref b18), .val (.int (1 : Int32)), .val (.int (2 : Int32)), .val (.int (1 : Int32))] [])) _
      refine own_blk X44 hx bl0_245_1 (own_hb hby bd0_245_1) (pc' := 247) (Ls' := #[.val (.int p1), .val (.int p2), .val (.int p3), .val (.int p4), .val (.int p5), .val (.int p6), .val (.int ((1 : Int32) + (p1 &&& (3 : Int32)))), .val (.int (0 : Int32)), .val (.ref b1), .val (.int (0 : Int32)), .val (.ref b18), .val (.int (1 : Int32)), .val (.int (2 : Int32)), .val (.int (1 : Int32))]) (st' := [(.ref b18)]) rfl ?_
      refine st45 _ ?_
      show Steps p.tables e below (T45.setTop (mkF m 250 #[.val (.int p1), .val (.int p2), .val (.int p3), .val (.int p4), .val (.int p5), .val (.int p6), .val (.int ((1 : Int32) + (p1 &&& (3 : Int32)))), .val (.int (0 : Int32)), .val (.ref b1), .val (.int (0 : Int32)), .val (.ref b18), .val (.int (1 : Int32)), .val (.int (2 : Int32)), .val (.int (1 : Int32))] [(.int ((1 : Int32) + (1 : Int32)))])) _
      refine own_blk X45 hx bl0_250_1 (own_hb hby bd0_250_1) (pc' := 252) (Ls' := #[.val (.int p1), .val (.int p2), .val (.int p3), .val (.int p4), .val (.int p5), .val (.int p6), .val (.int ((1 : Int32) + (p1 &&& (3 : Int32)))), .val (.int (0 : Int32)), .val (.ref b1), .val (.int (0 : Int32)), .val (.ref b18), .val (.int (1 : Int32)), .val (.int (2 : Int32)), .val (.int (1 : Int32))]) (st' := [(.int (2 : Int32)), (.int ((1 : Int32) + (1 : Int32)))]) rfl ?_
      refine XS.icmpNo X45.here hx rfl (hb hby at_252) rfl (teq (show ((1 : Int32) + (1 : Int32)) = (2 : Int32) from (by decide : (2 : Int32) = (2 : Int32)))).2 ?_
      show Steps p.tables e below (T45.setTop (mkF m 255 #[.val (.int p1), .val (.int p2), .val (.int p3), .val (.int p4), .val (.int p5), .val (.int p6), .val (.int ((1 : Int32) + (p1 &&& (3 : Int32)))), .val (.int (0 : Int32)), .val (.ref b1), .val (.int (0 : Int32)), .val (.ref b18), .val (.int (1 : Int32)), .val (.int (2 : Int32)), .val (.int (1 : Int32))] [])) _
      refine own_blk X45 hx bl0_255_1 (own_hb hby bd0_255_1) (pc' := 257) (Ls' := #[.val (.int p1), .val (.int p2), .val (.int p3), .val (.int p4), .val (.int p5), .val (.int p6), .val (.int ((1 : Int32) + (p1 &&& (3 : Int32)))), .val (.int (0 : Int32)), .val (.ref b1), .val (.int (0 : Int32)), .val (.ref b18), .val (.int (1 : Int32)), .val (.int (2 : Int32)), .val (.int (1 : Int32))]) (st' := [(.ref b18)]) rfl ?_
      refine st46 _ ?_
      show Steps p.tables e below (T46.setTop (mkF m 260 #[.val (.int p1), .val (.int p2), .val (.int p3), .val (.int p4), .val (.int p5), .val (.int p6), .val (.int ((1 : Int32) + (p1 &&& (3 : Int32)))), .val (.int (0 : Int32)), .val (.ref b1), .val (.int (0 : Int32)), .val (.ref b18), .val (.int (1 : Int32)), .val (.int (2 : Int32)), .val (.int (1 : Int32))] [(.int ((0 : Int32) + (1 : Int32)))])) _
      refine own_blk X46 hx bl0_260_1 (own_hb hby bd0_260_1) (pc' := 262) (Ls' := #[.val (.int p1), .val (.int p2), .val (.int p3), .val (.int p4), .val (.int p5), .val (.int p6), .val (.int ((1 : Int32) + (p1 &&& (3 : Int32)))), .val (.int (0 : Int32)), .val (.ref b1), .val (.int (0 : Int32)), .val (.ref b18), .val (.int (1 : Int32)), .val (.int (2 : Int32)), .val (.int (1 : Int32))]) (st' := [(.int (1 : Int32)), (.int ((0 : Int32) + (1 : Int32)))]) rfl ?_
      refine XS.icmpNo X46.here hx rfl (hb hby at_262) rfl (teq (show ((0 : Int32) + (1 : Int32)) = (1 : Int32) from (by decide : (1 : Int32) = (1 : Int32)))).2 ?_
      show Steps p.tables e below (T46.setTop (mkF m 265 #[.val (.int p1), .val (.int p2), .val (.int p3), .val (.int p4), .val (.int p5), .val (.int p6), .val (.int ((1 : Int32) + (p1 &&& (3 : Int32)))), .val (.int (0 : Int32)), .val (.ref b1), .val (.int (0 : Int32)), .val (.ref b18), .val (.int (1 : Int32)), .val (.int (2 : Int32)), .val (.int (1 : Int32))] [])) _
      refine own_blk X46 hx bl0_265_2 (own_hb hby bd0_265_2) (pc' := 270) (Ls' := #[.val (.int p1), .val (.int p2), .val (.int p3), .val (.int p4), .val (.int p5), .val (.int p6), .val (.int ((1 : Int32) + (p1 &&& (3 : Int32)))), .val (.int (0 : Int32)), .val (.ref b1), .val (.int (0 : Int32)), .val (.ref b18), .val (.int (1 : Int32)), .val (.int (2 : Int32)), .val (.int (1 : Int32))]) (st' := [(.int (1 : Int32))]) rfl ?_
      exact retN X46 hx (t := .boolean) Bd.returns (by simp) (hb hby at_270) hr
    · show Q0_0 Z p1 p2 p3 p4 p5 p6 h0 n0 _ T46.heap _
      rw [e46]
      exact ⟨by rw [f0_0, if_pos hc12], N46⟩
  · obtain ⟨cx47, Ar47, qq47, S47, N47_, H47, G47⟩ := id V9
    have hin47 : ¬ ((0 : Int32) < 0 ∨ cx47.slots.size ≤ ((0 : Int32)).toNatClampNeg) := inb_of S47 ⟨by decide, by decide⟩
    obtain ⟨T47, h47, X47, e47, W47, st47⟩ := stC X9 hx hZ e9 Ar47 (j := (0 : Int32)) hin47 (g := (mkF m 100 #[.val (.int p1), .val (.int p2), .val (.int p3), .val (.int p4), .val (.int p5), .val (.int p6), .val (.int ((1 : Int32) + (p1 &&& (3 : Int32)))), .val (.int (0 : Int32)), .val (.ref b1), .val (.int (1 : Int32)), .unset, .unset, .unset, .unset] [(.int (13 : Int32)), (.int (0 : Int32)), (.ref b1)])) rfl rfl (hb hby at_100)
    have V47 : Arv Z h47 b1 k1 .char (4 : Int32) [(.int (nar .char (13 : Int32))), (.int (nar .char ((((p5.toUInt32 >>> ((8 : Int32) &&& 31).toUInt32).toInt32) &&& (255 : Int32)).toUInt32.toUInt16.toUInt32.toInt32))), (.int (nar .char ((p6 &&& (255 : Int32)).toUInt32.toUInt16.toUInt32.toInt32))), (.int (nar .char ((((p6.toUInt32 >>> ((8 : Int32) &&& 31).toUInt32).toInt32) &&& (255 : Int32)).toUInt32.toUInt16.toUInt32.toInt32)))] (.int (0 : Int32)) := Arv.set Ar47 qq47 S47 N47_ H47 G47 (fits_nar_char _) W47 0 rfl (Nat.le_of_ble_eq_true rfl)
    have zs48 : n0 ≤ h47.size := Nat.le_trans zs10 (Keep.of_wr W47).1
    have N47 := Fr.snoc X47 N9 g_b1
    obtain ⟨_, T49, Lc49, X49, hQ49, st49⟩ := own_callS X47 hx hZ (y := (⟨"com/example/endcon/endcon/yaml/CursorNewLinePinLaw", "pick", "(I)C"⟩ : MethodName)) hown (hw _ (List.mem_of_getElem? (i := 2) rfl)) (hw _ (List.mem_of_getElem? (i := 3) rfl)) (hw _ (List.mem_of_getElem? (i := 4) rfl)) (hw _ (List.mem_of_getElem? (i := 5) rfl)) (by decide) (W := 2) (argsL := [(.int p4)]) (rest := [(.int (1 : Int32)), (.ref b1)]) (rm1 l Z a0 hw [] p4 h47 n0 zs48 ) (by decide) (by decide) (c' := 1) (s' := 4) rfl rfl (by decide) (by decide) e47 (g := (mkF m 116 #[.val (.int p1), .val (.int p2), .val (.int p3), .val (.int p4), .val (.int p5), .val (.int p6), .val (.int ((1 : Int32) + (p1 &&& (3 : Int32)))), .val (.int (0 : Int32)), .val (.ref b1), .val (.int (1 : Int32)), .unset, .unset, .unset, .unset] [(.int p4), (.int (1 : Int32)), (.ref b1)])) rfl (by rw [hml]; rfl) (lenOf pd_0_0 rfl) rfl (by show 2 * 0 + _ ≤ _; exact Nat.le_of_eq rfl) (hb hby at_116)
    obtain ⟨rfl, N49q, e49⟩ := hQ49
    have N49 := Fr.app N47 N49q
    obtain ⟨cx50, Ar50, qq50, S50, N50_, H50, G50⟩ := id V47
    have hin50 : ¬ ((1 : Int32) < 0 ∨ cx50.slots.size ≤ ((1 : Int32)).toNatClampNeg) := inb_of S50 ⟨by decide, by decide⟩
    obtain ⟨T50, h50, X50, e50, W50, st50⟩ := stC X49 hx hZ e49 Ar50 (j := (1 : Int32)) hin50 (g := (mkF m 119 #[.val (.int p1), .val (.int p2), .val (.int p3), .val (.int p4), .val (.int p5), .val (.int p6), .val (.int ((1 : Int32) + (p1 &&& (3 : Int32)))), .val (.int (0 : Int32)), .val (.ref b1), .val (.int (1 : Int32)), .unset, .unset, .unset, .unset] [(.int (f1 p4)), (.int (1 : Int32)), (.ref b1)])) rfl rfl (hb hby at_119)
    have V50 : Arv Z h50 b1 k1 .char (4 : Int32) [(.int (nar .char (13 : Int32))), (.int (nar .char (f1 p4))), (.int (nar .char ((p6 &&& (255 : Int32)).toUInt32.toUInt16.toUInt32.toInt32))), (.int (nar .char ((((p6.toUInt32 >>> ((8 : Int32) &&& 31).toUInt32).toInt32) &&& (255 : Int32)).toUInt32.toUInt16.toUInt32.toInt32)))] (.int (0 : Int32)) := Arv.set Ar50 qq50 S50 N50_ H50 G50 (fits_nar_char _) W50 1 rfl (Nat.le_of_ble_eq_true rfl)
    have zs51 : n0 ≤ h50.size := Nat.le_trans zs48 (Keep.of_wr W50).1
    have N50 := Fr.snoc X50 N49 g_b1
    obtain ⟨T52, h52, X52, e52, E52, A52, D52, -, st52⟩ := newO X50 hx hZ hown (hw _ (List.mem_of_getElem? (i := 6) rfl)) (hw _ (List.mem_of_getElem? (i := 7) rfl)) (hw _ (List.mem_of_getElem? (i := 8) rfl)) e50 (g := (mkF m 120 #[.val (.int p1), .val (.int p2), .val (.int p3), .val (.int p4), .val (.int p5), .val (.int p6), .val (.int ((1 : Int32) + (p1 &&& (3 : Int32)))), .val (.int (0 : Int32)), .val (.ref b1), .val (.int (1 : Int32)), .unset, .unset, .unset, .unset] [])) rfl (hb hby at_120) (by decide) (by decide)
    obtain ⟨b52, g52⟩ : ∃ z, z = h50.size := ⟨_, rfl⟩
    rw [← g52] at A52 D52 st52
    have ne_b1_b52 : b1 ≠ b52 := Nat.ne_of_lt (Nat.lt_of_lt_of_le V50.lt (Nat.le_of_eq g52.symm))
    have g_b52 : n0 ≤ b52 := Nat.le_trans zs51 (Nat.le_of_eq g52.symm)
    have zs53 : n0 ≤ h52.size := Nat.le_trans zs51 E52.1
    have F_line_b52 : Fld Z h52 b52 "com/example/endcon/endcon/yaml/Cursor" "line" "I" (.int (0 : Int32)) := D52 (Or.inl (hw _ (List.mem_of_getElem? (i := 24) rfl))) (ty := .int) (by decide)
    have F_blankLinesFrom_b52 : Fld Z h52 b52 "com/example/endcon/endcon/yaml/Cursor" "blankLinesFrom" "I" (.int (0 : Int32)) := D52 (Or.inl (hw _ (List.mem_of_getElem? (i := 26) rfl))) (ty := .int) (by decide)
    have F_countedIndex_b52 : Fld Z h52 b52 "com/example/endcon/endcon/yaml/Cursor" "countedIndex" "I" (.int (0 : Int32)) := D52 (Or.inl (hw _ (List.mem_of_getElem? (i := 28) rfl))) (ty := .int) (by decide)
    have F_file_b52 : Fld Z h52 b52 "com/example/endcon/endcon/yaml/Cursor" "file" "Ljava/lang/String;" .null := D52 (Or.inr (hw _ (List.mem_of_getElem? (i := 30) rfl))) (ty := (.object "java/lang/String")) (by decide)
    have F_text_b52 : Fld Z h52 b52 "com/example/endcon/endcon/yaml/Cursor" "text" "[C" .null := D52 (Or.inl (hw _ (List.mem_of_getElem? (i := 32) rfl))) (ty := (.array .char)) (by decide)
    have F_end_b52 : Fld Z h52 b52 "com/example/endcon/endcon/yaml/Cursor" "end" "I" (.int (0 : Int32)) := D52 (Or.inr (hw _ (List.mem_of_getElem? (i := 34) rfl))) (ty := .int) (by decide)
    have F_hasSurrogates_b52 : Fld Z h52 b52 "com/example/endcon/endcon/yaml/Cursor" "hasSurrogates" "Z" (.int (0 : Int32)) := D52 (Or.inr (hw _ (List.mem_of_getElem? (i := 41) rfl))) (ty := .boolean) (by decide)
    have F_pos_b52 : Fld Z h52 b52 "com/example/endcon/endcon/yaml/Cursor" "pos" "I" (.int (0 : Int32)) := D52 (Or.inl (hw _ (List.mem_of_getElem? (i := 49) rfl))) (ty := .int) (by decide)
    have F_lineStart_b52 : Fld Z h52 b52 "com/example/endcon/endcon/yaml/Cursor" "lineStart" "I" (.int (0 : Int32)) := D52 (Or.inl (hw _ (List.mem_of_getElem? (i := 56) rfl))) (ty := .int) (by decide)
    have pre54 : ∀ t, Steps p.tables e below (T52.setTop (mkF m 124 #[.val (.int p1), .val (.int p2), .val (.int p3), .val (.int p4), .val (.int p5), .val (.int p6), .val (.int ((1 : Int32) + (p1 &&& (3 : Int32)))), .val (.int (0 : Int32)), .val (.ref b1), .val (.int (1 : Int32)), .unset, .unset, .unset, .unset] [(.ref b52), (.ref b52)])) t → Steps p.tables e below (s₁.setTop (entryFrame m #[(.int p1), (.int p2), (.int p3), (.int p4), (.int p5), (.int p6)] maxLocals)) t := fun t kt => by
      refine pre11 _ ?_
      show Steps p.tables e below (T9.setTop (mkF m 74 #[.val (.int p1), .val (.int p2), .val (.int p3), .val (.int p4), .val (.int p5), .val (.int p6), .val (.int ((1 : Int32) + (p1 &&& (3 : Int32)))), .val (.int (0 : Int32)), .val (.ref b1), .unset, .unset, .unset, .unset, .unset] [(.int (p3 &&& (1 : Int32)))])) _
      refine XS.ifNo X9.here hx rfl (hb hby at_74) rfl ((if0 _ _).trans (feq hc12).1) ?_
      show Steps p.tables e below (T9.setTop (mkF m 77 #[.val (.int p1), .val (.int p2), .val (.int p3), .val (.int p4), .val (.int p5), .val (.int p6), .val (.int ((1 : Int32) + (p1 &&& (3 : Int32)))), .val (.int (0 : Int32)), .val (.ref b1), .unset, .unset, .unset, .unset, .unset] [])) _
      refine own_blk X9 hx bl0_77_3 (own_hb hby bd0_77_3) (pc' := 84) (Ls' := #[.val (.int p1), .val (.int p2), .val (.int p3), .val (.int p4), .val (.int p5), .val (.int p6), .val (.int ((1 : Int32) + (p1 &&& (3 : Int32)))), .val (.int (0 : Int32)), .val (.ref b1), .val (.int (1 : Int32)), .unset, .unset, .unset, .unset]) (st' := []) rfl ?_
      refine own_blk X9 hx bl0_84_3 (own_hb hby bd0_84_3) (pc' := 90) (Ls' := #[.val (.int p1), .val (.int p2), .val (.int p3), .val (.int p4), .val (.int p5), .val (.int p6), .val (.int ((1 : Int32) + (p1 &&& (3 : Int32)))), .val (.int (0 : Int32)), .val (.ref b1), .val (.int (1 : Int32)), .unset, .unset, .unset, .unset]) (st' := [(.int (1 : Int32)), (.int (0 : Int32)), (.ref b1)]) rfl ?_
      refine XS.ifNo X9.here hx rfl (hb hby at_90) rfl ((if0 _ _).trans (feq (by decide : ¬ ((1 : Int32) = (0 : Int32)))).1) ?_
      show Steps p.tables e below (T9.setTop (mkF m 93 #[.val (.int p1), .val (.int p2), .val (.int p3), .val (.int p4), .val (.int p5), .val (.int p6), .val (.int ((1 : Int32) + (p1 &&& (3 : Int32)))), .val (.int (0 : Int32)), .val (.ref b1), .val (.int (1 : Int32)), .unset, .unset, .unset, .unset] [(.int (0 : Int32)), (.ref b1)])) _
      refine own_blk X9 hx bl0_93_2 (own_hb hby bd0_93_2) (pc' := 100) (Ls' := #[.val (.int p1), .val (.int p2), .val (.int p3), .val (.int p4), .val (.int p5), .val (.int p6), .val (.int ((1 : Int32) + (p1 &&& (3 : Int32)))), .val (.int (0 : Int32)), .val (.ref b1), .val (.int (1 : Int32)), .unset, .unset, .unset, .unset]) (st' := [(.int (13 : Int32)), (.int (0 : Int32)), (.ref b1)]) rfl ?_
      refine st47 _ ?_
      show Steps p.tables e below (T47.setTop (mkF m 101 #[.val (.int p1), .val (.int p2), .val (.int p3), .val (.int p4), .val (.int p5), .val (.int p6), .val (.int ((1 : Int32) + (p1 &&& (3 : Int32)))), .val (.int (0 : Int32)), .val (.ref b1), .val (.int (1 : Int32)), .unset, .unset, .unset, .unset] [])) _
      refine own_blk X47 hx bl0_101_4 (own_hb hby bd0_101_4) (pc' := 106) (Ls' := #[.val (.int p1), .val (.int p2), .val (.int p3), .val (.int p4), .val (.int p5), .val (.int p6), .val (.int ((1 : Int32) + (p1 &&& (3 : Int32)))), .val (.int (0 : Int32)), .val (.ref b1), .val (.int (1 : Int32)), .unset, .unset, .unset, .unset]) (st' := [(.int (4 : Int32)), (.int (1 : Int32))]) rfl ?_
      refine XS.icmpNo X47.here hx rfl (hb hby at_106) rfl (tlt (by decide : (1 : Int32) < (4 : Int32))).2.1 ?_
      show Steps p.tables e below (T47.setTop (mkF m 109 #[.val (.int p1), .val (.int p2), .val (.int p3), .val (.int p4), .val (.int p5), .val (.int p6), .val (.int ((1 : Int32) + (p1 &&& (3 : Int32)))), .val (.int (0 : Int32)), .val (.ref b1), .val (.int (1 : Int32)), .unset, .unset, .unset, .unset] [])) _
      refine own_blk X47 hx bl0_109_5 (own_hb hby bd0_109_5) (pc' := 116) (Ls' := #[.val (.int p1), .val (.int p2), .val (.int p3), .val (.int p4), .val (.int p5), .val (.int p6), .val (.int ((1 : Int32) + (p1 &&& (3 : Int32)))), .val (.int (0 : Int32)), .val (.ref b1), .val (.int (1 : Int32)), .unset, .unset, .unset, .unset]) (st' := [(.int p4), (.int (1 : Int32)), (.ref b1)]) rfl ?_
      refine st49 _ ?_
      show Steps p.tables e below (T49.setTop (mkF m 119 #[.val (.int p1), .val (.int p2), .val (.int p3), .val (.int p4), .val (.int p5), .val (.int p6), .val (.int ((1 : Int32) + (p1 &&& (3 : Int32)))), .val (.int (0 : Int32)), .val (.ref b1), .val (.int (1 : Int32)), .unset, .unset, .unset, .unset] [(.int (f1 p4)), (.int (1 : Int32)), (.ref b1)])) _
      refine st50 _ ?_
      show Steps p.tables e below (T50.setTop (mkF m 120 #[.val (.int p1), .val (.int p2), .val (.int p3), .val (.int p4), .val (.int p5), .val (.int p6), .val (.int ((1 : Int32) + (p1 &&& (3 : Int32)))), .val (.int (0 : Int32)), .val (.ref b1), .val (.int (1 : Int32)), .unset, .unset, .unset, .unset] [])) _
      refine st52 _ ?_
      show Steps p.tables e below (T52.setTop (mkF m 123 #[.val (.int p1), .val (.int p2), .val (.int p3), .val (.int p4), .val (.int p5), .val (.int p6), .val (.int ((1 : Int32) + (p1 &&& (3 : Int32)))), .val (.int (0 : Int32)), .val (.ref b1), .val (.int (1 : Int32)), .unset, .unset, .unset, .unset] [(.ref b52)])) _
      refine own_blk X52 hx bl0_123_1 (own_hb hby bd0_123_1) (pc' := 124) (Ls' := #[.val (.int p1), .val (.int p2), .val (.int p3), .val (.int p4), .val (.int p5), .val (.int p6), .val (.int ((1 : Int32) + (p1 &&& (3 : Int32)))), .val (.int (0 : Int32)), .val (.ref b1), .val (.int (1 : Int32)), .unset, .unset, .unset, .unset]) (st' := [(.ref b52), (.ref b52)]) rfl ?_
      exact kt
    have hS55a : s.Since s.vm h52.size := (State.WarmedH.refl s).since _
    obtain ⟨sa55, T55, h55, kk55, X55, e55, E55, hS55, hkk55, hZ, hown, st55⟩ := ldcS (s := s) (vm0 := s.vm) X52 hx hZ hown (hw _ (List.mem_of_getElem? (i := 9) rfl)) (own_ws hw) e52 hS55a (Nat.le_refl _) (g := (mkF m 124 #[.val (.int p1), .val (.int p2), .val (.int p3), .val (.int p4), .val (.int p5), .val (.int p6), .val (.int ((1 : Int32) + (p1 &&& (3 : Int32)))), .val (.int (0 : Int32)), .val (.ref b1), .val (.int (1 : Int32)), .unset, .unset, .unset, .unset] [(.ref b52), (.ref b52)])) rfl (hb hby at_124) (n := 4) (by decide) (by decide) (by decide) (by decide)
    have zs56 : n0 ≤ h55.size := Nat.le_trans zs53 E55.1
    have fa58 : Exa Z h55 b52 "com/example/endcon/endcon/yaml/Cursor" := (A52.ext E55)
    have fa59 : Fld Z h55 b52 "com/example/endcon/endcon/yaml/Cursor" "line" "I" (.int (0 : Int32)) := (F_line_b52.ext E55)
    have fa60 : Fld Z h55 b52 "com/example/endcon/endcon/yaml/Cursor" "blankLinesFrom" "I" (.int (0 : Int32)) := (F_blankLinesFrom_b52.ext E55)
    have fa61 : Fld Z h55 b52 "com/example/endcon/endcon/yaml/Cursor" "countedIndex" "I" (.int (0 : Int32)) := (F_countedIndex_b52.ext E55)
    have fa62 : Fld Z h55 b52 "com/example/endcon/endcon/yaml/Cursor" "file" "Ljava/lang/String;" .null := (F_file_b52.ext E55)
    have fa63 : Fld Z h55 b52 "com/example/endcon/endcon/yaml/Cursor" "text" "[C" .null := (F_text_b52.ext E55)
    have fa64 : Fld Z h55 b52 "com/example/endcon/endcon/yaml/Cursor" "end" "I" (.int (0 : Int32)) := (F_end_b52.ext E55)
    have fa65 : Fld Z h55 b52 "com/example/endcon/endcon/yaml/Cursor" "hasSurrogates" "Z" (.int (0 : Int32)) := (F_hasSurrogates_b52.ext E55)
    have fa66 : Fld Z h55 b52 "com/example/endcon/endcon/yaml/Cursor" "pos" "I" (.int (0 : Int32)) := (F_pos_b52.ext E55)
    have fa67 : Fld Z h55 b52 "com/example/endcon/endcon/yaml/Cursor" "lineStart" "I" (.int (0 : Int32)) := (F_lineStart_b52.ext E55)
    have fa68 : Arv Z h55 b1 k1 .char (4 : Int32) [(.int (nar .char (13 : Int32))), (.int (nar .char (f1 p4))), (.int (nar .char ((p6 &&& (255 : Int32)).toUInt32.toUInt16.toUInt32.toInt32))), (.int (nar .char ((((p6.toUInt32 >>> ((8 : Int32) &&& 31).toUInt32).toInt32) &&& (255 : Int32)).toUInt32.toUInt16.toUInt32.toInt32)))] (.int (0 : Int32)) := ((V50.ext E52).ext E55)
    obtain ⟨_, T57, Lc57, X57, hQ57, st57⟩ := own_callI X55 hx hZ (y := (⟨"com/example/endcon/endcon/yaml/Cursor", "<init>", "(Ljava/lang/String;[CI)V"⟩ : MethodName)) rfl hown (hw _ (List.mem_of_getElem? (i := 17) rfl)) (hw _ (List.mem_of_getElem? (i := 18) rfl)) (hw _ (List.mem_of_getElem? (i := 8) rfl)) (hw _ (List.mem_of_getElem? (i := 19) rfl)) (by decide) (W := 1) (a := b52) (argsL := [(.ref sa55), (.ref b1), (.int ((1 : Int32) + (p1 &&& (3 : Int32))))]) (rest := [(.ref b52)]) (rm2 l Z a0 hw [] b52 sa55 b1 ((1 : Int32) + (p1 &&& (3 : Int32))) (nar .char (13 : Int32)) (nar .char (f1 p4)) (nar .char ((p6 &&& (255 : Int32)).toUInt32.toUInt16.toUInt32.toInt32)) (nar .char ((((p6.toUInt32 >>> ((8 : Int32) &&& 31).toUInt32).toInt32) &&& (255 : Int32)).toUInt32.toUInt16.toUInt32.toInt32)) k1 h55 n0 zs56 fa58 fa59 fa60 fa61 fa62 fa63 fa64 fa65 fa66 fa67 g_b52 fa68 (Ne.symm ne_b1_b52) (own_n4 p1) (by decide) (own_ltp p4) (own_lt1 p6) (own_lt2 p6)) (by decide) (by decide) (c' := 4) (s' := 24) rfl rfl (by decide) (by decide) e55 (g := (mkF m 130 #[.val (.int p1), .val (.int p2), .val (.int p3), .val (.int p4), .val (.int p5), .val (.int p6), .val (.int ((1 : Int32) + (p1 &&& (3 : Int32)))), .val (.int (0 : Int32)), .val (.ref b1), .val (.int (1 : Int32)), .unset, .unset, .unset, .unset] [(.int ((1 : Int32) + (p1 &&& (3 : Int32)))), (.ref b1), (.ref sa55), (.ref b52), (.ref b52)])) rfl (by rw [hml]; rfl) (lenOf pd_0_1 rfl) rfl (by show 2 * 0 + _ ≤ _; exact Nat.le_of_eq rfl) (hb hby at_130)
    obtain ⟨rfl, N57q, K57, Ec57_a1, Fc57_a1_line, Fc57_a1_blankLinesFrom, Fc57_a1_countedIndex, Fc57_a1_file, Fc57_a1_text, Fc57_a1_end, Fc57_a1_hasSurrogates, Fc57_a1_pos, Fc57_a1_lineStart⟩ := hQ57
    have N57 := Fr.app N50 N57q
    have zk69 : kk55 ≤ T57.heap.size := Nat.le_trans hkk55 K57.1
    have zs70 : n0 ≤ T57.heap.size := Nat.le_trans zs56 K57.1
    obtain ⟨_, T71, Lc71, X71, hQ71, st71⟩ := own_callV X57 hx hZ (y := (⟨"com/example/endcon/endcon/yaml/Cursor", "moveTo", "(I)V"⟩ : MethodName)) hown (hw _ (List.mem_of_getElem? (i := 43) rfl)) (hw _ (List.mem_of_getElem? (i := 44) rfl)) (hw _ (List.mem_of_getElem? (i := 46) rfl)) (hw _ (List.mem_of_getElem? (i := 45) rfl)) (hw _ (List.mem_of_getElem? (i := 8) rfl)) (hw _ (List.mem_of_getElem? (i := 47) rfl)) (by decide) (W := 0) Ec57_a1 (argsL := [(.int (0 : Int32))]) (rest := []) (rm5 l Z a0 hw [] b52 (0 : Int32) b1 ((1 : Int32) + (p1 &&& (3 : Int32))) (0 : Int32) (1 : Int32) (0 : Int32) T57.heap n0 zs70 Ec57_a1 Fc57_a1_text Fc57_a1_end Fc57_a1_pos Fc57_a1_line Fc57_a1_lineStart g_b52) (by decide) (by decide) (c' := 4) (s' := 24) rfl rfl (by decide) (by decide) rfl (g := (mkF m 139 #[.val (.int p1), .val (.int p2), .val (.int p3), .val (.int p4), .val (.int p5), .val (.int p6), .val (.int ((1 : Int32) + (p1 &&& (3 : Int32)))), .val (.int (0 : Int32)), .val (.ref b1), .val (.int (1 : Int32)), .val (.ref b52), .unset, .unset, .unset] [(.int (0 : Int32)), (.ref b52)])) rfl (by rw [hml]; rfl) (lenOf pd_0_4 rfl) rfl (by show 2 * 0 + _ ≤ _; exact Nat.le_of_eq rfl) (hb hby at_139)
    obtain ⟨rfl, N71q, K71, Ec71_a1, Fc71_a1_text, Fc71_a1_end, Fc71_a1_pos, Fc71_a1_line, Fc71_a1_lineStart⟩ := hQ71
    have N71 := Fr.app N57 N71q
    have zk72 : kk55 ≤ T71.heap.size := Nat.le_trans zk69 K71.1
    have zs73 : n0 ≤ T71.heap.size := Nat.le_trans zs70 K71.1
    have fa75 : Arv Z T71.heap b1 k1 .char (4 : Int32) [(.int (nar .char (13 : Int32))), (.int (nar .char (f1 p4))), (.int (nar .char ((p6 &&& (255 : Int32)).toUInt32.toUInt16.toUInt32.toInt32))), (.int (nar .char ((((p6.toUInt32 >>> ((8 : Int32) &&& 31).toUInt32).toInt32) &&& (255 : Int32)).toUInt32.toUInt16.toUInt32.toInt32)))] (.int (0 : Int32)) := ((fa68.keep K57 (ninS ne_b1_b52 nin0)).keep K71 (ninS ne_b1_b52 nin0))
    obtain ⟨_, T74, Lc74, X74, hQ74, st74⟩ := own_callV X71 hx hZ (y := (⟨"com/example/endcon/endcon/yaml/Cursor", "newLine", "()V"⟩ : MethodName)) hown (hw _ (List.mem_of_getElem? (i := 50) rfl)) (hw _ (List.mem_of_getElem? (i := 51) rfl)) (hw _ (List.mem_of_getElem? (i := 53) rfl)) (hw _ (List.mem_of_getElem? (i := 52) rfl)) (hw _ (List.mem_of_getElem? (i := 8) rfl)) (hw _ (List.mem_of_getElem? (i := 54) rfl)) (by decide) (W := 0) Ec71_a1 (argsL := []) (rest := []) (rm6 l Z a0 hw [] b52 b1 (nar .char (13 : Int32)) (nar .char (f1 p4)) (nar .char ((p6 &&& (255 : Int32)).toUInt32.toUInt16.toUInt32.toInt32)) (nar .char ((((p6.toUInt32 >>> ((8 : Int32) &&& 31).toUInt32).toInt32) &&& (255 : Int32)).toUInt32.toUInt16.toUInt32.toInt32)) ((1 : Int32) + (p1 &&& (3 : Int32))) (0 : Int32) (1 : Int32) (0 : Int32) k1 T71.heap n0 zs73 Ec71_a1 Fc71_a1_text Fc71_a1_end Fc71_a1_pos Fc71_a1_line Fc71_a1_lineStart g_b52 fa75 ne_b1_b52 (by decide) (by decide) (fun _ => ⟨by decide, by decide⟩)) (by decide) (by decide) (c' := 4) (s' := 24) rfl rfl (by decide) (by decide) rfl (g := (mkF m 144 #[.val (.int p1), .val (.int p2), .val (.int p3), .val (.int p4), .val (.int p5), .val (.int p6), .val (.int ((1 : Int32) + (p1 &&& (3 : Int32)))), .val (.int (0 : Int32)), .val (.ref b1), .val (.int (1 : Int32)), .val (.ref b52), .unset, .unset, .unset] [(.ref b52)])) rfl (by rw [hml]; rfl) (lenOf pd_0_2 rfl) rfl (by show 2 * 0 + _ ≤ _; exact Nat.le_of_eq rfl) (hb hby at_144)
    obtain ⟨hv74, N74q, K74, Ec74_a1, Fc74_a1_text, Fc74_a1_end, Fc74_a1_pos, Fc74_a1_line, Fc74_a1_lineStart⟩ := hQ74
    have N74 := Fr.app N71 N74q
    have pre76 : ∀ t, Steps p.tables e below (T71.setTop (mkF m 144 #[.val (.int p1), .val (.int p2), .val (.int p3), .val (.int p4), .val (.int p5), .val (.int p6), .val (.int ((1 : Int32) + (p1 &&& (3 : Int32)))), .val (.int (0 : Int32)), .val (.ref b1), .val (.int (1 : Int32)), .val (.ref b52), .unset, .unset, .unset] [(.ref b52)])) t → Steps p.tables e below (s₁.setTop (entryFrame m #[(.int p1), (.int p2), (.int p3), (.int p4), (.int p5), (.int p6)] maxLocals)) t := fun t kt => by
      refine pre54 _ ?_
      show Steps p.tables e below (T52.setTop (mkF m 124 #[.val (.int p1), .val (.int p2), .val (.int p3), .val (.int p4), .val (.int p5), .val (.int p6), .val (.int ((1 : Int32) + (p1 &&& (3 : Int32)))), .val (.int (0 : Int32)), .val (.ref b1), .val (.int (1 : Int32)), .unset, .unset, .unset, .unset] [(.ref b52), (.ref b52)])) _
      refine st55 _ ?_
      show Steps p.tables e below (T55.setTop (mkF m 126 #[.val (.int p1), .val (.int p2), .val (.int p3), .val (.int p4), .val (.int p5), .val (.int p6), .val (.int ((1 : Int32) + (p1 &&& (3 : Int32)))), .val (.int (0 : Int32)), .val (.ref b1), .val (.int (1 : Int32)), .unset, .unset, .unset, .unset] [(.ref sa55), (.ref b52), (.ref b52)])) _
      refine own_blk X55 hx bl0_126_2 (own_hb hby bd0_126_2) (pc' := 130) (Ls' := #[.val (.int p1), .val (.int p2), .val (.int p3), .val (.int p4), .val (.int p5), .val (.int p6), .val (.int ((1 : Int32) + (p1 &&& (3 : Int32)))), .val (.int (0 : Int32)), .val (.ref b1), .val (.int (1 : Int32)), .unset, .unset, .unset, .unset]) (st' := [(.int ((1 : Int32) + (p1 &&& (3 : Int32)))), (.ref b1), (.ref sa55), (.ref b52), (.ref b52)]) rfl ?_
      refine st57 _ ?_
      show Steps p.tables e below (T57.setTop (mkF m 133 #[.val (.int p1), .val (.int p2), .val (.int p3), .val (.int p4), .val (.int p5), .val (.int p6), .val (.int ((1 : Int32) + (p1 &&& (3 : Int32)))), .val (.int (0 : Int32)), .val (.ref b1), .val (.int (1 : Int32)), .unset, .unset, .unset, .unset] [(.ref b52)])) _
      refine own_blk X57 hx bl0_133_1 (own_hb hby bd0_133_1) (pc' := 135) (Ls' := #[.val (.int p1), .val (.int p2), .val (.int p3), .val (.int p4), .val (.int p5), .val (.int p6), .val (.int ((1 : Int32) + (p1 &&& (3 : Int32)))), .val (.int (0 : Int32)), .val (.ref b1), .val (.int (1 : Int32)), .val (.ref b52), .unset, .unset, .unset]) (st' := []) rfl ?_
      refine own_blk X57 hx bl0_135_2 (own_hb hby bd0_135_2) (pc' := 139) (Ls' := #[.val (.int p1), .val (.int p2), .val (.int p3), .val (.int p4), .val (.int p5), .val (.int p6), .val (.int ((1 : Int32) + (p1 &&& (3 : Int32)))), .val (.int (0 : Int32)), .val (.ref b1), .val (.int (1 : Int32)), .val (.ref b52), .unset, .unset, .unset]) (st' := [(.int (0 : Int32)), (.ref b52)]) rfl ?_
      refine st71 _ ?_
      show Steps p.tables e below (T71.setTop (mkF m 142 #[.val (.int p1), .val (.int p2), .val (.int p3), .val (.int p4), .val (.int p5), .val (.int p6), .val (.int ((1 : Int32) + (p1 &&& (3 : Int32)))), .val (.int (0 : Int32)), .val (.ref b1), .val (.int (1 : Int32)), .val (.ref b52), .unset, .unset, .unset] [])) _
      refine own_blk X71 hx bl0_142_1 (own_hb hby bd0_142_1) (pc' := 144) (Ls' := #[.val (.int p1), .val (.int p2), .val (.int p3), .val (.int p4), .val (.int p5), .val (.int p6), .val (.int ((1 : Int32) + (p1 &&& (3 : Int32)))), .val (.int (0 : Int32)), .val (.ref b1), .val (.int (1 : Int32)), .val (.ref b52), .unset, .unset, .unset]) (st' := [(.ref b52)]) rfl ?_
      exact kt
    by_cases hc77 : (1 : Int32) = ((1 : Int32) + (p1 &&& (3 : Int32)))
    · subst hv74
      have lFc74_a1_pos : Fld Z T74.heap b52 "com/example/endcon/endcon/yaml/Cursor" "pos" "I" (.int ((0 : Int32) + (1 : Int32))) := by have q := Fc74_a1_pos; rw [f6_a1_pos, if_pos (show (own_at4 (nar .char (13 : Int32)) (nar .char (f1 p4)) (nar .char ((p6 &&& (255 : Int32)).toUInt32.toUInt16.toUInt32.toInt32)) (nar .char ((((p6.toUInt32 >>> ((8 : Int32) &&& 31).toUInt32).toInt32) &&& (255 : Int32)).toUInt32.toUInt16.toUInt32.toInt32)) (0 : Int32)) = (13 : Int32) from (by decide : (nar .char (13 : Int32)) = (13 : Int32))), if_pos (show ((0 : Int32) + (1 : Int32)) = ((1 : Int32) + (p1 &&& (3 : Int32))) from hc77), if_neg (show ¬ (((0 : Int32) + (1 : Int32)) < ((1 : Int32) + (p1 &&& (3 : Int32)))) from (own_eqlt hc77))] at q; exact q
      have lFc74_a1_line : Fld Z T74.heap b52 "com/example/endcon/endcon/yaml/Cursor" "line" "I" (.int (1 : Int32)) := by have q := Fc74_a1_line; rw [f6_a1_line, if_pos (show (own_at4 (nar .char (13 : Int32)) (nar .char (f1 p4)) (nar .char ((p6 &&& (255 : Int32)).toUInt32.toUInt16.toUInt32.toInt32)) (nar .char ((((p6.toUInt32 >>> ((8 : Int32) &&& 31).toUInt32).toInt32) &&& (255 : Int32)).toUInt32.toUInt16.toUInt32.toInt32)) (0 : Int32)) = (13 : Int32) from (by decide : (nar .char (13 : Int32)) = (13 : Int32))), if_pos (show ((0 : Int32) + (1 : Int32)) = ((1 : Int32) + (p1 &&& (3 : Int32))) from hc77), if_neg (show ¬ (((0 : Int32) + (1 : Int32)) < ((1 : Int32) + (p1 &&& (3 : Int32)))) from (own_eqlt hc77))] at q; exact q
      have lFc74_a1_lineStart : Fld Z T74.heap b52 "com/example/endcon/endcon/yaml/Cursor" "lineStart" "I" (.int (0 : Int32)) := by have q := Fc74_a1_lineStart; rw [f6_a1_lineStart, if_pos (show (own_at4 (nar .char (13 : Int32)) (nar .char (f1 p4)) (nar .char ((p6 &&& (255 : Int32)).toUInt32.toUInt16.toUInt32.toInt32)) (nar .char ((((p6.toUInt32 >>> ((8 : Int32) &&& 31).toUInt32).toInt32) &&& (255 : Int32)).toUInt32.toUInt16.toUInt32.toInt32)) (0 : Int32)) = (13 : Int32) from (by decide : (nar .char (13 : Int32)) = (13 : Int32))), if_pos (show ((0 : Int32) + (1 : Int32)) = ((1 : Int32) + (p1 &&& (3 : Int32))) from hc77), if_neg (show ¬ (((0 : Int32) + (1 : Int32)) < ((1 : Int32) + (p1 &&& (3 : Int32)))) from (own_eqlt hc77))] at q; exact q
      have zk78 : kk55 ≤ T74.heap.size := Nat.le_trans zk72 K74.1
      have zs79 : n0 ≤ T74.heap.size := Nat.le_trans zs73 K74.1
      obtain ⟨_, T80, Lc80, X80, hQ80, st80⟩ := own_callV X74 hx hZ (y := (⟨"com/example/endcon/endcon/yaml/Cursor", "index", "()I"⟩ : MethodName)) hown (hw _ (List.mem_of_getElem? (i := 57) rfl)) (hw _ (List.mem_of_getElem? (i := 58) rfl)) (hw _ (List.mem_of_getElem? (i := 60) rfl)) (hw _ (List.mem_of_getElem? (i := 59) rfl)) (hw _ (List.mem_of_getElem? (i := 8) rfl)) (hw _ (List.mem_of_getElem? (i := 61) rfl)) (by decide) (W := 0) Ec74_a1 (argsL := []) (rest := []) (rm7 l Z a0 hw [] b52 ((0 : Int32) + (1 : Int32)) T74.heap n0 zs79 Ec74_a1 lFc74_a1_pos) (by decide) (by decide) (c' := 4) (s' := 24) rfl rfl (by decide) (by decide) rfl (g := (mkF m 237 #[.val (.int p1), .val (.int p2), .val (.int p3), .val (.int p4), .val (.int p5), .val (.int p6), .val (.int ((1 : Int32) + (p1 &&& (3 : Int32)))), .val (.int (0 : Int32)), .val (.ref b1), .val (.int (1 : Int32)), .val (.ref b52), .val (.int (1 : Int32)), .val (.int (1 : Int32)), .val (.int (0 : Int32))] [(.ref b52)])) rfl (by rw [hml]; rfl) (lenOf pd_0_5 rfl) rfl (by show 2 * 0 + _ ≤ _; exact Nat.le_of_eq rfl) (hb hby at_237)
      obtain ⟨hv80, N80q, e80⟩ := hQ80
      have N80 := Fr.app N74 N80q
      rw [f7] at hv80
      subst hv80
      obtain ⟨_, T81, Lc81, X81, hQ81, st81⟩ := own_callV X80 hx hZ (y := (⟨"com/example/endcon/endcon/yaml/Cursor", "line", "()I"⟩ : MethodName)) hown (hw _ (List.mem_of_getElem? (i := 62) rfl)) (hw _ (List.mem_of_getElem? (i := 63) rfl)) (hw _ (List.mem_of_getElem? (i := 65) rfl)) (hw _ (List.mem_of_getElem? (i := 64) rfl)) (hw _ (List.mem_of_getElem? (i := 8) rfl)) (hw _ (List.mem_of_getElem? (i := 66) rfl)) (by decide) (W := 0) Ec74_a1 (argsL := []) (rest := []) (rm8 l Z a0 hw [] b52 (1 : Int32) T74.heap n0 zs79 Ec74_a1 lFc74_a1_line) (by decide) (by decide) (c' := 4) (s' := 24) rfl rfl (by decide) (by decide) e80 (g := (mkF m 247 #[.val (.int p1), .val (.int p2), .val (.int p3), .val (.int p4), .val (.int p5), .val (.int p6), .val (.int ((1 : Int32) + (p1 &&& (3 : Int32)))), .val (.int (0 : Int32)), .val (.ref b1), .val (.int (1 : Int32)), .val (.ref b52), .val (.int (1 : Int32)), .val (.int (1 : Int32)), .val (.int (0 : Int32))] [(.ref b52)])) rfl (by rw [hml]; rfl) (lenOf pd_0_5 rfl) rfl (by show 2 * 0 + _ ≤ _; exact Nat.le_of_eq rfl) (hb hby at_247)
      obtain ⟨hv81, N81q, e81⟩ := hQ81
      have N81 := Fr.app N80 N81q
      rw [f8] at hv81
      subst hv81
      obtain ⟨_, T82, Lc82, X82, hQ82, st82⟩ := own_callV X81 hx hZ (y := (⟨"com/example/endcon/endcon/yaml/Cursor", "lineStart", "()I"⟩ : MethodName)) hown (hw _ (List.mem_of_getElem? (i := 67) rfl)) (hw _ (List.mem_of_getElem? (i := 68) rfl)) (hw _ (List.mem_of_getElem? (i := 70) rfl)) (hw _ (List.mem_of_getElem? (i := 69) rfl)) (hw _ (List.mem_of_getElem? (i := 8) rfl)) (hw _ (List.mem_of_getElem? (i := 71) rfl)) (by decide) (W := 0) Ec74_a1 (argsL := []) (rest := []) (rm9 l Z a0 hw [] b52 (0 : Int32) T74.heap n0 zs79 Ec74_a1 lFc74_a1_lineStart) (by decide) (by decide) (c' := 4) (s' := 24) rfl rfl (by decide) (by decide) e81 (g := (mkF m 257 #[.val (.int p1), .val (.int p2), .val (.int p3), .val (.int p4), .val (.int p5), .val (.int p6), .val (.int ((1 : Int32) + (p1 &&& (3 : Int32)))), .val (.int (0 : Int32)), .val (.ref b1), .val (.int (1 : Int32)), .val (.ref b52), .val (.int (1 : Int32)), .val (.int (1 : Int32)), .val (.int (0 : Int32))] [(.ref b52)])) rfl (by rw [hml]; rfl) (lenOf pd_0_5 rfl) rfl (by show 2 * 0 + _ ≤ _; exact Nat.le_of_eq rfl) (hb hby at_257)
      obtain ⟨hv82, N82q, e82⟩ := hQ82
      have N82 := Fr.app N81 N82q
      rw [f9] at hv82
      subst hv82
      obtain ⟨fs, hr, hrun, hended, hRW⟩ := X82.leaveW (s := s) hS55 (by rw [e82]; exact zk78) (v := some (.int (1 : Int32))) (fun h => by rw [Bd.returns] at h; cases h)
      refine ⟨_, _, pre76 _ ?_, hrun, hended, _, _, rfl, ?_, ⟨_, rfl⟩, hRW.2.1, hRW.2.2.1, hRW.2.2.2.mono (by decide) (by decide)⟩
      · refine st74 _ ?_
        show Steps p.tables e below (T74.setTop (mkF m 147 #[.val (.int p1), .val (.int p2), .val (.int p3), .val (.int p4), .val (.int p5), .val (.int p6), .val (.int ((1 : Int32) + (p1 &&& (3 : Int32)))), .val (.int (0 : Int32)), .val (.ref b1), .val (.int (1 : Int32)), .val (.ref b52), .unset, .unset, .unset] [])) _
        refine own_blk X74 hx bl0_147_1 (own_hb hby bd0_147_1) (pc' := 149) (Ls' := #[.val (.int p1), .val (.int p2), .val (.int p3), .val (.int p4), .val (.int p5), .val (.int p6), .val (.int ((1 : Int32) + (p1 &&& (3 : Int32)))), .val (.int (0 : Int32)), .val (.ref b1), .val (.int (1 : Int32)), .val (.ref b52), .unset, .unset, .unset]) (st' := [(.int (1 : Int32))]) rfl ?_
        refine XS.ifNo X74.here hx rfl (hb hby at_149) rfl ((if0 _ _).trans (feq (by decide : ¬ ((1 : Int32) = (0 : Int32)))).1) ?_
        show Steps p.tables e below (T74.setTop (mkF m 152 #[.val (.int p1), .val (.int p2), .val (.int p3), .val (.int p4), .val (.int p5), .val (.int p6), .val (.int ((1 : Int32) + (p1 &&& (3 : Int32)))), .val (.int (0 : Int32)), .val (.ref b1), .val (.int (1 : Int32)), .val (.ref b52), .unset, .unset, .unset] [])) _
        refine own_blk X74 hx bl0_152_4 (own_hb hby bd0_152_4) (pc' := 158) (Ls' := #[.val (.int p1), .val (.int p2), .val (.int p3), .val (.int p4), .val (.int p5), .val (.int p6), .val (.int ((1 : Int32) + (p1 &&& (3 : Int32)))), .val (.int (0 : Int32)), .val (.ref b1), .val (.int (1 : Int32)), .val (.ref b52), .unset, .unset, .unset]) (st' := [(.int ((1 : Int32) + (p1 &&& (3 : Int32)))), (.int (1 : Int32))]) rfl ?_
        refine XS.icmpNo X74.here hx rfl (hb hby at_158) rfl (teq hc77).2 ?_
        show Steps p.tables e below (T74.setTop (mkF m 161 #[.val (.int p1), .val (.int p2), .val (.int p3), .val (.int p4), .val (.int p5), .val (.int p6), .val (.int ((1 : Int32) + (p1 &&& (3 : Int32)))), .val (.int (0 : Int32)), .val (.ref b1), .val (.int (1 : Int32)), .val (.ref b52), .unset, .unset, .unset] [])) _
        refine own_blk X74 hx bl0_161_4 (own_hb hby bd0_161_4) (pc' := 167) (Ls' := #[.val (.int p1), .val (.int p2), .val (.int p3), .val (.int p4), .val (.int p5), .val (.int p6), .val (.int ((1 : Int32) + (p1 &&& (3 : Int32)))), .val (.int (0 : Int32)), .val (.ref b1), .val (.int (1 : Int32)), .val (.ref b52), .val (.int (1 : Int32)), .unset, .unset]) (st' := []) rfl ?_
        refine own_blk X74 hx bl0_167_2 (own_hb hby bd0_167_2) (pc' := 170) (Ls' := #[.val (.int p1), .val (.int p2), .val (.int p3), .val (.int p4), .val (.int p5), .val (.int p6), .val (.int ((1 : Int32) + (p1 &&& (3 : Int32)))), .val (.int (0 : Int32)), .val (.ref b1), .val (.int (1 : Int32)), .val (.ref b52), .val (.int (1 : Int32)), .val (.int (1 : Int32)), .unset]) (st' := []) rfl ?_
        refine own_blk X74 hx bl0_170_2 (own_hb hby bd0_170_2) (pc' := 173) (Ls' := #[.val (.int p1), .val (.int p2), .val (.int p3), .val (.int p4), .val (.int p5), .val (.int p6), .val (.int ((1 : Int32) + (p1 &&& (3 : Int32)))), .val (.int (0 : Int32)), .val (.ref b1), .val (.int (1 : Int32)), .val (.ref b52), .val (.int (1 : Int32)), .val (.int (1 : Int32)), .val (.int (0 : Int32))]) (st' := []) rfl ?_
        refine own_blk X74 hx bl0_173_2 (own_hb hby bd0_173_2) (pc' := 237) (Ls' := #[.val (.int p1), .val (.int p2), .val (.int p3), .val (.int p4), .val (.int p5), .val (.int p6), .val (.int ((1 : Int32) + (p1 &&& (3 : Int32)))), .val (.int (0 : Int32)), .val (.ref b1), .val (.int (1 : Int32)), .val (.ref b52), .val (.int (1 : Int32)), .val (.int (1 : Int32)), .val (.int (0 : Int32))]) (st' := [(.ref b52)]) rfl ?_
        refine st80 _ ?_
        show Steps p.tables e below (T80.setTop (mkF m 240 #[.val (.int p1), .val (.int p2), .val (.int p3), .val (.int p4), .val (.int p5), .val (.int p6), .val (.int ((1 : Int32) + (p1 &&& (3 : Int32)))), .val (.int (0 : Int32)), .val (.ref b1), .val (.int (1 : Int32)), .val (.ref b52), .val (.int (1 : Int32)), .val (.int (1 : Int32)), .val (.int (0 : Int32))] [(.int ((0 : Int32) + (1 : Int32)))])) _
        refine own_blk X80 hx bl0_240_1 (own_hb hby bd0_240_1) (pc' := 242) (Ls' := #[.val (.int p1), .val (.int p2), .val (.int p3), .val (.int p4), .val (.int p5), .val (.int p6), .val (.int ((1 : Int32) + (p1 &&& (3 : Int32)))), .val (.int (0 : Int32)), .val (.ref b1), .val (.int (1 : Int32)), .val (.ref b52), .val (.int (1 : Int32)), .val (.int (1 : Int32)), .val (.int (0 : Int32))]) (st' := [(.int (1 : Int32)), (.int ((0 : Int32) + (1 : Int32)))]) rfl ?_
        refine XS.icmpNo X80.here hx rfl (hb hby at_242) rfl (teq (show ((0 : Int32) + (1 : Int32)) = (1 : Int32) from (by decide : (1 : Int32) = (1 : Int32)))).2 ?_
        show Steps p.tables e below (T80.setTop (mkF m 245 #[.val (.int p1), .val (.int p2), .val (.int p3), .val (.int p4), .val (.int p5), .val (.int p6), .val (.int ((1 : Int32) + (p1 &&& (3 : Int32)))), .val (.int (0 : Int32)), .val (.ref b1), .val (.int (1 : Int32)), .val (.ref b52), .val (.int (1 : Int32)), .val (.int (1 : Int32)), .val (.int (0 : Int32))] [])) _
        refine own_blk X80 hx bl0_245_1 (own_hb hby bd0_245_1) (pc' := 247) (Ls' := #[.val (.int p1), .val (.int p2), .val (.int p3), .val (.int p4), .val (.int p5), .val (.int p6), .val (.int ((1 : Int32) + (p1 &&& (3 : Int32)))), .val (.int (0 : Int32)), .val (.ref b1), .val (.int (1 : Int32)), .val (.ref b52), .val (.int (1 : Int32)), .val (.int (1 : Int32)), .val (.int (0 : Int32))]) (st' := [(.ref b52)]) rfl ?_
        refine st81 _ ?_
        show Steps p.tables e below (T81.setTop (mkF m 250 #[.val (.int p1), .val (.int p2), .val (.int p3), .val (.int p4), .val (.int p5), .val (.int p6), .val (.int ((1 : Int32) + (p1 &&& (3 : Int32)))), .val (.int (0 : Int32)), .val (.ref b1), .val (.int (1 : Int32)), .val (.ref b52), .val (.int (1 : Int32)), .val (.int (1 : Int32)), .val (.int (0 : Int32))] [(.int (1 : Int32))])) _
        refine own_blk X81 hx bl0_250_1 (own_hb hby bd0_250_1) (pc' := 252) (Ls' := #[.val (.int p1), .val (.int p2), .val (.int p3), .val (.int p4), .val (.int p5), .val (.int p6), .val (.int ((1 : Int32) + (p1 &&& (3 : Int32)))), .val (.int (0 : Int32)), .val (.ref b1), .val (.int (1 : Int32)), .val (.ref b52), .val (.int (1 : Int32)), .val (.int (1 : Int32)), .val (.int (0 : Int32))]) (st' := [(.int (1 : Int32)), (.int (1 : Int32))]) rfl ?_
        refine XS.icmpNo X81.here hx rfl (hb hby at_252) rfl (teq (by decide : (1 : Int32) = (1 : Int32))).2 ?_
        show Steps p.tables e below (T81.setTop (mkF m 255 #[.val (.int p1), .val (.int p2), .val (.int p3), .val (.int p4), .val (.int p5), .val (.int p6), .val (.int ((1 : Int32) + (p1 &&& (3 : Int32)))), .val (.int (0 : Int32)), .val (.ref b1), .val (.int (1 : Int32)), .val (.ref b52), .val (.int (1 : Int32)), .val (.int (1 : Int32)), .val (.int (0 : Int32))] [])) _
        refine own_blk X81 hx bl0_255_1 (own_hb hby bd0_255_1) (pc' := 257) (Ls' := #[.val (.int p1), .val (.int p2), .val (.int p3), .val (.int p4), .val (.int p5), .val (.int p6), .val (.int ((1 : Int32) + (p1 &&& (3 : Int32)))), .val (.int (0 : Int32)), .val (.ref b1), .val (.int (1 : Int32)), .val (.ref b52), .val (.int (1 : Int32)), .val (.int (1 : Int32)), .val (.int (0 : Int32))]) (st' := [(.ref b52)]) rfl ?_
        refine st82 _ ?_
        show Steps p.tables e below (T82.setTop (mkF m 260 #[.val (.int p1), .val (.int p2), .val (.int p3), .val (.int p4), .val (.int p5), .val (.int p6), .val (.int ((1 : Int32) + (p1 &&& (3 : Int32)))), .val (.int (0 : Int32)), .val (.ref b1), .val (.int (1 : Int32)), .val (.ref b52), .val (.int (1 : Int32)), .val (.int (1 : Int32)), .val (.int (0 : Int32))] [(.int (0 : Int32))])) _
        refine own_blk X82 hx bl0_260_1 (own_hb hby bd0_260_1) (pc' := 262) (Ls' := #[.val (.int p1), .val (.int p2), .val (.int p3), .val (.int p4), .val (.int p5), .val (.int p6), .val (.int ((1 : Int32) + (p1 &&& (3 : Int32)))), .val (.int (0 : Int32)), .val (.ref b1), .val (.int (1 : Int32)), .val (.ref b52), .val (.int (1 : Int32)), .val (.int (1 : Int32)), .val (.int (0 : Int32))]) (st' := [(.int (0 : Int32)), (.int (0 : Int32))]) rfl ?_
        refine XS.icmpNo X82.here hx rfl (hb hby at_262) rfl (teq (by decide : (0 : Int32) = (0 : Int32))).2 ?_
        show Steps p.tables e below (T82.setTop (mkF m 265 #[.val (.int p1), .val (.int p2), .val (.int p3), .val (.int p4), .val (.int p5), .val (.int p6), .val (.int ((1 : Int32) + (p1 &&& (3 : Int32)))), .val (.int (0 : Int32)), .val (.ref b1), .val (.int (1 : Int32)), .val (.ref b52), .val (.int (1 : Int32)), .val (.int (1 : Int32)), .val (.int (0 : Int32))] [])) _
        refine own_blk X82 hx bl0_265_2 (own_hb hby bd0_265_2) (pc' := 270) (Ls' := #[.val (.int p1), .val (.int p2), .val (.int p3), .val (.int p4), .val (.int p5), .val (.int p6), .val (.int ((1 : Int32) + (p1 &&& (3 : Int32)))), .val (.int (0 : Int32)), .val (.ref b1), .val (.int (1 : Int32)), .val (.ref b52), .val (.int (1 : Int32)), .val (.int (1 : Int32)), .val (.int (0 : Int32))]) (st' := [(.int (1 : Int32))]) rfl ?_
        exact retN X82 hx (t := .boolean) Bd.returns (by simp) (hb hby at_270) hr
      · show Q0_0 Z p1 p2 p3 p4 p5 p6 h0 n0 _ T82.heap _
        rw [e82]
        exact ⟨by rw [f0_0, if_neg hc12, if_pos hc77], N82⟩
    · by_cases hc83 : (nar .char (f1 p4)) = (10 : Int32)
      · subst hv74
        have lFc74_a1_pos : Fld Z T74.heap b52 "com/example/endcon/endcon/yaml/Cursor" "pos" "I" (.int ((0 : Int32) + (2 : Int32))) := by have q := Fc74_a1_pos; rw [f6_a1_pos, if_pos (show (own_at4 (nar .char (13 : Int32)) (nar .char (f1 p4)) (nar .char ((p6 &&& (255 : Int32)).toUInt32.toUInt16.toUInt32.toInt32)) (nar .char ((((p6.toUInt32 >>> ((8 : Int32) &&& 31).toUInt32).toInt32) &&& (255 : Int32)).toUInt32.toUInt16.toUInt32.toInt32)) (0 : Int32)) = (13 : Int32) from (by decide : (nar .char (13 : Int32)) = (13 : Int32))), if_neg (show ¬ (((0 : Int32) + (1 : Int32)) = ((1 : Int32) + (p1 &&& (3 : Int32)))) from hc77), if_pos (show ((0 : Int32) + (1 : Int32)) < ((1 : Int32) + (p1 &&& (3 : Int32))) from (own_nelt (own_pn p1 p2 hn) hc77)), if_pos (show (own_at4 (nar .char (13 : Int32)) (nar .char (f1 p4)) (nar .char ((p6 &&& (255 : Int32)).toUInt32.toUInt16.toUInt32.toInt32)) (nar .char ((((p6.toUInt32 >>> ((8 : Int32) &&& 31).toUInt32).toInt32) &&& (255 : Int32)).toUInt32.toUInt16.toUInt32.toInt32)) ((0 : Int32) + (1 : Int32))) = (10 : Int32) from hc83)] at q; exact q
        have lFc74_a1_line : Fld Z T74.heap b52 "com/example/endcon/endcon/yaml/Cursor" "line" "I" (.int ((1 : Int32) + (1 : Int32))) := by have q := Fc74_a1_line; rw [f6_a1_line, if_pos (show (own_at4 (nar .char (13 : Int32)) (nar .char (f1 p4)) (nar .char ((p6 &&& (255 : Int32)).toUInt32.toUInt16.toUInt32.toInt32)) (nar .char ((((p6.toUInt32 >>> ((8 : Int32) &&& 31).toUInt32).toInt32) &&& (255 : Int32)).toUInt32.toUInt16.toUInt32.toInt32)) (0 : Int32)) = (13 : Int32) from (by decide : (nar .char (13 : Int32)) = (13 : Int32))), if_neg (show ¬ (((0 : Int32) + (1 : Int32)) = ((1 : Int32) + (p1 &&& (3 : Int32)))) from hc77), if_pos (show ((0 : Int32) + (1 : Int32)) < ((1 : Int32) + (p1 &&& (3 : Int32))) from (own_nelt (own_pn p1 p2 hn) hc77)), if_pos (show (own_at4 (nar .char (13 : Int32)) (nar .char (f1 p4)) (nar .char ((p6 &&& (255 : Int32)).toUInt32.toUInt16.toUInt32.toInt32)) (nar .char ((((p6.toUInt32 >>> ((8 : Int32) &&& 31).toUInt32).toInt32) &&& (255 : Int32)).toUInt32.toUInt16.toUInt32.toInt32)) ((0 : Int32) + (1 : Int32))) = (10 : Int32) from hc83)] at q; exact q
        have lFc74_a1_lineStart : Fld Z T74.heap b52 "com/example/endcon/endcon/yaml/Cursor" "lineStart" "I" (.int ((0 : Int32) + (2 : Int32))) := by have q := Fc74_a1_lineStart; rw [f6_a1_lineStart, if_pos (show (own_at4 (nar .char (13 : Int32)) (nar .char (f1 p4)) (nar .char ((p6 &&& (255 : Int32)).toUInt32.toUInt16.toUInt32.toInt32)) (nar .char ((((p6.toUInt32 >>> ((8 : Int32) &&& 31).toUInt32).toInt32) &&& (255 : Int32)).toUInt32.toUInt16.toUInt32.toInt32)) (0 : Int32)) = (13 : Int32) from (by decide : (nar .char (13 : Int32)) = (13 : Int32))), if_neg (show ¬ (((0 : Int32) + (1 : Int32)) = ((1 : Int32) + (p1 &&& (3 : Int32)))) from hc77), if_pos (show ((0 : Int32) + (1 : Int32)) < ((1 : Int32) + (p1 &&& (3 : Int32))) from (own_nelt (own_pn p1 p2 hn) hc77)), if_pos (show (own_at4 (nar .char (13 : Int32)) (nar .char (f1 p4)) (nar .char ((p6 &&& (255 : Int32)).toUInt32.toUInt16.toUInt32.toInt32)) (nar .char ((((p6.toUInt32 >>> ((8 : Int32) &&& 31).toUInt32).toInt32) &&& (255 : Int32)).toUInt32.toUInt16.toUInt32.toInt32)) ((0 : Int32) + (1 : Int32))) = (10 : Int32) from hc83)] at q; exact q
        have zk84 : kk55 ≤ T74.heap.size := Nat.le_trans zk72 K74.1
        have zs85 : n0 ≤ T74.heap.size := Nat.le_trans zs73 K74.1
        have fa86 : Arv Z T74.heap b1 k1 .char (4 : Int32) [(.int (nar .char (13 : Int32))), (.int (nar .char (f1 p4))), (.int (nar .char ((p6 &&& (255 : Int32)).toUInt32.toUInt16.toUInt32.toInt32))), (.int (nar .char ((((p6.toUInt32 >>> ((8 : Int32) &&& 31).toUInt32).toInt32) &&& (255 : Int32)).toUInt32.toUInt16.toUInt32.toInt32)))] (.int (0 : Int32)) := (fa75.keep K74 (ninS ne_b1_b52 nin0))
        obtain ⟨cx87, Ar87, qq87, S87, N87_, H87, G87⟩ := id fa86
        have hin87 : ¬ ((1 : Int32) < 0 ∨ cx87.slots.size ≤ ((1 : Int32)).toNatClampNeg) := inb_of S87 ⟨by decide, by decide⟩
        have hat87 : cx87.slots[((1 : Int32)).toNatClampNeg]? = some (.int (nar .char (f1 p4))) := (H87 ((1 : Int32)).toNatClampNeg (Nat.lt_of_not_le fun w => hin87 (Or.inr w))).trans (congrArg some (rfl))
        obtain ⟨_, T88, Lc88, X88, hQ88, st88⟩ := own_callV X74 hx hZ (y := (⟨"com/example/endcon/endcon/yaml/Cursor", "index", "()I"⟩ : MethodName)) hown (hw _ (List.mem_of_getElem? (i := 57) rfl)) (hw _ (List.mem_of_getElem? (i := 58) rfl)) (hw _ (List.mem_of_getElem? (i := 60) rfl)) (hw _ (List.mem_of_getElem? (i := 59) rfl)) (hw _ (List.mem_of_getElem? (i := 8) rfl)) (hw _ (List.mem_of_getElem? (i := 61) rfl)) (by decide) (W := 0) Ec74_a1 (argsL := []) (rest := []) (rm7 l Z a0 hw [] b52 ((0 : Int32) + (2 : Int32)) T74.heap n0 zs85 Ec74_a1 lFc74_a1_pos) (by decide) (by decide) (c' := 4) (s' := 24) rfl rfl (by decide) (by decide) rfl (g := (mkF m 237 #[.val (.int p1), .val (.int p2), .val (.int p3), .val (.int p4), .val (.int p5), .val (.int p6), .val (.int ((1 : Int32) + (p1 &&& (3 : Int32)))), .val (.int (0 : Int32)), .val (.ref b1), .val (.int (1 : Int32)), .val (.ref b52), .val (.int (2 : Int32)), .val (.int (2 : Int32)), .val (.int (2 : Int32))] [(.ref b52)])) rfl (by rw [hml]; rfl) (lenOf pd_0_5 rfl) rfl (by show 2 * 0 + _ ≤ _; exact Nat.le_of_eq rfl) (hb hby at_237)
        obtain ⟨hv88, N88q, e88⟩ := hQ88
        have N88 := Fr.app N74 N88q
        rw [f7] at hv88
        subst hv88
        obtain ⟨_, T89, Lc89, X89, hQ89, st89⟩ := own_callV X88 hx hZ (y := (⟨"com/example/endcon/endcon/yaml/Cursor", "line", "()I"⟩ : MethodName)) hown (hw _ (List.mem_of_getElem? (i := 62) rfl)) (hw _ (List.mem_of_getElem? (i := 63) rfl)) (hw _ (List.mem_of_getElem? (i := 65) rfl)) (hw _ (List.mem_of_getElem? (i := 64) rfl)) (hw _ (List.mem_of_getElem? (i := 8) rfl)) (hw _ (List.mem_of_getElem? (i := 66) rfl)) (by decide) (W := 0) Ec74_a1 (argsL := []) (rest := []) (rm8 l Z a0 hw [] b52 ((1 : Int32) + (1 : Int32)) T74.heap n0 zs85 Ec74_a1 lFc74_a1_line) (by decide) (by decide) (c' := 4) (s' := 24) rfl rfl (by decide) (by decide) e88 (g := (mkF m 247 #[.val (.int p1), .val (.int p2), .val (.int p3), .val (.int p4), .val (.int p5), .val (.int p6), .val (.int ((1 : Int32) + (p1 &&& (3 : Int32)))), .val (.int (0 : Int32)), .val (.ref b1), .val (.int (1 : Int32)), .val (.ref b52), .val (.int (2 : Int32)), .val (.int (2 : Int32)), .val (.int (2 : Int32))] [(.ref b52)])) rfl (by rw [hml]; rfl) (lenOf pd_0_5 rfl) rfl (by show 2 * 0 + _ ≤ _; exact Nat.le_of_eq rfl) (hb hby at_247)
        obtain ⟨hv89, N89q, e89⟩ := hQ89
        have N89 := Fr.app N88 N89q
        rw [f8] at hv89
        subst hv89
        obtain ⟨_, T90, Lc90, X90, hQ90, st90⟩ := own_callV X89 hx hZ (y := (⟨"com/example/endcon/endcon/yaml/Cursor", "lineStart", "()I"⟩ : MethodName)) hown (hw _ (List.mem_of_getElem? (i := 67) rfl)) (hw _ (List.mem_of_getElem? (i := 68) rfl)) (hw _ (List.mem_of_getElem? (i := 70) rfl)) (hw _ (List.mem_of_getElem? (i := 69) rfl)) (hw _ (List.mem_of_getElem? (i := 8) rfl)) (hw _ (List.mem_of_getElem? (i := 71) rfl)) (by decide) (W := 0) Ec74_a1 (argsL := []) (rest := []) (rm9 l Z a0 hw [] b52 ((0 : Int32) + (2 : Int32)) T74.heap n0 zs85 Ec74_a1 lFc74_a1_lineStart) (by decide) (by decide) (c' := 4) (s' := 24) rfl rfl (by decide) (by decide) e89 (g := (mkF m 257 #[.val (.int p1), .val (.int p2), .val (.int p3), .val (.int p4), .val (.int p5), .val (.int p6), .val (.int ((1 : Int32) + (p1 &&& (3 : Int32)))), .val (.int (0 : Int32)), .val (.ref b1), .val (.int (1 : Int32)), .val (.ref b52), .val (.int (2 : Int32)), .val (.int (2 : Int32)), .val (.int (2 : Int32))] [(.ref b52)])) rfl (by rw [hml]; rfl) (lenOf pd_0_5 rfl) rfl (by show 2 * 0 + _ ≤ _; exact Nat.le_of_eq rfl) (hb hby at_257)
        obtain ⟨hv90, N90q, e90⟩ := hQ90
        have N90 := Fr.app N89 N90q
        rw [f9] at hv90
        subst hv90
        obtain ⟨fs, hr, hrun, hended, hRW⟩ := X90.leaveW (s := s) hS55 (by rw [e90]; exact zk84) (v := some (.int (1 : Int32))) (fun h => by rw [Bd.returns] at h; cases h)
        refine ⟨_, _, pre76 _ ?_, hrun, hended, _, _, rfl, ?_, ⟨_, rfl⟩, hRW.2.1, hRW.2.2.1, hRW.2.2.2.mono (by decide) (by decide)⟩
        · refine st74 _ ?_
          show Steps p.tables e below (T74.setTop (mkF m 147 #[.val (.int p1), .val (.int p2), .val (.int p3), .val (.int p4), .val (.int p5), .val (.int p6), .val (.int ((1 : Int32) + (p1 &&& (3 : Int32)))), .val (.int (0 : Int32)), .val (.ref b1), .val (.int (1 : Int32)), .val (.ref b52), .unset, .unset, .unset] [])) _
          refine own_blk X74 hx bl0_147_1 (own_hb hby bd0_147_1) (pc' := 149) (Ls' := #[.val (.int p1), .val (.int p2), .val (.int p3), .val (.int p4), .val (.int p5), .val (.int p6), .val (.int ((1 : Int32) + (p1 &&& (3 : Int32)))), .val (.int (0 : Int32)), .val (.ref b1), .val (.int (1 : Int32)), .val (.ref b52), .unset, .unset, .unset]) (st' := [(.int (1 : Int32))]) rfl ?_
          refine XS.ifNo X74.here hx rfl (hb hby at_149) rfl ((if0 _ _).trans (feq (by decide : ¬ ((1 : Int32) = (0 : Int32)))).1) ?_
          show Steps p.tables e below (T74.setTop (mkF m 152 #[.val (.int p1), .val (.int p2), .val (.int p3), .val (.int p4), .val (.int p5), .val (.int p6), .val (.int ((1 : Int32) + (p1 &&& (3 : Int32)))), .val (.int (0 : Int32)), .val (.ref b1), .val (.int (1 : Int32)), .val (.ref b52), .unset, .unset, .unset] [])) _
          refine own_blk X74 hx bl0_152_4 (own_hb hby bd0_152_4) (pc' := 158) (Ls' := #[.val (.int p1), .val (.int p2), .val (.int p3), .val (.int p4), .val (.int p5), .val (.int p6), .val (.int ((1 : Int32) + (p1 &&& (3 : Int32)))), .val (.int (0 : Int32)), .val (.ref b1), .val (.int (1 : Int32)), .val (.ref b52), .unset, .unset, .unset]) (st' := [(.int ((1 : Int32) + (p1 &&& (3 : Int32)))), (.int (1 : Int32))]) rfl ?_
          refine XS.icmpYes X74.here hx rfl (pc0 := 158) (pc' := 176) rfl (hb hby at_158) rfl (feq hc77).2 (by decide) (by decide) ?_
          show Steps p.tables e below (T74.setTop (mkF m 176 #[.val (.int p1), .val (.int p2), .val (.int p3), .val (.int p4), .val (.int p5), .val (.int p6), .val (.int ((1 : Int32) + (p1 &&& (3 : Int32)))), .val (.int (0 : Int32)), .val (.ref b1), .val (.int (1 : Int32)), .val (.ref b52), .unset, .unset, .unset] [])) _
          refine own_blk X74 hx bl0_176_1 (own_hb hby bd0_176_1) (pc' := 178) (Ls' := #[.val (.int p1), .val (.int p2), .val (.int p3), .val (.int p4), .val (.int p5), .val (.int p6), .val (.int ((1 : Int32) + (p1 &&& (3 : Int32)))), .val (.int (0 : Int32)), .val (.ref b1), .val (.int (1 : Int32)), .val (.ref b52), .unset, .unset, .unset]) (st' := [(.int (1 : Int32))]) rfl ?_
          refine XS.ifNo X74.here hx rfl (hb hby at_178) rfl ((if0 _ _).trans (feq (by decide : ¬ ((1 : Int32) = (0 : Int32)))).1) ?_
          show Steps p.tables e below (T74.setTop (mkF m 181 #[.val (.int p1), .val (.int p2), .val (.int p3), .val (.int p4), .val (.int p5), .val (.int p6), .val (.int ((1 : Int32) + (p1 &&& (3 : Int32)))), .val (.int (0 : Int32)), .val (.ref b1), .val (.int (1 : Int32)), .val (.ref b52), .unset, .unset, .unset] [])) _
          refine own_blk X74 hx bl0_181_4 (own_hb hby bd0_181_4) (pc' := 187) (Ls' := #[.val (.int p1), .val (.int p2), .val (.int p3), .val (.int p4), .val (.int p5), .val (.int p6), .val (.int ((1 : Int32) + (p1 &&& (3 : Int32)))), .val (.int (0 : Int32)), .val (.ref b1), .val (.int (1 : Int32)), .val (.ref b52), .unset, .unset, .unset]) (st' := [(.int ((1 : Int32) + (p1 &&& (3 : Int32)))), (.int (1 : Int32))]) rfl ?_
          refine XS.icmpNo X74.here hx rfl (hb hby at_187) rfl (tlt (own_nelt (own_pn p1 p2 hn) hc77)).2.1 ?_
          show Steps p.tables e below (T74.setTop (mkF m 190 #[.val (.int p1), .val (.int p2), .val (.int p3), .val (.int p4), .val (.int p5), .val (.int p6), .val (.int ((1 : Int32) + (p1 &&& (3 : Int32)))), .val (.int (0 : Int32)), .val (.ref b1), .val (.int (1 : Int32)), .val (.ref b52), .unset, .unset, .unset] [])) _
          refine own_blk X74 hx bl0_190_4 (own_hb hby bd0_190_4) (pc' := 196) (Ls' := #[.val (.int p1), .val (.int p2), .val (.int p3), .val (.int p4), .val (.int p5), .val (.int p6), .val (.int ((1 : Int32) + (p1 &&& (3 : Int32)))), .val (.int (0 : Int32)), .val (.ref b1), .val (.int (1 : Int32)), .val (.ref b52), .unset, .unset, .unset]) (st' := [(.int (1 : Int32)), (.ref b1)]) rfl ?_
          refine X74.caload hx (j := (1 : Int32)) (v := (.int (nar .char (f1 p4)))) Ar87.1 (State.isArrayOf_alike hZ.alike Ar87.2.1) Ar87.2.2 hin87 hat87 (g := (mkF m 196 #[.val (.int p1), .val (.int p2), .val (.int p3), .val (.int p4), .val (.int p5), .val (.int p6), .val (.int ((1 : Int32) + (p1 &&& (3 : Int32)))), .val (.int (0 : Int32)), .val (.ref b1), .val (.int (1 : Int32)), .val (.ref b52), .unset, .unset, .unset] [(.int (1 : Int32)), (.ref b1)])) rfl rfl (hb hby at_196) _ ?_
          show Steps p.tables e below (T74.setTop (mkF m 197 #[.val (.int p1), .val (.int p2), .val (.int p3), .val (.int p4), .val (.int p5), .val (.int p6), .val (.int ((1 : Int32) + (p1 &&& (3 : Int32)))), .val (.int (0 : Int32)), .val (.ref b1), .val (.int (1 : Int32)), .val (.ref b52), .unset, .unset, .unset] [(.int (nar .char (f1 p4)))])) _
          refine own_blk X74 hx bl0_197_1 (own_hb hby bd0_197_1) (pc' := 199) (Ls' := #[.val (.int p1), .val (.int p2), .val (.int p3), .val (.int p4), .val (.int p5), .val (.int p6), .val (.int ((1 : Int32) + (p1 &&& (3 : Int32)))), .val (.int (0 : Int32)), .val (.ref b1), .val (.int (1 : Int32)), .val (.ref b52), .unset, .unset, .unset]) (st' := [(.int (10 : Int32)), (.int (nar .char (f1 p4)))]) rfl ?_
          refine XS.icmpNo X74.here hx rfl (hb hby at_199) rfl (teq hc83).2 ?_
          show Steps p.tables e below (T74.setTop (mkF m 202 #[.val (.int p1), .val (.int p2), .val (.int p3), .val (.int p4), .val (.int p5), .val (.int p6), .val (.int ((1 : Int32) + (p1 &&& (3 : Int32)))), .val (.int (0 : Int32)), .val (.ref b1), .val (.int (1 : Int32)), .val (.ref b52), .unset, .unset, .unset] [])) _
          refine own_blk X74 hx bl0_202_4 (own_hb hby bd0_202_4) (pc' := 208) (Ls' := #[.val (.int p1), .val (.int p2), .val (.int p3), .val (.int p4), .val (.int p5), .val (.int p6), .val (.int ((1 : Int32) + (p1 &&& (3 : Int32)))), .val (.int (0 : Int32)), .val (.ref b1), .val (.int (1 : Int32)), .val (.ref b52), .val (.int (2 : Int32)), .unset, .unset]) (st' := []) rfl ?_
          refine own_blk X74 hx bl0_208_2 (own_hb hby bd0_208_2) (pc' := 211) (Ls' := #[.val (.int p1), .val (.int p2), .val (.int p3), .val (.int p4), .val (.int p5), .val (.int p6), .val (.int ((1 : Int32) + (p1 &&& (3 : Int32)))), .val (.int (0 : Int32)), .val (.ref b1), .val (.int (1 : Int32)), .val (.ref b52), .val (.int (2 : Int32)), .val (.int (2 : Int32)), .unset]) (st' := []) rfl ?_
          refine own_blk X74 hx bl0_211_4 (own_hb hby bd0_211_4) (pc' := 217) (Ls' := #[.val (.int p1), .val (.int p2), .val (.int p3), .val (.int p4), .val (.int p5), .val (.int p6), .val (.int ((1 : Int32) + (p1 &&& (3 : Int32)))), .val (.int (0 : Int32)), .val (.ref b1), .val (.int (1 : Int32)), .val (.ref b52), .val (.int (2 : Int32)), .val (.int (2 : Int32)), .val (.int (2 : Int32))]) (st' := []) rfl ?_
          refine own_blk X74 hx bl0_217_2 (own_hb hby bd0_217_2) (pc' := 237) (Ls' := #[.val (.int p1), .val (.int p2), .val (.int p3), .val (.int p4), .val (.int p5), .val (.int p6), .val (.int ((1 : Int32) + (p1 &&& (3 : Int32)))), .val (.int (0 : Int32)), .val (.ref b1), .val (.int (1 : Int32)), .val (.ref b52), .val (.int (2 : Int32)), .val (.int (2 : Int32)), .val (.int (2 : Int32))]) (st' := [(.ref b52)]) rfl ?_
          refine st88 _ ?_
          show Steps p.tables e below (T88.setTop (mkF m 240 #[.val (.int p1), .val (.int p2), .val (.int p3), .val (.int p4), .val (.int p5), .val (.int p6), .val (.int ((1 : Int32) + (p1 &&& (3 : Int32)))), .val (.int (0 : Int32)), .val (.ref b1), .val (.int (1 : Int32)), .val (.ref b52), .val (.int (2 : Int32)), .val (.int (2 : Int32)), .val (.int (2 : Int32))] [(.int ((0 : Int32) + (2 : Int32)))])) _
          refine own_blk X88 hx bl0_240_1 (own_hb hby bd0_240_1) (pc' := 242) (Ls' := #[.val (.int p1), .val (.int p2), .val (.int p3), .val (.int p4), .val (.int p5), .val (.int p6), .val (.int ((1 : Int32) + (p1 &&& (3 : Int32)))), .val (.int (0 : Int32)), .val (.ref b1), .val (.int (1 : Int32)), .val (.ref b52), .val (.int (2 : Int32)), .val (.int (2 : Int32)), .val (.int (2 : Int32))]) (st' := [(.int (2 : Int32)), (.int ((0 : Int32) + (2 : Int32)))]) rfl ?_
          refine XS.icmpNo X88.here hx rfl (hb hby at_242) rfl (teq (show ((0 : Int32) + (2 : Int32)) = (2 : Int32) from (by decide : (2 : Int32) = (2 : Int32)))).2 ?_
          show Steps p.tables e below (T88.setTop (mkF m 245 #[.val (.int p1), .val (.int p2), .val (.int p3), .val (.int p4), .val (.int p5), .val (.int p6), .val (.int ((1 : Int32) + (p1 &&& (3 : Int32)))), .val (.int (0 : Int32)), .val (.ref b1), .val (.int (1 : Int32)), .val (.ref b52), .val (.int (2 : Int32)), .val (.int (2 : Int32)), .val (.int (2 : Int32))] [])) _
          refine own_blk X88 hx bl0_245_1 (own_hb hby bd0_245_1) (pc' := 247) (Ls' := #[.val (.int p1), .val (.int p2), .val (.int p3), .val (.int p4), .val (.int p5), .val (.int p6), .val (.int ((1 : Int32) + (p1 &&& (3 : Int32)))), .val (.int (0 : Int32)), .val (.ref b1), .val (.int (1 : Int32)), .val (.ref b52), .val (.int (2 : Int32)), .val (.int (2 : Int32)), .val (.int (2 : Int32))]) (st' := [(.ref b52)]) rfl ?_
          refine st89 _ ?_
          show Steps p.tables e below (T89.setTop (mkF m 250 #[.val (.int p1), .val (.int p2), .val (.int p3), .val (.int p4), .val (.int p5), .val (.int p6), .val (.int ((1 : Int32) + (p1 &&& (3 : Int32)))), .val (.int (0 : Int32)), .val (.ref b1), .val (.int (1 : Int32)), .val (.ref b52), .val (.int (2 : Int32)), .val (.int (2 : Int32)), .val (.int (2 : Int32))] [(.int ((1 : Int32) + (1 : Int32)))])) _
          refine own_blk X89 hx bl0_250_1 (own_hb hby bd0_250_1) (pc' := 252) (Ls' := #[.val (.int p1), .val (.int p2), .val (.int p3), .val (.int p4), .val (.int p5), .val (.int p6), .val (.int ((1 : Int32) + (p1 &&& (3 : Int32)))), .val (.int (0 : Int32)), .val (.ref b1), .val (.int (1 : Int32)), .val (.ref b52), .val (.int (2 : Int32)), .val (.int (2 : Int32)), .val (.int (2 : Int32))]) (st' := [(.int (2 : Int32)), (.int ((1 : Int32) + (1 : Int32)))]) rfl ?_
          refine XS.icmpNo X89.here hx rfl (hb hby at_252) rfl (teq (show ((1 : Int32) + (1 : Int32)) = (2 : Int32) from (by decide : (2 : Int32) = (2 : Int32)))).2 ?_
          show Steps p.tables e below (T89.setTop (mkF m 255 #[.val (.int p1), .val (.int p2), .val (.int p3), .val (.int p4), .val (.int p5), .val (.int p6), .val (.int ((1 : Int32) + (p1 &&& (3 : Int32)))), .val (.int (0 : Int32)), .val (.ref b1), .val (.int (1 : Int32)), .val (.ref b52), .val (.int (2 : Int32)), .val (.int (2 : Int32)), .val (.int (2 : Int32))] [])) _
          refine own_blk X89 hx bl0_255_1 (own_hb hby bd0_255_1) (pc' := 257) (Ls' := #[.val (.int p1), .val (.int p2), .val (.int p3), .val (.int p4), .val (.int p5), .val (.int p6), .val (.int ((1 : Int32) + (p1 &&& (3 : Int32)))), .val (.int (0 : Int32)), .val (.ref b1), .val (.int (1 : Int32)), .val (.ref b52), .val (.int (2 : Int32)), .val (.int (2 : Int32)), .val (.int (2 : Int32))]) (st' := [(.ref b52)]) rfl ?_
          refine st90 _ ?_
          show Steps p.tables e below (T90.setTop (mkF m 260 #[.val (.int p1), .val (.int p2), .val (.int p3), .val (.int p4), .val (.int p5), .val (.int p6), .val (.int ((1 : Int32) + (p1 &&& (3 : Int32)))), .val (.int (0 : Int32)), .val (.ref b1), .val (.int (1 : Int32)), .val (.ref b52), .val (.int (2 : Int32)), .val (.int (2 : Int32)), .val (.int (2 : Int32))] [(.int ((0 : Int32) + (2 : Int32)))])) _
          refine own_blk X90 hx bl0_260_1 (own_hb hby bd0_260_1) (pc' := 262) (Ls' := #[.val (.int p1), .val (.int p2), .val (.int p3), .val (.int p4), .val (.int p5), .val (.int p6), .val (.int ((1 : Int32) + (p1 &&& (3 : Int32)))), .val (.int (0 : Int32)), .val (.ref b1), .val (.int (1 : Int32)), .val (.ref b52), .val (.int (2 : Int32)), .val (.int (2 : Int32)), .val (.int (2 : Int32))]) (st' := [(.int (2 : Int32)), (.int ((0 : Int32) + (2 : Int32)))]) rfl ?_
          refine XS.icmpNo X90.here hx rfl (hb hby at_262) rfl (teq (show ((0 : Int32) + (2 : Int32)) = (2 : Int32) from (by decide : (2 : Int32) = (2 : Int32)))).2 ?_
          show Steps p.tables e below (T90.setTop (mkF m 265 #[.val (.int p1), .val (.int p2), .val (.int p3), .val (.int p4), .val (.int p5), .val (.int p6), .val (.int ((1 : Int32) + (p1 &&& (3 : Int32)))), .val (.int (0 : Int32)), .val (.ref b1), .val (.int (1 : Int32)), .val (.ref b52), .val (.int (2 : Int32)), .val (.int (2 : Int32)), .val (.int (2 : Int32))] [])) _
          refine own_blk X90 hx bl0_265_2 (own_hb hby bd0_265_2) (pc' := 270) (Ls' := #[.val (.int p1), .val (.int p2), .val (.int p3), .val (.int p4), .val (.int p5), .val (.int p6), .val (.int ((1 : Int32) + (p1 &&& (3 : Int32)))), .val (.int (0 : Int32)), .val (.ref b1), .val (.int (1 : Int32)), .val (.ref b52), .val (.int (2 : Int32)), .val (.int (2 : Int32)), .val (.int (2 : Int32))]) (st' := [(.int (1 : Int32))]) rfl ?_
          exact retN X90 hx (t := .boolean) Bd.returns (by simp) (hb hby at_270) hr
        · show Q0_0 Z p1 p2 p3 p4 p5 p6 h0 n0 _ T90.heap _
          rw [e90]
          exact ⟨by rw [f0_0, if_neg hc12, if_neg hc77, if_pos hc83], N90⟩
      · subst hv74
        have lFc74_a1_pos : Fld Z T74.heap b52 "com/example/endcon/endcon/yaml/Cursor" "pos" "I" (.int ((0 : Int32) + (1 : Int32))) := by have q := Fc74_a1_pos; rw [f6_a1_pos, if_pos (show (own_at4 (nar .char (13 : Int32)) (nar .char (f1 p4)) (nar .char ((p6 &&& (255 : Int32)).toUInt32.toUInt16.toUInt32.toInt32)) (nar .char ((((p6.toUInt32 >>> ((8 : Int32) &&& 31).toUInt32).toInt32) &&& (255 : Int32)).toUInt32.toUInt16.toUInt32.toInt32)) (0 : Int32)) = (13 : Int32) from (by decide : (nar .char (13 : Int32)) = (13 : Int32))), if_neg (show ¬ (((0 : Int32) + (1 : Int32)) = ((1 : Int32) + (p1 &&& (3 : Int32)))) from hc77), if_pos (show ((0 : Int32) + (1 : Int32)) < ((1 : Int32) + (p1 &&& (3 : Int32))) from (own_nelt (own_pn p1 p2 hn) hc77)), if_neg (show ¬ ((own_at4 (nar .char (13 : Int32)) (nar .char (f1 p4)) (nar .char ((p6 &&& (255 : Int32)).toUInt32.toUInt16.toUInt32.toInt32)) (nar .char ((((p6.toUInt32 >>> ((8 : Int32) &&& 31).toUInt32).toInt32) &&& (255 : Int32)).toUInt32.toUInt16.toUInt32.toInt32)) ((0 : Int32) + (1 : Int32))) = (10 : Int32)) from hc83)] at q; exact q
        have lFc74_a1_line : Fld Z T74.heap b52 "com/example/endcon/endcon/yaml/Cursor" "line" "I" (.int ((1 : Int32) + (1 : Int32))) := by have q := Fc74_a1_line; rw [f6_a1_line, if_pos (show (own_at4 (nar .char (13 : Int32)) (nar .char (f1 p4)) (nar .char ((p6 &&& (255 : Int32)).toUInt32.toUInt16.toUInt32.toInt32)) (nar .char ((((p6.toUInt32 >>> ((8 : Int32) &&& 31).toUInt32).toInt32) &&& (255 : Int32)).toUInt32.toUInt16.toUInt32.toInt32)) (0 : Int32)) = (13 : Int32) from (by decide : (nar .char (13 : Int32)) = (13 : Int32))), if_neg (show ¬ (((0 : Int32) + (1 : Int32)) = ((1 : Int32) + (p1 &&& (3 : Int32)))) from hc77), if_pos (show ((0 : Int32) + (1 : Int32)) < ((1 : Int32) + (p1 &&& (3 : Int32))) from (own_nelt (own_pn p1 p2 hn) hc77)), if_neg (show ¬ ((own_at4 (nar .char (13 : Int32)) (nar .char (f1 p4)) (nar .char ((p6 &&& (255 : Int32)).toUInt32.toUInt16.toUInt32.toInt32)) (nar .char ((((p6.toUInt32 >>> ((8 : Int32) &&& 31).toUInt32).toInt32) &&& (255 : Int32)).toUInt32.toUInt16.toUInt32.toInt32)) ((0 : Int32) + (1 : Int32))) = (10 : Int32)) from hc83)] at q; exact q
        have lFc74_a1_lineStart : Fld Z T74.heap b52 "com/example/endcon/endcon/yaml/Cursor" "lineStart" "I" (.int ((0 : Int32) + (1 : Int32))) := by have q := Fc74_a1_lineStart; rw [f6_a1_lineStart, if_pos (show (own_at4 (nar .char (13 : Int32)) (nar .char (f1 p4)) (nar .char ((p6 &&& (255 : Int32)).toUInt32.toUInt16.toUInt32.toInt32)) (nar .char ((((p6.toUInt32 >>> ((8 : Int32) &&& 31).toUInt32).toInt32) &&& (255 : Int32)).toUInt32.toUInt16.toUInt32.toInt32)) (0 : Int32)) = (13 : Int32) from (by decide : (nar .char (13 : Int32)) = (13 : Int32))), if_neg (show ¬ (((0 : Int32) + (1 : Int32)) = ((1 : Int32) + (p1 &&& (3 : Int32)))) from hc77), if_pos (show ((0 : Int32) + (1 : Int32)) < ((1 : Int32) + (p1 &&& (3 : Int32))) from (own_nelt (own_pn p1 p2 hn) hc77)), if_neg (show ¬ ((own_at4 (nar .char (13 : Int32)) (nar .char (f1 p4)) (nar .char ((p6 &&& (255 : Int32)).toUInt32.toUInt16.toUInt32.toInt32)) (nar .char ((((p6.toUInt32 >>> ((8 : Int32) &&& 31).toUInt32).toInt32) &&& (255 : Int32)).toUInt32.toUInt16.toUInt32.toInt32)) ((0 : Int32) + (1 : Int32))) = (10 : Int32)) from hc83)] at q; exact q
        have zk91 : kk55 ≤ T74.heap.size := Nat.le_trans zk72 K74.1
        have zs92 : n0 ≤ T74.heap.size := Nat.le_trans zs73 K74.1
        have fa93 : Arv Z T74.heap b1 k1 .char (4 : Int32) [(.int (nar .char (13 : Int32))), (.int (nar .char (f1 p4))), (.int (nar .char ((p6 &&& (255 : Int32)).toUInt32.toUInt16.toUInt32.toInt32))), (.int (nar .char ((((p6.toUInt32 >>> ((8 : Int32) &&& 31).toUInt32).toInt32) &&& (255 : Int32)).toUInt32.toUInt16.toUInt32.toInt32)))] (.int (0 : Int32)) := (fa75.keep K74 (ninS ne_b1_b52 nin0))
        obtain ⟨cx94, Ar94, qq94, S94, N94_, H94, G94⟩ := id fa93
        have hin94 : ¬ ((1 : Int32) < 0 ∨ cx94.slots.size ≤ ((1 : Int32)).toNatClampNeg) := inb_of S94 ⟨by decide, by decide⟩
        have hat94 : cx94.slots[((1 : Int32)).toNatClampNeg]? = some (.int (nar .char (f1 p4))) := (H94 ((1 : Int32)).toNatClampNeg (Nat.lt_of_not_le fun w => hin94 (Or.inr w))).trans (congrArg some (rfl))
        obtain ⟨_, T95, Lc95, X95, hQ95, st95⟩ := own_callV X74 hx hZ (y := (⟨"com/example/endcon/endcon/yaml/Cursor", "index", "()I"⟩ : MethodName)) hown (hw _ (List.mem_of_getElem? (i := 57) rfl)) (hw _ (List.mem_of_getElem? (i := 58) rfl)) (hw _ (List.mem_of_getElem? (i := 60) rfl)) (hw _ (List.mem_of_getElem? (i := 59) rfl)) (hw _ (List.mem_of_getElem? (i := 8) rfl)) (hw _ (List.mem_of_getElem? (i := 61) rfl)) (by decide) (W := 0) Ec74_a1 (argsL := []) (rest := []) (rm7 l Z a0 hw [] b52 ((0 : Int32) + (1 : Int32)) T74.heap n0 zs92 Ec74_a1 lFc74_a1_pos) (by decide) (by decide) (c' := 4) (s' := 24) rfl rfl (by decide) (by decide) rfl (g := (mkF m 237 #[.val (.int p1), .val (.int p2), .val (.int p3), .val (.int p4), .val (.int p5), .val (.int p6), .val (.int ((1 : Int32) + (p1 &&& (3 : Int32)))), .val (.int (0 : Int32)), .val (.ref b1), .val (.int (1 : Int32)), .val (.ref b52), .val (.int (1 : Int32)), .val (.int (2 : Int32)), .val (.int (1 : Int32))] [(.ref b52)])) rfl (by rw [hml]; rfl) (lenOf pd_0_5 rfl) rfl (by show 2 * 0 + _ ≤ _; exact Nat.le_of_eq rfl) (hb hby at_237)
        obtain ⟨hv95, N95q, e95⟩ := hQ95
        have N95 := Fr.app N74 N95q
        rw [f7] at hv95
        subst hv95
        obtain ⟨_, T96, Lc96, X96, hQ96, st96⟩ := own_callV X95 hx hZ (y := (⟨"com/example/endcon/endcon/yaml/Cursor", "line", "()I"⟩ : MethodName)) hown (hw _ (List.mem_of_getElem? (i := 62) rfl)) (hw _ (List.mem_of_getElem? (i := 63) rfl)) (hw _ (List.mem_of_getElem? (i := 65) rfl)) (hw _ (List.mem_of_getElem? (i := 64) rfl)) (hw _ (List.mem_of_getElem? (i := 8) rfl)) (hw _ (List.mem_of_getElem? (i := 66) rfl)) (by decide) (W := 0) Ec74_a1 (argsL := []) (rest := []) (rm8 l Z a0 hw [] b52 ((1 : Int32) + (1 : Int32)) T74.heap n0 zs92 Ec74_a1 lFc74_a1_line) (by decide) (by decide) (c' := 4) (s' := 24) rfl rfl (by decide) (by decide) e95 (g := (mkF m 247 #[.val (.int p1), .val (.int p2), .val (.int p3), .val (.int p4), .val (.int p5), .val (.int p6), .val (.int ((1 : Int32) + (p1 &&& (3 : Int32)))), .val (.int (0 : Int32)), .val (.ref b1), .val (.int (1 : Int32)), .val (.ref b52), .val (.int (1 : Int32)), .val (.int (2 : Int32)), .val (.int (1 : Int32))] [(.ref b52)])) rfl (by rw [hml]; rfl) (lenOf pd_0_5 rfl) rfl (by show 2 * 0 + _ ≤ _; exact Nat.le_of_eq rfl) (hb hby at_247)
        obtain ⟨hv96, N96q, e96⟩ := hQ96
        have N96 := Fr.app N95 N96q
        rw [f8] at hv96
        subst hv96
        obtain ⟨_, T97, Lc97, X97, hQ97, st97⟩ := own_callV X96 hx hZ (y := (⟨"com/example/endcon/endcon/yaml/Cursor", "lineStart", "()I"⟩ : MethodName)) hown (hw _ (List.mem_of_getElem? (i := 67) rfl)) (hw _ (List.mem_of_getElem? (i := 68) rfl)) (hw _ (List.mem_of_getElem? (i := 70) rfl)) (hw _ (List.mem_of_getElem? (i := 69) rfl)) (hw _ (List.mem_of_getElem? (i := 8) rfl)) (hw _ (List.mem_of_getElem? (i := 71) rfl)) (by decide) (W := 0) Ec74_a1 (argsL := []) (rest := []) (rm9 l Z a0 hw [] b52 ((0 : Int32) + (1 : Int32)) T74.heap n0 zs92 Ec74_a1 lFc74_a1_lineStart) (by decide) (by decide) (c' := 4) (s' := 24) rfl rfl (by decide) (by decide) e96 (g := (mkF m 257 #[.val (.int p1), .val (.int p2), .val (.int p3), .val (.int p4), .val (.int p5), .val (.int p6), .val (.int ((1 : Int32) + (p1 &&& (3 : Int32)))), .val (.int (0 : Int32)), .val (.ref b1), .val (.int (1 : Int32)), .val (.ref b52), .val (.int (1 : Int32)), .val (.int (2 : Int32)), .val (.int (1 : Int32))] [(.ref b52)])) rfl (by rw [hml]; rfl) (lenOf pd_0_5 rfl) rfl (by show 2 * 0 + _ ≤ _; exact Nat.le_of_eq rfl) (hb hby at_257)
        obtain ⟨hv97, N97q, e97⟩ := hQ97
        have N97 := Fr.app N96 N97q
        rw [f9] at hv97
        subst hv97
        obtain ⟨fs, hr, hrun, hended, hRW⟩ := X97.leaveW (s := s) hS55 (by rw [e97]; exact zk91) (v := some (.int (1 : Int32))) (fun h => by rw [Bd.returns] at h; cases h)
        refine ⟨_, _, pre76 _ ?_, hrun, hended, _, _, rfl, ?_, ⟨_, rfl⟩, hRW.2.1, hRW.2.2.1, hRW.2.2.2.mono (by decide) (by decide)⟩
        · refine st74 _ ?_
          show Steps p.tables e below (T74.setTop (mkF m 147 #[.val (.int p1), .val (.int p2), .val (.int p3), .val (.int p4), .val (.int p5), .val (.int p6), .val (.int ((1 : Int32) + (p1 &&& (3 : Int32)))), .val (.int (0 : Int32)), .val (.ref b1), .val (.int (1 : Int32)), .val (.ref b52), .unset, .unset, .unset] [])) _
          refine own_blk X74 hx bl0_147_1 (own_hb hby bd0_147_1) (pc' := 149) (Ls' := #[.val (.int p1), .val (.int p2), .val (.int p3), .val (.int p4), .val (.int p5), .val (.int p6), .val (.int ((1 : Int32) + (p1 &&& (3 : Int32)))), .val (.int (0 : Int32)), .val (.ref b1), .val (.int (1 : Int32)), .val (.ref b52), .unset, .unset, .unset]) (st' := [(.int (1 : Int32))]) rfl ?_
          refine XS.ifNo X74.here hx rfl (hb hby at_149) rfl ((if0 _ _).trans (feq (by decide : ¬ ((1 : Int32) = (0 : Int32)))).1) ?_
          show Steps p.tables e below (T74.setTop (mkF m 152 #[.val (.int p1), .val (.int p2), .val (.int p3), .val (.int p4), .val (.int p5), .val (.int p6), .val (.int ((1 : Int32) + (p1 &&& (3 : Int32)))), .val (.int (0 : Int32)), .val (.ref b1), .val (.int (1 : Int32)), .val (.ref b52), .unset, .unset, .unset] [])) _
          refine own_blk X74 hx bl0_152_4 (own_hb hby bd0_152_4) (pc' := 158) (Ls' := #[.val (.int p1), .val (.int p2), .val (.int p3), .val (.int p4), .val (.int p5), .val (.int p6), .val (.int ((1 : Int32) + (p1 &&& (3 : Int32)))), .val (.int (0 : Int32)), .val (.ref b1), .val (.int (1 : Int32)), .val (.ref b52), .unset, .unset, .unset]) (st' := [(.int ((1 : Int32) + (p1 &&& (3 : Int32)))), (.int (1 : Int32))]) rfl ?_
          refine XS.icmpYes X74.here hx rfl (pc0 := 158) (pc' := 176) rfl (hb hby at_158) rfl (feq hc77).2 (by decide) (by decide) ?_
          show Steps p.tables e below (T74.setTop (mkF m 176 #[.val (.int p1), .val (.int p2), .val (.int p3), .val (.int p4), .val (.int p5), .val (.int p6), .val (.int ((1 : Int32) + (p1 &&& (3 : Int32)))), .val (.int (0 : Int32)), .val (.ref b1), .val (.int (1 : Int32)), .val (.ref b52), .unset, .unset, .unset] [])) _
          refine own_blk X74 hx bl0_176_1 (own_hb hby bd0_176_1) (pc' := 178) (Ls' := #[.val (.int p1), .val (.int p2), .val (.int p3), .val (.int p4), .val (.int p5), .val (.int p6), .val (.int ((1 : Int32) + (p1 &&& (3 : Int32)))), .val (.int (0 : Int32)), .val (.ref b1), .val (.int (1 : Int32)), .val (.ref b52), .unset, .unset, .unset]) (st' := [(.int (1 : Int32))]) rfl ?_
          refine XS.ifNo X74.here hx rfl (hb hby at_178) rfl ((if0 _ _).trans (feq (by decide : ¬ ((1 : Int32) = (0 : Int32)))).1) ?_
          show Steps p.tables e below (T74.setTop (mkF m 181 #[.val (.int p1), .val (.int p2), .val (.int p3), .val (.int p4), .val (.int p5), .val (.int p6), .val (.int ((1 : Int32) + (p1 &&& (3 : Int32)))), .val (.int (0 : Int32)), .val (.ref b1), .val (.int (1 : Int32)), .val (.ref b52), .unset, .unset, .unset] [])) _
          refine own_blk X74 hx bl0_181_4 (own_hb hby bd0_181_4) (pc' := 187) (Ls' := #[.val (.int p1), .val (.int p2), .val (.int p3), .val (.int p4), .val (.int p5), .val (.int p6), .val (.int ((1 : Int32) + (p1 &&& (3 : Int32)))), .val (.int (0 : Int32)), .val (.ref b1), .val (.int (1 : Int32)), .val (.ref b52), .unset, .unset, .unset]) (st' := [(.int ((1 : Int32) + (p1 &&& (3 : Int32)))), (.int (1 : Int32))]) rfl ?_
          refine XS.icmpNo X74.here hx rfl (hb hby at_187) rfl (tlt (own_nelt (own_pn p1 p2 hn) hc77)).2.1 ?_
          show Steps p.tables e below (T74.setTop (mkF m 190 #[.val (.int p1), .val (.int p2), .val (.int p3), .val (.int p4), .val (.int p5), .val (.int p6), .val (.int ((1 : Int32) + (p1 &&& (3 : Int32)))), .val (.int (0 : Int32)), .val (.ref b1), .val (.int (1 : Int32)), .val (.ref b52), .unset, .unset, .unset] [])) _
          refine own_blk X74 hx bl0_190_4 (own_hb hby bd0_190_4) (pc' := 196) (Ls' := #[.val (.int p1), .val (.int p2), .val (.int p3), .val (.int p4), .val (.int p5), .val (.int p6), .val (.int ((1 : Int32) + (p1 &&& (3 : Int32)))), .val (.int (0 : Int32)), .val (.ref b1), .val (.int (1 : Int32)), .val (.ref b52), .unset, .unset, .unset]) (st' := [(.int (1 : Int32)), (.ref b1)]) rfl ?_
          refine X74.caload hx (j := (1 : Int32)) (v := (.int (nar .char (f1 p4)))) Ar94.1 (State.isArrayOf_alike hZ.alike Ar94.2.1) Ar94.2.2 hin94 hat94 (g := (mkF m 196 #[.val (.int p1), .val (.int p2), .val (.int p3), .val (.int p4), .val (.int p5), .val (.int p6), .val (.int ((1 : Int32) + (p1 &&& (3 : Int32)))), .val (.int (0 : Int32)), .val (.ref b1), .val (.int (1 : Int32)), .val (.ref b52), .unset, .unset, .unset] [(.int (1 : Int32)), (.ref b1)])) rfl rfl (hb hby at_196) _ ?_
          show Steps p.tables e below (T74.setTop (mkF m 197 #[.val (.int p1), .val (.int p2), .val (.int p3), .val (.int p4), .val (.int p5), .val (.int p6), .val (.int ((1 : Int32) + (p1 &&& (3 : Int32)))), .val (.int (0 : Int32)), .val (.ref b1), .val (.int (1 : Int32)), .val (.ref b52), .unset, .unset, .unset] [(.int (nar .char (f1 p4)))])) _
          refine own_blk X74 hx bl0_197_1 (own_hb hby bd0_197_1) (pc' := 199) (Ls' := #[.val (.int p1), .val (.int p2), .val (.int p3), .val (.int p4), .val (.int p5), .val (.int p6), .val (.int ((1 : Int32) + (p1 &&& (3 : Int32)))), .val (.int (0 : Int32)), .val (.ref b1), .val (.int (1 : Int32)), .val (.ref b52), .unset, .unset, .unset]) (st' := [(.int (10 : Int32)), (.int (nar .char (f1 p4)))]) rfl ?_
          refine XS.icmpYes X74.here hx rfl (pc0 := 199) (pc' := 220) rfl (hb hby at_199) rfl (feq hc83).2 (by decide) (by decide) ?_
          show Steps p.tables e below (T74.setTop (mkF m 220 #[.val (.int p1), .val (.int p2), .val (.int p3), .val (.int p4), .val (.int p5), .val (.int p6), .val (.int ((1 : Int32) + (p1 &&& (3 : Int32)))), .val (.int (0 : Int32)), .val (.ref b1), .val (.int (1 : Int32)), .val (.ref b52), .unset, .unset, .unset] [])) _
          refine own_blk X74 hx bl0_220_4 (own_hb hby bd0_220_4) (pc' := 226) (Ls' := #[.val (.int p1), .val (.int p2), .val (.int p3), .val (.int p4), .val (.int p5), .val (.int p6), .val (.int ((1 : Int32) + (p1 &&& (3 : Int32)))), .val (.int (0 : Int32)), .val (.ref b1), .val (.int (1 : Int32)), .val (.ref b52), .val (.int (1 : Int32)), .unset, .unset]) (st' := []) rfl ?_
          refine own_blk X74 hx bl0_226_2 (own_hb hby bd0_226_2) (pc' := 229) (Ls' := #[.val (.int p1), .val (.int p2), .val (.int p3), .val (.int p4), .val (.int p5), .val (.int p6), .val (.int ((1 : Int32) + (p1 &&& (3 : Int32)))), .val (.int (0 : Int32)), .val (.ref b1), .val (.int (1 : Int32)), .val (.ref b52), .val (.int (1 : Int32)), .val (.int (2 : Int32)), .unset]) (st' := []) rfl ?_
          refine own_blk X74 hx bl0_229_4 (own_hb hby bd0_229_4) (pc' := 235) (Ls' := #[.val (.int p1), .val (.int p2), .val (.int p3), .val (.int p4), .val (.int p5), .val (.int p6), .val (.int ((1 : Int32) + (p1 &&& (3 : Int32)))), .val (.int (0 : Int32)), .val (.ref b1), .val (.int (1 : Int32)), .val (.ref b52), .val (.int (1 : Int32)), .val (.int (2 : Int32)), .val (.int (1 : Int32))]) (st' := []) rfl ?_
          refine own_blk X74 hx bl0_235_1 (own_hb hby bd0_235_1) (pc' := 237) (Ls' := #[.val (.int p1), .val (.int p2), .val (.int p3), .val (.int p4), .val (.int p5), .val (.int p6), .val (.int ((1 : Int32) + (p1 &&& (3 : Int32)))), .val (.int (0 : Int32)), .val (.ref b1), .val (.int (1 : Int32)), .val (.ref b52), .val (.int (1 : Int32)), .val (.int (2 : Int32)), .val (.int (1 : Int32))]) (st' := [(.ref b52)]) rfl ?_
          refine st95 _ ?_
          show Steps p.tables e below (T95.setTop (mkF m 240 #[.val (.int p1), .val (.int p2), .val (.int p3), .val (.int p4), .val (.int p5), .val (.int p6), .val (.int ((1 : Int32) + (p1 &&& (3 : Int32)))), .val (.int (0 : Int32)), .val (.ref b1), .val (.int (1 : Int32)), .val (.ref b52), .val (.int (1 : Int32)), .val (.int (2 : Int32)), .val (.int (1 : Int32))] [(.int ((0 : Int32) + (1 : Int32)))])) _
          refine own_blk X95 hx bl0_240_1 (own_hb hby bd0_240_1) (pc' := 242) (Ls' := #[.val (.int p1), .val (.int p2), .val (.int p3), .val (.int p4), .val (.int p5), .val (.int p6), .val (.int ((1 : Int32) + (p1 &&& (3 : Int32)))), .val (.int (0 : Int32)), .val (.ref b1), .val (.int (1 : Int32)), .val (.ref b52), .val (.int (1 : Int32)), .val (.int (2 : Int32)), .val (.int (1 : Int32))]) (st' := [(.int (1 : Int32)), (.int ((0 : Int32) + (1 : Int32)))]) rfl ?_
          refine XS.icmpNo X95.here hx rfl (hb hby at_242) rfl (teq (show ((0 : Int32) + (1 : Int32)) = (1 : Int32) from (by decide : (1 : Int32) = (1 : Int32)))).2 ?_
          show Steps p.tables e below (T95.setTop (mkF m 245 #[.val (.int p1), .val (.int p2), .val (.int p3), .val (.int p4), .val (.int p5), .val (.int p6), .val (.int ((1 : Int32) + (p1 &&& (3 : Int32)))), .val (.int (0 : Int32)), .val (.ref b1), .val (.int (1 : Int32)), .val (.ref b52), .val (.int (1 : Int32)), .val (.int (2 : Int32)), .val (.int (1 : Int32))] [])) _
          refine own_blk X95 hx bl0_245_1 (own_hb hby bd0_245_1) (pc' := 247) (Ls' := #[.val (.int p1), .val (.int p2), .val (.int p3), .val (.int p4), .val (.int p5), .val (.int p6), .val (.int ((1 : Int32) + (p1 &&& (3 : Int32)))), .val (.int (0 : Int32)), .val (.ref b1), .val (.int (1 : Int32)), .val (.ref b52), .val (.int (1 : Int32)), .val (.int (2 : Int32)), .val (.int (1 : Int32))]) (st' := [(.ref b52)]) rfl ?_
          refine st96 _ ?_
          show Steps p.tables e below (T96.setTop (mkF m 250 #[.val (.int p1), .val (.int p2), .val (.int p3), .val (.int p4), .val (.int p5), .val (.int p6), .val (.int ((1 : Int32) + (p1 &&& (3 : Int32)))), .val (.int (0 : Int32)), .val (.ref b1), .val (.int (1 : Int32)), .val (.ref b52), .val (.int (1 : Int32)), .val (.int (2 : Int32)), .val (.int (1 : Int32))] [(.int ((1 : Int32) + (1 : Int32)))])) _
          refine own_blk X96 hx bl0_250_1 (own_hb hby bd0_250_1) (pc' := 252) (Ls' := #[.val (.int p1), .val (.int p2), .val (.int p3), .val (.int p4), .val (.int p5), .val (.int p6), .val (.int ((1 : Int32) + (p1 &&& (3 : Int32)))), .val (.int (0 : Int32)), .val (.ref b1), .val (.int (1 : Int32)), .val (.ref b52), .val (.int (1 : Int32)), .val (.int (2 : Int32)), .val (.int (1 : Int32))]) (st' := [(.int (2 : Int32)), (.int ((1 : Int32) + (1 : Int32)))]) rfl ?_
          refine XS.icmpNo X96.here hx rfl (hb hby at_252) rfl (teq (show ((1 : Int32) + (1 : Int32)) = (2 : Int32) from (by decide : (2 : Int32) = (2 : Int32)))).2 ?_
          show Steps p.tables e below (T96.setTop (mkF m 255 #[.val (.int p1), .val (.int p2), .val (.int p3), .val (.int p4), .val (.int p5), .val (.int p6), .val (.int ((1 : Int32) + (p1 &&& (3 : Int32)))), .val (.int (0 : Int32)), .val (.ref b1), .val (.int (1 : Int32)), .val (.ref b52), .val (.int (1 : Int32)), .val (.int (2 : Int32)), .val (.int (1 : Int32))] [])) _
          refine own_blk X96 hx bl0_255_1 (own_hb hby bd0_255_1) (pc' := 257) (Ls' := #[.val (.int p1), .val (.int p2), .val (.int p3), .val (.int p4), .val (.int p5), .val (.int p6), .val (.int ((1 : Int32) + (p1 &&& (3 : Int32)))), .val (.int (0 : Int32)), .val (.ref b1), .val (.int (1 : Int32)), .val (.ref b52), .val (.int (1 : Int32)), .val (.int (2 : Int32)), .val (.int (1 : Int32))]) (st' := [(.ref b52)]) rfl ?_
          refine st97 _ ?_
          show Steps p.tables e below (T97.setTop (mkF m 260 #[.val (.int p1), .val (.int p2), .val (.int p3), .val (.int p4), .val (.int p5), .val (.int p6), .val (.int ((1 : Int32) + (p1 &&& (3 : Int32)))), .val (.int (0 : Int32)), .val (.ref b1), .val (.int (1 : Int32)), .val (.ref b52), .val (.int (1 : Int32)), .val (.int (2 : Int32)), .val (.int (1 : Int32))] [(.int ((0 : Int32) + (1 : Int32)))])) _
          refine own_blk X97 hx bl0_260_1 (own_hb hby bd0_260_1) (pc' := 262) (Ls' := #[.val (.int p1), .val (.int p2), .val (.int p3), .val (.int p4), .val (.int p5), .val (.int p6), .val (.int ((1 : Int32) + (p1 &&& (3 : Int32)))), .val (.int (0 : Int32)), .val (.ref b1), .val (.int (1 : Int32)), .val (.ref b52), .val (.int (1 : Int32)), .val (.int (2 : Int32)), .val (.int (1 : Int32))]) (st' := [(.int (1 : Int32)), (.int ((0 : Int32) + (1 : Int32)))]) rfl ?_
          refine XS.icmpNo X97.here hx rfl (hb hby at_262) rfl (teq (show ((0 : Int32) + (1 : Int32)) = (1 : Int32) from (by decide : (1 : Int32) = (1 : Int32)))).2 ?_
          show Steps p.tables e below (T97.setTop (mkF m 265 #[.val (.int p1), .val (.int p2), .val (.int p3), .val (.int p4), .val (.int p5), .val (.int p6), .val (.int ((1 : Int32) + (p1 &&& (3 : Int32)))), .val (.int (0 : Int32)), .val (.ref b1), .val (.int (1 : Int32)), .val (.ref b52), .val (.int (1 : Int32)), .val (.int (2 : Int32)), .val (.int (1 : Int32))] [])) _
          refine own_blk X97 hx bl0_265_2 (own_hb hby bd0_265_2) (pc' := 270) (Ls' := #[.val (.int p1), .val (.int p2), .val (.int p3), .val (.int p4), .val (.int p5), .val (.int p6), .val (.int ((1 : Int32) + (p1 &&& (3 : Int32)))), .val (.int (0 : Int32)), .val (.ref b1), .val (.int (1 : Int32)), .val (.ref b52), .val (.int (1 : Int32)), .val (.int (2 : Int32)), .val (.int (1 : Int32))]) (st' := [(.int (1 : Int32))]) rfl ?_
          exact retN X97 hx (t := .boolean) Bd.returns (by simp) (hb hby at_270) hr
        · show Q0_0 Z p1 p2 p3 p4 p5 p6 h0 n0 _ T97.heap _
          rw [e97]
          exact ⟨by rw [f0_0, if_neg hc12, if_neg hc77, if_neg hc83], N97⟩

def f0_1 (p1 : Int32) (p2 : Int32) (p3 : Int32) (p4 : Int32) (p5 : Int32) (p6 : Int32) : Int32 := (if (p3 &&& (1 : Int32)) = (0 : Int32) then (1 : Int32) else (if (2 : Int32) = ((1 : Int32) + (p1 &&& (3 : Int32))) then (1 : Int32) else (if (nar .char (f1 p4)) = (10 : Int32) then (1 : Int32) else (1 : Int32))))
def Q0_1 (Z : State) (p1 : Int32) (p2 : Int32) (p3 : Int32) (p4 : Int32) (p5 : Int32) (p6 : Int32) (h0 : Heap) (n0 : Nat) (v : Option Value) (h : Heap) (L : List Loc) : Prop := v = some (.int (f0_1 p1 p2 p3 p4 p5 p6)) ∧ Fr n0 L
set_option maxRecDepth 65536 in
set_option maxHeartbeats 40000000 in
theorem rm0_1 (l : Launch) (Z : State) (a0 : Array Value) (hw : ∀ d ∈ tables_1, d.before a0 Z = true) (ws : List Jvm.Cond) (p1 : Int32) (p2 : Int32) (p3 : Int32) (p4 : Int32) (p5 : Int32) (p6 : Int32) (h0 : Heap) (n0 : Nat) (Z0 : n0 ≤ h0.size) (hn : ((p2 &&& (2147483647 : Int32)) % ((1 : Int32) + (p1 &&& (3 : Int32)))) = (1 : Int32)) :
    MetFree l x (head1 (Jvm.Cond.code x code maxLocals ret :: ws) room_1) (fun a U => a = #[(.int p1), (.int p2), (.int p3), (.int p4), (.int p5), (.int p6)] ∧ Z.Warmed39 U.vm ∧ U.heap = h0) (fun _ _ _ _ _ => True) (fun _ U o U' => ∃ v L, o = .returned v ∧ Q0_1 Z p1 p2 p3 p4 p5 p6 h0 n0 v U'.heap L ∧ ReturnedEndW U o U' L room_1.cells room_1.slots) := by
  refine MetFree.of_bodySF (plainFor_of_name pn_0) hisR ?_
  intro p e s m args below meth c s₁ Bd hml0 hP hK
  obtain ⟨rfl, hZ, hh⟩ := hP
  have hx := Bd.exec
  have hby := Bd.bytes
  have hml : c.maxLocals = 14 := hml0
  have hown : s.vm.findClass "com/example/endcon/endcon/yaml/CursorNewLinePinLaw" = some m.cls := findClass_of_methodNamed Bd.named
  have hnm := (name_of_methodNamed Bd.named Bd.method).1
  have X0 : Stand p l e room_1 s m #[(.int p1), (.int p2), (.int p3), (.int p4), (.int p5), (.int p6)] below meth c s₁ [] 0 0 := Stand.of_body Bd
  have e0 : s₁.heap = h0 := by rw [← hh, Bd.state]; rfl
  have N0 := Fr.nil n0
  have pre0 : ∀ t, Steps p.tables e below (s₁.setTop (mkF m 0 #[.val (.int p1), .val (.int p2), .val (.int p3), .val (.int p4), .val (.int p5), .val (.int p6), .unset, .unset, .unset, .unset, .unset, .unset, .unset, .unset] [])) t → Steps p.tables e below (s₁.setTop (entryFrame m #[(.int p1), (.int p2), (.int p3), (.int p4), (.int p5), (.int p6)] maxLocals)) t := fun t k => castTop (ef_0 m p1 p2 p3 p4 p5 p6) k
  obtain ⟨T1, h1, k1, X1, e1, E1, A1, st1⟩ := newP X0 hx hZ (hw _ (List.mem_of_getElem? (i := 1) rfl)) e0 (g := (mkF m 17 #[.val (.int p1), .val (.int p2), .val (.int p3), .val (.int p4), .val (.int p5), .val (.int p6), .val (.int ((1 : Int32) + (p1 &&& (3 : Int32)))), .val (.int (1 : Int32)), .unset, .unset, .unset, .unset, .unset, .unset] [(.int (4 : Int32))])) rfl (hb hby at_17) rfl (by decide) (cap := 4) (by decide) (by decide) (by decide) (by decide)
  obtain ⟨b1, g1⟩ : ∃ z, z = h0.size := ⟨_, rfl⟩
  rw [← g1] at A1 st1
  have g_b1 : n0 ≤ b1 := Nat.le_trans Z0 (Nat.le_of_eq g1.symm)
  have zs2 : n0 ≤ h1.size := Nat.le_trans Z0 E1.1
  have V_b1 : Arv Z h1 b1 k1 .char (4 : Int32) [(.int (0 : Int32)), (.int (0 : Int32)), (.int (0 : Int32)), (.int (0 : Int32))] (.int (0 : Int32)) := (Arv.new A1 (by decide)).pad (pad_rep [] (.int (0 : Int32)) 4)
  obtain ⟨cx3, Ar3, qq3, S3, N3_, H3, G3⟩ := id V_b1
  have hin3 : ¬ ((0 : Int32) < 0 ∨ cx3.slots.size ≤ ((0 : Int32)).toNatClampNeg) := inb_of S3 ⟨by decide, by decide⟩
  obtain ⟨T3, h3, X3, e3, W3, st3⟩ := stC X1 hx hZ e1 Ar3 (j := (0 : Int32)) hin3 (g := (mkF m 31 #[.val (.int p1), .val (.int p2), .val (.int p3), .val (.int p4), .val (.int p5), .val (.int p6), .val (.int ((1 : Int32) + (p1 &&& (3 : Int32)))), .val (.int (1 : Int32)), .val (.ref b1), .unset, .unset, .unset, .unset, .unset] [(.int ((p5 &&& (255 : Int32)).toUInt32.toUInt16.toUInt32.toInt32)), (.int (0 : Int32)), (.ref b1)])) rfl rfl (hb hby at_31)
  have V3 : Arv Z h3 b1 k1 .char (4 : Int32) [(.int (nar .char ((p5 &&& (255 : Int32)).toUInt32.toUInt16.toUInt32.toInt32))), (.int (0 : Int32)), (.int (0 : Int32)), (.int (0 : Int32))] (.int (0 : Int32)) := Arv.set Ar3 qq3 S3 N3_ H3 G3 (fits_nar_char _) W3 0 rfl (Nat.le_of_ble_eq_true rfl)
  have zs4 : n0 ≤ h3.size := Nat.le_trans zs2 (Keep.of_wr W3).1
  have N3 := Fr.snoc X3 N0 g_b1
  obtain ⟨cx5, Ar5, qq5, S5, N5_, H5, G5⟩ := id V3
  have hin5 : ¬ ((1 : Int32) < 0 ∨ cx5.slots.size ≤ ((1 : Int32)).toNatClampNeg) := inb_of S5 ⟨by decide, by decide⟩
  obtain ⟨T5, h5, X5, e5, W5, st5⟩ := stC X3 hx hZ e3 Ar5 (j := (1 : Int32)) hin5 (g := (mkF m 45 #[.val (.int p1), .val (.int p2), .val (.int p3), .val (.int p4), .val (.int p5), .val (.int p6), .val (.int ((1 : Int32) + (p1 &&& (3 : Int32)))), .val (.int (1 : Int32)), .val (.ref b1), .unset, .unset, .unset, .unset, .unset] [(.int ((((p5.toUInt32 >>> ((8 : Int32) &&& 31).toUInt32).toInt32) &&& (255 : Int32)).toUInt32.toUInt16.toUInt32.toInt32)), (.int (1 : Int32)), (.ref b1)])) rfl rfl (hb hby at_45)
  have V5 : Arv Z h5 b1 k1 .char (4 : Int32) [(.int (nar .char ((p5 &&& (255 : Int32)).toUInt32.toUInt16.toUInt32.toInt32))), (.int (nar .char ((((p5.toUInt32 >>> ((8 : Int32) &&& 31).toUInt32).toInt32) &&& (255 : Int32)).toUInt32.toUInt16.toUInt32.toInt32))), (.int (0 : Int32)), (.int (0 : Int32))] (.int (0 : Int32)) := Arv.set Ar5 qq5 S5 N5_ H5 G5 (fits_nar_char _) W5 1 rfl (Nat.le_of_ble_eq_true rfl)
  have zs6 : n0 ≤ h5.size := Nat.le_trans zs4 (Keep.of_wr W5).1
  have N5 := Fr.snoc X5 N3 g_b1
  obtain ⟨cx7, Ar7, qq7, S7, N7_, H7, G7⟩ := id V5
  have hin7 : ¬ ((2 : Int32) < 0 ∨ cx7.slots.size ≤ ((2 : Int32)).toNatClampNeg) := inb_of S7 ⟨by decide, by decide⟩
  obtain ⟨T7, h7, X7, e7, W7, st7⟩ := stC X5 hx hZ e5 Ar7 (j := (2 : Int32)) hin7 (g := (mkF m 56 #[.val (.int p1), .val (.int p2), .val (.int p3), .val (.int p4), .val (.int p5), .val (.int p6), .val (.int ((1 : Int32) + (p1 &&& (3 : Int32)))), .val (.int (1 : Int32)), .val (.ref b1), .unset, .unset, .unset, .unset, .unset] [(.int ((p6 &&& (255 : Int32)).toUInt32.toUInt16.toUInt32.toInt32)), (.int (2 : Int32)), (.ref b1)])) rfl rfl (hb hby at_56)
  have V7 : Arv Z h7 b1 k1 .char (4 : Int32) [(.int (nar .char ((p5 &&& (255 : Int32)).toUInt32.toUInt16.toUInt32.toInt32))), (.int (nar .char ((((p5.toUInt32 >>> ((8 : Int32) &&& 31).toUInt32).toInt32) &&& (255 : Int32)).toUInt32.toUInt16.toUInt32.toInt32))), (.int (nar .char ((p6 &&& (255 : Int32)).toUInt32.toUInt16.toUInt32.toInt32))), (.int (0 : Int32))] (.int (0 : Int32)) := Arv.set Ar7 qq7 S7 N7_ H7 G7 (fits_nar_char _) W7 2 rfl (Nat.le_of_ble_eq_true rfl)
  have zs8 : n0 ≤ h7.size := Nat.le_trans zs6 (Keep.of_wr W7).1
  have N7 := Fr.snoc X7 N5 g_b1
  obtain ⟨cx9, Ar9, qq9, S9, N9_, H9, G9⟩ := id V7
  have hin9 : ¬ ((3 : Int32) < 0 ∨ cx9.slots.size ≤ ((3 : Int32)).toNatClampNeg) := inb_of S9 ⟨by decide, by decide⟩
  obtain ⟨T9, h9, X9, e9, W9, st9⟩ := stC X7 hx hZ e7 Ar9 (j := (3 : Int32)) hin9 (g := (mkF m 70 #[.val (.int p1), .val (.int p2), .val (.int p3), .val (.int p4), .val (.int p5), .val (.int p6), .val (.int ((1 : Int32) + (p1 &&& (3 : Int32)))), .val (.int (1 : Int32)), .val (.ref b1), .unset, .unset, .unset, .unset, .unset] [(.int ((((p6.toUInt32 >>> ((8 : Int32) &&& 31).toUInt32).toInt32) &&& (255 : Int32)).toUInt32.toUInt16.toUInt32.toInt32)), (.int (3 : Int32)), (.ref b1)])) rfl rfl (hb hby at_70)
  have V9 : Arv Z h9 b1 k1 .char (4 : Int32) [(.int (nar .char ((p5 &&& (255 : Int32)).toUInt32.toUInt16.toUInt32.toInt32))), (.int (nar .char ((((p5.toUInt32 >>> ((8 : Int32) &&& 31).toUInt32).toInt32) &&& (255 : Int32)).toUInt32.toUInt16.toUInt32.toInt32))), (.int (nar .char ((p6 &&& (255 : Int32)).toUInt32.toUInt16.toUInt32.toInt32))), (.int (nar .char ((((p6.toUInt32 >>> ((8 : Int32) &&& 31).toUInt32).toInt32) &&& (255 : Int32)).toUInt32.toUInt16.toUInt32.toInt32)))] (.int (0 : Int32)) := Arv.set Ar9 qq9 S9 N9_ H9 G9 (fits_nar_char _) W9 3 rfl (Nat.le_of_ble_eq_true rfl)
  have zs10 : n0 ≤ h9.size := Nat.le_trans zs8 (Keep.of_wr W9).1
  have N9 := Fr.snoc X9 N7 g_b1
  have pre11 : ∀ t, Steps p.tables e below (T9.setTop (mkF m 74 #[.val (.int p1), .val (.int p2), .val (.int p3), .val (.int p4), .val (.int p5), .val (.int p6), .val (.int ((1 : Int32) + (p1 &&& (3 : Int32)))), .val (.int (1 : Int32)), .val (.ref b1), .unset, .unset, .unset, .unset, .unset] [(.int (p3 &&& (1 : Int32)))])) t → Steps p.tables e below (s₁.setTop (entryFrame m #[(.int p1), (.int p2), (.int p3), (.int p4), (.int p5), (.int p6)] maxLocals)) t := fun t kt => by
    refine pre0 _ ?_
    show Steps p.tables e below (s₁.setTop (mkF m 0 #[.val (.int p1), .val (.int p2), .val (.int p3), .val (.int p4), .val (.int p5), .val (.int p6), .unset, .unset, .unset, .unset, .unset, .unset, .unset, .unset] [])) _
    refine own_blk X0 hx bl0_0_6 (own_hb hby bd0_0_6) (pc' := 7) (Ls' := #[.val (.int p1), .val (.int p2), .val (.int p3), .val (.int p4), .val (.int p5), .val (.int p6), .val (.int ((1 : Int32) + (p1 &&& (3 : Int32)))), .unset, .unset, .unset, .unset, .unset, .unset, .unset]) (st' := []) rfl ?_
    refine own_blk X0 hx bl0_7_1 (own_hb hby bd0_7_1) (pc' := 8) (Ls' := #[.val (.int p1), .val (.int p2), .val (.int p3), .val (.int p4), .val (.int p5), .val (.int p6), .val (.int ((1 : Int32) + (p1 &&& (3 : Int32)))), .unset, .unset, .unset, .unset, .unset, .unset, .unset]) (st' := [(.int p2)]) rfl ?_
    refine X0.ldcInt hx hown (mvT hZ (hw _ (List.mem_of_getElem? (i := 0) rfl))) (g := (mkF m 8 #[.val (.int p1), .val (.int p2), .val (.int p3), .val (.int p4), .val (.int p5), .val (.int p6), .val (.int ((1 : Int32) + (p1 &&& (3 : Int32)))), .unset, .unset, .unset, .unset, .unset, .unset, .unset] [(.int p2)])) rfl (hb hby at_8) _ ?_
    show Steps p.tables e below (s₁.setTop (mkF m 10 #[.val (.int p1), .val (.int p2), .val (.int p3), .val (.int p4), .val (.int p5), .val (.int p6), .val (.int ((1 : Int32) + (p1 &&& (3 : Int32)))), .unset, .unset, .unset, .unset, .unset, .unset, .unset] [(.int (2147483647 : Int32)), (.int p2)])) _
    refine own_blk X0 hx bl0_10_2 (own_hb hby bd0_10_2) (pc' := 13) (Ls' := #[.val (.int p1), .val (.int p2), .val (.int p3), .val (.int p4), .val (.int p5), .val (.int p6), .val (.int ((1 : Int32) + (p1 &&& (3 : Int32)))), .unset, .unset, .unset, .unset, .unset, .unset, .unset]) (st' := [(.int ((1 : Int32) + (p1 &&& (3 : Int32)))), (.int (p2 &&& (2147483647 : Int32)))]) rfl ?_
    refine iremM X0 hx rfl (hb hby at_13) rfl (own_n0 p1) ?_
    show Steps p.tables e below (s₁.setTop (mkF m 14 #[.val (.int p1), .val (.int p2), .val (.int p3), .val (.int p4), .val (.int p5), .val (.int p6), .val (.int ((1 : Int32) + (p1 &&& (3 : Int32)))), .unset, .unset, .unset, .unset, .unset, .unset, .unset] [(.int ((p2 &&& (2147483647 : Int32)) % ((1 : Int32) + (p1 &&& (3 : Int32)))))])) _
    rw [hn]
    show Steps p.tables e below (s₁.setTop (mkF m 14 #[.val (.int p1), .val (.int p2), .val (.int p3), .val (.int p4), .val (.int p5), .val (.int p6), .val (.int ((1 : Int32) + (p1 &&& (3 : Int32)))), .unset, .unset, .unset, .unset, .unset, .unset, .unset] [(.int (1 : Int32))])) _
    refine own_blk X0 hx bl0_14_1 (own_hb hby bd0_14_1) (pc' := 16) (Ls' := #[.val (.int p1), .val (.int p2), .val (.int p3), .val (.int p4), .val (.int p5), .val (.int p6), .val (.int ((1 : Int32) + (p1 &&& (3 : Int32)))), .val (.int (1 : Int32)), .unset, .unset, .unset, .unset, .unset, .unset]) (st' := []) rfl ?_
    refine own_blk X0 hx bl0_16_1 (own_hb hby bd0_16_1) (pc' := 17) (Ls' := #[.val (.int p1), .val (.int p2), .val (.int p3), .val (.int p4), .val (.int p5), .val (.int p6), .val (.int ((1 : Int32) + (p1 &&& (3 : Int32)))), .val (.int (1 : Int32)), .unset, .unset, .unset, .unset, .unset, .unset]) (st' := [(.int (4 : Int32))]) rfl ?_
    refine st1 _ ?_
    show Steps p.tables e below (T1.setTop (mkF m 19 #[.val (.int p1), .val (.int p2), .val (.int p3), .val (.int p4), .val (.int p5), .val (.int p6), .val (.int ((1 : Int32) + (p1 &&& (3 : Int32)))), .val (.int (1 : Int32)), .unset, .unset, .unset, .unset, .unset, .unset] [(.ref b1)])) _
    refine own_blk X1 hx bl0_19_1 (own_hb hby bd0_19_1) (pc' := 21) (Ls' := #[.val (.int p1), .val (.int p2), .val (.int p3), .val (.int p4), .val (.int p5), .val (.int p6), .val (.int ((1 : Int32) + (p1 &&& (3 : Int32)))), .val (.int (1 : Int32)), .val (.ref b1), .unset, .unset, .unset, .unset, .unset]) (st' := []) rfl ?_
    refine own_blk X1 hx bl0_21_6 (own_hb hby bd0_21_6) (pc' := 31) (Ls' := #[.val (.int p1), .val (.int p2), .val (.int p3), .val (.int p4), .val (.int p5), .val (.int p6), .val (.int ((1 : Int32) + (p1 &&& (3 : Int32)))), .val (.int (1 : Int32)), .val (.ref b1), .unset, .unset, .unset, .unset, .unset]) (st' := [(.int ((p5 &&& (255 : Int32)).toUInt32.toUInt16.toUInt32.toInt32)), (.int (0 : Int32)), (.ref b1)]) rfl ?_
    refine st3 _ ?_
    show Steps p.tables e below (T3.setTop (mkF m 32 #[.val (.int p1), .val (.int p2), .val (.int p3), .val (.int p4), .val (.int p5), .val (.int p6), .val (.int ((1 : Int32) + (p1 &&& (3 : Int32)))), .val (.int (1 : Int32)), .val (.ref b1), .unset, .unset, .unset, .unset, .unset] [])) _
    refine own_blk X3 hx bl0_32_8 (own_hb hby bd0_32_8) (pc' := 45) (Ls' := #[.val (.int p1), .val (.int p2), .val (.int p3), .val (.int p4), .val (.int p5), .val (.int p6), .val (.int ((1 : Int32) + (p1 &&& (3 : Int32)))), .val (.int (1 : Int32)), .val (.ref b1), .unset, .unset, .unset, .unset, .unset]) (st' := [(.int ((((p5.toUInt32 >>> ((8 : Int32) &&& 31).toUInt32).toInt32) &&& (255 : Int32)).toUInt32.toUInt16.toUInt32.toInt32)), (.int (1 : Int32)), (.ref b1)]) rfl ?_
    refine st5 _ ?_
    show Steps p.tables e below (T5.setTop (mkF m 46 #[.val (.int p1), .val (.int p2), .val (.int p3), .val (.int p4), .val (.int p5), .val (.int p6), .val (.int ((1 : Int32) + (p1 &&& (3 : Int32)))), .val (.int (1 : Int32)), .val (.ref b1), .unset, .unset, .unset, .unset, .unset] [])) _
    refine own_blk X5 hx bl0_46_6 (own_hb hby bd0_46_6) (pc' := 56) (Ls' := #[.val (.int p1), .val (.int p2), .val (.int p3), .val (.int p4), .val (.int p5), .val (.int p6), .val (.int ((1 : Int32) + (p1 &&& (3 : Int32)))), .val (.int (1 : Int32)), .val (.ref b1), .unset, .unset, .unset, .unset, .unset]) (st' := [(.int ((p6 &&& (255 : Int32)).toUInt32.toUInt16.toUInt32.toInt32)), (.int (2 : Int32)), (.ref b1)]) rfl ?_
    refine st7 _ ?_
    show Steps p.tables e below (T7.setTop (mkF m 57 #[.val (.int p1), .val (.int p2), .val (.int p3), .val (.int p4), .val (.int p5), .val (.int p6), .val (.int ((1 : Int32) + (p1 &&& (3 : Int32)))), .val (.int (1 : Int32)), .val (.ref b1), .unset, .unset, .unset, .unset, .unset] [])) _
    refine own_blk X7 hx bl0_57_8 (own_hb hby bd0_57_8) (pc' := 70) (Ls' := #[.val (.int p1), .val (.int p2), .val (.int p3), .val (.int p4), .val (.int p5), .val (.int p6), .val (.int ((1 : Int32) + (p1 &&& (3 : Int32)))), .val (.int (1 : Int32)), .val (.ref b1), .unset, .unset, .unset, .unset, .unset]) (st' := [(.int ((((p6.toUInt32 >>> ((8 : Int32) &&& 31).toUInt32).toInt32) &&& (255 : Int32)).toUInt32.toUInt16.toUInt32.toInt32)), (.int (3 : Int32)), (.ref b1)]) rfl ?_
    refine st9 _ ?_
    show Steps p.tables e below (T9.setTop (mkF m 71 #[.val (.int p1), .val (.int p2), .val (.int p3), .val (.int p4), .val (.int p5), .val (.int p6), .val (.int ((1 : Int32) + (p1 &&& (3 : Int32)))), .val (.int (1 : Int32)), .val (.ref b1), .unset, .unset, .unset, .unset, .unset] [])) _
    refine own_blk X9 hx bl0_71_3 (own_hb hby bd0_71_3) (pc' := 74) (Ls' := #[.val (.int p1), .val (.int p2), .val (.int p3), .val (.int p4), .val (.int p5), .val (.int p6), .val (.int ((1 : Int32) + (p1 &&& (3 : Int32)))), .val (.int (1 : Int32)), .val (.ref b1), .unset, .unset, .unset, .unset, .unset]) (st' := [(.int (p3 &&& (1 : Int32)))]) rfl ?_
    exact kt
  by_cases hc12 : (p3 &&& (1 : Int32)) = (0 : Int32)
  · obtain ⟨cx13, Ar13, qq13, S13, N13_, H13, G13⟩ := id V9
    have hin13 : ¬ ((1 : Int32) < 0 ∨ cx13.slots.size ≤ ((1 : Int32)).toNatClampNeg) := inb_of S13 ⟨by decide, by decide⟩
    obtain ⟨T13, h13, X13, e13, W13, st13⟩ := stC X9 hx hZ e9 Ar13 (j := (1 : Int32)) hin13 (g := (mkF m 100 #[.val (.int p1), .val (.int p2), .val (.int p3), .val (.int p4), .val (.int p5), .val (.int p6), .val (.int ((1 : Int32) + (p1 &&& (3 : Int32)))), .val (.int (1 : Int32)), .val (.ref b1), .val (.int (0 : Int32)), .unset, .unset, .unset, .unset] [(.int (10 : Int32)), (.int (1 : Int32)), (.ref b1)])) rfl rfl (hb hby at_100)
    have V13 : Arv Z h13 b1 k1 .char (4 : Int32) [(.int (nar .char ((p5 &&& (255 : Int32)).toUInt32.toUInt16.toUInt32.toInt32))), (.int (nar .char (10 : Int32))), (.int (nar .char ((p6 &&& (255 : Int32)).toUInt32.toUInt16.toUInt32.toInt32))), (.int (nar .char ((((p6.toUInt32 >>> ((8 : Int32) &&& 31).toUInt32).toInt32) &&& (255 : Int32)).toUInt32.toUInt16.toUInt32.toInt32)))] (.int (0 : Int32)) := Arv.set Ar13 qq13 S13 N13_ H13 G13 (fits_nar_char _) W13 1 rfl (Nat.le_of_ble_eq_true rfl)
    have zs14 : n0 ≤ h13.size := Nat.le_trans zs10 (Keep.of_wr W13).1
    have N13 := Fr.snoc X13 N9 g_b1
    obtain ⟨_, T15, Lc15, X15, hQ15, st15⟩ := own_callS X13 hx hZ (y := (⟨"com/example/endcon/endcon/yaml/CursorNewLinePinLaw", "pick", "(I)C"⟩ : MethodName)) hown (hw _ (List.mem_of_getElem? (i := 2) rfl)) (hw _ (List.mem_of_getElem? (i := 3) rfl)) (hw _ (List.mem_of_getElem? (i := 4) rfl)) (hw _ (List.mem_of_getElem? (i := 5) rfl)) (by decide) (W := 2) (argsL := [(.int p4)]) (rest := [(.int (2 : Int32)), (.ref b1)]) (rm1 l Z a0 hw [] p4 h13 n0 zs14 ) (by decide) (by decide) (c' := 1) (s' := 4) rfl rfl (by decide) (by decide) e13 (g := (mkF m 116 #[.val (.int p1), .val (.int p2), .val (.int p3), .val (.int p4), .val (.int p5), .val (.int p6), .val (.int ((1 : Int32) + (p1 &&& (3 : Int32)))), .val (.int (1 : Int32)), .val (.ref b1), .val (.int (0 : Int32)), .unset, .unset, .unset, .unset] [(.int p4), (.int (2 : Int32)), (.ref b1)])) rfl (by rw [hml]; rfl) (lenOf pd_0_0 rfl) rfl (by show 2 * 0 + _ ≤ _; exact Nat.le_of_eq rfl) (hb hby at_116)
    obtain ⟨rfl, N15q, e15⟩ := hQ15
    have N15 := Fr.app N13 N15q
    obtain ⟨cx16, Ar16, qq16, S16, N16_, H16, G16⟩ := id V13
    have hin16 : ¬ ((2 : Int32) < 0 ∨ cx16.slots.size ≤ ((2 : Int32)).toNatClampNeg) := inb_of S16 ⟨by decide, by decide⟩
    obtain ⟨T16, h16, X16, e16, W16, st16⟩ := stC X15 hx hZ e15 Ar16 (j := (2 : Int32)) hin16 (g := (mkF m 119 #[.val (.int p1), .val (.int p2), .val (.int p3), .val (.int p4), .val (.int p5), .val (.int p6), .val (.int ((1 : Int32) + (p1 &&& (3 : Int32)))), .val (.int (1 : Int32)), .val (.ref b1), .val (.int (0 : Int32)), .unset, .unset, .unset, .unset] [(.int (f1 p4)), (.int (2 : Int32)), (.ref b1)])) rfl rfl (hb hby at_119)
    have V16 : Arv Z h16 b1 k1 .char (4 : Int32) [(.int (nar .char ((p5 &&& (255 : Int32)).toUInt32.toUInt16.toUInt32.toInt32))), (.int (nar .char (10 : Int32))), (.int (nar .char (f1 p4))), (.int (nar .char ((((p6.toUInt32 >>> ((8 : Int32) &&& 31).toUInt32).toInt32) &&& (255 : Int32)).toUInt32.toUInt16.toUInt32.toInt32)))] (.int (0 : Int32)) := Arv.set Ar16 qq16 S16 N16_ H16 G16 (fits_nar_char _) W16 2 rfl (Nat.le_of_ble_eq_true rfl)
    have zs17 : n0 ≤ h16.size := Nat.le_trans zs14 (Keep.of_wr W16).1
    have N16 := Fr.snoc X16 N15 g_b1
    obtain ⟨T18, h18, X18, e18, E18, A18, D18, -, st18⟩ := newO X16 hx hZ hown (hw _ (List.mem_of_getElem? (i := 6) rfl)) (hw _ (List.mem_of_getElem? (i := 7) rfl)) (hw _ (List.mem_of_getElem? (i := 8) rfl)) e16 (g := (mkF m 120 #[.val (.int p1), .val (.int p2), .val (.int p3), .val (.int p4), .val (.int p5), .val (.int p6), .val (.int ((1 : Int32) + (p1 &&& (3 : Int32)))), .val (.int (1 : Int32)), .val (.ref b1), .val (.int (0 : Int32)), .unset, .unset, .unset, .unset] [])) rfl (hb hby at_120) (by decide) (by decide)
    obtain ⟨b18, g18⟩ : ∃ z, z = h16.size := ⟨_, rfl⟩
    rw [← g18] at A18 D18 st18
    have ne_b1_b18 : b1 ≠ b18 := Nat.ne_of_lt (Nat.lt_of_lt_of_le V16.lt (Nat.le_of_eq g18.symm))
    have g_b18 : n0 ≤ b18 := Nat.le_trans zs17 (Nat.le_of_eq g18.symm)
    have zs19 : n0 ≤ h18.size := Nat.le_trans zs17 E18.1
    have F_line_b18 : Fld Z h18 b18 "com/example/endcon/endcon/yaml/Cursor" "line" "I" (.int (0 : Int32)) := D18 (Or.inl (hw _ (List.mem_of_getElem? (i := 24) rfl))) (ty := .int) (by decide)
    have F_blankLinesFrom_b18 : Fld Z h18 b18 "com/example/endcon/endcon/yaml/Cursor" "blankLinesFrom" "I" (.int (0 : Int32)) := D18 (Or.inl (hw _ (List.mem_of_getElem? (i := 26) rfl))) (ty := .int) (by decide)
    have F_countedIndex_b18 : Fld Z h18 b18 "com/example/endcon/endcon/yaml/Cursor" "countedIndex" "I" (.int (0 : Int32)) := D18 (Or.inl (hw _ (List.mem_of_getElem? (i := 28) rfl))) (ty := .int) (by decide)
    have F_file_b18 : Fld Z h18 b18 "com/example/endcon/endcon/yaml/Cursor" "file" "Ljava/lang/String;" .null := D18 (Or.inr (hw _ (List.mem_of_getElem? (i := 30) rfl))) (ty := (.object "java/lang/String")) (by decide)
    have F_text_b18 : Fld Z h18 b18 "com/example/endcon/endcon/yaml/Cursor" "text" "[C" .null := D18 (Or.inl (hw _ (List.mem_of_getElem? (i := 32) rfl))) (ty := (.array .char)) (by decide)
    have F_end_b18 : Fld Z h18 b18 "com/example/endcon/endcon/yaml/Cursor" "end" "I" (.int (0 : Int32)) := D18 (Or.inr (hw _ (List.mem_of_getElem? (i := 34) rfl))) (ty := .int) (by decide)
    have F_hasSurrogates_b18 : Fld Z h18 b18 "com/example/endcon/endcon/yaml/Cursor" "hasSurrogates" "Z" (.int (0 : Int32)) := D18 (Or.inr (hw _ (List.mem_of_getElem? (i := 41) rfl))) (ty := .boolean) (by decide)
    have F_pos_b18 : Fld Z h18 b18 "com/example/endcon/endcon/yaml/Cursor" "pos" "I" (.int (0 : Int32)) := D18 (Or.inl (hw _ (List.mem_of_getElem? (i := 49) rfl))) (ty := .int) (by decide)
    have F_lineStart_b18 : Fld Z h18 b18 "com/example/endcon/endcon/yaml/Cursor" "lineStart" "I" (.int (0 : Int32)) := D18 (Or.inl (hw _ (List.mem_of_getElem? (i := 56) rfl))) (ty := .int) (by decide)
    have pre20 : ∀ t, Steps p.tables e below (T18.setTop (mkF m 124 #[.val (.int p1), .val (.int p2), .val (.int p3), .val (.int p4), .val (.int p5), .val (.int p6), .val (.int ((1 : Int32) + (p1 &&& (3 : Int32)))), .val (.int (1 : Int32)), .val (.ref b1), .val (.int (0 : Int32)), .unset, .unset, .unset, .unset] [(.ref b18), (.ref b18)])) t → Steps p.tables e below (s₁.setTop (entryFrame m #[(.int p1), (.int p2), (.int p3), (.int p4), (.int p5), (.int p6)] maxLocals)) t := fun t kt => by
      refine pre11 _ ?_
      show Steps p.tables e below (T9.setTop (mkF m 74 #[.val (.int p1), .val (.int p2), .val (.int p3), .val (.int p4), .val (.int p5), .val (.int p6), .val (.int ((1 : Int32) + (p1 &&& (3 : Int32)))), .val (.int (1 : Int32)), .val (.ref b1), .unset, .unset, .unset, .unset, .unset] [(.int (p3 &&& (1 : Int32)))])) _
      refine XS.ifYes X9.here hx rfl (pc0 := 74) (pc' := 81) rfl (hb hby at_74) rfl ((if0 _ _).trans (teq hc12).1) (by decide) (by decide) ?_
      show Steps p.tables e below (T9.setTop (mkF m 81 #[.val (.int p1), .val (.int p2), .val (.int p3), .val (.int p4), .val (.int p5), .val (.int p6), .val (.int ((1 : Int32) + (p1 &&& (3 : Int32)))), .val (.int (1 : Int32)), .val (.ref b1), .unset, .unset, .unset, .unset, .unset] [])) _
      refine own_blk X9 hx bl0_81_2 (own_hb hby bd0_81_2) (pc' := 84) (Ls' := #[.val (.int p1), .val (.int p2), .val (.int p3), .val (.int p4), .val (.int p5), .val (.int p6), .val (.int ((1 : Int32) + (p1 &&& (3 : Int32)))), .val (.int (1 : Int32)), .val (.ref b1), .val (.int (0 : Int32)), .unset, .unset, .unset, .unset]) (st' := []) rfl ?_
      refine own_blk X9 hx bl0_84_3 (own_hb hby bd0_84_3) (pc' := 90) (Ls' := #[.val (.int p1), .val (.int p2), .val (.int p3), .val (.int p4), .val (.int p5), .val (.int p6), .val (.int ((1 : Int32) + (p1 &&& (3 : Int32)))), .val (.int (1 : Int32)), .val (.ref b1), .val (.int (0 : Int32)), .unset, .unset, .unset, .unset]) (st' := [(.int (0 : Int32)), (.int (1 : Int32)), (.ref b1)]) rfl ?_
      refine XS.ifYes X9.here hx rfl (pc0 := 90) (pc' := 98) rfl (hb hby at_90) rfl ((if0 _ _).trans (teq (by decide : (0 : Int32) = (0 : Int32))).1) (by decide) (by decide) ?_
      show Steps p.tables e below (T9.setTop (mkF m 98 #[.val (.int p1), .val (.int p2), .val (.int p3), .val (.int p4), .val (.int p5), .val (.int p6), .val (.int ((1 : Int32) + (p1 &&& (3 : Int32)))), .val (.int (1 : Int32)), .val (.ref b1), .val (.int (0 : Int32)), .unset, .unset, .unset, .unset] [(.int (1 : Int32)), (.ref b1)])) _
      refine own_blk X9 hx bl0_98_1 (own_hb hby bd0_98_1) (pc' := 100) (Ls' := #[.val (.int p1), .val (.int p2), .val (.int p3), .val (.int p4), .val (.int p5), .val (.int p6), .val (.int ((1 : Int32) + (p1 &&& (3 : Int32)))), .val (.int (1 : Int32)), .val (.ref b1), .val (.int (0 : Int32)), .unset, .unset, .unset, .unset]) (st' := [(.int (10 : Int32)), (.int (1 : Int32)), (.ref b1)]) rfl ?_
      refine st13 _ ?_
      show Steps p.tables e below (T13.setTop (mkF m 101 #[.val (.int p1), .val (.int p2), .val (.int p3), .val (.int p4), .val (.int p5), .val (.int p6), .val (.int ((1 : Int32) + (p1 &&& (3 : Int32)))), .val (.int (1 : Int32)), .val (.ref b1), .val (.int (0 : Int32)), .unset, .unset, .unset, .unset] [])) _
      refine own_blk X13 hx bl0_101_4 (own_hb hby bd0_101_4) (pc' := 106) (Ls' := #[.val (.int p1), .val (.int p2), .val (.int p3), .val (.int p4), .val (.int p5), .val (.int p6), .val (.int ((1 : Int32) + (p1 &&& (3 : Int32)))), .val (.int (1 : Int32)), .val (.ref b1), .val (.int (0 : Int32)), .unset, .unset, .unset, .unset]) (st' := [(.int (4 : Int32)), (.int (2 : Int32))]) rfl ?_
      refine XS.icmpNo X13.here hx rfl (hb hby at_106) rfl (tlt (by decide : (2 : Int32) < (4 : Int32))).2.1 ?_
      show Steps p.tables e below (T13.setTop (mkF m 109 #[.val (.int p1), .val (.int p2), .val (.int p3), .val (.int p4), .val (.int p5), .val (.int p6), .val (.int ((1 : Int32) + (p1 &&& (3 : Int32)))), .val (.int (1 : Int32)), .val (.ref b1), .val (.int (0 : Int32)), .unset, .unset, .unset, .unset] [])) _
      refine own_blk X13 hx bl0_109_5 (own_hb hby bd0_109_5) (pc' := 116) (Ls' := #[.val (.int p1), .val (.int p2), .val (.int p3), .val (.int p4), .val (.int p5), .val (.int p6), .val (.int ((1 : Int32) + (p1 &&& (3 : Int32)))), .val (.int (1 : Int32)), .val (.ref b1), .val (.int (0 : Int32)), .unset, .unset, .unset, .unset]) (st' := [(.int p4), (.int (2 : Int32)), (.ref b1)]) rfl ?_
      refine st15 _ ?_
      show Steps p.tables e below (T15.setTop (mkF m 119 #[.val (.int p1), .val (.int p2), .val (.int p3), .val (.int p4), .val (.int p5), .val (.int p6), .val (.int ((1 : Int32) + (p1 &&& (3 : Int32)))), .val (.int (1 : Int32)), .val (.ref b1), .val (.int (0 : Int32)), .unset, .unset, .unset, .unset] [(.int (f1 p4)), (.int (2 : Int32)), (.ref b1)])) _
      refine st16 _ ?_
      show Steps p.tables e below (T16.setTop (mkF m 120 #[.val (.int p1), .val (.int p2), .val (.int p3), .val (.int p4), .val (.int p5), .val (.int p6), .val (.int ((1 : Int32) + (p1 &&& (3 : Int32)))), .val (.int (1 : Int32)), .val (.ref b1), .val (.int (0 : Int32)), .unset, .unset, .unset, .unset] [])) _
      refine st18 _ ?_
      show Steps p.tables e below (T18.setTop (mkF m 123 #[.val (.int p1), .val (.int p2), .val (.int p3), .val (.int p4), .val (.int p5), .val (.int p6), .val (.int ((1 : Int32) + (p1 &&& (3 : Int32)))), .val (.int (1 : Int32)), .val (.ref b1), .val (.int (0 : Int32)), .unset, .unset, .unset, .unset] [(.ref b18)])) _
      refine own_blk X18 hx bl0_123_1 (own_hb hby bd0_123_1) (pc' := 124) (Ls' := #[.val (.int p1), .val (.int p2), .val (.int p3), .val (.int p4), .val (.int p5), .val (.int p6), .val (.int ((1 : Int32) + (p1 &&& (3 : Int32)))), .val (.int (1 : Int32)), .val (.ref b1), .val (.int (0 : Int32)), .unset, .unset, .unset, .unset]) (st' := [(.ref b18), (.ref b18)]) rfl ?_
      exact kt
    have hS21a : s.Since s.vm h18.size := (State.WarmedH.refl s).since _
    obtain ⟨sa21, T21, h21, kk21, X21, e21, E21, hS21, hkk21, hZ, hown, st21⟩ := ldcS (s := s) (vm0 := s.vm) X18 hx hZ hown (hw _ (List.mem_of_getElem? (i := 9) rfl)) (own_ws hw) e18 hS21a (Nat.le_refl _) (g := (mkF m 124 #[.val (.int p1), .val (.int p2), .val (.int p3), .val (.int p4), .val (.int p5), .val (.int p6), .val (.int ((1 : Int32) + (p1 &&& (3 : Int32)))), .val (.int (1 : Int32)), .val (.ref b1), .val (.int (0 : Int32)), .unset, .unset, .unset, .unset] [(.ref b18), (.ref b18)])) rfl (hb hby at_124) (n := 4) (by decide) (by decide) (by decide) (by decide)
    have zs22 : n0 ≤ h21.size := Nat.le_trans zs19 E21.1
    have fa24 : Exa Z h21 b18 "com/example/endcon/endcon/yaml/Cursor" := (A18.ext E21)
    have fa25 : Fld Z h21 b18 "com/example/endcon/endcon/yaml/Cursor" "line" "I" (.int (0 : Int32)) := (F_line_b18.ext E21)
    have fa26 : Fld Z h21 b18 "com/example/endcon/endcon/yaml/Cursor" "blankLinesFrom" "I" (.int (0 : Int32)) := (F_blankLinesFrom_b18.ext E21)
    have fa27 : Fld Z h21 b18 "com/example/endcon/endcon/yaml/Cursor" "countedIndex" "I" (.int (0 : Int32)) := (F_countedIndex_b18.ext E21)
    have fa28 : Fld Z h21 b18 "com/example/endcon/endcon/yaml/Cursor" "file" "Ljava/lang/String;" .null := (F_file_b18.ext E21)
    have fa29 : Fld Z h21 b18 "com/example/endcon/endcon/yaml/Cursor" "text" "[C" .null := (F_text_b18.ext E21)
    have fa30 : Fld Z h21 b18 "com/example/endcon/endcon/yaml/Cursor" "end" "I" (.int (0 : Int32)) := (F_end_b18.ext E21)
    have fa31 : Fld Z h21 b18 "com/example/endcon/endcon/yaml/Cursor" "hasSurrogates" "Z" (.int (0 : Int32)) := (F_hasSurrogates_b18.ext E21)
    have fa32 : Fld Z h21 b18 "com/example/endcon/endcon/yaml/Cursor" "pos" "I" (.int (0 : Int32)) := (F_pos_b18.ext E21)
    have fa33 : Fld Z h21 b18 "com/example/endcon/endcon/yaml/Cursor" "lineStart" "I" (.int (0 : Int32)) := (F_lineStart_b18.ext E21)
    have fa34 : Arv Z h21 b1 k1 .char (4 : Int32) [(.int (nar .char ((p5 &&& (255 : Int32)).toUInt32.toUInt16.toUInt32.toInt32))), (.int (nar .char (10 : Int32))), (.int (nar .char (f1 p4))), (.int (nar .char ((((p6.toUInt32 >>> ((8 : Int32) &&& 31).toUInt32).toInt32) &&& (255 : Int32)).toUInt32.toUInt16.toUInt32.toInt32)))] (.int (0 : Int32)) := ((V16.ext E18).ext E21)
    obtain ⟨_, T23, Lc23, X23, hQ23, st23⟩ := own_callI X21 hx hZ (y := (⟨"com/example/endcon/endcon/yaml/Cursor", "<init>", "(Ljava/lang/String;[CI)V"⟩ : MethodName)) rfl hown (hw _ (List.mem_of_getElem? (i := 17) rfl)) (hw _ (List.mem_of_getElem? (i := 18) rfl)) (hw _ (List.mem_of_getElem? (i := 8) rfl)) (hw _ (List.mem_of_getElem? (i := 19) rfl)) (by decide) (W := 1) (a := b18) (argsL := [(.ref sa21), (.ref b1), (.int ((1 : Int32) + (p1 &&& (3 : Int32))))]) (rest := [(.ref b18)]) (rm2 l Z a0 hw [] b18 sa21 b1 ((1 : Int32) + (p1 &&& (3 : Int32))) (nar .char ((p5 &&& (255 : Int32)).toUInt32.toUInt16.toUInt32.toInt32)) (nar .char (10 : Int32)) (nar .char (f1 p4)) (nar .char ((((p6.toUInt32 >>> ((8 : Int32) &&& 31).toUInt32).toInt32) &&& (255 : Int32)).toUInt32.toUInt16.toUInt32.toInt32)) k1 h21 n0 zs22 fa24 fa25 fa26 fa27 fa28 fa29 fa30 fa31 fa32 fa33 g_b18 fa34 (Ne.symm ne_b1_b18) (own_n4 p1) (own_lt1 p5) (by decide) (own_ltp p4) (own_lt2 p6)) (by decide) (by decide) (c' := 4) (s' := 24) rfl rfl (by decide) (by decide) e21 (g := (mkF m 130 #[.val (.int p1), .val (.int p2), .val (.int p3), .val (.int p4), .val (.int p5), .val (.int p6), .val (.int ((1 : Int32) + (p1 &&& (3 : Int32)))), .val (.int (1 : Int32)), .val (.ref b1), .val (.int (0 : Int32)), .unset, .unset, .unset, .unset] [(.int ((1 : Int32) + (p1 &&& (3 : Int32)))), (.ref b1), (.ref sa21), (.ref b18), (.ref b18)])) rfl (by rw [hml]; rfl) (lenOf pd_0_1 rfl) rfl (by show 2 * 0 + _ ≤ _; exact Nat.le_of_eq rfl) (hb hby at_130)
    obtain ⟨rfl, N23q, K23, Ec23_a1, Fc23_a1_line, Fc23_a1_blankLinesFrom, Fc23_a1_countedIndex, Fc23_a1_file, Fc23_a1_text, Fc23_a1_end, Fc23_a1_hasSurrogates, Fc23_a1_pos, Fc23_a1_lineStart⟩ := hQ23
    have N23 := Fr.app N16 N23q
    have zk35 : kk21 ≤ T23.heap.size := Nat.le_trans hkk21 K23.1
    have zs36 : n0 ≤ T23.heap.size := Nat.le_trans zs22 K23.1
    obtain ⟨_, T37, Lc37, X37, hQ37, st37⟩ := own_callV X23 hx hZ (y := (⟨"com/example/endcon/endcon/yaml/Cursor", "moveTo", "(I)V"⟩ : MethodName)) hown (hw _ (List.mem_of_getElem? (i := 43) rfl)) (hw _ (List.mem_of_getElem? (i := 44) rfl)) (hw _ (List.mem_of_getElem? (i := 46) rfl)) (hw _ (List.mem_of_getElem? (i := 45) rfl)) (hw _ (List.mem_of_getElem? (i := 8) rfl)) (hw _ (List.mem_of_getElem? (i := 47) rfl)) (by decide) (W := 0) Ec23_a1 (argsL := [(.int (1 : Int32))]) (rest := []) (rm5 l Z a0 hw [] b18 (1 : Int32) b1 ((1 : Int32) + (p1 &&& (3 : Int32))) (0 : Int32) (1 : Int32) (0 : Int32) T23.heap n0 zs36 Ec23_a1 Fc23_a1_text Fc23_a1_end Fc23_a1_pos Fc23_a1_line Fc23_a1_lineStart g_b18) (by decide) (by decide) (c' := 4) (s' := 24) rfl rfl (by decide) (by decide) rfl (g := (mkF m 139 #[.val (.int p1), .val (.int p2), .val (.int p3), .val (.int p4), .val (.int p5), .val (.int p6), .val (.int ((1 : Int32) + (p1 &&& (3 : Int32)))), .val (.int (1 : Int32)), .val (.ref b1), .val (.int (0 : Int32)), .val (.ref b18), .unset, .unset, .unset] [(.int (1 : Int32)), (.ref b18)])) rfl (by rw [hml]; rfl) (lenOf pd_0_4 rfl) rfl (by show 2 * 0 + _ ≤ _; exact Nat.le_of_eq rfl) (hb hby at_139)
    obtain ⟨rfl, N37q, K37, Ec37_a1, Fc37_a1_text, Fc37_a1_end, Fc37_a1_pos, Fc37_a1_line, Fc37_a1_lineStart⟩ := hQ37
    have N37 := Fr.app N23 N37q
    have zk38 : kk21 ≤ T37.heap.size := Nat.le_trans zk35 K37.1
    have zs39 : n0 ≤ T37.heap.size := Nat.le_trans zs36 K37.1
    have fa41 : Arv Z T37.heap b1 k1 .char (4 : Int32) [(.int (nar .char ((p5 &&& (255 : Int32)).toUInt32.toUInt16.toUInt32.toInt32))), (.int (nar .char (10 : Int32))), (.int (nar .char (f1 p4))), (.int (nar .char ((((p6.toUInt32 >>> ((8 : Int32) &&& 31).toUInt32).toInt32) &&& (255 : Int32)).toUInt32.toUInt16.toUInt32.toInt32)))] (.int (0 : Int32)) := ((fa34.keep K23 (ninS ne_b1_b18 nin0)).keep K37 (ninS ne_b1_b18 nin0))
    obtain ⟨_, T40, Lc40, X40, hQ40, st40⟩ := own_callV X37 hx hZ (y := (⟨"com/example/endcon/endcon/yaml/Cursor", "newLine", "()V"⟩ : MethodName)) hown (hw _ (List.mem_of_getElem? (i := 50) rfl)) (hw _ (List.mem_of_getElem? (i := 51) rfl)) (hw _ (List.mem_of_getElem? (i := 53) rfl)) (hw _ (List.mem_of_getElem? (i := 52) rfl)) (hw _ (List.mem_of_getElem? (i := 8) rfl)) (hw _ (List.mem_of_getElem? (i := 54) rfl)) (by decide) (W := 0) Ec37_a1 (argsL := []) (rest := []) (rm6 l Z a0 hw [] b18 b1 (nar .char ((p5 &&& (255 : Int32)).toUInt32.toUInt16.toUInt32.toInt32)) (nar .char (10 : Int32)) (nar .char (f1 p4)) (nar .char ((((p6.toUInt32 >>> ((8 : Int32) &&& 31).toUInt32).toInt32) &&& (255 : Int32)).toUInt32.toUInt16.toUInt32.toInt32)) ((1 : Int32) + (p1 &&& (3 : Int32))) (1 : Int32) (1 : Int32) (0 : Int32) k1 T37.heap n0 zs39 Ec37_a1 Fc37_a1_text Fc37_a1_end Fc37_a1_pos Fc37_a1_line Fc37_a1_lineStart g_b18 fa41 ne_b1_b18 (by decide) (by decide) (fun _ => ⟨by decide, by decide⟩)) (by decide) (by decide) (c' := 4) (s' := 24) rfl rfl (by decide) (by decide) rfl (g := (mkF m 144 #[.val (.int p1), .val (.int p2), .val (.int p3), .val (.int p4), .val (.int p5), .val (.int p6), .val (.int ((1 : Int32) + (p1 &&& (3 : Int32)))), .val (.int (1 : Int32)), .val (.ref b1), .val (.int (0 : Int32)), .val (.ref b18), .unset, .unset, .unset] [(.ref b18)])) rfl (by rw [hml]; rfl) (lenOf pd_0_2 rfl) rfl (by show 2 * 0 + _ ≤ _; exact Nat.le_of_eq rfl) (hb hby at_144)
    obtain ⟨hv40, N40q, K40, Ec40_a1, Fc40_a1_text, Fc40_a1_end, Fc40_a1_pos, Fc40_a1_line, Fc40_a1_lineStart⟩ := hQ40
    have N40 := Fr.app N37 N40q
    subst hv40
    have lFc40_a1_pos : Fld Z T40.heap b18 "com/example/endcon/endcon/yaml/Cursor" "pos" "I" (.int ((1 : Int32) + (1 : Int32))) := by have q := Fc40_a1_pos; rw [f6_a1_pos, if_neg (show ¬ ((own_at4 (nar .char ((p5 &&& (255 : Int32)).toUInt32.toUInt16.toUInt32.toInt32)) (nar .char (10 : Int32)) (nar .char (f1 p4)) (nar .char ((((p6.toUInt32 >>> ((8 : Int32) &&& 31).toUInt32).toInt32) &&& (255 : Int32)).toUInt32.toUInt16.toUInt32.toInt32)) (1 : Int32)) = (13 : Int32)) from (by decide : ¬ ((nar .char (10 : Int32)) = (13 : Int32))))] at q; exact q
    have lFc40_a1_line : Fld Z T40.heap b18 "com/example/endcon/endcon/yaml/Cursor" "line" "I" (.int ((1 : Int32) + (1 : Int32))) := by have q := Fc40_a1_line; rw [f6_a1_line, if_neg (show ¬ ((own_at4 (nar .char ((p5 &&& (255 : Int32)).toUInt32.toUInt16.toUInt32.toInt32)) (nar .char (10 : Int32)) (nar .char (f1 p4)) (nar .char ((((p6.toUInt32 >>> ((8 : Int32) &&& 31).toUInt32).toInt32) &&& (255 : Int32)).toUInt32.toUInt16.toUInt32.toInt32)) (1 : Int32)) = (13 : Int32)) from (by decide : ¬ ((nar .char (10 : Int32)) = (13 : Int32))))] at q; exact q
    have lFc40_a1_lineStart : Fld Z T40.heap b18 "com/example/endcon/endcon/yaml/Cursor" "lineStart" "I" (.int ((1 : Int32) + (1 : Int32))) := by have q := Fc40_a1_lineStart; rw [f6_a1_lineStart, if_neg (show ¬ ((own_at4 (nar .char ((p5 &&& (255 : Int32)).toUInt32.toUInt16.toUInt32.toInt32)) (nar .char (10 : Int32)) (nar .char (f1 p4)) (nar .char ((((p6.toUInt32 >>> ((8 : Int32) &&& 31).toUInt32).toInt32) &&& (255 : Int32)).toUInt32.toUInt16.toUInt32.toInt32)) (1 : Int32)) = (13 : Int32)) from (by decide : ¬ ((nar .char (10 : Int32)) = (13 : Int32))))] at q; exact q
    have zk42 : kk21 ≤ T40.heap.size := Nat.le_trans zk38 K40.1
    have zs43 : n0 ≤ T40.heap.size := Nat.le_trans zs39 K40.1
    obtain ⟨_, T44, Lc44, X44, hQ44, st44⟩ := own_callV X40 hx hZ (y := (⟨"com/example/endcon/endcon/yaml/Cursor", "index", "()I"⟩ : MethodName)) hown (hw _ (List.mem_of_getElem? (i := 57) rfl)) (hw _ (List.mem_of_getElem? (i := 58) rfl)) (hw _ (List.mem_of_getElem? (i := 60) rfl)) (hw _ (List.mem_of_getElem? (i := 59) rfl)) (hw _ (List.mem_of_getElem? (i := 8) rfl)) (hw _ (List.mem_of_getElem? (i := 61) rfl)) (by decide) (W := 0) Ec40_a1 (argsL := []) (rest := []) (rm7 l Z a0 hw [] b18 ((1 : Int32) + (1 : Int32)) T40.heap n0 zs43 Ec40_a1 lFc40_a1_pos) (by decide) (by decide) (c' := 4) (s' := 24) rfl rfl (by decide) (by decide) rfl (g := (mkF m 237 #[.val (.int p1), .val (.int p2), .val (.int p3), .val (.int p4), .val (.int p5), .val (.int p6), .val (.int ((1 : Int32) + (p1 &&& (3 : Int32)))), .val (.int (1 : Int32)), .val (.ref b1), .val (.int (0 : Int32)), .val (.ref b18), .val (.int (2 : Int32)), .val (.int (2 : Int32)), .val (.int (2 : Int32))] [(.ref b18)])) rfl (by rw [hml]; rfl) (lenOf pd_0_5 rfl) rfl (by show 2 * 0 + _ ≤ _; exact Nat.le_of_eq rfl) (hb hby at_237)
    obtain ⟨hv44, N44q, e44⟩ := hQ44
    have N44 := Fr.app N40 N44q
    rw [f7] at hv44
    subst hv44
    obtain ⟨_, T45, Lc45, X45, hQ45, st45⟩ := own_callV X44 hx hZ (y := (⟨"com/example/endcon/endcon/yaml/Cursor", "line", "()I"⟩ : MethodName)) hown (hw _ (List.mem_of_getElem? (i := 62) rfl)) (hw _ (List.mem_of_getElem? (i := 63) rfl)) (hw _ (List.mem_of_getElem? (i := 65) rfl)) (hw _ (List.mem_of_getElem? (i := 64) rfl)) (hw _ (List.mem_of_getElem? (i := 8) rfl)) (hw _ (List.mem_of_getElem? (i := 66) rfl)) (by decide) (W := 0) Ec40_a1 (argsL := []) (rest := []) (rm8 l Z a0 hw [] b18 ((1 : Int32) + (1 : Int32)) T40.heap n0 zs43 Ec40_a1 lFc40_a1_line) (by decide) (by decide) (c' := 4) (s' := 24) rfl rfl (by decide) (by decide) e44 (g := (mkF m 247 #[.val (.int p1), .val (.int p2), .val (.int p3), .val (.int p4), .val (.int p5), .val (.int p6), .val (.int ((1 : Int32) + (p1 &&& (3 : Int32)))), .val (.int (1 : Int32)), .val (.ref b1), .val (.int (0 : Int32)), .val (.ref b18), .val (.int (2 : Int32)), .val (.int (2 : Int32)), .val (.int (2 : Int32))] [(.ref b18)])) rfl (by rw [hml]; rfl) (lenOf pd_0_5 rfl) rfl (by show 2 * 0 + _ ≤ _; exact Nat.le_of_eq rfl) (hb hby at_247)
    obtain ⟨hv45, N45q, e45⟩ := hQ45
    have N45 := Fr.app N44 N45q
    rw [f8] at hv45
    subst hv45
    obtain ⟨_, T46, Lc46, X46, hQ46, st46⟩ := own_callV X45 hx hZ (y := (⟨"com/example/endcon/endcon/yaml/Cursor", "lineStart", "()I"⟩ : MethodName)) hown (hw _ (List.mem_of_getElem? (i := 67) rfl)) (hw _ (List.mem_of_getElem? (i := 68) rfl)) (hw _ (List.mem_of_getElem? (i := 70) rfl)) (hw _ (List.mem_of_getElem? (i := 69) rfl)) (hw _ (List.mem_of_getElem? (i := 8) rfl)) (hw _ (List.mem_of_getElem? (i := 71) rfl)) (by decide) (W := 0) Ec40_a1 (argsL := []) (rest := []) (rm9 l Z a0 hw [] b18 ((1 : Int32) + (1 : Int32)) T40.heap n0 zs43 Ec40_a1 lFc40_a1_lineStart) (by decide) (by decide) (c' := 4) (s' := 24) rfl rfl (by decide) (by decide) e45 (g := (mkF m 257 #[.val (.int p1), .val (.int p2), .val (.int p3), .val (.int p4), .val (.int p5), .val (.int p6), .val (.int ((1 : Int32) + (p1 &&& (3 : Int32)))), .val (.int (1 : Int32)), .val (.ref b1), .val (.int (0 : Int32)), .val (.ref b18), .val (.int (2 : Int32)), .val (.int (2 : Int32)), .val (.int (2 : Int32))] [(.ref b18)])) rfl (by rw [hml]; rfl) (lenOf pd_0_5 rfl) rfl (by show 2 * 0 + _ ≤ _; exact Nat.le_of_eq rfl) (hb hby at_257)
    obtain ⟨hv46, N46q, e46⟩ := hQ46
    have N46 := Fr.app N45 N46q
    rw [f9] at hv46
    subst hv46
    obtain ⟨fs, hr, hrun, hended, hRW⟩ := X46.leaveW (s := s) hS21 (by rw [e46]; exact zk42) (v := some (.int (1 : Int32))) (fun h => by rw [Bd.returns] at h; cases h)
    refine ⟨_, _, pre20 _ ?_, hrun, hended, _, _, rfl, ?_, ⟨_, rfl⟩, hRW.2.1, hRW.2.2.1, hRW.2.2.2.mono (by decide) (by decide)⟩
    · show Steps p.tables e below (T18.setTop (mkF m 124 #[.val (.int p1), .val (.int p2), .val (.int p3), .val (.int p4), .val (.int p5), .val (.int p6), .val (.int ((1 : Int32) + (p1 &&& (3 : Int32)))), .val (.int (1 : Int32)), .val (.ref b1), .val (.int (0 : Int32)), .unset, .unset, .unset, .unset] [(.ref b18), (.ref b18)])) _
      refine st21 _ ?_
      show Steps p.tables e below (T21.setTop (mkF m 126 #[.val (.int p1), .val (.int p2), .val (.int p3), .val (.int p4), .val (.int p5), .val (.int p6), .val (.int ((1 : Int32) + (p1 &&& (3 : Int32)))), .val (.int (1 : Int32)), .val (.ref b1), .val (.int (0 : Int32)), .unset, .unset, .unset, .unset] [(.ref sa21), (.ref b18), (.ref b18)])) _
      refine own_blk X21 hx bl0_126_2 (own_hb hby bd0_126_2) (pc' := 130) (Ls' := #[.val (.int p1), .val (.int p2), .val (.int p3), .val (.int p4), .val (.int p5), .val (.int p6), .val (.int ((1 : Int32) + (p1 &&& (3 : Int32)))), .val (.int (1 : Int32)), .val (.ref b1), .val (.int (0 : Int32)), .unset, .unset, .unset, .unset]) (st' := [(.int ((1 : Int32) + (p1 &&& (3 : Int32)))), (.ref b1), (.ref sa21), (.ref b18), (.ref b18)]) rfl ?_
      refine st23 _ ?_
      show Steps p.tables e below (T23.setTop (mkF m 133 #[.val (.int p1), .val (.int p2), .val (.int p3), .val (.int p4), .val (.int p5), .val (.int p6), .val (.int ((1 : Int32) + (p1 &&& (3 : Int32)))), .val (.int (1 : Int32)), .val (.ref b1), .val (.int (0 : Int32)), .unset, .unset, .unset, .unset] [(.ref b18)])) _
      refine own_blk X23 hx bl0_133_1 (own_hb hby bd0_133_1) (pc' := 135) (Ls' := #[.val (.int p1), .val (.int p2), .val (.int p3), .val (.int p4), .val (.int p5), .val (.int p6), .val (.int ((1 : Int32) + (p1 &&& (3 : Int32)))), .val (.int (1 : Int32)), .val (.ref b1), .val (.int (0 : Int32)), .val (.ref b18), .unset, .unset, .unset]) (st' := []) rfl ?_
      refine own_blk X23 hx bl0_135_2 (own_hb hby bd0_135_2) (pc' := 139) (Ls' := #[.val (.int p1), .val (.int p2), .val (.int p3), .val (.int p4), .val (.int p5), .val (.int p6), .val (.int ((1 : Int32) + (p1 &&& (3 : Int32)))), .val (.int (1 : Int32)), .val (.ref b1), .val (.int (0 : Int32)), .val (.ref b18), .unset, .unset, .unset]) (st' := [(.int (1 : Int32)), (.ref b18)]) rfl ?_
      refine st37 _ ?_
      show Steps p.tables e below (T37.setTop (mkF m 142 #[.val (.int p1), .val (.int p2), .val (.int p3), .val (.int p4), .val (.int p5), .val (.int p6), .val (.int ((1 : Int32) + (p1 &&& (3 : Int32)))), .val (.int (1 : Int32)), .val (.ref b1), .val (.int (0 : Int32)), .val (.ref b18), .unset, .unset, .unset] [])) _
      refine own_blk X37 hx bl0_142_1 (own_hb hby bd0_142_1) (pc' := 144) (Ls' := #[.val (.int p1), .val (.int p2), .val (.int p3), .val (.int p4), .val (.int p5), .val (.int p6), .val (.int ((1 : Int32) + (p1 &&& (3 : Int32)))), .val (.int (1 : Int32)), .val (.ref b1), .val (.int (0 : Int32)), .val (.ref b18), .unset, .unset, .unset]) (st' := [(.ref b18)]) rfl ?_
      refine st40 _ ?_
      show Steps p.tables e below (T40.setTop (mkF m 147 #[.val (.int p1), .val (.int p2), .val (.int p3), .val (.int p4), .val (.int p5), .val (.int p6), .val (.int ((1 : Int32) + (p1 &&& (3 : Int32)))), .val (.int (1 : Int32)), .val (.ref b1), .val (.int (0 : Int32)), .val (.ref b18), .unset, .unset, .unset] [])) _
      refine own_blk X40 hx bl0_147_1 (own_hb hby bd0_147_1) (pc' := 149) (Ls' := #[.val (.int p1), .val (.int p2), .val (.int p3), .val (.int p4), .val (.int p5), .val (.int p6), .val (.int ((1 : Int32) + (p1 &&& (3 : Int32)))), .val (.int (1 : Int32)), .val (.ref b1), .val (.int (0 : Int32)), .val (.ref b18), .unset, .unset, .unset]) (st' := [(.int (0 : Int32))]) rfl ?_
      refine XS.ifYes X40.here hx rfl (pc0 := 149) (pc' := 176) rfl (hb hby at_149) rfl ((if0 _ _).trans (teq (by decide : (0 : Int32) = (0 : Int32))).1) (by decide) (by decide) ?_
      show Steps p.tables e below (T40.setTop (mkF m 176 #[.val (.int p1), .val (.int p2), .val (.int p3), .val (.int p4), .val (.int p5), .val (.int p6), .val (.int ((1 : Int32) + (p1 &&& (3 : Int32)))), .val (.int (1 : Int32)), .val (.ref b1), .val (.int (0 : Int32)), .val (.ref b18), .unset, .unset, .unset] [])) _
      refine own_blk X40 hx bl0_176_1 (own_hb hby bd0_176_1) (pc' := 178) (Ls' := #[.val (.int p1), .val (.int p2), .val (.int p3), .val (.int p4), .val (.int p5), .val (.int p6), .val (.int ((1 : Int32) + (p1 &&& (3 : Int32)))), .val (.int (1 : Int32)), .val (.ref b1), .val (.int (0 : Int32)), .val (.ref b18), .unset, .unset, .unset]) (st' := [(.int (0 : Int32))]) rfl ?_
      refine XS.ifYes X40.here hx rfl (pc0 := 178) (pc' := 220) rfl (hb hby at_178) rfl ((if0 _ _).trans (teq (by decide : (0 : Int32) = (0 : Int32))).1) (by decide) (by decide) ?_
      show Steps p.tables e below (T40.setTop (mkF m 220 #[.val (.int p1), .val (.int p2), .val (.int p3), .val (.int p4), .val (.int p5), .val (.int p6), .val (.int ((1 : Int32) + (p1 &&& (3 : Int32)))), .val (.int (1 : Int32)), .val (.ref b1), .val (.int (0 : Int32)), .val (.ref b18), .unset, .unset, .unset] [])) _
      refine own_blk X40 hx bl0_220_4 (own_hb hby bd0_220_4) (pc' := 226) (Ls' := #[.val (.int p1), .val (.int p2), .val (.int p3), .val (.int p4), .val (.int p5), .val (.int p6), .val (.int ((1 : Int32) + (p1 &&& (3 : Int32)))), .val (.int (1 : Int32)), .val (.ref b1), .val (.int (0 : Int32)), .val (.ref b18), .val (.int (2 : Int32)), .unset, .unset]) (st' := []) rfl ?_
      refine own_blk X40 hx bl0_226_2 (own_hb hby bd0_226_2) (pc' := 229) (Ls' := #[.val (.int p1), .val (.int p2), .val (.int p3), .val (.int p4), .val (.int p5), .val (.int p6), .val (.int ((1 : Int32) + (p1 &&& (3 : Int32)))), .val (.int (1 : Int32)), .val (.ref b1), .val (.int (0 : Int32)), .val (.ref b18), .val (.int (2 : Int32)), .val (.int (2 : Int32)), .unset]) (st' := []) rfl ?_
      refine own_blk X40 hx bl0_229_4 (own_hb hby bd0_229_4) (pc' := 235) (Ls' := #[.val (.int p1), .val (.int p2), .val (.int p3), .val (.int p4), .val (.int p5), .val (.int p6), .val (.int ((1 : Int32) + (p1 &&& (3 : Int32)))), .val (.int (1 : Int32)), .val (.ref b1), .val (.int (0 : Int32)), .val (.ref b18), .val (.int (2 : Int32)), .val (.int (2 : Int32)), .val (.int (2 : Int32))]) (st' := []) rfl ?_
      refine own_blk X40 hx bl0_235_1 (own_hb hby bd0_235_1) (pc' := 237) (Ls' := #[.val (.int p1), .val (.int p2), .val (.int p3), .val (.int p4), .val (.int p5), .val (.int p6), .val (.int ((1 : Int32) + (p1 &&& (3 : Int32)))), .val (.int (1 : Int32)), .val (.ref b1), .val (.int (0 : Int32)), .val (.ref b18), .val (.int (2 : Int32)), .val (.int (2 : Int32)), .val (.int (2 : Int32))]) (st' := [(.ref b18)]) rfl ?_
      refine st44 _ ?_
      show Steps p.tables e below (T44.setTop (mkF m 240 #[.val (.int p1), .val (.int p2), .val (.int p3), .val (.int p4), .val (.int p5), .val (.int p6), .val (.int ((1 : Int32) + (p1 &&& (3 : Int32)))), .val (.int (1 : Int32)), .val (.ref b1), .val (.int (0 : Int32)), .val (.ref b18), .val (.int (2 : Int32)), .val (.int (2 : Int32)), .val (.int (2 : Int32))] [(.int ((1 : Int32) + (1 : Int32)))])) _
      refine own_blk X44 hx bl0_240_1 (own_hb hby bd0_240_1) (pc' := 242) (Ls' := #[.val (.int p1), .val (.int p2), .val (.int p3), .val (.int p4), .val (.int p5), .val (.int p6), .val (.int ((1 : Int32) + (p1 &&& (3 : Int32)))), .val (.int (1 : Int32)), .val (.ref b1), .val (.int (0 : Int32)), .val (.ref b18), .val (.int (2 : Int32)), .val (.int (2 : Int32)), .val (.int (2 : Int32))]) (st' := [(.int (2 : Int32)), (.int ((1 : Int32) + (1 : Int32)))]) rfl ?_
      refine XS.icmpNo X44.here hx rfl (hb hby at_242) rfl (teq (show ((1 : Int32) + (1 : Int32)) = (2 : Int32) from (by decide : (2 : Int32) = (2 : Int32)))).2 ?_
      show Steps p.tables e below (T44.setTop (mkF m 245 #[.val (.int p1), .val (.int p2), .val (.int p3), .val (.int p4), .val (.int p5), .val (.int p6), .val (.int ((1 : Int32) + (p1 &&& (3 : Int32)))), .val (.int (1 : Int32)), .val (.ref b1), .val (.int (0 : Int32)), .val (.ref b18), .val (.int (2 : Int32)), .val (.int (2 : Int32)), .val (.int (2 : Int32))] [])) _
      refine own_blk X44 hx bl0_245_1 (own_hb hby bd0_245_1) (pc' := 247) (Ls' := #[.val (.int p1), .val (.int p2), .val (.int p3), .val (.int p4), .val (.int p5), .val (.int p6), .val (.int ((1 : Int32) + (p1 &&& (3 : Int32)))), .val (.int (1 : Int32)), .val (.ref b1), .val (.int (0 : Int32)), .val (.ref b18), .val (.int (2 : Int32)), .val (.int (2 : Int32)), .val (.int (2 : Int32))]) (st' := [(.ref b18)]) rfl ?_
      refine st45 _ ?_
      show Steps p.tables e below (T45.setTop (mkF m 250 #[.val (.int p1), .val (.int p2), .val (.int p3), .val (.int p4), .val (.int p5), .val (.int p6), .val (.int ((1 : Int32) + (p1 &&& (3 : Int32)))), .val (.int (1 : Int32)), .val (.ref b1), .val (.int (0 : Int32)), .val (.ref b18), .val (.int (2 : Int32)), .val (.int (2 : Int32)), .val (.int (2 : Int32))] [(.int ((1 : Int32) + (1 : Int32)))])) _
      refine own_blk X45 hx bl0_250_1 (own_hb hby bd0_250_1) (pc' := 252) (Ls' := #[.val (.int p1), .val (.int p2), .val (.int p3), .val (.int p4), .val (.int p5), .val (.int p6), .val (.int ((1 : Int32) + (p1 &&& (3 : Int32)))), .val (.int (1 : Int32)), .val (.ref b1), .val (.int (0 : Int32)), .val (.ref b18), .val (.int (2 : Int32)), .val (.int (2 : Int32)), .val (.int (2 : Int32))]) (st' := [(.int (2 : Int32)), (.int ((1 : Int32) + (1 : Int32)))]) rfl ?_
      refine XS.icmpNo X45.here hx rfl (hb hby at_252) rfl (teq (show ((1 : Int32) + (1 : Int32)) = (2 : Int32) from (by decide : (2 : Int32) = (2 : Int32)))).2 ?_
      show Steps p.tables e below (T45.setTop (mkF m 255 #[.val (.int p1), .val (.int p2), .val (.int p3), .val (.int p4), .val (.int p5), .val (.int p6), .val (.int ((1 : Int32) + (p1 &&& (3 : Int32)))), .val (.int (1 : Int32)), .val (.ref b1), .val (.int (0 : Int32)), .val (.ref b18), .val (.int (2 : Int32)), .val (.int (2 : Int32)), .val (.int (2 : Int32))] [])) _
      refine own_blk X45 hx bl0_255_1 (own_hb hby bd0_255_1) (pc' := 257) (Ls' := #[.val (.int p1), .val (.int p2), .val (.int p3), .val (.int p4), .val (.int p5), .val (.int p6), .val (.int ((1 : Int32) + (p1 &&& (3 : Int32)))), .val (.int (1 : Int32)), .val (.ref b1), .val (.int (0 : Int32)), .val (.ref b18), .val (.int (2 : Int32)), .val (.int (2 : Int32)), .val (.int (2 : Int32))]) (st' := [(.ref b18)]) rfl ?_
      refine st46 _ ?_
      show Steps p.tables e below (T46.setTop (mkF m 260 #[.val (.int p1), .val (.int p2), .val (.int p3), .val (.int p4), .val (.int p5), .val (.int p6), .val (.int ((1 : Int32) + (p1 &&& (3 : Int32)))), .val (.int (1 : Int32)), .val (.ref b1), .val (.int (0 : Int32)), .val (.ref b18), .val (.int (2 : Int32)), .val (.int (2 : Int32)), .val (.int (2 : Int32))] [(.int ((1 : Int32) + (1 : Int32)))])) _
      refine own_blk X46 hx bl0_260_1 (own_hb hby bd0_260_1) (pc' := 262) (Ls' := #[.val (.int p1), .val (.int p2), .val (.int p3), .val (.int p4), .val (.int p5), .val (.int p6), .val (.int ((1 : Int32) + (p1 &&& (3 : Int32)))), .val (.int (1 : Int32)), .val (.ref b1), .val (.int (0 : Int32)), .val (.ref b18), .val (.int (2 : Int32)), .val (.int (2 : Int32)), .val (.int (2 : Int32))]) (st' := [(.int (2 : Int32)), (.int ((1 : Int32) + (1 : Int32)))]) rfl ?_
      refine XS.icmpNo X46.here hx rfl (hb hby at_262) rfl (teq (show ((1 : Int32) + (1 : Int32)) = (2 : Int32) from (by decide : (2 : Int32) = (2 : Int32)))).2 ?_
      show Steps p.tables e below (T46.setTop (mkF m 265 #[.val (.int p1), .val (.int p2), .val (.int p3), .val (.int p4), .val (.int p5), .val (.int p6), .val (.int ((1 : Int32) + (p1 &&& (3 : Int32)))), .val (.int (1 : Int32)), .val (.ref b1), .val (.int (0 : Int32)), .val (.ref b18), .val (.int (2 : Int32)), .val (.int (2 : Int32)), .val (.int (2 : Int32))] [])) _
      refine own_blk X46 hx bl0_265_2 (own_hb hby bd0_265_2) (pc' := 270) (Ls' := #[.val (.int p1), .val (.int p2), .val (.int p3), .val (.int p4), .val (.int p5), .val (.int p6), .val (.int ((1 : Int32) + (p1 &&& (3 : Int32)))), .val (.int (1 : Int32)), .val (.ref b1), .val (.int (0 : Int32)), .val (.ref b18), .val (.int (2 : Int32)), .val (.int (2 : Int32)), .val (.int (2 : Int32))]) (st' := [(.int (1 : Int32))]) rfl ?_
      exact retN X46 hx (t := .boolean) Bd.returns (by simp) (hb hby at_270) hr
    · show Q0_1 Z p1 p2 p3 p4 p5 p6 h0 n0 _ T46.heap _
      rw [e46]
      exact ⟨by rw [f0_1, if_pos hc12], N46⟩
  · obtain ⟨cx47, Ar47, qq47, S47, N47_, H47, G47⟩ := id V9
    have hin47 : ¬ ((1 : Int32) < 0 ∨ cx47.slots.size ≤ ((1 : Int32)).toNatClampNeg) := inb_of S47 ⟨by decide, by decide⟩
    obtain ⟨T47, h47, X47, e47, W47, st47⟩ := stC X9 hx hZ e9 Ar47 (j := (1 : Int32)) hin47 (g := (mkF m 100 #[.val (.int p1), .val (.int p2), .val (.int p3), .val (.int p4), .val (.int p5), .val (.int p6), .val (.int ((1 : Int32) + (p1 &&& (3 : Int32)))), .val (.int (1 : Int32)), .val (.ref b1), .val (.int (1 : Int32)), .unset, .unset, .unset, .unset] [(.int (13 : Int32)), (.int (1 : Int32)), (.ref b1)])) rfl rfl (hb hby at_100)
    have V47 : Arv Z h47 b1 k1 .char (4 : Int32) [(.int (nar .char ((p5 &&& (255 : Int32)).toUInt32.toUInt16.toUInt32.toInt32))), (.int (nar .char (13 : Int32))), (.int (nar .char ((p6 &&& (255 : Int32)).toUInt32.toUInt16.toUInt32.toInt32))), (.int (nar .char ((((p6.toUInt32 >>> ((8 : Int32) &&& 31).toUInt32).toInt32) &&& (255 : Int32)).toUInt32.toUInt16.toUInt32.toInt32)))] (.int (0 : Int32)) := Arv.set Ar47 qq47 S47 N47_ H47 G47 (fits_nar_char _) W47 1 rfl (Nat.le_of_ble_eq_true rfl)
    have zs48 : n0 ≤ h47.size := Nat.le_trans zs10 (Keep.of_wr W47).1
    have N47 := Fr.snoc X47 N9 g_b1
    obtain ⟨_, T49, Lc49, X49, hQ49, st49⟩ := own_callS X47 hx hZ (y := (⟨"com/example/endcon/endcon/yaml/CursorNewLinePinLaw", "pick", "(I)C"⟩ : MethodName)) hown (hw _ (List.mem_of_getElem? (i := 2) rfl)) (hw _ (List.mem_of_getElem? (i := 3) rfl)) (hw _ (List.mem_of_getElem? (i := 4) rfl)) (hw _ (List.mem_of_getElem? (i := 5) rfl)) (by decide) (W := 2) (argsL := [(.int p4)]) (rest := [(.int (2 : Int32)), (.ref b1)]) (rm1 l Z a0 hw [] p4 h47 n0 zs48 ) (by decide) (by decide) (c' := 1) (s' := 4) rfl rfl (by decide) (by decide) e47 (g := (mkF m 116 #[.val (.int p1), .val (.int p2), .val (.int p3), .val (.int p4), .val (.int p5), .val (.int p6), .val (.int ((1 : Int32) + (p1 &&& (3 : Int32)))), .val (.int (1 : Int32)), .val (.ref b1), .val (.int (1 : Int32)), .unset, .unset, .unset, .unset] [(.int p4), (.int (2 : Int32)), (.ref b1)])) rfl (by rw [hml]; rfl) (lenOf pd_0_0 rfl) rfl (by show 2 * 0 + _ ≤ _; exact Nat.le_of_eq rfl) (hb hby at_116)
    obtain ⟨rfl, N49q, e49⟩ := hQ49
    have N49 := Fr.app N47 N49q
    obtain ⟨cx50, Ar50, qq50, S50, N50_, H50, G50⟩ := id V47
    have hin50 : ¬ ((2 : Int32) < 0 ∨ cx50.slots.size ≤ ((2 : Int32)).toNatClampNeg) := inb_of S50 ⟨by decide, by decide⟩
    obtain ⟨T50, h50, X50, e50, W50, st50⟩ := stC X49 hx hZ e49 Ar50 (j := (2 : Int32)) hin50 (g := (mkF m 119 #[.val (.int p1), .val (.int p2), .val (.int p3), .val (.int p4), .val (.int p5), .val (.int p6), .val (.int ((1 : Int32) + (p1 &&& (3 : Int32)))), .val (.int (1 : Int32)), .val (.ref b1), .val (.int (1 : Int32)), .unset, .unset, .unset, .unset] [(.int (f1 p4)), (.int (2 : Int32)), (.ref b1)])) rfl rfl (hb hby at_119)
    have V50 : Arv Z h50 b1 k1 .char (4 : Int32) [(.int (nar .char ((p5 &&& (255 : Int32)).toUInt32.toUInt16.toUInt32.toInt32))), (.int (nar .char (13 : Int32))), (.int (nar .char (f1 p4))), (.int (nar .char ((((p6.toUInt32 >>> ((8 : Int32) &&& 31).toUInt32).toInt32) &&& (255 : Int32)).toUInt32.toUInt16.toUInt32.toInt32)))] (.int (0 : Int32)) := Arv.set Ar50 qq50 S50 N50_ H50 G50 (fits_nar_char _) W50 2 rfl (Nat.le_of_ble_eq_true rfl)
    have zs51 : n0 ≤ h50.size := Nat.le_trans zs48 (Keep.of_wr W50).1
    have N50 := Fr.snoc X50 N49 g_b1
    obtain ⟨T52, h52, X52, e52, E52, A52, D52, -, st52⟩ := newO X50 hx hZ hown (hw _ (List.mem_of_getElem? (i := 6) rfl)) (hw _ (List.mem_of_getElem? (i := 7) rfl)) (hw _ (List.mem_of_getElem? (i := 8) rfl)) e50 (g := (mkF m 120 #[.val (.int p1), .val (.int p2), .val (.int p3), .val (.int p4), .val (.int p5), .val (.int p6), .val (.int ((1 : Int32) + (p1 &&& (3 : Int32)))), .val (.int (1 : Int32)), .val (.ref b1), .val (.int (1 : Int32)), .unset, .unset, .unset, .unset] [])) rfl (hb hby at_120) (by decide) (by decide)
    obtain ⟨b52, g52⟩ : ∃ z, z = h50.size := ⟨_, rfl⟩
    rw [← g52] at A52 D52 st52
    have ne_b1_b52 : b1 ≠ b52 := Nat.ne_of_lt (Nat.lt_of_lt_of_le V50.lt (Nat.le_of_eq g52.symm))
    have g_b52 : n0 ≤ b52 := Nat.le_trans zs51 (Nat.le_of_eq g52.symm)
    have zs53 : n0 ≤ h52.size := Nat.le_trans zs51 E52.1
    have F_line_b52 : Fld Z h52 b52 "com/example/endcon/endcon/yaml/Cursor" "line" "I" (.int (0 : Int32)) := D52 (Or.inl (hw _ (List.mem_of_getElem? (i := 24) rfl))) (ty := .int) (by decide)
    have F_blankLinesFrom_b52 : Fld Z h52 b52 "com/example/endcon/endcon/yaml/Cursor" "blankLinesFrom" "I" (.int (0 : Int32)) := D52 (Or.inl (hw _ (List.mem_of_getElem? (i := 26) rfl))) (ty := .int) (by decide)
    have F_countedIndex_b52 : Fld Z h52 b52 "com/example/endcon/endcon/yaml/Cursor" "countedIndex" "I" (.int (0 : Int32)) := D52 (Or.inl (hw _ (List.mem_of_getElem? (i := 28) rfl))) (ty := .int) (by decide)
    have F_file_b52 : Fld Z h52 b52 "com/example/endcon/endcon/yaml/Cursor" "file" "Ljava/lang/String;" .null := D52 (Or.inr (hw _ (List.mem_of_getElem? (i := 30) rfl))) (ty := (.object "java/lang/String")) (by decide)
    have F_text_b52 : Fld Z h52 b52 "com/example/endcon/endcon/yaml/Cursor" "text" "[C" .null := D52 (Or.inl (hw _ (List.mem_of_getElem? (i := 32) rfl))) (ty := (.array .char)) (by decide)
    have F_end_b52 : Fld Z h52 b52 "com/example/endcon/endcon/yaml/Cursor" "end" "I" (.int (0 : Int32)) := D52 (Or.inr (hw _ (List.mem_of_getElem? (i := 34) rfl))) (ty := .int) (by decide)
    have F_hasSurrogates_b52 : Fld Z h52 b52 "com/example/endcon/endcon/yaml/Cursor" "hasSurrogates" "Z" (.int (0 : Int32)) := D52 (Or.inr (hw _ (List.mem_of_getElem? (i := 41) rfl))) (ty := .boolean) (by decide)
    have F_pos_b52 : Fld Z h52 b52 "com/example/endcon/endcon/yaml/Cursor" "pos" "I" (.int (0 : Int32)) := D52 (Or.inl (hw _ (List.mem_of_getElem? (i := 49) rfl))) (ty := .int) (by decide)
    have F_lineStart_b52 : Fld Z h52 b52 "com/example/endcon/endcon/yaml/Cursor" "lineStart" "I" (.int (0 : Int32)) := D52 (Or.inl (hw _ (List.mem_of_getElem? (i := 56) rfl))) (ty := .int) (by decide)
    have pre54 : ∀ t, Steps p.tables e below (T52.setTop (mkF m 124 #[.val (.int p1), .val (.int p2), .val (.int p3), .val (.int p4), .val (.int p5), .val (.int p6), .val (.int ((1 : Int32) + (p1 &&& (3 : Int32)))), .val (.int (1 : Int32)), .val (.ref b1), .val (.int (1 : Int32)), .unset, .unset, .unset, .unset] [(.ref b52), (.ref b52)])) t → Steps p.tables e below (s₁.setTop (entryFrame m #[(.int p1), (.int p2), (.int p3), (.int p4), (.int p5), (.int p6)] maxLocals)) t := fun t kt => by
      refine pre11 _ ?_
      show Steps p.tables e below (T9.setTop (mkF m 74 #[.val (.int p1), .val (.int p2), .val (.int p3), .val (.int p4), .val (.int p5), .val (.int p6), .val (.int ((1 : Int32) + (p1 &&& (3 : Int32)))), .val (.int (1 : Int32)), .val (.ref b1), .unset, .unset, .unset, .unset, .unset] [(.int (p3 &&& (1 : Int32)))])) _
      refine XS.ifNo X9.here hx rfl (hb hby at_74) rfl ((if0 _ _).trans (feq hc12).1) ?_
      show Steps p.tables e below (T9.setTop (mkF m 77 #[.val (.int p1), .val (.int p2), .val (.int p3), .val (.int p4), .val (.int p5), .val (.int p6), .val (.int ((1 : Int32) + (p1 &&& (3 : Int32)))), .val (.int (1 : Int32)), .val (.ref b1), .unset, .unset, .unset, .unset, .unset] [])) _
      refine own_blk X9 hx bl0_77_3 (own_hb hby bd0_77_3) (pc' := 84) (Ls' := #[.val (.int p1), .val (.int p2), .val (.int p3), .val (.int p4), .val (.int p5), .val (.int p6), .val (.int ((1 : Int32) + (p1 &&& (3 : Int32)))), .val (.int (1 : Int32)), .val (.ref b1), .val (.int (1 : Int32)), .unset, .unset, .unset, .unset]) (st' := []) rfl ?_
      refine own_blk X9 hx bl0_84_3 (own_hb hby bd0_84_3) (pc' := 90) (Ls' := #[.val (.int p1), .val (.int p2), .val (.int p3), .val (.int p4), .val (.int p5), .val (.int p6), .val (.int ((1 : Int32) + (p1 &&& (3 : Int32)))), .val (.int (1 : Int32)), .val (.ref b1), .val (.int (1 : Int32)), .unset, .unset, .unset, .unset]) (st' := [(.int (1 : Int32)), (.int (1 : Int32)), (.ref b1)]) rfl ?_
      refine XS.ifNo X9.here hx rfl (hb hby at_90) rfl ((if0 _ _).trans (feq (by decide : ¬ ((1 : Int32) = (0 : Int32)))).1) ?_
      show Steps p.tables e below (T9.setTop (mkF m 93 #[.val (.int p1), .val (.int p2), .val (.int p3), .val (.int p4), .val (.int p5), .val (.int p6), .val (.int ((1 : Int32) + (p1 &&& (3 : Int32)))), .val (.int (1 : Int32)), .val (.ref b1), .val (.int (1 : Int32)), .unset, .unset, .unset, .unset] [(.int (1 : Int32)), (.ref b1)])) _
      refine own_blk X9 hx bl0_93_2 (own_hb hby bd0_93_2) (pc' := 100) (Ls' := #[.val (.int p1), .val (.int p2), .val (.int p3), .val (.int p4), .val (.int p5), .val (.int p6), .val (.int ((1 : Int32) + (p1 &&& (3 : Int32)))), .val (.int (1 : Int32)), .val (.ref b1), .val (.int (1 : Int32)), .unset, .unset, .unset, .unset]) (st' := [(.int (13 : Int32)), (.int (1 : Int32)), (.ref b1)]) rfl ?_
      refine st47 _ ?_
      show Steps p.tables e below (T47.setTop (mkF m 101 #[.val (.int p1), .val (.int p2), .val (.int p3), .val (.int p4), .val (.int p5), .val (.int p6), .val (.int ((1 : Int32) + (p1 &&& (3 : Int32)))), .val (.int (1 : Int32)), .val (.ref b1), .val (.int (1 : Int32)), .unset, .unset, .unset, .unset] [])) _
      refine own_blk X47 hx bl0_101_4 (own_hb hby bd0_101_4) (pc' := 106) (Ls' := #[.val (.int p1), .val (.int p2), .val (.int p3), .val (.int p4), .val (.int p5), .val (.int p6), .val (.int ((1 : Int32) + (p1 &&& (3 : Int32)))), .val (.int (1 : Int32)), .val (.ref b1), .val (.int (1 : Int32)), .unset, .unset, .unset, .unset]) (st' := [(.int (4 : Int32)), (.int (2 : Int32))]) rfl ?_
      refine XS.icmpNo X47.here hx rfl (hb hby at_106) rfl (tlt (by decide : (2 : Int32) < (4 : Int32))).2.1 ?_
      show Steps p.tables e below (T47.setTop (mkF m 109 #[.val (.int p1), .val (.int p2), .val (.int p3), .val (.int p4), .val (.int p5), .val (.int p6), .val (.int ((1 : Int32) + (p1 &&& (3 : Int32)))), .val (.int (1 : Int32)), .val (.ref b1), .val (.int (1 : Int32)), .unset, .unset, .unset, .unset] [])) _
      refine own_blk X47 hx bl0_109_5 (own_hb hby bd0_109_5) (pc' := 116) (Ls' := #[.val (.int p1), .val (.int p2), .val (.int p3), .val (.int p4), .val (.int p5), .val (.int p6), .val (.int ((1 : Int32) + (p1 &&& (3 : Int32)))), .val (.int (1 : Int32)), .val (.ref b1), .val (.int (1 : Int32)), .unset, .unset, .unset, .unset]) (st' := [(.int p4), (.int (2 : Int32)), (.ref b1)]) rfl ?_
      refine st49 _ ?_
      show Steps p.tables e below (T49.setTop (mkF m 119 #[.val (.int p1), .val (.int p2), .val (.int p3), .val (.int p4), .val (.int p5), .val (.int p6), .val (.int ((1 : Int32) + (p1 &&& (3 : Int32)))), .val (.int (1 : Int32)), .val (.ref b1), .val (.int (1 : Int32)), .unset, .unset, .unset, .unset] [(.int (f1 p4)), (.int (2 : Int32)), (.ref b1)])) _
      refine st50 _ ?_
      show Steps p.tables e below (T50.setTop (mkF m 120 #[.val (.int p1), .val (.int p2), .val (.int p3), .val (.int p4), .val (.int p5), .val (.int p6), .val (.int ((1 : Int32) + (p1 &&& (3 : Int32)))), .val (.int (1 : Int32)), .val (.ref b1), .val (.int (1 : Int32)), .unset, .unset, .unset, .unset] [])) _
      refine st52 _ ?_
      show Steps p.tables e below (T52.setTop (mkF m 123 #[.val (.int p1), .val (.int p2), .val (.int p3), .val (.int p4), .val (.int p5), .val (.int p6), .val (.int ((1 : Int32) + (p1 &&& (3 : Int32)))), .val (.int (1 : Int32)), .val (.ref b1), .val (.int (1 : Int32)), .unset, .unset, .unset, .unset] [(.ref b52)])) _
      refine own_blk X52 hx bl0_123_1 (own_hb hby bd0_123_1) (pc' := 124) (Ls' := #[.val (.int p1), .val (.int p2), .val (.int p3), .val (.int p4), .val (.int p5), .val (.int p6), .val (.int ((1 : Int32) + (p1 &&& (3 : Int32)))), .val (.int (1 : Int32)), .val (.ref b1), .val (.int (1 : Int32)), .unset, .unset, .unset, .unset]) (st' := [(.ref b52), (.ref b52)]) rfl ?_
      exact kt
    have hS55a : s.Since s.vm h52.size := (State.WarmedH.refl s).since _
    obtain ⟨sa55, T55, h55, kk55, X55, e55, E55, hS55, hkk55, hZ, hown, st55⟩ := ldcS (s := s) (vm0 := s.vm) X52 hx hZ hown (hw _ (List.mem_of_getElem? (i := 9) rfl)) (own_ws hw) e52 hS55a (Nat.le_refl _) (g := (mkF m 124 #[.val (.int p1), .val (.int p2), .val (.int p3), .val (.int p4), .val (.int p5), .val (.int p6), .val (.int ((1 : Int32) + (p1 &&& (3 : Int32)))), .val (.int (1 : Int32)), .val (.ref b1), .val (.int (1 : Int32)), .unset, .unset, .unset, .unset] [(.ref b52), (.ref b52)])) rfl (hb hby at_124) (n := 4) (by decide) (by decide) (by decide) (by decide)
    have zs56 : n0 ≤ h55.size := Nat.le_trans zs53 E55.1
    have fa58 : Exa Z h55 b52 "com/example/endcon/endcon/yaml/Cursor" := (A52.ext E55)
    have fa59 : Fld Z h55 b52 "com/example/endcon/endcon/yaml/Cursor" "line" "I" (.int (0 : Int32)) := (F_line_b52.ext E55)
    have fa60 : Fld Z h55 b52 "com/example/endcon/endcon/yaml/Cursor" "blankLinesFrom" "I" (.int (0 : Int32)) := (F_blankLinesFrom_b52.ext E55)
    have fa61 : Fld Z h55 b52 "com/example/endcon/endcon/yaml/Cursor" "countedIndex" "I" (.int (0 : Int32)) := (F_countedIndex_b52.ext E55)
    have fa62 : Fld Z h55 b52 "com/example/endcon/endcon/yaml/Cursor" "file" "Ljava/lang/String;" .null := (F_file_b52.ext E55)
    have fa63 : Fld Z h55 b52 "com/example/endcon/endcon/yaml/Cursor" "text" "[C" .null := (F_text_b52.ext E55)
    have fa64 : Fld Z h55 b52 "com/example/endcon/endcon/yaml/Cursor" "end" "I" (.int (0 : Int32)) := (F_end_b52.ext E55)
    have fa65 : Fld Z h55 b52 "com/example/endcon/endcon/yaml/Cursor" "hasSurrogates" "Z" (.int (0 : Int32)) := (F_hasSurrogates_b52.ext E55)
    have fa66 : Fld Z h55 b52 "com/example/endcon/endcon/yaml/Cursor" "pos" "I" (.int (0 : Int32)) := (F_pos_b52.ext E55)
    have fa67 : Fld Z h55 b52 "com/example/endcon/endcon/yaml/Cursor" "lineStart" "I" (.int (0 : Int32)) := (F_lineStart_b52.ext E55)
    have fa68 : Arv Z h55 b1 k1 .char (4 : Int32) [(.int (nar .char ((p5 &&& (255 : Int32)).toUInt32.toUInt16.toUInt32.toInt32))), (.int (nar .char (13 : Int32))), (.int (nar .char (f1 p4))), (.int (nar .char ((((p6.toUInt32 >>> ((8 : Int32) &&& 31).toUInt32).toInt32) &&& (255 : Int32)).toUInt32.toUInt16.toUInt32.toInt32)))] (.int (0 : Int32)) := ((V50.ext E52).ext E55)
    obtain ⟨_, T57, Lc57, X57, hQ57, st57⟩ := own_callI X55 hx hZ (y := (⟨"com/example/endcon/endcon/yaml/Cursor", "<init>", "(Ljava/lang/String;[CI)V"⟩ : MethodName)) rfl hown (hw _ (List.mem_of_getElem? (i := 17) rfl)) (hw _ (List.mem_of_getElem? (i := 18) rfl)) (hw _ (List.mem_of_getElem? (i := 8) rfl)) (hw _ (List.mem_of_getElem? (i := 19) rfl)) (by decide) (W := 1) (a := b52) (argsL := [(.ref sa55), (.ref b1), (.int ((1 : Int32) + (p1 &&& (3 : Int32))))]) (rest := [(.ref b52)]) (rm2 l Z a0 hw [] b52 sa55 b1 ((1 : Int32) + (p1 &&& (3 : Int32))) (nar .char ((p5 &&& (255 : Int32)).toUInt32.toUInt16.toUInt32.toInt32)) (nar .char (13 : Int32)) (nar .char (f1 p4)) (nar .char ((((p6.toUInt32 >>> ((8 : Int32) &&& 31).toUInt32).toInt32) &&& (255 : Int32)).toUInt32.toUInt16.toUInt32.toInt32)) k1 h55 n0 zs56 fa58 fa59 fa60 fa61 fa62 fa63 fa64 fa65 fa66 fa67 g_b52 fa68 (Ne.symm ne_b1_b52) (own_n4 p1) (own_lt1 p5) (by decide) (own_ltp p4) (own_lt2 p6)) (by decide) (by decide) (c' := 4) (s' := 24) rfl rfl (by decide) (by decide) e55 (g := (mkF m 130 #[.val (.int p1), .val (.int p2), .val (.int p3), .val (.int p4), .val (.int p5), .val (.int p6), .val (.int ((1 : Int32) + (p1 &&& (3 : Int32)))), .val (.int (1 : Int32)), .val (.ref b1), .val (.int (1 : Int32)), .unset, .unset, .unset, .unset] [(.int ((1 : Int32) + (p1 &&& (3 : Int32)))), (.ref b1), (.ref sa55), (.ref b52), (.ref b52)])) rfl (by rw [hml]; rfl) (lenOf pd_0_1 rfl) rfl (by show 2 * 0 + _ ≤ _; exact Nat.le_of_eq rfl) (hb hby at_130)
    obtain ⟨rfl, N57q, K57, Ec57_a1, Fc57_a1_line, Fc57_a1_blankLinesFrom, Fc57_a1_countedIndex, Fc57_a1_file, Fc57_a1_text, Fc57_a1_end, Fc57_a1_hasSurrogates, Fc57_a1_pos, Fc57_a1_lineStart⟩ := hQ57
    have N57 := Fr.app N50 N57q
    have zk69 : kk55 ≤ T57.heap.size := Nat.le_trans hkk55 K57.1
    have zs70 : n0 ≤ T57.heap.size := Nat.le_trans zs56 K57.1
    obtain ⟨_, T71, Lc71, X71, hQ71, st71⟩ := own_callV X57 hx hZ (y := (⟨"com/example/endcon/endcon/yaml/Cursor", "moveTo", "(I)V"⟩ : MethodName)) hown (hw _ (List.mem_of_getElem? (i := 43) rfl)) (hw _ (List.mem_of_getElem? (i := 44) rfl)) (hw _ (List.mem_of_getElem? (i := 46) rfl)) (hw _ (List.mem_of_getElem? (i := 45) rfl)) (hw _ (List.mem_of_getElem? (i := 8) rfl)) (hw _ (List.mem_of_getElem? (i := 47) rfl)) (by decide) (W := 0) Ec57_a1 (argsL := [(.int (1 : Int32))]) (rest := []) (rm5 l Z a0 hw [] b52 (1 : Int32) b1 ((1 : Int32) + (p1 &&& (3 : Int32))) (0 : Int32) (1 : Int32) (0 : Int32) T57.heap n0 zs70 Ec57_a1 Fc57_a1_text Fc57_a1_end Fc57_a1_pos Fc57_a1_line Fc57_a1_lineStart g_b52) (by decide) (by decide) (c' := 4) (s' := 24) rfl rfl (by decide) (by decide) rfl (g := (mkF m 139 #[.val (.int p1), .val (.int p2), .val (.int p3), .val (.int p4), .val (.int p5), .val (.int p6), .val (.int ((1 : Int32) + (p1 &&& (3 : Int32)))), .val (.int (1 : Int32)), .val (.ref b1), .val (.int (1 : Int32)), .val (.ref b52), .unset, .unset, .unset] [(.int (1 : Int32)), (.ref b52)])) rfl (by rw [hml]; rfl) (lenOf pd_0_4 rfl) rfl (by show 2 * 0 + _ ≤ _; exact Nat.le_of_eq rfl) (hb hby at_139)
    obtain ⟨rfl, N71q, K71, Ec71_a1, Fc71_a1_text, Fc71_a1_end, Fc71_a1_pos, Fc71_a1_line, Fc71_a1_lineStart⟩ := hQ71
    have N71 := Fr.app N57 N71q
    have zk72 : kk55 ≤ T71.heap.size := Nat.le_trans zk69 K71.1
    have zs73 : n0 ≤ T71.heap.size := Nat.le_trans zs70 K71.1
    have fa75 : Arv Z T71.heap b1 k1 .char (4 : Int32) [(.int (nar .char ((p5 &&& (255 : Int32)).toUInt32.toUInt16.toUInt32.toInt32))), (.int (nar .char (13 : Int32))), (.int (nar .char (f1 p4))), (.int (nar .char ((((p6.toUInt32 >>> ((8 : Int32) &&& 31).toUInt32).toInt32) &&& (255 : Int32)).toUInt32.toUInt16.toUInt32.toInt32)))] (.int (0 : Int32)) := ((fa68.keep K57 (ninS ne_b1_b52 nin0)).keep K71 (ninS ne_b1_b52 nin0))
    obtain ⟨_, T74, Lc74, X74, hQ74, st74⟩ := own_callV X71 hx hZ (y := (⟨"com/example/endcon/endcon/yaml/Cursor", "newLine", "()V"⟩ : MethodName)) hown (hw _ (List.mem_of_getElem? (i := 50) rfl)) (hw _ (List.mem_of_getElem? (i := 51) rfl)) (hw _ (List.mem_of_getElem? (i := 53) rfl)) (hw _ (List.mem_of_getElem? (i := 52) rfl)) (hw _ (List.mem_of_getElem? (i := 8) rfl)) (hw _ (List.mem_of_getElem? (i := 54) rfl)) (by decide) (W := 0) Ec71_a1 (argsL := []) (rest := []) (rm6 l Z a0 hw [] b52 b1 (nar .char ((p5 &&& (255 : Int32)).toUInt32.toUInt16.toUInt32.toInt32)) (nar .char (13 : Int32)) (nar .char (f1 p4)) (nar .char ((((p6.toUInt32 >>> ((8 : Int32) &&& 31).toUInt32).toInt32) &&& (255 : Int32)).toUInt32.toUInt16.toUInt32.toInt32)) ((1 : Int32) + (p1 &&& (3 : Int32))) (1 : Int32) (1 : Int32) (0 : Int32) k1 T71.heap n0 zs73 Ec71_a1 Fc71_a1_text Fc71_a1_end Fc71_a1_pos Fc71_a1_line Fc71_a1_lineStart g_b52 fa75 ne_b1_b52 (by decide) (by decide) (fun _ => ⟨by decide, by decide⟩)) (by decide) (by decide) (c' := 4) (s' := 24) rfl rfl (by decide) (by decide) rfl (g := (mkF m 144 #[.val (.int p1), .val (.int p2), .val (.int p3), .val (.int p4), .val (.int p5), .val (.int p6), .val (.int ((1 : Int32) + (p1 &&& (3 : Int32)))), .val (.int (1 : Int32)), .val (.ref b1), .val (.int (1 : Int32)), .val (.ref b52), .unset, .unset, .unset] [(.ref b52)])) rfl (by rw [hml]; rfl) (lenOf pd_0_2 rfl) rfl (by show 2 * 0 + _ ≤ _; exact Nat.le_of_eq rfl) (hb hby at_144)
    obtain ⟨hv74, N74q, K74, Ec74_a1, Fc74_a1_text, Fc74_a1_end, Fc74_a1_pos, Fc74_a1_line, Fc74_a1_lineStart⟩ := hQ74
    have N74 := Fr.app N71 N74q
    have pre76 : ∀ t, Steps p.tables e below (T71.setTop (mkF m 144 #[.val (.int p1), .val (.int p2), .val (.int p3), .val (.int p4), .val (.int p5), .val (.int p6), .val (.int ((1 : Int32) + (p1 &&& (3 : Int32)))), .val (.int (1 : Int32)), .val (.ref b1), .val (.int (1 : Int32)), .val (.ref b52), .unset, .unset, .unset] [(.ref b52)])) t → Steps p.tables e below (s₁.setTop (entryFrame m #[(.int p1), (.int p2), (.int p3), (.int p4), (.int p5), (.int p6)] maxLocals)) t := fun t kt => by
      refine pre54 _ ?_
      show Steps p.tables e below (T52.setTop (mkF m 124 #[.val (.int p1), .val (.int p2), .val (.int p3), .val (.int p4), .val (.int p5), .val (.int p6), .val (.int ((1 : Int32) + (p1 &&& (3 : Int32)))), .val (.int (1 : Int32)), .val (.ref b1), .val (.int (1 : Int32)), .unset, .unset, .unset, .unset] [(.ref b52), (.ref b52)])) _
      refine st55 _ ?_
      show Steps p.tables e below (T55.setTop (mkF m 126 #[.val (.int p1), .val (.int p2), .val (.int p3), .val (.int p4), .val (.int p5), .val (.int p6), .val (.int ((1 : Int32) + (p1 &&& (3 : Int32)))), .val (.int (1 : Int32)), .val (.ref b1), .val (.int (1 : Int32)), .unset, .unset, .unset, .unset] [(.ref sa55), (.ref b52), (.ref b52)])) _
      refine own_blk X55 hx bl0_126_2 (own_hb hby bd0_126_2) (pc' := 130) (Ls' := #[.val (.int p1), .val (.int p2), .val (.int p3), .val (.int p4), .val (.int p5), .val (.int p6), .val (.int ((1 : Int32) + (p1 &&& (3 : Int32)))), .val (.int (1 : Int32)), .val (.ref b1), .val (.int (1 : Int32)), .unset, .unset, .unset, .unset]) (st' := [(.int ((1 : Int32) + (p1 &&& (3 : Int32)))), (.ref b1), (.ref sa55), (.ref b52), (.ref b52)]) rfl ?_
      refine st57 _ ?_
      show Steps p.tables e below (T57.setTop (mkF m 133 #[.val (.int p1), .val (.int p2), .val (.int p3), .val (.int p4), .val (.int p5), .val (.int p6), .val (.int ((1 : Int32) + (p1 &&& (3 : Int32)))), .val (.int (1 : Int32)), .val (.ref b1), .val (.int (1 : Int32)), .unset, .unset, .unset, .unset] [(.ref b52)])) _
      refine own_blk X57 hx bl0_133_1 (own_hb hby bd0_133_1) (pc' := 135) (Ls' := #[.val (.int p1), .val (.int p2), .val (.int p3), .val (.int p4), .val (.int p5), .val (.int p6), .val (.int ((1 : Int32) + (p1 &&& (3 : Int32)))), .val (.int (1 : Int32)), .val (.ref b1), .val (.int (1 : Int32)), .val (.ref b52), .unset, .unset, .unset]) (st' := []) rfl ?_
      refine own_blk X57 hx bl0_135_2 (own_hb hby bd0_135_2) (pc' := 139) (Ls' := #[.val (.int p1), .val (.int p2), .val (.int p3), .val (.int p4), .val (.int p5), .val (.int p6), .val (.int ((1 : Int32) + (p1 &&& (3 : Int32)))), .val (.int (1 : Int32)), .val (.ref b1), .val (.int (1 : Int32)), .val (.ref b52), .unset, .unset, .unset]) (st' := [(.int (1 : Int32)), (.ref b52)]) rfl ?_
      refine st71 _ ?_
      show Steps p.tables e below (T71.setTop (mkF m 142 #[.val (.int p1), .val (.int p2), .val (.int p3), .val (.int p4), .val (.int p5), .val (.int p6), .val (.int ((1 : Int32) + (p1 &&& (3 : Int32)))), .val (.int (1 : Int32)), .val (.ref b1), .val (.int (1 : Int32)), .val (.ref b52), .unset, .unset, .unset] [])) _
      refine own_blk X71 hx bl0_142_1 (own_hb hby bd0_142_1) (pc' := 144) (Ls' := #[.val (.int p1), .val (.int p2), .val (.int p3), .val (.int p4), .val (.int p5), .val (.int p6), .val (.int ((1 : Int32) + (p1 &&& (3 : Int32)))), .val (.int (1 : Int32)), .val (.ref b1), .val (.int (1 : Int32)), .val (.ref b52), .unset, .unset, .unset]) (st' := [(.ref b52)]) rfl ?_
      exact kt
    by_cases hc77 : (2 : Int32) = ((1 : Int32) + (p1 &&& (3 : Int32)))
    · subst hv74
      have lFc74_a1_pos : Fld Z T74.heap b52 "com/example/endcon/endcon/yaml/Cursor" "pos" "I" (.int ((1 : Int32) + (1 : Int32))) := by have q := Fc74_a1_pos; rw [f6_a1_pos, if_pos (show (own_at4 (nar .char ((p5 &&& (255 : Int32)).toUInt32.toUInt16.toUInt32.toInt32)) (nar .char (13 : Int32)) (nar .char (f1 p4)) (nar .char ((((p6.toUInt32 >>> ((8 : Int32) &&& 31).toUInt32).toInt32) &&& (255 : Int32)).toUInt32.toUInt16.toUInt32.toInt32)) (1 : Int32)) = (13 : Int32) from (by decide : (nar .char (13 : Int32)) = (13 : Int32))), if_pos (show ((1 : Int32) + (1 : Int32)) = ((1 : Int32) + (p1 &&& (3 : Int32))) from hc77), if_neg (show ¬ (((1 : Int32) + (1 : Int32)) < ((1 : Int32) + (p1 &&& (3 : Int32)))) from (own_eqlt hc77))] at q; exact q
      have lFc74_a1_line : Fld Z T74.heap b52 "com/example/endcon/endcon/yaml/Cursor" "line" "I" (.int (1 : Int32)) := by have q := Fc74_a1_line; rw [f6_a1_line, if_pos (show (own_at4 (nar .char ((p5 &&& (255 : Int32)).toUInt32.toUInt16.toUInt32.toInt32)) (nar .char (13 : Int32)) (nar .char (f1 p4)) (nar .char ((((p6.toUInt32 >>> ((8 : Int32) &&& 31).toUInt32).toInt32) &&& (255 : Int32)).toUInt32.toUInt16.toUInt32.toInt32)) (1 : Int32)) = (13 : Int32) from (by decide : (nar .char (13 : Int32)) = (13 : Int32))), if_pos (show ((1 : Int32) + (1 : Int32)) = ((1 : Int32) + (p1 &&& (3 : Int32))) from hc77), if_neg (show ¬ (((1 : Int32) + (1 : Int32)) < ((1 : Int32) + (p1 &&& (3 : Int32)))) from (own_eqlt hc77))] at q; exact q
      have lFc74_a1_lineStart : Fld Z T74.heap b52 "com/example/endcon/endcon/yaml/Cursor" "lineStart" "I" (.int (0 : Int32)) := by have q := Fc74_a1_lineStart; rw [f6_a1_lineStart, if_pos (show (own_at4 (nar .char ((p5 &&& (255 : Int32)).toUInt32.toUInt16.toUInt32.toInt32)) (nar .char (13 : Int32)) (nar .char (f1 p4)) (nar .char ((((p6.toUInt32 >>> ((8 : Int32) &&& 31).toUInt32).toInt32) &&& (255 : Int32)).toUInt32.toUInt16.toUInt32.toInt32)) (1 : Int32)) = (13 : Int32) from (by decide : (nar .char (13 : Int32)) = (13 : Int32))), if_pos (show ((1 : Int32) + (1 : Int32)) = ((1 : Int32) + (p1 &&& (3 : Int32))) from hc77), if_neg (show ¬ (((1 : Int32) + (1 : Int32)) < ((1 : Int32) + (p1 &&& (3 : Int32)))) from (own_eqlt hc77))] at q; exact q
      have zk78 : kk55 ≤ T74.heap.size := Nat.le_trans zk72 K74.1
      have zs79 : n0 ≤ T74.heap.size := Nat.le_trans zs73 K74.1
      obtain ⟨_, T80, Lc80, X80, hQ80, st80⟩ := own_callV X74 hx hZ (y := (⟨"com/example/endcon/endcon/yaml/Cursor", "index", "()I"⟩ : MethodName)) hown (hw _ (List.mem_of_getElem? (i := 57) rfl)) (hw _ (List.mem_of_getElem? (i := 58) rfl)) (hw _ (List.mem_of_getElem? (i := 60) rfl)) (hw _ (List.mem_of_getElem? (i := 59) rfl)) (hw _ (List.mem_of_getElem? (i := 8) rfl)) (hw _ (List.mem_of_getElem? (i := 61) rfl)) (by decide) (W := 0) Ec74_a1 (argsL := []) (rest := []) (rm7 l Z a0 hw [] b52 ((1 : Int32) + (1 : Int32)) T74.heap n0 zs79 Ec74_a1 lFc74_a1_pos) (by decide) (by decide) (c' := 4) (s' := 24) rfl rfl (by decide) (by decide) rfl (g := (mkF m 237 #[.val (.int p1), .val (.int p2), .val (.int p3), .val (.int p4), .val (.int p5), .val (.int p6), .val (.int ((1 : Int32) + (p1 &&& (3 : Int32)))), .val (.int (1 : Int32)), .val (.ref b1), .val (.int (1 : Int32)), .val (.ref b52), .val (.int (2 : Int32)), .val (.int (1 : Int32)), .val (.int (0 : Int32))] [(.ref b52)])) rfl (by rw [hml]; rfl) (lenOf pd_0_5 rfl) rfl (by show 2 * 0 + _ ≤ _; exact Nat.le_of_eq rfl) (hb hby at_237)
      obtain ⟨hv80, N80q, e80⟩ := hQ80
      have N80 := Fr.app N74 N80q
      rw [f7] at hv80
      subst hv80
      obtain ⟨_, T81, Lc81, X81, hQ81, st81⟩ := own_callV X80 hx hZ (y := (⟨"com/example/endcon/endcon/yaml/Cursor", "line", "()I"⟩ : MethodName)) hown (hw _ (List.mem_of_getElem? (i := 62) rfl)) (hw _ (List.mem_of_getElem? (i := 63) rfl)) (hw _ (List.mem_of_getElem? (i := 65) rfl)) (hw _ (List.mem_of_getElem? (i := 64) rfl)) (hw _ (List.mem_of_getElem? (i := 8) rfl)) (hw _ (List.mem_of_getElem? (i := 66) rfl)) (by decide) (W := 0) Ec74_a1 (argsL := []) (rest := []) (rm8 l Z a0 hw [] b52 (1 : Int32) T74.heap n0 zs79 Ec74_a1 lFc74_a1_line) (by decide) (by decide) (c' := 4) (s' := 24) rfl rfl (by decide) (by decide) e80 (g := (mkF m 247 #[.val (.int p1), .val (.int p2), .val (.int p3), .val (.int p4), .val (.int p5), .val (.int p6), .val (.int ((1 : Int32) + (p1 &&& (3 : Int32)))), .val (.int (1 : Int32)), .val (.ref b1), .val (.int (1 : Int32)), .val (.ref b52), .val (.int (2 : Int32)), .val (.int (1 : Int32)), .val (.int (0 : Int32))] [(.ref b52)])) rfl (by rw [hml]; rfl) (lenOf pd_0_5 rfl) rfl (by show 2 * 0 + _ ≤ _; exact Nat.le_of_eq rfl) (hb hby at_247)
      obtain ⟨hv81, N81q, e81⟩ := hQ81
      have N81 := Fr.app N80 N81q
      rw [f8] at hv81
      subst hv81
      obtain ⟨_, T82, Lc82, X82, hQ82, st82⟩ := own_callV X81 hx hZ (y := (⟨"com/example/endcon/endcon/yaml/Cursor", "lineStart", "()I"⟩ : MethodName)) hown (hw _ (List.mem_of_getElem? (i := 67) rfl)) (hw _ (List.mem_of_getElem? (i := 68) rfl)) (hw _ (List.mem_of_getElem? (i := 70) rfl)) (hw _ (List.mem_of_getElem? (i := 69) rfl)) (hw _ (List.mem_of_getElem? (i := 8) rfl)) (hw _ (List.mem_of_getElem? (i := 71) rfl)) (by decide) (W := 0) Ec74_a1 (argsL := []) (rest := []) (rm9 l Z a0 hw [] b52 (0 : Int32) T74.heap n0 zs79 Ec74_a1 lFc74_a1_lineStart) (by decide) (by decide) (c' := 4) (s' := 24) rfl rfl (by decide) (by decide) e81 (g := (mkF m 257 #[.val (.int p1), .val (.int p2), .val (.int p3), .val (.int p4), .val (.int p5), .val (.int p6), .val (.int ((1 : Int32) + (p1 &&& (3 : Int32)))), .val (.int (1 : Int32)), .val (.ref b1), .val (.int (1 : Int32)), .val (.ref b52), .val (.int (2 : Int32)), .val (.int (1 : Int32)), .val (.int (0 : Int32))] [(.ref b52)])) rfl (by rw [hml]; rfl) (lenOf pd_0_5 rfl) rfl (by show 2 * 0 + _ ≤ _; exact Nat.le_of_eq rfl) (hb hby at_257)
      obtain ⟨hv82, N82q, e82⟩ := hQ82
      have N82 := Fr.app N81 N82q
      rw [f9] at hv82
      subst hv82
      obtain ⟨fs, hr, hrun, hended, hRW⟩ := X82.leaveW (s := s) hS55 (by rw [e82]; exact zk78) (v := some (.int (1 : Int32))) (fun h => by rw [Bd.returns] at h; cases h)
      refine ⟨_, _, pre76 _ ?_, hrun, hended, _, _, rfl, ?_, ⟨_, rfl⟩, hRW.2.1, hRW.2.2.1, hRW.2.2.2.mono (by decide) (by decide)⟩
      · refine st74 _ ?_
        show Steps p.tables e below (T74.setTop (mkF m 147 #[.val (.int p1), .val (.int p2), .val (.int p3), .val (.int p4), .val (.int p5), .val (.int p6), .val (.int ((1 : Int32) + (p1 &&& (3 : Int32)))), .val (.int (1 : Int32)), .val (.ref b1), .val (.int (1 : Int32)), .val (.ref b52), .unset, .unset, .unset] [])) _
        refine own_blk X74 hx bl0_147_1 (own_hb hby bd0_147_1) (pc' := 149) (Ls' := #[.val (.int p1), .val (.int p2), .val (.int p3), .val (.int p4), .val (.int p5), .val (.int p6), .val (.int ((1 : Int32) + (p1 &&& (3 : Int32)))), .val (.int (1 : Int32)), .val (.ref b1), .val (.int (1 : Int32)), .val (.ref b52), .unset, .unset, .unset]) (st' := [(.int (1 : Int32))]) rfl ?_
        refine XS.ifNo X74.here hx rfl (hb hby at_149) rfl ((if0 _ _).trans (feq (by decide : ¬ ((1 : Int32) = (0 : Int32)))).1) ?_
        show Steps p.tables e below (T74.setTop (mkF m 152 #[.val (.int p1), .val (.int p2), .val (.int p3), .val (.int p4), .val (.int p5), .val (.int p6), .val (.int ((1 : Int32) + (p1 &&& (3 : Int32)))), .val (.int (1 : Int32)), .val (.ref b1), .val (.int (1 : Int32)), .val (.ref b52), .unset, .unset, .unset] [])) _
        refine own_blk X74 hx bl0_152_4 (own_hb hby bd0_152_4) (pc' := 158) (Ls' := #[.val (.int p1), .val (.int p2), .val (.int p3), .val (.int p4), .val (.int p5), .val (.int p6), .val (.int ((1 : Int32) + (p1 &&& (3 : Int32)))), .val (.int (1 : Int32)), .val (.ref b1), .val (.int (1 : Int32)), .val (.ref b52), .unset, .unset, .unset]) (st' := [(.int ((1 : Int32) + (p1 &&& (3 : Int32)))), (.int (2 : Int32))]) rfl ?_
        refine XS.icmpNo X74.here hx rfl (hb hby at_158) rfl (teq hc77).2 ?_
        show Steps p.tables e below (T74.setTop (mkF m 161 #[.val (.int p1), .val (.int p2), .val (.int p3), .val (.int p4), .val (.int p5), .val (.int p6), .val (.int ((1 : Int32) + (p1 &&& (3 : Int32)))), .val (.int (1 : Int32)), .val (.ref b1), .val (.int (1 : Int32)), .val (.ref b52), .unset, .unset, .unset] [])) _
        refine own_blk X74 hx bl0_161_4 (own_hb hby bd0_161_4) (pc' := 167) (Ls' := #[.val (.int p1), .val (.int p2), .val (.int p3), .val (.int p4), .val (.int p5), .val (.int p6), .val (.int ((1 : Int32) + (p1 &&& (3 : Int32)))), .val (.int (1 : Int32)), .val (.ref b1), .val (.int (1 : Int32)), .val (.ref b52), .val (.int (2 : Int32)), .unset, .unset]) (st' := []) rfl ?_
        refine own_blk X74 hx bl0_167_2 (own_hb hby bd0_167_2) (pc' := 170) (Ls' := #[.val (.int p1), .val (.int p2), .val (.int p3), .val (.int p4), .val (.int p5), .val (.int p6), .val (.int ((1 : Int32) + (p1 &&& (3 : Int32)))), .val (.int (1 : Int32)), .val (.ref b1), .val (.int (1 : Int32)), .val (.ref b52), .val (.int (2 : Int32)), .val (.int (1 : Int32)), .unset]) (st' := []) rfl ?_
        refine own_blk X74 hx bl0_170_2 (own_hb hby bd0_170_2) (pc' := 173) (Ls' := #[.val (.int p1), .val (.int p2), .val (.int p3), .val (.int p4), .val (.int p5), .val (.int p6), .val (.int ((1 : Int32) + (p1 &&& (3 : Int32)))), .val (.int (1 : Int32)), .val (.ref b1), .val (.int (1 : Int32)), .val (.ref b52), .val (.int (2 : Int32)), .val (.int (1 : Int32)), .val (.int (0 : Int32))]) (st' := []) rfl ?_
        refine own_blk X74 hx bl0_173_2 (own_hb hby bd0_173_2) (pc' := 237) (Ls' := #[.val (.int p1), .val (.int p2), .val (.int p3), .val (.int p4), .val (.int p5), .val (.int p6), .val (.int ((1 : Int32) + (p1 &&& (3 : Int32)))), .val (.int (1 : Int32)), .val (.ref b1), .val (.int (1 : Int32)), .val (.ref b52), .val (.int (2 : Int32)), .val (.int (1 : Int32)), .val (.int (0 : Int32))]) (st' := [(.ref b52)]) rfl ?_
        refine st80 _ ?_
        show Steps p.tables e below (T80.setTop (mkF m 240 #[.val (.int p1), .val (.int p2), .val (.int p3), .val (.int p4), .val (.int p5), .val (.int p6), .val (.int ((1 : Int32) + (p1 &&& (3 : Int32)))), .val (.int (1 : Int32)), .val (.ref b1), .val (.int (1 : Int32)), .val (.ref b52), .val (.int (2 : Int32)), .val (.int (1 : Int32)), .val (.int (0 : Int32))] [(.int ((1 : Int32) + (1 : Int32)))])) _
        refine own_blk X80 hx bl0_240_1 (own_hb hby bd0_240_1) (pc' := 242) (Ls' := #[.val (.int p1), .val (.int p2), .val (.int p3), .val (.int p4), .val (.int p5), .val (.int p6), .val (.int ((1 : Int32) + (p1 &&& (3 : Int32)))), .val (.int (1 : Int32)), .val (.ref b1), .val (.int (1 : Int32)), .val (.ref b52), .val (.int (2 : Int32)), .val (.int (1 : Int32)), .val (.int (0 : Int32))]) (st' := [(.int (2 : Int32)), (.int ((1 : Int32) + (1 : Int32)))]) rfl ?_
        refine XS.icmpNo X80.here hx rfl (hb hby at_242) rfl (teq (show ((1 : Int32) + (1 : Int32)) = (2 : Int32) from (by decide : (2 : Int32) = (2 : Int32)))).2 ?_
        show Steps p.tables e below (T80.setTop (mkF m 245 #[.val (.int p1), .val (.int p2), .val (.int p3), .val (.int p4), .val (.int p5), .val (.int p6), .val (.int ((1 : Int32) + (p1 &&& (3 : Int32)))), .val (.int (1 : Int32)), .val (.ref b1), .val (.int (1 : Int32)), .val (.ref b52), .val (.int (2 : Int32)), .val (.int (1 : Int32)), .val (.int (0 : Int32))] [])) _
        refine own_blk X80 hx bl0_245_1 (own_hb hby bd0_245_1) (pc' := 247) (Ls' := #[.val (.int p1), .val (.int p2), .val (.int p3), .val (.int p4), .val (.int p5), .val (.int p6), .val (.int ((1 : Int32) + (p1 &&& (3 : Int32)))), .val (.int (1 : Int32)), .val (.ref b1), .val (.int (1 : Int32)), .val (.ref b52), .val (.int (2 : Int32)), .val (.int (1 : Int32)), .val (.int (0 : Int32))]) (st' := [(.ref b52)]) rfl ?_
        refine st81 _ ?_
        show Steps p.tables e below (T81.setTop (mkF m 250 #[.val (.int p1), .val (.int p2), .val (.int p3), .val (.int p4), .val (.int p5), .val (.int p6), .val (.int ((1 : Int32) + (p1 &&& (3 : Int32)))), .val (.int (1 : Int32)), .val (.ref b1), .val (.int (1 : Int32)), .val (.ref b52), .val (.int (2 : Int32)), .val (.int (1 : Int32)), .val (.int (0 : Int32))] [(.int (1 : Int32))])) _
        refine own_blk X81 hx bl0_250_1 (own_hb hby bd0_250_1) (pc' := 252) (Ls' := #[.val (.int p1), .val (.int p2), .val (.int p3), .val (.int p4), .val (.int p5), .val (.int p6), .val (.int ((1 : Int32) + (p1 &&& (3 : Int32)))), .val (.int (1 : Int32)), .val (.ref b1), .val (.int (1 : Int32)), .val (.ref b52), .val (.int (2 : Int32)), .val (.int (1 : Int32)), .val (.int (0 : Int32))]) (st' := [(.int (1 : Int32)), (.int (1 : Int32))]) rfl ?_
        refine XS.icmpNo X81.here hx rfl (hb hby at_252) rfl (teq (by decide : (1 : Int32) = (1 : Int32))).2 ?_
        show Steps p.tables e below (T81.setTop (mkF m 255 #[.val (.int p1), .val (.int p2), .val (.int p3), .val (.int p4), .val (.int p5), .val (.int p6), .val (.int ((1 : Int32) + (p1 &&& (3 : Int32)))), .val (.int (1 : Int32)), .val (.ref b1), .val (.int (1 : Int32)), .val (.ref b52), .val (.int (2 : Int32)), .val (.int (1 : Int32)), .val (.int (0 : Int32))] [])) _
        refine own_blk X81 hx bl0_255_1 (own_hb hby bd0_255_1) (pc' := 257) (Ls' := #[.val (.int p1), .val (.int p2), .val (.int p3), .val (.int p4), .val (.int p5), .val (.int p6), .val (.int ((1 : Int32) + (p1 &&& (3 : Int32)))), .val (.int (1 : Int32)), .val (.ref b1), .val (.int (1 : Int32)), .val (.ref b52), .val (.int (2 : Int32)), .val (.int (1 : Int32)), .val (.int (0 : Int32))]) (st' := [(.ref b52)]) rfl ?_
        refine st82 _ ?_
        show Steps p.tables e below (T82.setTop (mkF m 260 #[.val (.int p1), .val (.int p2), .val (.int p3), .val (.int p4), .val (.int p5), .val (.int p6), .val (.int ((1 : Int32) + (p1 &&& (3 : Int32)))), .val (.int (1 : Int32)), .val (.ref b1), .val (.int (1 : Int32)), .val (.ref b52), .val (.int (2 : Int32)), .val (.int (1 : Int32)), .val (.int (0 : Int32))] [(.int (0 : Int32))])) _
        refine own_blk X82 hx bl0_260_1 (own_hb hby bd0_260_1) (pc' := 262) (Ls' := #[.val (.int p1), .val (.int p2), .val (.int p3), .val (.int p4), .val (.int p5), .val (.int p6), .val (.int ((1 : Int32) + (p1 &&& (3 : Int32)))), .val (.int (1 : Int32)), .val (.ref b1), .val (.int (1 : Int32)), .val (.ref b52), .val (.int (2 : Int32)), .val (.int (1 : Int32)), .val (.int (0 : Int32))]) (st' := [(.int (0 : Int32)), (.int (0 : Int32))]) rfl ?_
        refine XS.icmpNo X82.here hx rfl (hb hby at_262) rfl (teq (by decide : (0 : Int32) = (0 : Int32))).2 ?_
        show Steps p.tables e below (T82.setTop (mkF m 265 #[.val (.int p1), .val (.int p2), .val (.int p3), .val (.int p4), .val (.int p5), .val (.int p6), .val (.int ((1 : Int32) + (p1 &&& (3 : Int32)))), .val (.int (1 : Int32)), .val (.ref b1), .val (.int (1 : Int32)), .val (.ref b52), .val (.int (2 : Int32)), .val (.int (1 : Int32)), .val (.int (0 : Int32))] [])) _
        refine own_blk X82 hx bl0_265_2 (own_hb hby bd0_265_2) (pc' := 270) (Ls' := #[.val (.int p1), .val (.int p2), .val (.int p3), .val (.int p4), .val (.int p5), .val (.int p6), .val (.int ((1 : Int32) + (p1 &&& (3 : Int32)))), .val (.int (1 : Int32)), .val (.ref b1), .val (.int (1 : Int32)), .val (.ref b52), .val (.int (2 : Int32)), .val (.int (1 : Int32)), .val (.int (0 : Int32))]) (st' := [(.int (1 : Int32))]) rfl ?_
        exact retN X82 hx (t := .boolean) Bd.returns (by simp) (hb hby at_270) hr
      · show Q0_1 Z p1 p2 p3 p4 p5 p6 h0 n0 _ T82.heap _
        rw [e82]
        exact ⟨by rw [f0_1, if_neg hc12, if_pos hc77], N82⟩
    · by_cases hc83 : (nar .char (f1 p4)) = (10 : Int32)
      · subst hv74
        have lFc74_a1_pos : Fld Z T74.heap b52 "com/example/endcon/endcon/yaml/Cursor" "pos" "I" (.int ((1 : Int32) + (2 : Int32))) := by have q := Fc74_a1_pos; rw [f6_a1_pos, if_pos (show (own_at4 (nar .char ((p5 &&& (255 : Int32)).toUInt32.toUInt16.toUInt32.toInt32)) (nar .char (13 : Int32)) (nar .char (f1 p4)) (nar .char ((((p6.toUInt32 >>> ((8 : Int32) &&& 31).toUInt32).toInt32) &&& (255 : Int32)).toUInt32.toUInt16.toUInt32.toInt32)) (1 : Int32)) = (13 : Int32) from (by decide : (nar .char (13 : Int32)) = (13 : Int32))), if_neg (show ¬ (((1 : Int32) + (1 : Int32)) = ((1 : Int32) + (p1 &&& (3 : Int32)))) from hc77), if_pos (show ((1 : Int32) + (1 : Int32)) < ((1 : Int32) + (p1 &&& (3 : Int32))) from (own_nelt (own_pn p1 p2 hn) hc77)), if_pos (show (own_at4 (nar .char ((p5 &&& (255 : Int32)).toUInt32.toUInt16.toUInt32.toInt32)) (nar .char (13 : Int32)) (nar .char (f1 p4)) (nar .char ((((p6.toUInt32 >>> ((8 : Int32) &&& 31).toUInt32).toInt32) &&& (255 : Int32)).toUInt32.toUInt16.toUInt32.toInt32)) ((1 : Int32) + (1 : Int32))) = (10 : Int32) from hc83)] at q; exact q
        have lFc74_a1_line : Fld Z T74.heap b52 "com/example/endcon/endcon/yaml/Cursor" "line" "I" (.int ((1 : Int32) + (1 : Int32))) := by have q := Fc74_a1_line; rw [f6_a1_line, if_pos (show (own_at4 (nar .char ((p5 &&& (255 : Int32)).toUInt32.toUInt16.toUInt32.toInt32)) (nar .char (13 : Int32)) (nar .char (f1 p4)) (nar .char ((((p6.toUInt32 >>> ((8 : Int32) &&& 31).toUInt32).toInt32) &&& (255 : Int32)).toUInt32.toUInt16.toUInt32.toInt32)) (1 : Int32)) = (13 : Int32) from (by decide : (nar .char (13 : Int32)) = (13 : Int32))), if_neg (show ¬ (((1 : Int32) + (1 : Int32)) = ((1 : Int32) + (p1 &&& (3 : Int32)))) from hc77), if_pos (show ((1 : Int32) + (1 : Int32)) < ((1 : Int32) + (p1 &&& (3 : Int32))) from (own_nelt (own_pn p1 p2 hn) hc77)), if_pos (show (own_at4 (nar .char ((p5 &&& (255 : Int32)).toUInt32.toUInt16.toUInt32.toInt32)) (nar .char (13 : Int32)) (nar .char (f1 p4)) (nar .char ((((p6.toUInt32 >>> ((8 : Int32) &&& 31).toUInt32).toInt32) &&& (255 : Int32)).toUInt32.toUInt16.toUInt32.toInt32)) ((1 : Int32) + (1 : Int32))) = (10 : Int32) from hc83)] at q; exact q
        have lFc74_a1_lineStart : Fld Z T74.heap b52 "com/example/endcon/endcon/yaml/Cursor" "lineStart" "I" (.int ((1 : Int32) + (2 : Int32))) := by have q := Fc74_a1_lineStart; rw [f6_a1_lineStart, if_pos (show (own_at4 (nar .char ((p5 &&& (255 : Int32)).toUInt32.toUInt16.toUInt32.toInt32)) (nar .char (13 : Int32)) (nar .char (f1 p4)) (nar .char ((((p6.toUInt32 >>> ((8 : Int32) &&& 31).toUInt32).toInt32) &&& (255 : Int32)).toUInt32.toUInt16.toUInt32.toInt32)) (1 : Int32)) = (13 : Int32) from (by decide : (nar .char (13 : Int32)) = (13 : Int32))), if_neg (show ¬ (((1 : Int32) + (1 : Int32)) = ((1 : Int32) + (p1 &&& (3 : Int32)))) from hc77), if_pos (show ((1 : Int32) + (1 : Int32)) < ((1 : Int32) + (p1 &&& (3 : Int32))) from (own_nelt (own_pn p1 p2 hn) hc77)), if_pos (show (own_at4 (nar .char ((p5 &&& (255 : Int32)).toUInt32.toUInt16.toUInt32.toInt32)) (nar .char (13 : Int32)) (nar .char (f1 p4)) (nar .char ((((p6.toUInt32 >>> ((8 : Int32) &&& 31).toUInt32).toInt32) &&& (255 : Int32)).toUInt32.toUInt16.toUInt32.toInt32)) ((1 : Int32) + (1 : Int32))) = (10 : Int32) from hc83)] at q; exact q
        have zk84 : kk55 ≤ T74.heap.size := Nat.le_trans zk72 K74.1
        have zs85 : n0 ≤ T74.heap.size := Nat.le_trans zs73 K74.1
        have fa86 : Arv Z T74.heap b1 k1 .char (4 : Int32) [(.int (nar .char ((p5 &&& (255 : Int32)).toUInt32.toUInt16.toUInt32.toInt32))), (.int (nar .char (13 : Int32))), (.int (nar .char (f1 p4))), (.int (nar .char ((((p6.toUInt32 >>> ((8 : Int32) &&& 31).toUInt32).toInt32) &&& (255 : Int32)).toUInt32.toUInt16.toUInt32.toInt32)))] (.int (0 : Int32)) := (fa75.keep K74 (ninS ne_b1_b52 nin0))
        obtain ⟨cx87, Ar87, qq87, S87, N87_, H87, G87⟩ := id fa86
        have hin87 : ¬ ((2 : Int32) < 0 ∨ cx87.slots.size ≤ ((2 : Int32)).toNatClampNeg) := inb_of S87 ⟨by decide, by decide⟩
        have hat87 : cx87.slots[((2 : Int32)).toNatClampNeg]? = some (.int (nar .char (f1 p4))) := (H87 ((2 : Int32)).toNatClampNeg (Nat.lt_of_not_le fun w => hin87 (Or.inr w))).trans (congrArg some (rfl))
        obtain ⟨_, T88, Lc88, X88, hQ88, st88⟩ := own_callV X74 hx hZ (y := (⟨"com/example/endcon/endcon/yaml/Cursor", "index", "()I"⟩ : MethodName)) hown (hw _ (List.mem_of_getElem? (i := 57) rfl)) (hw _ (List.mem_of_getElem? (i := 58) rfl)) (hw _ (List.mem_of_getElem? (i := 60) rfl)) (hw _ (List.mem_of_getElem? (i := 59) rfl)) (hw _ (List.mem_of_getElem? (i := 8) rfl)) (hw _ (List.mem_of_getElem? (i := 61) rfl)) (by decide) (W := 0) Ec74_a1 (argsL := []) (rest := []) (rm7 l Z a0 hw [] b52 ((1 : Int32) + (2 : Int32)) T74.heap n0 zs85 Ec74_a1 lFc74_a1_pos) (by decide) (by decide) (c' := 4) (s' := 24) rfl rfl (by decide) (by decide) rfl (g := (mkF m 237 #[.val (.int p1), .val (.int p2), .val (.int p3), .val (.int p4), .val (.int p5), .val (.int p6), .val (.int ((1 : Int32) + (p1 &&& (3 : Int32)))), .val (.int (1 : Int32)), .val (.ref b1), .val (.int (1 : Int32)), .val (.ref b52), .val (.int (3 : Int32)), .val (.int (2 : Int32)), .val (.int (3 : Int32))] [(.ref b52)])) rfl (by rw [hml]; rfl) (lenOf pd_0_5 rfl) rfl (by show 2 * 0 + _ ≤ _; exact Nat.le_of_eq rfl) (hb hby at_237)
        obtain ⟨hv88, N88q, e88⟩ := hQ88
        have N88 := Fr.app N74 N88q
        rw [f7] at hv88
        subst hv88
        obtain ⟨_, T89, Lc89, X89, hQ89, st89⟩ := own_callV X88 hx hZ (y := (⟨"com/example/endcon/endcon/yaml/Cursor", "line", "()I"⟩ : MethodName)) hown (hw _ (List.mem_of_getElem? (i := 62) rfl)) (hw _ (List.mem_of_getElem? (i := 63) rfl)) (hw _ (List.mem_of_getElem? (i := 65) rfl)) (hw _ (List.mem_of_getElem? (i := 64) rfl)) (hw _ (List.mem_of_getElem? (i := 8) rfl)) (hw _ (List.mem_of_getElem? (i := 66) rfl)) (by decide) (W := 0) Ec74_a1 (argsL := []) (rest := []) (rm8 l Z a0 hw [] b52 ((1 : Int32) + (1 : Int32)) T74.heap n0 zs85 Ec74_a1 lFc74_a1_line) (by decide) (by decide) (c' := 4) (s' := 24) rfl rfl (by decide) (by decide) e88 (g := (mkF m 247 #[.val (.int p1), .val (.int p2), .val (.int p3), .val (.int p4), .val (.int p5), .val (.int p6), .val (.int ((1 : Int32) + (p1 &&& (3 : Int32)))), .val (.int (1 : Int32)), .val (.ref b1), .val (.int (1 : Int32)), .val (.ref b52), .val (.int (3 : Int32)), .val (.int (2 : Int32)), .val (.int (3 : Int32))] [(.ref b52)])) rfl (by rw [hml]; rfl) (lenOf pd_0_5 rfl) rfl (by show 2 * 0 + _ ≤ _; exact Nat.le_of_eq rfl) (hb hby at_247)
        obtain ⟨hv89, N89q, e89⟩ := hQ89
        have N89 := Fr.app N88 N89q
        rw [f8] at hv89
        subst hv89
        obtain ⟨_, T90, Lc90, X90, hQ90, st90⟩ := own_callV X89 hx hZ (y := (⟨"com/example/endcon/endcon/yaml/Cursor", "lineStart", "()I"⟩ : MethodName)) hown (hw _ (List.mem_of_getElem? (i := 67) rfl)) (hw _ (List.mem_of_getElem? (i := 68) rfl)) (hw _ (List.mem_of_getElem? (i := 70) rfl)) (hw _ (List.mem_of_getElem? (i := 69) rfl)) (hw _ (List.mem_of_getElem? (i := 8) rfl)) (hw _ (List.mem_of_getElem? (i := 71) rfl)) (by decide) (W := 0) Ec74_a1 (argsL := []) (rest := []) (rm9 l Z a0 hw [] b52 ((1 : Int32) + (2 : Int32)) T74.heap n0 zs85 Ec74_a1 lFc74_a1_lineStart) (by decide) (by decide) (c' := 4) (s' := 24) rfl rfl (by decide) (by decide) e89 (g := (mkF m 257 #[.val (.int p1), .val (.int p2), .val (.int p3), .val (.int p4), .val (.int p5), .val (.int p6), .val (.int ((1 : Int32) + (p1 &&& (3 : Int32)))), .val (.int (1 : Int32)), .val (.ref b1), .val (.int (1 : Int32)), .val (.ref b52), .val (.int (3 : Int32)), .val (.int (2 : Int32)), .val (.int (3 : Int32))] [(.ref b52)])) rfl (by rw [hml]; rfl) (lenOf pd_0_5 rfl) rfl (by show 2 * 0 + _ ≤ _; exact Nat.le_of_eq rfl) (hb hby at_257)
        obtain ⟨hv90, N90q, e90⟩ := hQ90
        have N90 := Fr.app N89 N90q
        rw [f9] at hv90
        subst hv90
        obtain ⟨fs, hr, hrun, hended, hRW⟩ := X90.leaveW (s := s) hS55 (by rw [e90]; exact zk84) (v := some (.int (1 : Int32))) (fun h => by rw [Bd.returns] at h; cases h)
        refine ⟨_, _, pre76 _ ?_, hrun, hended, _, _, rfl, ?_, ⟨_, rfl⟩, hRW.2.1, hRW.2.2.1, hRW.2.2.2.mono (by decide) (by decide)⟩
        · refine st74 _ ?_
          show Steps p.tables e below (T74.setTop (mkF m 147 #[.val (.int p1), .val (.int p2), .val (.int p3), .val (.int p4), .val (.int p5), .val (.int p6), .val (.int ((1 : Int32) + (p1 &&& (3 : Int32)))), .val (.int (1 : Int32)), .val (.ref b1), .val (.int (1 : Int32)), .val (.ref b52), .unset, .unset, .unset] [])) _
          refine own_blk X74 hx bl0_147_1 (own_hb hby bd0_147_1) (pc' := 149) (Ls' := #[.val (.int p1), .val (.int p2), .val (.int p3), .val (.int p4), .val (.int p5), .val (.int p6), .val (.int ((1 : Int32) + (p1 &&& (3 : Int32)))), .val (.int (1 : Int32)), .val (.ref b1), .val (.int (1 : Int32)), .val (.ref b52), .unset, .unset, .unset]) (st' := [(.int (1 : Int32))]) rfl ?_
          refine XS.ifNo X74.here hx rfl (hb hby at_149) rfl ((if0 _ _).trans (feq (by decide : ¬ ((1 : Int32) = (0 : Int32)))).1) ?_
          show Steps p.tables e below (T74.setTop (mkF m 152 #[.val (.int p1), .val (.int p2), .val (.int p3), .val (.int p4), .val (.int p5), .val (.int p6), .val (.int ((1 : Int32) + (p1 &&& (3 : Int32)))), .val (.int (1 : Int32)), .val (.ref b1), .val (.int (1 : Int32)), .val (.ref b52), .unset, .unset, .unset] [])) _
          refine own_blk X74 hx bl0_152_4 (own_hb hby bd0_152_4) (pc' := 158) (Ls' := #[.val (.int p1), .val (.int p2), .val (.int p3), .val (.int p4), .val (.int p5), .val (.int p6), .val (.int ((1 : Int32) + (p1 &&& (3 : Int32)))), .val (.int (1 : Int32)), .val (.ref b1), .val (.int (1 : Int32)), .val (.ref b52), .unset, .unset, .unset]) (st' := [(.int ((1 : Int32) + (p1 &&& (3 : Int32)))), (.int (2 : Int32))]) rfl ?_
          refine XS.icmpYes X74.here hx rfl (pc0 := 158) (pc' := 176) rfl (hb hby at_158) rfl (feq hc77).2 (by decide) (by decide) ?_
          show Steps p.tables e below (T74.setTop (mkF m 176 #[.val (.int p1), .val (.int p2), .val (.int p3), .val (.int p4), .val (.int p5), .val (.int p6), .val (.int ((1 : Int32) + (p1 &&& (3 : Int32)))), .val (.int (1 : Int32)), .val (.ref b1), .val (.int (1 : Int32)), .val (.ref b52), .unset, .unset, .unset] [])) _
          refine own_blk X74 hx bl0_176_1 (own_hb hby bd0_176_1) (pc' := 178) (Ls' := #[.val (.int p1), .val (.int p2), .val (.int p3), .val (.int p4), .val (.int p5), .val (.int p6), .val (.int ((1 : Int32) + (p1 &&& (3 : Int32)))), .val (.int (1 : Int32)), .val (.ref b1), .val (.int (1 : Int32)), .val (.ref b52), .unset, .unset, .unset]) (st' := [(.int (1 : Int32))]) rfl ?_
          refine XS.ifNo X74.here hx rfl (hb hby at_178) rfl ((if0 _ _).trans (feq (by decide : ¬ ((1 : Int32) = (0 : Int32)))).1) ?_
          show Steps p.tables e below (T74.setTop (mkF m 181 #[.val (.int p1), .val (.int p2), .val (.int p3), .val (.int p4), .val (.int p5), .val (.int p6), .val (.int ((1 : Int32) + (p1 &&& (3 : Int32)))), .val (.int (1 : Int32)), .val (.ref b1), .val (.int (1 : Int32)), .val (.ref b52), .unset, .unset, .unset] [])) _
          refine own_blk X74 hx bl0_181_4 (own_hb hby bd0_181_4) (pc' := 187) (Ls' := #[.val (.int p1), .val (.int p2), .val (.int p3), .val (.int p4), .val (.int p5), .val (.int p6), .val (.int ((1 : Int32) + (p1 &&& (3 : Int32)))), .val (.int (1 : Int32)), .val (.ref b1), .val (.int (1 : Int32)), .val (.ref b52), .unset, .unset, .unset]) (st' := [(.int ((1 : Int32) + (p1 &&& (3 : Int32)))), (.int (2 : Int32))]) rfl ?_
          refine XS.icmpNo X74.here hx rfl (hb hby at_187) rfl (tlt (own_nelt (own_pn p1 p2 hn) hc77)).2.1 ?_
          show Steps p.tables e below (T74.setTop (mkF m 190 #[.val (.int p1), .val (.int p2), .val (.int p3), .val (.int p4), .val (.int p5), .val (.int p6), .val (.int ((1 : Int32) + (p1 &&& (3 : Int32)))), .val (.int (1 : Int32)), .val (.ref b1), .val (.int (1 : Int32)), .val (.ref b52), .unset, .unset, .unset] [])) _
          refine own_blk X74 hx bl0_190_4 (own_hb hby bd0_190_4) (pc' := 196) (Ls' := #[.val (.int p1), .val (.int p2), .val (.int p3), .val (.int p4), .val (.int p5), .val (.int p6), .val (.int ((1 : Int32) + (p1 &&& (3 : Int32)))), .val (.int (1 : Int32)), .val (.ref b1), .val (.int (1 : Int32)), .val (.ref b52), .unset, .unset, .unset]) (st' := [(.int (2 : Int32)), (.ref b1)]) rfl ?_
          refine X74.caload hx (j := (2 : Int32)) (v := (.int (nar .char (f1 p4)))) Ar87.1 (State.isArrayOf_alike hZ.alike Ar87.2.1) Ar87.2.2 hin87 hat87 (g := (mkF m 196 #[.val (.int p1), .val (.int p2), .val (.int p3), .val (.int p4), .val (.int p5), .val (.int p6), .val (.int ((1 : Int32) + (p1 &&& (3 : Int32)))), .val (.int (1 : Int32)), .val (.ref b1), .val (.int (1 : Int32)), .val (.ref b52), .unset, .unset, .unset] [(.int (2 : Int32)), (.ref b1)])) rfl rfl (hb hby at_196) _ ?_
          show Steps p.tables e below (T74.setTop (mkF m 197 #[.val (.int p1), .val (.int p2), .val (.int p3), .val (.int p4), .val (.int p5), .val (.int p6), .val (.int ((1 : Int32) + (p1 &&& (3 : Int32)))), .val (.int (1 : Int32)), .val (.ref b1), .val (.int (1 : Int32)), .val (.ref b52), .unset, .unset, .unset] [(.int (nar .char (f1 p4)))])) _
          refine own_blk X74 hx bl0_197_1 (own_hb hby bd0_197_1) (pc' := 199) (Ls' := #[.val (.int p1), .val (.int p2), .val (.int p3), .val (.int p4), .val (.int p5), .val (.int p6), .val (.int ((1 : Int32) + (p1 &&& (3 : Int32)))), .val (.int (1 : Int32)), .val (.ref b1), .val (.int (1 : Int32)), .val (.ref b52), .unset, .unset, .unset]) (st' := [(.int (10 : Int32)), (.int (nar .char (f1 p4)))]) rfl ?_
          refine XS.icmpNo X74.here hx rfl (hb hby at_199) rfl (teq hc83).2 ?_
          show Steps p.tables e below (T74.setTop (mkF m 202 #[.val (.int p1), .val (.int p2), .val (.int p3), .val (.int p4), .val (.int p5), .val (.int p6), .val (.int ((1 : Int32) + (p1 &&& (3 : Int32)))), .val (.int (1 : Int32)), .val (.ref b1), .val (.int (1 : Int32)), .val (.ref b52), .unset, .unset, .unset] [])) _
          refine own_blk X74 hx bl0_202_4 (own_hb hby bd0_202_4) (pc' := 208) (Ls' := #[.val (.int p1), .val (.int p2), .val (.int p3), .val (.int p4), .val (.int p5), .val (.int p6), .val (.int ((1 : Int32) + (p1 &&& (3 : Int32)))), .val (.int (1 : Int32)), .val (.ref b1), .val (.int (1 : Int32)), .val (.ref b52), .val (.int (3 : Int32)), .unset, .unset]) (st' := []) rfl ?_
          refine own_blk X74 hx bl0_208_2 (own_hb hby bd0_208_2) (pc' := 211) (Ls' := #[.val (.int p1), .val (.int p2), .val (.int p3), .val (.int p4), .val (.int p5), .val (.int p6), .val (.int ((1 : Int32) + (p1 &&& (3 : Int32)))), .val (.int (1 : Int32)), .val (.ref b1), .val (.int (1 : Int32)), .val (.ref b52), .val (.int (3 : Int32)), .val (.int (2 : Int32)), .unset]) (st' := []) rfl ?_
          refine own_blk X74 hx bl0_211_4 (own_hb hby bd0_211_4) (pc' := 217) (Ls' := #[.val (.int p1), .val (.int p2), .val (.int p3), .val (.int p4), .val (.int p5), .val (.int p6), .val (.int ((1 : Int32) + (p1 &&& (3 : Int32)))), .val (.int (1 : Int32)), .val (.ref b1), .val (.int (1 : Int32)), .val (.ref b52), .val (.int (3 : Int32)), .val (.int (2 : Int32)), .val (.int (3 : Int32))]) (st' := []) rfl ?_
          refine own_blk X74 hx bl0_217_2 (own_hb hby bd0_217_2) (pc' := 237) (Ls' := #[.val (.int p1), .val (.int p2), .val (.int p3), .val (.int p4), .val (.int p5), .val (.int p6), .val (.int ((1 : Int32) + (p1 &&& (3 : Int32)))), .val (.int (1 : Int32)), .val (.ref b1), .val (.int (1 : Int32)), .val (.ref b52), .val (.int (3 : Int32)), .val (.int (2 : Int32)), .val (.int (3 : Int32))]) (st' := [(.ref b52)]) rfl ?_
          refine st88 _ ?_
          show Steps p.tables e below (T88.setTop (mkF m 240 #[.val (.int p1), .val (.int p2), .val (.int p3), .val (.int p4), .val (.int p5), .val (.int p6), .val (.int ((1 : Int32) + (p1 &&& (3 : Int32)))), .val (.int (1 : Int32)), .val (.ref b1), .val (.int (1 : Int32)), .val (.ref b52), .val (.int (3 : Int32)), .val (.int (2 : Int32)), .val (.int (3 : Int32))] [(.int ((1 : Int32) + (2 : Int32)))])) _
          refine own_blk X88 hx bl0_240_1 (own_hb hby bd0_240_1) (pc' := 242) (Ls' := #[.val (.int p1), .val (.int p2), .val (.int p3), .val (.int p4), .val (.int p5), .val (.int p6), .val (.int ((1 : Int32) + (p1 &&& (3 : Int32)))), .val (.int (1 : Int32)), .val (.ref b1), .val (.int (1 : Int32)), .val (.ref b52), .val (.int (3 : Int32)), .val (.int (2 : Int32)), .val (.int (3 : Int32))]) (st' := [(.int (3 : Int32)), (.int ((1 : Int32) + (2 : Int32)))]) rfl ?_
          refine XS.icmpNo X88.here hx rfl (hb hby at_242) rfl (teq (show ((1 : Int32) + (2 : Int32)) = (3 : Int32) from (by decide : (3 : Int32) = (3 : Int32)))).2 ?_
          show Steps p.tables e below (T88.setTop (mkF m 245 #[.val (.int p1), .val (.int p2), .val (.int p3), .val (.int p4), .val (.int p5), .val (.int p6), .val (.int ((1 : Int32) + (p1 &&& (3 : Int32)))), .val (.int (1 : Int32)), .val (.ref b1), .val (.int (1 : Int32)), .val (.ref b52), .val (.int (3 : Int32)), .val (.int (2 : Int32)), .val (.int (3 : Int32))] [])) _
          refine own_blk X88 hx bl0_245_1 (own_hb hby bd0_245_1) (pc' := 247) (Ls' := #[.val (.int p1), .val (.int p2), .val (.int p3), .val (.int p4), .val (.int p5), .val (.int p6), .val (.int ((1 : Int32) + (p1 &&& (3 : Int32)))), .val (.int (1 : Int32)), .val (.ref b1), .val (.int (1 : Int32)), .val (.ref b52), .val (.int (3 : Int32)), .val (.int (2 : Int32)), .val (.int (3 : Int32))]) (st' := [(.ref b52)]) rfl ?_
          refine st89 _ ?_
          show Steps p.tables e below (T89.setTop (mkF m 250 #[.val (.int p1), .val (.int p2), .val (.int p3), .val (.int p4), .val (.int p5), .val (.int p6), .val (.int ((1 : Int32) + (p1 &&& (3 : Int32)))), .val (.int (1 : Int32)), .val (.ref b1), .val (.int (1 : Int32)), .val (.ref b52), .val (.int (3 : Int32)), .val (.int (2 : Int32)), .val (.int (3 : Int32))] [(.int ((1 : Int32) + (1 : Int32)))])) _
          refine own_blk X89 hx bl0_250_1 (own_hb hby bd0_250_1) (pc' := 252) (Ls' := #[.val (.int p1), .val (.int p2), .val (.int p3), .val (.int p4), .val (.int p5), .val (.int p6), .val (.int ((1 : Int32) + (p1 &&& (3 : Int32)))), .val (.int (1 : Int32)), .val (.ref b1), .val (.int (1 : Int32)), .val (.ref b52), .val (.int (3 : Int32)), .val (.int (2 : Int32)), .val (.int (3 : Int32))]) (st' := [(.int (2 : Int32)), (.int ((1 : Int32) + (1 : Int32)))]) rfl ?_
          refine XS.icmpNo X89.here hx rfl (hb hby at_252) rfl (teq (show ((1 : Int32) + (1 : Int32)) = (2 : Int32) from (by decide : (2 : Int32) = (2 : Int32)))).2 ?_
          show Steps p.tables e below (T89.setTop (mkF m 255 #[.val (.int p1), .val (.int p2), .val (.int p3), .val (.int p4), .val (.int p5), .val (.int p6), .val (.int ((1 : Int32) + (p1 &&& (3 : Int32)))), .val (.int (1 : Int32)), .val (.ref b1), .val (.int (1 : Int32)), .val (.ref b52), .val (.int (3 : Int32)), .val (.int (2 : Int32)), .val (.int (3 : Int32))] [])) _
          refine own_blk X89 hx bl0_255_1 (own_hb hby bd0_255_1) (pc' := 257) (Ls' := #[.val (.int p1), .val (.int p2), .val (.int p3), .val (.int p4), .val (.int p5), .val (.int p6), .val (.int ((1 : Int32) + (p1 &&& (3 : Int32)))), .val (.int (1 : Int32)), .val (.ref b1), .val (.int (1 : Int32)), .val (.ref b52), .val (.int (3 : Int32)), .val (.int (2 : Int32)), .val (.int (3 : Int32))]) (st' := [(.ref b52)]) rfl ?_
          refine st90 _ ?_
          show Steps p.tables e below (T90.setTop (mkF m 260 #[.val (.int p1), .val (.int p2), .val (.int p3), .val (.int p4), .val (.int p5), .val (.int p6), .val (.int ((1 : Int32) + (p1 &&& (3 : Int32)))), .val (.int (1 : Int32)), .val (.ref b1), .val (.int (1 : Int32)), .val (.ref b52), .val (.int (3 : Int32)), .val (.int (2 : Int32)), .val (.int (3 : Int32))] [(.int ((1 : Int32) + (2 : Int32)))])) _
          refine own_blk X90 hx bl0_260_1 (own_hb hby bd0_260_1) (pc' := 262) (Ls' := #[.val (.int p1), .val (.int p2), .val (.int p3), .val (.int p4), .val (.int p5), .val (.int p6), .val (.int ((1 : Int32) + (p1 &&& (3 : Int32)))), .val (.int (1 : Int32)), .val (.ref b1), .val (.int (1 : Int32)), .val (.ref b52), .val (.int (3 : Int32)), .val (.int (2 : Int32)), .val (.int (3 : Int32))]) (st' := [(.int (3 : Int32)), (.int ((1 : Int32) + (2 : Int32)))]) rfl ?_
          refine XS.icmpNo X90.here hx rfl (hb hby at_262) rfl (teq (show ((1 : Int32) + (2 : Int32)) = (3 : Int32) from (by decide : (3 : Int32) = (3 : Int32)))).2 ?_
          show Steps p.tables e below (T90.setTop (mkF m 265 #[.val (.int p1), .val (.int p2), .val (.int p3), .val (.int p4), .val (.int p5), .val (.int p6), .val (.int ((1 : Int32) + (p1 &&& (3 : Int32)))), .val (.int (1 : Int32)), .val (.ref b1), .val (.int (1 : Int32)), .val (.ref b52), .val (.int (3 : Int32)), .val (.int (2 : Int32)), .val (.int (3 : Int32))] [])) _
          refine own_blk X90 hx bl0_265_2 (own_hb hby bd0_265_2) (pc' := 270) (Ls' := #[.val (.int p1), .val (.int p2), .val (.int p3), .val (.int p4), .val (.int p5), .val (.int p6), .val (.int ((1 : Int32) + (p1 &&& (3 : Int32)))), .val (.int (1 : Int32)), .val (.ref b1), .val (.int (1 : Int32)), .val (.ref b52), .val (.int (3 : Int32)), .val (.int (2 : Int32)), .val (.int (3 : Int32))]) (st' := [(.int (1 : Int32))]) rfl ?_
          exact retN X90 hx (t := .boolean) Bd.returns (by simp) (hb hby at_270) hr
        · show Q0_1 Z p1 p2 p3 p4 p5 p6 h0 n0 _ T90.heap _
          rw [e90]
          exact ⟨by rw [f0_1, if_neg hc12, if_neg hc77, if_pos hc83], N90⟩
      · subst hv74
        have lFc74_a1_pos : Fld Z T74.heap b52 "com/example/endcon/endcon/yaml/Cursor" "pos" "I" (.int ((1 : Int32) + (1 : Int32))) := by have q := Fc74_a1_pos; rw [f6_a1_pos, if_pos (show (own_at4 (nar .char ((p5 &&& (255 : Int32)).toUInt32.toUInt16.toUInt32.toInt32)) (nar .char (13 : Int32)) (nar .char (f1 p4)) (nar .char ((((p6.toUInt32 >>> ((8 : Int32) &&& 31).toUInt32).toInt32) &&& (255 : Int32)).toUInt32.toUInt16.toUInt32.toInt32)) (1 : Int32)) = (13 : Int32) from (by decide : (nar .char (13 : Int32)) = (13 : Int32))), if_neg (show ¬ (((1 : Int32) + (1 : Int32)) = ((1 : Int32) + (p1 &&& (3 : Int32)))) from hc77), if_pos (show ((1 : Int32) + (1 : Int32)) < ((1 : Int32) + (p1 &&& (3 : Int32))) from (own_nelt (own_pn p1 p2 hn) hc77)), if_neg (show ¬ ((own_at4 (nar .char ((p5 &&& (255 : Int32)).toUInt32.toUInt16.toUInt32.toInt32)) (nar .char (13 : Int32)) (nar .char (f1 p4)) (nar .char ((((p6.toUInt32 >>> ((8 : Int32) &&& 31).toUInt32).toInt32) &&& (255 : Int32)).toUInt32.toUInt16.toUInt32.toInt32)) ((1 : Int32) + (1 : Int32))) = (10 : Int32)) from hc83)] at q; exact q
        have lFc74_a1_line : Fld Z T74.heap b52 "com/example/endcon/endcon/yaml/Cursor" "line" "I" (.int ((1 : Int32) + (1 : Int32))) := by have q := Fc74_a1_line; rw [f6_a1_line, if_pos (show (own_at4 (nar .char ((p5 &&& (255 : Int32)).toUInt32.toUInt16.toUInt32.toInt32)) (nar .char (13 : Int32)) (nar .char (f1 p4)) (nar .char ((((p6.toUInt32 >>> ((8 : Int32) &&& 31).toUInt32).toInt32) &&& (255 : Int32)).toUInt32.toUInt16.toUInt32.toInt32)) (1 : Int32)) = (13 : Int32) from (by decide : (nar .char (13 : Int32)) = (13 : Int32))), if_neg (show ¬ (((1 : Int32) + (1 : Int32)) = ((1 : Int32) + (p1 &&& (3 : Int32)))) from hc77), if_pos (show ((1 : Int32) + (1 : Int32)) < ((1 : Int32) + (p1 &&& (3 : Int32))) from (own_nelt (own_pn p1 p2 hn) hc77)), if_neg (show ¬ ((own_at4 (nar .char ((p5 &&& (255 : Int32)).toUInt32.toUInt16.toUInt32.toInt32)) (nar .char (13 : Int32)) (nar .char (f1 p4)) (nar .char ((((p6.toUInt32 >>> ((8 : Int32) &&& 31).toUInt32).toInt32) &&& (255 : Int32)).toUInt32.toUInt16.toUInt32.toInt32)) ((1 : Int32) + (1 : Int32))) = (10 : Int32)) from hc83)] at q; exact q
        have lFc74_a1_lineStart : Fld Z T74.heap b52 "com/example/endcon/endcon/yaml/Cursor" "lineStart" "I" (.int ((1 : Int32) + (1 : Int32))) := by have q := Fc74_a1_lineStart; rw [f6_a1_lineStart, if_pos (show (own_at4 (nar .char ((p5 &&& (255 : Int32)).toUInt32.toUInt16.toUInt32.toInt32)) (nar .char (13 : Int32)) (nar .char (f1 p4)) (nar .char ((((p6.toUInt32 >>> ((8 : Int32) &&& 31).toUInt32).toInt32) &&& (255 : Int32)).toUInt32.toUInt16.toUInt32.toInt32)) (1 : Int32)) = (13 : Int32) from (by decide : (nar .char (13 : Int32)) = (13 : Int32))), if_neg (show ¬ (((1 : Int32) + (1 : Int32)) = ((1 : Int32) + (p1 &&& (3 : Int32)))) from hc77), if_pos (show ((1 : Int32) + (1 : Int32)) < ((1 : Int32) + (p1 &&& (3 : Int32))) from (own_nelt (own_pn p1 p2 hn) hc77)), if_neg (show ¬ ((own_at4 (nar .char ((p5 &&& (255 : Int32)).toUInt32.toUInt16.toUInt32.toInt32)) (nar .char (13 : Int32)) (nar .char (f1 p4)) (nar .char ((((p6.toUInt32 >>> ((8 : Int32) &&& 31).toUInt32).toInt32) &&& (255 : Int32)).toUInt32.toUInt16.toUInt32.toInt32)) ((1 : Int32) + (1 : Int32))) = (10 : Int32)) from hc83)] at q; exact q
        have zk91 : kk55 ≤ T74.heap.size := Nat.le_trans zk72 K74.1
        have zs92 : n0 ≤ T74.heap.size := Nat.le_trans zs73 K74.1
        have fa93 : Arv Z T74.heap b1 k1 .char (4 : Int32) [(.int (nar .char ((p5 &&& (255 : Int32)).toUInt32.toUInt16.toUInt32.toInt32))), (.int (nar .char (13 : Int32))), (.int (nar .char (f1 p4))), (.int (nar .char ((((p6.toUInt32 >>> ((8 : Int32) &&& 31).toUInt32).toInt32) &&& (255 : Int32)).toUInt32.toUInt16.toUInt32.toInt32)))] (.int (0 : Int32)) := (fa75.keep K74 (ninS ne_b1_b52 nin0))
        obtain ⟨cx94, Ar94, qq94, S94, N94_, H94, G94⟩ := id fa93
        have hin94 : ¬ ((2 : Int32) < 0 ∨ cx94.slots.size ≤ ((2 : Int32)).toNatClampNeg) := inb_of S94 ⟨by decide, by decide⟩
        have hat94 : cx94.slots[((2 : Int32)).toNatClampNeg]? = some (.int (nar .char (f1 p4))) := (H94 ((2 : Int32)).toNatClampNeg (Nat.lt_of_not_le fun w => hin94 (Or.inr w))).trans (congrArg some (rfl))
        obtain ⟨_, T95, Lc95, X95, hQ95, st95⟩ := own_callV X74 hx hZ (y := (⟨"com/example/endcon/endcon/yaml/Cursor", "index", "()I"⟩ : MethodName)) hown (hw _ (List.mem_of_getElem? (i := 57) rfl)) (hw _ (List.mem_of_getElem? (i := 58) rfl)) (hw _ (List.mem_of_getElem? (i := 60) rfl)) (hw _ (List.mem_of_getElem? (i := 59) rfl)) (hw _ (List.mem_of_getElem? (i := 8) rfl)) (hw _ (List.mem_of_getElem? (i := 61) rfl)) (by decide) (W := 0) Ec74_a1 (argsL := []) (rest := []) (rm7 l Z a0 hw [] b52 ((1 : Int32) + (1 : Int32)) T74.heap n0 zs92 Ec74_a1 lFc74_a1_pos) (by decide) (by decide) (c' := 4) (s' := 24) rfl rfl (by decide) (by decide) rfl (g := (mkF m 237 #[.val (.int p1), .val (.int p2), .val (.int p3), .val (.int p4), .val (.int p5), .val (.int p6), .val (.int ((1 : Int32) + (p1 &&& (3 : Int32)))), .val (.int (1 : Int32)), .val (.ref b1), .val (.int (1 : Int32)), .val (.ref b52), .val (.int (2 : Int32)), .val (.int (2 : Int32)), .val (.int (2 : Int32))] [(.ref b52)])) rfl (by rw [hml]; rfl) (lenOf pd_0_5 rfl) rfl (by show 2 * 0 + _ ≤ _; exact Nat.le_of_eq rfl) (hb hby at_237)
        obtain ⟨hv95, N95q, e95⟩ := hQ95
        have N95 := Fr.app N74 N95q
        rw [f7] at hv95
        subst hv95
        obtain ⟨_, T96, Lc96, X96, hQ96, st96⟩ := own_callV X95 hx hZ (y := (⟨"com/example/endcon/endcon/yaml/Cursor", "line", "()I"⟩ : MethodName)) hown (hw _ (List.mem_of_getElem? (i := 62) rfl)) (hw _ (List.mem_of_getElem? (i := 63) rfl)) (hw _ (List.mem_of_getElem? (i := 65) rfl)) (hw _ (List.mem_of_getElem? (i := 64) rfl)) (hw _ (List.mem_of_getElem? (i := 8) rfl)) (hw _ (List.mem_of_getElem? (i := 66) rfl)) (by decide) (W := 0) Ec74_a1 (argsL := []) (rest := []) (rm8 l Z a0 hw [] b52 ((1 : Int32) + (1 : Int32)) T74.heap n0 zs92 Ec74_a1 lFc74_a1_line) (by decide) (by decide) (c' := 4) (s' := 24) rfl rfl (by decide) (by decide) e95 (g := (mkF m 247 #[.val (.int p1), .val (.int p2), .val (.int p3), .val (.int p4), .val (.int p5), .val (.int p6), .val (.int ((1 : Int32) + (p1 &&& (3 : Int32)))), .val (.int (1 : Int32)), .val (.ref b1), .val (.int (1 : Int32)), .val (.ref b52), .val (.int (2 : Int32)), .val (.int (2 : Int32)), .val (.int (2 : Int32))] [(.ref b52)])) rfl (by rw [hml]; rfl) (lenOf pd_0_5 rfl) rfl (by show 2 * 0 + _ ≤ _; exact Nat.le_of_eq rfl) (hb hby at_247)
        obtain ⟨hv96, N96q, e96⟩ := hQ96
        have N96 := Fr.app N95 N96q
        rw [f8] at hv96
        subst hv96
        obtain ⟨_, T97, Lc97, X97, hQ97, st97⟩ := own_callV X96 hx hZ (y := (⟨"com/example/endcon/endcon/yaml/Cursor", "lineStart", "()I"⟩ : MethodName)) hown (hw _ (List.mem_of_getElem? (i := 67) rfl)) (hw _ (List.mem_of_getElem? (i := 68) rfl)) (hw _ (List.mem_of_getElem? (i := 70) rfl)) (hw _ (List.mem_of_getElem? (i := 69) rfl)) (hw _ (List.mem_of_getElem? (i := 8) rfl)) (hw _ (List.mem_of_getElem? (i := 71) rfl)) (by decide) (W := 0) Ec74_a1 (argsL := []) (rest := []) (rm9 l Z a0 hw [] b52 ((1 : Int32) + (1 : Int32)) T74.heap n0 zs92 Ec74_a1 lFc74_a1_lineStart) (by decide) (by decide) (c' := 4) (s' := 24) rfl rfl (by decide) (by decide) e96 (g := (mkF m 257 #[.val (.int p1), .val (.int p2), .val (.int p3), .val (.int p4), .val (.int p5), .val (.int p6), .val (.int ((1 : Int32) + (p1 &&& (3 : Int32)))), .val (.int (1 : Int32)), .val (.ref b1), .val (.int (1 : Int32)), .val (.ref b52), .val (.int (2 : Int32)), .val (.int (2 : Int32)), .val (.int (2 : Int32))] [(.ref b52)])) rfl (by rw [hml]; rfl) (lenOf pd_0_5 rfl) rfl (by show 2 * 0 + _ ≤ _; exact Nat.le_of_eq rfl) (hb hby at_257)
        obtain ⟨hv97, N97q, e97⟩ := hQ97
        have N97 := Fr.app N96 N97q
        rw [f9] at hv97
        subst hv97
        obtain ⟨fs, hr, hrun, hended, hRW⟩ := X97.leaveW (s := s) hS55 (by rw [e97]; exact zk91) (v := some (.int (1 : Int32))) (fun h => by rw [Bd.returns] at h; cases h)
        refine ⟨_, _, pre76 _ ?_, hrun, hended, _, _, rfl, ?_, ⟨_, rfl⟩, hRW.2.1, hRW.2.2.1, hRW.2.2.2.mono (by decide) (by decide)⟩
        · refine st74 _ ?_
          show Steps p.tables e below (T74.setTop (mkF m 147 #[.val (.int p1), .val (.int p2), .val (.int p3), .val (.int p4), .val (.int p5), .val (.int p6), .val (.int ((1 : Int32) + (p1 &&& (3 : Int32)))), .val (.int (1 : Int32)), .val (.ref b1), .val (.int (1 : Int32)), .val (.ref b52), .unset, .unset, .unset] [])) _
          refine own_blk X74 hx bl0_147_1 (own_hb hby bd0_147_1) (pc' := 149) (Ls' := #[.val (.int p1), .val (.int p2), .val (.int p3), .val (.int p4), .val (.int p5), .val (.int p6), .val (.int ((1 : Int32) + (p1 &&& (3 : Int32)))), .val (.int (1 : Int32)), .val (.ref b1), .val (.int (1 : Int32)), .val (.ref b52), .unset, .unset, .unset]) (st' := [(.int (1 : Int32))]) rfl ?_
          refine XS.ifNo X74.here hx rfl (hb hby at_149) rfl ((if0 _ _).trans (feq (by decide : ¬ ((1 : Int32) = (0 : Int32)))).1) ?_
          show Steps p.tables e below (T74.setTop (mkF m 152 #[.val (.int p1), .val (.int p2), .val (.int p3), .val (.int p4), .val (.int p5), .val (.int p6), .val (.int ((1 : Int32) + (p1 &&& (3 : Int32)))), .val (.int (1 : Int32)), .val (.ref b1), .val (.int (1 : Int32)), .val (.ref b52), .unset, .unset, .unset] [])) _
          refine own_blk X74 hx bl0_152_4 (own_hb hby bd0_152_4) (pc' := 158) (Ls' := #[.val (.int p1), .val (.int p2), .val (.int p3), .val (.int p4), .val (.int p5), .val (.int p6), .val (.int ((1 : Int32) + (p1 &&& (3 : Int32)))), .val (.int (1 : Int32)), .val (.ref b1), .val (.int (1 : Int32)), .val (.ref b52), .unset, .unset, .unset]) (st' := [(.int ((1 : Int32) + (p1 &&& (3 : Int32)))), (.int (2 : Int32))]) rfl ?_
          refine XS.icmpYes X74.here hx rfl (pc0 := 158) (pc' := 176) rfl (hb hby at_158) rfl (feq hc77).2 (by decide) (by decide) ?_
          show Steps p.tables e below (T74.setTop (mkF m 176 #[.val (.int p1), .val (.int p2), .val (.int p3), .val (.int p4), .val (.int p5), .val (.int p6), .val (.int ((1 : Int32) + (p1 &&& (3 : Int32)))), .val (.int (1 : Int32)), .val (.ref b1), .val (.int (1 : Int32)), .val (.ref b52), .unset, .unset, .unset] [])) _
          refine own_blk X74 hx bl0_176_1 (own_hb hby bd0_176_1) (pc' := 178) (Ls' := #[.val (.int p1), .val (.int p2), .val (.int p3), .val (.int p4), .val (.int p5), .val (.int p6), .val (.int ((1 : Int32) + (p1 &&& (3 : Int32)))), .val (.int (1 : Int32)), .val (.ref b1), .val (.int (1 : Int32)), .val (.ref b52), .unset, .unset, .unset]) (st' := [(.int (1 : Int32))]) rfl ?_
          refine XS.ifNo X74.here hx rfl (hb hby at_178) rfl ((if0 _ _).trans (feq (by decide : ¬ ((1 : Int32) = (0 : Int32)))).1) ?_
          show Steps p.tables e below (T74.setTop (mkF m 181 #[.val (.int p1), .val (.int p2), .val (.int p3), .val (.int p4), .val (.int p5), .val (.int p6), .val (.int ((1 : Int32) + (p1 &&& (3 : Int32)))), .val (.int (1 : Int32)), .val (.ref b1), .val (.int (1 : Int32)), .val (.ref b52), .unset, .unset, .unset] [])) _
          refine own_blk X74 hx bl0_181_4 (own_hb hby bd0_181_4) (pc' := 187) (Ls' := #[.val (.int p1), .val (.int p2), .val (.int p3), .val (.int p4), .val (.int p5), .val (.int p6), .val (.int ((1 : Int32) + (p1 &&& (3 : Int32)))), .val (.int (1 : Int32)), .val (.ref b1), .val (.int (1 : Int32)), .val (.ref b52), .unset, .unset, .unset]) (st' := [(.int ((1 : Int32) + (p1 &&& (3 : Int32)))), (.int (2 : Int32))]) rfl ?_
          refine XS.icmpNo X74.here hx rfl (hb hby at_187) rfl (tlt (own_nelt (own_pn p1 p2 hn) hc77)).2.1 ?_
          show Steps p.tables e below (T74.setTop (mkF m 190 #[.val (.int p1), .val (.int p2), .val (.int p3), .val (.int p4), .val (.int p5), .val (.int p6), .val (.int ((1 : Int32) + (p1 &&& (3 : Int32)))), .val (.int (1 : Int32)), .val (.ref b1), .val (.int (1 : Int32)), .val (.ref b52), .unset, .unset, .unset] [])) _
          refine own_blk X74 hx bl0_190_4 (own_hb hby bd0_190_4) (pc' := 196) (Ls' := #[.val (.int p1), .val (.int p2), .val (.int p3), .val (.int p4), .val (.int p5), .val (.int p6), .val (.int ((1 : Int32) + (p1 &&& (3 : Int32)))), .val (.int (1 : Int32)), .val (.ref b1), .val (.int (1 : Int32)), .val (.ref b52), .unset, .unset, .unset]) (st' := [(.int (2 : Int32)), (.ref b1)]) rfl ?_
          refine X74.caload hx (j := (2 : Int32)) (v := (.int (nar .char (f1 p4)))) Ar94.1 (State.isArrayOf_alike hZ.alike Ar94.2.1) Ar94.2.2 hin94 hat94 (g := (mkF m 196 #[.val (.int p1), .val (.int p2), .val (.int p3), .val (.int p4), .val (.int p5), .val (.int p6), .val (.int ((1 : Int32) + (p1 &&& (3 : Int32)))), .val (.int (1 : Int32)), .val (.ref b1), .val (.int (1 : Int32)), .val (.ref b52), .unset, .unset, .unset] [(.int (2 : Int32)), (.ref b1)])) rfl rfl (hb hby at_196) _ ?_
          show Steps p.tables e below (T74.setTop (mkF m 197 #[.val (.int p1), .val (.int p2), .val (.int p3), .val (.int p4), .val (.int p5), .val (.int p6), .val (.int ((1 : Int32) + (p1 &&& (3 : Int32)))), .val (.int (1 : Int32)), .val (.ref b1), .val (.int (1 : Int32)), .val (.ref b52), .unset, .unset, .unset] [(.int (nar .char (f1 p4)))])) _
          refine own_blk X74 hx bl0_197_1 (own_hb hby bd0_197_1) (pc' := 199) (Ls' := #[.val (.int p1), .val (.int p2), .val (.int p3), .val (.int p4), .val (.int p5), .val (.int p6), .val (.int ((1 : Int32) + (p1 &&& (3 : Int32)))), .val (.int (1 : Int32)), .val (.ref b1), .val (.int (1 : Int32)), .val (.ref b52), .unset, .unset, .unset]) (st' := [(.int (10 : Int32)), (.int (nar .char (f1 p4)))]) rfl ?_
          refine XS.icmpYes X74.here hx rfl (pc0 := 199) (pc' := 220) rfl (hb hby at_199) rfl (feq hc83).2 (by decide) (by decide) ?_
          show Steps p.tables e below (T74.setTop (mkF m 220 #[.val (.int p1), .val (.int p2), .val (.int p3), .val (.int p4), .val (.int p5), .val (.int p6), .val (.int ((1 : Int32) + (p1 &&& (3 : Int32)))), .val (.int (1 : Int32)), .val (.ref b1), .val (.int (1 : Int32)), .val (.ref b52), .unset, .unset, .unset] [])) _
          refine own_blk X74 hx bl0_220_4 (own_hb hby bd0_220_4) (pc' := 226) (Ls' := #[.val (.int p1), .val (.int p2), .val (.int p3), .val (.int p4), .val (.int p5), .val (.int p6), .val (.int ((1 : Int32) + (p1 &&& (3 : Int32)))), .val (.int (1 : Int32)), .val (.ref b1), .val (.int (1 : Int32)), .val (.ref b52), .val (.int (2 : Int32)), .unset, .unset]) (st' := []) rfl ?_
          refine own_blk X74 hx bl0_226_2 (own_hb hby bd0_226_2) (pc' := 229) (Ls' := #[.val (.int p1), .val (.int p2), .val (.int p3), .val (.int p4), .val (.int p5), .val (.int p6), .val (.int ((1 : Int32) + (p1 &&& (3 : Int32)))), .val (.int (1 : Int32)), .val (.ref b1), .val (.int (1 : Int32)), .val (.ref b52), .val (.int (2 : Int32)), .val (.int (2 : Int32)), .unset]) (st' := []) rfl ?_
          refine own_blk X74 hx bl0_229_4 (own_hb hby bd0_229_4) (pc' := 235) (Ls' := #[.val (.int p1), .val (.int p2), .val (.int p3), .val (.int p4), .val (.int p5), .val (.int p6), .val (.int ((1 : Int32) + (p1 &&& (3 : Int32)))), .val (.int (1 : Int32)), .val (.ref b1), .val (.int (1 : Int32)), .val (.ref b52), .val (.int (2 : Int32)), .val (.int (2 : Int32)), .val (.int (2 : Int32))]) (st' := []) rfl ?_
          refine own_blk X74 hx bl0_235_1 (own_hb hby bd0_235_1) (pc' := 237) (Ls' := #[.val (.int p1), .val (.int p2), .val (.int p3), .val (.int p4), .val (.int p5), .val (.int p6), .val (.int ((1 : Int32) + (p1 &&& (3 : Int32)))), .val (.int (1 : Int32)), .val (.ref b1), .val (.int (1 : Int32)), .val (.ref b52), .val (.int (2 : Int32)), .val (.int (2 : Int32)), .val (.int (2 : Int32))]) (st' := [(.ref b52)]) rfl ?_
          refine st95 _ ?_
          show Steps p.tables e below (T95.setTop (mkF m 240 #[.val (.int p1), .val (.int p2), .val (.int p3), .val (.int p4), .val (.int p5), .val (.int p6), .val (.int ((1 : Int32) + (p1 &&& (3 : Int32)))), .val (.int (1 : Int32)), .val (.ref b1), .val (.int (1 : Int32)), .val (.ref b52), .val (.int (2 : Int32)), .val (.int (2 : Int32)), .val (.int (2 : Int32))] [(.int ((1 : Int32) + (1 : Int32)))])) _
          refine own_blk X95 hx bl0_240_1 (own_hb hby bd0_240_1) (pc' := 242) (Ls' := #[.val (.int p1), .val (.int p2), .val (.int p3), .val (.int p4), .val (.int p5), .val (.int p6), .val (.int ((1 : Int32) + (p1 &&& (3 : Int32)))), .val (.int (1 : Int32)), .val (.ref b1), .val (.int (1 : Int32)), .val (.ref b52), .val (.int (2 : Int32)), .val (.int (2 : Int32)), .val (.int (2 : Int32))]) (st' := [(.int (2 : Int32)), (.int ((1 : Int32) + (1 : Int32)))]) rfl ?_
          refine XS.icmpNo X95.here hx rfl (hb hby at_242) rfl (teq (show ((1 : Int32) + (1 : Int32)) = (2 : Int32) from (by decide : (2 : Int32) = (2 : Int32)))).2 ?_
          show Steps p.tables e below (T95.setTop (mkF m 245 #[.val (.int p1), .val (.int p2), .val (.int p3), .val (.int p4), .val (.int p5), .val (.int p6), .val (.int ((1 : Int32) + (p1 &&& (3 : Int32)))), .val (.int (1 : Int32)), .val (.ref b1), .val (.int (1 : Int32)), .val (.ref b52), .val (.int (2 : Int32)), .val (.int (2 : Int32)), .val (.int (2 : Int32))] [])) _
          refine own_blk X95 hx bl0_245_1 (own_hb hby bd0_245_1) (pc' := 247) (Ls' := #[.val (.int p1), .val (.int p2), .val (.int p3), .val (.int p4), .val (.int p5), .val (.int p6), .val (.int ((1 : Int32) + (p1 &&& (3 : Int32)))), .val (.int (1 : Int32)), .val (.ref b1), .val (.int (1 : Int32)), .val (.ref b52), .val (.int (2 : Int32)), .val (.int (2 : Int32)), .val (.int (2 : Int32))]) (st' := [(.ref b52)]) rfl ?_
          refine st96 _ ?_
          show Steps p.tables e below (T96.setTop (mkF m 250 #[.val (.int p1), .val (.int p2), .val (.int p3), .val (.int p4), .val (.int p5), .val (.int p6), .val (.int ((1 : Int32) + (p1 &&& (3 : Int32)))), .val (.int (1 : Int32)), .val (.ref b1), .val (.int (1 : Int32)), .val (.ref b52), .val (.int (2 : Int32)), .val (.int (2 : Int32)), .val (.int (2 : Int32))] [(.int ((1 : Int32) + (1 : Int32)))])) _
          refine own_blk X96 hx bl0_250_1 (own_hb hby bd0_250_1) (pc' := 252) (Ls' := #[.val (.int p1), .val (.int p2), .val (.int p3), .val (.int p4), .val (.int p5), .val (.int p6), .val (.int ((1 : Int32) + (p1 &&& (3 : Int32)))), .val (.int (1 : Int32)), .val (.ref b1), .val (.int (1 : Int32)), .val (.ref b52), .val (.int (2 : Int32)), .val (.int (2 : Int32)), .val (.int (2 : Int32))]) (st' := [(.int (2 : Int32)), (.int ((1 : Int32) + (1 : Int32)))]) rfl ?_
          refine XS.icmpNo X96.here hx rfl (hb hby at_252) rfl (teq (show ((1 : Int32) + (1 : Int32)) = (2 : Int32) from (by decide : (2 : Int32) = (2 : Int32)))).2 ?_
          show Steps p.tables e below (T96.setTop (mkF m 255 #[.val (.int p1), .val (.int p2), .val (.int p3), .val (.int p4), .val (.int p5), .val (.int p6), .val (.int ((1 : Int32) + (p1 &&& (3 : Int32)))), .val (.int (1 : Int32)), .val (.ref b1), .val (.int (1 : Int32)), .val (.ref b52), .val (.int (2 : Int32)), .val (.int (2 : Int32)), .val (.int (2 : Int32))] [])) _
          refine own_blk X96 hx bl0_255_1 (own_hb hby bd0_255_1) (pc' := 257) (Ls' := #[.val (.int p1), .val (.int p2), .val (.int p3), .val (.int p4), .val (.int p5), .val (.int p6), .val (.int ((1 : Int32) + (p1 &&& (3 : Int32)))), .val (.int (1 : Int32)), .val (.ref b1), .val (.int (1 : Int32)), .val (.ref b52), .val (.int (2 : Int32)), .val (.int (2 : Int32)), .val (.int (2 : Int32))]) (st' := [(.ref b52)]) rfl ?_
          refine st97 _ ?_
          show Steps p.tables e below (T97.setTop (mkF m 260 #[.val (.int p1), .val (.int p2), .val (.int p3), .val (.int p4), .val (.int p5), .val (.int p6), .val (.int ((1 : Int32) + (p1 &&& (3 : Int32)))), .val (.int (1 : Int32)), .val (.ref b1), .val (.int (1 : Int32)), .val (.ref b52), .val (.int (2 : Int32)), .val (.int (2 : Int32)), .val (.int (2 : Int32))] [(.int ((1 : Int32) + (1 : Int32)))])) _
          refine own_blk X97 hx bl0_260_1 (own_hb hby bd0_260_1) (pc' := 262) (Ls' := #[.val (.int p1), .val (.int p2), .val (.int p3), .val (.int p4), .val (.int p5), .val (.int p6), .val (.int ((1 : Int32) + (p1 &&& (3 : Int32)))), .val (.int (1 : Int32)), .val (.ref b1), .val (.int (1 : Int32)), .val (.ref b52), .val (.int (2 : Int32)), .val (.int (2 : Int32)), .val (.int (2 : Int32))]) (st' := [(.int (2 : Int32)), (.int ((1 : Int32) + (1 : Int32)))]) rfl ?_
          refine XS.icmpNo X97.here hx rfl (hb hby at_262) rfl (teq (show ((1 : Int32) + (1 : Int32)) = (2 : Int32) from (by decide : (2 : Int32) = (2 : Int32)))).2 ?_
          show Steps p.tables e below (T97.setTop (mkF m 265 #[.val (.int p1), .val (.int p2), .val (.int p3), .val (.int p4), .val (.int p5), .val (.int p6), .val (.int ((1 : Int32) + (p1 &&& (3 : Int32)))), .val (.int (1 : Int32)), .val (.ref b1), .val (.int (1 : Int32)), .val (.ref b52), .val (.int (2 : Int32)), .val (.int (2 : Int32)), .val (.int (2 : Int32))] [])) _
          refine own_blk X97 hx bl0_265_2 (own_hb hby bd0_265_2) (pc' := 270) (Ls' := #[.val (.int p1), .val (.int p2), .val (.int p3), .val (.int p4), .val (.int p5), .val (.int p6), .val (.int ((1 : Int32) + (p1 &&& (3 : Int32)))), .val (.int (1 : Int32)), .val (.ref b1), .val (.int (1 : Int32)), .val (.ref b52), .val (.int (2 : Int32)), .val (.int (2 : Int32)), .val (.int (2 : Int32))]) (st' := [(.int (1 : Int32))]) rfl ?_
          exact retN X97 hx (t := .boolean) Bd.returns (by simp) (hb hby at_270) hr
        · show Q0_1 Z p1 p2 p3 p4 p5 p6 h0 n0 _ T97.heap _
          rw [e97]
          exact ⟨by rw [f0_1, if_neg hc12, if_neg hc77, if_neg hc83], N97⟩

def f0_2 (p1 : Int32) (p2 : Int32) (p3 : Int32) (p4 : Int32) (p5 : Int32) (p6 : Int32) : Int32 := (if (p3 &&& (1 : Int32)) = (0 : Int32) then (1 : Int32) else (if (3 : Int32) = ((1 : Int32) + (p1 &&& (3 : Int32))) then (1 : Int32) else (if (nar .char (f1 p4)) = (10 : Int32) then (1 : Int32) else (1 : Int32))))
def Q0_2 (Z : State) (p1 : Int32) (p2 : Int32) (p3 : Int32) (p4 : Int32) (p5 : Int32) (p6 : Int32) (h0 : Heap) (n0 : Nat) (v : Option Value) (h : Heap) (L : List Loc) : Prop := v = some (.int (f0_2 p1 p2 p3 p4 p5 p6)) ∧ Fr n0 L
set_option maxRecDepth 65536 in
set_option maxHeartbeats 40000000 in
theorem rm0_2 (l : Launch) (Z : State) (a0 : Array Value) (hw : ∀ d ∈ tables_1, d.before a0 Z = true) (ws : List Jvm.Cond) (p1 : Int32) (p2 : Int32) (p3 : Int32) (p4 : Int32) (p5 : Int32) (p6 : Int32) (h0 : Heap) (n0 : Nat) (Z0 : n0 ≤ h0.size) (hn : ((p2 &&& (2147483647 : Int32)) % ((1 : Int32) + (p1 &&& (3 : Int32)))) = (2 : Int32)) :
    MetFree l x (head1 (Jvm.Cond.code x code maxLocals ret :: ws) room_1) (fun a U => a = #[(.int p1), (.int p2), (.int p3), (.int p4), (.int p5), (.int p6)] ∧ Z.Warmed39 U.vm ∧ U.heap = h0) (fun _ _ _ _ _ => True) (fun _ U o U' => ∃ v L, o = .returned v ∧ Q0_2 Z p1 p2 p3 p4 p5 p6 h0 n0 v U'.heap L ∧ ReturnedEndW U o U' L room_1.cells room_1.slots) := by
  refine MetFree.of_bodySF (plainFor_of_name pn_0) hisR ?_
  intro p e s m args below meth c s₁ Bd hml0 hP hK
  obtain ⟨rfl, hZ, hh⟩ := hP
  have hx := Bd.exec
  have hby := Bd.bytes
  have hml : c.maxLocals = 14 := hml0
  have hown : s.vm.findClass "com/example/endcon/endcon/yaml/CursorNewLinePinLaw" = some m.cls := findClass_of_methodNamed Bd.named
  have hnm := (name_of_methodNamed Bd.named Bd.method).1
  have X0 : Stand p l e room_1 s m #[(.int p1), (.int p2), (.int p3), (.int p4), (.int p5), (.int p6)] below meth c s₁ [] 0 0 := Stand.of_body Bd
  have e0 : s₁.heap = h0 := by rw [← hh, Bd.state]; rfl
  have N0 := Fr.nil n0
  have pre0 : ∀ t, Steps p.tables e below (s₁.setTop (mkF m 0 #[.val (.int p1), .val (.int p2), .val (.int p3), .val (.int p4), .val (.int p5), .val (.int p6), .unset, .unset, .unset, .unset, .unset, .unset, .unset, .unset] [])) t → Steps p.tables e below (s₁.setTop (entryFrame m #[(.int p1), (.int p2), (.int p3), (.int p4), (.int p5), (.int p6)] maxLocals)) t := fun t k => castTop (ef_0 m p1 p2 p3 p4 p5 p6) k
  obtain ⟨T1, h1, k1, X1, e1, E1, A1, st1⟩ := newP X0 hx hZ (hw _ (List.mem_of_getElem? (i := 1) rfl)) e0 (g := (mkF m 17 #[.val (.int p1), .val (.int p2), .val (.int p3), .val (.int p4), .val (.int p5), .val (.int p6), .val (.int ((1 : Int32) + (p1 &&& (3 : Int32)))), .val (.int (2 : Int32)), .unset, .unset, .unset, .unset, .unset, .unset] [(.int (4 : Int32))])) rfl (hb hby at_17) rfl (by decide) (cap := 4) (by decide) (by decide) (by decide) (by decide)
  obtain ⟨b1, g1⟩ : ∃ z, z = h0.size := ⟨_, rfl⟩
  rw [← g1] at A1 st1
  have g_b1 : n0 ≤ b1 := Nat.le_trans Z0 (Nat.le_of_eq g1.symm)
  have zs2 : n0 ≤ h1.size := Nat.le_trans Z0 E1.1
  have V_b1 : Arv Z h1 b1 k1 .char (4 : Int32) [(.int (0 : Int32)), (.int (0 : Int32)), (.int (0 : Int32)), (.int (0 : Int32))] (.int (0 : Int32)) := (Arv.new A1 (by decide)).pad (pad_rep [] (.int (0 : Int32)) 4)
  obtain ⟨cx3, Ar3, qq3, S3, N3_, H3, G3⟩ := id V_b1
  have hin3 : ¬ ((0 : Int32) < 0 ∨ cx3.slots.size ≤ ((0 : Int32)).toNatClampNeg) := inb_of S3 ⟨by decide, by decide⟩
  obtain ⟨T3, h3, X3, e3, W3, st3⟩ := stC X1 hx hZ e1 Ar3 (j := (0 : Int32)) hin3 (g := (mkF m 31 #[.val (.int p1), .val (.int p2), .val (.int p3), .val (.int p4), .val (.int p5), .val (.int p6), .val (.int ((1 : Int32) + (p1 &&& (3 : Int32)))), .val (.int (2 : Int32)), .val (.ref b1), .unset, .unset, .unset, .unset, .unset] [(.int ((p5 &&& (255 : Int32)).toUInt32.toUInt16.toUInt32.toInt32)), (.int (0 : Int32)), (.ref b1)])) rfl rfl (hb hby at_31)
  have V3 : Arv Z h3 b1 k1 .char (4 : Int32) [(.int (nar .char ((p5 &&& (255 : Int32)).toUInt32.toUInt16.toUInt32.toInt32))), (.int (0 : Int32)), (.int (0 : Int32)), (.int (0 : Int32))] (.int (0 : Int32)) := Arv.set Ar3 qq3 S3 N3_ H3 G3 (fits_nar_char _) W3 0 rfl (Nat.le_of_ble_eq_true rfl)
  have zs4 : n0 ≤ h3.size := Nat.le_trans zs2 (Keep.of_wr W3).1
  have N3 := Fr.snoc X3 N0 g_b1
  obtain ⟨cx5, Ar5, qq5, S5, N5_, H5, G5⟩ := id V3
  have hin5 : ¬ ((1 : Int32) < 0 ∨ cx5.slots.size ≤ ((1 : Int32)).toNatClampNeg) := inb_of S5 ⟨by decide, by decide⟩
  obtain ⟨T5, h5, X5, e5, W5, st5⟩ := stC X3 hx hZ e3 Ar5 (j := (1 : Int32)) hin5 (g := (mkF m 45 #[.val (.int p1), .val (.int p2), .val (.int p3), .val (.int p4), .val (.int p5), .val (.int p6), .val (.int ((1 : Int32) + (p1 &&& (3 : Int32)))), .val (.int (2 : Int32)), .val (.ref b1), .unset, .unset, .unset, .unset, .unset] [(.int ((((p5.toUInt32 >>> ((8 : Int32) &&& 31).toUInt32).toInt32) &&& (255 : Int32)).toUInt32.toUInt16.toUInt32.toInt32)), (.int (1 : Int32)), (.ref b1)])) rfl rfl (hb hby at_45)
  have V5 : Arv Z h5 b1 k1 .char (4 : Int32) [(.int (nar .char ((p5 &&& (255 : Int32)).toUInt32.toUInt16.toUInt32.toInt32))), (.int (nar .char ((((p5.toUInt32 >>> ((8 : Int32) &&& 31).toUInt32).toInt32) &&& (255 : Int32)).toUInt32.toUInt16.toUInt32.toInt32))), (.int (0 : Int32)), (.int (0 : Int32))] (.int (0 : Int32)) := Arv.set Ar5 qq5 S5 N5_ H5 G5 (fits_nar_char _) W5 1 rfl (Nat.le_of_ble_eq_true rfl)
  have zs6 : n0 ≤ h5.size := Nat.le_trans zs4 (Keep.of_wr W5).1
  have N5 := Fr.snoc X5 N3 g_b1
  obtain ⟨cx7, Ar7, qq7, S7, N7_, H7, G7⟩ := id V5
  have hin7 : ¬ ((2 : Int32) < 0 ∨ cx7.slots.size ≤ ((2 : Int32)).toNatClampNeg) := inb_of S7 ⟨by decide, by decide⟩
  obtain ⟨T7, h7, X7, e7, W7, st7⟩ := stC X5 hx hZ e5 Ar7 (j := (2 : Int32)) hin7 (g := (mkF m 56 #[.val (.int p1), .val (.int p2), .val (.int p3), .val (.int p4), .val (.int p5), .val (.int p6), .val (.int ((1 : Int32) + (p1 &&& (3 : Int32)))), .val (.int (2 : Int32)), .val (.ref b1), .unset, .unset, .unset, .unset, .unset] [(.int ((p6 &&& (255 : Int32)).toUInt32.toUInt16.toUInt32.toInt32)), (.int (2 : Int32)), (.ref b1)])) rfl rfl (hb hby at_56)
  have V7 : Arv Z h7 b1 k1 .char (4 : Int32) [(.int (nar .char ((p5 &&& (255 : Int32)).toUInt32.toUInt16.toUInt32.toInt32))), (.int (nar .char ((((p5.toUInt32 >>> ((8 : Int32) &&& 31).toUInt32).toInt32) &&& (255 : Int32)).toUInt32.toUInt16.toUInt32.toInt32))), (.int (nar .char ((p6 &&& (255 : Int32)).toUInt32.toUInt16.toUInt32.toInt32))), (.int (0 : Int32))] (.int (0 : Int32)) := Arv.set Ar7 qq7 S7 N7_ H7 G7 (fits_nar_char _) W7 2 rfl (Nat.le_of_ble_eq_true rfl)
  have zs8 : n0 ≤ h7.size := Nat.le_trans zs6 (Keep.of_wr W7).1
  have N7 := Fr.snoc X7 N5 g_b1
  obtain ⟨cx9, Ar9, qq9, S9, N9_, H9, G9⟩ := id V7
  have hin9 : ¬ ((3 : Int32) < 0 ∨ cx9.slots.size ≤ ((3 : Int32)).toNatClampNeg) := inb_of S9 ⟨by decide, by decide⟩
  obtain ⟨T9, h9, X9, e9, W9, st9⟩ := stC X7 hx hZ e7 Ar9 (j := (3 : Int32)) hin9 (g := (mkF m 70 #[.val (.int p1), .val (.int p2), .val (.int p3), .val (.int p4), .val (.int p5), .val (.int p6), .val (.int ((1 : Int32) + (p1 &&& (3 : Int32)))), .val (.int (2 : Int32)), .val (.ref b1), .unset, .unset, .unset, .unset, .unset] [(.int ((((p6.toUInt32 >>> ((8 : Int32) &&& 31).toUInt32).toInt32) &&& (255 : Int32)).toUInt32.toUInt16.toUInt32.toInt32)), (.int (3 : Int32)), (.ref b1)])) rfl rfl (hb hby at_70)
  have V9 : Arv Z h9 b1 k1 .char (4 : Int32) [(.int (nar .char ((p5 &&& (255 : Int32)).toUInt32.toUInt16.toUInt32.toInt32))), (.int (nar .char ((((p5.toUInt32 >>> ((8 : Int32) &&& 31).toUInt32).toInt32) &&& (255 : Int32)).toUInt32.toUInt16.toUInt32.toInt32))), (.int (nar .char ((p6 &&& (255 : Int32)).toUInt32.toUInt16.toUInt32.toInt32))), (.int (nar .char ((((p6.toUInt32 >>> ((8 : Int32) &&& 31).toUInt32).toInt32) &&& (255 : Int32)).toUInt32.toUInt16.toUInt32.toInt32)))] (.int (0 : Int32)) := Arv.set Ar9 qq9 S9 N9_ H9 G9 (fits_nar_char _) W9 3 rfl (Nat.le_of_ble_eq_true rfl)
  have zs10 : n0 ≤ h9.size := Nat.le_trans zs8 (Keep.of_wr W9).1
  have N9 := Fr.snoc X9 N7 g_b1
  have pre11 : ∀ t, Steps p.tables e below (T9.setTop (mkF m 74 #[.val (.int p1), .val (.int p2), .val (.int p3), .val (.int p4), .val (.int p5), .val (.int p6), .val (.int ((1 : Int32) + (p1 &&& (3 : Int32)))), .val (.int (2 : Int32)), .val (.ref b1), .unset, .unset, .unset, .unset, .unset] [(.int (p3 &&& (1 : Int32)))])) t → Steps p.tables e below (s₁.setTop (entryFrame m #[(.int p1), (.int p2), (.int p3), (.int p4), (.int p5), (.int p6)] maxLocals)) t := fun t kt => by
    refine pre0 _ ?_
    show Steps p.tables e below (s₁.setTop (mkF m 0 #[.val (.int p1), .val (.int p2), .val (.int p3), .val (.int p4), .val (.int p5), .val (.int p6), .unset, .unset, .unset, .unset, .unset, .unset, .unset, .unset] [])) _
    refine own_blk X0 hx bl0_0_6 (own_hb hby bd0_0_6) (pc' := 7) (Ls' := #[.val (.int p1), .val (.int p2), .val (.int p3), .val (.int p4), .val (.int p5), .val (.int p6), .val (.int ((1 : Int32) + (p1 &&& (3 : Int32)))), .unset, .unset, .unset, .unset, .unset, .unset, .unset]) (st' := []) rfl ?_
    refine own_blk X0 hx bl0_7_1 (own_hb hby bd0_7_1) (pc' := 8) (Ls' := #[.val (.int p1), .val (.int p2), .val (.int p3), .val (.int p4), .val (.int p5), .val (.int p6), .val (.int ((1 : Int32) + (p1 &&& (3 : Int32)))), .unset, .unset, .unset, .unset, .unset, .unset, .unset]) (st' := [(.int p2)]) rfl ?_
    refine X0.ldcInt hx hown (mvT hZ (hw _ (List.mem_of_getElem? (i := 0) rfl))) (g := (mkF m 8 #[.val (.int p1), .val (.int p2), .val (.int p3), .val (.int p4), .val (.int p5), .val (.int p6), .val (.int ((1 : Int32) + (p1 &&& (3 : Int32)))), .unset, .unset, .unset, .unset, .unset, .unset, .unset] [(.int p2)])) rfl (hb hby at_8) _ ?_
    show Steps p.tables e below (s₁.setTop (mkF m 10 #[.val (.int p1), .val (.int p2), .val (.int p3), .val (.int p4), .val (.int p5), .val (.int p6), .val (.int ((1 : Int32) + (p1 &&& (3 : Int32)))), .unset, .unset, .unset, .unset, .unset, .unset, .unset] [(.int (2147483647 : Int32)), (.int p2)])) _
    refine own_blk X0 hx bl0_10_2 (own_hb hby bd0_10_2) (pc' := 13) (Ls' := #[.val (.int p1), .val (.int p2), .val (.int p3), .val (.int p4), .val (.int p5), .val (.int p6), .val (.int ((1 : Int32) + (p1 &&& (3 : Int32)))), .unset, .unset, .unset, .unset, .unset, .unset, .unset]) (st' := [(.int ((1 : Int32) + (p1 &&& (3 : Int32)))), (.int (p2 &&& (2147483647 : Int32)))]) rfl ?_
    refine iremM X0 hx rfl (hb hby at_13) rfl (own_n0 p1) ?_
    show Steps p.tables e below (s₁.setTop (mkF m 14 #[.val (.int p1), .val (.int p2), .val (.int p3), .val (.int p4), .val (.int p5), .val (.int p6), .val (.int ((1 : Int32) + (p1 &&& (3 : Int32)))), .unset, .unset, .unset, .unset, .unset, .unset, .unset] [(.int ((p2 &&& (2147483647 : Int32)) % ((1 : Int32) + (p1 &&& (3 : Int32)))))])) _
    rw [hn]
    show Steps p.tables e below (s₁.setTop (mkF m 14 #[.val (.int p1), .val (.int p2), .val (.int p3), .val (.int p4), .val (.int p5), .val (.int p6), .val (.int ((1 : Int32) + (p1 &&& (3 : Int32)))), .unset, .unset, .unset, .unset, .unset, .unset, .unset] [(.int (2 : Int32))])) _
    refine own_blk X0 hx bl0_14_1 (own_hb hby bd0_14_1) (pc' := 16) (Ls' := #[.val (.int p1), .val (.int p2), .val (.int p3), .val (.int p4), .val (.int p5), .val (.int p6), .val (.int ((1 : Int32) + (p1 &&& (3 : Int32)))), .val (.int (2 : Int32)), .unset, .unset, .unset, .unset, .unset, .unset]) (st' := []) rfl ?_
    refine own_blk X0 hx bl0_16_1 (own_hb hby bd0_16_1) (pc' := 17) (Ls' := #[.val (.int p1), .val (.int p2), .val (.int p3), .val (.int p4), .val (.int p5), .val (.int p6), .val (.int ((1 : Int32) + (p1 &&& (3 : Int32)))), .val (.int (2 : Int32)), .unset, .unset, .unset, .unset, .unset, .unset]) (st' := [(.int (4 : Int32))]) rfl ?_
    refine st1 _ ?_
    show Steps p.tables e below (T1.setTop (mkF m 19 #[.val (.int p1), .val (.int p2), .val (.int p3), .val (.int p4), .val (.int p5), .val (.int p6), .val (.int ((1 : Int32) + (p1 &&& (3 : Int32)))), .val (.int (2 : Int32)), .unset, .unset, .unset, .unset, .unset, .unset] [(.ref b1)])) _
    refine own_blk X1 hx bl0_19_1 (own_hb hby bd0_19_1) (pc' := 21) (Ls' := #[.val (.int p1), .val (.int p2), .val (.int p3), .val (.int p4), .val (.int p5), .val (.int p6), .val (.int ((1 : Int32) + (p1 &&& (3 : Int32)))), .val (.int (2 : Int32)), .val (.ref b1), .unset, .unset, .unset, .unset, .unset]) (st' := []) rfl ?_
    refine own_blk X1 hx bl0_21_6 (own_hb hby bd0_21_6) (pc' := 31) (Ls' := #[.val (.int p1), .val (.int p2), .val (.int p3), .val (.int p4), .val (.int p5), .val (.int p6), .val (.int ((1 : Int32) + (p1 &&& (3 : Int32)))), .val (.int (2 : Int32)), .val (.ref b1), .unset, .unset, .unset, .unset, .unset]) (st' := [(.int ((p5 &&& (255 : Int32)).toUInt32.toUInt16.toUInt32.toInt32)), (.int (0 : Int32)), (.ref b1)]) rfl ?_
    refine st3 _ ?_
    show Steps p.tables e below (T3.setTop (mkF m 32 #[.val (.int p1), .val (.int p2), .val (.int p3), .val (.int p4), .val (.int p5), .val (.int p6), .val (.int ((1 : Int32) + (p1 &&& (3 : Int32)))), .val (.int (2 : Int32)), .val (.ref b1), .unset, .unset, .unset, .unset, .unset] [])) _
    refine own_blk X3 hx bl0_32_8 (own_hb hby bd0_32_8) (pc' := 45) (Ls' := #[.val (.int p1), .val (.int p2), .val (.int p3), .val (.int p4), .val (.int p5), .val (.int p6), .val (.int ((1 : Int32) + (p1 &&& (3 : Int32)))), .val (.int (2 : Int32)), .val (.ref b1), .unset, .unset, .unset, .unset, .unset]) (st' := [(.int ((((p5.toUInt32 >>> ((8 : Int32) &&& 31).toUInt32).toInt32) &&& (255 : Int32)).toUInt32.toUInt16.toUInt32.toInt32)), (.int (1 : Int32)), (.ref b1)]) rfl ?_
    refine st5 _ ?_
    show Steps p.tables e below (T5.setTop (mkF m 46 #[.val (.int p1), .val (.int p2), .val (.int p3), .val (.int p4), .val (.int p5), .val (.int p6), .val (.int ((1 : Int32) + (p1 &&& (3 : Int32)))), .val (.int (2 : Int32)), .val (.ref b1), .unset, .unset, .unset, .unset, .unset] [])) _
    refine own_blk X5 hx bl0_46_6 (own_hb hby bd0_46_6) (pc' := 56) (Ls' := #[.val (.int p1), .val (.int p2), .val (.int p3), .val (.int p4), .val (.int p5), .val (.int p6), .val (.int ((1 : Int32) + (p1 &&& (3 : Int32)))), .val (.int (2 : Int32)), .val (.ref b1), .unset, .unset, .unset, .unset, .unset]) (st' := [(.int ((p6 &&& (255 : Int32)).toUInt32.toUInt16.toUInt32.toInt32)), (.int (2 : Int32)), (.ref b1)]) rfl ?_
    refine st7 _ ?_
    show Steps p.tables e below (T7.setTop (mkF m 57 #[.val (.int p1), .val (.int p2), .val (.int p3), .val (.int p4), .val (.int p5), .val (.int p6), .val (.int ((1 : Int32) + (p1 &&& (3 : Int32)))), .val (.int (2 : Int32)), .val (.ref b1), .unset, .unset, .unset, .unset, .unset] [])) _
    refine own_blk X7 hx bl0_57_8 (own_hb hby bd0_57_8) (pc' := 70) (Ls' := #[.val (.int p1), .val (.int p2), .val (.int p3), .val (.int p4), .val (.int p5), .val (.int p6), .val (.int ((1 : Int32) + (p1 &&& (3 : Int32)))), .val (.int (2 : Int32)), .val (.ref b1), .unset, .unset, .unset, .unset, .unset]) (st' := [(.int ((((p6.toUInt32 >>> ((8 : Int32) &&& 31).toUInt32).toInt32) &&& (255 : Int32)).toUInt32.toUInt16.toUInt32.toInt32)), (.int (3 : Int32)), (.ref b1)]) rfl ?_
    refine st9 _ ?_
    show Steps p.tables e below (T9.setTop (mkF m 71 #[.val (.int p1), .val (.int p2), .val (.int p3), .val (.int p4), .val (.int p5), .val (.int p6), .val (.int ((1 : Int32) + (p1 &&& (3 : Int32)))), .val (.int (2 : Int32)), .val (.ref b1), .unset, .unset, .unset, .unset, .unset] [])) _
    refine own_blk X9 hx bl0_71_3 (own_hb hby bd0_71_3) (pc' := 74) (Ls' := #[.val (.int p1), .val (.int p2), .val (.int p3), .val (.int p4), .val (.int p5), .val (.int p6), .val (.int ((1 : Int32) + (p1 &&& (3 : Int32)))), .val (.int (2 : Int32)), .val (.ref b1), .unset, .unset, .unset, .unset, .unset]) (st' := [(.int (p3 &&& (1 : Int32)))]) rfl ?_
    exact kt
  by_cases hc12 : (p3 &&& (1 : Int32)) = (0 : Int32)
  · obtain ⟨cx13, Ar13, qq13, S13, N13_, H13, G13⟩ := id V9
    have hin13 : ¬ ((2 : Int32) < 0 ∨ cx13.slots.size ≤ ((2 : Int32)).toNatClampNeg) := inb_of S13 ⟨by decide, by decide⟩
    obtain ⟨T13, h13, X13, e13, W13, st13⟩ := stC X9 hx hZ e9 Ar13 (j := (2 : Int32)) hin13 (g := (mkF m 100 #[.val (.int p1), .val (.int p2), .val (.int p3), .val (.int p4), .val (.int p5), .val (.int p6), .val (.int ((1 : Int32) + (p1 &&& (3 : Int32)))), .val (.int (2 : Int32)), .val (.ref b1), .val (.int (0 : Int32)), .unset, .unset, .unset, .unset] [(.int (10 : Int32)), (.int (2 : Int32)), (.ref b1)])) rfl rfl (hb hby at_100)
    have V13 : Arv Z h13 b1 k1 .char (4 : Int32) [(.int (nar .char ((p5 &&& (255 : Int32)).toUInt32.toUInt16.toUInt32.toInt32))), (.int (nar .char ((((p5.toUInt32 >>> ((8 : Int32) &&& 31).toUInt32).toInt32) &&& (255 : Int32)).toUInt32.toUInt16.toUInt32.toInt32))), (.int (nar .char (10 : Int32))), (.int (nar .char ((((p6.toUInt32 >>> ((8 : Int32) &&& 31).toUInt32).toInt32) &&& (255 : Int32)).toUInt32.toUInt16.toUInt32.toInt32)))] (.int (0 : Int32)) := Arv.set Ar13 qq13 S13 N13_ H13 G13 (fits_nar_char _) W13 2 rfl (Nat.le_of_ble_eq_true rfl)
    have zs14 : n0 ≤ h13.size := Nat.le_trans zs10 (Keep.of_wr W13).1
    have N13 := Fr.snoc X13 N9 g_b1
    obtain ⟨_, T15, Lc15, X15, hQ15, st15⟩ := own_callS X13 hx hZ (y := (⟨"com/example/endcon/endcon/yaml/CursorNewLinePinLaw", "pick", "(I)C"⟩ : MethodName)) hown (hw _ (List.mem_of_getElem? (i := 2) rfl)) (hw _ (List.mem_of_getElem? (i := 3) rfl)) (hw _ (List.mem_of_getElem? (i := 4) rfl)) (hw _ (List.mem_of_getElem? (i := 5) rfl)) (by decide) (W := 2) (argsL := [(.int p4)]) (rest := [(.int (3 : Int32)), (.ref b1)]) (rm1 l Z a0 hw [] p4 h13 n0 zs14 ) (by decide) (by decide) (c' := 1) (s' := 4) rfl rfl (by decide) (by decide) e13 (g := (mkF m 116 #[.val (.int p1), .val (.int p2), .val (.int p3), .val (.int p4), .val (.int p5), .val (.int p6), .val (.int ((1 : Int32) + (p1 &&& (3 : Int32)))), .val (.int (2 : Int32)), .val (.ref b1), .val (.int (0 : Int32)), .unset, .unset, .unset, .unset] [(.int p4), (.int (3 : Int32)), (.ref b1)])) rfl (by rw [hml]; rfl) (lenOf pd_0_0 rfl) rfl (by show 2 * 0 + _ ≤ _; exact Nat.le_of_eq rfl) (hb hby at_116)
    obtain ⟨rfl, N15q, e15⟩ := hQ15
    have N15 := Fr.app N13 N15q
    obtain ⟨cx16, Ar16, qq16, S16, N16_, H16, G16⟩ := id V13
    have hin16 : ¬ ((3 : Int32) < 0 ∨ cx16.slots.size ≤ ((3 : Int32)).toNatClampNeg) := inb_of S16 ⟨by decide, by decide⟩
    obtain ⟨T16, h16, X16, e16, W16, st16⟩ := stC X15 hx hZ e15 Ar16 (j := (3 : Int32)) hin16 (g := (mkF m 119 #[.val (.int p1), .val (.int p2), .val (.int p3), .val (.int p4), .val (.int p5), .val (.int p6), .val (.int ((1 : Int32) + (p1 &&& (3 : Int32)))), .val (.int (2 : Int32)), .val (.ref b1), .val (.int (0 : Int32)), .unset, .unset, .unset, .unset] [(.int (f1 p4)), (.int (3 : Int32)), (.ref b1)])) rfl rfl (hb hby at_119)
    have V16 : Arv Z h16 b1 k1 .char (4 : Int32) [(.int (nar .char ((p5 &&& (255 : Int32)).toUInt32.toUInt16.toUInt32.toInt32))), (.int (nar .char ((((p5.toUInt32 >>> ((8 : Int32) &&& 31).toUInt32).toInt32) &&& (255 : Int32)).toUInt32.toUInt16.toUInt32.toInt32))), (.int (nar .char (10 : Int32))), (.int (nar .char (f1 p4)))] (.int (0 : Int32)) := Arv.set Ar16 qq16 S16 N16_ H16 G16 (fits_nar_char _) W16 3 rfl (Nat.le_of_ble_eq_true rfl)
    have zs17 : n0 ≤ h16.size := Nat.le_trans zs14 (Keep.of_wr W16).1
    have N16 := Fr.snoc X16 N15 g_b1
    obtain ⟨T18, h18, X18, e18, E18, A18, D18, -, st18⟩ := newO X16 hx hZ hown (hw _ (List.mem_of_getElem? (i := 6) rfl)) (hw _ (List.mem_of_getElem? (i := 7) rfl)) (hw _ (List.mem_of_getElem? (i := 8) rfl)) e16 (g := (mkF m 120 #[.val (.int p1), .val (.int p2), .val (.int p3), .val (.int p4), .val (.int p5), .val (.int p6), .val (.int ((1 : Int32) + (p1 &&& (3 : Int32)))), .val (.int (2 : Int32)), .val (.ref b1), .val (.int (0 : Int32)), .unset, .unset, .unset, .unset] [])) rfl (hb hby at_120) (by decide) (by decide)
    obtain ⟨b18, g18⟩ : ∃ z, z = h16.size := ⟨_, rfl⟩
    rw [← g18] at A18 D18 st18
    have ne_b1_b18 : b1 ≠ b18 := Nat.ne_of_lt (Nat.lt_of_lt_of_le V16.lt (Nat.le_of_eq g18.symm))
    have g_b18 : n0 ≤ b18 := Nat.le_trans zs17 (Nat.le_of_eq g18.symm)
    have zs19 : n0 ≤ h18.size := Nat.le_trans zs17 E18.1
    have F_line_b18 : Fld Z h18 b18 "com/example/endcon/endcon/yaml/Cursor" "line" "I" (.int (0 : Int32)) := D18 (Or.inl (hw _ (List.mem_of_getElem? (i := 24) rfl))) (ty := .int) (by decide)
    have F_blankLinesFrom_b18 : Fld Z h18 b18 "com/example/endcon/endcon/yaml/Cursor" "blankLinesFrom" "I" (.int (0 : Int32)) := D18 (Or.inl (hw _ (List.mem_of_getElem? (i := 26) rfl))) (ty := .int) (by decide)
    have F_countedIndex_b18 : Fld Z h18 b18 "com/example/endcon/endcon/yaml/Cursor" "countedIndex" "I" (.int (0 : Int32)) := D18 (Or.inl (hw _ (List.mem_of_getElem? (i := 28) rfl))) (ty := .int) (by decide)
    have F_file_b18 : Fld Z h18 b18 "com/example/endcon/endcon/yaml/Cursor" "file" "Ljava/lang/String;" .null := D18 (Or.inr (hw _ (List.mem_of_getElem? (i := 30) rfl))) (ty := (.object "java/lang/String")) (by decide)
    have F_text_b18 : Fld Z h18 b18 "com/example/endcon/endcon/yaml/Cursor" "text" "[C" .null := D18 (Or.inl (hw _ (List.mem_of_getElem? (i := 32) rfl))) (ty := (.array .char)) (by decide)
    have F_end_b18 : Fld Z h18 b18 "com/example/endcon/endcon/yaml/Cursor" "end" "I" (.int (0 : Int32)) := D18 (Or.inr (hw _ (List.mem_of_getElem? (i := 34) rfl))) (ty := .int) (by decide)
    have F_hasSurrogates_b18 : Fld Z h18 b18 "com/example/endcon/endcon/yaml/Cursor" "hasSurrogates" "Z" (.int (0 : Int32)) := D18 (Or.inr (hw _ (List.mem_of_getElem? (i := 41) rfl))) (ty := .boolean) (by decide)
    have F_pos_b18 : Fld Z h18 b18 "com/example/endcon/endcon/yaml/Cursor" "pos" "I" (.int (0 : Int32)) := D18 (Or.inl (hw _ (List.mem_of_getElem? (i := 49) rfl))) (ty := .int) (by decide)
    have F_lineStart_b18 : Fld Z h18 b18 "com/example/endcon/endcon/yaml/Cursor" "lineStart" "I" (.int (0 : Int32)) := D18 (Or.inl (hw _ (List.mem_of_getElem? (i := 56) rfl))) (ty := .int) (by decide)
    have pre20 : ∀ t, Steps p.tables e below (T18.setTop (mkF m 124 #[.val (.int p1), .val (.int p2), .val (.int p3), .val (.int p4), .val (.int p5), .val (.int p6), .val (.int ((1 : Int32) + (p1 &&& (3 : Int32)))), .val (.int (2 : Int32)), .val (.ref b1), .val (.int (0 : Int32)), .unset, .unset, .unset, .unset] [(.ref b18), (.ref b18)])) t → Steps p.tables e below (s₁.setTop (entryFrame m #[(.int p1), (.int p2), (.int p3), (.int p4), (.int p5), (.int p6)] maxLocals)) t := fun t kt => by
      refine pre11 _ ?_
      show Steps p.tables e below (T9.setTop (mkF m 74 #[.val (.int p1), .val (.int p2), .val (.int p3), .val (.int p4), .val (.int p5), .val (.int p6), .val (.int ((1 : Int32) + (p1 &&& (3 : Int32)))), .val (.int (2 : Int32)), .val (.ref b1), .unset, .unset, .unset, .unset, .unset] [(.int (p3 &&& (1 : Int32)))])) _
      refine XS.ifYes X9.here hx rfl (pc0 := 74) (pc' := 81) rfl (hb hby at_74) rfl ((if0 _ _).trans (teq hc12).1) (by decide) (by decide) ?_
      show Steps p.tables e below (T9.setTop (mkF m 81 #[.val (.int p1), .val (.int p2), .val (.int p3), .val (.int p4), .val (.int p5), .val (.int p6), .val (.int ((1 : Int32) + (p1 &&& (3 : Int32)))), .val (.int (2 : Int32)), .val (.ref b1), .unset, .unset, .unset, .unset, .unset] [])) _
      refine own_blk X9 hx bl0_81_2 (own_hb hby bd0_81_2) (pc' := 84) (Ls' := #[.val (.int p1), .val (.int p2), .val (.int p3), .val (.int p4), .val (.int p5), .val (.int p6), .val (.int ((1 : Int32) + (p1 &&& (3 : Int32)))), .val (.int (2 : Int32)), .val (.ref b1), .val (.int (0 : Int32)), .unset, .unset, .unset, .unset]) (st' := []) rfl ?_
      refine own_blk X9 hx bl0_84_3 (own_hb hby bd0_84_3) (pc' := 90) (Ls' := #[.val (.int p1), .val (.int p2), .val (.int p3), .val (.int p4), .val (.int p5), .val (.int p6), .val (.int ((1 : Int32) + (p1 &&& (3 : Int32)))), .val (.int (2 : Int32)), .val (.ref b1), .val (.int (0 : Int32)), .unset, .unset, .unset, .unset]) (st' := [(.int (0 : Int32)), (.int (2 : Int32)), (.ref b1)]) rfl ?_
      refine XS.ifYes X9.here hx rfl (pc0 := 90) (pc' := 98) rfl (hb hby at_90) rfl ((if0 _ _).trans (teq (by decide : (0 : Int32) = (0 : Int32))).1) (by decide) (by decide) ?_
      show Steps p.tables e below (T9.setTop (mkF m 98 #[.val (.int p1), .val (.int p2), .val (.int p3), .val (.int p4), .val (.int p5), .val (.int p6), .val (.int ((1 : Int32) + (p1 &&& (3 : Int32)))), .val (.int (2 : Int32)), .val (.ref b1), .val (.int (0 : Int32)), .unset, .unset, .unset, .unset] [(.int (2 : Int32)), (.ref b1)])) _
      refine own_blk X9 hx bl0_98_1 (own_hb hby bd0_98_1) (pc' := 100) (Ls' := #[.val (.int p1), .val (.int p2), .val (.int p3), .val (.int p4), .val (.int p5), .val (.int p6), .val (.int ((1 : Int32) + (p1 &&& (3 : Int32)))), .val (.int (2 : Int32)), .val (.ref b1), .val (.int (0 : Int32)), .unset, .unset, .unset, .unset]) (st' := [(.int (10 : Int32)), (.int (2 : Int32)), (.ref b1)]) rfl ?_
      refine st13 _ ?_
      show Steps p.tables e below (T13.setTop (mkF m 101 #[.val (.int p1), .val (.int p2), .val (.int p3), .val (.int p4), .val (.int p5), .val (.int p6), .val (.int ((1 : Int32) + (p1 &&& (3 : Int32)))), .val (.int (2 : Int32)), .val (.ref b1), .val (.int (0 : Int32)), .unset, .unset, .unset, .unset] [])) _
      refine own_blk X13 hx bl0_101_4 (own_hb hby bd0_101_4) (pc' := 106) (Ls' := #[.val (.int p1), .val (.int p2), .val (.int p3), .val (.int p4), .val (.int p5), .val (.int p6), .val (.int ((1 : Int32) + (p1 &&& (3 : Int32)))), .val (.int (2 : Int32)), .val (.ref b1), .val (.int (0 : Int32)), .unset, .unset, .unset, .unset]) (st' := [(.int (4 : Int32)), (.int (3 : Int32))]) rfl ?_
      refine XS.icmpNo X13.here hx rfl (hb hby at_106) rfl (tlt (by decide : (3 : Int32) < (4 : Int32))).2.1 ?_
      show Steps p.tables e below (T13.setTop (mkF m 109 #[.val (.int p1), .val (.int p2), .val (.int p3), .val (.int p4), .val (.int p5), .val (.int p6), .val (.int ((1 : Int32) + (p1 &&& (3 : Int32)))), .val (.int (2 : Int32)), .val (.ref b1), .val (.int (0 : Int32)), .unset, .unset, .unset, .unset] [])) _
      refine own_blk X13 hx bl0_109_5 (own_hb hby bd0_109_5) (pc' := 116) (Ls' := #[.val (.int p1), .val (.int p2), .val (.int p3), .val (.int p4), .val (.int p5), .val (.int p6), .val (.int ((1 : Int32) + (p1 &&& (3 : Int32)))), .val (.int (2 : Int32)), .val (.ref b1), .val (.int (0 : Int32)), .unset, .unset, .unset, .unset]) (st' := [(.int p4), (.int (3 : Int32)), (.ref b1)]) rfl ?_
      refine st15 _ ?_
      show Steps p.tables e below (T15.setTop (mkF m 119 #[.val (.int p1), .val (.int p2), .val (.int p3), .val (.int p4), .val (.int p5), .val (.int p6), .val (.int ((1 : Int32) + (p1 &&& (3 : Int32)))), .val (.int (2 : Int32)), .val (.ref b1), .val (.int (0 : Int32)), .unset, .unset, .unset, .unset] [(.int (f1 p4)), (.int (3 : Int32)), (.ref b1)])) _
      refine st16 _ ?_
      show Steps p.tables e below (T16.setTop (mkF m 120 #[.val (.int p1), .val (.int p2), .val (.int p3), .val (.int p4), .val (.int p5), .val (.int p6), .val (.int ((1 : Int32) + (p1 &&& (3 : Int32)))), .val (.int (2 : Int32)), .val (.ref b1), .val (.int (0 : Int32)), .unset, .unset, .unset, .unset] [])) _
      refine st18 _ ?_
      show Steps p.tables e below (T18.setTop (mkF m 123 #[.val (.int p1), .val (.int p2), .val (.int p3), .val (.int p4), .val (.int p5), .val (.int p6), .val (.int ((1 : Int32) + (p1 &&& (3 : Int32)))), .val (.int (2 : Int32)), .val (.ref b1), .val (.int (0 : Int32)), .unset, .unset, .unset, .unset] [(.ref b18)])) _
      refine own_blk X18 hx bl0_123_1 (own_hb hby bd0_123_1) (pc' := 124) (Ls' := #[.val (.int p1), .val (.int p2), .val (.int p3), .val (.int p4), .val (.int p5), .val (.int p6), .val (.int ((1 : Int32) + (p1 &&& (3 : Int32)))), .val (.int (2 : Int32)), .val (.ref b1), .val (.int (0 : Int32)), .unset, .unset, .unset, .unset]) (st' := [(.ref b18), (.ref b18)]) rfl ?_
      exact kt
    have hS21a : s.Since s.vm h18.size := (State.WarmedH.refl s).since _
    obtain ⟨sa21, T21, h21, kk21, X21, e21, E21, hS21, hkk21, hZ, hown, st21⟩ := ldcS (s := s) (vm0 := s.vm) X18 hx hZ hown (hw _ (List.mem_of_getElem? (i := 9) rfl)) (own_ws hw) e18 hS21a (Nat.le_refl _) (g := (mkF m 124 #[.val (.int p1), .val (.int p2), .val (.int p3), .val (.int p4), .val (.int p5), .val (.int p6), .val (.int ((1 : Int32) + (p1 &&& (3 : Int32)))), .val (.int (2 : Int32)), .val (.ref b1), .val (.int (0 : Int32)), .unset, .unset, .unset, .unset] [(.ref b18), (.ref b18)])) rfl (hb hby at_124) (n := 4) (by decide) (by decide) (by decide) (by decide)
    have zs22 : n0 ≤ h21.size := Nat.le_trans zs19 E21.1
    have fa24 : Exa Z h21 b18 "com/example/endcon/endcon/yaml/Cursor" := (A18.ext E21)
    have fa25 : Fld Z h21 b18 "com/example/endcon/endcon/yaml/Cursor" "line" "I" (.int (0 : Int32)) := (F_line_b18.ext E21)
    have fa26 : Fld Z h21 b18 "com/example/endcon/endcon/yaml/Cursor" "blankLinesFrom" "I" (.int (0 : Int32)) := (F_blankLinesFrom_b18.ext E21)
    have fa27 : Fld Z h21 b18 "com/example/endcon/endcon/yaml/Cursor" "countedIndex" "I" (.int (0 : Int32)) := (F_countedIndex_b18.ext E21)
    have fa28 : Fld Z h21 b18 "com/example/endcon/endcon/yaml/Cursor" "file" "Ljava/lang/String;" .null := (F_file_b18.ext E21)
    have fa29 : Fld Z h21 b18 "com/example/endcon/endcon/yaml/Cursor" "text" "[C" .null := (F_text_b18.ext E21)
    have fa30 : Fld Z h21 b18 "com/example/endcon/endcon/yaml/Cursor" "end" "I" (.int (0 : Int32)) := (F_end_b18.ext E21)
    have fa31 : Fld Z h21 b18 "com/example/endcon/endcon/yaml/Cursor" "hasSurrogates" "Z" (.int (0 : Int32)) := (F_hasSurrogates_b18.ext E21)
    have fa32 : Fld Z h21 b18 "com/example/endcon/endcon/yaml/Cursor" "pos" "I" (.int (0 : Int32)) := (F_pos_b18.ext E21)
    have fa33 : Fld Z h21 b18 "com/example/endcon/endcon/yaml/Cursor" "lineStart" "I" (.int (0 : Int32)) := (F_lineStart_b18.ext E21)
    have fa34 : Arv Z h21 b1 k1 .char (4 : Int32) [(.int (nar .char ((p5 &&& (255 : Int32)).toUInt32.toUInt16.toUInt32.toInt32))), (.int (nar .char ((((p5.toUInt32 >>> ((8 : Int32) &&& 31).toUInt32).toInt32) &&& (255 : Int32)).toUInt32.toUInt16.toUInt32.toInt32))), (.int (nar .char (10 : Int32))), (.int (nar .char (f1 p4)))] (.int (0 : Int32)) := ((V16.ext E18).ext E21)
    obtain ⟨_, T23, Lc23, X23, hQ23, st23⟩ := own_callI X21 hx hZ (y := (⟨"com/example/endcon/endcon/yaml/Cursor", "<init>", "(Ljava/lang/String;[CI)V"⟩ : MethodName)) rfl hown (hw _ (List.mem_of_getElem? (i := 17) rfl)) (hw _ (List.mem_of_getElem? (i := 18) rfl)) (hw _ (List.mem_of_getElem? (i := 8) rfl)) (hw _ (List.mem_of_getElem? (i := 19) rfl)) (by decide) (W := 1) (a := b18) (argsL := [(.ref sa21), (.ref b1), (.int ((1 : Int32) + (p1 &&& (3 : Int32))))]) (rest := [(.ref b18)]) (rm2 l Z a0 hw [] b18 sa21 b1 ((1 : Int32) + (p1 &&& (3 : Int32))) (nar .char ((p5 &&& (255 : Int32)).toUInt32.toUInt16.toUInt32.toInt32)) (nar .char ((((p5.toUInt32 >>> ((8 : Int32) &&& 31).toUInt32).toInt32) &&& (255 : Int32)).toUInt32.toUInt16.toUInt32.toInt32)) (nar .char (10 : Int32)) (nar .char (f1 p4)) k1 h21 n0 zs22 fa24 fa25 fa26 fa27 fa28 fa29 fa30 fa31 fa32 fa33 g_b18 fa34 (Ne.symm ne_b1_b18) (own_n4 p1) (own_lt1 p5) (own_lt2 p5) (by decide) (own_ltp p4)) (by decide) (by decide) (c' := 4) (s' := 24) rfl rfl (by decide) (by decide) e21 (g := (mkF m 130 #[.val (.int p1), .val (.int p2), .val (.int p3), .val (.int p4), .val (.int p5), .val (.int p6), .val (.int ((1 : Int32) + (p1 &&& (3 : Int32)))), .val (.int (2 : Int32)), .val (.ref b1), .val (.int (0 : Int32)), .unset, .unset, .unset, .unset] [(.int ((1 : Int32) + (p1 &&& (3 : Int32)))), (.ref b1), (.ref sa21), (.ref b18), (.ref b18)])) rfl (by rw [hml]; rfl) (lenOf pd_0_1 rfl) rfl (by show 2 * 0 + _ ≤ _; exact Nat.le_of_eq rfl) (hb hby at_130)
    obtain ⟨rfl, N23q, K23, Ec23_a1, Fc23_a1_line, Fc23_a1_blankLinesFrom, Fc23_a1_countedIndex, Fc23_a1_file, Fc23_a1_text, Fc23_a1_end, Fc23_a1_hasSurrogates, Fc23_a1_pos, Fc23_a1_lineStart⟩ := hQ23
    have N23 := Fr.app N16 N23q
    have zk35 : kk21 ≤ T23.heap.size := Nat.le_trans hkk21 K23.1
    have zs36 : n0 ≤ T23.heap.size := Nat.le_trans zs22 K23.1
    obtain ⟨_, T37, Lc37, X37, hQ37, st37⟩ := own_callV X23 hx hZ (y := (⟨"com/example/endcon/endcon/yaml/Cursor", "moveTo", "(I)V"⟩ : MethodName)) hown (hw _ (List.mem_of_getElem? (i := 43) rfl)) (hw _ (List.mem_of_getElem? (i := 44) rfl)) (hw _ (List.mem_of_getElem? (i := 46) rfl)) (hw _ (List.mem_of_getElem? (i := 45) rfl)) (hw _ (List.mem_of_getElem? (i := 8) rfl)) (hw _ (List.mem_of_getElem? (i := 47) rfl)) (by decide) (W := 0) Ec23_a1 (argsL := [(.int (2 : Int32))]) (rest := []) (rm5 l Z a0 hw [] b18 (2 : Int32) b1 ((1 : Int32) + (p1 &&& (3 : Int32))) (0 : Int32) (1 : Int32) (0 : Int32) T23.heap n0 zs36 Ec23_a1 Fc23_a1_text Fc23_a1_end Fc23_a1_pos Fc23_a1_line Fc23_a1_lineStart g_b18) (by decide) (by decide) (c' := 4) (s' := 24) rfl rfl (by decide) (by decide) rfl (g := (mkF m 139 #[.val (.int p1), .val (.int p2), .val (.int p3), .val (.int p4), .val (.int p5), .val (.int p6), .val (.int ((1 : Int32) + (p1 &&& (3 : Int32)))), .val (.int (2 : Int32)), .val (.ref b1), .val (.int (0 : Int32)), .val (.ref b18), .unset, .unset, .unset] [(.int (2 : Int32)), (.ref b18)])) rfl (by rw [hml]; rfl) (lenOf pd_0_4 rfl) rfl (by show 2 * 0 + _ ≤ _; exact Nat.le_of_eq rfl) (hb hby at_139)
    obtain ⟨rfl, N37q, K37, Ec37_a1, Fc37_a1_text, Fc37_a1_end, Fc37_a1_pos, Fc37_a1_line, Fc37_a1_lineStart⟩ := hQ37
    have N37 := Fr.app N23 N37q
    have zk38 : kk21 ≤ T37.heap.size := Nat.le_trans zk35 K37.1
    have zs39 : n0 ≤ T37.heap.size := Nat.le_trans zs36 K37.1
    have fa41 : Arv Z T37.heap b1 k1 .char (4 : Int32) [(.int (nar .char ((p5 &&& (255 : Int32)).toUInt32.toUInt16.toUInt32.toInt32))), (.int (nar .char ((((p5.toUInt32 >>> ((8 : Int32) &&& 31).toUInt32).toInt32) &&& (255 : Int32)).toUInt32.toUInt16.toUInt32.toInt32))), (.int (nar .char (10 : Int32))), (.int (nar .char (f1 p4)))] (.int (0 : Int32)) := ((fa34.keep K23 (ninS ne_b1_b18 nin0)).keep K37 (ninS ne_b1_b18 nin0))
    obtain ⟨_, T40, Lc40, X40, hQ40, st40⟩ := own_callV X37 hx hZ (y := (⟨"com/example/endcon/endcon/yaml/Cursor", "newLine", "()V"⟩ : MethodName)) hown (hw _ (List.mem_of_getElem? (i := 50) rfl)) (hw _ (List.mem_of_getElem? (i := 51) rfl)) (hw _ (List.mem_of_getElem? (i := 53) rfl)) (hw _ (List.mem_of_getElem? (i := 52) rfl)) (hw _ (List.mem_of_getElem? (i := 8) rfl)) (hw _ (List.mem_of_getElem? (i := 54) rfl)) (by decide) (W := 0) Ec37_a1 (argsL := []) (rest := []) (rm6 l Z a0 hw [] b18 b1 (nar .char ((p5 &&& (255 : Int32)).toUInt32.toUInt16.toUInt32.toInt32)) (nar .char ((((p5.toUInt32 >>> ((8 : Int32) &&& 31).toUInt32).toInt32) &&& (255 : Int32)).toUInt32.toUInt16.toUInt32.toInt32)) (nar .char (10 : Int32)) (nar .char (f1 p4)) ((1 : Int32) + (p1 &&& (3 : Int32))) (2 : Int32) (1 : Int32) (0 : Int32) k1 T37.heap n0 zs39 Ec37_a1 Fc37_a1_text Fc37_a1_end Fc37_a1_pos Fc37_a1_line Fc37_a1_lineStart g_b18 fa41 ne_b1_b18 (by decide) (by decide) (fun _ => ⟨by decide, by decide⟩)) (by decide) (by decide) (c' := 4) (s' := 24) rfl rfl (by decide) (by decide) rfl (g := (mkF m 144 #[.val (.int p1), .val (.int p2), .val (.int p3), .val (.int p4), .val (.int p5), .val (.int p6), .val (.int ((1 : Int32) + (p1 &&& (3 : Int32)))), .val (.int (2 : Int32)), .val (.ref b1), .val (.int (0 : Int32)), .val (.ref b18), .unset, .unset, .unset] [(.ref b18)])) rfl (by rw [hml]; rfl) (lenOf pd_0_2 rfl) rfl (by show 2 * 0 + _ ≤ _; exact Nat.le_of_eq rfl) (hb hby at_144)
    obtain ⟨hv40, N40q, K40, Ec40_a1, Fc40_a1_text, Fc40_a1_end, Fc40_a1_pos, Fc40_a1_line, Fc40_a1_lineStart⟩ := hQ40
    have N40 := Fr.app N37 N40q
    subst hv40
    have lFc40_a1_pos : Fld Z T40.heap b18 "com/example/endcon/endcon/yaml/Cursor" "pos" "I" (.int ((2 : Int32) + (1 : Int32))) := by have q := Fc40_a1_pos; rw [f6_a1_pos, if_neg (show ¬ ((own_at4 (nar .char ((p5 &&& (255 : Int32)).toUInt32.toUInt16.toUInt32.toInt32)) (nar .char ((((p5.toUInt32 >>> ((8 : Int32) &&& 31).toUInt32).toInt32) &&& (255 : Int32)).toUInt32.toUInt16.toUInt32.toInt32)) (nar .char (10 : Int32)) (nar .char (f1 p4)) (2 : Int32)) = (13 : Int32)) from (by decide : ¬ ((nar .char (10 : Int32)) = (13 : Int32))))] at q; exact q
    have lFc40_a1_line : Fld Z T40.heap b18 "com/example/endcon/endcon/yaml/Cursor" "line" "I" (.int ((1 : Int32) + (1 : Int32))) := by have q := Fc40_a1_line; rw [f6_a1_line, if_neg (show ¬ ((own_at4 (nar .char ((p5 &&& (255 : Int32)).toUInt32.toUInt16.toUInt32.toInt32)) (nar .char ((((p5.toUInt32 >>> ((8 : Int32) &&& 31).toUInt32).toInt32) &&& (255 : Int32)).toUInt32.toUInt16.toUInt32.toInt32)) (nar .char (10 : Int32)) (nar .char (f1 p4)) (2 : Int32)) = (13 : Int32)) from (by decide : ¬ ((nar .char (10 : Int32)) = (13 : Int32))))] at q; exact q
    have lFc40_a1_lineStart : Fld Z T40.heap b18 "com/example/endcon/endcon/yaml/Cursor" "lineStart" "I" (.int ((2 : Int32) + (1 : Int32))) := by have q := Fc40_a1_lineStart; rw [f6_a1_lineStart, if_neg (show ¬ ((own_at4 (nar .char ((p5 &&& (255 : Int32)).toUInt32.toUInt16.toUInt32.toInt32)) (nar .char ((((p5.toUInt32 >>> ((8 : Int32) &&& 31).toUInt32).toInt32) &&& (255 : Int32)).toUInt32.toUInt16.toUInt32.toInt32)) (nar .char (10 : Int32)) (nar .char (f1 p4)) (2 : Int32)) = (13 : Int32)) from (by decide : ¬ ((nar .char (10 : Int32)) = (13 : Int32))))] at q; exact q
    have zk42 : kk21 ≤ T40.heap.size := Nat.le_trans zk38 K40.1
    have zs43 : n0 ≤ T40.heap.size := Nat.le_trans zs39 K40.1
    obtain ⟨_, T44, Lc44, X44, hQ44, st44⟩ := own_callV X40 hx hZ (y := (⟨"com/example/endcon/endcon/yaml/Cursor", "index", "()I"⟩ : MethodName)) hown (hw _ (List.mem_of_getElem? (i := 57) rfl)) (hw _ (List.mem_of_getElem? (i := 58) rfl)) (hw _ (List.mem_of_getElem? (i := 60) rfl)) (hw _ (List.mem_of_getElem? (i := 59) rfl)) (hw _ (List.mem_of_getElem? (i := 8) rfl)) (hw _ (List.mem_of_getElem? (i := 61) rfl)) (by decide) (W := 0) Ec40_a1 (argsL := []) (rest := []) (rm7 l Z a0 hw [] b18 ((2 : Int32) + (1 : Int32)) T40.heap n0 zs43 Ec40_a1 lFc40_a1_pos) (by decide) (by decide) (c' := 4) (s' := 24) rfl rfl (by decide) (by decide) rfl (g := (mkF m 237 #[.val (.int p1), .val (.int p2), .val (.int p3), .val (.int p4), .val (.int p5), .val (.int p6), .val (.int ((1 : Int32) + (p1 &&& (3 : Int32)))), .val (.int (2 : Int32)), .val (.ref b1), .val (.int (0 : Int32)), .val (.ref b18), .val (.int (3 : Int32)), .val (.int (2 : Int32)), .val (.int (3 : Int32))] [(.ref b18)])) rfl (by rw [hml]; rfl) (lenOf pd_0_5 rfl) rfl (by show 2 * 0 + _ ≤ _; exact Nat.le_of_eq rfl) (hb hby at_237)
    obtain ⟨hv44, N44q, e44⟩ := hQ44
    have N44 := Fr.app N40 N44q
    rw [f7] at hv44
    subst hv44
    obtain ⟨_, T45, Lc45, X45, hQ45, st45⟩ := own_callV X44 hx hZ (y := (⟨"com/example/endcon/endcon/yaml/Cursor", "line", "()I"⟩ : MethodName)) hown (hw _ (List.mem_of_getElem? (i := 62) rfl)) (hw _ (List.mem_of_getElem? (i := 63) rfl)) (hw _ (List.mem_of_getElem? (i := 65) rfl)) (hw _ (List.mem_of_getElem? (i := 64) rfl)) (hw _ (List.mem_of_getElem? (i := 8) rfl)) (hw _ (List.mem_of_getElem? (i := 66) rfl)) (by decide) (W := 0) Ec40_a1 (argsL := []) (rest := []) (rm8 l Z a0 hw [] b18 ((1 : Int32) + (1 : Int32)) T40.heap n0 zs43 Ec40_a1 lFc40_a1_line) (by decide) (by decide) (c' := 4) (s' := 24) rfl rfl (by decide) (by decide) e44 (g := (mkF m 247 #[.val (.int p1), .val (.int p2), .val (.int p3), .val (.int p4), .val (.int p5), .val (.int p6), .val (.int ((1 : Int32) + (p1 &&& (3 : Int32)))), .val (.int (2 : Int32)), .val (.ref b1), .val (.int (0 : Int32)), .val (.ref b18), .val (.int (3 : Int32)), .val (.int (2 : Int32)), .val (.int (3 : Int32))] [(.ref b18)])) rfl (by rw [hml]; rfl) (lenOf pd_0_5 rfl) rfl (by show 2 * 0 + _ ≤ _; exact Nat.le_of_eq rfl) (hb hby at_247)
    obtain ⟨hv45, N45q, e45⟩ := hQ45
    have N45 := Fr.app N44 N45q
    rw [f8] at hv45
    subst hv45
    obtain ⟨_, T46, Lc46, X46, hQ46, st46⟩ := own_callV X45 hx hZ (y := (⟨"com/example/endcon/endcon/yaml/Cursor", "lineStart", "()I"⟩ : MethodName)) hown (hw _ (List.mem_of_getElem? (i := 67) rfl)) (hw _ (List.mem_of_getElem? (i := 68) rfl)) (hw _ (List.mem_of_getElem? (i := 70) rfl)) (hw _ (List.mem_of_getElem? (i := 69) rfl)) (hw _ (List.mem_of_getElem? (i := 8) rfl)) (hw _ (List.mem_of_getElem? (i := 71) rfl)) (by decide) (W := 0) Ec40_a1 (argsL := []) (rest := []) (rm9 l Z a0 hw [] b18 ((2 : Int32) + (1 : Int32)) T40.heap n0 zs43 Ec40_a1 lFc40_a1_lineStart) (by decide) (by decide) (c' := 4) (s' := 24) rfl rfl (by decide) (by decide) e45 (g := (mkF m 257 #[.val (.int p1), .val (.int p2), .val (.int p3), .val (.int p4), .val (.int p5), .val (.int p6), .val (.int ((1 : Int32) + (p1 &&& (3 : Int32)))), .val (.int (2 : Int32)), .val (.ref b1), .val (.int (0 : Int32)), .val (.ref b18), .val (.int (3 : Int32)), .val (.int (2 : Int32)), .val (.int (3 : Int32))] [(.ref b18)])) rfl (by rw [hml]; rfl) (lenOf pd_0_5 rfl) rfl (by show 2 * 0 + _ ≤ _; exact Nat.le_of_eq rfl) (hb hby at_257)
    obtain ⟨hv46, N46q, e46⟩ := hQ46
    have N46 := Fr.app N45 N46q
    rw [f9] at hv46
    subst hv46
    obtain ⟨fs, hr, hrun, hended, hRW⟩ := X46.leaveW (s := s) hS21 (by rw [e46]; exact zk42) (v := some (.int (1 : Int32))) (fun h => by rw [Bd.returns] at h; cases h)
    refine ⟨_, _, pre20 _ ?_, hrun, hended, _, _, rfl, ?_, ⟨_, rfl⟩, hRW.2.1, hRW.2.2.1, hRW.2.2.2.mono (by decide) (by decide)⟩
    · show Steps p.tables e below (T18.setTop (mkF m 124 #[.val (.int p1), .val (.int p2), .val (.int p3), .val (.int p4), .val (.int p5), .val (.int p6), .val (.int ((1 : Int32) + (p1 &&& (3 : Int32)))), .val (.int (2 : Int32)), .val (.ref b1), .val (.int (0 : Int32)), .unset, .unset, .unset, .unset] [(.ref b18), (.ref b18)])) _
      refine st21 _ ?_
      show Steps p.tables e below (T21.setTop (mkF m 126 #[.val (.int p1), .val (.int p2), .val (.int p3), .val (.int p4), .val (.int p5), .val (.int p6), .val (.int ((1 : Int32) + (p1 &&& (3 : Int32)))), .val (.int (2 : Int32)), .val (.ref b1), .val (.int (0 : Int32)), .unset, .unset, .unset, .unset] [(.ref sa21), (.ref b18), (.ref b18)])) _
      refine own_blk X21 hx bl0_126_2 (own_hb hby bd0_126_2) (pc' := 130) (Ls' := #[.val (.int p1), .val (.int p2), .val (.int p3), .val (.int p4), .val (.int p5), .val (.int p6), .val (.int ((1 : Int32) + (p1 &&& (3 : Int32)))), .val (.int (2 : Int32)), .val (.ref b1), .val (.int (0 : Int32)), .unset, .unset, .unset, .unset]) (st' := [(.int ((1 : Int32) + (p1 &&& (3 : Int32)))), (.ref b1), (.ref sa21), (.ref b18), (.ref b18)]) rfl ?_
      refine st23 _ ?_
      show Steps p.tables e below (T23.setTop (mkF m 133 #[.val (.int p1), .val (.int p2), .val (.int p3), .val (.int p4), .val (.int p5), .val (.int p6), .val (.int ((1 : Int32) + (p1 &&& (3 : Int32)))), .val (.int (2 : Int32)), .val (.ref b1), .val (.int (0 : Int32)), .unset, .unset, .unset, .unset] [(.ref b18)])) _
      refine own_blk X23 hx bl0_133_1 (own_hb hby bd0_133_1) (pc' := 135) (Ls' := #[.val (.int p1), .val (.int p2), .val (.int p3), .val (.int p4), .val (.int p5), .val (.int p6), .val (.int ((1 : Int32) + (p1 &&& (3 : Int32)))), .val (.int (2 : Int32)), .val (.ref b1), .val (.int (0 : Int32)), .val (.ref b18), .unset, .unset, .unset]) (st' := []) rfl ?_
      refine own_blk X23 hx bl0_135_2 (own_hb hby bd0_135_2) (pc' := 139) (Ls' := #[.val (.int p1), .val (.int p2), .val (.int p3), .val (.int p4), .val (.int p5), .val (.int p6), .val (.int ((1 : Int32) + (p1 &&& (3 : Int32)))), .val (.int (2 : Int32)), .val (.ref b1), .val (.int (0 : Int32)), .val (.ref b18), .unset, .unset, .unset]) (st' := [(.int (2 : Int32)), (.ref b18)]) rfl ?_
      refine st37 _ ?_
      show Steps p.tables e below (T37.setTop (mkF m 142 #[.val (.int p1), .val (.int p2), .val (.int p3), .val (.int p4), .val (.int p5), .val (.int p6), .val (.int ((1 : Int32) + (p1 &&& (3 : Int32)))), .val (.int (2 : Int32)), .val (.ref b1), .val (.int (0 : Int32)), .val (.ref b18), .unset, .unset, .unset] [])) _
      refine own_blk X37 hx bl0_142_1 (own_hb hby bd0_142_1) (pc' := 144) (Ls' := #[.val (.int p1), .val (.int p2), .val (.int p3), .val (.int p4), .val (.int p5), .val (.int p6), .val (.int ((1 : Int32) + (p1 &&& (3 : Int32)))), .val (.int (2 : Int32)), .val (.ref b1), .val (.int (0 : Int32)), .val (.ref b18), .unset, .unset, .unset]) (st' := [(.ref b18)]) rfl ?_
      refine st40 _ ?_
      show Steps p.tables e below (T40.setTop (mkF m 147 #[.val (.int p1), .val (.int p2), .val (.int p3), .val (.int p4), .val (.int p5), .val (.int p6), .val (.int ((1 : Int32) + (p1 &&& (3 : Int32)))), .val (.int (2 : Int32)), .val (.ref b1), .val (.int (0 : Int32)), .val (.ref b18), .unset, .unset, .unset] [])) _
      refine own_blk X40 hx bl0_147_1 (own_hb hby bd0_147_1) (pc' := 149) (Ls' := #[.val (.int p1), .val (.int p2), .val (.int p3), .val (.int p4), .val (.int p5), .val (.int p6), .val (.int ((1 : Int32) + (p1 &&& (3 : Int32)))), .val (.int (2 : Int32)), .val (.ref b1), .val (.int (0 : Int32)), .val (.ref b18), .unset, .unset, .unset]) (st' := [(.int (0 : Int32))]) rfl ?_
      refine XS.ifYes X40.here hx rfl (pc0 := 149) (pc' := 176) rfl (hb hby at_149) rfl ((if0 _ _).trans (teq (by decide : (0 : Int32) = (0 : Int32))).1) (by decide) (by decide) ?_
      show Steps p.tables e below (T40.setTop (mkF m 176 #[.val (.int p1), .val (.int p2), .val (.int p3), .val (.int p4), .val (.int p5), .val (.int p6), .val (.int ((1 : Int32) + (p1 &&& (3 : Int32)))), .val (.int (2 : Int32)), .val (.ref b1), .val (.int (0 : Int32)), .val (.ref b18), .unset, .unset, .unset] [])) _
      refine own_blk X40 hx bl0_176_1 (own_hb hby bd0_176_1) (pc' := 178) (Ls' := #[.val (.int p1), .val (.int p2), .val (.int p3), .val (.int p4), .val (.int p5), .val (.int p6), .val (.int ((1 : Int32) + (p1 &&& (3 : Int32)))), .val (.int (2 : Int32)), .val (.ref b1), .val (.int (0 : Int32)), .val (.ref b18), .unset, .unset, .unset]) (st' := [(.int (0 : Int32))]) rfl ?_
      refine XS.ifYes X40.here hx rfl (pc0 := 178) (pc' := 220) rfl (hb hby at_178) rfl ((if0 _ _).trans (teq (by decide : (0 : Int32) = (0 : Int32))).1) (by decide) (by decide) ?_
      show Steps p.tables e below (T40.setTop (mkF m 220 #[.val (.int p1), .val (.int p2), .val (.int p3), .val (.int p4), .val (.int p5), .val (.int p6), .val (.int ((1 : Int32) + (p1 &&& (3 : Int32)))), .val (.int (2 : Int32)), .val (.ref b1), .val (.int (0 : Int32)), .val (.ref b18), .unset, .unset, .unset] [])) _
      refine own_blk X40 hx bl0_220_4 (own_hb hby bd0_220_4) (pc' := 226) (Ls' := #[.val (.int p1), .val (.int p2), .val (.int p3), .val (.int p4), .val (.int p5), .val (.int p6), .val (.int ((1 : Int32) + (p1 &&& (3 : Int32)))), .val (.int (2 : Int32)), .val (.ref b1), .val (.int (0 : Int32)), .val (.ref b18), .val (.int (3 : Int32)), .unset, .unset]) (st' := []) rfl ?_
      refine own_blk X40 hx bl0_226_2 (own_hb hby bd0_226_2) (pc' := 229) (Ls' := #[.val (.int p1), .val (.int p2), .val (.int p3), .val (.int p4), .val (.int p5), .val (.int p6), .val (.int ((1 : Int32) + (p1 &&& (3 : Int32)))), .val (.int (2 : Int32)), .val (.ref b1), .val (.int (0 : Int32)), .val (.ref b18), .val (.int (3 : Int32)), .val (.int (2 : Int32)), .unset]) (st' := []) rfl ?_
      refine own_blk X40 hx bl0_229_4 (own_hb hby bd0_229_4) (pc' := 235) (Ls' := #[.val (.int p1), .val (.int p2), .val (.int p3), .val (.int p4), .val (.int p5), .val (.int p6), .val (.int ((1 : Int32) + (p1 &&& (3 : Int32)))), .val (.int (2 : Int32)), .val (.ref b1), .val (.int (0 : Int32)), .val (.ref b18), .val (.int (3 : Int32)), .val (.int (2 : Int32)), .val (.int (3 : Int32))]) (st' := []) rfl ?_
      refine own_blk X40 hx bl0_235_1 (own_hb hby bd0_235_1) (pc' := 237) (Ls' := #[.val (.int p1), .val (.int p2), .val (.int p3), .val (.int p4), .val (.int p5), .val (.int p6), .val (.int ((1 : Int32) + (p1 &&& (3 : Int32)))), .val (.int (2 : Int32)), .val (.ref b1), .val (.int (0 : Int32)), .val (.ref b18), .val (.int (3 : Int32)), .val (.int (2 : Int32)), .val (.int (3 : Int32))]) (st' := [(.ref b18)]) rfl ?_
      refine st44 _ ?_
      show Steps p.tables e below (T44.setTop (mkF m 240 #[.val (.int p1), .val (.int p2), .val (.int p3), .val (.int p4), .val (.int p5), .val (.int p6), .val (.int ((1 : Int32) + (p1 &&& (3 : Int32)))), .val (.int (2 : Int32)), .val (.ref b1), .val (.int (0 : Int32)), .val (.ref b18), .val (.int (3 : Int32)), .val (.int (2 : Int32)), .val (.int (3 : Int32))] [(.int ((2 : Int32) + (1 : Int32)))])) _
      refine own_blk X44 hx bl0_240_1 (own_hb hby bd0_240_1) (pc' := 242) (Ls' := #[.val (.int p1), .val (.int p2), .val (.int p3), .val (.int p4), .val (.int p5), .val (.int p6), .val (.int ((1 : Int32) + (p1 &&& (3 : Int32)))), .val (.int (2 : Int32)), .val (.ref b1), .val (.int (0 : Int32)), .val (.ref b18), .val (.int (3 : Int32)), .val (.int (2 : Int32)), .val (.int (3 : Int32))]) (st' := [(.int (3 : Int32)), (.int ((2 : Int32) + (1 : Int32)))]) rfl ?_
      refine XS.icmpNo X44.here hx rfl (hb hby at_242) rfl (teq (show ((2 : Int32) + (1 : Int32)) = (3 : Int32) from (by decide : (3 : Int32) = (3 : Int32)))).2 ?_
      show Steps p.tables e below (T44.setTop (mkF m 245 #[.val (.int p1), .val (.int p2), .val (.int p3), .val (.int p4), .val (.int p5), .val (.int p6), .val (.int ((1 : Int32) + (p1 &&& (3 : Int32)))), .val (.int (2 : Int32)), .val (.ref b1), .val (.int (0 : Int32)), .val (.ref b18), .val (.int (3 : Int32)), .val (.int (2 : Int32)), .val (.int (3 : Int32))] [])) _
      refine own_blk X44 hx bl0_245_1 (own_hb hby bd0_245_1) (pc' := 247) (Ls' := #[.val (.int p1), .val (.int p2), .val (.int p3), .val (.int p4), .val (.int p5), .val (.int p6), .val (.int ((1 : Int32) + (p1 &&& (3 : Int32)))), .val (.int (2 : Int32)), .val (.ref b1), .val (.int (0 : Int32)), .val (.ref b18), .val (.int (3 : Int32)), .val (.int (2 : Int32)), .val (.int (3 : Int32))]) (st' := [(.ref b18)]) rfl ?_
      refine st45 _ ?_
      show Steps p.tables e below (T45.setTop (mkF m 250 #[.val (.int p1), .val (.int p2), .val (.int p3), .val (.int p4), .val (.int p5), .val (.int p6), .val (.int ((1 : Int32) + (p1 &&& (3 : Int32)))), .val (.int (2 : Int32)), .val (.ref b1), .val (.int (0 : Int32)), .val (.ref b18), .val (.int (3 : Int32)), .val (.int (2 : Int32)), .val (.int (3 : Int32))] [(.int ((1 : Int32) + (1 : Int32)))])) _
      refine own_blk X45 hx bl0_250_1 (own_hb hby bd0_250_1) (pc' := 252) (Ls' := #[.val (.int p1), .val (.int p2), .val (.int p3), .val (.int p4), .val (.int p5), .val (.int p6), .val (.int ((1 : Int32) + (p1 &&& (3 : Int32)))), .val (.int (2 : Int32)), .val (.ref b1), .val (.int (0 : Int32)), .val (.ref b18), .val (.int (3 : Int32)), .val (.int (2 : Int32)), .val (.int (3 : Int32))]) (st' := [(.int (2 : Int32)), (.int ((1 : Int32) + (1 : Int32)))]) rfl ?_
      refine XS.icmpNo X45.here hx rfl (hb hby at_252) rfl (teq (show ((1 : Int32) + (1 : Int32)) = (2 : Int32) from (by decide : (2 : Int32) = (2 : Int32)))).2 ?_
      show Steps p.tables e below (T45.setTop (mkF m 255 #[.val (.int p1), .val (.int p2), .val (.int p3), .val (.int p4), .val (.int p5), .val (.int p6), .val (.int ((1 : Int32) + (p1 &&& (3 : Int32)))), .val (.int (2 : Int32)), .val (.ref b1), .val (.int (0 : Int32)), .val (.ref b18), .val (.int (3 : Int32)), .val (.int (2 : Int32)), .val (.int (3 : Int32))] [])) _
      refine own_blk X45 hx bl0_255_1 (own_hb hby bd0_255_1) (pc' := 257) (Ls' := #[.val (.int p1), .val (.int p2), .val (.int p3), .val (.int p4), .val (.int p5), .val (.int p6), .val (.int ((1 : Int32) + (p1 &&& (3 : Int32)))), .val (.int (2 : Int32)), .val (.ref b1), .val (.int (0 : Int32)), .val (.ref b18), .val (.int (3 : Int32)), .val (.int (2 : Int32)), .val (.int (3 : Int32))]) (st' := [(.ref b18)]) rfl ?_
      refine st46 _ ?_
      show Steps p.tables e below (T46.setTop (mkF m 260 #[.val (.int p1), .val (.int p2), .val (.int p3), .val (.int p4), .val (.int p5), .val (.int p6), .val (.int ((1 : Int32) + (p1 &&& (3 : Int32)))), .val (.int (2 : Int32)), .val (.ref b1), .val (.int (0 : Int32)), .val (.ref b18), .val (.int (3 : Int32)), .val (.int (2 : Int32)), .val (.int (3 : Int32))] [(.int ((2 : Int32) + (1 : Int32)))])) _
      refine own_blk X46 hx bl0_260_1 (own_hb hby bd0_260_1) (pc' := 262) (Ls' := #[.val (.int p1), .val (.int p2), .val (.int p3), .val (.int p4), .val (.int p5), .val (.int p6), .val (.int ((1 : Int32) + (p1 &&& (3 : Int32)))), .val (.int (2 : Int32)), .val (.ref b1), .val (.int (0 : Int32)), .val (.ref b18), .val (.int (3 : Int32)), .val (.int (2 : Int32)), .val (.int (3 : Int32))]) (st' := [(.int (3 : Int32)), (.int ((2 : Int32) + (1 : Int32)))]) rfl ?_
      refine XS.icmpNo X46.here hx rfl (hb hby at_262) rfl (teq (show ((2 : Int32) + (1 : Int32)) = (3 : Int32) from (by decide : (3 : Int32) = (3 : Int32)))).2 ?_
      show Steps p.tables e below (T46.setTop (mkF m 265 #[.val (.int p1), .val (.int p2), .val (.int p3), .val (.int p4), .val (.int p5), .val (.int p6), .val (.int ((1 : Int32) + (p1 &&& (3 : Int32)))), .val (.int (2 : Int32)), .val (.ref b1), .val (.int (0 : Int32)), .val (.ref b18), .val (.int (3 : Int32)), .val (.int (2 : Int32)), .val (.int (3 : Int32))] [])) _
      refine own_blk X46 hx bl0_265_2 (own_hb hby bd0_265_2) (pc' := 270) (Ls' := #[.val (.int p1), .val (.int p2), .val (.int p3), .val (.int p4), .val (.int p5), .val (.int p6), .val (.int ((1 : Int32) + (p1 &&& (3 : Int32)))), .val (.int (2 : Int32)), .val (.ref b1), .val (.int (0 : Int32)), .val (.ref b18), .val (.int (3 : Int32)), .val (.int (2 : Int32)), .val (.int (3 : Int32))]) (st' := [(.int (1 : Int32))]) rfl ?_
      exact retN X46 hx (t := .boolean) Bd.returns (by simp) (hb hby at_270) hr
    · show Q0_2 Z p1 p2 p3 p4 p5 p6 h0 n0 _ T46.heap _
      rw [e46]
      exact ⟨by rw [f0_2, if_pos hc12], N46⟩
  · obtain ⟨cx47, Ar47, qq47, S47, N47_, H47, G47⟩ := id V9
    have hin47 : ¬ ((2 : Int32) < 0 ∨ cx47.slots.size ≤ ((2 : Int32)).toNatClampNeg) := inb_of S47 ⟨by decide, by decide⟩
    obtain ⟨T47, h47, X47, e47, W47, st47⟩ := stC X9 hx hZ e9 Ar47 (j := (2 : Int32)) hin47 (g := (mkF m 100 #[.val (.int p1), .val (.int p2), .val (.int p3), .val (.int p4), .val (.int p5), .val (.int p6), .val (.int ((1 : Int32) + (p1 &&& (3 : Int32)))), .val (.int (2 : Int32)), .val (.ref b1), .val (.int (1 : Int32)), .unset, .unset, .unset, .unset] [(.int (13 : Int32)), (.int (2 : Int32)), (.ref b1)])) rfl rfl (hb hby at_100)
    have V47 : Arv Z h47 b1 k1 .char (4 : Int32) [(.int (nar .char ((p5 &&& (255 : Int32)).toUInt32.toUInt16.toUInt32.toInt32))), (.int (nar .char ((((p5.toUInt32 >>> ((8 : Int32) &&& 31).toUInt32).toInt32) &&& (255 : Int32)).toUInt32.toUInt16.toUInt32.toInt32))), (.int (nar .char (13 : Int32))), (.int (nar .char ((((p6.toUInt32 >>> ((8 : Int32) &&& 31).toUInt32).toInt32) &&& (255 : Int32)).toUInt32.toUInt16.toUInt32.toInt32)))] (.int (0 : Int32)) := Arv.set Ar47 qq47 S47 N47_ H47 G47 (fits_nar_char _) W47 2 rfl (Nat.le_of_ble_eq_true rfl)
    have zs48 : n0 ≤ h47.size := Nat.le_trans zs10 (Keep.of_wr W47).1
    have N47 := Fr.snoc X47 N9 g_b1
    obtain ⟨_, T49, Lc49, X49, hQ49, st49⟩ := own_callS X47 hx hZ (y := (⟨"com/example/endcon/endcon/yaml/CursorNewLinePinLaw", "pick", "(I)C"⟩ : MethodName)) hown (hw _ (List.mem_of_getElem? (i := 2) rfl)) (hw _ (List.mem_of_getElem? (i := 3) rfl)) (hw _ (List.mem_of_getElem? (i := 4) rfl)) (hw _ (List.mem_of_getElem? (i := 5) rfl)) (by decide) (W := 2) (argsL := [(.int p4)]) (rest := [(.int (3 : Int32)), (.ref b1)]) (rm1 l Z a0 hw [] p4 h47 n0 zs48 ) (by decide) (by decide) (c' := 1) (s' := 4) rfl rfl (by decide) (by decide) e47 (g := (mkF m 116 #[.val (.int p1), .val (.int p2), .val (.int p3), .val (.int p4), .val (.int p5), .val (.int p6), .val (.int ((1 : Int32) + (p1 &&& (3 : Int32)))), .val (.int (2 : Int32)), .val (.ref b1), .val (.int (1 : Int32)), .unset, .unset, .unset, .unset] [(.int p4), (.int (3 : Int32)), (.ref b1)])) rfl (by rw [hml]; rfl) (lenOf pd_0_0 rfl) rfl (by show 2 * 0 + _ ≤ _; exact Nat.le_of_eq rfl) (hb hby at_116)
    obtain ⟨rfl, N49q, e49⟩ := hQ49
    have N49 := Fr.app N47 N49q
    obtain ⟨cx50, Ar50, qq50, S50, N50_, H50, G50⟩ := id V47
    have hin50 : ¬ ((3 : Int32) < 0 ∨ cx50.slots.size ≤ ((3 : Int32)).toNatClampNeg) := inb_of S50 ⟨by decide, by decide⟩
    obtain ⟨T50, h50, X50, e50, W50, st50⟩ := stC X49 hx hZ e49 Ar50 (j := (3 : Int32)) hin50 (g := (mkF m 119 #[.val (.int p1), .val (.int p2), .val (.int p3), .val (.int p4), .val (.int p5), .val (.int p6), .val (.int ((1 : Int32) + (p1 &&& (3 : Int32)))), .val (.int (2 : Int32)), .val (.ref b1), .val (.int (1 : Int32)), .unset, .unset, .unset, .unset] [(.int (f1 p4)), (.int (3 : Int32)), (.ref b1)])) rfl rfl (hb hby at_119)
    have V50 : Arv Z h50 b1 k1 .char (4 : Int32) [(.int (nar .char ((p5 &&& (255 : Int32)).toUInt32.toUInt16.toUInt32.toInt32))), (.int (nar .char ((((p5.toUInt32 >>> ((8 : Int32) &&& 31).toUInt32).toInt32) &&& (255 : Int32)).toUInt32.toUInt16.toUInt32.toInt32))), (.int (nar .char (13 : Int32))), (.int (nar .char (f1 p4)))] (.int (0 : Int32)) := Arv.set Ar50 qq50 S50 N50_ H50 G50 (fits_nar_char _) W50 3 rfl (Nat.le_of_ble_eq_true rfl)
    have zs51 : n0 ≤ h50.size := Nat.le_trans zs48 (Keep.of_wr W50).1
    have N50 := Fr.snoc X50 N49 g_b1
    obtain ⟨T52, h52, X52, e52, E52, A52, D52, -, st52⟩ := newO X50 hx hZ hown (hw _ (List.mem_of_getElem? (i := 6) rfl)) (hw _ (List.mem_of_getElem? (i := 7) rfl)) (hw _ (List.mem_of_getElem? (i := 8) rfl)) e50 (g := (mkF m 120 #[.val (.int p1), .val (.int p2), .val (.int p3), .val (.int p4), .val (.int p5), .val (.int p6), .val (.int ((1 : Int32) + (p1 &&& (3 : Int32)))), .val (.int (2 : Int32)), .val (.ref b1), .val (.int (1 : Int32)), .unset, .unset, .unset, .unset] [])) rfl (hb hby at_120) (by decide) (by decide)
    obtain ⟨b52, g52⟩ : ∃ z, z = h50.size := ⟨_, rfl⟩
    rw [← g52] at A52 D52 st52
    have ne_b1_b52 : b1 ≠ b52 := Nat.ne_of_lt (Nat.lt_of_lt_of_le V50.lt (Nat.le_of_eq g52.symm))
    have g_b52 : n0 ≤ b52 := Nat.le_trans zs51 (Nat.le_of_eq g52.symm)
    have zs53 : n0 ≤ h52.size := Nat.le_trans zs51 E52.1
    have F_line_b52 : Fld Z h52 b52 "com/example/endcon/endcon/yaml/Cursor" "line" "I" (.int (0 : Int32)) := D52 (Or.inl (hw _ (List.mem_of_getElem? (i := 24) rfl))) (ty := .int) (by decide)
    have F_blankLinesFrom_b52 : Fld Z h52 b52 "com/example/endcon/endcon/yaml/Cursor" "blankLinesFrom" "I" (.int (0 : Int32)) := D52 (Or.inl (hw _ (List.mem_of_getElem? (i := 26) rfl))) (ty := .int) (by decide)
    have F_countedIndex_b52 : Fld Z h52 b52 "com/example/endcon/endcon/yaml/Cursor" "countedIndex" "I" (.int (0 : Int32)) := D52 (Or.inl (hw _ (List.mem_of_getElem? (i := 28) rfl))) (ty := .int) (by decide)
    have F_file_b52 : Fld Z h52 b52 "com/example/endcon/endcon/yaml/Cursor" "file" "Ljava/lang/String;" .null := D52 (Or.inr (hw _ (List.mem_of_getElem? (i := 30) rfl))) (ty := (.object "java/lang/String")) (by decide)
    have F_text_b52 : Fld Z h52 b52 "com/example/endcon/endcon/yaml/Cursor" "text" "[C" .null := D52 (Or.inl (hw _ (List.mem_of_getElem? (i := 32) rfl))) (ty := (.array .char)) (by decide)
    have F_end_b52 : Fld Z h52 b52 "com/example/endcon/endcon/yaml/Cursor" "end" "I" (.int (0 : Int32)) := D52 (Or.inr (hw _ (List.mem_of_getElem? (i := 34) rfl))) (ty := .int) (by decide)
    have F_hasSurrogates_b52 : Fld Z h52 b52 "com/example/endcon/endcon/yaml/Cursor" "hasSurrogates" "Z" (.int (0 : Int32)) := D52 (Or.inr (hw _ (List.mem_of_getElem? (i := 41) rfl))) (ty := .boolean) (by decide)
    have F_pos_b52 : Fld Z h52 b52 "com/example/endcon/endcon/yaml/Cursor" "pos" "I" (.int (0 : Int32)) := D52 (Or.inl (hw _ (List.mem_of_getElem? (i := 49) rfl))) (ty := .int) (by decide)
    have F_lineStart_b52 : Fld Z h52 b52 "com/example/endcon/endcon/yaml/Cursor" "lineStart" "I" (.int (0 : Int32)) := D52 (Or.inl (hw _ (List.mem_of_getElem? (i := 56) rfl))) (ty := .int) (by decide)
    have pre54 : ∀ t, Steps p.tables e below (T52.setTop (mkF m 124 #[.val (.int p1), .val (.int p2), .val (.int p3), .val (.int p4), .val (.int p5), .val (.int p6), .val (.int ((1 : Int32) + (p1 &&& (3 : Int32)))), .val (.int (2 : Int32)), .val (.ref b1), .val (.int (1 : Int32)), .unset, .unset, .unset, .unset] [(.ref b52), (.ref b52)])) t → Steps p.tables e below (s₁.setTop (entryFrame m #[(.int p1), (.int p2), (.int p3), (.int p4), (.int p5), (.int p6)] maxLocals)) t := fun t kt => by
      refine pre11 _ ?_
      show Steps p.tables e below (T9.setTop (mkF m 74 #[.val (.int p1), .val (.int p2), .val (.int p3), .val (.int p4), .val (.int p5), .val (.int p6), .val (.int ((1 : Int32) + (p1 &&& (3 : Int32)))), .val (.int (2 : Int32)), .val (.ref b1), .unset, .unset, .unset, .unset, .unset] [(.int (p3 &&& (1 : Int32)))])) _
      refine XS.ifNo X9.here hx rfl (hb hby at_74) rfl ((if0 _ _).trans (feq hc12).1) ?_
      show Steps p.tables e below (T9.setTop (mkF m 77 #[.val (.int p1), .val (.int p2), .val (.int p3), .val (.int p4), .val (.int p5), .val (.int p6), .val (.int ((1 : Int32) + (p1 &&& (3 : Int32)))), .val (.int (2 : Int32)), .val (.ref b1), .unset, .unset, .unset, .unset, .unset] [])) _
      refine own_blk X9 hx bl0_77_3 (own_hb hby bd0_77_3) (pc' := 84) (Ls' := #[.val (.int p1), .val (.int p2), .val (.int p3), .val (.int p4), .val (.int p5), .val (.int p6), .val (.int ((1 : Int32) + (p1 &&& (3 : Int32)))), .val (.int (2 : Int32)), .val (.ref b1), .val (.int (1 : Int32)), .unset, .unset, .unset, .unset]) (st' := []) rfl ?_
      refine own_blk X9 hx bl0_84_3 (own_hb hby bd0_84_3) (pc' := 90) (Ls' := #[.val (.int p1), .val (.int p2), .val (.int p3), .val (.int p4), .val (.int p5), .val (.int p6), .val (.int ((1 : Int32) + (p1 &&& (3 : Int32)))), .val (.int (2 : Int32)), .val (.ref b1), .val (.int (1 : Int32)), .unset, .unset, .unset, .unset]) (st' := [(.int (1 : Int32)), (.int (2 : Int32)), (.ref b1)]) rfl ?_
      refine XS.ifNo X9.here hx rfl (hb hby at_90) rfl ((if0 _ _).trans (feq (by decide : ¬ ((1 : Int32) = (0 : Int32)))).1) ?_
      show Steps p.tables e below (T9.setTop (mkF m 93 #[.val (.int p1), .val (.int p2), .val (.int p3), .val (.int p4), .val (.int p5), .val (.int p6), .val (.int ((1 : Int32) + (p1 &&& (3 : Int32)))), .val (.int (2 : Int32)), .val (.ref b1), .val (.int (1 : Int32)), .unset, .unset, .unset, .unset] [(.int (2 : Int32)), (.ref b1)])) _
      refine own_blk X9 hx bl0_93_2 (own_hb hby bd0_93_2) (pc' := 100) (Ls' := #[.val (.int p1), .val (.int p2), .val (.int p3), .val (.int p4), .val (.int p5), .val (.int p6), .val (.int ((1 : Int32) + (p1 &&& (3 : Int32)))), .val (.int (2 : Int32)), .val (.ref b1), .val (.int (1 : Int32)), .unset, .unset, .unset, .unset]) (st' := [(.int (13 : Int32)), (.int (2 : Int32)), (.ref b1)]) rfl ?_
      refine st47 _ ?_
      show Steps p.tables e below (T47.setTop (mkF m 101 #[.val (.int p1), .val (.int p2), .val (.int p3), .val (.int p4), .val (.int p5), .val (.int p6), .val (.int ((1 : Int32) + (p1 &&& (3 : Int32)))), .val (.int (2 : Int32)), .val (.ref b1), .val (.int (1 : Int32)), .unset, .unset, .unset, .unset] [])) _
      refine own_blk X47 hx bl0_101_4 (own_hb hby bd0_101_4) (pc' := 106) (Ls' := #[.val (.int p1), .val (.int p2), .val (.int p3), .val (.int p4), .val (.int p5), .val (.int p6), .val (.int ((1 : Int32) + (p1 &&& (3 : Int32)))), .val (.int (2 : Int32)), .val (.ref b1), .val (.int (1 : Int32)), .unset, .unset, .unset, .unset]) (st' := [(.int (4 : Int32)), (.int (3 : Int32))]) rfl ?_
      refine XS.icmpNo X47.here hx rfl (hb hby at_106) rfl (tlt (by decide : (3 : Int32) < (4 : Int32))).2.1 ?_
      show Steps p.tables e below (T47.setTop (mkF m 109 #[.val (.int p1), .val (.int p2), .val (.int p3), .val (.int p4), .val (.int p5), .val (.int p6), .val (.int ((1 : Int32) + (p1 &&& (3 : Int32)))), .val (.int (2 : Int32)), .val (.ref b1), .val (.int (1 : Int32)), .unset, .unset, .unset, .unset] [])) _
      refine own_blk X47 hx bl0_109_5 (own_hb hby bd0_109_5) (pc' := 116) (Ls' := #[.val (.int p1), .val (.int p2), .val (.int p3), .val (.int p4), .val (.int p5), .val (.int p6), .val (.int ((1 : Int32) + (p1 &&& (3 : Int32)))), .val (.int (2 : Int32)), .val (.ref b1), .val (.int (1 : Int32)), .unset, .unset, .unset, .unset]) (st' := [(.int p4), (.int (3 : Int32)), (.ref b1)]) rfl ?_
      refine st49 _ ?_
      show Steps p.tables e below (T49.setTop (mkF m 119 #[.val (.int p1), .val (.int p2), .val (.int p3), .val (.int p4), .val (.int p5), .val (.int p6), .val (.int ((1 : Int32) + (p1 &&& (3 : Int32)))), .val (.int (2 : Int32)), .val (.ref b1), .val (.int (1 : Int32)), .unset, .unset, .unset, .unset] [(.int (f1 p4)), (.int (3 : Int32)), (.ref b1)])) _
      refine st50 _ ?_
      show Steps p.tables e below (T50.setTop (mkF m 120 #[.val (.int p1), .val (.int p2), .val (.int p3), .val (.int p4), .val (.int p5), .val (.int p6), .val (.int ((1 : Int32) + (p1 &&& (3 : Int32)))), .val (.int (2 : Int32)), .val (.ref b1), .val (.int (1 : Int32)), .unset, .unset, .unset, .unset] [])) _
      refine st52 _ ?_
      show Steps p.tables e below (T52.setTop (mkF m 123 #[.val (.int p1), .val (.int p2), .val (.int p3), .val (.int p4), .val (.int p5), .val (.int p6), .val (.int ((1 : Int32) + (p1 &&& (3 : Int32)))), .val (.int (2 : Int32)), .val (.ref b1), .val (.int (1 : Int32)), .unset, .unset, .unset, .unset] [(.ref b52)])) _
      refine own_blk X52 hx bl0_123_1 (own_hb hby bd0_123_1) (pc' := 124) (Ls' := #[.val (.int p1), .val (.int p2), .val (.int p3), .val (.int p4), .val (.int p5), .val (.int p6), .val (.int ((1 : Int32) + (p1 &&& (3 : Int32)))), .val (.int (2 : Int32)), .val (.ref b1), .val (.int (1 : Int32)), .unset, .unset, .unset, .unset]) (st' := [(.ref b52), (.ref b52)]) rfl ?_
      exact kt
    have hS55a : s.Since s.vm h52.size := (State.WarmedH.refl s).since _
    obtain ⟨sa55, T55, h55, kk55, X55, e55, E55, hS55, hkk55, hZ, hown, st55⟩ := ldcS (s := s) (vm0 := s.vm) X52 hx hZ hown (hw _ (List.mem_of_getElem? (i := 9) rfl)) (own_ws hw) e52 hS55a (Nat.le_refl _) (g := (mkF m 124 #[.val (.int p1), .val (.int p2), .val (.int p3), .val (.int p4), .val (.int p5), .val (.int p6), .val (.int ((1 : Int32) + (p1 &&& (3 : Int32)))), .val (.int (2 : Int32)), .val (.ref b1), .val (.int (1 : Int32)), .unset, .unset, .unset, .unset] [(.ref b52), (.ref b52)])) rfl (hb hby at_124) (n := 4) (by decide) (by decide) (by decide) (by decide)
    have zs56 : n0 ≤ h55.size := Nat.le_trans zs53 E55.1
    have fa58 : Exa Z h55 b52 "com/example/endcon/endcon/yaml/Cursor" := (A52.ext E55)
    have fa59 : Fld Z h55 b52 "com/example/endcon/endcon/yaml/Cursor" "line" "I" (.int (0 : Int32)) := (F_line_b52.ext E55)
    have fa60 : Fld Z h55 b52 "com/example/endcon/endcon/yaml/Cursor" "blankLinesFrom" "I" (.int (0 : Int32)) := (F_blankLinesFrom_b52.ext E55)
    have fa61 : Fld Z h55 b52 "com/example/endcon/endcon/yaml/Cursor" "countedIndex" "I" (.int (0 : Int32)) := (F_countedIndex_b52.ext E55)
    have fa62 : Fld Z h55 b52 "com/example/endcon/endcon/yaml/Cursor" "file" "Ljava/lang/String;" .null := (F_file_b52.ext E55)
    have fa63 : Fld Z h55 b52 "com/example/endcon/endcon/yaml/Cursor" "text" "[C" .null := (F_text_b52.ext E55)
    have fa64 : Fld Z h55 b52 "com/example/endcon/endcon/yaml/Cursor" "end" "I" (.int (0 : Int32)) := (F_end_b52.ext E55)
    have fa65 : Fld Z h55 b52 "com/example/endcon/endcon/yaml/Cursor" "hasSurrogates" "Z" (.int (0 : Int32)) := (F_hasSurrogates_b52.ext E55)
    have fa66 : Fld Z h55 b52 "com/example/endcon/endcon/yaml/Cursor" "pos" "I" (.int (0 : Int32)) := (F_pos_b52.ext E55)
    have fa67 : Fld Z h55 b52 "com/example/endcon/endcon/yaml/Cursor" "lineStart" "I" (.int (0 : Int32)) := (F_lineStart_b52.ext E55)
    have fa68 : Arv Z h55 b1 k1 .char (4 : Int32) [(.int (nar .char ((p5 &&& (255 : Int32)).toUInt32.toUInt16.toUInt32.toInt32))), (.int (nar .char ((((p5.toUInt32 >>> ((8 : Int32) &&& 31).toUInt32).toInt32) &&& (255 : Int32)).toUInt32.toUInt16.toUInt32.toInt32))), (.int (nar .char (13 : Int32))), (.int (nar .char (f1 p4)))] (.int (0 : Int32)) := ((V50.ext E52).ext E55)
    obtain ⟨_, T57, Lc57, X57, hQ57, st57⟩ := own_callI X55 hx hZ (y := (⟨"com/example/endcon/endcon/yaml/Cursor", "<init>", "(Ljava/lang/String;[CI)V"⟩ : MethodName)) rfl hown (hw _ (List.mem_of_getElem? (i := 17) rfl)) (hw _ (List.mem_of_getElem? (i := 18) rfl)) (hw _ (List.mem_of_getElem? (i := 8) rfl)) (hw _ (List.mem_of_getElem? (i := 19) rfl)) (by decide) (W := 1) (a := b52) (argsL := [(.ref sa55), (.ref b1), (.int ((1 : Int32) + (p1 &&& (3 : Int32))))]) (rest := [(.ref b52)]) (rm2 l Z a0 hw [] b52 sa55 b1 ((1 : Int32) + (p1 &&& (3 : Int32))) (nar .char ((p5 &&& (255 : Int32)).toUInt32.toUInt16.toUInt32.toInt32)) (nar .char ((((p5.toUInt32 >>> ((8 : Int32) &&& 31).toUInt32).toInt32) &&& (255 : Int32)).toUInt32.toUInt16.toUInt32.toInt32)) (nar .char (13 : Int32)) (nar .char (f1 p4)) k1 h55 n0 zs56 fa58 fa59 fa60 fa61 fa62 fa63 fa64 fa65 fa66 fa67 g_b52 fa68 (Ne.symm ne_b1_b52) (own_n4 p1) (own_lt1 p5) (own_lt2 p5) (by decide) (own_ltp p4)) (by decide) (by decide) (c' := 4) (s' := 24) rfl rfl (by decide) (by decide) e55 (g := (mkF m 130 #[.val (.int p1), .val (.int p2), .val (.int p3), .val (.int p4), .val (.int p5), .val (.int p6), .val (.int ((1 : Int32) + (p1 &&& (3 : Int32)))), .val (.int (2 : Int32)), .val (.ref b1), .val (.int (1 : Int32)), .unset, .unset, .unset, .unset] [(.int ((1 : Int32) + (p1 &&& (3 : Int32)))), (.ref b1), (.ref sa55), (.ref b52), (.ref b52)])) rfl (by rw [hml]; rfl) (lenOf pd_0_1 rfl) rfl (by show 2 * 0 + _ ≤ _; exact Nat.le_of_eq rfl) (hb hby at_130)
    obtain ⟨rfl, N57q, K57, Ec57_a1, Fc57_a1_line, Fc57_a1_blankLinesFrom, Fc57_a1_countedIndex, Fc57_a1_file, Fc57_a1_text, Fc57_a1_end, Fc57_a1_hasSurrogates, Fc57_a1_pos, Fc57_a1_lineStart⟩ := hQ57
    have N57 := Fr.app N50 N57q
    have zk69 : kk55 ≤ T57.heap.size := Nat.le_trans hkk55 K57.1
    have zs70 : n0 ≤ T57.heap.size := Nat.le_trans zs56 K57.1
    obtain ⟨_, T71, Lc71, X71, hQ71, st71⟩ := own_callV X57 hx hZ (y := (⟨"com/example/endcon/endcon/yaml/Cursor", "moveTo", "(I)V"⟩ : MethodName)) hown (hw _ (List.mem_of_getElem? (i := 43) rfl)) (hw _ (List.mem_of_getElem? (i := 44) rfl)) (hw _ (List.mem_of_getElem? (i := 46) rfl)) (hw _ (List.mem_of_getElem? (i := 45) rfl)) (hw _ (List.mem_of_getElem? (i := 8) rfl)) (hw _ (List.mem_of_getElem? (i := 47) rfl)) (by decide) (W := 0) Ec57_a1 (argsL := [(.int (2 : Int32))]) (rest := []) (rm5 l Z a0 hw [] b52 (2 : Int32) b1 ((1 : Int32) + (p1 &&& (3 : Int32))) (0 : Int32) (1 : Int32) (0 : Int32) T57.heap n0 zs70 Ec57_a1 Fc57_a1_text Fc57_a1_end Fc57_a1_pos Fc57_a1_line Fc57_a1_lineStart g_b52) (by decide) (by decide) (c' := 4) (s' := 24) rfl rfl (by decide) (by decide) rfl (g := (mkF m 139 #[.val (.int p1), .val (.int p2), .val (.int p3), .val (.int p4), .val (.int p5), .val (.int p6), .val (.int ((1 : Int32) + (p1 &&& (3 : Int32)))), .val (.int (2 : Int32)), .val (.ref b1), .val (.int (1 : Int32)), .val (.ref b52), .unset, .unset, .unset] [(.int (2 : Int32)), (.ref b52)])) rfl (by rw [hml]; rfl) (lenOf pd_0_4 rfl) rfl (by show 2 * 0 + _ ≤ _; exact Nat.le_of_eq rfl) (hb hby at_139)
    obtain ⟨rfl, N71q, K71, Ec71_a1, Fc71_a1_text, Fc71_a1_end, Fc71_a1_pos, Fc71_a1_line, Fc71_a1_lineStart⟩ := hQ71
    have N71 := Fr.app N57 N71q
    have zk72 : kk55 ≤ T71.heap.size := Nat.le_trans zk69 K71.1
    have zs73 : n0 ≤ T71.heap.size := Nat.le_trans zs70 K71.1
    have fa75 : Arv Z T71.heap b1 k1 .char (4 : Int32) [(.int (nar .char ((p5 &&& (255 : Int32)).toUInt32.toUInt16.toUInt32.toInt32))), (.int (nar .char ((((p5.toUInt32 >>> ((8 : Int32) &&& 31).toUInt32).toInt32) &&& (255 : Int32)).toUInt32.toUInt16.toUInt32.toInt32))), (.int (nar .char (13 : Int32))), (.int (nar .char (f1 p4)))] (.int (0 : Int32)) := ((fa68.keep K57 (ninS ne_b1_b52 nin0)).keep K71 (ninS ne_b1_b52 nin0))
    obtain ⟨_, T74, Lc74, X74, hQ74, st74⟩ := own_callV X71 hx hZ (y := (⟨"com/example/endcon/endcon/yaml/Cursor", "newLine", "()V"⟩ : MethodName)) hown (hw _ (List.mem_of_getElem? (i := 50) rfl)) (hw _ (List.mem_of_getElem? (i := 51) rfl)) (hw _ (List.mem_of_getElem? (i := 53) rfl)) (hw _ (List.mem_of_getElem? (i := 52) rfl)) (hw _ (List.mem_of_getElem? (i := 8) rfl)) (hw _ (List.mem_of_getElem? (i := 54) rfl)) (by decide) (W := 0) Ec71_a1 (argsL := []) (rest := []) (rm6 l Z a0 hw [] b52 b1 (nar .char ((p5 &&& (255 : Int32)).toUInt32.toUInt16.toUInt32.toInt32)) (nar .char ((((p5.toUInt32 >>> ((8 : Int32) &&& 31).toUInt32).toInt32) &&& (255 : Int32)).toUInt32.toUInt16.toUInt32.toInt32)) (nar .char (13 : Int32)) (nar .char (f1 p4)) ((1 : Int32) + (p1 &&& (3 : Int32))) (2 : Int32) (1 : Int32) (0 : Int32) k1 T71.heap n0 zs73 Ec71_a1 Fc71_a1_text Fc71_a1_end Fc71_a1_pos Fc71_a1_line Fc71_a1_lineStart g_b52 fa75 ne_b1_b52 (by decide) (by decide) (fun _ => ⟨by decide, by decide⟩)) (by decide) (by decide) (c' := 4) (s' := 24) rfl rfl (by decide) (by decide) rfl (g := (mkF m 144 #[.val (.int p1), .val (.int p2), .val (.int p3), .val (.int p4), .val (.int p5), .val (.int p6), .val (.int ((1 : Int32) + (p1 &&& (3 : Int32)))), .val (.int (2 : Int32)), .val (.ref b1), .val (.int (1 : Int32)), .val (.ref b52), .unset, .unset, .unset] [(.ref b52)])) rfl (by rw [hml]; rfl) (lenOf pd_0_2 rfl) rfl (by show 2 * 0 + _ ≤ _; exact Nat.le_of_eq rfl) (hb hby at_144)
    obtain ⟨hv74, N74q, K74, Ec74_a1, Fc74_a1_text, Fc74_a1_end, Fc74_a1_pos, Fc74_a1_line, Fc74_a1_lineStart⟩ := hQ74
    have N74 := Fr.app N71 N74q
    have pre76 : ∀ t, Steps p.tables e below (T71.setTop (mkF m 144 #[.val (.int p1), .val (.int p2), .val (.int p3), .val (.int p4), .val (.int p5), .val (.int p6), .val (.int ((1 : Int32) + (p1 &&& (3 : Int32)))), .val (.int (2 : Int32)), .val (.ref b1), .val (.int (1 : Int32)), .val (.ref b52), .unset, .unset, .unset] [(.ref b52)])) t → Steps p.tables e below (s₁.setTop (entryFrame m #[(.int p1), (.int p2), (.int p3), (.int p4), (.int p5), (.int p6)] maxLocals)) t := fun t kt => by
      refine pre54 _ ?_
      show Steps p.tables e below (T52.setTop (mkF m 124 #[.val (.int p1), .val (.int p2), .val (.int p3), .val (.int p4), .val (.int p5), .val (.int p6), .val (.int ((1 : Int32) + (p1 &&& (3 : Int32)))), .val (.int (2 : Int32)), .val (.ref b1), .val (.int (1 : Int32)), .unset, .unset, .unset, .unset] [(.ref b52), (.ref b52)])) _
      refine st55 _ ?_
      show Steps p.tables e below (T55.setTop (mkF m 126 #[.val (.int p1), .val (.int p2), .val (.int p3), .val (.int p4), .val (.int p5), .val (.int p6), .val (.int ((1 : Int32) + (p1 &&& (3 : Int32)))), .val (.int (2 : Int32)), .val (.ref b1), .val (.int (1 : Int32)), .unset, .unset, .unset, .unset] [(.ref sa55), (.ref b52), (.ref b52)])) _
      refine own_blk X55 hx bl0_126_2 (own_hb hby bd0_126_2) (pc' := 130) (Ls' := #[.val (.int p1), .val (.int p2), .val (.int p3), .val (.int p4), .val (.int p5), .val (.int p6), .val (.int ((1 : Int32) + (p1 &&& (3 : Int32)))), .val (.int (2 : Int32)), .val (.ref b1), .val (.int (1 : Int32)), .unset, .unset, .unset, .unset]) (st' := [(.int ((1 : Int32) + (p1 &&& (3 : Int32)))), (.ref b1), (.ref sa55), (.ref b52), (.ref b52)]) rfl ?_
      refine st57 _ ?_
      show Steps p.tables e below (T57.setTop (mkF m 133 #[.val (.int p1), .val (.int p2), .val (.int p3), .val (.int p4), .val (.int p5), .val (.int p6), .val (.int ((1 : Int32) + (p1 &&& (3 : Int32)))), .val (.int (2 : Int32)), .val (.ref b1), .val (.int (1 : Int32)), .unset, .unset, .unset, .unset] [(.ref b52)])) _
      refine own_blk X57 hx bl0_133_1 (own_hb hby bd0_133_1) (pc' := 135) (Ls' := #[.val (.int p1), .val (.int p2), .val (.int p3), .val (.int p4), .val (.int p5), .val (.int p6), .val (.int ((1 : Int32) + (p1 &&& (3 : Int32)))), .val (.int (2 : Int32)), .val (.ref b1), .val (.int (1 : Int32)), .val (.ref b52), .unset, .unset, .unset]) (st' := []) rfl ?_
      refine own_blk X57 hx bl0_135_2 (own_hb hby bd0_135_2) (pc' := 139) (Ls' := #[.val (.int p1), .val (.int p2), .val (.int p3), .val (.int p4), .val (.int p5), .val (.int p6), .val (.int ((1 : Int32) + (p1 &&& (3 : Int32)))), .val (.int (2 : Int32)), .val (.ref b1), .val (.int (1 : Int32)), .val (.ref b52), .unset, .unset, .unset]) (st' := [(.int (2 : Int32)), (.ref b52)]) rfl ?_
      refine st71 _ ?_
      show Steps p.tables e below (T71.setTop (mkF m 142 #[.val (.int p1), .val (.int p2), .val (.int p3), .val (.int p4), .val (.int p5), .val (.int p6), .val (.int ((1 : Int32) + (p1 &&& (3 : Int32)))), .val (.int (2 : Int32)), .val (.ref b1), .val (.int (1 : Int32)), .val (.ref b52), .unset, .unset, .unset] [])) _
      refine own_blk X71 hx bl0_142_1 (own_hb hby bd0_142_1) (pc' := 144) (Ls' := #[.val (.int p1), .val (.int p2), .val (.int p3), .val (.int p4), .val (.int p5), .val (.int p6), .val (.int ((1 : Int32) + (p1 &&& (3 : Int32)))), .val (.int (2 : Int32)), .val (.ref b1), .val (.int (1 : Int32)), .val (.ref b52), .unset, .unset, .unset]) (st' := [(.ref b52)]) rfl ?_
      exact kt
    by_cases hc77 : (3 : Int32) = ((1 : Int32) + (p1 &&& (3 : Int32)))
    · subst hv74
      have lFc74_a1_pos : Fld Z T74.heap b52 "com/example/endcon/endcon/yaml/Cursor" "pos" "I" (.int ((2 : Int32) + (1 : Int32))) := by have q := Fc74_a1_pos; rw [f6_a1_pos, if_pos (show (own_at4 (nar .char ((p5 &&& (255 : Int32)).toUInt32.toUInt16.toUInt32.toInt32)) (nar .char ((((p5.toUInt32 >>> ((8 : Int32) &&& 31).toUInt32).toInt32) &&& (255 : Int32)).toUInt32.toUInt16.toUInt32.toInt32)) (nar .char (13 : Int32)) (nar .char (f1 p4)) (2 : Int32)) = (13 : Int32) from (by decide : (nar .char (13 : Int32)) = (13 : Int32))), if_pos (show ((2 : Int32) + (1 : Int32)) = ((1 : Int32) + (p1 &&& (3 : Int32))) from hc77), if_neg (show ¬ (((2 : Int32) + (1 : Int32)) < ((1 : Int32) + (p1 &&& (3 : Int32)))) from (own_eqlt hc77))] at q; exact q
      have lFc74_a1_line : Fld Z T74.heap b52 "com/example/endcon/endcon/yaml/Cursor" "line" "I" (.int (1 : Int32)) := by have q := Fc74_a1_line; rw [f6_a1_line, if_pos (show (own_at4 (nar .char ((p5 &&& (255 : Int32)).toUInt32.toUInt16.toUInt32.toInt32)) (nar .char ((((p5.toUInt32 >>> ((8 : Int32) &&& 31).toUInt32).toInt32) &&& (255 : Int32)).toUInt32.toUInt16.toUInt32.toInt32)) (nar .char (13 : Int32)) (nar .char (f1 p4)) (2 : Int32)) = (13 : Int32) from (by decide : (nar .char (13 : Int32)) = (13 : Int32))), if_pos (show ((2 : Int32) + (1 : Int32)) = ((1 : Int32) + (p1 &&& (3 : Int32))) from hc77), if_neg (show ¬ (((2 : Int32) + (1 : Int32)) < ((1 : Int32) + (p1 &&& (3 : Int32)))) from (own_eqlt hc77))] at q; exact q
      have lFc74_a1_lineStart : Fld Z T74.heap b52 "com/example/endcon/endcon/yaml/Cursor" "lineStart" "I" (.int (0 : Int32)) := by have q := Fc74_a1_lineStart; rw [f6_a1_lineStart, if_pos (show (own_at4 (nar .char ((p5 &&& (255 : Int32)).toUInt32.toUInt16.toUInt32.toInt32)) (nar .char ((((p5.toUInt32 >>> ((8 : Int32) &&& 31).toUInt32).toInt32) &&& (255 : Int32)).toUInt32.toUInt16.toUInt32.toInt32)) (nar .char (13 : Int32)) (nar .char (f1 p4)) (2 : Int32)) = (13 : Int32) from (by decide : (nar .char (13 : Int32)) = (13 : Int32))), if_pos (show ((2 : Int32) + (1 : Int32)) = ((1 : Int32) + (p1 &&& (3 : Int32))) from hc77), if_neg (show ¬ (((2 : Int32) + (1 : Int32)) < ((1 : Int32) + (p1 &&& (3 : Int32)))) from (own_eqlt hc77))] at q; exact q
      have zk78 : kk55 ≤ T74.heap.size := Nat.le_trans zk72 K74.1
      have zs79 : n0 ≤ T74.heap.size := Nat.le_trans zs73 K74.1
      obtain ⟨_, T80, Lc80, X80, hQ80, st80⟩ := own_callV X74 hx hZ (y := (⟨"com/example/endcon/endcon/yaml/Cursor", "index", "()I"⟩ : MethodName)) hown (hw _ (List.mem_of_getElem? (i := 57) rfl)) (hw _ (List.mem_of_getElem? (i := 58) rfl)) (hw _ (List.mem_of_getElem? (i := 60) rfl)) (hw _ (List.mem_of_getElem? (i := 59) rfl)) (hw _ (List.mem_of_getElem? (i := 8) rfl)) (hw _ (List.mem_of_getElem? (i := 61) rfl)) (by decide) (W := 0) Ec74_a1 (argsL := []) (rest := []) (rm7 l Z a0 hw [] b52 ((2 : Int32) + (1 : Int32)) T74.heap n0 zs79 Ec74_a1 lFc74_a1_pos) (by decide) (by decide) (c' := 4) (s' := 24) rfl rfl (by decide) (by decide) rfl (g := (mkF m 237 #[.val (.int p1), .val (.int p2), .val (.int p3), .val (.int p4), .val (.int p5), .val (.int p6), .val (.int ((1 : Int32) + (p1 &&& (3 : Int32)))), .val (.int (2 : Int32)), .val (.ref b1), .val (.int (1 : Int32)), .val (.ref b52), .val (.int (3 : Int32)), .val (.int (1 : Int32)), .val (.int (0 : Int32))] [(.ref b52)])) rfl (by rw [hml]; rfl) (lenOf pd_0_5 rfl) rfl (by show 2 * 0 + _ ≤ _; exact Nat.le_of_eq rfl) (hb hby at_237)
      obtain ⟨hv80, N80q, e80⟩ := hQ80
      have N80 := Fr.app N74 N80q
      rw [f7] at hv80
      subst hv80
      obtain ⟨_, T81, Lc81, X81, hQ81, st81⟩ := own_callV X80 hx hZ (y := (⟨"com/example/endcon/endcon/yaml/Cursor", "line", "()I"⟩ : MethodName)) hown (hw _ (List.mem_of_getElem? (i := 62) rfl)) (hw _ (List.mem_of_getElem? (i := 63) rfl)) (hw _ (List.mem_of_getElem? (i := 65) rfl)) (hw _ (List.mem_of_getElem? (i := 64) rfl)) (hw _ (List.mem_of_getElem? (i := 8) rfl)) (hw _ (List.mem_of_getElem? (i := 66) rfl)) (by decide) (W := 0) Ec74_a1 (argsL := []) (rest := []) (rm8 l Z a0 hw [] b52 (1 : Int32) T74.heap n0 zs79 Ec74_a1 lFc74_a1_line) (by decide) (by decide) (c' := 4) (s' := 24) rfl rfl (by decide) (by decide) e80 (g := (mkF m 247 #[.val (.int p1), .val (.int p2), .val (.int p3), .val (.int p4), .val (.int p5), .val (.int p6), .val (.int ((1 : Int32) + (p1 &&& (3 : Int32)))), .val (.int (2 : Int32)), .val (.ref b1), .val (.int (1 : Int32)), .val (.ref b52), .val (.int (3 : Int32)), .val (.int (1 : Int32)), .val (.int (0 : Int32))] [(.ref b52)])) rfl (by rw [hml]; rfl) (lenOf pd_0_5 rfl) rfl (by show 2 * 0 + _ ≤ _; exact Nat.le_of_eq rfl) (hb hby at_247)
      obtain ⟨hv81, N81q, e81⟩ := hQ81
      have N81 := Fr.app N80 N81q
      rw [f8] at hv81
      subst hv81
      obtain ⟨_, T82, Lc82, X82, hQ82, st82⟩ := own_callV X81 hx hZ (y := (⟨"com/example/endcon/endcon/yaml/Cursor", "lineStart", "()I"⟩ : MethodName)) hown (hw _ (List.mem_of_getElem? (i := 67) rfl)) (hw _ (List.mem_of_getElem? (i := 68) rfl)) (hw _ (List.mem_of_getElem? (i := 70) rfl)) (hw _ (List.mem_of_getElem? (i := 69) rfl)) (hw _ (List.mem_of_getElem? (i := 8) rfl)) (hw _ (List.mem_of_getElem? (i := 71) rfl)) (by decide) (W := 0) Ec74_a1 (argsL := []) (rest := []) (rm9 l Z a0 hw [] b52 (0 : Int32) T74.heap n0 zs79 Ec74_a1 lFc74_a1_lineStart) (by decide) (by decide) (c' := 4) (s' := 24) rfl rfl (by decide) (by decide) e81 (g := (mkF m 257 #[.val (.int p1), .val (.int p2), .val (.int p3), .val (.int p4), .val (.int p5), .val (.int p6), .val (.int ((1 : Int32) + (p1 &&& (3 : Int32)))), .val (.int (2 : Int32)), .val (.ref b1), .val (.int (1 : Int32)), .val (.ref b52), .val (.int (3 : Int32)), .val (.int (1 : Int32)), .val (.int (0 : Int32))] [(.ref b52)])) rfl (by rw [hml]; rfl) (lenOf pd_0_5 rfl) rfl (by show 2 * 0 + _ ≤ _; exact Nat.le_of_eq rfl) (hb hby at_257)
      obtain ⟨hv82, N82q, e82⟩ := hQ82
      have N82 := Fr.app N81 N82q
      rw [f9] at hv82
      subst hv82
      obtain ⟨fs, hr, hrun, hended, hRW⟩ := X82.leaveW (s := s) hS55 (by rw [e82]; exact zk78) (v := some (.int (1 : Int32))) (fun h => by rw [Bd.returns] at h; cases h)
      refine ⟨_, _, pre76 _ ?_, hrun, hended, _, _, rfl, ?_, ⟨_, rfl⟩, hRW.2.1, hRW.2.2.1, hRW.2.2.2.mono (by decide) (by decide)⟩
      · refine st74 _ ?_
        show Steps p.tables e below (T74.setTop (mkF m 147 #[.val (.int p1), .val (.int p2), .val (.int p3), .val (.int p4), .val (.int p5), .val (.int p6), .val (.int ((1 : Int32) + (p1 &&& (3 : Int32)))), .val (.int (2 : Int32)), .val (.ref b1), .val (.int (1 : Int32)), .val (.ref b52), .unset, .unset, .unset] [])) _
        refine own_blk X74 hx bl0_147_1 (own_hb hby bd0_147_1) (pc' := 149) (Ls' := #[.val (.int p1), .val (.int p2), .val (.int p3), .val (.int p4), .val (.int p5), .val (.int p6), .val (.int ((1 : Int32) + (p1 &&& (3 : Int32)))), .val (.int (2 : Int32)), .val (.ref b1), .val (.int (1 : Int32)), .val (.ref b52), .unset, .unset, .unset]) (st' := [(.int (1 : Int32))]) rfl ?_
        refine XS.ifNo X74.here hx rfl (hb hby at_149) rfl ((if0 _ _).trans (feq (by decide : ¬ ((1 : Int32) = (0 : Int32)))).1) ?_
        show Steps p.tables e below (T74.setTop (mkF m 152 #[.val (.int p1), .val (.int p2), .val (.int p3), .val (.int p4), .val (.int p5), .val (.int p6), .val (.int ((1 : Int32) + (p1 &&& (3 : Int32)))), .val (.int (2 : Int32)), .val (.ref b1), .val (.int (1 : Int32)), .val (.ref b52), .unset, .unset, .unset] [])) _
        refine own_blk X74 hx bl0_152_4 (own_hb hby bd0_152_4) (pc' := 158) (Ls' := #[.val (.int p1), .val (.int p2), .val (.int p3), .val (.int p4), .val (.int p5), .val (.int p6), .val (.int ((1 : Int32) + (p1 &&& (3 : Int32)))), .val (.int (2 : Int32)), .val (.ref b1), .val (.int (1 : Int32)), .val (.ref b52), .unset, .unset, .unset]) (st' := [(.int ((1 : Int32) + (p1 &&& (3 : Int32)))), (.int (3 : Int32))]) rfl ?_
        refine XS.icmpNo X74.here hx rfl (hb hby at_158) rfl (teq hc77).2 ?_
        show Steps p.tables e below (T74.setTop (mkF m 161 #[.val (.int p1), .val (.int p2), .val (.int p3), .val (.int p4), .val (.int p5), .val (.int p6), .val (.int ((1 : Int32) + (p1 &&& (3 : Int32)))), .val (.int (2 : Int32)), .val (.ref b1), .val (.int (1 : Int32)), .val (.ref b52), .unset, .unset, .unset] [])) _
        refine own_blk X74 hx bl0_161_4 (own_hb hby bd0_161_4) (pc' := 167) (Ls' := #[.val (.int p1), .val (.int p2), .val (.int p3), .val (.int p4), .val (.int p5), .val (.int p6), .val (.int ((1 : Int32) + (p1 &&& (3 : Int32)))), .val (.int (2 : Int32)), .val (.ref b1), .val (.int (1 : Int32)), .val (.ref b52), .val (.int (3 : Int32)), .unset, .unset]) (st' := []) rfl ?_
        refine own_blk X74 hx bl0_167_2 (own_hb hby bd0_167_2) (pc' := 170) (Ls' := #[.val (.int p1), .val (.int p2), .val (.int p3), .val (.int p4), .val (.int p5), .val (.int p6), .val (.int ((1 : Int32) + (p1 &&& (3 : Int32)))), .val (.int (2 : Int32)), .val (.ref b1), .val (.int (1 : Int32)), .val (.ref b52), .val (.int (3 : Int32)), .val (.int (1 : Int32)), .unset]) (st' := []) rfl ?_
        refine own_blk X74 hx bl0_170_2 (own_hb hby bd0_170_2) (pc' := 173) (Ls' := #[.val (.int p1), .val (.int p2), .val (.int p3), .val (.int p4), .val (.int p5), .val (.int p6), .val (.int ((1 : Int32) + (p1 &&& (3 : Int32)))), .val (.int (2 : Int32)), .val (.ref b1), .val (.int (1 : Int32)), .val (.ref b52), .val (.int (3 : Int32)), .val (.int (1 : Int32)), .val (.int (0 : Int32))]) (st' := []) rfl ?_
        refine own_blk X74 hx bl0_173_2 (own_hb hby bd0_173_2) (pc' := 237) (Ls' := #[.val (.int p1), .val (.int p2), .val (.int p3), .val (.int p4), .val (.int p5), .val (.int p6), .val (.int ((1 : Int32) + (p1 &&& (3 : Int32)))), .val (.int (2 : Int32)), .val (.ref b1), .val (.int (1 : Int32)), .val (.ref b52), .val (.int (3 : Int32)), .val (.int (1 : Int32)), .val (.int (0 : Int32))]) (st' := [(.ref b52)]) rfl ?_
        refine st80 _ ?_
        show Steps p.tables e below (T80.setTop (mkF m 240 #[.val (.int p1), .val (.int p2), .val (.int p3), .val (.int p4), .val (.int p5), .val (.int p6), .val (.int ((1 : Int32) + (p1 &&& (3 : Int32)))), .val (.int (2 : Int32)), .val (.ref b1), .val (.int (1 : Int32)), .val (.ref b52), .val (.int (3 : Int32)), .val (.int (1 : Int32)), .val (.int (0 : Int32))] [(.int ((2 : Int32) + (1 : Int32)))])) _
        refine own_blk X80 hx bl0_240_1 (own_hb hby bd0_240_1) (pc' := 242) (Ls' := #[.val (.int p1), .val (.int p2), .val (.int p3), .val (.int p4), .val (.int p5), .val (.int p6), .val (.int ((1 : Int32) + (p1 &&& (3 : Int32)))), .val (.int (2 : Int32)), .val (.ref b1), .val (.int (1 : Int32)), .val (.ref b52), .val (.int (3 : Int32)), .val (.int (1 : Int32)), .val (.int (0 : Int32))]) (st' := [(.int (3 : Int32)), (.int ((2 : Int32) + (1 : Int32)))]) rfl ?_
        refine XS.icmpNo X80.here hx rfl (hb hby at_242) rfl (teq (show ((2 : Int32) + (1 : Int32)) = (3 : Int32) from (by decide : (3 : Int32) = (3 : Int32)))).2 ?_
        show Steps p.tables e below (T80.setTop (mkF m 245 #[.val (.int p1), .val (.int p2), .val (.int p3), .val (.int p4), .val (.int p5), .val (.int p6), .val (.int ((1 : Int32) + (p1 &&& (3 : Int32)))), .val (.int (2 : Int32)), .val (.ref b1), .val (.int (1 : Int32)), .val (.ref b52), .val (.int (3 : Int32)), .val (.int (1 : Int32)), .val (.int (0 : Int32))] [])) _
        refine own_blk X80 hx bl0_245_1 (own_hb hby bd0_245_1) (pc' := 247) (Ls' := #[.val (.int p1), .val (.int p2), .val (.int p3), .val (.int p4), .val (.int p5), .val (.int p6), .val (.int ((1 : Int32) + (p1 &&& (3 : Int32)))), .val (.int (2 : Int32)), .val (.ref b1), .val (.int (1 : Int32)), .val (.ref b52), .val (.int (3 : Int32)), .val (.int (1 : Int32)), .val (.int (0 : Int32))]) (st' := [(.ref b52)]) rfl ?_
        refine st81 _ ?_
        show Steps p.tables e below (T81.setTop (mkF m 250 #[.val (.int p1), .val (.int p2), .val (.int p3), .val (.int p4), .val (.int p5), .val (.int p6), .val (.int ((1 : Int32) + (p1 &&& (3 : Int32)))), .val (.int (2 : Int32)), .val (.ref b1), .val (.int (1 : Int32)), .val (.ref b52), .val (.int (3 : Int32)), .val (.int (1 : Int32)), .val (.int (0 : Int32))] [(.int (1 : Int32))])) _
        refine own_blk X81 hx bl0_250_1 (own_hb hby bd0_250_1) (pc' := 252) (Ls' := #[.val (.int p1), .val (.int p2), .val (.int p3), .val (.int p4), .val (.int p5), .val (.int p6), .val (.int ((1 : Int32) + (p1 &&& (3 : Int32)))), .val (.int (2 : Int32)), .val (.ref b1), .val (.int (1 : Int32)), .val (.ref b52), .val (.int (3 : Int32)), .val (.int (1 : Int32)), .val (.int (0 : Int32))]) (st' := [(.int (1 : Int32)), (.int (1 : Int32))]) rfl ?_
        refine XS.icmpNo X81.here hx rfl (hb hby at_252) rfl (teq (by decide : (1 : Int32) = (1 : Int32))).2 ?_
        show Steps p.tables e below (T81.setTop (mkF m 255 #[.val (.int p1), .val (.int p2), .val (.int p3), .val (.int p4), .val (.int p5), .val (.int p6), .val (.int ((1 : Int32) + (p1 &&& (3 : Int32)))), .val (.int (2 : Int32)), .val (.ref b1), .val (.int (1 : Int32)), .val (.ref b52), .val (.int (3 : Int32)), .val (.int (1 : Int32)), .val (.int (0 : Int32))] [])) _
        refine own_blk X81 hx bl0_255_1 (own_hb hby bd0_255_1) (pc' := 257) (Ls' := #[.val (.int p1), .val (.int p2), .val (.int p3), .val (.int p4), .val (.int p5), .val (.int p6), .val (.int ((1 : Int32) + (p1 &&& (3 : Int32)))), .val (.int (2 : Int32)), .val (.ref b1), .val (.int (1 : Int32)), .val (.ref b52), .val (.int (3 : Int32)), .val (.int (1 : Int32)), .val (.int (0 : Int32))]) (st' := [(.ref b52)]) rfl ?_
        refine st82 _ ?_
        show Steps p.tables e below (T82.setTop (mkF m 260 #[.val (.int p1), .val (.int p2), .val (.int p3), .val (.int p4), .val (.int p5), .val (.int p6), .val (.int ((1 : Int32) + (p1 &&& (3 : Int32)))), .val (.int (2 : Int32)), .val (.ref b1), .val (.int (1 : Int32)), .val (.ref b52), .val (.int (3 : Int32)), .val (.int (1 : Int32)), .val (.int (0 : Int32))] [(.int (0 : Int32))])) _
        refine own_blk X82 hx bl0_260_1 (own_hb hby bd0_260_1) (pc' := 262) (Ls' := #[.val (.int p1), .val (.int p2), .val (.int p3), .val (.int p4), .val (.int p5), .val (.int p6), .val (.int ((1 : Int32) + (p1 &&& (3 : Int32)))), .val (.int (2 : Int32)), .val (.ref b1), .val (.int (1 : Int32)), .val (.ref b52), .val (.int (3 : Int32)), .val (.int (1 : Int32)), .val (.int (0 : Int32))]) (st' := [(.int (0 : Int32)), (.int (0 : Int32))]) rfl ?_
        refine XS.icmpNo X82.here hx rfl (hb hby at_262) rfl (teq (by decide : (0 : Int32) = (0 : Int32))).2 ?_
        show Steps p.tables e below (T82.setTop (mkF m 265 #[.val (.int p1), .val (.int p2), .val (.int p3), .val (.int p4), .val (.int p5), .val (.int p6), .val (.int ((1 : Int32) + (p1 &&& (3 : Int32)))), .val (.int (2 : Int32)), .val (.ref b1), .val (.int (1 : Int32)), .val (.ref b52), .val (.int (3 : Int32)), .val (.int (1 : Int32)), .val (.int (0 : Int32))] [])) _
        refine own_blk X82 hx bl0_265_2 (own_hb hby bd0_265_2) (pc' := 270) (Ls' := #[.val (.int p1), .val (.int p2), .val (.int p3), .val (.int p4), .val (.int p5), .val (.int p6), .val (.int ((1 : Int32) + (p1 &&& (3 : Int32)))), .val (.int (2 : Int32)), .val (.ref b1), .val (.int (1 : Int32)), .val (.ref b52), .val (.int (3 : Int32)), .val (.int (1 : Int32)), .val (.int (0 : Int32))]) (st' := [(.int (1 : Int32))]) rfl ?_
        exact retN X82 hx (t := .boolean) Bd.returns (by simp) (hb hby at_270) hr
      · show Q0_2 Z p1 p2 p3 p4 p5 p6 h0 n0 _ T82.heap _
        rw [e82]
        exact ⟨by rw [f0_2, if_neg hc12, if_pos hc77], N82⟩
    · by_cases hc83 : (nar .char (f1 p4)) = (10 : Int32)
      · subst hv74
        have lFc74_a1_pos : Fld Z T74.heap b52 "com/example/endcon/endcon/yaml/Cursor" "pos" "I" (.int ((2 : Int32) + (2 : Int32))) := by have q := Fc74_a1_pos; rw [f6_a1_pos, if_pos (show (own_at4 (nar .char ((p5 &&& (255 : Int32)).toUInt32.toUInt16.toUInt32.toInt32)) (nar .char ((((p5.toUInt32 >>> ((8 : Int32) &&& 31).toUInt32).toInt32) &&& (255 : Int32)).toUInt32.toUInt16.toUInt32.toInt32)) (nar .char (13 : Int32)) (nar .char (f1 p4)) (2 : Int32)) = (13 : Int32) from (by decide : (nar .char (13 : Int32)) = (13 : Int32))), if_neg (show ¬ (((2 : Int32) + (1 : Int32)) = ((1 : Int32) + (p1 &&& (3 : Int32)))) from hc77), if_pos (show ((2 : Int32) + (1 : Int32)) < ((1 : Int32) + (p1 &&& (3 : Int32))) from (own_nelt (own_pn p1 p2 hn) hc77)), if_pos (show (own_at4 (nar .char ((p5 &&& (255 : Int32)).toUInt32.toUInt16.toUInt32.toInt32)) (nar .char ((((p5.toUInt32 >>> ((8 : Int32) &&& 31).toUInt32).toInt32) &&& (255 : Int32)).toUInt32.toUInt16.toUInt32.toInt32)) (nar .char (13 : Int32)) (nar .char (f1 p4)) ((2 : Int32) + (1 : Int32))) = (10 : Int32) from hc83)] at q; exact q
        have lFc74_a1_line : Fld Z T74.heap b52 "com/example/endcon/endcon/yaml/Cursor" "line" "I" (.int ((1 : Int32) + (1 : Int32))) := by have q := Fc74_a1_line; rw [f6_a1_line, if_pos (show (own_at4 (nar .char ((p5 &&& (255 : Int32)).toUInt32.toUInt16.toUInt32.toInt32)) (nar .char ((((p5.toUInt32 >>> ((8 : Int32) &&& 31).toUInt32).toInt32) &&& (255 : Int32)).toUInt32.toUInt16.toUInt32.toInt32)) (nar .char (13 : Int32)) (nar .char (f1 p4)) (2 : Int32)) = (13 : Int32) from (by decide : (nar .char (13 : Int32)) = (13 : Int32))), if_neg (show ¬ (((2 : Int32) + (1 : Int32)) = ((1 : Int32) + (p1 &&& (3 : Int32)))) from hc77), if_pos (show ((2 : Int32) + (1 : Int32)) < ((1 : Int32) + (p1 &&& (3 : Int32))) from (own_nelt (own_pn p1 p2 hn) hc77)), if_pos (show (own_at4 (nar .char ((p5 &&& (255 : Int32)).toUInt32.toUInt16.toUInt32.toInt32)) (nar .char ((((p5.toUInt32 >>> ((8 : Int32) &&& 31).toUInt32).toInt32) &&& (255 : Int32)).toUInt32.toUInt16.toUInt32.toInt32)) (nar .char (13 : Int32)) (nar .char (f1 p4)) ((2 : Int32) + (1 : Int32))) = (10 : Int32) from hc83)] at q; exact q
        have lFc74_a1_lineStart : Fld Z T74.heap b52 "com/example/endcon/endcon/yaml/Cursor" "lineStart" "I" (.int ((2 : Int32) + (2 : Int32))) := by have q := Fc74_a1_lineStart; rw [f6_a1_lineStart, if_pos (show (own_at4 (nar .char ((p5 &&& (255 : Int32)).toUInt32.toUInt16.toUInt32.toInt32)) (nar .char ((((p5.toUInt32 >>> ((8 : Int32) &&& 31).toUInt32).toInt32) &&& (255 : Int32)).toUInt32.toUInt16.toUInt32.toInt32)) (nar .char (13 : Int32)) (nar .char (f1 p4)) (2 : Int32)) = (13 : Int32) from (by decide : (nar .char (13 : Int32)) = (13 : Int32))), if_neg (show ¬ (((2 : Int32) + (1 : Int32)) = ((1 : Int32) + (p1 &&& (3 : Int32)))) from hc77), if_pos (show ((2 : Int32) + (1 : Int32)) < ((1 : Int32) + (p1 &&& (3 : Int32))) from (own_nelt (own_pn p1 p2 hn) hc77)), if_pos (show (own_at4 (nar .char ((p5 &&& (255 : Int32)).toUInt32.toUInt16.toUInt32.toInt32)) (nar .char ((((p5.toUInt32 >>> ((8 : Int32) &&& 31).toUInt32).toInt32) &&& (255 : Int32)).toUInt32.toUInt16.toUInt32.toInt32)) (nar .char (13 : Int32)) (nar .char (f1 p4)) ((2 : Int32) + (1 : Int32))) = (10 : Int32) from hc83)] at q; exact q
        have zk84 : kk55 ≤ T74.heap.size := Nat.le_trans zk72 K74.1
        have zs85 : n0 ≤ T74.heap.size := Nat.le_trans zs73 K74.1
        have fa86 : Arv Z T74.heap b1 k1 .char (4 : Int32) [(.int (nar .char ((p5 &&& (255 : Int32)).toUInt32.toUInt16.toUInt32.toInt32))), (.int (nar .char ((((p5.toUInt32 >>> ((8 : Int32) &&& 31).toUInt32).toInt32) &&& (255 : Int32)).toUInt32.toUInt16.toUInt32.toInt32))), (.int (nar .char (13 : Int32))), (.int (nar .char (f1 p4)))] (.int (0 : Int32)) := (fa75.keep K74 (ninS ne_b1_b52 nin0))
        obtain ⟨cx87, Ar87, qq87, S87, N87_, H87, G87⟩ := id fa86
        have hin87 : ¬ ((3 : Int32) < 0 ∨ cx87.slots.size ≤ ((3 : Int32)).toNatClampNeg) := inb_of S87 ⟨by decide, by decide⟩
        have hat87 : cx87.slots[((3 : Int32)).toNatClampNeg]? = some (.int (nar .char (f1 p4))) := (H87 ((3 : Int32)).toNatClampNeg (Nat.lt_of_not_le fun w => hin87 (Or.inr w))).trans (congrArg some (rfl))
        obtain ⟨_, T88, Lc88, X88, hQ88, st88⟩ := own_callV X74 hx hZ (y := (⟨"com/example/endcon/endcon/yaml/Cursor", "index", "()I"⟩ : MethodName)) hown (hw _ (List.mem_of_getElem? (i := 57) rfl)) (hw _ (List.mem_of_getElem? (i := 58) rfl)) (hw _ (List.mem_of_getElem? (i := 60) rfl)) (hw _ (List.mem_of_getElem? (i := 59) rfl)) (hw _ (List.mem_of_getElem? (i := 8) rfl)) (hw _ (List.mem_of_getElem? (i := 61) rfl)) (by decide) (W := 0) Ec74_a1 (argsL := []) (rest := []) (rm7 l Z a0 hw [] b52 ((2 : Int32) + (2 : Int32)) T74.heap n0 zs85 Ec74_a1 lFc74_a1_pos) (by decide) (by decide) (c' := 4) (s' := 24) rfl rfl (by decide) (by decide) rfl (g := (mkF m 237 #[.val (.int p1), .val (.int p2), .val (.int p3), .val (.int p4), .val (.int p5), .val (.int p6), .val (.int ((1 : Int32) + (p1 &&& (3 : Int32)))), .val (.int (2 : Int32)), .val (.ref b1), .val (.int (1 : Int32)), .val (.ref b52), .val (.int (4 : Int32)), .val (.int (2 : Int32)), .val (.int (4 : Int32))] [(.ref b52)])) rfl (by rw [hml]; rfl) (lenOf pd_0_5 rfl) rfl (by show 2 * 0 + _ ≤ _; exact Nat.le_of_eq rfl) (hb hby at_237)
        obtain ⟨hv88, N88q, e88⟩ := hQ88
        have N88 := Fr.app N74 N88q
        rw [f7] at hv88
        subst hv88
        obtain ⟨_, T89, Lc89, X89, hQ89, st89⟩ := own_callV X88 hx hZ (y := (⟨"com/example/endcon/endcon/yaml/Cursor", "line", "()I"⟩ : MethodName)) hown (hw _ (List.mem_of_getElem? (i := 62) rfl)) (hw _ (List.mem_of_getElem? (i := 63) rfl)) (hw _ (List.mem_of_getElem? (i := 65) rfl)) (hw _ (List.mem_of_getElem? (i := 64) rfl)) (hw _ (List.mem_of_getElem? (i := 8) rfl)) (hw _ (List.mem_of_getElem? (i := 66) rfl)) (by decide) (W := 0) Ec74_a1 (argsL := []) (rest := []) (rm8 l Z a0 hw [] b52 ((1 : Int32) + (1 : Int32)) T74.heap n0 zs85 Ec74_a1 lFc74_a1_line) (by decide) (by decide) (c' := 4) (s' := 24) rfl rfl (by decide) (by decide) e88 (g := (mkF m 247 #[.val (.int p1), .val (.int p2), .val (.int p3), .val (.int p4), .val (.int p5), .val (.int p6), .val (.int ((1 : Int32) + (p1 &&& (3 : Int32)))), .val (.int (2 : Int32)), .val (.ref b1), .val (.int (1 : Int32)), .val (.ref b52), .val (.int (4 : Int32)), .val (.int (2 : Int32)), .val (.int (4 : Int32))] [(.ref b52)])) rfl (by rw [hml]; rfl) (lenOf pd_0_5 rfl) rfl (by show 2 * 0 + _ ≤ _; exact Nat.le_of_eq rfl) (hb hby at_247)
        obtain ⟨hv89, N89q, e89⟩ := hQ89
        have N89 := Fr.app N88 N89q
        rw [f8] at hv89
        subst hv89
        obtain ⟨_, T90, Lc90, X90, hQ90, st90⟩ := own_callV X89 hx hZ (y := (⟨"com/example/endcon/endcon/yaml/Cursor", "lineStart", "()I"⟩ : MethodName)) hown (hw _ (List.mem_of_getElem? (i := 67) rfl)) (hw _ (List.mem_of_getElem? (i := 68) rfl)) (hw _ (List.mem_of_getElem? (i := 70) rfl)) (hw _ (List.mem_of_getElem? (i := 69) rfl)) (hw _ (List.mem_of_getElem? (i := 8) rfl)) (hw _ (List.mem_of_getElem? (i := 71) rfl)) (by decide) (W := 0) Ec74_a1 (argsL := []) (rest := []) (rm9 l Z a0 hw [] b52 ((2 : Int32) + (2 : Int32)) T74.heap n0 zs85 Ec74_a1 lFc74_a1_lineStart) (by decide) (by decide) (c' := 4) (s' := 24) rfl rfl (by decide) (by decide) e89 (g := (mkF m 257 #[.val (.int p1), .val (.int p2), .val (.int p3), .val (.int p4), .val (.int p5), .val (.int p6), .val (.int ((1 : Int32) + (p1 &&& (3 : Int32)))), .val (.int (2 : Int32)), .val (.ref b1), .val (.int (1 : Int32)), .val (.ref b52), .val (.int (4 : Int32)), .val (.int (2 : Int32)), .val (.int (4 : Int32))] [(.ref b52)])) rfl (by rw [hml]; rfl) (lenOf pd_0_5 rfl) rfl (by show 2 * 0 + _ ≤ _; exact Nat.le_of_eq rfl) (hb hby at_257)
        obtain ⟨hv90, N90q, e90⟩ := hQ90
        have N90 := Fr.app N89 N90q
        rw [f9] at hv90
        subst hv90
        obtain ⟨fs, hr, hrun, hended, hRW⟩ := X90.leaveW (s := s) hS55 (by rw [e90]; exact zk84) (v := some (.int (1 : Int32))) (fun h => by rw [Bd.returns] at h; cases h)
        refine ⟨_, _, pre76 _ ?_, hrun, hended, _, _, rfl, ?_, ⟨_, rfl⟩, hRW.2.1, hRW.2.2.1, hRW.2.2.2.mono (by decide) (by decide)⟩
        · refine st74 _ ?_
          show Steps p.tables e below (T74.setTop (mkF m 147 #[.val (.int p1), .val (.int p2), .val (.int p3), .val (.int p4), .val (.int p5), .val (.int p6), .val (.int ((1 : Int32) + (p1 &&& (3 : Int32)))), .val (.int (2 : Int32)), .val (.ref b1), .val (.int (1 : Int32)), .val (.ref b52), .unset, .unset, .unset] [])) _
          refine own_blk X74 hx bl0_147_1 (own_hb hby bd0_147_1) (pc' := 149) (Ls' := #[.val (.int p1), .val (.int p2), .val (.int p3), .val (.int p4), .val (.int p5), .val (.int p6), .val (.int ((1 : Int32) + (p1 &&& (3 : Int32)))), .val (.int (2 : Int32)), .val (.ref b1), .val (.int (1 : Int32)), .val (.ref b52), .unset, .unset, .unset]) (st' := [(.int (1 : Int32))]) rfl ?_
          refine XS.ifNo X74.here hx rfl (hb hby at_149) rfl ((if0 _ _).trans (feq (by decide : ¬ ((1 : Int32) = (0 : Int32)))).1) ?_
          show Steps p.tables e below (T74.setTop (mkF m 152 #[.val (.int p1), .val (.int p2), .val (.int p3), .val (.int p4), .val (.int p5), .val (.int p6), .val (.int ((1 : Int32) + (p1 &&& (3 : Int32)))), .val (.int (2 : Int32)), .val (.ref b1), .val (.int (1 : Int32)), .val (.ref b52), .unset, .unset, .unset] [])) _
          refine own_blk X74 hx bl0_152_4 (own_hb hby bd0_152_4) (pc' := 158) (Ls' := #[.val (.int p1), .val (.int p2), .val (.int p3), .val (.int p4), .val (.int p5), .val (.int p6), .val (.int ((1 : Int32) + (p1 &&& (3 : Int32)))), .val (.int (2 : Int32)), .val (.ref b1), .val (.int (1 : Int32)), .val (.ref b52), .unset, .unset, .unset]) (st' := [(.int ((1 : Int32) + (p1 &&& (3 : Int32)))), (.int (3 : Int32))]) rfl ?_
          refine XS.icmpYes X74.here hx rfl (pc0 := 158) (pc' := 176) rfl (hb hby at_158) rfl (feq hc77).2 (by decide) (by decide) ?_
          show Steps p.tables e below (T74.setTop (mkF m 176 #[.val (.int p1), .val (.int p2), .val (.int p3), .val (.int p4), .val (.int p5), .val (.int p6), .val (.int ((1 : Int32) + (p1 &&& (3 : Int32)))), .val (.int (2 : Int32)), .val (.ref b1), .val (.int (1 : Int32)), .val (.ref b52), .unset, .unset, .unset] [])) _
          refine own_blk X74 hx bl0_176_1 (own_hb hby bd0_176_1) (pc' := 178) (Ls' := #[.val (.int p1), .val (.int p2), .val (.int p3), .val (.int p4), .val (.int p5), .val (.int p6), .val (.int ((1 : Int32) + (p1 &&& (3 : Int32)))), .val (.int (2 : Int32)), .val (.ref b1), .val (.int (1 : Int32)), .val (.ref b52), .unset, .unset, .unset]) (st' := [(.int (1 : Int32))]) rfl ?_
          refine XS.ifNo X74.here hx rfl (hb hby at_178) rfl ((if0 _ _).trans (feq (by decide : ¬ ((1 : Int32) = (0 : Int32)))).1) ?_
          show Steps p.tables e below (T74.setTop (mkF m 181 #[.val (.int p1), .val (.int p2), .val (.int p3), .val (.int p4), .val (.int p5), .val (.int p6), .val (.int ((1 : Int32) + (p1 &&& (3 : Int32)))), .val (.int (2 : Int32)), .val (.ref b1), .val (.int (1 : Int32)), .val (.ref b52), .unset, .unset, .unset] [])) _
          refine own_blk X74 hx bl0_181_4 (own_hb hby bd0_181_4) (pc' := 187) (Ls' := #[.val (.int p1), .val (.int p2), .val (.int p3), .val (.int p4), .val (.int p5), .val (.int p6), .val (.int ((1 : Int32) + (p1 &&& (3 : Int32)))), .val (.int (2 : Int32)), .val (.ref b1), .val (.int (1 : Int32)), .val (.ref b52), .unset, .unset, .unset]) (st' := [(.int ((1 : Int32) + (p1 &&& (3 : Int32)))), (.int (3 : Int32))]) rfl ?_
          refine XS.icmpNo X74.here hx rfl (hb hby at_187) rfl (tlt (own_nelt (own_pn p1 p2 hn) hc77)).2.1 ?_
          show Steps p.tables e below (T74.setTop (mkF m 190 #[.val (.int p1), .val (.int p2), .val (.int p3), .val (.int p4), .val (.int p5), .val (.int p6), .val (.int ((1 : Int32) + (p1 &&& (3 : Int32)))), .val (.int (2 : Int32)), .val (.ref b1), .val (.int (1 : Int32)), .val (.ref b52), .unset, .unset, .unset] [])) _
          refine own_blk X74 hx bl0_190_4 (own_hb hby bd0_190_4) (pc' := 196) (Ls' := #[.val (.int p1), .val (.int p2), .val (.int p3), .val (.int p4), .val (.int p5), .val (.int p6), .val (.int ((1 : Int32) + (p1 &&& (3 : Int32)))), .val (.int (2 : Int32)), .val (.ref b1), .val (.int (1 : Int32)), .val (.ref b52), .unset, .unset, .unset]) (st' := [(.int (3 : Int32)), (.ref b1)]) rfl ?_
          refine X74.caload hx (j := (3 : Int32)) (v := (.int (nar .char (f1 p4)))) Ar87.1 (State.isArrayOf_alike hZ.alike Ar87.2.1) Ar87.2.2 hin87 hat87 (g := (mkF m 196 #[.val (.int p1), .val (.int p2), .val (.int p3), .val (.int p4), .val (.int p5), .val (.int p6), .val (.int ((1 : Int32) + (p1 &&& (3 : Int32)))), .val (.int (2 : Int32)), .val (.ref b1), .val (.int (1 : Int32)), .val (.ref b52), .unset, .unset, .unset] [(.int (3 : Int32)), (.ref b1)])) rfl rfl (hb hby at_196) _ ?_
          show Steps p.tables e below (T74.setTop (mkF m 197 #[.val (.int p1), .val (.int p2), .val (.int p3), .val (.int p4), .val (.int p5), .val (.int p6), .val (.int ((1 : Int32) + (p1 &&& (3 : Int32)))), .val (.int (2 : Int32)), .val (.ref b1), .val (.int (1 : Int32)), .val (.ref b52), .unset, .unset, .unset] [(.int (nar .char (f1 p4)))])) _
          refine own_blk X74 hx bl0_197_1 (own_hb hby bd0_197_1) (pc' := 199) (Ls' := #[.val (.int p1), .val (.int p2), .val (.int p3), .val (.int p4), .val (.int p5), .val (.int p6), .val (.int ((1 : Int32) + (p1 &&& (3 : Int32)))), .val (.int (2 : Int32)), .val (.ref b1), .val (.int (1 : Int32)), .val (.ref b52), .unset, .unset, .unset]) (st' := [(.int (10 : Int32)), (.int (nar .char (f1 p4)))]) rfl ?_
          refine XS.icmpNo X74.here hx rfl (hb hby at_199) rfl (teq hc83).2 ?_
          show Steps p.tables e below (T74.setTop (mkF m 202 #[.val (.int p1), .val (.int p2), .val (.int p3), .val (.int p4), .val (.int p5), .val (.int p6), .val (.int ((1 : Int32) + (p1 &&& (3 : Int32)))), .val (.int (2 : Int32)), .val (.ref b1), .val (.int (1 : Int32)), .val (.ref b52), .unset, .unset, .unset] [])) _
          refine own_blk X74 hx bl0_202_4 (own_hb hby bd0_202_4) (pc' := 208) (Ls' := #[.val (.int p1), .val (.int p2), .val (.int p3), .val (.int p4), .val (.int p5), .val (.int p6), .val (.int ((1 : Int32) + (p1 &&& (3 : Int32)))), .val (.int (2 : Int32)), .val (.ref b1), .val (.int (1 : Int32)), .val (.ref b52), .val (.int (4 : Int32)), .unset, .unset]) (st' := []) rfl ?_
          refine own_blk X74 hx bl0_208_2 (own_hb hby bd0_208_2) (pc' := 211) (Ls' := #[.val (.int p1), .val (.int p2), .val (.int p3), .val (.int p4), .val (.int p5), .val (.int p6), .val (.int ((1 : Int32) + (p1 &&& (3 : Int32)))), .val (.int (2 : Int32)), .val (.ref b1), .val (.int (1 : Int32)), .val (.ref b52), .val (.int (4 : Int32)), .val (.int (2 : Int32)), .unset]) (st' := []) rfl ?_
          refine own_blk X74 hx bl0_211_4 (own_hb hby bd0_211_4) (pc' := 217) (Ls' := #[.val (.int p1), .val (.int p2), .val (.int p3), .val (.int p4), .val (.int p5), .val (.int p6), .val (.int ((1 : Int32) + (p1 &&& (3 : Int32)))), .val (.int (2 : Int32)), .val (.ref b1), .val (.int (1 : Int32)), .val (.ref b52), .val (.int (4 : Int32)), .val (.int (2 : Int32)), .val (.int (4 : Int32))]) (st' := []) rfl ?_
          refine own_blk X74 hx bl0_217_2 (own_hb hby bd0_217_2) (pc' := 237) (Ls' := #[.val (.int p1), .val (.int p2), .val (.int p3), .val (.int p4), .val (.int p5), .val (.int p6), .val (.int ((1 : Int32) + (p1 &&& (3 : Int32)))), .val (.int (2 : Int32)), .val (.ref b1), .val (.int (1 : Int32)), .val (.ref b52), .val (.int (4 : Int32)), .val (.int (2 : Int32)), .val (.int (4 : Int32))]) (st' := [(.ref b52)]) rfl ?_
          refine st88 _ ?_
          show Steps p.tables e below (T88.setTop (mkF m 240 #[.val (.int p1), .val (.int p2), .val (.int p3), .val (.int p4), .val (.int p5), .val (.int p6), .val (.int ((1 : Int32) + (p1 &&& (3 : Int32)))), .val (.int (2 : Int32)), .val (.ref b1), .val (.int (1 : Int32)), .val (.ref b52), .val (.int (4 : Int32)), .val (.int (2 : Int32)), .val (.int (4 : Int32))] [(.int ((2 : Int32) + (2 : Int32)))])) _
          refine own_blk X88 hx bl0_240_1 (own_hb hby bd0_240_1) (pc' := 242) (Ls' := #[.val (.int p1), .val (.int p2), .val (.int p3), .val (.int p4), .val (.int p5), .val (.int p6), .val (.int ((1 : Int32) + (p1 &&& (3 : Int32)))), .val (.int (2 : Int32)), .val (.ref b1), .val (.int (1 : Int32)), .val (.ref b52), .val (.int (4 : Int32)), .val (.int (2 : Int32)), .val (.int (4 : Int32))]) (st' := [(.int (4 : Int32)), (.int ((2 : Int32) + (2 : Int32)))]) rfl ?_
          refine XS.icmpNo X88.here hx rfl (hb hby at_242) rfl (teq (show ((2 : Int32) + (2 : Int32)) = (4 : Int32) from (by decide : (4 : Int32) = (4 : Int32)))).2 ?_
          show Steps p.tables e below (T88.setTop (mkF m 245 #[.val (.int p1), .val (.int p2), .val (.int p3), .val (.int p4), .val (.int p5), .val (.int p6), .val (.int ((1 : Int32) + (p1 &&& (3 : Int32)))), .val (.int (2 : Int32)), .val (.ref b1), .val (.int (1 : Int32)), .val (.ref b52), .val (.int (4 : Int32)), .val (.int (2 : Int32)), .val (.int (4 : Int32))] [])) _
          refine own_blk X88 hx bl0_245_1 (own_hb hby bd0_245_1) (pc' := 247) (Ls' := #[.val (.int p1), .val (.int p2), .val (.int p3), .val (.int p4), .val (.int p5), .val (.int p6), .val (.int ((1 : Int32) + (p1 &&& (3 : Int32)))), .val (.int (2 : Int32)), .val (.ref b1), .val (.int (1 : Int32)), .val (.ref b52), .val (.int (4 : Int32)), .val (.int (2 : Int32)), .val (.int (4 : Int32))]) (st' := [(.ref b52)]) rfl ?_
          refine st89 _ ?_
          show Steps p.tables e below (T89.setTop (mkF m 250 #[.val (.int p1), .val (.int p2), .val (.int p3), .val (.int p4), .val (.int p5), .val (.int p6), .val (.int ((1 : Int32) + (p1 &&& (3 : Int32)))), .val (.int (2 : Int32)), .val (.ref b1), .val (.int (1 : Int32)), .val (.ref b52), .val (.int (4 : Int32)), .val (.int (2 : Int32)), .val (.int (4 : Int32))] [(.int ((1 : Int32) + (1 : Int32)))])) _
          refine own_blk X89 hx bl0_250_1 (own_hb hby bd0_250_1) (pc' := 252) (Ls' := #[.val (.int p1), .val (.int p2), .val (.int p3), .val (.int p4), .val (.int p5), .val (.int p6), .val (.int ((1 : Int32) + (p1 &&& (3 : Int32)))), .val (.int (2 : Int32)), .val (.ref b1), .val (.int (1 : Int32)), .val (.ref b52), .val (.int (4 : Int32)), .val (.int (2 : Int32)), .val (.int (4 : Int32))]) (st' := [(.int (2 : Int32)), (.int ((1 : Int32) + (1 : Int32)))]) rfl ?_
          refine XS.icmpNo X89.here hx rfl (hb hby at_252) rfl (teq (show ((1 : Int32) + (1 : Int32)) = (2 : Int32) from (by decide : (2 : Int32) = (2 : Int32)))).2 ?_
          show Steps p.tables e below (T89.setTop (mkF m 255 #[.val (.int p1), .val (.int p2), .val (.int p3), .val (.int p4), .val (.int p5), .val (.int p6), .val (.int ((1 : Int32) + (p1 &&& (3 : Int32)))), .val (.int (2 : Int32)), .val (.ref b1), .val (.int (1 : Int32)), .val (.ref b52), .val (.int (4 : Int32)), .val (.int (2 : Int32)), .val (.int (4 : Int32))] [])) _
          refine own_blk X89 hx bl0_255_1 (own_hb hby bd0_255_1) (pc' := 257) (Ls' := #[.val (.int p1), .val (.int p2), .val (.int p3), .val (.int p4), .val (.int p5), .val (.int p6), .val (.int ((1 : Int32) + (p1 &&& (3 : Int32)))), .val (.int (2 : Int32)), .val (.ref b1), .val (.int (1 : Int32)), .val (.ref b52), .val (.int (4 : Int32)), .val (.int (2 : Int32)), .val (.int (4 : Int32))]) (st' := [(.ref b52)]) rfl ?_
          refine st90 _ ?_
          show Steps p.tables e below (T90.setTop (mkF m 260 #[.val (.int p1), .val (.int p2), .val (.int p3), .val (.int p4), .val (.int p5), .val (.int p6), .val (.int ((1 : Int32) + (p1 &&& (3 : Int32)))), .val (.int (2 : Int32)), .val (.ref b1), .val (.int (1 : Int32)), .val (.ref b52), .val (.int (4 : Int32)), .val (.int (2 : Int32)), .val (.int (4 : Int32))] [(.int ((2 : Int32) + (2 : Int32)))])) _
          refine own_blk X90 hx bl0_260_1 (own_hb hby bd0_260_1) (pc' := 262) (Ls' := #[.val (.int p1), .val (.int p2), .val (.int p3), .val (.int p4), .val (.int p5), .val (.int p6), .val (.int ((1 : Int32) + (p1 &&& (3 : Int32)))), .val (.int (2 : Int32)), .val (.ref b1), .val (.int (1 : Int32)), .val (.ref b52), .val (.int (4 : Int32)), .val (.int (2 : Int32)), .val (.int (4 : Int32))]) (st' := [(.int (4 : Int32)), (.int ((2 : Int32) + (2 : Int32)))]) rfl ?_
          refine XS.icmpNo X90.here hx rfl (hb hby at_262) rfl (teq (show ((2 : Int32) + (2 : Int32)) = (4 : Int32) from (by decide : (4 : Int32) = (4 : Int32)))).2 ?_
          show Steps p.tables e below (T90.setTop (mkF m 265 #[.val (.int p1), .val (.int p2), .val (.int p3), .val (.int p4), .val (.int p5), .val (.int p6), .val (.int ((1 : Int32) + (p1 &&& (3 : Int32)))), .val (.int (2 : Int32)), .val (.ref b1), .val (.int (1 : Int32)), .val (.ref b52), .val (.int (4 : Int32)), .val (.int (2 : Int32)), .val (.int (4 : Int32))] [])) _
          refine own_blk X90 hx bl0_265_2 (own_hb hby bd0_265_2) (pc' := 270) (Ls' := #[.val (.int p1), .val (.int p2), .val (.int p3), .val (.int p4), .val (.int p5), .val (.int p6), .val (.int ((1 : Int32) + (p1 &&& (3 : Int32)))), .val (.int (2 : Int32)), .val (.ref b1), .val (.int (1 : Int32)), .val (.ref b52), .val (.int (4 : Int32)), .val (.int (2 : Int32)), .val (.int (4 : Int32))]) (st' := [(.int (1 : Int32))]) rfl ?_
          exact retN X90 hx (t := .boolean) Bd.returns (by simp) (hb hby at_270) hr
        · show Q0_2 Z p1 p2 p3 p4 p5 p6 h0 n0 _ T90.heap _
          rw [e90]
          exact ⟨by rw [f0_2, if_neg hc12, if_neg hc77, if_pos hc83], N90⟩
      · subst hv74
        have lFc74_a1_pos : Fld Z T74.heap b52 "com/example/endcon/endcon/yaml/Cursor" "pos" "I" (.int ((2 : Int32) + (1 : Int32))) := by have q := Fc74_a1_pos; rw [f6_a1_pos, if_pos (show (own_at4 (nar .char ((p5 &&& (255 : Int32)).toUInt32.toUInt16.toUInt32.toInt32)) (nar .char ((((p5.toUInt32 >>> ((8 : Int32) &&& 31).toUInt32).toInt32) &&& (255 : Int32)).toUInt32.toUInt16.toUInt32.toInt32)) (nar .char (13 : Int32)) (nar .char (f1 p4)) (2 : Int32)) = (13 : Int32) from (by decide : (nar .char (13 : Int32)) = (13 : Int32))), if_neg (show ¬ (((2 : Int32) + (1 : Int32)) = ((1 : Int32) + (p1 &&& (3 : Int32)))) from hc77), if_pos (show ((2 : Int32) + (1 : Int32)) < ((1 : Int32) + (p1 &&& (3 : Int32))) from (own_nelt (own_pn p1 p2 hn) hc77)), if_neg (show ¬ ((own_at4 (nar .char ((p5 &&& (255 : Int32)).toUInt32.toUInt16.toUInt32.toInt32)) (nar .char ((((p5.toUInt32 >>> ((8 : Int32) &&& 31).toUInt32).toInt32) &&& (255 : Int32)).toUInt32.toUInt16.toUInt32.toInt32)) (nar .char (13 : Int32)) (nar .char (f1 p4)) ((2 : Int32) + (1 : Int32))) = (10 : Int32)) from hc83)] at q; exact q
        have lFc74_a1_line : Fld Z T74.heap b52 "com/example/endcon/endcon/yaml/Cursor" "line" "I" (.int ((1 : Int32) + (1 : Int32))) := by have q := Fc74_a1_line; rw [f6_a1_line, if_pos (show (own_at4 (nar .char ((p5 &&& (255 : Int32)).toUInt32.toUInt16.toUInt32.toInt32)) (nar .char ((((p5.toUInt32 >>> ((8 : Int32) &&& 31).toUInt32).toInt32) &&& (255 : Int32)).toUInt32.toUInt16.toUInt32.toInt32)) (nar .char (13 : Int32)) (nar .char (f1 p4)) (2 : Int32)) = (13 : Int32) from (by decide : (nar .char (13 : Int32)) = (13 : Int32))), if_neg (show ¬ (((2 : Int32) + (1 : Int32)) = ((1 : Int32) + (p1 &&& (3 : Int32)))) from hc77), if_pos (show ((2 : Int32) + (1 : Int32)) < ((1 : Int32) + (p1 &&& (3 : Int32))) from (own_nelt (own_pn p1 p2 hn) hc77)), if_neg (show ¬ ((own_at4 (nar .char ((p5 &&& (255 : Int32)).toUInt32.toUInt16.toUInt32.toInt32)) (nar .char ((((p5.toUInt32 >>> ((8 : Int32) &&& 31).toUInt32).toInt32) &&& (255 : Int32)).toUInt32.toUInt16.toUInt32.toInt32)) (nar .char (13 : Int32)) (nar .char (f1 p4)) ((2 : Int32) + (1 : Int32))) = (10 : Int32)) from hc83)] at q; exact q
        have lFc74_a1_lineStart : Fld Z T74.heap b52 "com/example/endcon/endcon/yaml/Cursor" "lineStart" "I" (.int ((2 : Int32) + (1 : Int32))) := by have q := Fc74_a1_lineStart; rw [f6_a1_lineStart, if_pos (show (own_at4 (nar .char ((p5 &&& (255 : Int32)).toUInt32.toUInt16.toUInt32.toInt32)) (nar .char ((((p5.toUInt32 >>> ((8 : Int32) &&& 31).toUInt32).toInt32) &&& (255 : Int32)).toUInt32.toUInt16.toUInt32.toInt32)) (nar .char (13 : Int32)) (nar .char (f1 p4)) (2 : Int32)) = (13 : Int32) from (by decide : (nar .char (13 : Int32)) = (13 : Int32))), if_neg (show ¬ (((2 : Int32) + (1 : Int32)) = ((1 : Int32) + (p1 &&& (3 : Int32)))) from hc77), if_pos (show ((2 : Int32) + (1 : Int32)) < ((1 : Int32) + (p1 &&& (3 : Int32))) from (own_nelt (own_pn p1 p2 hn) hc77)), if_neg (show ¬ ((own_at4 (nar .char ((p5 &&& (255 : Int32)).toUInt32.toUInt16.toUInt32.toInt32)) (nar .char ((((p5.toUInt32 >>> ((8 : Int32) &&& 31).toUInt32).toInt32) &&& (255 : Int32)).toUInt32.toUInt16.toUInt32.toInt32)) (nar .char (13 : Int32)) (nar .char (f1 p4)) ((2 : Int32) + (1 : Int32))) = (10 : Int32)) from hc83)] at q; exact q
        have zk91 : kk55 ≤ T74.heap.size := Nat.le_trans zk72 K74.1
        have zs92 : n0 ≤ T74.heap.size := Nat.le_trans zs73 K74.1
        have fa93 : Arv Z T74.heap b1 k1 .char (4 : Int32) [(.int (nar .char ((p5 &&& (255 : Int32)).toUInt32.toUInt16.toUInt32.toInt32))), (.int (nar .char ((((p5.toUInt32 >>> ((8 : Int32) &&& 31).toUInt32).toInt32) &&& (255 : Int32)).toUInt32.toUInt16.toUInt32.toInt32))), (.int (nar .char (13 : Int32))), (.int (nar .char (f1 p4)))] (.int (0 : Int32)) := (fa75.keep K74 (ninS ne_b1_b52 nin0))
        obtain ⟨cx94, Ar94, qq94, S94, N94_, H94, G94⟩ := id fa93
        have hin94 : ¬ ((3 : Int32) < 0 ∨ cx94.slots.size ≤ ((3 : Int32)).toNatClampNeg) := inb_of S94 ⟨by decide, by decide⟩
        have hat94 : cx94.slots[((3 : Int32)).toNatClampNeg]? = some (.int (nar .char (f1 p4))) := (H94 ((3 : Int32)).toNatClampNeg (Nat.lt_of_not_le fun w => hin94 (Or.inr w))).trans (congrArg some (rfl))
        obtain ⟨_, T95, Lc95, X95, hQ95, st95⟩ := own_callV X74 hx hZ (y := (⟨"com/example/endcon/endcon/yaml/Cursor", "index", "()I"⟩ : MethodName)) hown (hw _ (List.mem_of_getElem? (i := 57) rfl)) (hw _ (List.mem_of_getElem? (i := 58) rfl)) (hw _ (List.mem_of_getElem? (i := 60) rfl)) (hw _ (List.mem_of_getElem? (i := 59) rfl)) (hw _ (List.mem_of_getElem? (i := 8) rfl)) (hw _ (List.mem_of_getElem? (i := 61) rfl)) (by decide) (W := 0) Ec74_a1 (argsL := []) (rest := []) (rm7 l Z a0 hw [] b52 ((2 : Int32) + (1 : Int32)) T74.heap n0 zs92 Ec74_a1 lFc74_a1_pos) (by decide) (by decide) (c' := 4) (s' := 24) rfl rfl (by decide) (by decide) rfl (g := (mkF m 237 #[.val (.int p1), .val (.int p2), .val (.int p3), .val (.int p4), .val (.int p5), .val (.int p6), .val (.int ((1 : Int32) + (p1 &&& (3 : Int32)))), .val (.int (2 : Int32)), .val (.ref b1), .val (.int (1 : Int32)), .val (.ref b52), .val (.int (3 : Int32)), .val (.int (2 : Int32)), .val (.int (3 : Int32))] [(.ref b52)])) rfl (by rw [hml]; rfl) (lenOf pd_0_5 rfl) rfl (by show 2 * 0 + _ ≤ _; exact Nat.le_of_eq rfl) (hb hby at_237)
        obtain ⟨hv95, N95q, e95⟩ := hQ95
        have N95 := Fr.app N74 N95q
        rw [f7] at hv95
        subst hv95
        obtain ⟨_, T96, Lc96, X96, hQ96, st96⟩ := own_callV X95 hx hZ (y := (⟨"com/example/endcon/endcon/yaml/Cursor", "line", "()I"⟩ : MethodName)) hown (hw _ (List.mem_of_getElem? (i := 62) rfl)) (hw _ (List.mem_of_getElem? (i := 63) rfl)) (hw _ (List.mem_of_getElem? (i := 65) rfl)) (hw _ (List.mem_of_getElem? (i := 64) rfl)) (hw _ (List.mem_of_getElem? (i := 8) rfl)) (hw _ (List.mem_of_getElem? (i := 66) rfl)) (by decide) (W := 0) Ec74_a1 (argsL := []) (rest := []) (rm8 l Z a0 hw [] b52 ((1 : Int32) + (1 : Int32)) T74.heap n0 zs92 Ec74_a1 lFc74_a1_line) (by decide) (by decide) (c' := 4) (s' := 24) rfl rfl (by decide) (by decide) e95 (g := (mkF m 247 #[.val (.int p1), .val (.int p2), .val (.int p3), .val (.int p4), .val (.int p5), .val (.int p6), .val (.int ((1 : Int32) + (p1 &&& (3 : Int32)))), .val (.int (2 : Int32)), .val (.ref b1), .val (.int (1 : Int32)), .val (.ref b52), .val (.int (3 : Int32)), .val (.int (2 : Int32)), .val (.int (3 : Int32))] [(.ref b52)])) rfl (by rw [hml]; rfl) (lenOf pd_0_5 rfl) rfl (by show 2 * 0 + _ ≤ _; exact Nat.le_of_eq rfl) (hb hby at_247)
        obtain ⟨hv96, N96q, e96⟩ := hQ96
        have N96 := Fr.app N95 N96q
        rw [f8] at hv96
        subst hv96
        obtain ⟨_, T97, Lc97, X97, hQ97, st97⟩ := own_callV X96 hx hZ (y := (⟨"com/example/endcon/endcon/yaml/Cursor", "lineStart", "()I"⟩ : MethodName)) hown (hw _ (List.mem_of_getElem? (i := 67) rfl)) (hw _ (List.mem_of_getElem? (i := 68) rfl)) (hw _ (List.mem_of_getElem? (i := 70) rfl)) (hw _ (List.mem_of_getElem? (i := 69) rfl)) (hw _ (List.mem_of_getElem? (i := 8) rfl)) (hw _ (List.mem_of_getElem? (i := 71) rfl)) (by decide) (W := 0) Ec74_a1 (argsL := []) (rest := []) (rm9 l Z a0 hw [] b52 ((2 : Int32) + (1 : Int32)) T74.heap n0 zs92 Ec74_a1 lFc74_a1_lineStart) (by decide) (by decide) (c' := 4) (s' := 24) rfl rfl (by decide) (by decide) e96 (g := (mkF m 257 #[.val (.int p1), .val (.int p2), .val (.int p3), .val (.int p4), .val (.int p5), .val (.int p6), .val (.int ((1 : Int32) + (p1 &&& (3 : Int32)))), .val (.int (2 : Int32)), .val (.ref b1), .val (.int (1 : Int32)), .val (.ref b52), .val (.int (3 : Int32)), .val (.int (2 : Int32)), .val (.int (3 : Int32))] [(.ref b52)])) rfl (by rw [hml]; rfl) (lenOf pd_0_5 rfl) rfl (by show 2 * 0 + _ ≤ _; exact Nat.le_of_eq rfl) (hb hby at_257)
        obtain ⟨hv97, N97q, e97⟩ := hQ97
        have N97 := Fr.app N96 N97q
        rw [f9] at hv97
        subst hv97
        obtain ⟨fs, hr, hrun, hended, hRW⟩ := X97.leaveW (s := s) hS55 (by rw [e97]; exact zk91) (v := some (.int (1 : Int32))) (fun h => by rw [Bd.returns] at h; cases h)
        refine ⟨_, _, pre76 _ ?_, hrun, hended, _, _, rfl, ?_, ⟨_, rfl⟩, hRW.2.1, hRW.2.2.1, hRW.2.2.2.mono (by decide) (by decide)⟩
        · refine st74 _ ?_
          show Steps p.tables e below (T74.setTop (mkF m 147 #[.val (.int p1), .val (.int p2), .val (.int p3), .val (.int p4), .val (.int p5), .val (.int p6), .val (.int ((1 : Int32) + (p1 &&& (3 : Int32)))), .val (.int (2 : Int32)), .val (.ref b1), .val (.int (1 : Int32)), .val (.ref b52), .unset, .unset, .unset] [])) _
          refine own_blk X74 hx bl0_147_1 (own_hb hby bd0_147_1) (pc' := 149) (Ls' := #[.val (.int p1), .val (.int p2), .val (.int p3), .val (.int p4), .val (.int p5), .val (.int p6), .val (.int ((1 : Int32) + (p1 &&& (3 : Int32)))), .val (.int (2 : Int32)), .val (.ref b1), .val (.int (1 : Int32)), .val (.ref b52), .unset, .unset, .unset]) (st' := [(.int (1 : Int32))]) rfl ?_
          refine XS.ifNo X74.here hx rfl (hb hby at_149) rfl ((if0 _ _).trans (feq (by decide : ¬ ((1 : Int32) = (0 : Int32)))).1) ?_
          show Steps p.tables e below (T74.setTop (mkF m 152 #[.val (.int p1), .val (.int p2), .val (.int p3), .val (.int p4), .val (.int p5), .val (.int p6), .val (.int ((1 : Int32) + (p1 &&& (3 : Int32)))), .val (.int (2 : Int32)), .val (.ref b1), .val (.int (1 : Int32)), .val (.ref b52), .unset, .unset, .unset] [])) _
          refine own_blk X74 hx bl0_152_4 (own_hb hby bd0_152_4) (pc' := 158) (Ls' := #[.val (.int p1), .val (.int p2), .val (.int p3), .val (.int p4), .val (.int p5), .val (.int p6), .val (.int ((1 : Int32) + (p1 &&& (3 : Int32)))), .val (.int (2 : Int32)), .val (.ref b1), .val (.int (1 : Int32)), .val (.ref b52), .unset, .unset, .unset]) (st' := [(.int ((1 : Int32) + (p1 &&& (3 : Int32)))), (.int (3 : Int32))]) rfl ?_
          refine XS.icmpYes X74.here hx rfl (pc0 := 158) (pc' := 176) rfl (hb hby at_158) rfl (feq hc77).2 (by decide) (by decide) ?_
          show Steps p.tables e below (T74.setTop (mkF m 176 #[.val (.int p1), .val (.int p2), .val (.int p3), .val (.int p4), .val (.int p5), .val (.int p6), .val (.int ((1 : Int32) + (p1 &&& (3 : Int32)))), .val (.int (2 : Int32)), .val (.ref b1), .val (.int (1 : Int32)), .val (.ref b52), .unset, .unset, .unset] [])) _
          refine own_blk X74 hx bl0_176_1 (own_hb hby bd0_176_1) (pc' := 178) (Ls' := #[.val (.int p1), .val (.int p2), .val (.int p3), .val (.int p4), .val (.int p5), .val (.int p6), .val (.int ((1 : Int32) + (p1 &&& (3 : Int32)))), .val (.int (2 : Int32)), .val (.ref b1), .val (.int (1 : Int32)), .val (.ref b52), .unset, .unset, .unset]) (st' := [(.int (1 : Int32))]) rfl ?_
          refine XS.ifNo X74.here hx rfl (hb hby at_178) rfl ((if0 _ _).trans (feq (by decide : ¬ ((1 : Int32) = (0 : Int32)))).1) ?_
          show Steps p.tables e below (T74.setTop (mkF m 181 #[.val (.int p1), .val (.int p2), .val (.int p3), .val (.int p4), .val (.int p5), .val (.int p6), .val (.int ((1 : Int32) + (p1 &&& (3 : Int32)))), .val (.int (2 : Int32)), .val (.ref b1), .val (.int (1 : Int32)), .val (.ref b52), .unset, .unset, .unset] [])) _
          refine own_blk X74 hx bl0_181_4 (own_hb hby bd0_181_4) (pc' := 187) (Ls' := #[.val (.int p1), .val (.int p2), .val (.int p3), .val (.int p4), .val (.int p5), .val (.int p6), .val (.int ((1 : Int32) + (p1 &&& (3 : Int32)))), .val (.int (2 : Int32)), .val (.ref b1), .val (.int (1 : Int32)), .val (.ref b52), .unset, .unset, .unset]) (st' := [(.int ((1 : Int32) + (p1 &&& (3 : Int32)))), (.int (3 : Int32))]) rfl ?_
          refine XS.icmpNo X74.here hx rfl (hb hby at_187) rfl (tlt (own_nelt (own_pn p1 p2 hn) hc77)).2.1 ?_
          show Steps p.tables e below (T74.setTop (mkF m 190 #[.val (.int p1), .val (.int p2), .val (.int p3), .val (.int p4), .val (.int p5), .val (.int p6), .val (.int ((1 : Int32) + (p1 &&& (3 : Int32)))), .val (.int (2 : Int32)), .val (.ref b1), .val (.int (1 : Int32)), .val (.ref b52), .unset, .unset, .unset] [])) _
          refine own_blk X74 hx bl0_190_4 (own_hb hby bd0_190_4) (pc' := 196) (Ls' := #[.val (.int p1), .val (.int p2), .val (.int p3), .val (.int p4), .val (.int p5), .val (.int p6), .val (.int ((1 : Int32) + (p1 &&& (3 : Int32)))), .val (.int (2 : Int32)), .val (.ref b1), .val (.int (1 : Int32)), .val (.ref b52), .unset, .unset, .unset]) (st' := [(.int (3 : Int32)), (.ref b1)]) rfl ?_
          refine X74.caload hx (j := (3 : Int32)) (v := (.int (nar .char (f1 p4)))) Ar94.1 (State.isArrayOf_alike hZ.alike Ar94.2.1) Ar94.2.2 hin94 hat94 (g := (mkF m 196 #[.val (.int p1), .val (.int p2), .val (.int p3), .val (.int p4), .val (.int p5), .val (.int p6), .val (.int ((1 : Int32) + (p1 &&& (3 : Int32)))), .val (.int (2 : Int32)), .val (.ref b1), .val (.int (1 : Int32)), .val (.ref b52), .unset, .unset, .unset] [(.int (3 : Int32)), (.ref b1)])) rfl rfl (hb hby at_196) _ ?_
          show Steps p.tables e below (T74.setTop (mkF m 197 #[.val (.int p1), .val (.int p2), .val (.int p3), .val (.int p4), .val (.int p5), .val (.int p6), .val (.int ((1 : Int32) + (p1 &&& (3 : Int32)))), .val (.int (2 : Int32)), .val (.ref b1), .val (.int (1 : Int32)), .val (.ref b52), .unset, .unset, .unset] [(.int (nar .char (f1 p4)))])) _
          refine own_blk X74 hx bl0_197_1 (own_hb hby bd0_197_1) (pc' := 199) (Ls' := #[.val (.int p1), .val (.int p2), .val (.int p3), .val (.int p4), .val (.int p5), .val (.int p6), .val (.int ((1 : Int32) + (p1 &&& (3 : Int32)))), .val (.int (2 : Int32)), .val (.ref b1), .val (.int (1 : Int32)), .val (.ref b52), .unset, .unset, .unset]) (st' := [(.int (10 : Int32)), (.int (nar .char (f1 p4)))]) rfl ?_
          refine XS.icmpYes X74.here hx rfl (pc0 := 199) (pc' := 220) rfl (hb hby at_199) rfl (feq hc83).2 (by decide) (by decide) ?_
          show Steps p.tables e below (T74.setTop (mkF m 220 #[.val (.int p1), .val (.int p2), .val (.int p3), .val (.int p4), .val (.int p5), .val (.int p6), .val (.int ((1 : Int32) + (p1 &&& (3 : Int32)))), .val (.int (2 : Int32)), .val (.ref b1), .val (.int (1 : Int32)), .val (.ref b52), .unset, .unset, .unset] [])) _
          refine own_blk X74 hx bl0_220_4 (own_hb hby bd0_220_4) (pc' := 226) (Ls' := #[.val (.int p1), .val (.int p2), .val (.int p3), .val (.int p4), .val (.int p5), .val (.int p6), .val (.int ((1 : Int32) + (p1 &&& (3 : Int32)))), .val (.int (2 : Int32)), .val (.ref b1), .val (.int (1 : Int32)), .val (.ref b52), .val (.int (3 : Int32)), .unset, .unset]) (st' := []) rfl ?_
          refine own_blk X74 hx bl0_226_2 (own_hb hby bd0_226_2) (pc' := 229) (Ls' := #[.val (.int p1), .val (.int p2), .val (.int p3), .val (.int p4), .val (.int p5), .val (.int p6), .val (.int ((1 : Int32) + (p1 &&& (3 : Int32)))), .val (.int (2 : Int32)), .val (.ref b1), .val (.int (1 : Int32)), .val (.ref b52), .val (.int (3 : Int32)), .val (.int (2 : Int32)), .unset]) (st' := []) rfl ?_
          refine own_blk X74 hx bl0_229_4 (own_hb hby bd0_229_4) (pc' := 235) (Ls' := #[.val (.int p1), .val (.int p2), .val (.int p3), .val (.int p4), .val (.int p5), .val (.int p6), .val (.int ((1 : Int32) + (p1 &&& (3 : Int32)))), .val (.int (2 : Int32)), .val (.ref b1), .val (.int (1 : Int32)), .val (.ref b52), .val (.int (3 : Int32)), .val (.int (2 : Int32)), .val (.int (3 : Int32))]) (st' := []) rfl ?_
          refine own_blk X74 hx bl0_235_1 (own_hb hby bd0_235_1) (pc' := 237) (Ls' := #[.val (.int p1), .val (.int p2), .val (.int p3), .val (.int p4), .val (.int p5), .val (.int p6), .val (.int ((1 : Int32) + (p1 &&& (3 : Int32)))), .val (.int (2 : Int32)), .val (.ref b1), .val (.int (1 : Int32)), .val (.ref b52), .val (.int (3 : Int32)), .val (.int (2 : Int32)), .val (.int (3 : Int32))]) (st' := [(.ref b52)]) rfl ?_
          refine st95 _ ?_
          show Steps p.tables e below (T95.setTop (mkF m 240 #[.val (.int p1), .val (.int p2), .val (.int p3), .val (.int p4), .val (.int p5), .val (.int p6), .val (.int ((1 : Int32) + (p1 &&& (3 : Int32)))), .val (.int (2 : Int32)), .val (.ref b1), .val (.int (1 : Int32)), .val (.ref b52), .val (.int (3 : Int32)), .val (.int (2 : Int32)), .val (.int (3 : Int32))] [(.int ((2 : Int32) + (1 : Int32)))])) _
          refine own_blk X95 hx bl0_240_1 (own_hb hby bd0_240_1) (pc' := 242) (Ls' := #[.val (.int p1), .val (.int p2), .val (.int p3), .val (.int p4), .val (.int p5), .val (.int p6), .val (.int ((1 : Int32) + (p1 &&& (3 : Int32)))), .val (.int (2 : Int32)), .val (.ref b1), .val (.int (1 : Int32)), .val (.ref b52), .val (.int (3 : Int32)), .val (.int (2 : Int32)), .val (.int (3 : Int32))]) (st' := [(.int (3 : Int32)), (.int ((2 : Int32) + (1 : Int32)))]) rfl ?_
          refine XS.icmpNo X95.here hx rfl (hb hby at_242) rfl (teq (show ((2 : Int32) + (1 : Int32)) = (3 : Int32) from (by decide : (3 : Int32) = (3 : Int32)))).2 ?_
          show Steps p.tables e below (T95.setTop (mkF m 245 #[.val (.int p1), .val (.int p2), .val (.int p3), .val (.int p4), .val (.int p5), .val (.int p6), .val (.int ((1 : Int32) + (p1 &&& (3 : Int32)))), .val (.int (2 : Int32)), .val (.ref b1), .val (.int (1 : Int32)), .val (.ref b52), .val (.int (3 : Int32)), .val (.int (2 : Int32)), .val (.int (3 : Int32))] [])) _
          refine own_blk X95 hx bl0_245_1 (own_hb hby bd0_245_1) (pc' := 247) (Ls' := #[.val (.int p1), .val (.int p2), .val (.int p3), .val (.int p4), .val (.int p5), .val (.int p6), .val (.int ((1 : Int32) + (p1 &&& (3 : Int32)))), .val (.int (2 : Int32)), .val (.ref b1), .val (.int (1 : Int32)), .val (.ref b52), .val (.int (3 : Int32)), .val (.int (2 : Int32)), .val (.int (3 : Int32))]) (st' := [(.ref b52)]) rfl ?_
          refine st96 _ ?_
          show Steps p.tables e below (T96.setTop (mkF m 250 #[.val (.int p1), .val (.int p2), .val (.int p3), .val (.int p4), .val (.int p5), .val (.int p6), .val (.int ((1 : Int32) + (p1 &&& (3 : Int32)))), .val (.int (2 : Int32)), .val (.ref b1), .val (.int (1 : Int32)), .val (.ref b52), .val (.int (3 : Int32)), .val (.int (2 : Int32)), .val (.int (3 : Int32))] [(.int ((1 : Int32) + (1 : Int32)))])) _
          refine own_blk X96 hx bl0_250_1 (own_hb hby bd0_250_1) (pc' := 252) (Ls' := #[.val (.int p1), .val (.int p2), .val (.int p3), .val (.int p4), .val (.int p5), .val (.int p6), .val (.int ((1 : Int32) + (p1 &&& (3 : Int32)))), .val (.int (2 : Int32)), .val (.ref b1), .val (.int (1 : Int32)), .val (.ref b52), .val (.int (3 : Int32)), .val (.int (2 : Int32)), .val (.int (3 : Int32))]) (st' := [(.int (2 : Int32)), (.int ((1 : Int32) + (1 : Int32)))]) rfl ?_
          refine XS.icmpNo X96.here hx rfl (hb hby at_252) rfl (teq (show ((1 : Int32) + (1 : Int32)) = (2 : Int32) from (by decide : (2 : Int32) = (2 : Int32)))).2 ?_
          show Steps p.tables e below (T96.setTop (mkF m 255 #[.val (.int p1), .val (.int p2), .val (.int p3), .val (.int p4), .val (.int p5), .val (.int p6), .val (.int ((1 : Int32) + (p1 &&& (3 : Int32)))), .val (.int (2 : Int32)), .val (.ref b1), .val (.int (1 : Int32)), .val (.ref b52), .val (.int (3 : Int32)), .val (.int (2 : Int32)), .val (.int (3 : Int32))] [])) _
          refine own_blk X96 hx bl0_255_1 (own_hb hby bd0_255_1) (pc' := 257) (Ls' := #[.val (.int p1), .val (.int p2), .val (.int p3), .val (.int p4), .val (.int p5), .val (.int p6), .val (.int ((1 : Int32) + (p1 &&& (3 : Int32)))), .val (.int (2 : Int32)), .val (.ref b1), .val (.int (1 : Int32)), .val (.ref b52), .val (.int (3 : Int32)), .val (.int (2 : Int32)), .val (.int (3 : Int32))]) (st' := [(.ref b52)]) rfl ?_
          refine st97 _ ?_
          show Steps p.tables e below (T97.setTop (mkF m 260 #[.val (.int p1), .val (.int p2), .val (.int p3), .val (.int p4), .val (.int p5), .val (.int p6), .val (.int ((1 : Int32) + (p1 &&& (3 : Int32)))), .val (.int (2 : Int32)), .val (.ref b1), .val (.int (1 : Int32)), .val (.ref b52), .val (.int (3 : Int32)), .val (.int (2 : Int32)), .val (.int (3 : Int32))] [(.int ((2 : Int32) + (1 : Int32)))])) _
          refine own_blk X97 hx bl0_260_1 (own_hb hby bd0_260_1) (pc' := 262) (Ls' := #[.val (.int p1), .val (.int p2), .val (.int p3), .val (.int p4), .val (.int p5), .val (.int p6), .val (.int ((1 : Int32) + (p1 &&& (3 : Int32)))), .val (.int (2 : Int32)), .val (.ref b1), .val (.int (1 : Int32)), .val (.ref b52), .val (.int (3 : Int32)), .val (.int (2 : Int32)), .val (.int (3 : Int32))]) (st' := [(.int (3 : Int32)), (.int ((2 : Int32) + (1 : Int32)))]) rfl ?_
          refine XS.icmpNo X97.here hx rfl (hb hby at_262) rfl (teq (show ((2 : Int32) + (1 : Int32)) = (3 : Int32) from (by decide : (3 : Int32) = (3 : Int32)))).2 ?_
          show Steps p.tables e below (T97.setTop (mkF m 265 #[.val (.int p1), .val (.int p2), .val (.int p3), .val (.int p4), .val (.int p5), .val (.int p6), .val (.int ((1 : Int32) + (p1 &&& (3 : Int32)))), .val (.int (2 : Int32)), .val (.ref b1), .val (.int (1 : Int32)), .val (.ref b52), .val (.int (3 : Int32)), .val (.int (2 : Int32)), .val (.int (3 : Int32))] [])) _
          refine own_blk X97 hx bl0_265_2 (own_hb hby bd0_265_2) (pc' := 270) (Ls' := #[.val (.int p1), .val (.int p2), .val (.int p3), .val (.int p4), .val (.int p5), .val (.int p6), .val (.int ((1 : Int32) + (p1 &&& (3 : Int32)))), .val (.int (2 : Int32)), .val (.ref b1), .val (.int (1 : Int32)), .val (.ref b52), .val (.int (3 : Int32)), .val (.int (2 : Int32)), .val (.int (3 : Int32))]) (st' := [(.int (1 : Int32))]) rfl ?_
          exact retN X97 hx (t := .boolean) Bd.returns (by simp) (hb hby at_270) hr
        · show Q0_2 Z p1 p2 p3 p4 p5 p6 h0 n0 _ T97.heap _
          rw [e97]
          exact ⟨by rw [f0_2, if_neg hc12, if_neg hc77, if_neg hc83], N97⟩

def f0_3 (p1 : Int32) (p2 : Int32) (p3 : Int32) (p4 : Int32) (p5 : Int32) (p6 : Int32) : Int32 := (if (p3 &&& (1 : Int32)) = (0 : Int32) then (1 : Int32) else (if (4 : Int32) = ((1 : Int32) + (p1 &&& (3 : Int32))) then (1 : Int32) else (1 : Int32)))
def Q0_3 (Z : State) (p1 : Int32) (p2 : Int32) (p3 : Int32) (p4 : Int32) (p5 : Int32) (p6 : Int32) (h0 : Heap) (n0 : Nat) (v : Option Value) (h : Heap) (L : List Loc) : Prop := v = some (.int (f0_3 p1 p2 p3 p4 p5 p6)) ∧ Fr n0 L
set_option maxRecDepth 65536 in
set_option maxHeartbeats 40000000 in
theorem rm0_3 (l : Launch) (Z : State) (a0 : Array Value) (hw : ∀ d ∈ tables_1, d.before a0 Z = true) (ws : List Jvm.Cond) (p1 : Int32) (p2 : Int32) (p3 : Int32) (p4 : Int32) (p5 : Int32) (p6 : Int32) (h0 : Heap) (n0 : Nat) (Z0 : n0 ≤ h0.size) (hn : ((p2 &&& (2147483647 : Int32)) % ((1 : Int32) + (p1 &&& (3 : Int32)))) = (3 : Int32)) :
    MetFree l x (head1 (Jvm.Cond.code x code maxLocals ret :: ws) room_1) (fun a U => a = #[(.int p1), (.int p2), (.int p3), (.int p4), (.int p5), (.int p6)] ∧ Z.Warmed39 U.vm ∧ U.heap = h0) (fun _ _ _ _ _ => True) (fun _ U o U' => ∃ v L, o = .returned v ∧ Q0_3 Z p1 p2 p3 p4 p5 p6 h0 n0 v U'.heap L ∧ ReturnedEndW U o U' L room_1.cells room_1.slots) := by
  refine MetFree.of_bodySF (plainFor_of_name pn_0) hisR ?_
  intro p e s m args below meth c s₁ Bd hml0 hP hK
  obtain ⟨rfl, hZ, hh⟩ := hP
  have hx := Bd.exec
  have hby := Bd.bytes
  have hml : c.maxLocals = 14 := hml0
  have hown : s.vm.findClass "com/example/endcon/endcon/yaml/CursorNewLinePinLaw" = some m.cls := findClass_of_methodNamed Bd.named
  have hnm := (name_of_methodNamed Bd.named Bd.method).1
  have X0 : Stand p l e room_1 s m #[(.int p1), (.int p2), (.int p3), (.int p4), (.int p5), (.int p6)] below meth c s₁ [] 0 0 := Stand.of_body Bd
  have e0 : s₁.heap = h0 := by rw [← hh, Bd.state]; rfl
  have N0 := Fr.nil n0
  have pre0 : ∀ t, Steps p.tables e below (s₁.setTop (mkF m 0 #[.val (.int p1), .val (.int p2), .val (.int p3), .val (.int p4), .val (.int p5), .val (.int p6), .unset, .unset, .unset, .unset, .unset, .unset, .unset, .unset] [])) t → Steps p.tables e below (s₁.setTop (entryFrame m #[(.int p1), (.int p2), (.int p3), (.int p4), (.int p5), (.int p6)] maxLocals)) t := fun t k => castTop (ef_0 m p1 p2 p3 p4 p5 p6) k
  obtain ⟨T1, h1, k1, X1, e1, E1, A1, st1⟩ := newP X0 hx hZ (hw _ (List.mem_of_getElem? (i := 1) rfl)) e0 (g := (mkF m 17 #[.val (.int p1), .val (.int p2), .val (.int p3), .val (.int p4), .val (.int p5), .val (.int p6), .val (.int ((1 : Int32) + (p1 &&& (3 : Int32)))), .val (.int (3 : Int32)), .unset, .unset, .unset, .unset, .unset, .unset] [(.int (4 : Int32))])) rfl (hb hby at_17) rfl (by decide) (cap := 4) (by decide) (by decide) (by decide) (by decide)
  obtain ⟨b1, g1⟩ : ∃ z, z = h0.size := ⟨_, rfl⟩
  rw [← g1] at A1 st1
  have g_b1 : n0 ≤ b1 := Nat.le_trans Z0 (Nat.le_of_eq g1.symm)
  have zs2 : n0 ≤ h1.size := Nat.le_trans Z0 E1.1
  have V_b1 : Arv Z h1 b1 k1 .char (4 : Int32) [(.int (0 : Int32)), (.int (0 : Int32)), (.int (0 : Int32)), (.int (0 : Int32))] (.int (0 : Int32)) := (Arv.new A1 (by decide)).pad (pad_rep [] (.int (0 : Int32)) 4)
  obtain ⟨cx3, Ar3, qq3, S3, N3_, H3, G3⟩ := id V_b1
  have hin3 : ¬ ((0 : Int32) < 0 ∨ cx3.slots.size ≤ ((0 : Int32)).toNatClampNeg) := inb_of S3 ⟨by decide, by decide⟩
  obtain ⟨T3, h3, X3, e3, W3, st3⟩ := stC X1 hx hZ e1 Ar3 (j := (0 : Int32)) hin3 (g := (mkF m 31 #[.val (.int p1), .val (.int p2), .val (.int p3), .val (.int p4), .val (.int p5), .val (.int p6), .val (.int ((1 : Int32) + (p1 &&& (3 : Int32)))), .val (.int (3 : Int32)), .val (.ref b1), .unset, .unset, .unset, .unset, .unset] [(.int ((p5 &&& (255 : Int32)).toUInt32.toUInt16.toUInt32.toInt32)), (.int (0 : Int32)), (.ref b1)])) rfl rfl (hb hby at_31)
  have V3 : Arv Z h3 b1 k1 .char (4 : Int32) [(.int (nar .char ((p5 &&& (255 : Int32)).toUInt32.toUInt16.toUInt32.toInt32))), (.int (0 : Int32)), (.int (0 : Int32)), (.int (0 : Int32))] (.int (0 : Int32)) := Arv.set Ar3 qq3 S3 N3_ H3 G3 (fits_nar_char _) W3 0 rfl (Nat.le_of_ble_eq_true rfl)
  have zs4 : n0 ≤ h3.size := Nat.le_trans zs2 (Keep.of_wr W3).1
  have N3 := Fr.snoc X3 N0 g_b1
  obtain ⟨cx5, Ar5, qq5, S5, N5_, H5, G5⟩ := id V3
  have hin5 : ¬ ((1 : Int32) < 0 ∨ cx5.slots.size ≤ ((1 : Int32)).toNatClampNeg) := inb_of S5 ⟨by decide, by decide⟩
  obtain ⟨T5, h5, X5, e5, W5, st5⟩ := stC X3 hx hZ e3 Ar5 (j := (1 : Int32)) hin5 (g := (mkF m 45 #[.val (.int p1), .val (.int p2), .val (.int p3), .val (.int p4), .val (.int p5), .val (.int p6), .val (.int ((1 : Int32) + (p1 &&& (3 : Int32)))), .val (.int (3 : Int32)), .val (.ref b1), .unset, .unset, .unset, .unset, .unset] [(.int ((((p5.toUInt32 >>> ((8 : Int32) &&& 31).toUInt32).toInt32) &&& (255 : Int32)).toUInt32.toUInt16.toUInt32.toInt32)), (.int (1 : Int32)), (.ref b1)])) rfl rfl (hb hby at_45)
  have V5 : Arv Z h5 b1 k1 .char (4 : Int32) [(.int (nar .char ((p5 &&& (255 : Int32)).toUInt32.toUInt16.toUInt32.toInt32))), (.int (nar .char ((((p5.toUInt32 >>> ((8 : Int32) &&& 31).toUInt32).toInt32) &&& (255 : Int32)).toUInt32.toUInt16.toUInt32.toInt32))), (.int (0 : Int32)), (.int (0 : Int32))] (.int (0 : Int32)) := Arv.set Ar5 qq5 S5 N5_ H5 G5 (fits_nar_char _) W5 1 rfl (Nat.le_of_ble_eq_true rfl)
  have zs6 : n0 ≤ h5.size := Nat.le_trans zs4 (Keep.of_wr W5).1
  have N5 := Fr.snoc X5 N3 g_b1
  obtain ⟨cx7, Ar7, qq7, S7, N7_, H7, G7⟩ := id V5
  have hin7 : ¬ ((2 : Int32) < 0 ∨ cx7.slots.size ≤ ((2 : Int32)).toNatClampNeg) := inb_of S7 ⟨by decide, by decide⟩
  obtain ⟨T7, h7, X7, e7, W7, st7⟩ := stC X5 hx hZ e5 Ar7 (j := (2 : Int32)) hin7 (g := (mkF m 56 #[.val (.int p1), .val (.int p2), .val (.int p3), .val (.int p4), .val (.int p5), .val (.int p6), .val (.int ((1 : Int32) + (p1 &&& (3 : Int32)))), .val (.int (3 : Int32)), .val (.ref b1), .unset, .unset, .unset, .unset, .unset] [(.int ((p6 &&& (255 : Int32)).toUInt32.toUInt16.toUInt32.toInt32)), (.int (2 : Int32)), (.ref b1)])) rfl rfl (hb hby at_56)
  have V7 : Arv Z h7 b1 k1 .char (4 : Int32) [(.int (nar .char ((p5 &&& (255 : Int32)).toUInt32.toUInt16.toUInt32.toInt32))), (.int (nar .char ((((p5.toUInt32 >>> ((8 : Int32) &&& 31).toUInt32).toInt32) &&& (255 : Int32)).toUInt32.toUInt16.toUInt32.toInt32))), (.int (nar .char ((p6 &&& (255 : Int32)).toUInt32.toUInt16.toUInt32.toInt32))), (.int (0 : Int32))] (.int (0 : Int32)) := Arv.set Ar7 qq7 S7 N7_ H7 G7 (fits_nar_char _) W7 2 rfl (Nat.le_of_ble_eq_true rfl)
  have zs8 : n0 ≤ h7.size := Nat.le_trans zs6 (Keep.of_wr W7).1
  have N7 := Fr.snoc X7 N5 g_b1
  obtain ⟨cx9, Ar9, qq9, S9, N9_, H9, G9⟩ := id V7
  have hin9 : ¬ ((3 : Int32) < 0 ∨ cx9.slots.size ≤ ((3 : Int32)).toNatClampNeg) := inb_of S9 ⟨by decide, by decide⟩
  obtain ⟨T9, h9, X9, e9, W9, st9⟩ := stC X7 hx hZ e7 Ar9 (j := (3 : Int32)) hin9 (g := (mkF m 70 #[.val (.int p1), .val (.int p2), .val (.int p3), .val (.int p4), .val (.int p5), .val (.int p6), .val (.int ((1 : Int32) + (p1 &&& (3 : Int32)))), .val (.int (3 : Int32)), .val (.ref b1), .unset, .unset, .unset, .unset, .unset] [(.int ((((p6.toUInt32 >>> ((8 : Int32) &&& 31).toUInt32).toInt32) &&& (255 : Int32)).toUInt32.toUInt16.toUInt32.toInt32)), (.int (3 : Int32)), (.ref b1)])) rfl rfl (hb hby at_70)
  have V9 : Arv Z h9 b1 k1 .char (4 : Int32) [(.int (nar .char ((p5 &&& (255 : Int32)).toUInt32.toUInt16.toUInt32.toInt32))), (.int (nar .char ((((p5.toUInt32 >>> ((8 : Int32) &&& 31).toUInt32).toInt32) &&& (255 : Int32)).toUInt32.toUInt16.toUInt32.toInt32))), (.int (nar .char ((p6 &&& (255 : Int32)).toUInt32.toUInt16.toUInt32.toInt32))), (.int (nar .char ((((p6.toUInt32 >>> ((8 : Int32) &&& 31).toUInt32).toInt32) &&& (255 : Int32)).toUInt32.toUInt16.toUInt32.toInt32)))] (.int (0 : Int32)) := Arv.set Ar9 qq9 S9 N9_ H9 G9 (fits_nar_char _) W9 3 rfl (Nat.le_of_ble_eq_true rfl)
  have zs10 : n0 ≤ h9.size := Nat.le_trans zs8 (Keep.of_wr W9).1
  have N9 := Fr.snoc X9 N7 g_b1
  have pre11 : ∀ t, Steps p.tables e below (T9.setTop (mkF m 74 #[.val (.int p1), .val (.int p2), .val (.int p3), .val (.int p4), .val (.int p5), .val (.int p6), .val (.int ((1 : Int32) + (p1 &&& (3 : Int32)))), .val (.int (3 : Int32)), .val (.ref b1), .unset, .unset, .unset, .unset, .unset] [(.int (p3 &&& (1 : Int32)))])) t → Steps p.tables e below (s₁.setTop (entryFrame m #[(.int p1), (.int p2), (.int p3), (.int p4), (.int p5), (.int p6)] maxLocals)) t := fun t kt => by
    refine pre0 _ ?_
    show Steps p.tables e below (s₁.setTop (mkF m 0 #[.val (.int p1), .val (.int p2), .val (.int p3), .val (.int p4), .val (.int p5), .val (.int p6), .unset, .unset, .unset, .unset, .unset, .unset, .unset, .unset] [])) _
    refine own_blk X0 hx bl0_0_6 (own_hb hby bd0_0_6) (pc' := 7) (Ls' := #[.val (.int p1), .val (.int p2), .val (.int p3), .val (.int p4), .val (.int p5), .val (.int p6), .val (.int ((1 : Int32) + (p1 &&& (3 : Int32)))), .unset, .unset, .unset, .unset, .unset, .unset, .unset]) (st' := []) rfl ?_
    refine own_blk X0 hx bl0_7_1 (own_hb hby bd0_7_1) (pc' := 8) (Ls' := #[.val (.int p1), .val (.int p2), .val (.int p3), .val (.int p4), .val (.int p5), .val (.int p6), .val (.int ((1 : Int32) + (p1 &&& (3 : Int32)))), .unset, .unset, .unset, .unset, .unset, .unset, .unset]) (st' := [(.int p2)]) rfl ?_
    refine X0.ldcInt hx hown (mvT hZ (hw _ (List.mem_of_getElem? (i := 0) rfl))) (g := (mkF m 8 #[.val (.int p1), .val (.int p2), .val (.int p3), .val (.int p4), .val (.int p5), .val (.int p6), .val (.int ((1 : Int32) + (p1 &&& (3 : Int32)))), .unset, .unset, .unset, .unset, .unset, .unset, .unset] [(.int p2)])) rfl (hb hby at_8) _ ?_
    show Steps p.tables e below (s₁.setTop (mkF m 10 #[.val (.int p1), .val (.int p2), .val (.int p3), .val (.int p4), .val (.int p5), .val (.int p6), .val (.int ((1 : Int32) + (p1 &&& (3 : Int32)))), .unset, .unset, .unset, .unset, .unset, .unset, .unset] [(.int (2147483647 : Int32)), (.int p2)])) _
    refine own_blk X0 hx bl0_10_2 (own_hb hby bd0_10_2) (pc' := 13) (Ls' := #[.val (.int p1), .val (.int p2), .val (.int p3), .val (.int p4), .val (.int p5), .val (.int p6), .val (.int ((1 : Int32) + (p1 &&& (3 : Int32)))), .unset, .unset, .unset, .unset, .unset, .unset, .unset]) (st' := [(.int ((1 : Int32) + (p1 &&& (3 : Int32)))), (.int (p2 &&& (2147483647 : Int32)))]) rfl ?_
    refine iremM X0 hx rfl (hb hby at_13) rfl (own_n0 p1) ?_
    show Steps p.tables e below (s₁.setTop (mkF m 14 #[.val (.int p1), .val (.int p2), .val (.int p3), .val (.int p4), .val (.int p5), .val (.int p6), .val (.int ((1 : Int32) + (p1 &&& (3 : Int32)))), .unset, .unset, .unset, .unset, .unset, .unset, .unset] [(.int ((p2 &&& (2147483647 : Int32)) % ((1 : Int32) + (p1 &&& (3 : Int32)))))])) _
    rw [hn]
    show Steps p.tables e below (s₁.setTop (mkF m 14 #[.val (.int p1), .val (.int p2), .val (.int p3), .val (.int p4), .val (.int p5), .val (.int p6), .val (.int ((1 : Int32) + (p1 &&& (3 : Int32)))), .unset, .unset, .unset, .unset, .unset, .unset, .unset] [(.int (3 : Int32))])) _
    refine own_blk X0 hx bl0_14_1 (own_hb hby bd0_14_1) (pc' := 16) (Ls' := #[.val (.int p1), .val (.int p2), .val (.int p3), .val (.int p4), .val (.int p5), .val (.int p6), .val (.int ((1 : Int32) + (p1 &&& (3 : Int32)))), .val (.int (3 : Int32)), .unset, .unset, .unset, .unset, .unset, .unset]) (st' := []) rfl ?_
    refine own_blk X0 hx bl0_16_1 (own_hb hby bd0_16_1) (pc' := 17) (Ls' := #[.val (.int p1), .val (.int p2), .val (.int p3), .val (.int p4), .val (.int p5), .val (.int p6), .val (.int ((1 : Int32) + (p1 &&& (3 : Int32)))), .val (.int (3 : Int32)), .unset, .unset, .unset, .unset, .unset, .unset]) (st' := [(.int (4 : Int32))]) rfl ?_
    refine st1 _ ?_
    show Steps p.tables e below (T1.setTop (mkF m 19 #[.val (.int p1), .val (.int p2), .val (.int p3), .val (.int p4), .val (.int p5), .val (.int p6), .val (.int ((1 : Int32) + (p1 &&& (3 : Int32)))), .val (.int (3 : Int32)), .unset, .unset, .unset, .unset, .unset, .unset] [(.ref b1)])) _
    refine own_blk X1 hx bl0_19_1 (own_hb hby bd0_19_1) (pc' := 21) (Ls' := #[.val (.int p1), .val (.int p2), .val (.int p3), .val (.int p4), .val (.int p5), .val (.int p6), .val (.int ((1 : Int32) + (p1 &&& (3 : Int32)))), .val (.int (3 : Int32)), .val (.ref b1), .unset, .unset, .unset, .unset, .unset]) (st' := []) rfl ?_
    refine own_blk X1 hx bl0_21_6 (own_hb hby bd0_21_6) (pc' := 31) (Ls' := #[.val (.int p1), .val (.int p2), .val (.int p3), .val (.int p4), .val (.int p5), .val (.int p6), .val (.int ((1 : Int32) + (p1 &&& (3 : Int32)))), .val (.int (3 : Int32)), .val (.ref b1), .unset, .unset, .unset, .unset, .unset]) (st' := [(.int ((p5 &&& (255 : Int32)).toUInt32.toUInt16.toUInt32.toInt32)), (.int (0 : Int32)), (.ref b1)]) rfl ?_
    refine st3 _ ?_
    show Steps p.tables e below (T3.setTop (mkF m 32 #[.val (.int p1), .val (.int p2), .val (.int p3), .val (.int p4), .val (.int p5), .val (.int p6), .val (.int ((1 : Int32) + (p1 &&& (3 : Int32)))), .val (.int (3 : Int32)), .val (.ref b1), .unset, .unset, .unset, .unset, .unset] [])) _
    refine own_blk X3 hx bl0_32_8 (own_hb hby bd0_32_8) (pc' := 45) (Ls' := #[.val (.int p1), .val (.int p2), .val (.int p3), .val (.int p4), .val (.int p5), .val (.int p6), .val (.int ((1 : Int32) + (p1 &&& (3 : Int32)))), .val (.int (3 : Int32)), .val (.ref b1), .unset, .unset, .unset, .unset, .unset]) (st' := [(.int ((((p5.toUInt32 >>> ((8 : Int32) &&& 31).toUInt32).toInt32) &&& (255 : Int32)).toUInt32.toUInt16.toUInt32.toInt32)), (.int (1 : Int32)), (.ref b1)]) rfl ?_
    refine st5 _ ?_
    show Steps p.tables e below (T5.setTop (mkF m 46 #[.val (.int p1), .val (.int p2), .val (.int p3), .val (.int p4), .val (.int p5), .val (.int p6), .val (.int ((1 : Int32) + (p1 &&& (3 : Int32)))), .val (.int (3 : Int32)), .val (.ref b1), .unset, .unset, .unset, .unset, .unset] [])) _
    refine own_blk X5 hx bl0_46_6 (own_hb hby bd0_46_6) (pc' := 56) (Ls' := #[.val (.int p1), .val (.int p2), .val (.int p3), .val (.int p4), .val (.int p5), .val (.int p6), .val (.int ((1 : Int32) + (p1 &&& (3 : Int32)))), .val (.int (3 : Int32)), .val (.ref b1), .unset, .unset, .unset, .unset, .unset]) (st' := [(.int ((p6 &&& (255 : Int32)).toUInt32.toUInt16.toUInt32.toInt32)), (.int (2 : Int32)), (.ref b1)]) rfl ?_
    refine st7 _ ?_
    show Steps p.tables e below (T7.setTop (mkF m 57 #[.val (.int p1), .val (.int p2), .val (.int p3), .val (.int p4), .val (.int p5), .val (.int p6), .val (.int ((1 : Int32) + (p1 &&& (3 : Int32)))), .val (.int (3 : Int32)), .val (.ref b1), .unset, .unset, .unset, .unset, .unset] [])) _
    refine own_blk X7 hx bl0_57_8 (own_hb hby bd0_57_8) (pc' := 70) (Ls' := #[.val (.int p1), .val (.int p2), .val (.int p3), .val (.int p4), .val (.int p5), .val (.int p6), .val (.int ((1 : Int32) + (p1 &&& (3 : Int32)))), .val (.int (3 : Int32)), .val (.ref b1), .unset, .unset, .unset, .unset, .unset]) (st' := [(.int ((((p6.toUInt32 >>> ((8 : Int32) &&& 31).toUInt32).toInt32) &&& (255 : Int32)).toUInt32.toUInt16.toUInt32.toInt32)), (.int (3 : Int32)), (.ref b1)]) rfl ?_
    refine st9 _ ?_
    show Steps p.tables e below (T9.setTop (mkF m 71 #[.val (.int p1), .val (.int p2), .val (.int p3), .val (.int p4), .val (.int p5), .val (.int p6), .val (.int ((1 : Int32) + (p1 &&& (3 : Int32)))), .val (.int (3 : Int32)), .val (.ref b1), .unset, .unset, .unset, .unset, .unset] [])) _
    refine own_blk X9 hx bl0_71_3 (own_hb hby bd0_71_3) (pc' := 74) (Ls' := #[.val (.int p1), .val (.int p2), .val (.int p3), .val (.int p4), .val (.int p5), .val (.int p6), .val (.int ((1 : Int32) + (p1 &&& (3 : Int32)))), .val (.int (3 : Int32)), .val (.ref b1), .unset, .unset, .unset, .unset, .unset]) (st' := [(.int (p3 &&& (1 : Int32)))]) rfl ?_
    exact kt
  by_cases hc12 : (p3 &&& (1 : Int32)) = (0 : Int32)
  · obtain ⟨cx13, Ar13, qq13, S13, N13_, H13, G13⟩ := id V9
    have hin13 : ¬ ((3 : Int32) < 0 ∨ cx13.slots.size ≤ ((3 : Int32)).toNatClampNeg) := inb_of S13 ⟨by decide, by decide⟩
    obtain ⟨T13, h13, X13, e13, W13, st13⟩ := stC X9 hx hZ e9 Ar13 (j := (3 : Int32)) hin13 (g := (mkF m 100 #[.val (.int p1), .val (.int p2), .val (.int p3), .val (.int p4), .val (.int p5), .val (.int p6), .val (.int ((1 : Int32) + (p1 &&& (3 : Int32)))), .val (.int (3 : Int32)), .val (.ref b1), .val (.int (0 : Int32)), .unset, .unset, .unset, .unset] [(.int (10 : Int32)), (.int (3 : Int32)), (.ref b1)])) rfl rfl (hb hby at_100)
    have V13 : Arv Z h13 b1 k1 .char (4 : Int32) [(.int (nar .char ((p5 &&& (255 : Int32)).toUInt32.toUInt16.toUInt32.toInt32))), (.int (nar .char ((((p5.toUInt32 >>> ((8 : Int32) &&& 31).toUInt32).toInt32) &&& (255 : Int32)).toUInt32.toUInt16.toUInt32.toInt32))), (.int (nar .char ((p6 &&& (255 : Int32)).toUInt32.toUInt16.toUInt32.toInt32))), (.int (nar .char (10 : Int32)))] (.int (0 : Int32)) := Arv.set Ar13 qq13 S13 N13_ H13 G13 (fits_nar_char _) W13 3 rfl (Nat.le_of_ble_eq_true rfl)
    have zs14 : n0 ≤ h13.size := Nat.le_trans zs10 (Keep.of_wr W13).1
    have N13 := Fr.snoc X13 N9 g_b1
    obtain ⟨T15, h15, X15, e15, E15, A15, D15, -, st15⟩ := newO X13 hx hZ hown (hw _ (List.mem_of_getElem? (i := 6) rfl)) (hw _ (List.mem_of_getElem? (i := 7) rfl)) (hw _ (List.mem_of_getElem? (i := 8) rfl)) e13 (g := (mkF m 120 #[.val (.int p1), .val (.int p2), .val (.int p3), .val (.int p4), .val (.int p5), .val (.int p6), .val (.int ((1 : Int32) + (p1 &&& (3 : Int32)))), .val (.int (3 : Int32)), .val (.ref b1), .val (.int (0 : Int32)), .unset, .unset, .unset, .unset] [])) rfl (hb hby at_120) (by decide) (by decide)
    obtain ⟨b15, g15⟩ : ∃ z, z = h13.size := ⟨_, rfl⟩
    rw [← g15] at A15 D15 st15
    have ne_b1_b15 : b1 ≠ b15 := Nat.ne_of_lt (Nat.lt_of_lt_of_le V13.lt (Nat.le_of_eq g15.symm))
    have g_b15 : n0 ≤ b15 := Nat.le_trans zs14 (Nat.le_of_eq g15.symm)
    have zs16 : n0 ≤ h15.size := Nat.le_trans zs14 E15.1
    have F_line_b15 : Fld Z h15 b15 "com/example/endcon/endcon/yaml/Cursor" "line" "I" (.int (0 : Int32)) := D15 (Or.inl (hw _ (List.mem_of_getElem? (i := 24) rfl))) (ty := .int) (by decide)
    have F_blankLinesFrom_b15 : Fld Z h15 b15 "com/example/endcon/endcon/yaml/Cursor" "blankLinesFrom" "I" (.int (0 : Int32)) := D15 (Or.inl (hw _ (List.mem_of_getElem? (i := 26) rfl))) (ty := .int) (by decide)
    have F_countedIndex_b15 : Fld Z h15 b15 "com/example/endcon/endcon/yaml/Cursor" "countedIndex" "I" (.int (0 : Int32)) := D15 (Or.inl (hw _ (List.mem_of_getElem? (i := 28) rfl))) (ty := .int) (by decide)
    have F_file_b15 : Fld Z h15 b15 "com/example/endcon/endcon/yaml/Cursor" "file" "Ljava/lang/String;" .null := D15 (Or.inr (hw _ (List.mem_of_getElem? (i := 30) rfl))) (ty := (.object "java/lang/String")) (by decide)
    have F_text_b15 : Fld Z h15 b15 "com/example/endcon/endcon/yaml/Cursor" "text" "[C" .null := D15 (Or.inl (hw _ (List.mem_of_getElem? (i := 32) rfl))) (ty := (.array .char)) (by decide)
    have F_end_b15 : Fld Z h15 b15 "com/example/endcon/endcon/yaml/Cursor" "end" "I" (.int (0 : Int32)) := D15 (Or.inr (hw _ (List.mem_of_getElem? (i := 34) rfl))) (ty := .int) (by decide)
    have F_hasSurrogates_b15 : Fld Z h15 b15 "com/example/endcon/endcon/yaml/Cursor" "hasSurrogates" "Z" (.int (0 : Int32)) := D15 (Or.inr (hw _ (List.mem_of_getElem? (i := 41) rfl))) (ty := .boolean) (by decide)
    have F_pos_b15 : Fld Z h15 b15 "com/example/endcon/endcon/yaml/Cursor" "pos" "I" (.int (0 : Int32)) := D15 (Or.inl (hw _ (List.mem_of_getElem? (i := 49) rfl))) (ty := .int) (by decide)
    have F_lineStart_b15 : Fld Z h15 b15 "com/example/endcon/endcon/yaml/Cursor" "lineStart" "I" (.int (0 : Int32)) := D15 (Or.inl (hw _ (List.mem_of_getElem? (i := 56) rfl))) (ty := .int) (by decide)
    have pre17 : ∀ t, Steps p.tables e below (T15.setTop (mkF m 124 #[.val (.int p1), .val (.int p2), .val (.int p3), .val (.int p4), .val (.int p5), .val (.int p6), .val (.int ((1 : Int32) + (p1 &&& (3 : Int32)))), .val (.int (3 : Int32)), .val (.ref b1), .val (.int (0 : Int32)), .unset, .unset, .unset, .unset] [(.ref b15), (.ref b15)])) t → Steps p.tables e below (s₁.setTop (entryFrame m #[(.int p1), (.int p2), (.int p3), (.int p4), (.int p5), (.int p6)] maxLocals)) t := fun t kt => by
      refine pre11 _ ?_
      show Steps p.tables e below (T9.setTop (mkF m 74 #[.val (.int p1), .val (.int p2), .val (.int p3), .val (.int p4), .val (.int p5), .val (.int p6), .val (.int ((1 : Int32) + (p1 &&& (3 : Int32)))), .val (.int (3 : Int32)), .val (.ref b1), .unset, .unset, .unset, .unset, .unset] [(.int (p3 &&& (1 : Int32)))])) _
      refine XS.ifYes X9.here hx rfl (pc0 := 74) (pc' := 81) rfl (hb hby at_74) rfl ((if0 _ _).trans (teq hc12).1) (by decide) (by decide) ?_
      show Steps p.tables e below (T9.setTop (mkF m 81 #[.val (.int p1), .val (.int p2), .val (.int p3), .val (.int p4), .val (.int p5), .val (.int p6), .val (.int ((1 : Int32) + (p1 &&& (3 : Int32)))), .val (.int (3 : Int32)), .val (.ref b1), .unset, .unset, .unset, .unset, .unset] [])) _
      refine own_blk X9 hx bl0_81_2 (own_hb hby bd0_81_2) (pc' := 84) (Ls' := #[.val (.int p1), .val (.int p2), .val (.int p3), .val (.int p4), .val (.int p5), .val (.int p6), .val (.int ((1 : Int32) + (p1 &&& (3 : Int32)))), .val (.int (3 : Int32)), .val (.ref b1), .val (.int (0 : Int32)), .unset, .unset, .unset, .unset]) (st' := []) rfl ?_
      refine own_blk X9 hx bl0_84_3 (own_hb hby bd0_84_3) (pc' := 90) (Ls' := #[.val (.int p1), .val (.int p2), .val (.int p3), .val (.int p4), .val (.int p5), .val (.int p6), .val (.int ((1 : Int32) + (p1 &&& (3 : Int32)))), .val (.int (3 : Int32)), .val (.ref b1), .val (.int (0 : Int32)), .unset, .unset, .unset, .unset]) (st' := [(.int (0 : Int32)), (.int (3 : Int32)), (.ref b1)]) rfl ?_
      refine XS.ifYes X9.here hx rfl (pc0 := 90) (pc' := 98) rfl (hb hby at_90) rfl ((if0 _ _).trans (teq (by decide : (0 : Int32) = (0 : Int32))).1) (by decide) (by decide) ?_
      show Steps p.tables e below (T9.setTop (mkF m 98 #[.val (.int p1), .val (.int p2), .val (.int p3), .val (.int p4), .val (.int p5), .val (.int p6), .val (.int ((1 : Int32) + (p1 &&& (3 : Int32)))), .val (.int (3 : Int32)), .val (.ref b1), .val (.int (0 : Int32)), .unset, .unset, .unset, .unset] [(.int (3 : Int32)), (.ref b1)])) _
      refine own_blk X9 hx bl0_98_1 (own_hb hby bd0_98_1) (pc' := 100) (Ls' := #[.val (.int p1), .val (.int p2), .val (.int p3), .val (.int p4), .val (.int p5), .val (.int p6), .val (.int ((1 : Int32) + (p1 &&& (3 : Int32)))), .val (.int (3 : Int32)), .val (.ref b1), .val (.int (0 : Int32)), .unset, .unset, .unset, .unset]) (st' := [(.int (10 : Int32)), (.int (3 : Int32)), (.ref b1)]) rfl ?_
      refine st13 _ ?_
      show Steps p.tables e below (T13.setTop (mkF m 101 #[.val (.int p1), .val (.int p2), .val (.int p3), .val (.int p4), .val (.int p5), .val (.int p6), .val (.int ((1 : Int32) + (p1 &&& (3 : Int32)))), .val (.int (3 : Int32)), .val (.ref b1), .val (.int (0 : Int32)), .unset, .unset, .unset, .unset] [])) _
      refine own_blk X13 hx bl0_101_4 (own_hb hby bd0_101_4) (pc' := 106) (Ls' := #[.val (.int p1), .val (.int p2), .val (.int p3), .val (.int p4), .val (.int p5), .val (.int p6), .val (.int ((1 : Int32) + (p1 &&& (3 : Int32)))), .val (.int (3 : Int32)), .val (.ref b1), .val (.int (0 : Int32)), .unset, .unset, .unset, .unset]) (st' := [(.int (4 : Int32)), (.int (4 : Int32))]) rfl ?_
      refine XS.icmpYes X13.here hx rfl (pc0 := 106) (pc' := 120) rfl (hb hby at_106) rfl (flt (by decide : ¬ ((4 : Int32) < (4 : Int32)))).2.1 (by decide) (by decide) ?_
      show Steps p.tables e below (T13.setTop (mkF m 120 #[.val (.int p1), .val (.int p2), .val (.int p3), .val (.int p4), .val (.int p5), .val (.int p6), .val (.int ((1 : Int32) + (p1 &&& (3 : Int32)))), .val (.int (3 : Int32)), .val (.ref b1), .val (.int (0 : Int32)), .unset, .unset, .unset, .unset] [])) _
      refine st15 _ ?_
      show Steps p.tables e below (T15.setTop (mkF m 123 #[.val (.int p1), .val (.int p2), .val (.int p3), .val (.int p4), .val (.int p5), .val (.int p6), .val (.int ((1 : Int32) + (p1 &&& (3 : Int32)))), .val (.int (3 : Int32)), .val (.ref b1), .val (.int (0 : Int32)), .unset, .unset, .unset, .unset] [(.ref b15)])) _
      refine own_blk X15 hx bl0_123_1 (own_hb hby bd0_123_1) (pc' := 124) (Ls' := #[.val (.int p1), .val (.int p2), .val (.int p3), .val (.int p4), .val (.int p5), .val (.int p6), .val (.int ((1 : Int32) + (p1 &&& (3 : Int32)))), .val (.int (3 : Int32)), .val (.ref b1), .val (.int (0 : Int32)), .unset, .unset, .unset, .unset]) (st' := [(.ref b15), (.ref b15)]) rfl ?_
      exact kt
    have hS18a : s.Since s.vm h15.size := (State.WarmedH.refl s).since _
    obtain ⟨sa18, T18, h18, kk18, X18, e18, E18, hS18, hkk18, hZ, hown, st18⟩ := ldcS (s := s) (vm0 := s.vm) X15 hx hZ hown (hw _ (List.mem_of_getElem? (i := 9) rfl)) (own_ws hw) e15 hS18a (Nat.le_refl _) (g := (mkF m 124 #[.val (.int p1), .val (.int p2), .val (.int p3), .val (.int p4), .val (.int p5), .val (.int p6), .val (.int ((1 : Int32) + (p1 &&& (3 : Int32)))), .val (.int (3 : Int32)), .val (.ref b1), .val (.int (0 : Int32)), .unset, .unset, .unset, .unset] [(.ref b15), (.ref b15)])) rfl (hb hby at_124) (n := 4) (by decide) (by decide) (by decide) (by decide)
    have zs19 : n0 ≤ h18.size := Nat.le_trans zs16 E18.1
    have fa21 : Exa Z h18 b15 "com/example/endcon/endcon/yaml/Cursor" := (A15.ext E18)
    have fa22 : Fld Z h18 b15 "com/example/endcon/endcon/yaml/Cursor" "line" "I" (.int (0 : Int32)) := (F_line_b15.ext E18)
    have fa23 : Fld Z h18 b15 "com/example/endcon/endcon/yaml/Cursor" "blankLinesFrom" "I" (.int (0 : Int32)) := (F_blankLinesFrom_b15.ext E18)
    have fa24 : Fld Z h18 b15 "com/example/endcon/endcon/yaml/Cursor" "countedIndex" "I" (.int (0 : Int32)) := (F_countedIndex_b15.ext E18)
    have fa25 : Fld Z h18 b15 "com/example/endcon/endcon/yaml/Cursor" "file" "Ljava/lang/String;" .null := (F_file_b15.ext E18)
    have fa26 : Fld Z h18 b15 "com/example/endcon/endcon/yaml/Cursor" "text" "[C" .null := (F_text_b15.ext E18)
    have fa27 : Fld Z h18 b15 "com/example/endcon/endcon/yaml/Cursor" "end" "I" (.int (0 : Int32)) := (F_end_b15.ext E18)
    have fa28 : Fld Z h18 b15 "com/example/endcon/endcon/yaml/Cursor" "hasSurrogates" "Z" (.int (0 : Int32)) := (F_hasSurrogates_b15.ext E18)
    have fa29 : Fld Z h18 b15 "com/example/endcon/endcon/yaml/Cursor" "pos" "I" (.int (0 : Int32)) := (F_pos_b15.ext E18)
    have fa30 : Fld Z h18 b15 "com/example/endcon/endcon/yaml/Cursor" "lineStart" "I" (.int (0 : Int32)) := (F_lineStart_b15.ext E18)
    have fa31 : Arv Z h18 b1 k1 .char (4 : Int32) [(.int (nar .char ((p5 &&& (255 : Int32)).toUInt32.toUInt16.toUInt32.toInt32))), (.int (nar .char ((((p5.toUInt32 >>> ((8 : Int32) &&& 31).toUInt32).toInt32) &&& (255 : Int32)).toUInt32.toUInt16.toUInt32.toInt32))), (.int (nar .char ((p6 &&& (255 : Int32)).toUInt32.toUInt16.toUInt32.toInt32))), (.int (nar .char (10 : Int32)))] (.int (0 : Int32)) := ((V13.ext E15).ext E18)
    obtain ⟨_, T20, Lc20, X20, hQ20, st20⟩ := own_callI X18 hx hZ (y := (⟨"com/example/endcon/endcon/yaml/Cursor", "<init>", "(Ljava/lang/String;[CI)V"⟩ : MethodName)) rfl hown (hw _ (List.mem_of_getElem? (i := 17) rfl)) (hw _ (List.mem_of_getElem? (i := 18) rfl)) (hw _ (List.mem_of_getElem? (i := 8) rfl)) (hw _ (List.mem_of_getElem? (i := 19) rfl)) (by decide) (W := 1) (a := b15) (argsL := [(.ref sa18), (.ref b1), (.int ((1 : Int32) + (p1 &&& (3 : Int32))))]) (rest := [(.ref b15)]) (rm2 l Z a0 hw [] b15 sa18 b1 ((1 : Int32) + (p1 &&& (3 : Int32))) (nar .char ((p5 &&& (255 : Int32)).toUInt32.toUInt16.toUInt32.toInt32)) (nar .char ((((p5.toUInt32 >>> ((8 : Int32) &&& 31).toUInt32).toInt32) &&& (255 : Int32)).toUInt32.toUInt16.toUInt32.toInt32)) (nar .char ((p6 &&& (255 : Int32)).toUInt32.toUInt16.toUInt32.toInt32)) (nar .char (10 : Int32)) k1 h18 n0 zs19 fa21 fa22 fa23 fa24 fa25 fa26 fa27 fa28 fa29 fa30 g_b15 fa31 (Ne.symm ne_b1_b15) (own_n4 p1) (own_lt1 p5) (own_lt2 p5) (own_lt1 p6) (by decide)) (by decide) (by decide) (c' := 4) (s' := 24) rfl rfl (by decide) (by decide) e18 (g := (mkF m 130 #[.val (.int p1), .val (.int p2), .val (.int p3), .val (.int p4), .val (.int p5), .val (.int p6), .val (.int ((1 : Int32) + (p1 &&& (3 : Int32)))), .val (.int (3 : Int32)), .val (.ref b1), .val (.int (0 : Int32)), .unset, .unset, .unset, .unset] [(.int ((1 : Int32) + (p1 &&& (3 : Int32)))), (.ref b1), (.ref sa18), (.ref b15), (.ref b15)])) rfl (by rw [hml]; rfl) (lenOf pd_0_1 rfl) rfl (by show 2 * 0 + _ ≤ _; exact Nat.le_of_eq rfl) (hb hby at_130)
    obtain ⟨rfl, N20q, K20, Ec20_a1, Fc20_a1_line, Fc20_a1_blankLinesFrom, Fc20_a1_countedIndex, Fc20_a1_file, Fc20_a1_text, Fc20_a1_end, Fc20_a1_hasSurrogates, Fc20_a1_pos, Fc20_a1_lineStart⟩ := hQ20
    have N20 := Fr.app N13 N20q
    have zk32 : kk18 ≤ T20.heap.size := Nat.le_trans hkk18 K20.1
    have zs33 : n0 ≤ T20.heap.size := Nat.le_trans zs19 K20.1
    obtain ⟨_, T34, Lc34, X34, hQ34, st34⟩ := own_callV X20 hx hZ (y := (⟨"com/example/endcon/endcon/yaml/Cursor", "moveTo", "(I)V"⟩ : MethodName)) hown (hw _ (List.mem_of_getElem? (i := 43) rfl)) (hw _ (List.mem_of_getElem? (i := 44) rfl)) (hw _ (List.mem_of_getElem? (i := 46) rfl)) (hw _ (List.mem_of_getElem? (i := 45) rfl)) (hw _ (List.mem_of_getElem? (i := 8) rfl)) (hw _ (List.mem_of_getElem? (i := 47) rfl)) (by decide) (W := 0) Ec20_a1 (argsL := [(.int (3 : Int32))]) (rest := []) (rm5 l Z a0 hw [] b15 (3 : Int32) b1 ((1 : Int32) + (p1 &&& (3 : Int32))) (0 : Int32) (1 : Int32) (0 : Int32) T20.heap n0 zs33 Ec20_a1 Fc20_a1_text Fc20_a1_end Fc20_a1_pos Fc20_a1_line Fc20_a1_lineStart g_b15) (by decide) (by decide) (c' := 4) (s' := 24) rfl rfl (by decide) (by decide) rfl (g := (mkF m 139 #[.val (.int p1), .val (.int p2), .val (.int p3), .val (.int p4), .val (.int p5), .val (.int p6), .val (.int ((1 : Int32) + (p1 &&& (3 : Int32)))), .val (.int (3 : Int32)), .val (.ref b1), .val (.int (0 : Int32)), .val (.ref b15), .unset, .unset, .unset] [(.int (3 : Int32)), (.ref b15)])) rfl (by rw [hml]; rfl) (lenOf pd_0_4 rfl) rfl (by show 2 * 0 + _ ≤ _; exact Nat.le_of_eq rfl) (hb hby at_139)
    obtain ⟨rfl, N34q, K34, Ec34_a1, Fc34_a1_text, Fc34_a1_end, Fc34_a1_pos, Fc34_a1_line, Fc34_a1_lineStart⟩ := hQ34
    have N34 := Fr.app N20 N34q
    have zk35 : kk18 ≤ T34.heap.size := Nat.le_trans zk32 K34.1
    have zs36 : n0 ≤ T34.heap.size := Nat.le_trans zs33 K34.1
    have fa38 : Arv Z T34.heap b1 k1 .char (4 : Int32) [(.int (nar .char ((p5 &&& (255 : Int32)).toUInt32.toUInt16.toUInt32.toInt32))), (.int (nar .char ((((p5.toUInt32 >>> ((8 : Int32) &&& 31).toUInt32).toInt32) &&& (255 : Int32)).toUInt32.toUInt16.toUInt32.toInt32))), (.int (nar .char ((p6 &&& (255 : Int32)).toUInt32.toUInt16.toUInt32.toInt32))), (.int (nar .char (10 : Int32)))] (.int (0 : Int32)) := ((fa31.keep K20 (ninS ne_b1_b15 nin0)).keep K34 (ninS ne_b1_b15 nin0))
    obtain ⟨_, T37, Lc37, X37, hQ37, st37⟩ := own_callV X34 hx hZ (y := (⟨"com/example/endcon/endcon/yaml/Cursor", "newLine", "()V"⟩ : MethodName)) hown (hw _ (List.mem_of_getElem? (i := 50) rfl)) (hw _ (List.mem_of_getElem? (i := 51) rfl)) (hw _ (List.mem_of_getElem? (i := 53) rfl)) (hw _ (List.mem_of_getElem? (i := 52) rfl)) (hw _ (List.mem_of_getElem? (i := 8) rfl)) (hw _ (List.mem_of_getElem? (i := 54) rfl)) (by decide) (W := 0) Ec34_a1 (argsL := []) (rest := []) (rm6 l Z a0 hw [] b15 b1 (nar .char ((p5 &&& (255 : Int32)).toUInt32.toUInt16.toUInt32.toInt32)) (nar .char ((((p5.toUInt32 >>> ((8 : Int32) &&& 31).toUInt32).toInt32) &&& (255 : Int32)).toUInt32.toUInt16.toUInt32.toInt32)) (nar .char ((p6 &&& (255 : Int32)).toUInt32.toUInt16.toUInt32.toInt32)) (nar .char (10 : Int32)) ((1 : Int32) + (p1 &&& (3 : Int32))) (3 : Int32) (1 : Int32) (0 : Int32) k1 T34.heap n0 zs36 Ec34_a1 Fc34_a1_text Fc34_a1_end Fc34_a1_pos Fc34_a1_line Fc34_a1_lineStart g_b15 fa38 ne_b1_b15 (by decide) (by decide) (fun h => absurd h (own_n4 p1))) (by decide) (by decide) (c' := 4) (s' := 24) rfl rfl (by decide) (by decide) rfl (g := (mkF m 144 #[.val (.int p1), .val (.int p2), .val (.int p3), .val (.int p4), .val (.int p5), .val (.int p6), .val (.int ((1 : Int32) + (p1 &&& (3 : Int32)))), .val (.int (3 : Int32)), .val (.ref b1), .val (.int (0 : Int32)), .val (.ref b15), .unset, .unset, .unset] [(.ref b15)])) rfl (by rw [hml]; rfl) (lenOf pd_0_2 rfl) rfl (by show 2 * 0 + _ ≤ _; exact Nat.le_of_eq rfl) (hb hby at_144)
    obtain ⟨hv37, N37q, K37, Ec37_a1, Fc37_a1_text, Fc37_a1_end, Fc37_a1_pos, Fc37_a1_line, Fc37_a1_lineStart⟩ := hQ37
    have N37 := Fr.app N34 N37q
    subst hv37
    have lFc37_a1_pos : Fld Z T37.heap b15 "com/example/endcon/endcon/yaml/Cursor" "pos" "I" (.int ((3 : Int32) + (1 : Int32))) := by have q := Fc37_a1_pos; rw [f6_a1_pos, if_neg (show ¬ ((own_at4 (nar .char ((p5 &&& (255 : Int32)).toUInt32.toUInt16.toUInt32.toInt32)) (nar .char ((((p5.toUInt32 >>> ((8 : Int32) &&& 31).toUInt32).toInt32) &&& (255 : Int32)).toUInt32.toUInt16.toUInt32.toInt32)) (nar .char ((p6 &&& (255 : Int32)).toUInt32.toUInt16.toUInt32.toInt32)) (nar .char (10 : Int32)) (3 : Int32)) = (13 : Int32)) from (by decide : ¬ ((nar .char (10 : Int32)) = (13 : Int32))))] at q; exact q
    have lFc37_a1_line : Fld Z T37.heap b15 "com/example/endcon/endcon/yaml/Cursor" "line" "I" (.int ((1 : Int32) + (1 : Int32))) := by have q := Fc37_a1_line; rw [f6_a1_line, if_neg (show ¬ ((own_at4 (nar .char ((p5 &&& (255 : Int32)).toUInt32.toUInt16.toUInt32.toInt32)) (nar .char ((((p5.toUInt32 >>> ((8 : Int32) &&& 31).toUInt32).toInt32) &&& (255 : Int32)).toUInt32.toUInt16.toUInt32.toInt32)) (nar .char ((p6 &&& (255 : Int32)).toUInt32.toUInt16.toUInt32.toInt32)) (nar .char (10 : Int32)) (3 : Int32)) = (13 : Int32)) from (by decide : ¬ ((nar .char (10 : Int32)) = (13 : Int32))))] at q; exact q
    have lFc37_a1_lineStart : Fld Z T37.heap b15 "com/example/endcon/endcon/yaml/Cursor" "lineStart" "I" (.int ((3 : Int32) + (1 : Int32))) := by have q := Fc37_a1_lineStart; rw [f6_a1_lineStart, if_neg (show ¬ ((own_at4 (nar .char ((p5 &&& (255 : Int32)).toUInt32.toUInt16.toUInt32.toInt32)) (nar .char ((((p5.toUInt32 >>> ((8 : Int32) &&& 31).toUInt32).toInt32) &&& (255 : Int32)).toUInt32.toUInt16.toUInt32.toInt32)) (nar .char ((p6 &&& (255 : Int32)).toUInt32.toUInt16.toUInt32.toInt32)) (nar .char (10 : Int32)) (3 : Int32)) = (13 : Int32)) from (by decide : ¬ ((nar .char (10 : Int32)) = (13 : Int32))))] at q; exact q
    have zk39 : kk18 ≤ T37.heap.size := Nat.le_trans zk35 K37.1
    have zs40 : n0 ≤ T37.heap.size := Nat.le_trans zs36 K37.1
    obtain ⟨_, T41, Lc41, X41, hQ41, st41⟩ := own_callV X37 hx hZ (y := (⟨"com/example/endcon/endcon/yaml/Cursor", "index", "()I"⟩ : MethodName)) hown (hw _ (List.mem_of_getElem? (i := 57) rfl)) (hw _ (List.mem_of_getElem? (i := 58) rfl)) (hw _ (List.mem_of_getElem? (i := 60) rfl)) (hw _ (List.mem_of_getElem? (i := 59) rfl)) (hw _ (List.mem_of_getElem? (i := 8) rfl)) (hw _ (List.mem_of_getElem? (i := 61) rfl)) (by decide) (W := 0) Ec37_a1 (argsL := []) (rest := []) (rm7 l Z a0 hw [] b15 ((3 : Int32) + (1 : Int32)) T37.heap n0 zs40 Ec37_a1 lFc37_a1_pos) (by decide) (by decide) (c' := 4) (s' := 24) rfl rfl (by decide) (by decide) rfl (g := (mkF m 237 #[.val (.int p1), .val (.int p2), .val (.int p3), .val (.int p4), .val (.int p5), .val (.int p6), .val (.int ((1 : Int32) + (p1 &&& (3 : Int32)))), .val (.int (3 : Int32)), .val (.ref b1), .val (.int (0 : Int32)), .val (.ref b15), .val (.int (4 : Int32)), .val (.int (2 : Int32)), .val (.int (4 : Int32))] [(.ref b15)])) rfl (by rw [hml]; rfl) (lenOf pd_0_5 rfl) rfl (by show 2 * 0 + _ ≤ _; exact Nat.le_of_eq rfl) (hb hby at_237)
    obtain ⟨hv41, N41q, e41⟩ := hQ41
    have N41 := Fr.app N37 N41q
    rw [f7] at hv41
    subst hv41
    obtain ⟨_, T42, Lc42, X42, hQ42, st42⟩ := own_callV X41 hx hZ (y := (⟨"com/example/endcon/endcon/yaml/Cursor", "line", "()I"⟩ : MethodName)) hown (hw _ (List.mem_of_getElem? (i := 62) rfl)) (hw _ (List.mem_of_getElem? (i := 63) rfl)) (hw _ (List.mem_of_getElem? (i := 65) rfl)) (hw _ (List.mem_of_getElem? (i := 64) rfl)) (hw _ (List.mem_of_getElem? (i := 8) rfl)) (hw _ (List.mem_of_getElem? (i := 66) rfl)) (by decide) (W := 0) Ec37_a1 (argsL := []) (rest := []) (rm8 l Z a0 hw [] b15 ((1 : Int32) + (1 : Int32)) T37.heap n0 zs40 Ec37_a1 lFc37_a1_line) (by decide) (by decide) (c' := 4) (s' := 24) rfl rfl (by decide) (by decide) e41 (g := (mkF m 247 #[.val (.int p1), .val (.int p2), .val (.int p3), .val (.int p4), .val (.int p5), .val (.int p6), .val (.int ((1 : Int32) + (p1 &&& (3 : Int32)))), .val (.int (3 : Int32)), .val (.ref b1), .val (.int (0 : Int32)), .val (.ref b15), .val (.int (4 : Int32)), .val (.int (2 : Int32)), .val (.int (4 : Int32))] [(.ref b15)])) rfl (by rw [hml]; rfl) (lenOf pd_0_5 rfl) rfl (by show 2 * 0 + _ ≤ _; exact Nat.le_of_eq rfl) (hb hby at_247)
    obtain ⟨hv42, N42q, e42⟩ := hQ42
    have N42 := Fr.app N41 N42q
    rw [f8] at hv42
    subst hv42
    obtain ⟨_, T43, Lc43, X43, hQ43, st43⟩ := own_callV X42 hx hZ (y := (⟨"com/example/endcon/endcon/yaml/Cursor", "lineStart", "()I"⟩ : MethodName)) hown (hw _ (List.mem_of_getElem? (i := 67) rfl)) (hw _ (List.mem_of_getElem? (i := 68) rfl)) (hw _ (List.mem_of_getElem? (i := 70) rfl)) (hw _ (List.mem_of_getElem? (i := 69) rfl)) (hw _ (List.mem_of_getElem? (i := 8) rfl)) (hw _ (List.mem_of_getElem? (i := 71) rfl)) (by decide) (W := 0) Ec37_a1 (argsL := []) (rest := []) (rm9 l Z a0 hw [] b15 ((3 : Int32) + (1 : Int32)) T37.heap n0 zs40 Ec37_a1 lFc37_a1_lineStart) (by decide) (by decide) (c' := 4) (s' := 24) rfl rfl (by decide) (by decide) e42 (g := (mkF m 257 #[.val (.int p1), .val (.int p2), .val (.int p3), .val (.int p4), .val (.int p5), .val (.int p6), .val (.int ((1 : Int32) + (p1 &&& (3 : Int32)))), .val (.int (3 : Int32)), .val (.ref b1), .val (.int (0 : Int32)), .val (.ref b15), .val (.int (4 : Int32)), .val (.int (2 : Int32)), .val (.int (4 : Int32))] [(.ref b15)])) rfl (by rw [hml]; rfl) (lenOf pd_0_5 rfl) rfl (by show 2 * 0 + _ ≤ _; exact Nat.le_of_eq rfl) (hb hby at_257)
    obtain ⟨hv43, N43q, e43⟩ := hQ43
    have N43 := Fr.app N42 N43q
    rw [f9] at hv43
    subst hv43
    obtain ⟨fs, hr, hrun, hended, hRW⟩ := X43.leaveW (s := s) hS18 (by rw [e43]; exact zk39) (v := some (.int (1 : Int32))) (fun h => by rw [Bd.returns] at h; cases h)
    refine ⟨_, _, pre17 _ ?_, hrun, hended, _, _, rfl, ?_, ⟨_, rfl⟩, hRW.2.1, hRW.2.2.1, hRW.2.2.2.mono (by decide) (by decide)⟩
    · show Steps p.tables e below (T15.setTop (mkF m 124 #[.val (.int p1), .val (.int p2), .val (.int p3), .val (.int p4), .val (.int p5), .val (.int p6), .val (.int ((1 : Int32) + (p1 &&& (3 : Int32)))), .val (.int (3 : Int32)), .val (.ref b1), .val (.int (0 : Int32)), .unset, .unset, .unset, .unset] [(.ref b15), (.ref b15)])) _
      refine st18 _ ?_
      show Steps p.tables e below (T18.setTop (mkF m 126 #[.val (.int p1), .val (.int p2), .val (.int p3), .val (.int p4), .val (.int p5), .val (.int p6), .val (.int ((1 : Int32) + (p1 &&& (3 : Int32)))), .val (.int (3 : Int32)), .val (.ref b1), .val (.int (0 : Int32)), .unset, .unset, .unset, .unset] [(.ref sa18), (.ref b15), (.ref b15)])) _
      refine own_blk X18 hx bl0_126_2 (own_hb hby bd0_126_2) (pc' := 130) (Ls' := #[.val (.int p1), .val (.int p2), .val (.int p3), .val (.int p4), .val (.int p5), .val (.int p6), .val (.int ((1 : Int32) + (p1 &&& (3 : Int32)))), .val (.int (3 : Int32)), .val (.ref b1), .val (.int (0 : Int32)), .unset, .unset, .unset, .unset]) (st' := [(.int ((1 : Int32) + (p1 &&& (3 : Int32)))), (.ref b1), (.ref sa18), (.ref b15), (.ref b15)]) rfl ?_
      refine st20 _ ?_
      show Steps p.tables e below (T20.setTop (mkF m 133 #[.val (.int p1), .val (.int p2), .val (.int p3), .val (.int p4), .val (.int p5), .val (.int p6), .val (.int ((1 : Int32) + (p1 &&& (3 : Int32)))), .val (.int (3 : Int32)), .val (.ref b1), .val (.int (0 : Int32)), .unset, .unset, .unset, .unset] [(.ref b15)])) _
      refine own_blk X20 hx bl0_133_1 (own_hb hby bd0_133_1) (pc' := 135) (Ls' := #[.val (.int p1), .val (.int p2), .val (.int p3), .val (.int p4), .val (.int p5), .val (.int p6), .val (.int ((1 : Int32) + (p1 &&& (3 : Int32)))), .val (.int (3 : Int32)), .val (.ref b1), .val (.int (0 : Int32)), .val (.ref b15), .unset, .unset, .unset]) (st' := []) rfl ?_
      refine own_blk X20 hx bl0_135_2 (own_hb hby bd0_135_2) (pc' := 139) (Ls' := #[.val (.int p1), .val (.int p2), .val (.int p3), .val (.int p4), .val (.int p5), .val (.int p6), .val (.int ((1 : Int32) + (p1 &&& (3 : Int32)))), .val (.int (3 : Int32)), .val (.ref b1), .val (.int (0 : Int32)), .val (.ref b15), .unset, .unset, .unset]) (st' := [(.int (3 : Int32)), (.ref b15)]) rfl ?_
      refine st34 _ ?_
      show Steps p.tables e below (T34.setTop (mkF m 142 #[.val (.int p1), .val (.int p2), .val (.int p3), .val (.int p4), .val (.int p5), .val (.int p6), .val (.int ((1 : Int32) + (p1 &&& (3 : Int32)))), .val (.int (3 : Int32)), .val (.ref b1), .val (.int (0 : Int32)), .val (.ref b15), .unset, .unset, .unset] [])) _
      refine own_blk X34 hx bl0_142_1 (own_hb hby bd0_142_1) (pc' := 144) (Ls' := #[.val (.int p1), .val (.int p2), .val (.int p3), .val (.int p4), .val (.int p5), .val (.int p6), .val (.int ((1 : Int32) + (p1 &&& (3 : Int32)))), .val (.int (3 : Int32)), .val (.ref b1), .val (.int (0 : Int32)), .val (.ref b15), .unset, .unset, .unset]) (st' := [(.ref b15)]) rfl ?_
      refine st37 _ ?_
      show Steps p.tables e below (T37.setTop (mkF m 147 #[.val (.int p1), .val (.int p2), .val (.int p3), .val (.int p4), .val (.int p5), .val (.int p6), .val (.int ((1 : Int32) + (p1 &&& (3 : Int32)))), .val (.int (3 : Int32)), .val (.ref b1), .val (.int (0 : Int32)), .val (.ref b15), .unset, .unset, .unset] [])) _
      refine own_blk X37 hx bl0_147_1 (own_hb hby bd0_147_1) (pc' := 149) (Ls' := #[.val (.int p1), .val (.int p2), .val (.int p3), .val (.int p4), .val (.int p5), .val (.int p6), .val (.int ((1 : Int32) + (p1 &&& (3 : Int32)))), .val (.int (3 : Int32)), .val (.ref b1), .val (.int (0 : Int32)), .val (.ref b15), .unset, .unset, .unset]) (st' := [(.int (0 : Int32))]) rfl ?_
      refine XS.ifYes X37.here hx rfl (pc0 := 149) (pc' := 176) rfl (hb hby at_149) rfl ((if0 _ _).trans (teq (by decide : (0 : Int32) = (0 : Int32))).1) (by decide) (by decide) ?_
      show Steps p.tables e below (T37.setTop (mkF m 176 #[.val (.int p1), .val (.int p2), .val (.int p3), .val (.int p4), .val (.int p5), .val (.int p6), .val (.int ((1 : Int32) + (p1 &&& (3 : Int32)))), .val (.int (3 : Int32)), .val (.ref b1), .val (.int (0 : Int32)), .val (.ref b15), .unset, .unset, .unset] [])) _
      refine own_blk X37 hx bl0_176_1 (own_hb hby bd0_176_1) (pc' := 178) (Ls' := #[.val (.int p1), .val (.int p2), .val (.int p3), .val (.int p4), .val (.int p5), .val (.int p6), .val (.int ((1 : Int32) + (p1 &&& (3 : Int32)))), .val (.int (3 : Int32)), .val (.ref b1), .val (.int (0 : Int32)), .val (.ref b15), .unset, .unset, .unset]) (st' := [(.int (0 : Int32))]) rfl ?_
      refine XS.ifYes X37.here hx rfl (pc0 := 178) (pc' := 220) rfl (hb hby at_178) rfl ((if0 _ _).trans (teq (by decide : (0 : Int32) = (0 : Int32))).1) (by decide) (by decide) ?_
      show Steps p.tables e below (T37.setTop (mkF m 220 #[.val (.int p1), .val (.int p2), .val (.int p3), .val (.int p4), .val (.int p5), .val (.int p6), .val (.int ((1 : Int32) + (p1 &&& (3 : Int32)))), .val (.int (3 : Int32)), .val (.ref b1), .val (.int (0 : Int32)), .val (.ref b15), .unset, .unset, .unset] [])) _
      refine own_blk X37 hx bl0_220_4 (own_hb hby bd0_220_4) (pc' := 226) (Ls' := #[.val (.int p1), .val (.int p2), .val (.int p3), .val (.int p4), .val (.int p5), .val (.int p6), .val (.int ((1 : Int32) + (p1 &&& (3 : Int32)))), .val (.int (3 : Int32)), .val (.ref b1), .val (.int (0 : Int32)), .val (.ref b15), .val (.int (4 : Int32)), .unset, .unset]) (st' := []) rfl ?_
      refine own_blk X37 hx bl0_226_2 (own_hb hby bd0_226_2) (pc' := 229) (Ls' := #[.val (.int p1), .val (.int p2), .val (.int p3), .val (.int p4), .val (.int p5), .val (.int p6), .val (.int ((1 : Int32) + (p1 &&& (3 : Int32)))), .val (.int (3 : Int32)), .val (.ref b1), .val (.int (0 : Int32)), .val (.ref b15), .val (.int (4 : Int32)), .val (.int (2 : Int32)), .unset]) (st' := []) rfl ?_
      refine own_blk X37 hx bl0_229_4 (own_hb hby bd0_229_4) (pc' := 235) (Ls' := #[.val (.int p1), .val (.int p2), .val (.int p3), .val (.int p4), .val (.int p5), .val (.int p6), .val (.int ((1 : Int32) + (p1 &&& (3 : Int32)))), .val (.int (3 : Int32)), .val (.ref b1), .val (.int (0 : Int32)), .val (.ref b15), .val (.int (4 : Int32)), .val (.int (2 : Int32)), .val (.int (4 : Int32))]) (st' := []) rfl ?_
      refine own_blk X37 hx bl0_235_1 (own_hb hby bd0_235_1) (pc' := 237) (Ls' := #[.val (.int p1), .val (.int p2), .val (.int p3), .val (.int p4), .val (.int p5), .val (.int p6), .val (.int ((1 : Int32) + (p1 &&& (3 : Int32)))), .val (.int (3 : Int32)), .val (.ref b1), .val (.int (0 : Int32)), .val (.ref b15), .val (.int (4 : Int32)), .val (.int (2 : Int32)), .val (.int (4 : Int32))]) (st' := [(.ref b15)]) rfl ?_
      refine st41 _ ?_
      show Steps p.tables e below (T41.setTop (mkF m 240 #[.val (.int p1), .val (.int p2), .val (.int p3), .val (.int p4), .val (.int p5), .val (.int p6), .val (.int ((1 : Int32) + (p1 &&& (3 : Int32)))), .val (.int (3 : Int32)), .val (.ref b1), .val (.int (0 : Int32)), .val (.ref b15), .val (.int (4 : Int32)), .val (.int (2 : Int32)), .val (.int (4 : Int32))] [(.int ((3 : Int32) + (1 : Int32)))])) _
      refine own_blk X41 hx bl0_240_1 (own_hb hby bd0_240_1) (pc' := 242) (Ls' := #[.val (.int p1), .val (.int p2), .val (.int p3), .val (.int p4), .val (.int p5), .val (.int p6), .val (.int ((1 : Int32) + (p1 &&& (3 : Int32)))), .val (.int (3 : Int32)), .val (.ref b1), .val (.int (0 : Int32)), .val (.ref b15), .val (.int (4 : Int32)), .val (.int (2 : Int32)), .val (.int (4 : Int32))]) (st' := [(.int (4 : Int32)), (.int ((3 : Int32) + (1 : Int32)))]) rfl ?_
      refine XS.icmpNo X41.here hx rfl (hb hby at_242) rfl (teq (show ((3 : Int32) + (1 : Int32)) = (4 : Int32) from (by decide : (4 : Int32) = (4 : Int32)))).2 ?_
      show Steps p.tables e below (T41.setTop (mkF m 245 #[.val (.int p1), .val (.int p2), .val (.int p3), .val (.int p4), .val (.int p5), .val (.int p6), .val (.int ((1 : Int32) + (p1 &&& (3 : Int32)))), .val (.int (3 : Int32)), .val (.ref b1), .val (.int (0 : Int32)), .val (.ref b15), .val (.int (4 : Int32)), .val (.int (2 : Int32)), .val (.int (4 : Int32))] [])) _
      refine own_blk X41 hx bl0_245_1 (own_hb hby bd0_245_1) (pc' := 247) (Ls' := #[.val (.int p1), .val (.int p2), .val (.int p3), .val (.int p4), .val (.int p5), .val (.int p6), .val (.int ((1 : Int32) + (p1 &&& (3 : Int32)))), .val (.int (3 : Int32)), .val (.ref b1), .val (.int (0 : Int32)), .val (.ref b15), .val (.int (4 : Int32)), .val (.int (2 : Int32)), .val (.int (4 : Int32))]) (st' := [(.ref b15)]) rfl ?_
      refine st42 _ ?_
      show Steps p.tables e below (T42.setTop (mkF m 250 #[.val (.int p1), .val (.int p2), .val (.int p3), .val (.int p4), .val (.int p5), .val (.int p6), .val (.int ((1 : Int32) + (p1 &&& (3 : Int32)))), .val (.int (3 : Int32)), .val (.ref b1), .val (.int (0 : Int32)), .val (.ref b15), .val (.int (4 : Int32)), .val (.int (2 : Int32)), .val (.int (4 : Int32))] [(.int ((1 : Int32) + (1 : Int32)))])) _
      refine own_blk X42 hx bl0_250_1 (own_hb hby bd0_250_1) (pc' := 252) (Ls' := #[.val (.int p1), .val (.int p2), .val (.int p3), .val (.int p4), .val (.int p5), .val (.int p6), .val (.int ((1 : Int32) + (p1 &&& (3 : Int32)))), .val (.int (3 : Int32)), .val (.ref b1), .val (.int (0 : Int32)), .val (.ref b15), .val (.int (4 : Int32)), .val (.int (2 : Int32)), .val (.int (4 : Int32))]) (st' := [(.int (2 : Int32)), (.int ((1 : Int32) + (1 : Int32)))]) rfl ?_
      refine XS.icmpNo X42.here hx rfl (hb hby at_252) rfl (teq (show ((1 : Int32) + (1 : Int32)) = (2 : Int32) from (by decide : (2 : Int32) = (2 : Int32)))).2 ?_
      show Steps p.tables e below (T42.setTop (mkF m 255 #[.val (.int p1), .val (.int p2), .val (.int p3), .val (.int p4), .val (.int p5), .val (.int p6), .val (.int ((1 : Int32) + (p1 &&& (3 : Int32)))), .val (.int (3 : Int32)), .val (.ref b1), .val (.int (0 : Int32)), .val (.ref b15), .val (.int (4 : Int32)), .val (.int (2 : Int32)), .val (.int (4 : Int32))] [])) _
      refine own_blk X42 hx bl0_255_1 (own_hb hby bd0_255_1) (pc' := 257) (Ls' := #[.val (.int p1), .val (.int p2), .val (.int p3), .val (.int p4), .val (.int p5), .val (.int p6), .val (.int ((1 : Int32) + (p1 &&& (3 : Int32)))), .val (.int (3 : Int32)), .val (.ref b1), .val (.int (0 : Int32)), .val (.ref b15), .val (.int (4 : Int32)), .val (.int (2 : Int32)), .val (.int (4 : Int32))]) (st' := [(.ref b15)]) rfl ?_
      refine st43 _ ?_
      show Steps p.tables e below (T43.setTop (mkF m 260 #[.val (.int p1), .val (.int p2), .val (.int p3), .val (.int p4), .val (.int p5), .val (.int p6), .val (.int ((1 : Int32) + (p1 &&& (3 : Int32)))), .val (.int (3 : Int32)), .val (.ref b1), .val (.int (0 : Int32)), .val (.ref b15), .val (.int (4 : Int32)), .val (.int (2 : Int32)), .val (.int (4 : Int32))] [(.int ((3 : Int32) + (1 : Int32)))])) _
      refine own_blk X43 hx bl0_260_1 (own_hb hby bd0_260_1) (pc' := 262) (Ls' := #[.val (.int p1), .val (.int p2), .val (.int p3), .val (.int p4), .val (.int p5), .val (.int p6), .val (.int ((1 : Int32) + (p1 &&& (3 : Int32)))), .val (.int (3 : Int32)), .val (.ref b1), .val (.int (0 : Int32)), .val (.ref b15), .val (.int (4 : Int32)), .val (.int (2 : Int32)), .val (.int (4 : Int32))]) (st' := [(.int (4 : Int32)), (.int ((3 : Int32) + (1 : Int32)))]) rfl ?_
      refine XS.icmpNo X43.here hx rfl (hb hby at_262) rfl (teq (show ((3 : Int32) + (1 : Int32)) = (4 : Int32) from (by decide : (4 : Int32) = (4 : Int32)))).2 ?_
      show Steps p.tables e below (T43.setTop (mkF m 265 #[.val (.int p1), .val (.int p2), .val (.int p3), .val (.int p4), .val (.int p5), .val (.int p6), .val (.int ((1 : Int32) + (p1 &&& (3 : Int32)))), .val (.int (3 : Int32)), .val (.ref b1), .val (.int (0 : Int32)), .val (.ref b15), .val (.int (4 : Int32)), .val (.int (2 : Int32)), .val (.int (4 : Int32))] [])) _
      refine own_blk X43 hx bl0_265_2 (own_hb hby bd0_265_2) (pc' := 270) (Ls' := #[.val (.int p1), .val (.int p2), .val (.int p3), .val (.int p4), .val (.int p5), .val (.int p6), .val (.int ((1 : Int32) + (p1 &&& (3 : Int32)))), .val (.int (3 : Int32)), .val (.ref b1), .val (.int (0 : Int32)), .val (.ref b15), .val (.int (4 : Int32)), .val (.int (2 : Int32)), .val (.int (4 : Int32))]) (st' := [(.int (1 : Int32))]) rfl ?_
      exact retN X43 hx (t := .boolean) Bd.returns (by simp) (hb hby at_270) hr
    · show Q0_3 Z p1 p2 p3 p4 p5 p6 h0 n0 _ T43.heap _
      rw [e43]
      exact ⟨by rw [f0_3, if_pos hc12], N43⟩
  · obtain ⟨cx44, Ar44, qq44, S44, N44_, H44, G44⟩ := id V9
    have hin44 : ¬ ((3 : Int32) < 0 ∨ cx44.slots.size ≤ ((3 : Int32)).toNatClampNeg) := inb_of S44 ⟨by decide, by decide⟩
    obtain ⟨T44, h44, X44, e44, W44, st44⟩ := stC X9 hx hZ e9 Ar44 (j := (3 : Int32)) hin44 (g := (mkF m 100 #[.val (.int p1), .val (.int p2), .val (.int p3), .val (.int p4), .val (.int p5), .val (.int p6), .val (.int ((1 : Int32) + (p1 &&& (3 : Int32)))), .val (.int (3 : Int32)), .val (.ref b1), .val (.int (1 : Int32)), .unset, .unset, .unset, .unset] [(.int (13 : Int32)), (.int (3 : Int32)), (.ref b1)])) rfl rfl (hb hby at_100)
    have V44 : Arv Z h44 b1 k1 .char (4 : Int32) [(.int (nar .char ((p5 &&& (255 : Int32)).toUInt32.toUInt16.toUInt32.toInt32))), (.int (nar .char ((((p5.toUInt32 >>> ((8 : Int32) &&& 31).toUInt32).toInt32) &&& (255 : Int32)).toUInt32.toUInt16.toUInt32.toInt32))), (.int (nar .char ((p6 &&& (255 : Int32)).toUInt32.toUInt16.toUInt32.toInt32))), (.int (nar .char (13 : Int32)))] (.int (0 : Int32)) := Arv.set Ar44 qq44 S44 N44_ H44 G44 (fits_nar_char _) W44 3 rfl (Nat.le_of_ble_eq_true rfl)
    have zs45 : n0 ≤ h44.size := Nat.le_trans zs10 (Keep.of_wr W44).1
    have N44 := Fr.snoc X44 N9 g_b1
    obtain ⟨T46, h46, X46, e46, E46, A46, D46, -, st46⟩ := newO X44 hx hZ hown (hw _ (List.mem_of_getElem? (i := 6) rfl)) (hw _ (List.mem_of_getElem? (i := 7) rfl)) (hw _ (List.mem_of_getElem? (i := 8) rfl)) e44 (g := (mkF m 120 #[.val (.int p1), .val (.int p2), .val (.int p3), .val (.int p4), .val (.int p5), .val (.int p6), .val (.int ((1 : Int32) + (p1 &&& (3 : Int32)))), .val (.int (3 : Int32)), .val (.ref b1), .val (.int (1 : Int32)), .unset, .unset, .unset, .unset] [])) rfl (hb hby at_120) (by decide) (by decide)
    obtain ⟨b46, g46⟩ : ∃ z, z = h44.size := ⟨_, rfl⟩
    rw [← g46] at A46 D46 st46
    have ne_b1_b46 : b1 ≠ b46 := Nat.ne_of_lt (Nat.lt_of_lt_of_le V44.lt (Nat.le_of_eq g46.symm))
    have g_b46 : n0 ≤ b46 := Nat.le_trans zs45 (Nat.le_of_eq g46.symm)
    have zs47 : n0 ≤ h46.size := Nat.le_trans zs45 E46.1
    have F_line_b46 : Fld Z h46 b46 "com/example/endcon/endcon/yaml/Cursor" "line" "I" (.int (0 : Int32)) := D46 (Or.inl (hw _ (List.mem_of_getElem? (i := 24) rfl))) (ty := .int) (by decide)
    have F_blankLinesFrom_b46 : Fld Z h46 b46 "com/example/endcon/endcon/yaml/Cursor" "blankLinesFrom" "I" (.int (0 : Int32)) := D46 (Or.inl (hw _ (List.mem_of_getElem? (i := 26) rfl))) (ty := .int) (by decide)
    have F_countedIndex_b46 : Fld Z h46 b46 "com/example/endcon/endcon/yaml/Cursor" "countedIndex" "I" (.int (0 : Int32)) := D46 (Or.inl (hw _ (List.mem_of_getElem? (i := 28) rfl))) (ty := .int) (by decide)
    have F_file_b46 : Fld Z h46 b46 "com/example/endcon/endcon/yaml/Cursor" "file" "Ljava/lang/String;" .null := D46 (Or.inr (hw _ (List.mem_of_getElem? (i := 30) rfl))) (ty := (.object "java/lang/String")) (by decide)
    have F_text_b46 : Fld Z h46 b46 "com/example/endcon/endcon/yaml/Cursor" "text" "[C" .null := D46 (Or.inl (hw _ (List.mem_of_getElem? (i := 32) rfl))) (ty := (.array .char)) (by decide)
    have F_end_b46 : Fld Z h46 b46 "com/example/endcon/endcon/yaml/Cursor" "end" "I" (.int (0 : Int32)) := D46 (Or.inr (hw _ (List.mem_of_getElem? (i := 34) rfl))) (ty := .int) (by decide)
    have F_hasSurrogates_b46 : Fld Z h46 b46 "com/example/endcon/endcon/yaml/Cursor" "hasSurrogates" "Z" (.int (0 : Int32)) := D46 (Or.inr (hw _ (List.mem_of_getElem? (i := 41) rfl))) (ty := .boolean) (by decide)
    have F_pos_b46 : Fld Z h46 b46 "com/example/endcon/endcon/yaml/Cursor" "pos" "I" (.int (0 : Int32)) := D46 (Or.inl (hw _ (List.mem_of_getElem? (i := 49) rfl))) (ty := .int) (by decide)
    have F_lineStart_b46 : Fld Z h46 b46 "com/example/endcon/endcon/yaml/Cursor" "lineStart" "I" (.int (0 : Int32)) := D46 (Or.inl (hw _ (List.mem_of_getElem? (i := 56) rfl))) (ty := .int) (by decide)
    have pre48 : ∀ t, Steps p.tables e below (T46.setTop (mkF m 124 #[.val (.int p1), .val (.int p2), .val (.int p3), .val (.int p4), .val (.int p5), .val (.int p6), .val (.int ((1 : Int32) + (p1 &&& (3 : Int32)))), .val (.int (3 : Int32)), .val (.ref b1), .val (.int (1 : Int32)), .unset, .unset, .unset, .unset] [(.ref b46), (.ref b46)])) t → Steps p.tables e below (s₁.setTop (entryFrame m #[(.int p1), (.int p2), (.int p3), (.int p4), (.int p5), (.int p6)] maxLocals)) t := fun t kt => by
      refine pre11 _ ?_
      show Steps p.tables e below (T9.setTop (mkF m 74 #[.val (.int p1), .val (.int p2), .val (.int p3), .val (.int p4), .val (.int p5), .val (.int p6), .val (.int ((1 : Int32) + (p1 &&& (3 : Int32)))), .val (.int (3 : Int32)), .val (.ref b1), .unset, .unset, .unset, .unset, .unset] [(.int (p3 &&& (1 : Int32)))])) _
      refine XS.ifNo X9.here hx rfl (hb hby at_74) rfl ((if0 _ _).trans (feq hc12).1) ?_
      show Steps p.tables e below (T9.setTop (mkF m 77 #[.val (.int p1), .val (.int p2), .val (.int p3), .val (.int p4), .val (.int p5), .val (.int p6), .val (.int ((1 : Int32) + (p1 &&& (3 : Int32)))), .val (.int (3 : Int32)), .val (.ref b1), .unset, .unset, .unset, .unset, .unset] [])) _
      refine own_blk X9 hx bl0_77_3 (own_hb hby bd0_77_3) (pc' := 84) (Ls' := #[.val (.int p1), .val (.int p2), .val (.int p3), .val (.int p4), .val (.int p5), .val (.int p6), .val (.int ((1 : Int32) + (p1 &&& (3 : Int32)))), .val (.int (3 : Int32)), .val (.ref b1), .val (.int (1 : Int32)), .unset, .unset, .unset, .unset]) (st' := []) rfl ?_
      refine own_blk X9 hx bl0_84_3 (own_hb hby bd0_84_3) (pc' := 90) (Ls' := #[.val (.int p1), .val (.int p2), .val (.int p3), .val (.int p4), .val (.int p5), .val (.int p6), .val (.int ((1 : Int32) + (p1 &&& (3 : Int32)))), .val (.int (3 : Int32)), .val (.ref b1), .val (.int (1 : Int32)), .unset, .unset, .unset, .unset]) (st' := [(.int (1 : Int32)), (.int (3 : Int32)), (.ref b1)]) rfl ?_
      refine XS.ifNo X9.here hx rfl (hb hby at_90) rfl ((if0 _ _).trans (feq (by decide : ¬ ((1 : Int32) = (0 : Int32)))).1) ?_
      show Steps p.tables e below (T9.setTop (mkF m 93 #[.val (.int p1), .val (.int p2), .val (.int p3), .val (.int p4), .val (.int p5), .val (.int p6), .val (.int ((1 : Int32) + (p1 &&& (3 : Int32)))), .val (.int (3 : Int32)), .val (.ref b1), .val (.int (1 : Int32)), .unset, .unset, .unset, .unset] [(.int (3 : Int32)), (.ref b1)])) _
      refine own_blk X9 hx bl0_93_2 (own_hb hby bd0_93_2) (pc' := 100) (Ls' := #[.val (.int p1), .val (.int p2), .val (.int p3), .val (.int p4), .val (.int p5), .val (.int p6), .val (.int ((1 : Int32) + (p1 &&& (3 : Int32)))), .val (.int (3 : Int32)), .val (.ref b1), .val (.int (1 : Int32)), .unset, .unset, .unset, .unset]) (st' := [(.int (13 : Int32)), (.int (3 : Int32)), (.ref b1)]) rfl ?_
      refine st44 _ ?_
      show Steps p.tables e below (T44.setTop (mkF m 101 #[.val (.int p1), .val (.int p2), .val (.int p3), .val (.int p4), .val (.int p5), .val (.int p6), .val (.int ((1 : Int32) + (p1 &&& (3 : Int32)))), .val (.int (3 : Int32)), .val (.ref b1), .val (.int (1 : Int32)), .unset, .unset, .unset, .unset] [])) _
      refine own_blk X44 hx bl0_101_4 (own_hb hby bd0_101_4) (pc' := 106) (Ls' := #[.val (.int p1), .val (.int p2), .val (.int p3), .val (.int p4), .val (.int p5), .val (.int p6), .val (.int ((1 : Int32) + (p1 &&& (3 : Int32)))), .val (.int (3 : Int32)), .val (.ref b1), .val (.int (1 : Int32)), .unset, .unset, .unset, .unset]) (st' := [(.int (4 : Int32)), (.int (4 : Int32))]) rfl ?_
      refine XS.icmpYes X44.here hx rfl (pc0 := 106) (pc' := 120) rfl (hb hby at_106) rfl (flt (by decide : ¬ ((4 : Int32) < (4 : Int32)))).2.1 (by decide) (by decide) ?_
      show Steps p.tables e below (T44.setTop (mkF m 120 #[.val (.int p1), .val (.int p2), .val (.int p3), .val (.int p4), .val (.int p5), .val (.int p6), .val (.int ((1 : Int32) + (p1 &&& (3 : Int32)))), .val (.int (3 : Int32)), .val (.ref b1), .val (.int (1 : Int32)), .unset, .unset, .unset, .unset] [])) _
      refine st46 _ ?_
      show Steps p.tables e below (T46.setTop (mkF m 123 #[.val (.int p1), .val (.int p2), .val (.int p3), .val (.int p4), .val (.int p5), .val (.int p6), .val (.int ((1 : Int32) + (p1 &&& (3 : Int32)))), .val (.int (3 : Int32)), .val (.ref b1), .val (.int (1 : Int32)), .unset, .unset, .unset, .unset] [(.ref b46)])) _
      refine own_blk X46 hx bl0_123_1 (own_hb hby bd0_123_1) (pc' := 124) (Ls' := #[.val (.int p1), .val (.int p2), .val (.int p3), .val (.int p4), .val (.int p5), .val (.int p6), .val (.int ((1 : Int32) + (p1 &&& (3 : Int32)))), .val (.int (3 : Int32)), .val (.ref b1), .val (.int (1 : Int32)), .unset, .unset, .unset, .unset]) (st' := [(.ref b46), (.ref b46)]) rfl ?_
      exact kt
    have hS49a : s.Since s.vm h46.size := (State.WarmedH.refl s).since _
    obtain ⟨sa49, T49, h49, kk49, X49, e49, E49, hS49, hkk49, hZ, hown, st49⟩ := ldcS (s := s) (vm0 := s.vm) X46 hx hZ hown (hw _ (List.mem_of_getElem? (i := 9) rfl)) (own_ws hw) e46 hS49a (Nat.le_refl _) (g := (mkF m 124 #[.val (.int p1), .val (.int p2), .val (.int p3), .val (.int p4), .val (.int p5), .val (.int p6), .val (.int ((1 : Int32) + (p1 &&& (3 : Int32)))), .val (.int (3 : Int32)), .val (.ref b1), .val (.int (1 : Int32)), .unset, .unset, .unset, .unset] [(.ref b46), (.ref b46)])) rfl (hb hby at_124) (n := 4) (by decide) (by decide) (by decide) (by decide)
    have zs50 : n0 ≤ h49.size := Nat.le_trans zs47 E49.1
    have fa52 : Exa Z h49 b46 "com/example/endcon/endcon/yaml/Cursor" := (A46.ext E49)
    have fa53 : Fld Z h49 b46 "com/example/endcon/endcon/yaml/Cursor" "line" "I" (.int (0 : Int32)) := (F_line_b46.ext E49)
    have fa54 : Fld Z h49 b46 "com/example/endcon/endcon/yaml/Cursor" "blankLinesFrom" "I" (.int (0 : Int32)) := (F_blankLinesFrom_b46.ext E49)
    have fa55 : Fld Z h49 b46 "com/example/endcon/endcon/yaml/Cursor" "countedIndex" "I" (.int (0 : Int32)) := (F_countedIndex_b46.ext E49)
    have fa56 : Fld Z h49 b46 "com/example/endcon/endcon/yaml/Cursor" "file" "Ljava/lang/String;" .null := (F_file_b46.ext E49)
    have fa57 : Fld Z h49 b46 "com/example/endcon/endcon/yaml/Cursor" "text" "[C" .null := (F_text_b46.ext E49)
    have fa58 : Fld Z h49 b46 "com/example/endcon/endcon/yaml/Cursor" "end" "I" (.int (0 : Int32)) := (F_end_b46.ext E49)
    have fa59 : Fld Z h49 b46 "com/example/endcon/endcon/yaml/Cursor" "hasSurrogates" "Z" (.int (0 : Int32)) := (F_hasSurrogates_b46.ext E49)
    have fa60 : Fld Z h49 b46 "com/example/endcon/endcon/yaml/Cursor" "pos" "I" (.int (0 : Int32)) := (F_pos_b46.ext E49)
    have fa61 : Fld Z h49 b46 "com/example/endcon/endcon/yaml/Cursor" "lineStart" "I" (.int (0 : Int32)) := (F_lineStart_b46.ext E49)
    have fa62 : Arv Z h49 b1 k1 .char (4 : Int32) [(.int (nar .char ((p5 &&& (255 : Int32)).toUInt32.toUInt16.toUInt32.toInt32))), (.int (nar .char ((((p5.toUInt32 >>> ((8 : Int32) &&& 31).toUInt32).toInt32) &&& (255 : Int32)).toUInt32.toUInt16.toUInt32.toInt32))), (.int (nar .char ((p6 &&& (255 : Int32)).toUInt32.toUInt16.toUInt32.toInt32))), (.int (nar .char (13 : Int32)))] (.int (0 : Int32)) := ((V44.ext E46).ext E49)
    obtain ⟨_, T51, Lc51, X51, hQ51, st51⟩ := own_callI X49 hx hZ (y := (⟨"com/example/endcon/endcon/yaml/Cursor", "<init>", "(Ljava/lang/String;[CI)V"⟩ : MethodName)) rfl hown (hw _ (List.mem_of_getElem? (i := 17) rfl)) (hw _ (List.mem_of_getElem? (i := 18) rfl)) (hw _ (List.mem_of_getElem? (i := 8) rfl)) (hw _ (List.mem_of_getElem? (i := 19) rfl)) (by decide) (W := 1) (a := b46) (argsL := [(.ref sa49), (.ref b1), (.int ((1 : Int32) + (p1 &&& (3 : Int32))))]) (rest := [(.ref b46)]) (rm2 l Z a0 hw [] b46 sa49 b1 ((1 : Int32) + (p1 &&& (3 : Int32))) (nar .char ((p5 &&& (255 : Int32)).toUInt32.toUInt16.toUInt32.toInt32)) (nar .char ((((p5.toUInt32 >>> ((8 : Int32) &&& 31).toUInt32).toInt32) &&& (255 : Int32)).toUInt32.toUInt16.toUInt32.toInt32)) (nar .char ((p6 &&& (255 : Int32)).toUInt32.toUInt16.toUInt32.toInt32)) (nar .char (13 : Int32)) k1 h49 n0 zs50 fa52 fa53 fa54 fa55 fa56 fa57 fa58 fa59 fa60 fa61 g_b46 fa62 (Ne.symm ne_b1_b46) (own_n4 p1) (own_lt1 p5) (own_lt2 p5) (own_lt1 p6) (by decide)) (by decide) (by decide) (c' := 4) (s' := 24) rfl rfl (by decide) (by decide) e49 (g := (mkF m 130 #[.val (.int p1), .val (.int p2), .val (.int p3), .val (.int p4), .val (.int p5), .val (.int p6), .val (.int ((1 : Int32) + (p1 &&& (3 : Int32)))), .val (.int (3 : Int32)), .val (.ref b1), .val (.int (1 : Int32)), .unset, .unset, .unset, .unset] [(.int ((1 : Int32) + (p1 &&& (3 : Int32)))), (.ref b1), (.ref sa49), (.ref b46), (.ref b46)])) rfl (by rw [hml]; rfl) (lenOf pd_0_1 rfl) rfl (by show 2 * 0 + _ ≤ _; exact Nat.le_of_eq rfl) (hb hby at_130)
    obtain ⟨rfl, N51q, K51, Ec51_a1, Fc51_a1_line, Fc51_a1_blankLinesFrom, Fc51_a1_countedIndex, Fc51_a1_file, Fc51_a1_text, Fc51_a1_end, Fc51_a1_hasSurrogates, Fc51_a1_pos, Fc51_a1_lineStart⟩ := hQ51
    have N51 := Fr.app N44 N51q
    have zk63 : kk49 ≤ T51.heap.size := Nat.le_trans hkk49 K51.1
    have zs64 : n0 ≤ T51.heap.size := Nat.le_trans zs50 K51.1
    obtain ⟨_, T65, Lc65, X65, hQ65, st65⟩ := own_callV X51 hx hZ (y := (⟨"com/example/endcon/endcon/yaml/Cursor", "moveTo", "(I)V"⟩ : MethodName)) hown (hw _ (List.mem_of_getElem? (i := 43) rfl)) (hw _ (List.mem_of_getElem? (i := 44) rfl)) (hw _ (List.mem_of_getElem? (i := 46) rfl)) (hw _ (List.mem_of_getElem? (i := 45) rfl)) (hw _ (List.mem_of_getElem? (i := 8) rfl)) (hw _ (List.mem_of_getElem? (i := 47) rfl)) (by decide) (W := 0) Ec51_a1 (argsL := [(.int (3 : Int32))]) (rest := []) (rm5 l Z a0 hw [] b46 (3 : Int32) b1 ((1 : Int32) + (p1 &&& (3 : Int32))) (0 : Int32) (1 : Int32) (0 : Int32) T51.heap n0 zs64 Ec51_a1 Fc51_a1_text Fc51_a1_end Fc51_a1_pos Fc51_a1_line Fc51_a1_lineStart g_b46) (by decide) (by decide) (c' := 4) (s' := 24) rfl rfl (by decide) (by decide) rfl (g := (mkF m 139 #[.val (.int p1), .val (.int p2), .val (.int p3), .val (.int p4), .val (.int p5), .val (.int p6), .val (.int ((1 : Int32) + (p1 &&& (3 : Int32)))), .val (.int (3 : Int32)), .val (.ref b1), .val (.int (1 : Int32)), .val (.ref b46), .unset, .unset, .unset] [(.int (3 : Int32)), (.ref b46)])) rfl (by rw [hml]; rfl) (lenOf pd_0_4 rfl) rfl (by show 2 * 0 + _ ≤ _; exact Nat.le_of_eq rfl) (hb hby at_139)
    obtain ⟨rfl, N65q, K65, Ec65_a1, Fc65_a1_text, Fc65_a1_end, Fc65_a1_pos, Fc65_a1_line, Fc65_a1_lineStart⟩ := hQ65
    have N65 := Fr.app N51 N65q
    have zk66 : kk49 ≤ T65.heap.size := Nat.le_trans zk63 K65.1
    have zs67 : n0 ≤ T65.heap.size := Nat.le_trans zs64 K65.1
    have fa69 : Arv Z T65.heap b1 k1 .char (4 : Int32) [(.int (nar .char ((p5 &&& (255 : Int32)).toUInt32.toUInt16.toUInt32.toInt32))), (.int (nar .char ((((p5.toUInt32 >>> ((8 : Int32) &&& 31).toUInt32).toInt32) &&& (255 : Int32)).toUInt32.toUInt16.toUInt32.toInt32))), (.int (nar .char ((p6 &&& (255 : Int32)).toUInt32.toUInt16.toUInt32.toInt32))), (.int (nar .char (13 : Int32)))] (.int (0 : Int32)) := ((fa62.keep K51 (ninS ne_b1_b46 nin0)).keep K65 (ninS ne_b1_b46 nin0))
    obtain ⟨_, T68, Lc68, X68, hQ68, st68⟩ := own_callV X65 hx hZ (y := (⟨"com/example/endcon/endcon/yaml/Cursor", "newLine", "()V"⟩ : MethodName)) hown (hw _ (List.mem_of_getElem? (i := 50) rfl)) (hw _ (List.mem_of_getElem? (i := 51) rfl)) (hw _ (List.mem_of_getElem? (i := 53) rfl)) (hw _ (List.mem_of_getElem? (i := 52) rfl)) (hw _ (List.mem_of_getElem? (i := 8) rfl)) (hw _ (List.mem_of_getElem? (i := 54) rfl)) (by decide) (W := 0) Ec65_a1 (argsL := []) (rest := []) (rm6 l Z a0 hw [] b46 b1 (nar .char ((p5 &&& (255 : Int32)).toUInt32.toUInt16.toUInt32.toInt32)) (nar .char ((((p5.toUInt32 >>> ((8 : Int32) &&& 31).toUInt32).toInt32) &&& (255 : Int32)).toUInt32.toUInt16.toUInt32.toInt32)) (nar .char ((p6 &&& (255 : Int32)).toUInt32.toUInt16.toUInt32.toInt32)) (nar .char (13 : Int32)) ((1 : Int32) + (p1 &&& (3 : Int32))) (3 : Int32) (1 : Int32) (0 : Int32) k1 T65.heap n0 zs67 Ec65_a1 Fc65_a1_text Fc65_a1_end Fc65_a1_pos Fc65_a1_line Fc65_a1_lineStart g_b46 fa69 ne_b1_b46 (by decide) (by decide) (fun h => absurd h (own_n4 p1))) (by decide) (by decide) (c' := 4) (s' := 24) rfl rfl (by decide) (by decide) rfl (g := (mkF m 144 #[.val (.int p1), .val (.int p2), .val (.int p3), .val (.int p4), .val (.int p5), .val (.int p6), .val (.int ((1 : Int32) + (p1 &&& (3 : Int32)))), .val (.int (3 : Int32)), .val (.ref b1), .val (.int (1 : Int32)), .val (.ref b46), .unset, .unset, .unset] [(.ref b46)])) rfl (by rw [hml]; rfl) (lenOf pd_0_2 rfl) rfl (by show 2 * 0 + _ ≤ _; exact Nat.le_of_eq rfl) (hb hby at_144)
    obtain ⟨hv68, N68q, K68, Ec68_a1, Fc68_a1_text, Fc68_a1_end, Fc68_a1_pos, Fc68_a1_line, Fc68_a1_lineStart⟩ := hQ68
    have N68 := Fr.app N65 N68q
    have pre70 : ∀ t, Steps p.tables e below (T65.setTop (mkF m 144 #[.val (.int p1), .val (.int p2), .val (.int p3), .val (.int p4), .val (.int p5), .val (.int p6), .val (.int ((1 : Int32) + (p1 &&& (3 : Int32)))), .val (.int (3 : Int32)), .val (.ref b1), .val (.int (1 : Int32)), .val (.ref b46), .unset, .unset, .unset] [(.ref b46)])) t → Steps p.tables e below (s₁.setTop (entryFrame m #[(.int p1), (.int p2), (.int p3), (.int p4), (.int p5), (.int p6)] maxLocals)) t := fun t kt => by
      refine pre48 _ ?_
      show Steps p.tables e below (T46.setTop (mkF m 124 #[.val (.int p1), .val (.int p2), .val (.int p3), .val (.int p4), .val (.int p5), .val (.int p6), .val (.int ((1 : Int32) + (p1 &&& (3 : Int32)))), .val (.int (3 : Int32)), .val (.ref b1), .val (.int (1 : Int32)), .unset, .unset, .unset, .unset] [(.ref b46), (.ref b46)])) _
      refine st49 _ ?_
      show Steps p.tables e below (T49.setTop (mkF m 126 #[.val (.int p1), .val (.int p2), .val (.int p3), .val (.int p4), .val (.int p5), .val (.int p6), .val (.int ((1 : Int32) + (p1 &&& (3 : Int32)))), .val (.int (3 : Int32)), .val (.ref b1), .val (.int (1 : Int32)), .unset, .unset, .unset, .unset] [(.ref sa49), (.ref b46), (.ref b46)])) _
      refine own_blk X49 hx bl0_126_2 (own_hb hby bd0_126_2) (pc' := 130) (Ls' := #[.val (.int p1), .val (.int p2), .val (.int p3), .val (.int p4), .val (.int p5), .val (.int p6), .val (.int ((1 : Int32) + (p1 &&& (3 : Int32)))), .val (.int (3 : Int32)), .val (.ref b1), .val (.int (1 : Int32)), .unset, .unset, .unset, .unset]) (st' := [(.int ((1 : Int32) + (p1 &&& (3 : Int32)))), (.ref b1), (.ref sa49), (.ref b46), (.ref b46)]) rfl ?_
      refine st51 _ ?_
      show Steps p.tables e below (T51.setTop (mkF m 133 #[.val (.int p1), .val (.int p2), .val (.int p3), .val (.int p4), .val (.int p5), .val (.int p6), .val (.int ((1 : Int32) + (p1 &&& (3 : Int32)))), .val (.int (3 : Int32)), .val (.ref b1), .val (.int (1 : Int32)), .unset, .unset, .unset, .unset] [(.ref b46)])) _
      refine own_blk X51 hx bl0_133_1 (own_hb hby bd0_133_1) (pc' := 135) (Ls' := #[.val (.int p1), .val (.int p2), .val (.int p3), .val (.int p4), .val (.int p5), .val (.int p6), .val (.int ((1 : Int32) + (p1 &&& (3 : Int32)))), .val (.int (3 : Int32)), .val (.ref b1), .val (.int (1 : Int32)), .val (.ref b46), .unset, .unset, .unset]) (st' := []) rfl ?_
      refine own_blk X51 hx bl0_135_2 (own_hb hby bd0_135_2) (pc' := 139) (Ls' := #[.val (.int p1), .val (.int p2), .val (.int p3), .val (.int p4), .val (.int p5), .val (.int p6), .val (.int ((1 : Int32) + (p1 &&& (3 : Int32)))), .val (.int (3 : Int32)), .val (.ref b1), .val (.int (1 : Int32)), .val (.ref b46), .unset, .unset, .unset]) (st' := [(.int (3 : Int32)), (.ref b46)]) rfl ?_
      refine st65 _ ?_
      show Steps p.tables e below (T65.setTop (mkF m 142 #[.val (.int p1), .val (.int p2), .val (.int p3), .val (.int p4), .val (.int p5), .val (.int p6), .val (.int ((1 : Int32) + (p1 &&& (3 : Int32)))), .val (.int (3 : Int32)), .val (.ref b1), .val (.int (1 : Int32)), .val (.ref b46), .unset, .unset, .unset] [])) _
      refine own_blk X65 hx bl0_142_1 (own_hb hby bd0_142_1) (pc' := 144) (Ls' := #[.val (.int p1), .val (.int p2), .val (.int p3), .val (.int p4), .val (.int p5), .val (.int p6), .val (.int ((1 : Int32) + (p1 &&& (3 : Int32)))), .val (.int (3 : Int32)), .val (.ref b1), .val (.int (1 : Int32)), .val (.ref b46), .unset, .unset, .unset]) (st' := [(.ref b46)]) rfl ?_
      exact kt
    by_cases hc71 : (4 : Int32) = ((1 : Int32) + (p1 &&& (3 : Int32)))
    · subst hv68
      have lFc68_a1_pos : Fld Z T68.heap b46 "com/example/endcon/endcon/yaml/Cursor" "pos" "I" (.int ((3 : Int32) + (1 : Int32))) := by have q := Fc68_a1_pos; rw [f6_a1_pos, if_pos (show (own_at4 (nar .char ((p5 &&& (255 : Int32)).toUInt32.toUInt16.toUInt32.toInt32)) (nar .char ((((p5.toUInt32 >>> ((8 : Int32) &&& 31).toUInt32).toInt32) &&& (255 : Int32)).toUInt32.toUInt16.toUInt32.toInt32)) (nar .char ((p6 &&& (255 : Int32)).toUInt32.toUInt16.toUInt32.toInt32)) (nar .char (13 : Int32)) (3 : Int32)) = (13 : Int32) from (by decide : (nar .char (13 : Int32)) = (13 : Int32))), if_pos (show ((3 : Int32) + (1 : Int32)) = ((1 : Int32) + (p1 &&& (3 : Int32))) from hc71), if_neg (show ¬ (((3 : Int32) + (1 : Int32)) < ((1 : Int32) + (p1 &&& (3 : Int32)))) from (own_n4 p1))] at q; exact q
      have lFc68_a1_line : Fld Z T68.heap b46 "com/example/endcon/endcon/yaml/Cursor" "line" "I" (.int (1 : Int32)) := by have q := Fc68_a1_line; rw [f6_a1_line, if_pos (show (own_at4 (nar .char ((p5 &&& (255 : Int32)).toUInt32.toUInt16.toUInt32.toInt32)) (nar .char ((((p5.toUInt32 >>> ((8 : Int32) &&& 31).toUInt32).toInt32) &&& (255 : Int32)).toUInt32.toUInt16.toUInt32.toInt32)) (nar .char ((p6 &&& (255 : Int32)).toUInt32.toUInt16.toUInt32.toInt32)) (nar .char (13 : Int32)) (3 : Int32)) = (13 : Int32) from (by decide : (nar .char (13 : Int32)) = (13 : Int32))), if_pos (show ((3 : Int32) + (1 : Int32)) = ((1 : Int32) + (p1 &&& (3 : Int32))) from hc71), if_neg (show ¬ (((3 : Int32) + (1 : Int32)) < ((1 : Int32) + (p1 &&& (3 : Int32)))) from (own_n4 p1))] at q; exact q
      have lFc68_a1_lineStart : Fld Z T68.heap b46 "com/example/endcon/endcon/yaml/Cursor" "lineStart" "I" (.int (0 : Int32)) := by have q := Fc68_a1_lineStart; rw [f6_a1_lineStart, if_pos (show (own_at4 (nar .char ((p5 &&& (255 : Int32)).toUInt32.toUInt16.toUInt32.toInt32)) (nar .char ((((p5.toUInt32 >>> ((8 : Int32) &&& 31).toUInt32).toInt32) &&& (255 : Int32)).toUInt32.toUInt16.toUInt32.toInt32)) (nar .char ((p6 &&& (255 : Int32)).toUInt32.toUInt16.toUInt32.toInt32)) (nar .char (13 : Int32)) (3 : Int32)) = (13 : Int32) from (by decide : (nar .char (13 : Int32)) = (13 : Int32))), if_pos (show ((3 : Int32) + (1 : Int32)) = ((1 : Int32) + (p1 &&& (3 : Int32))) from hc71), if_neg (show ¬ (((3 : Int32) + (1 : Int32)) < ((1 : Int32) + (p1 &&& (3 : Int32)))) from (own_n4 p1))] at q; exact q
      have zk72 : kk49 ≤ T68.heap.size := Nat.le_trans zk66 K68.1
      have zs73 : n0 ≤ T68.heap.size := Nat.le_trans zs67 K68.1
      obtain ⟨_, T74, Lc74, X74, hQ74, st74⟩ := own_callV X68 hx hZ (y := (⟨"com/example/endcon/endcon/yaml/Cursor", "index", "()I"⟩ : MethodName)) hown (hw _ (List.mem_of_getElem? (i := 57) rfl)) (hw _ (List.mem_of_getElem? (i := 58) rfl)) (hw _ (List.mem_of_getElem? (i := 60) rfl)) (hw _ (List.mem_of_getElem? (i := 59) rfl)) (hw _ (List.mem_of_getElem? (i := 8) rfl)) (hw _ (List.mem_of_getElem? (i := 61) rfl)) (by decide) (W := 0) Ec68_a1 (argsL := []) (rest := []) (rm7 l Z a0 hw [] b46 ((3 : Int32) + (1 : Int32)) T68.heap n0 zs73 Ec68_a1 lFc68_a1_pos) (by decide) (by decide) (c' := 4) (s' := 24) rfl rfl (by decide) (by decide) rfl (g := (mkF m 237 #[.val (.int p1), .val (.int p2), .val (.int p3), .val (.int p4), .val (.int p5), .val (.int p6), .val (.int ((1 : Int32) + (p1 &&& (3 : Int32)))), .val (.int (3 : Int32)), .val (.ref b1), .val (.int (1 : Int32)), .val (.ref b46), .val (.int (4 : Int32)), .val (.int (1 : Int32)), .val (.int (0 : Int32))] [(.ref b46)])) rfl (by rw [hml]; rfl) (lenOf pd_0_5 rfl) rfl (by show 2 * 0 + _ ≤ _; exact Nat.le_of_eq rfl) (hb hby at_237)
      obtain ⟨hv74, N74q, e74⟩ := hQ74
      have N74 := Fr.app N68 N74q
      rw [f7] at hv74
      subst hv74
      obtain ⟨_, T75, Lc75, X75, hQ75, st75⟩ := own_callV X74 hx hZ (y := (⟨"com/example/endcon/endcon/yaml/Cursor", "line", "()I"⟩ : MethodName)) hown (hw _ (List.mem_of_getElem? (i := 62) rfl)) (hw _ (List.mem_of_getElem? (i := 63) rfl)) (hw _ (List.mem_of_getElem? (i := 65) rfl)) (hw _ (List.mem_of_getElem? (i := 64) rfl)) (hw _ (List.mem_of_getElem? (i := 8) rfl)) (hw _ (List.mem_of_getElem? (i := 66) rfl)) (by decide) (W := 0) Ec68_a1 (argsL := []) (rest := []) (rm8 l Z a0 hw [] b46 (1 : Int32) T68.heap n0 zs73 Ec68_a1 lFc68_a1_line) (by decide) (by decide) (c' := 4) (s' := 24) rfl rfl (by decide) (by decide) e74 (g := (mkF m 247 #[.val (.int p1), .val (.int p2), .val (.int p3), .val (.int p4), .val (.int p5), .val (.int p6), .val (.int ((1 : Int32) + (p1 &&& (3 : Int32)))), .val (.int (3 : Int32)), .val (.ref b1), .val (.int (1 : Int32)), .val (.ref b46), .val (.int (4 : Int32)), .val (.int (1 : Int32)), .val (.int (0 : Int32))] [(.ref b46)])) rfl (by rw [hml]; rfl) (lenOf pd_0_5 rfl) rfl (by show 2 * 0 + _ ≤ _; exact Nat.le_of_eq rfl) (hb hby at_247)
      obtain ⟨hv75, N75q, e75⟩ := hQ75
      have N75 := Fr.app N74 N75q
      rw [f8] at hv75
      subst hv75
      obtain ⟨_, T76, Lc76, X76, hQ76, st76⟩ := own_callV X75 hx hZ (y := (⟨"com/example/endcon/endcon/yaml/Cursor", "lineStart", "()I"⟩ : MethodName)) hown (hw _ (List.mem_of_getElem? (i := 67) rfl)) (hw _ (List.mem_of_getElem? (i := 68) rfl)) (hw _ (List.mem_of_getElem? (i := 70) rfl)) (hw _ (List.mem_of_getElem? (i := 69) rfl)) (hw _ (List.mem_of_getElem? (i := 8) rfl)) (hw _ (List.mem_of_getElem? (i := 71) rfl)) (by decide) (W := 0) Ec68_a1 (argsL := []) (rest := []) (rm9 l Z a0 hw [] b46 (0 : Int32) T68.heap n0 zs73 Ec68_a1 lFc68_a1_lineStart) (by decide) (by decide) (c' := 4) (s' := 24) rfl rfl (by decide) (by decide) e75 (g := (mkF m 257 #[.val (.int p1), .val (.int p2), .val (.int p3), .val (.int p4), .val (.int p5), .val (.int p6), .val (.int ((1 : Int32) + (p1 &&& (3 : Int32)))), .val (.int (3 : Int32)), .val (.ref b1), .val (.int (1 : Int32)), .val (.ref b46), .val (.int (4 : Int32)), .val (.int (1 : Int32)), .val (.int (0 : Int32))] [(.ref b46)])) rfl (by rw [hml]; rfl) (lenOf pd_0_5 rfl) rfl (by show 2 * 0 + _ ≤ _; exact Nat.le_of_eq rfl) (hb hby at_257)
      obtain ⟨hv76, N76q, e76⟩ := hQ76
      have N76 := Fr.app N75 N76q
      rw [f9] at hv76
      subst hv76
      obtain ⟨fs, hr, hrun, hended, hRW⟩ := X76.leaveW (s := s) hS49 (by rw [e76]; exact zk72) (v := some (.int (1 : Int32))) (fun h => by rw [Bd.returns] at h; cases h)
      refine ⟨_, _, pre70 _ ?_, hrun, hended, _, _, rfl, ?_, ⟨_, rfl⟩, hRW.2.1, hRW.2.2.1, hRW.2.2.2.mono (by decide) (by decide)⟩
      · refine st68 _ ?_
        show Steps p.tables e below (T68.setTop (mkF m 147 #[.val (.int p1), .val (.int p2), .val (.int p3), .val (.int p4), .val (.int p5), .val (.int p6), .val (.int ((1 : Int32) + (p1 &&& (3 : Int32)))), .val (.int (3 : Int32)), .val (.ref b1), .val (.int (1 : Int32)), .val (.ref b46), .unset, .unset, .unset] [])) _
        refine own_blk X68 hx bl0_147_1 (own_hb hby bd0_147_1) (pc' := 149) (Ls' := #[.val (.int p1), .val (.int p2), .val (.int p3), .val (.int p4), .val (.int p5), .val (.int p6), .val (.int ((1 : Int32) + (p1 &&& (3 : Int32)))), .val (.int (3 : Int32)), .val (.ref b1), .val (.int (1 : Int32)), .val (.ref b46), .unset, .unset, .unset]) (st' := [(.int (1 : Int32))]) rfl ?_
        refine XS.ifNo X68.here hx rfl (hb hby at_149) rfl ((if0 _ _).trans (feq (by decide : ¬ ((1 : Int32) = (0 : Int32)))).1) ?_
        show Steps p.tables e below (T68.setTop (mkF m 152 #[.val (.int p1), .val (.int p2), .val (.int p3), .val (.int p4), .val (.int p5), .val (.int p6), .val (.int ((1 : Int32) + (p1 &&& (3 : Int32)))), .val (.int (3 : Int32)), .val (.ref b1), .val (.int (1 : Int32)), .val (.ref b46), .unset, .unset, .unset] [])) _
        refine own_blk X68 hx bl0_152_4 (own_hb hby bd0_152_4) (pc' := 158) (Ls' := #[.val (.int p1), .val (.int p2), .val (.int p3), .val (.int p4), .val (.int p5), .val (.int p6), .val (.int ((1 : Int32) + (p1 &&& (3 : Int32)))), .val (.int (3 : Int32)), .val (.ref b1), .val (.int (1 : Int32)), .val (.ref b46), .unset, .unset, .unset]) (st' := [(.int ((1 : Int32) + (p1 &&& (3 : Int32)))), (.int (4 : Int32))]) rfl ?_
        refine XS.icmpNo X68.here hx rfl (hb hby at_158) rfl (teq hc71).2 ?_
        show Steps p.tables e below (T68.setTop (mkF m 161 #[.val (.int p1), .val (.int p2), .val (.int p3), .val (.int p4), .val (.int p5), .val (.int p6), .val (.int ((1 : Int32) + (p1 &&& (3 : Int32)))), .val (.int (3 : Int32)), .val (.ref b1), .val (.int (1 : Int32)), .val (.ref b46), .unset, .unset, .unset] [])) _
        refine own_blk X68 hx bl0_161_4 (own_hb hby bd0_161_4) (pc' := 167) (Ls' := #[.val (.int p1), .val (.int p2), .val (.int p3), .val (.int p4), .val (.int p5), .val (.int p6), .val (.int ((1 : Int32) + (p1 &&& (3 : Int32)))), .val (.int (3 : Int32)), .val (.ref b1), .val (.int (1 : Int32)), .val (.ref b46), .val (.int (4 : Int32)), .unset, .unset]) (st' := []) rfl ?_
        refine own_blk X68 hx bl0_167_2 (own_hb hby bd0_167_2) (pc' := 170) (Ls' := #[.val (.int p1), .val (.int p2), .val (.int p3), .val (.int p4), .val (.int p5), .val (.int p6), .val (.int ((1 : Int32) + (p1 &&& (3 : Int32)))), .val (.int (3 : Int32)), .val (.ref b1), .val (.int (1 : Int32)), .val (.ref b46), .val (.int (4 : Int32)), .val (.int (1 : Int32)), .unset]) (st' := []) rfl ?_
        refine own_blk X68 hx bl0_170_2 (own_hb hby bd0_170_2) (pc' := 173) (Ls' := #[.val (.int p1), .val (.int p2), .val (.int p3), .val (.int p4), .val (.int p5), .val (.int p6), .val (.int ((1 : Int32) + (p1 &&& (3 : Int32)))), .val (.int (3 : Int32)), .val (.ref b1), .val (.int (1 : Int32)), .val (.ref b46), .val (.int (4 : Int32)), .val (.int (1 : Int32)), .val (.int (0 : Int32))]) (st' := []) rfl ?_
        refine own_blk X68 hx bl0_173_2 (own_hb hby bd0_173_2) (pc' := 237) (Ls' := #[.val (.int p1), .val (.int p2), .val (.int p3), .val (.int p4), .val (.int p5), .val (.int p6), .val (.int ((1 : Int32) + (p1 &&& (3 : Int32)))), .val (.int (3 : Int32)), .val (.ref b1), .val (.int (1 : Int32)), .val (.ref b46), .val (.int (4 : Int32)), .val (.int (1 : Int32)), .val (.int (0 : Int32))]) (st' := [(.ref b46)]) rfl ?_
        refine st74 _ ?_
        show Steps p.tables e below (T74.setTop (mkF m 240 #[.val (.int p1), .val (.int p2), .val (.int p3), .val (.int p4), .val (.int p5), .val (.int p6), .val (.int ((1 : Int32) + (p1 &&& (3 : Int32)))), .val (.int (3 : Int32)), .val (.ref b1), .val (.int (1 : Int32)), .val (.ref b46), .val (.int (4 : Int32)), .val (.int (1 : Int32)), .val (.int (0 : Int32))] [(.int ((3 : Int32) + (1 : Int32)))])) _
        refine own_blk X74 hx bl0_240_1 (own_hb hby bd0_240_1) (pc' := 242) (Ls' := #[.val (.int p1), .val (.int p2), .val (.int p3), .val (.int p4), .val (.int p5), .val (.int p6), .val (.int ((1 : Int32) + (p1 &&& (3 : Int32)))), .val (.int (3 : Int32)), .val (.ref b1), .val (.int (1 : Int32)), .val (.ref b46), .val (.int (4 : Int32)), .val (.int (1 : Int32)), .val (.int (0 : Int32))]) (st' := [(.int (4 : Int32)), (.int ((3 : Int32) + (1 : Int32)))]) rfl ?_
        refine XS.icmpNo X74.here hx rfl (hb hby at_242) rfl (teq (show ((3 : Int32) + (1 : Int32)) = (4 : Int32) from (by decide : (4 : Int32) = (4 : Int32)))).2 ?_
        show Steps p.tables e below (T74.setTop (mkF m 245 #[.val (.int p1), .val (.int p2), .val (.int p3), .val (.int p4), .val (.int p5), .val (.int p6), .val (.int ((1 : Int32) + (p1 &&& (3 : Int32)))), .val (.int (3 : Int32)), .val (.ref b1), .val (.int (1 : Int32)), .val (.ref b46), .val (.int (4 : Int32)), .val (.int (1 : Int32)), .val (.int (0 : Int32))] [])) _
        refine own_blk X74 hx bl0_245_1 (own_hb hby bd0_245_1) (pc' := 247) (Ls' := #[.val (.int p1), .val (.int p2), .val (.int p3), .val (.int p4), .val (.int p5), .val (.int p6), .val (.int ((1 : Int32) + (p1 &&& (3 : Int32)))), .val (.int (3 : Int32)), .val (.ref b1), .val (.int (1 : Int32)), .val (.ref b46), .val (.int (4 : Int32)), .val (.int (1 : Int32)), .val (.int (0 : Int32))]) (st' := [(.ref b46)]) rfl ?_
        refine st75 _ ?_
        show Steps p.tables e below (T75.setTop (mkF m 250 #[.val (.int p1), .val (.int p2), .val (.int p3), .val (.int p4), .val (.int p5), .val (.int p6), .val (.int ((1 : Int32) + (p1 &&& (3 : Int32)))), .val (.int (3 : Int32)), .val (.ref b1), .val (.int (1 : Int32)), .val (.ref b46), .val (.int (4 : Int32)), .val (.int (1 : Int32)), .val (.int (0 : Int32))] [(.int (1 : Int32))])) _
        refine own_blk X75 hx bl0_250_1 (own_hb hby bd0_250_1) (pc' := 252) (Ls' := #[.val (.int p1), .val (.int p2), .val (.int p3), .val (.int p4), .val (.int p5), .val (.int p6), .val (.int ((1 : Int32) + (p1 &&& (3 : Int32)))), .val (.int (3 : Int32)), .val (.ref b1), .val (.int (1 : Int32)), .val (.ref b46), .val (.int (4 : Int32)), .val (.int (1 : Int32)), .val (.int (0 : Int32))]) (st' := [(.int (1 : Int32)), (.int (1 : Int32))]) rfl ?_
        refine XS.icmpNo X75.here hx rfl (hb hby at_252) rfl (teq (by decide : (1 : Int32) = (1 : Int32))).2 ?_
        show Steps p.tables e below (T75.setTop (mkF m 255 #[.val (.int p1), .val (.int p2), .val (.int p3), .val (.int p4), .val (.int p5), .val (.int p6), .val (.int ((1 : Int32) + (p1 &&& (3 : Int32)))), .val (.int (3 : Int32)), .val (.ref b1), .val (.int (1 : Int32)), .val (.ref b46), .val (.int (4 : Int32)), .val (.int (1 : Int32)), .val (.int (0 : Int32))] [])) _
        refine own_blk X75 hx bl0_255_1 (own_hb hby bd0_255_1) (pc' := 257) (Ls' := #[.val (.int p1), .val (.int p2), .val (.int p3), .val (.int p4), .val (.int p5), .val (.int p6), .val (.int ((1 : Int32) + (p1 &&& (3 : Int32)))), .val (.int (3 : Int32)), .val (.ref b1), .val (.int (1 : Int32)), .val (.ref b46), .val (.int (4 : Int32)), .val (.int (1 : Int32)), .val (.int (0 : Int32))]) (st' := [(.ref b46)]) rfl ?_
        refine st76 _ ?_
        show Steps p.tables e below (T76.setTop (mkF m 260 #[.val (.int p1), .val (.int p2), .val (.int p3), .val (.int p4), .val (.int p5), .val (.int p6), .val (.int ((1 : Int32) + (p1 &&& (3 : Int32)))), .val (.int (3 : Int32)), .val (.ref b1), .val (.int (1 : Int32)), .val (.ref b46), .val (.int (4 : Int32)), .val (.int (1 : Int32)), .val (.int (0 : Int32))] [(.int (0 : Int32))])) _
        refine own_blk X76 hx bl0_260_1 (own_hb hby bd0_260_1) (pc' := 262) (Ls' := #[.val (.int p1), .val (.int p2), .val (.int p3), .val (.int p4), .val (.int p5), .val (.int p6), .val (.int ((1 : Int32) + (p1 &&& (3 : Int32)))), .val (.int (3 : Int32)), .val (.ref b1), .val (.int (1 : Int32)), .val (.ref b46), .val (.int (4 : Int32)), .val (.int (1 : Int32)), .val (.int (0 : Int32))]) (st' := [(.int (0 : Int32)), (.int (0 : Int32))]) rfl ?_
        refine XS.icmpNo X76.here hx rfl (hb hby at_262) rfl (teq (by decide : (0 : Int32) = (0 : Int32))).2 ?_
        show Steps p.tables e below (T76.setTop (mkF m 265 #[.val (.int p1), .val (.int p2), .val (.int p3), .val (.int p4), .val (.int p5), .val (.int p6), .val (.int ((1 : Int32) + (p1 &&& (3 : Int32)))), .val (.int (3 : Int32)), .val (.ref b1), .val (.int (1 : Int32)), .val (.ref b46), .val (.int (4 : Int32)), .val (.int (1 : Int32)), .val (.int (0 : Int32))] [])) _
        refine own_blk X76 hx bl0_265_2 (own_hb hby bd0_265_2) (pc' := 270) (Ls' := #[.val (.int p1), .val (.int p2), .val (.int p3), .val (.int p4), .val (.int p5), .val (.int p6), .val (.int ((1 : Int32) + (p1 &&& (3 : Int32)))), .val (.int (3 : Int32)), .val (.ref b1), .val (.int (1 : Int32)), .val (.ref b46), .val (.int (4 : Int32)), .val (.int (1 : Int32)), .val (.int (0 : Int32))]) (st' := [(.int (1 : Int32))]) rfl ?_
        exact retN X76 hx (t := .boolean) Bd.returns (by simp) (hb hby at_270) hr
      · show Q0_3 Z p1 p2 p3 p4 p5 p6 h0 n0 _ T76.heap _
        rw [e76]
        exact ⟨by rw [f0_3, if_neg hc12, if_pos hc71], N76⟩
    · subst hv68
      have lFc68_a1_pos : Fld Z T68.heap b46 "com/example/endcon/endcon/yaml/Cursor" "pos" "I" (.int ((3 : Int32) + (1 : Int32))) := by have q := Fc68_a1_pos; rw [f6_a1_pos, if_pos (show (own_at4 (nar .char ((p5 &&& (255 : Int32)).toUInt32.toUInt16.toUInt32.toInt32)) (nar .char ((((p5.toUInt32 >>> ((8 : Int32) &&& 31).toUInt32).toInt32) &&& (255 : Int32)).toUInt32.toUInt16.toUInt32.toInt32)) (nar .char ((p6 &&& (255 : Int32)).toUInt32.toUInt16.toUInt32.toInt32)) (nar .char (13 : Int32)) (3 : Int32)) = (13 : Int32) from (by decide : (nar .char (13 : Int32)) = (13 : Int32))), if_neg (show ¬ (((3 : Int32) + (1 : Int32)) = ((1 : Int32) + (p1 &&& (3 : Int32)))) from hc71), if_neg (show ¬ (((3 : Int32) + (1 : Int32)) < ((1 : Int32) + (p1 &&& (3 : Int32)))) from (own_n4 p1))] at q; exact q
      have lFc68_a1_line : Fld Z T68.heap b46 "com/example/endcon/endcon/yaml/Cursor" "line" "I" (.int ((1 : Int32) + (1 : Int32))) := by have q := Fc68_a1_line; rw [f6_a1_line, if_pos (show (own_at4 (nar .char ((p5 &&& (255 : Int32)).toUInt32.toUInt16.toUInt32.toInt32)) (nar .char ((((p5.toUInt32 >>> ((8 : Int32) &&& 31).toUInt32).toInt32) &&& (255 : Int32)).toUInt32.toUInt16.toUInt32.toInt32)) (nar .char ((p6 &&& (255 : Int32)).toUInt32.toUInt16.toUInt32.toInt32)) (nar .char (13 : Int32)) (3 : Int32)) = (13 : Int32) from (by decide : (nar .char (13 : Int32)) = (13 : Int32))), if_neg (show ¬ (((3 : Int32) + (1 : Int32)) = ((1 : Int32) + (p1 &&& (3 : Int32)))) from hc71), if_neg (show ¬ (((3 : Int32) + (1 : Int32)) < ((1 : Int32) + (p1 &&& (3 : Int32)))) from (own_n4 p1))] at q; exact q
      have lFc68_a1_lineStart : Fld Z T68.heap b46 "com/example/endcon/endcon/yaml/Cursor" "lineStart" "I" (.int ((3 : Int32) + (1 : Int32))) := by have q := Fc68_a1_lineStart; rw [f6_a1_lineStart, if_pos (show (own_at4 (nar .char ((p5 &&& (255 : Int32)).toUInt32.toUInt16.toUInt32.toInt32)) (nar .char ((((p5.toUInt32 >>> ((8 : Int32) &&& 31).toUInt32).toInt32) &&& (255 : Int32)).toUInt32.toUInt16.toUInt32.toInt32)) (nar .char ((p6 &&& (255 : Int32)).toUInt32.toUInt16.toUInt32.toInt32)) (nar .char (13 : Int32)) (3 : Int32)) = (13 : Int32) from (by decide : (nar .char (13 : Int32)) = (13 : Int32))), if_neg (show ¬ (((3 : Int32) + (1 : Int32)) = ((1 : Int32) + (p1 &&& (3 : Int32)))) from hc71), if_neg (show ¬ (((3 : Int32) + (1 : Int32)) < ((1 : Int32) + (p1 &&& (3 : Int32)))) from (own_n4 p1))] at q; exact q
      have zk77 : kk49 ≤ T68.heap.size := Nat.le_trans zk66 K68.1
      have zs78 : n0 ≤ T68.heap.size := Nat.le_trans zs67 K68.1
      obtain ⟨_, T79, Lc79, X79, hQ79, st79⟩ := own_callV X68 hx hZ (y := (⟨"com/example/endcon/endcon/yaml/Cursor", "index", "()I"⟩ : MethodName)) hown (hw _ (List.mem_of_getElem? (i := 57) rfl)) (hw _ (List.mem_of_getElem? (i := 58) rfl)) (hw _ (List.mem_of_getElem? (i := 60) rfl)) (hw _ (List.mem_of_getElem? (i := 59) rfl)) (hw _ (List.mem_of_getElem? (i := 8) rfl)) (hw _ (List.mem_of_getElem? (i := 61) rfl)) (by decide) (W := 0) Ec68_a1 (argsL := []) (rest := []) (rm7 l Z a0 hw [] b46 ((3 : Int32) + (1 : Int32)) T68.heap n0 zs78 Ec68_a1 lFc68_a1_pos) (by decide) (by decide) (c' := 4) (s' := 24) rfl rfl (by decide) (by decide) rfl (g := (mkF m 237 #[.val (.int p1), .val (.int p2), .val (.int p3), .val (.int p4), .val (.int p5), .val (.int p6), .val (.int ((1 : Int32) + (p1 &&& (3 : Int32)))), .val (.int (3 : Int32)), .val (.ref b1), .val (.int (1 : Int32)), .val (.ref b46), .val (.int (4 : Int32)), .val (.int (2 : Int32)), .val (.int (4 : Int32))] [(.ref b46)])) rfl (by rw [hml]; rfl) (lenOf pd_0_5 rfl) rfl (by show 2 * 0 + _ ≤ _; exact Nat.le_of_eq rfl) (hb hby at_237)
      obtain ⟨hv79, N79q, e79⟩ := hQ79
      have N79 := Fr.app N68 N79q
      rw [f7] at hv79
      subst hv79
      obtain ⟨_, T80, Lc80, X80, hQ80, st80⟩ := own_callV X79 hx hZ (y := (⟨"com/example/endcon/endcon/yaml/Cursor", "line", "()I"⟩ : MethodName)) hown (hw _ (List.mem_of_getElem? (i := 62) rfl)) (hw _ (List.mem_of_getElem? (i := 63) rfl)) (hw _ (List.mem_of_getElem? (i := 65) rfl)) (hw _ (List.mem_of_getElem? (i := 64) rfl)) (hw _ (List.mem_of_getElem? (i := 8) rfl)) (hw _ (List.mem_of_getElem? (i := 66) rfl)) (by decide) (W := 0) Ec68_a1 (argsL := []) (rest := []) (rm8 l Z a0 hw [] b46 ((1 : Int32) + (1 : Int32)) T68.heap n0 zs78 Ec68_a1 lFc68_a1_line) (by decide) (by decide) (c' := 4) (s' := 24) rfl rfl (by decide) (by decide) e79 (g := (mkF m 247 #[.val (.int p1), .val (.int p2), .val (.int p3), .val (.int p4), .val (.int p5), .val (.int p6), .val (.int ((1 : Int32) + (p1 &&& (3 : Int32)))), .val (.int (3 : Int32)), .val (.ref b1), .val (.int (1 : Int32)), .val (.ref b46), .val (.int (4 : Int32)), .val (.int (2 : Int32)), .val (.int (4 : Int32))] [(.ref b46)])) rfl (by rw [hml]; rfl) (lenOf pd_0_5 rfl) rfl (by show 2 * 0 + _ ≤ _; exact Nat.le_of_eq rfl) (hb hby at_247)
      obtain ⟨hv80, N80q, e80⟩ := hQ80
      have N80 := Fr.app N79 N80q
      rw [f8] at hv80
      subst hv80
      obtain ⟨_, T81, Lc81, X81, hQ81, st81⟩ := own_callV X80 hx hZ (y := (⟨"com/example/endcon/endcon/yaml/Cursor", "lineStart", "()I"⟩ : MethodName)) hown (hw _ (List.mem_of_getElem? (i := 67) rfl)) (hw _ (List.mem_of_getElem? (i := 68) rfl)) (hw _ (List.mem_of_getElem? (i := 70) rfl)) (hw _ (List.mem_of_getElem? (i := 69) rfl)) (hw _ (List.mem_of_getElem? (i := 8) rfl)) (hw _ (List.mem_of_getElem? (i := 71) rfl)) (by decide) (W := 0) Ec68_a1 (argsL := []) (rest := []) (rm9 l Z a0 hw [] b46 ((3 : Int32) + (1 : Int32)) T68.heap n0 zs78 Ec68_a1 lFc68_a1_lineStart) (by decide) (by decide) (c' := 4) (s' := 24) rfl rfl (by decide) (by decide) e80 (g := (mkF m 257 #[.val (.int p1), .val (.int p2), .val (.int p3), .val (.int p4), .val (.int p5), .val (.int p6), .val (.int ((1 : Int32) + (p1 &&& (3 : Int32)))), .val (.int (3 : Int32)), .val (.ref b1), .val (.int (1 : Int32)), .val (.ref b46), .val (.int (4 : Int32)), .val (.int (2 : Int32)), .val (.int (4 : Int32))] [(.ref b46)])) rfl (by rw [hml]; rfl) (lenOf pd_0_5 rfl) rfl (by show 2 * 0 + _ ≤ _; exact Nat.le_of_eq rfl) (hb hby at_257)
      obtain ⟨hv81, N81q, e81⟩ := hQ81
      have N81 := Fr.app N80 N81q
      rw [f9] at hv81
      subst hv81
      obtain ⟨fs, hr, hrun, hended, hRW⟩ := X81.leaveW (s := s) hS49 (by rw [e81]; exact zk77) (v := some (.int (1 : Int32))) (fun h => by rw [Bd.returns] at h; cases h)
      refine ⟨_, _, pre70 _ ?_, hrun, hended, _, _, rfl, ?_, ⟨_, rfl⟩, hRW.2.1, hRW.2.2.1, hRW.2.2.2.mono (by decide) (by decide)⟩
      · refine st68 _ ?_
        show Steps p.tables e below (T68.setTop (mkF m 147 #[.val (.int p1), .val (.int p2), .val (.int p3), .val (.int p4), .val (.int p5), .val (.int p6), .val (.int ((1 : Int32) + (p1 &&& (3 : Int32)))), .val (.int (3 : Int32)), .val (.ref b1), .val (.int (1 : Int32)), .val (.ref b46), .unset, .unset, .unset] [])) _
        refine own_blk X68 hx bl0_147_1 (own_hb hby bd0_147_1) (pc' := 149) (Ls' := #[.val (.int p1), .val (.int p2), .val (.int p3), .val (.int p4), .val (.int p5), .val (.int p6), .val (.int ((1 : Int32) + (p1 &&& (3 : Int32)))), .val (.int (3 : Int32)), .val (.ref b1), .val (.int (1 : Int32)), .val (.ref b46), .unset, .unset, .unset]) (st' := [(.int (1 : Int32))]) rfl ?_
        refine XS.ifNo X68.here hx rfl (hb hby at_149) rfl ((if0 _ _).trans (feq (by decide : ¬ ((1 : Int32) = (0 : Int32)))).1) ?_
        show Steps p.tables e below (T68.setTop (mkF m 152 #[.val (.int p1), .val (.int p2), .val (.int p3), .val (.int p4), .val (.int p5), .val (.int p6), .val (.int ((1 : Int32) + (p1 &&& (3 : Int32)))), .val (.int (3 : Int32)), .val (.ref b1), .val (.int (1 : Int32)), .val (.ref b46), .unset, .unset, .unset] [])) _
        refine own_blk X68 hx bl0_152_4 (own_hb hby bd0_152_4) (pc' := 158) (Ls' := #[.val (.int p1), .val (.int p2), .val (.int p3), .val (.int p4), .val (.int p5), .val (.int p6), .val (.int ((1 : Int32) + (p1 &&& (3 : Int32)))), .val (.int (3 : Int32)), .val (.ref b1), .val (.int (1 : Int32)), .val (.ref b46), .unset, .unset, .unset]) (st' := [(.int ((1 : Int32) + (p1 &&& (3 : Int32)))), (.int (4 : Int32))]) rfl ?_
        refine XS.icmpYes X68.here hx rfl (pc0 := 158) (pc' := 176) rfl (hb hby at_158) rfl (feq hc71).2 (by decide) (by decide) ?_
        show Steps p.tables e below (T68.setTop (mkF m 176 #[.val (.int p1), .val (.int p2), .val (.int p3), .val (.int p4), .val (.int p5), .val (.int p6), .val (.int ((1 : Int32) + (p1 &&& (3 : Int32)))), .val (.int (3 : Int32)), .val (.ref b1), .val (.int (1 : Int32)), .val (.ref b46), .unset, .unset, .unset] [])) _
        refine own_blk X68 hx bl0_176_1 (own_hb hby bd0_176_1) (pc' := 178) (Ls' := #[.val (.int p1), .val (.int p2), .val (.int p3), .val (.int p4), .val (.int p5), .val (.int p6), .val (.int ((1 : Int32) + (p1 &&& (3 : Int32)))), .val (.int (3 : Int32)), .val (.ref b1), .val (.int (1 : Int32)), .val (.ref b46), .unset, .unset, .unset]) (st' := [(.int (1 : Int32))]) rfl ?_
        refine XS.ifNo X68.here hx rfl (hb hby at_178) rfl ((if0 _ _).trans (feq (by decide : ¬ ((1 : Int32) = (0 : Int32)))).1) ?_
        show Steps p.tables e below (T68.setTop (mkF m 181 #[.val (.int p1), .val (.int p2), .val (.int p3), .val (.int p4), .val (.int p5), .val (.int p6), .val (.int ((1 : Int32) + (p1 &&& (3 : Int32)))), .val (.int (3 : Int32)), .val (.ref b1), .val (.int (1 : Int32)), .val (.ref b46), .unset, .unset, .unset] [])) _
        refine own_blk X68 hx bl0_181_4 (own_hb hby bd0_181_4) (pc' := 187) (Ls' := #[.val (.int p1), .val (.int p2), .val (.int p3), .val (.int p4), .val (.int p5), .val (.int p6), .val (.int ((1 : Int32) + (p1 &&& (3 : Int32)))), .val (.int (3 : Int32)), .val (.ref b1), .val (.int (1 : Int32)), .val (.ref b46), .unset, .unset, .unset]) (st' := [(.int ((1 : Int32) + (p1 &&& (3 : Int32)))), (.int (4 : Int32))]) rfl ?_
        refine XS.icmpYes X68.here hx rfl (pc0 := 187) (pc' := 220) rfl (hb hby at_187) rfl (flt (own_n4 p1)).2.1 (by decide) (by decide) ?_
        show Steps p.tables e below (T68.setTop (mkF m 220 #[.val (.int p1), .val (.int p2), .val (.int p3), .val (.int p4), .val (.int p5), .val (.int p6), .val (.int ((1 : Int32) + (p1 &&& (3 : Int32)))), .val (.int (3 : Int32)), .val (.ref b1), .val (.int (1 : Int32)), .val (.ref b46), .unset, .unset, .unset] [])) _
        refine own_blk X68 hx bl0_220_4 (own_hb hby bd0_220_4) (pc' := 226) (Ls' := #[.val (.int p1), .val (.int p2), .val (.int p3), .val (.int p4), .val (.int p5), .val (.int p6), .val (.int ((1 : Int32) + (p1 &&& (3 : Int32)))), .val (.int (3 : Int32)), .val (.ref b1), .val (.int (1 : Int32)), .val (.ref b46), .val (.int (4 : Int32)), .unset, .unset]) (st' := []) rfl ?_
        refine own_blk X68 hx bl0_226_2 (own_hb hby bd0_226_2) (pc' := 229) (Ls' := #[.val (.int p1), .val (.int p2), .val (.int p3), .val (.int p4), .val (.int p5), .val (.int p6), .val (.int ((1 : Int32) + (p1 &&& (3 : Int32)))), .val (.int (3 : Int32)), .val (.ref b1), .val (.int (1 : Int32)), .val (.ref b46), .val (.int (4 : Int32)), .val (.int (2 : Int32)), .unset]) (st' := []) rfl ?_
        refine own_blk X68 hx bl0_229_4 (own_hb hby bd0_229_4) (pc' := 235) (Ls' := #[.val (.int p1), .val (.int p2), .val (.int p3), .val (.int p4), .val (.int p5), .val (.int p6), .val (.int ((1 : Int32) + (p1 &&& (3 : Int32)))), .val (.int (3 : Int32)), .val (.ref b1), .val (.int (1 : Int32)), .val (.ref b46), .val (.int (4 : Int32)), .val (.int (2 : Int32)), .val (.int (4 : Int32))]) (st' := []) rfl ?_
        refine own_blk X68 hx bl0_235_1 (own_hb hby bd0_235_1) (pc' := 237) (Ls' := #[.val (.int p1), .val (.int p2), .val (.int p3), .val (.int p4), .val (.int p5), .val (.int p6), .val (.int ((1 : Int32) + (p1 &&& (3 : Int32)))), .val (.int (3 : Int32)), .val (.ref b1), .val (.int (1 : Int32)), .val (.ref b46), .val (.int (4 : Int32)), .val (.int (2 : Int32)), .val (.int (4 : Int32))]) (st' := [(.ref b46)]) rfl ?_
        refine st79 _ ?_
        show Steps p.tables e below (T79.setTop (mkF m 240 #[.val (.int p1), .val (.int p2), .val (.int p3), .val (.int p4), .val (.int p5), .val (.int p6), .val (.int ((1 : Int32) + (p1 &&& (3 : Int32)))), .val (.int (3 : Int32)), .val (.ref b1), .val (.int (1 : Int32)), .val (.ref b46), .val (.int (4 : Int32)), .val (.int (2 : Int32)), .val (.int (4 : Int32))] [(.int ((3 : Int32) + (1 : Int32)))])) _
        refine own_blk X79 hx bl0_240_1 (own_hb hby bd0_240_1) (pc' := 242) (Ls' := #[.val (.int p1), .val (.int p2), .val (.int p3), .val (.int p4), .val (.int p5), .val (.int p6), .val (.int ((1 : Int32) + (p1 &&& (3 : Int32)))), .val (.int (3 : Int32)), .val (.ref b1), .val (.int (1 : Int32)), .val (.ref b46), .val (.int (4 : Int32)), .val (.int (2 : Int32)), .val (.int (4 : Int32))]) (st' := [(.int (4 : Int32)), (.int ((3 : Int32) + (1 : Int32)))]) rfl ?_
        refine XS.icmpNo X79.here hx rfl (hb hby at_242) rfl (teq (show ((3 : Int32) + (1 : Int32)) = (4 : Int32) from (by decide : (4 : Int32) = (4 : Int32)))).2 ?_
        show Steps p.tables e below (T79.setTop (mkF m 245 #[.val (.int p1), .val (.int p2), .val (.int p3), .val (.int p4), .val (.int p5), .val (.int p6), .val (.int ((1 : Int32) + (p1 &&& (3 : Int32)))), .val (.int (3 : Int32)), .val (.ref b1), .val (.int (1 : Int32)), .val (.ref b46), .val (.int (4 : Int32)), .val (.int (2 : Int32)), .val (.int (4 : Int32))] [])) _
        refine own_blk X79 hx bl0_245_1 (own_hb hby bd0_245_1) (pc' := 247) (Ls' := #[.val (.int p1), .val (.int p2), .val (.int p3), .val (.int p4), .val (.int p5), .val (.int p6), .val (.int ((1 : Int32) + (p1 &&& (3 : Int32)))), .val (.int (3 : Int32)), .val (.ref b1), .val (.int (1 : Int32)), .val (.ref b46), .val (.int (4 : Int32)), .val (.int (2 : Int32)), .val (.int (4 : Int32))]) (st' := [(.ref b46)]) rfl ?_
        refine st80 _ ?_
        show Steps p.tables e below (T80.setTop (mkF m 250 #[.val (.int p1), .val (.int p2), .val (.int p3), .val (.int p4), .val (.int p5), .val (.int p6), .val (.int ((1 : Int32) + (p1 &&& (3 : Int32)))), .val (.int (3 : Int32)), .val (.ref b1), .val (.int (1 : Int32)), .val (.ref b46), .val (.int (4 : Int32)), .val (.int (2 : Int32)), .val (.int (4 : Int32))] [(.int ((1 : Int32) + (1 : Int32)))])) _
        refine own_blk X80 hx bl0_250_1 (own_hb hby bd0_250_1) (pc' := 252) (Ls' := #[.val (.int p1), .val (.int p2), .val (.int p3), .val (.int p4), .val (.int p5), .val (.int p6), .val (.int ((1 : Int32) + (p1 &&& (3 : Int32)))), .val (.int (3 : Int32)), .val (.ref b1), .val (.int (1 : Int32)), .val (.ref b46), .val (.int (4 : Int32)), .val (.int (2 : Int32)), .val (.int (4 : Int32))]) (st' := [(.int (2 : Int32)), (.int ((1 : Int32) + (1 : Int32)))]) rfl ?_
        refine XS.icmpNo X80.here hx rfl (hb hby at_252) rfl (teq (show ((1 : Int32) + (1 : Int32)) = (2 : Int32) from (by decide : (2 : Int32) = (2 : Int32)))).2 ?_
        show Steps p.tables e below (T80.setTop (mkF m 255 #[.val (.int p1), .val (.int p2), .val (.int p3), .val (.int p4), .val (.int p5), .val (.int p6), .val (.int ((1 : Int32) + (p1 &&& (3 : Int32)))), .val (.int (3 : Int32)), .val (.ref b1), .val (.int (1 : Int32)), .val (.ref b46), .val (.int (4 : Int32)), .val (.int (2 : Int32)), .val (.int (4 : Int32))] [])) _
        refine own_blk X80 hx bl0_255_1 (own_hb hby bd0_255_1) (pc' := 257) (Ls' := #[.val (.int p1), .val (.int p2), .val (.int p3), .val (.int p4), .val (.int p5), .val (.int p6), .val (.int ((1 : Int32) + (p1 &&& (3 : Int32)))), .val (.int (3 : Int32)), .val (.ref b1), .val (.int (1 : Int32)), .val (.ref b46), .val (.int (4 : Int32)), .val (.int (2 : Int32)), .val (.int (4 : Int32))]) (st' := [(.ref b46)]) rfl ?_
        refine st81 _ ?_
        show Steps p.tables e below (T81.setTop (mkF m 260 #[.val (.int p1), .val (.int p2), .val (.int p3), .val (.int p4), .val (.int p5), .val (.int p6), .val (.int ((1 : Int32) + (p1 &&& (3 : Int32)))), .val (.int (3 : Int32)), .val (.ref b1), .val (.int (1 : Int32)), .val (.ref b46), .val (.int (4 : Int32)), .val (.int (2 : Int32)), .val (.int (4 : Int32))] [(.int ((3 : Int32) + (1 : Int32)))])) _
        refine own_blk X81 hx bl0_260_1 (own_hb hby bd0_260_1) (pc' := 262) (Ls' := #[.val (.int p1), .val (.int p2), .val (.int p3), .val (.int p4), .val (.int p5), .val (.int p6), .val (.int ((1 : Int32) + (p1 &&& (3 : Int32)))), .val (.int (3 : Int32)), .val (.ref b1), .val (.int (1 : Int32)), .val (.ref b46), .val (.int (4 : Int32)), .val (.int (2 : Int32)), .val (.int (4 : Int32))]) (st' := [(.int (4 : Int32)), (.int ((3 : Int32) + (1 : Int32)))]) rfl ?_
        refine XS.icmpNo X81.here hx rfl (hb hby at_262) rfl (teq (show ((3 : Int32) + (1 : Int32)) = (4 : Int32) from (by decide : (4 : Int32) = (4 : Int32)))).2 ?_
        show Steps p.tables e below (T81.setTop (mkF m 265 #[.val (.int p1), .val (.int p2), .val (.int p3), .val (.int p4), .val (.int p5), .val (.int p6), .val (.int ((1 : Int32) + (p1 &&& (3 : Int32)))), .val (.int (3 : Int32)), .val (.ref b1), .val (.int (1 : Int32)), .val (.ref b46), .val (.int (4 : Int32)), .val (.int (2 : Int32)), .val (.int (4 : Int32))] [])) _
        refine own_blk X81 hx bl0_265_2 (own_hb hby bd0_265_2) (pc' := 270) (Ls' := #[.val (.int p1), .val (.int p2), .val (.int p3), .val (.int p4), .val (.int p5), .val (.int p6), .val (.int ((1 : Int32) + (p1 &&& (3 : Int32)))), .val (.int (3 : Int32)), .val (.ref b1), .val (.int (1 : Int32)), .val (.ref b46), .val (.int (4 : Int32)), .val (.int (2 : Int32)), .val (.int (4 : Int32))]) (st' := [(.int (1 : Int32))]) rfl ?_
        exact retN X81 hx (t := .boolean) Bd.returns (by simp) (hb hby at_270) hr
      · show Q0_3 Z p1 p2 p3 p4 p5 p6 h0 n0 _ T81.heap _
        rw [e81]
        exact ⟨by rw [f0_3, if_neg hc12, if_neg hc71], N81⟩
theorem own_k4 (x y : Int32) : ((y &&& (2147483647 : Int32)) % ((1 : Int32) + (x &&& (3 : Int32)))) = (0 : Int32) ∨ ((y &&& (2147483647 : Int32)) % ((1 : Int32) + (x &&& (3 : Int32)))) = (1 : Int32) ∨ ((y &&& (2147483647 : Int32)) % ((1 : Int32) + (x &&& (3 : Int32)))) = (2 : Int32) ∨ ((y &&& (2147483647 : Int32)) % ((1 : Int32) + (x &&& (3 : Int32)))) = (3 : Int32) := by
  have h := own_kr x y
  have n := own_nr x
  have e0 : (0 : Int32).toInt = 0 := by decide
  have h0 : ¬ ((y &&& (2147483647 : Int32)) % ((1 : Int32) + (x &&& (3 : Int32)))) < 0 := by rw [Int32.lt_iff_toInt_lt, e0]; omega
  exact own_small (n := 4) (fun u => u = (0 : Int32) ∨ u = (1 : Int32) ∨ u = (2 : Int32) ∨ u = (3 : Int32)) (by decide +kernel) h0 (by omega)
theorem own_law0 (a b c d g h : Int32) : f0_0 a b c d g h = 1 := by
  unfold f0_0
  simp only [ite_self]
theorem own_law1 (a b c d g h : Int32) : f0_1 a b c d g h = 1 := by
  unfold f0_1
  simp only [ite_self]
theorem own_law2 (a b c d g h : Int32) : f0_2 a b c d g h = 1 := by
  unfold f0_2
  simp only [ite_self]
theorem own_law3 (a b c d g h : Int32) : f0_3 a b c d g h = 1 := by
  unfold f0_3
  simp only [ite_self]
set_option maxRecDepth 65536 in
set_option maxHeartbeats 40000000 in
theorem comes_1 {Post : Tables → Env → Array Value → State → Outcome → State → Prop} (hpost : ∀ tb e args s v u, (limb_1_1.after args s (.returned v) u = true ∧ limb_1_2.after args s (.returned v) u = true ∧ True) → FramedW s (.returned v) u (Jvm.fieldLocs frame_1_writes args s ++ Jvm.arrayLocs frame_1_arrays args s ++ Jvm.staticLocs frame_1_statics s) 16 1152 → Post tb e args s (.returned v) u) :
    ArmFor flags0 classFile x code maxLocals ret World_1 tables_1 room_1 Calls_1 rest_1 Pre_1 Post := by
  intro l hfl _ _ p e ha hc hk s m args below hf hA hF happ hP
  obtain ⟨hcalls, hrest, hpre⟩ := hP
  obtain ⟨-, -, -, hnamed, -, -, -, hat⟩ := (Spec.applies_iff hf).mp happ
  obtain ⟨hg, hn⟩ := and_e (Cond.before_iff.mp (show (Jvm.Cond.and given_1 narrow_1).before args s = true from hpre))
  obtain ⟨g1, g2⟩ := and_e hg
  obtain ⟨g3, g4⟩ := and_e g2
  obtain ⟨g5, g6⟩ := and_e g4
  obtain ⟨g7, g8⟩ := and_e g6
  obtain ⟨g9, g10⟩ := and_e g8
  obtain ⟨g11, g12⟩ := and_e g10
  obtain ⟨w0, w1, w2, w3, w4, w5, rfl⟩ : ∃ w0 w1 w2 w3 w4 w5 : Value, args = #[w0, w1, w2, w3, w4, w5] := by
    have hs : args.size = 6 := by simpa [Cond.value, given_1] using g1
    obtain ⟨L⟩ := args
    match L, hs with
    | [w0, w1, w2, w3, w4, w5], _ => exact ⟨w0, w1, w2, w3, w4, w5, rfl⟩
  have hw := fun d (hd : d ∈ tables_1) => atoms_spec (ws := Jvm.Cond.code x code maxLocals ret :: tables_1) hat d (List.mem_cons_of_mem _ hd)
  have hfit : Fit s := fun {y c} hc i hi => by
    obtain ⟨ha, rfl⟩ := Array.getElem?_eq_some_iff.mp hc
    have q := List.all_eq_true.mp ((Array.all_eq_true_iff_forall_mem.mp hF) _ (Array.getElem_mem ha)) i (List.mem_range.mpr hi)
    simpa [Array.getElem?_eq_getElem hi] using q
  obtain ⟨i0, ei0⟩ := is_v g3
  obtain rfl : w0 = (.int i0) := Option.some.inj ei0
  obtain ⟨i1, ei1⟩ := is_v g5
  obtain rfl : w1 = (.int i1) := Option.some.inj ei1
  obtain ⟨i2, ei2⟩ := is_v g7
  obtain rfl : w2 = (.int i2) := Option.some.inj ei2
  obtain ⟨i3, ei3⟩ := is_v g9
  obtain rfl : w3 = (.int i3) := Option.some.inj ei3
  obtain ⟨i4, ei4⟩ := is_v g11
  obtain rfl : w4 = (.int i4) := Option.some.inj ei4
  obtain ⟨i5, ei5⟩ := is_v g12
  obtain rfl : w5 = (.int i5) := Option.some.inj ei5
  rcases own_k4 i0 i1 with hn3 | hn3 | hn3 | hn3
  · obtain ⟨n, o, h1, h2, h3, v, L, rfl, hQ, hq⟩ := rm0_0 l s _ hw tables_1 i0 i1 i2 i3 i4 i5  s.heap s.heap.size (Nat.le_refl _) hn3 p e ha hc hk s m _ below hf ((Spec.applies_iff_loose hf).mp happ).1 ⟨rfl, State.Warmed39.refl s, rfl⟩ trivial
    obtain ⟨hv1, N⟩ := hQ
    rw [own_law0] at hv1
    subst hv1
    refine ⟨n, _, h1, h2, h3, hpost _ _ _ _ _ _ ⟨Cond.after_iff.mpr rfl, Cond.after_iff.mpr (eq_i res_at (Term.int_eval (1)) rfl), trivial⟩ ⟨hq.1, hq.2.1, hq.2.2.1, (hq.2.2.2.sift fun y hy => Or.inr (N y hy)).mono (by decide) (by decide)⟩⟩
  · obtain ⟨n, o, h1, h2, h3, v, L, rfl, hQ, hq⟩ := rm0_1 l s _ hw tables_1 i0 i1 i2 i3 i4 i5  s.heap s.heap.size (Nat.le_refl _) hn3 p e ha hc hk s m _ below hf ((Spec.applies_iff_loose hf).mp happ).1 ⟨rfl, State.Warmed39.refl s, rfl⟩ trivial
    obtain ⟨hv1, N⟩ := hQ
    rw [own_law1] at hv1
    subst hv1
    refine ⟨n, _, h1, h2, h3, hpost _ _ _ _ _ _ ⟨Cond.after_iff.mpr rfl, Cond.after_iff.mpr (eq_i res_at (Term.int_eval (1)) rfl), trivial⟩ ⟨hq.1, hq.2.1, hq.2.2.1, (hq.2.2.2.sift fun y hy => Or.inr (N y hy)).mono (by decide) (by decide)⟩⟩
  · obtain ⟨n, o, h1, h2, h3, v, L, rfl, hQ, hq⟩ := rm0_2 l s _ hw tables_1 i0 i1 i2 i3 i4 i5  s.heap s.heap.size (Nat.le_refl _) hn3 p e ha hc hk s m _ below hf ((Spec.applies_iff_loose hf).mp happ).1 ⟨rfl, State.Warmed39.refl s, rfl⟩ trivial
    obtain ⟨hv1, N⟩ := hQ
    rw [own_law2] at hv1
    subst hv1
    refine ⟨n, _, h1, h2, h3, hpost _ _ _ _ _ _ ⟨Cond.after_iff.mpr rfl, Cond.after_iff.mpr (eq_i res_at (Term.int_eval (1)) rfl), trivial⟩ ⟨hq.1, hq.2.1, hq.2.2.1, (hq.2.2.2.sift fun y hy => Or.inr (N y hy)).mono (by decide) (by decide)⟩⟩
  · obtain ⟨n, o, h1, h2, h3, v, L, rfl, hQ, hq⟩ := rm0_3 l s _ hw tables_1 i0 i1 i2 i3 i4 i5  s.heap s.heap.size (Nat.le_refl _) hn3 p e ha hc hk s m _ below hf ((Spec.applies_iff_loose hf).mp happ).1 ⟨rfl, State.Warmed39.refl s, rfl⟩ trivial
    obtain ⟨hv1, N⟩ := hQ
    rw [own_law3] at hv1
    subst hv1
    refine ⟨n, _, h1, h2, h3, hpost _ _ _ _ _ _ ⟨Cond.after_iff.mpr rfl, Cond.after_iff.mpr (eq_i res_at (Term.int_eval (1)) rfl), trivial⟩ ⟨hq.1, hq.2.1, hq.2.2.1, (hq.2.2.2.sift fun y hy => Or.inr (N y hy)).mono (by decide) (by decide)⟩⟩
theorem main_1_1 : Claimed_1_1 := comes_1 fun _ _ _ _ _ _ h hF => ⟨h.1, hF⟩
theorem main_1_2 : Claimed_1_2 := comes_1 fun _ _ _ _ _ _ h hF => ⟨h.2.1, hF⟩
end Jvm.Pilot.@@N@@
namespace Jvm.Pilot.@@N@@
open Jvm Jvm.ClassFile Sem Op Lib Jvm.Free Jvm.Stand Jvm.Pilot.@@N@@.Jvm.D
/-! MADE BY PROGRAM (witnessworld.py) out of the Statement's table words and the real class files: 17 classes; the members and pool entries that the words name. The judged class is class 1, her method 2. -/
namespace start1
open Jvm.ClassFile
def u (s : String) : CpInfo := .utf8 (stringToUtf16 s)
/-- a pool by its gaps: so many unusable entries, then the entry; so many at the end -/
def gap : Nat → List CpInfo → List CpInfo
  | 0, r => r
  | n + 1, r => .unusable :: gap n r
def poolList (es : List (Nat × CpInfo)) (last : Nat) : List CpInfo := es.foldr (fun e r => gap e.1 (e.2 :: r)) (gap last [])
def pool (es : List (Nat × CpInfo)) (last : Nat) : Array CpInfo := ⟨poolList es last⟩
def fileOf (pool : Array CpInfo) (this : Nat) (attrs : Array Attribute := #[]) (ms : Array MethodInfo := #[]) (fl : Nat := 33) (sup : Nat := 0) (ifs : Array Nat := #[]) (fds : Array FieldInfo := #[]) : ClassFile where
  minorVersion := 0
  majorVersion := 65
  constantPool := pool
  accessFlags := fl
  thisClass := this
  superClass := sup
  interfaces := ifs
  fields := fds
  methods := ms
  attributes := attrs
def plain (name : String) (sup : Option ClassId) : Class where
  name := name
  kind := .ordinary
  loader := none
  accessFlags := 33
  super := sup
  interfaces := #[]
  cf := none
  fields := #[]
  methods := #[]
  instanceTypes := #[]
  staticTypes := #[]
  resolved := #[]
  callSites := []
  init := .initialized
  statics := none
  mirror := none

def pool0 : Array CpInfo := pool [(5, u "<init>"), (0, u "()V"), (1, .class_ 10), (1, u "java/lang/Object")] 113

def k0c0 : Code := { maxStack := 0, maxLocals := 1, code := object_method_1_code, exceptionTable := #[], attributes := #[] }
def k0m0 : Method := { name := "<init>", desc := "()V", sig := { parameters := [], returnType := none }, accessFlags := 1, code := some k0c0 }
/-- java/lang/Object -/
def k0 : Class := { plain "java/lang/Object" none with
  accessFlags := 33
  interfaces := #[]
  cf := some (fileOf pool0 8 #[] #[{ accessFlags := 1, nameIndex := 5, descriptorIndex := 6, attributes := #[] }] 33 0 #[] #[])
  fields := #[]
  methods := #[k0m0]
  instanceTypes := #[]
  staticTypes := #[]
  resolved := Array.replicate 124 none
  statics := none }

def pool1 : Array CpInfo := pool [(2, .class_ 4), (1, u "java/lang/Object"), (0, u "<init>"), (0, u "()V"), (0, .integer 2147483647), (0, .methodref 9 10), (0, .class_ 11), (0, .nameAndType 12 13), (0, u "com/example/endcon/endcon/yaml/CursorNewLinePinLaw"), (0, u "pick"), (0, u "(I)C"), (0, .class_ 15), (0, u "com/example/endcon/endcon/yaml/Cursor"), (0, .string 17), (0, u "f"), (0, .methodref 14 19), (0, .nameAndType 5 20), (0, u "(Ljava/lang/String;[CI)V"), (0, .methodref 14 22), (0, .nameAndType 23 24), (0, u "moveTo"), (0, u "(I)V"), (0, .methodref 14 26), (0, .nameAndType 27 6), (0, u "newLine"), (0, .methodref 14 29), (0, .nameAndType 30 31), (0, u "index"), (0, u "()I"), (0, .methodref 14 33), (0, .nameAndType 34 31), (0, u "line"), (0, .methodref 14 36), (0, .nameAndType 37 31), (0, u "lineStart"), (3, u "law"), (0, u "(IIIIII)Z")] 4

def k1m0 : Method := { name := "<init>", desc := "()V", sig := { parameters := [], returnType := none }, accessFlags := 1, code := none }
def k1c1 : Code := { maxStack := 2, maxLocals := 2, code := method_2_code, exceptionTable := #[], attributes := #[] }
def k1m1 : Method := { name := "pick", desc := "(I)C", sig := { parameters := [.int], returnType := some .char }, accessFlags := 10, code := some k1c1 }
def k1c2 : Code := { maxStack := 5, maxLocals := 14, code := code, exceptionTable := #[], attributes := #[] }
def k1m2 : Method := { name := "law", desc := "(IIIIII)Z", sig := { parameters := [.int, .int, .int, .int, .int, .int], returnType := some .boolean }, accessFlags := 9, code := some k1c2 }
/-- com/example/endcon/endcon/yaml/CursorNewLinePinLaw -/
def k1 : Class := { plain "com/example/endcon/endcon/yaml/CursorNewLinePinLaw" (some 0) with
  accessFlags := 49
  interfaces := #[]
  cf := some (fileOf pool1 9 #[] #[{ accessFlags := 1, nameIndex := 5, descriptorIndex := 6, attributes := #[] }, { accessFlags := 10, nameIndex := 12, descriptorIndex := 13, attributes := #[] }, { accessFlags := 9, nameIndex := 41, descriptorIndex := 42, attributes := #[] }] 49 2 #[] #[])
  fields := #[]
  methods := #[k1m0, k1m1, k1m2]
  instanceTypes := #[]
  staticTypes := #[]
  resolved := Array.replicate 47 none
  statics := none }

def pool2 : Array CpInfo := pool [(1, .methodref 2 3), (0, .class_ 4), (0, .nameAndType 5 6), (0, u "java/lang/Object"), (0, u "<init>"), (0, u "()V"), (0, .fieldref 8 9), (0, .class_ 10), (0, .nameAndType 11 12), (0, u "com/example/endcon/endcon/yaml/Cursor"), (0, u "line"), (0, u "I"), (0, .fieldref 8 14), (0, .nameAndType 15 12), (0, u "blankLinesFrom"), (0, .fieldref 8 17), (0, .nameAndType 18 12), (0, u "countedIndex"), (0, .fieldref 8 20), (0, .nameAndType 21 22), (0, u "file"), (0, u "Ljava/lang/String;"), (0, .fieldref 8 24), (0, .nameAndType 25 26), (0, u "text"), (0, u "[C"), (0, .fieldref 8 28), (0, .nameAndType 29 12), (0, u "end"), (0, .methodref 31 32), (0, .class_ 33), (0, .nameAndType 34 35), (0, u "java/lang/Character"), (0, u "isSurrogate"), (0, u "(C)Z"), (0, .fieldref 8 37), (0, .nameAndType 38 39), (0, u "hasSurrogates"), (0, u "Z"), (0, .integer 65279), (0, .fieldref 8 42), (0, .nameAndType 43 12), (0, u "pos"), (0, .fieldref 8 45), (0, .nameAndType 46 12), (0, u "lineStart"), (50, u "blankLinesTo"), (0, u "Lcom/example/endcon/endcon/yaml/Cursor$Mark;"), (13, u "newLine"), (16, u "countedColumn"), (5, u "lastMark"), (1, .class_ 139), (1, u "com/example/endcon/endcon/yaml/Cursor$Mark"), (0, u "index"), (3, u "()I"), (12, u "MAPPING_VALUE_HERE"), (1, u "BYTE_ORDER_MARK"), (0, u "C"), (0, u "(Ljava/lang/String;[CI)V"), (22, u "(I)V"), (0, u "moveTo")] 14

def k2c0 : Code := { maxStack := 2, maxLocals := 6, code := prog_114_method_1_code, exceptionTable := #[], attributes := #[] }
def k2m0 : Method := { name := "<init>", desc := "(Ljava/lang/String;[CI)V", sig := { parameters := [(.object "java/lang/String"), (.array .char), .int], returnType := none }, accessFlags := 0, code := some k2c0 }
def k2c1 : Code := { maxStack := 1, maxLocals := 1, code := prog_114_method_2_code, exceptionTable := #[], attributes := #[] }
def k2m1 : Method := { name := "index", desc := "()I", sig := { parameters := [], returnType := some .int }, accessFlags := 0, code := some k2c1 }
def k2c2 : Code := { maxStack := 1, maxLocals := 1, code := prog_114_method_4_code, exceptionTable := #[], attributes := #[] }
def k2m2 : Method := { name := "line", desc := "()I", sig := { parameters := [], returnType := some .int }, accessFlags := 0, code := some k2c2 }
def k2c3 : Code := { maxStack := 1, maxLocals := 1, code := prog_114_method_5_code, exceptionTable := #[], attributes := #[] }
def k2m3 : Method := { name := "lineStart", desc := "()I", sig := { parameters := [], returnType := some .int }, accessFlags := 0, code := some k2c3 }
def k2c4 : Code := { maxStack := 2, maxLocals := 2, code := prog_114_method_27_code, exceptionTable := #[], attributes := #[] }
def k2m4 : Method := { name := "moveTo", desc := "(I)V", sig := { parameters := [.int], returnType := none }, accessFlags := 0, code := some k2c4 }
def k2c5 : Code := { maxStack := 5, maxLocals := 2, code := prog_114_method_28_code, exceptionTable := #[], attributes := #[] }
def k2m5 : Method := { name := "newLine", desc := "()V", sig := { parameters := [], returnType := none }, accessFlags := 0, code := some k2c5 }
/-- com/example/endcon/endcon/yaml/Cursor -/
def k2 : Class := { plain "com/example/endcon/endcon/yaml/Cursor" (some 0) with
  accessFlags := 32
  interfaces := #[]
  cf := some (fileOf pool2 8 #[.nestMembers #[137]] #[{ accessFlags := 0, nameIndex := 5, descriptorIndex := 161, attributes := #[] }, { accessFlags := 0, nameIndex := 140, descriptorIndex := 144, attributes := #[] }, { accessFlags := 0, nameIndex := 11, descriptorIndex := 144, attributes := #[] }, { accessFlags := 0, nameIndex := 46, descriptorIndex := 144, attributes := #[] }, { accessFlags := 0, nameIndex := 185, descriptorIndex := 184, attributes := #[] }, { accessFlags := 0, nameIndex := 112, descriptorIndex := 6, attributes := #[] }] 32 2 #[] #[{ accessFlags := 24, nameIndex := 157, descriptorIndex := 22, attributes := #[] }, { accessFlags := 26, nameIndex := 159, descriptorIndex := 160, attributes := #[] }, { accessFlags := 18, nameIndex := 21, descriptorIndex := 22, attributes := #[] }, { accessFlags := 2, nameIndex := 25, descriptorIndex := 26, attributes := #[] }, { accessFlags := 18, nameIndex := 29, descriptorIndex := 12, attributes := #[] }, { accessFlags := 18, nameIndex := 38, descriptorIndex := 39, attributes := #[] }, { accessFlags := 2, nameIndex := 43, descriptorIndex := 12, attributes := #[] }, { accessFlags := 2, nameIndex := 11, descriptorIndex := 12, attributes := #[] }, { accessFlags := 2, nameIndex := 46, descriptorIndex := 12, attributes := #[] }, { accessFlags := 2, nameIndex := 15, descriptorIndex := 12, attributes := #[] }, { accessFlags := 2, nameIndex := 97, descriptorIndex := 98, attributes := #[] }, { accessFlags := 2, nameIndex := 18, descriptorIndex := 12, attributes := #[] }, { accessFlags := 2, nameIndex := 129, descriptorIndex := 12, attributes := #[] }, { accessFlags := 2, nameIndex := 135, descriptorIndex := 98, attributes := #[] }])
  fields := #[{ name := "MAPPING_VALUE_HERE", type := (.object "java/lang/String"), accessFlags := 24, slot := 0, constantValue := 0 }, { name := "BYTE_ORDER_MARK", type := .char, accessFlags := 26, slot := 1, constantValue := 0 }, { name := "file", type := (.object "java/lang/String"), accessFlags := 18, slot := 0, constantValue := 0 }, { name := "text", type := (.array .char), accessFlags := 2, slot := 1, constantValue := 0 }, { name := "end", type := .int, accessFlags := 18, slot := 2, constantValue := 0 }, { name := "hasSurrogates", type := .boolean, accessFlags := 18, slot := 3, constantValue := 0 }, { name := "pos", type := .int, accessFlags := 2, slot := 4, constantValue := 0 }, { name := "line", type := .int, accessFlags := 2, slot := 5, constantValue := 0 }, { name := "lineStart", type := .int, accessFlags := 2, slot := 6, constantValue := 0 }, { name := "blankLinesFrom", type := .int, accessFlags := 2, slot := 7, constantValue := 0 }, { name := "blankLinesTo", type := (.object "com/example/endcon/endcon/yaml/Cursor$Mark"), accessFlags := 2, slot := 8, constantValue := 0 }, { name := "countedIndex", type := .int, accessFlags := 2, slot := 9, constantValue := 0 }, { name := "countedColumn", type := .int, accessFlags := 2, slot := 10, constantValue := 0 }, { name := "lastMark", type := (.object "com/example/endcon/endcon/yaml/Cursor$Mark"), accessFlags := 2, slot := 11, constantValue := 0 }]
  methods := #[k2m0, k2m1, k2m2, k2m3, k2m4, k2m5]
  instanceTypes := #[(.object "java/lang/String"), (.array .char), .int, .boolean, .int, .int, .int, .int, (.object "com/example/endcon/endcon/yaml/Cursor$Mark"), .int, .int, (.object "com/example/endcon/endcon/yaml/Cursor$Mark")]
  staticTypes := #[(.object "java/lang/String"), .char]
  resolved := Array.replicate 200 none
  statics := none }

def pool3 : Array CpInfo := pool [(1, .class_ 2), (0, u "java/io/Serializable"), (0, .class_ 4), (0, u "java/lang/Object")] 2

/-- java/io/Serializable -/
def k3 : Class := { plain "java/io/Serializable" (some 0) with
  accessFlags := 1537
  interfaces := #[]
  cf := some (fileOf pool3 1 #[] #[] 1537 3 #[] #[])
  fields := #[]
  methods := #[]
  instanceTypes := #[]
  staticTypes := #[]
  resolved := Array.replicate 7 none
  statics := none }

def pool4 : Array CpInfo := pool [(1, .class_ 2), (0, u "java/lang/Comparable"), (0, .class_ 4), (0, u "java/lang/Object")] 7

/-- java/lang/Comparable -/
def k4 : Class := { plain "java/lang/Comparable" (some 0) with
  accessFlags := 1537
  interfaces := #[]
  cf := some (fileOf pool4 1 #[] #[] 1537 3 #[] #[])
  fields := #[]
  methods := #[]
  instanceTypes := #[]
  staticTypes := #[]
  resolved := Array.replicate 12 none
  statics := none }

def pool5 : Array CpInfo := pool [(2, .class_ 4), (1, u "java/lang/CharSequence"), (42, .class_ 48), (0, u "java/lang/CharSequence$1CodePointIterator"), (10, .class_ 60), (0, u "java/lang/CharSequence$1CharIterator"), (5, .class_ 67), (0, u "java/lang/Object")] 63

/-- java/lang/CharSequence -/
def k5 : Class := { plain "java/lang/CharSequence" (some 0) with
  accessFlags := 1537
  interfaces := #[]
  cf := some (fileOf pool5 2 #[.nestMembers #[47, 59]] #[] 1537 66 #[] #[])
  fields := #[]
  methods := #[]
  instanceTypes := #[]
  staticTypes := #[]
  resolved := Array.replicate 131 none
  statics := none }

def pool6 : Array CpInfo := pool [(1, .class_ 2), (0, u "java/lang/constant/Constable"), (0, .class_ 4), (0, u "java/lang/Object")] 6

/-- java/lang/constant/Constable -/
def k6 : Class := { plain "java/lang/constant/Constable" (some 0) with
  accessFlags := 1537
  interfaces := #[]
  cf := some (fileOf pool6 1 #[] #[] 1537 3 #[] #[])
  fields := #[]
  methods := #[]
  instanceTypes := #[]
  staticTypes := #[]
  resolved := Array.replicate 11 none
  statics := none }

def pool7 : Array CpInfo := pool [(1, .class_ 2), (0, u "java/lang/constant/ConstantDesc"), (0, .class_ 4), (0, u "java/lang/Object")] 32

/-- java/lang/constant/ConstantDesc -/
def k7 : Class := { plain "java/lang/constant/ConstantDesc" (some 0) with
  accessFlags := 1537
  interfaces := #[]
  cf := some (fileOf pool7 1 #[] #[] 1537 3 #[] #[])
  fields := #[]
  methods := #[]
  instanceTypes := #[]
  staticTypes := #[]
  resolved := Array.replicate 37 none
  statics := none }

def pool8 : Array CpInfo := pool [(2, .class_ 4), (1, u "java/lang/Object"), (0, u "<init>"), (0, u "()V"), (3, .class_ 12), (1, u "java/lang/String"), (0, u "value"), (0, u "[B"), (2, u "coder"), (0, u "B"), (2, u "hash"), (0, u "I"), (2, u "hashIsZero"), (0, u "Z"), (13, u "COMPACT_STRINGS"), (534, .class_ 576), (0, u "java/lang/CharSequence"), (22, u "CASE_INSENSITIVE_ORDER"), (0, u "Ljava/util/Comparator;"), (500, u "serialPersistentFields"), (0, u "[Ljava/io/ObjectStreamField;"), (0, .class_ 1104), (0, u "java/lang/String$CaseInsensitiveComparator"), (1, .class_ 1107), (0, u "java/io/Serializable"), (0, .class_ 1109), (0, u "java/lang/Comparable"), (0, .class_ 1111), (0, u "java/lang/constant/Constable"), (0, .class_ 1113), (0, u "java/lang/constant/ConstantDesc"), (2, u "serialVersionUID"), (0, u "J"), (3, u "REPL"), (0, u "C"), (2, u "LATIN1"), (1, u "UTF16")] 323

def k8m0 : Method := { name := "<init>", desc := "()V", sig := { parameters := [], returnType := none }, accessFlags := 1, code := none }
/-- java/lang/String -/
def k8 : Class := { plain "java/lang/String" (some 0) with
  accessFlags := 49
  interfaces := #[3, 4, 5, 6, 7]
  cf := some (fileOf pool8 10 #[.nestMembers #[1103]] #[{ accessFlags := 1, nameIndex := 5, descriptorIndex := 6, attributes := #[] }] 49 2 #[1106, 1108, 575, 1110, 1112] #[{ accessFlags := 18, nameIndex := 13, descriptorIndex := 14, attributes := #[] }, { accessFlags := 18, nameIndex := 17, descriptorIndex := 18, attributes := #[] }, { accessFlags := 2, nameIndex := 21, descriptorIndex := 22, attributes := #[] }, { accessFlags := 2, nameIndex := 25, descriptorIndex := 26, attributes := #[] }, { accessFlags := 26, nameIndex := 1116, descriptorIndex := 1117, attributes := #[] }, { accessFlags := 24, nameIndex := 40, descriptorIndex := 26, attributes := #[] }, { accessFlags := 26, nameIndex := 1101, descriptorIndex := 1102, attributes := #[] }, { accessFlags := 26, nameIndex := 1121, descriptorIndex := 1122, attributes := #[] }, { accessFlags := 25, nameIndex := 599, descriptorIndex := 600, attributes := #[] }, { accessFlags := 24, nameIndex := 1125, descriptorIndex := 18, attributes := #[] }, { accessFlags := 24, nameIndex := 1127, descriptorIndex := 18, attributes := #[] }])
  fields := #[{ name := "value", type := (.array .byte), accessFlags := 18, slot := 0, constantValue := 0 }, { name := "coder", type := .byte, accessFlags := 18, slot := 1, constantValue := 0 }, { name := "hash", type := .int, accessFlags := 2, slot := 2, constantValue := 0 }, { name := "hashIsZero", type := .boolean, accessFlags := 2, slot := 3, constantValue := 0 }, { name := "serialVersionUID", type := .long, accessFlags := 26, slot := 0, constantValue := 0 }, { name := "COMPACT_STRINGS", type := .boolean, accessFlags := 24, slot := 1, constantValue := 0 }, { name := "serialPersistentFields", type := (.array (.object "java/io/ObjectStreamField")), accessFlags := 26, slot := 2, constantValue := 0 }, { name := "REPL", type := .char, accessFlags := 26, slot := 3, constantValue := 0 }, { name := "CASE_INSENSITIVE_ORDER", type := (.object "java/util/Comparator"), accessFlags := 25, slot := 4, constantValue := 0 }, { name := "LATIN1", type := .byte, accessFlags := 24, slot := 5, constantValue := 0 }, { name := "UTF16", type := .byte, accessFlags := 24, slot := 6, constantValue := 0 }]
  methods := #[k8m0]
  instanceTypes := #[(.array .byte), .byte, .int, .boolean]
  staticTypes := #[.long, .boolean, (.array (.object "java/io/ObjectStreamField")), .char, (.object "java/util/Comparator"), .byte, .byte]
  resolved := Array.replicate 1451 none
  statics := none }

def pool9 : Array CpInfo := pool [(1, .class_ 2), (0, u "java/lang/Character"), (18, u "value"), (0, u "C"), (19, .class_ 44), (1, u "java/lang/Object"), (3, .class_ 50), (1, u "java/lang/Character$CharacterCache"), (24, .integer 55296), (5, u "(C)Z"), (202, u "$assertionsDisabled"), (0, u "Z"), (21, .class_ 309), (1, u "java/lang/Character$UnicodeBlock"), (73, u "TYPE"), (0, u "Ljava/lang/Class;"), (0, .class_ 386), (0, u "java/io/Serializable"), (0, .class_ 388), (0, u "java/lang/Comparable"), (0, .class_ 390), (0, u "java/lang/constant/Constable"), (0, u "MIN_RADIX"), (0, u "I"), (2, u "MAX_RADIX"), (1, u "MIN_VALUE"), (1, u "MAX_VALUE"), (3, u "UNASSIGNED"), (0, u "B"), (0, u "UPPERCASE_LETTER"), (1, u "LOWERCASE_LETTER"), (0, u "TITLECASE_LETTER"), (1, u "MODIFIER_LETTER"), (1, u "OTHER_LETTER"), (1, u "NON_SPACING_MARK"), (1, u "ENCLOSING_MARK"), (1, u "COMBINING_SPACING_MARK"), (1, u "DECIMAL_DIGIT_NUMBER"), (1, u "LETTER_NUMBER"), (1, u "OTHER_NUMBER"), (1, u "SPACE_SEPARATOR"), (1, u "LINE_SEPARATOR"), (1, u "PARAGRAPH_SEPARATOR"), (1, u "CONTROL"), (1, u "FORMAT"), (1, u "PRIVATE_USE"), (1, u "SURROGATE"), (1, u "DASH_PUNCTUATION"), (1, u "START_PUNCTUATION"), (1, u "END_PUNCTUATION"), (1, u "CONNECTOR_PUNCTUATION"), (1, u "OTHER_PUNCTUATION"), (1, u "MATH_SYMBOL"), (1, u "CURRENCY_SYMBOL"), (1, u "MODIFIER_SYMBOL"), (1, u "OTHER_SYMBOL"), (1, u "INITIAL_QUOTE_PUNCTUATION"), (1, u "FINAL_QUOTE_PUNCTUATION"), (1, u "ERROR"), (1, u "DIRECTIONALITY_UNDEFINED"), (0, u "DIRECTIONALITY_LEFT_TO_RIGHT"), (0, u "DIRECTIONALITY_RIGHT_TO_LEFT"), (0, u "DIRECTIONALITY_RIGHT_TO_LEFT_ARABIC"), (0, u "DIRECTIONALITY_EUROPEAN_NUMBER"), (0, u "DIRECTIONALITY_EUROPEAN_NUMBER_SEPARATOR"), (0, u "DIRECTIONALITY_EUROPEAN_NUMBER_TERMINATOR"), (0, u "DIRECTIONALITY_ARABIC_NUMBER"), (0, u "DIRECTIONALITY_COMMON_NUMBER_SEPARATOR"), (0, u "DIRECTIONALITY_NONSPACING_MARK"), (0, u "DIRECTIONALITY_BOUNDARY_NEUTRAL"), (0, u "DIRECTIONALITY_PARAGRAPH_SEPARATOR"), (0, u "DIRECTIONALITY_SEGMENT_SEPARATOR"), (0, u "DIRECTIONALITY_WHITESPACE"), (0, u "DIRECTIONALITY_OTHER_NEUTRALS"), (0, u "DIRECTIONALITY_LEFT_TO_RIGHT_EMBEDDING"), (0, u "DIRECTIONALITY_LEFT_TO_RIGHT_OVERRIDE"), (0, u "DIRECTIONALITY_RIGHT_TO_LEFT_EMBEDDING"), (0, u "DIRECTIONALITY_RIGHT_TO_LEFT_OVERRIDE"), (1, u "DIRECTIONALITY_POP_DIRECTIONAL_FORMAT"), (0, u "DIRECTIONALITY_LEFT_TO_RIGHT_ISOLATE"), (0, u "DIRECTIONALITY_RIGHT_TO_LEFT_ISOLATE"), (0, u "DIRECTIONALITY_FIRST_STRONG_ISOLATE"), (0, u "DIRECTIONALITY_POP_DIRECTIONAL_ISOLATE"), (0, u "MIN_HIGH_SURROGATE"), (0, u "MAX_HIGH_SURROGATE"), (1, u "MIN_LOW_SURROGATE"), (0, u "MAX_LOW_SURROGATE"), (1, u "MIN_SURROGATE"), (0, u "MAX_SURROGATE"), (0, u "MIN_SUPPLEMENTARY_CODE_POINT"), (0, u "MIN_CODE_POINT"), (0, u "MAX_CODE_POINT"), (1, u "serialVersionUID"), (0, u "J"), (2, u "SIZE"), (0, u "BYTES"), (24, u "isSurrogate"), (63, .class_ 596), (0, u "java/lang/Character$UnicodeScript"), (0, .class_ 598), (0, u "java/lang/Character$Subset")] 5

def k9c0 : Code := { maxStack := 2, maxLocals := 1, code := jdk_89_method_16_code, exceptionTable := #[], attributes := #[] }
def k9m0 : Method := { name := "isSurrogate", desc := "(C)Z", sig := { parameters := [.char], returnType := some .boolean }, accessFlags := 9, code := some k9c0 }
/-- java/lang/Character -/
def k9 : Class := { plain "java/lang/Character" (some 0) with
  accessFlags := 49
  interfaces := #[3, 4, 6]
  cf := some (fileOf pool9 1 #[.nestMembers #[48, 595, 307, 597]] #[{ accessFlags := 9, nameIndex := 531, descriptorIndex := 81, attributes := #[] }] 49 42 #[385, 387, 389] #[{ accessFlags := 25, nameIndex := 391, descriptorIndex := 392, attributes := #[] }, { accessFlags := 25, nameIndex := 395, descriptorIndex := 392, attributes := #[] }, { accessFlags := 25, nameIndex := 397, descriptorIndex := 22, attributes := #[] }, { accessFlags := 25, nameIndex := 399, descriptorIndex := 22, attributes := #[] }, { accessFlags := 25, nameIndex := 383, descriptorIndex := 384, attributes := #[] }, { accessFlags := 25, nameIndex := 403, descriptorIndex := 404, attributes := #[] }, { accessFlags := 25, nameIndex := 405, descriptorIndex := 404, attributes := #[] }, { accessFlags := 25, nameIndex := 407, descriptorIndex := 404, attributes := #[] }, { accessFlags := 25, nameIndex := 408, descriptorIndex := 404, attributes := #[] }, { accessFlags := 25, nameIndex := 410, descriptorIndex := 404, attributes := #[] }, { accessFlags := 25, nameIndex := 412, descriptorIndex := 404, attributes := #[] }, { accessFlags := 25, nameIndex := 414, descriptorIndex := 404, attributes := #[] }, { accessFlags := 25, nameIndex := 416, descriptorIndex := 404, attributes := #[] }, { accessFlags := 25, nameIndex := 418, descriptorIndex := 404, attributes := #[] }, { accessFlags := 25, nameIndex := 420, descriptorIndex := 404, attributes := #[] }, { accessFlags := 25, nameIndex := 422, descriptorIndex := 404, attributes := #[] }, { accessFlags := 25, nameIndex := 424, descriptorIndex := 404, attributes := #[] }, { accessFlags := 25, nameIndex := 426, descriptorIndex := 404, attributes := #[] }, { accessFlags := 25, nameIndex := 428, descriptorIndex := 404, attributes := #[] }, { accessFlags := 25, nameIndex := 430, descriptorIndex := 404, attributes := #[] }, { accessFlags := 25, nameIndex := 432, descriptorIndex := 404, attributes := #[] }, { accessFlags := 25, nameIndex := 434, descriptorIndex := 404, attributes := #[] }, { accessFlags := 25, nameIndex := 436, descriptorIndex := 404, attributes := #[] }, { accessFlags := 25, nameIndex := 438, descriptorIndex := 404, attributes := #[] }, { accessFlags := 25, nameIndex := 440, descriptorIndex := 404, attributes := #[] }, { accessFlags := 25, nameIndex := 442, descriptorIndex := 404, attributes := #[] }, { accessFlags := 25, nameIndex := 444, descriptorIndex := 404, attributes := #[] }, { accessFlags := 25, nameIndex := 446, descriptorIndex := 404, attributes := #[] }, { accessFlags := 25, nameIndex := 448, descriptorIndex := 404, attributes := #[] }, { accessFlags := 25, nameIndex := 450, descriptorIndex := 404, attributes := #[] }, { accessFlags := 25, nameIndex := 452, descriptorIndex := 404, attributes := #[] }, { accessFlags := 25, nameIndex := 454, descriptorIndex := 404, attributes := #[] }, { accessFlags := 25, nameIndex := 456, descriptorIndex := 404, attributes := #[] }, { accessFlags := 25, nameIndex := 458, descriptorIndex := 404, attributes := #[] }, { accessFlags := 25, nameIndex := 460, descriptorIndex := 404, attributes := #[] }, { accessFlags := 24, nameIndex := 462, descriptorIndex := 392, attributes := #[] }, { accessFlags := 25, nameIndex := 464, descriptorIndex := 404, attributes := #[] }, { accessFlags := 25, nameIndex := 465, descriptorIndex := 404, attributes := #[] }, { accessFlags := 25, nameIndex := 466, descriptorIndex := 404, attributes := #[] }, { accessFlags := 25, nameIndex := 467, descriptorIndex := 404, attributes := #[] }, { accessFlags := 25, nameIndex := 468, descriptorIndex := 404, attributes := #[] }, { accessFlags := 25, nameIndex := 469, descriptorIndex := 404, attributes := #[] }, { accessFlags := 25, nameIndex := 470, descriptorIndex := 404, attributes := #[] }, { accessFlags := 25, nameIndex := 471, descriptorIndex := 404, attributes := #[] }, { accessFlags := 25, nameIndex := 472, descriptorIndex := 404, attributes := #[] }, { accessFlags := 25, nameIndex := 473, descriptorIndex := 404, attributes := #[] }, { accessFlags := 25, nameIndex := 474, descriptorIndex := 404, attributes := #[] }, { accessFlags := 25, nameIndex := 475, descriptorIndex := 404, attributes := #[] }, { accessFlags := 25, nameIndex := 476, descriptorIndex := 404, attributes := #[] }, { accessFlags := 25, nameIndex := 477, descriptorIndex := 404, attributes := #[] }, { accessFlags := 25, nameIndex := 478, descriptorIndex := 404, attributes := #[] }, { accessFlags := 25, nameIndex := 479, descriptorIndex := 404, attributes := #[] }, { accessFlags := 25, nameIndex := 480, descriptorIndex := 404, attributes := #[] }, { accessFlags := 25, nameIndex := 481, descriptorIndex := 404, attributes := #[] }, { accessFlags := 25, nameIndex := 482, descriptorIndex := 404, attributes := #[] }, { accessFlags := 25, nameIndex := 484, descriptorIndex := 404, attributes := #[] }, { accessFlags := 25, nameIndex := 485, descriptorIndex := 404, attributes := #[] }, { accessFlags := 25, nameIndex := 486, descriptorIndex := 404, attributes := #[] }, { accessFlags := 25, nameIndex := 487, descriptorIndex := 404, attributes := #[] }, { accessFlags := 25, nameIndex := 488, descriptorIndex := 404, attributes := #[] }, { accessFlags := 25, nameIndex := 489, descriptorIndex := 22, attributes := #[] }, { accessFlags := 25, nameIndex := 490, descriptorIndex := 22, attributes := #[] }, { accessFlags := 25, nameIndex := 492, descriptorIndex := 22, attributes := #[] }, { accessFlags := 25, nameIndex := 493, descriptorIndex := 22, attributes := #[] }, { accessFlags := 25, nameIndex := 495, descriptorIndex := 22, attributes := #[] }, { accessFlags := 25, nameIndex := 496, descriptorIndex := 22, attributes := #[] }, { accessFlags := 25, nameIndex := 497, descriptorIndex := 392, attributes := #[] }, { accessFlags := 25, nameIndex := 498, descriptorIndex := 392, attributes := #[] }, { accessFlags := 25, nameIndex := 499, descriptorIndex := 392, attributes := #[] }, { accessFlags := 18, nameIndex := 21, descriptorIndex := 22, attributes := #[] }, { accessFlags := 26, nameIndex := 501, descriptorIndex := 502, attributes := #[] }, { accessFlags := 25, nameIndex := 505, descriptorIndex := 392, attributes := #[] }, { accessFlags := 25, nameIndex := 506, descriptorIndex := 392, attributes := #[] }, { accessFlags := 4120, nameIndex := 284, descriptorIndex := 285, attributes := #[] }])
  fields := #[{ name := "MIN_RADIX", type := .int, accessFlags := 25, slot := 0, constantValue := 0 }, { name := "MAX_RADIX", type := .int, accessFlags := 25, slot := 1, constantValue := 0 }, { name := "MIN_VALUE", type := .char, accessFlags := 25, slot := 2, constantValue := 0 }, { name := "MAX_VALUE", type := .char, accessFlags := 25, slot := 3, constantValue := 0 }, { name := "TYPE", type := (.object "java/lang/Class"), accessFlags := 25, slot := 4, constantValue := 0 }, { name := "UNASSIGNED", type := .byte, accessFlags := 25, slot := 5, constantValue := 0 }, { name := "UPPERCASE_LETTER", type := .byte, accessFlags := 25, slot := 6, constantValue := 0 }, { name := "LOWERCASE_LETTER", type := .byte, accessFlags := 25, slot := 7, constantValue := 0 }, { name := "TITLECASE_LETTER", type := .byte, accessFlags := 25, slot := 8, constantValue := 0 }, { name := "MODIFIER_LETTER", type := .byte, accessFlags := 25, slot := 9, constantValue := 0 }, { name := "OTHER_LETTER", type := .byte, accessFlags := 25, slot := 10, constantValue := 0 }, { name := "NON_SPACING_MARK", type := .byte, accessFlags := 25, slot := 11, constantValue := 0 }, { name := "ENCLOSING_MARK", type := .byte, accessFlags := 25, slot := 12, constantValue := 0 }, { name := "COMBINING_SPACING_MARK", type := .byte, accessFlags := 25, slot := 13, constantValue := 0 }, { name := "DECIMAL_DIGIT_NUMBER", type := .byte, accessFlags := 25, slot := 14, constantValue := 0 }, { name := "LETTER_NUMBER", type := .byte, accessFlags := 25, slot := 15, constantValue := 0 }, { name := "OTHER_NUMBER", type := .byte, accessFlags := 25, slot := 16, constantValue := 0 }, { name := "SPACE_SEPARATOR", type := .byte, accessFlags := 25, slot := 17, constantValue := 0 }, { name := "LINE_SEPARATOR", type := .byte, accessFlags := 25, slot := 18, constantValue := 0 }, { name := "PARAGRAPH_SEPARATOR", type := .byte, accessFlags := 25, slot := 19, constantValue := 0 }, { name := "CONTROL", type := .byte, accessFlags := 25, slot := 20, constantValue := 0 }, { name := "FORMAT", type := .byte, accessFlags := 25, slot := 21, constantValue := 0 }, { name := "PRIVATE_USE", type := .byte, accessFlags := 25, slot := 22, constantValue := 0 }, { name := "SURROGATE", type := .byte, accessFlags := 25, slot := 23, constantValue := 0 }, { name := "DASH_PUNCTUATION", type := .byte, accessFlags := 25, slot := 24, constantValue := 0 }, { name := "START_PUNCTUATION", type := .byte, accessFlags := 25, slot := 25, constantValue := 0 }, { name := "END_PUNCTUATION", type := .byte, accessFlags := 25, slot := 26, constantValue := 0 }, { name := "CONNECTOR_PUNCTUATION", type := .byte, accessFlags := 25, slot := 27, constantValue := 0 }, { name := "OTHER_PUNCTUATION", type := .byte, accessFlags := 25, slot := 28, constantValue := 0 }, { name := "MATH_SYMBOL", type := .byte, accessFlags := 25, slot := 29, constantValue := 0 }, { name := "CURRENCY_SYMBOL", type := .byte, accessFlags := 25, slot := 30, constantValue := 0 }, { name := "MODIFIER_SYMBOL", type := .byte, accessFlags := 25, slot := 31, constantValue := 0 }, { name := "OTHER_SYMBOL", type := .byte, accessFlags := 25, slot := 32, constantValue := 0 }, { name := "INITIAL_QUOTE_PUNCTUATION", type := .byte, accessFlags := 25, slot := 33, constantValue := 0 }, { name := "FINAL_QUOTE_PUNCTUATION", type := .byte, accessFlags := 25, slot := 34, constantValue := 0 }, { name := "ERROR", type := .int, accessFlags := 24, slot := 35, constantValue := 0 }, { name := "DIRECTIONALITY_UNDEFINED", type := .byte, accessFlags := 25, slot := 36, constantValue := 0 }, { name := "DIRECTIONALITY_LEFT_TO_RIGHT", type := .byte, accessFlags := 25, slot := 37, constantValue := 0 }, { name := "DIRECTIONALITY_RIGHT_TO_LEFT", type := .byte, accessFlags := 25, slot := 38, constantValue := 0 }, { name := "DIRECTIONALITY_RIGHT_TO_LEFT_ARABIC", type := .byte, accessFlags := 25, slot := 39, constantValue := 0 }, { name := "DIRECTIONALITY_EUROPEAN_NUMBER", type := .byte, accessFlags := 25, slot := 40, constantValue := 0 }, { name := "DIRECTIONALITY_EUROPEAN_NUMBER_SEPARATOR", type := .byte, accessFlags := 25, slot := 41, constantValue := 0 }, { name := "DIRECTIONALITY_EUROPEAN_NUMBER_TERMINATOR", type := .byte, accessFlags := 25, slot := 42, constantValue := 0 }, { name := "DIRECTIONALITY_ARABIC_NUMBER", type := .byte, accessFlags := 25, slot := 43, constantValue := 0 }, { name := "DIRECTIONALITY_COMMON_NUMBER_SEPARATOR", type := .byte, accessFlags := 25, slot := 44, constantValue := 0 }, { name := "DIRECTIONALITY_NONSPACING_MARK", type := .byte, accessFlags := 25, slot := 45, constantValue := 0 }, { name := "DIRECTIONALITY_BOUNDARY_NEUTRAL", type := .byte, accessFlags := 25, slot := 46, constantValue := 0 }, { name := "DIRECTIONALITY_PARAGRAPH_SEPARATOR", type := .byte, accessFlags := 25, slot := 47, constantValue := 0 }, { name := "DIRECTIONALITY_SEGMENT_SEPARATOR", type := .byte, accessFlags := 25, slot := 48, constantValue := 0 }, { name := "DIRECTIONALITY_WHITESPACE", type := .byte, accessFlags := 25, slot := 49, constantValue := 0 }, { name := "DIRECTIONALITY_OTHER_NEUTRALS", type := .byte, accessFlags := 25, slot := 50, constantValue := 0 }, { name := "DIRECTIONALITY_LEFT_TO_RIGHT_EMBEDDING", type := .byte, accessFlags := 25, slot := 51, constantValue := 0 }, { name := "DIRECTIONALITY_LEFT_TO_RIGHT_OVERRIDE", type := .byte, accessFlags := 25, slot := 52, constantValue := 0 }, { name := "DIRECTIONALITY_RIGHT_TO_LEFT_EMBEDDING", type := .byte, accessFlags := 25, slot := 53, constantValue := 0 }, { name := "DIRECTIONALITY_RIGHT_TO_LEFT_OVERRIDE", type := .byte, accessFlags := 25, slot := 54, constantValue := 0 }, { name := "DIRECTIONALITY_POP_DIRECTIONAL_FORMAT", type := .byte, accessFlags := 25, slot := 55, constantValue := 0 }, { name := "DIRECTIONALITY_LEFT_TO_RIGHT_ISOLATE", type := .byte, accessFlags := 25, slot := 56, constantValue := 0 }, { name := "DIRECTIONALITY_RIGHT_TO_LEFT_ISOLATE", type := .byte, accessFlags := 25, slot := 57, constantValue := 0 }, { name := "DIRECTIONALITY_FIRST_STRONG_ISOLATE", type := .byte, accessFlags := 25, slot := 58, constantValue := 0 }, { name := "DIRECTIONALITY_POP_DIRECTIONAL_ISOLATE", type := .byte, accessFlags := 25, slot := 59, constantValue := 0 }, { name := "MIN_HIGH_SURROGATE", type := .char, accessFlags := 25, slot := 60, constantValue := 0 }, { name := "MAX_HIGH_SURROGATE", type := .char, accessFlags := 25, slot := 61, constantValue := 0 }, { name := "MIN_LOW_SURROGATE", type := .char, accessFlags := 25, slot := 62, constantValue := 0 }, { name := "MAX_LOW_SURROGATE", type := .char, accessFlags := 25, slot := 63, constantValue := 0 }, { name := "MIN_SURROGATE", type := .char, accessFlags := 25, slot := 64, constantValue := 0 }, { name := "MAX_SURROGATE", type := .char, accessFlags := 25, slot := 65, constantValue := 0 }, { name := "MIN_SUPPLEMENTARY_CODE_POINT", type := .int, accessFlags := 25, slot := 66, constantValue := 0 }, { name := "MIN_CODE_POINT", type := .int, accessFlags := 25, slot := 67, constantValue := 0 }, { name := "MAX_CODE_POINT", type := .int, accessFlags := 25, slot := 68, constantValue := 0 }, { name := "value", type := .char, accessFlags := 18, slot := 0, constantValue := 0 }, { name := "serialVersionUID", type := .long, accessFlags := 26, slot := 69, constantValue := 0 }, { name := "SIZE", type := .int, accessFlags := 25, slot := 70, constantValue := 0 }, { name := "BYTES", type := .int, accessFlags := 25, slot := 71, constantValue := 0 }, { name := "$assertionsDisabled", type := .boolean, accessFlags := 4120, slot := 72, constantValue := 0 }]
  methods := #[k9m0]
  instanceTypes := #[.char]
  staticTypes := #[.int, .int, .char, .char, (.object "java/lang/Class"), .byte, .byte, .byte, .byte, .byte, .byte, .byte, .byte, .byte, .byte, .byte, .byte, .byte, .byte, .byte, .byte, .byte, .byte, .byte, .byte, .byte, .byte, .byte, .byte, .byte, .byte, .byte, .byte, .byte, .byte, .int, .byte, .byte, .byte, .byte, .byte, .byte, .byte, .byte, .byte, .byte, .byte, .byte, .byte, .byte, .byte, .byte, .byte, .byte, .byte, .byte, .byte, .byte, .byte, .byte, .char, .char, .char, .char, .char, .char, .int, .int, .int, .long, .int, .int, .boolean]
  resolved := Array.replicate 604 none
  statics := none }

def pool10 : Array CpInfo := pool [(1, u "java/lang/Cloneable"), (0, .class_ 1), (0, u "java/lang/Object"), (0, .class_ 3)] 3

/-- java/lang/Cloneable -/
def k10 : Class := { plain "java/lang/Cloneable" (some 0) with
  accessFlags := 1537
  interfaces := #[]
  cf := some (fileOf pool10 2 #[] #[] 1537 4 #[] #[])
  fields := #[]
  methods := #[]
  instanceTypes := #[]
  staticTypes := #[]
  resolved := Array.replicate 8 none
  statics := none }

/-- the primitive byte -/
def k11 : Class := { plain "byte" none with kind := .primitive 'B', accessFlags := 0x411 }
/-- [B -/
def k12 : Class := { plain "[B" (some 0) with kind := .array 11 .byte, interfaces := #[10, 3], accessFlags := 1041 }

/-- the primitive char -/
def k13 : Class := { plain "char" none with kind := .primitive 'C', accessFlags := 0x411 }
/-- [C -/
def k14 : Class := { plain "[C" (some 0) with kind := .array 13 .char, interfaces := #[10, 3], accessFlags := 1041 }

/-- the primitive int -/
def k15 : Class := { plain "int" none with kind := .primitive 'I', accessFlags := 0x411 }
/-- [I -/
def k16 : Class := { plain "[I" (some 0) with kind := .array 15 .int, interfaces := #[10, 3], accessFlags := 1041 }

def heap : Heap := #[]
def classes : Array Class := #[k0, k1, k2, k3, k4, k5, k6, k7, k8, k9, k10, k11, k12, k13, k14, k15, k16]
def interned : List (Array UInt16 × Addr) := []
def slotsUsed : Nat := 0
def theMethod : MethodId := ⟨1, 2⟩
def args0 : Array Value := #[.int 5, .int 3, .int 2, .int 1, .int 7, .int 9]
def aboutOver (below : List Frame) : State where
  vm := { classes := classes, interned := interned.toArray }
  heap := heap
  slotsUsed := slotsUsed
  threads := #[{ frames := .invoking theMethod args0 :: below }]
def below0 : List Frame := [.native { method := ⟨0, 0⟩, args := #[] }]
def about1 : State := aboutOver below0
def p0 : Program := .bare "" "" ""
def e0 : Env := launch0.env 0 0 0
theorem w_frames : about1.frames = Frame.invoking theMethod args0 :: below0 := rfl
set_option maxRecDepth 65536 in
theorem w_args : argsFit about1.vm theMethod args0 = true := by decide +kernel
set_option maxRecDepth 65536 in
theorem w_heap : heapFits about1 = true := by decide +kernel
set_option maxRecDepth 65536 in
theorem w_runnable : about1.curStatus? = some .runnable := by decide +kernel
set_option maxRecDepth 65536 in
theorem w_alone : about1.alone = true := by decide +kernel
set_option maxRecDepth 65536 in
theorem w_named : about1.methodNamed? x = some theMethod := by decide +kernel
set_option maxRecDepth 65536 in
theorem w_hears : about1.hears theMethod below0 = true := by decide +kernel
set_option maxRecDepth 65536 in
theorem w_ripe : about1.ripe theMethod args0 below0 = true := by decide +kernel
theorem w_running : about1.status = .running := rfl
set_option maxRecDepth 65536 in
theorem w_room : about1.hasRoom e0.platform room_1 = true :=
  launch0.hasRoom_least _ room_1 (by decide +kernel) (by decide +kernel) (by decide +kernel) (by decide +kernel) (by decide +kernel) (by decide +kernel)
theorem allAtoms_all (ts : List Jvm.Cond) (a : Array Jvm.Value) (st : Jvm.State) : (allAtoms ts).before a st = ts.all (fun c => c.before a st) := by
  induction ts with
  | nil => rfl
  | cons c t ih =>
    show (Jvm.Cond.and c (allAtoms t)).before a st = _
    rw [Jvm.Cond.before_and, ih, List.all_cons]
def words1 : List Jvm.Cond := Jvm.Cond.code x code maxLocals ret :: tables_1
/-- a 'code' word, met by the world's own term for the bytes: nothing is compared byte by byte -/
theorem code_word {y : MethodName} {bytes : ByteArray} {mx : Nat} {rt : Option FieldType} {a : Array Value} {s : State} {m : MethodId} {meth : Method} {c : Code} (h1 : s.methodNamed? y = some m) (h2 : s.vm.method? m = some meth) (h3 : meth.code = some c) (h4 : c.code = bytes)
    (h5 : (c.maxLocals == mx && c.exceptionTable.isEmpty && decide (c.maxStack ≤ mostOperands) && decide (meth.sig.returnType = rt) && !meth.locks && decide (parseMethodDescriptor y.desc = some meth.sig)) = true) : (Jvm.Cond.code y bytes mx rt).before a s = true := by
  simp only [Bool.and_eq_true, beq_iff_eq, Bool.not_eq_true', decide_eq_true_eq] at h5
  obtain ⟨⟨⟨⟨⟨g1, g2⟩, g3⟩, g4⟩, g5⟩, g6⟩ := h5
  simp [Cond.before, Cond.holds, Cond.value, h1, h2, h3, h4, g1, g2, g3, g4, g5, g6]
def isCode : Jvm.Cond → Bool
  | .code _ _ _ _ => true
  | _ => false
theorem all_split {L : List Jvm.Cond} {P : Jvm.Cond → Bool} (h1 : L.all (fun c => isCode c || P c) = true) (h2 : ∀ c ∈ L.filter isCode, P c = true) : L.all P = true := by
  refine List.all_eq_true.mpr fun c hc => ?_
  have h := List.all_eq_true.mp h1 c hc
  rcases Bool.eq_false_or_eq_true (isCode c) with hi | hi
  · exact h2 c (List.mem_filter.mpr ⟨hc, hi⟩)
  · simpa [hi] using h
set_option maxRecDepth 65536 in
theorem w_c0 : (Jvm.Cond.code x code maxLocals ret).before args0 about1 = true := code_word (m := ⟨1, 2⟩) (meth := k1m2) (c := k1c2) (by decide +kernel) rfl rfl rfl (by decide +kernel)
set_option maxRecDepth 65536 in
theorem w_c1 : (Jvm.Cond.code ({ cls := "com/example/endcon/endcon/yaml/CursorNewLinePinLaw", name := "pick", desc := "(I)C" } : Jvm.MethodName) method_2_code (2 : Nat) (Option.some Jvm.ClassFile.FieldType.char)).before args0 about1 = true := code_word (m := ⟨1, 1⟩) (meth := k1m1) (c := k1c1) (by decide +kernel) rfl rfl rfl (by decide +kernel)
set_option maxRecDepth 65536 in
theorem w_c2 : (Jvm.Cond.code ({ cls := "com/example/endcon/endcon/yaml/Cursor", name := "<init>", desc := "(Ljava/lang/String;[CI)V" } : Jvm.MethodName) prog_114_method_1_code (6 : Nat) (Option.none : Option Jvm.ClassFile.FieldType)).before args0 about1 = true := code_word (m := ⟨2, 0⟩) (meth := k2m0) (c := k2c0) (by decide +kernel) rfl rfl rfl (by decide +kernel)
set_option maxRecDepth 65536 in
theorem w_c3 : (Jvm.Cond.code ({ cls := "java/lang/Object", name := "<init>", desc := "()V" } : Jvm.MethodName) object_method_1_code (1 : Nat) (Option.none : Option Jvm.ClassFile.FieldType)).before args0 about1 = true := code_word (m := ⟨0, 0⟩) (meth := k0m0) (c := k0c0) (by decide +kernel) rfl rfl rfl (by decide +kernel)
set_option maxRecDepth 65536 in
theorem w_c4 : (Jvm.Cond.code ({ cls := "java/lang/Character", name := "isSurrogate", desc := "(C)Z" } : Jvm.MethodName) jdk_89_method_16_code (1 : Nat) (Option.some Jvm.ClassFile.FieldType.boolean)).before args0 about1 = true := code_word (m := ⟨9, 0⟩) (meth := k9m0) (c := k9c0) (by decide +kernel) rfl rfl rfl (by decide +kernel)
set_option maxRecDepth 65536 in
theorem w_c5 : (Jvm.Cond.code ({ cls := "com/example/endcon/endcon/yaml/Cursor", name := "moveTo", desc := "(I)V" } : Jvm.MethodName) prog_114_method_27_code (2 : Nat) (Option.none : Option Jvm.ClassFile.FieldType)).before args0 about1 = true := code_word (m := ⟨2, 4⟩) (meth := k2m4) (c := k2c4) (by decide +kernel) rfl rfl rfl (by decide +kernel)
set_option maxRecDepth 65536 in
theorem w_c6 : (Jvm.Cond.code ({ cls := "com/example/endcon/endcon/yaml/Cursor", name := "newLine", desc := "()V" } : Jvm.MethodName) prog_114_method_28_code (2 : Nat) (Option.none : Option Jvm.ClassFile.FieldType)).before args0 about1 = true := code_word (m := ⟨2, 5⟩) (meth := k2m5) (c := k2c5) (by decide +kernel) rfl rfl rfl (by decide +kernel)
set_option maxRecDepth 65536 in
theorem w_c7 : (Jvm.Cond.code ({ cls := "com/example/endcon/endcon/yaml/Cursor", name := "index", desc := "()I" } : Jvm.MethodName) prog_114_method_2_code (1 : Nat) (Option.some Jvm.ClassFile.FieldType.int)).before args0 about1 = true := code_word (m := ⟨2, 1⟩) (meth := k2m1) (c := k2c1) (by decide +kernel) rfl rfl rfl (by decide +kernel)
set_option maxRecDepth 65536 in
theorem w_c8 : (Jvm.Cond.code ({ cls := "com/example/endcon/endcon/yaml/Cursor", name := "line", desc := "()I" } : Jvm.MethodName) prog_114_method_4_code (1 : Nat) (Option.some Jvm.ClassFile.FieldType.int)).before args0 about1 = true := code_word (m := ⟨2, 2⟩) (meth := k2m2) (c := k2c2) (by decide +kernel) rfl rfl rfl (by decide +kernel)
set_option maxRecDepth 65536 in
theorem w_c9 : (Jvm.Cond.code ({ cls := "com/example/endcon/endcon/yaml/Cursor", name := "lineStart", desc := "()I" } : Jvm.MethodName) prog_114_method_5_code (1 : Nat) (Option.some Jvm.ClassFile.FieldType.int)).before args0 about1 = true := code_word (m := ⟨2, 3⟩) (meth := k2m3) (c := k2c3) (by decide +kernel) rfl rfl rfl (by decide +kernel)
def codes1 : List Jvm.Cond := [Jvm.Cond.code x code maxLocals ret, Jvm.Cond.code ({ cls := "com/example/endcon/endcon/yaml/CursorNewLinePinLaw", name := "pick", desc := "(I)C" } : Jvm.MethodName) method_2_code (2 : Nat) (Option.some Jvm.ClassFile.FieldType.char), Jvm.Cond.code ({ cls := "com/example/endcon/endcon/yaml/Cursor", name := "<init>", desc := "(Ljava/lang/String;[CI)V" } : Jvm.MethodName) prog_114_method_1_code (6 : Nat) (Option.none : Option Jvm.ClassFile.FieldType), Jvm.Cond.code ({ cls := "java/lang/Object", name := "<init>", desc := "()V" } : Jvm.MethodName) object_method_1_code (1 : Nat) (Option.none : Option Jvm.ClassFile.FieldType), Jvm.Cond.code ({ cls := "java/lang/Character", name := "isSurrogate", desc := "(C)Z" } : Jvm.MethodName) jdk_89_method_16_code (1 : Nat) (Option.some Jvm.ClassFile.FieldType.boolean), Jvm.Cond.code ({ cls := "com/example/endcon/endcon/yaml/Cursor", name := "moveTo", desc := "(I)V" } : Jvm.MethodName) prog_114_method_27_code (2 : Nat) (Option.none : Option Jvm.ClassFile.FieldType), Jvm.Cond.code ({ cls := "com/example/endcon/endcon/yaml/Cursor", name := "newLine", desc := "()V" } : Jvm.MethodName) prog_114_method_28_code (2 : Nat) (Option.none : Option Jvm.ClassFile.FieldType), Jvm.Cond.code ({ cls := "com/example/endcon/endcon/yaml/Cursor", name := "index", desc := "()I" } : Jvm.MethodName) prog_114_method_2_code (1 : Nat) (Option.some Jvm.ClassFile.FieldType.int), Jvm.Cond.code ({ cls := "com/example/endcon/endcon/yaml/Cursor", name := "line", desc := "()I" } : Jvm.MethodName) prog_114_method_4_code (1 : Nat) (Option.some Jvm.ClassFile.FieldType.int), Jvm.Cond.code ({ cls := "com/example/endcon/endcon/yaml/Cursor", name := "lineStart", desc := "()I" } : Jvm.MethodName) prog_114_method_5_code (1 : Nat) (Option.some Jvm.ClassFile.FieldType.int)]
set_option maxRecDepth 65536 in
theorem codes_eq : words1.filter isCode = codes1 := rfl
theorem w_codes : ∀ c ∈ words1.filter isCode, c.before args0 about1 = true := by
  rw [codes_eq]
  intro c hc
  simp only [codes1, List.mem_cons, List.not_mem_nil, or_false] at hc
  rcases hc with rfl | rfl | rfl | rfl | rfl | rfl | rfl | rfl | rfl | rfl
  · exact w_c0
  · exact w_c1
  · exact w_c2
  · exact w_c3
  · exact w_c4
  · exact w_c5
  · exact w_c6
  · exact w_c7
  · exact w_c8
  · exact w_c9
set_option maxRecDepth 65536 in
theorem w_t1 : (words1.take 24).all (fun c => isCode c || c.before args0 about1) = true := by decide +kernel
set_option maxRecDepth 65536 in
theorem w_t2 : ((words1.drop 24).take 24).all (fun c => isCode c || c.before args0 about1) = true := by decide +kernel
set_option maxRecDepth 65536 in
theorem w_t3 : (((words1.drop 24).drop 24).take 24).all (fun c => isCode c || c.before args0 about1) = true := by decide +kernel
set_option maxRecDepth 65536 in
theorem w_t4 : (((words1.drop 24).drop 24).drop 24).all (fun c => isCode c || c.before args0 about1) = true := by decide +kernel
theorem w_tables : (allAtoms (Jvm.Cond.code x code maxLocals ret :: tables_1)).before args0 about1 = true := by
  rw [allAtoms_all]
  show words1.all (fun c => c.before args0 about1) = true
  refine all_split ?_ w_codes
  rw [← List.take_append_drop 24 words1, List.all_append, w_t1, ← List.take_append_drop 24 (words1.drop 24), List.all_append, w_t2, ← List.take_append_drop 24 ((words1.drop 24).drop 24), List.all_append, w_t3, w_t4]
  rfl
set_option maxRecDepth 65536 in
theorem w_case : (Jvm.Cond.and given_1 narrow_1).before args0 about1 = true := by decide +kernel
theorem w_applies : (headSpec (Jvm.Cond.code x code maxLocals ret :: tables_1) room_1).applies x e0.platform about1 = true :=
  (Spec.applies_iff w_frames).mpr ⟨w_running, w_runnable, w_alone, w_named, w_hears, w_ripe, w_room, w_tables⟩
theorem atStart : AtStart classFile x code maxLocals ret World_1 tables_1 room_1 Calls_1 rest_1 Pre_1 launch0 p0 e0 about1 theMethod args0 below0 :=
  ⟨lists_1, trivial, launch0.admits_env _ _ _, launch0.least_env, fairChoices_fair.cas, fairChoices_fair.clock, w_frames, w_args, w_heap, w_applies, trivial, trivial, w_case⟩
end start1
theorem witness_1 : WitnessClaimed_1 := ⟨start1.p0, start1.e0, start1.about1, start1.theMethod, start1.args0, start1.below0, start1.atStart⟩
end Jvm.Pilot.@@N@@
