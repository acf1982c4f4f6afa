import JvmDerived
import JvmDerived.Pilot.@@N@@Statement
import JvmDerived.Pilot.@@N@@Code
set_option linter.unusedVariables false
set_option linter.unusedSimpArgs false
namespace Jvm.RoadKit
open Sem ClassFile Op Lib Jvm.Stand Jvm.Free Jvm.LawKit
section New
variable {p : Program} {l : Launch} {e : Env} {R : Room} {s : State} {m : MethodId} {args : Array Value} {below : List Frame} {meth : Method} {c : Code} {T : State} {locs : List Loc} {cells slots : Nat}
theorem retI (X : Stand p l e R s m args below meth c T locs cells slots) (hx : p.tables.exec = Jvm.exec) {pc : Nat} {Ls : Array Slot} {z : Int32} {rest : List Value} (hret : meth.sig.returnType = some .int) (hd : decode c.code pc = .ok (.ireturn, 1)) {fs : List Frame}
    (hl : ∀ (f : JFrame) (acts : List Action), f.method = m → f.locked = none → f.entered = [] → (doReturn e (T.setTop f) acts (some (.int z))).1 = T.setFrames fs) : Steps p.tables e below (T.setTop (mkF m pc Ls (.int z :: rest))) (T.setFrames fs) := by
  have hm' : T.vm.method? m = some meth := X.method'
  have hn : narrow .int (.int z) = .int z := rfl
  show Steps p.tables e below (T.setTop { method := m, pc := pc, locals := Ls, stack := _ :: rest, locked := none }) _
  jvm_step X.here [X.here.top, hx, hd, hm', hret, hn]
  first | (intro acts; rw [hl _ acts rfl rfl rfl]) | rw [hl _ _ rfl rfl rfl]
  exact Steps.refl _
end New
end Jvm.RoadKit
namespace Jvm.Pilot.@@N@@
open Jvm Jvm.ClassFile Sem Op Lib Jvm.Free Jvm.Stand Jvm.LawKit Jvm.RoadKit Bundle Jvm.Pilot.@@N@@.Jvm.D
/-! own_x1: one plain instruction over locals and stack, as a function; own_blk: a stretch of them in one row -/
def own_x1 : Instr → Nat → Array Slot → List Value → Option (Array Slot × List Value)
  | .iload_n k, 1, Ls, st => match Ls[k.val]? with | some (.val (.int x)) => some (Ls, .int x :: st) | _ => none
  | .iload k, 2, Ls, st => match Ls[k]? with | some (.val (.int x)) => some (Ls, .int x :: st) | _ => none
  | .lload_n k, 1, Ls, st => match Ls[k.val]? with | some (.val (.long x)) => some (Ls, .long x :: st) | _ => none
  | .lload k, 2, Ls, st => match Ls[k]? with | some (.val (.long x)) => some (Ls, .long x :: st) | _ => none
  | .aload_n k, 1, Ls, st => match Ls[k.val]? with | some (.val (.ref x)) => some (Ls, .ref x :: st) | some (.val .null) => some (Ls, .null :: st) | _ => none
  | .aload k, 2, Ls, st => match Ls[k]? with | some (.val (.ref x)) => some (Ls, .ref x :: st) | some (.val .null) => some (Ls, .null :: st) | _ => none
  | .istore_n k, 1, Ls, .int x :: st => match storeLocals Ls k.val (.int x) with | some L => some (L, st) | none => none
  | .istore k, 2, Ls, .int x :: st => match storeLocals Ls k (.int x) with | some L => some (L, st) | none => none
  | .lstore_n k, 1, Ls, .long x :: st => match storeLocals Ls k.val (.long x) with | some L => some (L, st) | none => none
  | .lstore k, 2, Ls, .long x :: st => match storeLocals Ls k (.long x) with | some L => some (L, st) | none => none
  | .astore_n k, 1, Ls, .ref x :: st => match storeLocals Ls k.val (.ref x) with | some L => some (L, st) | none => none
  | .astore k, 2, Ls, .ref x :: st => match storeLocals Ls k (.ref x) with | some L => some (L, st) | none => none
  | .iconst i, 1, Ls, st => some (Ls, .int (Int32.ofInt i) :: st)
  | .bipush i, 2, Ls, st => some (Ls, .int (Int8.ofInt i).toInt32 :: st)
  | .sipush i, 3, Ls, st => some (Ls, .int (Int16.ofInt i).toInt32 :: st)
  | .lconst k, 1, Ls, st => some (Ls, .long (Int64.ofNat k) :: st)
  | .aconst_null, 1, Ls, st => some (Ls, .null :: st)
  | .iadd, 1, Ls, .int y :: .int x :: st => some (Ls, .int (x + y) :: st)
  | .isub, 1, Ls, .int y :: .int x :: st => some (Ls, .int (x - y) :: st)
  | .imul, 1, Ls, .int y :: .int x :: st => some (Ls, .int (x * y) :: st)
  | .iand, 1, Ls, .int y :: .int x :: st => some (Ls, .int (x &&& y) :: st)
  | .ior, 1, Ls, .int y :: .int x :: st => some (Ls, .int (x ||| y) :: st)
  | .ixor, 1, Ls, .int y :: .int x :: st => some (Ls, .int (x ^^^ y) :: st)
  | .ishl, 1, Ls, .int y :: .int x :: st => some (Ls, .int (x <<< (y &&& 31)) :: st)
  | .ishr, 1, Ls, .int y :: .int x :: st => some (Ls, .int (x >>> (y &&& 31)) :: st)
  | .iushr, 1, Ls, .int y :: .int x :: st => some (Ls, .int ((x.toUInt32 >>> (y &&& 31).toUInt32).toInt32) :: st)
  | .ladd, 1, Ls, .long y :: .long x :: st => some (Ls, .long (x + y) :: st)
  | .lsub, 1, Ls, .long y :: .long x :: st => some (Ls, .long (x - y) :: st)
  | .lmul, 1, Ls, .long y :: .long x :: st => some (Ls, .long (x * y) :: st)
  | .land, 1, Ls, .long y :: .long x :: st => some (Ls, .long (x &&& y) :: st)
  | .lor, 1, Ls, .long y :: .long x :: st => some (Ls, .long (x ||| y) :: st)
  | .lxor, 1, Ls, .long y :: .long x :: st => some (Ls, .long (x ^^^ y) :: st)
  | .lushr, 1, Ls, .int y :: .long x :: st => some (Ls, .long ((x.toUInt64 >>> (y &&& 0x3f).toInt64.toUInt64).toInt64) :: st)
  | .ineg, 1, Ls, .int x :: st => some (Ls, .int (-x) :: st)
  | .i2l, 1, Ls, .int x :: st => some (Ls, .long x.toInt64 :: st)
  | .i2b, 1, Ls, .int x :: st => some (Ls, .int x.toInt8.toInt32 :: st)
  | .i2c, 1, Ls, .int x :: st => some (Ls, .int x.toUInt32.toUInt16.toUInt32.toInt32 :: st)
  | .i2s, 1, Ls, .int x :: st => some (Ls, .int x.toInt16.toInt32 :: st)
  | .lcmp, 1, Ls, .long y :: .long x :: st => some (Ls, .int (lcmpW x y) :: st)
  | .dup, 1, Ls, .int x :: st => some (Ls, .int x :: .int x :: st)
  | .dup, 1, Ls, .ref x :: st => some (Ls, .ref x :: .ref x :: st)
  | .iinc k i, 3, Ls, st => match Ls[k]? with | some (.val (.int x)) => (match storeLocals Ls k (.int (x + Int32.ofInt i)) with | some L => some (L, st) | none => none) | _ => none
  | _, _, _, _ => none
section OwnBlk
variable {p : Program} {l : Launch} {e : Env} {R : Room} {s : State} {m : MethodId} {args : Array Value} {below : List Frame} {meth : Method} {c : Code} {T target : State} {locs : List Loc} {cells slots : Nat}
set_option maxHeartbeats 4000000 in
theorem own_x1_ok (X : Stand p l e R s m args below meth c T locs cells slots) (hx : p.tables.exec = Jvm.exec) {i : Instr} {len pc : Nat} {Ls Ls' : Array Slot} {st st' : List Value} (hd : decode c.code pc = .ok (i, len)) (h : own_x1 i len Ls st = some (Ls', st'))
    (k : Steps p.tables e below (T.setTop (mkF m (pc + len) Ls' st')) target) : Steps p.tables e below (T.setTop (mkF m pc Ls st)) target := by
  unfold own_x1 at h
  split at h
  all_goals (try (split at h))
  all_goals (try (split at h))
  all_goals (try (cases h; done))
  all_goals (cases h)
  all_goals first
    | exact XS.iloadN X.here hx rfl hd (by assumption) k
    | exact XS.iload X.here hx rfl hd (by assumption) k
    | exact XS.lloadN X.here hx rfl hd (by assumption) k
    | exact XS.lload X.here hx rfl hd (by assumption) k
    | exact XS.aloadN X.here hx rfl hd (by assumption) rfl k
    | exact XS.aload X.here hx rfl hd (by assumption) rfl k
    | exact XS.istoreN X.here hx rfl hd rfl (by assumption) k
    | exact XS.istore X.here hx rfl hd rfl (by assumption) k
    | exact XS.lstoreN X.here hx rfl hd rfl (by assumption) k
    | exact XS.lstore X.here hx rfl hd rfl (by assumption) k
    | exact XS.astoreN X.here hx rfl hd rfl rfl (by assumption) k
    | exact XS.astore X.here hx rfl hd rfl rfl (by assumption) k
    | exact XS.iconst X.here hx rfl hd k
    | exact XS.bipush X.here hx rfl hd k
    | exact XS.sipush X.here hx rfl hd k
    | exact XS.lconst X.here hx rfl hd k
    | exact XS.aconstNull X.here hx rfl hd k
    | exact XS.iadd X.here hx rfl hd rfl k
    | exact XS.isub X.here hx rfl hd rfl k
    | exact XS.imul X.here hx rfl hd rfl k
    | exact XS.iand X.here hx rfl hd rfl k
    | exact XS.ior X.here hx rfl hd rfl k
    | exact XS.ixor X.here hx rfl hd rfl k
    | exact XS.ishl X.here hx rfl hd rfl k
    | exact XS.ishr X.here hx rfl hd rfl k
    | exact XS.iushr X.here hx rfl hd rfl k
    | exact XS.ladd X.here hx rfl hd rfl k
    | exact XS.lsub X.here hx rfl hd rfl k
    | exact XS.lmul X.here hx rfl hd rfl k
    | exact XS.land X.here hx rfl hd rfl k
    | exact XS.lor X.here hx rfl hd rfl k
    | exact XS.lxor X.here hx rfl hd rfl k
    | exact XS.lushr X.here hx rfl hd rfl k
    | exact XS.ineg X.here hx rfl hd rfl k
    | exact XS.i2l X.here hx rfl hd rfl k
    | exact XS.i2b X.here hx rfl hd rfl k
    | exact XS.i2c X.here hx rfl hd rfl k
    | exact XS.i2s X.here hx rfl hd rfl k
    | exact XS.lcmp X.here hx rfl hd rfl k
    | exact XS.dup X.here hx rfl hd rfl rfl k
    | exact XS.iinc X.here hx rfl hd (by assumption) (by assumption) k
/-- a stretch: each row's pc, instruction and length; a 'goto' among them goes where its row says -/
def own_xs : List (Nat × Instr × Nat) → Nat → Array Slot → List Value → Option (Nat × Array Slot × List Value)
  | [], pc, Ls, st => some (pc, Ls, st)
  | (q, .goto o, 3) :: is, pc, Ls, st => if q = pc then own_xs is ((pc : Int) + o).toNat Ls st else none
  | (q, i, len) :: is, pc, Ls, st => if q = pc then (match own_x1 i len Ls st with | some (L, t) => own_xs is (pc + len) L t | none => none) else none
def own_dec (b : ByteArray) (is : List (Nat × Instr × Nat)) : Bool := is.all fun r => (match decode b r.1 with | .ok (i, n) => decide (i = r.2.1) && decide (n = r.2.2) | .error _ => false) && (match r.2.1 with | .goto o => decide (0 ≤ (r.1 : Int) + o) | _ => true)
theorem own_blk (X : Stand p l e R s m args below meth c T locs cells slots) (hx : p.tables.exec = Jvm.exec) : ∀ (is : List (Nat × Instr × Nat)) {pc pc' : Nat} {Ls Ls' : Array Slot} {st st' : List Value}, own_dec c.code is = true → own_xs is pc Ls st = some (pc', Ls', st') →
    Steps p.tables e below (T.setTop (mkF m pc' Ls' st')) target → Steps p.tables e below (T.setTop (mkF m pc Ls st)) target := by
  intro is
  induction is with
  | nil => intro pc pc' Ls Ls' st st' _ h k; simp only [own_xs] at h; cases h; exact k
  | cons r is ih =>
    intro pc pc' Ls Ls' st st' hd h k
    simp only [own_dec, List.all_cons, Bool.and_eq_true] at hd
    obtain ⟨⟨h1, h2⟩, h3⟩ := hd
    obtain ⟨q, i, len⟩ := r
    have hdec : decode c.code q = .ok (i, len) := by
      revert h1
      dsimp only
      cases decode c.code q with
      | error _ => intro h; cases h
      | ok v => obtain ⟨i', n'⟩ := v; intro h; simp only [Bool.and_eq_true, decide_eq_true_eq] at h; obtain ⟨rfl, rfl⟩ := h; rfl
    have h3' : own_dec c.code is = true := h3
    unfold own_xs at h
    split at h
    · cases ‹_ :: _ = []›
    · rename_i e1
      cases e1
      split at h
      · rename_i e2
        subst e2
        exact XS.goto X.here hx rfl rfl hdec (by simpa using h2) rfl (ih h3' h k)
      · cases h
    · rename_i e1
      cases e1
      split at h
      · rename_i e2
        subst e2
        split at h
        · rename_i e3
          exact own_x1_ok X hx hdec e3 (ih h3' h k)
        · cases h
      · cases h
theorem own_hb {c : Code} {b : ByteArray} {is : List (Nat × Instr × Nat)} (h : c.code = b) (h2 : own_dec b is = true) : own_dec c.code is = true := h ▸ h2
end OwnBlk
/-! the three calls by contract, each as one 'obtain' (over the library's callS, specialBack, virtualBack and backOf) -/
section OwnCall
variable {p : Program} {l : Launch} {e : Env} {R : Room} {s : State} {m : MethodId} {args : Array Value} {below : List Frame} {meth : Method} {c : Code} {T : State} {locs : List Loc} {cells slots : Nat} {Z : State} {a0 : Array Value} {h : Heap}
theorem own_callS (X : Stand p l e R s m args below meth c T locs cells slots) (hx : p.tables.exec = Jvm.exec) (hZ : Z.Warmed39 s.vm) {own : String} {index : Nat} {y : MethodName} {bytes : ByteArray} {maxL : Nat} {ret : Option FieldType} {rm : Room} {Q : Option Value → Heap → List Loc → Prop}
    (hown : s.vm.findClass own = some m.cls) (w1 : (Jvm.Cond.methodLink own index y).before a0 Z = true) (w2 : (Jvm.Cond.static y).before a0 Z = true) (w3 : (Jvm.Cond.initialized y.cls).before a0 Z = true) (w4 : (Jvm.Cond.code y bytes maxL ret).before a0 Z = true)
    (hy : y.cls ≠ "java/lang/invoke/MethodHandle" ∧ y.cls ≠ "java/lang/invoke/VarHandle") {W : Nat} {argsL rest : List Value}
    (hM : MetFree l y (head1 [Jvm.Cond.code y bytes maxL ret] rm) (fun a U => a = argsL.toArray ∧ Z.Warmed39 U.vm ∧ U.heap = h) (fun _ _ _ _ _ => True) (fun _ U o U' => ∃ v L, o = .returned v ∧ Q v U'.heap L ∧ FrameEnd U o U' L rm.cells rm.slots))
    (hf : rm.frames + 1 ≤ R.frames) (hl : W + (maxL + 11) + rm.locals ≤ R.locals) {c' s' : Nat} (hc' : cells + rm.cells = c') (hs' : slots + rm.slots = s') (hc : c' ≤ R.cells) (hs : s' ≤ R.slots) (eT : T.heap = h)
    {g : JFrame} (hg : g.method = m) (hsize : g.locals.size = c.maxLocals) (hlen : ∀ sig, parseMethodDescriptor y.desc = some sig → argsL.length = sig.parameters.length) (hstack : g.stack = argsL.reverse ++ rest) (hW : 2 * g.monitorRoom + (rest.map fun v => v.category).sum ≤ W) (hdg : decode c.code g.pc = .ok (.invokestatic index, 3)) :
    ∃ (v : Option Value) (T' : State) (L : List Loc), Stand p l e R s m args below meth c T' (locs ++ L) c' s' ∧ Q v T'.heap L ∧ ∀ target, Steps p.tables e below (T'.setTop { g with pc := g.pc + 3, stack := v.toList ++ rest }) target → Steps p.tables e below (T.setTop g) target := by
  subst hc' hs'
  obtain ⟨v, vm₁, ⟨T', L', k', n'⟩, -, X', ⟨L, hQ, e1, e2, e3⟩, st⟩ := Jvm.LawKit.callS X hx hown (mvT hZ w1) (mvT hZ w2) (mvT hZ w3) (mvT hZ w4) hy (backOf (W := W) hM hZ w4 w3 hf hl) hg hsize hlen hstack hW hdg (fun _ _ => ⟨rfl, eT, hc, hs⟩)
  dsimp only [Pt.U, Pt.locs, Pt.cells, Pt.slots] at X' e1 e2 e3 st hQ
  subst e1 e2 e3
  exact ⟨v, T', L, X', hQ, st⟩
theorem own_callI (X : Stand p l e R s m args below meth c T locs cells slots) (hx : p.tables.exec = Jvm.exec) (hZ : Z.Warmed39 s.vm) {own : String} {index : Nat} {y : MethodName} (hy1 : y.name = "<init>") {bytes : ByteArray} {maxL : Nat} {rm : Room} {Q : Option Value → Heap → List Loc → Prop}
    (hown : s.vm.findClass own = some m.cls) (w1 : (Jvm.Cond.methodLink own index y).before a0 Z = true) (w2 : (Jvm.Cond.instanceMethod y).before a0 Z = true) (w3 : (Jvm.Cond.initialized y.cls).before a0 Z = true) (w4 : (Jvm.Cond.code y bytes maxL none).before a0 Z = true)
    (hy : y.cls ≠ "java/lang/invoke/MethodHandle" ∧ y.cls ≠ "java/lang/invoke/VarHandle") {W : Nat} {a : Addr} {argsL rest : List Value}
    (hM : MetFree l y (head1 [Jvm.Cond.code y bytes maxL none] rm) (fun b U => b = (.ref a :: argsL).toArray ∧ Z.Warmed39 U.vm ∧ U.heap = h) (fun _ _ _ _ _ => True) (fun _ U o U' => ∃ v L, o = .returned v ∧ Q v U'.heap L ∧ FrameEnd U o U' L rm.cells rm.slots))
    (hf : rm.frames + 1 ≤ R.frames) (hl : W + (maxL + 11) + rm.locals ≤ R.locals) {c' s' : Nat} (hc' : cells + rm.cells = c') (hs' : slots + rm.slots = s') (hc : c' ≤ R.cells) (hs : s' ≤ R.slots) (eT : T.heap = h)
    {g : JFrame} (hg : g.method = m) (hsize : g.locals.size = c.maxLocals) (hlen : ∀ sig, parseMethodDescriptor y.desc = some sig → argsL.length = sig.parameters.length) (hstack : g.stack = argsL.reverse ++ .ref a :: rest) (hW : 2 * g.monitorRoom + (rest.map fun v => v.category).sum ≤ W) (hdg : decode c.code g.pc = .ok (.invokespecial index, 3)) :
    ∃ (v : Option Value) (T' : State) (L : List Loc), Stand p l e R s m args below meth c T' (locs ++ L) c' s' ∧ Q v T'.heap L ∧ ∀ target, Steps p.tables e below (T'.setTop { g with pc := g.pc + 3, stack := v.toList ++ rest }) target → Steps p.tables e below (T.setTop g) target := by
  subst hc' hs'
  obtain ⟨v, vm₁, ⟨T', L', k', n'⟩, -, X', ⟨L, hQ, e1, e2, e3⟩, st⟩ := X.specialBack hx hy1 hown (mvT hZ w1) (mvT hZ w2) (mvT hZ w4) hy (backOf (W := W) hM hZ w4 w3 hf hl) hg hsize (Steps.refl _) (a := a) hlen hstack hW hdg (fun _ _ => ⟨rfl, eT, hc, hs⟩)
  dsimp only [Pt.U, Pt.locs, Pt.cells, Pt.slots] at X' e1 e2 e3 st hQ
  subst e1 e2 e3
  exact ⟨v, T', L, X', hQ, fun target k => st.trans k⟩
theorem own_callV (X : Stand p l e R s m args below meth c T locs cells slots) (hx : p.tables.exec = Jvm.exec) (hZ : Z.Warmed39 s.vm) {own C : String} {index : Nat} {y : MethodName} {bytes : ByteArray} {maxL : Nat} {ret : Option FieldType} {rm : Room} {Q : Option Value → Heap → List Loc → Prop}
    (hown : s.vm.findClass own = some m.cls) (w1 : (Jvm.Cond.methodLink own index y).before a0 Z = true) (w5 : (Jvm.Cond.declares y).before a0 Z = true) (w6 : (Jvm.Cond.selects C y y).before a0 Z = true) (w2 : (Jvm.Cond.instanceMethod y).before a0 Z = true) (w3 : (Jvm.Cond.initialized y.cls).before a0 Z = true) (w4 : (Jvm.Cond.code y bytes maxL ret).before a0 Z = true)
    (hy : y.cls ≠ "java/lang/invoke/MethodHandle" ∧ y.cls ≠ "java/lang/invoke/VarHandle") {W : Nat} {a : Addr} (E : Exa Z h a C) {argsL rest : List Value}
    (hM : MetFree l y (head1 [Jvm.Cond.code y bytes maxL ret] rm) (fun b U => b = (.ref a :: argsL).toArray ∧ Z.Warmed39 U.vm ∧ U.heap = h) (fun _ _ _ _ _ => True) (fun _ U o U' => ∃ v L, o = .returned v ∧ Q v U'.heap L ∧ FrameEnd U o U' L rm.cells rm.slots))
    (hf : rm.frames + 1 ≤ R.frames) (hl : W + (maxL + 11) + rm.locals ≤ R.locals) {c' s' : Nat} (hc' : cells + rm.cells = c') (hs' : slots + rm.slots = s') (hc : c' ≤ R.cells) (hs : s' ≤ R.slots) (eT : T.heap = h)
    {g : JFrame} (hg : g.method = m) (hsize : g.locals.size = c.maxLocals) (hlen : ∀ sig, parseMethodDescriptor y.desc = some sig → argsL.length = sig.parameters.length) (hstack : g.stack = argsL.reverse ++ .ref a :: rest) (hW : 2 * g.monitorRoom + (rest.map fun v => v.category).sum ≤ W) (hdg : decode c.code g.pc = .ok (.invokevirtual index, 3)) :
    ∃ (v : Option Value) (T' : State) (L : List Loc), Stand p l e R s m args below meth c T' (locs ++ L) c' s' ∧ Q v T'.heap L ∧ ∀ target, Steps p.tables e below (T'.setTop { g with pc := g.pc + 3, stack := v.toList ++ rest }) target → Steps p.tables e below (T.setTop g) target := by
  subst hc' hs'
  obtain ⟨cB, kB, q1, q2, q3⟩ := isOf hZ eT E
  obtain ⟨v, vm₁, ⟨T', L', k', n'⟩, -, X', ⟨L, hQ, e1, e2, e3⟩, st⟩ := X.virtualBack hx (z := y) hown (mvT hZ w1) (mvT hZ w5) (notFace_of_selects (args := #[]) (mvT hZ w6)) (mvT hZ w6) (mvT hZ w2) hy (backOf (W := W) hM hZ w4 w3 hf hl) q1 q3 hg hsize (Steps.refl _) hlen hstack hW hdg (fun _ _ => ⟨rfl, eT, hc, hs⟩)
  dsimp only [Pt.U, Pt.locs, Pt.cells, Pt.slots] at X' e1 e2 e3 st hQ
  subst e1 e2 e3
  exact ⟨v, T', L, X', hQ, fun target k => st.trans k⟩
end OwnCall
theorem own_small {n : Nat} (P : Int32 → Prop) (h : ∀ i : Fin n, P (Int32.ofNat i.1)) {x : Int32} (h0 : ¬ x < 0) (h1 : x.toInt < n) : P x := by
  have e0 : (0 : Int32).toInt = 0 := by decide
  have hx : Int32.ofNat x.toNatClampNeg = x := (back32 h0).1
  have hp : 0 ≤ x.toInt := by rw [Int32.lt_iff_toInt_lt] at h0; omega
  have hlt : x.toNatClampNeg < n := by
    show x.toInt.toNat < n
    omega
  have q := h ⟨x.toNatClampNeg, hlt⟩
  rw [← hx]; exact q
theorem own_ws {Z : State} {a0 : Array Value} (hw : ∀ d ∈ tables_1, d.before a0 Z = true) : ∀ a ∈ Bundle.stringAtoms, a.before a0 Z = true := fun d hd => by
  simp only [Bundle.stringAtoms, List.mem_cons, List.not_mem_nil, or_false] at hd
  rcases hd with rfl | rfl | rfl | rfl | rfl | rfl | rfl
  all_goals first | exact hw _ (List.mem_of_getElem? (i := 5) rfl) | exact hw _ (List.mem_of_getElem? (i := 6) rfl) | exact hw _ (List.mem_of_getElem? (i := 7) rfl) | exact hw _ (List.mem_of_getElem? (i := 8) rfl) | exact hw _ (List.mem_of_getElem? (i := 9) rfl) | exact hw _ (List.mem_of_getElem? (i := 10) rfl) | exact hw _ (List.mem_of_getElem? (i := 11) rfl)
theorem d3_0 : decode jdk_89_method_16_code 0 = .ok (.iload_n 0, 1) := by decide +kernel
theorem d3_1 : decode jdk_89_method_16_code 1 = .ok (.ldc 75, 2) := by decide +kernel
theorem d3_3 : decode jdk_89_method_16_code 3 = .ok (.if_icmp .lt 13, 3) := by decide +kernel
theorem d3_6 : decode jdk_89_method_16_code 6 = .ok (.iload_n 0, 1) := by decide +kernel
theorem d3_7 : decode jdk_89_method_16_code 7 = .ok (.ldc 77, 2) := by decide +kernel
theorem d3_9 : decode jdk_89_method_16_code 9 = .ok (.if_icmp .ge 7, 3) := by decide +kernel
theorem d3_12 : decode jdk_89_method_16_code 12 = .ok (.iconst 1, 1) := by decide +kernel
theorem d3_13 : decode jdk_89_method_16_code 13 = .ok (.goto 4, 3) := by decide +kernel
theorem d3_16 : decode jdk_89_method_16_code 16 = .ok (.iconst 0, 1) := by decide +kernel
theorem d3_17 : decode jdk_89_method_16_code 17 = .ok (.ireturn, 1) := by decide +kernel
theorem pn_3 : plainName "java/lang/Character" = true := by first | (simp [plainName, overriddenIn]; done) | decide +kernel
theorem ef_3 (m : MethodId) (x0 : Int32) : entryFrame m #[(.int x0)] 1 = mkF m 0 #[.val (.int x0)] [] := by first | (simp [entryFrame, mkF, argsToLocals, Value.category]; done) | rfl
def bl3_0_1 : List (Nat × Instr × Nat) := [(0, .iload_n 0, 1)]
theorem bd3_0_1 : own_dec jdk_89_method_16_code bl3_0_1 = true := by decide +kernel
def bl3_16_1 : List (Nat × Instr × Nat) := [(16, .iconst 0, 1)]
theorem bd3_16_1 : own_dec jdk_89_method_16_code bl3_16_1 = true := by decide +kernel
def bl3_6_1 : List (Nat × Instr × Nat) := [(6, .iload_n 0, 1)]
theorem bd3_6_1 : own_dec jdk_89_method_16_code bl3_6_1 = true := by decide +kernel
def bl3_12_2 : List (Nat × Instr × Nat) := [(12, .iconst 1, 1), (13, .goto 4, 3)]
theorem bd3_12_2 : own_dec jdk_89_method_16_code bl3_12_2 = true := by decide +kernel

def f3 (p1 : Int32) : Int32 := (if p1 < (55296 : Int32) then (0 : Int32) else (if p1 < (57344 : Int32) then (1 : Int32) else (0 : Int32)))
def Q3 (Z : State) (p1 : Int32) (h0 : Heap) (n0 : Nat) (v : Option Value) (h : Heap) (L : List Loc) : Prop := v = some (.int (f3 p1)) ∧ Fr n0 L ∧ h = h0
set_option maxRecDepth 65536 in
set_option maxHeartbeats 40000000 in
theorem rm3 (l : Launch) (Z : State) (a0 : Array Value) (hw : ∀ d ∈ tables_1, d.before a0 Z = true) (ws : List Jvm.Cond) (p1 : Int32) (h0 : Heap) (n0 : Nat) (Z0 : n0 ≤ h0.size) :
    MetFree l (⟨"java/lang/Character", "isSurrogate", "(C)Z"⟩ : MethodName) (head1 (Jvm.Cond.code (⟨"java/lang/Character", "isSurrogate", "(C)Z"⟩ : MethodName) jdk_89_method_16_code 1 (some .boolean) :: ws) ({ frames := 0, cells := 0, slots := 0, locals := 0 } : Room)) (fun a U => a = #[(.int p1)] ∧ Z.Warmed39 U.vm ∧ U.heap = h0) (fun _ _ _ _ _ => True) (fun _ U o U' => ∃ v L, o = .returned v ∧ Q3 Z p1 h0 n0 v U'.heap L ∧ FrameEnd U o U' L ({ frames := 0, cells := 0, slots := 0, locals := 0 } : Room).cells ({ frames := 0, cells := 0, slots := 0, locals := 0 } : Room).slots) := by
  refine MetFree.of_bodySF (plainFor_of_name pn_3) hisR ?_
  intro p e s m args below meth c s₁ Bd hml0 hP hK
  obtain ⟨rfl, hZ, hh⟩ := hP
  have hx := Bd.exec
  have hby := Bd.bytes
  have hml : c.maxLocals = 1 := hml0
  have hown : s.vm.findClass "java/lang/Character" = some m.cls := findClass_of_methodNamed Bd.named
  have hnm := (name_of_methodNamed Bd.named Bd.method).1
  have X0 : Stand p l e ({ frames := 0, cells := 0, slots := 0, locals := 0 } : Room) s m #[(.int p1)] below meth c s₁ [] 0 0 := Stand.of_body Bd
  have e0 : s₁.heap = h0 := by rw [← hh, Bd.state]; rfl
  have N0 := Fr.nil n0
  have pre0 : ∀ t, Steps p.tables e below (s₁.setTop (mkF m 0 #[.val (.int p1)] [])) t → Steps p.tables e below (s₁.setTop (entryFrame m #[(.int p1)] 1)) t := fun t k => castTop (ef_3 m p1) k
  have pre1 : ∀ t, Steps p.tables e below (s₁.setTop (mkF m 3 #[.val (.int p1)] [(.int (55296 : Int32)), (.int p1)])) t → Steps p.tables e below (s₁.setTop (entryFrame m #[(.int p1)] 1)) t := fun t kt => by
    refine pre0 _ ?_
    show Steps p.tables e below (s₁.setTop (mkF m 0 #[.val (.int p1)] [])) _
    refine own_blk X0 hx bl3_0_1 (own_hb hby bd3_0_1) (pc' := 1) (Ls' := #[.val (.int p1)]) (st' := [(.int p1)]) rfl ?_
    refine X0.ldcInt hx hown (mvT hZ (hw _ (List.mem_of_getElem? (i := 34) rfl))) (g := (mkF m 1 #[.val (.int p1)] [(.int p1)])) rfl (hb hby d3_1) _ ?_
    exact kt
  by_cases hc2 : p1 < (55296 : Int32)
  · obtain ⟨fs, hr, hrun, hended, hW, hsame⟩ := X0.leave (v := some (.int (0 : Int32))) (fun h => by rw [Bd.returns] at h; cases h)
    refine ⟨_, _, pre1 _ ?_, hrun, hended, _, _, rfl, ?_, ⟨_, rfl⟩, hW, hsame.mono (by decide) (by decide)⟩
    · show Steps p.tables e below (s₁.setTop (mkF m 3 #[.val (.int p1)] [(.int (55296 : Int32)), (.int p1)])) _
      refine XS.icmpYes X0.here hx rfl (pc0 := 3) (pc' := 16) rfl (hb hby d3_3) rfl (tlt hc2).1 (by decide) (by decide) ?_
      show Steps p.tables e below (s₁.setTop (mkF m 16 #[.val (.int p1)] [])) _
      refine own_blk X0 hx bl3_16_1 (own_hb hby bd3_16_1) (pc' := 17) (Ls' := #[.val (.int p1)]) (st' := [(.int (0 : Int32))]) rfl ?_
      exact retN X0 hx (t := .boolean) Bd.returns (by simp) (hb hby d3_17) hr
    · show Q3 Z p1 h0 n0 _ s₁.heap _
      rw [e0]
      exact ⟨by rw [f3, if_pos hc2], N0, rfl⟩
  · have pre3 : ∀ t, Steps p.tables e below (s₁.setTop (mkF m 9 #[.val (.int p1)] [(.int (57344 : Int32)), (.int p1)])) t → Steps p.tables e below (s₁.setTop (entryFrame m #[(.int p1)] 1)) t := fun t kt => by
      refine pre1 _ ?_
      show Steps p.tables e below (s₁.setTop (mkF m 3 #[.val (.int p1)] [(.int (55296 : Int32)), (.int p1)])) _
      refine XS.icmpNo X0.here hx rfl (hb hby d3_3) rfl (flt hc2).1 ?_
      show Steps p.tables e below (s₁.setTop (mkF m 6 #[.val (.int p1)] [])) _
      refine own_blk X0 hx bl3_6_1 (own_hb hby bd3_6_1) (pc' := 7) (Ls' := #[.val (.int p1)]) (st' := [(.int p1)]) rfl ?_
      refine X0.ldcInt hx hown (mvT hZ (hw _ (List.mem_of_getElem? (i := 53) rfl))) (g := (mkF m 7 #[.val (.int p1)] [(.int p1)])) rfl (hb hby d3_7) _ ?_
      exact kt
    by_cases hc4 : p1 < (57344 : Int32)
    · obtain ⟨fs, hr, hrun, hended, hW, hsame⟩ := X0.leave (v := some (.int (1 : Int32))) (fun h => by rw [Bd.returns] at h; cases h)
      refine ⟨_, _, pre3 _ ?_, hrun, hended, _, _, rfl, ?_, ⟨_, rfl⟩, hW, hsame.mono (by decide) (by decide)⟩
      · show Steps p.tables e below (s₁.setTop (mkF m 9 #[.val (.int p1)] [(.int (57344 : Int32)), (.int p1)])) _
        refine XS.icmpNo X0.here hx rfl (hb hby d3_9) rfl (tlt hc4).2.1 ?_
        show Steps p.tables e below (s₁.setTop (mkF m 12 #[.val (.int p1)] [])) _
        refine own_blk X0 hx bl3_12_2 (own_hb hby bd3_12_2) (pc' := 17) (Ls' := #[.val (.int p1)]) (st' := [(.int (1 : Int32))]) rfl ?_
        exact retN X0 hx (t := .boolean) Bd.returns (by simp) (hb hby d3_17) hr
      · show Q3 Z p1 h0 n0 _ s₁.heap _
        rw [e0]
        exact ⟨by rw [f3, if_neg hc2, if_pos hc4], N0, rfl⟩
    · obtain ⟨fs, hr, hrun, hended, hW, hsame⟩ := X0.leave (v := some (.int (0 : Int32))) (fun h => by rw [Bd.returns] at h; cases h)
      refine ⟨_, _, pre3 _ ?_, hrun, hended, _, _, rfl, ?_, ⟨_, rfl⟩, hW, hsame.mono (by decide) (by decide)⟩
      · show Steps p.tables e below (s₁.setTop (mkF m 9 #[.val (.int p1)] [(.int (57344 : Int32)), (.int p1)])) _
        refine XS.icmpYes X0.here hx rfl (pc0 := 9) (pc' := 16) rfl (hb hby d3_9) rfl (flt hc4).2.1 (by decide) (by decide) ?_
        show Steps p.tables e below (s₁.setTop (mkF m 16 #[.val (.int p1)] [])) _
        refine own_blk X0 hx bl3_16_1 (own_hb hby bd3_16_1) (pc' := 17) (Ls' := #[.val (.int p1)]) (st' := [(.int (0 : Int32))]) rfl ?_
        exact retN X0 hx (t := .boolean) Bd.returns (by simp) (hb hby d3_17) hr
      · show Q3 Z p1 h0 n0 _ s₁.heap _
        rw [e0]
        exact ⟨by rw [f3, if_neg hc2, if_neg hc4], N0, rfl⟩
theorem d1_0 : decode prog_114_method_1_code 0 = .ok (.aload_n 0, 1) := by decide +kernel
theorem d1_1 : decode prog_114_method_1_code 1 = .ok (.invokespecial 1, 3) := by decide +kernel
theorem d1_4 : decode prog_114_method_1_code 4 = .ok (.aload_n 0, 1) := by decide +kernel
theorem d1_5 : decode prog_114_method_1_code 5 = .ok (.iconst 1, 1) := by decide +kernel
theorem d1_6 : decode prog_114_method_1_code 6 = .ok (.putfield 7, 3) := by decide +kernel
theorem d1_9 : decode prog_114_method_1_code 9 = .ok (.aload_n 0, 1) := by decide +kernel
theorem d1_10 : decode prog_114_method_1_code 10 = .ok (.iconst (-1), 1) := by decide +kernel
theorem d1_11 : decode prog_114_method_1_code 11 = .ok (.putfield 13, 3) := by decide +kernel
theorem d1_14 : decode prog_114_method_1_code 14 = .ok (.aload_n 0, 1) := by decide +kernel
theorem d1_15 : decode prog_114_method_1_code 15 = .ok (.iconst (-1), 1) := by decide +kernel
theorem d1_16 : decode prog_114_method_1_code 16 = .ok (.putfield 16, 3) := by decide +kernel
theorem d1_19 : decode prog_114_method_1_code 19 = .ok (.aload_n 0, 1) := by decide +kernel
theorem d1_20 : decode prog_114_method_1_code 20 = .ok (.aload_n 1, 1) := by decide +kernel
theorem d1_21 : decode prog_114_method_1_code 21 = .ok (.putfield 19, 3) := by decide +kernel
theorem d1_24 : decode prog_114_method_1_code 24 = .ok (.aload_n 0, 1) := by decide +kernel
theorem d1_25 : decode prog_114_method_1_code 25 = .ok (.aload_n 2, 1) := by decide +kernel
theorem d1_26 : decode prog_114_method_1_code 26 = .ok (.putfield 23, 3) := by decide +kernel
theorem d1_29 : decode prog_114_method_1_code 29 = .ok (.aload_n 0, 1) := by decide +kernel
theorem d1_30 : decode prog_114_method_1_code 30 = .ok (.iload_n 3, 1) := by decide +kernel
theorem d1_31 : decode prog_114_method_1_code 31 = .ok (.putfield 27, 3) := by decide +kernel
theorem d1_34 : decode prog_114_method_1_code 34 = .ok (.iconst 0, 1) := by decide +kernel
theorem d1_35 : decode prog_114_method_1_code 35 = .ok (.istore 4, 2) := by decide +kernel
theorem d1_37 : decode prog_114_method_1_code 37 = .ok (.iconst 0, 1) := by decide +kernel
theorem d1_38 : decode prog_114_method_1_code 38 = .ok (.istore 5, 2) := by decide +kernel
theorem d1_40 : decode prog_114_method_1_code 40 = .ok (.iload 5, 2) := by decide +kernel
theorem d1_42 : decode prog_114_method_1_code 42 = .ok (.iload_n 3, 1) := by decide +kernel
theorem d1_43 : decode prog_114_method_1_code 43 = .ok (.if_icmp .ge 23, 3) := by decide +kernel
theorem d1_66 : decode prog_114_method_1_code 66 = .ok (.aload_n 0, 1) := by decide +kernel
theorem d1_67 : decode prog_114_method_1_code 67 = .ok (.iload 4, 2) := by decide +kernel
theorem d1_69 : decode prog_114_method_1_code 69 = .ok (.putfield 36, 3) := by decide +kernel
theorem d1_72 : decode prog_114_method_1_code 72 = .ok (.iload_n 3, 1) := by decide +kernel
theorem d1_73 : decode prog_114_method_1_code 73 = .ok (.ifCond .le 21, 3) := by decide +kernel
theorem d1_94 : decode prog_114_method_1_code 94 = .ok (.return_, 1) := by decide +kernel
theorem pn_1 : plainName "com/example/endcon/endcon/yaml/Cursor" = true := by first | (simp [plainName, overriddenIn]; done) | decide +kernel
theorem ef_1 (m : MethodId) (x0 : Addr) (x1 : Addr) (x2 : Addr) (x3 : Int32) : entryFrame m #[(.ref x0), (.ref x1), (.ref x2), (.int x3)] 6 = mkF m 0 #[.val (.ref x0), .val (.ref x1), .val (.ref x2), .val (.int x3), .unset, .unset] [] := by first | (simp [entryFrame, mkF, argsToLocals, Value.category]; done) | rfl
def bl1_0_1 : List (Nat × Instr × Nat) := [(0, .aload_n 0, 1)]
theorem bd1_0_1 : own_dec prog_114_method_1_code bl1_0_1 = true := by decide +kernel
def bl1_4_2 : List (Nat × Instr × Nat) := [(4, .aload_n 0, 1), (5, .iconst 1, 1)]
theorem bd1_4_2 : own_dec prog_114_method_1_code bl1_4_2 = true := by decide +kernel
def bl1_9_2 : List (Nat × Instr × Nat) := [(9, .aload_n 0, 1), (10, .iconst (-1), 1)]
theorem bd1_9_2 : own_dec prog_114_method_1_code bl1_9_2 = true := by decide +kernel
def bl1_14_2 : List (Nat × Instr × Nat) := [(14, .aload_n 0, 1), (15, .iconst (-1), 1)]
theorem bd1_14_2 : own_dec prog_114_method_1_code bl1_14_2 = true := by decide +kernel
def bl1_19_2 : List (Nat × Instr × Nat) := [(19, .aload_n 0, 1), (20, .aload_n 1, 1)]
theorem bd1_19_2 : own_dec prog_114_method_1_code bl1_19_2 = true := by decide +kernel
def bl1_24_2 : List (Nat × Instr × Nat) := [(24, .aload_n 0, 1), (25, .aload_n 2, 1)]
theorem bd1_24_2 : own_dec prog_114_method_1_code bl1_24_2 = true := by decide +kernel
def bl1_29_2 : List (Nat × Instr × Nat) := [(29, .aload_n 0, 1), (30, .iload_n 3, 1)]
theorem bd1_29_2 : own_dec prog_114_method_1_code bl1_29_2 = true := by decide +kernel
def bl1_34_2 : List (Nat × Instr × Nat) := [(34, .iconst 0, 1), (35, .istore 4, 2)]
theorem bd1_34_2 : own_dec prog_114_method_1_code bl1_34_2 = true := by decide +kernel
def bl1_37_2 : List (Nat × Instr × Nat) := [(37, .iconst 0, 1), (38, .istore 5, 2)]
theorem bd1_37_2 : own_dec prog_114_method_1_code bl1_37_2 = true := by decide +kernel
def bl1_40_2 : List (Nat × Instr × Nat) := [(40, .iload 5, 2), (42, .iload_n 3, 1)]
theorem bd1_40_2 : own_dec prog_114_method_1_code bl1_40_2 = true := by decide +kernel
def bl1_66_2 : List (Nat × Instr × Nat) := [(66, .aload_n 0, 1), (67, .iload 4, 2)]
theorem bd1_66_2 : own_dec prog_114_method_1_code bl1_66_2 = true := by decide +kernel
def bl1_72_1 : List (Nat × Instr × Nat) := [(72, .iload_n 3, 1)]
theorem bd1_72_1 : own_dec prog_114_method_1_code bl1_72_1 = true := by decide +kernel

def Q1n (Z : State) (a1 : Addr) (a2 : Addr) (a3 : Addr) (p4 : Int32) (c0 : Int32) (c1 : Int32) (c2 : Int32) (c3 : Int32) (k_a3 : ClassId) (h0 : Heap) (n0 : Nat) (v : Option Value) (h : Heap) (L : List Loc) : Prop := v = none ∧ Fr n0 L ∧ Keep h0 h [a1] ∧ Exa Z h a1 "com/example/endcon/endcon/yaml/Cursor" ∧ Fld Z h a1 "com/example/endcon/endcon/yaml/Cursor" "line" "I" (.int (1 : Int32)) ∧ Fld Z h a1 "com/example/endcon/endcon/yaml/Cursor" "blankLinesFrom" "I" (.int (-1 : Int32)) ∧ Fld Z h a1 "com/example/endcon/endcon/yaml/Cursor" "countedIndex" "I" (.int (-1 : Int32)) ∧ Fld Z h a1 "com/example/endcon/endcon/yaml/Cursor" "file" "Ljava/lang/String;" (.ref a2) ∧ Fld Z h a1 "com/example/endcon/endcon/yaml/Cursor" "text" "[C" (.ref a3) ∧ Fld Z h a1 "com/example/endcon/endcon/yaml/Cursor" "end" "I" (.int p4) ∧ Fld Z h a1 "com/example/endcon/endcon/yaml/Cursor" "hasSurrogates" "Z" (.int (0 : Int32)) ∧ Fld Z h a1 "com/example/endcon/endcon/yaml/Cursor" "pos" "I" (.int (0 : Int32)) ∧ Fld Z h a1 "com/example/endcon/endcon/yaml/Cursor" "lineStart" "I" (.int (0 : Int32))
set_option maxRecDepth 65536 in
set_option maxHeartbeats 40000000 in
theorem rm1n (l : Launch) (Z : State) (a0 : Array Value) (hw : ∀ d ∈ tables_1, d.before a0 Z = true) (ws : List Jvm.Cond) (a1 : Addr) (a2 : Addr) (a3 : Addr) (p4 : Int32) (c0 : Int32) (c1 : Int32) (c2 : Int32) (c3 : Int32) (k_a3 : ClassId) (h0 : Heap) (n0 : Nat) (Z0 : n0 ≤ h0.size) (E_a1 : Exa Z h0 a1 "com/example/endcon/endcon/yaml/Cursor") (F_a1_line : Fld Z h0 a1 "com/example/endcon/endcon/yaml/Cursor" "line" "I" (.int (0 : Int32))) (F_a1_blankLinesFrom : Fld Z h0 a1 "com/example/endcon/endcon/yaml/Cursor" "blankLinesFrom" "I" (.int (0 : Int32))) (F_a1_countedIndex : Fld Z h0 a1 "com/example/endcon/endcon/yaml/Cursor" "countedIndex" "I" (.int (0 : Int32))) (F_a1_file : Fld Z h0 a1 "com/example/endcon/endcon/yaml/Cursor" "file" "Ljava/lang/String;" .null) (F_a1_text : Fld Z h0 a1 "com/example/endcon/endcon/yaml/Cursor" "text" "[C" .null) (F_a1_end : Fld Z h0 a1 "com/example/endcon/endcon/yaml/Cursor" "end" "I" (.int (0 : Int32))) (F_a1_hasSurrogates : Fld Z h0 a1 "com/example/endcon/endcon/yaml/Cursor" "hasSurrogates" "Z" (.int (0 : Int32))) (F_a1_pos : Fld Z h0 a1 "com/example/endcon/endcon/yaml/Cursor" "pos" "I" (.int (0 : Int32))) (F_a1_lineStart : Fld Z h0 a1 "com/example/endcon/endcon/yaml/Cursor" "lineStart" "I" (.int (0 : Int32))) (g_a1 : n0 ≤ a1) (V_a3 : Arv Z h0 a3 k_a3 .char (4 : Int32) [(.int c0), (.int c1), (.int c2), (.int c3)] (.int (0 : Int32))) (ne_a1_a3 : a1 ≠ a3) (hn4 : ¬ ((4 : Int32) < p4)) (hz : ¬ ((0 : Int32) < p4)) :
    MetFree l (⟨"com/example/endcon/endcon/yaml/Cursor", "<init>", "(Ljava/lang/String;[CI)V"⟩ : MethodName) (head1 (Jvm.Cond.code (⟨"com/example/endcon/endcon/yaml/Cursor", "<init>", "(Ljava/lang/String;[CI)V"⟩ : MethodName) prog_114_method_1_code 6 none :: ws) ({ frames := 1, cells := 0, slots := 0, locals := 12 } : Room)) (fun a U => a = #[(.ref a1), (.ref a2), (.ref a3), (.int p4)] ∧ Z.Warmed39 U.vm ∧ U.heap = h0) (fun _ _ _ _ _ => True) (fun _ U o U' => ∃ v L, o = .returned v ∧ Q1n Z a1 a2 a3 p4 c0 c1 c2 c3 k_a3 h0 n0 v U'.heap L ∧ FrameEnd U o U' L ({ frames := 1, cells := 0, slots := 0, locals := 12 } : Room).cells ({ frames := 1, cells := 0, slots := 0, locals := 12 } : Room).slots) := by
  refine MetFree.of_bodySF (plainFor_of_name pn_1) hisR ?_
  intro p e s m args below meth c s₁ Bd hml0 hP hK
  obtain ⟨rfl, hZ, hh⟩ := hP
  have hx := Bd.exec
  have hby := Bd.bytes
  have hml : c.maxLocals = 6 := hml0
  have hown : s.vm.findClass "com/example/endcon/endcon/yaml/Cursor" = some m.cls := findClass_of_methodNamed Bd.named
  have hnm := (name_of_methodNamed Bd.named Bd.method).1
  have X0 : Stand p l e ({ frames := 1, cells := 0, slots := 0, locals := 12 } : Room) s m #[(.ref a1), (.ref a2), (.ref a3), (.int p4)] below meth c s₁ [] 0 0 := Stand.of_body Bd
  have e0 : s₁.heap = h0 := by rw [← hh, Bd.state]; rfl
  have N0 := Fr.nil n0
  have pre0 : ∀ t, Steps p.tables e below (s₁.setTop (mkF m 0 #[.val (.ref a1), .val (.ref a2), .val (.ref a3), .val (.int p4), .unset, .unset] [])) t → Steps p.tables e below (s₁.setTop (entryFrame m #[(.ref a1), (.ref a2), (.ref a3), (.int p4)] 6)) t := fun t k => castTop (ef_1 m a1 a2 a3 p4) k
  obtain ⟨T1, X1, e1, st1⟩ := initO X0 hx hZ hown (hw _ (List.mem_of_getElem? (i := 15) rfl)) (hw _ (List.mem_of_getElem? (i := 16) rfl)) (hw _ (List.mem_of_getElem? (i := 17) rfl)) e0 (g := (mkF m 1 #[.val (.ref a1), .val (.ref a2), .val (.ref a3), .val (.int p4), .unset, .unset] [(.ref a1)])) rfl (by rw [hml]; rfl) rfl (hb hby d1_1) (by decide) (W := 0) (by show 2 * 0 + _ ≤ _; exact Nat.le_of_eq rfl) (by decide)
  obtain ⟨T2, h2, X2, e2, W2, st2⟩ := putF X1 hx hZ hown (host := "") (Or.inl (hw _ (List.mem_of_getElem? (i := 18) rfl))) Via.refl e1 F_a1_line E_a1 (Or.inl (hw _ (List.mem_of_getElem? (i := 19) rfl))) (hw _ (List.mem_of_getElem? (i := 2) rfl)) (ty := .int) (by decide) rfl rfl (g := (mkF m 6 #[.val (.ref a1), .val (.ref a2), .val (.ref a3), .val (.int p4), .unset, .unset] [(.int (1 : Int32)), (.ref a1)])) rfl rfl (hb hby d1_6)
  have Fw2 : Fld Z h2 a1 "com/example/endcon/endcon/yaml/Cursor" "line" "I" (.int (1 : Int32)) := F_a1_line.same W2
  have zs3 : n0 ≤ h2.size := Nat.le_trans Z0 (Keep.of_wr W2).1
  have kp4 : Keep h0 h2 [a1] := (Keep.refl h0 [a1]).wr W2 (Or.inl (List.mem_of_getElem? (i := 0) rfl))
  have N2 := Fr.snoc X2 N0 g_a1
  have fa5 : Fld Z h2 a1 "com/example/endcon/endcon/yaml/Cursor" "blankLinesFrom" "I" (.int (0 : Int32)) := (F_a1_blankLinesFrom.other W2 (Or.inr (slot_ne (Or.inl (hw _ (List.mem_of_getElem? (i := 21) rfl))) (Or.inl (hw _ (List.mem_of_getElem? (i := 19) rfl))) (by decide) (t := .int) (t' := .int) (by decide) (by decide))))
  have fa6 : Exa Z h2 a1 "com/example/endcon/endcon/yaml/Cursor" := (E_a1.wr W2)
  obtain ⟨T7, h7, X7, e7, W7, st7⟩ := putF X2 hx hZ hown (host := "") (Or.inl (hw _ (List.mem_of_getElem? (i := 20) rfl))) Via.refl e2 fa5 fa6 (Or.inl (hw _ (List.mem_of_getElem? (i := 21) rfl))) (hw _ (List.mem_of_getElem? (i := 2) rfl)) (ty := .int) (by decide) rfl rfl (g := (mkF m 11 #[.val (.ref a1), .val (.ref a2), .val (.ref a3), .val (.int p4), .unset, .unset] [(.int (-1 : Int32)), (.ref a1)])) rfl rfl (hb hby d1_11)
  have Fw7 : Fld Z h7 a1 "com/example/endcon/endcon/yaml/Cursor" "blankLinesFrom" "I" (.int (-1 : Int32)) := fa5.same W7
  have zs8 : n0 ≤ h7.size := Nat.le_trans zs3 (Keep.of_wr W7).1
  have kp9 : Keep h0 h7 [a1] := kp4.wr W7 (Or.inl (List.mem_of_getElem? (i := 0) rfl))
  have N7 := Fr.snoc X7 N2 g_a1
  have fa10 : Fld Z h7 a1 "com/example/endcon/endcon/yaml/Cursor" "countedIndex" "I" (.int (0 : Int32)) := ((F_a1_countedIndex.other W2 (Or.inr (slot_ne (Or.inl (hw _ (List.mem_of_getElem? (i := 23) rfl))) (Or.inl (hw _ (List.mem_of_getElem? (i := 19) rfl))) (by decide) (t := .int) (t' := .int) (by decide) (by decide)))).other W7 (Or.inr (slot_ne (Or.inl (hw _ (List.mem_of_getElem? (i := 23) rfl))) (Or.inl (hw _ (List.mem_of_getElem? (i := 21) rfl))) (by decide) (t := .int) (t' := .int) (by decide) (by decide))))
  have fa11 : Exa Z h7 a1 "com/example/endcon/endcon/yaml/Cursor" := (fa6.wr W7)
  obtain ⟨T12, h12, X12, e12, W12, st12⟩ := putF X7 hx hZ hown (host := "") (Or.inl (hw _ (List.mem_of_getElem? (i := 22) rfl))) Via.refl e7 fa10 fa11 (Or.inl (hw _ (List.mem_of_getElem? (i := 23) rfl))) (hw _ (List.mem_of_getElem? (i := 2) rfl)) (ty := .int) (by decide) rfl rfl (g := (mkF m 16 #[.val (.ref a1), .val (.ref a2), .val (.ref a3), .val (.int p4), .unset, .unset] [(.int (-1 : Int32)), (.ref a1)])) rfl rfl (hb hby d1_16)
  have Fw12 : Fld Z h12 a1 "com/example/endcon/endcon/yaml/Cursor" "countedIndex" "I" (.int (-1 : Int32)) := fa10.same W12
  have zs13 : n0 ≤ h12.size := Nat.le_trans zs8 (Keep.of_wr W12).1
  have kp14 : Keep h0 h12 [a1] := kp9.wr W12 (Or.inl (List.mem_of_getElem? (i := 0) rfl))
  have N12 := Fr.snoc X12 N7 g_a1
  have fa15 : Fld Z h12 a1 "com/example/endcon/endcon/yaml/Cursor" "file" "Ljava/lang/String;" .null := (((F_a1_file.other W2 (Or.inr (slot_ne (Or.inr (hw _ (List.mem_of_getElem? (i := 25) rfl))) (Or.inl (hw _ (List.mem_of_getElem? (i := 19) rfl))) (by decide) (t := (.object "java/lang/String")) (t' := .int) (by decide) (by decide)))).other W7 (Or.inr (slot_ne (Or.inr (hw _ (List.mem_of_getElem? (i := 25) rfl))) (Or.inl (hw _ (List.mem_of_getElem? (i := 21) rfl))) (by decide) (t := (.object "java/lang/String")) (t' := .int) (by decide) (by decide)))).other W12 (Or.inr (slot_ne (Or.inr (hw _ (List.mem_of_getElem? (i := 25) rfl))) (Or.inl (hw _ (List.mem_of_getElem? (i := 23) rfl))) (by decide) (t := (.object "java/lang/String")) (t' := .int) (by decide) (by decide))))
  have fa16 : Exa Z h12 a1 "com/example/endcon/endcon/yaml/Cursor" := (fa11.wr W12)
  obtain ⟨T17, h17, X17, e17, W17, st17⟩ := putF X12 hx hZ hown (host := "") (Or.inl (hw _ (List.mem_of_getElem? (i := 24) rfl))) Via.refl e12 fa15 fa16 (Or.inr ⟨(hw _ (List.mem_of_getElem? (i := 25) rfl)), rfl, hnm⟩) (hw _ (List.mem_of_getElem? (i := 2) rfl)) (ty := (.object "java/lang/String")) (by decide) rfl rfl (g := (mkF m 21 #[.val (.ref a1), .val (.ref a2), .val (.ref a3), .val (.int p4), .unset, .unset] [(.ref a2), (.ref a1)])) rfl rfl (hb hby d1_21)
  have Fw17 : Fld Z h17 a1 "com/example/endcon/endcon/yaml/Cursor" "file" "Ljava/lang/String;" (.ref a2) := fa15.same W17
  have zs18 : n0 ≤ h17.size := Nat.le_trans zs13 (Keep.of_wr W17).1
  have kp19 : Keep h0 h17 [a1] := kp14.wr W17 (Or.inl (List.mem_of_getElem? (i := 0) rfl))
  have N17 := Fr.snoc X17 N12 g_a1
  have fa20 : Fld Z h17 a1 "com/example/endcon/endcon/yaml/Cursor" "text" "[C" .null := ((((F_a1_text.other W2 (Or.inr (slot_ne (Or.inl (hw _ (List.mem_of_getElem? (i := 27) rfl))) (Or.inl (hw _ (List.mem_of_getElem? (i := 19) rfl))) (by decide) (t := (.array .char)) (t' := .int) (by decide) (by decide)))).other W7 (Or.inr (slot_ne (Or.inl (hw _ (List.mem_of_getElem? (i := 27) rfl))) (Or.inl (hw _ (List.mem_of_getElem? (i := 21) rfl))) (by decide) (t := (.array .char)) (t' := .int) (by decide) (by decide)))).other W12 (Or.inr (slot_ne (Or.inl (hw _ (List.mem_of_getElem? (i := 27) rfl))) (Or.inl (hw _ (List.mem_of_getElem? (i := 23) rfl))) (by decide) (t := (.array .char)) (t' := .int) (by decide) (by decide)))).other W17 (Or.inr (slot_ne (Or.inl (hw _ (List.mem_of_getElem? (i := 27) rfl))) (Or.inr (hw _ (List.mem_of_getElem? (i := 25) rfl))) (by decide) (t := (.array .char)) (t' := (.object "java/lang/String")) (by decide) (by decide))))
  have fa21 : Exa Z h17 a1 "com/example/endcon/endcon/yaml/Cursor" := (fa16.wr W17)
  obtain ⟨T22, h22, X22, e22, W22, st22⟩ := putF X17 hx hZ hown (host := "") (Or.inl (hw _ (List.mem_of_getElem? (i := 26) rfl))) Via.refl e17 fa20 fa21 (Or.inl (hw _ (List.mem_of_getElem? (i := 27) rfl))) (hw _ (List.mem_of_getElem? (i := 2) rfl)) (ty := (.array .char)) (by decide) rfl rfl (g := (mkF m 26 #[.val (.ref a1), .val (.ref a2), .val (.ref a3), .val (.int p4), .unset, .unset] [(.ref a3), (.ref a1)])) rfl rfl (hb hby d1_26)
  have Fw22 : Fld Z h22 a1 "com/example/endcon/endcon/yaml/Cursor" "text" "[C" (.ref a3) := fa20.same W22
  have zs23 : n0 ≤ h22.size := Nat.le_trans zs18 (Keep.of_wr W22).1
  have kp24 : Keep h0 h22 [a1] := kp19.wr W22 (Or.inl (List.mem_of_getElem? (i := 0) rfl))
  have N22 := Fr.snoc X22 N17 g_a1
  have fa25 : Fld Z h22 a1 "com/example/endcon/endcon/yaml/Cursor" "end" "I" (.int (0 : Int32)) := (((((F_a1_end.other W2 (Or.inr (slot_ne (Or.inr (hw _ (List.mem_of_getElem? (i := 29) rfl))) (Or.inl (hw _ (List.mem_of_getElem? (i := 19) rfl))) (by decide) (t := .int) (t' := .int) (by decide) (by decide)))).other W7 (Or.inr (slot_ne (Or.inr (hw _ (List.mem_of_getElem? (i := 29) rfl))) (Or.inl (hw _ (List.mem_of_getElem? (i := 21) rfl))) (by decide) (t := .int) (t' := .int) (by decide) (by decide)))).other W12 (Or.inr (slot_ne (Or.inr (hw _ (List.mem_of_getElem? (i := 29) rfl))) (Or.inl (hw _ (List.mem_of_getElem? (i := 23) rfl))) (by decide) (t := .int) (t' := .int) (by decide) (by decide)))).other W17 (Or.inr (slot_ne (Or.inr (hw _ (List.mem_of_getElem? (i := 29) rfl))) (Or.inr (hw _ (List.mem_of_getElem? (i := 25) rfl))) (by decide) (t := .int) (t' := (.object "java/lang/String")) (by decide) (by decide)))).other W22 (Or.inr (slot_ne (Or.inr (hw _ (List.mem_of_getElem? (i := 29) rfl))) (Or.inl (hw _ (List.mem_of_getElem? (i := 27) rfl))) (by decide) (t := .int) (t' := (.array .char)) (by decide) (by decide))))
  have fa26 : Exa Z h22 a1 "com/example/endcon/endcon/yaml/Cursor" := (fa21.wr W22)
  obtain ⟨T27, h27, X27, e27, W27, st27⟩ := putF X22 hx hZ hown (host := "") (Or.inl (hw _ (List.mem_of_getElem? (i := 28) rfl))) Via.refl e22 fa25 fa26 (Or.inr ⟨(hw _ (List.mem_of_getElem? (i := 29) rfl)), rfl, hnm⟩) (hw _ (List.mem_of_getElem? (i := 2) rfl)) (ty := .int) (by decide) rfl rfl (g := (mkF m 31 #[.val (.ref a1), .val (.ref a2), .val (.ref a3), .val (.int p4), .unset, .unset] [(.int p4), (.ref a1)])) rfl rfl (hb hby d1_31)
  have Fw27 : Fld Z h27 a1 "com/example/endcon/endcon/yaml/Cursor" "end" "I" (.int p4) := fa25.same W27
  have zs28 : n0 ≤ h27.size := Nat.le_trans zs23 (Keep.of_wr W27).1
  have kp29 : Keep h0 h27 [a1] := kp24.wr W27 (Or.inl (List.mem_of_getElem? (i := 0) rfl))
  have N27 := Fr.snoc X27 N22 g_a1
  have fa30 : Fld Z h27 a1 "com/example/endcon/endcon/yaml/Cursor" "hasSurrogates" "Z" (.int (0 : Int32)) := ((((((F_a1_hasSurrogates.other W2 (Or.inr (slot_ne (Or.inr (hw _ (List.mem_of_getElem? (i := 36) rfl))) (Or.inl (hw _ (List.mem_of_getElem? (i := 19) rfl))) (by decide) (t := .boolean) (t' := .int) (by decide) (by decide)))).other W7 (Or.inr (slot_ne (Or.inr (hw _ (List.mem_of_getElem? (i := 36) rfl))) (Or.inl (hw _ (List.mem_of_getElem? (i := 21) rfl))) (by decide) (t := .boolean) (t' := .int) (by decide) (by decide)))).other W12 (Or.inr (slot_ne (Or.inr (hw _ (List.mem_of_getElem? (i := 36) rfl))) (Or.inl (hw _ (List.mem_of_getElem? (i := 23) rfl))) (by decide) (t := .boolean) (t' := .int) (by decide) (by decide)))).other W17 (Or.inr (slot_ne (Or.inr (hw _ (List.mem_of_getElem? (i := 36) rfl))) (Or.inr (hw _ (List.mem_of_getElem? (i := 25) rfl))) (by decide) (t := .boolean) (t' := (.object "java/lang/String")) (by decide) (by decide)))).other W22 (Or.inr (slot_ne (Or.inr (hw _ (List.mem_of_getElem? (i := 36) rfl))) (Or.inl (hw _ (List.mem_of_getElem? (i := 27) rfl))) (by decide) (t := .boolean) (t' := (.array .char)) (by decide) (by decide)))).other W27 (Or.inr (slot_ne (Or.inr (hw _ (List.mem_of_getElem? (i := 36) rfl))) (Or.inr (hw _ (List.mem_of_getElem? (i := 29) rfl))) (by decide) (t := .boolean) (t' := .int) (by decide) (by decide))))
  have fa31 : Exa Z h27 a1 "com/example/endcon/endcon/yaml/Cursor" := (fa26.wr W27)
  obtain ⟨T32, h32, X32, e32, W32, st32⟩ := putFN X27 hx hZ hown (hw _ (List.mem_of_getElem? (i := 35) rfl)) Via.refl e27 fa30 fa31 (Or.inr ⟨(hw _ (List.mem_of_getElem? (i := 36) rfl)), rfl, hnm⟩) (hw _ (List.mem_of_getElem? (i := 2) rfl)) (ty := .boolean) (v' := (.int (0 : Int32))) (by decide) rfl (by decide) (g := (mkF m 69 #[.val (.ref a1), .val (.ref a2), .val (.ref a3), .val (.int p4), .val (.int (0 : Int32)), .val (.int (0 : Int32))] [(.int (0 : Int32)), (.ref a1)])) rfl rfl (hb hby d1_69)
  have Fw32 : Fld Z h32 a1 "com/example/endcon/endcon/yaml/Cursor" "hasSurrogates" "Z" (.int (0 : Int32)) := fa30.same W32
  have zs33 : n0 ≤ h32.size := Nat.le_trans zs28 (Keep.of_wr W32).1
  have kp34 : Keep h0 h32 [a1] := kp29.wr W32 (Or.inl (List.mem_of_getElem? (i := 0) rfl))
  have N32 := Fr.snoc X32 N27 g_a1
  obtain ⟨fs, hr, hrun, hended, hW, hsame⟩ := X32.leave (v := none) (fun _ => rfl)
  refine ⟨_, _, pre0 _ ?_, hrun, hended, _, _, rfl, ?_, ⟨_, rfl⟩, hW, hsame.mono (by decide) (by decide)⟩
  · show Steps p.tables e below (s₁.setTop (mkF m 0 #[.val (.ref a1), .val (.ref a2), .val (.ref a3), .val (.int p4), .unset, .unset] [])) _
    refine own_blk X0 hx bl1_0_1 (own_hb hby bd1_0_1) (pc' := 1) (Ls' := #[.val (.ref a1), .val (.ref a2), .val (.ref a3), .val (.int p4), .unset, .unset]) (st' := [(.ref a1)]) rfl ?_
    refine st1 _ ?_
    show Steps p.tables e below (T1.setTop (mkF m 4 #[.val (.ref a1), .val (.ref a2), .val (.ref a3), .val (.int p4), .unset, .unset] [])) _
    refine own_blk X1 hx bl1_4_2 (own_hb hby bd1_4_2) (pc' := 6) (Ls' := #[.val (.ref a1), .val (.ref a2), .val (.ref a3), .val (.int p4), .unset, .unset]) (st' := [(.int (1 : Int32)), (.ref a1)]) rfl ?_
    refine st2 _ ?_
    show Steps p.tables e below (T2.setTop (mkF m 9 #[.val (.ref a1), .val (.ref a2), .val (.ref a3), .val (.int p4), .unset, .unset] [])) _
    refine own_blk X2 hx bl1_9_2 (own_hb hby bd1_9_2) (pc' := 11) (Ls' := #[.val (.ref a1), .val (.ref a2), .val (.ref a3), .val (.int p4), .unset, .unset]) (st' := [(.int (-1 : Int32)), (.ref a1)]) rfl ?_
    refine st7 _ ?_
    show Steps p.tables e below (T7.setTop (mkF m 14 #[.val (.ref a1), .val (.ref a2), .val (.ref a3), .val (.int p4), .unset, .unset] [])) _
    refine own_blk X7 hx bl1_14_2 (own_hb hby bd1_14_2) (pc' := 16) (Ls' := #[.val (.ref a1), .val (.ref a2), .val (.ref a3), .val (.int p4), .unset, .unset]) (st' := [(.int (-1 : Int32)), (.ref a1)]) rfl ?_
    refine st12 _ ?_
    show Steps p.tables e below (T12.setTop (mkF m 19 #[.val (.ref a1), .val (.ref a2), .val (.ref a3), .val (.int p4), .unset, .unset] [])) _
    refine own_blk X12 hx bl1_19_2 (own_hb hby bd1_19_2) (pc' := 21) (Ls' := #[.val (.ref a1), .val (.ref a2), .val (.ref a3), .val (.int p4), .unset, .unset]) (st' := [(.ref a2), (.ref a1)]) rfl ?_
    refine st17 _ ?_
    show Steps p.tables e below (T17.setTop (mkF m 24 #[.val (.ref a1), .val (.ref a2), .val (.ref a3), .val (.int p4), .unset, .unset] [])) _
    refine own_blk X17 hx bl1_24_2 (own_hb hby bd1_24_2) (pc' := 26) (Ls' := #[.val (.ref a1), .val (.ref a2), .val (.ref a3), .val (.int p4), .unset, .unset]) (st' := [(.ref a3), (.ref a1)]) rfl ?_
    refine st22 _ ?_
    show Steps p.tables e below (T22.setTop (mkF m 29 #[.val (.ref a1), .val (.ref a2), .val (.ref a3), .val (.int p4), .unset, .unset] [])) _
    refine own_blk X22 hx bl1_29_2 (own_hb hby bd1_29_2) (pc' := 31) (Ls' := #[.val (.ref a1), .val (.ref a2), .val (.ref a3), .val (.int p4), .unset, .unset]) (st' := [(.int p4), (.ref a1)]) rfl ?_
    refine st27 _ ?_
    show Steps p.tables e below (T27.setTop (mkF m 34 #[.val (.ref a1), .val (.ref a2), .val (.ref a3), .val (.int p4), .unset, .unset] [])) _
    refine own_blk X27 hx bl1_34_2 (own_hb hby bd1_34_2) (pc' := 37) (Ls' := #[.val (.ref a1), .val (.ref a2), .val (.ref a3), .val (.int p4), .val (.int (0 : Int32)), .unset]) (st' := []) rfl ?_
    refine own_blk X27 hx bl1_37_2 (own_hb hby bd1_37_2) (pc' := 40) (Ls' := #[.val (.ref a1), .val (.ref a2), .val (.ref a3), .val (.int p4), .val (.int (0 : Int32)), .val (.int (0 : Int32))]) (st' := []) rfl ?_
    refine own_blk X27 hx bl1_40_2 (own_hb hby bd1_40_2) (pc' := 43) (Ls' := #[.val (.ref a1), .val (.ref a2), .val (.ref a3), .val (.int p4), .val (.int (0 : Int32)), .val (.int (0 : Int32))]) (st' := [(.int p4), (.int (0 : Int32))]) rfl ?_
    refine XS.icmpYes X27.here hx rfl (pc0 := 43) (pc' := 66) rfl (hb hby d1_43) rfl (flt hz).2.1 (by decide) (by decide) ?_
    show Steps p.tables e below (T27.setTop (mkF m 66 #[.val (.ref a1), .val (.ref a2), .val (.ref a3), .val (.int p4), .val (.int (0 : Int32)), .val (.int (0 : Int32))] [])) _
    refine own_blk X27 hx bl1_66_2 (own_hb hby bd1_66_2) (pc' := 69) (Ls' := #[.val (.ref a1), .val (.ref a2), .val (.ref a3), .val (.int p4), .val (.int (0 : Int32)), .val (.int (0 : Int32))]) (st' := [(.int (0 : Int32)), (.ref a1)]) rfl ?_
    refine st32 _ ?_
    show Steps p.tables e below (T32.setTop (mkF m 72 #[.val (.ref a1), .val (.ref a2), .val (.ref a3), .val (.int p4), .val (.int (0 : Int32)), .val (.int (0 : Int32))] [])) _
    refine own_blk X32 hx bl1_72_1 (own_hb hby bd1_72_1) (pc' := 73) (Ls' := #[.val (.ref a1), .val (.ref a2), .val (.ref a3), .val (.int p4), .val (.int (0 : Int32)), .val (.int (0 : Int32))]) (st' := [(.int p4)]) rfl ?_
    refine XS.ifYes X32.here hx rfl (pc0 := 73) (pc' := 94) rfl (hb hby d1_73) rfl ((if0 _ _).trans (flt hz).2.2.2) (by decide) (by decide) ?_
    show Steps p.tables e below (T32.setTop (mkF m 94 #[.val (.ref a1), .val (.ref a2), .val (.ref a3), .val (.int p4), .val (.int (0 : Int32)), .val (.int (0 : Int32))] [])) _
    exact X32.returnOut hx Bd.returns (hb hby d1_94) hr
  · show Q1n Z a1 a2 a3 p4 c0 c1 c2 c3 k_a3 h0 n0 _ T32.heap _
    rw [e32]
    have fa35 : Exa Z h32 a1 "com/example/endcon/endcon/yaml/Cursor" := (fa31.wr W32)
    have fa36 : Fld Z h32 a1 "com/example/endcon/endcon/yaml/Cursor" "line" "I" (.int (1 : Int32)) := ((((((Fw2.other W7 (Or.inr (slot_ne (Or.inl (hw _ (List.mem_of_getElem? (i := 19) rfl))) (Or.inl (hw _ (List.mem_of_getElem? (i := 21) rfl))) (by decide) (t := .int) (t' := .int) (by decide) (by decide)))).other W12 (Or.inr (slot_ne (Or.inl (hw _ (List.mem_of_getElem? (i := 19) rfl))) (Or.inl (hw _ (List.mem_of_getElem? (i := 23) rfl))) (by decide) (t := .int) (t' := .int) (by decide) (by decide)))).other W17 (Or.inr (slot_ne (Or.inl (hw _ (List.mem_of_getElem? (i := 19) rfl))) (Or.inr (hw _ (List.mem_of_getElem? (i := 25) rfl))) (by decide) (t := .int) (t' := (.object "java/lang/String")) (by decide) (by decide)))).other W22 (Or.inr (slot_ne (Or.inl (hw _ (List.mem_of_getElem? (i := 19) rfl))) (Or.inl (hw _ (List.mem_of_getElem? (i := 27) rfl))) (by decide) (t := .int) (t' := (.array .char)) (by decide) (by decide)))).other W27 (Or.inr (slot_ne (Or.inl (hw _ (List.mem_of_getElem? (i := 19) rfl))) (Or.inr (hw _ (List.mem_of_getElem? (i := 29) rfl))) (by decide) (t := .int) (t' := .int) (by decide) (by decide)))).other W32 (Or.inr (slot_ne (Or.inl (hw _ (List.mem_of_getElem? (i := 19) rfl))) (Or.inr (hw _ (List.mem_of_getElem? (i := 36) rfl))) (by decide) (t := .int) (t' := .boolean) (by decide) (by decide))))
    have lf37 := fa36
    have fa38 : Fld Z h32 a1 "com/example/endcon/endcon/yaml/Cursor" "blankLinesFrom" "I" (.int (-1 : Int32)) := (((((Fw7.other W12 (Or.inr (slot_ne (Or.inl (hw _ (List.mem_of_getElem? (i := 21) rfl))) (Or.inl (hw _ (List.mem_of_getElem? (i := 23) rfl))) (by decide) (t := .int) (t' := .int) (by decide) (by decide)))).other W17 (Or.inr (slot_ne (Or.inl (hw _ (List.mem_of_getElem? (i := 21) rfl))) (Or.inr (hw _ (List.mem_of_getElem? (i := 25) rfl))) (by decide) (t := .int) (t' := (.object "java/lang/String")) (by decide) (by decide)))).other W22 (Or.inr (slot_ne (Or.inl (hw _ (List.mem_of_getElem? (i := 21) rfl))) (Or.inl (hw _ (List.mem_of_getElem? (i := 27) rfl))) (by decide) (t := .int) (t' := (.array .char)) (by decide) (by decide)))).other W27 (Or.inr (slot_ne (Or.inl (hw _ (List.mem_of_getElem? (i := 21) rfl))) (Or.inr (hw _ (List.mem_of_getElem? (i := 29) rfl))) (by decide) (t := .int) (t' := .int) (by decide) (by decide)))).other W32 (Or.inr (slot_ne (Or.inl (hw _ (List.mem_of_getElem? (i := 21) rfl))) (Or.inr (hw _ (List.mem_of_getElem? (i := 36) rfl))) (by decide) (t := .int) (t' := .boolean) (by decide) (by decide))))
    have lf39 := fa38
    have fa40 : Fld Z h32 a1 "com/example/endcon/endcon/yaml/Cursor" "countedIndex" "I" (.int (-1 : Int32)) := ((((Fw12.other W17 (Or.inr (slot_ne (Or.inl (hw _ (List.mem_of_getElem? (i := 23) rfl))) (Or.inr (hw _ (List.mem_of_getElem? (i := 25) rfl))) (by decide) (t := .int) (t' := (.object "java/lang/String")) (by decide) (by decide)))).other W22 (Or.inr (slot_ne (Or.inl (hw _ (List.mem_of_getElem? (i := 23) rfl))) (Or.inl (hw _ (List.mem_of_getElem? (i := 27) rfl))) (by decide) (t := .int) (t' := (.array .char)) (by decide) (by decide)))).other W27 (Or.inr (slot_ne (Or.inl (hw _ (List.mem_of_getElem? (i := 23) rfl))) (Or.inr (hw _ (List.mem_of_getElem? (i := 29) rfl))) (by decide) (t := .int) (t' := .int) (by decide) (by decide)))).other W32 (Or.inr (slot_ne (Or.inl (hw _ (List.mem_of_getElem? (i := 23) rfl))) (Or.inr (hw _ (List.mem_of_getElem? (i := 36) rfl))) (by decide) (t := .int) (t' := .boolean) (by decide) (by decide))))
    have lf41 := fa40
    have fa42 : Fld Z h32 a1 "com/example/endcon/endcon/yaml/Cursor" "file" "Ljava/lang/String;" (.ref a2) := (((Fw17.other W22 (Or.inr (slot_ne (Or.inr (hw _ (List.mem_of_getElem? (i := 25) rfl))) (Or.inl (hw _ (List.mem_of_getElem? (i := 27) rfl))) (by decide) (t := (.object "java/lang/String")) (t' := (.array .char)) (by decide) (by decide)))).other W27 (Or.inr (slot_ne (Or.inr (hw _ (List.mem_of_getElem? (i := 25) rfl))) (Or.inr (hw _ (List.mem_of_getElem? (i := 29) rfl))) (by decide) (t := (.object "java/lang/String")) (t' := .int) (by decide) (by decide)))).other W32 (Or.inr (slot_ne (Or.inr (hw _ (List.mem_of_getElem? (i := 25) rfl))) (Or.inr (hw _ (List.mem_of_getElem? (i := 36) rfl))) (by decide) (t := (.object "java/lang/String")) (t' := .boolean) (by decide) (by decide))))
    have lf43 := fa42
    have fa44 : Fld Z h32 a1 "com/example/endcon/endcon/yaml/Cursor" "text" "[C" (.ref a3) := ((Fw22.other W27 (Or.inr (slot_ne (Or.inl (hw _ (List.mem_of_getElem? (i := 27) rfl))) (Or.inr (hw _ (List.mem_of_getElem? (i := 29) rfl))) (by decide) (t := (.array .char)) (t' := .int) (by decide) (by decide)))).other W32 (Or.inr (slot_ne (Or.inl (hw _ (List.mem_of_getElem? (i := 27) rfl))) (Or.inr (hw _ (List.mem_of_getElem? (i := 36) rfl))) (by decide) (t := (.array .char)) (t' := .boolean) (by decide) (by decide))))
    have lf45 := fa44
    have fa46 : Fld Z h32 a1 "com/example/endcon/endcon/yaml/Cursor" "end" "I" (.int p4) := (Fw27.other W32 (Or.inr (slot_ne (Or.inr (hw _ (List.mem_of_getElem? (i := 29) rfl))) (Or.inr (hw _ (List.mem_of_getElem? (i := 36) rfl))) (by decide) (t := .int) (t' := .boolean) (by decide) (by decide))))
    have lf47 := fa46
    have lf48 := Fw32
    have fa49 : Fld Z h32 a1 "com/example/endcon/endcon/yaml/Cursor" "pos" "I" (.int (0 : Int32)) := (((((((F_a1_pos.other W2 (Or.inr (slot_ne (Or.inl (hw _ (List.mem_of_getElem? (i := 45) rfl))) (Or.inl (hw _ (List.mem_of_getElem? (i := 19) rfl))) (by decide) (t := .int) (t' := .int) (by decide) (by decide)))).other W7 (Or.inr (slot_ne (Or.inl (hw _ (List.mem_of_getElem? (i := 45) rfl))) (Or.inl (hw _ (List.mem_of_getElem? (i := 21) rfl))) (by decide) (t := .int) (t' := .int) (by decide) (by decide)))).other W12 (Or.inr (slot_ne (Or.inl (hw _ (List.mem_of_getElem? (i := 45) rfl))) (Or.inl (hw _ (List.mem_of_getElem? (i := 23) rfl))) (by decide) (t := .int) (t' := .int) (by decide) (by decide)))).other W17 (Or.inr (slot_ne (Or.inl (hw _ (List.mem_of_getElem? (i := 45) rfl))) (Or.inr (hw _ (List.mem_of_getElem? (i := 25) rfl))) (by decide) (t := .int) (t' := (.object "java/lang/String")) (by decide) (by decide)))).other W22 (Or.inr (slot_ne (Or.inl (hw _ (List.mem_of_getElem? (i := 45) rfl))) (Or.inl (hw _ (List.mem_of_getElem? (i := 27) rfl))) (by decide) (t := .int) (t' := (.array .char)) (by decide) (by decide)))).other W27 (Or.inr (slot_ne (Or.inl (hw _ (List.mem_of_getElem? (i := 45) rfl))) (Or.inr (hw _ (List.mem_of_getElem? (i := 29) rfl))) (by decide) (t := .int) (t' := .int) (by decide) (by decide)))).other W32 (Or.inr (slot_ne (Or.inl (hw _ (List.mem_of_getElem? (i := 45) rfl))) (Or.inr (hw _ (List.mem_of_getElem? (i := 36) rfl))) (by decide) (t := .int) (t' := .boolean) (by decide) (by decide))))
    have lf50 := fa49
    have fa51 : Fld Z h32 a1 "com/example/endcon/endcon/yaml/Cursor" "lineStart" "I" (.int (0 : Int32)) := (((((((F_a1_lineStart.other W2 (Or.inr (slot_ne (Or.inl (hw _ (List.mem_of_getElem? (i := 52) rfl))) (Or.inl (hw _ (List.mem_of_getElem? (i := 19) rfl))) (by decide) (t := .int) (t' := .int) (by decide) (by decide)))).other W7 (Or.inr (slot_ne (Or.inl (hw _ (List.mem_of_getElem? (i := 52) rfl))) (Or.inl (hw _ (List.mem_of_getElem? (i := 21) rfl))) (by decide) (t := .int) (t' := .int) (by decide) (by decide)))).other W12 (Or.inr (slot_ne (Or.inl (hw _ (List.mem_of_getElem? (i := 52) rfl))) (Or.inl (hw _ (List.mem_of_getElem? (i := 23) rfl))) (by decide) (t := .int) (t' := .int) (by decide) (by decide)))).other W17 (Or.inr (slot_ne (Or.inl (hw _ (List.mem_of_getElem? (i := 52) rfl))) (Or.inr (hw _ (List.mem_of_getElem? (i := 25) rfl))) (by decide) (t := .int) (t' := (.object "java/lang/String")) (by decide) (by decide)))).other W22 (Or.inr (slot_ne (Or.inl (hw _ (List.mem_of_getElem? (i := 52) rfl))) (Or.inl (hw _ (List.mem_of_getElem? (i := 27) rfl))) (by decide) (t := .int) (t' := (.array .char)) (by decide) (by decide)))).other W27 (Or.inr (slot_ne (Or.inl (hw _ (List.mem_of_getElem? (i := 52) rfl))) (Or.inr (hw _ (List.mem_of_getElem? (i := 29) rfl))) (by decide) (t := .int) (t' := .int) (by decide) (by decide)))).other W32 (Or.inr (slot_ne (Or.inl (hw _ (List.mem_of_getElem? (i := 52) rfl))) (Or.inr (hw _ (List.mem_of_getElem? (i := 36) rfl))) (by decide) (t := .int) (t' := .boolean) (by decide) (by decide))))
    have lf52 := fa51
    exact ⟨rfl, N32, kp34, fa35, lf37, lf39, lf41, lf43, lf45, lf47, lf48, lf50, lf52⟩
theorem d1_46 : decode prog_114_method_1_code 46 = .ok (.iload 4, 2) := by decide +kernel
theorem d1_48 : decode prog_114_method_1_code 48 = .ok (.ifCond .ne 18, 3) := by decide +kernel
theorem d1_51 : decode prog_114_method_1_code 51 = .ok (.aload_n 2, 1) := by decide +kernel
theorem d1_52 : decode prog_114_method_1_code 52 = .ok (.iload 5, 2) := by decide +kernel
theorem d1_54 : decode prog_114_method_1_code 54 = .ok (.caload, 1) := by decide +kernel
theorem d1_55 : decode prog_114_method_1_code 55 = .ok (.invokestatic 30, 3) := by decide +kernel
theorem d1_58 : decode prog_114_method_1_code 58 = .ok (.istore 4, 2) := by decide +kernel
theorem d1_60 : decode prog_114_method_1_code 60 = .ok (.iinc 5 1, 3) := by decide +kernel
theorem d1_63 : decode prog_114_method_1_code 63 = .ok (.goto (-23), 3) := by decide +kernel
theorem d1_76 : decode prog_114_method_1_code 76 = .ok (.aload_n 2, 1) := by decide +kernel
theorem d1_77 : decode prog_114_method_1_code 77 = .ok (.iconst 0, 1) := by decide +kernel
theorem d1_78 : decode prog_114_method_1_code 78 = .ok (.caload, 1) := by decide +kernel
theorem d1_79 : decode prog_114_method_1_code 79 = .ok (.ldc 40, 2) := by decide +kernel
theorem d1_81 : decode prog_114_method_1_code 81 = .ok (.if_icmp .ne 13, 3) := by decide +kernel
theorem d1_84 : decode prog_114_method_1_code 84 = .ok (.aload_n 0, 1) := by decide +kernel
theorem d1_85 : decode prog_114_method_1_code 85 = .ok (.iconst 1, 1) := by decide +kernel
theorem d1_86 : decode prog_114_method_1_code 86 = .ok (.putfield 41, 3) := by decide +kernel
theorem d1_89 : decode prog_114_method_1_code 89 = .ok (.aload_n 0, 1) := by decide +kernel
theorem d1_90 : decode prog_114_method_1_code 90 = .ok (.iconst 1, 1) := by decide +kernel
theorem d1_91 : decode prog_114_method_1_code 91 = .ok (.putfield 44, 3) := by decide +kernel
theorem pd_1_2 : parseMethodDescriptor "(C)Z" = some ⟨[.char], some .boolean⟩ := by decide +kernel
def bl1_46_1 : List (Nat × Instr × Nat) := [(46, .iload 4, 2)]
theorem bd1_46_1 : own_dec prog_114_method_1_code bl1_46_1 = true := by decide +kernel
def bl1_51_2 : List (Nat × Instr × Nat) := [(51, .aload_n 2, 1), (52, .iload 5, 2)]
theorem bd1_51_2 : own_dec prog_114_method_1_code bl1_51_2 = true := by decide +kernel
def bl1_58_1 : List (Nat × Instr × Nat) := [(58, .istore 4, 2)]
theorem bd1_58_1 : own_dec prog_114_method_1_code bl1_58_1 = true := by decide +kernel
def bl1_60_1 : List (Nat × Instr × Nat) := [(60, .iinc 5 1, 3)]
theorem bd1_60_1 : own_dec prog_114_method_1_code bl1_60_1 = true := by decide +kernel
def bl1_63_3 : List (Nat × Instr × Nat) := [(63, .goto (-23), 3), (40, .iload 5, 2), (42, .iload_n 3, 1)]
theorem bd1_63_3 : own_dec prog_114_method_1_code bl1_63_3 = true := by decide +kernel
def bl1_76_2 : List (Nat × Instr × Nat) := [(76, .aload_n 2, 1), (77, .iconst 0, 1)]
theorem bd1_76_2 : own_dec prog_114_method_1_code bl1_76_2 = true := by decide +kernel
def bl1_84_2 : List (Nat × Instr × Nat) := [(84, .aload_n 0, 1), (85, .iconst 1, 1)]
theorem bd1_84_2 : own_dec prog_114_method_1_code bl1_84_2 = true := by decide +kernel
def bl1_89_2 : List (Nat × Instr × Nat) := [(89, .aload_n 0, 1), (90, .iconst 1, 1)]
theorem bd1_89_2 : own_dec prog_114_method_1_code bl1_89_2 = true := by decide +kernel

def f1b_a1_hasSurrogates (p4 : Int32) (c0 : Int32) (c1 : Int32) (c2 : Int32) (c3 : Int32) : Int32 := (if (1 : Int32) < p4 then (if (f3 c0) = (0 : Int32) then (if (2 : Int32) < p4 then (if (f3 c1) = (0 : Int32) then (if (3 : Int32) < p4 then (if (f3 c2) = (0 : Int32) then (nar .boolean (f3 c3)) else (nar .boolean (f3 c2))) else (nar .boolean (f3 c2))) else (nar .boolean (f3 c1))) else (nar .boolean (f3 c1))) else (nar .boolean (f3 c0))) else (nar .boolean (f3 c0)))
def Q1b (Z : State) (a1 : Addr) (a2 : Addr) (a3 : Addr) (p4 : Int32) (c0 : Int32) (c1 : Int32) (c2 : Int32) (c3 : Int32) (k_a3 : ClassId) (h0 : Heap) (n0 : Nat) (v : Option Value) (h : Heap) (L : List Loc) : Prop := v = none ∧ Fr n0 L ∧ Keep h0 h [a1] ∧ Exa Z h a1 "com/example/endcon/endcon/yaml/Cursor" ∧ Fld Z h a1 "com/example/endcon/endcon/yaml/Cursor" "line" "I" (.int (1 : Int32)) ∧ Fld Z h a1 "com/example/endcon/endcon/yaml/Cursor" "blankLinesFrom" "I" (.int (-1 : Int32)) ∧ Fld Z h a1 "com/example/endcon/endcon/yaml/Cursor" "countedIndex" "I" (.int (-1 : Int32)) ∧ Fld Z h a1 "com/example/endcon/endcon/yaml/Cursor" "file" "Ljava/lang/String;" (.ref a2) ∧ Fld Z h a1 "com/example/endcon/endcon/yaml/Cursor" "text" "[C" (.ref a3) ∧ Fld Z h a1 "com/example/endcon/endcon/yaml/Cursor" "end" "I" (.int p4) ∧ Fld Z h a1 "com/example/endcon/endcon/yaml/Cursor" "hasSurrogates" "Z" (.int (f1b_a1_hasSurrogates p4 c0 c1 c2 c3)) ∧ Fld Z h a1 "com/example/endcon/endcon/yaml/Cursor" "pos" "I" (.int (1 : Int32)) ∧ Fld Z h a1 "com/example/endcon/endcon/yaml/Cursor" "lineStart" "I" (.int (1 : Int32))
set_option maxRecDepth 65536 in
set_option maxHeartbeats 40000000 in
theorem rm1b (l : Launch) (Z : State) (a0 : Array Value) (hw : ∀ d ∈ tables_1, d.before a0 Z = true) (ws : List Jvm.Cond) (a1 : Addr) (a2 : Addr) (a3 : Addr) (p4 : Int32) (c0 : Int32) (c1 : Int32) (c2 : Int32) (c3 : Int32) (k_a3 : ClassId) (h0 : Heap) (n0 : Nat) (Z0 : n0 ≤ h0.size) (E_a1 : Exa Z h0 a1 "com/example/endcon/endcon/yaml/Cursor") (F_a1_line : Fld Z h0 a1 "com/example/endcon/endcon/yaml/Cursor" "line" "I" (.int (0 : Int32))) (F_a1_blankLinesFrom : Fld Z h0 a1 "com/example/endcon/endcon/yaml/Cursor" "blankLinesFrom" "I" (.int (0 : Int32))) (F_a1_countedIndex : Fld Z h0 a1 "com/example/endcon/endcon/yaml/Cursor" "countedIndex" "I" (.int (0 : Int32))) (F_a1_file : Fld Z h0 a1 "com/example/endcon/endcon/yaml/Cursor" "file" "Ljava/lang/String;" .null) (F_a1_text : Fld Z h0 a1 "com/example/endcon/endcon/yaml/Cursor" "text" "[C" .null) (F_a1_end : Fld Z h0 a1 "com/example/endcon/endcon/yaml/Cursor" "end" "I" (.int (0 : Int32))) (F_a1_hasSurrogates : Fld Z h0 a1 "com/example/endcon/endcon/yaml/Cursor" "hasSurrogates" "Z" (.int (0 : Int32))) (F_a1_pos : Fld Z h0 a1 "com/example/endcon/endcon/yaml/Cursor" "pos" "I" (.int (0 : Int32))) (F_a1_lineStart : Fld Z h0 a1 "com/example/endcon/endcon/yaml/Cursor" "lineStart" "I" (.int (0 : Int32))) (g_a1 : n0 ≤ a1) (V_a3 : Arv Z h0 a3 k_a3 .char (4 : Int32) [(.int c0), (.int c1), (.int c2), (.int c3)] (.int (0 : Int32))) (ne_a1_a3 : a1 ≠ a3) (hn4 : ¬ ((4 : Int32) < p4)) (hz : (0 : Int32) < p4) (hbm : c0 = (65279 : Int32)) :
    MetFree l (⟨"com/example/endcon/endcon/yaml/Cursor", "<init>", "(Ljava/lang/String;[CI)V"⟩ : MethodName) (head1 (Jvm.Cond.code (⟨"com/example/endcon/endcon/yaml/Cursor", "<init>", "(Ljava/lang/String;[CI)V"⟩ : MethodName) prog_114_method_1_code 6 none :: ws) ({ frames := 1, cells := 0, slots := 0, locals := 12 } : Room)) (fun a U => a = #[(.ref a1), (.ref a2), (.ref a3), (.int p4)] ∧ Z.Warmed39 U.vm ∧ U.heap = h0) (fun _ _ _ _ _ => True) (fun _ U o U' => ∃ v L, o = .returned v ∧ Q1b Z a1 a2 a3 p4 c0 c1 c2 c3 k_a3 h0 n0 v U'.heap L ∧ FrameEnd U o U' L ({ frames := 1, cells := 0, slots := 0, locals := 12 } : Room).cells ({ frames := 1, cells := 0, slots := 0, locals := 12 } : Room).slots) := by
  refine MetFree.of_bodySF (plainFor_of_name pn_1) hisR ?_
  intro p e s m args below meth c s₁ Bd hml0 hP hK
  obtain ⟨rfl, hZ, hh⟩ := hP
  have hx := Bd.exec
  have hby := Bd.bytes
  have hml : c.maxLocals = 6 := hml0
  have hown : s.vm.findClass "com/example/endcon/endcon/yaml/Cursor" = some m.cls := findClass_of_methodNamed Bd.named
  have hnm := (name_of_methodNamed Bd.named Bd.method).1
  have X0 : Stand p l e ({ frames := 1, cells := 0, slots := 0, locals := 12 } : Room) s m #[(.ref a1), (.ref a2), (.ref a3), (.int p4)] below meth c s₁ [] 0 0 := Stand.of_body Bd
  have e0 : s₁.heap = h0 := by rw [← hh, Bd.state]; rfl
  have N0 := Fr.nil n0
  have pre0 : ∀ t, Steps p.tables e below (s₁.setTop (mkF m 0 #[.val (.ref a1), .val (.ref a2), .val (.ref a3), .val (.int p4), .unset, .unset] [])) t → Steps p.tables e below (s₁.setTop (entryFrame m #[(.ref a1), (.ref a2), (.ref a3), (.int p4)] 6)) t := fun t k => castTop (ef_1 m a1 a2 a3 p4) k
  obtain ⟨T1, X1, e1, st1⟩ := initO X0 hx hZ hown (hw _ (List.mem_of_getElem? (i := 15) rfl)) (hw _ (List.mem_of_getElem? (i := 16) rfl)) (hw _ (List.mem_of_getElem? (i := 17) rfl)) e0 (g := (mkF m 1 #[.val (.ref a1), .val (.ref a2), .val (.ref a3), .val (.int p4), .unset, .unset] [(.ref a1)])) rfl (by rw [hml]; rfl) rfl (hb hby d1_1) (by decide) (W := 0) (by show 2 * 0 + _ ≤ _; exact Nat.le_of_eq rfl) (by decide)
  obtain ⟨T2, h2, X2, e2, W2, st2⟩ := putF X1 hx hZ hown (host := "") (Or.inl (hw _ (List.mem_of_getElem? (i := 18) rfl))) Via.refl e1 F_a1_line E_a1 (Or.inl (hw _ (List.mem_of_getElem? (i := 19) rfl))) (hw _ (List.mem_of_getElem? (i := 2) rfl)) (ty := .int) (by decide) rfl rfl (g := (mkF m 6 #[.val (.ref a1), .val (.ref a2), .val (.ref a3), .val (.int p4), .unset, .unset] [(.int (1 : Int32)), (.ref a1)])) rfl rfl (hb hby d1_6)
  have Fw2 : Fld Z h2 a1 "com/example/endcon/endcon/yaml/Cursor" "line" "I" (.int (1 : Int32)) := F_a1_line.same W2
  have zs3 : n0 ≤ h2.size := Nat.le_trans Z0 (Keep.of_wr W2).1
  have kp4 : Keep h0 h2 [a1] := (Keep.refl h0 [a1]).wr W2 (Or.inl (List.mem_of_getElem? (i := 0) rfl))
  have N2 := Fr.snoc X2 N0 g_a1
  have fa5 : Fld Z h2 a1 "com/example/endcon/endcon/yaml/Cursor" "blankLinesFrom" "I" (.int (0 : Int32)) := (F_a1_blankLinesFrom.other W2 (Or.inr (slot_ne (Or.inl (hw _ (List.mem_of_getElem? (i := 21) rfl))) (Or.inl (hw _ (List.mem_of_getElem? (i := 19) rfl))) (by decide) (t := .int) (t' := .int) (by decide) (by decide))))
  have fa6 : Exa Z h2 a1 "com/example/endcon/endcon/yaml/Cursor" := (E_a1.wr W2)
  obtain ⟨T7, h7, X7, e7, W7, st7⟩ := putF X2 hx hZ hown (host := "") (Or.inl (hw _ (List.mem_of_getElem? (i := 20) rfl))) Via.refl e2 fa5 fa6 (Or.inl (hw _ (List.mem_of_getElem? (i := 21) rfl))) (hw _ (List.mem_of_getElem? (i := 2) rfl)) (ty := .int) (by decide) rfl rfl (g := (mkF m 11 #[.val (.ref a1), .val (.ref a2), .val (.ref a3), .val (.int p4), .unset, .unset] [(.int (-1 : Int32)), (.ref a1)])) rfl rfl (hb hby d1_11)
  have Fw7 : Fld Z h7 a1 "com/example/endcon/endcon/yaml/Cursor" "blankLinesFrom" "I" (.int (-1 : Int32)) := fa5.same W7
  have zs8 : n0 ≤ h7.size := Nat.le_trans zs3 (Keep.of_wr W7).1
  have kp9 : Keep h0 h7 [a1] := kp4.wr W7 (Or.inl (List.mem_of_getElem? (i := 0) rfl))
  have N7 := Fr.snoc X7 N2 g_a1
  have fa10 : Fld Z h7 a1 "com/example/endcon/endcon/yaml/Cursor" "countedIndex" "I" (.int (0 : Int32)) := ((F_a1_countedIndex.other W2 (Or.inr (slot_ne (Or.inl (hw _ (List.mem_of_getElem? (i := 23) rfl))) (Or.inl (hw _ (List.mem_of_getElem? (i := 19) rfl))) (by decide) (t := .int) (t' := .int) (by decide) (by decide)))).other W7 (Or.inr (slot_ne (Or.inl (hw _ (List.mem_of_getElem? (i := 23) rfl))) (Or.inl (hw _ (List.mem_of_getElem? (i := 21) rfl))) (by decide) (t := .int) (t' := .int) (by decide) (by decide))))
  have fa11 : Exa Z h7 a1 "com/example/endcon/endcon/yaml/Cursor" := (fa6.wr W7)
  obtain ⟨T12, h12, X12, e12, W12, st12⟩ := putF X7 hx hZ hown (host := "") (Or.inl (hw _ (List.mem_of_getElem? (i := 22) rfl))) Via.refl e7 fa10 fa11 (Or.inl (hw _ (List.mem_of_getElem? (i := 23) rfl))) (hw _ (List.mem_of_getElem? (i := 2) rfl)) (ty := .int) (by decide) rfl rfl (g := (mkF m 16 #[.val (.ref a1), .val (.ref a2), .val (.ref a3), .val (.int p4), .unset, .unset] [(.int (-1 : Int32)), (.ref a1)])) rfl rfl (hb hby d1_16)
  have Fw12 : Fld Z h12 a1 "com/example/endcon/endcon/yaml/Cursor" "countedIndex" "I" (.int (-1 : Int32)) := fa10.same W12
  have zs13 : n0 ≤ h12.size := Nat.le_trans zs8 (Keep.of_wr W12).1
  have kp14 : Keep h0 h12 [a1] := kp9.wr W12 (Or.inl (List.mem_of_getElem? (i := 0) rfl))
  have N12 := Fr.snoc X12 N7 g_a1
  have fa15 : Fld Z h12 a1 "com/example/endcon/endcon/yaml/Cursor" "file" "Ljava/lang/String;" .null := (((F_a1_file.other W2 (Or.inr (slot_ne (Or.inr (hw _ (List.mem_of_getElem? (i := 25) rfl))) (Or.inl (hw _ (List.mem_of_getElem? (i := 19) rfl))) (by decide) (t := (.object "java/lang/String")) (t' := .int) (by decide) (by decide)))).other W7 (Or.inr (slot_ne (Or.inr (hw _ (List.mem_of_getElem? (i := 25) rfl))) (Or.inl (hw _ (List.mem_of_getElem? (i := 21) rfl))) (by decide) (t := (.object "java/lang/String")) (t' := .int) (by decide) (by decide)))).other W12 (Or.inr (slot_ne (Or.inr (hw _ (List.mem_of_getElem? (i := 25) rfl))) (Or.inl (hw _ (List.mem_of_getElem? (i := 23) rfl))) (by decide) (t := (.object "java/lang/String")) (t' := .int) (by decide) (by decide))))
  have fa16 : Exa Z h12 a1 "com/example/endcon/endcon/yaml/Cursor" := (fa11.wr W12)
  obtain ⟨T17, h17, X17, e17, W17, st17⟩ := putF X12 hx hZ hown (host := "") (Or.inl (hw _ (List.mem_of_getElem? (i := 24) rfl))) Via.refl e12 fa15 fa16 (Or.inr ⟨(hw _ (List.mem_of_getElem? (i := 25) rfl)), rfl, hnm⟩) (hw _ (List.mem_of_getElem? (i := 2) rfl)) (ty := (.object "java/lang/String")) (by decide) rfl rfl (g := (mkF m 21 #[.val (.ref a1), .val (.ref a2), .val (.ref a3), .val (.int p4), .unset, .unset] [(.ref a2), (.ref a1)])) rfl rfl (hb hby d1_21)
  have Fw17 : Fld Z h17 a1 "com/example/endcon/endcon/yaml/Cursor" "file" "Ljava/lang/String;" (.ref a2) := fa15.same W17
  have zs18 : n0 ≤ h17.size := Nat.le_trans zs13 (Keep.of_wr W17).1
  have kp19 : Keep h0 h17 [a1] := kp14.wr W17 (Or.inl (List.mem_of_getElem? (i := 0) rfl))
  have N17 := Fr.snoc X17 N12 g_a1
  have fa20 : Fld Z h17 a1 "com/example/endcon/endcon/yaml/Cursor" "text" "[C" .null := ((((F_a1_text.other W2 (Or.inr (slot_ne (Or.inl (hw _ (List.mem_of_getElem? (i := 27) rfl))) (Or.inl (hw _ (List.mem_of_getElem? (i := 19) rfl))) (by decide) (t := (.array .char)) (t' := .int) (by decide) (by decide)))).other W7 (Or.inr (slot_ne (Or.inl (hw _ (List.mem_of_getElem? (i := 27) rfl))) (Or.inl (hw _ (List.mem_of_getElem? (i := 21) rfl))) (by decide) (t := (.array .char)) (t' := .int) (by decide) (by decide)))).other W12 (Or.inr (slot_ne (Or.inl (hw _ (List.mem_of_getElem? (i := 27) rfl))) (Or.inl (hw _ (List.mem_of_getElem? (i := 23) rfl))) (by decide) (t := (.array .char)) (t' := .int) (by decide) (by decide)))).other W17 (Or.inr (slot_ne (Or.inl (hw _ (List.mem_of_getElem? (i := 27) rfl))) (Or.inr (hw _ (List.mem_of_getElem? (i := 25) rfl))) (by decide) (t := (.array .char)) (t' := (.object "java/lang/String")) (by decide) (by decide))))
  have fa21 : Exa Z h17 a1 "com/example/endcon/endcon/yaml/Cursor" := (fa16.wr W17)
  obtain ⟨T22, h22, X22, e22, W22, st22⟩ := putF X17 hx hZ hown (host := "") (Or.inl (hw _ (List.mem_of_getElem? (i := 26) rfl))) Via.refl e17 fa20 fa21 (Or.inl (hw _ (List.mem_of_getElem? (i := 27) rfl))) (hw _ (List.mem_of_getElem? (i := 2) rfl)) (ty := (.array .char)) (by decide) rfl rfl (g := (mkF m 26 #[.val (.ref a1), .val (.ref a2), .val (.ref a3), .val (.int p4), .unset, .unset] [(.ref a3), (.ref a1)])) rfl rfl (hb hby d1_26)
  have Fw22 : Fld Z h22 a1 "com/example/endcon/endcon/yaml/Cursor" "text" "[C" (.ref a3) := fa20.same W22
  have zs23 : n0 ≤ h22.size := Nat.le_trans zs18 (Keep.of_wr W22).1
  have kp24 : Keep h0 h22 [a1] := kp19.wr W22 (Or.inl (List.mem_of_getElem? (i := 0) rfl))
  have N22 := Fr.snoc X22 N17 g_a1
  have fa25 : Fld Z h22 a1 "com/example/endcon/endcon/yaml/Cursor" "end" "I" (.int (0 : Int32)) := (((((F_a1_end.other W2 (Or.inr (slot_ne (Or.inr (hw _ (List.mem_of_getElem? (i := 29) rfl))) (Or.inl (hw _ (List.mem_of_getElem? (i := 19) rfl))) (by decide) (t := .int) (t' := .int) (by decide) (by decide)))).other W7 (Or.inr (slot_ne (Or.inr (hw _ (List.mem_of_getElem? (i := 29) rfl))) (Or.inl (hw _ (List.mem_of_getElem? (i := 21) rfl))) (by decide) (t := .int) (t' := .int) (by decide) (by decide)))).other W12 (Or.inr (slot_ne (Or.inr (hw _ (List.mem_of_getElem? (i := 29) rfl))) (Or.inl (hw _ (List.mem_of_getElem? (i := 23) rfl))) (by decide) (t := .int) (t' := .int) (by decide) (by decide)))).other W17 (Or.inr (slot_ne (Or.inr (hw _ (List.mem_of_getElem? (i := 29) rfl))) (Or.inr (hw _ (List.mem_of_getElem? (i := 25) rfl))) (by decide) (t := .int) (t' := (.object "java/lang/String")) (by decide) (by decide)))).other W22 (Or.inr (slot_ne (Or.inr (hw _ (List.mem_of_getElem? (i := 29) rfl))) (Or.inl (hw _ (List.mem_of_getElem? (i := 27) rfl))) (by decide) (t := .int) (t' := (.array .char)) (by decide) (by decide))))
  have fa26 : Exa Z h22 a1 "com/example/endcon/endcon/yaml/Cursor" := (fa21.wr W22)
  obtain ⟨T27, h27, X27, e27, W27, st27⟩ := putF X22 hx hZ hown (host := "") (Or.inl (hw _ (List.mem_of_getElem? (i := 28) rfl))) Via.refl e22 fa25 fa26 (Or.inr ⟨(hw _ (List.mem_of_getElem? (i := 29) rfl)), rfl, hnm⟩) (hw _ (List.mem_of_getElem? (i := 2) rfl)) (ty := .int) (by decide) rfl rfl (g := (mkF m 31 #[.val (.ref a1), .val (.ref a2), .val (.ref a3), .val (.int p4), .unset, .unset] [(.int p4), (.ref a1)])) rfl rfl (hb hby d1_31)
  have Fw27 : Fld Z h27 a1 "com/example/endcon/endcon/yaml/Cursor" "end" "I" (.int p4) := fa25.same W27
  have zs28 : n0 ≤ h27.size := Nat.le_trans zs23 (Keep.of_wr W27).1
  have kp29 : Keep h0 h27 [a1] := kp24.wr W27 (Or.inl (List.mem_of_getElem? (i := 0) rfl))
  have N27 := Fr.snoc X27 N22 g_a1
  have fa30 : Arv Z h27 a3 k_a3 .char (4 : Int32) [(.int c0), (.int c1), (.int c2), (.int c3)] (.int (0 : Int32)) := ((((((V_a3.other W2 (Ne.symm ne_a1_a3)).other W7 (Ne.symm ne_a1_a3)).other W12 (Ne.symm ne_a1_a3)).other W17 (Ne.symm ne_a1_a3)).other W22 (Ne.symm ne_a1_a3)).other W27 (Ne.symm ne_a1_a3))
  obtain ⟨cx31, Ar31, qq31, S31, N31_, H31, G31⟩ := id fa30
  have hin31 : ¬ ((0 : Int32) < 0 ∨ cx31.slots.size ≤ ((0 : Int32)).toNatClampNeg) := inb_of S31 ⟨by decide, by decide⟩
  have hat31 : cx31.slots[((0 : Int32)).toNatClampNeg]? = some (.int c0) := (H31 ((0 : Int32)).toNatClampNeg (Nat.lt_of_not_le fun w => hin31 (Or.inr w))).trans (congrArg some (rfl))
  obtain ⟨_, T32, Lc32, X32, hQ32, st32⟩ := own_callS X27 hx hZ (y := (⟨"java/lang/Character", "isSurrogate", "(C)Z"⟩ : MethodName)) hown (hw _ (List.mem_of_getElem? (i := 30) rfl)) (hw _ (List.mem_of_getElem? (i := 31) rfl)) (hw _ (List.mem_of_getElem? (i := 32) rfl)) (hw _ (List.mem_of_getElem? (i := 33) rfl)) (by decide) (W := 0) (argsL := [(.int c0)]) (rest := []) (rm3 l Z a0 hw [] c0 h27 n0 zs28 ) (by decide) (by decide) (c' := 0) (s' := 0) rfl rfl (by decide) (by decide) e27 (g := (mkF m 55 #[.val (.ref a1), .val (.ref a2), .val (.ref a3), .val (.int p4), .val (.int (0 : Int32)), .val (.int (0 : Int32))] [(.int c0)])) rfl (by rw [hml]; rfl) (lenOf pd_1_2 rfl) rfl (by show 2 * 0 + _ ≤ _; exact Nat.le_of_eq rfl) (hb hby d1_55)
  obtain ⟨rfl, N32q, e32⟩ := hQ32
  have N32 := Fr.app N27 N32q
  have pre33 : ∀ t, Steps p.tables e below (T32.setTop (mkF m 43 #[.val (.ref a1), .val (.ref a2), .val (.ref a3), .val (.int p4), .val (.int (f3 c0)), .val (.int (1 : Int32))] [(.int p4), (.int (1 : Int32))])) t → Steps p.tables e below (s₁.setTop (entryFrame m #[(.ref a1), (.ref a2), (.ref a3), (.int p4)] 6)) t := fun t kt => by
    refine pre0 _ ?_
    show Steps p.tables e below (s₁.setTop (mkF m 0 #[.val (.ref a1), .val (.ref a2), .val (.ref a3), .val (.int p4), .unset, .unset] [])) _
    refine own_blk X0 hx bl1_0_1 (own_hb hby bd1_0_1) (pc' := 1) (Ls' := #[.val (.ref a1), .val (.ref a2), .val (.ref a3), .val (.int p4), .unset, .unset]) (st' := [(.ref a1)]) rfl ?_
    refine st1 _ ?_
    show Steps p.tables e below (T1.setTop (mkF m 4 #[.val (.ref a1), .val (.ref a2), .val (.ref a3), .val (.int p4), .unset, .unset] [])) _
    refine own_blk X1 hx bl1_4_2 (own_hb hby bd1_4_2) (pc' := 6) (Ls' := #[.val (.ref a1), .val (.ref a2), .val (.ref a3), .val (.int p4), .unset, .unset]) (st' := [(.int (1 : Int32)), (.ref a1)]) rfl ?_
    refine st2 _ ?_
    show Steps p.tables e below (T2.setTop (mkF m 9 #[.val (.ref a1), .val (.ref a2), .val (.ref a3), .val (.int p4), .unset, .unset] [])) _
    refine own_blk X2 hx bl1_9_2 (own_hb hby bd1_9_2) (pc' := 11) (Ls' := #[.val (.ref a1), .val (.ref a2), .val (.ref a3), .val (.int p4), .unset, .unset]) (st' := [(.int (-1 : Int32)), (.ref a1)]) rfl ?_
    refine st7 _ ?_
    show Steps p.tables e below (T7.setTop (mkF m 14 #[.val (.ref a1), .val (.ref a2), .val (.ref a3), .val (.int p4), .unset, .unset] [])) _
    refine own_blk X7 hx bl1_14_2 (own_hb hby bd1_14_2) (pc' := 16) (Ls' := #[.val (.ref a1), .val (.ref a2), .val (.ref a3), .val (.int p4), .unset, .unset]) (st' := [(.int (-1 : Int32)), (.ref a1)]) rfl ?_
    refine st12 _ ?_
    show Steps p.tables e below (T12.setTop (mkF m 19 #[.val (.ref a1), .val (.ref a2), .val (.ref a3), .val (.int p4), .unset, .unset] [])) _
    refine own_blk X12 hx bl1_19_2 (own_hb hby bd1_19_2) (pc' := 21) (Ls' := #[.val (.ref a1), .val (.ref a2), .val (.ref a3), .val (.int p4), .unset, .unset]) (st' := [(.ref a2), (.ref a1)]) rfl ?_
    refine st17 _ ?_
    show Steps p.tables e below (T17.setTop (mkF m 24 #[.val (.ref a1), .val (.ref a2), .val (.ref a3), .val (.int p4), .unset, .unset] [])) _
    refine own_blk X17 hx bl1_24_2 (own_hb hby bd1_24_2) (pc' := 26) (Ls' := #[.val (.ref a1), .val (.ref a2), .val (.ref a3), .val (.int p4), .unset, .unset]) (st' := [(.ref a3), (.ref a1)]) rfl ?_
    refine st22 _ ?_
    show Steps p.tables e below (T22.setTop (mkF m 29 #[.val (.ref a1), .val (.ref a2), .val (.ref a3), .val (.int p4), .unset, .unset] [])) _
    refine own_blk X22 hx bl1_29_2 (own_hb hby bd1_29_2) (pc' := 31) (Ls' := #[.val (.ref a1), .val (.ref a2), .val (.ref a3), .val (.int p4), .unset, .unset]) (st' := [(.int p4), (.ref a1)]) rfl ?_
    refine st27 _ ?_
    show Steps p.tables e below (T27.setTop (mkF m 34 #[.val (.ref a1), .val (.ref a2), .val (.ref a3), .val (.int p4), .unset, .unset] [])) _
    refine own_blk X27 hx bl1_34_2 (own_hb hby bd1_34_2) (pc' := 37) (Ls' := #[.val (.ref a1), .val (.ref a2), .val (.ref a3), .val (.int p4), .val (.int (0 : Int32)), .unset]) (st' := []) rfl ?_
    refine own_blk X27 hx bl1_37_2 (own_hb hby bd1_37_2) (pc' := 40) (Ls' := #[.val (.ref a1), .val (.ref a2), .val (.ref a3), .val (.int p4), .val (.int (0 : Int32)), .val (.int (0 : Int32))]) (st' := []) rfl ?_
    refine own_blk X27 hx bl1_40_2 (own_hb hby bd1_40_2) (pc' := 43) (Ls' := #[.val (.ref a1), .val (.ref a2), .val (.ref a3), .val (.int p4), .val (.int (0 : Int32)), .val (.int (0 : Int32))]) (st' := [(.int p4), (.int (0 : Int32))]) rfl ?_
    refine XS.icmpNo X27.here hx rfl (hb hby d1_43) rfl (tlt hz).2.1 ?_
    show Steps p.tables e below (T27.setTop (mkF m 46 #[.val (.ref a1), .val (.ref a2), .val (.ref a3), .val (.int p4), .val (.int (0 : Int32)), .val (.int (0 : Int32))] [])) _
    refine own_blk X27 hx bl1_46_1 (own_hb hby bd1_46_1) (pc' := 48) (Ls' := #[.val (.ref a1), .val (.ref a2), .val (.ref a3), .val (.int p4), .val (.int (0 : Int32)), .val (.int (0 : Int32))]) (st' := [(.int (0 : Int32))]) rfl ?_
    refine XS.ifNo X27.here hx rfl (hb hby d1_48) rfl ((if0 _ _).trans (teq (by decide : (0 : Int32) = (0 : Int32))).2) ?_
    show Steps p.tables e below (T27.setTop (mkF m 51 #[.val (.ref a1), .val (.ref a2), .val (.ref a3), .val (.int p4), .val (.int (0 : Int32)), .val (.int (0 : Int32))] [])) _
    refine own_blk X27 hx bl1_51_2 (own_hb hby bd1_51_2) (pc' := 54) (Ls' := #[.val (.ref a1), .val (.ref a2), .val (.ref a3), .val (.int p4), .val (.int (0 : Int32)), .val (.int (0 : Int32))]) (st' := [(.int (0 : Int32)), (.ref a3)]) rfl ?_
    refine X27.caload hx (j := (0 : Int32)) (v := (.int c0)) (by rw [e27]; exact Ar31.1) (State.isArrayOf_alike hZ.alike Ar31.2.1) Ar31.2.2 hin31 hat31 (g := (mkF m 54 #[.val (.ref a1), .val (.ref a2), .val (.ref a3), .val (.int p4), .val (.int (0 : Int32)), .val (.int (0 : Int32))] [(.int (0 : Int32)), (.ref a3)])) rfl rfl (hb hby d1_54) _ ?_
    show Steps p.tables e below (T27.setTop (mkF m 55 #[.val (.ref a1), .val (.ref a2), .val (.ref a3), .val (.int p4), .val (.int (0 : Int32)), .val (.int (0 : Int32))] [(.int c0)])) _
    refine st32 _ ?_
    show Steps p.tables e below (T32.setTop (mkF m 58 #[.val (.ref a1), .val (.ref a2), .val (.ref a3), .val (.int p4), .val (.int (0 : Int32)), .val (.int (0 : Int32))] [(.int (f3 c0))])) _
    refine own_blk X32 hx bl1_58_1 (own_hb hby bd1_58_1) (pc' := 60) (Ls' := #[.val (.ref a1), .val (.ref a2), .val (.ref a3), .val (.int p4), .val (.int (f3 c0)), .val (.int (0 : Int32))]) (st' := []) rfl ?_
    refine own_blk X32 hx bl1_60_1 (own_hb hby bd1_60_1) (pc' := 63) (Ls' := #[.val (.ref a1), .val (.ref a2), .val (.ref a3), .val (.int p4), .val (.int (f3 c0)), .val (.int (1 : Int32))]) (st' := []) rfl ?_
    refine own_blk X32 hx bl1_63_3 (own_hb hby bd1_63_3) (pc' := 43) (Ls' := #[.val (.ref a1), .val (.ref a2), .val (.ref a3), .val (.int p4), .val (.int (f3 c0)), .val (.int (1 : Int32))]) (st' := [(.int p4), (.int (1 : Int32))]) rfl ?_
    exact kt
  by_cases hc34 : (1 : Int32) < p4
  · have pre35 : ∀ t, Steps p.tables e below (T32.setTop (mkF m 48 #[.val (.ref a1), .val (.ref a2), .val (.ref a3), .val (.int p4), .val (.int (f3 c0)), .val (.int (1 : Int32))] [(.int (f3 c0))])) t → Steps p.tables e below (s₁.setTop (entryFrame m #[(.ref a1), (.ref a2), (.ref a3), (.int p4)] 6)) t := fun t kt => by
      refine pre33 _ ?_
      show Steps p.tables e below (T32.setTop (mkF m 43 #[.val (.ref a1), .val (.ref a2), .val (.ref a3), .val (.int p4), .val (.int (f3 c0)), .val (.int (1 : Int32))] [(.int p4), (.int (1 : Int32))])) _
      refine XS.icmpNo X32.here hx rfl (hb hby d1_43) rfl (tlt hc34).2.1 ?_
      show Steps p.tables e below (T32.setTop (mkF m 46 #[.val (.ref a1), .val (.ref a2), .val (.ref a3), .val (.int p4), .val (.int (f3 c0)), .val (.int (1 : Int32))] [])) _
      refine own_blk X32 hx bl1_46_1 (own_hb hby bd1_46_1) (pc' := 48) (Ls' := #[.val (.ref a1), .val (.ref a2), .val (.ref a3), .val (.int p4), .val (.int (f3 c0)), .val (.int (1 : Int32))]) (st' := [(.int (f3 c0))]) rfl ?_
      exact kt
    by_cases hc36 : (f3 c0) = (0 : Int32)
    · obtain ⟨cx37, Ar37, qq37, S37, N37_, H37, G37⟩ := id fa30
      have hin37 : ¬ ((1 : Int32) < 0 ∨ cx37.slots.size ≤ ((1 : Int32)).toNatClampNeg) := inb_of S37 ⟨by decide, by decide⟩
      have hat37 : cx37.slots[((1 : Int32)).toNatClampNeg]? = some (.int c1) := (H37 ((1 : Int32)).toNatClampNeg (Nat.lt_of_not_le fun w => hin37 (Or.inr w))).trans (congrArg some (rfl))
      obtain ⟨_, T38, Lc38, X38, hQ38, st38⟩ := own_callS X32 hx hZ (y := (⟨"java/lang/Character", "isSurrogate", "(C)Z"⟩ : MethodName)) hown (hw _ (List.mem_of_getElem? (i := 30) rfl)) (hw _ (List.mem_of_getElem? (i := 31) rfl)) (hw _ (List.mem_of_getElem? (i := 32) rfl)) (hw _ (List.mem_of_getElem? (i := 33) rfl)) (by decide) (W := 0) (argsL := [(.int c1)]) (rest := []) (rm3 l Z a0 hw [] c1 h27 n0 zs28 ) (by decide) (by decide) (c' := 0) (s' := 0) rfl rfl (by decide) (by decide) e32 (g := (mkF m 55 #[.val (.ref a1), .val (.ref a2), .val (.ref a3), .val (.int p4), .val (.int (f3 c0)), .val (.int (1 : Int32))] [(.int c1)])) rfl (by rw [hml]; rfl) (lenOf pd_1_2 rfl) rfl (by show 2 * 0 + _ ≤ _; exact Nat.le_of_eq rfl) (hb hby d1_55)
      obtain ⟨rfl, N38q, e38⟩ := hQ38
      have N38 := Fr.app N32 N38q
      have pre39 : ∀ t, Steps p.tables e below (T38.setTop (mkF m 43 #[.val (.ref a1), .val (.ref a2), .val (.ref a3), .val (.int p4), .val (.int (f3 c1)), .val (.int (2 : Int32))] [(.int p4), (.int (2 : Int32))])) t → Steps p.tables e below (s₁.setTop (entryFrame m #[(.ref a1), (.ref a2), (.ref a3), (.int p4)] 6)) t := fun t kt => by
        refine pre35 _ ?_
        show Steps p.tables e below (T32.setTop (mkF m 48 #[.val (.ref a1), .val (.ref a2), .val (.ref a3), .val (.int p4), .val (.int (f3 c0)), .val (.int (1 : Int32))] [(.int (f3 c0))])) _
        refine XS.ifNo X32.here hx rfl (hb hby d1_48) rfl ((if0 _ _).trans (teq hc36).2) ?_
        show Steps p.tables e below (T32.setTop (mkF m 51 #[.val (.ref a1), .val (.ref a2), .val (.ref a3), .val (.int p4), .val (.int (f3 c0)), .val (.int (1 : Int32))] [])) _
        refine own_blk X32 hx bl1_51_2 (own_hb hby bd1_51_2) (pc' := 54) (Ls' := #[.val (.ref a1), .val (.ref a2), .val (.ref a3), .val (.int p4), .val (.int (f3 c0)), .val (.int (1 : Int32))]) (st' := [(.int (1 : Int32)), (.ref a3)]) rfl ?_
        refine X32.caload hx (j := (1 : Int32)) (v := (.int c1)) (by rw [e32]; exact Ar37.1) (State.isArrayOf_alike hZ.alike Ar37.2.1) Ar37.2.2 hin37 hat37 (g := (mkF m 54 #[.val (.ref a1), .val (.ref a2), .val (.ref a3), .val (.int p4), .val (.int (f3 c0)), .val (.int (1 : Int32))] [(.int (1 : Int32)), (.ref a3)])) rfl rfl (hb hby d1_54) _ ?_
        show Steps p.tables e below (T32.setTop (mkF m 55 #[.val (.ref a1), .val (.ref a2), .val (.ref a3), .val (.int p4), .val (.int (f3 c0)), .val (.int (1 : Int32))] [(.int c1)])) _
        refine st38 _ ?_
        show Steps p.tables e below (T38.setTop (mkF m 58 #[.val (.ref a1), .val (.ref a2), .val (.ref a3), .val (.int p4), .val (.int (f3 c0)), .val (.int (1 : Int32))] [(.int (f3 c1))])) _
        refine own_blk X38 hx bl1_58_1 (own_hb hby bd1_58_1) (pc' := 60) (Ls' := #[.val (.ref a1), .val (.ref a2), .val (.ref a3), .val (.int p4), .val (.int (f3 c1)), .val (.int (1 : Int32))]) (st' := []) rfl ?_
        refine own_blk X38 hx bl1_60_1 (own_hb hby bd1_60_1) (pc' := 63) (Ls' := #[.val (.ref a1), .val (.ref a2), .val (.ref a3), .val (.int p4), .val (.int (f3 c1)), .val (.int (2 : Int32))]) (st' := []) rfl ?_
        refine own_blk X38 hx bl1_63_3 (own_hb hby bd1_63_3) (pc' := 43) (Ls' := #[.val (.ref a1), .val (.ref a2), .val (.ref a3), .val (.int p4), .val (.int (f3 c1)), .val (.int (2 : Int32))]) (st' := [(.int p4), (.int (2 : Int32))]) rfl ?_
        exact kt
      by_cases hc40 : (2 : Int32) < p4
      · have pre41 : ∀ t, Steps p.tables e below (T38.setTop (mkF m 48 #[.val (.ref a1), .val (.ref a2), .val (.ref a3), .val (.int p4), .val (.int (f3 c1)), .val (.int (2 : Int32))] [(.int (f3 c1))])) t → Steps p.tables e below (s₁.setTop (entryFrame m #[(.ref a1), (.ref a2), (.ref a3), (.int p4)] 6)) t := fun t kt => by
          refine pre39 _ ?_
          show Steps p.tables e below (T38.setTop (mkF m 43 #[.val (.ref a1), .val (.ref a2), .val (.ref a3), .val (.int p4), .val (.int (f3 c1)), .val (.int (2 : Int32))] [(.int p4), (.int (2 : Int32))])) _
          refine XS.icmpNo X38.here hx rfl (hb hby d1_43) rfl (tlt hc40).2.1 ?_
          show Steps p.tables e below (T38.setTop (mkF m 46 #[.val (.ref a1), .val (.ref a2), .val (.ref a3), .val (.int p4), .val (.int (f3 c1)), .val (.int (2 : Int32))] [])) _
          refine own_blk X38 hx bl1_46_1 (own_hb hby bd1_46_1) (pc' := 48) (Ls' := #[.val (.ref a1), .val (.ref a2), .val (.ref a3), .val (.int p4), .val (.int (f3 c1)), .val (.int (2 : Int32))]) (st' := [(.int (f3 c1))]) rfl ?_
          exact kt
        by_cases hc42 : (f3 c1) = (0 : Int32)
        · obtain ⟨cx43, Ar43, qq43, S43, N43_, H43, G43⟩ := id fa30
          have hin43 : ¬ ((2 : Int32) < 0 ∨ cx43.slots.size ≤ ((2 : Int32)).toNatClampNeg) := inb_of S43 ⟨by decide, by decide⟩
          have hat43 : cx43.slots[((2 : Int32)).toNatClampNeg]? = some (.int c2) := (H43 ((2 : Int32)).toNatClampNeg (Nat.lt_of_not_le fun w => hin43 (Or.inr w))).trans (congrArg some (rfl))
          obtain ⟨_, T44, Lc44, X44, hQ44, st44⟩ := own_callS X38 hx hZ (y := (⟨"java/lang/Character", "isSurrogate", "(C)Z"⟩ : MethodName)) hown (hw _ (List.mem_of_getElem? (i := 30) rfl)) (hw _ (List.mem_of_getElem? (i := 31) rfl)) (hw _ (List.mem_of_getElem? (i := 32) rfl)) (hw _ (List.mem_of_getElem? (i := 33) rfl)) (by decide) (W := 0) (argsL := [(.int c2)]) (rest := []) (rm3 l Z a0 hw [] c2 h27 n0 zs28 ) (by decide) (by decide) (c' := 0) (s' := 0) rfl rfl (by decide) (by decide) e38 (g := (mkF m 55 #[.val (.ref a1), .val (.ref a2), .val (.ref a3), .val (.int p4), .val (.int (f3 c1)), .val (.int (2 : Int32))] [(.int c2)])) rfl (by rw [hml]; rfl) (lenOf pd_1_2 rfl) rfl (by show 2 * 0 + _ ≤ _; exact Nat.le_of_eq rfl) (hb hby d1_55)
          obtain ⟨rfl, N44q, e44⟩ := hQ44
          have N44 := Fr.app N38 N44q
          have pre45 : ∀ t, Steps p.tables e below (T44.setTop (mkF m 43 #[.val (.ref a1), .val (.ref a2), .val (.ref a3), .val (.int p4), .val (.int (f3 c2)), .val (.int (3 : Int32))] [(.int p4), (.int (3 : Int32))])) t → Steps p.tables e below (s₁.setTop (entryFrame m #[(.ref a1), (.ref a2), (.ref a3), (.int p4)] 6)) t := fun t kt => by
            refine pre41 _ ?_
            show Steps p.tables e below (T38.setTop (mkF m 48 #[.val (.ref a1), .val (.ref a2), .val (.ref a3), .val (.int p4), .val (.int (f3 c1)), .val (.int (2 : Int32))] [(.int (f3 c1))])) _
            refine XS.ifNo X38.here hx rfl (hb hby d1_48) rfl ((if0 _ _).trans (teq hc42).2) ?_
            show Steps p.tables e below (T38.setTop (mkF m 51 #[.val (.ref a1), .val (.ref a2), .val (.ref a3), .val (.int p4), .val (.int (f3 c1)), .val (.int (2 : Int32))] [])) _
            refine own_blk X38 hx bl1_51_2 (own_hb hby bd1_51_2) (pc' := 54) (Ls' := #[.val (.ref a1), .val (.ref a2), .val (.ref a3), .val (.int p4), .val (.int (f3 c1)), .val (.int (2 : Int32))]) (st' := [(.int (2 : Int32)), (.ref a3)]) rfl ?_
            refine X38.caload hx (j := (2 : Int32)) (v := (.int c2)) (by rw [e38]; exact Ar43.1) (State.isArrayOf_alike hZ.alike Ar43.2.1) Ar43.2.2 hin43 hat43 (g := (mkF m 54 #[.val (.ref a1), .val (.ref a2), .val (.ref a3), .val (.int p4), .val (.int (f3 c1)), .val (.int (2 : Int32))] [(.int (2 : Int32)), (.ref a3)])) rfl rfl (hb hby d1_54) _ ?_
            show Steps p.tables e below (T38.setTop (mkF m 55 #[.val (.ref a1), .val (.ref a2), .val (.ref a3), .val (.int p4), .val (.int (f3 c1)), .val (.int (2 : Int32))] [(.int c2)])) _
            refine st44 _ ?_
            show Steps p.tables e below (T44.setTop (mkF m 58 #[.val (.ref a1), .val (.ref a2), .val (.ref a3), .val (.int p4), .val (.int (f3 c1)), .val (.int (2 : Int32))] [(.int (f3 c2))])) _
            refine own_blk X44 hx bl1_58_1 (own_hb hby bd1_58_1) (pc' := 60) (Ls' := #[.val (.ref a1), .val (.ref a2), .val (.ref a3), .val (.int p4), .val (.int (f3 c2)), .val (.int (2 : Int32))]) (st' := []) rfl ?_
            refine own_blk X44 hx bl1_60_1 (own_hb hby bd1_60_1) (pc' := 63) (Ls' := #[.val (.ref a1), .val (.ref a2), .val (.ref a3), .val (.int p4), .val (.int (f3 c2)), .val (.int (3 : Int32))]) (st' := []) rfl ?_
            refine own_blk X44 hx bl1_63_3 (own_hb hby bd1_63_3) (pc' := 43) (Ls' := #[.val (.ref a1), .val (.ref a2), .val (.ref a3), .val (.int p4), .val (.int (f3 c2)), .val (.int (3 : Int32))]) (st' := [(.int p4), (.int (3 : Int32))]) rfl ?_
            exact kt
          by_cases hc46 : (3 : Int32) < p4
          · have pre47 : ∀ t, Steps p.tables e below (T44.setTop (mkF m 48 #[.val (.ref a1), .val (.ref a2), .val (.ref a3), .val (.int p4), .val (.int (f3 c2)), .val (.int (3 : Int32))] [(.int (f3 c2))])) t → Steps p.tables e below (s₁.setTop (entryFrame m #[(.ref a1), (.ref a2), (.ref a3), (.int p4)] 6)) t := fun t kt => by
              refine pre45 _ ?_
              show Steps p.tables e below (T44.setTop (mkF m 43 #[.val (.ref a1), .val (.ref a2), .val (.ref a3), .val (.int p4), .val (.int (f3 c2)), .val (.int (3 : Int32))] [(.int p4), (.int (3 : Int32))])) _
              refine XS.icmpNo X44.here hx rfl (hb hby d1_43) rfl (tlt hc46).2.1 ?_
              show Steps p.tables e below (T44.setTop (mkF m 46 #[.val (.ref a1), .val (.ref a2), .val (.ref a3), .val (.int p4), .val (.int (f3 c2)), .val (.int (3 : Int32))] [])) _
              refine own_blk X44 hx bl1_46_1 (own_hb hby bd1_46_1) (pc' := 48) (Ls' := #[.val (.ref a1), .val (.ref a2), .val (.ref a3), .val (.int p4), .val (.int (f3 c2)), .val (.int (3 : Int32))]) (st' := [(.int (f3 c2))]) rfl ?_
              exact kt
            by_cases hc48 : (f3 c2) = (0 : Int32)
            · obtain ⟨cx49, Ar49, qq49, S49, N49_, H49, G49⟩ := id fa30
              have hin49 : ¬ ((3 : Int32) < 0 ∨ cx49.slots.size ≤ ((3 : Int32)).toNatClampNeg) := inb_of S49 ⟨by decide, by decide⟩
              have hat49 : cx49.slots[((3 : Int32)).toNatClampNeg]? = some (.int c3) := (H49 ((3 : Int32)).toNatClampNeg (Nat.lt_of_not_le fun w => hin49 (Or.inr w))).trans (congrArg some (rfl))
              obtain ⟨_, T50, Lc50, X50, hQ50, st50⟩ := own_callS X44 hx hZ (y := (⟨"java/lang/Character", "isSurrogate", "(C)Z"⟩ : MethodName)) hown (hw _ (List.mem_of_getElem? (i := 30) rfl)) (hw _ (List.mem_of_getElem? (i := 31) rfl)) (hw _ (List.mem_of_getElem? (i := 32) rfl)) (hw _ (List.mem_of_getElem? (i := 33) rfl)) (by decide) (W := 0) (argsL := [(.int c3)]) (rest := []) (rm3 l Z a0 hw [] c3 h27 n0 zs28 ) (by decide) (by decide) (c' := 0) (s' := 0) rfl rfl (by decide) (by decide) e44 (g := (mkF m 55 #[.val (.ref a1), .val (.ref a2), .val (.ref a3), .val (.int p4), .val (.int (f3 c2)), .val (.int (3 : Int32))] [(.int c3)])) rfl (by rw [hml]; rfl) (lenOf pd_1_2 rfl) rfl (by show 2 * 0 + _ ≤ _; exact Nat.le_of_eq rfl) (hb hby d1_55)
              obtain ⟨rfl, N50q, e50⟩ := hQ50
              have N50 := Fr.app N44 N50q
              have fa51 : Fld Z h27 a1 "com/example/endcon/endcon/yaml/Cursor" "hasSurrogates" "Z" (.int (0 : Int32)) := ((((((F_a1_hasSurrogates.other W2 (Or.inr (slot_ne (Or.inr (hw _ (List.mem_of_getElem? (i := 36) rfl))) (Or.inl (hw _ (List.mem_of_getElem? (i := 19) rfl))) (by decide) (t := .boolean) (t' := .int) (by decide) (by decide)))).other W7 (Or.inr (slot_ne (Or.inr (hw _ (List.mem_of_getElem? (i := 36) rfl))) (Or.inl (hw _ (List.mem_of_getElem? (i := 21) rfl))) (by decide) (t := .boolean) (t' := .int) (by decide) (by decide)))).other W12 (Or.inr (slot_ne (Or.inr (hw _ (List.mem_of_getElem? (i := 36) rfl))) (Or.inl (hw _ (List.mem_of_getElem? (i := 23) rfl))) (by decide) (t := .boolean) (t' := .int) (by decide) (by decide)))).other W17 (Or.inr (slot_ne (Or.inr (hw _ (List.mem_of_getElem? (i := 36) rfl))) (Or.inr (hw _ (List.mem_of_getElem? (i := 25) rfl))) (by decide) (t := .boolean) (t' := (.object "java/lang/String")) (by decide) (by decide)))).other W22 (Or.inr (slot_ne (Or.inr (hw _ (List.mem_of_getElem? (i := 36) rfl))) (Or.inl (hw _ (List.mem_of_getElem? (i := 27) rfl))) (by decide) (t := .boolean) (t' := (.array .char)) (by decide) (by decide)))).other W27 (Or.inr (slot_ne (Or.inr (hw _ (List.mem_of_getElem? (i := 36) rfl))) (Or.inr (hw _ (List.mem_of_getElem? (i := 29) rfl))) (by decide) (t := .boolean) (t' := .int) (by decide) (by decide))))
              have fa52 : Exa Z h27 a1 "com/example/endcon/endcon/yaml/Cursor" := (fa26.wr W27)
              obtain ⟨T53, h53, X53, e53, W53, st53⟩ := putFN X50 hx hZ hown (hw _ (List.mem_of_getElem? (i := 35) rfl)) Via.refl e50 fa51 fa52 (Or.inr ⟨(hw _ (List.mem_of_getElem? (i := 36) rfl)), rfl, hnm⟩) (hw _ (List.mem_of_getElem? (i := 2) rfl)) (ty := .boolean) (v' := (.int (nar .boolean (f3 c3)))) (by decide) rfl (fits_nar_bool _) (g := (mkF m 69 #[.val (.ref a1), .val (.ref a2), .val (.ref a3), .val (.int p4), .val (.int (f3 c3)), .val (.int (4 : Int32))] [(.int (f3 c3)), (.ref a1)])) rfl rfl (hb hby d1_69)
              have Fw53 : Fld Z h53 a1 "com/example/endcon/endcon/yaml/Cursor" "hasSurrogates" "Z" (.int (nar .boolean (f3 c3))) := fa51.same W53
              have zs54 : n0 ≤ h53.size := Nat.le_trans zs28 (Keep.of_wr W53).1
              have kp55 : Keep h0 h53 [a1] := kp29.wr W53 (Or.inl (List.mem_of_getElem? (i := 0) rfl))
              have N53 := Fr.snoc X53 N50 g_a1
              have fa56 : Arv Z h53 a3 k_a3 .char (4 : Int32) [(.int c0), (.int c1), (.int c2), (.int c3)] (.int (0 : Int32)) := (fa30.other W53 (Ne.symm ne_a1_a3))
              obtain ⟨cx57, Ar57, qq57, S57, N57_, H57, G57⟩ := id fa56
              have hin57 : ¬ ((0 : Int32) < 0 ∨ cx57.slots.size ≤ ((0 : Int32)).toNatClampNeg) := inb_of S57 ⟨by decide, by decide⟩
              have hat57 : cx57.slots[((0 : Int32)).toNatClampNeg]? = some (.int c0) := (H57 ((0 : Int32)).toNatClampNeg (Nat.lt_of_not_le fun w => hin57 (Or.inr w))).trans (congrArg some (rfl))
              have fa58 : Fld Z h53 a1 "com/example/endcon/endcon/yaml/Cursor" "pos" "I" (.int (0 : Int32)) := (((((((F_a1_pos.other W2 (Or.inr (slot_ne (Or.inl (hw _ (List.mem_of_getElem? (i := 45) rfl))) (Or.inl (hw _ (List.mem_of_getElem? (i := 19) rfl))) (by decide) (t := .int) (t' := .int) (by decide) (by decide)))).other W7 (Or.inr (slot_ne (Or.inl (hw _ (List.mem_of_getElem? (i := 45) rfl))) (Or.inl (hw _ (List.mem_of_getElem? (i := 21) rfl))) (by decide) (t := .int) (t' := .int) (by decide) (by decide)))).other W12 (Or.inr (slot_ne (Or.inl (hw _ (List.mem_of_getElem? (i := 45) rfl))) (Or.inl (hw _ (List.mem_of_getElem? (i := 23) rfl))) (by decide) (t := .int) (t' := .int) (by decide) (by decide)))).other W17 (Or.inr (slot_ne (Or.inl (hw _ (List.mem_of_getElem? (i := 45) rfl))) (Or.inr (hw _ (List.mem_of_getElem? (i := 25) rfl))) (by decide) (t := .int) (t' := (.object "java/lang/String")) (by decide) (by decide)))).other W22 (Or.inr (slot_ne (Or.inl (hw _ (List.mem_of_getElem? (i := 45) rfl))) (Or.inl (hw _ (List.mem_of_getElem? (i := 27) rfl))) (by decide) (t := .int) (t' := (.array .char)) (by decide) (by decide)))).other W27 (Or.inr (slot_ne (Or.inl (hw _ (List.mem_of_getElem? (i := 45) rfl))) (Or.inr (hw _ (List.mem_of_getElem? (i := 29) rfl))) (by decide) (t := .int) (t' := .int) (by decide) (by decide)))).other W53 (Or.inr (slot_ne (Or.inl (hw _ (List.mem_of_getElem? (i := 45) rfl))) (Or.inr (hw _ (List.mem_of_getElem? (i := 36) rfl))) (by decide) (t := .int) (t' := .boolean) (by decide) (by decide))))
              have fa59 : Exa Z h53 a1 "com/example/endcon/endcon/yaml/Cursor" := (fa52.wr W53)
              obtain ⟨T60, h60, X60, e60, W60, st60⟩ := putF X53 hx hZ hown (host := "") (Or.inl (hw _ (List.mem_of_getElem? (i := 44) rfl))) Via.refl e53 fa58 fa59 (Or.inl (hw _ (List.mem_of_getElem? (i := 45) rfl))) (hw _ (List.mem_of_getElem? (i := 2) rfl)) (ty := .int) (by decide) rfl rfl (g := (mkF m 86 #[.val (.ref a1), .val (.ref a2), .val (.ref a3), .val (.int p4), .val (.int (f3 c3)), .val (.int (4 : Int32))] [(.int (1 : Int32)), (.ref a1)])) rfl rfl (hb hby d1_86)
              have Fw60 : Fld Z h60 a1 "com/example/endcon/endcon/yaml/Cursor" "pos" "I" (.int (1 : Int32)) := fa58.same W60
              have zs61 : n0 ≤ h60.size := Nat.le_trans zs54 (Keep.of_wr W60).1
              have kp62 : Keep h0 h60 [a1] := kp55.wr W60 (Or.inl (List.mem_of_getElem? (i := 0) rfl))
              have N60 := Fr.snoc X60 N53 g_a1
              have fa63 : Fld Z h60 a1 "com/example/endcon/endcon/yaml/Cursor" "lineStart" "I" (.int (0 : Int32)) := ((((((((F_a1_lineStart.other W2 (Or.inr (slot_ne (Or.inl (hw _ (List.mem_of_getElem? (i := 52) rfl))) (Or.inl (hw _ (List.mem_of_getElem? (i := 19) rfl))) (by decide) (t := .int) (t' := .int) (by decide) (by decide)))).other W7 (Or.inr (slot_ne (Or.inl (hw _ (List.mem_of_getElem? (i := 52) rfl))) (Or.inl (hw _ (List.mem_of_getElem? (i := 21) rfl))) (by decide) (t := .int) (t' := .int) (by decide) (by decide)))).other W12 (Or.inr (slot_ne (Or.inl (hw _ (List.mem_of_getElem? (i := 52) rfl))) (Or.inl (hw _ (List.mem_of_getElem? (i := 23) rfl))) (by decide) (t := .int) (t' := .int) (by decide) (by decide)))).other W17 (Or.inr (slot_ne (Or.inl (hw _ (List.mem_of_getElem? (i := 52) rfl))) (Or.inr (hw _ (List.mem_of_getElem? (i := 25) rfl))) (by decide) (t := .int) (t' := (.object "java/lang/String")) (by decide) (by decide)))).other W22 (Or.inr (slot_ne (Or.inl (hw _ (List.mem_of_getElem? (i := 52) rfl))) (Or.inl (hw _ (List.mem_of_getElem? (i := 27) rfl))) (by decide) (t := .int) (t' := (.array .char)) (by decide) (by decide)))).other W27 (Or.inr (slot_ne (Or.inl (hw _ (List.mem_of_getElem? (i := 52) rfl))) (Or.inr (hw _ (List.mem_of_getElem? (i := 29) rfl))) (by decide) (t := .int) (t' := .int) (by decide) (by decide)))).other W53 (Or.inr (slot_ne (Or.inl (hw _ (List.mem_of_getElem? (i := 52) rfl))) (Or.inr (hw _ (List.mem_of_getElem? (i := 36) rfl))) (by decide) (t := .int) (t' := .boolean) (by decide) (by decide)))).other W60 (Or.inr (slot_ne (Or.inl (hw _ (List.mem_of_getElem? (i := 52) rfl))) (Or.inl (hw _ (List.mem_of_getElem? (i := 45) rfl))) (by decide) (t := .int) (t' := .int) (by decide) (by decide))))
              have fa64 : Exa Z h60 a1 "com/example/endcon/endcon/yaml/Cursor" := (fa59.wr W60)
              obtain ⟨T65, h65, X65, e65, W65, st65⟩ := putF X60 hx hZ hown (host := "") (Or.inl (hw _ (List.mem_of_getElem? (i := 51) rfl))) Via.refl e60 fa63 fa64 (Or.inl (hw _ (List.mem_of_getElem? (i := 52) rfl))) (hw _ (List.mem_of_getElem? (i := 2) rfl)) (ty := .int) (by decide) rfl rfl (g := (mkF m 91 #[.val (.ref a1), .val (.ref a2), .val (.ref a3), .val (.int p4), .val (.int (f3 c3)), .val (.int (4 : Int32))] [(.int (1 : Int32)), (.ref a1)])) rfl rfl (hb hby d1_91)
              have Fw65 : Fld Z h65 a1 "com/example/endcon/endcon/yaml/Cursor" "lineStart" "I" (.int (1 : Int32)) := fa63.same W65
              have zs66 : n0 ≤ h65.size := Nat.le_trans zs61 (Keep.of_wr W65).1
              have kp67 : Keep h0 h65 [a1] := kp62.wr W65 (Or.inl (List.mem_of_getElem? (i := 0) rfl))
              have N65 := Fr.snoc X65 N60 g_a1
              obtain ⟨fs, hr, hrun, hended, hW, hsame⟩ := X65.leave (v := none) (fun _ => rfl)
              refine ⟨_, _, pre47 _ ?_, hrun, hended, _, _, rfl, ?_, ⟨_, rfl⟩, hW, hsame.mono (by decide) (by decide)⟩
              · show Steps p.tables e below (T44.setTop (mkF m 48 #[.val (.ref a1), .val (.ref a2), .val (.ref a3), .val (.int p4), .val (.int (f3 c2)), .val (.int (3 : Int32))] [(.int (f3 c2))])) _
                refine XS.ifNo X44.here hx rfl (hb hby d1_48) rfl ((if0 _ _).trans (teq hc48).2) ?_
                show Steps p.tables e below (T44.setTop (mkF m 51 #[.val (.ref a1), .val (.ref a2), .val (.ref a3), .val (.int p4), .val (.int (f3 c2)), .val (.int (3 : Int32))] [])) _
                refine own_blk X44 hx bl1_51_2 (own_hb hby bd1_51_2) (pc' := 54) (Ls' := #[.val (.ref a1), .val (.ref a2), .val (.ref a3), .val (.int p4), .val (.int (f3 c2)), .val (.int (3 : Int32))]) (st' := [(.int (3 : Int32)), (.ref a3)]) rfl ?_
                refine X44.caload hx (j := (3 : Int32)) (v := (.int c3)) (by rw [e44]; exact Ar49.1) (State.isArrayOf_alike hZ.alike Ar49.2.1) Ar49.2.2 hin49 hat49 (g := (mkF m 54 #[.val (.ref a1), .val (.ref a2), .val (.ref a3), .val (.int p4), .val (.int (f3 c2)), .val (.int (3 : Int32))] [(.int (3 : Int32)), (.ref a3)])) rfl rfl (hb hby d1_54) _ ?_
                show Steps p.tables e below (T44.setTop (mkF m 55 #[.val (.ref a1), .val (.ref a2), .val (.ref a3), .val (.int p4), .val (.int (f3 c2)), .val (.int (3 : Int32))] [(.int c3)])) _
                refine st50 _ ?_
                show Steps p.tables e below (T50.setTop (mkF m 58 #[.val (.ref a1), .val (.ref a2), .val (.ref a3), .val (.int p4), .val (.int (f3 c2)), .val (.int (3 : Int32))] [(.int (f3 c3))])) _
                refine own_blk X50 hx bl1_58_1 (own_hb hby bd1_58_1) (pc' := 60) (Ls' := #[.val (.ref a1), .val (.ref a2), .val (.ref a3), .val (.int p4), .val (.int (f3 c3)), .val (.int (3 : Int32))]) (st' := []) rfl ?_
                refine own_blk X50 hx bl1_60_1 (own_hb hby bd1_60_1) (pc' := 63) (Ls' := #[.val (.ref a1), .val (.ref a2), .val (.ref a3), .val (.int p4), .val (.int (f3 c3)), .val (.int (4 : Int32))]) (st' := []) rfl ?_
                refine own_blk X50 hx bl1_63_3 (own_hb hby bd1_63_3) (pc' := 43) (Ls' := #[.val (.ref a1), .val (.ref a2), .val (.ref a3), .val (.int p4), .val (.int (f3 c3)), .val (.int (4 : Int32))]) (st' := [(.int p4), (.int (4 : Int32))]) rfl ?_
                refine XS.icmpYes X50.here hx rfl (pc0 := 43) (pc' := 66) rfl (hb hby d1_43) rfl (flt hn4).2.1 (by decide) (by decide) ?_
                show Steps p.tables e below (T50.setTop (mkF m 66 #[.val (.ref a1), .val (.ref a2), .val (.ref a3), .val (.int p4), .val (.int (f3 c3)), .val (.int (4 : Int32))] [])) _
                refine own_blk X50 hx bl1_66_2 (own_hb hby bd1_66_2) (pc' := 69) (Ls' := #[.val (.ref a1), .val (.ref a2), .val (.ref a3), .val (.int p4), .val (.int (f3 c3)), .val (.int (4 : Int32))]) (st' := [(.int (f3 c3)), (.ref a1)]) rfl ?_
                refine st53 _ ?_
                show Steps p.tables e below (T53.setTop (mkF m 72 #[.val (.ref a1), .val (.ref a2), .val (.ref a3), .val (.int p4), .val (.int (f3 c3)), .val (.int (4 : Int32))] [])) _
                refine own_blk X53 hx bl1_72_1 (own_hb hby bd1_72_1) (pc' := 73) (Ls' := #[.val (.ref a1), .val (.ref a2), .val (.ref a3), .val (.int p4), .val (.int (f3 c3)), .val (.int (4 : Int32))]) (st' := [(.int p4)]) rfl ?_
                refine XS.ifNo X53.here hx rfl (hb hby d1_73) rfl ((if0 _ _).trans (tlt hz).2.2.2) ?_
                show Steps p.tables e below (T53.setTop (mkF m 76 #[.val (.ref a1), .val (.ref a2), .val (.ref a3), .val (.int p4), .val (.int (f3 c3)), .val (.int (4 : Int32))] [])) _
                refine own_blk X53 hx bl1_76_2 (own_hb hby bd1_76_2) (pc' := 78) (Ls' := #[.val (.ref a1), .val (.ref a2), .val (.ref a3), .val (.int p4), .val (.int (f3 c3)), .val (.int (4 : Int32))]) (st' := [(.int (0 : Int32)), (.ref a3)]) rfl ?_
                refine X53.caload hx (j := (0 : Int32)) (v := (.int c0)) (by rw [e53]; exact Ar57.1) (State.isArrayOf_alike hZ.alike Ar57.2.1) Ar57.2.2 hin57 hat57 (g := (mkF m 78 #[.val (.ref a1), .val (.ref a2), .val (.ref a3), .val (.int p4), .val (.int (f3 c3)), .val (.int (4 : Int32))] [(.int (0 : Int32)), (.ref a3)])) rfl rfl (hb hby d1_78) _ ?_
                show Steps p.tables e below (T53.setTop (mkF m 79 #[.val (.ref a1), .val (.ref a2), .val (.ref a3), .val (.int p4), .val (.int (f3 c3)), .val (.int (4 : Int32))] [(.int c0)])) _
                refine X53.ldcInt hx hown (mvT hZ (hw _ (List.mem_of_getElem? (i := 37) rfl))) (g := (mkF m 79 #[.val (.ref a1), .val (.ref a2), .val (.ref a3), .val (.int p4), .val (.int (f3 c3)), .val (.int (4 : Int32))] [(.int c0)])) rfl (hb hby d1_79) _ ?_
                show Steps p.tables e below (T53.setTop (mkF m 81 #[.val (.ref a1), .val (.ref a2), .val (.ref a3), .val (.int p4), .val (.int (f3 c3)), .val (.int (4 : Int32))] [(.int (65279 : Int32)), (.int c0)])) _
                refine XS.icmpNo X53.here hx rfl (hb hby d1_81) rfl (teq hbm).2 ?_
                show Steps p.tables e below (T53.setTop (mkF m 84 #[.val (.ref a1), .val (.ref a2), .val (.ref a3), .val (.int p4), .val (.int (f3 c3)), .val (.int (4 : Int32))] [])) _
                refine own_blk X53 hx bl1_84_2 (own_hb hby bd1_84_2) (pc' := 86) (Ls' := #[.val (.ref a1), .val (.ref a2), .val (.ref a3), .val (.int p4), .val (.int (f3 c3)), .val (.int (4 : Int32))]) (st' := [(.int (1 : Int32)), (.ref a1)]) rfl ?_
                refine st60 _ ?_
                show Steps p.tables e below (T60.setTop (mkF m 89 #[.val (.ref a1), .val (.ref a2), .val (.ref a3), .val (.int p4), .val (.int (f3 c3)), .val (.int (4 : Int32))] [])) _
                refine own_blk X60 hx bl1_89_2 (own_hb hby bd1_89_2) (pc' := 91) (Ls' := #[.val (.ref a1), .val (.ref a2), .val (.ref a3), .val (.int p4), .val (.int (f3 c3)), .val (.int (4 : Int32))]) (st' := [(.int (1 : Int32)), (.ref a1)]) rfl ?_
                refine st65 _ ?_
                show Steps p.tables e below (T65.setTop (mkF m 94 #[.val (.ref a1), .val (.ref a2), .val (.ref a3), .val (.int p4), .val (.int (f3 c3)), .val (.int (4 : Int32))] [])) _
                exact X65.returnOut hx Bd.returns (hb hby d1_94) hr
              · show Q1b Z a1 a2 a3 p4 c0 c1 c2 c3 k_a3 h0 n0 _ T65.heap _
                rw [e65]
                have fa68 : Exa Z h65 a1 "com/example/endcon/endcon/yaml/Cursor" := (fa64.wr W65)
                have fa69 : Fld Z h65 a1 "com/example/endcon/endcon/yaml/Cursor" "line" "I" (.int (1 : Int32)) := ((((((((Fw2.other W7 (Or.inr (slot_ne (Or.inl (hw _ (List.mem_of_getElem? (i := 19) rfl))) (Or.inl (hw _ (List.mem_of_getElem? (i := 21) rfl))) (by decide) (t := .int) (t' := .int) (by decide) (by decide)))).other W12 (Or.inr (slot_ne (Or.inl (hw _ (List.mem_of_getElem? (i := 19) rfl))) (Or.inl (hw _ (List.mem_of_getElem? (i := 23) rfl))) (by decide) (t := .int) (t' := .int) (by decide) (by decide)))).other W17 (Or.inr (slot_ne (Or.inl (hw _ (List.mem_of_getElem? (i := 19) rfl))) (Or.inr (hw _ (List.mem_of_getElem? (i := 25) rfl))) (by decide) (t := .int) (t' := (.object "java/lang/String")) (by decide) (by decide)))).other W22 (Or.inr (slot_ne (Or.inl (hw _ (List.mem_of_getElem? (i := 19) rfl))) (Or.inl (hw _ (List.mem_of_getElem? (i := 27) rfl))) (by decide) (t := .int) (t' := (.array .char)) (by decide) (by decide)))).other W27 (Or.inr (slot_ne (Or.inl (hw _ (List.mem_of_getElem? (i := 19) rfl))) (Or.inr (hw _ (List.mem_of_getElem? (i := 29) rfl))) (by decide) (t := .int) (t' := .int) (by decide) (by decide)))).other W53 (Or.inr (slot_ne (Or.inl (hw _ (List.mem_of_getElem? (i := 19) rfl))) (Or.inr (hw _ (List.mem_of_getElem? (i := 36) rfl))) (by decide) (t := .int) (t' := .boolean) (by decide) (by decide)))).other W60 (Or.inr (slot_ne (Or.inl (hw _ (List.mem_of_getElem? (i := 19) rfl))) (Or.inl (hw _ (List.mem_of_getElem? (i := 45) rfl))) (by decide) (t := .int) (t' := .int) (by decide) (by decide)))).other W65 (Or.inr (slot_ne (Or.inl (hw _ (List.mem_of_getElem? (i := 19) rfl))) (Or.inl (hw _ (List.mem_of_getElem? (i := 52) rfl))) (by decide) (t := .int) (t' := .int) (by decide) (by decide))))
                have lf70 := fa69
                have fa71 : Fld Z h65 a1 "com/example/endcon/endcon/yaml/Cursor" "blankLinesFrom" "I" (.int (-1 : Int32)) := (((((((Fw7.other W12 (Or.inr (slot_ne (Or.inl (hw _ (List.mem_of_getElem? (i := 21) rfl))) (Or.inl (hw _ (List.mem_of_getElem? (i := 23) rfl))) (by decide) (t := .int) (t' := .int) (by decide) (by decide)))).other W17 (Or.inr (slot_ne (Or.inl (hw _ (List.mem_of_getElem? (i := 21) rfl))) (Or.inr (hw _ (List.mem_of_getElem? (i := 25) rfl))) (by decide) (t := .int) (t' := (.object "java/lang/String")) (by decide) (by decide)))).other W22 (Or.inr (slot_ne (Or.inl (hw _ (List.mem_of_getElem? (i := 21) rfl))) (Or.inl (hw _ (List.mem_of_getElem? (i := 27) rfl))) (by decide) (t := .int) (t' := (.array .char)) (by decide) (by decide)))).other W27 (Or.inr (slot_ne (Or.inl (hw _ (List.mem_of_getElem? (i := 21) rfl))) (Or.inr (hw _ (List.mem_of_getElem? (i := 29) rfl))) (by decide) (t := .int) (t' := .int) (by decide) (by decide)))).other W53 (Or.inr (slot_ne (Or.inl (hw _ (List.mem_of_getElem? (i := 21) rfl))) (Or.inr (hw _ (List.mem_of_getElem? (i := 36) rfl))) (by decide) (t := .int) (t' := .boolean) (by decide) (by decide)))).other W60 (Or.inr (slot_ne (Or.inl (hw _ (List.mem_of_getElem? (i := 21) rfl))) (Or.inl (hw _ (List.mem_of_getElem? (i := 45) rfl))) (by decide) (t := .int) (t' := .int) (by decide) (by decide)))).other W65 (Or.inr (slot_ne (Or.inl (hw _ (List.mem_of_getElem? (i := 21) rfl))) (Or.inl (hw _ (List.mem_of_getElem? (i := 52) rfl))) (by decide) (t := .int) (t' := .int) (by decide) (by decide))))
                have lf72 := fa71
                have fa73 : Fld Z h65 a1 "com/example/endcon/endcon/yaml/Cursor" "countedIndex" "I" (.int (-1 : Int32)) := ((((((Fw12.other W17 (Or.inr (slot_ne (Or.inl (hw _ (List.mem_of_getElem? (i := 23) rfl))) (Or.inr (hw _ (List.mem_of_getElem? (i := 25) rfl))) (by decide) (t := .int) (t' := (.object "java/lang/String")) (by decide) (by decide)))).other W22 (Or.inr (slot_ne (Or.inl (hw _ (List.mem_of_getElem? (i := 23) rfl))) (Or.inl (hw _ (List.mem_of_getElem? (i := 27) rfl))) (by decide) (t := .int) (t' := (.array .char)) (by decide) (by decide)))).other W27 (Or.inr (slot_ne (Or.inl (hw _ (List.mem_of_getElem? (i := 23) rfl))) (Or.inr (hw _ (List.mem_of_getElem? (i := 29) rfl))) (by decide) (t := .int) (t' := .int) (by decide) (by decide)))).other W53 (Or.inr (slot_ne (Or.inl (hw _ (List.mem_of_getElem? (i := 23) rfl))) (Or.inr (hw _ (List.mem_of_getElem? (i := 36) rfl))) (by decide) (t := .int) (t' := .boolean) (by decide) (by decide)))).other W60 (Or.inr (slot_ne (Or.inl (hw _ (List.mem_of_getElem? (i := 23) rfl))) (Or.inl (hw _ (List.mem_of_getElem? (i := 45) rfl))) (by decide) (t := .int) (t' := .int) (by decide) (by decide)))).other W65 (Or.inr (slot_ne (Or.inl (hw _ (List.mem_of_getElem? (i := 23) rfl))) (Or.inl (hw _ (List.mem_of_getElem? (i := 52) rfl))) (by decide) (t := .int) (t' := .int) (by decide) (by decide))))
                have lf74 := fa73
                have fa75 : Fld Z h65 a1 "com/example/endcon/endcon/yaml/Cursor" "file" "Ljava/lang/String;" (.ref a2) := (((((Fw17.other W22 (Or.inr (slot_ne (Or.inr (hw _ (List.mem_of_getElem? (i := 25) rfl))) (Or.inl (hw _ (List.mem_of_getElem? (i := 27) rfl))) (by decide) (t := (.object "java/lang/String")) (t' := (.array .char)) (by decide) (by decide)))).other W27 (Or.inr (slot_ne (Or.inr (hw _ (List.mem_of_getElem? (i := 25) rfl))) (Or.inr (hw _ (List.mem_of_getElem? (i := 29) rfl))) (by decide) (t := (.object "java/lang/String")) (t' := .int) (by decide) (by decide)))).other W53 (Or.inr (slot_ne (Or.inr (hw _ (List.mem_of_getElem? (i := 25) rfl))) (Or.inr (hw _ (List.mem_of_getElem? (i := 36) rfl))) (by decide) (t := (.object "java/lang/String")) (t' := .boolean) (by decide) (by decide)))).other W60 (Or.inr (slot_ne (Or.inr (hw _ (List.mem_of_getElem? (i := 25) rfl))) (Or.inl (hw _ (List.mem_of_getElem? (i := 45) rfl))) (by decide) (t := (.object "java/lang/String")) (t' := .int) (by decide) (by decide)))).other W65 (Or.inr (slot_ne (Or.inr (hw _ (List.mem_of_getElem? (i := 25) rfl))) (Or.inl (hw _ (List.mem_of_getElem? (i := 52) rfl))) (by decide) (t := (.object "java/lang/String")) (t' := .int) (by decide) (by decide))))
                have lf76 := fa75
                have fa77 : Fld Z h65 a1 "com/example/endcon/endcon/yaml/Cursor" "text" "[C" (.ref a3) := ((((Fw22.other W27 (Or.inr (slot_ne (Or.inl (hw _ (List.mem_of_getElem? (i := 27) rfl))) (Or.inr (hw _ (List.mem_of_getElem? (i := 29) rfl))) (by decide) (t := (.array .char)) (t' := .int) (by decide) (by decide)))).other W53 (Or.inr (slot_ne (Or.inl (hw _ (List.mem_of_getElem? (i := 27) rfl))) (Or.inr (hw _ (List.mem_of_getElem? (i := 36) rfl))) (by decide) (t := (.array .char)) (t' := .boolean) (by decide) (by decide)))).other W60 (Or.inr (slot_ne (Or.inl (hw _ (List.mem_of_getElem? (i := 27) rfl))) (Or.inl (hw _ (List.mem_of_getElem? (i := 45) rfl))) (by decide) (t := (.array .char)) (t' := .int) (by decide) (by decide)))).other W65 (Or.inr (slot_ne (Or.inl (hw _ (List.mem_of_getElem? (i := 27) rfl))) (Or.inl (hw _ (List.mem_of_getElem? (i := 52) rfl))) (by decide) (t := (.array .char)) (t' := .int) (by decide) (by decide))))
                have lf78 := fa77
                have fa79 : Fld Z h65 a1 "com/example/endcon/endcon/yaml/Cursor" "end" "I" (.int p4) := (((Fw27.other W53 (Or.inr (slot_ne (Or.inr (hw _ (List.mem_of_getElem? (i := 29) rfl))) (Or.inr (hw _ (List.mem_of_getElem? (i := 36) rfl))) (by decide) (t := .int) (t' := .boolean) (by decide) (by decide)))).other W60 (Or.inr (slot_ne (Or.inr (hw _ (List.mem_of_getElem? (i := 29) rfl))) (Or.inl (hw _ (List.mem_of_getElem? (i := 45) rfl))) (by decide) (t := .int) (t' := .int) (by decide) (by decide)))).other W65 (Or.inr (slot_ne (Or.inr (hw _ (List.mem_of_getElem? (i := 29) rfl))) (Or.inl (hw _ (List.mem_of_getElem? (i := 52) rfl))) (by decide) (t := .int) (t' := .int) (by decide) (by decide))))
                have lf80 := fa79
                have fa81 : Fld Z h65 a1 "com/example/endcon/endcon/yaml/Cursor" "hasSurrogates" "Z" (.int (nar .boolean (f3 c3))) := ((Fw53.other W60 (Or.inr (slot_ne (Or.inr (hw _ (List.mem_of_getElem? (i := 36) rfl))) (Or.inl (hw _ (List.mem_of_getElem? (i := 45) rfl))) (by decide) (t := .boolean) (t' := .int) (by decide) (by decide)))).other W65 (Or.inr (slot_ne (Or.inr (hw _ (List.mem_of_getElem? (i := 36) rfl))) (Or.inl (hw _ (List.mem_of_getElem? (i := 52) rfl))) (by decide) (t := .boolean) (t' := .int) (by decide) (by decide))))
                have lf82 : Fld Z h65 a1 "com/example/endcon/endcon/yaml/Cursor" "hasSurrogates" "Z" (.int (f1b_a1_hasSurrogates p4 c0 c1 c2 c3)) := by rw [f1b_a1_hasSurrogates, if_pos hc34, if_pos hc36, if_pos hc40, if_pos hc42, if_pos hc46, if_pos hc48]; exact fa81
                have fa83 : Fld Z h65 a1 "com/example/endcon/endcon/yaml/Cursor" "pos" "I" (.int (1 : Int32)) := (Fw60.other W65 (Or.inr (slot_ne (Or.inl (hw _ (List.mem_of_getElem? (i := 45) rfl))) (Or.inl (hw _ (List.mem_of_getElem? (i := 52) rfl))) (by decide) (t := .int) (t' := .int) (by decide) (by decide))))
                have lf84 := fa83
                have lf85 := Fw65
                exact ⟨rfl, N65, kp67, fa68, lf70, lf72, lf74, lf76, lf78, lf80, lf82, lf84, lf85⟩
            · have fa86 : Fld Z h27 a1 "com/example/endcon/endcon/yaml/Cursor" "hasSurrogates" "Z" (.int (0 : Int32)) := ((((((F_a1_hasSurrogates.other W2 (Or.inr (slot_ne (Or.inr (hw _ (List.mem_of_getElem? (i := 36) rfl))) (Or.inl (hw _ (List.mem_of_getElem? (i := 19) rfl))) (by decide) (t := .boolean) (t' := .int) (by decide) (by decide)))).other W7 (Or.inr (slot_ne (Or.inr (hw _ (List.mem_of_getElem? (i := 36) rfl))) (Or.inl (hw _ (List.mem_of_getElem? (i := 21) rfl))) (by decide) (t := .boolean) (t' := .int) (by decide) (by decide)))).other W12 (Or.inr (slot_ne (Or.inr (hw _ (List.mem_of_getElem? (i := 36) rfl))) (Or.inl (hw _ (List.mem_of_getElem? (i := 23) rfl))) (by decide) (t := .boolean) (t' := .int) (by decide) (by decide)))).other W17 (Or.inr (slot_ne (Or.inr (hw _ (List.mem_of_getElem? (i := 36) rfl))) (Or.inr (hw _ (List.mem_of_getElem? (i := 25) rfl))) (by decide) (t := .boolean) (t' := (.object "java/lang/String")) (by decide) (by decide)))).other W22 (Or.inr (slot_ne (Or.inr (hw _ (List.mem_of_getElem? (i := 36) rfl))) (Or.inl (hw _ (List.mem_of_getElem? (i := 27) rfl))) (by decide) (t := .boolean) (t' := (.array .char)) (by decide) (by decide)))).other W27 (Or.inr (slot_ne (Or.inr (hw _ (List.mem_of_getElem? (i := 36) rfl))) (Or.inr (hw _ (List.mem_of_getElem? (i := 29) rfl))) (by decide) (t := .boolean) (t' := .int) (by decide) (by decide))))
              have fa87 : Exa Z h27 a1 "com/example/endcon/endcon/yaml/Cursor" := (fa26.wr W27)
              obtain ⟨T88, h88, X88, e88, W88, st88⟩ := putFN X44 hx hZ hown (hw _ (List.mem_of_getElem? (i := 35) rfl)) Via.refl e44 fa86 fa87 (Or.inr ⟨(hw _ (List.mem_of_getElem? (i := 36) rfl)), rfl, hnm⟩) (hw _ (List.mem_of_getElem? (i := 2) rfl)) (ty := .boolean) (v' := (.int (nar .boolean (f3 c2)))) (by decide) rfl (fits_nar_bool _) (g := (mkF m 69 #[.val (.ref a1), .val (.ref a2), .val (.ref a3), .val (.int p4), .val (.int (f3 c2)), .val (.int (3 : Int32))] [(.int (f3 c2)), (.ref a1)])) rfl rfl (hb hby d1_69)
              have Fw88 : Fld Z h88 a1 "com/example/endcon/endcon/yaml/Cursor" "hasSurrogates" "Z" (.int (nar .boolean (f3 c2))) := fa86.same W88
              have zs89 : n0 ≤ h88.size := Nat.le_trans zs28 (Keep.of_wr W88).1
              have kp90 : Keep h0 h88 [a1] := kp29.wr W88 (Or.inl (List.mem_of_getElem? (i := 0) rfl))
              have N88 := Fr.snoc X88 N44 g_a1
              have fa91 : Arv Z h88 a3 k_a3 .char (4 : Int32) [(.int c0), (.int c1), (.int c2), (.int c3)] (.int (0 : Int32)) := (fa30.other W88 (Ne.symm ne_a1_a3))
              obtain ⟨cx92, Ar92, qq92, S92, N92_, H92, G92⟩ := id fa91
              have hin92 : ¬ ((0 : Int32) < 0 ∨ cx92.slots.size ≤ ((0 : Int32)).toNatClampNeg) := inb_of S92 ⟨by decide, by decide⟩
              have hat92 : cx92.slots[((0 : Int32)).toNatClampNeg]? = some (.int c0) := (H92 ((0 : Int32)).toNatClampNeg (Nat.lt_of_not_le fun w => hin92 (Or.inr w))).trans (congrArg some (rfl))
              have fa93 : Fld Z h88 a1 "com/example/endcon/endcon/yaml/Cursor" "pos" "I" (.int (0 : Int32)) := (((((((F_a1_pos.other W2 (Or.inr (slot_ne (Or.inl (hw _ (List.mem_of_getElem? (i := 45) rfl))) (Or.inl (hw _ (List.mem_of_getElem? (i := 19) rfl))) (by decide) (t := .int) (t' := .int) (by decide) (by decide)))).other W7 (Or.inr (slot_ne (Or.inl (hw _ (List.mem_of_getElem? (i := 45) rfl))) (Or.inl (hw _ (List.mem_of_getElem? (i := 21) rfl))) (by decide) (t := .int) (t' := .int) (by decide) (by decide)))).other W12 (Or.inr (slot_ne (Or.inl (hw _ (List.mem_of_getElem? (i := 45) rfl))) (Or.inl (hw _ (List.mem_of_getElem? (i := 23) rfl))) (by decide) (t := .int) (t' := .int) (by decide) (by decide)))).other W17 (Or.inr (slot_ne (Or.inl (hw _ (List.mem_of_getElem? (i := 45) rfl))) (Or.inr (hw _ (List.mem_of_getElem? (i := 25) rfl))) (by decide) (t := .int) (t' := (.object "java/lang/String")) (by decide) (by decide)))).other W22 (Or.inr (slot_ne (Or.inl (hw _ (List.mem_of_getElem? (i := 45) rfl))) (Or.inl (hw _ (List.mem_of_getElem? (i := 27) rfl))) (by decide) (t := .int) (t' := (.array .char)) (by decide) (by decide)))).other W27 (Or.inr (slot_ne (Or.inl (hw _ (List.mem_of_getElem? (i := 45) rfl))) (Or.inr (hw _ (List.mem_of_getElem? (i := 29) rfl))) (by decide) (t := .int) (t' := .int) (by decide) (by decide)))).other W88 (Or.inr (slot_ne (Or.inl (hw _ (List.mem_of_getElem? (i := 45) rfl))) (Or.inr (hw _ (List.mem_of_getElem? (i := 36) rfl))) (by decide) (t := .int) (t' := .boolean) (by decide) (by decide))))
              have fa94 : Exa Z h88 a1 "com/example/endcon/endcon/yaml/Cursor" := (fa87.wr W88)
              obtain ⟨T95, h95, X95, e95, W95, st95⟩ := putF X88 hx hZ hown (host := "") (Or.inl (hw _ (List.mem_of_getElem? (i := 44) rfl))) Via.refl e88 fa93 fa94 (Or.inl (hw _ (List.mem_of_getElem? (i := 45) rfl))) (hw _ (List.mem_of_getElem? (i := 2) rfl)) (ty := .int) (by decide) rfl rfl (g := (mkF m 86 #[.val (.ref a1), .val (.ref a2), .val (.ref a3), .val (.int p4), .val (.int (f3 c2)), .val (.int (3 : Int32))] [(.int (1 : Int32)), (.ref a1)])) rfl rfl (hb hby d1_86)
              have Fw95 : Fld Z h95 a1 "com/example/endcon/endcon/yaml/Cursor" "pos" "I" (.int (1 : Int32)) := fa93.same W95
              have zs96 : n0 ≤ h95.size := Nat.le_trans zs89 (Keep.of_wr W95).1
              have kp97 : Keep h0 h95 [a1] := kp90.wr W95 (Or.inl (List.mem_of_getElem? (i := 0) rfl))
              have N95 := Fr.snoc X95 N88 g_a1
              have fa98 : Fld Z h95 a1 "com/example/endcon/endcon/yaml/Cursor" "lineStart" "I" (.int (0 : Int32)) := ((((((((F_a1_lineStart.other W2 (Or.inr (slot_ne (Or.inl (hw _ (List.mem_of_getElem? (i := 52) rfl))) (Or.inl (hw _ (List.mem_of_getElem? (i := 19) rfl))) (by decide) (t := .int) (t' := .int) (by decide) (by decide)))).other W7 (Or.inr (slot_ne (Or.inl (hw _ (List.mem_of_getElem? (i := 52) rfl))) (Or.inl (hw _ (List.mem_of_getElem? (i := 21) rfl))) (by decide) (t := .int) (t' := .int) (by decide) (by decide)))).other W12 (Or.inr (slot_ne (Or.inl (hw _ (List.mem_of_getElem? (i := 52) rfl))) (Or.inl (hw _ (List.mem_of_getElem? (i := 23) rfl))) (by decide) (t := .int) (t' := .int) (by decide) (by decide)))).other W17 (Or.inr (slot_ne (Or.inl (hw _ (List.mem_of_getElem? (i := 52) rfl))) (Or.inr (hw _ (List.mem_of_getElem? (i := 25) rfl))) (by decide) (t := .int) (t' := (.object "java/lang/String")) (by decide) (by decide)))).other W22 (Or.inr (slot_ne (Or.inl (hw _ (List.mem_of_getElem? (i := 52) rfl))) (Or.inl (hw _ (List.mem_of_getElem? (i := 27) rfl))) (by decide) (t := .int) (t' := (.array .char)) (by decide) (by decide)))).other W27 (Or.inr (slot_ne (Or.inl (hw _ (List.mem_of_getElem? (i := 52) rfl))) (Or.inr (hw _ (List.mem_of_getElem? (i := 29) rfl))) (by decide) (t := .int) (t' := .int) (by decide) (by decide)))).other W88 (Or.inr (slot_ne (Or.inl (hw _ (List.mem_of_getElem? (i := 52) rfl))) (Or.inr (hw _ (List.mem_of_getElem? (i := 36) rfl))) (by decide) (t := .int) (t' := .boolean) (by decide) (by decide)))).other W95 (Or.inr (slot_ne (Or.inl (hw _ (List.mem_of_getElem? (i := 52) rfl))) (Or.inl (hw _ (List.mem_of_getElem? (i := 45) rfl))) (by decide) (t := .int) (t' := .int) (by decide) (by decide))))
              have fa99 : Exa Z h95 a1 "com/example/endcon/endcon/yaml/Cursor" := (fa94.wr W95)
              obtain ⟨T100, h100, X100, e100, W100, st100⟩ := putF X95 hx hZ hown (host := "") (Or.inl (hw _ (List.mem_of_getElem? (i := 51) rfl))) Via.refl e95 fa98 fa99 (Or.inl (hw _ (List.mem_of_getElem? (i := 52) rfl))) (hw _ (List.mem_of_getElem? (i := 2) rfl)) (ty := .int) (by decide) rfl rfl (g := (mkF m 91 #[.val (.ref a1), .val (.ref a2), .val (.ref a3), .val (.int p4), .val (.int (f3 c2)), .val (.int (3 : Int32))] [(.int (1 : Int32)), (.ref a1)])) rfl rfl (hb hby d1_91)
              have Fw100 : Fld Z h100 a1 "com/example/endcon/endcon/yaml/Cursor" "lineStart" "I" (.int (1 : Int32)) := fa98.same W100
              have zs101 : n0 ≤ h100.size := Nat.le_trans zs96 (Keep.of_wr W100).1
              have kp102 : Keep h0 h100 [a1] := kp97.wr W100 (Or.inl (List.mem_of_getElem? (i := 0) rfl))
              have N100 := Fr.snoc X100 N95 g_a1
              obtain ⟨fs, hr, hrun, hended, hW, hsame⟩ := X100.leave (v := none) (fun _ => rfl)
              refine ⟨_, _, pre47 _ ?_, hrun, hended, _, _, rfl, ?_, ⟨_, rfl⟩, hW, hsame.mono (by decide) (by decide)⟩
              · show Steps p.tables e below (T44.setTop (mkF m 48 #[.val (.ref a1), .val (.ref a2), .val (.ref a3), .val (.int p4), .val (.int (f3 c2)), .val (.int (3 : Int32))] [(.int (f3 c2))])) _
                refine XS.ifYes X44.here hx rfl (pc0 := 48) (pc' := 66) rfl (hb hby d1_48) rfl ((if0 _ _).trans (feq hc48).2) (by decide) (by decide) ?_
                show Steps p.tables e below (T44.setTop (mkF m 66 #[.val (.ref a1), .val (.ref a2), .val (.ref a3), .val (.int p4), .val (.int (f3 c2)), .val (.int (3 : Int32))] [])) _
                refine own_blk X44 hx bl1_66_2 (own_hb hby bd1_66_2) (pc' := 69) (Ls' := #[.val (.ref a1), .val (.ref a2), .val (.ref a3), .val (.int p4), .val (.int (f3 c2)), .val (.int (3 : Int32))]) (st' := [(.int (f3 c2)), (.ref a1)]) rfl ?_
                refine st88 _ ?_
                show Steps p.tables e below (T88.setTop (mkF m 72 #[.val (.ref a1), .val (.ref a2), .val (.ref a3), .val (.int p4), .val (.int (f3 c2)), .val (.int (3 : Int32))] [])) _
                refine own_blk X88 hx bl1_72_1 (own_hb hby bd1_72_1) (pc' := 73) (Ls' := #[.val (.ref a1), .val (.ref a2), .val (.ref a3), .val (.int p4), .val (.int (f3 c2)), .val (.int (3 : Int32))]) (st' := [(.int p4)]) rfl ?_
                refine XS.ifNo X88.here hx rfl (hb hby d1_73) rfl ((if0 _ _).trans (tlt hz).2.2.2) ?_
                show Steps p.tables e below (T88.setTop (mkF m 76 #[.val (.ref a1), .val (.ref a2), .val (.ref a3), .val (.int p4), .val (.int (f3 c2)), .val (.int (3 : Int32))] [])) _
                refine own_blk X88 hx bl1_76_2 (own_hb hby bd1_76_2) (pc' := 78) (Ls' := #[.val (.ref a1), .val (.ref a2), .val (.ref a3), .val (.int p4), .val (.int (f3 c2)), .val (.int (3 : Int32))]) (st' := [(.int (0 : Int32)), (.ref a3)]) rfl ?_
                refine X88.caload hx (j := (0 : Int32)) (v := (.int c0)) (by rw [e88]; exact Ar92.1) (State.isArrayOf_alike hZ.alike Ar92.2.1) Ar92.2.2 hin92 hat92 (g := (mkF m 78 #[.val (.ref a1), .val (.ref a2), .val (.ref a3), .val (.int p4), .val (.int (f3 c2)), .val (.int (3 : Int32))] [(.int (0 : Int32)), (.ref a3)])) rfl rfl (hb hby d1_78) _ ?_
                show Steps p.tables e below (T88.setTop (mkF m 79 #[.val (.ref a1), .val (.ref a2), .val (.ref a3), .val (.int p4), .val (.int (f3 c2)), .val (.int (3 : Int32))] [(.int c0)])) _
                refine X88.ldcInt hx hown (mvT hZ (hw _ (List.mem_of_getElem? (i := 37) rfl))) (g := (mkF m 79 #[.val (.ref a1), .val (.ref a2), .val (.ref a3), .val (.int p4), .val (.int (f3 c2)), .val (.int (3 : Int32))] [(.int c0)])) rfl (hb hby d1_79) _ ?_
                show Steps p.tables e below (T88.setTop (mkF m 81 #[.val (.ref a1), .val (.ref a2), .val (.ref a3), .val (.int p4), .val (.int (f3 c2)), .val (.int (3 : Int32))] [(.int (65279 : Int32)), (.int c0)])) _
                refine XS.icmpNo X88.here hx rfl (hb hby d1_81) rfl (teq hbm).2 ?_
                show Steps p.tables e below (T88.setTop (mkF m 84 #[.val (.ref a1), .val (.ref a2), .val (.ref a3), .val (.int p4), .val (.int (f3 c2)), .val (.int (3 : Int32))] [])) _
                refine own_blk X88 hx bl1_84_2 (own_hb hby bd1_84_2) (pc' := 86) (Ls' := #[.val (.ref a1), .val (.ref a2), .val (.ref a3), .val (.int p4), .val (.int (f3 c2)), .val (.int (3 : Int32))]) (st' := [(.int (1 : Int32)), (.ref a1)]) rfl ?_
                refine st95 _ ?_
                show Steps p.tables e below (T95.setTop (mkF m 89 #[.val (.ref a1), .val (.ref a2), .val (.ref a3), .val (.int p4), .val (.int (f3 c2)), .val (.int (3 : Int32))] [])) _
                refine own_blk X95 hx bl1_89_2 (own_hb hby bd1_89_2) (pc' := 91) (Ls' := #[.val (.ref a1), .val (.ref a2), .val (.ref a3), .val (.int p4), .val (.int (f3 c2)), .val (.int (3 : Int32))]) (st' := [(.int (1 : Int32)), (.ref a1)]) rfl ?_
                refine st100 _ ?_
                show Steps p.tables e below (T100.setTop (mkF m 94 #[.val (.ref a1), .val (.ref a2), .val (.ref a3), .val (.int p4), .val (.int (f3 c2)), .val (.int (3 : Int32))] [])) _
                exact X100.returnOut hx Bd.returns (hb hby d1_94) hr
              · show Q1b Z a1 a2 a3 p4 c0 c1 c2 c3 k_a3 h0 n0 _ T100.heap _
                rw [e100]
                have fa103 : Exa Z h100 a1 "com/example/endcon/endcon/yaml/Cursor" := (fa99.wr W100)
                have fa104 : Fld Z h100 a1 "com/example/endcon/endcon/yaml/Cursor" "line" "I" (.int (1 : Int32)) := ((((((((Fw2.other W7 (Or.inr (slot_ne (Or.inl (hw _ (List.mem_of_getElem? (i := 19) rfl))) (Or.inl (hw _ (List.mem_of_getElem? (i := 21) rfl))) (by decide) (t := .int) (t' := .int) (by decide) (by decide)))).other W12 (Or.inr (slot_ne (Or.inl (hw _ (List.mem_of_getElem? (i := 19) rfl))) (Or.inl (hw _ (List.mem_of_getElem? (i := 23) rfl))) (by decide) (t := .int) (t' := .int) (by decide) (by decide)))).other W17 (Or.inr (slot_ne (Or.inl (hw _ (List.mem_of_getElem? (i := 19) rfl))) (Or.inr (hw _ (List.mem_of_getElem? (i := 25) rfl))) (by decide) (t := .int) (t' := (.object "java/lang/String")) (by decide) (by decide)))).other W22 (Or.inr (slot_ne (Or.inl (hw _ (List.mem_of_getElem? (i := 19) rfl))) (Or.inl (hw _ (List.mem_of_getElem? (i := 27) rfl))) (by decide) (t := .int) (t' := (.array .char)) (by decide) (by decide)))).other W27 (Or.inr (slot_ne (Or.inl (hw _ (List.mem_of_getElem? (i := 19) rfl))) (Or.inr (hw _ (List.mem_of_getElem? (i := 29) rfl))) (by decide) (t := .int) (t' := .int) (by decide) (by decide)))).other W88 (Or.inr (slot_ne (Or.inl (hw _ (List.mem_of_getElem? (i := 19) rfl))) (Or.inr (hw _ (List.mem_of_getElem? (i := 36) rfl))) (by decide) (t := .int) (t' := .boolean) (by decide) (by decide)))).other W95 (Or.inr (slot_ne (Or.inl (hw _ (List.mem_of_getElem? (i := 19) rfl))) (Or.inl (hw _ (List.mem_of_getElem? (i := 45) rfl))) (by decide) (t := .int) (t' := .int) (by decide) (by decide)))).other W100 (Or.inr (slot_ne (Or.inl (hw _ (List.mem_of_getElem? (i := 19) rfl))) (Or.inl (hw _ (List.mem_of_getElem? (i := 52) rfl))) (by decide) (t := .int) (t' := .int) (by decide) (by decide))))
                have lf105 := fa104
                have fa106 : Fld Z h100 a1 "com/example/endcon/endcon/yaml/Cursor" "blankLinesFrom" "I" (.int (-1 : Int32)) := (((((((Fw7.other W12 (Or.inr (slot_ne (Or.inl (hw _ (List.mem_of_getElem? (i := 21) rfl))) (Or.inl (hw _ (List.mem_of_getElem? (i := 23) rfl))) (by decide) (t := .int) (t' := .int) (by decide) (by decide)))).other W17 (Or.inr (slot_ne (Or.inl (hw _ (List.mem_of_getElem? (i := 21) rfl))) (Or.inr (hw _ (List.mem_of_getElem? (i := 25) rfl))) (by decide) (t := .int) (t' := (.object "java/lang/String")) (by decide) (by decide)))).other W22 (Or.inr (slot_ne (Or.inl (hw _ (List.mem_of_getElem? (i := 21) rfl))) (Or.inl (hw _ (List.mem_of_getElem? (i := 27) rfl))) (by decide) (t := .int) (t' := (.array .char)) (by decide) (by decide)))).other W27 (Or.inr (slot_ne (Or.inl (hw _ (List.mem_of_getElem? (i := 21) rfl))) (Or.inr (hw _ (List.mem_of_getElem? (i := 29) rfl))) (by decide) (t := .int) (t' := .int) (by decide) (by decide)))).other W88 (Or.inr (slot_ne (Or.inl (hw _ (List.mem_of_getElem? (i := 21) rfl))) (Or.inr (hw _ (List.mem_of_getElem? (i := 36) rfl))) (by decide) (t := .int) (t' := .boolean) (by decide) (by decide)))).other W95 (Or.inr (slot_ne (Or.inl (hw _ (List.mem_of_getElem? (i := 21) rfl))) (Or.inl (hw _ (List.mem_of_getElem? (i := 45) rfl))) (by decide) (t := .int) (t' := .int) (by decide) (by decide)))).other W100 (Or.inr (slot_ne (Or.inl (hw _ (List.mem_of_getElem? (i := 21) rfl))) (Or.inl (hw _ (List.mem_of_getElem? (i := 52) rfl))) (by decide) (t := .int) (t' := .int) (by decide) (by decide))))
                have lf107 := fa106
                have fa108 : Fld Z h100 a1 "com/example/endcon/endcon/yaml/Cursor" "countedIndex" "I" (.int (-1 : Int32)) := ((((((Fw12.other W17 (Or.inr (slot_ne (Or.inl (hw _ (List.mem_of_getElem? (i := 23) rfl))) (Or.inr (hw _ (List.mem_of_getElem? (i := 25) rfl))) (by decide) (t := .int) (t' := (.object "java/lang/String")) (by decide) (by decide)))).other W22 (Or.inr (slot_ne (Or.inl (hw _ (List.mem_of_getElem? (i := 23) rfl))) (Or.inl (hw _ (List.mem_of_getElem? (i := 27) rfl))) (by decide) (t := .int) (t' := (.array .char)) (by decide) (by decide)))).other W27 (Or.inr (slot_ne (Or.inl (hw _ (List.mem_of_getElem? (i := 23) rfl))) (Or.inr (hw _ (List.mem_of_getElem? (i := 29) rfl))) (by decide) (t := .int) (t' := .int) (by decide) (by decide)))).other W88 (Or.inr (slot_ne (Or.inl (hw _ (List.mem_of_getElem? (i := 23) rfl))) (Or.inr (hw _ (List.mem_of_getElem? (i := 36) rfl))) (by decide) (t := .int) (t' := .boolean) (by decide) (by decide)))).other W95 (Or.inr (slot_ne (Or.inl (hw _ (List.mem_of_getElem? (i := 23) rfl))) (Or.inl (hw _ (List.mem_of_getElem? (i := 45) rfl))) (by decide) (t := .int) (t' := .int) (by decide) (by decide)))).other W100 (Or.inr (slot_ne (Or.inl (hw _ (List.mem_of_getElem? (i := 23) rfl))) (Or.inl (hw _ (List.mem_of_getElem? (i := 52) rfl))) (by decide) (t := .int) (t' := .int) (by decide) (by decide))))
                have lf109 := fa108
                have fa110 : Fld Z h100 a1 "com/example/endcon/endcon/yaml/Cursor" "file" "Ljava/lang/String;" (.ref a2) := (((((Fw17.other W22 (Or.inr (slot_ne (Or.inr (hw _ (List.mem_of_getElem? (i := 25) rfl))) (Or.inl (hw _ (List.mem_of_getElem? (i := 27) rfl))) (by decide) (t := (.object "java/lang/String")) (t' := (.array .char)) (by decide) (by decide)))).other W27 (Or.inr (slot_ne (Or.inr (hw _ (List.mem_of_getElem? (i := 25) rfl))) (Or.inr (hw _ (List.mem_of_getElem? (i := 29) rfl))) (by decide) (t := (.object "java/lang/String")) (t' := .int) (by decide) (by decide)))).other W88 (Or.inr (slot_ne (Or.inr (hw _ (List.mem_of_getElem? (i := 25) rfl))) (Or.inr (hw _ (List.mem_of_getElem? (i := 36) rfl))) (by decide) (t := (.object "java/lang/String")) (t' := .boolean) (by decide) (by decide)))).other W95 (Or.inr (slot_ne (Or.inr (hw _ (List.mem_of_getElem? (i := 25) rfl))) (Or.inl (hw _ (List.mem_of_getElem? (i := 45) rfl))) (by decide) (t := (.object "java/lang/String")) (t' := .int) (by decide) (by decide)))).other W100 (Or.inr (slot_ne (Or.inr (hw _ (List.mem_of_getElem? (i := 25) rfl))) (Or.inl (hw _ (List.mem_of_getElem? (i := 52) rfl))) (by decide) (t := (.object "java/lang/String")) (t' := .int) (by decide) (by decide))))
                have lf111 := fa110
                have fa112 : Fld Z h100 a1 "com/example/endcon/endcon/yaml/Cursor" "text" "[C" (.ref a3) := ((((Fw22.other W27 (Or.inr (slot_ne (Or.inl (hw _ (List.mem_of_getElem? (i := 27) rfl))) (Or.inr (hw _ (List.mem_of_getElem? (i := 29) rfl))) (by decide) (t := (.array .char)) (t' := .int) (by decide) (by decide)))).other W88 (Or.inr (slot_ne (Or.inl (hw _ (List.mem_of_getElem? (i := 27) rfl))) (Or.inr (hw _ (List.mem_of_getElem? (i := 36) rfl))) (by decide) (t := (.array .char)) (t' := .boolean) (by decide) (by decide)))).other W95 (Or.inr (slot_ne (Or.inl (hw _ (List.mem_of_getElem? (i := 27) rfl))) (Or.inl (hw _ (List.mem_of_getElem? (i := 45) rfl))) (by decide) (t := (.array .char)) (t' := .int) (by decide) (by decide)))).other W100 (Or.inr (slot_ne (Or.inl (hw _ (List.mem_of_getElem? (i := 27) rfl))) (Or.inl (hw _ (List.mem_of_getElem? (i := 52) rfl))) (by decide) (t := (.array .char)) (t' := .int) (by decide) (by decide))))
                have lf113 := fa112
                have fa114 : Fld Z h100 a1 "com/example/endcon/endcon/yaml/Cursor" "end" "I" (.int p4) := (((Fw27.other W88 (Or.inr (slot_ne (Or.inr (hw _ (List.mem_of_getElem? (i := 29) rfl))) (Or.inr (hw _ (List.mem_of_getElem? (i := 36) rfl))) (by decide) (t := .int) (t' := .boolean) (by decide) (by decide)))).other W95 (Or.inr (slot_ne (Or.inr (hw _ (List.mem_of_getElem? (i := 29) rfl))) (Or.inl (hw _ (List.mem_of_getElem? (i := 45) rfl))) (by decide) (t := .int) (t' := .int) (by decide) (by decide)))).other W100 (Or.inr (slot_ne (Or.inr (hw _ (List.mem_of_getElem? (i := 29) rfl))) (Or.inl (hw _ (List.mem_of_getElem? (i := 52) rfl))) (by decide) (t := .int) (t' := .int) (by decide) (by decide))))
                have lf115 := fa114
                have fa116 : Fld Z h100 a1 "com/example/endcon/endcon/yaml/Cursor" "hasSurrogates" "Z" (.int (nar .boolean (f3 c2))) := ((Fw88.other W95 (Or.inr (slot_ne (Or.inr (hw _ (List.mem_of_getElem? (i := 36) rfl))) (Or.inl (hw _ (List.mem_of_getElem? (i := 45) rfl))) (by decide) (t := .boolean) (t' := .int) (by decide) (by decide)))).other W100 (Or.inr (slot_ne (Or.inr (hw _ (List.mem_of_getElem? (i := 36) rfl))) (Or.inl (hw _ (List.mem_of_getElem? (i := 52) rfl))) (by decide) (t := .boolean) (t' := .int) (by decide) (by decide))))
                have lf117 : Fld Z h100 a1 "com/example/endcon/endcon/yaml/Cursor" "hasSurrogates" "Z" (.int (f1b_a1_hasSurrogates p4 c0 c1 c2 c3)) := by rw [f1b_a1_hasSurrogates, if_pos hc34, if_pos hc36, if_pos hc40, if_pos hc42, if_pos hc46, if_neg hc48]; exact fa116
                have fa118 : Fld Z h100 a1 "com/example/endcon/endcon/yaml/Cursor" "pos" "I" (.int (1 : Int32)) := (Fw95.other W100 (Or.inr (slot_ne (Or.inl (hw _ (List.mem_of_getElem? (i := 45) rfl))) (Or.inl (hw _ (List.mem_of_getElem? (i := 52) rfl))) (by decide) (t := .int) (t' := .int) (by decide) (by decide))))
                have lf119 := fa118
                have lf120 := Fw100
                exact ⟨rfl, N100, kp102, fa103, lf105, lf107, lf109, lf111, lf113, lf115, lf117, lf119, lf120⟩
          · have fa121 : Fld Z h27 a1 "com/example/endcon/endcon/yaml/Cursor" "hasSurrogates" "Z" (.int (0 : Int32)) := ((((((F_a1_hasSurrogates.other W2 (Or.inr (slot_ne (Or.inr (hw _ (List.mem_of_getElem? (i := 36) rfl))) (Or.inl (hw _ (List.mem_of_getElem? (i := 19) rfl))) (by decide) (t := .boolean) (t' := .int) (by decide) (by decide)))).other W7 (Or.inr (slot_ne (Or.inr (hw _ (List.mem_of_getElem? (i := 36) rfl))) (Or.inl (hw _ (List.mem_of_getElem? (i := 21) rfl))) (by decide) (t := .boolean) (t' := .int) (by decide) (by decide)))).other W12 (Or.inr (slot_ne (Or.inr (hw _ (List.mem_of_getElem? (i := 36) rfl))) (Or.inl (hw _ (List.mem_of_getElem? (i := 23) rfl))) (by decide) (t := .boolean) (t' := .int) (by decide) (by decide)))).other W17 (Or.inr (slot_ne (Or.inr (hw _ (List.mem_of_getElem? (i := 36) rfl))) (Or.inr (hw _ (List.mem_of_getElem? (i := 25) rfl))) (by decide) (t := .boolean) (t' := (.object "java/lang/String")) (by decide) (by decide)))).other W22 (Or.inr (slot_ne (Or.inr (hw _ (List.mem_of_getElem? (i := 36) rfl))) (Or.inl (hw _ (List.mem_of_getElem? (i := 27) rfl))) (by decide) (t := .boolean) (t' := (.array .char)) (by decide) (by decide)))).other W27 (Or.inr (slot_ne (Or.inr (hw _ (List.mem_of_getElem? (i := 36) rfl))) (Or.inr (hw _ (List.mem_of_getElem? (i := 29) rfl))) (by decide) (t := .boolean) (t' := .int) (by decide) (by decide))))
            have fa122 : Exa Z h27 a1 "com/example/endcon/endcon/yaml/Cursor" := (fa26.wr W27)
            obtain ⟨T123, h123, X123, e123, W123, st123⟩ := putFN X44 hx hZ hown (hw _ (List.mem_of_getElem? (i := 35) rfl)) Via.refl e44 fa121 fa122 (Or.inr ⟨(hw _ (List.mem_of_getElem? (i := 36) rfl)), rfl, hnm⟩) (hw _ (List.mem_of_getElem? (i := 2) rfl)) (ty := .boolean) (v' := (.int (nar .boolean (f3 c2)))) (by decide) rfl (fits_nar_bool _) (g := (mkF m 69 #[.val (.ref a1), .val (.ref a2), .val (.ref a3), .val (.int p4), .val (.int (f3 c2)), .val (.int (3 : Int32))] [(.int (f3 c2)), (.ref a1)])) rfl rfl (hb hby d1_69)
            have Fw123 : Fld Z h123 a1 "com/example/endcon/endcon/yaml/Cursor" "hasSurrogates" "Z" (.int (nar .boolean (f3 c2))) := fa121.same W123
            have zs124 : n0 ≤ h123.size := Nat.le_trans zs28 (Keep.of_wr W123).1
            have kp125 : Keep h0 h123 [a1] := kp29.wr W123 (Or.inl (List.mem_of_getElem? (i := 0) rfl))
            have N123 := Fr.snoc X123 N44 g_a1
            have fa126 : Arv Z h123 a3 k_a3 .char (4 : Int32) [(.int c0), (.int c1), (.int c2), (.int c3)] (.int (0 : Int32)) := (fa30.other W123 (Ne.symm ne_a1_a3))
            obtain ⟨cx127, Ar127, qq127, S127, N127_, H127, G127⟩ := id fa126
            have hin127 : ¬ ((0 : Int32) < 0 ∨ cx127.slots.size ≤ ((0 : Int32)).toNatClampNeg) := inb_of S127 ⟨by decide, by decide⟩
            have hat127 : cx127.slots[((0 : Int32)).toNatClampNeg]? = some (.int c0) := (H127 ((0 : Int32)).toNatClampNeg (Nat.lt_of_not_le fun w => hin127 (Or.inr w))).trans (congrArg some (rfl))
            have fa128 : Fld Z h123 a1 "com/example/endcon/endcon/yaml/Cursor" "pos" "I" (.int (0 : Int32)) := (((((((F_a1_pos.other W2 (Or.inr (slot_ne (Or.inl (hw _ (List.mem_of_getElem? (i := 45) rfl))) (Or.inl (hw _ (List.mem_of_getElem? (i := 19) rfl))) (by decide) (t := .int) (t' := .int) (by decide) (by decide)))).other W7 (Or.inr (slot_ne (Or.inl (hw _ (List.mem_of_getElem? (i := 45) rfl))) (Or.inl (hw _ (List.mem_of_getElem? (i := 21) rfl))) (by decide) (t := .int) (t' := .int) (by decide) (by decide)))).other W12 (Or.inr (slot_ne (Or.inl (hw _ (List.mem_of_getElem? (i := 45) rfl))) (Or.inl (hw _ (List.mem_of_getElem? (i := 23) rfl))) (by decide) (t := .int) (t' := .int) (by decide) (by decide)))).other W17 (Or.inr (slot_ne (Or.inl (hw _ (List.mem_of_getElem? (i := 45) rfl))) (Or.inr (hw _ (List.mem_of_getElem? (i := 25) rfl))) (by decide) (t := .int) (t' := (.object "java/lang/String")) (by decide) (by decide)))).other W22 (Or.inr (slot_ne (Or.inl (hw _ (List.mem_of_getElem? (i := 45) rfl))) (Or.inl (hw _ (List.mem_of_getElem? (i := 27) rfl))) (by decide) (t := .int) (t' := (.array .char)) (by decide) (by decide)))).other W27 (Or.inr (slot_ne (Or.inl (hw _ (List.mem_of_getElem? (i := 45) rfl))) (Or.inr (hw _ (List.mem_of_getElem? (i := 29) rfl))) (by decide) (t := .int) (t' := .int) (by decide) (by decide)))).other W123 (Or.inr (slot_ne (Or.inl (hw _ (List.mem_of_getElem? (i := 45) rfl))) (Or.inr (hw _ (List.mem_of_getElem? (i := 36) rfl))) (by decide) (t := .int) (t' := .boolean) (by decide) (by decide))))
            have fa129 : Exa Z h123 a1 "com/example/endcon/endcon/yaml/Cursor" := (fa122.wr W123)
            obtain ⟨T130, h130, X130, e130, W130, st130⟩ := putF X123 hx hZ hown (host := "") (Or.inl (hw _ (List.mem_of_getElem? (i := 44) rfl))) Via.refl e123 fa128 fa129 (Or.inl (hw _ (List.mem_of_getElem? (i := 45) rfl))) (hw _ (List.mem_of_getElem? (i := 2) rfl)) (ty := .int) (by decide) rfl rfl (g := (mkF m 86 #[.val (.ref a1), .val (.ref a2), .val (.ref a3), .val (.int p4), .val (.int (f3 c2)), .val (.int (3 : Int32))] [(.int (1 : Int32)), (.ref a1)])) rfl rfl (hb hby d1_86)
            have Fw130 : Fld Z h130 a1 "com/example/endcon/endcon/yaml/Cursor" "pos" "I" (.int (1 : Int32)) := fa128.same W130
            have zs131 : n0 ≤ h130.size := Nat.le_trans zs124 (Keep.of_wr W130).1
            have kp132 : Keep h0 h130 [a1] := kp125.wr W130 (Or.inl (List.mem_of_getElem? (i := 0) rfl))
            have N130 := Fr.snoc X130 N123 g_a1
            have fa133 : Fld Z h130 a1 "com/example/endcon/endcon/yaml/Cursor" "lineStart" "I" (.int (0 : Int32)) := ((((((((F_a1_lineStart.other W2 (Or.inr (slot_ne (Or.inl (hw _ (List.mem_of_getElem? (i := 52) rfl))) (Or.inl (hw _ (List.mem_of_getElem? (i := 19) rfl))) (by decide) (t := .int) (t' := .int) (by decide) (by decide)))).other W7 (Or.inr (slot_ne (Or.inl (hw _ (List.mem_of_getElem? (i := 52) rfl))) (Or.inl (hw _ (List.mem_of_getElem? (i := 21) rfl))) (by decide) (t := .int) (t' := .int) (by decide) (by decide)))).other W12 (Or.inr (slot_ne (Or.inl (hw _ (List.mem_of_getElem? (i := 52) rfl))) (Or.inl (hw _ (List.mem_of_getElem? (i := 23) rfl))) (by decide) (t := .int) (t' := .int) (by decide) (by decide)))).other W17 (Or.inr (slot_ne (Or.inl (hw _ (List.mem_of_getElem? (i := 52) rfl))) (Or.inr (hw _ (List.mem_of_getElem? (i := 25) rfl))) (by decide) (t := .int) (t' := (.object "java/lang/String")) (by decide) (by decide)))).other W22 (Or.inr (slot_ne (Or.inl (hw _ (List.mem_of_getElem? (i := 52) rfl))) (Or.inl (hw _ (List.mem_of_getElem? (i := 27) rfl))) (by decide) (t := .int) (t' := (.array .char)) (by decide) (by decide)))).other W27 (Or.inr (slot_ne (Or.inl (hw _ (List.mem_of_getElem? (i := 52) rfl))) (Or.inr (hw _ (List.mem_of_getElem? (i := 29) rfl))) (by decide) (t := .int) (t' := .int) (by decide) (by decide)))).other W123 (Or.inr (slot_ne (Or.inl (hw _ (List.mem_of_getElem? (i := 52) rfl))) (Or.inr (hw _ (List.mem_of_getElem? (i := 36) rfl))) (by decide) (t := .int) (t' := .boolean) (by decide) (by decide)))).other W130 (Or.inr (slot_ne (Or.inl (hw _ (List.mem_of_getElem? (i := 52) rfl))) (Or.inl (hw _ (List.mem_of_getElem? (i := 45) rfl))) (by decide) (t := .int) (t' := .int) (by decide) (by decide))))
            have fa134 : Exa Z h130 a1 "com/example/endcon/endcon/yaml/Cursor" := (fa129.wr W130)
            obtain ⟨T135, h135, X135, e135, W135, st135⟩ := putF X130 hx hZ hown (host := "") (Or.inl (hw _ (List.mem_of_getElem? (i := 51) rfl))) Via.refl e130 fa133 fa134 (Or.inl (hw _ (List.mem_of_getElem? (i := 52) rfl))) (hw _ (List.mem_of_getElem? (i := 2) rfl)) (ty := .int) (by decide) rfl rfl (g := (mkF m 91 #[.val (.ref a1), .val (.ref a2), .val (.ref a3), .val (.int p4), .val (.int (f3 c2)), .val (.int (3 : Int32))] [(.int (1 : Int32)), (.ref a1)])) rfl rfl (hb hby d1_91)
            have Fw135 : Fld Z h135 a1 "com/example/endcon/endcon/yaml/Cursor" "lineStart" "I" (.int (1 : Int32)) := fa133.same W135
            have zs136 : n0 ≤ h135.size := Nat.le_trans zs131 (Keep.of_wr W135).1
            have kp137 : Keep h0 h135 [a1] := kp132.wr W135 (Or.inl (List.mem_of_getElem? (i := 0) rfl))
            have N135 := Fr.snoc X135 N130 g_a1
            obtain ⟨fs, hr, hrun, hended, hW, hsame⟩ := X135.leave (v := none) (fun _ => rfl)
            refine ⟨_, _, pre45 _ ?_, hrun, hended, _, _, rfl, ?_, ⟨_, rfl⟩, hW, hsame.mono (by decide) (by decide)⟩
            · show Steps p.tables e below (T44.setTop (mkF m 43 #[.val (.ref a1), .val (.ref a2), .val (.ref a3), .val (.int p4), .val (.int (f3 c2)), .val (.int (3 : Int32))] [(.int p4), (.int (3 : Int32))])) _
              refine XS.icmpYes X44.here hx rfl (pc0 := 43) (pc' := 66) rfl (hb hby d1_43) rfl (flt hc46).2.1 (by decide) (by decide) ?_
              show Steps p.tables e below (T44.setTop (mkF m 66 #[.val (.ref a1), .val (.ref a2), .val (.ref a3), .val (.int p4), .val (.int (f3 c2)), .val (.int (3 : Int32))] [])) _
              refine own_blk X44 hx bl1_66_2 (own_hb hby bd1_66_2) (pc' := 69) (Ls' := #[.val (.ref a1), .val (.ref a2), .val (.ref a3), .val (.int p4), .val (.int (f3 c2)), .val (.int (3 : Int32))]) (st' := [(.int (f3 c2)), (.ref a1)]) rfl ?_
              refine st123 _ ?_
              show Steps p.tables e below (T123.setTop (mkF m 72 #[.val (.ref a1), .val (.ref a2), .val (.ref a3), .val (.int p4), .val (.int (f3 c2)), .val (.int (3 : Int32))] [])) _
              refine own_blk X123 hx bl1_72_1 (own_hb hby bd1_72_1) (pc' := 73) (Ls' := #[.val (.ref a1), .val (.ref a2), .val (.ref a3), .val (.int p4), .val (.int (f3 c2)), .val (.int (3 : Int32))]) (st' := [(.int p4)]) rfl ?_
              refine XS.ifNo X123.here hx rfl (hb hby d1_73) rfl ((if0 _ _).trans (tlt hz).2.2.2) ?_
              show Steps p.tables e below (T123.setTop (mkF m 76 #[.val (.ref a1), .val (.ref a2), .val (.ref a3), .val (.int p4), .val (.int (f3 c2)), .val (.int (3 : Int32))] [])) _
              refine own_blk X123 hx bl1_76_2 (own_hb hby bd1_76_2) (pc' := 78) (Ls' := #[.val (.ref a1), .val (.ref a2), .val (.ref a3), .val (.int p4), .val (.int (f3 c2)), .val (.int (3 : Int32))]) (st' := [(.int (0 : Int32)), (.ref a3)]) rfl ?_
              refine X123.caload hx (j := (0 : Int32)) (v := (.int c0)) (by rw [e123]; exact Ar127.1) (State.isArrayOf_alike hZ.alike Ar127.2.1) Ar127.2.2 hin127 hat127 (g := (mkF m 78 #[.val (.ref a1), .val (.ref a2), .val (.ref a3), .val (.int p4), .val (.int (f3 c2)), .val (.int (3 : Int32))] [(.int (0 : Int32)), (.ref a3)])) rfl rfl (hb hby d1_78) _ ?_
              show Steps p.tables e below (T123.setTop (mkF m 79 #[.val (.ref a1), .val (.ref a2), .val (.ref a3), .val (.int p4), .val (.int (f3 c2)), .val (.int (3 : Int32))] [(.int c0)])) _
              refine X123.ldcInt hx hown (mvT hZ (hw _ (List.mem_of_getElem? (i := 37) rfl))) (g := (mkF m 79 #[.val (.ref a1), .val (.ref a2), .val (.ref a3), .val (.int p4), .val (.int (f3 c2)), .val (.int (3 : Int32))] [(.int c0)])) rfl (hb hby d1_79) _ ?_
              show Steps p.tables e below (T123.setTop (mkF m 81 #[.val (.ref a1), .val (.ref a2), .val (.ref a3), .val (.int p4), .val (.int (f3 c2)), .val (.int (3 : Int32))] [(.int (65279 : Int32)), (.int c0)])) _
              refine XS.icmpNo X123.here hx rfl (hb hby d1_81) rfl (teq hbm).2 ?_
              show Steps p.tables e below (T123.setTop (mkF m 84 #[.val (.ref a1), .val (.ref a2), .val (.ref a3), .val (.int p4), .val (.int (f3 c2)), .val (.int (3 : Int32))] [])) _
              refine own_blk X123 hx bl1_84_2 (own_hb hby bd1_84_2) (pc' := 86) (Ls' := #[.val (.ref a1), .val (.ref a2), .val (.ref a3), .val (.int p4), .val (.int (f3 c2)), .val (.int (3 : Int32))]) (st' := [(.int (1 : Int32)), (.ref a1)]) rfl ?_
              refine st130 _ ?_
              show Steps p.tables e below (T130.setTop (mkF m 89 #[.val (.ref a1), .val (.ref a2), .val (.ref a3), .val (.int p4), .val (.int (f3 c2)), .val (.int (3 : Int32))] [])) _
              refine own_blk X130 hx bl1_89_2 (own_hb hby bd1_89_2) (pc' := 91) (Ls' := #[.val (.ref a1), .val (.ref a2), .val (.ref a3), .val (.int p4), .val (.int (f3 c2)), .val (.int (3 : Int32))]) (st' := [(.int (1 : Int32)), (.ref a1)]) rfl ?_
              refine st135 _ ?_
              show Steps p.tables e below (T135.setTop (mkF m 94 #[.val (.ref a1), .val (.ref a2), .val (.ref a3), .val (.int p4), .val (.int (f3 c2)), .val (.int (3 : Int32))] [])) _
              exact X135.returnOut hx Bd.returns (hb hby d1_94) hr
            · show Q1b Z a1 a2 a3 p4 c0 c1 c2 c3 k_a3 h0 n0 _ T135.heap _
              rw [e135]
              have fa138 : Exa Z h135 a1 "com/example/endcon/endcon/yaml/Cursor" := (fa134.wr W135)
              have fa139 : Fld Z h135 a1 "com/example/endcon/endcon/yaml/Cursor" "line" "I" (.int (1 : Int32)) := ((((((((Fw2.other W7 (Or.inr (slot_ne (Or.inl (hw _ (List.mem_of_getElem? (i := 19) rfl))) (Or.inl (hw _ (List.mem_of_getElem? (i := 21) rfl))) (by decide) (t := .int) (t' := .int) (by decide) (by decide)))).other W12 (Or.inr (slot_ne (Or.inl (hw _ (List.mem_of_getElem? (i := 19) rfl))) (Or.inl (hw _ (List.mem_of_getElem? (i := 23) rfl))) (by decide) (t := .int) (t' := .int) (by decide) (by decide)))).other W17 (Or.inr (slot_ne (Or.inl (hw _ (List.mem_of_getElem? (i := 19) rfl))) (Or.inr (hw _ (List.mem_of_getElem? (i := 25) rfl))) (by decide) (t := .int) (t' := (.object "java/lang/String")) (by decide) (by decide)))).other W22 (Or.inr (slot_ne (Or.inl (hw _ (List.mem_of_getElem? (i := 19) rfl))) (Or.inl (hw _ (List.mem_of_getElem? (i := 27) rfl))) (by decide) (t := .int) (t' := (.array .char)) (by decide) (by decide)))).other W27 (Or.inr (slot_ne (Or.inl (hw _ (List.mem_of_getElem? (i := 19) rfl))) (Or.inr (hw _ (List.mem_of_getElem? (i := 29) rfl))) (by decide) (t := .int) (t' := .int) (by decide) (by decide)))).other W123 (Or.inr (slot_ne (Or.inl (hw _ (List.mem_of_getElem? (i := 19) rfl))) (Or.inr (hw _ (List.mem_of_getElem? (i := 36) rfl))) (by decide) (t := .int) (t' := .boolean) (by decide) (by decide)))).other W130 (Or.inr (slot_ne (Or.inl (hw _ (List.mem_of_getElem? (i := 19) rfl))) (Or.inl (hw _ (List.mem_of_getElem? (i := 45) rfl))) (by decide) (t := .int) (t' := .int) (by decide) (by decide)))).other W135 (Or.inr (slot_ne (Or.inl (hw _ (List.mem_of_getElem? (i := 19) rfl))) (Or.inl (hw _ (List.mem_of_getElem? (i := 52) rfl))) (by decide) (t := .int) (t' := .int) (by decide) (by decide))))
              have lf140 := fa139
              have fa141 : Fld Z h135 a1 "com/example/endcon/endcon/yaml/Cursor" "blankLinesFrom" "I" (.int (-1 : Int32)) := (((((((Fw7.other W12 (Or.inr (slot_ne (Or.inl (hw _ (List.mem_of_getElem? (i := 21) rfl))) (Or.inl (hw _ (List.mem_of_getElem? (i := 23) rfl))) (by decide) (t := .int) (t' := .int) (by decide) (by decide)))).other W17 (Or.inr (slot_ne (Or.inl (hw _ (List.mem_of_getElem? (i := 21) rfl))) (Or.inr (hw _ (List.mem_of_getElem? (i := 25) rfl))) (by decide) (t := .int) (t' := (.object "java/lang/String")) (by decide) (by decide)))).other W22 (Or.inr (slot_ne (Or.inl (hw _ (List.mem_of_getElem? (i := 21) rfl))) (Or.inl (hw _ (List.mem_of_getElem? (i := 27) rfl))) (by decide) (t := .int) (t' := (.array .char)) (by decide) (by decide)))).other W27 (Or.inr (slot_ne (Or.inl (hw _ (List.mem_of_getElem? (i := 21) rfl))) (Or.inr (hw _ (List.mem_of_getElem? (i := 29) rfl))) (by decide) (t := .int) (t' := .int) (by decide) (by decide)))).other W123 (Or.inr (slot_ne (Or.inl (hw _ (List.mem_of_getElem? (i := 21) rfl))) (Or.inr (hw _ (List.mem_of_getElem? (i := 36) rfl))) (by decide) (t := .int) (t' := .boolean) (by decide) (by decide)))).other W130 (Or.inr (slot_ne (Or.inl (hw _ (List.mem_of_getElem? (i := 21) rfl))) (Or.inl (hw _ (List.mem_of_getElem? (i := 45) rfl))) (by decide) (t := .int) (t' := .int) (by decide) (by decide)))).other W135 (Or.inr (slot_ne (Or.inl (hw _ (List.mem_of_getElem? (i := 21) rfl))) (Or.inl (hw _ (List.mem_of_getElem? (i := 52) rfl))) (by decide) (t := .int) (t' := .int) (by decide) (by decide))))
              have lf142 := fa141
              have fa143 : Fld Z h135 a1 "com/example/endcon/endcon/yaml/Cursor" "countedIndex" "I" (.int (-1 : Int32)) := ((((((Fw12.other W17 (Or.inr (slot_ne (Or.inl (hw _ (List.mem_of_getElem? (i := 23) rfl))) (Or.inr (hw _ (List.mem_of_getElem? (i := 25) rfl))) (by decide) (t := .int) (t' := (.object "java/lang/String")) (by decide) (by decide)))).other W22 (Or.inr (slot_ne (Or.inl (hw _ (List.mem_of_getElem? (i := 23) rfl))) (Or.inl (hw _ (List.mem_of_getElem? (i := 27) rfl))) (by decide) (t := .int) (t' := (.array .char)) (by decide) (by decide)))).other W27 (Or.inr (slot_ne (Or.inl (hw _ (List.mem_of_getElem? (i := 23) rfl))) (Or.inr (hw _ (List.mem_of_getElem? (i := 29) rfl))) (by decide) (t := .int) (t' := .int) (by decide) (by decide)))).other W123 (Or.inr (slot_ne (Or.inl (hw _ (List.mem_of_getElem? (i := 23) rfl))) (Or.inr (hw _ (List.mem_of_getElem? (i := 36) rfl))) (by decide) (t := .int) (t' := .boolean) (by decide) (by decide)))).other W130 (Or.inr (slot_ne (Or.inl (hw _ (List.mem_of_getElem? (i := 23) rfl))) (Or.inl (hw _ (List.mem_of_getElem? (i := 45) rfl))) (by decide) (t := .int) (t' := .int) (by decide) (by decide)))).other W135 (Or.inr (slot_ne (Or.inl (hw _ (List.mem_of_getElem? (i := 23) rfl))) (Or.inl (hw _ (List.mem_of_getElem? (i := 52) rfl))) (by decide) (t := .int) (t' := .int) (by decide) (by decide))))
              have lf144 := fa143
              have fa145 : Fld Z h135 a1 "com/example/endcon/endcon/yaml/Cursor" "file" "Ljava/lang/String;" (.ref a2) := (((((Fw17.other W22 (Or.inr (slot_ne (Or.inr (hw _ (List.mem_of_getElem? (i := 25) rfl))) (Or.inl (hw _ (List.mem_of_getElem? (i := 27) rfl))) (by decide) (t := (.object "java/lang/String")) (t' := (.array .char)) (by decide) (by decide)))).other W27 (Or.inr (slot_ne (Or.inr (hw _ (List.mem_of_getElem? (i := 25) rfl))) (Or.inr (hw _ (List.mem_of_getElem? (i := 29) rfl))) (by decide) (t := (.object "java/lang/String")) (t' := .int) (by decide) (by decide)))).other W123 (Or.inr (slot_ne (Or.inr (hw _ (List.mem_of_getElem? (i := 25) rfl))) (Or.inr (hw _ (List.mem_of_getElem? (i := 36) rfl))) (by decide) (t := (.object "java/lang/String")) (t' := .boolean) (by decide) (by decide)))).other W130 (Or.inr (slot_ne (Or.inr (hw _ (List.mem_of_getElem? (i := 25) rfl))) (Or.inl (hw _ (List.mem_of_getElem? (i := 45) rfl))) (by decide) (t := (.object "java/lang/String")) (t' := .int) (by decide) (by decide)))).other W135 (Or.inr (slot_ne (Or.inr (hw _ (List.mem_of_getElem? (i := 25) rfl))) (Or.inl (hw _ (List.mem_of_getElem? (i := 52) rfl))) (by decide) (t := (.object "java/lang/String")) (t' := .int) (by decide) (by decide))))
              have lf146 := fa145
              have fa147 : Fld Z h135 a1 "com/example/endcon/endcon/yaml/Cursor" "text" "[C" (.ref a3) := ((((Fw22.other W27 (Or.inr (slot_ne (Or.inl (hw _ (List.mem_of_getElem? (i := 27) rfl))) (Or.inr (hw _ (List.mem_of_getElem? (i := 29) rfl))) (by decide) (t := (.array .char)) (t' := .int) (by decide) (by decide)))).other W123 (Or.inr (slot_ne (Or.inl (hw _ (List.mem_of_getElem? (i := 27) rfl))) (Or.inr (hw _ (List.mem_of_getElem? (i := 36) rfl))) (by decide) (t := (.array .char)) (t' := .boolean) (by decide) (by decide)))).other W130 (Or.inr (slot_ne (Or.inl (hw _ (List.mem_of_getElem? (i := 27) rfl))) (Or.inl (hw _ (List.mem_of_getElem? (i := 45) rfl))) (by decide) (t := (.array .char)) (t' := .int) (by decide) (by decide)))).other W135 (Or.inr (slot_ne (Or.inl (hw _ (List.mem_of_getElem? (i := 27) rfl))) (Or.inl (hw _ (List.mem_of_getElem? (i := 52) rfl))) (by decide) (t := (.array .char)) (t' := .int) (by decide) (by decide))))
              have lf148 := fa147
              have fa149 : Fld Z h135 a1 "com/example/endcon/endcon/yaml/Cursor" "end" "I" (.int p4) := (((Fw27.other W123 (Or.inr (slot_ne (Or.inr (hw _ (List.mem_of_getElem? (i := 29) rfl))) (Or.inr (hw _ (List.mem_of_getElem? (i := 36) rfl))) (by decide) (t := .int) (t' := .boolean) (by decide) (by decide)))).other W130 (Or.inr (slot_ne (Or.inr (hw _ (List.mem_of_getElem? (i := 29) rfl))) (Or.inl (hw _ (List.mem_of_getElem? (i := 45) rfl))) (by decide) (t := .int) (t' := .int) (by decide) (by decide)))).other W135 (Or.inr (slot_ne (Or.inr (hw _ (List.mem_of_getElem? (i := 29) rfl))) (Or.inl (hw _ (List.mem_of_getElem? (i := 52) rfl))) (by decide) (t := .int) (t' := .int) (by decide) (by decide))))
              have lf150 := fa149
              have fa151 : Fld Z h135 a1 "com/example/endcon/endcon/yaml/Cursor" "hasSurrogates" "Z" (.int (nar .boolean (f3 c2))) := ((Fw123.other W130 (Or.inr (slot_ne (Or.inr (hw _ (List.mem_of_getElem? (i := 36) rfl))) (Or.inl (hw _ (List.mem_of_getElem? (i := 45) rfl))) (by decide) (t := .boolean) (t' := .int) (by decide) (by decide)))).other W135 (Or.inr (slot_ne (Or.inr (hw _ (List.mem_of_getElem? (i := 36) rfl))) (Or.inl (hw _ (List.mem_of_getElem? (i := 52) rfl))) (by decide) (t := .boolean) (t' := .int) (by decide) (by decide))))
              have lf152 : Fld Z h135 a1 "com/example/endcon/endcon/yaml/Cursor" "hasSurrogates" "Z" (.int (f1b_a1_hasSurrogates p4 c0 c1 c2 c3)) := by rw [f1b_a1_hasSurrogates, if_pos hc34, if_pos hc36, if_pos hc40, if_pos hc42, if_neg hc46]; exact fa151
              have fa153 : Fld Z h135 a1 "com/example/endcon/endcon/yaml/Cursor" "pos" "I" (.int (1 : Int32)) := (Fw130.other W135 (Or.inr (slot_ne (Or.inl (hw _ (List.mem_of_getElem? (i := 45) rfl))) (Or.inl (hw _ (List.mem_of_getElem? (i := 52) rfl))) (by decide) (t := .int) (t' := .int) (by decide) (by decide))))
              have lf154 := fa153
              have lf155 := Fw135
              exact ⟨rfl, N135, kp137, fa138, lf140, lf142, lf144, lf146, lf148, lf150, lf152, lf154, lf155⟩
        · have fa156 : Fld Z h27 a1 "com/example/endcon/endcon/yaml/Cursor" "hasSurrogates" "Z" (.int (0 : Int32)) := ((((((F_a1_hasSurrogates.other W2 (Or.inr (slot_ne (Or.inr (hw _ (List.mem_of_getElem? (i := 36) rfl))) (Or.inl (hw _ (List.mem_of_getElem? (i := 19) rfl))) (by decide) (t := .boolean) (t' := .int) (by decide) (by decide)))).other W7 (Or.inr (slot_ne (Or.inr (hw _ (List.mem_of_getElem? (i := 36) rfl))) (Or.inl (hw _ (List.mem_of_getElem? (i := 21) rfl))) (by decide) (t := .boolean) (t' := .int) (by decide) (by decide)))).other W12 (Or.inr (slot_ne (Or.inr (hw _ (List.mem_of_getElem? (i := 36) rfl))) (Or.inl (hw _ (List.mem_of_getElem? (i := 23) rfl))) (by decide) (t := .boolean) (t' := .int) (by decide) (by decide)))).other W17 (Or.inr (slot_ne (Or.inr (hw _ (List.mem_of_getElem? (i := 36) rfl))) (Or.inr (hw _ (List.mem_of_getElem? (i := 25) rfl))) (by decide) (t := .boolean) (t' := (.object "java/lang/String")) (by decide) (by decide)))).other W22 (Or.inr (slot_ne (Or.inr (hw _ (List.mem_of_getElem? (i := 36) rfl))) (Or.inl (hw _ (List.mem_of_getElem? (i := 27) rfl))) (by decide) (t := .boolean) (t' := (.array .char)) (by decide) (by decide)))).other W27 (Or.inr (slot_ne (Or.inr (hw _ (List.mem_of_getElem? (i := 36) rfl))) (Or.inr (hw _ (List.mem_of_getElem? (i := 29) rfl))) (by decide) (t := .boolean) (t' := .int) (by decide) (by decide))))
          have fa157 : Exa Z h27 a1 "com/example/endcon/endcon/yaml/Cursor" := (fa26.wr W27)
          obtain ⟨T158, h158, X158, e158, W158, st158⟩ := putFN X38 hx hZ hown (hw _ (List.mem_of_getElem? (i := 35) rfl)) Via.refl e38 fa156 fa157 (Or.inr ⟨(hw _ (List.mem_of_getElem? (i := 36) rfl)), rfl, hnm⟩) (hw _ (List.mem_of_getElem? (i := 2) rfl)) (ty := .boolean) (v' := (.int (nar .boolean (f3 c1)))) (by decide) rfl (fits_nar_bool _) (g := (mkF m 69 #[.val (.ref a1), .val (.ref a2), .val (.ref a3), .val (.int p4), .val (.int (f3 c1)), .val (.int (2 : Int32))] [(.int (f3 c1)), (.ref a1)])) rfl rfl (hb hby d1_69)
          have Fw158 : Fld Z h158 a1 "com/example/endcon/endcon/yaml/Cursor" "hasSurrogates" "Z" (.int (nar .boolean (f3 c1))) := fa156.same W158
          have zs159 : n0 ≤ h158.size := Nat.le_trans zs28 (Keep.of_wr W158).1
          have kp160 : Keep h0 h158 [a1] := kp29.wr W158 (Or.inl (List.mem_of_getElem? (i := 0) rfl))
          have N158 := Fr.snoc X158 N38 g_a1
          have fa161 : Arv Z h158 a3 k_a3 .char (4 : Int32) [(.int c0), (.int c1), (.int c2), (.int c3)] (.int (0 : Int32)) := (fa30.other W158 (Ne.symm ne_a1_a3))
          obtain ⟨cx162, Ar162, qq162, S162, N162_, H162, G162⟩ := id fa161
          have hin162 : ¬ ((0 : Int32) < 0 ∨ cx162.slots.size ≤ ((0 : Int32)).toNatClampNeg) := inb_of S162 ⟨by decide, by decide⟩
          have hat162 : cx162.slots[((0 : Int32)).toNatClampNeg]? = some (.int c0) := (H162 ((0 : Int32)).toNatClampNeg (Nat.lt_of_not_le fun w => hin162 (Or.inr w))).trans (congrArg some (rfl))
          have fa163 : Fld Z h158 a1 "com/example/endcon/endcon/yaml/Cursor" "pos" "I" (.int (0 : Int32)) := (((((((F_a1_pos.other W2 (Or.inr (slot_ne (Or.inl (hw _ (List.mem_of_getElem? (i := 45) rfl))) (Or.inl (hw _ (List.mem_of_getElem? (i := 19) rfl))) (by decide) (t := .int) (t' := .int) (by decide) (by decide)))).other W7 (Or.inr (slot_ne (Or.inl (hw _ (List.mem_of_getElem? (i := 45) rfl))) (Or.inl (hw _ (List.mem_of_getElem? (i := 21) rfl))) (by decide) (t := .int) (t' := .int) (by decide) (by decide)))).other W12 (Or.inr (slot_ne (Or.inl (hw _ (List.mem_of_getElem? (i := 45) rfl))) (Or.inl (hw _ (List.mem_of_getElem? (i := 23) rfl))) (by decide) (t := .int) (t' := .int) (by decide) (by decide)))).other W17 (Or.inr (slot_ne (Or.inl (hw _ (List.mem_of_getElem? (i := 45) rfl))) (Or.inr (hw _ (List.mem_of_getElem? (i := 25) rfl))) (by decide) (t := .int) (t' := (.object "java/lang/String")) (by decide) (by decide)))).other W22 (Or.inr (slot_ne (Or.inl (hw _ (List.mem_of_getElem? (i := 45) rfl))) (Or.inl (hw _ (List.mem_of_getElem? (i := 27) rfl))) (by decide) (t := .int) (t' := (.array .char)) (by decide) (by decide)))).other W27 (Or.inr (slot_ne (Or.inl (hw _ (List.mem_of_getElem? (i := 45) rfl))) (Or.inr (hw _ (List.mem_of_getElem? (i := 29) rfl))) (by decide) (t := .int) (t' := .int) (by decide) (by decide)))).other W158 (Or.inr (slot_ne (Or.inl (hw _ (List.mem_of_getElem? (i := 45) rfl))) (Or.inr (hw _ (List.mem_of_getElem? (i := 36) rfl))) (by decide) (t := .int) (t' := .boolean) (by decide) (by decide))))
          have fa164 : Exa Z h158 a1 "com/example/endcon/endcon/yaml/Cursor" := (fa157.wr W158)
          obtain ⟨T165, h165, X165, e165, W165, st165⟩ := putF X158 hx hZ hown (host := "") (Or.inl (hw _ (List.mem_of_getElem? (i := 44) rfl))) Via.refl e158 fa163 fa164 (Or.inl (hw _ (List.mem_of_getElem? (i := 45) rfl))) (hw _ (List.mem_of_getElem? (i := 2) rfl)) (ty := .int) (by decide) rfl rfl (g := (mkF m 86 #[.val (.ref a1), .val (.ref a2), .val (.ref a3), .val (.int p4), .val (.int (f3 c1)), .val (.int (2 : Int32))] [(.int (1 : Int32)), (.ref a1)])) rfl rfl (hb hby d1_86)
          have Fw165 : Fld Z h165 a1 "com/example/endcon/endcon/yaml/Cursor" "pos" "I" (.int (1 : Int32)) := fa163.same W165
          have zs166 : n0 ≤ h165.size := Nat.le_trans zs159 (Keep.of_wr W165).1
          have kp167 : Keep h0 h165 [a1] := kp160.wr W165 (Or.inl (List.mem_of_getElem? (i := 0) rfl))
          have N165 := Fr.snoc X165 N158 g_a1
          have fa168 : Fld Z h165 a1 "com/example/endcon/endcon/yaml/Cursor" "lineStart" "I" (.int (0 : Int32)) := ((((((((F_a1_lineStart.other W2 (Or.inr (slot_ne (Or.inl (hw _ (List.mem_of_getElem? (i := 52) rfl))) (Or.inl (hw _ (List.mem_of_getElem? (i := 19) rfl))) (by decide) (t := .int) (t' := .int) (by decide) (by decide)))).other W7 (Or.inr (slot_ne (Or.inl (hw _ (List.mem_of_getElem? (i := 52) rfl))) (Or.inl (hw _ (List.mem_of_getElem? (i := 21) rfl))) (by decide) (t := .int) (t' := .int) (by decide) (by decide)))).other W12 (Or.inr (slot_ne (Or.inl (hw _ (List.mem_of_getElem? (i := 52) rfl))) (Or.inl (hw _ (List.mem_of_getElem? (i := 23) rfl))) (by decide) (t := .int) (t' := .int) (by decide) (by decide)))).other W17 (Or.inr (slot_ne (Or.inl (hw _ (List.mem_of_getElem? (i := 52) rfl))) (Or.inr (hw _ (List.mem_of_getElem? (i := 25) rfl))) (by decide) (t := .int) (t' := (.object "java/lang/String")) (by decide) (by decide)))).other W22 (Or.inr (slot_ne (Or.inl (hw _ (List.mem_of_getElem? (i := 52) rfl))) (Or.inl (hw _ (List.mem_of_getElem? (i := 27) rfl))) (by decide) (t := .int) (t' := (.array .char)) (by decide) (by decide)))).other W27 (Or.inr (slot_ne (Or.inl (hw _ (List.mem_of_getElem? (i := 52) rfl))) (Or.inr (hw _ (List.mem_of_getElem? (i := 29) rfl))) (by decide) (t := .int) (t' := .int) (by decide) (by decide)))).other W158 (Or.inr (slot_ne (Or.inl (hw _ (List.mem_of_getElem? (i := 52) rfl))) (Or.inr (hw _ (List.mem_of_getElem? (i := 36) rfl))) (by decide) (t := .int) (t' := .boolean) (by decide) (by decide)))).other W165 (Or.inr (slot_ne (Or.inl (hw _ (List.mem_of_getElem? (i := 52) rfl))) (Or.inl (hw _ (List.mem_of_getElem? (i := 45) rfl))) (by decide) (t := .int) (t' := .int) (by decide) (by decide))))
          have fa169 : Exa Z h165 a1 "com/example/endcon/endcon/yaml/Cursor" := (fa164.wr W165)
          obtain ⟨T170, h170, X170, e170, W170, st170⟩ := putF X165 hx hZ hown (host := "") (Or.inl (hw _ (List.mem_of_getElem? (i := 51) rfl))) Via.refl e165 fa168 fa169 (Or.inl (hw _ (List.mem_of_getElem? (i := 52) rfl))) (hw _ (List.mem_of_getElem? (i := 2) rfl)) (ty := .int) (by decide) rfl rfl (g := (mkF m 91 #[.val (.ref a1), .val (.ref a2), .val (.ref a3), .val (.int p4), .val (.int (f3 c1)), .val (.int (2 : Int32))] [(.int (1 : Int32)), (.ref a1)])) rfl rfl (hb hby d1_91)
          have Fw170 : Fld Z h170 a1 "com/example/endcon/endcon/yaml/Cursor" "lineStart" "I" (.int (1 : Int32)) := fa168.same W170
          have zs171 : n0 ≤ h170.size := Nat.le_trans zs166 (Keep.of_wr W170).1
          have kp172 : Keep h0 h170 [a1] := kp167.wr W170 (Or.inl (List.mem_of_getElem? (i := 0) rfl))
          have N170 := Fr.snoc X170 N165 g_a1
          obtain ⟨fs, hr, hrun, hended, hW, hsame⟩ := X170.leave (v := none) (fun _ => rfl)
          refine ⟨_, _, pre41 _ ?_, hrun, hended, _, _, rfl, ?_, ⟨_, rfl⟩, hW, hsame.mono (by decide) (by decide)⟩
          · show Steps p.tables e below (T38.setTop (mkF m 48 #[.val (.ref a1), .val (.ref a2), .val (.ref a3), .val (.int p4), .val (.int (f3 c1)), .val (.int (2 : Int32))] [(.int (f3 c1))])) _
            refine XS.ifYes X38.here hx rfl (pc0 := 48) (pc' := 66) rfl (hb hby d1_48) rfl ((if0 _ _).trans (feq hc42).2) (by decide) (by decide) ?_
            show Steps p.tables e below (T38.setTop (mkF m 66 #[.val (.ref a1), .val (.ref a2), .val (.ref a3), .val (.int p4), .val (.int (f3 c1)), .val (.int (2 : Int32))] [])) _
            refine own_blk X38 hx bl1_66_2 (own_hb hby bd1_66_2) (pc' := 69) (Ls' := #[.val (.ref a1), .val (.ref a2), .val (.ref a3), .val (.int p4), .val (.int (f3 c1)), .val (.int (2 : Int32))]) (st' := [(.int (f3 c1)), (.ref a1)]) rfl ?_
            refine st158 _ ?_
            show Steps p.tables e below (T158.setTop (mkF m 72 #[.val (.ref a1), .val (.ref a2), .val (.ref a3), .val (.int p4), .val (.int (f3 c1)), .val (.int (2 : Int32))] [])) _
            refine own_blk X158 hx bl1_72_1 (own_hb hby bd1_72_1) (pc' := 73) (Ls' := #[.val (.ref a1), .val (.ref a2), .val (.ref a3), .val (.int p4), .val (.int (f3 c1)), .val (.int (2 : Int32))]) (st' := [(.int p4)]) rfl ?_
            refine XS.ifNo X158.here hx rfl (hb hby d1_73) rfl ((if0 _ _).trans (tlt hz).2.2.2) ?_
            show Steps p.tables e below (T158.setTop (mkF m 76 #[.val (.ref a1), .val (.ref a2), .val (.ref a3), .val (.int p4), .val (.int (f3 c1)), .val (.int (2 : Int32))] [])) _
            refine own_blk X158 hx bl1_76_2 (own_hb hby bd1_76_2) (pc' := 78) (Ls' := #[.val (.ref a1), .val (.ref a2), .val (.ref a3), .val (.int p4), .val (.int (f3 c1)), .val (.int (2 : Int32))]) (st' := [(.int (0 : Int32)), (.ref a3)]) rfl ?_
            refine X158.caload hx (j := (0 : Int32)) (v := (.int c0)) (by rw [e158]; exact Ar162.1) (State.isArrayOf_alike hZ.alike Ar162.2.1) Ar162.2.2 hin162 hat162 (g := (mkF m 78 #[.val (.ref a1), .val (.ref a2), .val (.ref a3), .val (.int p4), .val (.int (f3 c1)), .val (.int (2 : Int32))] [(.int (0 : Int32)), (.ref a3)])) rfl rfl (hb hby d1_78) _ ?_
            show Steps p.tables e below (T158.setTop (mkF m 79 #[.val (.ref a1), .val (.ref a2), .val (.ref a3), .val (.int p4), .val (.int (f3 c1)), .val (.int (2 : Int32))] [(.int c0)])) _
            refine X158.ldcInt hx hown (mvT hZ (hw _ (List.mem_of_getElem? (i := 37) rfl))) (g := (mkF m 79 #[.val (.ref a1), .val (.ref a2), .val (.ref a3), .val (.int p4), .val (.int (f3 c1)), .val (.int (2 : Int32))] [(.int c0)])) rfl (hb hby d1_79) _ ?_
            show Steps p.tables e below (T158.setTop (mkF m 81 #[.val (.ref a1), .val (.ref a2), .val (.ref a3), .val (.int p4), .val (.int (f3 c1)), .val (.int (2 : Int32))] [(.int (65279 : Int32)), (.int c0)])) _
            refine XS.icmpNo X158.here hx rfl (hb hby d1_81) rfl (teq hbm).2 ?_
            show Steps p.tables e below (T158.setTop (mkF m 84 #[.val (.ref a1), .val (.ref a2), .val (.ref a3), .val (.int p4), .val (.int (f3 c1)), .val (.int (2 : Int32))] [])) _
            refine own_blk X158 hx bl1_84_2 (own_hb hby bd1_84_2) (pc' := 86) (Ls' := #[.val (.ref a1), .val (.ref a2), .val (.ref a3), .val (.int p4), .val (.int (f3 c1)), .val (.int (2 : Int32))]) (st' := [(.int (1 : Int32)), (.ref a1)]) rfl ?_
            refine st165 _ ?_
            show Steps p.tables e below (T165.setTop (mkF m 89 #[.val (.ref a1), .val (.ref a2), .val (.ref a3), .val (.int p4), .val (.int (f3 c1)), .val (.int (2 : Int32))] [])) _
            refine own_blk X165 hx bl1_89_2 (own_hb hby bd1_89_2) (pc' := 91) (Ls' := #[.val (.ref a1), .val (.ref a2), .val (.ref a3), .val (.int p4), .val (.int (f3 c1)), .val (.int (2 : Int32))]) (st' := [(.int (1 : Int32)), (.ref a1)]) rfl ?_
            refine st170 _ ?_
            show Steps p.tables e below (T170.setTop (mkF m 94 #[.val (.ref a1), .val (.ref a2), .val (.ref a3), .val (.int p4), .val (.int (f3 c1)), .val (.int (2 : Int32))] [])) _
            exact X170.returnOut hx Bd.returns (hb hby d1_94) hr
          · show Q1b Z a1 a2 a3 p4 c0 c1 c2 c3 k_a3 h0 n0 _ T170.heap _
            rw [e170]
            have fa173 : Exa Z h170 a1 "com/example/endcon/endcon/yaml/Cursor" := (fa169.wr W170)
            have fa174 : Fld Z h170 a1 "com/example/endcon/endcon/yaml/Cursor" "line" "I" (.int (1 : Int32)) := ((((((((Fw2.other W7 (Or.inr (slot_ne (Or.inl (hw _ (List.mem_of_getElem? (i := 19) rfl))) (Or.inl (hw _ (List.mem_of_getElem? (i := 21) rfl))) (by decide) (t := .int) (t' := .int) (by decide) (by decide)))).other W12 (Or.inr (slot_ne (Or.inl (hw _ (List.mem_of_getElem? (i := 19) rfl))) (Or.inl (hw _ (List.mem_of_getElem? (i := 23) rfl))) (by decide) (t := .int) (t' := .int) (by decide) (by decide)))).other W17 (Or.inr (slot_ne (Or.inl (hw _ (List.mem_of_getElem? (i := 19) rfl))) (Or.inr (hw _ (List.mem_of_getElem? (i := 25) rfl))) (by decide) (t := .int) (t' := (.object "java/lang/String")) (by decide) (by decide)))).other W22 (Or.inr (slot_ne (Or.inl (hw _ (List.mem_of_getElem? (i := 19) rfl))) (Or.inl (hw _ (List.mem_of_getElem? (i := 27) rfl))) (by decide) (t := .int) (t' := (.array .char)) (by decide) (by decide)))).other W27 (Or.inr (slot_ne (Or.inl (hw _ (List.mem_of_getElem? (i := 19) rfl))) (Or.inr (hw _ (List.mem_of_getElem? (i := 29) rfl))) (by decide) (t := .int) (t' := .int) (by decide) (by decide)))).other W158 (Or.inr (slot_ne (Or.inl (hw _ (List.mem_of_getElem? (i := 19) rfl))) (Or.inr (hw _ (List.mem_of_getElem? (i := 36) rfl))) (by decide) (t := .int) (t' := .boolean) (by decide) (by decide)))).other W165 (Or.inr (slot_ne (Or.inl (hw _ (List.mem_of_getElem? (i := 19) rfl))) (Or.inl (hw _ (List.mem_of_getElem? (i := 45) rfl))) (by decide) (t := .int) (t' := .int) (by decide) (by decide)))).other W170 (Or.inr (slot_ne (Or.inl (hw _ (List.mem_of_getElem? (i := 19) rfl))) (Or.inl (hw _ (List.mem_of_getElem? (i := 52) rfl))) (by decide) (t := .int) (t' := .int) (by decide) (by decide))))
            have lf175 := fa174
            have fa176 : Fld Z h170 a1 "com/example/endcon/endcon/yaml/Cursor" "blankLinesFrom" "I" (.int (-1 : Int32)) := (((((((Fw7.other W12 (Or.inr (slot_ne (Or.inl (hw _ (List.mem_of_getElem? (i := 21) rfl))) (Or.inl (hw _ (List.mem_of_getElem? (i := 23) rfl))) (by decide) (t := .int) (t' := .int) (by decide) (by decide)))).other W17 (Or.inr (slot_ne (Or.inl (hw _ (List.mem_of_getElem? (i := 21) rfl))) (Or.inr (hw _ (List.mem_of_getElem? (i := 25) rfl))) (by decide) (t := .int) (t' := (.object "java/lang/String")) (by decide) (by decide)))).other W22 (Or.inr (slot_ne (Or.inl (hw _ (List.mem_of_getElem? (i := 21) rfl))) (Or.inl (hw _ (List.mem_of_getElem? (i := 27) rfl))) (by decide) (t := .int) (t' := (.array .char)) (by decide) (by decide)))).other W27 (Or.inr (slot_ne (Or.inl (hw _ (List.mem_of_getElem? (i := 21) rfl))) (Or.inr (hw _ (List.mem_of_getElem? (i := 29) rfl))) (by decide) (t := .int) (t' := .int) (by decide) (by decide)))).other W158 (Or.inr (slot_ne (Or.inl (hw _ (List.mem_of_getElem? (i := 21) rfl))) (Or.inr (hw _ (List.mem_of_getElem? (i := 36) rfl))) (by decide) (t := .int) (t' := .boolean) (by decide) (by decide)))).other W165 (Or.inr (slot_ne (Or.inl (hw _ (List.mem_of_getElem? (i := 21) rfl))) (Or.inl (hw _ (List.mem_of_getElem? (i := 45) rfl))) (by decide) (t := .int) (t' := .int) (by decide) (by decide)))).other W170 (Or.inr (slot_ne (Or.inl (hw _ (List.mem_of_getElem? (i := 21) rfl))) (Or.inl (hw _ (List.mem_of_getElem? (i := 52) rfl))) (by decide) (t := .int) (t' := .int) (by decide) (by decide))))
            have lf177 := fa176
            have fa178 : Fld Z h170 a1 "com/example/endcon/endcon/yaml/Cursor" "countedIndex" "I" (.int (-1 : Int32)) := ((((((Fw12.other W17 (Or.inr (slot_ne (Or.inl (hw _ (List.mem_of_getElem? (i := 23) rfl))) (Or.inr (hw _ (List.mem_of_getElem? (i := 25) rfl))) (by decide) (t := .int) (t' := (.object "java/lang/String")) (by decide) (by decide)))).other W22 (Or.inr (slot_ne (Or.inl (hw _ (List.mem_of_getElem? (i := 23) rfl))) (Or.inl (hw _ (List.mem_of_getElem? (i := 27) rfl))) (by decide) (t := .int) (t' := (.array .char)) (by decide) (by decide)))).other W27 (Or.inr (slot_ne (Or.inl (hw _ (List.mem_of_getElem? (i := 23) rfl))) (Or.inr (hw _ (List.mem_of_getElem? (i := 29) rfl))) (by decide) (t := .int) (t' := .int) (by decide) (by decide)))).other W158 (Or.inr (slot_ne (Or.inl (hw _ (List.mem_of_getElem? (i := 23) rfl))) (Or.inr (hw _ (List.mem_of_getElem? (i := 36) rfl))) (by decide) (t := .int) (t' := .boolean) (by decide) (by decide)))).other W165 (Or.inr (slot_ne (Or.inl (hw _ (List.mem_of_getElem? (i := 23) rfl))) (Or.inl (hw _ (List.mem_of_getElem? (i := 45) rfl))) (by decide) (t := .int) (t' := .int) (by decide) (by decide)))).other W170 (Or.inr (slot_ne (Or.inl (hw _ (List.mem_of_getElem? (i := 23) rfl))) (Or.inl (hw _ (List.mem_of_getElem? (i := 52) rfl))) (by decide) (t := .int) (t' := .int) (by decide) (by decide))))
            have lf179 := fa178
            have fa180 : Fld Z h170 a1 "com/example/endcon/endcon/yaml/Cursor" "file" "Ljava/lang/String;" (.ref a2) := (((((Fw17.other W22 (Or.inr (slot_ne (Or.inr (hw _ (List.mem_of_getElem? (i := 25) rfl))) (Or.inl (hw _ (List.mem_of_getElem? (i := 27) rfl))) (by decide) (t := (.object "java/lang/String")) (t' := (.array .char)) (by decide) (by decide)))).other W27 (Or.inr (slot_ne (Or.inr (hw _ (List.mem_of_getElem? (i := 25) rfl))) (Or.inr (hw _ (List.mem_of_getElem? (i := 29) rfl))) (by decide) (t := (.object "java/lang/String")) (t' := .int) (by decide) (by decide)))).other W158 (Or.inr (slot_ne (Or.inr (hw _ (List.mem_of_getElem? (i := 25) rfl))) (Or.inr (hw _ (List.mem_of_getElem? (i := 36) rfl))) (by decide) (t := (.object "java/lang/String")) (t' := .boolean) (by decide) (by decide)))).other W165 (Or.inr (slot_ne (Or.inr (hw _ (List.mem_of_getElem? (i := 25) rfl))) (Or.inl (hw _ (List.mem_of_getElem? (i := 45) rfl))) (by decide) (t := (.object "java/lang/String")) (t' := .int) (by decide) (by decide)))).other W170 (Or.inr (slot_ne (Or.inr (hw _ (List.mem_of_getElem? (i := 25) rfl))) (Or.inl (hw _ (List.mem_of_getElem? (i := 52) rfl))) (by decide) (t := (.object "java/lang/String")) (t' := .int) (by decide) (by decide))))
            have lf181 := fa180
            have fa182 : Fld Z h170 a1 "com/example/endcon/endcon/yaml/Cursor" "text" "[C" (.ref a3) := ((((Fw22.other W27 (Or.inr (slot_ne (Or.inl (hw _ (List.mem_of_getElem? (i := 27) rfl))) (Or.inr (hw _ (List.mem_of_getElem? (i := 29) rfl))) (by decide) (t := (.array .char)) (t' := .int) (by decide) (by decide)))).other W158 (Or.inr (slot_ne (Or.inl (hw _ (List.mem_of_getElem? (i := 27) rfl))) (Or.inr (hw _ (List.mem_of_getElem? (i := 36) rfl))) (by decide) (t := (.array .char)) (t' := .boolean) (by decide) (by decide)))).other W165 (Or.inr (slot_ne (Or.inl (hw _ (List.mem_of_getElem? (i := 27) rfl))) (Or.inl (hw _ (List.mem_of_getElem? (i := 45) rfl))) (by decide) (t := (.array .char)) (t' := .int) (by decide) (by decide)))).other W170 (Or.inr (slot_ne (Or.inl (hw _ (List.mem_of_getElem? (i := 27) rfl))) (Or.inl (hw _ (List.mem_of_getElem? (i := 52) rfl))) (by decide) (t := (.array .char)) (t' := .int) (by decide) (by decide))))
            have lf183 := fa182
            have fa184 : Fld Z h170 a1 "com/example/endcon/endcon/yaml/Cursor" "end" "I" (.int p4) := (((Fw27.other W158 (Or.inr (slot_ne (Or.inr (hw _ (List.mem_of_getElem? (i := 29) rfl))) (Or.inr (hw _ (List.mem_of_getElem? (i := 36) rfl))) (by decide) (t := .int) (t' := .boolean) (by decide) (by decide)))).other W165 (Or.inr (slot_ne (Or.inr (hw _ (List.mem_of_getElem? (i := 29) rfl))) (Or.inl (hw _ (List.mem_of_getElem? (i := 45) rfl))) (by decide) (t := .int) (t' := .int) (by decide) (by decide)))).other W170 (Or.inr (slot_ne (Or.inr (hw _ (List.mem_of_getElem? (i := 29) rfl))) (Or.inl (hw _ (List.mem_of_getElem? (i := 52) rfl))) (by decide) (t := .int) (t' := .int) (by decide) (by decide))))
            have lf185 := fa184
            have fa186 : Fld Z h170 a1 "com/example/endcon/endcon/yaml/Cursor" "hasSurrogates" "Z" (.int (nar .boolean (f3 c1))) := ((Fw158.other W165 (Or.inr (slot_ne (Or.inr (hw _ (List.mem_of_getElem? (i := 36) rfl))) (Or.inl (hw _ (List.mem_of_getElem? (i := 45) rfl))) (by decide) (t := .boolean) (t' := .int) (by decide) (by decide)))).other W170 (Or.inr (slot_ne (Or.inr (hw _ (List.mem_of_getElem? (i := 36) rfl))) (Or.inl (hw _ (List.mem_of_getElem? (i := 52) rfl))) (by decide) (t := .boolean) (t' := .int) (by decide) (by decide))))
            have lf187 : Fld Z h170 a1 "com/example/endcon/endcon/yaml/Cursor" "hasSurrogates" "Z" (.int (f1b_a1_hasSurrogates p4 c0 c1 c2 c3)) := by rw [f1b_a1_hasSurrogates, if_pos hc34, if_pos hc36, if_pos hc40, if_neg hc42]; exact fa186
            have fa188 : Fld Z h170 a1 "com/example/endcon/endcon/yaml/Cursor" "pos" "I" (.int (1 : Int32)) := (Fw165.other W170 (Or.inr (slot_ne (Or.inl (hw _ (List.mem_of_getElem? (i := 45) rfl))) (Or.inl (hw _ (List.mem_of_getElem? (i := 52) rfl))) (by decide) (t := .int) (t' := .int) (by decide) (by decide))))
            have lf189 := fa188
            have lf190 := Fw170
            exact ⟨rfl, N170, kp172, fa173, lf175, lf177, lf179, lf181, lf183, lf185, lf187, lf189, lf190⟩
      · have fa191 : Fld Z h27 a1 "com/example/endcon/endcon/yaml/Cursor" "hasSurrogates" "Z" (.int (0 : Int32)) := ((((((F_a1_hasSurrogates.other W2 (Or.inr (slot_ne (Or.inr (hw _ (List.mem_of_getElem? (i := 36) rfl))) (Or.inl (hw _ (List.mem_of_getElem? (i := 19) rfl))) (by decide) (t := .boolean) (t' := .int) (by decide) (by decide)))).other W7 (Or.inr (slot_ne (Or.inr (hw _ (List.mem_of_getElem? (i := 36) rfl))) (Or.inl (hw _ (List.mem_of_getElem? (i := 21) rfl))) (by decide) (t := .boolean) (t' := .int) (by decide) (by decide)))).other W12 (Or.inr (slot_ne (Or.inr (hw _ (List.mem_of_getElem? (i := 36) rfl))) (Or.inl (hw _ (List.mem_of_getElem? (i := 23) rfl))) (by decide) (t := .boolean) (t' := .int) (by decide) (by decide)))).other W17 (Or.inr (slot_ne (Or.inr (hw _ (List.mem_of_getElem? (i := 36) rfl))) (Or.inr (hw _ (List.mem_of_getElem? (i := 25) rfl))) (by decide) (t := .boolean) (t' := (.object "java/lang/String")) (by decide) (by decide)))).other W22 (Or.inr (slot_ne (Or.inr (hw _ (List.mem_of_getElem? (i := 36) rfl))) (Or.inl (hw _ (List.mem_of_getElem? (i := 27) rfl))) (by decide) (t := .boolean) (t' := (.array .char)) (by decide) (by decide)))).other W27 (Or.inr (slot_ne (Or.inr (hw _ (List.mem_of_getElem? (i := 36) rfl))) (Or.inr (hw _ (List.mem_of_getElem? (i := 29) rfl))) (by decide) (t := .boolean) (t' := .int) (by decide) (by decide))))
        have fa192 : Exa Z h27 a1 "com/example/endcon/endcon/yaml/Cursor" := (fa26.wr W27)
        obtain ⟨T193, h193, X193, e193, W193, st193⟩ := putFN X38 hx hZ hown (hw _ (List.mem_of_getElem? (i := 35) rfl)) Via.refl e38 fa191 fa192 (Or.inr ⟨(hw _ (List.mem_of_getElem? (i := 36) rfl)), rfl, hnm⟩) (hw _ (List.mem_of_getElem? (i := 2) rfl)) (ty := .boolean) (v' := (.int (nar .boolean (f3 c1)))) (by decide) rfl (fits_nar_bool _) (g := (mkF m 69 #[.val (.ref a1), .val (.ref a2), .val (.ref a3), .val (.int p4), .val (.int (f3 c1)), .val (.int (2 : Int32))] [(.int (f3 c1)), (.ref a1)])) rfl rfl (hb hby d1_69)
        have Fw193 : Fld Z h193 a1 "com/example/endcon/endcon/yaml/Cursor" "hasSurrogates" "Z" (.int (nar .boolean (f3 c1))) := fa191.same W193
        have zs194 : n0 ≤ h193.size := Nat.le_trans zs28 (Keep.of_wr W193).1
        have kp195 : Keep h0 h193 [a1] := kp29.wr W193 (Or.inl (List.mem_of_getElem? (i := 0) rfl))
        have N193 := Fr.snoc X193 N38 g_a1
        have fa196 : Arv Z h193 a3 k_a3 .char (4 : Int32) [(.int c0), (.int c1), (.int c2), (.int c3)] (.int (0 : Int32)) := (fa30.other W193 (Ne.symm ne_a1_a3))
        obtain ⟨cx197, Ar197, qq197, S197, N197_, H197, G197⟩ := id fa196
        have hin197 : ¬ ((0 : Int32) < 0 ∨ cx197.slots.size ≤ ((0 : Int32)).toNatClampNeg) := inb_of S197 ⟨by decide, by decide⟩
        have hat197 : cx197.slots[((0 : Int32)).toNatClampNeg]? = some (.int c0) := (H197 ((0 : Int32)).toNatClampNeg (Nat.lt_of_not_le fun w => hin197 (Or.inr w))).trans (congrArg some (rfl))
        have fa198 : Fld Z h193 a1 "com/example/endcon/endcon/yaml/Cursor" "pos" "I" (.int (0 : Int32)) := (((((((F_a1_pos.other W2 (Or.inr (slot_ne (Or.inl (hw _ (List.mem_of_getElem? (i := 45) rfl))) (Or.inl (hw _ (List.mem_of_getElem? (i := 19) rfl))) (by decide) (t := .int) (t' := .int) (by decide) (by decide)))).other W7 (Or.inr (slot_ne (Or.inl (hw _ (List.mem_of_getElem? (i := 45) rfl))) (Or.inl (hw _ (List.mem_of_getElem? (i := 21) rfl))) (by decide) (t := .int) (t' := .int) (by decide) (by decide)))).other W12 (Or.inr (slot_ne (Or.inl (hw _ (List.mem_of_getElem? (i := 45) rfl))) (Or.inl (hw _ (List.mem_of_getElem? (i := 23) rfl))) (by decide) (t := .int) (t' := .int) (by decide) (by decide)))).other W17 (Or.inr (slot_ne (Or.inl (hw _ (List.mem_of_getElem? (i := 45) rfl))) (Or.inr (hw _ (List.mem_of_getElem? (i := 25) rfl))) (by decide) (t := .int) (t' := (.object "java/lang/String")) (by decide) (by decide)))).other W22 (Or.inr (slot_ne (Or.inl (hw _ (List.mem_of_getElem? (i := 45) rfl))) (Or.inl (hw _ (List.mem_of_getElem? (i := 27) rfl))) (by decide) (t := .int) (t' := (.array .char)) (by decide) (by decide)))).other W27 (Or.inr (slot_ne (Or.inl (hw _ (List.mem_of_getElem? (i := 45) rfl))) (Or.inr (hw _ (List.mem_of_getElem? (i := 29) rfl))) (by decide) (t := .int) (t' := .int) (by decide) (by decide)))).other W193 (Or.inr (slot_ne (Or.inl (hw _ (List.mem_of_getElem? (i := 45) rfl))) (Or.inr (hw _ (List.mem_of_getElem? (i := 36) rfl))) (by decide) (t := .int) (t' := .boolean) (by decide) (by decide))))
        have fa199 : Exa Z h193 a1 "com/example/endcon/endcon/yaml/Cursor" := (fa192.wr W193)
        obtain ⟨T200, h200, X200, e200, W200, st200⟩ := putF X193 hx hZ hown (host := "") (Or.inl (hw _ (List.mem_of_getElem? (i := 44) rfl))) Via.refl e193 fa198 fa199 (Or.inl (hw _ (List.mem_of_getElem? (i := 45) rfl))) (hw _ (List.mem_of_getElem? (i := 2) rfl)) (ty := .int) (by decide) rfl rfl (g := (mkF m 86 #[.val (.ref a1), .val (.ref a2), .val (.ref a3), .val (.int p4), .val (.int (f3 c1)), .val (.int (2 : Int32))] [(.int (1 : Int32)), (.ref a1)])) rfl rfl (hb hby d1_86)
        have Fw200 : Fld Z h200 a1 "com/example/endcon/endcon/yaml/Cursor" "pos" "I" (.int (1 : Int32)) := fa198.same W200
        have zs201 : n0 ≤ h200.size := Nat.le_trans zs194 (Keep.of_wr W200).1
        have kp202 : Keep h0 h200 [a1] := kp195.wr W200 (Or.inl (List.mem_of_getElem? (i := 0) rfl))
        have N200 := Fr.snoc X200 N193 g_a1
        have fa203 : Fld Z h200 a1 "com/example/endcon/endcon/yaml/Cursor" "lineStart" "I" (.int (0 : Int32)) := ((((((((F_a1_lineStart.other W2 (Or.inr (slot_ne (Or.inl (hw _ (List.mem_of_getElem? (i := 52) rfl))) (Or.inl (hw _ (List.mem_of_getElem? (i := 19) rfl))) (by decide) (t := .int) (t' := .int) (by decide) (by decide)))).other W7 (Or.inr (slot_ne (Or.inl (hw _ (List.mem_of_getElem? (i := 52) rfl))) (Or.inl (hw _ (List.mem_of_getElem? (i := 21) rfl))) (by decide) (t := .int) (t' := .int) (by decide) (by decide)))).other W12 (Or.inr (slot_ne (Or.inl (hw _ (List.mem_of_getElem? (i := 52) rfl))) (Or.inl (hw _ (List.mem_of_getElem? (i := 23) rfl))) (by decide) (t := .int) (t' := .int) (by decide) (by decide)))).other W17 (Or.inr (slot_ne (Or.inl (hw _ (List.mem_of_getElem? (i := 52) rfl))) (Or.inr (hw _ (List.mem_of_getElem? (i := 25) rfl))) (by decide) (t := .int) (t' := (.object "java/lang/String")) (by decide) (by decide)))).other W22 (Or.inr (slot_ne (Or.inl (hw _ (List.mem_of_getElem? (i := 52) rfl))) (Or.inl (hw _ (List.mem_of_getElem? (i := 27) rfl))) (by decide) (t := .int) (t' := (.array .char)) (by decide) (by decide)))).other W27 (Or.inr (slot_ne (Or.inl (hw _ (List.mem_of_getElem? (i := 52) rfl))) (Or.inr (hw _ (List.mem_of_getElem? (i := 29) rfl))) (by decide) (t := .int) (t' := .int) (by decide) (by decide)))).other W193 (Or.inr (slot_ne (Or.inl (hw _ (List.mem_of_getElem? (i := 52) rfl))) (Or.inr (hw _ (List.mem_of_getElem? (i := 36) rfl))) (by decide) (t := .int) (t' := .boolean) (by decide) (by decide)))).other W200 (Or.inr (slot_ne (Or.inl (hw _ (List.mem_of_getElem? (i := 52) rfl))) (Or.inl (hw _ (List.mem_of_getElem? (i := 45) rfl))) (by decide) (t := .int) (t' := .int) (by decide) (by decide))))
        have fa204 : Exa Z h200 a1 "com/example/endcon/endcon/yaml/Cursor" := (fa199.wr W200)
        obtain ⟨T205, h205, X205, e205, W205, st205⟩ := putF X200 hx hZ hown (host := "") (Or.inl (hw _ (List.mem_of_getElem? (i := 51) rfl))) Via.refl e200 fa203 fa204 (Or.inl (hw _ (List.mem_of_getElem? (i := 52) rfl))) (hw _ (List.mem_of_getElem? (i := 2) rfl)) (ty := .int) (by decide) rfl rfl (g := (mkF m 91 #[.val (.ref a1), .val (.ref a2), .val (.ref a3), .val (.int p4), .val (.int (f3 c1)), .val (.int (2 : Int32))] [(.int (1 : Int32)), (.ref a1)])) rfl rfl (hb hby d1_91)
        have Fw205 : Fld Z h205 a1 "com/example/endcon/endcon/yaml/Cursor" "lineStart" "I" (.int (1 : Int32)) := fa203.same W205
        have zs206 : n0 ≤ h205.size := Nat.le_trans zs201 (Keep.of_wr W205).1
        have kp207 : Keep h0 h205 [a1] := kp202.wr W205 (Or.inl (List.mem_of_getElem? (i := 0) rfl))
        have N205 := Fr.snoc X205 N200 g_a1
        obtain ⟨fs, hr, hrun, hended, hW, hsame⟩ := X205.leave (v := none) (fun _ => rfl)
        refine ⟨_, _, pre39 _ ?_, hrun, hended, _, _, rfl, ?_, ⟨_, rfl⟩, hW, hsame.mono (by decide) (by decide)⟩
        · show Steps p.tables e below (T38.setTop (mkF m 43 #[.val (.ref a1), .val (.ref a2), .val (.ref a3), .val (.int p4), .val (.int (f3 c1)), .val (.int (2 : Int32))] [(.int p4), (.int (2 : Int32))])) _
          refine XS.icmpYes X38.here hx rfl (pc0 := 43) (pc' := 66) rfl (hb hby d1_43) rfl (flt hc40).2.1 (by decide) (by decide) ?_
          show Steps p.tables e below (T38.setTop (mkF m 66 #[.val (.ref a1), .val (.ref a2), .val (.ref a3), .val (.int p4), .val (.int (f3 c1)), .val (.int (2 : Int32))] [])) _
          refine own_blk X38 hx bl1_66_2 (own_hb hby bd1_66_2) (pc' := 69) (Ls' := #[.val (.ref a1), .val (.ref a2), .val (.ref a3), .val (.int p4), .val (.int (f3 c1)), .val (.int (2 : Int32))]) (st' := [(.int (f3 c1)), (.ref a1)]) rfl ?_
          refine st193 _ ?_
          show Steps p.tables e below (T193.setTop (mkF m 72 #[.val (.ref a1), .val (.ref a2), .val (.ref a3), .val (.int p4), .val (.int (f3 c1)), .val (.int (2 : Int32))] [])) _
          refine own_blk X193 hx bl1_72_1 (own_hb hby bd1_72_1) (pc' := 73) (Ls' := #[.val (.ref a1), .val (.ref a2), .val (.ref a3), .val (.int p4), .val (.int (f3 c1)), .val (.int (2 : Int32))]) (st' := [(.int p4)]) rfl ?_
          refine XS.ifNo X193.here hx rfl (hb hby d1_73) rfl ((if0 _ _).trans (tlt hz).2.2.2) ?_
          show Steps p.tables e below (T193.setTop (mkF m 76 #[.val (.ref a1), .val (.ref a2), .val (.ref a3), .val (.int p4), .val (.int (f3 c1)), .val (.int (2 : Int32))] [])) _
          refine own_blk X193 hx bl1_76_2 (own_hb hby bd1_76_2) (pc' := 78) (Ls' := #[.val (.ref a1), .val (.ref a2), .val (.ref a3), .val (.int p4), .val (.int (f3 c1)), .val (.int (2 : Int32))]) (st' := [(.int (0 : Int32)), (.ref a3)]) rfl ?_
          refine X193.caload hx (j := (0 : Int32)) (v := (.int c0)) (by rw [e193]; exact Ar197.1) (State.isArrayOf_alike hZ.alike Ar197.2.1) Ar197.2.2 hin197 hat197 (g := (mkF m 78 #[.val (.ref a1), .val (.ref a2), .val (.ref a3), .val (.int p4), .val (.int (f3 c1)), .val (.int (2 : Int32))] [(.int (0 : Int32)), (.ref a3)])) rfl rfl (hb hby d1_78) _ ?_
          show Steps p.tables e below (T193.setTop (mkF m 79 #[.val (.ref a1), .val (.ref a2), .val (.ref a3), .val (.int p4), .val (.int (f3 c1)), .val (.int (2 : Int32))] [(.int c0)])) _
          refine X193.ldcInt hx hown (mvT hZ (hw _ (List.mem_of_getElem? (i := 37) rfl))) (g := (mkF m 79 #[.val (.ref a1), .val (.ref a2), .val (.ref a3), .val (.int p4), .val (.int (f3 c1)), .val (.int (2 : Int32))] [(.int c0)])) rfl (hb hby d1_79) _ ?_
          show Steps p.tables e below (T193.setTop (mkF m 81 #[.val (.ref a1), .val (.ref a2), .val (.ref a3), .val (.int p4), .val (.int (f3 c1)), .val (.int (2 : Int32))] [(.int (65279 : Int32)), (.int c0)])) _
          refine XS.icmpNo X193.here hx rfl (hb hby d1_81) rfl (teq hbm).2 ?_
          show Steps p.tables e below (T193.setTop (mkF m 84 #[.val (.ref a1), .val (.ref a2), .val (.ref a3), .val (.int p4), .val (.int (f3 c1)), .val (.int (2 : Int32))] [])) _
          refine own_blk X193 hx bl1_84_2 (own_hb hby bd1_84_2) (pc' := 86) (Ls' := #[.val (.ref a1), .val (.ref a2), .val (.ref a3), .val (.int p4), .val (.int (f3 c1)), .val (.int (2 : Int32))]) (st' := [(.int (1 : Int32)), (.ref a1)]) rfl ?_
          refine st200 _ ?_
          show Steps p.tables e below (T200.setTop (mkF m 89 #[.val (.ref a1), .val (.ref a2), .val (.ref a3), .val (.int p4), .val (.int (f3 c1)), .val (.int (2 : Int32))] [])) _
          refine own_blk X200 hx bl1_89_2 (own_hb hby bd1_89_2) (pc' := 91) (Ls' := #[.val (.ref a1), .val (.ref a2), .val (.ref a3), .val (.int p4), .val (.int (f3 c1)), .val (.int (2 : Int32))]) (st' := [(.int (1 : Int32)), (.ref a1)]) rfl ?_
          refine st205 _ ?_
          show Steps p.tables e below (T205.setTop (mkF m 94 #[.val (.ref a1), .val (.ref a2), .val (.ref a3), .val (.int p4), .val (.int (f3 c1)), .val (.int (2 : Int32))] [])) _
          exact X205.returnOut hx Bd.returns (hb hby d1_94) hr
        · show Q1b Z a1 a2 a3 p4 c0 c1 c2 c3 k_a3 h0 n0 _ T205.heap _
          rw [e205]
          have fa208 : Exa Z h205 a1 "com/example/endcon/endcon/yaml/Cursor" := (fa204.wr W205)
          have fa209 : Fld Z h205 a1 "com/example/endcon/endcon/yaml/Cursor" "line" "I" (.int (1 : Int32)) := ((((((((Fw2.other W7 (Or.inr (slot_ne (Or.inl (hw _ (List.mem_of_getElem? (i := 19) rfl))) (Or.inl (hw _ (List.mem_of_getElem? (i := 21) rfl))) (by decide) (t := .int) (t' := .int) (by decide) (by decide)))).other W12 (Or.inr (slot_ne (Or.inl (hw _ (List.mem_of_getElem? (i := 19) rfl))) (Or.inl (hw _ (List.mem_of_getElem? (i := 23) rfl))) (by decide) (t := .int) (t' := .int) (by decide) (by decide)))).other W17 (Or.inr (slot_ne (Or.inl (hw _ (List.mem_of_getElem? (i := 19) rfl))) (Or.inr (hw _ (List.mem_of_getElem? (i := 25) rfl))) (by decide) (t := .int) (t' := (.object "java/lang/String")) (by decide) (by decide)))).other W22 (Or.inr (slot_ne (Or.inl (hw _ (List.mem_of_getElem? (i := 19) rfl))) (Or.inl (hw _ (List.mem_of_getElem? (i := 27) rfl))) (by decide) (t := .int) (t' := (.array .char)) (by decide) (by decide)))).other W27 (Or.inr (slot_ne (Or.inl (hw _ (List.mem_of_getElem? (i := 19) rfl))) (Or.inr (hw _ (List.mem_of_getElem? (i := 29) rfl))) (by decide) (t := .int) (t' := .int) (by decide) (by decide)))).other W193 (Or.inr (slot_ne (Or.inl (hw _ (List.mem_of_getElem? (i := 19) rfl))) (Or.inr (hw _ (List.mem_of_getElem? (i := 36) rfl))) (by decide) (t := .int) (t' := .boolean) (by decide) (by decide)))).other W200 (Or.inr (slot_ne (Or.inl (hw _ (List.mem_of_getElem? (i := 19) rfl))) (Or.inl (hw _ (List.mem_of_getElem? (i := 45) rfl))) (by decide) (t := .int) (t' := .int) (by decide) (by decide)))).other W205 (Or.inr (slot_ne (Or.inl (hw _ (List.mem_of_getElem? (i := 19) rfl))) (Or.inl (hw _ (List.mem_of_getElem? (i := 52) rfl))) (by decide) (t := .int) (t' := .int) (by decide) (by decide))))
          have lf210 := fa209
          have fa211 : Fld Z h205 a1 "com/example/endcon/endcon/yaml/Cursor" "blankLinesFrom" "I" (.int (-1 : Int32)) := (((((((Fw7.other W12 (Or.inr (slot_ne (Or.inl (hw _ (List.mem_of_getElem? (i := 21) rfl))) (Or.inl (hw _ (List.mem_of_getElem? (i := 23) rfl))) (by decide) (t := .int) (t' := .int) (by decide) (by decide)))).other W17 (Or.inr (slot_ne (Or.inl (hw _ (List.mem_of_getElem? (i := 21) rfl))) (Or.inr (hw _ (List.mem_of_getElem? (i := 25) rfl))) (by decide) (t := .int) (t' := (.object "java/lang/String")) (by decide) (by decide)))).other W22 (Or.inr (slot_ne (Or.inl (hw _ (List.mem_of_getElem? (i := 21) rfl))) (Or.inl (hw _ (List.mem_of_getElem? (i := 27) rfl))) (by decide) (t := .int) (t' := (.array .char)) (by decide) (by decide)))).other W27 (Or.inr (slot_ne (Or.inl (hw _ (List.mem_of_getElem? (i := 21) rfl))) (Or.inr (hw _ (List.mem_of_getElem? (i := 29) rfl))) (by decide) (t := .int) (t' := .int) (by decide) (by decide)))).other W193 (Or.inr (slot_ne (Or.inl (hw _ (List.mem_of_getElem? (i := 21) rfl))) (Or.inr (hw _ (List.mem_of_getElem? (i := 36) rfl))) (by decide) (t := .int) (t' := .boolean) (by decide) (by decide)))).other W200 (Or.inr (slot_ne (Or.inl (hw _ (List.mem_of_getElem? (i := 21) rfl))) (Or.inl (hw _ (List.mem_of_getElem? (i := 45) rfl))) (by decide) (t := .int) (t' := .int) (by decide) (by decide)))).other W205 (Or.inr (slot_ne (Or.inl (hw _ (List.mem_of_getElem? (i := 21) rfl))) (Or.inl (hw _ (List.mem_of_getElem? (i := 52) rfl))) (by decide) (t := .int) (t' := .int) (by decide) (by decide))))
          have lf212 := fa211
          have fa213 : Fld Z h205 a1 "com/example/endcon/endcon/yaml/Cursor" "countedIndex" "I" (.int (-1 : Int32)) := ((((((Fw12.other W17 (Or.inr (slot_ne (Or.inl (hw _ (List.mem_of_getElem? (i := 23) rfl))) (Or.inr (hw _ (List.mem_of_getElem? (i := 25) rfl))) (by decide) (t := .int) (t' := (.object "java/lang/String")) (by decide) (by decide)))).other W22 (Or.inr (slot_ne (Or.inl (hw _ (List.mem_of_getElem? (i := 23) rfl))) (Or.inl (hw _ (List.mem_of_getElem? (i := 27) rfl))) (by decide) (t := .int) (t' := (.array .char)) (by decide) (by decide)))).other W27 (Or.inr (slot_ne (Or.inl (hw _ (List.mem_of_getElem? (i := 23) rfl))) (Or.inr (hw _ (List.mem_of_getElem? (i := 29) rfl))) (by decide) (t := .int) (t' := .int) (by decide) (by decide)))).other W193 (Or.inr (slot_ne (Or.inl (hw _ (List.mem_of_getElem? (i := 23) rfl))) (Or.inr (hw _ (List.mem_of_getElem? (i := 36) rfl))) (by decide) (t := .int) (t' := .boolean) (by decide) (by decide)))).other W200 (Or.inr (slot_ne (Or.inl (hw _ (List.mem_of_getElem? (i := 23) rfl))) (Or.inl (hw _ (List.mem_of_getElem? (i := 45) rfl))) (by decide) (t := .int) (t' := .int) (by decide) (by decide)))).other W205 (Or.inr (slot_ne (Or.inl (hw _ (List.mem_of_getElem? (i := 23) rfl))) (Or.inl (hw _ (List.mem_of_getElem? (i := 52) rfl))) (by decide) (t := .int) (t' := .int) (by decide) (by decide))))
          have lf214 := fa213
          have fa215 : Fld Z h205 a1 "com/example/endcon/endcon/yaml/Cursor" "file" "Ljava/lang/String;" (.ref a2) := (((((Fw17.other W22 (Or.inr (slot_ne (Or.inr (hw _ (List.mem_of_getElem? (i := 25) rfl))) (Or.inl (hw _ (List.mem_of_getElem? (i := 27) rfl))) (by decide) (t := (.object "java/lang/String")) (t' := (.array .char)) (by decide) (by decide)))).other W27 (Or.inr (slot_ne (Or.inr (hw _ (List.mem_of_getElem? (i := 25) rfl))) (Or.inr (hw _ (List.mem_of_getElem? (i := 29) rfl))) (by decide) (t := (.object "java/lang/String")) (t' := .int) (by decide) (by decide)))).other W193 (Or.inr (slot_ne (Or.inr (hw _ (List.mem_of_getElem? (i := 25) rfl))) (Or.inr (hw _ (List.mem_of_getElem? (i := 36) rfl))) (by decide) (t := (.object "java/lang/String")) (t' := .boolean) (by decide) (by decide)))).other W200 (Or.inr (slot_ne (Or.inr (hw _ (List.mem_of_getElem? (i := 25) rfl))) (Or.inl (hw _ (List.mem_of_getElem? (i := 45) rfl))) (by decide) (t := (.object "java/lang/String")) (t' := .int) (by decide) (by decide)))).other W205 (Or.inr (slot_ne (Or.inr (hw _ (List.mem_of_getElem? (i := 25) rfl))) (Or.inl (hw _ (List.mem_of_getElem? (i := 52) rfl))) (by decide) (t := (.object "java/lang/String")) (t' := .int) (by decide) (by decide))))
          have lf216 := fa215
          have fa217 : Fld Z h205 a1 "com/example/endcon/endcon/yaml/Cursor" "text" "[C" (.ref a3) := ((((Fw22.other W27 (Or.inr (slot_ne (Or.inl (hw _ (List.mem_of_getElem? (i := 27) rfl))) (Or.inr (hw _ (List.mem_of_getElem? (i := 29) rfl))) (by decide) (t := (.array .char)) (t' := .int) (by decide) (by decide)))).other W193 (Or.inr (slot_ne (Or.inl (hw _ (List.mem_of_getElem? (i := 27) rfl))) (Or.inr (hw _ (List.mem_of_getElem? (i := 36) rfl))) (by decide) (t := (.array .char)) (t' := .boolean) (by decide) (by decide)))).other W200 (Or.inr (slot_ne (Or.inl (hw _ (List.mem_of_getElem? (i := 27) rfl))) (Or.inl (hw _ (List.mem_of_getElem? (i := 45) rfl))) (by decide) (t := (.array .char)) (t' := .int) (by decide) (by decide)))).other W205 (Or.inr (slot_ne (Or.inl (hw _ (List.mem_of_getElem? (i := 27) rfl))) (Or.inl (hw _ (List.mem_of_getElem? (i := 52) rfl))) (by decide) (t := (.array .char)) (t' := .int) (by decide) (by decide))))
          have lf218 := fa217
          have fa219 : Fld Z h205 a1 "com/example/endcon/endcon/yaml/Cursor" "end" "I" (.int p4) := (((Fw27.other W193 (Or.inr (slot_ne (Or.inr (hw _ (List.mem_of_getElem? (i := 29) rfl))) (Or.inr (hw _ (List.mem_of_getElem? (i := 36) rfl))) (by decide) (t := .int) (t' := .boolean) (by decide) (by decide)))).other W200 (Or.inr (slot_ne (Or.inr (hw _ (List.mem_of_getElem? (i := 29) rfl))) (Or.inl (hw _ (List.mem_of_getElem? (i := 45) rfl))) (by decide) (t := .int) (t' := .int) (by decide) (by decide)))).other W205 (Or.inr (slot_ne (Or.inr (hw _ (List.mem_of_getElem? (i := 29) rfl))) (Or.inl (hw _ (List.mem_of_getElem? (i := 52) rfl))) (by decide) (t := .int) (t' := .int) (by decide) (by decide))))
          have lf220 := fa219
          have fa221 : Fld Z h205 a1 "com/example/endcon/endcon/yaml/Cursor" "hasSurrogates" "Z" (.int (nar .boolean (f3 c1))) := ((Fw193.other W200 (Or.inr (slot_ne (Or.inr (hw _ (List.mem_of_getElem? (i := 36) rfl))) (Or.inl (hw _ (List.mem_of_getElem? (i := 45) rfl))) (by decide) (t := .boolean) (t' := .int) (by decide) (by decide)))).other W205 (Or.inr (slot_ne (Or.inr (hw _ (List.mem_of_getElem? (i := 36) rfl))) (Or.inl (hw _ (List.mem_of_getElem? (i := 52) rfl))) (by decide) (t := .boolean) (t' := .int) (by decide) (by decide))))
          have lf222 : Fld Z h205 a1 "com/example/endcon/endcon/yaml/Cursor" "hasSurrogates" "Z" (.int (f1b_a1_hasSurrogates p4 c0 c1 c2 c3)) := by rw [f1b_a1_hasSurrogates, if_pos hc34, if_pos hc36, if_neg hc40]; exact fa221
          have fa223 : Fld Z h205 a1 "com/example/endcon/endcon/yaml/Cursor" "pos" "I" (.int (1 : Int32)) := (Fw200.other W205 (Or.inr (slot_ne (Or.inl (hw _ (List.mem_of_getElem? (i := 45) rfl))) (Or.inl (hw _ (List.mem_of_getElem? (i := 52) rfl))) (by decide) (t := .int) (t' := .int) (by decide) (by decide))))
          have lf224 := fa223
          have lf225 := Fw205
          exact ⟨rfl, N205, kp207, fa208, lf210, lf212, lf214, lf216, lf218, lf220, lf222, lf224, lf225⟩
    · have fa226 : Fld Z h27 a1 "com/example/endcon/endcon/yaml/Cursor" "hasSurrogates" "Z" (.int (0 : Int32)) := ((((((F_a1_hasSurrogates.other W2 (Or.inr (slot_ne (Or.inr (hw _ (List.mem_of_getElem? (i := 36) rfl))) (Or.inl (hw _ (List.mem_of_getElem? (i := 19) rfl))) (by decide) (t := .boolean) (t' := .int) (by decide) (by decide)))).other W7 (Or.inr (slot_ne (Or.inr (hw _ (List.mem_of_getElem? (i := 36) rfl))) (Or.inl (hw _ (List.mem_of_getElem? (i := 21) rfl))) (by decide) (t := .boolean) (t' := .int) (by decide) (by decide)))).other W12 (Or.inr (slot_ne (Or.inr (hw _ (List.mem_of_getElem? (i := 36) rfl))) (Or.inl (hw _ (List.mem_of_getElem? (i := 23) rfl))) (by decide) (t := .boolean) (t' := .int) (by decide) (by decide)))).other W17 (Or.inr (slot_ne (Or.inr (hw _ (List.mem_of_getElem? (i := 36) rfl))) (Or.inr (hw _ (List.mem_of_getElem? (i := 25) rfl))) (by decide) (t := .boolean) (t' := (.object "java/lang/String")) (by decide) (by decide)))).other W22 (Or.inr (slot_ne (Or.inr (hw _ (List.mem_of_getElem? (i := 36) rfl))) (Or.inl (hw _ (List.mem_of_getElem? (i := 27) rfl))) (by decide) (t := .boolean) (t' := (.array .char)) (by decide) (by decide)))).other W27 (Or.inr (slot_ne (Or.inr (hw _ (List.mem_of_getElem? (i := 36) rfl))) (Or.inr (hw _ (List.mem_of_getElem? (i := 29) rfl))) (by decide) (t := .boolean) (t' := .int) (by decide) (by decide))))
      have fa227 : Exa Z h27 a1 "com/example/endcon/endcon/yaml/Cursor" := (fa26.wr W27)
      obtain ⟨T228, h228, X228, e228, W228, st228⟩ := putFN X32 hx hZ hown (hw _ (List.mem_of_getElem? (i := 35) rfl)) Via.refl e32 fa226 fa227 (Or.inr ⟨(hw _ (List.mem_of_getElem? (i := 36) rfl)), rfl, hnm⟩) (hw _ (List.mem_of_getElem? (i := 2) rfl)) (ty := .boolean) (v' := (.int (nar .boolean (f3 c0)))) (by decide) rfl (fits_nar_bool _) (g := (mkF m 69 #[.val (.ref a1), .val (.ref a2), .val (.ref a3), .val (.int p4), .val (.int (f3 c0)), .val (.int (1 : Int32))] [(.int (f3 c0)), (.ref a1)])) rfl rfl (hb hby d1_69)
      have Fw228 : Fld Z h228 a1 "com/example/endcon/endcon/yaml/Cursor" "hasSurrogates" "Z" (.int (nar .boolean (f3 c0))) := fa226.same W228
      have zs229 : n0 ≤ h228.size := Nat.le_trans zs28 (Keep.of_wr W228).1
      have kp230 : Keep h0 h228 [a1] := kp29.wr W228 (Or.inl (List.mem_of_getElem? (i := 0) rfl))
      have N228 := Fr.snoc X228 N32 g_a1
      have fa231 : Arv Z h228 a3 k_a3 .char (4 : Int32) [(.int c0), (.int c1), (.int c2), (.int c3)] (.int (0 : Int32)) := (fa30.other W228 (Ne.symm ne_a1_a3))
      obtain ⟨cx232, Ar232, qq232, S232, N232_, H232, G232⟩ := id fa231
      have hin232 : ¬ ((0 : Int32) < 0 ∨ cx232.slots.size ≤ ((0 : Int32)).toNatClampNeg) := inb_of S232 ⟨by decide, by decide⟩
      have hat232 : cx232.slots[((0 : Int32)).toNatClampNeg]? = some (.int c0) := (H232 ((0 : Int32)).toNatClampNeg (Nat.lt_of_not_le fun w => hin232 (Or.inr w))).trans (congrArg some (rfl))
      have fa233 : Fld Z h228 a1 "com/example/endcon/endcon/yaml/Cursor" "pos" "I" (.int (0 : Int32)) := (((((((F_a1_pos.other W2 (Or.inr (slot_ne (Or.inl (hw _ (List.mem_of_getElem? (i := 45) rfl))) (Or.inl (hw _ (List.mem_of_getElem? (i := 19) rfl))) (by decide) (t := .int) (t' := .int) (by decide) (by decide)))).other W7 (Or.inr (slot_ne (Or.inl (hw _ (List.mem_of_getElem? (i := 45) rfl))) (Or.inl (hw _ (List.mem_of_getElem? (i := 21) rfl))) (by decide) (t := .int) (t' := .int) (by decide) (by decide)))).other W12 (Or.inr (slot_ne (Or.inl (hw _ (List.mem_of_getElem? (i := 45) rfl))) (Or.inl (hw _ (List.mem_of_getElem? (i := 23) rfl))) (by decide) (t := .int) (t' := .int) (by decide) (by decide)))).other W17 (Or.inr (slot_ne (Or.inl (hw _ (List.mem_of_getElem? (i := 45) rfl))) (Or.inr (hw _ (List.mem_of_getElem? (i := 25) rfl))) (by decide) (t := .int) (t' := (.object "java/lang/String")) (by decide) (by decide)))).other W22 (Or.inr (slot_ne (Or.inl (hw _ (List.mem_of_getElem? (i := 45) rfl))) (Or.inl (hw _ (List.mem_of_getElem? (i := 27) rfl))) (by decide) (t := .int) (t' := (.array .char)) (by decide) (by decide)))).other W27 (Or.inr (slot_ne (Or.inl (hw _ (List.mem_of_getElem? (i := 45) rfl))) (Or.inr (hw _ (List.mem_of_getElem? (i := 29) rfl))) (by decide) (t := .int) (t' := .int) (by decide) (by decide)))).other W228 (Or.inr (slot_ne (Or.inl (hw _ (List.mem_of_getElem? (i := 45) rfl))) (Or.inr (hw _ (List.mem_of_getElem? (i := 36) rfl))) (by decide) (t := .int) (t' := .boolean) (by decide) (by decide))))
      have fa234 : Exa Z h228 a1 "com/example/endcon/endcon/yaml/Cursor" := (fa227.wr W228)
      obtain ⟨T235, h235, X235, e235, W235, st235⟩ := putF X228 hx hZ hown (host := "") (Or.inl (hw _ (List.mem_of_getElem? (i := 44) rfl))) Via.refl e228 fa233 fa234 (Or.inl (hw _ (List.mem_of_getElem? (i := 45) rfl))) (hw _ (List.mem_of_getElem? (i := 2) rfl)) (ty := .int) (by decide) rfl rfl (g := (mkF m 86 #[.val (.ref a1), .val (.ref a2), .val (.ref a3), .val (.int p4), .val (.int (f3 c0)), .val (.int (1 : Int32))] [(.int (1 : Int32)), (.ref a1)])) rfl rfl (hb hby d1_86)
      have Fw235 : Fld Z h235 a1 "com/example/endcon/endcon/yaml/Cursor" "pos" "I" (.int (1 : Int32)) := fa233.same W235
      have zs236 : n0 ≤ h235.size := Nat.le_trans zs229 (Keep.of_wr W235).1
      have kp237 : Keep h0 h235 [a1] := kp230.wr W235 (Or.inl (List.mem_of_getElem? (i := 0) rfl))
      have N235 := Fr.snoc X235 N228 g_a1
      have fa238 : Fld Z h235 a1 "com/example/endcon/endcon/yaml/Cursor" "lineStart" "I" (.int (0 : Int32)) := ((((((((F_a1_lineStart.other W2 (Or.inr (slot_ne (Or.inl (hw _ (List.mem_of_getElem? (i := 52) rfl))) (Or.inl (hw _ (List.mem_of_getElem? (i := 19) rfl))) (by decide) (t := .int) (t' := .int) (by decide) (by decide)))).other W7 (Or.inr (slot_ne (Or.inl (hw _ (List.mem_of_getElem? (i := 52) rfl))) (Or.inl (hw _ (List.mem_of_getElem? (i := 21) rfl))) (by decide) (t := .int) (t' := .int) (by decide) (by decide)))).other W12 (Or.inr (slot_ne (Or.inl (hw _ (List.mem_of_getElem? (i := 52) rfl))) (Or.inl (hw _ (List.mem_of_getElem? (i := 23) rfl))) (by decide) (t := .int) (t' := .int) (by decide) (by decide)))).other W17 (Or.inr (slot_ne (Or.inl (hw _ (List.mem_of_getElem? (i := 52) rfl))) (Or.inr (hw _ (List.mem_of_getElem? (i := 25) rfl))) (by decide) (t := .int) (t' := (.object "java/lang/String")) (by decide) (by decide)))).other W22 (Or.inr (slot_ne (Or.inl (hw _ (List.mem_of_getElem? (i := 52) rfl))) (Or.inl (hw _ (List.mem_of_getElem? (i := 27) rfl))) (by decide) (t := .int) (t' := (.array .char)) (by decide) (by decide)))).other W27 (Or.inr (slot_ne (Or.inl (hw _ (List.mem_of_getElem? (i := 52) rfl))) (Or.inr (hw _ (List.mem_of_getElem? (i := 29) rfl))) (by decide) (t := .int) (t' := .int) (by decide) (by decide)))).other W228 (Or.inr (slot_ne (Or.inl (hw _ (List.mem_of_getElem? (i := 52) rfl))) (Or.inr (hw _ (List.mem_of_getElem? (i := 36) rfl))) (by decide) (t := .int) (t' := .boolean) (by decide) (by decide)))).other W235 (Or.inr (slot_ne (Or.inl (hw _ (List.mem_of_getElem? (i := 52) rfl))) (Or.inl (hw _ (List.mem_of_getElem? (i := 45) rfl))) (by decide) (t := .int) (t' := .int) (by decide) (by decide))))
      have fa239 : Exa Z h235 a1 "com/example/endcon/endcon/yaml/Cursor" := (fa234.wr W235)
      obtain ⟨T240, h240, X240, e240, W240, st240⟩ := putF X235 hx hZ hown (host := "") (Or.inl (hw _ (List.mem_of_getElem? (i := 51) rfl))) Via.refl e235 fa238 fa239 (Or.inl (hw _ (List.mem_of_getElem? (i := 52) rfl))) (hw _ (List.mem_of_getElem? (i := 2) rfl)) (ty := .int) (by decide) rfl rfl (g := (mkF m 91 #[.val (.ref a1), .val (.ref a2), .val (.ref a3), .val (.int p4), .val (.int (f3 c0)), .val (.int (1 : Int32))] [(.int (1 : Int32)), (.ref a1)])) rfl rfl (hb hby d1_91)
      have Fw240 : Fld Z h240 a1 "com/example/endcon/endcon/yaml/Cursor" "lineStart" "I" (.int (1 : Int32)) := fa238.same W240
      have zs241 : n0 ≤ h240.size := Nat.le_trans zs236 (Keep.of_wr W240).1
      have kp242 : Keep h0 h240 [a1] := kp237.wr W240 (Or.inl (List.mem_of_getElem? (i := 0) rfl))
      have N240 := Fr.snoc X240 N235 g_a1
      obtain ⟨fs, hr, hrun, hended, hW, hsame⟩ := X240.leave (v := none) (fun _ => rfl)
      refine ⟨_, _, pre35 _ ?_, hrun, hended, _, _, rfl, ?_, ⟨_, rfl⟩, hW, hsame.mono (by decide) (by decide)⟩
      · show Steps p.tables e below (T32.setTop (mkF m 48 #[.val (.ref a1), .val (.ref a2), .val (.ref a3), .val (.int p4), .val (.int (f3 c0)), .val (.int (1 : Int32))] [(.int (f3 c0))])) _
        refine XS.ifYes X32.here hx rfl (pc0 := 48) (pc' := 66) rfl (hb hby d1_48) rfl ((if0 _ _).trans (feq hc36).2) (by decide) (by decide) ?_
        show Steps p.tables e below (T32.setTop (mkF m 66 #[.val (.ref a1), .val (.ref a2), .val (.ref a3), .val (.int p4), .val (.int (f3 c0)), .val (.int (1 : Int32))] [])) _
        refine own_blk X32 hx bl1_66_2 (own_hb hby bd1_66_2) (pc' := 69) (Ls' := #[.val (.ref a1), .val (.ref a2), .val (.ref a3), .val (.int p4), .val (.int (f3 c0)), .val (.int (1 : Int32))]) (st' := [(.int (f3 c0)), (.ref a1)]) rfl ?_
        refine st228 _ ?_
        show Steps p.tables e below (T228.setTop (mkF m 72 #[.val (.ref a1), .val (.ref a2), .val (.ref a3), .val (.int p4), .val (.int (f3 c0)), .val (.int (1 : Int32))] [])) _
        refine own_blk X228 hx bl1_72_1 (own_hb hby bd1_72_1) (pc' := 73) (Ls' := #[.val (.ref a1), .val (.ref a2), .val (.ref a3), .val (.int p4), .val (.int (f3 c0)), .val (.int (1 : Int32))]) (st' := [(.int p4)]) rfl ?_
        refine XS.ifNo X228.here hx rfl (hb hby d1_73) rfl ((if0 _ _).trans (tlt hz).2.2.2) ?_
        show Steps p.tables e below (T228.setTop (mkF m 76 #[.val (.ref a1), .val (.ref a2), .val (.ref a3), .val (.int p4), .val (.int (f3 c0)), .val (.int (1 : Int32))] [])) _
        refine own_blk X228 hx bl1_76_2 (own_hb hby bd1_76_2) (pc' := 78) (Ls' := #[.val (.ref a1), .val (.ref a2), .val (.ref a3), .val (.int p4), .val (.int (f3 c0)), .val (.int (1 : Int32))]) (st' := [(.int (0 : Int32)), (.ref a3)]) rfl ?_
        refine X228.caload hx (j := (0 : Int32)) (v := (.int c0)) (by rw [e228]; exact Ar232.1) (State.isArrayOf_alike hZ.alike Ar232.2.1) Ar232.2.2 hin232 hat232 (g := (mkF m 78 #[.val (.ref a1), .val (.ref a2), .val (.ref a3), .val (.int p4), .val (.int (f3 c0)), .val (.int (1 : Int32))] [(.int (0 : Int32)), (.ref a3)])) rfl rfl (hb hby d1_78) _ ?_
        show Steps p.tables e below (T228.setTop (mkF m 79 #[.val (.ref a1), .val (.ref a2), .val (.ref a3), .val (.int p4), .val (.int (f3 c0)), .val (.int (1 : Int32))] [(.int c0)])) _
        refine X228.ldcInt hx hown (mvT hZ (hw _ (List.mem_of_getElem? (i := 37) rfl))) (g := (mkF m 79 #[.val (.ref a1), .val (.ref a2), .val (.ref a3), .val (.int p4), .val (.int (f3 c0)), .val (.int (1 : Int32))] [(.int c0)])) rfl (hb hby d1_79) _ ?_
        show Steps p.tables e below (T228.setTop (mkF m 81 #[.val (.ref a1), .val (.ref a2), .val (.ref a3), .val (.int p4), .val (.int (f3 c0)), .val (.int (1 : Int32))] [(.int (65279 : Int32)), (.int c0)])) _
        refine XS.icmpNo X228.here hx rfl (hb hby d1_81) rfl (teq hbm).2 ?_
        show Steps p.tables e below (T228.setTop (mkF m 84 #[.val (.ref a1), .val (.ref a2), .val (.ref a3), .val (.int p4), .val (.int (f3 c0)), .val (.int (1 : Int32))] [])) _
        refine own_blk X228 hx bl1_84_2 (own_hb hby bd1_84_2) (pc' := 86) (Ls' := #[.val (.ref a1), .val (.ref a2), .val (.ref a3), .val (.int p4), .val (.int (f3 c0)), .val (.int (1 : Int32))]) (st' := [(.int (1 : Int32)), (.ref a1)]) rfl ?_
        refine st235 _ ?_
        show Steps p.tables e below (T235.setTop (mkF m 89 #[.val (.ref a1), .val (.ref a2), .val (.ref a3), .val (.int p4), .val (.int (f3 c0)), .val (.int (1 : Int32))] [])) _
        refine own_blk X235 hx bl1_89_2 (own_hb hby bd1_89_2) (pc' := 91) (Ls' := #[.val (.ref a1), .val (.ref a2), .val (.ref a3), .val (.int p4), .val (.int (f3 c0)), .val (.int (1 : Int32))]) (st' := [(.int (1 : Int32)), (.ref a1)]) rfl ?_
        refine st240 _ ?_
        show Steps p.tables e below (T240.setTop (mkF m 94 #[.val (.ref a1), .val (.ref a2), .val (.ref a3), .val (.int p4), .val (.int (f3 c0)), .val (.int (1 : Int32))] [])) _
        exact X240.returnOut hx Bd.returns (hb hby d1_94) hr
      · show Q1b Z a1 a2 a3 p4 c0 c1 c2 c3 k_a3 h0 n0 _ T240.heap _
        rw [e240]
        have fa243 : Exa Z h240 a1 "com/example/endcon/endcon/yaml/Cursor" := (fa239.wr W240)
        have fa244 : Fld Z h240 a1 "com/example/endcon/endcon/yaml/Cursor" "line" "I" (.int (1 : Int32)) := ((((((((Fw2.other W7 (Or.inr (slot_ne (Or.inl (hw _ (List.mem_of_getElem? (i := 19) rfl))) (Or.inl (hw _ (List.mem_of_getElem? (i := 21) rfl))) (by decide) (t := .int) (t' := .int) (by decide) (by decide)))).other W12 (Or.inr (slot_ne (Or.inl (hw _ (List.mem_of_getElem? (i := 19) rfl))) (Or.inl (hw _ (List.mem_of_getElem? (i := 23) rfl))) (by decide) (t := .int) (t' := .int) (by decide) (by decide)))).other W17 (Or.inr (slot_ne (Or.inl (hw _ (List.mem_of_getElem? (i := 19) rfl))) (Or.inr (hw _ (List.mem_of_getElem? (i := 25) rfl))) (by decide) (t := .int) (t' := (.object "java/lang/String")) (by decide) (by decide)))).other W22 (Or.inr (slot_ne (Or.inl (hw _ (List.mem_of_getElem? (i := 19) rfl))) (Or.inl (hw _ (List.mem_of_getElem? (i := 27) rfl))) (by decide) (t := .int) (t' := (.array .char)) (by decide) (by decide)))).other W27 (Or.inr (slot_ne (Or.inl (hw _ (List.mem_of_getElem? (i := 19) rfl))) (Or.inr (hw _ (List.mem_of_getElem? (i := 29) rfl))) (by decide) (t := .int) (t' := .int) (by decide) (by decide)))).other W228 (Or.inr (slot_ne (Or.inl (hw _ (List.mem_of_getElem? (i := 19) rfl))) (Or.inr (hw _ (List.mem_of_getElem? (i := 36) rfl))) (by decide) (t := .int) (t' := .boolean) (by decide) (by decide)))).other W235 (Or.inr (slot_ne (Or.inl (hw _ (List.mem_of_getElem? (i := 19) rfl))) (Or.inl (hw _ (List.mem_of_getElem? (i := 45) rfl))) (by decide) (t := .int) (t' := .int) (by decide) (by decide)))).other W240 (Or.inr (slot_ne (Or.inl (hw _ (List.mem_of_getElem? (i := 19) rfl))) (Or.inl (hw _ (List.mem_of_getElem? (i := 52) rfl))) (by decide) (t := .int) (t' := .int) (by decide) (by decide))))
        have lf245 := fa244
        have fa246 : Fld Z h240 a1 "com/example/endcon/endcon/yaml/Cursor" "blankLinesFrom" "I" (.int (-1 : Int32)) := (((((((Fw7.other W12 (Or.inr (slot_ne (Or.inl (hw _ (List.mem_of_getElem? (i := 21) rfl))) (Or.inl (hw _ (List.mem_of_getElem? (i := 23) rfl))) (by decide) (t := .int) (t' := .int) (by decide) (by decide)))).other W17 (Or.inr (slot_ne (Or.inl (hw _ (List.mem_of_getElem? (i := 21) rfl))) (Or.inr (hw _ (List.mem_of_getElem? (i := 25) rfl))) (by decide) (t := .int) (t' := (.object "java/lang/String")) (by decide) (by decide)))).other W22 (Or.inr (slot_ne (Or.inl (hw _ (List.mem_of_getElem? (i := 21) rfl))) (Or.inl (hw _ (List.mem_of_getElem? (i := 27) rfl))) (by decide) (t := .int) (t' := (.array .char)) (by decide) (by decide)))).other W27 (Or.inr (slot_ne (Or.inl (hw _ (List.mem_of_getElem? (i := 21) rfl))) (Or.inr (hw _ (List.mem_of_getElem? (i := 29) rfl))) (by decide) (t := .int) (t' := .int) (by decide) (by decide)))).other W228 (Or.inr (slot_ne (Or.inl (hw _ (List.mem_of_getElem? (i := 21) rfl))) (Or.inr (hw _ (List.mem_of_getElem? (i := 36) rfl))) (by decide) (t := .int) (t' := .boolean) (by decide) (by decide)))).other W235 (Or.inr (slot_ne (Or.inl (hw _ (List.mem_of_getElem? (i := 21) rfl))) (Or.inl (hw _ (List.mem_of_getElem? (i := 45) rfl))) (by decide) (t := .int) (t' := .int) (by decide) (by decide)))).other W240 (Or.inr (slot_ne (Or.inl (hw _ (List.mem_of_getElem? (i := 21) rfl))) (Or.inl (hw _ (List.mem_of_getElem? (i := 52) rfl))) (by decide) (t := .int) (t' := .int) (by decide) (by decide))))
        have lf247 := fa246
        have fa248 : Fld Z h240 a1 "com/example/endcon/endcon/yaml/Cursor" "countedIndex" "I" (.int (-1 : Int32)) := ((((((Fw12.other W17 (Or.inr (slot_ne (Or.inl (hw _ (List.mem_of_getElem? (i := 23) rfl))) (Or.inr (hw _ (List.mem_of_getElem? (i := 25) rfl))) (by decide) (t := .int) (t' := (.object "java/lang/String")) (by decide) (by decide)))).other W22 (Or.inr (slot_ne (Or.inl (hw _ (List.mem_of_getElem? (i := 23) rfl))) (Or.inl (hw _ (List.mem_of_getElem? (i := 27) rfl))) (by decide) (t := .int) (t' := (.array .char)) (by decide) (by decide)))).other W27 (Or.inr (slot_ne (Or.inl (hw _ (List.mem_of_getElem? (i := 23) rfl))) (Or.inr (hw _ (List.mem_of_getElem? (i := 29) rfl))) (by decide) (t := .int) (t' := .int) (by decide) (by decide)))).other W228 (Or.inr (slot_ne (Or.inl (hw _ (List.mem_of_getElem? (i := 23) rfl))) (Or.inr (hw _ (List.mem_of_getElem? (i := 36) rfl))) (by decide) (t := .int) (t' := .boolean) (by decide) (by decide)))).other W235 (Or.inr (slot_ne (Or.inl (hw _ (List.mem_of_getElem? (i := 23) rfl))) (Or.inl (hw _ (List.mem_of_getElem? (i := 45) rfl))) (by decide) (t := .int) (t' := .int) (by decide) (by decide)))).other W240 (Or.inr (slot_ne (Or.inl (hw _ (List.mem_of_getElem? (i := 23) rfl))) (Or.inl (hw _ (List.mem_of_getElem? (i := 52) rfl))) (by decide) (t := .int) (t' := .int) (by decide) (by decide))))
        have lf249 := fa248
        have fa250 : Fld Z h240 a1 "com/example/endcon/endcon/yaml/Cursor" "file" "Ljava/lang/String;" (.ref a2) := (((((Fw17.other W22 (Or.inr (slot_ne (Or.inr (hw _ (List.mem_of_getElem? (i := 25) rfl))) (Or.inl (hw _ (List.mem_of_getElem? (i := 27) rfl))) (by decide) (t := (.object "java/lang/String")) (t' := (.array .char)) (by decide) (by decide)))).other W27 (Or.inr (slot_ne (Or.inr (hw _ (List.mem_of_getElem? (i := 25) rfl))) (Or.inr (hw _ (List.mem_of_getElem? (i := 29) rfl))) (by decide) (t := (.object "java/lang/String")) (t' := .int) (by decide) (by decide)))).other W228 (Or.inr (slot_ne (Or.inr (hw _ (List.mem_of_getElem? (i := 25) rfl))) (Or.inr (hw _ (List.mem_of_getElem? (i := 36) rfl))) (by decide) (t := (.object "java/lang/String")) (t' := .boolean) (by decide) (by decide)))).other W235 (Or.inr (slot_ne (Or.inr (hw _ (List.mem_of_getElem? (i := 25) rfl))) (Or.inl (hw _ (List.mem_of_getElem? (i := 45) rfl))) (by decide) (t := (.object "java/lang/String")) (t' := .int) (by decide) (by decide)))).other W240 (Or.inr (slot_ne (Or.inr (hw _ (List.mem_of_getElem? (i := 25) rfl))) (Or.inl (hw _ (List.mem_of_getElem? (i := 52) rfl))) (by decide) (t := (.object "java/lang/String")) (t' := .int) (by decide) (by decide))))
        have lf251 := fa250
        have fa252 : Fld Z h240 a1 "com/example/endcon/endcon/yaml/Cursor" "text" "[C" (.ref a3) := ((((Fw22.other W27 (Or.inr (slot_ne (Or.inl (hw _ (List.mem_of_getElem? (i := 27) rfl))) (Or.inr (hw _ (List.mem_of_getElem? (i := 29) rfl))) (by decide) (t := (.array .char)) (t' := .int) (by decide) (by decide)))).other W228 (Or.inr (slot_ne (Or.inl (hw _ (List.mem_of_getElem? (i := 27) rfl))) (Or.inr (hw _ (List.mem_of_getElem? (i := 36) rfl))) (by decide) (t := (.array .char)) (t' := .boolean) (by decide) (by decide)))).other W235 (Or.inr (slot_ne (Or.inl (hw _ (List.mem_of_getElem? (i := 27) rfl))) (Or.inl (hw _ (List.mem_of_getElem? (i := 45) rfl))) (by decide) (t := (.array .char)) (t' := .int) (by decide) (by decide)))).other W240 (Or.inr (slot_ne (Or.inl (hw _ (List.mem_of_getElem? (i := 27) rfl))) (Or.inl (hw _ (List.mem_of_getElem? (i := 52) rfl))) (by decide) (t := (.array .char)) (t' := .int) (by decide) (by decide))))
        have lf253 := fa252
        have fa254 : Fld Z h240 a1 "com/example/endcon/endcon/yaml/Cursor" "end" "I" (.int p4) := (((Fw27.other W228 (Or.inr (slot_ne (Or.inr (hw _ (List.mem_of_getElem? (i := 29) rfl))) (Or.inr (hw _ (List.mem_of_getElem? (i := 36) rfl))) (by decide) (t := .int) (t' := .boolean) (by decide) (by decide)))).other W235 (Or.inr (slot_ne (Or.inr (hw _ (List.mem_of_getElem? (i := 29) rfl))) (Or.inl (hw _ (List.mem_of_getElem? (i := 45) rfl))) (by decide) (t := .int) (t' := .int) (by decide) (by decide)))).other W240 (Or.inr (slot_ne (Or.inr (hw _ (List.mem_of_getElem? (i := 29) rfl))) (Or.inl (hw _ (List.mem_of_getElem? (i := 52) rfl))) (by decide) (t := .int) (t' := .int) (by decide) (by decide))))
        have lf255 := fa254
        have fa256 : Fld Z h240 a1 "com/example/endcon/endcon/yaml/Cursor" "hasSurrogates" "Z" (.int (nar .boolean (f3 c0))) := ((Fw228.other W235 (Or.inr (slot_ne (Or.inr (hw _ (List.mem_of_getElem? (i := 36) rfl))) (Or.inl (hw _ (List.mem_of_getElem? (i := 45) rfl))) (by decide) (t := .boolean) (t' := .int) (by decide) (by decide)))).other W240 (Or.inr (slot_ne (Or.inr (hw _ (List.mem_of_getElem? (i := 36) rfl))) (Or.inl (hw _ (List.mem_of_getElem? (i := 52) rfl))) (by decide) (t := .boolean) (t' := .int) (by decide) (by decide))))
        have lf257 : Fld Z h240 a1 "com/example/endcon/endcon/yaml/Cursor" "hasSurrogates" "Z" (.int (f1b_a1_hasSurrogates p4 c0 c1 c2 c3)) := by rw [f1b_a1_hasSurrogates, if_pos hc34, if_neg hc36]; exact fa256
        have fa258 : Fld Z h240 a1 "com/example/endcon/endcon/yaml/Cursor" "pos" "I" (.int (1 : Int32)) := (Fw235.other W240 (Or.inr (slot_ne (Or.inl (hw _ (List.mem_of_getElem? (i := 45) rfl))) (Or.inl (hw _ (List.mem_of_getElem? (i := 52) rfl))) (by decide) (t := .int) (t' := .int) (by decide) (by decide))))
        have lf259 := fa258
        have lf260 := Fw240
        exact ⟨rfl, N240, kp242, fa243, lf245, lf247, lf249, lf251, lf253, lf255, lf257, lf259, lf260⟩
  · have fa261 : Fld Z h27 a1 "com/example/endcon/endcon/yaml/Cursor" "hasSurrogates" "Z" (.int (0 : Int32)) := ((((((F_a1_hasSurrogates.other W2 (Or.inr (slot_ne (Or.inr (hw _ (List.mem_of_getElem? (i := 36) rfl))) (Or.inl (hw _ (List.mem_of_getElem? (i := 19) rfl))) (by decide) (t := .boolean) (t' := .int) (by decide) (by decide)))).other W7 (Or.inr (slot_ne (Or.inr (hw _ (List.mem_of_getElem? (i := 36) rfl))) (Or.inl (hw _ (List.mem_of_getElem? (i := 21) rfl))) (by decide) (t := .boolean) (t' := .int) (by decide) (by decide)))).other W12 (Or.inr (slot_ne (Or.inr (hw _ (List.mem_of_getElem? (i := 36) rfl))) (Or.inl (hw _ (List.mem_of_getElem? (i := 23) rfl))) (by decide) (t := .boolean) (t' := .int) (by decide) (by decide)))).other W17 (Or.inr (slot_ne (Or.inr (hw _ (List.mem_of_getElem? (i := 36) rfl))) (Or.inr (hw _ (List.mem_of_getElem? (i := 25) rfl))) (by decide) (t := .boolean) (t' := (.object "java/lang/String")) (by decide) (by decide)))).other W22 (Or.inr (slot_ne (Or.inr (hw _ (List.mem_of_getElem? (i := 36) rfl))) (Or.inl (hw _ (List.mem_of_getElem? (i := 27) rfl))) (by decide) (t := .boolean) (t' := (.array .char)) (by decide) (by decide)))).other W27 (Or.inr (slot_ne (Or.inr (hw _ (List.mem_of_getElem? (i := 36) rfl))) (Or.inr (hw _ (List.mem_of_getElem? (i := 29) rfl))) (by decide) (t := .boolean) (t' := .int) (by decide) (by decide))))
    have fa262 : Exa Z h27 a1 "com/example/endcon/endcon/yaml/Cursor" := (fa26.wr W27)
    obtain ⟨T263, h263, X263, e263, W263, st263⟩ := putFN X32 hx hZ hown (hw _ (List.mem_of_getElem? (i := 35) rfl)) Via.refl e32 fa261 fa262 (Or.inr ⟨(hw _ (List.mem_of_getElem? (i := 36) rfl)), rfl, hnm⟩) (hw _ (List.mem_of_getElem? (i := 2) rfl)) (ty := .boolean) (v' := (.int (nar .boolean (f3 c0)))) (by decide) rfl (fits_nar_bool _) (g := (mkF m 69 #[.val (.ref a1), .val (.ref a2), .val (.ref a3), .val (.int p4), .val (.int (f3 c0)), .val (.int (1 : Int32))] [(.int (f3 c0)), (.ref a1)])) rfl rfl (hb hby d1_69)
    have Fw263 : Fld Z h263 a1 "com/example/endcon/endcon/yaml/Cursor" "hasSurrogates" "Z" (.int (nar .boolean (f3 c0))) := fa261.same W263
    have zs264 : n0 ≤ h263.size := Nat.le_trans zs28 (Keep.of_wr W263).1
    have kp265 : Keep h0 h263 [a1] := kp29.wr W263 (Or.inl (List.mem_of_getElem? (i := 0) rfl))
    have N263 := Fr.snoc X263 N32 g_a1
    have fa266 : Arv Z h263 a3 k_a3 .char (4 : Int32) [(.int c0), (.int c1), (.int c2), (.int c3)] (.int (0 : Int32)) := (fa30.other W263 (Ne.symm ne_a1_a3))
    obtain ⟨cx267, Ar267, qq267, S267, N267_, H267, G267⟩ := id fa266
    have hin267 : ¬ ((0 : Int32) < 0 ∨ cx267.slots.size ≤ ((0 : Int32)).toNatClampNeg) := inb_of S267 ⟨by decide, by decide⟩
    have hat267 : cx267.slots[((0 : Int32)).toNatClampNeg]? = some (.int c0) := (H267 ((0 : Int32)).toNatClampNeg (Nat.lt_of_not_le fun w => hin267 (Or.inr w))).trans (congrArg some (rfl))
    have fa268 : Fld Z h263 a1 "com/example/endcon/endcon/yaml/Cursor" "pos" "I" (.int (0 : Int32)) := (((((((F_a1_pos.other W2 (Or.inr (slot_ne (Or.inl (hw _ (List.mem_of_getElem? (i := 45) rfl))) (Or.inl (hw _ (List.mem_of_getElem? (i := 19) rfl))) (by decide) (t := .int) (t' := .int) (by decide) (by decide)))).other W7 (Or.inr (slot_ne (Or.inl (hw _ (List.mem_of_getElem? (i := 45) rfl))) (Or.inl (hw _ (List.mem_of_getElem? (i := 21) rfl))) (by decide) (t := .int) (t' := .int) (by decide) (by decide)))).other W12 (Or.inr (slot_ne (Or.inl (hw _ (List.mem_of_getElem? (i := 45) rfl))) (Or.inl (hw _ (List.mem_of_getElem? (i := 23) rfl))) (by decide) (t := .int) (t' := .int) (by decide) (by decide)))).other W17 (Or.inr (slot_ne (Or.inl (hw _ (List.mem_of_getElem? (i := 45) rfl))) (Or.inr (hw _ (List.mem_of_getElem? (i := 25) rfl))) (by decide) (t := .int) (t' := (.object "java/lang/String")) (by decide) (by decide)))).other W22 (Or.inr (slot_ne (Or.inl (hw _ (List.mem_of_getElem? (i := 45) rfl))) (Or.inl (hw _ (List.mem_of_getElem? (i := 27) rfl))) (by decide) (t := .int) (t' := (.array .char)) (by decide) (by decide)))).other W27 (Or.inr (slot_ne (Or.inl (hw _ (List.mem_of_getElem? (i := 45) rfl))) (Or.inr (hw _ (List.mem_of_getElem? (i := 29) rfl))) (by decide) (t := .int) (t' := .int) (by decide) (by decide)))).other W263 (Or.inr (slot_ne (Or.inl (hw _ (List.mem_of_getElem? (i := 45) rfl))) (Or.inr (hw _ (List.mem_of_getElem? (i := 36) rfl))) (by decide) (t := .int) (t' := .boolean) (by decide) (by decide))))
    have fa269 : Exa Z h263 a1 "com/example/endcon/endcon/yaml/Cursor" := (fa262.wr W263)
    obtain ⟨T270, h270, X270, e270, W270, st270⟩ := putF X263 hx hZ hown (host := "") (Or.inl (hw _ (List.mem_of_getElem? (i := 44) rfl))) Via.refl e263 fa268 fa269 (Or.inl (hw _ (List.mem_of_getElem? (i := 45) rfl))) (hw _ (List.mem_of_getElem? (i := 2) rfl)) (ty := .int) (by decide) rfl rfl (g := (mkF m 86 #[.val (.ref a1), .val (.ref a2), .val (.ref a3), .val (.int p4), .val (.int (f3 c0)), .val (.int (1 : Int32))] [(.int (1 : Int32)), (.ref a1)])) rfl rfl (hb hby d1_86)
    have Fw270 : Fld Z h270 a1 "com/example/endcon/endcon/yaml/Cursor" "pos" "I" (.int (1 : Int32)) := fa268.same W270
    have zs271 : n0 ≤ h270.size := Nat.le_trans zs264 (Keep.of_wr W270).1
    have kp272 : Keep h0 h270 [a1] := kp265.wr W270 (Or.inl (List.mem_of_getElem? (i := 0) rfl))
    have N270 := Fr.snoc X270 N263 g_a1
    have fa273 : Fld Z h270 a1 "com/example/endcon/endcon/yaml/Cursor" "lineStart" "I" (.int (0 : Int32)) := ((((((((F_a1_lineStart.other W2 (Or.inr (slot_ne (Or.inl (hw _ (List.mem_of_getElem? (i := 52) rfl))) (Or.inl (hw _ (List.mem_of_getElem? (i := 19) rfl))) (by decide) (t := .int) (t' := .int) (by decide) (by decide)))).other W7 (Or.inr (slot_ne (Or.inl (hw _ (List.mem_of_getElem? (i := 52) rfl))) (Or.inl (hw _ (List.mem_of_getElem? (i := 21) rfl))) (by decide) (t := .int) (t' := .int) (by decide) (by decide)))).other W12 (Or.inr (slot_ne (Or.inl (hw _ (List.mem_of_getElem? (i := 52) rfl))) (Or.inl (hw _ (List.mem_of_getElem? (i := 23) rfl))) (by decide) (t := .int) (t' := .int) (by decide) (by decide)))).other W17 (Or.inr (slot_ne (Or.inl (hw _ (List.mem_of_getElem? (i := 52) rfl))) (Or.inr (hw _ (List.mem_of_getElem? (i := 25) rfl))) (by decide) (t := .int) (t' := (.object "java/lang/String")) (by decide) (by decide)))).other W22 (Or.inr (slot_ne (Or.inl (hw _ (List.mem_of_getElem? (i := 52) rfl))) (Or.inl (hw _ (List.mem_of_getElem? (i := 27) rfl))) (by decide) (t := .int) (t' := (.array .char)) (by decide) (by decide)))).other W27 (Or.inr (slot_ne (Or.inl (hw _ (List.mem_of_getElem? (i := 52) rfl))) (Or.inr (hw _ (List.mem_of_getElem? (i := 29) rfl))) (by decide) (t := .int) (t' := .int) (by decide) (by decide)))).other W263 (Or.inr (slot_ne (Or.inl (hw _ (List.mem_of_getElem? (i := 52) rfl))) (Or.inr (hw _ (List.mem_of_getElem? (i := 36) rfl))) (by decide) (t := .int) (t' := .boolean) (by decide) (by decide)))).other W270 (Or.inr (slot_ne (Or.inl (hw _ (List.mem_of_getElem? (i := 52) rfl))) (Or.inl (hw _ (List.mem_of_getElem? (i := 45) rfl))) (by decide) (t := .int) (t' := .int) (by decide) (by decide))))
    have fa274 : Exa Z h270 a1 "com/example/endcon/endcon/yaml/Cursor" := (fa269.wr W270)
    obtain ⟨T275, h275, X275, e275, W275, st275⟩ := putF X270 hx hZ hown (host := "") (Or.inl (hw _ (List.mem_of_getElem? (i := 51) rfl))) Via.refl e270 fa273 fa274 (Or.inl (hw _ (List.mem_of_getElem? (i := 52) rfl))) (hw _ (List.mem_of_getElem? (i := 2) rfl)) (ty := .int) (by decide) rfl rfl (g := (mkF m 91 #[.val (.ref a1), .val (.ref a2), .val (.ref a3), .val (.int p4), .val (.int (f3 c0)), .val (.int (1 : Int32))] [(.int (1 : Int32)), (.ref a1)])) rfl rfl (hb hby d1_91)
    have Fw275 : Fld Z h275 a1 "com/example/endcon/endcon/yaml/Cursor" "lineStart" "I" (.int (1 : Int32)) := fa273.same W275
    have zs276 : n0 ≤ h275.size := Nat.le_trans zs271 (Keep.of_wr W275).1
    have kp277 : Keep h0 h275 [a1] := kp272.wr W275 (Or.inl (List.mem_of_getElem? (i := 0) rfl))
    have N275 := Fr.snoc X275 N270 g_a1
    obtain ⟨fs, hr, hrun, hended, hW, hsame⟩ := X275.leave (v := none) (fun _ => rfl)
    refine ⟨_, _, pre33 _ ?_, hrun, hended, _, _, rfl, ?_, ⟨_, rfl⟩, hW, hsame.mono (by decide) (by decide)⟩
    · show Steps p.tables e below (T32.setTop (mkF m 43 #[.val (.ref a1), .val (.ref a2), .val (.ref a3), .val (.int p4), .val (.int (f3 c0)), .val (.int (1 : Int32))] [(.int p4), (.int (1 : Int32))])) _
      refine XS.icmpYes X32.here hx rfl (pc0 := 43) (pc' := 66) rfl (hb hby d1_43) rfl (flt hc34).2.1 (by decide) (by decide) ?_
      show Steps p.tables e below (T32.setTop (mkF m 66 #[.val (.ref a1), .val (.ref a2), .val (.ref a3), .val (.int p4), .val (.int (f3 c0)), .val (.int (1 : Int32))] [])) _
      refine own_blk X32 hx bl1_66_2 (own_hb hby bd1_66_2) (pc' := 69) (Ls' := #[.val (.ref a1), .val (.ref a2), .val (.ref a3), .val (.int p4), .val (.int (f3 c0)), .val (.int (1 : Int32))]) (st' := [(.int (f3 c0)), (.ref a1)]) rfl ?_
      refine st263 _ ?_
      show Steps p.tables e below (T263.setTop (mkF m 72 #[.val (.ref a1), .val (.ref a2), .val (.ref a3), .val (.int p4), .val (.int (f3 c0)), .val (.int (1 : Int32))] [])) _
      refine own_blk X263 hx bl1_72_1 (own_hb hby bd1_72_1) (pc' := 73) (Ls' := #[.val (.ref a1), .val (.ref a2), .val (.ref a3), .val (.int p4), .val (.int (f3 c0)), .val (.int (1 : Int32))]) (st' := [(.int p4)]) rfl ?_
      refine XS.ifNo X263.here hx rfl (hb hby d1_73) rfl ((if0 _ _).trans (tlt hz).2.2.2) ?_
      show Steps p.tables e below (T263.setTop (mkF m 76 #[.val (.ref a1), .val (.ref a2), .val (.ref a3), .val (.int p4), .val (.int (f3 c0)), .val (.int (1 : Int32))] [])) _
      refine own_blk X263 hx bl1_76_2 (own_hb hby bd1_76_2) (pc' := 78) (Ls' := #[.val (.ref a1), .val (.ref a2), .val (.ref a3), .val (.int p4), .val (.int (f3 c0)), .val (.int (1 : Int32))]) (st' := [(.int (0 : Int32)), (.ref a3)]) rfl ?_
      refine X263.caload hx (j := (0 : Int32)) (v := (.int c0)) (by rw [e263]; exact Ar267.1) (State.isArrayOf_alike hZ.alike Ar267.2.1) Ar267.2.2 hin267 hat267 (g := (mkF m 78 #[.val (.ref a1), .val (.ref a2), .val (.ref a3), .val (.int p4), .val (.int (f3 c0)), .val (.int (1 : Int32))] [(.int (0 : Int32)), (.ref a3)])) rfl rfl (hb hby d1_78) _ ?_
      show Steps p.tables e below (T263.setTop (mkF m 79 #[.val (.ref a1), .val (.ref a2), .val (.ref a3), .val (.int p4), .val (.int (f3 c0)), .val (.int (1 : Int32))] [(.int c0)])) _
      refine X263.ldcInt hx hown (mvT hZ (hw _ (List.mem_of_getElem? (i := 37) rfl))) (g := (mkF m 79 #[.val (.ref a1), .val (.ref a2), .val (.ref a3), .val (.int p4), .val (.int (f3 c0)), .val (.int (1 : Int32))] [(.int c0)])) rfl (hb hby d1_79) _ ?_
      show Steps p.tables e below (T263.setTop (mkF m 81 #[.val (.ref a1), .val (.ref a2), .val (.ref a3), .val (.int p4), .val (.int (f3 c0)), .val (.int (1 : Int32))] [(.int (65279 : Int32)), (.int c0)])) _
      refine XS.icmpNo X263.here hx rfl (hb hby d1_81) rfl (teq hbm).2 ?_
      show Steps p.tables e below (T263.setTop (mkF m 84 #[.val (.ref a1), .val (.ref a2), .val (.ref a3), .val (.int p4), .val (.int (f3 c0)), .val (.int (1 : Int32))] [])) _
      refine own_blk X263 hx bl1_84_2 (own_hb hby bd1_84_2) (pc' := 86) (Ls' := #[.val (.ref a1), .val (.ref a2), .val (.ref a3), .val (.int p4), .val (.int (f3 c0)), .val (.int (1 : Int32))]) (st' := [(.int (1 : Int32)), (.ref a1)]) rfl ?_
      refine st270 _ ?_
      show Steps p.tables e below (T270.setTop (mkF m 89 #[.val (.ref a1), .val (.ref a2), .val (.ref a3), .val (.int p4), .val (.int (f3 c0)), .val (.int (1 : Int32))] [])) _
      refine own_blk X270 hx bl1_89_2 (own_hb hby bd1_89_2) (pc' := 91) (Ls' := #[.val (.ref a1), .val (.ref a2), .val (.ref a3), .val (.int p4), .val (.int (f3 c0)), .val (.int (1 : Int32))]) (st' := [(.int (1 : Int32)), (.ref a1)]) rfl ?_
      refine st275 _ ?_
      show Steps p.tables e below (T275.setTop (mkF m 94 #[.val (.ref a1), .val (.ref a2), .val (.ref a3), .val (.int p4), .val (.int (f3 c0)), .val (.int (1 : Int32))] [])) _
      exact X275.returnOut hx Bd.returns (hb hby d1_94) hr
    · show Q1b Z a1 a2 a3 p4 c0 c1 c2 c3 k_a3 h0 n0 _ T275.heap _
      rw [e275]
      have fa278 : Exa Z h275 a1 "com/example/endcon/endcon/yaml/Cursor" := (fa274.wr W275)
      have fa279 : Fld Z h275 a1 "com/example/endcon/endcon/yaml/Cursor" "line" "I" (.int (1 : Int32)) := ((((((((Fw2.other W7 (Or.inr (slot_ne (Or.inl (hw _ (List.mem_of_getElem? (i := 19) rfl))) (Or.inl (hw _ (List.mem_of_getElem? (i := 21) rfl))) (by decide) (t := .int) (t' := .int) (by decide) (by decide)))).other W12 (Or.inr (slot_ne (Or.inl (hw _ (List.mem_of_getElem? (i := 19) rfl))) (Or.inl (hw _ (List.mem_of_getElem? (i := 23) rfl))) (by decide) (t := .int) (t' := .int) (by decide) (by decide)))).other W17 (Or.inr (slot_ne (Or.inl (hw _ (List.mem_of_getElem? (i := 19) rfl))) (Or.inr (hw _ (List.mem_of_getElem? (i := 25) rfl))) (by decide) (t := .int) (t' := (.object "java/lang/String")) (by decide) (by decide)))).other W22 (Or.inr (slot_ne (Or.inl (hw _ (List.mem_of_getElem? (i := 19) rfl))) (Or.inl (hw _ (List.mem_of_getElem? (i := 27) rfl))) (by decide) (t := .int) (t' := (.array .char)) (by decide) (by decide)))).other W27 (Or.inr (slot_ne (Or.inl (hw _ (List.mem_of_getElem? (i := 19) rfl))) (Or.inr (hw _ (List.mem_of_getElem? (i := 29) rfl))) (by decide) (t := .int) (t' := .int) (by decide) (by decide)))).other W263 (Or.inr (slot_ne (Or.inl (hw _ (List.mem_of_getElem? (i := 19) rfl))) (Or.inr (hw _ (List.mem_of_getElem? (i := 36) rfl))) (by decide) (t := .int) (t' := .boolean) (by decide) (by decide)))).other W270 (Or.inr (slot_ne (Or.inl (hw _ (List.mem_of_getElem? (i := 19) rfl))) (Or.inl (hw _ (List.mem_of_getElem? (i := 45) rfl))) (by decide) (t := .int) (t' := .int) (by decide) (by decide)))).other W275 (Or.inr (slot_ne (Or.inl (hw _ (List.mem_of_getElem? (i := 19) rfl))) (Or.inl (hw _ (List.mem_of_getElem? (i := 52) rfl))) (by decide) (t := .int) (t' := .int) (by decide) (by decide))))
      have lf280 := fa279
      have fa281 : Fld Z h275 a1 "com/example/endcon/endcon/yaml/Cursor" "blankLinesFrom" "I" (.int (-1 : Int32)) := (((((((Fw7.other W12 (Or.inr (slot_ne (Or.inl (hw _ (List.mem_of_getElem? (i := 21) rfl))) (Or.inl (hw _ (List.mem_of_getElem? (i := 23) rfl))) (by decide) (t := .int) (t' := .int) (by decide) (by decide)))).other W17 (Or.inr (slot_ne (Or.inl (hw _ (List.mem_of_getElem? (i := 21) rfl))) (Or.inr (hw _ (List.mem_of_getElem? (i := 25) rfl))) (by decide) (t := .int) (t' := (.object "java/lang/String")) (by decide) (by decide)))).other W22 (Or.inr (slot_ne (Or.inl (hw _ (List.mem_of_getElem? (i := 21) rfl))) (Or.inl (hw _ (List.mem_of_getElem? (i := 27) rfl))) (by decide) (t := .int) (t' := (.array .char)) (by decide) (by decide)))).other W27 (Or.inr (slot_ne (Or.inl (hw _ (List.mem_of_getElem? (i := 21) rfl))) (Or.inr (hw _ (List.mem_of_getElem? (i := 29) rfl))) (by decide) (t := .int) (t' := .int) (by decide) (by decide)))).other W263 (Or.inr (slot_ne (Or.inl (hw _ (List.mem_of_getElem? (i := 21) rfl))) (Or.inr (hw _ (List.mem_of_getElem? (i := 36) rfl))) (by decide) (t := .int) (t' := .boolean) (by decide) (by decide)))).other W270 (Or.inr (slot_ne (Or.inl (hw _ (List.mem_of_getElem? (i := 21) rfl))) (Or.inl (hw _ (List.mem_of_getElem? (i := 45) rfl))) (by decide) (t := .int) (t' := .int) (by decide) (by decide)))).other W275 (Or.inr (slot_ne (Or.inl (hw _ (List.mem_of_getElem? (i := 21) rfl))) (Or.inl (hw _ (List.mem_of_getElem? (i := 52) rfl))) (by decide) (t := .int) (t' := .int) (by decide) (by decide))))
      have lf282 := fa281
      have fa283 : Fld Z h275 a1 "com/example/endcon/endcon/yaml/Cursor" "countedIndex" "I" (.int (-1 : Int32)) := ((((((Fw12.other W17 (Or.inr (slot_ne (Or.inl (hw _ (List.mem_of_getElem? (i := 23) rfl))) (Or.inr (hw _ (List.mem_of_getElem? (i := 25) rfl))) (by decide) (t := .int) (t' := (.object "java/lang/String")) (by decide) (by decide)))).other W22 (Or.inr (slot_ne (Or.inl (hw _ (List.mem_of_getElem? (i := 23) rfl))) (Or.inl (hw _ (List.mem_of_getElem? (i := 27) rfl))) (by decide) (t := .int) (t' := (.array .char)) (by decide) (by decide)))).other W27 (Or.inr (slot_ne (Or.inl (hw _ (List.mem_of_getElem? (i := 23) rfl))) (Or.inr (hw _ (List.mem_of_getElem? (i := 29) rfl))) (by decide) (t := .int) (t' := .int) (by decide) (by decide)))).other W263 (Or.inr (slot_ne (Or.inl (hw _ (List.mem_of_getElem? (i := 23) rfl))) (Or.inr (hw _ (List.mem_of_getElem? (i := 36) rfl))) (by decide) (t := .int) (t' := .boolean) (by decide) (by decide)))).other W270 (Or.inr (slot_ne (Or.inl (hw _ (List.mem_of_getElem? (i := 23) rfl))) (Or.inl (hw _ (List.mem_of_getElem? (i := 45) rfl))) (by decide) (t := .int) (t' := .int) (by decide) (by decide)))).other W275 (Or.inr (slot_ne (Or.inl (hw _ (List.mem_of_getElem? (i := 23) rfl))) (Or.inl (hw _ (List.mem_of_getElem? (i := 52) rfl))) (by decide) (t := .int) (t' := .int) (by decide) (by decide))))
      have lf284 := fa283
      have fa285 : Fld Z h275 a1 "com/example/endcon/endcon/yaml/Cursor" "file" "Ljava/lang/String;" (.ref a2) := (((((Fw17.other W22 (Or.inr (slot_ne (Or.inr (hw _ (List.mem_of_getElem? (i := 25) rfl))) (Or.inl (hw _ (List.mem_of_getElem? (i := 27) rfl))) (by decide) (t := (.object "java/lang/String")) (t' := (.array .char)) (by decide) (by decide)))).other W27 (Or.inr (slot_ne (Or.inr (hw _ (List.mem_of_getElem? (i := 25) rfl))) (Or.inr (hw _ (List.mem_of_getElem? (i := 29) rfl))) (by decide) (t := (.object "java/lang/String")) (t' := .int) (by decide) (by decide)))).other W263 (Or.inr (slot_ne (Or.inr (hw _ (List.mem_of_getElem? (i := 25) rfl))) (Or.inr (hw _ (List.mem_of_getElem? (i := 36) rfl))) (by decide) (t := (.object "java/lang/String")) (t' := .boolean) (by decide) (by decide)))).other W270 (Or.inr (slot_ne (Or.inr (hw _ (List.mem_of_getElem? (i := 25) rfl))) (Or.inl (hw _ (List.mem_of_getElem? (i := 45) rfl))) (by decide) (t := (.object "java/lang/String")) (t' := .int) (by decide) (by decide)))).other W275 (Or.inr (slot_ne (Or.inr (hw _ (List.mem_of_getElem? (i := 25) rfl))) (Or.inl (hw _ (List.mem_of_getElem? (i := 52) rfl))) (by decide) (t := (.object "java/lang/String")) (t' := .int) (by decide) (by decide))))
      have lf286 := fa285
      have fa287 : Fld Z h275 a1 "com/example/endcon/endcon/yaml/Cursor" "text" "[C" (.ref a3) := ((((Fw22.other W27 (Or.inr (slot_ne (Or.inl (hw _ (List.mem_of_getElem? (i := 27) rfl))) (Or.inr (hw _ (List.mem_of_getElem? (i := 29) rfl))) (by decide) (t := (.array .char)) (t' := .int) (by decide) (by decide)))).other W263 (Or.inr (slot_ne (Or.inl (hw _ (List.mem_of_getElem? (i := 27) rfl))) (Or.inr (hw _ (List.mem_of_getElem? (i := 36) rfl))) (by decide) (t := (.array .char)) (t' := .boolean) (by decide) (by decide)))).other W270 (Or.inr (slot_ne (Or.inl (hw _ (List.mem_of_getElem? (i := 27) rfl))) (Or.inl (hw _ (List.mem_of_getElem? (i := 45) rfl))) (by decide) (t := (.array .char)) (t' := .int) (by decide) (by decide)))).other W275 (Or.inr (slot_ne (Or.inl (hw _ (List.mem_of_getElem? (i := 27) rfl))) (Or.inl (hw _ (List.mem_of_getElem? (i := 52) rfl))) (by decide) (t := (.array .char)) (t' := .int) (by decide) (by decide))))
      have lf288 := fa287
      have fa289 : Fld Z h275 a1 "com/example/endcon/endcon/yaml/Cursor" "end" "I" (.int p4) := (((Fw27.other W263 (Or.inr (slot_ne (Or.inr (hw _ (List.mem_of_getElem? (i := 29) rfl))) (Or.inr (hw _ (List.mem_of_getElem? (i := 36) rfl))) (by decide) (t := .int) (t' := .boolean) (by decide) (by decide)))).other W270 (Or.inr (slot_ne (Or.inr (hw _ (List.mem_of_getElem? (i := 29) rfl))) (Or.inl (hw _ (List.mem_of_getElem? (i := 45) rfl))) (by decide) (t := .int) (t' := .int) (by decide) (by decide)))).other W275 (Or.inr (slot_ne (Or.inr (hw _ (List.mem_of_getElem? (i := 29) rfl))) (Or.inl (hw _ (List.mem_of_getElem? (i := 52) rfl))) (by decide) (t := .int) (t' := .int) (by decide) (by decide))))
      have lf290 := fa289
      have fa291 : Fld Z h275 a1 "com/example/endcon/endcon/yaml/Cursor" "hasSurrogates" "Z" (.int (nar .boolean (f3 c0))) := ((Fw263.other W270 (Or.inr (slot_ne (Or.inr (hw _ (List.mem_of_getElem? (i := 36) rfl))) (Or.inl (hw _ (List.mem_of_getElem? (i := 45) rfl))) (by decide) (t := .boolean) (t' := .int) (by decide) (by decide)))).other W275 (Or.inr (slot_ne (Or.inr (hw _ (List.mem_of_getElem? (i := 36) rfl))) (Or.inl (hw _ (List.mem_of_getElem? (i := 52) rfl))) (by decide) (t := .boolean) (t' := .int) (by decide) (by decide))))
      have lf292 : Fld Z h275 a1 "com/example/endcon/endcon/yaml/Cursor" "hasSurrogates" "Z" (.int (f1b_a1_hasSurrogates p4 c0 c1 c2 c3)) := by rw [f1b_a1_hasSurrogates, if_neg hc34]; exact fa291
      have fa293 : Fld Z h275 a1 "com/example/endcon/endcon/yaml/Cursor" "pos" "I" (.int (1 : Int32)) := (Fw270.other W275 (Or.inr (slot_ne (Or.inl (hw _ (List.mem_of_getElem? (i := 45) rfl))) (Or.inl (hw _ (List.mem_of_getElem? (i := 52) rfl))) (by decide) (t := .int) (t' := .int) (by decide) (by decide))))
      have lf294 := fa293
      have lf295 := Fw275
      exact ⟨rfl, N275, kp277, fa278, lf280, lf282, lf284, lf286, lf288, lf290, lf292, lf294, lf295⟩

def f1x_a1_hasSurrogates (p4 : Int32) (c0 : Int32) (c1 : Int32) (c2 : Int32) (c3 : Int32) : Int32 := (if (1 : Int32) < p4 then (if (f3 c0) = (0 : Int32) then (if (2 : Int32) < p4 then (if (f3 c1) = (0 : Int32) then (if (3 : Int32) < p4 then (if (f3 c2) = (0 : Int32) then (nar .boolean (f3 c3)) else (nar .boolean (f3 c2))) else (nar .boolean (f3 c2))) else (nar .boolean (f3 c1))) else (nar .boolean (f3 c1))) else (nar .boolean (f3 c0))) else (nar .boolean (f3 c0)))
def Q1x (Z : State) (a1 : Addr) (a2 : Addr) (a3 : Addr) (p4 : Int32) (c0 : Int32) (c1 : Int32) (c2 : Int32) (c3 : Int32) (k_a3 : ClassId) (h0 : Heap) (n0 : Nat) (v : Option Value) (h : Heap) (L : List Loc) : Prop := v = none ∧ Fr n0 L ∧ Keep h0 h [a1] ∧ Exa Z h a1 "com/example/endcon/endcon/yaml/Cursor" ∧ Fld Z h a1 "com/example/endcon/endcon/yaml/Cursor" "line" "I" (.int (1 : Int32)) ∧ Fld Z h a1 "com/example/endcon/endcon/yaml/Cursor" "blankLinesFrom" "I" (.int (-1 : Int32)) ∧ Fld Z h a1 "com/example/endcon/endcon/yaml/Cursor" "countedIndex" "I" (.int (-1 : Int32)) ∧ Fld Z h a1 "com/example/endcon/endcon/yaml/Cursor" "file" "Ljava/lang/String;" (.ref a2) ∧ Fld Z h a1 "com/example/endcon/endcon/yaml/Cursor" "text" "[C" (.ref a3) ∧ Fld Z h a1 "com/example/endcon/endcon/yaml/Cursor" "end" "I" (.int p4) ∧ Fld Z h a1 "com/example/endcon/endcon/yaml/Cursor" "hasSurrogates" "Z" (.int (f1x_a1_hasSurrogates p4 c0 c1 c2 c3)) ∧ Fld Z h a1 "com/example/endcon/endcon/yaml/Cursor" "pos" "I" (.int (0 : Int32)) ∧ Fld Z h a1 "com/example/endcon/endcon/yaml/Cursor" "lineStart" "I" (.int (0 : Int32))
set_option maxRecDepth 65536 in
set_option maxHeartbeats 40000000 in
theorem rm1x (l : Launch) (Z : State) (a0 : Array Value) (hw : ∀ d ∈ tables_1, d.before a0 Z = true) (ws : List Jvm.Cond) (a1 : Addr) (a2 : Addr) (a3 : Addr) (p4 : Int32) (c0 : Int32) (c1 : Int32) (c2 : Int32) (c3 : Int32) (k_a3 : ClassId) (h0 : Heap) (n0 : Nat) (Z0 : n0 ≤ h0.size) (E_a1 : Exa Z h0 a1 "com/example/endcon/endcon/yaml/Cursor") (F_a1_line : Fld Z h0 a1 "com/example/endcon/endcon/yaml/Cursor" "line" "I" (.int (0 : Int32))) (F_a1_blankLinesFrom : Fld Z h0 a1 "com/example/endcon/endcon/yaml/Cursor" "blankLinesFrom" "I" (.int (0 : Int32))) (F_a1_countedIndex : Fld Z h0 a1 "com/example/endcon/endcon/yaml/Cursor" "countedIndex" "I" (.int (0 : Int32))) (F_a1_file : Fld Z h0 a1 "com/example/endcon/endcon/yaml/Cursor" "file" "Ljava/lang/String;" .null) (F_a1_text : Fld Z h0 a1 "com/example/endcon/endcon/yaml/Cursor" "text" "[C" .null) (F_a1_end : Fld Z h0 a1 "com/example/endcon/endcon/yaml/Cursor" "end" "I" (.int (0 : Int32))) (F_a1_hasSurrogates : Fld Z h0 a1 "com/example/endcon/endcon/yaml/Cursor" "hasSurrogates" "Z" (.int (0 : Int32))) (F_a1_pos : Fld Z h0 a1 "com/example/endcon/endcon/yaml/Cursor" "pos" "I" (.int (0 : Int32))) (F_a1_lineStart : Fld Z h0 a1 "com/example/endcon/endcon/yaml/Cursor" "lineStart" "I" (.int (0 : Int32))) (g_a1 : n0 ≤ a1) (V_a3 : Arv Z h0 a3 k_a3 .char (4 : Int32) [(.int c0), (.int c1), (.int c2), (.int c3)] (.int (0 : Int32))) (ne_a1_a3 : a1 ≠ a3) (hn4 : ¬ ((4 : Int32) < p4)) (hz : (0 : Int32) < p4) (hbm : ¬ (c0 = (65279 : Int32))) :
    MetFree l (⟨"com/example/endcon/endcon/yaml/Cursor", "<init>", "(Ljava/lang/String;[CI)V"⟩ : MethodName) (head1 (Jvm.Cond.code (⟨"com/example/endcon/endcon/yaml/Cursor", "<init>", "(Ljava/lang/String;[CI)V"⟩ : MethodName) prog_114_method_1_code 6 none :: ws) ({ frames := 1, cells := 0, slots := 0, locals := 12 } : Room)) (fun a U => a = #[(.ref a1), (.ref a2), (.ref a3), (.int p4)] ∧ Z.Warmed39 U.vm ∧ U.heap = h0) (fun _ _ _ _ _ => True) (fun _ U o U' => ∃ v L, o = .returned v ∧ Q1x Z a1 a2 a3 p4 c0 c1 c2 c3 k_a3 h0 n0 v U'.heap L ∧ FrameEnd U o U' L ({ frames := 1, cells := 0, slots := 0, locals := 12 } : Room).cells ({ frames := 1, cells := 0, slots := 0, locals := 12 } : Room).slots) := by
  refine MetFree.of_bodySF (plainFor_of_name pn_1) hisR ?_
  intro p e s m args below meth c s₁ Bd hml0 hP hK
  obtain ⟨rfl, hZ, hh⟩ := hP
  have hx := Bd.exec
  have hby := Bd.bytes
  have hml : c.maxLocals = 6 := hml0
  have hown : s.vm.findClass "com/example/endcon/endcon/yaml/Cursor" = some m.cls := findClass_of_methodNamed Bd.named
  have hnm := (name_of_methodNamed Bd.named Bd.method).1
  have X0 : Stand p l e ({ frames := 1, cells := 0, slots := 0, locals := 12 } : Room) s m #[(.ref a1), (.ref a2), (.ref a3), (.int p4)] below meth c s₁ [] 0 0 := Stand.of_body Bd
  have e0 : s₁.heap = h0 := by rw [← hh, Bd.state]; rfl
  have N0 := Fr.nil n0
  have pre0 : ∀ t, Steps p.tables e below (s₁.setTop (mkF m 0 #[.val (.ref a1), .val (.ref a2), .val (.ref a3), .val (.int p4), .unset, .unset] [])) t → Steps p.tables e below (s₁.setTop (entryFrame m #[(.ref a1), (.ref a2), (.ref a3), (.int p4)] 6)) t := fun t k => castTop (ef_1 m a1 a2 a3 p4) k
  obtain ⟨T1, X1, e1, st1⟩ := initO X0 hx hZ hown (hw _ (List.mem_of_getElem? (i := 15) rfl)) (hw _ (List.mem_of_getElem? (i := 16) rfl)) (hw _ (List.mem_of_getElem? (i := 17) rfl)) e0 (g := (mkF m 1 #[.val (.ref a1), .val (.ref a2), .val (.ref a3), .val (.int p4), .unset, .unset] [(.ref a1)])) rfl (by rw [hml]; rfl) rfl (hb hby d1_1) (by decide) (W := 0) (by show 2 * 0 + _ ≤ _; exact Nat.le_of_eq rfl) (by decide)
  obtain ⟨T2, h2, X2, e2, W2, st2⟩ := putF X1 hx hZ hown (host := "") (Or.inl (hw _ (List.mem_of_getElem? (i := 18) rfl))) Via.refl e1 F_a1_line E_a1 (Or.inl (hw _ (List.mem_of_getElem? (i := 19) rfl))) (hw _ (List.mem_of_getElem? (i := 2) rfl)) (ty := .int) (by decide) rfl rfl (g := (mkF m 6 #[.val (.ref a1), .val (.ref a2), .val (.ref a3), .val (.int p4), .unset, .unset] [(.int (1 : Int32)), (.ref a1)])) rfl rfl (hb hby d1_6)
  have Fw2 : Fld Z h2 a1 "com/example/endcon/endcon/yaml/Cursor" "line" "I" (.int (1 : Int32)) := F_a1_line.same W2
  have zs3 : n0 ≤ h2.size := Nat.le_trans Z0 (Keep.of_wr W2).1
  have kp4 : Keep h0 h2 [a1] := (Keep.refl h0 [a1]).wr W2 (Or.inl (List.mem_of_getElem? (i := 0) rfl))
  have N2 := Fr.snoc X2 N0 g_a1
  have fa5 : Fld Z h2 a1 "com/example/endcon/endcon/yaml/Cursor" "blankLinesFrom" "I" (.int (0 : Int32)) := (F_a1_blankLinesFrom.other W2 (Or.inr (slot_ne (Or.inl (hw _ (List.mem_of_getElem? (i := 21) rfl))) (Or.inl (hw _ (List.mem_of_getElem? (i := 19) rfl))) (by decide) (t := .int) (t' := .int) (by decide) (by decide))))
  have fa6 : Exa Z h2 a1 "com/example/endcon/endcon/yaml/Cursor" := (E_a1.wr W2)
  obtain ⟨T7, h7, X7, e7, W7, st7⟩ := putF X2 hx hZ hown (host := "") (Or.inl (hw _ (List.mem_of_getElem? (i := 20) rfl))) Via.refl e2 fa5 fa6 (Or.inl (hw _ (List.mem_of_getElem? (i := 21) rfl))) (hw _ (List.mem_of_getElem? (i := 2) rfl)) (ty := .int) (by decide) rfl rfl (g := (mkF m 11 #[.val (.ref a1), .val (.ref a2), .val (.ref a3), .val (.int p4), .unset, .unset] [(.int (-1 : Int32)), (.ref a1)])) rfl rfl (hb hby d1_11)
  have Fw7 : Fld Z h7 a1 "com/example/endcon/endcon/yaml/Cursor" "blankLinesFrom" "I" (.int (-1 : Int32)) := fa5.same W7
  have zs8 : n0 ≤ h7.size := Nat.le_trans zs3 (Keep.of_wr W7).1
  have kp9 : Keep h0 h7 [a1] := kp4.wr W7 (Or.inl (List.mem_of_getElem? (i := 0) rfl))
  have N7 := Fr.snoc X7 N2 g_a1
  have fa10 : Fld Z h7 a1 "com/example/endcon/endcon/yaml/Cursor" "countedIndex" "I" (.int (0 : Int32)) := ((F_a1_countedIndex.other W2 (Or.inr (slot_ne (Or.inl (hw _ (List.mem_of_getElem? (i := 23) rfl))) (Or.inl (hw _ (List.mem_of_getElem? (i := 19) rfl))) (by decide) (t := .int) (t' := .int) (by decide) (by decide)))).other W7 (Or.inr (slot_ne (Or.inl (hw _ (List.mem_of_getElem? (i := 23) rfl))) (Or.inl (hw _ (List.mem_of_getElem? (i := 21) rfl))) (by decide) (t := .int) (t' := .int) (by decide) (by decide))))
  have fa11 : Exa Z h7 a1 "com/example/endcon/endcon/yaml/Cursor" := (fa6.wr W7)
  obtain ⟨T12, h12, X12, e12, W12, st12⟩ := putF X7 hx hZ hown (host := "") (Or.inl (hw _ (List.mem_of_getElem? (i := 22) rfl))) Via.refl e7 fa10 fa11 (Or.inl (hw _ (List.mem_of_getElem? (i := 23) rfl))) (hw _ (List.mem_of_getElem? (i := 2) rfl)) (ty := .int) (by decide) rfl rfl (g := (mkF m 16 #[.val (.ref a1), .val (.ref a2), .val (.ref a3), .val (.int p4), .unset, .unset] [(.int (-1 : Int32)), (.ref a1)])) rfl rfl (hb hby d1_16)
  have Fw12 : Fld Z h12 a1 "com/example/endcon/endcon/yaml/Cursor" "countedIndex" "I" (.int (-1 : Int32)) := fa10.same W12
  have zs13 : n0 ≤ h12.size := Nat.le_trans zs8 (Keep.of_wr W12).1
  have kp14 : Keep h0 h12 [a1] := kp9.wr W12 (Or.inl (List.mem_of_getElem? (i := 0) rfl))
  have N12 := Fr.snoc X12 N7 g_a1
  have fa15 : Fld Z h12 a1 "com/example/endcon/endcon/yaml/Cursor" "file" "Ljava/lang/String;" .null := (((F_a1_file.other W2 (Or.inr (slot_ne (Or.inr (hw _ (List.mem_of_getElem? (i := 25) rfl))) (Or.inl (hw _ (List.mem_of_getElem? (i := 19) rfl))) (by decide) (t := (.object "java/lang/String")) (t' := .int) (by decide) (by decide)))).other W7 (Or.inr (slot_ne (Or.inr (hw _ (List.mem_of_getElem? (i := 25) rfl))) (Or.inl (hw _ (List.mem_of_getElem? (i := 21) rfl))) (by decide) (t := (.object "java/lang/String")) (t' := .int) (by decide) (by decide)))).other W12 (Or.inr (slot_ne (Or.inr (hw _ (List.mem_of_getElem? (i := 25) rfl))) (Or.inl (hw _ (List.mem_of_getElem? (i := 23) rfl))) (by decide) (t := (.object "java/lang/String")) (t' := .int) (by decide) (by decide))))
  have fa16 : Exa Z h12 a1 "com/example/endcon/endcon/yaml/Cursor" := (fa11.wr W12)
  obtain ⟨T17, h17, X17, e17, W17, st17⟩ := putF X12 hx hZ hown (host := "") (Or.inl (hw _ (List.mem_of_getElem? (i := 24) rfl))) Via.refl e12 fa15 fa16 (Or.inr ⟨(hw _ (List.mem_of_getElem? (i := 25) rfl)), rfl, hnm⟩) (hw _ (List.mem_of_getElem? (i := 2) rfl)) (ty := (.object "java/lang/String")) (by decide) rfl rfl (g := (mkF m 21 #[.val (.ref a1), .val (.ref a2), .val (.ref a3), .val (.int p4), .unset, .unset] [(.ref a2), (.ref a1)])) rfl rfl (hb hby d1_21)
  have Fw17 : Fld Z h17 a1 "com/example/endcon/endcon/yaml/Cursor" "file" "Ljava/lang/String;" (.ref a2) := fa15.same W17
  have zs18 : n0 ≤ h17.size := Nat.le_trans zs13 (Keep.of_wr W17).1
  have kp19 : Keep h0 h17 [a1] := kp14.wr W17 (Or.inl (List.mem_of_getElem? (i := 0) rfl))
  have N17 := Fr.snoc X17 N12 g_a1
  have fa20 : Fld Z h17 a1 "com/example/endcon/endcon/yaml/Cursor" "text" "[C" .null := ((((F_a1_text.other W2 (Or.inr (slot_ne (Or.inl (hw _ (List.mem_of_getElem? (i := 27) rfl))) (Or.inl (hw _ (List.mem_of_getElem? (i := 19) rfl))) (by decide) (t := (.array .char)) (t' := .int) (by decide) (by decide)))).other W7 (Or.inr (slot_ne (Or.inl (hw _ (List.mem_of_getElem? (i := 27) rfl))) (Or.inl (hw _ (List.mem_of_getElem? (i := 21) rfl))) (by decide) (t := (.array .char)) (t' := .int) (by decide) (by decide)))).other W12 (Or.inr (slot_ne (Or.inl (hw _ (List.mem_of_getElem? (i := 27) rfl))) (Or.inl (hw _ (List.mem_of_getElem? (i := 23) rfl))) (by decide) (t := (.array .char)) (t' := .int) (by decide) (by decide)))).other W17 (Or.inr (slot_ne (Or.inl (hw _ (List.mem_of_getElem? (i := 27) rfl))) (Or.inr (hw _ (List.mem_of_getElem? (i := 25) rfl))) (by decide) (t := (.array .char)) (t' := (.object "java/lang/String")) (by decide) (by decide))))
  have fa21 : Exa Z h17 a1 "com/example/endcon/endcon/yaml/Cursor" := (fa16.wr W17)
  obtain ⟨T22, h22, X22, e22, W22, st22⟩ := putF X17 hx hZ hown (host := "") (Or.inl (hw _ (List.mem_of_getElem? (i := 26) rfl))) Via.refl e17 fa20 fa21 (Or.inl (hw _ (List.mem_of_getElem? (i := 27) rfl))) (hw _ (List.mem_of_getElem? (i := 2) rfl)) (ty := (.array .char)) (by decide) rfl rfl (g := (mkF m 26 #[.val (.ref a1), .val (.ref a2), .val (.ref a3), .val (.int p4), .unset, .unset] [(.ref a3), (.ref a1)])) rfl rfl (hb hby d1_26)
  have Fw22 : Fld Z h22 a1 "com/example/endcon/endcon/yaml/Cursor" "text" "[C" (.ref a3) := fa20.same W22
  have zs23 : n0 ≤ h22.size := Nat.le_trans zs18 (Keep.of_wr W22).1
  have kp24 : Keep h0 h22 [a1] := kp19.wr W22 (Or.inl (List.mem_of_getElem? (i := 0) rfl))
  have N22 := Fr.snoc X22 N17 g_a1
  have fa25 : Fld Z h22 a1 "com/example/endcon/endcon/yaml/Cursor" "end" "I" (.int (0 : Int32)) := (((((F_a1_end.other W2 (Or.inr (slot_ne (Or.inr (hw _ (List.mem_of_getElem? (i := 29) rfl))) (Or.inl (hw _ (List.mem_of_getElem? (i := 19) rfl))) (by decide) (t := .int) (t' := .int) (by decide) (by decide)))).other W7 (Or.inr (slot_ne (Or.inr (hw _ (List.mem_of_getElem? (i := 29) rfl))) (Or.inl (hw _ (List.mem_of_getElem? (i := 21) rfl))) (by decide) (t := .int) (t' := .int) (by decide) (by decide)))).other W12 (Or.inr (slot_ne (Or.inr (hw _ (List.mem_of_getElem? (i := 29) rfl))) (Or.inl (hw _ (List.mem_of_getElem? (i := 23) rfl))) (by decide) (t := .int) (t' := .int) (by decide) (by decide)))).other W17 (Or.inr (slot_ne (Or.inr (hw _ (List.mem_of_getElem? (i := 29) rfl))) (Or.inr (hw _ (List.mem_of_getElem? (i := 25) rfl))) (by decide) (t := .int) (t' := (.object "java/lang/String")) (by decide) (by decide)))).other W22 (Or.inr (slot_ne (Or.inr (hw _ (List.mem_of_getElem? (i := 29) rfl))) (Or.inl (hw _ (List.mem_of_getElem? (i := 27) rfl))) (by decide) (t := .int) (t' := (.array .char)) (by decide) (by decide))))
  have fa26 : Exa Z h22 a1 "com/example/endcon/endcon/yaml/Cursor" := (fa21.wr W22)
  obtain ⟨T27, h27, X27, e27, W27, st27⟩ := putF X22 hx hZ hown (host := "") (Or.inl (hw _ (List.mem_of_getElem? (i := 28) rfl))) Via.refl e22 fa25 fa26 (Or.inr ⟨(hw _ (List.mem_of_getElem? (i := 29) rfl)), rfl, hnm⟩) (hw _ (List.mem_of_getElem? (i := 2) rfl)) (ty := .int) (by decide) rfl rfl (g := (mkF m 31 #[.val (.ref a1), .val (.ref a2), .val (.ref a3), .val (.int p4), .unset, .unset] [(.int p4), (.ref a1)])) rfl rfl (hb hby d1_31)
  have Fw27 : Fld Z h27 a1 "com/example/endcon/endcon/yaml/Cursor" "end" "I" (.int p4) := fa25.same W27
  have zs28 : n0 ≤ h27.size := Nat.le_trans zs23 (Keep.of_wr W27).1
  have kp29 : Keep h0 h27 [a1] := kp24.wr W27 (Or.inl (List.mem_of_getElem? (i := 0) rfl))
  have N27 := Fr.snoc X27 N22 g_a1
  have fa30 : Arv Z h27 a3 k_a3 .char (4 : Int32) [(.int c0), (.int c1), (.int c2), (.int c3)] (.int (0 : Int32)) := ((((((V_a3.other W2 (Ne.symm ne_a1_a3)).other W7 (Ne.symm ne_a1_a3)).other W12 (Ne.symm ne_a1_a3)).other W17 (Ne.symm ne_a1_a3)).other W22 (Ne.symm ne_a1_a3)).other W27 (Ne.symm ne_a1_a3))
  obtain ⟨cx31, Ar31, qq31, S31, N31_, H31, G31⟩ := id fa30
  have hin31 : ¬ ((0 : Int32) < 0 ∨ cx31.slots.size ≤ ((0 : Int32)).toNatClampNeg) := inb_of S31 ⟨by decide, by decide⟩
  have hat31 : cx31.slots[((0 : Int32)).toNatClampNeg]? = some (.int c0) := (H31 ((0 : Int32)).toNatClampNeg (Nat.lt_of_not_le fun w => hin31 (Or.inr w))).trans (congrArg some (rfl))
  obtain ⟨_, T32, Lc32, X32, hQ32, st32⟩ := own_callS X27 hx hZ (y := (⟨"java/lang/Character", "isSurrogate", "(C)Z"⟩ : MethodName)) hown (hw _ (List.mem_of_getElem? (i := 30) rfl)) (hw _ (List.mem_of_getElem? (i := 31) rfl)) (hw _ (List.mem_of_getElem? (i := 32) rfl)) (hw _ (List.mem_of_getElem? (i := 33) rfl)) (by decide) (W := 0) (argsL := [(.int c0)]) (rest := []) (rm3 l Z a0 hw [] c0 h27 n0 zs28 ) (by decide) (by decide) (c' := 0) (s' := 0) rfl rfl (by decide) (by decide) e27 (g := (mkF m 55 #[.val (.ref a1), .val (.ref a2), .val (.ref a3), .val (.int p4), .val (.int (0 : Int32)), .val (.int (0 : Int32))] [(.int c0)])) rfl (by rw [hml]; rfl) (lenOf pd_1_2 rfl) rfl (by show 2 * 0 + _ ≤ _; exact Nat.le_of_eq rfl) (hb hby d1_55)
  obtain ⟨rfl, N32q, e32⟩ := hQ32
  have N32 := Fr.app N27 N32q
  have pre33 : ∀ t, Steps p.tables e below (T32.setTop (mkF m 43 #[.val (.ref a1), .val (.ref a2), .val (.ref a3), .val (.int p4), .val (.int (f3 c0)), .val (.int (1 : Int32))] [(.int p4), (.int (1 : Int32))])) t → Steps p.tables e below (s₁.setTop (entryFrame m #[(.ref a1), (.ref a2), (.ref a3), (.int p4)] 6)) t := fun t kt => by
    refine pre0 _ ?_
    show Steps p.tables e below (s₁.setTop (mkF m 0 #[.val (.ref a1), .val (.ref a2), .val (.ref a3), .val (.int p4), .unset, .unset] [])) _
    refine own_blk X0 hx bl1_0_1 (own_hb hby bd1_0_1) (pc' := 1) (Ls' := #[.val (.ref a1), .val (.ref a2), .val (.ref a3), .val (.int p4), .unset, .unset]) (st' := [(.ref a1)]) rfl ?_
    refine st1 _ ?_
    show Steps p.tables e below (T1.setTop (mkF m 4 #[.val (.ref a1), .val (.ref a2), .val (.ref a3), .val (.int p4), .unset, .unset] [])) _
    refine own_blk X1 hx bl1_4_2 (own_hb hby bd1_4_2) (pc' := 6) (Ls' := #[.val (.ref a1), .val (.ref a2), .val (.ref a3), .val (.int p4), .unset, .unset]) (st' := [(.int (1 : Int32)), (.ref a1)]) rfl ?_
    refine st2 _ ?_
    show Steps p.tables e below (T2.setTop (mkF m 9 #[.val (.ref a1), .val (.ref a2), .val (.ref a3), .val (.int p4), .unset, .unset] [])) _
    refine own_blk X2 hx bl1_9_2 (own_hb hby bd1_9_2) (pc' := 11) (Ls' := #[.val (.ref a1), .val (.ref a2), .val (.ref a3), .val (.int p4), .unset, .unset]) (st' := [(.int (-1 : Int32)), (.ref a1)]) rfl ?_
    refine st7 _ ?_
    show Steps p.tables e below (T7.setTop (mkF m 14 #[.val (.ref a1), .val (.ref a2), .val (.ref a3), .val (.int p4), .unset, .unset] [])) _
    refine own_blk X7 hx bl1_14_2 (own_hb hby bd1_14_2) (pc' := 16) (Ls' := #[.val (.ref a1), .val (.ref a2), .val (.ref a3), .val (.int p4), .unset, .unset]) (st' := [(.int (-1 : Int32)), (.ref a1)]) rfl ?_
    refine st12 _ ?_
    show Steps p.tables e below (T12.setTop (mkF m 19 #[.val (.ref a1), .val (.ref a2), .val (.ref a3), .val (.int p4), .unset, .unset] [])) _
    refine own_blk X12 hx bl1_19_2 (own_hb hby bd1_19_2) (pc' := 21) (Ls' := #[.val (.ref a1), .val (.ref a2), .val (.ref a3), .val (.int p4), .unset, .unset]) (st' := [(.ref a2), (.ref a1)]) rfl ?_
    refine st17 _ ?_
    show Steps p.tables e below (T17.setTop (mkF m 24 #[.val (.ref a1), .val (.ref a2), .val (.ref a3), .val (.int p4), .unset, .unset] [])) _
    refine own_blk X17 hx bl1_24_2 (own_hb hby bd1_24_2) (pc' := 26) (Ls' := #[.val (.ref a1), .val (.ref a2), .val (.ref a3), .val (.int p4), .unset, .unset]) (st' := [(.ref a3), (.ref a1)]) rfl ?_
    refine st22 _ ?_
    show Steps p.tables e below (T22.setTop (mkF m 29 #[.val (.ref a1), .val (.ref a2), .val (.ref a3), .val (.int p4), .unset, .unset] [])) _
    refine own_blk X22 hx bl1_29_2 (own_hb hby bd1_29_2) (pc' := 31) (Ls' := #[.val (.ref a1), .val (.ref a2), .val (.ref a3), .val (.int p4), .unset, .unset]) (st' := [(.int p4), (.ref a1)]) rfl ?_
    refine st27 _ ?_
    show Steps p.tables e below (T27.setTop (mkF m 34 #[.val (.ref a1), .val (.ref a2), .val (.ref a3), .val (.int p4), .unset, .unset] [])) _
    refine own_blk X27 hx bl1_34_2 (own_hb hby bd1_34_2) (pc' := 37) (Ls' := #[.val (.ref a1), .val (.ref a2), .val (.ref a3), .val (.int p4), .val (.int (0 : Int32)), .unset]) (st' := []) rfl ?_
    refine own_blk X27 hx bl1_37_2 (own_hb hby bd1_37_2) (pc' := 40) (Ls' := #[.val (.ref a1), .val (.ref a2), .val (.ref a3), .val (.int p4), .val (.int (0 : Int32)), .val (.int (0 : Int32))]) (st' := []) rfl ?_
    refine own_blk X27 hx bl1_40_2 (own_hb hby bd1_40_2) (pc' := 43) (Ls' := #[.val (.ref a1), .val (.ref a2), .val (.ref a3), .val (.int p4), .val (.int (0 : Int32)), .val (.int (0 : Int32))]) (st' := [(.int p4), (.int (0 : Int32))]) rfl ?_
    refine XS.icmpNo X27.here hx rfl (hb hby d1_43) rfl (tlt hz).2.1 ?_
    show Steps p.tables e below (T27.setTop (mkF m 46 #[.val (.ref a1), .val (.ref a2), .val (.ref a3), .val (.int p4), .val (.int (0 : Int32)), .val (.int (0 : Int32))] [])) _
    refine own_blk X27 hx bl1_46_1 (own_hb hby bd1_46_1) (pc' := 48) (Ls' := #[.val (.ref a1), .val (.ref a2), .val (.ref a3), .val (.int p4), .val (.int (0 : Int32)), .val (.int (0 : Int32))]) (st' := [(.int (0 : Int32))]) rfl ?_
    refine XS.ifNo X27.here hx rfl (hb hby d1_48) rfl ((if0 _ _).trans (teq (by decide : (0 : Int32) = (0 : Int32))).2) ?_
    show Steps p.tables e below (T27.setTop (mkF m 51 #[.val (.ref a1), .val (.ref a2), .val (.ref a3), .val (.int p4), .val (.int (0 : Int32)), .val (.int (0 : Int32))] [])) _
    refine own_blk X27 hx bl1_51_2 (own_hb hby bd1_51_2) (pc' := 54) (Ls' := #[.val (.ref a1), .val (.ref a2), .val (.ref a3), .val (.int p4), .val (.int (0 : Int32)), .val (.int (0 : Int32))]) (st' := [(.int (0 : Int32)), (.ref a3)]) rfl ?_
    refine X27.caload hx (j := (0 : Int32)) (v := (.int c0)) (by rw [e27]; exact Ar31.1) (State.isArrayOf_alike hZ.alike Ar31.2.1) Ar31.2.2 hin31 hat31 (g := (mkF m 54 #[.val (.ref a1), .val (.ref a2), .val (.ref a3), .val (.int p4), .val (.int (0 : Int32)), .val (.int (0 : Int32))] [(.int (0 : Int32)), (.ref a3)])) rfl rfl (hb hby d1_54) _ ?_
    show Steps p.tables e below (T27.setTop (mkF m 55 #[.val (.ref a1), .val (.ref a2), .val (.ref a3), .val (.int p4), .val (.int (0 : Int32)), .val (.int (0 : Int32))] [(.int c0)])) _
    refine st32 _ ?_
    show Steps p.tables e below (T32.setTop (mkF m 58 #[.val (.ref a1), .val (.ref a2), .val (.ref a3), .val (.int p4), .val (.int (0 : Int32)), .val (.int (0 : Int32))] [(.int (f3 c0))])) _
    refine own_blk X32 hx bl1_58_1 (own_hb hby bd1_58_1) (pc' := 60) (Ls' := #[.val (.ref a1), .val (.ref a2), .val (.ref a3), .val (.int p4), .val (.int (f3 c0)), .val (.int (0 : Int32))]) (st' := []) rfl ?_
    refine own_blk X32 hx bl1_60_1 (own_hb hby bd1_60_1) (pc' := 63) (Ls' := #[.val (.ref a1), .val (.ref a2), .val (.ref a3), .val (.int p4), .val (.int (f3 c0)), .val (.int (1 : Int32))]) (st' := []) rfl ?_
    refine own_blk X32 hx bl1_63_3 (own_hb hby bd1_63_3) (pc' := 43) (Ls' := #[.val (.ref a1), .val (.ref a2), .val (.ref a3), .val (.int p4), .val (.int (f3 c0)), .val (.int (1 : Int32))]) (st' := [(.int p4), (.int (1 : Int32))]) rfl ?_
    exact kt
  by_cases hc34 : (1 : Int32) < p4
  · have pre35 : ∀ t, Steps p.tables e below (T32.setTop (mkF m 48 #[.val (.ref a1), .val (.ref a2), .val (.ref a3), .val (.int p4), .val (.int (f3 c0)), .val (.int (1 : Int32))] [(.int (f3 c0))])) t → Steps p.tables e below (s₁.setTop (entryFrame m #[(.ref a1), (.ref a2), (.ref a3), (.int p4)] 6)) t := fun t kt => by
      refine pre33 _ ?_
      show Steps p.tables e below (T32.setTop (mkF m 43 #[.val (.ref a1), .val (.ref a2), .val (.ref a3), .val (.int p4), .val (.int (f3 c0)), .val (.int (1 : Int32))] [(.int p4), (.int (1 : Int32))])) _
      refine XS.icmpNo X32.here hx rfl (hb hby d1_43) rfl (tlt hc34).2.1 ?_
      show Steps p.tables e below (T32.setTop (mkF m 46 #[.val (.ref a1), .val (.ref a2), .val (.ref a3), .val (.int p4), .val (.int (f3 c0)), .val (.int (1 : Int32))] [])) _
      refine own_blk X32 hx bl1_46_1 (own_hb hby bd1_46_1) (pc' := 48) (Ls' := #[.val (.ref a1), .val (.ref a2), .val (.ref a3), .val (.int p4), .val (.int (f3 c0)), .val (.int (1 : Int32))]) (st' := [(.int (f3 c0))]) rfl ?_
      exact kt
    by_cases hc36 : (f3 c0) = (0 : Int32)
    · obtain ⟨cx37, Ar37, qq37, S37, N37_, H37, G37⟩ := id fa30
      have hin37 : ¬ ((1 : Int32) < 0 ∨ cx37.slots.size ≤ ((1 : Int32)).toNatClampNeg) := inb_of S37 ⟨by decide, by decide⟩
      have hat37 : cx37.slots[((1 : Int32)).toNatClampNeg]? = some (.int c1) := (H37 ((1 : Int32)).toNatClampNeg (Nat.lt_of_not_le fun w => hin37 (Or.inr w))).trans (congrArg some (rfl))
      obtain ⟨_, T38, Lc38, X38, hQ38, st38⟩ := own_callS X32 hx hZ (y := (⟨"java/lang/Character", "isSurrogate", "(C)Z"⟩ : MethodName)) hown (hw _ (List.mem_of_getElem? (i := 30) rfl)) (hw _ (List.mem_of_getElem? (i := 31) rfl)) (hw _ (List.mem_of_getElem? (i := 32) rfl)) (hw _ (List.mem_of_getElem? (i := 33) rfl)) (by decide) (W := 0) (argsL := [(.int c1)]) (rest := []) (rm3 l Z a0 hw [] c1 h27 n0 zs28 ) (by decide) (by decide) (c' := 0) (s' := 0) rfl rfl (by decide) (by decide) e32 (g := (mkF m 55 #[.val (.ref a1), .val (.ref a2), .val (.ref a3), .val (.int p4), .val (.int (f3 c0)), .val (.int (1 : Int32))] [(.int c1)])) rfl (by rw [hml]; rfl) (lenOf pd_1_2 rfl) rfl (by show 2 * 0 + _ ≤ _; exact Nat.le_of_eq rfl) (hb hby d1_55)
      obtain ⟨rfl, N38q, e38⟩ := hQ38
      have N38 := Fr.app N32 N38q
      have pre39 : ∀ t, Steps p.tables e below (T38.setTop (mkF m 43 #[.val (.ref a1), .val (.ref a2), .val (.ref a3), .val (.int p4), .val (.int (f3 c1)), .val (.int (2 : Int32))] [(.int p4), (.int (2 : Int32))])) t → Steps p.tables e below (s₁.setTop (entryFrame m #[(.ref a1), (.ref a2), (.ref a3), (.int p4)] 6)) t := fun t kt => by
        refine pre35 _ ?_
        show Steps p.tables e below (T32.setTop (mkF m 48 #[.val (.ref a1), .val (.ref a2), .val (.ref a3), .val (.int p4), .val (.int (f3 c0)), .val (.int (1 : Int32))] [(.int (f3 c0))])) _
        refine XS.ifNo X32.here hx rfl (hb hby d1_48) rfl ((if0 _ _).trans (teq hc36).2) ?_
        show Steps p.tables e below (T32.setTop (mkF m 51 #[.val (.ref a1), .val (.ref a2), .val (.ref a3), .val (.int p4), .val (.int (f3 c0)), .val (.int (1 : Int32))] [])) _
        refine own_blk X32 hx bl1_51_2 (own_hb hby bd1_51_2) (pc' := 54) (Ls' := #[.val (.ref a1), .val (.ref a2), .val (.ref a3), .val (.int p4), .val (.int (f3 c0)), .val (.int (1 : Int32))]) (st' := [(.int (1 : Int32)), (.ref a3)]) rfl ?_
        refine X32.caload hx (j := (1 : Int32)) (v := (.int c1)) (by rw [e32]; exact Ar37.1) (State.isArrayOf_alike hZ.alike Ar37.2.1) Ar37.2.2 hin37 hat37 (g := (mkF m 54 #[.val (.ref a1), .val (.ref a2), .val (.ref a3), .val (.int p4), .val (.int (f3 c0)), .val (.int (1 : Int32))] [(.int (1 : Int32)), (.ref a3)])) rfl rfl (hb hby d1_54) _ ?_
        show Steps p.tables e below (T32.setTop (mkF m 55 #[.val (.ref a1), .val (.ref a2), .val (.ref a3), .val (.int p4), .val (.int (f3 c0)), .val (.int (1 : Int32))] [(.int c1)])) _
        refine st38 _ ?_
        show Steps p.tables e below (T38.setTop (mkF m 58 #[.val (.ref a1), .val (.ref a2), .val (.ref a3), .val (.int p4), .val (.int (f3 c0)), .val (.int (1 : Int32))] [(.int (f3 c1))])) _
        refine own_blk X38 hx bl1_58_1 (own_hb hby bd1_58_1) (pc' := 60) (Ls' := #[.val (.ref a1), .val (.ref a2), .val (.ref a3), .val (.int p4), .val (.int (f3 c1)), .val (.int (1 : Int32))]) (st' := []) rfl ?_
        refine own_blk X38 hx bl1_60_1 (own_hb hby bd1_60_1) (pc' := 63) (Ls' := #[.val (.ref a1), .val (.ref a2), .val (.ref a3), .val (.int p4), .val (.int (f3 c1)), .val (.int (2 : Int32))]) (st' := []) rfl ?_
        refine own_blk X38 hx bl1_63_3 (own_hb hby bd1_63_3) (pc' := 43) (Ls' := #[.val (.ref a1), .val (.ref a2), .val (.ref a3), .val (.int p4), .val (.int (f3 c1)), .val (.int (2 : Int32))]) (st' := [(.int p4), (.int (2 : Int32))]) rfl ?_
        exact kt
      by_cases hc40 : (2 : Int32) < p4
      · have pre41 : ∀ t, Steps p.tables e below (T38.setTop (mkF m 48 #[.val (.ref a1), .val (.ref a2), .val (.ref a3), .val (.int p4), .val (.int (f3 c1)), .val (.int (2 : Int32))] [(.int (f3 c1))])) t → Steps p.tables e below (s₁.setTop (entryFrame m #[(.ref a1), (.ref a2), (.ref a3), (.int p4)] 6)) t := fun t kt => by
          refine pre39 _ ?_
          show Steps p.tables e below (T38.setTop (mkF m 43 #[.val (.ref a1), .val (.ref a2), .val (.ref a3), .val (.int p4), .val (.int (f3 c1)), .val (.int (2 : Int32))] [(.int p4), (.int (2 : Int32))])) _
          refine XS.icmpNo X38.here hx rfl (hb hby d1_43) rfl (tlt hc40).2.1 ?_
          show Steps p.tables e below (T38.setTop (mkF m 46 #[.val (.ref a1), .val (.ref a2), .val (.ref a3), .val (.int p4), .val (.int (f3 c1)), .val (.int (2 : Int32))] [])) _
          refine own_blk X38 hx bl1_46_1 (own_hb hby bd1_46_1) (pc' := 48) (Ls' := #[.val (.ref a1), .val (.ref a2), .val (.ref a3), .val (.int p4), .val (.int (f3 c1)), .val (.int (2 : Int32))]) (st' := [(.int (f3 c1))]) rfl ?_
          exact kt
        by_cases hc42 : (f3 c1) = (0 : Int32)
        · obtain ⟨cx43, Ar43, qq43, S43, N43_, H43, G43⟩ := id fa30
          have hin43 : ¬ ((2 : Int32) < 0 ∨ cx43.slots.size ≤ ((2 : Int32)).toNatClampNeg) := inb_of S43 ⟨by decide, by decide⟩
          have hat43 : cx43.slots[((2 : Int32)).toNatClampNeg]? = some (.int c2) := (H43 ((2 : Int32)).toNatClampNeg (Nat.lt_of_not_le fun w => hin43 (Or.inr w))).trans (congrArg some (rfl))
          obtain ⟨_, T44, Lc44, X44, hQ44, st44⟩ := own_callS X38 hx hZ (y := (⟨"java/lang/Character", "isSurrogate", "(C)Z"⟩ : MethodName)) hown (hw _ (List.mem_of_getElem? (i := 30) rfl)) (hw _ (List.mem_of_getElem? (i := 31) rfl)) (hw _ (List.mem_of_getElem? (i := 32) rfl)) (hw _ (List.mem_of_getElem? (i := 33) rfl)) (by decide) (W := 0) (argsL := [(.int c2)]) (rest := []) (rm3 l Z a0 hw [] c2 h27 n0 zs28 ) (by decide) (by decide) (c' := 0) (s' := 0) rfl rfl (by decide) (by decide) e38 (g := (mkF m 55 #[.val (.ref a1), .val (.ref a2), .val (.ref a3), .val (.int p4), .val (.int (f3 c1)), .val (.int (2 : Int32))] [(.int c2)])) rfl (by rw [hml]; rfl) (lenOf pd_1_2 rfl) rfl (by show 2 * 0 + _ ≤ _; exact Nat.le_of_eq rfl) (hb hby d1_55)
          obtain ⟨rfl, N44q, e44⟩ := hQ44
          have N44 := Fr.app N38 N44q
          have pre45 : ∀ t, Steps p.tables e below (T44.setTop (mkF m 43 #[.val (.ref a1), .val (.ref a2), .val (.ref a3), .val (.int p4), .val (.int (f3 c2)), .val (.int (3 : Int32))] [(.int p4), (.int (3 : Int32))])) t → Steps p.tables e below (s₁.setTop (entryFrame m #[(.ref a1), (.ref a2), (.ref a3), (.int p4)] 6)) t := fun t kt => by
            refine pre41 _ ?_
            show Steps p.tables e below (T38.setTop (mkF m 48 #[.val (.ref a1), .val (.ref a2), .val (.ref a3), .val (.int p4), .val (.int (f3 c1)), .val (.int (2 : Int32))] [(.int (f3 c1))])) _
            refine XS.ifNo X38.here hx rfl (hb hby d1_48) rfl ((if0 _ _).trans (teq hc42).2) ?_
            show Steps p.tables e below (T38.setTop (mkF m 51 #[.val (.ref a1), .val (.ref a2), .val (.ref a3), .val (.int p4), .val (.int (f3 c1)), .val (.int (2 : Int32))] [])) _
            refine own_blk X38 hx bl1_51_2 (own_hb hby bd1_51_2) (pc' := 54) (Ls' := #[.val (.ref a1), .val (.ref a2), .val (.ref a3), .val (.int p4), .val (.int (f3 c1)), .val (.int (2 : Int32))]) (st' := [(.int (2 : Int32)), (.ref a3)]) rfl ?_
            refine X38.caload hx (j := (2 : Int32)) (v := (.int c2)) (by rw [e38]; exact Ar43.1) (State.isArrayOf_alike hZ.alike Ar43.2.1) Ar43.2.2 hin43 hat43 (g := (mkF m 54 #[.val (.ref a1), .val (.ref a2), .val (.ref a3), .val (.int p4), .val (.int (f3 c1)), .val (.int (2 : Int32))] [(.int (2 : Int32)), (.ref a3)])) rfl rfl (hb hby d1_54) _ ?_
            show Steps p.tables e below (T38.setTop (mkF m 55 #[.val (.ref a1), .val (.ref a2), .val (.ref a3), .val (.int p4), .val (.int (f3 c1)), .val (.int (2 : Int32))] [(.int c2)])) _
            refine st44 _ ?_
            show Steps p.tables e below (T44.setTop (mkF m 58 #[.val (.ref a1), .val (.ref a2), .val (.ref a3), .val (.int p4), .val (.int (f3 c1)), .val (.int (2 : Int32))] [(.int (f3 c2))])) _
            refine own_blk X44 hx bl1_58_1 (own_hb hby bd1_58_1) (pc' := 60) (Ls' := #[.val (.ref a1), .val (.ref a2), .val (.ref a3), .val (.int p4), .val (.int (f3 c2)), .val (.int (2 : Int32))]) (st' := []) rfl ?_
            refine own_blk X44 hx bl1_60_1 (own_hb hby bd1_60_1) (pc' := 63) (Ls' := #[.val (.ref a1), .val (.ref a2), .val (.ref a3), .val (.int p4), .val (.int (f3 c2)), .val (.int (3 : Int32))]) (st' := []) rfl ?_
            refine own_blk X44 hx bl1_63_3 (own_hb hby bd1_63_3) (pc' := 43) (Ls' := #[.val (.ref a1), .val (.ref a2), .val (.ref a3), .val (.int p4), .val (.int (f3 c2)), .val (.int (3 : Int32))]) (st' := [(.int p4), (.int (3 : Int32))]) rfl ?_
            exact kt
          by_cases hc46 : (3 : Int32) < p4
          · have pre47 : ∀ t, Steps p.tables e below (T44.setTop (mkF m 48 #[.val (.ref a1), .val (.ref a2), .val (.ref a3), .val (.int p4), .val (.int (f3 c2)), .val (.int (3 : Int32))] [(.int (f3 c2))])) t → Steps p.tables e below (s₁.setTop (entryFrame m #[(.ref a1), (.ref a2), (.ref a3), (.int p4)] 6)) t := fun t kt => by
              refine pre45 _ ?_
              show Steps p.tables e below (T44.setTop (mkF m 43 #[.val (.ref a1), .val (.ref a2), .val (.ref a3), .val (.int p4), .val (.int (f3 c2)), .val (.int (3 : Int32))] [(.int p4), (.int (3 : Int32))])) _
              refine XS.icmpNo X44.here hx rfl (hb hby d1_43) rfl (tlt hc46).2.1 ?_
              show Steps p.tables e below (T44.setTop (mkF m 46 #[.val (.ref a1), .val (.ref a2), .val (.ref a3), .val (.int p4), .val (.int (f3 c2)), .val (.int (3 : Int32))] [])) _
              refine own_blk X44 hx bl1_46_1 (own_hb hby bd1_46_1) (pc' := 48) (Ls' := #[.val (.ref a1), .val (.ref a2), .val (.ref a3), .val (.int p4), .val (.int (f3 c2)), .val (.int (3 : Int32))]) (st' := [(.int (f3 c2))]) rfl ?_
              exact kt
            by_cases hc48 : (f3 c2) = (0 : Int32)
            · obtain ⟨cx49, Ar49, qq49, S49, N49_, H49, G49⟩ := id fa30
              have hin49 : ¬ ((3 : Int32) < 0 ∨ cx49.slots.size ≤ ((3 : Int32)).toNatClampNeg) := inb_of S49 ⟨by decide, by decide⟩
              have hat49 : cx49.slots[((3 : Int32)).toNatClampNeg]? = some (.int c3) := (H49 ((3 : Int32)).toNatClampNeg (Nat.lt_of_not_le fun w => hin49 (Or.inr w))).trans (congrArg some (rfl))
              obtain ⟨_, T50, Lc50, X50, hQ50, st50⟩ := own_callS X44 hx hZ (y := (⟨"java/lang/Character", "isSurrogate", "(C)Z"⟩ : MethodName)) hown (hw _ (List.mem_of_getElem? (i := 30) rfl)) (hw _ (List.mem_of_getElem? (i := 31) rfl)) (hw _ (List.mem_of_getElem? (i := 32) rfl)) (hw _ (List.mem_of_getElem? (i := 33) rfl)) (by decide) (W := 0) (argsL := [(.int c3)]) (rest := []) (rm3 l Z a0 hw [] c3 h27 n0 zs28 ) (by decide) (by decide) (c' := 0) (s' := 0) rfl rfl (by decide) (by decide) e44 (g := (mkF m 55 #[.val (.ref a1), .val (.ref a2), .val (.ref a3), .val (.int p4), .val (.int (f3 c2)), .val (.int (3 : Int32))] [(.int c3)])) rfl (by rw [hml]; rfl) (lenOf pd_1_2 rfl) rfl (by show 2 * 0 + _ ≤ _; exact Nat.le_of_eq rfl) (hb hby d1_55)
              obtain ⟨rfl, N50q, e50⟩ := hQ50
              have N50 := Fr.app N44 N50q
              have fa51 : Fld Z h27 a1 "com/example/endcon/endcon/yaml/Cursor" "hasSurrogates" "Z" (.int (0 : Int32)) := ((((((F_a1_hasSurrogates.other W2 (Or.inr (slot_ne (Or.inr (hw _ (List.mem_of_getElem? (i := 36) rfl))) (Or.inl (hw _ (List.mem_of_getElem? (i := 19) rfl))) (by decide) (t := .boolean) (t' := .int) (by decide) (by decide)))).other W7 (Or.inr (slot_ne (Or.inr (hw _ (List.mem_of_getElem? (i := 36) rfl))) (Or.inl (hw _ (List.mem_of_getElem? (i := 21) rfl))) (by decide) (t := .boolean) (t' := .int) (by decide) (by decide)))).other W12 (Or.inr (slot_ne (Or.inr (hw _ (List.mem_of_getElem? (i := 36) rfl))) (Or.inl (hw _ (List.mem_of_getElem? (i := 23) rfl))) (by decide) (t := .boolean) (t' := .int) (by decide) (by decide)))).other W17 (Or.inr (slot_ne (Or.inr (hw _ (List.mem_of_getElem? (i := 36) rfl))) (Or.inr (hw _ (List.mem_of_getElem? (i := 25) rfl))) (by decide) (t := .boolean) (t' := (.object "java/lang/String")) (by decide) (by decide)))).other W22 (Or.inr (slot_ne (Or.inr (hw _ (List.mem_of_getElem? (i := 36) rfl))) (Or.inl (hw _ (List.mem_of_getElem? (i := 27) rfl))) (by decide) (t := .boolean) (t' := (.array .char)) (by decide) (by decide)))).other W27 (Or.inr (slot_ne (Or.inr (hw _ (List.mem_of_getElem? (i := 36) rfl))) (Or.inr (hw _ (List.mem_of_getElem? (i := 29) rfl))) (by decide) (t := .boolean) (t' := .int) (by decide) (by decide))))
              have fa52 : Exa Z h27 a1 "com/example/endcon/endcon/yaml/Cursor" := (fa26.wr W27)
              obtain ⟨T53, h53, X53, e53, W53, st53⟩ := putFN X50 hx hZ hown (hw _ (List.mem_of_getElem? (i := 35) rfl)) Via.refl e50 fa51 fa52 (Or.inr ⟨(hw _ (List.mem_of_getElem? (i := 36) rfl)), rfl, hnm⟩) (hw _ (List.mem_of_getElem? (i := 2) rfl)) (ty := .boolean) (v' := (.int (nar .boolean (f3 c3)))) (by decide) rfl (fits_nar_bool _) (g := (mkF m 69 #[.val (.ref a1), .val (.ref a2), .val (.ref a3), .val (.int p4), .val (.int (f3 c3)), .val (.int (4 : Int32))] [(.int (f3 c3)), (.ref a1)])) rfl rfl (hb hby d1_69)
              have Fw53 : Fld Z h53 a1 "com/example/endcon/endcon/yaml/Cursor" "hasSurrogates" "Z" (.int (nar .boolean (f3 c3))) := fa51.same W53
              have zs54 : n0 ≤ h53.size := Nat.le_trans zs28 (Keep.of_wr W53).1
              have kp55 : Keep h0 h53 [a1] := kp29.wr W53 (Or.inl (List.mem_of_getElem? (i := 0) rfl))
              have N53 := Fr.snoc X53 N50 g_a1
              have fa56 : Arv Z h53 a3 k_a3 .char (4 : Int32) [(.int c0), (.int c1), (.int c2), (.int c3)] (.int (0 : Int32)) := (fa30.other W53 (Ne.symm ne_a1_a3))
              obtain ⟨cx57, Ar57, qq57, S57, N57_, H57, G57⟩ := id fa56
              have hin57 : ¬ ((0 : Int32) < 0 ∨ cx57.slots.size ≤ ((0 : Int32)).toNatClampNeg) := inb_of S57 ⟨by decide, by decide⟩
              have hat57 : cx57.slots[((0 : Int32)).toNatClampNeg]? = some (.int c0) := (H57 ((0 : Int32)).toNatClampNeg (Nat.lt_of_not_le fun w => hin57 (Or.inr w))).trans (congrArg some (rfl))
              obtain ⟨fs, hr, hrun, hended, hW, hsame⟩ := X53.leave (v := none) (fun _ => rfl)
              refine ⟨_, _, pre47 _ ?_, hrun, hended, _, _, rfl, ?_, ⟨_, rfl⟩, hW, hsame.mono (by decide) (by decide)⟩
              · show Steps p.tables e below (T44.setTop (mkF m 48 #[.val (.ref a1), .val (.ref a2), .val (.ref a3), .val (.int p4), .val (.int (f3 c2)), .val (.int (3 : Int32))] [(.int (f3 c2))])) _
                refine XS.ifNo X44.here hx rfl (hb hby d1_48) rfl ((if0 _ _).trans (teq hc48).2) ?_
                show Steps p.tables e below (T44.setTop (mkF m 51 #[.val (.ref a1), .val (.ref a2), .val (.ref a3), .val (.int p4), .val (.int (f3 c2)), .val (.int (3 : Int32))] [])) _
                refine own_blk X44 hx bl1_51_2 (own_hb hby bd1_51_2) (pc' := 54) (Ls' := #[.val (.ref a1), .val (.ref a2), .val (.ref a3), .val (.int p4), .val (.int (f3 c2)), .val (.int (3 : Int32))]) (st' := [(.int (3 : Int32)), (.ref a3)]) rfl ?_
                refine X44.caload hx (j := (3 : Int32)) (v := (.int c3)) (by rw [e44]; exact Ar49.1) (State.isArrayOf_alike hZ.alike Ar49.2.1) Ar49.2.2 hin49 hat49 (g := (mkF m 54 #[.val (.ref a1), .val (.ref a2), .val (.ref a3), .val (.int p4), .val (.int (f3 c2)), .val (.int (3 : Int32))] [(.int (3 : Int32)), (.ref a3)])) rfl rfl (hb hby d1_54) _ ?_
                show Steps p.tables e below (T44.setTop (mkF m 55 #[.val (.ref a1), .val (.ref a2), .val (.ref a3), .val (.int p4), .val (.int (f3 c2)), .val (.int (3 : Int32))] [(.int c3)])) _
                refine st50 _ ?_
                show Steps p.tables e below (T50.setTop (mkF m 58 #[.val (.ref a1), .val (.ref a2), .val (.ref a3), .val (.int p4), .val (.int (f3 c2)), .val (.int (3 : Int32))] [(.int (f3 c3))])) _
                refine own_blk X50 hx bl1_58_1 (own_hb hby bd1_58_1) (pc' := 60) (Ls' := #[.val (.ref a1), .val (.ref a2), .val (.ref a3), .val (.int p4), .val (.int (f3 c3)), .val (.int (3 : Int32))]) (st' := []) rfl ?_
                refine own_blk X50 hx bl1_60_1 (own_hb hby bd1_60_1) (pc' := 63) (Ls' := #[.val (.ref a1), .val (.ref a2), .val (.ref a3), .val (.int p4), .val (.int (f3 c3)), .val (.int (4 : Int32))]) (st' := []) rfl ?_
                refine own_blk X50 hx bl1_63_3 (own_hb hby bd1_63_3) (pc' := 43) (Ls' := #[.val (.ref a1), .val (.ref a2), .val (.ref a3), .val (.int p4), .val (.int (f3 c3)), .val (.int (4 : Int32))]) (st' := [(.int p4), (.int (4 : Int32))]) rfl ?_
                refine XS.icmpYes X50.here hx rfl (pc0 := 43) (pc' := 66) rfl (hb hby d1_43) rfl (flt hn4).2.1 (by decide) (by decide) ?_
                show Steps p.tables e below (T50.setTop (mkF m 66 #[.val (.ref a1), .val (.ref a2), .val (.ref a3), .val (.int p4), .val (.int (f3 c3)), .val (.int (4 : Int32))] [])) _
                refine own_blk X50 hx bl1_66_2 (own_hb hby bd1_66_2) (pc' := 69) (Ls' := #[.val (.ref a1), .val (.ref a2), .val (.ref a3), .val (.int p4), .val (.int (f3 c3)), .val (.int (4 : Int32))]) (st' := [(.int (f3 c3)), (.ref a1)]) rfl ?_
                refine st53 _ ?_
                show Steps p.tables e below (T53.setTop (mkF m 72 #[.val (.ref a1), .val (.ref a2), .val (.ref a3), .val (.int p4), .val (.int (f3 c3)), .val (.int (4 : Int32))] [])) _
                refine own_blk X53 hx bl1_72_1 (own_hb hby bd1_72_1) (pc' := 73) (Ls' := #[.val (.ref a1), .val (.ref a2), .val (.ref a3), .val (.int p4), .val (.int (f3 c3)), .val (.int (4 : Int32))]) (st' := [(.int p4)]) rfl ?_
                refine XS.ifNo X53.here hx rfl (hb hby d1_73) rfl ((if0 _ _).trans (tlt hz).2.2.2) ?_
                show Steps p.tables e below (T53.setTop (mkF m 76 #[.val (.ref a1), .val (.ref a2), .val (.ref a3), .val (.int p4), .val (.int (f3 c3)), .val (.int (4 : Int32))] [])) _
                refine own_blk X53 hx bl1_76_2 (own_hb hby bd1_76_2) (pc' := 78) (Ls' := #[.val (.ref a1), .val (.ref a2), .val (.ref a3), .val (.int p4), .val (.int (f3 c3)), .val (.int (4 : Int32))]) (st' := [(.int (0 : Int32)), (.ref a3)]) rfl ?_
                refine X53.caload hx (j := (0 : Int32)) (v := (.int c0)) (by rw [e53]; exact Ar57.1) (State.isArrayOf_alike hZ.alike Ar57.2.1) Ar57.2.2 hin57 hat57 (g := (mkF m 78 #[.val (.ref a1), .val (.ref a2), .val (.ref a3), .val (.int p4), .val (.int (f3 c3)), .val (.int (4 : Int32))] [(.int (0 : Int32)), (.ref a3)])) rfl rfl (hb hby d1_78) _ ?_
                show Steps p.tables e below (T53.setTop (mkF m 79 #[.val (.ref a1), .val (.ref a2), .val (.ref a3), .val (.int p4), .val (.int (f3 c3)), .val (.int (4 : Int32))] [(.int c0)])) _
                refine X53.ldcInt hx hown (mvT hZ (hw _ (List.mem_of_getElem? (i := 37) rfl))) (g := (mkF m 79 #[.val (.ref a1), .val (.ref a2), .val (.ref a3), .val (.int p4), .val (.int (f3 c3)), .val (.int (4 : Int32))] [(.int c0)])) rfl (hb hby d1_79) _ ?_
                show Steps p.tables e below (T53.setTop (mkF m 81 #[.val (.ref a1), .val (.ref a2), .val (.ref a3), .val (.int p4), .val (.int (f3 c3)), .val (.int (4 : Int32))] [(.int (65279 : Int32)), (.int c0)])) _
                refine XS.icmpYes X53.here hx rfl (pc0 := 81) (pc' := 94) rfl (hb hby d1_81) rfl (feq hbm).2 (by decide) (by decide) ?_
                show Steps p.tables e below (T53.setTop (mkF m 94 #[.val (.ref a1), .val (.ref a2), .val (.ref a3), .val (.int p4), .val (.int (f3 c3)), .val (.int (4 : Int32))] [])) _
                exact X53.returnOut hx Bd.returns (hb hby d1_94) hr
              · show Q1x Z a1 a2 a3 p4 c0 c1 c2 c3 k_a3 h0 n0 _ T53.heap _
                rw [e53]
                have fa58 : Exa Z h53 a1 "com/example/endcon/endcon/yaml/Cursor" := (fa52.wr W53)
                have fa59 : Fld Z h53 a1 "com/example/endcon/endcon/yaml/Cursor" "line" "I" (.int (1 : Int32)) := ((((((Fw2.other W7 (Or.inr (slot_ne (Or.inl (hw _ (List.mem_of_getElem? (i := 19) rfl))) (Or.inl (hw _ (List.mem_of_getElem? (i := 21) rfl))) (by decide) (t := .int) (t' := .int) (by decide) (by decide)))).other W12 (Or.inr (slot_ne (Or.inl (hw _ (List.mem_of_getElem? (i := 19) rfl))) (Or.inl (hw _ (List.mem_of_getElem? (i := 23) rfl))) (by decide) (t := .int) (t' := .int) (by decide) (by decide)))).other W17 (Or.inr (slot_ne (Or.inl (hw _ (List.mem_of_getElem? (i := 19) rfl))) (Or.inr (hw _ (List.mem_of_getElem? (i := 25) rfl))) (by decide) (t := .int) (t' := (.object "java/lang/String")) (by decide) (by decide)))).other W22 (Or.inr (slot_ne (Or.inl (hw _ (List.mem_of_getElem? (i := 19) rfl))) (Or.inl (hw _ (List.mem_of_getElem? (i := 27) rfl))) (by decide) (t := .int) (t' := (.array .char)) (by decide) (by decide)))).other W27 (Or.inr (slot_ne (Or.inl (hw _ (List.mem_of_getElem? (i := 19) rfl))) (Or.inr (hw _ (List.mem_of_getElem? (i := 29) rfl))) (by decide) (t := .int) (t' := .int) (by decide) (by decide)))).other W53 (Or.inr (slot_ne (Or.inl (hw _ (List.mem_of_getElem? (i := 19) rfl))) (Or.inr (hw _ (List.mem_of_getElem? (i := 36) rfl))) (by decide) (t := .int) (t' := .boolean) (by decide) (by decide))))
                have lf60 := fa59
                have fa61 : Fld Z h53 a1 "com/example/endcon/endcon/yaml/Cursor" "blankLinesFrom" "I" (.int (-1 : Int32)) := (((((Fw7.other W12 (Or.inr (slot_ne (Or.inl (hw _ (List.mem_of_getElem? (i := 21) rfl))) (Or.inl (hw _ (List.mem_of_getElem? (i := 23) rfl))) (by decide) (t := .int) (t' := .int) (by decide) (by decide)))).other W17 (Or.inr (slot_ne (Or.inl (hw _ (List.mem_of_getElem? (i := 21) rfl))) (Or.inr (hw _ (List.mem_of_getElem? (i := 25) rfl))) (by decide) (t := .int) (t' := (.object "java/lang/String")) (by decide) (by decide)))).other W22 (Or.inr (slot_ne (Or.inl (hw _ (List.mem_of_getElem? (i := 21) rfl))) (Or.inl (hw _ (List.mem_of_getElem? (i := 27) rfl))) (by decide) (t := .int) (t' := (.array .char)) (by decide) (by decide)))).other W27 (Or.inr (slot_ne (Or.inl (hw _ (List.mem_of_getElem? (i := 21) rfl))) (Or.inr (hw _ (List.mem_of_getElem? (i := 29) rfl))) (by decide) (t := .int) (t' := .int) (by decide) (by decide)))).other W53 (Or.inr (slot_ne (Or.inl (hw _ (List.mem_of_getElem? (i := 21) rfl))) (Or.inr (hw _ (List.mem_of_getElem? (i := 36) rfl))) (by decide) (t := .int) (t' := .boolean) (by decide) (by decide))))
                have lf62 := fa61
                have fa63 : Fld Z h53 a1 "com/example/endcon/endcon/yaml/Cursor" "countedIndex" "I" (.int (-1 : Int32)) := ((((Fw12.other W17 (Or.inr (slot_ne (Or.inl (hw _ (List.mem_of_getElem? (i := 23) rfl))) (Or.inr (hw _ (List.mem_of_getElem? (i := 25) rfl))) (by decide) (t := .int) (t' := (.object "java/lang/String")) (by decide) (by decide)))).other W22 (Or.inr (slot_ne (Or.inl (hw _ (List.mem_of_getElem? (i := 23) rfl))) (Or.inl (hw _ (List.mem_of_getElem? (i := 27) rfl))) (by decide) (t := .int) (t' := (.array .char)) (by decide) (by decide)))).other W27 (Or.inr (slot_ne (Or.inl (hw _ (List.mem_of_getElem? (i := 23) rfl))) (Or.inr (hw _ (List.mem_of_getElem? (i := 29) rfl))) (by decide) (t := .int) (t' := .int) (by decide) (by decide)))).other W53 (Or.inr (slot_ne (Or.inl (hw _ (List.mem_of_getElem? (i := 23) rfl))) (Or.inr (hw _ (List.mem_of_getElem? (i := 36) rfl))) (by decide) (t := .int) (t' := .boolean) (by decide) (by decide))))
                have lf64 := fa63
                have fa65 : Fld Z h53 a1 "com/example/endcon/endcon/yaml/Cursor" "file" "Ljava/lang/String;" (.ref a2) := (((Fw17.other W22 (Or.inr (slot_ne (Or.inr (hw _ (List.mem_of_getElem? (i := 25) rfl))) (Or.inl (hw _ (List.mem_of_getElem? (i := 27) rfl))) (by decide) (t := (.object "java/lang/String")) (t' := (.array .char)) (by decide) (by decide)))).other W27 (Or.inr (slot_ne (Or.inr (hw _ (List.mem_of_getElem? (i := 25) rfl))) (Or.inr (hw _ (List.mem_of_getElem? (i := 29) rfl))) (by decide) (t := (.object "java/lang/String")) (t' := .int) (by decide) (by decide)))).other W53 (Or.inr (slot_ne (Or.inr (hw _ (List.mem_of_getElem? (i := 25) rfl))) (Or.inr (hw _ (List.mem_of_getElem? (i := 36) rfl))) (by decide) (t := (.object "java/lang/String")) (t' := .boolean) (by decide) (by decide))))
                have lf66 := fa65
                have fa67 : Fld Z h53 a1 "com/example/endcon/endcon/yaml/Cursor" "text" "[C" (.ref a3) := ((Fw22.other W27 (Or.inr (slot_ne (Or.inl (hw _ (List.mem_of_getElem? (i := 27) rfl))) (Or.inr (hw _ (List.mem_of_getElem? (i := 29) rfl))) (by decide) (t := (.array .char)) (t' := .int) (by decide) (by decide)))).other W53 (Or.inr (slot_ne (Or.inl (hw _ (List.mem_of_getElem? (i := 27) rfl))) (Or.inr (hw _ (List.mem_of_getElem? (i := 36) rfl))) (by decide) (t := (.array .char)) (t' := .boolean) (by decide) (by decide))))
                have lf68 := fa67
                have fa69 : Fld Z h53 a1 "com/example/endcon/endcon/yaml/Cursor" "end" "I" (.int p4) := (Fw27.other W53 (Or.inr (slot_ne (Or.inr (hw _ (List.mem_of_getElem? (i := 29) rfl))) (Or.inr (hw _ (List.mem_of_getElem? (i := 36) rfl))) (by decide) (t := .int) (t' := .boolean) (by decide) (by decide))))
                have lf70 := fa69
                have lf71 : Fld Z h53 a1 "com/example/endcon/endcon/yaml/Cursor" "hasSurrogates" "Z" (.int (f1x_a1_hasSurrogates p4 c0 c1 c2 c3)) := by rw [f1x_a1_hasSurrogates, if_pos hc34, if_pos hc36, if_pos hc40, if_pos hc42, if_pos hc46, if_pos hc48]; exact Fw53
                have fa72 : Fld Z h53 a1 "com/example/endcon/endcon/yaml/Cursor" "pos" "I" (.int (0 : Int32)) := (((((((F_a1_pos.other W2 (Or.inr (slot_ne (Or.inl (hw _ (List.mem_of_getElem? (i := 45) rfl))) (Or.inl (hw _ (List.mem_of_getElem? (i := 19) rfl))) (by decide) (t := .int) (t' := .int) (by decide) (by decide)))).other W7 (Or.inr (slot_ne (Or.inl (hw _ (List.mem_of_getElem? (i := 45) rfl))) (Or.inl (hw _ (List.mem_of_getElem? (i := 21) rfl))) (by decide) (t := .int) (t' := .int) (by decide) (by decide)))).other W12 (Or.inr (slot_ne (Or.inl (hw _ (List.mem_of_getElem? (i := 45) rfl))) (Or.inl (hw _ (List.mem_of_getElem? (i := 23) rfl))) (by decide) (t := .int) (t' := .int) (by decide) (by decide)))).other W17 (Or.inr (slot_ne (Or.inl (hw _ (List.mem_of_getElem? (i := 45) rfl))) (Or.inr (hw _ (List.mem_of_getElem? (i := 25) rfl))) (by decide) (t := .int) (t' := (.object "java/lang/String")) (by decide) (by decide)))).other W22 (Or.inr (slot_ne (Or.inl (hw _ (List.mem_of_getElem? (i := 45) rfl))) (Or.inl (hw _ (List.mem_of_getElem? (i := 27) rfl))) (by decide) (t := .int) (t' := (.array .char)) (by decide) (by decide)))).other W27 (Or.inr (slot_ne (Or.inl (hw _ (List.mem_of_getElem? (i := 45) rfl))) (Or.inr (hw _ (List.mem_of_getElem? (i := 29) rfl))) (by decide) (t := .int) (t' := .int) (by decide) (by decide)))).other W53 (Or.inr (slot_ne (Or.inl (hw _ (List.mem_of_getElem? (i := 45) rfl))) (Or.inr (hw _ (List.mem_of_getElem? (i := 36) rfl))) (by decide) (t := .int) (t' := .boolean) (by decide) (by decide))))
                have lf73 := fa72
                have fa74 : Fld Z h53 a1 "com/example/endcon/endcon/yaml/Cursor" "lineStart" "I" (.int (0 : Int32)) := (((((((F_a1_lineStart.other W2 (Or.inr (slot_ne (Or.inl (hw _ (List.mem_of_getElem? (i := 52) rfl))) (Or.inl (hw _ (List.mem_of_getElem? (i := 19) rfl))) (by decide) (t := .int) (t' := .int) (by decide) (by decide)))).other W7 (Or.inr (slot_ne (Or.inl (hw _ (List.mem_of_getElem? (i := 52) rfl))) (Or.inl (hw _ (List.mem_of_getElem? (i := 21) rfl))) (by decide) (t := .int) (t' := .int) (by decide) (by decide)))).other W12 (Or.inr (slot_ne (Or.inl (hw _ (List.mem_of_getElem? (i := 52) rfl))) (Or.inl (hw _ (List.mem_of_getElem? (i := 23) rfl))) (by decide) (t := .int) (t' := .int) (by decide) (by decide)))).other W17 (Or.inr (slot_ne (Or.inl (hw _ (List.mem_of_getElem? (i := 52) rfl))) (Or.inr (hw _ (List.mem_of_getElem? (i := 25) rfl))) (by decide) (t := .int) (t' := (.object "java/lang/String")) (by decide) (by decide)))).other W22 (Or.inr (slot_ne (Or.inl (hw _ (List.mem_of_getElem? (i := 52) rfl))) (Or.inl (hw _ (List.mem_of_getElem? (i := 27) rfl))) (by decide) (t := .int) (t' := (.array .char)) (by decide) (by decide)))).other W27 (Or.inr (slot_ne (Or.inl (hw _ (List.mem_of_getElem? (i := 52) rfl))) (Or.inr (hw _ (List.mem_of_getElem? (i := 29) rfl))) (by decide) (t := .int) (t' := .int) (by decide) (by decide)))).other W53 (Or.inr (slot_ne (Or.inl (hw _ (List.mem_of_getElem? (i := 52) rfl))) (Or.inr (hw _ (List.mem_of_getElem? (i := 36) rfl))) (by decide) (t := .int) (t' := .boolean) (by decide) (by decide))))
                have lf75 := fa74
                exact ⟨rfl, N53, kp55, fa58, lf60, lf62, lf64, lf66, lf68, lf70, lf71, lf73, lf75⟩
            · have fa76 : Fld Z h27 a1 "com/example/endcon/endcon/yaml/Cursor" "hasSurrogates" "Z" (.int (0 : Int32)) := ((((((F_a1_hasSurrogates.other W2 (Or.inr (slot_ne (Or.inr (hw _ (List.mem_of_getElem? (i := 36) rfl))) (Or.inl (hw _ (List.mem_of_getElem? (i := 19) rfl))) (by decide) (t := .boolean) (t' := .int) (by decide) (by decide)))).other W7 (Or.inr (slot_ne (Or.inr (hw _ (List.mem_of_getElem? (i := 36) rfl))) (Or.inl (hw _ (List.mem_of_getElem? (i := 21) rfl))) (by decide) (t := .boolean) (t' := .int) (by decide) (by decide)))).other W12 (Or.inr (slot_ne (Or.inr (hw _ (List.mem_of_getElem? (i := 36) rfl))) (Or.inl (hw _ (List.mem_of_getElem? (i := 23) rfl))) (by decide) (t := .boolean) (t' := .int) (by decide) (by decide)))).other W17 (Or.inr (slot_ne (Or.inr (hw _ (List.mem_of_getElem? (i := 36) rfl))) (Or.inr (hw _ (List.mem_of_getElem? (i := 25) rfl))) (by decide) (t := .boolean) (t' := (.object "java/lang/String")) (by decide) (by decide)))).other W22 (Or.inr (slot_ne (Or.inr (hw _ (List.mem_of_getElem? (i := 36) rfl))) (Or.inl (hw _ (List.mem_of_getElem? (i := 27) rfl))) (by decide) (t := .boolean) (t' := (.array .char)) (by decide) (by decide)))).other W27 (Or.inr (slot_ne (Or.inr (hw _ (List.mem_of_getElem? (i := 36) rfl))) (Or.inr (hw _ (List.mem_of_getElem? (i := 29) rfl))) (by decide) (t := .boolean) (t' := .int) (by decide) (by decide))))
              have fa77 : Exa Z h27 a1 "com/example/endcon/endcon/yaml/Cursor" := (fa26.wr W27)
              obtain ⟨T78, h78, X78, e78, W78, st78⟩ := putFN X44 hx hZ hown (hw _ (List.mem_of_getElem? (i := 35) rfl)) Via.refl e44 fa76 fa77 (Or.inr ⟨(hw _ (List.mem_of_getElem? (i := 36) rfl)), rfl, hnm⟩) (hw _ (List.mem_of_getElem? (i := 2) rfl)) (ty := .boolean) (v' := (.int (nar .boolean (f3 c2)))) (by decide) rfl (fits_nar_bool _) (g := (mkF m 69 #[.val (.ref a1), .val (.ref a2), .val (.ref a3), .val (.int p4), .val (.int (f3 c2)), .val (.int (3 : Int32))] [(.int (f3 c2)), (.ref a1)])) rfl rfl (hb hby d1_69)
              have Fw78 : Fld Z h78 a1 "com/example/endcon/endcon/yaml/Cursor" "hasSurrogates" "Z" (.int (nar .boolean (f3 c2))) := fa76.same W78
              have zs79 : n0 ≤ h78.size := Nat.le_trans zs28 (Keep.of_wr W78).1
              have kp80 : Keep h0 h78 [a1] := kp29.wr W78 (Or.inl (List.mem_of_getElem? (i := 0) rfl))
              have N78 := Fr.snoc X78 N44 g_a1
              have fa81 : Arv Z h78 a3 k_a3 .char (4 : Int32) [(.int c0), (.int c1), (.int c2), (.int c3)] (.int (0 : Int32)) := (fa30.other W78 (Ne.symm ne_a1_a3))
              obtain ⟨cx82, Ar82, qq82, S82, N82_, H82, G82⟩ := id fa81
              have hin82 : ¬ ((0 : Int32) < 0 ∨ cx82.slots.size ≤ ((0 : Int32)).toNatClampNeg) := inb_of S82 ⟨by decide, by decide⟩
              have hat82 : cx82.slots[((0 : Int32)).toNatClampNeg]? = some (.int c0) := (H82 ((0 : Int32)).toNatClampNeg (Nat.lt_of_not_le fun w => hin82 (Or.inr w))).trans (congrArg some (rfl))
              obtain ⟨fs, hr, hrun, hended, hW, hsame⟩ := X78.leave (v := none) (fun _ => rfl)
              refine ⟨_, _, pre47 _ ?_, hrun, hended, _, _, rfl, ?_, ⟨_, rfl⟩, hW, hsame.mono (by decide) (by decide)⟩
              · show Steps p.tables e below (T44.setTop (mkF m 48 #[.val (.ref a1), .val (.ref a2), .val (.ref a3), .val (.int p4), .val (.int (f3 c2)), .val (.int (3 : Int32))] [(.int (f3 c2))])) _
                refine XS.ifYes X44.here hx rfl (pc0 := 48) (pc' := 66) rfl (hb hby d1_48) rfl ((if0 _ _).trans (feq hc48).2) (by decide) (by decide) ?_
                show Steps p.tables e below (T44.setTop (mkF m 66 #[.val (.ref a1), .val (.ref a2), .val (.ref a3), .val (.int p4), .val (.int (f3 c2)), .val (.int (3 : Int32))] [])) _
                refine own_blk X44 hx bl1_66_2 (own_hb hby bd1_66_2) (pc' := 69) (Ls' := #[.val (.ref a1), .val (.ref a2), .val (.ref a3), .val (.int p4), .val (.int (f3 c2)), .val (.int (3 : Int32))]) (st' := [(.int (f3 c2)), (.ref a1)]) rfl ?_
                refine st78 _ ?_
                show Steps p.tables e below (T78.setTop (mkF m 72 #[.val (.ref a1), .val (.ref a2), .val (.ref a3), .val (.int p4), .val (.int (f3 c2)), .val (.int (3 : Int32))] [])) _
                refine own_blk X78 hx bl1_72_1 (own_hb hby bd1_72_1) (pc' := 73) (Ls' := #[.val (.ref a1), .val (.ref a2), .val (.ref a3), .val (.int p4), .val (.int (f3 c2)), .val (.int (3 : Int32))]) (st' := [(.int p4)]) rfl ?_
                refine XS.ifNo X78.here hx rfl (hb hby d1_73) rfl ((if0 _ _).trans (tlt hz).2.2.2) ?_
                show Steps p.tables e below (T78.setTop (mkF m 76 #[.val (.ref a1), .val (.ref a2), .val (.ref a3), .val (.int p4), .val (.int (f3 c2)), .val (.int (3 : Int32))] [])) _
                refine own_blk X78 hx bl1_76_2 (own_hb hby bd1_76_2) (pc' := 78) (Ls' := #[.val (.ref a1), .val (.ref a2), .val (.ref a3), .val (.int p4), .val (.int (f3 c2)), .val (.int (3 : Int32))]) (st' := [(.int (0 : Int32)), (.ref a3)]) rfl ?_
                refine X78.caload hx (j := (0 : Int32)) (v := (.int c0)) (by rw [e78]; exact Ar82.1) (State.isArrayOf_alike hZ.alike Ar82.2.1) Ar82.2.2 hin82 hat82 (g := (mkF m 78 #[.val (.ref a1), .val (.ref a2), .val (.ref a3), .val (.int p4), .val (.int (f3 c2)), .val (.int (3 : Int32))] [(.int (0 : Int32)), (.ref a3)])) rfl rfl (hb hby d1_78) _ ?_
                show Steps p.tables e below (T78.setTop (mkF m 79 #[.val (.ref a1), .val (.ref a2), .val (.ref a3), .val (.int p4), .val (.int (f3 c2)), .val (.int (3 : Int32))] [(.int c0)])) _
                refine X78.ldcInt hx hown (mvT hZ (hw _ (List.mem_of_getElem? (i := 37) rfl))) (g := (mkF m 79 #[.val (.ref a1), .val (.ref a2), .val (.ref a3), .val (.int p4), .val (.int (f3 c2)), .val (.int (3 : Int32))] [(.int c0)])) rfl (hb hby d1_79) _ ?_
                show Steps p.tables e below (T78.setTop (mkF m 81 #[.val (.ref a1), .val (.ref a2), .val (.ref a3), .val (.int p4), .val (.int (f3 c2)), .val (.int (3 : Int32))] [(.int (65279 : Int32)), (.int c0)])) _
                refine XS.icmpYes X78.here hx rfl (pc0 := 81) (pc' := 94) rfl (hb hby d1_81) rfl (feq hbm).2 (by decide) (by decide) ?_
                show Steps p.tables e below (T78.setTop (mkF m 94 #[.val (.ref a1), .val (.ref a2), .val (.ref a3), .val (.int p4), .val (.int (f3 c2)), .val (.int (3 : Int32))] [])) _
                exact X78.returnOut hx Bd.returns (hb hby d1_94) hr
              · show Q1x Z a1 a2 a3 p4 c0 c1 c2 c3 k_a3 h0 n0 _ T78.heap _
                rw [e78]
                have fa83 : Exa Z h78 a1 "com/example/endcon/endcon/yaml/Cursor" := (fa77.wr W78)
                have fa84 : Fld Z h78 a1 "com/example/endcon/endcon/yaml/Cursor" "line" "I" (.int (1 : Int32)) := ((((((Fw2.other W7 (Or.inr (slot_ne (Or.inl (hw _ (List.mem_of_getElem? (i := 19) rfl))) (Or.inl (hw _ (List.mem_of_getElem? (i := 21) rfl))) (by decide) (t := .int) (t' := .int) (by decide) (by decide)))).other W12 (Or.inr (slot_ne (Or.inl (hw _ (List.mem_of_getElem? (i := 19) rfl))) (Or.inl (hw _ (List.mem_of_getElem? (i := 23) rfl))) (by decide) (t := .int) (t' := .int) (by decide) (by decide)))).other W17 (Or.inr (slot_ne (Or.inl (hw _ (List.mem_of_getElem? (i := 19) rfl))) (Or.inr (hw _ (List.mem_of_getElem? (i := 25) rfl))) (by decide) (t := .int) (t' := (.object "java/lang/String")) (by decide) (by decide)))).other W22 (Or.inr (slot_ne (Or.inl (hw _ (List.mem_of_getElem? (i := 19) rfl))) (Or.inl (hw _ (List.mem_of_getElem? (i := 27) rfl))) (by decide) (t := .int) (t' := (.array .char)) (by decide) (by decide)))).other W27 (Or.inr (slot_ne (Or.inl (hw _ (List.mem_of_getElem? (i := 19) rfl))) (Or.inr (hw _ (List.mem_of_getElem? (i := 29) rfl))) (by decide) (t := .int) (t' := .int) (by decide) (by decide)))).other W78 (Or.inr (slot_ne (Or.inl (hw _ (List.mem_of_getElem? (i := 19) rfl))) (Or.inr (hw _ (List.mem_of_getElem? (i := 36) rfl))) (by decide) (t := .int) (t' := .boolean) (by decide) (by decide))))
                have lf85 := fa84
                have fa86 : Fld Z h78 a1 "com/example/endcon/endcon/yaml/Cursor" "blankLinesFrom" "I" (.int (-1 : Int32)) := (((((Fw7.other W12 (Or.inr (slot_ne (Or.inl (hw _ (List.mem_of_getElem? (i := 21) rfl))) (Or.inl (hw _ (List.mem_of_getElem? (i := 23) rfl))) (by decide) (t := .int) (t' := .int) (by decide) (by decide)))).other W17 (Or.inr (slot_ne (Or.inl (hw _ (List.mem_of_getElem? (i := 21) rfl))) (Or.inr (hw _ (List.mem_of_getElem? (i := 25) rfl))) (by decide) (t := .int) (t' := (.object "java/lang/String")) (by decide) (by decide)))).other W22 (Or.inr (slot_ne (Or.inl (hw _ (List.mem_of_getElem? (i := 21) rfl))) (Or.inl (hw _ (List.mem_of_getElem? (i := 27) rfl))) (by decide) (t := .int) (t' := (.array .char)) (by decide) (by decide)))).other W27 (Or.inr (slot_ne (Or.inl (hw _ (List.mem_of_getElem? (i := 21) rfl))) (Or.inr (hw _ (List.mem_of_getElem? (i := 29) rfl))) (by decide) (t := .int) (t' := .int) (by decide) (by decide)))).other W78 (Or.inr (slot_ne (Or.inl (hw _ (List.mem_of_getElem? (i := 21) rfl))) (Or.inr (hw _ (List.mem_of_getElem? (i := 36) rfl))) (by decide) (t := .int) (t' := .boolean) (by decide) (by decide))))
                have lf87 := fa86
                have fa88 : Fld Z h78 a1 "com/example/endcon/endcon/yaml/Cursor" "countedIndex" "I" (.int (-1 : Int32)) := ((((Fw12.other W17 (Or.inr (slot_ne (Or.inl (hw _ (List.mem_of_getElem? (i := 23) rfl))) (Or.inr (hw _ (List.mem_of_getElem? (i := 25) rfl))) (by decide) (t := .int) (t' := (.object "java/lang/String")) (by decide) (by decide)))).other W22 (Or.inr (slot_ne (Or.inl (hw _ (List.mem_of_getElem? (i := 23) rfl))) (Or.inl (hw _ (List.mem_of_getElem? (i := 27) rfl))) (by decide) (t := .int) (t' := (.array .char)) (by decide) (by decide)))).other W27 (Or.inr (slot_ne (Or.inl (hw _ (List.mem_of_getElem? (i := 23) rfl))) (Or.inr (hw _ (List.mem_of_getElem? (i := 29) rfl))) (by decide) (t := .int) (t' := .int) (by decide) (by decide)))).other W78 (Or.inr (slot_ne (Or.inl (hw _ (List.mem_of_getElem? (i := 23) rfl))) (Or.inr (hw _ (List.mem_of_getElem? (i := 36) rfl))) (by decide) (t := .int) (t' := .boolean) (by decide) (by decide))))
                have lf89 := fa88
                have fa90 : Fld Z h78 a1 "com/example/endcon/endcon/yaml/Cursor" "file" "Ljava/lang/String;" (.ref a2) := (((Fw17.other W22 (Or.inr (slot_ne (Or.inr (hw _ (List.mem_of_getElem? (i := 25) rfl))) (Or.inl (hw _ (List.mem_of_getElem? (i := 27) rfl))) (by decide) (t := (.object "java/lang/String")) (t' := (.array .char)) (by decide) (by decide)))).other W27 (Or.inr (slot_ne (Or.inr (hw _ (List.mem_of_getElem? (i := 25) rfl))) (Or.inr (hw _ (List.mem_of_getElem? (i := 29) rfl))) (by decide) (t := (.object "java/lang/String")) (t' := .int) (by decide) (by decide)))).other W78 (Or.inr (slot_ne (Or.inr (hw _ (List.mem_of_getElem? (i := 25) rfl))) (Or.inr (hw _ (List.mem_of_getElem? (i := 36) rfl))) (by decide) (t := (.object "java/lang/String")) (t' := .boolean) (by decide) (by decide))))
                have lf91 := fa90
                have fa92 : Fld Z h78 a1 "com/example/endcon/endcon/yaml/Cursor" "text" "[C" (.ref a3) := ((Fw22.other W27 (Or.inr (slot_ne (Or.inl (hw _ (List.mem_of_getElem? (i := 27) rfl))) (Or.inr (hw _ (List.mem_of_getElem? (i := 29) rfl))) (by decide) (t := (.array .char)) (t' := .int) (by decide) (by decide)))).other W78 (Or.inr (slot_ne (Or.inl (hw _ (List.mem_of_getElem? (i := 27) rfl))) (Or.inr (hw _ (List.mem_of_getElem? (i := 36) rfl))) (by decide) (t := (.array .char)) (t' := .boolean) (by decide) (by decide))))
                have lf93 := fa92
                have fa94 : Fld Z h78 a1 "com/example/endcon/endcon/yaml/Cursor" "end" "I" (.int p4) := (Fw27.other W78 (Or.inr (slot_ne (Or.inr (hw _ (List.mem_of_getElem? (i := 29) rfl))) (Or.inr (hw _ (List.mem_of_getElem? (i := 36) rfl))) (by decide) (t := .int) (t' := .boolean) (by decide) (by decide))))
                have lf95 := fa94
                have lf96 : Fld Z h78 a1 "com/example/endcon/endcon/yaml/Cursor" "hasSurrogates" "Z" (.int (f1x_a1_hasSurrogates p4 c0 c1 c2 c3)) := by rw [f1x_a1_hasSurrogates, if_pos hc34, if_pos hc36, if_pos hc40, if_pos hc42, if_pos hc46, if_neg hc48]; exact Fw78
                have fa97 : Fld Z h78 a1 "com/example/endcon/endcon/yaml/Cursor" "pos" "I" (.int (0 : Int32)) := (((((((F_a1_pos.other W2 (Or.inr (slot_ne (Or.inl (hw _ (List.mem_of_getElem? (i := 45) rfl))) (Or.inl (hw _ (List.mem_of_getElem? (i := 19) rfl))) (by decide) (t := .int) (t' := .int) (by decide) (by decide)))).other W7 (Or.inr (slot_ne (Or.inl (hw _ (List.mem_of_getElem? (i := 45) rfl))) (Or.inl (hw _ (List.mem_of_getElem? (i := 21) rfl))) (by decide) (t := .int) (t' := .int) (by decide) (by decide)))).other W12 (Or.inr (slot_ne (Or.inl (hw _ (List.mem_of_getElem? (i := 45) rfl))) (Or.inl (hw _ (List.mem_of_getElem? (i := 23) rfl))) (by decide) (t := .int) (t' := .int) (by decide) (by decide)))).other W17 (Or.inr (slot_ne (Or.inl (hw _ (List.mem_of_getElem? (i := 45) rfl))) (Or.inr (hw _ (List.mem_of_getElem? (i := 25) rfl))) (by decide) (t := .int) (t' := (.object "java/lang/String")) (by decide) (by decide)))).other W22 (Or.inr (slot_ne (Or.inl (hw _ (List.mem_of_getElem? (i := 45) rfl))) (Or.inl (hw _ (List.mem_of_getElem? (i := 27) rfl))) (by decide) (t := .int) (t' := (.array .char)) (by decide) (by decide)))).other W27 (Or.inr (slot_ne (Or.inl (hw _ (List.mem_of_getElem? (i := 45) rfl))) (Or.inr (hw _ (List.mem_of_getElem? (i := 29) rfl))) (by decide) (t := .int) (t' := .int) (by decide) (by decide)))).other W78 (Or.inr (slot_ne (Or.inl (hw _ (List.mem_of_getElem? (i := 45) rfl))) (Or.inr (hw _ (List.mem_of_getElem? (i := 36) rfl))) (by decide) (t := .int) (t' := .boolean) (by decide) (by decide))))
                have lf98 := fa97
                have fa99 : Fld Z h78 a1 "com/example/endcon/endcon/yaml/Cursor" "lineStart" "I" (.int (0 : Int32)) := (((((((F_a1_lineStart.other W2 (Or.inr (slot_ne (Or.inl (hw _ (List.mem_of_getElem? (i := 52) rfl))) (Or.inl (hw _ (List.mem_of_getElem? (i := 19) rfl))) (by decide) (t := .int) (t' := .int) (by decide) (by decide)))).other W7 (Or.inr (slot_ne (Or.inl (hw _ (List.mem_of_getElem? (i := 52) rfl))) (Or.inl (hw _ (List.mem_of_getElem? (i := 21) rfl))) (by decide) (t := .int) (t' := .int) (by decide) (by decide)))).other W12 (Or.inr (slot_ne (Or.inl (hw _ (List.mem_of_getElem? (i := 52) rfl))) (Or.inl (hw _ (List.mem_of_getElem? (i := 23) rfl))) (by decide) (t := .int) (t' := .int) (by decide) (by decide)))).other W17 (Or.inr (slot_ne (Or.inl (hw _ (List.mem_of_getElem? (i := 52) rfl))) (Or.inr (hw _ (List.mem_of_getElem? (i := 25) rfl))) (by decide) (t := .int) (t' := (.object "java/lang/String")) (by decide) (by decide)))).other W22 (Or.inr (slot_ne (Or.inl (hw _ (List.mem_of_getElem? (i := 52) rfl))) (Or.inl (hw _ (List.mem_of_getElem? (i := 27) rfl))) (by decide) (t := .int) (t' := (.array .char)) (by decide) (by decide)))).other W27 (Or.inr (slot_ne (Or.inl (hw _ (List.mem_of_getElem? (i := 52) rfl))) (Or.inr (hw _ (List.mem_of_getElem? (i := 29) rfl))) (by decide) (t := .int) (t' := .int) (by decide) (by decide)))).other W78 (Or.inr (slot_ne (Or.inl (hw _ (List.mem_of_getElem? (i := 52) rfl))) (Or.inr (hw _ (List.mem_of_getElem? (i := 36) rfl))) (by decide) (t := .int) (t' := .boolean) (by decide) (by decide))))
                have lf100 := fa99
                exact ⟨rfl, N78, kp80, fa83, lf85, lf87, lf89, lf91, lf93, lf95, lf96, lf98, lf100⟩
          · have fa101 : Fld Z h27 a1 "com/example/endcon/endcon/yaml/Cursor" "hasSurrogates" "Z" (.int (0 : Int32)) := ((((((F_a1_hasSurrogates.other W2 (Or.inr (slot_ne (Or.inr (hw _ (List.mem_of_getElem? (i := 36) rfl))) (Or.inl (hw _ (List.mem_of_getElem? (i := 19) rfl))) (by decide) (t := .boolean) (t' := .int) (by decide) (by decide)))).other W7 (Or.inr (slot_ne (Or.inr (hw _ (List.mem_of_getElem? (i := 36) rfl))) (Or.inl (hw _ (List.mem_of_getElem? (i := 21) rfl))) (by decide) (t := .boolean) (t' := .int) (by decide) (by decide)))).other W12 (Or.inr (slot_ne (Or.inr (hw _ (List.mem_of_getElem? (i := 36) rfl))) (Or.inl (hw _ (List.mem_of_getElem? (i := 23) rfl))) (by decide) (t := .boolean) (t' := .int) (by decide) (by decide)))).other W17 (Or.inr (slot_ne (Or.inr (hw _ (List.mem_of_getElem? (i := 36) rfl))) (Or.inr (hw _ (List.mem_of_getElem? (i := 25) rfl))) (by decide) (t := .boolean) (t' := (.object "java/lang/String")) (by decide) (by decide)))).other W22 (Or.inr (slot_ne (Or.inr (hw _ (List.mem_of_getElem? (i := 36) rfl))) (Or.inl (hw _ (List.mem_of_getElem? (i := 27) rfl))) (by decide) (t := .boolean) (t' := (.array .char)) (by decide) (by decide)))).other W27 (Or.inr (slot_ne (Or.inr (hw _ (List.mem_of_getElem? (i := 36) rfl))) (Or.inr (hw _ (List.mem_of_getElem? (i := 29) rfl))) (by decide) (t := .boolean) (t' := .int) (by decide) (by decide))))
            have fa102 : Exa Z h27 a1 "com/example/endcon/endcon/yaml/Cursor" := (fa26.wr W27)
            obtain ⟨T103, h103, X103, e103, W103, st103⟩ := putFN X44 hx hZ hown (hw _ (List.mem_of_getElem? (i := 35) rfl)) Via.refl e44 fa101 fa102 (Or.inr ⟨(hw _ (List.mem_of_getElem? (i := 36) rfl)), rfl, hnm⟩) (hw _ (List.mem_of_getElem? (i := 2) rfl)) (ty := .boolean) (v' := (.int (nar .boolean (f3 c2)))) (by decide) rfl (fits_nar_bool _) (g := (mkF m 69 #[.val (.ref a1), .val (.ref a2), .val (.ref a3), .val (.int p4), .val (.int (f3 c2)), .val (.int (3 : Int32))] [(.int (f3 c2)), (.ref a1)])) rfl rfl (hb hby d1_69)
            have Fw103 : Fld Z h103 a1 "com/example/endcon/endcon/yaml/Cursor" "hasSurrogates" "Z" (.int (nar .boolean (f3 c2))) := fa101.same W103
            have zs104 : n0 ≤ h103.size := Nat.le_trans zs28 (Keep.of_wr W103).1
            have kp105 : Keep h0 h103 [a1] := kp29.wr W103 (Or.inl (List.mem_of_getElem? (i := 0) rfl))
            have N103 := Fr.snoc X103 N44 g_a1
            have fa106 : Arv Z h103 a3 k_a3 .char (4 : Int32) [(.int c0), (.int c1), (.int c2), (.int c3)] (.int (0 : Int32)) := (fa30.other W103 (Ne.symm ne_a1_a3))
            obtain ⟨cx107, Ar107, qq107, S107, N107_, H107, G107⟩ := id fa106
            have hin107 : ¬ ((0 : Int32) < 0 ∨ cx107.slots.size ≤ ((0 : Int32)).toNatClampNeg) := inb_of S107 ⟨by decide, by decide⟩
            have hat107 : cx107.slots[((0 : Int32)).toNatClampNeg]? = some (.int c0) := (H107 ((0 : Int32)).toNatClampNeg (Nat.lt_of_not_le fun w => hin107 (Or.inr w))).trans (congrArg some (rfl))
            obtain ⟨fs, hr, hrun, hended, hW, hsame⟩ := X103.leave (v := none) (fun _ => rfl)
            refine ⟨_, _, pre45 _ ?_, hrun, hended, _, _, rfl, ?_, ⟨_, rfl⟩, hW, hsame.mono (by decide) (by decide)⟩
            · show Steps p.tables e below (T44.setTop (mkF m 43 #[.val (.ref a1), .val (.ref a2), .val (.ref a3), .val (.int p4), .val (.int (f3 c2)), .val (.int (3 : Int32))] [(.int p4), (.int (3 : Int32))])) _
              refine XS.icmpYes X44.here hx rfl (pc0 := 43) (pc' := 66) rfl (hb hby d1_43) rfl (flt hc46).2.1 (by decide) (by decide) ?_
              show Steps p.tables e below (T44.setTop (mkF m 66 #[.val (.ref a1), .val (.ref a2), .val (.ref a3), .val (.int p4), .val (.int (f3 c2)), .val (.int (3 : Int32))] [])) _
              refine own_blk X44 hx bl1_66_2 (own_hb hby bd1_66_2) (pc' := 69) (Ls' := #[.val (.ref a1), .val (.ref a2), .val (.ref a3), .val (.int p4), .val (.int (f3 c2)), .val (.int (3 : Int32))]) (st' := [(.int (f3 c2)), (.ref a1)]) rfl ?_
              refine st103 _ ?_
              show Steps p.tables e below (T103.setTop (mkF m 72 #[.val (.ref a1), .val (.ref a2), .val (.ref a3), .val (.int p4), .val (.int (f3 c2)), .val (.int (3 : Int32))] [])) _
              refine own_blk X103 hx bl1_72_1 (own_hb hby bd1_72_1) (pc' := 73) (Ls' := #[.val (.ref a1), .val (.ref a2), .val (.ref a3), .val (.int p4), .val (.int (f3 c2)), .val (.int (3 : Int32))]) (st' := [(.int p4)]) rfl ?_
              refine XS.ifNo X103.here hx rfl (hb hby d1_73) rfl ((if0 _ _).trans (tlt hz).2.2.2) ?_
              show Steps p.tables e below (T103.setTop (mkF m 76 #[.val (.ref a1), .val (.ref a2), .val (.ref a3), .val (.int p4), .val (.int (f3 c2)), .val (.int (3 : Int32))] [])) _
              refine own_blk X103 hx bl1_76_2 (own_hb hby bd1_76_2) (pc' := 78) (Ls' := #[.val (.ref a1), .val (.ref a2), .val (.ref a3), .val (.int p4), .val (.int (f3 c2)), .val (.int (3 : Int32))]) (st' := [(.int (0 : Int32)), (.ref a3)]) rfl ?_
              refine X103.caload hx (j := (0 : Int32)) (v := (.int c0)) (by rw [e103]; exact Ar107.1) (State.isArrayOf_alike hZ.alike Ar107.2.1) Ar107.2.2 hin107 hat107 (g := (mkF m 78 #[.val (.ref a1), .val (.ref a2), .val (.ref a3), .val (.int p4), .val (.int (f3 c2)), .val (.int (3 : Int32))] [(.int (0 : Int32)), (.ref a3)])) rfl rfl (hb hby d1_78) _ ?_
              show Steps p.tables e below (T103.setTop (mkF m 79 #[.val (.ref a1), .val (.ref a2), .val (.ref a3), .val (.int p4), .val (.int (f3 c2)), .val (.int (3 : Int32))] [(.int c0)])) _
              refine X103.ldcInt hx hown (mvT hZ (hw _ (List.mem_of_getElem? (i := 37) rfl))) (g := (mkF m 79 #[.val (.ref a1), .val (.ref a2), .val (.ref a3), .val (.int p4), .val (.int (f3 c2)), .val (.int (3 : Int32))] [(.int c0)])) rfl (hb hby d1_79) _ ?_
              show Steps p.tables e below (T103.setTop (mkF m 81 #[.val (.ref a1), .val (.ref a2), .val (.ref a3), .val (.int p4), .val (.int (f3 c2)), .val (.int (3 : Int32))] [(.int (65279 : Int32)), (.int c0)])) _
              refine XS.icmpYes X103.here hx rfl (pc0 := 81) (pc' := 94) rfl (hb hby d1_81) rfl (feq hbm).2 (by decide) (by decide) ?_
              show Steps p.tables e below (T103.setTop (mkF m 94 #[.val (.ref a1), .val (.ref a2), .val (.ref a3), .val (.int p4), .val (.int (f3 c2)), .val (.int (3 : Int32))] [])) _
              exact X103.returnOut hx Bd.returns (hb hby d1_94) hr
            · show Q1x Z a1 a2 a3 p4 c0 c1 c2 c3 k_a3 h0 n0 _ T103.heap _
              rw [e103]
              have fa108 : Exa Z h103 a1 "com/example/endcon/endcon/yaml/Cursor" := (fa102.wr W103)
              have fa109 : Fld Z h103 a1 "com/example/endcon/endcon/yaml/Cursor" "line" "I" (.int (1 : Int32)) := ((((((Fw2.other W7 (Or.inr (slot_ne (Or.inl (hw _ (List.mem_of_getElem? (i := 19) rfl))) (Or.inl (hw _ (List.mem_of_getElem? (i := 21) rfl))) (by decide) (t := .int) (t' := .int) (by decide) (by decide)))).other W12 (Or.inr (slot_ne (Or.inl (hw _ (List.mem_of_getElem? (i := 19) rfl))) (Or.inl (hw _ (List.mem_of_getElem? (i := 23) rfl))) (by decide) (t := .int) (t' := .int) (by decide) (by decide)))).other W17 (Or.inr (slot_ne (Or.inl (hw _ (List.mem_of_getElem? (i := 19) rfl))) (Or.inr (hw _ (List.mem_of_getElem? (i := 25) rfl))) (by decide) (t := .int) (t' := (.object "java/lang/String")) (by decide) (by decide)))).other W22 (Or.inr (slot_ne (Or.inl (hw _ (List.mem_of_getElem? (i := 19) rfl))) (Or.inl (hw _ (List.mem_of_getElem? (i := 27) rfl))) (by decide) (t := .int) (t' := (.array .char)) (by decide) (by decide)))).other W27 (Or.inr (slot_ne (Or.inl (hw _ (List.mem_of_getElem? (i := 19) rfl))) (Or.inr (hw _ (List.mem_of_getElem? (i := 29) rfl))) (by decide) (t := .int) (t' := .int) (by decide) (by decide)))).other W103 (Or.inr (slot_ne (Or.inl (hw _ (List.mem_of_getElem? (i := 19) rfl))) (Or.inr (hw _ (List.mem_of_getElem? (i := 36) rfl))) (by decide) (t := .int) (t' := .boolean) (by decide) (by decide))))
              have lf110 := fa109
              have fa111 : Fld Z h103 a1 "com/example/endcon/endcon/yaml/Cursor" "blankLinesFrom" "I" (.int (-1 : Int32)) := (((((Fw7.other W12 (Or.inr (slot_ne (Or.inl (hw _ (List.mem_of_getElem? (i := 21) rfl))) (Or.inl (hw _ (List.mem_of_getElem? (i := 23) rfl))) (by decide) (t := .int) (t' := .int) (by decide) (by decide)))).other W17 (Or.inr (slot_ne (Or.inl (hw _ (List.mem_of_getElem? (i := 21) rfl))) (Or.inr (hw _ (List.mem_of_getElem? (i := 25) rfl))) (by decide) (t := .int) (t' := (.object "java/lang/String")) (by decide) (by decide)))).other W22 (Or.inr (slot_ne (Or.inl (hw _ (List.mem_of_getElem? (i := 21) rfl))) (Or.inl (hw _ (List.mem_of_getElem? (i := 27) rfl))) (by decide) (t := .int) (t' := (.array .char)) (by decide) (by decide)))).other W27 (Or.inr (slot_ne (Or.inl (hw _ (List.mem_of_getElem? (i := 21) rfl))) (Or.inr (hw _ (List.mem_of_getElem? (i := 29) rfl))) (by decide) (t := .int) (t' := .int) (by decide) (by decide)))).other W103 (Or.inr (slot_ne (Or.inl (hw _ (List.mem_of_getElem? (i := 21) rfl))) (Or.inr (hw _ (List.mem_of_getElem? (i := 36) rfl))) (by decide) (t := .int) (t' := .boolean) (by decide) (by decide))))
              have lf112 := fa111
              have fa113 : Fld Z h103 a1 "com/example/endcon/endcon/yaml/Cursor" "countedIndex" "I" (.int (-1 : Int32)) := ((((Fw12.other W17 (Or.inr (slot_ne (Or.inl (hw _ (List.mem_of_getElem? (i := 23) rfl))) (Or.inr (hw _ (List.mem_of_getElem? (i := 25) rfl))) (by decide) (t := .int) (t' := (.object "java/lang/String")) (by decide) (by decide)))).other W22 (Or.inr (slot_ne (Or.inl (hw _ (List.mem_of_getElem? (i := 23) rfl))) (Or.inl (hw _ (List.mem_of_getElem? (i := 27) rfl))) (by decide) (t := .int) (t' := (.array .char)) (by decide) (by decide)))).other W27 (Or.inr (slot_ne (Or.inl (hw _ (List.mem_of_getElem? (i := 23) rfl))) (Or.inr (hw _ (List.mem_of_getElem? (i := 29) rfl))) (by decide) (t := .int) (t' := .int) (by decide) (by decide)))).other W103 (Or.inr (slot_ne (Or.inl (hw _ (List.mem_of_getElem? (i := 23) rfl))) (Or.inr (hw _ (List.mem_of_getElem? (i := 36) rfl))) (by decide) (t := .int) (t' := .boolean) (by decide) (by decide))))
              have lf114 := fa113
              have fa115 : Fld Z h103 a1 "com/example/endcon/endcon/yaml/Cursor" "file" "Ljava/lang/String;" (.ref a2) := (((Fw17.other W22 (Or.inr (slot_ne (Or.inr (hw _ (List.mem_of_getElem? (i := 25) rfl))) (Or.inl (hw _ (List.mem_of_getElem? (i := 27) rfl))) (by decide) (t := (.object "java/lang/String")) (t' := (.array .char)) (by decide) (by decide)))).other W27 (Or.inr (slot_ne (Or.inr (hw _ (List.mem_of_getElem? (i := 25) rfl))) (Or.inr (hw _ (List.mem_of_getElem? (i := 29) rfl))) (by decide) (t := (.object "java/lang/String")) (t' := .int) (by decide) (by decide)))).other W103 (Or.inr (slot_ne (Or.inr (hw _ (List.mem_of_getElem? (i := 25) rfl))) (Or.inr (hw _ (List.mem_of_getElem? (i := 36) rfl))) (by decide) (t := (.object "java/lang/String")) (t' := .boolean) (by decide) (by decide))))
              have lf116 := fa115
              have fa117 : Fld Z h103 a1 "com/example/endcon/endcon/yaml/Cursor" "text" "[C" (.ref a3) := ((Fw22.other W27 (Or.inr (slot_ne (Or.inl (hw _ (List.mem_of_getElem? (i := 27) rfl))) (Or.inr (hw _ (List.mem_of_getElem? (i := 29) rfl))) (by decide) (t := (.array .char)) (t' := .int) (by decide) (by decide)))).other W103 (Or.inr (slot_ne (Or.inl (hw _ (List.mem_of_getElem? (i := 27) rfl))) (Or.inr (hw _ (List.mem_of_getElem? (i := 36) rfl))) (by decide) (t := (.array .char)) (t' := .boolean) (by decide) (by decide))))
              have lf118 := fa117
              have fa119 : Fld Z h103 a1 "com/example/endcon/endcon/yaml/Cursor" "end" "I" (.int p4) := (Fw27.other W103 (Or.inr (slot_ne (Or.inr (hw _ (List.mem_of_getElem? (i := 29) rfl))) (Or.inr (hw _ (List.mem_of_getElem? (i := 36) rfl))) (by decide) (t := .int) (t' := .boolean) (by decide) (by decide))))
              have lf120 := fa119
              have lf121 : Fld Z h103 a1 "com/example/endcon/endcon/yaml/Cursor" "hasSurrogates" "Z" (.int (f1x_a1_hasSurrogates p4 c0 c1 c2 c3)) := by rw [f1x_a1_hasSurrogates, if_pos hc34, if_pos hc36, if_pos hc40, if_pos hc42, if_neg hc46]; exact Fw103
              have fa122 : Fld Z h103 a1 "com/example/endcon/endcon/yaml/Cursor" "pos" "I" (.int (0 : Int32)) := (((((((F_a1_pos.other W2 (Or.inr (slot_ne (Or.inl (hw _ (List.mem_of_getElem? (i := 45) rfl))) (Or.inl (hw _ (List.mem_of_getElem? (i := 19) rfl))) (by decide) (t := .int) (t' := .int) (by decide) (by decide)))).other W7 (Or.inr (slot_ne (Or.inl (hw _ (List.mem_of_getElem? (i := 45) rfl))) (Or.inl (hw _ (List.mem_of_getElem? (i := 21) rfl))) (by decide) (t := .int) (t' := .int) (by decide) (by decide)))).other W12 (Or.inr (slot_ne (Or.inl (hw _ (List.mem_of_getElem? (i := 45) rfl))) (Or.inl (hw _ (List.mem_of_getElem? (i := 23) rfl))) (by decide) (t := .int) (t' := .int) (by decide) (by decide)))).other W17 (Or.inr (slot_ne (Or.inl (hw _ (List.mem_of_getElem? (i := 45) rfl))) (Or.inr (hw _ (List.mem_of_getElem? (i := 25) rfl))) (by decide) (t := .int) (t' := (.object "java/lang/String")) (by decide) (by decide)))).other W22 (Or.inr (slot_ne (Or.inl (hw _ (List.mem_of_getElem? (i := 45) rfl))) (Or.inl (hw _ (List.mem_of_getElem? (i := 27) rfl))) (by decide) (t := .int) (t' := (.array .char)) (by decide) (by decide)))).other W27 (Or.inr (slot_ne (Or.inl (hw _ (List.mem_of_getElem? (i := 45) rfl))) (Or.inr (hw _ (List.mem_of_getElem? (i := 29) rfl))) (by decide) (t := .int) (t' := .int) (by decide) (by decide)))).other W103 (Or.inr (slot_ne (Or.inl (hw _ (List.mem_of_getElem? (i := 45) rfl))) (Or.inr (hw _ (List.mem_of_getElem? (i := 36) rfl))) (by decide) (t := .int) (t' := .boolean) (by decide) (by decide))))
              have lf123 := fa122
              have fa124 : Fld Z h103 a1 "com/example/endcon/endcon/yaml/Cursor" "lineStart" "I" (.int (0 : Int32)) := (((((((F_a1_lineStart.other W2 (Or.inr (slot_ne (Or.inl (hw _ (List.mem_of_getElem? (i := 52) rfl))) (Or.inl (hw _ (List.mem_of_getElem? (i := 19) rfl))) (by decide) (t := .int) (t' := .int) (by decide) (by decide)))).other W7 (Or.inr (slot_ne (Or.inl (hw _ (List.mem_of_getElem? (i := 52) rfl))) (Or.inl (hw _ (List.mem_of_getElem? (i := 21) rfl))) (by decide) (t := .int) (t' := .int) (by decide) (by decide)))).other W12 (Or.inr (slot_ne (Or.inl (hw _ (List.mem_of_getElem? (i := 52) rfl))) (Or.inl (hw _ (List.mem_of_getElem? (i := 23) rfl))) (by decide) (t := .int) (t' := .int) (by decide) (by decide)))).other W17 (Or.inr (slot_ne (Or.inl (hw _ (List.mem_of_getElem? (i := 52) rfl))) (Or.inr (hw _ (List.mem_of_getElem? (i := 25) rfl))) (by decide) (t := .int) (t' := (.object "java/lang/String")) (by decide) (by decide)))).other W22 (Or.inr (slot_ne (Or.inl (hw _ (List.mem_of_getElem? (i := 52) rfl))) (Or.inl (hw _ (List.mem_of_getElem? (i := 27) rfl))) (by decide) (t := .int) (t' := (.array .char)) (by decide) (by decide)))).other W27 (Or.inr (slot_ne (Or.inl (hw _ (List.mem_of_getElem? (i := 52) rfl))) (Or.inr (hw _ (List.mem_of_getElem? (i := 29) rfl))) (by decide) (t := .int) (t' := .int) (by decide) (by decide)))).other W103 (Or.inr (slot_ne (Or.inl (hw _ (List.mem_of_getElem? (i := 52) rfl))) (Or.inr (hw _ (List.mem_of_getElem? (i := 36) rfl))) (by decide) (t := .int) (t' := .boolean) (by decide) (by decide))))
              have lf125 := fa124
              exact ⟨rfl, N103, kp105, fa108, lf110, lf112, lf114, lf116, lf118, lf120, lf121, lf123, lf125⟩
        · have fa126 : Fld Z h27 a1 "com/example/endcon/endcon/yaml/Cursor" "hasSurrogates" "Z" (.int (0 : Int32)) := ((((((F_a1_hasSurrogates.other W2 (Or.inr (slot_ne (Or.inr (hw _ (List.mem_of_getElem? (i := 36) rfl))) (Or.inl (hw _ (List.mem_of_getElem? (i := 19) rfl))) (by decide) (t := .boolean) (t' := .int) (by decide) (by decide)))).other W7 (Or.inr (slot_ne (Or.inr (hw _ (List.mem_of_getElem? (i := 36) rfl))) (Or.inl (hw _ (List.mem_of_getElem? (i := 21) rfl))) (by decide) (t := .boolean) (t' := .int) (by decide) (by decide)))).other W12 (Or.inr (slot_ne (Or.inr (hw _ (List.mem_of_getElem? (i := 36) rfl))) (Or.inl (hw _ (List.mem_of_getElem? (i := 23) rfl))) (by decide) (t := .boolean) (t' := .int) (by decide) (by decide)))).other W17 (Or.inr (slot_ne (Or.inr (hw _ (List.mem_of_getElem? (i := 36) rfl))) (Or.inr (hw _ (List.mem_of_getElem? (i := 25) rfl))) (by decide) (t := .boolean) (t' := (.object "java/lang/String")) (by decide) (by decide)))).other W22 (Or.inr (slot_ne (Or.inr (hw _ (List.mem_of_getElem? (i := 36) rfl))) (Or.inl (hw _ (List.mem_of_getElem? (i := 27) rfl))) (by decide) (t := .boolean) (t' := (.array .char)) (by decide) (by decide)))).other W27 (Or.inr (slot_ne (Or.inr (hw _ (List.mem_of_getElem? (i := 36) rfl))) (Or.inr (hw _ (List.mem_of_getElem? (i := 29) rfl))) (by decide) (t := .boolean) (t' := .int) (by decide) (by decide))))
          have fa127 : Exa Z h27 a1 "com/example/endcon/endcon/yaml/Cursor" := (fa26.wr W27)
          obtain ⟨T128, h128, X128, e128, W128, st128⟩ := putFN X38 hx hZ hown (hw _ (List.mem_of_getElem? (i := 35) rfl)) Via.refl e38 fa126 fa127 (Or.inr ⟨(hw _ (List.mem_of_getElem? (i := 36) rfl)), rfl, hnm⟩) (hw _ (List.mem_of_getElem? (i := 2) rfl)) (ty := .boolean) (v' := (.int (nar .boolean (f3 c1)))) (by decide) rfl (fits_nar_bool _) (g := (mkF m 69 #[.val (.ref a1), .val (.ref a2), .val (.ref a3), .val (.int p4), .val (.int (f3 c1)), .val (.int (2 : Int32))] [(.int (f3 c1)), (.ref a1)])) rfl rfl (hb hby d1_69)
          have Fw128 : Fld Z h128 a1 "com/example/endcon/endcon/yaml/Cursor" "hasSurrogates" "Z" (.int (nar .boolean (f3 c1))) := fa126.same W128
          have zs129 : n0 ≤ h128.size := Nat.le_trans zs28 (Keep.of_wr W128).1
          have kp130 : Keep h0 h128 [a1] := kp29.wr W128 (Or.inl (List.mem_of_getElem? (i := 0) rfl))
          have N128 := Fr.snoc X128 N38 g_a1
          have fa131 : Arv Z h128 a3 k_a3 .char (4 : Int32) [(.int c0), (.int c1), (.int c2), (.int c3)] (.int (0 : Int32)) := (fa30.other W128 (Ne.symm ne_a1_a3))
          obtain ⟨cx132, Ar132, qq132, S132, N132_, H132, G132⟩ := id fa131
          have hin132 : ¬ ((0 : Int32) < 0 ∨ cx132.slots.size ≤ ((0 : Int32)).toNatClampNeg) := inb_of S132 ⟨by decide, by decide⟩
          have hat132 : cx132.slots[((0 : Int32)).toNatClampNeg]? = some (.int c0) := (H132 ((0 : Int32)).toNatClampNeg (Nat.lt_of_not_le fun w => hin132 (Or.inr w))).trans (congrArg some (rfl))
          obtain ⟨fs, hr, hrun, hended, hW, hsame⟩ := X128.leave (v := none) (fun _ => rfl)
          refine ⟨_, _, pre41 _ ?_, hrun, hended, _, _, rfl, ?_, ⟨_, rfl⟩, hW, hsame.mono (by decide) (by decide)⟩
          · show Steps p.tables e below (T38.setTop (mkF m 48 #[.val (.ref a1), .val (.ref a2), .val (.ref a3), .val (.int p4), .val (.int (f3 c1)), .val (.int (2 : Int32))] [(.int (f3 c1))])) _
            refine XS.ifYes X38.here hx rfl (pc0 := 48) (pc' := 66) rfl (hb hby d1_48) rfl ((if0 _ _).trans (feq hc42).2) (by decide) (by decide) ?_
            show Steps p.tables e below (T38.setTop (mkF m 66 #[.val (.ref a1), .val (.ref a2), .val (.ref a3), .val (.int p4), .val (.int (f3 c1)), .val (.int (2 : Int32))] [])) _
            refine own_blk X38 hx bl1_66_2 (own_hb hby bd1_66_2) (pc' := 69) (Ls' := #[.val (.ref a1), .val (.ref a2), .val (.ref a3), .val (.int p4), .val (.int (f3 c1)), .val (.int (2 : Int32))]) (st' := [(.int (f3 c1)), (.ref a1)]) rfl ?_
            refine st128 _ ?_
            show Steps p.tables e below (T128.setTop (mkF m 72 #[.val (.ref a1), .val (.ref a2), .val (.ref a3), .val (.int p4), .val (.int (f3 c1)), .val (.int (2 : Int32))] [])) _
            refine own_blk X128 hx bl1_72_1 (own_hb hby bd1_72_1) (pc' := 73) (Ls' := #[.val (.ref a1), .val (.ref a2), .val (.ref a3), .val (.int p4), .val (.int (f3 c1)), .val (.int (2 : Int32))]) (st' := [(.int p4)]) rfl ?_
            refine XS.ifNo X128.here hx rfl (hb hby d1_73) rfl ((if0 _ _).trans (tlt hz).2.2.2) ?_
            show Steps p.tables e below (T128.setTop (mkF m 76 #[.val (.ref a1), .val (.ref a2), .val (.ref a3), .val (.int p4), .val (.int (f3 c1)), .val (.int (2 : Int32))] [])) _
            refine own_blk X128 hx bl1_76_2 (own_hb hby bd1_76_2) (pc' := 78) (Ls' := #[.val (.ref a1), .val (.ref a2), .val (.ref a3), .val (.int p4), .val (.int (f3 c1)), .val (.int (2 : Int32))]) (st' := [(.int (0 : Int32)), (.ref a3)]) rfl ?_
            refine X128.caload hx (j := (0 : Int32)) (v := (.int c0)) (by rw [e128]; exact Ar132.1) (State.isArrayOf_alike hZ.alike Ar132.2.1) Ar132.2.2 hin132 hat132 (g := (mkF m 78 #[.val (.ref a1), .val (.ref a2), .val (.ref a3), .val (.int p4), .val (.int (f3 c1)), .val (.int (2 : Int32))] [(.int (0 : Int32)), (.ref a3)])) rfl rfl (hb hby d1_78) _ ?_
            show Steps p.tables e below (T128.setTop (mkF m 79 #[.val (.ref a1), .val (.ref a2), .val (.ref a3), .val (.int p4), .val (.int (f3 c1)), .val (.int (2 : Int32))] [(.int c0)])) _
            refine X128.ldcInt hx hown (mvT hZ (hw _ (List.mem_of_getElem? (i := 37) rfl))) (g := (mkF m 79 #[.val (.ref a1), .val (.ref a2), .val (.ref a3), .val (.int p4), .val (.int (f3 c1)), .val (.int (2 : Int32))] [(.int c0)])) rfl (hb hby d1_79) _ ?_
            show Steps p.tables e below (T128.setTop (mkF m 81 #[.val (.ref a1), .val (.ref a2), .val (.ref a3), .val (.int p4), .val (.int (f3 c1)), .val (.int (2 : Int32))] [(.int (65279 : Int32)), (.int c0)])) _
            refine XS.icmpYes X128.here hx rfl (pc0 := 81) (pc' := 94) rfl (hb hby d1_81) rfl (feq hbm).2 (by decide) (by decide) ?_
            show Steps p.tables e below (T128.setTop (mkF m 94 #[.val (.ref a1), .val (.ref a2), .val (.ref a3), .val (.int p4), .val (.int (f3 c1)), .val (.int (2 : Int32))] [])) _
            exact X128.returnOut hx Bd.returns (hb hby d1_94) hr
          · show Q1x Z a1 a2 a3 p4 c0 c1 c2 c3 k_a3 h0 n0 _ T128.heap _
            rw [e128]
            have fa133 : Exa Z h128 a1 "com/example/endcon/endcon/yaml/Cursor" := (fa127.wr W128)
            have fa134 : Fld Z h128 a1 "com/example/endcon/endcon/yaml/Cursor" "line" "I" (.int (1 : Int32)) := ((((((Fw2.other W7 (Or.inr (slot_ne (Or.inl (hw _ (List.mem_of_getElem? (i := 19) rfl))) (Or.inl (hw _ (List.mem_of_getElem? (i := 21) rfl))) (by decide) (t := .int) (t' := .int) (by decide) (by decide)))).other W12 (Or.inr (slot_ne (Or.inl (hw _ (List.mem_of_getElem? (i := 19) rfl))) (Or.inl (hw _ (List.mem_of_getElem? (i := 23) rfl))) (by decide) (t := .int) (t' := .int) (by decide) (by decide)))).other W17 (Or.inr (slot_ne (Or.inl (hw _ (List.mem_of_getElem? (i := 19) rfl))) (Or.inr (hw _ (List.mem_of_getElem? (i := 25) rfl))) (by decide) (t := .int) (t' := (.object "java/lang/String")) (by decide) (by decide)))).other W22 (Or.inr (slot_ne (Or.inl (hw _ (List.mem_of_getElem? (i := 19) rfl))) (Or.inl (hw _ (List.mem_of_getElem? (i := 27) rfl))) (by decide) (t := .int) (t' := (.array .char)) (by decide) (by decide)))).other W27 (Or.inr (slot_ne (Or.inl (hw _ (List.mem_of_getElem? (i := 19) rfl))) (Or.inr (hw _ (List.mem_of_getElem? (i := 29) rfl))) (by decide) (t := .int) (t' := .int) (by decide) (by decide)))).other W128 (Or.inr (slot_ne (Or.inl (hw _ (List.mem_of_getElem? (i := 19) rfl))) (Or.inr (hw _ (List.mem_of_getElem? (i := 36) rfl))) (by decide) (t := .int) (t' := .boolean) (by decide) (by decide))))
            have lf135 := fa134
            have fa136 : Fld Z h128 a1 "com/example/endcon/endcon/yaml/Cursor" "blankLinesFrom" "I" (.int (-1 : Int32)) := (((((Fw7.other W12 (Or.inr (slot_ne (Or.inl (hw _ (List.mem_of_getElem? (i := 21) rfl))) (Or.inl (hw _ (List.mem_of_getElem? (i := 23) rfl))) (by decide) (t := .int) (t' := .int) (by decide) (by decide)))).other W17 (Or.inr (slot_ne (Or.inl (hw _ (List.mem_of_getElem? (i := 21) rfl))) (Or.inr (hw _ (List.mem_of_getElem? (i := 25) rfl))) (by decide) (t := .int) (t' := (.object "java/lang/String")) (by decide) (by decide)))).other W22 (Or.inr (slot_ne (Or.inl (hw _ (List.mem_of_getElem? (i := 21) rfl))) (Or.inl (hw _ (List.mem_of_getElem? (i := 27) rfl))) (by decide) (t := .int) (t' := (.array .char)) (by decide) (by decide)))).other W27 (Or.inr (slot_ne (Or.inl (hw _ (List.mem_of_getElem? (i := 21) rfl))) (Or.inr (hw _ (List.mem_of_getElem? (i := 29) rfl))) (by decide) (t := .int) (t' := .int) (by decide) (by decide)))).other W128 (Or.inr (slot_ne (Or.inl (hw _ (List.mem_of_getElem? (i := 21) rfl))) (Or.inr (hw _ (List.mem_of_getElem? (i := 36) rfl))) (by decide) (t := .int) (t' := .boolean) (by decide) (by decide))))
            have lf137 := fa136
            have fa138 : Fld Z h128 a1 "com/example/endcon/endcon/yaml/Cursor" "countedIndex" "I" (.int (-1 : Int32)) := ((((Fw12.other W17 (Or.inr (slot_ne (Or.inl (hw _ (List.mem_of_getElem? (i := 23) rfl))) (Or.inr (hw _ (List.mem_of_getElem? (i := 25) rfl))) (by decide) (t := .int) (t' := (.object "java/lang/String")) (by decide) (by decide)))).other W22 (Or.inr (slot_ne (Or.inl (hw _ (List.mem_of_getElem? (i := 23) rfl))) (Or.inl (hw _ (List.mem_of_getElem? (i := 27) rfl))) (by decide) (t := .int) (t' := (.array .char)) (by decide) (by decide)))).other W27 (Or.inr (slot_ne (Or.inl (hw _ (List.mem_of_getElem? (i := 23) rfl))) (Or.inr (hw _ (List.mem_of_getElem? (i := 29) rfl))) (by decide) (t := .int) (t' := .int) (by decide) (by decide)))).other W128 (Or.inr (slot_ne (Or.inl (hw _ (List.mem_of_getElem? (i := 23) rfl))) (Or.inr (hw _ (List.mem_of_getElem? (i := 36) rfl))) (by decide) (t := .int) (t' := .boolean) (by decide) (by decide))))
            have lf139 := fa138
            have fa140 : Fld Z h128 a1 "com/example/endcon/endcon/yaml/Cursor" "file" "Ljava/lang/String;" (.ref a2) := (((Fw17.other W22 (Or.inr (slot_ne (Or.inr (hw _ (List.mem_of_getElem? (i := 25) rfl))) (Or.inl (hw _ (List.mem_of_getElem? (i := 27) rfl))) (by decide) (t := (.object "java/lang/String")) (t' := (.array .char)) (by decide) (by decide)))).other W27 (Or.inr (slot_ne (Or.inr (hw _ (List.mem_of_getElem? (i := 25) rfl))) (Or.inr (hw _ (List.mem_of_getElem? (i := 29) rfl))) (by decide) (t := (.object "java/lang/String")) (t' := .int) (by decide) (by decide)))).other W128 (Or.inr (slot_ne (Or.inr (hw _ (List.mem_of_getElem? (i := 25) rfl))) (Or.inr (hw _ (List.mem_of_getElem? (i := 36) rfl))) (by decide) (t := (.object "java/lang/String")) (t' := .boolean) (by decide) (by decide))))
            have lf141 := fa140
            have fa142 : Fld Z h128 a1 "com/example/endcon/endcon/yaml/Cursor" "text" "[C" (.ref a3) := ((Fw22.other W27 (Or.inr (slot_ne (Or.inl (hw _ (List.mem_of_getElem? (i := 27) rfl))) (Or.inr (hw _ (List.mem_of_getElem? (i := 29) rfl))) (by decide) (t := (.array .char)) (t' := .int) (by decide) (by decide)))).other W128 (Or.inr (slot_ne (Or.inl (hw _ (List.mem_of_getElem? (i := 27) rfl))) (Or.inr (hw _ (List.mem_of_getElem? (i := 36) rfl))) (by decide) (t := (.array .char)) (t' := .boolean) (by decide) (by decide))))
            have lf143 := fa142
            have fa144 : Fld Z h128 a1 "com/example/endcon/endcon/yaml/Cursor" "end" "I" (.int p4) := (Fw27.other W128 (Or.inr (slot_ne (Or.inr (hw _ (List.mem_of_getElem? (i := 29) rfl))) (Or.inr (hw _ (List.mem_of_getElem? (i := 36) rfl))) (by decide) (t := .int) (t' := .boolean) (by decide) (by decide))))
            have lf145 := fa144
            have lf146 : Fld Z h128 a1 "com/example/endcon/endcon/yaml/Cursor" "hasSurrogates" "Z" (.int (f1x_a1_hasSurrogates p4 c0 c1 c2 c3)) := by rw [f1x_a1_hasSurrogates, if_pos hc34, if_pos hc36, if_pos hc40, if_neg hc42]; exact Fw128
            have fa147 : Fld Z h128 a1 "com/example/endcon/endcon/yaml/Cursor" "pos" "I" (.int (0 : Int32)) := (((((((F_a1_pos.other W2 (Or.inr (slot_ne (Or.inl (hw _ (List.mem_of_getElem? (i := 45) rfl))) (Or.inl (hw _ (List.mem_of_getElem? (i := 19) rfl))) (by decide) (t := .int) (t' := .int) (by decide) (by decide)))).other W7 (Or.inr (slot_ne (Or.inl (hw _ (List.mem_of_getElem? (i := 45) rfl))) (Or.inl (hw _ (List.mem_of_getElem? (i := 21) rfl))) (by decide) (t := .int) (t' := .int) (by decide) (by decide)))).other W12 (Or.inr (slot_ne (Or.inl (hw _ (List.mem_of_getElem? (i := 45) rfl))) (Or.inl (hw _ (List.mem_of_getElem? (i := 23) rfl))) (by decide) (t := .int) (t' := .int) (by decide) (by decide)))).other W17 (Or.inr (slot_ne (Or.inl (hw _ (List.mem_of_getElem? (i := 45) rfl))) (Or.inr (hw _ (List.mem_of_getElem? (i := 25) rfl))) (by decide) (t := .int) (t' := (.object "java/lang/String")) (by decide) (by decide)))).other W22 (Or.inr (slot_ne (Or.inl (hw _ (List.mem_of_getElem? (i := 45) rfl))) (Or.inl (hw _ (List.mem_of_getElem? (i := 27) rfl))) (by decide) (t := .int) (t' := (.array .char)) (by decide) (by decide)))).other W27 (Or.inr (slot_ne (Or.inl (hw _ (List.mem_of_getElem? (i := 45) rfl))) (Or.inr (hw _ (List.mem_of_getElem? (i := 29) rfl))) (by decide) (t := .int) (t' := .int) (by decide) (by decide)))).other W128 (Or.inr (slot_ne (Or.inl (hw _ (List.mem_of_getElem? (i := 45) rfl))) (Or.inr (hw _ (List.mem_of_getElem? (i := 36) rfl))) (by decide) (t := .int) (t' := .boolean) (by decide) (by decide))))
            have lf148 := fa147
            have fa149 : Fld Z h128 a1 "com/example/endcon/endcon/yaml/Cursor" "lineStart" "I" (.int (0 : Int32)) := (((((((F_a1_lineStart.other W2 (Or.inr (slot_ne (Or.inl (hw _ (List.mem_of_getElem? (i := 52) rfl))) (Or.inl (hw _ (List.mem_of_getElem? (i := 19) rfl))) (by decide) (t := .int) (t' := .int) (by decide) (by decide)))).other W7 (Or.inr (slot_ne (Or.inl (hw _ (List.mem_of_getElem? (i := 52) rfl))) (Or.inl (hw _ (List.mem_of_getElem? (i := 21) rfl))) (by decide) (t := .int) (t' := .int) (by decide) (by decide)))).other W12 (Or.inr (slot_ne (Or.inl (hw _ (List.mem_of_getElem? (i := 52) rfl))) (Or.inl (hw _ (List.mem_of_getElem? (i := 23) rfl))) (by decide) (t := .int) (t' := .int) (by decide) (by decide)))).other W17 (Or.inr (slot_ne (Or.inl (hw _ (List.mem_of_getElem? (i := 52) rfl))) (Or.inr (hw _ (List.mem_of_getElem? (i := 25) rfl))) (by decide) (t := .int) (t' := (.object "java/lang/String")) (by decide) (by decide)))).other W22 (Or.inr (slot_ne (Or.inl (hw _ (List.mem_of_getElem? (i := 52) rfl))) (Or.inl (hw _ (List.mem_of_getElem? (i := 27) rfl))) (by decide) (t := .int) (t' := (.array .char)) (by decide) (by decide)))).other W27 (Or.inr (slot_ne (Or.inl (hw _ (List.mem_of_getElem? (i := 52) rfl))) (Or.inr (hw _ (List.mem_of_getElem? (i := 29) rfl))) (by decide) (t := .int) (t' := .int) (by decide) (by decide)))).other W128 (Or.inr (slot_ne (Or.inl (hw _ (List.mem_of_getElem? (i := 52) rfl))) (Or.inr (hw _ (List.mem_of_getElem? (i := 36) rfl))) (by decide) (t := .int) (t' := .boolean) (by decide) (by decide))))
            have lf150 := fa149
            exact ⟨rfl, N128, kp130, fa133, lf135, lf137, lf139, lf141, lf143, lf145, lf146, lf148, lf150⟩
      · have fa151 : Fld Z h27 a1 "com/example/endcon/endcon/yaml/Cursor" "hasSurrogates" "Z" (.int (0 : Int32)) := ((((((F_a1_hasSurrogates.other W2 (Or.inr (slot_ne (Or.inr (hw _ (List.mem_of_getElem? (i := 36) rfl))) (Or.inl (hw _ (List.mem_of_getElem? (i := 19) rfl))) (by decide) (t := .boolean) (t' := .int) (by decide) (by decide)))).other W7 (Or.inr (slot_ne (Or.inr (hw _ (List.mem_of_getElem? (i := 36) rfl))) (Or.inl (hw _ (List.mem_of_getElem? (i := 21) rfl))) (by decide) (t := .boolean) (t' := .int) (by decide) (by decide)))).other W12 (Or.inr (slot_ne (Or.inr (hw _ (List.mem_of_getElem? (i := 36) rfl))) (Or.inl (hw _ (List.mem_of_getElem? (i := 23) rfl))) (by decide) (t := .boolean) (t' := .int) (by decide) (by decide)))).other W17 (Or.inr (slot_ne (Or.inr (hw _ (List.mem_of_getElem? (i := 36) rfl))) (Or.inr (hw _ (List.mem_of_getElem? (i := 25) rfl))) (by decide) (t := .boolean) (t' := (.object "java/lang/String")) (by decide) (by decide)))).other W22 (Or.inr (slot_ne (Or.inr (hw _ (List.mem_of_getElem? (i := 36) rfl))) (Or.inl (hw _ (List.mem_of_getElem? (i := 27) rfl))) (by decide) (t := .boolean) (t' := (.array .char)) (by decide) (by decide)))).other W27 (Or.inr (slot_ne (Or.inr (hw _ (List.mem_of_getElem? (i := 36) rfl))) (Or.inr (hw _ (List.mem_of_getElem? (i := 29) rfl))) (by decide) (t := .boolean) (t' := .int) (by decide) (by decide))))
        have fa152 : Exa Z h27 a1 "com/example/endcon/endcon/yaml/Cursor" := (fa26.wr W27)
        obtain ⟨T153, h153, X153, e153, W153, st153⟩ := putFN X38 hx hZ hown (hw _ (List.mem_of_getElem? (i := 35) rfl)) Via.refl e38 fa151 fa152 (Or.inr ⟨(hw _ (List.mem_of_getElem? (i := 36) rfl)), rfl, hnm⟩) (hw _ (List.mem_of_getElem? (i := 2) rfl)) (ty := .boolean) (v' := (.int (nar .boolean (f3 c1)))) (by decide) rfl (fits_nar_bool _) (g := (mkF m 69 #[.val (.ref a1), .val (.ref a2), .val (.ref a3), .val (.int p4), .val (.int (f3 c1)), .val (.int (2 : Int32))] [(.int (f3 c1)), (.ref a1)])) rfl rfl (hb hby d1_69)
        have Fw153 : Fld Z h153 a1 "com/example/endcon/endcon/yaml/Cursor" "hasSurrogates" "Z" (.int (nar .boolean (f3 c1))) := fa151.same W153
        have zs154 : n0 ≤ h153.size := Nat.le_trans zs28 (Keep.of_wr W153).1
        have kp155 : Keep h0 h153 [a1] := kp29.wr W153 (Or.inl (List.mem_of_getElem? (i := 0) rfl))
        have N153 := Fr.snoc X153 N38 g_a1
        have fa156 : Arv Z h153 a3 k_a3 .char (4 : Int32) [(.int c0), (.int c1), (.int c2), (.int c3)] (.int (0 : Int32)) := (fa30.other W153 (Ne.symm ne_a1_a3))
        obtain ⟨cx157, Ar157, qq157, S157, N157_, H157, G157⟩ := id fa156
        have hin157 : ¬ ((0 : Int32) < 0 ∨ cx157.slots.size ≤ ((0 : Int32)).toNatClampNeg) := inb_of S157 ⟨by decide, by decide⟩
        have hat157 : cx157.slots[((0 : Int32)).toNatClampNeg]? = some (.int c0) := (H157 ((0 : Int32)).toNatClampNeg (Nat.lt_of_not_le fun w => hin157 (Or.inr w))).trans (congrArg some (rfl))
        obtain ⟨fs, hr, hrun, hended, hW, hsame⟩ := X153.leave (v := none) (fun _ => rfl)
        refine ⟨_, _, pre39 _ ?_, hrun, hended, _, _, rfl, ?_, ⟨_, rfl⟩, hW, hsame.mono (by decide) (by decide)⟩
        · show Steps p.tables e below (T38.setTop (mkF m 43 #[.val (.ref a1), .val (.ref a2), .val (.ref a3), .val (.int p4), .val (.int (f3 c1)), .val (.int (2 : Int32))] [(.int p4), (.int (2 : Int32))])) _
          refine XS.icmpYes X38.here hx rfl (pc0 := 43) (pc' := 66) rfl (hb hby d1_43) rfl (flt hc40).2.1 (by decide) (by decide) ?_
          show Steps p.tables e below (T38.setTop (mkF m 66 #[.val (.ref a1), .val (.ref a2), .val (.ref a3), .val (.int p4), .val (.int (f3 c1)), .val (.int (2 : Int32))] [])) _
          refine own_blk X38 hx bl1_66_2 (own_hb hby bd1_66_2) (pc' := 69) (Ls' := #[.val (.ref a1), .val (.ref a2), .val (.ref a3), .val (.int p4), .val (.int (f3 c1)), .val (.int (2 : Int32))]) (st' := [(.int (f3 c1)), (.ref a1)]) rfl ?_
          refine st153 _ ?_
          show Steps p.tables e below (T153.setTop (mkF m 72 #[.val (.ref a1), .val (.ref a2), .val (.ref a3), .val (.int p4), .val (.int (f3 c1)), .val (.int (2 : Int32))] [])) _
          refine own_blk X153 hx bl1_72_1 (own_hb hby bd1_72_1) (pc' := 73) (Ls' := #[.val (.ref a1), .val (.ref a2), .val (.ref a3), .val (.int p4), .val (.int (f3 c1)), .val (.int (2 : Int32))]) (st' := [(.int p4)]) rfl ?_
          refine XS.ifNo X153.here hx rfl (hb hby d1_73) rfl ((if0 _ _).trans (tlt hz).2.2.2) ?_
          show Steps p.tables e below (T153.setTop (mkF m 76 #[.val (.ref a1), .val (.ref a2), .val (.ref a3), .val (.int p4), .val (.int (f3 c1)), .val (.int (2 : Int32))] [])) _
          refine own_blk X153 hx bl1_76_2 (own_hb hby bd1_76_2) (pc' := 78) (Ls' := #[.val (.ref a1), .val (.ref a2), .val (.ref a3), .val (.int p4), .val (.int (f3 c1)), .val (.int (2 : Int32))]) (st' := [(.int (0 : Int32)), (.ref a3)]) rfl ?_
          refine X153.caload hx (j := (0 : Int32)) (v := (.int c0)) (by rw [e153]; exact Ar157.1) (State.isArrayOf_alike hZ.alike Ar157.2.1) Ar157.2.2 hin157 hat157 (g := (mkF m 78 #[.val (.ref a1), .val (.ref a2), .val (.ref a3), .val (.int p4), .val (.int (f3 c1)), .val (.int (2 : Int32))] [(.int (0 : Int32)), (.ref a3)])) rfl rfl (hb hby d1_78) _ ?_
          show Steps p.tables e below (T153.setTop (mkF m 79 #[.val (.ref a1), .val (.ref a2), .val (.ref a3), .val (.int p4), .val (.int (f3 c1)), .val (.int (2 : Int32))] [(.int c0)])) _
          refine X153.ldcInt hx hown (mvT hZ (hw _ (List.mem_of_getElem? (i := 37) rfl))) (g := (mkF m 79 #[.val (.ref a1), .val (.ref a2), .val (.ref a3), .val (.int p4), .val (.int (f3 c1)), .val (.int (2 : Int32))] [(.int c0)])) rfl (hb hby d1_79) _ ?_
          show Steps p.tables e below (T153.setTop (mkF m 81 #[.val (.ref a1), .val (.ref a2), .val (.ref a3), .val (.int p4), .val (.int (f3 c1)), .val (.int (2 : Int32))] [(.int (65279 : Int32)), (.int c0)])) _
          refine XS.icmpYes X153.here hx rfl (pc0 := 81) (pc' := 94) rfl (hb hby d1_81) rfl (feq hbm).2 (by decide) (by decide) ?_
          show Steps p.tables e below (T153.setTop (mkF m 94 #[.val (.ref a1), .val (.ref a2), .val (.ref a3), .val (.int p4), .val (.int (f3 c1)), .val (.int (2 : Int32))] [])) _
          exact X153.returnOut hx Bd.returns (hb hby d1_94) hr
        · show Q1x Z a1 a2 a3 p4 c0 c1 c2 c3 k_a3 h0 n0 _ T153.heap _
          rw [e153]
          have fa158 : Exa Z h153 a1 "com/example/endcon/endcon/yaml/Cursor" := (fa152.wr W153)
          have fa159 : Fld Z h153 a1 "com/example/endcon/endcon/yaml/Cursor" "line" "I" (.int (1 : Int32)) := ((((((Fw2.other W7 (Or.inr (slot_ne (Or.inl (hw _ (List.mem_of_getElem? (i := 19) rfl))) (Or.inl (hw _ (List.mem_of_getElem? (i := 21) rfl))) (by decide) (t := .int) (t' := .int) (by decide) (by decide)))).other W12 (Or.inr (slot_ne (Or.inl (hw _ (List.mem_of_getElem? (i := 19) rfl))) (Or.inl (hw _ (List.mem_of_getElem? (i := 23) rfl))) (by decide) (t := .int) (t' := .int) (by decide) (by decide)))).other W17 (Or.inr (slot_ne (Or.inl (hw _ (List.mem_of_getElem? (i := 19) rfl))) (Or.inr (hw _ (List.mem_of_getElem? (i := 25) rfl))) (by decide) (t := .int) (t' := (.object "java/lang/String")) (by decide) (by decide)))).other W22 (Or.inr (slot_ne (Or.inl (hw _ (List.mem_of_getElem? (i := 19) rfl))) (Or.inl (hw _ (List.mem_of_getElem? (i := 27) rfl))) (by decide) (t := .int) (t' := (.array .char)) (by decide) (by decide)))).other W27 (Or.inr (slot_ne (Or.inl (hw _ (List.mem_of_getElem? (i := 19) rfl))) (Or.inr (hw _ (List.mem_of_getElem? (i := 29) rfl))) (by decide) (t := .int) (t' := .int) (by decide) (by decide)))).other W153 (Or.inr (slot_ne (Or.inl (hw _ (List.mem_of_getElem? (i := 19) rfl))) (Or.inr (hw _ (List.mem_of_getElem? (i := 36) rfl))) (by decide) (t := .int) (t' := .boolean) (by decide) (by decide))))
          have lf160 := fa159
          have fa161 : Fld Z h153 a1 "com/example/endcon/endcon/yaml/Cursor" "blankLinesFrom" "I" (.int (-1 : Int32)) := (((((Fw7.other W12 (Or.inr (slot_ne (Or.inl (hw _ (List.mem_of_getElem? (i := 21) rfl))) (Or.inl (hw _ (List.mem_of_getElem? (i := 23) rfl))) (by decide) (t := .int) (t' := .int) (by decide) (by decide)))).other W17 (Or.inr (slot_ne (Or.inl (hw _ (List.mem_of_getElem? (i := 21) rfl))) (Or.inr (hw _ (List.mem_of_getElem? (i := 25) rfl))) (by decide) (t := .int) (t' := (.object "java/lang/String")) (by decide) (by decide)))).other W22 (Or.inr (slot_ne (Or.inl (hw _ (List.mem_of_getElem? (i := 21) rfl))) (Or.inl (hw _ (List.mem_of_getElem? (i := 27) rfl))) (by decide) (t := .int) (t' := (.array .char)) (by decide) (by decide)))).other W27 (Or.inr (slot_ne (Or.inl (hw _ (List.mem_of_getElem? (i := 21) rfl))) (Or.inr (hw _ (List.mem_of_getElem? (i := 29) rfl))) (by decide) (t := .int) (t' := .int) (by decide) (by decide)))).other W153 (Or.inr (slot_ne (Or.inl (hw _ (List.mem_of_getElem? (i := 21) rfl))) (Or.inr (hw _ (List.mem_of_getElem? (i := 36) rfl))) (by decide) (t := .int) (t' := .boolean) (by decide) (by decide))))
          have lf162 := fa161
          have fa163 : Fld Z h153 a1 "com/example/endcon/endcon/yaml/Cursor" "countedIndex" "I" (.int (-1 : Int32)) := ((((Fw12.other W17 (Or.inr (slot_ne (Or.inl (hw _ (List.mem_of_getElem? (i := 23) rfl))) (Or.inr (hw _ (List.mem_of_getElem? (i := 25) rfl))) (by decide) (t := .int) (t' := (.object "java/lang/String")) (by decide) (by decide)))).other W22 (Or.inr (slot_ne (Or.inl (hw _ (List.mem_of_getElem? (i := 23) rfl))) (Or.inl (hw _ (List.mem_of_getElem? (i := 27) rfl))) (by decide) (t := .int) (t' := (.array .char)) (by decide) (by decide)))).other W27 (Or.inr (slot_ne (Or.inl (hw _ (List.mem_of_getElem? (i := 23) rfl))) (Or.inr (hw _ (List.mem_of_getElem? (i := 29) rfl))) (by decide) (t := .int) (t' := .int) (by decide) (by decide)))).other W153 (Or.inr (slot_ne (Or.inl (hw _ (List.mem_of_getElem? (i := 23) rfl))) (Or.inr (hw _ (List.mem_of_getElem? (i := 36) rfl))) (by decide) (t := .int) (t' := .boolean) (by decide) (by decide))))
          have lf164 := fa163
          have fa165 : Fld Z h153 a1 "com/example/endcon/endcon/yaml/Cursor" "file" "Ljava/lang/String;" (.ref a2) := (((Fw17.other W22 (Or.inr (slot_ne (Or.inr (hw _ (List.mem_of_getElem? (i := 25) rfl))) (Or.inl (hw _ (List.mem_of_getElem? (i := 27) rfl))) (by decide) (t := (.object "java/lang/String")) (t' := (.array .char)) (by decide) (by decide)))).other W27 (Or.inr (slot_ne (Or.inr (hw _ (List.mem_of_getElem? (i := 25) rfl))) (Or.inr (hw _ (List.mem_of_getElem? (i := 29) rfl))) (by decide) (t := (.object "java/lang/String")) (t' := .int) (by decide) (by decide)))).other W153 (Or.inr (slot_ne (Or.inr (hw _ (List.mem_of_getElem? (i := 25) rfl))) (Or.inr (hw _ (List.mem_of_getElem? (i := 36) rfl))) (by decide) (t := (.object "java/lang/String")) (t' := .boolean) (by decide) (by decide))))
          have lf166 := fa165
          have fa167 : Fld Z h153 a1 "com/example/endcon/endcon/yaml/Cursor" "text" "[C" (.ref a3) := ((Fw22.other W27 (Or.inr (slot_ne (Or.inl (hw _ (List.mem_of_getElem? (i := 27) rfl))) (Or.inr (hw _ (List.mem_of_getElem? (i := 29) rfl))) (by decide) (t := (.array .char)) (t' := .int) (by decide) (by decide)))).other W153 (Or.inr (slot_ne (Or.inl (hw _ (List.mem_of_getElem? (i := 27) rfl))) (Or.inr (hw _ (List.mem_of_getElem? (i := 36) rfl))) (by decide) (t := (.array .char)) (t' := .boolean) (by decide) (by decide))))
          have lf168 := fa167
          have fa169 : Fld Z h153 a1 "com/example/endcon/endcon/yaml/Cursor" "end" "I" (.int p4) := (Fw27.other W153 (Or.inr (slot_ne (Or.inr (hw _ (List.mem_of_getElem? (i := 29) rfl))) (Or.inr (hw _ (List.mem_of_getElem? (i := 36) rfl))) (by decide) (t := .int) (t' := .boolean) (by decide) (by decide))))
          have lf170 := fa169
          have lf171 : Fld Z h153 a1 "com/example/endcon/endcon/yaml/Cursor" "hasSurrogates" "Z" (.int (f1x_a1_hasSurrogates p4 c0 c1 c2 c3)) := by rw [f1x_a1_hasSurrogates, if_pos hc34, if_pos hc36, if_neg hc40]; exact Fw153
          have fa172 : Fld Z h153 a1 "com/example/endcon/endcon/yaml/Cursor" "pos" "I" (.int (0 : Int32)) := (((((((F_a1_pos.other W2 (Or.inr (slot_ne (Or.inl (hw _ (List.mem_of_getElem? (i := 45) rfl))) (Or.inl (hw _ (List.mem_of_getElem? (i := 19) rfl))) (by decide) (t := .int) (t' := .int) (by decide) (by decide)))).other W7 (Or.inr (slot_ne (Or.inl (hw _ (List.mem_of_getElem? (i := 45) rfl))) (Or.inl (hw _ (List.mem_of_getElem? (i := 21) rfl))) (by decide) (t := .int) (t' := .int) (by decide) (by decide)))).other W12 (Or.inr (slot_ne (Or.inl (hw _ (List.mem_of_getElem? (i := 45) rfl))) (Or.inl (hw _ (List.mem_of_getElem? (i := 23) rfl))) (by decide) (t := .int) (t' := .int) (by decide) (by decide)))).other W17 (Or.inr (slot_ne (Or.inl (hw _ (List.mem_of_getElem? (i := 45) rfl))) (Or.inr (hw _ (List.mem_of_getElem? (i := 25) rfl))) (by decide) (t := .int) (t' := (.object "java/lang/String")) (by decide) (by decide)))).other W22 (Or.inr (slot_ne (Or.inl (hw _ (List.mem_of_getElem? (i := 45) rfl))) (Or.inl (hw _ (List.mem_of_getElem? (i := 27) rfl))) (by decide) (t := .int) (t' := (.array .char)) (by decide) (by decide)))).other W27 (Or.inr (slot_ne (Or.inl (hw _ (List.mem_of_getElem? (i := 45) rfl))) (Or.inr (hw _ (List.mem_of_getElem? (i := 29) rfl))) (by decide) (t := .int) (t' := .int) (by decide) (by decide)))).other W153 (Or.inr (slot_ne (Or.inl (hw _ (List.mem_of_getElem? (i := 45) rfl))) (Or.inr (hw _ (List.mem_of_getElem? (i := 36) rfl))) (by decide) (t := .int) (t' := .boolean) (by decide) (by decide))))
          have lf173 := fa172
          have fa174 : Fld Z h153 a1 "com/example/endcon/endcon/yaml/Cursor" "lineStart" "I" (.int (0 : Int32)) := (((((((F_a1_lineStart.other W2 (Or.inr (slot_ne (Or.inl (hw _ (List.mem_of_getElem? (i := 52) rfl))) (Or.inl (hw _ (List.mem_of_getElem? (i := 19) rfl))) (by decide) (t := .int) (t' := .int) (by decide) (by decide)))).other W7 (Or.inr (slot_ne (Or.inl (hw _ (List.mem_of_getElem? (i := 52) rfl))) (Or.inl (hw _ (List.mem_of_getElem? (i := 21) rfl))) (by decide) (t := .int) (t' := .int) (by decide) (by decide)))).other W12 (Or.inr (slot_ne (Or.inl (hw _ (List.mem_of_getElem? (i := 52) rfl))) (Or.inl (hw _ (List.mem_of_getElem? (i := 23) rfl))) (by decide) (t := .int) (t' := .int) (by decide) (by decide)))).other W17 (Or.inr (slot_ne (Or.inl (hw _ (List.mem_of_getElem? (i := 52) rfl))) (Or.inr (hw _ (List.mem_of_getElem? (i := 25) rfl))) (by decide) (t := .int) (t' := (.object "java/lang/String")) (by decide) (by decide)))).other W22 (Or.inr (slot_ne (Or.inl (hw _ (List.mem_of_getElem? (i := 52) rfl))) (Or.inl (hw _ (List.mem_of_getElem? (i := 27) rfl))) (by decide) (t := .int) (t' := (.array .char)) (by decide) (by decide)))).other W27 (Or.inr (slot_ne (Or.inl (hw _ (List.mem_of_getElem? (i := 52) rfl))) (Or.inr (hw _ (List.mem_of_getElem? (i := 29) rfl))) (by decide) (t := .int) (t' := .int) (by decide) (by decide)))).other W153 (Or.inr (slot_ne (Or.inl (hw _ (List.mem_of_getElem? (i := 52) rfl))) (Or.inr (hw _ (List.mem_of_getElem? (i := 36) rfl))) (by decide) (t := .int) (t' := .boolean) (by decide) (by decide))))
          have lf175 := fa174
          exact ⟨rfl, N153, kp155, fa158, lf160, lf162, lf164, lf166, lf168, lf170, lf171, lf173, lf175⟩
    · have fa176 : Fld Z h27 a1 "com/example/endcon/endcon/yaml/Cursor" "hasSurrogates" "Z" (.int (0 : Int32)) := ((((((F_a1_hasSurrogates.other W2 (Or.inr (slot_ne (Or.inr (hw _ (List.mem_of_getElem? (i := 36) rfl))) (Or.inl (hw _ (List.mem_of_getElem? (i := 19) rfl))) (by decide) (t := .boolean) (t' := .int) (by decide) (by decide)))).other W7 (Or.inr (slot_ne (Or.inr (hw _ (List.mem_of_getElem? (i := 36) rfl))) (Or.inl (hw _ (List.mem_of_getElem? (i := 21) rfl))) (by decide) (t := .boolean) (t' := .int) (by decide) (by decide)))).other W12 (Or.inr (slot_ne (Or.inr (hw _ (List.mem_of_getElem? (i := 36) rfl))) (Or.inl (hw _ (List.mem_of_getElem? (i := 23) rfl))) (by decide) (t := .boolean) (t' := .int) (by decide) (by decide)))).other W17 (Or.inr (slot_ne (Or.inr (hw _ (List.mem_of_getElem? (i := 36) rfl))) (Or.inr (hw _ (List.mem_of_getElem? (i := 25) rfl))) (by decide) (t := .boolean) (t' := (.object "java/lang/String")) (by decide) (by decide)))).other W22 (Or.inr (slot_ne (Or.inr (hw _ (List.mem_of_getElem? (i := 36) rfl))) (Or.inl (hw _ (List.mem_of_getElem? (i := 27) rfl))) (by decide) (t := .boolean) (t' := (.array .char)) (by decide) (by decide)))).other W27 (Or.inr (slot_ne (Or.inr (hw _ (List.mem_of_getElem? (i := 36) rfl))) (Or.inr (hw _ (List.mem_of_getElem? (i := 29) rfl))) (by decide) (t := .boolean) (t' := .int) (by decide) (by decide))))
      have fa177 : Exa Z h27 a1 "com/example/endcon/endcon/yaml/Cursor" := (fa26.wr W27)
      obtain ⟨T178, h178, X178, e178, W178, st178⟩ := putFN X32 hx hZ hown (hw _ (List.mem_of_getElem? (i := 35) rfl)) Via.refl e32 fa176 fa177 (Or.inr ⟨(hw _ (List.mem_of_getElem? (i := 36) rfl)), rfl, hnm⟩) (hw _ (List.mem_of_getElem? (i := 2) rfl)) (ty := .boolean) (v' := (.int (nar .boolean (f3 c0)))) (by decide) rfl (fits_nar_bool _) (g := (mkF m 69 #[.val (.ref a1), .val (.ref a2), .val (.ref a3), .val (.int p4), .val (.int (f3 c0)), .val (.int (1 : Int32))] [(.int (f3 c0)), (.ref a1)])) rfl rfl (hb hby d1_69)
      have Fw178 : Fld Z h178 a1 "com/example/endcon/endcon/yaml/Cursor" "hasSurrogates" "Z" (.int (nar .boolean (f3 c0))) := fa176.same W178
      have zs179 : n0 ≤ h178.size := Nat.le_trans zs28 (Keep.of_wr W178).1
      have kp180 : Keep h0 h178 [a1] := kp29.wr W178 (Or.inl (List.mem_of_getElem? (i := 0) rfl))
      have N178 := Fr.snoc X178 N32 g_a1
      have fa181 : Arv Z h178 a3 k_a3 .char (4 : Int32) [(.int c0), (.int c1), (.int c2), (.int c3)] (.int (0 : Int32)) := (fa30.other W178 (Ne.symm ne_a1_a3))
      obtain ⟨cx182, Ar182, qq182, S182, N182_, H182, G182⟩ := id fa181
      have hin182 : ¬ ((0 : Int32) < 0 ∨ cx182.slots.size ≤ ((0 : Int32)).toNatClampNeg) := inb_of S182 ⟨by decide, by decide⟩
      have hat182 : cx182.slots[((0 : Int32)).toNatClampNeg]? = some (.int c0) := (H182 ((0 : Int32)).toNatClampNeg (Nat.lt_of_not_le fun w => hin182 (Or.inr w))).trans (congrArg some (rfl))
      obtain ⟨fs, hr, hrun, hended, hW, hsame⟩ := X178.leave (v := none) (fun _ => rfl)
      refine ⟨_, _, pre35 _ ?_, hrun, hended, _, _, rfl, ?_, ⟨_, rfl⟩, hW, hsame.mono (by decide) (by decide)⟩
      · show Steps p.tables e below (T32.setTop (mkF m 48 #[.val (.ref a1), .val (.ref a2), .val (.ref a3), .val (.int p4), .val (.int (f3 c0)), .val (.int (1 : Int32))] [(.int (f3 c0))])) _
        refine XS.ifYes X32.here hx rfl (pc0 := 48) (pc' := 66) rfl (hb hby d1_48) rfl ((if0 _ _).trans (feq hc36).2) (by decide) (by decide) ?_
        show Steps p.tables e below (T32.setTop (mkF m 66 #[.val (.ref a1), .val (.ref a2), .val (.ref a3), .val (.int p4), .val (.int (f3 c0)), .val (.int (1 : Int32))] [])) _
        refine own_blk X32 hx bl1_66_2 (own_hb hby bd1_66_2) (pc' := 69) (Ls' := #[.val (.ref a1), .val (.ref a2), .val (.ref a3), .val (.int p4), .val (.int (f3 c0)), .val (.int (1 : Int32))]) (st' := [(.int (f3 c0)), (.ref a1)]) rfl ?_
        refine st178 _ ?_
        show Steps p.tables e below (T178.setTop (mkF m 72 #[.val (.ref a1), .val (.ref a2), .val (.ref a3), .val (.int p4), .val (.int (f3 c0)), .val (.int (1 : Int32))] [])) _
        refine own_blk X178 hx bl1_72_1 (own_hb hby bd1_72_1) (pc' := 73) (Ls' := #[.val (.ref a1), .val (.ref a2), .val (.ref a3), .val (.int p4), .val (.int (f3 c0)), .val (.int (1 : Int32))]) (st' := [(.int p4)]) rfl ?_
        refine XS.ifNo X178.here hx rfl (hb hby d1_73) rfl ((if0 _ _).trans (tlt hz).2.2.2) ?_
        show Steps p.tables e below (T178.setTop (mkF m 76 #[.val (.ref a1), .val (.ref a2), .val (.ref a3), .val (.int p4), .val (.int (f3 c0)), .val (.int (1 : Int32))] [])) _
        refine own_blk X178 hx bl1_76_2 (own_hb hby bd1_76_2) (pc' := 78) (Ls' := #[.val (.ref a1), .val (.ref a2), .val (.ref a3), .val (.int p4), .val (.int (f3 c0)), .val (.int (1 : Int32))]) (st' := [(.int (0 : Int32)), (.ref a3)]) rfl ?_
        refine X178.caload hx (j := (0 : Int32)) (v := (.int c0)) (by rw [e178]; exact Ar182.1) (State.isArrayOf_alike hZ.alike Ar182.2.1) Ar182.2.2 hin182 hat182 (g := (mkF m 78 #[.val (.ref a1), .val (.ref a2), .val (.ref a3), .val (.int p4), .val (.int (f3 c0)), .val (.int (1 : Int32))] [(.int (0 : Int32)), (.ref a3)])) rfl rfl (hb hby d1_78) _ ?_
        show Steps p.tables e below (T178.setTop (mkF m 79 #[.val (.ref a1), .val (.ref a2), .val (.ref a3), .val (.int p4), .val (.int (f3 c0)), .val (.int (1 : Int32))] [(.int c0)])) _
        refine X178.ldcInt hx hown (mvT hZ (hw _ (List.mem_of_getElem? (i := 37) rfl))) (g := (mkF m 79 #[.val (.ref a1), .val (.ref a2), .val (.ref a3), .val (.int p4), .val (.int (f3 c0)), .val (.int (1 : Int32))] [(.int c0)])) rfl (hb hby d1_79) _ ?_
        show Steps p.tables e below (T178.setTop (mkF m 81 #[.val (.ref a1), .val (.ref a2), .val (.ref a3), .val (.int p4), .val (.int (f3 c0)), .val (.int (1 : Int32))] [(.int (65279 : Int32)), (.int c0)])) _
        refine XS.icmpYes X178.here hx rfl (pc0 := 81) (pc' := 94) rfl (hb hby d1_81) rfl (feq hbm).2 (by decide) (by decide) ?_
        show Steps p.tables e below (T178.setTop (mkF m 94 #[.val (.ref a1), .val (.ref a2), .val (.ref a3), .val (.int p4), .val (.int (f3 c0)), .val (.int (1 : Int32))] [])) _
        exact X178.returnOut hx Bd.returns (hb hby d1_94) hr
      · show Q1x Z a1 a2 a3 p4 c0 c1 c2 c3 k_a3 h0 n0 _ T178.heap _
        rw [e178]
        have fa183 : Exa Z h178 a1 "com/example/endcon/endcon/yaml/Cursor" := (fa177.wr W178)
        have fa184 : Fld Z h178 a1 "com/example/endcon/endcon/yaml/Cursor" "line" "I" (.int (1 : Int32)) := ((((((Fw2.other W7 (Or.inr (slot_ne (Or.inl (hw _ (List.mem_of_getElem? (i := 19) rfl))) (Or.inl (hw _ (List.mem_of_getElem? (i := 21) rfl))) (by decide) (t := .int) (t' := .int) (by decide) (by decide)))).other W12 (Or.inr (slot_ne (Or.inl (hw _ (List.mem_of_getElem? (i := 19) rfl))) (Or.inl (hw _ (List.mem_of_getElem? (i := 23) rfl))) (by decide) (t := .int) (t' := .int) (by decide) (by decide)))).other W17 (Or.inr (slot_ne (Or.inl (hw _ (List.mem_of_getElem? (i := 19) rfl))) (Or.inr (hw _ (List.mem_of_getElem? (i := 25) rfl))) (by decide) (t := .int) (t' := (.object "java/lang/String")) (by decide) (by decide)))).other W22 (Or.inr (slot_ne (Or.inl (hw _ (List.mem_of_getElem? (i := 19) rfl))) (Or.inl (hw _ (List.mem_of_getElem? (i := 27) rfl))) (by decide) (t := .int) (t' := (.array .char)) (by decide) (by decide)))).other W27 (Or.inr (slot_ne (Or.inl (hw _ (List.mem_of_getElem? (i := 19) rfl))) (Or.inr (hw _ (List.mem_of_getElem? (i := 29) rfl))) (by decide) (t := .int) (t' := .int) (by decide) (by decide)))).other W178 (Or.inr (slot_ne (Or.inl (hw _ (List.mem_of_getElem? (i := 19) rfl))) (Or.inr (hw _ (List.mem_of_getElem? (i := 36) rfl))) (by decide) (t := .int) (t' := .boolean) (by decide) (by decide))))
        have lf185 := fa184
        have fa186 : Fld Z h178 a1 "com/example/endcon/endcon/yaml/Cursor" "blankLinesFrom" "I" (.int (-1 : Int32)) := (((((Fw7.other W12 (Or.inr (slot_ne (Or.inl (hw _ (List.mem_of_getElem? (i := 21) rfl))) (Or.inl (hw _ (List.mem_of_getElem? (i := 23) rfl))) (by decide) (t := .int) (t' := .int) (by decide) (by decide)))).other W17 (Or.inr (slot_ne (Or.inl (hw _ (List.mem_of_getElem? (i := 21) rfl))) (Or.inr (hw _ (List.mem_of_getElem? (i := 25) rfl))) (by decide) (t := .int) (t' := (.object "java/lang/String")) (by decide) (by decide)))).other W22 (Or.inr (slot_ne (Or.inl (hw _ (List.mem_of_getElem? (i := 21) rfl))) (Or.inl (hw _ (List.mem_of_getElem? (i := 27) rfl))) (by decide) (t := .int) (t' := (.array .char)) (by decide) (by decide)))).other W27 (Or.inr (slot_ne (Or.inl (hw _ (List.mem_of_getElem? (i := 21) rfl))) (Or.inr (hw _ (List.mem_of_getElem? (i := 29) rfl))) (by decide) (t := .int) (t' := .int) (by decide) (by decide)))).other W178 (Or.inr (slot_ne (Or.inl (hw _ (List.mem_of_getElem? (i := 21) rfl))) (Or.inr (hw _ (List.mem_of_getElem? (i := 36) rfl))) (by decide) (t := .int) (t' := .boolean) (by decide) (by decide))))
        have lf187 := fa186
        have fa188 : Fld Z h178 a1 "com/example/endcon/endcon/yaml/Cursor" "countedIndex" "I" (.int (-1 : Int32)) := ((((Fw12.other W17 (Or.inr (slot_ne (Or.inl (hw _ (List.mem_of_getElem? (i := 23) rfl))) (Or.inr (hw _ (List.mem_of_getElem? (i := 25) rfl))) (by decide) (t := .int) (t' := (.object "java/lang/String")) (by decide) (by decide)))).other W22 (Or.inr (slot_ne (Or.inl (hw _ (List.mem_of_getElem? (i := 23) rfl))) (Or.inl (hw _ (List.mem_of_getElem? (i := 27) rfl))) (by decide) (t := .int) (t' := (.array .char)) (by decide) (by decide)))).other W27 (Or.inr (slot_ne (Or.inl (hw _ (List.mem_of_getElem? (i := 23) rfl))) (Or.inr (hw _ (List.mem_of_getElem? (i := 29) rfl))) (by decide) (t := .int) (t' := .int) (by decide) (by decide)))).other W178 (Or.inr (slot_ne (Or.inl (hw _ (List.mem_of_getElem? (i := 23) rfl))) (Or.inr (hw _ (List.mem_of_getElem? (i := 36) rfl))) (by decide) (t := .int) (t' := .boolean) (by decide) (by decide))))
        have lf189 := fa188
        have fa190 : Fld Z h178 a1 "com/example/endcon/endcon/yaml/Cursor" "file" "Ljava/lang/String;" (.ref a2) := (((Fw17.other W22 (Or.inr (slot_ne (Or.inr (hw _ (List.mem_of_getElem? (i := 25) rfl))) (Or.inl (hw _ (List.mem_of_getElem? (i := 27) rfl))) (by decide) (t := (.object "java/lang/String")) (t' := (.array .char)) (by decide) (by decide)))).other W27 (Or.inr (slot_ne (Or.inr (hw _ (List.mem_of_getElem? (i := 25) rfl))) (Or.inr (hw _ (List.mem_of_getElem? (i := 29) rfl))) (by decide) (t := (.object "java/lang/String")) (t' := .int) (by decide) (by decide)))).other W178 (Or.inr (slot_ne (Or.inr (hw _ (List.mem_of_getElem? (i := 25) rfl))) (Or.inr (hw _ (List.mem_of_getElem? (i := 36) rfl))) (by decide) (t := (.object "java/lang/String")) (t' := .boolean) (by decide) (by decide))))
        have lf191 := fa190
        have fa192 : Fld Z h178 a1 "com/example/endcon/endcon/yaml/Cursor" "text" "[C" (.ref a3) := ((Fw22.other W27 (Or.inr (slot_ne (Or.inl (hw _ (List.mem_of_getElem? (i := 27) rfl))) (Or.inr (hw _ (List.mem_of_getElem? (i := 29) rfl))) (by decide) (t := (.array .char)) (t' := .int) (by decide) (by decide)))).other W178 (Or.inr (slot_ne (Or.inl (hw _ (List.mem_of_getElem? (i := 27) rfl))) (Or.inr (hw _ (List.mem_of_getElem? (i := 36) rfl))) (by decide) (t := (.array .char)) (t' := .boolean) (by decide) (by decide))))
        have lf193 := fa192
        have fa194 : Fld Z h178 a1 "com/example/endcon/endcon/yaml/Cursor" "end" "I" (.int p4) := (Fw27.other W178 (Or.inr (slot_ne (Or.inr (hw _ (List.mem_of_getElem? (i := 29) rfl))) (Or.inr (hw _ (List.mem_of_getElem? (i := 36) rfl))) (by decide) (t := .int) (t' := .boolean) (by decide) (by decide))))
        have lf195 := fa194
        have lf196 : Fld Z h178 a1 "com/example/endcon/endcon/yaml/Cursor" "hasSurrogates" "Z" (.int (f1x_a1_hasSurrogates p4 c0 c1 c2 c3)) := by rw [f1x_a1_hasSurrogates, if_pos hc34, if_neg hc36]; exact Fw178
        have fa197 : Fld Z h178 a1 "com/example/endcon/endcon/yaml/Cursor" "pos" "I" (.int (0 : Int32)) := (((((((F_a1_pos.other W2 (Or.inr (slot_ne (Or.inl (hw _ (List.mem_of_getElem? (i := 45) rfl))) (Or.inl (hw _ (List.mem_of_getElem? (i := 19) rfl))) (by decide) (t := .int) (t' := .int) (by decide) (by decide)))).other W7 (Or.inr (slot_ne (Or.inl (hw _ (List.mem_of_getElem? (i := 45) rfl))) (Or.inl (hw _ (List.mem_of_getElem? (i := 21) rfl))) (by decide) (t := .int) (t' := .int) (by decide) (by decide)))).other W12 (Or.inr (slot_ne (Or.inl (hw _ (List.mem_of_getElem? (i := 45) rfl))) (Or.inl (hw _ (List.mem_of_getElem? (i := 23) rfl))) (by decide) (t := .int) (t' := .int) (by decide) (by decide)))).other W17 (Or.inr (slot_ne (Or.inl (hw _ (List.mem_of_getElem? (i := 45) rfl))) (Or.inr (hw _ (List.mem_of_getElem? (i := 25) rfl))) (by decide) (t := .int) (t' := (.object "java/lang/String")) (by decide) (by decide)))).other W22 (Or.inr (slot_ne (Or.inl (hw _ (List.mem_of_getElem? (i := 45) rfl))) (Or.inl (hw _ (List.mem_of_getElem? (i := 27) rfl))) (by decide) (t := .int) (t' := (.array .char)) (by decide) (by decide)))).other W27 (Or.inr (slot_ne (Or.inl (hw _ (List.mem_of_getElem? (i := 45) rfl))) (Or.inr (hw _ (List.mem_of_getElem? (i := 29) rfl))) (by decide) (t := .int) (t' := .int) (by decide) (by decide)))).other W178 (Or.inr (slot_ne (Or.inl (hw _ (List.mem_of_getElem? (i := 45) rfl))) (Or.inr (hw _ (List.mem_of_getElem? (i := 36) rfl))) (by decide) (t := .int) (t' := .boolean) (by decide) (by decide))))
        have lf198 := fa197
        have fa199 : Fld Z h178 a1 "com/example/endcon/endcon/yaml/Cursor" "lineStart" "I" (.int (0 : Int32)) := (((((((F_a1_lineStart.other W2 (Or.inr (slot_ne (Or.inl (hw _ (List.mem_of_getElem? (i := 52) rfl))) (Or.inl (hw _ (List.mem_of_getElem? (i := 19) rfl))) (by decide) (t := .int) (t' := .int) (by decide) (by decide)))).other W7 (Or.inr (slot_ne (Or.inl (hw _ (List.mem_of_getElem? (i := 52) rfl))) (Or.inl (hw _ (List.mem_of_getElem? (i := 21) rfl))) (by decide) (t := .int) (t' := .int) (by decide) (by decide)))).other W12 (Or.inr (slot_ne (Or.inl (hw _ (List.mem_of_getElem? (i := 52) rfl))) (Or.inl (hw _ (List.mem_of_getElem? (i := 23) rfl))) (by decide) (t := .int) (t' := .int) (by decide) (by decide)))).other W17 (Or.inr (slot_ne (Or.inl (hw _ (List.mem_of_getElem? (i := 52) rfl))) (Or.inr (hw _ (List.mem_of_getElem? (i := 25) rfl))) (by decide) (t := .int) (t' := (.object "java/lang/String")) (by decide) (by decide)))).other W22 (Or.inr (slot_ne (Or.inl (hw _ (List.mem_of_getElem? (i := 52) rfl))) (Or.inl (hw _ (List.mem_of_getElem? (i := 27) rfl))) (by decide) (t := .int) (t' := (.array .char)) (by decide) (by decide)))).other W27 (Or.inr (slot_ne (Or.inl (hw _ (List.mem_of_getElem? (i := 52) rfl))) (Or.inr (hw _ (List.mem_of_getElem? (i := 29) rfl))) (by decide) (t := .int) (t' := .int) (by decide) (by decide)))).other W178 (Or.inr (slot_ne (Or.inl (hw _ (List.mem_of_getElem? (i := 52) rfl))) (Or.inr (hw _ (List.mem_of_getElem? (i := 36) rfl))) (by decide) (t := .int) (t' := .boolean) (by decide) (by decide))))
        have lf200 := fa199
        exact ⟨rfl, N178, kp180, fa183, lf185, lf187, lf189, lf191, lf193, lf195, lf196, lf198, lf200⟩
  · have fa201 : Fld Z h27 a1 "com/example/endcon/endcon/yaml/Cursor" "hasSurrogates" "Z" (.int (0 : Int32)) := ((((((F_a1_hasSurrogates.other W2 (Or.inr (slot_ne (Or.inr (hw _ (List.mem_of_getElem? (i := 36) rfl))) (Or.inl (hw _ (List.mem_of_getElem? (i := 19) rfl))) (by decide) (t := .boolean) (t' := .int) (by decide) (by decide)))).other W7 (Or.inr (slot_ne (Or.inr (hw _ (List.mem_of_getElem? (i := 36) rfl))) (Or.inl (hw _ (List.mem_of_getElem? (i := 21) rfl))) (by decide) (t := .boolean) (t' := .int) (by decide) (by decide)))).other W12 (Or.inr (slot_ne (Or.inr (hw _ (List.mem_of_getElem? (i := 36) rfl))) (Or.inl (hw _ (List.mem_of_getElem? (i := 23) rfl))) (by decide) (t := .boolean) (t' := .int) (by decide) (by decide)))).other W17 (Or.inr (slot_ne (Or.inr (hw _ (List.mem_of_getElem? (i := 36) rfl))) (Or.inr (hw _ (List.mem_of_getElem? (i := 25) rfl))) (by decide) (t := .boolean) (t' := (.object "java/lang/String")) (by decide) (by decide)))).other W22 (Or.inr (slot_ne (Or.inr (hw _ (List.mem_of_getElem? (i := 36) rfl))) (Or.inl (hw _ (List.mem_of_getElem? (i := 27) rfl))) (by decide) (t := .boolean) (t' := (.array .char)) (by decide) (by decide)))).other W27 (Or.inr (slot_ne (Or.inr (hw _ (List.mem_of_getElem? (i := 36) rfl))) (Or.inr (hw _ (List.mem_of_getElem? (i := 29) rfl))) (by decide) (t := .boolean) (t' := .int) (by decide) (by decide))))
    have fa202 : Exa Z h27 a1 "com/example/endcon/endcon/yaml/Cursor" := (fa26.wr W27)
    obtain ⟨T203, h203, X203, e203, W203, st203⟩ := putFN X32 hx hZ hown (hw _ (List.mem_of_getElem? (i := 35) rfl)) Via.refl e32 fa201 fa202 (Or.inr ⟨(hw _ (List.mem_of_getElem? (i := 36) rfl)), rfl, hnm⟩) (hw _ (List.mem_of_getElem? (i := 2) rfl)) (ty := .boolean) (v' := (.int (nar .boolean (f3 c0)))) (by decide) rfl (fits_nar_bool _) (g := (mkF m 69 #[.val (.ref a1), .val (.ref a2), .val (.ref a3), .val (.int p4), .val (.int (f3 c0)), .val (.int (1 : Int32))] [(.int (f3 c0)), (.ref a1)])) rfl rfl (hb hby d1_69)
    have Fw203 : Fld Z h203 a1 "com/example/endcon/endcon/yaml/Cursor" "hasSurrogates" "Z" (.int (nar .boolean (f3 c0))) := fa201.same W203
    have zs204 : n0 ≤ h203.size := Nat.le_trans zs28 (Keep.of_wr W203).1
    have kp205 : Keep h0 h203 [a1] := kp29.wr W203 (Or.inl (List.mem_of_getElem? (i := 0) rfl))
    have N203 := Fr.snoc X203 N32 g_a1
    have fa206 : Arv Z h203 a3 k_a3 .char (4 : Int32) [(.int c0), (.int c1), (.int c2), (.int c3)] (.int (0 : Int32)) := (fa30.other W203 (Ne.symm ne_a1_a3))
    obtain ⟨cx207, Ar207, qq207, S207, N207_, H207, G207⟩ := id fa206
    have hin207 : ¬ ((0 : Int32) < 0 ∨ cx207.slots.size ≤ ((0 : Int32)).toNatClampNeg) := inb_of S207 ⟨by decide, by decide⟩
    have hat207 : cx207.slots[((0 : Int32)).toNatClampNeg]? = some (.int c0) := (H207 ((0 : Int32)).toNatClampNeg (Nat.lt_of_not_le fun w => hin207 (Or.inr w))).trans (congrArg some (rfl))
    obtain ⟨fs, hr, hrun, hended, hW, hsame⟩ := X203.leave (v := none) (fun _ => rfl)
    refine ⟨_, _, pre33 _ ?_, hrun, hended, _, _, rfl, ?_, ⟨_, rfl⟩, hW, hsame.mono (by decide) (by decide)⟩
    · show Steps p.tables e below (T32.setTop (mkF m 43 #[.val (.ref a1), .val (.ref a2), .val (.ref a3), .val (.int p4), .val (.int (f3 c0)), .val (.int (1 : Int32))] [(.int p4), (.int (1 : Int32))])) _
      refine XS.icmpYes X32.here hx rfl (pc0 := 43) (pc' := 66) rfl (hb hby d1_43) rfl (flt hc34).2.1 (by decide) (by decide) ?_
      show Steps p.tables e below (T32.setTop (mkF m 66 #[.val (.ref a1), .val (.ref a2), .val (.ref a3), .val (.int p4), .val (.int (f3 c0)), .val (.int (1 : Int32))] [])) _
      refine own_blk X32 hx bl1_66_2 (own_hb hby bd1_66_2) (pc' := 69) (Ls' := #[.val (.ref a1), .val (.ref a2), .val (.ref a3), .val (.int p4), .val (.int (f3 c0)), .val (.int (1 : Int32))]) (st' := [(.int (f3 c0)), (.ref a1)]) rfl ?_
      refine st203 _ ?_
      show Steps p.tables e below (T203.setTop (mkF m 72 #[.val (.ref a1), .val (.ref a2), .val (.ref a3), .val (.int p4), .val (.int (f3 c0)), .val (.int (1 : Int32))] [])) _
      refine own_blk X203 hx bl1_72_1 (own_hb hby bd1_72_1) (pc' := 73) (Ls' := #[.val (.ref a1), .val (.ref a2), .val (.ref a3), .val (.int p4), .val (.int (f3 c0)), .val (.int (1 : Int32))]) (st' := [(.int p4)]) rfl ?_
      refine XS.ifNo X203.here hx rfl (hb hby d1_73) rfl ((if0 _ _).trans (tlt hz).2.2.2) ?_
      show Steps p.tables e below (T203.setTop (mkF m 76 #[.val (.ref a1), .val (.ref a2), .val (.ref a3), .val (.int p4), .val (.int (f3 c0)), .val (.int (1 : Int32))] [])) _
      refine own_blk X203 hx bl1_76_2 (own_hb hby bd1_76_2) (pc' := 78) (Ls' := #[.val (.ref a1), .val (.ref a2), .val (.ref a3), .val (.int p4), .val (.int (f3 c0)), .val (.int (1 : Int32))]) (st' := [(.int (0 : Int32)), (.ref a3)]) rfl ?_
      refine X203.caload hx (j := (0 : Int32)) (v := (.int c0)) (by rw [e203]; exact Ar207.1) (State.isArrayOf_alike hZ.alike Ar207.2.1) Ar207.2.2 hin207 hat207 (g := (mkF m 78 #[.val (.ref a1), .val (.ref a2), .val (.ref a3), .val (.int p4), .val (.int (f3 c0)), .val (.int (1 : Int32))] [(.int (0 : Int32)), (.ref a3)])) rfl rfl (hb hby d1_78) _ ?_
      show Steps p.tables e below (T203.setTop (mkF m 79 #[.val (.ref a1), .val (.ref a2), .val (.ref a3), .val (.int p4), .val (.int (f3 c0)), .val (.int (1 : Int32))] [(.int c0)])) _
      refine X203.ldcInt hx hown (mvT hZ (hw _ (List.mem_of_getElem? (i := 37) rfl))) (g := (mkF m 79 #[.val (.ref a1), .val (.ref a2), .val (.ref a3), .val (.int p4), .val (.int (f3 c0)), .val (.int (1 : Int32))] [(.int c0)])) rfl (hb hby d1_79) _ ?_
      show Steps p.tables e below (T203.setTop (mkF m 81 #[.val (.ref a1), .val (.ref a2), .val (.ref a3), .val (.int p4), .val (.int (f3 c0)), .val (.int (1 : Int32))] [(.int (65279 : Int32)), (.int c0)])) _
      refine XS.icmpYes X203.here hx rfl (pc0 := 81) (pc' := 94) rfl (hb hby d1_81) rfl (feq hbm).2 (by decide) (by decide) ?_
      show Steps p.tables e below (T203.setTop (mkF m 94 #[.val (.ref a1), .val (.ref a2), .val (.ref a3), .val (.int p4), .val (.int (f3 c0)), .val (.int (1 : Int32))] [])) _
      exact X203.returnOut hx Bd.returns (hb hby d1_94) hr
    · show Q1x Z a1 a2 a3 p4 c0 c1 c2 c3 k_a3 h0 n0 _ T203.heap _
      rw [e203]
      have fa208 : Exa Z h203 a1 "com/example/endcon/endcon/yaml/Cursor" := (fa202.wr W203)
      have fa209 : Fld Z h203 a1 "com/example/endcon/endcon/yaml/Cursor" "line" "I" (.int (1 : Int32)) := ((((((Fw2.other W7 (Or.inr (slot_ne (Or.inl (hw _ (List.mem_of_getElem? (i := 19) rfl))) (Or.inl (hw _ (List.mem_of_getElem? (i := 21) rfl))) (by decide) (t := .int) (t' := .int) (by decide) (by decide)))).other W12 (Or.inr (slot_ne (Or.inl (hw _ (List.mem_of_getElem? (i := 19) rfl))) (Or.inl (hw _ (List.mem_of_getElem? (i := 23) rfl))) (by decide) (t := .int) (t' := .int) (by decide) (by decide)))).other W17 (Or.inr (slot_ne (Or.inl (hw _ (List.mem_of_getElem? (i := 19) rfl))) (Or.inr (hw _ (List.mem_of_getElem? (i := 25) rfl))) (by decide) (t := .int) (t' := (.object "java/lang/String")) (by decide) (by decide)))).other W22 (Or.inr (slot_ne (Or.inl (hw _ (List.mem_of_getElem? (i := 19) rfl))) (Or.inl (hw _ (List.mem_of_getElem? (i := 27) rfl))) (by decide) (t := .int) (t' := (.array .char)) (by decide) (by decide)))).other W27 (Or.inr (slot_ne (Or.inl (hw _ (List.mem_of_getElem? (i := 19) rfl))) (Or.inr (hw _ (List.mem_of_getElem? (i := 29) rfl))) (by decide) (t := .int) (t' := .int) (by decide) (by decide)))).other W203 (Or.inr (slot_ne (Or.inl (hw _ (List.mem_of_getElem? (i := 19) rfl))) (Or.inr (hw _ (List.mem_of_getElem? (i := 36) rfl))) (by decide) (t := .int) (t' := .boolean) (by decide) (by decide))))
      have lf210 := fa209
      have fa211 : Fld Z h203 a1 "com/example/endcon/endcon/yaml/Cursor" "blankLinesFrom" "I" (.int (-1 : Int32)) := (((((Fw7.other W12 (Or.inr (slot_ne (Or.inl (hw _ (List.mem_of_getElem? (i := 21) rfl))) (Or.inl (hw _ (List.mem_of_getElem? (i := 23) rfl))) (by decide) (t := .int) (t' := .int) (by decide) (by decide)))).other W17 (Or.inr (slot_ne (Or.inl (hw _ (List.mem_of_getElem? (i := 21) rfl))) (Or.inr (hw _ (List.mem_of_getElem? (i := 25) rfl))) (by decide) (t := .int) (t' := (.object "java/lang/String")) (by decide) (by decide)))).other W22 (Or.inr (slot_ne (Or.inl (hw _ (List.mem_of_getElem? (i := 21) rfl))) (Or.inl (hw _ (List.mem_of_getElem? (i := 27) rfl))) (by decide) (t := .int) (t' := (.array .char)) (by decide) (by decide)))).other W27 (Or.inr (slot_ne (Or.inl (hw _ (List.mem_of_getElem? (i := 21) rfl))) (Or.inr (hw _ (List.mem_of_getElem? (i := 29) rfl))) (by decide) (t := .int) (t' := .int) (by decide) (by decide)))).other W203 (Or.inr (slot_ne (Or.inl (hw _ (List.mem_of_getElem? (i := 21) rfl))) (Or.inr (hw _ (List.mem_of_getElem? (i := 36) rfl))) (by decide) (t := .int) (t' := .boolean) (by decide) (by decide))))
      have lf212 := fa211
      have fa213 : Fld Z h203 a1 "com/example/endcon/endcon/yaml/Cursor" "countedIndex" "I" (.int (-1 : Int32)) := ((((Fw12.other W17 (Or.inr (slot_ne (Or.inl (hw _ (List.mem_of_getElem? (i := 23) rfl))) (Or.inr (hw _ (List.mem_of_getElem? (i := 25) rfl))) (by decide) (t := .int) (t' := (.object "java/lang/String")) (by decide) (by decide)))).other W22 (Or.inr (slot_ne (Or.inl (hw _ (List.mem_of_getElem? (i := 23) rfl))) (Or.inl (hw _ (List.mem_of_getElem? (i := 27) rfl))) (by decide) (t := .int) (t' := (.array .char)) (by decide) (by decide)))).other W27 (Or.inr (slot_ne (Or.inl (hw _ (List.mem_of_getElem? (i := 23) rfl))) (Or.inr (hw _ (List.mem_of_getElem? (i := 29) rfl))) (by decide) (t := .int) (t' := .int) (by decide) (by decide)))).other W203 (Or.inr (slot_ne (Or.inl (hw _ (List.mem_of_getElem? (i := 23) rfl))) (Or.inr (hw _ (List.mem_of_getElem? (i := 36) rfl))) (by decide) (t := .int) (t' := .boolean) (by decide) (by decide))))
      have lf214 := fa213
      have fa215 : Fld Z h203 a1 "com/example/endcon/endcon/yaml/Cursor" "file" "Ljava/lang/String;" (.ref a2) := (((Fw17.other W22 (Or.inr (slot_ne (Or.inr (hw _ (List.mem_of_getElem? (i := 25) rfl))) (Or.inl (hw _ (List.mem_of_getElem? (i := 27) rfl))) (by decide) (t := (.object "java/lang/String")) (t' := (.array .char)) (by decide) (by decide)))).other W27 (Or.inr (slot_ne (Or.inr (hw _ (List.mem_of_getElem? (i := 25) rfl))) (Or.inr (hw _ (List.mem_of_getElem? (i := 29) rfl))) (by decide) (t := (.object "java/lang/String")) (t' := .int) (by decide) (by decide)))).other W203 (Or.inr (slot_ne (Or.inr (hw _ (List.mem_of_getElem? (i := 25) rfl))) (Or.inr (hw _ (List.mem_of_getElem? (i := 36) rfl))) (by decide) (t := (.object "java/lang/String")) (t' := .boolean) (by decide) (by decide))))
      have lf216 := fa215
      have fa217 : Fld Z h203 a1 "com/example/endcon/endcon/yaml/Cursor" "text" "[C" (.ref a3) := ((Fw22.other W27 (Or.inr (slot_ne (Or.inl (hw _ (List.mem_of_getElem? (i := 27) rfl))) (Or.inr (hw _ (List.mem_of_getElem? (i := 29) rfl))) (by decide) (t := (.array .char)) (t' := .int) (by decide) (by decide)))).other W203 (Or.inr (slot_ne (Or.inl (hw _ (List.mem_of_getElem? (i := 27) rfl))) (Or.inr (hw _ (List.mem_of_getElem? (i := 36) rfl))) (by decide) (t := (.array .char)) (t' := .boolean) (by decide) (by decide))))
      have lf218 := fa217
      have fa219 : Fld Z h203 a1 "com/example/endcon/endcon/yaml/Cursor" "end" "I" (.int p4) := (Fw27.other W203 (Or.inr (slot_ne (Or.inr (hw _ (List.mem_of_getElem? (i := 29) rfl))) (Or.inr (hw _ (List.mem_of_getElem? (i := 36) rfl))) (by decide) (t := .int) (t' := .boolean) (by decide) (by decide))))
      have lf220 := fa219
      have lf221 : Fld Z h203 a1 "com/example/endcon/endcon/yaml/Cursor" "hasSurrogates" "Z" (.int (f1x_a1_hasSurrogates p4 c0 c1 c2 c3)) := by rw [f1x_a1_hasSurrogates, if_neg hc34]; exact Fw203
      have fa222 : Fld Z h203 a1 "com/example/endcon/endcon/yaml/Cursor" "pos" "I" (.int (0 : Int32)) := (((((((F_a1_pos.other W2 (Or.inr (slot_ne (Or.inl (hw _ (List.mem_of_getElem? (i := 45) rfl))) (Or.inl (hw _ (List.mem_of_getElem? (i := 19) rfl))) (by decide) (t := .int) (t' := .int) (by decide) (by decide)))).other W7 (Or.inr (slot_ne (Or.inl (hw _ (List.mem_of_getElem? (i := 45) rfl))) (Or.inl (hw _ (List.mem_of_getElem? (i := 21) rfl))) (by decide) (t := .int) (t' := .int) (by decide) (by decide)))).other W12 (Or.inr (slot_ne (Or.inl (hw _ (List.mem_of_getElem? (i := 45) rfl))) (Or.inl (hw _ (List.mem_of_getElem? (i := 23) rfl))) (by decide) (t := .int) (t' := .int) (by decide) (by decide)))).other W17 (Or.inr (slot_ne (Or.inl (hw _ (List.mem_of_getElem? (i := 45) rfl))) (Or.inr (hw _ (List.mem_of_getElem? (i := 25) rfl))) (by decide) (t := .int) (t' := (.object "java/lang/String")) (by decide) (by decide)))).other W22 (Or.inr (slot_ne (Or.inl (hw _ (List.mem_of_getElem? (i := 45) rfl))) (Or.inl (hw _ (List.mem_of_getElem? (i := 27) rfl))) (by decide) (t := .int) (t' := (.array .char)) (by decide) (by decide)))).other W27 (Or.inr (slot_ne (Or.inl (hw _ (List.mem_of_getElem? (i := 45) rfl))) (Or.inr (hw _ (List.mem_of_getElem? (i := 29) rfl))) (by decide) (t := .int) (t' := .int) (by decide) (by decide)))).other W203 (Or.inr (slot_ne (Or.inl (hw _ (List.mem_of_getElem? (i := 45) rfl))) (Or.inr (hw _ (List.mem_of_getElem? (i := 36) rfl))) (by decide) (t := .int) (t' := .boolean) (by decide) (by decide))))
      have lf223 := fa222
      have fa224 : Fld Z h203 a1 "com/example/endcon/endcon/yaml/Cursor" "lineStart" "I" (.int (0 : Int32)) := (((((((F_a1_lineStart.other W2 (Or.inr (slot_ne (Or.inl (hw _ (List.mem_of_getElem? (i := 52) rfl))) (Or.inl (hw _ (List.mem_of_getElem? (i := 19) rfl))) (by decide) (t := .int) (t' := .int) (by decide) (by decide)))).other W7 (Or.inr (slot_ne (Or.inl (hw _ (List.mem_of_getElem? (i := 52) rfl))) (Or.inl (hw _ (List.mem_of_getElem? (i := 21) rfl))) (by decide) (t := .int) (t' := .int) (by decide) (by decide)))).other W12 (Or.inr (slot_ne (Or.inl (hw _ (List.mem_of_getElem? (i := 52) rfl))) (Or.inl (hw _ (List.mem_of_getElem? (i := 23) rfl))) (by decide) (t := .int) (t' := .int) (by decide) (by decide)))).other W17 (Or.inr (slot_ne (Or.inl (hw _ (List.mem_of_getElem? (i := 52) rfl))) (Or.inr (hw _ (List.mem_of_getElem? (i := 25) rfl))) (by decide) (t := .int) (t' := (.object "java/lang/String")) (by decide) (by decide)))).other W22 (Or.inr (slot_ne (Or.inl (hw _ (List.mem_of_getElem? (i := 52) rfl))) (Or.inl (hw _ (List.mem_of_getElem? (i := 27) rfl))) (by decide) (t := .int) (t' := (.array .char)) (by decide) (by decide)))).other W27 (Or.inr (slot_ne (Or.inl (hw _ (List.mem_of_getElem? (i := 52) rfl))) (Or.inr (hw _ (List.mem_of_getElem? (i := 29) rfl))) (by decide) (t := .int) (t' := .int) (by decide) (by decide)))).other W203 (Or.inr (slot_ne (Or.inl (hw _ (List.mem_of_getElem? (i := 52) rfl))) (Or.inr (hw _ (List.mem_of_getElem? (i := 36) rfl))) (by decide) (t := .int) (t' := .boolean) (by decide) (by decide))))
      have lf225 := fa224
      exact ⟨rfl, N203, kp205, fa208, lf210, lf212, lf214, lf216, lf218, lf220, lf221, lf223, lf225⟩
theorem d4_0 : decode prog_114_method_26_code 0 = .ok (.aload_n 0, 1) := by decide +kernel
theorem d4_1 : decode prog_114_method_26_code 1 = .ok (.dup, 1) := by decide +kernel
theorem d4_2 : decode prog_114_method_26_code 2 = .ok (.getfield 41, 3) := by decide +kernel
theorem d4_5 : decode prog_114_method_26_code 5 = .ok (.iload_n 1, 1) := by decide +kernel
theorem d4_6 : decode prog_114_method_26_code 6 = .ok (.iadd, 1) := by decide +kernel
theorem d4_7 : decode prog_114_method_26_code 7 = .ok (.putfield 41, 3) := by decide +kernel
theorem d4_10 : decode prog_114_method_26_code 10 = .ok (.return_, 1) := by decide +kernel
theorem pn_4 : plainName "com/example/endcon/endcon/yaml/Cursor" = true := by first | (simp [plainName, overriddenIn]; done) | decide +kernel
theorem ef_4 (m : MethodId) (x0 : Addr) (x1 : Int32) : entryFrame m #[(.ref x0), (.int x1)] 2 = mkF m 0 #[.val (.ref x0), .val (.int x1)] [] := by first | (simp [entryFrame, mkF, argsToLocals, Value.category]; done) | rfl
def bl4_0_2 : List (Nat × Instr × Nat) := [(0, .aload_n 0, 1), (1, .dup, 1)]
theorem bd4_0_2 : own_dec prog_114_method_26_code bl4_0_2 = true := by decide +kernel
def bl4_5_2 : List (Nat × Instr × Nat) := [(5, .iload_n 1, 1), (6, .iadd, 1)]
theorem bd4_5_2 : own_dec prog_114_method_26_code bl4_5_2 = true := by decide +kernel

def Q4 (Z : State) (a1 : Addr) (p2 : Int32) (t1 : Addr) (v_end : Int32) (v_pos : Int32) (v_line : Int32) (v_ls : Int32) (h0 : Heap) (n0 : Nat) (v : Option Value) (h : Heap) (L : List Loc) : Prop := v = none ∧ Fr n0 L ∧ Keep h0 h [a1] ∧ Exa Z h a1 "com/example/endcon/endcon/yaml/Cursor" ∧ Fld Z h a1 "com/example/endcon/endcon/yaml/Cursor" "text" "[C" (.ref t1) ∧ Fld Z h a1 "com/example/endcon/endcon/yaml/Cursor" "end" "I" (.int v_end) ∧ Fld Z h a1 "com/example/endcon/endcon/yaml/Cursor" "pos" "I" (.int (v_pos + p2)) ∧ Fld Z h a1 "com/example/endcon/endcon/yaml/Cursor" "line" "I" (.int v_line) ∧ Fld Z h a1 "com/example/endcon/endcon/yaml/Cursor" "lineStart" "I" (.int v_ls)
set_option maxRecDepth 65536 in
set_option maxHeartbeats 40000000 in
theorem rm4 (l : Launch) (Z : State) (a0 : Array Value) (hw : ∀ d ∈ tables_1, d.before a0 Z = true) (ws : List Jvm.Cond) (a1 : Addr) (p2 : Int32) (t1 : Addr) (v_end : Int32) (v_pos : Int32) (v_line : Int32) (v_ls : Int32) (h0 : Heap) (n0 : Nat) (Z0 : n0 ≤ h0.size) (E_a1 : Exa Z h0 a1 "com/example/endcon/endcon/yaml/Cursor") (F_a1_text : Fld Z h0 a1 "com/example/endcon/endcon/yaml/Cursor" "text" "[C" (.ref t1)) (F_a1_end : Fld Z h0 a1 "com/example/endcon/endcon/yaml/Cursor" "end" "I" (.int v_end)) (F_a1_pos : Fld Z h0 a1 "com/example/endcon/endcon/yaml/Cursor" "pos" "I" (.int v_pos)) (F_a1_line : Fld Z h0 a1 "com/example/endcon/endcon/yaml/Cursor" "line" "I" (.int v_line)) (F_a1_lineStart : Fld Z h0 a1 "com/example/endcon/endcon/yaml/Cursor" "lineStart" "I" (.int v_ls)) (g_a1 : n0 ≤ a1) :
    MetFree l (⟨"com/example/endcon/endcon/yaml/Cursor", "advance", "(I)V"⟩ : MethodName) (head1 (Jvm.Cond.code (⟨"com/example/endcon/endcon/yaml/Cursor", "advance", "(I)V"⟩ : MethodName) prog_114_method_26_code 2 none :: ws) ({ frames := 0, cells := 0, slots := 0, locals := 0 } : Room)) (fun a U => a = #[(.ref a1), (.int p2)] ∧ Z.Warmed39 U.vm ∧ U.heap = h0) (fun _ _ _ _ _ => True) (fun _ U o U' => ∃ v L, o = .returned v ∧ Q4 Z a1 p2 t1 v_end v_pos v_line v_ls h0 n0 v U'.heap L ∧ FrameEnd U o U' L ({ frames := 0, cells := 0, slots := 0, locals := 0 } : Room).cells ({ frames := 0, cells := 0, slots := 0, locals := 0 } : Room).slots) := by
  refine MetFree.of_bodySF (plainFor_of_name pn_4) hisR ?_
  intro p e s m args below meth c s₁ Bd hml0 hP hK
  obtain ⟨rfl, hZ, hh⟩ := hP
  have hx := Bd.exec
  have hby := Bd.bytes
  have hml : c.maxLocals = 2 := hml0
  have hown : s.vm.findClass "com/example/endcon/endcon/yaml/Cursor" = some m.cls := findClass_of_methodNamed Bd.named
  have hnm := (name_of_methodNamed Bd.named Bd.method).1
  have X0 : Stand p l e ({ frames := 0, cells := 0, slots := 0, locals := 0 } : Room) s m #[(.ref a1), (.int p2)] below meth c s₁ [] 0 0 := Stand.of_body Bd
  have e0 : s₁.heap = h0 := by rw [← hh, Bd.state]; rfl
  have N0 := Fr.nil n0
  have pre0 : ∀ t, Steps p.tables e below (s₁.setTop (mkF m 0 #[.val (.ref a1), .val (.int p2)] [])) t → Steps p.tables e below (s₁.setTop (entryFrame m #[(.ref a1), (.int p2)] 2)) t := fun t k => castTop (ef_4 m a1 p2) k
  obtain ⟨T1, X1, e1, st1⟩ := getF X0 hx hZ hown (host := "") (Or.inl (hw _ (List.mem_of_getElem? (i := 44) rfl))) Via.refl e0 F_a1_pos (g := (mkF m 2 #[.val (.ref a1), .val (.int p2)] [(.ref a1), (.ref a1)])) rfl rfl (hb hby d4_2)
  obtain ⟨T2, h2, X2, e2, W2, st2⟩ := putF X1 hx hZ hown (host := "") (Or.inl (hw _ (List.mem_of_getElem? (i := 44) rfl))) Via.refl e1 F_a1_pos E_a1 (Or.inl (hw _ (List.mem_of_getElem? (i := 45) rfl))) (hw _ (List.mem_of_getElem? (i := 2) rfl)) (ty := .int) (by decide) rfl rfl (g := (mkF m 7 #[.val (.ref a1), .val (.int p2)] [(.int (v_pos + p2)), (.ref a1)])) rfl rfl (hb hby d4_7)
  have Fw2 : Fld Z h2 a1 "com/example/endcon/endcon/yaml/Cursor" "pos" "I" (.int (v_pos + p2)) := F_a1_pos.same W2
  have zs3 : n0 ≤ h2.size := Nat.le_trans Z0 (Keep.of_wr W2).1
  have kp4 : Keep h0 h2 [a1] := (Keep.refl h0 [a1]).wr W2 (Or.inl (List.mem_of_getElem? (i := 0) rfl))
  have N2 := Fr.snoc X2 N0 g_a1
  obtain ⟨fs, hr, hrun, hended, hW, hsame⟩ := X2.leave (v := none) (fun _ => rfl)
  refine ⟨_, _, pre0 _ ?_, hrun, hended, _, _, rfl, ?_, ⟨_, rfl⟩, hW, hsame.mono (by decide) (by decide)⟩
  · show Steps p.tables e below (s₁.setTop (mkF m 0 #[.val (.ref a1), .val (.int p2)] [])) _
    refine own_blk X0 hx bl4_0_2 (own_hb hby bd4_0_2) (pc' := 2) (Ls' := #[.val (.ref a1), .val (.int p2)]) (st' := [(.ref a1), (.ref a1)]) rfl ?_
    refine st1 _ ?_
    show Steps p.tables e below (T1.setTop (mkF m 5 #[.val (.ref a1), .val (.int p2)] [(.int v_pos), (.ref a1)])) _
    refine own_blk X1 hx bl4_5_2 (own_hb hby bd4_5_2) (pc' := 7) (Ls' := #[.val (.ref a1), .val (.int p2)]) (st' := [(.int (v_pos + p2)), (.ref a1)]) rfl ?_
    refine st2 _ ?_
    show Steps p.tables e below (T2.setTop (mkF m 10 #[.val (.ref a1), .val (.int p2)] [])) _
    exact X2.returnOut hx Bd.returns (hb hby d4_10) hr
  · show Q4 Z a1 p2 t1 v_end v_pos v_line v_ls h0 n0 _ T2.heap _
    rw [e2]
    have fa5 : Exa Z h2 a1 "com/example/endcon/endcon/yaml/Cursor" := (E_a1.wr W2)
    have fa6 : Fld Z h2 a1 "com/example/endcon/endcon/yaml/Cursor" "text" "[C" (.ref t1) := (F_a1_text.other W2 (Or.inr (slot_ne (Or.inl (hw _ (List.mem_of_getElem? (i := 27) rfl))) (Or.inl (hw _ (List.mem_of_getElem? (i := 45) rfl))) (by decide) (t := (.array .char)) (t' := .int) (by decide) (by decide))))
    have lf7 := fa6
    have fa8 : Fld Z h2 a1 "com/example/endcon/endcon/yaml/Cursor" "end" "I" (.int v_end) := (F_a1_end.other W2 (Or.inr (slot_ne (Or.inr (hw _ (List.mem_of_getElem? (i := 29) rfl))) (Or.inl (hw _ (List.mem_of_getElem? (i := 45) rfl))) (by decide) (t := .int) (t' := .int) (by decide) (by decide))))
    have lf9 := fa8
    have lf10 := Fw2
    have fa11 : Fld Z h2 a1 "com/example/endcon/endcon/yaml/Cursor" "line" "I" (.int v_line) := (F_a1_line.other W2 (Or.inr (slot_ne (Or.inl (hw _ (List.mem_of_getElem? (i := 19) rfl))) (Or.inl (hw _ (List.mem_of_getElem? (i := 45) rfl))) (by decide) (t := .int) (t' := .int) (by decide) (by decide))))
    have lf12 := fa11
    have fa13 : Fld Z h2 a1 "com/example/endcon/endcon/yaml/Cursor" "lineStart" "I" (.int v_ls) := (F_a1_lineStart.other W2 (Or.inr (slot_ne (Or.inl (hw _ (List.mem_of_getElem? (i := 52) rfl))) (Or.inl (hw _ (List.mem_of_getElem? (i := 45) rfl))) (by decide) (t := .int) (t' := .int) (by decide) (by decide))))
    have lf14 := fa13
    exact ⟨rfl, N2, kp4, fa5, lf7, lf9, lf10, lf12, lf14⟩
def own_at4 (a b c d j : Int32) : Int32 := if j = 0 then a else if j = 1 then b else if j = 2 then c else d
theorem own_j4 {j : Int32} (h0 : ¬ j < 0) (h1 : j < 4) : j = 0 ∨ j = 1 ∨ j = 2 ∨ j = 3 := by
  have l4 : (4 : Int32).toInt = 4 := by decide
  have h2 : j.toInt < (4 : Nat) := by rw [Int32.lt_iff_toInt_lt, l4] at h1; exact h1
  exact own_small (n := 4) (fun j => j = 0 ∨ j = 1 ∨ j = 2 ∨ j = 3) (by decide +kernel) h0 h2
theorem own_at4_ok (a b c d : Int32) {j : Int32} (h0 : ¬ j < 0) (h1 : j < 4) : [Value.int a, .int b, .int c, .int d].getD j.toNatClampNeg (.int (0 : Int32)) = .int (own_at4 a b c d j) := by
  rcases own_j4 h0 h1 with rfl | rfl | rfl | rfl <;> rfl
theorem own_lt4 {j n : Int32} (h : j < n) (hn : ¬ ((4 : Int32) < n)) : j < 4 := by
  have l4 : (4 : Int32).toInt = 4 := by decide
  simp only [Int32.lt_iff_toInt_lt, Int32.le_iff_toInt_le, ← Int32.toInt_inj, l4] at *; omega
theorem own_at_nn {x : Int32} (h : x = (10 : Int32)) : ¬ (x = (13 : Int32)) := by subst h; decide
theorem own_add0 {j d : Int32} (j0 : ¬ j < 0) (j2 : j < 3) (d0 : ¬ d < 0) (d5 : d < 5) : ¬ (j + d) < 0 := by
  have l0 : (0 : Int32).toInt = 0 := by decide
  have l3 : (3 : Int32).toInt = 3 := by decide
  have l5 : (5 : Int32).toInt = 5 := by decide
  have a := c_iadd j d
  have r := rng32 (j + d)
  simp only [Int32.lt_iff_toInt_lt, Int32.le_iff_toInt_le, ← Int32.toInt_inj, l0, l3, l5] at *; omega
theorem own_addz {j d : Int32} (h : d = 0) : j + d = j := by subst h; exact Int32.add_zero j
theorem own_addn {j d : Int32} (h : ¬ d = 0) : ¬ (j + d = j) := by
  have l0 : (0 : Int32).toInt = 0 := by decide
  have a := c_iadd j d
  have r := rng32 (j + d)
  have r2 := rng32 j
  have r3 := rng32 d
  simp only [Int32.lt_iff_toInt_lt, Int32.le_iff_toInt_le, ← Int32.toInt_inj, l0] at *; omega
theorem own_suc {j : Int32} (j0 : ¬ j < 0) (j2 : j < 2) : ¬ (j + 1) < 0 ∧ (j + 1) < 3 ∧ (j + 1) < 4 ∧ j < 4 ∧ j < 3 := by
  have l0 : (0 : Int32).toInt = 0 := by decide
  have l1 : (1 : Int32).toInt = 1 := by decide
  have l2 : (2 : Int32).toInt = 2 := by decide
  have l3 : (3 : Int32).toInt = 3 := by decide
  have l4 : (4 : Int32).toInt = 4 := by decide
  have a := c_iadd j 1
  have r := rng32 (j + 1)
  simp only [Int32.lt_iff_toInt_lt, Int32.le_iff_toInt_le, ← Int32.toInt_inj, l0, l1, l2, l3, l4] at *; omega
theorem own_nr (x : Int32) : ¬ ((x &&& (7 : Int32)) % (5 : Int32)) < 0 ∧ ((x &&& (7 : Int32)) % (5 : Int32)) < 5 ∧ ¬ ((4 : Int32) < ((x &&& (7 : Int32)) % (5 : Int32))) := by
  have h := c_mask x 7 3 (by decide) (by decide)
  have l0 : (0 : Int32).toInt = 0 := by decide
  have l4 : (4 : Int32).toInt = 4 := by decide
  have l5 : (5 : Int32).toInt = 5 := by decide
  have q := (c_iremV (x &&& 7) 5).1 (by rw [h]; omega) (by rw [l5]; omega)
  rw [l5] at q
  generalize (x &&& (7 : Int32)) % (5 : Int32) = k at *
  simp only [Int32.lt_iff_toInt_lt, l0, l4, l5] at *; omega
theorem d6_0 : decode prog_114_method_28_code 0 = .ok (.aload_n 0, 1) := by decide +kernel
theorem d6_1 : decode prog_114_method_28_code 1 = .ok (.getfield 23, 3) := by decide +kernel
theorem d6_4 : decode prog_114_method_28_code 4 = .ok (.aload_n 0, 1) := by decide +kernel
theorem d6_5 : decode prog_114_method_28_code 5 = .ok (.getfield 41, 3) := by decide +kernel
theorem d6_8 : decode prog_114_method_28_code 8 = .ok (.caload, 1) := by decide +kernel
theorem d6_9 : decode prog_114_method_28_code 9 = .ok (.bipush 13, 2) := by decide +kernel
theorem d6_11 : decode prog_114_method_28_code 11 = .ok (.if_icmp .ne 20, 3) := by decide +kernel
theorem d6_14 : decode prog_114_method_28_code 14 = .ok (.aload_n 0, 1) := by decide +kernel
theorem d6_15 : decode prog_114_method_28_code 15 = .ok (.getfield 41, 3) := by decide +kernel
theorem d6_18 : decode prog_114_method_28_code 18 = .ok (.iconst 1, 1) := by decide +kernel
theorem d6_19 : decode prog_114_method_28_code 19 = .ok (.iadd, 1) := by decide +kernel
theorem d6_20 : decode prog_114_method_28_code 20 = .ok (.aload_n 0, 1) := by decide +kernel
theorem d6_21 : decode prog_114_method_28_code 21 = .ok (.getfield 27, 3) := by decide +kernel
theorem d6_24 : decode prog_114_method_28_code 24 = .ok (.if_icmp .ne 7, 3) := by decide +kernel
theorem d6_27 : decode prog_114_method_28_code 27 = .ok (.iconst 1, 1) := by decide +kernel
theorem d6_28 : decode prog_114_method_28_code 28 = .ok (.goto 4, 3) := by decide +kernel
theorem d6_31 : decode prog_114_method_28_code 31 = .ok (.iconst 0, 1) := by decide +kernel
theorem d6_32 : decode prog_114_method_28_code 32 = .ok (.istore_n 1, 1) := by decide +kernel
theorem d6_33 : decode prog_114_method_28_code 33 = .ok (.aload_n 0, 1) := by decide +kernel
theorem d6_34 : decode prog_114_method_28_code 34 = .ok (.dup, 1) := by decide +kernel
theorem d6_35 : decode prog_114_method_28_code 35 = .ok (.getfield 41, 3) := by decide +kernel
theorem d6_38 : decode prog_114_method_28_code 38 = .ok (.aload_n 0, 1) := by decide +kernel
theorem d6_39 : decode prog_114_method_28_code 39 = .ok (.getfield 23, 3) := by decide +kernel
theorem d6_42 : decode prog_114_method_28_code 42 = .ok (.aload_n 0, 1) := by decide +kernel
theorem d6_43 : decode prog_114_method_28_code 43 = .ok (.getfield 41, 3) := by decide +kernel
theorem d6_46 : decode prog_114_method_28_code 46 = .ok (.caload, 1) := by decide +kernel
theorem d6_47 : decode prog_114_method_28_code 47 = .ok (.bipush 13, 2) := by decide +kernel
theorem d6_49 : decode prog_114_method_28_code 49 = .ok (.if_icmp .ne 36, 3) := by decide +kernel
theorem d6_52 : decode prog_114_method_28_code 52 = .ok (.aload_n 0, 1) := by decide +kernel
theorem d6_53 : decode prog_114_method_28_code 53 = .ok (.getfield 41, 3) := by decide +kernel
theorem d6_56 : decode prog_114_method_28_code 56 = .ok (.iconst 1, 1) := by decide +kernel
theorem d6_57 : decode prog_114_method_28_code 57 = .ok (.iadd, 1) := by decide +kernel
theorem d6_58 : decode prog_114_method_28_code 58 = .ok (.aload_n 0, 1) := by decide +kernel
theorem d6_59 : decode prog_114_method_28_code 59 = .ok (.getfield 27, 3) := by decide +kernel
theorem d6_62 : decode prog_114_method_28_code 62 = .ok (.if_icmp .ge 23, 3) := by decide +kernel
theorem d6_65 : decode prog_114_method_28_code 65 = .ok (.aload_n 0, 1) := by decide +kernel
theorem d6_66 : decode prog_114_method_28_code 66 = .ok (.getfield 23, 3) := by decide +kernel
theorem d6_69 : decode prog_114_method_28_code 69 = .ok (.aload_n 0, 1) := by decide +kernel
theorem d6_70 : decode prog_114_method_28_code 70 = .ok (.getfield 41, 3) := by decide +kernel
theorem d6_73 : decode prog_114_method_28_code 73 = .ok (.iconst 1, 1) := by decide +kernel
theorem d6_74 : decode prog_114_method_28_code 74 = .ok (.iadd, 1) := by decide +kernel
theorem d6_75 : decode prog_114_method_28_code 75 = .ok (.caload, 1) := by decide +kernel
theorem d6_76 : decode prog_114_method_28_code 76 = .ok (.bipush 10, 2) := by decide +kernel
theorem d6_78 : decode prog_114_method_28_code 78 = .ok (.if_icmp .ne 7, 3) := by decide +kernel
theorem d6_81 : decode prog_114_method_28_code 81 = .ok (.iconst 2, 1) := by decide +kernel
theorem d6_82 : decode prog_114_method_28_code 82 = .ok (.goto 4, 3) := by decide +kernel
theorem d6_85 : decode prog_114_method_28_code 85 = .ok (.iconst 1, 1) := by decide +kernel
theorem d6_86 : decode prog_114_method_28_code 86 = .ok (.iadd, 1) := by decide +kernel
theorem d6_87 : decode prog_114_method_28_code 87 = .ok (.putfield 41, 3) := by decide +kernel
theorem d6_90 : decode prog_114_method_28_code 90 = .ok (.iload_n 1, 1) := by decide +kernel
theorem d6_91 : decode prog_114_method_28_code 91 = .ok (.ifCond .ne 21, 3) := by decide +kernel
theorem d6_94 : decode prog_114_method_28_code 94 = .ok (.aload_n 0, 1) := by decide +kernel
theorem d6_95 : decode prog_114_method_28_code 95 = .ok (.dup, 1) := by decide +kernel
theorem d6_96 : decode prog_114_method_28_code 96 = .ok (.getfield 7, 3) := by decide +kernel
theorem d6_99 : decode prog_114_method_28_code 99 = .ok (.iconst 1, 1) := by decide +kernel
theorem d6_100 : decode prog_114_method_28_code 100 = .ok (.iadd, 1) := by decide +kernel
theorem d6_101 : decode prog_114_method_28_code 101 = .ok (.putfield 7, 3) := by decide +kernel
theorem d6_104 : decode prog_114_method_28_code 104 = .ok (.aload_n 0, 1) := by decide +kernel
theorem d6_105 : decode prog_114_method_28_code 105 = .ok (.aload_n 0, 1) := by decide +kernel
theorem d6_106 : decode prog_114_method_28_code 106 = .ok (.getfield 41, 3) := by decide +kernel
theorem d6_109 : decode prog_114_method_28_code 109 = .ok (.putfield 44, 3) := by decide +kernel
theorem d6_112 : decode prog_114_method_28_code 112 = .ok (.return_, 1) := by decide +kernel
theorem pn_6 : plainName "com/example/endcon/endcon/yaml/Cursor" = true := by first | (simp [plainName, overriddenIn]; done) | decide +kernel
theorem ef_6 (m : MethodId) (x0 : Addr) : entryFrame m #[(.ref x0)] 2 = mkF m 0 #[.val (.ref x0), .unset] [] := by first | (simp [entryFrame, mkF, argsToLocals, Value.category]; done) | rfl
def bl6_0_1 : List (Nat × Instr × Nat) := [(0, .aload_n 0, 1)]
theorem bd6_0_1 : own_dec prog_114_method_28_code bl6_0_1 = true := by decide +kernel
def bl6_4_1 : List (Nat × Instr × Nat) := [(4, .aload_n 0, 1)]
theorem bd6_4_1 : own_dec prog_114_method_28_code bl6_4_1 = true := by decide +kernel
def bl6_9_1 : List (Nat × Instr × Nat) := [(9, .bipush 13, 2)]
theorem bd6_9_1 : own_dec prog_114_method_28_code bl6_9_1 = true := by decide +kernel
def bl6_14_1 : List (Nat × Instr × Nat) := [(14, .aload_n 0, 1)]
theorem bd6_14_1 : own_dec prog_114_method_28_code bl6_14_1 = true := by decide +kernel
def bl6_18_3 : List (Nat × Instr × Nat) := [(18, .iconst 1, 1), (19, .iadd, 1), (20, .aload_n 0, 1)]
theorem bd6_18_3 : own_dec prog_114_method_28_code bl6_18_3 = true := by decide +kernel
def bl6_27_3 : List (Nat × Instr × Nat) := [(27, .iconst 1, 1), (28, .goto 4, 3), (32, .istore_n 1, 1)]
theorem bd6_27_3 : own_dec prog_114_method_28_code bl6_27_3 = true := by decide +kernel
def bl6_33_2 : List (Nat × Instr × Nat) := [(33, .aload_n 0, 1), (34, .dup, 1)]
theorem bd6_33_2 : own_dec prog_114_method_28_code bl6_33_2 = true := by decide +kernel
def bl6_38_1 : List (Nat × Instr × Nat) := [(38, .aload_n 0, 1)]
theorem bd6_38_1 : own_dec prog_114_method_28_code bl6_38_1 = true := by decide +kernel
def bl6_42_1 : List (Nat × Instr × Nat) := [(42, .aload_n 0, 1)]
theorem bd6_42_1 : own_dec prog_114_method_28_code bl6_42_1 = true := by decide +kernel
def bl6_47_1 : List (Nat × Instr × Nat) := [(47, .bipush 13, 2)]
theorem bd6_47_1 : own_dec prog_114_method_28_code bl6_47_1 = true := by decide +kernel
def bl6_52_1 : List (Nat × Instr × Nat) := [(52, .aload_n 0, 1)]
theorem bd6_52_1 : own_dec prog_114_method_28_code bl6_52_1 = true := by decide +kernel
def bl6_56_3 : List (Nat × Instr × Nat) := [(56, .iconst 1, 1), (57, .iadd, 1), (58, .aload_n 0, 1)]
theorem bd6_56_3 : own_dec prog_114_method_28_code bl6_56_3 = true := by decide +kernel
def bl6_65_1 : List (Nat × Instr × Nat) := [(65, .aload_n 0, 1)]
theorem bd6_65_1 : own_dec prog_114_method_28_code bl6_65_1 = true := by decide +kernel
def bl6_69_1 : List (Nat × Instr × Nat) := [(69, .aload_n 0, 1)]
theorem bd6_69_1 : own_dec prog_114_method_28_code bl6_69_1 = true := by decide +kernel
def bl6_73_2 : List (Nat × Instr × Nat) := [(73, .iconst 1, 1), (74, .iadd, 1)]
theorem bd6_73_2 : own_dec prog_114_method_28_code bl6_73_2 = true := by decide +kernel
def bl6_76_1 : List (Nat × Instr × Nat) := [(76, .bipush 10, 2)]
theorem bd6_76_1 : own_dec prog_114_method_28_code bl6_76_1 = true := by decide +kernel
def bl6_81_3 : List (Nat × Instr × Nat) := [(81, .iconst 2, 1), (82, .goto 4, 3), (86, .iadd, 1)]
theorem bd6_81_3 : own_dec prog_114_method_28_code bl6_81_3 = true := by decide +kernel
def bl6_90_1 : List (Nat × Instr × Nat) := [(90, .iload_n 1, 1)]
theorem bd6_90_1 : own_dec prog_114_method_28_code bl6_90_1 = true := by decide +kernel
def bl6_85_2 : List (Nat × Instr × Nat) := [(85, .iconst 1, 1), (86, .iadd, 1)]
theorem bd6_85_2 : own_dec prog_114_method_28_code bl6_85_2 = true := by decide +kernel
def bl6_31_2 : List (Nat × Instr × Nat) := [(31, .iconst 0, 1), (32, .istore_n 1, 1)]
theorem bd6_31_2 : own_dec prog_114_method_28_code bl6_31_2 = true := by decide +kernel
def bl6_94_2 : List (Nat × Instr × Nat) := [(94, .aload_n 0, 1), (95, .dup, 1)]
theorem bd6_94_2 : own_dec prog_114_method_28_code bl6_94_2 = true := by decide +kernel
def bl6_99_2 : List (Nat × Instr × Nat) := [(99, .iconst 1, 1), (100, .iadd, 1)]
theorem bd6_99_2 : own_dec prog_114_method_28_code bl6_99_2 = true := by decide +kernel
def bl6_104_2 : List (Nat × Instr × Nat) := [(104, .aload_n 0, 1), (105, .aload_n 0, 1)]
theorem bd6_104_2 : own_dec prog_114_method_28_code bl6_104_2 = true := by decide +kernel

def f6_a1_pos (c0 : Int32) (c1 : Int32) (c2 : Int32) (c3 : Int32) (v_end : Int32) (v_pos : Int32) (v_line : Int32) (v_ls : Int32) : Int32 := (if (own_at4 c0 c1 c2 c3 v_pos) = (13 : Int32) then (if (v_pos + (1 : Int32)) = v_end then (if (v_pos + (1 : Int32)) < v_end then (if (own_at4 c0 c1 c2 c3 (v_pos + (1 : Int32))) = (10 : Int32) then (v_pos + (2 : Int32)) else (v_pos + (1 : Int32))) else (v_pos + (1 : Int32))) else (if (v_pos + (1 : Int32)) < v_end then (if (own_at4 c0 c1 c2 c3 (v_pos + (1 : Int32))) = (10 : Int32) then (v_pos + (2 : Int32)) else (v_pos + (1 : Int32))) else (v_pos + (1 : Int32)))) else (v_pos + (1 : Int32)))
def f6_a1_line (c0 : Int32) (c1 : Int32) (c2 : Int32) (c3 : Int32) (v_end : Int32) (v_pos : Int32) (v_line : Int32) (v_ls : Int32) : Int32 := (if (own_at4 c0 c1 c2 c3 v_pos) = (13 : Int32) then (if (v_pos + (1 : Int32)) = v_end then (if (v_pos + (1 : Int32)) < v_end then (if (own_at4 c0 c1 c2 c3 (v_pos + (1 : Int32))) = (10 : Int32) then v_line else v_line) else v_line) else (if (v_pos + (1 : Int32)) < v_end then (if (own_at4 c0 c1 c2 c3 (v_pos + (1 : Int32))) = (10 : Int32) then (v_line + (1 : Int32)) else (v_line + (1 : Int32))) else (v_line + (1 : Int32)))) else (v_line + (1 : Int32)))
def f6_a1_lineStart (c0 : Int32) (c1 : Int32) (c2 : Int32) (c3 : Int32) (v_end : Int32) (v_pos : Int32) (v_line : Int32) (v_ls : Int32) : Int32 := (if (own_at4 c0 c1 c2 c3 v_pos) = (13 : Int32) then (if (v_pos + (1 : Int32)) = v_end then (if (v_pos + (1 : Int32)) < v_end then (if (own_at4 c0 c1 c2 c3 (v_pos + (1 : Int32))) = (10 : Int32) then v_ls else v_ls) else v_ls) else (if (v_pos + (1 : Int32)) < v_end then (if (own_at4 c0 c1 c2 c3 (v_pos + (1 : Int32))) = (10 : Int32) then (v_pos + (2 : Int32)) else (v_pos + (1 : Int32))) else (v_pos + (1 : Int32)))) else (v_pos + (1 : Int32)))
def Q6 (Z : State) (a1 : Addr) (t1 : Addr) (c0 : Int32) (c1 : Int32) (c2 : Int32) (c3 : Int32) (v_end : Int32) (v_pos : Int32) (v_line : Int32) (v_ls : Int32) (k_t1 : ClassId) (h0 : Heap) (n0 : Nat) (v : Option Value) (h : Heap) (L : List Loc) : Prop := v = none ∧ Fr n0 L ∧ Keep h0 h [a1] ∧ Exa Z h a1 "com/example/endcon/endcon/yaml/Cursor" ∧ Fld Z h a1 "com/example/endcon/endcon/yaml/Cursor" "text" "[C" (.ref t1) ∧ Fld Z h a1 "com/example/endcon/endcon/yaml/Cursor" "end" "I" (.int v_end) ∧ Fld Z h a1 "com/example/endcon/endcon/yaml/Cursor" "pos" "I" (.int (f6_a1_pos c0 c1 c2 c3 v_end v_pos v_line v_ls)) ∧ Fld Z h a1 "com/example/endcon/endcon/yaml/Cursor" "line" "I" (.int (f6_a1_line c0 c1 c2 c3 v_end v_pos v_line v_ls)) ∧ Fld Z h a1 "com/example/endcon/endcon/yaml/Cursor" "lineStart" "I" (.int (f6_a1_lineStart c0 c1 c2 c3 v_end v_pos v_line v_ls))
set_option maxRecDepth 65536 in
set_option maxHeartbeats 40000000 in
theorem rm6 (l : Launch) (Z : State) (a0 : Array Value) (hw : ∀ d ∈ tables_1, d.before a0 Z = true) (ws : List Jvm.Cond) (a1 : Addr) (t1 : Addr) (c0 : Int32) (c1 : Int32) (c2 : Int32) (c3 : Int32) (v_end : Int32) (v_pos : Int32) (v_line : Int32) (v_ls : Int32) (k_t1 : ClassId) (h0 : Heap) (n0 : Nat) (Z0 : n0 ≤ h0.size) (E_a1 : Exa Z h0 a1 "com/example/endcon/endcon/yaml/Cursor") (F_a1_text : Fld Z h0 a1 "com/example/endcon/endcon/yaml/Cursor" "text" "[C" (.ref t1)) (F_a1_end : Fld Z h0 a1 "com/example/endcon/endcon/yaml/Cursor" "end" "I" (.int v_end)) (F_a1_pos : Fld Z h0 a1 "com/example/endcon/endcon/yaml/Cursor" "pos" "I" (.int v_pos)) (F_a1_line : Fld Z h0 a1 "com/example/endcon/endcon/yaml/Cursor" "line" "I" (.int v_line)) (F_a1_lineStart : Fld Z h0 a1 "com/example/endcon/endcon/yaml/Cursor" "lineStart" "I" (.int v_ls)) (g_a1 : n0 ≤ a1) (V_t1 : Arv Z h0 t1 k_t1 .char (4 : Int32) [(.int c0), (.int c1), (.int c2), (.int c3)] (.int (0 : Int32))) (ne_t1_a1 : t1 ≠ a1) (hp0 : ¬ (v_pos < 0)) (hp4 : v_pos < 4) (hq : (v_pos + (1 : Int32)) < v_end → ¬ ((v_pos + (1 : Int32)) < 0) ∧ (v_pos + (1 : Int32)) < 4) :
    MetFree l (⟨"com/example/endcon/endcon/yaml/Cursor", "newLine", "()V"⟩ : MethodName) (head1 (Jvm.Cond.code (⟨"com/example/endcon/endcon/yaml/Cursor", "newLine", "()V"⟩ : MethodName) prog_114_method_28_code 2 none :: ws) ({ frames := 0, cells := 0, slots := 0, locals := 0 } : Room)) (fun a U => a = #[(.ref a1)] ∧ Z.Warmed39 U.vm ∧ U.heap = h0) (fun _ _ _ _ _ => True) (fun _ U o U' => ∃ v L, o = .returned v ∧ Q6 Z a1 t1 c0 c1 c2 c3 v_end v_pos v_line v_ls k_t1 h0 n0 v U'.heap L ∧ FrameEnd U o U' L ({ frames := 0, cells := 0, slots := 0, locals := 0 } : Room).cells ({ frames := 0, cells := 0, slots := 0, locals := 0 } : Room).slots) := by
  refine MetFree.of_bodySF (plainFor_of_name pn_6) hisR ?_
  intro p e s m args below meth c s₁ Bd hml0 hP hK
  obtain ⟨rfl, hZ, hh⟩ := hP
  have hx := Bd.exec
  have hby := Bd.bytes
  have hml : c.maxLocals = 2 := hml0
  have hown : s.vm.findClass "com/example/endcon/endcon/yaml/Cursor" = some m.cls := findClass_of_methodNamed Bd.named
  have hnm := (name_of_methodNamed Bd.named Bd.method).1
  have X0 : Stand p l e ({ frames := 0, cells := 0, slots := 0, locals := 0 } : Room) s m #[(.ref a1)] below meth c s₁ [] 0 0 := Stand.of_body Bd
  have e0 : s₁.heap = h0 := by rw [← hh, Bd.state]; rfl
  have N0 := Fr.nil n0
  have pre0 : ∀ t, Steps p.tables e below (s₁.setTop (mkF m 0 #[.val (.ref a1), .unset] [])) t → Steps p.tables e below (s₁.setTop (entryFrame m #[(.ref a1)] 2)) t := fun t k => castTop (ef_6 m a1) k
  obtain ⟨T1, X1, e1, st1⟩ := getF X0 hx hZ hown (host := "") (Or.inl (hw _ (List.mem_of_getElem? (i := 26) rfl))) Via.refl e0 F_a1_text (g := (mkF m 1 #[.val (.ref a1), .unset] [(.ref a1)])) rfl rfl (hb hby d6_1)
  obtain ⟨T2, X2, e2, st2⟩ := getF X1 hx hZ hown (host := "") (Or.inl (hw _ (List.mem_of_getElem? (i := 44) rfl))) Via.refl e1 F_a1_pos (g := (mkF m 5 #[.val (.ref a1), .unset] [(.ref a1), (.ref t1)])) rfl rfl (hb hby d6_5)
  obtain ⟨cx3, Ar3, qq3, S3, N3_, H3, G3⟩ := id V_t1
  have hin3 : ¬ (v_pos < 0 ∨ cx3.slots.size ≤ (v_pos).toNatClampNeg) := inb_of S3 ⟨hp0, hp4⟩
  have hat3 : cx3.slots[(v_pos).toNatClampNeg]? = some (.int (own_at4 c0 c1 c2 c3 v_pos)) := (H3 (v_pos).toNatClampNeg (Nat.lt_of_not_le fun w => hin3 (Or.inr w))).trans (congrArg some (own_at4_ok c0 c1 c2 c3 hp0 hp4))
  have pre4 : ∀ t, Steps p.tables e below (T2.setTop (mkF m 11 #[.val (.ref a1), .unset] [(.int (13 : Int32)), (.int (own_at4 c0 c1 c2 c3 v_pos))])) t → Steps p.tables e below (s₁.setTop (entryFrame m #[(.ref a1)] 2)) t := fun t kt => by
    refine pre0 _ ?_
    show Steps p.tables e below (s₁.setTop (mkF m 0 #[.val (.ref a1), .unset] [])) _
    refine own_blk X0 hx bl6_0_1 (own_hb hby bd6_0_1) (pc' := 1) (Ls' := #[.val (.ref a1), .unset]) (st' := [(.ref a1)]) rfl ?_
    refine st1 _ ?_
    show Steps p.tables e below (T1.setTop (mkF m 4 #[.val (.ref a1), .unset] [(.ref t1)])) _
    refine own_blk X1 hx bl6_4_1 (own_hb hby bd6_4_1) (pc' := 5) (Ls' := #[.val (.ref a1), .unset]) (st' := [(.ref a1), (.ref t1)]) rfl ?_
    refine st2 _ ?_
    show Steps p.tables e below (T2.setTop (mkF m 8 #[.val (.ref a1), .unset] [(.int v_pos), (.ref t1)])) _
    refine X2.caload hx (j := v_pos) (v := (.int (own_at4 c0 c1 c2 c3 v_pos))) (by rw [e2]; exact Ar3.1) (State.isArrayOf_alike hZ.alike Ar3.2.1) Ar3.2.2 hin3 hat3 (g := (mkF m 8 #[.val (.ref a1), .unset] [(.int v_pos), (.ref t1)])) rfl rfl (hb hby d6_8) _ ?_
    show Steps p.tables e below (T2.setTop (mkF m 9 #[.val (.ref a1), .unset] [(.int (own_at4 c0 c1 c2 c3 v_pos))])) _
    refine own_blk X2 hx bl6_9_1 (own_hb hby bd6_9_1) (pc' := 11) (Ls' := #[.val (.ref a1), .unset]) (st' := [(.int (13 : Int32)), (.int (own_at4 c0 c1 c2 c3 v_pos))]) rfl ?_
    exact kt
  by_cases hc5 : (own_at4 c0 c1 c2 c3 v_pos) = (13 : Int32)
  · obtain ⟨T6, X6, e6, st6⟩ := getF X2 hx hZ hown (host := "") (Or.inl (hw _ (List.mem_of_getElem? (i := 44) rfl))) Via.refl e2 F_a1_pos (g := (mkF m 15 #[.val (.ref a1), .unset] [(.ref a1)])) rfl rfl (hb hby d6_15)
    obtain ⟨T7, X7, e7, st7⟩ := getF X6 hx hZ hown (host := "") (Or.inl (hw _ (List.mem_of_getElem? (i := 28) rfl))) Via.refl e6 F_a1_end (g := (mkF m 21 #[.val (.ref a1), .unset] [(.ref a1), (.int (v_pos + (1 : Int32)))])) rfl rfl (hb hby d6_21)
    have pre8 : ∀ t, Steps p.tables e below (T7.setTop (mkF m 24 #[.val (.ref a1), .unset] [(.int v_end), (.int (v_pos + (1 : Int32)))])) t → Steps p.tables e below (s₁.setTop (entryFrame m #[(.ref a1)] 2)) t := fun t kt => by
      refine pre4 _ ?_
      show Steps p.tables e below (T2.setTop (mkF m 11 #[.val (.ref a1), .unset] [(.int (13 : Int32)), (.int (own_at4 c0 c1 c2 c3 v_pos))])) _
      refine XS.icmpNo X2.here hx rfl (hb hby d6_11) rfl (teq hc5).2 ?_
      show Steps p.tables e below (T2.setTop (mkF m 14 #[.val (.ref a1), .unset] [])) _
      refine own_blk X2 hx bl6_14_1 (own_hb hby bd6_14_1) (pc' := 15) (Ls' := #[.val (.ref a1), .unset]) (st' := [(.ref a1)]) rfl ?_
      refine st6 _ ?_
      show Steps p.tables e below (T6.setTop (mkF m 18 #[.val (.ref a1), .unset] [(.int v_pos)])) _
      refine own_blk X6 hx bl6_18_3 (own_hb hby bd6_18_3) (pc' := 21) (Ls' := #[.val (.ref a1), .unset]) (st' := [(.ref a1), (.int (v_pos + (1 : Int32)))]) rfl ?_
      refine st7 _ ?_
      exact kt
    by_cases hc9 : (v_pos + (1 : Int32)) = v_end
    · obtain ⟨T10, X10, e10, st10⟩ := getF X7 hx hZ hown (host := "") (Or.inl (hw _ (List.mem_of_getElem? (i := 44) rfl))) Via.refl e7 F_a1_pos (g := (mkF m 35 #[.val (.ref a1), .val (.int (1 : Int32))] [(.ref a1), (.ref a1)])) rfl rfl (hb hby d6_35)
      obtain ⟨T11, X11, e11, st11⟩ := getF X10 hx hZ hown (host := "") (Or.inl (hw _ (List.mem_of_getElem? (i := 26) rfl))) Via.refl e10 F_a1_text (g := (mkF m 39 #[.val (.ref a1), .val (.int (1 : Int32))] [(.ref a1), (.int v_pos), (.ref a1)])) rfl rfl (hb hby d6_39)
      obtain ⟨T12, X12, e12, st12⟩ := getF X11 hx hZ hown (host := "") (Or.inl (hw _ (List.mem_of_getElem? (i := 44) rfl))) Via.refl e11 F_a1_pos (g := (mkF m 43 #[.val (.ref a1), .val (.int (1 : Int32))] [(.ref a1), (.ref t1), (.int v_pos), (.ref a1)])) rfl rfl (hb hby d6_43)
      obtain ⟨cx13, Ar13, qq13, S13, N13_, H13, G13⟩ := id V_t1
      have hin13 : ¬ (v_pos < 0 ∨ cx13.slots.size ≤ (v_pos).toNatClampNeg) := inb_of S13 ⟨hp0, hp4⟩
      have hat13 : cx13.slots[(v_pos).toNatClampNeg]? = some (.int (own_at4 c0 c1 c2 c3 v_pos)) := (H13 (v_pos).toNatClampNeg (Nat.lt_of_not_le fun w => hin13 (Or.inr w))).trans (congrArg some (own_at4_ok c0 c1 c2 c3 hp0 hp4))
      obtain ⟨T14, X14, e14, st14⟩ := getF X12 hx hZ hown (host := "") (Or.inl (hw _ (List.mem_of_getElem? (i := 44) rfl))) Via.refl e12 F_a1_pos (g := (mkF m 53 #[.val (.ref a1), .val (.int (1 : Int32))] [(.ref a1), (.int v_pos), (.ref a1)])) rfl rfl (hb hby d6_53)
      obtain ⟨T15, X15, e15, st15⟩ := getF X14 hx hZ hown (host := "") (Or.inl (hw _ (List.mem_of_getElem? (i := 28) rfl))) Via.refl e14 F_a1_end (g := (mkF m 59 #[.val (.ref a1), .val (.int (1 : Int32))] [(.ref a1), (.int (v_pos + (1 : Int32))), (.int v_pos), (.ref a1)])) rfl rfl (hb hby d6_59)
      have pre16 : ∀ t, Steps p.tables e below (T15.setTop (mkF m 62 #[.val (.ref a1), .val (.int (1 : Int32))] [(.int v_end), (.int (v_pos + (1 : Int32))), (.int v_pos), (.ref a1)])) t → Steps p.tables e below (s₁.setTop (entryFrame m #[(.ref a1)] 2)) t := fun t kt => by
        refine pre8 _ ?_
        show Steps p.tables e below (T7.setTop (mkF m 24 #[.val (.ref a1), .unset] [(.int v_end), (.int (v_pos + (1 : Int32)))])) _
        refine XS.icmpNo X7.here hx rfl (hb hby d6_24) rfl (teq hc9).2 ?_
        show Steps p.tables e below (T7.setTop (mkF m 27 #[.val (.ref a1), .unset] [])) _
        refine own_blk X7 hx bl6_27_3 (own_hb hby bd6_27_3) (pc' := 33) (Ls' := #[.val (.ref a1), .val (.int (1 : Int32))]) (st' := []) rfl ?_
        refine own_blk X7 hx bl6_33_2 (own_hb hby bd6_33_2) (pc' := 35) (Ls' := #[.val (.ref a1), .val (.int (1 : Int32))]) (st' := [(.ref a1), (.ref a1)]) rfl ?_
        refine st10 _ ?_
        show Steps p.tables e below (T10.setTop (mkF m 38 #[.val (.ref a1), .val (.int (1 : Int32))] [(.int v_pos), (.ref a1)])) _
        refine own_blk X10 hx bl6_38_1 (own_hb hby bd6_38_1) (pc' := 39) (Ls' := #[.val (.ref a1), .val (.int (1 : Int32))]) (st' := [(.ref a1), (.int v_pos), (.ref a1)]) rfl ?_
        refine st11 _ ?_
        show Steps p.tables e below (T11.setTop (mkF m 42 #[.val (.ref a1), .val (.int (1 : Int32))] [(.ref t1), (.int v_pos), (.ref a1)])) _
        refine own_blk X11 hx bl6_42_1 (own_hb hby bd6_42_1) (pc' := 43) (Ls' := #[.val (.ref a1), .val (.int (1 : Int32))]) (st' := [(.ref a1), (.ref t1), (.int v_pos), (.ref a1)]) rfl ?_
        refine st12 _ ?_
        show Steps p.tables e below (T12.setTop (mkF m 46 #[.val (.ref a1), .val (.int (1 : Int32))] [(.int v_pos), (.ref t1), (.int v_pos), (.ref a1)])) _
        refine X12.caload hx (j := v_pos) (v := (.int (own_at4 c0 c1 c2 c3 v_pos))) (by rw [e12]; exact Ar13.1) (State.isArrayOf_alike hZ.alike Ar13.2.1) Ar13.2.2 hin13 hat13 (g := (mkF m 46 #[.val (.ref a1), .val (.int (1 : Int32))] [(.int v_pos), (.ref t1), (.int v_pos), (.ref a1)])) rfl rfl (hb hby d6_46) _ ?_
        show Steps p.tables e below (T12.setTop (mkF m 47 #[.val (.ref a1), .val (.int (1 : Int32))] [(.int (own_at4 c0 c1 c2 c3 v_pos)), (.int v_pos), (.ref a1)])) _
        refine own_blk X12 hx bl6_47_1 (own_hb hby bd6_47_1) (pc' := 49) (Ls' := #[.val (.ref a1), .val (.int (1 : Int32))]) (st' := [(.int (13 : Int32)), (.int (own_at4 c0 c1 c2 c3 v_pos)), (.int v_pos), (.ref a1)]) rfl ?_
        refine XS.icmpNo X12.here hx rfl (hb hby d6_49) rfl (teq hc5).2 ?_
        show Steps p.tables e below (T12.setTop (mkF m 52 #[.val (.ref a1), .val (.int (1 : Int32))] [(.int v_pos), (.ref a1)])) _
        refine own_blk X12 hx bl6_52_1 (own_hb hby bd6_52_1) (pc' := 53) (Ls' := #[.val (.ref a1), .val (.int (1 : Int32))]) (st' := [(.ref a1), (.int v_pos), (.ref a1)]) rfl ?_
        refine st14 _ ?_
        show Steps p.tables e below (T14.setTop (mkF m 56 #[.val (.ref a1), .val (.int (1 : Int32))] [(.int v_pos), (.int v_pos), (.ref a1)])) _
        refine own_blk X14 hx bl6_56_3 (own_hb hby bd6_56_3) (pc' := 59) (Ls' := #[.val (.ref a1), .val (.int (1 : Int32))]) (st' := [(.ref a1), (.int (v_pos + (1 : Int32))), (.int v_pos), (.ref a1)]) rfl ?_
        refine st15 _ ?_
        exact kt
      by_cases hc17 : (v_pos + (1 : Int32)) < v_end
      · obtain ⟨T18, X18, e18, st18⟩ := getF X15 hx hZ hown (host := "") (Or.inl (hw _ (List.mem_of_getElem? (i := 26) rfl))) Via.refl e15 F_a1_text (g := (mkF m 66 #[.val (.ref a1), .val (.int (1 : Int32))] [(.ref a1), (.int v_pos), (.ref a1)])) rfl rfl (hb hby d6_66)
        obtain ⟨T19, X19, e19, st19⟩ := getF X18 hx hZ hown (host := "") (Or.inl (hw _ (List.mem_of_getElem? (i := 44) rfl))) Via.refl e18 F_a1_pos (g := (mkF m 70 #[.val (.ref a1), .val (.int (1 : Int32))] [(.ref a1), (.ref t1), (.int v_pos), (.ref a1)])) rfl rfl (hb hby d6_70)
        obtain ⟨cx20, Ar20, qq20, S20, N20_, H20, G20⟩ := id V_t1
        have hin20 : ¬ ((v_pos + (1 : Int32)) < 0 ∨ cx20.slots.size ≤ ((v_pos + (1 : Int32))).toNatClampNeg) := inb_of S20 ⟨(hq hc17).1, (hq hc17).2⟩
        have hat20 : cx20.slots[((v_pos + (1 : Int32))).toNatClampNeg]? = some (.int (own_at4 c0 c1 c2 c3 (v_pos + (1 : Int32)))) := (H20 ((v_pos + (1 : Int32))).toNatClampNeg (Nat.lt_of_not_le fun w => hin20 (Or.inr w))).trans (congrArg some (own_at4_ok c0 c1 c2 c3 (hq hc17).1 (hq hc17).2))
        have pre21 : ∀ t, Steps p.tables e below (T19.setTop (mkF m 78 #[.val (.ref a1), .val (.int (1 : Int32))] [(.int (10 : Int32)), (.int (own_at4 c0 c1 c2 c3 (v_pos + (1 : Int32)))), (.int v_pos), (.ref a1)])) t → Steps p.tables e below (s₁.setTop (entryFrame m #[(.ref a1)] 2)) t := fun t kt => by
          refine pre16 _ ?_
          show Steps p.tables e below (T15.setTop (mkF m 62 #[.val (.ref a1), .val (.int (1 : Int32))] [(.int v_end), (.int (v_pos + (1 : Int32))), (.int v_pos), (.ref a1)])) _
          refine XS.icmpNo X15.here hx rfl (hb hby d6_62) rfl (tlt hc17).2.1 ?_
          show Steps p.tables e below (T15.setTop (mkF m 65 #[.val (.ref a1), .val (.int (1 : Int32))] [(.int v_pos), (.ref a1)])) _
          refine own_blk X15 hx bl6_65_1 (own_hb hby bd6_65_1) (pc' := 66) (Ls' := #[.val (.ref a1), .val (.int (1 : Int32))]) (st' := [(.ref a1), (.int v_pos), (.ref a1)]) rfl ?_
          refine st18 _ ?_
          show Steps p.tables e below (T18.setTop (mkF m 69 #[.val (.ref a1), .val (.int (1 : Int32))] [(.ref t1), (.int v_pos), (.ref a1)])) _
          refine own_blk X18 hx bl6_69_1 (own_hb hby bd6_69_1) (pc' := 70) (Ls' := #[.val (.ref a1), .val (.int (1 : Int32))]) (st' := [(.ref a1), (.ref t1), (.int v_pos), (.ref a1)]) rfl ?_
          refine st19 _ ?_
          show Steps p.tables e below (T19.setTop (mkF m 73 #[.val (.ref a1), .val (.int (1 : Int32))] [(.int v_pos), (.ref t1), (.int v_pos), (.ref a1)])) _
          refine own_blk X19 hx bl6_73_2 (own_hb hby bd6_73_2) (pc' := 75) (Ls' := #[.val (.ref a1), .val (.int (1 : Int32))]) (st' := [(.int (v_pos + (1 : Int32))), (.ref t1), (.int v_pos), (.ref a1)]) rfl ?_
          refine X19.caload hx (j := (v_pos + (1 : Int32))) (v := (.int (own_at4 c0 c1 c2 c3 (v_pos + (1 : Int32))))) (by rw [e19]; exact Ar20.1) (State.isArrayOf_alike hZ.alike Ar20.2.1) Ar20.2.2 hin20 hat20 (g := (mkF m 75 #[.val (.ref a1), .val (.int (1 : Int32))] [(.int (v_pos + (1 : Int32))), (.ref t1), (.int v_pos), (.ref a1)])) rfl rfl (hb hby d6_75) _ ?_
          show Steps p.tables e below (T19.setTop (mkF m 76 #[.val (.ref a1), .val (.int (1 : Int32))] [(.int (own_at4 c0 c1 c2 c3 (v_pos + (1 : Int32)))), (.int v_pos), (.ref a1)])) _
          refine own_blk X19 hx bl6_76_1 (own_hb hby bd6_76_1) (pc' := 78) (Ls' := #[.val (.ref a1), .val (.int (1 : Int32))]) (st' := [(.int (10 : Int32)), (.int (own_at4 c0 c1 c2 c3 (v_pos + (1 : Int32)))), (.int v_pos), (.ref a1)]) rfl ?_
          exact kt
        by_cases hc22 : (own_at4 c0 c1 c2 c3 (v_pos + (1 : Int32))) = (10 : Int32)
        · obtain ⟨T23, h23, X23, e23, W23, st23⟩ := putF X19 hx hZ hown (host := "") (Or.inl (hw _ (List.mem_of_getElem? (i := 44) rfl))) Via.refl e19 F_a1_pos E_a1 (Or.inl (hw _ (List.mem_of_getElem? (i := 45) rfl))) (hw _ (List.mem_of_getElem? (i := 2) rfl)) (ty := .int) (by decide) rfl rfl (g := (mkF m 87 #[.val (.ref a1), .val (.int (1 : Int32))] [(.int (v_pos + (2 : Int32))), (.ref a1)])) rfl rfl (hb hby d6_87)
          have Fw23 : Fld Z h23 a1 "com/example/endcon/endcon/yaml/Cursor" "pos" "I" (.int (v_pos + (2 : Int32))) := F_a1_pos.same W23
          have zs24 : n0 ≤ h23.size := Nat.le_trans Z0 (Keep.of_wr W23).1
          have kp25 : Keep h0 h23 [a1] := (Keep.refl h0 [a1]).wr W23 (Or.inl (List.mem_of_getElem? (i := 0) rfl))
          have N23 := Fr.snoc X23 N0 g_a1
          obtain ⟨fs, hr, hrun, hended, hW, hsame⟩ := X23.leave (v := none) (fun _ => rfl)
          refine ⟨_, _, pre21 _ ?_, hrun, hended, _, _, rfl, ?_, ⟨_, rfl⟩, hW, hsame.mono (by decide) (by decide)⟩
          · show Steps p.tables e below (T19.setTop (mkF m 78 #[.val (.ref a1), .val (.int (1 : Int32))] [(.int (10 : Int32)), (.int (own_at4 c0 c1 c2 c3 (v_pos + (1 : Int32)))), (.int v_pos), (.ref a1)])) _
            refine XS.icmpNo X19.here hx rfl (hb hby d6_78) rfl (teq hc22).2 ?_
            show Steps p.tables e below (T19.setTop (mkF m 81 #[.val (.ref a1), .val (.int (1 : Int32))] [(.int v_pos), (.ref a1)])) _
            refine own_blk X19 hx bl6_81_3 (own_hb hby bd6_81_3) (pc' := 87) (Ls' := #[.val (.ref a1), .val (.int (1 : Int32))]) (st' := [(.int (v_pos + (2 : Int32))), (.ref a1)]) rfl ?_
            refine st23 _ ?_
            show Steps p.tables e below (T23.setTop (mkF m 90 #[.val (.ref a1), .val (.int (1 : Int32))] [])) _
            refine own_blk X23 hx bl6_90_1 (own_hb hby bd6_90_1) (pc' := 91) (Ls' := #[.val (.ref a1), .val (.int (1 : Int32))]) (st' := [(.int (1 : Int32))]) rfl ?_
            refine XS.ifYes X23.here hx rfl (pc0 := 91) (pc' := 112) rfl (hb hby d6_91) rfl ((if0 _ _).trans (feq (by decide : ¬ ((1 : Int32) = (0 : Int32)))).2) (by decide) (by decide) ?_
            show Steps p.tables e below (T23.setTop (mkF m 112 #[.val (.ref a1), .val (.int (1 : Int32))] [])) _
            exact X23.returnOut hx Bd.returns (hb hby d6_112) hr
          · show Q6 Z a1 t1 c0 c1 c2 c3 v_end v_pos v_line v_ls k_t1 h0 n0 _ T23.heap _
            rw [e23]
            have fa26 : Exa Z h23 a1 "com/example/endcon/endcon/yaml/Cursor" := (E_a1.wr W23)
            have fa27 : Fld Z h23 a1 "com/example/endcon/endcon/yaml/Cursor" "text" "[C" (.ref t1) := (F_a1_text.other W23 (Or.inr (slot_ne (Or.inl (hw _ (List.mem_of_getElem? (i := 27) rfl))) (Or.inl (hw _ (List.mem_of_getElem? (i := 45) rfl))) (by decide) (t := (.array .char)) (t' := .int) (by decide) (by decide))))
            have lf28 := fa27
            have fa29 : Fld Z h23 a1 "com/example/endcon/endcon/yaml/Cursor" "end" "I" (.int v_end) := (F_a1_end.other W23 (Or.inr (slot_ne (Or.inr (hw _ (List.mem_of_getElem? (i := 29) rfl))) (Or.inl (hw _ (List.mem_of_getElem? (i := 45) rfl))) (by decide) (t := .int) (t' := .int) (by decide) (by decide))))
            have lf30 := fa29
            have lf31 : Fld Z h23 a1 "com/example/endcon/endcon/yaml/Cursor" "pos" "I" (.int (f6_a1_pos c0 c1 c2 c3 v_end v_pos v_line v_ls)) := by rw [f6_a1_pos, if_pos hc5, if_pos hc9, if_pos hc17, if_pos hc22]; exact Fw23
            have fa32 : Fld Z h23 a1 "com/example/endcon/endcon/yaml/Cursor" "line" "I" (.int v_line) := (F_a1_line.other W23 (Or.inr (slot_ne (Or.inl (hw _ (List.mem_of_getElem? (i := 19) rfl))) (Or.inl (hw _ (List.mem_of_getElem? (i := 45) rfl))) (by decide) (t := .int) (t' := .int) (by decide) (by decide))))
            have lf33 : Fld Z h23 a1 "com/example/endcon/endcon/yaml/Cursor" "line" "I" (.int (f6_a1_line c0 c1 c2 c3 v_end v_pos v_line v_ls)) := by rw [f6_a1_line, if_pos hc5, if_pos hc9, if_pos hc17, if_pos hc22]; exact fa32
            have fa34 : Fld Z h23 a1 "com/example/endcon/endcon/yaml/Cursor" "lineStart" "I" (.int v_ls) := (F_a1_lineStart.other W23 (Or.inr (slot_ne (Or.inl (hw _ (List.mem_of_getElem? (i := 52) rfl))) (Or.inl (hw _ (List.mem_of_getElem? (i := 45) rfl))) (by decide) (t := .int) (t' := .int) (by decide) (by decide))))
            have lf35 : Fld Z h23 a1 "com/example/endcon/endcon/yaml/Cursor" "lineStart" "I" (.int (f6_a1_lineStart c0 c1 c2 c3 v_end v_pos v_line v_ls)) := by rw [f6_a1_lineStart, if_pos hc5, if_pos hc9, if_pos hc17, if_pos hc22]; exact fa34
            exact ⟨rfl, N23, kp25, fa26, lf28, lf30, lf31, lf33, lf35⟩
        · obtain ⟨T36, h36, X36, e36, W36, st36⟩ := putF X19 hx hZ hown (host := "") (Or.inl (hw _ (List.mem_of_getElem? (i := 44) rfl))) Via.refl e19 F_a1_pos E_a1 (Or.inl (hw _ (List.mem_of_getElem? (i := 45) rfl))) (hw _ (List.mem_of_getElem? (i := 2) rfl)) (ty := .int) (by decide) rfl rfl (g := (mkF m 87 #[.val (.ref a1), .val (.int (1 : Int32))] [(.int (v_pos + (1 : Int32))), (.ref a1)])) rfl rfl (hb hby d6_87)
          have Fw36 : Fld Z h36 a1 "com/example/endcon/endcon/yaml/Cursor" "pos" "I" (.int (v_pos + (1 : Int32))) := F_a1_pos.same W36
          have zs37 : n0 ≤ h36.size := Nat.le_trans Z0 (Keep.of_wr W36).1
          have kp38 : Keep h0 h36 [a1] := (Keep.refl h0 [a1]).wr W36 (Or.inl (List.mem_of_getElem? (i := 0) rfl))
          have N36 := Fr.snoc X36 N0 g_a1
          obtain ⟨fs, hr, hrun, hended, hW, hsame⟩ := X36.leave (v := none) (fun _ => rfl)
          refine ⟨_, _, pre21 _ ?_, hrun, hended, _, _, rfl, ?_, ⟨_, rfl⟩, hW, hsame.mono (by decide) (by decide)⟩
          · show Steps p.tables e below (T19.setTop (mkF m 78 #[.val (.ref a1), .val (.int (1 : Int32))] [(.int (10 : Int32)), (.int (own_at4 c0 c1 c2 c3 (v_pos + (1 : Int32)))), (.int v_pos), (.ref a1)])) _
            refine XS.icmpYes X19.here hx rfl (pc0 := 78) (pc' := 85) rfl (hb hby d6_78) rfl (feq hc22).2 (by decide) (by decide) ?_
            show Steps p.tables e below (T19.setTop (mkF m 85 #[.val (.ref a1), .val (.int (1 : Int32))] [(.int v_pos), (.ref a1)])) _
            refine own_blk X19 hx bl6_85_2 (own_hb hby bd6_85_2) (pc' := 87) (Ls' := #[.val (.ref a1), .val (.int (1 : Int32))]) (st' := [(.int (v_pos + (1 : Int32))), (.ref a1)]) rfl ?_
            refine st36 _ ?_
            show Steps p.tables e below (T36.setTop (mkF m 90 #[.val (.ref a1), .val (.int (1 : Int32))] [])) _
            refine own_blk X36 hx bl6_90_1 (own_hb hby bd6_90_1) (pc' := 91) (Ls' := #[.val (.ref a1), .val (.int (1 : Int32))]) (st' := [(.int (1 : Int32))]) rfl ?_
            refine XS.ifYes X36.here hx rfl (pc0 := 91) (pc' := 112) rfl (hb hby d6_91) rfl ((if0 _ _).trans (feq (by decide : ¬ ((1 : Int32) = (0 : Int32)))).2) (by decide) (by decide) ?_
            show Steps p.tables e below (T36.setTop (mkF m 112 #[.val (.ref a1), .val (.int (1 : Int32))] [])) _
            exact X36.returnOut hx Bd.returns (hb hby d6_112) hr
          · show Q6 Z a1 t1 c0 c1 c2 c3 v_end v_pos v_line v_ls k_t1 h0 n0 _ T36.heap _
            rw [e36]
            have fa39 : Exa Z h36 a1 "com/example/endcon/endcon/yaml/Cursor" := (E_a1.wr W36)
            have fa40 : Fld Z h36 a1 "com/example/endcon/endcon/yaml/Cursor" "text" "[C" (.ref t1) := (F_a1_text.other W36 (Or.inr (slot_ne (Or.inl (hw _ (List.mem_of_getElem? (i := 27) rfl))) (Or.inl (hw _ (List.mem_of_getElem? (i := 45) rfl))) (by decide) (t := (.array .char)) (t' := .int) (by decide) (by decide))))
            have lf41 := fa40
            have fa42 : Fld Z h36 a1 "com/example/endcon/endcon/yaml/Cursor" "end" "I" (.int v_end) := (F_a1_end.other W36 (Or.inr (slot_ne (Or.inr (hw _ (List.mem_of_getElem? (i := 29) rfl))) (Or.inl (hw _ (List.mem_of_getElem? (i := 45) rfl))) (by decide) (t := .int) (t' := .int) (by decide) (by decide))))
            have lf43 := fa42
            have lf44 : Fld Z h36 a1 "com/example/endcon/endcon/yaml/Cursor" "pos" "I" (.int (f6_a1_pos c0 c1 c2 c3 v_end v_pos v_line v_ls)) := by rw [f6_a1_pos, if_pos hc5, if_pos hc9, if_pos hc17, if_neg hc22]; exact Fw36
            have fa45 : Fld Z h36 a1 "com/example/endcon/endcon/yaml/Cursor" "line" "I" (.int v_line) := (F_a1_line.other W36 (Or.inr (slot_ne (Or.inl (hw _ (List.mem_of_getElem? (i := 19) rfl))) (Or.inl (hw _ (List.mem_of_getElem? (i := 45) rfl))) (by decide) (t := .int) (t' := .int) (by decide) (by decide))))
            have lf46 : Fld Z h36 a1 "com/example/endcon/endcon/yaml/Cursor" "line" "I" (.int (f6_a1_line c0 c1 c2 c3 v_end v_pos v_line v_ls)) := by rw [f6_a1_line, if_pos hc5, if_pos hc9, if_pos hc17, if_neg hc22]; exact fa45
            have fa47 : Fld Z h36 a1 "com/example/endcon/endcon/yaml/Cursor" "lineStart" "I" (.int v_ls) := (F_a1_lineStart.other W36 (Or.inr (slot_ne (Or.inl (hw _ (List.mem_of_getElem? (i := 52) rfl))) (Or.inl (hw _ (List.mem_of_getElem? (i := 45) rfl))) (by decide) (t := .int) (t' := .int) (by decide) (by decide))))
            have lf48 : Fld Z h36 a1 "com/example/endcon/endcon/yaml/Cursor" "lineStart" "I" (.int (f6_a1_lineStart c0 c1 c2 c3 v_end v_pos v_line v_ls)) := by rw [f6_a1_lineStart, if_pos hc5, if_pos hc9, if_pos hc17, if_neg hc22]; exact fa47
            exact ⟨rfl, N36, kp38, fa39, lf41, lf43, lf44, lf46, lf48⟩
      · obtain ⟨T49, h49, X49, e49, W49, st49⟩ := putF X15 hx hZ hown (host := "") (Or.inl (hw _ (List.mem_of_getElem? (i := 44) rfl))) Via.refl e15 F_a1_pos E_a1 (Or.inl (hw _ (List.mem_of_getElem? (i := 45) rfl))) (hw _ (List.mem_of_getElem? (i := 2) rfl)) (ty := .int) (by decide) rfl rfl (g := (mkF m 87 #[.val (.ref a1), .val (.int (1 : Int32))] [(.int (v_pos + (1 : Int32))), (.ref a1)])) rfl rfl (hb hby d6_87)
        have Fw49 : Fld Z h49 a1 "com/example/endcon/endcon/yaml/Cursor" "pos" "I" (.int (v_pos + (1 : Int32))) := F_a1_pos.same W49
        have zs50 : n0 ≤ h49.size := Nat.le_trans Z0 (Keep.of_wr W49).1
        have kp51 : Keep h0 h49 [a1] := (Keep.refl h0 [a1]).wr W49 (Or.inl (List.mem_of_getElem? (i := 0) rfl))
        have N49 := Fr.snoc X49 N0 g_a1
        obtain ⟨fs, hr, hrun, hended, hW, hsame⟩ := X49.leave (v := none) (fun _ => rfl)
        refine ⟨_, _, pre16 _ ?_, hrun, hended, _, _, rfl, ?_, ⟨_, rfl⟩, hW, hsame.mono (by decide) (by decide)⟩
        · show Steps p.tables e below (T15.setTop (mkF m 62 #[.val (.ref a1), .val (.int (1 : Int32))] [(.int v_end), (.int (v_pos + (1 : Int32))), (.int v_pos), (.ref a1)])) _
          refine XS.icmpYes X15.here hx rfl (pc0 := 62) (pc' := 85) rfl (hb hby d6_62) rfl (flt hc17).2.1 (by decide) (by decide) ?_
          show Steps p.tables e below (T15.setTop (mkF m 85 #[.val (.ref a1), .val (.int (1 : Int32))] [(.int v_pos), (.ref a1)])) _
          refine own_blk X15 hx bl6_85_2 (own_hb hby bd6_85_2) (pc' := 87) (Ls' := #[.val (.ref a1), .val (.int (1 : Int32))]) (st' := [(.int (v_pos + (1 : Int32))), (.ref a1)]) rfl ?_
          refine st49 _ ?_
          show Steps p.tables e below (T49.setTop (mkF m 90 #[.val (.ref a1), .val (.int (1 : Int32))] [])) _
          refine own_blk X49 hx bl6_90_1 (own_hb hby bd6_90_1) (pc' := 91) (Ls' := #[.val (.ref a1), .val (.int (1 : Int32))]) (st' := [(.int (1 : Int32))]) rfl ?_
          refine XS.ifYes X49.here hx rfl (pc0 := 91) (pc' := 112) rfl (hb hby d6_91) rfl ((if0 _ _).trans (feq (by decide : ¬ ((1 : Int32) = (0 : Int32)))).2) (by decide) (by decide) ?_
          show Steps p.tables e below (T49.setTop (mkF m 112 #[.val (.ref a1), .val (.int (1 : Int32))] [])) _
          exact X49.returnOut hx Bd.returns (hb hby d6_112) hr
        · show Q6 Z a1 t1 c0 c1 c2 c3 v_end v_pos v_line v_ls k_t1 h0 n0 _ T49.heap _
          rw [e49]
          have fa52 : Exa Z h49 a1 "com/example/endcon/endcon/yaml/Cursor" := (E_a1.wr W49)
          have fa53 : Fld Z h49 a1 "com/example/endcon/endcon/yaml/Cursor" "text" "[C" (.ref t1) := (F_a1_text.other W49 (Or.inr (slot_ne (Or.inl (hw _ (List.mem_of_getElem? (i := 27) rfl))) (Or.inl (hw _ (List.mem_of_getElem? (i := 45) rfl))) (by decide) (t := (.array .char)) (t' := .int) (by decide) (by decide))))
          have lf54 := fa53
          have fa55 : Fld Z h49 a1 "com/example/endcon/endcon/yaml/Cursor" "end" "I" (.int v_end) := (F_a1_end.other W49 (Or.inr (slot_ne (Or.inr (hw _ (List.mem_of_getElem? (i := 29) rfl))) (Or.inl (hw _ (List.mem_of_getElem? (i := 45) rfl))) (by decide) (t := .int) (t' := .int) (by decide) (by decide))))
          have lf56 := fa55
          have lf57 : Fld Z h49 a1 "com/example/endcon/endcon/yaml/Cursor" "pos" "I" (.int (f6_a1_pos c0 c1 c2 c3 v_end v_pos v_line v_ls)) := by rw [f6_a1_pos, if_pos hc5, if_pos hc9, if_neg hc17]; exact Fw49
          have fa58 : Fld Z h49 a1 "com/example/endcon/endcon/yaml/Cursor" "line" "I" (.int v_line) := (F_a1_line.other W49 (Or.inr (slot_ne (Or.inl (hw _ (List.mem_of_getElem? (i := 19) rfl))) (Or.inl (hw _ (List.mem_of_getElem? (i := 45) rfl))) (by decide) (t := .int) (t' := .int) (by decide) (by decide))))
          have lf59 : Fld Z h49 a1 "com/example/endcon/endcon/yaml/Cursor" "line" "I" (.int (f6_a1_line c0 c1 c2 c3 v_end v_pos v_line v_ls)) := by rw [f6_a1_line, if_pos hc5, if_pos hc9, if_neg hc17]; exact fa58
          have fa60 : Fld Z h49 a1 "com/example/endcon/endcon/yaml/Cursor" "lineStart" "I" (.int v_ls) := (F_a1_lineStart.other W49 (Or.inr (slot_ne (Or.inl (hw _ (List.mem_of_getElem? (i := 52) rfl))) (Or.inl (hw _ (List.mem_of_getElem? (i := 45) rfl))) (by decide) (t := .int) (t' := .int) (by decide) (by decide))))
          have lf61 : Fld Z h49 a1 "com/example/endcon/endcon/yaml/Cursor" "lineStart" "I" (.int (f6_a1_lineStart c0 c1 c2 c3 v_end v_pos v_line v_ls)) := by rw [f6_a1_lineStart, if_pos hc5, if_pos hc9, if_neg hc17]; exact fa60
          exact ⟨rfl, N49, kp51, fa52, lf54, lf56, lf57, lf59, lf61⟩
    · obtain ⟨T62, X62, e62, st62⟩ := getF X7 hx hZ hown (host := "") (Or.inl (hw _ (List.mem_of_getElem? (i := 44) rfl))) Via.refl e7 F_a1_pos (g := (mkF m 35 #[.val (.ref a1), .val (.int (0 : Int32))] [(.ref a1), (.ref a1)])) rfl rfl (hb hby d6_35)
      obtain ⟨T63, X63, e63, st63⟩ := getF X62 hx hZ hown (host := "") (Or.inl (hw _ (List.mem_of_getElem? (i := 26) rfl))) Via.refl e62 F_a1_text (g := (mkF m 39 #[.val (.ref a1), .val (.int (0 : Int32))] [(.ref a1), (.int v_pos), (.ref a1)])) rfl rfl (hb hby d6_39)
      obtain ⟨T64, X64, e64, st64⟩ := getF X63 hx hZ hown (host := "") (Or.inl (hw _ (List.mem_of_getElem? (i := 44) rfl))) Via.refl e63 F_a1_pos (g := (mkF m 43 #[.val (.ref a1), .val (.int (0 : Int32))] [(.ref a1), (.ref t1), (.int v_pos), (.ref a1)])) rfl rfl (hb hby d6_43)
      obtain ⟨cx65, Ar65, qq65, S65, N65_, H65, G65⟩ := id V_t1
      have hin65 : ¬ (v_pos < 0 ∨ cx65.slots.size ≤ (v_pos).toNatClampNeg) := inb_of S65 ⟨hp0, hp4⟩
      have hat65 : cx65.slots[(v_pos).toNatClampNeg]? = some (.int (own_at4 c0 c1 c2 c3 v_pos)) := (H65 (v_pos).toNatClampNeg (Nat.lt_of_not_le fun w => hin65 (Or.inr w))).trans (congrArg some (own_at4_ok c0 c1 c2 c3 hp0 hp4))
      obtain ⟨T66, X66, e66, st66⟩ := getF X64 hx hZ hown (host := "") (Or.inl (hw _ (List.mem_of_getElem? (i := 44) rfl))) Via.refl e64 F_a1_pos (g := (mkF m 53 #[.val (.ref a1), .val (.int (0 : Int32))] [(.ref a1), (.int v_pos), (.ref a1)])) rfl rfl (hb hby d6_53)
      obtain ⟨T67, X67, e67, st67⟩ := getF X66 hx hZ hown (host := "") (Or.inl (hw _ (List.mem_of_getElem? (i := 28) rfl))) Via.refl e66 F_a1_end (g := (mkF m 59 #[.val (.ref a1), .val (.int (0 : Int32))] [(.ref a1), (.int (v_pos + (1 : Int32))), (.int v_pos), (.ref a1)])) rfl rfl (hb hby d6_59)
      have pre68 : ∀ t, Steps p.tables e below (T67.setTop (mkF m 62 #[.val (.ref a1), .val (.int (0 : Int32))] [(.int v_end), (.int (v_pos + (1 : Int32))), (.int v_pos), (.ref a1)])) t → Steps p.tables e below (s₁.setTop (entryFrame m #[(.ref a1)] 2)) t := fun t kt => by
        refine pre8 _ ?_
        show Steps p.tables e below (T7.setTop (mkF m 24 #[.val (.ref a1), .unset] [(.int v_end), (.int (v_pos + (1 : Int32)))])) _
        refine XS.icmpYes X7.here hx rfl (pc0 := 24) (pc' := 31) rfl (hb hby d6_24) rfl (feq hc9).2 (by decide) (by decide) ?_
        show Steps p.tables e below (T7.setTop (mkF m 31 #[.val (.ref a1), .unset] [])) _
        refine own_blk X7 hx bl6_31_2 (own_hb hby bd6_31_2) (pc' := 33) (Ls' := #[.val (.ref a1), .val (.int (0 : Int32))]) (st' := []) rfl ?_
        refine own_blk X7 hx bl6_33_2 (own_hb hby bd6_33_2) (pc' := 35) (Ls' := #[.val (.ref a1), .val (.int (0 : Int32))]) (st' := [(.ref a1), (.ref a1)]) rfl ?_
        refine st62 _ ?_
        show Steps p.tables e below (T62.setTop (mkF m 38 #[.val (.ref a1), .val (.int (0 : Int32))] [(.int v_pos), (.ref a1)])) _
        refine own_blk X62 hx bl6_38_1 (own_hb hby bd6_38_1) (pc' := 39) (Ls' := #[.val (.ref a1), .val (.int (0 : Int32))]) (st' := [(.ref a1), (.int v_pos), (.ref a1)]) rfl ?_
        refine st63 _ ?_
        show Steps p.tables e below (T63.setTop (mkF m 42 #[.val (.ref a1), .val (.int (0 : Int32))] [(.ref t1), (.int v_pos), (.ref a1)])) _
        refine own_blk X63 hx bl6_42_1 (own_hb hby bd6_42_1) (pc' := 43) (Ls' := #[.val (.ref a1), .val (.int (0 : Int32))]) (st' := [(.ref a1), (.ref t1), (.int v_pos), (.ref a1)]) rfl ?_
        refine st64 _ ?_
        show Steps p.tables e below (T64.setTop (mkF m 46 #[.val (.ref a1), .val (.int (0 : Int32))] [(.int v_pos), (.ref t1), (.int v_pos), (.ref a1)])) _
        refine X64.caload hx (j := v_pos) (v := (.int (own_at4 c0 c1 c2 c3 v_pos))) (by rw [e64]; exact Ar65.1) (State.isArrayOf_alike hZ.alike Ar65.2.1) Ar65.2.2 hin65 hat65 (g := (mkF m 46 #[.val (.ref a1), .val (.int (0 : Int32))] [(.int v_pos), (.ref t1), (.int v_pos), (.ref a1)])) rfl rfl (hb hby d6_46) _ ?_
        show Steps p.tables e below (T64.setTop (mkF m 47 #[.val (.ref a1), .val (.int (0 : Int32))] [(.int (own_at4 c0 c1 c2 c3 v_pos)), (.int v_pos), (.ref a1)])) _
        refine own_blk X64 hx bl6_47_1 (own_hb hby bd6_47_1) (pc' := 49) (Ls' := #[.val (.ref a1), .val (.int (0 : Int32))]) (st' := [(.int (13 : Int32)), (.int (own_at4 c0 c1 c2 c3 v_pos)), (.int v_pos), (.ref a1)]) rfl ?_
        refine XS.icmpNo X64.here hx rfl (hb hby d6_49) rfl (teq hc5).2 ?_
        show Steps p.tables e below (T64.setTop (mkF m 52 #[.val (.ref a1), .val (.int (0 : Int32))] [(.int v_pos), (.ref a1)])) _
        refine own_blk X64 hx bl6_52_1 (own_hb hby bd6_52_1) (pc' := 53) (Ls' := #[.val (.ref a1), .val (.int (0 : Int32))]) (st' := [(.ref a1), (.int v_pos), (.ref a1)]) rfl ?_
        refine st66 _ ?_
        show Steps p.tables e below (T66.setTop (mkF m 56 #[.val (.ref a1), .val (.int (0 : Int32))] [(.int v_pos), (.int v_pos), (.ref a1)])) _
        refine own_blk X66 hx bl6_56_3 (own_hb hby bd6_56_3) (pc' := 59) (Ls' := #[.val (.ref a1), .val (.int (0 : Int32))]) (st' := [(.ref a1), (.int (v_pos + (1 : Int32))), (.int v_pos), (.ref a1)]) rfl ?_
        refine st67 _ ?_
        exact kt
      by_cases hc69 : (v_pos + (1 : Int32)) < v_end
      · obtain ⟨T70, X70, e70, st70⟩ := getF X67 hx hZ hown (host := "") (Or.inl (hw _ (List.mem_of_getElem? (i := 26) rfl))) Via.refl e67 F_a1_text (g := (mkF m 66 #[.val (.ref a1), .val (.int (0 : Int32))] [(.ref a1), (.int v_pos), (.ref a1)])) rfl rfl (hb hby d6_66)
        obtain ⟨T71, X71, e71, st71⟩ := getF X70 hx hZ hown (host := "") (Or.inl (hw _ (List.mem_of_getElem? (i := 44) rfl))) Via.refl e70 F_a1_pos (g := (mkF m 70 #[.val (.ref a1), .val (.int (0 : Int32))] [(.ref a1), (.ref t1), (.int v_pos), (.ref a1)])) rfl rfl (hb hby d6_70)
        obtain ⟨cx72, Ar72, qq72, S72, N72_, H72, G72⟩ := id V_t1
        have hin72 : ¬ ((v_pos + (1 : Int32)) < 0 ∨ cx72.slots.size ≤ ((v_pos + (1 : Int32))).toNatClampNeg) := inb_of S72 ⟨(hq hc69).1, (hq hc69).2⟩
        have hat72 : cx72.slots[((v_pos + (1 : Int32))).toNatClampNeg]? = some (.int (own_at4 c0 c1 c2 c3 (v_pos + (1 : Int32)))) := (H72 ((v_pos + (1 : Int32))).toNatClampNeg (Nat.lt_of_not_le fun w => hin72 (Or.inr w))).trans (congrArg some (own_at4_ok c0 c1 c2 c3 (hq hc69).1 (hq hc69).2))
        have pre73 : ∀ t, Steps p.tables e below (T71.setTop (mkF m 78 #[.val (.ref a1), .val (.int (0 : Int32))] [(.int (10 : Int32)), (.int (own_at4 c0 c1 c2 c3 (v_pos + (1 : Int32)))), (.int v_pos), (.ref a1)])) t → Steps p.tables e below (s₁.setTop (entryFrame m #[(.ref a1)] 2)) t := fun t kt => by
          refine pre68 _ ?_
          show Steps p.tables e below (T67.setTop (mkF m 62 #[.val (.ref a1), .val (.int (0 : Int32))] [(.int v_end), (.int (v_pos + (1 : Int32))), (.int v_pos), (.ref a1)])) _
          refine XS.icmpNo X67.here hx rfl (hb hby d6_62) rfl (tlt hc69).2.1 ?_
          show Steps p.tables e below (T67.setTop (mkF m 65 #[.val (.ref a1), .val (.int (0 : Int32))] [(.int v_pos), (.ref a1)])) _
          refine own_blk X67 hx bl6_65_1 (own_hb hby bd6_65_1) (pc' := 66) (Ls' := #[.val (.ref a1), .val (.int (0 : Int32))]) (st' := [(.ref a1), (.int v_pos), (.ref a1)]) rfl ?_
          refine st70 _ ?_
          show Steps p.tables e below (T70.setTop (mkF m 69 #[.val (.ref a1), .val (.int (0 : Int32))] [(.ref t1), (.int v_pos), (.ref a1)])) _
          refine own_blk X70 hx bl6_69_1 (own_hb hby bd6_69_1) (pc' := 70) (Ls' := #[.val (.ref a1), .val (.int (0 : Int32))]) (st' := [(.ref a1), (.ref t1), (.int v_pos), (.ref a1)]) rfl ?_
          refine st71 _ ?_
          show Steps p.tables e below (T71.setTop (mkF m 73 #[.val (.ref a1), .val (.int (0 : Int32))] [(.int v_pos), (.ref t1), (.int v_pos), (.ref a1)])) _
          refine own_blk X71 hx bl6_73_2 (own_hb hby bd6_73_2) (pc' := 75) (Ls' := #[.val (.ref a1), .val (.int (0 : Int32))]) (st' := [(.int (v_pos + (1 : Int32))), (.ref t1), (.int v_pos), (.ref a1)]) rfl ?_
          refine X71.caload hx (j := (v_pos + (1 : Int32))) (v := (.int (own_at4 c0 c1 c2 c3 (v_pos + (1 : Int32))))) (by rw [e71]; exact Ar72.1) (State.isArrayOf_alike hZ.alike Ar72.2.1) Ar72.2.2 hin72 hat72 (g := (mkF m 75 #[.val (.ref a1), .val (.int (0 : Int32))] [(.int (v_pos + (1 : Int32))), (.ref t1), (.int v_pos), (.ref a1)])) rfl rfl (hb hby d6_75) _ ?_
          show Steps p.tables e below (T71.setTop (mkF m 76 #[.val (.ref a1), .val (.int (0 : Int32))] [(.int (own_at4 c0 c1 c2 c3 (v_pos + (1 : Int32)))), (.int v_pos), (.ref a1)])) _
          refine own_blk X71 hx bl6_76_1 (own_hb hby bd6_76_1) (pc' := 78) (Ls' := #[.val (.ref a1), .val (.int (0 : Int32))]) (st' := [(.int (10 : Int32)), (.int (own_at4 c0 c1 c2 c3 (v_pos + (1 : Int32)))), (.int v_pos), (.ref a1)]) rfl ?_
          exact kt
        by_cases hc74 : (own_at4 c0 c1 c2 c3 (v_pos + (1 : Int32))) = (10 : Int32)
        · obtain ⟨T75, h75, X75, e75, W75, st75⟩ := putF X71 hx hZ hown (host := "") (Or.inl (hw _ (List.mem_of_getElem? (i := 44) rfl))) Via.refl e71 F_a1_pos E_a1 (Or.inl (hw _ (List.mem_of_getElem? (i := 45) rfl))) (hw _ (List.mem_of_getElem? (i := 2) rfl)) (ty := .int) (by decide) rfl rfl (g := (mkF m 87 #[.val (.ref a1), .val (.int (0 : Int32))] [(.int (v_pos + (2 : Int32))), (.ref a1)])) rfl rfl (hb hby d6_87)
          have Fw75 : Fld Z h75 a1 "com/example/endcon/endcon/yaml/Cursor" "pos" "I" (.int (v_pos + (2 : Int32))) := F_a1_pos.same W75
          have zs76 : n0 ≤ h75.size := Nat.le_trans Z0 (Keep.of_wr W75).1
          have kp77 : Keep h0 h75 [a1] := (Keep.refl h0 [a1]).wr W75 (Or.inl (List.mem_of_getElem? (i := 0) rfl))
          have N75 := Fr.snoc X75 N0 g_a1
          have fa78 : Fld Z h75 a1 "com/example/endcon/endcon/yaml/Cursor" "line" "I" (.int v_line) := (F_a1_line.other W75 (Or.inr (slot_ne (Or.inl (hw _ (List.mem_of_getElem? (i := 19) rfl))) (Or.inl (hw _ (List.mem_of_getElem? (i := 45) rfl))) (by decide) (t := .int) (t' := .int) (by decide) (by decide))))
          obtain ⟨T79, X79, e79, st79⟩ := getF X75 hx hZ hown (host := "") (Or.inl (hw _ (List.mem_of_getElem? (i := 18) rfl))) Via.refl e75 fa78 (g := (mkF m 96 #[.val (.ref a1), .val (.int (0 : Int32))] [(.ref a1), (.ref a1)])) rfl rfl (hb hby d6_96)
          have fa80 : Exa Z h75 a1 "com/example/endcon/endcon/yaml/Cursor" := (E_a1.wr W75)
          obtain ⟨T81, h81, X81, e81, W81, st81⟩ := putF X79 hx hZ hown (host := "") (Or.inl (hw _ (List.mem_of_getElem? (i := 18) rfl))) Via.refl e79 fa78 fa80 (Or.inl (hw _ (List.mem_of_getElem? (i := 19) rfl))) (hw _ (List.mem_of_getElem? (i := 2) rfl)) (ty := .int) (by decide) rfl rfl (g := (mkF m 101 #[.val (.ref a1), .val (.int (0 : Int32))] [(.int (v_line + (1 : Int32))), (.ref a1)])) rfl rfl (hb hby d6_101)
          have Fw81 : Fld Z h81 a1 "com/example/endcon/endcon/yaml/Cursor" "line" "I" (.int (v_line + (1 : Int32))) := fa78.same W81
          have zs82 : n0 ≤ h81.size := Nat.le_trans zs76 (Keep.of_wr W81).1
          have kp83 : Keep h0 h81 [a1] := kp77.wr W81 (Or.inl (List.mem_of_getElem? (i := 0) rfl))
          have N81 := Fr.snoc X81 N75 g_a1
          have fa84 : Fld Z h81 a1 "com/example/endcon/endcon/yaml/Cursor" "pos" "I" (.int (v_pos + (2 : Int32))) := (Fw75.other W81 (Or.inr (slot_ne (Or.inl (hw _ (List.mem_of_getElem? (i := 45) rfl))) (Or.inl (hw _ (List.mem_of_getElem? (i := 19) rfl))) (by decide) (t := .int) (t' := .int) (by decide) (by decide))))
          obtain ⟨T85, X85, e85, st85⟩ := getF X81 hx hZ hown (host := "") (Or.inl (hw _ (List.mem_of_getElem? (i := 44) rfl))) Via.refl e81 fa84 (g := (mkF m 106 #[.val (.ref a1), .val (.int (0 : Int32))] [(.ref a1), (.ref a1)])) rfl rfl (hb hby d6_106)
          have fa86 : Fld Z h81 a1 "com/example/endcon/endcon/yaml/Cursor" "lineStart" "I" (.int v_ls) := ((F_a1_lineStart.other W75 (Or.inr (slot_ne (Or.inl (hw _ (List.mem_of_getElem? (i := 52) rfl))) (Or.inl (hw _ (List.mem_of_getElem? (i := 45) rfl))) (by decide) (t := .int) (t' := .int) (by decide) (by decide)))).other W81 (Or.inr (slot_ne (Or.inl (hw _ (List.mem_of_getElem? (i := 52) rfl))) (Or.inl (hw _ (List.mem_of_getElem? (i := 19) rfl))) (by decide) (t := .int) (t' := .int) (by decide) (by decide))))
          have fa87 : Exa Z h81 a1 "com/example/endcon/endcon/yaml/Cursor" := (fa80.wr W81)
          obtain ⟨T88, h88, X88, e88, W88, st88⟩ := putF X85 hx hZ hown (host := "") (Or.inl (hw _ (List.mem_of_getElem? (i := 51) rfl))) Via.refl e85 fa86 fa87 (Or.inl (hw _ (List.mem_of_getElem? (i := 52) rfl))) (hw _ (List.mem_of_getElem? (i := 2) rfl)) (ty := .int) (by decide) rfl rfl (g := (mkF m 109 #[.val (.ref a1), .val (.int (0 : Int32))] [(.int (v_pos + (2 : Int32))), (.ref a1)])) rfl rfl (hb hby d6_109)
          have Fw88 : Fld Z h88 a1 "com/example/endcon/endcon/yaml/Cursor" "lineStart" "I" (.int (v_pos + (2 : Int32))) := fa86.same W88
          have zs89 : n0 ≤ h88.size := Nat.le_trans zs82 (Keep.of_wr W88).1
          have kp90 : Keep h0 h88 [a1] := kp83.wr W88 (Or.inl (List.mem_of_getElem? (i := 0) rfl))
          have N88 := Fr.snoc X88 N81 g_a1
          obtain ⟨fs, hr, hrun, hended, hW, hsame⟩ := X88.leave (v := none) (fun _ => rfl)
          refine ⟨_, _, pre73 _ ?_, hrun, hended, _, _, rfl, ?_, ⟨_, rfl⟩, hW, hsame.mono (by decide) (by decide)⟩
          · show Steps p.tables e below (T71.setTop (mkF m 78 #[.val (.ref a1), .val (.int (0 : Int32))] [(.int (10 : Int32)), (.int (own_at4 c0 c1 c2 c3 (v_pos + (1 : Int32)))), (.int v_pos), (.ref a1)])) _
            refine XS.icmpNo X71.here hx rfl (hb hby d6_78) rfl (teq hc74).2 ?_
            show Steps p.tables e below (T71.setTop (mkF m 81 #[.val (.ref a1), .val (.int (0 : Int32))] [(.int v_pos), (.ref a1)])) _
            refine own_blk X71 hx bl6_81_3 (own_hb hby bd6_81_3) (pc' := 87) (Ls' := #[.val (.ref a1), .val (.int (0 : Int32))]) (st' := [(.int (v_pos + (2 : Int32))), (.ref a1)]) rfl ?_
            refine st75 _ ?_
            show Steps p.tables e below (T75.setTop (mkF m 90 #[.val (.ref a1), .val (.int (0 : Int32))] [])) _
            refine own_blk X75 hx bl6_90_1 (own_hb hby bd6_90_1) (pc' := 91) (Ls' := #[.val (.ref a1), .val (.int (0 : Int32))]) (st' := [(.int (0 : Int32))]) rfl ?_
            refine XS.ifNo X75.here hx rfl (hb hby d6_91) rfl ((if0 _ _).trans (teq (by decide : (0 : Int32) = (0 : Int32))).2) ?_
            show Steps p.tables e below (T75.setTop (mkF m 94 #[.val (.ref a1), .val (.int (0 : Int32))] [])) _
            refine own_blk X75 hx bl6_94_2 (own_hb hby bd6_94_2) (pc' := 96) (Ls' := #[.val (.ref a1), .val (.int (0 : Int32))]) (st' := [(.ref a1), (.ref a1)]) rfl ?_
            refine st79 _ ?_
            show Steps p.tables e below (T79.setTop (mkF m 99 #[.val (.ref a1), .val (.int (0 : Int32))] [(.int v_line), (.ref a1)])) _
            refine own_blk X79 hx bl6_99_2 (own_hb hby bd6_99_2) (pc' := 101) (Ls' := #[.val (.ref a1), .val (.int (0 : Int32))]) (st' := [(.int (v_line + (1 : Int32))), (.ref a1)]) rfl ?_
            refine st81 _ ?_
            show Steps p.tables e below (T81.setTop (mkF m 104 #[.val (.ref a1), .val (.int (0 : Int32))] [])) _
            refine own_blk X81 hx bl6_104_2 (own_hb hby bd6_104_2) (pc' := 106) (Ls' := #[.val (.ref a1), .val (.int (0 : Int32))]) (st' := [(.ref a1), (.ref a1)]) rfl ?_
            refine st85 _ ?_
            show Steps p.tables e below (T85.setTop (mkF m 109 #[.val (.ref a1), .val (.int (0 : Int32))] [(.int (v_pos + (2 : Int32))), (.ref a1)])) _
            refine st88 _ ?_
            show Steps p.tables e below (T88.setTop (mkF m 112 #[.val (.ref a1), .val (.int (0 : Int32))] [])) _
            exact X88.returnOut hx Bd.returns (hb hby d6_112) hr
          · show Q6 Z a1 t1 c0 c1 c2 c3 v_end v_pos v_line v_ls k_t1 h0 n0 _ T88.heap _
            rw [e88]
            have fa91 : Exa Z h88 a1 "com/example/endcon/endcon/yaml/Cursor" := (fa87.wr W88)
            have fa92 : Fld Z h88 a1 "com/example/endcon/endcon/yaml/Cursor" "text" "[C" (.ref t1) := (((F_a1_text.other W75 (Or.inr (slot_ne (Or.inl (hw _ (List.mem_of_getElem? (i := 27) rfl))) (Or.inl (hw _ (List.mem_of_getElem? (i := 45) rfl))) (by decide) (t := (.array .char)) (t' := .int) (by decide) (by decide)))).other W81 (Or.inr (slot_ne (Or.inl (hw _ (List.mem_of_getElem? (i := 27) rfl))) (Or.inl (hw _ (List.mem_of_getElem? (i := 19) rfl))) (by decide) (t := (.array .char)) (t' := .int) (by decide) (by decide)))).other W88 (Or.inr (slot_ne (Or.inl (hw _ (List.mem_of_getElem? (i := 27) rfl))) (Or.inl (hw _ (List.mem_of_getElem? (i := 52) rfl))) (by decide) (t := (.array .char)) (t' := .int) (by decide) (by decide))))
            have lf93 := fa92
            have fa94 : Fld Z h88 a1 "com/example/endcon/endcon/yaml/Cursor" "end" "I" (.int v_end) := (((F_a1_end.other W75 (Or.inr (slot_ne (Or.inr (hw _ (List.mem_of_getElem? (i := 29) rfl))) (Or.inl (hw _ (List.mem_of_getElem? (i := 45) rfl))) (by decide) (t := .int) (t' := .int) (by decide) (by decide)))).other W81 (Or.inr (slot_ne (Or.inr (hw _ (List.mem_of_getElem? (i := 29) rfl))) (Or.inl (hw _ (List.mem_of_getElem? (i := 19) rfl))) (by decide) (t := .int) (t' := .int) (by decide) (by decide)))).other W88 (Or.inr (slot_ne (Or.inr (hw _ (List.mem_of_getElem? (i := 29) rfl))) (Or.inl (hw _ (List.mem_of_getElem? (i := 52) rfl))) (by decide) (t := .int) (t' := .int) (by decide) (by decide))))
            have lf95 := fa94
            have fa96 : Fld Z h88 a1 "com/example/endcon/endcon/yaml/Cursor" "pos" "I" (.int (v_pos + (2 : Int32))) := (fa84.other W88 (Or.inr (slot_ne (Or.inl (hw _ (List.mem_of_getElem? (i := 45) rfl))) (Or.inl (hw _ (List.mem_of_getElem? (i := 52) rfl))) (by decide) (t := .int) (t' := .int) (by decide) (by decide))))
            have lf97 : Fld Z h88 a1 "com/example/endcon/endcon/yaml/Cursor" "pos" "I" (.int (f6_a1_pos c0 c1 c2 c3 v_end v_pos v_line v_ls)) := by rw [f6_a1_pos, if_pos hc5, if_neg hc9, if_pos hc69, if_pos hc74]; exact fa96
            have fa98 : Fld Z h88 a1 "com/example/endcon/endcon/yaml/Cursor" "line" "I" (.int (v_line + (1 : Int32))) := (Fw81.other W88 (Or.inr (slot_ne (Or.inl (hw _ (List.mem_of_getElem? (i := 19) rfl))) (Or.inl (hw _ (List.mem_of_getElem? (i := 52) rfl))) (by decide) (t := .int) (t' := .int) (by decide) (by decide))))
            have lf99 : Fld Z h88 a1 "com/example/endcon/endcon/yaml/Cursor" "line" "I" (.int (f6_a1_line c0 c1 c2 c3 v_end v_pos v_line v_ls)) := by rw [f6_a1_line, if_pos hc5, if_neg hc9, if_pos hc69, if_pos hc74]; exact fa98
            have lf100 : Fld Z h88 a1 "com/example/endcon/endcon/yaml/Cursor" "lineStart" "I" (.int (f6_a1_lineStart c0 c1 c2 c3 v_end v_pos v_line v_ls)) := by rw [f6_a1_lineStart, if_pos hc5, if_neg hc9, if_pos hc69, if_pos hc74]; exact Fw88
            exact ⟨rfl, N88, kp90, fa91, lf93, lf95, lf97, lf99, lf100⟩
        · obtain ⟨T101, h101, X101, e101, W101, st101⟩ := putF X71 hx hZ hown (host := "") (Or.inl (hw _ (List.mem_of_getElem? (i := 44) rfl))) Via.refl e71 F_a1_pos E_a1 (Or.inl (hw _ (List.mem_of_getElem? (i := 45) rfl))) (hw _ (List.mem_of_getElem? (i := 2) rfl)) (ty := .int) (by decide) rfl rfl (g := (mkF m 87 #[.val (.ref a1), .val (.int (0 : Int32))] [(.int (v_pos + (1 : Int32))), (.ref a1)])) rfl rfl (hb hby d6_87)
          have Fw101 : Fld Z h101 a1 "com/example/endcon/endcon/yaml/Cursor" "pos" "I" (.int (v_pos + (1 : Int32))) := F_a1_pos.same W101
          have zs102 : n0 ≤ h101.size := Nat.le_trans Z0 (Keep.of_wr W101).1
          have kp103 : Keep h0 h101 [a1] := (Keep.refl h0 [a1]).wr W101 (Or.inl (List.mem_of_getElem? (i := 0) rfl))
          have N101 := Fr.snoc X101 N0 g_a1
          have fa104 : Fld Z h101 a1 "com/example/endcon/endcon/yaml/Cursor" "line" "I" (.int v_line) := (F_a1_line.other W101 (Or.inr (slot_ne (Or.inl (hw _ (List.mem_of_getElem? (i := 19) rfl))) (Or.inl (hw _ (List.mem_of_getElem? (i := 45) rfl))) (by decide) (t := .int) (t' := .int) (by decide) (by decide))))
          obtain ⟨T105, X105, e105, st105⟩ := getF X101 hx hZ hown (host := "") (Or.inl (hw _ (List.mem_of_getElem? (i := 18) rfl))) Via.refl e101 fa104 (g := (mkF m 96 #[.val (.ref a1), .val (.int (0 : Int32))] [(.ref a1), (.ref a1)])) rfl rfl (hb hby d6_96)
          have fa106 : Exa Z h101 a1 "com/example/endcon/endcon/yaml/Cursor" := (E_a1.wr W101)
          obtain ⟨T107, h107, X107, e107, W107, st107⟩ := putF X105 hx hZ hown (host := "") (Or.inl (hw _ (List.mem_of_getElem? (i := 18) rfl))) Via.refl e105 fa104 fa106 (Or.inl (hw _ (List.mem_of_getElem? (i := 19) rfl))) (hw _ (List.mem_of_getElem? (i := 2) rfl)) (ty := .int) (by decide) rfl rfl (g := (mkF m 101 #[.val (.ref a1), .val (.int (0 : Int32))] [(.int (v_line + (1 : Int32))), (.ref a1)])) rfl rfl (hb hby d6_101)
          have Fw107 : Fld Z h107 a1 "com/example/endcon/endcon/yaml/Cursor" "line" "I" (.int (v_line + (1 : Int32))) := fa104.same W107
          have zs108 : n0 ≤ h107.size := Nat.le_trans zs102 (Keep.of_wr W107).1
          have kp109 : Keep h0 h107 [a1] := kp103.wr W107 (Or.inl (List.mem_of_getElem? (i := 0) rfl))
          have N107 := Fr.snoc X107 N101 g_a1
          have fa110 : Fld Z h107 a1 "com/example/endcon/endcon/yaml/Cursor" "pos" "I" (.int (v_pos + (1 : Int32))) := (Fw101.other W107 (Or.inr (slot_ne (Or.inl (hw _ (List.mem_of_getElem? (i := 45) rfl))) (Or.inl (hw _ (List.mem_of_getElem? (i := 19) rfl))) (by decide) (t := .int) (t' := .int) (by decide) (by decide))))
          obtain ⟨T111, X111, e111, st111⟩ := getF X107 hx hZ hown (host := "") (Or.inl (hw _ (List.mem_of_getElem? (i := 44) rfl))) Via.refl e107 fa110 (g := (mkF m 106 #[.val (.ref a1), .val (.int (0 : Int32))] [(.ref a1), (.ref a1)])) rfl rfl (hb hby d6_106)
          have fa112 : Fld Z h107 a1 "com/example/endcon/endcon/yaml/Cursor" "lineStart" "I" (.int v_ls) := ((F_a1_lineStart.other W101 (Or.inr (slot_ne (Or.inl (hw _ (List.mem_of_getElem? (i := 52) rfl))) (Or.inl (hw _ (List.mem_of_getElem? (i := 45) rfl))) (by decide) (t := .int) (t' := .int) (by decide) (by decide)))).other W107 (Or.inr (slot_ne (Or.inl (hw _ (List.mem_of_getElem? (i := 52) rfl))) (Or.inl (hw _ (List.mem_of_getElem? (i := 19) rfl))) (by decide) (t := .int) (t' := .int) (by decide) (by decide))))
          have fa113 : Exa Z h107 a1 "com/example/endcon/endcon/yaml/Cursor" := (fa106.wr W107)
          obtain ⟨T114, h114, X114, e114, W114, st114⟩ := putF X111 hx hZ hown (host := "") (Or.inl (hw _ (List.mem_of_getElem? (i := 51) rfl))) Via.refl e111 fa112 fa113 (Or.inl (hw _ (List.mem_of_getElem? (i := 52) rfl))) (hw _ (List.mem_of_getElem? (i := 2) rfl)) (ty := .int) (by decide) rfl rfl (g := (mkF m 109 #[.val (.ref a1), .val (.int (0 : Int32))] [(.int (v_pos + (1 : Int32))), (.ref a1)])) rfl rfl (hb hby d6_109)
          have Fw114 : Fld Z h114 a1 "com/example/endcon/endcon/yaml/Cursor" "lineStart" "I" (.int (v_pos + (1 : Int32))) := fa112.same W114
          have zs115 : n0 ≤ h114.size := Nat.le_trans zs108 (Keep.of_wr W114).1
          have kp116 : Keep h0 h114 [a1] := kp109.wr W114 (Or.inl (List.mem_of_getElem? (i := 0) rfl))
          have N114 := Fr.snoc X114 N107 g_a1
          obtain ⟨fs, hr, hrun, hended, hW, hsame⟩ := X114.leave (v := none) (fun _ => rfl)
          refine ⟨_, _, pre73 _ ?_, hrun, hended, _, _, rfl, ?_, ⟨_, rfl⟩, hW, hsame.mono (by decide) (by decide)⟩
          · show Steps p.tables e below (T71.setTop (mkF m 78 #[.val (.ref a1), .val (.int (0 : Int32))] [(.int (10 : Int32)), (.int (own_at4 c0 c1 c2 c3 (v_pos + (1 : Int32)))), (.int v_pos), (.ref a1)])) _
            refine XS.icmpYes X71.here hx rfl (pc0 := 78) (pc' := 85) rfl (hb hby d6_78) rfl (feq hc74).2 (by decide) (by decide) ?_
            show Steps p.tables e below (T71.setTop (mkF m 85 #[.val (.ref a1), .val (.int (0 : Int32))] [(.int v_pos), (.ref a1)])) _
            refine own_blk X71 hx bl6_85_2 (own_hb hby bd6_85_2) (pc' := 87) (Ls' := #[.val (.ref a1), .val (.int (0 : Int32))]) (st' := [(.int (v_pos + (1 : Int32))), (.ref a1)]) rfl ?_
            refine st101 _ ?_
            show Steps p.tables e below (T101.setTop (mkF m 90 #[.val (.ref a1), .val (.int (0 : Int32))] [])) _
            refine own_blk X101 hx bl6_90_1 (own_hb hby bd6_90_1) (pc' := 91) (Ls' := #[.val (.ref a1), .val (.int (0 : Int32))]) (st' := [(.int (0 : Int32))]) rfl ?_
            refine XS.ifNo X101.here hx rfl (hb hby d6_91) rfl ((if0 _ _).trans (teq (by decide : (0 : Int32) = (0 : Int32))).2) ?_
            show Steps p.tables e below (T101.setTop (mkF m 94 #[.val (.ref a1), .val (.int (0 : Int32))] [])) _
            refine own_blk X101 hx bl6_94_2 (own_hb hby bd6_94_2) (pc' := 96) (Ls' := #[.val (.ref a1), .val (.int (0 : Int32))]) (st' := [(.ref a1), (.ref a1)]) rfl ?_
            refine st105 _ ?_
            show Steps p.tables e below (T105.setTop (mkF m 99 #[.val (.ref a1), .val (.int (0 : Int32))] [(.int v_line), (.ref a1)])) _
            refine own_blk X105 hx bl6_99_2 (own_hb hby bd6_99_2) (pc' := 101) (Ls' := #[.val (.ref a1), .val (.int (0 : Int32))]) (st' := [(.int (v_line + (1 : Int32))), (.ref a1)]) rfl ?_
            refine st107 _ ?_
            show Steps p.tables e below (T107.setTop (mkF m 104 #[.val (.ref a1), .val (.int (0 : Int32))] [])) _
            refine own_blk X107 hx bl6_104_2 (own_hb hby bd6_104_2) (pc' := 106) (Ls' := #[.val (.ref a1), .val (.int (0 : Int32))]) (st' := [(.ref a1), (.ref a1)]) rfl ?_
            refine st111 _ ?_
            show Steps p.tables e below (T111.setTop (mkF m 109 #[.val (.ref a1), .val (.int (0 : Int32))] [(.int (v_pos + (1 : Int32))), (.ref a1)])) _
            refine st114 _ ?_
            show Steps p.tables e below (T114.setTop (mkF m 112 #[.val (.ref a1), .val (.int (0 : Int32))] [])) _
            exact X114.returnOut hx Bd.returns (hb hby d6_112) hr
          · show Q6 Z a1 t1 c0 c1 c2 c3 v_end v_pos v_line v_ls k_t1 h0 n0 _ T114.heap _
            rw [e114]
            have fa117 : Exa Z h114 a1 "com/example/endcon/endcon/yaml/Cursor" := (fa113.wr W114)
            have fa118 : Fld Z h114 a1 "com/example/endcon/endcon/yaml/Cursor" "text" "[C" (.ref t1) := (((F_a1_text.other W101 (Or.inr (slot_ne (Or.inl (hw _ (List.mem_of_getElem? (i := 27) rfl))) (Or.inl (hw _ (List.mem_of_getElem? (i := 45) rfl))) (by decide) (t := (.array .char)) (t' := .int) (by decide) (by decide)))).other W107 (Or.inr (slot_ne (Or.inl (hw _ (List.mem_of_getElem? (i := 27) rfl))) (Or.inl (hw _ (List.mem_of_getElem? (i := 19) rfl))) (by decide) (t := (.array .char)) (t' := .int) (by decide) (by decide)))).other W114 (Or.inr (slot_ne (Or.inl (hw _ (List.mem_of_getElem? (i := 27) rfl))) (Or.inl (hw _ (List.mem_of_getElem? (i := 52) rfl))) (by decide) (t := (.array .char)) (t' := .int) (by decide) (by decide))))
            have lf119 := fa118
            have fa120 : Fld Z h114 a1 "com/example/endcon/endcon/yaml/Cursor" "end" "I" (.int v_end) := (((F_a1_end.other W101 (Or.inr (slot_ne (Or.inr (hw _ (List.mem_of_getElem? (i := 29) rfl))) (Or.inl (hw _ (List.mem_of_getElem? (i := 45) rfl))) (by decide) (t := .int) (t' := .int) (by decide) (by decide)))).other W107 (Or.inr (slot_ne (Or.inr (hw _ (List.mem_of_getElem? (i := 29) rfl))) (Or.inl (hw _ (List.mem_of_getElem? (i := 19) rfl))) (by decide) (t := .int) (t' := .int) (by decide) (by decide)))).other W114 (Or.inr (slot_ne (Or.inr (hw _ (List.mem_of_getElem? (i := 29) rfl))) (Or.inl (hw _ (List.mem_of_getElem? (i := 52) rfl))) (by decide) (t := .int) (t' := .int) (by decide) (by decide))))
            have lf121 := fa120
            have fa122 : Fld Z h114 a1 "com/example/endcon/endcon/yaml/Cursor" "pos" "I" (.int (v_pos + (1 : Int32))) := (fa110.other W114 (Or.inr (slot_ne (Or.inl (hw _ (List.mem_of_getElem? (i := 45) rfl))) (Or.inl (hw _ (List.mem_of_getElem? (i := 52) rfl))) (by decide) (t := .int) (t' := .int) (by decide) (by decide))))
            have lf123 : Fld Z h114 a1 "com/example/endcon/endcon/yaml/Cursor" "pos" "I" (.int (f6_a1_pos c0 c1 c2 c3 v_end v_pos v_line v_ls)) := by rw [f6_a1_pos, if_pos hc5, if_neg hc9, if_pos hc69, if_neg hc74]; exact fa122
            have fa124 : Fld Z h114 a1 "com/example/endcon/endcon/yaml/Cursor" "line" "I" (.int (v_line + (1 : Int32))) := (Fw107.other W114 (Or.inr (slot_ne (Or.inl (hw _ (List.mem_of_getElem? (i := 19) rfl))) (Or.inl (hw _ (List.mem_of_getElem? (i := 52) rfl))) (by decide) (t := .int) (t' := .int) (by decide) (by decide))))
            have lf125 : Fld Z h114 a1 "com/example/endcon/endcon/yaml/Cursor" "line" "I" (.int (f6_a1_line c0 c1 c2 c3 v_end v_pos v_line v_ls)) := by rw [f6_a1_line, if_pos hc5, if_neg hc9, if_pos hc69, if_neg hc74]; exact fa124
            have lf126 : Fld Z h114 a1 "com/example/endcon/endcon/yaml/Cursor" "lineStart" "I" (.int (f6_a1_lineStart c0 c1 c2 c3 v_end v_pos v_line v_ls)) := by rw [f6_a1_lineStart, if_pos hc5, if_neg hc9, if_pos hc69, if_neg hc74]; exact Fw114
            exact ⟨rfl, N114, kp116, fa117, lf119, lf121, lf123, lf125, lf126⟩
      · obtain ⟨T127, h127, X127, e127, W127, st127⟩ := putF X67 hx hZ hown (host := "") (Or.inl (hw _ (List.mem_of_getElem? (i := 44) rfl))) Via.refl e67 F_a1_pos E_a1 (Or.inl (hw _ (List.mem_of_getElem? (i := 45) rfl))) (hw _ (List.mem_of_getElem? (i := 2) rfl)) (ty := .int) (by decide) rfl rfl (g := (mkF m 87 #[.val (.ref a1), .val (.int (0 : Int32))] [(.int (v_pos + (1 : Int32))), (.ref a1)])) rfl rfl (hb hby d6_87)
        have Fw127 : Fld Z h127 a1 "com/example/endcon/endcon/yaml/Cursor" "pos" "I" (.int (v_pos + (1 : Int32))) := F_a1_pos.same W127
        have zs128 : n0 ≤ h127.size := Nat.le_trans Z0 (Keep.of_wr W127).1
        have kp129 : Keep h0 h127 [a1] := (Keep.refl h0 [a1]).wr W127 (Or.inl (List.mem_of_getElem? (i := 0) rfl))
        have N127 := Fr.snoc X127 N0 g_a1
        have fa130 : Fld Z h127 a1 "com/example/endcon/endcon/yaml/Cursor" "line" "I" (.int v_line) := (F_a1_line.other W127 (Or.inr (slot_ne (Or.inl (hw _ (List.mem_of_getElem? (i := 19) rfl))) (Or.inl (hw _ (List.mem_of_getElem? (i := 45) rfl))) (by decide) (t := .int) (t' := .int) (by decide) (by decide))))
        obtain ⟨T131, X131, e131, st131⟩ := getF X127 hx hZ hown (host := "") (Or.inl (hw _ (List.mem_of_getElem? (i := 18) rfl))) Via.refl e127 fa130 (g := (mkF m 96 #[.val (.ref a1), .val (.int (0 : Int32))] [(.ref a1), (.ref a1)])) rfl rfl (hb hby d6_96)
        have fa132 : Exa Z h127 a1 "com/example/endcon/endcon/yaml/Cursor" := (E_a1.wr W127)
        obtain ⟨T133, h133, X133, e133, W133, st133⟩ := putF X131 hx hZ hown (host := "") (Or.inl (hw _ (List.mem_of_getElem? (i := 18) rfl))) Via.refl e131 fa130 fa132 (Or.inl (hw _ (List.mem_of_getElem? (i := 19) rfl))) (hw _ (List.mem_of_getElem? (i := 2) rfl)) (ty := .int) (by decide) rfl rfl (g := (mkF m 101 #[.val (.ref a1), .val (.int (0 : Int32))] [(.int (v_line + (1 : Int32))), (.ref a1)])) rfl rfl (hb hby d6_101)
        have Fw133 : Fld Z h133 a1 "com/example/endcon/endcon/yaml/Cursor" "line" "I" (.int (v_line + (1 : Int32))) := fa130.same W133
        have zs134 : n0 ≤ h133.size := Nat.le_trans zs128 (Keep.of_wr W133).1
        have kp135 : Keep h0 h133 [a1] := kp129.wr W133 (Or.inl (List.mem_of_getElem? (i := 0) rfl))
        have N133 := Fr.snoc X133 N127 g_a1
        have fa136 : Fld Z h133 a1 "com/example/endcon/endcon/yaml/Cursor" "pos" "I" (.int (v_pos + (1 : Int32))) := (Fw127.other W133 (Or.inr (slot_ne (Or.inl (hw _ (List.mem_of_getElem? (i := 45) rfl))) (Or.inl (hw _ (List.mem_of_getElem? (i := 19) rfl))) (by decide) (t := .int) (t' := .int) (by decide) (by decide))))
        obtain ⟨T137, X137, e137, st137⟩ := getF X133 hx hZ hown (host := "") (Or.inl (hw _ (List.mem_of_getElem? (i := 44) rfl))) Via.refl e133 fa136 (g := (mkF m 106 #[.val (.ref a1), .val (.int (0 : Int32))] [(.ref a1), (.ref a1)])) rfl rfl (hb hby d6_106)
        have fa138 : Fld Z h133 a1 "com/example/endcon/endcon/yaml/Cursor" "lineStart" "I" (.int v_ls) := ((F_a1_lineStart.other W127 (Or.inr (slot_ne (Or.inl (hw _ (List.mem_of_getElem? (i := 52) rfl))) (Or.inl (hw _ (List.mem_of_getElem? (i := 45) rfl))) (by decide) (t := .int) (t' := .int) (by decide) (by decide)))).other W133 (Or.inr (slot_ne (Or.inl (hw _ (List.mem_of_getElem? (i := 52) rfl))) (Or.inl (hw _ (List.mem_of_getElem? (i := 19) rfl))) (by decide) (t := .int) (t' := .int) (by decide) (by decide))))
        have fa139 : Exa Z h133 a1 "com/example/endcon/endcon/yaml/Cursor" := (fa132.wr W133)
        obtain ⟨T140, h140, X140, e140, W140, st140⟩ := putF X137 hx hZ hown (host := "") (Or.inl (hw _ (List.mem_of_getElem? (i := 51) rfl))) Via.refl e137 fa138 fa139 (Or.inl (hw _ (List.mem_of_getElem? (i := 52) rfl))) (hw _ (List.mem_of_getElem? (i := 2) rfl)) (ty := .int) (by decide) rfl rfl (g := (mkF m 109 #[.val (.ref a1), .val (.int (0 : Int32))] [(.int (v_pos + (1 : Int32))), (.ref a1)])) rfl rfl (hb hby d6_109)
        have Fw140 : Fld Z h140 a1 "com/example/endcon/endcon/yaml/Cursor" "lineStart" "I" (.int (v_pos + (1 : Int32))) := fa138.same W140
        have zs141 : n0 ≤ h140.size := Nat.le_trans zs134 (Keep.of_wr W140).1
        have kp142 : Keep h0 h140 [a1] := kp135.wr W140 (Or.inl (List.mem_of_getElem? (i := 0) rfl))
        have N140 := Fr.snoc X140 N133 g_a1
        obtain ⟨fs, hr, hrun, hended, hW, hsame⟩ := X140.leave (v := none) (fun _ => rfl)
        refine ⟨_, _, pre68 _ ?_, hrun, hended, _, _, rfl, ?_, ⟨_, rfl⟩, hW, hsame.mono (by decide) (by decide)⟩
        · show Steps p.tables e below (T67.setTop (mkF m 62 #[.val (.ref a1), .val (.int (0 : Int32))] [(.int v_end), (.int (v_pos + (1 : Int32))), (.int v_pos), (.ref a1)])) _
          refine XS.icmpYes X67.here hx rfl (pc0 := 62) (pc' := 85) rfl (hb hby d6_62) rfl (flt hc69).2.1 (by decide) (by decide) ?_
          show Steps p.tables e below (T67.setTop (mkF m 85 #[.val (.ref a1), .val (.int (0 : Int32))] [(.int v_pos), (.ref a1)])) _
          refine own_blk X67 hx bl6_85_2 (own_hb hby bd6_85_2) (pc' := 87) (Ls' := #[.val (.ref a1), .val (.int (0 : Int32))]) (st' := [(.int (v_pos + (1 : Int32))), (.ref a1)]) rfl ?_
          refine st127 _ ?_
          show Steps p.tables e below (T127.setTop (mkF m 90 #[.val (.ref a1), .val (.int (0 : Int32))] [])) _
          refine own_blk X127 hx bl6_90_1 (own_hb hby bd6_90_1) (pc' := 91) (Ls' := #[.val (.ref a1), .val (.int (0 : Int32))]) (st' := [(.int (0 : Int32))]) rfl ?_
          refine XS.ifNo X127.here hx rfl (hb hby d6_91) rfl ((if0 _ _).trans (teq (by decide : (0 : Int32) = (0 : Int32))).2) ?_
          show Steps p.tables e below (T127.setTop (mkF m 94 #[.val (.ref a1), .val (.int (0 : Int32))] [])) _
          refine own_blk X127 hx bl6_94_2 (own_hb hby bd6_94_2) (pc' := 96) (Ls' := #[.val (.ref a1), .val (.int (0 : Int32))]) (st' := [(.ref a1), (.ref a1)]) rfl ?_
          refine st131 _ ?_
          show Steps p.tables e below (T131.setTop (mkF m 99 #[.val (.ref a1), .val (.int (0 : Int32))] [(.int v_line), (.ref a1)])) _
          refine own_blk X131 hx bl6_99_2 (own_hb hby bd6_99_2) (pc' := 101) (Ls' := #[.val (.ref a1), .val (.int (0 : Int32))]) (st' := [(.int (v_line + (1 : Int32))), (.ref a1)]) rfl ?_
          refine st133 _ ?_
          show Steps p.tables e below (T133.setTop (mkF m 104 #[.val (.ref a1), .val (.int (0 : Int32))] [])) _
          refine own_blk X133 hx bl6_104_2 (own_hb hby bd6_104_2) (pc' := 106) (Ls' := #[.val (.ref a1), .val (.int (0 : Int32))]) (st' := [(.ref a1), (.ref a1)]) rfl ?_
          refine st137 _ ?_
          show Steps p.tables e below (T137.setTop (mkF m 109 #[.val (.ref a1), .val (.int (0 : Int32))] [(.int (v_pos + (1 : Int32))), (.ref a1)])) _
          refine st140 _ ?_
          show Steps p.tables e below (T140.setTop (mkF m 112 #[.val (.ref a1), .val (.int (0 : Int32))] [])) _
          exact X140.returnOut hx Bd.returns (hb hby d6_112) hr
        · show Q6 Z a1 t1 c0 c1 c2 c3 v_end v_pos v_line v_ls k_t1 h0 n0 _ T140.heap _
          rw [e140]
          have fa143 : Exa Z h140 a1 "com/example/endcon/endcon/yaml/Cursor" := (fa139.wr W140)
          have fa144 : Fld Z h140 a1 "com/example/endcon/endcon/yaml/Cursor" "text" "[C" (.ref t1) := (((F_a1_text.other W127 (Or.inr (slot_ne (Or.inl (hw _ (List.mem_of_getElem? (i := 27) rfl))) (Or.inl (hw _ (List.mem_of_getElem? (i := 45) rfl))) (by decide) (t := (.array .char)) (t' := .int) (by decide) (by decide)))).other W133 (Or.inr (slot_ne (Or.inl (hw _ (List.mem_of_getElem? (i := 27) rfl))) (Or.inl (hw _ (List.mem_of_getElem? (i := 19) rfl))) (by decide) (t := (.array .char)) (t' := .int) (by decide) (by decide)))).other W140 (Or.inr (slot_ne (Or.inl (hw _ (List.mem_of_getElem? (i := 27) rfl))) (Or.inl (hw _ (List.mem_of_getElem? (i := 52) rfl))) (by decide) (t := (.array .char)) (t' := .int) (by decide) (by decide))))
          have lf145 := fa144
          have fa146 : Fld Z h140 a1 "com/example/endcon/endcon/yaml/Cursor" "end" "I" (.int v_end) := (((F_a1_end.other W127 (Or.inr (slot_ne (Or.inr (hw _ (List.mem_of_getElem? (i := 29) rfl))) (Or.inl (hw _ (List.mem_of_getElem? (i := 45) rfl))) (by decide) (t := .int) (t' := .int) (by decide) (by decide)))).other W133 (Or.inr (slot_ne (Or.inr (hw _ (List.mem_of_getElem? (i := 29) rfl))) (Or.inl (hw _ (List.mem_of_getElem? (i := 19) rfl))) (by decide) (t := .int) (t' := .int) (by decide) (by decide)))).other W140 (Or.inr (slot_ne (Or.inr (hw _ (List.mem_of_getElem? (i := 29) rfl))) (Or.inl (hw _ (List.mem_of_getElem? (i := 52) rfl))) (by decide) (t := .int) (t' := .int) (by decide) (by decide))))
          have lf147 := fa146
          have fa148 : Fld Z h140 a1 "com/example/endcon/endcon/yaml/Cursor" "pos" "I" (.int (v_pos + (1 : Int32))) := (fa136.other W140 (Or.inr (slot_ne (Or.inl (hw _ (List.mem_of_getElem? (i := 45) rfl))) (Or.inl (hw _ (List.mem_of_getElem? (i := 52) rfl))) (by decide) (t := .int) (t' := .int) (by decide) (by decide))))
          have lf149 : Fld Z h140 a1 "com/example/endcon/endcon/yaml/Cursor" "pos" "I" (.int (f6_a1_pos c0 c1 c2 c3 v_end v_pos v_line v_ls)) := by rw [f6_a1_pos, if_pos hc5, if_neg hc9, if_neg hc69]; exact fa148
          have fa150 : Fld Z h140 a1 "com/example/endcon/endcon/yaml/Cursor" "line" "I" (.int (v_line + (1 : Int32))) := (Fw133.other W140 (Or.inr (slot_ne (Or.inl (hw _ (List.mem_of_getElem? (i := 19) rfl))) (Or.inl (hw _ (List.mem_of_getElem? (i := 52) rfl))) (by decide) (t := .int) (t' := .int) (by decide) (by decide))))
          have lf151 : Fld Z h140 a1 "com/example/endcon/endcon/yaml/Cursor" "line" "I" (.int (f6_a1_line c0 c1 c2 c3 v_end v_pos v_line v_ls)) := by rw [f6_a1_line, if_pos hc5, if_neg hc9, if_neg hc69]; exact fa150
          have lf152 : Fld Z h140 a1 "com/example/endcon/endcon/yaml/Cursor" "lineStart" "I" (.int (f6_a1_lineStart c0 c1 c2 c3 v_end v_pos v_line v_ls)) := by rw [f6_a1_lineStart, if_pos hc5, if_neg hc9, if_neg hc69]; exact Fw140
          exact ⟨rfl, N140, kp142, fa143, lf145, lf147, lf149, lf151, lf152⟩
  · obtain ⟨T153, X153, e153, st153⟩ := getF X2 hx hZ hown (host := "") (Or.inl (hw _ (List.mem_of_getElem? (i := 44) rfl))) Via.refl e2 F_a1_pos (g := (mkF m 35 #[.val (.ref a1), .val (.int (0 : Int32))] [(.ref a1), (.ref a1)])) rfl rfl (hb hby d6_35)
    obtain ⟨T154, X154, e154, st154⟩ := getF X153 hx hZ hown (host := "") (Or.inl (hw _ (List.mem_of_getElem? (i := 26) rfl))) Via.refl e153 F_a1_text (g := (mkF m 39 #[.val (.ref a1), .val (.int (0 : Int32))] [(.ref a1), (.int v_pos), (.ref a1)])) rfl rfl (hb hby d6_39)
    obtain ⟨T155, X155, e155, st155⟩ := getF X154 hx hZ hown (host := "") (Or.inl (hw _ (List.mem_of_getElem? (i := 44) rfl))) Via.refl e154 F_a1_pos (g := (mkF m 43 #[.val (.ref a1), .val (.int (0 : Int32))] [(.ref a1), (.ref t1), (.int v_pos), (.ref a1)])) rfl rfl (hb hby d6_43)
    obtain ⟨cx156, Ar156, qq156, S156, N156_, H156, G156⟩ := id V_t1
    have hin156 : ¬ (v_pos < 0 ∨ cx156.slots.size ≤ (v_pos).toNatClampNeg) := inb_of S156 ⟨hp0, hp4⟩
    have hat156 : cx156.slots[(v_pos).toNatClampNeg]? = some (.int (own_at4 c0 c1 c2 c3 v_pos)) := (H156 (v_pos).toNatClampNeg (Nat.lt_of_not_le fun w => hin156 (Or.inr w))).trans (congrArg some (own_at4_ok c0 c1 c2 c3 hp0 hp4))
    obtain ⟨T157, h157, X157, e157, W157, st157⟩ := putF X155 hx hZ hown (host := "") (Or.inl (hw _ (List.mem_of_getElem? (i := 44) rfl))) Via.refl e155 F_a1_pos E_a1 (Or.inl (hw _ (List.mem_of_getElem? (i := 45) rfl))) (hw _ (List.mem_of_getElem? (i := 2) rfl)) (ty := .int) (by decide) rfl rfl (g := (mkF m 87 #[.val (.ref a1), .val (.int (0 : Int32))] [(.int (v_pos + (1 : Int32))), (.ref a1)])) rfl rfl (hb hby d6_87)
    have Fw157 : Fld Z h157 a1 "com/example/endcon/endcon/yaml/Cursor" "pos" "I" (.int (v_pos + (1 : Int32))) := F_a1_pos.same W157
    have zs158 : n0 ≤ h157.size := Nat.le_trans Z0 (Keep.of_wr W157).1
    have kp159 : Keep h0 h157 [a1] := (Keep.refl h0 [a1]).wr W157 (Or.inl (List.mem_of_getElem? (i := 0) rfl))
    have N157 := Fr.snoc X157 N0 g_a1
    have fa160 : Fld Z h157 a1 "com/example/endcon/endcon/yaml/Cursor" "line" "I" (.int v_line) := (F_a1_line.other W157 (Or.inr (slot_ne (Or.inl (hw _ (List.mem_of_getElem? (i := 19) rfl))) (Or.inl (hw _ (List.mem_of_getElem? (i := 45) rfl))) (by decide) (t := .int) (t' := .int) (by decide) (by decide))))
    obtain ⟨T161, X161, e161, st161⟩ := getF X157 hx hZ hown (host := "") (Or.inl (hw _ (List.mem_of_getElem? (i := 18) rfl))) Via.refl e157 fa160 (g := (mkF m 96 #[.val (.ref a1), .val (.int (0 : Int32))] [(.ref a1), (.ref a1)])) rfl rfl (hb hby d6_96)
    have fa162 : Exa Z h157 a1 "com/example/endcon/endcon/yaml/Cursor" := (E_a1.wr W157)
    obtain ⟨T163, h163, X163, e163, W163, st163⟩ := putF X161 hx hZ hown (host := "") (Or.inl (hw _ (List.mem_of_getElem? (i := 18) rfl))) Via.refl e161 fa160 fa162 (Or.inl (hw _ (List.mem_of_getElem? (i := 19) rfl))) (hw _ (List.mem_of_getElem? (i := 2) rfl)) (ty := .int) (by decide) rfl rfl (g := (mkF m 101 #[.val (.ref a1), .val (.int (0 : Int32))] [(.int (v_line + (1 : Int32))), (.ref a1)])) rfl rfl (hb hby d6_101)
    have Fw163 : Fld Z h163 a1 "com/example/endcon/endcon/yaml/Cursor" "line" "I" (.int (v_line + (1 : Int32))) := fa160.same W163
    have zs164 : n0 ≤ h163.size := Nat.le_trans zs158 (Keep.of_wr W163).1
    have kp165 : Keep h0 h163 [a1] := kp159.wr W163 (Or.inl (List.mem_of_getElem? (i := 0) rfl))
    have N163 := Fr.snoc X163 N157 g_a1
    have fa166 : Fld Z h163 a1 "com/example/endcon/endcon/yaml/Cursor" "pos" "I" (.int (v_pos + (1 : Int32))) := (Fw157.other W163 (Or.inr (slot_ne (Or.inl (hw _ (List.mem_of_getElem? (i := 45) rfl))) (Or.inl (hw _ (List.mem_of_getElem? (i := 19) rfl))) (by decide) (t := .int) (t' := .int) (by decide) (by decide))))
    obtain ⟨T167, X167, e167, st167⟩ := getF X163 hx hZ hown (host := "") (Or.inl (hw _ (List.mem_of_getElem? (i := 44) rfl))) Via.refl e163 fa166 (g := (mkF m 106 #[.val (.ref a1), .val (.int (0 : Int32))] [(.ref a1), (.ref a1)])) rfl rfl (hb hby d6_106)
    have fa168 : Fld Z h163 a1 "com/example/endcon/endcon/yaml/Cursor" "lineStart" "I" (.int v_ls) := ((F_a1_lineStart.other W157 (Or.inr (slot_ne (Or.inl (hw _ (List.mem_of_getElem? (i := 52) rfl))) (Or.inl (hw _ (List.mem_of_getElem? (i := 45) rfl))) (by decide) (t := .int) (t' := .int) (by decide) (by decide)))).other W163 (Or.inr (slot_ne (Or.inl (hw _ (List.mem_of_getElem? (i := 52) rfl))) (Or.inl (hw _ (List.mem_of_getElem? (i := 19) rfl))) (by decide) (t := .int) (t' := .int) (by decide) (by decide))))
    have fa169 : Exa Z h163 a1 "com/example/endcon/endcon/yaml/Cursor" := (fa162.wr W163)
    obtain ⟨T170, h170, X170, e170, W170, st170⟩ := putF X167 hx hZ hown (host := "") (Or.inl (hw _ (List.mem_of_getElem? (i := 51) rfl))) Via.refl e167 fa168 fa169 (Or.inl (hw _ (List.mem_of_getElem? (i := 52) rfl))) (hw _ (List.mem_of_getElem? (i := 2) rfl)) (ty := .int) (by decide) rfl rfl (g := (mkF m 109 #[.val (.ref a1), .val (.int (0 : Int32))] [(.int (v_pos + (1 : Int32))), (.ref a1)])) rfl rfl (hb hby d6_109)
    have Fw170 : Fld Z h170 a1 "com/example/endcon/endcon/yaml/Cursor" "lineStart" "I" (.int (v_pos + (1 : Int32))) := fa168.same W170
    have zs171 : n0 ≤ h170.size := Nat.le_trans zs164 (Keep.of_wr W170).1
    have kp172 : Keep h0 h170 [a1] := kp165.wr W170 (Or.inl (List.mem_of_getElem? (i := 0) rfl))
    have N170 := Fr.snoc X170 N163 g_a1
    obtain ⟨fs, hr, hrun, hended, hW, hsame⟩ := X170.leave (v := none) (fun _ => rfl)
    refine ⟨_, _, pre4 _ ?_, hrun, hended, _, _, rfl, ?_, ⟨_, rfl⟩, hW, hsame.mono (by decide) (by decide)⟩
    · show Steps p.tables e below (T2.setTop (mkF m 11 #[.val (.ref a1), .unset] [(.int (13 : Int32)), (.int (own_at4 c0 c1 c2 c3 v_pos))])) _
      refine XS.icmpYes X2.here hx rfl (pc0 := 11) (pc' := 31) rfl (hb hby d6_11) rfl (feq hc5).2 (by decide) (by decide) ?_
      show Steps p.tables e below (T2.setTop (mkF m 31 #[.val (.ref a1), .unset] [])) _
      refine own_blk X2 hx bl6_31_2 (own_hb hby bd6_31_2) (pc' := 33) (Ls' := #[.val (.ref a1), .val (.int (0 : Int32))]) (st' := []) rfl ?_
      refine own_blk X2 hx bl6_33_2 (own_hb hby bd6_33_2) (pc' := 35) (Ls' := #[.val (.ref a1), .val (.int (0 : Int32))]) (st' := [(.ref a1), (.ref a1)]) rfl ?_
      refine st153 _ ?_
      show Steps p.tables e below (T153.setTop (mkF m 38 #[.val (.ref a1), .val (.int (0 : Int32))] [(.int v_pos), (.ref a1)])) _
      refine own_blk X153 hx bl6_38_1 (own_hb hby bd6_38_1) (pc' := 39) (Ls' := #[.val (.ref a1), .val (.int (0 : Int32))]) (st' := [(.ref a1), (.int v_pos), (.ref a1)]) rfl ?_
      refine st154 _ ?_
      show Steps p.tables e below (T154.setTop (mkF m 42 #[.val (.ref a1), .val (.int (0 : Int32))] [(.ref t1), (.int v_pos), (.ref a1)])) _
      refine own_blk X154 hx bl6_42_1 (own_hb hby bd6_42_1) (pc' := 43) (Ls' := #[.val (.ref a1), .val (.int (0 : Int32))]) (st' := [(.ref a1), (.ref t1), (.int v_pos), (.ref a1)]) rfl ?_
      refine st155 _ ?_
      show Steps p.tables e below (T155.setTop (mkF m 46 #[.val (.ref a1), .val (.int (0 : Int32))] [(.int v_pos), (.ref t1), (.int v_pos), (.ref a1)])) _
      refine X155.caload hx (j := v_pos) (v := (.int (own_at4 c0 c1 c2 c3 v_pos))) (by rw [e155]; exact Ar156.1) (State.isArrayOf_alike hZ.alike Ar156.2.1) Ar156.2.2 hin156 hat156 (g := (mkF m 46 #[.val (.ref a1), .val (.int (0 : Int32))] [(.int v_pos), (.ref t1), (.int v_pos), (.ref a1)])) rfl rfl (hb hby d6_46) _ ?_
      show Steps p.tables e below (T155.setTop (mkF m 47 #[.val (.ref a1), .val (.int (0 : Int32))] [(.int (own_at4 c0 c1 c2 c3 v_pos)), (.int v_pos), (.ref a1)])) _
      refine own_blk X155 hx bl6_47_1 (own_hb hby bd6_47_1) (pc' := 49) (Ls' := #[.val (.ref a1), .val (.int (0 : Int32))]) (st' := [(.int (13 : Int32)), (.int (own_at4 c0 c1 c2 c3 v_pos)), (.int v_pos), (.ref a1)]) rfl ?_
      refine XS.icmpYes X155.here hx rfl (pc0 := 49) (pc' := 85) rfl (hb hby d6_49) rfl (feq hc5).2 (by decide) (by decide) ?_
      show Steps p.tables e below (T155.setTop (mkF m 85 #[.val (.ref a1), .val (.int (0 : Int32))] [(.int v_pos), (.ref a1)])) _
      refine own_blk X155 hx bl6_85_2 (own_hb hby bd6_85_2) (pc' := 87) (Ls' := #[.val (.ref a1), .val (.int (0 : Int32))]) (st' := [(.int (v_pos + (1 : Int32))), (.ref a1)]) rfl ?_
      refine st157 _ ?_
      show Steps p.tables e below (T157.setTop (mkF m 90 #[.val (.ref a1), .val (.int (0 : Int32))] [])) _
      refine own_blk X157 hx bl6_90_1 (own_hb hby bd6_90_1) (pc' := 91) (Ls' := #[.val (.ref a1), .val (.int (0 : Int32))]) (st' := [(.int (0 : Int32))]) rfl ?_
      refine XS.ifNo X157.here hx rfl (hb hby d6_91) rfl ((if0 _ _).trans (teq (by decide : (0 : Int32) = (0 : Int32))).2) ?_
      show Steps p.tables e below (T157.setTop (mkF m 94 #[.val (.ref a1), .val (.int (0 : Int32))] [])) _
      refine own_blk X157 hx bl6_94_2 (own_hb hby bd6_94_2) (pc' := 96) (Ls' := #[.val (.ref a1), .val (.int (0 : Int32))]) (st' := [(.ref a1), (.ref a1)]) rfl ?_
      refine st161 _ ?_
      show Steps p.tables e below (T161.setTop (mkF m 99 #[.val (.ref a1), .val (.int (0 : Int32))] [(.int v_line), (.ref a1)])) _
      refine own_blk X161 hx bl6_99_2 (own_hb hby bd6_99_2) (pc' := 101) (Ls' := #[.val (.ref a1), .val (.int (0 : Int32))]) (st' := [(.int (v_line + (1 : Int32))), (.ref a1)]) rfl ?_
      refine st163 _ ?_
      show Steps p.tables e below (T163.setTop (mkF m 104 #[.val (.ref a1), .val (.int (0 : Int32))] [])) _
      refine own_blk X163 hx bl6_104_2 (own_hb hby bd6_104_2) (pc' := 106) (Ls' := #[.val (.ref a1), .val (.int (0 : Int32))]) (st' := [(.ref a1), (.ref a1)]) rfl ?_
      refine st167 _ ?_
      show Steps p.tables e below (T167.setTop (mkF m 109 #[.val (.ref a1), .val (.int (0 : Int32))] [(.int (v_pos + (1 : Int32))), (.ref a1)])) _
      refine st170 _ ?_
      show Steps p.tables e below (T170.setTop (mkF m 112 #[.val (.ref a1), .val (.int (0 : Int32))] [])) _
      exact X170.returnOut hx Bd.returns (hb hby d6_112) hr
    · show Q6 Z a1 t1 c0 c1 c2 c3 v_end v_pos v_line v_ls k_t1 h0 n0 _ T170.heap _
      rw [e170]
      have fa173 : Exa Z h170 a1 "com/example/endcon/endcon/yaml/Cursor" := (fa169.wr W170)
      have fa174 : Fld Z h170 a1 "com/example/endcon/endcon/yaml/Cursor" "text" "[C" (.ref t1) := (((F_a1_text.other W157 (Or.inr (slot_ne (Or.inl (hw _ (List.mem_of_getElem? (i := 27) rfl))) (Or.inl (hw _ (List.mem_of_getElem? (i := 45) rfl))) (by decide) (t := (.array .char)) (t' := .int) (by decide) (by decide)))).other W163 (Or.inr (slot_ne (Or.inl (hw _ (List.mem_of_getElem? (i := 27) rfl))) (Or.inl (hw _ (List.mem_of_getElem? (i := 19) rfl))) (by decide) (t := (.array .char)) (t' := .int) (by decide) (by decide)))).other W170 (Or.inr (slot_ne (Or.inl (hw _ (List.mem_of_getElem? (i := 27) rfl))) (Or.inl (hw _ (List.mem_of_getElem? (i := 52) rfl))) (by decide) (t := (.array .char)) (t' := .int) (by decide) (by decide))))
      have lf175 := fa174
      have fa176 : Fld Z h170 a1 "com/example/endcon/endcon/yaml/Cursor" "end" "I" (.int v_end) := (((F_a1_end.other W157 (Or.inr (slot_ne (Or.inr (hw _ (List.mem_of_getElem? (i := 29) rfl))) (Or.inl (hw _ (List.mem_of_getElem? (i := 45) rfl))) (by decide) (t := .int) (t' := .int) (by decide) (by decide)))).other W163 (Or.inr (slot_ne (Or.inr (hw _ (List.mem_of_getElem? (i := 29) rfl))) (Or.inl (hw _ (List.mem_of_getElem? (i := 19) rfl))) (by decide) (t := .int) (t' := .int) (by decide) (by decide)))).other W170 (Or.inr (slot_ne (Or.inr (hw _ (List.mem_of_getElem? (i := 29) rfl))) (Or.inl (hw _ (List.mem_of_getElem? (i := 52) rfl))) (by decide) (t := .int) (t' := .int) (by decide) (by decide))))
      have lf177 := fa176
      have fa178 : Fld Z h170 a1 "com/example/endcon/endcon/yaml/Cursor" "pos" "I" (.int (v_pos + (1 : Int32))) := (fa166.other W170 (Or.inr (slot_ne (Or.inl (hw _ (List.mem_of_getElem? (i := 45) rfl))) (Or.inl (hw _ (List.mem_of_getElem? (i := 52) rfl))) (by decide) (t := .int) (t' := .int) (by decide) (by decide))))
      have lf179 : Fld Z h170 a1 "com/example/endcon/endcon/yaml/Cursor" "pos" "I" (.int (f6_a1_pos c0 c1 c2 c3 v_end v_pos v_line v_ls)) := by rw [f6_a1_pos, if_neg hc5]; exact fa178
      have fa180 : Fld Z h170 a1 "com/example/endcon/endcon/yaml/Cursor" "line" "I" (.int (v_line + (1 : Int32))) := (Fw163.other W170 (Or.inr (slot_ne (Or.inl (hw _ (List.mem_of_getElem? (i := 19) rfl))) (Or.inl (hw _ (List.mem_of_getElem? (i := 52) rfl))) (by decide) (t := .int) (t' := .int) (by decide) (by decide))))
      have lf181 : Fld Z h170 a1 "com/example/endcon/endcon/yaml/Cursor" "line" "I" (.int (f6_a1_line c0 c1 c2 c3 v_end v_pos v_line v_ls)) := by rw [f6_a1_line, if_neg hc5]; exact fa180
      have lf182 : Fld Z h170 a1 "com/example/endcon/endcon/yaml/Cursor" "lineStart" "I" (.int (f6_a1_lineStart c0 c1 c2 c3 v_end v_pos v_line v_ls)) := by rw [f6_a1_lineStart, if_neg hc5]; exact Fw170
      exact ⟨rfl, N170, kp172, fa173, lf175, lf177, lf179, lf181, lf182⟩
theorem d5_0 : decode prog_114_method_13_code 0 = .ok (.aload_n 0, 1) := by decide +kernel
theorem d5_1 : decode prog_114_method_13_code 1 = .ok (.getfield 41, 3) := by decide +kernel
theorem d5_4 : decode prog_114_method_13_code 4 = .ok (.aload_n 0, 1) := by decide +kernel
theorem d5_5 : decode prog_114_method_13_code 5 = .ok (.getfield 27, 3) := by decide +kernel
theorem d5_8 : decode prog_114_method_13_code 8 = .ok (.if_icmp .ge 31, 3) := by decide +kernel
theorem d5_11 : decode prog_114_method_13_code 11 = .ok (.aload_n 0, 1) := by decide +kernel
theorem d5_12 : decode prog_114_method_13_code 12 = .ok (.getfield 41, 3) := by decide +kernel
theorem d5_15 : decode prog_114_method_13_code 15 = .ok (.aload_n 0, 1) := by decide +kernel
theorem d5_16 : decode prog_114_method_13_code 16 = .ok (.getfield 44, 3) := by decide +kernel
theorem d5_19 : decode prog_114_method_13_code 19 = .ok (.if_icmp .ne 20, 3) := by decide +kernel
theorem d5_22 : decode prog_114_method_13_code 22 = .ok (.aload_n 0, 1) := by decide +kernel
theorem d5_23 : decode prog_114_method_13_code 23 = .ok (.getfield 23, 3) := by decide +kernel
theorem d5_26 : decode prog_114_method_13_code 26 = .ok (.aload_n 0, 1) := by decide +kernel
theorem d5_27 : decode prog_114_method_13_code 27 = .ok (.getfield 41, 3) := by decide +kernel
theorem d5_30 : decode prog_114_method_13_code 30 = .ok (.caload, 1) := by decide +kernel
theorem d5_31 : decode prog_114_method_13_code 31 = .ok (.iload_n 1, 1) := by decide +kernel
theorem d5_32 : decode prog_114_method_13_code 32 = .ok (.if_icmp .ne 7, 3) := by decide +kernel
theorem d5_35 : decode prog_114_method_13_code 35 = .ok (.iconst 1, 1) := by decide +kernel
theorem d5_36 : decode prog_114_method_13_code 36 = .ok (.goto 4, 3) := by decide +kernel
theorem d5_39 : decode prog_114_method_13_code 39 = .ok (.iconst 0, 1) := by decide +kernel
theorem d5_40 : decode prog_114_method_13_code 40 = .ok (.ireturn, 1) := by decide +kernel
theorem pn_5 : plainName "com/example/endcon/endcon/yaml/Cursor" = true := by first | (simp [plainName, overriddenIn]; done) | decide +kernel
theorem ef_5 (m : MethodId) (x0 : Addr) (x1 : Int32) : entryFrame m #[(.ref x0), (.int x1)] 2 = mkF m 0 #[.val (.ref x0), .val (.int x1)] [] := by first | (simp [entryFrame, mkF, argsToLocals, Value.category]; done) | rfl
def bl5_0_1 : List (Nat × Instr × Nat) := [(0, .aload_n 0, 1)]
theorem bd5_0_1 : own_dec prog_114_method_13_code bl5_0_1 = true := by decide +kernel
def bl5_4_1 : List (Nat × Instr × Nat) := [(4, .aload_n 0, 1)]
theorem bd5_4_1 : own_dec prog_114_method_13_code bl5_4_1 = true := by decide +kernel
def bl5_11_1 : List (Nat × Instr × Nat) := [(11, .aload_n 0, 1)]
theorem bd5_11_1 : own_dec prog_114_method_13_code bl5_11_1 = true := by decide +kernel
def bl5_15_1 : List (Nat × Instr × Nat) := [(15, .aload_n 0, 1)]
theorem bd5_15_1 : own_dec prog_114_method_13_code bl5_15_1 = true := by decide +kernel
def bl5_22_1 : List (Nat × Instr × Nat) := [(22, .aload_n 0, 1)]
theorem bd5_22_1 : own_dec prog_114_method_13_code bl5_22_1 = true := by decide +kernel
def bl5_26_1 : List (Nat × Instr × Nat) := [(26, .aload_n 0, 1)]
theorem bd5_26_1 : own_dec prog_114_method_13_code bl5_26_1 = true := by decide +kernel
def bl5_31_1 : List (Nat × Instr × Nat) := [(31, .iload_n 1, 1)]
theorem bd5_31_1 : own_dec prog_114_method_13_code bl5_31_1 = true := by decide +kernel
def bl5_35_2 : List (Nat × Instr × Nat) := [(35, .iconst 1, 1), (36, .goto 4, 3)]
theorem bd5_35_2 : own_dec prog_114_method_13_code bl5_35_2 = true := by decide +kernel
def bl5_39_1 : List (Nat × Instr × Nat) := [(39, .iconst 0, 1)]
theorem bd5_39_1 : own_dec prog_114_method_13_code bl5_39_1 = true := by decide +kernel

def f5 (p2 : Int32) (c0 : Int32) (c1 : Int32) (c2 : Int32) (c3 : Int32) (v_end : Int32) (v_pos : Int32) (v_line : Int32) (v_ls : Int32) : Int32 := (if v_pos < v_end then (if v_pos = v_ls then (if (own_at4 c0 c1 c2 c3 v_pos) = p2 then (1 : Int32) else (0 : Int32)) else (0 : Int32)) else (0 : Int32))
def Q5 (Z : State) (a1 : Addr) (p2 : Int32) (t1 : Addr) (c0 : Int32) (c1 : Int32) (c2 : Int32) (c3 : Int32) (v_end : Int32) (v_pos : Int32) (v_line : Int32) (v_ls : Int32) (k_t1 : ClassId) (h0 : Heap) (n0 : Nat) (v : Option Value) (h : Heap) (L : List Loc) : Prop := v = some (.int (f5 p2 c0 c1 c2 c3 v_end v_pos v_line v_ls)) ∧ Fr n0 L ∧ h = h0
set_option maxRecDepth 65536 in
set_option maxHeartbeats 40000000 in
theorem rm5 (l : Launch) (Z : State) (a0 : Array Value) (hw : ∀ d ∈ tables_1, d.before a0 Z = true) (ws : List Jvm.Cond) (a1 : Addr) (p2 : Int32) (t1 : Addr) (c0 : Int32) (c1 : Int32) (c2 : Int32) (c3 : Int32) (v_end : Int32) (v_pos : Int32) (v_line : Int32) (v_ls : Int32) (k_t1 : ClassId) (h0 : Heap) (n0 : Nat) (Z0 : n0 ≤ h0.size) (E_a1 : Exa Z h0 a1 "com/example/endcon/endcon/yaml/Cursor") (F_a1_text : Fld Z h0 a1 "com/example/endcon/endcon/yaml/Cursor" "text" "[C" (.ref t1)) (F_a1_end : Fld Z h0 a1 "com/example/endcon/endcon/yaml/Cursor" "end" "I" (.int v_end)) (F_a1_pos : Fld Z h0 a1 "com/example/endcon/endcon/yaml/Cursor" "pos" "I" (.int v_pos)) (F_a1_line : Fld Z h0 a1 "com/example/endcon/endcon/yaml/Cursor" "line" "I" (.int v_line)) (F_a1_lineStart : Fld Z h0 a1 "com/example/endcon/endcon/yaml/Cursor" "lineStart" "I" (.int v_ls)) (V_t1 : Arv Z h0 t1 k_t1 .char (4 : Int32) [(.int c0), (.int c1), (.int c2), (.int c3)] (.int (0 : Int32))) (hq : v_pos < v_end → ¬ (v_pos < 0) ∧ v_pos < 4) :
    MetFree l (⟨"com/example/endcon/endcon/yaml/Cursor", "atLineStart", "(C)Z"⟩ : MethodName) (head1 (Jvm.Cond.code (⟨"com/example/endcon/endcon/yaml/Cursor", "atLineStart", "(C)Z"⟩ : MethodName) prog_114_method_13_code 2 (some .boolean) :: ws) ({ frames := 0, cells := 0, slots := 0, locals := 0 } : Room)) (fun a U => a = #[(.ref a1), (.int p2)] ∧ Z.Warmed39 U.vm ∧ U.heap = h0) (fun _ _ _ _ _ => True) (fun _ U o U' => ∃ v L, o = .returned v ∧ Q5 Z a1 p2 t1 c0 c1 c2 c3 v_end v_pos v_line v_ls k_t1 h0 n0 v U'.heap L ∧ FrameEnd U o U' L ({ frames := 0, cells := 0, slots := 0, locals := 0 } : Room).cells ({ frames := 0, cells := 0, slots := 0, locals := 0 } : Room).slots) := by
  refine MetFree.of_bodySF (plainFor_of_name pn_5) hisR ?_
  intro p e s m args below meth c s₁ Bd hml0 hP hK
  obtain ⟨rfl, hZ, hh⟩ := hP
  have hx := Bd.exec
  have hby := Bd.bytes
  have hml : c.maxLocals = 2 := hml0
  have hown : s.vm.findClass "com/example/endcon/endcon/yaml/Cursor" = some m.cls := findClass_of_methodNamed Bd.named
  have hnm := (name_of_methodNamed Bd.named Bd.method).1
  have X0 : Stand p l e ({ frames := 0, cells := 0, slots := 0, locals := 0 } : Room) s m #[(.ref a1), (.int p2)] below meth c s₁ [] 0 0 := Stand.of_body Bd
  have e0 : s₁.heap = h0 := by rw [← hh, Bd.state]; rfl
  have N0 := Fr.nil n0
  have pre0 : ∀ t, Steps p.tables e below (s₁.setTop (mkF m 0 #[.val (.ref a1), .val (.int p2)] [])) t → Steps p.tables e below (s₁.setTop (entryFrame m #[(.ref a1), (.int p2)] 2)) t := fun t k => castTop (ef_5 m a1 p2) k
  obtain ⟨T1, X1, e1, st1⟩ := getF X0 hx hZ hown (host := "") (Or.inl (hw _ (List.mem_of_getElem? (i := 44) rfl))) Via.refl e0 F_a1_pos (g := (mkF m 1 #[.val (.ref a1), .val (.int p2)] [(.ref a1)])) rfl rfl (hb hby d5_1)
  obtain ⟨T2, X2, e2, st2⟩ := getF X1 hx hZ hown (host := "") (Or.inl (hw _ (List.mem_of_getElem? (i := 28) rfl))) Via.refl e1 F_a1_end (g := (mkF m 5 #[.val (.ref a1), .val (.int p2)] [(.ref a1), (.int v_pos)])) rfl rfl (hb hby d5_5)
  have pre3 : ∀ t, Steps p.tables e below (T2.setTop (mkF m 8 #[.val (.ref a1), .val (.int p2)] [(.int v_end), (.int v_pos)])) t → Steps p.tables e below (s₁.setTop (entryFrame m #[(.ref a1), (.int p2)] 2)) t := fun t kt => by
    refine pre0 _ ?_
    show Steps p.tables e below (s₁.setTop (mkF m 0 #[.val (.ref a1), .val (.int p2)] [])) _
    refine own_blk X0 hx bl5_0_1 (own_hb hby bd5_0_1) (pc' := 1) (Ls' := #[.val (.ref a1), .val (.int p2)]) (st' := [(.ref a1)]) rfl ?_
    refine st1 _ ?_
    show Steps p.tables e below (T1.setTop (mkF m 4 #[.val (.ref a1), .val (.int p2)] [(.int v_pos)])) _
    refine own_blk X1 hx bl5_4_1 (own_hb hby bd5_4_1) (pc' := 5) (Ls' := #[.val (.ref a1), .val (.int p2)]) (st' := [(.ref a1), (.int v_pos)]) rfl ?_
    refine st2 _ ?_
    exact kt
  by_cases hc4 : v_pos < v_end
  · obtain ⟨T5, X5, e5, st5⟩ := getF X2 hx hZ hown (host := "") (Or.inl (hw _ (List.mem_of_getElem? (i := 44) rfl))) Via.refl e2 F_a1_pos (g := (mkF m 12 #[.val (.ref a1), .val (.int p2)] [(.ref a1)])) rfl rfl (hb hby d5_12)
    obtain ⟨T6, X6, e6, st6⟩ := getF X5 hx hZ hown (host := "") (Or.inl (hw _ (List.mem_of_getElem? (i := 51) rfl))) Via.refl e5 F_a1_lineStart (g := (mkF m 16 #[.val (.ref a1), .val (.int p2)] [(.ref a1), (.int v_pos)])) rfl rfl (hb hby d5_16)
    have pre7 : ∀ t, Steps p.tables e below (T6.setTop (mkF m 19 #[.val (.ref a1), .val (.int p2)] [(.int v_ls), (.int v_pos)])) t → Steps p.tables e below (s₁.setTop (entryFrame m #[(.ref a1), (.int p2)] 2)) t := fun t kt => by
      refine pre3 _ ?_
      show Steps p.tables e below (T2.setTop (mkF m 8 #[.val (.ref a1), .val (.int p2)] [(.int v_end), (.int v_pos)])) _
      refine XS.icmpNo X2.here hx rfl (hb hby d5_8) rfl (tlt hc4).2.1 ?_
      show Steps p.tables e below (T2.setTop (mkF m 11 #[.val (.ref a1), .val (.int p2)] [])) _
      refine own_blk X2 hx bl5_11_1 (own_hb hby bd5_11_1) (pc' := 12) (Ls' := #[.val (.ref a1), .val (.int p2)]) (st' := [(.ref a1)]) rfl ?_
      refine st5 _ ?_
      show Steps p.tables e below (T5.setTop (mkF m 15 #[.val (.ref a1), .val (.int p2)] [(.int v_pos)])) _
      refine own_blk X5 hx bl5_15_1 (own_hb hby bd5_15_1) (pc' := 16) (Ls' := #[.val (.ref a1), .val (.int p2)]) (st' := [(.ref a1), (.int v_pos)]) rfl ?_
      refine st6 _ ?_
      exact kt
    by_cases hc8 : v_pos = v_ls
    · obtain ⟨T9, X9, e9, st9⟩ := getF X6 hx hZ hown (host := "") (Or.inl (hw _ (List.mem_of_getElem? (i := 26) rfl))) Via.refl e6 F_a1_text (g := (mkF m 23 #[.val (.ref a1), .val (.int p2)] [(.ref a1)])) rfl rfl (hb hby d5_23)
      obtain ⟨T10, X10, e10, st10⟩ := getF X9 hx hZ hown (host := "") (Or.inl (hw _ (List.mem_of_getElem? (i := 44) rfl))) Via.refl e9 F_a1_pos (g := (mkF m 27 #[.val (.ref a1), .val (.int p2)] [(.ref a1), (.ref t1)])) rfl rfl (hb hby d5_27)
      obtain ⟨cx11, Ar11, qq11, S11, N11_, H11, G11⟩ := id V_t1
      have hin11 : ¬ (v_pos < 0 ∨ cx11.slots.size ≤ (v_pos).toNatClampNeg) := inb_of S11 ⟨(hq hc4).1, (hq hc4).2⟩
      have hat11 : cx11.slots[(v_pos).toNatClampNeg]? = some (.int (own_at4 c0 c1 c2 c3 v_pos)) := (H11 (v_pos).toNatClampNeg (Nat.lt_of_not_le fun w => hin11 (Or.inr w))).trans (congrArg some (own_at4_ok c0 c1 c2 c3 (hq hc4).1 (hq hc4).2))
      have pre12 : ∀ t, Steps p.tables e below (T10.setTop (mkF m 32 #[.val (.ref a1), .val (.int p2)] [(.int p2), (.int (own_at4 c0 c1 c2 c3 v_pos))])) t → Steps p.tables e below (s₁.setTop (entryFrame m #[(.ref a1), (.int p2)] 2)) t := fun t kt => by
        refine pre7 _ ?_
        show Steps p.tables e below (T6.setTop (mkF m 19 #[.val (.ref a1), .val (.int p2)] [(.int v_ls), (.int v_pos)])) _
        refine XS.icmpNo X6.here hx rfl (hb hby d5_19) rfl (teq hc8).2 ?_
        show Steps p.tables e below (T6.setTop (mkF m 22 #[.val (.ref a1), .val (.int p2)] [])) _
        refine own_blk X6 hx bl5_22_1 (own_hb hby bd5_22_1) (pc' := 23) (Ls' := #[.val (.ref a1), .val (.int p2)]) (st' := [(.ref a1)]) rfl ?_
        refine st9 _ ?_
        show Steps p.tables e below (T9.setTop (mkF m 26 #[.val (.ref a1), .val (.int p2)] [(.ref t1)])) _
        refine own_blk X9 hx bl5_26_1 (own_hb hby bd5_26_1) (pc' := 27) (Ls' := #[.val (.ref a1), .val (.int p2)]) (st' := [(.ref a1), (.ref t1)]) rfl ?_
        refine st10 _ ?_
        show Steps p.tables e below (T10.setTop (mkF m 30 #[.val (.ref a1), .val (.int p2)] [(.int v_pos), (.ref t1)])) _
        refine X10.caload hx (j := v_pos) (v := (.int (own_at4 c0 c1 c2 c3 v_pos))) (by rw [e10]; exact Ar11.1) (State.isArrayOf_alike hZ.alike Ar11.2.1) Ar11.2.2 hin11 hat11 (g := (mkF m 30 #[.val (.ref a1), .val (.int p2)] [(.int v_pos), (.ref t1)])) rfl rfl (hb hby d5_30) _ ?_
        show Steps p.tables e below (T10.setTop (mkF m 31 #[.val (.ref a1), .val (.int p2)] [(.int (own_at4 c0 c1 c2 c3 v_pos))])) _
        refine own_blk X10 hx bl5_31_1 (own_hb hby bd5_31_1) (pc' := 32) (Ls' := #[.val (.ref a1), .val (.int p2)]) (st' := [(.int p2), (.int (own_at4 c0 c1 c2 c3 v_pos))]) rfl ?_
        exact kt
      by_cases hc13 : (own_at4 c0 c1 c2 c3 v_pos) = p2
      · obtain ⟨fs, hr, hrun, hended, hW, hsame⟩ := X10.leave (v := some (.int (1 : Int32))) (fun h => by rw [Bd.returns] at h; cases h)
        refine ⟨_, _, pre12 _ ?_, hrun, hended, _, _, rfl, ?_, ⟨_, rfl⟩, hW, hsame.mono (by decide) (by decide)⟩
        · show Steps p.tables e below (T10.setTop (mkF m 32 #[.val (.ref a1), .val (.int p2)] [(.int p2), (.int (own_at4 c0 c1 c2 c3 v_pos))])) _
          refine XS.icmpNo X10.here hx rfl (hb hby d5_32) rfl (teq hc13).2 ?_
          show Steps p.tables e below (T10.setTop (mkF m 35 #[.val (.ref a1), .val (.int p2)] [])) _
          refine own_blk X10 hx bl5_35_2 (own_hb hby bd5_35_2) (pc' := 40) (Ls' := #[.val (.ref a1), .val (.int p2)]) (st' := [(.int (1 : Int32))]) rfl ?_
          exact retN X10 hx (t := .boolean) Bd.returns (by simp) (hb hby d5_40) hr
        · show Q5 Z a1 p2 t1 c0 c1 c2 c3 v_end v_pos v_line v_ls k_t1 h0 n0 _ T10.heap _
          rw [e10]
          exact ⟨by rw [f5, if_pos hc4, if_pos hc8, if_pos hc13], N0, rfl⟩
      · obtain ⟨fs, hr, hrun, hended, hW, hsame⟩ := X10.leave (v := some (.int (0 : Int32))) (fun h => by rw [Bd.returns] at h; cases h)
        refine ⟨_, _, pre12 _ ?_, hrun, hended, _, _, rfl, ?_, ⟨_, rfl⟩, hW, hsame.mono (by decide) (by decide)⟩
        · show Steps p.tables e below (T10.setTop (mkF m 32 #[.val (.ref a1), .val (.int p2)] [(.int p2), (.int (own_at4 c0 c1 c2 c3 v_pos))])) _
          refine XS.icmpYes X10.here hx rfl (pc0 := 32) (pc' := 39) rfl (hb hby d5_32) rfl (feq hc13).2 (by decide) (by decide) ?_
          show Steps p.tables e below (T10.setTop (mkF m 39 #[.val (.ref a1), .val (.int p2)] [])) _
          refine own_blk X10 hx bl5_39_1 (own_hb hby bd5_39_1) (pc' := 40) (Ls' := #[.val (.ref a1), .val (.int p2)]) (st' := [(.int (0 : Int32))]) rfl ?_
          exact retN X10 hx (t := .boolean) Bd.returns (by simp) (hb hby d5_40) hr
        · show Q5 Z a1 p2 t1 c0 c1 c2 c3 v_end v_pos v_line v_ls k_t1 h0 n0 _ T10.heap _
          rw [e10]
          exact ⟨by rw [f5, if_pos hc4, if_pos hc8, if_neg hc13], N0, rfl⟩
    · obtain ⟨fs, hr, hrun, hended, hW, hsame⟩ := X6.leave (v := some (.int (0 : Int32))) (fun h => by rw [Bd.returns] at h; cases h)
      refine ⟨_, _, pre7 _ ?_, hrun, hended, _, _, rfl, ?_, ⟨_, rfl⟩, hW, hsame.mono (by decide) (by decide)⟩
      · show Steps p.tables e below (T6.setTop (mkF m 19 #[.val (.ref a1), .val (.int p2)] [(.int v_ls), (.int v_pos)])) _
        refine XS.icmpYes X6.here hx rfl (pc0 := 19) (pc' := 39) rfl (hb hby d5_19) rfl (feq hc8).2 (by decide) (by decide) ?_
        show Steps p.tables e below (T6.setTop (mkF m 39 #[.val (.ref a1), .val (.int p2)] [])) _
        refine own_blk X6 hx bl5_39_1 (own_hb hby bd5_39_1) (pc' := 40) (Ls' := #[.val (.ref a1), .val (.int p2)]) (st' := [(.int (0 : Int32))]) rfl ?_
        exact retN X6 hx (t := .boolean) Bd.returns (by simp) (hb hby d5_40) hr
      · show Q5 Z a1 p2 t1 c0 c1 c2 c3 v_end v_pos v_line v_ls k_t1 h0 n0 _ T6.heap _
        rw [e6]
        exact ⟨by rw [f5, if_pos hc4, if_neg hc8], N0, rfl⟩
  · obtain ⟨fs, hr, hrun, hended, hW, hsame⟩ := X2.leave (v := some (.int (0 : Int32))) (fun h => by rw [Bd.returns] at h; cases h)
    refine ⟨_, _, pre3 _ ?_, hrun, hended, _, _, rfl, ?_, ⟨_, rfl⟩, hW, hsame.mono (by decide) (by decide)⟩
    · show Steps p.tables e below (T2.setTop (mkF m 8 #[.val (.ref a1), .val (.int p2)] [(.int v_end), (.int v_pos)])) _
      refine XS.icmpYes X2.here hx rfl (pc0 := 8) (pc' := 39) rfl (hb hby d5_8) rfl (flt hc4).2.1 (by decide) (by decide) ?_
      show Steps p.tables e below (T2.setTop (mkF m 39 #[.val (.ref a1), .val (.int p2)] [])) _
      refine own_blk X2 hx bl5_39_1 (own_hb hby bd5_39_1) (pc' := 40) (Ls' := #[.val (.ref a1), .val (.int p2)]) (st' := [(.int (0 : Int32))]) rfl ?_
      exact retN X2 hx (t := .boolean) Bd.returns (by simp) (hb hby d5_40) hr
    · show Q5 Z a1 p2 t1 c0 c1 c2 c3 v_end v_pos v_line v_ls k_t1 h0 n0 _ T2.heap _
      rw [e2]
      exact ⟨by rw [f5, if_neg hc4], N0, rfl⟩
theorem pd_0_2 : parseMethodDescriptor "(C)Z" = some ⟨[.char], some .boolean⟩ := by decide +kernel
def bl0_205_2 : List (Nat × Instr × Nat) := [(205, .iload 10, 2), (207, .iload 5, 2)]
theorem bd0_205_2 : own_dec code bl0_205_2 = true := by decide +kernel
def bl0_218_1 : List (Nat × Instr × Nat) := [(218, .iload 11, 2)]
theorem bd0_218_1 : own_dec code bl0_218_1 = true := by decide +kernel
def bl0_229_2 : List (Nat × Instr × Nat) := [(229, .aload 4, 2), (231, .iload 10, 2)]
theorem bd0_229_2 : own_dec code bl0_229_2 = true := by decide +kernel
def bl0_234_1 : List (Nat × Instr × Nat) := [(234, .iload 12, 2)]
theorem bd0_234_1 : own_dec code bl0_234_1 = true := by decide +kernel
def bl0_239_3 : List (Nat × Instr × Nat) := [(239, .iconst 1, 1), (240, .goto 4, 3), (244, .istore 13, 2)]
theorem bd0_239_3 : own_dec code bl0_239_3 = true := by decide +kernel
def bl0_246_2 : List (Nat × Instr × Nat) := [(246, .aload 9, 2), (248, .iload 12, 2)]
theorem bd0_246_2 : own_dec code bl0_246_2 = true := by decide +kernel
def bl0_253_1 : List (Nat × Instr × Nat) := [(253, .iload 13, 2)]
theorem bd0_253_1 : own_dec code bl0_253_1 = true := by decide +kernel
def bl0_258_2 : List (Nat × Instr × Nat) := [(258, .iconst 1, 1), (259, .goto 4, 3)]
theorem bd0_258_2 : own_dec code bl0_258_2 = true := by decide +kernel
def bl0_243_2 : List (Nat × Instr × Nat) := [(243, .iconst 0, 1), (244, .istore 13, 2)]
theorem bd0_243_2 : own_dec code bl0_243_2 = true := by decide +kernel
def bl0_223_2 : List (Nat × Instr × Nat) := [(223, .iconst 0, 1), (224, .istore 13, 2)]
theorem bd0_223_2 : own_dec code bl0_223_2 = true := by decide +kernel
def bl0_226_3 : List (Nat × Instr × Nat) := [(226, .goto 20, 3), (246, .aload 9, 2), (248, .iload 12, 2)]
theorem bd0_226_3 : own_dec code bl0_226_3 = true := by decide +kernel
def bl0_212_2 : List (Nat × Instr × Nat) := [(212, .iconst 0, 1), (213, .istore 13, 2)]
theorem bd0_212_2 : own_dec code bl0_212_2 = true := by decide +kernel
def bl0_215_3 : List (Nat × Instr × Nat) := [(215, .goto 31, 3), (246, .aload 9, 2), (248, .iload 12, 2)]
theorem bd0_215_3 : own_dec code bl0_215_3 = true := by decide +kernel
def fE (p1 : Int32) (p2 : Int32) (p3 : Int32) (p4 : Int32) (c0 : Int32) (c1 : Int32) (c2 : Int32) (c3 : Int32) (un : Int32) (u6 : Int32) (ud : Int32) (u8 : Int32) (up : Int32) (us : Int32) (ul : Int32) (um : Int32) (uc : Int32) : Int32 := (if up < un then (if um = (0 : Int32) then (if (own_at4 c0 c1 c2 c3 up) = uc then (1 : Int32) else (1 : Int32)) else (1 : Int32)) else (1 : Int32))
set_option maxRecDepth 65536 in
set_option maxHeartbeats 40000000 in
theorem tlE {p : Program} {l : Launch} {e : Env} {s : State} {m : MethodId} {args : Array Value} {below : List Frame} {meth : Method} {c : Code} {s₁ T0 : State} {locs : List Loc} {Z : State} {a0 : Array Value} {h0 : Heap} {n0 : Nat} {E : JFrame} {vm0 : Vm} {kk0 : Nat} (p1 : Int32) (p2 : Int32) (p3 : Int32) (p4 : Int32) (c0 : Int32) (c1 : Int32) (c2 : Int32) (c3 : Int32) (un : Int32) (u6 : Int32) (ud : Int32) (u8 : Int32) (up : Int32) (us : Int32) (ul : Int32) (um : Int32) (uc : Int32) (tb : Addr) (ob : Addr) (tk : ClassId)
    (X0 : Stand p l e room_1 (s.setVm vm0) m args below meth c T0 locs 4 24) (hx : p.tables.exec = Jvm.exec) (hZ : Z.Warmed39 (s.setVm vm0).vm) (hw : ∀ d ∈ tables_1, d.before a0 Z = true) (hby : c.code = code) (hml : c.maxLocals = 14) (hown : (s.setVm vm0).vm.findClass "com/example/endcon/endcon/yaml/CursorAtLineStartPinLaw" = some m.cls) (hret : meth.sig.returnType = some .boolean) (hlk : meth.locks = false) (e0 : T0.heap = h0) (N0 : Fr n0 locs) (Z0 : n0 ≤ h0.size) (hS0 : s.Since vm0 kk0) (hkk0 : kk0 ≤ h0.size)
    (pre0 : ∀ t, Steps p.tables e below (T0.setTop (mkF m 205 #[.val (.int p1), .val (.int p2), .val (.int p3), .val (.int p4), .val (.ref tb), .val (.int un), .val (.int u6), .val (.int ud), .val (.int u8), .val (.ref ob), .val (.int up), .val (.int um), .val (.int uc), .unset] [])) t → Steps p.tables e below (s₁.setTop E) t) (V_tb : Arv Z h0 tb tk .char (4 : Int32) [(.int c0), (.int c1), (.int c2), (.int c3)] (.int (0 : Int32))) (E_ob : Exa Z h0 ob "com/example/endcon/endcon/yaml/Cursor") (F_text : Fld Z h0 ob "com/example/endcon/endcon/yaml/Cursor" "text" "[C" (.ref tb)) (F_end : Fld Z h0 ob "com/example/endcon/endcon/yaml/Cursor" "end" "I" (.int un)) (F_pos : Fld Z h0 ob "com/example/endcon/endcon/yaml/Cursor" "pos" "I" (.int up)) (F_line : Fld Z h0 ob "com/example/endcon/endcon/yaml/Cursor" "line" "I" (.int ul)) (F_ls : Fld Z h0 ob "com/example/endcon/endcon/yaml/Cursor" "lineStart" "I" (.int us)) (hn4 : ¬ ((4 : Int32) < un)) (hp0 : ¬ up < 0) (hz1 : um = 0 → up = us) (hz2 : ¬ um = 0 → ¬ up = us) :
    ∃ s₂ o, Steps p.tables e below (s₁.setTop E) s₂ ∧ s₂.status = .running ∧ Ended s₂ below o ∧ ∃ v L, o = .returned v ∧ (v = some (.int (fE p1 p2 p3 p4 c0 c1 c2 c3 un u6 ud u8 up us ul um uc)) ∧ Fr n0 L) ∧ ReturnedEndW s o s₂ L room_1.cells room_1.slots := by
  have pre1 : ∀ t, Steps p.tables e below (T0.setTop (mkF m 209 #[.val (.int p1), .val (.int p2), .val (.int p3), .val (.int p4), .val (.ref tb), .val (.int un), .val (.int u6), .val (.int ud), .val (.int u8), .val (.ref ob), .val (.int up), .val (.int um), .val (.int uc), .unset] [(.int un), (.int up)])) t → Steps p.tables e below (s₁.setTop E) t := fun t kt => by
    refine pre0 _ ?_
    show Steps p.tables e below (T0.setTop (mkF m 205 #[.val (.int p1), .val (.int p2), .val (.int p3), .val (.int p4), .val (.ref tb), .val (.int un), .val (.int u6), .val (.int ud), .val (.int u8), .val (.ref ob), .val (.int up), .val (.int um), .val (.int uc), .unset] [])) _
    refine own_blk X0 hx bl0_205_2 (own_hb hby bd0_205_2) (pc' := 209) (Ls' := #[.val (.int p1), .val (.int p2), .val (.int p3), .val (.int p4), .val (.ref tb), .val (.int un), .val (.int u6), .val (.int ud), .val (.int u8), .val (.ref ob), .val (.int up), .val (.int um), .val (.int uc), .unset]) (st' := [(.int un), (.int up)]) rfl ?_
    exact kt
  by_cases hc2 : up < un
  · have pre3 : ∀ t, Steps p.tables e below (T0.setTop (mkF m 220 #[.val (.int p1), .val (.int p2), .val (.int p3), .val (.int p4), .val (.ref tb), .val (.int un), .val (.int u6), .val (.int ud), .val (.int u8), .val (.ref ob), .val (.int up), .val (.int um), .val (.int uc), .unset] [(.int um)])) t → Steps p.tables e below (s₁.setTop E) t := fun t kt => by
      refine pre1 _ ?_
      show Steps p.tables e below (T0.setTop (mkF m 209 #[.val (.int p1), .val (.int p2), .val (.int p3), .val (.int p4), .val (.ref tb), .val (.int un), .val (.int u6), .val (.int ud), .val (.int u8), .val (.ref ob), .val (.int up), .val (.int um), .val (.int uc), .unset] [(.int un), (.int up)])) _
      refine XS.icmpYes X0.here hx rfl (pc0 := 209) (pc' := 218) rfl (hb hby at_209) rfl (tlt hc2).1 (by decide) (by decide) ?_
      show Steps p.tables e below (T0.setTop (mkF m 218 #[.val (.int p1), .val (.int p2), .val (.int p3), .val (.int p4), .val (.ref tb), .val (.int un), .val (.int u6), .val (.int ud), .val (.int u8), .val (.ref ob), .val (.int up), .val (.int um), .val (.int uc), .unset] [])) _
      refine own_blk X0 hx bl0_218_1 (own_hb hby bd0_218_1) (pc' := 220) (Ls' := #[.val (.int p1), .val (.int p2), .val (.int p3), .val (.int p4), .val (.ref tb), .val (.int un), .val (.int u6), .val (.int ud), .val (.int u8), .val (.ref ob), .val (.int up), .val (.int um), .val (.int uc), .unset]) (st' := [(.int um)]) rfl ?_
      exact kt
    by_cases hc4 : um = (0 : Int32)
    · obtain ⟨cx5, Ar5, qq5, S5, N5_, H5, G5⟩ := id V_tb
      have hin5 : ¬ (up < 0 ∨ cx5.slots.size ≤ (up).toNatClampNeg) := inb_of S5 ⟨hp0, (own_lt4 hc2 hn4)⟩
      have hat5 : cx5.slots[(up).toNatClampNeg]? = some (.int (own_at4 c0 c1 c2 c3 up)) := (H5 (up).toNatClampNeg (Nat.lt_of_not_le fun w => hin5 (Or.inr w))).trans (congrArg some (own_at4_ok c0 c1 c2 c3 hp0 (own_lt4 hc2 hn4)))
      have pre6 : ∀ t, Steps p.tables e below (T0.setTop (mkF m 236 #[.val (.int p1), .val (.int p2), .val (.int p3), .val (.int p4), .val (.ref tb), .val (.int un), .val (.int u6), .val (.int ud), .val (.int u8), .val (.ref ob), .val (.int up), .val (.int um), .val (.int uc), .unset] [(.int uc), (.int (own_at4 c0 c1 c2 c3 up))])) t → Steps p.tables e below (s₁.setTop E) t := fun t kt => by
        refine pre3 _ ?_
        show Steps p.tables e below (T0.setTop (mkF m 220 #[.val (.int p1), .val (.int p2), .val (.int p3), .val (.int p4), .val (.ref tb), .val (.int un), .val (.int u6), .val (.int ud), .val (.int u8), .val (.ref ob), .val (.int up), .val (.int um), .val (.int uc), .unset] [(.int um)])) _
        refine XS.ifYes X0.here hx rfl (pc0 := 220) (pc' := 229) rfl (hb hby at_220) rfl ((if0 _ _).trans (teq hc4).1) (by decide) (by decide) ?_
        show Steps p.tables e below (T0.setTop (mkF m 229 #[.val (.int p1), .val (.int p2), .val (.int p3), .val (.int p4), .val (.ref tb), .val (.int un), .val (.int u6), .val (.int ud), .val (.int u8), .val (.ref ob), .val (.int up), .val (.int um), .val (.int uc), .unset] [])) _
        refine own_blk X0 hx bl0_229_2 (own_hb hby bd0_229_2) (pc' := 233) (Ls' := #[.val (.int p1), .val (.int p2), .val (.int p3), .val (.int p4), .val (.ref tb), .val (.int un), .val (.int u6), .val (.int ud), .val (.int u8), .val (.ref ob), .val (.int up), .val (.int um), .val (.int uc), .unset]) (st' := [(.int up), (.ref tb)]) rfl ?_
        refine X0.caload hx (j := up) (v := (.int (own_at4 c0 c1 c2 c3 up))) (by rw [e0]; exact Ar5.1) (State.isArrayOf_alike hZ.alike Ar5.2.1) Ar5.2.2 hin5 hat5 (g := (mkF m 233 #[.val (.int p1), .val (.int p2), .val (.int p3), .val (.int p4), .val (.ref tb), .val (.int un), .val (.int u6), .val (.int ud), .val (.int u8), .val (.ref ob), .val (.int up), .val (.int um), .val (.int uc), .unset] [(.int up), (.ref tb)])) rfl rfl (hb hby at_233) _ ?_
        show Steps p.tables e below (T0.setTop (mkF m 234 #[.val (.int p1), .val (.int p2), .val (.int p3), .val (.int p4), .val (.ref tb), .val (.int un), .val (.int u6), .val (.int ud), .val (.int u8), .val (.ref ob), .val (.int up), .val (.int um), .val (.int uc), .unset] [(.int (own_at4 c0 c1 c2 c3 up))])) _
        refine own_blk X0 hx bl0_234_1 (own_hb hby bd0_234_1) (pc' := 236) (Ls' := #[.val (.int p1), .val (.int p2), .val (.int p3), .val (.int p4), .val (.ref tb), .val (.int un), .val (.int u6), .val (.int ud), .val (.int u8), .val (.ref ob), .val (.int up), .val (.int um), .val (.int uc), .unset]) (st' := [(.int uc), (.int (own_at4 c0 c1 c2 c3 up))]) rfl ?_
        exact kt
      by_cases hc7 : (own_at4 c0 c1 c2 c3 up) = uc
      · obtain ⟨_, T8, Lc8, X8, hQ8, st8⟩ := own_callV X0 hx hZ (y := (⟨"com/example/endcon/endcon/yaml/Cursor", "atLineStart", "(C)Z"⟩ : MethodName)) hown (hw _ (List.mem_of_getElem? (i := 46) rfl)) (hw _ (List.mem_of_getElem? (i := 47) rfl)) (hw _ (List.mem_of_getElem? (i := 49) rfl)) (hw _ (List.mem_of_getElem? (i := 48) rfl)) (hw _ (List.mem_of_getElem? (i := 3) rfl)) (hw _ (List.mem_of_getElem? (i := 50) rfl)) (by decide) (W := 0) E_ob (argsL := [(.int uc)]) (rest := []) (rm5 l Z a0 hw [] ob uc tb c0 c1 c2 c3 un up ul us tk h0 n0 Z0 E_ob F_text F_end F_pos F_line F_ls V_tb (fun h => ⟨hp0, own_lt4 h hn4⟩)) (by decide) (by decide) (c' := 4) (s' := 24) rfl rfl (by decide) (by decide) e0 (g := (mkF m 250 #[.val (.int p1), .val (.int p2), .val (.int p3), .val (.int p4), .val (.ref tb), .val (.int un), .val (.int u6), .val (.int ud), .val (.int u8), .val (.ref ob), .val (.int up), .val (.int um), .val (.int uc), .val (.int (1 : Int32))] [(.int uc), (.ref ob)])) rfl (by rw [hml]; rfl) (lenOf pd_0_2 rfl) rfl (by show 2 * 0 + _ ≤ _; exact Nat.le_of_eq rfl) (hb hby at_250)
        obtain ⟨hv8, N8q, e8⟩ := hQ8
        have N8 := Fr.app N0 N8q
        rw [f5, if_pos hc2, if_pos (hz1 hc4), if_pos hc7] at hv8
        subst hv8
        obtain ⟨fs, hr, hrun, hended, hRW⟩ := X8.leaveW (s := s) hS0 (by rw [e8]; exact hkk0) (v := some (.int (1 : Int32))) (fun h => by rw [hret] at h; cases h)
        refine ⟨_, _, pre6 _ ?_, hrun, hended, _, _, rfl, ?_, ⟨_, rfl⟩, hRW.2.1, hRW.2.2.1, hRW.2.2.2.mono (by decide) (by decide)⟩
        · show Steps p.tables e below (T0.setTop (mkF m 236 #[.val (.int p1), .val (.int p2), .val (.int p3), .val (.int p4), .val (.ref tb), .val (.int un), .val (.int u6), .val (.int ud), .val (.int u8), .val (.ref ob), .val (.int up), .val (.int um), .val (.int uc), .unset] [(.int uc), (.int (own_at4 c0 c1 c2 c3 up))])) _
          refine XS.icmpNo X0.here hx rfl (hb hby at_236) rfl (teq hc7).2 ?_
          show Steps p.tables e below (T0.setTop (mkF m 239 #[.val (.int p1), .val (.int p2), .val (.int p3), .val (.int p4), .val (.ref tb), .val (.int un), .val (.int u6), .val (.int ud), .val (.int u8), .val (.ref ob), .val (.int up), .val (.int um), .val (.int uc), .unset] [])) _
          refine own_blk X0 hx bl0_239_3 (own_hb hby bd0_239_3) (pc' := 246) (Ls' := #[.val (.int p1), .val (.int p2), .val (.int p3), .val (.int p4), .val (.ref tb), .val (.int un), .val (.int u6), .val (.int ud), .val (.int u8), .val (.ref ob), .val (.int up), .val (.int um), .val (.int uc), .val (.int (1 : Int32))]) (st' := []) rfl ?_
          refine own_blk X0 hx bl0_246_2 (own_hb hby bd0_246_2) (pc' := 250) (Ls' := #[.val (.int p1), .val (.int p2), .val (.int p3), .val (.int p4), .val (.ref tb), .val (.int un), .val (.int u6), .val (.int ud), .val (.int u8), .val (.ref ob), .val (.int up), .val (.int um), .val (.int uc), .val (.int (1 : Int32))]) (st' := [(.int uc), (.ref ob)]) rfl ?_
          refine st8 _ ?_
          show Steps p.tables e below (T8.setTop (mkF m 253 #[.val (.int p1), .val (.int p2), .val (.int p3), .val (.int p4), .val (.ref tb), .val (.int un), .val (.int u6), .val (.int ud), .val (.int u8), .val (.ref ob), .val (.int up), .val (.int um), .val (.int uc), .val (.int (1 : Int32))] [(.int (1 : Int32))])) _
          refine own_blk X8 hx bl0_253_1 (own_hb hby bd0_253_1) (pc' := 255) (Ls' := #[.val (.int p1), .val (.int p2), .val (.int p3), .val (.int p4), .val (.ref tb), .val (.int un), .val (.int u6), .val (.int ud), .val (.int u8), .val (.ref ob), .val (.int up), .val (.int um), .val (.int uc), .val (.int (1 : Int32))]) (st' := [(.int (1 : Int32)), (.int (1 : Int32))]) rfl ?_
          refine XS.icmpNo X8.here hx rfl (hb hby at_255) rfl (teq (by decide : (1 : Int32) = (1 : Int32))).2 ?_
          show Steps p.tables e below (T8.setTop (mkF m 258 #[.val (.int p1), .val (.int p2), .val (.int p3), .val (.int p4), .val (.ref tb), .val (.int un), .val (.int u6), .val (.int ud), .val (.int u8), .val (.ref ob), .val (.int up), .val (.int um), .val (.int uc), .val (.int (1 : Int32))] [])) _
          refine own_blk X8 hx bl0_258_2 (own_hb hby bd0_258_2) (pc' := 263) (Ls' := #[.val (.int p1), .val (.int p2), .val (.int p3), .val (.int p4), .val (.ref tb), .val (.int un), .val (.int u6), .val (.int ud), .val (.int u8), .val (.ref ob), .val (.int up), .val (.int um), .val (.int uc), .val (.int (1 : Int32))]) (st' := [(.int (1 : Int32))]) rfl ?_
          exact retN X8 hx (t := .boolean) hret (by simp) (hb hby at_263) hr
        · exact ⟨by rw [fE, if_pos hc2, if_pos hc4, if_pos hc7], N8⟩
      · obtain ⟨_, T9, Lc9, X9, hQ9, st9⟩ := own_callV X0 hx hZ (y := (⟨"com/example/endcon/endcon/yaml/Cursor", "atLineStart", "(C)Z"⟩ : MethodName)) hown (hw _ (List.mem_of_getElem? (i := 46) rfl)) (hw _ (List.mem_of_getElem? (i := 47) rfl)) (hw _ (List.mem_of_getElem? (i := 49) rfl)) (hw _ (List.mem_of_getElem? (i := 48) rfl)) (hw _ (List.mem_of_getElem? (i := 3) rfl)) (hw _ (List.mem_of_getElem? (i := 50) rfl)) (by decide) (W := 0) E_ob (argsL := [(.int uc)]) (rest := []) (rm5 l Z a0 hw [] ob uc tb c0 c1 c2 c3 un up ul us tk h0 n0 Z0 E_ob F_text F_end F_pos F_line F_ls V_tb (fun h => ⟨hp0, own_lt4 h hn4⟩)) (by decide) (by decide) (c' := 4) (s' := 24) rfl rfl (by decide) (by decide) e0 (g := (mkF m 250 #[.val (.int p1), .val (.int p2), .val (.int p3), .val (.int p4), .val (.ref tb), .val (.int un), .val (.int u6), .val (.int ud), .val (.int u8), .val (.ref ob), .val (.int up), .val (.int um), .val (.int uc), .val (.int (0 : Int32))] [(.int uc), (.ref ob)])) rfl (by rw [hml]; rfl) (lenOf pd_0_2 rfl) rfl (by show 2 * 0 + _ ≤ _; exact Nat.le_of_eq rfl) (hb hby at_250)
        obtain ⟨hv9, N9q, e9⟩ := hQ9
        have N9 := Fr.app N0 N9q
        rw [f5, if_pos hc2, if_pos (hz1 hc4), if_neg hc7] at hv9
        subst hv9
        obtain ⟨fs, hr, hrun, hended, hRW⟩ := X9.leaveW (s := s) hS0 (by rw [e9]; exact hkk0) (v := some (.int (1 : Int32))) (fun h => by rw [hret] at h; cases h)
        refine ⟨_, _, pre6 _ ?_, hrun, hended, _, _, rfl, ?_, ⟨_, rfl⟩, hRW.2.1, hRW.2.2.1, hRW.2.2.2.mono (by decide) (by decide)⟩
        · show Steps p.tables e below (T0.setTop (mkF m 236 #[.val (.int p1), .val (.int p2), .val (.int p3), .val (.int p4), .val (.ref tb), .val (.int un), .val (.int u6), .val (.int ud), .val (.int u8), .val (.ref ob), .val (.int up), .val (.int um), .val (.int uc), .unset] [(.int uc), (.int (own_at4 c0 c1 c2 c3 up))])) _
          refine XS.icmpYes X0.here hx rfl (pc0 := 236) (pc' := 243) rfl (hb hby at_236) rfl (feq hc7).2 (by decide) (by decide) ?_
          show Steps p.tables e below (T0.setTop (mkF m 243 #[.val (.int p1), .val (.int p2), .val (.int p3), .val (.int p4), .val (.ref tb), .val (.int un), .val (.int u6), .val (.int ud), .val (.int u8), .val (.ref ob), .val (.int up), .val (.int um), .val (.int uc), .unset] [])) _
          refine own_blk X0 hx bl0_243_2 (own_hb hby bd0_243_2) (pc' := 246) (Ls' := #[.val (.int p1), .val (.int p2), .val (.int p3), .val (.int p4), .val (.ref tb), .val (.int un), .val (.int u6), .val (.int ud), .val (.int u8), .val (.ref ob), .val (.int up), .val (.int um), .val (.int uc), .val (.int (0 : Int32))]) (st' := []) rfl ?_
          refine own_blk X0 hx bl0_246_2 (own_hb hby bd0_246_2) (pc' := 250) (Ls' := #[.val (.int p1), .val (.int p2), .val (.int p3), .val (.int p4), .val (.ref tb), .val (.int un), .val (.int u6), .val (.int ud), .val (.int u8), .val (.ref ob), .val (.int up), .val (.int um), .val (.int uc), .val (.int (0 : Int32))]) (st' := [(.int uc), (.ref ob)]) rfl ?_
          refine st9 _ ?_
          show Steps p.tables e below (T9.setTop (mkF m 253 #[.val (.int p1), .val (.int p2), .val (.int p3), .val (.int p4), .val (.ref tb), .val (.int un), .val (.int u6), .val (.int ud), .val (.int u8), .val (.ref ob), .val (.int up), .val (.int um), .val (.int uc), .val (.int (0 : Int32))] [(.int (0 : Int32))])) _
          refine own_blk X9 hx bl0_253_1 (own_hb hby bd0_253_1) (pc' := 255) (Ls' := #[.val (.int p1), .val (.int p2), .val (.int p3), .val (.int p4), .val (.ref tb), .val (.int un), .val (.int u6), .val (.int ud), .val (.int u8), .val (.ref ob), .val (.int up), .val (.int um), .val (.int uc), .val (.int (0 : Int32))]) (st' := [(.int (0 : Int32)), (.int (0 : Int32))]) rfl ?_
          refine XS.icmpNo X9.here hx rfl (hb hby at_255) rfl (teq (by decide : (0 : Int32) = (0 : Int32))).2 ?_
          show Steps p.tables e below (T9.setTop (mkF m 258 #[.val (.int p1), .val (.int p2), .val (.int p3), .val (.int p4), .val (.ref tb), .val (.int un), .val (.int u6), .val (.int ud), .val (.int u8), .val (.ref ob), .val (.int up), .val (.int um), .val (.int uc), .val (.int (0 : Int32))] [])) _
          refine own_blk X9 hx bl0_258_2 (own_hb hby bd0_258_2) (pc' := 263) (Ls' := #[.val (.int p1), .val (.int p2), .val (.int p3), .val (.int p4), .val (.ref tb), .val (.int un), .val (.int u6), .val (.int ud), .val (.int u8), .val (.ref ob), .val (.int up), .val (.int um), .val (.int uc), .val (.int (0 : Int32))]) (st' := [(.int (1 : Int32))]) rfl ?_
          exact retN X9 hx (t := .boolean) hret (by simp) (hb hby at_263) hr
        · exact ⟨by rw [fE, if_pos hc2, if_pos hc4, if_neg hc7], N9⟩
    · obtain ⟨_, T10, Lc10, X10, hQ10, st10⟩ := own_callV X0 hx hZ (y := (⟨"com/example/endcon/endcon/yaml/Cursor", "atLineStart", "(C)Z"⟩ : MethodName)) hown (hw _ (List.mem_of_getElem? (i := 46) rfl)) (hw _ (List.mem_of_getElem? (i := 47) rfl)) (hw _ (List.mem_of_getElem? (i := 49) rfl)) (hw _ (List.mem_of_getElem? (i := 48) rfl)) (hw _ (List.mem_of_getElem? (i := 3) rfl)) (hw _ (List.mem_of_getElem? (i := 50) rfl)) (by decide) (W := 0) E_ob (argsL := [(.int uc)]) (rest := []) (rm5 l Z a0 hw [] ob uc tb c0 c1 c2 c3 un up ul us tk h0 n0 Z0 E_ob F_text F_end F_pos F_line F_ls V_tb (fun h => ⟨hp0, own_lt4 h hn4⟩)) (by decide) (by decide) (c' := 4) (s' := 24) rfl rfl (by decide) (by decide) e0 (g := (mkF m 250 #[.val (.int p1), .val (.int p2), .val (.int p3), .val (.int p4), .val (.ref tb), .val (.int un), .val (.int u6), .val (.int ud), .val (.int u8), .val (.ref ob), .val (.int up), .val (.int um), .val (.int uc), .val (.int (0 : Int32))] [(.int uc), (.ref ob)])) rfl (by rw [hml]; rfl) (lenOf pd_0_2 rfl) rfl (by show 2 * 0 + _ ≤ _; exact Nat.le_of_eq rfl) (hb hby at_250)
      obtain ⟨hv10, N10q, e10⟩ := hQ10
      have N10 := Fr.app N0 N10q
      rw [f5, if_pos hc2, if_neg (hz2 hc4)] at hv10
      subst hv10
      obtain ⟨fs, hr, hrun, hended, hRW⟩ := X10.leaveW (s := s) hS0 (by rw [e10]; exact hkk0) (v := some (.int (1 : Int32))) (fun h => by rw [hret] at h; cases h)
      refine ⟨_, _, pre3 _ ?_, hrun, hended, _, _, rfl, ?_, ⟨_, rfl⟩, hRW.2.1, hRW.2.2.1, hRW.2.2.2.mono (by decide) (by decide)⟩
      · show Steps p.tables e below (T0.setTop (mkF m 220 #[.val (.int p1), .val (.int p2), .val (.int p3), .val (.int p4), .val (.ref tb), .val (.int un), .val (.int u6), .val (.int ud), .val (.int u8), .val (.ref ob), .val (.int up), .val (.int um), .val (.int uc), .unset] [(.int um)])) _
        refine XS.ifNo X0.here hx rfl (hb hby at_220) rfl ((if0 _ _).trans (feq hc4).1) ?_
        show Steps p.tables e below (T0.setTop (mkF m 223 #[.val (.int p1), .val (.int p2), .val (.int p3), .val (.int p4), .val (.ref tb), .val (.int un), .val (.int u6), .val (.int ud), .val (.int u8), .val (.ref ob), .val (.int up), .val (.int um), .val (.int uc), .unset] [])) _
        refine own_blk X0 hx bl0_223_2 (own_hb hby bd0_223_2) (pc' := 226) (Ls' := #[.val (.int p1), .val (.int p2), .val (.int p3), .val (.int p4), .val (.ref tb), .val (.int un), .val (.int u6), .val (.int ud), .val (.int u8), .val (.ref ob), .val (.int up), .val (.int um), .val (.int uc), .val (.int (0 : Int32))]) (st' := []) rfl ?_
        refine own_blk X0 hx bl0_226_3 (own_hb hby bd0_226_3) (pc' := 250) (Ls' := #[.val (.int p1), .val (.int p2), .val (.int p3), .val (.int p4), .val (.ref tb), .val (.int un), .val (.int u6), .val (.int ud), .val (.int u8), .val (.ref ob), .val (.int up), .val (.int um), .val (.int uc), .val (.int (0 : Int32))]) (st' := [(.int uc), (.ref ob)]) rfl ?_
        refine st10 _ ?_
        show Steps p.tables e below (T10.setTop (mkF m 253 #[.val (.int p1), .val (.int p2), .val (.int p3), .val (.int p4), .val (.ref tb), .val (.int un), .val (.int u6), .val (.int ud), .val (.int u8), .val (.ref ob), .val (.int up), .val (.int um), .val (.int uc), .val (.int (0 : Int32))] [(.int (0 : Int32))])) _
        refine own_blk X10 hx bl0_253_1 (own_hb hby bd0_253_1) (pc' := 255) (Ls' := #[.val (.int p1), .val (.int p2), .val (.int p3), .val (.int p4), .val (.ref tb), .val (.int un), .val (.int u6), .val (.int ud), .val (.int u8), .val (.ref ob), .val (.int up), .val (.int um), .val (.int uc), .val (.int (0 : Int32))]) (st' := [(.int (0 : Int32)), (.int (0 : Int32))]) rfl ?_
        refine XS.icmpNo X10.here hx rfl (hb hby at_255) rfl (teq (by decide : (0 : Int32) = (0 : Int32))).2 ?_
        show Steps p.tables e below (T10.setTop (mkF m 258 #[.val (.int p1), .val (.int p2), .val (.int p3), .val (.int p4), .val (.ref tb), .val (.int un), .val (.int u6), .val (.int ud), .val (.int u8), .val (.ref ob), .val (.int up), .val (.int um), .val (.int uc), .val (.int (0 : Int32))] [])) _
        refine own_blk X10 hx bl0_258_2 (own_hb hby bd0_258_2) (pc' := 263) (Ls' := #[.val (.int p1), .val (.int p2), .val (.int p3), .val (.int p4), .val (.ref tb), .val (.int un), .val (.int u6), .val (.int ud), .val (.int u8), .val (.ref ob), .val (.int up), .val (.int um), .val (.int uc), .val (.int (0 : Int32))]) (st' := [(.int (1 : Int32))]) rfl ?_
        exact retN X10 hx (t := .boolean) hret (by simp) (hb hby at_263) hr
      · exact ⟨by rw [fE, if_pos hc2, if_neg hc4], N10⟩
  · obtain ⟨_, T11, Lc11, X11, hQ11, st11⟩ := own_callV X0 hx hZ (y := (⟨"com/example/endcon/endcon/yaml/Cursor", "atLineStart", "(C)Z"⟩ : MethodName)) hown (hw _ (List.mem_of_getElem? (i := 46) rfl)) (hw _ (List.mem_of_getElem? (i := 47) rfl)) (hw _ (List.mem_of_getElem? (i := 49) rfl)) (hw _ (List.mem_of_getElem? (i := 48) rfl)) (hw _ (List.mem_of_getElem? (i := 3) rfl)) (hw _ (List.mem_of_getElem? (i := 50) rfl)) (by decide) (W := 0) E_ob (argsL := [(.int uc)]) (rest := []) (rm5 l Z a0 hw [] ob uc tb c0 c1 c2 c3 un up ul us tk h0 n0 Z0 E_ob F_text F_end F_pos F_line F_ls V_tb (fun h => ⟨hp0, own_lt4 h hn4⟩)) (by decide) (by decide) (c' := 4) (s' := 24) rfl rfl (by decide) (by decide) e0 (g := (mkF m 250 #[.val (.int p1), .val (.int p2), .val (.int p3), .val (.int p4), .val (.ref tb), .val (.int un), .val (.int u6), .val (.int ud), .val (.int u8), .val (.ref ob), .val (.int up), .val (.int um), .val (.int uc), .val (.int (0 : Int32))] [(.int uc), (.ref ob)])) rfl (by rw [hml]; rfl) (lenOf pd_0_2 rfl) rfl (by show 2 * 0 + _ ≤ _; exact Nat.le_of_eq rfl) (hb hby at_250)
    obtain ⟨hv11, N11q, e11⟩ := hQ11
    have N11 := Fr.app N0 N11q
    rw [f5, if_neg hc2] at hv11
    subst hv11
    obtain ⟨fs, hr, hrun, hended, hRW⟩ := X11.leaveW (s := s) hS0 (by rw [e11]; exact hkk0) (v := some (.int (1 : Int32))) (fun h => by rw [hret] at h; cases h)
    refine ⟨_, _, pre1 _ ?_, hrun, hended, _, _, rfl, ?_, ⟨_, rfl⟩, hRW.2.1, hRW.2.2.1, hRW.2.2.2.mono (by decide) (by decide)⟩
    · show Steps p.tables e below (T0.setTop (mkF m 209 #[.val (.int p1), .val (.int p2), .val (.int p3), .val (.int p4), .val (.ref tb), .val (.int un), .val (.int u6), .val (.int ud), .val (.int u8), .val (.ref ob), .val (.int up), .val (.int um), .val (.int uc), .unset] [(.int un), (.int up)])) _
      refine XS.icmpNo X0.here hx rfl (hb hby at_209) rfl (flt hc2).1 ?_
      show Steps p.tables e below (T0.setTop (mkF m 212 #[.val (.int p1), .val (.int p2), .val (.int p3), .val (.int p4), .val (.ref tb), .val (.int un), .val (.int u6), .val (.int ud), .val (.int u8), .val (.ref ob), .val (.int up), .val (.int um), .val (.int uc), .unset] [])) _
      refine own_blk X0 hx bl0_212_2 (own_hb hby bd0_212_2) (pc' := 215) (Ls' := #[.val (.int p1), .val (.int p2), .val (.int p3), .val (.int p4), .val (.ref tb), .val (.int un), .val (.int u6), .val (.int ud), .val (.int u8), .val (.ref ob), .val (.int up), .val (.int um), .val (.int uc), .val (.int (0 : Int32))]) (st' := []) rfl ?_
      refine own_blk X0 hx bl0_215_3 (own_hb hby bd0_215_3) (pc' := 250) (Ls' := #[.val (.int p1), .val (.int p2), .val (.int p3), .val (.int p4), .val (.ref tb), .val (.int un), .val (.int u6), .val (.int ud), .val (.int u8), .val (.ref ob), .val (.int up), .val (.int um), .val (.int uc), .val (.int (0 : Int32))]) (st' := [(.int uc), (.ref ob)]) rfl ?_
      refine st11 _ ?_
      show Steps p.tables e below (T11.setTop (mkF m 253 #[.val (.int p1), .val (.int p2), .val (.int p3), .val (.int p4), .val (.ref tb), .val (.int un), .val (.int u6), .val (.int ud), .val (.int u8), .val (.ref ob), .val (.int up), .val (.int um), .val (.int uc), .val (.int (0 : Int32))] [(.int (0 : Int32))])) _
      refine own_blk X11 hx bl0_253_1 (own_hb hby bd0_253_1) (pc' := 255) (Ls' := #[.val (.int p1), .val (.int p2), .val (.int p3), .val (.int p4), .val (.ref tb), .val (.int un), .val (.int u6), .val (.int ud), .val (.int u8), .val (.ref ob), .val (.int up), .val (.int um), .val (.int uc), .val (.int (0 : Int32))]) (st' := [(.int (0 : Int32)), (.int (0 : Int32))]) rfl ?_
      refine XS.icmpNo X11.here hx rfl (hb hby at_255) rfl (teq (by decide : (0 : Int32) = (0 : Int32))).2 ?_
      show Steps p.tables e below (T11.setTop (mkF m 258 #[.val (.int p1), .val (.int p2), .val (.int p3), .val (.int p4), .val (.ref tb), .val (.int un), .val (.int u6), .val (.int ud), .val (.int u8), .val (.ref ob), .val (.int up), .val (.int um), .val (.int uc), .val (.int (0 : Int32))] [])) _
      refine own_blk X11 hx bl0_258_2 (own_hb hby bd0_258_2) (pc' := 263) (Ls' := #[.val (.int p1), .val (.int p2), .val (.int p3), .val (.int p4), .val (.ref tb), .val (.int un), .val (.int u6), .val (.int ud), .val (.int u8), .val (.ref ob), .val (.int up), .val (.int um), .val (.int uc), .val (.int (0 : Int32))]) (st' := [(.int (1 : Int32))]) rfl ?_
      exact retN X11 hx (t := .boolean) hret (by simp) (hb hby at_263) hr
    · exact ⟨by rw [fE, if_neg hc2], N11⟩
theorem pd_0_3 : parseMethodDescriptor "(I)V" = some ⟨[.int], none⟩ := by decide +kernel
def bl0_151_2 : List (Nat × Instr × Nat) := [(151, .iconst 0, 1), (152, .istore 11, 2)]
theorem bd0_151_2 : own_dec code bl0_151_2 = true := by decide +kernel
def bl0_154_4 : List (Nat × Instr × Nat) := [(154, .iload 10, 2), (156, .iload 7, 2), (158, .iadd, 1), (159, .iload 5, 2)]
theorem bd0_154_4 : own_dec code bl0_154_4 = true := by decide +kernel
def bl0_182_1 : List (Nat × Instr × Nat) := [(182, .iload 8, 2)]
theorem bd0_182_1 : own_dec code bl0_182_1 = true := by decide +kernel
def bl0_201_3 : List (Nat × Instr × Nat) := [(201, .iload_n 3, 1), (202, .i2c, 1), (203, .istore 12, 2)]
theorem bd0_201_3 : own_dec code bl0_201_3 = true := by decide +kernel
def bl0_187_2 : List (Nat × Instr × Nat) := [(187, .iload 10, 2), (189, .iconst 4, 1)]
theorem bd0_187_2 : own_dec code bl0_187_2 = true := by decide +kernel
def bl0_193_2 : List (Nat × Instr × Nat) := [(193, .aload 4, 2), (195, .iload 10, 2)]
theorem bd0_193_2 : own_dec code bl0_193_2 = true := by decide +kernel
def bl0_198_2 : List (Nat × Instr × Nat) := [(198, .goto 5, 3), (203, .istore 12, 2)]
theorem bd0_198_2 : own_dec code bl0_198_2 = true := by decide +kernel
def bl0_164_2 : List (Nat × Instr × Nat) := [(164, .aload 9, 2), (166, .iload 7, 2)]
theorem bd0_164_2 : own_dec code bl0_164_2 = true := by decide +kernel
def bl0_171_4 : List (Nat × Instr × Nat) := [(171, .iload 10, 2), (173, .iload 7, 2), (175, .iadd, 1), (176, .istore 10, 2)]
theorem bd0_171_4 : own_dec code bl0_171_4 = true := by decide +kernel
def bl0_178_2 : List (Nat × Instr × Nat) := [(178, .iload 7, 2), (180, .istore 11, 2)]
theorem bd0_178_2 : own_dec code bl0_178_2 = true := by decide +kernel
def fD (p1 : Int32) (p2 : Int32) (p3 : Int32) (p4 : Int32) (c0 : Int32) (c1 : Int32) (c2 : Int32) (c3 : Int32) (un : Int32) (u6 : Int32) (ud : Int32) (u8 : Int32) (uk : Int32) (ul : Int32) : Int32 := (if un < (uk + ud) then (if u8 = (0 : Int32) then (fE p1 p2 p3 p4 c0 c1 c2 c3 un u6 ud u8 uk uk ul (0 : Int32) (p4.toUInt32.toUInt16.toUInt32.toInt32)) else (if uk < (4 : Int32) then (fE p1 p2 p3 p4 c0 c1 c2 c3 un u6 ud u8 uk uk ul (0 : Int32) (own_at4 c0 c1 c2 c3 uk)) else (fE p1 p2 p3 p4 c0 c1 c2 c3 un u6 ud u8 uk uk ul (0 : Int32) (p4.toUInt32.toUInt16.toUInt32.toInt32)))) else (if u8 = (0 : Int32) then (fE p1 p2 p3 p4 c0 c1 c2 c3 un u6 ud u8 (uk + ud) uk ul ud (p4.toUInt32.toUInt16.toUInt32.toInt32)) else (if (uk + ud) < (4 : Int32) then (fE p1 p2 p3 p4 c0 c1 c2 c3 un u6 ud u8 (uk + ud) uk ul ud (own_at4 c0 c1 c2 c3 (uk + ud))) else (fE p1 p2 p3 p4 c0 c1 c2 c3 un u6 ud u8 (uk + ud) uk ul ud (p4.toUInt32.toUInt16.toUInt32.toInt32)))))
set_option maxRecDepth 65536 in
set_option maxHeartbeats 40000000 in
theorem tlD {p : Program} {l : Launch} {e : Env} {s : State} {m : MethodId} {args : Array Value} {below : List Frame} {meth : Method} {c : Code} {s₁ T0 : State} {locs : List Loc} {Z : State} {a0 : Array Value} {h0 : Heap} {n0 : Nat} {E : JFrame} {vm0 : Vm} {kk0 : Nat} (p1 : Int32) (p2 : Int32) (p3 : Int32) (p4 : Int32) (c0 : Int32) (c1 : Int32) (c2 : Int32) (c3 : Int32) (un : Int32) (u6 : Int32) (ud : Int32) (u8 : Int32) (uk : Int32) (ul : Int32) (tb : Addr) (ob : Addr) (tk : ClassId)
    (X0 : Stand p l e room_1 (s.setVm vm0) m args below meth c T0 locs 4 24) (hx : p.tables.exec = Jvm.exec) (hZ : Z.Warmed39 (s.setVm vm0).vm) (hw : ∀ d ∈ tables_1, d.before a0 Z = true) (hby : c.code = code) (hml : c.maxLocals = 14) (hown : (s.setVm vm0).vm.findClass "com/example/endcon/endcon/yaml/CursorAtLineStartPinLaw" = some m.cls) (hret : meth.sig.returnType = some .boolean) (hlk : meth.locks = false) (e0 : T0.heap = h0) (N0 : Fr n0 locs) (Z0 : n0 ≤ h0.size) (hS0 : s.Since vm0 kk0) (hkk0 : kk0 ≤ h0.size)
    (pre0 : ∀ t, Steps p.tables e below (T0.setTop (mkF m 151 #[.val (.int p1), .val (.int p2), .val (.int p3), .val (.int p4), .val (.ref tb), .val (.int un), .val (.int u6), .val (.int ud), .val (.int u8), .val (.ref ob), .val (.int uk), .unset, .unset, .unset] [])) t → Steps p.tables e below (s₁.setTop E) t) (V_tb : Arv Z h0 tb tk .char (4 : Int32) [(.int c0), (.int c1), (.int c2), (.int c3)] (.int (0 : Int32))) (E_ob : Exa Z h0 ob "com/example/endcon/endcon/yaml/Cursor") (F_text : Fld Z h0 ob "com/example/endcon/endcon/yaml/Cursor" "text" "[C" (.ref tb)) (F_end : Fld Z h0 ob "com/example/endcon/endcon/yaml/Cursor" "end" "I" (.int un)) (F_pos : Fld Z h0 ob "com/example/endcon/endcon/yaml/Cursor" "pos" "I" (.int uk)) (F_line : Fld Z h0 ob "com/example/endcon/endcon/yaml/Cursor" "line" "I" (.int ul)) (F_ls : Fld Z h0 ob "com/example/endcon/endcon/yaml/Cursor" "lineStart" "I" (.int uk)) (ne_tb_ob : tb ≠ ob) (g_ob : n0 ≤ ob) (hn4 : ¬ ((4 : Int32) < un)) (hk0 : ¬ uk < 0) (hk3 : uk < 3) (hd0 : ¬ ud < 0) (hd5 : ud < 5) :
    ∃ s₂ o, Steps p.tables e below (s₁.setTop E) s₂ ∧ s₂.status = .running ∧ Ended s₂ below o ∧ ∃ v L, o = .returned v ∧ (v = some (.int (fD p1 p2 p3 p4 c0 c1 c2 c3 un u6 ud u8 uk ul)) ∧ Fr n0 L) ∧ ReturnedEndW s o s₂ L room_1.cells room_1.slots := by
  have pre1 : ∀ t, Steps p.tables e below (T0.setTop (mkF m 161 #[.val (.int p1), .val (.int p2), .val (.int p3), .val (.int p4), .val (.ref tb), .val (.int un), .val (.int u6), .val (.int ud), .val (.int u8), .val (.ref ob), .val (.int uk), .val (.int (0 : Int32)), .unset, .unset] [(.int un), (.int (uk + ud))])) t → Steps p.tables e below (s₁.setTop E) t := fun t kt => by
    refine pre0 _ ?_
    show Steps p.tables e below (T0.setTop (mkF m 151 #[.val (.int p1), .val (.int p2), .val (.int p3), .val (.int p4), .val (.ref tb), .val (.int un), .val (.int u6), .val (.int ud), .val (.int u8), .val (.ref ob), .val (.int uk), .unset, .unset, .unset] [])) _
    refine own_blk X0 hx bl0_151_2 (own_hb hby bd0_151_2) (pc' := 154) (Ls' := #[.val (.int p1), .val (.int p2), .val (.int p3), .val (.int p4), .val (.ref tb), .val (.int un), .val (.int u6), .val (.int ud), .val (.int u8), .val (.ref ob), .val (.int uk), .val (.int (0 : Int32)), .unset, .unset]) (st' := []) rfl ?_
    refine own_blk X0 hx bl0_154_4 (own_hb hby bd0_154_4) (pc' := 161) (Ls' := #[.val (.int p1), .val (.int p2), .val (.int p3), .val (.int p4), .val (.ref tb), .val (.int un), .val (.int u6), .val (.int ud), .val (.int u8), .val (.ref ob), .val (.int uk), .val (.int (0 : Int32)), .unset, .unset]) (st' := [(.int un), (.int (uk + ud))]) rfl ?_
    exact kt
  by_cases hc2 : un < (uk + ud)
  · have pre3 : ∀ t, Steps p.tables e below (T0.setTop (mkF m 184 #[.val (.int p1), .val (.int p2), .val (.int p3), .val (.int p4), .val (.ref tb), .val (.int un), .val (.int u6), .val (.int ud), .val (.int u8), .val (.ref ob), .val (.int uk), .val (.int (0 : Int32)), .unset, .unset] [(.int u8)])) t → Steps p.tables e below (s₁.setTop E) t := fun t kt => by
      refine pre1 _ ?_
      show Steps p.tables e below (T0.setTop (mkF m 161 #[.val (.int p1), .val (.int p2), .val (.int p3), .val (.int p4), .val (.ref tb), .val (.int un), .val (.int u6), .val (.int ud), .val (.int u8), .val (.ref ob), .val (.int uk), .val (.int (0 : Int32)), .unset, .unset] [(.int un), (.int (uk + ud))])) _
      refine XS.icmpYes X0.here hx rfl (pc0 := 161) (pc' := 182) rfl (hb hby at_161) rfl (tlt hc2).2.2.1 (by decide) (by decide) ?_
      show Steps p.tables e below (T0.setTop (mkF m 182 #[.val (.int p1), .val (.int p2), .val (.int p3), .val (.int p4), .val (.ref tb), .val (.int un), .val (.int u6), .val (.int ud), .val (.int u8), .val (.ref ob), .val (.int uk), .val (.int (0 : Int32)), .unset, .unset] [])) _
      refine own_blk X0 hx bl0_182_1 (own_hb hby bd0_182_1) (pc' := 184) (Ls' := #[.val (.int p1), .val (.int p2), .val (.int p3), .val (.int p4), .val (.ref tb), .val (.int un), .val (.int u6), .val (.int ud), .val (.int u8), .val (.ref ob), .val (.int uk), .val (.int (0 : Int32)), .unset, .unset]) (st' := [(.int u8)]) rfl ?_
      exact kt
    by_cases hc4 : u8 = (0 : Int32)
    · have pre5 : ∀ t, Steps p.tables e below (T0.setTop (mkF m 205 #[.val (.int p1), .val (.int p2), .val (.int p3), .val (.int p4), .val (.ref tb), .val (.int un), .val (.int u6), .val (.int ud), .val (.int u8), .val (.ref ob), .val (.int uk), .val (.int (0 : Int32)), .val (.int (p4.toUInt32.toUInt16.toUInt32.toInt32)), .unset] [])) t → Steps p.tables e below (s₁.setTop E) t := fun t kt => by
        refine pre3 _ ?_
        show Steps p.tables e below (T0.setTop (mkF m 184 #[.val (.int p1), .val (.int p2), .val (.int p3), .val (.int p4), .val (.ref tb), .val (.int un), .val (.int u6), .val (.int ud), .val (.int u8), .val (.ref ob), .val (.int uk), .val (.int (0 : Int32)), .unset, .unset] [(.int u8)])) _
        refine XS.ifYes X0.here hx rfl (pc0 := 184) (pc' := 201) rfl (hb hby at_184) rfl ((if0 _ _).trans (teq hc4).1) (by decide) (by decide) ?_
        show Steps p.tables e below (T0.setTop (mkF m 201 #[.val (.int p1), .val (.int p2), .val (.int p3), .val (.int p4), .val (.ref tb), .val (.int un), .val (.int u6), .val (.int ud), .val (.int u8), .val (.ref ob), .val (.int uk), .val (.int (0 : Int32)), .unset, .unset] [])) _
        refine own_blk X0 hx bl0_201_3 (own_hb hby bd0_201_3) (pc' := 205) (Ls' := #[.val (.int p1), .val (.int p2), .val (.int p3), .val (.int p4), .val (.ref tb), .val (.int un), .val (.int u6), .val (.int ud), .val (.int u8), .val (.ref ob), .val (.int uk), .val (.int (0 : Int32)), .val (.int (p4.toUInt32.toUInt16.toUInt32.toInt32)), .unset]) (st' := []) rfl ?_
        exact kt
      obtain ⟨s26, o6, u6a, u6b, u6c, v6, L6, rfl, ⟨rfl, u6d⟩, u6e⟩ := tlE p1 p2 p3 p4 c0 c1 c2 c3 un u6 ud u8 uk uk ul (0 : Int32) (p4.toUInt32.toUInt16.toUInt32.toInt32) tb ob tk X0 hx hZ hw hby hml hown hret hlk e0 N0 Z0 hS0 hkk0 pre5 V_tb E_ob F_text F_end F_pos F_line F_ls hn4 hk0 (fun _ => rfl) (fun h => absurd rfl h)
      exact ⟨s26, _, u6a, u6b, u6c, _, _, rfl, ⟨by rw [fD, if_pos hc2, if_pos hc4], u6d⟩, u6e⟩
    · have pre7 : ∀ t, Steps p.tables e below (T0.setTop (mkF m 190 #[.val (.int p1), .val (.int p2), .val (.int p3), .val (.int p4), .val (.ref tb), .val (.int un), .val (.int u6), .val (.int ud), .val (.int u8), .val (.ref ob), .val (.int uk), .val (.int (0 : Int32)), .unset, .unset] [(.int (4 : Int32)), (.int uk)])) t → Steps p.tables e below (s₁.setTop E) t := fun t kt => by
        refine pre3 _ ?_
        show Steps p.tables e below (T0.setTop (mkF m 184 #[.val (.int p1), .val (.int p2), .val (.int p3), .val (.int p4), .val (.ref tb), .val (.int un), .val (.int u6), .val (.int ud), .val (.int u8), .val (.ref ob), .val (.int uk), .val (.int (0 : Int32)), .unset, .unset] [(.int u8)])) _
        refine XS.ifNo X0.here hx rfl (hb hby at_184) rfl ((if0 _ _).trans (feq hc4).1) ?_
        show Steps p.tables e below (T0.setTop (mkF m 187 #[.val (.int p1), .val (.int p2), .val (.int p3), .val (.int p4), .val (.ref tb), .val (.int un), .val (.int u6), .val (.int ud), .val (.int u8), .val (.ref ob), .val (.int uk), .val (.int (0 : Int32)), .unset, .unset] [])) _
        refine own_blk X0 hx bl0_187_2 (own_hb hby bd0_187_2) (pc' := 190) (Ls' := #[.val (.int p1), .val (.int p2), .val (.int p3), .val (.int p4), .val (.ref tb), .val (.int un), .val (.int u6), .val (.int ud), .val (.int u8), .val (.ref ob), .val (.int uk), .val (.int (0 : Int32)), .unset, .unset]) (st' := [(.int (4 : Int32)), (.int uk)]) rfl ?_
        exact kt
      by_cases hc8 : uk < (4 : Int32)
      · obtain ⟨cx9, Ar9, qq9, S9, N9_, H9, G9⟩ := id V_tb
        have hin9 : ¬ (uk < 0 ∨ cx9.slots.size ≤ (uk).toNatClampNeg) := inb_of S9 ⟨hk0, hc8⟩
        have hat9 : cx9.slots[(uk).toNatClampNeg]? = some (.int (own_at4 c0 c1 c2 c3 uk)) := (H9 (uk).toNatClampNeg (Nat.lt_of_not_le fun w => hin9 (Or.inr w))).trans (congrArg some (own_at4_ok c0 c1 c2 c3 hk0 hc8))
        have pre10 : ∀ t, Steps p.tables e below (T0.setTop (mkF m 205 #[.val (.int p1), .val (.int p2), .val (.int p3), .val (.int p4), .val (.ref tb), .val (.int un), .val (.int u6), .val (.int ud), .val (.int u8), .val (.ref ob), .val (.int uk), .val (.int (0 : Int32)), .val (.int (own_at4 c0 c1 c2 c3 uk)), .unset] [])) t → Steps p.tables e below (s₁.setTop E) t := fun t kt => by
          refine pre7 _ ?_
          show Steps p.tables e below (T0.setTop (mkF m 190 #[.val (.int p1), .val (.int p2), .val (.int p3), .val (.int p4), .val (.ref tb), .val (.int un), .val (.int u6), .val (.int ud), .val (.int u8), .val (.ref ob), .val (.int uk), .val (.int (0 : Int32)), .unset, .unset] [(.int (4 : Int32)), (.int uk)])) _
          refine XS.icmpNo X0.here hx rfl (hb hby at_190) rfl (tlt hc8).2.1 ?_
          show Steps p.tables e below (T0.setTop (mkF m 193 #[.val (.int p1), .val (.int p2), .val (.int p3), .val (.int p4), .val (.ref tb), .val (.int un), .val (.int u6), .val (.int ud), .val (.int u8), .val (.ref ob), .val (.int uk), .val (.int (0 : Int32)), .unset, .unset] [])) _
          refine own_blk X0 hx bl0_193_2 (own_hb hby bd0_193_2) (pc' := 197) (Ls' := #[.val (.int p1), .val (.int p2), .val (.int p3), .val (.int p4), .val (.ref tb), .val (.int un), .val (.int u6), .val (.int ud), .val (.int u8), .val (.ref ob), .val (.int uk), .val (.int (0 : Int32)), .unset, .unset]) (st' := [(.int uk), (.ref tb)]) rfl ?_
          refine X0.caload hx (j := uk) (v := (.int (own_at4 c0 c1 c2 c3 uk))) (by rw [e0]; exact Ar9.1) (State.isArrayOf_alike hZ.alike Ar9.2.1) Ar9.2.2 hin9 hat9 (g := (mkF m 197 #[.val (.int p1), .val (.int p2), .val (.int p3), .val (.int p4), .val (.ref tb), .val (.int un), .val (.int u6), .val (.int ud), .val (.int u8), .val (.ref ob), .val (.int uk), .val (.int (0 : Int32)), .unset, .unset] [(.int uk), (.ref tb)])) rfl rfl (hb hby at_197) _ ?_
          show Steps p.tables e below (T0.setTop (mkF m 198 #[.val (.int p1), .val (.int p2), .val (.int p3), .val (.int p4), .val (.ref tb), .val (.int un), .val (.int u6), .val (.int ud), .val (.int u8), .val (.ref ob), .val (.int uk), .val (.int (0 : Int32)), .unset, .unset] [(.int (own_at4 c0 c1 c2 c3 uk))])) _
          refine own_blk X0 hx bl0_198_2 (own_hb hby bd0_198_2) (pc' := 205) (Ls' := #[.val (.int p1), .val (.int p2), .val (.int p3), .val (.int p4), .val (.ref tb), .val (.int un), .val (.int u6), .val (.int ud), .val (.int u8), .val (.ref ob), .val (.int uk), .val (.int (0 : Int32)), .val (.int (own_at4 c0 c1 c2 c3 uk)), .unset]) (st' := []) rfl ?_
          exact kt
        obtain ⟨s211, o11, u11a, u11b, u11c, v11, L11, rfl, ⟨rfl, u11d⟩, u11e⟩ := tlE p1 p2 p3 p4 c0 c1 c2 c3 un u6 ud u8 uk uk ul (0 : Int32) (own_at4 c0 c1 c2 c3 uk) tb ob tk X0 hx hZ hw hby hml hown hret hlk e0 N0 Z0 hS0 hkk0 pre10 V_tb E_ob F_text F_end F_pos F_line F_ls hn4 hk0 (fun _ => rfl) (fun h => absurd rfl h)
        exact ⟨s211, _, u11a, u11b, u11c, _, _, rfl, ⟨by rw [fD, if_pos hc2, if_neg hc4, if_pos hc8], u11d⟩, u11e⟩
      · have pre12 : ∀ t, Steps p.tables e below (T0.setTop (mkF m 205 #[.val (.int p1), .val (.int p2), .val (.int p3), .val (.int p4), .val (.ref tb), .val (.int un), .val (.int u6), .val (.int ud), .val (.int u8), .val (.ref ob), .val (.int uk), .val (.int (0 : Int32)), .val (.int (p4.toUInt32.toUInt16.toUInt32.toInt32)), .unset] [])) t → Steps p.tables e below (s₁.setTop E) t := fun t kt => by
          refine pre7 _ ?_
          show Steps p.tables e below (T0.setTop (mkF m 190 #[.val (.int p1), .val (.int p2), .val (.int p3), .val (.int p4), .val (.ref tb), .val (.int un), .val (.int u6), .val (.int ud), .val (.int u8), .val (.ref ob), .val (.int uk), .val (.int (0 : Int32)), .unset, .unset] [(.int (4 : Int32)), (.int uk)])) _
          refine XS.icmpYes X0.here hx rfl (pc0 := 190) (pc' := 201) rfl (hb hby at_190) rfl (flt hc8).2.1 (by decide) (by decide) ?_
          show Steps p.tables e below (T0.setTop (mkF m 201 #[.val (.int p1), .val (.int p2), .val (.int p3), .val (.int p4), .val (.ref tb), .val (.int un), .val (.int u6), .val (.int ud), .val (.int u8), .val (.ref ob), .val (.int uk), .val (.int (0 : Int32)), .unset, .unset] [])) _
          refine own_blk X0 hx bl0_201_3 (own_hb hby bd0_201_3) (pc' := 205) (Ls' := #[.val (.int p1), .val (.int p2), .val (.int p3), .val (.int p4), .val (.ref tb), .val (.int un), .val (.int u6), .val (.int ud), .val (.int u8), .val (.ref ob), .val (.int uk), .val (.int (0 : Int32)), .val (.int (p4.toUInt32.toUInt16.toUInt32.toInt32)), .unset]) (st' := []) rfl ?_
          exact kt
        obtain ⟨s213, o13, u13a, u13b, u13c, v13, L13, rfl, ⟨rfl, u13d⟩, u13e⟩ := tlE p1 p2 p3 p4 c0 c1 c2 c3 un u6 ud u8 uk uk ul (0 : Int32) (p4.toUInt32.toUInt16.toUInt32.toInt32) tb ob tk X0 hx hZ hw hby hml hown hret hlk e0 N0 Z0 hS0 hkk0 pre12 V_tb E_ob F_text F_end F_pos F_line F_ls hn4 hk0 (fun _ => rfl) (fun h => absurd rfl h)
        exact ⟨s213, _, u13a, u13b, u13c, _, _, rfl, ⟨by rw [fD, if_pos hc2, if_neg hc4, if_neg hc8], u13d⟩, u13e⟩
  · obtain ⟨_, T14, Lc14, X14, hQ14, st14⟩ := own_callV X0 hx hZ (y := (⟨"com/example/endcon/endcon/yaml/Cursor", "advance", "(I)V"⟩ : MethodName)) hown (hw _ (List.mem_of_getElem? (i := 39) rfl)) (hw _ (List.mem_of_getElem? (i := 40) rfl)) (hw _ (List.mem_of_getElem? (i := 42) rfl)) (hw _ (List.mem_of_getElem? (i := 41) rfl)) (hw _ (List.mem_of_getElem? (i := 3) rfl)) (hw _ (List.mem_of_getElem? (i := 43) rfl)) (by decide) (W := 0) E_ob (argsL := [(.int ud)]) (rest := []) (rm4 l Z a0 hw [] ob ud tb un uk ul uk h0 n0 Z0 E_ob F_text F_end F_pos F_line F_ls g_ob) (by decide) (by decide) (c' := 4) (s' := 24) rfl rfl (by decide) (by decide) e0 (g := (mkF m 168 #[.val (.int p1), .val (.int p2), .val (.int p3), .val (.int p4), .val (.ref tb), .val (.int un), .val (.int u6), .val (.int ud), .val (.int u8), .val (.ref ob), .val (.int uk), .val (.int (0 : Int32)), .unset, .unset] [(.int ud), (.ref ob)])) rfl (by rw [hml]; rfl) (lenOf pd_0_3 rfl) rfl (by show 2 * 0 + _ ≤ _; exact Nat.le_of_eq rfl) (hb hby at_168)
    obtain ⟨rfl, N14q, K14, Ec14_a1, Fc14_a1_text, Fc14_a1_end, Fc14_a1_pos, Fc14_a1_line, Fc14_a1_lineStart⟩ := hQ14
    have N14 := Fr.app N0 N14q
    have zk15 : kk0 ≤ T14.heap.size := Nat.le_trans hkk0 K14.1
    have zs16 : n0 ≤ T14.heap.size := Nat.le_trans Z0 K14.1
    have pre17 : ∀ t, Steps p.tables e below (T14.setTop (mkF m 184 #[.val (.int p1), .val (.int p2), .val (.int p3), .val (.int p4), .val (.ref tb), .val (.int un), .val (.int u6), .val (.int ud), .val (.int u8), .val (.ref ob), .val (.int (uk + ud)), .val (.int ud), .unset, .unset] [(.int u8)])) t → Steps p.tables e below (s₁.setTop E) t := fun t kt => by
      refine pre1 _ ?_
      show Steps p.tables e below (T0.setTop (mkF m 161 #[.val (.int p1), .val (.int p2), .val (.int p3), .val (.int p4), .val (.ref tb), .val (.int un), .val (.int u6), .val (.int ud), .val (.int u8), .val (.ref ob), .val (.int uk), .val (.int (0 : Int32)), .unset, .unset] [(.int un), (.int (uk + ud))])) _
      refine XS.icmpNo X0.here hx rfl (hb hby at_161) rfl (flt hc2).2.2.1 ?_
      show Steps p.tables e below (T0.setTop (mkF m 164 #[.val (.int p1), .val (.int p2), .val (.int p3), .val (.int p4), .val (.ref tb), .val (.int un), .val (.int u6), .val (.int ud), .val (.int u8), .val (.ref ob), .val (.int uk), .val (.int (0 : Int32)), .unset, .unset] [])) _
      refine own_blk X0 hx bl0_164_2 (own_hb hby bd0_164_2) (pc' := 168) (Ls' := #[.val (.int p1), .val (.int p2), .val (.int p3), .val (.int p4), .val (.ref tb), .val (.int un), .val (.int u6), .val (.int ud), .val (.int u8), .val (.ref ob), .val (.int uk), .val (.int (0 : Int32)), .unset, .unset]) (st' := [(.int ud), (.ref ob)]) rfl ?_
      refine st14 _ ?_
      show Steps p.tables e below (T14.setTop (mkF m 171 #[.val (.int p1), .val (.int p2), .val (.int p3), .val (.int p4), .val (.ref tb), .val (.int un), .val (.int u6), .val (.int ud), .val (.int u8), .val (.ref ob), .val (.int uk), .val (.int (0 : Int32)), .unset, .unset] [])) _
      refine own_blk X14 hx bl0_171_4 (own_hb hby bd0_171_4) (pc' := 178) (Ls' := #[.val (.int p1), .val (.int p2), .val (.int p3), .val (.int p4), .val (.ref tb), .val (.int un), .val (.int u6), .val (.int ud), .val (.int u8), .val (.ref ob), .val (.int (uk + ud)), .val (.int (0 : Int32)), .unset, .unset]) (st' := []) rfl ?_
      refine own_blk X14 hx bl0_178_2 (own_hb hby bd0_178_2) (pc' := 182) (Ls' := #[.val (.int p1), .val (.int p2), .val (.int p3), .val (.int p4), .val (.ref tb), .val (.int un), .val (.int u6), .val (.int ud), .val (.int u8), .val (.ref ob), .val (.int (uk + ud)), .val (.int ud), .unset, .unset]) (st' := []) rfl ?_
      refine own_blk X14 hx bl0_182_1 (own_hb hby bd0_182_1) (pc' := 184) (Ls' := #[.val (.int p1), .val (.int p2), .val (.int p3), .val (.int p4), .val (.ref tb), .val (.int un), .val (.int u6), .val (.int ud), .val (.int u8), .val (.ref ob), .val (.int (uk + ud)), .val (.int ud), .unset, .unset]) (st' := [(.int u8)]) rfl ?_
      exact kt
    by_cases hc18 : u8 = (0 : Int32)
    · have fa19 : Arv Z T14.heap tb tk .char (4 : Int32) [(.int c0), (.int c1), (.int c2), (.int c3)] (.int (0 : Int32)) := (V_tb.keep K14 (ninS ne_tb_ob nin0))
      have pre20 : ∀ t, Steps p.tables e below (T14.setTop (mkF m 205 #[.val (.int p1), .val (.int p2), .val (.int p3), .val (.int p4), .val (.ref tb), .val (.int un), .val (.int u6), .val (.int ud), .val (.int u8), .val (.ref ob), .val (.int (uk + ud)), .val (.int ud), .val (.int (p4.toUInt32.toUInt16.toUInt32.toInt32)), .unset] [])) t → Steps p.tables e below (s₁.setTop E) t := fun t kt => by
        refine pre17 _ ?_
        show Steps p.tables e below (T14.setTop (mkF m 184 #[.val (.int p1), .val (.int p2), .val (.int p3), .val (.int p4), .val (.ref tb), .val (.int un), .val (.int u6), .val (.int ud), .val (.int u8), .val (.ref ob), .val (.int (uk + ud)), .val (.int ud), .unset, .unset] [(.int u8)])) _
        refine XS.ifYes X14.here hx rfl (pc0 := 184) (pc' := 201) rfl (hb hby at_184) rfl ((if0 _ _).trans (teq hc18).1) (by decide) (by decide) ?_
        show Steps p.tables e below (T14.setTop (mkF m 201 #[.val (.int p1), .val (.int p2), .val (.int p3), .val (.int p4), .val (.ref tb), .val (.int un), .val (.int u6), .val (.int ud), .val (.int u8), .val (.ref ob), .val (.int (uk + ud)), .val (.int ud), .unset, .unset] [])) _
        refine own_blk X14 hx bl0_201_3 (own_hb hby bd0_201_3) (pc' := 205) (Ls' := #[.val (.int p1), .val (.int p2), .val (.int p3), .val (.int p4), .val (.ref tb), .val (.int un), .val (.int u6), .val (.int ud), .val (.int u8), .val (.ref ob), .val (.int (uk + ud)), .val (.int ud), .val (.int (p4.toUInt32.toUInt16.toUInt32.toInt32)), .unset]) (st' := []) rfl ?_
        exact kt
      obtain ⟨s221, o21, u21a, u21b, u21c, v21, L21, rfl, ⟨rfl, u21d⟩, u21e⟩ := tlE p1 p2 p3 p4 c0 c1 c2 c3 un u6 ud u8 (uk + ud) uk ul ud (p4.toUInt32.toUInt16.toUInt32.toInt32) tb ob tk X14 hx hZ hw hby hml hown hret hlk rfl N14 zs16 hS0 zk15 pre20 fa19 Ec14_a1 Fc14_a1_text Fc14_a1_end Fc14_a1_pos Fc14_a1_line Fc14_a1_lineStart hn4 (own_add0 hk0 hk3 hd0 hd5) own_addz own_addn
      exact ⟨s221, _, u21a, u21b, u21c, _, _, rfl, ⟨by rw [fD, if_neg hc2, if_pos hc18], u21d⟩, u21e⟩
    · have pre22 : ∀ t, Steps p.tables e below (T14.setTop (mkF m 190 #[.val (.int p1), .val (.int p2), .val (.int p3), .val (.int p4), .val (.ref tb), .val (.int un), .val (.int u6), .val (.int ud), .val (.int u8), .val (.ref ob), .val (.int (uk + ud)), .val (.int ud), .unset, .unset] [(.int (4 : Int32)), (.int (uk + ud))])) t → Steps p.tables e below (s₁.setTop E) t := fun t kt => by
        refine pre17 _ ?_
        show Steps p.tables e below (T14.setTop (mkF m 184 #[.val (.int p1), .val (.int p2), .val (.int p3), .val (.int p4), .val (.ref tb), .val (.int un), .val (.int u6), .val (.int ud), .val (.int u8), .val (.ref ob), .val (.int (uk + ud)), .val (.int ud), .unset, .unset] [(.int u8)])) _
        refine XS.ifNo X14.here hx rfl (hb hby at_184) rfl ((if0 _ _).trans (feq hc18).1) ?_
        show Steps p.tables e below (T14.setTop (mkF m 187 #[.val (.int p1), .val (.int p2), .val (.int p3), .val (.int p4), .val (.ref tb), .val (.int un), .val (.int u6), .val (.int ud), .val (.int u8), .val (.ref ob), .val (.int (uk + ud)), .val (.int ud), .unset, .unset] [])) _
        refine own_blk X14 hx bl0_187_2 (own_hb hby bd0_187_2) (pc' := 190) (Ls' := #[.val (.int p1), .val (.int p2), .val (.int p3), .val (.int p4), .val (.ref tb), .val (.int un), .val (.int u6), .val (.int ud), .val (.int u8), .val (.ref ob), .val (.int (uk + ud)), .val (.int ud), .unset, .unset]) (st' := [(.int (4 : Int32)), (.int (uk + ud))]) rfl ?_
        exact kt
      by_cases hc23 : (uk + ud) < (4 : Int32)
      · have fa24 : Arv Z T14.heap tb tk .char (4 : Int32) [(.int c0), (.int c1), (.int c2), (.int c3)] (.int (0 : Int32)) := (V_tb.keep K14 (ninS ne_tb_ob nin0))
        obtain ⟨cx25, Ar25, qq25, S25, N25_, H25, G25⟩ := id fa24
        have hin25 : ¬ ((uk + ud) < 0 ∨ cx25.slots.size ≤ ((uk + ud)).toNatClampNeg) := inb_of S25 ⟨(own_add0 hk0 hk3 hd0 hd5), hc23⟩
        have hat25 : cx25.slots[((uk + ud)).toNatClampNeg]? = some (.int (own_at4 c0 c1 c2 c3 (uk + ud))) := (H25 ((uk + ud)).toNatClampNeg (Nat.lt_of_not_le fun w => hin25 (Or.inr w))).trans (congrArg some (own_at4_ok c0 c1 c2 c3 (own_add0 hk0 hk3 hd0 hd5) hc23))
        have pre26 : ∀ t, Steps p.tables e below (T14.setTop (mkF m 205 #[.val (.int p1), .val (.int p2), .val (.int p3), .val (.int p4), .val (.ref tb), .val (.int un), .val (.int u6), .val (.int ud), .val (.int u8), .val (.ref ob), .val (.int (uk + ud)), .val (.int ud), .val (.int (own_at4 c0 c1 c2 c3 (uk + ud))), .unset] [])) t → Steps p.tables e below (s₁.setTop E) t := fun t kt => by
          refine pre22 _ ?_
          show Steps p.tables e below (T14.setTop (mkF m 190 #[.val (.int p1), .val (.int p2), .val (.int p3), .val (.int p4), .val (.ref tb), .val (.int un), .val (.int u6), .val (.int ud), .val (.int u8), .val (.ref ob), .val (.int (uk + ud)), .val (.int ud), .unset, .unset] [(.int (4 : Int32)), (.int (uk + ud))])) _
          refine XS.icmpNo X14.here hx rfl (hb hby at_190) rfl (tlt hc23).2.1 ?_
          show Steps p.tables e below (T14.setTop (mkF m 193 #[.val (.int p1), .val (.int p2), .val (.int p3), .val (.int p4), .val (.ref tb), .val (.int un), .val (.int u6), .val (.int ud), .val (.int u8), .val (.ref ob), .val (.int (uk + ud)), .val (.int ud), .unset, .unset] [])) _
          refine own_blk X14 hx bl0_193_2 (own_hb hby bd0_193_2) (pc' := 197) (Ls' := #[.val (.int p1), .val (.int p2), .val (.int p3), .val (.int p4), .val (.ref tb), .val (.int un), .val (.int u6), .val (.int ud), .val (.int u8), .val (.ref ob), .val (.int (uk + ud)), .val (.int ud), .unset, .unset]) (st' := [(.int (uk + ud)), (.ref tb)]) rfl ?_
          refine X14.caload hx (j := (uk + ud)) (v := (.int (own_at4 c0 c1 c2 c3 (uk + ud)))) Ar25.1 (State.isArrayOf_alike hZ.alike Ar25.2.1) Ar25.2.2 hin25 hat25 (g := (mkF m 197 #[.val (.int p1), .val (.int p2), .val (.int p3), .val (.int p4), .val (.ref tb), .val (.int un), .val (.int u6), .val (.int ud), .val (.int u8), .val (.ref ob), .val (.int (uk + ud)), .val (.int ud), .unset, .unset] [(.int (uk + ud)), (.ref tb)])) rfl rfl (hb hby at_197) _ ?_
          show Steps p.tables e below (T14.setTop (mkF m 198 #[.val (.int p1), .val (.int p2), .val (.int p3), .val (.int p4), .val (.ref tb), .val (.int un), .val (.int u6), .val (.int ud), .val (.int u8), .val (.ref ob), .val (.int (uk + ud)), .val (.int ud), .unset, .unset] [(.int (own_at4 c0 c1 c2 c3 (uk + ud)))])) _
          refine own_blk X14 hx bl0_198_2 (own_hb hby bd0_198_2) (pc' := 205) (Ls' := #[.val (.int p1), .val (.int p2), .val (.int p3), .val (.int p4), .val (.ref tb), .val (.int un), .val (.int u6), .val (.int ud), .val (.int u8), .val (.ref ob), .val (.int (uk + ud)), .val (.int ud), .val (.int (own_at4 c0 c1 c2 c3 (uk + ud))), .unset]) (st' := []) rfl ?_
          exact kt
        obtain ⟨s227, o27, u27a, u27b, u27c, v27, L27, rfl, ⟨rfl, u27d⟩, u27e⟩ := tlE p1 p2 p3 p4 c0 c1 c2 c3 un u6 ud u8 (uk + ud) uk ul ud (own_at4 c0 c1 c2 c3 (uk + ud)) tb ob tk X14 hx hZ hw hby hml hown hret hlk rfl N14 zs16 hS0 zk15 pre26 fa24 Ec14_a1 Fc14_a1_text Fc14_a1_end Fc14_a1_pos Fc14_a1_line Fc14_a1_lineStart hn4 (own_add0 hk0 hk3 hd0 hd5) own_addz own_addn
        exact ⟨s227, _, u27a, u27b, u27c, _, _, rfl, ⟨by rw [fD, if_neg hc2, if_neg hc18, if_pos hc23], u27d⟩, u27e⟩
      · have fa28 : Arv Z T14.heap tb tk .char (4 : Int32) [(.int c0), (.int c1), (.int c2), (.int c3)] (.int (0 : Int32)) := (V_tb.keep K14 (ninS ne_tb_ob nin0))
        have pre29 : ∀ t, Steps p.tables e below (T14.setTop (mkF m 205 #[.val (.int p1), .val (.int p2), .val (.int p3), .val (.int p4), .val (.ref tb), .val (.int un), .val (.int u6), .val (.int ud), .val (.int u8), .val (.ref ob), .val (.int (uk + ud)), .val (.int ud), .val (.int (p4.toUInt32.toUInt16.toUInt32.toInt32)), .unset] [])) t → Steps p.tables e below (s₁.setTop E) t := fun t kt => by
          refine pre22 _ ?_
          show Steps p.tables e below (T14.setTop (mkF m 190 #[.val (.int p1), .val (.int p2), .val (.int p3), .val (.int p4), .val (.ref tb), .val (.int un), .val (.int u6), .val (.int ud), .val (.int u8), .val (.ref ob), .val (.int (uk + ud)), .val (.int ud), .unset, .unset] [(.int (4 : Int32)), (.int (uk + ud))])) _
          refine XS.icmpYes X14.here hx rfl (pc0 := 190) (pc' := 201) rfl (hb hby at_190) rfl (flt hc23).2.1 (by decide) (by decide) ?_
          show Steps p.tables e below (T14.setTop (mkF m 201 #[.val (.int p1), .val (.int p2), .val (.int p3), .val (.int p4), .val (.ref tb), .val (.int un), .val (.int u6), .val (.int ud), .val (.int u8), .val (.ref ob), .val (.int (uk + ud)), .val (.int ud), .unset, .unset] [])) _
          refine own_blk X14 hx bl0_201_3 (own_hb hby bd0_201_3) (pc' := 205) (Ls' := #[.val (.int p1), .val (.int p2), .val (.int p3), .val (.int p4), .val (.ref tb), .val (.int un), .val (.int u6), .val (.int ud), .val (.int u8), .val (.ref ob), .val (.int (uk + ud)), .val (.int ud), .val (.int (p4.toUInt32.toUInt16.toUInt32.toInt32)), .unset]) (st' := []) rfl ?_
          exact kt
        obtain ⟨s230, o30, u30a, u30b, u30c, v30, L30, rfl, ⟨rfl, u30d⟩, u30e⟩ := tlE p1 p2 p3 p4 c0 c1 c2 c3 un u6 ud u8 (uk + ud) uk ul ud (p4.toUInt32.toUInt16.toUInt32.toInt32) tb ob tk X14 hx hZ hw hby hml hown hret hlk rfl N14 zs16 hS0 zk15 pre29 fa28 Ec14_a1 Fc14_a1_text Fc14_a1_end Fc14_a1_pos Fc14_a1_line Fc14_a1_lineStart hn4 (own_add0 hk0 hk3 hd0 hd5) own_addz own_addn
        exact ⟨s230, _, u30a, u30b, u30c, _, _, rfl, ⟨by rw [fD, if_neg hc2, if_neg hc18, if_neg hc23], u30d⟩, u30e⟩
theorem pd_0_1 : parseMethodDescriptor "()V" = some ⟨[], none⟩ := by decide +kernel
def bl0_118_1 : List (Nat × Instr × Nat) := [(118, .iload 6, 2)]
theorem bd0_118_1 : own_dec code bl0_118_1 = true := by decide +kernel
def bl0_123_2 : List (Nat × Instr × Nat) := [(123, .iload 10, 2), (125, .iload 5, 2)]
theorem bd0_123_2 : own_dec code bl0_123_2 = true := by decide +kernel
def bl0_130_2 : List (Nat × Instr × Nat) := [(130, .aload 4, 2), (132, .iload 10, 2)]
theorem bd0_130_2 : own_dec code bl0_130_2 = true := by decide +kernel
def bl0_135_1 : List (Nat × Instr × Nat) := [(135, .bipush 10, 2)]
theorem bd0_135_1 : own_dec code bl0_135_1 = true := by decide +kernel
def bl0_140_1 : List (Nat × Instr × Nat) := [(140, .aload 9, 2)]
theorem bd0_140_1 : own_dec code bl0_140_1 = true := by decide +kernel
def bl0_145_4 : List (Nat × Instr × Nat) := [(145, .iload 10, 2), (147, .iconst 1, 1), (148, .iadd, 1), (149, .istore 10, 2)]
theorem bd0_145_4 : own_dec code bl0_145_4 = true := by decide +kernel
def fC (p1 : Int32) (p2 : Int32) (p3 : Int32) (p4 : Int32) (c0 : Int32) (c1 : Int32) (c2 : Int32) (c3 : Int32) (un : Int32) (u6 : Int32) (ud : Int32) (u8 : Int32) (uk : Int32) (ul : Int32) : Int32 := (if u6 = (0 : Int32) then (fD p1 p2 p3 p4 c0 c1 c2 c3 un u6 ud u8 uk ul) else (if uk < un then (if (own_at4 c0 c1 c2 c3 uk) = (10 : Int32) then (fD p1 p2 p3 p4 c0 c1 c2 c3 un u6 ud u8 (uk + (1 : Int32)) (ul + (1 : Int32))) else (fD p1 p2 p3 p4 c0 c1 c2 c3 un u6 ud u8 uk ul)) else (fD p1 p2 p3 p4 c0 c1 c2 c3 un u6 ud u8 uk ul)))
set_option maxRecDepth 65536 in
set_option maxHeartbeats 40000000 in
theorem tlC {p : Program} {l : Launch} {e : Env} {s : State} {m : MethodId} {args : Array Value} {below : List Frame} {meth : Method} {c : Code} {s₁ T0 : State} {locs : List Loc} {Z : State} {a0 : Array Value} {h0 : Heap} {n0 : Nat} {E : JFrame} {vm0 : Vm} {kk0 : Nat} (p1 : Int32) (p2 : Int32) (p3 : Int32) (p4 : Int32) (c0 : Int32) (c1 : Int32) (c2 : Int32) (c3 : Int32) (un : Int32) (u6 : Int32) (ud : Int32) (u8 : Int32) (uk : Int32) (ul : Int32) (tb : Addr) (ob : Addr) (tk : ClassId)
    (X0 : Stand p l e room_1 (s.setVm vm0) m args below meth c T0 locs 4 24) (hx : p.tables.exec = Jvm.exec) (hZ : Z.Warmed39 (s.setVm vm0).vm) (hw : ∀ d ∈ tables_1, d.before a0 Z = true) (hby : c.code = code) (hml : c.maxLocals = 14) (hown : (s.setVm vm0).vm.findClass "com/example/endcon/endcon/yaml/CursorAtLineStartPinLaw" = some m.cls) (hret : meth.sig.returnType = some .boolean) (hlk : meth.locks = false) (e0 : T0.heap = h0) (N0 : Fr n0 locs) (Z0 : n0 ≤ h0.size) (hS0 : s.Since vm0 kk0) (hkk0 : kk0 ≤ h0.size)
    (pre0 : ∀ t, Steps p.tables e below (T0.setTop (mkF m 118 #[.val (.int p1), .val (.int p2), .val (.int p3), .val (.int p4), .val (.ref tb), .val (.int un), .val (.int u6), .val (.int ud), .val (.int u8), .val (.ref ob), .val (.int uk), .unset, .unset, .unset] [])) t → Steps p.tables e below (s₁.setTop E) t) (V_tb : Arv Z h0 tb tk .char (4 : Int32) [(.int c0), (.int c1), (.int c2), (.int c3)] (.int (0 : Int32))) (E_ob : Exa Z h0 ob "com/example/endcon/endcon/yaml/Cursor") (F_text : Fld Z h0 ob "com/example/endcon/endcon/yaml/Cursor" "text" "[C" (.ref tb)) (F_end : Fld Z h0 ob "com/example/endcon/endcon/yaml/Cursor" "end" "I" (.int un)) (F_pos : Fld Z h0 ob "com/example/endcon/endcon/yaml/Cursor" "pos" "I" (.int uk)) (F_line : Fld Z h0 ob "com/example/endcon/endcon/yaml/Cursor" "line" "I" (.int ul)) (F_ls : Fld Z h0 ob "com/example/endcon/endcon/yaml/Cursor" "lineStart" "I" (.int uk)) (ne_tb_ob : tb ≠ ob) (g_ob : n0 ≤ ob) (hn4 : ¬ ((4 : Int32) < un)) (hk0 : ¬ uk < 0) (hk2 : uk < 2) (hd0 : ¬ ud < 0) (hd5 : ud < 5) :
    ∃ s₂ o, Steps p.tables e below (s₁.setTop E) s₂ ∧ s₂.status = .running ∧ Ended s₂ below o ∧ ∃ v L, o = .returned v ∧ (v = some (.int (fC p1 p2 p3 p4 c0 c1 c2 c3 un u6 ud u8 uk ul)) ∧ Fr n0 L) ∧ ReturnedEndW s o s₂ L room_1.cells room_1.slots := by
  have pre1 : ∀ t, Steps p.tables e below (T0.setTop (mkF m 120 #[.val (.int p1), .val (.int p2), .val (.int p3), .val (.int p4), .val (.ref tb), .val (.int un), .val (.int u6), .val (.int ud), .val (.int u8), .val (.ref ob), .val (.int uk), .unset, .unset, .unset] [(.int u6)])) t → Steps p.tables e below (s₁.setTop E) t := fun t kt => by
    refine pre0 _ ?_
    show Steps p.tables e below (T0.setTop (mkF m 118 #[.val (.int p1), .val (.int p2), .val (.int p3), .val (.int p4), .val (.ref tb), .val (.int un), .val (.int u6), .val (.int ud), .val (.int u8), .val (.ref ob), .val (.int uk), .unset, .unset, .unset] [])) _
    refine own_blk X0 hx bl0_118_1 (own_hb hby bd0_118_1) (pc' := 120) (Ls' := #[.val (.int p1), .val (.int p2), .val (.int p3), .val (.int p4), .val (.ref tb), .val (.int un), .val (.int u6), .val (.int ud), .val (.int u8), .val (.ref ob), .val (.int uk), .unset, .unset, .unset]) (st' := [(.int u6)]) rfl ?_
    exact kt
  by_cases hc2 : u6 = (0 : Int32)
  · have pre3 : ∀ t, Steps p.tables e below (T0.setTop (mkF m 151 #[.val (.int p1), .val (.int p2), .val (.int p3), .val (.int p4), .val (.ref tb), .val (.int un), .val (.int u6), .val (.int ud), .val (.int u8), .val (.ref ob), .val (.int uk), .unset, .unset, .unset] [])) t → Steps p.tables e below (s₁.setTop E) t := fun t kt => by
      refine pre1 _ ?_
      show Steps p.tables e below (T0.setTop (mkF m 120 #[.val (.int p1), .val (.int p2), .val (.int p3), .val (.int p4), .val (.ref tb), .val (.int un), .val (.int u6), .val (.int ud), .val (.int u8), .val (.ref ob), .val (.int uk), .unset, .unset, .unset] [(.int u6)])) _
      refine XS.ifYes X0.here hx rfl (pc0 := 120) (pc' := 151) rfl (hb hby at_120) rfl ((if0 _ _).trans (teq hc2).1) (by decide) (by decide) ?_
      exact kt
    obtain ⟨s24, o4, u4a, u4b, u4c, v4, L4, rfl, ⟨rfl, u4d⟩, u4e⟩ := tlD p1 p2 p3 p4 c0 c1 c2 c3 un u6 ud u8 uk ul tb ob tk X0 hx hZ hw hby hml hown hret hlk e0 N0 Z0 hS0 hkk0 pre3 V_tb E_ob F_text F_end F_pos F_line F_ls ne_tb_ob g_ob hn4 hk0 (own_suc hk0 hk2).2.2.2.2 hd0 hd5
    exact ⟨s24, _, u4a, u4b, u4c, _, _, rfl, ⟨by rw [fC, if_pos hc2], u4d⟩, u4e⟩
  · have pre5 : ∀ t, Steps p.tables e below (T0.setTop (mkF m 127 #[.val (.int p1), .val (.int p2), .val (.int p3), .val (.int p4), .val (.ref tb), .val (.int un), .val (.int u6), .val (.int ud), .val (.int u8), .val (.ref ob), .val (.int uk), .unset, .unset, .unset] [(.int un), (.int uk)])) t → Steps p.tables e below (s₁.setTop E) t := fun t kt => by
      refine pre1 _ ?_
      show Steps p.tables e below (T0.setTop (mkF m 120 #[.val (.int p1), .val (.int p2), .val (.int p3), .val (.int p4), .val (.ref tb), .val (.int un), .val (.int u6), .val (.int ud), .val (.int u8), .val (.ref ob), .val (.int uk), .unset, .unset, .unset] [(.int u6)])) _
      refine XS.ifNo X0.here hx rfl (hb hby at_120) rfl ((if0 _ _).trans (feq hc2).1) ?_
      show Steps p.tables e below (T0.setTop (mkF m 123 #[.val (.int p1), .val (.int p2), .val (.int p3), .val (.int p4), .val (.ref tb), .val (.int un), .val (.int u6), .val (.int ud), .val (.int u8), .val (.ref ob), .val (.int uk), .unset, .unset, .unset] [])) _
      refine own_blk X0 hx bl0_123_2 (own_hb hby bd0_123_2) (pc' := 127) (Ls' := #[.val (.int p1), .val (.int p2), .val (.int p3), .val (.int p4), .val (.ref tb), .val (.int un), .val (.int u6), .val (.int ud), .val (.int u8), .val (.ref ob), .val (.int uk), .unset, .unset, .unset]) (st' := [(.int un), (.int uk)]) rfl ?_
      exact kt
    by_cases hc6 : uk < un
    · obtain ⟨cx7, Ar7, qq7, S7, N7_, H7, G7⟩ := id V_tb
      have hin7 : ¬ (uk < 0 ∨ cx7.slots.size ≤ (uk).toNatClampNeg) := inb_of S7 ⟨hk0, (own_suc hk0 hk2).2.2.2.1⟩
      have hat7 : cx7.slots[(uk).toNatClampNeg]? = some (.int (own_at4 c0 c1 c2 c3 uk)) := (H7 (uk).toNatClampNeg (Nat.lt_of_not_le fun w => hin7 (Or.inr w))).trans (congrArg some (own_at4_ok c0 c1 c2 c3 hk0 (own_suc hk0 hk2).2.2.2.1))
      have pre8 : ∀ t, Steps p.tables e below (T0.setTop (mkF m 137 #[.val (.int p1), .val (.int p2), .val (.int p3), .val (.int p4), .val (.ref tb), .val (.int un), .val (.int u6), .val (.int ud), .val (.int u8), .val (.ref ob), .val (.int uk), .unset, .unset, .unset] [(.int (10 : Int32)), (.int (own_at4 c0 c1 c2 c3 uk))])) t → Steps p.tables e below (s₁.setTop E) t := fun t kt => by
        refine pre5 _ ?_
        show Steps p.tables e below (T0.setTop (mkF m 127 #[.val (.int p1), .val (.int p2), .val (.int p3), .val (.int p4), .val (.ref tb), .val (.int un), .val (.int u6), .val (.int ud), .val (.int u8), .val (.ref ob), .val (.int uk), .unset, .unset, .unset] [(.int un), (.int uk)])) _
        refine XS.icmpNo X0.here hx rfl (hb hby at_127) rfl (tlt hc6).2.1 ?_
        show Steps p.tables e below (T0.setTop (mkF m 130 #[.val (.int p1), .val (.int p2), .val (.int p3), .val (.int p4), .val (.ref tb), .val (.int un), .val (.int u6), .val (.int ud), .val (.int u8), .val (.ref ob), .val (.int uk), .unset, .unset, .unset] [])) _
        refine own_blk X0 hx bl0_130_2 (own_hb hby bd0_130_2) (pc' := 134) (Ls' := #[.val (.int p1), .val (.int p2), .val (.int p3), .val (.int p4), .val (.ref tb), .val (.int un), .val (.int u6), .val (.int ud), .val (.int u8), .val (.ref ob), .val (.int uk), .unset, .unset, .unset]) (st' := [(.int uk), (.ref tb)]) rfl ?_
        refine X0.caload hx (j := uk) (v := (.int (own_at4 c0 c1 c2 c3 uk))) (by rw [e0]; exact Ar7.1) (State.isArrayOf_alike hZ.alike Ar7.2.1) Ar7.2.2 hin7 hat7 (g := (mkF m 134 #[.val (.int p1), .val (.int p2), .val (.int p3), .val (.int p4), .val (.ref tb), .val (.int un), .val (.int u6), .val (.int ud), .val (.int u8), .val (.ref ob), .val (.int uk), .unset, .unset, .unset] [(.int uk), (.ref tb)])) rfl rfl (hb hby at_134) _ ?_
        show Steps p.tables e below (T0.setTop (mkF m 135 #[.val (.int p1), .val (.int p2), .val (.int p3), .val (.int p4), .val (.ref tb), .val (.int un), .val (.int u6), .val (.int ud), .val (.int u8), .val (.ref ob), .val (.int uk), .unset, .unset, .unset] [(.int (own_at4 c0 c1 c2 c3 uk))])) _
        refine own_blk X0 hx bl0_135_1 (own_hb hby bd0_135_1) (pc' := 137) (Ls' := #[.val (.int p1), .val (.int p2), .val (.int p3), .val (.int p4), .val (.ref tb), .val (.int un), .val (.int u6), .val (.int ud), .val (.int u8), .val (.ref ob), .val (.int uk), .unset, .unset, .unset]) (st' := [(.int (10 : Int32)), (.int (own_at4 c0 c1 c2 c3 uk))]) rfl ?_
        exact kt
      by_cases hc9 : (own_at4 c0 c1 c2 c3 uk) = (10 : Int32)
      · obtain ⟨_, T10, Lc10, X10, hQ10, st10⟩ := own_callV X0 hx hZ (y := (⟨"com/example/endcon/endcon/yaml/Cursor", "newLine", "()V"⟩ : MethodName)) hown (hw _ (List.mem_of_getElem? (i := 54) rfl)) (hw _ (List.mem_of_getElem? (i := 55) rfl)) (hw _ (List.mem_of_getElem? (i := 57) rfl)) (hw _ (List.mem_of_getElem? (i := 56) rfl)) (hw _ (List.mem_of_getElem? (i := 3) rfl)) (hw _ (List.mem_of_getElem? (i := 58) rfl)) (by decide) (W := 0) E_ob (argsL := []) (rest := []) (rm6 l Z a0 hw [] ob tb c0 c1 c2 c3 un uk ul uk tk h0 n0 Z0 E_ob F_text F_end F_pos F_line F_ls g_ob V_tb ne_tb_ob hk0 (own_suc hk0 hk2).2.2.2.1 (fun _ => ⟨(own_suc hk0 hk2).1, (own_suc hk0 hk2).2.2.1⟩)) (by decide) (by decide) (c' := 4) (s' := 24) rfl rfl (by decide) (by decide) e0 (g := (mkF m 142 #[.val (.int p1), .val (.int p2), .val (.int p3), .val (.int p4), .val (.ref tb), .val (.int un), .val (.int u6), .val (.int ud), .val (.int u8), .val (.ref ob), .val (.int uk), .unset, .unset, .unset] [(.ref ob)])) rfl (by rw [hml]; rfl) (lenOf pd_0_1 rfl) rfl (by show 2 * 0 + _ ≤ _; exact Nat.le_of_eq rfl) (hb hby at_142)
        obtain ⟨hv10, N10q, K10, Ec10_a1, Fc10_a1_text, Fc10_a1_end, Fc10_a1_pos, Fc10_a1_line, Fc10_a1_lineStart⟩ := hQ10
        have N10 := Fr.app N0 N10q
        subst hv10
        have lFc10_a1_pos : Fld Z T10.heap ob "com/example/endcon/endcon/yaml/Cursor" "pos" "I" (.int (uk + (1 : Int32))) := by have q := Fc10_a1_pos; rw [f6_a1_pos, if_neg (own_at_nn hc9)] at q; exact q
        have lFc10_a1_line : Fld Z T10.heap ob "com/example/endcon/endcon/yaml/Cursor" "line" "I" (.int (ul + (1 : Int32))) := by have q := Fc10_a1_line; rw [f6_a1_line, if_neg (own_at_nn hc9)] at q; exact q
        have lFc10_a1_lineStart : Fld Z T10.heap ob "com/example/endcon/endcon/yaml/Cursor" "lineStart" "I" (.int (uk + (1 : Int32))) := by have q := Fc10_a1_lineStart; rw [f6_a1_lineStart, if_neg (own_at_nn hc9)] at q; exact q
        have zk11 : kk0 ≤ T10.heap.size := Nat.le_trans hkk0 K10.1
        have zs12 : n0 ≤ T10.heap.size := Nat.le_trans Z0 K10.1
        have fa13 : Arv Z T10.heap tb tk .char (4 : Int32) [(.int c0), (.int c1), (.int c2), (.int c3)] (.int (0 : Int32)) := (V_tb.keep K10 (ninS ne_tb_ob nin0))
        have pre14 : ∀ t, Steps p.tables e below (T10.setTop (mkF m 151 #[.val (.int p1), .val (.int p2), .val (.int p3), .val (.int p4), .val (.ref tb), .val (.int un), .val (.int u6), .val (.int ud), .val (.int u8), .val (.ref ob), .val (.int (uk + (1 : Int32))), .unset, .unset, .unset] [])) t → Steps p.tables e below (s₁.setTop E) t := fun t kt => by
          refine pre8 _ ?_
          show Steps p.tables e below (T0.setTop (mkF m 137 #[.val (.int p1), .val (.int p2), .val (.int p3), .val (.int p4), .val (.ref tb), .val (.int un), .val (.int u6), .val (.int ud), .val (.int u8), .val (.ref ob), .val (.int uk), .unset, .unset, .unset] [(.int (10 : Int32)), (.int (own_at4 c0 c1 c2 c3 uk))])) _
          refine XS.icmpNo X0.here hx rfl (hb hby at_137) rfl (teq hc9).2 ?_
          show Steps p.tables e below (T0.setTop (mkF m 140 #[.val (.int p1), .val (.int p2), .val (.int p3), .val (.int p4), .val (.ref tb), .val (.int un), .val (.int u6), .val (.int ud), .val (.int u8), .val (.ref ob), .val (.int uk), .unset, .unset, .unset] [])) _
          refine own_blk X0 hx bl0_140_1 (own_hb hby bd0_140_1) (pc' := 142) (Ls' := #[.val (.int p1), .val (.int p2), .val (.int p3), .val (.int p4), .val (.ref tb), .val (.int un), .val (.int u6), .val (.int ud), .val (.int u8), .val (.ref ob), .val (.int uk), .unset, .unset, .unset]) (st' := [(.ref ob)]) rfl ?_
          refine st10 _ ?_
          show Steps p.tables e below (T10.setTop (mkF m 145 #[.val (.int p1), .val (.int p2), .val (.int p3), .val (.int p4), .val (.ref tb), .val (.int un), .val (.int u6), .val (.int ud), .val (.int u8), .val (.ref ob), .val (.int uk), .unset, .unset, .unset] [])) _
          refine own_blk X10 hx bl0_145_4 (own_hb hby bd0_145_4) (pc' := 151) (Ls' := #[.val (.int p1), .val (.int p2), .val (.int p3), .val (.int p4), .val (.ref tb), .val (.int un), .val (.int u6), .val (.int ud), .val (.int u8), .val (.ref ob), .val (.int (uk + (1 : Int32))), .unset, .unset, .unset]) (st' := []) rfl ?_
          exact kt
        obtain ⟨s215, o15, u15a, u15b, u15c, v15, L15, rfl, ⟨rfl, u15d⟩, u15e⟩ := tlD p1 p2 p3 p4 c0 c1 c2 c3 un u6 ud u8 (uk + (1 : Int32)) (ul + (1 : Int32)) tb ob tk X10 hx hZ hw hby hml hown hret hlk rfl N10 zs12 hS0 zk11 pre14 fa13 Ec10_a1 Fc10_a1_text Fc10_a1_end lFc10_a1_pos lFc10_a1_line lFc10_a1_lineStart ne_tb_ob g_ob hn4 (own_suc hk0 hk2).1 (own_suc hk0 hk2).2.1 hd0 hd5
        exact ⟨s215, _, u15a, u15b, u15c, _, _, rfl, ⟨by rw [fC, if_neg hc2, if_pos hc6, if_pos hc9], u15d⟩, u15e⟩
      · have pre16 : ∀ t, Steps p.tables e below (T0.setTop (mkF m 151 #[.val (.int p1), .val (.int p2), .val (.int p3), .val (.int p4), .val (.ref tb), .val (.int un), .val (.int u6), .val (.int ud), .val (.int u8), .val (.ref ob), .val (.int uk), .unset, .unset, .unset] [])) t → Steps p.tables e below (s₁.setTop E) t := fun t kt => by
          refine pre8 _ ?_
          show Steps p.tables e below (T0.setTop (mkF m 137 #[.val (.int p1), .val (.int p2), .val (.int p3), .val (.int p4), .val (.ref tb), .val (.int un), .val (.int u6), .val (.int ud), .val (.int u8), .val (.ref ob), .val (.int uk), .unset, .unset, .unset] [(.int (10 : Int32)), (.int (own_at4 c0 c1 c2 c3 uk))])) _
          refine XS.icmpYes X0.here hx rfl (pc0 := 137) (pc' := 151) rfl (hb hby at_137) rfl (feq hc9).2 (by decide) (by decide) ?_
          exact kt
        obtain ⟨s217, o17, u17a, u17b, u17c, v17, L17, rfl, ⟨rfl, u17d⟩, u17e⟩ := tlD p1 p2 p3 p4 c0 c1 c2 c3 un u6 ud u8 uk ul tb ob tk X0 hx hZ hw hby hml hown hret hlk e0 N0 Z0 hS0 hkk0 pre16 V_tb E_ob F_text F_end F_pos F_line F_ls ne_tb_ob g_ob hn4 hk0 (own_suc hk0 hk2).2.2.2.2 hd0 hd5
        exact ⟨s217, _, u17a, u17b, u17c, _, _, rfl, ⟨by rw [fC, if_neg hc2, if_pos hc6, if_neg hc9], u17d⟩, u17e⟩
    · have pre18 : ∀ t, Steps p.tables e below (T0.setTop (mkF m 151 #[.val (.int p1), .val (.int p2), .val (.int p3), .val (.int p4), .val (.ref tb), .val (.int un), .val (.int u6), .val (.int ud), .val (.int u8), .val (.ref ob), .val (.int uk), .unset, .unset, .unset] [])) t → Steps p.tables e below (s₁.setTop E) t := fun t kt => by
        refine pre5 _ ?_
        show Steps p.tables e below (T0.setTop (mkF m 127 #[.val (.int p1), .val (.int p2), .val (.int p3), .val (.int p4), .val (.ref tb), .val (.int un), .val (.int u6), .val (.int ud), .val (.int u8), .val (.ref ob), .val (.int uk), .unset, .unset, .unset] [(.int un), (.int uk)])) _
        refine XS.icmpYes X0.here hx rfl (pc0 := 127) (pc' := 151) rfl (hb hby at_127) rfl (flt hc6).2.1 (by decide) (by decide) ?_
        exact kt
      obtain ⟨s219, o19, u19a, u19b, u19c, v19, L19, rfl, ⟨rfl, u19d⟩, u19e⟩ := tlD p1 p2 p3 p4 c0 c1 c2 c3 un u6 ud u8 uk ul tb ob tk X0 hx hZ hw hby hml hown hret hlk e0 N0 Z0 hS0 hkk0 pre18 V_tb E_ob F_text F_end F_pos F_line F_ls ne_tb_ob g_ob hn4 hk0 (own_suc hk0 hk2).2.2.2.2 hd0 hd5
      exact ⟨s219, _, u19a, u19b, u19c, _, _, rfl, ⟨by rw [fC, if_neg hc2, if_neg hc6], u19d⟩, u19e⟩
theorem pd_0_0 : parseMethodDescriptor "(Ljava/lang/String;[CI)V" = some ⟨[(.object "java/lang/String"), (.array .char), .int], none⟩ := by decide +kernel
def bl0_85_1 : List (Nat × Instr × Nat) := [(85, .dup, 1)]
theorem bd0_85_1 : own_dec code bl0_85_1 = true := by decide +kernel
def bl0_88_2 : List (Nat × Instr × Nat) := [(88, .aload 4, 2), (90, .iload 5, 2)]
theorem bd0_88_2 : own_dec code bl0_88_2 = true := by decide +kernel
def bl0_95_1 : List (Nat × Instr × Nat) := [(95, .astore 9, 2)]
theorem bd0_95_1 : own_dec code bl0_95_1 = true := by decide +kernel
def bl0_97_1 : List (Nat × Instr × Nat) := [(97, .iload 5, 2)]
theorem bd0_97_1 : own_dec code bl0_97_1 = true := by decide +kernel
def bl0_102_2 : List (Nat × Instr × Nat) := [(102, .aload 4, 2), (104, .iconst 0, 1)]
theorem bd0_102_2 : own_dec code bl0_102_2 = true := by decide +kernel
def bl0_111_3 : List (Nat × Instr × Nat) := [(111, .iconst 1, 1), (112, .goto 4, 3), (116, .istore 10, 2)]
theorem bd0_111_3 : own_dec code bl0_111_3 = true := by decide +kernel
def bl0_115_2 : List (Nat × Instr × Nat) := [(115, .iconst 0, 1), (116, .istore 10, 2)]
theorem bd0_115_2 : own_dec code bl0_115_2 = true := by decide +kernel
def fB (p1 : Int32) (p2 : Int32) (p3 : Int32) (p4 : Int32) (c0 : Int32) (c1 : Int32) (c2 : Int32) (c3 : Int32) (un : Int32) (u6 : Int32) (ud : Int32) (u8 : Int32) : Int32 := (if (0 : Int32) < un then (if c0 = (65279 : Int32) then (fC p1 p2 p3 p4 c0 c1 c2 c3 un u6 ud u8 (1 : Int32) (1 : Int32)) else (fC p1 p2 p3 p4 c0 c1 c2 c3 un u6 ud u8 (0 : Int32) (1 : Int32))) else (fC p1 p2 p3 p4 c0 c1 c2 c3 un u6 ud u8 (0 : Int32) (1 : Int32)))
set_option maxRecDepth 65536 in
set_option maxHeartbeats 40000000 in
theorem tlB {p : Program} {l : Launch} {e : Env} {s : State} {m : MethodId} {args : Array Value} {below : List Frame} {meth : Method} {c : Code} {s₁ T0 : State} {locs : List Loc} {Z : State} {a0 : Array Value} {h0 : Heap} {n0 : Nat} {E : JFrame} (p1 : Int32) (p2 : Int32) (p3 : Int32) (p4 : Int32) (c0 : Int32) (c1 : Int32) (c2 : Int32) (c3 : Int32) (un : Int32) (u6 : Int32) (ud : Int32) (u8 : Int32) (tb : Addr) (tk : ClassId)
    (X0 : Stand p l e room_1 s m args below meth c T0 locs 1 4) (hx : p.tables.exec = Jvm.exec) (hZ : Z.Warmed39 s.vm) (hw : ∀ d ∈ tables_1, d.before a0 Z = true) (hby : c.code = code) (hml : c.maxLocals = 14) (hown : s.vm.findClass "com/example/endcon/endcon/yaml/CursorAtLineStartPinLaw" = some m.cls) (hret : meth.sig.returnType = some .boolean) (hlk : meth.locks = false) (e0 : T0.heap = h0) (N0 : Fr n0 locs) (Z0 : n0 ≤ h0.size)
    (pre0 : ∀ t, Steps p.tables e below (T0.setTop (mkF m 82 #[.val (.int p1), .val (.int p2), .val (.int p3), .val (.int p4), .val (.ref tb), .val (.int un), .val (.int u6), .val (.int ud), .val (.int u8), .unset, .unset, .unset, .unset, .unset] [])) t → Steps p.tables e below (s₁.setTop E) t) (V_tb : Arv Z h0 tb tk .char (4 : Int32) [(.int c0), (.int c1), (.int c2), (.int c3)] (.int (0 : Int32))) (g_tb : n0 ≤ tb) (hn4 : ¬ ((4 : Int32) < un)) (hd0 : ¬ ud < 0) (hd5 : ud < 5) :
    ∃ s₂ o, Steps p.tables e below (s₁.setTop E) s₂ ∧ s₂.status = .running ∧ Ended s₂ below o ∧ ∃ v L, o = .returned v ∧ (v = some (.int (fB p1 p2 p3 p4 c0 c1 c2 c3 un u6 ud u8)) ∧ Fr n0 L) ∧ ReturnedEndW s o s₂ L room_1.cells room_1.slots := by
  obtain ⟨T1, h1, X1, e1, E1, A1, D1, -, st1⟩ := newO X0 hx hZ hown (hw _ (List.mem_of_getElem? (i := 1) rfl)) (hw _ (List.mem_of_getElem? (i := 2) rfl)) (hw _ (List.mem_of_getElem? (i := 3) rfl)) e0 (g := (mkF m 82 #[.val (.int p1), .val (.int p2), .val (.int p3), .val (.int p4), .val (.ref tb), .val (.int un), .val (.int u6), .val (.int ud), .val (.int u8), .unset, .unset, .unset, .unset, .unset] [])) rfl (hb hby at_82) (by decide) (by decide)
  obtain ⟨b1, g1⟩ : ∃ z, z = h0.size := ⟨_, rfl⟩
  rw [← g1] at A1 D1 st1
  have ne_tb_b1 : tb ≠ b1 := Nat.ne_of_lt (Nat.lt_of_lt_of_le V_tb.lt (Nat.le_of_eq g1.symm))
  have g_b1 : n0 ≤ b1 := Nat.le_trans Z0 (Nat.le_of_eq g1.symm)
  have zs2 : n0 ≤ h1.size := Nat.le_trans Z0 E1.1
  have F_line_b1 : Fld Z h1 b1 "com/example/endcon/endcon/yaml/Cursor" "line" "I" (.int (0 : Int32)) := D1 (Or.inl (hw _ (List.mem_of_getElem? (i := 19) rfl))) (ty := .int) (by decide)
  have F_blankLinesFrom_b1 : Fld Z h1 b1 "com/example/endcon/endcon/yaml/Cursor" "blankLinesFrom" "I" (.int (0 : Int32)) := D1 (Or.inl (hw _ (List.mem_of_getElem? (i := 21) rfl))) (ty := .int) (by decide)
  have F_countedIndex_b1 : Fld Z h1 b1 "com/example/endcon/endcon/yaml/Cursor" "countedIndex" "I" (.int (0 : Int32)) := D1 (Or.inl (hw _ (List.mem_of_getElem? (i := 23) rfl))) (ty := .int) (by decide)
  have F_file_b1 : Fld Z h1 b1 "com/example/endcon/endcon/yaml/Cursor" "file" "Ljava/lang/String;" .null := D1 (Or.inr (hw _ (List.mem_of_getElem? (i := 25) rfl))) (ty := (.object "java/lang/String")) (by decide)
  have F_text_b1 : Fld Z h1 b1 "com/example/endcon/endcon/yaml/Cursor" "text" "[C" .null := D1 (Or.inl (hw _ (List.mem_of_getElem? (i := 27) rfl))) (ty := (.array .char)) (by decide)
  have F_end_b1 : Fld Z h1 b1 "com/example/endcon/endcon/yaml/Cursor" "end" "I" (.int (0 : Int32)) := D1 (Or.inr (hw _ (List.mem_of_getElem? (i := 29) rfl))) (ty := .int) (by decide)
  have F_hasSurrogates_b1 : Fld Z h1 b1 "com/example/endcon/endcon/yaml/Cursor" "hasSurrogates" "Z" (.int (0 : Int32)) := D1 (Or.inr (hw _ (List.mem_of_getElem? (i := 36) rfl))) (ty := .boolean) (by decide)
  have F_pos_b1 : Fld Z h1 b1 "com/example/endcon/endcon/yaml/Cursor" "pos" "I" (.int (0 : Int32)) := D1 (Or.inl (hw _ (List.mem_of_getElem? (i := 45) rfl))) (ty := .int) (by decide)
  have F_lineStart_b1 : Fld Z h1 b1 "com/example/endcon/endcon/yaml/Cursor" "lineStart" "I" (.int (0 : Int32)) := D1 (Or.inl (hw _ (List.mem_of_getElem? (i := 52) rfl))) (ty := .int) (by decide)
  have pre3 : ∀ t, Steps p.tables e below (T1.setTop (mkF m 86 #[.val (.int p1), .val (.int p2), .val (.int p3), .val (.int p4), .val (.ref tb), .val (.int un), .val (.int u6), .val (.int ud), .val (.int u8), .unset, .unset, .unset, .unset, .unset] [(.ref b1), (.ref b1)])) t → Steps p.tables e below (s₁.setTop E) t := fun t kt => by
    refine pre0 _ ?_
    show Steps p.tables e below (T0.setTop (mkF m 82 #[.val (.int p1), .val (.int p2), .val (.int p3), .val (.int p4), .val (.ref tb), .val (.int un), .val (.int u6), .val (.int ud), .val (.int u8), .unset, .unset, .unset, .unset, .unset] [])) _
    refine st1 _ ?_
    show Steps p.tables e below (T1.setTop (mkF m 85 #[.val (.int p1), .val (.int p2), .val (.int p3), .val (.int p4), .val (.ref tb), .val (.int un), .val (.int u6), .val (.int ud), .val (.int u8), .unset, .unset, .unset, .unset, .unset] [(.ref b1)])) _
    refine own_blk X1 hx bl0_85_1 (own_hb hby bd0_85_1) (pc' := 86) (Ls' := #[.val (.int p1), .val (.int p2), .val (.int p3), .val (.int p4), .val (.ref tb), .val (.int un), .val (.int u6), .val (.int ud), .val (.int u8), .unset, .unset, .unset, .unset, .unset]) (st' := [(.ref b1), (.ref b1)]) rfl ?_
    exact kt
  have hS4a : s.Since s.vm h1.size := (State.WarmedH.refl s).since _
  obtain ⟨sa4, T4, h4, kk4, X4, e4, E4, hS4, hkk4, hZ, hown, st4⟩ := ldcS (s := s) (vm0 := s.vm) X1 hx hZ hown (hw _ (List.mem_of_getElem? (i := 4) rfl)) (own_ws hw) e1 hS4a (Nat.le_refl _) (g := (mkF m 86 #[.val (.int p1), .val (.int p2), .val (.int p3), .val (.int p4), .val (.ref tb), .val (.int un), .val (.int u6), .val (.int ud), .val (.int u8), .unset, .unset, .unset, .unset, .unset] [(.ref b1), (.ref b1)])) rfl (hb hby at_86) (n := 4) (by decide) (by decide) (by decide) (by decide)
  have zs5 : n0 ≤ h4.size := Nat.le_trans zs2 E4.1
  have pre6 : ∀ t, Steps p.tables e below (T4.setTop (mkF m 92 #[.val (.int p1), .val (.int p2), .val (.int p3), .val (.int p4), .val (.ref tb), .val (.int un), .val (.int u6), .val (.int ud), .val (.int u8), .unset, .unset, .unset, .unset, .unset] [(.int un), (.ref tb), (.ref sa4), (.ref b1), (.ref b1)])) t → Steps p.tables e below (s₁.setTop E) t := fun t kt => by
    refine pre3 _ ?_
    show Steps p.tables e below (T1.setTop (mkF m 86 #[.val (.int p1), .val (.int p2), .val (.int p3), .val (.int p4), .val (.ref tb), .val (.int un), .val (.int u6), .val (.int ud), .val (.int u8), .unset, .unset, .unset, .unset, .unset] [(.ref b1), (.ref b1)])) _
    refine st4 _ ?_
    show Steps p.tables e below (T4.setTop (mkF m 88 #[.val (.int p1), .val (.int p2), .val (.int p3), .val (.int p4), .val (.ref tb), .val (.int un), .val (.int u6), .val (.int ud), .val (.int u8), .unset, .unset, .unset, .unset, .unset] [(.ref sa4), (.ref b1), (.ref b1)])) _
    refine own_blk X4 hx bl0_88_2 (own_hb hby bd0_88_2) (pc' := 92) (Ls' := #[.val (.int p1), .val (.int p2), .val (.int p3), .val (.int p4), .val (.ref tb), .val (.int un), .val (.int u6), .val (.int ud), .val (.int u8), .unset, .unset, .unset, .unset, .unset]) (st' := [(.int un), (.ref tb), (.ref sa4), (.ref b1), (.ref b1)]) rfl ?_
    exact kt
  by_cases hc7 : (0 : Int32) < un
  · by_cases hc8 : c0 = (65279 : Int32)
    · have fa10 : Exa Z h4 b1 "com/example/endcon/endcon/yaml/Cursor" := (A1.ext E4)
      have fa11 : Fld Z h4 b1 "com/example/endcon/endcon/yaml/Cursor" "line" "I" (.int (0 : Int32)) := (F_line_b1.ext E4)
      have fa12 : Fld Z h4 b1 "com/example/endcon/endcon/yaml/Cursor" "blankLinesFrom" "I" (.int (0 : Int32)) := (F_blankLinesFrom_b1.ext E4)
      have fa13 : Fld Z h4 b1 "com/example/endcon/endcon/yaml/Cursor" "countedIndex" "I" (.int (0 : Int32)) := (F_countedIndex_b1.ext E4)
      have fa14 : Fld Z h4 b1 "com/example/endcon/endcon/yaml/Cursor" "file" "Ljava/lang/String;" .null := (F_file_b1.ext E4)
      have fa15 : Fld Z h4 b1 "com/example/endcon/endcon/yaml/Cursor" "text" "[C" .null := (F_text_b1.ext E4)
      have fa16 : Fld Z h4 b1 "com/example/endcon/endcon/yaml/Cursor" "end" "I" (.int (0 : Int32)) := (F_end_b1.ext E4)
      have fa17 : Fld Z h4 b1 "com/example/endcon/endcon/yaml/Cursor" "hasSurrogates" "Z" (.int (0 : Int32)) := (F_hasSurrogates_b1.ext E4)
      have fa18 : Fld Z h4 b1 "com/example/endcon/endcon/yaml/Cursor" "pos" "I" (.int (0 : Int32)) := (F_pos_b1.ext E4)
      have fa19 : Fld Z h4 b1 "com/example/endcon/endcon/yaml/Cursor" "lineStart" "I" (.int (0 : Int32)) := (F_lineStart_b1.ext E4)
      have fa20 : Arv Z h4 tb tk .char (4 : Int32) [(.int c0), (.int c1), (.int c2), (.int c3)] (.int (0 : Int32)) := ((V_tb.ext E1).ext E4)
      obtain ⟨_, T9, Lc9, X9, hQ9, st9⟩ := own_callI X4 hx hZ (y := (⟨"com/example/endcon/endcon/yaml/Cursor", "<init>", "(Ljava/lang/String;[CI)V"⟩ : MethodName)) rfl hown (hw _ (List.mem_of_getElem? (i := 12) rfl)) (hw _ (List.mem_of_getElem? (i := 13) rfl)) (hw _ (List.mem_of_getElem? (i := 3) rfl)) (hw _ (List.mem_of_getElem? (i := 14) rfl)) (by decide) (W := 1) (a := b1) (argsL := [(.ref sa4), (.ref tb), (.int un)]) (rest := [(.ref b1)]) (rm1b l Z a0 hw [] b1 sa4 tb un c0 c1 c2 c3 tk h4 n0 zs5 fa10 fa11 fa12 fa13 fa14 fa15 fa16 fa17 fa18 fa19 g_b1 fa20 (Ne.symm ne_tb_b1) hn4 hc7 hc8) (by decide) (by decide) (c' := 4) (s' := 24) rfl rfl (by decide) (by decide) e4 (g := (mkF m 92 #[.val (.int p1), .val (.int p2), .val (.int p3), .val (.int p4), .val (.ref tb), .val (.int un), .val (.int u6), .val (.int ud), .val (.int u8), .unset, .unset, .unset, .unset, .unset] [(.int un), (.ref tb), (.ref sa4), (.ref b1), (.ref b1)])) rfl (by rw [hml]; rfl) (lenOf pd_0_0 rfl) rfl (by show 2 * 0 + _ ≤ _; exact Nat.le_of_eq rfl) (hb hby at_92)
      obtain ⟨rfl, N9q, K9, Ec9_a1, Fc9_a1_line, Fc9_a1_blankLinesFrom, Fc9_a1_countedIndex, Fc9_a1_file, Fc9_a1_text, Fc9_a1_end, Fc9_a1_hasSurrogates, Fc9_a1_pos, Fc9_a1_lineStart⟩ := hQ9
      have N9 := Fr.app N0 N9q
      have zk21 : kk4 ≤ T9.heap.size := Nat.le_trans hkk4 K9.1
      have zs22 : n0 ≤ T9.heap.size := Nat.le_trans zs5 K9.1
      have fa23 : Arv Z T9.heap tb tk .char (4 : Int32) [(.int c0), (.int c1), (.int c2), (.int c3)] (.int (0 : Int32)) := (fa20.keep K9 (ninS ne_tb_b1 nin0))
      obtain ⟨cx24, Ar24, qq24, S24, N24_, H24, G24⟩ := id fa23
      have hin24 : ¬ ((0 : Int32) < 0 ∨ cx24.slots.size ≤ ((0 : Int32)).toNatClampNeg) := inb_of S24 ⟨by decide, by decide⟩
      have hat24 : cx24.slots[((0 : Int32)).toNatClampNeg]? = some (.int c0) := (H24 ((0 : Int32)).toNatClampNeg (Nat.lt_of_not_le fun w => hin24 (Or.inr w))).trans (congrArg some (rfl))
      have pre25 : ∀ t, Steps p.tables e below (T9.setTop (mkF m 118 #[.val (.int p1), .val (.int p2), .val (.int p3), .val (.int p4), .val (.ref tb), .val (.int un), .val (.int u6), .val (.int ud), .val (.int u8), .val (.ref b1), .val (.int (1 : Int32)), .unset, .unset, .unset] [])) t → Steps p.tables e below (s₁.setTop E) t := fun t kt => by
        refine pre6 _ ?_
        show Steps p.tables e below (T4.setTop (mkF m 92 #[.val (.int p1), .val (.int p2), .val (.int p3), .val (.int p4), .val (.ref tb), .val (.int un), .val (.int u6), .val (.int ud), .val (.int u8), .unset, .unset, .unset, .unset, .unset] [(.int un), (.ref tb), (.ref sa4), (.ref b1), (.ref b1)])) _
        refine st9 _ ?_
        show Steps p.tables e below (T9.setTop (mkF m 95 #[.val (.int p1), .val (.int p2), .val (.int p3), .val (.int p4), .val (.ref tb), .val (.int un), .val (.int u6), .val (.int ud), .val (.int u8), .unset, .unset, .unset, .unset, .unset] [(.ref b1)])) _
        refine own_blk X9 hx bl0_95_1 (own_hb hby bd0_95_1) (pc' := 97) (Ls' := #[.val (.int p1), .val (.int p2), .val (.int p3), .val (.int p4), .val (.ref tb), .val (.int un), .val (.int u6), .val (.int ud), .val (.int u8), .val (.ref b1), .unset, .unset, .unset, .unset]) (st' := []) rfl ?_
        refine own_blk X9 hx bl0_97_1 (own_hb hby bd0_97_1) (pc' := 99) (Ls' := #[.val (.int p1), .val (.int p2), .val (.int p3), .val (.int p4), .val (.ref tb), .val (.int un), .val (.int u6), .val (.int ud), .val (.int u8), .val (.ref b1), .unset, .unset, .unset, .unset]) (st' := [(.int un)]) rfl ?_
        refine XS.ifNo X9.here hx rfl (hb hby at_99) rfl ((if0 _ _).trans (tlt hc7).2.2.2) ?_
        show Steps p.tables e below (T9.setTop (mkF m 102 #[.val (.int p1), .val (.int p2), .val (.int p3), .val (.int p4), .val (.ref tb), .val (.int un), .val (.int u6), .val (.int ud), .val (.int u8), .val (.ref b1), .unset, .unset, .unset, .unset] [])) _
        refine own_blk X9 hx bl0_102_2 (own_hb hby bd0_102_2) (pc' := 105) (Ls' := #[.val (.int p1), .val (.int p2), .val (.int p3), .val (.int p4), .val (.ref tb), .val (.int un), .val (.int u6), .val (.int ud), .val (.int u8), .val (.ref b1), .unset, .unset, .unset, .unset]) (st' := [(.int (0 : Int32)), (.ref tb)]) rfl ?_
        refine X9.caload hx (j := (0 : Int32)) (v := (.int c0)) Ar24.1 (State.isArrayOf_alike hZ.alike Ar24.2.1) Ar24.2.2 hin24 hat24 (g := (mkF m 105 #[.val (.int p1), .val (.int p2), .val (.int p3), .val (.int p4), .val (.ref tb), .val (.int un), .val (.int u6), .val (.int ud), .val (.int u8), .val (.ref b1), .unset, .unset, .unset, .unset] [(.int (0 : Int32)), (.ref tb)])) rfl rfl (hb hby at_105) _ ?_
        show Steps p.tables e below (T9.setTop (mkF m 106 #[.val (.int p1), .val (.int p2), .val (.int p3), .val (.int p4), .val (.ref tb), .val (.int un), .val (.int u6), .val (.int ud), .val (.int u8), .val (.ref b1), .unset, .unset, .unset, .unset] [(.int c0)])) _
        refine X9.ldcInt hx hown (mvT hZ (hw _ (List.mem_of_getElem? (i := 38) rfl))) (g := (mkF m 106 #[.val (.int p1), .val (.int p2), .val (.int p3), .val (.int p4), .val (.ref tb), .val (.int un), .val (.int u6), .val (.int ud), .val (.int u8), .val (.ref b1), .unset, .unset, .unset, .unset] [(.int c0)])) rfl (hb hby at_106) _ ?_
        show Steps p.tables e below (T9.setTop (mkF m 108 #[.val (.int p1), .val (.int p2), .val (.int p3), .val (.int p4), .val (.ref tb), .val (.int un), .val (.int u6), .val (.int ud), .val (.int u8), .val (.ref b1), .unset, .unset, .unset, .unset] [(.int (65279 : Int32)), (.int c0)])) _
        refine XS.icmpNo X9.here hx rfl (hb hby at_108) rfl (teq hc8).2 ?_
        show Steps p.tables e below (T9.setTop (mkF m 111 #[.val (.int p1), .val (.int p2), .val (.int p3), .val (.int p4), .val (.ref tb), .val (.int un), .val (.int u6), .val (.int ud), .val (.int u8), .val (.ref b1), .unset, .unset, .unset, .unset] [])) _
        refine own_blk X9 hx bl0_111_3 (own_hb hby bd0_111_3) (pc' := 118) (Ls' := #[.val (.int p1), .val (.int p2), .val (.int p3), .val (.int p4), .val (.ref tb), .val (.int un), .val (.int u6), .val (.int ud), .val (.int u8), .val (.ref b1), .val (.int (1 : Int32)), .unset, .unset, .unset]) (st' := []) rfl ?_
        exact kt
      obtain ⟨s226, o26, u26a, u26b, u26c, v26, L26, rfl, ⟨rfl, u26d⟩, u26e⟩ := tlC p1 p2 p3 p4 c0 c1 c2 c3 un u6 ud u8 (1 : Int32) (1 : Int32) tb b1 tk X9 hx hZ hw hby hml hown hret hlk rfl N9 zs22 hS4 zk21 pre25 fa23 Ec9_a1 Fc9_a1_text Fc9_a1_end Fc9_a1_pos Fc9_a1_line Fc9_a1_lineStart ne_tb_b1 g_b1 hn4 (by decide) (by decide) hd0 hd5
      exact ⟨s226, _, u26a, u26b, u26c, _, _, rfl, ⟨by rw [fB, if_pos hc7, if_pos hc8], u26d⟩, u26e⟩
    · have fa28 : Exa Z h4 b1 "com/example/endcon/endcon/yaml/Cursor" := (A1.ext E4)
      have fa29 : Fld Z h4 b1 "com/example/endcon/endcon/yaml/Cursor" "line" "I" (.int (0 : Int32)) := (F_line_b1.ext E4)
      have fa30 : Fld Z h4 b1 "com/example/endcon/endcon/yaml/Cursor" "blankLinesFrom" "I" (.int (0 : Int32)) := (F_blankLinesFrom_b1.ext E4)
      have fa31 : Fld Z h4 b1 "com/example/endcon/endcon/yaml/Cursor" "countedIndex" "I" (.int (0 : Int32)) := (F_countedIndex_b1.ext E4)
      have fa32 : Fld Z h4 b1 "com/example/endcon/endcon/yaml/Cursor" "file" "Ljava/lang/String;" .null := (F_file_b1.ext E4)
      have fa33 : Fld Z h4 b1 "com/example/endcon/endcon/yaml/Cursor" "text" "[C" .null := (F_text_b1.ext E4)
      have fa34 : Fld Z h4 b1 "com/example/endcon/endcon/yaml/Cursor" "end" "I" (.int (0 : Int32)) := (F_end_b1.ext E4)
      have fa35 : Fld Z h4 b1 "com/example/endcon/endcon/yaml/Cursor" "hasSurrogates" "Z" (.int (0 : Int32)) := (F_hasSurrogates_b1.ext E4)
      have fa36 : Fld Z h4 b1 "com/example/endcon/endcon/yaml/Cursor" "pos" "I" (.int (0 : Int32)) := (F_pos_b1.ext E4)
      have fa37 : Fld Z h4 b1 "com/example/endcon/endcon/yaml/Cursor" "lineStart" "I" (.int (0 : Int32)) := (F_lineStart_b1.ext E4)
      have fa38 : Arv Z h4 tb tk .char (4 : Int32) [(.int c0), (.int c1), (.int c2), (.int c3)] (.int (0 : Int32)) := ((V_tb.ext E1).ext E4)
      obtain ⟨_, T27, Lc27, X27, hQ27, st27⟩ := own_callI X4 hx hZ (y := (⟨"com/example/endcon/endcon/yaml/Cursor", "<init>", "(Ljava/lang/String;[CI)V"⟩ : MethodName)) rfl hown (hw _ (List.mem_of_getElem? (i := 12) rfl)) (hw _ (List.mem_of_getElem? (i := 13) rfl)) (hw _ (List.mem_of_getElem? (i := 3) rfl)) (hw _ (List.mem_of_getElem? (i := 14) rfl)) (by decide) (W := 1) (a := b1) (argsL := [(.ref sa4), (.ref tb), (.int un)]) (rest := [(.ref b1)]) (rm1x l Z a0 hw [] b1 sa4 tb un c0 c1 c2 c3 tk h4 n0 zs5 fa28 fa29 fa30 fa31 fa32 fa33 fa34 fa35 fa36 fa37 g_b1 fa38 (Ne.symm ne_tb_b1) hn4 hc7 hc8) (by decide) (by decide) (c' := 4) (s' := 24) rfl rfl (by decide) (by decide) e4 (g := (mkF m 92 #[.val (.int p1), .val (.int p2), .val (.int p3), .val (.int p4), .val (.ref tb), .val (.int un), .val (.int u6), .val (.int ud), .val (.int u8), .unset, .unset, .unset, .unset, .unset] [(.int un), (.ref tb), (.ref sa4), (.ref b1), (.ref b1)])) rfl (by rw [hml]; rfl) (lenOf pd_0_0 rfl) rfl (by show 2 * 0 + _ ≤ _; exact Nat.le_of_eq rfl) (hb hby at_92)
      obtain ⟨rfl, N27q, K27, Ec27_a1, Fc27_a1_line, Fc27_a1_blankLinesFrom, Fc27_a1_countedIndex, Fc27_a1_file, Fc27_a1_text, Fc27_a1_end, Fc27_a1_hasSurrogates, Fc27_a1_pos, Fc27_a1_lineStart⟩ := hQ27
      have N27 := Fr.app N0 N27q
      have zk39 : kk4 ≤ T27.heap.size := Nat.le_trans hkk4 K27.1
      have zs40 : n0 ≤ T27.heap.size := Nat.le_trans zs5 K27.1
      have fa41 : Arv Z T27.heap tb tk .char (4 : Int32) [(.int c0), (.int c1), (.int c2), (.int c3)] (.int (0 : Int32)) := (fa38.keep K27 (ninS ne_tb_b1 nin0))
      obtain ⟨cx42, Ar42, qq42, S42, N42_, H42, G42⟩ := id fa41
      have hin42 : ¬ ((0 : Int32) < 0 ∨ cx42.slots.size ≤ ((0 : Int32)).toNatClampNeg) := inb_of S42 ⟨by decide, by decide⟩
      have hat42 : cx42.slots[((0 : Int32)).toNatClampNeg]? = some (.int c0) := (H42 ((0 : Int32)).toNatClampNeg (Nat.lt_of_not_le fun w => hin42 (Or.inr w))).trans (congrArg some (rfl))
      have pre43 : ∀ t, Steps p.tables e below (T27.setTop (mkF m 118 #[.val (.int p1), .val (.int p2), .val (.int p3), .val (.int p4), .val (.ref tb), .val (.int un), .val (.int u6), .val (.int ud), .val (.int u8), .val (.ref b1), .val (.int (0 : Int32)), .unset, .unset, .unset] [])) t → Steps p.tables e below (s₁.setTop E) t := fun t kt => by
        refine pre6 _ ?_
        show Steps p.tables e below (T4.setTop (mkF m 92 #[.val (.int p1), .val (.int p2), .val (.int p3), .val (.int p4), .val (.ref tb), .val (.int un), .val (.int u6), .val (.int ud), .val (.int u8), .unset, .unset, .unset, .unset, .unset] [(.int un), (.ref tb), (.ref sa4), (.ref b1), (.ref b1)])) _
        refine st27 _ ?_
        show Steps p.tables e below (T27.setTop (mkF m 95 #[.val (.int p1), .val (.int p2), .val (.int p3), .val (.int p4), .val (.ref tb), .val (.int un), .val (.int u6), .val (.int ud), .val (.int u8), .unset, .unset, .unset, .unset, .unset] [(.ref b1)])) _
        refine own_blk X27 hx bl0_95_1 (own_hb hby bd0_95_1) (pc' := 97) (Ls' := #[.val (.int p1), .val (.int p2), .val (.int p3), .val (.int p4), .val (.ref tb), .val (.int un), .val (.int u6), .val (.int ud), .val (.int u8), .val (.ref b1), .unset, .unset, .unset, .unset]) (st' := []) rfl ?_
        refine own_blk X27 hx bl0_97_1 (own_hb hby bd0_97_1) (pc' := 99) (Ls' := #[.val (.int p1), .val (.int p2), .val (.int p3), .val (.int p4), .val (.ref tb), .val (.int un), .val (.int u6), .val (.int ud), .val (.int u8), .val (.ref b1), .unset, .unset, .unset, .unset]) (st' := [(.int un)]) rfl ?_
        refine XS.ifNo X27.here hx rfl (hb hby at_99) rfl ((if0 _ _).trans (tlt hc7).2.2.2) ?_
        show Steps p.tables e below (T27.setTop (mkF m 102 #[.val (.int p1), .val (.int p2), .val (.int p3), .val (.int p4), .val (.ref tb), .val (.int un), .val (.int u6), .val (.int ud), .val (.int u8), .val (.ref b1), .unset, .unset, .unset, .unset] [])) _
        refine own_blk X27 hx bl0_102_2 (own_hb hby bd0_102_2) (pc' := 105) (Ls' := #[.val (.int p1), .val (.int p2), .val (.int p3), .val (.int p4), .val (.ref tb), .val (.int un), .val (.int u6), .val (.int ud), .val (.int u8), .val (.ref b1), .unset, .unset, .unset, .unset]) (st' := [(.int (0 : Int32)), (.ref tb)]) rfl ?_
        refine X27.caload hx (j := (0 : Int32)) (v := (.int c0)) Ar42.1 (State.isArrayOf_alike hZ.alike Ar42.2.1) Ar42.2.2 hin42 hat42 (g := (mkF m 105 #[.val (.int p1), .val (.int p2), .val (.int p3), .val (.int p4), .val (.ref tb), .val (.int un), .val (.int u6), .val (.int ud), .val (.int u8), .val (.ref b1), .unset, .unset, .unset, .unset] [(.int (0 : Int32)), (.ref tb)])) rfl rfl (hb hby at_105) _ ?_
        show Steps p.tables e below (T27.setTop (mkF m 106 #[.val (.int p1), .val (.int p2), .val (.int p3), .val (.int p4), .val (.ref tb), .val (.int un), .val (.int u6), .val (.int ud), .val (.int u8), .val (.ref b1), .unset, .unset, .unset, .unset] [(.int c0)])) _
        refine X27.ldcInt hx hown (mvT hZ (hw _ (List.mem_of_getElem? (i := 38) rfl))) (g := (mkF m 106 #[.val (.int p1), .val (.int p2), .val (.int p3), .val (.int p4), .val (.ref tb), .val (.int un), .val (.int u6), .val (.int ud), .val (.int u8), .val (.ref b1), .unset, .unset, .unset, .unset] [(.int c0)])) rfl (hb hby at_106) _ ?_
        show Steps p.tables e below (T27.setTop (mkF m 108 #[.val (.int p1), .val (.int p2), .val (.int p3), .val (.int p4), .val (.ref tb), .val (.int un), .val (.int u6), .val (.int ud), .val (.int u8), .val (.ref b1), .unset, .unset, .unset, .unset] [(.int (65279 : Int32)), (.int c0)])) _
        refine XS.icmpYes X27.here hx rfl (pc0 := 108) (pc' := 115) rfl (hb hby at_108) rfl (feq hc8).2 (by decide) (by decide) ?_
        show Steps p.tables e below (T27.setTop (mkF m 115 #[.val (.int p1), .val (.int p2), .val (.int p3), .val (.int p4), .val (.ref tb), .val (.int un), .val (.int u6), .val (.int ud), .val (.int u8), .val (.ref b1), .unset, .unset, .unset, .unset] [])) _
        refine own_blk X27 hx bl0_115_2 (own_hb hby bd0_115_2) (pc' := 118) (Ls' := #[.val (.int p1), .val (.int p2), .val (.int p3), .val (.int p4), .val (.ref tb), .val (.int un), .val (.int u6), .val (.int ud), .val (.int u8), .val (.ref b1), .val (.int (0 : Int32)), .unset, .unset, .unset]) (st' := []) rfl ?_
        exact kt
      obtain ⟨s244, o44, u44a, u44b, u44c, v44, L44, rfl, ⟨rfl, u44d⟩, u44e⟩ := tlC p1 p2 p3 p4 c0 c1 c2 c3 un u6 ud u8 (0 : Int32) (1 : Int32) tb b1 tk X27 hx hZ hw hby hml hown hret hlk rfl N27 zs40 hS4 zk39 pre43 fa41 Ec27_a1 Fc27_a1_text Fc27_a1_end Fc27_a1_pos Fc27_a1_line Fc27_a1_lineStart ne_tb_b1 g_b1 hn4 (by decide) (by decide) hd0 hd5
      exact ⟨s244, _, u44a, u44b, u44c, _, _, rfl, ⟨by rw [fB, if_pos hc7, if_neg hc8], u44d⟩, u44e⟩
  · have fa46 : Exa Z h4 b1 "com/example/endcon/endcon/yaml/Cursor" := (A1.ext E4)
    have fa47 : Fld Z h4 b1 "com/example/endcon/endcon/yaml/Cursor" "line" "I" (.int (0 : Int32)) := (F_line_b1.ext E4)
    have fa48 : Fld Z h4 b1 "com/example/endcon/endcon/yaml/Cursor" "blankLinesFrom" "I" (.int (0 : Int32)) := (F_blankLinesFrom_b1.ext E4)
    have fa49 : Fld Z h4 b1 "com/example/endcon/endcon/yaml/Cursor" "countedIndex" "I" (.int (0 : Int32)) := (F_countedIndex_b1.ext E4)
    have fa50 : Fld Z h4 b1 "com/example/endcon/endcon/yaml/Cursor" "file" "Ljava/lang/String;" .null := (F_file_b1.ext E4)
    have fa51 : Fld Z h4 b1 "com/example/endcon/endcon/yaml/Cursor" "text" "[C" .null := (F_text_b1.ext E4)
    have fa52 : Fld Z h4 b1 "com/example/endcon/endcon/yaml/Cursor" "end" "I" (.int (0 : Int32)) := (F_end_b1.ext E4)
    have fa53 : Fld Z h4 b1 "com/example/endcon/endcon/yaml/Cursor" "hasSurrogates" "Z" (.int (0 : Int32)) := (F_hasSurrogates_b1.ext E4)
    have fa54 : Fld Z h4 b1 "com/example/endcon/endcon/yaml/Cursor" "pos" "I" (.int (0 : Int32)) := (F_pos_b1.ext E4)
    have fa55 : Fld Z h4 b1 "com/example/endcon/endcon/yaml/Cursor" "lineStart" "I" (.int (0 : Int32)) := (F_lineStart_b1.ext E4)
    have fa56 : Arv Z h4 tb tk .char (4 : Int32) [(.int c0), (.int c1), (.int c2), (.int c3)] (.int (0 : Int32)) := ((V_tb.ext E1).ext E4)
    obtain ⟨_, T45, Lc45, X45, hQ45, st45⟩ := own_callI X4 hx hZ (y := (⟨"com/example/endcon/endcon/yaml/Cursor", "<init>", "(Ljava/lang/String;[CI)V"⟩ : MethodName)) rfl hown (hw _ (List.mem_of_getElem? (i := 12) rfl)) (hw _ (List.mem_of_getElem? (i := 13) rfl)) (hw _ (List.mem_of_getElem? (i := 3) rfl)) (hw _ (List.mem_of_getElem? (i := 14) rfl)) (by decide) (W := 1) (a := b1) (argsL := [(.ref sa4), (.ref tb), (.int un)]) (rest := [(.ref b1)]) (rm1n l Z a0 hw [] b1 sa4 tb un c0 c1 c2 c3 tk h4 n0 zs5 fa46 fa47 fa48 fa49 fa50 fa51 fa52 fa53 fa54 fa55 g_b1 fa56 (Ne.symm ne_tb_b1) hn4 hc7) (by decide) (by decide) (c' := 4) (s' := 24) rfl rfl (by decide) (by decide) e4 (g := (mkF m 92 #[.val (.int p1), .val (.int p2), .val (.int p3), .val (.int p4), .val (.ref tb), .val (.int un), .val (.int u6), .val (.int ud), .val (.int u8), .unset, .unset, .unset, .unset, .unset] [(.int un), (.ref tb), (.ref sa4), (.ref b1), (.ref b1)])) rfl (by rw [hml]; rfl) (lenOf pd_0_0 rfl) rfl (by show 2 * 0 + _ ≤ _; exact Nat.le_of_eq rfl) (hb hby at_92)
    obtain ⟨rfl, N45q, K45, Ec45_a1, Fc45_a1_line, Fc45_a1_blankLinesFrom, Fc45_a1_countedIndex, Fc45_a1_file, Fc45_a1_text, Fc45_a1_end, Fc45_a1_hasSurrogates, Fc45_a1_pos, Fc45_a1_lineStart⟩ := hQ45
    have N45 := Fr.app N0 N45q
    have zk57 : kk4 ≤ T45.heap.size := Nat.le_trans hkk4 K45.1
    have zs58 : n0 ≤ T45.heap.size := Nat.le_trans zs5 K45.1
    have fa59 : Arv Z T45.heap tb tk .char (4 : Int32) [(.int c0), (.int c1), (.int c2), (.int c3)] (.int (0 : Int32)) := (fa56.keep K45 (ninS ne_tb_b1 nin0))
    have pre60 : ∀ t, Steps p.tables e below (T45.setTop (mkF m 118 #[.val (.int p1), .val (.int p2), .val (.int p3), .val (.int p4), .val (.ref tb), .val (.int un), .val (.int u6), .val (.int ud), .val (.int u8), .val (.ref b1), .val (.int (0 : Int32)), .unset, .unset, .unset] [])) t → Steps p.tables e below (s₁.setTop E) t := fun t kt => by
      refine pre6 _ ?_
      show Steps p.tables e below (T4.setTop (mkF m 92 #[.val (.int p1), .val (.int p2), .val (.int p3), .val (.int p4), .val (.ref tb), .val (.int un), .val (.int u6), .val (.int ud), .val (.int u8), .unset, .unset, .unset, .unset, .unset] [(.int un), (.ref tb), (.ref sa4), (.ref b1), (.ref b1)])) _
      refine st45 _ ?_
      show Steps p.tables e below (T45.setTop (mkF m 95 #[.val (.int p1), .val (.int p2), .val (.int p3), .val (.int p4), .val (.ref tb), .val (.int un), .val (.int u6), .val (.int ud), .val (.int u8), .unset, .unset, .unset, .unset, .unset] [(.ref b1)])) _
      refine own_blk X45 hx bl0_95_1 (own_hb hby bd0_95_1) (pc' := 97) (Ls' := #[.val (.int p1), .val (.int p2), .val (.int p3), .val (.int p4), .val (.ref tb), .val (.int un), .val (.int u6), .val (.int ud), .val (.int u8), .val (.ref b1), .unset, .unset, .unset, .unset]) (st' := []) rfl ?_
      refine own_blk X45 hx bl0_97_1 (own_hb hby bd0_97_1) (pc' := 99) (Ls' := #[.val (.int p1), .val (.int p2), .val (.int p3), .val (.int p4), .val (.ref tb), .val (.int un), .val (.int u6), .val (.int ud), .val (.int u8), .val (.ref b1), .unset, .unset, .unset, .unset]) (st' := [(.int un)]) rfl ?_
      refine XS.ifYes X45.here hx rfl (pc0 := 99) (pc' := 115) rfl (hb hby at_99) rfl ((if0 _ _).trans (flt hc7).2.2.2) (by decide) (by decide) ?_
      show Steps p.tables e below (T45.setTop (mkF m 115 #[.val (.int p1), .val (.int p2), .val (.int p3), .val (.int p4), .val (.ref tb), .val (.int un), .val (.int u6), .val (.int ud), .val (.int u8), .val (.ref b1), .unset, .unset, .unset, .unset] [])) _
      refine own_blk X45 hx bl0_115_2 (own_hb hby bd0_115_2) (pc' := 118) (Ls' := #[.val (.int p1), .val (.int p2), .val (.int p3), .val (.int p4), .val (.ref tb), .val (.int un), .val (.int u6), .val (.int ud), .val (.int u8), .val (.ref b1), .val (.int (0 : Int32)), .unset, .unset, .unset]) (st' := []) rfl ?_
      exact kt
    obtain ⟨s261, o61, u61a, u61b, u61c, v61, L61, rfl, ⟨rfl, u61d⟩, u61e⟩ := tlC p1 p2 p3 p4 c0 c1 c2 c3 un u6 ud u8 (0 : Int32) (1 : Int32) tb b1 tk X45 hx hZ hw hby hml hown hret hlk rfl N45 zs58 hS4 zk57 pre60 fa59 Ec45_a1 Fc45_a1_text Fc45_a1_end Fc45_a1_pos Fc45_a1_line Fc45_a1_lineStart ne_tb_b1 g_b1 hn4 (by decide) (by decide) hd0 hd5
    exact ⟨s261, _, u61a, u61b, u61c, _, _, rfl, ⟨by rw [fB, if_neg hc7], u61d⟩, u61e⟩
def bl0_57_6 : List (Nat × Instr × Nat) := [(57, .iload_n 2, 1), (58, .iconst 4, 1), (59, .iushr, 1), (60, .bipush 7, 2), (62, .iand, 1), (63, .iconst 5, 1)]
theorem bd0_57_6 : own_dec code bl0_57_6 = true := by decide +kernel
def bl0_65_1 : List (Nat × Instr × Nat) := [(65, .istore 7, 2)]
theorem bd0_65_1 : own_dec code bl0_65_1 = true := by decide +kernel
def bl0_67_3 : List (Nat × Instr × Nat) := [(67, .iload_n 2, 1), (68, .sipush 128, 3), (71, .iand, 1)]
theorem bd0_67_3 : own_dec code bl0_67_3 = true := by decide +kernel
def bl0_79_2 : List (Nat × Instr × Nat) := [(79, .iconst 0, 1), (80, .istore 8, 2)]
theorem bd0_79_2 : own_dec code bl0_79_2 = true := by decide +kernel
def bl0_75_3 : List (Nat × Instr × Nat) := [(75, .iconst 1, 1), (76, .goto 4, 3), (80, .istore 8, 2)]
theorem bd0_75_3 : own_dec code bl0_75_3 = true := by decide +kernel
def fA (p1 : Int32) (p2 : Int32) (p3 : Int32) (p4 : Int32) (c0 : Int32) (c1 : Int32) (c2 : Int32) (c3 : Int32) (u6 : Int32) : Int32 := (if (p3 &&& (128 : Int32)) = (0 : Int32) then (fB p1 p2 p3 p4 c0 c1 c2 c3 ((p3 &&& (7 : Int32)) % (5 : Int32)) u6 ((((p3.toUInt32 >>> ((4 : Int32) &&& 31).toUInt32).toInt32) &&& (7 : Int32)) % (5 : Int32)) (0 : Int32)) else (fB p1 p2 p3 p4 c0 c1 c2 c3 ((p3 &&& (7 : Int32)) % (5 : Int32)) u6 ((((p3.toUInt32 >>> ((4 : Int32) &&& 31).toUInt32).toInt32) &&& (7 : Int32)) % (5 : Int32)) (1 : Int32)))
set_option maxRecDepth 65536 in
set_option maxHeartbeats 40000000 in
theorem tlA {p : Program} {l : Launch} {e : Env} {s : State} {m : MethodId} {args : Array Value} {below : List Frame} {meth : Method} {c : Code} {s₁ T0 : State} {locs : List Loc} {Z : State} {a0 : Array Value} {h0 : Heap} {n0 : Nat} {E : JFrame} (p1 : Int32) (p2 : Int32) (p3 : Int32) (p4 : Int32) (c0 : Int32) (c1 : Int32) (c2 : Int32) (c3 : Int32) (u6 : Int32) (tb : Addr) (tk : ClassId)
    (X0 : Stand p l e room_1 s m args below meth c T0 locs 1 4) (hx : p.tables.exec = Jvm.exec) (hZ : Z.Warmed39 s.vm) (hw : ∀ d ∈ tables_1, d.before a0 Z = true) (hby : c.code = code) (hml : c.maxLocals = 14) (hown : s.vm.findClass "com/example/endcon/endcon/yaml/CursorAtLineStartPinLaw" = some m.cls) (hret : meth.sig.returnType = some .boolean) (hlk : meth.locks = false) (e0 : T0.heap = h0) (N0 : Fr n0 locs) (Z0 : n0 ≤ h0.size)
    (pre0 : ∀ t, Steps p.tables e below (T0.setTop (mkF m 57 #[.val (.int p1), .val (.int p2), .val (.int p3), .val (.int p4), .val (.ref tb), .val (.int ((p3 &&& (7 : Int32)) % (5 : Int32))), .val (.int u6), .unset, .unset, .unset, .unset, .unset, .unset, .unset] [])) t → Steps p.tables e below (s₁.setTop E) t) (V_tb : Arv Z h0 tb tk .char (4 : Int32) [(.int c0), (.int c1), (.int c2), (.int c3)] (.int (0 : Int32))) (g_tb : n0 ≤ tb) :
    ∃ s₂ o, Steps p.tables e below (s₁.setTop E) s₂ ∧ s₂.status = .running ∧ Ended s₂ below o ∧ ∃ v L, o = .returned v ∧ (v = some (.int (fA p1 p2 p3 p4 c0 c1 c2 c3 u6)) ∧ Fr n0 L) ∧ ReturnedEndW s o s₂ L room_1.cells room_1.slots := by
  have pre1 : ∀ t, Steps p.tables e below (T0.setTop (mkF m 72 #[.val (.int p1), .val (.int p2), .val (.int p3), .val (.int p4), .val (.ref tb), .val (.int ((p3 &&& (7 : Int32)) % (5 : Int32))), .val (.int u6), .val (.int ((((p3.toUInt32 >>> ((4 : Int32) &&& 31).toUInt32).toInt32) &&& (7 : Int32)) % (5 : Int32))), .unset, .unset, .unset, .unset, .unset, .unset] [(.int (p3 &&& (128 : Int32)))])) t → Steps p.tables e below (s₁.setTop E) t := fun t kt => by
    refine pre0 _ ?_
    show Steps p.tables e below (T0.setTop (mkF m 57 #[.val (.int p1), .val (.int p2), .val (.int p3), .val (.int p4), .val (.ref tb), .val (.int ((p3 &&& (7 : Int32)) % (5 : Int32))), .val (.int u6), .unset, .unset, .unset, .unset, .unset, .unset, .unset] [])) _
    refine own_blk X0 hx bl0_57_6 (own_hb hby bd0_57_6) (pc' := 64) (Ls' := #[.val (.int p1), .val (.int p2), .val (.int p3), .val (.int p4), .val (.ref tb), .val (.int ((p3 &&& (7 : Int32)) % (5 : Int32))), .val (.int u6), .unset, .unset, .unset, .unset, .unset, .unset, .unset]) (st' := [(.int (5 : Int32)), (.int (((p3.toUInt32 >>> ((4 : Int32) &&& 31).toUInt32).toInt32) &&& (7 : Int32)))]) rfl ?_
    refine iremM X0 hx rfl (hb hby at_64) rfl (by decide : ¬ ((5 : Int32) = (0 : Int32))) ?_
    show Steps p.tables e below (T0.setTop (mkF m 65 #[.val (.int p1), .val (.int p2), .val (.int p3), .val (.int p4), .val (.ref tb), .val (.int ((p3 &&& (7 : Int32)) % (5 : Int32))), .val (.int u6), .unset, .unset, .unset, .unset, .unset, .unset, .unset] [(.int ((((p3.toUInt32 >>> ((4 : Int32) &&& 31).toUInt32).toInt32) &&& (7 : Int32)) % (5 : Int32)))])) _
    refine own_blk X0 hx bl0_65_1 (own_hb hby bd0_65_1) (pc' := 67) (Ls' := #[.val (.int p1), .val (.int p2), .val (.int p3), .val (.int p4), .val (.ref tb), .val (.int ((p3 &&& (7 : Int32)) % (5 : Int32))), .val (.int u6), .val (.int ((((p3.toUInt32 >>> ((4 : Int32) &&& 31).toUInt32).toInt32) &&& (7 : Int32)) % (5 : Int32))), .unset, .unset, .unset, .unset, .unset, .unset]) (st' := []) rfl ?_
    refine own_blk X0 hx bl0_67_3 (own_hb hby bd0_67_3) (pc' := 72) (Ls' := #[.val (.int p1), .val (.int p2), .val (.int p3), .val (.int p4), .val (.ref tb), .val (.int ((p3 &&& (7 : Int32)) % (5 : Int32))), .val (.int u6), .val (.int ((((p3.toUInt32 >>> ((4 : Int32) &&& 31).toUInt32).toInt32) &&& (7 : Int32)) % (5 : Int32))), .unset, .unset, .unset, .unset, .unset, .unset]) (st' := [(.int (p3 &&& (128 : Int32)))]) rfl ?_
    exact kt
  by_cases hc2 : (p3 &&& (128 : Int32)) = (0 : Int32)
  · have pre3 : ∀ t, Steps p.tables e below (T0.setTop (mkF m 82 #[.val (.int p1), .val (.int p2), .val (.int p3), .val (.int p4), .val (.ref tb), .val (.int ((p3 &&& (7 : Int32)) % (5 : Int32))), .val (.int u6), .val (.int ((((p3.toUInt32 >>> ((4 : Int32) &&& 31).toUInt32).toInt32) &&& (7 : Int32)) % (5 : Int32))), .val (.int (0 : Int32)), .unset, .unset, .unset, .unset, .unset] [])) t → Steps p.tables e below (s₁.setTop E) t := fun t kt => by
      refine pre1 _ ?_
      show Steps p.tables e below (T0.setTop (mkF m 72 #[.val (.int p1), .val (.int p2), .val (.int p3), .val (.int p4), .val (.ref tb), .val (.int ((p3 &&& (7 : Int32)) % (5 : Int32))), .val (.int u6), .val (.int ((((p3.toUInt32 >>> ((4 : Int32) &&& 31).toUInt32).toInt32) &&& (7 : Int32)) % (5 : Int32))), .unset, .unset, .unset, .unset, .unset, .unset] [(.int (p3 &&& (128 : Int32)))])) _
      refine XS.ifYes X0.here hx rfl (pc0 := 72) (pc' := 79) rfl (hb hby at_72) rfl ((if0 _ _).trans (teq hc2).1) (by decide) (by decide) ?_
      show Steps p.tables e below (T0.setTop (mkF m 79 #[.val (.int p1), .val (.int p2), .val (.int p3), .val (.int p4), .val (.ref tb), .val (.int ((p3 &&& (7 : Int32)) % (5 : Int32))), .val (.int u6), .val (.int ((((p3.toUInt32 >>> ((4 : Int32) &&& 31).toUInt32).toInt32) &&& (7 : Int32)) % (5 : Int32))), .unset, .unset, .unset, .unset, .unset, .unset] [])) _
      refine own_blk X0 hx bl0_79_2 (own_hb hby bd0_79_2) (pc' := 82) (Ls' := #[.val (.int p1), .val (.int p2), .val (.int p3), .val (.int p4), .val (.ref tb), .val (.int ((p3 &&& (7 : Int32)) % (5 : Int32))), .val (.int u6), .val (.int ((((p3.toUInt32 >>> ((4 : Int32) &&& 31).toUInt32).toInt32) &&& (7 : Int32)) % (5 : Int32))), .val (.int (0 : Int32)), .unset, .unset, .unset, .unset, .unset]) (st' := []) rfl ?_
      exact kt
    obtain ⟨s24, o4, u4a, u4b, u4c, v4, L4, rfl, ⟨rfl, u4d⟩, u4e⟩ := tlB p1 p2 p3 p4 c0 c1 c2 c3 ((p3 &&& (7 : Int32)) % (5 : Int32)) u6 ((((p3.toUInt32 >>> ((4 : Int32) &&& 31).toUInt32).toInt32) &&& (7 : Int32)) % (5 : Int32)) (0 : Int32) tb tk X0 hx hZ hw hby hml hown hret hlk e0 N0 Z0 pre3 V_tb g_tb (own_nr p3).2.2 (own_nr ((p3.toUInt32 >>> ((4 : Int32) &&& 31).toUInt32).toInt32)).1 (own_nr ((p3.toUInt32 >>> ((4 : Int32) &&& 31).toUInt32).toInt32)).2.1
    exact ⟨s24, _, u4a, u4b, u4c, _, _, rfl, ⟨by rw [fA, if_pos hc2], u4d⟩, u4e⟩
  · have pre5 : ∀ t, Steps p.tables e below (T0.setTop (mkF m 82 #[.val (.int p1), .val (.int p2), .val (.int p3), .val (.int p4), .val (.ref tb), .val (.int ((p3 &&& (7 : Int32)) % (5 : Int32))), .val (.int u6), .val (.int ((((p3.toUInt32 >>> ((4 : Int32) &&& 31).toUInt32).toInt32) &&& (7 : Int32)) % (5 : Int32))), .val (.int (1 : Int32)), .unset, .unset, .unset, .unset, .unset] [])) t → Steps p.tables e below (s₁.setTop E) t := fun t kt => by
      refine pre1 _ ?_
      show Steps p.tables e below (T0.setTop (mkF m 72 #[.val (.int p1), .val (.int p2), .val (.int p3), .val (.int p4), .val (.ref tb), .val (.int ((p3 &&& (7 : Int32)) % (5 : Int32))), .val (.int u6), .val (.int ((((p3.toUInt32 >>> ((4 : Int32) &&& 31).toUInt32).toInt32) &&& (7 : Int32)) % (5 : Int32))), .unset, .unset, .unset, .unset, .unset, .unset] [(.int (p3 &&& (128 : Int32)))])) _
      refine XS.ifNo X0.here hx rfl (hb hby at_72) rfl ((if0 _ _).trans (feq hc2).1) ?_
      show Steps p.tables e below (T0.setTop (mkF m 75 #[.val (.int p1), .val (.int p2), .val (.int p3), .val (.int p4), .val (.ref tb), .val (.int ((p3 &&& (7 : Int32)) % (5 : Int32))), .val (.int u6), .val (.int ((((p3.toUInt32 >>> ((4 : Int32) &&& 31).toUInt32).toInt32) &&& (7 : Int32)) % (5 : Int32))), .unset, .unset, .unset, .unset, .unset, .unset] [])) _
      refine own_blk X0 hx bl0_75_3 (own_hb hby bd0_75_3) (pc' := 82) (Ls' := #[.val (.int p1), .val (.int p2), .val (.int p3), .val (.int p4), .val (.ref tb), .val (.int ((p3 &&& (7 : Int32)) % (5 : Int32))), .val (.int u6), .val (.int ((((p3.toUInt32 >>> ((4 : Int32) &&& 31).toUInt32).toInt32) &&& (7 : Int32)) % (5 : Int32))), .val (.int (1 : Int32)), .unset, .unset, .unset, .unset, .unset]) (st' := []) rfl ?_
      exact kt
    obtain ⟨s26, o6, u6a, u6b, u6c, v6, L6, rfl, ⟨rfl, u6d⟩, u6e⟩ := tlB p1 p2 p3 p4 c0 c1 c2 c3 ((p3 &&& (7 : Int32)) % (5 : Int32)) u6 ((((p3.toUInt32 >>> ((4 : Int32) &&& 31).toUInt32).toInt32) &&& (7 : Int32)) % (5 : Int32)) (1 : Int32) tb tk X0 hx hZ hw hby hml hown hret hlk e0 N0 Z0 pre5 V_tb g_tb (own_nr p3).2.2 (own_nr ((p3.toUInt32 >>> ((4 : Int32) &&& 31).toUInt32).toInt32)).1 (own_nr ((p3.toUInt32 >>> ((4 : Int32) &&& 31).toUInt32).toInt32)).2.1
    exact ⟨s26, _, u6a, u6b, u6c, _, _, rfl, ⟨by rw [fA, if_neg hc2], u6d⟩, u6e⟩
theorem pn_0 : plainName "com/example/endcon/endcon/yaml/CursorAtLineStartPinLaw" = true := by first | (simp [plainName, overriddenIn]; done) | decide +kernel
theorem ef_0 (m : MethodId) (x0 : Int32) (x1 : Int32) (x2 : Int32) (x3 : Int32) : entryFrame m #[(.int x0), (.int x1), (.int x2), (.int x3)] maxLocals = mkF m 0 #[.val (.int x0), .val (.int x1), .val (.int x2), .val (.int x3), .unset, .unset, .unset, .unset, .unset, .unset, .unset, .unset, .unset, .unset] [] := by first | (simp [entryFrame, mkF, argsToLocals, Value.category, maxLocals]; done) | rfl
def bl0_0_1 : List (Nat × Instr × Nat) := [(0, .iconst 4, 1)]
theorem bd0_0_1 : own_dec code bl0_0_1 = true := by decide +kernel
def bl0_3_1 : List (Nat × Instr × Nat) := [(3, .astore 4, 2)]
theorem bd0_3_1 : own_dec code bl0_3_1 = true := by decide +kernel
def bl0_5_4 : List (Nat × Instr × Nat) := [(5, .aload 4, 2), (7, .iconst 0, 1), (8, .iload_n 0, 1), (9, .i2c, 1)]
theorem bd0_5_4 : own_dec code bl0_5_4 = true := by decide +kernel
def bl0_11_6 : List (Nat × Instr × Nat) := [(11, .aload 4, 2), (13, .iconst 1, 1), (14, .iload_n 0, 1), (15, .bipush 16, 2), (17, .iushr, 1), (18, .i2c, 1)]
theorem bd0_11_6 : own_dec code bl0_11_6 = true := by decide +kernel
def bl0_20_4 : List (Nat × Instr × Nat) := [(20, .aload 4, 2), (22, .iconst 2, 1), (23, .iload_n 1, 1), (24, .i2c, 1)]
theorem bd0_20_4 : own_dec code bl0_20_4 = true := by decide +kernel
def bl0_26_6 : List (Nat × Instr × Nat) := [(26, .aload 4, 2), (28, .iconst 3, 1), (29, .iload_n 1, 1), (30, .bipush 16, 2), (32, .iushr, 1), (33, .i2c, 1)]
theorem bd0_26_6 : own_dec code bl0_26_6 = true := by decide +kernel
def bl0_35_4 : List (Nat × Instr × Nat) := [(35, .iload_n 2, 1), (36, .bipush 7, 2), (38, .iand, 1), (39, .iconst 5, 1)]
theorem bd0_35_4 : own_dec code bl0_35_4 = true := by decide +kernel
def bl0_41_1 : List (Nat × Instr × Nat) := [(41, .istore 5, 2)]
theorem bd0_41_1 : own_dec code bl0_41_1 = true := by decide +kernel
def bl0_43_3 : List (Nat × Instr × Nat) := [(43, .iload_n 2, 1), (44, .bipush 8, 2), (46, .iand, 1)]
theorem bd0_43_3 : own_dec code bl0_43_3 = true := by decide +kernel
def bl0_54_2 : List (Nat × Instr × Nat) := [(54, .iconst 0, 1), (55, .istore 6, 2)]
theorem bd0_54_2 : own_dec code bl0_54_2 = true := by decide +kernel
def bl0_50_3 : List (Nat × Instr × Nat) := [(50, .iconst 1, 1), (51, .goto 4, 3), (55, .istore 6, 2)]
theorem bd0_50_3 : own_dec code bl0_50_3 = true := by decide +kernel

def f0 (p1 : Int32) (p2 : Int32) (p3 : Int32) (p4 : Int32) : Int32 := (if (p3 &&& (8 : Int32)) = (0 : Int32) then (fA p1 p2 p3 p4 (nar .char (p1.toUInt32.toUInt16.toUInt32.toInt32)) (nar .char (((p1.toUInt32 >>> ((16 : Int32) &&& 31).toUInt32).toInt32).toUInt32.toUInt16.toUInt32.toInt32)) (nar .char (p2.toUInt32.toUInt16.toUInt32.toInt32)) (nar .char (((p2.toUInt32 >>> ((16 : Int32) &&& 31).toUInt32).toInt32).toUInt32.toUInt16.toUInt32.toInt32)) (0 : Int32)) else (fA p1 p2 p3 p4 (nar .char (p1.toUInt32.toUInt16.toUInt32.toInt32)) (nar .char (((p1.toUInt32 >>> ((16 : Int32) &&& 31).toUInt32).toInt32).toUInt32.toUInt16.toUInt32.toInt32)) (nar .char (p2.toUInt32.toUInt16.toUInt32.toInt32)) (nar .char (((p2.toUInt32 >>> ((16 : Int32) &&& 31).toUInt32).toInt32).toUInt32.toUInt16.toUInt32.toInt32)) (1 : Int32)))
def Q0 (Z : State) (p1 : Int32) (p2 : Int32) (p3 : Int32) (p4 : Int32) (h0 : Heap) (n0 : Nat) (v : Option Value) (h : Heap) (L : List Loc) : Prop := v = some (.int (f0 p1 p2 p3 p4)) ∧ Fr n0 L
set_option maxRecDepth 65536 in
set_option maxHeartbeats 40000000 in
theorem rm0 (l : Launch) (Z : State) (a0 : Array Value) (hw : ∀ d ∈ tables_1, d.before a0 Z = true) (ws : List Jvm.Cond) (p1 : Int32) (p2 : Int32) (p3 : Int32) (p4 : Int32) (h0 : Heap) (n0 : Nat) (Z0 : n0 ≤ h0.size) :
    MetFree l x (head1 (Jvm.Cond.code x code maxLocals ret :: ws) room_1) (fun a U => a = #[(.int p1), (.int p2), (.int p3), (.int p4)] ∧ Z.Warmed39 U.vm ∧ U.heap = h0) (fun _ _ _ _ _ => True) (fun _ U o U' => ∃ v L, o = .returned v ∧ Q0 Z p1 p2 p3 p4 h0 n0 v U'.heap L ∧ ReturnedEndW U o U' L room_1.cells room_1.slots) := by
  refine MetFree.of_bodySF (plainFor_of_name pn_0) hisR ?_
  intro p e s m args below meth c s₁ Bd hml0 hP hK
  obtain ⟨rfl, hZ, hh⟩ := hP
  have hx := Bd.exec
  have hby := Bd.bytes
  have hml : c.maxLocals = 14 := hml0
  have hown : s.vm.findClass "com/example/endcon/endcon/yaml/CursorAtLineStartPinLaw" = some m.cls := findClass_of_methodNamed Bd.named
  have hnm := (name_of_methodNamed Bd.named Bd.method).1
  have X0 : Stand p l e room_1 s m #[(.int p1), (.int p2), (.int p3), (.int p4)] below meth c s₁ [] 0 0 := Stand.of_body Bd
  have e0 : s₁.heap = h0 := by rw [← hh, Bd.state]; rfl
  have N0 := Fr.nil n0
  have pre0 : ∀ t, Steps p.tables e below (s₁.setTop (mkF m 0 #[.val (.int p1), .val (.int p2), .val (.int p3), .val (.int p4), .unset, .unset, .unset, .unset, .unset, .unset, .unset, .unset, .unset, .unset] [])) t → Steps p.tables e below (s₁.setTop (entryFrame m #[(.int p1), (.int p2), (.int p3), (.int p4)] maxLocals)) t := fun t k => castTop (ef_0 m p1 p2 p3 p4) k
  obtain ⟨T1, h1, k1, X1, e1, E1, A1, st1⟩ := newP X0 hx hZ (hw _ (List.mem_of_getElem? (i := 0) rfl)) e0 (g := (mkF m 1 #[.val (.int p1), .val (.int p2), .val (.int p3), .val (.int p4), .unset, .unset, .unset, .unset, .unset, .unset, .unset, .unset, .unset, .unset] [(.int (4 : Int32))])) rfl (hb hby at_1) rfl (by decide) (cap := 4) (by decide) (by decide) (by decide) (by decide)
  obtain ⟨b1, g1⟩ : ∃ z, z = h0.size := ⟨_, rfl⟩
  rw [← g1] at A1 st1
  have g_b1 : n0 ≤ b1 := Nat.le_trans Z0 (Nat.le_of_eq g1.symm)
  have zs2 : n0 ≤ h1.size := Nat.le_trans Z0 E1.1
  have V_b1 : Arv Z h1 b1 k1 .char (4 : Int32) [(.int (0 : Int32)), (.int (0 : Int32)), (.int (0 : Int32)), (.int (0 : Int32))] (.int (0 : Int32)) := (Arv.new A1 (by decide)).pad (pad_rep [] (.int (0 : Int32)) 4)
  obtain ⟨cx3, Ar3, qq3, S3, N3_, H3, G3⟩ := id V_b1
  have hin3 : ¬ ((0 : Int32) < 0 ∨ cx3.slots.size ≤ ((0 : Int32)).toNatClampNeg) := inb_of S3 ⟨by decide, by decide⟩
  obtain ⟨T3, h3, X3, e3, W3, st3⟩ := stC X1 hx hZ e1 Ar3 (j := (0 : Int32)) hin3 (g := (mkF m 10 #[.val (.int p1), .val (.int p2), .val (.int p3), .val (.int p4), .val (.ref b1), .unset, .unset, .unset, .unset, .unset, .unset, .unset, .unset, .unset] [(.int (p1.toUInt32.toUInt16.toUInt32.toInt32)), (.int (0 : Int32)), (.ref b1)])) rfl rfl (hb hby at_10)
  have V3 : Arv Z h3 b1 k1 .char (4 : Int32) [(.int (nar .char (p1.toUInt32.toUInt16.toUInt32.toInt32))), (.int (0 : Int32)), (.int (0 : Int32)), (.int (0 : Int32))] (.int (0 : Int32)) := Arv.set Ar3 qq3 S3 N3_ H3 G3 (fits_nar_char _) W3 0 rfl (Nat.le_of_ble_eq_true rfl)
  have zs4 : n0 ≤ h3.size := Nat.le_trans zs2 (Keep.of_wr W3).1
  have N3 := Fr.snoc X3 N0 g_b1
  obtain ⟨cx5, Ar5, qq5, S5, N5_, H5, G5⟩ := id V3
  have hin5 : ¬ ((1 : Int32) < 0 ∨ cx5.slots.size ≤ ((1 : Int32)).toNatClampNeg) := inb_of S5 ⟨by decide, by decide⟩
  obtain ⟨T5, h5, X5, e5, W5, st5⟩ := stC X3 hx hZ e3 Ar5 (j := (1 : Int32)) hin5 (g := (mkF m 19 #[.val (.int p1), .val (.int p2), .val (.int p3), .val (.int p4), .val (.ref b1), .unset, .unset, .unset, .unset, .unset, .unset, .unset, .unset, .unset] [(.int (((p1.toUInt32 >>> ((16 : Int32) &&& 31).toUInt32).toInt32).toUInt32.toUInt16.toUInt32.toInt32)), (.int (1 : Int32)), (.ref b1)])) rfl rfl (hb hby at_19)
  have V5 : Arv Z h5 b1 k1 .char (4 : Int32) [(.int (nar .char (p1.toUInt32.toUInt16.toUInt32.toInt32))), (.int (nar .char (((p1.toUInt32 >>> ((16 : Int32) &&& 31).toUInt32).toInt32).toUInt32.toUInt16.toUInt32.toInt32))), (.int (0 : Int32)), (.int (0 : Int32))] (.int (0 : Int32)) := Arv.set Ar5 qq5 S5 N5_ H5 G5 (fits_nar_char _) W5 1 rfl (Nat.le_of_ble_eq_true rfl)
  have zs6 : n0 ≤ h5.size := Nat.le_trans zs4 (Keep.of_wr W5).1
  have N5 := Fr.snoc X5 N3 g_b1
  obtain ⟨cx7, Ar7, qq7, S7, N7_, H7, G7⟩ := id V5
  have hin7 : ¬ ((2 : Int32) < 0 ∨ cx7.slots.size ≤ ((2 : Int32)).toNatClampNeg) := inb_of S7 ⟨by decide, by decide⟩
  obtain ⟨T7, h7, X7, e7, W7, st7⟩ := stC X5 hx hZ e5 Ar7 (j := (2 : Int32)) hin7 (g := (mkF m 25 #[.val (.int p1), .val (.int p2), .val (.int p3), .val (.int p4), .val (.ref b1), .unset, .unset, .unset, .unset, .unset, .unset, .unset, .unset, .unset] [(.int (p2.toUInt32.toUInt16.toUInt32.toInt32)), (.int (2 : Int32)), (.ref b1)])) rfl rfl (hb hby at_25)
  have V7 : Arv Z h7 b1 k1 .char (4 : Int32) [(.int (nar .char (p1.toUInt32.toUInt16.toUInt32.toInt32))), (.int (nar .char (((p1.toUInt32 >>> ((16 : Int32) &&& 31).toUInt32).toInt32).toUInt32.toUInt16.toUInt32.toInt32))), (.int (nar .char (p2.toUInt32.toUInt16.toUInt32.toInt32))), (.int (0 : Int32))] (.int (0 : Int32)) := Arv.set Ar7 qq7 S7 N7_ H7 G7 (fits_nar_char _) W7 2 rfl (Nat.le_of_ble_eq_true rfl)
  have zs8 : n0 ≤ h7.size := Nat.le_trans zs6 (Keep.of_wr W7).1
  have N7 := Fr.snoc X7 N5 g_b1
  obtain ⟨cx9, Ar9, qq9, S9, N9_, H9, G9⟩ := id V7
  have hin9 : ¬ ((3 : Int32) < 0 ∨ cx9.slots.size ≤ ((3 : Int32)).toNatClampNeg) := inb_of S9 ⟨by decide, by decide⟩
  obtain ⟨T9, h9, X9, e9, W9, st9⟩ := stC X7 hx hZ e7 Ar9 (j := (3 : Int32)) hin9 (g := (mkF m 34 #[.val (.int p1), .val (.int p2), .val (.int p3), .val (.int p4), .val (.ref b1), .unset, .unset, .unset, .unset, .unset, .unset, .unset, .unset, .unset] [(.int (((p2.toUInt32 >>> ((16 : Int32) &&& 31).toUInt32).toInt32).toUInt32.toUInt16.toUInt32.toInt32)), (.int (3 : Int32)), (.ref b1)])) rfl rfl (hb hby at_34)
  have V9 : Arv Z h9 b1 k1 .char (4 : Int32) [(.int (nar .char (p1.toUInt32.toUInt16.toUInt32.toInt32))), (.int (nar .char (((p1.toUInt32 >>> ((16 : Int32) &&& 31).toUInt32).toInt32).toUInt32.toUInt16.toUInt32.toInt32))), (.int (nar .char (p2.toUInt32.toUInt16.toUInt32.toInt32))), (.int (nar .char (((p2.toUInt32 >>> ((16 : Int32) &&& 31).toUInt32).toInt32).toUInt32.toUInt16.toUInt32.toInt32)))] (.int (0 : Int32)) := Arv.set Ar9 qq9 S9 N9_ H9 G9 (fits_nar_char _) W9 3 rfl (Nat.le_of_ble_eq_true rfl)
  have zs10 : n0 ≤ h9.size := Nat.le_trans zs8 (Keep.of_wr W9).1
  have N9 := Fr.snoc X9 N7 g_b1
  have pre11 : ∀ t, Steps p.tables e below (T9.setTop (mkF m 47 #[.val (.int p1), .val (.int p2), .val (.int p3), .val (.int p4), .val (.ref b1), .val (.int ((p3 &&& (7 : Int32)) % (5 : Int32))), .unset, .unset, .unset, .unset, .unset, .unset, .unset, .unset] [(.int (p3 &&& (8 : Int32)))])) t → Steps p.tables e below (s₁.setTop (entryFrame m #[(.int p1), (.int p2), (.int p3), (.int p4)] maxLocals)) t := fun t kt => by
    refine pre0 _ ?_
    show Steps p.tables e below (s₁.setTop (mkF m 0 #[.val (.int p1), .val (.int p2), .val (.int p3), .val (.int p4), .unset, .unset, .unset, .unset, .unset, .unset, .unset, .unset, .unset, .unset] [])) _
    refine own_blk X0 hx bl0_0_1 (own_hb hby bd0_0_1) (pc' := 1) (Ls' := #[.val (.int p1), .val (.int p2), .val (.int p3), .val (.int p4), .unset, .unset, .unset, .unset, .unset, .unset, .unset, .unset, .unset, .unset]) (st' := [(.int (4 : Int32))]) rfl ?_
    refine st1 _ ?_
    show Steps p.tables e below (T1.setTop (mkF m 3 #[.val (.int p1), .val (.int p2), .val (.int p3), .val (.int p4), .unset, .unset, .unset, .unset, .unset, .unset, .unset, .unset, .unset, .unset] [(.ref b1)])) _
    refine own_blk X1 hx bl0_3_1 (own_hb hby bd0_3_1) (pc' := 5) (Ls' := #[.val (.int p1), .val (.int p2), .val (.int p3), .val (.int p4), .val (.ref b1), .unset, .unset, .unset, .unset, .unset, .unset, .unset, .unset, .unset]) (st' := []) rfl ?_
    refine own_blk X1 hx bl0_5_4 (own_hb hby bd0_5_4) (pc' := 10) (Ls' := #[.val (.int p1), .val (.int p2), .val (.int p3), .val (.int p4), .val (.ref b1), .unset, .unset, .unset, .unset, .unset, .unset, .unset, .unset, .unset]) (st' := [(.int (p1.toUInt32.toUInt16.toUInt32.toInt32)), (.int (0 : Int32)), (.ref b1)]) rfl ?_
    refine st3 _ ?_
    show Steps p.tables e below (T3.setTop (mkF m 11 #[.val (.int p1), .val (.int p2), .val (.int p3), .val (.int p4), .val (.ref b1), .unset, .unset, .unset, .unset, .unset, .unset, .unset, .unset, .unset] [])) _
    refine own_blk X3 hx bl0_11_6 (own_hb hby bd0_11_6) (pc' := 19) (Ls' := #[.val (.int p1), .val (.int p2), .val (.int p3), .val (.int p4), .val (.ref b1), .unset, .unset, .unset, .unset, .unset, .unset, .unset, .unset, .unset]) (st' := [(.int (((p1.toUInt32 >>> ((16 : Int32) &&& 31).toUInt32).toInt32).toUInt32.toUInt16.toUInt32.toInt32)), (.int (1 : Int32)), (.ref b1)]) rfl ?_
    refine st5 _ ?_
    show Steps p.tables e below (T5.setTop (mkF m 20 #[.val (.int p1), .val (.int p2), .val (.int p3), .val (.int p4), .val (.ref b1), .unset, .unset, .unset, .unset, .unset, .unset, .unset, .unset, .unset] [])) _
    refine own_blk X5 hx bl0_20_4 (own_hb hby bd0_20_4) (pc' := 25) (Ls' := #[.val (.int p1), .val (.int p2), .val (.int p3), .val (.int p4), .val (.ref b1), .unset, .unset, .unset, .unset, .unset, .unset, .unset, .unset, .unset]) (st' := [(.int (p2.toUInt32.toUInt16.toUInt32.toInt32)), (.int (2 : Int32)), (.ref b1)]) rfl ?_
    refine st7 _ ?_
    show Steps p.tables e below (T7.setTop (mkF m 26 #[.val (.int p1), .val (.int p2), .val (.int p3), .val (.int p4), .val (.ref b1), .unset, .unset, .unset, .unset, .unset, .unset, .unset, .unset, .unset] [])) _
    refine own_blk X7 hx bl0_26_6 (own_hb hby bd0_26_6) (pc' := 34) (Ls' := #[.val (.int p1), .val (.int p2), .val (.int p3), .val (.int p4), .val (.ref b1), .unset, .unset, .unset, .unset, .unset, .unset, .unset, .unset, .unset]) (st' := [(.int (((p2.toUInt32 >>> ((16 : Int32) &&& 31).toUInt32).toInt32).toUInt32.toUInt16.toUInt32.toInt32)), (.int (3 : Int32)), (.ref b1)]) rfl ?_
    refine st9 _ ?_
    show Steps p.tables e below (T9.setTop (mkF m 35 #[.val (.int p1), .val (.int p2), .val (.int p3), .val (.int p4), .val (.ref b1), .unset, .unset, .unset, .unset, .unset, .unset, .unset, .unset, .unset] [])) _
    refine own_blk X9 hx bl0_35_4 (own_hb hby bd0_35_4) (pc' := 40) (Ls' := #[.val (.int p1), .val (.int p2), .val (.int p3), .val (.int p4), .val (.ref b1), .unset, .unset, .unset, .unset, .unset, .unset, .unset, .unset, .unset]) (st' := [(.int (5 : Int32)), (.int (p3 &&& (7 : Int32)))]) rfl ?_
    refine iremM X9 hx rfl (hb hby at_40) rfl (by decide : ¬ ((5 : Int32) = (0 : Int32))) ?_
    show Steps p.tables e below (T9.setTop (mkF m 41 #[.val (.int p1), .val (.int p2), .val (.int p3), .val (.int p4), .val (.ref b1), .unset, .unset, .unset, .unset, .unset, .unset, .unset, .unset, .unset] [(.int ((p3 &&& (7 : Int32)) % (5 : Int32)))])) _
    refine own_blk X9 hx bl0_41_1 (own_hb hby bd0_41_1) (pc' := 43) (Ls' := #[.val (.int p1), .val (.int p2), .val (.int p3), .val (.int p4), .val (.ref b1), .val (.int ((p3 &&& (7 : Int32)) % (5 : Int32))), .unset, .unset, .unset, .unset, .unset, .unset, .unset, .unset]) (st' := []) rfl ?_
    refine own_blk X9 hx bl0_43_3 (own_hb hby bd0_43_3) (pc' := 47) (Ls' := #[.val (.int p1), .val (.int p2), .val (.int p3), .val (.int p4), .val (.ref b1), .val (.int ((p3 &&& (7 : Int32)) % (5 : Int32))), .unset, .unset, .unset, .unset, .unset, .unset, .unset, .unset]) (st' := [(.int (p3 &&& (8 : Int32)))]) rfl ?_
    exact kt
  by_cases hc12 : (p3 &&& (8 : Int32)) = (0 : Int32)
  · have pre13 : ∀ t, Steps p.tables e below (T9.setTop (mkF m 57 #[.val (.int p1), .val (.int p2), .val (.int p3), .val (.int p4), .val (.ref b1), .val (.int ((p3 &&& (7 : Int32)) % (5 : Int32))), .val (.int (0 : Int32)), .unset, .unset, .unset, .unset, .unset, .unset, .unset] [])) t → Steps p.tables e below (s₁.setTop (entryFrame m #[(.int p1), (.int p2), (.int p3), (.int p4)] maxLocals)) t := fun t kt => by
      refine pre11 _ ?_
      show Steps p.tables e below (T9.setTop (mkF m 47 #[.val (.int p1), .val (.int p2), .val (.int p3), .val (.int p4), .val (.ref b1), .val (.int ((p3 &&& (7 : Int32)) % (5 : Int32))), .unset, .unset, .unset, .unset, .unset, .unset, .unset, .unset] [(.int (p3 &&& (8 : Int32)))])) _
      refine XS.ifYes X9.here hx rfl (pc0 := 47) (pc' := 54) rfl (hb hby at_47) rfl ((if0 _ _).trans (teq hc12).1) (by decide) (by decide) ?_
      show Steps p.tables e below (T9.setTop (mkF m 54 #[.val (.int p1), .val (.int p2), .val (.int p3), .val (.int p4), .val (.ref b1), .val (.int ((p3 &&& (7 : Int32)) % (5 : Int32))), .unset, .unset, .unset, .unset, .unset, .unset, .unset, .unset] [])) _
      refine own_blk X9 hx bl0_54_2 (own_hb hby bd0_54_2) (pc' := 57) (Ls' := #[.val (.int p1), .val (.int p2), .val (.int p3), .val (.int p4), .val (.ref b1), .val (.int ((p3 &&& (7 : Int32)) % (5 : Int32))), .val (.int (0 : Int32)), .unset, .unset, .unset, .unset, .unset, .unset, .unset]) (st' := []) rfl ?_
      exact kt
    obtain ⟨s214, o14, u14a, u14b, u14c, v14, L14, rfl, ⟨rfl, u14d⟩, u14e⟩ := tlA p1 p2 p3 p4 (nar .char (p1.toUInt32.toUInt16.toUInt32.toInt32)) (nar .char (((p1.toUInt32 >>> ((16 : Int32) &&& 31).toUInt32).toInt32).toUInt32.toUInt16.toUInt32.toInt32)) (nar .char (p2.toUInt32.toUInt16.toUInt32.toInt32)) (nar .char (((p2.toUInt32 >>> ((16 : Int32) &&& 31).toUInt32).toInt32).toUInt32.toUInt16.toUInt32.toInt32)) (0 : Int32) b1 k1 X9 hx hZ hw hby hml hown Bd.returns Bd.notSynchronized e9 N9 zs10 pre13 V9 g_b1
    exact ⟨s214, _, u14a, u14b, u14c, _, _, rfl, ⟨by rw [f0, if_pos hc12], u14d⟩, u14e⟩
  · have pre15 : ∀ t, Steps p.tables e below (T9.setTop (mkF m 57 #[.val (.int p1), .val (.int p2), .val (.int p3), .val (.int p4), .val (.ref b1), .val (.int ((p3 &&& (7 : Int32)) % (5 : Int32))), .val (.int (1 : Int32)), .unset, .unset, .unset, .unset, .unset, .unset, .unset] [])) t → Steps p.tables e below (s₁.setTop (entryFrame m #[(.int p1), (.int p2), (.int p3), (.int p4)] maxLocals)) t := fun t kt => by
      refine pre11 _ ?_
      show Steps p.tables e below (T9.setTop (mkF m 47 #[.val (.int p1), .val (.int p2), .val (.int p3), .val (.int p4), .val (.ref b1), .val (.int ((p3 &&& (7 : Int32)) % (5 : Int32))), .unset, .unset, .unset, .unset, .unset, .unset, .unset, .unset] [(.int (p3 &&& (8 : Int32)))])) _
      refine XS.ifNo X9.here hx rfl (hb hby at_47) rfl ((if0 _ _).trans (feq hc12).1) ?_
      show Steps p.tables e below (T9.setTop (mkF m 50 #[.val (.int p1), .val (.int p2), .val (.int p3), .val (.int p4), .val (.ref b1), .val (.int ((p3 &&& (7 : Int32)) % (5 : Int32))), .unset, .unset, .unset, .unset, .unset, .unset, .unset, .unset] [])) _
      refine own_blk X9 hx bl0_50_3 (own_hb hby bd0_50_3) (pc' := 57) (Ls' := #[.val (.int p1), .val (.int p2), .val (.int p3), .val (.int p4), .val (.ref b1), .val (.int ((p3 &&& (7 : Int32)) % (5 : Int32))), .val (.int (1 : Int32)), .unset, .unset, .unset, .unset, .unset, .unset, .unset]) (st' := []) rfl ?_
      exact kt
    obtain ⟨s216, o16, u16a, u16b, u16c, v16, L16, rfl, ⟨rfl, u16d⟩, u16e⟩ := tlA p1 p2 p3 p4 (nar .char (p1.toUInt32.toUInt16.toUInt32.toInt32)) (nar .char (((p1.toUInt32 >>> ((16 : Int32) &&& 31).toUInt32).toInt32).toUInt32.toUInt16.toUInt32.toInt32)) (nar .char (p2.toUInt32.toUInt16.toUInt32.toInt32)) (nar .char (((p2.toUInt32 >>> ((16 : Int32) &&& 31).toUInt32).toInt32).toUInt32.toUInt16.toUInt32.toInt32)) (1 : Int32) b1 k1 X9 hx hZ hw hby hml hown Bd.returns Bd.notSynchronized e9 N9 zs10 pre15 V9 g_b1
    exact ⟨s216, _, u16a, u16b, u16c, _, _, rfl, ⟨by rw [f0, if_neg hc12], u16d⟩, u16e⟩
theorem own_law (a b c d : Int32) : f0 a b c d = 1 := by
  unfold f0 fA fB fC fD fE
  simp only [ite_self]
set_option maxRecDepth 65536 in
set_option maxHeartbeats 40000000 in
theorem comes_1 {Post : Tables → Env → Array Value → State → Outcome → State → Prop} (hpost : ∀ tb e args s v u, (limb_1_1.after args s (.returned v) u = true ∧ limb_1_2.after args s (.returned v) u = true ∧ True) → FramedW s (.returned v) u (Jvm.fieldLocs frame_1_writes args s ++ Jvm.arrayLocs frame_1_arrays args s ++ Jvm.staticLocs frame_1_statics s) 16 1152 → Post tb e args s (.returned v) u) :
    ArmFor flags0 classFile x code maxLocals ret World_1 tables_1 room_1 Calls_1 rest_1 Pre_1 Post := by
  intro l hfl _ _ p e ha hc hk s m args below hf hA hF happ hP
  obtain ⟨hcalls, hrest, hpre⟩ := hP
  obtain ⟨-, -, -, hnamed, -, -, -, hat⟩ := (Spec.applies_iff hf).mp happ
  obtain ⟨hg, hn⟩ := and_e (Cond.before_iff.mp (show (Jvm.Cond.and given_1 narrow_1).before args s = true from hpre))
  obtain ⟨g1, g2⟩ := and_e hg
  obtain ⟨g3, g4⟩ := and_e g2
  obtain ⟨g5, g6⟩ := and_e g4
  obtain ⟨g7, g8⟩ := and_e g6
  obtain ⟨w0, w1, w2, w3, rfl⟩ : ∃ w0 w1 w2 w3 : Value, args = #[w0, w1, w2, w3] := by
    have hs : args.size = 4 := by simpa [Cond.value, given_1] using g1
    obtain ⟨L⟩ := args
    match L, hs with
    | [w0, w1, w2, w3], _ => exact ⟨w0, w1, w2, w3, rfl⟩
  have hw := fun d (hd : d ∈ tables_1) => atoms_spec (ws := Jvm.Cond.code x code maxLocals ret :: tables_1) hat d (List.mem_cons_of_mem _ hd)
  have hfit : Fit s := fun {y c} hc i hi => by
    obtain ⟨ha, rfl⟩ := Array.getElem?_eq_some_iff.mp hc
    have q := List.all_eq_true.mp ((Array.all_eq_true_iff_forall_mem.mp hF) _ (Array.getElem_mem ha)) i (List.mem_range.mpr hi)
    simpa [Array.getElem?_eq_getElem hi] using q
  obtain ⟨i0, ei0⟩ := is_v g3
  obtain rfl : w0 = (.int i0) := Option.some.inj ei0
  obtain ⟨i1, ei1⟩ := is_v g5
  obtain rfl : w1 = (.int i1) := Option.some.inj ei1
  obtain ⟨i2, ei2⟩ := is_v g7
  obtain rfl : w2 = (.int i2) := Option.some.inj ei2
  obtain ⟨i3, ei3⟩ := is_v g8
  obtain rfl : w3 = (.int i3) := Option.some.inj ei3
  obtain ⟨n, o, h1, h2, h3, v, L, rfl, hQ, hq⟩ := rm0 l s _ hw tables_1 i0 i1 i2 i3  s.heap s.heap.size (Nat.le_refl _)  p e ha hc hk s m _ below hf ((Spec.applies_iff_loose hf).mp happ).1 ⟨rfl, State.Warmed39.refl s, rfl⟩ trivial
  obtain ⟨hv1, N⟩ := hQ
  rw [own_law] at hv1
  subst hv1
  refine ⟨n, _, h1, h2, h3, hpost _ _ _ _ _ _ ⟨Cond.after_iff.mpr rfl, Cond.after_iff.mpr (eq_i res_at (Term.int_eval (1)) rfl), trivial⟩ ⟨hq.1, hq.2.1, hq.2.2.1, (hq.2.2.2.sift fun y hy => Or.inr (N y hy)).mono (by decide) (by decide)⟩⟩
theorem main_1_1 : Claimed_1_1 := comes_1 fun _ _ _ _ _ _ h hF => ⟨h.1, hF⟩
theorem main_1_2 : Claimed_1_2 := comes_1 fun _ _ _ _ _ _ h hF => ⟨h.2.1, hF⟩
end Jvm.Pilot.@@N@@
namespace Jvm.Pilot.@@N@@
open Jvm Jvm.ClassFile Sem Op Lib Jvm.Free Jvm.Stand Jvm.Pilot.@@N@@.Jvm.D
/-! MADE BY PROGRAM (witnessworld.py) out of the Statement's table words and the real class files: 17 classes; the members and pool entries that the words name. The judged class is class 1, her method 1. -/
namespace start1
open Jvm.ClassFile
def u (s : String) : CpInfo := .utf8 (stringToUtf16 s)
/-- a pool by its gaps: so many unusable entries, then the entry; so many at the end -/
def gap : Nat → List CpInfo → List CpInfo
  | 0, r => r
  | n + 1, r => .unusable :: gap n r
def poolList (es : List (Nat × CpInfo)) (last : Nat) : List CpInfo := es.foldr (fun e r => gap e.1 (e.2 :: r)) (gap last [])
def pool (es : List (Nat × CpInfo)) (last : Nat) : Array CpInfo := ⟨poolList es last⟩
def fileOf (pool : Array CpInfo) (this : Nat) (attrs : Array Attribute := #[]) (ms : Array MethodInfo := #[]) (fl : Nat := 33) (sup : Nat := 0) (ifs : Array Nat := #[]) (fds : Array FieldInfo := #[]) : ClassFile where
  minorVersion := 0
  majorVersion := 65
  constantPool := pool
  accessFlags := fl
  thisClass := this
  superClass := sup
  interfaces := ifs
  fields := fds
  methods := ms
  attributes := attrs
def plain (name : String) (sup : Option ClassId) : Class where
  name := name
  kind := .ordinary
  loader := none
  accessFlags := 33
  super := sup
  interfaces := #[]
  cf := none
  fields := #[]
  methods := #[]
  instanceTypes := #[]
  staticTypes := #[]
  resolved := #[]
  callSites := []
  init := .initialized
  statics := none
  mirror := none

def pool0 : Array CpInfo := pool [(5, u "<init>"), (0, u "()V"), (1, .class_ 10), (1, u "java/lang/Object")] 113

def k0c0 : Code := { maxStack := 0, maxLocals := 1, code := object_method_1_code, exceptionTable := #[], attributes := #[] }
def k0m0 : Method := { name := "<init>", desc := "()V", sig := { parameters := [], returnType := none }, accessFlags := 1, code := some k0c0 }
/-- java/lang/Object -/
def k0 : Class := { plain "java/lang/Object" none with
  accessFlags := 33
  interfaces := #[]
  cf := some (fileOf pool0 8 #[] #[{ accessFlags := 1, nameIndex := 5, descriptorIndex := 6, attributes := #[] }] 33 0 #[] #[])
  fields := #[]
  methods := #[k0m0]
  instanceTypes := #[]
  staticTypes := #[]
  resolved := Array.replicate 124 none
  statics := none }

def pool1 : Array CpInfo := pool [(2, .class_ 4), (1, u "java/lang/Object"), (0, u "<init>"), (0, u "()V"), (0, .class_ 8), (0, u "com/example/endcon/endcon/yaml/Cursor"), (0, .string 10), (0, u "f"), (0, .methodref 7 12), (0, .nameAndType 5 13), (0, u "(Ljava/lang/String;[CI)V"), (0, .integer 65279), (0, .methodref 7 16), (0, .nameAndType 17 6), (0, u "newLine"), (0, .methodref 7 19), (0, .nameAndType 20 21), (0, u "advance"), (0, u "(I)V"), (0, .methodref 7 23), (0, .nameAndType 24 25), (0, u "atLineStart"), (0, u "(C)Z"), (0, .class_ 27), (0, u "com/example/endcon/endcon/yaml/CursorAtLineStartPinLaw"), (2, u "law"), (0, u "(IIII)Z")] 5

def k1m0 : Method := { name := "<init>", desc := "()V", sig := { parameters := [], returnType := none }, accessFlags := 1, code := none }
def k1c1 : Code := { maxStack := 5, maxLocals := 14, code := code, exceptionTable := #[], attributes := #[] }
def k1m1 : Method := { name := "law", desc := "(IIII)Z", sig := { parameters := [.int, .int, .int, .int], returnType := some .boolean }, accessFlags := 9, code := some k1c1 }
/-- com/example/endcon/endcon/yaml/CursorAtLineStartPinLaw -/
def k1 : Class := { plain "com/example/endcon/endcon/yaml/CursorAtLineStartPinLaw" (some 0) with
  accessFlags := 49
  interfaces := #[]
  cf := some (fileOf pool1 26 #[] #[{ accessFlags := 1, nameIndex := 5, descriptorIndex := 6, attributes := #[] }, { accessFlags := 9, nameIndex := 30, descriptorIndex := 31, attributes := #[] }] 49 2 #[] #[])
  fields := #[]
  methods := #[k1m0, k1m1]
  instanceTypes := #[]
  staticTypes := #[]
  resolved := Array.replicate 37 none
  statics := none }

def pool2 : Array CpInfo := pool [(1, .methodref 2 3), (0, .class_ 4), (0, .nameAndType 5 6), (0, u "java/lang/Object"), (0, u "<init>"), (0, u "()V"), (0, .fieldref 8 9), (0, .class_ 10), (0, .nameAndType 11 12), (0, u "com/example/endcon/endcon/yaml/Cursor"), (0, u "line"), (0, u "I"), (0, .fieldref 8 14), (0, .nameAndType 15 12), (0, u "blankLinesFrom"), (0, .fieldref 8 17), (0, .nameAndType 18 12), (0, u "countedIndex"), (0, .fieldref 8 20), (0, .nameAndType 21 22), (0, u "file"), (0, u "Ljava/lang/String;"), (0, .fieldref 8 24), (0, .nameAndType 25 26), (0, u "text"), (0, u "[C"), (0, .fieldref 8 28), (0, .nameAndType 29 12), (0, u "end"), (0, .methodref 31 32), (0, .class_ 33), (0, .nameAndType 34 35), (0, u "java/lang/Character"), (0, u "isSurrogate"), (0, u "(C)Z"), (0, .fieldref 8 37), (0, .nameAndType 38 39), (0, u "hasSurrogates"), (0, u "Z"), (0, .integer 65279), (0, .fieldref 8 42), (0, .nameAndType 43 12), (0, u "pos"), (0, .fieldref 8 45), (0, .nameAndType 46 12), (0, u "lineStart"), (50, u "blankLinesTo"), (0, u "Lcom/example/endcon/endcon/yaml/Cursor$Mark;"), (13, u "newLine"), (16, u "countedColumn"), (5, u "lastMark"), (1, .class_ 139), (1, u "com/example/endcon/endcon/yaml/Cursor$Mark"), (17, u "MAPPING_VALUE_HERE"), (1, u "BYTE_ORDER_MARK"), (0, u "C"), (0, u "(Ljava/lang/String;[CI)V"), (13, u "atLineStart"), (7, u "advance"), (0, u "(I)V")] 15

def k2c0 : Code := { maxStack := 2, maxLocals := 6, code := prog_114_method_1_code, exceptionTable := #[], attributes := #[] }
def k2m0 : Method := { name := "<init>", desc := "(Ljava/lang/String;[CI)V", sig := { parameters := [(.object "java/lang/String"), (.array .char), .int], returnType := none }, accessFlags := 0, code := some k2c0 }
def k2c1 : Code := { maxStack := 2, maxLocals := 2, code := prog_114_method_13_code, exceptionTable := #[], attributes := #[] }
def k2m1 : Method := { name := "atLineStart", desc := "(C)Z", sig := { parameters := [.char], returnType := some .boolean }, accessFlags := 0, code := some k2c1 }
def k2c2 : Code := { maxStack := 3, maxLocals := 2, code := prog_114_method_26_code, exceptionTable := #[], attributes := #[] }
def k2m2 : Method := { name := "advance", desc := "(I)V", sig := { parameters := [.int], returnType := none }, accessFlags := 0, code := some k2c2 }
def k2c3 : Code := { maxStack := 5, maxLocals := 2, code := prog_114_method_28_code, exceptionTable := #[], attributes := #[] }
def k2m3 : Method := { name := "newLine", desc := "()V", sig := { parameters := [], returnType := none }, accessFlags := 0, code := some k2c3 }
/-- com/example/endcon/endcon/yaml/Cursor -/
def k2 : Class := { plain "com/example/endcon/endcon/yaml/Cursor" (some 0) with
  accessFlags := 32
  interfaces := #[]
  cf := some (fileOf pool2 8 #[.nestMembers #[137]] #[{ accessFlags := 0, nameIndex := 5, descriptorIndex := 161, attributes := #[] }, { accessFlags := 0, nameIndex := 175, descriptorIndex := 35, attributes := #[] }, { accessFlags := 0, nameIndex := 183, descriptorIndex := 184, attributes := #[] }, { accessFlags := 0, nameIndex := 112, descriptorIndex := 6, attributes := #[] }] 32 2 #[] #[{ accessFlags := 24, nameIndex := 157, descriptorIndex := 22, attributes := #[] }, { accessFlags := 26, nameIndex := 159, descriptorIndex := 160, attributes := #[] }, { accessFlags := 18, nameIndex := 21, descriptorIndex := 22, attributes := #[] }, { accessFlags := 2, nameIndex := 25, descriptorIndex := 26, attributes := #[] }, { accessFlags := 18, nameIndex := 29, descriptorIndex := 12, attributes := #[] }, { accessFlags := 18, nameIndex := 38, descriptorIndex := 39, attributes := #[] }, { accessFlags := 2, nameIndex := 43, descriptorIndex := 12, attributes := #[] }, { accessFlags := 2, nameIndex := 11, descriptorIndex := 12, attributes := #[] }, { accessFlags := 2, nameIndex := 46, descriptorIndex := 12, attributes := #[] }, { accessFlags := 2, nameIndex := 15, descriptorIndex := 12, attributes := #[] }, { accessFlags := 2, nameIndex := 97, descriptorIndex := 98, attributes := #[] }, { accessFlags := 2, nameIndex := 18, descriptorIndex := 12, attributes := #[] }, { accessFlags := 2, nameIndex := 129, descriptorIndex := 12, attributes := #[] }, { accessFlags := 2, nameIndex := 135, descriptorIndex := 98, attributes := #[] }])
  fields := #[{ name := "MAPPING_VALUE_HERE", type := (.object "java/lang/String"), accessFlags := 24, slot := 0, constantValue := 0 }, { name := "BYTE_ORDER_MARK", type := .char, accessFlags := 26, slot := 1, constantValue := 0 }, { name := "file", type := (.object "java/lang/String"), accessFlags := 18, slot := 0, constantValue := 0 }, { name := "text", type := (.array .char), accessFlags := 2, slot := 1, constantValue := 0 }, { name := "end", type := .int, accessFlags := 18, slot := 2, constantValue := 0 }, { name := "hasSurrogates", type := .boolean, accessFlags := 18, slot := 3, constantValue := 0 }, { name := "pos", type := .int, accessFlags := 2, slot := 4, constantValue := 0 }, { name := "line", type := .int, accessFlags := 2, slot := 5, constantValue := 0 }, { name := "lineStart", type := .int, accessFlags := 2, slot := 6, constantValue := 0 }, { name := "blankLinesFrom", type := .int, accessFlags := 2, slot := 7, constantValue := 0 }, { name := "blankLinesTo", type := (.object "com/example/endcon/endcon/yaml/Cursor$Mark"), accessFlags := 2, slot := 8, constantValue := 0 }, { name := "countedIndex", type := .int, accessFlags := 2, slot := 9, constantValue := 0 }, { name := "countedColumn", type := .int, accessFlags := 2, slot := 10, constantValue := 0 }, { name := "lastMark", type := (.object "com/example/endcon/endcon/yaml/Cursor$Mark"), accessFlags := 2, slot := 11, constantValue := 0 }]
  methods := #[k2m0, k2m1, k2m2, k2m3]
  instanceTypes := #[(.object "java/lang/String"), (.array .char), .int, .boolean, .int, .int, .int, .int, (.object "com/example/endcon/endcon/yaml/Cursor$Mark"), .int, .int, (.object "com/example/endcon/endcon/yaml/Cursor$Mark")]
  staticTypes := #[(.object "java/lang/String"), .char]
  resolved := Array.replicate 200 none
  statics := none }

def pool3 : Array CpInfo := pool [(1, .class_ 2), (0, u "java/io/Serializable"), (0, .class_ 4), (0, u "java/lang/Object")] 2

/-- java/io/Serializable -/
def k3 : Class := { plain "java/io/Serializable" (some 0) with
  accessFlags := 1537
  interfaces := #[]
  cf := some (fileOf pool3 1 #[] #[] 1537 3 #[] #[])
  fields := #[]
  methods := #[]
  instanceTypes := #[]
  staticTypes := #[]
  resolved := Array.replicate 7 none
  statics := none }

def pool4 : Array CpInfo := pool [(1, .class_ 2), (0, u "java/lang/Comparable"), (0, .class_ 4), (0, u "java/lang/Object")] 7

/-- java/lang/Comparable -/
def k4 : Class := { plain "java/lang/Comparable" (some 0) with
  accessFlags := 1537
  interfaces := #[]
  cf := some (fileOf pool4 1 #[] #[] 1537 3 #[] #[])
  fields := #[]
  methods := #[]
  instanceTypes := #[]
  staticTypes := #[]
  resolved := Array.replicate 12 none
  statics := none }

def pool5 : Array CpInfo := pool [(2, .class_ 4), (1, u "java/lang/CharSequence"), (42, .class_ 48), (0, u "java/lang/CharSequence$1CodePointIterator"), (10, .class_ 60), (0, u "java/lang/CharSequence$1CharIterator"), (5, .class_ 67), (0, u "java/lang/Object")] 63

/-- java/lang/CharSequence -/
def k5 : Class := { plain "java/lang/CharSequence" (some 0) with
  accessFlags := 1537
  interfaces := #[]
  cf := some (fileOf pool5 2 #[.nestMembers #[47, 59]] #[] 1537 66 #[] #[])
  fields := #[]
  methods := #[]
  instanceTypes := #[]
  staticTypes := #[]
  resolved := Array.replicate 131 none
  statics := none }

def pool6 : Array CpInfo := pool [(1, .class_ 2), (0, u "java/lang/constant/Constable"), (0, .class_ 4), (0, u "java/lang/Object")] 6

/-- java/lang/constant/Constable -/
def k6 : Class := { plain "java/lang/constant/Constable" (some 0) with
  accessFlags := 1537
  interfaces := #[]
  cf := some (fileOf pool6 1 #[] #[] 1537 3 #[] #[])
  fields := #[]
  methods := #[]
  instanceTypes := #[]
  staticTypes := #[]
  resolved := Array.replicate 11 none
  statics := none }

def pool7 : Array CpInfo := pool [(1, .class_ 2), (0, u "java/lang/constant/ConstantDesc"), (0, .class_ 4), (0, u "java/lang/Object")] 32

/-- java/lang/constant/ConstantDesc -/
def k7 : Class := { plain "java/lang/constant/ConstantDesc" (some 0) with
  accessFlags := 1537
  interfaces := #[]
  cf := some (fileOf pool7 1 #[] #[] 1537 3 #[] #[])
  fields := #[]
  methods := #[]
  instanceTypes := #[]
  staticTypes := #[]
  resolved := Array.replicate 37 none
  statics := none }

def pool8 : Array CpInfo := pool [(2, .class_ 4), (1, u "java/lang/Object"), (0, u "<init>"), (0, u "()V"), (3, .class_ 12), (1, u "java/lang/String"), (0, u "value"), (0, u "[B"), (2, u "coder"), (0, u "B"), (2, u "hash"), (0, u "I"), (2, u "hashIsZero"), (0, u "Z"), (13, u "COMPACT_STRINGS"), (534, .class_ 576), (0, u "java/lang/CharSequence"), (22, u "CASE_INSENSITIVE_ORDER"), (0, u "Ljava/util/Comparator;"), (500, u "serialPersistentFields"), (0, u "[Ljava/io/ObjectStreamField;"), (0, .class_ 1104), (0, u "java/lang/String$CaseInsensitiveComparator"), (1, .class_ 1107), (0, u "java/io/Serializable"), (0, .class_ 1109), (0, u "java/lang/Comparable"), (0, .class_ 1111), (0, u "java/lang/constant/Constable"), (0, .class_ 1113), (0, u "java/lang/constant/ConstantDesc"), (2, u "serialVersionUID"), (0, u "J"), (3, u "REPL"), (0, u "C"), (2, u "LATIN1"), (1, u "UTF16")] 323

def k8m0 : Method := { name := "<init>", desc := "()V", sig := { parameters := [], returnType := none }, accessFlags := 1, code := none }
/-- java/lang/String -/
def k8 : Class := { plain "java/lang/String" (some 0) with
  accessFlags := 49
  interfaces := #[3, 4, 5, 6, 7]
  cf := some (fileOf pool8 10 #[.nestMembers #[1103]] #[{ accessFlags := 1, nameIndex := 5, descriptorIndex := 6, attributes := #[] }] 49 2 #[1106, 1108, 575, 1110, 1112] #[{ accessFlags := 18, nameIndex := 13, descriptorIndex := 14, attributes := #[] }, { accessFlags := 18, nameIndex := 17, descriptorIndex := 18, attributes := #[] }, { accessFlags := 2, nameIndex := 21, descriptorIndex := 22, attributes := #[] }, { accessFlags := 2, nameIndex := 25, descriptorIndex := 26, attributes := #[] }, { accessFlags := 26, nameIndex := 1116, descriptorIndex := 1117, attributes := #[] }, { accessFlags := 24, nameIndex := 40, descriptorIndex := 26, attributes := #[] }, { accessFlags := 26, nameIndex := 1101, descriptorIndex := 1102, attributes := #[] }, { accessFlags := 26, nameIndex := 1121, descriptorIndex := 1122, attributes := #[] }, { accessFlags := 25, nameIndex := 599, descriptorIndex := 600, attributes := #[] }, { accessFlags := 24, nameIndex := 1125, descriptorIndex := 18, attributes := #[] }, { accessFlags := 24, nameIndex := 1127, descriptorIndex := 18, attributes := #[] }])
  fields := #[{ name := "value", type := (.array .byte), accessFlags := 18, slot := 0, constantValue := 0 }, { name := "coder", type := .byte, accessFlags := 18, slot := 1, constantValue := 0 }, { name := "hash", type := .int, accessFlags := 2, slot := 2, constantValue := 0 }, { name := "hashIsZero", type := .boolean, accessFlags := 2, slot := 3, constantValue := 0 }, { name := "serialVersionUID", type := .long, accessFlags := 26, slot := 0, constantValue := 0 }, { name := "COMPACT_STRINGS", type := .boolean, accessFlags := 24, slot := 1, constantValue := 0 }, { name := "serialPersistentFields", type := (.array (.object "java/io/ObjectStreamField")), accessFlags := 26, slot := 2, constantValue := 0 }, { name := "REPL", type := .char, accessFlags := 26, slot := 3, constantValue := 0 }, { name := "CASE_INSENSITIVE_ORDER", type := (.object "java/util/Comparator"), accessFlags := 25, slot := 4, constantValue := 0 }, { name := "LATIN1", type := .byte, accessFlags := 24, slot := 5, constantValue := 0 }, { name := "UTF16", type := .byte, accessFlags := 24, slot := 6, constantValue := 0 }]
  methods := #[k8m0]
  instanceTypes := #[(.array .byte), .byte, .int, .boolean]
  staticTypes := #[.long, .boolean, (.array (.object "java/io/ObjectStreamField")), .char, (.object "java/util/Comparator"), .byte, .byte]
  resolved := Array.replicate 1451 none
  statics := none }

def pool9 : Array CpInfo := pool [(1, .class_ 2), (0, u "java/lang/Character"), (18, u "value"), (0, u "C"), (19, .class_ 44), (1, u "java/lang/Object"), (3, .class_ 50), (1, u "java/lang/Character$CharacterCache"), (24, .integer 55296), (1, .integer 57344), (3, u "(C)Z"), (202, u "$assertionsDisabled"), (0, u "Z"), (21, .class_ 309), (1, u "java/lang/Character$UnicodeBlock"), (73, u "TYPE"), (0, u "Ljava/lang/Class;"), (0, .class_ 386), (0, u "java/io/Serializable"), (0, .class_ 388), (0, u "java/lang/Comparable"), (0, .class_ 390), (0, u "java/lang/constant/Constable"), (0, u "MIN_RADIX"), (0, u "I"), (2, u "MAX_RADIX"), (1, u "MIN_VALUE"), (1, u "MAX_VALUE"), (3, u "UNASSIGNED"), (0, u "B"), (0, u "UPPERCASE_LETTER"), (1, u "LOWERCASE_LETTER"), (0, u "TITLECASE_LETTER"), (1, u "MODIFIER_LETTER"), (1, u "OTHER_LETTER"), (1, u "NON_SPACING_MARK"), (1, u "ENCLOSING_MARK"), (1, u "COMBINING_SPACING_MARK"), (1, u "DECIMAL_DIGIT_NUMBER"), (1, u "LETTER_NUMBER"), (1, u "OTHER_NUMBER"), (1, u "SPACE_SEPARATOR"), (1, u "LINE_SEPARATOR"), (1, u "PARAGRAPH_SEPARATOR"), (1, u "CONTROL"), (1, u "FORMAT"), (1, u "PRIVATE_USE"), (1, u "SURROGATE"), (1, u "DASH_PUNCTUATION"), (1, u "START_PUNCTUATION"), (1, u "END_PUNCTUATION"), (1, u "CONNECTOR_PUNCTUATION"), (1, u "OTHER_PUNCTUATION"), (1, u "MATH_SYMBOL"), (1, u "CURRENCY_SYMBOL"), (1, u "MODIFIER_SYMBOL"), (1, u "OTHER_SYMBOL"), (1, u "INITIAL_QUOTE_PUNCTUATION"), (1, u "FINAL_QUOTE_PUNCTUATION"), (1, u "ERROR"), (1, u "DIRECTIONALITY_UNDEFINED"), (0, u "DIRECTIONALITY_LEFT_TO_RIGHT"), (0, u "DIRECTIONALITY_RIGHT_TO_LEFT"), (0, u "DIRECTIONALITY_RIGHT_TO_LEFT_ARABIC"), (0, u "DIRECTIONALITY_EUROPEAN_NUMBER"), (0, u "DIRECTIONALITY_EUROPEAN_NUMBER_SEPARATOR"), (0, u "DIRECTIONALITY_EUROPEAN_NUMBER_TERMINATOR"), (0, u "DIRECTIONALITY_ARABIC_NUMBER"), (0, u "DIRECTIONALITY_COMMON_NUMBER_SEPARATOR"), (0, u "DIRECTIONALITY_NONSPACING_MARK"), (0, u "DIRECTIONALITY_BOUNDARY_NEUTRAL"), (0, u "DIRECTIONALITY_PARAGRAPH_SEPARATOR"), (0, u "DIRECTIONALITY_SEGMENT_SEPARATOR"), (0, u "DIRECTIONALITY_WHITESPACE"), (0, u "DIRECTIONALITY_OTHER_NEUTRALS"), (0, u "DIRECTIONALITY_LEFT_TO_RIGHT_EMBEDDING"), (0, u "DIRECTIONALITY_LEFT_TO_RIGHT_OVERRIDE"), (0, u "DIRECTIONALITY_RIGHT_TO_LEFT_EMBEDDING"), (0, u "DIRECTIONALITY_RIGHT_TO_LEFT_OVERRIDE"), (1, u "DIRECTIONALITY_POP_DIRECTIONAL_FORMAT"), (0, u "DIRECTIONALITY_LEFT_TO_RIGHT_ISOLATE"), (0, u "DIRECTIONALITY_RIGHT_TO_LEFT_ISOLATE"), (0, u "DIRECTIONALITY_FIRST_STRONG_ISOLATE"), (0, u "DIRECTIONALITY_POP_DIRECTIONAL_ISOLATE"), (0, u "MIN_HIGH_SURROGATE"), (0, u "MAX_HIGH_SURROGATE"), (1, u "MIN_LOW_SURROGATE"), (0, u "MAX_LOW_SURROGATE"), (1, u "MIN_SURROGATE"), (0, u "MAX_SURROGATE"), (0, u "MIN_SUPPLEMENTARY_CODE_POINT"), (0, u "MIN_CODE_POINT"), (0, u "MAX_CODE_POINT"), (1, u "serialVersionUID"), (0, u "J"), (2, u "SIZE"), (0, u "BYTES"), (24, u "isSurrogate"), (63, .class_ 596), (0, u "java/lang/Character$UnicodeScript"), (0, .class_ 598), (0, u "java/lang/Character$Subset")] 5

def k9c0 : Code := { maxStack := 2, maxLocals := 1, code := jdk_89_method_16_code, exceptionTable := #[], attributes := #[] }
def k9m0 : Method := { name := "isSurrogate", desc := "(C)Z", sig := { parameters := [.char], returnType := some .boolean }, accessFlags := 9, code := some k9c0 }
/-- java/lang/Character -/
def k9 : Class := { plain "java/lang/Character" (some 0) with
  accessFlags := 49
  interfaces := #[3, 4, 6]
  cf := some (fileOf pool9 1 #[.nestMembers #[48, 595, 307, 597]] #[{ accessFlags := 9, nameIndex := 531, descriptorIndex := 81, attributes := #[] }] 49 42 #[385, 387, 389] #[{ accessFlags := 25, nameIndex := 391, descriptorIndex := 392, attributes := #[] }, { accessFlags := 25, nameIndex := 395, descriptorIndex := 392, attributes := #[] }, { accessFlags := 25, nameIndex := 397, descriptorIndex := 22, attributes := #[] }, { accessFlags := 25, nameIndex := 399, descriptorIndex := 22, attributes := #[] }, { accessFlags := 25, nameIndex := 383, descriptorIndex := 384, attributes := #[] }, { accessFlags := 25, nameIndex := 403, descriptorIndex := 404, attributes := #[] }, { accessFlags := 25, nameIndex := 405, descriptorIndex := 404, attributes := #[] }, { accessFlags := 25, nameIndex := 407, descriptorIndex := 404, attributes := #[] }, { accessFlags := 25, nameIndex := 408, descriptorIndex := 404, attributes := #[] }, { accessFlags := 25, nameIndex := 410, descriptorIndex := 404, attributes := #[] }, { accessFlags := 25, nameIndex := 412, descriptorIndex := 404, attributes := #[] }, { accessFlags := 25, nameIndex := 414, descriptorIndex := 404, attributes := #[] }, { accessFlags := 25, nameIndex := 416, descriptorIndex := 404, attributes := #[] }, { accessFlags := 25, nameIndex := 418, descriptorIndex := 404, attributes := #[] }, { accessFlags := 25, nameIndex := 420, descriptorIndex := 404, attributes := #[] }, { accessFlags := 25, nameIndex := 422, descriptorIndex := 404, attributes := #[] }, { accessFlags := 25, nameIndex := 424, descriptorIndex := 404, attributes := #[] }, { accessFlags := 25, nameIndex := 426, descriptorIndex := 404, attributes := #[] }, { accessFlags := 25, nameIndex := 428, descriptorIndex := 404, attributes := #[] }, { accessFlags := 25, nameIndex := 430, descriptorIndex := 404, attributes := #[] }, { accessFlags := 25, nameIndex := 432, descriptorIndex := 404, attributes := #[] }, { accessFlags := 25, nameIndex := 434, descriptorIndex := 404, attributes := #[] }, { accessFlags := 25, nameIndex := 436, descriptorIndex := 404, attributes := #[] }, { accessFlags := 25, nameIndex := 438, descriptorIndex := 404, attributes := #[] }, { accessFlags := 25, nameIndex := 440, descriptorIndex := 404, attributes := #[] }, { accessFlags := 25, nameIndex := 442, descriptorIndex := 404, attributes := #[] }, { accessFlags := 25, nameIndex := 444, descriptorIndex := 404, attributes := #[] }, { accessFlags := 25, nameIndex := 446, descriptorIndex := 404, attributes := #[] }, { accessFlags := 25, nameIndex := 448, descriptorIndex := 404, attributes := #[] }, { accessFlags := 25, nameIndex := 450, descriptorIndex := 404, attributes := #[] }, { accessFlags := 25, nameIndex := 452, descriptorIndex := 404, attributes := #[] }, { accessFlags := 25, nameIndex := 454, descriptorIndex := 404, attributes := #[] }, { accessFlags := 25, nameIndex := 456, descriptorIndex := 404, attributes := #[] }, { accessFlags := 25, nameIndex := 458, descriptorIndex := 404, attributes := #[] }, { accessFlags := 25, nameIndex := 460, descriptorIndex := 404, attributes := #[] }, { accessFlags := 24, nameIndex := 462, descriptorIndex := 392, attributes := #[] }, { accessFlags := 25, nameIndex := 464, descriptorIndex := 404, attributes := #[] }, { accessFlags := 25, nameIndex := 465, descriptorIndex := 404, attributes := #[] }, { accessFlags := 25, nameIndex := 466, descriptorIndex := 404, attributes := #[] }, { accessFlags := 25, nameIndex := 467, descriptorIndex := 404, attributes := #[] }, { accessFlags := 25, nameIndex := 468, descriptorIndex := 404, attributes := #[] }, { accessFlags := 25, nameIndex := 469, descriptorIndex := 404, attributes := #[] }, { accessFlags := 25, nameIndex := 470, descriptorIndex := 404, attributes := #[] }, { accessFlags := 25, nameIndex := 471, descriptorIndex := 404, attributes := #[] }, { accessFlags := 25, nameIndex := 472, descriptorIndex := 404, attributes := #[] }, { accessFlags := 25, nameIndex := 473, descriptorIndex := 404, attributes := #[] }, { accessFlags := 25, nameIndex := 474, descriptorIndex := 404, attributes := #[] }, { accessFlags := 25, nameIndex := 475, descriptorIndex := 404, attributes := #[] }, { accessFlags := 25, nameIndex := 476, descriptorIndex := 404, attributes := #[] }, { accessFlags := 25, nameIndex := 477, descriptorIndex := 404, attributes := #[] }, { accessFlags := 25, nameIndex := 478, descriptorIndex := 404, attributes := #[] }, { accessFlags := 25, nameIndex := 479, descriptorIndex := 404, attributes := #[] }, { accessFlags := 25, nameIndex := 480, descriptorIndex := 404, attributes := #[] }, { accessFlags := 25, nameIndex := 481, descriptorIndex := 404, attributes := #[] }, { accessFlags := 25, nameIndex := 482, descriptorIndex := 404, attributes := #[] }, { accessFlags := 25, nameIndex := 484, descriptorIndex := 404, attributes := #[] }, { accessFlags := 25, nameIndex := 485, descriptorIndex := 404, attributes := #[] }, { accessFlags := 25, nameIndex := 486, descriptorIndex := 404, attributes := #[] }, { accessFlags := 25, nameIndex := 487, descriptorIndex := 404, attributes := #[] }, { accessFlags := 25, nameIndex := 488, descriptorIndex := 404, attributes := #[] }, { accessFlags := 25, nameIndex := 489, descriptorIndex := 22, attributes := #[] }, { accessFlags := 25, nameIndex := 490, descriptorIndex := 22, attributes := #[] }, { accessFlags := 25, nameIndex := 492, descriptorIndex := 22, attributes := #[] }, { accessFlags := 25, nameIndex := 493, descriptorIndex := 22, attributes := #[] }, { accessFlags := 25, nameIndex := 495, descriptorIndex := 22, attributes := #[] }, { accessFlags := 25, nameIndex := 496, descriptorIndex := 22, attributes := #[] }, { accessFlags := 25, nameIndex := 497, descriptorIndex := 392, attributes := #[] }, { accessFlags := 25, nameIndex := 498, descriptorIndex := 392, attributes := #[] }, { accessFlags := 25, nameIndex := 499, descriptorIndex := 392, attributes := #[] }, { accessFlags := 18, nameIndex := 21, descriptorIndex := 22, attributes := #[] }, { accessFlags := 26, nameIndex := 501, descriptorIndex := 502, attributes := #[] }, { accessFlags := 25, nameIndex := 505, descriptorIndex := 392, attributes := #[] }, { accessFlags := 25, nameIndex := 506, descriptorIndex := 392, attributes := #[] }, { accessFlags := 4120, nameIndex := 284, descriptorIndex := 285, attributes := #[] }])
  fields := #[{ name := "MIN_RADIX", type := .int, accessFlags := 25, slot := 0, constantValue := 0 }, { name := "MAX_RADIX", type := .int, accessFlags := 25, slot := 1, constantValue := 0 }, { name := "MIN_VALUE", type := .char, accessFlags := 25, slot := 2, constantValue := 0 }, { name := "MAX_VALUE", type := .char, accessFlags := 25, slot := 3, constantValue := 0 }, { name := "TYPE", type := (.object "java/lang/Class"), accessFlags := 25, slot := 4, constantValue := 0 }, { name := "UNASSIGNED", type := .byte, accessFlags := 25, slot := 5, constantValue := 0 }, { name := "UPPERCASE_LETTER", type := .byte, accessFlags := 25, slot := 6, constantValue := 0 }, { name := "LOWERCASE_LETTER", type := .byte, accessFlags := 25, slot := 7, constantValue := 0 }, { name := "TITLECASE_LETTER", type := .byte, accessFlags := 25, slot := 8, constantValue := 0 }, { name := "MODIFIER_LETTER", type := .byte, accessFlags := 25, slot := 9, constantValue := 0 }, { name := "OTHER_LETTER", type := .byte, accessFlags := 25, slot := 10, constantValue := 0 }, { name := "NON_SPACING_MARK", type := .byte, accessFlags := 25, slot := 11, constantValue := 0 }, { name := "ENCLOSING_MARK", type := .byte, accessFlags := 25, slot := 12, constantValue := 0 }, { name := "COMBINING_SPACING_MARK", type := .byte, accessFlags := 25, slot := 13, constantValue := 0 }, { name := "DECIMAL_DIGIT_NUMBER", type := .byte, accessFlags := 25, slot := 14, constantValue := 0 }, { name := "LETTER_NUMBER", type := .byte, accessFlags := 25, slot := 15, constantValue := 0 }, { name := "OTHER_NUMBER", type := .byte, accessFlags := 25, slot := 16, constantValue := 0 }, { name := "SPACE_SEPARATOR", type := .byte, accessFlags := 25, slot := 17, constantValue := 0 }, { name := "LINE_SEPARATOR", type := .byte, accessFlags := 25, slot := 18, constantValue := 0 }, { name := "PARAGRAPH_SEPARATOR", type := .byte, accessFlags := 25, slot := 19, constantValue := 0 }, { name := "CONTROL", type := .byte, accessFlags := 25, slot := 20, constantValue := 0 }, { name := "FORMAT", type := .byte, accessFlags := 25, slot := 21, constantValue := 0 }, { name := "PRIVATE_USE", type := .byte, accessFlags := 25, slot := 22, constantValue := 0 }, { name := "SURROGATE", type := .byte, accessFlags := 25, slot := 23, constantValue := 0 }, { name := "DASH_PUNCTUATION", type := .byte, accessFlags := 25, slot := 24, constantValue := 0 }, { name := "START_PUNCTUATION", type := .byte, accessFlags := 25, slot := 25, constantValue := 0 }, { name := "END_PUNCTUATION", type := .byte, accessFlags := 25, slot := 26, constantValue := 0 }, { name := "CONNECTOR_PUNCTUATION", type := .byte, accessFlags := 25, slot := 27, constantValue := 0 }, { name := "OTHER_PUNCTUATION", type := .byte, accessFlags := 25, slot := 28, constantValue := 0 }, { name := "MATH_SYMBOL", type := .byte, accessFlags := 25, slot := 29, constantValue := 0 }, { name := "CURRENCY_SYMBOL", type := .byte, accessFlags := 25, slot := 30, constantValue := 0 }, { name := "MODIFIER_SYMBOL", type := .byte, accessFlags := 25, slot := 31, constantValue := 0 }, { name := "OTHER_SYMBOL", type := .byte, accessFlags := 25, slot := 32, constantValue := 0 }, { name := "INITIAL_QUOTE_PUNCTUATION", type := .byte, accessFlags := 25, slot := 33, constantValue := 0 }, { name := "FINAL_QUOTE_PUNCTUATION", type := .byte, accessFlags := 25, slot := 34, constantValue := 0 }, { name := "ERROR", type := .int, accessFlags := 24, slot := 35, constantValue := 0 }, { name := "DIRECTIONALITY_UNDEFINED", type := .byte, accessFlags := 25, slot := 36, constantValue := 0 }, { name := "DIRECTIONALITY_LEFT_TO_RIGHT", type := .byte, accessFlags := 25, slot := 37, constantValue := 0 }, { name := "DIRECTIONALITY_RIGHT_TO_LEFT", type := .byte, accessFlags := 25, slot := 38, constantValue := 0 }, { name := "DIRECTIONALITY_RIGHT_TO_LEFT_ARABIC", type := .byte, accessFlags := 25, slot := 39, constantValue := 0 }, { name := "DIRECTIONALITY_EUROPEAN_NUMBER", type := .byte, accessFlags := 25, slot := 40, constantValue := 0 }, { name := "DIRECTIONALITY_EUROPEAN_NUMBER_SEPARATOR", type := .byte, accessFlags := 25, slot := 41, constantValue := 0 }, { name := "DIRECTIONALITY_EUROPEAN_NUMBER_TERMINATOR", type := .byte, accessFlags := 25, slot := 42, constantValue := 0 }, { name := "DIRECTIONALITY_ARABIC_NUMBER", type := .byte, accessFlags := 25, slot := 43, constantValue := 0 }, { name := "DIRECTIONALITY_COMMON_NUMBER_SEPARATOR", type := .byte, accessFlags := 25, slot := 44, constantValue := 0 }, { name := "DIRECTIONALITY_NONSPACING_MARK", type := .byte, accessFlags := 25, slot := 45, constantValue := 0 }, { name := "DIRECTIONALITY_BOUNDARY_NEUTRAL", type := .byte, accessFlags := 25, slot := 46, constantValue := 0 }, { name := "DIRECTIONALITY_PARAGRAPH_SEPARATOR", type := .byte, accessFlags := 25, slot := 47, constantValue := 0 }, { name := "DIRECTIONALITY_SEGMENT_SEPARATOR", type := .byte, accessFlags := 25, slot := 48, constantValue := 0 }, { name := "DIRECTIONALITY_WHITESPACE", type := .byte, accessFlags := 25, slot := 49, constantValue := 0 }, { name := "DIRECTIONALITY_OTHER_NEUTRALS", type := .byte, accessFlags := 25, slot := 50, constantValue := 0 }, { name := "DIRECTIONALITY_LEFT_TO_RIGHT_EMBEDDING", type := .byte, accessFlags := 25, slot := 51, constantValue := 0 }, { name := "DIRECTIONALITY_LEFT_TO_RIGHT_OVERRIDE", type := .byte, accessFlags := 25, slot := 52, constantValue := 0 }, { name := "DIRECTIONALITY_RIGHT_TO_LEFT_EMBEDDING", type := .byte, accessFlags := 25, slot := 53, constantValue := 0 }, { name := "DIRECTIONALITY_RIGHT_TO_LEFT_OVERRIDE", type := .byte, accessFlags := 25, slot := 54, constantValue := 0 }, { name := "DIRECTIONALITY_POP_DIRECTIONAL_FORMAT", type := .byte, accessFlags := 25, slot := 55, constantValue := 0 }, { name := "DIRECTIONALITY_LEFT_TO_RIGHT_ISOLATE", type := .byte, accessFlags := 25, slot := 56, constantValue := 0 }, { name := "DIRECTIONALITY_RIGHT_TO_LEFT_ISOLATE", type := .byte, accessFlags := 25, slot := 57, constantValue := 0 }, { name := "DIRECTIONALITY_FIRST_STRONG_ISOLATE", type := .byte, accessFlags := 25, slot := 58, constantValue := 0 }, { name := "DIRECTIONALITY_POP_DIRECTIONAL_ISOLATE", type := .byte, accessFlags := 25, slot := 59, constantValue := 0 }, { name := "MIN_HIGH_SURROGATE", type := .char, accessFlags := 25, slot := 60, constantValue := 0 }, { name := "MAX_HIGH_SURROGATE", type := .char, accessFlags := 25, slot := 61, constantValue := 0 }, { name := "MIN_LOW_SURROGATE", type := .char, accessFlags := 25, slot := 62, constantValue := 0 }, { name := "MAX_LOW_SURROGATE", type := .char, accessFlags := 25, slot := 63, constantValue := 0 }, { name := "MIN_SURROGATE", type := .char, accessFlags := 25, slot := 64, constantValue := 0 }, { name := "MAX_SURROGATE", type := .char, accessFlags := 25, slot := 65, constantValue := 0 }, { name := "MIN_SUPPLEMENTARY_CODE_POINT", type := .int, accessFlags := 25, slot := 66, constantValue := 0 }, { name := "MIN_CODE_POINT", type := .int, accessFlags := 25, slot := 67, constantValue := 0 }, { name := "MAX_CODE_POINT", type := .int, accessFlags := 25, slot := 68, constantValue := 0 }, { name := "value", type := .char, accessFlags := 18, slot := 0, constantValue := 0 }, { name := "serialVersionUID", type := .long, accessFlags := 26, slot := 69, constantValue := 0 }, { name := "SIZE", type := .int, accessFlags := 25, slot := 70, constantValue := 0 }, { name := "BYTES", type := .int, accessFlags := 25, slot := 71, constantValue := 0 }, { name := "$assertionsDisabled", type := .boolean, accessFlags := 4120, slot := 72, constantValue := 0 }]
  methods := #[k9m0]
  instanceTypes := #[.char]
  staticTypes := #[.int, .int, .char, .char, (.object "java/lang/Class"), .byte, .byte, .byte, .byte, .byte, .byte, .byte, .byte, .byte, .byte, .byte, .byte, .byte, .byte, .byte, .byte, .byte, .byte, .byte, .byte, .byte, .byte, .byte, .byte, .byte, .byte, .byte, .byte, .byte, .byte, .int, .byte, .byte, .byte, .byte, .byte, .byte, .byte, .byte, .byte, .byte, .byte, .byte, .byte, .byte, .byte, .byte, .byte, .byte, .byte, .byte, .byte, .byte, .byte, .byte, .char, .char, .char, .char, .char, .char, .int, .int, .int, .long, .int, .int, .boolean]
  resolved := Array.replicate 604 none
  statics := none }

def pool10 : Array CpInfo := pool [(1, u "java/lang/Cloneable"), (0, .class_ 1), (0, u "java/lang/Object"), (0, .class_ 3)] 3

/-- java/lang/Cloneable -/
def k10 : Class := { plain "java/lang/Cloneable" (some 0) with
  accessFlags := 1537
  interfaces := #[]
  cf := some (fileOf pool10 2 #[] #[] 1537 4 #[] #[])
  fields := #[]
  methods := #[]
  instanceTypes := #[]
  staticTypes := #[]
  resolved := Array.replicate 8 none
  statics := none }

/-- the primitive byte -/
def k11 : Class := { plain "byte" none with kind := .primitive 'B', accessFlags := 0x411 }
/-- [B -/
def k12 : Class := { plain "[B" (some 0) with kind := .array 11 .byte, interfaces := #[10, 3], accessFlags := 1041 }

/-- the primitive char -/
def k13 : Class := { plain "char" none with kind := .primitive 'C', accessFlags := 0x411 }
/-- [C -/
def k14 : Class := { plain "[C" (some 0) with kind := .array 13 .char, interfaces := #[10, 3], accessFlags := 1041 }

/-- the primitive int -/
def k15 : Class := { plain "int" none with kind := .primitive 'I', accessFlags := 0x411 }
/-- [I -/
def k16 : Class := { plain "[I" (some 0) with kind := .array 15 .int, interfaces := #[10, 3], accessFlags := 1041 }

def heap : Heap := #[]
def classes : Array Class := #[k0, k1, k2, k3, k4, k5, k6, k7, k8, k9, k10, k11, k12, k13, k14, k15, k16]
def interned : List (Array UInt16 × Addr) := []
def slotsUsed : Nat := 0
def theMethod : MethodId := ⟨1, 1⟩
def args0 : Array Value := #[.int 5, .int 3, .int 2, .int 1]
def aboutOver (below : List Frame) : State where
  vm := { classes := classes, interned := interned.toArray }
  heap := heap
  slotsUsed := slotsUsed
  threads := #[{ frames := .invoking theMethod args0 :: below }]
def below0 : List Frame := [.native { method := ⟨0, 0⟩, args := #[] }]
def about1 : State := aboutOver below0
def p0 : Program := .bare "" "" ""
def e0 : Env := launch0.env 0 0 0
theorem w_frames : about1.frames = Frame.invoking theMethod args0 :: below0 := rfl
set_option maxRecDepth 65536 in
theorem w_args : argsFit about1.vm theMethod args0 = true := by decide +kernel
set_option maxRecDepth 65536 in
theorem w_heap : heapFits about1 = true := by decide +kernel
set_option maxRecDepth 65536 in
theorem w_runnable : about1.curStatus? = some .runnable := by decide +kernel
set_option maxRecDepth 65536 in
theorem w_alone : about1.alone = true := by decide +kernel
set_option maxRecDepth 65536 in
theorem w_named : about1.methodNamed? x = some theMethod := by decide +kernel
set_option maxRecDepth 65536 in
theorem w_hears : about1.hears theMethod below0 = true := by decide +kernel
set_option maxRecDepth 65536 in
theorem w_ripe : about1.ripe theMethod args0 below0 = true := by decide +kernel
theorem w_running : about1.status = .running := rfl
set_option maxRecDepth 65536 in
theorem w_room : about1.hasRoom e0.platform room_1 = true :=
  launch0.hasRoom_least _ room_1 (by decide +kernel) (by decide +kernel) (by decide +kernel) (by decide +kernel) (by decide +kernel) (by decide +kernel)
theorem allAtoms_all (ts : List Jvm.Cond) (a : Array Jvm.Value) (st : Jvm.State) : (allAtoms ts).before a st = ts.all (fun c => c.before a st) := by
  induction ts with
  | nil => rfl
  | cons c t ih =>
    show (Jvm.Cond.and c (allAtoms t)).before a st = _
    rw [Jvm.Cond.before_and, ih, List.all_cons]
def words1 : List Jvm.Cond := Jvm.Cond.code x code maxLocals ret :: tables_1
/-- a 'code' word, met by the world's own term for the bytes: nothing is compared byte by byte -/
theorem code_word {y : MethodName} {bytes : ByteArray} {mx : Nat} {rt : Option FieldType} {a : Array Value} {s : State} {m : MethodId} {meth : Method} {c : Code} (h1 : s.methodNamed? y = some m) (h2 : s.vm.method? m = some meth) (h3 : meth.code = some c) (h4 : c.code = bytes)
    (h5 : (c.maxLocals == mx && c.exceptionTable.isEmpty && decide (c.maxStack ≤ mostOperands) && decide (meth.sig.returnType = rt) && !meth.locks && decide (parseMethodDescriptor y.desc = some meth.sig)) = true) : (Jvm.Cond.code y bytes mx rt).before a s = true := by
  simp only [Bool.and_eq_true, beq_iff_eq, Bool.not_eq_true', decide_eq_true_eq] at h5
  obtain ⟨⟨⟨⟨⟨g1, g2⟩, g3⟩, g4⟩, g5⟩, g6⟩ := h5
  simp [Cond.before, Cond.holds, Cond.value, h1, h2, h3, h4, g1, g2, g3, g4, g5, g6]
def isCode : Jvm.Cond → Bool
  | .code _ _ _ _ => true
  | _ => false
theorem all_split {L : List Jvm.Cond} {P : Jvm.Cond → Bool} (h1 : L.all (fun c => isCode c || P c) = true) (h2 : ∀ c ∈ L.filter isCode, P c = true) : L.all P = true := by
  refine List.all_eq_true.mpr fun c hc => ?_
  have h := List.all_eq_true.mp h1 c hc
  rcases Bool.eq_false_or_eq_true (isCode c) with hi | hi
  · exact h2 c (List.mem_filter.mpr ⟨hc, hi⟩)
  · simpa [hi] using h
set_option maxRecDepth 65536 in
theorem w_c0 : (Jvm.Cond.code x code maxLocals ret).before args0 about1 = true := code_word (m := ⟨1, 1⟩) (meth := k1m1) (c := k1c1) (by decide +kernel) rfl rfl rfl (by decide +kernel)
set_option maxRecDepth 65536 in
theorem w_c1 : (Jvm.Cond.code ({ cls := "com/example/endcon/endcon/yaml/Cursor", name := "<init>", desc := "(Ljava/lang/String;[CI)V" } : Jvm.MethodName) prog_114_method_1_code (6 : Nat) (Option.none : Option Jvm.ClassFile.FieldType)).before args0 about1 = true := code_word (m := ⟨2, 0⟩) (meth := k2m0) (c := k2c0) (by decide +kernel) rfl rfl rfl (by decide +kernel)
set_option maxRecDepth 65536 in
theorem w_c2 : (Jvm.Cond.code ({ cls := "java/lang/Object", name := "<init>", desc := "()V" } : Jvm.MethodName) object_method_1_code (1 : Nat) (Option.none : Option Jvm.ClassFile.FieldType)).before args0 about1 = true := code_word (m := ⟨0, 0⟩) (meth := k0m0) (c := k0c0) (by decide +kernel) rfl rfl rfl (by decide +kernel)
set_option maxRecDepth 65536 in
theorem w_c3 : (Jvm.Cond.code ({ cls := "java/lang/Character", name := "isSurrogate", desc := "(C)Z" } : Jvm.MethodName) jdk_89_method_16_code (1 : Nat) (Option.some Jvm.ClassFile.FieldType.boolean)).before args0 about1 = true := code_word (m := ⟨9, 0⟩) (meth := k9m0) (c := k9c0) (by decide +kernel) rfl rfl rfl (by decide +kernel)
set_option maxRecDepth 65536 in
theorem w_c4 : (Jvm.Cond.code ({ cls := "com/example/endcon/endcon/yaml/Cursor", name := "advance", desc := "(I)V" } : Jvm.MethodName) prog_114_method_26_code (2 : Nat) (Option.none : Option Jvm.ClassFile.FieldType)).before args0 about1 = true := code_word (m := ⟨2, 2⟩) (meth := k2m2) (c := k2c2) (by decide +kernel) rfl rfl rfl (by decide +kernel)
set_option maxRecDepth 65536 in
theorem w_c5 : (Jvm.Cond.code ({ cls := "com/example/endcon/endcon/yaml/Cursor", name := "atLineStart", desc := "(C)Z" } : Jvm.MethodName) prog_114_method_13_code (2 : Nat) (Option.some Jvm.ClassFile.FieldType.boolean)).before args0 about1 = true := code_word (m := ⟨2, 1⟩) (meth := k2m1) (c := k2c1) (by decide +kernel) rfl rfl rfl (by decide +kernel)
set_option maxRecDepth 65536 in
theorem w_c6 : (Jvm.Cond.code ({ cls := "com/example/endcon/endcon/yaml/Cursor", name := "newLine", desc := "()V" } : Jvm.MethodName) prog_114_method_28_code (2 : Nat) (Option.none : Option Jvm.ClassFile.FieldType)).before args0 about1 = true := code_word (m := ⟨2, 3⟩) (meth := k2m3) (c := k2c3) (by decide +kernel) rfl rfl rfl (by decide +kernel)
def codes1 : List Jvm.Cond := [Jvm.Cond.code x code maxLocals ret, Jvm.Cond.code ({ cls := "com/example/endcon/endcon/yaml/Cursor", name := "<init>", desc := "(Ljava/lang/String;[CI)V" } : Jvm.MethodName) prog_114_method_1_code (6 : Nat) (Option.none : Option Jvm.ClassFile.FieldType), Jvm.Cond.code ({ cls := "java/lang/Object", name := "<init>", desc := "()V" } : Jvm.MethodName) object_method_1_code (1 : Nat) (Option.none : Option Jvm.ClassFile.FieldType), Jvm.Cond.code ({ cls := "java/lang/Character", name := "isSurrogate", desc := "(C)Z" } : Jvm.MethodName) jdk_89_method_16_code (1 : Nat) (Option.some Jvm.ClassFile.FieldType.boolean), Jvm.Cond.code ({ cls := "com/example/endcon/endcon/yaml/Cursor", name := "advance", desc := "(I)V" } : Jvm.MethodName) prog_114_method_26_code (2 : Nat) (Option.none : Option Jvm.ClassFile.FieldType), Jvm.Cond.code ({ cls := "com/example/endcon/endcon/yaml/Cursor", name := "atLineStart", desc := "(C)Z" } : Jvm.MethodName) prog_114_method_13_code (2 : Nat) (Option.some Jvm.ClassFile.FieldType.boolean), Jvm.Cond.code ({ cls := "com/example/endcon/endcon/yaml/Cursor", name := "newLine", desc := "()V" } : Jvm.MethodName) prog_114_method_28_code (2 : Nat) (Option.none : Option Jvm.ClassFile.FieldType)]
set_option maxRecDepth 65536 in
theorem codes_eq : words1.filter isCode = codes1 := rfl
theorem w_codes : ∀ c ∈ words1.filter isCode, c.before args0 about1 = true := by
  rw [codes_eq]
  intro c hc
  simp only [codes1, List.mem_cons, List.not_mem_nil, or_false] at hc
  rcases hc with rfl | rfl | rfl | rfl | rfl | rfl | rfl
  · exact w_c0
  · exact w_c1
  · exact w_c2
  · exact w_c3
  · exact w_c4
  · exact w_c5
  · exact w_c6
set_option maxRecDepth 65536 in
theorem w_t1 : (words1.take 24).all (fun c => isCode c || c.before args0 about1) = true := by decide +kernel
set_option maxRecDepth 65536 in
theorem w_t2 : ((words1.drop 24).take 24).all (fun c => isCode c || c.before args0 about1) = true := by decide +kernel
set_option maxRecDepth 65536 in
theorem w_t3 : ((words1.drop 24).drop 24).all (fun c => isCode c || c.before args0 about1) = true := by decide +kernel
theorem w_tables : (allAtoms (Jvm.Cond.code x code maxLocals ret :: tables_1)).before args0 about1 = true := by
  rw [allAtoms_all]
  show words1.all (fun c => c.before args0 about1) = true
  refine all_split ?_ w_codes
  rw [← List.take_append_drop 24 words1, List.all_append, w_t1, ← List.take_append_drop 24 (words1.drop 24), List.all_append, w_t2, w_t3]
  rfl
set_option maxRecDepth 65536 in
theorem w_case : (Jvm.Cond.and given_1 narrow_1).before args0 about1 = true := by decide +kernel
theorem w_applies : (headSpec (Jvm.Cond.code x code maxLocals ret :: tables_1) room_1).applies x e0.platform about1 = true :=
  (Spec.applies_iff w_frames).mpr ⟨w_running, w_runnable, w_alone, w_named, w_hears, w_ripe, w_room, w_tables⟩
theorem atStart : AtStart classFile x code maxLocals ret World_1 tables_1 room_1 Calls_1 rest_1 Pre_1 launch0 p0 e0 about1 theMethod args0 below0 :=
  ⟨lists_1, trivial, launch0.admits_env _ _ _, launch0.least_env, fairChoices_fair.cas, fairChoices_fair.clock, w_frames, w_args, w_heap, w_applies, trivial, trivial, w_case⟩
end start1
theorem witness_1 : WitnessClaimed_1 := ⟨start1.p0, start1.e0, start1.about1, start1.theMethod, start1.args0, start1.below0, start1.atStart⟩
end Jvm.Pilot.@@N@@
