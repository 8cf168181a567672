import JvmDerived
import JvmDerived.Pilot.@@N@@Statement
import JvmDerived.Pilot.@@N@@Code
set_option linter.unusedVariables false
set_option linter.unusedSimpArgs false
namespace Jvm.OwnK
open Jvm Sem ClassFile Op Lib Jvm.Stand Jvm.Free Jvm.LawKit Jvm.RoadKit Bundle
/-- where a walk stands: pc, locals, stack, heap, cells and slots made so far -/
abbrev Kt := Nat → Array Slot → List Value → Heap → Nat → Nat → Prop
/-- what a body leaves: the value that it returns, the heap -/
abbrev Qt := Option Value → Heap → Prop
/-- a body's end, as its contract asks it -/
def Out (p : Program) (e : Env) (below : List Frame) (s s1 : State) (f0 : JFrame) (R : Room) (n0 : Nat) (Q : Qt) : Prop :=
  ∃ s2 o, Steps p.tables e below (s1.setTop f0) s2 ∧ s2.status = .running ∧ Ended s2 below o ∧ ∃ v L, o = .returned v ∧ (Q v s2.heap ∧ Fr n0 L) ∧ FrameEnd s o s2 L R.cells R.slots
/-- what doesn't change along a walk, and what K and O mean -/
def Ctx (l : Launch) (R : Room) (n0 : Nat) (Z : State) (own : String) (bytes : ByteArray) (ml : Nat) (nm : String) (rt : Option FieldType) (Q : Qt) (K : Kt) (O : Prop) : Prop :=
  ∃ (p : Program) (e : Env) (s : State) (m : MethodId) (args : Array Value) (below : List Frame) (meth : Method) (c : Code) (s1 : State) (f0 : JFrame),
    p.tables.exec = Jvm.exec ∧ c.code = bytes ∧ Z.Warmed39 s.vm ∧ s.vm.findClass own = some m.cls ∧ c.maxLocals = ml ∧ meth.name = nm ∧ meth.sig.returnType = rt ∧ meth.locks = false ∧
    (∀ pc L S h cl sl, K pc L S h cl sl ↔ ∃ T locs, Stand p l e R s m args below meth c T locs cl sl ∧ T.heap = h ∧ Fr n0 locs ∧ ∀ t, Steps p.tables e below (T.setTop (mkF m pc L S)) t → Steps p.tables e below (s1.setTop f0) t) ∧
    (Out p e below s s1 f0 R n0 Q → O)
/-- a body's contract -/
def Con (l : Launch) (y : MethodName) (bytes : ByteArray) (ml : Nat) (rt : Option FieldType) (rm : Room) (Z : State) (as : Array Value) (h : Heap) (n0 : Nat) (Q : Qt) : Prop :=
  ∀ ws : List Jvm.Cond, MetFree l y (head1 (Jvm.Cond.code y bytes ml rt :: ws) rm) (fun a U => a = as ∧ Z.Warmed39 U.vm ∧ U.heap = h) (fun _ _ _ _ _ => True) (fun _ U o U' => ∃ v L, o = .returned v ∧ (Q v U'.heap ∧ Fr n0 L) ∧ FrameEnd U o U' L rm.cells rm.slots)
theorem Con.mono {l : Launch} {y : MethodName} {bytes : ByteArray} {ml : Nat} {rt : Option FieldType} {rm : Room} {Z : State} {as : Array Value} {h : Heap} {n0 : Nat} {Q Q' : Qt} (K : Con l y bytes ml rt rm Z as h n0 Q) (q : ∀ v h', Q v h' → Q' v h') : Con l y bytes ml rt rm Z as h n0 Q' := by
  intro ws p e ha hc hk s m args below hf happ hP hK
  obtain ⟨n, o, h1, h2, h3, v, L, h4, ⟨h5, h6⟩, h7⟩ := K ws p e ha hc hk s m args below hf happ hP hK
  exact ⟨n, o, h1, h2, h3, v, L, h4, ⟨q _ _ h5, h6⟩, h7⟩
theorem Con.enter {l : Launch} {y : MethodName} {bytes : ByteArray} {ml : Nat} {rt : Option FieldType} {rm : Room} {Z : State} {as : Array Value} {h : Heap} {n0 : Nat} {Q : Qt} {L0 : Array Slot} (hpl : plainFor y = true) (hef : ∀ m, entryFrame m as ml = mkF m 0 L0 [])
    (hb : ∀ (K : Kt) (O : Prop), Ctx l rm n0 Z y.cls bytes ml y.name rt Q K O → K 0 L0 [] h 0 0 → O) : Con l y bytes ml rt rm Z as h n0 Q := by
  intro ws
  refine MetFree.of_bodySF hpl hisR ?_
  intro p e s m args below meth c s1 Bd hml0 hP hK
  obtain ⟨rfl, hZ, hh⟩ := hP
  have X0 : Stand p l e rm s m args below meth c s1 [] 0 0 := Stand.of_body Bd
  have e0 : s1.heap = h := by rw [← hh, Bd.state]; rfl
  exact hb (fun pc L S h cl sl => ∃ T locs, Stand p l e rm s m args below meth c T locs cl sl ∧ T.heap = h ∧ Fr n0 locs ∧ ∀ t, Steps p.tables e below (T.setTop (mkF m pc L S)) t → Steps p.tables e below (s1.setTop (entryFrame m args ml)) t)
    (Out p e below s s1 (entryFrame m args ml) rm n0 Q)
    ⟨p, e, s, m, args, below, meth, c, s1, entryFrame m args ml, Bd.exec, Bd.bytes, hZ, findClass_of_methodNamed Bd.named, hml0, (name_of_methodNamed Bd.named Bd.method).1, Bd.returns, Bd.notSynchronized, fun _ _ _ _ _ _ => Iff.rfl, id⟩
    ⟨s1, [], X0, e0, Fr.nil n0, fun t k => castTop (hef m) k⟩
section Steps
variable {l : Launch} {R : Room} {n0 : Nat} {Z : State} {own : String} {bytes : ByteArray} {ml : Nat} {nm : String} {rt : Option FieldType} {Q : Qt} {K : Kt} {O : Prop} {a0 : Array Value} {pc : Nat} {L : Array Slot} {S rest : List Value} {h : Heap} {cl sl : Nat} {pc' : Nat}
theorem Ctx.pure (C : Ctx l R n0 Z own bytes ml nm rt Q K O) (H : K pc L S h cl sl) {L' : Array Slot} {S' : List Value}
    (f : ∀ (p : Program) (e : Env) (s : State) (m : MethodId) (args : Array Value) (below : List Frame) (meth : Method) (c : Code) (T : State) (locs : List Loc), Stand p l e R s m args below meth c T locs cl sl → p.tables.exec = Jvm.exec → c.code = bytes → Z.Warmed39 s.vm → s.vm.findClass own = some m.cls → T.heap = h →
      ∀ t, Steps p.tables e below (T.setTop (mkF m pc' L' S')) t → Steps p.tables e below (T.setTop (mkF m pc L S)) t) : K pc' L' S' h cl sl := by
  obtain ⟨p, e, s, m, args, below, meth, c, s1, f0, hx, hby, hZ, hown, hml, hnm, hrt, hlk, hK, hO⟩ := C
  obtain ⟨T, locs, X, eT, N, st⟩ := (hK _ _ _ _ _ _).mp H
  exact (hK _ _ _ _ _ _).mpr ⟨T, locs, X, eT, N, fun t k => st t (f p e s m args below meth c T locs X hx hby hZ hown eT t k)⟩
/-- a step that may note something in the tables -/
theorem Ctx.note (C : Ctx l R n0 Z own bytes ml nm rt Q K O) (H : K pc L S h cl sl) {L' : Array Slot} {S' : List Value}
    (f : ∀ (p : Program) (e : Env) (s : State) (m : MethodId) (args : Array Value) (below : List Frame) (meth : Method) (c : Code) (T : State) (locs : List Loc), Stand p l e R s m args below meth c T locs cl sl → p.tables.exec = Jvm.exec → c.code = bytes → Z.Warmed39 s.vm → s.vm.findClass own = some m.cls → c.maxLocals = ml → T.heap = h →
      ∃ T', Stand p l e R s m args below meth c T' locs cl sl ∧ T'.heap = h ∧ ∀ t, Steps p.tables e below (T'.setTop (mkF m pc' L' S')) t → Steps p.tables e below (T.setTop (mkF m pc L S)) t) : K pc' L' S' h cl sl := by
  obtain ⟨p, e, s, m, args, below, meth, c, s1, f0, hx, hby, hZ, hown, hml, hnm, hrt, hlk, hK, hO⟩ := C
  obtain ⟨T, locs, X, eT, N, st⟩ := (hK _ _ _ _ _ _).mp H
  obtain ⟨T', X', eT', st'⟩ := f p e s m args below meth c T locs X hx hby hZ hown hml eT
  exact (hK _ _ _ _ _ _).mpr ⟨T', locs, X', eT', N, fun t k => st t (st' t k)⟩

theorem k_iloadN (C : Ctx l R n0 Z own bytes ml nm rt Q K O) {k : Fin 4} {v : Int32} (H : K pc L (S) h cl sl) (d : decode bytes pc = .ok (.iload_n k, 1)) (hl : L[k.val]? = some (.val (.int v))) (hp : pc + 1 = pc') : K pc' L ((.int v) :: S) h cl sl := by
  subst hp
  exact C.pure H fun p e s m args below meth c T locs X hx hby _ _ _ t k => XS.iloadN X.here hx rfl (hb hby d) hl k
theorem k_iload (C : Ctx l R n0 Z own bytes ml nm rt Q K O) {k : Nat} {v : Int32} (H : K pc L (S) h cl sl) (d : decode bytes pc = .ok (.iload k, 2)) (hl : L[k]? = some (.val (.int v))) (hp : pc + 2 = pc') : K pc' L ((.int v) :: S) h cl sl := by
  subst hp
  exact C.pure H fun p e s m args below meth c T locs X hx hby _ _ _ t k => XS.iload X.here hx rfl (hb hby d) hl k
theorem k_lloadN (C : Ctx l R n0 Z own bytes ml nm rt Q K O) {k : Fin 4} {v : Int64} (H : K pc L (S) h cl sl) (d : decode bytes pc = .ok (.lload_n k, 1)) (hl : L[k.val]? = some (.val (.long v))) (hp : pc + 1 = pc') : K pc' L ((.long v) :: S) h cl sl := by
  subst hp
  exact C.pure H fun p e s m args below meth c T locs X hx hby _ _ _ t k => XS.lloadN X.here hx rfl (hb hby d) hl k
theorem k_lload (C : Ctx l R n0 Z own bytes ml nm rt Q K O) {k : Nat} {v : Int64} (H : K pc L (S) h cl sl) (d : decode bytes pc = .ok (.lload k, 2)) (hl : L[k]? = some (.val (.long v))) (hp : pc + 2 = pc') : K pc' L ((.long v) :: S) h cl sl := by
  subst hp
  exact C.pure H fun p e s m args below meth c T locs X hx hby _ _ _ t k => XS.lload X.here hx rfl (hb hby d) hl k
theorem k_aloadN (C : Ctx l R n0 Z own bytes ml nm rt Q K O) {k : Fin 4} {v : Value} (H : K pc L (S) h cl sl) (d : decode bytes pc = .ok (.aload_n k, 1)) (hl : L[k.val]? = some (.val v)) (hv : v.isRef = true) (hp : pc + 1 = pc') : K pc' L (v :: S) h cl sl := by
  subst hp
  exact C.pure H fun p e s m args below meth c T locs X hx hby _ _ _ t k => XS.aloadN X.here hx rfl (hb hby d) hl hv k
theorem k_aload (C : Ctx l R n0 Z own bytes ml nm rt Q K O) {k : Nat} {v : Value} (H : K pc L (S) h cl sl) (d : decode bytes pc = .ok (.aload k, 2)) (hl : L[k]? = some (.val v)) (hv : v.isRef = true) (hp : pc + 2 = pc') : K pc' L (v :: S) h cl sl := by
  subst hp
  exact C.pure H fun p e s m args below meth c T locs X hx hby _ _ _ t k => XS.aload X.here hx rfl (hb hby d) hl hv k
theorem k_istoreN (C : Ctx l R n0 Z own bytes ml nm rt Q K O) {k : Fin 4} {v : Int32} {L' : Array Slot} (H : K pc L ((.int v) :: rest) h cl sl) (d : decode bytes pc = .ok (.istore_n k, 1)) (hl : storeLocals L k.val (.int v) = some L') (hp : pc + 1 = pc') : K pc' L' (rest) h cl sl := by
  subst hp
  exact C.pure H fun p e s m args below meth c T locs X hx hby _ _ _ t k => XS.istoreN X.here hx rfl (hb hby d) rfl hl k
theorem k_istore (C : Ctx l R n0 Z own bytes ml nm rt Q K O) {k : Nat} {v : Int32} {L' : Array Slot} (H : K pc L ((.int v) :: rest) h cl sl) (d : decode bytes pc = .ok (.istore k, 2)) (hl : storeLocals L k (.int v) = some L') (hp : pc + 2 = pc') : K pc' L' (rest) h cl sl := by
  subst hp
  exact C.pure H fun p e s m args below meth c T locs X hx hby _ _ _ t k => XS.istore X.here hx rfl (hb hby d) rfl hl k
theorem k_lstoreN (C : Ctx l R n0 Z own bytes ml nm rt Q K O) {k : Fin 4} {v : Int64} {L' : Array Slot} (H : K pc L ((.long v) :: rest) h cl sl) (d : decode bytes pc = .ok (.lstore_n k, 1)) (hl : storeLocals L k.val (.long v) = some L') (hp : pc + 1 = pc') : K pc' L' (rest) h cl sl := by
  subst hp
  exact C.pure H fun p e s m args below meth c T locs X hx hby _ _ _ t k => XS.lstoreN X.here hx rfl (hb hby d) rfl hl k
theorem k_lstore (C : Ctx l R n0 Z own bytes ml nm rt Q K O) {k : Nat} {v : Int64} {L' : Array Slot} (H : K pc L ((.long v) :: rest) h cl sl) (d : decode bytes pc = .ok (.lstore k, 2)) (hl : storeLocals L k (.long v) = some L') (hp : pc + 2 = pc') : K pc' L' (rest) h cl sl := by
  subst hp
  exact C.pure H fun p e s m args below meth c T locs X hx hby _ _ _ t k => XS.lstore X.here hx rfl (hb hby d) rfl hl k
theorem k_astoreN (C : Ctx l R n0 Z own bytes ml nm rt Q K O) {k : Fin 4} {v : Value} {L' : Array Slot} (H : K pc L (v :: rest) h cl sl) (d : decode bytes pc = .ok (.astore_n k, 1)) (hv : v.isRef = true) (hl : storeLocals L k.val v = some L') (hp : pc + 1 = pc') : K pc' L' (rest) h cl sl := by
  subst hp
  exact C.pure H fun p e s m args below meth c T locs X hx hby _ _ _ t k => XS.astoreN X.here hx rfl (hb hby d) rfl hv hl k
theorem k_astore (C : Ctx l R n0 Z own bytes ml nm rt Q K O) {k : Nat} {v : Value} {L' : Array Slot} (H : K pc L (v :: rest) h cl sl) (d : decode bytes pc = .ok (.astore k, 2)) (hv : v.isRef = true) (hl : storeLocals L k v = some L') (hp : pc + 2 = pc') : K pc' L' (rest) h cl sl := by
  subst hp
  exact C.pure H fun p e s m args below meth c T locs X hx hby _ _ _ t k => XS.astore X.here hx rfl (hb hby d) rfl hv hl k
theorem k_iconst (C : Ctx l R n0 Z own bytes ml nm rt Q K O) {i : Int} {v : Int32} (H : K pc L (S) h cl sl) (d : decode bytes pc = .ok (.iconst i, 1)) (hv : Int32.ofInt i = v) (hp : pc + 1 = pc') : K pc' L (.int v :: S) h cl sl := by
  subst hp
  exact C.pure H fun p e s m args below meth c T locs X hx hby _ _ _ t k => XS.iconst X.here hx rfl (hb hby d) (by rw [hv]; exact k)
theorem k_bipush (C : Ctx l R n0 Z own bytes ml nm rt Q K O) {i : Int} {v : Int32} (H : K pc L (S) h cl sl) (d : decode bytes pc = .ok (.bipush i, 2)) (hv : (Int8.ofInt i).toInt32 = v) (hp : pc + 2 = pc') : K pc' L (.int v :: S) h cl sl := by
  subst hp
  exact C.pure H fun p e s m args below meth c T locs X hx hby _ _ _ t k => XS.bipush X.here hx rfl (hb hby d) (by rw [hv]; exact k)
theorem k_sipush (C : Ctx l R n0 Z own bytes ml nm rt Q K O) {i : Int} {v : Int32} (H : K pc L (S) h cl sl) (d : decode bytes pc = .ok (.sipush i, 3)) (hv : (Int16.ofInt i).toInt32 = v) (hp : pc + 3 = pc') : K pc' L (.int v :: S) h cl sl := by
  subst hp
  exact C.pure H fun p e s m args below meth c T locs X hx hby _ _ _ t k => XS.sipush X.here hx rfl (hb hby d) (by rw [hv]; exact k)
theorem k_lconst (C : Ctx l R n0 Z own bytes ml nm rt Q K O) {i : Fin 2} {v : Int64} (H : K pc L (S) h cl sl) (d : decode bytes pc = .ok (.lconst i, 1)) (hv : Int64.ofNat i = v) (hp : pc + 1 = pc') : K pc' L (.long v :: S) h cl sl := by
  subst hp
  exact C.pure H fun p e s m args below meth c T locs X hx hby _ _ _ t k => XS.lconst X.here hx rfl (hb hby d) (by rw [hv]; exact k)
theorem k_anull (C : Ctx l R n0 Z own bytes ml nm rt Q K O)  (H : K pc L (S) h cl sl) (d : decode bytes pc = .ok (.aconst_null, 1))  (hp : pc + 1 = pc') : K pc' L (.null :: S) h cl sl := by
  subst hp
  exact C.pure H fun p e s m args below meth c T locs X hx hby _ _ _ t k => XS.aconstNull X.here hx rfl (hb hby d) k
theorem k_iadd (C : Ctx l R n0 Z own bytes ml nm rt Q K O) {x y : Int32} (H : K pc L (.int y :: .int x :: rest) h cl sl) (d : decode bytes pc = .ok (.iadd, 1))  (hp : pc + 1 = pc') : K pc' L (.int (x + y) :: rest) h cl sl := by
  subst hp
  exact C.pure H fun p e s m args below meth c T locs X hx hby _ _ _ t k => XS.iadd X.here hx rfl (hb hby d) rfl k
theorem k_isub (C : Ctx l R n0 Z own bytes ml nm rt Q K O) {x y : Int32} (H : K pc L (.int y :: .int x :: rest) h cl sl) (d : decode bytes pc = .ok (.isub, 1))  (hp : pc + 1 = pc') : K pc' L (.int (x - y) :: rest) h cl sl := by
  subst hp
  exact C.pure H fun p e s m args below meth c T locs X hx hby _ _ _ t k => XS.isub X.here hx rfl (hb hby d) rfl k
theorem k_imul (C : Ctx l R n0 Z own bytes ml nm rt Q K O) {x y : Int32} (H : K pc L (.int y :: .int x :: rest) h cl sl) (d : decode bytes pc = .ok (.imul, 1))  (hp : pc + 1 = pc') : K pc' L (.int (x * y) :: rest) h cl sl := by
  subst hp
  exact C.pure H fun p e s m args below meth c T locs X hx hby _ _ _ t k => XS.imul X.here hx rfl (hb hby d) rfl k
theorem k_iand (C : Ctx l R n0 Z own bytes ml nm rt Q K O) {x y : Int32} (H : K pc L (.int y :: .int x :: rest) h cl sl) (d : decode bytes pc = .ok (.iand, 1))  (hp : pc + 1 = pc') : K pc' L (.int (x &&& y) :: rest) h cl sl := by
  subst hp
  exact C.pure H fun p e s m args below meth c T locs X hx hby _ _ _ t k => XS.iand X.here hx rfl (hb hby d) rfl k
theorem k_ior (C : Ctx l R n0 Z own bytes ml nm rt Q K O) {x y : Int32} (H : K pc L (.int y :: .int x :: rest) h cl sl) (d : decode bytes pc = .ok (.ior, 1))  (hp : pc + 1 = pc') : K pc' L (.int (x ||| y) :: rest) h cl sl := by
  subst hp
  exact C.pure H fun p e s m args below meth c T locs X hx hby _ _ _ t k => XS.ior X.here hx rfl (hb hby d) rfl k
theorem k_ixor (C : Ctx l R n0 Z own bytes ml nm rt Q K O) {x y : Int32} (H : K pc L (.int y :: .int x :: rest) h cl sl) (d : decode bytes pc = .ok (.ixor, 1))  (hp : pc + 1 = pc') : K pc' L (.int (x ^^^ y) :: rest) h cl sl := by
  subst hp
  exact C.pure H fun p e s m args below meth c T locs X hx hby _ _ _ t k => XS.ixor X.here hx rfl (hb hby d) rfl k
theorem k_ishl (C : Ctx l R n0 Z own bytes ml nm rt Q K O) {x y : Int32} (H : K pc L (.int y :: .int x :: rest) h cl sl) (d : decode bytes pc = .ok (.ishl, 1))  (hp : pc + 1 = pc') : K pc' L (.int (x <<< (y &&& 31)) :: rest) h cl sl := by
  subst hp
  exact C.pure H fun p e s m args below meth c T locs X hx hby _ _ _ t k => XS.ishl X.here hx rfl (hb hby d) rfl k
theorem k_ishr (C : Ctx l R n0 Z own bytes ml nm rt Q K O) {x y : Int32} (H : K pc L (.int y :: .int x :: rest) h cl sl) (d : decode bytes pc = .ok (.ishr, 1))  (hp : pc + 1 = pc') : K pc' L (.int (x >>> (y &&& 31)) :: rest) h cl sl := by
  subst hp
  exact C.pure H fun p e s m args below meth c T locs X hx hby _ _ _ t k => XS.ishr X.here hx rfl (hb hby d) rfl k
theorem k_iushr (C : Ctx l R n0 Z own bytes ml nm rt Q K O) {x y : Int32} (H : K pc L (.int y :: .int x :: rest) h cl sl) (d : decode bytes pc = .ok (.iushr, 1))  (hp : pc + 1 = pc') : K pc' L (.int ((x.toUInt32 >>> (y &&& 31).toUInt32).toInt32) :: rest) h cl sl := by
  subst hp
  exact C.pure H fun p e s m args below meth c T locs X hx hby _ _ _ t k => XS.iushr X.here hx rfl (hb hby d) rfl k
theorem k_ladd (C : Ctx l R n0 Z own bytes ml nm rt Q K O) {x y : Int64} (H : K pc L (.long y :: .long x :: rest) h cl sl) (d : decode bytes pc = .ok (.ladd, 1))  (hp : pc + 1 = pc') : K pc' L (.long (x + y) :: rest) h cl sl := by
  subst hp
  exact C.pure H fun p e s m args below meth c T locs X hx hby _ _ _ t k => XS.ladd X.here hx rfl (hb hby d) rfl k
theorem k_lsub (C : Ctx l R n0 Z own bytes ml nm rt Q K O) {x y : Int64} (H : K pc L (.long y :: .long x :: rest) h cl sl) (d : decode bytes pc = .ok (.lsub, 1))  (hp : pc + 1 = pc') : K pc' L (.long (x - y) :: rest) h cl sl := by
  subst hp
  exact C.pure H fun p e s m args below meth c T locs X hx hby _ _ _ t k => XS.lsub X.here hx rfl (hb hby d) rfl k
theorem k_lmul (C : Ctx l R n0 Z own bytes ml nm rt Q K O) {x y : Int64} (H : K pc L (.long y :: .long x :: rest) h cl sl) (d : decode bytes pc = .ok (.lmul, 1))  (hp : pc + 1 = pc') : K pc' L (.long (x * y) :: rest) h cl sl := by
  subst hp
  exact C.pure H fun p e s m args below meth c T locs X hx hby _ _ _ t k => XS.lmul X.here hx rfl (hb hby d) rfl k
theorem k_land (C : Ctx l R n0 Z own bytes ml nm rt Q K O) {x y : Int64} (H : K pc L (.long y :: .long x :: rest) h cl sl) (d : decode bytes pc = .ok (.land, 1))  (hp : pc + 1 = pc') : K pc' L (.long (x &&& y) :: rest) h cl sl := by
  subst hp
  exact C.pure H fun p e s m args below meth c T locs X hx hby _ _ _ t k => XS.land X.here hx rfl (hb hby d) rfl k
theorem k_lor (C : Ctx l R n0 Z own bytes ml nm rt Q K O) {x y : Int64} (H : K pc L (.long y :: .long x :: rest) h cl sl) (d : decode bytes pc = .ok (.lor, 1))  (hp : pc + 1 = pc') : K pc' L (.long (x ||| y) :: rest) h cl sl := by
  subst hp
  exact C.pure H fun p e s m args below meth c T locs X hx hby _ _ _ t k => XS.lor X.here hx rfl (hb hby d) rfl k
theorem k_lxor (C : Ctx l R n0 Z own bytes ml nm rt Q K O) {x y : Int64} (H : K pc L (.long y :: .long x :: rest) h cl sl) (d : decode bytes pc = .ok (.lxor, 1))  (hp : pc + 1 = pc') : K pc' L (.long (x ^^^ y) :: rest) h cl sl := by
  subst hp
  exact C.pure H fun p e s m args below meth c T locs X hx hby _ _ _ t k => XS.lxor X.here hx rfl (hb hby d) rfl k
theorem k_lshl (C : Ctx l R n0 Z own bytes ml nm rt Q K O) {x : Int64} {y : Int32} (H : K pc L (.int y :: .long x :: rest) h cl sl) (d : decode bytes pc = .ok (.lshl, 1))  (hp : pc + 1 = pc') : K pc' L (.long (x <<< (y &&& 0x3f).toInt64) :: rest) h cl sl := by
  subst hp
  exact C.pure H fun p e s m args below meth c T locs X hx hby _ _ _ t k => XS.lshl X.here hx rfl (hb hby d) rfl k
theorem k_lshr (C : Ctx l R n0 Z own bytes ml nm rt Q K O) {x : Int64} {y : Int32} (H : K pc L (.int y :: .long x :: rest) h cl sl) (d : decode bytes pc = .ok (.lshr, 1))  (hp : pc + 1 = pc') : K pc' L (.long (x >>> (y &&& 0x3f).toInt64) :: rest) h cl sl := by
  subst hp
  exact C.pure H fun p e s m args below meth c T locs X hx hby _ _ _ t k => XS.lshr X.here hx rfl (hb hby d) rfl k
theorem k_lushr (C : Ctx l R n0 Z own bytes ml nm rt Q K O) {x : Int64} {y : Int32} (H : K pc L (.int y :: .long x :: rest) h cl sl) (d : decode bytes pc = .ok (.lushr, 1))  (hp : pc + 1 = pc') : K pc' L (.long ((x.toUInt64 >>> (y &&& 0x3f).toInt64.toUInt64).toInt64) :: rest) h cl sl := by
  subst hp
  exact C.pure H fun p e s m args below meth c T locs X hx hby _ _ _ t k => XS.lushr X.here hx rfl (hb hby d) rfl k
theorem k_lcmp (C : Ctx l R n0 Z own bytes ml nm rt Q K O) {x y : Int64} (H : K pc L (.long y :: .long x :: rest) h cl sl) (d : decode bytes pc = .ok (.lcmp, 1))  (hp : pc + 1 = pc') : K pc' L (.int (lcmpW x y) :: rest) h cl sl := by
  subst hp
  exact C.pure H fun p e s m args below meth c T locs X hx hby _ _ _ t k => XS.lcmp X.here hx rfl (hb hby d) rfl k
theorem k_ineg (C : Ctx l R n0 Z own bytes ml nm rt Q K O) {x : Int32} (H : K pc L (.int x :: rest) h cl sl) (d : decode bytes pc = .ok (.ineg, 1))  (hp : pc + 1 = pc') : K pc' L (.int (-x) :: rest) h cl sl := by
  subst hp
  exact C.pure H fun p e s m args below meth c T locs X hx hby _ _ _ t k => XS.ineg X.here hx rfl (hb hby d) rfl k
theorem k_idiv (C : Ctx l R n0 Z own bytes ml nm rt Q K O) {x y : Int32} (H : K pc L (.int y :: .int x :: rest) h cl sl) (d : decode bytes pc = .ok (.idiv, 1)) (hy : y ≠ 0) (hp : pc + 1 = pc') : K pc' L (.int (x / y) :: rest) h cl sl := by
  subst hp
  exact C.pure H fun p e s m args below meth c T locs X hx hby _ _ _ t k => XS.idiv X.here hx rfl (hb hby d) rfl hy k
theorem k_irem (C : Ctx l R n0 Z own bytes ml nm rt Q K O) {x y : Int32} (H : K pc L (.int y :: .int x :: rest) h cl sl) (d : decode bytes pc = .ok (.irem, 1)) (hy : y ≠ 0) (hp : pc + 1 = pc') : K pc' L (.int (x % y) :: rest) h cl sl := by
  subst hp
  exact C.pure H fun p e s m args below meth c T locs X hx hby _ _ _ t k => iremM X hx rfl (hb hby d) rfl hy k
theorem k_ldiv (C : Ctx l R n0 Z own bytes ml nm rt Q K O) {x y : Int64} (H : K pc L (.long y :: .long x :: rest) h cl sl) (d : decode bytes pc = .ok (.ldiv, 1)) (hy : y ≠ 0) (hp : pc + 1 = pc') : K pc' L (.long (x / y) :: rest) h cl sl := by
  subst hp
  exact C.pure H fun p e s m args below meth c T locs X hx hby _ _ _ t k => XS.ldiv X.here hx rfl (hb hby d) rfl hy k
theorem k_i2l (C : Ctx l R n0 Z own bytes ml nm rt Q K O) {x : Int32} (H : K pc L (.int x :: rest) h cl sl) (d : decode bytes pc = .ok (.i2l, 1))  (hp : pc + 1 = pc') : K pc' L (.long (x.toInt64) :: rest) h cl sl := by
  subst hp
  exact C.pure H fun p e s m args below meth c T locs X hx hby _ _ _ t k => XS.i2l X.here hx rfl (hb hby d) rfl k
theorem k_l2i (C : Ctx l R n0 Z own bytes ml nm rt Q K O) {x : Int64} (H : K pc L (.long x :: rest) h cl sl) (d : decode bytes pc = .ok (.l2i, 1))  (hp : pc + 1 = pc') : K pc' L (.int (x.toInt32) :: rest) h cl sl := by
  subst hp
  exact C.pure H fun p e s m args below meth c T locs X hx hby _ _ _ t k => XS.l2i X.here hx rfl (hb hby d) rfl k
theorem k_i2b (C : Ctx l R n0 Z own bytes ml nm rt Q K O) {x : Int32} (H : K pc L (.int x :: rest) h cl sl) (d : decode bytes pc = .ok (.i2b, 1))  (hp : pc + 1 = pc') : K pc' L (.int (x.toInt8.toInt32) :: rest) h cl sl := by
  subst hp
  exact C.pure H fun p e s m args below meth c T locs X hx hby _ _ _ t k => XS.i2b X.here hx rfl (hb hby d) rfl k
theorem k_i2c (C : Ctx l R n0 Z own bytes ml nm rt Q K O) {x : Int32} (H : K pc L (.int x :: rest) h cl sl) (d : decode bytes pc = .ok (.i2c, 1))  (hp : pc + 1 = pc') : K pc' L (.int (x.toUInt32.toUInt16.toUInt32.toInt32) :: rest) h cl sl := by
  subst hp
  exact C.pure H fun p e s m args below meth c T locs X hx hby _ _ _ t k => XS.i2c X.here hx rfl (hb hby d) rfl k
theorem k_i2s (C : Ctx l R n0 Z own bytes ml nm rt Q K O) {x : Int32} (H : K pc L (.int x :: rest) h cl sl) (d : decode bytes pc = .ok (.i2s, 1))  (hp : pc + 1 = pc') : K pc' L (.int (x.toInt16.toInt32) :: rest) h cl sl := by
  subst hp
  exact C.pure H fun p e s m args below meth c T locs X hx hby _ _ _ t k => XS.i2s X.here hx rfl (hb hby d) rfl k
theorem k_dup (C : Ctx l R n0 Z own bytes ml nm rt Q K O) {x : Value} (H : K pc L (x :: rest) h cl sl) (d : decode bytes pc = .ok (.dup, 1)) (hc : x.category = 1) (hp : pc + 1 = pc') : K pc' L (x :: x :: rest) h cl sl := by
  subst hp
  exact C.pure H fun p e s m args below meth c T locs X hx hby _ _ _ t k => XS.dup X.here hx rfl (hb hby d) rfl hc k
theorem k_pop (C : Ctx l R n0 Z own bytes ml nm rt Q K O) {x : Value} (H : K pc L (x :: rest) h cl sl) (d : decode bytes pc = .ok (.pop, 1)) (hc : x.category = 1) (hp : pc + 1 = pc') : K pc' L (rest) h cl sl := by
  subst hp
  exact C.pure H fun p e s m args below meth c T locs X hx hby _ _ _ t k => XS.pop X.here hx rfl (hb hby d) rfl hc k
theorem k_dupX1 (C : Ctx l R n0 Z own bytes ml nm rt Q K O) {x y : Value} (H : K pc L (x :: y :: rest) h cl sl) (d : decode bytes pc = .ok (.dup_x1, 1)) (hc : x.category = 1) (hc' : y.category = 1) (hp : pc + 1 = pc') : K pc' L (x :: y :: x :: rest) h cl sl := by
  subst hp
  exact C.pure H fun p e s m args below meth c T locs X hx hby _ _ _ t k => XS.dupX1 X.here hx rfl (hb hby d) rfl hc hc' k
theorem k_dup2 (C : Ctx l R n0 Z own bytes ml nm rt Q K O) {x y : Value} (H : K pc L (x :: y :: rest) h cl sl) (d : decode bytes pc = .ok (.dup2, 1)) (hc : x.category = 1) (hc' : y.category = 1) (hp : pc + 1 = pc') : K pc' L (x :: y :: x :: y :: rest) h cl sl := by
  subst hp
  exact C.pure H fun p e s m args below meth c T locs X hx hby _ _ _ t k => Jvm.Free.XT.dup2 X.here hx rfl (hb hby d) rfl hc hc' k
theorem k_iinc (C : Ctx l R n0 Z own bytes ml nm rt Q K O) {k : Nat} {i : Int} {x y : Int32} {L' : Array Slot} (H : K pc L (S) h cl sl) (d : decode bytes pc = .ok (.iinc k i, 3)) (hl : L[k]? = some (.val (.int x))) (hv : x + Int32.ofInt i = y) (hl' : storeLocals L k (.int y) = some L') (hp : pc + 3 = pc') : K pc' L' (S) h cl sl := by
  subst hp
  exact C.pure H fun p e s m args below meth c T locs X hx hby _ _ _ t k => XS.iinc X.here hx rfl (hb hby d) hl (by rw [hv]; exact hl') k
theorem k_ifcY (C : Ctx l R n0 Z own bytes ml nm rt Q K O) {cd : ClassFile.Cond} {o : Int} {x : Int32} (H : K pc L (.int x :: rest) h cl sl) (d : decode bytes pc = .ok (.ifCond cd o, 3)) (hc : if_icmp.holds cd x 0 = true) (ho : 0 ≤ (pc : Int) + o) (hp : ((pc : Int) + o).toNat = pc') : K pc' L rest h cl sl :=
  C.pure H fun p e s m args below meth c T locs X hx hby _ _ _ t k => XS.ifYes X.here hx rfl (pc0 := pc) rfl (hb hby d) rfl ((if0 _ _).trans hc) ho hp k
theorem k_ifcN (C : Ctx l R n0 Z own bytes ml nm rt Q K O) {cd : ClassFile.Cond} {o : Int} {x : Int32} (H : K pc L (.int x :: rest) h cl sl) (d : decode bytes pc = .ok (.ifCond cd o, 3)) (hc : if_icmp.holds cd x 0 = false) (hp : pc + 3 = pc') : K pc' L rest h cl sl := by
  subst hp
  exact C.pure H fun p e s m args below meth c T locs X hx hby _ _ _ t k => XS.ifNo X.here hx rfl (hb hby d) rfl ((if0 _ _).trans hc) k
theorem k_icmpY (C : Ctx l R n0 Z own bytes ml nm rt Q K O) {cd : ClassFile.Cond} {o : Int} {x y : Int32} (H : K pc L (.int y :: .int x :: rest) h cl sl) (d : decode bytes pc = .ok (.if_icmp cd o, 3)) (hc : if_icmp.holds cd x y = true) (ho : 0 ≤ (pc : Int) + o) (hp : ((pc : Int) + o).toNat = pc') : K pc' L rest h cl sl :=
  C.pure H fun p e s m args below meth c T locs X hx hby _ _ _ t k => XS.icmpYes X.here hx rfl (pc0 := pc) rfl (hb hby d) rfl hc ho hp k
theorem k_icmpN (C : Ctx l R n0 Z own bytes ml nm rt Q K O) {cd : ClassFile.Cond} {o : Int} {x y : Int32} (H : K pc L (.int y :: .int x :: rest) h cl sl) (d : decode bytes pc = .ok (.if_icmp cd o, 3)) (hc : if_icmp.holds cd x y = false) (hp : pc + 3 = pc') : K pc' L rest h cl sl := by
  subst hp
  exact C.pure H fun p e s m args below meth c T locs X hx hby _ _ _ t k => XS.icmpNo X.here hx rfl (hb hby d) rfl hc k
theorem k_goto (C : Ctx l R n0 Z own bytes ml nm rt Q K O) (H : K pc L S h cl sl) {o : Int} (d : decode bytes pc = .ok (.goto o, 3)) (ho : 0 ≤ (pc : Int) + o) (hp : ((pc : Int) + o).toNat = pc') : K pc' L S h cl sl :=
  C.pure H fun p e s m args below meth c T locs X hx hby _ _ _ t k => XS.goto X.here hx rfl (pc0 := pc) rfl (hb hby d) ho hp k
theorem k_ifnullY (C : Ctx l R n0 Z own bytes ml nm rt Q K O) (H : K pc L (.null :: rest) h cl sl) {o : Int} (d : decode bytes pc = .ok (.ifnull o, 3)) (ho : 0 ≤ (pc : Int) + o) (hp : ((pc : Int) + o).toNat = pc') : K pc' L rest h cl sl :=
  C.pure H fun p e s m args below meth c T locs X hx hby _ _ _ t k => XS.ifnullYes X.here hx rfl (pc0 := pc) rfl (hb hby d) rfl ho hp k
theorem k_ifnullN (C : Ctx l R n0 Z own bytes ml nm rt Q K O) {b : Addr} (H : K pc L (.ref b :: rest) h cl sl) {o : Int} (d : decode bytes pc = .ok (.ifnull o, 3)) (hp : pc + 3 = pc') : K pc' L rest h cl sl := by
  subst hp
  exact C.pure H fun p e s m args below meth c T locs X hx hby _ _ _ t k => XS.ifnullNo X.here hx rfl (hb hby d) rfl k
theorem k_ifnonnullY (C : Ctx l R n0 Z own bytes ml nm rt Q K O) {b : Addr} (H : K pc L (.ref b :: rest) h cl sl) {o : Int} (d : decode bytes pc = .ok (.ifnonnull o, 3)) (ho : 0 ≤ (pc : Int) + o) (hp : ((pc : Int) + o).toNat = pc') : K pc' L rest h cl sl :=
  C.pure H fun p e s m args below meth c T locs X hx hby _ _ _ t k => XS.ifnonnullYes X.here hx rfl (pc0 := pc) rfl (hb hby d) rfl ho hp k
theorem k_ifnonnullN (C : Ctx l R n0 Z own bytes ml nm rt Q K O) (H : K pc L (.null :: rest) h cl sl) {o : Int} (d : decode bytes pc = .ok (.ifnonnull o, 3)) (hp : pc + 3 = pc') : K pc' L rest h cl sl := by
  subst hp
  exact C.pure H fun p e s m args below meth c T locs X hx hby _ _ _ t k => XS.ifnonnullNo X.here hx rfl (hb hby d) rfl k
theorem k_acmp (C : Ctx l R n0 Z own bytes ml nm rt Q K O) {x y : Value} (H : K pc L (y :: x :: rest) h cl sl) {cd : ACond} {o : Int} (d : decode bytes pc = .ok (.if_acmp cd o, 3)) (h1 : x.isRef = true) (h2 : y.isRef = true) {same : Bool} (hq : decide (x = y) = same) (ho : 0 ≤ (pc : Int) + o) (hp : pc' = if acV cd same = true then ((pc : Int) + o).toNat else pc + 3) : K pc' L rest h cl sl :=
  C.pure H fun p e s m args below meth c T locs X hx hby _ _ _ t k => Jvm.RoadKit.acmp X hx rfl h1 h2 (pc0 := pc) rfl (hb hby d) rfl hq ho hp k
theorem k_dupX2 (C : Ctx l R n0 Z own bytes ml nm rt Q K O) {x y z : Value} (H : K pc L (x :: y :: z :: rest) h cl sl) (d : decode bytes pc = .ok (.dup_x2, 1)) (h1 : x.category = 1) (h2 : y.category = 1) (h3 : z.category = 1) (hp : pc + 1 = pc') : K pc' L (x :: y :: z :: x :: rest) h cl sl := by
  subst hp
  refine C.pure H fun p e s m args below meth c T locs X hx hby _ _ _ t k => ?_
  jvm_step X.here [X.here.top, hx, hb hby d, h1, h2, h3]
  exact k
theorem k_ldcI (C : Ctx l R n0 Z own bytes ml nm rt Q K O) (H : K pc L S h cl sl) {i : Nat} {v : Int32} (w : (Cond.constant own i v).before a0 Z = true) (d : decode bytes pc = .ok (.ldc i, 2)) (hp : pc + 2 = pc') : K pc' L (.int v :: S) h cl sl := by
  subst hp
  exact C.pure H fun p e s m args below meth c T locs X hx hby hZ hown _ t k => X.ldcInt hx hown (mvT hZ w) (g := mkF m pc L S) rfl (hb hby d) t k
theorem k_ldcL (C : Ctx l R n0 Z own bytes ml nm rt Q K O) (H : K pc L S h cl sl) {i : Nat} {v : Int64} (w : (Cond.constantLong own i v).before a0 Z = true) (d : decode bytes pc = .ok (.ldc2_w i, 3)) (hp : pc + 3 = pc') : K pc' L (.long v :: S) h cl sl := by
  subst hp
  exact C.pure H fun p e s m args below meth c T locs X hx hby hZ hown _ t k => X.ldc2Long hx hown (mvT hZ w) (g := mkF m pc L S) rfl (hb hby d) t k
theorem k_getFld (C : Ctx l R n0 Z own bytes ml nm rt Q K O) {a : Addr} (H : K pc L (.ref a :: rest) h cl sl) {i : Nat} {O' n d' : String} {v : Value} (w : (Cond.fieldLink own i O' n d').before a0 Z = true) (F : Fld Z h a O' n d' v) (d : decode bytes pc = .ok (.getfield i, 3)) (hp : pc + 3 = pc') : K pc' L (v :: rest) h cl sl := by
  subst hp
  exact C.note H fun p e s m args below meth c T locs X hx hby hZ hown _ eT => getF X hx hZ hown (host := "") (Or.inl w) Via.refl eT F (g := mkF m pc L (.ref a :: rest)) rfl rfl (hb hby d)
theorem k_getFldN (C : Ctx l R n0 Z own bytes ml nm rt Q K O) {a : Addr} (H : K pc L (.ref a :: rest) h cl sl) {i : Nat} {O' n d' host : String} {v : Value} (w : (Cond.fieldLinkNest own i O' n d' host).before a0 Z = true) (F : Fld Z h a O' n d' v) (d : decode bytes pc = .ok (.getfield i, 3)) (hp : pc + 3 = pc') : K pc' L (v :: rest) h cl sl := by
  subst hp
  exact C.note H fun p e s m args below meth c T locs X hx hby hZ hown _ eT => getF X hx hZ hown (Or.inr w) Via.refl eT F (g := mkF m pc L (.ref a :: rest)) rfl rfl (hb hby d)
theorem k_getSta (C : Ctx l R n0 Z own bytes ml nm rt Q K O) (H : K pc L S h cl sl) {i : Nat} {O' n d' : String} {v : Value} (w : (Cond.fieldLink own i O' n d').before a0 Z = true) (F : Sta Z h O' n d' v) (d : decode bytes pc = .ok (.getstatic i, 3)) (hp : pc + 3 = pc') : K pc' L (v :: S) h cl sl := by
  subst hp
  exact C.note H fun p e s m args below meth c T locs X hx hby hZ hown _ eT => getS2 X hx hZ hown (host := "") (Or.inl w) Via.refl eT F (g := mkF m pc L S) rfl (hb hby d)
theorem k_initObj (C : Ctx l R n0 Z own bytes ml nm rt Q K O) {a : Addr} (H : K pc L (.ref a :: rest) h cl sl) {i : Nat} (w1 : (Cond.methodLink own i Lib.objectInit).before a0 Z = true) (w2 : (Cond.instanceMethod Lib.objectInit).before a0 Z = true) (w3 : (Cond.code Lib.objectInit ⟨#[0xb1]⟩ 1 none).before a0 Z = true) (d : decode bytes pc = .ok (.invokespecial i, 3)) (hsz : L.size = ml)
    (hf : 1 ≤ R.frames) (W : Nat) (hW : (rest.map fun v => v.category).sum = W) (hl : W + 12 ≤ R.locals) (hp : pc + 3 = pc') : K pc' L rest h cl sl := by
  subst hp
  exact C.note H fun p e s m args below meth c T locs X hx hby hZ hown hml eT => initO X hx hZ hown w1 w2 w3 eT (g := mkF m pc L (.ref a :: rest)) rfl (hsz.trans hml.symm) rfl (hb hby d) hf (W := W) (by show 2 * 0 + _ ≤ _; omega) hl
theorem k_castYes (C : Ctx l R n0 Z own bytes ml nm rt Q K O) {a : Addr} (H : K pc L (.ref a :: rest) h cl sl) {i : Nat} {C' : String} (w : (Cond.classLink own i C').before a0 Z = true) (F : Ins Z h a C' true) (d : decode bytes pc = .ok (.checkcast i, 3)) (hp : pc + 3 = pc') : K pc' L (.ref a :: rest) h cl sl := by
  subst hp
  exact C.note H fun p e s m args below meth c T locs X hx hby hZ hown _ eT => castY X hx hZ hown w eT F (g := mkF m pc L (.ref a :: rest)) rfl rfl (hb hby d)
theorem k_castNull (C : Ctx l R n0 Z own bytes ml nm rt Q K O) (H : K pc L (.null :: rest) h cl sl) {i : Nat} (d : decode bytes pc = .ok (.checkcast i, 3)) (hp : pc + 3 = pc') : K pc' L (.null :: rest) h cl sl := by
  subst hp
  exact C.pure H fun p e s m args below meth c T locs X hx hby hZ hown _ t k => X.checkcastNull hx (g := mkF m pc L (.null :: rest)) rfl rfl (hb hby d) t k
theorem k_instYes (C : Ctx l R n0 Z own bytes ml nm rt Q K O) {a : Addr} (H : K pc L (.ref a :: rest) h cl sl) {i : Nat} {C' : String} (w : (Cond.classLink own i C').before a0 Z = true) (F : Ins Z h a C' true) (d : decode bytes pc = .ok (.instanceof i, 3)) (hp : pc + 3 = pc') : K pc' L (.int 1 :: rest) h cl sl := by
  subst hp
  exact C.note H fun p e s m args below meth c T locs X hx hby hZ hown _ eT => instY X hx hZ hown w eT F (g := mkF m pc L (.ref a :: rest)) rfl rfl (hb hby d)
theorem k_instNull (C : Ctx l R n0 Z own bytes ml nm rt Q K O) (H : K pc L (.null :: rest) h cl sl) {i : Nat} (d : decode bytes pc = .ok (.instanceof i, 3)) (hp : pc + 3 = pc') : K pc' L (.int 0 :: rest) h cl sl := by
  subst hp
  exact C.pure H fun p e s m args below meth c T locs X hx hby hZ hown _ t k => X.instanceofNull hx (g := mkF m pc L (.null :: rest)) rfl rfl (hb hby d) t k
theorem k_instNot (C : Ctx l R n0 Z own bytes ml nm rt Q K O) {a : Addr} (H : K pc L (.ref a :: rest) h cl sl) {i : Nat} {C' D' : String} (w : (Cond.classLink own i C').before a0 Z = true) (E : Exa Z h a D') (F : ∃ c t, Z.vm.findClass D' = some c ∧ Z.vm.findClass C' = some t ∧ Z.vm.assignable c t = false) (d : decode bytes pc = .ok (.instanceof i, 3)) (hp : pc + 3 = pc') : K pc' L (.int 0 :: rest) h cl sl := by
  subst hp
  exact C.note H fun p e s m args below meth c T locs X hx hby hZ hown _ eT => instNo X hx hZ hown w eT E F (g := mkF m pc L (.ref a :: rest)) rfl rfl (hb hby d)
/-! what writes or makes -/
theorem k_putFld (C : Ctx l R n0 Z own bytes ml nm rt Q K O) {a : Addr} {v : Value} (H : K pc L (v :: .ref a :: rest) h cl sl) {i kk : Nat} {O' n d' C' : String} {ty : FieldType} {old : Value} (w : (Cond.fieldLink own i O' n d').before a0 Z = true) (F : Fld Z h a O' n d' old) (E : Exa Z h a C')
    (Lw : (Cond.lays C' O' n d').before a0 Z = true ∨ ((Cond.laysFinal C' O' n d').before a0 Z = true ∧ own = O' ∧ nm = "<init>")) (wi : (Cond.instantiable C' kk).before a0 Z = true) (hty : parseFieldDescriptor d' = some ty) {v' : Value} (hn : narrow ty v = v') (hf : fits ty v' = true) (g : n0 ≤ a) (d : decode bytes pc = .ok (.putfield i, 3)) (hp : pc + 3 = pc') :
    ∃ h', Wr h h' a (Jvm.RoadKit.slotOf Z O' n d') v' ∧ K pc' L rest h' cl sl := by
  subst hp
  obtain ⟨p, e, s, m, args, below, meth, c, s1, f0, hx, hby, hZ, hown, hml, hnm, hrt, hlk, hK, hO⟩ := C
  obtain ⟨T, locs, X, eT, N, st⟩ := (hK _ _ _ _ _ _).mp H
  obtain ⟨T', h', X', e', W', st'⟩ := putFN X hx hZ hown w Via.refl eT F E (Lw.imp id fun q => ⟨q.1, q.2.1, hnm.trans q.2.2⟩) wi hty hn hf (g := mkF m pc L (v :: .ref a :: rest)) rfl rfl (hb hby d)
  exact ⟨h', W', (hK _ _ _ _ _ _).mpr ⟨T', _, X', e', Fr.snoc X' N g, fun t k => st t (st' t k)⟩⟩
theorem k_newObj (C : Ctx l R n0 Z own bytes ml nm rt Q K O) (H : K pc L S h cl sl) {i n : Nat} {C' : String} (w : (Cond.classLink own i C').before a0 Z = true) (wi : (Cond.instantiable C' n).before a0 Z = true) (wz : (Cond.initialized C').before a0 Z = true) (d : decode bytes pc = .ok (.new i, 3)) (hc : cl + 1 ≤ R.cells) (hl : sl + n ≤ R.slots) (hp : pc + 3 = pc') :
    ∃ h' b, b = h.size ∧ Ext h h' ∧ Exa Z h' b C' ∧ (∀ {O' nm' d' : String} {ty : FieldType}, Laid Z a0 C' O' nm' d' → parseFieldDescriptor d' = some ty → Fld Z h' b O' nm' d' (defaultValue ty)) ∧ K pc' L (.ref b :: S) h' (cl + 1) (sl + n) := by
  subst hp
  obtain ⟨p, e, s, m, args, below, meth, c, s1, f0, hx, hby, hZ, hown, hml, hnm, hrt, hlk, hK, hO⟩ := C
  obtain ⟨T, locs, X, eT, N, st⟩ := (hK _ _ _ _ _ _).mp H
  obtain ⟨T', h', X', e', E', A', D', -, st'⟩ := newO X hx hZ hown w wi wz eT (g := mkF m pc L S) rfl (hb hby d) hc hl
  exact ⟨h', _, rfl, E', A', D', (hK _ _ _ _ _ _).mpr ⟨T', _, X', e', N, fun t k => st t (st' t k)⟩⟩
theorem k_newArr (C : Ctx l R n0 Z own bytes ml nm rt Q K O) {n : Int32} (H : K pc L (.int n :: rest) h cl sl) {aty : ArrayType} (w : (Cond.arrayClass (newarray.typeOf aty)).before a0 Z = true) (d : decode bytes pc = .ok (.newarray aty, 2)) (hn : ¬ n < 0) {cap : Nat} (hcap : n.toNatClampNeg ≤ cap) (hb' : cap * 8 ≤ 536870912) (hc : cl + 1 ≤ R.cells) (hl : sl + cap ≤ R.slots) (hp : pc + 2 = pc') :
    ∃ h' b cA, b = h.size ∧ Ext h h' ∧ Arr Z h' b (newA cA (newarray.typeOf aty) n) (newarray.typeOf aty) ∧ K pc' L (.ref b :: rest) h' (cl + 1) (sl + cap) := by
  subst hp
  obtain ⟨p, e, s, m, args, below, meth, c, s1, f0, hx, hby, hZ, hown, hml, hnm, hrt, hlk, hK, hO⟩ := C
  obtain ⟨T, locs, X, eT, N, st⟩ := (hK _ _ _ _ _ _).mp H
  obtain ⟨T', h', cA, X', e', E', A', st'⟩ := newP X hx hZ w eT (g := mkF m pc L (.int n :: rest)) rfl (hb hby d) rfl hn hcap hb' hc hl
  exact ⟨h', _, cA, rfl, E', A', (hK _ _ _ _ _ _).mpr ⟨T', _, X', e', N, fun t k => st t (st' t k)⟩⟩
/-! the returns -/
theorem k_out_of (C : Ctx l R n0 Z own bytes ml nm rt Q K O) (H : K pc L S h cl sl) {v : Option Value} (hv : rt = none → v = none) (hq : Q v h) (hc : cl ≤ R.cells) (hl : sl ≤ R.slots)
    (f : ∀ (p : Program) (e : Env) (s : State) (m : MethodId) (args : Array Value) (below : List Frame) (meth : Method) (c : Code) (T : State) (locs : List Loc) (fs : List Frame), Stand p l e R s m args below meth c T locs cl sl → p.tables.exec = Jvm.exec → c.code = bytes → meth.sig.returnType = rt →
      (∀ (f : JFrame) (acts : List Action), f.method = m → f.locked = none → f.entered = [] → (doReturn e (T.setTop f) acts v).1 = T.setFrames fs) → Steps p.tables e below (T.setTop (mkF m pc L S)) (T.setFrames fs)) : O := by
  obtain ⟨p, e, s, m, args, below, meth, c, s1, f0, hx, hby, hZ, hown, hml, hnm, hrt, hlk, hK, hO⟩ := C
  obtain ⟨T, locs, X, eT, N, st⟩ := (hK _ _ _ _ _ _).mp H
  obtain ⟨fs, hr, hrun, hended, hW, hsame⟩ := X.leave (v := v) (fun q => hv (hrt.symm.trans q)) hlk
  refine hO ⟨_, _, st _ (f p e s m args below meth c T locs fs X hx hby hrt hr), hrun, hended, v, locs, rfl, ⟨?_, N⟩, ⟨_, rfl⟩, hW, hsame.mono hc hl⟩
  show Q v T.heap
  rw [eT]; exact hq
theorem k_retV (C : Ctx l R n0 Z own bytes ml nm none Q K O) (H : K pc L [] h cl sl) (d : decode bytes pc = .ok (.return_, 1)) (hc : cl ≤ R.cells) (hl : sl ≤ R.slots) (hq : Q none h) : O :=
  k_out_of C H (fun _ => rfl) hq hc hl fun p e s m args below meth c T locs fs X hx hby hrt hr => X.returnOut hx hrt (hb hby d) hr
theorem k_retI (C : Ctx l R n0 Z own bytes ml nm (some .int) Q K O) {z : Int32} (H : K pc L (.int z :: rest) h cl sl) (d : decode bytes pc = .ok (.ireturn, 1)) (hc : cl ≤ R.cells) (hl : sl ≤ R.slots) (hq : Q (some (.int z)) h) : O :=
  k_out_of C H (fun q => nomatch q) hq hc hl fun p e s m args below meth c T locs fs X hx hby hrt hr => retOut X hx hrt (i := .ireturn) rfl (Or.inl ⟨rfl, Or.inl rfl, _, rfl⟩) (hb hby d) hr
theorem k_retJ (C : Ctx l R n0 Z own bytes ml nm (some .long) Q K O) {z : Int64} (H : K pc L (.long z :: rest) h cl sl) (d : decode bytes pc = .ok (.lreturn, 1)) (hc : cl ≤ R.cells) (hl : sl ≤ R.slots) (hq : Q (some (.long z)) h) : O :=
  k_out_of C H (fun q => nomatch q) hq hc hl fun p e s m args below meth c T locs fs X hx hby hrt hr => retOut X hx hrt (i := .lreturn) rfl (Or.inr (Or.inl ⟨rfl, rfl, _, rfl⟩)) (hb hby d) hr
theorem k_retA {t : FieldType} (C : Ctx l R n0 Z own bytes ml nm (some t) Q K O) {v : Value} (H : K pc L (v :: rest) h cl sl) (d : decode bytes pc = .ok (.areturn, 1)) (ht : t.isReference = true) (hv : v.isRef = true) (hc : cl ≤ R.cells) (hl : sl ≤ R.slots) (hq : Q (some v) h) : O :=
  k_out_of C H (fun q => nomatch q) hq hc hl fun p e s m args below meth c T locs fs X hx hby hrt hr => retOut X hx hrt (i := .areturn) (by rcases ref_cases hv with rfl | ⟨a, rfl⟩ <;> cases t <;> first | rfl | cases ht) (Or.inr (Or.inr (Or.inr (Or.inr ⟨rfl, ht, hv⟩)))) (hb hby d) hr
theorem k_retN {t : FieldType} (C : Ctx l R n0 Z own bytes ml nm (some t) Q K O) {z : Int32} (H : K pc L (.int z :: rest) h cl sl) (d : decode bytes pc = .ok (.ireturn, 1)) (ht : t = .boolean ∨ t = .byte ∨ t = .char ∨ t = .short) (hc : cl ≤ R.cells) (hl : sl ≤ R.slots) (hq : Q (some (.int (nar t z))) h) : O :=
  k_out_of C H (fun q => nomatch q) hq hc hl fun p e s m args below meth c T locs fs X hx hby hrt hr => Jvm.RoadKit.retN X hx hrt ht (hb hby d) hr
theorem k_retZ (C : Ctx l R n0 Z own bytes ml nm (some .boolean) Q K O) {z : Int32} (H : K pc L (.int z :: rest) h cl sl) (d : decode bytes pc = .ok (.ireturn, 1)) (hz : z &&& 1 = z) (hc : cl ≤ R.cells) (hl : sl ≤ R.slots) (hq : Q (some (.int z)) h) : O :=
  k_retN C H d (Or.inl rfl) hc hl (by show Q (some (.int (z &&& 1))) h; rw [hz]; exact hq)
/-! the calls -/
theorem k_callSta (C : Ctx l R n0 Z own bytes ml nm rt Q K O) (H : K pc L S h cl sl) {i : Nat} {y : MethodName} {bytes' : ByteArray} {ml' : Nat} {rt' : Option FieldType} {rm : Room} {as : Array Value} {Q' : Qt} (k : Con l y bytes' ml' rt' rm Z as h n0 Q')
    (w1 : (Cond.methodLink own i y).before a0 Z = true) (w2 : (Cond.static y).before a0 Z = true) (w3 : (Cond.initialized y.cls).before a0 Z = true) (w4 : (Cond.code y bytes' ml' rt').before a0 Z = true) (hy : y.cls ≠ "java/lang/invoke/MethodHandle" ∧ y.cls ≠ "java/lang/invoke/VarHandle")
    (d : decode bytes pc = .ok (.invokestatic i, 3)) (hsz : L.size = ml) (argsL rest : List Value) {ps : List FieldType} (hd : parseMethodDescriptor y.desc = some ⟨ps, rt'⟩) (hlen : argsL.length = ps.length) (hS : S = argsL.reverse ++ rest) (has : argsL.toArray = as) (W : Nat) (hW : (rest.map fun v => v.category).sum = W)
    (hfr : rm.frames + 1 ≤ R.frames) (hlo : W + (ml' + 11) + rm.locals ≤ R.locals) (hc : cl + rm.cells ≤ R.cells) (hs : sl + rm.slots ≤ R.slots) (hp : pc + 3 = pc') :
    ∃ v h', Q' v h' ∧ K pc' L (v.toList ++ rest) h' (cl + rm.cells) (sl + rm.slots) := by
  subst hp
  obtain ⟨p, e, s, m, args, below, meth, c, s1, f0, hx, hby, hZ, hown, hml, hnm, hrt, hlk, hK, hO⟩ := C
  obtain ⟨T, locs, X, eT, N, st⟩ := (hK _ _ _ _ _ _).mp H
  obtain ⟨v, _, ⟨T', L', k', n'⟩, -, X', ⟨Lc, ⟨hQ, hF⟩, l', y', z'⟩, st'⟩ := Jvm.LawKit.callS X hx (y := y) hown (mvT hZ w1) (mvT hZ w2) (mvT hZ w3) (mvT hZ w4) hy (backOf (Q := fun v h' L => Q' v h' ∧ Fr n0 L) (W := W) (k []) hZ w4 w3 hfr hlo) (g := mkF m pc L S) rfl (hsz.trans hml.symm) (argsL := argsL) (rest := rest) (lenOf hd hlen) hS (by show 2 * 0 + _ ≤ _; omega) (hb hby d) (fun _ _ => ⟨has, eT, hc, hs⟩)
  dsimp only [Pt.U, Pt.locs, Pt.cells, Pt.slots] at X' l' y' z' st' hQ
  subst l' y' z'
  exact ⟨v, T'.heap, hQ, (hK _ _ _ _ _ _).mpr ⟨T', _, X', rfl, N.app hF, fun t k => st t (st' t k)⟩⟩
theorem k_callCon (C : Ctx l R n0 Z own bytes ml nm rt Q K O) (H : K pc L S h cl sl) {i : Nat} {y : MethodName} {bytes' : ByteArray} {ml' : Nat} {rm : Room} {as : Array Value} {Q' : Qt} (k : Con l y bytes' ml' none rm Z as h n0 Q') (hi : y.name = "<init>")
    (w1 : (Cond.methodLink own i y).before a0 Z = true) (w2 : (Cond.instanceMethod y).before a0 Z = true) (w3 : (Cond.initialized y.cls).before a0 Z = true) (w4 : (Cond.code y bytes' ml' none).before a0 Z = true) (hy : y.cls ≠ "java/lang/invoke/MethodHandle" ∧ y.cls ≠ "java/lang/invoke/VarHandle")
    (d : decode bytes pc = .ok (.invokespecial i, 3)) (hsz : L.size = ml) (a : Addr) (argsL rest : List Value) {ps : List FieldType} (hd : parseMethodDescriptor y.desc = some ⟨ps, none⟩) (hlen : argsL.length = ps.length) (hS : S = argsL.reverse ++ .ref a :: rest) (has : (.ref a :: argsL).toArray = as) (W : Nat) (hW : (rest.map fun v => v.category).sum = W)
    (hfr : rm.frames + 1 ≤ R.frames) (hlo : W + (ml' + 11) + rm.locals ≤ R.locals) (hc : cl + rm.cells ≤ R.cells) (hs : sl + rm.slots ≤ R.slots) (hp : pc + 3 = pc') :
    ∃ v h', Q' v h' ∧ K pc' L (v.toList ++ rest) h' (cl + rm.cells) (sl + rm.slots) := by
  subst hp
  obtain ⟨p, e, s, m, args, below, meth, c, s1, f0, hx, hby, hZ, hown, hml, hnm, hrt, hlk, hK, hO⟩ := C
  obtain ⟨T, locs, X, eT, N, st⟩ := (hK _ _ _ _ _ _).mp H
  obtain ⟨v, _, ⟨T', L', k', n'⟩, -, X', ⟨Lc, ⟨hQ, hF⟩, l', y', z'⟩, st'⟩ := X.specialBack hx (y := y) hi hown (mvT hZ w1) (mvT hZ w2) (mvT hZ w4) hy (backOf (Q := fun v h' L => Q' v h' ∧ Fr n0 L) (W := W) (k []) hZ w4 w3 hfr hlo) (g := mkF m pc L S) rfl (hsz.trans hml.symm) (Steps.refl _) (a := a) (argsL := argsL) (rest := rest) (lenOf hd hlen) hS (by show 2 * 0 + _ ≤ _; omega) (hb hby d) (fun _ _ => ⟨has, eT, hc, hs⟩)
  dsimp only [Pt.U, Pt.locs, Pt.cells, Pt.slots] at X' l' y' z' st' hQ
  subst l' y' z'
  exact ⟨v, T'.heap, hQ, (hK _ _ _ _ _ _).mpr ⟨T', _, X', rfl, N.app hF, fun t k => st t (st'.trans k)⟩⟩
theorem k_callVir (C : Ctx l R n0 Z own bytes ml nm rt Q K O) (H : K pc L S h cl sl) {i : Nat} {y : MethodName} {bytes' : ByteArray} {ml' : Nat} {rt' : Option FieldType} {rm : Room} {as : Array Value} {Q' : Qt} (k : Con l y bytes' ml' rt' rm Z as h n0 Q') {a : Addr} {C' : String} (E : Exa Z h a C')
    (w1 : (Cond.methodLink own i y).before a0 Z = true) (w2 : (Cond.declares y).before a0 Z = true) (w3 : (Cond.selects C' y y).before a0 Z = true) (w4 : (Cond.instanceMethod y).before a0 Z = true) (w5 : (Cond.initialized y.cls).before a0 Z = true) (w6 : (Cond.code y bytes' ml' rt').before a0 Z = true) (hy : y.cls ≠ "java/lang/invoke/MethodHandle" ∧ y.cls ≠ "java/lang/invoke/VarHandle")
    (d : decode bytes pc = .ok (.invokevirtual i, 3)) (hsz : L.size = ml) (argsL rest : List Value) {ps : List FieldType} {rt2 : Option FieldType} (hd : parseMethodDescriptor y.desc = some ⟨ps, rt2⟩) (hlen : argsL.length = ps.length) (hS : S = argsL.reverse ++ .ref a :: rest) (has : (.ref a :: argsL).toArray = as) (W : Nat) (hW : (rest.map fun v => v.category).sum = W)
    (hfr : rm.frames + 1 ≤ R.frames) (hlo : W + (ml' + 11) + rm.locals ≤ R.locals) (hc : cl + rm.cells ≤ R.cells) (hs : sl + rm.slots ≤ R.slots) (hp : pc + 3 = pc') :
    ∃ v h', Q' v h' ∧ K pc' L (v.toList ++ rest) h' (cl + rm.cells) (sl + rm.slots) := by
  subst hp
  obtain ⟨p, e, s, m, args, below, meth, c, s1, f0, hx, hby, hZ, hown, hml, hnm, hrt, hlk, hK, hO⟩ := C
  obtain ⟨T, locs, X, eT, N, st⟩ := (hK _ _ _ _ _ _).mp H
  obtain ⟨cq, kq, qa, qb, qc⟩ := isOf hZ eT E
  obtain ⟨v, _, ⟨T', L', k', n'⟩, -, X', ⟨Lc, ⟨hQ, hF⟩, l', y', z'⟩, st'⟩ := X.virtualBack hx (y := y) (z := y) hown (mvT hZ w1) (mvT hZ w2) (notFace_of_selects (args := #[]) (mvT hZ w3)) (mvT hZ w3) (mvT hZ w4) hy (backOf (Q := fun v h' L => Q' v h' ∧ Fr n0 L) (W := W) (k []) hZ w6 w5 hfr hlo) qa qc (g := mkF m pc L S) rfl (hsz.trans hml.symm) (Steps.refl _) (argsL := argsL) (rest := rest) (lenOf hd hlen) hS (by show 2 * 0 + _ ≤ _; omega) (hb hby d) (fun _ _ => ⟨has, eT, hc, hs⟩)
  dsimp only [Pt.U, Pt.locs, Pt.cells, Pt.slots] at X' l' y' z' st' hQ
  subst l' y' z'
  exact ⟨v, T'.heap, hQ, (hK _ _ _ _ _ _).mpr ⟨T', _, X', rfl, N.app hF, fun t k => st t (st'.trans k)⟩⟩
end Steps
/-- a class whose only superclass is one without a superclass is no subclass of a third, ordinary one -/
theorem noSub {Z : State} {a0 : Array Value} {C S K : String} {n : Nat} (w : (Cond.superclass C S).before a0 Z = true) (wo : (Cond.noSuperclass S).before a0 Z = true) (wk : (Cond.instantiable K n).before a0 Z = true) (h1 : S ≠ K) (h2 : C ≠ K) :
    ∃ c t, Z.vm.findClass C = some c ∧ Z.vm.findClass K = some t ∧ Z.vm.assignable c t = false := by
  obtain ⟨t, kt, g1, g2, g3, g4, -⟩ := Cond.instantiable_spec wk
  obtain ⟨co, ko, o1, o2, o3, -, -⟩ := Cond.noSuperclass_spec wo
  have nsO : NS Z S K := ⟨co, t, o1, g1, fun fuel => by
    have ne := ids_ne o1 g1 h1
    cases fuel with
    | zero => rfl
    | succ f => simp [Vm.isSubclassAux, ne, o2, o3]⟩
  obtain ⟨c, t', h0, g0, n3⟩ := NS.step w nsO h2
  cases g1.symm.trans g0
  obtain ⟨p, k, kp, q1, q2, q3, q4, q5, -, q7⟩ := Cond.superclass_spec h0 w
  have ne := ids_ne h0 g0 h2
  have gi : kt.isInterface = false := by
    cases hi : kt.isInterface with
    | false => rfl
    | true => simp [hi] at g4
  refine ⟨c, t, h0, g1, ?_⟩
  show Z.vm.assignableAux (255 + 1) c t = false
  simp [Vm.assignableAux, ne, q2, g2, q5, g3, gi, Vm.isSubclass, n3]
/-! arrays of ints, bytes, chars: what lies at each place -/
def Ari (Z : State) (h : Heap) (a : Addr) (ty : FieldType) (n : Nat) (f : Nat → Int32) : Prop := ∃ c : Cell, Arr Z h a c ty ∧ c.slots.size = n ∧ n < 2 ^ 31 ∧ ∀ i, i < n → c.slots[i]? = some (.int (f i))
section Arrays
variable {Z : State} {h h' : Heap} {a b : Addr} {ty : FieldType} {n : Nat} {f : Nat → Int32} {sl : Nat} {v : Value} {ws : List Addr}
theorem Ari.lt (F : Ari Z h a ty n f) : a < h.size := by obtain ⟨c, A, -⟩ := F; exact A.lt
theorem Ari.ext (F : Ari Z h a ty n f) (E : Ext h h') : Ari Z h' a ty n f := by obtain ⟨c, A, r⟩ := F; exact ⟨c, A.ext E, r⟩
theorem Ari.other (F : Ari Z h b ty n f) (W : Wr h h' a sl v) (q : b ≠ a) : Ari Z h' b ty n f := by obtain ⟨c, A, r⟩ := F; exact ⟨c, A.other W q, r⟩
theorem Ari.keep (F : Ari Z h a ty n f) (K : Keep h h' ws) (q : a ∉ ws) : Ari Z h' a ty n f := by obtain ⟨c, A, r⟩ := F; exact ⟨c, ⟨K.2.1 a c A.1 q, A.2⟩, r⟩
theorem Ari.congr {g : Nat → Int32} (F : Ari Z h a ty n f) (q : ∀ i, i < n → f i = g i) : Ari Z h a ty n g := by obtain ⟨c, A, r1, r2, r3⟩ := F; exact ⟨c, A, r1, r2, fun i hi => by rw [← q i hi]; exact r3 i hi⟩
theorem Ari.set (F : Ari Z h a ty n f) {i : Nat} {x : Int32} (W : Wr h h' a i (.int x)) : Ari Z h' a ty n (fun k => if k = i then x else f k) := by
  obtain ⟨c, A, r1, r2, r3⟩ := F
  refine ⟨c.setSlot i (.int x), A.same W, by rw [sz_set]; exact r1, r2, fun k hk => ?_⟩
  by_cases q : k = i
  · subst q
    simp [Cell.setSlot, r1, hk]
  · have : i ≠ k := fun z => q z.symm
    simp [Cell.setSlot, q, this, Array.getElem?_setIfInBounds_ne this, r3 k hk]
theorem addN {x y : Int32} {i j : Nat} (hx : x.toInt = i) (hy : y.toInt = j) (h : i + j < 2147483648) : (x + y).toInt = ((i + j : Nat) : Int) := by
  have a := c_iadd x y
  have r := rng32 (x + y)
  omega
theorem toNatClampNeg_of {j : Int32} {i : Nat} (hj : j.toInt = i) : j.toNatClampNeg = i := by rw [Int32.toNatClampNeg, hj]; rfl
theorem inb {j : Int32} {i m : Nat} (hj : j.toInt = i) (hi : i < m) : ¬ (j < 0 ∨ m ≤ j.toNatClampNeg) := by
  rw [toNatClampNeg_of hj, Int32.lt_iff_toInt_lt, hj]
  simp; omega
theorem Ari.ofNew {cA : ClassId} {z : Int32} (A : Arr Z h a (newA cA ty z) ty) (hz : z.toInt = n) (hd : defaultValue ty = .int 0) : Ari Z h a ty n (fun _ => 0) := by
  have hn : z.toNatClampNeg = n := toNatClampNeg_of hz
  refine ⟨_, A, by rw [sz_new, hn], by have := z.toInt_lt; omega, fun i hi => ?_⟩
  simp [newA, hn, hi, hd]
end Arrays
section ArrSteps
variable {l : Launch} {R : Room} {n0 : Nat} {Z : State} {own : String} {bytes : ByteArray} {ml : Nat} {nm : String} {rt : Option FieldType} {Q : Qt} {K : Kt} {O : Prop} {a0 : Array Value} {pc : Nat} {L : Array Slot} {S rest : List Value} {h : Heap} {cl sl : Nat} {pc' : Nat}
theorem k_arrlen (C : Ctx l R n0 Z own bytes ml nm rt Q K O) {a : Addr} (H : K pc L (.ref a :: rest) h cl sl) {ty : FieldType} {n : Nat} {f : Nat → Int32} (F : Ari Z h a ty n f) (d : decode bytes pc = .ok (.arraylength, 1)) (hp : pc + 1 = pc') : K pc' L (.int n.toInt32 :: rest) h cl sl := by
  subst hp
  obtain ⟨c', A, r1, r2, r3⟩ := F
  exact C.pure H fun p e s m args below meth c T locs X hx hby hZ hown eT t k => X.arraylength hx (by rw [eT]; exact A.1) (State.isArrayOf_alike hZ.alike A.2.1) (g := mkF m pc L (.ref a :: rest)) rfl rfl (hb hby d) t (by rw [r1]; exact k)

theorem k_iaload (C : Ctx l R n0 Z own bytes ml nm rt Q K O) {a : Addr} {j : Int32} (H : K pc L (.int j :: .ref a :: rest) h cl sl) {n : Nat} {f : Nat → Int32} (F : Ari Z h a .int n f) {i : Nat} (hj : j.toInt = i) (hi : i < n) (d : decode bytes pc = .ok (.iaload, 1)) (hp : pc + 1 = pc') : K pc' L (.int (f i) :: rest) h cl sl := by
  subst hp
  obtain ⟨c', A, r1, r2, r3⟩ := F
  exact C.pure H fun p e s m args below meth c T locs X hx hby hZ hown eT t k => X.iaload hx (by rw [eT]; exact A.1) (State.isArrayOf_alike hZ.alike A.2.1) A.2.2 (inb hj (r1.symm ▸ hi)) (by rw [toNatClampNeg_of hj]; exact r3 i hi) (g := mkF m pc L (.int j :: .ref a :: rest)) rfl rfl (hb hby d) t k
theorem k_baload (C : Ctx l R n0 Z own bytes ml nm rt Q K O) {a : Addr} {j : Int32} (H : K pc L (.int j :: .ref a :: rest) h cl sl) {n : Nat} {f : Nat → Int32} (F : Ari Z h a .byte n f) {i : Nat} (hj : j.toInt = i) (hi : i < n) (d : decode bytes pc = .ok (.baload, 1)) (hp : pc + 1 = pc') : K pc' L (.int (f i) :: rest) h cl sl := by
  subst hp
  obtain ⟨c', A, r1, r2, r3⟩ := F
  exact C.pure H fun p e s m args below meth c T locs X hx hby hZ hown eT t k => X.baloadBytes hx (by rw [eT]; exact A.1) (State.isArrayOf_alike hZ.alike A.2.1) A.2.2 (inb hj (r1.symm ▸ hi)) (by rw [toNatClampNeg_of hj]; exact r3 i hi) (g := mkF m pc L (.int j :: .ref a :: rest)) rfl rfl (hb hby d) t k
theorem k_caload (C : Ctx l R n0 Z own bytes ml nm rt Q K O) {a : Addr} {j : Int32} (H : K pc L (.int j :: .ref a :: rest) h cl sl) {n : Nat} {f : Nat → Int32} (F : Ari Z h a .char n f) {i : Nat} (hj : j.toInt = i) (hi : i < n) (d : decode bytes pc = .ok (.caload, 1)) (hp : pc + 1 = pc') : K pc' L (.int (f i) :: rest) h cl sl := by
  subst hp
  obtain ⟨c', A, r1, r2, r3⟩ := F
  exact C.pure H fun p e s m args below meth c T locs X hx hby hZ hown eT t k => X.caload hx (by rw [eT]; exact A.1) (State.isArrayOf_alike hZ.alike A.2.1) A.2.2 (inb hj (r1.symm ▸ hi)) (by rw [toNatClampNeg_of hj]; exact r3 i hi) (g := mkF m pc L (.int j :: .ref a :: rest)) rfl rfl (hb hby d) t k
theorem k_iastore (C : Ctx l R n0 Z own bytes ml nm rt Q K O) {a : Addr} {j x : Int32} (H : K pc L (.int x :: .int j :: .ref a :: rest) h cl sl) {n : Nat} {f : Nat → Int32} (F : Ari Z h a .int n f) {i : Nat} (hj : j.toInt = i) (hi : i < n) (g : n0 ≤ a) (d : decode bytes pc = .ok (.iastore, 1)) (hp : pc + 1 = pc') : ∃ h', Wr h h' a i (.int (x)) ∧ Ari Z h' a .int n (fun k => if k = i then x else f k) ∧ K pc' L rest h' cl sl := by
  subst hp
  have F0 := F
  obtain ⟨c', A, r1, r2, r3⟩ := F
  obtain ⟨p, e, s, m, args, below, meth, c, s1, f0, hx, hby, hZ, hown, hml, hnm, hrt, hlk, hK, hO⟩ := C
  obtain ⟨T, locs, X, eT, N, st⟩ := (hK _ _ _ _ _ _).mp H
  obtain ⟨T', h', X', e', W', st'⟩ := stI X hx hZ eT A (inb hj (r1.symm ▸ hi)) (g := mkF m pc L (.int x :: .int j :: .ref a :: rest)) rfl rfl (hb hby d)
  have N' := Fr.snoc X' N g
  rw [toNatClampNeg_of hj] at W'
  exact ⟨h', W', F0.set W', (hK _ _ _ _ _ _).mpr ⟨T', _, X', e', N', fun t k => st t (st' t k)⟩⟩
theorem k_bastore (C : Ctx l R n0 Z own bytes ml nm rt Q K O) {a : Addr} {j x : Int32} (H : K pc L (.int x :: .int j :: .ref a :: rest) h cl sl) {n : Nat} {f : Nat → Int32} (F : Ari Z h a .byte n f) {i : Nat} (hj : j.toInt = i) (hi : i < n) (g : n0 ≤ a) (d : decode bytes pc = .ok (.bastore, 1)) (hp : pc + 1 = pc') : ∃ h', Wr h h' a i (.int (nar .byte x)) ∧ Ari Z h' a .byte n (fun k => if k = i then nar .byte x else f k) ∧ K pc' L rest h' cl sl := by
  subst hp
  have F0 := F
  obtain ⟨c', A, r1, r2, r3⟩ := F
  obtain ⟨p, e, s, m, args, below, meth, c, s1, f0, hx, hby, hZ, hown, hml, hnm, hrt, hlk, hK, hO⟩ := C
  obtain ⟨T, locs, X, eT, N, st⟩ := (hK _ _ _ _ _ _).mp H
  obtain ⟨T', h', X', e', W', st'⟩ := stB X hx hZ eT A (inb hj (r1.symm ▸ hi)) (g := mkF m pc L (.int x :: .int j :: .ref a :: rest)) rfl rfl (hb hby d)
  have N' := Fr.snoc X' N g
  rw [toNatClampNeg_of hj] at W'
  exact ⟨h', W', F0.set W', (hK _ _ _ _ _ _).mpr ⟨T', _, X', e', N', fun t k => st t (st' t k)⟩⟩
theorem k_castore (C : Ctx l R n0 Z own bytes ml nm rt Q K O) {a : Addr} {j x : Int32} (H : K pc L (.int x :: .int j :: .ref a :: rest) h cl sl) {n : Nat} {f : Nat → Int32} (F : Ari Z h a .char n f) {i : Nat} (hj : j.toInt = i) (hi : i < n) (g : n0 ≤ a) (d : decode bytes pc = .ok (.castore, 1)) (hp : pc + 1 = pc') : ∃ h', Wr h h' a i (.int (nar .char x)) ∧ Ari Z h' a .char n (fun k => if k = i then nar .char x else f k) ∧ K pc' L rest h' cl sl := by
  subst hp
  have F0 := F
  obtain ⟨c', A, r1, r2, r3⟩ := F
  obtain ⟨p, e, s, m, args, below, meth, c, s1, f0, hx, hby, hZ, hown, hml, hnm, hrt, hlk, hK, hO⟩ := C
  obtain ⟨T, locs, X, eT, N, st⟩ := (hK _ _ _ _ _ _).mp H
  obtain ⟨T', h', X', e', W', st'⟩ := stC X hx hZ eT A (inb hj (r1.symm ▸ hi)) (g := mkF m pc L (.int x :: .int j :: .ref a :: rest)) rfl rfl (hb hby d)
  have N' := Fr.snoc X' N g
  rw [toNatClampNeg_of hj] at W'
  exact ⟨h', W', F0.set W', (hK _ _ _ _ _ _).mpr ⟨T', _, X', e', N', fun t k => st t (st' t k)⟩⟩
end ArrSteps
section DSteps
variable {l : Launch} {R : Room} {n0 : Nat} {Z : State} {own : String} {bytes : ByteArray} {ml : Nat} {nm : String} {rt : Option FieldType} {Q : Qt} {K : Kt} {O : Prop} {a0 : Array Value} {pc : Nat} {L : Array Slot} {S rest : List Value} {h : Heap} {cl sl : Nat} {pc' : Nat}
theorem k_dloadN (C : Ctx l R n0 Z own bytes ml nm rt Q K O) {k : Fin 4} {v : UInt64} (H : K pc L (S) h cl sl) (d : decode bytes pc = .ok (.dload_n k, 1)) (hl : L[k.val]? = some (.val (.double v))) (hp : pc + 1 = pc') : K pc' L ((.double v) :: S) h cl sl := by
  subst hp
  exact C.pure H fun p e s m args below meth c T locs X hx hby _ _ _ t k => XS.dloadN X.here hx rfl (hb hby d) hl k
theorem k_dload (C : Ctx l R n0 Z own bytes ml nm rt Q K O) {k : Nat} {v : UInt64} (H : K pc L (S) h cl sl) (d : decode bytes pc = .ok (.dload k, 2)) (hl : L[k]? = some (.val (.double v))) (hp : pc + 2 = pc') : K pc' L ((.double v) :: S) h cl sl := by
  subst hp
  exact C.pure H fun p e s m args below meth c T locs X hx hby _ _ _ t k => XS.dload X.here hx rfl (hb hby d) hl k
theorem k_dstoreN (C : Ctx l R n0 Z own bytes ml nm rt Q K O) {k : Fin 4} {v : UInt64} {L' : Array Slot} (H : K pc L ((.double v) :: rest) h cl sl) (d : decode bytes pc = .ok (.dstore_n k, 1)) (hl : storeLocals L k.val (.double v) = some L') (hp : pc + 1 = pc') : K pc' L' (rest) h cl sl := by
  subst hp
  exact C.pure H fun p e s m args below meth c T locs X hx hby _ _ _ t k => XS.dstoreN X.here hx rfl (hb hby d) rfl hl k
theorem k_dstore (C : Ctx l R n0 Z own bytes ml nm rt Q K O) {k : Nat} {v : UInt64} {L' : Array Slot} (H : K pc L ((.double v) :: rest) h cl sl) (d : decode bytes pc = .ok (.dstore k, 2)) (hl : storeLocals L k (.double v) = some L') (hp : pc + 2 = pc') : K pc' L' (rest) h cl sl := by
  subst hp
  exact C.pure H fun p e s m args below meth c T locs X hx hby _ _ _ t k => XS.dstore X.here hx rfl (hb hby d) rfl hl k
theorem k_dconst0 (C : Ctx l R n0 Z own bytes ml nm rt Q K O) {v : UInt64} (H : K pc L (S) h cl sl) (d : decode bytes pc = .ok (.dconst 0, 1)) (hv : FP.dconst0 = v) (hp : pc + 1 = pc') : K pc' L (.double v :: S) h cl sl := by
  subst hp
  exact C.pure H fun p e s m args below meth c T locs X hx hby _ _ _ t k => XS.dconst0 X.here hx rfl (hb hby d) hv k
theorem k_dconst1 (C : Ctx l R n0 Z own bytes ml nm rt Q K O) {v : UInt64} (H : K pc L (S) h cl sl) (d : decode bytes pc = .ok (.dconst 1, 1)) (hv : FP.dconst1 = v) (hp : pc + 1 = pc') : K pc' L (.double v :: S) h cl sl := by
  subst hp
  exact C.pure H fun p e s m args below meth c T locs X hx hby _ _ _ t k => XS.dconst1 X.here hx rfl (hb hby d) hv k
theorem k_i2d (C : Ctx l R n0 Z own bytes ml nm rt Q K O) {x : Int32} (H : K pc L (.int x :: rest) h cl sl) (d : decode bytes pc = .ok (.i2d, 1))  (hp : pc + 1 = pc') : K pc' L (.double (FP.i2d x) :: rest) h cl sl := by
  subst hp
  exact C.pure H fun p e s m args below meth c T locs X hx hby _ _ _ t k => XS.i2dS X.here hx rfl (hb hby d) rfl rfl k
theorem k_l2d (C : Ctx l R n0 Z own bytes ml nm rt Q K O) {x : Int64} (H : K pc L (.long x :: rest) h cl sl) (d : decode bytes pc = .ok (.l2d, 1))  (hp : pc + 1 = pc') : K pc' L (.double (FP.l2d x) :: rest) h cl sl := by
  subst hp
  exact C.pure H fun p e s m args below meth c T locs X hx hby _ _ _ t k => XS.l2dS X.here hx rfl (hb hby d) rfl rfl k
theorem k_d2l (C : Ctx l R n0 Z own bytes ml nm rt Q K O) {x : UInt64} (H : K pc L (.double x :: rest) h cl sl) (d : decode bytes pc = .ok (.d2l, 1))  (hp : pc + 1 = pc') : K pc' L (.long (FP.d2l x) :: rest) h cl sl := by
  subst hp
  exact C.pure H fun p e s m args below meth c T locs X hx hby _ _ _ t k => XS.d2lS X.here hx rfl (hb hby d) rfl rfl k
theorem k_dmul (C : Ctx l R n0 Z own bytes ml nm rt Q K O) {x y : UInt64} (H : K pc L (.double y :: .double x :: rest) h cl sl) (d : decode bytes pc = .ok (.dmul, 1)) (hn : Jvm.Free.Fl.NoNaN64 (FP.dmul x y)) (hp : pc + 1 = pc') : K pc' L (.double (FP.dmul x y) :: rest) h cl sl := by
  subst hp
  exact C.pure H fun p e s m args below meth c T locs X hx hby _ _ _ t k => XS.dmulS X.here hx rfl (hb hby d) rfl hn rfl k
theorem k_ddiv (C : Ctx l R n0 Z own bytes ml nm rt Q K O) {x y : UInt64} (H : K pc L (.double y :: .double x :: rest) h cl sl) (d : decode bytes pc = .ok (.ddiv, 1)) (hn : Jvm.Free.Fl.NoNaN64 (FP.ddiv x y)) (hp : pc + 1 = pc') : K pc' L (.double (FP.ddiv x y) :: rest) h cl sl := by
  subst hp
  exact C.pure H fun p e s m args below meth c T locs X hx hby _ _ _ t k => XS.ddivS X.here hx rfl (hb hby d) rfl hn rfl k
theorem k_dcmp (C : Ctx l R n0 Z own bytes ml nm rt Q K O) {o : CmpOp} {x y : UInt64} (H : K pc L (.double y :: .double x :: rest) h cl sl) (d : decode bytes pc = .ok (.dcmp o, 1))  (hp : pc + 1 = pc') : K pc' L (.int (cmpValue (FP.dcmp x y) o) :: rest) h cl sl := by
  subst hp
  exact C.pure H fun p e s m args below meth c T locs X hx hby _ _ _ t k => XS.dcmpS X.here hx rfl (hb hby d) rfl rfl k
theorem k_ldcD (C : Ctx l R n0 Z own bytes ml nm rt Q K O) (H : K pc L S h cl sl) {i : Nat} {v : UInt64} (w : (Cond.constantDouble own i v).before a0 Z = true) (d : decode bytes pc = .ok (.ldc2_w i, 3)) (hp : pc + 3 = pc') : K pc' L (.double v :: S) h cl sl := by
  subst hp
  exact C.pure H fun p e s m args below meth c T locs X hx hby hZ hown _ t k => X.ldc2DoubleC hx hown (mvT hZ w) (g := mkF m pc L S) rfl (hb hby d) t k
theorem k_retD (C : Ctx l R n0 Z own bytes ml nm (some .double) Q K O) {z : UInt64} (H : K pc L (.double z :: rest) h cl sl) (d : decode bytes pc = .ok (.dreturn, 1)) (hc : cl ≤ R.cells) (hl : sl ≤ R.slots) (hq : Q (some (.double z)) h) : O :=
  k_out_of C H (fun q => nomatch q) hq hc hl fun p e s m args below meth c T locs fs X hx hby hrt hr => retOut X hx hrt (i := .dreturn) rfl (Or.inr (Or.inr (Or.inl ⟨rfl, rfl, _, rfl⟩))) (hb hby d) hr
end DSteps

/-! bodies that may intern a String constant: the wide end -/
def OutW (p : Program) (e : Env) (below : List Frame) (s s1 : State) (f0 : JFrame) (R : Room) (n0 : Nat) (Q : Qt) : Prop :=
  ∃ s2 o, Steps p.tables e below (s1.setTop f0) s2 ∧ s2.status = .running ∧ Ended s2 below o ∧ ∃ v L, o = .returned v ∧ (Q v s2.heap ∧ Fr n0 L) ∧ ReturnedEndW s o s2 L R.cells R.slots
def CtxW (l : Launch) (R : Room) (n0 : Nat) (Z : State) (own : String) (bytes : ByteArray) (ml : Nat) (nm : String) (rt : Option FieldType) (Q : Qt) (K : Kt) (O : Prop) : Prop :=
  ∃ (p : Program) (e : Env) (s : State) (m : MethodId) (args : Array Value) (below : List Frame) (meth : Method) (c : Code) (s1 : State) (f0 : JFrame),
    p.tables.exec = Jvm.exec ∧ c.code = bytes ∧ Z.Warmed39 s.vm ∧ s.vm.findClass own = some m.cls ∧ c.maxLocals = ml ∧ meth.name = nm ∧ meth.sig.returnType = rt ∧ meth.locks = false ∧
    (∀ pc L S h cl sl, K pc L S h cl sl ↔ ∃ T locs, Stand p l e R s m args below meth c T locs cl sl ∧ T.heap = h ∧ Fr n0 locs ∧ ∀ t, Steps p.tables e below (T.setTop (mkF m pc L S)) t → Steps p.tables e below (s1.setTop f0) t) ∧
    (OutW p e below s s1 f0 R n0 Q → O)
def ConW (l : Launch) (y : MethodName) (bytes : ByteArray) (ml : Nat) (rt : Option FieldType) (rm : Room) (Z : State) (as : Array Value) (h : Heap) (n0 : Nat) (Q : Qt) : Prop :=
  ∀ ws : List Jvm.Cond, MetFree l y (head1 (Jvm.Cond.code y bytes ml rt :: ws) rm) (fun a U => a = as ∧ Z.Warmed39 U.vm ∧ U.heap = h) (fun _ _ _ _ _ => True) (fun _ U o U' => ∃ v L, o = .returned v ∧ (Q v U'.heap ∧ Fr n0 L) ∧ ReturnedEndW U o U' L rm.cells rm.slots)
theorem ConW.enter {l : Launch} {y : MethodName} {bytes : ByteArray} {ml : Nat} {rt : Option FieldType} {rm : Room} {Z : State} {as : Array Value} {h : Heap} {n0 : Nat} {Q : Qt} {L0 : Array Slot} (hpl : plainFor y = true) (hef : ∀ m, entryFrame m as ml = mkF m 0 L0 [])
    (hb : ∀ (K : Kt) (O : Prop), CtxW l rm n0 Z y.cls bytes ml y.name rt Q K O → K 0 L0 [] h 0 0 → O) : ConW l y bytes ml rt rm Z as h n0 Q := by
  intro ws
  refine MetFree.of_bodySF hpl hisR ?_
  intro p e s m args below meth c s1 Bd hml0 hP hK
  obtain ⟨rfl, hZ, hh⟩ := hP
  have X0 : Stand p l e rm s m args below meth c s1 [] 0 0 := Stand.of_body Bd
  have e0 : s1.heap = h := by rw [← hh, Bd.state]; rfl
  exact hb (fun pc L S h cl sl => ∃ T locs, Stand p l e rm s m args below meth c T locs cl sl ∧ T.heap = h ∧ Fr n0 locs ∧ ∀ t, Steps p.tables e below (T.setTop (mkF m pc L S)) t → Steps p.tables e below (s1.setTop (entryFrame m args ml)) t)
    (OutW p e below s s1 (entryFrame m args ml) rm n0 Q)
    ⟨p, e, s, m, args, below, meth, c, s1, entryFrame m args ml, Bd.exec, Bd.bytes, hZ, findClass_of_methodNamed Bd.named, hml0, (name_of_methodNamed Bd.named Bd.method).1, Bd.returns, Bd.notSynchronized, fun _ _ _ _ _ _ => Iff.rfl, id⟩
    ⟨s1, [], X0, e0, Fr.nil n0, fun t k => castTop (hef m) k⟩
theorem wideEnd {s s2 : State} {o : Outcome} {vm1 : Vm} {k1 : Nat} {L : List Loc} {k n : Nat} (hS : s.Since vm1 k1) (hn : k1 ≤ s2.heap.size) (E : ReturnedEndW (s.setVm vm1) o s2 L k n) : ReturnedEndW s o s2 L k n :=
  have q := hS.trans (n₂ := s2.heap.size) ⟨E.2.1, E.2.2.1⟩ hn
  ⟨E.1, q.1, q.2, E.2.2.2.setVm s.vm⟩
section WideSteps
variable {l : Launch} {R : Room} {n0 : Nat} {Z : State} {own : String} {bytes : ByteArray} {ml : Nat} {nm : String} {rt : Option FieldType} {Q : Qt} {K : Kt} {O : Prop} {a0 : Array Value} {pc : Nat} {L : Array Slot} {S rest : List Value} {h : Heap} {cl sl : Nat} {pc' : Nat}
theorem CtxW.narrow (C : CtxW l R n0 Z own bytes ml nm rt Q K O) : Ctx l R n0 Z own bytes ml nm rt Q K O := by
  obtain ⟨p, e, s, m, args, below, meth, c, s1, f0, hx, hby, hZ, hown, hml, hnm, hrt, hlk, hK, hO⟩ := C
  exact ⟨p, e, s, m, args, below, meth, c, s1, f0, hx, hby, hZ, hown, hml, hnm, hrt, hlk, hK, fun ⟨s2, o, q1, q2, q3, v, L, q4, q5, q6⟩ => hO ⟨s2, o, q1, q2, q3, v, L, q4, q5, ReturnedEndW.of_narrow q6.1 q6.2.1 q6.2.2⟩⟩
theorem k_ldcStr (C : CtxW l R n0 Z own bytes ml nm rt Q K O) (H : K pc L S h cl sl) {i : Nat} {text : String} (w : (Cond.stringLink own i text).before a0 Z = true) (wS : ∀ a ∈ Bundle.stringAtoms, a.before a0 Z = true) (d : decode bytes pc = .ok (.ldc i, 2)) {n : Nat} (hn : 4 * text.toList.length ≤ n) (hbig : n ≤ 536870912) (hc : cl + 2 ≤ R.cells) (hl : sl + (n + 4) ≤ R.slots) (hp : pc + 2 = pc') :
    ∃ (K' : Kt) (h' : Heap) (a : Addr), Ext h h' ∧ CtxW l R n0 Z own bytes ml nm rt (fun v g => Q v g ∧ h'.size ≤ g.size) K' O ∧ K' pc' L (.ref a :: S) h' (cl + 2) (sl + (n + 4)) := by
  subst hp
  obtain ⟨p, e, s, m, args, below, meth, c, s1, f0, hx, hby, hZ, hown, hml, hnm, hrt, hlk, hK, hO⟩ := C
  obtain ⟨T, locs, X, eT, N, st⟩ := (hK _ _ _ _ _ _).mp H
  have X0 : Stand p l e R (s.setVm s.vm) m args below meth c T locs cl sl := X
  obtain ⟨a, T', h', k1, X', e', E', hS', hk', hZ', hown', st'⟩ := ldcS X0 hx hZ hown w wS eT ((State.WarmedH.refl s).since 0) (Nat.zero_le _) (g := mkF m pc L S) rfl (hb hby d) hn hbig hc hl
  refine ⟨fun pc L S h cl sl => ∃ U locs, Stand p l e R (s.setVm T'.vm) m args below meth c U locs cl sl ∧ U.heap = h ∧ Fr n0 locs ∧ ∀ t, Steps p.tables e below (U.setTop (mkF m pc L S)) t → Steps p.tables e below (s1.setTop f0) t, h', a, E',
    ⟨p, e, s.setVm T'.vm, m, args, below, meth, c, s1, f0, hx, hby, hZ', hown', hml, hnm, hrt, hlk, fun _ _ _ _ _ _ => Iff.rfl, fun ⟨s2, o, q1, q2, q3, v, L, q4, q5, q6⟩ => hO ⟨s2, o, q1, q2, q3, v, L, q4, ⟨q5.1.1, q5.2⟩, wideEnd hS' (Nat.le_trans hk' q5.1.2) q6⟩⟩,
    ⟨T', locs, X', e', N, fun t k => st t (st' t k)⟩⟩
theorem k_callConW (C : CtxW l R n0 Z own bytes ml nm rt Q K O) (H : K pc L S h cl sl) {i : Nat} {y : MethodName} {bytes' : ByteArray} {ml' : Nat} {rm : Room} {as : Array Value} {Q' : Qt} (k : ConW l y bytes' ml' none rm Z as h n0 Q') (hi : y.name = "<init>")
    (w1 : (Cond.methodLink own i y).before a0 Z = true) (w2 : (Cond.instanceMethod y).before a0 Z = true) (w3 : (Cond.initialized y.cls).before a0 Z = true) (w4 : (Cond.code y bytes' ml' none).before a0 Z = true) (hy : y.cls ≠ "java/lang/invoke/MethodHandle" ∧ y.cls ≠ "java/lang/invoke/VarHandle")
    (d : decode bytes pc = .ok (.invokespecial i, 3)) (hsz : L.size = ml) (a : Addr) (argsL rest : List Value) {ps : List FieldType} (hd : parseMethodDescriptor y.desc = some ⟨ps, none⟩) (hlen : argsL.length = ps.length) (hS : S = argsL.reverse ++ .ref a :: rest) (has : (.ref a :: argsL).toArray = as) (W : Nat) (hW : (rest.map fun v => v.category).sum = W)
    (hfr : rm.frames + 1 ≤ R.frames) (hlo : W + (ml' + 11) + rm.locals ≤ R.locals) (hc : cl + rm.cells ≤ R.cells) (hs : sl + rm.slots ≤ R.slots) (hp : pc + 3 = pc') :
    ∃ (v : Option Value) (K' : Kt) (h' : Heap), Q' v h' ∧ h.size ≤ h'.size ∧ CtxW l R n0 Z own bytes ml nm rt (fun v g => Q v g ∧ h'.size ≤ g.size) K' O ∧ K' pc' L (v.toList ++ rest) h' (cl + rm.cells) (sl + rm.slots) := by
  subst hp
  obtain ⟨p, e, s, m, args, below, meth, c, s1, f0, hx, hby, hZ, hown, hml, hnm, hrt, hlk, hK, hO⟩ := C
  obtain ⟨T, locs, X, eT, N, st⟩ := (hK _ _ _ _ _ _).mp H
  obtain ⟨v, _, ⟨T', L', k', n'⟩, -, X', hS', hg', ⟨Lc, ⟨hQ, hF⟩, l', y', z'⟩, st'⟩ := X.specialBackS hx (y := y) hi hown (mvT hZ w1) (mvT hZ w2) (mvT hZ w4) hy (backOfS (Q := fun v h' L => Q' v h' ∧ Fr n0 L) (W := W) (k []) hZ w4 w3 hfr hlo) (g := mkF m pc L S) rfl (hsz.trans hml.symm) (Steps.refl _) (a := a) (argsL := argsL) (rest := rest) (lenOf hd hlen) hS (by show 2 * 0 + _ ≤ _; omega) (hb hby d) (fun _ _ => ⟨has, eT, hc, hs⟩)
  dsimp only [Pt.U, Pt.locs, Pt.cells, Pt.slots] at X' l' y' z' st' hQ hS' hg'
  subst l' y' z'
  have hZ' : Z.Warmed39 (s.setVm T'.vm).vm := State.Warmed39.trans (t := s) hZ hS'.1
  have hown' : (s.setVm T'.vm).vm.findClass own = some m.cls := by rw [show (s.setVm T'.vm).vm = T'.vm from rfl, hS'.1.alike.findClass]; exact hown
  exact ⟨v, fun pc L S h cl sl => ∃ U locs, Stand p l e R (s.setVm T'.vm) m args below meth c U locs cl sl ∧ U.heap = h ∧ Fr n0 locs ∧ ∀ t, Steps p.tables e below (U.setTop (mkF m pc L S)) t → Steps p.tables e below (s1.setTop f0) t, T'.heap, hQ, eT ▸ hg',
    ⟨p, e, s.setVm T'.vm, m, args, below, meth, c, s1, f0, hx, hby, hZ', hown', hml, hnm, hrt, hlk, fun _ _ _ _ _ _ => Iff.rfl, fun ⟨s2, o, q1, q2, q3, v, L, q4, q5, q6⟩ => hO ⟨s2, o, q1, q2, q3, v, L, q4, ⟨q5.1.1, q5.2⟩, wideEnd hS' q5.1.2 q6⟩⟩,
    ⟨T', _, X', rfl, N.app hF, fun t k => st t (st'.trans k)⟩⟩
end WideSteps
end Jvm.OwnK
namespace Jvm.Pilot.@@N@@
open Jvm Jvm.ClassFile Sem Op Lib Jvm.Free Jvm.Stand Jvm.LawKit Jvm.RoadKit Bundle Jvm.OwnK Jvm.Pilot.@@N@@.Jvm.D
theorem own_atoms {a0 : Array Value} {Z : State} (q0 : (Jvm.Cond.initialized "java/lang/String").before a0 Z = true) (q1 : (Jvm.Cond.instantiable "java/lang/String" 4).before a0 Z = true) (q2 : (Jvm.Cond.arrayClass .byte).before a0 Z = true) (q3 : (Jvm.Cond.laysFinal "java/lang/String" "java/lang/String" "value" "[B").before a0 Z = true) (q4 : (Jvm.Cond.laysFinal "java/lang/String" "java/lang/String" "coder" "B").before a0 Z = true) (q5 : (Jvm.Cond.soleField "java/lang/String" "value").before a0 Z = true) (q6 : (Jvm.Cond.soleField "java/lang/String" "coder").before a0 Z = true) : ∀ d ∈ Bundle.stringAtoms, d.before a0 Z = true := by
  intro d hd
  rcases List.mem_cons.mp hd with rfl | hd
  · exact q0
  rcases List.mem_cons.mp hd with rfl | hd
  · exact q1
  rcases List.mem_cons.mp hd with rfl | hd
  · exact q2
  rcases List.mem_cons.mp hd with rfl | hd
  · exact q3
  rcases List.mem_cons.mp hd with rfl | hd
  · exact q4
  rcases List.mem_cons.mp hd with rfl | hd
  · exact q5
  rcases List.mem_cons.mp hd with rfl | hd
  · exact q6
  cases hd
def own_u (k : Int32) : UInt64 := FP.ddiv (FP.i2d k) (4742290407621132288 : UInt64)
def own_ut (k : Int32) : UInt64 := FP.dmul (own_u k) (4621819117588971520 : UInt64)
def own_300 : UInt64 := FP.dmul (4618441417868443648 : UInt64) (4632233691727265792 : UInt64)
def own_mean (k : Int32) : UInt64 := FP.ddiv own_300 (own_ut k)
def own_exp (k : Int32) : UInt64 := FP.ddiv (4764245455804563456 : UInt64) (FP.i2d k)
def own_max (p1 : Int32) (p2 : Int32) : Int32 := (if p1 < p2 then p2 else p1)
theorem d1_0 : decode jdk_29_method_65_code 0 = .ok (.iload_n 0, 1) := by decide +kernel
theorem d1_1 : decode jdk_29_method_65_code 1 = .ok (.iload_n 1, 1) := by decide +kernel
theorem d1_2 : decode jdk_29_method_65_code 2 = .ok (.if_icmp .lt 7, 3) := by decide +kernel
theorem d1_5 : decode jdk_29_method_65_code 5 = .ok (.iload_n 0, 1) := by decide +kernel
theorem d1_6 : decode jdk_29_method_65_code 6 = .ok (.goto 4, 3) := by decide +kernel
theorem d1_9 : decode jdk_29_method_65_code 9 = .ok (.iload_n 1, 1) := by decide +kernel
theorem d1_10 : decode jdk_29_method_65_code 10 = .ok (.ireturn, 1) := by decide +kernel
theorem pl_1 : plainFor (⟨"java/lang/Math", "max", "(II)I"⟩ : MethodName) = true := Jvm.Free.JP.mathPlain rfl (by decide +kernel)
theorem ef_1 (mm : MethodId) (p1 : Int32) (p2 : Int32) : entryFrame mm #[(.int p1), (.int p2)] 2 = mkF mm 0 #[.val (.int p1), .val (.int p2)] [] := by first | (simp [entryFrame, mkF, argsToLocals, Value.category]; done) | rfl
set_option maxRecDepth 65536 in
set_option maxHeartbeats 40000000 in
theorem rm1 (l : Launch) (Z : State) (a0 : Array Value) (hw : ∀ d ∈ tables_1, d.before a0 Z = true) (p1 : Int32) (p2 : Int32) (h0 : Heap) (n0 : Nat)  :
    Con l (⟨"java/lang/Math", "max", "(II)I"⟩ : MethodName) jdk_29_method_65_code 2 (some .int) ({ frames := 0, cells := 0, slots := 0, locals := 0 } : Room) Z #[(.int p1), (.int p2)] h0 n0 (fun o h => o = some (.int (own_max p1 p2)) ∧ h0 = h) := by
  refine Con.enter pl_1 (fun mm => ef_1 mm p1 p2) ?_
  intro K O C H
  replace H := k_iloadN C H d1_0 rfl (pc' := 1) rfl
  replace H := k_iloadN C H d1_1 rfl (pc' := 2) rfl
  by_cases hc2 : p1 < p2
  · replace H := k_icmpY C H d1_2 (tlt hc2).1 (by decide) (pc' := 9) rfl
    replace H := k_iloadN C H d1_9 rfl (pc' := 10) rfl
    exact k_retI C H d1_10 (by decide) (by decide) ⟨by rw [own_max, if_pos hc2], rfl⟩
  · replace H := k_icmpN C H d1_2 (flt hc2).1 (pc' := 5) rfl
    replace H := k_iloadN C H d1_5 rfl (pc' := 6) rfl
    replace H := k_goto C H d1_6 (by decide) (pc' := 10) rfl
    exact k_retI C H d1_10 (by decide) (by decide) ⟨by rw [own_max, if_neg hc2], rfl⟩
theorem own_ac (n a b c : Nat) : n * a * (10 * b) * c = 10 * n * (a * b * c) := by
  rw [Nat.mul_comm 10 n, Nat.mul_assoc n 10, Nat.mul_assoc n a, Nat.mul_assoc n, Nat.mul_left_comm a 10 b, Nat.mul_assoc 10 (a * b)]
theorem own_bk (x k : Int32) (e : k = (if (x &&& (1073741823 : Int32)) = (0 : Int32) then (1 : Int32) else (x &&& (1073741823 : Int32)))) : 1 ≤ k.toInt ∧ k.toInt < 1073741824 := by
  have h := c_and x 1073741823 (by decide)
  have e1 : (1073741823 : Int32).toInt = 1073741823 := by decide
  rw [e]
  split
  · exact ⟨by decide, by decide⟩
  · next q =>
    have : (x &&& (1073741823 : Int32)).toInt ≠ 0 := fun z => q (Int32.toInt_inj.mp (z.trans (by decide)))
    omega
theorem own_warm (x : Int32) : ¬ (x &&& (2147483647 : Int32)) < (0 : Int32) := by
  have h := c_and x 2147483647 (by decide)
  rw [Int32.lt_iff_toInt_lt]
  have e0 : (0 : Int32).toInt = 0 := by decide
  omega
theorem own_meas (x : Int32) : ¬ own_max (1 : Int32) (x &&& (2147483647 : Int32)) < (1 : Int32) := by
  rw [own_max]
  split
  · next q =>
    rw [Int32.lt_iff_toInt_lt] at q ⊢
    omega
  · exact fun q => absurd q (by decide)
section Float
open Jvm.FP.Core
theorem own_c30 : val64 (4742290407621132288 : UInt64) = .fin false (2 ^ 52) (-22) := by decide +kernel
theorem own_cE : val64 (4764245455804563456 : UInt64) = .fin false (15 * 2 ^ 49) (-18) := by decide +kernel
theorem own_c300 : val64 own_300 = .fin false (300 * 2 ^ 44) (-44) := by decide +kernel
theorem own_c10 : val64 (4621819117588971520 : UInt64) = .fin false (10 * 2 ^ 49) (-49) := by decide +kernel
theorem own_z : val64 (0 : UInt64) = .fin false 0 b64.qmin := by decide +kernel
theorem own_one : val64 (4607182418800017408 : UInt64) = .fin false (2 ^ 52) (-52) := by decide +kernel
theorem own_qmin : b64.qmin = -1074 := by decide
theorem own_qmax : b64.qmax = 971 := by decide
theorem own_nan {x : UInt64} (h : val64 x ≠ .nan) : Jvm.Free.Fl.NoNaN64 x := Jvm.Free.Fl.val64_no.mpr h
theorem own_nf {x : UInt64} {s : Bool} {c : Nat} {q : Int} (h : val64 x = .fin s c q) : Jvm.Free.Fl.NoNaN64 x := own_nan (by rw [h]; simp)
theorem own_pow (a b : Nat) (h : a ≤ b) : 2 ^ a * 2 ^ (b - a) = 2 ^ b := by rw [← Nat.pow_add]; congr 1; omega
/-- the leading digit put in its place -/
theorem own_norm (n b : Nat) (h0 : 0 < n) (h1 : n < 2 ^ b) (hb : b ≤ 53) : ∃ j, 53 - b ≤ j ∧ j ≤ 52 ∧ 2 ^ 52 ≤ n * 2 ^ j ∧ n * 2 ^ j < 2 ^ 53 := by
  have hl := Nat.log2_self_le (Nat.pos_iff_ne_zero.mp h0)
  have hu : n < 2 ^ (n.log2 + 1) := Nat.lt_log2_self
  have hlb : n.log2 < b := (Nat.log2_lt (Nat.pos_iff_ne_zero.mp h0)).mpr h1
  refine ⟨52 - n.log2, by omega, by omega, ?_, ?_⟩
  · have := Nat.mul_le_mul_right (2 ^ (52 - n.log2)) hl
    rwa [own_pow _ 52 (by omega)] at this
  · have := Nat.mul_lt_mul_of_pos_right hu (Nat.two_pow_pos (52 - n.log2))
    rwa [show 52 - n.log2 = 53 - (n.log2 + 1) by omega, own_pow _ 53 (by omega), show 53 - (n.log2 + 1) = 52 - n.log2 by omega] at this
theorem own_fits {c : Nat} {q : Int} (h1 : 2 ^ 52 ≤ c) (h2 : c < 2 ^ 53) (h3 : -1074 ≤ q) (h4 : q ≤ 971) : Jvm.FP.Core.fits b64 (.fin false c q) :=
  ⟨h2, by rw [own_qmin]; exact h3, by rw [own_qmax]; exact h4, Or.inr h1⟩
/-- what is exact: i2d k = n; u = n / 2^30; ut = 10 n / 2^30 -/
theorem own_shape (k : Int32) (hk : 1 ≤ k.toInt ∧ k.toInt < 1073741824) : ∃ n j i : Nat, 0 < n ∧ n < 2 ^ 30 ∧ 23 ≤ j ∧ j ≤ 52 ∧ i ≤ 52 ∧ 2 ^ 52 ≤ n * 2 ^ j ∧ n * 2 ^ j < 2 ^ 53 ∧ 0 < 10 * n * 2 ^ i ∧ val64 (FP.i2d k) = .fin false (n * 2 ^ j) (-(j : Int)) ∧ val64 (own_u k) = .fin false (n * 2 ^ j) (-(j : Int) - 30) ∧ val64 (own_ut k) = .fin false (10 * n * 2 ^ i) (-(i : Int) - 30) := by
  have en : k.toInt = ((k.toInt.toNat : Nat) : Int) := by omega
  generalize hn : k.toInt.toNat = n at en
  have h0 : 0 < n := by omega
  have h1 : n < 2 ^ 30 := by omega
  obtain ⟨j, j1, j2, j3, j4⟩ := own_norm n 30 h0 h1 (by decide)
  have h10 : 10 * n < 2 ^ 34 := by omega
  obtain ⟨i, i1, i2, i3, i4⟩ := own_norm (10 * n) 34 (by omega) h10 (by decide)
  have v0 : val64 (FP.i2d k) = .fin false (n * 2 ^ j) (-(j : Int)) := by
    have e1 : val64 (FP.i2d k) = round b64 (ofInt k.toInt) := val64_i2d k
    have e2 : ofInt ((n : Nat) : Int) = .fin false n 0 := by simp [ofInt]
    rw [e1, en, e2]
    show roundRatio b64 false n 1 0 = _
    refine roundRatio_exact good_b64 (by decide) (own_fits j3 j4 (by omega) (by omega)) ?_
    have u1 : ((0 : Int) - -(j : Int)).toNat = j := by omega
    have u2 : (-(j : Int) - 0).toNat = 0 := by omega
    rw [u1, u2, Nat.pow_zero, Nat.mul_one, Nat.mul_one]
  have v1 : val64 (own_u k) = .fin false (n * 2 ^ j) (-(j : Int) - 30) := by
    have e1 : val64 (own_u k) = quotient b64 (val64 (FP.i2d k)) (val64 (4742290407621132288 : UInt64)) := val64_ddiv _ _
    rw [e1, v0, own_c30]
    show roundRatio b64 false (n * 2 ^ j) (2 ^ 52) (-(j : Int) - -22) = _
    refine roundRatio_exact good_b64 (by decide) (own_fits j3 j4 (by omega) (by omega)) ?_
    have u1 : (-(j : Int) - -22 - (-(j : Int) - 30)).toNat = 52 := by omega
    have u2 : (-(j : Int) - 30 - (-(j : Int) - -22)).toNat = 0 := by omega
    rw [u1, u2, Nat.pow_zero, Nat.mul_one]
  refine ⟨n, j, i, h0, h1, j1, j2, i2, j3, j4, by omega, v0, v1, ?_⟩
  have e1 : val64 (own_ut k) = round b64 (exactProduct (val64 (own_u k)) (val64 (4621819117588971520 : UInt64))) := val64_dmul _ _
  rw [e1, v1, own_c10]
  show roundRatio b64 false (n * 2 ^ j * (10 * 2 ^ 49)) 1 (-(j : Int) - 30 + -49) = _
  refine roundRatio_exact good_b64 (by decide) (own_fits i3 i4 (by omega) (by omega)) ?_
  obtain ⟨t, t', ht, ht', htt⟩ : ∃ t t' : Nat, (-(j : Int) - 30 + -49 - (-(i : Int) - 30)).toNat = t ∧ (-(i : Int) - 30 - (-(j : Int) - 30 + -49)).toNat = t' ∧ j + 49 + t = i + t' := ⟨_, _, rfl, rfl, by omega⟩
  rw [ht, ht', Nat.mul_one]
  have p : 2 ^ j * 2 ^ 49 * 2 ^ t = 2 ^ i * 2 ^ t' := by rw [← Nat.pow_add, ← Nat.pow_add, ← Nat.pow_add, htt]
  calc n * 2 ^ j * (10 * 2 ^ 49) * 2 ^ t = 10 * n * (2 ^ j * 2 ^ 49 * 2 ^ t) := own_ac n (2 ^ j) (2 ^ 49) (2 ^ t)
    _ = 10 * n * (2 ^ i * 2 ^ t') := by rw [p]
    _ = 10 * n * 2 ^ i * 2 ^ t' := (Nat.mul_assoc _ _ _).symm
theorem own_nn300 : Jvm.Free.Fl.NoNaN64 (FP.dmul (4618441417868443648 : UInt64) (4632233691727265792 : UInt64)) := own_nf own_c300
theorem own_nnu (k : Int32) (hk : 1 ≤ k.toInt ∧ k.toInt < 1073741824) : Jvm.Free.Fl.NoNaN64 (FP.ddiv (FP.i2d k) (4742290407621132288 : UInt64)) := by
  obtain ⟨n, j, i, -, -, -, -, -, -, -, -, -, v1, -⟩ := own_shape k hk
  exact own_nf v1
theorem own_nnut (k : Int32) (hk : 1 ≤ k.toInt ∧ k.toInt < 1073741824) : Jvm.Free.Fl.NoNaN64 (FP.dmul (own_u k) (4621819117588971520 : UInt64)) := by
  obtain ⟨n, j, i, -, -, -, -, -, -, -, -, -, -, v2⟩ := own_shape k hk
  exact own_nf v2
theorem own_mean_v (k : Int32) (hk : 1 ≤ k.toInt ∧ k.toInt < 1073741824) : ∃ n j i : Nat, 0 < n ∧ 0 < 10 * n * 2 ^ i ∧ 0 < n * 2 ^ j ∧ val64 (own_mean k) = roundRatio b64 false (300 * 2 ^ 44) (10 * n * 2 ^ i) (-44 - (-(i : Int) - 30)) ∧ val64 (own_exp k) = roundRatio b64 false (15 * 2 ^ 49) (n * 2 ^ j) (-18 - -(j : Int)) := by
  obtain ⟨n, j, i, h0, -, -, -, -, j3, -, i3, v0, -, v2⟩ := own_shape k hk
  have pj : 0 < n * 2 ^ j := by omega
  refine ⟨n, j, i, h0, i3, pj, ?_, ?_⟩
  · have e1 : val64 (own_mean k) = quotient b64 (val64 own_300) (val64 (own_ut k)) := val64_ddiv _ _
    rw [e1, v2, own_c300]
    show (if 10 * n * 2 ^ i = 0 then _ else roundRatio b64 false (300 * 2 ^ 44) (10 * n * 2 ^ i) (-44 - (-(i : Int) - 30))) = _
    rw [if_neg (by omega)]
  · have e1 : val64 (own_exp k) = quotient b64 (val64 (4764245455804563456 : UInt64)) (val64 (FP.i2d k)) := val64_ddiv _ _
    rw [e1, v0, own_cE]
    show (if n * 2 ^ j = 0 then _ else roundRatio b64 false (15 * 2 ^ 49) (n * 2 ^ j) (-18 - -(j : Int))) = _
    rw [if_neg (by omega)]
theorem own_nnmean (k : Int32) (hk : 1 ≤ k.toInt ∧ k.toInt < 1073741824) : Jvm.Free.Fl.NoNaN64 (FP.ddiv (FP.dmul (4618441417868443648 : UInt64) (4632233691727265792 : UInt64)) (FP.dmul (own_u k) (4621819117588971520 : UInt64))) := by
  obtain ⟨n, j, i, -, -, -, v1, -⟩ := own_mean_v k hk
  have q : val64 (own_mean k) ≠ .nan := by rw [v1]; exact roundRatio_ne_nan _ _ _ _ _
  exact own_nan q
theorem own_nnexp (k : Int32) (hk : 1 ≤ k.toInt ∧ k.toInt < 1073741824) : Jvm.Free.Fl.NoNaN64 (FP.ddiv (4764245455804563456 : UInt64) (FP.i2d k)) := by
  obtain ⟨n, j, i, -, -, -, -, v2⟩ := own_mean_v k hk
  have q : val64 (own_exp k) ≠ .nan := by rw [v2]; exact roundRatio_ne_nan _ _ _ _ _
  exact own_nan q
theorem own_pw (A A' n i j t t' : Nat) (h : j + t = i + 4 + t') (hA : A * 2 ^ 4 = A' * 10) : A * (n * 2 ^ j) * 2 ^ t = A' * (10 * n * 2 ^ i) * 2 ^ t' := by
  have p : 2 ^ j * 2 ^ t = 2 ^ 4 * (2 ^ i * 2 ^ t') := by rw [← Nat.pow_add, h, Nat.pow_add, Nat.pow_add, Nat.mul_comm (2 ^ i) (2 ^ 4), Nat.mul_assoc]
  calc A * (n * 2 ^ j) * 2 ^ t = A * (n * (2 ^ j * 2 ^ t)) := by rw [Nat.mul_assoc, Nat.mul_assoc]
    _ = A * (n * (2 ^ 4 * (2 ^ i * 2 ^ t'))) := by rw [p]
    _ = A * 2 ^ 4 * (n * (2 ^ i * 2 ^ t')) := by rw [Nat.mul_left_comm n, ← Nat.mul_assoc A]
    _ = A' * 10 * (n * (2 ^ i * 2 ^ t')) := by rw [hA]
    _ = A' * (10 * n * 2 ^ i) * 2 ^ t' := by rw [Nat.mul_assoc A' 10, ← Nat.mul_assoc 10 n, ← Nat.mul_assoc (10 * n), ← Nat.mul_assoc A']
theorem own_same (k : Int32) (hk : 1 ≤ k.toInt ∧ k.toInt < 1073741824) : own_mean k = own_exp k := by
  obtain ⟨n, j, i, h0, i3, j3, v1, v2⟩ := own_mean_v k hk
  have q : val64 (own_mean k) ≠ .nan := by rw [v1]; exact roundRatio_ne_nan _ _ _ _ _
  refine val64_inj q ?_
  rw [v1, v2]
  refine roundRatio_congr i3 j3 ?_
  exact own_pw _ _ _ _ _ _ _ (by omega) (by decide)
theorem own_law (k : Int32) (hk : 1 ≤ k.toInt ∧ k.toInt < 1073741824) : cmpValue (FP.dcmp (own_mean k) (own_exp k)) .l = (0 : Int32) := by
  rw [own_same k hk]
  exact dcmpV_self (own_nnexp k hk) .l
theorem own_pos (k : Int32) (hk : 1 ≤ k.toInt ∧ k.toInt < 1073741824) : (0 : Int32) < cmpValue (FP.dcmp (own_u k) (0 : UInt64)) .l := by
  obtain ⟨n, j, i, h0, h1, j1, j2, i2, j3, j4, i3, v0, v1, v2⟩ := own_shape k hk
  have h : FP.dcmp (own_u k) (0 : UInt64) = order (val64 (own_u k)) (val64 (0 : UInt64)) := rfl
  rw [h, v1, own_z]
  generalize hr : (-(j : Int) - 30) = r
  generalize hc : n * 2 ^ j = c at j3
  show (0 : Int32) < cmpValue (some (compare (signed false (inUnits c r (min r b64.qmin))) (signed false (inUnits 0 b64.qmin (min r b64.qmin))))) .l
  have e0 : signed false (inUnits 0 b64.qmin (min r b64.qmin)) = 0 := by simp [signed, inUnits]
  have e1 : signed false (inUnits c r (min r b64.qmin)) = ((inUnits c r (min r b64.qmin) : Nat) : Int) := rfl
  have ep : 0 < inUnits c r (min r b64.qmin) := Nat.mul_pos (by omega) (Nat.two_pow_pos _)
  rw [e0, e1]
  generalize inUnits c r (min r b64.qmin) = z at ep
  have : compare ((z : Nat) : Int) 0 = .gt := by rw [compare_ite, if_neg (by omega), if_neg (by omega)]
  rw [this]; decide
theorem own_lt1 (k : Int32) (hk : 1 ≤ k.toInt ∧ k.toInt < 1073741824) : cmpValue (FP.dcmp (own_u k) (4607182418800017408 : UInt64)) .g < (0 : Int32) := by
  obtain ⟨n, j, i, h0, h1, j1, j2, i2, j3, j4, i3, v0, v1, v2⟩ := own_shape k hk
  have h : FP.dcmp (own_u k) (4607182418800017408 : UInt64) = order (val64 (own_u k)) (val64 (4607182418800017408 : UInt64)) := rfl
  rw [h, v1, own_one]
  have kk : inUnits (n * 2 ^ j) (-(j : Int) - 30) (min (-(j : Int) - 30) (-52)) < inUnits (2 ^ 52) (-52) (min (-(j : Int) - 30) (-52)) := by
    have m : min (-(j : Int) - 30) (-52) = -(j : Int) - 30 := by omega
    have a1 : (-(j : Int) - 30 - (-(j : Int) - 30)).toNat = 0 := by omega
    have a2 : (-52 - (-(j : Int) - 30)).toNat = j - 22 := by omega
    rw [m, inUnits, inUnits, a1, a2, Nat.pow_zero, Nat.mul_one]
    have : 2 ^ 52 * 2 ^ (j - 22) = 2 ^ 30 * 2 ^ j := by rw [← Nat.pow_add, ← Nat.pow_add]; congr 1; omega
    rw [this]
    exact Nat.mul_lt_mul_of_pos_right h1 (Nat.two_pow_pos j)
  generalize (-(j : Int) - 30) = r at kk ⊢
  generalize n * 2 ^ j = c at kk ⊢
  show cmpValue (some (compare (signed false (inUnits c r (min r (-52)))) (signed false (inUnits (2 ^ 52) (-52) (min r (-52)))))) .g < 0
  have : compare (signed false (inUnits c r (min r (-52)))) (signed false (inUnits (2 ^ 52) (-52) (min r (-52)))) = .lt := by
    rw [compare_ite]
    have : (signed false (inUnits c r (min r (-52)))) < (signed false (inUnits (2 ^ 52) (-52) (min r (-52)))) := by
      show ((inUnits c r (min r (-52)) : Nat) : Int) < ((inUnits (2 ^ 52) (-52) (min r (-52)) : Nat) : Int)
      exact_mod_cast kk
    rw [if_pos this]
  rw [this]; decide
end Float
theorem d2_0 : decode jdk_30_method_1_code 0 = .ok (.aload_n 0, 1) := by decide +kernel
theorem d2_1 : decode jdk_30_method_1_code 1 = .ok (.invokespecial 1, 3) := by decide +kernel
theorem d2_4 : decode jdk_30_method_1_code 4 = .ok (.return_, 1) := by decide +kernel
theorem pl_2 : plainFor (⟨"java/lang/Record", "<init>", "()V"⟩ : MethodName) = true := plainFor_of_name (by first | (simp [plainName, overriddenIn]; done) | decide +kernel)
theorem ef_2 (mm : MethodId) (a1 : Addr) : entryFrame mm #[(.ref a1)] 1 = mkF mm 0 #[.val (.ref a1)] [] := by first | (simp [entryFrame, mkF, argsToLocals, Value.category]; done) | rfl
set_option maxRecDepth 65536 in
set_option maxHeartbeats 40000000 in
theorem rm2 (l : Launch) (Z : State) (a0 : Array Value) (hw : ∀ d ∈ tables_1, d.before a0 Z = true) (a1 : Addr) (h0 : Heap) (n0 : Nat)  :
    Con l (⟨"java/lang/Record", "<init>", "()V"⟩ : MethodName) jdk_30_method_1_code 1 none ({ frames := 1, cells := 0, slots := 0, locals := 12 } : Room) Z #[(.ref a1)] h0 n0 (fun o h => o = none ∧ h0 = h) := by
  refine Con.enter pl_2 (fun mm => ef_2 mm a1) ?_
  intro K O C H
  replace H := k_aloadN C H d2_0 rfl rfl (pc' := 1) rfl
  replace H := k_initObj C H (hw _ (List.mem_of_getElem? (i := 21) rfl)) (hw _ (List.mem_of_getElem? (i := 22) rfl)) (hw _ (List.mem_of_getElem? (i := 23) rfl)) d2_1 rfl (by decide) 0 rfl (by decide) (pc' := 4) rfl
  exact k_retV C H d2_4 (by decide) (by decide) ⟨rfl, rfl⟩
theorem d3_0 : decode jdk_31_method_11_code 0 = .ok (.aload_n 0, 1) := by decide +kernel
theorem d3_1 : decode jdk_31_method_11_code 1 = .ok (.ifnonnull 12, 3) := by decide +kernel
theorem d3_13 : decode jdk_31_method_11_code 13 = .ok (.aload_n 0, 1) := by decide +kernel
theorem d3_14 : decode jdk_31_method_11_code 14 = .ok (.areturn, 1) := by decide +kernel
theorem pl_3 : plainFor (⟨"java/util/Objects", "requireNonNull", "(Ljava/lang/Object;Ljava/lang/String;)Ljava/lang/Object;"⟩ : MethodName) = true := plainFor_of_name (by first | (simp [plainName, overriddenIn]; done) | decide +kernel)
theorem ef_3 (mm : MethodId) (a1 : Addr) (a2 : Addr) : entryFrame mm #[(.ref a1), (.ref a2)] 2 = mkF mm 0 #[.val (.ref a1), .val (.ref a2)] [] := by first | (simp [entryFrame, mkF, argsToLocals, Value.category]; done) | rfl
set_option maxRecDepth 65536 in
set_option maxHeartbeats 40000000 in
theorem rm3 (l : Launch) (Z : State) (a0 : Array Value) (hw : ∀ d ∈ tables_1, d.before a0 Z = true) (a1 : Addr) (a2 : Addr) (h0 : Heap) (n0 : Nat)  :
    Con l (⟨"java/util/Objects", "requireNonNull", "(Ljava/lang/Object;Ljava/lang/String;)Ljava/lang/Object;"⟩ : MethodName) jdk_31_method_11_code 2 (some (.object "java/lang/Object")) ({ frames := 0, cells := 0, slots := 0, locals := 0 } : Room) Z #[(.ref a1), (.ref a2)] h0 n0 (fun o h => o = some (.ref a1) ∧ h0 = h) := by
  refine Con.enter pl_3 (fun mm => ef_3 mm a1 a2) ?_
  intro K O C H
  replace H := k_aloadN C H d3_0 rfl rfl (pc' := 1) rfl
  replace H := k_ifnonnullY C H d3_1 (by decide) (pc' := 13) rfl
  replace H := k_aloadN C H d3_13 rfl rfl (pc' := 14) rfl
  exact k_retA C H d3_14 rfl rfl (by decide) (by decide) ⟨rfl, rfl⟩
theorem d4_0 : decode prog_37_method_1_code 0 = .ok (.aload_n 0, 1) := by decide +kernel
theorem d4_1 : decode prog_37_method_1_code 1 = .ok (.invokespecial 1, 3) := by decide +kernel
theorem d4_4 : decode prog_37_method_1_code 4 = .ok (.dload_n 1, 1) := by decide +kernel
theorem d4_5 : decode prog_37_method_1_code 5 = .ok (.dconst 0, 1) := by decide +kernel
theorem d4_6 : decode prog_37_method_1_code 6 = .ok (.dcmp .l, 1) := by decide +kernel
theorem d4_7 : decode prog_37_method_1_code 7 = .ok (.ifCond .le 9, 3) := by decide +kernel
theorem d4_10 : decode prog_37_method_1_code 10 = .ok (.dload_n 1, 1) := by decide +kernel
theorem d4_11 : decode prog_37_method_1_code 11 = .ok (.dconst 1, 1) := by decide +kernel
theorem d4_12 : decode prog_37_method_1_code 12 = .ok (.dcmp .g, 1) := by decide +kernel
theorem d4_13 : decode prog_37_method_1_code 13 = .ok (.ifCond .lt 17, 3) := by decide +kernel
theorem d4_30 : decode prog_37_method_1_code 30 = .ok (.iload_n 3, 1) := by decide +kernel
theorem d4_31 : decode prog_37_method_1_code 31 = .ok (.ifCond .ge 17, 3) := by decide +kernel
theorem d4_48 : decode prog_37_method_1_code 48 = .ok (.iload 4, 2) := by decide +kernel
theorem d4_50 : decode prog_37_method_1_code 50 = .ok (.iconst 1, 1) := by decide +kernel
theorem d4_51 : decode prog_37_method_1_code 51 = .ok (.if_icmp .ge 18, 3) := by decide +kernel
theorem d4_69 : decode prog_37_method_1_code 69 = .ok (.aload 5, 2) := by decide +kernel
theorem d4_71 : decode prog_37_method_1_code 71 = .ok (.ldc 20, 2) := by decide +kernel
theorem d4_73 : decode prog_37_method_1_code 73 = .ok (.invokestatic 22, 3) := by decide +kernel
theorem d4_76 : decode prog_37_method_1_code 76 = .ok (.pop, 1) := by decide +kernel
theorem d4_77 : decode prog_37_method_1_code 77 = .ok (.aload_n 0, 1) := by decide +kernel
theorem d4_78 : decode prog_37_method_1_code 78 = .ok (.dload_n 1, 1) := by decide +kernel
theorem d4_79 : decode prog_37_method_1_code 79 = .ok (.putfield 28, 3) := by decide +kernel
theorem d4_82 : decode prog_37_method_1_code 82 = .ok (.aload_n 0, 1) := by decide +kernel
theorem d4_83 : decode prog_37_method_1_code 83 = .ok (.iload_n 3, 1) := by decide +kernel
theorem d4_84 : decode prog_37_method_1_code 84 = .ok (.putfield 34, 3) := by decide +kernel
theorem d4_87 : decode prog_37_method_1_code 87 = .ok (.aload_n 0, 1) := by decide +kernel
theorem d4_88 : decode prog_37_method_1_code 88 = .ok (.iload 4, 2) := by decide +kernel
theorem d4_90 : decode prog_37_method_1_code 90 = .ok (.putfield 38, 3) := by decide +kernel
theorem d4_93 : decode prog_37_method_1_code 93 = .ok (.aload_n 0, 1) := by decide +kernel
theorem d4_94 : decode prog_37_method_1_code 94 = .ok (.aload 5, 2) := by decide +kernel
theorem d4_96 : decode prog_37_method_1_code 96 = .ok (.putfield 41, 3) := by decide +kernel
theorem d4_99 : decode prog_37_method_1_code 99 = .ok (.return_, 1) := by decide +kernel
theorem pd4_0 : parseMethodDescriptor "()V" = some ⟨[], none⟩ := by decide +kernel
theorem pd4_1 : parseMethodDescriptor "(Ljava/lang/Object;Ljava/lang/String;)Ljava/lang/Object;" = some ⟨[(.object "java/lang/Object"), (.object "java/lang/String")], some (.object "java/lang/Object")⟩ := by decide +kernel
theorem pl_4 : plainFor (⟨"com/example/dispatchwright/dispatchwright/simulation/DynamicShop", "<init>", "(DIILcom/example/dispatchwright/dispatchwright/simulation/DynamicShop$Counting;)V"⟩ : MethodName) = true := plainFor_of_name (by first | (simp [plainName, overriddenIn]; done) | decide +kernel)
theorem ef_4 (mm : MethodId) (a1 : Addr) (d1 : UInt64) (i1 : Int32) (i2 : Int32) (a2 : Addr) : entryFrame mm #[(.ref a1), (.double d1), (.int i1), (.int i2), (.ref a2)] 6 = mkF mm 0 #[.val (.ref a1), .val (.double d1), .second, .val (.int i1), .val (.int i2), .val (.ref a2)] [] := by first | (simp [entryFrame, mkF, argsToLocals, Value.category]; done) | rfl
set_option maxRecDepth 65536 in
set_option maxHeartbeats 40000000 in
theorem rm4 (l : Launch) (Z : State) (a0 : Array Value) (hw : ∀ d ∈ tables_1, d.before a0 Z = true) (a1 : Addr) (d1 : UInt64) (i1 : Int32) (i2 : Int32) (a2 : Addr) (h0 : Heap) (n0 : Nat) (u_utilisation : Value) (u_warmup : Value) (u_measured : Value) (u_counting : Value) (E : Exa Z h0 a1 "com/example/dispatchwright/dispatchwright/simulation/DynamicShop") (F_utilisation : Fld Z h0 a1 "com/example/dispatchwright/dispatchwright/simulation/DynamicShop" "utilisation" "D" u_utilisation) (F_warmup : Fld Z h0 a1 "com/example/dispatchwright/dispatchwright/simulation/DynamicShop" "warmup" "I" u_warmup) (F_measured : Fld Z h0 a1 "com/example/dispatchwright/dispatchwright/simulation/DynamicShop" "measured" "I" u_measured) (F_counting : Fld Z h0 a1 "com/example/dispatchwright/dispatchwright/simulation/DynamicShop" "counting" "Lcom/example/dispatchwright/dispatchwright/simulation/DynamicShop$Counting;" u_counting) (g : n0 ≤ a1) (hpos : (0 : Int32) < cmpValue (FP.dcmp d1 (0 : UInt64)) .l) (hlt : cmpValue (FP.dcmp d1 (4607182418800017408 : UInt64)) .g < (0 : Int32)) (hi1 : ¬ i1 < (0 : Int32)) (hi2 : ¬ i2 < (1 : Int32)) :
    ConW l (⟨"com/example/dispatchwright/dispatchwright/simulation/DynamicShop", "<init>", "(DIILcom/example/dispatchwright/dispatchwright/simulation/DynamicShop$Counting;)V"⟩ : MethodName) prog_37_method_1_code 6 none ({ frames := 2, cells := 2, slots := 36, locals := 24 } : Room) Z #[(.ref a1), (.double d1), (.int i1), (.int i2), (.ref a2)] h0 n0 (fun o h => o = none ∧ Exa Z h a1 "com/example/dispatchwright/dispatchwright/simulation/DynamicShop" ∧ Fld Z h a1 "com/example/dispatchwright/dispatchwright/simulation/DynamicShop" "utilisation" "D" (.double d1)) := by
  refine ConW.enter pl_4 (fun mm => ef_4 mm a1 d1 i1 i2 a2) ?_
  intro K O CW H
  have C := CW.narrow
  replace H := k_aloadN C H d4_0 rfl rfl (pc' := 1) rfl
  replace H := k_callCon C H (rm2 l Z a0 hw a1 h0 n0) rfl (hw _ (List.mem_of_getElem? (i := 16) rfl)) (hw _ (List.mem_of_getElem? (i := 17) rfl)) (hw _ (List.mem_of_getElem? (i := 19) rfl)) (hw _ (List.mem_of_getElem? (i := 20) rfl)) (by decide) d4_1 rfl a1 [] [] pd4_0 rfl rfl rfl 0 rfl (by decide) (by decide) (by decide) (by decide) (pc' := 4) rfl
  obtain ⟨_, _, ⟨rfl, rfl⟩, H⟩ := H
  replace H : K 4 #[.val (.ref a1), .val (.double d1), .second, .val (.int i1), .val (.int i2), .val (.ref a2)] [] h0 0 0 := H
  replace H := k_dloadN C H d4_4 rfl (pc' := 5) rfl
  replace H := k_dconst0 C H (v := (0 : UInt64)) d4_5 (by decide) (pc' := 6) rfl
  replace H := k_dcmp C H d4_6 (pc' := 7) rfl
  replace H := k_ifcN C H d4_7 (tlt hpos).2.2.2 (pc' := 10) rfl
  replace H := k_dloadN C H d4_10 rfl (pc' := 11) rfl
  replace H := k_dconst1 C H (v := (4607182418800017408 : UInt64)) d4_11 (by decide) (pc' := 12) rfl
  replace H := k_dcmp C H d4_12 (pc' := 13) rfl
  replace H := k_ifcY C H d4_13 (tlt hlt).1 (by decide) (pc' := 30) rfl
  replace H := k_iloadN C H d4_30 rfl (pc' := 31) rfl
  replace H := k_ifcY C H d4_31 (flt hi1).2.1 (by decide) (pc' := 48) rfl
  replace H := k_iload C H d4_48 rfl (pc' := 50) rfl
  replace H := k_iconst C H (v := 1) d4_50 rfl (pc' := 51) rfl
  replace H := k_icmpY C H d4_51 (flt hi2).2.1 (by decide) (pc' := 69) rfl
  replace H := k_aload C H d4_69 rfl rfl (pc' := 71) rfl
  have wS : ∀ d ∈ Bundle.stringAtoms, d.before a0 Z = true := own_atoms (hw _ (List.mem_of_getElem? (i := 25) rfl)) (hw _ (List.mem_of_getElem? (i := 26) rfl)) (hw _ (List.mem_of_getElem? (i := 27) rfl)) (hw _ (List.mem_of_getElem? (i := 28) rfl)) (hw _ (List.mem_of_getElem? (i := 29) rfl)) (hw _ (List.mem_of_getElem? (i := 30) rfl)) (hw _ (List.mem_of_getElem? (i := 31) rfl))
  obtain ⟨K, h1, s1, E_s1, CW, H⟩ := k_ldcStr CW H (hw _ (List.mem_of_getElem? (i := 24) rfl)) wS d4_71 (n := 32) (by first | decide | decide +kernel | simp) (by decide) (by decide) (by decide) (pc' := 73) rfl
  have C := CW.narrow
  replace H : K 73 #[.val (.ref a1), .val (.double d1), .second, .val (.int i1), .val (.int i2), .val (.ref a2)] [(.ref s1), (.ref a2)] h1 2 36 := H
  replace E := E.ext E_s1
  replace F_utilisation := F_utilisation.ext E_s1
  replace F_warmup := F_warmup.ext E_s1
  replace F_measured := F_measured.ext E_s1
  replace F_counting := F_counting.ext E_s1
  replace H := k_callSta C H (rm3 l Z a0 hw a2 s1 h1 n0) (hw _ (List.mem_of_getElem? (i := 32) rfl)) (hw _ (List.mem_of_getElem? (i := 33) rfl)) (hw _ (List.mem_of_getElem? (i := 34) rfl)) (hw _ (List.mem_of_getElem? (i := 35) rfl)) (by decide) d4_73 rfl [(.ref a2), (.ref s1)] [] pd4_1 rfl rfl rfl 0 rfl (by decide) (by decide) (by decide) (by decide) (pc' := 76) rfl
  obtain ⟨_, _, ⟨rfl, rfl⟩, H⟩ := H
  replace H : K 76 #[.val (.ref a1), .val (.double d1), .second, .val (.int i1), .val (.int i2), .val (.ref a2)] [(.ref a2)] h1 2 36 := H
  replace H := k_pop C H d4_76 rfl (pc' := 77) rfl
  replace H := k_aloadN C H d4_77 rfl rfl (pc' := 78) rfl
  replace H := k_dloadN C H d4_78 rfl (pc' := 79) rfl
  replace H := k_putFld C H (hw _ (List.mem_of_getElem? (i := 36) rfl)) F_utilisation E (Or.inr ⟨(hw _ (List.mem_of_getElem? (i := 37) rfl)), rfl, rfl⟩) (hw _ (List.mem_of_getElem? (i := 11) rfl)) (ty := .double) (by decide) (v' := (.double d1)) rfl rfl g d4_79 (pc' := 82) rfl
  obtain ⟨h2, W2, H⟩ := H
  replace E := E.wr W2
  replace F_utilisation := F_utilisation.same W2
  replace F_warmup := F_warmup.other W2 (Or.inr (slot_ne (Or.inr (hw _ (List.mem_of_getElem? (i := 39) rfl))) (Or.inr (hw _ (List.mem_of_getElem? (i := 37) rfl))) (by decide) (t := .int) (t' := .double) (by decide) (by decide)))
  replace F_measured := F_measured.other W2 (Or.inr (slot_ne (Or.inr (hw _ (List.mem_of_getElem? (i := 41) rfl))) (Or.inr (hw _ (List.mem_of_getElem? (i := 37) rfl))) (by decide) (t := .int) (t' := .double) (by decide) (by decide)))
  replace F_counting := F_counting.other W2 (Or.inr (slot_ne (Or.inr (hw _ (List.mem_of_getElem? (i := 43) rfl))) (Or.inr (hw _ (List.mem_of_getElem? (i := 37) rfl))) (by decide) (t := (.object "com/example/dispatchwright/dispatchwright/simulation/DynamicShop$Counting")) (t' := .double) (by decide) (by decide)))
  replace H := k_aloadN C H d4_82 rfl rfl (pc' := 83) rfl
  replace H := k_iloadN C H d4_83 rfl (pc' := 84) rfl
  replace H := k_putFld C H (hw _ (List.mem_of_getElem? (i := 38) rfl)) F_warmup E (Or.inr ⟨(hw _ (List.mem_of_getElem? (i := 39) rfl)), rfl, rfl⟩) (hw _ (List.mem_of_getElem? (i := 11) rfl)) (ty := .int) (by decide) (v' := (.int i1)) rfl rfl g d4_84 (pc' := 87) rfl
  obtain ⟨h3, W3, H⟩ := H
  replace E := E.wr W3
  replace F_warmup := F_warmup.same W3
  replace F_utilisation := F_utilisation.other W3 (Or.inr (slot_ne (Or.inr (hw _ (List.mem_of_getElem? (i := 37) rfl))) (Or.inr (hw _ (List.mem_of_getElem? (i := 39) rfl))) (by decide) (t := .double) (t' := .int) (by decide) (by decide)))
  replace F_measured := F_measured.other W3 (Or.inr (slot_ne (Or.inr (hw _ (List.mem_of_getElem? (i := 41) rfl))) (Or.inr (hw _ (List.mem_of_getElem? (i := 39) rfl))) (by decide) (t := .int) (t' := .int) (by decide) (by decide)))
  replace F_counting := F_counting.other W3 (Or.inr (slot_ne (Or.inr (hw _ (List.mem_of_getElem? (i := 43) rfl))) (Or.inr (hw _ (List.mem_of_getElem? (i := 39) rfl))) (by decide) (t := (.object "com/example/dispatchwright/dispatchwright/simulation/DynamicShop$Counting")) (t' := .int) (by decide) (by decide)))
  replace H := k_aloadN C H d4_87 rfl rfl (pc' := 88) rfl
  replace H := k_iload C H d4_88 rfl (pc' := 90) rfl
  replace H := k_putFld C H (hw _ (List.mem_of_getElem? (i := 40) rfl)) F_measured E (Or.inr ⟨(hw _ (List.mem_of_getElem? (i := 41) rfl)), rfl, rfl⟩) (hw _ (List.mem_of_getElem? (i := 11) rfl)) (ty := .int) (by decide) (v' := (.int i2)) rfl rfl g d4_90 (pc' := 93) rfl
  obtain ⟨h4, W4, H⟩ := H
  replace E := E.wr W4
  replace F_measured := F_measured.same W4
  replace F_utilisation := F_utilisation.other W4 (Or.inr (slot_ne (Or.inr (hw _ (List.mem_of_getElem? (i := 37) rfl))) (Or.inr (hw _ (List.mem_of_getElem? (i := 41) rfl))) (by decide) (t := .double) (t' := .int) (by decide) (by decide)))
  replace F_warmup := F_warmup.other W4 (Or.inr (slot_ne (Or.inr (hw _ (List.mem_of_getElem? (i := 39) rfl))) (Or.inr (hw _ (List.mem_of_getElem? (i := 41) rfl))) (by decide) (t := .int) (t' := .int) (by decide) (by decide)))
  replace F_counting := F_counting.other W4 (Or.inr (slot_ne (Or.inr (hw _ (List.mem_of_getElem? (i := 43) rfl))) (Or.inr (hw _ (List.mem_of_getElem? (i := 41) rfl))) (by decide) (t := (.object "com/example/dispatchwright/dispatchwright/simulation/DynamicShop$Counting")) (t' := .int) (by decide) (by decide)))
  replace H := k_aloadN C H d4_93 rfl rfl (pc' := 94) rfl
  replace H := k_aload C H d4_94 rfl rfl (pc' := 96) rfl
  replace H := k_putFld C H (hw _ (List.mem_of_getElem? (i := 42) rfl)) F_counting E (Or.inr ⟨(hw _ (List.mem_of_getElem? (i := 43) rfl)), rfl, rfl⟩) (hw _ (List.mem_of_getElem? (i := 11) rfl)) (ty := (.object "com/example/dispatchwright/dispatchwright/simulation/DynamicShop$Counting")) (by decide) (v' := (.ref a2)) rfl rfl g d4_96 (pc' := 99) rfl
  obtain ⟨h5, W5, H⟩ := H
  replace E := E.wr W5
  replace F_counting := F_counting.same W5
  replace F_utilisation := F_utilisation.other W5 (Or.inr (slot_ne (Or.inr (hw _ (List.mem_of_getElem? (i := 37) rfl))) (Or.inr (hw _ (List.mem_of_getElem? (i := 43) rfl))) (by decide) (t := .double) (t' := (.object "com/example/dispatchwright/dispatchwright/simulation/DynamicShop$Counting")) (by decide) (by decide)))
  replace F_warmup := F_warmup.other W5 (Or.inr (slot_ne (Or.inr (hw _ (List.mem_of_getElem? (i := 39) rfl))) (Or.inr (hw _ (List.mem_of_getElem? (i := 43) rfl))) (by decide) (t := .int) (t' := (.object "com/example/dispatchwright/dispatchwright/simulation/DynamicShop$Counting")) (by decide) (by decide)))
  replace F_measured := F_measured.other W5 (Or.inr (slot_ne (Or.inr (hw _ (List.mem_of_getElem? (i := 41) rfl))) (Or.inr (hw _ (List.mem_of_getElem? (i := 43) rfl))) (by decide) (t := .int) (t' := (.object "com/example/dispatchwright/dispatchwright/simulation/DynamicShop$Counting")) (by decide) (by decide)))
  exact k_retV C H d4_99 (by decide) (by decide) ⟨⟨rfl, E, F_utilisation⟩, (Nat.le_trans (Nat.le_trans (Nat.le_trans (Nat.le_trans (Nat.le_refl _) (Keep.of_wr W2).1) (Keep.of_wr W3).1) (Keep.of_wr W4).1) (Keep.of_wr W5).1)⟩
theorem d5_0 : decode prog_37_method_2_code 0 = .ok (.ldc2_w 44, 3) := by decide +kernel
theorem d5_3 : decode prog_37_method_2_code 3 = .ok (.dstore_n 1, 1) := by decide +kernel
theorem d5_4 : decode prog_37_method_2_code 4 = .ok (.ldc2_w 46, 3) := by decide +kernel
theorem d5_7 : decode prog_37_method_2_code 7 = .ok (.dstore_n 3, 1) := by decide +kernel
theorem d5_8 : decode prog_37_method_2_code 8 = .ok (.dload_n 1, 1) := by decide +kernel
theorem d5_9 : decode prog_37_method_2_code 9 = .ok (.dload_n 3, 1) := by decide +kernel
theorem d5_10 : decode prog_37_method_2_code 10 = .ok (.dmul, 1) := by decide +kernel
theorem d5_11 : decode prog_37_method_2_code 11 = .ok (.aload_n 0, 1) := by decide +kernel
theorem d5_12 : decode prog_37_method_2_code 12 = .ok (.getfield 28, 3) := by decide +kernel
theorem d5_15 : decode prog_37_method_2_code 15 = .ok (.ldc2_w 48, 3) := by decide +kernel
theorem d5_18 : decode prog_37_method_2_code 18 = .ok (.dmul, 1) := by decide +kernel
theorem d5_19 : decode prog_37_method_2_code 19 = .ok (.ddiv, 1) := by decide +kernel
theorem d5_20 : decode prog_37_method_2_code 20 = .ok (.dreturn, 1) := by decide +kernel
theorem pl_5 : plainFor (⟨"com/example/dispatchwright/dispatchwright/simulation/DynamicShop", "meanInterarrival", "()D"⟩ : MethodName) = true := plainFor_of_name (by first | (simp [plainName, overriddenIn]; done) | decide +kernel)
theorem ef_5 (mm : MethodId) (a1 : Addr) : entryFrame mm #[(.ref a1)] 5 = mkF mm 0 #[.val (.ref a1), .unset, .unset, .unset, .unset] [] := by first | (simp [entryFrame, mkF, argsToLocals, Value.category]; done) | rfl
set_option maxRecDepth 65536 in
set_option maxHeartbeats 40000000 in
theorem rm5 (l : Launch) (Z : State) (a0 : Array Value) (hw : ∀ d ∈ tables_1, d.before a0 Z = true) (a1 : Addr) (h0 : Heap) (n0 : Nat) (k : Int32) (hk : 1 ≤ k.toInt ∧ k.toInt < 1073741824) (F : Fld Z h0 a1 "com/example/dispatchwright/dispatchwright/simulation/DynamicShop" "utilisation" "D" (.double (own_u k))) :
    Con l (⟨"com/example/dispatchwright/dispatchwright/simulation/DynamicShop", "meanInterarrival", "()D"⟩ : MethodName) prog_37_method_2_code 5 (some .double) ({ frames := 0, cells := 0, slots := 0, locals := 0 } : Room) Z #[(.ref a1)] h0 n0 (fun o h => o = some (.double (own_mean k)) ∧ h0 = h) := by
  refine Con.enter pl_5 (fun mm => ef_5 mm a1) ?_
  intro K O C H
  replace H := k_ldcD C H (hw _ (List.mem_of_getElem? (i := 50) rfl)) d5_0 (pc' := 3) rfl
  replace H := k_dstoreN C H d5_3 (L' := #[.val (.ref a1), .val (.double (4618441417868443648 : UInt64)), .second, .unset, .unset]) rfl (pc' := 4) rfl
  replace H := k_ldcD C H (hw _ (List.mem_of_getElem? (i := 51) rfl)) d5_4 (pc' := 7) rfl
  replace H := k_dstoreN C H d5_7 (L' := #[.val (.ref a1), .val (.double (4618441417868443648 : UInt64)), .second, .val (.double (4632233691727265792 : UInt64)), .second]) rfl (pc' := 8) rfl
  replace H := k_dloadN C H d5_8 rfl (pc' := 9) rfl
  replace H := k_dloadN C H d5_9 rfl (pc' := 10) rfl
  replace H := k_dmul C H d5_10 own_nn300 (pc' := 11) rfl
  replace H := k_aloadN C H d5_11 rfl rfl (pc' := 12) rfl
  replace H := k_getFld C H (hw _ (List.mem_of_getElem? (i := 36) rfl)) F d5_12 (pc' := 15) rfl
  replace H := k_ldcD C H (hw _ (List.mem_of_getElem? (i := 52) rfl)) d5_15 (pc' := 18) rfl
  replace H := k_dmul C H d5_18 (own_nnut k hk) (pc' := 19) rfl
  replace H := k_ddiv C H d5_19 (own_nnmean k hk) (pc' := 20) rfl
  exact k_retD C H d5_20 (by decide) (by decide) ⟨rfl, rfl⟩
theorem pd0_0 : parseMethodDescriptor "(II)I" = some ⟨[.int, .int], some .int⟩ := by decide +kernel
theorem pd0_1 : parseMethodDescriptor "(DIILcom/example/dispatchwright/dispatchwright/simulation/DynamicShop$Counting;)V" = some ⟨[.double, .int, .int, (.object "com/example/dispatchwright/dispatchwright/simulation/DynamicShop$Counting")], none⟩ := by decide +kernel
theorem pd0_2 : parseMethodDescriptor "()D" = some ⟨[], some .double⟩ := by decide +kernel
theorem pl_0 : plainFor x = true := plainFor_of_name (by first | (simp [plainName, overriddenIn]; done) | decide +kernel)
theorem ef_0 (mm : MethodId) (x0 : Int32) (x1 : Int32) (x2 : Int32) (x3 : Int32) : entryFrame mm #[(.int x0), (.int x1), (.int x2), (.int x3)] maxLocals = mkF mm 0 #[.val (.int x0), .val (.int x1), .val (.int x2), .val (.int x3), .unset, .unset, .unset, .unset, .unset, .unset, .unset, .unset, .unset] [] := by first | (simp [entryFrame, mkF, argsToLocals, Value.category, maxLocals]; done) | rfl
set_option maxRecDepth 65536 in
set_option maxHeartbeats 40000000 in
theorem rm0 (l : Launch) (Z : State) (a0 : Array Value) (hw : ∀ d ∈ tables_1, d.before a0 Z = true) (x0 : Int32) (x1 : Int32) (x2 : Int32) (x3 : Int32) (h0 : Heap) (n0 : Nat) (Z0 : n0 ≤ h0.size) (aA aC : Addr) (S_ARRIVALS : Sta Z h0 "com/example/dispatchwright/dispatchwright/simulation/DynamicShop$Counting" "ARRIVALS" "Lcom/example/dispatchwright/dispatchwright/simulation/DynamicShop$Counting;" (.ref aA)) (S_COMPLETIONS : Sta Z h0 "com/example/dispatchwright/dispatchwright/simulation/DynamicShop$Counting" "COMPLETIONS" "Lcom/example/dispatchwright/dispatchwright/simulation/DynamicShop$Counting;" (.ref aC)) :
    ConW l x code maxLocals ret room_1 Z #[(.int x0), (.int x1), (.int x2), (.int x3)] h0 n0 (fun o h => o = some (.int 1)) := by
  refine ConW.enter pl_0 (fun mm => ef_0 mm x0 x1 x2 x3) ?_
  intro K O CW H
  have C := CW.narrow
  obtain ⟨k, e_k, H⟩ : ∃ k : Int32, k = (if (x0 &&& (1073741823 : Int32)) = (0 : Int32) then (1 : Int32) else (x0 &&& (1073741823 : Int32))) ∧ K 14 #[.val (.int x0), .val (.int x1), .val (.int x2), .val (.int x3), .val (.int k), .unset, .unset, .unset, .unset, .unset, .unset, .unset, .unset] [] h0 0 0 := by
    replace H := k_iloadN C H at_0 rfl (pc' := 1) rfl
    replace H := k_ldcI C H (hw _ (List.mem_of_getElem? (i := 0) rfl)) at_1 (pc' := 3) rfl
    replace H := k_iand C H at_3 (pc' := 4) rfl
    replace H := k_istore C H at_4 (L' := #[.val (.int x0), .val (.int x1), .val (.int x2), .val (.int x3), .val (.int (x0 &&& (1073741823 : Int32))), .unset, .unset, .unset, .unset, .unset, .unset, .unset, .unset]) rfl (pc' := 6) rfl
    replace H := k_iload C H at_6 rfl (pc' := 8) rfl
    by_cases hc8 : (x0 &&& (1073741823 : Int32)) = (0 : Int32)
    · replace H := k_ifcN C H at_8 (teq hc8).2 (pc' := 11) rfl
      replace H := k_iconst C H (v := 1) at_11 rfl (pc' := 12) rfl
      replace H := k_istore C H at_12 (L' := #[.val (.int x0), .val (.int x1), .val (.int x2), .val (.int x3), .val (.int (1 : Int32)), .unset, .unset, .unset, .unset, .unset, .unset, .unset, .unset]) rfl (pc' := 14) rfl
      exact ⟨(1 : Int32), by rw [if_pos hc8], H⟩
    · replace H := k_ifcY C H at_8 (feq hc8).2 (by decide) (pc' := 14) rfl
      exact ⟨(x0 &&& (1073741823 : Int32)), by rw [if_neg hc8], H⟩
  have hk := own_bk x0 k e_k
  replace H := k_iload C H at_14 rfl (pc' := 16) rfl
  replace H := k_i2d C H at_16 (pc' := 17) rfl
  replace H := k_ldcD C H (hw _ (List.mem_of_getElem? (i := 1) rfl)) at_17 (pc' := 20) rfl
  replace H := k_ddiv C H at_20 (own_nnu k hk) (pc' := 21) rfl
  replace H : K 21 #[.val (.int x0), .val (.int x1), .val (.int x2), .val (.int x3), .val (.int k), .unset, .unset, .unset, .unset, .unset, .unset, .unset, .unset] [(.double (own_u k))] h0 0 0 := H
  replace H := k_dstore C H at_21 (L' := #[.val (.int x0), .val (.int x1), .val (.int x2), .val (.int x3), .val (.int k), .val (.double (own_u k)), .second, .unset, .unset, .unset, .unset, .unset, .unset]) rfl (pc' := 23) rfl
  replace H := k_iloadN C H at_23 rfl (pc' := 24) rfl
  replace H := k_ldcI C H (hw _ (List.mem_of_getElem? (i := 2) rfl)) at_24 (pc' := 26) rfl
  replace H := k_iand C H at_26 (pc' := 27) rfl
  replace H := k_istore C H at_27 (L' := #[.val (.int x0), .val (.int x1), .val (.int x2), .val (.int x3), .val (.int k), .val (.double (own_u k)), .second, .val (.int (x1 &&& (2147483647 : Int32))), .unset, .unset, .unset, .unset, .unset]) rfl (pc' := 29) rfl
  replace H := k_iconst C H (v := 1) at_29 rfl (pc' := 30) rfl
  replace H := k_iloadN C H at_30 rfl (pc' := 31) rfl
  replace H := k_ldcI C H (hw _ (List.mem_of_getElem? (i := 2) rfl)) at_31 (pc' := 33) rfl
  replace H := k_iand C H at_33 (pc' := 34) rfl
  replace H := k_callSta C H (rm1 l Z a0 hw (1 : Int32) (x2 &&& (2147483647 : Int32)) h0 n0) (hw _ (List.mem_of_getElem? (i := 3) rfl)) (hw _ (List.mem_of_getElem? (i := 4) rfl)) (hw _ (List.mem_of_getElem? (i := 5) rfl)) (hw _ (List.mem_of_getElem? (i := 6) rfl)) (by decide) at_34 rfl [(.int (1 : Int32)), (.int (x2 &&& (2147483647 : Int32)))] [] pd0_0 rfl rfl rfl 0 rfl (by decide) (by decide) (by decide) (by decide) (pc' := 37) rfl
  obtain ⟨_, _, ⟨rfl, rfl⟩, H⟩ := H
  replace H : K 37 #[.val (.int x0), .val (.int x1), .val (.int x2), .val (.int x3), .val (.int k), .val (.double (own_u k)), .second, .val (.int (x1 &&& (2147483647 : Int32))), .unset, .unset, .unset, .unset, .unset] [(.int (own_max (1 : Int32) (x2 &&& (2147483647 : Int32))))] h0 0 0 := H
  replace H := k_istore C H at_37 (L' := #[.val (.int x0), .val (.int x1), .val (.int x2), .val (.int x3), .val (.int k), .val (.double (own_u k)), .second, .val (.int (x1 &&& (2147483647 : Int32))), .val (.int (own_max (1 : Int32) (x2 &&& (2147483647 : Int32)))), .unset, .unset, .unset, .unset]) rfl (pc' := 39) rfl
  replace H := k_iloadN C H at_39 rfl (pc' := 40) rfl
  replace H := k_iconst C H (v := 1) at_40 rfl (pc' := 41) rfl
  replace H := k_iand C H at_41 (pc' := 42) rfl
  obtain ⟨aX, e_aX, H⟩ : ∃ aX : Addr, aX = (if (x3 &&& (1 : Int32)) = (0 : Int32) then aC else aA) ∧ K 54 #[.val (.int x0), .val (.int x1), .val (.int x2), .val (.int x3), .val (.int k), .val (.double (own_u k)), .second, .val (.int (x1 &&& (2147483647 : Int32))), .val (.int (own_max (1 : Int32) (x2 &&& (2147483647 : Int32)))), .unset, .unset, .unset, .unset] [(.ref aX)] h0 0 0 := by
    by_cases hc42 : (x3 &&& (1 : Int32)) = (0 : Int32)
    · replace H := k_ifcY C H at_42 (teq hc42).1 (by decide) (pc' := 51) rfl
      replace H := k_getSta C H (hw _ (List.mem_of_getElem? (i := 53) rfl)) S_COMPLETIONS at_51 (pc' := 54) rfl
      exact ⟨aC, by rw [if_pos hc42], H⟩
    · replace H := k_ifcN C H at_42 (feq hc42).1 (pc' := 45) rfl
      replace H := k_getSta C H (hw _ (List.mem_of_getElem? (i := 7) rfl)) S_ARRIVALS at_45 (pc' := 48) rfl
      replace H := k_goto C H at_48 (by decide) (pc' := 54) rfl
      exact ⟨aA, by rw [if_neg hc42], H⟩
  replace H := k_astore C H at_54 (L' := #[.val (.int x0), .val (.int x1), .val (.int x2), .val (.int x3), .val (.int k), .val (.double (own_u k)), .second, .val (.int (x1 &&& (2147483647 : Int32))), .val (.int (own_max (1 : Int32) (x2 &&& (2147483647 : Int32)))), .val (.ref aX), .unset, .unset, .unset]) rfl rfl (pc' := 56) rfl
  replace H := k_newObj C H (hw _ (List.mem_of_getElem? (i := 10) rfl)) (hw _ (List.mem_of_getElem? (i := 11) rfl)) (hw _ (List.mem_of_getElem? (i := 12) rfl)) at_56 (by decide) (by decide) (pc' := 59) rfl
  obtain ⟨g1, b1, g_b1, E_b1, X_b1, D_b1, H⟩ := H
  replace H : K 59 #[.val (.int x0), .val (.int x1), .val (.int x2), .val (.int x3), .val (.int k), .val (.double (own_u k)), .second, .val (.int (x1 &&& (2147483647 : Int32))), .val (.int (own_max (1 : Int32) (x2 &&& (2147483647 : Int32)))), .val (.ref aX), .unset, .unset, .unset] [(.ref b1)] g1 1 4 := H
  have n_b1 : n0 ≤ b1 := Nat.le_trans Z0 (Nat.le_of_eq g_b1.symm)
  have Z_b1 : n0 ≤ g1.size := Nat.le_trans Z0 E_b1.1
  have F_b1_utilisation : Fld Z g1 b1 "com/example/dispatchwright/dispatchwright/simulation/DynamicShop" "utilisation" "D" (.double (0 : UInt64)) := D_b1 (Or.inr (hw _ (List.mem_of_getElem? (i := 37) rfl))) (ty := .double) (by decide)
  have F_b1_warmup : Fld Z g1 b1 "com/example/dispatchwright/dispatchwright/simulation/DynamicShop" "warmup" "I" (.int (0 : Int32)) := D_b1 (Or.inr (hw _ (List.mem_of_getElem? (i := 39) rfl))) (ty := .int) (by decide)
  have F_b1_measured : Fld Z g1 b1 "com/example/dispatchwright/dispatchwright/simulation/DynamicShop" "measured" "I" (.int (0 : Int32)) := D_b1 (Or.inr (hw _ (List.mem_of_getElem? (i := 41) rfl))) (ty := .int) (by decide)
  have F_b1_counting : Fld Z g1 b1 "com/example/dispatchwright/dispatchwright/simulation/DynamicShop" "counting" "Lcom/example/dispatchwright/dispatchwright/simulation/DynamicShop$Counting;" .null := D_b1 (Or.inr (hw _ (List.mem_of_getElem? (i := 43) rfl))) (ty := (.object "com/example/dispatchwright/dispatchwright/simulation/DynamicShop$Counting")) (by decide)
  replace H := k_dup C H at_59 rfl (pc' := 60) rfl
  replace H := k_dload C H at_60 rfl (pc' := 62) rfl
  replace H := k_iload C H at_62 rfl (pc' := 64) rfl
  replace H := k_iload C H at_64 rfl (pc' := 66) rfl
  replace H := k_aload C H at_66 rfl rfl (pc' := 68) rfl
  obtain ⟨_, K, g2, ⟨rfl, X1, FU⟩, gs_g2, CW, H⟩ := k_callConW CW H (rm4 l Z a0 hw b1 (own_u k) (x1 &&& (2147483647 : Int32)) (own_max (1 : Int32) (x2 &&& (2147483647 : Int32))) aX g1 n0 _ _ _ _ X_b1 F_b1_utilisation F_b1_warmup F_b1_measured F_b1_counting n_b1 (own_pos k hk) (own_lt1 k hk) (own_warm x1) (own_meas x2)) rfl (hw _ (List.mem_of_getElem? (i := 13) rfl)) (hw _ (List.mem_of_getElem? (i := 14) rfl)) (hw _ (List.mem_of_getElem? (i := 12) rfl)) (hw _ (List.mem_of_getElem? (i := 15) rfl)) (by decide) at_68 rfl b1 [(.double (own_u k)), (.int (x1 &&& (2147483647 : Int32))), (.int (own_max (1 : Int32) (x2 &&& (2147483647 : Int32)))), (.ref aX)] [(.ref b1)] pd0_1 rfl rfl rfl 1 rfl (by decide) (by decide) (by decide) (by decide) (pc' := 71) rfl
  have C := CW.narrow
  replace H : K 71 #[.val (.int x0), .val (.int x1), .val (.int x2), .val (.int x3), .val (.int k), .val (.double (own_u k)), .second, .val (.int (x1 &&& (2147483647 : Int32))), .val (.int (own_max (1 : Int32) (x2 &&& (2147483647 : Int32)))), .val (.ref aX), .unset, .unset, .unset] [(.ref b1)] g2 3 40 := H
  replace H := k_astore C H at_71 (L' := #[.val (.int x0), .val (.int x1), .val (.int x2), .val (.int x3), .val (.int k), .val (.double (own_u k)), .second, .val (.int (x1 &&& (2147483647 : Int32))), .val (.int (own_max (1 : Int32) (x2 &&& (2147483647 : Int32)))), .val (.ref aX), .val (.ref b1), .unset, .unset]) rfl rfl (pc' := 73) rfl
  replace H := k_ldcD C H (hw _ (List.mem_of_getElem? (i := 44) rfl)) at_73 (pc' := 76) rfl
  replace H := k_iload C H at_76 rfl (pc' := 78) rfl
  replace H := k_i2d C H at_78 (pc' := 79) rfl
  replace H := k_ddiv C H at_79 (own_nnexp k hk) (pc' := 80) rfl
  replace H : K 80 #[.val (.int x0), .val (.int x1), .val (.int x2), .val (.int x3), .val (.int k), .val (.double (own_u k)), .second, .val (.int (x1 &&& (2147483647 : Int32))), .val (.int (own_max (1 : Int32) (x2 &&& (2147483647 : Int32)))), .val (.ref aX), .val (.ref b1), .unset, .unset] [(.double (own_exp k))] g2 3 40 := H
  replace H := k_dstore C H at_80 (L' := #[.val (.int x0), .val (.int x1), .val (.int x2), .val (.int x3), .val (.int k), .val (.double (own_u k)), .second, .val (.int (x1 &&& (2147483647 : Int32))), .val (.int (own_max (1 : Int32) (x2 &&& (2147483647 : Int32)))), .val (.ref aX), .val (.ref b1), .val (.double (own_exp k)), .second]) rfl (pc' := 82) rfl
  replace H := k_aload C H at_82 rfl rfl (pc' := 84) rfl
  replace H := k_callVir C H (rm5 l Z a0 hw b1 g2 n0 k hk FU) X1 (hw _ (List.mem_of_getElem? (i := 45) rfl)) (hw _ (List.mem_of_getElem? (i := 46) rfl)) (hw _ (List.mem_of_getElem? (i := 48) rfl)) (hw _ (List.mem_of_getElem? (i := 47) rfl)) (hw _ (List.mem_of_getElem? (i := 12) rfl)) (hw _ (List.mem_of_getElem? (i := 49) rfl)) (by decide) at_84 rfl [] [] pd0_2 rfl rfl rfl 0 rfl (by decide) (by decide) (by decide) (by decide) (pc' := 87) rfl
  obtain ⟨_, _, ⟨rfl, rfl⟩, H⟩ := H
  replace H : K 87 #[.val (.int x0), .val (.int x1), .val (.int x2), .val (.int x3), .val (.int k), .val (.double (own_u k)), .second, .val (.int (x1 &&& (2147483647 : Int32))), .val (.int (own_max (1 : Int32) (x2 &&& (2147483647 : Int32)))), .val (.ref aX), .val (.ref b1), .val (.double (own_exp k)), .second] [(.double (own_mean k))] g2 3 40 := H
  replace H := k_dload C H at_87 rfl (pc' := 89) rfl
  replace H := k_dcmp C H at_89 (pc' := 90) rfl
  replace H := k_ifcN C H at_90 (teq (own_law k hk)).2 (pc' := 93) rfl
  replace H := k_iconst C H (v := 1) at_93 rfl (pc' := 94) rfl
  replace H := k_goto C H at_94 (by decide) (pc' := 98) rfl
  exact k_retZ C H at_98 (by decide) (by decide) (by decide) ⟨rfl, Nat.le_refl _⟩
set_option maxRecDepth 65536 in
set_option maxHeartbeats 40000000 in
theorem comes_1 {Post : Tables → Env → Array Value → State → Outcome → State → Prop} (hpost : ∀ tb e args s v u, (limb_1_1.after args s (.returned v) u = true ∧ limb_1_2.after args s (.returned v) u = true) → ReturnedEndW s (.returned v) u (Jvm.fieldLocs frame_1_writes args s ++ Jvm.arrayLocs frame_1_arrays args s ++ Jvm.staticLocs frame_1_statics s) 16 1152 → Post tb e args s (.returned v) u) :
    ArmFor flags0 classFile x code maxLocals ret World_1 tables_1 room_1 Calls_1 rest_1 Pre_1 Post := by
  intro l hfl _ _ p e ha hc hk s m args below hf hA hF happ hP
  obtain ⟨hcalls, hrest, hpre⟩ := hP
  obtain ⟨-, -, -, hnamed, -, -, -, hat⟩ := (Spec.applies_iff hf).mp happ
  obtain ⟨hg, hn⟩ := and_e (Cond.before_iff.mp (show (Jvm.Cond.and given_1 narrow_1).before args s = true from hpre))
  obtain ⟨g0, r0⟩ := and_e hg
  obtain ⟨g1, r1⟩ := and_e r0
  obtain ⟨g2, r2⟩ := and_e r1
  obtain ⟨g3, r3⟩ := and_e r2
  obtain ⟨w0, w1, w2, w3, rfl⟩ : ∃ w0 w1 w2 w3 : Value, args = #[w0, w1, w2, w3] := by
    have hs : args.size = 4 := by simpa [Cond.value, given_1] using g0
    obtain ⟨L⟩ := args
    match L, hs with
    | [w0, w1, w2, w3], _ => exact ⟨w0, w1, w2, w3, rfl⟩
  have hw := fun d (hd : d ∈ tables_1) => atoms_spec (ws := Jvm.Cond.code x code maxLocals ret :: tables_1) hat d (List.mem_cons_of_mem _ hd)
  obtain ⟨i0, ei0⟩ := is_v g1
  obtain rfl : w0 = (.int i0) := Option.some.inj ei0
  obtain ⟨i1, ei1⟩ := is_v g2
  obtain rfl : w1 = (.int i1) := Option.some.inj ei1
  obtain ⟨i2, ei2⟩ := is_v g3
  obtain rfl : w2 = (.int i2) := Option.some.inj ei2
  obtain ⟨i3, ei3⟩ := is_v r3
  obtain rfl : w3 = (.int i3) := Option.some.inj ei3
  obtain ⟨xA, xC⟩ := and_e hn
  obtain ⟨aA, vaA⟩ := exa_v xA
  have S_ARRIVALS := Sta.start vaA (Or.inr ⟨(hw _ (List.mem_of_getElem? (i := 8) rfl)), (hw _ (List.mem_of_getElem? (i := 9) rfl))⟩)
  obtain ⟨aC, vaC⟩ := exa_v xC
  have S_COMPLETIONS := Sta.start vaC (Or.inr ⟨(hw _ (List.mem_of_getElem? (i := 8) rfl)), (hw _ (List.mem_of_getElem? (i := 54) rfl))⟩)
  obtain ⟨n, o, h1, h2, h3, _, L, rfl, ⟨rfl, N⟩, hq⟩ := rm0 l s _ hw i0 i1 i2 i3 s.heap s.heap.size (Nat.le_refl _) aA aC S_ARRIVALS S_COMPLETIONS tables_1 p e ha hc hk s m _ below hf ((Spec.applies_iff_loose hf).mp happ).1 ⟨rfl, State.Warmed39.refl s, rfl⟩ trivial
  refine ⟨n, _, h1, h2, h3, hpost _ _ _ _ _ _ ⟨Cond.after_iff.mpr rfl, Cond.after_iff.mpr (eq_i res_at (Term.int_eval (1)) rfl)⟩ ⟨hq.1, hq.2.1, hq.2.2.1, (hq.2.2.2.sift fun y hy => Or.inr (N y hy)).mono (by decide) (by decide)⟩⟩
theorem main_1_1 : Claimed_1_1 := comes_1 fun _ _ _ _ _ _ h hF => ⟨h.1, hF⟩
theorem main_1_2 : Claimed_1_2 := comes_1 fun _ _ _ _ _ _ h hF => ⟨h.2, hF⟩
end Jvm.Pilot.@@N@@
namespace Jvm.Pilot.@@N@@
open Jvm Jvm.ClassFile Sem Op Lib Jvm.Free Jvm.Stand Jvm.Pilot.@@N@@.Jvm.D
/-! MADE BY PROGRAM (witnessworld.py) out of the Statement's table words and the real class files: 19 classes; the members and pool entries that the words name. The judged class is class 1, her method 1. -/
namespace start1
open Jvm.ClassFile
def u (s : String) : CpInfo := .utf8 (stringToUtf16 s)
/-- a pool by its gaps: so many unusable entries, then the entry; so many at the end -/
def gap : Nat → List CpInfo → List CpInfo
  | 0, r => r
  | n + 1, r => .unusable :: gap n r
def poolList (es : List (Nat × CpInfo)) (last : Nat) : List CpInfo := es.foldr (fun e r => gap e.1 (e.2 :: r)) (gap last [])
def pool (es : List (Nat × CpInfo)) (last : Nat) : Array CpInfo := ⟨poolList es last⟩
def fileOf (pool : Array CpInfo) (this : Nat) (attrs : Array Attribute := #[]) (ms : Array MethodInfo := #[]) (fl : Nat := 33) (sup : Nat := 0) (ifs : Array Nat := #[]) (fds : Array FieldInfo := #[]) : ClassFile where
  minorVersion := 0
  majorVersion := 65
  constantPool := pool
  accessFlags := fl
  thisClass := this
  superClass := sup
  interfaces := ifs
  fields := fds
  methods := ms
  attributes := attrs
def plain (name : String) (sup : Option ClassId) : Class where
  name := name
  kind := .ordinary
  loader := none
  accessFlags := 33
  super := sup
  interfaces := #[]
  cf := none
  fields := #[]
  methods := #[]
  instanceTypes := #[]
  staticTypes := #[]
  resolved := #[]
  callSites := []
  init := .initialized
  statics := none
  mirror := none

def pool0 : Array CpInfo := pool [(5, u "<init>"), (0, u "()V"), (1, .class_ 10), (1, u "java/lang/Object")] 113

def k0c0 : Code := { maxStack := 0, maxLocals := 1, code := object_method_1_code, exceptionTable := #[], attributes := #[] }
def k0m0 : Method := { name := "<init>", desc := "()V", sig := { parameters := [], returnType := none }, accessFlags := 1, code := some k0c0 }
/-- java/lang/Object -/
def k0 : Class := { plain "java/lang/Object" none with
  accessFlags := 33
  interfaces := #[]
  cf := some (fileOf pool0 8 #[] #[{ accessFlags := 1, nameIndex := 5, descriptorIndex := 6, attributes := #[] }] 33 0 #[] #[])
  fields := #[]
  methods := #[k0m0]
  instanceTypes := #[]
  staticTypes := #[]
  resolved := Array.replicate 124 none
  statics := none }

def pool1 : Array CpInfo := pool [(2, .class_ 4), (1, u "java/lang/Object"), (0, u "<init>"), (0, u "()V"), (0, .integer 1073741823), (0, .double 4742290407621132288), (1, .integer 2147483647), (0, .methodref 12 13), (0, .class_ 14), (0, .nameAndType 15 16), (0, u "java/lang/Math"), (0, u "max"), (0, u "(II)I"), (0, .fieldref 18 19), (0, .class_ 20), (0, .nameAndType 21 22), (0, u "com/example/dispatchwright/dispatchwright/simulation/DynamicShop$Counting"), (0, u "ARRIVALS"), (0, u "Lcom/example/dispatchwright/dispatchwright/simulation/DynamicShop$Counting;"), (0, .fieldref 18 24), (0, .nameAndType 25 22), (0, u "COMPLETIONS"), (0, .class_ 27), (0, u "com/example/dispatchwright/dispatchwright/simulation/DynamicShop"), (0, .methodref 26 29), (0, .nameAndType 5 30), (0, u "(DIILcom/example/dispatchwright/dispatchwright/simulation/DynamicShop$Counting;)V"), (0, .double 4764245455804563456), (1, .methodref 26 34), (0, .nameAndType 35 36), (0, u "meanInterarrival"), (0, u "()D"), (0, .class_ 38), (0, u "com/example/dispatchwright/dispatchwright/simulation/DynamicShopMeanInterarrivalPinLaw"), (2, u "law"), (0, u "(IIII)Z")] 5

def k1m0 : Method := { name := "<init>", desc := "()V", sig := { parameters := [], returnType := none }, accessFlags := 1, code := none }
def k1c1 : Code := { maxStack := 7, maxLocals := 13, code := code, exceptionTable := #[], attributes := #[] }
def k1m1 : Method := { name := "law", desc := "(IIII)Z", sig := { parameters := [.int, .int, .int, .int], returnType := some .boolean }, accessFlags := 9, code := some k1c1 }
/-- com/example/dispatchwright/dispatchwright/simulation/DynamicShopMeanInterarrivalPinLaw -/
def k1 : Class := { plain "com/example/dispatchwright/dispatchwright/simulation/DynamicShopMeanInterarrivalPinLaw" (some 0) with
  accessFlags := 49
  interfaces := #[]
  cf := some (fileOf pool1 37 #[] #[{ accessFlags := 1, nameIndex := 5, descriptorIndex := 6, attributes := #[] }, { accessFlags := 9, nameIndex := 41, descriptorIndex := 42, attributes := #[] }] 49 2 #[] #[])
  fields := #[]
  methods := #[k1m0, k1m1]
  instanceTypes := #[]
  staticTypes := #[]
  resolved := Array.replicate 48 none
  statics := none }

def pool2 : Array CpInfo := pool [(1, .class_ 2), (0, u "java/lang/Math"), (1, .class_ 6), (1, u "java/lang/Object"), (0, u "<init>"), (0, u "()V"), (89, .class_ 100), (1, u "java/lang/Math$RandomNumberGeneratorHolder"), (71, u "negativeZeroFloatBits"), (0, u "J"), (2, u "negativeZeroDoubleBits"), (21, u "max"), (46, u "$assertionsDisabled"), (0, u "Z"), (88, u "(II)I"), (2, u "twoToTheDoubleScaleDown"), (0, u "D"), (4, u "twoToTheDoubleScaleUp"), (9, u "E"), (3, u "PI"), (2, u "TAU"), (2, u "DEGREES_TO_RADIANS"), (0, u "RADIANS_TO_DEGREES")] 94

def k2m0 : Method := { name := "<init>", desc := "()V", sig := { parameters := [], returnType := none }, accessFlags := 2, code := none }
def k2c1 : Code := { maxStack := 2, maxLocals := 2, code := jdk_29_method_65_code, exceptionTable := #[], attributes := #[] }
def k2m1 : Method := { name := "max", desc := "(II)I", sig := { parameters := [.int, .int], returnType := some .int }, accessFlags := 9, code := some k2c1 }
/-- java/lang/Math -/
def k2 : Class := { plain "java/lang/Math" (some 0) with
  accessFlags := 49
  interfaces := #[]
  cf := some (fileOf pool2 1 #[.nestMembers #[98]] #[{ accessFlags := 2, nameIndex := 7, descriptorIndex := 8, attributes := #[] }, { accessFlags := 9, nameIndex := 198, descriptorIndex := 335, attributes := #[] }] 49 4 #[] #[{ accessFlags := 25, nameIndex := 354, descriptorIndex := 339, attributes := #[] }, { accessFlags := 25, nameIndex := 358, descriptorIndex := 339, attributes := #[] }, { accessFlags := 25, nameIndex := 361, descriptorIndex := 339, attributes := #[] }, { accessFlags := 26, nameIndex := 364, descriptorIndex := 339, attributes := #[] }, { accessFlags := 26, nameIndex := 365, descriptorIndex := 339, attributes := #[] }, { accessFlags := 26, nameIndex := 172, descriptorIndex := 173, attributes := #[] }, { accessFlags := 26, nameIndex := 176, descriptorIndex := 173, attributes := #[] }, { accessFlags := 8, nameIndex := 344, descriptorIndex := 339, attributes := #[] }, { accessFlags := 8, nameIndex := 338, descriptorIndex := 339, attributes := #[] }, { accessFlags := 4120, nameIndex := 245, descriptorIndex := 246, attributes := #[] }])
  fields := #[{ name := "E", type := .double, accessFlags := 25, slot := 0, constantValue := 0 }, { name := "PI", type := .double, accessFlags := 25, slot := 1, constantValue := 0 }, { name := "TAU", type := .double, accessFlags := 25, slot := 2, constantValue := 0 }, { name := "DEGREES_TO_RADIANS", type := .double, accessFlags := 26, slot := 3, constantValue := 0 }, { name := "RADIANS_TO_DEGREES", type := .double, accessFlags := 26, slot := 4, constantValue := 0 }, { name := "negativeZeroFloatBits", type := .long, accessFlags := 26, slot := 5, constantValue := 0 }, { name := "negativeZeroDoubleBits", type := .long, accessFlags := 26, slot := 6, constantValue := 0 }, { name := "twoToTheDoubleScaleUp", type := .double, accessFlags := 8, slot := 7, constantValue := 0 }, { name := "twoToTheDoubleScaleDown", type := .double, accessFlags := 8, slot := 8, constantValue := 0 }, { name := "$assertionsDisabled", type := .boolean, accessFlags := 4120, slot := 9, constantValue := 0 }]
  methods := #[k2m0, k2m1]
  instanceTypes := #[]
  staticTypes := #[.double, .double, .double, .double, .double, .long, .long, .double, .double, .boolean]
  resolved := Array.replicate 460 none
  statics := none }

def pool3 : Array CpInfo := pool [(1, .class_ 2), (0, u "java/lang/constant/Constable"), (0, .class_ 4), (0, u "java/lang/Object")] 6

/-- java/lang/constant/Constable -/
def k3 : Class := { plain "java/lang/constant/Constable" (some 0) with
  accessFlags := 1537
  interfaces := #[]
  cf := some (fileOf pool3 1 #[] #[] 1537 3 #[] #[])
  fields := #[]
  methods := #[]
  instanceTypes := #[]
  staticTypes := #[]
  resolved := Array.replicate 11 none
  statics := none }

def pool4 : Array CpInfo := pool [(1, .class_ 2), (0, u "java/lang/Comparable"), (0, .class_ 4), (0, u "java/lang/Object")] 7

/-- java/lang/Comparable -/
def k4 : Class := { plain "java/lang/Comparable" (some 0) with
  accessFlags := 1537
  interfaces := #[]
  cf := some (fileOf pool4 1 #[] #[] 1537 3 #[] #[])
  fields := #[]
  methods := #[]
  instanceTypes := #[]
  staticTypes := #[]
  resolved := Array.replicate 12 none
  statics := none }

def pool5 : Array CpInfo := pool [(1, .class_ 2), (0, u "java/io/Serializable"), (0, .class_ 4), (0, u "java/lang/Object")] 2

/-- java/io/Serializable -/
def k5 : Class := { plain "java/io/Serializable" (some 0) with
  accessFlags := 1537
  interfaces := #[]
  cf := some (fileOf pool5 1 #[] #[] 1537 3 #[] #[])
  fields := #[]
  methods := #[]
  instanceTypes := #[]
  staticTypes := #[]
  resolved := Array.replicate 7 none
  statics := none }

def pool6 : Array CpInfo := pool [(2, .class_ 4), (1, u "java/lang/Enum"), (0, u "name"), (0, u "Ljava/lang/String;"), (2, u "ordinal"), (0, u "I"), (1, .class_ 14), (1, u "java/lang/Object"), (4, u "hash"), (86, .class_ 108), (1, u "java/lang/Enum$EnumDesc"), (2, .class_ 112), (0, u "java/lang/constant/Constable"), (0, .class_ 114), (0, u "java/lang/Comparable"), (0, .class_ 116), (0, u "java/io/Serializable")] 87

/-- java/lang/Enum -/
def k6 : Class := { plain "java/lang/Enum" (some 0) with
  accessFlags := 1057
  interfaces := #[3, 4, 5]
  cf := some (fileOf pool6 2 #[.nestMembers #[106]] #[] 1057 12 #[111, 113, 115] #[{ accessFlags := 18, nameIndex := 5, descriptorIndex := 6, attributes := #[] }, { accessFlags := 18, nameIndex := 9, descriptorIndex := 10, attributes := #[] }, { accessFlags := 2, nameIndex := 19, descriptorIndex := 10, attributes := #[] }])
  fields := #[{ name := "name", type := (.object "java/lang/String"), accessFlags := 18, slot := 0, constantValue := 0 }, { name := "ordinal", type := .int, accessFlags := 18, slot := 1, constantValue := 0 }, { name := "hash", type := .int, accessFlags := 2, slot := 2, constantValue := 0 }]
  methods := #[]
  instanceTypes := #[(.object "java/lang/String"), .int, .int]
  staticTypes := #[]
  resolved := Array.replicate 204 none
  statics := none }

def pool7 : Array CpInfo := pool [(1, .class_ 2), (0, u "com/example/dispatchwright/dispatchwright/simulation/DynamicShop$Counting"), (2, u "COMPLETIONS"), (0, u "Lcom/example/dispatchwright/dispatchwright/simulation/DynamicShop$Counting;"), (2, u "ARRIVALS"), (2, u "$VALUES"), (0, u "[Lcom/example/dispatchwright/dispatchwright/simulation/DynamicShop$Counting;"), (6, .class_ 22), (1, u "java/lang/Enum"), (25, .class_ 49), (0, u "com/example/dispatchwright/dispatchwright/simulation/DynamicShop")] 2

/-- com/example/dispatchwright/dispatchwright/simulation/DynamicShop$Counting -/
def k7 : Class := { plain "com/example/dispatchwright/dispatchwright/simulation/DynamicShop$Counting" (some 6) with
  accessFlags := 16433
  interfaces := #[]
  cf := some (fileOf pool7 1 #[.nestHost 48] #[] 16433 20 #[] #[{ accessFlags := 16409, nameIndex := 5, descriptorIndex := 6, attributes := #[] }, { accessFlags := 16409, nameIndex := 9, descriptorIndex := 6, attributes := #[] }, { accessFlags := 4122, nameIndex := 12, descriptorIndex := 13, attributes := #[] }])
  fields := #[{ name := "COMPLETIONS", type := (.object "com/example/dispatchwright/dispatchwright/simulation/DynamicShop$Counting"), accessFlags := 16409, slot := 0, constantValue := 0 }, { name := "ARRIVALS", type := (.object "com/example/dispatchwright/dispatchwright/simulation/DynamicShop$Counting"), accessFlags := 16409, slot := 1, constantValue := 0 }, { name := "$VALUES", type := (.array (.object "com/example/dispatchwright/dispatchwright/simulation/DynamicShop$Counting")), accessFlags := 4122, slot := 2, constantValue := 0 }]
  methods := #[]
  instanceTypes := #[(.object "java/lang/String"), .int, .int]
  staticTypes := #[(.object "com/example/dispatchwright/dispatchwright/simulation/DynamicShop$Counting"), (.object "com/example/dispatchwright/dispatchwright/simulation/DynamicShop$Counting"), (.array (.object "com/example/dispatchwright/dispatchwright/simulation/DynamicShop$Counting"))]
  resolved := Array.replicate 52 none
  statics := some 0 }

def pool8 : Array CpInfo := pool [(1, .methodref 2 3), (0, .class_ 4), (0, .nameAndType 5 6), (0, u "java/lang/Object"), (0, u "<init>"), (0, u "()V"), (0, .class_ 8), (0, u "java/lang/Record")] 13

def k8c0 : Code := { maxStack := 1, maxLocals := 1, code := jdk_30_method_1_code, exceptionTable := #[], attributes := #[] }
def k8m0 : Method := { name := "<init>", desc := "()V", sig := { parameters := [], returnType := none }, accessFlags := 4, code := some k8c0 }
/-- java/lang/Record -/
def k8 : Class := { plain "java/lang/Record" (some 0) with
  accessFlags := 1057
  interfaces := #[]
  cf := some (fileOf pool8 7 #[] #[{ accessFlags := 4, nameIndex := 5, descriptorIndex := 6, attributes := #[] }] 1057 2 #[] #[])
  fields := #[]
  methods := #[k8m0]
  instanceTypes := #[]
  staticTypes := #[]
  resolved := Array.replicate 22 none
  statics := none }

def pool9 : Array CpInfo := pool [(1, .methodref 2 3), (0, .class_ 4), (0, .nameAndType 5 6), (0, u "java/lang/Record"), (0, u "<init>"), (0, u "()V"), (13, .string 21), (0, u "counting"), (0, .methodref 23 24), (0, .class_ 25), (0, .nameAndType 26 27), (0, u "java/util/Objects"), (0, u "requireNonNull"), (0, u "(Ljava/lang/Object;Ljava/lang/String;)Ljava/lang/Object;"), (0, .fieldref 29 30), (0, .class_ 31), (0, .nameAndType 32 33), (0, u "com/example/dispatchwright/dispatchwright/simulation/DynamicShop"), (0, u "utilisation"), (0, u "D"), (0, .fieldref 29 35), (0, .nameAndType 36 37), (0, u "warmup"), (0, u "I"), (0, .fieldref 29 39), (0, .nameAndType 40 37), (0, u "measured"), (0, .fieldref 29 42), (0, .nameAndType 21 43), (0, u "Lcom/example/dispatchwright/dispatchwright/simulation/DynamicShop$Counting;"), (0, .double 4618441417868443648), (1, .double 4632233691727265792), (1, .double 4621819117588971520), (11, .class_ 61), (0, u "com/example/dispatchwright/dispatchwright/simulation/DynamicShop$Arrivals"), (4, u "meanInterarrival"), (0, u "()D"), (45, .class_ 114), (0, u "com/example/dispatchwright/dispatchwright/simulation/DynamicShop$Recorder"), (113, u "WEIGHTS"), (0, u "Ljava/util/List;"), (6, u "WEIGHT_PROBABILITIES"), (0, u "[D"), (0, u "MACHINES"), (2, u "PUBLISHED_WARMUP"), (1, u "PUBLISHED_MEASURED"), (3, u "MIN_OPERATIONS"), (1, u "MAX_OPERATIONS"), (0, u "MIN_PROCESSING_TIME"), (2, u "MAX_PROCESSING_TIME"), (2, u "DUE_DATE_FACTOR"), (2, u "(DIILcom/example/dispatchwright/dispatchwright/simulation/DynamicShop$Counting;)V"), (3, .class_ 264), (0, u "com/example/dispatchwright/dispatchwright/simulation/DynamicShop$Counting")] 90

def k9c0 : Code := { maxStack := 4, maxLocals := 6, code := prog_37_method_1_code, exceptionTable := #[], attributes := #[] }
def k9m0 : Method := { name := "<init>", desc := "(DIILcom/example/dispatchwright/dispatchwright/simulation/DynamicShop$Counting;)V", sig := { parameters := [.double, .int, .int, (.object "com/example/dispatchwright/dispatchwright/simulation/DynamicShop$Counting")], returnType := none }, accessFlags := 1, code := some k9c0 }
def k9c1 : Code := { maxStack := 6, maxLocals := 5, code := prog_37_method_2_code, exceptionTable := #[], attributes := #[] }
def k9m1 : Method := { name := "meanInterarrival", desc := "()D", sig := { parameters := [], returnType := some .double }, accessFlags := 1, code := some k9c1 }
/-- com/example/dispatchwright/dispatchwright/simulation/DynamicShop -/
def k9 : Class := { plain "com/example/dispatchwright/dispatchwright/simulation/DynamicShop" (some 8) with
  accessFlags := 49
  interfaces := #[]
  cf := some (fileOf pool9 29 #[.nestMembers #[60, 113, 263]] #[{ accessFlags := 1, nameIndex := 5, descriptorIndex := 259, attributes := #[] }, { accessFlags := 1, nameIndex := 66, descriptorIndex := 67, attributes := #[] }] 49 2 #[] #[{ accessFlags := 18, nameIndex := 32, descriptorIndex := 33, attributes := #[] }, { accessFlags := 18, nameIndex := 36, descriptorIndex := 37, attributes := #[] }, { accessFlags := 18, nameIndex := 40, descriptorIndex := 37, attributes := #[] }, { accessFlags := 18, nameIndex := 21, descriptorIndex := 43, attributes := #[] }, { accessFlags := 25, nameIndex := 238, descriptorIndex := 37, attributes := #[] }, { accessFlags := 25, nameIndex := 241, descriptorIndex := 37, attributes := #[] }, { accessFlags := 25, nameIndex := 243, descriptorIndex := 37, attributes := #[] }, { accessFlags := 25, nameIndex := 228, descriptorIndex := 229, attributes := #[] }, { accessFlags := 24, nameIndex := 247, descriptorIndex := 37, attributes := #[] }, { accessFlags := 24, nameIndex := 249, descriptorIndex := 37, attributes := #[] }, { accessFlags := 24, nameIndex := 250, descriptorIndex := 33, attributes := #[] }, { accessFlags := 24, nameIndex := 253, descriptorIndex := 33, attributes := #[] }, { accessFlags := 24, nameIndex := 256, descriptorIndex := 33, attributes := #[] }, { accessFlags := 26, nameIndex := 236, descriptorIndex := 237, attributes := #[] }])
  fields := #[{ name := "utilisation", type := .double, accessFlags := 18, slot := 0, constantValue := 0 }, { name := "warmup", type := .int, accessFlags := 18, slot := 1, constantValue := 0 }, { name := "measured", type := .int, accessFlags := 18, slot := 2, constantValue := 0 }, { name := "counting", type := (.object "com/example/dispatchwright/dispatchwright/simulation/DynamicShop$Counting"), accessFlags := 18, slot := 3, constantValue := 0 }, { name := "MACHINES", type := .int, accessFlags := 25, slot := 0, constantValue := 0 }, { name := "PUBLISHED_WARMUP", type := .int, accessFlags := 25, slot := 1, constantValue := 0 }, { name := "PUBLISHED_MEASURED", type := .int, accessFlags := 25, slot := 2, constantValue := 0 }, { name := "WEIGHTS", type := (.object "java/util/List"), accessFlags := 25, slot := 3, constantValue := 0 }, { name := "MIN_OPERATIONS", type := .int, accessFlags := 24, slot := 4, constantValue := 0 }, { name := "MAX_OPERATIONS", type := .int, accessFlags := 24, slot := 5, constantValue := 0 }, { name := "MIN_PROCESSING_TIME", type := .double, accessFlags := 24, slot := 6, constantValue := 0 }, { name := "MAX_PROCESSING_TIME", type := .double, accessFlags := 24, slot := 7, constantValue := 0 }, { name := "DUE_DATE_FACTOR", type := .double, accessFlags := 24, slot := 8, constantValue := 0 }, { name := "WEIGHT_PROBABILITIES", type := (.array .double), accessFlags := 26, slot := 9, constantValue := 0 }]
  methods := #[k9m0, k9m1]
  instanceTypes := #[.double, .int, .int, (.object "com/example/dispatchwright/dispatchwright/simulation/DynamicShop$Counting")]
  staticTypes := #[.int, .int, .int, (.object "java/util/List"), .int, .int, .double, .double, .double, (.array .double)]
  resolved := Array.replicate 355 none
  statics := none }

def pool10 : Array CpInfo := pool [(2, .class_ 4), (1, u "java/lang/CharSequence"), (42, .class_ 48), (0, u "java/lang/CharSequence$1CodePointIterator"), (10, .class_ 60), (0, u "java/lang/CharSequence$1CharIterator"), (5, .class_ 67), (0, u "java/lang/Object")] 63

/-- java/lang/CharSequence -/
def k10 : Class := { plain "java/lang/CharSequence" (some 0) with
  accessFlags := 1537
  interfaces := #[]
  cf := some (fileOf pool10 2 #[.nestMembers #[47, 59]] #[] 1537 66 #[] #[])
  fields := #[]
  methods := #[]
  instanceTypes := #[]
  staticTypes := #[]
  resolved := Array.replicate 131 none
  statics := none }

def pool11 : Array CpInfo := pool [(1, .class_ 2), (0, u "java/lang/constant/ConstantDesc"), (0, .class_ 4), (0, u "java/lang/Object")] 32

/-- java/lang/constant/ConstantDesc -/
def k11 : Class := { plain "java/lang/constant/ConstantDesc" (some 0) with
  accessFlags := 1537
  interfaces := #[]
  cf := some (fileOf pool11 1 #[] #[] 1537 3 #[] #[])
  fields := #[]
  methods := #[]
  instanceTypes := #[]
  staticTypes := #[]
  resolved := Array.replicate 37 none
  statics := none }

def pool12 : Array CpInfo := pool [(2, .class_ 4), (1, u "java/lang/Object"), (0, u "<init>"), (0, u "()V"), (3, .class_ 12), (1, u "java/lang/String"), (0, u "value"), (0, u "[B"), (2, u "coder"), (0, u "B"), (2, u "hash"), (0, u "I"), (2, u "hashIsZero"), (0, u "Z"), (13, u "COMPACT_STRINGS"), (534, .class_ 576), (0, u "java/lang/CharSequence"), (22, u "CASE_INSENSITIVE_ORDER"), (0, u "Ljava/util/Comparator;"), (500, u "serialPersistentFields"), (0, u "[Ljava/io/ObjectStreamField;"), (0, .class_ 1104), (0, u "java/lang/String$CaseInsensitiveComparator"), (1, .class_ 1107), (0, u "java/io/Serializable"), (0, .class_ 1109), (0, u "java/lang/Comparable"), (0, .class_ 1111), (0, u "java/lang/constant/Constable"), (0, .class_ 1113), (0, u "java/lang/constant/ConstantDesc"), (2, u "serialVersionUID"), (0, u "J"), (3, u "REPL"), (0, u "C"), (2, u "LATIN1"), (1, u "UTF16")] 323

def k12m0 : Method := { name := "<init>", desc := "()V", sig := { parameters := [], returnType := none }, accessFlags := 1, code := none }
/-- java/lang/String -/
def k12 : Class := { plain "java/lang/String" (some 0) with
  accessFlags := 49
  interfaces := #[5, 4, 10, 3, 11]
  cf := some (fileOf pool12 10 #[.nestMembers #[1103]] #[{ accessFlags := 1, nameIndex := 5, descriptorIndex := 6, attributes := #[] }] 49 2 #[1106, 1108, 575, 1110, 1112] #[{ accessFlags := 18, nameIndex := 13, descriptorIndex := 14, attributes := #[] }, { accessFlags := 18, nameIndex := 17, descriptorIndex := 18, attributes := #[] }, { accessFlags := 2, nameIndex := 21, descriptorIndex := 22, attributes := #[] }, { accessFlags := 2, nameIndex := 25, descriptorIndex := 26, attributes := #[] }, { accessFlags := 26, nameIndex := 1116, descriptorIndex := 1117, attributes := #[] }, { accessFlags := 24, nameIndex := 40, descriptorIndex := 26, attributes := #[] }, { accessFlags := 26, nameIndex := 1101, descriptorIndex := 1102, attributes := #[] }, { accessFlags := 26, nameIndex := 1121, descriptorIndex := 1122, attributes := #[] }, { accessFlags := 25, nameIndex := 599, descriptorIndex := 600, attributes := #[] }, { accessFlags := 24, nameIndex := 1125, descriptorIndex := 18, attributes := #[] }, { accessFlags := 24, nameIndex := 1127, descriptorIndex := 18, attributes := #[] }])
  fields := #[{ name := "value", type := (.array .byte), accessFlags := 18, slot := 0, constantValue := 0 }, { name := "coder", type := .byte, accessFlags := 18, slot := 1, constantValue := 0 }, { name := "hash", type := .int, accessFlags := 2, slot := 2, constantValue := 0 }, { name := "hashIsZero", type := .boolean, accessFlags := 2, slot := 3, constantValue := 0 }, { name := "serialVersionUID", type := .long, accessFlags := 26, slot := 0, constantValue := 0 }, { name := "COMPACT_STRINGS", type := .boolean, accessFlags := 24, slot := 1, constantValue := 0 }, { name := "serialPersistentFields", type := (.array (.object "java/io/ObjectStreamField")), accessFlags := 26, slot := 2, constantValue := 0 }, { name := "REPL", type := .char, accessFlags := 26, slot := 3, constantValue := 0 }, { name := "CASE_INSENSITIVE_ORDER", type := (.object "java/util/Comparator"), accessFlags := 25, slot := 4, constantValue := 0 }, { name := "LATIN1", type := .byte, accessFlags := 24, slot := 5, constantValue := 0 }, { name := "UTF16", type := .byte, accessFlags := 24, slot := 6, constantValue := 0 }]
  methods := #[k12m0]
  instanceTypes := #[(.array .byte), .byte, .int, .boolean]
  staticTypes := #[.long, .boolean, (.array (.object "java/io/ObjectStreamField")), .char, (.object "java/util/Comparator"), .byte, .byte]
  resolved := Array.replicate 1451 none
  statics := none }

def pool13 : Array CpInfo := pool [(2, .class_ 4), (1, u "java/lang/Object"), (0, u "<init>"), (0, u "()V"), (35, .class_ 44), (1, u "java/util/Objects"), (0, u "requireNonNull"), (48, u "(Ljava/lang/Object;Ljava/lang/String;)Ljava/lang/Object;")] 89

def k13m0 : Method := { name := "<init>", desc := "()V", sig := { parameters := [], returnType := none }, accessFlags := 2, code := none }
def k13c1 : Code := { maxStack := 3, maxLocals := 2, code := jdk_31_method_11_code, exceptionTable := #[], attributes := #[] }
def k13m1 : Method := { name := "requireNonNull", desc := "(Ljava/lang/Object;Ljava/lang/String;)Ljava/lang/Object;", sig := { parameters := [(.object "java/lang/Object"), (.object "java/lang/String")], returnType := some (.object "java/lang/Object") }, accessFlags := 9, code := some k13c1 }
/-- java/util/Objects -/
def k13 : Class := { plain "java/util/Objects" (some 0) with
  accessFlags := 49
  interfaces := #[]
  cf := some (fileOf pool13 42 #[] #[{ accessFlags := 2, nameIndex := 5, descriptorIndex := 6, attributes := #[] }, { accessFlags := 9, nameIndex := 45, descriptorIndex := 94, attributes := #[] }] 49 2 #[] #[])
  fields := #[]
  methods := #[k13m0, k13m1]
  instanceTypes := #[]
  staticTypes := #[]
  resolved := Array.replicate 184 none
  statics := none }

def pool14 : Array CpInfo := pool [(1, u "java/lang/Cloneable"), (0, .class_ 1), (0, u "java/lang/Object"), (0, .class_ 3)] 3

/-- java/lang/Cloneable -/
def k14 : Class := { plain "java/lang/Cloneable" (some 0) with
  accessFlags := 1537
  interfaces := #[]
  cf := some (fileOf pool14 2 #[] #[] 1537 4 #[] #[])
  fields := #[]
  methods := #[]
  instanceTypes := #[]
  staticTypes := #[]
  resolved := Array.replicate 8 none
  statics := none }

/-- the primitive byte -/
def k15 : Class := { plain "byte" none with kind := .primitive 'B', accessFlags := 0x411 }
/-- [B -/
def k16 : Class := { plain "[B" (some 0) with kind := .array 15 .byte, interfaces := #[14, 5], accessFlags := 1041 }

/-- the primitive int -/
def k17 : Class := { plain "int" none with kind := .primitive 'I', accessFlags := 0x411 }
/-- [I -/
def k18 : Class := { plain "[I" (some 0) with kind := .array 17 .int, interfaces := #[14, 5], accessFlags := 1041 }

def heap : Heap := #[{ cls := 7, slots := #[.ref 2, .ref 1, .null], vm := .statics 7 },
  { cls := 7, slots := #[.null, .int 0, .int 0], vm := .none },
  { cls := 7, slots := #[.null, .int 1, .int 0], vm := .none }]
def classes : Array Class := #[k0, k1, k2, k3, k4, k5, k6, k7, k8, k9, k10, k11, k12, k13, k14, k15, k16, k17, k18]
def interned : List (Array UInt16 × Addr) := []
def slotsUsed : Nat := 9
def theMethod : MethodId := ⟨1, 1⟩
def args0 : Array Value := #[.int 5, .int 1, .int 1, .int 1]
def aboutOver (below : List Frame) : State where
  vm := { classes := classes, interned := interned.toArray }
  heap := heap
  slotsUsed := slotsUsed
  threads := #[{ frames := .invoking theMethod args0 :: below }]
def below0 : List Frame := [.native { method := ⟨0, 0⟩, args := #[] }]
def about1 : State := aboutOver below0
def p0 : Program := .bare "" "" ""
def e0 : Env := launch0.env 0 0 0
theorem w_frames : about1.frames = Frame.invoking theMethod args0 :: below0 := rfl
set_option maxRecDepth 65536 in
theorem w_args : argsFit about1.vm theMethod args0 = true := by decide +kernel
set_option maxRecDepth 65536 in
theorem w_heap : heapFits about1 = true := by decide +kernel
set_option maxRecDepth 65536 in
theorem w_runnable : about1.curStatus? = some .runnable := by decide +kernel
set_option maxRecDepth 65536 in
theorem w_alone : about1.alone = true := by decide +kernel
set_option maxRecDepth 65536 in
theorem w_named : about1.methodNamed? x = some theMethod := by decide +kernel
set_option maxRecDepth 65536 in
theorem w_hears : about1.hears theMethod below0 = true := by decide +kernel
set_option maxRecDepth 65536 in
theorem w_ripe : about1.ripe theMethod args0 below0 = true := by decide +kernel
theorem w_running : about1.status = .running := rfl
set_option maxRecDepth 65536 in
theorem w_room : about1.hasRoom e0.platform room_1 = true :=
  launch0.hasRoom_least _ room_1 (by decide +kernel) (by decide +kernel) (by decide +kernel) (by decide +kernel) (by decide +kernel) (by decide +kernel)
theorem allAtoms_all (ts : List Jvm.Cond) (a : Array Jvm.Value) (st : Jvm.State) : (allAtoms ts).before a st = ts.all (fun c => c.before a st) := by
  induction ts with
  | nil => rfl
  | cons c t ih =>
    show (Jvm.Cond.and c (allAtoms t)).before a st = _
    rw [Jvm.Cond.before_and, ih, List.all_cons]
def words1 : List Jvm.Cond := Jvm.Cond.code x code maxLocals ret :: tables_1
/-- a 'code' word, met by the world's own term for the bytes: nothing is compared byte by byte -/
theorem code_word {y : MethodName} {bytes : ByteArray} {mx : Nat} {rt : Option FieldType} {a : Array Value} {s : State} {m : MethodId} {meth : Method} {c : Code} (h1 : s.methodNamed? y = some m) (h2 : s.vm.method? m = some meth) (h3 : meth.code = some c) (h4 : c.code = bytes)
    (h5 : (c.maxLocals == mx && c.exceptionTable.isEmpty && decide (c.maxStack ≤ mostOperands) && decide (meth.sig.returnType = rt) && !meth.locks && decide (parseMethodDescriptor y.desc = some meth.sig)) = true) : (Jvm.Cond.code y bytes mx rt).before a s = true := by
  simp only [Bool.and_eq_true, beq_iff_eq, Bool.not_eq_true', decide_eq_true_eq] at h5
  obtain ⟨⟨⟨⟨⟨g1, g2⟩, g3⟩, g4⟩, g5⟩, g6⟩ := h5
  simp [Cond.before, Cond.holds, Cond.value, h1, h2, h3, h4, g1, g2, g3, g4, g5, g6]
def isCode : Jvm.Cond → Bool
  | .code _ _ _ _ => true
  | _ => false
theorem all_split {L : List Jvm.Cond} {P : Jvm.Cond → Bool} (h1 : L.all (fun c => isCode c || P c) = true) (h2 : ∀ c ∈ L.filter isCode, P c = true) : L.all P = true := by
  refine List.all_eq_true.mpr fun c hc => ?_
  have h := List.all_eq_true.mp h1 c hc
  rcases Bool.eq_false_or_eq_true (isCode c) with hi | hi
  · exact h2 c (List.mem_filter.mpr ⟨hc, hi⟩)
  · simpa [hi] using h
set_option maxRecDepth 65536 in
theorem w_c0 : (Jvm.Cond.code x code maxLocals ret).before args0 about1 = true := code_word (m := ⟨1, 1⟩) (meth := k1m1) (c := k1c1) (by decide +kernel) rfl rfl rfl (by decide +kernel)
set_option maxRecDepth 65536 in
theorem w_c1 : (Jvm.Cond.code ({ cls := "java/lang/Math", name := "max", desc := "(II)I" } : Jvm.MethodName) jdk_29_method_65_code (2 : Nat) (Option.some Jvm.ClassFile.FieldType.int)).before args0 about1 = true := code_word (m := ⟨2, 1⟩) (meth := k2m1) (c := k2c1) (by decide +kernel) rfl rfl rfl (by decide +kernel)
set_option maxRecDepth 65536 in
theorem w_c2 : (Jvm.Cond.code ({ cls := "com/example/dispatchwright/dispatchwright/simulation/DynamicShop", name := "<init>", desc := "(DIILcom/example/dispatchwright/dispatchwright/simulation/DynamicShop$Counting;)V" } : Jvm.MethodName) prog_37_method_1_code (6 : Nat) (Option.none : Option Jvm.ClassFile.FieldType)).before args0 about1 = true := code_word (m := ⟨9, 0⟩) (meth := k9m0) (c := k9c0) (by decide +kernel) rfl rfl rfl (by decide +kernel)
set_option maxRecDepth 65536 in
theorem w_c3 : (Jvm.Cond.code ({ cls := "java/lang/Record", name := "<init>", desc := "()V" } : Jvm.MethodName) jdk_30_method_1_code (1 : Nat) (Option.none : Option Jvm.ClassFile.FieldType)).before args0 about1 = true := code_word (m := ⟨8, 0⟩) (meth := k8m0) (c := k8c0) (by decide +kernel) rfl rfl rfl (by decide +kernel)
set_option maxRecDepth 65536 in
theorem w_c4 : (Jvm.Cond.code ({ cls := "java/lang/Object", name := "<init>", desc := "()V" } : Jvm.MethodName) object_method_1_code (1 : Nat) (Option.none : Option Jvm.ClassFile.FieldType)).before args0 about1 = true := code_word (m := ⟨0, 0⟩) (meth := k0m0) (c := k0c0) (by decide +kernel) rfl rfl rfl (by decide +kernel)
set_option maxRecDepth 65536 in
theorem w_c5 : (Jvm.Cond.code ({ cls := "java/util/Objects", name := "requireNonNull", desc := "(Ljava/lang/Object;Ljava/lang/String;)Ljava/lang/Object;" } : Jvm.MethodName) jdk_31_method_11_code (2 : Nat) (Option.some (Jvm.ClassFile.FieldType.object "java/lang/Object"))).before args0 about1 = true := code_word (m := ⟨13, 1⟩) (meth := k13m1) (c := k13c1) (by decide +kernel) rfl rfl rfl (by decide +kernel)
set_option maxRecDepth 65536 in
theorem w_c6 : (Jvm.Cond.code ({ cls := "com/example/dispatchwright/dispatchwright/simulation/DynamicShop", name := "meanInterarrival", desc := "()D" } : Jvm.MethodName) prog_37_method_2_code (5 : Nat) (Option.some Jvm.ClassFile.FieldType.double)).before args0 about1 = true := code_word (m := ⟨9, 1⟩) (meth := k9m1) (c := k9c1) (by decide +kernel) rfl rfl rfl (by decide +kernel)
def codes1 : List Jvm.Cond := [Jvm.Cond.code x code maxLocals ret, Jvm.Cond.code ({ cls := "java/lang/Math", name := "max", desc := "(II)I" } : Jvm.MethodName) jdk_29_method_65_code (2 : Nat) (Option.some Jvm.ClassFile.FieldType.int), Jvm.Cond.code ({ cls := "com/example/dispatchwright/dispatchwright/simulation/DynamicShop", name := "<init>", desc := "(DIILcom/example/dispatchwright/dispatchwright/simulation/DynamicShop$Counting;)V" } : Jvm.MethodName) prog_37_method_1_code (6 : Nat) (Option.none : Option Jvm.ClassFile.FieldType), Jvm.Cond.code ({ cls := "java/lang/Record", name := "<init>", desc := "()V" } : Jvm.MethodName) jdk_30_method_1_code (1 : Nat) (Option.none : Option Jvm.ClassFile.FieldType), Jvm.Cond.code ({ cls := "java/lang/Object", name := "<init>", desc := "()V" } : Jvm.MethodName) object_method_1_code (1 : Nat) (Option.none : Option Jvm.ClassFile.FieldType), Jvm.Cond.code ({ cls := "java/util/Objects", name := "requireNonNull", desc := "(Ljava/lang/Object;Ljava/lang/String;)Ljava/lang/Object;" } : Jvm.MethodName) jdk_31_method_11_code (2 : Nat) (Option.some (Jvm.ClassFile.FieldType.object "java/lang/Object")), Jvm.Cond.code ({ cls := "com/example/dispatchwright/dispatchwright/simulation/DynamicShop", name := "meanInterarrival", desc := "()D" } : Jvm.MethodName) prog_37_method_2_code (5 : Nat) (Option.some Jvm.ClassFile.FieldType.double)]
set_option maxRecDepth 65536 in
theorem codes_eq : words1.filter isCode = codes1 := rfl
theorem w_codes : ∀ c ∈ words1.filter isCode, c.before args0 about1 = true := by
  rw [codes_eq]
  intro c hc
  simp only [codes1, List.mem_cons, List.not_mem_nil, or_false] at hc
  rcases hc with rfl | rfl | rfl | rfl | rfl | rfl | rfl
  · exact w_c0
  · exact w_c1
  · exact w_c2
  · exact w_c3
  · exact w_c4
  · exact w_c5
  · exact w_c6
set_option maxRecDepth 65536 in
theorem w_t1 : (words1.take 24).all (fun c => isCode c || c.before args0 about1) = true := by decide +kernel
set_option maxRecDepth 65536 in
theorem w_t2 : ((words1.drop 24).take 24).all (fun c => isCode c || c.before args0 about1) = true := by decide +kernel
set_option maxRecDepth 65536 in
theorem w_t3 : ((words1.drop 24).drop 24).all (fun c => isCode c || c.before args0 about1) = true := by decide +kernel
theorem w_tables : (allAtoms (Jvm.Cond.code x code maxLocals ret :: tables_1)).before args0 about1 = true := by
  rw [allAtoms_all]
  show words1.all (fun c => c.before args0 about1) = true
  refine all_split ?_ w_codes
  rw [← List.take_append_drop 24 words1, List.all_append, w_t1, ← List.take_append_drop 24 (words1.drop 24), List.all_append, w_t2, w_t3]
  rfl
set_option maxRecDepth 65536 in
theorem w_case : (Jvm.Cond.and given_1 narrow_1).before args0 about1 = true := by decide +kernel
theorem w_applies : (headSpec (Jvm.Cond.code x code maxLocals ret :: tables_1) room_1).applies x e0.platform about1 = true :=
  (Spec.applies_iff w_frames).mpr ⟨w_running, w_runnable, w_alone, w_named, w_hears, w_ripe, w_room, w_tables⟩
theorem atStart : AtStart classFile x code maxLocals ret World_1 tables_1 room_1 Calls_1 rest_1 Pre_1 launch0 p0 e0 about1 theMethod args0 below0 :=
  ⟨lists_1, trivial, launch0.admits_env _ _ _, launch0.least_env, fairChoices_fair.cas, fairChoices_fair.clock, w_frames, w_args, w_heap, w_applies, trivial, trivial, w_case⟩
end start1
theorem witness_1 : WitnessClaimed_1 := ⟨start1.p0, start1.e0, start1.about1, start1.theMethod, start1.args0, start1.below0, start1.atStart⟩
end Jvm.Pilot.@@N@@
