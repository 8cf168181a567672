import JvmDerived
import JvmDerived.Pilot.@@N@@Statement
import JvmDerived.Pilot.@@N@@Code
set_option linter.unusedVariables false
set_option linter.unusedSimpArgs false
namespace Jvm.OwnK
open Jvm Sem ClassFile Op Lib Jvm.Stand Jvm.Free Jvm.LawKit Jvm.RoadKit Bundle
/-- where a walk stands: pc, locals, stack, heap, cells and slots made so far -/
abbrev Kt := Nat → Array Slot → List Value → Heap → Nat → Nat → Prop
/-- what a body leaves: the value that it returns, the heap -/
abbrev Qt := Option Value → Heap → Prop
/-- a body's end, as its contract asks it -/
def Out (p : Program) (e : Env) (below : List Frame) (s s1 : State) (f0 : JFrame) (R : Room) (n0 : Nat) (Q : Qt) : Prop :=
  ∃ s2 o, Steps p.tables e below (s1.setTop f0) s2 ∧ s2.status = .running ∧ Ended s2 below o ∧ ∃ v L, o = .returned v ∧ (Q v s2.heap ∧ Fr n0 L) ∧ FrameEnd s o s2 L R.cells R.slots
/-- what doesn't change along a walk, and what K and O mean -/
def Ctx (l : Launch) (R : Room) (n0 : Nat) (Z : State) (own : String) (bytes : ByteArray) (ml : Nat) (nm : String) (rt : Option FieldType) (Q : Qt) (K : Kt) (O : Prop) : Prop :=
  ∃ (p : Program) (e : Env) (s : State) (m : MethodId) (args : Array Value) (below : List Frame) (meth : Method) (c : Code) (s1 : State) (f0 : JFrame),
    p.tables.exec = Jvm.exec ∧ c.code = bytes ∧ Z.Warmed39 s.vm ∧ s.vm.findClass own = some m.cls ∧ c.maxLocals = ml ∧ meth.name = nm ∧ meth.sig.returnType = rt ∧ meth.locks = false ∧
    (∀ pc L S h cl sl, K pc L S h cl sl ↔ ∃ T locs, Stand p l e R s m args below meth c T locs cl sl ∧ T.heap = h ∧ Fr n0 locs ∧ ∀ t, Steps p.tables e below (T.setTop (mkF m pc L S)) t → Steps p.tables e below (s1.setTop f0) t) ∧
    (Out p e below s s1 f0 R n0 Q → O)
/-- a body's contract -/
def Con (l : Launch) (y : MethodName) (bytes : ByteArray) (ml : Nat) (rt : Option FieldType) (rm : Room) (Z : State) (as : Array Value) (h : Heap) (n0 : Nat) (Q : Qt) : Prop :=
  ∀ ws : List Jvm.Cond, MetFree l y (head1 (Jvm.Cond.code y bytes ml rt :: ws) rm) (fun a U => a = as ∧ Z.Warmed39 U.vm ∧ U.heap = h) (fun _ _ _ _ _ => True) (fun _ U o U' => ∃ v L, o = .returned v ∧ (Q v U'.heap ∧ Fr n0 L) ∧ FrameEnd U o U' L rm.cells rm.slots)
theorem Con.mono {l : Launch} {y : MethodName} {bytes : ByteArray} {ml : Nat} {rt : Option FieldType} {rm : Room} {Z : State} {as : Array Value} {h : Heap} {n0 : Nat} {Q Q' : Qt} (K : Con l y bytes ml rt rm Z as h n0 Q) (q : ∀ v h', Q v h' → Q' v h') : Con l y bytes ml rt rm Z as h n0 Q' := by
  intro ws p e ha hc hk s m args below hf happ hP hK
  obtain ⟨n, o, h1, h2, h3, v, L, h4, ⟨h5, h6⟩, h7⟩ := K ws p e ha hc hk s m args below hf happ hP hK
  exact ⟨n, o, h1, h2, h3, v, L, h4, ⟨q _ _ h5, h6⟩, h7⟩
theorem Con.enter {l : Launch} {y : MethodName} {bytes : ByteArray} {ml : Nat} {rt : Option FieldType} {rm : Room} {Z : State} {as : Array Value} {h : Heap} {n0 : Nat} {Q : Qt} {L0 : Array Slot} (hpl : plainFor y = true) (hef : ∀ m, entryFrame m as ml = mkF m 0 L0 [])
    (hb : ∀ (K : Kt) (O : Prop), Ctx l rm n0 Z y.cls bytes ml y.name rt Q K O → K 0 L0 [] h 0 0 → O) : Con l y bytes ml rt rm Z as h n0 Q := by
  intro ws
  refine MetFree.of_bodySF hpl hisR ?_
  intro p e s m args below meth c s1 Bd hml0 hP hK
  obtain ⟨rfl, hZ, hh⟩ := hP
  have X0 : Stand p l e rm s m args below meth c s1 [] 0 0 := Stand.of_body Bd
  have e0 : s1.heap = h := by rw [← hh, Bd.state]; rfl
  exact hb (fun pc L S h cl sl => ∃ T locs, Stand p l e rm s m args below meth c T locs cl sl ∧ T.heap = h ∧ Fr n0 locs ∧ ∀ t, Steps p.tables e below (T.setTop (mkF m pc L S)) t → Steps p.tables e below (s1.setTop (entryFrame m args ml)) t)
    (Out p e below s s1 (entryFrame m args ml) rm n0 Q)
    ⟨p, e, s, m, args, below, meth, c, s1, entryFrame m args ml, Bd.exec, Bd.bytes, hZ, findClass_of_methodNamed Bd.named, hml0, (name_of_methodNamed Bd.named Bd.method).1, Bd.returns, Bd.notSynchronized, fun _ _ _ _ _ _ => Iff.rfl, id⟩
    ⟨s1, [], X0, e0, Fr.nil n0, fun t k => castTop (hef m) k⟩
section Steps
variable {l : Launch} {R : Room} {n0 : Nat} {Z : State} {own : String} {bytes : ByteArray} {ml : Nat} {nm : String} {rt : Option FieldType} {Q : Qt} {K : Kt} {O : Prop} {a0 : Array Value} {pc : Nat} {L : Array Slot} {S rest : List Value} {h : Heap} {cl sl : Nat} {pc' : Nat}
theorem Ctx.pure (C : Ctx l R n0 Z own bytes ml nm rt Q K O) (H : K pc L S h cl sl) {L' : Array Slot} {S' : List Value}
    (f : ∀ (p : Program) (e : Env) (s : State) (m : MethodId) (args : Array Value) (below : List Frame) (meth : Method) (c : Code) (T : State) (locs : List Loc), Stand p l e R s m args below meth c T locs cl sl → p.tables.exec = Jvm.exec → c.code = bytes → Z.Warmed39 s.vm → s.vm.findClass own = some m.cls → T.heap = h →
      ∀ t, Steps p.tables e below (T.setTop (mkF m pc' L' S')) t → Steps p.tables e below (T.setTop (mkF m pc L S)) t) : K pc' L' S' h cl sl := by
  obtain ⟨p, e, s, m, args, below, meth, c, s1, f0, hx, hby, hZ, hown, hml, hnm, hrt, hlk, hK, hO⟩ := C
  obtain ⟨T, locs, X, eT, N, st⟩ := (hK _ _ _ _ _ _).mp H
  exact (hK _ _ _ _ _ _).mpr ⟨T, locs, X, eT, N, fun t k => st t (f p e s m args below meth c T locs X hx hby hZ hown eT t k)⟩
/-- a step that may note something in the tables -/
theorem Ctx.note (C : Ctx l R n0 Z own bytes ml nm rt Q K O) (H : K pc L S h cl sl) {L' : Array Slot} {S' : List Value}
    (f : ∀ (p : Program) (e : Env) (s : State) (m : MethodId) (args : Array Value) (below : List Frame) (meth : Method) (c : Code) (T : State) (locs : List Loc), Stand p l e R s m args below meth c T locs cl sl → p.tables.exec = Jvm.exec → c.code = bytes → Z.Warmed39 s.vm → s.vm.findClass own = some m.cls → c.maxLocals = ml → T.heap = h →
      ∃ T', Stand p l e R s m args below meth c T' locs cl sl ∧ T'.heap = h ∧ ∀ t, Steps p.tables e below (T'.setTop (mkF m pc' L' S')) t → Steps p.tables e below (T.setTop (mkF m pc L S)) t) : K pc' L' S' h cl sl := by
  obtain ⟨p, e, s, m, args, below, meth, c, s1, f0, hx, hby, hZ, hown, hml, hnm, hrt, hlk, hK, hO⟩ := C
  obtain ⟨T, locs, X, eT, N, st⟩ := (hK _ _ _ _ _ _).mp H
  obtain ⟨T', X', eT', st'⟩ := f p e s m args below meth c T locs X hx hby hZ hown hml eT
  exact (hK _ _ _ _ _ _).mpr ⟨T', locs, X', eT', N, fun t k => st t (st' t k)⟩

theorem k_iloadN (C : Ctx l R n0 Z own bytes ml nm rt Q K O) {k : Fin 4} {v : Int32} (H : K pc L (S) h cl sl) (d : decode bytes pc = .ok (.iload_n k, 1)) (hl : L[k.val]? = some (.val (.int v))) (hp : pc + 1 = pc') : K pc' L ((.int v) :: S) h cl sl := by
  subst hp
  exact C.pure H fun p e s m args below meth c T locs X hx hby _ _ _ t k => XS.iloadN X.here hx rfl (hb hby d) hl k
theorem k_iload (C : Ctx l R n0 Z own bytes ml nm rt Q K O) {k : Nat} {v : Int32} (H : K pc L (S) h cl sl) (d : decode bytes pc = .ok (.iload k, 2)) (hl : L[k]? = some (.val (.int v))) (hp : pc + 2 = pc') : K pc' L ((.int v) :: S) h cl sl := by
  subst hp
  exact C.pure H fun p e s m args below meth c T locs X hx hby _ _ _ t k => XS.iload X.here hx rfl (hb hby d) hl k
theorem k_lloadN (C : Ctx l R n0 Z own bytes ml nm rt Q K O) {k : Fin 4} {v : Int64} (H : K pc L (S) h cl sl) (d : decode bytes pc = .ok (.lload_n k, 1)) (hl : L[k.val]? = some (.val (.long v))) (hp : pc + 1 = pc') : K pc' L ((.long v) :: S) h cl sl := by
  subst hp
  exact C.pure H fun p e s m args below meth c T locs X hx hby _ _ _ t k => XS.lloadN X.here hx rfl (hb hby d) hl k
theorem k_lload (C : Ctx l R n0 Z own bytes ml nm rt Q K O) {k : Nat} {v : Int64} (H : K pc L (S) h cl sl) (d : decode bytes pc = .ok (.lload k, 2)) (hl : L[k]? = some (.val (.long v))) (hp : pc + 2 = pc') : K pc' L ((.long v) :: S) h cl sl := by
  subst hp
  exact C.pure H fun p e s m args below meth c T locs X hx hby _ _ _ t k => XS.lload X.here hx rfl (hb hby d) hl k
theorem k_aloadN (C : Ctx l R n0 Z own bytes ml nm rt Q K O) {k : Fin 4} {v : Value} (H : K pc L (S) h cl sl) (d : decode bytes pc = .ok (.aload_n k, 1)) (hl : L[k.val]? = some (.val v)) (hv : v.isRef = true) (hp : pc + 1 = pc') : K pc' L (v :: S) h cl sl := by
  subst hp
  exact C.pure H fun p e s m args below meth c T locs X hx hby _ _ _ t k => XS.aloadN X.here hx rfl (hb hby d) hl hv k
theorem k_aload (C : Ctx l R n0 Z own bytes ml nm rt Q K O) {k : Nat} {v : Value} (H : K pc L (S) h cl sl) (d : decode bytes pc = .ok (.aload k, 2)) (hl : L[k]? = some (.val v)) (hv : v.isRef = true) (hp : pc + 2 = pc') : K pc' L (v :: S) h cl sl := by
  subst hp
  exact C.pure H fun p e s m args below meth c T locs X hx hby _ _ _ t k => XS.aload X.here hx rfl (hb hby d) hl hv k
theorem k_istoreN (C : Ctx l R n0 Z own bytes ml nm rt Q K O) {k : Fin 4} {v : Int32} {L' : Array Slot} (H : K pc L ((.int v) :: rest) h cl sl) (d : decode bytes pc = .ok (.istore_n k, 1)) (hl : storeLocals L k.val (.int v) = some L') (hp : pc + 1 = pc') : K pc' L' (rest) h cl sl := by
  subst hp
  exact C.pure H fun p e s m args below meth c T locs X hx hby _ _ _ t k => XS.istoreN X.here hx rfl (hb hby d) rfl hl k
theorem k_istore (C : Ctx l R n0 Z own bytes ml nm rt Q K O) {k : Nat} {v : Int32} {L' : Array Slot} (H : K pc L ((.int v) :: rest) h cl sl) (d : decode bytes pc = .ok (.istore k, 2)) (hl : storeLocals L k (.int v) = some L') (hp : pc + 2 = pc') : K pc' L' (rest) h cl sl := by
  subst hp
  exact C.pure H fun p e s m args below meth c T locs X hx hby _ _ _ t k => XS.istore X.here hx rfl (hb hby d) rfl hl k
theorem k_lstoreN (C : Ctx l R n0 Z own bytes ml nm rt Q K O) {k : Fin 4} {v : Int64} {L' : Array Slot} (H : K pc L ((.long v) :: rest) h cl sl) (d : decode bytes pc = .ok (.lstore_n k, 1)) (hl : storeLocals L k.val (.long v) = some L') (hp : pc + 1 = pc') : K pc' L' (rest) h cl sl := by
  subst hp
  exact C.pure H fun p e s m args below meth c T locs X hx hby _ _ _ t k => XS.lstoreN X.here hx rfl (hb hby d) rfl hl k
theorem k_lstore (C : Ctx l R n0 Z own bytes ml nm rt Q K O) {k : Nat} {v : Int64} {L' : Array Slot} (H : K pc L ((.long v) :: rest) h cl sl) (d : decode bytes pc = .ok (.lstore k, 2)) (hl : storeLocals L k (.long v) = some L') (hp : pc + 2 = pc') : K pc' L' (rest) h cl sl := by
  subst hp
  exact C.pure H fun p e s m args below meth c T locs X hx hby _ _ _ t k => XS.lstore X.here hx rfl (hb hby d) rfl hl k
theorem k_astoreN (C : Ctx l R n0 Z own bytes ml nm rt Q K O) {k : Fin 4} {v : Value} {L' : Array Slot} (H : K pc L (v :: rest) h cl sl) (d : decode bytes pc = .ok (.astore_n k, 1)) (hv : v.isRef = true) (hl : storeLocals L k.val v = some L') (hp : pc + 1 = pc') : K pc' L' (rest) h cl sl := by
  subst hp
  exact C.pure H fun p e s m args below meth c T locs X hx hby _ _ _ t k => XS.astoreN X.here hx rfl (hb hby d) rfl hv hl k
theorem k_astore (C : Ctx l R n0 Z own bytes ml nm rt Q K O) {k : Nat} {v : Value} {L' : Array Slot} (H : K pc L (v :: rest) h cl sl) (d : decode bytes pc = .ok (.astore k, 2)) (hv : v.isRef = true) (hl : storeLocals L k v = some L') (hp : pc + 2 = pc') : K pc' L' (rest) h cl sl := by
  subst hp
  exact C.pure H fun p e s m args below meth c T locs X hx hby _ _ _ t k => XS.astore X.here hx rfl (hb hby d) rfl hv hl k
theorem k_iconst (C : Ctx l R n0 Z own bytes ml nm rt Q K O) {i : Int} {v : Int32} (H : K pc L (S) h cl sl) (d : decode bytes pc = .ok (.iconst i, 1)) (hv : Int32.ofInt i = v) (hp : pc + 1 = pc') : K pc' L (.int v :: S) h cl sl := by
  subst hp
  exact C.pure H fun p e s m args below meth c T locs X hx hby _ _ _ t k => XS.iconst X.here hx rfl (hb hby d) (by rw [hv]; exact k)
theorem k_bipush (C : Ctx l R n0 Z own bytes ml nm rt Q K O) {i : Int} {v : Int32} (H : K pc L (S) h cl sl) (d : decode bytes pc = .ok (.bipush i, 2)) (hv : (Int8.ofInt i).toInt32 = v) (hp : pc + 2 = pc') : K pc' L (.int v :: S) h cl sl := by
  subst hp
  exact C.pure H fun p e s m args below meth c T locs X hx hby _ _ _ t k => XS.bipush X.here hx rfl (hb hby d) (by rw [hv]; exact k)
theorem k_sipush (C : Ctx l R n0 Z own bytes ml nm rt Q K O) {i : Int} {v : Int32} (H : K pc L (S) h cl sl) (d : decode bytes pc = .ok (.sipush i, 3)) (hv : (Int16.ofInt i).toInt32 = v) (hp : pc + 3 = pc') : K pc' L (.int v :: S) h cl sl := by
  subst hp
  exact C.pure H fun p e s m args below meth c T locs X hx hby _ _ _ t k => XS.sipush X.here hx rfl (hb hby d) (by rw [hv]; exact k)
theorem k_lconst (C : Ctx l R n0 Z own bytes ml nm rt Q K O) {i : Fin 2} {v : Int64} (H : K pc L (S) h cl sl) (d : decode bytes pc = .ok (.lconst i, 1)) (hv : Int64.ofNat i = v) (hp : pc + 1 = pc') : K pc' L (.long v :: S) h cl sl := by
  subst hp
  exact C.pure H fun p e s m args below meth c T locs X hx hby _ _ _ t k => XS.lconst X.here hx rfl (hb hby d) (by rw [hv]; exact k)
theorem k_anull (C : Ctx l R n0 Z own bytes ml nm rt Q K O)  (H : K pc L (S) h cl sl) (d : decode bytes pc = .ok (.aconst_null, 1))  (hp : pc + 1 = pc') : K pc' L (.null :: S) h cl sl := by
  subst hp
  exact C.pure H fun p e s m args below meth c T locs X hx hby _ _ _ t k => XS.aconstNull X.here hx rfl (hb hby d) k
theorem k_iadd (C : Ctx l R n0 Z own bytes ml nm rt Q K O) {x y : Int32} (H : K pc L (.int y :: .int x :: rest) h cl sl) (d : decode bytes pc = .ok (.iadd, 1))  (hp : pc + 1 = pc') : K pc' L (.int (x + y) :: rest) h cl sl := by
  subst hp
  exact C.pure H fun p e s m args below meth c T locs X hx hby _ _ _ t k => XS.iadd X.here hx rfl (hb hby d) rfl k
theorem k_isub (C : Ctx l R n0 Z own bytes ml nm rt Q K O) {x y : Int32} (H : K pc L (.int y :: .int x :: rest) h cl sl) (d : decode bytes pc = .ok (.isub, 1))  (hp : pc + 1 = pc') : K pc' L (.int (x - y) :: rest) h cl sl := by
  subst hp
  exact C.pure H fun p e s m args below meth c T locs X hx hby _ _ _ t k => XS.isub X.here hx rfl (hb hby d) rfl k
theorem k_imul (C : Ctx l R n0 Z own bytes ml nm rt Q K O) {x y : Int32} (H : K pc L (.int y :: .int x :: rest) h cl sl) (d : decode bytes pc = .ok (.imul, 1))  (hp : pc + 1 = pc') : K pc' L (.int (x * y) :: rest) h cl sl := by
  subst hp
  exact C.pure H fun p e s m args below meth c T locs X hx hby _ _ _ t k => XS.imul X.here hx rfl (hb hby d) rfl k
theorem k_iand (C : Ctx l R n0 Z own bytes ml nm rt Q K O) {x y : Int32} (H : K pc L (.int y :: .int x :: rest) h cl sl) (d : decode bytes pc = .ok (.iand, 1))  (hp : pc + 1 = pc') : K pc' L (.int (x &&& y) :: rest) h cl sl := by
  subst hp
  exact C.pure H fun p e s m args below meth c T locs X hx hby _ _ _ t k => XS.iand X.here hx rfl (hb hby d) rfl k
theorem k_ior (C : Ctx l R n0 Z own bytes ml nm rt Q K O) {x y : Int32} (H : K pc L (.int y :: .int x :: rest) h cl sl) (d : decode bytes pc = .ok (.ior, 1))  (hp : pc + 1 = pc') : K pc' L (.int (x ||| y) :: rest) h cl sl := by
  subst hp
  exact C.pure H fun p e s m args below meth c T locs X hx hby _ _ _ t k => XS.ior X.here hx rfl (hb hby d) rfl k
theorem k_ixor (C : Ctx l R n0 Z own bytes ml nm rt Q K O) {x y : Int32} (H : K pc L (.int y :: .int x :: rest) h cl sl) (d : decode bytes pc = .ok (.ixor, 1))  (hp : pc + 1 = pc') : K pc' L (.int (x ^^^ y) :: rest) h cl sl := by
  subst hp
  exact C.pure H fun p e s m args below meth c T locs X hx hby _ _ _ t k => XS.ixor X.here hx rfl (hb hby d) rfl k
theorem k_ishl (C : Ctx l R n0 Z own bytes ml nm rt Q K O) {x y : Int32} (H : K pc L (.int y :: .int x :: rest) h cl sl) (d : decode bytes pc = .ok (.ishl, 1))  (hp : pc + 1 = pc') : K pc' L (.int (x <<< (y &&& 31)) :: rest) h cl sl := by
  subst hp
  exact C.pure H fun p e s m args below meth c T locs X hx hby _ _ _ t k => XS.ishl X.here hx rfl (hb hby d) rfl k
theorem k_ishr (C : Ctx l R n0 Z own bytes ml nm rt Q K O) {x y : Int32} (H : K pc L (.int y :: .int x :: rest) h cl sl) (d : decode bytes pc = .ok (.ishr, 1))  (hp : pc + 1 = pc') : K pc' L (.int (x >>> (y &&& 31)) :: rest) h cl sl := by
  subst hp
  exact C.pure H fun p e s m args below meth c T locs X hx hby _ _ _ t k => XS.ishr X.here hx rfl (hb hby d) rfl k
theorem k_iushr (C : Ctx l R n0 Z own bytes ml nm rt Q K O) {x y : Int32} (H : K pc L (.int y :: .int x :: rest) h cl sl) (d : decode bytes pc = .ok (.iushr, 1))  (hp : pc + 1 = pc') : K pc' L (.int ((x.toUInt32 >>> (y &&& 31).toUInt32).toInt32) :: rest) h cl sl := by
  subst hp
  exact C.pure H fun p e s m args below meth c T locs X hx hby _ _ _ t k => XS.iushr X.here hx rfl (hb hby d) rfl k
theorem k_ladd (C : Ctx l R n0 Z own bytes ml nm rt Q K O) {x y : Int64} (H : K pc L (.long y :: .long x :: rest) h cl sl) (d : decode bytes pc = .ok (.ladd, 1))  (hp : pc + 1 = pc') : K pc' L (.long (x + y) :: rest) h cl sl := by
  subst hp
  exact C.pure H fun p e s m args below meth c T locs X hx hby _ _ _ t k => XS.ladd X.here hx rfl (hb hby d) rfl k
theorem k_lsub (C : Ctx l R n0 Z own bytes ml nm rt Q K O) {x y : Int64} (H : K pc L (.long y :: .long x :: rest) h cl sl) (d : decode bytes pc = .ok (.lsub, 1))  (hp : pc + 1 = pc') : K pc' L (.long (x - y) :: rest) h cl sl := by
  subst hp
  exact C.pure H fun p e s m args below meth c T locs X hx hby _ _ _ t k => XS.lsub X.here hx rfl (hb hby d) rfl k
theorem k_lmul (C : Ctx l R n0 Z own bytes ml nm rt Q K O) {x y : Int64} (H : K pc L (.long y :: .long x :: rest) h cl sl) (d : decode bytes pc = .ok (.lmul, 1))  (hp : pc + 1 = pc') : K pc' L (.long (x * y) :: rest) h cl sl := by
  subst hp
  exact C.pure H fun p e s m args below meth c T locs X hx hby _ _ _ t k => XS.lmul X.here hx rfl (hb hby d) rfl k
theorem k_land (C : Ctx l R n0 Z own bytes ml nm rt Q K O) {x y : Int64} (H : K pc L (.long y :: .long x :: rest) h cl sl) (d : decode bytes pc = .ok (.land, 1))  (hp : pc + 1 = pc') : K pc' L (.long (x &&& y) :: rest) h cl sl := by
  subst hp
  exact C.pure H fun p e s m args below meth c T locs X hx hby _ _ _ t k => XS.land X.here hx rfl (hb hby d) rfl k
theorem k_lor (C : Ctx l R n0 Z own bytes ml nm rt Q K O) {x y : Int64} (H : K pc L (.long y :: .long x :: rest) h cl sl) (d : decode bytes pc = .ok (.lor, 1))  (hp : pc + 1 = pc') : K pc' L (.long (x ||| y) :: rest) h cl sl := by
  subst hp
  exact C.pure H fun p e s m args below meth c T locs X hx hby _ _ _ t k => XS.lor X.here hx rfl (hb hby d) rfl k
theorem k_lxor (C : Ctx l R n0 Z own bytes ml nm rt Q K O) {x y : Int64} (H : K pc L (.long y :: .long x :: rest) h cl sl) (d : decode bytes pc = .ok (.lxor, 1))  (hp : pc + 1 = pc') : K pc' L (.long (x ^^^ y) :: rest) h cl sl := by
  subst hp
  exact C.pure H fun p e s m args below meth c T locs X hx hby _ _ _ t k => XS.lxor X.here hx rfl (hb hby d) rfl k
theorem k_lshl (C : Ctx l R n0 Z own bytes ml nm rt Q K O) {x : Int64} {y : Int32} (H : K pc L (.int y :: .long x :: rest) h cl sl) (d : decode bytes pc = .ok (.lshl, 1))  (hp : pc + 1 = pc') : K pc' L (.long (x <<< (y &&& 0x3f).toInt64) :: rest) h cl sl := by
  subst hp
  exact C.pure H fun p e s m args below meth c T locs X hx hby _ _ _ t k => XS.lshl X.here hx rfl (hb hby d) rfl k
theorem k_lshr (C : Ctx l R n0 Z own bytes ml nm rt Q K O) {x : Int64} {y : Int32} (H : K pc L (.int y :: .long x :: rest) h cl sl) (d : decode bytes pc = .ok (.lshr, 1))  (hp : pc + 1 = pc') : K pc' L (.long (x >>> (y &&& 0x3f).toInt64) :: rest) h cl sl := by
  subst hp
  exact C.pure H fun p e s m args below meth c T locs X hx hby _ _ _ t k => XS.lshr X.here hx rfl (hb hby d) rfl k
theorem k_lushr (C : Ctx l R n0 Z own bytes ml nm rt Q K O) {x : Int64} {y : Int32} (H : K pc L (.int y :: .long x :: rest) h cl sl) (d : decode bytes pc = .ok (.lushr, 1))  (hp : pc + 1 = pc') : K pc' L (.long ((x.toUInt64 >>> (y &&& 0x3f).toInt64.toUInt64).toInt64) :: rest) h cl sl := by
  subst hp
  exact C.pure H fun p e s m args below meth c T locs X hx hby _ _ _ t k => XS.lushr X.here hx rfl (hb hby d) rfl k
theorem k_lcmp (C : Ctx l R n0 Z own bytes ml nm rt Q K O) {x y : Int64} (H : K pc L (.long y :: .long x :: rest) h cl sl) (d : decode bytes pc = .ok (.lcmp, 1))  (hp : pc + 1 = pc') : K pc' L (.int (lcmpW x y) :: rest) h cl sl := by
  subst hp
  exact C.pure H fun p e s m args below meth c T locs X hx hby _ _ _ t k => XS.lcmp X.here hx rfl (hb hby d) rfl k
theorem k_ineg (C : Ctx l R n0 Z own bytes ml nm rt Q K O) {x : Int32} (H : K pc L (.int x :: rest) h cl sl) (d : decode bytes pc = .ok (.ineg, 1))  (hp : pc + 1 = pc') : K pc' L (.int (-x) :: rest) h cl sl := by
  subst hp
  exact C.pure H fun p e s m args below meth c T locs X hx hby _ _ _ t k => XS.ineg X.here hx rfl (hb hby d) rfl k
theorem k_idiv (C : Ctx l R n0 Z own bytes ml nm rt Q K O) {x y : Int32} (H : K pc L (.int y :: .int x :: rest) h cl sl) (d : decode bytes pc = .ok (.idiv, 1)) (hy : y ≠ 0) (hp : pc + 1 = pc') : K pc' L (.int (x / y) :: rest) h cl sl := by
  subst hp
  exact C.pure H fun p e s m args below meth c T locs X hx hby _ _ _ t k => XS.idiv X.here hx rfl (hb hby d) rfl hy k
theorem k_irem (C : Ctx l R n0 Z own bytes ml nm rt Q K O) {x y : Int32} (H : K pc L (.int y :: .int x :: rest) h cl sl) (d : decode bytes pc = .ok (.irem, 1)) (hy : y ≠ 0) (hp : pc + 1 = pc') : K pc' L (.int (x % y) :: rest) h cl sl := by
  subst hp
  exact C.pure H fun p e s m args below meth c T locs X hx hby _ _ _ t k => iremM X hx rfl (hb hby d) rfl hy k
theorem k_ldiv (C : Ctx l R n0 Z own bytes ml nm rt Q K O) {x y : Int64} (H : K pc L (.long y :: .long x :: rest) h cl sl) (d : decode bytes pc = .ok (.ldiv, 1)) (hy : y ≠ 0) (hp : pc + 1 = pc') : K pc' L (.long (x / y) :: rest) h cl sl := by
  subst hp
  exact C.pure H fun p e s m args below meth c T locs X hx hby _ _ _ t k => XS.ldiv X.here hx rfl (hb hby d) rfl hy k
theorem k_i2l (C : Ctx l R n0 Z own bytes ml nm rt Q K O) {x : Int32} (H : K pc L (.int x :: rest) h cl sl) (d : decode bytes pc = .ok (.i2l, 1))  (hp : pc + 1 = pc') : K pc' L (.long (x.toInt64) :: rest) h cl sl := by
  subst hp
  exact C.pure H fun p e s m args below meth c T locs X hx hby _ _ _ t k => XS.i2l X.here hx rfl (hb hby d) rfl k
theorem k_l2i (C : Ctx l R n0 Z own bytes ml nm rt Q K O) {x : Int64} (H : K pc L (.long x :: rest) h cl sl) (d : decode bytes pc = .ok (.l2i, 1))  (hp : pc + 1 = pc') : K pc' L (.int (x.toInt32) :: rest) h cl sl := by
  subst hp
  exact C.pure H fun p e s m args below meth c T locs X hx hby _ _ _ t k => XS.l2i X.here hx rfl (hb hby d) rfl k
theorem k_i2b (C : Ctx l R n0 Z own bytes ml nm rt Q K O) {x : Int32} (H : K pc L (.int x :: rest) h cl sl) (d : decode bytes pc = .ok (.i2b, 1))  (hp : pc + 1 = pc') : K pc' L (.int (x.toInt8.toInt32) :: rest) h cl sl := by
  subst hp
  exact C.pure H fun p e s m args below meth c T locs X hx hby _ _ _ t k => XS.i2b X.here hx rfl (hb hby d) rfl k
theorem k_i2c (C : Ctx l R n0 Z own bytes ml nm rt Q K O) {x : Int32} (H : K pc L (.int x :: rest) h cl sl) (d : decode bytes pc = .ok (.i2c, 1))  (hp : pc + 1 = pc') : K pc' L (.int (x.toUInt32.toUInt16.toUInt32.toInt32) :: rest) h cl sl := by
  subst hp
  exact C.pure H fun p e s m args below meth c T locs X hx hby _ _ _ t k => XS.i2c X.here hx rfl (hb hby d) rfl k
theorem k_i2s (C : Ctx l R n0 Z own bytes ml nm rt Q K O) {x : Int32} (H : K pc L (.int x :: rest) h cl sl) (d : decode bytes pc = .ok (.i2s, 1))  (hp : pc + 1 = pc') : K pc' L (.int (x.toInt16.toInt32) :: rest) h cl sl := by
  subst hp
  exact C.pure H fun p e s m args below meth c T locs X hx hby _ _ _ t k => XS.i2s X.here hx rfl (hb hby d) rfl k
theorem k_dup (C : Ctx l R n0 Z own bytes ml nm rt Q K O) {x : Value} (H : K pc L (x :: rest) h cl sl) (d : decode bytes pc = .ok (.dup, 1)) (hc : x.category = 1) (hp : pc + 1 = pc') : K pc' L (x :: x :: rest) h cl sl := by
  subst hp
  exact C.pure H fun p e s m args below meth c T locs X hx hby _ _ _ t k => XS.dup X.here hx rfl (hb hby d) rfl hc k
theorem k_pop (C : Ctx l R n0 Z own bytes ml nm rt Q K O) {x : Value} (H : K pc L (x :: rest) h cl sl) (d : decode bytes pc = .ok (.pop, 1)) (hc : x.category = 1) (hp : pc + 1 = pc') : K pc' L (rest) h cl sl := by
  subst hp
  exact C.pure H fun p e s m args below meth c T locs X hx hby _ _ _ t k => XS.pop X.here hx rfl (hb hby d) rfl hc k
theorem k_dupX1 (C : Ctx l R n0 Z own bytes ml nm rt Q K O) {x y : Value} (H : K pc L (x :: y :: rest) h cl sl) (d : decode bytes pc = .ok (.dup_x1, 1)) (hc : x.category = 1) (hc' : y.category = 1) (hp : pc + 1 = pc') : K pc' L (x :: y :: x :: rest) h cl sl := by
  subst hp
  exact C.pure H fun p e s m args below meth c T locs X hx hby _ _ _ t k => XS.dupX1 X.here hx rfl (hb hby d) rfl hc hc' k
theorem k_dup2 (C : Ctx l R n0 Z own bytes ml nm rt Q K O) {x y : Value} (H : K pc L (x :: y :: rest) h cl sl) (d : decode bytes pc = .ok (.dup2, 1)) (hc : x.category = 1) (hc' : y.category = 1) (hp : pc + 1 = pc') : K pc' L (x :: y :: x :: y :: rest) h cl sl := by
  subst hp
  exact C.pure H fun p e s m args below meth c T locs X hx hby _ _ _ t k => Jvm.Free.XT.dup2 X.here hx rfl (hb hby d) rfl hc hc' k
theorem k_iinc (C : Ctx l R n0 Z own bytes ml nm rt Q K O) {k : Nat} {i : Int} {x y : Int32} {L' : Array Slot} (H : K pc L (S) h cl sl) (d : decode bytes pc = .ok (.iinc k i, 3)) (hl : L[k]? = some (.val (.int x))) (hv : x + Int32.ofInt i = y) (hl' : storeLocals L k (.int y) = some L') (hp : pc + 3 = pc') : K pc' L' (S) h cl sl := by
  subst hp
  exact C.pure H fun p e s m args below meth c T locs X hx hby _ _ _ t k => XS.iinc X.here hx rfl (hb hby d) hl (by rw [hv]; exact hl') k
theorem k_ifcY (C : Ctx l R n0 Z own bytes ml nm rt Q K O) {cd : ClassFile.Cond} {o : Int} {x : Int32} (H : K pc L (.int x :: rest) h cl sl) (d : decode bytes pc = .ok (.ifCond cd o, 3)) (hc : if_icmp.holds cd x 0 = true) (ho : 0 ≤ (pc : Int) + o) (hp : ((pc : Int) + o).toNat = pc') : K pc' L rest h cl sl :=
  C.pure H fun p e s m args below meth c T locs X hx hby _ _ _ t k => XS.ifYes X.here hx rfl (pc0 := pc) rfl (hb hby d) rfl ((if0 _ _).trans hc) ho hp k
theorem k_ifcN (C : Ctx l R n0 Z own bytes ml nm rt Q K O) {cd : ClassFile.Cond} {o : Int} {x : Int32} (H : K pc L (.int x :: rest) h cl sl) (d : decode bytes pc = .ok (.ifCond cd o, 3)) (hc : if_icmp.holds cd x 0 = false) (hp : pc + 3 = pc') : K pc' L rest h cl sl := by
  subst hp
  exact C.pure H fun p e s m args below meth c T locs X hx hby _ _ _ t k => XS.ifNo X.here hx rfl (hb hby d) rfl ((if0 _ _).trans hc) k
theorem k_icmpY (C : Ctx l R n0 Z own bytes ml nm rt Q K O) {cd : ClassFile.Cond} {o : Int} {x y : Int32} (H : K pc L (.int y :: .int x :: rest) h cl sl) (d : decode bytes pc = .ok (.if_icmp cd o, 3)) (hc : if_icmp.holds cd x y = true) (ho : 0 ≤ (pc : Int) + o) (hp : ((pc : Int) + o).toNat = pc') : K pc' L rest h cl sl :=
  C.pure H fun p e s m args below meth c T locs X hx hby _ _ _ t k => XS.icmpYes X.here hx rfl (pc0 := pc) rfl (hb hby d) rfl hc ho hp k
theorem k_icmpN (C : Ctx l R n0 Z own bytes ml nm rt Q K O) {cd : ClassFile.Cond} {o : Int} {x y : Int32} (H : K pc L (.int y :: .int x :: rest) h cl sl) (d : decode bytes pc = .ok (.if_icmp cd o, 3)) (hc : if_icmp.holds cd x y = false) (hp : pc + 3 = pc') : K pc' L rest h cl sl := by
  subst hp
  exact C.pure H fun p e s m args below meth c T locs X hx hby _ _ _ t k => XS.icmpNo X.here hx rfl (hb hby d) rfl hc k
theorem k_goto (C : Ctx l R n0 Z own bytes ml nm rt Q K O) (H : K pc L S h cl sl) {o : Int} (d : decode bytes pc = .ok (.goto o, 3)) (ho : 0 ≤ (pc : Int) + o) (hp : ((pc : Int) + o).toNat = pc') : K pc' L S h cl sl :=
  C.pure H fun p e s m args below meth c T locs X hx hby _ _ _ t k => XS.goto X.here hx rfl (pc0 := pc) rfl (hb hby d) ho hp k
theorem k_ifnullY (C : Ctx l R n0 Z own bytes ml nm rt Q K O) (H : K pc L (.null :: rest) h cl sl) {o : Int} (d : decode bytes pc = .ok (.ifnull o, 3)) (ho : 0 ≤ (pc : Int) + o) (hp : ((pc : Int) + o).toNat = pc') : K pc' L rest h cl sl :=
  C.pure H fun p e s m args below meth c T locs X hx hby _ _ _ t k => XS.ifnullYes X.here hx rfl (pc0 := pc) rfl (hb hby d) rfl ho hp k
theorem k_ifnullN (C : Ctx l R n0 Z own bytes ml nm rt Q K O) {b : Addr} (H : K pc L (.ref b :: rest) h cl sl) {o : Int} (d : decode bytes pc = .ok (.ifnull o, 3)) (hp : pc + 3 = pc') : K pc' L rest h cl sl := by
  subst hp
  exact C.pure H fun p e s m args below meth c T locs X hx hby _ _ _ t k => XS.ifnullNo X.here hx rfl (hb hby d) rfl k
theorem k_ifnonnullY (C : Ctx l R n0 Z own bytes ml nm rt Q K O) {b : Addr} (H : K pc L (.ref b :: rest) h cl sl) {o : Int} (d : decode bytes pc = .ok (.ifnonnull o, 3)) (ho : 0 ≤ (pc : Int) + o) (hp : ((pc : Int) + o).toNat = pc') : K pc' L rest h cl sl :=
  C.pure H fun p e s m args below meth c T locs X hx hby _ _ _ t k => XS.ifnonnullYes X.here hx rfl (pc0 := pc) rfl (hb hby d) rfl ho hp k
theorem k_ifnonnullN (C : Ctx l R n0 Z own bytes ml nm rt Q K O) (H : K pc L (.null :: rest) h cl sl) {o : Int} (d : decode bytes pc = .ok (.ifnonnull o, 3)) (hp : pc + 3 = pc') : K pc' L rest h cl sl := by
  subst hp
  exact C.pure H fun p e s m args below meth c T locs X hx hby _ _ _ t k => XS.ifnonnullNo X.here hx rfl (hb hby d) rfl k
theorem k_acmp (C : Ctx l R n0 Z own bytes ml nm rt Q K O) {x y : Value} (H : K pc L (y :: x :: rest) h cl sl) {cd : ACond} {o : Int} (d : decode bytes pc = .ok (.if_acmp cd o, 3)) (h1 : x.isRef = true) (h2 : y.isRef = true) {same : Bool} (hq : decide (x = y) = same) (ho : 0 ≤ (pc : Int) + o) (hp : pc' = if acV cd same = true then ((pc : Int) + o).toNat else pc + 3) : K pc' L rest h cl sl :=
  C.pure H fun p e s m args below meth c T locs X hx hby _ _ _ t k => Jvm.RoadKit.acmp X hx rfl h1 h2 (pc0 := pc) rfl (hb hby d) rfl hq ho hp k
theorem k_dupX2 (C : Ctx l R n0 Z own bytes ml nm rt Q K O) {x y z : Value} (H : K pc L (x :: y :: z :: rest) h cl sl) (d : decode bytes pc = .ok (.dup_x2, 1)) (h1 : x.category = 1) (h2 : y.category = 1) (h3 : z.category = 1) (hp : pc + 1 = pc') : K pc' L (x :: y :: z :: x :: rest) h cl sl := by
  subst hp
  refine C.pure H fun p e s m args below meth c T locs X hx hby _ _ _ t k => ?_
  jvm_step X.here [X.here.top, hx, hb hby d, h1, h2, h3]
  exact k
theorem k_ldcI (C : Ctx l R n0 Z own bytes ml nm rt Q K O) (H : K pc L S h cl sl) {i : Nat} {v : Int32} (w : (Cond.constant own i v).before a0 Z = true) (d : decode bytes pc = .ok (.ldc i, 2)) (hp : pc + 2 = pc') : K pc' L (.int v :: S) h cl sl := by
  subst hp
  exact C.pure H fun p e s m args below meth c T locs X hx hby hZ hown _ t k => X.ldcInt hx hown (mvT hZ w) (g := mkF m pc L S) rfl (hb hby d) t k
theorem k_ldcL (C : Ctx l R n0 Z own bytes ml nm rt Q K O) (H : K pc L S h cl sl) {i : Nat} {v : Int64} (w : (Cond.constantLong own i v).before a0 Z = true) (d : decode bytes pc = .ok (.ldc2_w i, 3)) (hp : pc + 3 = pc') : K pc' L (.long v :: S) h cl sl := by
  subst hp
  exact C.pure H fun p e s m args below meth c T locs X hx hby hZ hown _ t k => X.ldc2Long hx hown (mvT hZ w) (g := mkF m pc L S) rfl (hb hby d) t k
theorem k_getFld (C : Ctx l R n0 Z own bytes ml nm rt Q K O) {a : Addr} (H : K pc L (.ref a :: rest) h cl sl) {i : Nat} {O' n d' : String} {v : Value} (w : (Cond.fieldLink own i O' n d').before a0 Z = true) (F : Fld Z h a O' n d' v) (d : decode bytes pc = .ok (.getfield i, 3)) (hp : pc + 3 = pc') : K pc' L (v :: rest) h cl sl := by
  subst hp
  exact C.note H fun p e s m args below meth c T locs X hx hby hZ hown _ eT => getF X hx hZ hown (host := "") (Or.inl w) Via.refl eT F (g := mkF m pc L (.ref a :: rest)) rfl rfl (hb hby d)
theorem k_getFldN (C : Ctx l R n0 Z own bytes ml nm rt Q K O) {a : Addr} (H : K pc L (.ref a :: rest) h cl sl) {i : Nat} {O' n d' host : String} {v : Value} (w : (Cond.fieldLinkNest own i O' n d' host).before a0 Z = true) (F : Fld Z h a O' n d' v) (d : decode bytes pc = .ok (.getfield i, 3)) (hp : pc + 3 = pc') : K pc' L (v :: rest) h cl sl := by
  subst hp
  exact C.note H fun p e s m args below meth c T locs X hx hby hZ hown _ eT => getF X hx hZ hown (Or.inr w) Via.refl eT F (g := mkF m pc L (.ref a :: rest)) rfl rfl (hb hby d)
theorem k_getSta (C : Ctx l R n0 Z own bytes ml nm rt Q K O) (H : K pc L S h cl sl) {i : Nat} {O' n d' : String} {v : Value} (w : (Cond.fieldLink own i O' n d').before a0 Z = true) (F : Sta Z h O' n d' v) (d : decode bytes pc = .ok (.getstatic i, 3)) (hp : pc + 3 = pc') : K pc' L (v :: S) h cl sl := by
  subst hp
  exact C.note H fun p e s m args below meth c T locs X hx hby hZ hown _ eT => getS2 X hx hZ hown (host := "") (Or.inl w) Via.refl eT F (g := mkF m pc L S) rfl (hb hby d)
theorem k_initObj (C : Ctx l R n0 Z own bytes ml nm rt Q K O) {a : Addr} (H : K pc L (.ref a :: rest) h cl sl) {i : Nat} (w1 : (Cond.methodLink own i Lib.objectInit).before a0 Z = true) (w2 : (Cond.instanceMethod Lib.objectInit).before a0 Z = true) (w3 : (Cond.code Lib.objectInit ⟨#[0xb1]⟩ 1 none).before a0 Z = true) (d : decode bytes pc = .ok (.invokespecial i, 3)) (hsz : L.size = ml)
    (hf : 1 ≤ R.frames) (W : Nat) (hW : (rest.map fun v => v.category).sum = W) (hl : W + 12 ≤ R.locals) (hp : pc + 3 = pc') : K pc' L rest h cl sl := by
  subst hp
  exact C.note H fun p e s m args below meth c T locs X hx hby hZ hown hml eT => initO X hx hZ hown w1 w2 w3 eT (g := mkF m pc L (.ref a :: rest)) rfl (hsz.trans hml.symm) rfl (hb hby d) hf (W := W) (by show 2 * 0 + _ ≤ _; omega) hl
theorem k_castYes (C : Ctx l R n0 Z own bytes ml nm rt Q K O) {a : Addr} (H : K pc L (.ref a :: rest) h cl sl) {i : Nat} {C' : String} (w : (Cond.classLink own i C').before a0 Z = true) (F : Ins Z h a C' true) (d : decode bytes pc = .ok (.checkcast i, 3)) (hp : pc + 3 = pc') : K pc' L (.ref a :: rest) h cl sl := by
  subst hp
  exact C.note H fun p e s m args below meth c T locs X hx hby hZ hown _ eT => castY X hx hZ hown w eT F (g := mkF m pc L (.ref a :: rest)) rfl rfl (hb hby d)
theorem k_castNull (C : Ctx l R n0 Z own bytes ml nm rt Q K O) (H : K pc L (.null :: rest) h cl sl) {i : Nat} (d : decode bytes pc = .ok (.checkcast i, 3)) (hp : pc + 3 = pc') : K pc' L (.null :: rest) h cl sl := by
  subst hp
  exact C.pure H fun p e s m args below meth c T locs X hx hby hZ hown _ t k => X.checkcastNull hx (g := mkF m pc L (.null :: rest)) rfl rfl (hb hby d) t k
theorem k_instYes (C : Ctx l R n0 Z own bytes ml nm rt Q K O) {a : Addr} (H : K pc L (.ref a :: rest) h cl sl) {i : Nat} {C' : String} (w : (Cond.classLink own i C').before a0 Z = true) (F : Ins Z h a C' true) (d : decode bytes pc = .ok (.instanceof i, 3)) (hp : pc + 3 = pc') : K pc' L (.int 1 :: rest) h cl sl := by
  subst hp
  exact C.note H fun p e s m args below meth c T locs X hx hby hZ hown _ eT => instY X hx hZ hown w eT F (g := mkF m pc L (.ref a :: rest)) rfl rfl (hb hby d)
theorem k_instNull (C : Ctx l R n0 Z own bytes ml nm rt Q K O) (H : K pc L (.null :: rest) h cl sl) {i : Nat} (d : decode bytes pc = .ok (.instanceof i, 3)) (hp : pc + 3 = pc') : K pc' L (.int 0 :: rest) h cl sl := by
  subst hp
  exact C.pure H fun p e s m args below meth c T locs X hx hby hZ hown _ t k => X.instanceofNull hx (g := mkF m pc L (.null :: rest)) rfl rfl (hb hby d) t k
theorem k_instNot (C : Ctx l R n0 Z own bytes ml nm rt Q K O) {a : Addr} (H : K pc L (.ref a :: rest) h cl sl) {i : Nat} {C' D' : String} (w : (Cond.classLink own i C').before a0 Z = true) (E : Exa Z h a D') (F : ∃ c t, Z.vm.findClass D' = some c ∧ Z.vm.findClass C' = some t ∧ Z.vm.assignable c t = false) (d : decode bytes pc = .ok (.instanceof i, 3)) (hp : pc + 3 = pc') : K pc' L (.int 0 :: rest) h cl sl := by
  subst hp
  exact C.note H fun p e s m args below meth c T locs X hx hby hZ hown _ eT => instNo X hx hZ hown w eT E F (g := mkF m pc L (.ref a :: rest)) rfl rfl (hb hby d)
/-! what writes or makes -/
theorem k_putFld (C : Ctx l R n0 Z own bytes ml nm rt Q K O) {a : Addr} {v : Value} (H : K pc L (v :: .ref a :: rest) h cl sl) {i kk : Nat} {O' n d' C' : String} {ty : FieldType} {old : Value} (w : (Cond.fieldLink own i O' n d').before a0 Z = true) (F : Fld Z h a O' n d' old) (E : Exa Z h a C')
    (Lw : (Cond.lays C' O' n d').before a0 Z = true ∨ ((Cond.laysFinal C' O' n d').before a0 Z = true ∧ own = O' ∧ nm = "<init>")) (wi : (Cond.instantiable C' kk).before a0 Z = true) (hty : parseFieldDescriptor d' = some ty) {v' : Value} (hn : narrow ty v = v') (hf : fits ty v' = true) (g : n0 ≤ a) (d : decode bytes pc = .ok (.putfield i, 3)) (hp : pc + 3 = pc') :
    ∃ h', Wr h h' a (Jvm.RoadKit.slotOf Z O' n d') v' ∧ K pc' L rest h' cl sl := by
  subst hp
  obtain ⟨p, e, s, m, args, below, meth, c, s1, f0, hx, hby, hZ, hown, hml, hnm, hrt, hlk, hK, hO⟩ := C
  obtain ⟨T, locs, X, eT, N, st⟩ := (hK _ _ _ _ _ _).mp H
  obtain ⟨T', h', X', e', W', st'⟩ := putFN X hx hZ hown w Via.refl eT F E (Lw.imp id fun q => ⟨q.1, q.2.1, hnm.trans q.2.2⟩) wi hty hn hf (g := mkF m pc L (v :: .ref a :: rest)) rfl rfl (hb hby d)
  exact ⟨h', W', (hK _ _ _ _ _ _).mpr ⟨T', _, X', e', Fr.snoc X' N g, fun t k => st t (st' t k)⟩⟩
theorem k_newObj (C : Ctx l R n0 Z own bytes ml nm rt Q K O) (H : K pc L S h cl sl) {i n : Nat} {C' : String} (w : (Cond.classLink own i C').before a0 Z = true) (wi : (Cond.instantiable C' n).before a0 Z = true) (wz : (Cond.initialized C').before a0 Z = true) (d : decode bytes pc = .ok (.new i, 3)) (hc : cl + 1 ≤ R.cells) (hl : sl + n ≤ R.slots) (hp : pc + 3 = pc') :
    ∃ h' b, b = h.size ∧ Ext h h' ∧ Exa Z h' b C' ∧ (∀ {O' nm' d' : String} {ty : FieldType}, Laid Z a0 C' O' nm' d' → parseFieldDescriptor d' = some ty → Fld Z h' b O' nm' d' (defaultValue ty)) ∧ K pc' L (.ref b :: S) h' (cl + 1) (sl + n) := by
  subst hp
  obtain ⟨p, e, s, m, args, below, meth, c, s1, f0, hx, hby, hZ, hown, hml, hnm, hrt, hlk, hK, hO⟩ := C
  obtain ⟨T, locs, X, eT, N, st⟩ := (hK _ _ _ _ _ _).mp H
  obtain ⟨T', h', X', e', E', A', D', -, st'⟩ := newO X hx hZ hown w wi wz eT (g := mkF m pc L S) rfl (hb hby d) hc hl
  exact ⟨h', _, rfl, E', A', D', (hK _ _ _ _ _ _).mpr ⟨T', _, X', e', N, fun t k => st t (st' t k)⟩⟩
theorem k_newArr (C : Ctx l R n0 Z own bytes ml nm rt Q K O) {n : Int32} (H : K pc L (.int n :: rest) h cl sl) {aty : ArrayType} (w : (Cond.arrayClass (newarray.typeOf aty)).before a0 Z = true) (d : decode bytes pc = .ok (.newarray aty, 2)) (hn : ¬ n < 0) {cap : Nat} (hcap : n.toNatClampNeg ≤ cap) (hb' : cap * 8 ≤ 536870912) (hc : cl + 1 ≤ R.cells) (hl : sl + cap ≤ R.slots) (hp : pc + 2 = pc') :
    ∃ h' b cA, b = h.size ∧ Ext h h' ∧ Arr Z h' b (newA cA (newarray.typeOf aty) n) (newarray.typeOf aty) ∧ K pc' L (.ref b :: rest) h' (cl + 1) (sl + cap) := by
  subst hp
  obtain ⟨p, e, s, m, args, below, meth, c, s1, f0, hx, hby, hZ, hown, hml, hnm, hrt, hlk, hK, hO⟩ := C
  obtain ⟨T, locs, X, eT, N, st⟩ := (hK _ _ _ _ _ _).mp H
  obtain ⟨T', h', cA, X', e', E', A', st'⟩ := newP X hx hZ w eT (g := mkF m pc L (.int n :: rest)) rfl (hb hby d) rfl hn hcap hb' hc hl
  exact ⟨h', _, cA, rfl, E', A', (hK _ _ _ _ _ _).mpr ⟨T', _, X', e', N, fun t k => st t (st' t k)⟩⟩
/-! the returns -/
theorem k_out_of (C : Ctx l R n0 Z own bytes ml nm rt Q K O) (H : K pc L S h cl sl) {v : Option Value} (hv : rt = none → v = none) (hq : Q v h) (hc : cl ≤ R.cells) (hl : sl ≤ R.slots)
    (f : ∀ (p : Program) (e : Env) (s : State) (m : MethodId) (args : Array Value) (below : List Frame) (meth : Method) (c : Code) (T : State) (locs : List Loc) (fs : List Frame), Stand p l e R s m args below meth c T locs cl sl → p.tables.exec = Jvm.exec → c.code = bytes → meth.sig.returnType = rt →
      (∀ (f : JFrame) (acts : List Action), f.method = m → f.locked = none → f.entered = [] → (doReturn e (T.setTop f) acts v).1 = T.setFrames fs) → Steps p.tables e below (T.setTop (mkF m pc L S)) (T.setFrames fs)) : O := by
  obtain ⟨p, e, s, m, args, below, meth, c, s1, f0, hx, hby, hZ, hown, hml, hnm, hrt, hlk, hK, hO⟩ := C
  obtain ⟨T, locs, X, eT, N, st⟩ := (hK _ _ _ _ _ _).mp H
  obtain ⟨fs, hr, hrun, hended, hW, hsame⟩ := X.leave (v := v) (fun q => hv (hrt.symm.trans q)) hlk
  refine hO ⟨_, _, st _ (f p e s m args below meth c T locs fs X hx hby hrt hr), hrun, hended, v, locs, rfl, ⟨?_, N⟩, ⟨_, rfl⟩, hW, hsame.mono hc hl⟩
  show Q v T.heap
  rw [eT]; exact hq
theorem k_retV (C : Ctx l R n0 Z own bytes ml nm none Q K O) (H : K pc L [] h cl sl) (d : decode bytes pc = .ok (.return_, 1)) (hc : cl ≤ R.cells) (hl : sl ≤ R.slots) (hq : Q none h) : O :=
  k_out_of C H (fun _ => rfl) hq hc hl fun p e s m args below meth c T locs fs X hx hby hrt hr => X.returnOut hx hrt (hb hby d) hr
theorem k_retI (C : Ctx l R n0 Z own bytes ml nm (some .int) Q K O) {z : Int32} (H : K pc L (.int z :: rest) h cl sl) (d : decode bytes pc = .ok (.ireturn, 1)) (hc : cl ≤ R.cells) (hl : sl ≤ R.slots) (hq : Q (some (.int z)) h) : O :=
  k_out_of C H (fun q => nomatch q) hq hc hl fun p e s m args below meth c T locs fs X hx hby hrt hr => retOut X hx hrt (i := .ireturn) rfl (Or.inl ⟨rfl, Or.inl rfl, _, rfl⟩) (hb hby d) hr
theorem k_retJ (C : Ctx l R n0 Z own bytes ml nm (some .long) Q K O) {z : Int64} (H : K pc L (.long z :: rest) h cl sl) (d : decode bytes pc = .ok (.lreturn, 1)) (hc : cl ≤ R.cells) (hl : sl ≤ R.slots) (hq : Q (some (.long z)) h) : O :=
  k_out_of C H (fun q => nomatch q) hq hc hl fun p e s m args below meth c T locs fs X hx hby hrt hr => retOut X hx hrt (i := .lreturn) rfl (Or.inr (Or.inl ⟨rfl, rfl, _, rfl⟩)) (hb hby d) hr
theorem k_retA {t : FieldType} (C : Ctx l R n0 Z own bytes ml nm (some t) Q K O) {v : Value} (H : K pc L (v :: rest) h cl sl) (d : decode bytes pc = .ok (.areturn, 1)) (ht : t.isReference = true) (hv : v.isRef = true) (hc : cl ≤ R.cells) (hl : sl ≤ R.slots) (hq : Q (some v) h) : O :=
  k_out_of C H (fun q => nomatch q) hq hc hl fun p e s m args below meth c T locs fs X hx hby hrt hr => retOut X hx hrt (i := .areturn) (by rcases ref_cases hv with rfl | ⟨a, rfl⟩ <;> cases t <;> first | rfl | cases ht) (Or.inr (Or.inr (Or.inr (Or.inr ⟨rfl, ht, hv⟩)))) (hb hby d) hr
theorem k_retN {t : FieldType} (C : Ctx l R n0 Z own bytes ml nm (some t) Q K O) {z : Int32} (H : K pc L (.int z :: rest) h cl sl) (d : decode bytes pc = .ok (.ireturn, 1)) (ht : t = .boolean ∨ t = .byte ∨ t = .char ∨ t = .short) (hc : cl ≤ R.cells) (hl : sl ≤ R.slots) (hq : Q (some (.int (nar t z))) h) : O :=
  k_out_of C H (fun q => nomatch q) hq hc hl fun p e s m args below meth c T locs fs X hx hby hrt hr => Jvm.RoadKit.retN X hx hrt ht (hb hby d) hr
theorem k_retZ (C : Ctx l R n0 Z own bytes ml nm (some .boolean) Q K O) {z : Int32} (H : K pc L (.int z :: rest) h cl sl) (d : decode bytes pc = .ok (.ireturn, 1)) (hz : z &&& 1 = z) (hc : cl ≤ R.cells) (hl : sl ≤ R.slots) (hq : Q (some (.int z)) h) : O :=
  k_retN C H d (Or.inl rfl) hc hl (by show Q (some (.int (z &&& 1))) h; rw [hz]; exact hq)
/-! the calls -/
theorem k_callSta (C : Ctx l R n0 Z own bytes ml nm rt Q K O) (H : K pc L S h cl sl) {i : Nat} {y : MethodName} {bytes' : ByteArray} {ml' : Nat} {rt' : Option FieldType} {rm : Room} {as : Array Value} {Q' : Qt} (k : Con l y bytes' ml' rt' rm Z as h n0 Q')
    (w1 : (Cond.methodLink own i y).before a0 Z = true) (w2 : (Cond.static y).before a0 Z = true) (w3 : (Cond.initialized y.cls).before a0 Z = true) (w4 : (Cond.code y bytes' ml' rt').before a0 Z = true) (hy : y.cls ≠ "java/lang/invoke/MethodHandle" ∧ y.cls ≠ "java/lang/invoke/VarHandle")
    (d : decode bytes pc = .ok (.invokestatic i, 3)) (hsz : L.size = ml) (argsL rest : List Value) {ps : List FieldType} (hd : parseMethodDescriptor y.desc = some ⟨ps, rt'⟩) (hlen : argsL.length = ps.length) (hS : S = argsL.reverse ++ rest) (has : argsL.toArray = as) (W : Nat) (hW : (rest.map fun v => v.category).sum = W)
    (hfr : rm.frames + 1 ≤ R.frames) (hlo : W + (ml' + 11) + rm.locals ≤ R.locals) (hc : cl + rm.cells ≤ R.cells) (hs : sl + rm.slots ≤ R.slots) (hp : pc + 3 = pc') :
    ∃ v h', Q' v h' ∧ K pc' L (v.toList ++ rest) h' (cl + rm.cells) (sl + rm.slots) := by
  subst hp
  obtain ⟨p, e, s, m, args, below, meth, c, s1, f0, hx, hby, hZ, hown, hml, hnm, hrt, hlk, hK, hO⟩ := C
  obtain ⟨T, locs, X, eT, N, st⟩ := (hK _ _ _ _ _ _).mp H
  obtain ⟨v, _, ⟨T', L', k', n'⟩, -, X', ⟨Lc, ⟨hQ, hF⟩, l', y', z'⟩, st'⟩ := Jvm.LawKit.callS X hx (y := y) hown (mvT hZ w1) (mvT hZ w2) (mvT hZ w3) (mvT hZ w4) hy (backOf (Q := fun v h' L => Q' v h' ∧ Fr n0 L) (W := W) (k []) hZ w4 w3 hfr hlo) (g := mkF m pc L S) rfl (hsz.trans hml.symm) (argsL := argsL) (rest := rest) (lenOf hd hlen) hS (by show 2 * 0 + _ ≤ _; omega) (hb hby d) (fun _ _ => ⟨has, eT, hc, hs⟩)
  dsimp only [Pt.U, Pt.locs, Pt.cells, Pt.slots] at X' l' y' z' st' hQ
  subst l' y' z'
  exact ⟨v, T'.heap, hQ, (hK _ _ _ _ _ _).mpr ⟨T', _, X', rfl, N.app hF, fun t k => st t (st' t k)⟩⟩
theorem k_callCon (C : Ctx l R n0 Z own bytes ml nm rt Q K O) (H : K pc L S h cl sl) {i : Nat} {y : MethodName} {bytes' : ByteArray} {ml' : Nat} {rm : Room} {as : Array Value} {Q' : Qt} (k : Con l y bytes' ml' none rm Z as h n0 Q') (hi : y.name = "<init>")
    (w1 : (Cond.methodLink own i y).before a0 Z = true) (w2 : (Cond.instanceMethod y).before a0 Z = true) (w3 : (Cond.initialized y.cls).before a0 Z = true) (w4 : (Cond.code y bytes' ml' none).before a0 Z = true) (hy : y.cls ≠ "java/lang/invoke/MethodHandle" ∧ y.cls ≠ "java/lang/invoke/VarHandle")
    (d : decode bytes pc = .ok (.invokespecial i, 3)) (hsz : L.size = ml) (a : Addr) (argsL rest : List Value) {ps : List FieldType} (hd : parseMethodDescriptor y.desc = some ⟨ps, none⟩) (hlen : argsL.length = ps.length) (hS : S = argsL.reverse ++ .ref a :: rest) (has : (.ref a :: argsL).toArray = as) (W : Nat) (hW : (rest.map fun v => v.category).sum = W)
    (hfr : rm.frames + 1 ≤ R.frames) (hlo : W + (ml' + 11) + rm.locals ≤ R.locals) (hc : cl + rm.cells ≤ R.cells) (hs : sl + rm.slots ≤ R.slots) (hp : pc + 3 = pc') :
    ∃ v h', Q' v h' ∧ K pc' L (v.toList ++ rest) h' (cl + rm.cells) (sl + rm.slots) := by
  subst hp
  obtain ⟨p, e, s, m, args, below, meth, c, s1, f0, hx, hby, hZ, hown, hml, hnm, hrt, hlk, hK, hO⟩ := C
  obtain ⟨T, locs, X, eT, N, st⟩ := (hK _ _ _ _ _ _).mp H
  obtain ⟨v, _, ⟨T', L', k', n'⟩, -, X', ⟨Lc, ⟨hQ, hF⟩, l', y', z'⟩, st'⟩ := X.specialBack hx (y := y) hi hown (mvT hZ w1) (mvT hZ w2) (mvT hZ w4) hy (backOf (Q := fun v h' L => Q' v h' ∧ Fr n0 L) (W := W) (k []) hZ w4 w3 hfr hlo) (g := mkF m pc L S) rfl (hsz.trans hml.symm) (Steps.refl _) (a := a) (argsL := argsL) (rest := rest) (lenOf hd hlen) hS (by show 2 * 0 + _ ≤ _; omega) (hb hby d) (fun _ _ => ⟨has, eT, hc, hs⟩)
  dsimp only [Pt.U, Pt.locs, Pt.cells, Pt.slots] at X' l' y' z' st' hQ
  subst l' y' z'
  exact ⟨v, T'.heap, hQ, (hK _ _ _ _ _ _).mpr ⟨T', _, X', rfl, N.app hF, fun t k => st t (st'.trans k)⟩⟩
theorem k_callVir (C : Ctx l R n0 Z own bytes ml nm rt Q K O) (H : K pc L S h cl sl) {i : Nat} {y : MethodName} {bytes' : ByteArray} {ml' : Nat} {rt' : Option FieldType} {rm : Room} {as : Array Value} {Q' : Qt} (k : Con l y bytes' ml' rt' rm Z as h n0 Q') {a : Addr} {C' : String} (E : Exa Z h a C')
    (w1 : (Cond.methodLink own i y).before a0 Z = true) (w2 : (Cond.declares y).before a0 Z = true) (w3 : (Cond.selects C' y y).before a0 Z = true) (w4 : (Cond.instanceMethod y).before a0 Z = true) (w5 : (Cond.initialized y.cls).before a0 Z = true) (w6 : (Cond.code y bytes' ml' rt').before a0 Z = true) (hy : y.cls ≠ "java/lang/invoke/MethodHandle" ∧ y.cls ≠ "java/lang/invoke/VarHandle")
    (d : decode bytes pc = .ok (.invokevirtual i, 3)) (hsz : L.size = ml) (argsL rest : List Value) {ps : List FieldType} {rt2 : Option FieldType} (hd : parseMethodDescriptor y.desc = some ⟨ps, rt2⟩) (hlen : argsL.length = ps.length) (hS : S = argsL.reverse ++ .ref a :: rest) (has : (.ref a :: argsL).toArray = as) (W : Nat) (hW : (rest.map fun v => v.category).sum = W)
    (hfr : rm.frames + 1 ≤ R.frames) (hlo : W + (ml' + 11) + rm.locals ≤ R.locals) (hc : cl + rm.cells ≤ R.cells) (hs : sl + rm.slots ≤ R.slots) (hp : pc + 3 = pc') :
    ∃ v h', Q' v h' ∧ K pc' L (v.toList ++ rest) h' (cl + rm.cells) (sl + rm.slots) := by
  subst hp
  obtain ⟨p, e, s, m, args, below, meth, c, s1, f0, hx, hby, hZ, hown, hml, hnm, hrt, hlk, hK, hO⟩ := C
  obtain ⟨T, locs, X, eT, N, st⟩ := (hK _ _ _ _ _ _).mp H
  obtain ⟨cq, kq, qa, qb, qc⟩ := isOf hZ eT E
  obtain ⟨v, _, ⟨T', L', k', n'⟩, -, X', ⟨Lc, ⟨hQ, hF⟩, l', y', z'⟩, st'⟩ := X.virtualBack hx (y := y) (z := y) hown (mvT hZ w1) (mvT hZ w2) (notFace_of_selects (args := #[]) (mvT hZ w3)) (mvT hZ w3) (mvT hZ w4) hy (backOf (Q := fun v h' L => Q' v h' ∧ Fr n0 L) (W := W) (k []) hZ w6 w5 hfr hlo) qa qc (g := mkF m pc L S) rfl (hsz.trans hml.symm) (Steps.refl _) (argsL := argsL) (rest := rest) (lenOf hd hlen) hS (by show 2 * 0 + _ ≤ _; omega) (hb hby d) (fun _ _ => ⟨has, eT, hc, hs⟩)
  dsimp only [Pt.U, Pt.locs, Pt.cells, Pt.slots] at X' l' y' z' st' hQ
  subst l' y' z'
  exact ⟨v, T'.heap, hQ, (hK _ _ _ _ _ _).mpr ⟨T', _, X', rfl, N.app hF, fun t k => st t (st'.trans k)⟩⟩
end Steps
/-- a class whose only superclass is one without a superclass is no subclass of a third, ordinary one -/
theorem noSub {Z : State} {a0 : Array Value} {C S K : String} {n : Nat} (w : (Cond.superclass C S).before a0 Z = true) (wo : (Cond.noSuperclass S).before a0 Z = true) (wk : (Cond.instantiable K n).before a0 Z = true) (h1 : S ≠ K) (h2 : C ≠ K) :
    ∃ c t, Z.vm.findClass C = some c ∧ Z.vm.findClass K = some t ∧ Z.vm.assignable c t = false := by
  obtain ⟨t, kt, g1, g2, g3, g4, -⟩ := Cond.instantiable_spec wk
  obtain ⟨co, ko, o1, o2, o3, -, -⟩ := Cond.noSuperclass_spec wo
  have nsO : NS Z S K := ⟨co, t, o1, g1, fun fuel => by
    have ne := ids_ne o1 g1 h1
    cases fuel with
    | zero => rfl
    | succ f => simp [Vm.isSubclassAux, ne, o2, o3]⟩
  obtain ⟨c, t', h0, g0, n3⟩ := NS.step w nsO h2
  cases g1.symm.trans g0
  obtain ⟨p, k, kp, q1, q2, q3, q4, q5, -, q7⟩ := Cond.superclass_spec h0 w
  have ne := ids_ne h0 g0 h2
  have gi : kt.isInterface = false := by
    cases hi : kt.isInterface with
    | false => rfl
    | true => simp [hi] at g4
  refine ⟨c, t, h0, g1, ?_⟩
  show Z.vm.assignableAux (255 + 1) c t = false
  simp [Vm.assignableAux, ne, q2, g2, q5, g3, gi, Vm.isSubclass, n3]
/-! arrays of ints, bytes, chars: what lies at each place -/
def Ari (Z : State) (h : Heap) (a : Addr) (ty : FieldType) (n : Nat) (f : Nat → Int32) : Prop := ∃ c : Cell, Arr Z h a c ty ∧ c.slots.size = n ∧ n < 2 ^ 31 ∧ ∀ i, i < n → c.slots[i]? = some (.int (f i))
section Arrays
variable {Z : State} {h h' : Heap} {a b : Addr} {ty : FieldType} {n : Nat} {f : Nat → Int32} {sl : Nat} {v : Value} {ws : List Addr}
theorem Ari.lt (F : Ari Z h a ty n f) : a < h.size := by obtain ⟨c, A, -⟩ := F; exact A.lt
theorem Ari.ext (F : Ari Z h a ty n f) (E : Ext h h') : Ari Z h' a ty n f := by obtain ⟨c, A, r⟩ := F; exact ⟨c, A.ext E, r⟩
theorem Ari.other (F : Ari Z h b ty n f) (W : Wr h h' a sl v) (q : b ≠ a) : Ari Z h' b ty n f := by obtain ⟨c, A, r⟩ := F; exact ⟨c, A.other W q, r⟩
theorem Ari.keep (F : Ari Z h a ty n f) (K : Keep h h' ws) (q : a ∉ ws) : Ari Z h' a ty n f := by obtain ⟨c, A, r⟩ := F; exact ⟨c, ⟨K.2.1 a c A.1 q, A.2⟩, r⟩
theorem Ari.congr {g : Nat → Int32} (F : Ari Z h a ty n f) (q : ∀ i, i < n → f i = g i) : Ari Z h a ty n g := by obtain ⟨c, A, r1, r2, r3⟩ := F; exact ⟨c, A, r1, r2, fun i hi => by rw [← q i hi]; exact r3 i hi⟩
theorem Ari.set (F : Ari Z h a ty n f) {i : Nat} {x : Int32} (W : Wr h h' a i (.int x)) : Ari Z h' a ty n (fun k => if k = i then x else f k) := by
  obtain ⟨c, A, r1, r2, r3⟩ := F
  refine ⟨c.setSlot i (.int x), A.same W, by rw [sz_set]; exact r1, r2, fun k hk => ?_⟩
  by_cases q : k = i
  · subst q
    simp [Cell.setSlot, r1, hk]
  · have : i ≠ k := fun z => q z.symm
    simp [Cell.setSlot, q, this, Array.getElem?_setIfInBounds_ne this, r3 k hk]
theorem addN {x y : Int32} {i j : Nat} (hx : x.toInt = i) (hy : y.toInt = j) (h : i + j < 2147483648) : (x + y).toInt = ((i + j : Nat) : Int) := by
  have a := c_iadd x y
  have r := rng32 (x + y)
  omega
theorem toNatClampNeg_of {j : Int32} {i : Nat} (hj : j.toInt = i) : j.toNatClampNeg = i := by rw [Int32.toNatClampNeg, hj]; rfl
theorem inb {j : Int32} {i m : Nat} (hj : j.toInt = i) (hi : i < m) : ¬ (j < 0 ∨ m ≤ j.toNatClampNeg) := by
  rw [toNatClampNeg_of hj, Int32.lt_iff_toInt_lt, hj]
  simp; omega
theorem Ari.ofNew {cA : ClassId} {z : Int32} (A : Arr Z h a (newA cA ty z) ty) (hz : z.toInt = n) (hd : defaultValue ty = .int 0) : Ari Z h a ty n (fun _ => 0) := by
  have hn : z.toNatClampNeg = n := toNatClampNeg_of hz
  refine ⟨_, A, by rw [sz_new, hn], by have := z.toInt_lt; omega, fun i hi => ?_⟩
  simp [newA, hn, hi, hd]
end Arrays
section ArrSteps
variable {l : Launch} {R : Room} {n0 : Nat} {Z : State} {own : String} {bytes : ByteArray} {ml : Nat} {nm : String} {rt : Option FieldType} {Q : Qt} {K : Kt} {O : Prop} {a0 : Array Value} {pc : Nat} {L : Array Slot} {S rest : List Value} {h : Heap} {cl sl : Nat} {pc' : Nat}
theorem k_arrlen (C : Ctx l R n0 Z own bytes ml nm rt Q K O) {a : Addr} (H : K pc L (.ref a :: rest) h cl sl) {ty : FieldType} {n : Nat} {f : Nat → Int32} (F : Ari Z h a ty n f) (d : decode bytes pc = .ok (.arraylength, 1)) (hp : pc + 1 = pc') : K pc' L (.int n.toInt32 :: rest) h cl sl := by
  subst hp
  obtain ⟨c', A, r1, r2, r3⟩ := F
  exact C.pure H fun p e s m args below meth c T locs X hx hby hZ hown eT t k => X.arraylength hx (by rw [eT]; exact A.1) (State.isArrayOf_alike hZ.alike A.2.1) (g := mkF m pc L (.ref a :: rest)) rfl rfl (hb hby d) t (by rw [r1]; exact k)

theorem k_iaload (C : Ctx l R n0 Z own bytes ml nm rt Q K O) {a : Addr} {j : Int32} (H : K pc L (.int j :: .ref a :: rest) h cl sl) {n : Nat} {f : Nat → Int32} (F : Ari Z h a .int n f) {i : Nat} (hj : j.toInt = i) (hi : i < n) (d : decode bytes pc = .ok (.iaload, 1)) (hp : pc + 1 = pc') : K pc' L (.int (f i) :: rest) h cl sl := by
  subst hp
  obtain ⟨c', A, r1, r2, r3⟩ := F
  exact C.pure H fun p e s m args below meth c T locs X hx hby hZ hown eT t k => X.iaload hx (by rw [eT]; exact A.1) (State.isArrayOf_alike hZ.alike A.2.1) A.2.2 (inb hj (r1.symm ▸ hi)) (by rw [toNatClampNeg_of hj]; exact r3 i hi) (g := mkF m pc L (.int j :: .ref a :: rest)) rfl rfl (hb hby d) t k
theorem k_baload (C : Ctx l R n0 Z own bytes ml nm rt Q K O) {a : Addr} {j : Int32} (H : K pc L (.int j :: .ref a :: rest) h cl sl) {n : Nat} {f : Nat → Int32} (F : Ari Z h a .byte n f) {i : Nat} (hj : j.toInt = i) (hi : i < n) (d : decode bytes pc = .ok (.baload, 1)) (hp : pc + 1 = pc') : K pc' L (.int (f i) :: rest) h cl sl := by
  subst hp
  obtain ⟨c', A, r1, r2, r3⟩ := F
  exact C.pure H fun p e s m args below meth c T locs X hx hby hZ hown eT t k => X.baloadBytes hx (by rw [eT]; exact A.1) (State.isArrayOf_alike hZ.alike A.2.1) A.2.2 (inb hj (r1.symm ▸ hi)) (by rw [toNatClampNeg_of hj]; exact r3 i hi) (g := mkF m pc L (.int j :: .ref a :: rest)) rfl rfl (hb hby d) t k
theorem k_caload (C : Ctx l R n0 Z own bytes ml nm rt Q K O) {a : Addr} {j : Int32} (H : K pc L (.int j :: .ref a :: rest) h cl sl) {n : Nat} {f : Nat → Int32} (F : Ari Z h a .char n f) {i : Nat} (hj : j.toInt = i) (hi : i < n) (d : decode bytes pc = .ok (.caload, 1)) (hp : pc + 1 = pc') : K pc' L (.int (f i) :: rest) h cl sl := by
  subst hp
  obtain ⟨c', A, r1, r2, r3⟩ := F
  exact C.pure H fun p e s m args below meth c T locs X hx hby hZ hown eT t k => X.caload hx (by rw [eT]; exact A.1) (State.isArrayOf_alike hZ.alike A.2.1) A.2.2 (inb hj (r1.symm ▸ hi)) (by rw [toNatClampNeg_of hj]; exact r3 i hi) (g := mkF m pc L (.int j :: .ref a :: rest)) rfl rfl (hb hby d) t k
theorem k_iastore (C : Ctx l R n0 Z own bytes ml nm rt Q K O) {a : Addr} {j x : Int32} (H : K pc L (.int x :: .int j :: .ref a :: rest) h cl sl) {n : Nat} {f : Nat → Int32} (F : Ari Z h a .int n f) {i : Nat} (hj : j.toInt = i) (hi : i < n) (g : n0 ≤ a) (d : decode bytes pc = .ok (.iastore, 1)) (hp : pc + 1 = pc') : ∃ h', Wr h h' a i (.int (x)) ∧ Ari Z h' a .int n (fun k => if k = i then x else f k) ∧ K pc' L rest h' cl sl := by
  subst hp
  have F0 := F
  obtain ⟨c', A, r1, r2, r3⟩ := F
  obtain ⟨p, e, s, m, args, below, meth, c, s1, f0, hx, hby, hZ, hown, hml, hnm, hrt, hlk, hK, hO⟩ := C
  obtain ⟨T, locs, X, eT, N, st⟩ := (hK _ _ _ _ _ _).mp H
  obtain ⟨T', h', X', e', W', st'⟩ := stI X hx hZ eT A (inb hj (r1.symm ▸ hi)) (g := mkF m pc L (.int x :: .int j :: .ref a :: rest)) rfl rfl (hb hby d)
  have N' := Fr.snoc X' N g
  rw [toNatClampNeg_of hj] at W'
  exact ⟨h', W', F0.set W', (hK _ _ _ _ _ _).mpr ⟨T', _, X', e', N', fun t k => st t (st' t k)⟩⟩
theorem k_bastore (C : Ctx l R n0 Z own bytes ml nm rt Q K O) {a : Addr} {j x : Int32} (H : K pc L (.int x :: .int j :: .ref a :: rest) h cl sl) {n : Nat} {f : Nat → Int32} (F : Ari Z h a .byte n f) {i : Nat} (hj : j.toInt = i) (hi : i < n) (g : n0 ≤ a) (d : decode bytes pc = .ok (.bastore, 1)) (hp : pc + 1 = pc') : ∃ h', Wr h h' a i (.int (nar .byte x)) ∧ Ari Z h' a .byte n (fun k => if k = i then nar .byte x else f k) ∧ K pc' L rest h' cl sl := by
  subst hp
  have F0 := F
  obtain ⟨c', A, r1, r2, r3⟩ := F
  obtain ⟨p, e, s, m, args, below, meth, c, s1, f0, hx, hby, hZ, hown, hml, hnm, hrt, hlk, hK, hO⟩ := C
  obtain ⟨T, locs, X, eT, N, st⟩ := (hK _ _ _ _ _ _).mp H
  obtain ⟨T', h', X', e', W', st'⟩ := stB X hx hZ eT A (inb hj (r1.symm ▸ hi)) (g := mkF m pc L (.int x :: .int j :: .ref a :: rest)) rfl rfl (hb hby d)
  have N' := Fr.snoc X' N g
  rw [toNatClampNeg_of hj] at W'
  exact ⟨h', W', F0.set W', (hK _ _ _ _ _ _).mpr ⟨T', _, X', e', N', fun t k => st t (st' t k)⟩⟩
theorem k_castore (C : Ctx l R n0 Z own bytes ml nm rt Q K O) {a : Addr} {j x : Int32} (H : K pc L (.int x :: .int j :: .ref a :: rest) h cl sl) {n : Nat} {f : Nat → Int32} (F : Ari Z h a .char n f) {i : Nat} (hj : j.toInt = i) (hi : i < n) (g : n0 ≤ a) (d : decode bytes pc = .ok (.castore, 1)) (hp : pc + 1 = pc') : ∃ h', Wr h h' a i (.int (nar .char x)) ∧ Ari Z h' a .char n (fun k => if k = i then nar .char x else f k) ∧ K pc' L rest h' cl sl := by
  subst hp
  have F0 := F
  obtain ⟨c', A, r1, r2, r3⟩ := F
  obtain ⟨p, e, s, m, args, below, meth, c, s1, f0, hx, hby, hZ, hown, hml, hnm, hrt, hlk, hK, hO⟩ := C
  obtain ⟨T, locs, X, eT, N, st⟩ := (hK _ _ _ _ _ _).mp H
  obtain ⟨T', h', X', e', W', st'⟩ := stC X hx hZ eT A (inb hj (r1.symm ▸ hi)) (g := mkF m pc L (.int x :: .int j :: .ref a :: rest)) rfl rfl (hb hby d)
  have N' := Fr.snoc X' N g
  rw [toNatClampNeg_of hj] at W'
  exact ⟨h', W', F0.set W', (hK _ _ _ _ _ _).mpr ⟨T', _, X', e', N', fun t k => st t (st' t k)⟩⟩
end ArrSteps

/-! arrays of references; clones; copies -/
def Arf (Z : State) (h : Heap) (a : Addr) (k : ClassId) (ty : FieldType) (n : Nat) (f : Nat → Value) : Prop := ∃ c : Cell, Arr Z h a c ty ∧ c.cls = k ∧ c.slots.size = n ∧ n < 2 ^ 31 ∧ ∀ i, i < n → c.slots[i]? = some (f i)
section Refs
variable {Z : State} {h h' : Heap} {a b : Addr} {k : ClassId} {ty : FieldType} {n : Nat} {f : Nat → Value} {sl : Nat} {v : Value} {ws : List Addr}
theorem Arf.lt (F : Arf Z h a k ty n f) : a < h.size := by obtain ⟨c, A, -⟩ := F; exact A.lt
theorem Arf.ext (F : Arf Z h a k ty n f) (E : Ext h h') : Arf Z h' a k ty n f := by obtain ⟨c, A, r⟩ := F; exact ⟨c, A.ext E, r⟩
theorem Arf.other (F : Arf Z h b k ty n f) (W : Wr h h' a sl v) (q : b ≠ a) : Arf Z h' b k ty n f := by obtain ⟨c, A, r⟩ := F; exact ⟨c, A.other W q, r⟩
theorem Arf.keep (F : Arf Z h a k ty n f) (K : Keep h h' ws) (q : a ∉ ws) : Arf Z h' a k ty n f := by obtain ⟨c, A, r⟩ := F; exact ⟨c, ⟨K.2.1 a c A.1 q, A.2⟩, r⟩
theorem Arf.congr (F : Arf Z h a k ty n f) {g : Nat → Value} (q : ∀ i, i < n → f i = g i) : Arf Z h a k ty n g := by obtain ⟨c, A, r0, r1, r2, r3⟩ := F; exact ⟨c, A, r0, r1, r2, fun i hi => by rw [r3 i hi, q i hi]⟩
theorem Arf.set (F : Arf Z h a k ty n f) {i : Nat} {x : Value} (W : Wr h h' a i x) : Arf Z h' a k ty n (fun k => if k = i then x else f k) := by
  obtain ⟨c, A, r0, r1, r2, r3⟩ := F
  refine ⟨c.setSlot i x, A.same W, r0, by rw [sz_set]; exact r1, r2, fun k hk => ?_⟩
  by_cases q : k = i
  · subst q
    simp [Cell.setSlot, r1, hk]
  · have : i ≠ k := fun z => q z.symm
    simp [Cell.setSlot, q, Array.getElem?_setIfInBounds_ne this, r3 k hk]
theorem Arf.ofNew {cA : ClassId} {z : Int32} (A : Arr Z h a (newA cA ty z) ty) (hz : z.toInt = n) (hd : defaultValue ty = .null) : Arf Z h a cA ty n (fun _ => .null) := by
  have hn : z.toNatClampNeg = n := toNatClampNeg_of hz
  refine ⟨_, A, rfl, by rw [sz_new, hn], by have := z.toInt_lt; omega, fun i hi => ?_⟩
  simp [newA, hn, hi, hd]
def lf (l : List Int32) : Nat → Int32 := fun k => l.getD k 0
theorem lf_set (l : List Int32) (i : Nat) (x : Int32) (hi : i < l.length) (k : Nat) : (if k = i then x else lf l k) = lf (l.set i x) k := by
  by_cases q : k = i
  · subst q; simp [lf, List.getD, hi]
  · have : ¬ i = k := fun z => q z.symm
    simp [lf, List.getD, q, List.getElem?_set_ne this]
theorem Ari.neX {g : Nat → Int32} {C : String} {a0 : Array Value} {j : Nat} (F : Ari Z h b ty n g) (E : Exa Z h a C) (wi : (Cond.instantiable C j).before a0 Z = true) : b ≠ a := by
  obtain ⟨c, A, -⟩ := F; exact (ne_arr E wi A).symm
theorem Arf.neX {C : String} {a0 : Array Value} {j : Nat} (F : Arf Z h b k ty n f) (E : Exa Z h a C) (wi : (Cond.instantiable C j).before a0 Z = true) : b ≠ a := by
  obtain ⟨c, A, -⟩ := F; exact (ne_arr E wi A).symm
theorem natInt {n : Nat} (hn : n < 2 ^ 31) : n.toInt32.toInt = n := len_toInt hn
theorem natClamp {n : Nat} (hn : n < 2 ^ 31) : n.toInt32.toNatClampNeg = n := toNatClampNeg_of (natInt hn)
theorem natNeg {n : Nat} (hn : n < 2 ^ 31) : ¬ n.toInt32 < 0 := by rw [Int32.lt_iff_toInt_lt, natInt hn]; exact Int.not_lt.mpr (Int.natCast_nonneg n)
theorem Ari.arv {g : Nat → Int32} (F : Ari Z h a .int n g) : ∃ k, Arv Z h a k .int n.toInt32 ((List.range n).map fun i => .int (g i)) (.int 0) := by
  obtain ⟨c, A, r1, r2, r3⟩ := F
  have e : ∀ i, i < n → ((List.range n).map fun i => (Value.int (g i))).getD i (.int 0) = .int (g i) := fun i hi => by simp [List.getD, hi]
  exact ⟨c.cls, c, A, rfl, by rw [natClamp r2]; exact r1, natNeg r2, fun i hi => by rw [e i (r1 ▸ hi)]; exact r3 i (r1 ▸ hi), fun i hi => by rw [e i (r1 ▸ hi)]; rfl⟩
theorem Ari.of_arv {g : Nat → Int32} {z : Int32} {vs : List Value} {d : Value} (F : Arv Z h a k .int z vs d) (hz : z.toInt = n) (hv : ∀ i, i < n → vs.getD i d = .int (g i)) : Ari Z h a .int n g := by
  obtain ⟨c, A, -, r1, r2, r3, -⟩ := F
  have hn : c.slots.size = n := r1.trans (toNatClampNeg_of hz)
  exact ⟨c, A, hn, by have := z.toInt_lt; omega, fun i hi => by rw [r3 i (hn ▸ hi), hv i hi]⟩
end Refs
section RefSteps
variable {l : Launch} {R : Room} {n0 : Nat} {Z : State} {own : String} {bytes : ByteArray} {ml : Nat} {nm : String} {rt : Option FieldType} {Q : Qt} {K : Kt} {O : Prop} {a0 : Array Value} {pc : Nat} {L : Array Slot} {S rest : List Value} {h : Heap} {cl sl : Nat} {pc' : Nat}
theorem k_newArrE (C : Ctx l R n0 Z own bytes ml nm rt Q K O) {n : Int32} (H : K pc L (.int n :: rest) h cl sl) {aty : ArrayType} (w : (Cond.arrayClass (newarray.typeOf aty)).before a0 Z = true) (d : decode bytes pc = .ok (.newarray aty, 2)) (hn : ¬ n < 0) {cap : Nat} (hcap : n.toNatClampNeg ≤ cap) (hb' : cap * 8 ≤ 536870912) (hc : cl + 1 ≤ R.cells) (hl : sl + cap ≤ R.slots) {ad : String} (had : "[" ++ (newarray.typeOf aty).toString = ad) (hp : pc + 2 = pc') :
    ∃ h' b cA, b = h.size ∧ Ext h h' ∧ Arr Z h' b (newA cA (newarray.typeOf aty) n) (newarray.typeOf aty) ∧ Exa Z h' b ad ∧ K pc' L (.ref b :: rest) h' (cl + 1) (sl + cap) := by
  subst hp
  obtain ⟨p, e, s, m, args, below, meth, c, s1, f0, hx, hby, hZ, hown, hml, hnm, hrt, hlk, hK, hO⟩ := C
  obtain ⟨T, locs, X, eT, N, st⟩ := (hK _ _ _ _ _ _).mp H
  obtain ⟨T', h', cA, X', e', E', A', Q', st'⟩ := newPE X hx hZ w eT (g := mkF m pc L (.int n :: rest)) rfl (hb hby d) rfl hn hcap hb' hc hl had
  exact ⟨h', _, cA, rfl, E', A', Q', (hK _ _ _ _ _ _).mpr ⟨T', _, X', e', N, fun t k => st t (st' t k)⟩⟩
theorem k_newRefA (C : Ctx l R n0 Z own bytes ml nm rt Q K O) {n : Int32} (H : K pc L (.int n :: rest) h cl sl) {i : Nat} {C' : String} {ty : FieldType} (hC : (FieldType.array ty).toString = C') (w1 : (Cond.classLink own i C').before a0 Z = true) (w2 : (Cond.arrayOver (.array ty)).before a0 Z = true) (d : decode bytes pc = .ok (.anewarray i, 3)) (hn : ¬ n < 0) {cap : Nat} (hcap : n.toNatClampNeg ≤ cap) (hb' : cap * 8 ≤ 536870912) (hc : cl + 1 ≤ R.cells) (hl : sl + cap ≤ R.slots) (hp : pc + 3 = pc') :
    ∃ h' b cA, b = h.size ∧ Ext h h' ∧ Arr Z h' b (newA cA (.array ty) n) (.array ty) ∧ OvrA Z cA ty C' ∧ K pc' L (.ref b :: rest) h' (cl + 1) (sl + cap) := by
  subst hp
  obtain ⟨p, e, s, m, args, below, meth, c, s1, f0, hx, hby, hZ, hown, hml, hnm, hrt, hlk, hK, hO⟩ := C
  obtain ⟨T, locs, X, eT, N, st⟩ := (hK _ _ _ _ _ _).mp H
  obtain ⟨T', h', cA, X', e', E', A', -, O', st'⟩ := newRA X hx hZ hown hC w1 w2 eT (g := mkF m pc L (.int n :: rest)) rfl (hb hby d) rfl hn hcap hb' hc hl rfl
  exact ⟨h', _, cA, rfl, E', A', O', (hK _ _ _ _ _ _).mpr ⟨T', _, X', e', N, fun t k => st t (st' t k)⟩⟩
theorem k_newRef (C : Ctx l R n0 Z own bytes ml nm rt Q K O) {n : Int32} (H : K pc L (.int n :: rest) h cl sl) {i : Nat} {C' : String} (w1 : (Cond.classLink own i C').before a0 Z = true) (w2 : (Cond.arrayOver (.object C')).before a0 Z = true) (d : decode bytes pc = .ok (.anewarray i, 3)) (hn : ¬ n < 0) {cap : Nat} (hcap : n.toNatClampNeg ≤ cap) (hb' : cap * 8 ≤ 536870912) (hc : cl + 1 ≤ R.cells) (hl : sl + cap ≤ R.slots) (hp : pc + 3 = pc') :
    ∃ h' b cA, b = h.size ∧ Ext h h' ∧ Arr Z h' b (newA cA (.object C') n) (.object C') ∧ Ovr Z cA C' ∧ K pc' L (.ref b :: rest) h' (cl + 1) (sl + cap) := by
  subst hp
  obtain ⟨p, e, s, m, args, below, meth, c, s1, f0, hx, hby, hZ, hown, hml, hnm, hrt, hlk, hK, hO⟩ := C
  obtain ⟨T, locs, X, eT, N, st⟩ := (hK _ _ _ _ _ _).mp H
  obtain ⟨T', h', cA, X', e', E', A', O', st'⟩ := newR X hx hZ hown w1 w2 eT (g := mkF m pc L (.int n :: rest)) rfl (hb hby d) rfl hn hcap hb' hc hl
  exact ⟨h', _, cA, rfl, E', A', O', (hK _ _ _ _ _ _).mpr ⟨T', _, X', e', N, fun t k => st t (st' t k)⟩⟩
theorem k_arflen (C : Ctx l R n0 Z own bytes ml nm rt Q K O) {a : Addr} (H : K pc L (.ref a :: rest) h cl sl) {k : ClassId} {ty : FieldType} {n : Nat} {f : Nat → Value} (F : Arf Z h a k ty n f) (d : decode bytes pc = .ok (.arraylength, 1)) (hp : pc + 1 = pc') : K pc' L (.int n.toInt32 :: rest) h cl sl := by
  subst hp
  obtain ⟨c', A, r0, r1, r2, r3⟩ := F
  exact C.pure H fun p e s m args below meth c T locs X hx hby hZ hown eT t k => X.arraylength hx (by rw [eT]; exact A.1) (State.isArrayOf_alike hZ.alike A.2.1) (g := mkF m pc L (.ref a :: rest)) rfl rfl (hb hby d) t (by rw [r1]; exact k)
theorem k_aaload (C : Ctx l R n0 Z own bytes ml nm rt Q K O) {a : Addr} {j : Int32} (H : K pc L (.int j :: .ref a :: rest) h cl sl) {k : ClassId} {ty : FieldType} {n : Nat} {f : Nat → Value} (F : Arf Z h a k ty n f) (hty : ty.isReference = true) {i : Nat} (hj : j.toInt = i) (hi : i < n) {v : Value} (hv : f i = v) (d : decode bytes pc = .ok (.aaload, 1)) (hp : pc + 1 = pc') : K pc' L (v :: rest) h cl sl := by
  subst hp hv
  obtain ⟨c', A, r0, r1, r2, r3⟩ := F
  exact C.pure H fun p e s m args below meth c T locs X hx hby hZ hown eT t k => X.aaload hx (by rw [eT]; exact A.1) (State.isArrayOf_alike hZ.alike A.2.1) hty A.2.2 (inb hj (r1.symm ▸ hi)) (by rw [toNatClampNeg_of hj]; exact r3 i hi) (g := mkF m pc L (.int j :: .ref a :: rest)) rfl rfl (hb hby d) t k
theorem k_aastore (C : Ctx l R n0 Z own bytes ml nm rt Q K O) {a : Addr} {j : Int32} {v : Value} (H : K pc L (v :: .int j :: .ref a :: rest) h cl sl) {k : ClassId} {ty : FieldType} {n : Nat} {f : Nat → Value} (F : Arf Z h a k ty n f) (hty : ty.isReference = true) (Sv : v = .null ∨ (∃ C', Ovr Z k C' ∧ ∃ y, v = .ref y ∧ Ins Z h y C' true) ∨ (∃ C' t', OvrA Z k t' C' ∧ ∃ y, v = .ref y ∧ Ins Z h y C' true)) {i : Nat} (hj : j.toInt = i) (hi : i < n) (g : n0 ≤ a) (d : decode bytes pc = .ok (.aastore, 1)) (hp : pc + 1 = pc') :
    ∃ h', Wr h h' a i v ∧ Arf Z h' a k ty n (fun k => if k = i then v else f k) ∧ K pc' L rest h' cl sl := by
  subst hp
  have F0 := F
  obtain ⟨c', A, r0, r1, r2, r3⟩ := F
  have Sx : Sto Z h a v := by
    rcases Sv with rfl | ⟨C', O', y, rfl, I⟩ | ⟨C', t', O', y, rfl, I⟩
    · exact Or.inl rfl
    · exact Sto.ofV A r0 O' I
    · exact Sto.ofVA A r0 O' I
  obtain ⟨p, e, s, m, args, below, meth, c, s1, f0, hx, hby, hZ, hown, hml, hnm, hrt, hlk, hK, hO⟩ := C
  obtain ⟨T, locs, X, eT, N, st⟩ := (hK _ _ _ _ _ _).mp H
  obtain ⟨T', h', X', e', W', st'⟩ := stR X hx hZ eT A (inb hj (r1.symm ▸ hi)) hty Sx (g := mkF m pc L (v :: .int j :: .ref a :: rest)) rfl rfl (hb hby d)
  have N' := Fr.snoc X' N g
  rw [toNatClampNeg_of hj] at W'
  exact ⟨h', W', F0.set W', (hK _ _ _ _ _ _).mpr ⟨T', _, X', e', N', fun t k => st t (st' t k)⟩⟩
theorem k_cloneI (C : Ctx l R n0 Z own bytes ml nm rt Q K O) {a : Addr} (H : K pc L (.ref a :: rest) h cl sl) {i : Nat} {n : Nat} {f : Nat → Int32} (F : Ari Z h a .int n f) (E : Exa Z h a "[I")
    (w1 : (Cond.methodLink own i ⟨"[I", "clone", "()Ljava/lang/Object;"⟩).before a0 Z = true) (w2 : (Cond.sameMethod "[I" "java/lang/Object" "clone" "()Ljava/lang/Object;").before a0 Z = true) (w3 : (Cond.native ⟨"java/lang/Object", "clone", "()Ljava/lang/Object;"⟩).before a0 Z = true)
    (w4 : (Cond.instanceMethod ⟨"java/lang/Object", "clone", "()Ljava/lang/Object;"⟩).before a0 Z = true) (w5 : (Cond.selects "[I" ⟨"[I", "clone", "()Ljava/lang/Object;"⟩ ⟨"java/lang/Object", "clone", "()Ljava/lang/Object;"⟩).before a0 Z = true) (w6 : (Cond.castable "[I" "java/lang/Cloneable").before a0 Z = true)
    (d : decode bytes pc = .ok (.invokevirtual i, 3)) (hsz : L.size = ml) (hf : 1 ≤ R.frames) (W : Nat) (hW : (rest.map fun v => v.category).sum = W) (hl : W + 14 ≤ R.locals) (hc : cl + 1 ≤ R.cells) (hs : sl + n ≤ R.slots) (hp : pc + 3 = pc') :
    ∃ h' b, b = h.size ∧ Ext h h' ∧ Ari Z h' b .int n f ∧ Exa Z h' b "[I" ∧ K pc' L (.ref b :: rest) h' (cl + 1) (sl + n) := by
  subst hp
  obtain ⟨c', A, r1, r2, r3⟩ := F
  have G : FitC Z c' := fitC_of A fun j hj v hv => by
    rw [r3 j (r1 ▸ hj)] at hv
    cases hv; rfl
  obtain ⟨p, e, s, m, args, below, meth, c, s1, f0, hx, hby, hZ, hown, hml, hnm, hrt, hlk, hK, hO⟩ := C
  obtain ⟨T, locs, X, eT, N, st⟩ := (hK _ _ _ _ _ _).mp H
  obtain ⟨T', h', X', e', E', A', Q', st'⟩ := cloneA X hx hZ hown w1 w2 w3 w4 w5 w6 eT A E G (g := mkF m pc L (.ref a :: rest)) rfl (hsz.trans hml.symm) rfl (hb hby d) hf (W := W) (by show 2 * 0 + _ ≤ _; omega) hl (cap := n) (Nat.le_of_eq r1) hc hs
  exact ⟨h', _, rfl, E', ⟨_, A', r1, r2, r3⟩, Q', (hK _ _ _ _ _ _).mpr ⟨T', _, X', e', N, fun t k => st t (st' t k)⟩⟩
theorem k_copyI (C : Ctx l R n0 Z own bytes ml nm rt Q K O) {a b : Addr} {zs zd zn : Int32} (H : K pc L (.int zn :: .int zd :: .ref b :: .int zs :: .ref a :: rest) h cl sl) {i : Nat} {n m : Nat} {f g : Nat → Int32} (A : Ari Z h a .int n f) (B : Ari Z h b .int m g) {sp dp nn : Nat} (h1 : zs.toInt = sp) (h2 : zd.toInt = dp) (h3 : zn.toInt = nn) (h4 : sp + nn ≤ n) (h5 : dp + nn ≤ m) (ge : n0 ≤ b)
    (w1 : (Cond.methodLink own i Jvm.Stand.acN).before a0 Z = true) (w2 : (Cond.native Jvm.Stand.acN).before a0 Z = true) (w3 : (Cond.static Jvm.Stand.acN).before a0 Z = true) (w4 : (Cond.initialized "java/lang/System").before a0 Z = true)
    (d : decode bytes pc = .ok (.invokestatic i, 3)) (hsz : L.size = ml) (hf : 1 ≤ R.frames) (W : Nat) (hW : (rest.map fun v => v.category).sum = W) (hl : W + (nativeFrameWords "java/lang/System" "arraycopy" 5 + 11) ≤ R.locals) (hp : pc + 3 = pc') :
    ∃ h', Keep h h' [b] ∧ Ari Z h' b .int m (fun k => if dp ≤ k ∧ k < dp + nn then f (sp + (k - dp)) else g k) ∧ K pc' L rest h' cl sl := by
  subst hp
  have lA : n < 2 ^ 31 := by obtain ⟨_, _, _, r, _⟩ := A; exact r
  have lB : m < 2 ^ 31 := by obtain ⟨_, _, _, r, _⟩ := B; exact r
  obtain ⟨k1, VA⟩ := A.arv
  obtain ⟨k2, VB⟩ := B.arv
  have c1 := toNatClampNeg_of h1
  have c2 := toNatClampNeg_of h2
  have c3 := toNatClampNeg_of h3
  have neg : ∀ {z : Int32} {q : Nat}, z.toInt = q → ¬ z < 0 := fun e => by rw [Int32.lt_iff_toInt_lt, e]; exact Int.not_lt.mpr (Int.natCast_nonneg _)
  obtain ⟨p, e, s, m', args, below, meth, c, s1, f0, hx, hby, hZ, hown, hml, hnm, hrt, hlk, hK, hO⟩ := C
  obtain ⟨T, locs, X, eT, N, st⟩ := (hK _ _ _ _ _ _).mp H
  obtain ⟨T', h', L', X', e', N', K', V', st'⟩ := cpA X hx hZ hown w1 w2 w3 w4 eT VA VB (Or.inl ⟨rfl, rfl⟩) (neg h1) (neg h2) (neg h3) (by rw [c1, c3, natClamp lA]; exact h4) (by rw [c2, c3, natClamp lB]; exact h5) rfl (by rw [c2, c3]; simpa using h5) N ge (g := mkF m' pc L (.int zn :: .int zd :: .ref b :: .int zs :: .ref a :: rest)) rfl (hsz.trans hml.symm) rfl (hb hby d) hf (W := W) (by show 2 * 0 + _ ≤ _; omega) hl
  refine ⟨h', K', Ari.of_arv V' (natInt lB) (fun j hj => ?_), (hK _ _ _ _ _ _).mpr ⟨T', _, X', e', N', fun t k => st t (st' t k)⟩⟩
  rw [c1, c2, c3]
  by_cases q1 : j < dp
  · have : ¬ (dp ≤ j ∧ j < dp + nn) := by omega
    rw [if_neg this]
    have x3 : j < min dp m := by omega
    simp [List.getD, List.getElem?_append, q1, hj, x3]
  · by_cases q2 : j < dp + nn
    · have : dp ≤ j ∧ j < dp + nn := by omega
      rw [if_pos this]
      have x1 : sp + (j - dp) < n := by omega
      have x2 : j - dp < nn := by omega
      have x3 : min dp m = dp := by omega
      simp [List.getD, List.getElem?_append, q1, x1, x2, x3]
    · have : ¬ (dp ≤ j ∧ j < dp + nn) := by omega
      rw [if_neg this]
      have x3 : min dp m = dp := by omega
      have x4 : ¬ j - dp < nn := by omega
      have x5 : dp + nn + (j - dp - nn) = j := by omega
      simp [List.getD, List.getElem?_append, q1, x3, x4, x5, hj]
theorem k_callPri (C : Ctx l R n0 Z own bytes ml nm rt Q K O) (H : K pc L S h cl sl) {i : Nat} {y : MethodName} {bytes' : ByteArray} {ml' : Nat} {rt' : Option FieldType} {rm : Room} {as : Array Value} {Q' : Qt} (k : Con l y bytes' ml' rt' rm Z as h n0 Q') {a : Addr} {C' : String} (E : Exa Z h a C')
    (w1 : (Cond.methodLink own i y).before a0 Z = true) (w2 : (Cond.instanceMethod y).before a0 Z = true) (w3 : (Cond.selects y.cls y y).before a0 Z = true) (w4 : (Cond.privateMethod y).before a0 Z = true) (w5 : (Cond.initialized y.cls).before a0 Z = true) (w6 : (Cond.code y bytes' ml' rt').before a0 Z = true) (hy : y.cls ≠ "java/lang/invoke/MethodHandle" ∧ y.cls ≠ "java/lang/invoke/VarHandle")
    (d : decode bytes pc = .ok (.invokevirtual i, 3)) (hsz : L.size = ml) (argsL rest : List Value) {ps : List FieldType} {rt2 : Option FieldType} (hd : parseMethodDescriptor y.desc = some ⟨ps, rt2⟩) (hlen : argsL.length = ps.length) (hS : S = argsL.reverse ++ .ref a :: rest) (has : (.ref a :: argsL).toArray = as) (W : Nat) (hW : (rest.map fun v => v.category).sum = W)
    (hfr : rm.frames + 1 ≤ R.frames) (hlo : W + (ml' + 11) + rm.locals ≤ R.locals) (hc : cl + rm.cells ≤ R.cells) (hs : sl + rm.slots ≤ R.slots) (hp : pc + 3 = pc') :
    ∃ v h', Q' v h' ∧ K pc' L (v.toList ++ rest) h' (cl + rm.cells) (sl + rm.slots) := by
  subst hp
  obtain ⟨p, e, s, m, args, below, meth, c, s1, f0, hx, hby, hZ, hown, hml, hnm, hrt, hlk, hK, hO⟩ := C
  obtain ⟨T, locs, X, eT, N, st⟩ := (hK _ _ _ _ _ _).mp H
  obtain ⟨cq, q1, q2⟩ := E.cell
  obtain ⟨v, _, ⟨T', L', k', n'⟩, -, X', ⟨Lc, ⟨hQ, hF⟩, l', y', z'⟩, st'⟩ := X.privateBack hx (y := y) hown (mvT hZ w1) (mvT hZ w2) (mvT hZ w3) (Cond.privateMethod_at (mvP hZ w4 (args := #[]))) (mvT hZ w6) hy (backOf (Q := fun v h' L => Q' v h' ∧ Fr n0 L) (W := W) (k []) hZ w6 w5 hfr hlo) (g := mkF m pc L S) rfl (hsz.trans hml.symm) (Steps.refl _) (a := a) (by rw [eT]; exact q1) q2 (argsL := argsL) (rest := rest) (lenOf hd hlen) hS (by show 2 * 0 + _ ≤ _; omega) (hb hby d) (fun _ _ => ⟨has, eT, hc, hs⟩)
  dsimp only [Pt.U, Pt.locs, Pt.cells, Pt.slots] at X' l' y' z' st' hQ
  subst l' y' z'
  exact ⟨v, T'.heap, hQ, (hK _ _ _ _ _ _).mpr ⟨T', _, X', rfl, N.app hF, fun t k => st t (st'.trans k)⟩⟩
theorem k_callInt (C : Ctx l R n0 Z own bytes ml nm rt Q K O) (H : K pc L S h cl sl) {i cn : Nat} {xi y : MethodName} {bytes' : ByteArray} {ml' : Nat} {rt' : Option FieldType} {rm : Room} {as : Array Value} {Q' : Qt} (k : Con l y bytes' ml' rt' rm Z as h n0 Q') {a : Addr} {C' : String} (E : Exa Z h a C')
    (w1 : (Cond.methodLink own i xi).before a0 Z = true) (w2 : (Cond.declares xi).before a0 Z = true) (w3 : (Cond.interfaceMethod xi.cls xi.cls xi.name xi.desc).before a0 Z = true) (w3' : ((Cond.interfaceMethod xi.cls xi.cls xi.name xi.desc).onTables && (Cond.interfaceMethod xi.cls xi.cls xi.name xi.desc).keepsFace) = true) (w4 : (Cond.selects C' xi y).before a0 Z = true) (w5 : (Cond.instanceMethod y).before a0 Z = true) (w6 : (Cond.publicMethod y).before a0 Z = true) (w7 : (Cond.unhidden C' xi.name xi.desc).before a0 Z = true) (w8 : (Cond.castable C' xi.cls).before a0 Z = true) (w9 : (Cond.initialized y.cls).before a0 Z = true) (wc : (Cond.code y bytes' ml' rt').before a0 Z = true) (hy : xi.cls ≠ "java/lang/invoke/MethodHandle" ∧ xi.cls ≠ "java/lang/invoke/VarHandle")
    (d : decode bytes pc = .ok (.invokeinterface i cn, 5)) (hsz : L.size = ml) (argsL rest : List Value) {ps : List FieldType} {rt2 : Option FieldType} (hd : parseMethodDescriptor xi.desc = some ⟨ps, rt2⟩) (hlen : argsL.length = ps.length) (hS : S = argsL.reverse ++ .ref a :: rest) (has : (.ref a :: argsL).toArray = as) (W : Nat) (hW : (rest.map fun v => v.category).sum = W)
    (hfr : rm.frames + 1 ≤ R.frames) (hlo : W + (ml' + 11) + rm.locals ≤ R.locals) (hc : cl + rm.cells ≤ R.cells) (hs : sl + rm.slots ≤ R.slots) (hp : pc + 5 = pc') :
    ∃ v h', Q' v h' ∧ K pc' L (v.toList ++ rest) h' (cl + rm.cells) (sl + rm.slots) := by
  subst hp
  obtain ⟨p, e, s, m, args, below, meth, c, s1, f0, hx, hby, hZ, hown, hml, hnm, hrt, hlk, hK, hO⟩ := C
  obtain ⟨T, locs, X, eT, N, st⟩ := (hK _ _ _ _ _ _).mp H
  obtain ⟨cq, kq, qa, qb, qc⟩ := isOf hZ eT E
  obtain ⟨v, _, ⟨T', L', k', n'⟩, -, X', ⟨Lc, ⟨hQ, hF⟩, l', y', z'⟩, st'⟩ := X.interfaceBack hx (xi := xi) (y := y) hown (mvT hZ w1) (mvT hZ w2) (mvT hZ w3 w3') (mvT hZ w4) (mvT hZ w5) (mvT hZ w6) (mvT hZ w7) (mvT hZ w8) hy (backOf (Q := fun v h' L => Q' v h' ∧ Fr n0 L) (W := W) (k []) hZ wc w9 hfr hlo) qa qb qc (g := mkF m pc L S) rfl (hsz.trans hml.symm) (Steps.refl _) (argsL := argsL) (rest := rest) (lenOf hd hlen) hS (by show 2 * 0 + _ ≤ _; omega) (hb hby d) (fun _ _ => ⟨has, eT, hc, hs⟩)
  dsimp only [Pt.U, Pt.locs, Pt.cells, Pt.slots] at X' l' y' z' st' hQ
  subst l' y' z'
  exact ⟨v, T'.heap, hQ, (hK _ _ _ _ _ _).mpr ⟨T', _, X', rfl, N.app hF, fun t k => st t (st'.trans k)⟩⟩
end RefSteps
end Jvm.OwnK
namespace Jvm.OwnK
open Jvm Jvm.ClassFile Sem Op Lib Jvm.Free Jvm.Stand Jvm.RoadKit
section WarmSteps
variable {l : Launch} {R : Room} {n0 : Nat} {Z : State} {own : String} {bytes : ByteArray} {ml : Nat} {nm : String} {rt : Option FieldType} {Q : Qt} {K : Kt} {O : Prop} {a0 : Array Value} {pc : Nat} {L : Array Slot} {S rest : List Value} {h : Heap} {cl sl : Nat} {pc' : Nat}
/-! entries that the sheet takes as resolved (fieldRef, methodRef) -/
theorem fldReady {p : Program} {l : Launch} {e : Env} {R : Room} {s : State} {m : MethodId} {args : Array Value} {below : List Frame} {meth : Method} {c : Code} {T : State} {locs : List Loc} {cells slots : Nat} (X : Stand p l e R s m args below meth c T locs cells slots) {Z : State} {a0 : Array Value} (hZ : Z.Warmed39 s.vm) {own O' n d' : String} {i : Nat} (hown : s.vm.findClass own = some m.cls) (w : (Cond.fieldRef own i O' n d').before a0 Z = true) {cf j : Nat} {k : Class} {f : Field} (h2 : Z.fieldFound? O' n d' = some (cf, k, j, f)) : T.vm.fieldReady m.cls i cf f := by
  have hT : Z.Warmed39 T.vm := wtrans hZ X.warmed
  have w' : (Cond.fieldRef own i O' n d').before a0 (Z.setVm T.vm) = true := Cond.fieldRef_warmed39 hT w
  obtain ⟨c1, k1, j1, f1, hi, hr⟩ := Cond.fieldRef_spec (s := Z.setVm T.vm) (cur := m.cls) (by show T.vm.findClass own = _; rw [X.warmed.alike.findClass]; exact hown) w'
  obtain ⟨k', hi', -⟩ := State.fieldFound?_setVm (s := Z) hT.alike h2
  cases hi.symm.trans hi'
  exact hr
theorem k_getFldR (C : Ctx l R n0 Z own bytes ml nm rt Q K O) {a : Addr} (H : K pc L (.ref a :: rest) h cl sl) {i : Nat} {O' n d' : String} {v : Value} (w : (Cond.fieldRef own i O' n d').before a0 Z = true) (F : Fld Z h a O' n d' v) (d : decode bytes pc = .ok (.getfield i, 3)) (hp : pc + 3 = pc') : K pc' L (v :: rest) h cl sl := by
  subst hp
  refine C.pure H fun p e s m args below meth c T locs X hx hby hZ hown eT t k => ?_
  obtain ⟨cell, cf, kk, j, f, h1, h2, h3, h4, -, -, h7⟩ := F
  have hr := fldReady X hZ hown w h2
  jvm_step X.here [hx, hb hby d, getfield.wp_ready (e := e) (s := T) (f := mkF m pc L (.ref a :: rest)) X.here.top hr h3 rfl (by rw [eT]; exact h1) h4 h7]
  exact k
theorem k_putFldR (C : Ctx l R n0 Z own bytes ml nm rt Q K O) {a : Addr} {v : Value} (H : K pc L (v :: .ref a :: rest) h cl sl) {i kk : Nat} {O' n d' C' : String} {ty : FieldType} {old : Value} (w : (Cond.fieldRef own i O' n d').before a0 Z = true) (F : Fld Z h a O' n d' old) (E : Exa Z h a C')
    (Lw : (Cond.lays C' O' n d').before a0 Z = true) (wi : (Cond.instantiable C' kk).before a0 Z = true) (hty : parseFieldDescriptor d' = some ty) (hn : narrow ty v = v) (hf : fits ty v = true) (g : n0 ≤ a) (d : decode bytes pc = .ok (.putfield i, 3)) (hp : pc + 3 = pc') :
    ∃ h', Wr h h' a (Jvm.RoadKit.slotOf Z O' n d') v ∧ K pc' L rest h' cl sl := by
  subst hp
  obtain ⟨p, e, s, m, args, below, meth, c, s1, f0, hx, hby, hZ, hown, hml, hnm, hrt, hlk, hK, hO⟩ := C
  obtain ⟨T, locs, X, eT, N, st⟩ := (hK _ _ _ _ _ _).mp H
  obtain ⟨cell, cf, k, j, f, h1, h2, h3, h4, h5, -, h7⟩ := F
  have hr := fldReady X hZ hown w h2
  obtain ⟨cell', kc, e1, e2, e3, -⟩ := E
  obtain ⟨c1, k1, cf1, kf1, i1, f1, a1, a2, a3, -, a5, -, a6, -⟩ := Cond.lays_spec Lw
  obtain ⟨c2, k2, i1', i2', i3', -⟩ := Cond.instantiable_spec wi
  cases h1.symm.trans e1
  cases h2.symm.trans a3
  cases e2.symm.trans a1
  cases e2.symm.trans i1'
  cases a2.symm.trans i2'
  have ht := (State.fieldFound?_type h2 hty).2
  have q0 : Z.slotType? cell.cls cell.vm f.slot = some ty := by
    simp only [State.slotType?, a2, Option.bind_eq_bind, Option.bind_some, i3']
    cases hq : cell.vm <;> first | (rw [hq] at h5; exact Bool.noConfusion h5) | (rw [a6, ht])
  have hT : Z.Warmed39 T.vm := wtrans hZ X.warmed
  have hfit : T.fitsSlot cell.cls cell.vm f.slot v = true := by
    have q1 : Z.fitsSlot cell.cls cell.vm f.slot v = true := by simp [State.fitsSlot, q0, hf]
    rw [← State.fitsSlot_setVm hT.alike] at q1; exact q1
  have hlt := (Array.getElem?_eq_some_iff.mp h7).1
  have es : Jvm.RoadKit.slotOf Z O' n d' = f.slot := by simp [Jvm.RoadKit.slotOf, h2]
  obtain ⟨X', st'⟩ := X.putfieldReady hx hr h3 (Or.inl a5) (by rw [eT]; exact h1) h4 hlt (by rw [ht]; exact hn) hfit (g := mkF m pc L (v :: .ref a :: rest)) rfl rfl (hb hby d)
  rw [es]
  exact ⟨(T.setCell a (cell.setSlot f.slot v)).heap, ⟨cell, h1, h5, hlt, by rw [← eT]; rfl⟩, (hK _ _ _ _ _ _).mpr ⟨_, _, X', rfl, Fr.snoc X' N g, fun t k => st t (st' t k)⟩⟩
theorem k_callPriR (C : Ctx l R n0 Z own bytes ml nm rt Q K O) (H : K pc L S h cl sl) {i kk : Nat} {y : MethodName} {bytes' : ByteArray} {ml' : Nat} {rt' : Option FieldType} {rm : Room} {as : Array Value} {Q' : Qt} (k : Con l y bytes' ml' rt' rm Z as h n0 Q') {a : Addr} {C' : String} (E : Exa Z h a C')
    (w1 : (Cond.methodRef own i y).before a0 Z = true) (w2 : (Cond.instanceMethod y).before a0 Z = true) (w3 : (Cond.instantiable y.cls kk).before a0 Z = true) (w4 : (Cond.privateMethod y).before a0 Z = true) (w5 : (Cond.initialized y.cls).before a0 Z = true) (w6 : (Cond.code y bytes' ml' rt').before a0 Z = true) (hy : y.cls ≠ "java/lang/invoke/MethodHandle" ∧ y.cls ≠ "java/lang/invoke/VarHandle")
    (d : decode bytes pc = .ok (.invokevirtual i, 3)) (hsz : L.size = ml) (argsL rest : List Value) {ps : List FieldType} {rt2 : Option FieldType} (hd : parseMethodDescriptor y.desc = some ⟨ps, rt2⟩) (hlen : argsL.length = ps.length) (hS : S = argsL.reverse ++ .ref a :: rest) (has : (.ref a :: argsL).toArray = as) (W : Nat) (hW : (rest.map fun v => v.category).sum = W)
    (hfr : rm.frames + 1 ≤ R.frames) (hlo : W + (ml' + 11) + rm.locals ≤ R.locals) (hc : cl + rm.cells ≤ R.cells) (hs : sl + rm.slots ≤ R.slots) (hp : pc + 3 = pc') :
    ∃ v h', Q' v h' ∧ K pc' L (v.toList ++ rest) h' (cl + rm.cells) (sl + rm.slots) := by
  subst hp hS
  obtain ⟨p, e, s, m, args, below, meth, c, s1, f0, hx, hby, hZ, hown, hml, hnm, hrt, hlk, hK, hO⟩ := C
  obtain ⟨T, locs, X, eT, N, st⟩ := (hK _ _ _ _ _ _).mp H
  obtain ⟨cell, q1, q2⟩ := E.cell
  have hT : Z.Warmed39 T.vm := wtrans hZ X.warmed
  obtain ⟨_, _, hnZ, -, -, -⟩ := Cond.instanceMethod_spec w2
  obtain ⟨mS, _, hnS, -, -, -⟩ := Cond.instanceMethod_spec (mvT (args := args) hZ w2)
  obtain ⟨mk, methM, hnamed, hmethM, hstM, habM⟩ := Cond.instanceMethod_spec (mvT (s := T) (args := args) hT w2)
  obtain ⟨methM', cM, hmethM', -, -, -, -, -, -, hsigM⟩ := Cond.code_spec hnamed (mvT (s := T) (args := args) hT w6)
  cases hmethM.symm.trans hmethM'
  have hpriv : T.PrivateAt y := Cond.privateMethod_at (mvP (s := T) hT w4 (args := #[]))
  have hsel : selectMethod e.platform T.vm cell.cls mk = .method mk := selectMethod_private hmethM (hpriv mk methM hnamed hmethM)
  obtain ⟨cI, kI, f1, f2, -, f4, -⟩ := Cond.instantiable_spec (mvT (s := T) (args := args) hT w3)
  have hcl : mk.cls = cI := Option.some.inj ((findClass_of_methodNamed hnamed).symm.trans f1)
  have hni : kI.isInterface = false := by cases hq : kI.isInterface <;> simp_all
  subst hcl
  have eqm : mk = mS := Option.some.inj (hnamed.symm.trans (X.named hnS))
  subst eqm
  have wT : (Cond.methodRef own i y).before args T = true := (Cond.methodRef_warmed39 hT hnZ hy w1 :)
  obtain ⟨m', c', g1, g2, g3, g4⟩ := Cond.methodRef_named e (s := T) (cur := m.cls) (by rw [X.warmed.alike.findClass]; exact hown) wT
  cases g1.symm.trans (State.methodFound?_of_named hnamed hy)
  cases g3.symm.trans f1
  obtain ⟨kx, hkx, hnx⟩ := className_of_methodNamed hnamed
  cases f2.symm.trans hkx
  have hpoly : signaturePolymorphic kI methM = false := by simp [signaturePolymorphic, hnx, hy.1, hy.2]
  have step : ∀ target, (∀ acts, Steps p.tables e below (doInvoke e (T.setTop (mkF m pc L rest)) acts mk (.ref a :: argsL).toArray).1 target) → Steps p.tables e below (T.setTop (mkF m pc L (argsL.reverse ++ .ref a :: rest))) target := by
    intro target hrest
    jvm_step X.here [hx, hb hby d, invokevirtual.wp_named (e := e) (s := T) (f := mkF m pc L (argsL.reverse ++ .ref a :: rest)) (r := mk) (m := mk) (c' := mk.cls) (k := kI) (k' := kI) (mk := kI) (rmeth := methM) (meth := methM) (a := a) (args := argsL) (rest := rest) (cell := cell) X.here.top g4 f2 hni g2 f2 hmethM hpoly hstM (lenOf hd hlen _ hsigM) rfl (by rw [eT]; exact q1) q2 hsel hmethM habM f2 hni]
    exact hrest
  obtain ⟨v, ⟨T', L', k', n'⟩, X', ⟨Lc, ⟨hQ, hF⟩, l', y', z'⟩, st'⟩ := (backOf (Q := fun v h' L => Q' v h' ∧ Fr n0 L) (W := W) (k []) hZ w6 w5 hfr hlo) m meth c ⟨T, locs, cl, sl⟩ (mkF m pc L rest) (.invokevirtual i) mk (.ref a :: argsL).toArray X rfl (hsz.trans hml.symm) (hb hby d) (by show 2 * 0 + (rest.map fun v => v.category).sum ≤ W; omega) hnamed ⟨has, eT, hc, hs⟩
  dsimp only [Pt.U, Pt.locs, Pt.cells, Pt.slots] at X' l' y' z' st' hQ
  subst l' y' z'
  exact ⟨v, T'.heap, hQ, (hK _ _ _ _ _ _).mpr ⟨T', _, X', rfl, N.app hF, fun t k => st t (step _ (fun acts => by rw [doInvoke_state]; exact st'.trans k))⟩⟩
theorem Arf.arv {Z : State} {h : Heap} {a : Addr} {k : ClassId} {ty : FieldType} {n : Nat} {f : Nat → Value} (F : Arf Z h a k ty n f) (hv : ∀ i, i < n → fits ty (f i) = true) : Arv Z h a k ty n.toInt32 ((List.range n).map f) .null := by
  obtain ⟨c, A, r0, r1, r2, r3⟩ := F
  have e : ∀ i, i < n → ((List.range n).map f).getD i .null = f i := fun i hi => by simp [List.getD, hi]
  exact ⟨c, A, r0, by rw [natClamp r2]; exact r1, natNeg r2, fun i hi => by rw [e i (r1 ▸ hi)]; exact r3 i (r1 ▸ hi), fun i hi => by rw [e i (r1 ▸ hi)]; exact hv i (r1 ▸ hi)⟩
theorem k_copyR0 (C : Ctx l R n0 Z own bytes ml nm rt Q K O) {a : Addr} {zs zd : Int32} (H : K pc L (.int 0 :: .int zd :: .ref a :: .int zs :: .ref a :: rest) h cl sl) {i : Nat} {n : Nat} {k : ClassId} {ty : FieldType} {f : Nat → Value} (A : Arf Z h a k ty n f) (hty : refKind ty = true) (hv : ∀ i, i < n → fits ty (f i) = true) {sp dp : Nat} (h1 : zs.toInt = sp) (h2 : zd.toInt = dp) (h4 : sp ≤ n) (h5 : dp ≤ n) (ge : n0 ≤ a)
    (w1 : (Cond.methodLink own i Jvm.Stand.acN).before a0 Z = true) (w2 : (Cond.native Jvm.Stand.acN).before a0 Z = true) (w3 : (Cond.static Jvm.Stand.acN).before a0 Z = true) (w4 : (Cond.initialized "java/lang/System").before a0 Z = true)
    (d : decode bytes pc = .ok (.invokestatic i, 3)) (hsz : L.size = ml) (hf : 1 ≤ R.frames) (W : Nat) (hW : (rest.map fun v => v.category).sum = W) (hl : W + (nativeFrameWords "java/lang/System" "arraycopy" 5 + 11) ≤ R.locals) (hp : pc + 3 = pc') :
    ∃ h', Keep h h' [a] ∧ Arf Z h' a k ty n f ∧ K pc' L rest h' cl sl := by
  subst hp
  have VA := A.arv hv
  have lA : n < 2 ^ 31 := by obtain ⟨_, _, _, _, r, _⟩ := A; exact r
  have c1 := toNatClampNeg_of h1
  have c2 := toNatClampNeg_of h2
  have c3 : (0 : Int32).toNatClampNeg = 0 := rfl
  have neg : ∀ {z : Int32} {q : Nat}, z.toInt = q → ¬ z < 0 := fun e => by rw [Int32.lt_iff_toInt_lt, e]; exact Int.not_lt.mpr (Int.natCast_nonneg _)
  obtain ⟨p, e, s, m', args, below, meth, c, s1, f0, hx, hby, hZ, hown, hml, hnm, hrt, hlk, hK, hO⟩ := C
  obtain ⟨T, locs, X, eT, N, st⟩ := (hK _ _ _ _ _ _).mp H
  obtain ⟨T', h', L', X', e', N', K', V', st'⟩ := cpA X hx hZ hown w1 w2 w3 w4 eT VA VA (us := []) (Or.inr ⟨hty, hty, trivial⟩) (neg h1) (neg h2) (by decide) (by rw [c1, c3, natClamp lA]; exact h4) (by rw [c2, c3, natClamp lA]; exact h5) rfl (by rw [c2, c3]; simpa using h5) N ge (g := mkF m' pc L (.int 0 :: .int zd :: .ref a :: .int zs :: .ref a :: rest)) rfl (hsz.trans hml.symm) rfl (hb hby d) hf (W := W) (by show 2 * 0 + (rest.map fun v => v.category).sum ≤ W; omega) hl
  refine ⟨h', K', ?_, (hK _ _ _ _ _ _).mpr ⟨T', _, X', e', N', fun t k => st t (st' t k)⟩⟩
  obtain ⟨c', A', r0, r1, r2, r3, -⟩ := V'
  have hn : c'.slots.size = n := r1.trans (natClamp lA)
  exact ⟨c', A', r0, hn, lA, fun j hj => by rw [r3 j (hn ▸ hj), c2, c3]; simp [List.getD, hj]⟩
theorem linkUp {args : Array Value} {s : State} {cls : String} {x : MethodName} {index d c : Nat} {ck ok : Class} {meth : Method} {mf : MethodId} (hd : s.vm.findClass cls = some d) (hc : s.vm.findClass x.cls = some c) (hck : s.vm.classes[c]? = some ck) (hvi : ck.isInterface = true) (hnone : ck.findMethod x.name x.desc = none) (hf : s.methodFound? x.cls x.name x.desc = some mf) (hok : s.vm.classes[mf.cls]? = some ok) (hm : ok.methods[mf.idx]? = some meth)
    (hx : x.cls ≠ "java/lang/invoke/MethodHandle" ∧ x.cls ≠ "java/lang/invoke/VarHandle") (hcn : x.name ≠ "clone") (h : (Cond.methodLink cls index x).before args s = true) (pl : Platform) (hpl : pl.magicAccessors = ({} : Platform).magicAccessors) : ∃ ci, s.vm.MethodLinksFF pl d index ci c mf ∧ s.rightAt d index (.method mf) = true := by
  obtain ⟨k1, hk1, hname⟩ := Vm.findClass_spec hc
  cases hck.symm.trans hk1
  have hpoly : ∀ y, signaturePolymorphic ck y = false := fun y => by simp [signaturePolymorphic, hname, hx.1, hx.2]
  have hmeth : s.vm.method? mf = some meth := by simp [Vm.method?, hok, hm]
  have hff := State.faceFind_of_found hc hck hvi hpoly hnone hf
  simp only [Cond.before, Cond.holds, Cond.value, hd, hc, hf] at h
  obtain ⟨⟨ci, via⟩, hme⟩ : ∃ me, s.memberEntry? cls index = some me := by
    cases q : s.memberEntry? cls index with
    | none => simp [q] at h
    | some me => exact ⟨me, rfl⟩
  obtain ⟨linked, hcl⟩ : ∃ z, s.classLinks cls ci x.cls = some z := by
    cases q : s.classLinks cls ci x.cls with
    | none => simp [hme, q] at h
    | some z => exact ⟨z, rfl⟩
  obtain ⟨dk, hdk⟩ : ∃ z, s.vm.classes[d]? = some z := by
    cases q : s.vm.classes[d]? with
    | none => simp [hme, hcl, q] at h
    | some z => exact ⟨z, rfl⟩
  simp only [hme, hcl, hdk, hck, hok, hmeth, Option.bind_eq_bind, Option.bind_some, Option.pure_def, beq_iff_eq, bne_iff_ne, ne_eq, Option.some.injEq, Bool.and_eq_true, Option.isNone_iff_eq_none, Bool.or_eq_true] at h
  obtain ⟨⟨⟨⟨⟨⟨⟨rfl, hnm⟩, hopen⟩, hvia⟩, -⟩, -⟩, hml⟩, hacc⟩ := h
  have hpl2 : s.vm.Plain meth.accessFlags mf.cls ok c d dk := by
    rcases hacc with q | ⟨⟨-, q⟩, -⟩
    · simpa [Vm.Plain, plainAccess, or_assoc, and_assoc] using q
    · exact (hcn q).elim
  rw [hvi] at hvia
  subst hvia
  obtain ⟨cr, hcr, hlinks⟩ := State.classLinks_spec hd hcl pl hpl
  cases hc.symm.trans hcr
  obtain ⟨cp, hcp, hnames⟩ := State.names_spec hnm
  obtain ⟨dk', cf, hdk', hcf, rfl⟩ := State.poolOf?_spec hd hcp
  cases hdk.symm.trans hdk'
  obtain ⟨ci', nt, hent, hnt, -⟩ := namesOf?_method hnames
  obtain ⟨rfl, hent2⟩ : ci' = ci ∧ cf.constantPool[index]? = some (.interfaceMethodref ci nt) := by
    rcases hent with q | q <;> simp [State.memberEntry?, hcp, q] at hme
    exact ⟨hme, hme ▸ q⟩
  obtain ⟨dk2, cf2, nm2, z2, b1, b2, b3, b4, b5⟩ := hlinks.here
  cases hdk.symm.trans b1
  cases hcf.symm.trans b2
  have hne : ci' ≠ index := fun q => by subst q; simp [ConstantPool.className?, hent2] at b4
  exact ⟨ci', ⟨dk, cf, nt, x.name, x.desc, ck, ok, meth, hdk, hcf, hent2, hnt, hlinks, hne, hck, hvi, hpoly, hnone, hff, hok, hm, b3.trans hml.symm, hpl2, State.openOr_spec hd hdk hopen⟩, by simp [State.rightAt, hdk, hcf, hnames, hf]⟩
theorem k_callIntUp (C : Ctx l R n0 Z own bytes ml nm rt Q K O) (H : K pc L S h cl sl) {i cn : Nat} {J : String} {xi y : MethodName} {bytes' : ByteArray} {ml' : Nat} {rt' : Option FieldType} {rm : Room} {as : Array Value} {Q' : Qt} (k : Con l y bytes' ml' rt' rm Z as h n0 Q') {a : Addr} {C' : String} (E : Exa Z h a C')
    (w1 : (Cond.methodLink own i xi).before a0 Z = true) (w2 : (Cond.declares ⟨J, xi.name, xi.desc⟩).before a0 Z = true) (w3 : (Cond.interfaceMethod xi.cls J xi.name xi.desc).before a0 Z = true) (w4 : (Cond.selects C' xi y).before a0 Z = true) (w5 : (Cond.instanceMethod y).before a0 Z = true) (w6 : (Cond.publicMethod y).before a0 Z = true) (w7 : (Cond.unhidden C' xi.name xi.desc).before a0 Z = true) (w8 : (Cond.castable C' xi.cls).before a0 Z = true) (w9 : (Cond.initialized y.cls).before a0 Z = true) (wc : (Cond.code y bytes' ml' rt').before a0 Z = true) (hy : xi.cls ≠ "java/lang/invoke/MethodHandle" ∧ xi.cls ≠ "java/lang/invoke/VarHandle") (hxo : xi.cls ≠ J) (hcn : xi.name ≠ "clone")
    (d : decode bytes pc = .ok (.invokeinterface i cn, 5)) (hsz : L.size = ml) (argsL rest : List Value) {ps : List FieldType} {rt2 : Option FieldType} (hd : parseMethodDescriptor xi.desc = some ⟨ps, rt2⟩) (hlen : argsL.length = ps.length) (hS : S = argsL.reverse ++ .ref a :: rest) (has : (.ref a :: argsL).toArray = as) (W : Nat) (hW : (rest.map fun v => v.category).sum = W)
    (hfr : rm.frames + 1 ≤ R.frames) (hlo : W + (ml' + 11) + rm.locals ≤ R.locals) (hc : cl + rm.cells ≤ R.cells) (hs : sl + rm.slots ≤ R.slots) (hp : pc + 5 = pc') :
    ∃ v h', Q' v h' ∧ K pc' L (v.toList ++ rest) h' (cl + rm.cells) (sl + rm.slots) := by
  subst hp hS
  obtain ⟨p, e, s, m, args, below, meth, c, s1, f0, hx, hby, hZ, hown, hml, hnm, hrt, hlk, hK, hO⟩ := C
  obtain ⟨T, locs, X, eT, N, st⟩ := (hK _ _ _ _ _ _).mp H
  obtain ⟨cq, kq, qa, qb, cell, qc1, qc2, qc3⟩ := isOf hZ eT E
  have hpl : e.platform.magicAccessors = ({} : Platform).magicAccessors := by rw [X.admits.platform]
  obtain ⟨r0, r, hn, hrm, hstR, hsigR⟩ := Cond.declares_spec (mvT (args := args) hZ w2)
  obtain ⟨cL, kL0, r1, hcL0, hkL0, hiL0, hfound0, hn10⟩ := Cond.interfaceMethod_spec w3
  have hcL : s.vm.findClass xi.cls = some cL := by rw [hZ.alike.findClass]; exact hcL0
  obtain ⟨kL, hkL, heL⟩ := hZ.alike.2.2 _ _ hkL0
  have hiL : kL.isInterface = true := by rw [heL]; exact hiL0
  have hfound : s.methodFound? xi.cls xi.name xi.desc = some r1 := (State.methodFound?_setVm (s := Z) hZ.alike xi.cls xi.name xi.desc).trans hfound0
  have hn1 : s.methodNamed? ⟨J, xi.name, xi.desc⟩ = some r1 := by
    have q : (Z.setVm s.vm).methodNamed? ⟨J, xi.name, xi.desc⟩ = some r1 := by rw [State.methodNamed?_setVm hZ.alike]; exact hn10
    exact q
  cases hn.symm.trans hn1
  obtain ⟨ok, hok, hokn⟩ := className_of_methodNamed hn
  have hmO : ok.methods[r0.idx]? = some r := by simpa [Vm.method?, hok] using hrm
  obtain ⟨kL', hkL', hnameL⟩ := Vm.findClass_spec hcL
  cases hkL.symm.trans hkL'
  have hnone : kL.findMethod xi.name xi.desc = none := by
    cases hj : kL.findMethod xi.name xi.desc with
    | none => rfl
    | some j =>
      have hz : (kL.methods[j]?).isSome := by
        obtain ⟨hlt, -, -⟩ := Array.findIdx?_eq_some_iff_getElem.mp hj
        simp [hlt]
      have h2 := State.methodFound?_declared hcL hkL (fun y => by simp [signaturePolymorphic, hnameL, hy.1, hy.2]) hj hz
      have e2 : r0.cls = cL := by rw [Option.some.inj (hfound.symm.trans h2)]
      rw [e2] at hok
      cases hkL.symm.trans hok
      exact (hxo (hnameL.symm.trans hokn)).elim
  obtain ⟨ci, hl, hright⟩ := linkUp hown hcL hkL hiL hnone hfound hok hmO hy hcn (mvT (args := args) hZ w1) e.platform hpl
  have hE : s.MethodEntryUp e T.vm m.cls i cL r0 ci := State.methodEntryFF X.warmed hl hright
  obtain ⟨hnameR, hdescR⟩ := name_of_methodNamed hn hrm
  obtain ⟨mk, methM, hnamed, hmethM, -, habM⟩ := Cond.instanceMethod_spec (mvT (args := args) hZ w5)
  obtain ⟨c2, r2, m2, q1, q2, q3, q4, -⟩ := Cond.selects_spec (mvT (args := args) hZ w4)
  cases qa.symm.trans q1
  cases hfound.symm.trans q2
  cases hnamed.symm.trans q3
  have hselP : selectMethod e.platform s.vm cell.cls r0 = .method mk := by rw [Launch.admits_selectMethod X.admits, qc2]; exact q4
  have hpubM : hasFlag methM.accessFlags Acc.public_ = true := Cond.publicMethod_spec hnamed hmethM (mvT (args := args) hZ w6)
  have hway : ((cell.cls :: s.vm.superclasses cell.cls).any fun k => (declaredIn s.vm r.name r.desc k).any fun (_, z) => z.isPrivate || z.isStatic) = false := by
    rw [hnameR, hdescR, qc2]; exact Cond.unhidden_spec qa (mvT (args := args) hZ w7)
  obtain ⟨c3, t3, v1, v2, v3⟩ := Cond.castable_spec (mvT (args := args) hZ w8)
  cases qa.symm.trans v1
  cases hcL.symm.trans v2
  obtain ⟨dk, cfile, nt, _, _, ck, _, _, hd1, hcf, hcp, -, -, -, hck, hvia, -⟩ := hl.here
  cases hkL.symm.trans hck
  have alike := hE.warmed.alike
  obtain ⟨dk2, hdk2, hres⟩ := hE.classReady
  obtain ⟨dk3, hdk3, hed⟩ := alike.2.2 _ _ hd1
  cases hdk2.symm.trans hdk3
  obtain ⟨ck2, hck2, hec⟩ := alike.2.2 _ _ hck
  obtain ⟨kc2, hkc2, -⟩ := alike.2.2 _ _ (show s.vm.classes[cell.cls]? = some kq by rw [qc2]; exact qb)
  have X1 := X.noted hE.warmed
  have step : ∀ target, (∀ acts, Steps p.tables e below (doInvoke e ((T.setVm (T.vm.calledUp m.cls ci i cL r0)).setTop (mkF m pc L rest)) acts mk (.ref a :: argsL).toArray).1 target) → Steps p.tables e below (T.setTop (mkF m pc L (argsL.reverse ++ .ref a :: rest))) target := by
    intro target hrest
    jvm_step X.here [hx, hb hby d, invokeinterface.wp_coldFace (e := e) (s := T) (s₀ := s) (f := mkF m pc L (argsL.reverse ++ .ref a :: rest)) (count := cn) X.here.top X.warmed hE hd1 hcf (Or.inr hcp) hck hvia,
      invokeinterface.wp_ready (e := e) (s := T.setVm (T.vm.calledUp m.cls ci i cL r0)) (f := mkF m pc L (argsL.reverse ++ .ref a :: rest)) (count := cn) (r := r) (meth := methM) (m := mk) (args := argsL) (rest := rest) (cell := cell) (kcell := kc2) (ck := dk2) (nk := ck2) (cf := cfile) (ci := ci) (nt := nt) (named := cL)
        X.here.top hE.ready (by show (T.vm.calledUp m.cls ci i cL r0).method? r0 = some r; rw [alike.method?]; exact hrm) hstR (lenOf hd hlen _ hsigR) rfl qc1 (fun z hz => by rw [hz] at qc3; cases qc3) hkc2 hdk2 (by rw [hed]; exact hcf) hcp hres hck2 (by rw [hec]; exact hvia)
        (by show (T.vm.calledUp m.cls ci i cL r0).assignable cell.cls cL = true; rw [alike.assignable, qc2]; exact v3)
        (by show selectMethod e.platform (T.vm.calledUp m.cls ci i cL r0) cell.cls r0 = .method mk; rw [alike.selectMethod]; exact hselP)
        (by show (T.vm.calledUp m.cls ci i cL r0).method? mk = some methM; rw [alike.method?]; exact hmethM)
        (Or.inr (Or.inr (by show ((cell.cls :: (T.vm.calledUp m.cls ci i cL r0).superclasses cell.cls).any fun k => (declaredIn (T.vm.calledUp m.cls ci i cL r0) r.name r.desc k).any fun (_, y) => y.isPrivate || y.isStatic) = false; simp only [alike.superclasses, alike.declaredIn]; exact hway)))
        (Or.inl hpubM) habM]
    exact hrest
  obtain ⟨v, ⟨T', L', k', n'⟩, X', ⟨Lc, ⟨hQ, hF⟩, l', y', z'⟩, st'⟩ := (backOf (Q := fun v h' L => Q' v h' ∧ Fr n0 L) (W := W) (k []) hZ wc w9 hfr hlo) m meth c ⟨T.setVm (T.vm.calledUp m.cls ci i cL r0), locs, cl, sl⟩ (mkF m pc L rest) (.invokeinterface i cn) mk (.ref a :: argsL).toArray X1 rfl (hsz.trans hml.symm) (hb hby d) (by show 2 * 0 + (rest.map fun v => v.category).sum ≤ W; omega) (X1.named hnamed) ⟨has, eT, hc, hs⟩
  dsimp only [Pt.U, Pt.locs, Pt.cells, Pt.slots] at X' l' y' z' st' hQ
  subst l' y' z'
  exact ⟨v, T'.heap, hQ, (hK _ _ _ _ _ _).mpr ⟨T', _, X', rfl, N.app hF, fun t k => st t (step _ (fun acts => by rw [doInvoke_state]; exact st'.trans k))⟩⟩
theorem k_eqSelf (C : Ctx l R n0 Z own bytes ml nm rt Q K O) {a : Addr} (H : K pc L (.ref a :: .ref a :: rest) h cl sl) {i : Nat} {C' : String} (E : Exa Z h a C') {y : MethodName} (hy : y = ⟨"java/lang/Object", "equals", "(Ljava/lang/Object;)Z"⟩) {bytes' : ByteArray} (w1 : (Cond.methodLink own i y).before a0 Z = true) (w3 : (Cond.selects C' y y).before a0 Z = true) (w4 : (Cond.instanceMethod y).before a0 Z = true) (wc : (Cond.code y bytes' 2 (some .boolean)).before a0 Z = true)
    (d0 : decode bytes' 0 = .ok (.aload_n 0, 1)) (d1 : decode bytes' 1 = .ok (.aload_n 1, 1)) (d2 : decode bytes' 2 = .ok (.if_acmp .ne 7, 3)) (d5 : decode bytes' 5 = .ok (.iconst 1, 1)) (d6 : decode bytes' 6 = .ok (.goto 4, 3)) (d10 : decode bytes' 10 = .ok (.ireturn, 1))
    (d : decode bytes pc = .ok (.invokevirtual i, 3)) (hsz : L.size = ml) (hf : 1 ≤ R.frames) (W : Nat) (hW : (rest.map fun v => v.category).sum = W) (hl : W + 13 ≤ R.locals) (hp : pc + 3 = pc') : K pc' L (.int 1 :: rest) h cl sl := by
  subst hp
  have hd : parseMethodDescriptor y.desc = some ⟨[.object "java/lang/Object"], some .boolean⟩ := by rw [hy]; decide
  refine C.note H fun p e s m args below meth c T locs X hx hby hZ hown hml eT => ?_
  obtain ⟨cq, kq, qa, qb, cell, qc1, qc2, qc3⟩ := isOf hZ eT E
  obtain ⟨mk, methM, hnamed, hmethM, hstM, habM⟩ := Cond.instanceMethod_spec (mvT (args := args) hZ w4)
  obtain ⟨methM', cM, hmethM', hcM, hbM, hlM, hretM, hlockM, -, hsigM⟩ := Cond.code_spec hnamed (mvT (args := args) hZ wc)
  cases hmethM.symm.trans hmethM'
  obtain ⟨c2, r2, m2, q1, q2, q3, q4, kP, hkP, hkPi⟩ := Cond.selects_spec (mvT (args := args) hZ w3)
  cases qa.symm.trans q1
  cases hnamed.symm.trans q3
  have hnot : y.cls ≠ "java/lang/invoke/MethodHandle" ∧ y.cls ≠ "java/lang/invoke/VarHandle" := by rw [hy]; decide
  cases (State.methodFound?_of_named hnamed hnot).symm.trans q2
  have hsel : selectMethod e.platform s.vm cell.cls mk = .method mk := by rw [Launch.admits_selectMethod X.admits, qc2]; exact q4
  have hpar : ([.ref a] : List Value).length = methM.sig.parameters.length := lenOf hd rfl _ hsigM
  obtain ⟨vm', X', st'⟩ := X.invokevirtual hx hown (mvT (args := args) hZ w1) hnamed hmethM hstM hkP hkPi hnot (a := a) (cell := cell) qc1 (fun z hz => by rw [hz] at qc3; cases qc3) hsel hmethM habM hkP hkPi (g := mkF m pc L (.ref a :: .ref a :: rest)) rfl (argsL := [.ref a]) (rest := rest) hpar rfl (hb hby d)
  refine ⟨_, X', eT, fun t kk => st' t fun acts => ?_⟩
  obtain ⟨kx, hkx, hnx⟩ := className_of_methodNamed hnamed
  obtain ⟨hnN, hnD⟩ := name_of_methodNamed hnamed hmethM
  have alike := X'.warmed.alike
  have hm' : (T.setVm vm').vm.method? mk = some methM := by rw [alike.method?]; exact hmethM
  have hplain : (T.setVm vm').plainMethod mk := by
    intro k hk
    obtain ⟨k2, hk2, he2⟩ := alike.2.2 _ _ hkx
    cases hk.symm.trans hk2
    have hk1 : vm'.classes[mk.cls]? = some k := hk
    have hmm : k.methods[mk.idx]? = some methM := by simpa [Vm.method?, hk1] using hm'
    have hkn : k.name = "java/lang/Object" := by rw [he2]; show kx.name = _; rw [hnx, hy]
    simp only [rowless, hmm, hkn, hnN, hnD, hy]
    decide +kernel
  have hroom := X'.notFull (g := mkF m pc L rest) (vars := cM.maxLocals) (hsz.trans hml.symm) hf (by rw [hlM]; show 2 * 0 + (rest.map fun v => v.category).sum + (2 + 11) ≤ R.locals; omega)
  show Steps p.tables e below (doInvoke e ((T.setVm vm').setTop (mkF m pc L rest)) acts mk #[.ref a, .ref a]).1 t
  rw [doInvoke_enter (g := mkF m pc L rest) X'.here.top acts hm' hcM hlockM hroom]
  have hU := At.enter (g := mkF m pc L rest) X'.here #[.ref a, .ref a] hm' hcM hplain
  have hfU := frames_entered (s := T.setVm vm') (g := mkF m pc L rest) X'.here.top (.java (entryFrame mk #[.ref a, .ref a] cM.maxLocals))
  have hback := setFrames_entered (s := T.setVm vm') (g := mkF m pc L rest) X'.here.top (.java (entryFrame mk #[.ref a, .ref a] cM.maxLocals))
  have hcodeU : (((T.setVm vm').setTop (mkF m pc L rest)).pushFrame (.java (entryFrame mk #[.ref a, .ref a] cM.maxLocals))).code? m = some c := by
    have := X'.here.code; rw [State.code?_eq] at this ⊢; simpa [State.pushFrame, State.setFrames] using this
  have hmU : (((T.setVm vm').setTop (mkF m pc L rest)).pushFrame (.java (entryFrame mk #[.ref a, .ref a] cM.maxLocals))).vm.method? mk = some methM := by simpa [State.pushFrame, State.setFrames] using hm'
  rw [hlM] at hU hfU hback hcodeU hmU ⊢
  generalize ((T.setVm vm').setTop (mkF m pc L rest)).pushFrame (.java (entryFrame mk #[.ref a, .ref a] 2)) = U at hU hfU hback hcodeU hmU ⊢
  show Steps p.tables e below (U.setTop { method := mk, pc := 0, locals := #[.val (.ref a), .val (.ref a)], stack := [], locked := none }) t
  jvm_step hU [hx, hbM, d0, Value.isRef]
  jvm_step hU [hx, hbM, d1, Value.isRef]
  jvm_step hU [hx, hbM, d2, Value.isRef]
  refine ⟨some a, rfl, some a, rfl, ?_⟩
  rw [if_neg (by simp [if_acmp.holds])]
  jvm_step hU [hx, hbM, d5]
  jvm_step hU [hx, hbM, d6]
  jvm_step hU [hx, hbM, d10, hmU]
  refine ⟨.boolean, hretM, fun acts' => ?_⟩
  rw [doReturn_leave (g := mkF m pc L rest) (meth := methM) (cg := c) (ig := .invokevirtual i) (len := 3) acts' hfU hmU hlockM rfl rfl hcodeU (hb hby d), hback, State.setTop_setTop]
  exact kk
end WarmSteps
end Jvm.OwnK
namespace Jvm.Pilot.@@N@@
open Jvm Jvm.ClassFile Sem Op Lib Jvm.Free Jvm.Stand Jvm.LawKit Jvm.RoadKit Bundle Jvm.OwnK Jvm.Pilot.@@N@@.Jvm.D
def own_inc (p0 : Int32) (p1 : Int32) : Int32 := (if (p0 + (1 : Int32)) < p1 then (p0 + (1 : Int32)) else (0 : Int32))
theorem dinc_0 : decode jdk_21_method_6_code 0 = .ok (.iinc 0 1, 3) := by decide +kernel
theorem dinc_3 : decode jdk_21_method_6_code 3 = .ok (.iload_n 0, 1) := by decide +kernel
theorem dinc_4 : decode jdk_21_method_6_code 4 = .ok (.iload_n 1, 1) := by decide +kernel
theorem dinc_5 : decode jdk_21_method_6_code 5 = .ok (.if_icmp .lt 5, 3) := by decide +kernel
theorem dinc_8 : decode jdk_21_method_6_code 8 = .ok (.iconst 0, 1) := by decide +kernel
theorem dinc_9 : decode jdk_21_method_6_code 9 = .ok (.istore_n 0, 1) := by decide +kernel
theorem dinc_10 : decode jdk_21_method_6_code 10 = .ok (.iload_n 0, 1) := by decide +kernel
theorem dinc_11 : decode jdk_21_method_6_code 11 = .ok (.ireturn, 1) := by decide +kernel
theorem pl_inc : plainFor (⟨"java/util/ArrayDeque", "inc", "(II)I"⟩ : MethodName) = true := plainFor_of_name (by first | (simp [plainName, overriddenIn]; done) | decide +kernel)
theorem ef_inc (mm : MethodId) (p0 : Int32) (p1 : Int32) : entryFrame mm #[(.int p0), (.int p1)] 2 = mkF mm 0 #[.val (.int p0), .val (.int p1)] [] := by first | (simp [entryFrame, mkF, argsToLocals, Value.category]; done) | rfl
set_option maxRecDepth 65536 in
set_option maxHeartbeats 40000000 in
theorem rminc (l : Launch) (Z : State) (a0 : Array Value) (hw : ∀ d ∈ tables_1, d.before a0 Z = true) (p0 : Int32) (p1 : Int32) (h0 : Heap) (n0 : Nat)  :
    Con l (⟨"java/util/ArrayDeque", "inc", "(II)I"⟩ : MethodName) jdk_21_method_6_code 2 (some .int) ({ frames := 0, cells := 0, slots := 0, locals := 0 } : Room) Z #[(.int p0), (.int p1)] h0 n0 (fun o h => o = some (.int (own_inc p0 p1)) ∧ h0 = h) := by
  refine Con.enter pl_inc (fun mm => ef_inc mm p0 p1) ?_
  intro K O C H
  replace H := k_iinc C H (y := (p0 + (1 : Int32))) dinc_0 rfl rfl (L' := #[.val (.int (p0 + (1 : Int32))), .val (.int p1)]) rfl (pc' := 3) rfl
  replace H := k_iloadN C H dinc_3 rfl (pc' := 4) rfl
  replace H := k_iloadN C H dinc_4 rfl (pc' := 5) rfl
  by_cases hc5 : (p0 + (1 : Int32)) < p1
  · replace H := k_icmpY C H dinc_5 (tlt hc5).1 (by decide) (pc' := 10) rfl
    replace H := k_iloadN C H dinc_10 rfl (pc' := 11) rfl
    exact k_retI C H dinc_11 (by decide) (by decide) ⟨by rw [own_inc, if_pos hc5], rfl⟩
  · replace H := k_icmpN C H dinc_5 (flt hc5).1 (pc' := 8) rfl
    replace H := k_iconst C H (v := 0) dinc_8 rfl (pc' := 9) rfl
    replace H := k_istoreN C H dinc_9 (L' := #[.val (.int (0 : Int32)), .val (.int p1)]) rfl (pc' := 10) rfl
    replace H := k_iloadN C H dinc_10 rfl (pc' := 11) rfl
    exact k_retI C H dinc_11 (by decide) (by decide) ⟨by rw [own_inc, if_neg hc5], rfl⟩
def own_dec (p0 : Int32) (p1 : Int32) : Int32 := (if (p0 + ((-1) : Int32)) < (0 : Int32) then (p1 - (1 : Int32)) else (p0 + ((-1) : Int32)))
theorem ddec_0 : decode jdk_21_method_7_code 0 = .ok (.iinc 0 (-1), 3) := by decide +kernel
theorem ddec_3 : decode jdk_21_method_7_code 3 = .ok (.iload_n 0, 1) := by decide +kernel
theorem ddec_4 : decode jdk_21_method_7_code 4 = .ok (.ifCond .ge 7, 3) := by decide +kernel
theorem ddec_7 : decode jdk_21_method_7_code 7 = .ok (.iload_n 1, 1) := by decide +kernel
theorem ddec_8 : decode jdk_21_method_7_code 8 = .ok (.iconst 1, 1) := by decide +kernel
theorem ddec_9 : decode jdk_21_method_7_code 9 = .ok (.isub, 1) := by decide +kernel
theorem ddec_10 : decode jdk_21_method_7_code 10 = .ok (.istore_n 0, 1) := by decide +kernel
theorem ddec_11 : decode jdk_21_method_7_code 11 = .ok (.iload_n 0, 1) := by decide +kernel
theorem ddec_12 : decode jdk_21_method_7_code 12 = .ok (.ireturn, 1) := by decide +kernel
theorem pl_dec : plainFor (⟨"java/util/ArrayDeque", "dec", "(II)I"⟩ : MethodName) = true := plainFor_of_name (by first | (simp [plainName, overriddenIn]; done) | decide +kernel)
theorem ef_dec (mm : MethodId) (p0 : Int32) (p1 : Int32) : entryFrame mm #[(.int p0), (.int p1)] 2 = mkF mm 0 #[.val (.int p0), .val (.int p1)] [] := by first | (simp [entryFrame, mkF, argsToLocals, Value.category]; done) | rfl
set_option maxRecDepth 65536 in
set_option maxHeartbeats 40000000 in
theorem rmdec (l : Launch) (Z : State) (a0 : Array Value) (hw : ∀ d ∈ tables_1, d.before a0 Z = true) (p0 : Int32) (p1 : Int32) (h0 : Heap) (n0 : Nat)  :
    Con l (⟨"java/util/ArrayDeque", "dec", "(II)I"⟩ : MethodName) jdk_21_method_7_code 2 (some .int) ({ frames := 0, cells := 0, slots := 0, locals := 0 } : Room) Z #[(.int p0), (.int p1)] h0 n0 (fun o h => o = some (.int (own_dec p0 p1)) ∧ h0 = h) := by
  refine Con.enter pl_dec (fun mm => ef_dec mm p0 p1) ?_
  intro K O C H
  replace H := k_iinc C H (y := (p0 + ((-1) : Int32))) ddec_0 rfl rfl (L' := #[.val (.int (p0 + ((-1) : Int32))), .val (.int p1)]) rfl (pc' := 3) rfl
  replace H := k_iloadN C H ddec_3 rfl (pc' := 4) rfl
  by_cases hc4 : (p0 + ((-1) : Int32)) < (0 : Int32)
  · replace H := k_ifcN C H ddec_4 (tlt hc4).2.1 (pc' := 7) rfl
    replace H := k_iloadN C H ddec_7 rfl (pc' := 8) rfl
    replace H := k_iconst C H (v := 1) ddec_8 rfl (pc' := 9) rfl
    replace H := k_isub C H ddec_9 (pc' := 10) rfl
    replace H := k_istoreN C H ddec_10 (L' := #[.val (.int (p1 - (1 : Int32))), .val (.int p1)]) rfl (pc' := 11) rfl
    replace H := k_iloadN C H ddec_11 rfl (pc' := 12) rfl
    exact k_retI C H ddec_12 (by decide) (by decide) ⟨by rw [own_dec, if_pos hc4], rfl⟩
  · replace H := k_ifcY C H ddec_4 (flt hc4).2.1 (by decide) (pc' := 11) rfl
    replace H := k_iloadN C H ddec_11 rfl (pc' := 12) rfl
    exact k_retI C H ddec_12 (by decide) (by decide) ⟨by rw [own_dec, if_neg hc4], rfl⟩
def own_sub (p0 : Int32) (p1 : Int32) (p2 : Int32) : Int32 := (if (p0 - p1) < (0 : Int32) then ((p0 - p1) + p2) else (p0 - p1))
theorem dsub_0 : decode jdk_21_method_9_code 0 = .ok (.iload_n 0, 1) := by decide +kernel
theorem dsub_1 : decode jdk_21_method_9_code 1 = .ok (.iload_n 1, 1) := by decide +kernel
theorem dsub_2 : decode jdk_21_method_9_code 2 = .ok (.isub, 1) := by decide +kernel
theorem dsub_3 : decode jdk_21_method_9_code 3 = .ok (.dup, 1) := by decide +kernel
theorem dsub_4 : decode jdk_21_method_9_code 4 = .ok (.istore_n 0, 1) := by decide +kernel
theorem dsub_5 : decode jdk_21_method_9_code 5 = .ok (.ifCond .ge 7, 3) := by decide +kernel
theorem dsub_8 : decode jdk_21_method_9_code 8 = .ok (.iload_n 0, 1) := by decide +kernel
theorem dsub_9 : decode jdk_21_method_9_code 9 = .ok (.iload_n 2, 1) := by decide +kernel
theorem dsub_10 : decode jdk_21_method_9_code 10 = .ok (.iadd, 1) := by decide +kernel
theorem dsub_11 : decode jdk_21_method_9_code 11 = .ok (.istore_n 0, 1) := by decide +kernel
theorem dsub_12 : decode jdk_21_method_9_code 12 = .ok (.iload_n 0, 1) := by decide +kernel
theorem dsub_13 : decode jdk_21_method_9_code 13 = .ok (.ireturn, 1) := by decide +kernel
theorem pl_sub : plainFor (⟨"java/util/ArrayDeque", "sub", "(III)I"⟩ : MethodName) = true := plainFor_of_name (by first | (simp [plainName, overriddenIn]; done) | decide +kernel)
theorem ef_sub (mm : MethodId) (p0 : Int32) (p1 : Int32) (p2 : Int32) : entryFrame mm #[(.int p0), (.int p1), (.int p2)] 3 = mkF mm 0 #[.val (.int p0), .val (.int p1), .val (.int p2)] [] := by first | (simp [entryFrame, mkF, argsToLocals, Value.category]; done) | rfl
set_option maxRecDepth 65536 in
set_option maxHeartbeats 40000000 in
theorem rmsub (l : Launch) (Z : State) (a0 : Array Value) (hw : ∀ d ∈ tables_1, d.before a0 Z = true) (p0 : Int32) (p1 : Int32) (p2 : Int32) (h0 : Heap) (n0 : Nat)  :
    Con l (⟨"java/util/ArrayDeque", "sub", "(III)I"⟩ : MethodName) jdk_21_method_9_code 3 (some .int) ({ frames := 0, cells := 0, slots := 0, locals := 0 } : Room) Z #[(.int p0), (.int p1), (.int p2)] h0 n0 (fun o h => o = some (.int (own_sub p0 p1 p2)) ∧ h0 = h) := by
  refine Con.enter pl_sub (fun mm => ef_sub mm p0 p1 p2) ?_
  intro K O C H
  replace H := k_iloadN C H dsub_0 rfl (pc' := 1) rfl
  replace H := k_iloadN C H dsub_1 rfl (pc' := 2) rfl
  replace H := k_isub C H dsub_2 (pc' := 3) rfl
  replace H := k_dup C H dsub_3 rfl (pc' := 4) rfl
  replace H := k_istoreN C H dsub_4 (L' := #[.val (.int (p0 - p1)), .val (.int p1), .val (.int p2)]) rfl (pc' := 5) rfl
  by_cases hc5 : (p0 - p1) < (0 : Int32)
  · replace H := k_ifcN C H dsub_5 (tlt hc5).2.1 (pc' := 8) rfl
    replace H := k_iloadN C H dsub_8 rfl (pc' := 9) rfl
    replace H := k_iloadN C H dsub_9 rfl (pc' := 10) rfl
    replace H := k_iadd C H dsub_10 (pc' := 11) rfl
    replace H := k_istoreN C H dsub_11 (L' := #[.val (.int ((p0 - p1) + p2)), .val (.int p1), .val (.int p2)]) rfl (pc' := 12) rfl
    replace H := k_iloadN C H dsub_12 rfl (pc' := 13) rfl
    exact k_retI C H dsub_13 (by decide) (by decide) ⟨by rw [own_sub, if_pos hc5], rfl⟩
  · replace H := k_ifcY C H dsub_5 (flt hc5).2.1 (by decide) (pc' := 12) rfl
    replace H := k_iloadN C H dsub_12 rfl (pc' := 13) rfl
    exact k_retI C H dsub_13 (by decide) (by decide) ⟨by rw [own_sub, if_neg hc5], rfl⟩
def own_emp (a : Int32) (b : Int32) : Int32 := (if a = b then (1 : Int32) else (0 : Int32))
theorem demp_0 : decode jdk_21_method_38_code 0 = .ok (.aload_n 0, 1) := by decide +kernel
theorem demp_1 : decode jdk_21_method_38_code 1 = .ok (.getfield 24, 3) := by decide +kernel
theorem demp_4 : decode jdk_21_method_38_code 4 = .ok (.aload_n 0, 1) := by decide +kernel
theorem demp_5 : decode jdk_21_method_38_code 5 = .ok (.getfield 20, 3) := by decide +kernel
theorem demp_8 : decode jdk_21_method_38_code 8 = .ok (.if_icmp .ne 7, 3) := by decide +kernel
theorem demp_11 : decode jdk_21_method_38_code 11 = .ok (.iconst 1, 1) := by decide +kernel
theorem demp_12 : decode jdk_21_method_38_code 12 = .ok (.goto 4, 3) := by decide +kernel
theorem demp_15 : decode jdk_21_method_38_code 15 = .ok (.iconst 0, 1) := by decide +kernel
theorem demp_16 : decode jdk_21_method_38_code 16 = .ok (.ireturn, 1) := by decide +kernel
theorem pl_emp : plainFor (⟨"java/util/ArrayDeque", "isEmpty", "()Z"⟩ : MethodName) = true := plainFor_of_name (by first | (simp [plainName, overriddenIn]; done) | decide +kernel)
theorem ef_emp (mm : MethodId) (q : Addr) : entryFrame mm #[(.ref q)] 1 = mkF mm 0 #[.val (.ref q)] [] := by first | (simp [entryFrame, mkF, argsToLocals, Value.category]; done) | rfl
set_option maxRecDepth 65536 in
set_option maxHeartbeats 40000000 in
theorem rmemp (l : Launch) (Z : State) (a0 : Array Value) (hw : ∀ d ∈ tables_1, d.before a0 Z = true) (q : Addr) (h0 : Heap) (n0 : Nat) (a b : Int32) (F1 : Fld Z h0 q "java/util/ArrayDeque" "head" "I" (.int a)) (F2 : Fld Z h0 q "java/util/ArrayDeque" "tail" "I" (.int b)) :
    Con l (⟨"java/util/ArrayDeque", "isEmpty", "()Z"⟩ : MethodName) jdk_21_method_38_code 1 (some .boolean) ({ frames := 0, cells := 0, slots := 0, locals := 0 } : Room) Z #[(.ref q)] h0 n0 (fun o h => o = some (.int (own_emp a b)) ∧ h0 = h) := by
  refine Con.enter pl_emp (fun mm => ef_emp mm q) ?_
  intro K O C H
  replace H := k_aloadN C H demp_0 rfl rfl (pc' := 1) rfl
  replace H := k_getFld C H (hw _ (List.mem_of_getElem? (i := 70) rfl)) F1 demp_1 (pc' := 4) rfl
  replace H := k_aloadN C H demp_4 rfl rfl (pc' := 5) rfl
  replace H := k_getFld C H (hw _ (List.mem_of_getElem? (i := 67) rfl)) F2 demp_5 (pc' := 8) rfl
  by_cases hc8 : a = b
  · replace H := k_icmpN C H demp_8 (teq hc8).2 (pc' := 11) rfl
    replace H := k_iconst C H (v := 1) demp_11 rfl (pc' := 12) rfl
    replace H := k_goto C H demp_12 (by decide) (pc' := 16) rfl
    exact k_retZ C H demp_16 (by decide) (by decide) (by decide) ⟨by rw [own_emp, if_pos hc8], rfl⟩
  · replace H := k_icmpY C H demp_8 (feq hc8).2 (by decide) (pc' := 15) rfl
    replace H := k_iconst C H (v := 0) demp_15 rfl (pc' := 16) rfl
    exact k_retZ C H demp_16 (by decide) (by decide) (by decide) ⟨by rw [own_emp, if_neg hc8], rfl⟩
def own_una (a : Int32) (b : Int32) : Int32 := (if a = (0 : Int32) then (if b = (0 : Int32) then (1 : Int32) else (0 : Int32)) else (0 : Int32))
theorem duna_0 : decode prog_9_method_4_code 0 = .ok (.aload_n 0, 1) := by decide +kernel
theorem duna_1 : decode prog_9_method_4_code 1 = .ok (.getfield 13, 3) := by decide +kernel
theorem duna_4 : decode prog_9_method_4_code 4 = .ok (.ifCond .ne 14, 3) := by decide +kernel
theorem duna_7 : decode prog_9_method_4_code 7 = .ok (.aload_n 0, 1) := by decide +kernel
theorem duna_8 : decode prog_9_method_4_code 8 = .ok (.getfield 17, 3) := by decide +kernel
theorem duna_11 : decode prog_9_method_4_code 11 = .ok (.ifCond .ne 7, 3) := by decide +kernel
theorem duna_14 : decode prog_9_method_4_code 14 = .ok (.iconst 1, 1) := by decide +kernel
theorem duna_15 : decode prog_9_method_4_code 15 = .ok (.goto 4, 3) := by decide +kernel
theorem duna_18 : decode prog_9_method_4_code 18 = .ok (.iconst 0, 1) := by decide +kernel
theorem duna_19 : decode prog_9_method_4_code 19 = .ok (.ireturn, 1) := by decide +kernel
theorem pl_una : plainFor (⟨"com/example/partition_handoff/partitionhandoff/DeliveryWindow$Delivery", "isUnacknowledged", "()Z"⟩ : MethodName) = true := plainFor_of_name (by first | (simp [plainName, overriddenIn]; done) | decide +kernel)
theorem ef_una (mm : MethodId) (d : Addr) : entryFrame mm #[(.ref d)] 1 = mkF mm 0 #[.val (.ref d)] [] := by first | (simp [entryFrame, mkF, argsToLocals, Value.category]; done) | rfl
set_option maxRecDepth 65536 in
set_option maxHeartbeats 40000000 in
theorem rmuna (l : Launch) (Z : State) (a0 : Array Value) (hw : ∀ d ∈ tables_1, d.before a0 Z = true) (d : Addr) (h0 : Heap) (n0 : Nat) (a b : Int32) (F1 : Fld Z h0 d "com/example/partition_handoff/partitionhandoff/DeliveryWindow$Delivery" "acknowledged" "Z" (.int a)) (F2 : Fld Z h0 d "com/example/partition_handoff/partitionhandoff/DeliveryWindow$Delivery" "takenBack" "Z" (.int b)) :
    Con l (⟨"com/example/partition_handoff/partitionhandoff/DeliveryWindow$Delivery", "isUnacknowledged", "()Z"⟩ : MethodName) prog_9_method_4_code 1 (some .boolean) ({ frames := 0, cells := 0, slots := 0, locals := 0 } : Room) Z #[(.ref d)] h0 n0 (fun o h => o = some (.int (own_una a b)) ∧ h0 = h) := by
  refine Con.enter pl_una (fun mm => ef_una mm d) ?_
  intro K O C H
  replace H := k_aloadN C H duna_0 rfl rfl (pc' := 1) rfl
  replace H := k_getFld C H (hw _ (List.mem_of_getElem? (i := 44) rfl)) F1 duna_1 (pc' := 4) rfl
  by_cases hc4 : a = (0 : Int32)
  · replace H := k_ifcN C H duna_4 (teq hc4).2 (pc' := 7) rfl
    replace H := k_aloadN C H duna_7 rfl rfl (pc' := 8) rfl
    replace H := k_getFld C H (hw _ (List.mem_of_getElem? (i := 46) rfl)) F2 duna_8 (pc' := 11) rfl
    by_cases hc11 : b = (0 : Int32)
    · replace H := k_ifcN C H duna_11 (teq hc11).2 (pc' := 14) rfl
      replace H := k_iconst C H (v := 1) duna_14 rfl (pc' := 15) rfl
      replace H := k_goto C H duna_15 (by decide) (pc' := 19) rfl
      exact k_retZ C H duna_19 (by decide) (by decide) (by decide) ⟨by rw [own_una, if_pos hc4, if_pos hc11], rfl⟩
    · replace H := k_ifcY C H duna_11 (feq hc11).2 (by decide) (pc' := 18) rfl
      replace H := k_iconst C H (v := 0) duna_18 rfl (pc' := 19) rfl
      exact k_retZ C H duna_19 (by decide) (by decide) (by decide) ⟨by rw [own_una, if_pos hc4, if_neg hc11], rfl⟩
  · replace H := k_ifcY C H duna_4 (feq hc4).2 (by decide) (pc' := 18) rfl
    replace H := k_iconst C H (v := 0) duna_18 rfl (pc' := 19) rfl
    exact k_retZ C H duna_19 (by decide) (by decide) (by decide) ⟨by rw [own_una, if_neg hc4], rfl⟩
theorem dglastHandled_0 : decode prog_8_method_4_code 0 = .ok (.aload_n 0, 1) := by decide +kernel
theorem dglastHandled_1 : decode prog_8_method_4_code 1 = .ok (.getfield 20, 3) := by decide +kernel
theorem dglastHandled_4 : decode prog_8_method_4_code 4 = .ok (.lreturn, 1) := by decide +kernel
theorem pl_glastHandled : plainFor (⟨"com/example/partition_handoff/partitionhandoff/DeliveryWindow", "lastHandled", "()J"⟩ : MethodName) = true := plainFor_of_name (by first | (simp [plainName, overriddenIn]; done) | decide +kernel)
theorem ef_glastHandled (mm : MethodId) (wn : Addr) : entryFrame mm #[(.ref wn)] 1 = mkF mm 0 #[.val (.ref wn)] [] := by first | (simp [entryFrame, mkF, argsToLocals, Value.category]; done) | rfl
set_option maxRecDepth 65536 in
set_option maxHeartbeats 40000000 in
theorem rmglastHandled (l : Launch) (Z : State) (a0 : Array Value) (hw : ∀ d ∈ tables_1, d.before a0 Z = true) (wn : Addr) (h0 : Heap) (n0 : Nat) (v : Int64) (F : Fld Z h0 wn "com/example/partition_handoff/partitionhandoff/DeliveryWindow" "lastHandledPosition" "J" (.long v)) :
    Con l (⟨"com/example/partition_handoff/partitionhandoff/DeliveryWindow", "lastHandled", "()J"⟩ : MethodName) prog_8_method_4_code 1 (some .long) ({ frames := 0, cells := 0, slots := 0, locals := 0 } : Room) Z #[(.ref wn)] h0 n0 (fun o h => o = some (.long v) ∧ h0 = h) := by
  refine Con.enter pl_glastHandled (fun mm => ef_glastHandled mm wn) ?_
  intro K O C H
  replace H := k_aloadN C H dglastHandled_0 rfl rfl (pc' := 1) rfl
  replace H := k_getFld C H (hw _ (List.mem_of_getElem? (i := 122) rfl)) F dglastHandled_1 (pc' := 4) rfl
  exact k_retJ C H dglastHandled_4 (by decide) (by decide) ⟨rfl, rfl⟩
theorem dghandled_0 : decode prog_8_method_3_code 0 = .ok (.aload_n 0, 1) := by decide +kernel
theorem dghandled_1 : decode prog_8_method_3_code 1 = .ok (.getfield 28, 3) := by decide +kernel
theorem dghandled_4 : decode prog_8_method_3_code 4 = .ok (.lreturn, 1) := by decide +kernel
theorem pl_ghandled : plainFor (⟨"com/example/partition_handoff/partitionhandoff/DeliveryWindow", "handled", "()J"⟩ : MethodName) = true := plainFor_of_name (by first | (simp [plainName, overriddenIn]; done) | decide +kernel)
theorem ef_ghandled (mm : MethodId) (wn : Addr) : entryFrame mm #[(.ref wn)] 1 = mkF mm 0 #[.val (.ref wn)] [] := by first | (simp [entryFrame, mkF, argsToLocals, Value.category]; done) | rfl
set_option maxRecDepth 65536 in
set_option maxHeartbeats 40000000 in
theorem rmghandled (l : Launch) (Z : State) (a0 : Array Value) (hw : ∀ d ∈ tables_1, d.before a0 Z = true) (wn : Addr) (h0 : Heap) (n0 : Nat) (v : Int64) (F : Fld Z h0 wn "com/example/partition_handoff/partitionhandoff/DeliveryWindow" "handled" "J" (.long v)) :
    Con l (⟨"com/example/partition_handoff/partitionhandoff/DeliveryWindow", "handled", "()J"⟩ : MethodName) prog_8_method_3_code 1 (some .long) ({ frames := 0, cells := 0, slots := 0, locals := 0 } : Room) Z #[(.ref wn)] h0 n0 (fun o h => o = some (.long v) ∧ h0 = h) := by
  refine Con.enter pl_ghandled (fun mm => ef_ghandled mm wn) ?_
  intro K O C H
  replace H := k_aloadN C H dghandled_0 rfl rfl (pc' := 1) rfl
  replace H := k_getFld C H (hw _ (List.mem_of_getElem? (i := 126) rfl)) F dghandled_1 (pc' := 4) rfl
  exact k_retJ C H dghandled_4 (by decide) (by decide) ⟨rfl, rfl⟩
theorem dgunacknowledged_0 : decode prog_8_method_7_code 0 = .ok (.aload_n 0, 1) := by decide +kernel
theorem dgunacknowledged_1 : decode prog_8_method_7_code 1 = .ok (.getfield 66, 3) := by decide +kernel
theorem dgunacknowledged_4 : decode prog_8_method_7_code 4 = .ok (.ireturn, 1) := by decide +kernel
theorem pl_gunacknowledged : plainFor (⟨"com/example/partition_handoff/partitionhandoff/DeliveryWindow", "unacknowledged", "()I"⟩ : MethodName) = true := plainFor_of_name (by first | (simp [plainName, overriddenIn]; done) | decide +kernel)
theorem ef_gunacknowledged (mm : MethodId) (wn : Addr) : entryFrame mm #[(.ref wn)] 1 = mkF mm 0 #[.val (.ref wn)] [] := by first | (simp [entryFrame, mkF, argsToLocals, Value.category]; done) | rfl
set_option maxRecDepth 65536 in
set_option maxHeartbeats 40000000 in
theorem rmgunacknowledged (l : Launch) (Z : State) (a0 : Array Value) (hw : ∀ d ∈ tables_1, d.before a0 Z = true) (wn : Addr) (h0 : Heap) (n0 : Nat) (v : Int32) (F : Fld Z h0 wn "com/example/partition_handoff/partitionhandoff/DeliveryWindow" "unacknowledged" "I" (.int v)) :
    Con l (⟨"com/example/partition_handoff/partitionhandoff/DeliveryWindow", "unacknowledged", "()I"⟩ : MethodName) prog_8_method_7_code 1 (some .int) ({ frames := 0, cells := 0, slots := 0, locals := 0 } : Room) Z #[(.ref wn)] h0 n0 (fun o h => o = some (.int v) ∧ h0 = h) := by
  refine Con.enter pl_gunacknowledged (fun mm => ef_gunacknowledged mm wn) ?_
  intro K O C H
  replace H := k_aloadN C H dgunacknowledged_0 rfl rfl (pc' := 1) rfl
  replace H := k_getFld C H (hw _ (List.mem_of_getElem? (i := 75) rfl)) F dgunacknowledged_1 (pc' := 4) rfl
  exact k_retI C H dgunacknowledged_4 (by decide) (by decide) ⟨rfl, rfl⟩
theorem dgisAcknowledged_0 : decode prog_9_method_3_code 0 = .ok (.aload_n 0, 1) := by decide +kernel
theorem dgisAcknowledged_1 : decode prog_9_method_3_code 1 = .ok (.getfield 13, 3) := by decide +kernel
theorem dgisAcknowledged_4 : decode prog_9_method_3_code 4 = .ok (.ireturn, 1) := by decide +kernel
theorem pl_gisAcknowledged : plainFor (⟨"com/example/partition_handoff/partitionhandoff/DeliveryWindow$Delivery", "isAcknowledged", "()Z"⟩ : MethodName) = true := plainFor_of_name (by first | (simp [plainName, overriddenIn]; done) | decide +kernel)
theorem ef_gisAcknowledged (mm : MethodId) (d : Addr) : entryFrame mm #[(.ref d)] 1 = mkF mm 0 #[.val (.ref d)] [] := by first | (simp [entryFrame, mkF, argsToLocals, Value.category]; done) | rfl
set_option maxRecDepth 65536 in
set_option maxHeartbeats 40000000 in
theorem rmgisAcknowledged (l : Launch) (Z : State) (a0 : Array Value) (hw : ∀ d ∈ tables_1, d.before a0 Z = true) (d : Addr) (h0 : Heap) (n0 : Nat) (v : Int32) (F : Fld Z h0 d "com/example/partition_handoff/partitionhandoff/DeliveryWindow$Delivery" "acknowledged" "Z" (.int v)) (hz : v &&& 1 = v) :
    Con l (⟨"com/example/partition_handoff/partitionhandoff/DeliveryWindow$Delivery", "isAcknowledged", "()Z"⟩ : MethodName) prog_9_method_3_code 1 (some .boolean) ({ frames := 0, cells := 0, slots := 0, locals := 0 } : Room) Z #[(.ref d)] h0 n0 (fun o h => o = some (.int v) ∧ h0 = h) := by
  refine Con.enter pl_gisAcknowledged (fun mm => ef_gisAcknowledged mm d) ?_
  intro K O C H
  replace H := k_aloadN C H dgisAcknowledged_0 rfl rfl (pc' := 1) rfl
  replace H := k_getFld C H (hw _ (List.mem_of_getElem? (i := 44) rfl)) F dgisAcknowledged_1 (pc' := 4) rfl
  exact k_retZ C H dgisAcknowledged_4 hz (by decide) (by decide) ⟨rfl, rfl⟩
theorem dela_0 : decode jdk_21_method_10_code 0 = .ok (.aload_n 0, 1) := by decide +kernel
theorem dela_1 : decode jdk_21_method_10_code 1 = .ok (.iload_n 1, 1) := by decide +kernel
theorem dela_2 : decode jdk_21_method_10_code 2 = .ok (.aaload, 1) := by decide +kernel
theorem dela_3 : decode jdk_21_method_10_code 3 = .ok (.areturn, 1) := by decide +kernel
theorem pl_ela : plainFor (⟨"java/util/ArrayDeque", "elementAt", "([Ljava/lang/Object;I)Ljava/lang/Object;"⟩ : MethodName) = true := plainFor_of_name (by first | (simp [plainName, overriddenIn]; done) | decide +kernel)
theorem ef_ela (mm : MethodId) (es : Addr) (p2 : Int32) : entryFrame mm #[(.ref es), (.int p2)] 2 = mkF mm 0 #[.val (.ref es), .val (.int p2)] [] := by first | (simp [entryFrame, mkF, argsToLocals, Value.category]; done) | rfl
set_option maxRecDepth 65536 in
set_option maxHeartbeats 40000000 in
theorem rmela (l : Launch) (Z : State) (a0 : Array Value) (hw : ∀ d ∈ tables_1, d.before a0 Z = true) (es : Addr) (p2 : Int32) (h0 : Heap) (n0 : Nat) (kE : ClassId) (f : Nat → Value) (i : Nat) (d : Addr) (V_es : Arf Z h0 es kE (.object "java/lang/Object") 17 f) (e : p2.toInt = i) (hi : i < 17) (hv : f i = .ref d) :
    Con l (⟨"java/util/ArrayDeque", "elementAt", "([Ljava/lang/Object;I)Ljava/lang/Object;"⟩ : MethodName) jdk_21_method_10_code 2 (some (.object "java/lang/Object")) ({ frames := 0, cells := 0, slots := 0, locals := 0 } : Room) Z #[(.ref es), (.int p2)] h0 n0 (fun o h => o = some (.ref d) ∧ h0 = h) := by
  refine Con.enter pl_ela (fun mm => ef_ela mm es p2) ?_
  intro K O C H
  replace H := k_aloadN C H dela_0 rfl rfl (pc' := 1) rfl
  replace H := k_iloadN C H dela_1 rfl (pc' := 2) rfl
  replace H := k_aaload C H V_es rfl (i := i) e hi (v := .ref d) hv dela_2 (pc' := 3) rfl
  exact k_retA C H dela_3 rfl rfl (by decide) (by decide) ⟨rfl, rfl⟩
theorem dadl0_0 : decode jdk_21_method_13_code 0 = .ok (.aload_n 1, 1) := by decide +kernel
theorem dadl0_1 : decode jdk_21_method_13_code 1 = .ok (.ifnonnull 11, 3) := by decide +kernel
theorem dadl0_12 : decode jdk_21_method_13_code 12 = .ok (.aload_n 0, 1) := by decide +kernel
theorem dadl0_13 : decode jdk_21_method_13_code 13 = .ok (.getfield 3, 3) := by decide +kernel
theorem dadl0_16 : decode jdk_21_method_13_code 16 = .ok (.astore_n 2, 1) := by decide +kernel
theorem dadl0_17 : decode jdk_21_method_13_code 17 = .ok (.aload_n 2, 1) := by decide +kernel
theorem dadl0_18 : decode jdk_21_method_13_code 18 = .ok (.aload_n 0, 1) := by decide +kernel
theorem dadl0_19 : decode jdk_21_method_13_code 19 = .ok (.getfield 20, 3) := by decide +kernel
theorem dadl0_22 : decode jdk_21_method_13_code 22 = .ok (.aload_n 1, 1) := by decide +kernel
theorem dadl0_23 : decode jdk_21_method_13_code 23 = .ok (.aastore, 1) := by decide +kernel
theorem dadl0_24 : decode jdk_21_method_13_code 24 = .ok (.aload_n 0, 1) := by decide +kernel
theorem dadl0_25 : decode jdk_21_method_13_code 25 = .ok (.getfield 24, 3) := by decide +kernel
theorem dadl0_28 : decode jdk_21_method_13_code 28 = .ok (.aload_n 0, 1) := by decide +kernel
theorem dadl0_29 : decode jdk_21_method_13_code 29 = .ok (.aload_n 0, 1) := by decide +kernel
theorem dadl0_30 : decode jdk_21_method_13_code 30 = .ok (.getfield 20, 3) := by decide +kernel
theorem dadl0_33 : decode jdk_21_method_13_code 33 = .ok (.aload_n 2, 1) := by decide +kernel
theorem dadl0_34 : decode jdk_21_method_13_code 34 = .ok (.arraylength, 1) := by decide +kernel
theorem dadl0_35 : decode jdk_21_method_13_code 35 = .ok (.invokestatic 74, 3) := by decide +kernel
theorem dadl0_38 : decode jdk_21_method_13_code 38 = .ok (.dup_x1, 1) := by decide +kernel
theorem dadl0_39 : decode jdk_21_method_13_code 39 = .ok (.putfield 20, 3) := by decide +kernel
theorem dadl0_42 : decode jdk_21_method_13_code 42 = .ok (.if_icmp .ne 8, 3) := by decide +kernel
theorem dadl0_50 : decode jdk_21_method_13_code 50 = .ok (.return_, 1) := by decide +kernel
theorem pdadl0_0 : parseMethodDescriptor "(II)I" = some ⟨[.int, .int], some .int⟩ := by decide +kernel
theorem pl_adl0 : plainFor (⟨"java/util/ArrayDeque", "addLast", "(Ljava/lang/Object;)V"⟩ : MethodName) = true := plainFor_of_name (by first | (simp [plainName, overriddenIn]; done) | decide +kernel)
theorem ef_adl0 (mm : MethodId) (q : Addr) (d : Addr) : entryFrame mm #[(.ref q), (.ref d)] 3 = mkF mm 0 #[.val (.ref q), .val (.ref d), .unset] [] := by first | (simp [entryFrame, mkF, argsToLocals, Value.category]; done) | rfl
set_option maxRecDepth 65536 in
set_option maxHeartbeats 40000000 in
theorem rmadl0 (l : Launch) (Z : State) (a0 : Array Value) (hw : ∀ d ∈ tables_1, d.before a0 Z = true) (q : Addr) (d : Addr) (h0 : Heap) (n0 : Nat) (es : Addr) (kE : ClassId) (ps : Int64) (ak : Int32) (tb : Int32) (X_q : Exa Z h0 q "java/util/ArrayDeque") (F_q_elements : Fld Z h0 q "java/util/ArrayDeque" "elements" "[Ljava/lang/Object;" (.ref es)) (F_q_head : Fld Z h0 q "java/util/ArrayDeque" "head" "I" (.int (0 : Int32))) (F_q_tail : Fld Z h0 q "java/util/ArrayDeque" "tail" "I" (.int (0 : Int32))) (n_q : n0 ≤ q) (V_es : Arf Z h0 es kE (.object "java/lang/Object") 17 (fun _ => .null)) (O_es : Ovr Z kE "java/lang/Object") (n_es : n0 ≤ es) (X_d : Exa Z h0 d "com/example/partition_handoff/partitionhandoff/DeliveryWindow$Delivery") (F_d_position : Fld Z h0 d "com/example/partition_handoff/partitionhandoff/DeliveryWindow$Delivery" "position" "J" (.long ps)) (F_d_acknowledged : Fld Z h0 d "com/example/partition_handoff/partitionhandoff/DeliveryWindow$Delivery" "acknowledged" "Z" (.int ak)) (F_d_takenBack : Fld Z h0 d "com/example/partition_handoff/partitionhandoff/DeliveryWindow$Delivery" "takenBack" "Z" (.int tb)) (n_d : n0 ≤ d) (ne_q_d : q ≠ d) :
    Con l (⟨"java/util/ArrayDeque", "addLast", "(Ljava/lang/Object;)V"⟩ : MethodName) jdk_21_method_13_code 3 none ({ frames := 1, cells := 0, slots := 0, locals := 15 } : Room) Z #[(.ref q), (.ref d)] h0 n0 (fun o h => o = none ∧ Keep h0 h [q, es] ∧ Fld Z h q "java/util/ArrayDeque" "elements" "[Ljava/lang/Object;" (.ref es) ∧ Fld Z h q "java/util/ArrayDeque" "head" "I" (.int (0 : Int32)) ∧ Fld Z h q "java/util/ArrayDeque" "tail" "I" (.int (1 : Int32)) ∧ Arf Z h es kE (.object "java/lang/Object") 17 (fun k => if k = 0 then .ref d else .null)) := by
  refine Con.enter pl_adl0 (fun mm => ef_adl0 mm q d) ?_
  intro K O C H
  have KK : Keep h0 h0 [q, es] := Keep.refl h0 _
  have ne_es_q : es ≠ q := V_es.neX X_q (hw _ (List.mem_of_getElem? (i := 10) rfl))
  have ne_es_d : es ≠ d := V_es.neX X_d (hw _ (List.mem_of_getElem? (i := 31) rfl))
  replace H := k_aloadN C H dadl0_0 rfl rfl (pc' := 1) rfl
  replace H := k_ifnonnullY C H dadl0_1 (by decide) (pc' := 12) rfl
  replace H := k_aloadN C H dadl0_12 rfl rfl (pc' := 13) rfl
  replace H := k_getFld C H (hw _ (List.mem_of_getElem? (i := 24) rfl)) F_q_elements dadl0_13 (pc' := 16) rfl
  replace H := k_astoreN C H dadl0_16 (L' := #[.val (.ref q), .val (.ref d), .val (.ref es)]) rfl rfl (pc' := 17) rfl
  replace H := k_aloadN C H dadl0_17 rfl rfl (pc' := 18) rfl
  replace H := k_aloadN C H dadl0_18 rfl rfl (pc' := 19) rfl
  replace H := k_getFld C H (hw _ (List.mem_of_getElem? (i := 67) rfl)) F_q_tail dadl0_19 (pc' := 22) rfl
  replace H := k_aloadN C H dadl0_22 rfl rfl (pc' := 23) rfl
  replace H := k_aastore C H V_es rfl (Or.inr (Or.inl ⟨_, O_es, d, rfl, Ins.of_exa X_d (hw _ (List.mem_of_getElem? (i := 69) rfl))⟩)) (i := 0) (by decide) (by decide) n_es dadl0_23 (pc' := 24) rfl
  obtain ⟨j1, W_j1, V_es, H⟩ := H
  replace X_q := X_q.wr W_j1
  replace F_q_elements := F_q_elements.other W_j1 (Or.inl (Ne.symm ne_es_q))
  replace F_q_head := F_q_head.other W_j1 (Or.inl (Ne.symm ne_es_q))
  replace F_q_tail := F_q_tail.other W_j1 (Or.inl (Ne.symm ne_es_q))
  replace X_d := X_d.wr W_j1
  replace F_d_position := F_d_position.other W_j1 (Or.inl (Ne.symm ne_es_d))
  replace F_d_acknowledged := F_d_acknowledged.other W_j1 (Or.inl (Ne.symm ne_es_d))
  replace F_d_takenBack := F_d_takenBack.other W_j1 (Or.inl (Ne.symm ne_es_d))
  replace KK := KK.wr W_j1 (Or.inl (List.mem_of_getElem? (i := 1) rfl))
  replace H := k_aloadN C H dadl0_24 rfl rfl (pc' := 25) rfl
  replace H := k_getFld C H (hw _ (List.mem_of_getElem? (i := 70) rfl)) F_q_head dadl0_25 (pc' := 28) rfl
  replace H := k_aloadN C H dadl0_28 rfl rfl (pc' := 29) rfl
  replace H := k_aloadN C H dadl0_29 rfl rfl (pc' := 30) rfl
  replace H := k_getFld C H (hw _ (List.mem_of_getElem? (i := 67) rfl)) F_q_tail dadl0_30 (pc' := 33) rfl
  replace H := k_aloadN C H dadl0_33 rfl rfl (pc' := 34) rfl
  replace H := k_arflen C H V_es dadl0_34 (pc' := 35) rfl
  replace H : K 35 #[.val (.ref q), .val (.ref d), .val (.ref es)] [(.int (17 : Int32)), (.int (0 : Int32)), (.ref q), (.int (0 : Int32))] j1 0 0 := H
  replace H := k_callSta C H (rminc l Z a0 hw (0 : Int32) (17 : Int32) j1 n0 ) (hw _ (List.mem_of_getElem? (i := 72) rfl)) (hw _ (List.mem_of_getElem? (i := 73) rfl)) (hw _ (List.mem_of_getElem? (i := 11) rfl)) (hw _ (List.mem_of_getElem? (i := 74) rfl)) (by decide) dadl0_35 rfl [(.int (0 : Int32)), (.int (17 : Int32))] [(.ref q), (.int (0 : Int32))] pdadl0_0 rfl rfl rfl 2 rfl (by decide) (by decide) (by decide) (by decide) (pc' := 38) rfl
  obtain ⟨_, _, ⟨rfl, rfl⟩, H⟩ := H
  replace H : K 38 #[.val (.ref q), .val (.ref d), .val (.ref es)] [(.int (own_inc (0 : Int32) (17 : Int32))), (.ref q), (.int (0 : Int32))] j1 0 0 := H
  have lk : (own_inc (0 : Int32) (17 : Int32)) = (1 : Int32) := by decide
  rw [lk] at H
  clear lk
  replace H : K 38 #[.val (.ref q), .val (.ref d), .val (.ref es)] [(.int (1 : Int32)), (.ref q), (.int (0 : Int32))] j1 0 0 := H
  replace H := k_dupX1 C H dadl0_38 rfl rfl (pc' := 39) rfl
  replace H := k_putFld C H (hw _ (List.mem_of_getElem? (i := 67) rfl)) F_q_tail X_q (Or.inl (hw _ (List.mem_of_getElem? (i := 68) rfl))) (hw _ (List.mem_of_getElem? (i := 10) rfl)) (ty := .int) (by decide) (v' := (.int (1 : Int32))) rfl rfl n_q dadl0_39 (pc' := 42) rfl
  obtain ⟨j2, W_j2, H⟩ := H
  replace X_q := X_q.wr W_j2
  replace F_q_elements := F_q_elements.other W_j2 (Or.inr (slot_ne (Or.inl (hw _ (List.mem_of_getElem? (i := 25) rfl))) (Or.inl (hw _ (List.mem_of_getElem? (i := 68) rfl))) (by decide) (t := (.array (.object "java/lang/Object"))) (t' := .int) (by decide) (by decide)))
  replace F_q_head := F_q_head.other W_j2 (Or.inr (slot_ne (Or.inl (hw _ (List.mem_of_getElem? (i := 71) rfl))) (Or.inl (hw _ (List.mem_of_getElem? (i := 68) rfl))) (by decide) (t := .int) (t' := .int) (by decide) (by decide)))
  replace F_q_tail := F_q_tail.same W_j2
  replace V_es := V_es.other W_j2 ne_es_q
  replace X_d := X_d.wr W_j2
  replace F_d_position := F_d_position.other W_j2 (Or.inl (Ne.symm ne_q_d))
  replace F_d_acknowledged := F_d_acknowledged.other W_j2 (Or.inl (Ne.symm ne_q_d))
  replace F_d_takenBack := F_d_takenBack.other W_j2 (Or.inl (Ne.symm ne_q_d))
  replace KK := KK.wr W_j2 (Or.inl (List.mem_of_getElem? (i := 0) rfl))
  replace H := k_icmpY C H dadl0_42 (feq (by decide : ¬ ((0 : Int32) = (1 : Int32)))).2 (by decide) (pc' := 50) rfl
  replace V_es : Arf Z j2 es kE (.object "java/lang/Object") 17 (fun k => if k = 0 then .ref d else .null) := V_es.congr (fun k _ => by by_cases q : k = 0 <;> simp [q])
  exact k_retV C H dadl0_50 (by decide) (by decide) ⟨rfl, KK, F_q_elements, F_q_head, F_q_tail, V_es⟩
theorem dgef0_0 : decode jdk_21_method_22_code 0 = .ok (.aload_n 0, 1) := by decide +kernel
theorem dgef0_1 : decode jdk_21_method_22_code 1 = .ok (.getfield 3, 3) := by decide +kernel
theorem dgef0_4 : decode jdk_21_method_22_code 4 = .ok (.aload_n 0, 1) := by decide +kernel
theorem dgef0_5 : decode jdk_21_method_22_code 5 = .ok (.getfield 24, 3) := by decide +kernel
theorem dgef0_8 : decode jdk_21_method_22_code 8 = .ok (.invokestatic 103, 3) := by decide +kernel
theorem dgef0_11 : decode jdk_21_method_22_code 11 = .ok (.astore_n 1, 1) := by decide +kernel
theorem dgef0_12 : decode jdk_21_method_22_code 12 = .ok (.aload_n 1, 1) := by decide +kernel
theorem dgef0_13 : decode jdk_21_method_22_code 13 = .ok (.ifnonnull 11, 3) := by decide +kernel
theorem dgef0_24 : decode jdk_21_method_22_code 24 = .ok (.aload_n 1, 1) := by decide +kernel
theorem dgef0_25 : decode jdk_21_method_22_code 25 = .ok (.areturn, 1) := by decide +kernel
theorem pdgef0_0 : parseMethodDescriptor "([Ljava/lang/Object;I)Ljava/lang/Object;" = some ⟨[(.array (.object "java/lang/Object")), .int], some (.object "java/lang/Object")⟩ := by decide +kernel
theorem pl_gef0 : plainFor (⟨"java/util/ArrayDeque", "getFirst", "()Ljava/lang/Object;"⟩ : MethodName) = true := plainFor_of_name (by first | (simp [plainName, overriddenIn]; done) | decide +kernel)
theorem ef_gef0 (mm : MethodId) (q : Addr) : entryFrame mm #[(.ref q)] 2 = mkF mm 0 #[.val (.ref q), .unset] [] := by first | (simp [entryFrame, mkF, argsToLocals, Value.category]; done) | rfl
set_option maxRecDepth 65536 in
set_option maxHeartbeats 40000000 in
theorem rmgef0 (l : Launch) (Z : State) (a0 : Array Value) (hw : ∀ d ∈ tables_1, d.before a0 Z = true) (q : Addr) (h0 : Heap) (n0 : Nat) (es : Addr) (kE : ClassId) (d : Addr) (X_q : Exa Z h0 q "java/util/ArrayDeque") (F_q_elements : Fld Z h0 q "java/util/ArrayDeque" "elements" "[Ljava/lang/Object;" (.ref es)) (F_q_head : Fld Z h0 q "java/util/ArrayDeque" "head" "I" (.int (0 : Int32))) (F_q_tail : Fld Z h0 q "java/util/ArrayDeque" "tail" "I" (.int (1 : Int32))) (n_q : n0 ≤ q) (V_es : Arf Z h0 es kE (.object "java/lang/Object") 17 (fun k => if k = 0 then .ref d else .null)) (O_es : Ovr Z kE "java/lang/Object") (n_es : n0 ≤ es) :
    Con l (⟨"java/util/ArrayDeque", "getFirst", "()Ljava/lang/Object;"⟩ : MethodName) jdk_21_method_22_code 2 (some (.object "java/lang/Object")) ({ frames := 1, cells := 0, slots := 0, locals := 13 } : Room) Z #[(.ref q)] h0 n0 (fun o h => o = some (.ref d) ∧ h0 = h) := by
  refine Con.enter pl_gef0 (fun mm => ef_gef0 mm q) ?_
  intro K O C H
  have ne_es_q : es ≠ q := V_es.neX X_q (hw _ (List.mem_of_getElem? (i := 10) rfl))
  replace H := k_aloadN C H dgef0_0 rfl rfl (pc' := 1) rfl
  replace H := k_getFld C H (hw _ (List.mem_of_getElem? (i := 24) rfl)) F_q_elements dgef0_1 (pc' := 4) rfl
  replace H := k_aloadN C H dgef0_4 rfl rfl (pc' := 5) rfl
  replace H := k_getFld C H (hw _ (List.mem_of_getElem? (i := 70) rfl)) F_q_head dgef0_5 (pc' := 8) rfl
  replace H := k_callSta C H (rmela l Z a0 hw es (0 : Int32) h0 n0 kE _ 0 d V_es (by decide) (by decide) rfl) (hw _ (List.mem_of_getElem? (i := 103) rfl)) (hw _ (List.mem_of_getElem? (i := 104) rfl)) (hw _ (List.mem_of_getElem? (i := 11) rfl)) (hw _ (List.mem_of_getElem? (i := 105) rfl)) (by decide) dgef0_8 rfl [(.ref es), (.int (0 : Int32))] [] pdgef0_0 rfl rfl rfl 0 rfl (by decide) (by decide) (by decide) (by decide) (pc' := 11) rfl
  obtain ⟨_, _, ⟨rfl, rfl⟩, H⟩ := H
  replace H : K 11 #[.val (.ref q), .unset] [(.ref d)] h0 0 0 := H
  replace H := k_astoreN C H dgef0_11 (L' := #[.val (.ref q), .val (.ref d)]) rfl rfl (pc' := 12) rfl
  replace H := k_aloadN C H dgef0_12 rfl rfl (pc' := 13) rfl
  replace H := k_ifnonnullY C H dgef0_13 (by decide) (pc' := 24) rfl
  replace H := k_aloadN C H dgef0_24 rfl rfl (pc' := 25) rfl
  exact k_retA C H dgef0_25 rfl rfl (by decide) (by decide) ⟨rfl, rfl⟩
theorem dpol0_0 : decode jdk_21_method_20_code 0 = .ok (.aload_n 0, 1) := by decide +kernel
theorem dpol0_1 : decode jdk_21_method_20_code 1 = .ok (.getfield 3, 3) := by decide +kernel
theorem dpol0_4 : decode jdk_21_method_20_code 4 = .ok (.dup, 1) := by decide +kernel
theorem dpol0_5 : decode jdk_21_method_20_code 5 = .ok (.astore_n 1, 1) := by decide +kernel
theorem dpol0_6 : decode jdk_21_method_20_code 6 = .ok (.aload_n 0, 1) := by decide +kernel
theorem dpol0_7 : decode jdk_21_method_20_code 7 = .ok (.getfield 24, 3) := by decide +kernel
theorem dpol0_10 : decode jdk_21_method_20_code 10 = .ok (.dup, 1) := by decide +kernel
theorem dpol0_11 : decode jdk_21_method_20_code 11 = .ok (.istore_n 2, 1) := by decide +kernel
theorem dpol0_12 : decode jdk_21_method_20_code 12 = .ok (.invokestatic 103, 3) := by decide +kernel
theorem dpol0_15 : decode jdk_21_method_20_code 15 = .ok (.astore_n 3, 1) := by decide +kernel
theorem dpol0_16 : decode jdk_21_method_20_code 16 = .ok (.aload_n 3, 1) := by decide +kernel
theorem dpol0_17 : decode jdk_21_method_20_code 17 = .ok (.ifnull 17, 3) := by decide +kernel
theorem dpol0_20 : decode jdk_21_method_20_code 20 = .ok (.aload_n 1, 1) := by decide +kernel
theorem dpol0_21 : decode jdk_21_method_20_code 21 = .ok (.iload_n 2, 1) := by decide +kernel
theorem dpol0_22 : decode jdk_21_method_20_code 22 = .ok (.aconst_null, 1) := by decide +kernel
theorem dpol0_23 : decode jdk_21_method_20_code 23 = .ok (.aastore, 1) := by decide +kernel
theorem dpol0_24 : decode jdk_21_method_20_code 24 = .ok (.aload_n 0, 1) := by decide +kernel
theorem dpol0_25 : decode jdk_21_method_20_code 25 = .ok (.iload_n 2, 1) := by decide +kernel
theorem dpol0_26 : decode jdk_21_method_20_code 26 = .ok (.aload_n 1, 1) := by decide +kernel
theorem dpol0_27 : decode jdk_21_method_20_code 27 = .ok (.arraylength, 1) := by decide +kernel
theorem dpol0_28 : decode jdk_21_method_20_code 28 = .ok (.invokestatic 74, 3) := by decide +kernel
theorem dpol0_31 : decode jdk_21_method_20_code 31 = .ok (.putfield 24, 3) := by decide +kernel
theorem dpol0_34 : decode jdk_21_method_20_code 34 = .ok (.aload_n 3, 1) := by decide +kernel
theorem dpol0_35 : decode jdk_21_method_20_code 35 = .ok (.areturn, 1) := by decide +kernel
theorem pdpol0_0 : parseMethodDescriptor "([Ljava/lang/Object;I)Ljava/lang/Object;" = some ⟨[(.array (.object "java/lang/Object")), .int], some (.object "java/lang/Object")⟩ := by decide +kernel
theorem pdpol0_1 : parseMethodDescriptor "(II)I" = some ⟨[.int, .int], some .int⟩ := by decide +kernel
theorem pl_pol0 : plainFor (⟨"java/util/ArrayDeque", "pollFirst", "()Ljava/lang/Object;"⟩ : MethodName) = true := plainFor_of_name (by first | (simp [plainName, overriddenIn]; done) | decide +kernel)
theorem ef_pol0 (mm : MethodId) (q : Addr) : entryFrame mm #[(.ref q)] 4 = mkF mm 0 #[.val (.ref q), .unset, .unset, .unset] [] := by first | (simp [entryFrame, mkF, argsToLocals, Value.category]; done) | rfl
set_option maxRecDepth 65536 in
set_option maxHeartbeats 40000000 in
theorem rmpol0 (l : Launch) (Z : State) (a0 : Array Value) (hw : ∀ d ∈ tables_1, d.before a0 Z = true) (q : Addr) (h0 : Heap) (n0 : Nat) (es : Addr) (kE : ClassId) (d : Addr) (X_q : Exa Z h0 q "java/util/ArrayDeque") (F_q_elements : Fld Z h0 q "java/util/ArrayDeque" "elements" "[Ljava/lang/Object;" (.ref es)) (F_q_head : Fld Z h0 q "java/util/ArrayDeque" "head" "I" (.int (0 : Int32))) (F_q_tail : Fld Z h0 q "java/util/ArrayDeque" "tail" "I" (.int (1 : Int32))) (n_q : n0 ≤ q) (V_es : Arf Z h0 es kE (.object "java/lang/Object") 17 (fun k => if k = 0 then .ref d else .null)) (O_es : Ovr Z kE "java/lang/Object") (n_es : n0 ≤ es) :
    Con l (⟨"java/util/ArrayDeque", "pollFirst", "()Ljava/lang/Object;"⟩ : MethodName) jdk_21_method_20_code 4 (some (.object "java/lang/Object")) ({ frames := 1, cells := 0, slots := 0, locals := 14 } : Room) Z #[(.ref q)] h0 n0 (fun o h => o = some (.ref d) ∧ Keep h0 h [q, es] ∧ Fld Z h q "java/util/ArrayDeque" "elements" "[Ljava/lang/Object;" (.ref es) ∧ Fld Z h q "java/util/ArrayDeque" "head" "I" (.int (1 : Int32)) ∧ Fld Z h q "java/util/ArrayDeque" "tail" "I" (.int (1 : Int32)) ∧ Arf Z h es kE (.object "java/lang/Object") 17 (fun _ => .null)) := by
  refine Con.enter pl_pol0 (fun mm => ef_pol0 mm q) ?_
  intro K O C H
  have KK : Keep h0 h0 [q, es] := Keep.refl h0 _
  have ne_es_q : es ≠ q := V_es.neX X_q (hw _ (List.mem_of_getElem? (i := 10) rfl))
  replace H := k_aloadN C H dpol0_0 rfl rfl (pc' := 1) rfl
  replace H := k_getFld C H (hw _ (List.mem_of_getElem? (i := 24) rfl)) F_q_elements dpol0_1 (pc' := 4) rfl
  replace H := k_dup C H dpol0_4 rfl (pc' := 5) rfl
  replace H := k_astoreN C H dpol0_5 (L' := #[.val (.ref q), .val (.ref es), .unset, .unset]) rfl rfl (pc' := 6) rfl
  replace H := k_aloadN C H dpol0_6 rfl rfl (pc' := 7) rfl
  replace H := k_getFld C H (hw _ (List.mem_of_getElem? (i := 70) rfl)) F_q_head dpol0_7 (pc' := 10) rfl
  replace H := k_dup C H dpol0_10 rfl (pc' := 11) rfl
  replace H := k_istoreN C H dpol0_11 (L' := #[.val (.ref q), .val (.ref es), .val (.int (0 : Int32)), .unset]) rfl (pc' := 12) rfl
  replace H := k_callSta C H (rmela l Z a0 hw es (0 : Int32) h0 n0 kE _ 0 d V_es (by decide) (by decide) rfl) (hw _ (List.mem_of_getElem? (i := 103) rfl)) (hw _ (List.mem_of_getElem? (i := 104) rfl)) (hw _ (List.mem_of_getElem? (i := 11) rfl)) (hw _ (List.mem_of_getElem? (i := 105) rfl)) (by decide) dpol0_12 rfl [(.ref es), (.int (0 : Int32))] [] pdpol0_0 rfl rfl rfl 0 rfl (by decide) (by decide) (by decide) (by decide) (pc' := 15) rfl
  obtain ⟨_, _, ⟨rfl, rfl⟩, H⟩ := H
  replace H : K 15 #[.val (.ref q), .val (.ref es), .val (.int (0 : Int32)), .unset] [(.ref d)] h0 0 0 := H
  replace H := k_astoreN C H dpol0_15 (L' := #[.val (.ref q), .val (.ref es), .val (.int (0 : Int32)), .val (.ref d)]) rfl rfl (pc' := 16) rfl
  replace H := k_aloadN C H dpol0_16 rfl rfl (pc' := 17) rfl
  replace H := k_ifnullN C H dpol0_17 (pc' := 20) rfl
  replace H := k_aloadN C H dpol0_20 rfl rfl (pc' := 21) rfl
  replace H := k_iloadN C H dpol0_21 rfl (pc' := 22) rfl
  replace H := k_anull C H dpol0_22 (pc' := 23) rfl
  replace H := k_aastore C H V_es rfl (Or.inl rfl) (i := 0) (by decide) (by decide) n_es dpol0_23 (pc' := 24) rfl
  obtain ⟨j3, W_j3, V_es, H⟩ := H
  replace X_q := X_q.wr W_j3
  replace F_q_elements := F_q_elements.other W_j3 (Or.inl (Ne.symm ne_es_q))
  replace F_q_head := F_q_head.other W_j3 (Or.inl (Ne.symm ne_es_q))
  replace F_q_tail := F_q_tail.other W_j3 (Or.inl (Ne.symm ne_es_q))
  replace KK := KK.wr W_j3 (Or.inl (List.mem_of_getElem? (i := 1) rfl))
  replace H := k_aloadN C H dpol0_24 rfl rfl (pc' := 25) rfl
  replace H := k_iloadN C H dpol0_25 rfl (pc' := 26) rfl
  replace H := k_aloadN C H dpol0_26 rfl rfl (pc' := 27) rfl
  replace H := k_arflen C H V_es dpol0_27 (pc' := 28) rfl
  replace H : K 28 #[.val (.ref q), .val (.ref es), .val (.int (0 : Int32)), .val (.ref d)] [(.int (17 : Int32)), (.int (0 : Int32)), (.ref q)] j3 0 0 := H
  replace H := k_callSta C H (rminc l Z a0 hw (0 : Int32) (17 : Int32) j3 n0 ) (hw _ (List.mem_of_getElem? (i := 72) rfl)) (hw _ (List.mem_of_getElem? (i := 73) rfl)) (hw _ (List.mem_of_getElem? (i := 11) rfl)) (hw _ (List.mem_of_getElem? (i := 74) rfl)) (by decide) dpol0_28 rfl [(.int (0 : Int32)), (.int (17 : Int32))] [(.ref q)] pdpol0_1 rfl rfl rfl 1 rfl (by decide) (by decide) (by decide) (by decide) (pc' := 31) rfl
  obtain ⟨_, _, ⟨rfl, rfl⟩, H⟩ := H
  replace H : K 31 #[.val (.ref q), .val (.ref es), .val (.int (0 : Int32)), .val (.ref d)] [(.int (own_inc (0 : Int32) (17 : Int32))), (.ref q)] j3 0 0 := H
  have lk : (own_inc (0 : Int32) (17 : Int32)) = (1 : Int32) := by decide
  rw [lk] at H
  clear lk
  replace H : K 31 #[.val (.ref q), .val (.ref es), .val (.int (0 : Int32)), .val (.ref d)] [(.int (1 : Int32)), (.ref q)] j3 0 0 := H
  replace H := k_putFld C H (hw _ (List.mem_of_getElem? (i := 70) rfl)) F_q_head X_q (Or.inl (hw _ (List.mem_of_getElem? (i := 71) rfl))) (hw _ (List.mem_of_getElem? (i := 10) rfl)) (ty := .int) (by decide) (v' := (.int (1 : Int32))) rfl rfl n_q dpol0_31 (pc' := 34) rfl
  obtain ⟨j4, W_j4, H⟩ := H
  replace X_q := X_q.wr W_j4
  replace F_q_elements := F_q_elements.other W_j4 (Or.inr (slot_ne (Or.inl (hw _ (List.mem_of_getElem? (i := 25) rfl))) (Or.inl (hw _ (List.mem_of_getElem? (i := 71) rfl))) (by decide) (t := (.array (.object "java/lang/Object"))) (t' := .int) (by decide) (by decide)))
  replace F_q_head := F_q_head.same W_j4
  replace F_q_tail := F_q_tail.other W_j4 (Or.inr (slot_ne (Or.inl (hw _ (List.mem_of_getElem? (i := 68) rfl))) (Or.inl (hw _ (List.mem_of_getElem? (i := 71) rfl))) (by decide) (t := .int) (t' := .int) (by decide) (by decide)))
  replace V_es := V_es.other W_j4 ne_es_q
  replace KK := KK.wr W_j4 (Or.inl (List.mem_of_getElem? (i := 0) rfl))
  replace H := k_aloadN C H dpol0_34 rfl rfl (pc' := 35) rfl
  replace V_es : Arf Z j4 es kE (.object "java/lang/Object") 17 (fun _ => .null) := V_es.congr (fun k _ => by by_cases q : k = 0 <;> simp [q])
  exact k_retA C H dpol0_35 rfl rfl (by decide) (by decide) ⟨rfl, KK, F_q_elements, F_q_head, F_q_tail, V_es⟩
theorem drmf0_0 : decode jdk_21_method_18_code 0 = .ok (.aload_n 0, 1) := by decide +kernel
theorem drmf0_1 : decode jdk_21_method_18_code 1 = .ok (.invokevirtual 93, 3) := by decide +kernel
theorem drmf0_4 : decode jdk_21_method_18_code 4 = .ok (.astore_n 1, 1) := by decide +kernel
theorem drmf0_5 : decode jdk_21_method_18_code 5 = .ok (.aload_n 1, 1) := by decide +kernel
theorem drmf0_6 : decode jdk_21_method_18_code 6 = .ok (.ifnonnull 11, 3) := by decide +kernel
theorem drmf0_17 : decode jdk_21_method_18_code 17 = .ok (.aload_n 1, 1) := by decide +kernel
theorem drmf0_18 : decode jdk_21_method_18_code 18 = .ok (.areturn, 1) := by decide +kernel
theorem pdrmf0_0 : parseMethodDescriptor "()Ljava/lang/Object;" = some ⟨[], some (.object "java/lang/Object")⟩ := by decide +kernel
theorem pl_rmf0 : plainFor (⟨"java/util/ArrayDeque", "removeFirst", "()Ljava/lang/Object;"⟩ : MethodName) = true := plainFor_of_name (by first | (simp [plainName, overriddenIn]; done) | decide +kernel)
theorem ef_rmf0 (mm : MethodId) (q : Addr) : entryFrame mm #[(.ref q)] 2 = mkF mm 0 #[.val (.ref q), .unset] [] := by first | (simp [entryFrame, mkF, argsToLocals, Value.category]; done) | rfl
set_option maxRecDepth 65536 in
set_option maxHeartbeats 40000000 in
theorem rmrmf0 (l : Launch) (Z : State) (a0 : Array Value) (hw : ∀ d ∈ tables_1, d.before a0 Z = true) (q : Addr) (h0 : Heap) (n0 : Nat) (es : Addr) (kE : ClassId) (d : Addr) (X_q : Exa Z h0 q "java/util/ArrayDeque") (F_q_elements : Fld Z h0 q "java/util/ArrayDeque" "elements" "[Ljava/lang/Object;" (.ref es)) (F_q_head : Fld Z h0 q "java/util/ArrayDeque" "head" "I" (.int (0 : Int32))) (F_q_tail : Fld Z h0 q "java/util/ArrayDeque" "tail" "I" (.int (1 : Int32))) (n_q : n0 ≤ q) (V_es : Arf Z h0 es kE (.object "java/lang/Object") 17 (fun k => if k = 0 then .ref d else .null)) (O_es : Ovr Z kE "java/lang/Object") (n_es : n0 ≤ es) :
    Con l (⟨"java/util/ArrayDeque", "removeFirst", "()Ljava/lang/Object;"⟩ : MethodName) jdk_21_method_18_code 2 (some (.object "java/lang/Object")) ({ frames := 2, cells := 0, slots := 0, locals := 29 } : Room) Z #[(.ref q)] h0 n0 (fun o h => o = some (.ref d) ∧ Keep h0 h [q, es] ∧ Fld Z h q "java/util/ArrayDeque" "elements" "[Ljava/lang/Object;" (.ref es) ∧ Fld Z h q "java/util/ArrayDeque" "head" "I" (.int (1 : Int32)) ∧ Fld Z h q "java/util/ArrayDeque" "tail" "I" (.int (1 : Int32)) ∧ Arf Z h es kE (.object "java/lang/Object") 17 (fun _ => .null)) := by
  refine Con.enter pl_rmf0 (fun mm => ef_rmf0 mm q) ?_
  intro K O C H
  have KK : Keep h0 h0 [q, es] := Keep.refl h0 _
  have ne_es_q : es ≠ q := V_es.neX X_q (hw _ (List.mem_of_getElem? (i := 10) rfl))
  replace H := k_aloadN C H drmf0_0 rfl rfl (pc' := 1) rfl
  replace H := k_callVir C H (rmpol0 l Z a0 hw q h0 n0 es kE d X_q F_q_elements F_q_head F_q_tail n_q V_es O_es n_es) X_q (hw _ (List.mem_of_getElem? (i := 116) rfl)) (hw _ (List.mem_of_getElem? (i := 117) rfl)) (hw _ (List.mem_of_getElem? (i := 119) rfl)) (hw _ (List.mem_of_getElem? (i := 118) rfl)) (hw _ (List.mem_of_getElem? (i := 11) rfl)) (hw _ (List.mem_of_getElem? (i := 120) rfl)) (by decide) drmf0_1 rfl [] [] pdrmf0_0 rfl rfl rfl 0 rfl (by decide) (by decide) (by decide) (by decide) (pc' := 4) rfl
  obtain ⟨_, j5, ⟨rfl, K_j5, F_q_elements', F_q_head', F_q_tail', V_es'⟩, H⟩ := H
  replace H : K 4 #[.val (.ref q), .unset] [(.ref d)] j5 0 0 := H
  replace X_q := X_q.keep K_j5
  replace KK := KK.trans K_j5 (allS (Or.inl (List.mem_of_getElem? (i := 0) rfl)) (allS (Or.inl (List.mem_of_getElem? (i := 1) rfl)) all0))
  replace F_q_elements := F_q_elements'
  clear F_q_elements'
  replace F_q_head := F_q_head'
  clear F_q_head'
  replace F_q_tail := F_q_tail'
  clear F_q_tail'
  replace V_es := V_es'
  clear V_es'
  replace H := k_astoreN C H drmf0_4 (L' := #[.val (.ref q), .val (.ref d)]) rfl rfl (pc' := 5) rfl
  replace H := k_aloadN C H drmf0_5 rfl rfl (pc' := 6) rfl
  replace H := k_ifnonnullY C H drmf0_6 (by decide) (pc' := 17) rfl
  replace H := k_aloadN C H drmf0_17 rfl rfl (pc' := 18) rfl
  exact k_retA C H drmf0_18 rfl rfl (by decide) (by decide) ⟨rfl, KK, F_q_elements, F_q_head, F_q_tail, V_es⟩
theorem ddlv0_0 : decode prog_8_method_8_code 0 = .ok (.aload_n 0, 1) := by decide +kernel
theorem ddlv0_1 : decode prog_8_method_8_code 1 = .ok (.getfield 10, 3) := by decide +kernel
theorem ddlv0_4 : decode prog_8_method_8_code 4 = .ok (.aload_n 1, 1) := by decide +kernel
theorem ddlv0_5 : decode prog_8_method_8_code 5 = .ok (.invokeinterface 69 2, 5) := by decide +kernel
theorem ddlv0_10 : decode prog_8_method_8_code 10 = .ok (.aload_n 0, 1) := by decide +kernel
theorem ddlv0_11 : decode prog_8_method_8_code 11 = .ok (.dup, 1) := by decide +kernel
theorem ddlv0_12 : decode prog_8_method_8_code 12 = .ok (.getfield 66, 3) := by decide +kernel
theorem ddlv0_15 : decode prog_8_method_8_code 15 = .ok (.iconst 1, 1) := by decide +kernel
theorem ddlv0_16 : decode prog_8_method_8_code 16 = .ok (.iadd, 1) := by decide +kernel
theorem ddlv0_17 : decode prog_8_method_8_code 17 = .ok (.putfield 66, 3) := by decide +kernel
theorem ddlv0_20 : decode prog_8_method_8_code 20 = .ok (.return_, 1) := by decide +kernel
theorem pddlv0_0 : parseMethodDescriptor "(Ljava/lang/Object;)V" = some ⟨[(.object "java/lang/Object")], none⟩ := by decide +kernel
theorem pl_dlv0 : plainFor (⟨"com/example/partition_handoff/partitionhandoff/DeliveryWindow", "deliver", "(Lcom/example/partition_handoff/partitionhandoff/DeliveryWindow$Delivery;)V"⟩ : MethodName) = true := plainFor_of_name (by first | (simp [plainName, overriddenIn]; done) | decide +kernel)
theorem ef_dlv0 (mm : MethodId) (wn : Addr) (d : Addr) : entryFrame mm #[(.ref wn), (.ref d)] 2 = mkF mm 0 #[.val (.ref wn), .val (.ref d)] [] := by first | (simp [entryFrame, mkF, argsToLocals, Value.category]; done) | rfl
set_option maxRecDepth 65536 in
set_option maxHeartbeats 40000000 in
theorem rmdlv0 (l : Launch) (Z : State) (a0 : Array Value) (hw : ∀ d ∈ tables_1, d.before a0 Z = true) (wn : Addr) (d : Addr) (h0 : Heap) (n0 : Nat) (q : Addr) (es : Addr) (kE : ClassId) (lp : Int64) (hl : Int32) (hc : Int64) (ps : Int64) (ak : Int32) (tb : Int32) (X_wn : Exa Z h0 wn "com/example/partition_handoff/partitionhandoff/DeliveryWindow") (F_wn_delivered : Fld Z h0 wn "com/example/partition_handoff/partitionhandoff/DeliveryWindow" "delivered" "Ljava/util/Deque;" (.ref q)) (F_wn_unacknowledged : Fld Z h0 wn "com/example/partition_handoff/partitionhandoff/DeliveryWindow" "unacknowledged" "I" (.int (0 : Int32))) (F_wn_lastHandledPosition : Fld Z h0 wn "com/example/partition_handoff/partitionhandoff/DeliveryWindow" "lastHandledPosition" "J" (.long lp)) (F_wn_hasLastHandled : Fld Z h0 wn "com/example/partition_handoff/partitionhandoff/DeliveryWindow" "hasLastHandled" "Z" (.int hl)) (F_wn_handled : Fld Z h0 wn "com/example/partition_handoff/partitionhandoff/DeliveryWindow" "handled" "J" (.long hc)) (n_wn : n0 ≤ wn) (X_q : Exa Z h0 q "java/util/ArrayDeque") (F_q_elements : Fld Z h0 q "java/util/ArrayDeque" "elements" "[Ljava/lang/Object;" (.ref es)) (F_q_head : Fld Z h0 q "java/util/ArrayDeque" "head" "I" (.int (0 : Int32))) (F_q_tail : Fld Z h0 q "java/util/ArrayDeque" "tail" "I" (.int (0 : Int32))) (n_q : n0 ≤ q) (V_es : Arf Z h0 es kE (.object "java/lang/Object") 17 (fun _ => .null)) (O_es : Ovr Z kE "java/lang/Object") (n_es : n0 ≤ es) (X_d : Exa Z h0 d "com/example/partition_handoff/partitionhandoff/DeliveryWindow$Delivery") (F_d_position : Fld Z h0 d "com/example/partition_handoff/partitionhandoff/DeliveryWindow$Delivery" "position" "J" (.long ps)) (F_d_acknowledged : Fld Z h0 d "com/example/partition_handoff/partitionhandoff/DeliveryWindow$Delivery" "acknowledged" "Z" (.int ak)) (F_d_takenBack : Fld Z h0 d "com/example/partition_handoff/partitionhandoff/DeliveryWindow$Delivery" "takenBack" "Z" (.int tb)) (n_d : n0 ≤ d) (ne_wn_q : wn ≠ q) (ne_wn_d : wn ≠ d) (ne_q_d : q ≠ d) :
    Con l (⟨"com/example/partition_handoff/partitionhandoff/DeliveryWindow", "deliver", "(Lcom/example/partition_handoff/partitionhandoff/DeliveryWindow$Delivery;)V"⟩ : MethodName) prog_8_method_8_code 2 none ({ frames := 2, cells := 0, slots := 0, locals := 29 } : Room) Z #[(.ref wn), (.ref d)] h0 n0 (fun o h => o = none ∧ Keep h0 h [wn, q, es] ∧ Fld Z h wn "com/example/partition_handoff/partitionhandoff/DeliveryWindow" "delivered" "Ljava/util/Deque;" (.ref q) ∧ Fld Z h wn "com/example/partition_handoff/partitionhandoff/DeliveryWindow" "unacknowledged" "I" (.int (1 : Int32)) ∧ Fld Z h wn "com/example/partition_handoff/partitionhandoff/DeliveryWindow" "lastHandledPosition" "J" (.long lp) ∧ Fld Z h wn "com/example/partition_handoff/partitionhandoff/DeliveryWindow" "hasLastHandled" "Z" (.int hl) ∧ Fld Z h wn "com/example/partition_handoff/partitionhandoff/DeliveryWindow" "handled" "J" (.long hc) ∧ Fld Z h q "java/util/ArrayDeque" "elements" "[Ljava/lang/Object;" (.ref es) ∧ Fld Z h q "java/util/ArrayDeque" "head" "I" (.int (0 : Int32)) ∧ Fld Z h q "java/util/ArrayDeque" "tail" "I" (.int (1 : Int32)) ∧ Arf Z h es kE (.object "java/lang/Object") 17 (fun k => if k = 0 then .ref d else .null)) := by
  refine Con.enter pl_dlv0 (fun mm => ef_dlv0 mm wn d) ?_
  intro K O C H
  have KK : Keep h0 h0 [wn, q, es] := Keep.refl h0 _
  have ne_es_wn : es ≠ wn := V_es.neX X_wn (hw _ (List.mem_of_getElem? (i := 1) rfl))
  have ne_es_q : es ≠ q := V_es.neX X_q (hw _ (List.mem_of_getElem? (i := 10) rfl))
  have ne_es_d : es ≠ d := V_es.neX X_d (hw _ (List.mem_of_getElem? (i := 31) rfl))
  replace H := k_aloadN C H ddlv0_0 rfl rfl (pc' := 1) rfl
  replace H := k_getFld C H (hw _ (List.mem_of_getElem? (i := 26) rfl)) F_wn_delivered ddlv0_1 (pc' := 4) rfl
  replace H := k_aloadN C H ddlv0_4 rfl rfl (pc' := 5) rfl
  replace H := k_callInt C H (rmadl0 l Z a0 hw q d h0 n0 es kE _ _ _ X_q F_q_elements F_q_head F_q_tail n_q V_es O_es n_es X_d F_d_position F_d_acknowledged F_d_takenBack n_d ne_q_d) X_q (hw _ (List.mem_of_getElem? (i := 58) rfl)) (hw _ (List.mem_of_getElem? (i := 59) rfl)) (hw _ (List.mem_of_getElem? (i := 60) rfl)) rfl (hw _ (List.mem_of_getElem? (i := 61) rfl)) (hw _ (List.mem_of_getElem? (i := 62) rfl)) (hw _ (List.mem_of_getElem? (i := 63) rfl)) (hw _ (List.mem_of_getElem? (i := 64) rfl)) (hw _ (List.mem_of_getElem? (i := 65) rfl)) (hw _ (List.mem_of_getElem? (i := 11) rfl)) (hw _ (List.mem_of_getElem? (i := 66) rfl)) (by decide) ddlv0_5 rfl [(.ref d)] [] pddlv0_0 rfl rfl rfl 0 rfl (by decide) (by decide) (by decide) (by decide) (pc' := 10) rfl
  obtain ⟨_, j6, ⟨rfl, K_j6, F_q_elements', F_q_head', F_q_tail', V_es'⟩, H⟩ := H
  replace H : K 10 #[.val (.ref wn), .val (.ref d)] [] j6 0 0 := H
  replace X_wn := X_wn.keep K_j6
  replace F_wn_delivered := F_wn_delivered.keep K_j6 (ninS ne_wn_q (ninS (Ne.symm ne_es_wn) nin0))
  replace F_wn_unacknowledged := F_wn_unacknowledged.keep K_j6 (ninS ne_wn_q (ninS (Ne.symm ne_es_wn) nin0))
  replace F_wn_lastHandledPosition := F_wn_lastHandledPosition.keep K_j6 (ninS ne_wn_q (ninS (Ne.symm ne_es_wn) nin0))
  replace F_wn_hasLastHandled := F_wn_hasLastHandled.keep K_j6 (ninS ne_wn_q (ninS (Ne.symm ne_es_wn) nin0))
  replace F_wn_handled := F_wn_handled.keep K_j6 (ninS ne_wn_q (ninS (Ne.symm ne_es_wn) nin0))
  replace X_q := X_q.keep K_j6
  replace X_d := X_d.keep K_j6
  replace F_d_position := F_d_position.keep K_j6 (ninS (Ne.symm ne_q_d) (ninS (Ne.symm ne_es_d) nin0))
  replace F_d_acknowledged := F_d_acknowledged.keep K_j6 (ninS (Ne.symm ne_q_d) (ninS (Ne.symm ne_es_d) nin0))
  replace F_d_takenBack := F_d_takenBack.keep K_j6 (ninS (Ne.symm ne_q_d) (ninS (Ne.symm ne_es_d) nin0))
  replace KK := KK.trans K_j6 (allS (Or.inl (List.mem_of_getElem? (i := 1) rfl)) (allS (Or.inl (List.mem_of_getElem? (i := 2) rfl)) all0))
  replace F_q_elements := F_q_elements'
  clear F_q_elements'
  replace F_q_head := F_q_head'
  clear F_q_head'
  replace F_q_tail := F_q_tail'
  clear F_q_tail'
  replace V_es := V_es'
  clear V_es'
  replace H := k_aloadN C H ddlv0_10 rfl rfl (pc' := 11) rfl
  replace H := k_dup C H ddlv0_11 rfl (pc' := 12) rfl
  replace H := k_getFld C H (hw _ (List.mem_of_getElem? (i := 75) rfl)) F_wn_unacknowledged ddlv0_12 (pc' := 15) rfl
  replace H := k_iconst C H (v := 1) ddlv0_15 rfl (pc' := 16) rfl
  replace H := k_iadd C H ddlv0_16 (pc' := 17) rfl
  replace H : K 17 #[.val (.ref wn), .val (.ref d)] [(.int (1 : Int32)), (.ref wn)] j6 0 0 := H
  replace H := k_putFld C H (hw _ (List.mem_of_getElem? (i := 75) rfl)) F_wn_unacknowledged X_wn (Or.inl (hw _ (List.mem_of_getElem? (i := 76) rfl))) (hw _ (List.mem_of_getElem? (i := 1) rfl)) (ty := .int) (by decide) (v' := (.int (1 : Int32))) rfl rfl n_wn ddlv0_17 (pc' := 20) rfl
  obtain ⟨j7, W_j7, H⟩ := H
  replace X_wn := X_wn.wr W_j7
  replace F_wn_delivered := F_wn_delivered.other W_j7 (Or.inr (slot_ne (Or.inr (hw _ (List.mem_of_getElem? (i := 27) rfl))) (Or.inl (hw _ (List.mem_of_getElem? (i := 76) rfl))) (by decide) (t := (.object "java/util/Deque")) (t' := .int) (by decide) (by decide)))
  replace F_wn_unacknowledged := F_wn_unacknowledged.same W_j7
  replace F_wn_lastHandledPosition := F_wn_lastHandledPosition.other W_j7 (Or.inr (slot_ne (Or.inl (hw _ (List.mem_of_getElem? (i := 123) rfl))) (Or.inl (hw _ (List.mem_of_getElem? (i := 76) rfl))) (by decide) (t := .long) (t' := .int) (by decide) (by decide)))
  replace F_wn_hasLastHandled := F_wn_hasLastHandled.other W_j7 (Or.inr (slot_ne (Or.inl (hw _ (List.mem_of_getElem? (i := 125) rfl))) (Or.inl (hw _ (List.mem_of_getElem? (i := 76) rfl))) (by decide) (t := .boolean) (t' := .int) (by decide) (by decide)))
  replace F_wn_handled := F_wn_handled.other W_j7 (Or.inr (slot_ne (Or.inl (hw _ (List.mem_of_getElem? (i := 127) rfl))) (Or.inl (hw _ (List.mem_of_getElem? (i := 76) rfl))) (by decide) (t := .long) (t' := .int) (by decide) (by decide)))
  replace X_q := X_q.wr W_j7
  replace X_d := X_d.wr W_j7
  replace F_d_position := F_d_position.other W_j7 (Or.inl (Ne.symm ne_wn_d))
  replace F_d_acknowledged := F_d_acknowledged.other W_j7 (Or.inl (Ne.symm ne_wn_d))
  replace F_d_takenBack := F_d_takenBack.other W_j7 (Or.inl (Ne.symm ne_wn_d))
  replace F_q_elements := F_q_elements.other W_j7 (Or.inl (Ne.symm ne_wn_q))
  replace F_q_head := F_q_head.other W_j7 (Or.inl (Ne.symm ne_wn_q))
  replace F_q_tail := F_q_tail.other W_j7 (Or.inl (Ne.symm ne_wn_q))
  replace V_es := V_es.other W_j7 ne_es_wn
  replace KK := KK.wr W_j7 (Or.inl (List.mem_of_getElem? (i := 0) rfl))
  exact k_retV C H ddlv0_20 (by decide) (by decide) ⟨rfl, KK, F_wn_delivered, F_wn_unacknowledged, F_wn_lastHandledPosition, F_wn_hasLastHandled, F_wn_handled, F_q_elements, F_q_head, F_q_tail, V_es⟩
theorem dack0_0 : decode prog_8_method_9_code 0 = .ok (.aload_n 1, 1) := by decide +kernel
theorem dack0_1 : decode prog_8_method_9_code 1 = .ok (.invokevirtual 73, 3) := by decide +kernel
theorem dack0_4 : decode prog_8_method_9_code 4 = .ok (.ifCond .ne 5, 3) := by decide +kernel
theorem dack0_9 : decode prog_8_method_9_code 9 = .ok (.aload_n 1, 1) := by decide +kernel
theorem dack0_10 : decode prog_8_method_9_code 10 = .ok (.iconst 1, 1) := by decide +kernel
theorem dack0_11 : decode prog_8_method_9_code 11 = .ok (.putfield 76, 3) := by decide +kernel
theorem dack0_14 : decode prog_8_method_9_code 14 = .ok (.aload_n 0, 1) := by decide +kernel
theorem dack0_15 : decode prog_8_method_9_code 15 = .ok (.dup, 1) := by decide +kernel
theorem dack0_16 : decode prog_8_method_9_code 16 = .ok (.getfield 66, 3) := by decide +kernel
theorem dack0_19 : decode prog_8_method_9_code 19 = .ok (.iconst 1, 1) := by decide +kernel
theorem dack0_20 : decode prog_8_method_9_code 20 = .ok (.isub, 1) := by decide +kernel
theorem dack0_21 : decode prog_8_method_9_code 21 = .ok (.putfield 66, 3) := by decide +kernel
theorem dack0_24 : decode prog_8_method_9_code 24 = .ok (.aload_n 0, 1) := by decide +kernel
theorem dack0_25 : decode prog_8_method_9_code 25 = .ok (.getfield 10, 3) := by decide +kernel
theorem dack0_28 : decode prog_8_method_9_code 28 = .ok (.invokeinterface 31 1, 5) := by decide +kernel
theorem dack0_33 : decode prog_8_method_9_code 33 = .ok (.ifCond .ne 58, 3) := by decide +kernel
theorem dack0_36 : decode prog_8_method_9_code 36 = .ok (.aload_n 0, 1) := by decide +kernel
theorem dack0_37 : decode prog_8_method_9_code 37 = .ok (.getfield 10, 3) := by decide +kernel
theorem dack0_40 : decode prog_8_method_9_code 40 = .ok (.invokeinterface 79 1, 5) := by decide +kernel
theorem dack0_45 : decode prog_8_method_9_code 45 = .ok (.checkcast 41, 3) := by decide +kernel
theorem dack0_48 : decode prog_8_method_9_code 48 = .ok (.getfield 76, 3) := by decide +kernel
theorem dack0_51 : decode prog_8_method_9_code 51 = .ok (.ifCond .eq 40, 3) := by decide +kernel
theorem dack0_54 : decode prog_8_method_9_code 54 = .ok (.aload_n 0, 1) := by decide +kernel
theorem dack0_55 : decode prog_8_method_9_code 55 = .ok (.aload_n 0, 1) := by decide +kernel
theorem dack0_56 : decode prog_8_method_9_code 56 = .ok (.getfield 10, 3) := by decide +kernel
theorem dack0_59 : decode prog_8_method_9_code 59 = .ok (.invokeinterface 82 1, 5) := by decide +kernel
theorem dack0_64 : decode prog_8_method_9_code 64 = .ok (.checkcast 41, 3) := by decide +kernel
theorem dack0_67 : decode prog_8_method_9_code 67 = .ok (.getfield 43, 3) := by decide +kernel
theorem dack0_70 : decode prog_8_method_9_code 70 = .ok (.putfield 20, 3) := by decide +kernel
theorem dack0_73 : decode prog_8_method_9_code 73 = .ok (.aload_n 0, 1) := by decide +kernel
theorem dack0_74 : decode prog_8_method_9_code 74 = .ok (.iconst 1, 1) := by decide +kernel
theorem dack0_75 : decode prog_8_method_9_code 75 = .ok (.putfield 24, 3) := by decide +kernel
theorem dack0_78 : decode prog_8_method_9_code 78 = .ok (.aload_n 0, 1) := by decide +kernel
theorem dack0_79 : decode prog_8_method_9_code 79 = .ok (.dup, 1) := by decide +kernel
theorem dack0_80 : decode prog_8_method_9_code 80 = .ok (.getfield 28, 3) := by decide +kernel
theorem dack0_83 : decode prog_8_method_9_code 83 = .ok (.lconst 1, 1) := by decide +kernel
theorem dack0_84 : decode prog_8_method_9_code 84 = .ok (.ladd, 1) := by decide +kernel
theorem dack0_85 : decode prog_8_method_9_code 85 = .ok (.putfield 28, 3) := by decide +kernel
theorem dack0_88 : decode prog_8_method_9_code 88 = .ok (.goto (-64), 3) := by decide +kernel
theorem dack0_91 : decode prog_8_method_9_code 91 = .ok (.iconst 1, 1) := by decide +kernel
theorem dack0_92 : decode prog_8_method_9_code 92 = .ok (.ireturn, 1) := by decide +kernel
theorem pdack0_0 : parseMethodDescriptor "()Z" = some ⟨[], some .boolean⟩ := by decide +kernel
theorem pdack0_1 : parseMethodDescriptor "()Ljava/lang/Object;" = some ⟨[], some (.object "java/lang/Object")⟩ := by decide +kernel
theorem pl_ack0 : plainFor (⟨"com/example/partition_handoff/partitionhandoff/DeliveryWindow", "acknowledge", "(Lcom/example/partition_handoff/partitionhandoff/DeliveryWindow$Delivery;)Z"⟩ : MethodName) = true := plainFor_of_name (by first | (simp [plainName, overriddenIn]; done) | decide +kernel)
theorem ef_ack0 (mm : MethodId) (wn : Addr) (d : Addr) : entryFrame mm #[(.ref wn), (.ref d)] 2 = mkF mm 0 #[.val (.ref wn), .val (.ref d)] [] := by first | (simp [entryFrame, mkF, argsToLocals, Value.category]; done) | rfl
set_option maxRecDepth 65536 in
set_option maxHeartbeats 40000000 in
theorem rmack0 (l : Launch) (Z : State) (a0 : Array Value) (hw : ∀ d ∈ tables_1, d.before a0 Z = true) (wn : Addr) (d : Addr) (h0 : Heap) (n0 : Nat) (q : Addr) (es : Addr) (kE : ClassId) (lp : Int64) (hl : Int32) (ps : Int64) (X_wn : Exa Z h0 wn "com/example/partition_handoff/partitionhandoff/DeliveryWindow") (F_wn_delivered : Fld Z h0 wn "com/example/partition_handoff/partitionhandoff/DeliveryWindow" "delivered" "Ljava/util/Deque;" (.ref q)) (F_wn_unacknowledged : Fld Z h0 wn "com/example/partition_handoff/partitionhandoff/DeliveryWindow" "unacknowledged" "I" (.int (1 : Int32))) (F_wn_lastHandledPosition : Fld Z h0 wn "com/example/partition_handoff/partitionhandoff/DeliveryWindow" "lastHandledPosition" "J" (.long lp)) (F_wn_hasLastHandled : Fld Z h0 wn "com/example/partition_handoff/partitionhandoff/DeliveryWindow" "hasLastHandled" "Z" (.int hl)) (F_wn_handled : Fld Z h0 wn "com/example/partition_handoff/partitionhandoff/DeliveryWindow" "handled" "J" (.long (0 : Int64))) (n_wn : n0 ≤ wn) (X_q : Exa Z h0 q "java/util/ArrayDeque") (F_q_elements : Fld Z h0 q "java/util/ArrayDeque" "elements" "[Ljava/lang/Object;" (.ref es)) (F_q_head : Fld Z h0 q "java/util/ArrayDeque" "head" "I" (.int (0 : Int32))) (F_q_tail : Fld Z h0 q "java/util/ArrayDeque" "tail" "I" (.int (1 : Int32))) (n_q : n0 ≤ q) (V_es : Arf Z h0 es kE (.object "java/lang/Object") 17 (fun k => if k = 0 then .ref d else .null)) (O_es : Ovr Z kE "java/lang/Object") (n_es : n0 ≤ es) (X_d : Exa Z h0 d "com/example/partition_handoff/partitionhandoff/DeliveryWindow$Delivery") (F_d_position : Fld Z h0 d "com/example/partition_handoff/partitionhandoff/DeliveryWindow$Delivery" "position" "J" (.long ps)) (F_d_acknowledged : Fld Z h0 d "com/example/partition_handoff/partitionhandoff/DeliveryWindow$Delivery" "acknowledged" "Z" (.int (0 : Int32))) (F_d_takenBack : Fld Z h0 d "com/example/partition_handoff/partitionhandoff/DeliveryWindow$Delivery" "takenBack" "Z" (.int (0 : Int32))) (n_d : n0 ≤ d) (ne_wn_q : wn ≠ q) (ne_wn_d : wn ≠ d) (ne_q_d : q ≠ d) :
    Con l (⟨"com/example/partition_handoff/partitionhandoff/DeliveryWindow", "acknowledge", "(Lcom/example/partition_handoff/partitionhandoff/DeliveryWindow$Delivery;)Z"⟩ : MethodName) prog_8_method_9_code 2 (some .boolean) ({ frames := 3, cells := 0, slots := 0, locals := 43 } : Room) Z #[(.ref wn), (.ref d)] h0 n0 (fun o h => o = some (.int 1) ∧ Keep h0 h [wn, q, es, d] ∧ Fld Z h wn "com/example/partition_handoff/partitionhandoff/DeliveryWindow" "delivered" "Ljava/util/Deque;" (.ref q) ∧ Fld Z h wn "com/example/partition_handoff/partitionhandoff/DeliveryWindow" "unacknowledged" "I" (.int (0 : Int32)) ∧ Fld Z h wn "com/example/partition_handoff/partitionhandoff/DeliveryWindow" "lastHandledPosition" "J" (.long ps) ∧ Fld Z h wn "com/example/partition_handoff/partitionhandoff/DeliveryWindow" "hasLastHandled" "Z" (.int (1 : Int32)) ∧ Fld Z h wn "com/example/partition_handoff/partitionhandoff/DeliveryWindow" "handled" "J" (.long (1 : Int64)) ∧ Fld Z h q "java/util/ArrayDeque" "elements" "[Ljava/lang/Object;" (.ref es) ∧ Fld Z h q "java/util/ArrayDeque" "head" "I" (.int (1 : Int32)) ∧ Fld Z h q "java/util/ArrayDeque" "tail" "I" (.int (1 : Int32)) ∧ Arf Z h es kE (.object "java/lang/Object") 17 (fun _ => .null) ∧ Fld Z h d "com/example/partition_handoff/partitionhandoff/DeliveryWindow$Delivery" "position" "J" (.long ps) ∧ Fld Z h d "com/example/partition_handoff/partitionhandoff/DeliveryWindow$Delivery" "acknowledged" "Z" (.int (1 : Int32)) ∧ Fld Z h d "com/example/partition_handoff/partitionhandoff/DeliveryWindow$Delivery" "takenBack" "Z" (.int (0 : Int32))) := by
  refine Con.enter pl_ack0 (fun mm => ef_ack0 mm wn d) ?_
  intro K O C H
  have KK : Keep h0 h0 [wn, q, es, d] := Keep.refl h0 _
  have ne_es_wn : es ≠ wn := V_es.neX X_wn (hw _ (List.mem_of_getElem? (i := 1) rfl))
  have ne_es_q : es ≠ q := V_es.neX X_q (hw _ (List.mem_of_getElem? (i := 10) rfl))
  have ne_es_d : es ≠ d := V_es.neX X_d (hw _ (List.mem_of_getElem? (i := 31) rfl))
  replace H := k_aloadN C H dack0_0 rfl rfl (pc' := 1) rfl
  replace H := k_callPriR C H (rmuna l Z a0 hw d h0 n0 _ _ F_d_acknowledged F_d_takenBack) X_d (hw _ (List.mem_of_getElem? (i := 82) rfl)) (hw _ (List.mem_of_getElem? (i := 83) rfl)) (hw _ (List.mem_of_getElem? (i := 31) rfl)) (hw _ (List.mem_of_getElem? (i := 84) rfl)) (hw _ (List.mem_of_getElem? (i := 32) rfl)) (hw _ (List.mem_of_getElem? (i := 85) rfl)) (by decide) dack0_1 rfl [] [] pdack0_0 rfl rfl rfl 0 rfl (by decide) (by decide) (by decide) (by decide) (pc' := 4) rfl
  obtain ⟨_, _, ⟨rfl, rfl⟩, H⟩ := H
  replace H : K 4 #[.val (.ref wn), .val (.ref d)] [(.int (own_una (0 : Int32) (0 : Int32)))] h0 0 0 := H
  have lk : (own_una (0 : Int32) (0 : Int32)) = (1 : Int32) := by decide
  rw [lk] at H
  clear lk
  replace H : K 4 #[.val (.ref wn), .val (.ref d)] [(.int (1 : Int32))] h0 0 0 := H
  replace H := k_ifcY C H dack0_4 (feq (by decide : ¬ ((1 : Int32) = (0 : Int32)))).2 (by decide) (pc' := 9) rfl
  replace H := k_aloadN C H dack0_9 rfl rfl (pc' := 10) rfl
  replace H := k_iconst C H (v := 1) dack0_10 rfl (pc' := 11) rfl
  replace H := k_putFldR C H (hw _ (List.mem_of_getElem? (i := 86) rfl)) F_d_acknowledged X_d (hw _ (List.mem_of_getElem? (i := 45) rfl)) (hw _ (List.mem_of_getElem? (i := 31) rfl)) (ty := .boolean) (by decide) rfl rfl n_d dack0_11 (pc' := 14) rfl
  obtain ⟨j8, W_j8, H⟩ := H
  replace X_wn := X_wn.wr W_j8
  replace F_wn_delivered := F_wn_delivered.other W_j8 (Or.inl ne_wn_d)
  replace F_wn_unacknowledged := F_wn_unacknowledged.other W_j8 (Or.inl ne_wn_d)
  replace F_wn_lastHandledPosition := F_wn_lastHandledPosition.other W_j8 (Or.inl ne_wn_d)
  replace F_wn_hasLastHandled := F_wn_hasLastHandled.other W_j8 (Or.inl ne_wn_d)
  replace F_wn_handled := F_wn_handled.other W_j8 (Or.inl ne_wn_d)
  replace X_q := X_q.wr W_j8
  replace F_q_elements := F_q_elements.other W_j8 (Or.inl ne_q_d)
  replace F_q_head := F_q_head.other W_j8 (Or.inl ne_q_d)
  replace F_q_tail := F_q_tail.other W_j8 (Or.inl ne_q_d)
  replace V_es := V_es.other W_j8 ne_es_d
  replace X_d := X_d.wr W_j8
  replace F_d_position := F_d_position.other W_j8 (Or.inr (slot_ne (Or.inl (hw _ (List.mem_of_getElem? (i := 38) rfl))) (Or.inl (hw _ (List.mem_of_getElem? (i := 45) rfl))) (by decide) (t := .long) (t' := .boolean) (by decide) (by decide)))
  replace F_d_acknowledged := F_d_acknowledged.same W_j8
  replace F_d_takenBack := F_d_takenBack.other W_j8 (Or.inr (slot_ne (Or.inl (hw _ (List.mem_of_getElem? (i := 47) rfl))) (Or.inl (hw _ (List.mem_of_getElem? (i := 45) rfl))) (by decide) (t := .boolean) (t' := .boolean) (by decide) (by decide)))
  replace KK := KK.wr W_j8 (Or.inl (List.mem_of_getElem? (i := 3) rfl))
  replace H := k_aloadN C H dack0_14 rfl rfl (pc' := 15) rfl
  replace H := k_dup C H dack0_15 rfl (pc' := 16) rfl
  replace H := k_getFld C H (hw _ (List.mem_of_getElem? (i := 75) rfl)) F_wn_unacknowledged dack0_16 (pc' := 19) rfl
  replace H := k_iconst C H (v := 1) dack0_19 rfl (pc' := 20) rfl
  replace H := k_isub C H dack0_20 (pc' := 21) rfl
  replace H : K 21 #[.val (.ref wn), .val (.ref d)] [(.int (0 : Int32)), (.ref wn)] j8 0 0 := H
  replace H := k_putFld C H (hw _ (List.mem_of_getElem? (i := 75) rfl)) F_wn_unacknowledged X_wn (Or.inl (hw _ (List.mem_of_getElem? (i := 76) rfl))) (hw _ (List.mem_of_getElem? (i := 1) rfl)) (ty := .int) (by decide) (v' := (.int (0 : Int32))) rfl rfl n_wn dack0_21 (pc' := 24) rfl
  obtain ⟨j9, W_j9, H⟩ := H
  replace X_wn := X_wn.wr W_j9
  replace F_wn_delivered := F_wn_delivered.other W_j9 (Or.inr (slot_ne (Or.inr (hw _ (List.mem_of_getElem? (i := 27) rfl))) (Or.inl (hw _ (List.mem_of_getElem? (i := 76) rfl))) (by decide) (t := (.object "java/util/Deque")) (t' := .int) (by decide) (by decide)))
  replace F_wn_unacknowledged := F_wn_unacknowledged.same W_j9
  replace F_wn_lastHandledPosition := F_wn_lastHandledPosition.other W_j9 (Or.inr (slot_ne (Or.inl (hw _ (List.mem_of_getElem? (i := 123) rfl))) (Or.inl (hw _ (List.mem_of_getElem? (i := 76) rfl))) (by decide) (t := .long) (t' := .int) (by decide) (by decide)))
  replace F_wn_hasLastHandled := F_wn_hasLastHandled.other W_j9 (Or.inr (slot_ne (Or.inl (hw _ (List.mem_of_getElem? (i := 125) rfl))) (Or.inl (hw _ (List.mem_of_getElem? (i := 76) rfl))) (by decide) (t := .boolean) (t' := .int) (by decide) (by decide)))
  replace F_wn_handled := F_wn_handled.other W_j9 (Or.inr (slot_ne (Or.inl (hw _ (List.mem_of_getElem? (i := 127) rfl))) (Or.inl (hw _ (List.mem_of_getElem? (i := 76) rfl))) (by decide) (t := .long) (t' := .int) (by decide) (by decide)))
  replace X_q := X_q.wr W_j9
  replace F_q_elements := F_q_elements.other W_j9 (Or.inl (Ne.symm ne_wn_q))
  replace F_q_head := F_q_head.other W_j9 (Or.inl (Ne.symm ne_wn_q))
  replace F_q_tail := F_q_tail.other W_j9 (Or.inl (Ne.symm ne_wn_q))
  replace V_es := V_es.other W_j9 ne_es_wn
  replace X_d := X_d.wr W_j9
  replace F_d_position := F_d_position.other W_j9 (Or.inl (Ne.symm ne_wn_d))
  replace F_d_acknowledged := F_d_acknowledged.other W_j9 (Or.inl (Ne.symm ne_wn_d))
  replace F_d_takenBack := F_d_takenBack.other W_j9 (Or.inl (Ne.symm ne_wn_d))
  replace KK := KK.wr W_j9 (Or.inl (List.mem_of_getElem? (i := 0) rfl))
  replace H := k_aloadN C H dack0_24 rfl rfl (pc' := 25) rfl
  replace H := k_getFld C H (hw _ (List.mem_of_getElem? (i := 26) rfl)) F_wn_delivered dack0_25 (pc' := 28) rfl
  replace H := k_callIntUp C H (rmemp l Z a0 hw q j9 n0 _ _ F_q_head F_q_tail) X_q (hw _ (List.mem_of_getElem? (i := 87) rfl)) (hw _ (List.mem_of_getElem? (i := 88) rfl)) (hw _ (List.mem_of_getElem? (i := 89) rfl)) (hw _ (List.mem_of_getElem? (i := 90) rfl)) (hw _ (List.mem_of_getElem? (i := 91) rfl)) (hw _ (List.mem_of_getElem? (i := 92) rfl)) (hw _ (List.mem_of_getElem? (i := 93) rfl)) (hw _ (List.mem_of_getElem? (i := 65) rfl)) (hw _ (List.mem_of_getElem? (i := 11) rfl)) (hw _ (List.mem_of_getElem? (i := 94) rfl)) (by decide) (by decide) (by decide) dack0_28 rfl [] [] pdack0_0 rfl rfl rfl 0 rfl (by decide) (by decide) (by decide) (by decide) (pc' := 33) rfl
  obtain ⟨_, _, ⟨rfl, rfl⟩, H⟩ := H
  replace H : K 33 #[.val (.ref wn), .val (.ref d)] [(.int (own_emp (0 : Int32) (1 : Int32)))] j9 0 0 := H
  have lk : (own_emp (0 : Int32) (1 : Int32)) = (0 : Int32) := by decide
  rw [lk] at H
  clear lk
  replace H : K 33 #[.val (.ref wn), .val (.ref d)] [(.int (0 : Int32))] j9 0 0 := H
  replace H := k_ifcN C H dack0_33 (teq (by decide : (0 : Int32) = (0 : Int32))).2 (pc' := 36) rfl
  replace H := k_aloadN C H dack0_36 rfl rfl (pc' := 37) rfl
  replace H := k_getFld C H (hw _ (List.mem_of_getElem? (i := 26) rfl)) F_wn_delivered dack0_37 (pc' := 40) rfl
  replace H := k_callInt C H (rmgef0 l Z a0 hw q j9 n0 es kE d X_q F_q_elements F_q_head F_q_tail n_q V_es O_es n_es) X_q (hw _ (List.mem_of_getElem? (i := 95) rfl)) (hw _ (List.mem_of_getElem? (i := 96) rfl)) (hw _ (List.mem_of_getElem? (i := 97) rfl)) rfl (hw _ (List.mem_of_getElem? (i := 98) rfl)) (hw _ (List.mem_of_getElem? (i := 99) rfl)) (hw _ (List.mem_of_getElem? (i := 100) rfl)) (hw _ (List.mem_of_getElem? (i := 101) rfl)) (hw _ (List.mem_of_getElem? (i := 65) rfl)) (hw _ (List.mem_of_getElem? (i := 11) rfl)) (hw _ (List.mem_of_getElem? (i := 102) rfl)) (by decide) dack0_40 rfl [] [] pdack0_1 rfl rfl rfl 0 rfl (by decide) (by decide) (by decide) (by decide) (pc' := 45) rfl
  obtain ⟨_, _, ⟨rfl, rfl⟩, H⟩ := H
  replace H : K 45 #[.val (.ref wn), .val (.ref d)] [(.ref d)] j9 0 0 := H
  replace H := k_castYes C H (hw _ (List.mem_of_getElem? (i := 106) rfl)) (Ins.self X_d) dack0_45 (pc' := 48) rfl
  replace H := k_getFldR C H (hw _ (List.mem_of_getElem? (i := 86) rfl)) F_d_acknowledged dack0_48 (pc' := 51) rfl
  replace H := k_ifcN C H dack0_51 (feq (by decide : ¬ ((1 : Int32) = (0 : Int32)))).1 (pc' := 54) rfl
  replace H := k_aloadN C H dack0_54 rfl rfl (pc' := 55) rfl
  replace H := k_aloadN C H dack0_55 rfl rfl (pc' := 56) rfl
  replace H := k_getFld C H (hw _ (List.mem_of_getElem? (i := 26) rfl)) F_wn_delivered dack0_56 (pc' := 59) rfl
  replace H := k_callInt C H (rmrmf0 l Z a0 hw q j9 n0 es kE d X_q F_q_elements F_q_head F_q_tail n_q V_es O_es n_es) X_q (hw _ (List.mem_of_getElem? (i := 108) rfl)) (hw _ (List.mem_of_getElem? (i := 109) rfl)) (hw _ (List.mem_of_getElem? (i := 110) rfl)) rfl (hw _ (List.mem_of_getElem? (i := 111) rfl)) (hw _ (List.mem_of_getElem? (i := 112) rfl)) (hw _ (List.mem_of_getElem? (i := 113) rfl)) (hw _ (List.mem_of_getElem? (i := 114) rfl)) (hw _ (List.mem_of_getElem? (i := 65) rfl)) (hw _ (List.mem_of_getElem? (i := 11) rfl)) (hw _ (List.mem_of_getElem? (i := 115) rfl)) (by decide) dack0_59 rfl [] [(.ref wn)] pdack0_1 rfl rfl rfl 1 rfl (by decide) (by decide) (by decide) (by decide) (pc' := 64) rfl
  obtain ⟨_, j10, ⟨rfl, K_j10, F_q_elements', F_q_head', F_q_tail', V_es'⟩, H⟩ := H
  replace H : K 64 #[.val (.ref wn), .val (.ref d)] [(.ref d), (.ref wn)] j10 0 0 := H
  replace X_wn := X_wn.keep K_j10
  replace F_wn_delivered := F_wn_delivered.keep K_j10 (ninS ne_wn_q (ninS (Ne.symm ne_es_wn) nin0))
  replace F_wn_unacknowledged := F_wn_unacknowledged.keep K_j10 (ninS ne_wn_q (ninS (Ne.symm ne_es_wn) nin0))
  replace F_wn_lastHandledPosition := F_wn_lastHandledPosition.keep K_j10 (ninS ne_wn_q (ninS (Ne.symm ne_es_wn) nin0))
  replace F_wn_hasLastHandled := F_wn_hasLastHandled.keep K_j10 (ninS ne_wn_q (ninS (Ne.symm ne_es_wn) nin0))
  replace F_wn_handled := F_wn_handled.keep K_j10 (ninS ne_wn_q (ninS (Ne.symm ne_es_wn) nin0))
  replace X_q := X_q.keep K_j10
  replace X_d := X_d.keep K_j10
  replace F_d_position := F_d_position.keep K_j10 (ninS (Ne.symm ne_q_d) (ninS (Ne.symm ne_es_d) nin0))
  replace F_d_acknowledged := F_d_acknowledged.keep K_j10 (ninS (Ne.symm ne_q_d) (ninS (Ne.symm ne_es_d) nin0))
  replace F_d_takenBack := F_d_takenBack.keep K_j10 (ninS (Ne.symm ne_q_d) (ninS (Ne.symm ne_es_d) nin0))
  replace KK := KK.trans K_j10 (allS (Or.inl (List.mem_of_getElem? (i := 1) rfl)) (allS (Or.inl (List.mem_of_getElem? (i := 2) rfl)) all0))
  replace F_q_elements := F_q_elements'
  clear F_q_elements'
  replace F_q_head := F_q_head'
  clear F_q_head'
  replace F_q_tail := F_q_tail'
  clear F_q_tail'
  replace V_es := V_es'
  clear V_es'
  replace H := k_castYes C H (hw _ (List.mem_of_getElem? (i := 106) rfl)) (Ins.self X_d) dack0_64 (pc' := 67) rfl
  replace H := k_getFldR C H (hw _ (List.mem_of_getElem? (i := 121) rfl)) F_d_position dack0_67 (pc' := 70) rfl
  replace H := k_putFld C H (hw _ (List.mem_of_getElem? (i := 122) rfl)) F_wn_lastHandledPosition X_wn (Or.inl (hw _ (List.mem_of_getElem? (i := 123) rfl))) (hw _ (List.mem_of_getElem? (i := 1) rfl)) (ty := .long) (by decide) (v' := (.long ps)) rfl rfl n_wn dack0_70 (pc' := 73) rfl
  obtain ⟨j11, W_j11, H⟩ := H
  replace X_wn := X_wn.wr W_j11
  replace F_wn_delivered := F_wn_delivered.other W_j11 (Or.inr (slot_ne (Or.inr (hw _ (List.mem_of_getElem? (i := 27) rfl))) (Or.inl (hw _ (List.mem_of_getElem? (i := 123) rfl))) (by decide) (t := (.object "java/util/Deque")) (t' := .long) (by decide) (by decide)))
  replace F_wn_unacknowledged := F_wn_unacknowledged.other W_j11 (Or.inr (slot_ne (Or.inl (hw _ (List.mem_of_getElem? (i := 76) rfl))) (Or.inl (hw _ (List.mem_of_getElem? (i := 123) rfl))) (by decide) (t := .int) (t' := .long) (by decide) (by decide)))
  replace F_wn_lastHandledPosition := F_wn_lastHandledPosition.same W_j11
  replace F_wn_hasLastHandled := F_wn_hasLastHandled.other W_j11 (Or.inr (slot_ne (Or.inl (hw _ (List.mem_of_getElem? (i := 125) rfl))) (Or.inl (hw _ (List.mem_of_getElem? (i := 123) rfl))) (by decide) (t := .boolean) (t' := .long) (by decide) (by decide)))
  replace F_wn_handled := F_wn_handled.other W_j11 (Or.inr (slot_ne (Or.inl (hw _ (List.mem_of_getElem? (i := 127) rfl))) (Or.inl (hw _ (List.mem_of_getElem? (i := 123) rfl))) (by decide) (t := .long) (t' := .long) (by decide) (by decide)))
  replace X_q := X_q.wr W_j11
  replace X_d := X_d.wr W_j11
  replace F_d_position := F_d_position.other W_j11 (Or.inl (Ne.symm ne_wn_d))
  replace F_d_acknowledged := F_d_acknowledged.other W_j11 (Or.inl (Ne.symm ne_wn_d))
  replace F_d_takenBack := F_d_takenBack.other W_j11 (Or.inl (Ne.symm ne_wn_d))
  replace F_q_elements := F_q_elements.other W_j11 (Or.inl (Ne.symm ne_wn_q))
  replace F_q_head := F_q_head.other W_j11 (Or.inl (Ne.symm ne_wn_q))
  replace F_q_tail := F_q_tail.other W_j11 (Or.inl (Ne.symm ne_wn_q))
  replace V_es := V_es.other W_j11 ne_es_wn
  replace KK := KK.wr W_j11 (Or.inl (List.mem_of_getElem? (i := 0) rfl))
  replace H := k_aloadN C H dack0_73 rfl rfl (pc' := 74) rfl
  replace H := k_iconst C H (v := 1) dack0_74 rfl (pc' := 75) rfl
  replace H := k_putFld C H (hw _ (List.mem_of_getElem? (i := 124) rfl)) F_wn_hasLastHandled X_wn (Or.inl (hw _ (List.mem_of_getElem? (i := 125) rfl))) (hw _ (List.mem_of_getElem? (i := 1) rfl)) (ty := .boolean) (by decide) (v' := (.int (1 : Int32))) rfl rfl n_wn dack0_75 (pc' := 78) rfl
  obtain ⟨j12, W_j12, H⟩ := H
  replace X_wn := X_wn.wr W_j12
  replace F_wn_delivered := F_wn_delivered.other W_j12 (Or.inr (slot_ne (Or.inr (hw _ (List.mem_of_getElem? (i := 27) rfl))) (Or.inl (hw _ (List.mem_of_getElem? (i := 125) rfl))) (by decide) (t := (.object "java/util/Deque")) (t' := .boolean) (by decide) (by decide)))
  replace F_wn_unacknowledged := F_wn_unacknowledged.other W_j12 (Or.inr (slot_ne (Or.inl (hw _ (List.mem_of_getElem? (i := 76) rfl))) (Or.inl (hw _ (List.mem_of_getElem? (i := 125) rfl))) (by decide) (t := .int) (t' := .boolean) (by decide) (by decide)))
  replace F_wn_lastHandledPosition := F_wn_lastHandledPosition.other W_j12 (Or.inr (slot_ne (Or.inl (hw _ (List.mem_of_getElem? (i := 123) rfl))) (Or.inl (hw _ (List.mem_of_getElem? (i := 125) rfl))) (by decide) (t := .long) (t' := .boolean) (by decide) (by decide)))
  replace F_wn_hasLastHandled := F_wn_hasLastHandled.same W_j12
  replace F_wn_handled := F_wn_handled.other W_j12 (Or.inr (slot_ne (Or.inl (hw _ (List.mem_of_getElem? (i := 127) rfl))) (Or.inl (hw _ (List.mem_of_getElem? (i := 125) rfl))) (by decide) (t := .long) (t' := .boolean) (by decide) (by decide)))
  replace X_q := X_q.wr W_j12
  replace X_d := X_d.wr W_j12
  replace F_d_position := F_d_position.other W_j12 (Or.inl (Ne.symm ne_wn_d))
  replace F_d_acknowledged := F_d_acknowledged.other W_j12 (Or.inl (Ne.symm ne_wn_d))
  replace F_d_takenBack := F_d_takenBack.other W_j12 (Or.inl (Ne.symm ne_wn_d))
  replace F_q_elements := F_q_elements.other W_j12 (Or.inl (Ne.symm ne_wn_q))
  replace F_q_head := F_q_head.other W_j12 (Or.inl (Ne.symm ne_wn_q))
  replace F_q_tail := F_q_tail.other W_j12 (Or.inl (Ne.symm ne_wn_q))
  replace V_es := V_es.other W_j12 ne_es_wn
  replace KK := KK.wr W_j12 (Or.inl (List.mem_of_getElem? (i := 0) rfl))
  replace H := k_aloadN C H dack0_78 rfl rfl (pc' := 79) rfl
  replace H := k_dup C H dack0_79 rfl (pc' := 80) rfl
  replace H := k_getFld C H (hw _ (List.mem_of_getElem? (i := 126) rfl)) F_wn_handled dack0_80 (pc' := 83) rfl
  replace H := k_lconst C H (v := 1) dack0_83 rfl (pc' := 84) rfl
  replace H := k_ladd C H dack0_84 (pc' := 85) rfl
  replace H : K 85 #[.val (.ref wn), .val (.ref d)] [(.long (1 : Int64)), (.ref wn)] j12 0 0 := H
  replace H := k_putFld C H (hw _ (List.mem_of_getElem? (i := 126) rfl)) F_wn_handled X_wn (Or.inl (hw _ (List.mem_of_getElem? (i := 127) rfl))) (hw _ (List.mem_of_getElem? (i := 1) rfl)) (ty := .long) (by decide) (v' := (.long (1 : Int64))) rfl rfl n_wn dack0_85 (pc' := 88) rfl
  obtain ⟨j13, W_j13, H⟩ := H
  replace X_wn := X_wn.wr W_j13
  replace F_wn_delivered := F_wn_delivered.other W_j13 (Or.inr (slot_ne (Or.inr (hw _ (List.mem_of_getElem? (i := 27) rfl))) (Or.inl (hw _ (List.mem_of_getElem? (i := 127) rfl))) (by decide) (t := (.object "java/util/Deque")) (t' := .long) (by decide) (by decide)))
  replace F_wn_unacknowledged := F_wn_unacknowledged.other W_j13 (Or.inr (slot_ne (Or.inl (hw _ (List.mem_of_getElem? (i := 76) rfl))) (Or.inl (hw _ (List.mem_of_getElem? (i := 127) rfl))) (by decide) (t := .int) (t' := .long) (by decide) (by decide)))
  replace F_wn_lastHandledPosition := F_wn_lastHandledPosition.other W_j13 (Or.inr (slot_ne (Or.inl (hw _ (List.mem_of_getElem? (i := 123) rfl))) (Or.inl (hw _ (List.mem_of_getElem? (i := 127) rfl))) (by decide) (t := .long) (t' := .long) (by decide) (by decide)))
  replace F_wn_hasLastHandled := F_wn_hasLastHandled.other W_j13 (Or.inr (slot_ne (Or.inl (hw _ (List.mem_of_getElem? (i := 125) rfl))) (Or.inl (hw _ (List.mem_of_getElem? (i := 127) rfl))) (by decide) (t := .boolean) (t' := .long) (by decide) (by decide)))
  replace F_wn_handled := F_wn_handled.same W_j13
  replace X_q := X_q.wr W_j13
  replace X_d := X_d.wr W_j13
  replace F_d_position := F_d_position.other W_j13 (Or.inl (Ne.symm ne_wn_d))
  replace F_d_acknowledged := F_d_acknowledged.other W_j13 (Or.inl (Ne.symm ne_wn_d))
  replace F_d_takenBack := F_d_takenBack.other W_j13 (Or.inl (Ne.symm ne_wn_d))
  replace F_q_elements := F_q_elements.other W_j13 (Or.inl (Ne.symm ne_wn_q))
  replace F_q_head := F_q_head.other W_j13 (Or.inl (Ne.symm ne_wn_q))
  replace F_q_tail := F_q_tail.other W_j13 (Or.inl (Ne.symm ne_wn_q))
  replace V_es := V_es.other W_j13 ne_es_wn
  replace KK := KK.wr W_j13 (Or.inl (List.mem_of_getElem? (i := 0) rfl))
  replace H := k_goto C H dack0_88 (by decide) (pc' := 24) rfl
  replace H := k_aloadN C H dack0_24 rfl rfl (pc' := 25) rfl
  replace H := k_getFld C H (hw _ (List.mem_of_getElem? (i := 26) rfl)) F_wn_delivered dack0_25 (pc' := 28) rfl
  replace H := k_callIntUp C H (rmemp l Z a0 hw q j13 n0 _ _ F_q_head F_q_tail) X_q (hw _ (List.mem_of_getElem? (i := 87) rfl)) (hw _ (List.mem_of_getElem? (i := 88) rfl)) (hw _ (List.mem_of_getElem? (i := 89) rfl)) (hw _ (List.mem_of_getElem? (i := 90) rfl)) (hw _ (List.mem_of_getElem? (i := 91) rfl)) (hw _ (List.mem_of_getElem? (i := 92) rfl)) (hw _ (List.mem_of_getElem? (i := 93) rfl)) (hw _ (List.mem_of_getElem? (i := 65) rfl)) (hw _ (List.mem_of_getElem? (i := 11) rfl)) (hw _ (List.mem_of_getElem? (i := 94) rfl)) (by decide) (by decide) (by decide) dack0_28 rfl [] [] pdack0_0 rfl rfl rfl 0 rfl (by decide) (by decide) (by decide) (by decide) (pc' := 33) rfl
  obtain ⟨_, _, ⟨rfl, rfl⟩, H⟩ := H
  replace H : K 33 #[.val (.ref wn), .val (.ref d)] [(.int (own_emp (1 : Int32) (1 : Int32)))] j13 0 0 := H
  have lk : (own_emp (1 : Int32) (1 : Int32)) = (1 : Int32) := by decide
  rw [lk] at H
  clear lk
  replace H : K 33 #[.val (.ref wn), .val (.ref d)] [(.int (1 : Int32))] j13 0 0 := H
  replace H := k_ifcY C H dack0_33 (feq (by decide : ¬ ((1 : Int32) = (0 : Int32)))).2 (by decide) (pc' := 91) rfl
  replace H := k_iconst C H (v := 1) dack0_91 rfl (pc' := 92) rfl
  exact k_retZ C H dack0_92 (by decide) (by decide) (by decide) ⟨rfl, KK, F_wn_delivered, F_wn_unacknowledged, F_wn_lastHandledPosition, F_wn_hasLastHandled, F_wn_handled, F_q_elements, F_q_head, F_q_tail, V_es, F_d_position, F_d_acknowledged, F_d_takenBack⟩
theorem dadl1_0 : decode jdk_21_method_13_code 0 = .ok (.aload_n 1, 1) := by decide +kernel
theorem dadl1_1 : decode jdk_21_method_13_code 1 = .ok (.ifnonnull 11, 3) := by decide +kernel
theorem dadl1_12 : decode jdk_21_method_13_code 12 = .ok (.aload_n 0, 1) := by decide +kernel
theorem dadl1_13 : decode jdk_21_method_13_code 13 = .ok (.getfield 3, 3) := by decide +kernel
theorem dadl1_16 : decode jdk_21_method_13_code 16 = .ok (.astore_n 2, 1) := by decide +kernel
theorem dadl1_17 : decode jdk_21_method_13_code 17 = .ok (.aload_n 2, 1) := by decide +kernel
theorem dadl1_18 : decode jdk_21_method_13_code 18 = .ok (.aload_n 0, 1) := by decide +kernel
theorem dadl1_19 : decode jdk_21_method_13_code 19 = .ok (.getfield 20, 3) := by decide +kernel
theorem dadl1_22 : decode jdk_21_method_13_code 22 = .ok (.aload_n 1, 1) := by decide +kernel
theorem dadl1_23 : decode jdk_21_method_13_code 23 = .ok (.aastore, 1) := by decide +kernel
theorem dadl1_24 : decode jdk_21_method_13_code 24 = .ok (.aload_n 0, 1) := by decide +kernel
theorem dadl1_25 : decode jdk_21_method_13_code 25 = .ok (.getfield 24, 3) := by decide +kernel
theorem dadl1_28 : decode jdk_21_method_13_code 28 = .ok (.aload_n 0, 1) := by decide +kernel
theorem dadl1_29 : decode jdk_21_method_13_code 29 = .ok (.aload_n 0, 1) := by decide +kernel
theorem dadl1_30 : decode jdk_21_method_13_code 30 = .ok (.getfield 20, 3) := by decide +kernel
theorem dadl1_33 : decode jdk_21_method_13_code 33 = .ok (.aload_n 2, 1) := by decide +kernel
theorem dadl1_34 : decode jdk_21_method_13_code 34 = .ok (.arraylength, 1) := by decide +kernel
theorem dadl1_35 : decode jdk_21_method_13_code 35 = .ok (.invokestatic 74, 3) := by decide +kernel
theorem dadl1_38 : decode jdk_21_method_13_code 38 = .ok (.dup_x1, 1) := by decide +kernel
theorem dadl1_39 : decode jdk_21_method_13_code 39 = .ok (.putfield 20, 3) := by decide +kernel
theorem dadl1_42 : decode jdk_21_method_13_code 42 = .ok (.if_icmp .ne 8, 3) := by decide +kernel
theorem dadl1_50 : decode jdk_21_method_13_code 50 = .ok (.return_, 1) := by decide +kernel
theorem pdadl1_0 : parseMethodDescriptor "(II)I" = some ⟨[.int, .int], some .int⟩ := by decide +kernel
theorem pl_adl1 : plainFor (⟨"java/util/ArrayDeque", "addLast", "(Ljava/lang/Object;)V"⟩ : MethodName) = true := plainFor_of_name (by first | (simp [plainName, overriddenIn]; done) | decide +kernel)
theorem ef_adl1 (mm : MethodId) (q : Addr) (d : Addr) : entryFrame mm #[(.ref q), (.ref d)] 3 = mkF mm 0 #[.val (.ref q), .val (.ref d), .unset] [] := by first | (simp [entryFrame, mkF, argsToLocals, Value.category]; done) | rfl
set_option maxRecDepth 65536 in
set_option maxHeartbeats 40000000 in
theorem rmadl1 (l : Launch) (Z : State) (a0 : Array Value) (hw : ∀ d ∈ tables_1, d.before a0 Z = true) (q : Addr) (d : Addr) (h0 : Heap) (n0 : Nat) (es : Addr) (kE : ClassId) (ps : Int64) (ak : Int32) (tb : Int32) (X_q : Exa Z h0 q "java/util/ArrayDeque") (F_q_elements : Fld Z h0 q "java/util/ArrayDeque" "elements" "[Ljava/lang/Object;" (.ref es)) (F_q_head : Fld Z h0 q "java/util/ArrayDeque" "head" "I" (.int (1 : Int32))) (F_q_tail : Fld Z h0 q "java/util/ArrayDeque" "tail" "I" (.int (1 : Int32))) (n_q : n0 ≤ q) (V_es : Arf Z h0 es kE (.object "java/lang/Object") 17 (fun _ => .null)) (O_es : Ovr Z kE "java/lang/Object") (n_es : n0 ≤ es) (X_d : Exa Z h0 d "com/example/partition_handoff/partitionhandoff/DeliveryWindow$Delivery") (F_d_position : Fld Z h0 d "com/example/partition_handoff/partitionhandoff/DeliveryWindow$Delivery" "position" "J" (.long ps)) (F_d_acknowledged : Fld Z h0 d "com/example/partition_handoff/partitionhandoff/DeliveryWindow$Delivery" "acknowledged" "Z" (.int ak)) (F_d_takenBack : Fld Z h0 d "com/example/partition_handoff/partitionhandoff/DeliveryWindow$Delivery" "takenBack" "Z" (.int tb)) (n_d : n0 ≤ d) (ne_q_d : q ≠ d) :
    Con l (⟨"java/util/ArrayDeque", "addLast", "(Ljava/lang/Object;)V"⟩ : MethodName) jdk_21_method_13_code 3 none ({ frames := 1, cells := 0, slots := 0, locals := 15 } : Room) Z #[(.ref q), (.ref d)] h0 n0 (fun o h => o = none ∧ Keep h0 h [q, es] ∧ Fld Z h q "java/util/ArrayDeque" "elements" "[Ljava/lang/Object;" (.ref es) ∧ Fld Z h q "java/util/ArrayDeque" "head" "I" (.int (1 : Int32)) ∧ Fld Z h q "java/util/ArrayDeque" "tail" "I" (.int (2 : Int32)) ∧ Arf Z h es kE (.object "java/lang/Object") 17 (fun k => if k = 1 then .ref d else .null)) := by
  refine Con.enter pl_adl1 (fun mm => ef_adl1 mm q d) ?_
  intro K O C H
  have KK : Keep h0 h0 [q, es] := Keep.refl h0 _
  have ne_es_q : es ≠ q := V_es.neX X_q (hw _ (List.mem_of_getElem? (i := 10) rfl))
  have ne_es_d : es ≠ d := V_es.neX X_d (hw _ (List.mem_of_getElem? (i := 31) rfl))
  replace H := k_aloadN C H dadl1_0 rfl rfl (pc' := 1) rfl
  replace H := k_ifnonnullY C H dadl1_1 (by decide) (pc' := 12) rfl
  replace H := k_aloadN C H dadl1_12 rfl rfl (pc' := 13) rfl
  replace H := k_getFld C H (hw _ (List.mem_of_getElem? (i := 24) rfl)) F_q_elements dadl1_13 (pc' := 16) rfl
  replace H := k_astoreN C H dadl1_16 (L' := #[.val (.ref q), .val (.ref d), .val (.ref es)]) rfl rfl (pc' := 17) rfl
  replace H := k_aloadN C H dadl1_17 rfl rfl (pc' := 18) rfl
  replace H := k_aloadN C H dadl1_18 rfl rfl (pc' := 19) rfl
  replace H := k_getFld C H (hw _ (List.mem_of_getElem? (i := 67) rfl)) F_q_tail dadl1_19 (pc' := 22) rfl
  replace H := k_aloadN C H dadl1_22 rfl rfl (pc' := 23) rfl
  replace H := k_aastore C H V_es rfl (Or.inr (Or.inl ⟨_, O_es, d, rfl, Ins.of_exa X_d (hw _ (List.mem_of_getElem? (i := 69) rfl))⟩)) (i := 1) (by decide) (by decide) n_es dadl1_23 (pc' := 24) rfl
  obtain ⟨j14, W_j14, V_es, H⟩ := H
  replace X_q := X_q.wr W_j14
  replace F_q_elements := F_q_elements.other W_j14 (Or.inl (Ne.symm ne_es_q))
  replace F_q_head := F_q_head.other W_j14 (Or.inl (Ne.symm ne_es_q))
  replace F_q_tail := F_q_tail.other W_j14 (Or.inl (Ne.symm ne_es_q))
  replace X_d := X_d.wr W_j14
  replace F_d_position := F_d_position.other W_j14 (Or.inl (Ne.symm ne_es_d))
  replace F_d_acknowledged := F_d_acknowledged.other W_j14 (Or.inl (Ne.symm ne_es_d))
  replace F_d_takenBack := F_d_takenBack.other W_j14 (Or.inl (Ne.symm ne_es_d))
  replace KK := KK.wr W_j14 (Or.inl (List.mem_of_getElem? (i := 1) rfl))
  replace H := k_aloadN C H dadl1_24 rfl rfl (pc' := 25) rfl
  replace H := k_getFld C H (hw _ (List.mem_of_getElem? (i := 70) rfl)) F_q_head dadl1_25 (pc' := 28) rfl
  replace H := k_aloadN C H dadl1_28 rfl rfl (pc' := 29) rfl
  replace H := k_aloadN C H dadl1_29 rfl rfl (pc' := 30) rfl
  replace H := k_getFld C H (hw _ (List.mem_of_getElem? (i := 67) rfl)) F_q_tail dadl1_30 (pc' := 33) rfl
  replace H := k_aloadN C H dadl1_33 rfl rfl (pc' := 34) rfl
  replace H := k_arflen C H V_es dadl1_34 (pc' := 35) rfl
  replace H : K 35 #[.val (.ref q), .val (.ref d), .val (.ref es)] [(.int (17 : Int32)), (.int (1 : Int32)), (.ref q), (.int (1 : Int32))] j14 0 0 := H
  replace H := k_callSta C H (rminc l Z a0 hw (1 : Int32) (17 : Int32) j14 n0 ) (hw _ (List.mem_of_getElem? (i := 72) rfl)) (hw _ (List.mem_of_getElem? (i := 73) rfl)) (hw _ (List.mem_of_getElem? (i := 11) rfl)) (hw _ (List.mem_of_getElem? (i := 74) rfl)) (by decide) dadl1_35 rfl [(.int (1 : Int32)), (.int (17 : Int32))] [(.ref q), (.int (1 : Int32))] pdadl1_0 rfl rfl rfl 2 rfl (by decide) (by decide) (by decide) (by decide) (pc' := 38) rfl
  obtain ⟨_, _, ⟨rfl, rfl⟩, H⟩ := H
  replace H : K 38 #[.val (.ref q), .val (.ref d), .val (.ref es)] [(.int (own_inc (1 : Int32) (17 : Int32))), (.ref q), (.int (1 : Int32))] j14 0 0 := H
  have lk : (own_inc (1 : Int32) (17 : Int32)) = (2 : Int32) := by decide
  rw [lk] at H
  clear lk
  replace H : K 38 #[.val (.ref q), .val (.ref d), .val (.ref es)] [(.int (2 : Int32)), (.ref q), (.int (1 : Int32))] j14 0 0 := H
  replace H := k_dupX1 C H dadl1_38 rfl rfl (pc' := 39) rfl
  replace H := k_putFld C H (hw _ (List.mem_of_getElem? (i := 67) rfl)) F_q_tail X_q (Or.inl (hw _ (List.mem_of_getElem? (i := 68) rfl))) (hw _ (List.mem_of_getElem? (i := 10) rfl)) (ty := .int) (by decide) (v' := (.int (2 : Int32))) rfl rfl n_q dadl1_39 (pc' := 42) rfl
  obtain ⟨j15, W_j15, H⟩ := H
  replace X_q := X_q.wr W_j15
  replace F_q_elements := F_q_elements.other W_j15 (Or.inr (slot_ne (Or.inl (hw _ (List.mem_of_getElem? (i := 25) rfl))) (Or.inl (hw _ (List.mem_of_getElem? (i := 68) rfl))) (by decide) (t := (.array (.object "java/lang/Object"))) (t' := .int) (by decide) (by decide)))
  replace F_q_head := F_q_head.other W_j15 (Or.inr (slot_ne (Or.inl (hw _ (List.mem_of_getElem? (i := 71) rfl))) (Or.inl (hw _ (List.mem_of_getElem? (i := 68) rfl))) (by decide) (t := .int) (t' := .int) (by decide) (by decide)))
  replace F_q_tail := F_q_tail.same W_j15
  replace V_es := V_es.other W_j15 ne_es_q
  replace X_d := X_d.wr W_j15
  replace F_d_position := F_d_position.other W_j15 (Or.inl (Ne.symm ne_q_d))
  replace F_d_acknowledged := F_d_acknowledged.other W_j15 (Or.inl (Ne.symm ne_q_d))
  replace F_d_takenBack := F_d_takenBack.other W_j15 (Or.inl (Ne.symm ne_q_d))
  replace KK := KK.wr W_j15 (Or.inl (List.mem_of_getElem? (i := 0) rfl))
  replace H := k_icmpY C H dadl1_42 (feq (by decide : ¬ ((1 : Int32) = (2 : Int32)))).2 (by decide) (pc' := 50) rfl
  replace V_es : Arf Z j15 es kE (.object "java/lang/Object") 17 (fun k => if k = 1 then .ref d else .null) := V_es.congr (fun k _ => by by_cases q : k = 1 <;> simp [q])
  exact k_retV C H dadl1_50 (by decide) (by decide) ⟨rfl, KK, F_q_elements, F_q_head, F_q_tail, V_es⟩
theorem dgef1_0 : decode jdk_21_method_22_code 0 = .ok (.aload_n 0, 1) := by decide +kernel
theorem dgef1_1 : decode jdk_21_method_22_code 1 = .ok (.getfield 3, 3) := by decide +kernel
theorem dgef1_4 : decode jdk_21_method_22_code 4 = .ok (.aload_n 0, 1) := by decide +kernel
theorem dgef1_5 : decode jdk_21_method_22_code 5 = .ok (.getfield 24, 3) := by decide +kernel
theorem dgef1_8 : decode jdk_21_method_22_code 8 = .ok (.invokestatic 103, 3) := by decide +kernel
theorem dgef1_11 : decode jdk_21_method_22_code 11 = .ok (.astore_n 1, 1) := by decide +kernel
theorem dgef1_12 : decode jdk_21_method_22_code 12 = .ok (.aload_n 1, 1) := by decide +kernel
theorem dgef1_13 : decode jdk_21_method_22_code 13 = .ok (.ifnonnull 11, 3) := by decide +kernel
theorem dgef1_24 : decode jdk_21_method_22_code 24 = .ok (.aload_n 1, 1) := by decide +kernel
theorem dgef1_25 : decode jdk_21_method_22_code 25 = .ok (.areturn, 1) := by decide +kernel
theorem pdgef1_0 : parseMethodDescriptor "([Ljava/lang/Object;I)Ljava/lang/Object;" = some ⟨[(.array (.object "java/lang/Object")), .int], some (.object "java/lang/Object")⟩ := by decide +kernel
theorem pl_gef1 : plainFor (⟨"java/util/ArrayDeque", "getFirst", "()Ljava/lang/Object;"⟩ : MethodName) = true := plainFor_of_name (by first | (simp [plainName, overriddenIn]; done) | decide +kernel)
theorem ef_gef1 (mm : MethodId) (q : Addr) : entryFrame mm #[(.ref q)] 2 = mkF mm 0 #[.val (.ref q), .unset] [] := by first | (simp [entryFrame, mkF, argsToLocals, Value.category]; done) | rfl
set_option maxRecDepth 65536 in
set_option maxHeartbeats 40000000 in
theorem rmgef1 (l : Launch) (Z : State) (a0 : Array Value) (hw : ∀ d ∈ tables_1, d.before a0 Z = true) (q : Addr) (h0 : Heap) (n0 : Nat) (es : Addr) (kE : ClassId) (d : Addr) (X_q : Exa Z h0 q "java/util/ArrayDeque") (F_q_elements : Fld Z h0 q "java/util/ArrayDeque" "elements" "[Ljava/lang/Object;" (.ref es)) (F_q_head : Fld Z h0 q "java/util/ArrayDeque" "head" "I" (.int (1 : Int32))) (F_q_tail : Fld Z h0 q "java/util/ArrayDeque" "tail" "I" (.int (2 : Int32))) (n_q : n0 ≤ q) (V_es : Arf Z h0 es kE (.object "java/lang/Object") 17 (fun k => if k = 1 then .ref d else .null)) (O_es : Ovr Z kE "java/lang/Object") (n_es : n0 ≤ es) :
    Con l (⟨"java/util/ArrayDeque", "getFirst", "()Ljava/lang/Object;"⟩ : MethodName) jdk_21_method_22_code 2 (some (.object "java/lang/Object")) ({ frames := 1, cells := 0, slots := 0, locals := 13 } : Room) Z #[(.ref q)] h0 n0 (fun o h => o = some (.ref d) ∧ h0 = h) := by
  refine Con.enter pl_gef1 (fun mm => ef_gef1 mm q) ?_
  intro K O C H
  have ne_es_q : es ≠ q := V_es.neX X_q (hw _ (List.mem_of_getElem? (i := 10) rfl))
  replace H := k_aloadN C H dgef1_0 rfl rfl (pc' := 1) rfl
  replace H := k_getFld C H (hw _ (List.mem_of_getElem? (i := 24) rfl)) F_q_elements dgef1_1 (pc' := 4) rfl
  replace H := k_aloadN C H dgef1_4 rfl rfl (pc' := 5) rfl
  replace H := k_getFld C H (hw _ (List.mem_of_getElem? (i := 70) rfl)) F_q_head dgef1_5 (pc' := 8) rfl
  replace H := k_callSta C H (rmela l Z a0 hw es (1 : Int32) h0 n0 kE _ 1 d V_es (by decide) (by decide) rfl) (hw _ (List.mem_of_getElem? (i := 103) rfl)) (hw _ (List.mem_of_getElem? (i := 104) rfl)) (hw _ (List.mem_of_getElem? (i := 11) rfl)) (hw _ (List.mem_of_getElem? (i := 105) rfl)) (by decide) dgef1_8 rfl [(.ref es), (.int (1 : Int32))] [] pdgef1_0 rfl rfl rfl 0 rfl (by decide) (by decide) (by decide) (by decide) (pc' := 11) rfl
  obtain ⟨_, _, ⟨rfl, rfl⟩, H⟩ := H
  replace H : K 11 #[.val (.ref q), .unset] [(.ref d)] h0 0 0 := H
  replace H := k_astoreN C H dgef1_11 (L' := #[.val (.ref q), .val (.ref d)]) rfl rfl (pc' := 12) rfl
  replace H := k_aloadN C H dgef1_12 rfl rfl (pc' := 13) rfl
  replace H := k_ifnonnullY C H dgef1_13 (by decide) (pc' := 24) rfl
  replace H := k_aloadN C H dgef1_24 rfl rfl (pc' := 25) rfl
  exact k_retA C H dgef1_25 rfl rfl (by decide) (by decide) ⟨rfl, rfl⟩
theorem dpol1_0 : decode jdk_21_method_20_code 0 = .ok (.aload_n 0, 1) := by decide +kernel
theorem dpol1_1 : decode jdk_21_method_20_code 1 = .ok (.getfield 3, 3) := by decide +kernel
theorem dpol1_4 : decode jdk_21_method_20_code 4 = .ok (.dup, 1) := by decide +kernel
theorem dpol1_5 : decode jdk_21_method_20_code 5 = .ok (.astore_n 1, 1) := by decide +kernel
theorem dpol1_6 : decode jdk_21_method_20_code 6 = .ok (.aload_n 0, 1) := by decide +kernel
theorem dpol1_7 : decode jdk_21_method_20_code 7 = .ok (.getfield 24, 3) := by decide +kernel
theorem dpol1_10 : decode jdk_21_method_20_code 10 = .ok (.dup, 1) := by decide +kernel
theorem dpol1_11 : decode jdk_21_method_20_code 11 = .ok (.istore_n 2, 1) := by decide +kernel
theorem dpol1_12 : decode jdk_21_method_20_code 12 = .ok (.invokestatic 103, 3) := by decide +kernel
theorem dpol1_15 : decode jdk_21_method_20_code 15 = .ok (.astore_n 3, 1) := by decide +kernel
theorem dpol1_16 : decode jdk_21_method_20_code 16 = .ok (.aload_n 3, 1) := by decide +kernel
theorem dpol1_17 : decode jdk_21_method_20_code 17 = .ok (.ifnull 17, 3) := by decide +kernel
theorem dpol1_20 : decode jdk_21_method_20_code 20 = .ok (.aload_n 1, 1) := by decide +kernel
theorem dpol1_21 : decode jdk_21_method_20_code 21 = .ok (.iload_n 2, 1) := by decide +kernel
theorem dpol1_22 : decode jdk_21_method_20_code 22 = .ok (.aconst_null, 1) := by decide +kernel
theorem dpol1_23 : decode jdk_21_method_20_code 23 = .ok (.aastore, 1) := by decide +kernel
theorem dpol1_24 : decode jdk_21_method_20_code 24 = .ok (.aload_n 0, 1) := by decide +kernel
theorem dpol1_25 : decode jdk_21_method_20_code 25 = .ok (.iload_n 2, 1) := by decide +kernel
theorem dpol1_26 : decode jdk_21_method_20_code 26 = .ok (.aload_n 1, 1) := by decide +kernel
theorem dpol1_27 : decode jdk_21_method_20_code 27 = .ok (.arraylength, 1) := by decide +kernel
theorem dpol1_28 : decode jdk_21_method_20_code 28 = .ok (.invokestatic 74, 3) := by decide +kernel
theorem dpol1_31 : decode jdk_21_method_20_code 31 = .ok (.putfield 24, 3) := by decide +kernel
theorem dpol1_34 : decode jdk_21_method_20_code 34 = .ok (.aload_n 3, 1) := by decide +kernel
theorem dpol1_35 : decode jdk_21_method_20_code 35 = .ok (.areturn, 1) := by decide +kernel
theorem pdpol1_0 : parseMethodDescriptor "([Ljava/lang/Object;I)Ljava/lang/Object;" = some ⟨[(.array (.object "java/lang/Object")), .int], some (.object "java/lang/Object")⟩ := by decide +kernel
theorem pdpol1_1 : parseMethodDescriptor "(II)I" = some ⟨[.int, .int], some .int⟩ := by decide +kernel
theorem pl_pol1 : plainFor (⟨"java/util/ArrayDeque", "pollFirst", "()Ljava/lang/Object;"⟩ : MethodName) = true := plainFor_of_name (by first | (simp [plainName, overriddenIn]; done) | decide +kernel)
theorem ef_pol1 (mm : MethodId) (q : Addr) : entryFrame mm #[(.ref q)] 4 = mkF mm 0 #[.val (.ref q), .unset, .unset, .unset] [] := by first | (simp [entryFrame, mkF, argsToLocals, Value.category]; done) | rfl
set_option maxRecDepth 65536 in
set_option maxHeartbeats 40000000 in
theorem rmpol1 (l : Launch) (Z : State) (a0 : Array Value) (hw : ∀ d ∈ tables_1, d.before a0 Z = true) (q : Addr) (h0 : Heap) (n0 : Nat) (es : Addr) (kE : ClassId) (d : Addr) (X_q : Exa Z h0 q "java/util/ArrayDeque") (F_q_elements : Fld Z h0 q "java/util/ArrayDeque" "elements" "[Ljava/lang/Object;" (.ref es)) (F_q_head : Fld Z h0 q "java/util/ArrayDeque" "head" "I" (.int (1 : Int32))) (F_q_tail : Fld Z h0 q "java/util/ArrayDeque" "tail" "I" (.int (2 : Int32))) (n_q : n0 ≤ q) (V_es : Arf Z h0 es kE (.object "java/lang/Object") 17 (fun k => if k = 1 then .ref d else .null)) (O_es : Ovr Z kE "java/lang/Object") (n_es : n0 ≤ es) :
    Con l (⟨"java/util/ArrayDeque", "pollFirst", "()Ljava/lang/Object;"⟩ : MethodName) jdk_21_method_20_code 4 (some (.object "java/lang/Object")) ({ frames := 1, cells := 0, slots := 0, locals := 14 } : Room) Z #[(.ref q)] h0 n0 (fun o h => o = some (.ref d) ∧ Keep h0 h [q, es] ∧ Fld Z h q "java/util/ArrayDeque" "elements" "[Ljava/lang/Object;" (.ref es) ∧ Fld Z h q "java/util/ArrayDeque" "head" "I" (.int (2 : Int32)) ∧ Fld Z h q "java/util/ArrayDeque" "tail" "I" (.int (2 : Int32)) ∧ Arf Z h es kE (.object "java/lang/Object") 17 (fun _ => .null)) := by
  refine Con.enter pl_pol1 (fun mm => ef_pol1 mm q) ?_
  intro K O C H
  have KK : Keep h0 h0 [q, es] := Keep.refl h0 _
  have ne_es_q : es ≠ q := V_es.neX X_q (hw _ (List.mem_of_getElem? (i := 10) rfl))
  replace H := k_aloadN C H dpol1_0 rfl rfl (pc' := 1) rfl
  replace H := k_getFld C H (hw _ (List.mem_of_getElem? (i := 24) rfl)) F_q_elements dpol1_1 (pc' := 4) rfl
  replace H := k_dup C H dpol1_4 rfl (pc' := 5) rfl
  replace H := k_astoreN C H dpol1_5 (L' := #[.val (.ref q), .val (.ref es), .unset, .unset]) rfl rfl (pc' := 6) rfl
  replace H := k_aloadN C H dpol1_6 rfl rfl (pc' := 7) rfl
  replace H := k_getFld C H (hw _ (List.mem_of_getElem? (i := 70) rfl)) F_q_head dpol1_7 (pc' := 10) rfl
  replace H := k_dup C H dpol1_10 rfl (pc' := 11) rfl
  replace H := k_istoreN C H dpol1_11 (L' := #[.val (.ref q), .val (.ref es), .val (.int (1 : Int32)), .unset]) rfl (pc' := 12) rfl
  replace H := k_callSta C H (rmela l Z a0 hw es (1 : Int32) h0 n0 kE _ 1 d V_es (by decide) (by decide) rfl) (hw _ (List.mem_of_getElem? (i := 103) rfl)) (hw _ (List.mem_of_getElem? (i := 104) rfl)) (hw _ (List.mem_of_getElem? (i := 11) rfl)) (hw _ (List.mem_of_getElem? (i := 105) rfl)) (by decide) dpol1_12 rfl [(.ref es), (.int (1 : Int32))] [] pdpol1_0 rfl rfl rfl 0 rfl (by decide) (by decide) (by decide) (by decide) (pc' := 15) rfl
  obtain ⟨_, _, ⟨rfl, rfl⟩, H⟩ := H
  replace H : K 15 #[.val (.ref q), .val (.ref es), .val (.int (1 : Int32)), .unset] [(.ref d)] h0 0 0 := H
  replace H := k_astoreN C H dpol1_15 (L' := #[.val (.ref q), .val (.ref es), .val (.int (1 : Int32)), .val (.ref d)]) rfl rfl (pc' := 16) rfl
  replace H := k_aloadN C H dpol1_16 rfl rfl (pc' := 17) rfl
  replace H := k_ifnullN C H dpol1_17 (pc' := 20) rfl
  replace H := k_aloadN C H dpol1_20 rfl rfl (pc' := 21) rfl
  replace H := k_iloadN C H dpol1_21 rfl (pc' := 22) rfl
  replace H := k_anull C H dpol1_22 (pc' := 23) rfl
  replace H := k_aastore C H V_es rfl (Or.inl rfl) (i := 1) (by decide) (by decide) n_es dpol1_23 (pc' := 24) rfl
  obtain ⟨j16, W_j16, V_es, H⟩ := H
  replace X_q := X_q.wr W_j16
  replace F_q_elements := F_q_elements.other W_j16 (Or.inl (Ne.symm ne_es_q))
  replace F_q_head := F_q_head.other W_j16 (Or.inl (Ne.symm ne_es_q))
  replace F_q_tail := F_q_tail.other W_j16 (Or.inl (Ne.symm ne_es_q))
  replace KK := KK.wr W_j16 (Or.inl (List.mem_of_getElem? (i := 1) rfl))
  replace H := k_aloadN C H dpol1_24 rfl rfl (pc' := 25) rfl
  replace H := k_iloadN C H dpol1_25 rfl (pc' := 26) rfl
  replace H := k_aloadN C H dpol1_26 rfl rfl (pc' := 27) rfl
  replace H := k_arflen C H V_es dpol1_27 (pc' := 28) rfl
  replace H : K 28 #[.val (.ref q), .val (.ref es), .val (.int (1 : Int32)), .val (.ref d)] [(.int (17 : Int32)), (.int (1 : Int32)), (.ref q)] j16 0 0 := H
  replace H := k_callSta C H (rminc l Z a0 hw (1 : Int32) (17 : Int32) j16 n0 ) (hw _ (List.mem_of_getElem? (i := 72) rfl)) (hw _ (List.mem_of_getElem? (i := 73) rfl)) (hw _ (List.mem_of_getElem? (i := 11) rfl)) (hw _ (List.mem_of_getElem? (i := 74) rfl)) (by decide) dpol1_28 rfl [(.int (1 : Int32)), (.int (17 : Int32))] [(.ref q)] pdpol1_1 rfl rfl rfl 1 rfl (by decide) (by decide) (by decide) (by decide) (pc' := 31) rfl
  obtain ⟨_, _, ⟨rfl, rfl⟩, H⟩ := H
  replace H : K 31 #[.val (.ref q), .val (.ref es), .val (.int (1 : Int32)), .val (.ref d)] [(.int (own_inc (1 : Int32) (17 : Int32))), (.ref q)] j16 0 0 := H
  have lk : (own_inc (1 : Int32) (17 : Int32)) = (2 : Int32) := by decide
  rw [lk] at H
  clear lk
  replace H : K 31 #[.val (.ref q), .val (.ref es), .val (.int (1 : Int32)), .val (.ref d)] [(.int (2 : Int32)), (.ref q)] j16 0 0 := H
  replace H := k_putFld C H (hw _ (List.mem_of_getElem? (i := 70) rfl)) F_q_head X_q (Or.inl (hw _ (List.mem_of_getElem? (i := 71) rfl))) (hw _ (List.mem_of_getElem? (i := 10) rfl)) (ty := .int) (by decide) (v' := (.int (2 : Int32))) rfl rfl n_q dpol1_31 (pc' := 34) rfl
  obtain ⟨j17, W_j17, H⟩ := H
  replace X_q := X_q.wr W_j17
  replace F_q_elements := F_q_elements.other W_j17 (Or.inr (slot_ne (Or.inl (hw _ (List.mem_of_getElem? (i := 25) rfl))) (Or.inl (hw _ (List.mem_of_getElem? (i := 71) rfl))) (by decide) (t := (.array (.object "java/lang/Object"))) (t' := .int) (by decide) (by decide)))
  replace F_q_head := F_q_head.same W_j17
  replace F_q_tail := F_q_tail.other W_j17 (Or.inr (slot_ne (Or.inl (hw _ (List.mem_of_getElem? (i := 68) rfl))) (Or.inl (hw _ (List.mem_of_getElem? (i := 71) rfl))) (by decide) (t := .int) (t' := .int) (by decide) (by decide)))
  replace V_es := V_es.other W_j17 ne_es_q
  replace KK := KK.wr W_j17 (Or.inl (List.mem_of_getElem? (i := 0) rfl))
  replace H := k_aloadN C H dpol1_34 rfl rfl (pc' := 35) rfl
  replace V_es : Arf Z j17 es kE (.object "java/lang/Object") 17 (fun _ => .null) := V_es.congr (fun k _ => by by_cases q : k = 1 <;> simp [q])
  exact k_retA C H dpol1_35 rfl rfl (by decide) (by decide) ⟨rfl, KK, F_q_elements, F_q_head, F_q_tail, V_es⟩
theorem drmf1_0 : decode jdk_21_method_18_code 0 = .ok (.aload_n 0, 1) := by decide +kernel
theorem drmf1_1 : decode jdk_21_method_18_code 1 = .ok (.invokevirtual 93, 3) := by decide +kernel
theorem drmf1_4 : decode jdk_21_method_18_code 4 = .ok (.astore_n 1, 1) := by decide +kernel
theorem drmf1_5 : decode jdk_21_method_18_code 5 = .ok (.aload_n 1, 1) := by decide +kernel
theorem drmf1_6 : decode jdk_21_method_18_code 6 = .ok (.ifnonnull 11, 3) := by decide +kernel
theorem drmf1_17 : decode jdk_21_method_18_code 17 = .ok (.aload_n 1, 1) := by decide +kernel
theorem drmf1_18 : decode jdk_21_method_18_code 18 = .ok (.areturn, 1) := by decide +kernel
theorem pdrmf1_0 : parseMethodDescriptor "()Ljava/lang/Object;" = some ⟨[], some (.object "java/lang/Object")⟩ := by decide +kernel
theorem pl_rmf1 : plainFor (⟨"java/util/ArrayDeque", "removeFirst", "()Ljava/lang/Object;"⟩ : MethodName) = true := plainFor_of_name (by first | (simp [plainName, overriddenIn]; done) | decide +kernel)
theorem ef_rmf1 (mm : MethodId) (q : Addr) : entryFrame mm #[(.ref q)] 2 = mkF mm 0 #[.val (.ref q), .unset] [] := by first | (simp [entryFrame, mkF, argsToLocals, Value.category]; done) | rfl
set_option maxRecDepth 65536 in
set_option maxHeartbeats 40000000 in
theorem rmrmf1 (l : Launch) (Z : State) (a0 : Array Value) (hw : ∀ d ∈ tables_1, d.before a0 Z = true) (q : Addr) (h0 : Heap) (n0 : Nat) (es : Addr) (kE : ClassId) (d : Addr) (X_q : Exa Z h0 q "java/util/ArrayDeque") (F_q_elements : Fld Z h0 q "java/util/ArrayDeque" "elements" "[Ljava/lang/Object;" (.ref es)) (F_q_head : Fld Z h0 q "java/util/ArrayDeque" "head" "I" (.int (1 : Int32))) (F_q_tail : Fld Z h0 q "java/util/ArrayDeque" "tail" "I" (.int (2 : Int32))) (n_q : n0 ≤ q) (V_es : Arf Z h0 es kE (.object "java/lang/Object") 17 (fun k => if k = 1 then .ref d else .null)) (O_es : Ovr Z kE "java/lang/Object") (n_es : n0 ≤ es) :
    Con l (⟨"java/util/ArrayDeque", "removeFirst", "()Ljava/lang/Object;"⟩ : MethodName) jdk_21_method_18_code 2 (some (.object "java/lang/Object")) ({ frames := 2, cells := 0, slots := 0, locals := 29 } : Room) Z #[(.ref q)] h0 n0 (fun o h => o = some (.ref d) ∧ Keep h0 h [q, es] ∧ Fld Z h q "java/util/ArrayDeque" "elements" "[Ljava/lang/Object;" (.ref es) ∧ Fld Z h q "java/util/ArrayDeque" "head" "I" (.int (2 : Int32)) ∧ Fld Z h q "java/util/ArrayDeque" "tail" "I" (.int (2 : Int32)) ∧ Arf Z h es kE (.object "java/lang/Object") 17 (fun _ => .null)) := by
  refine Con.enter pl_rmf1 (fun mm => ef_rmf1 mm q) ?_
  intro K O C H
  have KK : Keep h0 h0 [q, es] := Keep.refl h0 _
  have ne_es_q : es ≠ q := V_es.neX X_q (hw _ (List.mem_of_getElem? (i := 10) rfl))
  replace H := k_aloadN C H drmf1_0 rfl rfl (pc' := 1) rfl
  replace H := k_callVir C H (rmpol1 l Z a0 hw q h0 n0 es kE d X_q F_q_elements F_q_head F_q_tail n_q V_es O_es n_es) X_q (hw _ (List.mem_of_getElem? (i := 116) rfl)) (hw _ (List.mem_of_getElem? (i := 117) rfl)) (hw _ (List.mem_of_getElem? (i := 119) rfl)) (hw _ (List.mem_of_getElem? (i := 118) rfl)) (hw _ (List.mem_of_getElem? (i := 11) rfl)) (hw _ (List.mem_of_getElem? (i := 120) rfl)) (by decide) drmf1_1 rfl [] [] pdrmf1_0 rfl rfl rfl 0 rfl (by decide) (by decide) (by decide) (by decide) (pc' := 4) rfl
  obtain ⟨_, j18, ⟨rfl, K_j18, F_q_elements', F_q_head', F_q_tail', V_es'⟩, H⟩ := H
  replace H : K 4 #[.val (.ref q), .unset] [(.ref d)] j18 0 0 := H
  replace X_q := X_q.keep K_j18
  replace KK := KK.trans K_j18 (allS (Or.inl (List.mem_of_getElem? (i := 0) rfl)) (allS (Or.inl (List.mem_of_getElem? (i := 1) rfl)) all0))
  replace F_q_elements := F_q_elements'
  clear F_q_elements'
  replace F_q_head := F_q_head'
  clear F_q_head'
  replace F_q_tail := F_q_tail'
  clear F_q_tail'
  replace V_es := V_es'
  clear V_es'
  replace H := k_astoreN C H drmf1_4 (L' := #[.val (.ref q), .val (.ref d)]) rfl rfl (pc' := 5) rfl
  replace H := k_aloadN C H drmf1_5 rfl rfl (pc' := 6) rfl
  replace H := k_ifnonnullY C H drmf1_6 (by decide) (pc' := 17) rfl
  replace H := k_aloadN C H drmf1_17 rfl rfl (pc' := 18) rfl
  exact k_retA C H drmf1_18 rfl rfl (by decide) (by decide) ⟨rfl, KK, F_q_elements, F_q_head, F_q_tail, V_es⟩
theorem ddlv1_0 : decode prog_8_method_8_code 0 = .ok (.aload_n 0, 1) := by decide +kernel
theorem ddlv1_1 : decode prog_8_method_8_code 1 = .ok (.getfield 10, 3) := by decide +kernel
theorem ddlv1_4 : decode prog_8_method_8_code 4 = .ok (.aload_n 1, 1) := by decide +kernel
theorem ddlv1_5 : decode prog_8_method_8_code 5 = .ok (.invokeinterface 69 2, 5) := by decide +kernel
theorem ddlv1_10 : decode prog_8_method_8_code 10 = .ok (.aload_n 0, 1) := by decide +kernel
theorem ddlv1_11 : decode prog_8_method_8_code 11 = .ok (.dup, 1) := by decide +kernel
theorem ddlv1_12 : decode prog_8_method_8_code 12 = .ok (.getfield 66, 3) := by decide +kernel
theorem ddlv1_15 : decode prog_8_method_8_code 15 = .ok (.iconst 1, 1) := by decide +kernel
theorem ddlv1_16 : decode prog_8_method_8_code 16 = .ok (.iadd, 1) := by decide +kernel
theorem ddlv1_17 : decode prog_8_method_8_code 17 = .ok (.putfield 66, 3) := by decide +kernel
theorem ddlv1_20 : decode prog_8_method_8_code 20 = .ok (.return_, 1) := by decide +kernel
theorem pddlv1_0 : parseMethodDescriptor "(Ljava/lang/Object;)V" = some ⟨[(.object "java/lang/Object")], none⟩ := by decide +kernel
theorem pl_dlv1 : plainFor (⟨"com/example/partition_handoff/partitionhandoff/DeliveryWindow", "deliver", "(Lcom/example/partition_handoff/partitionhandoff/DeliveryWindow$Delivery;)V"⟩ : MethodName) = true := plainFor_of_name (by first | (simp [plainName, overriddenIn]; done) | decide +kernel)
theorem ef_dlv1 (mm : MethodId) (wn : Addr) (d : Addr) : entryFrame mm #[(.ref wn), (.ref d)] 2 = mkF mm 0 #[.val (.ref wn), .val (.ref d)] [] := by first | (simp [entryFrame, mkF, argsToLocals, Value.category]; done) | rfl
set_option maxRecDepth 65536 in
set_option maxHeartbeats 40000000 in
theorem rmdlv1 (l : Launch) (Z : State) (a0 : Array Value) (hw : ∀ d ∈ tables_1, d.before a0 Z = true) (wn : Addr) (d : Addr) (h0 : Heap) (n0 : Nat) (q : Addr) (es : Addr) (kE : ClassId) (lp : Int64) (hl : Int32) (hc : Int64) (ps : Int64) (ak : Int32) (tb : Int32) (X_wn : Exa Z h0 wn "com/example/partition_handoff/partitionhandoff/DeliveryWindow") (F_wn_delivered : Fld Z h0 wn "com/example/partition_handoff/partitionhandoff/DeliveryWindow" "delivered" "Ljava/util/Deque;" (.ref q)) (F_wn_unacknowledged : Fld Z h0 wn "com/example/partition_handoff/partitionhandoff/DeliveryWindow" "unacknowledged" "I" (.int (0 : Int32))) (F_wn_lastHandledPosition : Fld Z h0 wn "com/example/partition_handoff/partitionhandoff/DeliveryWindow" "lastHandledPosition" "J" (.long lp)) (F_wn_hasLastHandled : Fld Z h0 wn "com/example/partition_handoff/partitionhandoff/DeliveryWindow" "hasLastHandled" "Z" (.int hl)) (F_wn_handled : Fld Z h0 wn "com/example/partition_handoff/partitionhandoff/DeliveryWindow" "handled" "J" (.long hc)) (n_wn : n0 ≤ wn) (X_q : Exa Z h0 q "java/util/ArrayDeque") (F_q_elements : Fld Z h0 q "java/util/ArrayDeque" "elements" "[Ljava/lang/Object;" (.ref es)) (F_q_head : Fld Z h0 q "java/util/ArrayDeque" "head" "I" (.int (1 : Int32))) (F_q_tail : Fld Z h0 q "java/util/ArrayDeque" "tail" "I" (.int (1 : Int32))) (n_q : n0 ≤ q) (V_es : Arf Z h0 es kE (.object "java/lang/Object") 17 (fun _ => .null)) (O_es : Ovr Z kE "java/lang/Object") (n_es : n0 ≤ es) (X_d : Exa Z h0 d "com/example/partition_handoff/partitionhandoff/DeliveryWindow$Delivery") (F_d_position : Fld Z h0 d "com/example/partition_handoff/partitionhandoff/DeliveryWindow$Delivery" "position" "J" (.long ps)) (F_d_acknowledged : Fld Z h0 d "com/example/partition_handoff/partitionhandoff/DeliveryWindow$Delivery" "acknowledged" "Z" (.int ak)) (F_d_takenBack : Fld Z h0 d "com/example/partition_handoff/partitionhandoff/DeliveryWindow$Delivery" "takenBack" "Z" (.int tb)) (n_d : n0 ≤ d) (ne_wn_q : wn ≠ q) (ne_wn_d : wn ≠ d) (ne_q_d : q ≠ d) :
    Con l (⟨"com/example/partition_handoff/partitionhandoff/DeliveryWindow", "deliver", "(Lcom/example/partition_handoff/partitionhandoff/DeliveryWindow$Delivery;)V"⟩ : MethodName) prog_8_method_8_code 2 none ({ frames := 2, cells := 0, slots := 0, locals := 29 } : Room) Z #[(.ref wn), (.ref d)] h0 n0 (fun o h => o = none ∧ Keep h0 h [wn, q, es] ∧ Fld Z h wn "com/example/partition_handoff/partitionhandoff/DeliveryWindow" "delivered" "Ljava/util/Deque;" (.ref q) ∧ Fld Z h wn "com/example/partition_handoff/partitionhandoff/DeliveryWindow" "unacknowledged" "I" (.int (1 : Int32)) ∧ Fld Z h wn "com/example/partition_handoff/partitionhandoff/DeliveryWindow" "lastHandledPosition" "J" (.long lp) ∧ Fld Z h wn "com/example/partition_handoff/partitionhandoff/DeliveryWindow" "hasLastHandled" "Z" (.int hl) ∧ Fld Z h wn "com/example/partition_handoff/partitionhandoff/DeliveryWindow" "handled" "J" (.long hc) ∧ Fld Z h q "java/util/ArrayDeque" "elements" "[Ljava/lang/Object;" (.ref es) ∧ Fld Z h q "java/util/ArrayDeque" "head" "I" (.int (1 : Int32)) ∧ Fld Z h q "java/util/ArrayDeque" "tail" "I" (.int (2 : Int32)) ∧ Arf Z h es kE (.object "java/lang/Object") 17 (fun k => if k = 1 then .ref d else .null)) := by
  refine Con.enter pl_dlv1 (fun mm => ef_dlv1 mm wn d) ?_
  intro K O C H
  have KK : Keep h0 h0 [wn, q, es] := Keep.refl h0 _
  have ne_es_wn : es ≠ wn := V_es.neX X_wn (hw _ (List.mem_of_getElem? (i := 1) rfl))
  have ne_es_q : es ≠ q := V_es.neX X_q (hw _ (List.mem_of_getElem? (i := 10) rfl))
  have ne_es_d : es ≠ d := V_es.neX X_d (hw _ (List.mem_of_getElem? (i := 31) rfl))
  replace H := k_aloadN C H ddlv1_0 rfl rfl (pc' := 1) rfl
  replace H := k_getFld C H (hw _ (List.mem_of_getElem? (i := 26) rfl)) F_wn_delivered ddlv1_1 (pc' := 4) rfl
  replace H := k_aloadN C H ddlv1_4 rfl rfl (pc' := 5) rfl
  replace H := k_callInt C H (rmadl1 l Z a0 hw q d h0 n0 es kE _ _ _ X_q F_q_elements F_q_head F_q_tail n_q V_es O_es n_es X_d F_d_position F_d_acknowledged F_d_takenBack n_d ne_q_d) X_q (hw _ (List.mem_of_getElem? (i := 58) rfl)) (hw _ (List.mem_of_getElem? (i := 59) rfl)) (hw _ (List.mem_of_getElem? (i := 60) rfl)) rfl (hw _ (List.mem_of_getElem? (i := 61) rfl)) (hw _ (List.mem_of_getElem? (i := 62) rfl)) (hw _ (List.mem_of_getElem? (i := 63) rfl)) (hw _ (List.mem_of_getElem? (i := 64) rfl)) (hw _ (List.mem_of_getElem? (i := 65) rfl)) (hw _ (List.mem_of_getElem? (i := 11) rfl)) (hw _ (List.mem_of_getElem? (i := 66) rfl)) (by decide) ddlv1_5 rfl [(.ref d)] [] pddlv1_0 rfl rfl rfl 0 rfl (by decide) (by decide) (by decide) (by decide) (pc' := 10) rfl
  obtain ⟨_, j19, ⟨rfl, K_j19, F_q_elements', F_q_head', F_q_tail', V_es'⟩, H⟩ := H
  replace H : K 10 #[.val (.ref wn), .val (.ref d)] [] j19 0 0 := H
  replace X_wn := X_wn.keep K_j19
  replace F_wn_delivered := F_wn_delivered.keep K_j19 (ninS ne_wn_q (ninS (Ne.symm ne_es_wn) nin0))
  replace F_wn_unacknowledged := F_wn_unacknowledged.keep K_j19 (ninS ne_wn_q (ninS (Ne.symm ne_es_wn) nin0))
  replace F_wn_lastHandledPosition := F_wn_lastHandledPosition.keep K_j19 (ninS ne_wn_q (ninS (Ne.symm ne_es_wn) nin0))
  replace F_wn_hasLastHandled := F_wn_hasLastHandled.keep K_j19 (ninS ne_wn_q (ninS (Ne.symm ne_es_wn) nin0))
  replace F_wn_handled := F_wn_handled.keep K_j19 (ninS ne_wn_q (ninS (Ne.symm ne_es_wn) nin0))
  replace X_q := X_q.keep K_j19
  replace X_d := X_d.keep K_j19
  replace F_d_position := F_d_position.keep K_j19 (ninS (Ne.symm ne_q_d) (ninS (Ne.symm ne_es_d) nin0))
  replace F_d_acknowledged := F_d_acknowledged.keep K_j19 (ninS (Ne.symm ne_q_d) (ninS (Ne.symm ne_es_d) nin0))
  replace F_d_takenBack := F_d_takenBack.keep K_j19 (ninS (Ne.symm ne_q_d) (ninS (Ne.symm ne_es_d) nin0))
  replace KK := KK.trans K_j19 (allS (Or.inl (List.mem_of_getElem? (i := 1) rfl)) (allS (Or.inl (List.mem_of_getElem? (i := 2) rfl)) all0))
  replace F_q_elements := F_q_elements'
  clear F_q_elements'
  replace F_q_head := F_q_head'
  clear F_q_head'
  replace F_q_tail := F_q_tail'
  clear F_q_tail'
  replace V_es := V_es'
  clear V_es'
  replace H := k_aloadN C H ddlv1_10 rfl rfl (pc' := 11) rfl
  replace H := k_dup C H ddlv1_11 rfl (pc' := 12) rfl
  replace H := k_getFld C H (hw _ (List.mem_of_getElem? (i := 75) rfl)) F_wn_unacknowledged ddlv1_12 (pc' := 15) rfl
  replace H := k_iconst C H (v := 1) ddlv1_15 rfl (pc' := 16) rfl
  replace H := k_iadd C H ddlv1_16 (pc' := 17) rfl
  replace H : K 17 #[.val (.ref wn), .val (.ref d)] [(.int (1 : Int32)), (.ref wn)] j19 0 0 := H
  replace H := k_putFld C H (hw _ (List.mem_of_getElem? (i := 75) rfl)) F_wn_unacknowledged X_wn (Or.inl (hw _ (List.mem_of_getElem? (i := 76) rfl))) (hw _ (List.mem_of_getElem? (i := 1) rfl)) (ty := .int) (by decide) (v' := (.int (1 : Int32))) rfl rfl n_wn ddlv1_17 (pc' := 20) rfl
  obtain ⟨j20, W_j20, H⟩ := H
  replace X_wn := X_wn.wr W_j20
  replace F_wn_delivered := F_wn_delivered.other W_j20 (Or.inr (slot_ne (Or.inr (hw _ (List.mem_of_getElem? (i := 27) rfl))) (Or.inl (hw _ (List.mem_of_getElem? (i := 76) rfl))) (by decide) (t := (.object "java/util/Deque")) (t' := .int) (by decide) (by decide)))
  replace F_wn_unacknowledged := F_wn_unacknowledged.same W_j20
  replace F_wn_lastHandledPosition := F_wn_lastHandledPosition.other W_j20 (Or.inr (slot_ne (Or.inl (hw _ (List.mem_of_getElem? (i := 123) rfl))) (Or.inl (hw _ (List.mem_of_getElem? (i := 76) rfl))) (by decide) (t := .long) (t' := .int) (by decide) (by decide)))
  replace F_wn_hasLastHandled := F_wn_hasLastHandled.other W_j20 (Or.inr (slot_ne (Or.inl (hw _ (List.mem_of_getElem? (i := 125) rfl))) (Or.inl (hw _ (List.mem_of_getElem? (i := 76) rfl))) (by decide) (t := .boolean) (t' := .int) (by decide) (by decide)))
  replace F_wn_handled := F_wn_handled.other W_j20 (Or.inr (slot_ne (Or.inl (hw _ (List.mem_of_getElem? (i := 127) rfl))) (Or.inl (hw _ (List.mem_of_getElem? (i := 76) rfl))) (by decide) (t := .long) (t' := .int) (by decide) (by decide)))
  replace X_q := X_q.wr W_j20
  replace X_d := X_d.wr W_j20
  replace F_d_position := F_d_position.other W_j20 (Or.inl (Ne.symm ne_wn_d))
  replace F_d_acknowledged := F_d_acknowledged.other W_j20 (Or.inl (Ne.symm ne_wn_d))
  replace F_d_takenBack := F_d_takenBack.other W_j20 (Or.inl (Ne.symm ne_wn_d))
  replace F_q_elements := F_q_elements.other W_j20 (Or.inl (Ne.symm ne_wn_q))
  replace F_q_head := F_q_head.other W_j20 (Or.inl (Ne.symm ne_wn_q))
  replace F_q_tail := F_q_tail.other W_j20 (Or.inl (Ne.symm ne_wn_q))
  replace V_es := V_es.other W_j20 ne_es_wn
  replace KK := KK.wr W_j20 (Or.inl (List.mem_of_getElem? (i := 0) rfl))
  exact k_retV C H ddlv1_20 (by decide) (by decide) ⟨rfl, KK, F_wn_delivered, F_wn_unacknowledged, F_wn_lastHandledPosition, F_wn_hasLastHandled, F_wn_handled, F_q_elements, F_q_head, F_q_tail, V_es⟩
theorem dack1_0 : decode prog_8_method_9_code 0 = .ok (.aload_n 1, 1) := by decide +kernel
theorem dack1_1 : decode prog_8_method_9_code 1 = .ok (.invokevirtual 73, 3) := by decide +kernel
theorem dack1_4 : decode prog_8_method_9_code 4 = .ok (.ifCond .ne 5, 3) := by decide +kernel
theorem dack1_9 : decode prog_8_method_9_code 9 = .ok (.aload_n 1, 1) := by decide +kernel
theorem dack1_10 : decode prog_8_method_9_code 10 = .ok (.iconst 1, 1) := by decide +kernel
theorem dack1_11 : decode prog_8_method_9_code 11 = .ok (.putfield 76, 3) := by decide +kernel
theorem dack1_14 : decode prog_8_method_9_code 14 = .ok (.aload_n 0, 1) := by decide +kernel
theorem dack1_15 : decode prog_8_method_9_code 15 = .ok (.dup, 1) := by decide +kernel
theorem dack1_16 : decode prog_8_method_9_code 16 = .ok (.getfield 66, 3) := by decide +kernel
theorem dack1_19 : decode prog_8_method_9_code 19 = .ok (.iconst 1, 1) := by decide +kernel
theorem dack1_20 : decode prog_8_method_9_code 20 = .ok (.isub, 1) := by decide +kernel
theorem dack1_21 : decode prog_8_method_9_code 21 = .ok (.putfield 66, 3) := by decide +kernel
theorem dack1_24 : decode prog_8_method_9_code 24 = .ok (.aload_n 0, 1) := by decide +kernel
theorem dack1_25 : decode prog_8_method_9_code 25 = .ok (.getfield 10, 3) := by decide +kernel
theorem dack1_28 : decode prog_8_method_9_code 28 = .ok (.invokeinterface 31 1, 5) := by decide +kernel
theorem dack1_33 : decode prog_8_method_9_code 33 = .ok (.ifCond .ne 58, 3) := by decide +kernel
theorem dack1_36 : decode prog_8_method_9_code 36 = .ok (.aload_n 0, 1) := by decide +kernel
theorem dack1_37 : decode prog_8_method_9_code 37 = .ok (.getfield 10, 3) := by decide +kernel
theorem dack1_40 : decode prog_8_method_9_code 40 = .ok (.invokeinterface 79 1, 5) := by decide +kernel
theorem dack1_45 : decode prog_8_method_9_code 45 = .ok (.checkcast 41, 3) := by decide +kernel
theorem dack1_48 : decode prog_8_method_9_code 48 = .ok (.getfield 76, 3) := by decide +kernel
theorem dack1_51 : decode prog_8_method_9_code 51 = .ok (.ifCond .eq 40, 3) := by decide +kernel
theorem dack1_54 : decode prog_8_method_9_code 54 = .ok (.aload_n 0, 1) := by decide +kernel
theorem dack1_55 : decode prog_8_method_9_code 55 = .ok (.aload_n 0, 1) := by decide +kernel
theorem dack1_56 : decode prog_8_method_9_code 56 = .ok (.getfield 10, 3) := by decide +kernel
theorem dack1_59 : decode prog_8_method_9_code 59 = .ok (.invokeinterface 82 1, 5) := by decide +kernel
theorem dack1_64 : decode prog_8_method_9_code 64 = .ok (.checkcast 41, 3) := by decide +kernel
theorem dack1_67 : decode prog_8_method_9_code 67 = .ok (.getfield 43, 3) := by decide +kernel
theorem dack1_70 : decode prog_8_method_9_code 70 = .ok (.putfield 20, 3) := by decide +kernel
theorem dack1_73 : decode prog_8_method_9_code 73 = .ok (.aload_n 0, 1) := by decide +kernel
theorem dack1_74 : decode prog_8_method_9_code 74 = .ok (.iconst 1, 1) := by decide +kernel
theorem dack1_75 : decode prog_8_method_9_code 75 = .ok (.putfield 24, 3) := by decide +kernel
theorem dack1_78 : decode prog_8_method_9_code 78 = .ok (.aload_n 0, 1) := by decide +kernel
theorem dack1_79 : decode prog_8_method_9_code 79 = .ok (.dup, 1) := by decide +kernel
theorem dack1_80 : decode prog_8_method_9_code 80 = .ok (.getfield 28, 3) := by decide +kernel
theorem dack1_83 : decode prog_8_method_9_code 83 = .ok (.lconst 1, 1) := by decide +kernel
theorem dack1_84 : decode prog_8_method_9_code 84 = .ok (.ladd, 1) := by decide +kernel
theorem dack1_85 : decode prog_8_method_9_code 85 = .ok (.putfield 28, 3) := by decide +kernel
theorem dack1_88 : decode prog_8_method_9_code 88 = .ok (.goto (-64), 3) := by decide +kernel
theorem dack1_91 : decode prog_8_method_9_code 91 = .ok (.iconst 1, 1) := by decide +kernel
theorem dack1_92 : decode prog_8_method_9_code 92 = .ok (.ireturn, 1) := by decide +kernel
theorem pdack1_0 : parseMethodDescriptor "()Z" = some ⟨[], some .boolean⟩ := by decide +kernel
theorem pdack1_1 : parseMethodDescriptor "()Ljava/lang/Object;" = some ⟨[], some (.object "java/lang/Object")⟩ := by decide +kernel
theorem pl_ack1 : plainFor (⟨"com/example/partition_handoff/partitionhandoff/DeliveryWindow", "acknowledge", "(Lcom/example/partition_handoff/partitionhandoff/DeliveryWindow$Delivery;)Z"⟩ : MethodName) = true := plainFor_of_name (by first | (simp [plainName, overriddenIn]; done) | decide +kernel)
theorem ef_ack1 (mm : MethodId) (wn : Addr) (d : Addr) : entryFrame mm #[(.ref wn), (.ref d)] 2 = mkF mm 0 #[.val (.ref wn), .val (.ref d)] [] := by first | (simp [entryFrame, mkF, argsToLocals, Value.category]; done) | rfl
set_option maxRecDepth 65536 in
set_option maxHeartbeats 40000000 in
theorem rmack1 (l : Launch) (Z : State) (a0 : Array Value) (hw : ∀ d ∈ tables_1, d.before a0 Z = true) (wn : Addr) (d : Addr) (h0 : Heap) (n0 : Nat) (q : Addr) (es : Addr) (kE : ClassId) (lp : Int64) (hl : Int32) (ps : Int64) (X_wn : Exa Z h0 wn "com/example/partition_handoff/partitionhandoff/DeliveryWindow") (F_wn_delivered : Fld Z h0 wn "com/example/partition_handoff/partitionhandoff/DeliveryWindow" "delivered" "Ljava/util/Deque;" (.ref q)) (F_wn_unacknowledged : Fld Z h0 wn "com/example/partition_handoff/partitionhandoff/DeliveryWindow" "unacknowledged" "I" (.int (1 : Int32))) (F_wn_lastHandledPosition : Fld Z h0 wn "com/example/partition_handoff/partitionhandoff/DeliveryWindow" "lastHandledPosition" "J" (.long lp)) (F_wn_hasLastHandled : Fld Z h0 wn "com/example/partition_handoff/partitionhandoff/DeliveryWindow" "hasLastHandled" "Z" (.int hl)) (F_wn_handled : Fld Z h0 wn "com/example/partition_handoff/partitionhandoff/DeliveryWindow" "handled" "J" (.long (1 : Int64))) (n_wn : n0 ≤ wn) (X_q : Exa Z h0 q "java/util/ArrayDeque") (F_q_elements : Fld Z h0 q "java/util/ArrayDeque" "elements" "[Ljava/lang/Object;" (.ref es)) (F_q_head : Fld Z h0 q "java/util/ArrayDeque" "head" "I" (.int (1 : Int32))) (F_q_tail : Fld Z h0 q "java/util/ArrayDeque" "tail" "I" (.int (2 : Int32))) (n_q : n0 ≤ q) (V_es : Arf Z h0 es kE (.object "java/lang/Object") 17 (fun k => if k = 1 then .ref d else .null)) (O_es : Ovr Z kE "java/lang/Object") (n_es : n0 ≤ es) (X_d : Exa Z h0 d "com/example/partition_handoff/partitionhandoff/DeliveryWindow$Delivery") (F_d_position : Fld Z h0 d "com/example/partition_handoff/partitionhandoff/DeliveryWindow$Delivery" "position" "J" (.long ps)) (F_d_acknowledged : Fld Z h0 d "com/example/partition_handoff/partitionhandoff/DeliveryWindow$Delivery" "acknowledged" "Z" (.int (0 : Int32))) (F_d_takenBack : Fld Z h0 d "com/example/partition_handoff/partitionhandoff/DeliveryWindow$Delivery" "takenBack" "Z" (.int (0 : Int32))) (n_d : n0 ≤ d) (ne_wn_q : wn ≠ q) (ne_wn_d : wn ≠ d) (ne_q_d : q ≠ d) :
    Con l (⟨"com/example/partition_handoff/partitionhandoff/DeliveryWindow", "acknowledge", "(Lcom/example/partition_handoff/partitionhandoff/DeliveryWindow$Delivery;)Z"⟩ : MethodName) prog_8_method_9_code 2 (some .boolean) ({ frames := 3, cells := 0, slots := 0, locals := 43 } : Room) Z #[(.ref wn), (.ref d)] h0 n0 (fun o h => o = some (.int 1) ∧ Keep h0 h [wn, q, es, d] ∧ Fld Z h wn "com/example/partition_handoff/partitionhandoff/DeliveryWindow" "delivered" "Ljava/util/Deque;" (.ref q) ∧ Fld Z h wn "com/example/partition_handoff/partitionhandoff/DeliveryWindow" "unacknowledged" "I" (.int (0 : Int32)) ∧ Fld Z h wn "com/example/partition_handoff/partitionhandoff/DeliveryWindow" "lastHandledPosition" "J" (.long ps) ∧ Fld Z h wn "com/example/partition_handoff/partitionhandoff/DeliveryWindow" "hasLastHandled" "Z" (.int (1 : Int32)) ∧ Fld Z h wn "com/example/partition_handoff/partitionhandoff/DeliveryWindow" "handled" "J" (.long (2 : Int64)) ∧ Fld Z h q "java/util/ArrayDeque" "elements" "[Ljava/lang/Object;" (.ref es) ∧ Fld Z h q "java/util/ArrayDeque" "head" "I" (.int (2 : Int32)) ∧ Fld Z h q "java/util/ArrayDeque" "tail" "I" (.int (2 : Int32)) ∧ Arf Z h es kE (.object "java/lang/Object") 17 (fun _ => .null) ∧ Fld Z h d "com/example/partition_handoff/partitionhandoff/DeliveryWindow$Delivery" "position" "J" (.long ps) ∧ Fld Z h d "com/example/partition_handoff/partitionhandoff/DeliveryWindow$Delivery" "acknowledged" "Z" (.int (1 : Int32)) ∧ Fld Z h d "com/example/partition_handoff/partitionhandoff/DeliveryWindow$Delivery" "takenBack" "Z" (.int (0 : Int32))) := by
  refine Con.enter pl_ack1 (fun mm => ef_ack1 mm wn d) ?_
  intro K O C H
  have KK : Keep h0 h0 [wn, q, es, d] := Keep.refl h0 _
  have ne_es_wn : es ≠ wn := V_es.neX X_wn (hw _ (List.mem_of_getElem? (i := 1) rfl))
  have ne_es_q : es ≠ q := V_es.neX X_q (hw _ (List.mem_of_getElem? (i := 10) rfl))
  have ne_es_d : es ≠ d := V_es.neX X_d (hw _ (List.mem_of_getElem? (i := 31) rfl))
  replace H := k_aloadN C H dack1_0 rfl rfl (pc' := 1) rfl
  replace H := k_callPriR C H (rmuna l Z a0 hw d h0 n0 _ _ F_d_acknowledged F_d_takenBack) X_d (hw _ (List.mem_of_getElem? (i := 82) rfl)) (hw _ (List.mem_of_getElem? (i := 83) rfl)) (hw _ (List.mem_of_getElem? (i := 31) rfl)) (hw _ (List.mem_of_getElem? (i := 84) rfl)) (hw _ (List.mem_of_getElem? (i := 32) rfl)) (hw _ (List.mem_of_getElem? (i := 85) rfl)) (by decide) dack1_1 rfl [] [] pdack1_0 rfl rfl rfl 0 rfl (by decide) (by decide) (by decide) (by decide) (pc' := 4) rfl
  obtain ⟨_, _, ⟨rfl, rfl⟩, H⟩ := H
  replace H : K 4 #[.val (.ref wn), .val (.ref d)] [(.int (own_una (0 : Int32) (0 : Int32)))] h0 0 0 := H
  have lk : (own_una (0 : Int32) (0 : Int32)) = (1 : Int32) := by decide
  rw [lk] at H
  clear lk
  replace H : K 4 #[.val (.ref wn), .val (.ref d)] [(.int (1 : Int32))] h0 0 0 := H
  replace H := k_ifcY C H dack1_4 (feq (by decide : ¬ ((1 : Int32) = (0 : Int32)))).2 (by decide) (pc' := 9) rfl
  replace H := k_aloadN C H dack1_9 rfl rfl (pc' := 10) rfl
  replace H := k_iconst C H (v := 1) dack1_10 rfl (pc' := 11) rfl
  replace H := k_putFldR C H (hw _ (List.mem_of_getElem? (i := 86) rfl)) F_d_acknowledged X_d (hw _ (List.mem_of_getElem? (i := 45) rfl)) (hw _ (List.mem_of_getElem? (i := 31) rfl)) (ty := .boolean) (by decide) rfl rfl n_d dack1_11 (pc' := 14) rfl
  obtain ⟨j21, W_j21, H⟩ := H
  replace X_wn := X_wn.wr W_j21
  replace F_wn_delivered := F_wn_delivered.other W_j21 (Or.inl ne_wn_d)
  replace F_wn_unacknowledged := F_wn_unacknowledged.other W_j21 (Or.inl ne_wn_d)
  replace F_wn_lastHandledPosition := F_wn_lastHandledPosition.other W_j21 (Or.inl ne_wn_d)
  replace F_wn_hasLastHandled := F_wn_hasLastHandled.other W_j21 (Or.inl ne_wn_d)
  replace F_wn_handled := F_wn_handled.other W_j21 (Or.inl ne_wn_d)
  replace X_q := X_q.wr W_j21
  replace F_q_elements := F_q_elements.other W_j21 (Or.inl ne_q_d)
  replace F_q_head := F_q_head.other W_j21 (Or.inl ne_q_d)
  replace F_q_tail := F_q_tail.other W_j21 (Or.inl ne_q_d)
  replace V_es := V_es.other W_j21 ne_es_d
  replace X_d := X_d.wr W_j21
  replace F_d_position := F_d_position.other W_j21 (Or.inr (slot_ne (Or.inl (hw _ (List.mem_of_getElem? (i := 38) rfl))) (Or.inl (hw _ (List.mem_of_getElem? (i := 45) rfl))) (by decide) (t := .long) (t' := .boolean) (by decide) (by decide)))
  replace F_d_acknowledged := F_d_acknowledged.same W_j21
  replace F_d_takenBack := F_d_takenBack.other W_j21 (Or.inr (slot_ne (Or.inl (hw _ (List.mem_of_getElem? (i := 47) rfl))) (Or.inl (hw _ (List.mem_of_getElem? (i := 45) rfl))) (by decide) (t := .boolean) (t' := .boolean) (by decide) (by decide)))
  replace KK := KK.wr W_j21 (Or.inl (List.mem_of_getElem? (i := 3) rfl))
  replace H := k_aloadN C H dack1_14 rfl rfl (pc' := 15) rfl
  replace H := k_dup C H dack1_15 rfl (pc' := 16) rfl
  replace H := k_getFld C H (hw _ (List.mem_of_getElem? (i := 75) rfl)) F_wn_unacknowledged dack1_16 (pc' := 19) rfl
  replace H := k_iconst C H (v := 1) dack1_19 rfl (pc' := 20) rfl
  replace H := k_isub C H dack1_20 (pc' := 21) rfl
  replace H : K 21 #[.val (.ref wn), .val (.ref d)] [(.int (0 : Int32)), (.ref wn)] j21 0 0 := H
  replace H := k_putFld C H (hw _ (List.mem_of_getElem? (i := 75) rfl)) F_wn_unacknowledged X_wn (Or.inl (hw _ (List.mem_of_getElem? (i := 76) rfl))) (hw _ (List.mem_of_getElem? (i := 1) rfl)) (ty := .int) (by decide) (v' := (.int (0 : Int32))) rfl rfl n_wn dack1_21 (pc' := 24) rfl
  obtain ⟨j22, W_j22, H⟩ := H
  replace X_wn := X_wn.wr W_j22
  replace F_wn_delivered := F_wn_delivered.other W_j22 (Or.inr (slot_ne (Or.inr (hw _ (List.mem_of_getElem? (i := 27) rfl))) (Or.inl (hw _ (List.mem_of_getElem? (i := 76) rfl))) (by decide) (t := (.object "java/util/Deque")) (t' := .int) (by decide) (by decide)))
  replace F_wn_unacknowledged := F_wn_unacknowledged.same W_j22
  replace F_wn_lastHandledPosition := F_wn_lastHandledPosition.other W_j22 (Or.inr (slot_ne (Or.inl (hw _ (List.mem_of_getElem? (i := 123) rfl))) (Or.inl (hw _ (List.mem_of_getElem? (i := 76) rfl))) (by decide) (t := .long) (t' := .int) (by decide) (by decide)))
  replace F_wn_hasLastHandled := F_wn_hasLastHandled.other W_j22 (Or.inr (slot_ne (Or.inl (hw _ (List.mem_of_getElem? (i := 125) rfl))) (Or.inl (hw _ (List.mem_of_getElem? (i := 76) rfl))) (by decide) (t := .boolean) (t' := .int) (by decide) (by decide)))
  replace F_wn_handled := F_wn_handled.other W_j22 (Or.inr (slot_ne (Or.inl (hw _ (List.mem_of_getElem? (i := 127) rfl))) (Or.inl (hw _ (List.mem_of_getElem? (i := 76) rfl))) (by decide) (t := .long) (t' := .int) (by decide) (by decide)))
  replace X_q := X_q.wr W_j22
  replace F_q_elements := F_q_elements.other W_j22 (Or.inl (Ne.symm ne_wn_q))
  replace F_q_head := F_q_head.other W_j22 (Or.inl (Ne.symm ne_wn_q))
  replace F_q_tail := F_q_tail.other W_j22 (Or.inl (Ne.symm ne_wn_q))
  replace V_es := V_es.other W_j22 ne_es_wn
  replace X_d := X_d.wr W_j22
  replace F_d_position := F_d_position.other W_j22 (Or.inl (Ne.symm ne_wn_d))
  replace F_d_acknowledged := F_d_acknowledged.other W_j22 (Or.inl (Ne.symm ne_wn_d))
  replace F_d_takenBack := F_d_takenBack.other W_j22 (Or.inl (Ne.symm ne_wn_d))
  replace KK := KK.wr W_j22 (Or.inl (List.mem_of_getElem? (i := 0) rfl))
  replace H := k_aloadN C H dack1_24 rfl rfl (pc' := 25) rfl
  replace H := k_getFld C H (hw _ (List.mem_of_getElem? (i := 26) rfl)) F_wn_delivered dack1_25 (pc' := 28) rfl
  replace H := k_callIntUp C H (rmemp l Z a0 hw q j22 n0 _ _ F_q_head F_q_tail) X_q (hw _ (List.mem_of_getElem? (i := 87) rfl)) (hw _ (List.mem_of_getElem? (i := 88) rfl)) (hw _ (List.mem_of_getElem? (i := 89) rfl)) (hw _ (List.mem_of_getElem? (i := 90) rfl)) (hw _ (List.mem_of_getElem? (i := 91) rfl)) (hw _ (List.mem_of_getElem? (i := 92) rfl)) (hw _ (List.mem_of_getElem? (i := 93) rfl)) (hw _ (List.mem_of_getElem? (i := 65) rfl)) (hw _ (List.mem_of_getElem? (i := 11) rfl)) (hw _ (List.mem_of_getElem? (i := 94) rfl)) (by decide) (by decide) (by decide) dack1_28 rfl [] [] pdack1_0 rfl rfl rfl 0 rfl (by decide) (by decide) (by decide) (by decide) (pc' := 33) rfl
  obtain ⟨_, _, ⟨rfl, rfl⟩, H⟩ := H
  replace H : K 33 #[.val (.ref wn), .val (.ref d)] [(.int (own_emp (1 : Int32) (2 : Int32)))] j22 0 0 := H
  have lk : (own_emp (1 : Int32) (2 : Int32)) = (0 : Int32) := by decide
  rw [lk] at H
  clear lk
  replace H : K 33 #[.val (.ref wn), .val (.ref d)] [(.int (0 : Int32))] j22 0 0 := H
  replace H := k_ifcN C H dack1_33 (teq (by decide : (0 : Int32) = (0 : Int32))).2 (pc' := 36) rfl
  replace H := k_aloadN C H dack1_36 rfl rfl (pc' := 37) rfl
  replace H := k_getFld C H (hw _ (List.mem_of_getElem? (i := 26) rfl)) F_wn_delivered dack1_37 (pc' := 40) rfl
  replace H := k_callInt C H (rmgef1 l Z a0 hw q j22 n0 es kE d X_q F_q_elements F_q_head F_q_tail n_q V_es O_es n_es) X_q (hw _ (List.mem_of_getElem? (i := 95) rfl)) (hw _ (List.mem_of_getElem? (i := 96) rfl)) (hw _ (List.mem_of_getElem? (i := 97) rfl)) rfl (hw _ (List.mem_of_getElem? (i := 98) rfl)) (hw _ (List.mem_of_getElem? (i := 99) rfl)) (hw _ (List.mem_of_getElem? (i := 100) rfl)) (hw _ (List.mem_of_getElem? (i := 101) rfl)) (hw _ (List.mem_of_getElem? (i := 65) rfl)) (hw _ (List.mem_of_getElem? (i := 11) rfl)) (hw _ (List.mem_of_getElem? (i := 102) rfl)) (by decide) dack1_40 rfl [] [] pdack1_1 rfl rfl rfl 0 rfl (by decide) (by decide) (by decide) (by decide) (pc' := 45) rfl
  obtain ⟨_, _, ⟨rfl, rfl⟩, H⟩ := H
  replace H : K 45 #[.val (.ref wn), .val (.ref d)] [(.ref d)] j22 0 0 := H
  replace H := k_castYes C H (hw _ (List.mem_of_getElem? (i := 106) rfl)) (Ins.self X_d) dack1_45 (pc' := 48) rfl
  replace H := k_getFldR C H (hw _ (List.mem_of_getElem? (i := 86) rfl)) F_d_acknowledged dack1_48 (pc' := 51) rfl
  replace H := k_ifcN C H dack1_51 (feq (by decide : ¬ ((1 : Int32) = (0 : Int32)))).1 (pc' := 54) rfl
  replace H := k_aloadN C H dack1_54 rfl rfl (pc' := 55) rfl
  replace H := k_aloadN C H dack1_55 rfl rfl (pc' := 56) rfl
  replace H := k_getFld C H (hw _ (List.mem_of_getElem? (i := 26) rfl)) F_wn_delivered dack1_56 (pc' := 59) rfl
  replace H := k_callInt C H (rmrmf1 l Z a0 hw q j22 n0 es kE d X_q F_q_elements F_q_head F_q_tail n_q V_es O_es n_es) X_q (hw _ (List.mem_of_getElem? (i := 108) rfl)) (hw _ (List.mem_of_getElem? (i := 109) rfl)) (hw _ (List.mem_of_getElem? (i := 110) rfl)) rfl (hw _ (List.mem_of_getElem? (i := 111) rfl)) (hw _ (List.mem_of_getElem? (i := 112) rfl)) (hw _ (List.mem_of_getElem? (i := 113) rfl)) (hw _ (List.mem_of_getElem? (i := 114) rfl)) (hw _ (List.mem_of_getElem? (i := 65) rfl)) (hw _ (List.mem_of_getElem? (i := 11) rfl)) (hw _ (List.mem_of_getElem? (i := 115) rfl)) (by decide) dack1_59 rfl [] [(.ref wn)] pdack1_1 rfl rfl rfl 1 rfl (by decide) (by decide) (by decide) (by decide) (pc' := 64) rfl
  obtain ⟨_, j23, ⟨rfl, K_j23, F_q_elements', F_q_head', F_q_tail', V_es'⟩, H⟩ := H
  replace H : K 64 #[.val (.ref wn), .val (.ref d)] [(.ref d), (.ref wn)] j23 0 0 := H
  replace X_wn := X_wn.keep K_j23
  replace F_wn_delivered := F_wn_delivered.keep K_j23 (ninS ne_wn_q (ninS (Ne.symm ne_es_wn) nin0))
  replace F_wn_unacknowledged := F_wn_unacknowledged.keep K_j23 (ninS ne_wn_q (ninS (Ne.symm ne_es_wn) nin0))
  replace F_wn_lastHandledPosition := F_wn_lastHandledPosition.keep K_j23 (ninS ne_wn_q (ninS (Ne.symm ne_es_wn) nin0))
  replace F_wn_hasLastHandled := F_wn_hasLastHandled.keep K_j23 (ninS ne_wn_q (ninS (Ne.symm ne_es_wn) nin0))
  replace F_wn_handled := F_wn_handled.keep K_j23 (ninS ne_wn_q (ninS (Ne.symm ne_es_wn) nin0))
  replace X_q := X_q.keep K_j23
  replace X_d := X_d.keep K_j23
  replace F_d_position := F_d_position.keep K_j23 (ninS (Ne.symm ne_q_d) (ninS (Ne.symm ne_es_d) nin0))
  replace F_d_acknowledged := F_d_acknowledged.keep K_j23 (ninS (Ne.symm ne_q_d) (ninS (Ne.symm ne_es_d) nin0))
  replace F_d_takenBack := F_d_takenBack.keep K_j23 (ninS (Ne.symm ne_q_d) (ninS (Ne.symm ne_es_d) nin0))
  replace KK := KK.trans K_j23 (allS (Or.inl (List.mem_of_getElem? (i := 1) rfl)) (allS (Or.inl (List.mem_of_getElem? (i := 2) rfl)) all0))
  replace F_q_elements := F_q_elements'
  clear F_q_elements'
  replace F_q_head := F_q_head'
  clear F_q_head'
  replace F_q_tail := F_q_tail'
  clear F_q_tail'
  replace V_es := V_es'
  clear V_es'
  replace H := k_castYes C H (hw _ (List.mem_of_getElem? (i := 106) rfl)) (Ins.self X_d) dack1_64 (pc' := 67) rfl
  replace H := k_getFldR C H (hw _ (List.mem_of_getElem? (i := 121) rfl)) F_d_position dack1_67 (pc' := 70) rfl
  replace H := k_putFld C H (hw _ (List.mem_of_getElem? (i := 122) rfl)) F_wn_lastHandledPosition X_wn (Or.inl (hw _ (List.mem_of_getElem? (i := 123) rfl))) (hw _ (List.mem_of_getElem? (i := 1) rfl)) (ty := .long) (by decide) (v' := (.long ps)) rfl rfl n_wn dack1_70 (pc' := 73) rfl
  obtain ⟨j24, W_j24, H⟩ := H
  replace X_wn := X_wn.wr W_j24
  replace F_wn_delivered := F_wn_delivered.other W_j24 (Or.inr (slot_ne (Or.inr (hw _ (List.mem_of_getElem? (i := 27) rfl))) (Or.inl (hw _ (List.mem_of_getElem? (i := 123) rfl))) (by decide) (t := (.object "java/util/Deque")) (t' := .long) (by decide) (by decide)))
  replace F_wn_unacknowledged := F_wn_unacknowledged.other W_j24 (Or.inr (slot_ne (Or.inl (hw _ (List.mem_of_getElem? (i := 76) rfl))) (Or.inl (hw _ (List.mem_of_getElem? (i := 123) rfl))) (by decide) (t := .int) (t' := .long) (by decide) (by decide)))
  replace F_wn_lastHandledPosition := F_wn_lastHandledPosition.same W_j24
  replace F_wn_hasLastHandled := F_wn_hasLastHandled.other W_j24 (Or.inr (slot_ne (Or.inl (hw _ (List.mem_of_getElem? (i := 125) rfl))) (Or.inl (hw _ (List.mem_of_getElem? (i := 123) rfl))) (by decide) (t := .boolean) (t' := .long) (by decide) (by decide)))
  replace F_wn_handled := F_wn_handled.other W_j24 (Or.inr (slot_ne (Or.inl (hw _ (List.mem_of_getElem? (i := 127) rfl))) (Or.inl (hw _ (List.mem_of_getElem? (i := 123) rfl))) (by decide) (t := .long) (t' := .long) (by decide) (by decide)))
  replace X_q := X_q.wr W_j24
  replace X_d := X_d.wr W_j24
  replace F_d_position := F_d_position.other W_j24 (Or.inl (Ne.symm ne_wn_d))
  replace F_d_acknowledged := F_d_acknowledged.other W_j24 (Or.inl (Ne.symm ne_wn_d))
  replace F_d_takenBack := F_d_takenBack.other W_j24 (Or.inl (Ne.symm ne_wn_d))
  replace F_q_elements := F_q_elements.other W_j24 (Or.inl (Ne.symm ne_wn_q))
  replace F_q_head := F_q_head.other W_j24 (Or.inl (Ne.symm ne_wn_q))
  replace F_q_tail := F_q_tail.other W_j24 (Or.inl (Ne.symm ne_wn_q))
  replace V_es := V_es.other W_j24 ne_es_wn
  replace KK := KK.wr W_j24 (Or.inl (List.mem_of_getElem? (i := 0) rfl))
  replace H := k_aloadN C H dack1_73 rfl rfl (pc' := 74) rfl
  replace H := k_iconst C H (v := 1) dack1_74 rfl (pc' := 75) rfl
  replace H := k_putFld C H (hw _ (List.mem_of_getElem? (i := 124) rfl)) F_wn_hasLastHandled X_wn (Or.inl (hw _ (List.mem_of_getElem? (i := 125) rfl))) (hw _ (List.mem_of_getElem? (i := 1) rfl)) (ty := .boolean) (by decide) (v' := (.int (1 : Int32))) rfl rfl n_wn dack1_75 (pc' := 78) rfl
  obtain ⟨j25, W_j25, H⟩ := H
  replace X_wn := X_wn.wr W_j25
  replace F_wn_delivered := F_wn_delivered.other W_j25 (Or.inr (slot_ne (Or.inr (hw _ (List.mem_of_getElem? (i := 27) rfl))) (Or.inl (hw _ (List.mem_of_getElem? (i := 125) rfl))) (by decide) (t := (.object "java/util/Deque")) (t' := .boolean) (by decide) (by decide)))
  replace F_wn_unacknowledged := F_wn_unacknowledged.other W_j25 (Or.inr (slot_ne (Or.inl (hw _ (List.mem_of_getElem? (i := 76) rfl))) (Or.inl (hw _ (List.mem_of_getElem? (i := 125) rfl))) (by decide) (t := .int) (t' := .boolean) (by decide) (by decide)))
  replace F_wn_lastHandledPosition := F_wn_lastHandledPosition.other W_j25 (Or.inr (slot_ne (Or.inl (hw _ (List.mem_of_getElem? (i := 123) rfl))) (Or.inl (hw _ (List.mem_of_getElem? (i := 125) rfl))) (by decide) (t := .long) (t' := .boolean) (by decide) (by decide)))
  replace F_wn_hasLastHandled := F_wn_hasLastHandled.same W_j25
  replace F_wn_handled := F_wn_handled.other W_j25 (Or.inr (slot_ne (Or.inl (hw _ (List.mem_of_getElem? (i := 127) rfl))) (Or.inl (hw _ (List.mem_of_getElem? (i := 125) rfl))) (by decide) (t := .long) (t' := .boolean) (by decide) (by decide)))
  replace X_q := X_q.wr W_j25
  replace X_d := X_d.wr W_j25
  replace F_d_position := F_d_position.other W_j25 (Or.inl (Ne.symm ne_wn_d))
  replace F_d_acknowledged := F_d_acknowledged.other W_j25 (Or.inl (Ne.symm ne_wn_d))
  replace F_d_takenBack := F_d_takenBack.other W_j25 (Or.inl (Ne.symm ne_wn_d))
  replace F_q_elements := F_q_elements.other W_j25 (Or.inl (Ne.symm ne_wn_q))
  replace F_q_head := F_q_head.other W_j25 (Or.inl (Ne.symm ne_wn_q))
  replace F_q_tail := F_q_tail.other W_j25 (Or.inl (Ne.symm ne_wn_q))
  replace V_es := V_es.other W_j25 ne_es_wn
  replace KK := KK.wr W_j25 (Or.inl (List.mem_of_getElem? (i := 0) rfl))
  replace H := k_aloadN C H dack1_78 rfl rfl (pc' := 79) rfl
  replace H := k_dup C H dack1_79 rfl (pc' := 80) rfl
  replace H := k_getFld C H (hw _ (List.mem_of_getElem? (i := 126) rfl)) F_wn_handled dack1_80 (pc' := 83) rfl
  replace H := k_lconst C H (v := 1) dack1_83 rfl (pc' := 84) rfl
  replace H := k_ladd C H dack1_84 (pc' := 85) rfl
  replace H : K 85 #[.val (.ref wn), .val (.ref d)] [(.long (2 : Int64)), (.ref wn)] j25 0 0 := H
  replace H := k_putFld C H (hw _ (List.mem_of_getElem? (i := 126) rfl)) F_wn_handled X_wn (Or.inl (hw _ (List.mem_of_getElem? (i := 127) rfl))) (hw _ (List.mem_of_getElem? (i := 1) rfl)) (ty := .long) (by decide) (v' := (.long (2 : Int64))) rfl rfl n_wn dack1_85 (pc' := 88) rfl
  obtain ⟨j26, W_j26, H⟩ := H
  replace X_wn := X_wn.wr W_j26
  replace F_wn_delivered := F_wn_delivered.other W_j26 (Or.inr (slot_ne (Or.inr (hw _ (List.mem_of_getElem? (i := 27) rfl))) (Or.inl (hw _ (List.mem_of_getElem? (i := 127) rfl))) (by decide) (t := (.object "java/util/Deque")) (t' := .long) (by decide) (by decide)))
  replace F_wn_unacknowledged := F_wn_unacknowledged.other W_j26 (Or.inr (slot_ne (Or.inl (hw _ (List.mem_of_getElem? (i := 76) rfl))) (Or.inl (hw _ (List.mem_of_getElem? (i := 127) rfl))) (by decide) (t := .int) (t' := .long) (by decide) (by decide)))
  replace F_wn_lastHandledPosition := F_wn_lastHandledPosition.other W_j26 (Or.inr (slot_ne (Or.inl (hw _ (List.mem_of_getElem? (i := 123) rfl))) (Or.inl (hw _ (List.mem_of_getElem? (i := 127) rfl))) (by decide) (t := .long) (t' := .long) (by decide) (by decide)))
  replace F_wn_hasLastHandled := F_wn_hasLastHandled.other W_j26 (Or.inr (slot_ne (Or.inl (hw _ (List.mem_of_getElem? (i := 125) rfl))) (Or.inl (hw _ (List.mem_of_getElem? (i := 127) rfl))) (by decide) (t := .boolean) (t' := .long) (by decide) (by decide)))
  replace F_wn_handled := F_wn_handled.same W_j26
  replace X_q := X_q.wr W_j26
  replace X_d := X_d.wr W_j26
  replace F_d_position := F_d_position.other W_j26 (Or.inl (Ne.symm ne_wn_d))
  replace F_d_acknowledged := F_d_acknowledged.other W_j26 (Or.inl (Ne.symm ne_wn_d))
  replace F_d_takenBack := F_d_takenBack.other W_j26 (Or.inl (Ne.symm ne_wn_d))
  replace F_q_elements := F_q_elements.other W_j26 (Or.inl (Ne.symm ne_wn_q))
  replace F_q_head := F_q_head.other W_j26 (Or.inl (Ne.symm ne_wn_q))
  replace F_q_tail := F_q_tail.other W_j26 (Or.inl (Ne.symm ne_wn_q))
  replace V_es := V_es.other W_j26 ne_es_wn
  replace KK := KK.wr W_j26 (Or.inl (List.mem_of_getElem? (i := 0) rfl))
  replace H := k_goto C H dack1_88 (by decide) (pc' := 24) rfl
  replace H := k_aloadN C H dack1_24 rfl rfl (pc' := 25) rfl
  replace H := k_getFld C H (hw _ (List.mem_of_getElem? (i := 26) rfl)) F_wn_delivered dack1_25 (pc' := 28) rfl
  replace H := k_callIntUp C H (rmemp l Z a0 hw q j26 n0 _ _ F_q_head F_q_tail) X_q (hw _ (List.mem_of_getElem? (i := 87) rfl)) (hw _ (List.mem_of_getElem? (i := 88) rfl)) (hw _ (List.mem_of_getElem? (i := 89) rfl)) (hw _ (List.mem_of_getElem? (i := 90) rfl)) (hw _ (List.mem_of_getElem? (i := 91) rfl)) (hw _ (List.mem_of_getElem? (i := 92) rfl)) (hw _ (List.mem_of_getElem? (i := 93) rfl)) (hw _ (List.mem_of_getElem? (i := 65) rfl)) (hw _ (List.mem_of_getElem? (i := 11) rfl)) (hw _ (List.mem_of_getElem? (i := 94) rfl)) (by decide) (by decide) (by decide) dack1_28 rfl [] [] pdack1_0 rfl rfl rfl 0 rfl (by decide) (by decide) (by decide) (by decide) (pc' := 33) rfl
  obtain ⟨_, _, ⟨rfl, rfl⟩, H⟩ := H
  replace H : K 33 #[.val (.ref wn), .val (.ref d)] [(.int (own_emp (2 : Int32) (2 : Int32)))] j26 0 0 := H
  have lk : (own_emp (2 : Int32) (2 : Int32)) = (1 : Int32) := by decide
  rw [lk] at H
  clear lk
  replace H : K 33 #[.val (.ref wn), .val (.ref d)] [(.int (1 : Int32))] j26 0 0 := H
  replace H := k_ifcY C H dack1_33 (feq (by decide : ¬ ((1 : Int32) = (0 : Int32)))).2 (by decide) (pc' := 91) rfl
  replace H := k_iconst C H (v := 1) dack1_91 rfl (pc' := 92) rfl
  exact k_retZ C H dack1_92 (by decide) (by decide) (by decide) ⟨rfl, KK, F_wn_delivered, F_wn_unacknowledged, F_wn_lastHandledPosition, F_wn_hasLastHandled, F_wn_handled, F_q_elements, F_q_head, F_q_tail, V_es, F_d_position, F_d_acknowledged, F_d_takenBack⟩
theorem ddel_0 : decode jdk_21_method_36_code 0 = .ok (.aload_n 0, 1) := by decide +kernel
theorem ddel_1 : decode jdk_21_method_36_code 1 = .ok (.getfield 3, 3) := by decide +kernel
theorem ddel_4 : decode jdk_21_method_36_code 4 = .ok (.astore_n 2, 1) := by decide +kernel
theorem ddel_5 : decode jdk_21_method_36_code 5 = .ok (.aload_n 2, 1) := by decide +kernel
theorem ddel_6 : decode jdk_21_method_36_code 6 = .ok (.arraylength, 1) := by decide +kernel
theorem ddel_7 : decode jdk_21_method_36_code 7 = .ok (.istore_n 3, 1) := by decide +kernel
theorem ddel_8 : decode jdk_21_method_36_code 8 = .ok (.iload_n 1, 1) := by decide +kernel
theorem ddel_9 : decode jdk_21_method_36_code 9 = .ok (.aload_n 0, 1) := by decide +kernel
theorem ddel_10 : decode jdk_21_method_36_code 10 = .ok (.getfield 24, 3) := by decide +kernel
theorem ddel_13 : decode jdk_21_method_36_code 13 = .ok (.dup, 1) := by decide +kernel
theorem ddel_14 : decode jdk_21_method_36_code 14 = .ok (.istore 4, 2) := by decide +kernel
theorem ddel_16 : decode jdk_21_method_36_code 16 = .ok (.iload_n 3, 1) := by decide +kernel
theorem ddel_17 : decode jdk_21_method_36_code 17 = .ok (.invokestatic 127, 3) := by decide +kernel
theorem ddel_20 : decode jdk_21_method_36_code 20 = .ok (.istore 6, 2) := by decide +kernel
theorem ddel_22 : decode jdk_21_method_36_code 22 = .ok (.aload_n 0, 1) := by decide +kernel
theorem ddel_23 : decode jdk_21_method_36_code 23 = .ok (.getfield 20, 3) := by decide +kernel
theorem ddel_26 : decode jdk_21_method_36_code 26 = .ok (.dup, 1) := by decide +kernel
theorem ddel_27 : decode jdk_21_method_36_code 27 = .ok (.istore 5, 2) := by decide +kernel
theorem ddel_29 : decode jdk_21_method_36_code 29 = .ok (.iload_n 1, 1) := by decide +kernel
theorem ddel_30 : decode jdk_21_method_36_code 30 = .ok (.iload_n 3, 1) := by decide +kernel
theorem ddel_31 : decode jdk_21_method_36_code 31 = .ok (.invokestatic 127, 3) := by decide +kernel
theorem ddel_34 : decode jdk_21_method_36_code 34 = .ok (.iconst 1, 1) := by decide +kernel
theorem ddel_35 : decode jdk_21_method_36_code 35 = .ok (.isub, 1) := by decide +kernel
theorem ddel_36 : decode jdk_21_method_36_code 36 = .ok (.istore 7, 2) := by decide +kernel
theorem ddel_38 : decode jdk_21_method_36_code 38 = .ok (.iload 6, 2) := by decide +kernel
theorem ddel_40 : decode jdk_21_method_36_code 40 = .ok (.iload 7, 2) := by decide +kernel
theorem ddel_42 : decode jdk_21_method_36_code 42 = .ok (.if_icmp .ge 75, 3) := by decide +kernel
theorem ddel_117 : decode jdk_21_method_36_code 117 = .ok (.aload_n 0, 1) := by decide +kernel
theorem ddel_118 : decode jdk_21_method_36_code 118 = .ok (.iload 5, 2) := by decide +kernel
theorem ddel_120 : decode jdk_21_method_36_code 120 = .ok (.iload_n 3, 1) := by decide +kernel
theorem ddel_121 : decode jdk_21_method_36_code 121 = .ok (.invokestatic 68, 3) := by decide +kernel
theorem ddel_124 : decode jdk_21_method_36_code 124 = .ok (.putfield 20, 3) := by decide +kernel
theorem ddel_127 : decode jdk_21_method_36_code 127 = .ok (.iload_n 1, 1) := by decide +kernel
theorem ddel_128 : decode jdk_21_method_36_code 128 = .ok (.aload_n 0, 1) := by decide +kernel
theorem ddel_129 : decode jdk_21_method_36_code 129 = .ok (.getfield 20, 3) := by decide +kernel
theorem ddel_132 : decode jdk_21_method_36_code 132 = .ok (.if_icmp .gt 17, 3) := by decide +kernel
theorem ddel_135 : decode jdk_21_method_36_code 135 = .ok (.aload_n 2, 1) := by decide +kernel
theorem ddel_136 : decode jdk_21_method_36_code 136 = .ok (.iload_n 1, 1) := by decide +kernel
theorem ddel_137 : decode jdk_21_method_36_code 137 = .ok (.iconst 1, 1) := by decide +kernel
theorem ddel_138 : decode jdk_21_method_36_code 138 = .ok (.iadd, 1) := by decide +kernel
theorem ddel_139 : decode jdk_21_method_36_code 139 = .ok (.aload_n 2, 1) := by decide +kernel
theorem ddel_140 : decode jdk_21_method_36_code 140 = .ok (.iload_n 1, 1) := by decide +kernel
theorem ddel_141 : decode jdk_21_method_36_code 141 = .ok (.iload 7, 2) := by decide +kernel
theorem ddel_143 : decode jdk_21_method_36_code 143 = .ok (.invokestatic 27, 3) := by decide +kernel
theorem ddel_146 : decode jdk_21_method_36_code 146 = .ok (.goto 36, 3) := by decide +kernel
theorem ddel_182 : decode jdk_21_method_36_code 182 = .ok (.aload_n 2, 1) := by decide +kernel
theorem ddel_183 : decode jdk_21_method_36_code 183 = .ok (.aload_n 0, 1) := by decide +kernel
theorem ddel_184 : decode jdk_21_method_36_code 184 = .ok (.getfield 20, 3) := by decide +kernel
theorem ddel_187 : decode jdk_21_method_36_code 187 = .ok (.aconst_null, 1) := by decide +kernel
theorem ddel_188 : decode jdk_21_method_36_code 188 = .ok (.aastore, 1) := by decide +kernel
theorem ddel_189 : decode jdk_21_method_36_code 189 = .ok (.iconst 1, 1) := by decide +kernel
theorem ddel_190 : decode jdk_21_method_36_code 190 = .ok (.ireturn, 1) := by decide +kernel
theorem pddel_0 : parseMethodDescriptor "(III)I" = some ⟨[.int, .int, .int], some .int⟩ := by decide +kernel
theorem pddel_1 : parseMethodDescriptor "(II)I" = some ⟨[.int, .int], some .int⟩ := by decide +kernel
theorem pl_del : plainFor (⟨"java/util/ArrayDeque", "delete", "(I)Z"⟩ : MethodName) = true := plainFor_of_name (by first | (simp [plainName, overriddenIn]; done) | decide +kernel)
theorem ef_del (mm : MethodId) (q : Addr) (p2 : Int32) : entryFrame mm #[(.ref q), (.int p2)] 8 = mkF mm 0 #[.val (.ref q), .val (.int p2), .unset, .unset, .unset, .unset, .unset, .unset] [] := by first | (simp [entryFrame, mkF, argsToLocals, Value.category]; done) | rfl
set_option maxRecDepth 65536 in
set_option maxHeartbeats 40000000 in
theorem rmdel (l : Launch) (Z : State) (a0 : Array Value) (hw : ∀ d ∈ tables_1, d.before a0 Z = true) (q : Addr) (p2 : Int32) (h0 : Heap) (n0 : Nat) (hp : p2 = (0 : Int32)) (es : Addr) (kE : ClassId) (d : Addr) (X_q : Exa Z h0 q "java/util/ArrayDeque") (F_q_elements : Fld Z h0 q "java/util/ArrayDeque" "elements" "[Ljava/lang/Object;" (.ref es)) (F_q_head : Fld Z h0 q "java/util/ArrayDeque" "head" "I" (.int (0 : Int32))) (F_q_tail : Fld Z h0 q "java/util/ArrayDeque" "tail" "I" (.int (1 : Int32))) (n_q : n0 ≤ q) (V_es : Arf Z h0 es kE (.object "java/lang/Object") 17 (fun k => if k = 0 then .ref d else .null)) (O_es : Ovr Z kE "java/lang/Object") (n_es : n0 ≤ es) :
    Con l (⟨"java/util/ArrayDeque", "delete", "(I)Z"⟩ : MethodName) jdk_21_method_36_code 8 (some .boolean) ({ frames := 1, cells := 0, slots := 0, locals := 40 } : Room) Z #[(.ref q), (.int p2)] h0 n0 (fun o h => o = some (.int 1) ∧ Keep h0 h [q, es] ∧ Fld Z h q "java/util/ArrayDeque" "elements" "[Ljava/lang/Object;" (.ref es) ∧ Fld Z h q "java/util/ArrayDeque" "head" "I" (.int (0 : Int32)) ∧ Fld Z h q "java/util/ArrayDeque" "tail" "I" (.int (0 : Int32)) ∧ Arf Z h es kE (.object "java/lang/Object") 17 (fun _ => .null)) := by
  refine Con.enter pl_del (fun mm => ef_del mm q p2) ?_
  intro K O C H
  subst hp
  replace H : K 0 #[.val (.ref q), .val (.int (0 : Int32)), .unset, .unset, .unset, .unset, .unset, .unset] [] h0 0 0 := H
  have KK : Keep h0 h0 [q, es] := Keep.refl h0 _
  have ne_es_q : es ≠ q := V_es.neX X_q (hw _ (List.mem_of_getElem? (i := 10) rfl))
  replace H := k_aloadN C H ddel_0 rfl rfl (pc' := 1) rfl
  replace H := k_getFld C H (hw _ (List.mem_of_getElem? (i := 24) rfl)) F_q_elements ddel_1 (pc' := 4) rfl
  replace H := k_astoreN C H ddel_4 (L' := #[.val (.ref q), .val (.int (0 : Int32)), .val (.ref es), .unset, .unset, .unset, .unset, .unset]) rfl rfl (pc' := 5) rfl
  replace H := k_aloadN C H ddel_5 rfl rfl (pc' := 6) rfl
  replace H := k_arflen C H V_es ddel_6 (pc' := 7) rfl
  replace H : K 7 #[.val (.ref q), .val (.int (0 : Int32)), .val (.ref es), .unset, .unset, .unset, .unset, .unset] [(.int (17 : Int32))] h0 0 0 := H
  replace H := k_istoreN C H ddel_7 (L' := #[.val (.ref q), .val (.int (0 : Int32)), .val (.ref es), .val (.int (17 : Int32)), .unset, .unset, .unset, .unset]) rfl (pc' := 8) rfl
  replace H := k_iloadN C H ddel_8 rfl (pc' := 9) rfl
  replace H := k_aloadN C H ddel_9 rfl rfl (pc' := 10) rfl
  replace H := k_getFld C H (hw _ (List.mem_of_getElem? (i := 70) rfl)) F_q_head ddel_10 (pc' := 13) rfl
  replace H := k_dup C H ddel_13 rfl (pc' := 14) rfl
  replace H := k_istore C H ddel_14 (L' := #[.val (.ref q), .val (.int (0 : Int32)), .val (.ref es), .val (.int (17 : Int32)), .val (.int (0 : Int32)), .unset, .unset, .unset]) rfl (pc' := 16) rfl
  replace H := k_iloadN C H ddel_16 rfl (pc' := 17) rfl
  replace H := k_callSta C H (rmsub l Z a0 hw (0 : Int32) (0 : Int32) (17 : Int32) h0 n0 ) (hw _ (List.mem_of_getElem? (i := 167) rfl)) (hw _ (List.mem_of_getElem? (i := 168) rfl)) (hw _ (List.mem_of_getElem? (i := 11) rfl)) (hw _ (List.mem_of_getElem? (i := 169) rfl)) (by decide) ddel_17 rfl [(.int (0 : Int32)), (.int (0 : Int32)), (.int (17 : Int32))] [] pddel_0 rfl rfl rfl 0 rfl (by decide) (by decide) (by decide) (by decide) (pc' := 20) rfl
  obtain ⟨_, _, ⟨rfl, rfl⟩, H⟩ := H
  replace H : K 20 #[.val (.ref q), .val (.int (0 : Int32)), .val (.ref es), .val (.int (17 : Int32)), .val (.int (0 : Int32)), .unset, .unset, .unset] [(.int (own_sub (0 : Int32) (0 : Int32) (17 : Int32)))] h0 0 0 := H
  have lk : (own_sub (0 : Int32) (0 : Int32) (17 : Int32)) = (0 : Int32) := by decide
  rw [lk] at H
  clear lk
  replace H : K 20 #[.val (.ref q), .val (.int (0 : Int32)), .val (.ref es), .val (.int (17 : Int32)), .val (.int (0 : Int32)), .unset, .unset, .unset] [(.int (0 : Int32))] h0 0 0 := H
  replace H := k_istore C H ddel_20 (L' := #[.val (.ref q), .val (.int (0 : Int32)), .val (.ref es), .val (.int (17 : Int32)), .val (.int (0 : Int32)), .unset, .val (.int (0 : Int32)), .unset]) rfl (pc' := 22) rfl
  replace H := k_aloadN C H ddel_22 rfl rfl (pc' := 23) rfl
  replace H := k_getFld C H (hw _ (List.mem_of_getElem? (i := 67) rfl)) F_q_tail ddel_23 (pc' := 26) rfl
  replace H := k_dup C H ddel_26 rfl (pc' := 27) rfl
  replace H := k_istore C H ddel_27 (L' := #[.val (.ref q), .val (.int (0 : Int32)), .val (.ref es), .val (.int (17 : Int32)), .val (.int (0 : Int32)), .val (.int (1 : Int32)), .val (.int (0 : Int32)), .unset]) rfl (pc' := 29) rfl
  replace H := k_iloadN C H ddel_29 rfl (pc' := 30) rfl
  replace H := k_iloadN C H ddel_30 rfl (pc' := 31) rfl
  replace H := k_callSta C H (rmsub l Z a0 hw (1 : Int32) (0 : Int32) (17 : Int32) h0 n0 ) (hw _ (List.mem_of_getElem? (i := 167) rfl)) (hw _ (List.mem_of_getElem? (i := 168) rfl)) (hw _ (List.mem_of_getElem? (i := 11) rfl)) (hw _ (List.mem_of_getElem? (i := 169) rfl)) (by decide) ddel_31 rfl [(.int (1 : Int32)), (.int (0 : Int32)), (.int (17 : Int32))] [] pddel_0 rfl rfl rfl 0 rfl (by decide) (by decide) (by decide) (by decide) (pc' := 34) rfl
  obtain ⟨_, _, ⟨rfl, rfl⟩, H⟩ := H
  replace H : K 34 #[.val (.ref q), .val (.int (0 : Int32)), .val (.ref es), .val (.int (17 : Int32)), .val (.int (0 : Int32)), .val (.int (1 : Int32)), .val (.int (0 : Int32)), .unset] [(.int (own_sub (1 : Int32) (0 : Int32) (17 : Int32)))] h0 0 0 := H
  have lk : (own_sub (1 : Int32) (0 : Int32) (17 : Int32)) = (1 : Int32) := by decide
  rw [lk] at H
  clear lk
  replace H : K 34 #[.val (.ref q), .val (.int (0 : Int32)), .val (.ref es), .val (.int (17 : Int32)), .val (.int (0 : Int32)), .val (.int (1 : Int32)), .val (.int (0 : Int32)), .unset] [(.int (1 : Int32))] h0 0 0 := H
  replace H := k_iconst C H (v := 1) ddel_34 rfl (pc' := 35) rfl
  replace H := k_isub C H ddel_35 (pc' := 36) rfl
  replace H : K 36 #[.val (.ref q), .val (.int (0 : Int32)), .val (.ref es), .val (.int (17 : Int32)), .val (.int (0 : Int32)), .val (.int (1 : Int32)), .val (.int (0 : Int32)), .unset] [(.int (0 : Int32))] h0 0 0 := H
  replace H := k_istore C H ddel_36 (L' := #[.val (.ref q), .val (.int (0 : Int32)), .val (.ref es), .val (.int (17 : Int32)), .val (.int (0 : Int32)), .val (.int (1 : Int32)), .val (.int (0 : Int32)), .val (.int (0 : Int32))]) rfl (pc' := 38) rfl
  replace H := k_iload C H ddel_38 rfl (pc' := 40) rfl
  replace H := k_iload C H ddel_40 rfl (pc' := 42) rfl
  replace H := k_icmpY C H ddel_42 (flt (by decide : ¬ ((0 : Int32) < (0 : Int32)))).2.1 (by decide) (pc' := 117) rfl
  replace H := k_aloadN C H ddel_117 rfl rfl (pc' := 118) rfl
  replace H := k_iload C H ddel_118 rfl (pc' := 120) rfl
  replace H := k_iloadN C H ddel_120 rfl (pc' := 121) rfl
  replace H := k_callSta C H (rmdec l Z a0 hw (1 : Int32) (17 : Int32) h0 n0 ) (hw _ (List.mem_of_getElem? (i := 170) rfl)) (hw _ (List.mem_of_getElem? (i := 171) rfl)) (hw _ (List.mem_of_getElem? (i := 11) rfl)) (hw _ (List.mem_of_getElem? (i := 172) rfl)) (by decide) ddel_121 rfl [(.int (1 : Int32)), (.int (17 : Int32))] [(.ref q)] pddel_1 rfl rfl rfl 1 rfl (by decide) (by decide) (by decide) (by decide) (pc' := 124) rfl
  obtain ⟨_, _, ⟨rfl, rfl⟩, H⟩ := H
  replace H : K 124 #[.val (.ref q), .val (.int (0 : Int32)), .val (.ref es), .val (.int (17 : Int32)), .val (.int (0 : Int32)), .val (.int (1 : Int32)), .val (.int (0 : Int32)), .val (.int (0 : Int32))] [(.int (own_dec (1 : Int32) (17 : Int32))), (.ref q)] h0 0 0 := H
  have lk : (own_dec (1 : Int32) (17 : Int32)) = (0 : Int32) := by decide
  rw [lk] at H
  clear lk
  replace H : K 124 #[.val (.ref q), .val (.int (0 : Int32)), .val (.ref es), .val (.int (17 : Int32)), .val (.int (0 : Int32)), .val (.int (1 : Int32)), .val (.int (0 : Int32)), .val (.int (0 : Int32))] [(.int (0 : Int32)), (.ref q)] h0 0 0 := H
  replace H := k_putFld C H (hw _ (List.mem_of_getElem? (i := 67) rfl)) F_q_tail X_q (Or.inl (hw _ (List.mem_of_getElem? (i := 68) rfl))) (hw _ (List.mem_of_getElem? (i := 10) rfl)) (ty := .int) (by decide) (v' := (.int (0 : Int32))) rfl rfl n_q ddel_124 (pc' := 127) rfl
  obtain ⟨j27, W_j27, H⟩ := H
  replace X_q := X_q.wr W_j27
  replace F_q_elements := F_q_elements.other W_j27 (Or.inr (slot_ne (Or.inl (hw _ (List.mem_of_getElem? (i := 25) rfl))) (Or.inl (hw _ (List.mem_of_getElem? (i := 68) rfl))) (by decide) (t := (.array (.object "java/lang/Object"))) (t' := .int) (by decide) (by decide)))
  replace F_q_head := F_q_head.other W_j27 (Or.inr (slot_ne (Or.inl (hw _ (List.mem_of_getElem? (i := 71) rfl))) (Or.inl (hw _ (List.mem_of_getElem? (i := 68) rfl))) (by decide) (t := .int) (t' := .int) (by decide) (by decide)))
  replace F_q_tail := F_q_tail.same W_j27
  replace V_es := V_es.other W_j27 ne_es_q
  replace KK := KK.wr W_j27 (Or.inl (List.mem_of_getElem? (i := 0) rfl))
  replace H := k_iloadN C H ddel_127 rfl (pc' := 128) rfl
  replace H := k_aloadN C H ddel_128 rfl rfl (pc' := 129) rfl
  replace H := k_getFld C H (hw _ (List.mem_of_getElem? (i := 67) rfl)) F_q_tail ddel_129 (pc' := 132) rfl
  replace H := k_icmpN C H ddel_132 (flt (by decide : ¬ ((0 : Int32) < (0 : Int32)))).2.2.1 (pc' := 135) rfl
  replace H := k_aloadN C H ddel_135 rfl rfl (pc' := 136) rfl
  replace H := k_iloadN C H ddel_136 rfl (pc' := 137) rfl
  replace H := k_iconst C H (v := 1) ddel_137 rfl (pc' := 138) rfl
  replace H := k_iadd C H ddel_138 (pc' := 139) rfl
  replace H : K 139 #[.val (.ref q), .val (.int (0 : Int32)), .val (.ref es), .val (.int (17 : Int32)), .val (.int (0 : Int32)), .val (.int (1 : Int32)), .val (.int (0 : Int32)), .val (.int (0 : Int32))] [(.int (1 : Int32)), (.ref es)] j27 0 0 := H
  replace H := k_aloadN C H ddel_139 rfl rfl (pc' := 140) rfl
  replace H := k_iloadN C H ddel_140 rfl (pc' := 141) rfl
  replace H := k_iload C H ddel_141 rfl (pc' := 143) rfl
  replace H := k_copyR0 C H V_es rfl (fun i _ => by by_cases q : i = 0 <;> simp [q, fits]) (sp := 1) (dp := 0) (by decide) (by decide) (by decide) (by decide) n_es (hw _ (List.mem_of_getElem? (i := 173) rfl)) (hw _ (List.mem_of_getElem? (i := 176) rfl)) (hw _ (List.mem_of_getElem? (i := 174) rfl)) (hw _ (List.mem_of_getElem? (i := 175) rfl)) ddel_143 rfl (by decide) 0 rfl (by decide) (pc' := 146) rfl
  obtain ⟨j28, K_j28, V_es', H⟩ := H
  replace H : K 146 #[.val (.ref q), .val (.int (0 : Int32)), .val (.ref es), .val (.int (17 : Int32)), .val (.int (0 : Int32)), .val (.int (1 : Int32)), .val (.int (0 : Int32)), .val (.int (0 : Int32))] [] j28 0 0 := H
  replace X_q := X_q.keep K_j28
  replace F_q_elements := F_q_elements.keep K_j28 (ninS (Ne.symm ne_es_q) nin0)
  replace F_q_head := F_q_head.keep K_j28 (ninS (Ne.symm ne_es_q) nin0)
  replace F_q_tail := F_q_tail.keep K_j28 (ninS (Ne.symm ne_es_q) nin0)
  replace KK := KK.trans K_j28 (allS (Or.inl (List.mem_of_getElem? (i := 1) rfl)) all0)
  replace V_es := V_es'
  clear V_es'
  replace H := k_goto C H ddel_146 (by decide) (pc' := 182) rfl
  replace H := k_aloadN C H ddel_182 rfl rfl (pc' := 183) rfl
  replace H := k_aloadN C H ddel_183 rfl rfl (pc' := 184) rfl
  replace H := k_getFld C H (hw _ (List.mem_of_getElem? (i := 67) rfl)) F_q_tail ddel_184 (pc' := 187) rfl
  replace H := k_anull C H ddel_187 (pc' := 188) rfl
  replace H := k_aastore C H V_es rfl (Or.inl rfl) (i := 0) (by decide) (by decide) n_es ddel_188 (pc' := 189) rfl
  obtain ⟨j29, W_j29, V_es, H⟩ := H
  replace X_q := X_q.wr W_j29
  replace F_q_elements := F_q_elements.other W_j29 (Or.inl (Ne.symm ne_es_q))
  replace F_q_head := F_q_head.other W_j29 (Or.inl (Ne.symm ne_es_q))
  replace F_q_tail := F_q_tail.other W_j29 (Or.inl (Ne.symm ne_es_q))
  replace KK := KK.wr W_j29 (Or.inl (List.mem_of_getElem? (i := 1) rfl))
  replace H := k_iconst C H (v := 1) ddel_189 rfl (pc' := 190) rfl
  replace V_es : Arf Z j29 es kE (.object "java/lang/Object") 17 (fun _ => .null) := V_es.congr (fun k _ => by by_cases q : k = 0 <;> simp [q])
  exact k_retZ C H ddel_190 (by decide) (by decide) (by decide) ⟨rfl, KK, F_q_elements, F_q_head, F_q_tail, V_es⟩
theorem drlo_0 : decode jdk_21_method_27_code 0 = .ok (.aload_n 1, 1) := by decide +kernel
theorem drlo_1 : decode jdk_21_method_27_code 1 = .ok (.ifnull 88, 3) := by decide +kernel
theorem drlo_4 : decode jdk_21_method_27_code 4 = .ok (.aload_n 0, 1) := by decide +kernel
theorem drlo_5 : decode jdk_21_method_27_code 5 = .ok (.getfield 3, 3) := by decide +kernel
theorem drlo_8 : decode jdk_21_method_27_code 8 = .ok (.astore_n 2, 1) := by decide +kernel
theorem drlo_9 : decode jdk_21_method_27_code 9 = .ok (.aload_n 0, 1) := by decide +kernel
theorem drlo_10 : decode jdk_21_method_27_code 10 = .ok (.getfield 20, 3) := by decide +kernel
theorem drlo_13 : decode jdk_21_method_27_code 13 = .ok (.istore_n 3, 1) := by decide +kernel
theorem drlo_14 : decode jdk_21_method_27_code 14 = .ok (.aload_n 0, 1) := by decide +kernel
theorem drlo_15 : decode jdk_21_method_27_code 15 = .ok (.getfield 24, 3) := by decide +kernel
theorem drlo_18 : decode jdk_21_method_27_code 18 = .ok (.istore 4, 2) := by decide +kernel
theorem drlo_20 : decode jdk_21_method_27_code 20 = .ok (.iload_n 3, 1) := by decide +kernel
theorem drlo_21 : decode jdk_21_method_27_code 21 = .ok (.iload 4, 2) := by decide +kernel
theorem drlo_23 : decode jdk_21_method_27_code 23 = .ok (.if_icmp .lt 8, 3) := by decide +kernel
theorem drlo_26 : decode jdk_21_method_27_code 26 = .ok (.iload 4, 2) := by decide +kernel
theorem drlo_28 : decode jdk_21_method_27_code 28 = .ok (.goto 4, 3) := by decide +kernel
theorem drlo_32 : decode jdk_21_method_27_code 32 = .ok (.istore 5, 2) := by decide +kernel
theorem drlo_34 : decode jdk_21_method_27_code 34 = .ok (.iinc 3 (-1), 3) := by decide +kernel
theorem drlo_37 : decode jdk_21_method_27_code 37 = .ok (.iload_n 3, 1) := by decide +kernel
theorem drlo_38 : decode jdk_21_method_27_code 38 = .ok (.iload 5, 2) := by decide +kernel
theorem drlo_40 : decode jdk_21_method_27_code 40 = .ok (.iconst 1, 1) := by decide +kernel
theorem drlo_41 : decode jdk_21_method_27_code 41 = .ok (.isub, 1) := by decide +kernel
theorem drlo_42 : decode jdk_21_method_27_code 42 = .ok (.if_icmp .le 27, 3) := by decide +kernel
theorem drlo_45 : decode jdk_21_method_27_code 45 = .ok (.aload_n 1, 1) := by decide +kernel
theorem drlo_46 : decode jdk_21_method_27_code 46 = .ok (.aload_n 2, 1) := by decide +kernel
theorem drlo_47 : decode jdk_21_method_27_code 47 = .ok (.iload_n 3, 1) := by decide +kernel
theorem drlo_48 : decode jdk_21_method_27_code 48 = .ok (.aaload, 1) := by decide +kernel
theorem drlo_49 : decode jdk_21_method_27_code 49 = .ok (.invokevirtual 107, 3) := by decide +kernel
theorem drlo_52 : decode jdk_21_method_27_code 52 = .ok (.ifCond .eq 11, 3) := by decide +kernel
theorem drlo_55 : decode jdk_21_method_27_code 55 = .ok (.aload_n 0, 1) := by decide +kernel
theorem drlo_56 : decode jdk_21_method_27_code 56 = .ok (.iload_n 3, 1) := by decide +kernel
theorem drlo_57 : decode jdk_21_method_27_code 57 = .ok (.invokevirtual 111, 3) := by decide +kernel
theorem drlo_60 : decode jdk_21_method_27_code 60 = .ok (.pop, 1) := by decide +kernel
theorem drlo_61 : decode jdk_21_method_27_code 61 = .ok (.iconst 1, 1) := by decide +kernel
theorem drlo_62 : decode jdk_21_method_27_code 62 = .ok (.ireturn, 1) := by decide +kernel
theorem pdrlo_0 : parseMethodDescriptor "(I)Z" = some ⟨[.int], some .boolean⟩ := by decide +kernel
theorem pl_rlo : plainFor (⟨"java/util/ArrayDeque", "removeLastOccurrence", "(Ljava/lang/Object;)Z"⟩ : MethodName) = true := plainFor_of_name (by first | (simp [plainName, overriddenIn]; done) | decide +kernel)
theorem ef_rlo (mm : MethodId) (q : Addr) (d : Addr) : entryFrame mm #[(.ref q), (.ref d)] 6 = mkF mm 0 #[.val (.ref q), .val (.ref d), .unset, .unset, .unset, .unset] [] := by first | (simp [entryFrame, mkF, argsToLocals, Value.category]; done) | rfl
set_option maxRecDepth 65536 in
set_option maxHeartbeats 40000000 in
theorem rmrlo (l : Launch) (Z : State) (a0 : Array Value) (hw : ∀ d ∈ tables_1, d.before a0 Z = true) (q : Addr) (d : Addr) (h0 : Heap) (n0 : Nat) (es : Addr) (kE : ClassId) (ps : Int64) (ak : Int32) (tb : Int32) (X_q : Exa Z h0 q "java/util/ArrayDeque") (F_q_elements : Fld Z h0 q "java/util/ArrayDeque" "elements" "[Ljava/lang/Object;" (.ref es)) (F_q_head : Fld Z h0 q "java/util/ArrayDeque" "head" "I" (.int (0 : Int32))) (F_q_tail : Fld Z h0 q "java/util/ArrayDeque" "tail" "I" (.int (1 : Int32))) (n_q : n0 ≤ q) (V_es : Arf Z h0 es kE (.object "java/lang/Object") 17 (fun k => if k = 0 then .ref d else .null)) (O_es : Ovr Z kE "java/lang/Object") (n_es : n0 ≤ es) (X_d : Exa Z h0 d "com/example/partition_handoff/partitionhandoff/DeliveryWindow$Delivery") (F_d_position : Fld Z h0 d "com/example/partition_handoff/partitionhandoff/DeliveryWindow$Delivery" "position" "J" (.long ps)) (F_d_acknowledged : Fld Z h0 d "com/example/partition_handoff/partitionhandoff/DeliveryWindow$Delivery" "acknowledged" "Z" (.int ak)) (F_d_takenBack : Fld Z h0 d "com/example/partition_handoff/partitionhandoff/DeliveryWindow$Delivery" "takenBack" "Z" (.int tb)) (n_d : n0 ≤ d) (ne_q_d : q ≠ d) :
    Con l (⟨"java/util/ArrayDeque", "removeLastOccurrence", "(Ljava/lang/Object;)Z"⟩ : MethodName) jdk_21_method_27_code 6 (some .boolean) ({ frames := 2, cells := 0, slots := 0, locals := 59 } : Room) Z #[(.ref q), (.ref d)] h0 n0 (fun o h => o = some (.int 1) ∧ Keep h0 h [q, es] ∧ Fld Z h q "java/util/ArrayDeque" "elements" "[Ljava/lang/Object;" (.ref es) ∧ Fld Z h q "java/util/ArrayDeque" "head" "I" (.int (0 : Int32)) ∧ Fld Z h q "java/util/ArrayDeque" "tail" "I" (.int (0 : Int32)) ∧ Arf Z h es kE (.object "java/lang/Object") 17 (fun _ => .null)) := by
  refine Con.enter pl_rlo (fun mm => ef_rlo mm q d) ?_
  intro K O C H
  have KK : Keep h0 h0 [q, es] := Keep.refl h0 _
  have ne_es_q : es ≠ q := V_es.neX X_q (hw _ (List.mem_of_getElem? (i := 10) rfl))
  have ne_es_d : es ≠ d := V_es.neX X_d (hw _ (List.mem_of_getElem? (i := 31) rfl))
  replace H := k_aloadN C H drlo_0 rfl rfl (pc' := 1) rfl
  replace H := k_ifnullN C H drlo_1 (pc' := 4) rfl
  replace H := k_aloadN C H drlo_4 rfl rfl (pc' := 5) rfl
  replace H := k_getFld C H (hw _ (List.mem_of_getElem? (i := 24) rfl)) F_q_elements drlo_5 (pc' := 8) rfl
  replace H := k_astoreN C H drlo_8 (L' := #[.val (.ref q), .val (.ref d), .val (.ref es), .unset, .unset, .unset]) rfl rfl (pc' := 9) rfl
  replace H := k_aloadN C H drlo_9 rfl rfl (pc' := 10) rfl
  replace H := k_getFld C H (hw _ (List.mem_of_getElem? (i := 67) rfl)) F_q_tail drlo_10 (pc' := 13) rfl
  replace H := k_istoreN C H drlo_13 (L' := #[.val (.ref q), .val (.ref d), .val (.ref es), .val (.int (1 : Int32)), .unset, .unset]) rfl (pc' := 14) rfl
  replace H := k_aloadN C H drlo_14 rfl rfl (pc' := 15) rfl
  replace H := k_getFld C H (hw _ (List.mem_of_getElem? (i := 70) rfl)) F_q_head drlo_15 (pc' := 18) rfl
  replace H := k_istore C H drlo_18 (L' := #[.val (.ref q), .val (.ref d), .val (.ref es), .val (.int (1 : Int32)), .val (.int (0 : Int32)), .unset]) rfl (pc' := 20) rfl
  replace H := k_iloadN C H drlo_20 rfl (pc' := 21) rfl
  replace H := k_iload C H drlo_21 rfl (pc' := 23) rfl
  replace H := k_icmpN C H drlo_23 (flt (by decide : ¬ ((1 : Int32) < (0 : Int32)))).1 (pc' := 26) rfl
  replace H := k_iload C H drlo_26 rfl (pc' := 28) rfl
  replace H := k_goto C H drlo_28 (by decide) (pc' := 32) rfl
  replace H := k_istore C H drlo_32 (L' := #[.val (.ref q), .val (.ref d), .val (.ref es), .val (.int (1 : Int32)), .val (.int (0 : Int32)), .val (.int (0 : Int32))]) rfl (pc' := 34) rfl
  replace H := k_iinc C H (y := ((1 : Int32) + ((-1) : Int32))) drlo_34 rfl rfl (L' := #[.val (.ref q), .val (.ref d), .val (.ref es), .val (.int ((1 : Int32) + ((-1) : Int32))), .val (.int (0 : Int32)), .val (.int (0 : Int32))]) rfl (pc' := 37) rfl
  replace H : K 37 #[.val (.ref q), .val (.ref d), .val (.ref es), .val (.int (0 : Int32)), .val (.int (0 : Int32)), .val (.int (0 : Int32))] [] h0 0 0 := H
  replace H := k_iloadN C H drlo_37 rfl (pc' := 38) rfl
  replace H := k_iload C H drlo_38 rfl (pc' := 40) rfl
  replace H := k_iconst C H (v := 1) drlo_40 rfl (pc' := 41) rfl
  replace H := k_isub C H drlo_41 (pc' := 42) rfl
  replace H : K 42 #[.val (.ref q), .val (.ref d), .val (.ref es), .val (.int (0 : Int32)), .val (.int (0 : Int32)), .val (.int (0 : Int32))] [(.int ((-1) : Int32)), (.int (0 : Int32))] h0 0 0 := H
  replace H := k_icmpN C H drlo_42 (tlt (by decide : ((-1) : Int32) < (0 : Int32))).2.2.2 (pc' := 45) rfl
  replace H := k_aloadN C H drlo_45 rfl rfl (pc' := 46) rfl
  replace H := k_aloadN C H drlo_46 rfl rfl (pc' := 47) rfl
  replace H := k_iloadN C H drlo_47 rfl (pc' := 48) rfl
  replace H := k_aaload C H V_es rfl (i := 0) (by decide) (by decide) (v := (.ref d)) rfl drlo_48 (pc' := 49) rfl
  replace H : K 49 #[.val (.ref q), .val (.ref d), .val (.ref es), .val (.int (0 : Int32)), .val (.int (0 : Int32)), .val (.int (0 : Int32))] [(.ref d), (.ref d)] h0 0 0 := H
  replace H := k_eqSelf C H X_d rfl (hw _ (List.mem_of_getElem? (i := 157) rfl)) (hw _ (List.mem_of_getElem? (i := 160) rfl)) (hw _ (List.mem_of_getElem? (i := 159) rfl)) (hw _ (List.mem_of_getElem? (i := 161) rfl)) (by decide +kernel) (by decide +kernel) (by decide +kernel) (by decide +kernel) (by decide +kernel) (by decide +kernel) drlo_49 rfl (by decide) 0 rfl (by decide) (pc' := 52) rfl
  replace H : K 52 #[.val (.ref q), .val (.ref d), .val (.ref es), .val (.int (0 : Int32)), .val (.int (0 : Int32)), .val (.int (0 : Int32))] [(.int (1 : Int32))] h0 0 0 := H
  replace H := k_ifcN C H drlo_52 (feq (by decide : ¬ ((1 : Int32) = (0 : Int32)))).1 (pc' := 55) rfl
  replace H := k_aloadN C H drlo_55 rfl rfl (pc' := 56) rfl
  replace H := k_iloadN C H drlo_56 rfl (pc' := 57) rfl
  replace H := k_callVir C H (rmdel l Z a0 hw q (0 : Int32) h0 n0 rfl es kE d X_q F_q_elements F_q_head F_q_tail n_q V_es O_es n_es) X_q (hw _ (List.mem_of_getElem? (i := 162) rfl)) (hw _ (List.mem_of_getElem? (i := 163) rfl)) (hw _ (List.mem_of_getElem? (i := 165) rfl)) (hw _ (List.mem_of_getElem? (i := 164) rfl)) (hw _ (List.mem_of_getElem? (i := 11) rfl)) (hw _ (List.mem_of_getElem? (i := 166) rfl)) (by decide) drlo_57 rfl [(.int (0 : Int32))] [] pdrlo_0 rfl rfl rfl 0 rfl (by decide) (by decide) (by decide) (by decide) (pc' := 60) rfl
  obtain ⟨_, j30, ⟨rfl, K_j30, F_q_elements', F_q_head', F_q_tail', V_es'⟩, H⟩ := H
  replace H : K 60 #[.val (.ref q), .val (.ref d), .val (.ref es), .val (.int (0 : Int32)), .val (.int (0 : Int32)), .val (.int (0 : Int32))] [(.int (1 : Int32))] j30 0 0 := H
  replace X_q := X_q.keep K_j30
  replace X_d := X_d.keep K_j30
  replace F_d_position := F_d_position.keep K_j30 (ninS (Ne.symm ne_q_d) (ninS (Ne.symm ne_es_d) nin0))
  replace F_d_acknowledged := F_d_acknowledged.keep K_j30 (ninS (Ne.symm ne_q_d) (ninS (Ne.symm ne_es_d) nin0))
  replace F_d_takenBack := F_d_takenBack.keep K_j30 (ninS (Ne.symm ne_q_d) (ninS (Ne.symm ne_es_d) nin0))
  replace KK := KK.trans K_j30 (allS (Or.inl (List.mem_of_getElem? (i := 0) rfl)) (allS (Or.inl (List.mem_of_getElem? (i := 1) rfl)) all0))
  replace F_q_elements := F_q_elements'
  clear F_q_elements'
  replace F_q_head := F_q_head'
  clear F_q_head'
  replace F_q_tail := F_q_tail'
  clear F_q_tail'
  replace V_es := V_es'
  clear V_es'
  replace H := k_pop C H drlo_60 rfl (pc' := 61) rfl
  replace H := k_iconst C H (v := 1) drlo_61 rfl (pc' := 62) rfl
  exact k_retZ C H drlo_62 (by decide) (by decide) (by decide) ⟨rfl, KK, F_q_elements, F_q_head, F_q_tail, V_es⟩
theorem dtkb_0 : decode prog_8_method_10_code 0 = .ok (.aload_n 1, 1) := by decide +kernel
theorem dtkb_1 : decode prog_8_method_10_code 1 = .ok (.invokevirtual 73, 3) := by decide +kernel
theorem dtkb_4 : decode prog_8_method_10_code 4 = .ok (.ifCond .eq 29, 3) := by decide +kernel
theorem dtkb_7 : decode prog_8_method_10_code 7 = .ok (.aload_n 1, 1) := by decide +kernel
theorem dtkb_8 : decode prog_8_method_10_code 8 = .ok (.iconst 1, 1) := by decide +kernel
theorem dtkb_9 : decode prog_8_method_10_code 9 = .ok (.putfield 85, 3) := by decide +kernel
theorem dtkb_12 : decode prog_8_method_10_code 12 = .ok (.aload_n 0, 1) := by decide +kernel
theorem dtkb_13 : decode prog_8_method_10_code 13 = .ok (.dup, 1) := by decide +kernel
theorem dtkb_14 : decode prog_8_method_10_code 14 = .ok (.getfield 66, 3) := by decide +kernel
theorem dtkb_17 : decode prog_8_method_10_code 17 = .ok (.iconst 1, 1) := by decide +kernel
theorem dtkb_18 : decode prog_8_method_10_code 18 = .ok (.isub, 1) := by decide +kernel
theorem dtkb_19 : decode prog_8_method_10_code 19 = .ok (.putfield 66, 3) := by decide +kernel
theorem dtkb_22 : decode prog_8_method_10_code 22 = .ok (.aload_n 0, 1) := by decide +kernel
theorem dtkb_23 : decode prog_8_method_10_code 23 = .ok (.getfield 10, 3) := by decide +kernel
theorem dtkb_26 : decode prog_8_method_10_code 26 = .ok (.aload_n 1, 1) := by decide +kernel
theorem dtkb_27 : decode prog_8_method_10_code 27 = .ok (.invokeinterface 88 2, 5) := by decide +kernel
theorem dtkb_32 : decode prog_8_method_10_code 32 = .ok (.pop, 1) := by decide +kernel
theorem dtkb_33 : decode prog_8_method_10_code 33 = .ok (.return_, 1) := by decide +kernel
theorem pdtkb_0 : parseMethodDescriptor "()Z" = some ⟨[], some .boolean⟩ := by decide +kernel
theorem pdtkb_1 : parseMethodDescriptor "(Ljava/lang/Object;)Z" = some ⟨[(.object "java/lang/Object")], some .boolean⟩ := by decide +kernel
theorem pl_tkb : plainFor (⟨"com/example/partition_handoff/partitionhandoff/DeliveryWindow", "takeBack", "(Lcom/example/partition_handoff/partitionhandoff/DeliveryWindow$Delivery;)V"⟩ : MethodName) = true := plainFor_of_name (by first | (simp [plainName, overriddenIn]; done) | decide +kernel)
theorem ef_tkb (mm : MethodId) (wn : Addr) (d : Addr) : entryFrame mm #[(.ref wn), (.ref d)] 2 = mkF mm 0 #[.val (.ref wn), .val (.ref d)] [] := by first | (simp [entryFrame, mkF, argsToLocals, Value.category]; done) | rfl
set_option maxRecDepth 65536 in
set_option maxHeartbeats 40000000 in
theorem rmtkb (l : Launch) (Z : State) (a0 : Array Value) (hw : ∀ d ∈ tables_1, d.before a0 Z = true) (wn : Addr) (d : Addr) (h0 : Heap) (n0 : Nat) (q : Addr) (es : Addr) (kE : ClassId) (lp : Int64) (hl : Int32) (hc : Int64) (ps : Int64) (X_wn : Exa Z h0 wn "com/example/partition_handoff/partitionhandoff/DeliveryWindow") (F_wn_delivered : Fld Z h0 wn "com/example/partition_handoff/partitionhandoff/DeliveryWindow" "delivered" "Ljava/util/Deque;" (.ref q)) (F_wn_unacknowledged : Fld Z h0 wn "com/example/partition_handoff/partitionhandoff/DeliveryWindow" "unacknowledged" "I" (.int (1 : Int32))) (F_wn_lastHandledPosition : Fld Z h0 wn "com/example/partition_handoff/partitionhandoff/DeliveryWindow" "lastHandledPosition" "J" (.long lp)) (F_wn_hasLastHandled : Fld Z h0 wn "com/example/partition_handoff/partitionhandoff/DeliveryWindow" "hasLastHandled" "Z" (.int hl)) (F_wn_handled : Fld Z h0 wn "com/example/partition_handoff/partitionhandoff/DeliveryWindow" "handled" "J" (.long hc)) (n_wn : n0 ≤ wn) (X_q : Exa Z h0 q "java/util/ArrayDeque") (F_q_elements : Fld Z h0 q "java/util/ArrayDeque" "elements" "[Ljava/lang/Object;" (.ref es)) (F_q_head : Fld Z h0 q "java/util/ArrayDeque" "head" "I" (.int (0 : Int32))) (F_q_tail : Fld Z h0 q "java/util/ArrayDeque" "tail" "I" (.int (1 : Int32))) (n_q : n0 ≤ q) (V_es : Arf Z h0 es kE (.object "java/lang/Object") 17 (fun k => if k = 0 then .ref d else .null)) (O_es : Ovr Z kE "java/lang/Object") (n_es : n0 ≤ es) (X_d : Exa Z h0 d "com/example/partition_handoff/partitionhandoff/DeliveryWindow$Delivery") (F_d_position : Fld Z h0 d "com/example/partition_handoff/partitionhandoff/DeliveryWindow$Delivery" "position" "J" (.long ps)) (F_d_acknowledged : Fld Z h0 d "com/example/partition_handoff/partitionhandoff/DeliveryWindow$Delivery" "acknowledged" "Z" (.int (0 : Int32))) (F_d_takenBack : Fld Z h0 d "com/example/partition_handoff/partitionhandoff/DeliveryWindow$Delivery" "takenBack" "Z" (.int (0 : Int32))) (n_d : n0 ≤ d) (ne_wn_q : wn ≠ q) (ne_wn_d : wn ≠ d) (ne_q_d : q ≠ d) :
    Con l (⟨"com/example/partition_handoff/partitionhandoff/DeliveryWindow", "takeBack", "(Lcom/example/partition_handoff/partitionhandoff/DeliveryWindow$Delivery;)V"⟩ : MethodName) prog_8_method_10_code 2 none ({ frames := 3, cells := 0, slots := 0, locals := 76 } : Room) Z #[(.ref wn), (.ref d)] h0 n0 (fun o h => o = none ∧ Keep h0 h [wn, q, es, d] ∧ Fld Z h wn "com/example/partition_handoff/partitionhandoff/DeliveryWindow" "delivered" "Ljava/util/Deque;" (.ref q) ∧ Fld Z h wn "com/example/partition_handoff/partitionhandoff/DeliveryWindow" "unacknowledged" "I" (.int (0 : Int32)) ∧ Fld Z h wn "com/example/partition_handoff/partitionhandoff/DeliveryWindow" "lastHandledPosition" "J" (.long lp) ∧ Fld Z h wn "com/example/partition_handoff/partitionhandoff/DeliveryWindow" "hasLastHandled" "Z" (.int hl) ∧ Fld Z h wn "com/example/partition_handoff/partitionhandoff/DeliveryWindow" "handled" "J" (.long hc) ∧ Fld Z h q "java/util/ArrayDeque" "elements" "[Ljava/lang/Object;" (.ref es) ∧ Fld Z h q "java/util/ArrayDeque" "head" "I" (.int (0 : Int32)) ∧ Fld Z h q "java/util/ArrayDeque" "tail" "I" (.int (0 : Int32)) ∧ Arf Z h es kE (.object "java/lang/Object") 17 (fun _ => .null) ∧ Fld Z h d "com/example/partition_handoff/partitionhandoff/DeliveryWindow$Delivery" "position" "J" (.long ps) ∧ Fld Z h d "com/example/partition_handoff/partitionhandoff/DeliveryWindow$Delivery" "acknowledged" "Z" (.int (0 : Int32)) ∧ Fld Z h d "com/example/partition_handoff/partitionhandoff/DeliveryWindow$Delivery" "takenBack" "Z" (.int (1 : Int32))) := by
  refine Con.enter pl_tkb (fun mm => ef_tkb mm wn d) ?_
  intro K O C H
  have KK : Keep h0 h0 [wn, q, es, d] := Keep.refl h0 _
  have ne_es_wn : es ≠ wn := V_es.neX X_wn (hw _ (List.mem_of_getElem? (i := 1) rfl))
  have ne_es_q : es ≠ q := V_es.neX X_q (hw _ (List.mem_of_getElem? (i := 10) rfl))
  have ne_es_d : es ≠ d := V_es.neX X_d (hw _ (List.mem_of_getElem? (i := 31) rfl))
  replace H := k_aloadN C H dtkb_0 rfl rfl (pc' := 1) rfl
  replace H := k_callPriR C H (rmuna l Z a0 hw d h0 n0 _ _ F_d_acknowledged F_d_takenBack) X_d (hw _ (List.mem_of_getElem? (i := 82) rfl)) (hw _ (List.mem_of_getElem? (i := 83) rfl)) (hw _ (List.mem_of_getElem? (i := 31) rfl)) (hw _ (List.mem_of_getElem? (i := 84) rfl)) (hw _ (List.mem_of_getElem? (i := 32) rfl)) (hw _ (List.mem_of_getElem? (i := 85) rfl)) (by decide) dtkb_1 rfl [] [] pdtkb_0 rfl rfl rfl 0 rfl (by decide) (by decide) (by decide) (by decide) (pc' := 4) rfl
  obtain ⟨_, _, ⟨rfl, rfl⟩, H⟩ := H
  replace H : K 4 #[.val (.ref wn), .val (.ref d)] [(.int (own_una (0 : Int32) (0 : Int32)))] h0 0 0 := H
  have lk : (own_una (0 : Int32) (0 : Int32)) = (1 : Int32) := by decide
  rw [lk] at H
  clear lk
  replace H : K 4 #[.val (.ref wn), .val (.ref d)] [(.int (1 : Int32))] h0 0 0 := H
  replace H := k_ifcN C H dtkb_4 (feq (by decide : ¬ ((1 : Int32) = (0 : Int32)))).1 (pc' := 7) rfl
  replace H := k_aloadN C H dtkb_7 rfl rfl (pc' := 8) rfl
  replace H := k_iconst C H (v := 1) dtkb_8 rfl (pc' := 9) rfl
  replace H := k_putFldR C H (hw _ (List.mem_of_getElem? (i := 148) rfl)) F_d_takenBack X_d (hw _ (List.mem_of_getElem? (i := 47) rfl)) (hw _ (List.mem_of_getElem? (i := 31) rfl)) (ty := .boolean) (by decide) rfl rfl n_d dtkb_9 (pc' := 12) rfl
  obtain ⟨j31, W_j31, H⟩ := H
  replace X_wn := X_wn.wr W_j31
  replace F_wn_delivered := F_wn_delivered.other W_j31 (Or.inl ne_wn_d)
  replace F_wn_unacknowledged := F_wn_unacknowledged.other W_j31 (Or.inl ne_wn_d)
  replace F_wn_lastHandledPosition := F_wn_lastHandledPosition.other W_j31 (Or.inl ne_wn_d)
  replace F_wn_hasLastHandled := F_wn_hasLastHandled.other W_j31 (Or.inl ne_wn_d)
  replace F_wn_handled := F_wn_handled.other W_j31 (Or.inl ne_wn_d)
  replace X_q := X_q.wr W_j31
  replace F_q_elements := F_q_elements.other W_j31 (Or.inl ne_q_d)
  replace F_q_head := F_q_head.other W_j31 (Or.inl ne_q_d)
  replace F_q_tail := F_q_tail.other W_j31 (Or.inl ne_q_d)
  replace V_es := V_es.other W_j31 ne_es_d
  replace X_d := X_d.wr W_j31
  replace F_d_position := F_d_position.other W_j31 (Or.inr (slot_ne (Or.inl (hw _ (List.mem_of_getElem? (i := 38) rfl))) (Or.inl (hw _ (List.mem_of_getElem? (i := 47) rfl))) (by decide) (t := .long) (t' := .boolean) (by decide) (by decide)))
  replace F_d_acknowledged := F_d_acknowledged.other W_j31 (Or.inr (slot_ne (Or.inl (hw _ (List.mem_of_getElem? (i := 45) rfl))) (Or.inl (hw _ (List.mem_of_getElem? (i := 47) rfl))) (by decide) (t := .boolean) (t' := .boolean) (by decide) (by decide)))
  replace F_d_takenBack := F_d_takenBack.same W_j31
  replace KK := KK.wr W_j31 (Or.inl (List.mem_of_getElem? (i := 3) rfl))
  replace H := k_aloadN C H dtkb_12 rfl rfl (pc' := 13) rfl
  replace H := k_dup C H dtkb_13 rfl (pc' := 14) rfl
  replace H := k_getFld C H (hw _ (List.mem_of_getElem? (i := 75) rfl)) F_wn_unacknowledged dtkb_14 (pc' := 17) rfl
  replace H := k_iconst C H (v := 1) dtkb_17 rfl (pc' := 18) rfl
  replace H := k_isub C H dtkb_18 (pc' := 19) rfl
  replace H : K 19 #[.val (.ref wn), .val (.ref d)] [(.int (0 : Int32)), (.ref wn)] j31 0 0 := H
  replace H := k_putFld C H (hw _ (List.mem_of_getElem? (i := 75) rfl)) F_wn_unacknowledged X_wn (Or.inl (hw _ (List.mem_of_getElem? (i := 76) rfl))) (hw _ (List.mem_of_getElem? (i := 1) rfl)) (ty := .int) (by decide) (v' := (.int (0 : Int32))) rfl rfl n_wn dtkb_19 (pc' := 22) rfl
  obtain ⟨j32, W_j32, H⟩ := H
  replace X_wn := X_wn.wr W_j32
  replace F_wn_delivered := F_wn_delivered.other W_j32 (Or.inr (slot_ne (Or.inr (hw _ (List.mem_of_getElem? (i := 27) rfl))) (Or.inl (hw _ (List.mem_of_getElem? (i := 76) rfl))) (by decide) (t := (.object "java/util/Deque")) (t' := .int) (by decide) (by decide)))
  replace F_wn_unacknowledged := F_wn_unacknowledged.same W_j32
  replace F_wn_lastHandledPosition := F_wn_lastHandledPosition.other W_j32 (Or.inr (slot_ne (Or.inl (hw _ (List.mem_of_getElem? (i := 123) rfl))) (Or.inl (hw _ (List.mem_of_getElem? (i := 76) rfl))) (by decide) (t := .long) (t' := .int) (by decide) (by decide)))
  replace F_wn_hasLastHandled := F_wn_hasLastHandled.other W_j32 (Or.inr (slot_ne (Or.inl (hw _ (List.mem_of_getElem? (i := 125) rfl))) (Or.inl (hw _ (List.mem_of_getElem? (i := 76) rfl))) (by decide) (t := .boolean) (t' := .int) (by decide) (by decide)))
  replace F_wn_handled := F_wn_handled.other W_j32 (Or.inr (slot_ne (Or.inl (hw _ (List.mem_of_getElem? (i := 127) rfl))) (Or.inl (hw _ (List.mem_of_getElem? (i := 76) rfl))) (by decide) (t := .long) (t' := .int) (by decide) (by decide)))
  replace X_q := X_q.wr W_j32
  replace F_q_elements := F_q_elements.other W_j32 (Or.inl (Ne.symm ne_wn_q))
  replace F_q_head := F_q_head.other W_j32 (Or.inl (Ne.symm ne_wn_q))
  replace F_q_tail := F_q_tail.other W_j32 (Or.inl (Ne.symm ne_wn_q))
  replace V_es := V_es.other W_j32 ne_es_wn
  replace X_d := X_d.wr W_j32
  replace F_d_position := F_d_position.other W_j32 (Or.inl (Ne.symm ne_wn_d))
  replace F_d_acknowledged := F_d_acknowledged.other W_j32 (Or.inl (Ne.symm ne_wn_d))
  replace F_d_takenBack := F_d_takenBack.other W_j32 (Or.inl (Ne.symm ne_wn_d))
  replace KK := KK.wr W_j32 (Or.inl (List.mem_of_getElem? (i := 0) rfl))
  replace H := k_aloadN C H dtkb_22 rfl rfl (pc' := 23) rfl
  replace H := k_getFld C H (hw _ (List.mem_of_getElem? (i := 26) rfl)) F_wn_delivered dtkb_23 (pc' := 26) rfl
  replace H := k_aloadN C H dtkb_26 rfl rfl (pc' := 27) rfl
  replace H := k_callInt C H (rmrlo l Z a0 hw q d j32 n0 es kE _ _ _ X_q F_q_elements F_q_head F_q_tail n_q V_es O_es n_es X_d F_d_position F_d_acknowledged F_d_takenBack n_d ne_q_d) X_q (hw _ (List.mem_of_getElem? (i := 149) rfl)) (hw _ (List.mem_of_getElem? (i := 150) rfl)) (hw _ (List.mem_of_getElem? (i := 151) rfl)) rfl (hw _ (List.mem_of_getElem? (i := 152) rfl)) (hw _ (List.mem_of_getElem? (i := 153) rfl)) (hw _ (List.mem_of_getElem? (i := 154) rfl)) (hw _ (List.mem_of_getElem? (i := 155) rfl)) (hw _ (List.mem_of_getElem? (i := 65) rfl)) (hw _ (List.mem_of_getElem? (i := 11) rfl)) (hw _ (List.mem_of_getElem? (i := 156) rfl)) (by decide) dtkb_27 rfl [(.ref d)] [] pdtkb_1 rfl rfl rfl 0 rfl (by decide) (by decide) (by decide) (by decide) (pc' := 32) rfl
  obtain ⟨_, j33, ⟨rfl, K_j33, F_q_elements', F_q_head', F_q_tail', V_es'⟩, H⟩ := H
  replace H : K 32 #[.val (.ref wn), .val (.ref d)] [(.int (1 : Int32))] j33 0 0 := H
  replace X_wn := X_wn.keep K_j33
  replace F_wn_delivered := F_wn_delivered.keep K_j33 (ninS ne_wn_q (ninS (Ne.symm ne_es_wn) nin0))
  replace F_wn_unacknowledged := F_wn_unacknowledged.keep K_j33 (ninS ne_wn_q (ninS (Ne.symm ne_es_wn) nin0))
  replace F_wn_lastHandledPosition := F_wn_lastHandledPosition.keep K_j33 (ninS ne_wn_q (ninS (Ne.symm ne_es_wn) nin0))
  replace F_wn_hasLastHandled := F_wn_hasLastHandled.keep K_j33 (ninS ne_wn_q (ninS (Ne.symm ne_es_wn) nin0))
  replace F_wn_handled := F_wn_handled.keep K_j33 (ninS ne_wn_q (ninS (Ne.symm ne_es_wn) nin0))
  replace X_q := X_q.keep K_j33
  replace X_d := X_d.keep K_j33
  replace F_d_position := F_d_position.keep K_j33 (ninS (Ne.symm ne_q_d) (ninS (Ne.symm ne_es_d) nin0))
  replace F_d_acknowledged := F_d_acknowledged.keep K_j33 (ninS (Ne.symm ne_q_d) (ninS (Ne.symm ne_es_d) nin0))
  replace F_d_takenBack := F_d_takenBack.keep K_j33 (ninS (Ne.symm ne_q_d) (ninS (Ne.symm ne_es_d) nin0))
  replace KK := KK.trans K_j33 (allS (Or.inl (List.mem_of_getElem? (i := 1) rfl)) (allS (Or.inl (List.mem_of_getElem? (i := 2) rfl)) all0))
  replace F_q_elements := F_q_elements'
  clear F_q_elements'
  replace F_q_head := F_q_head'
  clear F_q_head'
  replace F_q_tail := F_q_tail'
  clear F_q_tail'
  replace V_es := V_es'
  clear V_es'
  replace H := k_pop C H dtkb_32 rfl (pc' := 33) rfl
  exact k_retV C H dtkb_33 (by decide) (by decide) ⟨rfl, KK, F_wn_delivered, F_wn_unacknowledged, F_wn_lastHandledPosition, F_wn_hasLastHandled, F_wn_handled, F_q_elements, F_q_head, F_q_tail, V_es, F_d_position, F_d_acknowledged, F_d_takenBack⟩
theorem dreu_0 : decode prog_9_method_2_code 0 = .ok (.aload_n 0, 1) := by decide +kernel
theorem dreu_1 : decode prog_9_method_2_code 1 = .ok (.lload_n 1, 1) := by decide +kernel
theorem dreu_2 : decode prog_9_method_2_code 2 = .ok (.putfield 7, 3) := by decide +kernel
theorem dreu_5 : decode prog_9_method_2_code 5 = .ok (.aload_n 0, 1) := by decide +kernel
theorem dreu_6 : decode prog_9_method_2_code 6 = .ok (.iconst 0, 1) := by decide +kernel
theorem dreu_7 : decode prog_9_method_2_code 7 = .ok (.putfield 13, 3) := by decide +kernel
theorem dreu_10 : decode prog_9_method_2_code 10 = .ok (.aload_n 0, 1) := by decide +kernel
theorem dreu_11 : decode prog_9_method_2_code 11 = .ok (.iconst 0, 1) := by decide +kernel
theorem dreu_12 : decode prog_9_method_2_code 12 = .ok (.putfield 17, 3) := by decide +kernel
theorem dreu_15 : decode prog_9_method_2_code 15 = .ok (.aload_n 0, 1) := by decide +kernel
theorem dreu_16 : decode prog_9_method_2_code 16 = .ok (.areturn, 1) := by decide +kernel
theorem pl_reu : plainFor (⟨"com/example/partition_handoff/partitionhandoff/DeliveryWindow$Delivery", "reuseFor", "(J)Lcom/example/partition_handoff/partitionhandoff/DeliveryWindow$Delivery;"⟩ : MethodName) = true := plainFor_of_name (by first | (simp [plainName, overriddenIn]; done) | decide +kernel)
theorem ef_reu (mm : MethodId) (d : Addr) (np : Int64) : entryFrame mm #[(.ref d), (.long np)] 3 = mkF mm 0 #[.val (.ref d), .val (.long np), .second] [] := by first | (simp [entryFrame, mkF, argsToLocals, Value.category]; done) | rfl
set_option maxRecDepth 65536 in
set_option maxHeartbeats 40000000 in
theorem rmreu (l : Launch) (Z : State) (a0 : Array Value) (hw : ∀ d ∈ tables_1, d.before a0 Z = true) (d : Addr) (np : Int64) (h0 : Heap) (n0 : Nat) (ps : Int64) (ak : Int32) (tb : Int32) (X_d : Exa Z h0 d "com/example/partition_handoff/partitionhandoff/DeliveryWindow$Delivery") (F_d_position : Fld Z h0 d "com/example/partition_handoff/partitionhandoff/DeliveryWindow$Delivery" "position" "J" (.long ps)) (F_d_acknowledged : Fld Z h0 d "com/example/partition_handoff/partitionhandoff/DeliveryWindow$Delivery" "acknowledged" "Z" (.int ak)) (F_d_takenBack : Fld Z h0 d "com/example/partition_handoff/partitionhandoff/DeliveryWindow$Delivery" "takenBack" "Z" (.int tb)) (n_d : n0 ≤ d) :
    Con l (⟨"com/example/partition_handoff/partitionhandoff/DeliveryWindow$Delivery", "reuseFor", "(J)Lcom/example/partition_handoff/partitionhandoff/DeliveryWindow$Delivery;"⟩ : MethodName) prog_9_method_2_code 3 (some (.object "com/example/partition_handoff/partitionhandoff/DeliveryWindow$Delivery")) ({ frames := 0, cells := 0, slots := 0, locals := 0 } : Room) Z #[(.ref d), (.long np)] h0 n0 (fun o h => o = some (.ref d) ∧ Keep h0 h [d] ∧ Fld Z h d "com/example/partition_handoff/partitionhandoff/DeliveryWindow$Delivery" "position" "J" (.long np) ∧ Fld Z h d "com/example/partition_handoff/partitionhandoff/DeliveryWindow$Delivery" "acknowledged" "Z" (.int (0 : Int32)) ∧ Fld Z h d "com/example/partition_handoff/partitionhandoff/DeliveryWindow$Delivery" "takenBack" "Z" (.int (0 : Int32))) := by
  refine Con.enter pl_reu (fun mm => ef_reu mm d np) ?_
  intro K O C H
  have KK : Keep h0 h0 [d] := Keep.refl h0 _
  replace H := k_aloadN C H dreu_0 rfl rfl (pc' := 1) rfl
  replace H := k_lloadN C H dreu_1 rfl (pc' := 2) rfl
  replace H := k_putFld C H (hw _ (List.mem_of_getElem? (i := 37) rfl)) F_d_position X_d (Or.inl (hw _ (List.mem_of_getElem? (i := 38) rfl))) (hw _ (List.mem_of_getElem? (i := 31) rfl)) (ty := .long) (by decide) (v' := (.long np)) rfl rfl n_d dreu_2 (pc' := 5) rfl
  obtain ⟨j34, W_j34, H⟩ := H
  replace X_d := X_d.wr W_j34
  replace F_d_position := F_d_position.same W_j34
  replace F_d_acknowledged := F_d_acknowledged.other W_j34 (Or.inr (slot_ne (Or.inl (hw _ (List.mem_of_getElem? (i := 45) rfl))) (Or.inl (hw _ (List.mem_of_getElem? (i := 38) rfl))) (by decide) (t := .boolean) (t' := .long) (by decide) (by decide)))
  replace F_d_takenBack := F_d_takenBack.other W_j34 (Or.inr (slot_ne (Or.inl (hw _ (List.mem_of_getElem? (i := 47) rfl))) (Or.inl (hw _ (List.mem_of_getElem? (i := 38) rfl))) (by decide) (t := .boolean) (t' := .long) (by decide) (by decide)))
  replace KK := KK.wr W_j34 (Or.inl (List.mem_of_getElem? (i := 0) rfl))
  replace H := k_aloadN C H dreu_5 rfl rfl (pc' := 6) rfl
  replace H := k_iconst C H (v := 0) dreu_6 rfl (pc' := 7) rfl
  replace H := k_putFld C H (hw _ (List.mem_of_getElem? (i := 44) rfl)) F_d_acknowledged X_d (Or.inl (hw _ (List.mem_of_getElem? (i := 45) rfl))) (hw _ (List.mem_of_getElem? (i := 31) rfl)) (ty := .boolean) (by decide) (v' := (.int (0 : Int32))) rfl rfl n_d dreu_7 (pc' := 10) rfl
  obtain ⟨j35, W_j35, H⟩ := H
  replace X_d := X_d.wr W_j35
  replace F_d_position := F_d_position.other W_j35 (Or.inr (slot_ne (Or.inl (hw _ (List.mem_of_getElem? (i := 38) rfl))) (Or.inl (hw _ (List.mem_of_getElem? (i := 45) rfl))) (by decide) (t := .long) (t' := .boolean) (by decide) (by decide)))
  replace F_d_acknowledged := F_d_acknowledged.same W_j35
  replace F_d_takenBack := F_d_takenBack.other W_j35 (Or.inr (slot_ne (Or.inl (hw _ (List.mem_of_getElem? (i := 47) rfl))) (Or.inl (hw _ (List.mem_of_getElem? (i := 45) rfl))) (by decide) (t := .boolean) (t' := .boolean) (by decide) (by decide)))
  replace KK := KK.wr W_j35 (Or.inl (List.mem_of_getElem? (i := 0) rfl))
  replace H := k_aloadN C H dreu_10 rfl rfl (pc' := 11) rfl
  replace H := k_iconst C H (v := 0) dreu_11 rfl (pc' := 12) rfl
  replace H := k_putFld C H (hw _ (List.mem_of_getElem? (i := 46) rfl)) F_d_takenBack X_d (Or.inl (hw _ (List.mem_of_getElem? (i := 47) rfl))) (hw _ (List.mem_of_getElem? (i := 31) rfl)) (ty := .boolean) (by decide) (v' := (.int (0 : Int32))) rfl rfl n_d dreu_12 (pc' := 15) rfl
  obtain ⟨j36, W_j36, H⟩ := H
  replace X_d := X_d.wr W_j36
  replace F_d_position := F_d_position.other W_j36 (Or.inr (slot_ne (Or.inl (hw _ (List.mem_of_getElem? (i := 38) rfl))) (Or.inl (hw _ (List.mem_of_getElem? (i := 47) rfl))) (by decide) (t := .long) (t' := .boolean) (by decide) (by decide)))
  replace F_d_acknowledged := F_d_acknowledged.other W_j36 (Or.inr (slot_ne (Or.inl (hw _ (List.mem_of_getElem? (i := 45) rfl))) (Or.inl (hw _ (List.mem_of_getElem? (i := 47) rfl))) (by decide) (t := .boolean) (t' := .boolean) (by decide) (by decide)))
  replace F_d_takenBack := F_d_takenBack.same W_j36
  replace KK := KK.wr W_j36 (Or.inl (List.mem_of_getElem? (i := 0) rfl))
  replace H := k_aloadN C H dreu_15 rfl rfl (pc' := 16) rfl
  exact k_retA C H dreu_16 rfl rfl (by decide) (by decide) ⟨rfl, KK, F_d_position, F_d_acknowledged, F_d_takenBack⟩
theorem dabc_0 : decode jdk_22_method_1_code 0 = .ok (.aload_n 0, 1) := by decide +kernel
theorem dabc_1 : decode jdk_22_method_1_code 1 = .ok (.invokespecial 1, 3) := by decide +kernel
theorem dabc_4 : decode jdk_22_method_1_code 4 = .ok (.return_, 1) := by decide +kernel
theorem pl_abc : plainFor (⟨"java/util/AbstractCollection", "<init>", "()V"⟩ : MethodName) = true := plainFor_of_name (by first | (simp [plainName, overriddenIn]; done) | decide +kernel)
theorem ef_abc (mm : MethodId) (q : Addr) : entryFrame mm #[(.ref q)] 1 = mkF mm 0 #[.val (.ref q)] [] := by first | (simp [entryFrame, mkF, argsToLocals, Value.category]; done) | rfl
set_option maxRecDepth 65536 in
set_option maxHeartbeats 40000000 in
theorem rmabc (l : Launch) (Z : State) (a0 : Array Value) (hw : ∀ d ∈ tables_1, d.before a0 Z = true) (q : Addr) (h0 : Heap) (n0 : Nat)  :
    Con l (⟨"java/util/AbstractCollection", "<init>", "()V"⟩ : MethodName) jdk_22_method_1_code 1 none ({ frames := 1, cells := 0, slots := 0, locals := 12 } : Room) Z #[(.ref q)] h0 n0 (fun o h => o = none ∧ h0 = h) := by
  refine Con.enter pl_abc (fun mm => ef_abc mm q) ?_
  intro K O C H
  replace H := k_aloadN C H dabc_0 rfl rfl (pc' := 1) rfl
  replace H := k_initObj C H (hw _ (List.mem_of_getElem? (i := 21) rfl)) (hw _ (List.mem_of_getElem? (i := 7) rfl)) (hw _ (List.mem_of_getElem? (i := 8) rfl)) dabc_1 rfl (by decide) 0 rfl (by decide) (pc' := 4) rfl
  exact k_retV C H dabc_4 (by decide) (by decide) ⟨rfl, rfl⟩
theorem dadc_0 : decode jdk_21_method_3_code 0 = .ok (.aload_n 0, 1) := by decide +kernel
theorem dadc_1 : decode jdk_21_method_3_code 1 = .ok (.invokespecial 42, 3) := by decide +kernel
theorem dadc_4 : decode jdk_21_method_3_code 4 = .ok (.aload_n 0, 1) := by decide +kernel
theorem dadc_5 : decode jdk_21_method_3_code 5 = .ok (.bipush 17, 2) := by decide +kernel
theorem dadc_7 : decode jdk_21_method_3_code 7 = .ok (.anewarray 47, 3) := by decide +kernel
theorem dadc_10 : decode jdk_21_method_3_code 10 = .ok (.putfield 3, 3) := by decide +kernel
theorem dadc_13 : decode jdk_21_method_3_code 13 = .ok (.return_, 1) := by decide +kernel
theorem pdadc_0 : parseMethodDescriptor "()V" = some ⟨[], none⟩ := by decide +kernel
theorem pl_adc : plainFor (⟨"java/util/ArrayDeque", "<init>", "()V"⟩ : MethodName) = true := plainFor_of_name (by first | (simp [plainName, overriddenIn]; done) | decide +kernel)
theorem ef_adc (mm : MethodId) (q : Addr) : entryFrame mm #[(.ref q)] 1 = mkF mm 0 #[.val (.ref q)] [] := by first | (simp [entryFrame, mkF, argsToLocals, Value.category]; done) | rfl
set_option maxRecDepth 65536 in
set_option maxHeartbeats 40000000 in
theorem rmadc (l : Launch) (Z : State) (a0 : Array Value) (hw : ∀ d ∈ tables_1, d.before a0 Z = true) (q : Addr) (h0 : Heap) (n0 : Nat) (Z0 : n0 ≤ h0.size) (X_q : Exa Z h0 q "java/util/ArrayDeque") (F_q_elements : Fld Z h0 q "java/util/ArrayDeque" "elements" "[Ljava/lang/Object;" .null) (F_q_head : Fld Z h0 q "java/util/ArrayDeque" "head" "I" (.int (0 : Int32))) (F_q_tail : Fld Z h0 q "java/util/ArrayDeque" "tail" "I" (.int (0 : Int32))) (n_q : n0 ≤ q) :
    Con l (⟨"java/util/ArrayDeque", "<init>", "()V"⟩ : MethodName) jdk_21_method_3_code 1 none ({ frames := 2, cells := 1, slots := 17, locals := 24 } : Room) Z #[(.ref q)] h0 n0 (fun o h => o = none ∧ ∃ es kE, Keep h0 h [q] ∧ h0.size ≤ es ∧ Ovr Z kE "java/lang/Object" ∧ Arf Z h es kE (.object "java/lang/Object") 17 (fun _ => .null) ∧ Fld Z h q "java/util/ArrayDeque" "elements" "[Ljava/lang/Object;" (.ref es) ∧ Fld Z h q "java/util/ArrayDeque" "head" "I" (.int (0 : Int32)) ∧ Fld Z h q "java/util/ArrayDeque" "tail" "I" (.int (0 : Int32))) := by
  refine Con.enter pl_adc (fun mm => ef_adc mm q) ?_
  intro K O C H
  have KK : Keep h0 h0 [q] := Keep.refl h0 _
  replace H := k_aloadN C H dadc_0 rfl rfl (pc' := 1) rfl
  replace H := k_callCon C H (rmabc l Z a0 hw q h0 n0) rfl (hw _ (List.mem_of_getElem? (i := 15) rfl)) (hw _ (List.mem_of_getElem? (i := 16) rfl)) (hw _ (List.mem_of_getElem? (i := 19) rfl)) (hw _ (List.mem_of_getElem? (i := 20) rfl)) (by decide) dadc_1 rfl q [] [] pdadc_0 rfl rfl rfl 0 rfl (by decide) (by decide) (by decide) (by decide) (pc' := 4) rfl
  obtain ⟨_, _, ⟨rfl, rfl⟩, H⟩ := H
  replace H : K 4 #[.val (.ref q)] [] h0 0 0 := H
  replace H := k_aloadN C H dadc_4 rfl rfl (pc' := 5) rfl
  replace H := k_bipush C H (v := 17) dadc_5 rfl (pc' := 7) rfl
  replace H := k_newRef C H (hw _ (List.mem_of_getElem? (i := 22) rfl)) (hw _ (List.mem_of_getElem? (i := 23) rfl)) dadc_7 (by decide) (cap := 17) (by decide) (by decide) (by decide) (by decide) (pc' := 10) rfl
  obtain ⟨h_es, es, kE, g_es, E_es, A_es, O_es, H⟩ := H
  replace H : K 10 #[.val (.ref q)] [(.ref es), (.ref q)] h_es 1 17 := H
  have ne_q_es : q ≠ es := Nat.ne_of_lt (Nat.lt_of_lt_of_le X_q.lt (Nat.le_of_eq g_es.symm))
  have n_es : n0 ≤ es := Nat.le_trans Z0 (Nat.le_of_eq g_es.symm)
  have s_es : h0.size ≤ es := Nat.le_trans KK.1 (Nat.le_of_eq g_es.symm)
  replace X_q := X_q.ext E_es
  replace F_q_elements := F_q_elements.ext E_es
  replace F_q_head := F_q_head.ext E_es
  replace F_q_tail := F_q_tail.ext E_es
  replace KK := KK.ext E_es
  have Z_h_es : n0 ≤ h_es.size := Nat.le_trans Z0 E_es.1
  have V_es : Arf Z h_es es kE (.object "java/lang/Object") 17 (fun _ => .null) := Arf.ofNew A_es (by decide) rfl
  replace H := k_putFld C H (hw _ (List.mem_of_getElem? (i := 24) rfl)) F_q_elements X_q (Or.inl (hw _ (List.mem_of_getElem? (i := 25) rfl))) (hw _ (List.mem_of_getElem? (i := 10) rfl)) (ty := (.array (.object "java/lang/Object"))) (by decide) (v' := (.ref es)) rfl rfl n_q dadc_10 (pc' := 13) rfl
  obtain ⟨j37, W_j37, H⟩ := H
  replace X_q := X_q.wr W_j37
  replace F_q_elements := F_q_elements.same W_j37
  replace F_q_head := F_q_head.other W_j37 (Or.inr (slot_ne (Or.inl (hw _ (List.mem_of_getElem? (i := 71) rfl))) (Or.inl (hw _ (List.mem_of_getElem? (i := 25) rfl))) (by decide) (t := .int) (t' := (.array (.object "java/lang/Object"))) (by decide) (by decide)))
  replace F_q_tail := F_q_tail.other W_j37 (Or.inr (slot_ne (Or.inl (hw _ (List.mem_of_getElem? (i := 68) rfl))) (Or.inl (hw _ (List.mem_of_getElem? (i := 25) rfl))) (by decide) (t := .int) (t' := (.array (.object "java/lang/Object"))) (by decide) (by decide)))
  replace V_es := V_es.other W_j37 (Ne.symm ne_q_es)
  replace KK := KK.wr W_j37 (Or.inl (List.mem_of_getElem? (i := 0) rfl))
  have Z_j37 : n0 ≤ j37.size := by rw [W_j37.size]; exact Z_h_es
  exact k_retV C H dadc_13 (by decide) (by decide) ⟨rfl, es, kE, KK, s_es, O_es, V_es, F_q_elements, F_q_head, F_q_tail⟩
theorem dwic_0 : decode prog_8_method_1_code 0 = .ok (.aload_n 0, 1) := by decide +kernel
theorem dwic_1 : decode prog_8_method_1_code 1 = .ok (.invokespecial 1, 3) := by decide +kernel
theorem dwic_4 : decode prog_8_method_1_code 4 = .ok (.aload_n 0, 1) := by decide +kernel
theorem dwic_5 : decode prog_8_method_1_code 5 = .ok (.new 7, 3) := by decide +kernel
theorem dwic_8 : decode prog_8_method_1_code 8 = .ok (.dup, 1) := by decide +kernel
theorem dwic_9 : decode prog_8_method_1_code 9 = .ok (.invokespecial 9, 3) := by decide +kernel
theorem dwic_12 : decode prog_8_method_1_code 12 = .ok (.putfield 10, 3) := by decide +kernel
theorem dwic_15 : decode prog_8_method_1_code 15 = .ok (.aload_n 0, 1) := by decide +kernel
theorem dwic_16 : decode prog_8_method_1_code 16 = .ok (.iload_n 1, 1) := by decide +kernel
theorem dwic_17 : decode prog_8_method_1_code 17 = .ok (.putfield 16, 3) := by decide +kernel
theorem dwic_20 : decode prog_8_method_1_code 20 = .ok (.return_, 1) := by decide +kernel
theorem pdwic_0 : parseMethodDescriptor "()V" = some ⟨[], none⟩ := by decide +kernel
theorem pl_wic : plainFor (⟨"com/example/partition_handoff/partitionhandoff/DeliveryWindow", "<init>", "(I)V"⟩ : MethodName) = true := plainFor_of_name (by first | (simp [plainName, overriddenIn]; done) | decide +kernel)
theorem ef_wic (mm : MethodId) (wn : Addr) (p2 : Int32) : entryFrame mm #[(.ref wn), (.int p2)] 2 = mkF mm 0 #[.val (.ref wn), .val (.int p2)] [] := by first | (simp [entryFrame, mkF, argsToLocals, Value.category]; done) | rfl
set_option maxRecDepth 65536 in
set_option maxHeartbeats 40000000 in
theorem rmwic (l : Launch) (Z : State) (a0 : Array Value) (hw : ∀ d ∈ tables_1, d.before a0 Z = true) (wn : Addr) (p2 : Int32) (h0 : Heap) (n0 : Nat) (Z0 : n0 ≤ h0.size) (X_wn : Exa Z h0 wn "com/example/partition_handoff/partitionhandoff/DeliveryWindow") (F_wn_delivered : Fld Z h0 wn "com/example/partition_handoff/partitionhandoff/DeliveryWindow" "delivered" "Ljava/util/Deque;" .null) (F_wn_unacknowledged : Fld Z h0 wn "com/example/partition_handoff/partitionhandoff/DeliveryWindow" "unacknowledged" "I" (.int (0 : Int32))) (F_wn_lastHandledPosition : Fld Z h0 wn "com/example/partition_handoff/partitionhandoff/DeliveryWindow" "lastHandledPosition" "J" (.long (0 : Int64))) (F_wn_hasLastHandled : Fld Z h0 wn "com/example/partition_handoff/partitionhandoff/DeliveryWindow" "hasLastHandled" "Z" (.int (0 : Int32))) (F_wn_handled : Fld Z h0 wn "com/example/partition_handoff/partitionhandoff/DeliveryWindow" "handled" "J" (.long (0 : Int64))) (F_wn_limit : Fld Z h0 wn "com/example/partition_handoff/partitionhandoff/DeliveryWindow" "limit" "I" (.int (0 : Int32))) (n_wn : n0 ≤ wn) :
    Con l (⟨"com/example/partition_handoff/partitionhandoff/DeliveryWindow", "<init>", "(I)V"⟩ : MethodName) prog_8_method_1_code 2 none ({ frames := 3, cells := 2, slots := 20, locals := 38 } : Room) Z #[(.ref wn), (.int p2)] h0 n0 (fun o h => o = none ∧ ∃ q es kE, Keep h0 h [wn] ∧ h0.size ≤ q ∧ h0.size ≤ es ∧ q ≠ es ∧ Exa Z h q "java/util/ArrayDeque" ∧ Ovr Z kE "java/lang/Object" ∧ Arf Z h es kE (.object "java/lang/Object") 17 (fun _ => .null) ∧ Fld Z h wn "com/example/partition_handoff/partitionhandoff/DeliveryWindow" "delivered" "Ljava/util/Deque;" (.ref q) ∧ Fld Z h wn "com/example/partition_handoff/partitionhandoff/DeliveryWindow" "unacknowledged" "I" (.int (0 : Int32)) ∧ Fld Z h wn "com/example/partition_handoff/partitionhandoff/DeliveryWindow" "lastHandledPosition" "J" (.long (0 : Int64)) ∧ Fld Z h wn "com/example/partition_handoff/partitionhandoff/DeliveryWindow" "hasLastHandled" "Z" (.int (0 : Int32)) ∧ Fld Z h wn "com/example/partition_handoff/partitionhandoff/DeliveryWindow" "handled" "J" (.long (0 : Int64)) ∧ Fld Z h q "java/util/ArrayDeque" "elements" "[Ljava/lang/Object;" (.ref es) ∧ Fld Z h q "java/util/ArrayDeque" "head" "I" (.int (0 : Int32)) ∧ Fld Z h q "java/util/ArrayDeque" "tail" "I" (.int (0 : Int32))) := by
  refine Con.enter pl_wic (fun mm => ef_wic mm wn p2) ?_
  intro K O C H
  have KK : Keep h0 h0 [wn] := Keep.refl h0 _
  replace H := k_aloadN C H dwic_0 rfl rfl (pc' := 1) rfl
  replace H := k_initObj C H (hw _ (List.mem_of_getElem? (i := 6) rfl)) (hw _ (List.mem_of_getElem? (i := 7) rfl)) (hw _ (List.mem_of_getElem? (i := 8) rfl)) dwic_1 rfl (by decide) 0 rfl (by decide) (pc' := 4) rfl
  replace H := k_aloadN C H dwic_4 rfl rfl (pc' := 5) rfl
  replace H := k_newObj C H (hw _ (List.mem_of_getElem? (i := 9) rfl)) (hw _ (List.mem_of_getElem? (i := 10) rfl)) (hw _ (List.mem_of_getElem? (i := 11) rfl)) dwic_5 (by decide) (by decide) (pc' := 8) rfl
  obtain ⟨h_q, q, g_q, E_q, X_q, D_q, H⟩ := H
  replace H : K 8 #[.val (.ref wn), .val (.int p2)] [(.ref q), (.ref wn)] h_q 1 3 := H
  have ne_wn_q : wn ≠ q := Nat.ne_of_lt (Nat.lt_of_lt_of_le X_wn.lt (Nat.le_of_eq g_q.symm))
  have n_q : n0 ≤ q := Nat.le_trans Z0 (Nat.le_of_eq g_q.symm)
  have s_q : h0.size ≤ q := Nat.le_trans KK.1 (Nat.le_of_eq g_q.symm)
  replace X_wn := X_wn.ext E_q
  replace F_wn_delivered := F_wn_delivered.ext E_q
  replace F_wn_unacknowledged := F_wn_unacknowledged.ext E_q
  replace F_wn_lastHandledPosition := F_wn_lastHandledPosition.ext E_q
  replace F_wn_hasLastHandled := F_wn_hasLastHandled.ext E_q
  replace F_wn_handled := F_wn_handled.ext E_q
  replace F_wn_limit := F_wn_limit.ext E_q
  replace KK := KK.ext E_q
  have Z_h_q : n0 ≤ h_q.size := Nat.le_trans Z0 E_q.1
  have F_q_elements : Fld Z h_q q "java/util/ArrayDeque" "elements" "[Ljava/lang/Object;" .null := D_q (Or.inl (hw _ (List.mem_of_getElem? (i := 25) rfl))) (ty := (.array (.object "java/lang/Object"))) (by decide)
  have F_q_head : Fld Z h_q q "java/util/ArrayDeque" "head" "I" (.int (0 : Int32)) := D_q (Or.inl (hw _ (List.mem_of_getElem? (i := 71) rfl))) (ty := .int) (by decide)
  have F_q_tail : Fld Z h_q q "java/util/ArrayDeque" "tail" "I" (.int (0 : Int32)) := D_q (Or.inl (hw _ (List.mem_of_getElem? (i := 68) rfl))) (ty := .int) (by decide)
  replace H := k_dup C H dwic_8 rfl (pc' := 9) rfl
  have lt_wn : wn < h_q.size := X_wn.lt
  have lt_q : q < h_q.size := X_q.lt
  have nz := Z_h_q
  replace H := k_callCon C H (rmadc l Z a0 hw q h_q n0 Z_h_q X_q F_q_elements F_q_head F_q_tail n_q) rfl (hw _ (List.mem_of_getElem? (i := 12) rfl)) (hw _ (List.mem_of_getElem? (i := 13) rfl)) (hw _ (List.mem_of_getElem? (i := 11) rfl)) (hw _ (List.mem_of_getElem? (i := 14) rfl)) (by decide) dwic_9 rfl q [] [(.ref q), (.ref wn)] pdwic_0 rfl rfl rfl 2 rfl (by decide) (by decide) (by decide) (by decide) (pc' := 12) rfl
  obtain ⟨_, j38, ⟨rfl, es, kE, K_q, g_es, O_es, V_es, F_q_elements', F_q_head', F_q_tail'⟩, H⟩ := H
  replace H : K 12 #[.val (.ref wn), .val (.int p2)] [(.ref q), (.ref wn)] j38 2 20 := H
  replace X_wn := X_wn.keep K_q
  replace F_wn_delivered := F_wn_delivered.keep K_q (ninS ne_wn_q nin0)
  replace F_wn_unacknowledged := F_wn_unacknowledged.keep K_q (ninS ne_wn_q nin0)
  replace F_wn_lastHandledPosition := F_wn_lastHandledPosition.keep K_q (ninS ne_wn_q nin0)
  replace F_wn_hasLastHandled := F_wn_hasLastHandled.keep K_q (ninS ne_wn_q nin0)
  replace F_wn_handled := F_wn_handled.keep K_q (ninS ne_wn_q nin0)
  replace F_wn_limit := F_wn_limit.keep K_q (ninS ne_wn_q nin0)
  replace X_q := X_q.keep K_q
  replace KK := KK.trans K_q (allS (Or.inr s_q) all0)
  have Z_j38 : n0 ≤ j38.size := Nat.le_trans Z_h_q K_q.1
  replace F_q_elements := F_q_elements'
  clear F_q_elements'
  replace F_q_head := F_q_head'
  clear F_q_head'
  replace F_q_tail := F_q_tail'
  clear F_q_tail'
  have n_es : n0 ≤ es := Nat.le_trans nz g_es
  have ne_wn_es : wn ≠ es := Nat.ne_of_lt (Nat.lt_of_lt_of_le lt_wn g_es)
  have ne_q_es : q ≠ es := Nat.ne_of_lt (Nat.lt_of_lt_of_le lt_q g_es)
  have s_es : h0.size ≤ es := Nat.le_trans (Nat.le_trans (Nat.le_of_lt (Nat.lt_of_le_of_lt s_q lt_q)) (Nat.le_refl _)) g_es
  replace H := k_putFld C H (hw _ (List.mem_of_getElem? (i := 26) rfl)) F_wn_delivered X_wn (Or.inr ⟨(hw _ (List.mem_of_getElem? (i := 27) rfl)), rfl, rfl⟩) (hw _ (List.mem_of_getElem? (i := 1) rfl)) (ty := (.object "java/util/Deque")) (by decide) (v' := (.ref q)) rfl rfl n_wn dwic_12 (pc' := 15) rfl
  obtain ⟨j39, W_j39, H⟩ := H
  replace X_wn := X_wn.wr W_j39
  replace F_wn_delivered := F_wn_delivered.same W_j39
  replace F_wn_unacknowledged := F_wn_unacknowledged.other W_j39 (Or.inr (slot_ne (Or.inl (hw _ (List.mem_of_getElem? (i := 76) rfl))) (Or.inr (hw _ (List.mem_of_getElem? (i := 27) rfl))) (by decide) (t := .int) (t' := (.object "java/util/Deque")) (by decide) (by decide)))
  replace F_wn_lastHandledPosition := F_wn_lastHandledPosition.other W_j39 (Or.inr (slot_ne (Or.inl (hw _ (List.mem_of_getElem? (i := 123) rfl))) (Or.inr (hw _ (List.mem_of_getElem? (i := 27) rfl))) (by decide) (t := .long) (t' := (.object "java/util/Deque")) (by decide) (by decide)))
  replace F_wn_hasLastHandled := F_wn_hasLastHandled.other W_j39 (Or.inr (slot_ne (Or.inl (hw _ (List.mem_of_getElem? (i := 125) rfl))) (Or.inr (hw _ (List.mem_of_getElem? (i := 27) rfl))) (by decide) (t := .boolean) (t' := (.object "java/util/Deque")) (by decide) (by decide)))
  replace F_wn_handled := F_wn_handled.other W_j39 (Or.inr (slot_ne (Or.inl (hw _ (List.mem_of_getElem? (i := 127) rfl))) (Or.inr (hw _ (List.mem_of_getElem? (i := 27) rfl))) (by decide) (t := .long) (t' := (.object "java/util/Deque")) (by decide) (by decide)))
  replace F_wn_limit := F_wn_limit.other W_j39 (Or.inr (slot_ne (Or.inr (hw _ (List.mem_of_getElem? (i := 29) rfl))) (Or.inr (hw _ (List.mem_of_getElem? (i := 27) rfl))) (by decide) (t := .int) (t' := (.object "java/util/Deque")) (by decide) (by decide)))
  replace X_q := X_q.wr W_j39
  replace F_q_elements := F_q_elements.other W_j39 (Or.inl (Ne.symm ne_wn_q))
  replace F_q_head := F_q_head.other W_j39 (Or.inl (Ne.symm ne_wn_q))
  replace F_q_tail := F_q_tail.other W_j39 (Or.inl (Ne.symm ne_wn_q))
  replace V_es := V_es.other W_j39 (Ne.symm ne_wn_es)
  replace KK := KK.wr W_j39 (Or.inl (List.mem_of_getElem? (i := 0) rfl))
  have Z_j39 : n0 ≤ j39.size := by rw [W_j39.size]; exact Z_j38
  replace H := k_aloadN C H dwic_15 rfl rfl (pc' := 16) rfl
  replace H := k_iloadN C H dwic_16 rfl (pc' := 17) rfl
  replace H := k_putFld C H (hw _ (List.mem_of_getElem? (i := 28) rfl)) F_wn_limit X_wn (Or.inr ⟨(hw _ (List.mem_of_getElem? (i := 29) rfl)), rfl, rfl⟩) (hw _ (List.mem_of_getElem? (i := 1) rfl)) (ty := .int) (by decide) (v' := (.int p2)) rfl rfl n_wn dwic_17 (pc' := 20) rfl
  obtain ⟨j40, W_j40, H⟩ := H
  replace X_wn := X_wn.wr W_j40
  replace F_wn_delivered := F_wn_delivered.other W_j40 (Or.inr (slot_ne (Or.inr (hw _ (List.mem_of_getElem? (i := 27) rfl))) (Or.inr (hw _ (List.mem_of_getElem? (i := 29) rfl))) (by decide) (t := (.object "java/util/Deque")) (t' := .int) (by decide) (by decide)))
  replace F_wn_unacknowledged := F_wn_unacknowledged.other W_j40 (Or.inr (slot_ne (Or.inl (hw _ (List.mem_of_getElem? (i := 76) rfl))) (Or.inr (hw _ (List.mem_of_getElem? (i := 29) rfl))) (by decide) (t := .int) (t' := .int) (by decide) (by decide)))
  replace F_wn_lastHandledPosition := F_wn_lastHandledPosition.other W_j40 (Or.inr (slot_ne (Or.inl (hw _ (List.mem_of_getElem? (i := 123) rfl))) (Or.inr (hw _ (List.mem_of_getElem? (i := 29) rfl))) (by decide) (t := .long) (t' := .int) (by decide) (by decide)))
  replace F_wn_hasLastHandled := F_wn_hasLastHandled.other W_j40 (Or.inr (slot_ne (Or.inl (hw _ (List.mem_of_getElem? (i := 125) rfl))) (Or.inr (hw _ (List.mem_of_getElem? (i := 29) rfl))) (by decide) (t := .boolean) (t' := .int) (by decide) (by decide)))
  replace F_wn_handled := F_wn_handled.other W_j40 (Or.inr (slot_ne (Or.inl (hw _ (List.mem_of_getElem? (i := 127) rfl))) (Or.inr (hw _ (List.mem_of_getElem? (i := 29) rfl))) (by decide) (t := .long) (t' := .int) (by decide) (by decide)))
  replace F_wn_limit := F_wn_limit.same W_j40
  replace X_q := X_q.wr W_j40
  replace F_q_elements := F_q_elements.other W_j40 (Or.inl (Ne.symm ne_wn_q))
  replace F_q_head := F_q_head.other W_j40 (Or.inl (Ne.symm ne_wn_q))
  replace F_q_tail := F_q_tail.other W_j40 (Or.inl (Ne.symm ne_wn_q))
  replace V_es := V_es.other W_j40 (Ne.symm ne_wn_es)
  replace KK := KK.wr W_j40 (Or.inl (List.mem_of_getElem? (i := 0) rfl))
  have Z_j40 : n0 ≤ j40.size := by rw [W_j40.size]; exact Z_j39
  exact k_retV C H dwic_20 (by decide) (by decide) ⟨rfl, q, es, kE, KK, s_q, s_es, ne_q_es, X_q, O_es, V_es, F_wn_delivered, F_wn_unacknowledged, F_wn_lastHandledPosition, F_wn_hasLastHandled, F_wn_handled, F_q_elements, F_q_head, F_q_tail⟩
theorem ddic_0 : decode prog_9_method_1_code 0 = .ok (.aload_n 0, 1) := by decide +kernel
theorem ddic_1 : decode prog_9_method_1_code 1 = .ok (.invokespecial 1, 3) := by decide +kernel
theorem ddic_4 : decode prog_9_method_1_code 4 = .ok (.aload_n 0, 1) := by decide +kernel
theorem ddic_5 : decode prog_9_method_1_code 5 = .ok (.lload_n 1, 1) := by decide +kernel
theorem ddic_6 : decode prog_9_method_1_code 6 = .ok (.putfield 7, 3) := by decide +kernel
theorem ddic_9 : decode prog_9_method_1_code 9 = .ok (.return_, 1) := by decide +kernel
theorem pl_dic : plainFor (⟨"com/example/partition_handoff/partitionhandoff/DeliveryWindow$Delivery", "<init>", "(J)V"⟩ : MethodName) = true := plainFor_of_name (by first | (simp [plainName, overriddenIn]; done) | decide +kernel)
theorem ef_dic (mm : MethodId) (d : Addr) (np : Int64) : entryFrame mm #[(.ref d), (.long np)] 3 = mkF mm 0 #[.val (.ref d), .val (.long np), .second] [] := by first | (simp [entryFrame, mkF, argsToLocals, Value.category]; done) | rfl
set_option maxRecDepth 65536 in
set_option maxHeartbeats 40000000 in
theorem rmdic (l : Launch) (Z : State) (a0 : Array Value) (hw : ∀ d ∈ tables_1, d.before a0 Z = true) (d : Addr) (np : Int64) (h0 : Heap) (n0 : Nat) (X_d : Exa Z h0 d "com/example/partition_handoff/partitionhandoff/DeliveryWindow$Delivery") (F_d_position : Fld Z h0 d "com/example/partition_handoff/partitionhandoff/DeliveryWindow$Delivery" "position" "J" (.long (0 : Int64))) (F_d_acknowledged : Fld Z h0 d "com/example/partition_handoff/partitionhandoff/DeliveryWindow$Delivery" "acknowledged" "Z" (.int (0 : Int32))) (F_d_takenBack : Fld Z h0 d "com/example/partition_handoff/partitionhandoff/DeliveryWindow$Delivery" "takenBack" "Z" (.int (0 : Int32))) (n_d : n0 ≤ d) :
    Con l (⟨"com/example/partition_handoff/partitionhandoff/DeliveryWindow$Delivery", "<init>", "(J)V"⟩ : MethodName) prog_9_method_1_code 3 none ({ frames := 1, cells := 0, slots := 0, locals := 12 } : Room) Z #[(.ref d), (.long np)] h0 n0 (fun o h => o = none ∧ Keep h0 h [d] ∧ Fld Z h d "com/example/partition_handoff/partitionhandoff/DeliveryWindow$Delivery" "position" "J" (.long np) ∧ Fld Z h d "com/example/partition_handoff/partitionhandoff/DeliveryWindow$Delivery" "acknowledged" "Z" (.int (0 : Int32)) ∧ Fld Z h d "com/example/partition_handoff/partitionhandoff/DeliveryWindow$Delivery" "takenBack" "Z" (.int (0 : Int32))) := by
  refine Con.enter pl_dic (fun mm => ef_dic mm d np) ?_
  intro K O C H
  have KK : Keep h0 h0 [d] := Keep.refl h0 _
  replace H := k_aloadN C H ddic_0 rfl rfl (pc' := 1) rfl
  replace H := k_initObj C H (hw _ (List.mem_of_getElem? (i := 36) rfl)) (hw _ (List.mem_of_getElem? (i := 7) rfl)) (hw _ (List.mem_of_getElem? (i := 8) rfl)) ddic_1 rfl (by decide) 0 rfl (by decide) (pc' := 4) rfl
  replace H := k_aloadN C H ddic_4 rfl rfl (pc' := 5) rfl
  replace H := k_lloadN C H ddic_5 rfl (pc' := 6) rfl
  replace H := k_putFld C H (hw _ (List.mem_of_getElem? (i := 37) rfl)) F_d_position X_d (Or.inl (hw _ (List.mem_of_getElem? (i := 38) rfl))) (hw _ (List.mem_of_getElem? (i := 31) rfl)) (ty := .long) (by decide) (v' := (.long np)) rfl rfl n_d ddic_6 (pc' := 9) rfl
  obtain ⟨j41, W_j41, H⟩ := H
  replace X_d := X_d.wr W_j41
  replace F_d_position := F_d_position.same W_j41
  replace F_d_acknowledged := F_d_acknowledged.other W_j41 (Or.inr (slot_ne (Or.inl (hw _ (List.mem_of_getElem? (i := 45) rfl))) (Or.inl (hw _ (List.mem_of_getElem? (i := 38) rfl))) (by decide) (t := .boolean) (t' := .long) (by decide) (by decide)))
  replace F_d_takenBack := F_d_takenBack.other W_j41 (Or.inr (slot_ne (Or.inl (hw _ (List.mem_of_getElem? (i := 47) rfl))) (Or.inl (hw _ (List.mem_of_getElem? (i := 38) rfl))) (by decide) (t := .boolean) (t' := .long) (by decide) (by decide)))
  replace KK := KK.wr W_j41 (Or.inl (List.mem_of_getElem? (i := 0) rfl))
  exact k_retV C H ddic_9 (by decide) (by decide) ⟨rfl, KK, F_d_position, F_d_acknowledged, F_d_takenBack⟩
theorem own_lc (x : Int64) : lcmpW x x = 0 := by simp [lcmpW]
theorem pd0_0 : parseMethodDescriptor "(I)V" = some ⟨[.int], none⟩ := by decide +kernel
theorem pd0_1 : parseMethodDescriptor "(J)V" = some ⟨[.long], none⟩ := by decide +kernel
theorem pd0_2 : parseMethodDescriptor "(Lcom/example/partition_handoff/partitionhandoff/DeliveryWindow$Delivery;)V" = some ⟨[(.object "com/example/partition_handoff/partitionhandoff/DeliveryWindow$Delivery")], none⟩ := by decide +kernel
theorem pd0_3 : parseMethodDescriptor "(Lcom/example/partition_handoff/partitionhandoff/DeliveryWindow$Delivery;)Z" = some ⟨[(.object "com/example/partition_handoff/partitionhandoff/DeliveryWindow$Delivery")], some .boolean⟩ := by decide +kernel
theorem pd0_4 : parseMethodDescriptor "(J)Lcom/example/partition_handoff/partitionhandoff/DeliveryWindow$Delivery;" = some ⟨[.long], some (.object "com/example/partition_handoff/partitionhandoff/DeliveryWindow$Delivery")⟩ := by decide +kernel
theorem pd0_5 : parseMethodDescriptor "()Z" = some ⟨[], some .boolean⟩ := by decide +kernel
theorem pd0_6 : parseMethodDescriptor "()J" = some ⟨[], some .long⟩ := by decide +kernel
theorem pd0_7 : parseMethodDescriptor "()I" = some ⟨[], some .int⟩ := by decide +kernel
theorem pl_0 : plainFor x = true := plainFor_of_name (by first | (simp [plainName, overriddenIn]; done) | decide +kernel)
theorem ef_0 (mm : MethodId) (x0 : Int64) (x1 : Int64) (x2 : Int32) : entryFrame mm #[(.long x0), (.long x1), (.int x2)] maxLocals = mkF mm 0 #[.val (.long x0), .second, .val (.long x1), .second, .val (.int x2), .unset, .unset, .unset, .unset, .unset, .unset, .unset, .unset, .unset, .unset, .unset, .unset, .unset] [] := by first | (simp [entryFrame, mkF, argsToLocals, Value.category, maxLocals]; done) | rfl
set_option maxRecDepth 65536 in
set_option maxHeartbeats 40000000 in
theorem rm0 (l : Launch) (Z : State) (a0 : Array Value) (hw : ∀ d ∈ tables_1, d.before a0 Z = true) (x0 : Int64) (x1 : Int64) (x2 : Int32) (h0 : Heap) (n0 : Nat) (Z0 : n0 ≤ h0.size) :
    Con l x code maxLocals ret room_1 Z #[(.long x0), (.long x1), (.int x2)] h0 n0 (fun o h => o = some (.int 1)) := by
  refine Con.enter pl_0 (fun mm => ef_0 mm x0 x1 x2) ?_
  intro K O C H
  replace H := k_iload C H at_0 rfl (pc' := 2) rfl
  replace H := k_iconst C H (v := 3) at_2 rfl (pc' := 3) rfl
  replace H := k_iand C H at_3 (pc' := 4) rfl
  replace H := k_istore C H at_4 (L' := #[.val (.long x0), .second, .val (.long x1), .second, .val (.int x2), .val (.int (x2 &&& (3 : Int32))), .unset, .unset, .unset, .unset, .unset, .unset, .unset, .unset, .unset, .unset, .unset, .unset]) rfl (pc' := 6) rfl
  obtain ⟨md, e_md, H⟩ : ∃ md : Int32, md = (x2 &&& (3 : Int32)) ∧ K 6 #[.val (.long x0), .second, .val (.long x1), .second, .val (.int x2), .val (.int md), .unset, .unset, .unset, .unset, .unset, .unset, .unset, .unset, .unset, .unset, .unset, .unset] [] h0 0 0 := ⟨_, rfl, H⟩
  replace H := k_newObj C H (hw _ (List.mem_of_getElem? (i := 0) rfl)) (hw _ (List.mem_of_getElem? (i := 1) rfl)) (hw _ (List.mem_of_getElem? (i := 2) rfl)) at_6 (by decide) (by decide) (pc' := 9) rfl
  obtain ⟨h_wn, wn, g_wn, E_wn, X_wn, D_wn, H⟩ := H
  replace H : K 9 #[.val (.long x0), .second, .val (.long x1), .second, .val (.int x2), .val (.int md), .unset, .unset, .unset, .unset, .unset, .unset, .unset, .unset, .unset, .unset, .unset, .unset] [(.ref wn)] h_wn 1 6 := H
  have n_wn : n0 ≤ wn := Nat.le_trans Z0 (Nat.le_of_eq g_wn.symm)
  have Z_h_wn : n0 ≤ h_wn.size := Nat.le_trans Z0 E_wn.1
  have F_wn_delivered : Fld Z h_wn wn "com/example/partition_handoff/partitionhandoff/DeliveryWindow" "delivered" "Ljava/util/Deque;" .null := D_wn (Or.inr (hw _ (List.mem_of_getElem? (i := 27) rfl))) (ty := (.object "java/util/Deque")) (by decide)
  have F_wn_unacknowledged : Fld Z h_wn wn "com/example/partition_handoff/partitionhandoff/DeliveryWindow" "unacknowledged" "I" (.int (0 : Int32)) := D_wn (Or.inl (hw _ (List.mem_of_getElem? (i := 76) rfl))) (ty := .int) (by decide)
  have F_wn_lastHandledPosition : Fld Z h_wn wn "com/example/partition_handoff/partitionhandoff/DeliveryWindow" "lastHandledPosition" "J" (.long (0 : Int64)) := D_wn (Or.inl (hw _ (List.mem_of_getElem? (i := 123) rfl))) (ty := .long) (by decide)
  have F_wn_hasLastHandled : Fld Z h_wn wn "com/example/partition_handoff/partitionhandoff/DeliveryWindow" "hasLastHandled" "Z" (.int (0 : Int32)) := D_wn (Or.inl (hw _ (List.mem_of_getElem? (i := 125) rfl))) (ty := .boolean) (by decide)
  have F_wn_handled : Fld Z h_wn wn "com/example/partition_handoff/partitionhandoff/DeliveryWindow" "handled" "J" (.long (0 : Int64)) := D_wn (Or.inl (hw _ (List.mem_of_getElem? (i := 127) rfl))) (ty := .long) (by decide)
  have F_wn_limit : Fld Z h_wn wn "com/example/partition_handoff/partitionhandoff/DeliveryWindow" "limit" "I" (.int (0 : Int32)) := D_wn (Or.inr (hw _ (List.mem_of_getElem? (i := 29) rfl))) (ty := .int) (by decide)
  replace H := k_dup C H at_9 rfl (pc' := 10) rfl
  replace H := k_iconst C H (v := 2) at_10 rfl (pc' := 11) rfl
  have lt_wn : wn < h_wn.size := X_wn.lt
  have nz := Z_h_wn
  replace H := k_callCon C H (rmwic l Z a0 hw wn (2 : Int32) h_wn n0 Z_h_wn X_wn F_wn_delivered F_wn_unacknowledged F_wn_lastHandledPosition F_wn_hasLastHandled F_wn_handled F_wn_limit n_wn) rfl (hw _ (List.mem_of_getElem? (i := 3) rfl)) (hw _ (List.mem_of_getElem? (i := 4) rfl)) (hw _ (List.mem_of_getElem? (i := 2) rfl)) (hw _ (List.mem_of_getElem? (i := 5) rfl)) (by decide) at_11 rfl wn [(.int (2 : Int32))] [(.ref wn)] pd0_0 rfl rfl rfl 1 rfl (by decide) (by decide) (by decide) (by decide) (pc' := 14) rfl
  obtain ⟨_, j42, ⟨rfl, q, es, kE, K_wn, g_q, g_es, ne_q_es, X_q, O_es, V_es, F_wn_delivered', F_wn_unacknowledged', F_wn_lastHandledPosition', F_wn_hasLastHandled', F_wn_handled', F_q_elements', F_q_head', F_q_tail'⟩, H⟩ := H
  replace H : K 14 #[.val (.long x0), .second, .val (.long x1), .second, .val (.int x2), .val (.int md), .unset, .unset, .unset, .unset, .unset, .unset, .unset, .unset, .unset, .unset, .unset, .unset] [(.ref wn)] j42 3 26 := H
  replace X_wn := X_wn.keep K_wn
  have Z_j42 : n0 ≤ j42.size := Nat.le_trans Z_h_wn K_wn.1
  replace F_wn_delivered := F_wn_delivered'
  clear F_wn_delivered'
  replace F_wn_unacknowledged := F_wn_unacknowledged'
  clear F_wn_unacknowledged'
  replace F_wn_lastHandledPosition := F_wn_lastHandledPosition'
  clear F_wn_lastHandledPosition'
  replace F_wn_hasLastHandled := F_wn_hasLastHandled'
  clear F_wn_hasLastHandled'
  replace F_wn_handled := F_wn_handled'
  clear F_wn_handled'
  have F_q_elements := F_q_elements'
  clear F_q_elements'
  have F_q_head := F_q_head'
  clear F_q_head'
  have F_q_tail := F_q_tail'
  clear F_q_tail'
  have n_q : n0 ≤ q := Nat.le_trans nz g_q
  have n_es : n0 ≤ es := Nat.le_trans nz g_es
  have ne_wn_q : wn ≠ q := Nat.ne_of_lt (Nat.lt_of_lt_of_le lt_wn g_q)
  have ne_wn_es : wn ≠ es := Nat.ne_of_lt (Nat.lt_of_lt_of_le lt_wn g_es)
  replace H := k_astore C H at_14 (L' := #[.val (.long x0), .second, .val (.long x1), .second, .val (.int x2), .val (.int md), .val (.ref wn), .unset, .unset, .unset, .unset, .unset, .unset, .unset, .unset, .unset, .unset, .unset]) rfl rfl (pc' := 16) rfl
  replace H := k_newObj C H (hw _ (List.mem_of_getElem? (i := 30) rfl)) (hw _ (List.mem_of_getElem? (i := 31) rfl)) (hw _ (List.mem_of_getElem? (i := 32) rfl)) at_16 (by decide) (by decide) (pc' := 19) rfl
  obtain ⟨h_d, d, g_d, E_d, X_d, D_d, H⟩ := H
  replace H : K 19 #[.val (.long x0), .second, .val (.long x1), .second, .val (.int x2), .val (.int md), .val (.ref wn), .unset, .unset, .unset, .unset, .unset, .unset, .unset, .unset, .unset, .unset, .unset] [(.ref d)] h_d 4 29 := H
  have ne_wn_d : wn ≠ d := Nat.ne_of_lt (Nat.lt_of_lt_of_le X_wn.lt (Nat.le_of_eq g_d.symm))
  have ne_q_d : q ≠ d := Nat.ne_of_lt (Nat.lt_of_lt_of_le X_q.lt (Nat.le_of_eq g_d.symm))
  have ne_es_d : es ≠ d := Nat.ne_of_lt (Nat.lt_of_lt_of_le V_es.lt (Nat.le_of_eq g_d.symm))
  have n_d : n0 ≤ d := Nat.le_trans Z_j42 (Nat.le_of_eq g_d.symm)
  replace X_wn := X_wn.ext E_d
  replace F_wn_delivered := F_wn_delivered.ext E_d
  replace F_wn_unacknowledged := F_wn_unacknowledged.ext E_d
  replace F_wn_lastHandledPosition := F_wn_lastHandledPosition.ext E_d
  replace F_wn_hasLastHandled := F_wn_hasLastHandled.ext E_d
  replace F_wn_handled := F_wn_handled.ext E_d
  replace X_q := X_q.ext E_d
  replace F_q_elements := F_q_elements.ext E_d
  replace F_q_head := F_q_head.ext E_d
  replace F_q_tail := F_q_tail.ext E_d
  replace V_es := V_es.ext E_d
  have Z_h_d : n0 ≤ h_d.size := Nat.le_trans Z_j42 E_d.1
  have F_d_position : Fld Z h_d d "com/example/partition_handoff/partitionhandoff/DeliveryWindow$Delivery" "position" "J" (.long (0 : Int64)) := D_d (Or.inl (hw _ (List.mem_of_getElem? (i := 38) rfl))) (ty := .long) (by decide)
  have F_d_acknowledged : Fld Z h_d d "com/example/partition_handoff/partitionhandoff/DeliveryWindow$Delivery" "acknowledged" "Z" (.int (0 : Int32)) := D_d (Or.inl (hw _ (List.mem_of_getElem? (i := 45) rfl))) (ty := .boolean) (by decide)
  have F_d_takenBack : Fld Z h_d d "com/example/partition_handoff/partitionhandoff/DeliveryWindow$Delivery" "takenBack" "Z" (.int (0 : Int32)) := D_d (Or.inl (hw _ (List.mem_of_getElem? (i := 47) rfl))) (ty := .boolean) (by decide)
  replace H := k_dup C H at_19 rfl (pc' := 20) rfl
  replace H := k_lloadN C H at_20 rfl (pc' := 21) rfl
  replace H := k_callCon C H (rmdic l Z a0 hw d x0 h_d n0 X_d F_d_position F_d_acknowledged F_d_takenBack n_d) rfl (hw _ (List.mem_of_getElem? (i := 33) rfl)) (hw _ (List.mem_of_getElem? (i := 34) rfl)) (hw _ (List.mem_of_getElem? (i := 32) rfl)) (hw _ (List.mem_of_getElem? (i := 35) rfl)) (by decide) at_21 rfl d [(.long x0)] [(.ref d)] pd0_1 rfl rfl rfl 1 rfl (by decide) (by decide) (by decide) (by decide) (pc' := 24) rfl
  obtain ⟨_, j43, ⟨rfl, K_j43, F_d_position', F_d_acknowledged', F_d_takenBack'⟩, H⟩ := H
  replace H : K 24 #[.val (.long x0), .second, .val (.long x1), .second, .val (.int x2), .val (.int md), .val (.ref wn), .unset, .unset, .unset, .unset, .unset, .unset, .unset, .unset, .unset, .unset, .unset] [(.ref d)] j43 4 29 := H
  replace X_wn := X_wn.keep K_j43
  replace F_wn_delivered := F_wn_delivered.keep K_j43 (ninS ne_wn_d nin0)
  replace F_wn_unacknowledged := F_wn_unacknowledged.keep K_j43 (ninS ne_wn_d nin0)
  replace F_wn_lastHandledPosition := F_wn_lastHandledPosition.keep K_j43 (ninS ne_wn_d nin0)
  replace F_wn_hasLastHandled := F_wn_hasLastHandled.keep K_j43 (ninS ne_wn_d nin0)
  replace F_wn_handled := F_wn_handled.keep K_j43 (ninS ne_wn_d nin0)
  replace X_q := X_q.keep K_j43
  replace F_q_elements := F_q_elements.keep K_j43 (ninS ne_q_d nin0)
  replace F_q_head := F_q_head.keep K_j43 (ninS ne_q_d nin0)
  replace F_q_tail := F_q_tail.keep K_j43 (ninS ne_q_d nin0)
  replace V_es := V_es.keep K_j43 (ninS ne_es_d nin0)
  replace X_d := X_d.keep K_j43
  have Z_j43 : n0 ≤ j43.size := Nat.le_trans Z_h_d K_j43.1
  replace F_d_position := F_d_position'
  clear F_d_position'
  replace F_d_acknowledged := F_d_acknowledged'
  clear F_d_acknowledged'
  replace F_d_takenBack := F_d_takenBack'
  clear F_d_takenBack'
  replace H := k_astore C H at_24 (L' := #[.val (.long x0), .second, .val (.long x1), .second, .val (.int x2), .val (.int md), .val (.ref wn), .val (.ref d), .unset, .unset, .unset, .unset, .unset, .unset, .unset, .unset, .unset, .unset]) rfl rfl (pc' := 26) rfl
  replace H := k_lconst C H (v := 0) at_26 rfl (pc' := 27) rfl
  replace H := k_lstore C H at_27 (L' := #[.val (.long x0), .second, .val (.long x1), .second, .val (.int x2), .val (.int md), .val (.ref wn), .val (.ref d), .val (.long (0 : Int64)), .second, .unset, .unset, .unset, .unset, .unset, .unset, .unset, .unset]) rfl (pc' := 29) rfl
  replace H := k_iload C H at_29 rfl (pc' := 31) rfl
  replace H := k_iconst C H (v := 1) at_31 rfl (pc' := 32) rfl
  by_cases hc32 : md = (1 : Int32)
  · replace H := k_icmpY C H at_32 (teq hc32).1 (by decide) (pc' := 41) rfl
    replace H := k_aload C H at_41 rfl rfl (pc' := 43) rfl
    replace H := k_aload C H at_43 rfl rfl (pc' := 45) rfl
    replace H := k_callVir C H (rmdlv0 l Z a0 hw wn d j43 n0 q es kE _ _ _ _ _ _ X_wn F_wn_delivered F_wn_unacknowledged F_wn_lastHandledPosition F_wn_hasLastHandled F_wn_handled n_wn X_q F_q_elements F_q_head F_q_tail n_q V_es O_es n_es X_d F_d_position F_d_acknowledged F_d_takenBack n_d ne_wn_q ne_wn_d ne_q_d) X_wn (hw _ (List.mem_of_getElem? (i := 53) rfl)) (hw _ (List.mem_of_getElem? (i := 54) rfl)) (hw _ (List.mem_of_getElem? (i := 56) rfl)) (hw _ (List.mem_of_getElem? (i := 55) rfl)) (hw _ (List.mem_of_getElem? (i := 2) rfl)) (hw _ (List.mem_of_getElem? (i := 57) rfl)) (by decide) at_45 rfl [(.ref d)] [] pd0_2 rfl rfl rfl 0 rfl (by decide) (by decide) (by decide) (by decide) (pc' := 48) rfl
    obtain ⟨_, j44, ⟨rfl, K_j44, F_wn_delivered', F_wn_unacknowledged', F_wn_lastHandledPosition', F_wn_hasLastHandled', F_wn_handled', F_q_elements', F_q_head', F_q_tail', V_es'⟩, H⟩ := H
    replace H : K 48 #[.val (.long x0), .second, .val (.long x1), .second, .val (.int x2), .val (.int md), .val (.ref wn), .val (.ref d), .val (.long (0 : Int64)), .second, .unset, .unset, .unset, .unset, .unset, .unset, .unset, .unset] [] j44 4 29 := H
    replace X_wn := X_wn.keep K_j44
    replace X_q := X_q.keep K_j44
    replace X_d := X_d.keep K_j44
    replace F_d_position := F_d_position.keep K_j44 (ninS (Ne.symm ne_wn_d) (ninS (Ne.symm ne_q_d) (ninS (Ne.symm ne_es_d) nin0)))
    replace F_d_acknowledged := F_d_acknowledged.keep K_j44 (ninS (Ne.symm ne_wn_d) (ninS (Ne.symm ne_q_d) (ninS (Ne.symm ne_es_d) nin0)))
    replace F_d_takenBack := F_d_takenBack.keep K_j44 (ninS (Ne.symm ne_wn_d) (ninS (Ne.symm ne_q_d) (ninS (Ne.symm ne_es_d) nin0)))
    have Z_j44 : n0 ≤ j44.size := Nat.le_trans Z_j43 K_j44.1
    replace F_wn_delivered := F_wn_delivered'
    clear F_wn_delivered'
    replace F_wn_unacknowledged := F_wn_unacknowledged'
    clear F_wn_unacknowledged'
    replace F_wn_lastHandledPosition := F_wn_lastHandledPosition'
    clear F_wn_lastHandledPosition'
    replace F_wn_hasLastHandled := F_wn_hasLastHandled'
    clear F_wn_hasLastHandled'
    replace F_wn_handled := F_wn_handled'
    clear F_wn_handled'
    replace F_q_elements := F_q_elements'
    clear F_q_elements'
    replace F_q_head := F_q_head'
    clear F_q_head'
    replace F_q_tail := F_q_tail'
    clear F_q_tail'
    replace V_es := V_es'
    clear V_es'
    replace H := k_aload C H at_48 rfl rfl (pc' := 50) rfl
    replace H := k_aload C H at_50 rfl rfl (pc' := 52) rfl
    replace H := k_callVir C H (rmack0 l Z a0 hw wn d j44 n0 q es kE _ _ _ X_wn F_wn_delivered F_wn_unacknowledged F_wn_lastHandledPosition F_wn_hasLastHandled F_wn_handled n_wn X_q F_q_elements F_q_head F_q_tail n_q V_es O_es n_es X_d F_d_position F_d_acknowledged F_d_takenBack n_d ne_wn_q ne_wn_d ne_q_d) X_wn (hw _ (List.mem_of_getElem? (i := 77) rfl)) (hw _ (List.mem_of_getElem? (i := 78) rfl)) (hw _ (List.mem_of_getElem? (i := 80) rfl)) (hw _ (List.mem_of_getElem? (i := 79) rfl)) (hw _ (List.mem_of_getElem? (i := 2) rfl)) (hw _ (List.mem_of_getElem? (i := 81) rfl)) (by decide) at_52 rfl [(.ref d)] [] pd0_3 rfl rfl rfl 0 rfl (by decide) (by decide) (by decide) (by decide) (pc' := 55) rfl
    obtain ⟨_, j45, ⟨rfl, K_j45, F_wn_delivered', F_wn_unacknowledged', F_wn_lastHandledPosition', F_wn_hasLastHandled', F_wn_handled', F_q_elements', F_q_head', F_q_tail', V_es', F_d_position', F_d_acknowledged', F_d_takenBack'⟩, H⟩ := H
    replace H : K 55 #[.val (.long x0), .second, .val (.long x1), .second, .val (.int x2), .val (.int md), .val (.ref wn), .val (.ref d), .val (.long (0 : Int64)), .second, .unset, .unset, .unset, .unset, .unset, .unset, .unset, .unset] [(.int (1 : Int32))] j45 4 29 := H
    replace X_wn := X_wn.keep K_j45
    replace X_q := X_q.keep K_j45
    replace X_d := X_d.keep K_j45
    have Z_j45 : n0 ≤ j45.size := Nat.le_trans Z_j44 K_j45.1
    replace F_wn_delivered := F_wn_delivered'
    clear F_wn_delivered'
    replace F_wn_unacknowledged := F_wn_unacknowledged'
    clear F_wn_unacknowledged'
    replace F_wn_lastHandledPosition := F_wn_lastHandledPosition'
    clear F_wn_lastHandledPosition'
    replace F_wn_hasLastHandled := F_wn_hasLastHandled'
    clear F_wn_hasLastHandled'
    replace F_wn_handled := F_wn_handled'
    clear F_wn_handled'
    replace F_q_elements := F_q_elements'
    clear F_q_elements'
    replace F_q_head := F_q_head'
    clear F_q_head'
    replace F_q_tail := F_q_tail'
    clear F_q_tail'
    replace V_es := V_es'
    clear V_es'
    replace F_d_position := F_d_position'
    clear F_d_position'
    replace F_d_acknowledged := F_d_acknowledged'
    clear F_d_acknowledged'
    replace F_d_takenBack := F_d_takenBack'
    clear F_d_takenBack'
    replace H := k_pop C H at_55 rfl (pc' := 56) rfl
    replace H := k_lconst C H (v := 1) at_56 rfl (pc' := 57) rfl
    replace H := k_lstore C H at_57 (L' := #[.val (.long x0), .second, .val (.long x1), .second, .val (.int x2), .val (.int md), .val (.ref wn), .val (.ref d), .val (.long (1 : Int64)), .second, .unset, .unset, .unset, .unset, .unset, .unset, .unset, .unset]) rfl (pc' := 59) rfl
    replace H := k_goto C H at_59 (by decide) (pc' := 82) rfl
    replace H := k_aload C H at_82 rfl rfl (pc' := 84) rfl
    replace H := k_lloadN C H at_84 rfl (pc' := 85) rfl
    replace H := k_callVir C H (rmreu l Z a0 hw d x1 j45 n0 _ _ _ X_d F_d_position F_d_acknowledged F_d_takenBack n_d) X_d (hw _ (List.mem_of_getElem? (i := 39) rfl)) (hw _ (List.mem_of_getElem? (i := 40) rfl)) (hw _ (List.mem_of_getElem? (i := 42) rfl)) (hw _ (List.mem_of_getElem? (i := 41) rfl)) (hw _ (List.mem_of_getElem? (i := 32) rfl)) (hw _ (List.mem_of_getElem? (i := 43) rfl)) (by decide) at_85 rfl [(.long x1)] [] pd0_4 rfl rfl rfl 0 rfl (by decide) (by decide) (by decide) (by decide) (pc' := 88) rfl
    obtain ⟨_, j46, ⟨rfl, K_j46, F_d_position', F_d_acknowledged', F_d_takenBack'⟩, H⟩ := H
    replace H : K 88 #[.val (.long x0), .second, .val (.long x1), .second, .val (.int x2), .val (.int md), .val (.ref wn), .val (.ref d), .val (.long (1 : Int64)), .second, .unset, .unset, .unset, .unset, .unset, .unset, .unset, .unset] [(.ref d)] j46 4 29 := H
    replace X_wn := X_wn.keep K_j46
    replace X_q := X_q.keep K_j46
    replace X_d := X_d.keep K_j46
    replace F_wn_delivered := F_wn_delivered.keep K_j46 (ninS ne_wn_d nin0)
    replace F_wn_unacknowledged := F_wn_unacknowledged.keep K_j46 (ninS ne_wn_d nin0)
    replace F_wn_lastHandledPosition := F_wn_lastHandledPosition.keep K_j46 (ninS ne_wn_d nin0)
    replace F_wn_hasLastHandled := F_wn_hasLastHandled.keep K_j46 (ninS ne_wn_d nin0)
    replace F_wn_handled := F_wn_handled.keep K_j46 (ninS ne_wn_d nin0)
    replace F_q_elements := F_q_elements.keep K_j46 (ninS ne_q_d nin0)
    replace F_q_head := F_q_head.keep K_j46 (ninS ne_q_d nin0)
    replace F_q_tail := F_q_tail.keep K_j46 (ninS ne_q_d nin0)
    replace V_es := V_es.keep K_j46 (ninS ne_es_d nin0)
    have Z_j46 : n0 ≤ j46.size := Nat.le_trans Z_j45 K_j46.1
    replace F_d_position := F_d_position'
    clear F_d_position'
    replace F_d_acknowledged := F_d_acknowledged'
    clear F_d_acknowledged'
    replace F_d_takenBack := F_d_takenBack'
    clear F_d_takenBack'
    replace H := k_astore C H at_88 (L' := #[.val (.long x0), .second, .val (.long x1), .second, .val (.int x2), .val (.int md), .val (.ref wn), .val (.ref d), .val (.long (1 : Int64)), .second, .val (.ref d), .unset, .unset, .unset, .unset, .unset, .unset, .unset]) rfl rfl (pc' := 90) rfl
    replace H := k_aload C H at_90 rfl rfl (pc' := 92) rfl
    replace H := k_aload C H at_92 rfl rfl (pc' := 94) rfl
    replace H := k_acmp C H at_94 rfl rfl (same := true) (by simp) (by decide) (pc' := 97) rfl
    replace H := k_iconst C H (v := 1) at_97 rfl (pc' := 98) rfl
    replace H := k_goto C H at_98 (by decide) (pc' := 102) rfl
    replace H := k_istore C H at_102 (L' := #[.val (.long x0), .second, .val (.long x1), .second, .val (.int x2), .val (.int md), .val (.ref wn), .val (.ref d), .val (.long (1 : Int64)), .second, .val (.ref d), .val (.int (1 : Int32)), .unset, .unset, .unset, .unset, .unset, .unset]) rfl (pc' := 104) rfl
    replace H := k_aload C H at_104 rfl rfl (pc' := 106) rfl
    replace H := k_callVir C H (rmgisAcknowledged l Z a0 hw d j46 n0 _ F_d_acknowledged (by decide)) X_d (hw _ (List.mem_of_getElem? (i := 48) rfl)) (hw _ (List.mem_of_getElem? (i := 49) rfl)) (hw _ (List.mem_of_getElem? (i := 51) rfl)) (hw _ (List.mem_of_getElem? (i := 50) rfl)) (hw _ (List.mem_of_getElem? (i := 32) rfl)) (hw _ (List.mem_of_getElem? (i := 52) rfl)) (by decide) at_106 rfl [] [] pd0_5 rfl rfl rfl 0 rfl (by decide) (by decide) (by decide) (by decide) (pc' := 109) rfl
    obtain ⟨_, _, ⟨rfl, rfl⟩, H⟩ := H
    replace H : K 109 #[.val (.long x0), .second, .val (.long x1), .second, .val (.int x2), .val (.int md), .val (.ref wn), .val (.ref d), .val (.long (1 : Int64)), .second, .val (.ref d), .val (.int (1 : Int32)), .unset, .unset, .unset, .unset, .unset, .unset] [(.int (0 : Int32))] j46 4 29 := H
    replace H := k_ifcN C H at_109 (teq (by decide : (0 : Int32) = (0 : Int32))).2 (pc' := 112) rfl
    replace H := k_iconst C H (v := 1) at_112 rfl (pc' := 113) rfl
    replace H := k_goto C H at_113 (by decide) (pc' := 117) rfl
    replace H := k_istore C H at_117 (L' := #[.val (.long x0), .second, .val (.long x1), .second, .val (.int x2), .val (.int md), .val (.ref wn), .val (.ref d), .val (.long (1 : Int64)), .second, .val (.ref d), .val (.int (1 : Int32)), .val (.int (1 : Int32)), .unset, .unset, .unset, .unset, .unset]) rfl (pc' := 119) rfl
    replace H := k_aload C H at_119 rfl rfl (pc' := 121) rfl
    replace H := k_aload C H at_121 rfl rfl (pc' := 123) rfl
    replace H := k_callVir C H (rmdlv1 l Z a0 hw wn d j46 n0 q es kE _ _ _ _ _ _ X_wn F_wn_delivered F_wn_unacknowledged F_wn_lastHandledPosition F_wn_hasLastHandled F_wn_handled n_wn X_q F_q_elements F_q_head F_q_tail n_q V_es O_es n_es X_d F_d_position F_d_acknowledged F_d_takenBack n_d ne_wn_q ne_wn_d ne_q_d) X_wn (hw _ (List.mem_of_getElem? (i := 53) rfl)) (hw _ (List.mem_of_getElem? (i := 54) rfl)) (hw _ (List.mem_of_getElem? (i := 56) rfl)) (hw _ (List.mem_of_getElem? (i := 55) rfl)) (hw _ (List.mem_of_getElem? (i := 2) rfl)) (hw _ (List.mem_of_getElem? (i := 57) rfl)) (by decide) at_123 rfl [(.ref d)] [] pd0_2 rfl rfl rfl 0 rfl (by decide) (by decide) (by decide) (by decide) (pc' := 126) rfl
    obtain ⟨_, j47, ⟨rfl, K_j47, F_wn_delivered', F_wn_unacknowledged', F_wn_lastHandledPosition', F_wn_hasLastHandled', F_wn_handled', F_q_elements', F_q_head', F_q_tail', V_es'⟩, H⟩ := H
    replace H : K 126 #[.val (.long x0), .second, .val (.long x1), .second, .val (.int x2), .val (.int md), .val (.ref wn), .val (.ref d), .val (.long (1 : Int64)), .second, .val (.ref d), .val (.int (1 : Int32)), .val (.int (1 : Int32)), .unset, .unset, .unset, .unset, .unset] [] j47 4 29 := H
    replace X_wn := X_wn.keep K_j47
    replace X_q := X_q.keep K_j47
    replace X_d := X_d.keep K_j47
    replace F_d_position := F_d_position.keep K_j47 (ninS (Ne.symm ne_wn_d) (ninS (Ne.symm ne_q_d) (ninS (Ne.symm ne_es_d) nin0)))
    replace F_d_acknowledged := F_d_acknowledged.keep K_j47 (ninS (Ne.symm ne_wn_d) (ninS (Ne.symm ne_q_d) (ninS (Ne.symm ne_es_d) nin0)))
    replace F_d_takenBack := F_d_takenBack.keep K_j47 (ninS (Ne.symm ne_wn_d) (ninS (Ne.symm ne_q_d) (ninS (Ne.symm ne_es_d) nin0)))
    have Z_j47 : n0 ≤ j47.size := Nat.le_trans Z_j46 K_j47.1
    replace F_wn_delivered := F_wn_delivered'
    clear F_wn_delivered'
    replace F_wn_unacknowledged := F_wn_unacknowledged'
    clear F_wn_unacknowledged'
    replace F_wn_lastHandledPosition := F_wn_lastHandledPosition'
    clear F_wn_lastHandledPosition'
    replace F_wn_hasLastHandled := F_wn_hasLastHandled'
    clear F_wn_hasLastHandled'
    replace F_wn_handled := F_wn_handled'
    clear F_wn_handled'
    replace F_q_elements := F_q_elements'
    clear F_q_elements'
    replace F_q_head := F_q_head'
    clear F_q_head'
    replace F_q_tail := F_q_tail'
    clear F_q_tail'
    replace V_es := V_es'
    clear V_es'
    replace H := k_aload C H at_126 rfl rfl (pc' := 128) rfl
    replace H := k_aload C H at_128 rfl rfl (pc' := 130) rfl
    replace H := k_callVir C H (rmack1 l Z a0 hw wn d j47 n0 q es kE _ _ _ X_wn F_wn_delivered F_wn_unacknowledged F_wn_lastHandledPosition F_wn_hasLastHandled F_wn_handled n_wn X_q F_q_elements F_q_head F_q_tail n_q V_es O_es n_es X_d F_d_position F_d_acknowledged F_d_takenBack n_d ne_wn_q ne_wn_d ne_q_d) X_wn (hw _ (List.mem_of_getElem? (i := 77) rfl)) (hw _ (List.mem_of_getElem? (i := 78) rfl)) (hw _ (List.mem_of_getElem? (i := 80) rfl)) (hw _ (List.mem_of_getElem? (i := 79) rfl)) (hw _ (List.mem_of_getElem? (i := 2) rfl)) (hw _ (List.mem_of_getElem? (i := 81) rfl)) (by decide) at_130 rfl [(.ref d)] [] pd0_3 rfl rfl rfl 0 rfl (by decide) (by decide) (by decide) (by decide) (pc' := 133) rfl
    obtain ⟨_, j48, ⟨rfl, K_j48, F_wn_delivered', F_wn_unacknowledged', F_wn_lastHandledPosition', F_wn_hasLastHandled', F_wn_handled', F_q_elements', F_q_head', F_q_tail', V_es', F_d_position', F_d_acknowledged', F_d_takenBack'⟩, H⟩ := H
    replace H : K 133 #[.val (.long x0), .second, .val (.long x1), .second, .val (.int x2), .val (.int md), .val (.ref wn), .val (.ref d), .val (.long (1 : Int64)), .second, .val (.ref d), .val (.int (1 : Int32)), .val (.int (1 : Int32)), .unset, .unset, .unset, .unset, .unset] [(.int (1 : Int32))] j48 4 29 := H
    replace X_wn := X_wn.keep K_j48
    replace X_q := X_q.keep K_j48
    replace X_d := X_d.keep K_j48
    have Z_j48 : n0 ≤ j48.size := Nat.le_trans Z_j47 K_j48.1
    replace F_wn_delivered := F_wn_delivered'
    clear F_wn_delivered'
    replace F_wn_unacknowledged := F_wn_unacknowledged'
    clear F_wn_unacknowledged'
    replace F_wn_lastHandledPosition := F_wn_lastHandledPosition'
    clear F_wn_lastHandledPosition'
    replace F_wn_hasLastHandled := F_wn_hasLastHandled'
    clear F_wn_hasLastHandled'
    replace F_wn_handled := F_wn_handled'
    clear F_wn_handled'
    replace F_q_elements := F_q_elements'
    clear F_q_elements'
    replace F_q_head := F_q_head'
    clear F_q_head'
    replace F_q_tail := F_q_tail'
    clear F_q_tail'
    replace V_es := V_es'
    clear V_es'
    replace F_d_position := F_d_position'
    clear F_d_position'
    replace F_d_acknowledged := F_d_acknowledged'
    clear F_d_acknowledged'
    replace F_d_takenBack := F_d_takenBack'
    clear F_d_takenBack'
    replace H := k_istore C H at_133 (L' := #[.val (.long x0), .second, .val (.long x1), .second, .val (.int x2), .val (.int md), .val (.ref wn), .val (.ref d), .val (.long (1 : Int64)), .second, .val (.ref d), .val (.int (1 : Int32)), .val (.int (1 : Int32)), .val (.int (1 : Int32)), .unset, .unset, .unset, .unset]) rfl (pc' := 135) rfl
    replace H := k_aload C H at_135 rfl rfl (pc' := 137) rfl
    replace H := k_callVir C H (rmgisAcknowledged l Z a0 hw d j48 n0 _ F_d_acknowledged (by decide)) X_d (hw _ (List.mem_of_getElem? (i := 48) rfl)) (hw _ (List.mem_of_getElem? (i := 49) rfl)) (hw _ (List.mem_of_getElem? (i := 51) rfl)) (hw _ (List.mem_of_getElem? (i := 50) rfl)) (hw _ (List.mem_of_getElem? (i := 32) rfl)) (hw _ (List.mem_of_getElem? (i := 52) rfl)) (by decide) at_137 rfl [] [] pd0_5 rfl rfl rfl 0 rfl (by decide) (by decide) (by decide) (by decide) (pc' := 140) rfl
    obtain ⟨_, _, ⟨rfl, rfl⟩, H⟩ := H
    replace H : K 140 #[.val (.long x0), .second, .val (.long x1), .second, .val (.int x2), .val (.int md), .val (.ref wn), .val (.ref d), .val (.long (1 : Int64)), .second, .val (.ref d), .val (.int (1 : Int32)), .val (.int (1 : Int32)), .val (.int (1 : Int32)), .unset, .unset, .unset, .unset] [(.int (1 : Int32))] j48 4 29 := H
    replace H := k_istore C H at_140 (L' := #[.val (.long x0), .second, .val (.long x1), .second, .val (.int x2), .val (.int md), .val (.ref wn), .val (.ref d), .val (.long (1 : Int64)), .second, .val (.ref d), .val (.int (1 : Int32)), .val (.int (1 : Int32)), .val (.int (1 : Int32)), .val (.int (1 : Int32)), .unset, .unset, .unset]) rfl (pc' := 142) rfl
    replace H := k_aload C H at_142 rfl rfl (pc' := 144) rfl
    replace H := k_callVir C H (rmglastHandled l Z a0 hw wn j48 n0 _ F_wn_lastHandledPosition) X_wn (hw _ (List.mem_of_getElem? (i := 128) rfl)) (hw _ (List.mem_of_getElem? (i := 129) rfl)) (hw _ (List.mem_of_getElem? (i := 131) rfl)) (hw _ (List.mem_of_getElem? (i := 130) rfl)) (hw _ (List.mem_of_getElem? (i := 2) rfl)) (hw _ (List.mem_of_getElem? (i := 132) rfl)) (by decide) at_144 rfl [] [] pd0_6 rfl rfl rfl 0 rfl (by decide) (by decide) (by decide) (by decide) (pc' := 147) rfl
    obtain ⟨_, _, ⟨rfl, rfl⟩, H⟩ := H
    replace H : K 147 #[.val (.long x0), .second, .val (.long x1), .second, .val (.int x2), .val (.int md), .val (.ref wn), .val (.ref d), .val (.long (1 : Int64)), .second, .val (.ref d), .val (.int (1 : Int32)), .val (.int (1 : Int32)), .val (.int (1 : Int32)), .val (.int (1 : Int32)), .unset, .unset, .unset] [(.long x1)] j48 4 29 := H
    replace H := k_lloadN C H at_147 rfl (pc' := 148) rfl
    replace H := k_lcmp C H at_148 (pc' := 149) rfl
    replace H := k_ifcN C H at_149 (teq (own_lc x1)).2 (pc' := 152) rfl
    replace H := k_iconst C H (v := 1) at_152 rfl (pc' := 153) rfl
    replace H := k_goto C H at_153 (by decide) (pc' := 157) rfl
    replace H := k_istore C H at_157 (L' := #[.val (.long x0), .second, .val (.long x1), .second, .val (.int x2), .val (.int md), .val (.ref wn), .val (.ref d), .val (.long (1 : Int64)), .second, .val (.ref d), .val (.int (1 : Int32)), .val (.int (1 : Int32)), .val (.int (1 : Int32)), .val (.int (1 : Int32)), .val (.int (1 : Int32)), .unset, .unset]) rfl (pc' := 159) rfl
    replace H := k_aload C H at_159 rfl rfl (pc' := 161) rfl
    replace H := k_callVir C H (rmghandled l Z a0 hw wn j48 n0 _ F_wn_handled) X_wn (hw _ (List.mem_of_getElem? (i := 133) rfl)) (hw _ (List.mem_of_getElem? (i := 134) rfl)) (hw _ (List.mem_of_getElem? (i := 136) rfl)) (hw _ (List.mem_of_getElem? (i := 135) rfl)) (hw _ (List.mem_of_getElem? (i := 2) rfl)) (hw _ (List.mem_of_getElem? (i := 137) rfl)) (by decide) at_161 rfl [] [] pd0_6 rfl rfl rfl 0 rfl (by decide) (by decide) (by decide) (by decide) (pc' := 164) rfl
    obtain ⟨_, _, ⟨rfl, rfl⟩, H⟩ := H
    replace H : K 164 #[.val (.long x0), .second, .val (.long x1), .second, .val (.int x2), .val (.int md), .val (.ref wn), .val (.ref d), .val (.long (1 : Int64)), .second, .val (.ref d), .val (.int (1 : Int32)), .val (.int (1 : Int32)), .val (.int (1 : Int32)), .val (.int (1 : Int32)), .val (.int (1 : Int32)), .unset, .unset] [(.long (2 : Int64))] j48 4 29 := H
    replace H := k_lload C H at_164 rfl (pc' := 166) rfl
    replace H := k_lconst C H (v := 1) at_166 rfl (pc' := 167) rfl
    replace H := k_ladd C H at_167 (pc' := 168) rfl
    replace H : K 168 #[.val (.long x0), .second, .val (.long x1), .second, .val (.int x2), .val (.int md), .val (.ref wn), .val (.ref d), .val (.long (1 : Int64)), .second, .val (.ref d), .val (.int (1 : Int32)), .val (.int (1 : Int32)), .val (.int (1 : Int32)), .val (.int (1 : Int32)), .val (.int (1 : Int32)), .unset, .unset] [(.long (2 : Int64)), (.long (2 : Int64))] j48 4 29 := H
    replace H := k_lcmp C H at_168 (pc' := 169) rfl
    have lc : lcmpW (2 : Int64) (2 : Int64) = (0 : Int32) := by decide
    rw [lc] at H
    clear lc
    replace H := k_ifcN C H at_169 (teq (by decide : (0 : Int32) = (0 : Int32))).2 (pc' := 172) rfl
    replace H := k_iconst C H (v := 1) at_172 rfl (pc' := 173) rfl
    replace H := k_goto C H at_173 (by decide) (pc' := 177) rfl
    replace H := k_istore C H at_177 (L' := #[.val (.long x0), .second, .val (.long x1), .second, .val (.int x2), .val (.int md), .val (.ref wn), .val (.ref d), .val (.long (1 : Int64)), .second, .val (.ref d), .val (.int (1 : Int32)), .val (.int (1 : Int32)), .val (.int (1 : Int32)), .val (.int (1 : Int32)), .val (.int (1 : Int32)), .val (.int (1 : Int32)), .unset]) rfl (pc' := 179) rfl
    replace H := k_aload C H at_179 rfl rfl (pc' := 181) rfl
    replace H := k_callVir C H (rmgunacknowledged l Z a0 hw wn j48 n0 _ F_wn_unacknowledged) X_wn (hw _ (List.mem_of_getElem? (i := 138) rfl)) (hw _ (List.mem_of_getElem? (i := 139) rfl)) (hw _ (List.mem_of_getElem? (i := 141) rfl)) (hw _ (List.mem_of_getElem? (i := 140) rfl)) (hw _ (List.mem_of_getElem? (i := 2) rfl)) (hw _ (List.mem_of_getElem? (i := 142) rfl)) (by decide) at_181 rfl [] [] pd0_7 rfl rfl rfl 0 rfl (by decide) (by decide) (by decide) (by decide) (pc' := 184) rfl
    obtain ⟨_, _, ⟨rfl, rfl⟩, H⟩ := H
    replace H : K 184 #[.val (.long x0), .second, .val (.long x1), .second, .val (.int x2), .val (.int md), .val (.ref wn), .val (.ref d), .val (.long (1 : Int64)), .second, .val (.ref d), .val (.int (1 : Int32)), .val (.int (1 : Int32)), .val (.int (1 : Int32)), .val (.int (1 : Int32)), .val (.int (1 : Int32)), .val (.int (1 : Int32)), .unset] [(.int (0 : Int32))] j48 4 29 := H
    replace H := k_ifcN C H at_184 (teq (by decide : (0 : Int32) = (0 : Int32))).2 (pc' := 187) rfl
    replace H := k_iconst C H (v := 1) at_187 rfl (pc' := 188) rfl
    replace H := k_goto C H at_188 (by decide) (pc' := 192) rfl
    replace H := k_istore C H at_192 (L' := #[.val (.long x0), .second, .val (.long x1), .second, .val (.int x2), .val (.int md), .val (.ref wn), .val (.ref d), .val (.long (1 : Int64)), .second, .val (.ref d), .val (.int (1 : Int32)), .val (.int (1 : Int32)), .val (.int (1 : Int32)), .val (.int (1 : Int32)), .val (.int (1 : Int32)), .val (.int (1 : Int32)), .val (.int (1 : Int32))]) rfl (pc' := 194) rfl
    replace H := k_iload C H at_194 rfl (pc' := 196) rfl
    replace H := k_ifcN C H at_196 (feq (by decide : ¬ ((1 : Int32) = (0 : Int32)))).1 (pc' := 199) rfl
    replace H := k_iload C H at_199 rfl (pc' := 201) rfl
    replace H := k_ifcN C H at_201 (feq (by decide : ¬ ((1 : Int32) = (0 : Int32)))).1 (pc' := 204) rfl
    replace H := k_iload C H at_204 rfl (pc' := 206) rfl
    replace H := k_ifcN C H at_206 (feq (by decide : ¬ ((1 : Int32) = (0 : Int32)))).1 (pc' := 209) rfl
    replace H := k_iload C H at_209 rfl (pc' := 211) rfl
    replace H := k_ifcN C H at_211 (feq (by decide : ¬ ((1 : Int32) = (0 : Int32)))).1 (pc' := 214) rfl
    replace H := k_iload C H at_214 rfl (pc' := 216) rfl
    replace H := k_ifcN C H at_216 (feq (by decide : ¬ ((1 : Int32) = (0 : Int32)))).1 (pc' := 219) rfl
    replace H := k_iload C H at_219 rfl (pc' := 221) rfl
    replace H := k_ifcN C H at_221 (feq (by decide : ¬ ((1 : Int32) = (0 : Int32)))).1 (pc' := 224) rfl
    replace H := k_iload C H at_224 rfl (pc' := 226) rfl
    replace H := k_ifcN C H at_226 (feq (by decide : ¬ ((1 : Int32) = (0 : Int32)))).1 (pc' := 229) rfl
    replace H := k_iconst C H (v := 1) at_229 rfl (pc' := 230) rfl
    replace H := k_goto C H at_230 (by decide) (pc' := 234) rfl
    exact k_retZ C H at_234 (by decide) (by decide) (by decide) rfl
  · replace H := k_icmpN C H at_32 (feq hc32).1 (pc' := 35) rfl
    replace H := k_iload C H at_35 rfl (pc' := 37) rfl
    replace H := k_iconst C H (v := 3) at_37 rfl (pc' := 38) rfl
    by_cases hc38 : md = (3 : Int32)
    · replace H := k_icmpN C H at_38 (teq hc38).2 (pc' := 41) rfl
      replace H := k_aload C H at_41 rfl rfl (pc' := 43) rfl
      replace H := k_aload C H at_43 rfl rfl (pc' := 45) rfl
      replace H := k_callVir C H (rmdlv0 l Z a0 hw wn d j43 n0 q es kE _ _ _ _ _ _ X_wn F_wn_delivered F_wn_unacknowledged F_wn_lastHandledPosition F_wn_hasLastHandled F_wn_handled n_wn X_q F_q_elements F_q_head F_q_tail n_q V_es O_es n_es X_d F_d_position F_d_acknowledged F_d_takenBack n_d ne_wn_q ne_wn_d ne_q_d) X_wn (hw _ (List.mem_of_getElem? (i := 53) rfl)) (hw _ (List.mem_of_getElem? (i := 54) rfl)) (hw _ (List.mem_of_getElem? (i := 56) rfl)) (hw _ (List.mem_of_getElem? (i := 55) rfl)) (hw _ (List.mem_of_getElem? (i := 2) rfl)) (hw _ (List.mem_of_getElem? (i := 57) rfl)) (by decide) at_45 rfl [(.ref d)] [] pd0_2 rfl rfl rfl 0 rfl (by decide) (by decide) (by decide) (by decide) (pc' := 48) rfl
      obtain ⟨_, j49, ⟨rfl, K_j49, F_wn_delivered', F_wn_unacknowledged', F_wn_lastHandledPosition', F_wn_hasLastHandled', F_wn_handled', F_q_elements', F_q_head', F_q_tail', V_es'⟩, H⟩ := H
      replace H : K 48 #[.val (.long x0), .second, .val (.long x1), .second, .val (.int x2), .val (.int md), .val (.ref wn), .val (.ref d), .val (.long (0 : Int64)), .second, .unset, .unset, .unset, .unset, .unset, .unset, .unset, .unset] [] j49 4 29 := H
      replace X_wn := X_wn.keep K_j49
      replace X_q := X_q.keep K_j49
      replace X_d := X_d.keep K_j49
      replace F_d_position := F_d_position.keep K_j49 (ninS (Ne.symm ne_wn_d) (ninS (Ne.symm ne_q_d) (ninS (Ne.symm ne_es_d) nin0)))
      replace F_d_acknowledged := F_d_acknowledged.keep K_j49 (ninS (Ne.symm ne_wn_d) (ninS (Ne.symm ne_q_d) (ninS (Ne.symm ne_es_d) nin0)))
      replace F_d_takenBack := F_d_takenBack.keep K_j49 (ninS (Ne.symm ne_wn_d) (ninS (Ne.symm ne_q_d) (ninS (Ne.symm ne_es_d) nin0)))
      have Z_j49 : n0 ≤ j49.size := Nat.le_trans Z_j43 K_j49.1
      replace F_wn_delivered := F_wn_delivered'
      clear F_wn_delivered'
      replace F_wn_unacknowledged := F_wn_unacknowledged'
      clear F_wn_unacknowledged'
      replace F_wn_lastHandledPosition := F_wn_lastHandledPosition'
      clear F_wn_lastHandledPosition'
      replace F_wn_hasLastHandled := F_wn_hasLastHandled'
      clear F_wn_hasLastHandled'
      replace F_wn_handled := F_wn_handled'
      clear F_wn_handled'
      replace F_q_elements := F_q_elements'
      clear F_q_elements'
      replace F_q_head := F_q_head'
      clear F_q_head'
      replace F_q_tail := F_q_tail'
      clear F_q_tail'
      replace V_es := V_es'
      clear V_es'
      replace H := k_aload C H at_48 rfl rfl (pc' := 50) rfl
      replace H := k_aload C H at_50 rfl rfl (pc' := 52) rfl
      replace H := k_callVir C H (rmack0 l Z a0 hw wn d j49 n0 q es kE _ _ _ X_wn F_wn_delivered F_wn_unacknowledged F_wn_lastHandledPosition F_wn_hasLastHandled F_wn_handled n_wn X_q F_q_elements F_q_head F_q_tail n_q V_es O_es n_es X_d F_d_position F_d_acknowledged F_d_takenBack n_d ne_wn_q ne_wn_d ne_q_d) X_wn (hw _ (List.mem_of_getElem? (i := 77) rfl)) (hw _ (List.mem_of_getElem? (i := 78) rfl)) (hw _ (List.mem_of_getElem? (i := 80) rfl)) (hw _ (List.mem_of_getElem? (i := 79) rfl)) (hw _ (List.mem_of_getElem? (i := 2) rfl)) (hw _ (List.mem_of_getElem? (i := 81) rfl)) (by decide) at_52 rfl [(.ref d)] [] pd0_3 rfl rfl rfl 0 rfl (by decide) (by decide) (by decide) (by decide) (pc' := 55) rfl
      obtain ⟨_, j50, ⟨rfl, K_j50, F_wn_delivered', F_wn_unacknowledged', F_wn_lastHandledPosition', F_wn_hasLastHandled', F_wn_handled', F_q_elements', F_q_head', F_q_tail', V_es', F_d_position', F_d_acknowledged', F_d_takenBack'⟩, H⟩ := H
      replace H : K 55 #[.val (.long x0), .second, .val (.long x1), .second, .val (.int x2), .val (.int md), .val (.ref wn), .val (.ref d), .val (.long (0 : Int64)), .second, .unset, .unset, .unset, .unset, .unset, .unset, .unset, .unset] [(.int (1 : Int32))] j50 4 29 := H
      replace X_wn := X_wn.keep K_j50
      replace X_q := X_q.keep K_j50
      replace X_d := X_d.keep K_j50
      have Z_j50 : n0 ≤ j50.size := Nat.le_trans Z_j49 K_j50.1
      replace F_wn_delivered := F_wn_delivered'
      clear F_wn_delivered'
      replace F_wn_unacknowledged := F_wn_unacknowledged'
      clear F_wn_unacknowledged'
      replace F_wn_lastHandledPosition := F_wn_lastHandledPosition'
      clear F_wn_lastHandledPosition'
      replace F_wn_hasLastHandled := F_wn_hasLastHandled'
      clear F_wn_hasLastHandled'
      replace F_wn_handled := F_wn_handled'
      clear F_wn_handled'
      replace F_q_elements := F_q_elements'
      clear F_q_elements'
      replace F_q_head := F_q_head'
      clear F_q_head'
      replace F_q_tail := F_q_tail'
      clear F_q_tail'
      replace V_es := V_es'
      clear V_es'
      replace F_d_position := F_d_position'
      clear F_d_position'
      replace F_d_acknowledged := F_d_acknowledged'
      clear F_d_acknowledged'
      replace F_d_takenBack := F_d_takenBack'
      clear F_d_takenBack'
      replace H := k_pop C H at_55 rfl (pc' := 56) rfl
      replace H := k_lconst C H (v := 1) at_56 rfl (pc' := 57) rfl
      replace H := k_lstore C H at_57 (L' := #[.val (.long x0), .second, .val (.long x1), .second, .val (.int x2), .val (.int md), .val (.ref wn), .val (.ref d), .val (.long (1 : Int64)), .second, .unset, .unset, .unset, .unset, .unset, .unset, .unset, .unset]) rfl (pc' := 59) rfl
      replace H := k_goto C H at_59 (by decide) (pc' := 82) rfl
      replace H := k_aload C H at_82 rfl rfl (pc' := 84) rfl
      replace H := k_lloadN C H at_84 rfl (pc' := 85) rfl
      replace H := k_callVir C H (rmreu l Z a0 hw d x1 j50 n0 _ _ _ X_d F_d_position F_d_acknowledged F_d_takenBack n_d) X_d (hw _ (List.mem_of_getElem? (i := 39) rfl)) (hw _ (List.mem_of_getElem? (i := 40) rfl)) (hw _ (List.mem_of_getElem? (i := 42) rfl)) (hw _ (List.mem_of_getElem? (i := 41) rfl)) (hw _ (List.mem_of_getElem? (i := 32) rfl)) (hw _ (List.mem_of_getElem? (i := 43) rfl)) (by decide) at_85 rfl [(.long x1)] [] pd0_4 rfl rfl rfl 0 rfl (by decide) (by decide) (by decide) (by decide) (pc' := 88) rfl
      obtain ⟨_, j51, ⟨rfl, K_j51, F_d_position', F_d_acknowledged', F_d_takenBack'⟩, H⟩ := H
      replace H : K 88 #[.val (.long x0), .second, .val (.long x1), .second, .val (.int x2), .val (.int md), .val (.ref wn), .val (.ref d), .val (.long (1 : Int64)), .second, .unset, .unset, .unset, .unset, .unset, .unset, .unset, .unset] [(.ref d)] j51 4 29 := H
      replace X_wn := X_wn.keep K_j51
      replace X_q := X_q.keep K_j51
      replace X_d := X_d.keep K_j51
      replace F_wn_delivered := F_wn_delivered.keep K_j51 (ninS ne_wn_d nin0)
      replace F_wn_unacknowledged := F_wn_unacknowledged.keep K_j51 (ninS ne_wn_d nin0)
      replace F_wn_lastHandledPosition := F_wn_lastHandledPosition.keep K_j51 (ninS ne_wn_d nin0)
      replace F_wn_hasLastHandled := F_wn_hasLastHandled.keep K_j51 (ninS ne_wn_d nin0)
      replace F_wn_handled := F_wn_handled.keep K_j51 (ninS ne_wn_d nin0)
      replace F_q_elements := F_q_elements.keep K_j51 (ninS ne_q_d nin0)
      replace F_q_head := F_q_head.keep K_j51 (ninS ne_q_d nin0)
      replace F_q_tail := F_q_tail.keep K_j51 (ninS ne_q_d nin0)
      replace V_es := V_es.keep K_j51 (ninS ne_es_d nin0)
      have Z_j51 : n0 ≤ j51.size := Nat.le_trans Z_j50 K_j51.1
      replace F_d_position := F_d_position'
      clear F_d_position'
      replace F_d_acknowledged := F_d_acknowledged'
      clear F_d_acknowledged'
      replace F_d_takenBack := F_d_takenBack'
      clear F_d_takenBack'
      replace H := k_astore C H at_88 (L' := #[.val (.long x0), .second, .val (.long x1), .second, .val (.int x2), .val (.int md), .val (.ref wn), .val (.ref d), .val (.long (1 : Int64)), .second, .val (.ref d), .unset, .unset, .unset, .unset, .unset, .unset, .unset]) rfl rfl (pc' := 90) rfl
      replace H := k_aload C H at_90 rfl rfl (pc' := 92) rfl
      replace H := k_aload C H at_92 rfl rfl (pc' := 94) rfl
      replace H := k_acmp C H at_94 rfl rfl (same := true) (by simp) (by decide) (pc' := 97) rfl
      replace H := k_iconst C H (v := 1) at_97 rfl (pc' := 98) rfl
      replace H := k_goto C H at_98 (by decide) (pc' := 102) rfl
      replace H := k_istore C H at_102 (L' := #[.val (.long x0), .second, .val (.long x1), .second, .val (.int x2), .val (.int md), .val (.ref wn), .val (.ref d), .val (.long (1 : Int64)), .second, .val (.ref d), .val (.int (1 : Int32)), .unset, .unset, .unset, .unset, .unset, .unset]) rfl (pc' := 104) rfl
      replace H := k_aload C H at_104 rfl rfl (pc' := 106) rfl
      replace H := k_callVir C H (rmgisAcknowledged l Z a0 hw d j51 n0 _ F_d_acknowledged (by decide)) X_d (hw _ (List.mem_of_getElem? (i := 48) rfl)) (hw _ (List.mem_of_getElem? (i := 49) rfl)) (hw _ (List.mem_of_getElem? (i := 51) rfl)) (hw _ (List.mem_of_getElem? (i := 50) rfl)) (hw _ (List.mem_of_getElem? (i := 32) rfl)) (hw _ (List.mem_of_getElem? (i := 52) rfl)) (by decide) at_106 rfl [] [] pd0_5 rfl rfl rfl 0 rfl (by decide) (by decide) (by decide) (by decide) (pc' := 109) rfl
      obtain ⟨_, _, ⟨rfl, rfl⟩, H⟩ := H
      replace H : K 109 #[.val (.long x0), .second, .val (.long x1), .second, .val (.int x2), .val (.int md), .val (.ref wn), .val (.ref d), .val (.long (1 : Int64)), .second, .val (.ref d), .val (.int (1 : Int32)), .unset, .unset, .unset, .unset, .unset, .unset] [(.int (0 : Int32))] j51 4 29 := H
      replace H := k_ifcN C H at_109 (teq (by decide : (0 : Int32) = (0 : Int32))).2 (pc' := 112) rfl
      replace H := k_iconst C H (v := 1) at_112 rfl (pc' := 113) rfl
      replace H := k_goto C H at_113 (by decide) (pc' := 117) rfl
      replace H := k_istore C H at_117 (L' := #[.val (.long x0), .second, .val (.long x1), .second, .val (.int x2), .val (.int md), .val (.ref wn), .val (.ref d), .val (.long (1 : Int64)), .second, .val (.ref d), .val (.int (1 : Int32)), .val (.int (1 : Int32)), .unset, .unset, .unset, .unset, .unset]) rfl (pc' := 119) rfl
      replace H := k_aload C H at_119 rfl rfl (pc' := 121) rfl
      replace H := k_aload C H at_121 rfl rfl (pc' := 123) rfl
      replace H := k_callVir C H (rmdlv1 l Z a0 hw wn d j51 n0 q es kE _ _ _ _ _ _ X_wn F_wn_delivered F_wn_unacknowledged F_wn_lastHandledPosition F_wn_hasLastHandled F_wn_handled n_wn X_q F_q_elements F_q_head F_q_tail n_q V_es O_es n_es X_d F_d_position F_d_acknowledged F_d_takenBack n_d ne_wn_q ne_wn_d ne_q_d) X_wn (hw _ (List.mem_of_getElem? (i := 53) rfl)) (hw _ (List.mem_of_getElem? (i := 54) rfl)) (hw _ (List.mem_of_getElem? (i := 56) rfl)) (hw _ (List.mem_of_getElem? (i := 55) rfl)) (hw _ (List.mem_of_getElem? (i := 2) rfl)) (hw _ (List.mem_of_getElem? (i := 57) rfl)) (by decide) at_123 rfl [(.ref d)] [] pd0_2 rfl rfl rfl 0 rfl (by decide) (by decide) (by decide) (by decide) (pc' := 126) rfl
      obtain ⟨_, j52, ⟨rfl, K_j52, F_wn_delivered', F_wn_unacknowledged', F_wn_lastHandledPosition', F_wn_hasLastHandled', F_wn_handled', F_q_elements', F_q_head', F_q_tail', V_es'⟩, H⟩ := H
      replace H : K 126 #[.val (.long x0), .second, .val (.long x1), .second, .val (.int x2), .val (.int md), .val (.ref wn), .val (.ref d), .val (.long (1 : Int64)), .second, .val (.ref d), .val (.int (1 : Int32)), .val (.int (1 : Int32)), .unset, .unset, .unset, .unset, .unset] [] j52 4 29 := H
      replace X_wn := X_wn.keep K_j52
      replace X_q := X_q.keep K_j52
      replace X_d := X_d.keep K_j52
      replace F_d_position := F_d_position.keep K_j52 (ninS (Ne.symm ne_wn_d) (ninS (Ne.symm ne_q_d) (ninS (Ne.symm ne_es_d) nin0)))
      replace F_d_acknowledged := F_d_acknowledged.keep K_j52 (ninS (Ne.symm ne_wn_d) (ninS (Ne.symm ne_q_d) (ninS (Ne.symm ne_es_d) nin0)))
      replace F_d_takenBack := F_d_takenBack.keep K_j52 (ninS (Ne.symm ne_wn_d) (ninS (Ne.symm ne_q_d) (ninS (Ne.symm ne_es_d) nin0)))
      have Z_j52 : n0 ≤ j52.size := Nat.le_trans Z_j51 K_j52.1
      replace F_wn_delivered := F_wn_delivered'
      clear F_wn_delivered'
      replace F_wn_unacknowledged := F_wn_unacknowledged'
      clear F_wn_unacknowledged'
      replace F_wn_lastHandledPosition := F_wn_lastHandledPosition'
      clear F_wn_lastHandledPosition'
      replace F_wn_hasLastHandled := F_wn_hasLastHandled'
      clear F_wn_hasLastHandled'
      replace F_wn_handled := F_wn_handled'
      clear F_wn_handled'
      replace F_q_elements := F_q_elements'
      clear F_q_elements'
      replace F_q_head := F_q_head'
      clear F_q_head'
      replace F_q_tail := F_q_tail'
      clear F_q_tail'
      replace V_es := V_es'
      clear V_es'
      replace H := k_aload C H at_126 rfl rfl (pc' := 128) rfl
      replace H := k_aload C H at_128 rfl rfl (pc' := 130) rfl
      replace H := k_callVir C H (rmack1 l Z a0 hw wn d j52 n0 q es kE _ _ _ X_wn F_wn_delivered F_wn_unacknowledged F_wn_lastHandledPosition F_wn_hasLastHandled F_wn_handled n_wn X_q F_q_elements F_q_head F_q_tail n_q V_es O_es n_es X_d F_d_position F_d_acknowledged F_d_takenBack n_d ne_wn_q ne_wn_d ne_q_d) X_wn (hw _ (List.mem_of_getElem? (i := 77) rfl)) (hw _ (List.mem_of_getElem? (i := 78) rfl)) (hw _ (List.mem_of_getElem? (i := 80) rfl)) (hw _ (List.mem_of_getElem? (i := 79) rfl)) (hw _ (List.mem_of_getElem? (i := 2) rfl)) (hw _ (List.mem_of_getElem? (i := 81) rfl)) (by decide) at_130 rfl [(.ref d)] [] pd0_3 rfl rfl rfl 0 rfl (by decide) (by decide) (by decide) (by decide) (pc' := 133) rfl
      obtain ⟨_, j53, ⟨rfl, K_j53, F_wn_delivered', F_wn_unacknowledged', F_wn_lastHandledPosition', F_wn_hasLastHandled', F_wn_handled', F_q_elements', F_q_head', F_q_tail', V_es', F_d_position', F_d_acknowledged', F_d_takenBack'⟩, H⟩ := H
      replace H : K 133 #[.val (.long x0), .second, .val (.long x1), .second, .val (.int x2), .val (.int md), .val (.ref wn), .val (.ref d), .val (.long (1 : Int64)), .second, .val (.ref d), .val (.int (1 : Int32)), .val (.int (1 : Int32)), .unset, .unset, .unset, .unset, .unset] [(.int (1 : Int32))] j53 4 29 := H
      replace X_wn := X_wn.keep K_j53
      replace X_q := X_q.keep K_j53
      replace X_d := X_d.keep K_j53
      have Z_j53 : n0 ≤ j53.size := Nat.le_trans Z_j52 K_j53.1
      replace F_wn_delivered := F_wn_delivered'
      clear F_wn_delivered'
      replace F_wn_unacknowledged := F_wn_unacknowledged'
      clear F_wn_unacknowledged'
      replace F_wn_lastHandledPosition := F_wn_lastHandledPosition'
      clear F_wn_lastHandledPosition'
      replace F_wn_hasLastHandled := F_wn_hasLastHandled'
      clear F_wn_hasLastHandled'
      replace F_wn_handled := F_wn_handled'
      clear F_wn_handled'
      replace F_q_elements := F_q_elements'
      clear F_q_elements'
      replace F_q_head := F_q_head'
      clear F_q_head'
      replace F_q_tail := F_q_tail'
      clear F_q_tail'
      replace V_es := V_es'
      clear V_es'
      replace F_d_position := F_d_position'
      clear F_d_position'
      replace F_d_acknowledged := F_d_acknowledged'
      clear F_d_acknowledged'
      replace F_d_takenBack := F_d_takenBack'
      clear F_d_takenBack'
      replace H := k_istore C H at_133 (L' := #[.val (.long x0), .second, .val (.long x1), .second, .val (.int x2), .val (.int md), .val (.ref wn), .val (.ref d), .val (.long (1 : Int64)), .second, .val (.ref d), .val (.int (1 : Int32)), .val (.int (1 : Int32)), .val (.int (1 : Int32)), .unset, .unset, .unset, .unset]) rfl (pc' := 135) rfl
      replace H := k_aload C H at_135 rfl rfl (pc' := 137) rfl
      replace H := k_callVir C H (rmgisAcknowledged l Z a0 hw d j53 n0 _ F_d_acknowledged (by decide)) X_d (hw _ (List.mem_of_getElem? (i := 48) rfl)) (hw _ (List.mem_of_getElem? (i := 49) rfl)) (hw _ (List.mem_of_getElem? (i := 51) rfl)) (hw _ (List.mem_of_getElem? (i := 50) rfl)) (hw _ (List.mem_of_getElem? (i := 32) rfl)) (hw _ (List.mem_of_getElem? (i := 52) rfl)) (by decide) at_137 rfl [] [] pd0_5 rfl rfl rfl 0 rfl (by decide) (by decide) (by decide) (by decide) (pc' := 140) rfl
      obtain ⟨_, _, ⟨rfl, rfl⟩, H⟩ := H
      replace H : K 140 #[.val (.long x0), .second, .val (.long x1), .second, .val (.int x2), .val (.int md), .val (.ref wn), .val (.ref d), .val (.long (1 : Int64)), .second, .val (.ref d), .val (.int (1 : Int32)), .val (.int (1 : Int32)), .val (.int (1 : Int32)), .unset, .unset, .unset, .unset] [(.int (1 : Int32))] j53 4 29 := H
      replace H := k_istore C H at_140 (L' := #[.val (.long x0), .second, .val (.long x1), .second, .val (.int x2), .val (.int md), .val (.ref wn), .val (.ref d), .val (.long (1 : Int64)), .second, .val (.ref d), .val (.int (1 : Int32)), .val (.int (1 : Int32)), .val (.int (1 : Int32)), .val (.int (1 : Int32)), .unset, .unset, .unset]) rfl (pc' := 142) rfl
      replace H := k_aload C H at_142 rfl rfl (pc' := 144) rfl
      replace H := k_callVir C H (rmglastHandled l Z a0 hw wn j53 n0 _ F_wn_lastHandledPosition) X_wn (hw _ (List.mem_of_getElem? (i := 128) rfl)) (hw _ (List.mem_of_getElem? (i := 129) rfl)) (hw _ (List.mem_of_getElem? (i := 131) rfl)) (hw _ (List.mem_of_getElem? (i := 130) rfl)) (hw _ (List.mem_of_getElem? (i := 2) rfl)) (hw _ (List.mem_of_getElem? (i := 132) rfl)) (by decide) at_144 rfl [] [] pd0_6 rfl rfl rfl 0 rfl (by decide) (by decide) (by decide) (by decide) (pc' := 147) rfl
      obtain ⟨_, _, ⟨rfl, rfl⟩, H⟩ := H
      replace H : K 147 #[.val (.long x0), .second, .val (.long x1), .second, .val (.int x2), .val (.int md), .val (.ref wn), .val (.ref d), .val (.long (1 : Int64)), .second, .val (.ref d), .val (.int (1 : Int32)), .val (.int (1 : Int32)), .val (.int (1 : Int32)), .val (.int (1 : Int32)), .unset, .unset, .unset] [(.long x1)] j53 4 29 := H
      replace H := k_lloadN C H at_147 rfl (pc' := 148) rfl
      replace H := k_lcmp C H at_148 (pc' := 149) rfl
      replace H := k_ifcN C H at_149 (teq (own_lc x1)).2 (pc' := 152) rfl
      replace H := k_iconst C H (v := 1) at_152 rfl (pc' := 153) rfl
      replace H := k_goto C H at_153 (by decide) (pc' := 157) rfl
      replace H := k_istore C H at_157 (L' := #[.val (.long x0), .second, .val (.long x1), .second, .val (.int x2), .val (.int md), .val (.ref wn), .val (.ref d), .val (.long (1 : Int64)), .second, .val (.ref d), .val (.int (1 : Int32)), .val (.int (1 : Int32)), .val (.int (1 : Int32)), .val (.int (1 : Int32)), .val (.int (1 : Int32)), .unset, .unset]) rfl (pc' := 159) rfl
      replace H := k_aload C H at_159 rfl rfl (pc' := 161) rfl
      replace H := k_callVir C H (rmghandled l Z a0 hw wn j53 n0 _ F_wn_handled) X_wn (hw _ (List.mem_of_getElem? (i := 133) rfl)) (hw _ (List.mem_of_getElem? (i := 134) rfl)) (hw _ (List.mem_of_getElem? (i := 136) rfl)) (hw _ (List.mem_of_getElem? (i := 135) rfl)) (hw _ (List.mem_of_getElem? (i := 2) rfl)) (hw _ (List.mem_of_getElem? (i := 137) rfl)) (by decide) at_161 rfl [] [] pd0_6 rfl rfl rfl 0 rfl (by decide) (by decide) (by decide) (by decide) (pc' := 164) rfl
      obtain ⟨_, _, ⟨rfl, rfl⟩, H⟩ := H
      replace H : K 164 #[.val (.long x0), .second, .val (.long x1), .second, .val (.int x2), .val (.int md), .val (.ref wn), .val (.ref d), .val (.long (1 : Int64)), .second, .val (.ref d), .val (.int (1 : Int32)), .val (.int (1 : Int32)), .val (.int (1 : Int32)), .val (.int (1 : Int32)), .val (.int (1 : Int32)), .unset, .unset] [(.long (2 : Int64))] j53 4 29 := H
      replace H := k_lload C H at_164 rfl (pc' := 166) rfl
      replace H := k_lconst C H (v := 1) at_166 rfl (pc' := 167) rfl
      replace H := k_ladd C H at_167 (pc' := 168) rfl
      replace H : K 168 #[.val (.long x0), .second, .val (.long x1), .second, .val (.int x2), .val (.int md), .val (.ref wn), .val (.ref d), .val (.long (1 : Int64)), .second, .val (.ref d), .val (.int (1 : Int32)), .val (.int (1 : Int32)), .val (.int (1 : Int32)), .val (.int (1 : Int32)), .val (.int (1 : Int32)), .unset, .unset] [(.long (2 : Int64)), (.long (2 : Int64))] j53 4 29 := H
      replace H := k_lcmp C H at_168 (pc' := 169) rfl
      have lc : lcmpW (2 : Int64) (2 : Int64) = (0 : Int32) := by decide
      rw [lc] at H
      clear lc
      replace H := k_ifcN C H at_169 (teq (by decide : (0 : Int32) = (0 : Int32))).2 (pc' := 172) rfl
      replace H := k_iconst C H (v := 1) at_172 rfl (pc' := 173) rfl
      replace H := k_goto C H at_173 (by decide) (pc' := 177) rfl
      replace H := k_istore C H at_177 (L' := #[.val (.long x0), .second, .val (.long x1), .second, .val (.int x2), .val (.int md), .val (.ref wn), .val (.ref d), .val (.long (1 : Int64)), .second, .val (.ref d), .val (.int (1 : Int32)), .val (.int (1 : Int32)), .val (.int (1 : Int32)), .val (.int (1 : Int32)), .val (.int (1 : Int32)), .val (.int (1 : Int32)), .unset]) rfl (pc' := 179) rfl
      replace H := k_aload C H at_179 rfl rfl (pc' := 181) rfl
      replace H := k_callVir C H (rmgunacknowledged l Z a0 hw wn j53 n0 _ F_wn_unacknowledged) X_wn (hw _ (List.mem_of_getElem? (i := 138) rfl)) (hw _ (List.mem_of_getElem? (i := 139) rfl)) (hw _ (List.mem_of_getElem? (i := 141) rfl)) (hw _ (List.mem_of_getElem? (i := 140) rfl)) (hw _ (List.mem_of_getElem? (i := 2) rfl)) (hw _ (List.mem_of_getElem? (i := 142) rfl)) (by decide) at_181 rfl [] [] pd0_7 rfl rfl rfl 0 rfl (by decide) (by decide) (by decide) (by decide) (pc' := 184) rfl
      obtain ⟨_, _, ⟨rfl, rfl⟩, H⟩ := H
      replace H : K 184 #[.val (.long x0), .second, .val (.long x1), .second, .val (.int x2), .val (.int md), .val (.ref wn), .val (.ref d), .val (.long (1 : Int64)), .second, .val (.ref d), .val (.int (1 : Int32)), .val (.int (1 : Int32)), .val (.int (1 : Int32)), .val (.int (1 : Int32)), .val (.int (1 : Int32)), .val (.int (1 : Int32)), .unset] [(.int (0 : Int32))] j53 4 29 := H
      replace H := k_ifcN C H at_184 (teq (by decide : (0 : Int32) = (0 : Int32))).2 (pc' := 187) rfl
      replace H := k_iconst C H (v := 1) at_187 rfl (pc' := 188) rfl
      replace H := k_goto C H at_188 (by decide) (pc' := 192) rfl
      replace H := k_istore C H at_192 (L' := #[.val (.long x0), .second, .val (.long x1), .second, .val (.int x2), .val (.int md), .val (.ref wn), .val (.ref d), .val (.long (1 : Int64)), .second, .val (.ref d), .val (.int (1 : Int32)), .val (.int (1 : Int32)), .val (.int (1 : Int32)), .val (.int (1 : Int32)), .val (.int (1 : Int32)), .val (.int (1 : Int32)), .val (.int (1 : Int32))]) rfl (pc' := 194) rfl
      replace H := k_iload C H at_194 rfl (pc' := 196) rfl
      replace H := k_ifcN C H at_196 (feq (by decide : ¬ ((1 : Int32) = (0 : Int32)))).1 (pc' := 199) rfl
      replace H := k_iload C H at_199 rfl (pc' := 201) rfl
      replace H := k_ifcN C H at_201 (feq (by decide : ¬ ((1 : Int32) = (0 : Int32)))).1 (pc' := 204) rfl
      replace H := k_iload C H at_204 rfl (pc' := 206) rfl
      replace H := k_ifcN C H at_206 (feq (by decide : ¬ ((1 : Int32) = (0 : Int32)))).1 (pc' := 209) rfl
      replace H := k_iload C H at_209 rfl (pc' := 211) rfl
      replace H := k_ifcN C H at_211 (feq (by decide : ¬ ((1 : Int32) = (0 : Int32)))).1 (pc' := 214) rfl
      replace H := k_iload C H at_214 rfl (pc' := 216) rfl
      replace H := k_ifcN C H at_216 (feq (by decide : ¬ ((1 : Int32) = (0 : Int32)))).1 (pc' := 219) rfl
      replace H := k_iload C H at_219 rfl (pc' := 221) rfl
      replace H := k_ifcN C H at_221 (feq (by decide : ¬ ((1 : Int32) = (0 : Int32)))).1 (pc' := 224) rfl
      replace H := k_iload C H at_224 rfl (pc' := 226) rfl
      replace H := k_ifcN C H at_226 (feq (by decide : ¬ ((1 : Int32) = (0 : Int32)))).1 (pc' := 229) rfl
      replace H := k_iconst C H (v := 1) at_229 rfl (pc' := 230) rfl
      replace H := k_goto C H at_230 (by decide) (pc' := 234) rfl
      exact k_retZ C H at_234 (by decide) (by decide) (by decide) rfl
    · replace H := k_icmpY C H at_38 (feq hc38).2 (by decide) (pc' := 62) rfl
      replace H := k_iload C H at_62 rfl (pc' := 64) rfl
      replace H := k_iconst C H (v := 2) at_64 rfl (pc' := 65) rfl
      by_cases hc65 : md = (2 : Int32)
      · replace H := k_icmpN C H at_65 (teq hc65).2 (pc' := 68) rfl
        replace H := k_aload C H at_68 rfl rfl (pc' := 70) rfl
        replace H := k_aload C H at_70 rfl rfl (pc' := 72) rfl
        replace H := k_callVir C H (rmdlv0 l Z a0 hw wn d j43 n0 q es kE _ _ _ _ _ _ X_wn F_wn_delivered F_wn_unacknowledged F_wn_lastHandledPosition F_wn_hasLastHandled F_wn_handled n_wn X_q F_q_elements F_q_head F_q_tail n_q V_es O_es n_es X_d F_d_position F_d_acknowledged F_d_takenBack n_d ne_wn_q ne_wn_d ne_q_d) X_wn (hw _ (List.mem_of_getElem? (i := 53) rfl)) (hw _ (List.mem_of_getElem? (i := 54) rfl)) (hw _ (List.mem_of_getElem? (i := 56) rfl)) (hw _ (List.mem_of_getElem? (i := 55) rfl)) (hw _ (List.mem_of_getElem? (i := 2) rfl)) (hw _ (List.mem_of_getElem? (i := 57) rfl)) (by decide) at_72 rfl [(.ref d)] [] pd0_2 rfl rfl rfl 0 rfl (by decide) (by decide) (by decide) (by decide) (pc' := 75) rfl
        obtain ⟨_, j54, ⟨rfl, K_j54, F_wn_delivered', F_wn_unacknowledged', F_wn_lastHandledPosition', F_wn_hasLastHandled', F_wn_handled', F_q_elements', F_q_head', F_q_tail', V_es'⟩, H⟩ := H
        replace H : K 75 #[.val (.long x0), .second, .val (.long x1), .second, .val (.int x2), .val (.int md), .val (.ref wn), .val (.ref d), .val (.long (0 : Int64)), .second, .unset, .unset, .unset, .unset, .unset, .unset, .unset, .unset] [] j54 4 29 := H
        replace X_wn := X_wn.keep K_j54
        replace X_q := X_q.keep K_j54
        replace X_d := X_d.keep K_j54
        replace F_d_position := F_d_position.keep K_j54 (ninS (Ne.symm ne_wn_d) (ninS (Ne.symm ne_q_d) (ninS (Ne.symm ne_es_d) nin0)))
        replace F_d_acknowledged := F_d_acknowledged.keep K_j54 (ninS (Ne.symm ne_wn_d) (ninS (Ne.symm ne_q_d) (ninS (Ne.symm ne_es_d) nin0)))
        replace F_d_takenBack := F_d_takenBack.keep K_j54 (ninS (Ne.symm ne_wn_d) (ninS (Ne.symm ne_q_d) (ninS (Ne.symm ne_es_d) nin0)))
        have Z_j54 : n0 ≤ j54.size := Nat.le_trans Z_j43 K_j54.1
        replace F_wn_delivered := F_wn_delivered'
        clear F_wn_delivered'
        replace F_wn_unacknowledged := F_wn_unacknowledged'
        clear F_wn_unacknowledged'
        replace F_wn_lastHandledPosition := F_wn_lastHandledPosition'
        clear F_wn_lastHandledPosition'
        replace F_wn_hasLastHandled := F_wn_hasLastHandled'
        clear F_wn_hasLastHandled'
        replace F_wn_handled := F_wn_handled'
        clear F_wn_handled'
        replace F_q_elements := F_q_elements'
        clear F_q_elements'
        replace F_q_head := F_q_head'
        clear F_q_head'
        replace F_q_tail := F_q_tail'
        clear F_q_tail'
        replace V_es := V_es'
        clear V_es'
        replace H := k_aload C H at_75 rfl rfl (pc' := 77) rfl
        replace H := k_aload C H at_77 rfl rfl (pc' := 79) rfl
        replace H := k_callVir C H (rmtkb l Z a0 hw wn d j54 n0 q es kE _ _ _ _ X_wn F_wn_delivered F_wn_unacknowledged F_wn_lastHandledPosition F_wn_hasLastHandled F_wn_handled n_wn X_q F_q_elements F_q_head F_q_tail n_q V_es O_es n_es X_d F_d_position F_d_acknowledged F_d_takenBack n_d ne_wn_q ne_wn_d ne_q_d) X_wn (hw _ (List.mem_of_getElem? (i := 143) rfl)) (hw _ (List.mem_of_getElem? (i := 144) rfl)) (hw _ (List.mem_of_getElem? (i := 146) rfl)) (hw _ (List.mem_of_getElem? (i := 145) rfl)) (hw _ (List.mem_of_getElem? (i := 2) rfl)) (hw _ (List.mem_of_getElem? (i := 147) rfl)) (by decide) at_79 rfl [(.ref d)] [] pd0_2 rfl rfl rfl 0 rfl (by decide) (by decide) (by decide) (by decide) (pc' := 82) rfl
        obtain ⟨_, j55, ⟨rfl, K_j55, F_wn_delivered', F_wn_unacknowledged', F_wn_lastHandledPosition', F_wn_hasLastHandled', F_wn_handled', F_q_elements', F_q_head', F_q_tail', V_es', F_d_position', F_d_acknowledged', F_d_takenBack'⟩, H⟩ := H
        replace H : K 82 #[.val (.long x0), .second, .val (.long x1), .second, .val (.int x2), .val (.int md), .val (.ref wn), .val (.ref d), .val (.long (0 : Int64)), .second, .unset, .unset, .unset, .unset, .unset, .unset, .unset, .unset] [] j55 4 29 := H
        replace X_wn := X_wn.keep K_j55
        replace X_q := X_q.keep K_j55
        replace X_d := X_d.keep K_j55
        have Z_j55 : n0 ≤ j55.size := Nat.le_trans Z_j54 K_j55.1
        replace F_wn_delivered := F_wn_delivered'
        clear F_wn_delivered'
        replace F_wn_unacknowledged := F_wn_unacknowledged'
        clear F_wn_unacknowledged'
        replace F_wn_lastHandledPosition := F_wn_lastHandledPosition'
        clear F_wn_lastHandledPosition'
        replace F_wn_hasLastHandled := F_wn_hasLastHandled'
        clear F_wn_hasLastHandled'
        replace F_wn_handled := F_wn_handled'
        clear F_wn_handled'
        replace F_q_elements := F_q_elements'
        clear F_q_elements'
        replace F_q_head := F_q_head'
        clear F_q_head'
        replace F_q_tail := F_q_tail'
        clear F_q_tail'
        replace V_es := V_es'
        clear V_es'
        replace F_d_position := F_d_position'
        clear F_d_position'
        replace F_d_acknowledged := F_d_acknowledged'
        clear F_d_acknowledged'
        replace F_d_takenBack := F_d_takenBack'
        clear F_d_takenBack'
        replace H := k_aload C H at_82 rfl rfl (pc' := 84) rfl
        replace H := k_lloadN C H at_84 rfl (pc' := 85) rfl
        replace H := k_callVir C H (rmreu l Z a0 hw d x1 j55 n0 _ _ _ X_d F_d_position F_d_acknowledged F_d_takenBack n_d) X_d (hw _ (List.mem_of_getElem? (i := 39) rfl)) (hw _ (List.mem_of_getElem? (i := 40) rfl)) (hw _ (List.mem_of_getElem? (i := 42) rfl)) (hw _ (List.mem_of_getElem? (i := 41) rfl)) (hw _ (List.mem_of_getElem? (i := 32) rfl)) (hw _ (List.mem_of_getElem? (i := 43) rfl)) (by decide) at_85 rfl [(.long x1)] [] pd0_4 rfl rfl rfl 0 rfl (by decide) (by decide) (by decide) (by decide) (pc' := 88) rfl
        obtain ⟨_, j56, ⟨rfl, K_j56, F_d_position', F_d_acknowledged', F_d_takenBack'⟩, H⟩ := H
        replace H : K 88 #[.val (.long x0), .second, .val (.long x1), .second, .val (.int x2), .val (.int md), .val (.ref wn), .val (.ref d), .val (.long (0 : Int64)), .second, .unset, .unset, .unset, .unset, .unset, .unset, .unset, .unset] [(.ref d)] j56 4 29 := H
        replace X_wn := X_wn.keep K_j56
        replace X_q := X_q.keep K_j56
        replace X_d := X_d.keep K_j56
        replace F_wn_delivered := F_wn_delivered.keep K_j56 (ninS ne_wn_d nin0)
        replace F_wn_unacknowledged := F_wn_unacknowledged.keep K_j56 (ninS ne_wn_d nin0)
        replace F_wn_lastHandledPosition := F_wn_lastHandledPosition.keep K_j56 (ninS ne_wn_d nin0)
        replace F_wn_hasLastHandled := F_wn_hasLastHandled.keep K_j56 (ninS ne_wn_d nin0)
        replace F_wn_handled := F_wn_handled.keep K_j56 (ninS ne_wn_d nin0)
        replace F_q_elements := F_q_elements.keep K_j56 (ninS ne_q_d nin0)
        replace F_q_head := F_q_head.keep K_j56 (ninS ne_q_d nin0)
        replace F_q_tail := F_q_tail.keep K_j56 (ninS ne_q_d nin0)
        replace V_es := V_es.keep K_j56 (ninS ne_es_d nin0)
        have Z_j56 : n0 ≤ j56.size := Nat.le_trans Z_j55 K_j56.1
        replace F_d_position := F_d_position'
        clear F_d_position'
        replace F_d_acknowledged := F_d_acknowledged'
        clear F_d_acknowledged'
        replace F_d_takenBack := F_d_takenBack'
        clear F_d_takenBack'
        replace H := k_astore C H at_88 (L' := #[.val (.long x0), .second, .val (.long x1), .second, .val (.int x2), .val (.int md), .val (.ref wn), .val (.ref d), .val (.long (0 : Int64)), .second, .val (.ref d), .unset, .unset, .unset, .unset, .unset, .unset, .unset]) rfl rfl (pc' := 90) rfl
        replace H := k_aload C H at_90 rfl rfl (pc' := 92) rfl
        replace H := k_aload C H at_92 rfl rfl (pc' := 94) rfl
        replace H := k_acmp C H at_94 rfl rfl (same := true) (by simp) (by decide) (pc' := 97) rfl
        replace H := k_iconst C H (v := 1) at_97 rfl (pc' := 98) rfl
        replace H := k_goto C H at_98 (by decide) (pc' := 102) rfl
        replace H := k_istore C H at_102 (L' := #[.val (.long x0), .second, .val (.long x1), .second, .val (.int x2), .val (.int md), .val (.ref wn), .val (.ref d), .val (.long (0 : Int64)), .second, .val (.ref d), .val (.int (1 : Int32)), .unset, .unset, .unset, .unset, .unset, .unset]) rfl (pc' := 104) rfl
        replace H := k_aload C H at_104 rfl rfl (pc' := 106) rfl
        replace H := k_callVir C H (rmgisAcknowledged l Z a0 hw d j56 n0 _ F_d_acknowledged (by decide)) X_d (hw _ (List.mem_of_getElem? (i := 48) rfl)) (hw _ (List.mem_of_getElem? (i := 49) rfl)) (hw _ (List.mem_of_getElem? (i := 51) rfl)) (hw _ (List.mem_of_getElem? (i := 50) rfl)) (hw _ (List.mem_of_getElem? (i := 32) rfl)) (hw _ (List.mem_of_getElem? (i := 52) rfl)) (by decide) at_106 rfl [] [] pd0_5 rfl rfl rfl 0 rfl (by decide) (by decide) (by decide) (by decide) (pc' := 109) rfl
        obtain ⟨_, _, ⟨rfl, rfl⟩, H⟩ := H
        replace H : K 109 #[.val (.long x0), .second, .val (.long x1), .second, .val (.int x2), .val (.int md), .val (.ref wn), .val (.ref d), .val (.long (0 : Int64)), .second, .val (.ref d), .val (.int (1 : Int32)), .unset, .unset, .unset, .unset, .unset, .unset] [(.int (0 : Int32))] j56 4 29 := H
        replace H := k_ifcN C H at_109 (teq (by decide : (0 : Int32) = (0 : Int32))).2 (pc' := 112) rfl
        replace H := k_iconst C H (v := 1) at_112 rfl (pc' := 113) rfl
        replace H := k_goto C H at_113 (by decide) (pc' := 117) rfl
        replace H := k_istore C H at_117 (L' := #[.val (.long x0), .second, .val (.long x1), .second, .val (.int x2), .val (.int md), .val (.ref wn), .val (.ref d), .val (.long (0 : Int64)), .second, .val (.ref d), .val (.int (1 : Int32)), .val (.int (1 : Int32)), .unset, .unset, .unset, .unset, .unset]) rfl (pc' := 119) rfl
        replace H := k_aload C H at_119 rfl rfl (pc' := 121) rfl
        replace H := k_aload C H at_121 rfl rfl (pc' := 123) rfl
        replace H := k_callVir C H (rmdlv0 l Z a0 hw wn d j56 n0 q es kE _ _ _ _ _ _ X_wn F_wn_delivered F_wn_unacknowledged F_wn_lastHandledPosition F_wn_hasLastHandled F_wn_handled n_wn X_q F_q_elements F_q_head F_q_tail n_q V_es O_es n_es X_d F_d_position F_d_acknowledged F_d_takenBack n_d ne_wn_q ne_wn_d ne_q_d) X_wn (hw _ (List.mem_of_getElem? (i := 53) rfl)) (hw _ (List.mem_of_getElem? (i := 54) rfl)) (hw _ (List.mem_of_getElem? (i := 56) rfl)) (hw _ (List.mem_of_getElem? (i := 55) rfl)) (hw _ (List.mem_of_getElem? (i := 2) rfl)) (hw _ (List.mem_of_getElem? (i := 57) rfl)) (by decide) at_123 rfl [(.ref d)] [] pd0_2 rfl rfl rfl 0 rfl (by decide) (by decide) (by decide) (by decide) (pc' := 126) rfl
        obtain ⟨_, j57, ⟨rfl, K_j57, F_wn_delivered', F_wn_unacknowledged', F_wn_lastHandledPosition', F_wn_hasLastHandled', F_wn_handled', F_q_elements', F_q_head', F_q_tail', V_es'⟩, H⟩ := H
        replace H : K 126 #[.val (.long x0), .second, .val (.long x1), .second, .val (.int x2), .val (.int md), .val (.ref wn), .val (.ref d), .val (.long (0 : Int64)), .second, .val (.ref d), .val (.int (1 : Int32)), .val (.int (1 : Int32)), .unset, .unset, .unset, .unset, .unset] [] j57 4 29 := H
        replace X_wn := X_wn.keep K_j57
        replace X_q := X_q.keep K_j57
        replace X_d := X_d.keep K_j57
        replace F_d_position := F_d_position.keep K_j57 (ninS (Ne.symm ne_wn_d) (ninS (Ne.symm ne_q_d) (ninS (Ne.symm ne_es_d) nin0)))
        replace F_d_acknowledged := F_d_acknowledged.keep K_j57 (ninS (Ne.symm ne_wn_d) (ninS (Ne.symm ne_q_d) (ninS (Ne.symm ne_es_d) nin0)))
        replace F_d_takenBack := F_d_takenBack.keep K_j57 (ninS (Ne.symm ne_wn_d) (ninS (Ne.symm ne_q_d) (ninS (Ne.symm ne_es_d) nin0)))
        have Z_j57 : n0 ≤ j57.size := Nat.le_trans Z_j56 K_j57.1
        replace F_wn_delivered := F_wn_delivered'
        clear F_wn_delivered'
        replace F_wn_unacknowledged := F_wn_unacknowledged'
        clear F_wn_unacknowledged'
        replace F_wn_lastHandledPosition := F_wn_lastHandledPosition'
        clear F_wn_lastHandledPosition'
        replace F_wn_hasLastHandled := F_wn_hasLastHandled'
        clear F_wn_hasLastHandled'
        replace F_wn_handled := F_wn_handled'
        clear F_wn_handled'
        replace F_q_elements := F_q_elements'
        clear F_q_elements'
        replace F_q_head := F_q_head'
        clear F_q_head'
        replace F_q_tail := F_q_tail'
        clear F_q_tail'
        replace V_es := V_es'
        clear V_es'
        replace H := k_aload C H at_126 rfl rfl (pc' := 128) rfl
        replace H := k_aload C H at_128 rfl rfl (pc' := 130) rfl
        replace H := k_callVir C H (rmack0 l Z a0 hw wn d j57 n0 q es kE _ _ _ X_wn F_wn_delivered F_wn_unacknowledged F_wn_lastHandledPosition F_wn_hasLastHandled F_wn_handled n_wn X_q F_q_elements F_q_head F_q_tail n_q V_es O_es n_es X_d F_d_position F_d_acknowledged F_d_takenBack n_d ne_wn_q ne_wn_d ne_q_d) X_wn (hw _ (List.mem_of_getElem? (i := 77) rfl)) (hw _ (List.mem_of_getElem? (i := 78) rfl)) (hw _ (List.mem_of_getElem? (i := 80) rfl)) (hw _ (List.mem_of_getElem? (i := 79) rfl)) (hw _ (List.mem_of_getElem? (i := 2) rfl)) (hw _ (List.mem_of_getElem? (i := 81) rfl)) (by decide) at_130 rfl [(.ref d)] [] pd0_3 rfl rfl rfl 0 rfl (by decide) (by decide) (by decide) (by decide) (pc' := 133) rfl
        obtain ⟨_, j58, ⟨rfl, K_j58, F_wn_delivered', F_wn_unacknowledged', F_wn_lastHandledPosition', F_wn_hasLastHandled', F_wn_handled', F_q_elements', F_q_head', F_q_tail', V_es', F_d_position', F_d_acknowledged', F_d_takenBack'⟩, H⟩ := H
        replace H : K 133 #[.val (.long x0), .second, .val (.long x1), .second, .val (.int x2), .val (.int md), .val (.ref wn), .val (.ref d), .val (.long (0 : Int64)), .second, .val (.ref d), .val (.int (1 : Int32)), .val (.int (1 : Int32)), .unset, .unset, .unset, .unset, .unset] [(.int (1 : Int32))] j58 4 29 := H
        replace X_wn := X_wn.keep K_j58
        replace X_q := X_q.keep K_j58
        replace X_d := X_d.keep K_j58
        have Z_j58 : n0 ≤ j58.size := Nat.le_trans Z_j57 K_j58.1
        replace F_wn_delivered := F_wn_delivered'
        clear F_wn_delivered'
        replace F_wn_unacknowledged := F_wn_unacknowledged'
        clear F_wn_unacknowledged'
        replace F_wn_lastHandledPosition := F_wn_lastHandledPosition'
        clear F_wn_lastHandledPosition'
        replace F_wn_hasLastHandled := F_wn_hasLastHandled'
        clear F_wn_hasLastHandled'
        replace F_wn_handled := F_wn_handled'
        clear F_wn_handled'
        replace F_q_elements := F_q_elements'
        clear F_q_elements'
        replace F_q_head := F_q_head'
        clear F_q_head'
        replace F_q_tail := F_q_tail'
        clear F_q_tail'
        replace V_es := V_es'
        clear V_es'
        replace F_d_position := F_d_position'
        clear F_d_position'
        replace F_d_acknowledged := F_d_acknowledged'
        clear F_d_acknowledged'
        replace F_d_takenBack := F_d_takenBack'
        clear F_d_takenBack'
        replace H := k_istore C H at_133 (L' := #[.val (.long x0), .second, .val (.long x1), .second, .val (.int x2), .val (.int md), .val (.ref wn), .val (.ref d), .val (.long (0 : Int64)), .second, .val (.ref d), .val (.int (1 : Int32)), .val (.int (1 : Int32)), .val (.int (1 : Int32)), .unset, .unset, .unset, .unset]) rfl (pc' := 135) rfl
        replace H := k_aload C H at_135 rfl rfl (pc' := 137) rfl
        replace H := k_callVir C H (rmgisAcknowledged l Z a0 hw d j58 n0 _ F_d_acknowledged (by decide)) X_d (hw _ (List.mem_of_getElem? (i := 48) rfl)) (hw _ (List.mem_of_getElem? (i := 49) rfl)) (hw _ (List.mem_of_getElem? (i := 51) rfl)) (hw _ (List.mem_of_getElem? (i := 50) rfl)) (hw _ (List.mem_of_getElem? (i := 32) rfl)) (hw _ (List.mem_of_getElem? (i := 52) rfl)) (by decide) at_137 rfl [] [] pd0_5 rfl rfl rfl 0 rfl (by decide) (by decide) (by decide) (by decide) (pc' := 140) rfl
        obtain ⟨_, _, ⟨rfl, rfl⟩, H⟩ := H
        replace H : K 140 #[.val (.long x0), .second, .val (.long x1), .second, .val (.int x2), .val (.int md), .val (.ref wn), .val (.ref d), .val (.long (0 : Int64)), .second, .val (.ref d), .val (.int (1 : Int32)), .val (.int (1 : Int32)), .val (.int (1 : Int32)), .unset, .unset, .unset, .unset] [(.int (1 : Int32))] j58 4 29 := H
        replace H := k_istore C H at_140 (L' := #[.val (.long x0), .second, .val (.long x1), .second, .val (.int x2), .val (.int md), .val (.ref wn), .val (.ref d), .val (.long (0 : Int64)), .second, .val (.ref d), .val (.int (1 : Int32)), .val (.int (1 : Int32)), .val (.int (1 : Int32)), .val (.int (1 : Int32)), .unset, .unset, .unset]) rfl (pc' := 142) rfl
        replace H := k_aload C H at_142 rfl rfl (pc' := 144) rfl
        replace H := k_callVir C H (rmglastHandled l Z a0 hw wn j58 n0 _ F_wn_lastHandledPosition) X_wn (hw _ (List.mem_of_getElem? (i := 128) rfl)) (hw _ (List.mem_of_getElem? (i := 129) rfl)) (hw _ (List.mem_of_getElem? (i := 131) rfl)) (hw _ (List.mem_of_getElem? (i := 130) rfl)) (hw _ (List.mem_of_getElem? (i := 2) rfl)) (hw _ (List.mem_of_getElem? (i := 132) rfl)) (by decide) at_144 rfl [] [] pd0_6 rfl rfl rfl 0 rfl (by decide) (by decide) (by decide) (by decide) (pc' := 147) rfl
        obtain ⟨_, _, ⟨rfl, rfl⟩, H⟩ := H
        replace H : K 147 #[.val (.long x0), .second, .val (.long x1), .second, .val (.int x2), .val (.int md), .val (.ref wn), .val (.ref d), .val (.long (0 : Int64)), .second, .val (.ref d), .val (.int (1 : Int32)), .val (.int (1 : Int32)), .val (.int (1 : Int32)), .val (.int (1 : Int32)), .unset, .unset, .unset] [(.long x1)] j58 4 29 := H
        replace H := k_lloadN C H at_147 rfl (pc' := 148) rfl
        replace H := k_lcmp C H at_148 (pc' := 149) rfl
        replace H := k_ifcN C H at_149 (teq (own_lc x1)).2 (pc' := 152) rfl
        replace H := k_iconst C H (v := 1) at_152 rfl (pc' := 153) rfl
        replace H := k_goto C H at_153 (by decide) (pc' := 157) rfl
        replace H := k_istore C H at_157 (L' := #[.val (.long x0), .second, .val (.long x1), .second, .val (.int x2), .val (.int md), .val (.ref wn), .val (.ref d), .val (.long (0 : Int64)), .second, .val (.ref d), .val (.int (1 : Int32)), .val (.int (1 : Int32)), .val (.int (1 : Int32)), .val (.int (1 : Int32)), .val (.int (1 : Int32)), .unset, .unset]) rfl (pc' := 159) rfl
        replace H := k_aload C H at_159 rfl rfl (pc' := 161) rfl
        replace H := k_callVir C H (rmghandled l Z a0 hw wn j58 n0 _ F_wn_handled) X_wn (hw _ (List.mem_of_getElem? (i := 133) rfl)) (hw _ (List.mem_of_getElem? (i := 134) rfl)) (hw _ (List.mem_of_getElem? (i := 136) rfl)) (hw _ (List.mem_of_getElem? (i := 135) rfl)) (hw _ (List.mem_of_getElem? (i := 2) rfl)) (hw _ (List.mem_of_getElem? (i := 137) rfl)) (by decide) at_161 rfl [] [] pd0_6 rfl rfl rfl 0 rfl (by decide) (by decide) (by decide) (by decide) (pc' := 164) rfl
        obtain ⟨_, _, ⟨rfl, rfl⟩, H⟩ := H
        replace H : K 164 #[.val (.long x0), .second, .val (.long x1), .second, .val (.int x2), .val (.int md), .val (.ref wn), .val (.ref d), .val (.long (0 : Int64)), .second, .val (.ref d), .val (.int (1 : Int32)), .val (.int (1 : Int32)), .val (.int (1 : Int32)), .val (.int (1 : Int32)), .val (.int (1 : Int32)), .unset, .unset] [(.long (1 : Int64))] j58 4 29 := H
        replace H := k_lload C H at_164 rfl (pc' := 166) rfl
        replace H := k_lconst C H (v := 1) at_166 rfl (pc' := 167) rfl
        replace H := k_ladd C H at_167 (pc' := 168) rfl
        replace H : K 168 #[.val (.long x0), .second, .val (.long x1), .second, .val (.int x2), .val (.int md), .val (.ref wn), .val (.ref d), .val (.long (0 : Int64)), .second, .val (.ref d), .val (.int (1 : Int32)), .val (.int (1 : Int32)), .val (.int (1 : Int32)), .val (.int (1 : Int32)), .val (.int (1 : Int32)), .unset, .unset] [(.long (1 : Int64)), (.long (1 : Int64))] j58 4 29 := H
        replace H := k_lcmp C H at_168 (pc' := 169) rfl
        have lc : lcmpW (1 : Int64) (1 : Int64) = (0 : Int32) := by decide
        rw [lc] at H
        clear lc
        replace H := k_ifcN C H at_169 (teq (by decide : (0 : Int32) = (0 : Int32))).2 (pc' := 172) rfl
        replace H := k_iconst C H (v := 1) at_172 rfl (pc' := 173) rfl
        replace H := k_goto C H at_173 (by decide) (pc' := 177) rfl
        replace H := k_istore C H at_177 (L' := #[.val (.long x0), .second, .val (.long x1), .second, .val (.int x2), .val (.int md), .val (.ref wn), .val (.ref d), .val (.long (0 : Int64)), .second, .val (.ref d), .val (.int (1 : Int32)), .val (.int (1 : Int32)), .val (.int (1 : Int32)), .val (.int (1 : Int32)), .val (.int (1 : Int32)), .val (.int (1 : Int32)), .unset]) rfl (pc' := 179) rfl
        replace H := k_aload C H at_179 rfl rfl (pc' := 181) rfl
        replace H := k_callVir C H (rmgunacknowledged l Z a0 hw wn j58 n0 _ F_wn_unacknowledged) X_wn (hw _ (List.mem_of_getElem? (i := 138) rfl)) (hw _ (List.mem_of_getElem? (i := 139) rfl)) (hw _ (List.mem_of_getElem? (i := 141) rfl)) (hw _ (List.mem_of_getElem? (i := 140) rfl)) (hw _ (List.mem_of_getElem? (i := 2) rfl)) (hw _ (List.mem_of_getElem? (i := 142) rfl)) (by decide) at_181 rfl [] [] pd0_7 rfl rfl rfl 0 rfl (by decide) (by decide) (by decide) (by decide) (pc' := 184) rfl
        obtain ⟨_, _, ⟨rfl, rfl⟩, H⟩ := H
        replace H : K 184 #[.val (.long x0), .second, .val (.long x1), .second, .val (.int x2), .val (.int md), .val (.ref wn), .val (.ref d), .val (.long (0 : Int64)), .second, .val (.ref d), .val (.int (1 : Int32)), .val (.int (1 : Int32)), .val (.int (1 : Int32)), .val (.int (1 : Int32)), .val (.int (1 : Int32)), .val (.int (1 : Int32)), .unset] [(.int (0 : Int32))] j58 4 29 := H
        replace H := k_ifcN C H at_184 (teq (by decide : (0 : Int32) = (0 : Int32))).2 (pc' := 187) rfl
        replace H := k_iconst C H (v := 1) at_187 rfl (pc' := 188) rfl
        replace H := k_goto C H at_188 (by decide) (pc' := 192) rfl
        replace H := k_istore C H at_192 (L' := #[.val (.long x0), .second, .val (.long x1), .second, .val (.int x2), .val (.int md), .val (.ref wn), .val (.ref d), .val (.long (0 : Int64)), .second, .val (.ref d), .val (.int (1 : Int32)), .val (.int (1 : Int32)), .val (.int (1 : Int32)), .val (.int (1 : Int32)), .val (.int (1 : Int32)), .val (.int (1 : Int32)), .val (.int (1 : Int32))]) rfl (pc' := 194) rfl
        replace H := k_iload C H at_194 rfl (pc' := 196) rfl
        replace H := k_ifcN C H at_196 (feq (by decide : ¬ ((1 : Int32) = (0 : Int32)))).1 (pc' := 199) rfl
        replace H := k_iload C H at_199 rfl (pc' := 201) rfl
        replace H := k_ifcN C H at_201 (feq (by decide : ¬ ((1 : Int32) = (0 : Int32)))).1 (pc' := 204) rfl
        replace H := k_iload C H at_204 rfl (pc' := 206) rfl
        replace H := k_ifcN C H at_206 (feq (by decide : ¬ ((1 : Int32) = (0 : Int32)))).1 (pc' := 209) rfl
        replace H := k_iload C H at_209 rfl (pc' := 211) rfl
        replace H := k_ifcN C H at_211 (feq (by decide : ¬ ((1 : Int32) = (0 : Int32)))).1 (pc' := 214) rfl
        replace H := k_iload C H at_214 rfl (pc' := 216) rfl
        replace H := k_ifcN C H at_216 (feq (by decide : ¬ ((1 : Int32) = (0 : Int32)))).1 (pc' := 219) rfl
        replace H := k_iload C H at_219 rfl (pc' := 221) rfl
        replace H := k_ifcN C H at_221 (feq (by decide : ¬ ((1 : Int32) = (0 : Int32)))).1 (pc' := 224) rfl
        replace H := k_iload C H at_224 rfl (pc' := 226) rfl
        replace H := k_ifcN C H at_226 (feq (by decide : ¬ ((1 : Int32) = (0 : Int32)))).1 (pc' := 229) rfl
        replace H := k_iconst C H (v := 1) at_229 rfl (pc' := 230) rfl
        replace H := k_goto C H at_230 (by decide) (pc' := 234) rfl
        exact k_retZ C H at_234 (by decide) (by decide) (by decide) rfl
      · replace H := k_icmpY C H at_65 (feq hc65).2 (by decide) (pc' := 82) rfl
        replace H := k_aload C H at_82 rfl rfl (pc' := 84) rfl
        replace H := k_lloadN C H at_84 rfl (pc' := 85) rfl
        replace H := k_callVir C H (rmreu l Z a0 hw d x1 j43 n0 _ _ _ X_d F_d_position F_d_acknowledged F_d_takenBack n_d) X_d (hw _ (List.mem_of_getElem? (i := 39) rfl)) (hw _ (List.mem_of_getElem? (i := 40) rfl)) (hw _ (List.mem_of_getElem? (i := 42) rfl)) (hw _ (List.mem_of_getElem? (i := 41) rfl)) (hw _ (List.mem_of_getElem? (i := 32) rfl)) (hw _ (List.mem_of_getElem? (i := 43) rfl)) (by decide) at_85 rfl [(.long x1)] [] pd0_4 rfl rfl rfl 0 rfl (by decide) (by decide) (by decide) (by decide) (pc' := 88) rfl
        obtain ⟨_, j59, ⟨rfl, K_j59, F_d_position', F_d_acknowledged', F_d_takenBack'⟩, H⟩ := H
        replace H : K 88 #[.val (.long x0), .second, .val (.long x1), .second, .val (.int x2), .val (.int md), .val (.ref wn), .val (.ref d), .val (.long (0 : Int64)), .second, .unset, .unset, .unset, .unset, .unset, .unset, .unset, .unset] [(.ref d)] j59 4 29 := H
        replace X_wn := X_wn.keep K_j59
        replace F_wn_delivered := F_wn_delivered.keep K_j59 (ninS ne_wn_d nin0)
        replace F_wn_unacknowledged := F_wn_unacknowledged.keep K_j59 (ninS ne_wn_d nin0)
        replace F_wn_lastHandledPosition := F_wn_lastHandledPosition.keep K_j59 (ninS ne_wn_d nin0)
        replace F_wn_hasLastHandled := F_wn_hasLastHandled.keep K_j59 (ninS ne_wn_d nin0)
        replace F_wn_handled := F_wn_handled.keep K_j59 (ninS ne_wn_d nin0)
        replace X_q := X_q.keep K_j59
        replace F_q_elements := F_q_elements.keep K_j59 (ninS ne_q_d nin0)
        replace F_q_head := F_q_head.keep K_j59 (ninS ne_q_d nin0)
        replace F_q_tail := F_q_tail.keep K_j59 (ninS ne_q_d nin0)
        replace V_es := V_es.keep K_j59 (ninS ne_es_d nin0)
        replace X_d := X_d.keep K_j59
        have Z_j59 : n0 ≤ j59.size := Nat.le_trans Z_j43 K_j59.1
        replace F_d_position := F_d_position'
        clear F_d_position'
        replace F_d_acknowledged := F_d_acknowledged'
        clear F_d_acknowledged'
        replace F_d_takenBack := F_d_takenBack'
        clear F_d_takenBack'
        replace H := k_astore C H at_88 (L' := #[.val (.long x0), .second, .val (.long x1), .second, .val (.int x2), .val (.int md), .val (.ref wn), .val (.ref d), .val (.long (0 : Int64)), .second, .val (.ref d), .unset, .unset, .unset, .unset, .unset, .unset, .unset]) rfl rfl (pc' := 90) rfl
        replace H := k_aload C H at_90 rfl rfl (pc' := 92) rfl
        replace H := k_aload C H at_92 rfl rfl (pc' := 94) rfl
        replace H := k_acmp C H at_94 rfl rfl (same := true) (by simp) (by decide) (pc' := 97) rfl
        replace H := k_iconst C H (v := 1) at_97 rfl (pc' := 98) rfl
        replace H := k_goto C H at_98 (by decide) (pc' := 102) rfl
        replace H := k_istore C H at_102 (L' := #[.val (.long x0), .second, .val (.long x1), .second, .val (.int x2), .val (.int md), .val (.ref wn), .val (.ref d), .val (.long (0 : Int64)), .second, .val (.ref d), .val (.int (1 : Int32)), .unset, .unset, .unset, .unset, .unset, .unset]) rfl (pc' := 104) rfl
        replace H := k_aload C H at_104 rfl rfl (pc' := 106) rfl
        replace H := k_callVir C H (rmgisAcknowledged l Z a0 hw d j59 n0 _ F_d_acknowledged (by decide)) X_d (hw _ (List.mem_of_getElem? (i := 48) rfl)) (hw _ (List.mem_of_getElem? (i := 49) rfl)) (hw _ (List.mem_of_getElem? (i := 51) rfl)) (hw _ (List.mem_of_getElem? (i := 50) rfl)) (hw _ (List.mem_of_getElem? (i := 32) rfl)) (hw _ (List.mem_of_getElem? (i := 52) rfl)) (by decide) at_106 rfl [] [] pd0_5 rfl rfl rfl 0 rfl (by decide) (by decide) (by decide) (by decide) (pc' := 109) rfl
        obtain ⟨_, _, ⟨rfl, rfl⟩, H⟩ := H
        replace H : K 109 #[.val (.long x0), .second, .val (.long x1), .second, .val (.int x2), .val (.int md), .val (.ref wn), .val (.ref d), .val (.long (0 : Int64)), .second, .val (.ref d), .val (.int (1 : Int32)), .unset, .unset, .unset, .unset, .unset, .unset] [(.int (0 : Int32))] j59 4 29 := H
        replace H := k_ifcN C H at_109 (teq (by decide : (0 : Int32) = (0 : Int32))).2 (pc' := 112) rfl
        replace H := k_iconst C H (v := 1) at_112 rfl (pc' := 113) rfl
        replace H := k_goto C H at_113 (by decide) (pc' := 117) rfl
        replace H := k_istore C H at_117 (L' := #[.val (.long x0), .second, .val (.long x1), .second, .val (.int x2), .val (.int md), .val (.ref wn), .val (.ref d), .val (.long (0 : Int64)), .second, .val (.ref d), .val (.int (1 : Int32)), .val (.int (1 : Int32)), .unset, .unset, .unset, .unset, .unset]) rfl (pc' := 119) rfl
        replace H := k_aload C H at_119 rfl rfl (pc' := 121) rfl
        replace H := k_aload C H at_121 rfl rfl (pc' := 123) rfl
        replace H := k_callVir C H (rmdlv0 l Z a0 hw wn d j59 n0 q es kE _ _ _ _ _ _ X_wn F_wn_delivered F_wn_unacknowledged F_wn_lastHandledPosition F_wn_hasLastHandled F_wn_handled n_wn X_q F_q_elements F_q_head F_q_tail n_q V_es O_es n_es X_d F_d_position F_d_acknowledged F_d_takenBack n_d ne_wn_q ne_wn_d ne_q_d) X_wn (hw _ (List.mem_of_getElem? (i := 53) rfl)) (hw _ (List.mem_of_getElem? (i := 54) rfl)) (hw _ (List.mem_of_getElem? (i := 56) rfl)) (hw _ (List.mem_of_getElem? (i := 55) rfl)) (hw _ (List.mem_of_getElem? (i := 2) rfl)) (hw _ (List.mem_of_getElem? (i := 57) rfl)) (by decide) at_123 rfl [(.ref d)] [] pd0_2 rfl rfl rfl 0 rfl (by decide) (by decide) (by decide) (by decide) (pc' := 126) rfl
        obtain ⟨_, j60, ⟨rfl, K_j60, F_wn_delivered', F_wn_unacknowledged', F_wn_lastHandledPosition', F_wn_hasLastHandled', F_wn_handled', F_q_elements', F_q_head', F_q_tail', V_es'⟩, H⟩ := H
        replace H : K 126 #[.val (.long x0), .second, .val (.long x1), .second, .val (.int x2), .val (.int md), .val (.ref wn), .val (.ref d), .val (.long (0 : Int64)), .second, .val (.ref d), .val (.int (1 : Int32)), .val (.int (1 : Int32)), .unset, .unset, .unset, .unset, .unset] [] j60 4 29 := H
        replace X_wn := X_wn.keep K_j60
        replace X_q := X_q.keep K_j60
        replace X_d := X_d.keep K_j60
        replace F_d_position := F_d_position.keep K_j60 (ninS (Ne.symm ne_wn_d) (ninS (Ne.symm ne_q_d) (ninS (Ne.symm ne_es_d) nin0)))
        replace F_d_acknowledged := F_d_acknowledged.keep K_j60 (ninS (Ne.symm ne_wn_d) (ninS (Ne.symm ne_q_d) (ninS (Ne.symm ne_es_d) nin0)))
        replace F_d_takenBack := F_d_takenBack.keep K_j60 (ninS (Ne.symm ne_wn_d) (ninS (Ne.symm ne_q_d) (ninS (Ne.symm ne_es_d) nin0)))
        have Z_j60 : n0 ≤ j60.size := Nat.le_trans Z_j59 K_j60.1
        replace F_wn_delivered := F_wn_delivered'
        clear F_wn_delivered'
        replace F_wn_unacknowledged := F_wn_unacknowledged'
        clear F_wn_unacknowledged'
        replace F_wn_lastHandledPosition := F_wn_lastHandledPosition'
        clear F_wn_lastHandledPosition'
        replace F_wn_hasLastHandled := F_wn_hasLastHandled'
        clear F_wn_hasLastHandled'
        replace F_wn_handled := F_wn_handled'
        clear F_wn_handled'
        replace F_q_elements := F_q_elements'
        clear F_q_elements'
        replace F_q_head := F_q_head'
        clear F_q_head'
        replace F_q_tail := F_q_tail'
        clear F_q_tail'
        replace V_es := V_es'
        clear V_es'
        replace H := k_aload C H at_126 rfl rfl (pc' := 128) rfl
        replace H := k_aload C H at_128 rfl rfl (pc' := 130) rfl
        replace H := k_callVir C H (rmack0 l Z a0 hw wn d j60 n0 q es kE _ _ _ X_wn F_wn_delivered F_wn_unacknowledged F_wn_lastHandledPosition F_wn_hasLastHandled F_wn_handled n_wn X_q F_q_elements F_q_head F_q_tail n_q V_es O_es n_es X_d F_d_position F_d_acknowledged F_d_takenBack n_d ne_wn_q ne_wn_d ne_q_d) X_wn (hw _ (List.mem_of_getElem? (i := 77) rfl)) (hw _ (List.mem_of_getElem? (i := 78) rfl)) (hw _ (List.mem_of_getElem? (i := 80) rfl)) (hw _ (List.mem_of_getElem? (i := 79) rfl)) (hw _ (List.mem_of_getElem? (i := 2) rfl)) (hw _ (List.mem_of_getElem? (i := 81) rfl)) (by decide) at_130 rfl [(.ref d)] [] pd0_3 rfl rfl rfl 0 rfl (by decide) (by decide) (by decide) (by decide) (pc' := 133) rfl
        obtain ⟨_, j61, ⟨rfl, K_j61, F_wn_delivered', F_wn_unacknowledged', F_wn_lastHandledPosition', F_wn_hasLastHandled', F_wn_handled', F_q_elements', F_q_head', F_q_tail', V_es', F_d_position', F_d_acknowledged', F_d_takenBack'⟩, H⟩ := H
        replace H : K 133 #[.val (.long x0), .second, .val (.long x1), .second, .val (.int x2), .val (.int md), .val (.ref wn), .val (.ref d), .val (.long (0 : Int64)), .second, .val (.ref d), .val (.int (1 : Int32)), .val (.int (1 : Int32)), .unset, .unset, .unset, .unset, .unset] [(.int (1 : Int32))] j61 4 29 := H
        replace X_wn := X_wn.keep K_j61
        replace X_q := X_q.keep K_j61
        replace X_d := X_d.keep K_j61
        have Z_j61 : n0 ≤ j61.size := Nat.le_trans Z_j60 K_j61.1
        replace F_wn_delivered := F_wn_delivered'
        clear F_wn_delivered'
        replace F_wn_unacknowledged := F_wn_unacknowledged'
        clear F_wn_unacknowledged'
        replace F_wn_lastHandledPosition := F_wn_lastHandledPosition'
        clear F_wn_lastHandledPosition'
        replace F_wn_hasLastHandled := F_wn_hasLastHandled'
        clear F_wn_hasLastHandled'
        replace F_wn_handled := F_wn_handled'
        clear F_wn_handled'
        replace F_q_elements := F_q_elements'
        clear F_q_elements'
        replace F_q_head := F_q_head'
        clear F_q_head'
        replace F_q_tail := F_q_tail'
        clear F_q_tail'
        replace V_es := V_es'
        clear V_es'
        replace F_d_position := F_d_position'
        clear F_d_position'
        replace F_d_acknowledged := F_d_acknowledged'
        clear F_d_acknowledged'
        replace F_d_takenBack := F_d_takenBack'
        clear F_d_takenBack'
        replace H := k_istore C H at_133 (L' := #[.val (.long x0), .second, .val (.long x1), .second, .val (.int x2), .val (.int md), .val (.ref wn), .val (.ref d), .val (.long (0 : Int64)), .second, .val (.ref d), .val (.int (1 : Int32)), .val (.int (1 : Int32)), .val (.int (1 : Int32)), .unset, .unset, .unset, .unset]) rfl (pc' := 135) rfl
        replace H := k_aload C H at_135 rfl rfl (pc' := 137) rfl
        replace H := k_callVir C H (rmgisAcknowledged l Z a0 hw d j61 n0 _ F_d_acknowledged (by decide)) X_d (hw _ (List.mem_of_getElem? (i := 48) rfl)) (hw _ (List.mem_of_getElem? (i := 49) rfl)) (hw _ (List.mem_of_getElem? (i := 51) rfl)) (hw _ (List.mem_of_getElem? (i := 50) rfl)) (hw _ (List.mem_of_getElem? (i := 32) rfl)) (hw _ (List.mem_of_getElem? (i := 52) rfl)) (by decide) at_137 rfl [] [] pd0_5 rfl rfl rfl 0 rfl (by decide) (by decide) (by decide) (by decide) (pc' := 140) rfl
        obtain ⟨_, _, ⟨rfl, rfl⟩, H⟩ := H
        replace H : K 140 #[.val (.long x0), .second, .val (.long x1), .second, .val (.int x2), .val (.int md), .val (.ref wn), .val (.ref d), .val (.long (0 : Int64)), .second, .val (.ref d), .val (.int (1 : Int32)), .val (.int (1 : Int32)), .val (.int (1 : Int32)), .unset, .unset, .unset, .unset] [(.int (1 : Int32))] j61 4 29 := H
        replace H := k_istore C H at_140 (L' := #[.val (.long x0), .second, .val (.long x1), .second, .val (.int x2), .val (.int md), .val (.ref wn), .val (.ref d), .val (.long (0 : Int64)), .second, .val (.ref d), .val (.int (1 : Int32)), .val (.int (1 : Int32)), .val (.int (1 : Int32)), .val (.int (1 : Int32)), .unset, .unset, .unset]) rfl (pc' := 142) rfl
        replace H := k_aload C H at_142 rfl rfl (pc' := 144) rfl
        replace H := k_callVir C H (rmglastHandled l Z a0 hw wn j61 n0 _ F_wn_lastHandledPosition) X_wn (hw _ (List.mem_of_getElem? (i := 128) rfl)) (hw _ (List.mem_of_getElem? (i := 129) rfl)) (hw _ (List.mem_of_getElem? (i := 131) rfl)) (hw _ (List.mem_of_getElem? (i := 130) rfl)) (hw _ (List.mem_of_getElem? (i := 2) rfl)) (hw _ (List.mem_of_getElem? (i := 132) rfl)) (by decide) at_144 rfl [] [] pd0_6 rfl rfl rfl 0 rfl (by decide) (by decide) (by decide) (by decide) (pc' := 147) rfl
        obtain ⟨_, _, ⟨rfl, rfl⟩, H⟩ := H
        replace H : K 147 #[.val (.long x0), .second, .val (.long x1), .second, .val (.int x2), .val (.int md), .val (.ref wn), .val (.ref d), .val (.long (0 : Int64)), .second, .val (.ref d), .val (.int (1 : Int32)), .val (.int (1 : Int32)), .val (.int (1 : Int32)), .val (.int (1 : Int32)), .unset, .unset, .unset] [(.long x1)] j61 4 29 := H
        replace H := k_lloadN C H at_147 rfl (pc' := 148) rfl
        replace H := k_lcmp C H at_148 (pc' := 149) rfl
        replace H := k_ifcN C H at_149 (teq (own_lc x1)).2 (pc' := 152) rfl
        replace H := k_iconst C H (v := 1) at_152 rfl (pc' := 153) rfl
        replace H := k_goto C H at_153 (by decide) (pc' := 157) rfl
        replace H := k_istore C H at_157 (L' := #[.val (.long x0), .second, .val (.long x1), .second, .val (.int x2), .val (.int md), .val (.ref wn), .val (.ref d), .val (.long (0 : Int64)), .second, .val (.ref d), .val (.int (1 : Int32)), .val (.int (1 : Int32)), .val (.int (1 : Int32)), .val (.int (1 : Int32)), .val (.int (1 : Int32)), .unset, .unset]) rfl (pc' := 159) rfl
        replace H := k_aload C H at_159 rfl rfl (pc' := 161) rfl
        replace H := k_callVir C H (rmghandled l Z a0 hw wn j61 n0 _ F_wn_handled) X_wn (hw _ (List.mem_of_getElem? (i := 133) rfl)) (hw _ (List.mem_of_getElem? (i := 134) rfl)) (hw _ (List.mem_of_getElem? (i := 136) rfl)) (hw _ (List.mem_of_getElem? (i := 135) rfl)) (hw _ (List.mem_of_getElem? (i := 2) rfl)) (hw _ (List.mem_of_getElem? (i := 137) rfl)) (by decide) at_161 rfl [] [] pd0_6 rfl rfl rfl 0 rfl (by decide) (by decide) (by decide) (by decide) (pc' := 164) rfl
        obtain ⟨_, _, ⟨rfl, rfl⟩, H⟩ := H
        replace H : K 164 #[.val (.long x0), .second, .val (.long x1), .second, .val (.int x2), .val (.int md), .val (.ref wn), .val (.ref d), .val (.long (0 : Int64)), .second, .val (.ref d), .val (.int (1 : Int32)), .val (.int (1 : Int32)), .val (.int (1 : Int32)), .val (.int (1 : Int32)), .val (.int (1 : Int32)), .unset, .unset] [(.long (1 : Int64))] j61 4 29 := H
        replace H := k_lload C H at_164 rfl (pc' := 166) rfl
        replace H := k_lconst C H (v := 1) at_166 rfl (pc' := 167) rfl
        replace H := k_ladd C H at_167 (pc' := 168) rfl
        replace H : K 168 #[.val (.long x0), .second, .val (.long x1), .second, .val (.int x2), .val (.int md), .val (.ref wn), .val (.ref d), .val (.long (0 : Int64)), .second, .val (.ref d), .val (.int (1 : Int32)), .val (.int (1 : Int32)), .val (.int (1 : Int32)), .val (.int (1 : Int32)), .val (.int (1 : Int32)), .unset, .unset] [(.long (1 : Int64)), (.long (1 : Int64))] j61 4 29 := H
        replace H := k_lcmp C H at_168 (pc' := 169) rfl
        have lc : lcmpW (1 : Int64) (1 : Int64) = (0 : Int32) := by decide
        rw [lc] at H
        clear lc
        replace H := k_ifcN C H at_169 (teq (by decide : (0 : Int32) = (0 : Int32))).2 (pc' := 172) rfl
        replace H := k_iconst C H (v := 1) at_172 rfl (pc' := 173) rfl
        replace H := k_goto C H at_173 (by decide) (pc' := 177) rfl
        replace H := k_istore C H at_177 (L' := #[.val (.long x0), .second, .val (.long x1), .second, .val (.int x2), .val (.int md), .val (.ref wn), .val (.ref d), .val (.long (0 : Int64)), .second, .val (.ref d), .val (.int (1 : Int32)), .val (.int (1 : Int32)), .val (.int (1 : Int32)), .val (.int (1 : Int32)), .val (.int (1 : Int32)), .val (.int (1 : Int32)), .unset]) rfl (pc' := 179) rfl
        replace H := k_aload C H at_179 rfl rfl (pc' := 181) rfl
        replace H := k_callVir C H (rmgunacknowledged l Z a0 hw wn j61 n0 _ F_wn_unacknowledged) X_wn (hw _ (List.mem_of_getElem? (i := 138) rfl)) (hw _ (List.mem_of_getElem? (i := 139) rfl)) (hw _ (List.mem_of_getElem? (i := 141) rfl)) (hw _ (List.mem_of_getElem? (i := 140) rfl)) (hw _ (List.mem_of_getElem? (i := 2) rfl)) (hw _ (List.mem_of_getElem? (i := 142) rfl)) (by decide) at_181 rfl [] [] pd0_7 rfl rfl rfl 0 rfl (by decide) (by decide) (by decide) (by decide) (pc' := 184) rfl
        obtain ⟨_, _, ⟨rfl, rfl⟩, H⟩ := H
        replace H : K 184 #[.val (.long x0), .second, .val (.long x1), .second, .val (.int x2), .val (.int md), .val (.ref wn), .val (.ref d), .val (.long (0 : Int64)), .second, .val (.ref d), .val (.int (1 : Int32)), .val (.int (1 : Int32)), .val (.int (1 : Int32)), .val (.int (1 : Int32)), .val (.int (1 : Int32)), .val (.int (1 : Int32)), .unset] [(.int (0 : Int32))] j61 4 29 := H
        replace H := k_ifcN C H at_184 (teq (by decide : (0 : Int32) = (0 : Int32))).2 (pc' := 187) rfl
        replace H := k_iconst C H (v := 1) at_187 rfl (pc' := 188) rfl
        replace H := k_goto C H at_188 (by decide) (pc' := 192) rfl
        replace H := k_istore C H at_192 (L' := #[.val (.long x0), .second, .val (.long x1), .second, .val (.int x2), .val (.int md), .val (.ref wn), .val (.ref d), .val (.long (0 : Int64)), .second, .val (.ref d), .val (.int (1 : Int32)), .val (.int (1 : Int32)), .val (.int (1 : Int32)), .val (.int (1 : Int32)), .val (.int (1 : Int32)), .val (.int (1 : Int32)), .val (.int (1 : Int32))]) rfl (pc' := 194) rfl
        replace H := k_iload C H at_194 rfl (pc' := 196) rfl
        replace H := k_ifcN C H at_196 (feq (by decide : ¬ ((1 : Int32) = (0 : Int32)))).1 (pc' := 199) rfl
        replace H := k_iload C H at_199 rfl (pc' := 201) rfl
        replace H := k_ifcN C H at_201 (feq (by decide : ¬ ((1 : Int32) = (0 : Int32)))).1 (pc' := 204) rfl
        replace H := k_iload C H at_204 rfl (pc' := 206) rfl
        replace H := k_ifcN C H at_206 (feq (by decide : ¬ ((1 : Int32) = (0 : Int32)))).1 (pc' := 209) rfl
        replace H := k_iload C H at_209 rfl (pc' := 211) rfl
        replace H := k_ifcN C H at_211 (feq (by decide : ¬ ((1 : Int32) = (0 : Int32)))).1 (pc' := 214) rfl
        replace H := k_iload C H at_214 rfl (pc' := 216) rfl
        replace H := k_ifcN C H at_216 (feq (by decide : ¬ ((1 : Int32) = (0 : Int32)))).1 (pc' := 219) rfl
        replace H := k_iload C H at_219 rfl (pc' := 221) rfl
        replace H := k_ifcN C H at_221 (feq (by decide : ¬ ((1 : Int32) = (0 : Int32)))).1 (pc' := 224) rfl
        replace H := k_iload C H at_224 rfl (pc' := 226) rfl
        replace H := k_ifcN C H at_226 (feq (by decide : ¬ ((1 : Int32) = (0 : Int32)))).1 (pc' := 229) rfl
        replace H := k_iconst C H (v := 1) at_229 rfl (pc' := 230) rfl
        replace H := k_goto C H at_230 (by decide) (pc' := 234) rfl
        exact k_retZ C H at_234 (by decide) (by decide) (by decide) rfl
set_option maxRecDepth 65536 in
set_option maxHeartbeats 40000000 in
theorem comes_1 {Post : Tables → Env → Array Value → State → Outcome → State → Prop} (hpost : ∀ tb e args s v u, (limb_1_1.after args s (.returned v) u = true ∧ limb_1_2.after args s (.returned v) u = true) → FrameEnd s (.returned v) u (Jvm.fieldLocs frame_1_writes args s ++ Jvm.arrayLocs frame_1_arrays args s ++ Jvm.staticLocs frame_1_statics s) 16 128 → Post tb e args s (.returned v) u) :
    ArmFor flags0 classFile x code maxLocals ret World_1 tables_1 room_1 Calls_1 rest_1 Pre_1 Post := by
  intro l hfl _ _ p e ha hc hk s m args below hf hA hF happ hP
  obtain ⟨hcalls, hrest, hpre⟩ := hP
  obtain ⟨-, -, -, hnamed, -, -, -, hat⟩ := (Spec.applies_iff hf).mp happ
  obtain ⟨hg, hn⟩ := and_e (Cond.before_iff.mp (show (Jvm.Cond.and given_1 narrow_1).before args s = true from hpre))
  obtain ⟨g0, r0⟩ := and_e hg
  obtain ⟨g1, r1⟩ := and_e r0
  obtain ⟨g2, r2⟩ := and_e r1
  obtain ⟨w0, w1, w2, rfl⟩ : ∃ w0 w1 w2 : Value, args = #[w0, w1, w2] := by
    have hs : args.size = 3 := by simpa [Cond.value, given_1] using g0
    obtain ⟨L⟩ := args
    match L, hs with
    | [w0, w1, w2], _ => exact ⟨w0, w1, w2, rfl⟩
  have hw := fun d (hd : d ∈ tables_1) => atoms_spec (ws := Jvm.Cond.code x code maxLocals ret :: tables_1) hat d (List.mem_cons_of_mem _ hd)
  obtain ⟨i0, ei0⟩ := isL_v g1
  obtain rfl : w0 = (.long i0) := Option.some.inj ei0
  obtain ⟨i1, ei1⟩ := isL_v g2
  obtain rfl : w1 = (.long i1) := Option.some.inj ei1
  obtain ⟨i2, ei2⟩ := is_v r2
  obtain rfl : w2 = (.int i2) := Option.some.inj ei2
  obtain ⟨n, o, h1, h2, h3, _, L, rfl, ⟨rfl, N⟩, hq⟩ := rm0 l s _ hw i0 i1 i2 s.heap s.heap.size (Nat.le_refl _) tables_1 p e ha hc hk s m _ below hf ((Spec.applies_iff_loose hf).mp happ).1 ⟨rfl, State.Warmed39.refl s, rfl⟩ trivial
  refine ⟨n, _, h1, h2, h3, hpost _ _ _ _ _ _ ⟨Cond.after_iff.mpr rfl, Cond.after_iff.mpr (eq_i res_at (Term.int_eval (1)) rfl)⟩ ⟨hq.1, hq.2.1, (hq.2.2.sift fun y hy => Or.inr (N y hy)).mono (by decide) (by decide)⟩⟩
theorem main_1_1 : Claimed_1_1 := comes_1 fun _ _ _ _ _ _ h hF => ⟨h.1, hF⟩
theorem main_1_2 : Claimed_1_2 := comes_1 fun _ _ _ _ _ _ h hF => ⟨h.2, hF⟩
end Jvm.Pilot.@@N@@
namespace Jvm.Pilot.@@N@@
open Jvm Jvm.ClassFile Sem Op Lib Jvm.Free Jvm.Stand Jvm.Pilot.@@N@@.Jvm.D
/-! MADE BY PROGRAM (witnessworld.py) out of the Statement's table words and the real class files: 19 classes; the members and pool entries that the words name. The judged class is class 1, her method 1. -/
namespace start1
open Jvm.ClassFile
def u (s : String) : CpInfo := .utf8 (stringToUtf16 s)
/-- a pool by its gaps: so many unusable entries, then the entry; so many at the end -/
def gap : Nat → List CpInfo → List CpInfo
  | 0, r => r
  | n + 1, r => .unusable :: gap n r
def poolList (es : List (Nat × CpInfo)) (last : Nat) : List CpInfo := es.foldr (fun e r => gap e.1 (e.2 :: r)) (gap last [])
def pool (es : List (Nat × CpInfo)) (last : Nat) : Array CpInfo := ⟨poolList es last⟩
def fileOf (pool : Array CpInfo) (this : Nat) (attrs : Array Attribute := #[]) (ms : Array MethodInfo := #[]) (fl : Nat := 33) (sup : Nat := 0) (ifs : Array Nat := #[]) (fds : Array FieldInfo := #[]) : ClassFile where
  minorVersion := 0
  majorVersion := 65
  constantPool := pool
  accessFlags := fl
  thisClass := this
  superClass := sup
  interfaces := ifs
  fields := fds
  methods := ms
  attributes := attrs
def plain (name : String) (sup : Option ClassId) : Class where
  name := name
  kind := .ordinary
  loader := none
  accessFlags := 33
  super := sup
  interfaces := #[]
  cf := none
  fields := #[]
  methods := #[]
  instanceTypes := #[]
  staticTypes := #[]
  resolved := #[]
  callSites := []
  init := .initialized
  statics := none
  mirror := none

def pool0 : Array CpInfo := pool [(5, u "<init>"), (0, u "()V"), (1, .class_ 10), (1, u "java/lang/Object"), (81, u "equals"), (0, u "(Ljava/lang/Object;)Z")] 30

def k0c0 : Code := { maxStack := 0, maxLocals := 1, code := object_method_1_code, exceptionTable := #[], attributes := #[] }
def k0m0 : Method := { name := "<init>", desc := "()V", sig := { parameters := [], returnType := none }, accessFlags := 1, code := some k0c0 }
def k0c1 : Code := { maxStack := 2, maxLocals := 2, code := object_method_4_code, exceptionTable := #[], attributes := #[] }
def k0m1 : Method := { name := "equals", desc := "(Ljava/lang/Object;)Z", sig := { parameters := [(.object "java/lang/Object")], returnType := some .boolean }, accessFlags := 1, code := some k0c1 }
/-- java/lang/Object -/
def k0 : Class := { plain "java/lang/Object" none with
  accessFlags := 33
  interfaces := #[]
  cf := some (fileOf pool0 8 #[] #[{ accessFlags := 1, nameIndex := 5, descriptorIndex := 6, attributes := #[] }, { accessFlags := 1, nameIndex := 92, descriptorIndex := 93, attributes := #[] }] 33 0 #[] #[])
  fields := #[]
  methods := #[k0m0, k0m1]
  instanceTypes := #[]
  staticTypes := #[]
  resolved := Array.replicate 124 none
  statics := none }

def pool1 : Array CpInfo := pool [(2, .class_ 4), (1, u "java/lang/Object"), (0, u "<init>"), (0, u "()V"), (0, .class_ 8), (0, u "com/example/partition_handoff/partitionhandoff/DeliveryWindow"), (0, .methodref 7 10), (0, .nameAndType 5 11), (0, u "(I)V"), (0, .class_ 13), (0, u "com/example/partition_handoff/partitionhandoff/DeliveryWindow$Delivery"), (0, .methodref 12 15), (0, .nameAndType 5 16), (0, u "(J)V"), (0, .methodref 7 18), (0, .nameAndType 19 20), (0, u "deliver"), (0, u "(Lcom/example/partition_handoff/partitionhandoff/DeliveryWindow$Delivery;)V"), (0, .methodref 7 22), (0, .nameAndType 23 24), (0, u "acknowledge"), (0, u "(Lcom/example/partition_handoff/partitionhandoff/DeliveryWindow$Delivery;)Z"), (0, .methodref 7 26), (0, .nameAndType 27 20), (0, u "takeBack"), (0, .methodref 12 29), (0, .nameAndType 30 31), (0, u "reuseFor"), (0, u "(J)Lcom/example/partition_handoff/partitionhandoff/DeliveryWindow$Delivery;"), (0, .methodref 12 33), (0, .nameAndType 34 35), (0, u "isAcknowledged"), (0, u "()Z"), (0, .methodref 7 37), (0, .nameAndType 38 39), (0, u "lastHandled"), (0, u "()J"), (0, .methodref 7 41), (0, .nameAndType 42 39), (0, u "handled"), (0, .methodref 7 44), (0, .nameAndType 45 46), (0, u "unacknowledged"), (0, u "()I"), (0, .class_ 48), (0, u "com/example/partition_handoff/partitionhandoff/DeliveryReuseForPinLaw"), (2, u "law"), (0, u "(JJI)Z")] 5

def k1m0 : Method := { name := "<init>", desc := "()V", sig := { parameters := [], returnType := none }, accessFlags := 1, code := none }
def k1c1 : Code := { maxStack := 6, maxLocals := 18, code := code, exceptionTable := #[], attributes := #[] }
def k1m1 : Method := { name := "law", desc := "(JJI)Z", sig := { parameters := [.long, .long, .int], returnType := some .boolean }, accessFlags := 9, code := some k1c1 }
/-- com/example/partition_handoff/partitionhandoff/DeliveryReuseForPinLaw -/
def k1 : Class := { plain "com/example/partition_handoff/partitionhandoff/DeliveryReuseForPinLaw" (some 0) with
  accessFlags := 49
  interfaces := #[]
  cf := some (fileOf pool1 47 #[] #[{ accessFlags := 1, nameIndex := 5, descriptorIndex := 6, attributes := #[] }, { accessFlags := 9, nameIndex := 51, descriptorIndex := 52, attributes := #[] }] 49 2 #[] #[])
  fields := #[]
  methods := #[k1m0, k1m1]
  instanceTypes := #[]
  staticTypes := #[]
  resolved := Array.replicate 58 none
  statics := none }

def pool2 : Array CpInfo := pool [(1, .methodref 2 3), (0, .class_ 4), (0, .nameAndType 5 6), (0, u "java/lang/Object"), (0, u "<init>"), (0, u "()V"), (0, .class_ 8), (0, u "java/util/ArrayDeque"), (0, .methodref 7 3), (0, .fieldref 11 12), (0, .class_ 13), (0, .nameAndType 14 15), (0, u "com/example/partition_handoff/partitionhandoff/DeliveryWindow"), (0, u "delivered"), (0, u "Ljava/util/Deque;"), (0, .fieldref 11 17), (0, .nameAndType 18 19), (0, u "limit"), (0, u "I"), (0, .fieldref 11 21), (0, .nameAndType 22 23), (0, u "lastHandledPosition"), (0, u "J"), (0, .fieldref 11 25), (0, .nameAndType 26 27), (0, u "hasLastHandled"), (0, u "Z"), (0, .fieldref 11 29), (0, .nameAndType 30 23), (0, u "handled"), (0, .interfaceMethodref 32 33), (0, .class_ 34), (0, .nameAndType 35 36), (0, u "java/util/Deque"), (0, u "isEmpty"), (0, u "()Z"), (3, u "()Ljava/lang/Object;"), (0, .class_ 42), (0, u "com/example/partition_handoff/partitionhandoff/DeliveryWindow$Delivery"), (0, .fieldref 41 44), (0, .nameAndType 45 23), (0, u "position"), (19, u "()I"), (0, .fieldref 11 67), (0, .nameAndType 68 19), (0, u "unacknowledged"), (0, .interfaceMethodref 32 70), (0, .nameAndType 71 72), (0, u "addLast"), (0, u "(Ljava/lang/Object;)V"), (0, .methodref 41 74), (0, .nameAndType 75 36), (0, u "isUnacknowledged"), (0, .fieldref 41 77), (0, .nameAndType 78 27), (0, u "acknowledged"), (0, .interfaceMethodref 32 80), (0, .nameAndType 81 40), (0, u "getFirst"), (0, .interfaceMethodref 32 83), (0, .nameAndType 84 40), (0, u "removeFirst"), (0, .fieldref 41 86), (0, .nameAndType 87 27), (0, u "takenBack"), (0, .interfaceMethodref 32 89), (0, .nameAndType 90 91), (0, u "removeLastOccurrence"), (0, u "(Ljava/lang/Object;)Z"), (2, u "(I)V"), (4, u "()J"), (0, u "lastHandled"), (3, u "deliver"), (0, u "(Lcom/example/partition_handoff/partitionhandoff/DeliveryWindow$Delivery;)V"), (0, u "acknowledge"), (0, u "(Lcom/example/partition_handoff/partitionhandoff/DeliveryWindow$Delivery;)Z"), (0, u "takeBack")] 5

def k2c0 : Code := { maxStack := 3, maxLocals := 2, code := prog_8_method_1_code, exceptionTable := #[], attributes := #[] }
def k2m0 : Method := { name := "<init>", desc := "(I)V", sig := { parameters := [.int], returnType := none }, accessFlags := 0, code := some k2c0 }
def k2c1 : Code := { maxStack := 2, maxLocals := 1, code := prog_8_method_3_code, exceptionTable := #[], attributes := #[] }
def k2m1 : Method := { name := "handled", desc := "()J", sig := { parameters := [], returnType := some .long }, accessFlags := 0, code := some k2c1 }
def k2c2 : Code := { maxStack := 2, maxLocals := 1, code := prog_8_method_4_code, exceptionTable := #[], attributes := #[] }
def k2m2 : Method := { name := "lastHandled", desc := "()J", sig := { parameters := [], returnType := some .long }, accessFlags := 0, code := some k2c2 }
def k2c3 : Code := { maxStack := 1, maxLocals := 1, code := prog_8_method_7_code, exceptionTable := #[], attributes := #[] }
def k2m3 : Method := { name := "unacknowledged", desc := "()I", sig := { parameters := [], returnType := some .int }, accessFlags := 0, code := some k2c3 }
def k2c4 : Code := { maxStack := 3, maxLocals := 2, code := prog_8_method_8_code, exceptionTable := #[], attributes := #[] }
def k2m4 : Method := { name := "deliver", desc := "(Lcom/example/partition_handoff/partitionhandoff/DeliveryWindow$Delivery;)V", sig := { parameters := [(.object "com/example/partition_handoff/partitionhandoff/DeliveryWindow$Delivery")], returnType := none }, accessFlags := 0, code := some k2c4 }
def k2c5 : Code := { maxStack := 5, maxLocals := 2, code := prog_8_method_9_code, exceptionTable := #[], attributes := #[] }
def k2m5 : Method := { name := "acknowledge", desc := "(Lcom/example/partition_handoff/partitionhandoff/DeliveryWindow$Delivery;)Z", sig := { parameters := [(.object "com/example/partition_handoff/partitionhandoff/DeliveryWindow$Delivery")], returnType := some .boolean }, accessFlags := 0, code := some k2c5 }
def k2c6 : Code := { maxStack := 3, maxLocals := 2, code := prog_8_method_10_code, exceptionTable := #[], attributes := #[] }
def k2m6 : Method := { name := "takeBack", desc := "(Lcom/example/partition_handoff/partitionhandoff/DeliveryWindow$Delivery;)V", sig := { parameters := [(.object "com/example/partition_handoff/partitionhandoff/DeliveryWindow$Delivery")], returnType := none }, accessFlags := 0, code := some k2c6 }
/-- com/example/partition_handoff/partitionhandoff/DeliveryWindow -/
def k2 : Class := { plain "com/example/partition_handoff/partitionhandoff/DeliveryWindow" (some 0) with
  accessFlags := 48
  interfaces := #[]
  cf := some (fileOf pool2 11 #[.nestMembers #[41]] #[{ accessFlags := 0, nameIndex := 5, descriptorIndex := 94, attributes := #[] }, { accessFlags := 0, nameIndex := 30, descriptorIndex := 99, attributes := #[] }, { accessFlags := 0, nameIndex := 100, descriptorIndex := 99, attributes := #[] }, { accessFlags := 0, nameIndex := 68, descriptorIndex := 65, attributes := #[] }, { accessFlags := 0, nameIndex := 104, descriptorIndex := 105, attributes := #[] }, { accessFlags := 0, nameIndex := 106, descriptorIndex := 107, attributes := #[] }, { accessFlags := 0, nameIndex := 108, descriptorIndex := 105, attributes := #[] }] 48 2 #[] #[{ accessFlags := 18, nameIndex := 18, descriptorIndex := 19, attributes := #[] }, { accessFlags := 2, nameIndex := 22, descriptorIndex := 23, attributes := #[] }, { accessFlags := 2, nameIndex := 26, descriptorIndex := 27, attributes := #[] }, { accessFlags := 2, nameIndex := 30, descriptorIndex := 23, attributes := #[] }, { accessFlags := 18, nameIndex := 14, descriptorIndex := 15, attributes := #[] }, { accessFlags := 2, nameIndex := 68, descriptorIndex := 19, attributes := #[] }])
  fields := #[{ name := "limit", type := .int, accessFlags := 18, slot := 0, constantValue := 0 }, { name := "lastHandledPosition", type := .long, accessFlags := 2, slot := 1, constantValue := 0 }, { name := "hasLastHandled", type := .boolean, accessFlags := 2, slot := 2, constantValue := 0 }, { name := "handled", type := .long, accessFlags := 2, slot := 3, constantValue := 0 }, { name := "delivered", type := (.object "java/util/Deque"), accessFlags := 18, slot := 4, constantValue := 0 }, { name := "unacknowledged", type := .int, accessFlags := 2, slot := 5, constantValue := 0 }]
  methods := #[k2m0, k2m1, k2m2, k2m3, k2m4, k2m5, k2m6]
  instanceTypes := #[.int, .long, .boolean, .long, (.object "java/util/Deque"), .int]
  staticTypes := #[]
  resolved := (((((Array.replicate 114 none).set! 41 (some (.cls 12))).set! 73 (some (.method ⟨12, 3⟩))).set! 76 (some (.field 12 1))).set! 43 (some (.field 12 0))).set! 85 (some (.field 12 2))
  statics := none }

def pool3 : Array CpInfo := pool [(8, .class_ 10), (1, u "java/lang/Iterable"), (24, .class_ 36), (0, u "java/lang/Object")] 25

/-- java/lang/Iterable -/
def k3 : Class := { plain "java/lang/Iterable" (some 0) with
  accessFlags := 1537
  interfaces := #[]
  cf := some (fileOf pool3 8 #[] #[] 1537 35 #[] #[])
  fields := #[]
  methods := #[]
  instanceTypes := #[]
  staticTypes := #[]
  resolved := Array.replicate 62 none
  statics := none }

def pool4 : Array CpInfo := pool [(10, .class_ 12), (1, u "java/util/Collection"), (17, u "()Z"), (29, .class_ 61), (0, u "java/lang/Object"), (0, .class_ 63), (0, u "java/lang/Iterable"), (2, u "isEmpty")] 48

def k4m0 : Method := { name := "isEmpty", desc := "()Z", sig := { parameters := [], returnType := some .boolean }, accessFlags := 1025, code := none }
/-- java/util/Collection -/
def k4 : Class := { plain "java/util/Collection" (some 0) with
  accessFlags := 1537
  interfaces := #[3]
  cf := some (fileOf pool4 10 #[] #[{ accessFlags := 1025, nameIndex := 66, descriptorIndex := 30, attributes := #[] }] 1537 60 #[62] #[])
  fields := #[]
  methods := #[k4m0]
  instanceTypes := #[]
  staticTypes := #[]
  resolved := Array.replicate 115 none
  statics := none }

def pool5 : Array CpInfo := pool [(1, .methodref 2 3), (0, .class_ 4), (0, .nameAndType 5 6), (0, u "java/lang/Object"), (0, u "<init>"), (0, u "()V"), (1, .class_ 10), (1, u "java/util/AbstractCollection"), (66, .class_ 78), (0, u "java/util/Collection")] 81

def k5c0 : Code := { maxStack := 1, maxLocals := 1, code := jdk_22_method_1_code, exceptionTable := #[], attributes := #[] }
def k5m0 : Method := { name := "<init>", desc := "()V", sig := { parameters := [], returnType := none }, accessFlags := 4, code := some k5c0 }
/-- java/util/AbstractCollection -/
def k5 : Class := { plain "java/util/AbstractCollection" (some 0) with
  accessFlags := 1057
  interfaces := #[4]
  cf := some (fileOf pool5 8 #[] #[{ accessFlags := 4, nameIndex := 5, descriptorIndex := 6, attributes := #[] }] 1057 2 #[77] #[])
  fields := #[]
  methods := #[k5m0]
  instanceTypes := #[]
  staticTypes := #[]
  resolved := Array.replicate 160 none
  statics := none }

def pool6 : Array CpInfo := pool [(1, .class_ 2), (0, u "java/util/Queue"), (0, .class_ 4), (0, u "java/lang/Object"), (0, .class_ 6), (0, u "java/util/Collection")] 14

/-- java/util/Queue -/
def k6 : Class := { plain "java/util/Queue" (some 0) with
  accessFlags := 1537
  interfaces := #[4]
  cf := some (fileOf pool6 1 #[] #[] 1537 3 #[5] #[])
  fields := #[]
  methods := #[]
  instanceTypes := #[]
  staticTypes := #[]
  resolved := Array.replicate 21 none
  statics := none }

def pool7 : Array CpInfo := pool [(8, .class_ 10), (1, u "java/util/SequencedCollection"), (15, .class_ 27), (0, u "java/lang/Object"), (0, .class_ 29), (0, u "java/util/Collection")] 27

/-- java/util/SequencedCollection -/
def k7 : Class := { plain "java/util/SequencedCollection" (some 0) with
  accessFlags := 1537
  interfaces := #[4]
  cf := some (fileOf pool7 8 #[] #[] 1537 26 #[28] #[])
  fields := #[]
  methods := #[]
  instanceTypes := #[]
  staticTypes := #[]
  resolved := Array.replicate 57 none
  statics := none }

def pool8 : Array CpInfo := pool [(8, .class_ 10), (1, u "java/util/Deque"), (2, .class_ 14), (0, u "java/lang/Object"), (0, .class_ 16), (0, u "java/util/Queue"), (0, .class_ 18), (0, u "java/util/SequencedCollection"), (1, u "(Ljava/lang/Object;)V"), (2, u "addLast"), (1, u "(Ljava/lang/Object;)Z"), (2, u "removeFirst"), (0, u "()Ljava/lang/Object;"), (4, u "getFirst"), (4, u "removeLastOccurrence")] 30

def k8m0 : Method := { name := "addLast", desc := "(Ljava/lang/Object;)V", sig := { parameters := [(.object "java/lang/Object")], returnType := none }, accessFlags := 1025, code := none }
def k8m1 : Method := { name := "removeFirst", desc := "()Ljava/lang/Object;", sig := { parameters := [], returnType := some (.object "java/lang/Object") }, accessFlags := 1025, code := none }
def k8m2 : Method := { name := "getFirst", desc := "()Ljava/lang/Object;", sig := { parameters := [], returnType := some (.object "java/lang/Object") }, accessFlags := 1025, code := none }
def k8m3 : Method := { name := "removeLastOccurrence", desc := "(Ljava/lang/Object;)Z", sig := { parameters := [(.object "java/lang/Object")], returnType := some .boolean }, accessFlags := 1025, code := none }
/-- java/util/Deque -/
def k8 : Class := { plain "java/util/Deque" (some 0) with
  accessFlags := 1537
  interfaces := #[6, 7]
  cf := some (fileOf pool8 8 #[] #[{ accessFlags := 1025, nameIndex := 23, descriptorIndex := 20, attributes := #[] }, { accessFlags := 1025, nameIndex := 28, descriptorIndex := 29, attributes := #[] }, { accessFlags := 1025, nameIndex := 34, descriptorIndex := 29, attributes := #[] }, { accessFlags := 1025, nameIndex := 39, descriptorIndex := 25, attributes := #[] }] 1537 13 #[15, 17] #[])
  fields := #[]
  methods := #[k8m0, k8m1, k8m2, k8m3]
  instanceTypes := #[]
  staticTypes := #[]
  resolved := Array.replicate 70 none
  statics := none }

def pool9 : Array CpInfo := pool [(1, .class_ 2), (0, u "java/lang/Cloneable"), (0, .class_ 4), (0, u "java/lang/Object")] 2

/-- java/lang/Cloneable -/
def k9 : Class := { plain "java/lang/Cloneable" (some 0) with
  accessFlags := 1537
  interfaces := #[]
  cf := some (fileOf pool9 1 #[] #[] 1537 3 #[] #[])
  fields := #[]
  methods := #[]
  instanceTypes := #[]
  staticTypes := #[]
  resolved := Array.replicate 7 none
  statics := none }

def pool10 : Array CpInfo := pool [(1, .class_ 2), (0, u "java/io/Serializable"), (0, .class_ 4), (0, u "java/lang/Object")] 2

/-- java/io/Serializable -/
def k10 : Class := { plain "java/io/Serializable" (some 0) with
  accessFlags := 1537
  interfaces := #[]
  cf := some (fileOf pool10 1 #[] #[] 1537 3 #[] #[])
  fields := #[]
  methods := #[]
  instanceTypes := #[]
  staticTypes := #[]
  resolved := Array.replicate 7 none
  statics := none }

def pool11 : Array CpInfo := pool [(3, .fieldref 4 5), (0, .class_ 6), (0, .nameAndType 7 8), (0, u "java/util/ArrayDeque"), (0, u "elements"), (0, u "[Ljava/lang/Object;"), (4, u "(II)I"), (6, .fieldref 4 21), (0, .nameAndType 22 23), (0, u "tail"), (0, u "I"), (0, .fieldref 4 25), (0, .nameAndType 26 23), (0, u "head"), (0, .methodref 28 29), (0, .class_ 30), (0, .nameAndType 31 32), (0, u "java/lang/System"), (0, u "arraycopy"), (0, u "(Ljava/lang/Object;ILjava/lang/Object;II)V"), (6, u "<init>"), (2, .methodref 43 44), (0, .class_ 45), (0, .nameAndType 39 46), (0, u "java/util/AbstractCollection"), (0, u "()V"), (0, .class_ 48), (0, u "java/lang/Object"), (19, .methodref 4 69), (0, .nameAndType 70 13), (0, u "dec"), (3, .methodref 4 75), (0, .nameAndType 76 13), (0, u "inc"), (12, u "(Ljava/lang/Object;)V"), (2, u "addLast"), (0, .methodref 4 94), (0, .nameAndType 95 96), (0, u "pollFirst"), (0, u "()Ljava/lang/Object;"), (6, .methodref 4 104), (0, .nameAndType 105 106), (0, u "elementAt"), (0, u "([Ljava/lang/Object;I)Ljava/lang/Object;"), (0, .methodref 47 108), (0, .nameAndType 109 110), (0, u "equals"), (0, u "(Ljava/lang/Object;)Z"), (0, .methodref 4 112), (0, .nameAndType 113 114), (0, u "delete"), (0, u "(I)Z"), (5, u "removeFirst"), (2, u "getFirst"), (3, .methodref 4 128), (0, .nameAndType 129 130), (0, u "sub"), (0, u "(III)I"), (0, .class_ 132), (0, u "java/util/ArrayDeque$DeqIterator"), (3, .class_ 137), (0, u "java/util/ArrayDeque$DescendingIterator"), (1, .class_ 140), (0, u "java/util/ArrayDeque$DeqSpliterator"), (137, .class_ 279), (0, u "java/util/Deque"), (0, .class_ 281), (0, u "java/lang/Cloneable"), (0, .class_ 283), (0, u "java/io/Serializable"), (0, u "MAX_ARRAY_SIZE"), (1, u "serialVersionUID"), (0, u "J"), (47, u "removeLastOccurrence"), (11, u "isEmpty"), (0, u "()Z")] 89

def k11c0 : Code := { maxStack := 2, maxLocals := 1, code := jdk_21_method_3_code, exceptionTable := #[], attributes := #[] }
def k11m0 : Method := { name := "<init>", desc := "()V", sig := { parameters := [], returnType := none }, accessFlags := 1, code := some k11c0 }
def k11c1 : Code := { maxStack := 2, maxLocals := 2, code := jdk_21_method_6_code, exceptionTable := #[], attributes := #[] }
def k11m1 : Method := { name := "inc", desc := "(II)I", sig := { parameters := [.int, .int], returnType := some .int }, accessFlags := 24, code := some k11c1 }
def k11c2 : Code := { maxStack := 2, maxLocals := 2, code := jdk_21_method_7_code, exceptionTable := #[], attributes := #[] }
def k11m2 : Method := { name := "dec", desc := "(II)I", sig := { parameters := [.int, .int], returnType := some .int }, accessFlags := 24, code := some k11c2 }
def k11c3 : Code := { maxStack := 2, maxLocals := 3, code := jdk_21_method_9_code, exceptionTable := #[], attributes := #[] }
def k11m3 : Method := { name := "sub", desc := "(III)I", sig := { parameters := [.int, .int, .int], returnType := some .int }, accessFlags := 24, code := some k11c3 }
def k11c4 : Code := { maxStack := 2, maxLocals := 2, code := jdk_21_method_10_code, exceptionTable := #[], attributes := #[] }
def k11m4 : Method := { name := "elementAt", desc := "([Ljava/lang/Object;I)Ljava/lang/Object;", sig := { parameters := [(.array (.object "java/lang/Object")), .int], returnType := some (.object "java/lang/Object") }, accessFlags := 24, code := some k11c4 }
def k11c5 : Code := { maxStack := 4, maxLocals := 3, code := jdk_21_method_13_code, exceptionTable := #[], attributes := #[] }
def k11m5 : Method := { name := "addLast", desc := "(Ljava/lang/Object;)V", sig := { parameters := [(.object "java/lang/Object")], returnType := none }, accessFlags := 1, code := some k11c5 }
def k11c6 : Code := { maxStack := 2, maxLocals := 2, code := jdk_21_method_18_code, exceptionTable := #[], attributes := #[] }
def k11m6 : Method := { name := "removeFirst", desc := "()Ljava/lang/Object;", sig := { parameters := [], returnType := some (.object "java/lang/Object") }, accessFlags := 1, code := some k11c6 }
def k11c7 : Code := { maxStack := 3, maxLocals := 4, code := jdk_21_method_20_code, exceptionTable := #[], attributes := #[] }
def k11m7 : Method := { name := "pollFirst", desc := "()Ljava/lang/Object;", sig := { parameters := [], returnType := some (.object "java/lang/Object") }, accessFlags := 1, code := some k11c7 }
def k11c8 : Code := { maxStack := 2, maxLocals := 2, code := jdk_21_method_22_code, exceptionTable := #[], attributes := #[] }
def k11m8 : Method := { name := "getFirst", desc := "()Ljava/lang/Object;", sig := { parameters := [], returnType := some (.object "java/lang/Object") }, accessFlags := 1, code := some k11c8 }
def k11c9 : Code := { maxStack := 3, maxLocals := 6, code := jdk_21_method_27_code, exceptionTable := #[], attributes := #[] }
def k11m9 : Method := { name := "removeLastOccurrence", desc := "(Ljava/lang/Object;)Z", sig := { parameters := [(.object "java/lang/Object")], returnType := some .boolean }, accessFlags := 1, code := some k11c9 }
def k11c10 : Code := { maxStack := 7, maxLocals := 8, code := jdk_21_method_36_code, exceptionTable := #[], attributes := #[] }
def k11m10 : Method := { name := "delete", desc := "(I)Z", sig := { parameters := [.int], returnType := some .boolean }, accessFlags := 0, code := some k11c10 }
def k11c11 : Code := { maxStack := 2, maxLocals := 1, code := jdk_21_method_38_code, exceptionTable := #[], attributes := #[] }
def k11m11 : Method := { name := "isEmpty", desc := "()Z", sig := { parameters := [], returnType := some .boolean }, accessFlags := 1, code := some k11c11 }
/-- java/util/ArrayDeque -/
def k11 : Class := { plain "java/util/ArrayDeque" (some 5) with
  accessFlags := 33
  interfaces := #[8, 9, 10]
  cf := some (fileOf pool11 4 #[.nestMembers #[139, 136, 131]] #[{ accessFlags := 1, nameIndex := 39, descriptorIndex := 46, attributes := #[] }, { accessFlags := 24, nameIndex := 76, descriptorIndex := 13, attributes := #[] }, { accessFlags := 24, nameIndex := 70, descriptorIndex := 13, attributes := #[] }, { accessFlags := 24, nameIndex := 129, descriptorIndex := 130, attributes := #[] }, { accessFlags := 24, nameIndex := 105, descriptorIndex := 106, attributes := #[] }, { accessFlags := 1, nameIndex := 92, descriptorIndex := 89, attributes := #[] }, { accessFlags := 1, nameIndex := 120, descriptorIndex := 96, attributes := #[] }, { accessFlags := 1, nameIndex := 95, descriptorIndex := 96, attributes := #[] }, { accessFlags := 1, nameIndex := 123, descriptorIndex := 96, attributes := #[] }, { accessFlags := 1, nameIndex := 335, descriptorIndex := 110, attributes := #[] }, { accessFlags := 0, nameIndex := 113, descriptorIndex := 114, attributes := #[] }, { accessFlags := 1, nameIndex := 347, descriptorIndex := 348, attributes := #[] }] 33 43 #[278, 280, 282] #[{ accessFlags := 128, nameIndex := 7, descriptorIndex := 8, attributes := #[] }, { accessFlags := 128, nameIndex := 26, descriptorIndex := 23, attributes := #[] }, { accessFlags := 128, nameIndex := 22, descriptorIndex := 23, attributes := #[] }, { accessFlags := 26, nameIndex := 284, descriptorIndex := 23, attributes := #[] }, { accessFlags := 26, nameIndex := 286, descriptorIndex := 287, attributes := #[] }])
  fields := #[{ name := "elements", type := (.array (.object "java/lang/Object")), accessFlags := 128, slot := 0, constantValue := 0 }, { name := "head", type := .int, accessFlags := 128, slot := 1, constantValue := 0 }, { name := "tail", type := .int, accessFlags := 128, slot := 2, constantValue := 0 }, { name := "MAX_ARRAY_SIZE", type := .int, accessFlags := 26, slot := 0, constantValue := 0 }, { name := "serialVersionUID", type := .long, accessFlags := 26, slot := 1, constantValue := 0 }]
  methods := #[k11m0, k11m1, k11m2, k11m3, k11m4, k11m5, k11m6, k11m7, k11m8, k11m9, k11m10, k11m11]
  instanceTypes := #[(.array (.object "java/lang/Object")), .int, .int]
  staticTypes := #[.int, .long]
  resolved := Array.replicate 438 none
  statics := none }

def pool12 : Array CpInfo := pool [(1, .methodref 2 3), (0, .class_ 4), (0, .nameAndType 5 6), (0, u "java/lang/Object"), (0, u "<init>"), (0, u "()V"), (0, .fieldref 8 9), (0, .class_ 10), (0, .nameAndType 11 12), (0, u "com/example/partition_handoff/partitionhandoff/DeliveryWindow$Delivery"), (0, u "position"), (0, u "J"), (0, .fieldref 8 14), (0, .nameAndType 15 16), (0, u "acknowledged"), (0, u "Z"), (0, .fieldref 8 18), (0, .nameAndType 19 16), (0, u "takenBack"), (0, u "(J)V"), (2, u "reuseFor"), (0, u "(J)Lcom/example/partition_handoff/partitionhandoff/DeliveryWindow$Delivery;"), (0, u "isAcknowledged"), (0, u "()Z"), (0, u "isUnacknowledged"), (4, .class_ 33), (0, u "com/example/partition_handoff/partitionhandoff/DeliveryWindow")] 2

def k12c0 : Code := { maxStack := 3, maxLocals := 3, code := prog_9_method_1_code, exceptionTable := #[], attributes := #[] }
def k12m0 : Method := { name := "<init>", desc := "(J)V", sig := { parameters := [.long], returnType := none }, accessFlags := 0, code := some k12c0 }
def k12c1 : Code := { maxStack := 3, maxLocals := 3, code := prog_9_method_2_code, exceptionTable := #[], attributes := #[] }
def k12m1 : Method := { name := "reuseFor", desc := "(J)Lcom/example/partition_handoff/partitionhandoff/DeliveryWindow$Delivery;", sig := { parameters := [.long], returnType := some (.object "com/example/partition_handoff/partitionhandoff/DeliveryWindow$Delivery") }, accessFlags := 0, code := some k12c1 }
def k12c2 : Code := { maxStack := 1, maxLocals := 1, code := prog_9_method_3_code, exceptionTable := #[], attributes := #[] }
def k12m2 : Method := { name := "isAcknowledged", desc := "()Z", sig := { parameters := [], returnType := some .boolean }, accessFlags := 0, code := some k12c2 }
def k12c3 : Code := { maxStack := 1, maxLocals := 1, code := prog_9_method_4_code, exceptionTable := #[], attributes := #[] }
def k12m3 : Method := { name := "isUnacknowledged", desc := "()Z", sig := { parameters := [], returnType := some .boolean }, accessFlags := 2, code := some k12c3 }
/-- com/example/partition_handoff/partitionhandoff/DeliveryWindow$Delivery -/
def k12 : Class := { plain "com/example/partition_handoff/partitionhandoff/DeliveryWindow$Delivery" (some 0) with
  accessFlags := 48
  interfaces := #[]
  cf := some (fileOf pool12 8 #[.nestHost 32] #[{ accessFlags := 0, nameIndex := 5, descriptorIndex := 20, attributes := #[] }, { accessFlags := 0, nameIndex := 23, descriptorIndex := 24, attributes := #[] }, { accessFlags := 0, nameIndex := 25, descriptorIndex := 26, attributes := #[] }, { accessFlags := 2, nameIndex := 27, descriptorIndex := 26, attributes := #[] }] 48 2 #[] #[{ accessFlags := 2, nameIndex := 11, descriptorIndex := 12, attributes := #[] }, { accessFlags := 2, nameIndex := 15, descriptorIndex := 16, attributes := #[] }, { accessFlags := 2, nameIndex := 19, descriptorIndex := 16, attributes := #[] }])
  fields := #[{ name := "position", type := .long, accessFlags := 2, slot := 0, constantValue := 0 }, { name := "acknowledged", type := .boolean, accessFlags := 2, slot := 1, constantValue := 0 }, { name := "takenBack", type := .boolean, accessFlags := 2, slot := 2, constantValue := 0 }]
  methods := #[k12m0, k12m1, k12m2, k12m3]
  instanceTypes := #[.long, .boolean, .boolean]
  staticTypes := #[]
  resolved := Array.replicate 36 none
  statics := none }

def pool13 : Array CpInfo := pool [(2, .class_ 4), (1, u "java/lang/Object"), (0, u "<init>"), (0, u "()V"), (1, .class_ 10), (1, u "java/lang/System"), (0, u "allowSecurityManager"), (0, u "I"), (16, u "cons"), (0, u "Ljava/io/Console;"), (77, .class_ 110), (1, u "java/lang/System$CallersHolder"), (43, u "initialErrStream"), (0, u "Ljava/io/PrintStream;"), (19, u "security"), (0, u "Ljava/lang/SecurityManager;"), (31, .class_ 209), (0, u "java/lang/System$1"), (7, u "props"), (0, u "Ljava/util/Properties;"), (2, u "lineSeparator"), (0, u "Ljava/lang/String;"), (96, .class_ 321), (1, u "java/lang/System$LoggerFinder"), (5, .class_ 328), (0, u "java/lang/System$Logger"), (67, u "err"), (2, u "out"), (91, u "notSupportedJnuEncoding"), (15, u "in"), (17, u "initialIn"), (0, u "Ljava/io/InputStream;"), (35, u "bootLayer"), (0, u "Ljava/lang/ModuleLayer;"), (99, .class_ 664), (0, u "java/lang/System$2"), (9, u "NEVER"), (2, u "MAYBE"), (49, u "arraycopy"), (0, u "(Ljava/lang/Object;ILjava/lang/Object;II)V"), (72, .class_ 802), (0, u "java/lang/System$Logger$Level")] 31

def k13m0 : Method := { name := "<init>", desc := "()V", sig := { parameters := [], returnType := none }, accessFlags := 2, code := none }
def k13m1 : Method := { name := "arraycopy", desc := "(Ljava/lang/Object;ILjava/lang/Object;II)V", sig := { parameters := [(.object "java/lang/Object"), .int, (.object "java/lang/Object"), .int, .int], returnType := none }, accessFlags := 265, code := none }
/-- java/lang/System -/
def k13 : Class := { plain "java/lang/System" (some 0) with
  accessFlags := 49
  interfaces := #[]
  cf := some (fileOf pool13 8 #[.nestMembers #[319, 327, 801, 108, 663, 208]] #[{ accessFlags := 2, nameIndex := 5, descriptorIndex := 6, attributes := #[] }, { accessFlags := 265, nameIndex := 727, descriptorIndex := 728, attributes := #[] }] 49 2 #[] #[{ accessFlags := 25, nameIndex := 507, descriptorIndex := 526, attributes := #[] }, { accessFlags := 25, nameIndex := 399, descriptorIndex := 155, attributes := #[] }, { accessFlags := 25, nameIndex := 396, descriptorIndex := 155, attributes := #[] }, { accessFlags := 10, nameIndex := 525, descriptorIndex := 526, attributes := #[] }, { accessFlags := 26, nameIndex := 674, descriptorIndex := 12, attributes := #[] }, { accessFlags := 26, nameIndex := 677, descriptorIndex := 12, attributes := #[] }, { accessFlags := 10, nameIndex := 11, descriptorIndex := 12, attributes := #[] }, { accessFlags := 74, nameIndex := 175, descriptorIndex := 176, attributes := #[] }, { accessFlags := 10, nameIndex := 491, descriptorIndex := 222, attributes := #[] }, { accessFlags := 74, nameIndex := 29, descriptorIndex := 30, attributes := #[] }, { accessFlags := 74, nameIndex := 154, descriptorIndex := 155, attributes := #[] }, { accessFlags := 10, nameIndex := 217, descriptorIndex := 218, attributes := #[] }, { accessFlags := 10, nameIndex := 221, descriptorIndex := 222, attributes := #[] }, { accessFlags := 8, nameIndex := 562, descriptorIndex := 563, attributes := #[] }])
  fields := #[{ name := "in", type := (.object "java/io/InputStream"), accessFlags := 25, slot := 0, constantValue := 0 }, { name := "out", type := (.object "java/io/PrintStream"), accessFlags := 25, slot := 1, constantValue := 0 }, { name := "err", type := (.object "java/io/PrintStream"), accessFlags := 25, slot := 2, constantValue := 0 }, { name := "initialIn", type := (.object "java/io/InputStream"), accessFlags := 10, slot := 3, constantValue := 0 }, { name := "NEVER", type := .int, accessFlags := 26, slot := 4, constantValue := 0 }, { name := "MAYBE", type := .int, accessFlags := 26, slot := 5, constantValue := 0 }, { name := "allowSecurityManager", type := .int, accessFlags := 10, slot := 6, constantValue := 0 }, { name := "security", type := (.object "java/lang/SecurityManager"), accessFlags := 74, slot := 7, constantValue := 0 }, { name := "notSupportedJnuEncoding", type := (.object "java/lang/String"), accessFlags := 10, slot := 8, constantValue := 0 }, { name := "cons", type := (.object "java/io/Console"), accessFlags := 74, slot := 9, constantValue := 0 }, { name := "initialErrStream", type := (.object "java/io/PrintStream"), accessFlags := 74, slot := 10, constantValue := 0 }, { name := "props", type := (.object "java/util/Properties"), accessFlags := 10, slot := 11, constantValue := 0 }, { name := "lineSeparator", type := (.object "java/lang/String"), accessFlags := 10, slot := 12, constantValue := 0 }, { name := "bootLayer", type := (.object "java/lang/ModuleLayer"), accessFlags := 8, slot := 13, constantValue := 0 }]
  methods := #[k13m0, k13m1]
  instanceTypes := #[]
  staticTypes := #[(.object "java/io/InputStream"), (.object "java/io/PrintStream"), (.object "java/io/PrintStream"), (.object "java/io/InputStream"), .int, .int, .int, (.object "java/lang/SecurityManager"), (.object "java/lang/String"), (.object "java/io/Console"), (.object "java/io/PrintStream"), (.object "java/util/Properties"), (.object "java/lang/String"), (.object "java/lang/ModuleLayer")]
  resolved := Array.replicate 834 none
  statics := none }

/-- the primitive byte -/
def k14 : Class := { plain "byte" none with kind := .primitive 'B', accessFlags := 0x411 }
/-- [B -/
def k15 : Class := { plain "[B" (some 0) with kind := .array 14 .byte, interfaces := #[9, 10], accessFlags := 1041 }

/-- the primitive int -/
def k16 : Class := { plain "int" none with kind := .primitive 'I', accessFlags := 0x411 }
/-- [I -/
def k17 : Class := { plain "[I" (some 0) with kind := .array 16 .int, interfaces := #[9, 10], accessFlags := 1041 }

/-- [Ljava/lang/Object; -/
def k18 : Class := { plain "[Ljava/lang/Object;" (some 0) with kind := .array 0 (.object "java/lang/Object"), interfaces := #[9, 10], accessFlags := 1041 }

def heap : Heap := #[]
def classes : Array Class := #[k0, k1, k2, k3, k4, k5, k6, k7, k8, k9, k10, k11, k12, k13, k14, k15, k16, k17, k18]
def interned : List (Array UInt16 × Addr) := []
def slotsUsed : Nat := 0
def theMethod : MethodId := ⟨1, 1⟩
def args0 : Array Value := #[.long 5, .long 7, .int 1]
def aboutOver (below : List Frame) : State where
  vm := { classes := classes, interned := interned.toArray }
  heap := heap
  slotsUsed := slotsUsed
  threads := #[{ frames := .invoking theMethod args0 :: below }]
def below0 : List Frame := [.native { method := ⟨0, 0⟩, args := #[] }]
def about1 : State := aboutOver below0
def p0 : Program := .bare "" "" ""
def e0 : Env := launch0.env 0 0 0
theorem w_frames : about1.frames = Frame.invoking theMethod args0 :: below0 := rfl
set_option maxRecDepth 65536 in
theorem w_args : argsFit about1.vm theMethod args0 = true := by decide +kernel
set_option maxRecDepth 65536 in
theorem w_heap : heapFits about1 = true := by decide +kernel
set_option maxRecDepth 65536 in
theorem w_runnable : about1.curStatus? = some .runnable := by decide +kernel
set_option maxRecDepth 65536 in
theorem w_alone : about1.alone = true := by decide +kernel
set_option maxRecDepth 65536 in
theorem w_named : about1.methodNamed? x = some theMethod := by decide +kernel
set_option maxRecDepth 65536 in
theorem w_hears : about1.hears theMethod below0 = true := by decide +kernel
set_option maxRecDepth 65536 in
theorem w_ripe : about1.ripe theMethod args0 below0 = true := by decide +kernel
theorem w_running : about1.status = .running := rfl
set_option maxRecDepth 65536 in
theorem w_room : about1.hasRoom e0.platform room_1 = true :=
  launch0.hasRoom_least _ room_1 (by decide +kernel) (by decide +kernel) (by decide +kernel) (by decide +kernel) (by decide +kernel) (by decide +kernel)
theorem allAtoms_all (ts : List Jvm.Cond) (a : Array Jvm.Value) (st : Jvm.State) : (allAtoms ts).before a st = ts.all (fun c => c.before a st) := by
  induction ts with
  | nil => rfl
  | cons c t ih =>
    show (Jvm.Cond.and c (allAtoms t)).before a st = _
    rw [Jvm.Cond.before_and, ih, List.all_cons]
def words1 : List Jvm.Cond := Jvm.Cond.code x code maxLocals ret :: tables_1
/-- a 'code' word, met by the world's own term for the bytes: nothing is compared byte by byte -/
theorem code_word {y : MethodName} {bytes : ByteArray} {mx : Nat} {rt : Option FieldType} {a : Array Value} {s : State} {m : MethodId} {meth : Method} {c : Code} (h1 : s.methodNamed? y = some m) (h2 : s.vm.method? m = some meth) (h3 : meth.code = some c) (h4 : c.code = bytes)
    (h5 : (c.maxLocals == mx && c.exceptionTable.isEmpty && decide (c.maxStack ≤ mostOperands) && decide (meth.sig.returnType = rt) && !meth.locks && decide (parseMethodDescriptor y.desc = some meth.sig)) = true) : (Jvm.Cond.code y bytes mx rt).before a s = true := by
  simp only [Bool.and_eq_true, beq_iff_eq, Bool.not_eq_true', decide_eq_true_eq] at h5
  obtain ⟨⟨⟨⟨⟨g1, g2⟩, g3⟩, g4⟩, g5⟩, g6⟩ := h5
  simp [Cond.before, Cond.holds, Cond.value, h1, h2, h3, h4, g1, g2, g3, g4, g5, g6]
def isCode : Jvm.Cond → Bool
  | .code _ _ _ _ => true
  | _ => false
theorem all_split {L : List Jvm.Cond} {P : Jvm.Cond → Bool} (h1 : L.all (fun c => isCode c || P c) = true) (h2 : ∀ c ∈ L.filter isCode, P c = true) : L.all P = true := by
  refine List.all_eq_true.mpr fun c hc => ?_
  have h := List.all_eq_true.mp h1 c hc
  rcases Bool.eq_false_or_eq_true (isCode c) with hi | hi
  · exact h2 c (List.mem_filter.mpr ⟨hc, hi⟩)
  · simpa [hi] using h
set_option maxRecDepth 65536 in
theorem w_c0 : (Jvm.Cond.code x code maxLocals ret).before args0 about1 = true := code_word (m := ⟨1, 1⟩) (meth := k1m1) (c := k1c1) (by decide +kernel) rfl rfl rfl (by decide +kernel)
set_option maxRecDepth 65536 in
theorem w_c1 : (Jvm.Cond.code ({ cls := "com/example/partition_handoff/partitionhandoff/DeliveryWindow", name := "<init>", desc := "(I)V" } : Jvm.MethodName) prog_8_method_1_code (2 : Nat) (Option.none : Option Jvm.ClassFile.FieldType)).before args0 about1 = true := code_word (m := ⟨2, 0⟩) (meth := k2m0) (c := k2c0) (by decide +kernel) rfl rfl rfl (by decide +kernel)
set_option maxRecDepth 65536 in
theorem w_c2 : (Jvm.Cond.code ({ cls := "java/lang/Object", name := "<init>", desc := "()V" } : Jvm.MethodName) object_method_1_code (1 : Nat) (Option.none : Option Jvm.ClassFile.FieldType)).before args0 about1 = true := code_word (m := ⟨0, 0⟩) (meth := k0m0) (c := k0c0) (by decide +kernel) rfl rfl rfl (by decide +kernel)
set_option maxRecDepth 65536 in
theorem w_c3 : (Jvm.Cond.code ({ cls := "java/util/ArrayDeque", name := "<init>", desc := "()V" } : Jvm.MethodName) jdk_21_method_3_code (1 : Nat) (Option.none : Option Jvm.ClassFile.FieldType)).before args0 about1 = true := code_word (m := ⟨11, 0⟩) (meth := k11m0) (c := k11c0) (by decide +kernel) rfl rfl rfl (by decide +kernel)
set_option maxRecDepth 65536 in
theorem w_c4 : (Jvm.Cond.code ({ cls := "java/util/AbstractCollection", name := "<init>", desc := "()V" } : Jvm.MethodName) jdk_22_method_1_code (1 : Nat) (Option.none : Option Jvm.ClassFile.FieldType)).before args0 about1 = true := code_word (m := ⟨5, 0⟩) (meth := k5m0) (c := k5c0) (by decide +kernel) rfl rfl rfl (by decide +kernel)
set_option maxRecDepth 65536 in
theorem w_c5 : (Jvm.Cond.code ({ cls := "com/example/partition_handoff/partitionhandoff/DeliveryWindow$Delivery", name := "<init>", desc := "(J)V" } : Jvm.MethodName) prog_9_method_1_code (3 : Nat) (Option.none : Option Jvm.ClassFile.FieldType)).before args0 about1 = true := code_word (m := ⟨12, 0⟩) (meth := k12m0) (c := k12c0) (by decide +kernel) rfl rfl rfl (by decide +kernel)
set_option maxRecDepth 65536 in
theorem w_c6 : (Jvm.Cond.code ({ cls := "com/example/partition_handoff/partitionhandoff/DeliveryWindow$Delivery", name := "reuseFor", desc := "(J)Lcom/example/partition_handoff/partitionhandoff/DeliveryWindow$Delivery;" } : Jvm.MethodName) prog_9_method_2_code (3 : Nat) (Option.some (Jvm.ClassFile.FieldType.object "com/example/partition_handoff/partitionhandoff/DeliveryWindow$Delivery"))).before args0 about1 = true := code_word (m := ⟨12, 1⟩) (meth := k12m1) (c := k12c1) (by decide +kernel) rfl rfl rfl (by decide +kernel)
set_option maxRecDepth 65536 in
theorem w_c7 : (Jvm.Cond.code ({ cls := "com/example/partition_handoff/partitionhandoff/DeliveryWindow$Delivery", name := "isAcknowledged", desc := "()Z" } : Jvm.MethodName) prog_9_method_3_code (1 : Nat) (Option.some Jvm.ClassFile.FieldType.boolean)).before args0 about1 = true := code_word (m := ⟨12, 2⟩) (meth := k12m2) (c := k12c2) (by decide +kernel) rfl rfl rfl (by decide +kernel)
set_option maxRecDepth 65536 in
theorem w_c8 : (Jvm.Cond.code ({ cls := "com/example/partition_handoff/partitionhandoff/DeliveryWindow", name := "deliver", desc := "(Lcom/example/partition_handoff/partitionhandoff/DeliveryWindow$Delivery;)V" } : Jvm.MethodName) prog_8_method_8_code (2 : Nat) (Option.none : Option Jvm.ClassFile.FieldType)).before args0 about1 = true := code_word (m := ⟨2, 4⟩) (meth := k2m4) (c := k2c4) (by decide +kernel) rfl rfl rfl (by decide +kernel)
set_option maxRecDepth 65536 in
theorem w_c9 : (Jvm.Cond.code ({ cls := "java/util/ArrayDeque", name := "addLast", desc := "(Ljava/lang/Object;)V" } : Jvm.MethodName) jdk_21_method_13_code (3 : Nat) (Option.none : Option Jvm.ClassFile.FieldType)).before args0 about1 = true := code_word (m := ⟨11, 5⟩) (meth := k11m5) (c := k11c5) (by decide +kernel) rfl rfl rfl (by decide +kernel)
set_option maxRecDepth 65536 in
theorem w_c10 : (Jvm.Cond.code ({ cls := "java/util/ArrayDeque", name := "inc", desc := "(II)I" } : Jvm.MethodName) jdk_21_method_6_code (2 : Nat) (Option.some Jvm.ClassFile.FieldType.int)).before args0 about1 = true := code_word (m := ⟨11, 1⟩) (meth := k11m1) (c := k11c1) (by decide +kernel) rfl rfl rfl (by decide +kernel)
set_option maxRecDepth 65536 in
theorem w_c11 : (Jvm.Cond.code ({ cls := "com/example/partition_handoff/partitionhandoff/DeliveryWindow", name := "acknowledge", desc := "(Lcom/example/partition_handoff/partitionhandoff/DeliveryWindow$Delivery;)Z" } : Jvm.MethodName) prog_8_method_9_code (2 : Nat) (Option.some Jvm.ClassFile.FieldType.boolean)).before args0 about1 = true := code_word (m := ⟨2, 5⟩) (meth := k2m5) (c := k2c5) (by decide +kernel) rfl rfl rfl (by decide +kernel)
set_option maxRecDepth 65536 in
theorem w_c12 : (Jvm.Cond.code ({ cls := "com/example/partition_handoff/partitionhandoff/DeliveryWindow$Delivery", name := "isUnacknowledged", desc := "()Z" } : Jvm.MethodName) prog_9_method_4_code (1 : Nat) (Option.some Jvm.ClassFile.FieldType.boolean)).before args0 about1 = true := code_word (m := ⟨12, 3⟩) (meth := k12m3) (c := k12c3) (by decide +kernel) rfl rfl rfl (by decide +kernel)
set_option maxRecDepth 65536 in
theorem w_c13 : (Jvm.Cond.code ({ cls := "java/util/ArrayDeque", name := "isEmpty", desc := "()Z" } : Jvm.MethodName) jdk_21_method_38_code (1 : Nat) (Option.some Jvm.ClassFile.FieldType.boolean)).before args0 about1 = true := code_word (m := ⟨11, 11⟩) (meth := k11m11) (c := k11c11) (by decide +kernel) rfl rfl rfl (by decide +kernel)
set_option maxRecDepth 65536 in
theorem w_c14 : (Jvm.Cond.code ({ cls := "java/util/ArrayDeque", name := "getFirst", desc := "()Ljava/lang/Object;" } : Jvm.MethodName) jdk_21_method_22_code (2 : Nat) (Option.some (Jvm.ClassFile.FieldType.object "java/lang/Object"))).before args0 about1 = true := code_word (m := ⟨11, 8⟩) (meth := k11m8) (c := k11c8) (by decide +kernel) rfl rfl rfl (by decide +kernel)
set_option maxRecDepth 65536 in
theorem w_c15 : (Jvm.Cond.code ({ cls := "java/util/ArrayDeque", name := "elementAt", desc := "([Ljava/lang/Object;I)Ljava/lang/Object;" } : Jvm.MethodName) jdk_21_method_10_code (2 : Nat) (Option.some (Jvm.ClassFile.FieldType.object "java/lang/Object"))).before args0 about1 = true := code_word (m := ⟨11, 4⟩) (meth := k11m4) (c := k11c4) (by decide +kernel) rfl rfl rfl (by decide +kernel)
set_option maxRecDepth 65536 in
theorem w_c16 : (Jvm.Cond.code ({ cls := "java/util/ArrayDeque", name := "removeFirst", desc := "()Ljava/lang/Object;" } : Jvm.MethodName) jdk_21_method_18_code (2 : Nat) (Option.some (Jvm.ClassFile.FieldType.object "java/lang/Object"))).before args0 about1 = true := code_word (m := ⟨11, 6⟩) (meth := k11m6) (c := k11c6) (by decide +kernel) rfl rfl rfl (by decide +kernel)
set_option maxRecDepth 65536 in
theorem w_c17 : (Jvm.Cond.code ({ cls := "java/util/ArrayDeque", name := "pollFirst", desc := "()Ljava/lang/Object;" } : Jvm.MethodName) jdk_21_method_20_code (4 : Nat) (Option.some (Jvm.ClassFile.FieldType.object "java/lang/Object"))).before args0 about1 = true := code_word (m := ⟨11, 7⟩) (meth := k11m7) (c := k11c7) (by decide +kernel) rfl rfl rfl (by decide +kernel)
set_option maxRecDepth 65536 in
theorem w_c18 : (Jvm.Cond.code ({ cls := "com/example/partition_handoff/partitionhandoff/DeliveryWindow", name := "lastHandled", desc := "()J" } : Jvm.MethodName) prog_8_method_4_code (1 : Nat) (Option.some Jvm.ClassFile.FieldType.long)).before args0 about1 = true := code_word (m := ⟨2, 2⟩) (meth := k2m2) (c := k2c2) (by decide +kernel) rfl rfl rfl (by decide +kernel)
set_option maxRecDepth 65536 in
theorem w_c19 : (Jvm.Cond.code ({ cls := "com/example/partition_handoff/partitionhandoff/DeliveryWindow", name := "handled", desc := "()J" } : Jvm.MethodName) prog_8_method_3_code (1 : Nat) (Option.some Jvm.ClassFile.FieldType.long)).before args0 about1 = true := code_word (m := ⟨2, 1⟩) (meth := k2m1) (c := k2c1) (by decide +kernel) rfl rfl rfl (by decide +kernel)
set_option maxRecDepth 65536 in
theorem w_c20 : (Jvm.Cond.code ({ cls := "com/example/partition_handoff/partitionhandoff/DeliveryWindow", name := "unacknowledged", desc := "()I" } : Jvm.MethodName) prog_8_method_7_code (1 : Nat) (Option.some Jvm.ClassFile.FieldType.int)).before args0 about1 = true := code_word (m := ⟨2, 3⟩) (meth := k2m3) (c := k2c3) (by decide +kernel) rfl rfl rfl (by decide +kernel)
set_option maxRecDepth 65536 in
theorem w_c21 : (Jvm.Cond.code ({ cls := "com/example/partition_handoff/partitionhandoff/DeliveryWindow", name := "takeBack", desc := "(Lcom/example/partition_handoff/partitionhandoff/DeliveryWindow$Delivery;)V" } : Jvm.MethodName) prog_8_method_10_code (2 : Nat) (Option.none : Option Jvm.ClassFile.FieldType)).before args0 about1 = true := code_word (m := ⟨2, 6⟩) (meth := k2m6) (c := k2c6) (by decide +kernel) rfl rfl rfl (by decide +kernel)
set_option maxRecDepth 65536 in
theorem w_c22 : (Jvm.Cond.code ({ cls := "java/util/ArrayDeque", name := "removeLastOccurrence", desc := "(Ljava/lang/Object;)Z" } : Jvm.MethodName) jdk_21_method_27_code (6 : Nat) (Option.some Jvm.ClassFile.FieldType.boolean)).before args0 about1 = true := code_word (m := ⟨11, 9⟩) (meth := k11m9) (c := k11c9) (by decide +kernel) rfl rfl rfl (by decide +kernel)
set_option maxRecDepth 65536 in
theorem w_c23 : (Jvm.Cond.code ({ cls := "java/lang/Object", name := "equals", desc := "(Ljava/lang/Object;)Z" } : Jvm.MethodName) object_method_4_code (2 : Nat) (Option.some Jvm.ClassFile.FieldType.boolean)).before args0 about1 = true := code_word (m := ⟨0, 1⟩) (meth := k0m1) (c := k0c1) (by decide +kernel) rfl rfl rfl (by decide +kernel)
set_option maxRecDepth 65536 in
theorem w_c24 : (Jvm.Cond.code ({ cls := "java/util/ArrayDeque", name := "delete", desc := "(I)Z" } : Jvm.MethodName) jdk_21_method_36_code (8 : Nat) (Option.some Jvm.ClassFile.FieldType.boolean)).before args0 about1 = true := code_word (m := ⟨11, 10⟩) (meth := k11m10) (c := k11c10) (by decide +kernel) rfl rfl rfl (by decide +kernel)
set_option maxRecDepth 65536 in
theorem w_c25 : (Jvm.Cond.code ({ cls := "java/util/ArrayDeque", name := "sub", desc := "(III)I" } : Jvm.MethodName) jdk_21_method_9_code (3 : Nat) (Option.some Jvm.ClassFile.FieldType.int)).before args0 about1 = true := code_word (m := ⟨11, 3⟩) (meth := k11m3) (c := k11c3) (by decide +kernel) rfl rfl rfl (by decide +kernel)
set_option maxRecDepth 65536 in
theorem w_c26 : (Jvm.Cond.code ({ cls := "java/util/ArrayDeque", name := "dec", desc := "(II)I" } : Jvm.MethodName) jdk_21_method_7_code (2 : Nat) (Option.some Jvm.ClassFile.FieldType.int)).before args0 about1 = true := code_word (m := ⟨11, 2⟩) (meth := k11m2) (c := k11c2) (by decide +kernel) rfl rfl rfl (by decide +kernel)
def codes1 : List Jvm.Cond := [Jvm.Cond.code x code maxLocals ret, Jvm.Cond.code ({ cls := "com/example/partition_handoff/partitionhandoff/DeliveryWindow", name := "<init>", desc := "(I)V" } : Jvm.MethodName) prog_8_method_1_code (2 : Nat) (Option.none : Option Jvm.ClassFile.FieldType), Jvm.Cond.code ({ cls := "java/lang/Object", name := "<init>", desc := "()V" } : Jvm.MethodName) object_method_1_code (1 : Nat) (Option.none : Option Jvm.ClassFile.FieldType), Jvm.Cond.code ({ cls := "java/util/ArrayDeque", name := "<init>", desc := "()V" } : Jvm.MethodName) jdk_21_method_3_code (1 : Nat) (Option.none : Option Jvm.ClassFile.FieldType), Jvm.Cond.code ({ cls := "java/util/AbstractCollection", name := "<init>", desc := "()V" } : Jvm.MethodName) jdk_22_method_1_code (1 : Nat) (Option.none : Option Jvm.ClassFile.FieldType), Jvm.Cond.code ({ cls := "com/example/partition_handoff/partitionhandoff/DeliveryWindow$Delivery", name := "<init>", desc := "(J)V" } : Jvm.MethodName) prog_9_method_1_code (3 : Nat) (Option.none : Option Jvm.ClassFile.FieldType), Jvm.Cond.code ({ cls := "com/example/partition_handoff/partitionhandoff/DeliveryWindow$Delivery", name := "reuseFor", desc := "(J)Lcom/example/partition_handoff/partitionhandoff/DeliveryWindow$Delivery;" } : Jvm.MethodName) prog_9_method_2_code (3 : Nat) (Option.some (Jvm.ClassFile.FieldType.object "com/example/partition_handoff/partitionhandoff/DeliveryWindow$Delivery")), Jvm.Cond.code ({ cls := "com/example/partition_handoff/partitionhandoff/DeliveryWindow$Delivery", name := "isAcknowledged", desc := "()Z" } : Jvm.MethodName) prog_9_method_3_code (1 : Nat) (Option.some Jvm.ClassFile.FieldType.boolean), Jvm.Cond.code ({ cls := "com/example/partition_handoff/partitionhandoff/DeliveryWindow", name := "deliver", desc := "(Lcom/example/partition_handoff/partitionhandoff/DeliveryWindow$Delivery;)V" } : Jvm.MethodName) prog_8_method_8_code (2 : Nat) (Option.none : Option Jvm.ClassFile.FieldType), Jvm.Cond.code ({ cls := "java/util/ArrayDeque", name := "addLast", desc := "(Ljava/lang/Object;)V" } : Jvm.MethodName) jdk_21_method_13_code (3 : Nat) (Option.none : Option Jvm.ClassFile.FieldType), Jvm.Cond.code ({ cls := "java/util/ArrayDeque", name := "inc", desc := "(II)I" } : Jvm.MethodName) jdk_21_method_6_code (2 : Nat) (Option.some Jvm.ClassFile.FieldType.int), Jvm.Cond.code ({ cls := "com/example/partition_handoff/partitionhandoff/DeliveryWindow", name := "acknowledge", desc := "(Lcom/example/partition_handoff/partitionhandoff/DeliveryWindow$Delivery;)Z" } : Jvm.MethodName) prog_8_method_9_code (2 : Nat) (Option.some Jvm.ClassFile.FieldType.boolean), Jvm.Cond.code ({ cls := "com/example/partition_handoff/partitionhandoff/DeliveryWindow$Delivery", name := "isUnacknowledged", desc := "()Z" } : Jvm.MethodName) prog_9_method_4_code (1 : Nat) (Option.some Jvm.ClassFile.FieldType.boolean), Jvm.Cond.code ({ cls := "java/util/ArrayDeque", name := "isEmpty", desc := "()Z" } : Jvm.MethodName) jdk_21_method_38_code (1 : Nat) (Option.some Jvm.ClassFile.FieldType.boolean), Jvm.Cond.code ({ cls := "java/util/ArrayDeque", name := "getFirst", desc := "()Ljava/lang/Object;" } : Jvm.MethodName) jdk_21_method_22_code (2 : Nat) (Option.some (Jvm.ClassFile.FieldType.object "java/lang/Object")), Jvm.Cond.code ({ cls := "java/util/ArrayDeque", name := "elementAt", desc := "([Ljava/lang/Object;I)Ljava/lang/Object;" } : Jvm.MethodName) jdk_21_method_10_code (2 : Nat) (Option.some (Jvm.ClassFile.FieldType.object "java/lang/Object")), Jvm.Cond.code ({ cls := "java/util/ArrayDeque", name := "removeFirst", desc := "()Ljava/lang/Object;" } : Jvm.MethodName) jdk_21_method_18_code (2 : Nat) (Option.some (Jvm.ClassFile.FieldType.object "java/lang/Object")), Jvm.Cond.code ({ cls := "java/util/ArrayDeque", name := "pollFirst", desc := "()Ljava/lang/Object;" } : Jvm.MethodName) jdk_21_method_20_code (4 : Nat) (Option.some (Jvm.ClassFile.FieldType.object "java/lang/Object")), Jvm.Cond.code ({ cls := "com/example/partition_handoff/partitionhandoff/DeliveryWindow", name := "lastHandled", desc := "()J" } : Jvm.MethodName) prog_8_method_4_code (1 : Nat) (Option.some Jvm.ClassFile.FieldType.long), Jvm.Cond.code ({ cls := "com/example/partition_handoff/partitionhandoff/DeliveryWindow", name := "handled", desc := "()J" } : Jvm.MethodName) prog_8_method_3_code (1 : Nat) (Option.some Jvm.ClassFile.FieldType.long), Jvm.Cond.code ({ cls := "com/example/partition_handoff/partitionhandoff/DeliveryWindow", name := "unacknowledged", desc := "()I" } : Jvm.MethodName) prog_8_method_7_code (1 : Nat) (Option.some Jvm.ClassFile.FieldType.int), Jvm.Cond.code ({ cls := "com/example/partition_handoff/partitionhandoff/DeliveryWindow", name := "takeBack", desc := "(Lcom/example/partition_handoff/partitionhandoff/DeliveryWindow$Delivery;)V" } : Jvm.MethodName) prog_8_method_10_code (2 : Nat) (Option.none : Option Jvm.ClassFile.FieldType), Jvm.Cond.code ({ cls := "java/util/ArrayDeque", name := "removeLastOccurrence", desc := "(Ljava/lang/Object;)Z" } : Jvm.MethodName) jdk_21_method_27_code (6 : Nat) (Option.some Jvm.ClassFile.FieldType.boolean), Jvm.Cond.code ({ cls := "java/lang/Object", name := "equals", desc := "(Ljava/lang/Object;)Z" } : Jvm.MethodName) object_method_4_code (2 : Nat) (Option.some Jvm.ClassFile.FieldType.boolean), Jvm.Cond.code ({ cls := "java/util/ArrayDeque", name := "delete", desc := "(I)Z" } : Jvm.MethodName) jdk_21_method_36_code (8 : Nat) (Option.some Jvm.ClassFile.FieldType.boolean), Jvm.Cond.code ({ cls := "java/util/ArrayDeque", name := "sub", desc := "(III)I" } : Jvm.MethodName) jdk_21_method_9_code (3 : Nat) (Option.some Jvm.ClassFile.FieldType.int), Jvm.Cond.code ({ cls := "java/util/ArrayDeque", name := "dec", desc := "(II)I" } : Jvm.MethodName) jdk_21_method_7_code (2 : Nat) (Option.some Jvm.ClassFile.FieldType.int)]
set_option maxRecDepth 65536 in
theorem codes_eq : words1.filter isCode = codes1 := rfl
theorem w_codes : ∀ c ∈ words1.filter isCode, c.before args0 about1 = true := by
  rw [codes_eq]
  intro c hc
  simp only [codes1, List.mem_cons, List.not_mem_nil, or_false] at hc
  rcases hc with rfl | rfl | rfl | rfl | rfl | rfl | rfl | rfl | rfl | rfl | rfl | rfl | rfl | rfl | rfl | rfl | rfl | rfl | rfl | rfl | rfl | rfl | rfl | rfl | rfl | rfl | rfl
  · exact w_c0
  · exact w_c1
  · exact w_c2
  · exact w_c3
  · exact w_c4
  · exact w_c5
  · exact w_c6
  · exact w_c7
  · exact w_c8
  · exact w_c9
  · exact w_c10
  · exact w_c11
  · exact w_c12
  · exact w_c13
  · exact w_c14
  · exact w_c15
  · exact w_c16
  · exact w_c17
  · exact w_c18
  · exact w_c19
  · exact w_c20
  · exact w_c21
  · exact w_c22
  · exact w_c23
  · exact w_c24
  · exact w_c25
  · exact w_c26
set_option maxRecDepth 65536 in
theorem w_t1 : (words1.take 24).all (fun c => isCode c || c.before args0 about1) = true := by decide +kernel
set_option maxRecDepth 65536 in
theorem w_t2 : ((words1.drop 24).take 24).all (fun c => isCode c || c.before args0 about1) = true := by decide +kernel
set_option maxRecDepth 65536 in
theorem w_t3 : (((words1.drop 24).drop 24).take 24).all (fun c => isCode c || c.before args0 about1) = true := by decide +kernel
set_option maxRecDepth 65536 in
theorem w_t4 : ((((words1.drop 24).drop 24).drop 24).take 24).all (fun c => isCode c || c.before args0 about1) = true := by decide +kernel
set_option maxRecDepth 65536 in
theorem w_t5 : (((((words1.drop 24).drop 24).drop 24).drop 24).take 24).all (fun c => isCode c || c.before args0 about1) = true := by decide +kernel
set_option maxRecDepth 65536 in
theorem w_t6 : ((((((words1.drop 24).drop 24).drop 24).drop 24).drop 24).take 24).all (fun c => isCode c || c.before args0 about1) = true := by decide +kernel
set_option maxRecDepth 65536 in
theorem w_t7 : (((((((words1.drop 24).drop 24).drop 24).drop 24).drop 24).drop 24).take 24).all (fun c => isCode c || c.before args0 about1) = true := by decide +kernel
set_option maxRecDepth 65536 in
theorem w_t8 : (((((((words1.drop 24).drop 24).drop 24).drop 24).drop 24).drop 24).drop 24).all (fun c => isCode c || c.before args0 about1) = true := by decide +kernel
theorem w_tables : (allAtoms (Jvm.Cond.code x code maxLocals ret :: tables_1)).before args0 about1 = true := by
  rw [allAtoms_all]
  show words1.all (fun c => c.before args0 about1) = true
  refine all_split ?_ w_codes
  rw [← List.take_append_drop 24 words1, List.all_append, w_t1, ← List.take_append_drop 24 (words1.drop 24), List.all_append, w_t2, ← List.take_append_drop 24 ((words1.drop 24).drop 24), List.all_append, w_t3, ← List.take_append_drop 24 (((words1.drop 24).drop 24).drop 24), List.all_append, w_t4, ← List.take_append_drop 24 ((((words1.drop 24).drop 24).drop 24).drop 24), List.all_append, w_t5, ← List.take_append_drop 24 (((((words1.drop 24).drop 24).drop 24).drop 24).drop 24), List.all_append, w_t6, ← List.take_append_drop 24 ((((((words1.drop 24).drop 24).drop 24).drop 24).drop 24).drop 24), List.all_append, w_t7, w_t8]
  rfl
set_option maxRecDepth 65536 in
theorem w_case : (Jvm.Cond.and given_1 narrow_1).before args0 about1 = true := by decide +kernel
theorem w_applies : (headSpec (Jvm.Cond.code x code maxLocals ret :: tables_1) room_1).applies x e0.platform about1 = true :=
  (Spec.applies_iff w_frames).mpr ⟨w_running, w_runnable, w_alone, w_named, w_hears, w_ripe, w_room, w_tables⟩
theorem atStart : AtStart classFile x code maxLocals ret World_1 tables_1 room_1 Calls_1 rest_1 Pre_1 launch0 p0 e0 about1 theMethod args0 below0 :=
  ⟨lists_1, trivial, launch0.admits_env _ _ _, launch0.least_env, fairChoices_fair.cas, fairChoices_fair.clock, w_frames, w_args, w_heap, w_applies, trivial, trivial, w_case⟩
end start1
theorem witness_1 : WitnessClaimed_1 := ⟨start1.p0, start1.e0, start1.about1, start1.theMethod, start1.args0, start1.below0, start1.atStart⟩
end Jvm.Pilot.@@N@@
