import JvmDerived
import JvmDerived.Pilot.@@N@@Statement
import JvmDerived.Pilot.@@N@@Code
set_option linter.unusedVariables false
set_option linter.unusedSimpArgs false
namespace Jvm.Pilot.@@N@@
namespace Own
open Jvm Jvm.ClassFile Sem Op Lib Jvm.Free Jvm.Stand Jvm.LawKit Jvm.RoadKit Bundle
/-- what a body's walk knows of its method -/
def Ctx (p : Program) (l : Launch) (e : Env) (R : Room) (s : State) (m : MethodId) (args : Array Value) (below : List Frame) (meth : Method) (c : Code) (Z : State) (own : String) (cd : ByteArray) (maxL : Nat) (ret : Option FieldType) (nm : String) : Prop :=
  p.tables.exec = Jvm.exec ∧ Z.Warmed39 s.vm ∧ c.code = cd ∧ c.maxLocals = maxL ∧ s.vm.findClass own = some m.cls ∧ meth.sig.returnType = ret ∧ meth.locks = false ∧ meth.name = nm
/-- from every state that stands at pc with these locals and this stack over the heap h the method returns, and P holds -/
def Run (p : Program) (l : Launch) (e : Env) (R : Room) (s : State) (m : MethodId) (args : Array Value) (below : List Frame) (meth : Method) (c : Code) (n0 : Nat) (P : Option Value → Heap → Prop) (h : Heap) (k n : Nat) (pc : Nat) (Ls : Array Slot) (st : List Value) : Prop :=
  ∀ (T : State) (locs : List Loc), Stand p l e R s m args below meth c T locs k n → T.heap = h → Fr n0 locs →
    ∃ s₂ o, Steps p.tables e below (T.setTop (mkF m pc Ls st)) s₂ ∧ s₂.status = .running ∧ Ended s₂ below o ∧ ∃ v L, o = .returned v ∧ (P v s₂.heap ∧ Fr n0 L) ∧ FrameEnd s o s₂ L R.cells R.slots
def RetI (Q : Int32 → Heap → Prop) (v : Option Value) (h : Heap) : Prop := ∃ z, v = some (.int z) ∧ Q z h
def RetL (Q : Int64 → Heap → Prop) (v : Option Value) (h : Heap) : Prop := ∃ z, v = some (.long z) ∧ Q z h
def RetV (Q : Value → Heap → Prop) (v : Option Value) (h : Heap) : Prop := ∃ z, v = some z ∧ Q z h
def Ret0 (Q : Heap → Prop) (v : Option Value) (h : Heap) : Prop := v = none ∧ Q h
def Met (l : Launch) (Z : State) (y : MethodName) (bytes : ByteArray) (mL : Nat) (rt : Option FieldType) (ws : List Jvm.Cond) (rm : Room) (as : Array Value) (h : Heap) (n0 : Nat) (P : Option Value → Heap → Prop) : Prop :=
  MetFree l y (head1 (Jvm.Cond.code y bytes mL rt :: ws) rm) (fun a U => a = as ∧ Z.Warmed39 U.vm ∧ U.heap = h) (fun _ _ _ _ _ => True) (fun _ U o U' => ∃ v L, o = .returned v ∧ (P v U'.heap ∧ Fr n0 L) ∧ FrameEnd U o U' L rm.cells rm.slots)
section Steps
variable {p : Program} {l : Launch} {e : Env} {R : Room} {s : State} {m : MethodId} {args : Array Value} {below : List Frame} {meth : Method} {c : Code} {Z : State} {own nm : String} {cd : ByteArray} {maxL : Nat} {ret : Option FieldType} {n0 : Nat} {P : Option Value → Heap → Prop} {h : Heap} {k n pc pc' : Nat} {Ls l' : Array Slot} {st st' rest : List Value} {a0 : Array Value}
theorem Met.intro {y : MethodName} {bytes : ByteArray} {mL : Nat} {rt : Option FieldType} {ws : List Jvm.Cond} {rm : Room} {as : Array Value} (hpl : plainFor y = true) (ho : y.cls = own) (hn : y.name = nm) (ef : ∀ m, entryFrame m as mL = mkF m 0 Ls [])
    (body : ∀ p e s m below meth c, Ctx p l e rm s m as below meth c Z own bytes mL rt nm → Run p l e rm s m as below meth c n0 P h 0 0 0 Ls []) : Met l Z y bytes mL rt ws rm as h n0 P := by
  subst ho hn
  refine MetFree.of_bodySF hpl hisR ?_
  intro p e s m args below meth c s₁ Bd hml0 hP hK
  obtain ⟨rfl, hZ, hh⟩ := hP
  have X0 : Stand p l e rm s m args below meth c s₁ [] 0 0 := Stand.of_body Bd
  have e0 : s₁.heap = h := by rw [← hh, Bd.state]; rfl
  have hown : s.vm.findClass y.cls = some m.cls := findClass_of_methodNamed Bd.named
  obtain ⟨s₂, o, h1, h2⟩ := body p e s m below meth c ⟨Bd.exec, hZ, Bd.bytes, hml0, hown, Bd.returns, Bd.notSynchronized, (name_of_methodNamed Bd.named Bd.method).1⟩ s₁ [] X0 e0 (Fr.nil _)
  exact ⟨s₂, o, castTop (ef m) h1, h2⟩
theorem Run.pure (f : ∀ T locs, Stand p l e R s m args below meth c T locs k n → T.heap = h → ∀ t, Steps p.tables e below (T.setTop (mkF m pc' l' st')) t → Steps p.tables e below (T.setTop (mkF m pc Ls st)) t) (r : Run p l e R s m args below meth c n0 P h k n pc' l' st') : Run p l e R s m args below meth c n0 P h k n pc Ls st := fun T locs X eT N => by
  obtain ⟨s₂, o, q, r⟩ := r T locs X eT N
  exact ⟨s₂, o, f T locs X eT _ q, r⟩
theorem Run.warm (f : ∀ T locs, Stand p l e R s m args below meth c T locs k n → T.heap = h → ∃ T', Stand p l e R s m args below meth c T' locs k n ∧ T'.heap = h ∧ ∀ t, Steps p.tables e below (T'.setTop (mkF m pc' l' st')) t → Steps p.tables e below (T.setTop (mkF m pc Ls st)) t) (r : Run p l e R s m args below meth c n0 P h k n pc' l' st') : Run p l e R s m args below meth c n0 P h k n pc Ls st := fun T locs X eT N => by
  obtain ⟨T', X', e', f'⟩ := f T locs X eT
  obtain ⟨s₂, o, q, r⟩ := r T' locs X' e' N
  exact ⟨s₂, o, f' _ q, r⟩
/-! loads, stores, constants -/
theorem s_iloadN (C : Ctx p l e R s m args below meth c Z own cd maxL ret nm) {q : Fin 4} {v : Int32} (hd : decode cd pc = .ok (.iload_n q, 1)) (hp : pc + 1 = pc') (hl : Ls[q.val]? = some (.val (.int v))) (r : Run p l e R s m args below meth c n0 P h k n pc' Ls (.int v :: st)) : Run p l e R s m args below meth c n0 P h k n pc Ls st := by
  subst hp; exact Run.pure (fun T locs X _ t z => XS.iloadN X.here C.1 rfl (hb C.2.2.1 hd) hl z) r
theorem s_iload (C : Ctx p l e R s m args below meth c Z own cd maxL ret nm) {q : Nat} {v : Int32} (hd : decode cd pc = .ok (.iload q, 2)) (hp : pc + 2 = pc') (hl : Ls[q]? = some (.val (.int v))) (r : Run p l e R s m args below meth c n0 P h k n pc' Ls (.int v :: st)) : Run p l e R s m args below meth c n0 P h k n pc Ls st := by
  subst hp; exact Run.pure (fun T locs X _ t z => XS.iload X.here C.1 rfl (hb C.2.2.1 hd) hl z) r
theorem s_lloadN (C : Ctx p l e R s m args below meth c Z own cd maxL ret nm) {q : Fin 4} {v : Int64} (hd : decode cd pc = .ok (.lload_n q, 1)) (hp : pc + 1 = pc') (hl : Ls[q.val]? = some (.val (.long v))) (r : Run p l e R s m args below meth c n0 P h k n pc' Ls (.long v :: st)) : Run p l e R s m args below meth c n0 P h k n pc Ls st := by
  subst hp; exact Run.pure (fun T locs X _ t z => XS.lloadN X.here C.1 rfl (hb C.2.2.1 hd) hl z) r
theorem s_lload (C : Ctx p l e R s m args below meth c Z own cd maxL ret nm) {q : Nat} {v : Int64} (hd : decode cd pc = .ok (.lload q, 2)) (hp : pc + 2 = pc') (hl : Ls[q]? = some (.val (.long v))) (r : Run p l e R s m args below meth c n0 P h k n pc' Ls (.long v :: st)) : Run p l e R s m args below meth c n0 P h k n pc Ls st := by
  subst hp; exact Run.pure (fun T locs X _ t z => XS.lload X.here C.1 rfl (hb C.2.2.1 hd) hl z) r
theorem s_aloadN (C : Ctx p l e R s m args below meth c Z own cd maxL ret nm) {q : Fin 4} {v : Value} (hd : decode cd pc = .ok (.aload_n q, 1)) (hp : pc + 1 = pc') (hl : Ls[q.val]? = some (.val v)) (hv : v.isRef = true) (r : Run p l e R s m args below meth c n0 P h k n pc' Ls (v :: st)) : Run p l e R s m args below meth c n0 P h k n pc Ls st := by
  subst hp; exact Run.pure (fun T locs X _ t z => XS.aloadN X.here C.1 rfl (hb C.2.2.1 hd) hl hv z) r
theorem s_aload (C : Ctx p l e R s m args below meth c Z own cd maxL ret nm) {q : Nat} {v : Value} (hd : decode cd pc = .ok (.aload q, 2)) (hp : pc + 2 = pc') (hl : Ls[q]? = some (.val v)) (hv : v.isRef = true) (r : Run p l e R s m args below meth c n0 P h k n pc' Ls (v :: st)) : Run p l e R s m args below meth c n0 P h k n pc Ls st := by
  subst hp; exact Run.pure (fun T locs X _ t z => XS.aload X.here C.1 rfl (hb C.2.2.1 hd) hl hv z) r
theorem s_istoreN (C : Ctx p l e R s m args below meth c Z own cd maxL ret nm) {q : Fin 4} {x : Int32} (hd : decode cd pc = .ok (.istore_n q, 1)) (hp : pc + 1 = pc') (L : Int32 → Array Slot) (hl : ∀ y, storeLocals Ls q.val (.int y) = some (L y)) (r : ∀ y, y = x → Run p l e R s m args below meth c n0 P h k n pc' (L y) st) : Run p l e R s m args below meth c n0 P h k n pc Ls (.int x :: st) := by
  subst hp; exact Run.pure (fun T locs X _ t z => XS.istoreN X.here C.1 rfl (hb C.2.2.1 hd) rfl (hl x) z) (r x rfl)
theorem s_istore (C : Ctx p l e R s m args below meth c Z own cd maxL ret nm) {q : Nat} {x : Int32} (hd : decode cd pc = .ok (.istore q, 2)) (hp : pc + 2 = pc') (L : Int32 → Array Slot) (hl : ∀ y, storeLocals Ls q (.int y) = some (L y)) (r : ∀ y, y = x → Run p l e R s m args below meth c n0 P h k n pc' (L y) st) : Run p l e R s m args below meth c n0 P h k n pc Ls (.int x :: st) := by
  subst hp; exact Run.pure (fun T locs X _ t z => XS.istore X.here C.1 rfl (hb C.2.2.1 hd) rfl (hl x) z) (r x rfl)
theorem s_lstoreN (C : Ctx p l e R s m args below meth c Z own cd maxL ret nm) {q : Fin 4} {x : Int64} (hd : decode cd pc = .ok (.lstore_n q, 1)) (hp : pc + 1 = pc') (L : Int64 → Array Slot) (hl : ∀ y, storeLocals Ls q.val (.long y) = some (L y)) (r : ∀ y, y = x → Run p l e R s m args below meth c n0 P h k n pc' (L y) st) : Run p l e R s m args below meth c n0 P h k n pc Ls (.long x :: st) := by
  subst hp; exact Run.pure (fun T locs X _ t z => XS.lstoreN X.here C.1 rfl (hb C.2.2.1 hd) rfl (hl x) z) (r x rfl)
theorem s_lstore (C : Ctx p l e R s m args below meth c Z own cd maxL ret nm) {q : Nat} {x : Int64} (hd : decode cd pc = .ok (.lstore q, 2)) (hp : pc + 2 = pc') (L : Int64 → Array Slot) (hl : ∀ y, storeLocals Ls q (.long y) = some (L y)) (r : ∀ y, y = x → Run p l e R s m args below meth c n0 P h k n pc' (L y) st) : Run p l e R s m args below meth c n0 P h k n pc Ls (.long x :: st) := by
  subst hp; exact Run.pure (fun T locs X _ t z => XS.lstore X.here C.1 rfl (hb C.2.2.1 hd) rfl (hl x) z) (r x rfl)
theorem s_istoreNP (C : Ctx p l e R s m args below meth c Z own cd maxL ret nm) {q : Fin 4} {x : Int32} (hd : decode cd pc = .ok (.istore_n q, 1)) (hp : pc + 1 = pc') (L : Array Slot) (hl : storeLocals Ls q.val (.int x) = some L) (r : Run p l e R s m args below meth c n0 P h k n pc' L st) : Run p l e R s m args below meth c n0 P h k n pc Ls (.int x :: st) := by
  subst hp; exact Run.pure (fun T locs X _ t z => XS.istoreN X.here C.1 rfl (hb C.2.2.1 hd) rfl hl z) r
theorem s_istoreP (C : Ctx p l e R s m args below meth c Z own cd maxL ret nm) {q : Nat} {x : Int32} (hd : decode cd pc = .ok (.istore q, 2)) (hp : pc + 2 = pc') (L : Array Slot) (hl : storeLocals Ls q (.int x) = some L) (r : Run p l e R s m args below meth c n0 P h k n pc' L st) : Run p l e R s m args below meth c n0 P h k n pc Ls (.int x :: st) := by
  subst hp; exact Run.pure (fun T locs X _ t z => XS.istore X.here C.1 rfl (hb C.2.2.1 hd) rfl hl z) r
theorem s_lstoreNP (C : Ctx p l e R s m args below meth c Z own cd maxL ret nm) {q : Fin 4} {x : Int64} (hd : decode cd pc = .ok (.lstore_n q, 1)) (hp : pc + 1 = pc') (L : Array Slot) (hl : storeLocals Ls q.val (.long x) = some L) (r : Run p l e R s m args below meth c n0 P h k n pc' L st) : Run p l e R s m args below meth c n0 P h k n pc Ls (.long x :: st) := by
  subst hp; exact Run.pure (fun T locs X _ t z => XS.lstoreN X.here C.1 rfl (hb C.2.2.1 hd) rfl hl z) r
theorem s_lstoreP (C : Ctx p l e R s m args below meth c Z own cd maxL ret nm) {q : Nat} {x : Int64} (hd : decode cd pc = .ok (.lstore q, 2)) (hp : pc + 2 = pc') (L : Array Slot) (hl : storeLocals Ls q (.long x) = some L) (r : Run p l e R s m args below meth c n0 P h k n pc' L st) : Run p l e R s m args below meth c n0 P h k n pc Ls (.long x :: st) := by
  subst hp; exact Run.pure (fun T locs X _ t z => XS.lstore X.here C.1 rfl (hb C.2.2.1 hd) rfl hl z) r
theorem s_astoreN (C : Ctx p l e R s m args below meth c Z own cd maxL ret nm) {q : Fin 4} {x : Value} (hd : decode cd pc = .ok (.astore_n q, 1)) (hp : pc + 1 = pc') (hv : x.isRef = true) (L : Array Slot) (hl : storeLocals Ls q.val x = some L) (r : Run p l e R s m args below meth c n0 P h k n pc' L st) : Run p l e R s m args below meth c n0 P h k n pc Ls (x :: st) := by
  subst hp; exact Run.pure (fun T locs X _ t z => XS.astoreN X.here C.1 rfl (hb C.2.2.1 hd) rfl hv hl z) r
theorem s_astore (C : Ctx p l e R s m args below meth c Z own cd maxL ret nm) {q : Nat} {x : Value} (hd : decode cd pc = .ok (.astore q, 2)) (hp : pc + 2 = pc') (hv : x.isRef = true) (L : Array Slot) (hl : storeLocals Ls q x = some L) (r : Run p l e R s m args below meth c n0 P h k n pc' L st) : Run p l e R s m args below meth c n0 P h k n pc Ls (x :: st) := by
  subst hp; exact Run.pure (fun T locs X _ t z => XS.astore X.here C.1 rfl (hb C.2.2.1 hd) rfl hv hl z) r
theorem s_iconst (C : Ctx p l e R s m args below meth c Z own cd maxL ret nm) {i : Int} (hd : decode cd pc = .ok (.iconst i, 1)) (hp : pc + 1 = pc') (v : Int32) (hv : Int32.ofInt i = v) (r : Run p l e R s m args below meth c n0 P h k n pc' Ls (.int v :: st)) : Run p l e R s m args below meth c n0 P h k n pc Ls st := by
  subst hp hv; exact Run.pure (fun T locs X _ t z => XS.iconst X.here C.1 rfl (hb C.2.2.1 hd) z) r
theorem s_bipush (C : Ctx p l e R s m args below meth c Z own cd maxL ret nm) {i : Int} (hd : decode cd pc = .ok (.bipush i, 2)) (hp : pc + 2 = pc') (v : Int32) (hv : (Int8.ofInt i).toInt32 = v) (r : Run p l e R s m args below meth c n0 P h k n pc' Ls (.int v :: st)) : Run p l e R s m args below meth c n0 P h k n pc Ls st := by
  subst hp hv; exact Run.pure (fun T locs X _ t z => XS.bipush X.here C.1 rfl (hb C.2.2.1 hd) z) r
theorem s_sipush (C : Ctx p l e R s m args below meth c Z own cd maxL ret nm) {i : Int} (hd : decode cd pc = .ok (.sipush i, 3)) (hp : pc + 3 = pc') (v : Int32) (hv : (Int16.ofInt i).toInt32 = v) (r : Run p l e R s m args below meth c n0 P h k n pc' Ls (.int v :: st)) : Run p l e R s m args below meth c n0 P h k n pc Ls st := by
  subst hp hv; exact Run.pure (fun T locs X _ t z => XS.sipush X.here C.1 rfl (hb C.2.2.1 hd) z) r
theorem s_lconst (C : Ctx p l e R s m args below meth c Z own cd maxL ret nm) {i : Fin 2} (hd : decode cd pc = .ok (.lconst i, 1)) (hp : pc + 1 = pc') (v : Int64) (hv : Int64.ofNat i.val = v) (r : Run p l e R s m args below meth c n0 P h k n pc' Ls (.long v :: st)) : Run p l e R s m args below meth c n0 P h k n pc Ls st := by
  subst hp hv; exact Run.pure (fun T locs X _ t z => XS.lconst X.here C.1 rfl (hb C.2.2.1 hd) z) r
theorem s_null (C : Ctx p l e R s m args below meth c Z own cd maxL ret nm) (hd : decode cd pc = .ok (.aconst_null, 1)) (hp : pc + 1 = pc') (r : Run p l e R s m args below meth c n0 P h k n pc' Ls (.null :: st)) : Run p l e R s m args below meth c n0 P h k n pc Ls st := by
  subst hp; exact Run.pure (fun T locs X _ t z => XS.aconstNull X.here C.1 rfl (hb C.2.2.1 hd) z) r
theorem s_ldc (C : Ctx p l e R s m args below meth c Z own cd maxL ret nm) {i : Nat} {v : Int32} (hd : decode cd pc = .ok (.ldc i, 2)) (hp : pc + 2 = pc') (w : (Jvm.Cond.constant own i v).before a0 Z = true) (r : Run p l e R s m args below meth c n0 P h k n pc' Ls (.int v :: st)) : Run p l e R s m args below meth c n0 P h k n pc Ls st := by
  subst hp; exact Run.pure (fun T locs X _ t z => X.ldcInt C.1 C.2.2.2.2.1 (mvT C.2.1 w) (g := mkF m pc Ls st) rfl (hb C.2.2.1 hd) _ z) r
theorem s_ldc2 (C : Ctx p l e R s m args below meth c Z own cd maxL ret nm) {i : Nat} {v : Int64} (hd : decode cd pc = .ok (.ldc2_w i, 3)) (hp : pc + 3 = pc') (w : (Jvm.Cond.constantLong own i v).before a0 Z = true) (r : Run p l e R s m args below meth c n0 P h k n pc' Ls (.long v :: st)) : Run p l e R s m args below meth c n0 P h k n pc Ls st := by
  subst hp; exact Run.pure (fun T locs X _ t z => X.ldc2Long C.1 C.2.2.2.2.1 (mvT C.2.1 w) (g := mkF m pc Ls st) rfl (hb C.2.2.1 hd) _ z) r
theorem s_iinc (C : Ctx p l e R s m args below meth c Z own cd maxL ret nm) {q : Nat} {cst : Int} {x : Int32} (hd : decode cd pc = .ok (.iinc q cst, 3)) (hp : pc + 3 = pc') (hl : Ls[q]? = some (.val (.int x))) (z : Int32) (hz : Int32.ofInt cst = z) (L : Int32 → Array Slot) (hl' : ∀ y, storeLocals Ls q (.int y) = some (L y)) (r : ∀ y, y = x + z → Run p l e R s m args below meth c n0 P h k n pc' (L y) st) : Run p l e R s m args below meth c n0 P h k n pc Ls st := by
  subst hp hz; exact Run.pure (fun T locs X _ t z => XS.iinc X.here C.1 rfl (hb C.2.2.1 hd) hl (hl' _) z) (r _ rfl)
theorem s_iincP (C : Ctx p l e R s m args below meth c Z own cd maxL ret nm) {q : Nat} {cst : Int} {x : Int32} (hd : decode cd pc = .ok (.iinc q cst, 3)) (hp : pc + 3 = pc') (hl : Ls[q]? = some (.val (.int x))) (z : Int32) (hz : x + Int32.ofInt cst = z) (L : Array Slot) (hl' : storeLocals Ls q (.int z) = some L) (r : Run p l e R s m args below meth c n0 P h k n pc' L st) : Run p l e R s m args below meth c n0 P h k n pc Ls st := by
  subst hp hz; exact Run.pure (fun T locs X _ t z => XS.iinc X.here C.1 rfl (hb C.2.2.1 hd) hl hl' z) r
/-! plain steps -/
theorem s_iadd (C : Ctx p l e R s m args below meth c Z own cd maxL ret nm) {x y : Int32} (hd : decode cd pc = .ok (.iadd, 1)) (hp : pc + 1 = pc') (r : Run p l e R s m args below meth c n0 P h k n pc' Ls (.int (x + y) :: st)) : Run p l e R s m args below meth c n0 P h k n pc Ls (.int y :: .int x :: st) := by
  subst hp; exact Run.pure (fun T locs X _ t z => XS.iadd X.here C.1 rfl (hb C.2.2.1 hd) rfl z) r
theorem s_isub (C : Ctx p l e R s m args below meth c Z own cd maxL ret nm) {x y : Int32} (hd : decode cd pc = .ok (.isub, 1)) (hp : pc + 1 = pc') (r : Run p l e R s m args below meth c n0 P h k n pc' Ls (.int (x - y) :: st)) : Run p l e R s m args below meth c n0 P h k n pc Ls (.int y :: .int x :: st) := by
  subst hp; exact Run.pure (fun T locs X _ t z => XS.isub X.here C.1 rfl (hb C.2.2.1 hd) rfl z) r
theorem s_imul (C : Ctx p l e R s m args below meth c Z own cd maxL ret nm) {x y : Int32} (hd : decode cd pc = .ok (.imul, 1)) (hp : pc + 1 = pc') (r : Run p l e R s m args below meth c n0 P h k n pc' Ls (.int (x * y) :: st)) : Run p l e R s m args below meth c n0 P h k n pc Ls (.int y :: .int x :: st) := by
  subst hp; exact Run.pure (fun T locs X _ t z => XS.imul X.here C.1 rfl (hb C.2.2.1 hd) rfl z) r
theorem s_iand (C : Ctx p l e R s m args below meth c Z own cd maxL ret nm) {x y : Int32} (hd : decode cd pc = .ok (.iand, 1)) (hp : pc + 1 = pc') (r : Run p l e R s m args below meth c n0 P h k n pc' Ls (.int (x &&& y) :: st)) : Run p l e R s m args below meth c n0 P h k n pc Ls (.int y :: .int x :: st) := by
  subst hp; exact Run.pure (fun T locs X _ t z => XS.iand X.here C.1 rfl (hb C.2.2.1 hd) rfl z) r
theorem s_ior (C : Ctx p l e R s m args below meth c Z own cd maxL ret nm) {x y : Int32} (hd : decode cd pc = .ok (.ior, 1)) (hp : pc + 1 = pc') (r : Run p l e R s m args below meth c n0 P h k n pc' Ls (.int (x ||| y) :: st)) : Run p l e R s m args below meth c n0 P h k n pc Ls (.int y :: .int x :: st) := by
  subst hp; exact Run.pure (fun T locs X _ t z => XS.ior X.here C.1 rfl (hb C.2.2.1 hd) rfl z) r
theorem s_ixor (C : Ctx p l e R s m args below meth c Z own cd maxL ret nm) {x y : Int32} (hd : decode cd pc = .ok (.ixor, 1)) (hp : pc + 1 = pc') (r : Run p l e R s m args below meth c n0 P h k n pc' Ls (.int (x ^^^ y) :: st)) : Run p l e R s m args below meth c n0 P h k n pc Ls (.int y :: .int x :: st) := by
  subst hp; exact Run.pure (fun T locs X _ t z => XS.ixor X.here C.1 rfl (hb C.2.2.1 hd) rfl z) r
theorem s_ishl (C : Ctx p l e R s m args below meth c Z own cd maxL ret nm) {x y : Int32} (hd : decode cd pc = .ok (.ishl, 1)) (hp : pc + 1 = pc') (r : Run p l e R s m args below meth c n0 P h k n pc' Ls (.int (x <<< (y &&& 31)) :: st)) : Run p l e R s m args below meth c n0 P h k n pc Ls (.int y :: .int x :: st) := by
  subst hp; exact Run.pure (fun T locs X _ t z => XS.ishl X.here C.1 rfl (hb C.2.2.1 hd) rfl z) r
theorem s_ishr (C : Ctx p l e R s m args below meth c Z own cd maxL ret nm) {x y : Int32} (hd : decode cd pc = .ok (.ishr, 1)) (hp : pc + 1 = pc') (r : Run p l e R s m args below meth c n0 P h k n pc' Ls (.int (x >>> (y &&& 31)) :: st)) : Run p l e R s m args below meth c n0 P h k n pc Ls (.int y :: .int x :: st) := by
  subst hp; exact Run.pure (fun T locs X _ t z => XS.ishr X.here C.1 rfl (hb C.2.2.1 hd) rfl z) r
theorem s_iushr (C : Ctx p l e R s m args below meth c Z own cd maxL ret nm) {x y : Int32} (hd : decode cd pc = .ok (.iushr, 1)) (hp : pc + 1 = pc') (r : Run p l e R s m args below meth c n0 P h k n pc' Ls (.int ((x.toUInt32 >>> (y &&& 31).toUInt32).toInt32) :: st)) : Run p l e R s m args below meth c n0 P h k n pc Ls (.int y :: .int x :: st) := by
  subst hp; exact Run.pure (fun T locs X _ t z => XS.iushr X.here C.1 rfl (hb C.2.2.1 hd) rfl z) r
theorem s_ladd (C : Ctx p l e R s m args below meth c Z own cd maxL ret nm) {x y : Int64} (hd : decode cd pc = .ok (.ladd, 1)) (hp : pc + 1 = pc') (r : Run p l e R s m args below meth c n0 P h k n pc' Ls (.long (x + y) :: st)) : Run p l e R s m args below meth c n0 P h k n pc Ls (.long y :: .long x :: st) := by
  subst hp; exact Run.pure (fun T locs X _ t z => XS.ladd X.here C.1 rfl (hb C.2.2.1 hd) rfl z) r
theorem s_lsub (C : Ctx p l e R s m args below meth c Z own cd maxL ret nm) {x y : Int64} (hd : decode cd pc = .ok (.lsub, 1)) (hp : pc + 1 = pc') (r : Run p l e R s m args below meth c n0 P h k n pc' Ls (.long (x - y) :: st)) : Run p l e R s m args below meth c n0 P h k n pc Ls (.long y :: .long x :: st) := by
  subst hp; exact Run.pure (fun T locs X _ t z => XS.lsub X.here C.1 rfl (hb C.2.2.1 hd) rfl z) r
theorem s_lmul (C : Ctx p l e R s m args below meth c Z own cd maxL ret nm) {x y : Int64} (hd : decode cd pc = .ok (.lmul, 1)) (hp : pc + 1 = pc') (r : Run p l e R s m args below meth c n0 P h k n pc' Ls (.long (x * y) :: st)) : Run p l e R s m args below meth c n0 P h k n pc Ls (.long y :: .long x :: st) := by
  subst hp; exact Run.pure (fun T locs X _ t z => XS.lmul X.here C.1 rfl (hb C.2.2.1 hd) rfl z) r
theorem s_land (C : Ctx p l e R s m args below meth c Z own cd maxL ret nm) {x y : Int64} (hd : decode cd pc = .ok (.land, 1)) (hp : pc + 1 = pc') (r : Run p l e R s m args below meth c n0 P h k n pc' Ls (.long (x &&& y) :: st)) : Run p l e R s m args below meth c n0 P h k n pc Ls (.long y :: .long x :: st) := by
  subst hp; exact Run.pure (fun T locs X _ t z => XS.land X.here C.1 rfl (hb C.2.2.1 hd) rfl z) r
theorem s_lor (C : Ctx p l e R s m args below meth c Z own cd maxL ret nm) {x y : Int64} (hd : decode cd pc = .ok (.lor, 1)) (hp : pc + 1 = pc') (r : Run p l e R s m args below meth c n0 P h k n pc' Ls (.long (x ||| y) :: st)) : Run p l e R s m args below meth c n0 P h k n pc Ls (.long y :: .long x :: st) := by
  subst hp; exact Run.pure (fun T locs X _ t z => XS.lor X.here C.1 rfl (hb C.2.2.1 hd) rfl z) r
theorem s_lxor (C : Ctx p l e R s m args below meth c Z own cd maxL ret nm) {x y : Int64} (hd : decode cd pc = .ok (.lxor, 1)) (hp : pc + 1 = pc') (r : Run p l e R s m args below meth c n0 P h k n pc' Ls (.long (x ^^^ y) :: st)) : Run p l e R s m args below meth c n0 P h k n pc Ls (.long y :: .long x :: st) := by
  subst hp; exact Run.pure (fun T locs X _ t z => XS.lxor X.here C.1 rfl (hb C.2.2.1 hd) rfl z) r
theorem s_lshl (C : Ctx p l e R s m args below meth c Z own cd maxL ret nm) {x : Int64} {y : Int32} (hd : decode cd pc = .ok (.lshl, 1)) (hp : pc + 1 = pc') (r : Run p l e R s m args below meth c n0 P h k n pc' Ls (.long (x <<< (y &&& 0x3f).toInt64) :: st)) : Run p l e R s m args below meth c n0 P h k n pc Ls (.int y :: .long x :: st) := by
  subst hp; exact Run.pure (fun T locs X _ t z => XS.lshl X.here C.1 rfl (hb C.2.2.1 hd) rfl z) r
theorem s_lshr (C : Ctx p l e R s m args below meth c Z own cd maxL ret nm) {x : Int64} {y : Int32} (hd : decode cd pc = .ok (.lshr, 1)) (hp : pc + 1 = pc') (r : Run p l e R s m args below meth c n0 P h k n pc' Ls (.long (x >>> (y &&& 0x3f).toInt64) :: st)) : Run p l e R s m args below meth c n0 P h k n pc Ls (.int y :: .long x :: st) := by
  subst hp; exact Run.pure (fun T locs X _ t z => XS.lshr X.here C.1 rfl (hb C.2.2.1 hd) rfl z) r
theorem s_lushr (C : Ctx p l e R s m args below meth c Z own cd maxL ret nm) {x : Int64} {y : Int32} (hd : decode cd pc = .ok (.lushr, 1)) (hp : pc + 1 = pc') (r : Run p l e R s m args below meth c n0 P h k n pc' Ls (.long ((x.toUInt64 >>> (y &&& 0x3f).toInt64.toUInt64).toInt64) :: st)) : Run p l e R s m args below meth c n0 P h k n pc Ls (.int y :: .long x :: st) := by
  subst hp; exact Run.pure (fun T locs X _ t z => XS.lushr X.here C.1 rfl (hb C.2.2.1 hd) rfl z) r
theorem s_idiv (C : Ctx p l e R s m args below meth c Z own cd maxL ret nm) {x y : Int32} (hd : decode cd pc = .ok (.idiv, 1)) (hp : pc + 1 = pc') (hy : y ≠ 0) (r : Run p l e R s m args below meth c n0 P h k n pc' Ls (.int (x / y) :: st)) : Run p l e R s m args below meth c n0 P h k n pc Ls (.int y :: .int x :: st) := by
  subst hp; exact Run.pure (fun T locs X _ t z => XS.idiv X.here C.1 rfl (hb C.2.2.1 hd) rfl hy z) r
theorem s_irem (C : Ctx p l e R s m args below meth c Z own cd maxL ret nm) {x y : Int32} (hd : decode cd pc = .ok (.irem, 1)) (hp : pc + 1 = pc') (hy : y ≠ 0) (r : Run p l e R s m args below meth c n0 P h k n pc' Ls (.int (x % y) :: st)) : Run p l e R s m args below meth c n0 P h k n pc Ls (.int y :: .int x :: st) := by
  subst hp; exact Run.pure (fun T locs X _ t z => iremM X C.1 (g := mkF m pc Ls (.int y :: .int x :: st)) rfl (hb C.2.2.1 hd) rfl hy z) r
theorem s_ldiv (C : Ctx p l e R s m args below meth c Z own cd maxL ret nm) {x y : Int64} (hd : decode cd pc = .ok (.ldiv, 1)) (hp : pc + 1 = pc') (hy : y ≠ 0) (r : Run p l e R s m args below meth c n0 P h k n pc' Ls (.long (x / y) :: st)) : Run p l e R s m args below meth c n0 P h k n pc Ls (.long y :: .long x :: st) := by
  subst hp; exact Run.pure (fun T locs X _ t z => XS.ldiv X.here C.1 rfl (hb C.2.2.1 hd) rfl hy z) r
theorem s_lrem (C : Ctx p l e R s m args below meth c Z own cd maxL ret nm) {x y : Int64} (hd : decode cd pc = .ok (.lrem, 1)) (hp : pc + 1 = pc') (hy : y ≠ 0) (r : Run p l e R s m args below meth c n0 P h k n pc' Ls (.long (x % y) :: st)) : Run p l e R s m args below meth c n0 P h k n pc Ls (.long y :: .long x :: st) := by
  subst hp; rw [← lrem_mod] at r; exact Run.pure (fun T locs X _ t z => XS.lrem X.here C.1 rfl (hb C.2.2.1 hd) rfl hy z) r
theorem s_ineg (C : Ctx p l e R s m args below meth c Z own cd maxL ret nm) {x : Int32} (hd : decode cd pc = .ok (.ineg, 1)) (hp : pc + 1 = pc') (r : Run p l e R s m args below meth c n0 P h k n pc' Ls (.int (-x) :: st)) : Run p l e R s m args below meth c n0 P h k n pc Ls (.int x :: st) := by
  subst hp; exact Run.pure (fun T locs X _ t z => XS.ineg X.here C.1 rfl (hb C.2.2.1 hd) rfl z) r
theorem s_lneg (C : Ctx p l e R s m args below meth c Z own cd maxL ret nm) {x : Int64} (hd : decode cd pc = .ok (.lneg, 1)) (hp : pc + 1 = pc') (r : Run p l e R s m args below meth c n0 P h k n pc' Ls (.long (-x) :: st)) : Run p l e R s m args below meth c n0 P h k n pc Ls (.long x :: st) := by
  subst hp; exact Run.pure (fun T locs X _ t z => XS.lneg X.here C.1 rfl (hb C.2.2.1 hd) rfl z) r
theorem s_i2l (C : Ctx p l e R s m args below meth c Z own cd maxL ret nm) {x : Int32} (hd : decode cd pc = .ok (.i2l, 1)) (hp : pc + 1 = pc') (r : Run p l e R s m args below meth c n0 P h k n pc' Ls (.long (x.toInt64) :: st)) : Run p l e R s m args below meth c n0 P h k n pc Ls (.int x :: st) := by
  subst hp; exact Run.pure (fun T locs X _ t z => XS.i2l X.here C.1 rfl (hb C.2.2.1 hd) rfl z) r
theorem s_l2i (C : Ctx p l e R s m args below meth c Z own cd maxL ret nm) {x : Int64} (hd : decode cd pc = .ok (.l2i, 1)) (hp : pc + 1 = pc') (r : Run p l e R s m args below meth c n0 P h k n pc' Ls (.int (x.toInt32) :: st)) : Run p l e R s m args below meth c n0 P h k n pc Ls (.long x :: st) := by
  subst hp; exact Run.pure (fun T locs X _ t z => XS.l2i X.here C.1 rfl (hb C.2.2.1 hd) rfl z) r
theorem s_i2b (C : Ctx p l e R s m args below meth c Z own cd maxL ret nm) {x : Int32} (hd : decode cd pc = .ok (.i2b, 1)) (hp : pc + 1 = pc') (r : Run p l e R s m args below meth c n0 P h k n pc' Ls (.int (x.toInt8.toInt32) :: st)) : Run p l e R s m args below meth c n0 P h k n pc Ls (.int x :: st) := by
  subst hp; exact Run.pure (fun T locs X _ t z => XS.i2b X.here C.1 rfl (hb C.2.2.1 hd) rfl z) r
theorem s_i2s (C : Ctx p l e R s m args below meth c Z own cd maxL ret nm) {x : Int32} (hd : decode cd pc = .ok (.i2s, 1)) (hp : pc + 1 = pc') (r : Run p l e R s m args below meth c n0 P h k n pc' Ls (.int (x.toInt16.toInt32) :: st)) : Run p l e R s m args below meth c n0 P h k n pc Ls (.int x :: st) := by
  subst hp; exact Run.pure (fun T locs X _ t z => XS.i2s X.here C.1 rfl (hb C.2.2.1 hd) rfl z) r
theorem s_i2c (C : Ctx p l e R s m args below meth c Z own cd maxL ret nm) {x : Int32} (hd : decode cd pc = .ok (.i2c, 1)) (hp : pc + 1 = pc') (r : Run p l e R s m args below meth c n0 P h k n pc' Ls (.int (x.toUInt32.toUInt16.toUInt32.toInt32) :: st)) : Run p l e R s m args below meth c n0 P h k n pc Ls (.int x :: st) := by
  subst hp; exact Run.pure (fun T locs X _ t z => XS.i2c X.here C.1 rfl (hb C.2.2.1 hd) rfl z) r
theorem s_lcmp (C : Ctx p l e R s m args below meth c Z own cd maxL ret nm) {x y : Int64} (hd : decode cd pc = .ok (.lcmp, 1)) (hp : pc + 1 = pc') (r : Run p l e R s m args below meth c n0 P h k n pc' Ls (.int (lcmpW x y) :: st)) : Run p l e R s m args below meth c n0 P h k n pc Ls (.long y :: .long x :: st) := by
  subst hp; exact Run.pure (fun T locs X _ t z => XS.lcmp X.here C.1 rfl (hb C.2.2.1 hd) rfl z) r
theorem s_goto (C : Ctx p l e R s m args below meth c Z own cd maxL ret nm) {o : Int} (hd : decode cd pc = .ok (.goto o, 3)) (hp : (pc : Int) + o = (pc' : Int)) (r : Run p l e R s m args below meth c n0 P h k n pc' Ls st) : Run p l e R s m args below meth c n0 P h k n pc Ls st :=
  Run.pure (fun T locs X _ t z => XS.goto X.here C.1 rfl (pc0 := pc) rfl (hb C.2.2.1 hd) (by omega) (by omega) z) r
theorem s_dup (C : Ctx p l e R s m args below meth c Z own cd maxL ret nm) {v : Value} (hd : decode cd pc = .ok (.dup, 1)) (hp : pc + 1 = pc') (hc : v.category = 1) (r : Run p l e R s m args below meth c n0 P h k n pc' Ls (v :: v :: st)) : Run p l e R s m args below meth c n0 P h k n pc Ls (v :: st) := by
  subst hp; exact Run.pure (fun T locs X _ t z => XS.dup X.here C.1 rfl (hb C.2.2.1 hd) rfl hc z) r
theorem s_pop (C : Ctx p l e R s m args below meth c Z own cd maxL ret nm) {v : Value} (hd : decode cd pc = .ok (.pop, 1)) (hp : pc + 1 = pc') (hc : v.category = 1) (r : Run p l e R s m args below meth c n0 P h k n pc' Ls st) : Run p l e R s m args below meth c n0 P h k n pc Ls (v :: st) := by
  subst hp; exact Run.pure (fun T locs X _ t z => XS.pop X.here C.1 rfl (hb C.2.2.1 hd) rfl hc z) r
theorem s_dup2 (C : Ctx p l e R s m args below meth c Z own cd maxL ret nm) {v w : Value} (hd : decode cd pc = .ok (.dup2, 1)) (hp : pc + 1 = pc') (hc : v.category = 1) (hc' : w.category = 1) (r : Run p l e R s m args below meth c n0 P h k n pc' Ls (v :: w :: v :: w :: st)) : Run p l e R s m args below meth c n0 P h k n pc Ls (v :: w :: st) := by
  subst hp; exact Run.pure (fun T locs X _ t z => XT.dup2 X.here C.1 rfl (hb C.2.2.1 hd) rfl hc hc' z) r
theorem s_dupX1 (C : Ctx p l e R s m args below meth c Z own cd maxL ret nm) {v w : Value} (hd : decode cd pc = .ok (.dup_x1, 1)) (hp : pc + 1 = pc') (hc : v.category = 1) (hc' : w.category = 1) (r : Run p l e R s m args below meth c n0 P h k n pc' Ls (v :: w :: v :: st)) : Run p l e R s m args below meth c n0 P h k n pc Ls (v :: w :: st) := by
  subst hp; exact Run.pure (fun T locs X _ t z => XS.dupX1 X.here C.1 rfl (hb C.2.2.1 hd) rfl hc hc' z) r
/-! branches -/
theorem s_if (C : Ctx p l e R s m args below meth c Z own cd maxL ret nm) {cc : ClassFile.Cond} {o : Int} {x : Int32} {pcY : Nat} (hd : decode cd pc = .ok (.ifCond cc o, 3)) (hp : pc + 3 = pc') (ho : (pc : Int) + o = (pcY : Int)) (rY : if_icmp.holds cc x 0 = true → Run p l e R s m args below meth c n0 P h k n pcY Ls st) (rN : if_icmp.holds cc x 0 = false → Run p l e R s m args below meth c n0 P h k n pc' Ls st) : Run p l e R s m args below meth c n0 P h k n pc Ls (.int x :: st) := by
  subst hp
  cases hq : if_icmp.holds cc x 0
  · exact Run.pure (fun T locs X _ t z => XS.ifNo X.here C.1 rfl (hb C.2.2.1 hd) rfl ((if0 _ _).trans hq) z) (rN hq)
  · exact Run.pure (fun T locs X _ t z => XS.ifYes X.here C.1 rfl (pc0 := pc) rfl (hb C.2.2.1 hd) rfl ((if0 _ _).trans hq) (by omega) (by omega) z) (rY hq)
theorem s_icmp (C : Ctx p l e R s m args below meth c Z own cd maxL ret nm) {cc : ClassFile.Cond} {o : Int} {x y : Int32} {pcY : Nat} (hd : decode cd pc = .ok (.if_icmp cc o, 3)) (hp : pc + 3 = pc') (ho : (pc : Int) + o = (pcY : Int)) (rY : if_icmp.holds cc x y = true → Run p l e R s m args below meth c n0 P h k n pcY Ls st) (rN : if_icmp.holds cc x y = false → Run p l e R s m args below meth c n0 P h k n pc' Ls st) : Run p l e R s m args below meth c n0 P h k n pc Ls (.int y :: .int x :: st) := by
  subst hp
  cases hq : if_icmp.holds cc x y
  · exact Run.pure (fun T locs X _ t z => XS.icmpNo X.here C.1 rfl (hb C.2.2.1 hd) rfl hq z) (rN hq)
  · exact Run.pure (fun T locs X _ t z => XS.icmpYes X.here C.1 rfl (pc0 := pc) rfl (hb C.2.2.1 hd) rfl hq (by omega) (by omega) z) (rY hq)
theorem holds_lt {x y : Int32} : (if_icmp.holds .lt x y = true → x < y) ∧ (if_icmp.holds .lt x y = false → ¬ x < y) := ⟨fun h => by simpa [if_icmp.holds] using h, fun h q => by simp [if_icmp.holds, q] at h⟩
theorem holds_ge {x y : Int32} : (if_icmp.holds .ge x y = true → ¬ x < y) ∧ (if_icmp.holds .ge x y = false → x < y) := ⟨fun h q => (by rw [(tlt q).2.1] at h; cases h), fun h => Decidable.byContradiction fun q => (by rw [(flt q).2.1] at h; cases h)⟩
theorem holds_gt {x y : Int32} : (if_icmp.holds .gt x y = true → y < x) ∧ (if_icmp.holds .gt x y = false → ¬ y < x) := ⟨fun h => Decidable.byContradiction fun q => (by rw [(flt q).2.2.1] at h; cases h), fun h q => (by rw [(tlt q).2.2.1] at h; cases h)⟩
theorem holds_le {x y : Int32} : (if_icmp.holds .le x y = true → ¬ y < x) ∧ (if_icmp.holds .le x y = false → y < x) := ⟨fun h q => (by rw [(tlt q).2.2.2] at h; cases h), fun h => Decidable.byContradiction fun q => (by rw [(flt q).2.2.2] at h; cases h)⟩
theorem holds_eq {x y : Int32} : (if_icmp.holds .eq x y = true → x = y) ∧ (if_icmp.holds .eq x y = false → ¬ x = y) := ⟨fun h => Decidable.byContradiction fun q => (by rw [(feq q).1] at h; cases h), fun h q => (by rw [(teq q).1] at h; cases h)⟩
theorem holds_ne {x y : Int32} : (if_icmp.holds .ne x y = true → ¬ x = y) ∧ (if_icmp.holds .ne x y = false → x = y) := ⟨fun h q => (by rw [(teq q).2] at h; cases h), fun h => Decidable.byContradiction fun q => (by rw [(feq q).2] at h; cases h)⟩
theorem s_if_lt (C : Ctx p l e R s m args below meth c Z own cd maxL ret nm) {o : Int} {x : Int32} {pcY : Nat} (hd : decode cd pc = .ok (.ifCond .lt o, 3)) (hp : pc + 3 = pc') (ho : (pc : Int) + o = (pcY : Int)) (rY : x < (0 : Int32) → Run p l e R s m args below meth c n0 P h k n pcY Ls st) (rN : ¬ x < (0 : Int32) → Run p l e R s m args below meth c n0 P h k n pc' Ls st) : Run p l e R s m args below meth c n0 P h k n pc Ls (.int x :: st) :=
  s_if C hd hp ho (fun h => rY (holds_lt.1 h)) (fun h => rN (holds_lt.2 h))
theorem s_icmp_lt (C : Ctx p l e R s m args below meth c Z own cd maxL ret nm) {o : Int} {x y : Int32} {pcY : Nat} (hd : decode cd pc = .ok (.if_icmp .lt o, 3)) (hp : pc + 3 = pc') (ho : (pc : Int) + o = (pcY : Int)) (rY : x < y → Run p l e R s m args below meth c n0 P h k n pcY Ls st) (rN : ¬ x < y → Run p l e R s m args below meth c n0 P h k n pc' Ls st) : Run p l e R s m args below meth c n0 P h k n pc Ls (.int y :: .int x :: st) :=
  s_icmp C hd hp ho (fun h => rY (holds_lt.1 h)) (fun h => rN (holds_lt.2 h))
theorem s_lc_lt (C : Ctx p l e R s m args below meth c Z own cd maxL ret nm) {o : Int} {x y : Int64} {pc1 pcY : Nat} (hd : decode cd pc = .ok (.lcmp, 1)) (hp1 : pc + 1 = pc1) (hd2 : decode cd pc1 = .ok (.ifCond .lt o, 3)) (hp : pc1 + 3 = pc') (ho : (pc1 : Int) + o = (pcY : Int)) (rY : x < y → Run p l e R s m args below meth c n0 P h k n pcY Ls st) (rN : ¬ x < y → Run p l e R s m args below meth c n0 P h k n pc' Ls st) : Run p l e R s m args below meth c n0 P h k n pc Ls (.long y :: .long x :: st) :=
  s_lcmp C hd hp1 (s_if_lt C hd2 hp ho (fun h => rY ((lw_lt x y).mp h)) (fun h => rN (fun q => h ((lw_lt x y).mpr q))))
theorem s_if_ge (C : Ctx p l e R s m args below meth c Z own cd maxL ret nm) {o : Int} {x : Int32} {pcY : Nat} (hd : decode cd pc = .ok (.ifCond .ge o, 3)) (hp : pc + 3 = pc') (ho : (pc : Int) + o = (pcY : Int)) (rY : ¬ x < (0 : Int32) → Run p l e R s m args below meth c n0 P h k n pcY Ls st) (rN : x < (0 : Int32) → Run p l e R s m args below meth c n0 P h k n pc' Ls st) : Run p l e R s m args below meth c n0 P h k n pc Ls (.int x :: st) :=
  s_if C hd hp ho (fun h => rY (holds_ge.1 h)) (fun h => rN (holds_ge.2 h))
theorem s_icmp_ge (C : Ctx p l e R s m args below meth c Z own cd maxL ret nm) {o : Int} {x y : Int32} {pcY : Nat} (hd : decode cd pc = .ok (.if_icmp .ge o, 3)) (hp : pc + 3 = pc') (ho : (pc : Int) + o = (pcY : Int)) (rY : ¬ x < y → Run p l e R s m args below meth c n0 P h k n pcY Ls st) (rN : x < y → Run p l e R s m args below meth c n0 P h k n pc' Ls st) : Run p l e R s m args below meth c n0 P h k n pc Ls (.int y :: .int x :: st) :=
  s_icmp C hd hp ho (fun h => rY (holds_ge.1 h)) (fun h => rN (holds_ge.2 h))
theorem s_lc_ge (C : Ctx p l e R s m args below meth c Z own cd maxL ret nm) {o : Int} {x y : Int64} {pc1 pcY : Nat} (hd : decode cd pc = .ok (.lcmp, 1)) (hp1 : pc + 1 = pc1) (hd2 : decode cd pc1 = .ok (.ifCond .ge o, 3)) (hp : pc1 + 3 = pc') (ho : (pc1 : Int) + o = (pcY : Int)) (rY : ¬ x < y → Run p l e R s m args below meth c n0 P h k n pcY Ls st) (rN : x < y → Run p l e R s m args below meth c n0 P h k n pc' Ls st) : Run p l e R s m args below meth c n0 P h k n pc Ls (.long y :: .long x :: st) :=
  s_lcmp C hd hp1 (s_if_ge C hd2 hp ho (fun h => rY (fun q => h ((lw_lt x y).mpr q))) (fun h => rN ((lw_lt x y).mp h)))
theorem s_if_gt (C : Ctx p l e R s m args below meth c Z own cd maxL ret nm) {o : Int} {x : Int32} {pcY : Nat} (hd : decode cd pc = .ok (.ifCond .gt o, 3)) (hp : pc + 3 = pc') (ho : (pc : Int) + o = (pcY : Int)) (rY : (0 : Int32) < x → Run p l e R s m args below meth c n0 P h k n pcY Ls st) (rN : ¬ (0 : Int32) < x → Run p l e R s m args below meth c n0 P h k n pc' Ls st) : Run p l e R s m args below meth c n0 P h k n pc Ls (.int x :: st) :=
  s_if C hd hp ho (fun h => rY (holds_gt.1 h)) (fun h => rN (holds_gt.2 h))
theorem s_icmp_gt (C : Ctx p l e R s m args below meth c Z own cd maxL ret nm) {o : Int} {x y : Int32} {pcY : Nat} (hd : decode cd pc = .ok (.if_icmp .gt o, 3)) (hp : pc + 3 = pc') (ho : (pc : Int) + o = (pcY : Int)) (rY : y < x → Run p l e R s m args below meth c n0 P h k n pcY Ls st) (rN : ¬ y < x → Run p l e R s m args below meth c n0 P h k n pc' Ls st) : Run p l e R s m args below meth c n0 P h k n pc Ls (.int y :: .int x :: st) :=
  s_icmp C hd hp ho (fun h => rY (holds_gt.1 h)) (fun h => rN (holds_gt.2 h))
theorem s_lc_gt (C : Ctx p l e R s m args below meth c Z own cd maxL ret nm) {o : Int} {x y : Int64} {pc1 pcY : Nat} (hd : decode cd pc = .ok (.lcmp, 1)) (hp1 : pc + 1 = pc1) (hd2 : decode cd pc1 = .ok (.ifCond .gt o, 3)) (hp : pc1 + 3 = pc') (ho : (pc1 : Int) + o = (pcY : Int)) (rY : y < x → Run p l e R s m args below meth c n0 P h k n pcY Ls st) (rN : ¬ y < x → Run p l e R s m args below meth c n0 P h k n pc' Ls st) : Run p l e R s m args below meth c n0 P h k n pc Ls (.long y :: .long x :: st) :=
  s_lcmp C hd hp1 (s_if_gt C hd2 hp ho (fun h => rY ((lw_gt x y).mp h)) (fun h => rN (fun q => h ((lw_gt x y).mpr q))))
theorem s_if_le (C : Ctx p l e R s m args below meth c Z own cd maxL ret nm) {o : Int} {x : Int32} {pcY : Nat} (hd : decode cd pc = .ok (.ifCond .le o, 3)) (hp : pc + 3 = pc') (ho : (pc : Int) + o = (pcY : Int)) (rY : ¬ (0 : Int32) < x → Run p l e R s m args below meth c n0 P h k n pcY Ls st) (rN : (0 : Int32) < x → Run p l e R s m args below meth c n0 P h k n pc' Ls st) : Run p l e R s m args below meth c n0 P h k n pc Ls (.int x :: st) :=
  s_if C hd hp ho (fun h => rY (holds_le.1 h)) (fun h => rN (holds_le.2 h))
theorem s_icmp_le (C : Ctx p l e R s m args below meth c Z own cd maxL ret nm) {o : Int} {x y : Int32} {pcY : Nat} (hd : decode cd pc = .ok (.if_icmp .le o, 3)) (hp : pc + 3 = pc') (ho : (pc : Int) + o = (pcY : Int)) (rY : ¬ y < x → Run p l e R s m args below meth c n0 P h k n pcY Ls st) (rN : y < x → Run p l e R s m args below meth c n0 P h k n pc' Ls st) : Run p l e R s m args below meth c n0 P h k n pc Ls (.int y :: .int x :: st) :=
  s_icmp C hd hp ho (fun h => rY (holds_le.1 h)) (fun h => rN (holds_le.2 h))
theorem s_lc_le (C : Ctx p l e R s m args below meth c Z own cd maxL ret nm) {o : Int} {x y : Int64} {pc1 pcY : Nat} (hd : decode cd pc = .ok (.lcmp, 1)) (hp1 : pc + 1 = pc1) (hd2 : decode cd pc1 = .ok (.ifCond .le o, 3)) (hp : pc1 + 3 = pc') (ho : (pc1 : Int) + o = (pcY : Int)) (rY : ¬ y < x → Run p l e R s m args below meth c n0 P h k n pcY Ls st) (rN : y < x → Run p l e R s m args below meth c n0 P h k n pc' Ls st) : Run p l e R s m args below meth c n0 P h k n pc Ls (.long y :: .long x :: st) :=
  s_lcmp C hd hp1 (s_if_le C hd2 hp ho (fun h => rY (fun q => h ((lw_gt x y).mpr q))) (fun h => rN ((lw_gt x y).mp h)))
theorem s_if_eq (C : Ctx p l e R s m args below meth c Z own cd maxL ret nm) {o : Int} {x : Int32} {pcY : Nat} (hd : decode cd pc = .ok (.ifCond .eq o, 3)) (hp : pc + 3 = pc') (ho : (pc : Int) + o = (pcY : Int)) (rY : x = (0 : Int32) → Run p l e R s m args below meth c n0 P h k n pcY Ls st) (rN : ¬ x = (0 : Int32) → Run p l e R s m args below meth c n0 P h k n pc' Ls st) : Run p l e R s m args below meth c n0 P h k n pc Ls (.int x :: st) :=
  s_if C hd hp ho (fun h => rY (holds_eq.1 h)) (fun h => rN (holds_eq.2 h))
theorem s_icmp_eq (C : Ctx p l e R s m args below meth c Z own cd maxL ret nm) {o : Int} {x y : Int32} {pcY : Nat} (hd : decode cd pc = .ok (.if_icmp .eq o, 3)) (hp : pc + 3 = pc') (ho : (pc : Int) + o = (pcY : Int)) (rY : x = y → Run p l e R s m args below meth c n0 P h k n pcY Ls st) (rN : ¬ x = y → Run p l e R s m args below meth c n0 P h k n pc' Ls st) : Run p l e R s m args below meth c n0 P h k n pc Ls (.int y :: .int x :: st) :=
  s_icmp C hd hp ho (fun h => rY (holds_eq.1 h)) (fun h => rN (holds_eq.2 h))
theorem s_lc_eq (C : Ctx p l e R s m args below meth c Z own cd maxL ret nm) {o : Int} {x y : Int64} {pc1 pcY : Nat} (hd : decode cd pc = .ok (.lcmp, 1)) (hp1 : pc + 1 = pc1) (hd2 : decode cd pc1 = .ok (.ifCond .eq o, 3)) (hp : pc1 + 3 = pc') (ho : (pc1 : Int) + o = (pcY : Int)) (rY : x = y → Run p l e R s m args below meth c n0 P h k n pcY Ls st) (rN : ¬ x = y → Run p l e R s m args below meth c n0 P h k n pc' Ls st) : Run p l e R s m args below meth c n0 P h k n pc Ls (.long y :: .long x :: st) :=
  s_lcmp C hd hp1 (s_if_eq C hd2 hp ho (fun h => rY ((lw_eq x y).mp h)) (fun h => rN (fun q => h ((lw_eq x y).mpr q))))
theorem s_if_ne (C : Ctx p l e R s m args below meth c Z own cd maxL ret nm) {o : Int} {x : Int32} {pcY : Nat} (hd : decode cd pc = .ok (.ifCond .ne o, 3)) (hp : pc + 3 = pc') (ho : (pc : Int) + o = (pcY : Int)) (rY : ¬ x = (0 : Int32) → Run p l e R s m args below meth c n0 P h k n pcY Ls st) (rN : x = (0 : Int32) → Run p l e R s m args below meth c n0 P h k n pc' Ls st) : Run p l e R s m args below meth c n0 P h k n pc Ls (.int x :: st) :=
  s_if C hd hp ho (fun h => rY (holds_ne.1 h)) (fun h => rN (holds_ne.2 h))
theorem s_icmp_ne (C : Ctx p l e R s m args below meth c Z own cd maxL ret nm) {o : Int} {x y : Int32} {pcY : Nat} (hd : decode cd pc = .ok (.if_icmp .ne o, 3)) (hp : pc + 3 = pc') (ho : (pc : Int) + o = (pcY : Int)) (rY : ¬ x = y → Run p l e R s m args below meth c n0 P h k n pcY Ls st) (rN : x = y → Run p l e R s m args below meth c n0 P h k n pc' Ls st) : Run p l e R s m args below meth c n0 P h k n pc Ls (.int y :: .int x :: st) :=
  s_icmp C hd hp ho (fun h => rY (holds_ne.1 h)) (fun h => rN (holds_ne.2 h))
theorem s_lc_ne (C : Ctx p l e R s m args below meth c Z own cd maxL ret nm) {o : Int} {x y : Int64} {pc1 pcY : Nat} (hd : decode cd pc = .ok (.lcmp, 1)) (hp1 : pc + 1 = pc1) (hd2 : decode cd pc1 = .ok (.ifCond .ne o, 3)) (hp : pc1 + 3 = pc') (ho : (pc1 : Int) + o = (pcY : Int)) (rY : ¬ x = y → Run p l e R s m args below meth c n0 P h k n pcY Ls st) (rN : x = y → Run p l e R s m args below meth c n0 P h k n pc' Ls st) : Run p l e R s m args below meth c n0 P h k n pc Ls (.long y :: .long x :: st) :=
  s_lcmp C hd hp1 (s_if_ne C hd2 hp ho (fun h => rY (fun q => h ((lw_eq x y).mpr q))) (fun h => rN ((lw_eq x y).mp h)))
theorem s_ifnullR (C : Ctx p l e R s m args below meth c Z own cd maxL ret nm) {o : Int} {b : Addr} (hd : decode cd pc = .ok (.ifnull o, 3)) (hp : pc + 3 = pc') (r : Run p l e R s m args below meth c n0 P h k n pc' Ls st) : Run p l e R s m args below meth c n0 P h k n pc Ls (.ref b :: st) := by
  subst hp; exact Run.pure (fun T locs X _ t z => XS.ifnullNo X.here C.1 rfl (hb C.2.2.1 hd) rfl z) r
theorem s_ifnullN (C : Ctx p l e R s m args below meth c Z own cd maxL ret nm) {o : Int} (hd : decode cd pc = .ok (.ifnull o, 3)) (hp : (pc : Int) + o = (pc' : Int)) (r : Run p l e R s m args below meth c n0 P h k n pc' Ls st) : Run p l e R s m args below meth c n0 P h k n pc Ls (.null :: st) :=
  Run.pure (fun T locs X _ t z => XS.ifnullYes X.here C.1 rfl (pc0 := pc) rfl (hb C.2.2.1 hd) rfl (by omega) (by omega) z) r
theorem s_ifnonnullR (C : Ctx p l e R s m args below meth c Z own cd maxL ret nm) {o : Int} {b : Addr} (hd : decode cd pc = .ok (.ifnonnull o, 3)) (hp : (pc : Int) + o = (pc' : Int)) (r : Run p l e R s m args below meth c n0 P h k n pc' Ls st) : Run p l e R s m args below meth c n0 P h k n pc Ls (.ref b :: st) :=
  Run.pure (fun T locs X _ t z => XS.ifnonnullYes X.here C.1 rfl (pc0 := pc) rfl (hb C.2.2.1 hd) rfl (by omega) (by omega) z) r
theorem s_ifnonnullN (C : Ctx p l e R s m args below meth c Z own cd maxL ret nm) {o : Int} (hd : decode cd pc = .ok (.ifnonnull o, 3)) (hp : pc + 3 = pc') (r : Run p l e R s m args below meth c n0 P h k n pc' Ls st) : Run p l e R s m args below meth c n0 P h k n pc Ls (.null :: st) := by
  subst hp; exact Run.pure (fun T locs X _ t z => XS.ifnonnullNo X.here C.1 rfl (hb C.2.2.1 hd) rfl z) r
theorem s_acmp (C : Ctx p l e R s m args below meth c Z own cd maxL ret nm) {cc : ClassFile.ACond} {o : Int} {x y : Value} {same : Bool} (hd : decode cd pc = .ok (.if_acmp cc o, 3)) (h1 : x.isRef = true) (h2 : y.isRef = true) (hq : decide (x = y) = same) (ho : 0 ≤ (pc : Int) + o) (hp : pc' = if acV cc same = true then ((pc : Int) + o).toNat else pc + 3) (r : Run p l e R s m args below meth c n0 P h k n pc' Ls st) : Run p l e R s m args below meth c n0 P h k n pc Ls (y :: x :: st) :=
  Run.pure (fun T locs X _ t z => Jvm.RoadKit.acmp (g := mkF m pc Ls (y :: x :: st)) X C.1 rfl h1 h2 rfl (hb C.2.2.1 hd) rfl hq ho hp z) r
/-! returns -/
theorem Run.out {v : Option Value} (C : Ctx p l e R s m args below meth c Z own cd maxL ret nm) (hv : ret = none → v = none) (f : ∀ T locs, Stand p l e R s m args below meth c T locs k n → ∀ fs, (∀ (f : JFrame) (acts : List Action), f.method = m → f.locked = none → f.entered = [] → (doReturn e (T.setTop f) acts v).1 = T.setFrames fs) → Steps p.tables e below (T.setTop (mkF m pc Ls st)) (T.setFrames fs)) (hk : k ≤ R.cells) (hn : n ≤ R.slots) (hP : P v h) : Run p l e R s m args below meth c n0 P h k n pc Ls st := fun T locs X eT N => by
  obtain ⟨fs, hr, hrun, hended, hW, hsame⟩ := X.leave (v := v) (fun h => hv (C.2.2.2.2.2.1 ▸ h)) C.2.2.2.2.2.2.1
  exact ⟨_, _, f T locs X fs hr, hrun, hended, _, _, rfl, ⟨(by rw [show (T.setFrames fs).heap = h from eT]; exact hP), N⟩, ⟨_, rfl⟩, hW, hsame.mono hk hn⟩
theorem s_retI {Q : Int32 → Heap → Prop} (C : Ctx p l e R s m args below meth c Z own cd maxL (some .int) nm) {z : Int32} (hd : decode cd pc = .ok (.ireturn, 1)) (hk : k ≤ R.cells) (hn : n ≤ R.slots) (hQ : Q z h) : Run p l e R s m args below meth c n0 (RetI Q) h k n pc Ls (.int z :: st) :=
  Run.out C (fun h => by cases h) (fun T locs X fs hr => retOut X C.1 C.2.2.2.2.2.1 rfl (Or.inl ⟨rfl, Or.inl rfl, _, rfl⟩) (hb C.2.2.1 hd) hr) hk hn ⟨_, rfl, hQ⟩
theorem s_retN {Q : Int32 → Heap → Prop} {t : FieldType} (C : Ctx p l e R s m args below meth c Z own cd maxL (some t) nm) (ht : t = .boolean ∨ t = .byte ∨ t = .char ∨ t = .short) {z : Int32} (hd : decode cd pc = .ok (.ireturn, 1)) (hk : k ≤ R.cells) (hn : n ≤ R.slots) (hQ : Q (nar t z) h) : Run p l e R s m args below meth c n0 (RetI Q) h k n pc Ls (.int z :: st) :=
  Run.out C (fun h => by cases h) (fun T locs X fs hr => retN X C.1 C.2.2.2.2.2.1 ht (hb C.2.2.1 hd) hr) hk hn ⟨_, rfl, hQ⟩
theorem s_retL {Q : Int64 → Heap → Prop} (C : Ctx p l e R s m args below meth c Z own cd maxL (some .long) nm) {z : Int64} (hd : decode cd pc = .ok (.lreturn, 1)) (hk : k ≤ R.cells) (hn : n ≤ R.slots) (hQ : Q z h) : Run p l e R s m args below meth c n0 (RetL Q) h k n pc Ls (.long z :: st) :=
  Run.out C (fun h => by cases h) (fun T locs X fs hr => retOut X C.1 C.2.2.2.2.2.1 rfl (Or.inr (Or.inl ⟨rfl, rfl, _, rfl⟩)) (hb C.2.2.1 hd) hr) hk hn ⟨_, rfl, hQ⟩
theorem s_retA {Q : Value → Heap → Prop} {t : FieldType} (C : Ctx p l e R s m args below meth c Z own cd maxL (some t) nm) (ht : t.isReference = true) {v : Value} (hv : v.isRef = true) (hn' : narrow t v = v) (hd : decode cd pc = .ok (.areturn, 1)) (hk : k ≤ R.cells) (hn : n ≤ R.slots) (hQ : Q v h) : Run p l e R s m args below meth c n0 (RetV Q) h k n pc Ls (v :: st) :=
  Run.out C (fun h => by cases h) (fun T locs X fs hr => retOut X C.1 C.2.2.2.2.2.1 hn' (Or.inr (Or.inr (Or.inr (Or.inr ⟨rfl, ht, hv⟩)))) (hb C.2.2.1 hd) hr) hk hn ⟨_, rfl, hQ⟩
theorem s_ret0 {Q : Heap → Prop} (C : Ctx p l e R s m args below meth c Z own cd maxL none nm) (hd : decode cd pc = .ok (.return_, 1)) (hk : k ≤ R.cells) (hn : n ≤ R.slots) (hQ : Q h) : Run p l e R s m args below meth c n0 (Ret0 Q) h k n pc Ls [] :=
  Run.out C (fun _ => rfl) (fun T locs X fs hr => X.returnOut C.1 C.2.2.2.2.2.1 (hb C.2.2.1 hd) hr) hk hn ⟨rfl, hQ⟩
/-! fields, objects -/
theorem s_getF (C : Ctx p l e R s m args below meth c Z own cd maxL ret nm) {O f d : String} {i : Nat} {a : Addr} {v : Value} (hd : decode cd pc = .ok (.getfield i, 3)) (hp : pc + 3 = pc') (w : (Jvm.Cond.fieldLink own i O f d).before a0 Z = true) (F : Fld Z h a O f d v) (r : Run p l e R s m args below meth c n0 P h k n pc' Ls (v :: st)) : Run p l e R s m args below meth c n0 P h k n pc Ls (.ref a :: st) := by
  subst hp; exact Run.warm (fun T locs X eT => getF X C.1 C.2.1 C.2.2.2.2.1 (host := "") (Or.inl w) Via.refl eT F (g := mkF m pc Ls (.ref a :: st)) rfl rfl (hb C.2.2.1 hd)) r
theorem s_getS (C : Ctx p l e R s m args below meth c Z own cd maxL ret nm) {O f d : String} {i : Nat} {v : Value} (hd : decode cd pc = .ok (.getstatic i, 3)) (hp : pc + 3 = pc') (w : (Jvm.Cond.fieldLink own i O f d).before a0 Z = true) (F : Sta Z h O f d v) (r : Run p l e R s m args below meth c n0 P h k n pc' Ls (v :: st)) : Run p l e R s m args below meth c n0 P h k n pc Ls st := by
  subst hp; exact Run.warm (fun T locs X eT => getS (host := "") X C.1 C.2.1 C.2.2.2.2.1 w Via.refl eT F (g := mkF m pc Ls st) rfl (hb C.2.2.1 hd)) r
theorem s_putF (C : Ctx p l e R s m args below meth c Z own cd maxL ret nm) {O f d K : String} {i kk : Nat} {a : Addr} {v old : Value} {ty : FieldType} (hd : decode cd pc = .ok (.putfield i, 3)) (hp : pc + 3 = pc') (w : (Jvm.Cond.fieldLink own i O f d).before a0 Z = true) (F : Fld Z h a O f d old) (E : Exa Z h a K)
    (L : (Jvm.Cond.lays K O f d).before a0 Z = true ∨ ((Jvm.Cond.laysFinal K O f d).before a0 Z = true ∧ own = O ∧ nm = "<init>")) (wi : (Jvm.Cond.instantiable K kk).before a0 Z = true) (hty : parseFieldDescriptor d = some ty) (hn : narrow ty v = v) (hf : fits ty v = true) (ha : n0 ≤ a)
    (r : ∀ h', Wr h h' a (Jvm.RoadKit.slotOf Z O f d) v → Run p l e R s m args below meth c n0 P h' k n pc' Ls st) : Run p l e R s m args below meth c n0 P h k n pc Ls (v :: .ref a :: st) := by
  subst hp
  intro T locs X eT N
  obtain ⟨T', h', X', e', W, q⟩ := putF X C.1 C.2.1 C.2.2.2.2.1 (host := "") (Or.inl w) Via.refl eT F E (L.imp id fun z => ⟨z.1, z.2.1, C.2.2.2.2.2.2.2.trans z.2.2⟩) wi hty hn hf (g := mkF m pc Ls (v :: .ref a :: st)) rfl rfl (hb C.2.2.1 hd)
  obtain ⟨s₂, o, z, r⟩ := r h' W T' _ X' e' (Fr.snoc X' N ha)
  exact ⟨s₂, o, q _ z, r⟩
theorem s_new (C : Ctx p l e R s m args below meth c Z own cd maxL ret nm) {K : String} {i sl k' n' : Nat} (hd : decode cd pc = .ok (.new i, 3)) (hp : pc + 3 = pc') (w : (Jvm.Cond.classLink own i K).before a0 Z = true) (wi : (Jvm.Cond.instantiable K sl).before a0 Z = true) (wz : (Jvm.Cond.initialized K).before a0 Z = true) (hk : k + 1 = k') (hk' : k' ≤ R.cells) (hn : n + sl = n') (hn' : n' ≤ R.slots)
    (r : ∀ h' a, Ext h h' → a = h.size → Exa Z h' a K → (∀ {O nm d : String} {ty : FieldType}, Laid Z a0 K O nm d → parseFieldDescriptor d = some ty → Fld Z h' a O nm d (defaultValue ty)) → Run p l e R s m args below meth c n0 P h' k' n' pc' Ls (.ref a :: st)) : Run p l e R s m args below meth c n0 P h k n pc Ls st := by
  subst hp hk hn
  intro T locs X eT N
  obtain ⟨T', h', X', e', E, A, D, -, q⟩ := newO X C.1 C.2.1 C.2.2.2.2.1 w wi wz eT (g := mkF m pc Ls st) rfl (hb C.2.2.1 hd) hk' hn'
  obtain ⟨s₂, o, z, r⟩ := r h' _ E rfl A D T' _ X' e' N
  exact ⟨s₂, o, q _ z, r⟩
theorem s_initO (C : Ctx p l e R s m args below meth c Z own cd maxL ret nm) {i W : Nat} {a : Addr} (hd : decode cd pc = .ok (.invokespecial i, 3)) (hp : pc + 3 = pc') (w1 : (Jvm.Cond.methodLink own i Lib.objectInit).before a0 Z = true) (w2 : (Jvm.Cond.instanceMethod Lib.objectInit).before a0 Z = true) (w3 : (Jvm.Cond.code Lib.objectInit ⟨#[0xb1]⟩ 1 none).before a0 Z = true) (hs : Ls.size = maxL) (hf : 1 ≤ R.frames) (hW : (st.map fun v => v.category).sum = W) (hl : W + 12 ≤ R.locals)
    (r : Run p l e R s m args below meth c n0 P h k n pc' Ls st) : Run p l e R s m args below meth c n0 P h k n pc Ls (.ref a :: st) := by
  subst hp; exact Run.warm (fun T locs X eT => initO X C.1 C.2.1 C.2.2.2.2.1 w1 w2 w3 eT (g := mkF m pc Ls (.ref a :: st)) rfl (by rw [C.2.2.2.1]; exact hs) rfl (hb C.2.2.1 hd) hf (W := W) (by show 2 * 0 + _ ≤ _; omega) hl) r
theorem s_cast (C : Ctx p l e R s m args below meth c Z own cd maxL ret nm) {K : String} {i : Nat} {a : Addr} (hd : decode cd pc = .ok (.checkcast i, 3)) (hp : pc + 3 = pc') (w : (Jvm.Cond.classLink own i K).before a0 Z = true) (F : Ins Z h a K true) (r : Run p l e R s m args below meth c n0 P h k n pc' Ls (.ref a :: st)) : Run p l e R s m args below meth c n0 P h k n pc Ls (.ref a :: st) := by
  subst hp; exact Run.warm (fun T locs X eT => castY X C.1 C.2.1 C.2.2.2.2.1 w eT F (g := mkF m pc Ls (.ref a :: st)) rfl rfl (hb C.2.2.1 hd)) r
theorem s_instY (C : Ctx p l e R s m args below meth c Z own cd maxL ret nm) {K : String} {i : Nat} {a : Addr} (hd : decode cd pc = .ok (.instanceof i, 3)) (hp : pc + 3 = pc') (w : (Jvm.Cond.classLink own i K).before a0 Z = true) (F : Ins Z h a K true) (r : Run p l e R s m args below meth c n0 P h k n pc' Ls (.int 1 :: st)) : Run p l e R s m args below meth c n0 P h k n pc Ls (.ref a :: st) := by
  subst hp; exact Run.warm (fun T locs X eT => instY X C.1 C.2.1 C.2.2.2.2.1 w eT F (g := mkF m pc Ls (.ref a :: st)) rfl rfl (hb C.2.2.1 hd)) r
/-! calls -/
theorem Met.back {y : MethodName} {bytes : ByteArray} {mL len W : Nat} {rt : Option FieldType} {rm : Room} {as : Array Value} {Q : Option Value → Heap → Prop} (M : Met l Z y bytes mL rt [] rm as h n0 Q) (hZ : Z.Warmed39 s.vm) (wc : (Jvm.Cond.code y bytes mL rt).before a0 Z = true) (wz : (Jvm.Cond.initialized y.cls).before a0 Z = true) (hf : rm.frames + 1 ≤ R.frames) (hl : W + (mL + 11) + rm.locals ≤ R.locals) :
    Back l R p e below s args y len W (fun A a => a = as ∧ A.U.heap = h ∧ A.cells + rm.cells ≤ R.cells ∧ A.slots + rm.slots ≤ R.slots) (fun A _ v B => ∃ L, (Q v B.U.heap ∧ Fr n0 L) ∧ B.locs = A.locs ++ L ∧ B.cells = A.cells + rm.cells ∧ B.slots = A.slots + rm.slots) :=
  backOf (Q := fun v h L => Q v h ∧ Fr n0 L) M hZ wc wz hf hl
theorem s_callS (C : Ctx p l e R s m args below meth c Z own cd maxL ret nm) {y : MethodName} {bytes : ByteArray} {mL i W k' n' : Nat} {rt : Option FieldType} {rm : Room} {Q : Option Value → Heap → Prop} (hd : decode cd pc = .ok (.invokestatic i, 3)) (hp : pc + 3 = pc') (wl : (Jvm.Cond.methodLink own i y).before a0 Z = true) (ws : (Jvm.Cond.static y).before a0 Z = true) (wz : (Jvm.Cond.initialized y.cls).before a0 Z = true) (wc : (Jvm.Cond.code y bytes mL rt).before a0 Z = true) (hy : y.cls ≠ "java/lang/invoke/MethodHandle" ∧ y.cls ≠ "java/lang/invoke/VarHandle") (as rest : List Value) {ps : List FieldType} {rr : Option FieldType} (hdes : parseMethodDescriptor y.desc = some ⟨ps, rr⟩) (hlen : as.length = ps.length) (hst : st = as.reverse ++ rest)
    (M : Met l Z y bytes mL rt [] rm as.toArray h n0 Q) (hs : Ls.size = maxL) (hW : (rest.map fun v => v.category).sum = W) (hf : rm.frames + 1 ≤ R.frames) (hl : W + (mL + 11) + rm.locals ≤ R.locals) (hk : k + rm.cells = k') (hk' : k' ≤ R.cells) (hn : n + rm.slots = n') (hn' : n' ≤ R.slots)
    (r : ∀ v h', Q v h' → Run p l e R s m args below meth c n0 P h' k' n' pc' Ls (v.toList ++ rest)) : Run p l e R s m args below meth c n0 P h k n pc Ls st := by
  subst hp hk hn hst
  intro T locs X eT N
  obtain ⟨v, _, ⟨T', L', k', n'⟩, -, X', ⟨Lc, ⟨hQ, N'⟩, l', y', z'⟩, q⟩ := Jvm.LawKit.callS X C.1 (y := y) C.2.2.2.2.1 (mvT C.2.1 wl) (mvT C.2.1 ws) (mvT C.2.1 wz) (mvT C.2.1 wc) hy (M.back (W := W) C.2.1 wc wz hf hl) (g := mkF m pc Ls (as.reverse ++ rest)) rfl (by rw [C.2.2.2.1]; exact hs) (argsL := as) (rest := rest) (lenOf hdes hlen) rfl (by show 2 * 0 + _ ≤ _; omega) (hb C.2.2.1 hd) (fun _ _ => ⟨rfl, eT, hk', hn'⟩)
  dsimp only [Pt.U, Pt.locs, Pt.cells, Pt.slots] at X' l' y' z' q hQ
  subst l' y' z'
  obtain ⟨s₂, o, z, r⟩ := r v _ hQ T' _ X' rfl (Fr.app N N')
  exact ⟨s₂, o, q _ z, r⟩
theorem s_callV (C : Ctx p l e R s m args below meth c Z own cd maxL ret nm) {y z : MethodName} {K : String} {bytes : ByteArray} {mL i W k' n' : Nat} {rt : Option FieldType} {rm : Room} {b : Addr} {Q : Option Value → Heap → Prop} (hd : decode cd pc = .ok (.invokevirtual i, 3)) (hp : pc + 3 = pc') (wl : (Jvm.Cond.methodLink own i y).before a0 Z = true) (wd : (Jvm.Cond.declares y).before a0 Z = true) (hnf : NotFace s y) (wsel : (Jvm.Cond.selects K y z).before a0 Z = true) (wi : (Jvm.Cond.instanceMethod z).before a0 Z = true) (wz : (Jvm.Cond.initialized z.cls).before a0 Z = true) (wc : (Jvm.Cond.code z bytes mL rt).before a0 Z = true) (hy : y.cls ≠ "java/lang/invoke/MethodHandle" ∧ y.cls ≠ "java/lang/invoke/VarHandle") (E : Exa Z h b K) (as rest : List Value) {ps : List FieldType} {rr : Option FieldType} (hdes : parseMethodDescriptor y.desc = some ⟨ps, rr⟩) (hlen : as.length = ps.length) (hst : st = as.reverse ++ .ref b :: rest)
    (M : Met l Z z bytes mL rt [] rm (.ref b :: as).toArray h n0 Q) (hs : Ls.size = maxL) (hW : (rest.map fun v => v.category).sum = W) (hf : rm.frames + 1 ≤ R.frames) (hl : W + (mL + 11) + rm.locals ≤ R.locals) (hk : k + rm.cells = k') (hk' : k' ≤ R.cells) (hn : n + rm.slots = n') (hn' : n' ≤ R.slots)
    (r : ∀ v h', Q v h' → Run p l e R s m args below meth c n0 P h' k' n' pc' Ls (v.toList ++ rest)) : Run p l e R s m args below meth c n0 P h k n pc Ls st := by
  subst hp hk hn hst
  intro T locs X eT N
  obtain ⟨cq, kq, qa, qb, qc⟩ := isOf C.2.1 eT E
  obtain ⟨v, _, ⟨T', L', k', n'⟩, -, X', ⟨Lc, ⟨hQ, N'⟩, l', y', z'⟩, q⟩ := X.virtualBack C.1 (y := y) (z := z) C.2.2.2.2.1 (mvT C.2.1 wl) (mvT C.2.1 wd) hnf (mvT C.2.1 wsel) (mvT C.2.1 wi) hy (M.back (W := W) C.2.1 wc wz hf hl) qa qc (g := mkF m pc Ls (as.reverse ++ .ref b :: rest)) rfl (by rw [C.2.2.2.1]; exact hs) (Steps.refl _) (argsL := as) (rest := rest) (lenOf hdes hlen) rfl (by show 2 * 0 + _ ≤ _; omega) (hb C.2.2.1 hd) (fun _ _ => ⟨rfl, eT, hk', hn'⟩)
  dsimp only [Pt.U, Pt.locs, Pt.cells, Pt.slots] at X' l' y' z' q hQ
  subst l' y' z'
  obtain ⟨s₂, o, z, r⟩ := r v _ hQ T' _ X' rfl (Fr.app N N')
  exact ⟨s₂, o, q.trans z, r⟩
theorem s_callI (C : Ctx p l e R s m args below meth c Z own cd maxL ret nm) {y : MethodName} {bytes : ByteArray} {mL i W k' n' : Nat} {rm : Room} {b : Addr} {Q : Heap → Prop} (hd : decode cd pc = .ok (.invokespecial i, 3)) (hp : pc + 3 = pc') (wl : (Jvm.Cond.methodLink own i y).before a0 Z = true) (hy1 : y.name = "<init>") (wi : (Jvm.Cond.instanceMethod y).before a0 Z = true) (wz : (Jvm.Cond.initialized y.cls).before a0 Z = true) (wc : (Jvm.Cond.code y bytes mL none).before a0 Z = true) (hy : y.cls ≠ "java/lang/invoke/MethodHandle" ∧ y.cls ≠ "java/lang/invoke/VarHandle") (as rest : List Value) {ps : List FieldType} {rr : Option FieldType} (hdes : parseMethodDescriptor y.desc = some ⟨ps, rr⟩) (hlen : as.length = ps.length) (hst : st = as.reverse ++ .ref b :: rest)
    (M : Met l Z y bytes mL none [] rm (.ref b :: as).toArray h n0 (Ret0 Q)) (hs : Ls.size = maxL) (hW : (rest.map fun v => v.category).sum = W) (hf : rm.frames + 1 ≤ R.frames) (hl : W + (mL + 11) + rm.locals ≤ R.locals) (hk : k + rm.cells = k') (hk' : k' ≤ R.cells) (hn : n + rm.slots = n') (hn' : n' ≤ R.slots)
    (r : ∀ h', Q h' → Run p l e R s m args below meth c n0 P h' k' n' pc' Ls rest) : Run p l e R s m args below meth c n0 P h k n pc Ls st := by
  subst hp hk hn hst
  intro T locs X eT N
  obtain ⟨v, _, ⟨T', L', k', n'⟩, -, X', ⟨Lc, ⟨⟨rfl, hQ⟩, N'⟩, l', y', z'⟩, q⟩ := X.specialBack C.1 (y := y) hy1 C.2.2.2.2.1 (mvT C.2.1 wl) (mvT C.2.1 wi) (mvT C.2.1 wc) hy (M.back (W := W) C.2.1 wc wz hf hl) (g := mkF m pc Ls (as.reverse ++ .ref b :: rest)) rfl (by rw [C.2.2.2.1]; exact hs) (Steps.refl _) (a := b) (argsL := as) (rest := rest) (lenOf hdes hlen) rfl (by show 2 * 0 + _ ≤ _; omega) (hb C.2.2.1 hd) (fun _ _ => ⟨rfl, eT, hk', hn'⟩)
  dsimp only [Pt.U, Pt.locs, Pt.cells, Pt.slots] at X' l' y' z' q hQ
  subst l' y' z'
  obtain ⟨s₂, o, z, r⟩ := r _ hQ T' _ X' rfl (Fr.app N N')
  exact ⟨s₂, o, q.trans z, r⟩
theorem s_callSI (C : Ctx p l e R s m args below meth c Z own cd maxL ret nm) {y : MethodName} {bytes : ByteArray} {mL i W k' n' : Nat} {rt : Option FieldType} {rm : Room} {Q : Int32 → Heap → Prop} (hd : decode cd pc = .ok (.invokestatic i, 3)) (hp : pc + 3 = pc') (wl : (Jvm.Cond.methodLink own i y).before a0 Z = true) (ws : (Jvm.Cond.static y).before a0 Z = true) (wz : (Jvm.Cond.initialized y.cls).before a0 Z = true) (wc : (Jvm.Cond.code y bytes mL rt).before a0 Z = true) (hy : y.cls ≠ "java/lang/invoke/MethodHandle" ∧ y.cls ≠ "java/lang/invoke/VarHandle") (as rest : List Value) {ps : List FieldType} {rr : Option FieldType} (hdes : parseMethodDescriptor y.desc = some ⟨ps, rr⟩) (hlen : as.length = ps.length) (hst : st = as.reverse ++ rest)
    (M : Met l Z y bytes mL rt [] rm as.toArray h n0 (RetI Q)) (hs : Ls.size = maxL) (hW : (rest.map fun v => v.category).sum = W) (hf : rm.frames + 1 ≤ R.frames) (hl : W + (mL + 11) + rm.locals ≤ R.locals) (hk : k + rm.cells = k') (hk' : k' ≤ R.cells) (hn : n + rm.slots = n') (hn' : n' ≤ R.slots)
    (r : ∀ (z : Int32) h', Q z h' → Run p l e R s m args below meth c n0 P h' k' n' pc' Ls ((.int z) :: rest)) : Run p l e R s m args below meth c n0 P h k n pc Ls st :=
  s_callS C hd hp wl ws wz wc hy as rest hdes hlen hst M hs hW hf hl hk hk' hn hn' (fun v h' q => by obtain ⟨z, rfl, q⟩ := q; exact r z h' q)
theorem s_callSL (C : Ctx p l e R s m args below meth c Z own cd maxL ret nm) {y : MethodName} {bytes : ByteArray} {mL i W k' n' : Nat} {rt : Option FieldType} {rm : Room} {Q : Int64 → Heap → Prop} (hd : decode cd pc = .ok (.invokestatic i, 3)) (hp : pc + 3 = pc') (wl : (Jvm.Cond.methodLink own i y).before a0 Z = true) (ws : (Jvm.Cond.static y).before a0 Z = true) (wz : (Jvm.Cond.initialized y.cls).before a0 Z = true) (wc : (Jvm.Cond.code y bytes mL rt).before a0 Z = true) (hy : y.cls ≠ "java/lang/invoke/MethodHandle" ∧ y.cls ≠ "java/lang/invoke/VarHandle") (as rest : List Value) {ps : List FieldType} {rr : Option FieldType} (hdes : parseMethodDescriptor y.desc = some ⟨ps, rr⟩) (hlen : as.length = ps.length) (hst : st = as.reverse ++ rest)
    (M : Met l Z y bytes mL rt [] rm as.toArray h n0 (RetL Q)) (hs : Ls.size = maxL) (hW : (rest.map fun v => v.category).sum = W) (hf : rm.frames + 1 ≤ R.frames) (hl : W + (mL + 11) + rm.locals ≤ R.locals) (hk : k + rm.cells = k') (hk' : k' ≤ R.cells) (hn : n + rm.slots = n') (hn' : n' ≤ R.slots)
    (r : ∀ (z : Int64) h', Q z h' → Run p l e R s m args below meth c n0 P h' k' n' pc' Ls ((.long z) :: rest)) : Run p l e R s m args below meth c n0 P h k n pc Ls st :=
  s_callS C hd hp wl ws wz wc hy as rest hdes hlen hst M hs hW hf hl hk hk' hn hn' (fun v h' q => by obtain ⟨z, rfl, q⟩ := q; exact r z h' q)
theorem s_callSA (C : Ctx p l e R s m args below meth c Z own cd maxL ret nm) {y : MethodName} {bytes : ByteArray} {mL i W k' n' : Nat} {rt : Option FieldType} {rm : Room} {Q : Value → Heap → Prop} (hd : decode cd pc = .ok (.invokestatic i, 3)) (hp : pc + 3 = pc') (wl : (Jvm.Cond.methodLink own i y).before a0 Z = true) (ws : (Jvm.Cond.static y).before a0 Z = true) (wz : (Jvm.Cond.initialized y.cls).before a0 Z = true) (wc : (Jvm.Cond.code y bytes mL rt).before a0 Z = true) (hy : y.cls ≠ "java/lang/invoke/MethodHandle" ∧ y.cls ≠ "java/lang/invoke/VarHandle") (as rest : List Value) {ps : List FieldType} {rr : Option FieldType} (hdes : parseMethodDescriptor y.desc = some ⟨ps, rr⟩) (hlen : as.length = ps.length) (hst : st = as.reverse ++ rest)
    (M : Met l Z y bytes mL rt [] rm as.toArray h n0 (RetV Q)) (hs : Ls.size = maxL) (hW : (rest.map fun v => v.category).sum = W) (hf : rm.frames + 1 ≤ R.frames) (hl : W + (mL + 11) + rm.locals ≤ R.locals) (hk : k + rm.cells = k') (hk' : k' ≤ R.cells) (hn : n + rm.slots = n') (hn' : n' ≤ R.slots)
    (r : ∀ (z : Value) h', Q z h' → Run p l e R s m args below meth c n0 P h' k' n' pc' Ls (z :: rest)) : Run p l e R s m args below meth c n0 P h k n pc Ls st :=
  s_callS C hd hp wl ws wz wc hy as rest hdes hlen hst M hs hW hf hl hk hk' hn hn' (fun v h' q => by obtain ⟨z, rfl, q⟩ := q; exact r z h' q)
theorem s_callS0 (C : Ctx p l e R s m args below meth c Z own cd maxL ret nm) {y : MethodName} {bytes : ByteArray} {mL i W k' n' : Nat} {rt : Option FieldType} {rm : Room} {Q : Heap → Prop} (hd : decode cd pc = .ok (.invokestatic i, 3)) (hp : pc + 3 = pc') (wl : (Jvm.Cond.methodLink own i y).before a0 Z = true) (ws : (Jvm.Cond.static y).before a0 Z = true) (wz : (Jvm.Cond.initialized y.cls).before a0 Z = true) (wc : (Jvm.Cond.code y bytes mL rt).before a0 Z = true) (hy : y.cls ≠ "java/lang/invoke/MethodHandle" ∧ y.cls ≠ "java/lang/invoke/VarHandle") (as rest : List Value) {ps : List FieldType} {rr : Option FieldType} (hdes : parseMethodDescriptor y.desc = some ⟨ps, rr⟩) (hlen : as.length = ps.length) (hst : st = as.reverse ++ rest)
    (M : Met l Z y bytes mL rt [] rm as.toArray h n0 (Ret0 Q)) (hs : Ls.size = maxL) (hW : (rest.map fun v => v.category).sum = W) (hf : rm.frames + 1 ≤ R.frames) (hl : W + (mL + 11) + rm.locals ≤ R.locals) (hk : k + rm.cells = k') (hk' : k' ≤ R.cells) (hn : n + rm.slots = n') (hn' : n' ≤ R.slots)
    (r : ∀ h', Q h' → Run p l e R s m args below meth c n0 P h' k' n' pc' Ls rest) : Run p l e R s m args below meth c n0 P h k n pc Ls st :=
  s_callS C hd hp wl ws wz wc hy as rest hdes hlen hst M hs hW hf hl hk hk' hn hn' (fun v h' q => by obtain ⟨rfl, q⟩ := q; exact r h' q)
theorem s_callVI (C : Ctx p l e R s m args below meth c Z own cd maxL ret nm) {y z : MethodName} {K : String} {bytes : ByteArray} {mL i W k' n' : Nat} {rt : Option FieldType} {rm : Room} {b : Addr} {Q : Int32 → Heap → Prop} (hd : decode cd pc = .ok (.invokevirtual i, 3)) (hp : pc + 3 = pc') (wl : (Jvm.Cond.methodLink own i y).before a0 Z = true) (wd : (Jvm.Cond.declares y).before a0 Z = true) (hnf : NotFace s y) (wsel : (Jvm.Cond.selects K y z).before a0 Z = true) (wi : (Jvm.Cond.instanceMethod z).before a0 Z = true) (wz : (Jvm.Cond.initialized z.cls).before a0 Z = true) (wc : (Jvm.Cond.code z bytes mL rt).before a0 Z = true) (hy : y.cls ≠ "java/lang/invoke/MethodHandle" ∧ y.cls ≠ "java/lang/invoke/VarHandle") (E : Exa Z h b K) (as rest : List Value) {ps : List FieldType} {rr : Option FieldType} (hdes : parseMethodDescriptor y.desc = some ⟨ps, rr⟩) (hlen : as.length = ps.length) (hst : st = as.reverse ++ .ref b :: rest)
    (M : Met l Z z bytes mL rt [] rm (.ref b :: as).toArray h n0 (RetI Q)) (hs : Ls.size = maxL) (hW : (rest.map fun v => v.category).sum = W) (hf : rm.frames + 1 ≤ R.frames) (hl : W + (mL + 11) + rm.locals ≤ R.locals) (hk : k + rm.cells = k') (hk' : k' ≤ R.cells) (hn : n + rm.slots = n') (hn' : n' ≤ R.slots)
    (r : ∀ (z : Int32) h', Q z h' → Run p l e R s m args below meth c n0 P h' k' n' pc' Ls ((.int z) :: rest)) : Run p l e R s m args below meth c n0 P h k n pc Ls st :=
  s_callV C hd hp wl wd hnf wsel wi wz wc hy E as rest hdes hlen hst M hs hW hf hl hk hk' hn hn' (fun v h' q => by obtain ⟨z, rfl, q⟩ := q; exact r z h' q)
theorem s_callVL (C : Ctx p l e R s m args below meth c Z own cd maxL ret nm) {y z : MethodName} {K : String} {bytes : ByteArray} {mL i W k' n' : Nat} {rt : Option FieldType} {rm : Room} {b : Addr} {Q : Int64 → Heap → Prop} (hd : decode cd pc = .ok (.invokevirtual i, 3)) (hp : pc + 3 = pc') (wl : (Jvm.Cond.methodLink own i y).before a0 Z = true) (wd : (Jvm.Cond.declares y).before a0 Z = true) (hnf : NotFace s y) (wsel : (Jvm.Cond.selects K y z).before a0 Z = true) (wi : (Jvm.Cond.instanceMethod z).before a0 Z = true) (wz : (Jvm.Cond.initialized z.cls).before a0 Z = true) (wc : (Jvm.Cond.code z bytes mL rt).before a0 Z = true) (hy : y.cls ≠ "java/lang/invoke/MethodHandle" ∧ y.cls ≠ "java/lang/invoke/VarHandle") (E : Exa Z h b K) (as rest : List Value) {ps : List FieldType} {rr : Option FieldType} (hdes : parseMethodDescriptor y.desc = some ⟨ps, rr⟩) (hlen : as.length = ps.length) (hst : st = as.reverse ++ .ref b :: rest)
    (M : Met l Z z bytes mL rt [] rm (.ref b :: as).toArray h n0 (RetL Q)) (hs : Ls.size = maxL) (hW : (rest.map fun v => v.category).sum = W) (hf : rm.frames + 1 ≤ R.frames) (hl : W + (mL + 11) + rm.locals ≤ R.locals) (hk : k + rm.cells = k') (hk' : k' ≤ R.cells) (hn : n + rm.slots = n') (hn' : n' ≤ R.slots)
    (r : ∀ (z : Int64) h', Q z h' → Run p l e R s m args below meth c n0 P h' k' n' pc' Ls ((.long z) :: rest)) : Run p l e R s m args below meth c n0 P h k n pc Ls st :=
  s_callV C hd hp wl wd hnf wsel wi wz wc hy E as rest hdes hlen hst M hs hW hf hl hk hk' hn hn' (fun v h' q => by obtain ⟨z, rfl, q⟩ := q; exact r z h' q)
theorem s_callVA (C : Ctx p l e R s m args below meth c Z own cd maxL ret nm) {y z : MethodName} {K : String} {bytes : ByteArray} {mL i W k' n' : Nat} {rt : Option FieldType} {rm : Room} {b : Addr} {Q : Value → Heap → Prop} (hd : decode cd pc = .ok (.invokevirtual i, 3)) (hp : pc + 3 = pc') (wl : (Jvm.Cond.methodLink own i y).before a0 Z = true) (wd : (Jvm.Cond.declares y).before a0 Z = true) (hnf : NotFace s y) (wsel : (Jvm.Cond.selects K y z).before a0 Z = true) (wi : (Jvm.Cond.instanceMethod z).before a0 Z = true) (wz : (Jvm.Cond.initialized z.cls).before a0 Z = true) (wc : (Jvm.Cond.code z bytes mL rt).before a0 Z = true) (hy : y.cls ≠ "java/lang/invoke/MethodHandle" ∧ y.cls ≠ "java/lang/invoke/VarHandle") (E : Exa Z h b K) (as rest : List Value) {ps : List FieldType} {rr : Option FieldType} (hdes : parseMethodDescriptor y.desc = some ⟨ps, rr⟩) (hlen : as.length = ps.length) (hst : st = as.reverse ++ .ref b :: rest)
    (M : Met l Z z bytes mL rt [] rm (.ref b :: as).toArray h n0 (RetV Q)) (hs : Ls.size = maxL) (hW : (rest.map fun v => v.category).sum = W) (hf : rm.frames + 1 ≤ R.frames) (hl : W + (mL + 11) + rm.locals ≤ R.locals) (hk : k + rm.cells = k') (hk' : k' ≤ R.cells) (hn : n + rm.slots = n') (hn' : n' ≤ R.slots)
    (r : ∀ (z : Value) h', Q z h' → Run p l e R s m args below meth c n0 P h' k' n' pc' Ls (z :: rest)) : Run p l e R s m args below meth c n0 P h k n pc Ls st :=
  s_callV C hd hp wl wd hnf wsel wi wz wc hy E as rest hdes hlen hst M hs hW hf hl hk hk' hn hn' (fun v h' q => by obtain ⟨z, rfl, q⟩ := q; exact r z h' q)
theorem s_callV0 (C : Ctx p l e R s m args below meth c Z own cd maxL ret nm) {y z : MethodName} {K : String} {bytes : ByteArray} {mL i W k' n' : Nat} {rt : Option FieldType} {rm : Room} {b : Addr} {Q : Heap → Prop} (hd : decode cd pc = .ok (.invokevirtual i, 3)) (hp : pc + 3 = pc') (wl : (Jvm.Cond.methodLink own i y).before a0 Z = true) (wd : (Jvm.Cond.declares y).before a0 Z = true) (hnf : NotFace s y) (wsel : (Jvm.Cond.selects K y z).before a0 Z = true) (wi : (Jvm.Cond.instanceMethod z).before a0 Z = true) (wz : (Jvm.Cond.initialized z.cls).before a0 Z = true) (wc : (Jvm.Cond.code z bytes mL rt).before a0 Z = true) (hy : y.cls ≠ "java/lang/invoke/MethodHandle" ∧ y.cls ≠ "java/lang/invoke/VarHandle") (E : Exa Z h b K) (as rest : List Value) {ps : List FieldType} {rr : Option FieldType} (hdes : parseMethodDescriptor y.desc = some ⟨ps, rr⟩) (hlen : as.length = ps.length) (hst : st = as.reverse ++ .ref b :: rest)
    (M : Met l Z z bytes mL rt [] rm (.ref b :: as).toArray h n0 (Ret0 Q)) (hs : Ls.size = maxL) (hW : (rest.map fun v => v.category).sum = W) (hf : rm.frames + 1 ≤ R.frames) (hl : W + (mL + 11) + rm.locals ≤ R.locals) (hk : k + rm.cells = k') (hk' : k' ≤ R.cells) (hn : n + rm.slots = n') (hn' : n' ≤ R.slots)
    (r : ∀ h', Q h' → Run p l e R s m args below meth c n0 P h' k' n' pc' Ls rest) : Run p l e R s m args below meth c n0 P h k n pc Ls st :=
  s_callV C hd hp wl wd hnf wsel wi wz wc hy E as rest hdes hlen hst M hs hW hf hl hk hk' hn hn' (fun v h' q => by obtain ⟨rfl, q⟩ := q; exact r h' q)
/-! arrays: exactly these values -/
def Av (Z : State) (h : Heap) (a : Addr) (ty : FieldType) (vs : List Value) : Prop := ∃ cl : Cell, Arr Z h a cl ty ∧ cl.slots = vs.toArray ∧ vs.length < 2 ^ 31 ∧ ∀ v ∈ vs, fits ty v = true
theorem Av.lt {h : Heap} {a : Addr} {ty : FieldType} {vs : List Value} (V : Av Z h a ty vs) : a < h.size := by obtain ⟨cl, A, -⟩ := V; exact A.lt
theorem Av.ext {h h' : Heap} {a : Addr} {ty : FieldType} {vs : List Value} (V : Av Z h a ty vs) (E : Ext h h') : Av Z h' a ty vs := by obtain ⟨cl, A, r⟩ := V; exact ⟨cl, A.ext E, r⟩
theorem Av.other {h h' : Heap} {a b : Addr} {ty : FieldType} {vs : List Value} {sl : Nat} {v : Value} (V : Av Z h b ty vs) (W : Wr h h' a sl v) (q : b ≠ a) : Av Z h' b ty vs := by obtain ⟨cl, A, r⟩ := V; exact ⟨cl, A.other W q, r⟩
theorem Av.keep {h h' : Heap} {a : Addr} {ty : FieldType} {vs : List Value} {ws : List Addr} (V : Av Z h a ty vs) (K : Keep h h' ws) (q : a ∉ ws) : Av Z h' a ty vs := by obtain ⟨cl, A, r⟩ := V; exact ⟨cl, ⟨K.2.1 a cl A.1 q, A.2⟩, r⟩
theorem Av.set {h h' : Heap} {a : Addr} {ty : FieldType} {vs : List Value} {i : Nat} {v : Value} (V : Av Z h a ty vs) (W : Wr h h' a i v) (hf : fits ty v = true) : Av Z h' a ty (vs.set i v) := by
  obtain ⟨cl, A, hs, hl, hq⟩ := V
  exact ⟨_, A.same W, by simp [Cell.setSlot, hs], by simpa using hl, fun u hu => (List.mem_or_eq_of_mem_set hu).elim (hq u) (fun e => e ▸ hf)⟩
theorem fits_default (ty : FieldType) : fits ty (defaultValue ty) = true := by cases ty <;> first | rfl | decide
theorem Av.new {h : Heap} {a : Addr} {cA : ClassId} {ty : FieldType} {z : Int32} (A : Arr Z h a (newA cA ty z) ty) : Av Z h a ty (List.replicate z.toNatClampNeg (defaultValue ty)) := ⟨_, A, by simp [newA], by rw [List.length_replicate]; have := z.toInt_lt; simp only [Int32.toNatClampNeg]; omega, fun v hv => (List.eq_of_mem_replicate hv) ▸ fits_default ty⟩
theorem getD_toArray (vs : List Value) (i : Nat) (dv : Value) (hi : i < vs.length) : vs.toArray[i]? = some (vs.getD i dv) := by
  simp [List.getD_eq_getElem?_getD, List.getElem?_eq_getElem hi]
theorem len32 {n : Nat} (h : n < 2 ^ 31) : n.toInt32.toNatClampNeg = n ∧ ¬ n.toInt32 < 0 := by
  have e : n.toInt32.toInt = n := len_toInt (by omega)
  constructor
  · simp [Int32.toNatClampNeg, e]
  · rw [Int32.lt_iff_toInt_lt, e]; simp only [Int32.reduceToInt]; omega
theorem Av.arv {h : Heap} {a : Addr} {ty : FieldType} {vs : List Value} (dv : Value) (V : Av Z h a ty vs) : ∃ k, Arv Z h a k ty vs.length.toInt32 vs dv := by
  obtain ⟨cl, A, hs, hl, hq⟩ := V
  have e := len32 hl
  refine ⟨cl.cls, cl, A, rfl, by rw [e.1, hs]; simp, e.2, fun i hi => ?_, fun i hi => ?_⟩
  · rw [hs] at hi ⊢; exact getD_toArray vs i dv (by simpa using hi)
  · rw [hs] at hi
    have hi' : i < vs.length := by simpa using hi
    rw [List.getD_eq_getElem?_getD, List.getElem?_eq_getElem hi']
    exact hq _ (List.getElem_mem hi')
theorem Av.of_arv {h : Heap} {a : Addr} {k : ClassId} {ty : FieldType} {z : Int32} {vs : List Value} {dv : Value} (V : Arv Z h a k ty z vs dv) (hl : vs.length = z.toNatClampNeg) : Av Z h a ty vs := by
  obtain ⟨cl, A, -, hs, hz, hh, hf⟩ := V
  have e : cl.slots.size = vs.length := by rw [hs, hl]
  refine ⟨cl, A, ?_, by have := z.toInt_lt; rw [hl]; simp only [Int32.toNatClampNeg]; omega, fun v hv => ?_⟩
  · apply Array.ext_getElem?
    intro i
    by_cases hi : i < vs.length
    · rw [hh i (by omega)]; exact (getD_toArray vs i dv hi).symm
    · rw [Array.getElem?_eq_none (by omega), Array.getElem?_eq_none (by simpa using hi)]
  · obtain ⟨i, hi, rfl⟩ := List.getElem_of_mem hv
    have q := hf i (by omega)
    rwa [List.getD_eq_getElem?_getD, List.getElem?_eq_getElem hi] at q
theorem idx_n {j : Int32} {i : Nat} (hi : j.toInt = (i : Int)) : j.toNatClampNeg = i ∧ ¬ j < 0 := by
  constructor
  · simp [Int32.toNatClampNeg, hi]
  · rw [Int32.lt_iff_toInt_lt, hi]; simp only [Int32.reduceToInt]; omega
theorem s_newarr (C : Ctx p l e R s m args below meth c Z own cd maxL ret nm) {aty : ArrayType} {z : Int32} {k' n' cap : Nat} (hd : decode cd pc = .ok (.newarray aty, 2)) (hp : pc + 2 = pc') (w : (Jvm.Cond.arrayClass (newarray.typeOf aty)).before a0 Z = true) (hz : ¬ z < 0) (hcap : z.toNatClampNeg ≤ cap) (hcb : cap * 8 ≤ 536870912) (hk : k + 1 = k') (hk' : k' ≤ R.cells) (hn : n + cap = n') (hn' : n' ≤ R.slots) (vs : List Value) (hvs : List.replicate z.toNatClampNeg (defaultValue (newarray.typeOf aty)) = vs)
    (r : ∀ h' a, Ext h h' → a = h.size → Av Z h' a (newarray.typeOf aty) vs → Run p l e R s m args below meth c n0 P h' k' n' pc' Ls (.ref a :: st)) : Run p l e R s m args below meth c n0 P h k n pc Ls (.int z :: st) := by
  subst hp hk hn hvs
  intro T locs X eT N
  obtain ⟨T', h', cA, X', e', E, A, q⟩ := newP X C.1 C.2.1 w eT (g := mkF m pc Ls (.int z :: st)) rfl (hb C.2.2.1 hd) rfl hz hcap hcb hk' hn'
  obtain ⟨s₂, o, z, r⟩ := r h' _ E rfl (Av.new A) T' _ X' e' N
  exact ⟨s₂, o, q _ z, r⟩
theorem s_newarrE (C : Ctx p l e R s m args below meth c Z own cd maxL ret nm) {aty : ArrayType} {z : Int32} {k' n' cap : Nat} (hd : decode cd pc = .ok (.newarray aty, 2)) (hp : pc + 2 = pc') (w : (Jvm.Cond.arrayClass (newarray.typeOf aty)).before a0 Z = true) (hz : ¬ z < 0) (hcap : z.toNatClampNeg ≤ cap) (hcb : cap * 8 ≤ 536870912) (hk : k + 1 = k') (hk' : k' ≤ R.cells) (hn : n + cap = n') (hn' : n' ≤ R.slots) (vs : List Value) (hvs : List.replicate z.toNatClampNeg (defaultValue (newarray.typeOf aty)) = vs) (ad : String) (had : "[" ++ (newarray.typeOf aty).toString = ad)
    (r : ∀ h' a, Ext h h' → a = h.size → Av Z h' a (newarray.typeOf aty) vs → Exa Z h' a ad → Run p l e R s m args below meth c n0 P h' k' n' pc' Ls (.ref a :: st)) : Run p l e R s m args below meth c n0 P h k n pc Ls (.int z :: st) := by
  subst hp hk hn hvs
  intro T locs X eT N
  obtain ⟨T', h', cA, X', e', E, A, Ex, q⟩ := newPE X C.1 C.2.1 w eT (g := mkF m pc Ls (.int z :: st)) rfl (hb C.2.2.1 hd) rfl hz hcap hcb hk' hn' had
  obtain ⟨s₂, o, z, r⟩ := r h' _ E rfl (Av.new A) Ex T' _ X' e' N
  exact ⟨s₂, o, q _ z, r⟩
theorem s_newref (C : Ctx p l e R s m args below meth c Z own cd maxL ret nm) {K : String} {i : Nat} {z : Int32} {k' n' cap : Nat} (hd : decode cd pc = .ok (.anewarray i, 3)) (hp : pc + 3 = pc') (w1 : (Jvm.Cond.classLink own i K).before a0 Z = true) (w2 : (Jvm.Cond.arrayOver (.object K)).before a0 Z = true) (hz : ¬ z < 0) (hcap : z.toNatClampNeg ≤ cap) (hcb : cap * 8 ≤ 536870912) (hk : k + 1 = k') (hk' : k' ≤ R.cells) (hn : n + cap = n') (hn' : n' ≤ R.slots) (vs : List Value) (hvs : List.replicate z.toNatClampNeg Value.null = vs)
    (r : ∀ h' a cA, Ext h h' → a = h.size → Av Z h' a (.object K) vs → Arr Z h' a (newA cA (.object K) z) (.object K) → Ovr Z cA K → Run p l e R s m args below meth c n0 P h' k' n' pc' Ls (.ref a :: st)) : Run p l e R s m args below meth c n0 P h k n pc Ls (.int z :: st) := by
  subst hp hk hn hvs
  intro T locs X eT N
  obtain ⟨T', h', cA, X', e', E, A, O, q⟩ := newR X C.1 C.2.1 C.2.2.2.2.1 w1 w2 eT (g := mkF m pc Ls (.int z :: st)) rfl (hb C.2.2.1 hd) rfl hz hcap hcb hk' hn'
  obtain ⟨s₂, o, z, r⟩ := r h' _ cA E rfl (Av.new A) A O T' _ X' e' N
  exact ⟨s₂, o, q _ z, r⟩
theorem s_foldI (C : Ctx p l e R s m args below meth c Z own cd maxL ret nm) {x y : Int32} (hx : x = y) (r : Run p l e R s m args below meth c n0 P h k n pc Ls (.int y :: st)) : Run p l e R s m args below meth c n0 P h k n pc Ls (.int x :: st) := hx ▸ r
theorem s_foldL (C : Ctx p l e R s m args below meth c Z own cd maxL ret nm) {x y : Int64} (hx : x = y) (r : Run p l e R s m args below meth c n0 P h k n pc Ls (.long y :: st)) : Run p l e R s m args below meth c n0 P h k n pc Ls (.long x :: st) := hx ▸ r
theorem s_arraycopy (C : Ctx p l e R s m args below meth c Z own cd maxL ret nm) {i W : Nat} {ty : FieldType} {a b : Addr} {vs vd : List Value} {sp dp nn : Int32} (hd : decode cd pc = .ok (.invokestatic i, 3)) (hp : pc + 3 = pc') (w1 : (Jvm.Cond.methodLink own i Jvm.Stand.acN).before a0 Z = true) (w2 : (Jvm.Cond.native Jvm.Stand.acN).before a0 Z = true) (w3 : (Jvm.Cond.static Jvm.Stand.acN).before a0 Z = true) (w4 : (Jvm.Cond.initialized "java/lang/System").before a0 Z = true) (A : Av Z h a ty vs) (B : Av Z h b ty vd) (hty : refKind ty = false) (si di ni : Nat) (h1 : sp.toInt = (si : Int)) (h2 : dp.toInt = (di : Int)) (h3 : nn.toInt = (ni : Int)) (h4 : si + ni ≤ vs.length) (h5 : di + ni ≤ vd.length) (ge : n0 ≤ b) (hs : Ls.size = maxL) (hf : 1 ≤ R.frames) (hW : (st.map fun v => v.category).sum = W) (hlo : W + (nativeFrameWords "java/lang/System" "arraycopy" 5 + 11) ≤ R.locals) (vd' : List Value) (hvd : vd.take di ++ (vs.drop si).take ni ++ vd.drop (di + ni) = vd')
    (r : ∀ h', Keep h h' [b] → Av Z h' b ty vd' → Run p l e R s m args below meth c n0 P h' k n pc' Ls st) : Run p l e R s m args below meth c n0 P h k n pc Ls (.int nn :: .int dp :: .ref b :: .int sp :: .ref a :: st) := by
  subst hp hvd
  obtain ⟨e1, g1⟩ := idx_n h1
  obtain ⟨e2, g2⟩ := idx_n h2
  obtain ⟨e3, g3⟩ := idx_n h3
  have la := A
  have lb := B
  obtain ⟨_, -, -, la, -⟩ := la
  obtain ⟨_, -, -, lb, -⟩ := lb
  obtain ⟨ka, A'⟩ := A.arv Value.null
  obtain ⟨kb, B'⟩ := B.arv Value.null
  intro T locs X eT N
  have hus : (vs.drop si).take ni = (List.range nn.toNatClampNeg).map fun i => vs.getD (sp.toNatClampNeg + i) Value.null := by
    rw [e1, e3]
    apply List.ext_getElem
    · simp; omega
    · intro j q1 q2
      have q3 : j < ni := by simpa using q2
      simp [List.getD_eq_getElem?_getD, List.getElem?_eq_getElem (show si + j < vs.length by omega)]
  obtain ⟨T', h', L, X', e', N', K, V', q⟩ := cpA X C.1 C.2.1 C.2.2.2.2.1 w1 w2 w3 w4 eT A' B' (Or.inl ⟨rfl, hty⟩) g1 g2 g3 (by rw [e1, e3, (len32 la).1]; exact h4) (by rw [e2, e3, (len32 lb).1]; exact h5) hus (by rw [e2, e3]; exact h5) N ge (g := mkF m pc Ls (.int nn :: .int dp :: .ref b :: .int sp :: .ref a :: st)) rfl (by rw [C.2.2.2.1]; exact hs) rfl (hb C.2.2.1 hd) hf (W := W) (by show 2 * 0 + _ ≤ _; omega) hlo
  rw [e2, e3] at V'
  obtain ⟨s₂, o, z, r⟩ := r h' K (Av.of_arv V' (by rw [(len32 lb).1]; simp; omega)) T' _ X' e' N'
  exact ⟨s₂, o, q _ z, r⟩
theorem s_clone (C : Ctx p l e R s m args below meth c Z own cd maxL ret nm) {i W k' n' cap : Nat} {ty : FieldType} {ad : String} {a : Addr} {vs : List Value} (hd : decode cd pc = .ok (.invokevirtual i, 3)) (hp : pc + 3 = pc') (w1 : (Jvm.Cond.methodLink own i ⟨ad, "clone", "()Ljava/lang/Object;"⟩).before a0 Z = true) (w2 : (Jvm.Cond.sameMethod ad "java/lang/Object" "clone" "()Ljava/lang/Object;").before a0 Z = true) (w3 : (Jvm.Cond.native ⟨"java/lang/Object", "clone", "()Ljava/lang/Object;"⟩).before a0 Z = true) (w4 : (Jvm.Cond.instanceMethod ⟨"java/lang/Object", "clone", "()Ljava/lang/Object;"⟩).before a0 Z = true) (w5 : (Jvm.Cond.selects ad ⟨ad, "clone", "()Ljava/lang/Object;"⟩ ⟨"java/lang/Object", "clone", "()Ljava/lang/Object;"⟩).before a0 Z = true) (w6 : (Jvm.Cond.castable ad "java/lang/Cloneable").before a0 Z = true) (V : Av Z h a ty vs) (E : Exa Z h a ad) (hs : Ls.size = maxL) (hf : 1 ≤ R.frames) (hW : (st.map fun v => v.category).sum = W) (hl : W + 14 ≤ R.locals) (hcap : vs.length ≤ cap) (hk : k + 1 = k') (hk' : k' ≤ R.cells) (hn : n + cap = n') (hn' : n' ≤ R.slots)
    (r : ∀ h' b, Ext h h' → b = h.size → Av Z h' b ty vs → Exa Z h' b ad → Run p l e R s m args below meth c n0 P h' k' n' pc' Ls (.ref b :: st)) : Run p l e R s m args below meth c n0 P h k n pc Ls (.ref a :: st) := by
  subst hp hk hn
  have la := V
  obtain ⟨_, -, -, la, -⟩ := la
  obtain ⟨ka, A'⟩ := V.arv Value.null
  intro T locs X eT N
  obtain ⟨T', h', X', e', Ex, V', E', q⟩ := cloneH X C.1 C.2.1 C.2.2.2.2.1 w1 w2 w3 w4 w5 w6 eT A'.arh E (g := mkF m pc Ls (.ref a :: st)) rfl (by rw [C.2.2.2.1]; exact hs) rfl (hb C.2.2.1 hd) hf (W := W) (cap := cap) (by show 2 * 0 + _ ≤ _; omega) hl (by rw [(len32 la).1]; exact hcap) hk' hn'
  obtain ⟨s₂, o, z, r⟩ := r h' _ Ex rfl (Av.of_arv (dv := Value.null) V' (len32 la).1.symm) E' T' _ X' e' N
  exact ⟨s₂, o, q _ z, r⟩
theorem s_length (C : Ctx p l e R s m args below meth c Z own cd maxL ret nm) {ty : FieldType} {a : Addr} {vs : List Value} (hd : decode cd pc = .ok (.arraylength, 1)) (hp : pc + 1 = pc') (V : Av Z h a ty vs) (z : Int32) (hz : vs.length.toInt32 = z) (r : Run p l e R s m args below meth c n0 P h k n pc' Ls (.int z :: st)) : Run p l e R s m args below meth c n0 P h k n pc Ls (.ref a :: st) := by
  subst hp hz
  obtain ⟨cl, A, hs, hl, -⟩ := V
  have e1 : cl.slots.size = vs.length := by simp [hs]
  refine Run.pure (fun T locs X eT t z => X.arraylength C.1 (by rw [eT]; exact A.1) (State.isArrayOf_alike C.2.1.alike A.2.1) (g := mkF m pc Ls (.ref a :: st)) rfl rfl (hb C.2.2.1 hd) _ (by rw [e1]; exact z)) r
theorem s_iaload (C : Ctx p l e R s m args below meth c Z own cd maxL ret nm) {a : Addr} {vs : List Value} {j : Int32} {x : Int32} (hd : decode cd pc = .ok (.iaload, 1)) (hp : pc + 1 = pc') (V : Av Z h a .int vs) (i : Nat) (hi : j.toInt = (i : Int)) (hv : vs[i]? = some (.int x)) (r : Run p l e R s m args below meth c n0 P h k n pc' Ls ((.int x) :: st)) : Run p l e R s m args below meth c n0 P h k n pc Ls (.int j :: .ref a :: st) := by
  subst hp
  obtain ⟨cl, A, hs, hl, -⟩ := V
  obtain ⟨e1, e2⟩ := idx_n hi
  have e3 : i < vs.length := (List.getElem?_eq_some_iff.mp hv).1
  refine Run.pure (fun T locs X eT t z => X.iaload C.1 (by rw [eT]; exact A.1) (State.isArrayOf_alike C.2.1.alike A.2.1) A.2.2 (by rw [e1, hs]; rintro (q | q); exact e2 q; simp at q; omega) (by rw [e1, hs]; simpa using hv) (g := mkF m pc Ls (.int j :: .ref a :: st)) rfl rfl (hb C.2.2.1 hd) _ z) r
theorem s_laload (C : Ctx p l e R s m args below meth c Z own cd maxL ret nm) {a : Addr} {vs : List Value} {j : Int32} {x : Int64} (hd : decode cd pc = .ok (.laload, 1)) (hp : pc + 1 = pc') (V : Av Z h a .long vs) (i : Nat) (hi : j.toInt = (i : Int)) (hv : vs[i]? = some (.long x)) (r : Run p l e R s m args below meth c n0 P h k n pc' Ls ((.long x) :: st)) : Run p l e R s m args below meth c n0 P h k n pc Ls (.int j :: .ref a :: st) := by
  subst hp
  obtain ⟨cl, A, hs, hl, -⟩ := V
  obtain ⟨e1, e2⟩ := idx_n hi
  have e3 : i < vs.length := (List.getElem?_eq_some_iff.mp hv).1
  refine Run.pure (fun T locs X eT t z => X.laload C.1 (by rw [eT]; exact A.1) (State.isArrayOf_alike C.2.1.alike A.2.1) A.2.2 (by rw [e1, hs]; rintro (q | q); exact e2 q; simp at q; omega) (by rw [e1, hs]; simpa using hv) (g := mkF m pc Ls (.int j :: .ref a :: st)) rfl rfl (hb C.2.2.1 hd) _ z) r
theorem s_baload (C : Ctx p l e R s m args below meth c Z own cd maxL ret nm) {a : Addr} {vs : List Value} {j : Int32} {x : Int32} (hd : decode cd pc = .ok (.baload, 1)) (hp : pc + 1 = pc') (V : Av Z h a .byte vs) (i : Nat) (hi : j.toInt = (i : Int)) (hv : vs[i]? = some (.int x)) (r : Run p l e R s m args below meth c n0 P h k n pc' Ls ((.int x) :: st)) : Run p l e R s m args below meth c n0 P h k n pc Ls (.int j :: .ref a :: st) := by
  subst hp
  obtain ⟨cl, A, hs, hl, -⟩ := V
  obtain ⟨e1, e2⟩ := idx_n hi
  have e3 : i < vs.length := (List.getElem?_eq_some_iff.mp hv).1
  refine Run.pure (fun T locs X eT t z => X.baloadBytes C.1 (by rw [eT]; exact A.1) (State.isArrayOf_alike C.2.1.alike A.2.1) A.2.2 (by rw [e1, hs]; rintro (q | q); exact e2 q; simp at q; omega) (by rw [e1, hs]; simpa using hv) (g := mkF m pc Ls (.int j :: .ref a :: st)) rfl rfl (hb C.2.2.1 hd) _ z) r
theorem s_caload (C : Ctx p l e R s m args below meth c Z own cd maxL ret nm) {a : Addr} {vs : List Value} {j : Int32} {x : Int32} (hd : decode cd pc = .ok (.caload, 1)) (hp : pc + 1 = pc') (V : Av Z h a .char vs) (i : Nat) (hi : j.toInt = (i : Int)) (hv : vs[i]? = some (.int x)) (r : Run p l e R s m args below meth c n0 P h k n pc' Ls ((.int x) :: st)) : Run p l e R s m args below meth c n0 P h k n pc Ls (.int j :: .ref a :: st) := by
  subst hp
  obtain ⟨cl, A, hs, hl, -⟩ := V
  obtain ⟨e1, e2⟩ := idx_n hi
  have e3 : i < vs.length := (List.getElem?_eq_some_iff.mp hv).1
  refine Run.pure (fun T locs X eT t z => X.caload C.1 (by rw [eT]; exact A.1) (State.isArrayOf_alike C.2.1.alike A.2.1) A.2.2 (by rw [e1, hs]; rintro (q | q); exact e2 q; simp at q; omega) (by rw [e1, hs]; simpa using hv) (g := mkF m pc Ls (.int j :: .ref a :: st)) rfl rfl (hb C.2.2.1 hd) _ z) r
theorem s_aaload (C : Ctx p l e R s m args below meth c Z own cd maxL ret nm) {a : Addr} {vs : List Value} {j : Int32} {x : Value} {ty : FieldType} (hty : ty.isReference = true) (hd : decode cd pc = .ok (.aaload, 1)) (hp : pc + 1 = pc') (V : Av Z h a ty vs) (i : Nat) (hi : j.toInt = (i : Int)) (hv : vs[i]? = some x) (r : Run p l e R s m args below meth c n0 P h k n pc' Ls (x :: st)) : Run p l e R s m args below meth c n0 P h k n pc Ls (.int j :: .ref a :: st) := by
  subst hp
  obtain ⟨cl, A, hs, hl, -⟩ := V
  obtain ⟨e1, e2⟩ := idx_n hi
  have e3 : i < vs.length := (List.getElem?_eq_some_iff.mp hv).1
  refine Run.pure (fun T locs X eT t z => X.aaload C.1 (by rw [eT]; exact A.1) (State.isArrayOf_alike C.2.1.alike A.2.1) hty A.2.2 (by rw [e1, hs]; rintro (q | q); exact e2 q; simp at q; omega) (by rw [e1, hs]; simpa using hv) (g := mkF m pc Ls (.int j :: .ref a :: st)) rfl rfl (hb C.2.2.1 hd) _ z) r
theorem s_baloadC (C : Ctx p l e R s m args below meth c Z own cd maxL ret nm) {a : Addr} {cl : Cell} {j x : Int32} (hd : decode cd pc = .ok (.baload, 1)) (hp : pc + 1 = pc') (A : Arr Z h a cl .byte) (hin : ¬ (j < 0 ∨ cl.slots.size ≤ j.toNatClampNeg)) (hv : cl.slots[j.toNatClampNeg]? = some (.int x)) (r : Run p l e R s m args below meth c n0 P h k n pc' Ls (.int x :: st)) : Run p l e R s m args below meth c n0 P h k n pc Ls (.int j :: .ref a :: st) := by
  subst hp
  exact Run.pure (fun T locs X eT t z => X.baloadBytes C.1 (by rw [eT]; exact A.1) (State.isArrayOf_alike C.2.1.alike A.2.1) A.2.2 hin hv (g := mkF m pc Ls (.int j :: .ref a :: st)) rfl rfl (hb C.2.2.1 hd) _ z) r
theorem s_aaloadC (C : Ctx p l e R s m args below meth c Z own cd maxL ret nm) {a : Addr} {cl : Cell} {ty : FieldType} {j : Int32} {x : Value} (hty : ty.isReference = true) (hd : decode cd pc = .ok (.aaload, 1)) (hp : pc + 1 = pc') (A : Arr Z h a cl ty) (hin : ¬ (j < 0 ∨ cl.slots.size ≤ j.toNatClampNeg)) (hv : cl.slots[j.toNatClampNeg]? = some x) (r : Run p l e R s m args below meth c n0 P h k n pc' Ls (x :: st)) : Run p l e R s m args below meth c n0 P h k n pc Ls (.int j :: .ref a :: st) := by
  subst hp
  exact Run.pure (fun T locs X eT t z => X.aaload C.1 (by rw [eT]; exact A.1) (State.isArrayOf_alike C.2.1.alike A.2.1) hty A.2.2 hin hv (g := mkF m pc Ls (.int j :: .ref a :: st)) rfl rfl (hb C.2.2.1 hd) _ z) r
theorem s_iastore (C : Ctx p l e R s m args below meth c Z own cd maxL ret nm) {a : Addr} {vs : List Value} {j : Int32} {x : Int32} (hd : decode cd pc = .ok (.iastore, 1)) (hp : pc + 1 = pc') (V : Av Z h a .int vs) (i : Nat) (hi : j.toInt = (i : Int)) (hlt : i < vs.length) (ha : n0 ≤ a) (vs' : List Value) (hvs : vs.set i (.int x) = vs') (r : ∀ h', Wr h h' a i (.int x) → Av Z h' a .int vs' → Run p l e R s m args below meth c n0 P h' k n pc' Ls st) : Run p l e R s m args below meth c n0 P h k n pc Ls ((.int x) :: .int j :: .ref a :: st) := by
  subst hp hvs
  have V0 := V
  obtain ⟨cl, A, hs, hl, -⟩ := V
  obtain ⟨e1, e2⟩ := idx_n hi
  subst e1
  intro T locs X eT N
  obtain ⟨T', h', X', e', W, q⟩ := stI X C.1 C.2.1 eT A (j := j) (by rw [hs]; rintro (q | q); exact e2 q; simp at q; omega) (g := mkF m pc Ls ((.int x) :: .int j :: .ref a :: st)) rfl rfl (hb C.2.2.1 hd)
  obtain ⟨s₂, o, z, r⟩ := r h' W (V0.set W rfl) T' _ X' e' (Fr.snoc X' N ha)
  exact ⟨s₂, o, q _ z, r⟩
theorem s_lastore (C : Ctx p l e R s m args below meth c Z own cd maxL ret nm) {a : Addr} {vs : List Value} {j : Int32} {x : Int64} (hd : decode cd pc = .ok (.lastore, 1)) (hp : pc + 1 = pc') (V : Av Z h a .long vs) (i : Nat) (hi : j.toInt = (i : Int)) (hlt : i < vs.length) (ha : n0 ≤ a) (vs' : List Value) (hvs : vs.set i (.long x) = vs') (r : ∀ h', Wr h h' a i (.long x) → Av Z h' a .long vs' → Run p l e R s m args below meth c n0 P h' k n pc' Ls st) : Run p l e R s m args below meth c n0 P h k n pc Ls ((.long x) :: .int j :: .ref a :: st) := by
  subst hp hvs
  have V0 := V
  obtain ⟨cl, A, hs, hl, -⟩ := V
  obtain ⟨e1, e2⟩ := idx_n hi
  subst e1
  intro T locs X eT N
  obtain ⟨T', h', X', e', W, q⟩ := stJ X C.1 C.2.1 eT A (j := j) (by rw [hs]; rintro (q | q); exact e2 q; simp at q; omega) (g := mkF m pc Ls ((.long x) :: .int j :: .ref a :: st)) rfl rfl (hb C.2.2.1 hd)
  obtain ⟨s₂, o, z, r⟩ := r h' W (V0.set W rfl) T' _ X' e' (Fr.snoc X' N ha)
  exact ⟨s₂, o, q _ z, r⟩
theorem s_bastore (C : Ctx p l e R s m args below meth c Z own cd maxL ret nm) {a : Addr} {vs : List Value} {j : Int32} {x : Int32} (hd : decode cd pc = .ok (.bastore, 1)) (hp : pc + 1 = pc') (V : Av Z h a .byte vs) (i : Nat) (hi : j.toInt = (i : Int)) (hlt : i < vs.length) (ha : n0 ≤ a) (vs' : List Value) (hvs : vs.set i (.int x.toInt8.toInt32) = vs') (r : ∀ h', Wr h h' a i (.int x.toInt8.toInt32) → Av Z h' a .byte vs' → Run p l e R s m args below meth c n0 P h' k n pc' Ls st) : Run p l e R s m args below meth c n0 P h k n pc Ls ((.int x) :: .int j :: .ref a :: st) := by
  subst hp hvs
  have V0 := V
  obtain ⟨cl, A, hs, hl, -⟩ := V
  obtain ⟨e1, e2⟩ := idx_n hi
  subst e1
  intro T locs X eT N
  obtain ⟨T', h', X', e', W, q⟩ := stB X C.1 C.2.1 eT A (j := j) (by rw [hs]; rintro (q | q); exact e2 q; simp at q; omega) (g := mkF m pc Ls ((.int x) :: .int j :: .ref a :: st)) rfl rfl (hb C.2.2.1 hd)
  obtain ⟨s₂, o, z, r⟩ := r h' W (V0.set W (fits_nar_byte _)) T' _ X' e' (Fr.snoc X' N ha)
  exact ⟨s₂, o, q _ z, r⟩
theorem s_castore (C : Ctx p l e R s m args below meth c Z own cd maxL ret nm) {a : Addr} {vs : List Value} {j : Int32} {x : Int32} (hd : decode cd pc = .ok (.castore, 1)) (hp : pc + 1 = pc') (V : Av Z h a .char vs) (i : Nat) (hi : j.toInt = (i : Int)) (hlt : i < vs.length) (ha : n0 ≤ a) (vs' : List Value) (hvs : vs.set i (.int x.toUInt32.toUInt16.toUInt32.toInt32) = vs') (r : ∀ h', Wr h h' a i (.int x.toUInt32.toUInt16.toUInt32.toInt32) → Av Z h' a .char vs' → Run p l e R s m args below meth c n0 P h' k n pc' Ls st) : Run p l e R s m args below meth c n0 P h k n pc Ls ((.int x) :: .int j :: .ref a :: st) := by
  subst hp hvs
  have V0 := V
  obtain ⟨cl, A, hs, hl, -⟩ := V
  obtain ⟨e1, e2⟩ := idx_n hi
  subst e1
  intro T locs X eT N
  obtain ⟨T', h', X', e', W, q⟩ := stC X C.1 C.2.1 eT A (j := j) (by rw [hs]; rintro (q | q); exact e2 q; simp at q; omega) (g := mkF m pc Ls ((.int x) :: .int j :: .ref a :: st)) rfl rfl (hb C.2.2.1 hd)
  obtain ⟨s₂, o, z, r⟩ := r h' W (V0.set W (fits_nar_char _)) T' _ X' e' (Fr.snoc X' N ha)
  exact ⟨s₂, o, q _ z, r⟩
end Steps
end Own
end Jvm.Pilot.@@N@@

namespace Jvm.Pilot.@@N@@
open Jvm Jvm.ClassFile Sem Op Lib Jvm.Free Jvm.Stand Jvm.LawKit Jvm.RoadKit Bundle Jvm.Pilot.@@N@@.Jvm.D
namespace Own
abbrev Hw (a0 : Array Value) (Z : State) : Prop := ∀ d ∈ tables_1, d.before a0 Z = true
theorem w0 {a0 : Array Value} {Z : State} (hw : Hw a0 Z) : (Jvm.Cond.arrayClass Jvm.ClassFile.FieldType.byte).before a0 Z = true := hw _ (List.mem_of_getElem? (i := 0) rfl)
theorem w1 {a0 : Array Value} {Z : State} (hw : Hw a0 Z) : (Jvm.Cond.classLink "com/example/cairnstone/cairnstone/CellCopyPinLaw" (7 : Nat) "com/example/cairnstone/cairnstone/Cell").before a0 Z = true := hw _ (List.mem_of_getElem? (i := 1) rfl)
theorem w2 {a0 : Array Value} {Z : State} (hw : Hw a0 Z) : (Jvm.Cond.instantiable "com/example/cairnstone/cairnstone/Cell" (5 : Nat)).before a0 Z = true := hw _ (List.mem_of_getElem? (i := 2) rfl)
theorem w3 {a0 : Array Value} {Z : State} (hw : Hw a0 Z) : (Jvm.Cond.initialized "com/example/cairnstone/cairnstone/Cell").before a0 Z = true := hw _ (List.mem_of_getElem? (i := 3) rfl)
theorem w4 {a0 : Array Value} {Z : State} (hw : Hw a0 Z) : (Jvm.Cond.methodLink "com/example/cairnstone/cairnstone/CellCopyPinLaw" (9 : Nat) ({ cls := "com/example/cairnstone/cairnstone/Cell", name := "<init>", desc := "([B[B[BJ[B)V" } : Jvm.MethodName)).before a0 Z = true := hw _ (List.mem_of_getElem? (i := 4) rfl)
theorem w5 {a0 : Array Value} {Z : State} (hw : Hw a0 Z) : (Jvm.Cond.instanceMethod ({ cls := "com/example/cairnstone/cairnstone/Cell", name := "<init>", desc := "([B[B[BJ[B)V" } : Jvm.MethodName)).before a0 Z = true := hw _ (List.mem_of_getElem? (i := 5) rfl)
theorem w6 {a0 : Array Value} {Z : State} (hw : Hw a0 Z) : (Jvm.Cond.code ({ cls := "com/example/cairnstone/cairnstone/Cell", name := "<init>", desc := "([B[B[BJ[B)V" } : Jvm.MethodName) prog_2_method_1_code (7 : Nat) (Option.none : Option Jvm.ClassFile.FieldType)).before a0 Z = true := hw _ (List.mem_of_getElem? (i := 6) rfl)
theorem w7 {a0 : Array Value} {Z : State} (hw : Hw a0 Z) : (Jvm.Cond.methodLink "com/example/cairnstone/cairnstone/Cell" (1 : Nat) ({ cls := "java/lang/Record", name := "<init>", desc := "()V" } : Jvm.MethodName)).before a0 Z = true := hw _ (List.mem_of_getElem? (i := 7) rfl)
theorem w8 {a0 : Array Value} {Z : State} (hw : Hw a0 Z) : (Jvm.Cond.instanceMethod ({ cls := "java/lang/Record", name := "<init>", desc := "()V" } : Jvm.MethodName)).before a0 Z = true := hw _ (List.mem_of_getElem? (i := 8) rfl)
theorem w10 {a0 : Array Value} {Z : State} (hw : Hw a0 Z) : (Jvm.Cond.initialized "java/lang/Record").before a0 Z = true := hw _ (List.mem_of_getElem? (i := 10) rfl)
theorem w11 {a0 : Array Value} {Z : State} (hw : Hw a0 Z) : (Jvm.Cond.code ({ cls := "java/lang/Record", name := "<init>", desc := "()V" } : Jvm.MethodName) jdk_30_method_1_code (1 : Nat) (Option.none : Option Jvm.ClassFile.FieldType)).before a0 Z = true := hw _ (List.mem_of_getElem? (i := 11) rfl)
theorem w12 {a0 : Array Value} {Z : State} (hw : Hw a0 Z) : (Jvm.Cond.methodLink "java/lang/Record" (1 : Nat) ({ cls := "java/lang/Object", name := "<init>", desc := "()V" } : Jvm.MethodName)).before a0 Z = true := hw _ (List.mem_of_getElem? (i := 12) rfl)
theorem w13 {a0 : Array Value} {Z : State} (hw : Hw a0 Z) : (Jvm.Cond.instanceMethod ({ cls := "java/lang/Object", name := "<init>", desc := "()V" } : Jvm.MethodName)).before a0 Z = true := hw _ (List.mem_of_getElem? (i := 13) rfl)
theorem w14 {a0 : Array Value} {Z : State} (hw : Hw a0 Z) : (Jvm.Cond.code ({ cls := "java/lang/Object", name := "<init>", desc := "()V" } : Jvm.MethodName) object_method_1_code (1 : Nat) (Option.none : Option Jvm.ClassFile.FieldType)).before a0 Z = true := hw _ (List.mem_of_getElem? (i := 14) rfl)
theorem w15 {a0 : Array Value} {Z : State} (hw : Hw a0 Z) : (Jvm.Cond.fieldLink "com/example/cairnstone/cairnstone/Cell" (7 : Nat) "com/example/cairnstone/cairnstone/Cell" "row" "[B").before a0 Z = true := hw _ (List.mem_of_getElem? (i := 15) rfl)
theorem w16 {a0 : Array Value} {Z : State} (hw : Hw a0 Z) : (Jvm.Cond.laysFinal "com/example/cairnstone/cairnstone/Cell" "com/example/cairnstone/cairnstone/Cell" "row" "[B").before a0 Z = true := hw _ (List.mem_of_getElem? (i := 16) rfl)
theorem w17 {a0 : Array Value} {Z : State} (hw : Hw a0 Z) : (Jvm.Cond.fieldLink "com/example/cairnstone/cairnstone/Cell" (13 : Nat) "com/example/cairnstone/cairnstone/Cell" "family" "[B").before a0 Z = true := hw _ (List.mem_of_getElem? (i := 17) rfl)
theorem w18 {a0 : Array Value} {Z : State} (hw : Hw a0 Z) : (Jvm.Cond.laysFinal "com/example/cairnstone/cairnstone/Cell" "com/example/cairnstone/cairnstone/Cell" "family" "[B").before a0 Z = true := hw _ (List.mem_of_getElem? (i := 18) rfl)
theorem w19 {a0 : Array Value} {Z : State} (hw : Hw a0 Z) : (Jvm.Cond.fieldLink "com/example/cairnstone/cairnstone/Cell" (16 : Nat) "com/example/cairnstone/cairnstone/Cell" "qualifier" "[B").before a0 Z = true := hw _ (List.mem_of_getElem? (i := 19) rfl)
theorem w20 {a0 : Array Value} {Z : State} (hw : Hw a0 Z) : (Jvm.Cond.laysFinal "com/example/cairnstone/cairnstone/Cell" "com/example/cairnstone/cairnstone/Cell" "qualifier" "[B").before a0 Z = true := hw _ (List.mem_of_getElem? (i := 20) rfl)
theorem w21 {a0 : Array Value} {Z : State} (hw : Hw a0 Z) : (Jvm.Cond.fieldLink "com/example/cairnstone/cairnstone/Cell" (19 : Nat) "com/example/cairnstone/cairnstone/Cell" "timestamp" "J").before a0 Z = true := hw _ (List.mem_of_getElem? (i := 21) rfl)
theorem w22 {a0 : Array Value} {Z : State} (hw : Hw a0 Z) : (Jvm.Cond.laysFinal "com/example/cairnstone/cairnstone/Cell" "com/example/cairnstone/cairnstone/Cell" "timestamp" "J").before a0 Z = true := hw _ (List.mem_of_getElem? (i := 22) rfl)
theorem w23 {a0 : Array Value} {Z : State} (hw : Hw a0 Z) : (Jvm.Cond.fieldLink "com/example/cairnstone/cairnstone/Cell" (23 : Nat) "com/example/cairnstone/cairnstone/Cell" "value" "[B").before a0 Z = true := hw _ (List.mem_of_getElem? (i := 23) rfl)
theorem w24 {a0 : Array Value} {Z : State} (hw : Hw a0 Z) : (Jvm.Cond.laysFinal "com/example/cairnstone/cairnstone/Cell" "com/example/cairnstone/cairnstone/Cell" "value" "[B").before a0 Z = true := hw _ (List.mem_of_getElem? (i := 24) rfl)
theorem w25 {a0 : Array Value} {Z : State} (hw : Hw a0 Z) : (Jvm.Cond.methodLink "com/example/cairnstone/cairnstone/CellCopyPinLaw" (12 : Nat) ({ cls := "com/example/cairnstone/cairnstone/Cell", name := "copy", desc := "()Lcom/example/cairnstone/cairnstone/Cell;" } : Jvm.MethodName)).before a0 Z = true := hw _ (List.mem_of_getElem? (i := 25) rfl)
theorem w26 {a0 : Array Value} {Z : State} (hw : Hw a0 Z) : (Jvm.Cond.declares ({ cls := "com/example/cairnstone/cairnstone/Cell", name := "copy", desc := "()Lcom/example/cairnstone/cairnstone/Cell;" } : Jvm.MethodName)).before a0 Z = true := hw _ (List.mem_of_getElem? (i := 26) rfl)
theorem w27 {a0 : Array Value} {Z : State} (hw : Hw a0 Z) : (Jvm.Cond.instanceMethod ({ cls := "com/example/cairnstone/cairnstone/Cell", name := "copy", desc := "()Lcom/example/cairnstone/cairnstone/Cell;" } : Jvm.MethodName)).before a0 Z = true := hw _ (List.mem_of_getElem? (i := 27) rfl)
theorem w28 {a0 : Array Value} {Z : State} (hw : Hw a0 Z) : (Jvm.Cond.selects "com/example/cairnstone/cairnstone/Cell" ({ cls := "com/example/cairnstone/cairnstone/Cell", name := "copy", desc := "()Lcom/example/cairnstone/cairnstone/Cell;" } : Jvm.MethodName) ({ cls := "com/example/cairnstone/cairnstone/Cell", name := "copy", desc := "()Lcom/example/cairnstone/cairnstone/Cell;" } : Jvm.MethodName)).before a0 Z = true := hw _ (List.mem_of_getElem? (i := 28) rfl)
theorem w29 {a0 : Array Value} {Z : State} (hw : Hw a0 Z) : (Jvm.Cond.code ({ cls := "com/example/cairnstone/cairnstone/Cell", name := "copy", desc := "()Lcom/example/cairnstone/cairnstone/Cell;" } : Jvm.MethodName) prog_2_method_3_code (1 : Nat) (Option.some (Jvm.ClassFile.FieldType.object "com/example/cairnstone/cairnstone/Cell"))).before a0 Z = true := hw _ (List.mem_of_getElem? (i := 29) rfl)
theorem w30 {a0 : Array Value} {Z : State} (hw : Hw a0 Z) : (Jvm.Cond.classLink "com/example/cairnstone/cairnstone/Cell" (8 : Nat) "com/example/cairnstone/cairnstone/Cell").before a0 Z = true := hw _ (List.mem_of_getElem? (i := 30) rfl)
theorem w31 {a0 : Array Value} {Z : State} (hw : Hw a0 Z) : (Jvm.Cond.methodLink "com/example/cairnstone/cairnstone/Cell" (28 : Nat) ({ cls := "[B", name := "clone", desc := "()Ljava/lang/Object;" } : Jvm.MethodName)).before a0 Z = true := hw _ (List.mem_of_getElem? (i := 31) rfl)
theorem w32 {a0 : Array Value} {Z : State} (hw : Hw a0 Z) : (Jvm.Cond.sameMethod "[B" "java/lang/Object" "clone" "()Ljava/lang/Object;").before a0 Z = true := hw _ (List.mem_of_getElem? (i := 32) rfl)
theorem w34 {a0 : Array Value} {Z : State} (hw : Hw a0 Z) : (Jvm.Cond.instanceMethod ({ cls := "java/lang/Object", name := "clone", desc := "()Ljava/lang/Object;" } : Jvm.MethodName)).before a0 Z = true := hw _ (List.mem_of_getElem? (i := 34) rfl)
theorem w35 {a0 : Array Value} {Z : State} (hw : Hw a0 Z) : (Jvm.Cond.selects "[B" ({ cls := "[B", name := "clone", desc := "()Ljava/lang/Object;" } : Jvm.MethodName) ({ cls := "java/lang/Object", name := "clone", desc := "()Ljava/lang/Object;" } : Jvm.MethodName)).before a0 Z = true := hw _ (List.mem_of_getElem? (i := 35) rfl)
theorem w36 {a0 : Array Value} {Z : State} (hw : Hw a0 Z) : (Jvm.Cond.native ({ cls := "java/lang/Object", name := "clone", desc := "()Ljava/lang/Object;" } : Jvm.MethodName)).before a0 Z = true := hw _ (List.mem_of_getElem? (i := 36) rfl)
theorem w37 {a0 : Array Value} {Z : State} (hw : Hw a0 Z) : (Jvm.Cond.castable "[B" "java/lang/Cloneable").before a0 Z = true := hw _ (List.mem_of_getElem? (i := 37) rfl)
theorem w38 {a0 : Array Value} {Z : State} (hw : Hw a0 Z) : (Jvm.Cond.classLink "com/example/cairnstone/cairnstone/Cell" (29 : Nat) "[B").before a0 Z = true := hw _ (List.mem_of_getElem? (i := 38) rfl)
theorem w40 {a0 : Array Value} {Z : State} (hw : Hw a0 Z) : (Jvm.Cond.methodLink "com/example/cairnstone/cairnstone/Cell" (33 : Nat) ({ cls := "com/example/cairnstone/cairnstone/Cell", name := "<init>", desc := "([B[B[BJ[B)V" } : Jvm.MethodName)).before a0 Z = true := hw _ (List.mem_of_getElem? (i := 40) rfl)
theorem w41 {a0 : Array Value} {Z : State} (hw : Hw a0 Z) : (Jvm.Cond.methodLink "com/example/cairnstone/cairnstone/CellCopyPinLaw" (16 : Nat) ({ cls := "com/example/cairnstone/cairnstone/Cell", name := "row", desc := "()[B" } : Jvm.MethodName)).before a0 Z = true := hw _ (List.mem_of_getElem? (i := 41) rfl)
theorem w42 {a0 : Array Value} {Z : State} (hw : Hw a0 Z) : (Jvm.Cond.declares ({ cls := "com/example/cairnstone/cairnstone/Cell", name := "row", desc := "()[B" } : Jvm.MethodName)).before a0 Z = true := hw _ (List.mem_of_getElem? (i := 42) rfl)
theorem w43 {a0 : Array Value} {Z : State} (hw : Hw a0 Z) : (Jvm.Cond.instanceMethod ({ cls := "com/example/cairnstone/cairnstone/Cell", name := "row", desc := "()[B" } : Jvm.MethodName)).before a0 Z = true := hw _ (List.mem_of_getElem? (i := 43) rfl)
theorem w44 {a0 : Array Value} {Z : State} (hw : Hw a0 Z) : (Jvm.Cond.selects "com/example/cairnstone/cairnstone/Cell" ({ cls := "com/example/cairnstone/cairnstone/Cell", name := "row", desc := "()[B" } : Jvm.MethodName) ({ cls := "com/example/cairnstone/cairnstone/Cell", name := "row", desc := "()[B" } : Jvm.MethodName)).before a0 Z = true := hw _ (List.mem_of_getElem? (i := 44) rfl)
theorem w45 {a0 : Array Value} {Z : State} (hw : Hw a0 Z) : (Jvm.Cond.code ({ cls := "com/example/cairnstone/cairnstone/Cell", name := "row", desc := "()[B" } : Jvm.MethodName) prog_2_method_7_code (1 : Nat) (Option.some (Jvm.ClassFile.FieldType.array Jvm.ClassFile.FieldType.byte))).before a0 Z = true := hw _ (List.mem_of_getElem? (i := 45) rfl)
theorem w46 {a0 : Array Value} {Z : State} (hw : Hw a0 Z) : (Jvm.Cond.methodLink "com/example/cairnstone/cairnstone/CellCopyPinLaw" (20 : Nat) ({ cls := "com/example/cairnstone/cairnstone/Cell", name := "family", desc := "()[B" } : Jvm.MethodName)).before a0 Z = true := hw _ (List.mem_of_getElem? (i := 46) rfl)
theorem w47 {a0 : Array Value} {Z : State} (hw : Hw a0 Z) : (Jvm.Cond.declares ({ cls := "com/example/cairnstone/cairnstone/Cell", name := "family", desc := "()[B" } : Jvm.MethodName)).before a0 Z = true := hw _ (List.mem_of_getElem? (i := 47) rfl)
theorem w48 {a0 : Array Value} {Z : State} (hw : Hw a0 Z) : (Jvm.Cond.instanceMethod ({ cls := "com/example/cairnstone/cairnstone/Cell", name := "family", desc := "()[B" } : Jvm.MethodName)).before a0 Z = true := hw _ (List.mem_of_getElem? (i := 48) rfl)
theorem w49 {a0 : Array Value} {Z : State} (hw : Hw a0 Z) : (Jvm.Cond.selects "com/example/cairnstone/cairnstone/Cell" ({ cls := "com/example/cairnstone/cairnstone/Cell", name := "family", desc := "()[B" } : Jvm.MethodName) ({ cls := "com/example/cairnstone/cairnstone/Cell", name := "family", desc := "()[B" } : Jvm.MethodName)).before a0 Z = true := hw _ (List.mem_of_getElem? (i := 49) rfl)
theorem w50 {a0 : Array Value} {Z : State} (hw : Hw a0 Z) : (Jvm.Cond.code ({ cls := "com/example/cairnstone/cairnstone/Cell", name := "family", desc := "()[B" } : Jvm.MethodName) prog_2_method_8_code (1 : Nat) (Option.some (Jvm.ClassFile.FieldType.array Jvm.ClassFile.FieldType.byte))).before a0 Z = true := hw _ (List.mem_of_getElem? (i := 50) rfl)
theorem w51 {a0 : Array Value} {Z : State} (hw : Hw a0 Z) : (Jvm.Cond.methodLink "com/example/cairnstone/cairnstone/CellCopyPinLaw" (23 : Nat) ({ cls := "com/example/cairnstone/cairnstone/Cell", name := "qualifier", desc := "()[B" } : Jvm.MethodName)).before a0 Z = true := hw _ (List.mem_of_getElem? (i := 51) rfl)
theorem w52 {a0 : Array Value} {Z : State} (hw : Hw a0 Z) : (Jvm.Cond.declares ({ cls := "com/example/cairnstone/cairnstone/Cell", name := "qualifier", desc := "()[B" } : Jvm.MethodName)).before a0 Z = true := hw _ (List.mem_of_getElem? (i := 52) rfl)
theorem w53 {a0 : Array Value} {Z : State} (hw : Hw a0 Z) : (Jvm.Cond.instanceMethod ({ cls := "com/example/cairnstone/cairnstone/Cell", name := "qualifier", desc := "()[B" } : Jvm.MethodName)).before a0 Z = true := hw _ (List.mem_of_getElem? (i := 53) rfl)
theorem w54 {a0 : Array Value} {Z : State} (hw : Hw a0 Z) : (Jvm.Cond.selects "com/example/cairnstone/cairnstone/Cell" ({ cls := "com/example/cairnstone/cairnstone/Cell", name := "qualifier", desc := "()[B" } : Jvm.MethodName) ({ cls := "com/example/cairnstone/cairnstone/Cell", name := "qualifier", desc := "()[B" } : Jvm.MethodName)).before a0 Z = true := hw _ (List.mem_of_getElem? (i := 54) rfl)
theorem w55 {a0 : Array Value} {Z : State} (hw : Hw a0 Z) : (Jvm.Cond.code ({ cls := "com/example/cairnstone/cairnstone/Cell", name := "qualifier", desc := "()[B" } : Jvm.MethodName) prog_2_method_9_code (1 : Nat) (Option.some (Jvm.ClassFile.FieldType.array Jvm.ClassFile.FieldType.byte))).before a0 Z = true := hw _ (List.mem_of_getElem? (i := 55) rfl)
theorem w56 {a0 : Array Value} {Z : State} (hw : Hw a0 Z) : (Jvm.Cond.methodLink "com/example/cairnstone/cairnstone/CellCopyPinLaw" (26 : Nat) ({ cls := "com/example/cairnstone/cairnstone/Cell", name := "value", desc := "()[B" } : Jvm.MethodName)).before a0 Z = true := hw _ (List.mem_of_getElem? (i := 56) rfl)
theorem w57 {a0 : Array Value} {Z : State} (hw : Hw a0 Z) : (Jvm.Cond.declares ({ cls := "com/example/cairnstone/cairnstone/Cell", name := "value", desc := "()[B" } : Jvm.MethodName)).before a0 Z = true := hw _ (List.mem_of_getElem? (i := 57) rfl)
theorem w58 {a0 : Array Value} {Z : State} (hw : Hw a0 Z) : (Jvm.Cond.instanceMethod ({ cls := "com/example/cairnstone/cairnstone/Cell", name := "value", desc := "()[B" } : Jvm.MethodName)).before a0 Z = true := hw _ (List.mem_of_getElem? (i := 58) rfl)
theorem w59 {a0 : Array Value} {Z : State} (hw : Hw a0 Z) : (Jvm.Cond.selects "com/example/cairnstone/cairnstone/Cell" ({ cls := "com/example/cairnstone/cairnstone/Cell", name := "value", desc := "()[B" } : Jvm.MethodName) ({ cls := "com/example/cairnstone/cairnstone/Cell", name := "value", desc := "()[B" } : Jvm.MethodName)).before a0 Z = true := hw _ (List.mem_of_getElem? (i := 59) rfl)
theorem w60 {a0 : Array Value} {Z : State} (hw : Hw a0 Z) : (Jvm.Cond.code ({ cls := "com/example/cairnstone/cairnstone/Cell", name := "value", desc := "()[B" } : Jvm.MethodName) prog_2_method_11_code (1 : Nat) (Option.some (Jvm.ClassFile.FieldType.array Jvm.ClassFile.FieldType.byte))).before a0 Z = true := hw _ (List.mem_of_getElem? (i := 60) rfl)
theorem w61 {a0 : Array Value} {Z : State} (hw : Hw a0 Z) : (Jvm.Cond.methodLink "com/example/cairnstone/cairnstone/CellCopyPinLaw" (29 : Nat) ({ cls := "com/example/cairnstone/cairnstone/Cell", name := "timestamp", desc := "()J" } : Jvm.MethodName)).before a0 Z = true := hw _ (List.mem_of_getElem? (i := 61) rfl)
theorem w62 {a0 : Array Value} {Z : State} (hw : Hw a0 Z) : (Jvm.Cond.declares ({ cls := "com/example/cairnstone/cairnstone/Cell", name := "timestamp", desc := "()J" } : Jvm.MethodName)).before a0 Z = true := hw _ (List.mem_of_getElem? (i := 62) rfl)
theorem w63 {a0 : Array Value} {Z : State} (hw : Hw a0 Z) : (Jvm.Cond.instanceMethod ({ cls := "com/example/cairnstone/cairnstone/Cell", name := "timestamp", desc := "()J" } : Jvm.MethodName)).before a0 Z = true := hw _ (List.mem_of_getElem? (i := 63) rfl)
theorem w64 {a0 : Array Value} {Z : State} (hw : Hw a0 Z) : (Jvm.Cond.selects "com/example/cairnstone/cairnstone/Cell" ({ cls := "com/example/cairnstone/cairnstone/Cell", name := "timestamp", desc := "()J" } : Jvm.MethodName) ({ cls := "com/example/cairnstone/cairnstone/Cell", name := "timestamp", desc := "()J" } : Jvm.MethodName)).before a0 Z = true := hw _ (List.mem_of_getElem? (i := 64) rfl)
theorem w65 {a0 : Array Value} {Z : State} (hw : Hw a0 Z) : (Jvm.Cond.code ({ cls := "com/example/cairnstone/cairnstone/Cell", name := "timestamp", desc := "()J" } : Jvm.MethodName) prog_2_method_10_code (1 : Nat) (Option.some Jvm.ClassFile.FieldType.long)).before a0 Z = true := hw _ (List.mem_of_getElem? (i := 65) rfl)
theorem ef2 (m : MethodId) (x0 : Addr) : entryFrame m #[(.ref x0)] 1 = mkF m 0 #[.val (.ref x0)] [] := by first | (simp [entryFrame, mkF, argsToLocals, Value.category]; done) | rfl
theorem pn2 : plainFor (⟨"java/lang/Record", "<init>", "()V"⟩ : MethodName) = true := plainFor_of_name (by first | (simp [plainName, overriddenIn]; done) | decide +kernel)
theorem d2_0 : decode jdk_30_method_1_code 0 = .ok (.aload_n 0, 1) := by decide +kernel
theorem d2_1 : decode jdk_30_method_1_code 1 = .ok (.invokespecial 1, 3) := by decide +kernel
theorem d2_4 : decode jdk_30_method_1_code 4 = .ok (.return_, 1) := by decide +kernel
theorem ef1 (m : MethodId) (x0 : Addr) (x1 : Addr) (x2 : Addr) (x3 : Addr) (x4 : Int64) (x5 : Addr) : entryFrame m #[(.ref x0), (.ref x1), (.ref x2), (.ref x3), (.long x4), (.ref x5)] 7 = mkF m 0 #[.val (.ref x0), .val (.ref x1), .val (.ref x2), .val (.ref x3), .val (.long x4), .second, .val (.ref x5)] [] := by first | (simp [entryFrame, mkF, argsToLocals, Value.category]; done) | rfl
theorem pn1 : plainFor (⟨"com/example/cairnstone/cairnstone/Cell", "<init>", "([B[B[BJ[B)V"⟩ : MethodName) = true := plainFor_of_name (by first | (simp [plainName, overriddenIn]; done) | decide +kernel)
theorem d1_0 : decode prog_2_method_1_code 0 = .ok (.aload_n 0, 1) := by decide +kernel
theorem d1_1 : decode prog_2_method_1_code 1 = .ok (.invokespecial 1, 3) := by decide +kernel
theorem pd3 : parseMethodDescriptor "()V" = some ⟨[], none⟩ := by decide +kernel
theorem d1_4 : decode prog_2_method_1_code 4 = .ok (.aload_n 0, 1) := by decide +kernel
theorem d1_5 : decode prog_2_method_1_code 5 = .ok (.aload_n 1, 1) := by decide +kernel
theorem d1_6 : decode prog_2_method_1_code 6 = .ok (.putfield 7, 3) := by decide +kernel
theorem d1_9 : decode prog_2_method_1_code 9 = .ok (.aload_n 0, 1) := by decide +kernel
theorem d1_10 : decode prog_2_method_1_code 10 = .ok (.aload_n 2, 1) := by decide +kernel
theorem d1_11 : decode prog_2_method_1_code 11 = .ok (.putfield 13, 3) := by decide +kernel
theorem d1_14 : decode prog_2_method_1_code 14 = .ok (.aload_n 0, 1) := by decide +kernel
theorem d1_15 : decode prog_2_method_1_code 15 = .ok (.aload_n 3, 1) := by decide +kernel
theorem d1_16 : decode prog_2_method_1_code 16 = .ok (.putfield 16, 3) := by decide +kernel
theorem d1_19 : decode prog_2_method_1_code 19 = .ok (.aload_n 0, 1) := by decide +kernel
theorem d1_20 : decode prog_2_method_1_code 20 = .ok (.lload 4, 2) := by decide +kernel
theorem d1_22 : decode prog_2_method_1_code 22 = .ok (.putfield 19, 3) := by decide +kernel
theorem d1_25 : decode prog_2_method_1_code 25 = .ok (.aload_n 0, 1) := by decide +kernel
theorem d1_26 : decode prog_2_method_1_code 26 = .ok (.aload 6, 2) := by decide +kernel
theorem d1_28 : decode prog_2_method_1_code 28 = .ok (.putfield 23, 3) := by decide +kernel
theorem d1_31 : decode prog_2_method_1_code 31 = .ok (.return_, 1) := by decide +kernel
theorem ef5 (m : MethodId) (x0 : Addr) : entryFrame m #[(.ref x0)] 1 = mkF m 0 #[.val (.ref x0)] [] := by first | (simp [entryFrame, mkF, argsToLocals, Value.category]; done) | rfl
theorem pn5 : plainFor (⟨"com/example/cairnstone/cairnstone/Cell", "row", "()[B"⟩ : MethodName) = true := plainFor_of_name (by first | (simp [plainName, overriddenIn]; done) | decide +kernel)
theorem d5_0 : decode prog_2_method_7_code 0 = .ok (.aload_n 0, 1) := by decide +kernel
theorem d5_1 : decode prog_2_method_7_code 1 = .ok (.getfield 7, 3) := by decide +kernel
theorem d5_4 : decode prog_2_method_7_code 4 = .ok (.areturn, 1) := by decide +kernel
theorem ef6 (m : MethodId) (x0 : Addr) : entryFrame m #[(.ref x0)] 1 = mkF m 0 #[.val (.ref x0)] [] := by first | (simp [entryFrame, mkF, argsToLocals, Value.category]; done) | rfl
theorem pn6 : plainFor (⟨"com/example/cairnstone/cairnstone/Cell", "family", "()[B"⟩ : MethodName) = true := plainFor_of_name (by first | (simp [plainName, overriddenIn]; done) | decide +kernel)
theorem d6_0 : decode prog_2_method_8_code 0 = .ok (.aload_n 0, 1) := by decide +kernel
theorem d6_1 : decode prog_2_method_8_code 1 = .ok (.getfield 13, 3) := by decide +kernel
theorem d6_4 : decode prog_2_method_8_code 4 = .ok (.areturn, 1) := by decide +kernel
theorem ef7 (m : MethodId) (x0 : Addr) : entryFrame m #[(.ref x0)] 1 = mkF m 0 #[.val (.ref x0)] [] := by first | (simp [entryFrame, mkF, argsToLocals, Value.category]; done) | rfl
theorem pn7 : plainFor (⟨"com/example/cairnstone/cairnstone/Cell", "qualifier", "()[B"⟩ : MethodName) = true := plainFor_of_name (by first | (simp [plainName, overriddenIn]; done) | decide +kernel)
theorem d7_0 : decode prog_2_method_9_code 0 = .ok (.aload_n 0, 1) := by decide +kernel
theorem d7_1 : decode prog_2_method_9_code 1 = .ok (.getfield 16, 3) := by decide +kernel
theorem d7_4 : decode prog_2_method_9_code 4 = .ok (.areturn, 1) := by decide +kernel
theorem ef8 (m : MethodId) (x0 : Addr) : entryFrame m #[(.ref x0)] 1 = mkF m 0 #[.val (.ref x0)] [] := by first | (simp [entryFrame, mkF, argsToLocals, Value.category]; done) | rfl
theorem pn8 : plainFor (⟨"com/example/cairnstone/cairnstone/Cell", "value", "()[B"⟩ : MethodName) = true := plainFor_of_name (by first | (simp [plainName, overriddenIn]; done) | decide +kernel)
theorem d8_0 : decode prog_2_method_11_code 0 = .ok (.aload_n 0, 1) := by decide +kernel
theorem d8_1 : decode prog_2_method_11_code 1 = .ok (.getfield 23, 3) := by decide +kernel
theorem d8_4 : decode prog_2_method_11_code 4 = .ok (.areturn, 1) := by decide +kernel
theorem ef9 (m : MethodId) (x0 : Addr) : entryFrame m #[(.ref x0)] 1 = mkF m 0 #[.val (.ref x0)] [] := by first | (simp [entryFrame, mkF, argsToLocals, Value.category]; done) | rfl
theorem pn9 : plainFor (⟨"com/example/cairnstone/cairnstone/Cell", "timestamp", "()J"⟩ : MethodName) = true := plainFor_of_name (by first | (simp [plainName, overriddenIn]; done) | decide +kernel)
theorem d9_0 : decode prog_2_method_10_code 0 = .ok (.aload_n 0, 1) := by decide +kernel
theorem d9_1 : decode prog_2_method_10_code 1 = .ok (.getfield 19, 3) := by decide +kernel
theorem d9_4 : decode prog_2_method_10_code 4 = .ok (.lreturn, 1) := by decide +kernel
theorem ef4 (m : MethodId) (x0 : Addr) : entryFrame m #[(.ref x0)] 1 = mkF m 0 #[.val (.ref x0)] [] := by first | (simp [entryFrame, mkF, argsToLocals, Value.category]; done) | rfl
theorem pn4 : plainFor (⟨"com/example/cairnstone/cairnstone/Cell", "copy", "()Lcom/example/cairnstone/cairnstone/Cell;"⟩ : MethodName) = true := plainFor_of_name (by first | (simp [plainName, overriddenIn]; done) | decide +kernel)
theorem d4_0 : decode prog_2_method_3_code 0 = .ok (.new 8, 3) := by decide +kernel
theorem d4_3 : decode prog_2_method_3_code 3 = .ok (.dup, 1) := by decide +kernel
theorem d4_4 : decode prog_2_method_3_code 4 = .ok (.aload_n 0, 1) := by decide +kernel
theorem d4_5 : decode prog_2_method_3_code 5 = .ok (.getfield 7, 3) := by decide +kernel
theorem d4_8 : decode prog_2_method_3_code 8 = .ok (.invokevirtual 28, 3) := by decide +kernel
theorem d4_11 : decode prog_2_method_3_code 11 = .ok (.checkcast 29, 3) := by decide +kernel
theorem d4_14 : decode prog_2_method_3_code 14 = .ok (.aload_n 0, 1) := by decide +kernel
theorem d4_15 : decode prog_2_method_3_code 15 = .ok (.getfield 13, 3) := by decide +kernel
theorem d4_18 : decode prog_2_method_3_code 18 = .ok (.invokevirtual 28, 3) := by decide +kernel
theorem d4_21 : decode prog_2_method_3_code 21 = .ok (.checkcast 29, 3) := by decide +kernel
theorem d4_24 : decode prog_2_method_3_code 24 = .ok (.aload_n 0, 1) := by decide +kernel
theorem d4_25 : decode prog_2_method_3_code 25 = .ok (.getfield 16, 3) := by decide +kernel
theorem d4_28 : decode prog_2_method_3_code 28 = .ok (.invokevirtual 28, 3) := by decide +kernel
theorem d4_31 : decode prog_2_method_3_code 31 = .ok (.checkcast 29, 3) := by decide +kernel
theorem d4_34 : decode prog_2_method_3_code 34 = .ok (.aload_n 0, 1) := by decide +kernel
theorem d4_35 : decode prog_2_method_3_code 35 = .ok (.getfield 19, 3) := by decide +kernel
theorem d4_38 : decode prog_2_method_3_code 38 = .ok (.aload_n 0, 1) := by decide +kernel
theorem d4_39 : decode prog_2_method_3_code 39 = .ok (.getfield 23, 3) := by decide +kernel
theorem d4_42 : decode prog_2_method_3_code 42 = .ok (.invokevirtual 28, 3) := by decide +kernel
theorem d4_45 : decode prog_2_method_3_code 45 = .ok (.checkcast 29, 3) := by decide +kernel
theorem d4_48 : decode prog_2_method_3_code 48 = .ok (.invokespecial 33, 3) := by decide +kernel
theorem pd5 : parseMethodDescriptor "([B[B[BJ[B)V" = some ⟨[(.array .byte), (.array .byte), (.array .byte), .long, (.array .byte)], none⟩ := by decide +kernel
theorem d4_51 : decode prog_2_method_3_code 51 = .ok (.areturn, 1) := by decide +kernel
theorem ef0 (m : MethodId) (x0 : Int32) (x1 : Int32) (x2 : Int32) (x3 : Int64) : entryFrame m #[(.int x0), (.int x1), (.int x2), (.long x3)] maxLocals = mkF m 0 #[.val (.int x0), .val (.int x1), .val (.int x2), .val (.long x3), .second, .unset, .unset, .unset, .unset, .unset, .unset, .unset, .unset, .unset, .unset, .unset, .unset, .unset, .unset, .unset, .unset, .unset, .unset, .unset, .unset, .unset, .unset, .unset, .unset] [] := by first | (simp [entryFrame, mkF, argsToLocals, Value.category, maxLocals]; done) | rfl
theorem pn0 : plainFor (⟨"com/example/cairnstone/cairnstone/CellCopyPinLaw", "law", "(IIIJ)Z"⟩ : MethodName) = true := plainFor_of_name (by first | (simp [plainName, overriddenIn]; done) | decide +kernel)
theorem pd1 : parseMethodDescriptor "()Lcom/example/cairnstone/cairnstone/Cell;" = some ⟨[], some (.object "com/example/cairnstone/cairnstone/Cell")⟩ := by decide +kernel
theorem pd4 : parseMethodDescriptor "()[B" = some ⟨[], some (.array .byte)⟩ := by decide +kernel
theorem pd0 : parseMethodDescriptor "()J" = some ⟨[], some .long⟩ := by decide +kernel

theorem own_idem (x v : Int32) (h : v = x.toInt8.toInt32) : v.toInt8.toInt32 = v := by
  subst h
  rw [← Int32.toInt_inj]
  have a := c_i2b x
  have b := c_i2b x.toInt8.toInt32
  omega

set_option maxRecDepth 65536 in
set_option maxHeartbeats 40000000 in
theorem c_rec (l : Launch) (Z : State) (a0 : Array Value) (hw : Hw a0 Z) (o : Addr) (h0 : Heap) (n0 : Nat) (Z0 : n0 ≤ h0.size)  :
    Met l Z (⟨"java/lang/Record", "<init>", "()V"⟩ : MethodName) jdk_30_method_1_code 1 none [] ({ frames := 1, cells := 0, slots := 0, locals := 12 } : Room) #[(.ref o)] h0 n0 (Ret0 (fun h => h0 = h)) := by
  refine Met.intro pn2 (own := "java/lang/Record") rfl (nm := "<init>") rfl (fun m => ef2 m o) ?_
  intro p e s m below meth c C
  refine s_aloadN C d2_0 (pc' := 1) rfl rfl rfl ?_
  refine s_initO C d2_1 (pc' := 4) rfl (w12 hw) (w13 hw) (w14 hw) rfl (by decide) (W := 0) rfl (by decide) ?_
  exact s_ret0 C d2_4 (by decide) (by decide) rfl
set_option maxRecDepth 65536 in
set_option maxHeartbeats 40000000 in
theorem c_cell (l : Launch) (Z : State) (a0 : Array Value) (hw : Hw a0 Z) (o : Addr) (x1 : Addr) (x2 : Addr) (x3 : Addr) (x4 : Int64) (x5 : Addr) (h0 : Heap) (n0 : Nat) (Z0 : n0 ≤ h0.size) (E_o : Exa Z h0 o "com/example/cairnstone/cairnstone/Cell") (g_o : n0 ≤ o) (F_row : Fld Z h0 o "com/example/cairnstone/cairnstone/Cell" "row" "[B" .null) (F_family : Fld Z h0 o "com/example/cairnstone/cairnstone/Cell" "family" "[B" .null) (F_qualifier : Fld Z h0 o "com/example/cairnstone/cairnstone/Cell" "qualifier" "[B" .null) (F_timestamp : Fld Z h0 o "com/example/cairnstone/cairnstone/Cell" "timestamp" "J" (.long (0 : Int64))) (F_value : Fld Z h0 o "com/example/cairnstone/cairnstone/Cell" "value" "[B" .null)  :
    Met l Z (⟨"com/example/cairnstone/cairnstone/Cell", "<init>", "([B[B[BJ[B)V"⟩ : MethodName) prog_2_method_1_code 7 none [] ({ frames := 2, cells := 0, slots := 0, locals := 24 } : Room) #[(.ref o), (.ref x1), (.ref x2), (.ref x3), (.long x4), (.ref x5)] h0 n0 (Ret0 (fun h => Keep h0 h [o] ∧ Exa Z h o "com/example/cairnstone/cairnstone/Cell" ∧ Fld Z h o "com/example/cairnstone/cairnstone/Cell" "row" "[B" (.ref x1) ∧ Fld Z h o "com/example/cairnstone/cairnstone/Cell" "family" "[B" (.ref x2) ∧ Fld Z h o "com/example/cairnstone/cairnstone/Cell" "qualifier" "[B" (.ref x3) ∧ Fld Z h o "com/example/cairnstone/cairnstone/Cell" "timestamp" "J" (.long x4) ∧ Fld Z h o "com/example/cairnstone/cairnstone/Cell" "value" "[B" (.ref x5))) := by
  refine Met.intro pn1 (own := "com/example/cairnstone/cairnstone/Cell") rfl (nm := "<init>") rfl (fun m => ef1 m o x1 x2 x3 x4 x5) ?_
  intro p e s m below meth c C
  refine s_aloadN C d1_0 (pc' := 1) rfl rfl rfl ?_
  refine s_callI C d1_1 (pc' := 4) rfl (w7 hw) rfl (w8 hw) (w10 hw) (w11 hw) (by decide) [] [] pd3 rfl rfl (c_rec l Z a0 hw o h0 n0 Z0) rfl (W := 0) rfl (by decide) (by decide) (k' := 0) rfl (by decide) (n' := 0) rfl (by decide) (fun _ q1 => ?_)
  obtain rfl := q1
  refine s_aloadN C d1_4 (pc' := 5) rfl rfl rfl ?_
  refine s_aloadN C d1_5 (pc' := 6) rfl rfl rfl ?_
  refine s_putF C d1_6 (pc' := 9) rfl (w15 hw) F_row E_o (Or.inr ⟨(w16 hw), rfl, rfl⟩) (w2 hw) (ty := (.array .byte)) (by decide) rfl rfl g_o (fun h2 W2 => ?_)
  have F2 := F_row.same W2
  have sz3 : n0 ≤ h2.size := (Nat.le_trans Z0 (Nat.le_of_eq W2.size.symm))
  have Kp4 : Keep h0 h2 [o] := (Keep.refl h0 [o]).wr W2 (Or.inl (List.mem_of_getElem? (i := 0) rfl))
  refine s_aloadN C d1_9 (pc' := 10) rfl rfl rfl ?_
  refine s_aloadN C d1_10 (pc' := 11) rfl rfl rfl ?_
  have Fx5 := (F_family.other W2 (Or.inr (slot_ne (Or.inr (w18 hw)) (Or.inr (w16 hw)) (by decide) (t := (.array .byte)) (t' := (.array .byte)) (by decide) (by decide))))
  have Ex6 := (E_o.wr W2)
  refine s_putF C d1_11 (pc' := 14) rfl (w17 hw) Fx5 Ex6 (Or.inr ⟨(w18 hw), rfl, rfl⟩) (w2 hw) (ty := (.array .byte)) (by decide) rfl rfl g_o (fun h7 W7 => ?_)
  have F7 := Fx5.same W7
  have sz8 : n0 ≤ h7.size := (Nat.le_trans sz3 (Nat.le_of_eq W7.size.symm))
  have Kp9 : Keep h0 h7 [o] := Kp4.wr W7 (Or.inl (List.mem_of_getElem? (i := 0) rfl))
  refine s_aloadN C d1_14 (pc' := 15) rfl rfl rfl ?_
  refine s_aloadN C d1_15 (pc' := 16) rfl rfl rfl ?_
  have Fx10 := ((F_qualifier.other W2 (Or.inr (slot_ne (Or.inr (w20 hw)) (Or.inr (w16 hw)) (by decide) (t := (.array .byte)) (t' := (.array .byte)) (by decide) (by decide)))).other W7 (Or.inr (slot_ne (Or.inr (w20 hw)) (Or.inr (w18 hw)) (by decide) (t := (.array .byte)) (t' := (.array .byte)) (by decide) (by decide))))
  have Ex11 := (Ex6.wr W7)
  refine s_putF C d1_16 (pc' := 19) rfl (w19 hw) Fx10 Ex11 (Or.inr ⟨(w20 hw), rfl, rfl⟩) (w2 hw) (ty := (.array .byte)) (by decide) rfl rfl g_o (fun h12 W12 => ?_)
  have F12 := Fx10.same W12
  have sz13 : n0 ≤ h12.size := (Nat.le_trans sz8 (Nat.le_of_eq W12.size.symm))
  have Kp14 : Keep h0 h12 [o] := Kp9.wr W12 (Or.inl (List.mem_of_getElem? (i := 0) rfl))
  refine s_aloadN C d1_19 (pc' := 20) rfl rfl rfl ?_
  refine s_lload C d1_20 (pc' := 22) rfl rfl ?_
  have Fx15 := (((F_timestamp.other W2 (Or.inr (slot_ne (Or.inr (w22 hw)) (Or.inr (w16 hw)) (by decide) (t := .long) (t' := (.array .byte)) (by decide) (by decide)))).other W7 (Or.inr (slot_ne (Or.inr (w22 hw)) (Or.inr (w18 hw)) (by decide) (t := .long) (t' := (.array .byte)) (by decide) (by decide)))).other W12 (Or.inr (slot_ne (Or.inr (w22 hw)) (Or.inr (w20 hw)) (by decide) (t := .long) (t' := (.array .byte)) (by decide) (by decide))))
  have Ex16 := (Ex11.wr W12)
  refine s_putF C d1_22 (pc' := 25) rfl (w21 hw) Fx15 Ex16 (Or.inr ⟨(w22 hw), rfl, rfl⟩) (w2 hw) (ty := .long) (by decide) rfl rfl g_o (fun h17 W17 => ?_)
  have F17 := Fx15.same W17
  have sz18 : n0 ≤ h17.size := (Nat.le_trans sz13 (Nat.le_of_eq W17.size.symm))
  have Kp19 : Keep h0 h17 [o] := Kp14.wr W17 (Or.inl (List.mem_of_getElem? (i := 0) rfl))
  refine s_aloadN C d1_25 (pc' := 26) rfl rfl rfl ?_
  refine s_aload C d1_26 (pc' := 28) rfl rfl rfl ?_
  have Fx20 := ((((F_value.other W2 (Or.inr (slot_ne (Or.inr (w24 hw)) (Or.inr (w16 hw)) (by decide) (t := (.array .byte)) (t' := (.array .byte)) (by decide) (by decide)))).other W7 (Or.inr (slot_ne (Or.inr (w24 hw)) (Or.inr (w18 hw)) (by decide) (t := (.array .byte)) (t' := (.array .byte)) (by decide) (by decide)))).other W12 (Or.inr (slot_ne (Or.inr (w24 hw)) (Or.inr (w20 hw)) (by decide) (t := (.array .byte)) (t' := (.array .byte)) (by decide) (by decide)))).other W17 (Or.inr (slot_ne (Or.inr (w24 hw)) (Or.inr (w22 hw)) (by decide) (t := (.array .byte)) (t' := .long) (by decide) (by decide))))
  have Ex21 := (Ex16.wr W17)
  refine s_putF C d1_28 (pc' := 31) rfl (w23 hw) Fx20 Ex21 (Or.inr ⟨(w24 hw), rfl, rfl⟩) (w2 hw) (ty := (.array .byte)) (by decide) rfl rfl g_o (fun h22 W22 => ?_)
  have F22 := Fx20.same W22
  have sz23 : n0 ≤ h22.size := (Nat.le_trans sz18 (Nat.le_of_eq W22.size.symm))
  have Kp24 : Keep h0 h22 [o] := Kp19.wr W22 (Or.inl (List.mem_of_getElem? (i := 0) rfl))
  have Ex25 := (Ex21.wr W22)
  have Fx26 := ((((F2.other W7 (Or.inr (slot_ne (Or.inr (w16 hw)) (Or.inr (w18 hw)) (by decide) (t := (.array .byte)) (t' := (.array .byte)) (by decide) (by decide)))).other W12 (Or.inr (slot_ne (Or.inr (w16 hw)) (Or.inr (w20 hw)) (by decide) (t := (.array .byte)) (t' := (.array .byte)) (by decide) (by decide)))).other W17 (Or.inr (slot_ne (Or.inr (w16 hw)) (Or.inr (w22 hw)) (by decide) (t := (.array .byte)) (t' := .long) (by decide) (by decide)))).other W22 (Or.inr (slot_ne (Or.inr (w16 hw)) (Or.inr (w24 hw)) (by decide) (t := (.array .byte)) (t' := (.array .byte)) (by decide) (by decide))))
  have Fx27 := (((F7.other W12 (Or.inr (slot_ne (Or.inr (w18 hw)) (Or.inr (w20 hw)) (by decide) (t := (.array .byte)) (t' := (.array .byte)) (by decide) (by decide)))).other W17 (Or.inr (slot_ne (Or.inr (w18 hw)) (Or.inr (w22 hw)) (by decide) (t := (.array .byte)) (t' := .long) (by decide) (by decide)))).other W22 (Or.inr (slot_ne (Or.inr (w18 hw)) (Or.inr (w24 hw)) (by decide) (t := (.array .byte)) (t' := (.array .byte)) (by decide) (by decide))))
  have Fx28 := ((F12.other W17 (Or.inr (slot_ne (Or.inr (w20 hw)) (Or.inr (w22 hw)) (by decide) (t := (.array .byte)) (t' := .long) (by decide) (by decide)))).other W22 (Or.inr (slot_ne (Or.inr (w20 hw)) (Or.inr (w24 hw)) (by decide) (t := (.array .byte)) (t' := (.array .byte)) (by decide) (by decide))))
  have Fx29 := (F17.other W22 (Or.inr (slot_ne (Or.inr (w22 hw)) (Or.inr (w24 hw)) (by decide) (t := .long) (t' := (.array .byte)) (by decide) (by decide))))
  exact s_ret0 C d1_31 (by decide) (by decide) ⟨Kp24, Ex25, Fx26, Fx27, Fx28, Fx29, F22⟩
set_option maxRecDepth 65536 in
set_option maxHeartbeats 40000000 in
theorem c_row (l : Launch) (Z : State) (a0 : Array Value) (hw : Hw a0 Z) (o : Addr) (w : Addr) (h0 : Heap) (n0 : Nat) (Z0 : n0 ≤ h0.size) (F_o : Fld Z h0 o "com/example/cairnstone/cairnstone/Cell" "row" "[B" (.ref w)) :
    Met l Z (⟨"com/example/cairnstone/cairnstone/Cell", "row", "()[B"⟩ : MethodName) prog_2_method_7_code 1 (some (.array .byte)) [] ({ frames := 0, cells := 0, slots := 0, locals := 0 } : Room) #[(.ref o)] h0 n0 (RetV (fun z h => z = .ref w ∧ h0 = h)) := by
  refine Met.intro pn5 (own := "com/example/cairnstone/cairnstone/Cell") rfl (nm := "row") rfl (fun m => ef5 m o) ?_
  intro p e s m below meth c C
  refine s_aloadN C d5_0 (pc' := 1) rfl rfl rfl ?_
  refine s_getF C d5_1 (pc' := 4) rfl (w15 hw) F_o ?_
  exact s_retA C rfl rfl rfl d5_4 (by decide) (by decide) ⟨rfl, rfl⟩
set_option maxRecDepth 65536 in
set_option maxHeartbeats 40000000 in
theorem c_family (l : Launch) (Z : State) (a0 : Array Value) (hw : Hw a0 Z) (o : Addr) (w : Addr) (h0 : Heap) (n0 : Nat) (Z0 : n0 ≤ h0.size) (F_o : Fld Z h0 o "com/example/cairnstone/cairnstone/Cell" "family" "[B" (.ref w)) :
    Met l Z (⟨"com/example/cairnstone/cairnstone/Cell", "family", "()[B"⟩ : MethodName) prog_2_method_8_code 1 (some (.array .byte)) [] ({ frames := 0, cells := 0, slots := 0, locals := 0 } : Room) #[(.ref o)] h0 n0 (RetV (fun z h => z = .ref w ∧ h0 = h)) := by
  refine Met.intro pn6 (own := "com/example/cairnstone/cairnstone/Cell") rfl (nm := "family") rfl (fun m => ef6 m o) ?_
  intro p e s m below meth c C
  refine s_aloadN C d6_0 (pc' := 1) rfl rfl rfl ?_
  refine s_getF C d6_1 (pc' := 4) rfl (w17 hw) F_o ?_
  exact s_retA C rfl rfl rfl d6_4 (by decide) (by decide) ⟨rfl, rfl⟩
set_option maxRecDepth 65536 in
set_option maxHeartbeats 40000000 in
theorem c_qualifier (l : Launch) (Z : State) (a0 : Array Value) (hw : Hw a0 Z) (o : Addr) (w : Addr) (h0 : Heap) (n0 : Nat) (Z0 : n0 ≤ h0.size) (F_o : Fld Z h0 o "com/example/cairnstone/cairnstone/Cell" "qualifier" "[B" (.ref w)) :
    Met l Z (⟨"com/example/cairnstone/cairnstone/Cell", "qualifier", "()[B"⟩ : MethodName) prog_2_method_9_code 1 (some (.array .byte)) [] ({ frames := 0, cells := 0, slots := 0, locals := 0 } : Room) #[(.ref o)] h0 n0 (RetV (fun z h => z = .ref w ∧ h0 = h)) := by
  refine Met.intro pn7 (own := "com/example/cairnstone/cairnstone/Cell") rfl (nm := "qualifier") rfl (fun m => ef7 m o) ?_
  intro p e s m below meth c C
  refine s_aloadN C d7_0 (pc' := 1) rfl rfl rfl ?_
  refine s_getF C d7_1 (pc' := 4) rfl (w19 hw) F_o ?_
  exact s_retA C rfl rfl rfl d7_4 (by decide) (by decide) ⟨rfl, rfl⟩
set_option maxRecDepth 65536 in
set_option maxHeartbeats 40000000 in
theorem c_value (l : Launch) (Z : State) (a0 : Array Value) (hw : Hw a0 Z) (o : Addr) (w : Addr) (h0 : Heap) (n0 : Nat) (Z0 : n0 ≤ h0.size) (F_o : Fld Z h0 o "com/example/cairnstone/cairnstone/Cell" "value" "[B" (.ref w)) :
    Met l Z (⟨"com/example/cairnstone/cairnstone/Cell", "value", "()[B"⟩ : MethodName) prog_2_method_11_code 1 (some (.array .byte)) [] ({ frames := 0, cells := 0, slots := 0, locals := 0 } : Room) #[(.ref o)] h0 n0 (RetV (fun z h => z = .ref w ∧ h0 = h)) := by
  refine Met.intro pn8 (own := "com/example/cairnstone/cairnstone/Cell") rfl (nm := "value") rfl (fun m => ef8 m o) ?_
  intro p e s m below meth c C
  refine s_aloadN C d8_0 (pc' := 1) rfl rfl rfl ?_
  refine s_getF C d8_1 (pc' := 4) rfl (w23 hw) F_o ?_
  exact s_retA C rfl rfl rfl d8_4 (by decide) (by decide) ⟨rfl, rfl⟩
set_option maxRecDepth 65536 in
set_option maxHeartbeats 40000000 in
theorem c_timestamp (l : Launch) (Z : State) (a0 : Array Value) (hw : Hw a0 Z) (o : Addr) (w : Int64) (h0 : Heap) (n0 : Nat) (Z0 : n0 ≤ h0.size) (F_o : Fld Z h0 o "com/example/cairnstone/cairnstone/Cell" "timestamp" "J" (.long w)) :
    Met l Z (⟨"com/example/cairnstone/cairnstone/Cell", "timestamp", "()J"⟩ : MethodName) prog_2_method_10_code 1 (some .long) [] ({ frames := 0, cells := 0, slots := 0, locals := 0 } : Room) #[(.ref o)] h0 n0 (RetL (fun z h => w = z ∧ h0 = h)) := by
  refine Met.intro pn9 (own := "com/example/cairnstone/cairnstone/Cell") rfl (nm := "timestamp") rfl (fun m => ef9 m o) ?_
  intro p e s m below meth c C
  refine s_aloadN C d9_0 (pc' := 1) rfl rfl rfl ?_
  refine s_getF C d9_1 (pc' := 4) rfl (w21 hw) F_o ?_
  exact s_retL C d9_4 (by decide) (by decide) ⟨rfl, rfl⟩
set_option maxRecDepth 65536 in
set_option maxHeartbeats 40000000 in
theorem c_copy (l : Launch) (Z : State) (a0 : Array Value) (hw : Hw a0 Z) (o a_row a_family a_qualifier a_value : Addr) (ts : Int64) (r0 r1 f0 q0 q1 u0 u1 u2 : Int32) (h0 : Heap) (n0 : Nat) (Z0 : n0 ≤ h0.size) (E_o : Exa Z h0 o "com/example/cairnstone/cairnstone/Cell") (F_ts : Fld Z h0 o "com/example/cairnstone/cairnstone/Cell" "timestamp" "J" (.long ts)) (F_row : Fld Z h0 o "com/example/cairnstone/cairnstone/Cell" "row" "[B" (.ref a_row)) (V_row : Av Z h0 a_row .byte [(.int r0), (.int r1)]) (X_row : Exa Z h0 a_row "[B") (F_family : Fld Z h0 o "com/example/cairnstone/cairnstone/Cell" "family" "[B" (.ref a_family)) (V_family : Av Z h0 a_family .byte [(.int f0)]) (X_family : Exa Z h0 a_family "[B") (F_qualifier : Fld Z h0 o "com/example/cairnstone/cairnstone/Cell" "qualifier" "[B" (.ref a_qualifier)) (V_qualifier : Av Z h0 a_qualifier .byte [(.int q0), (.int q1)]) (X_qualifier : Exa Z h0 a_qualifier "[B") (F_value : Fld Z h0 o "com/example/cairnstone/cairnstone/Cell" "value" "[B" (.ref a_value)) (V_value : Av Z h0 a_value .byte [(.int u0), (.int u1), (.int u2)]) (X_value : Exa Z h0 a_value "[B") :
    Met l Z (⟨"com/example/cairnstone/cairnstone/Cell", "copy", "()Lcom/example/cairnstone/cairnstone/Cell;"⟩ : MethodName) prog_2_method_3_code 1 (some (.object "com/example/cairnstone/cairnstone/Cell")) [] ({ frames := 3, cells := 5, slots := 13, locals := 50 } : Room) #[(.ref o)] h0 n0 (RetV (fun z h => ∃ o' b_row b_family b_qualifier b_value : Addr, z = .ref o' ∧ Keep h0 h [] ∧ Exa Z h o' "com/example/cairnstone/cairnstone/Cell" ∧ Fld Z h o' "com/example/cairnstone/cairnstone/Cell" "row" "[B" (.ref b_row) ∧ Fld Z h o' "com/example/cairnstone/cairnstone/Cell" "family" "[B" (.ref b_family) ∧ Fld Z h o' "com/example/cairnstone/cairnstone/Cell" "qualifier" "[B" (.ref b_qualifier) ∧ Fld Z h o' "com/example/cairnstone/cairnstone/Cell" "timestamp" "J" (.long ts) ∧ Fld Z h o' "com/example/cairnstone/cairnstone/Cell" "value" "[B" (.ref b_value) ∧ Av Z h b_row .byte [(.int r0), (.int r1)] ∧ Av Z h b_family .byte [(.int f0)] ∧ Av Z h b_qualifier .byte [(.int q0), (.int q1)] ∧ Av Z h b_value .byte [(.int u0), (.int u1), (.int u2)] ∧ h0.size ≤ b_row ∧ h0.size ≤ b_family ∧ h0.size ≤ b_qualifier ∧ h0.size ≤ b_value)) := by
  refine Met.intro pn4 (own := "com/example/cairnstone/cairnstone/Cell") rfl (nm := "copy") rfl (fun m => ef4 m o) ?_
  intro p e s m below meth c C
  refine s_new C d4_0 (pc' := 3) rfl (w30 hw) (w2 hw) (w3 hw) (k' := 1) rfl (by decide) (n' := 5) rfl (by decide) (fun h1 a1 E1 g1 A1 D1 => ?_)
  have ne2 : a_family ≠ a1 := Nat.ne_of_lt (by rw [g1]; exact V_family.lt)
  have ne3 : a_qualifier ≠ a1 := Nat.ne_of_lt (by rw [g1]; exact V_qualifier.lt)
  have ne4 : a_row ≠ a1 := Nat.ne_of_lt (by rw [g1]; exact V_row.lt)
  have ne5 : a_value ≠ a1 := Nat.ne_of_lt (by rw [g1]; exact V_value.lt)
  have ne6 : o ≠ a1 := Nat.ne_of_lt (by rw [g1]; exact E_o.lt)
  have gn7 : n0 ≤ a1 := by rw [g1]; exact Z0
  have bs8 : h0.size ≤ a1 := by rw [g1]; exact (Keep.refl h0 []).1
  have sz9 : n0 ≤ h1.size := (Nat.le_trans Z0 E1.1)
  have Kp10 : Keep h0 h1 [] := (Keep.refl h0 []).ext E1
  have F1_row : Fld Z h1 a1 "com/example/cairnstone/cairnstone/Cell" "row" "[B" .null := D1 (Or.inr (w16 hw)) (ty := (.array .byte)) (by decide)
  have F1_family : Fld Z h1 a1 "com/example/cairnstone/cairnstone/Cell" "family" "[B" .null := D1 (Or.inr (w18 hw)) (ty := (.array .byte)) (by decide)
  have F1_qualifier : Fld Z h1 a1 "com/example/cairnstone/cairnstone/Cell" "qualifier" "[B" .null := D1 (Or.inr (w20 hw)) (ty := (.array .byte)) (by decide)
  have F1_timestamp : Fld Z h1 a1 "com/example/cairnstone/cairnstone/Cell" "timestamp" "J" (.long (0 : Int64)) := D1 (Or.inr (w22 hw)) (ty := .long) (by decide)
  have F1_value : Fld Z h1 a1 "com/example/cairnstone/cairnstone/Cell" "value" "[B" .null := D1 (Or.inr (w24 hw)) (ty := (.array .byte)) (by decide)
  refine s_dup C d4_3 (pc' := 4) rfl rfl ?_
  refine s_aloadN C d4_4 (pc' := 5) rfl rfl rfl ?_
  have Fx11 := (F_row.ext E1)
  refine s_getF C d4_5 (pc' := 8) rfl (w15 hw) Fx11 ?_
  have Vx12 := (V_row.ext E1)
  have Ex13 := (X_row.ext E1)
  refine s_clone C d4_8 (pc' := 11) rfl (w31 hw) (w32 hw) (w36 hw) (w34 hw) (w35 hw) (w37 hw) Vx12 Ex13 rfl (by decide) (W := 2) rfl (by decide) (cap := 2) (Nat.le_of_ble_eq_true rfl) (k' := 2) rfl (by decide) (n' := 7) rfl (by decide) (fun h14 a14 E14 g14 A14 X14 => ?_)
  have ne15 : a1 ≠ a14 := Nat.ne_of_lt (by rw [g14]; exact A1.lt)
  have Vx16 := (V_family.ext E1)
  have ne17 : a_family ≠ a14 := Nat.ne_of_lt (by rw [g14]; exact Vx16.lt)
  have Vx18 := (V_qualifier.ext E1)
  have ne19 : a_qualifier ≠ a14 := Nat.ne_of_lt (by rw [g14]; exact Vx18.lt)
  have ne20 : a_row ≠ a14 := Nat.ne_of_lt (by rw [g14]; exact Vx12.lt)
  have Vx21 := (V_value.ext E1)
  have ne22 : a_value ≠ a14 := Nat.ne_of_lt (by rw [g14]; exact Vx21.lt)
  have Ex23 := (E_o.ext E1)
  have ne24 : o ≠ a14 := Nat.ne_of_lt (by rw [g14]; exact Ex23.lt)
  have gn25 : n0 ≤ a14 := by rw [g14]; exact sz9
  have bs26 : h0.size ≤ a14 := by rw [g14]; exact Kp10.1
  have sz27 : n0 ≤ h14.size := (Nat.le_trans sz9 E14.1)
  have Kp28 : Keep h0 h14 [] := Kp10.ext E14
  refine s_cast C d4_11 (pc' := 14) rfl (w38 hw) (Ins.self X14) ?_
  refine s_aloadN C d4_14 (pc' := 15) rfl rfl rfl ?_
  have Fx29 := ((F_family.ext E1).ext E14)
  refine s_getF C d4_15 (pc' := 18) rfl (w17 hw) Fx29 ?_
  have Vx30 := (Vx16.ext E14)
  have Ex31 := ((X_family.ext E1).ext E14)
  refine s_clone C d4_18 (pc' := 21) rfl (w31 hw) (w32 hw) (w36 hw) (w34 hw) (w35 hw) (w37 hw) Vx30 Ex31 rfl (by decide) (W := 3) rfl (by decide) (cap := 1) (Nat.le_of_ble_eq_true rfl) (k' := 3) rfl (by decide) (n' := 8) rfl (by decide) (fun h32 a32 E32 g32 A32 X32 => ?_)
  have Ex33 := (A1.ext E14)
  have ne34 : a1 ≠ a32 := Nat.ne_of_lt (by rw [g32]; exact Ex33.lt)
  have ne35 : a14 ≠ a32 := Nat.ne_of_lt (by rw [g32]; exact A14.lt)
  have ne36 : a_family ≠ a32 := Nat.ne_of_lt (by rw [g32]; exact Vx30.lt)
  have Vx37 := (Vx18.ext E14)
  have ne38 : a_qualifier ≠ a32 := Nat.ne_of_lt (by rw [g32]; exact Vx37.lt)
  have Vx39 := (Vx12.ext E14)
  have ne40 : a_row ≠ a32 := Nat.ne_of_lt (by rw [g32]; exact Vx39.lt)
  have Vx41 := (Vx21.ext E14)
  have ne42 : a_value ≠ a32 := Nat.ne_of_lt (by rw [g32]; exact Vx41.lt)
  have Ex43 := (Ex23.ext E14)
  have ne44 : o ≠ a32 := Nat.ne_of_lt (by rw [g32]; exact Ex43.lt)
  have gn45 : n0 ≤ a32 := by rw [g32]; exact sz27
  have bs46 : h0.size ≤ a32 := by rw [g32]; exact Kp28.1
  have sz47 : n0 ≤ h32.size := (Nat.le_trans sz27 E32.1)
  have Kp48 : Keep h0 h32 [] := Kp28.ext E32
  refine s_cast C d4_21 (pc' := 24) rfl (w38 hw) (Ins.self X32) ?_
  refine s_aloadN C d4_24 (pc' := 25) rfl rfl rfl ?_
  have Fx49 := (((F_qualifier.ext E1).ext E14).ext E32)
  refine s_getF C d4_25 (pc' := 28) rfl (w19 hw) Fx49 ?_
  have Vx50 := (Vx37.ext E32)
  have Ex51 := (((X_qualifier.ext E1).ext E14).ext E32)
  refine s_clone C d4_28 (pc' := 31) rfl (w31 hw) (w32 hw) (w36 hw) (w34 hw) (w35 hw) (w37 hw) Vx50 Ex51 rfl (by decide) (W := 4) rfl (by decide) (cap := 2) (Nat.le_of_ble_eq_true rfl) (k' := 4) rfl (by decide) (n' := 10) rfl (by decide) (fun h52 a52 E52 g52 A52 X52 => ?_)
  have Ex53 := (Ex33.ext E32)
  have ne54 : a1 ≠ a52 := Nat.ne_of_lt (by rw [g52]; exact Ex53.lt)
  have Vx55 := (A14.ext E32)
  have ne56 : a14 ≠ a52 := Nat.ne_of_lt (by rw [g52]; exact Vx55.lt)
  have ne57 : a32 ≠ a52 := Nat.ne_of_lt (by rw [g52]; exact A32.lt)
  have Vx58 := (Vx30.ext E32)
  have ne59 : a_family ≠ a52 := Nat.ne_of_lt (by rw [g52]; exact Vx58.lt)
  have ne60 : a_qualifier ≠ a52 := Nat.ne_of_lt (by rw [g52]; exact Vx50.lt)
  have Vx61 := (Vx39.ext E32)
  have ne62 : a_row ≠ a52 := Nat.ne_of_lt (by rw [g52]; exact Vx61.lt)
  have Vx63 := (Vx41.ext E32)
  have ne64 : a_value ≠ a52 := Nat.ne_of_lt (by rw [g52]; exact Vx63.lt)
  have Ex65 := (Ex43.ext E32)
  have ne66 : o ≠ a52 := Nat.ne_of_lt (by rw [g52]; exact Ex65.lt)
  have gn67 : n0 ≤ a52 := by rw [g52]; exact sz47
  have bs68 : h0.size ≤ a52 := by rw [g52]; exact Kp48.1
  have sz69 : n0 ≤ h52.size := (Nat.le_trans sz47 E52.1)
  have Kp70 : Keep h0 h52 [] := Kp48.ext E52
  refine s_cast C d4_31 (pc' := 34) rfl (w38 hw) (Ins.self X52) ?_
  refine s_aloadN C d4_34 (pc' := 35) rfl rfl rfl ?_
  have Fx71 := ((((F_ts.ext E1).ext E14).ext E32).ext E52)
  refine s_getF C d4_35 (pc' := 38) rfl (w21 hw) Fx71 ?_
  refine s_aloadN C d4_38 (pc' := 39) rfl rfl rfl ?_
  have Fx72 := ((((F_value.ext E1).ext E14).ext E32).ext E52)
  refine s_getF C d4_39 (pc' := 42) rfl (w23 hw) Fx72 ?_
  have Vx73 := (Vx63.ext E52)
  have Ex74 := ((((X_value.ext E1).ext E14).ext E32).ext E52)
  refine s_clone C d4_42 (pc' := 45) rfl (w31 hw) (w32 hw) (w36 hw) (w34 hw) (w35 hw) (w37 hw) Vx73 Ex74 rfl (by decide) (W := 7) rfl (by decide) (cap := 3) (Nat.le_of_ble_eq_true rfl) (k' := 5) rfl (by decide) (n' := 13) rfl (by decide) (fun h75 a75 E75 g75 A75 X75 => ?_)
  have Ex76 := (Ex53.ext E52)
  have ne77 : a1 ≠ a75 := Nat.ne_of_lt (by rw [g75]; exact Ex76.lt)
  have Vx78 := (Vx55.ext E52)
  have ne79 : a14 ≠ a75 := Nat.ne_of_lt (by rw [g75]; exact Vx78.lt)
  have Vx80 := (A32.ext E52)
  have ne81 : a32 ≠ a75 := Nat.ne_of_lt (by rw [g75]; exact Vx80.lt)
  have ne82 : a52 ≠ a75 := Nat.ne_of_lt (by rw [g75]; exact A52.lt)
  have Vx83 := (Vx58.ext E52)
  have ne84 : a_family ≠ a75 := Nat.ne_of_lt (by rw [g75]; exact Vx83.lt)
  have Vx85 := (Vx50.ext E52)
  have ne86 : a_qualifier ≠ a75 := Nat.ne_of_lt (by rw [g75]; exact Vx85.lt)
  have Vx87 := (Vx61.ext E52)
  have ne88 : a_row ≠ a75 := Nat.ne_of_lt (by rw [g75]; exact Vx87.lt)
  have ne89 : a_value ≠ a75 := Nat.ne_of_lt (by rw [g75]; exact Vx73.lt)
  have Ex90 := (Ex65.ext E52)
  have ne91 : o ≠ a75 := Nat.ne_of_lt (by rw [g75]; exact Ex90.lt)
  have gn92 : n0 ≤ a75 := by rw [g75]; exact sz69
  have bs93 : h0.size ≤ a75 := by rw [g75]; exact Kp70.1
  have sz94 : n0 ≤ h75.size := (Nat.le_trans sz69 E75.1)
  have Kp95 : Keep h0 h75 [] := Kp70.ext E75
  refine s_cast C d4_45 (pc' := 48) rfl (w38 hw) (Ins.self X75) ?_
  have Ex96 := (Ex76.ext E75)
  have Fx97 := ((((F1_row.ext E14).ext E32).ext E52).ext E75)
  have Fx98 := ((((F1_family.ext E14).ext E32).ext E52).ext E75)
  have Fx99 := ((((F1_qualifier.ext E14).ext E32).ext E52).ext E75)
  have Fx100 := ((((F1_timestamp.ext E14).ext E32).ext E52).ext E75)
  have Fx101 := ((((F1_value.ext E14).ext E32).ext E52).ext E75)
  refine s_callI C d4_48 (pc' := 51) rfl (w40 hw) rfl (w5 hw) (w3 hw) (w6 hw) (by decide) [(.ref a14), (.ref a32), (.ref a52), (.long ts), (.ref a75)] [(.ref a1)] pd5 rfl rfl (c_cell l Z a0 hw a1 a14 a32 a52 ts a75 h75 n0 sz94 Ex96 gn7 Fx97 Fx98 Fx99 Fx100 Fx101 ) rfl (W := 1) rfl (by decide) (by decide) (k' := 5) rfl (by decide) (n' := 13) rfl (by decide) (fun h102 q102 => ?_)
  obtain ⟨K102, E102, F102_row, F102_family, F102_qualifier, F102_timestamp, F102_value⟩ := q102
  have sz103 : n0 ≤ h102.size := (Nat.le_trans sz94 K102.1)
  have Kp104 : Keep h0 h102 [] := Kp95.trans K102 (allS (Or.inr bs8) all0)
  have Vx105 := ((Vx78.ext E75).keep K102 (ninS (Ne.symm ne15) nin0))
  have Vx106 := ((Vx80.ext E75).keep K102 (ninS (Ne.symm ne34) nin0))
  have Vx107 := ((A52.ext E75).keep K102 (ninS (Ne.symm ne54) nin0))
  have Vx108 := (A75.keep K102 (ninS (Ne.symm ne77) nin0))
  exact s_retA C rfl rfl rfl d4_51 (by decide) (by decide) ⟨a1, a14, a32, a52, a75, rfl, Kp104, E102, F102_row, F102_family, F102_qualifier, F102_timestamp, F102_value, Vx105, Vx106, Vx107, Vx108, bs26, bs46, bs68, bs93⟩
set_option maxRecDepth 65536 in
set_option maxHeartbeats 40000000 in
theorem law (l : Launch) (Z : State) (a0 : Array Value) (hw : Hw a0 Z) (x1 x2 x3 : Int32) (x4 : Int64) (h0 : Heap) (n0 : Nat) (Z0 : n0 ≤ h0.size)  :
    Met l Z x code maxLocals ret tables_1 room_1 #[(.int x1), (.int x2), (.int x3), (.long x4)] h0 n0 (RetI (fun z h => z = 1)) := by
  refine Met.intro pn0 (own := "com/example/cairnstone/cairnstone/CellCopyPinLaw") rfl (nm := "law") rfl (fun m => ef0 m x1 x2 x3 x4) ?_
  intro p e s m below meth c C
  refine s_iloadN C at_0 (pc' := 1) rfl rfl ?_
  refine s_i2b C at_1 (pc' := 2) rfl ?_
  refine s_istore C at_2 (pc' := 4) rfl (fun y => #[.val (.int x1), .val (.int x2), .val (.int x3), .val (.long x4), .second, .val (.int y), .unset, .unset, .unset, .unset, .unset, .unset, .unset, .unset, .unset, .unset, .unset, .unset, .unset, .unset, .unset, .unset, .unset, .unset, .unset, .unset, .unset, .unset, .unset]) (fun _ => rfl) (fun v1 hv1 => ?_)
  refine s_iloadN C at_4 (pc' := 5) rfl rfl ?_
  refine s_bipush C at_5 (pc' := 7) rfl (8 : Int32) rfl ?_
  refine s_ishr C at_7 (pc' := 8) rfl ?_
  refine s_i2b C at_8 (pc' := 9) rfl ?_
  refine s_istore C at_9 (pc' := 11) rfl (fun y => #[.val (.int x1), .val (.int x2), .val (.int x3), .val (.long x4), .second, .val (.int v1), .val (.int y), .unset, .unset, .unset, .unset, .unset, .unset, .unset, .unset, .unset, .unset, .unset, .unset, .unset, .unset, .unset, .unset, .unset, .unset, .unset, .unset, .unset, .unset]) (fun _ => rfl) (fun v2 hv2 => ?_)
  refine s_iloadN C at_11 (pc' := 12) rfl rfl ?_
  refine s_bipush C at_12 (pc' := 14) rfl (16 : Int32) rfl ?_
  refine s_ishr C at_14 (pc' := 15) rfl ?_
  refine s_i2b C at_15 (pc' := 16) rfl ?_
  refine s_istore C at_16 (pc' := 18) rfl (fun y => #[.val (.int x1), .val (.int x2), .val (.int x3), .val (.long x4), .second, .val (.int v1), .val (.int v2), .val (.int y), .unset, .unset, .unset, .unset, .unset, .unset, .unset, .unset, .unset, .unset, .unset, .unset, .unset, .unset, .unset, .unset, .unset, .unset, .unset, .unset, .unset]) (fun _ => rfl) (fun v3 hv3 => ?_)
  refine s_iloadN C at_18 (pc' := 19) rfl rfl ?_
  refine s_i2b C at_19 (pc' := 20) rfl ?_
  refine s_istore C at_20 (pc' := 22) rfl (fun y => #[.val (.int x1), .val (.int x2), .val (.int x3), .val (.long x4), .second, .val (.int v1), .val (.int v2), .val (.int v3), .val (.int y), .unset, .unset, .unset, .unset, .unset, .unset, .unset, .unset, .unset, .unset, .unset, .unset, .unset, .unset, .unset, .unset, .unset, .unset, .unset, .unset]) (fun _ => rfl) (fun v4 hv4 => ?_)
  refine s_iloadN C at_22 (pc' := 23) rfl rfl ?_
  refine s_bipush C at_23 (pc' := 25) rfl (8 : Int32) rfl ?_
  refine s_ishr C at_25 (pc' := 26) rfl ?_
  refine s_i2b C at_26 (pc' := 27) rfl ?_
  refine s_istore C at_27 (pc' := 29) rfl (fun y => #[.val (.int x1), .val (.int x2), .val (.int x3), .val (.long x4), .second, .val (.int v1), .val (.int v2), .val (.int v3), .val (.int v4), .val (.int y), .unset, .unset, .unset, .unset, .unset, .unset, .unset, .unset, .unset, .unset, .unset, .unset, .unset, .unset, .unset, .unset, .unset, .unset, .unset]) (fun _ => rfl) (fun v5 hv5 => ?_)
  refine s_iloadN C at_29 (pc' := 30) rfl rfl ?_
  refine s_i2b C at_30 (pc' := 31) rfl ?_
  refine s_istore C at_31 (pc' := 33) rfl (fun y => #[.val (.int x1), .val (.int x2), .val (.int x3), .val (.long x4), .second, .val (.int v1), .val (.int v2), .val (.int v3), .val (.int v4), .val (.int v5), .val (.int y), .unset, .unset, .unset, .unset, .unset, .unset, .unset, .unset, .unset, .unset, .unset, .unset, .unset, .unset, .unset, .unset, .unset, .unset]) (fun _ => rfl) (fun v6 hv6 => ?_)
  refine s_iloadN C at_33 (pc' := 34) rfl rfl ?_
  refine s_bipush C at_34 (pc' := 36) rfl (8 : Int32) rfl ?_
  refine s_ishr C at_36 (pc' := 37) rfl ?_
  refine s_i2b C at_37 (pc' := 38) rfl ?_
  refine s_istore C at_38 (pc' := 40) rfl (fun y => #[.val (.int x1), .val (.int x2), .val (.int x3), .val (.long x4), .second, .val (.int v1), .val (.int v2), .val (.int v3), .val (.int v4), .val (.int v5), .val (.int v6), .val (.int y), .unset, .unset, .unset, .unset, .unset, .unset, .unset, .unset, .unset, .unset, .unset, .unset, .unset, .unset, .unset, .unset, .unset]) (fun _ => rfl) (fun v7 hv7 => ?_)
  refine s_iloadN C at_40 (pc' := 41) rfl rfl ?_
  refine s_bipush C at_41 (pc' := 43) rfl (16 : Int32) rfl ?_
  refine s_ishr C at_43 (pc' := 44) rfl ?_
  refine s_i2b C at_44 (pc' := 45) rfl ?_
  refine s_istore C at_45 (pc' := 47) rfl (fun y => #[.val (.int x1), .val (.int x2), .val (.int x3), .val (.long x4), .second, .val (.int v1), .val (.int v2), .val (.int v3), .val (.int v4), .val (.int v5), .val (.int v6), .val (.int v7), .val (.int y), .unset, .unset, .unset, .unset, .unset, .unset, .unset, .unset, .unset, .unset, .unset, .unset, .unset, .unset, .unset, .unset]) (fun _ => rfl) (fun v8 hv8 => ?_)
  refine s_iconst C at_47 (pc' := 48) rfl (2 : Int32) rfl ?_
  refine s_newarrE C (cap := 2) at_48 (pc' := 50) rfl (w0 hw) (by decide) (by decide) (by decide) (k' := 1) rfl (by decide) (n' := 2) rfl (by decide) [(.int (0 : Int32)), (.int (0 : Int32))] rfl "[B" rfl (fun h9 a9 E9 g9 A9 X9 => ?_)
  have gn10 : n0 ≤ a9 := by rw [g9]; exact Z0
  have sz11 : n0 ≤ h9.size := (Nat.le_trans Z0 E9.1)
  refine s_dup C at_50 (pc' := 51) rfl rfl ?_
  refine s_iconst C at_51 (pc' := 52) rfl (0 : Int32) rfl ?_
  refine s_iload C at_52 (pc' := 54) rfl rfl ?_
  refine s_bastore C at_54 (pc' := 55) rfl A9 0 (by decide) (Nat.le_of_ble_eq_true rfl) gn10 [(.int v1.toInt8.toInt32), (.int (0 : Int32))] rfl (fun h12 W12 A12 => ?_)
  have sz13 : n0 ≤ h12.size := (Nat.le_trans sz11 (Nat.le_of_eq W12.size.symm))
  refine s_dup C at_55 (pc' := 56) rfl rfl ?_
  refine s_iconst C at_56 (pc' := 57) rfl (1 : Int32) rfl ?_
  refine s_iload C at_57 (pc' := 59) rfl rfl ?_
  refine s_bastore C at_59 (pc' := 60) rfl A12 1 (by decide) (Nat.le_of_ble_eq_true rfl) gn10 [(.int v1.toInt8.toInt32), (.int v2.toInt8.toInt32)] rfl (fun h14 W14 A14 => ?_)
  have sz15 : n0 ≤ h14.size := (Nat.le_trans sz13 (Nat.le_of_eq W14.size.symm))
  refine s_astore C at_60 (pc' := 62) rfl rfl #[.val (.int x1), .val (.int x2), .val (.int x3), .val (.long x4), .second, .val (.int v1), .val (.int v2), .val (.int v3), .val (.int v4), .val (.int v5), .val (.int v6), .val (.int v7), .val (.int v8), .val (.ref a9), .unset, .unset, .unset, .unset, .unset, .unset, .unset, .unset, .unset, .unset, .unset, .unset, .unset, .unset, .unset] rfl ?_
  refine s_iconst C at_62 (pc' := 63) rfl (1 : Int32) rfl ?_
  refine s_newarrE C (cap := 1) at_63 (pc' := 65) rfl (w0 hw) (by decide) (by decide) (by decide) (k' := 2) rfl (by decide) (n' := 3) rfl (by decide) [(.int (0 : Int32))] rfl "[B" rfl (fun h16 a16 E16 g16 A16 X16 => ?_)
  have Ex17 := ((X9.wr W12).wr W14)
  have ne18 : a9 ≠ a16 := Nat.ne_of_lt (by rw [g16]; exact Ex17.lt)
  have gn19 : n0 ≤ a16 := by rw [g16]; exact sz15
  have sz20 : n0 ≤ h16.size := (Nat.le_trans sz15 E16.1)
  refine s_dup C at_65 (pc' := 66) rfl rfl ?_
  refine s_iconst C at_66 (pc' := 67) rfl (0 : Int32) rfl ?_
  refine s_iload C at_67 (pc' := 69) rfl rfl ?_
  refine s_bastore C at_69 (pc' := 70) rfl A16 0 (by decide) (Nat.le_of_ble_eq_true rfl) gn19 [(.int v3.toInt8.toInt32)] rfl (fun h21 W21 A21 => ?_)
  have sz22 : n0 ≤ h21.size := (Nat.le_trans sz20 (Nat.le_of_eq W21.size.symm))
  refine s_astore C at_70 (pc' := 72) rfl rfl #[.val (.int x1), .val (.int x2), .val (.int x3), .val (.long x4), .second, .val (.int v1), .val (.int v2), .val (.int v3), .val (.int v4), .val (.int v5), .val (.int v6), .val (.int v7), .val (.int v8), .val (.ref a9), .val (.ref a16), .unset, .unset, .unset, .unset, .unset, .unset, .unset, .unset, .unset, .unset, .unset, .unset, .unset, .unset] rfl ?_
  refine s_iconst C at_72 (pc' := 73) rfl (2 : Int32) rfl ?_
  refine s_newarrE C (cap := 2) at_73 (pc' := 75) rfl (w0 hw) (by decide) (by decide) (by decide) (k' := 3) rfl (by decide) (n' := 5) rfl (by decide) [(.int (0 : Int32)), (.int (0 : Int32))] rfl "[B" rfl (fun h23 a23 E23 g23 A23 X23 => ?_)
  have Ex24 := (X16.wr W21)
  have ne25 : a16 ≠ a23 := Nat.ne_of_lt (by rw [g23]; exact Ex24.lt)
  have Ex26 := ((Ex17.ext E16).wr W21)
  have ne27 : a9 ≠ a23 := Nat.ne_of_lt (by rw [g23]; exact Ex26.lt)
  have gn28 : n0 ≤ a23 := by rw [g23]; exact sz22
  have sz29 : n0 ≤ h23.size := (Nat.le_trans sz22 E23.1)
  refine s_dup C at_75 (pc' := 76) rfl rfl ?_
  refine s_iconst C at_76 (pc' := 77) rfl (0 : Int32) rfl ?_
  refine s_iload C at_77 (pc' := 79) rfl rfl ?_
  refine s_bastore C at_79 (pc' := 80) rfl A23 0 (by decide) (Nat.le_of_ble_eq_true rfl) gn28 [(.int v4.toInt8.toInt32), (.int (0 : Int32))] rfl (fun h30 W30 A30 => ?_)
  have sz31 : n0 ≤ h30.size := (Nat.le_trans sz29 (Nat.le_of_eq W30.size.symm))
  refine s_dup C at_80 (pc' := 81) rfl rfl ?_
  refine s_iconst C at_81 (pc' := 82) rfl (1 : Int32) rfl ?_
  refine s_iload C at_82 (pc' := 84) rfl rfl ?_
  refine s_bastore C at_84 (pc' := 85) rfl A30 1 (by decide) (Nat.le_of_ble_eq_true rfl) gn28 [(.int v4.toInt8.toInt32), (.int v5.toInt8.toInt32)] rfl (fun h32 W32 A32 => ?_)
  have sz33 : n0 ≤ h32.size := (Nat.le_trans sz31 (Nat.le_of_eq W32.size.symm))
  refine s_astore C at_85 (pc' := 87) rfl rfl #[.val (.int x1), .val (.int x2), .val (.int x3), .val (.long x4), .second, .val (.int v1), .val (.int v2), .val (.int v3), .val (.int v4), .val (.int v5), .val (.int v6), .val (.int v7), .val (.int v8), .val (.ref a9), .val (.ref a16), .val (.ref a23), .unset, .unset, .unset, .unset, .unset, .unset, .unset, .unset, .unset, .unset, .unset, .unset, .unset] rfl ?_
  refine s_iconst C at_87 (pc' := 88) rfl (3 : Int32) rfl ?_
  refine s_newarrE C (cap := 3) at_88 (pc' := 90) rfl (w0 hw) (by decide) (by decide) (by decide) (k' := 4) rfl (by decide) (n' := 8) rfl (by decide) [(.int (0 : Int32)), (.int (0 : Int32)), (.int (0 : Int32))] rfl "[B" rfl (fun h34 a34 E34 g34 A34 X34 => ?_)
  have Ex35 := (((Ex24.ext E23).wr W30).wr W32)
  have ne36 : a16 ≠ a34 := Nat.ne_of_lt (by rw [g34]; exact Ex35.lt)
  have Ex37 := ((X23.wr W30).wr W32)
  have ne38 : a23 ≠ a34 := Nat.ne_of_lt (by rw [g34]; exact Ex37.lt)
  have Ex39 := (((Ex26.ext E23).wr W30).wr W32)
  have ne40 : a9 ≠ a34 := Nat.ne_of_lt (by rw [g34]; exact Ex39.lt)
  have gn41 : n0 ≤ a34 := by rw [g34]; exact sz33
  have sz42 : n0 ≤ h34.size := (Nat.le_trans sz33 E34.1)
  refine s_dup C at_90 (pc' := 91) rfl rfl ?_
  refine s_iconst C at_91 (pc' := 92) rfl (0 : Int32) rfl ?_
  refine s_iload C at_92 (pc' := 94) rfl rfl ?_
  refine s_bastore C at_94 (pc' := 95) rfl A34 0 (by decide) (Nat.le_of_ble_eq_true rfl) gn41 [(.int v6.toInt8.toInt32), (.int (0 : Int32)), (.int (0 : Int32))] rfl (fun h43 W43 A43 => ?_)
  have sz44 : n0 ≤ h43.size := (Nat.le_trans sz42 (Nat.le_of_eq W43.size.symm))
  refine s_dup C at_95 (pc' := 96) rfl rfl ?_
  refine s_iconst C at_96 (pc' := 97) rfl (1 : Int32) rfl ?_
  refine s_iload C at_97 (pc' := 99) rfl rfl ?_
  refine s_bastore C at_99 (pc' := 100) rfl A43 1 (by decide) (Nat.le_of_ble_eq_true rfl) gn41 [(.int v6.toInt8.toInt32), (.int v7.toInt8.toInt32), (.int (0 : Int32))] rfl (fun h45 W45 A45 => ?_)
  have sz46 : n0 ≤ h45.size := (Nat.le_trans sz44 (Nat.le_of_eq W45.size.symm))
  refine s_dup C at_100 (pc' := 101) rfl rfl ?_
  refine s_iconst C at_101 (pc' := 102) rfl (2 : Int32) rfl ?_
  refine s_iload C at_102 (pc' := 104) rfl rfl ?_
  refine s_bastore C at_104 (pc' := 105) rfl A45 2 (by decide) (Nat.le_of_ble_eq_true rfl) gn41 [(.int v6.toInt8.toInt32), (.int v7.toInt8.toInt32), (.int v8.toInt8.toInt32)] rfl (fun h47 W47 A47 => ?_)
  have sz48 : n0 ≤ h47.size := (Nat.le_trans sz46 (Nat.le_of_eq W47.size.symm))
  refine s_astore C at_105 (pc' := 107) rfl rfl #[.val (.int x1), .val (.int x2), .val (.int x3), .val (.long x4), .second, .val (.int v1), .val (.int v2), .val (.int v3), .val (.int v4), .val (.int v5), .val (.int v6), .val (.int v7), .val (.int v8), .val (.ref a9), .val (.ref a16), .val (.ref a23), .val (.ref a34), .unset, .unset, .unset, .unset, .unset, .unset, .unset, .unset, .unset, .unset, .unset, .unset] rfl ?_
  refine s_new C at_107 (pc' := 110) rfl (w1 hw) (w2 hw) (w3 hw) (k' := 5) rfl (by decide) (n' := 13) rfl (by decide) (fun h49 a49 E49 g49 A49 D49 => ?_)
  have Ex50 := ((((Ex35.ext E34).wr W43).wr W45).wr W47)
  have ne51 : a16 ≠ a49 := Nat.ne_of_lt (by rw [g49]; exact Ex50.lt)
  have Ex52 := ((((Ex37.ext E34).wr W43).wr W45).wr W47)
  have ne53 : a23 ≠ a49 := Nat.ne_of_lt (by rw [g49]; exact Ex52.lt)
  have Ex54 := (((X34.wr W43).wr W45).wr W47)
  have ne55 : a34 ≠ a49 := Nat.ne_of_lt (by rw [g49]; exact Ex54.lt)
  have Ex56 := ((((Ex39.ext E34).wr W43).wr W45).wr W47)
  have ne57 : a9 ≠ a49 := Nat.ne_of_lt (by rw [g49]; exact Ex56.lt)
  have gn58 : n0 ≤ a49 := by rw [g49]; exact sz48
  have sz59 : n0 ≤ h49.size := (Nat.le_trans sz48 E49.1)
  have F49_row : Fld Z h49 a49 "com/example/cairnstone/cairnstone/Cell" "row" "[B" .null := D49 (Or.inr (w16 hw)) (ty := (.array .byte)) (by decide)
  have F49_family : Fld Z h49 a49 "com/example/cairnstone/cairnstone/Cell" "family" "[B" .null := D49 (Or.inr (w18 hw)) (ty := (.array .byte)) (by decide)
  have F49_qualifier : Fld Z h49 a49 "com/example/cairnstone/cairnstone/Cell" "qualifier" "[B" .null := D49 (Or.inr (w20 hw)) (ty := (.array .byte)) (by decide)
  have F49_timestamp : Fld Z h49 a49 "com/example/cairnstone/cairnstone/Cell" "timestamp" "J" (.long (0 : Int64)) := D49 (Or.inr (w22 hw)) (ty := .long) (by decide)
  have F49_value : Fld Z h49 a49 "com/example/cairnstone/cairnstone/Cell" "value" "[B" .null := D49 (Or.inr (w24 hw)) (ty := (.array .byte)) (by decide)
  refine s_dup C at_110 (pc' := 111) rfl rfl ?_
  refine s_aload C at_111 (pc' := 113) rfl rfl rfl ?_
  refine s_aload C at_113 (pc' := 115) rfl rfl rfl ?_
  refine s_aload C at_115 (pc' := 117) rfl rfl rfl ?_
  refine s_lloadN C at_117 (pc' := 118) rfl rfl ?_
  refine s_aload C at_118 (pc' := 120) rfl rfl rfl ?_
  refine s_callI C at_120 (pc' := 123) rfl (w4 hw) rfl (w5 hw) (w3 hw) (w6 hw) (by decide) [(.ref a9), (.ref a16), (.ref a23), (.long x4), (.ref a34)] [(.ref a49)] pd5 rfl rfl (c_cell l Z a0 hw a49 a9 a16 a23 x4 a34 h49 n0 sz59 A49 gn58 F49_row F49_family F49_qualifier F49_timestamp F49_value ) rfl (W := 1) rfl (by decide) (by decide) (k' := 5) rfl (by decide) (n' := 13) rfl (by decide) (fun h60 q60 => ?_)
  obtain ⟨K60, E60, F60_row, F60_family, F60_qualifier, F60_timestamp, F60_value⟩ := q60
  have sz61 : n0 ≤ h60.size := (Nat.le_trans sz59 K60.1)
  refine s_astore C at_123 (pc' := 125) rfl rfl #[.val (.int x1), .val (.int x2), .val (.int x3), .val (.long x4), .second, .val (.int v1), .val (.int v2), .val (.int v3), .val (.int v4), .val (.int v5), .val (.int v6), .val (.int v7), .val (.int v8), .val (.ref a9), .val (.ref a16), .val (.ref a23), .val (.ref a34), .val (.ref a49), .unset, .unset, .unset, .unset, .unset, .unset, .unset, .unset, .unset, .unset, .unset] rfl ?_
  refine s_aload C at_125 (pc' := 127) rfl rfl rfl ?_
  have Vx62 := (((((((((((A14.ext E16).other W21 ne18).ext E23).other W30 ne27).other W32 ne27).ext E34).other W43 ne40).other W45 ne40).other W47 ne40).ext E49).keep K60 (ninS ne57 nin0))
  have Ex63 := ((Ex56.ext E49).keep K60)
  have Vx64 := (((((((((A21.ext E23).other W30 ne25).other W32 ne25).ext E34).other W43 ne36).other W45 ne36).other W47 ne36).ext E49).keep K60 (ninS ne51 nin0))
  have Ex65 := ((Ex50.ext E49).keep K60)
  have Vx66 := ((((((A32.ext E34).other W43 ne38).other W45 ne38).other W47 ne38).ext E49).keep K60 (ninS ne53 nin0))
  have Ex67 := ((Ex52.ext E49).keep K60)
  have Vx68 := ((A47.ext E49).keep K60 (ninS ne55 nin0))
  have Ex69 := ((Ex54.ext E49).keep K60)
  refine s_callVA C at_127 (pc' := 130) rfl (w25 hw) (w26 hw) (notFace_of_selects (args := #[]) (mvT C.2.1 (w28 hw))) (w28 hw) (w27 hw) (w3 hw) (w29 hw) (by decide) E60 [] [] pd1 rfl rfl (c_copy l Z a0 hw a49 a9 a16 a23 a34 x4 v1.toInt8.toInt32 v2.toInt8.toInt32 v3.toInt8.toInt32 v4.toInt8.toInt32 v5.toInt8.toInt32 v6.toInt8.toInt32 v7.toInt8.toInt32 v8.toInt8.toInt32 h60 n0 sz61 E60 F60_timestamp F60_row Vx62 Ex63 F60_family Vx64 Ex65 F60_qualifier Vx66 Ex67 F60_value Vx68 Ex69) rfl (W := 0) rfl (by decide) (by decide) (k' := 10) rfl (by decide) (n' := 26) rfl (by decide) (fun _ h70 q70 => ?_)
  obtain ⟨o70, b70_row, b70_family, b70_qualifier, b70_value, rfl, K70, E70, F70_row, F70_family, F70_qualifier, F70_timestamp, F70_value, V70_row, V70_family, V70_qualifier, V70_value, s70_row, s70_family, s70_qualifier, s70_value⟩ := q70
  have ne71 : a9 ≠ b70_row := Nat.ne_of_lt (Nat.lt_of_lt_of_le (Vx62).lt s70_row)
  have ne72 : a16 ≠ b70_family := Nat.ne_of_lt (Nat.lt_of_lt_of_le (Vx64).lt s70_family)
  have ne73 : a23 ≠ b70_qualifier := Nat.ne_of_lt (Nat.lt_of_lt_of_le (Vx66).lt s70_qualifier)
  have ne74 : a34 ≠ b70_value := Nat.ne_of_lt (Nat.lt_of_lt_of_le (Vx68).lt s70_value)
  have sz75 : n0 ≤ h70.size := (Nat.le_trans sz61 K70.1)
  refine s_astore C at_130 (pc' := 132) rfl rfl #[.val (.int x1), .val (.int x2), .val (.int x3), .val (.long x4), .second, .val (.int v1), .val (.int v2), .val (.int v3), .val (.int v4), .val (.int v5), .val (.int v6), .val (.int v7), .val (.int v8), .val (.ref a9), .val (.ref a16), .val (.ref a23), .val (.ref a34), .val (.ref a49), .val (.ref o70), .unset, .unset, .unset, .unset, .unset, .unset, .unset, .unset, .unset, .unset] rfl ?_
  refine s_aload C at_132 (pc' := 134) rfl rfl rfl ?_
  refine s_callVA C at_134 (pc' := 137) rfl (w41 hw) (w42 hw) (notFace_of_selects (args := #[]) (mvT C.2.1 (w44 hw))) (w44 hw) (w43 hw) (w3 hw) (w45 hw) (by decide) E70 [] [] pd4 rfl rfl (c_row l Z a0 hw o70 b70_row h70 n0 sz75 F70_row) rfl (W := 0) rfl (by decide) (by decide) (k' := 10) rfl (by decide) (n' := 26) rfl (by decide) (fun _ _ q76 => ?_)
  obtain ⟨rfl, rfl⟩ := q76
  refine s_astore C at_137 (pc' := 139) rfl rfl #[.val (.int x1), .val (.int x2), .val (.int x3), .val (.long x4), .second, .val (.int v1), .val (.int v2), .val (.int v3), .val (.int v4), .val (.int v5), .val (.int v6), .val (.int v7), .val (.int v8), .val (.ref a9), .val (.ref a16), .val (.ref a23), .val (.ref a34), .val (.ref a49), .val (.ref o70), .val (.ref b70_row), .unset, .unset, .unset, .unset, .unset, .unset, .unset, .unset, .unset] rfl ?_
  refine s_aload C at_139 (pc' := 141) rfl rfl rfl ?_
  refine s_callVA C at_141 (pc' := 144) rfl (w46 hw) (w47 hw) (notFace_of_selects (args := #[]) (mvT C.2.1 (w49 hw))) (w49 hw) (w48 hw) (w3 hw) (w50 hw) (by decide) E70 [] [] pd4 rfl rfl (c_family l Z a0 hw o70 b70_family h70 n0 sz75 F70_family) rfl (W := 0) rfl (by decide) (by decide) (k' := 10) rfl (by decide) (n' := 26) rfl (by decide) (fun _ _ q77 => ?_)
  obtain ⟨rfl, rfl⟩ := q77
  refine s_astore C at_144 (pc' := 146) rfl rfl #[.val (.int x1), .val (.int x2), .val (.int x3), .val (.long x4), .second, .val (.int v1), .val (.int v2), .val (.int v3), .val (.int v4), .val (.int v5), .val (.int v6), .val (.int v7), .val (.int v8), .val (.ref a9), .val (.ref a16), .val (.ref a23), .val (.ref a34), .val (.ref a49), .val (.ref o70), .val (.ref b70_row), .val (.ref b70_family), .unset, .unset, .unset, .unset, .unset, .unset, .unset, .unset] rfl ?_
  refine s_aload C at_146 (pc' := 148) rfl rfl rfl ?_
  refine s_callVA C at_148 (pc' := 151) rfl (w51 hw) (w52 hw) (notFace_of_selects (args := #[]) (mvT C.2.1 (w54 hw))) (w54 hw) (w53 hw) (w3 hw) (w55 hw) (by decide) E70 [] [] pd4 rfl rfl (c_qualifier l Z a0 hw o70 b70_qualifier h70 n0 sz75 F70_qualifier) rfl (W := 0) rfl (by decide) (by decide) (k' := 10) rfl (by decide) (n' := 26) rfl (by decide) (fun _ _ q78 => ?_)
  obtain ⟨rfl, rfl⟩ := q78
  refine s_astore C at_151 (pc' := 153) rfl rfl #[.val (.int x1), .val (.int x2), .val (.int x3), .val (.long x4), .second, .val (.int v1), .val (.int v2), .val (.int v3), .val (.int v4), .val (.int v5), .val (.int v6), .val (.int v7), .val (.int v8), .val (.ref a9), .val (.ref a16), .val (.ref a23), .val (.ref a34), .val (.ref a49), .val (.ref o70), .val (.ref b70_row), .val (.ref b70_family), .val (.ref b70_qualifier), .unset, .unset, .unset, .unset, .unset, .unset, .unset] rfl ?_
  refine s_aload C at_153 (pc' := 155) rfl rfl rfl ?_
  refine s_callVA C at_155 (pc' := 158) rfl (w56 hw) (w57 hw) (notFace_of_selects (args := #[]) (mvT C.2.1 (w59 hw))) (w59 hw) (w58 hw) (w3 hw) (w60 hw) (by decide) E70 [] [] pd4 rfl rfl (c_value l Z a0 hw o70 b70_value h70 n0 sz75 F70_value) rfl (W := 0) rfl (by decide) (by decide) (k' := 10) rfl (by decide) (n' := 26) rfl (by decide) (fun _ _ q79 => ?_)
  obtain ⟨rfl, rfl⟩ := q79
  refine s_astore C at_158 (pc' := 160) rfl rfl #[.val (.int x1), .val (.int x2), .val (.int x3), .val (.long x4), .second, .val (.int v1), .val (.int v2), .val (.int v3), .val (.int v4), .val (.int v5), .val (.int v6), .val (.int v7), .val (.int v8), .val (.ref a9), .val (.ref a16), .val (.ref a23), .val (.ref a34), .val (.ref a49), .val (.ref o70), .val (.ref b70_row), .val (.ref b70_family), .val (.ref b70_qualifier), .val (.ref b70_value), .unset, .unset, .unset, .unset, .unset, .unset] rfl ?_
  refine s_aload C at_160 (pc' := 162) rfl rfl rfl ?_
  refine s_aload C at_162 (pc' := 164) rfl rfl rfl ?_
  refine s_acmp C (same := false) (pc' := 167) at_164 rfl rfl (decide_eq_false fun q => (Ne.symm ne71) (Value.ref.inj q)) (by decide) (by decide) ?_
  refine s_aload C at_167 (pc' := 169) rfl rfl rfl ?_
  refine s_aload C at_169 (pc' := 171) rfl rfl rfl ?_
  refine s_acmp C (same := false) (pc' := 174) at_171 rfl rfl (decide_eq_false fun q => (Ne.symm ne72) (Value.ref.inj q)) (by decide) (by decide) ?_
  refine s_aload C at_174 (pc' := 176) rfl rfl rfl ?_
  refine s_aload C at_176 (pc' := 178) rfl rfl rfl ?_
  refine s_acmp C (same := false) (pc' := 181) at_178 rfl rfl (decide_eq_false fun q => (Ne.symm ne73) (Value.ref.inj q)) (by decide) (by decide) ?_
  refine s_aload C at_181 (pc' := 183) rfl rfl rfl ?_
  refine s_aload C at_183 (pc' := 185) rfl rfl rfl ?_
  refine s_acmp C (same := false) (pc' := 188) at_185 rfl rfl (decide_eq_false fun q => (Ne.symm ne74) (Value.ref.inj q)) (by decide) (by decide) ?_
  refine s_iconst C at_188 (pc' := 189) rfl (1 : Int32) rfl ?_
  refine s_goto C at_189 (pc' := 193) rfl ?_
  refine s_istoreP C at_193 (pc' := 195) rfl #[.val (.int x1), .val (.int x2), .val (.int x3), .val (.long x4), .second, .val (.int v1), .val (.int v2), .val (.int v3), .val (.int v4), .val (.int v5), .val (.int v6), .val (.int v7), .val (.int v8), .val (.ref a9), .val (.ref a16), .val (.ref a23), .val (.ref a34), .val (.ref a49), .val (.ref o70), .val (.ref b70_row), .val (.ref b70_family), .val (.ref b70_qualifier), .val (.ref b70_value), .val (.int (1 : Int32)), .unset, .unset, .unset, .unset, .unset] rfl ?_
  refine s_aload C at_195 (pc' := 197) rfl rfl rfl ?_
  refine s_length C at_197 (pc' := 198) rfl V70_row (2 : Int32) rfl ?_
  refine s_iconst C at_198 (pc' := 199) rfl (2 : Int32) rfl ?_
  refine s_icmp_ne C at_199 (pc' := 202) rfl (pcY := 224) rfl (fun hc => by exfalso; revert hc; decide) (fun c80 => ?_)
  refine s_aload C at_202 (pc' := 204) rfl rfl rfl ?_
  refine s_iconst C at_204 (pc' := 205) rfl (0 : Int32) rfl ?_
  refine s_baload C at_205 (pc' := 206) rfl V70_row 0 (by decide) rfl ?_
  refine s_iload C at_206 (pc' := 208) rfl rfl ?_
  refine s_icmp_ne C at_208 (pc' := 211) rfl (pcY := 224) rfl (fun hc => by exfalso; exact hc (own_idem _ _ hv1)) (fun c81 => ?_)
  refine s_aload C at_211 (pc' := 213) rfl rfl rfl ?_
  refine s_iconst C at_213 (pc' := 214) rfl (1 : Int32) rfl ?_
  refine s_baload C at_214 (pc' := 215) rfl V70_row 1 (by decide) rfl ?_
  refine s_iload C at_215 (pc' := 217) rfl rfl ?_
  refine s_icmp_ne C at_217 (pc' := 220) rfl (pcY := 224) rfl (fun hc => by exfalso; exact hc (own_idem _ _ hv2)) (fun c82 => ?_)
  refine s_iconst C at_220 (pc' := 221) rfl (1 : Int32) rfl ?_
  refine s_goto C at_221 (pc' := 225) rfl ?_
  refine s_istoreP C at_225 (pc' := 227) rfl #[.val (.int x1), .val (.int x2), .val (.int x3), .val (.long x4), .second, .val (.int v1), .val (.int v2), .val (.int v3), .val (.int v4), .val (.int v5), .val (.int v6), .val (.int v7), .val (.int v8), .val (.ref a9), .val (.ref a16), .val (.ref a23), .val (.ref a34), .val (.ref a49), .val (.ref o70), .val (.ref b70_row), .val (.ref b70_family), .val (.ref b70_qualifier), .val (.ref b70_value), .val (.int (1 : Int32)), .val (.int (1 : Int32)), .unset, .unset, .unset, .unset] rfl ?_
  refine s_aload C at_227 (pc' := 229) rfl rfl rfl ?_
  refine s_length C at_229 (pc' := 230) rfl V70_family (1 : Int32) rfl ?_
  refine s_iconst C at_230 (pc' := 231) rfl (1 : Int32) rfl ?_
  refine s_icmp_ne C at_231 (pc' := 234) rfl (pcY := 247) rfl (fun hc => by exfalso; revert hc; decide) (fun c83 => ?_)
  refine s_aload C at_234 (pc' := 236) rfl rfl rfl ?_
  refine s_iconst C at_236 (pc' := 237) rfl (0 : Int32) rfl ?_
  refine s_baload C at_237 (pc' := 238) rfl V70_family 0 (by decide) rfl ?_
  refine s_iload C at_238 (pc' := 240) rfl rfl ?_
  refine s_icmp_ne C at_240 (pc' := 243) rfl (pcY := 247) rfl (fun hc => by exfalso; exact hc (own_idem _ _ hv3)) (fun c84 => ?_)
  refine s_iconst C at_243 (pc' := 244) rfl (1 : Int32) rfl ?_
  refine s_goto C at_244 (pc' := 248) rfl ?_
  refine s_istoreP C at_248 (pc' := 250) rfl #[.val (.int x1), .val (.int x2), .val (.int x3), .val (.long x4), .second, .val (.int v1), .val (.int v2), .val (.int v3), .val (.int v4), .val (.int v5), .val (.int v6), .val (.int v7), .val (.int v8), .val (.ref a9), .val (.ref a16), .val (.ref a23), .val (.ref a34), .val (.ref a49), .val (.ref o70), .val (.ref b70_row), .val (.ref b70_family), .val (.ref b70_qualifier), .val (.ref b70_value), .val (.int (1 : Int32)), .val (.int (1 : Int32)), .val (.int (1 : Int32)), .unset, .unset, .unset] rfl ?_
  refine s_aload C at_250 (pc' := 252) rfl rfl rfl ?_
  refine s_length C at_252 (pc' := 253) rfl V70_qualifier (2 : Int32) rfl ?_
  refine s_iconst C at_253 (pc' := 254) rfl (2 : Int32) rfl ?_
  refine s_icmp_ne C at_254 (pc' := 257) rfl (pcY := 279) rfl (fun hc => by exfalso; revert hc; decide) (fun c85 => ?_)
  refine s_aload C at_257 (pc' := 259) rfl rfl rfl ?_
  refine s_iconst C at_259 (pc' := 260) rfl (0 : Int32) rfl ?_
  refine s_baload C at_260 (pc' := 261) rfl V70_qualifier 0 (by decide) rfl ?_
  refine s_iload C at_261 (pc' := 263) rfl rfl ?_
  refine s_icmp_ne C at_263 (pc' := 266) rfl (pcY := 279) rfl (fun hc => by exfalso; exact hc (own_idem _ _ hv4)) (fun c86 => ?_)
  refine s_aload C at_266 (pc' := 268) rfl rfl rfl ?_
  refine s_iconst C at_268 (pc' := 269) rfl (1 : Int32) rfl ?_
  refine s_baload C at_269 (pc' := 270) rfl V70_qualifier 1 (by decide) rfl ?_
  refine s_iload C at_270 (pc' := 272) rfl rfl ?_
  refine s_icmp_ne C at_272 (pc' := 275) rfl (pcY := 279) rfl (fun hc => by exfalso; exact hc (own_idem _ _ hv5)) (fun c87 => ?_)
  refine s_iconst C at_275 (pc' := 276) rfl (1 : Int32) rfl ?_
  refine s_goto C at_276 (pc' := 280) rfl ?_
  refine s_istoreP C at_280 (pc' := 282) rfl #[.val (.int x1), .val (.int x2), .val (.int x3), .val (.long x4), .second, .val (.int v1), .val (.int v2), .val (.int v3), .val (.int v4), .val (.int v5), .val (.int v6), .val (.int v7), .val (.int v8), .val (.ref a9), .val (.ref a16), .val (.ref a23), .val (.ref a34), .val (.ref a49), .val (.ref o70), .val (.ref b70_row), .val (.ref b70_family), .val (.ref b70_qualifier), .val (.ref b70_value), .val (.int (1 : Int32)), .val (.int (1 : Int32)), .val (.int (1 : Int32)), .val (.int (1 : Int32)), .unset, .unset] rfl ?_
  refine s_aload C at_282 (pc' := 284) rfl rfl rfl ?_
  refine s_length C at_284 (pc' := 285) rfl V70_value (3 : Int32) rfl ?_
  refine s_iconst C at_285 (pc' := 286) rfl (3 : Int32) rfl ?_
  refine s_icmp_ne C at_286 (pc' := 289) rfl (pcY := 320) rfl (fun hc => by exfalso; revert hc; decide) (fun c88 => ?_)
  refine s_aload C at_289 (pc' := 291) rfl rfl rfl ?_
  refine s_iconst C at_291 (pc' := 292) rfl (0 : Int32) rfl ?_
  refine s_baload C at_292 (pc' := 293) rfl V70_value 0 (by decide) rfl ?_
  refine s_iload C at_293 (pc' := 295) rfl rfl ?_
  refine s_icmp_ne C at_295 (pc' := 298) rfl (pcY := 320) rfl (fun hc => by exfalso; exact hc (own_idem _ _ hv6)) (fun c89 => ?_)
  refine s_aload C at_298 (pc' := 300) rfl rfl rfl ?_
  refine s_iconst C at_300 (pc' := 301) rfl (1 : Int32) rfl ?_
  refine s_baload C at_301 (pc' := 302) rfl V70_value 1 (by decide) rfl ?_
  refine s_iload C at_302 (pc' := 304) rfl rfl ?_
  refine s_icmp_ne C at_304 (pc' := 307) rfl (pcY := 320) rfl (fun hc => by exfalso; exact hc (own_idem _ _ hv7)) (fun c90 => ?_)
  refine s_aload C at_307 (pc' := 309) rfl rfl rfl ?_
  refine s_iconst C at_309 (pc' := 310) rfl (2 : Int32) rfl ?_
  refine s_baload C at_310 (pc' := 311) rfl V70_value 2 (by decide) rfl ?_
  refine s_iload C at_311 (pc' := 313) rfl rfl ?_
  refine s_icmp_ne C at_313 (pc' := 316) rfl (pcY := 320) rfl (fun hc => by exfalso; exact hc (own_idem _ _ hv8)) (fun c91 => ?_)
  refine s_iconst C at_316 (pc' := 317) rfl (1 : Int32) rfl ?_
  refine s_goto C at_317 (pc' := 321) rfl ?_
  refine s_istoreP C at_321 (pc' := 323) rfl #[.val (.int x1), .val (.int x2), .val (.int x3), .val (.long x4), .second, .val (.int v1), .val (.int v2), .val (.int v3), .val (.int v4), .val (.int v5), .val (.int v6), .val (.int v7), .val (.int v8), .val (.ref a9), .val (.ref a16), .val (.ref a23), .val (.ref a34), .val (.ref a49), .val (.ref o70), .val (.ref b70_row), .val (.ref b70_family), .val (.ref b70_qualifier), .val (.ref b70_value), .val (.int (1 : Int32)), .val (.int (1 : Int32)), .val (.int (1 : Int32)), .val (.int (1 : Int32)), .val (.int (1 : Int32)), .unset] rfl ?_
  refine s_aload C at_323 (pc' := 325) rfl rfl rfl ?_
  refine s_callVL C at_325 (pc' := 328) rfl (w61 hw) (w62 hw) (notFace_of_selects (args := #[]) (mvT C.2.1 (w64 hw))) (w64 hw) (w63 hw) (w3 hw) (w65 hw) (by decide) E70 [] [] pd0 rfl rfl (c_timestamp l Z a0 hw o70 x4 h70 n0 sz75 F70_timestamp) rfl (W := 0) rfl (by decide) (by decide) (k' := 10) rfl (by decide) (n' := 26) rfl (by decide) (fun _ _ q92 => ?_)
  obtain ⟨rfl, rfl⟩ := q92
  refine s_lloadN C at_328 (pc' := 329) rfl rfl ?_
  refine s_lc_ne C at_329 (pc1 := 330) rfl at_330 (pc' := 333) rfl (pcY := 337) rfl (fun hc => by exfalso; exact hc rfl) (fun c93 => ?_)
  refine s_iconst C at_333 (pc' := 334) rfl (1 : Int32) rfl ?_
  refine s_goto C at_334 (pc' := 338) rfl ?_
  refine s_istoreP C at_338 (pc' := 340) rfl #[.val (.int x1), .val (.int x2), .val (.int x3), .val (.long x4), .second, .val (.int v1), .val (.int v2), .val (.int v3), .val (.int v4), .val (.int v5), .val (.int v6), .val (.int v7), .val (.int v8), .val (.ref a9), .val (.ref a16), .val (.ref a23), .val (.ref a34), .val (.ref a49), .val (.ref o70), .val (.ref b70_row), .val (.ref b70_family), .val (.ref b70_qualifier), .val (.ref b70_value), .val (.int (1 : Int32)), .val (.int (1 : Int32)), .val (.int (1 : Int32)), .val (.int (1 : Int32)), .val (.int (1 : Int32)), .val (.int (1 : Int32))] rfl ?_
  refine s_iload C at_340 (pc' := 342) rfl rfl ?_
  refine s_if_eq C at_342 (pc' := 345) rfl (pcY := 374) rfl (fun hc => by exfalso; revert hc; decide) (fun c94 => ?_)
  refine s_iload C at_345 (pc' := 347) rfl rfl ?_
  refine s_if_eq C at_347 (pc' := 350) rfl (pcY := 374) rfl (fun hc => by exfalso; revert hc; decide) (fun c95 => ?_)
  refine s_iload C at_350 (pc' := 352) rfl rfl ?_
  refine s_if_eq C at_352 (pc' := 355) rfl (pcY := 374) rfl (fun hc => by exfalso; revert hc; decide) (fun c96 => ?_)
  refine s_iload C at_355 (pc' := 357) rfl rfl ?_
  refine s_if_eq C at_357 (pc' := 360) rfl (pcY := 374) rfl (fun hc => by exfalso; revert hc; decide) (fun c97 => ?_)
  refine s_iload C at_360 (pc' := 362) rfl rfl ?_
  refine s_if_eq C at_362 (pc' := 365) rfl (pcY := 374) rfl (fun hc => by exfalso; revert hc; decide) (fun c98 => ?_)
  refine s_iload C at_365 (pc' := 367) rfl rfl ?_
  refine s_if_eq C at_367 (pc' := 370) rfl (pcY := 374) rfl (fun hc => by exfalso; revert hc; decide) (fun c99 => ?_)
  refine s_iconst C at_370 (pc' := 371) rfl (1 : Int32) rfl ?_
  refine s_goto C at_371 (pc' := 375) rfl ?_
  exact s_retN C (by simp) at_375 (by decide) (by decide) rfl
end Own
end Jvm.Pilot.@@N@@
namespace Jvm.Pilot.@@N@@
open Jvm Jvm.ClassFile Sem Op Lib Jvm.Free Jvm.Stand Jvm.LawKit Jvm.RoadKit Bundle Own Jvm.Pilot.@@N@@.Jvm.D
set_option maxRecDepth 65536 in
set_option maxHeartbeats 40000000 in
theorem comes_1 {Post : Tables → Env → Array Value → State → Outcome → State → Prop} (hpost : ∀ tb e args s v u, (limb_1_1.after args s (.returned v) u = true ∧ limb_1_2.after args s (.returned v) u = true ∧ True) → FrameEnd s (.returned v) u (Jvm.fieldLocs frame_1_writes args s ++ Jvm.arrayLocs frame_1_arrays args s ++ Jvm.staticLocs frame_1_statics s) 32 128 → Post tb e args s (.returned v) u) :
    ArmFor flags0 classFile x code maxLocals ret World_1 tables_1 room_1 Calls_1 rest_1 Pre_1 Post := by
  intro l hfl _ _ p e ha hc hk s m args below hf hA hF happ hP
  obtain ⟨hcalls, hrest, hpre⟩ := hP
  obtain ⟨-, -, -, hnamed, -, -, -, hat⟩ := (Spec.applies_iff hf).mp happ
  obtain ⟨hg, hn⟩ := and_e (Cond.before_iff.mp (show (Jvm.Cond.and given_1 narrow_1).before args s = true from hpre))
  obtain ⟨g1, g2⟩ := and_e hg
  obtain ⟨g3, g4⟩ := and_e g2
  obtain ⟨g5, g6⟩ := and_e g4
  obtain ⟨g7, g8⟩ := and_e g6
  obtain ⟨w0, w1, w2, w3, rfl⟩ : ∃ w0 w1 w2 w3 : Value, args = #[w0, w1, w2, w3] := by
    have hs : args.size = 4 := by simpa [Cond.value, given_1] using g1
    obtain ⟨L⟩ := args
    match L, hs with
    | [w0, w1, w2, w3], _ => exact ⟨w0, w1, w2, w3, rfl⟩
  have hw := fun d (hd : d ∈ tables_1) => atoms_spec (ws := Jvm.Cond.code x code maxLocals ret :: tables_1) hat d (List.mem_cons_of_mem _ hd)
  have hfit : Fit s := fun {y c} hc i hi => by
    obtain ⟨ha, rfl⟩ := Array.getElem?_eq_some_iff.mp hc
    have q := List.all_eq_true.mp ((Array.all_eq_true_iff_forall_mem.mp hF) _ (Array.getElem_mem ha)) i (List.mem_range.mpr hi)
    simpa [Array.getElem?_eq_getElem hi] using q
  obtain ⟨i0, ei0⟩ := is_v g3
  obtain rfl : w0 = (.int i0) := Option.some.inj ei0
  obtain ⟨i1, ei1⟩ := is_v g5
  obtain rfl : w1 = (.int i1) := Option.some.inj ei1
  obtain ⟨i2, ei2⟩ := is_v g7
  obtain rfl : w2 = (.int i2) := Option.some.inj ei2
  obtain ⟨i3, ei3⟩ := isL_v g8
  obtain rfl : w3 = (.long i3) := Option.some.inj ei3
  obtain ⟨n, o, h1, h2, h3, _, L, rfl, ⟨⟨_, rfl, rfl⟩, N⟩, hq⟩ := law l s _ hw i0 i1 i2 i3 s.heap s.heap.size (Nat.le_refl _)  p e ha hc hk s m _ below hf ((Spec.applies_iff_loose hf).mp happ).1 ⟨rfl, State.Warmed39.refl s, rfl⟩ trivial
  refine ⟨n, _, h1, h2, h3, hpost _ _ _ _ _ _ ⟨Cond.after_iff.mpr rfl, Cond.after_iff.mpr (eq_i res_at (Term.int_eval (1)) rfl), trivial⟩ ⟨hq.1, hq.2.1, (hq.2.2.sift fun y hy => Or.inr (N y hy)).mono (by decide) (by decide)⟩⟩
theorem main_1_1 : Claimed_1_1 := comes_1 fun _ _ _ _ _ _ h hF => ⟨h.1, hF⟩
theorem main_1_2 : Claimed_1_2 := comes_1 fun _ _ _ _ _ _ h hF => ⟨h.2.1, hF⟩
end Jvm.Pilot.@@N@@
namespace Jvm.Pilot.@@N@@
open Jvm Jvm.ClassFile Sem Op Lib Jvm.Free Jvm.Stand Jvm.Pilot.@@N@@.Jvm.D
/-! MADE BY PROGRAM (witnessworld.py) out of the Statement's table words and the real class files: 10 classes; the members and pool entries that the words name. The judged class is class 1, her method 1. -/
namespace start1
open Jvm.ClassFile
def u (s : String) : CpInfo := .utf8 (stringToUtf16 s)
/-- a pool by its gaps: so many unusable entries, then the entry; so many at the end -/
def gap : Nat → List CpInfo → List CpInfo
  | 0, r => r
  | n + 1, r => .unusable :: gap n r
def poolList (es : List (Nat × CpInfo)) (last : Nat) : List CpInfo := es.foldr (fun e r => gap e.1 (e.2 :: r)) (gap last [])
def pool (es : List (Nat × CpInfo)) (last : Nat) : Array CpInfo := ⟨poolList es last⟩
def fileOf (pool : Array CpInfo) (this : Nat) (attrs : Array Attribute := #[]) (ms : Array MethodInfo := #[]) (fl : Nat := 33) (sup : Nat := 0) (ifs : Array Nat := #[]) (fds : Array FieldInfo := #[]) : ClassFile where
  minorVersion := 0
  majorVersion := 65
  constantPool := pool
  accessFlags := fl
  thisClass := this
  superClass := sup
  interfaces := ifs
  fields := fds
  methods := ms
  attributes := attrs
def plain (name : String) (sup : Option ClassId) : Class where
  name := name
  kind := .ordinary
  loader := none
  accessFlags := 33
  super := sup
  interfaces := #[]
  cf := none
  fields := #[]
  methods := #[]
  instanceTypes := #[]
  staticTypes := #[]
  resolved := #[]
  callSites := []
  init := .initialized
  statics := none
  mirror := none

def pool0 : Array CpInfo := pool [(5, u "<init>"), (0, u "()V"), (1, .class_ 10), (1, u "java/lang/Object"), (85, u "clone"), (0, u "()Ljava/lang/Object;")] 26

def k0c0 : Code := { maxStack := 0, maxLocals := 1, code := object_method_1_code, exceptionTable := #[], attributes := #[] }
def k0m0 : Method := { name := "<init>", desc := "()V", sig := { parameters := [], returnType := none }, accessFlags := 1, code := some k0c0 }
def k0m1 : Method := { name := "clone", desc := "()Ljava/lang/Object;", sig := { parameters := [], returnType := some (.object "java/lang/Object") }, accessFlags := 260, code := none }
/-- java/lang/Object -/
def k0 : Class := { plain "java/lang/Object" none with
  accessFlags := 33
  interfaces := #[]
  cf := some (fileOf pool0 8 #[] #[{ accessFlags := 1, nameIndex := 5, descriptorIndex := 6, attributes := #[] }, { accessFlags := 260, nameIndex := 96, descriptorIndex := 97, attributes := #[] }] 33 0 #[] #[])
  fields := #[]
  methods := #[k0m0, k0m1]
  instanceTypes := #[]
  staticTypes := #[]
  resolved := Array.replicate 124 none
  statics := none }

def pool1 : Array CpInfo := pool [(2, .class_ 4), (1, u "java/lang/Object"), (0, u "<init>"), (0, u "()V"), (0, .class_ 8), (0, u "com/example/cairnstone/cairnstone/Cell"), (0, .methodref 7 10), (0, .nameAndType 5 11), (0, u "([B[B[BJ[B)V"), (0, .methodref 7 13), (0, .nameAndType 14 15), (0, u "copy"), (0, u "()Lcom/example/cairnstone/cairnstone/Cell;"), (0, .methodref 7 17), (0, .nameAndType 18 19), (0, u "row"), (0, u "()[B"), (0, .methodref 7 21), (0, .nameAndType 22 19), (0, u "family"), (0, .methodref 7 24), (0, .nameAndType 25 19), (0, u "qualifier"), (0, .methodref 7 27), (0, .nameAndType 28 19), (0, u "value"), (0, .methodref 7 30), (0, .nameAndType 31 32), (0, u "timestamp"), (0, u "()J"), (0, .class_ 34), (0, u "com/example/cairnstone/cairnstone/CellCopyPinLaw"), (2, u "law"), (0, u "(IIIJ)Z")] 5

def k1m0 : Method := { name := "<init>", desc := "()V", sig := { parameters := [], returnType := none }, accessFlags := 2, code := none }
def k1c1 : Code := { maxStack := 8, maxLocals := 29, code := code, exceptionTable := #[], attributes := #[] }
def k1m1 : Method := { name := "law", desc := "(IIIJ)Z", sig := { parameters := [.int, .int, .int, .long], returnType := some .boolean }, accessFlags := 9, code := some k1c1 }
/-- com/example/cairnstone/cairnstone/CellCopyPinLaw -/
def k1 : Class := { plain "com/example/cairnstone/cairnstone/CellCopyPinLaw" (some 0) with
  accessFlags := 49
  interfaces := #[]
  cf := some (fileOf pool1 33 #[] #[{ accessFlags := 2, nameIndex := 5, descriptorIndex := 6, attributes := #[] }, { accessFlags := 9, nameIndex := 37, descriptorIndex := 38, attributes := #[] }] 49 2 #[] #[])
  fields := #[]
  methods := #[k1m0, k1m1]
  instanceTypes := #[]
  staticTypes := #[]
  resolved := Array.replicate 44 none
  statics := none }

def pool2 : Array CpInfo := pool [(1, .methodref 2 3), (0, .class_ 4), (0, .nameAndType 5 6), (0, u "java/lang/Object"), (0, u "<init>"), (0, u "()V"), (0, .class_ 8), (0, u "java/lang/Record")] 13

def k2c0 : Code := { maxStack := 1, maxLocals := 1, code := jdk_30_method_1_code, exceptionTable := #[], attributes := #[] }
def k2m0 : Method := { name := "<init>", desc := "()V", sig := { parameters := [], returnType := none }, accessFlags := 4, code := some k2c0 }
/-- java/lang/Record -/
def k2 : Class := { plain "java/lang/Record" (some 0) with
  accessFlags := 1057
  interfaces := #[]
  cf := some (fileOf pool2 7 #[] #[{ accessFlags := 4, nameIndex := 5, descriptorIndex := 6, attributes := #[] }] 1057 2 #[] #[])
  fields := #[]
  methods := #[k2m0]
  instanceTypes := #[]
  staticTypes := #[]
  resolved := Array.replicate 22 none
  statics := none }

def pool3 : Array CpInfo := pool [(1, .methodref 2 3), (0, .class_ 4), (0, .nameAndType 5 6), (0, u "java/lang/Record"), (0, u "<init>"), (0, u "()V"), (0, .fieldref 8 9), (0, .class_ 10), (0, .nameAndType 11 12), (0, u "com/example/cairnstone/cairnstone/Cell"), (0, u "row"), (0, u "[B"), (0, .fieldref 8 14), (0, .nameAndType 15 12), (0, u "family"), (0, .fieldref 8 17), (0, .nameAndType 18 12), (0, u "qualifier"), (0, .fieldref 8 20), (0, .nameAndType 21 22), (0, u "timestamp"), (0, u "J"), (0, .fieldref 8 24), (0, .nameAndType 25 12), (0, u "value"), (2, .methodref 29 30), (0, .class_ 12), (0, .nameAndType 31 32), (0, u "clone"), (0, u "()Ljava/lang/Object;"), (0, .methodref 8 34), (0, .nameAndType 5 35), (0, u "([B[B[BJ[B)V"), (44, u "BY_COLUMN"), (0, u "Ljava/util/Comparator;"), (6, u "()J"), (0, u "copy"), (0, u "()Lcom/example/cairnstone/cairnstone/Cell;"), (5, u "()[B")] 47

def k3c0 : Code := { maxStack := 3, maxLocals := 7, code := prog_2_method_1_code, exceptionTable := #[], attributes := #[] }
def k3m0 : Method := { name := "<init>", desc := "([B[B[BJ[B)V", sig := { parameters := [(.array .byte), (.array .byte), (.array .byte), .long, (.array .byte)], returnType := none }, accessFlags := 1, code := some k3c0 }
def k3c1 : Code := { maxStack := 8, maxLocals := 1, code := prog_2_method_3_code, exceptionTable := #[], attributes := #[] }
def k3m1 : Method := { name := "copy", desc := "()Lcom/example/cairnstone/cairnstone/Cell;", sig := { parameters := [], returnType := some (.object "com/example/cairnstone/cairnstone/Cell") }, accessFlags := 0, code := some k3c1 }
def k3c2 : Code := { maxStack := 1, maxLocals := 1, code := prog_2_method_7_code, exceptionTable := #[], attributes := #[] }
def k3m2 : Method := { name := "row", desc := "()[B", sig := { parameters := [], returnType := some (.array .byte) }, accessFlags := 1, code := some k3c2 }
def k3c3 : Code := { maxStack := 1, maxLocals := 1, code := prog_2_method_8_code, exceptionTable := #[], attributes := #[] }
def k3m3 : Method := { name := "family", desc := "()[B", sig := { parameters := [], returnType := some (.array .byte) }, accessFlags := 1, code := some k3c3 }
def k3c4 : Code := { maxStack := 1, maxLocals := 1, code := prog_2_method_9_code, exceptionTable := #[], attributes := #[] }
def k3m4 : Method := { name := "qualifier", desc := "()[B", sig := { parameters := [], returnType := some (.array .byte) }, accessFlags := 1, code := some k3c4 }
def k3c5 : Code := { maxStack := 2, maxLocals := 1, code := prog_2_method_10_code, exceptionTable := #[], attributes := #[] }
def k3m5 : Method := { name := "timestamp", desc := "()J", sig := { parameters := [], returnType := some .long }, accessFlags := 1, code := some k3c5 }
def k3c6 : Code := { maxStack := 1, maxLocals := 1, code := prog_2_method_11_code, exceptionTable := #[], attributes := #[] }
def k3m6 : Method := { name := "value", desc := "()[B", sig := { parameters := [], returnType := some (.array .byte) }, accessFlags := 1, code := some k3c6 }
/-- com/example/cairnstone/cairnstone/Cell -/
def k3 : Class := { plain "com/example/cairnstone/cairnstone/Cell" (some 2) with
  accessFlags := 49
  interfaces := #[]
  cf := some (fileOf pool3 8 #[] #[{ accessFlags := 1, nameIndex := 5, descriptorIndex := 35, attributes := #[] }, { accessFlags := 0, nameIndex := 89, descriptorIndex := 90, attributes := #[] }, { accessFlags := 1, nameIndex := 11, descriptorIndex := 96, attributes := #[] }, { accessFlags := 1, nameIndex := 15, descriptorIndex := 96, attributes := #[] }, { accessFlags := 1, nameIndex := 18, descriptorIndex := 96, attributes := #[] }, { accessFlags := 1, nameIndex := 21, descriptorIndex := 88, attributes := #[] }, { accessFlags := 1, nameIndex := 25, descriptorIndex := 96, attributes := #[] }] 49 2 #[] #[{ accessFlags := 18, nameIndex := 11, descriptorIndex := 12, attributes := #[] }, { accessFlags := 18, nameIndex := 15, descriptorIndex := 12, attributes := #[] }, { accessFlags := 18, nameIndex := 18, descriptorIndex := 12, attributes := #[] }, { accessFlags := 18, nameIndex := 21, descriptorIndex := 22, attributes := #[] }, { accessFlags := 18, nameIndex := 25, descriptorIndex := 12, attributes := #[] }, { accessFlags := 24, nameIndex := 80, descriptorIndex := 81, attributes := #[] }])
  fields := #[{ name := "row", type := (.array .byte), accessFlags := 18, slot := 0, constantValue := 0 }, { name := "family", type := (.array .byte), accessFlags := 18, slot := 1, constantValue := 0 }, { name := "qualifier", type := (.array .byte), accessFlags := 18, slot := 2, constantValue := 0 }, { name := "timestamp", type := .long, accessFlags := 18, slot := 3, constantValue := 0 }, { name := "value", type := (.array .byte), accessFlags := 18, slot := 4, constantValue := 0 }, { name := "BY_COLUMN", type := (.object "java/util/Comparator"), accessFlags := 24, slot := 0, constantValue := 0 }]
  methods := #[k3m0, k3m1, k3m2, k3m3, k3m4, k3m5, k3m6]
  instanceTypes := #[(.array .byte), (.array .byte), (.array .byte), .long, (.array .byte)]
  staticTypes := #[(.object "java/util/Comparator")]
  resolved := Array.replicate 144 none
  statics := none }

def pool4 : Array CpInfo := pool [(1, .class_ 2), (0, u "java/lang/Cloneable"), (0, .class_ 4), (0, u "java/lang/Object")] 2

/-- java/lang/Cloneable -/
def k4 : Class := { plain "java/lang/Cloneable" (some 0) with
  accessFlags := 1537
  interfaces := #[]
  cf := some (fileOf pool4 1 #[] #[] 1537 3 #[] #[])
  fields := #[]
  methods := #[]
  instanceTypes := #[]
  staticTypes := #[]
  resolved := Array.replicate 7 none
  statics := none }

def pool5 : Array CpInfo := pool [(1, u "java/io/Serializable"), (0, .class_ 1), (0, u "java/lang/Object"), (0, .class_ 3)] 3

/-- java/io/Serializable -/
def k5 : Class := { plain "java/io/Serializable" (some 0) with
  accessFlags := 1537
  interfaces := #[]
  cf := some (fileOf pool5 2 #[] #[] 1537 4 #[] #[])
  fields := #[]
  methods := #[]
  instanceTypes := #[]
  staticTypes := #[]
  resolved := Array.replicate 8 none
  statics := none }

/-- the primitive byte -/
def k6 : Class := { plain "byte" none with kind := .primitive 'B', accessFlags := 0x411 }
/-- [B -/
def k7 : Class := { plain "[B" (some 0) with kind := .array 6 .byte, interfaces := #[4, 5], accessFlags := 1041 }

/-- the primitive int -/
def k8 : Class := { plain "int" none with kind := .primitive 'I', accessFlags := 0x411 }
/-- [I -/
def k9 : Class := { plain "[I" (some 0) with kind := .array 8 .int, interfaces := #[4, 5], accessFlags := 1041 }

def heap : Heap := #[]
def classes : Array Class := #[k0, k1, k2, k3, k4, k5, k6, k7, k8, k9]
def interned : List (Array UInt16 × Addr) := []
def slotsUsed : Nat := 0
def theMethod : MethodId := ⟨1, 1⟩
def args0 : Array Value := #[.int 5, .int 7, .int 9, .long 11]
def aboutOver (below : List Frame) : State where
  vm := { classes := classes, interned := interned.toArray }
  heap := heap
  slotsUsed := slotsUsed
  threads := #[{ frames := .invoking theMethod args0 :: below }]
def below0 : List Frame := [.native { method := ⟨0, 0⟩, args := #[] }]
def about1 : State := aboutOver below0
def p0 : Program := .bare "" "" ""
def e0 : Env := launch0.env 0 0 0
theorem w_frames : about1.frames = Frame.invoking theMethod args0 :: below0 := rfl
set_option maxRecDepth 65536 in
theorem w_args : argsFit about1.vm theMethod args0 = true := by decide +kernel
set_option maxRecDepth 65536 in
theorem w_heap : heapFits about1 = true := by decide +kernel
set_option maxRecDepth 65536 in
theorem w_runnable : about1.curStatus? = some .runnable := by decide +kernel
set_option maxRecDepth 65536 in
theorem w_alone : about1.alone = true := by decide +kernel
set_option maxRecDepth 65536 in
theorem w_named : about1.methodNamed? x = some theMethod := by decide +kernel
set_option maxRecDepth 65536 in
theorem w_hears : about1.hears theMethod below0 = true := by decide +kernel
set_option maxRecDepth 65536 in
theorem w_ripe : about1.ripe theMethod args0 below0 = true := by decide +kernel
theorem w_running : about1.status = .running := rfl
set_option maxRecDepth 65536 in
theorem w_room : about1.hasRoom e0.platform room_1 = true :=
  launch0.hasRoom_least _ room_1 (by decide +kernel) (by decide +kernel) (by decide +kernel) (by decide +kernel) (by decide +kernel) (by decide +kernel)
theorem allAtoms_all (ts : List Jvm.Cond) (a : Array Jvm.Value) (st : Jvm.State) : (allAtoms ts).before a st = ts.all (fun c => c.before a st) := by
  induction ts with
  | nil => rfl
  | cons c t ih =>
    show (Jvm.Cond.and c (allAtoms t)).before a st = _
    rw [Jvm.Cond.before_and, ih, List.all_cons]
def words1 : List Jvm.Cond := Jvm.Cond.code x code maxLocals ret :: tables_1
/-- a 'code' word, met by the world's own term for the bytes: nothing is compared byte by byte -/
theorem code_word {y : MethodName} {bytes : ByteArray} {mx : Nat} {rt : Option FieldType} {a : Array Value} {s : State} {m : MethodId} {meth : Method} {c : Code} (h1 : s.methodNamed? y = some m) (h2 : s.vm.method? m = some meth) (h3 : meth.code = some c) (h4 : c.code = bytes)
    (h5 : (c.maxLocals == mx && c.exceptionTable.isEmpty && decide (c.maxStack ≤ mostOperands) && decide (meth.sig.returnType = rt) && !meth.locks && decide (parseMethodDescriptor y.desc = some meth.sig)) = true) : (Jvm.Cond.code y bytes mx rt).before a s = true := by
  simp only [Bool.and_eq_true, beq_iff_eq, Bool.not_eq_true', decide_eq_true_eq] at h5
  obtain ⟨⟨⟨⟨⟨g1, g2⟩, g3⟩, g4⟩, g5⟩, g6⟩ := h5
  simp [Cond.before, Cond.holds, Cond.value, h1, h2, h3, h4, g1, g2, g3, g4, g5, g6]
def isCode : Jvm.Cond → Bool
  | .code _ _ _ _ => true
  | _ => false
theorem all_split {L : List Jvm.Cond} {P : Jvm.Cond → Bool} (h1 : L.all (fun c => isCode c || P c) = true) (h2 : ∀ c ∈ L.filter isCode, P c = true) : L.all P = true := by
  refine List.all_eq_true.mpr fun c hc => ?_
  have h := List.all_eq_true.mp h1 c hc
  rcases Bool.eq_false_or_eq_true (isCode c) with hi | hi
  · exact h2 c (List.mem_filter.mpr ⟨hc, hi⟩)
  · simpa [hi] using h
set_option maxRecDepth 65536 in
theorem w_c0 : (Jvm.Cond.code x code maxLocals ret).before args0 about1 = true := code_word (m := ⟨1, 1⟩) (meth := k1m1) (c := k1c1) (by decide +kernel) rfl rfl rfl (by decide +kernel)
set_option maxRecDepth 65536 in
theorem w_c1 : (Jvm.Cond.code ({ cls := "com/example/cairnstone/cairnstone/Cell", name := "<init>", desc := "([B[B[BJ[B)V" } : Jvm.MethodName) prog_2_method_1_code (7 : Nat) (Option.none : Option Jvm.ClassFile.FieldType)).before args0 about1 = true := code_word (m := ⟨3, 0⟩) (meth := k3m0) (c := k3c0) (by decide +kernel) rfl rfl rfl (by decide +kernel)
set_option maxRecDepth 65536 in
theorem w_c2 : (Jvm.Cond.code ({ cls := "java/lang/Record", name := "<init>", desc := "()V" } : Jvm.MethodName) jdk_30_method_1_code (1 : Nat) (Option.none : Option Jvm.ClassFile.FieldType)).before args0 about1 = true := code_word (m := ⟨2, 0⟩) (meth := k2m0) (c := k2c0) (by decide +kernel) rfl rfl rfl (by decide +kernel)
set_option maxRecDepth 65536 in
theorem w_c3 : (Jvm.Cond.code ({ cls := "java/lang/Object", name := "<init>", desc := "()V" } : Jvm.MethodName) object_method_1_code (1 : Nat) (Option.none : Option Jvm.ClassFile.FieldType)).before args0 about1 = true := code_word (m := ⟨0, 0⟩) (meth := k0m0) (c := k0c0) (by decide +kernel) rfl rfl rfl (by decide +kernel)
set_option maxRecDepth 65536 in
theorem w_c4 : (Jvm.Cond.code ({ cls := "com/example/cairnstone/cairnstone/Cell", name := "copy", desc := "()Lcom/example/cairnstone/cairnstone/Cell;" } : Jvm.MethodName) prog_2_method_3_code (1 : Nat) (Option.some (Jvm.ClassFile.FieldType.object "com/example/cairnstone/cairnstone/Cell"))).before args0 about1 = true := code_word (m := ⟨3, 1⟩) (meth := k3m1) (c := k3c1) (by decide +kernel) rfl rfl rfl (by decide +kernel)
set_option maxRecDepth 65536 in
theorem w_c5 : (Jvm.Cond.code ({ cls := "com/example/cairnstone/cairnstone/Cell", name := "row", desc := "()[B" } : Jvm.MethodName) prog_2_method_7_code (1 : Nat) (Option.some (Jvm.ClassFile.FieldType.array Jvm.ClassFile.FieldType.byte))).before args0 about1 = true := code_word (m := ⟨3, 2⟩) (meth := k3m2) (c := k3c2) (by decide +kernel) rfl rfl rfl (by decide +kernel)
set_option maxRecDepth 65536 in
theorem w_c6 : (Jvm.Cond.code ({ cls := "com/example/cairnstone/cairnstone/Cell", name := "family", desc := "()[B" } : Jvm.MethodName) prog_2_method_8_code (1 : Nat) (Option.some (Jvm.ClassFile.FieldType.array Jvm.ClassFile.FieldType.byte))).before args0 about1 = true := code_word (m := ⟨3, 3⟩) (meth := k3m3) (c := k3c3) (by decide +kernel) rfl rfl rfl (by decide +kernel)
set_option maxRecDepth 65536 in
theorem w_c7 : (Jvm.Cond.code ({ cls := "com/example/cairnstone/cairnstone/Cell", name := "qualifier", desc := "()[B" } : Jvm.MethodName) prog_2_method_9_code (1 : Nat) (Option.some (Jvm.ClassFile.FieldType.array Jvm.ClassFile.FieldType.byte))).before args0 about1 = true := code_word (m := ⟨3, 4⟩) (meth := k3m4) (c := k3c4) (by decide +kernel) rfl rfl rfl (by decide +kernel)
set_option maxRecDepth 65536 in
theorem w_c8 : (Jvm.Cond.code ({ cls := "com/example/cairnstone/cairnstone/Cell", name := "value", desc := "()[B" } : Jvm.MethodName) prog_2_method_11_code (1 : Nat) (Option.some (Jvm.ClassFile.FieldType.array Jvm.ClassFile.FieldType.byte))).before args0 about1 = true := code_word (m := ⟨3, 6⟩) (meth := k3m6) (c := k3c6) (by decide +kernel) rfl rfl rfl (by decide +kernel)
set_option maxRecDepth 65536 in
theorem w_c9 : (Jvm.Cond.code ({ cls := "com/example/cairnstone/cairnstone/Cell", name := "timestamp", desc := "()J" } : Jvm.MethodName) prog_2_method_10_code (1 : Nat) (Option.some Jvm.ClassFile.FieldType.long)).before args0 about1 = true := code_word (m := ⟨3, 5⟩) (meth := k3m5) (c := k3c5) (by decide +kernel) rfl rfl rfl (by decide +kernel)
def codes1 : List Jvm.Cond := [Jvm.Cond.code x code maxLocals ret, Jvm.Cond.code ({ cls := "com/example/cairnstone/cairnstone/Cell", name := "<init>", desc := "([B[B[BJ[B)V" } : Jvm.MethodName) prog_2_method_1_code (7 : Nat) (Option.none : Option Jvm.ClassFile.FieldType), Jvm.Cond.code ({ cls := "java/lang/Record", name := "<init>", desc := "()V" } : Jvm.MethodName) jdk_30_method_1_code (1 : Nat) (Option.none : Option Jvm.ClassFile.FieldType), Jvm.Cond.code ({ cls := "java/lang/Object", name := "<init>", desc := "()V" } : Jvm.MethodName) object_method_1_code (1 : Nat) (Option.none : Option Jvm.ClassFile.FieldType), Jvm.Cond.code ({ cls := "com/example/cairnstone/cairnstone/Cell", name := "copy", desc := "()Lcom/example/cairnstone/cairnstone/Cell;" } : Jvm.MethodName) prog_2_method_3_code (1 : Nat) (Option.some (Jvm.ClassFile.FieldType.object "com/example/cairnstone/cairnstone/Cell")), Jvm.Cond.code ({ cls := "com/example/cairnstone/cairnstone/Cell", name := "row", desc := "()[B" } : Jvm.MethodName) prog_2_method_7_code (1 : Nat) (Option.some (Jvm.ClassFile.FieldType.array Jvm.ClassFile.FieldType.byte)), Jvm.Cond.code ({ cls := "com/example/cairnstone/cairnstone/Cell", name := "family", desc := "()[B" } : Jvm.MethodName) prog_2_method_8_code (1 : Nat) (Option.some (Jvm.ClassFile.FieldType.array Jvm.ClassFile.FieldType.byte)), Jvm.Cond.code ({ cls := "com/example/cairnstone/cairnstone/Cell", name := "qualifier", desc := "()[B" } : Jvm.MethodName) prog_2_method_9_code (1 : Nat) (Option.some (Jvm.ClassFile.FieldType.array Jvm.ClassFile.FieldType.byte)), Jvm.Cond.code ({ cls := "com/example/cairnstone/cairnstone/Cell", name := "value", desc := "()[B" } : Jvm.MethodName) prog_2_method_11_code (1 : Nat) (Option.some (Jvm.ClassFile.FieldType.array Jvm.ClassFile.FieldType.byte)), Jvm.Cond.code ({ cls := "com/example/cairnstone/cairnstone/Cell", name := "timestamp", desc := "()J" } : Jvm.MethodName) prog_2_method_10_code (1 : Nat) (Option.some Jvm.ClassFile.FieldType.long)]
set_option maxRecDepth 65536 in
theorem codes_eq : words1.filter isCode = codes1 := rfl
theorem w_codes : ∀ c ∈ words1.filter isCode, c.before args0 about1 = true := by
  rw [codes_eq]
  intro c hc
  simp only [codes1, List.mem_cons, List.not_mem_nil, or_false] at hc
  rcases hc with rfl | rfl | rfl | rfl | rfl | rfl | rfl | rfl | rfl | rfl
  · exact w_c0
  · exact w_c1
  · exact w_c2
  · exact w_c3
  · exact w_c4
  · exact w_c5
  · exact w_c6
  · exact w_c7
  · exact w_c8
  · exact w_c9
set_option maxRecDepth 65536 in
theorem w_t1 : (words1.take 24).all (fun c => isCode c || c.before args0 about1) = true := by decide +kernel
set_option maxRecDepth 65536 in
theorem w_t2 : ((words1.drop 24).take 24).all (fun c => isCode c || c.before args0 about1) = true := by decide +kernel
set_option maxRecDepth 65536 in
theorem w_t3 : ((words1.drop 24).drop 24).all (fun c => isCode c || c.before args0 about1) = true := by decide +kernel
theorem w_tables : (allAtoms (Jvm.Cond.code x code maxLocals ret :: tables_1)).before args0 about1 = true := by
  rw [allAtoms_all]
  show words1.all (fun c => c.before args0 about1) = true
  refine all_split ?_ w_codes
  rw [← List.take_append_drop 24 words1, List.all_append, w_t1, ← List.take_append_drop 24 (words1.drop 24), List.all_append, w_t2, w_t3]
  rfl
set_option maxRecDepth 65536 in
theorem w_case : (Jvm.Cond.and given_1 narrow_1).before args0 about1 = true := by decide +kernel
theorem w_applies : (headSpec (Jvm.Cond.code x code maxLocals ret :: tables_1) room_1).applies x e0.platform about1 = true :=
  (Spec.applies_iff w_frames).mpr ⟨w_running, w_runnable, w_alone, w_named, w_hears, w_ripe, w_room, w_tables⟩
theorem atStart : AtStart classFile x code maxLocals ret World_1 tables_1 room_1 Calls_1 rest_1 Pre_1 launch0 p0 e0 about1 theMethod args0 below0 :=
  ⟨lists_1, trivial, launch0.admits_env _ _ _, launch0.least_env, fairChoices_fair.cas, fairChoices_fair.clock, w_frames, w_args, w_heap, w_applies, trivial, trivial, w_case⟩
end start1
theorem witness_1 : WitnessClaimed_1 := ⟨start1.p0, start1.e0, start1.about1, start1.theMethod, start1.args0, start1.below0, start1.atStart⟩
end Jvm.Pilot.@@N@@
