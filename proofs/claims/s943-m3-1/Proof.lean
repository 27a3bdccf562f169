import JvmDerived
import JvmDerived.Pilot.@@N@@Statement
import JvmDerived.Pilot.@@N@@Code
set_option linter.unusedVariables false
set_option linter.unusedSimpArgs false
namespace Jvm.Pilot.@@N@@
namespace Own
open Jvm Jvm.ClassFile Sem Op Lib Jvm.Free Jvm.Stand Jvm.LawKit Jvm.RoadKit Bundle
/-- what a body's walk knows of its method -/
def Ctx (p : Program) (l : Launch) (e : Env) (R : Room) (s : State) (m : MethodId) (args : Array Value) (below : List Frame) (meth : Method) (c : Code) (Z : State) (own : String) (cd : ByteArray) (maxL : Nat) (ret : Option FieldType) (nm : String) : Prop :=
  p.tables.exec = Jvm.exec ∧ Z.Warmed39 s.vm ∧ c.code = cd ∧ c.maxLocals = maxL ∧ s.vm.findClass own = some m.cls ∧ meth.sig.returnType = ret ∧ meth.locks = false ∧ meth.name = nm
/-- from every state that stands at pc with these locals and this stack over the heap h the method returns, and P holds -/
def Run (p : Program) (l : Launch) (e : Env) (R : Room) (s : State) (m : MethodId) (args : Array Value) (below : List Frame) (meth : Method) (c : Code) (n0 : Nat) (P : Option Value → Heap → Prop) (h : Heap) (k n : Nat) (pc : Nat) (Ls : Array Slot) (st : List Value) : Prop :=
  ∀ (T : State) (locs : List Loc), Stand p l e R s m args below meth c T locs k n → T.heap = h → Fr n0 locs →
    ∃ s₂ o, Steps p.tables e below (T.setTop (mkF m pc Ls st)) s₂ ∧ s₂.status = .running ∧ Ended s₂ below o ∧ ∃ v L, o = .returned v ∧ (P v s₂.heap ∧ Fr n0 L) ∧ FrameEnd s o s₂ L R.cells R.slots
def RetI (Q : Int32 → Heap → Prop) (v : Option Value) (h : Heap) : Prop := ∃ z, v = some (.int z) ∧ Q z h
def RetL (Q : Int64 → Heap → Prop) (v : Option Value) (h : Heap) : Prop := ∃ z, v = some (.long z) ∧ Q z h
def RetV (Q : Value → Heap → Prop) (v : Option Value) (h : Heap) : Prop := ∃ z, v = some z ∧ Q z h
def Ret0 (Q : Heap → Prop) (v : Option Value) (h : Heap) : Prop := v = none ∧ Q h
def Met (l : Launch) (Z : State) (y : MethodName) (bytes : ByteArray) (mL : Nat) (rt : Option FieldType) (ws : List Jvm.Cond) (rm : Room) (as : Array Value) (h : Heap) (n0 : Nat) (P : Option Value → Heap → Prop) : Prop :=
  MetFree l y (head1 (Jvm.Cond.code y bytes mL rt :: ws) rm) (fun a U => a = as ∧ Z.Warmed39 U.vm ∧ U.heap = h) (fun _ _ _ _ _ => True) (fun _ U o U' => ∃ v L, o = .returned v ∧ (P v U'.heap ∧ Fr n0 L) ∧ FrameEnd U o U' L rm.cells rm.slots)
section Steps
variable {p : Program} {l : Launch} {e : Env} {R : Room} {s : State} {m : MethodId} {args : Array Value} {below : List Frame} {meth : Method} {c : Code} {Z : State} {own nm : String} {cd : ByteArray} {maxL : Nat} {ret : Option FieldType} {n0 : Nat} {P : Option Value → Heap → Prop} {h : Heap} {k n pc pc' : Nat} {Ls l' : Array Slot} {st st' rest : List Value} {a0 : Array Value}
theorem Met.intro {y : MethodName} {bytes : ByteArray} {mL : Nat} {rt : Option FieldType} {ws : List Jvm.Cond} {rm : Room} {as : Array Value} (hpl : plainFor y = true) (ho : y.cls = own) (hn : y.name = nm) (ef : ∀ m, entryFrame m as mL = mkF m 0 Ls [])
    (body : ∀ p e s m below meth c, Ctx p l e rm s m as below meth c Z own bytes mL rt nm → Run p l e rm s m as below meth c n0 P h 0 0 0 Ls []) : Met l Z y bytes mL rt ws rm as h n0 P := by
  subst ho hn
  refine MetFree.of_bodySF hpl hisR ?_
  intro p e s m args below meth c s₁ Bd hml0 hP hK
  obtain ⟨rfl, hZ, hh⟩ := hP
  have X0 : Stand p l e rm s m args below meth c s₁ [] 0 0 := Stand.of_body Bd
  have e0 : s₁.heap = h := by rw [← hh, Bd.state]; rfl
  have hown : s.vm.findClass y.cls = some m.cls := findClass_of_methodNamed Bd.named
  obtain ⟨s₂, o, h1, h2⟩ := body p e s m below meth c ⟨Bd.exec, hZ, Bd.bytes, hml0, hown, Bd.returns, Bd.notSynchronized, (name_of_methodNamed Bd.named Bd.method).1⟩ s₁ [] X0 e0 (Fr.nil _)
  exact ⟨s₂, o, castTop (ef m) h1, h2⟩
theorem Run.pure (f : ∀ T locs, Stand p l e R s m args below meth c T locs k n → T.heap = h → ∀ t, Steps p.tables e below (T.setTop (mkF m pc' l' st')) t → Steps p.tables e below (T.setTop (mkF m pc Ls st)) t) (r : Run p l e R s m args below meth c n0 P h k n pc' l' st') : Run p l e R s m args below meth c n0 P h k n pc Ls st := fun T locs X eT N => by
  obtain ⟨s₂, o, q, r⟩ := r T locs X eT N
  exact ⟨s₂, o, f T locs X eT _ q, r⟩
theorem Run.warm (f : ∀ T locs, Stand p l e R s m args below meth c T locs k n → T.heap = h → ∃ T', Stand p l e R s m args below meth c T' locs k n ∧ T'.heap = h ∧ ∀ t, Steps p.tables e below (T'.setTop (mkF m pc' l' st')) t → Steps p.tables e below (T.setTop (mkF m pc Ls st)) t) (r : Run p l e R s m args below meth c n0 P h k n pc' l' st') : Run p l e R s m args below meth c n0 P h k n pc Ls st := fun T locs X eT N => by
  obtain ⟨T', X', e', f'⟩ := f T locs X eT
  obtain ⟨s₂, o, q, r⟩ := r T' locs X' e' N
  exact ⟨s₂, o, f' _ q, r⟩
/-! loads, stores, constants -/
theorem s_iloadN (C : Ctx p l e R s m args below meth c Z own cd maxL ret nm) {q : Fin 4} {v : Int32} (hd : decode cd pc = .ok (.iload_n q, 1)) (hp : pc + 1 = pc') (hl : Ls[q.val]? = some (.val (.int v))) (r : Run p l e R s m args below meth c n0 P h k n pc' Ls (.int v :: st)) : Run p l e R s m args below meth c n0 P h k n pc Ls st := by
  subst hp; exact Run.pure (fun T locs X _ t z => XS.iloadN X.here C.1 rfl (hb C.2.2.1 hd) hl z) r
theorem s_iload (C : Ctx p l e R s m args below meth c Z own cd maxL ret nm) {q : Nat} {v : Int32} (hd : decode cd pc = .ok (.iload q, 2)) (hp : pc + 2 = pc') (hl : Ls[q]? = some (.val (.int v))) (r : Run p l e R s m args below meth c n0 P h k n pc' Ls (.int v :: st)) : Run p l e R s m args below meth c n0 P h k n pc Ls st := by
  subst hp; exact Run.pure (fun T locs X _ t z => XS.iload X.here C.1 rfl (hb C.2.2.1 hd) hl z) r
theorem s_lloadN (C : Ctx p l e R s m args below meth c Z own cd maxL ret nm) {q : Fin 4} {v : Int64} (hd : decode cd pc = .ok (.lload_n q, 1)) (hp : pc + 1 = pc') (hl : Ls[q.val]? = some (.val (.long v))) (r : Run p l e R s m args below meth c n0 P h k n pc' Ls (.long v :: st)) : Run p l e R s m args below meth c n0 P h k n pc Ls st := by
  subst hp; exact Run.pure (fun T locs X _ t z => XS.lloadN X.here C.1 rfl (hb C.2.2.1 hd) hl z) r
theorem s_lload (C : Ctx p l e R s m args below meth c Z own cd maxL ret nm) {q : Nat} {v : Int64} (hd : decode cd pc = .ok (.lload q, 2)) (hp : pc + 2 = pc') (hl : Ls[q]? = some (.val (.long v))) (r : Run p l e R s m args below meth c n0 P h k n pc' Ls (.long v :: st)) : Run p l e R s m args below meth c n0 P h k n pc Ls st := by
  subst hp; exact Run.pure (fun T locs X _ t z => XS.lload X.here C.1 rfl (hb C.2.2.1 hd) hl z) r
theorem s_aloadN (C : Ctx p l e R s m args below meth c Z own cd maxL ret nm) {q : Fin 4} {v : Value} (hd : decode cd pc = .ok (.aload_n q, 1)) (hp : pc + 1 = pc') (hl : Ls[q.val]? = some (.val v)) (hv : v.isRef = true) (r : Run p l e R s m args below meth c n0 P h k n pc' Ls (v :: st)) : Run p l e R s m args below meth c n0 P h k n pc Ls st := by
  subst hp; exact Run.pure (fun T locs X _ t z => XS.aloadN X.here C.1 rfl (hb C.2.2.1 hd) hl hv z) r
theorem s_aload (C : Ctx p l e R s m args below meth c Z own cd maxL ret nm) {q : Nat} {v : Value} (hd : decode cd pc = .ok (.aload q, 2)) (hp : pc + 2 = pc') (hl : Ls[q]? = some (.val v)) (hv : v.isRef = true) (r : Run p l e R s m args below meth c n0 P h k n pc' Ls (v :: st)) : Run p l e R s m args below meth c n0 P h k n pc Ls st := by
  subst hp; exact Run.pure (fun T locs X _ t z => XS.aload X.here C.1 rfl (hb C.2.2.1 hd) hl hv z) r
theorem s_istoreN (C : Ctx p l e R s m args below meth c Z own cd maxL ret nm) {q : Fin 4} {x : Int32} (hd : decode cd pc = .ok (.istore_n q, 1)) (hp : pc + 1 = pc') (L : Int32 → Array Slot) (hl : ∀ y, storeLocals Ls q.val (.int y) = some (L y)) (r : ∀ y, y = x → Run p l e R s m args below meth c n0 P h k n pc' (L y) st) : Run p l e R s m args below meth c n0 P h k n pc Ls (.int x :: st) := by
  subst hp; exact Run.pure (fun T locs X _ t z => XS.istoreN X.here C.1 rfl (hb C.2.2.1 hd) rfl (hl x) z) (r x rfl)
theorem s_istore (C : Ctx p l e R s m args below meth c Z own cd maxL ret nm) {q : Nat} {x : Int32} (hd : decode cd pc = .ok (.istore q, 2)) (hp : pc + 2 = pc') (L : Int32 → Array Slot) (hl : ∀ y, storeLocals Ls q (.int y) = some (L y)) (r : ∀ y, y = x → Run p l e R s m args below meth c n0 P h k n pc' (L y) st) : Run p l e R s m args below meth c n0 P h k n pc Ls (.int x :: st) := by
  subst hp; exact Run.pure (fun T locs X _ t z => XS.istore X.here C.1 rfl (hb C.2.2.1 hd) rfl (hl x) z) (r x rfl)
theorem s_lstoreN (C : Ctx p l e R s m args below meth c Z own cd maxL ret nm) {q : Fin 4} {x : Int64} (hd : decode cd pc = .ok (.lstore_n q, 1)) (hp : pc + 1 = pc') (L : Int64 → Array Slot) (hl : ∀ y, storeLocals Ls q.val (.long y) = some (L y)) (r : ∀ y, y = x → Run p l e R s m args below meth c n0 P h k n pc' (L y) st) : Run p l e R s m args below meth c n0 P h k n pc Ls (.long x :: st) := by
  subst hp; exact Run.pure (fun T locs X _ t z => XS.lstoreN X.here C.1 rfl (hb C.2.2.1 hd) rfl (hl x) z) (r x rfl)
theorem s_lstore (C : Ctx p l e R s m args below meth c Z own cd maxL ret nm) {q : Nat} {x : Int64} (hd : decode cd pc = .ok (.lstore q, 2)) (hp : pc + 2 = pc') (L : Int64 → Array Slot) (hl : ∀ y, storeLocals Ls q (.long y) = some (L y)) (r : ∀ y, y = x → Run p l e R s m args below meth c n0 P h k n pc' (L y) st) : Run p l e R s m args below meth c n0 P h k n pc Ls (.long x :: st) := by
  subst hp; exact Run.pure (fun T locs X _ t z => XS.lstore X.here C.1 rfl (hb C.2.2.1 hd) rfl (hl x) z) (r x rfl)
theorem s_istoreNP (C : Ctx p l e R s m args below meth c Z own cd maxL ret nm) {q : Fin 4} {x : Int32} (hd : decode cd pc = .ok (.istore_n q, 1)) (hp : pc + 1 = pc') (L : Array Slot) (hl : storeLocals Ls q.val (.int x) = some L) (r : Run p l e R s m args below meth c n0 P h k n pc' L st) : Run p l e R s m args below meth c n0 P h k n pc Ls (.int x :: st) := by
  subst hp; exact Run.pure (fun T locs X _ t z => XS.istoreN X.here C.1 rfl (hb C.2.2.1 hd) rfl hl z) r
theorem s_istoreP (C : Ctx p l e R s m args below meth c Z own cd maxL ret nm) {q : Nat} {x : Int32} (hd : decode cd pc = .ok (.istore q, 2)) (hp : pc + 2 = pc') (L : Array Slot) (hl : storeLocals Ls q (.int x) = some L) (r : Run p l e R s m args below meth c n0 P h k n pc' L st) : Run p l e R s m args below meth c n0 P h k n pc Ls (.int x :: st) := by
  subst hp; exact Run.pure (fun T locs X _ t z => XS.istore X.here C.1 rfl (hb C.2.2.1 hd) rfl hl z) r
theorem s_lstoreNP (C : Ctx p l e R s m args below meth c Z own cd maxL ret nm) {q : Fin 4} {x : Int64} (hd : decode cd pc = .ok (.lstore_n q, 1)) (hp : pc + 1 = pc') (L : Array Slot) (hl : storeLocals Ls q.val (.long x) = some L) (r : Run p l e R s m args below meth c n0 P h k n pc' L st) : Run p l e R s m args below meth c n0 P h k n pc Ls (.long x :: st) := by
  subst hp; exact Run.pure (fun T locs X _ t z => XS.lstoreN X.here C.1 rfl (hb C.2.2.1 hd) rfl hl z) r
theorem s_lstoreP (C : Ctx p l e R s m args below meth c Z own cd maxL ret nm) {q : Nat} {x : Int64} (hd : decode cd pc = .ok (.lstore q, 2)) (hp : pc + 2 = pc') (L : Array Slot) (hl : storeLocals Ls q (.long x) = some L) (r : Run p l e R s m args below meth c n0 P h k n pc' L st) : Run p l e R s m args below meth c n0 P h k n pc Ls (.long x :: st) := by
  subst hp; exact Run.pure (fun T locs X _ t z => XS.lstore X.here C.1 rfl (hb C.2.2.1 hd) rfl hl z) r
theorem s_astoreN (C : Ctx p l e R s m args below meth c Z own cd maxL ret nm) {q : Fin 4} {x : Value} (hd : decode cd pc = .ok (.astore_n q, 1)) (hp : pc + 1 = pc') (hv : x.isRef = true) (L : Array Slot) (hl : storeLocals Ls q.val x = some L) (r : Run p l e R s m args below meth c n0 P h k n pc' L st) : Run p l e R s m args below meth c n0 P h k n pc Ls (x :: st) := by
  subst hp; exact Run.pure (fun T locs X _ t z => XS.astoreN X.here C.1 rfl (hb C.2.2.1 hd) rfl hv hl z) r
theorem s_astore (C : Ctx p l e R s m args below meth c Z own cd maxL ret nm) {q : Nat} {x : Value} (hd : decode cd pc = .ok (.astore q, 2)) (hp : pc + 2 = pc') (hv : x.isRef = true) (L : Array Slot) (hl : storeLocals Ls q x = some L) (r : Run p l e R s m args below meth c n0 P h k n pc' L st) : Run p l e R s m args below meth c n0 P h k n pc Ls (x :: st) := by
  subst hp; exact Run.pure (fun T locs X _ t z => XS.astore X.here C.1 rfl (hb C.2.2.1 hd) rfl hv hl z) r
theorem s_iconst (C : Ctx p l e R s m args below meth c Z own cd maxL ret nm) {i : Int} (hd : decode cd pc = .ok (.iconst i, 1)) (hp : pc + 1 = pc') (v : Int32) (hv : Int32.ofInt i = v) (r : Run p l e R s m args below meth c n0 P h k n pc' Ls (.int v :: st)) : Run p l e R s m args below meth c n0 P h k n pc Ls st := by
  subst hp hv; exact Run.pure (fun T locs X _ t z => XS.iconst X.here C.1 rfl (hb C.2.2.1 hd) z) r
theorem s_bipush (C : Ctx p l e R s m args below meth c Z own cd maxL ret nm) {i : Int} (hd : decode cd pc = .ok (.bipush i, 2)) (hp : pc + 2 = pc') (v : Int32) (hv : (Int8.ofInt i).toInt32 = v) (r : Run p l e R s m args below meth c n0 P h k n pc' Ls (.int v :: st)) : Run p l e R s m args below meth c n0 P h k n pc Ls st := by
  subst hp hv; exact Run.pure (fun T locs X _ t z => XS.bipush X.here C.1 rfl (hb C.2.2.1 hd) z) r
theorem s_sipush (C : Ctx p l e R s m args below meth c Z own cd maxL ret nm) {i : Int} (hd : decode cd pc = .ok (.sipush i, 3)) (hp : pc + 3 = pc') (v : Int32) (hv : (Int16.ofInt i).toInt32 = v) (r : Run p l e R s m args below meth c n0 P h k n pc' Ls (.int v :: st)) : Run p l e R s m args below meth c n0 P h k n pc Ls st := by
  subst hp hv; exact Run.pure (fun T locs X _ t z => XS.sipush X.here C.1 rfl (hb C.2.2.1 hd) z) r
theorem s_lconst (C : Ctx p l e R s m args below meth c Z own cd maxL ret nm) {i : Fin 2} (hd : decode cd pc = .ok (.lconst i, 1)) (hp : pc + 1 = pc') (v : Int64) (hv : Int64.ofNat i.val = v) (r : Run p l e R s m args below meth c n0 P h k n pc' Ls (.long v :: st)) : Run p l e R s m args below meth c n0 P h k n pc Ls st := by
  subst hp hv; exact Run.pure (fun T locs X _ t z => XS.lconst X.here C.1 rfl (hb C.2.2.1 hd) z) r
theorem s_null (C : Ctx p l e R s m args below meth c Z own cd maxL ret nm) (hd : decode cd pc = .ok (.aconst_null, 1)) (hp : pc + 1 = pc') (r : Run p l e R s m args below meth c n0 P h k n pc' Ls (.null :: st)) : Run p l e R s m args below meth c n0 P h k n pc Ls st := by
  subst hp; exact Run.pure (fun T locs X _ t z => XS.aconstNull X.here C.1 rfl (hb C.2.2.1 hd) z) r
theorem s_ldc (C : Ctx p l e R s m args below meth c Z own cd maxL ret nm) {i : Nat} {v : Int32} (hd : decode cd pc = .ok (.ldc i, 2)) (hp : pc + 2 = pc') (w : (Jvm.Cond.constant own i v).before a0 Z = true) (r : Run p l e R s m args below meth c n0 P h k n pc' Ls (.int v :: st)) : Run p l e R s m args below meth c n0 P h k n pc Ls st := by
  subst hp; exact Run.pure (fun T locs X _ t z => X.ldcInt C.1 C.2.2.2.2.1 (mvT C.2.1 w) (g := mkF m pc Ls st) rfl (hb C.2.2.1 hd) _ z) r
theorem s_ldc2 (C : Ctx p l e R s m args below meth c Z own cd maxL ret nm) {i : Nat} {v : Int64} (hd : decode cd pc = .ok (.ldc2_w i, 3)) (hp : pc + 3 = pc') (w : (Jvm.Cond.constantLong own i v).before a0 Z = true) (r : Run p l e R s m args below meth c n0 P h k n pc' Ls (.long v :: st)) : Run p l e R s m args below meth c n0 P h k n pc Ls st := by
  subst hp; exact Run.pure (fun T locs X _ t z => X.ldc2Long C.1 C.2.2.2.2.1 (mvT C.2.1 w) (g := mkF m pc Ls st) rfl (hb C.2.2.1 hd) _ z) r
theorem s_iinc (C : Ctx p l e R s m args below meth c Z own cd maxL ret nm) {q : Nat} {cst : Int} {x : Int32} (hd : decode cd pc = .ok (.iinc q cst, 3)) (hp : pc + 3 = pc') (hl : Ls[q]? = some (.val (.int x))) (z : Int32) (hz : Int32.ofInt cst = z) (L : Int32 → Array Slot) (hl' : ∀ y, storeLocals Ls q (.int y) = some (L y)) (r : ∀ y, y = x + z → Run p l e R s m args below meth c n0 P h k n pc' (L y) st) : Run p l e R s m args below meth c n0 P h k n pc Ls st := by
  subst hp hz; exact Run.pure (fun T locs X _ t z => XS.iinc X.here C.1 rfl (hb C.2.2.1 hd) hl (hl' _) z) (r _ rfl)
theorem s_iincP (C : Ctx p l e R s m args below meth c Z own cd maxL ret nm) {q : Nat} {cst : Int} {x : Int32} (hd : decode cd pc = .ok (.iinc q cst, 3)) (hp : pc + 3 = pc') (hl : Ls[q]? = some (.val (.int x))) (z : Int32) (hz : x + Int32.ofInt cst = z) (L : Array Slot) (hl' : storeLocals Ls q (.int z) = some L) (r : Run p l e R s m args below meth c n0 P h k n pc' L st) : Run p l e R s m args below meth c n0 P h k n pc Ls st := by
  subst hp hz; exact Run.pure (fun T locs X _ t z => XS.iinc X.here C.1 rfl (hb C.2.2.1 hd) hl hl' z) r
/-! plain steps -/
theorem s_iadd (C : Ctx p l e R s m args below meth c Z own cd maxL ret nm) {x y : Int32} (hd : decode cd pc = .ok (.iadd, 1)) (hp : pc + 1 = pc') (r : Run p l e R s m args below meth c n0 P h k n pc' Ls (.int (x + y) :: st)) : Run p l e R s m args below meth c n0 P h k n pc Ls (.int y :: .int x :: st) := by
  subst hp; exact Run.pure (fun T locs X _ t z => XS.iadd X.here C.1 rfl (hb C.2.2.1 hd) rfl z) r
theorem s_isub (C : Ctx p l e R s m args below meth c Z own cd maxL ret nm) {x y : Int32} (hd : decode cd pc = .ok (.isub, 1)) (hp : pc + 1 = pc') (r : Run p l e R s m args below meth c n0 P h k n pc' Ls (.int (x - y) :: st)) : Run p l e R s m args below meth c n0 P h k n pc Ls (.int y :: .int x :: st) := by
  subst hp; exact Run.pure (fun T locs X _ t z => XS.isub X.here C.1 rfl (hb C.2.2.1 hd) rfl z) r
theorem s_imul (C : Ctx p l e R s m args below meth c Z own cd maxL ret nm) {x y : Int32} (hd : decode cd pc = .ok (.imul, 1)) (hp : pc + 1 = pc') (r : Run p l e R s m args below meth c n0 P h k n pc' Ls (.int (x * y) :: st)) : Run p l e R s m args below meth c n0 P h k n pc Ls (.int y :: .int x :: st) := by
  subst hp; exact Run.pure (fun T locs X _ t z => XS.imul X.here C.1 rfl (hb C.2.2.1 hd) rfl z) r
theorem s_iand (C : Ctx p l e R s m args below meth c Z own cd maxL ret nm) {x y : Int32} (hd : decode cd pc = .ok (.iand, 1)) (hp : pc + 1 = pc') (r : Run p l e R s m args below meth c n0 P h k n pc' Ls (.int (x &&& y) :: st)) : Run p l e R s m args below meth c n0 P h k n pc Ls (.int y :: .int x :: st) := by
  subst hp; exact Run.pure (fun T locs X _ t z => XS.iand X.here C.1 rfl (hb C.2.2.1 hd) rfl z) r
theorem s_ior (C : Ctx p l e R s m args below meth c Z own cd maxL ret nm) {x y : Int32} (hd : decode cd pc = .ok (.ior, 1)) (hp : pc + 1 = pc') (r : Run p l e R s m args below meth c n0 P h k n pc' Ls (.int (x ||| y) :: st)) : Run p l e R s m args below meth c n0 P h k n pc Ls (.int y :: .int x :: st) := by
  subst hp; exact Run.pure (fun T locs X _ t z => XS.ior X.here C.1 rfl (hb C.2.2.1 hd) rfl z) r
theorem s_ixor (C : Ctx p l e R s m args below meth c Z own cd maxL ret nm) {x y : Int32} (hd : decode cd pc = .ok (.ixor, 1)) (hp : pc + 1 = pc') (r : Run p l e R s m args below meth c n0 P h k n pc' Ls (.int (x ^^^ y) :: st)) : Run p l e R s m args below meth c n0 P h k n pc Ls (.int y :: .int x :: st) := by
  subst hp; exact Run.pure (fun T locs X _ t z => XS.ixor X.here C.1 rfl (hb C.2.2.1 hd) rfl z) r
theorem s_ishl (C : Ctx p l e R s m args below meth c Z own cd maxL ret nm) {x y : Int32} (hd : decode cd pc = .ok (.ishl, 1)) (hp : pc + 1 = pc') (r : Run p l e R s m args below meth c n0 P h k n pc' Ls (.int (x <<< (y &&& 31)) :: st)) : Run p l e R s m args below meth c n0 P h k n pc Ls (.int y :: .int x :: st) := by
  subst hp; exact Run.pure (fun T locs X _ t z => XS.ishl X.here C.1 rfl (hb C.2.2.1 hd) rfl z) r
theorem s_ishr (C : Ctx p l e R s m args below meth c Z own cd maxL ret nm) {x y : Int32} (hd : decode cd pc = .ok (.ishr, 1)) (hp : pc + 1 = pc') (r : Run p l e R s m args below meth c n0 P h k n pc' Ls (.int (x >>> (y &&& 31)) :: st)) : Run p l e R s m args below meth c n0 P h k n pc Ls (.int y :: .int x :: st) := by
  subst hp; exact Run.pure (fun T locs X _ t z => XS.ishr X.here C.1 rfl (hb C.2.2.1 hd) rfl z) r
theorem s_iushr (C : Ctx p l e R s m args below meth c Z own cd maxL ret nm) {x y : Int32} (hd : decode cd pc = .ok (.iushr, 1)) (hp : pc + 1 = pc') (r : Run p l e R s m args below meth c n0 P h k n pc' Ls (.int ((x.toUInt32 >>> (y &&& 31).toUInt32).toInt32) :: st)) : Run p l e R s m args below meth c n0 P h k n pc Ls (.int y :: .int x :: st) := by
  subst hp; exact Run.pure (fun T locs X _ t z => XS.iushr X.here C.1 rfl (hb C.2.2.1 hd) rfl z) r
theorem s_ladd (C : Ctx p l e R s m args below meth c Z own cd maxL ret nm) {x y : Int64} (hd : decode cd pc = .ok (.ladd, 1)) (hp : pc + 1 = pc') (r : Run p l e R s m args below meth c n0 P h k n pc' Ls (.long (x + y) :: st)) : Run p l e R s m args below meth c n0 P h k n pc Ls (.long y :: .long x :: st) := by
  subst hp; exact Run.pure (fun T locs X _ t z => XS.ladd X.here C.1 rfl (hb C.2.2.1 hd) rfl z) r
theorem s_lsub (C : Ctx p l e R s m args below meth c Z own cd maxL ret nm) {x y : Int64} (hd : decode cd pc = .ok (.lsub, 1)) (hp : pc + 1 = pc') (r : Run p l e R s m args below meth c n0 P h k n pc' Ls (.long (x - y) :: st)) : Run p l e R s m args below meth c n0 P h k n pc Ls (.long y :: .long x :: st) := by
  subst hp; exact Run.pure (fun T locs X _ t z => XS.lsub X.here C.1 rfl (hb C.2.2.1 hd) rfl z) r
theorem s_lmul (C : Ctx p l e R s m args below meth c Z own cd maxL ret nm) {x y : Int64} (hd : decode cd pc = .ok (.lmul, 1)) (hp : pc + 1 = pc') (r : Run p l e R s m args below meth c n0 P h k n pc' Ls (.long (x * y) :: st)) : Run p l e R s m args below meth c n0 P h k n pc Ls (.long y :: .long x :: st) := by
  subst hp; exact Run.pure (fun T locs X _ t z => XS.lmul X.here C.1 rfl (hb C.2.2.1 hd) rfl z) r
theorem s_land (C : Ctx p l e R s m args below meth c Z own cd maxL ret nm) {x y : Int64} (hd : decode cd pc = .ok (.land, 1)) (hp : pc + 1 = pc') (r : Run p l e R s m args below meth c n0 P h k n pc' Ls (.long (x &&& y) :: st)) : Run p l e R s m args below meth c n0 P h k n pc Ls (.long y :: .long x :: st) := by
  subst hp; exact Run.pure (fun T locs X _ t z => XS.land X.here C.1 rfl (hb C.2.2.1 hd) rfl z) r
theorem s_lor (C : Ctx p l e R s m args below meth c Z own cd maxL ret nm) {x y : Int64} (hd : decode cd pc = .ok (.lor, 1)) (hp : pc + 1 = pc') (r : Run p l e R s m args below meth c n0 P h k n pc' Ls (.long (x ||| y) :: st)) : Run p l e R s m args below meth c n0 P h k n pc Ls (.long y :: .long x :: st) := by
  subst hp; exact Run.pure (fun T locs X _ t z => XS.lor X.here C.1 rfl (hb C.2.2.1 hd) rfl z) r
theorem s_lxor (C : Ctx p l e R s m args below meth c Z own cd maxL ret nm) {x y : Int64} (hd : decode cd pc = .ok (.lxor, 1)) (hp : pc + 1 = pc') (r : Run p l e R s m args below meth c n0 P h k n pc' Ls (.long (x ^^^ y) :: st)) : Run p l e R s m args below meth c n0 P h k n pc Ls (.long y :: .long x :: st) := by
  subst hp; exact Run.pure (fun T locs X _ t z => XS.lxor X.here C.1 rfl (hb C.2.2.1 hd) rfl z) r
theorem s_lshl (C : Ctx p l e R s m args below meth c Z own cd maxL ret nm) {x : Int64} {y : Int32} (hd : decode cd pc = .ok (.lshl, 1)) (hp : pc + 1 = pc') (r : Run p l e R s m args below meth c n0 P h k n pc' Ls (.long (x <<< (y &&& 0x3f).toInt64) :: st)) : Run p l e R s m args below meth c n0 P h k n pc Ls (.int y :: .long x :: st) := by
  subst hp; exact Run.pure (fun T locs X _ t z => XS.lshl X.here C.1 rfl (hb C.2.2.1 hd) rfl z) r
theorem s_lshr (C : Ctx p l e R s m args below meth c Z own cd maxL ret nm) {x : Int64} {y : Int32} (hd : decode cd pc = .ok (.lshr, 1)) (hp : pc + 1 = pc') (r : Run p l e R s m args below meth c n0 P h k n pc' Ls (.long (x >>> (y &&& 0x3f).toInt64) :: st)) : Run p l e R s m args below meth c n0 P h k n pc Ls (.int y :: .long x :: st) := by
  subst hp; exact Run.pure (fun T locs X _ t z => XS.lshr X.here C.1 rfl (hb C.2.2.1 hd) rfl z) r
theorem s_lushr (C : Ctx p l e R s m args below meth c Z own cd maxL ret nm) {x : Int64} {y : Int32} (hd : decode cd pc = .ok (.lushr, 1)) (hp : pc + 1 = pc') (r : Run p l e R s m args below meth c n0 P h k n pc' Ls (.long ((x.toUInt64 >>> (y &&& 0x3f).toInt64.toUInt64).toInt64) :: st)) : Run p l e R s m args below meth c n0 P h k n pc Ls (.int y :: .long x :: st) := by
  subst hp; exact Run.pure (fun T locs X _ t z => XS.lushr X.here C.1 rfl (hb C.2.2.1 hd) rfl z) r
theorem s_idiv (C : Ctx p l e R s m args below meth c Z own cd maxL ret nm) {x y : Int32} (hd : decode cd pc = .ok (.idiv, 1)) (hp : pc + 1 = pc') (hy : y ≠ 0) (r : Run p l e R s m args below meth c n0 P h k n pc' Ls (.int (x / y) :: st)) : Run p l e R s m args below meth c n0 P h k n pc Ls (.int y :: .int x :: st) := by
  subst hp; exact Run.pure (fun T locs X _ t z => XS.idiv X.here C.1 rfl (hb C.2.2.1 hd) rfl hy z) r
theorem s_irem (C : Ctx p l e R s m args below meth c Z own cd maxL ret nm) {x y : Int32} (hd : decode cd pc = .ok (.irem, 1)) (hp : pc + 1 = pc') (hy : y ≠ 0) (r : Run p l e R s m args below meth c n0 P h k n pc' Ls (.int (x % y) :: st)) : Run p l e R s m args below meth c n0 P h k n pc Ls (.int y :: .int x :: st) := by
  subst hp; exact Run.pure (fun T locs X _ t z => iremM X C.1 (g := mkF m pc Ls (.int y :: .int x :: st)) rfl (hb C.2.2.1 hd) rfl hy z) r
theorem s_ldiv (C : Ctx p l e R s m args below meth c Z own cd maxL ret nm) {x y : Int64} (hd : decode cd pc = .ok (.ldiv, 1)) (hp : pc + 1 = pc') (hy : y ≠ 0) (r : Run p l e R s m args below meth c n0 P h k n pc' Ls (.long (x / y) :: st)) : Run p l e R s m args below meth c n0 P h k n pc Ls (.long y :: .long x :: st) := by
  subst hp; exact Run.pure (fun T locs X _ t z => XS.ldiv X.here C.1 rfl (hb C.2.2.1 hd) rfl hy z) r
theorem s_lrem (C : Ctx p l e R s m args below meth c Z own cd maxL ret nm) {x y : Int64} (hd : decode cd pc = .ok (.lrem, 1)) (hp : pc + 1 = pc') (hy : y ≠ 0) (r : Run p l e R s m args below meth c n0 P h k n pc' Ls (.long (x % y) :: st)) : Run p l e R s m args below meth c n0 P h k n pc Ls (.long y :: .long x :: st) := by
  subst hp; rw [← lrem_mod] at r; exact Run.pure (fun T locs X _ t z => XS.lrem X.here C.1 rfl (hb C.2.2.1 hd) rfl hy z) r
theorem s_ineg (C : Ctx p l e R s m args below meth c Z own cd maxL ret nm) {x : Int32} (hd : decode cd pc = .ok (.ineg, 1)) (hp : pc + 1 = pc') (r : Run p l e R s m args below meth c n0 P h k n pc' Ls (.int (-x) :: st)) : Run p l e R s m args below meth c n0 P h k n pc Ls (.int x :: st) := by
  subst hp; exact Run.pure (fun T locs X _ t z => XS.ineg X.here C.1 rfl (hb C.2.2.1 hd) rfl z) r
theorem s_lneg (C : Ctx p l e R s m args below meth c Z own cd maxL ret nm) {x : Int64} (hd : decode cd pc = .ok (.lneg, 1)) (hp : pc + 1 = pc') (r : Run p l e R s m args below meth c n0 P h k n pc' Ls (.long (-x) :: st)) : Run p l e R s m args below meth c n0 P h k n pc Ls (.long x :: st) := by
  subst hp; exact Run.pure (fun T locs X _ t z => XS.lneg X.here C.1 rfl (hb C.2.2.1 hd) rfl z) r
theorem s_i2l (C : Ctx p l e R s m args below meth c Z own cd maxL ret nm) {x : Int32} (hd : decode cd pc = .ok (.i2l, 1)) (hp : pc + 1 = pc') (r : Run p l e R s m args below meth c n0 P h k n pc' Ls (.long (x.toInt64) :: st)) : Run p l e R s m args below meth c n0 P h k n pc Ls (.int x :: st) := by
  subst hp; exact Run.pure (fun T locs X _ t z => XS.i2l X.here C.1 rfl (hb C.2.2.1 hd) rfl z) r
theorem s_l2i (C : Ctx p l e R s m args below meth c Z own cd maxL ret nm) {x : Int64} (hd : decode cd pc = .ok (.l2i, 1)) (hp : pc + 1 = pc') (r : Run p l e R s m args below meth c n0 P h k n pc' Ls (.int (x.toInt32) :: st)) : Run p l e R s m args below meth c n0 P h k n pc Ls (.long x :: st) := by
  subst hp; exact Run.pure (fun T locs X _ t z => XS.l2i X.here C.1 rfl (hb C.2.2.1 hd) rfl z) r
theorem s_i2b (C : Ctx p l e R s m args below meth c Z own cd maxL ret nm) {x : Int32} (hd : decode cd pc = .ok (.i2b, 1)) (hp : pc + 1 = pc') (r : Run p l e R s m args below meth c n0 P h k n pc' Ls (.int (x.toInt8.toInt32) :: st)) : Run p l e R s m args below meth c n0 P h k n pc Ls (.int x :: st) := by
  subst hp; exact Run.pure (fun T locs X _ t z => XS.i2b X.here C.1 rfl (hb C.2.2.1 hd) rfl z) r
theorem s_i2s (C : Ctx p l e R s m args below meth c Z own cd maxL ret nm) {x : Int32} (hd : decode cd pc = .ok (.i2s, 1)) (hp : pc + 1 = pc') (r : Run p l e R s m args below meth c n0 P h k n pc' Ls (.int (x.toInt16.toInt32) :: st)) : Run p l e R s m args below meth c n0 P h k n pc Ls (.int x :: st) := by
  subst hp; exact Run.pure (fun T locs X _ t z => XS.i2s X.here C.1 rfl (hb C.2.2.1 hd) rfl z) r
theorem s_i2c (C : Ctx p l e R s m args below meth c Z own cd maxL ret nm) {x : Int32} (hd : decode cd pc = .ok (.i2c, 1)) (hp : pc + 1 = pc') (r : Run p l e R s m args below meth c n0 P h k n pc' Ls (.int (x.toUInt32.toUInt16.toUInt32.toInt32) :: st)) : Run p l e R s m args below meth c n0 P h k n pc Ls (.int x :: st) := by
  subst hp; exact Run.pure (fun T locs X _ t z => XS.i2c X.here C.1 rfl (hb C.2.2.1 hd) rfl z) r
theorem s_lcmp (C : Ctx p l e R s m args below meth c Z own cd maxL ret nm) {x y : Int64} (hd : decode cd pc = .ok (.lcmp, 1)) (hp : pc + 1 = pc') (r : Run p l e R s m args below meth c n0 P h k n pc' Ls (.int (lcmpW x y) :: st)) : Run p l e R s m args below meth c n0 P h k n pc Ls (.long y :: .long x :: st) := by
  subst hp; exact Run.pure (fun T locs X _ t z => XS.lcmp X.here C.1 rfl (hb C.2.2.1 hd) rfl z) r
theorem s_goto (C : Ctx p l e R s m args below meth c Z own cd maxL ret nm) {o : Int} (hd : decode cd pc = .ok (.goto o, 3)) (hp : (pc : Int) + o = (pc' : Int)) (r : Run p l e R s m args below meth c n0 P h k n pc' Ls st) : Run p l e R s m args below meth c n0 P h k n pc Ls st :=
  Run.pure (fun T locs X _ t z => XS.goto X.here C.1 rfl (pc0 := pc) rfl (hb C.2.2.1 hd) (by omega) (by omega) z) r
theorem s_dup (C : Ctx p l e R s m args below meth c Z own cd maxL ret nm) {v : Value} (hd : decode cd pc = .ok (.dup, 1)) (hp : pc + 1 = pc') (hc : v.category = 1) (r : Run p l e R s m args below meth c n0 P h k n pc' Ls (v :: v :: st)) : Run p l e R s m args below meth c n0 P h k n pc Ls (v :: st) := by
  subst hp; exact Run.pure (fun T locs X _ t z => XS.dup X.here C.1 rfl (hb C.2.2.1 hd) rfl hc z) r
theorem s_pop (C : Ctx p l e R s m args below meth c Z own cd maxL ret nm) {v : Value} (hd : decode cd pc = .ok (.pop, 1)) (hp : pc + 1 = pc') (hc : v.category = 1) (r : Run p l e R s m args below meth c n0 P h k n pc' Ls st) : Run p l e R s m args below meth c n0 P h k n pc Ls (v :: st) := by
  subst hp; exact Run.pure (fun T locs X _ t z => XS.pop X.here C.1 rfl (hb C.2.2.1 hd) rfl hc z) r
theorem s_dup2 (C : Ctx p l e R s m args below meth c Z own cd maxL ret nm) {v w : Value} (hd : decode cd pc = .ok (.dup2, 1)) (hp : pc + 1 = pc') (hc : v.category = 1) (hc' : w.category = 1) (r : Run p l e R s m args below meth c n0 P h k n pc' Ls (v :: w :: v :: w :: st)) : Run p l e R s m args below meth c n0 P h k n pc Ls (v :: w :: st) := by
  subst hp; exact Run.pure (fun T locs X _ t z => XT.dup2 X.here C.1 rfl (hb C.2.2.1 hd) rfl hc hc' z) r
theorem s_dupX1 (C : Ctx p l e R s m args below meth c Z own cd maxL ret nm) {v w : Value} (hd : decode cd pc = .ok (.dup_x1, 1)) (hp : pc + 1 = pc') (hc : v.category = 1) (hc' : w.category = 1) (r : Run p l e R s m args below meth c n0 P h k n pc' Ls (v :: w :: v :: st)) : Run p l e R s m args below meth c n0 P h k n pc Ls (v :: w :: st) := by
  subst hp; exact Run.pure (fun T locs X _ t z => XS.dupX1 X.here C.1 rfl (hb C.2.2.1 hd) rfl hc hc' z) r
/-! branches -/
theorem s_if (C : Ctx p l e R s m args below meth c Z own cd maxL ret nm) {cc : ClassFile.Cond} {o : Int} {x : Int32} {pcY : Nat} (hd : decode cd pc = .ok (.ifCond cc o, 3)) (hp : pc + 3 = pc') (ho : (pc : Int) + o = (pcY : Int)) (rY : if_icmp.holds cc x 0 = true → Run p l e R s m args below meth c n0 P h k n pcY Ls st) (rN : if_icmp.holds cc x 0 = false → Run p l e R s m args below meth c n0 P h k n pc' Ls st) : Run p l e R s m args below meth c n0 P h k n pc Ls (.int x :: st) := by
  subst hp
  cases hq : if_icmp.holds cc x 0
  · exact Run.pure (fun T locs X _ t z => XS.ifNo X.here C.1 rfl (hb C.2.2.1 hd) rfl ((if0 _ _).trans hq) z) (rN hq)
  · exact Run.pure (fun T locs X _ t z => XS.ifYes X.here C.1 rfl (pc0 := pc) rfl (hb C.2.2.1 hd) rfl ((if0 _ _).trans hq) (by omega) (by omega) z) (rY hq)
theorem s_icmp (C : Ctx p l e R s m args below meth c Z own cd maxL ret nm) {cc : ClassFile.Cond} {o : Int} {x y : Int32} {pcY : Nat} (hd : decode cd pc = .ok (.if_icmp cc o, 3)) (hp : pc + 3 = pc') (ho : (pc : Int) + o = (pcY : Int)) (rY : if_icmp.holds cc x y = true → Run p l e R s m args below meth c n0 P h k n pcY Ls st) (rN : if_icmp.holds cc x y = false → Run p l e R s m args below meth c n0 P h k n pc' Ls st) : Run p l e R s m args below meth c n0 P h k n pc Ls (.int y :: .int x :: st) := by
  subst hp
  cases hq : if_icmp.holds cc x y
  · exact Run.pure (fun T locs X _ t z => XS.icmpNo X.here C.1 rfl (hb C.2.2.1 hd) rfl hq z) (rN hq)
  · exact Run.pure (fun T locs X _ t z => XS.icmpYes X.here C.1 rfl (pc0 := pc) rfl (hb C.2.2.1 hd) rfl hq (by omega) (by omega) z) (rY hq)
theorem holds_lt {x y : Int32} : (if_icmp.holds .lt x y = true → x < y) ∧ (if_icmp.holds .lt x y = false → ¬ x < y) := ⟨fun h => by simpa [if_icmp.holds] using h, fun h q => by simp [if_icmp.holds, q] at h⟩
theorem holds_ge {x y : Int32} : (if_icmp.holds .ge x y = true → ¬ x < y) ∧ (if_icmp.holds .ge x y = false → x < y) := ⟨fun h q => (by rw [(tlt q).2.1] at h; cases h), fun h => Decidable.byContradiction fun q => (by rw [(flt q).2.1] at h; cases h)⟩
theorem holds_gt {x y : Int32} : (if_icmp.holds .gt x y = true → y < x) ∧ (if_icmp.holds .gt x y = false → ¬ y < x) := ⟨fun h => Decidable.byContradiction fun q => (by rw [(flt q).2.2.1] at h; cases h), fun h q => (by rw [(tlt q).2.2.1] at h; cases h)⟩
theorem holds_le {x y : Int32} : (if_icmp.holds .le x y = true → ¬ y < x) ∧ (if_icmp.holds .le x y = false → y < x) := ⟨fun h q => (by rw [(tlt q).2.2.2] at h; cases h), fun h => Decidable.byContradiction fun q => (by rw [(flt q).2.2.2] at h; cases h)⟩
theorem holds_eq {x y : Int32} : (if_icmp.holds .eq x y = true → x = y) ∧ (if_icmp.holds .eq x y = false → ¬ x = y) := ⟨fun h => Decidable.byContradiction fun q => (by rw [(feq q).1] at h; cases h), fun h q => (by rw [(teq q).1] at h; cases h)⟩
theorem holds_ne {x y : Int32} : (if_icmp.holds .ne x y = true → ¬ x = y) ∧ (if_icmp.holds .ne x y = false → x = y) := ⟨fun h q => (by rw [(teq q).2] at h; cases h), fun h => Decidable.byContradiction fun q => (by rw [(feq q).2] at h; cases h)⟩
theorem s_if_lt (C : Ctx p l e R s m args below meth c Z own cd maxL ret nm) {o : Int} {x : Int32} {pcY : Nat} (hd : decode cd pc = .ok (.ifCond .lt o, 3)) (hp : pc + 3 = pc') (ho : (pc : Int) + o = (pcY : Int)) (rY : x < (0 : Int32) → Run p l e R s m args below meth c n0 P h k n pcY Ls st) (rN : ¬ x < (0 : Int32) → Run p l e R s m args below meth c n0 P h k n pc' Ls st) : Run p l e R s m args below meth c n0 P h k n pc Ls (.int x :: st) :=
  s_if C hd hp ho (fun h => rY (holds_lt.1 h)) (fun h => rN (holds_lt.2 h))
theorem s_icmp_lt (C : Ctx p l e R s m args below meth c Z own cd maxL ret nm) {o : Int} {x y : Int32} {pcY : Nat} (hd : decode cd pc = .ok (.if_icmp .lt o, 3)) (hp : pc + 3 = pc') (ho : (pc : Int) + o = (pcY : Int)) (rY : x < y → Run p l e R s m args below meth c n0 P h k n pcY Ls st) (rN : ¬ x < y → Run p l e R s m args below meth c n0 P h k n pc' Ls st) : Run p l e R s m args below meth c n0 P h k n pc Ls (.int y :: .int x :: st) :=
  s_icmp C hd hp ho (fun h => rY (holds_lt.1 h)) (fun h => rN (holds_lt.2 h))
theorem s_lc_lt (C : Ctx p l e R s m args below meth c Z own cd maxL ret nm) {o : Int} {x y : Int64} {pc1 pcY : Nat} (hd : decode cd pc = .ok (.lcmp, 1)) (hp1 : pc + 1 = pc1) (hd2 : decode cd pc1 = .ok (.ifCond .lt o, 3)) (hp : pc1 + 3 = pc') (ho : (pc1 : Int) + o = (pcY : Int)) (rY : x < y → Run p l e R s m args below meth c n0 P h k n pcY Ls st) (rN : ¬ x < y → Run p l e R s m args below meth c n0 P h k n pc' Ls st) : Run p l e R s m args below meth c n0 P h k n pc Ls (.long y :: .long x :: st) :=
  s_lcmp C hd hp1 (s_if_lt C hd2 hp ho (fun h => rY ((lw_lt x y).mp h)) (fun h => rN (fun q => h ((lw_lt x y).mpr q))))
theorem s_if_ge (C : Ctx p l e R s m args below meth c Z own cd maxL ret nm) {o : Int} {x : Int32} {pcY : Nat} (hd : decode cd pc = .ok (.ifCond .ge o, 3)) (hp : pc + 3 = pc') (ho : (pc : Int) + o = (pcY : Int)) (rY : ¬ x < (0 : Int32) → Run p l e R s m args below meth c n0 P h k n pcY Ls st) (rN : x < (0 : Int32) → Run p l e R s m args below meth c n0 P h k n pc' Ls st) : Run p l e R s m args below meth c n0 P h k n pc Ls (.int x :: st) :=
  s_if C hd hp ho (fun h => rY (holds_ge.1 h)) (fun h => rN (holds_ge.2 h))
theorem s_icmp_ge (C : Ctx p l e R s m args below meth c Z own cd maxL ret nm) {o : Int} {x y : Int32} {pcY : Nat} (hd : decode cd pc = .ok (.if_icmp .ge o, 3)) (hp : pc + 3 = pc') (ho : (pc : Int) + o = (pcY : Int)) (rY : ¬ x < y → Run p l e R s m args below meth c n0 P h k n pcY Ls st) (rN : x < y → Run p l e R s m args below meth c n0 P h k n pc' Ls st) : Run p l e R s m args below meth c n0 P h k n pc Ls (.int y :: .int x :: st) :=
  s_icmp C hd hp ho (fun h => rY (holds_ge.1 h)) (fun h => rN (holds_ge.2 h))
theorem s_lc_ge (C : Ctx p l e R s m args below meth c Z own cd maxL ret nm) {o : Int} {x y : Int64} {pc1 pcY : Nat} (hd : decode cd pc = .ok (.lcmp, 1)) (hp1 : pc + 1 = pc1) (hd2 : decode cd pc1 = .ok (.ifCond .ge o, 3)) (hp : pc1 + 3 = pc') (ho : (pc1 : Int) + o = (pcY : Int)) (rY : ¬ x < y → Run p l e R s m args below meth c n0 P h k n pcY Ls st) (rN : x < y → Run p l e R s m args below meth c n0 P h k n pc' Ls st) : Run p l e R s m args below meth c n0 P h k n pc Ls (.long y :: .long x :: st) :=
  s_lcmp C hd hp1 (s_if_ge C hd2 hp ho (fun h => rY (fun q => h ((lw_lt x y).mpr q))) (fun h => rN ((lw_lt x y).mp h)))
theorem s_if_gt (C : Ctx p l e R s m args below meth c Z own cd maxL ret nm) {o : Int} {x : Int32} {pcY : Nat} (hd : decode cd pc = .ok (.ifCond .gt o, 3)) (hp : pc + 3 = pc') (ho : (pc : Int) + o = (pcY : Int)) (rY : (0 : Int32) < x → Run p l e R s m args below meth c n0 P h k n pcY Ls st) (rN : ¬ (0 : Int32) < x → Run p l e R s m args below meth c n0 P h k n pc' Ls st) : Run p l e R s m args below meth c n0 P h k n pc Ls (.int x :: st) :=
  s_if C hd hp ho (fun h => rY (holds_gt.1 h)) (fun h => rN (holds_gt.2 h))
theorem s_icmp_gt (C : Ctx p l e R s m args below meth c Z own cd maxL ret nm) {o : Int} {x y : Int32} {pcY : Nat} (hd : decode cd pc = .ok (.if_icmp .gt o, 3)) (hp : pc + 3 = pc') (ho : (pc : Int) + o = (pcY : Int)) (rY : y < x → Run p l e R s m args below meth c n0 P h k n pcY Ls st) (rN : ¬ y < x → Run p l e R s m args below meth c n0 P h k n pc' Ls st) : Run p l e R s m args below meth c n0 P h k n pc Ls (.int y :: .int x :: st) :=
  s_icmp C hd hp ho (fun h => rY (holds_gt.1 h)) (fun h => rN (holds_gt.2 h))
theorem s_lc_gt (C : Ctx p l e R s m args below meth c Z own cd maxL ret nm) {o : Int} {x y : Int64} {pc1 pcY : Nat} (hd : decode cd pc = .ok (.lcmp, 1)) (hp1 : pc + 1 = pc1) (hd2 : decode cd pc1 = .ok (.ifCond .gt o, 3)) (hp : pc1 + 3 = pc') (ho : (pc1 : Int) + o = (pcY : Int)) (rY : y < x → Run p l e R s m args below meth c n0 P h k n pcY Ls st) (rN : ¬ y < x → Run p l e R s m args below meth c n0 P h k n pc' Ls st) : Run p l e R s m args below meth c n0 P h k n pc Ls (.long y :: .long x :: st) :=
  s_lcmp C hd hp1 (s_if_gt C hd2 hp ho (fun h => rY ((lw_gt x y).mp h)) (fun h => rN (fun q => h ((lw_gt x y).mpr q))))
theorem s_if_le (C : Ctx p l e R s m args below meth c Z own cd maxL ret nm) {o : Int} {x : Int32} {pcY : Nat} (hd : decode cd pc = .ok (.ifCond .le o, 3)) (hp : pc + 3 = pc') (ho : (pc : Int) + o = (pcY : Int)) (rY : ¬ (0 : Int32) < x → Run p l e R s m args below meth c n0 P h k n pcY Ls st) (rN : (0 : Int32) < x → Run p l e R s m args below meth c n0 P h k n pc' Ls st) : Run p l e R s m args below meth c n0 P h k n pc Ls (.int x :: st) :=
  s_if C hd hp ho (fun h => rY (holds_le.1 h)) (fun h => rN (holds_le.2 h))
theorem s_icmp_le (C : Ctx p l e R s m args below meth c Z own cd maxL ret nm) {o : Int} {x y : Int32} {pcY : Nat} (hd : decode cd pc = .ok (.if_icmp .le o, 3)) (hp : pc + 3 = pc') (ho : (pc : Int) + o = (pcY : Int)) (rY : ¬ y < x → Run p l e R s m args below meth c n0 P h k n pcY Ls st) (rN : y < x → Run p l e R s m args below meth c n0 P h k n pc' Ls st) : Run p l e R s m args below meth c n0 P h k n pc Ls (.int y :: .int x :: st) :=
  s_icmp C hd hp ho (fun h => rY (holds_le.1 h)) (fun h => rN (holds_le.2 h))
theorem s_lc_le (C : Ctx p l e R s m args below meth c Z own cd maxL ret nm) {o : Int} {x y : Int64} {pc1 pcY : Nat} (hd : decode cd pc = .ok (.lcmp, 1)) (hp1 : pc + 1 = pc1) (hd2 : decode cd pc1 = .ok (.ifCond .le o, 3)) (hp : pc1 + 3 = pc') (ho : (pc1 : Int) + o = (pcY : Int)) (rY : ¬ y < x → Run p l e R s m args below meth c n0 P h k n pcY Ls st) (rN : y < x → Run p l e R s m args below meth c n0 P h k n pc' Ls st) : Run p l e R s m args below meth c n0 P h k n pc Ls (.long y :: .long x :: st) :=
  s_lcmp C hd hp1 (s_if_le C hd2 hp ho (fun h => rY (fun q => h ((lw_gt x y).mpr q))) (fun h => rN ((lw_gt x y).mp h)))
theorem s_if_eq (C : Ctx p l e R s m args below meth c Z own cd maxL ret nm) {o : Int} {x : Int32} {pcY : Nat} (hd : decode cd pc = .ok (.ifCond .eq o, 3)) (hp : pc + 3 = pc') (ho : (pc : Int) + o = (pcY : Int)) (rY : x = (0 : Int32) → Run p l e R s m args below meth c n0 P h k n pcY Ls st) (rN : ¬ x = (0 : Int32) → Run p l e R s m args below meth c n0 P h k n pc' Ls st) : Run p l e R s m args below meth c n0 P h k n pc Ls (.int x :: st) :=
  s_if C hd hp ho (fun h => rY (holds_eq.1 h)) (fun h => rN (holds_eq.2 h))
theorem s_icmp_eq (C : Ctx p l e R s m args below meth c Z own cd maxL ret nm) {o : Int} {x y : Int32} {pcY : Nat} (hd : decode cd pc = .ok (.if_icmp .eq o, 3)) (hp : pc + 3 = pc') (ho : (pc : Int) + o = (pcY : Int)) (rY : x = y → Run p l e R s m args below meth c n0 P h k n pcY Ls st) (rN : ¬ x = y → Run p l e R s m args below meth c n0 P h k n pc' Ls st) : Run p l e R s m args below meth c n0 P h k n pc Ls (.int y :: .int x :: st) :=
  s_icmp C hd hp ho (fun h => rY (holds_eq.1 h)) (fun h => rN (holds_eq.2 h))
theorem s_lc_eq (C : Ctx p l e R s m args below meth c Z own cd maxL ret nm) {o : Int} {x y : Int64} {pc1 pcY : Nat} (hd : decode cd pc = .ok (.lcmp, 1)) (hp1 : pc + 1 = pc1) (hd2 : decode cd pc1 = .ok (.ifCond .eq o, 3)) (hp : pc1 + 3 = pc') (ho : (pc1 : Int) + o = (pcY : Int)) (rY : x = y → Run p l e R s m args below meth c n0 P h k n pcY Ls st) (rN : ¬ x = y → Run p l e R s m args below meth c n0 P h k n pc' Ls st) : Run p l e R s m args below meth c n0 P h k n pc Ls (.long y :: .long x :: st) :=
  s_lcmp C hd hp1 (s_if_eq C hd2 hp ho (fun h => rY ((lw_eq x y).mp h)) (fun h => rN (fun q => h ((lw_eq x y).mpr q))))
theorem s_if_ne (C : Ctx p l e R s m args below meth c Z own cd maxL ret nm) {o : Int} {x : Int32} {pcY : Nat} (hd : decode cd pc = .ok (.ifCond .ne o, 3)) (hp : pc + 3 = pc') (ho : (pc : Int) + o = (pcY : Int)) (rY : ¬ x = (0 : Int32) → Run p l e R s m args below meth c n0 P h k n pcY Ls st) (rN : x = (0 : Int32) → Run p l e R s m args below meth c n0 P h k n pc' Ls st) : Run p l e R s m args below meth c n0 P h k n pc Ls (.int x :: st) :=
  s_if C hd hp ho (fun h => rY (holds_ne.1 h)) (fun h => rN (holds_ne.2 h))
theorem s_icmp_ne (C : Ctx p l e R s m args below meth c Z own cd maxL ret nm) {o : Int} {x y : Int32} {pcY : Nat} (hd : decode cd pc = .ok (.if_icmp .ne o, 3)) (hp : pc + 3 = pc') (ho : (pc : Int) + o = (pcY : Int)) (rY : ¬ x = y → Run p l e R s m args below meth c n0 P h k n pcY Ls st) (rN : x = y → Run p l e R s m args below meth c n0 P h k n pc' Ls st) : Run p l e R s m args below meth c n0 P h k n pc Ls (.int y :: .int x :: st) :=
  s_icmp C hd hp ho (fun h => rY (holds_ne.1 h)) (fun h => rN (holds_ne.2 h))
theorem s_lc_ne (C : Ctx p l e R s m args below meth c Z own cd maxL ret nm) {o : Int} {x y : Int64} {pc1 pcY : Nat} (hd : decode cd pc = .ok (.lcmp, 1)) (hp1 : pc + 1 = pc1) (hd2 : decode cd pc1 = .ok (.ifCond .ne o, 3)) (hp : pc1 + 3 = pc') (ho : (pc1 : Int) + o = (pcY : Int)) (rY : ¬ x = y → Run p l e R s m args below meth c n0 P h k n pcY Ls st) (rN : x = y → Run p l e R s m args below meth c n0 P h k n pc' Ls st) : Run p l e R s m args below meth c n0 P h k n pc Ls (.long y :: .long x :: st) :=
  s_lcmp C hd hp1 (s_if_ne C hd2 hp ho (fun h => rY (fun q => h ((lw_eq x y).mpr q))) (fun h => rN ((lw_eq x y).mp h)))
theorem s_ifnullR (C : Ctx p l e R s m args below meth c Z own cd maxL ret nm) {o : Int} {b : Addr} (hd : decode cd pc = .ok (.ifnull o, 3)) (hp : pc + 3 = pc') (r : Run p l e R s m args below meth c n0 P h k n pc' Ls st) : Run p l e R s m args below meth c n0 P h k n pc Ls (.ref b :: st) := by
  subst hp; exact Run.pure (fun T locs X _ t z => XS.ifnullNo X.here C.1 rfl (hb C.2.2.1 hd) rfl z) r
theorem s_ifnullN (C : Ctx p l e R s m args below meth c Z own cd maxL ret nm) {o : Int} (hd : decode cd pc = .ok (.ifnull o, 3)) (hp : (pc : Int) + o = (pc' : Int)) (r : Run p l e R s m args below meth c n0 P h k n pc' Ls st) : Run p l e R s m args below meth c n0 P h k n pc Ls (.null :: st) :=
  Run.pure (fun T locs X _ t z => XS.ifnullYes X.here C.1 rfl (pc0 := pc) rfl (hb C.2.2.1 hd) rfl (by omega) (by omega) z) r
theorem s_ifnonnullR (C : Ctx p l e R s m args below meth c Z own cd maxL ret nm) {o : Int} {b : Addr} (hd : decode cd pc = .ok (.ifnonnull o, 3)) (hp : (pc : Int) + o = (pc' : Int)) (r : Run p l e R s m args below meth c n0 P h k n pc' Ls st) : Run p l e R s m args below meth c n0 P h k n pc Ls (.ref b :: st) :=
  Run.pure (fun T locs X _ t z => XS.ifnonnullYes X.here C.1 rfl (pc0 := pc) rfl (hb C.2.2.1 hd) rfl (by omega) (by omega) z) r
theorem s_ifnonnullN (C : Ctx p l e R s m args below meth c Z own cd maxL ret nm) {o : Int} (hd : decode cd pc = .ok (.ifnonnull o, 3)) (hp : pc + 3 = pc') (r : Run p l e R s m args below meth c n0 P h k n pc' Ls st) : Run p l e R s m args below meth c n0 P h k n pc Ls (.null :: st) := by
  subst hp; exact Run.pure (fun T locs X _ t z => XS.ifnonnullNo X.here C.1 rfl (hb C.2.2.1 hd) rfl z) r
theorem s_acmp (C : Ctx p l e R s m args below meth c Z own cd maxL ret nm) {cc : ClassFile.ACond} {o : Int} {x y : Value} {same : Bool} (hd : decode cd pc = .ok (.if_acmp cc o, 3)) (h1 : x.isRef = true) (h2 : y.isRef = true) (hq : decide (x = y) = same) (ho : 0 ≤ (pc : Int) + o) (hp : pc' = if acV cc same = true then ((pc : Int) + o).toNat else pc + 3) (r : Run p l e R s m args below meth c n0 P h k n pc' Ls st) : Run p l e R s m args below meth c n0 P h k n pc Ls (y :: x :: st) :=
  Run.pure (fun T locs X _ t z => Jvm.RoadKit.acmp (g := mkF m pc Ls (y :: x :: st)) X C.1 rfl h1 h2 rfl (hb C.2.2.1 hd) rfl hq ho hp z) r
/-! returns -/
theorem Run.out {v : Option Value} (C : Ctx p l e R s m args below meth c Z own cd maxL ret nm) (hv : ret = none → v = none) (f : ∀ T locs, Stand p l e R s m args below meth c T locs k n → ∀ fs, (∀ (f : JFrame) (acts : List Action), f.method = m → f.locked = none → f.entered = [] → (doReturn e (T.setTop f) acts v).1 = T.setFrames fs) → Steps p.tables e below (T.setTop (mkF m pc Ls st)) (T.setFrames fs)) (hk : k ≤ R.cells) (hn : n ≤ R.slots) (hP : P v h) : Run p l e R s m args below meth c n0 P h k n pc Ls st := fun T locs X eT N => by
  obtain ⟨fs, hr, hrun, hended, hW, hsame⟩ := X.leave (v := v) (fun h => hv (C.2.2.2.2.2.1 ▸ h)) C.2.2.2.2.2.2.1
  exact ⟨_, _, f T locs X fs hr, hrun, hended, _, _, rfl, ⟨(by rw [show (T.setFrames fs).heap = h from eT]; exact hP), N⟩, ⟨_, rfl⟩, hW, hsame.mono hk hn⟩
theorem s_retI {Q : Int32 → Heap → Prop} (C : Ctx p l e R s m args below meth c Z own cd maxL (some .int) nm) {z : Int32} (hd : decode cd pc = .ok (.ireturn, 1)) (hk : k ≤ R.cells) (hn : n ≤ R.slots) (hQ : Q z h) : Run p l e R s m args below meth c n0 (RetI Q) h k n pc Ls (.int z :: st) :=
  Run.out C (fun h => by cases h) (fun T locs X fs hr => retOut X C.1 C.2.2.2.2.2.1 rfl (Or.inl ⟨rfl, Or.inl rfl, _, rfl⟩) (hb C.2.2.1 hd) hr) hk hn ⟨_, rfl, hQ⟩
theorem s_retN {Q : Int32 → Heap → Prop} {t : FieldType} (C : Ctx p l e R s m args below meth c Z own cd maxL (some t) nm) (ht : t = .boolean ∨ t = .byte ∨ t = .char ∨ t = .short) {z : Int32} (hd : decode cd pc = .ok (.ireturn, 1)) (hk : k ≤ R.cells) (hn : n ≤ R.slots) (hQ : Q (nar t z) h) : Run p l e R s m args below meth c n0 (RetI Q) h k n pc Ls (.int z :: st) :=
  Run.out C (fun h => by cases h) (fun T locs X fs hr => retN X C.1 C.2.2.2.2.2.1 ht (hb C.2.2.1 hd) hr) hk hn ⟨_, rfl, hQ⟩
theorem s_retL {Q : Int64 → Heap → Prop} (C : Ctx p l e R s m args below meth c Z own cd maxL (some .long) nm) {z : Int64} (hd : decode cd pc = .ok (.lreturn, 1)) (hk : k ≤ R.cells) (hn : n ≤ R.slots) (hQ : Q z h) : Run p l e R s m args below meth c n0 (RetL Q) h k n pc Ls (.long z :: st) :=
  Run.out C (fun h => by cases h) (fun T locs X fs hr => retOut X C.1 C.2.2.2.2.2.1 rfl (Or.inr (Or.inl ⟨rfl, rfl, _, rfl⟩)) (hb C.2.2.1 hd) hr) hk hn ⟨_, rfl, hQ⟩
theorem s_retA {Q : Value → Heap → Prop} {t : FieldType} (C : Ctx p l e R s m args below meth c Z own cd maxL (some t) nm) (ht : t.isReference = true) {v : Value} (hv : v.isRef = true) (hn' : narrow t v = v) (hd : decode cd pc = .ok (.areturn, 1)) (hk : k ≤ R.cells) (hn : n ≤ R.slots) (hQ : Q v h) : Run p l e R s m args below meth c n0 (RetV Q) h k n pc Ls (v :: st) :=
  Run.out C (fun h => by cases h) (fun T locs X fs hr => retOut X C.1 C.2.2.2.2.2.1 hn' (Or.inr (Or.inr (Or.inr (Or.inr ⟨rfl, ht, hv⟩)))) (hb C.2.2.1 hd) hr) hk hn ⟨_, rfl, hQ⟩
theorem s_ret0 {Q : Heap → Prop} (C : Ctx p l e R s m args below meth c Z own cd maxL none nm) (hd : decode cd pc = .ok (.return_, 1)) (hk : k ≤ R.cells) (hn : n ≤ R.slots) (hQ : Q h) : Run p l e R s m args below meth c n0 (Ret0 Q) h k n pc Ls [] :=
  Run.out C (fun _ => rfl) (fun T locs X fs hr => X.returnOut C.1 C.2.2.2.2.2.1 (hb C.2.2.1 hd) hr) hk hn ⟨rfl, hQ⟩
/-! fields, objects -/
theorem s_getF (C : Ctx p l e R s m args below meth c Z own cd maxL ret nm) {O f d : String} {i : Nat} {a : Addr} {v : Value} (hd : decode cd pc = .ok (.getfield i, 3)) (hp : pc + 3 = pc') (w : (Jvm.Cond.fieldLink own i O f d).before a0 Z = true) (F : Fld Z h a O f d v) (r : Run p l e R s m args below meth c n0 P h k n pc' Ls (v :: st)) : Run p l e R s m args below meth c n0 P h k n pc Ls (.ref a :: st) := by
  subst hp; exact Run.warm (fun T locs X eT => getF X C.1 C.2.1 C.2.2.2.2.1 (host := "") (Or.inl w) Via.refl eT F (g := mkF m pc Ls (.ref a :: st)) rfl rfl (hb C.2.2.1 hd)) r
theorem s_getS (C : Ctx p l e R s m args below meth c Z own cd maxL ret nm) {O f d : String} {i : Nat} {v : Value} (hd : decode cd pc = .ok (.getstatic i, 3)) (hp : pc + 3 = pc') (w : (Jvm.Cond.fieldLink own i O f d).before a0 Z = true) (F : Sta Z h O f d v) (r : Run p l e R s m args below meth c n0 P h k n pc' Ls (v :: st)) : Run p l e R s m args below meth c n0 P h k n pc Ls st := by
  subst hp; exact Run.warm (fun T locs X eT => getS (host := "") X C.1 C.2.1 C.2.2.2.2.1 w Via.refl eT F (g := mkF m pc Ls st) rfl (hb C.2.2.1 hd)) r
theorem s_putF (C : Ctx p l e R s m args below meth c Z own cd maxL ret nm) {O f d K : String} {i kk : Nat} {a : Addr} {v old : Value} {ty : FieldType} (hd : decode cd pc = .ok (.putfield i, 3)) (hp : pc + 3 = pc') (w : (Jvm.Cond.fieldLink own i O f d).before a0 Z = true) (F : Fld Z h a O f d old) (E : Exa Z h a K)
    (L : (Jvm.Cond.lays K O f d).before a0 Z = true ∨ ((Jvm.Cond.laysFinal K O f d).before a0 Z = true ∧ own = O ∧ nm = "<init>")) (wi : (Jvm.Cond.instantiable K kk).before a0 Z = true) (hty : parseFieldDescriptor d = some ty) (hn : narrow ty v = v) (hf : fits ty v = true) (ha : n0 ≤ a)
    (r : ∀ h', Wr h h' a (Jvm.RoadKit.slotOf Z O f d) v → Run p l e R s m args below meth c n0 P h' k n pc' Ls st) : Run p l e R s m args below meth c n0 P h k n pc Ls (v :: .ref a :: st) := by
  subst hp
  intro T locs X eT N
  obtain ⟨T', h', X', e', W, q⟩ := putF X C.1 C.2.1 C.2.2.2.2.1 (host := "") (Or.inl w) Via.refl eT F E (L.imp id fun z => ⟨z.1, z.2.1, C.2.2.2.2.2.2.2.trans z.2.2⟩) wi hty hn hf (g := mkF m pc Ls (v :: .ref a :: st)) rfl rfl (hb C.2.2.1 hd)
  obtain ⟨s₂, o, z, r⟩ := r h' W T' _ X' e' (Fr.snoc X' N ha)
  exact ⟨s₂, o, q _ z, r⟩
theorem s_new (C : Ctx p l e R s m args below meth c Z own cd maxL ret nm) {K : String} {i sl k' n' : Nat} (hd : decode cd pc = .ok (.new i, 3)) (hp : pc + 3 = pc') (w : (Jvm.Cond.classLink own i K).before a0 Z = true) (wi : (Jvm.Cond.instantiable K sl).before a0 Z = true) (wz : (Jvm.Cond.initialized K).before a0 Z = true) (hk : k + 1 = k') (hk' : k' ≤ R.cells) (hn : n + sl = n') (hn' : n' ≤ R.slots)
    (r : ∀ h' a, Ext h h' → a = h.size → Exa Z h' a K → (∀ {O nm d : String} {ty : FieldType}, Laid Z a0 K O nm d → parseFieldDescriptor d = some ty → Fld Z h' a O nm d (defaultValue ty)) → Run p l e R s m args below meth c n0 P h' k' n' pc' Ls (.ref a :: st)) : Run p l e R s m args below meth c n0 P h k n pc Ls st := by
  subst hp hk hn
  intro T locs X eT N
  obtain ⟨T', h', X', e', E, A, D, -, q⟩ := newO X C.1 C.2.1 C.2.2.2.2.1 w wi wz eT (g := mkF m pc Ls st) rfl (hb C.2.2.1 hd) hk' hn'
  obtain ⟨s₂, o, z, r⟩ := r h' _ E rfl A D T' _ X' e' N
  exact ⟨s₂, o, q _ z, r⟩
theorem s_initO (C : Ctx p l e R s m args below meth c Z own cd maxL ret nm) {i W : Nat} {a : Addr} (hd : decode cd pc = .ok (.invokespecial i, 3)) (hp : pc + 3 = pc') (w1 : (Jvm.Cond.methodLink own i Lib.objectInit).before a0 Z = true) (w2 : (Jvm.Cond.instanceMethod Lib.objectInit).before a0 Z = true) (w3 : (Jvm.Cond.code Lib.objectInit ⟨#[0xb1]⟩ 1 none).before a0 Z = true) (hs : Ls.size = maxL) (hf : 1 ≤ R.frames) (hW : (st.map fun v => v.category).sum = W) (hl : W + 12 ≤ R.locals)
    (r : Run p l e R s m args below meth c n0 P h k n pc' Ls st) : Run p l e R s m args below meth c n0 P h k n pc Ls (.ref a :: st) := by
  subst hp; exact Run.warm (fun T locs X eT => initO X C.1 C.2.1 C.2.2.2.2.1 w1 w2 w3 eT (g := mkF m pc Ls (.ref a :: st)) rfl (by rw [C.2.2.2.1]; exact hs) rfl (hb C.2.2.1 hd) hf (W := W) (by show 2 * 0 + _ ≤ _; omega) hl) r
theorem s_cast (C : Ctx p l e R s m args below meth c Z own cd maxL ret nm) {K : String} {i : Nat} {a : Addr} (hd : decode cd pc = .ok (.checkcast i, 3)) (hp : pc + 3 = pc') (w : (Jvm.Cond.classLink own i K).before a0 Z = true) (F : Ins Z h a K true) (r : Run p l e R s m args below meth c n0 P h k n pc' Ls (.ref a :: st)) : Run p l e R s m args below meth c n0 P h k n pc Ls (.ref a :: st) := by
  subst hp; exact Run.warm (fun T locs X eT => castY X C.1 C.2.1 C.2.2.2.2.1 w eT F (g := mkF m pc Ls (.ref a :: st)) rfl rfl (hb C.2.2.1 hd)) r
theorem s_instY (C : Ctx p l e R s m args below meth c Z own cd maxL ret nm) {K : String} {i : Nat} {a : Addr} (hd : decode cd pc = .ok (.instanceof i, 3)) (hp : pc + 3 = pc') (w : (Jvm.Cond.classLink own i K).before a0 Z = true) (F : Ins Z h a K true) (r : Run p l e R s m args below meth c n0 P h k n pc' Ls (.int 1 :: st)) : Run p l e R s m args below meth c n0 P h k n pc Ls (.ref a :: st) := by
  subst hp; exact Run.warm (fun T locs X eT => instY X C.1 C.2.1 C.2.2.2.2.1 w eT F (g := mkF m pc Ls (.ref a :: st)) rfl rfl (hb C.2.2.1 hd)) r
/-! calls -/
theorem Met.back {y : MethodName} {bytes : ByteArray} {mL len W : Nat} {rt : Option FieldType} {rm : Room} {as : Array Value} {Q : Option Value → Heap → Prop} (M : Met l Z y bytes mL rt [] rm as h n0 Q) (hZ : Z.Warmed39 s.vm) (wc : (Jvm.Cond.code y bytes mL rt).before a0 Z = true) (wz : (Jvm.Cond.initialized y.cls).before a0 Z = true) (hf : rm.frames + 1 ≤ R.frames) (hl : W + (mL + 11) + rm.locals ≤ R.locals) :
    Back l R p e below s args y len W (fun A a => a = as ∧ A.U.heap = h ∧ A.cells + rm.cells ≤ R.cells ∧ A.slots + rm.slots ≤ R.slots) (fun A _ v B => ∃ L, (Q v B.U.heap ∧ Fr n0 L) ∧ B.locs = A.locs ++ L ∧ B.cells = A.cells + rm.cells ∧ B.slots = A.slots + rm.slots) :=
  backOf (Q := fun v h L => Q v h ∧ Fr n0 L) M hZ wc wz hf hl
theorem s_callS (C : Ctx p l e R s m args below meth c Z own cd maxL ret nm) {y : MethodName} {bytes : ByteArray} {mL i W k' n' : Nat} {rt : Option FieldType} {rm : Room} {Q : Option Value → Heap → Prop} (hd : decode cd pc = .ok (.invokestatic i, 3)) (hp : pc + 3 = pc') (wl : (Jvm.Cond.methodLink own i y).before a0 Z = true) (ws : (Jvm.Cond.static y).before a0 Z = true) (wz : (Jvm.Cond.initialized y.cls).before a0 Z = true) (wc : (Jvm.Cond.code y bytes mL rt).before a0 Z = true) (hy : y.cls ≠ "java/lang/invoke/MethodHandle" ∧ y.cls ≠ "java/lang/invoke/VarHandle") (as rest : List Value) {ps : List FieldType} {rr : Option FieldType} (hdes : parseMethodDescriptor y.desc = some ⟨ps, rr⟩) (hlen : as.length = ps.length) (hst : st = as.reverse ++ rest)
    (M : Met l Z y bytes mL rt [] rm as.toArray h n0 Q) (hs : Ls.size = maxL) (hW : (rest.map fun v => v.category).sum = W) (hf : rm.frames + 1 ≤ R.frames) (hl : W + (mL + 11) + rm.locals ≤ R.locals) (hk : k + rm.cells = k') (hk' : k' ≤ R.cells) (hn : n + rm.slots = n') (hn' : n' ≤ R.slots)
    (r : ∀ v h', Q v h' → Run p l e R s m args below meth c n0 P h' k' n' pc' Ls (v.toList ++ rest)) : Run p l e R s m args below meth c n0 P h k n pc Ls st := by
  subst hp hk hn hst
  intro T locs X eT N
  obtain ⟨v, _, ⟨T', L', k', n'⟩, -, X', ⟨Lc, ⟨hQ, N'⟩, l', y', z'⟩, q⟩ := Jvm.LawKit.callS X C.1 (y := y) C.2.2.2.2.1 (mvT C.2.1 wl) (mvT C.2.1 ws) (mvT C.2.1 wz) (mvT C.2.1 wc) hy (M.back (W := W) C.2.1 wc wz hf hl) (g := mkF m pc Ls (as.reverse ++ rest)) rfl (by rw [C.2.2.2.1]; exact hs) (argsL := as) (rest := rest) (lenOf hdes hlen) rfl (by show 2 * 0 + _ ≤ _; omega) (hb C.2.2.1 hd) (fun _ _ => ⟨rfl, eT, hk', hn'⟩)
  dsimp only [Pt.U, Pt.locs, Pt.cells, Pt.slots] at X' l' y' z' q hQ
  subst l' y' z'
  obtain ⟨s₂, o, z, r⟩ := r v _ hQ T' _ X' rfl (Fr.app N N')
  exact ⟨s₂, o, q _ z, r⟩
theorem s_callV (C : Ctx p l e R s m args below meth c Z own cd maxL ret nm) {y z : MethodName} {K : String} {bytes : ByteArray} {mL i W k' n' : Nat} {rt : Option FieldType} {rm : Room} {b : Addr} {Q : Option Value → Heap → Prop} (hd : decode cd pc = .ok (.invokevirtual i, 3)) (hp : pc + 3 = pc') (wl : (Jvm.Cond.methodLink own i y).before a0 Z = true) (wd : (Jvm.Cond.declares y).before a0 Z = true) (hnf : NotFace s y) (wsel : (Jvm.Cond.selects K y z).before a0 Z = true) (wi : (Jvm.Cond.instanceMethod z).before a0 Z = true) (wz : (Jvm.Cond.initialized z.cls).before a0 Z = true) (wc : (Jvm.Cond.code z bytes mL rt).before a0 Z = true) (hy : y.cls ≠ "java/lang/invoke/MethodHandle" ∧ y.cls ≠ "java/lang/invoke/VarHandle") (E : Exa Z h b K) (as rest : List Value) {ps : List FieldType} {rr : Option FieldType} (hdes : parseMethodDescriptor y.desc = some ⟨ps, rr⟩) (hlen : as.length = ps.length) (hst : st = as.reverse ++ .ref b :: rest)
    (M : Met l Z z bytes mL rt [] rm (.ref b :: as).toArray h n0 Q) (hs : Ls.size = maxL) (hW : (rest.map fun v => v.category).sum = W) (hf : rm.frames + 1 ≤ R.frames) (hl : W + (mL + 11) + rm.locals ≤ R.locals) (hk : k + rm.cells = k') (hk' : k' ≤ R.cells) (hn : n + rm.slots = n') (hn' : n' ≤ R.slots)
    (r : ∀ v h', Q v h' → Run p l e R s m args below meth c n0 P h' k' n' pc' Ls (v.toList ++ rest)) : Run p l e R s m args below meth c n0 P h k n pc Ls st := by
  subst hp hk hn hst
  intro T locs X eT N
  obtain ⟨cq, kq, qa, qb, qc⟩ := isOf C.2.1 eT E
  obtain ⟨v, _, ⟨T', L', k', n'⟩, -, X', ⟨Lc, ⟨hQ, N'⟩, l', y', z'⟩, q⟩ := X.virtualBack C.1 (y := y) (z := z) C.2.2.2.2.1 (mvT C.2.1 wl) (mvT C.2.1 wd) hnf (mvT C.2.1 wsel) (mvT C.2.1 wi) hy (M.back (W := W) C.2.1 wc wz hf hl) qa qc (g := mkF m pc Ls (as.reverse ++ .ref b :: rest)) rfl (by rw [C.2.2.2.1]; exact hs) (Steps.refl _) (argsL := as) (rest := rest) (lenOf hdes hlen) rfl (by show 2 * 0 + _ ≤ _; omega) (hb C.2.2.1 hd) (fun _ _ => ⟨rfl, eT, hk', hn'⟩)
  dsimp only [Pt.U, Pt.locs, Pt.cells, Pt.slots] at X' l' y' z' q hQ
  subst l' y' z'
  obtain ⟨s₂, o, z, r⟩ := r v _ hQ T' _ X' rfl (Fr.app N N')
  exact ⟨s₂, o, q.trans z, r⟩
theorem s_callI (C : Ctx p l e R s m args below meth c Z own cd maxL ret nm) {y : MethodName} {bytes : ByteArray} {mL i W k' n' : Nat} {rm : Room} {b : Addr} {Q : Heap → Prop} (hd : decode cd pc = .ok (.invokespecial i, 3)) (hp : pc + 3 = pc') (wl : (Jvm.Cond.methodLink own i y).before a0 Z = true) (hy1 : y.name = "<init>") (wi : (Jvm.Cond.instanceMethod y).before a0 Z = true) (wz : (Jvm.Cond.initialized y.cls).before a0 Z = true) (wc : (Jvm.Cond.code y bytes mL none).before a0 Z = true) (hy : y.cls ≠ "java/lang/invoke/MethodHandle" ∧ y.cls ≠ "java/lang/invoke/VarHandle") (as rest : List Value) {ps : List FieldType} {rr : Option FieldType} (hdes : parseMethodDescriptor y.desc = some ⟨ps, rr⟩) (hlen : as.length = ps.length) (hst : st = as.reverse ++ .ref b :: rest)
    (M : Met l Z y bytes mL none [] rm (.ref b :: as).toArray h n0 (Ret0 Q)) (hs : Ls.size = maxL) (hW : (rest.map fun v => v.category).sum = W) (hf : rm.frames + 1 ≤ R.frames) (hl : W + (mL + 11) + rm.locals ≤ R.locals) (hk : k + rm.cells = k') (hk' : k' ≤ R.cells) (hn : n + rm.slots = n') (hn' : n' ≤ R.slots)
    (r : ∀ h', Q h' → Run p l e R s m args below meth c n0 P h' k' n' pc' Ls rest) : Run p l e R s m args below meth c n0 P h k n pc Ls st := by
  subst hp hk hn hst
  intro T locs X eT N
  obtain ⟨v, _, ⟨T', L', k', n'⟩, -, X', ⟨Lc, ⟨⟨rfl, hQ⟩, N'⟩, l', y', z'⟩, q⟩ := X.specialBack C.1 (y := y) hy1 C.2.2.2.2.1 (mvT C.2.1 wl) (mvT C.2.1 wi) (mvT C.2.1 wc) hy (M.back (W := W) C.2.1 wc wz hf hl) (g := mkF m pc Ls (as.reverse ++ .ref b :: rest)) rfl (by rw [C.2.2.2.1]; exact hs) (Steps.refl _) (a := b) (argsL := as) (rest := rest) (lenOf hdes hlen) rfl (by show 2 * 0 + _ ≤ _; omega) (hb C.2.2.1 hd) (fun _ _ => ⟨rfl, eT, hk', hn'⟩)
  dsimp only [Pt.U, Pt.locs, Pt.cells, Pt.slots] at X' l' y' z' q hQ
  subst l' y' z'
  obtain ⟨s₂, o, z, r⟩ := r _ hQ T' _ X' rfl (Fr.app N N')
  exact ⟨s₂, o, q.trans z, r⟩
theorem s_callSI (C : Ctx p l e R s m args below meth c Z own cd maxL ret nm) {y : MethodName} {bytes : ByteArray} {mL i W k' n' : Nat} {rt : Option FieldType} {rm : Room} {Q : Int32 → Heap → Prop} (hd : decode cd pc = .ok (.invokestatic i, 3)) (hp : pc + 3 = pc') (wl : (Jvm.Cond.methodLink own i y).before a0 Z = true) (ws : (Jvm.Cond.static y).before a0 Z = true) (wz : (Jvm.Cond.initialized y.cls).before a0 Z = true) (wc : (Jvm.Cond.code y bytes mL rt).before a0 Z = true) (hy : y.cls ≠ "java/lang/invoke/MethodHandle" ∧ y.cls ≠ "java/lang/invoke/VarHandle") (as rest : List Value) {ps : List FieldType} {rr : Option FieldType} (hdes : parseMethodDescriptor y.desc = some ⟨ps, rr⟩) (hlen : as.length = ps.length) (hst : st = as.reverse ++ rest)
    (M : Met l Z y bytes mL rt [] rm as.toArray h n0 (RetI Q)) (hs : Ls.size = maxL) (hW : (rest.map fun v => v.category).sum = W) (hf : rm.frames + 1 ≤ R.frames) (hl : W + (mL + 11) + rm.locals ≤ R.locals) (hk : k + rm.cells = k') (hk' : k' ≤ R.cells) (hn : n + rm.slots = n') (hn' : n' ≤ R.slots)
    (r : ∀ (z : Int32) h', Q z h' → Run p l e R s m args below meth c n0 P h' k' n' pc' Ls ((.int z) :: rest)) : Run p l e R s m args below meth c n0 P h k n pc Ls st :=
  s_callS C hd hp wl ws wz wc hy as rest hdes hlen hst M hs hW hf hl hk hk' hn hn' (fun v h' q => by obtain ⟨z, rfl, q⟩ := q; exact r z h' q)
theorem s_callSL (C : Ctx p l e R s m args below meth c Z own cd maxL ret nm) {y : MethodName} {bytes : ByteArray} {mL i W k' n' : Nat} {rt : Option FieldType} {rm : Room} {Q : Int64 → Heap → Prop} (hd : decode cd pc = .ok (.invokestatic i, 3)) (hp : pc + 3 = pc') (wl : (Jvm.Cond.methodLink own i y).before a0 Z = true) (ws : (Jvm.Cond.static y).before a0 Z = true) (wz : (Jvm.Cond.initialized y.cls).before a0 Z = true) (wc : (Jvm.Cond.code y bytes mL rt).before a0 Z = true) (hy : y.cls ≠ "java/lang/invoke/MethodHandle" ∧ y.cls ≠ "java/lang/invoke/VarHandle") (as rest : List Value) {ps : List FieldType} {rr : Option FieldType} (hdes : parseMethodDescriptor y.desc = some ⟨ps, rr⟩) (hlen : as.length = ps.length) (hst : st = as.reverse ++ rest)
    (M : Met l Z y bytes mL rt [] rm as.toArray h n0 (RetL Q)) (hs : Ls.size = maxL) (hW : (rest.map fun v => v.category).sum = W) (hf : rm.frames + 1 ≤ R.frames) (hl : W + (mL + 11) + rm.locals ≤ R.locals) (hk : k + rm.cells = k') (hk' : k' ≤ R.cells) (hn : n + rm.slots = n') (hn' : n' ≤ R.slots)
    (r : ∀ (z : Int64) h', Q z h' → Run p l e R s m args below meth c n0 P h' k' n' pc' Ls ((.long z) :: rest)) : Run p l e R s m args below meth c n0 P h k n pc Ls st :=
  s_callS C hd hp wl ws wz wc hy as rest hdes hlen hst M hs hW hf hl hk hk' hn hn' (fun v h' q => by obtain ⟨z, rfl, q⟩ := q; exact r z h' q)
theorem s_callSA (C : Ctx p l e R s m args below meth c Z own cd maxL ret nm) {y : MethodName} {bytes : ByteArray} {mL i W k' n' : Nat} {rt : Option FieldType} {rm : Room} {Q : Value → Heap → Prop} (hd : decode cd pc = .ok (.invokestatic i, 3)) (hp : pc + 3 = pc') (wl : (Jvm.Cond.methodLink own i y).before a0 Z = true) (ws : (Jvm.Cond.static y).before a0 Z = true) (wz : (Jvm.Cond.initialized y.cls).before a0 Z = true) (wc : (Jvm.Cond.code y bytes mL rt).before a0 Z = true) (hy : y.cls ≠ "java/lang/invoke/MethodHandle" ∧ y.cls ≠ "java/lang/invoke/VarHandle") (as rest : List Value) {ps : List FieldType} {rr : Option FieldType} (hdes : parseMethodDescriptor y.desc = some ⟨ps, rr⟩) (hlen : as.length = ps.length) (hst : st = as.reverse ++ rest)
    (M : Met l Z y bytes mL rt [] rm as.toArray h n0 (RetV Q)) (hs : Ls.size = maxL) (hW : (rest.map fun v => v.category).sum = W) (hf : rm.frames + 1 ≤ R.frames) (hl : W + (mL + 11) + rm.locals ≤ R.locals) (hk : k + rm.cells = k') (hk' : k' ≤ R.cells) (hn : n + rm.slots = n') (hn' : n' ≤ R.slots)
    (r : ∀ (z : Value) h', Q z h' → Run p l e R s m args below meth c n0 P h' k' n' pc' Ls (z :: rest)) : Run p l e R s m args below meth c n0 P h k n pc Ls st :=
  s_callS C hd hp wl ws wz wc hy as rest hdes hlen hst M hs hW hf hl hk hk' hn hn' (fun v h' q => by obtain ⟨z, rfl, q⟩ := q; exact r z h' q)
theorem s_callS0 (C : Ctx p l e R s m args below meth c Z own cd maxL ret nm) {y : MethodName} {bytes : ByteArray} {mL i W k' n' : Nat} {rt : Option FieldType} {rm : Room} {Q : Heap → Prop} (hd : decode cd pc = .ok (.invokestatic i, 3)) (hp : pc + 3 = pc') (wl : (Jvm.Cond.methodLink own i y).before a0 Z = true) (ws : (Jvm.Cond.static y).before a0 Z = true) (wz : (Jvm.Cond.initialized y.cls).before a0 Z = true) (wc : (Jvm.Cond.code y bytes mL rt).before a0 Z = true) (hy : y.cls ≠ "java/lang/invoke/MethodHandle" ∧ y.cls ≠ "java/lang/invoke/VarHandle") (as rest : List Value) {ps : List FieldType} {rr : Option FieldType} (hdes : parseMethodDescriptor y.desc = some ⟨ps, rr⟩) (hlen : as.length = ps.length) (hst : st = as.reverse ++ rest)
    (M : Met l Z y bytes mL rt [] rm as.toArray h n0 (Ret0 Q)) (hs : Ls.size = maxL) (hW : (rest.map fun v => v.category).sum = W) (hf : rm.frames + 1 ≤ R.frames) (hl : W + (mL + 11) + rm.locals ≤ R.locals) (hk : k + rm.cells = k') (hk' : k' ≤ R.cells) (hn : n + rm.slots = n') (hn' : n' ≤ R.slots)
    (r : ∀ h', Q h' → Run p l e R s m args below meth c n0 P h' k' n' pc' Ls rest) : Run p l e R s m args below meth c n0 P h k n pc Ls st :=
  s_callS C hd hp wl ws wz wc hy as rest hdes hlen hst M hs hW hf hl hk hk' hn hn' (fun v h' q => by obtain ⟨rfl, q⟩ := q; exact r h' q)
theorem s_callVI (C : Ctx p l e R s m args below meth c Z own cd maxL ret nm) {y z : MethodName} {K : String} {bytes : ByteArray} {mL i W k' n' : Nat} {rt : Option FieldType} {rm : Room} {b : Addr} {Q : Int32 → Heap → Prop} (hd : decode cd pc = .ok (.invokevirtual i, 3)) (hp : pc + 3 = pc') (wl : (Jvm.Cond.methodLink own i y).before a0 Z = true) (wd : (Jvm.Cond.declares y).before a0 Z = true) (hnf : NotFace s y) (wsel : (Jvm.Cond.selects K y z).before a0 Z = true) (wi : (Jvm.Cond.instanceMethod z).before a0 Z = true) (wz : (Jvm.Cond.initialized z.cls).before a0 Z = true) (wc : (Jvm.Cond.code z bytes mL rt).before a0 Z = true) (hy : y.cls ≠ "java/lang/invoke/MethodHandle" ∧ y.cls ≠ "java/lang/invoke/VarHandle") (E : Exa Z h b K) (as rest : List Value) {ps : List FieldType} {rr : Option FieldType} (hdes : parseMethodDescriptor y.desc = some ⟨ps, rr⟩) (hlen : as.length = ps.length) (hst : st = as.reverse ++ .ref b :: rest)
    (M : Met l Z z bytes mL rt [] rm (.ref b :: as).toArray h n0 (RetI Q)) (hs : Ls.size = maxL) (hW : (rest.map fun v => v.category).sum = W) (hf : rm.frames + 1 ≤ R.frames) (hl : W + (mL + 11) + rm.locals ≤ R.locals) (hk : k + rm.cells = k') (hk' : k' ≤ R.cells) (hn : n + rm.slots = n') (hn' : n' ≤ R.slots)
    (r : ∀ (z : Int32) h', Q z h' → Run p l e R s m args below meth c n0 P h' k' n' pc' Ls ((.int z) :: rest)) : Run p l e R s m args below meth c n0 P h k n pc Ls st :=
  s_callV C hd hp wl wd hnf wsel wi wz wc hy E as rest hdes hlen hst M hs hW hf hl hk hk' hn hn' (fun v h' q => by obtain ⟨z, rfl, q⟩ := q; exact r z h' q)
theorem s_callVL (C : Ctx p l e R s m args below meth c Z own cd maxL ret nm) {y z : MethodName} {K : String} {bytes : ByteArray} {mL i W k' n' : Nat} {rt : Option FieldType} {rm : Room} {b : Addr} {Q : Int64 → Heap → Prop} (hd : decode cd pc = .ok (.invokevirtual i, 3)) (hp : pc + 3 = pc') (wl : (Jvm.Cond.methodLink own i y).before a0 Z = true) (wd : (Jvm.Cond.declares y).before a0 Z = true) (hnf : NotFace s y) (wsel : (Jvm.Cond.selects K y z).before a0 Z = true) (wi : (Jvm.Cond.instanceMethod z).before a0 Z = true) (wz : (Jvm.Cond.initialized z.cls).before a0 Z = true) (wc : (Jvm.Cond.code z bytes mL rt).before a0 Z = true) (hy : y.cls ≠ "java/lang/invoke/MethodHandle" ∧ y.cls ≠ "java/lang/invoke/VarHandle") (E : Exa Z h b K) (as rest : List Value) {ps : List FieldType} {rr : Option FieldType} (hdes : parseMethodDescriptor y.desc = some ⟨ps, rr⟩) (hlen : as.length = ps.length) (hst : st = as.reverse ++ .ref b :: rest)
    (M : Met l Z z bytes mL rt [] rm (.ref b :: as).toArray h n0 (RetL Q)) (hs : Ls.size = maxL) (hW : (rest.map fun v => v.category).sum = W) (hf : rm.frames + 1 ≤ R.frames) (hl : W + (mL + 11) + rm.locals ≤ R.locals) (hk : k + rm.cells = k') (hk' : k' ≤ R.cells) (hn : n + rm.slots = n') (hn' : n' ≤ R.slots)
    (r : ∀ (z : Int64) h', Q z h' → Run p l e R s m args below meth c n0 P h' k' n' pc' Ls ((.long z) :: rest)) : Run p l e R s m args below meth c n0 P h k n pc Ls st :=
  s_callV C hd hp wl wd hnf wsel wi wz wc hy E as rest hdes hlen hst M hs hW hf hl hk hk' hn hn' (fun v h' q => by obtain ⟨z, rfl, q⟩ := q; exact r z h' q)
theorem s_callVA (C : Ctx p l e R s m args below meth c Z own cd maxL ret nm) {y z : MethodName} {K : String} {bytes : ByteArray} {mL i W k' n' : Nat} {rt : Option FieldType} {rm : Room} {b : Addr} {Q : Value → Heap → Prop} (hd : decode cd pc = .ok (.invokevirtual i, 3)) (hp : pc + 3 = pc') (wl : (Jvm.Cond.methodLink own i y).before a0 Z = true) (wd : (Jvm.Cond.declares y).before a0 Z = true) (hnf : NotFace s y) (wsel : (Jvm.Cond.selects K y z).before a0 Z = true) (wi : (Jvm.Cond.instanceMethod z).before a0 Z = true) (wz : (Jvm.Cond.initialized z.cls).before a0 Z = true) (wc : (Jvm.Cond.code z bytes mL rt).before a0 Z = true) (hy : y.cls ≠ "java/lang/invoke/MethodHandle" ∧ y.cls ≠ "java/lang/invoke/VarHandle") (E : Exa Z h b K) (as rest : List Value) {ps : List FieldType} {rr : Option FieldType} (hdes : parseMethodDescriptor y.desc = some ⟨ps, rr⟩) (hlen : as.length = ps.length) (hst : st = as.reverse ++ .ref b :: rest)
    (M : Met l Z z bytes mL rt [] rm (.ref b :: as).toArray h n0 (RetV Q)) (hs : Ls.size = maxL) (hW : (rest.map fun v => v.category).sum = W) (hf : rm.frames + 1 ≤ R.frames) (hl : W + (mL + 11) + rm.locals ≤ R.locals) (hk : k + rm.cells = k') (hk' : k' ≤ R.cells) (hn : n + rm.slots = n') (hn' : n' ≤ R.slots)
    (r : ∀ (z : Value) h', Q z h' → Run p l e R s m args below meth c n0 P h' k' n' pc' Ls (z :: rest)) : Run p l e R s m args below meth c n0 P h k n pc Ls st :=
  s_callV C hd hp wl wd hnf wsel wi wz wc hy E as rest hdes hlen hst M hs hW hf hl hk hk' hn hn' (fun v h' q => by obtain ⟨z, rfl, q⟩ := q; exact r z h' q)
theorem s_callV0 (C : Ctx p l e R s m args below meth c Z own cd maxL ret nm) {y z : MethodName} {K : String} {bytes : ByteArray} {mL i W k' n' : Nat} {rt : Option FieldType} {rm : Room} {b : Addr} {Q : Heap → Prop} (hd : decode cd pc = .ok (.invokevirtual i, 3)) (hp : pc + 3 = pc') (wl : (Jvm.Cond.methodLink own i y).before a0 Z = true) (wd : (Jvm.Cond.declares y).before a0 Z = true) (hnf : NotFace s y) (wsel : (Jvm.Cond.selects K y z).before a0 Z = true) (wi : (Jvm.Cond.instanceMethod z).before a0 Z = true) (wz : (Jvm.Cond.initialized z.cls).before a0 Z = true) (wc : (Jvm.Cond.code z bytes mL rt).before a0 Z = true) (hy : y.cls ≠ "java/lang/invoke/MethodHandle" ∧ y.cls ≠ "java/lang/invoke/VarHandle") (E : Exa Z h b K) (as rest : List Value) {ps : List FieldType} {rr : Option FieldType} (hdes : parseMethodDescriptor y.desc = some ⟨ps, rr⟩) (hlen : as.length = ps.length) (hst : st = as.reverse ++ .ref b :: rest)
    (M : Met l Z z bytes mL rt [] rm (.ref b :: as).toArray h n0 (Ret0 Q)) (hs : Ls.size = maxL) (hW : (rest.map fun v => v.category).sum = W) (hf : rm.frames + 1 ≤ R.frames) (hl : W + (mL + 11) + rm.locals ≤ R.locals) (hk : k + rm.cells = k') (hk' : k' ≤ R.cells) (hn : n + rm.slots = n') (hn' : n' ≤ R.slots)
    (r : ∀ h', Q h' → Run p l e R s m args below meth c n0 P h' k' n' pc' Ls rest) : Run p l e R s m args below meth c n0 P h k n pc Ls st :=
  s_callV C hd hp wl wd hnf wsel wi wz wc hy E as rest hdes hlen hst M hs hW hf hl hk hk' hn hn' (fun v h' q => by obtain ⟨rfl, q⟩ := q; exact r h' q)
/-! arrays: exactly these values -/
def Av (Z : State) (h : Heap) (a : Addr) (ty : FieldType) (vs : List Value) : Prop := ∃ cl : Cell, Arr Z h a cl ty ∧ cl.slots = vs.toArray ∧ vs.length < 2 ^ 31 ∧ ∀ v ∈ vs, fits ty v = true
theorem Av.lt {h : Heap} {a : Addr} {ty : FieldType} {vs : List Value} (V : Av Z h a ty vs) : a < h.size := by obtain ⟨cl, A, -⟩ := V; exact A.lt
theorem Av.ext {h h' : Heap} {a : Addr} {ty : FieldType} {vs : List Value} (V : Av Z h a ty vs) (E : Ext h h') : Av Z h' a ty vs := by obtain ⟨cl, A, r⟩ := V; exact ⟨cl, A.ext E, r⟩
theorem Av.other {h h' : Heap} {a b : Addr} {ty : FieldType} {vs : List Value} {sl : Nat} {v : Value} (V : Av Z h b ty vs) (W : Wr h h' a sl v) (q : b ≠ a) : Av Z h' b ty vs := by obtain ⟨cl, A, r⟩ := V; exact ⟨cl, A.other W q, r⟩
theorem Av.keep {h h' : Heap} {a : Addr} {ty : FieldType} {vs : List Value} {ws : List Addr} (V : Av Z h a ty vs) (K : Keep h h' ws) (q : a ∉ ws) : Av Z h' a ty vs := by obtain ⟨cl, A, r⟩ := V; exact ⟨cl, ⟨K.2.1 a cl A.1 q, A.2⟩, r⟩
theorem Av.set {h h' : Heap} {a : Addr} {ty : FieldType} {vs : List Value} {i : Nat} {v : Value} (V : Av Z h a ty vs) (W : Wr h h' a i v) (hf : fits ty v = true) : Av Z h' a ty (vs.set i v) := by
  obtain ⟨cl, A, hs, hl, hq⟩ := V
  exact ⟨_, A.same W, by simp [Cell.setSlot, hs], by simpa using hl, fun u hu => (List.mem_or_eq_of_mem_set hu).elim (hq u) (fun e => e ▸ hf)⟩
theorem fits_default (ty : FieldType) : fits ty (defaultValue ty) = true := by cases ty <;> first | rfl | decide
theorem Av.new {h : Heap} {a : Addr} {cA : ClassId} {ty : FieldType} {z : Int32} (A : Arr Z h a (newA cA ty z) ty) : Av Z h a ty (List.replicate z.toNatClampNeg (defaultValue ty)) := ⟨_, A, by simp [newA], by rw [List.length_replicate]; have := z.toInt_lt; simp only [Int32.toNatClampNeg]; omega, fun v hv => (List.eq_of_mem_replicate hv) ▸ fits_default ty⟩
theorem getD_toArray (vs : List Value) (i : Nat) (dv : Value) (hi : i < vs.length) : vs.toArray[i]? = some (vs.getD i dv) := by
  simp [List.getD_eq_getElem?_getD, List.getElem?_eq_getElem hi]
theorem len32 {n : Nat} (h : n < 2 ^ 31) : n.toInt32.toNatClampNeg = n ∧ ¬ n.toInt32 < 0 := by
  have e : n.toInt32.toInt = n := len_toInt (by omega)
  constructor
  · simp [Int32.toNatClampNeg, e]
  · rw [Int32.lt_iff_toInt_lt, e]; simp only [Int32.reduceToInt]; omega
theorem Av.arv {h : Heap} {a : Addr} {ty : FieldType} {vs : List Value} (dv : Value) (V : Av Z h a ty vs) : ∃ k, Arv Z h a k ty vs.length.toInt32 vs dv := by
  obtain ⟨cl, A, hs, hl, hq⟩ := V
  have e := len32 hl
  refine ⟨cl.cls, cl, A, rfl, by rw [e.1, hs]; simp, e.2, fun i hi => ?_, fun i hi => ?_⟩
  · rw [hs] at hi ⊢; exact getD_toArray vs i dv (by simpa using hi)
  · rw [hs] at hi
    have hi' : i < vs.length := by simpa using hi
    rw [List.getD_eq_getElem?_getD, List.getElem?_eq_getElem hi']
    exact hq _ (List.getElem_mem hi')
theorem Av.of_arv {h : Heap} {a : Addr} {k : ClassId} {ty : FieldType} {z : Int32} {vs : List Value} {dv : Value} (V : Arv Z h a k ty z vs dv) (hl : vs.length = z.toNatClampNeg) : Av Z h a ty vs := by
  obtain ⟨cl, A, -, hs, hz, hh, hf⟩ := V
  have e : cl.slots.size = vs.length := by rw [hs, hl]
  refine ⟨cl, A, ?_, by have := z.toInt_lt; rw [hl]; simp only [Int32.toNatClampNeg]; omega, fun v hv => ?_⟩
  · apply Array.ext_getElem?
    intro i
    by_cases hi : i < vs.length
    · rw [hh i (by omega)]; exact (getD_toArray vs i dv hi).symm
    · rw [Array.getElem?_eq_none (by omega), Array.getElem?_eq_none (by simpa using hi)]
  · obtain ⟨i, hi, rfl⟩ := List.getElem_of_mem hv
    have q := hf i (by omega)
    rwa [List.getD_eq_getElem?_getD, List.getElem?_eq_getElem hi] at q
theorem idx_n {j : Int32} {i : Nat} (hi : j.toInt = (i : Int)) : j.toNatClampNeg = i ∧ ¬ j < 0 := by
  constructor
  · simp [Int32.toNatClampNeg, hi]
  · rw [Int32.lt_iff_toInt_lt, hi]; simp only [Int32.reduceToInt]; omega
theorem s_newarr (C : Ctx p l e R s m args below meth c Z own cd maxL ret nm) {aty : ArrayType} {z : Int32} {k' n' cap : Nat} (hd : decode cd pc = .ok (.newarray aty, 2)) (hp : pc + 2 = pc') (w : (Jvm.Cond.arrayClass (newarray.typeOf aty)).before a0 Z = true) (hz : ¬ z < 0) (hcap : z.toNatClampNeg ≤ cap) (hcb : cap * 8 ≤ 536870912) (hk : k + 1 = k') (hk' : k' ≤ R.cells) (hn : n + cap = n') (hn' : n' ≤ R.slots) (vs : List Value) (hvs : List.replicate z.toNatClampNeg (defaultValue (newarray.typeOf aty)) = vs)
    (r : ∀ h' a, Ext h h' → a = h.size → Av Z h' a (newarray.typeOf aty) vs → Run p l e R s m args below meth c n0 P h' k' n' pc' Ls (.ref a :: st)) : Run p l e R s m args below meth c n0 P h k n pc Ls (.int z :: st) := by
  subst hp hk hn hvs
  intro T locs X eT N
  obtain ⟨T', h', cA, X', e', E, A, q⟩ := newP X C.1 C.2.1 w eT (g := mkF m pc Ls (.int z :: st)) rfl (hb C.2.2.1 hd) rfl hz hcap hcb hk' hn'
  obtain ⟨s₂, o, z, r⟩ := r h' _ E rfl (Av.new A) T' _ X' e' N
  exact ⟨s₂, o, q _ z, r⟩
theorem s_newarrE (C : Ctx p l e R s m args below meth c Z own cd maxL ret nm) {aty : ArrayType} {z : Int32} {k' n' cap : Nat} (hd : decode cd pc = .ok (.newarray aty, 2)) (hp : pc + 2 = pc') (w : (Jvm.Cond.arrayClass (newarray.typeOf aty)).before a0 Z = true) (hz : ¬ z < 0) (hcap : z.toNatClampNeg ≤ cap) (hcb : cap * 8 ≤ 536870912) (hk : k + 1 = k') (hk' : k' ≤ R.cells) (hn : n + cap = n') (hn' : n' ≤ R.slots) (vs : List Value) (hvs : List.replicate z.toNatClampNeg (defaultValue (newarray.typeOf aty)) = vs) (ad : String) (had : "[" ++ (newarray.typeOf aty).toString = ad)
    (r : ∀ h' a, Ext h h' → a = h.size → Av Z h' a (newarray.typeOf aty) vs → Exa Z h' a ad → Run p l e R s m args below meth c n0 P h' k' n' pc' Ls (.ref a :: st)) : Run p l e R s m args below meth c n0 P h k n pc Ls (.int z :: st) := by
  subst hp hk hn hvs
  intro T locs X eT N
  obtain ⟨T', h', cA, X', e', E, A, Ex, q⟩ := newPE X C.1 C.2.1 w eT (g := mkF m pc Ls (.int z :: st)) rfl (hb C.2.2.1 hd) rfl hz hcap hcb hk' hn' had
  obtain ⟨s₂, o, z, r⟩ := r h' _ E rfl (Av.new A) Ex T' _ X' e' N
  exact ⟨s₂, o, q _ z, r⟩
theorem s_newref (C : Ctx p l e R s m args below meth c Z own cd maxL ret nm) {K : String} {i : Nat} {z : Int32} {k' n' cap : Nat} (hd : decode cd pc = .ok (.anewarray i, 3)) (hp : pc + 3 = pc') (w1 : (Jvm.Cond.classLink own i K).before a0 Z = true) (w2 : (Jvm.Cond.arrayOver (.object K)).before a0 Z = true) (hz : ¬ z < 0) (hcap : z.toNatClampNeg ≤ cap) (hcb : cap * 8 ≤ 536870912) (hk : k + 1 = k') (hk' : k' ≤ R.cells) (hn : n + cap = n') (hn' : n' ≤ R.slots) (vs : List Value) (hvs : List.replicate z.toNatClampNeg Value.null = vs)
    (r : ∀ h' a cA, Ext h h' → a = h.size → Av Z h' a (.object K) vs → Arr Z h' a (newA cA (.object K) z) (.object K) → Ovr Z cA K → Run p l e R s m args below meth c n0 P h' k' n' pc' Ls (.ref a :: st)) : Run p l e R s m args below meth c n0 P h k n pc Ls (.int z :: st) := by
  subst hp hk hn hvs
  intro T locs X eT N
  obtain ⟨T', h', cA, X', e', E, A, O, q⟩ := newR X C.1 C.2.1 C.2.2.2.2.1 w1 w2 eT (g := mkF m pc Ls (.int z :: st)) rfl (hb C.2.2.1 hd) rfl hz hcap hcb hk' hn'
  obtain ⟨s₂, o, z, r⟩ := r h' _ cA E rfl (Av.new A) A O T' _ X' e' N
  exact ⟨s₂, o, q _ z, r⟩
theorem s_foldI (C : Ctx p l e R s m args below meth c Z own cd maxL ret nm) {x y : Int32} (hx : x = y) (r : Run p l e R s m args below meth c n0 P h k n pc Ls (.int y :: st)) : Run p l e R s m args below meth c n0 P h k n pc Ls (.int x :: st) := hx ▸ r
theorem s_foldL (C : Ctx p l e R s m args below meth c Z own cd maxL ret nm) {x y : Int64} (hx : x = y) (r : Run p l e R s m args below meth c n0 P h k n pc Ls (.long y :: st)) : Run p l e R s m args below meth c n0 P h k n pc Ls (.long x :: st) := hx ▸ r
theorem s_arraycopy (C : Ctx p l e R s m args below meth c Z own cd maxL ret nm) {i W : Nat} {ty : FieldType} {a b : Addr} {vs vd : List Value} {sp dp nn : Int32} (hd : decode cd pc = .ok (.invokestatic i, 3)) (hp : pc + 3 = pc') (w1 : (Jvm.Cond.methodLink own i Jvm.Stand.acN).before a0 Z = true) (w2 : (Jvm.Cond.native Jvm.Stand.acN).before a0 Z = true) (w3 : (Jvm.Cond.static Jvm.Stand.acN).before a0 Z = true) (w4 : (Jvm.Cond.initialized "java/lang/System").before a0 Z = true) (A : Av Z h a ty vs) (B : Av Z h b ty vd) (hty : refKind ty = false) (si di ni : Nat) (h1 : sp.toInt = (si : Int)) (h2 : dp.toInt = (di : Int)) (h3 : nn.toInt = (ni : Int)) (h4 : si + ni ≤ vs.length) (h5 : di + ni ≤ vd.length) (ge : n0 ≤ b) (hs : Ls.size = maxL) (hf : 1 ≤ R.frames) (hW : (st.map fun v => v.category).sum = W) (hlo : W + (nativeFrameWords "java/lang/System" "arraycopy" 5 + 11) ≤ R.locals) (vd' : List Value) (hvd : vd.take di ++ (vs.drop si).take ni ++ vd.drop (di + ni) = vd')
    (r : ∀ h', Keep h h' [b] → Av Z h' b ty vd' → Run p l e R s m args below meth c n0 P h' k n pc' Ls st) : Run p l e R s m args below meth c n0 P h k n pc Ls (.int nn :: .int dp :: .ref b :: .int sp :: .ref a :: st) := by
  subst hp hvd
  obtain ⟨e1, g1⟩ := idx_n h1
  obtain ⟨e2, g2⟩ := idx_n h2
  obtain ⟨e3, g3⟩ := idx_n h3
  have la := A
  have lb := B
  obtain ⟨_, -, -, la, -⟩ := la
  obtain ⟨_, -, -, lb, -⟩ := lb
  obtain ⟨ka, A'⟩ := A.arv Value.null
  obtain ⟨kb, B'⟩ := B.arv Value.null
  intro T locs X eT N
  have hus : (vs.drop si).take ni = (List.range nn.toNatClampNeg).map fun i => vs.getD (sp.toNatClampNeg + i) Value.null := by
    rw [e1, e3]
    apply List.ext_getElem
    · simp; omega
    · intro j q1 q2
      have q3 : j < ni := by simpa using q2
      simp [List.getD_eq_getElem?_getD, List.getElem?_eq_getElem (show si + j < vs.length by omega)]
  obtain ⟨T', h', L, X', e', N', K, V', q⟩ := cpA X C.1 C.2.1 C.2.2.2.2.1 w1 w2 w3 w4 eT A' B' (Or.inl ⟨rfl, hty⟩) g1 g2 g3 (by rw [e1, e3, (len32 la).1]; exact h4) (by rw [e2, e3, (len32 lb).1]; exact h5) hus (by rw [e2, e3]; exact h5) N ge (g := mkF m pc Ls (.int nn :: .int dp :: .ref b :: .int sp :: .ref a :: st)) rfl (by rw [C.2.2.2.1]; exact hs) rfl (hb C.2.2.1 hd) hf (W := W) (by show 2 * 0 + _ ≤ _; omega) hlo
  rw [e2, e3] at V'
  obtain ⟨s₂, o, z, r⟩ := r h' K (Av.of_arv V' (by rw [(len32 lb).1]; simp; omega)) T' _ X' e' N'
  exact ⟨s₂, o, q _ z, r⟩
theorem s_clone (C : Ctx p l e R s m args below meth c Z own cd maxL ret nm) {i W k' n' cap : Nat} {ty : FieldType} {ad : String} {a : Addr} {vs : List Value} (hd : decode cd pc = .ok (.invokevirtual i, 3)) (hp : pc + 3 = pc') (w1 : (Jvm.Cond.methodLink own i ⟨ad, "clone", "()Ljava/lang/Object;"⟩).before a0 Z = true) (w2 : (Jvm.Cond.sameMethod ad "java/lang/Object" "clone" "()Ljava/lang/Object;").before a0 Z = true) (w3 : (Jvm.Cond.native ⟨"java/lang/Object", "clone", "()Ljava/lang/Object;"⟩).before a0 Z = true) (w4 : (Jvm.Cond.instanceMethod ⟨"java/lang/Object", "clone", "()Ljava/lang/Object;"⟩).before a0 Z = true) (w5 : (Jvm.Cond.selects ad ⟨ad, "clone", "()Ljava/lang/Object;"⟩ ⟨"java/lang/Object", "clone", "()Ljava/lang/Object;"⟩).before a0 Z = true) (w6 : (Jvm.Cond.castable ad "java/lang/Cloneable").before a0 Z = true) (V : Av Z h a ty vs) (E : Exa Z h a ad) (hs : Ls.size = maxL) (hf : 1 ≤ R.frames) (hW : (st.map fun v => v.category).sum = W) (hl : W + 14 ≤ R.locals) (hcap : vs.length ≤ cap) (hk : k + 1 = k') (hk' : k' ≤ R.cells) (hn : n + cap = n') (hn' : n' ≤ R.slots)
    (r : ∀ h' b, Ext h h' → b = h.size → Av Z h' b ty vs → Exa Z h' b ad → Run p l e R s m args below meth c n0 P h' k' n' pc' Ls (.ref b :: st)) : Run p l e R s m args below meth c n0 P h k n pc Ls (.ref a :: st) := by
  subst hp hk hn
  have la := V
  obtain ⟨_, -, -, la, -⟩ := la
  obtain ⟨ka, A'⟩ := V.arv Value.null
  intro T locs X eT N
  obtain ⟨T', h', X', e', Ex, V', E', q⟩ := cloneH X C.1 C.2.1 C.2.2.2.2.1 w1 w2 w3 w4 w5 w6 eT A'.arh E (g := mkF m pc Ls (.ref a :: st)) rfl (by rw [C.2.2.2.1]; exact hs) rfl (hb C.2.2.1 hd) hf (W := W) (cap := cap) (by show 2 * 0 + _ ≤ _; omega) hl (by rw [(len32 la).1]; exact hcap) hk' hn'
  obtain ⟨s₂, o, z, r⟩ := r h' _ Ex rfl (Av.of_arv (dv := Value.null) V' (len32 la).1.symm) E' T' _ X' e' N
  exact ⟨s₂, o, q _ z, r⟩
theorem s_length (C : Ctx p l e R s m args below meth c Z own cd maxL ret nm) {ty : FieldType} {a : Addr} {vs : List Value} (hd : decode cd pc = .ok (.arraylength, 1)) (hp : pc + 1 = pc') (V : Av Z h a ty vs) (z : Int32) (hz : vs.length.toInt32 = z) (r : Run p l e R s m args below meth c n0 P h k n pc' Ls (.int z :: st)) : Run p l e R s m args below meth c n0 P h k n pc Ls (.ref a :: st) := by
  subst hp hz
  obtain ⟨cl, A, hs, hl, -⟩ := V
  have e1 : cl.slots.size = vs.length := by simp [hs]
  refine Run.pure (fun T locs X eT t z => X.arraylength C.1 (by rw [eT]; exact A.1) (State.isArrayOf_alike C.2.1.alike A.2.1) (g := mkF m pc Ls (.ref a :: st)) rfl rfl (hb C.2.2.1 hd) _ (by rw [e1]; exact z)) r
theorem s_iaload (C : Ctx p l e R s m args below meth c Z own cd maxL ret nm) {a : Addr} {vs : List Value} {j : Int32} {x : Int32} (hd : decode cd pc = .ok (.iaload, 1)) (hp : pc + 1 = pc') (V : Av Z h a .int vs) (i : Nat) (hi : j.toInt = (i : Int)) (hv : vs[i]? = some (.int x)) (r : Run p l e R s m args below meth c n0 P h k n pc' Ls ((.int x) :: st)) : Run p l e R s m args below meth c n0 P h k n pc Ls (.int j :: .ref a :: st) := by
  subst hp
  obtain ⟨cl, A, hs, hl, -⟩ := V
  obtain ⟨e1, e2⟩ := idx_n hi
  have e3 : i < vs.length := (List.getElem?_eq_some_iff.mp hv).1
  refine Run.pure (fun T locs X eT t z => X.iaload C.1 (by rw [eT]; exact A.1) (State.isArrayOf_alike C.2.1.alike A.2.1) A.2.2 (by rw [e1, hs]; rintro (q | q); exact e2 q; simp at q; omega) (by rw [e1, hs]; simpa using hv) (g := mkF m pc Ls (.int j :: .ref a :: st)) rfl rfl (hb C.2.2.1 hd) _ z) r
theorem s_laload (C : Ctx p l e R s m args below meth c Z own cd maxL ret nm) {a : Addr} {vs : List Value} {j : Int32} {x : Int64} (hd : decode cd pc = .ok (.laload, 1)) (hp : pc + 1 = pc') (V : Av Z h a .long vs) (i : Nat) (hi : j.toInt = (i : Int)) (hv : vs[i]? = some (.long x)) (r : Run p l e R s m args below meth c n0 P h k n pc' Ls ((.long x) :: st)) : Run p l e R s m args below meth c n0 P h k n pc Ls (.int j :: .ref a :: st) := by
  subst hp
  obtain ⟨cl, A, hs, hl, -⟩ := V
  obtain ⟨e1, e2⟩ := idx_n hi
  have e3 : i < vs.length := (List.getElem?_eq_some_iff.mp hv).1
  refine Run.pure (fun T locs X eT t z => X.laload C.1 (by rw [eT]; exact A.1) (State.isArrayOf_alike C.2.1.alike A.2.1) A.2.2 (by rw [e1, hs]; rintro (q | q); exact e2 q; simp at q; omega) (by rw [e1, hs]; simpa using hv) (g := mkF m pc Ls (.int j :: .ref a :: st)) rfl rfl (hb C.2.2.1 hd) _ z) r
theorem s_baload (C : Ctx p l e R s m args below meth c Z own cd maxL ret nm) {a : Addr} {vs : List Value} {j : Int32} {x : Int32} (hd : decode cd pc = .ok (.baload, 1)) (hp : pc + 1 = pc') (V : Av Z h a .byte vs) (i : Nat) (hi : j.toInt = (i : Int)) (hv : vs[i]? = some (.int x)) (r : Run p l e R s m args below meth c n0 P h k n pc' Ls ((.int x) :: st)) : Run p l e R s m args below meth c n0 P h k n pc Ls (.int j :: .ref a :: st) := by
  subst hp
  obtain ⟨cl, A, hs, hl, -⟩ := V
  obtain ⟨e1, e2⟩ := idx_n hi
  have e3 : i < vs.length := (List.getElem?_eq_some_iff.mp hv).1
  refine Run.pure (fun T locs X eT t z => X.baloadBytes C.1 (by rw [eT]; exact A.1) (State.isArrayOf_alike C.2.1.alike A.2.1) A.2.2 (by rw [e1, hs]; rintro (q | q); exact e2 q; simp at q; omega) (by rw [e1, hs]; simpa using hv) (g := mkF m pc Ls (.int j :: .ref a :: st)) rfl rfl (hb C.2.2.1 hd) _ z) r
theorem s_caload (C : Ctx p l e R s m args below meth c Z own cd maxL ret nm) {a : Addr} {vs : List Value} {j : Int32} {x : Int32} (hd : decode cd pc = .ok (.caload, 1)) (hp : pc + 1 = pc') (V : Av Z h a .char vs) (i : Nat) (hi : j.toInt = (i : Int)) (hv : vs[i]? = some (.int x)) (r : Run p l e R s m args below meth c n0 P h k n pc' Ls ((.int x) :: st)) : Run p l e R s m args below meth c n0 P h k n pc Ls (.int j :: .ref a :: st) := by
  subst hp
  obtain ⟨cl, A, hs, hl, -⟩ := V
  obtain ⟨e1, e2⟩ := idx_n hi
  have e3 : i < vs.length := (List.getElem?_eq_some_iff.mp hv).1
  refine Run.pure (fun T locs X eT t z => X.caload C.1 (by rw [eT]; exact A.1) (State.isArrayOf_alike C.2.1.alike A.2.1) A.2.2 (by rw [e1, hs]; rintro (q | q); exact e2 q; simp at q; omega) (by rw [e1, hs]; simpa using hv) (g := mkF m pc Ls (.int j :: .ref a :: st)) rfl rfl (hb C.2.2.1 hd) _ z) r
theorem s_aaload (C : Ctx p l e R s m args below meth c Z own cd maxL ret nm) {a : Addr} {vs : List Value} {j : Int32} {x : Value} {ty : FieldType} (hty : ty.isReference = true) (hd : decode cd pc = .ok (.aaload, 1)) (hp : pc + 1 = pc') (V : Av Z h a ty vs) (i : Nat) (hi : j.toInt = (i : Int)) (hv : vs[i]? = some x) (r : Run p l e R s m args below meth c n0 P h k n pc' Ls (x :: st)) : Run p l e R s m args below meth c n0 P h k n pc Ls (.int j :: .ref a :: st) := by
  subst hp
  obtain ⟨cl, A, hs, hl, -⟩ := V
  obtain ⟨e1, e2⟩ := idx_n hi
  have e3 : i < vs.length := (List.getElem?_eq_some_iff.mp hv).1
  refine Run.pure (fun T locs X eT t z => X.aaload C.1 (by rw [eT]; exact A.1) (State.isArrayOf_alike C.2.1.alike A.2.1) hty A.2.2 (by rw [e1, hs]; rintro (q | q); exact e2 q; simp at q; omega) (by rw [e1, hs]; simpa using hv) (g := mkF m pc Ls (.int j :: .ref a :: st)) rfl rfl (hb C.2.2.1 hd) _ z) r
theorem s_baloadC (C : Ctx p l e R s m args below meth c Z own cd maxL ret nm) {a : Addr} {cl : Cell} {j x : Int32} (hd : decode cd pc = .ok (.baload, 1)) (hp : pc + 1 = pc') (A : Arr Z h a cl .byte) (hin : ¬ (j < 0 ∨ cl.slots.size ≤ j.toNatClampNeg)) (hv : cl.slots[j.toNatClampNeg]? = some (.int x)) (r : Run p l e R s m args below meth c n0 P h k n pc' Ls (.int x :: st)) : Run p l e R s m args below meth c n0 P h k n pc Ls (.int j :: .ref a :: st) := by
  subst hp
  exact Run.pure (fun T locs X eT t z => X.baloadBytes C.1 (by rw [eT]; exact A.1) (State.isArrayOf_alike C.2.1.alike A.2.1) A.2.2 hin hv (g := mkF m pc Ls (.int j :: .ref a :: st)) rfl rfl (hb C.2.2.1 hd) _ z) r
theorem s_aaloadC (C : Ctx p l e R s m args below meth c Z own cd maxL ret nm) {a : Addr} {cl : Cell} {ty : FieldType} {j : Int32} {x : Value} (hty : ty.isReference = true) (hd : decode cd pc = .ok (.aaload, 1)) (hp : pc + 1 = pc') (A : Arr Z h a cl ty) (hin : ¬ (j < 0 ∨ cl.slots.size ≤ j.toNatClampNeg)) (hv : cl.slots[j.toNatClampNeg]? = some x) (r : Run p l e R s m args below meth c n0 P h k n pc' Ls (x :: st)) : Run p l e R s m args below meth c n0 P h k n pc Ls (.int j :: .ref a :: st) := by
  subst hp
  exact Run.pure (fun T locs X eT t z => X.aaload C.1 (by rw [eT]; exact A.1) (State.isArrayOf_alike C.2.1.alike A.2.1) hty A.2.2 hin hv (g := mkF m pc Ls (.int j :: .ref a :: st)) rfl rfl (hb C.2.2.1 hd) _ z) r
theorem s_iastore (C : Ctx p l e R s m args below meth c Z own cd maxL ret nm) {a : Addr} {vs : List Value} {j : Int32} {x : Int32} (hd : decode cd pc = .ok (.iastore, 1)) (hp : pc + 1 = pc') (V : Av Z h a .int vs) (i : Nat) (hi : j.toInt = (i : Int)) (hlt : i < vs.length) (ha : n0 ≤ a) (vs' : List Value) (hvs : vs.set i (.int x) = vs') (r : ∀ h', Wr h h' a i (.int x) → Av Z h' a .int vs' → Run p l e R s m args below meth c n0 P h' k n pc' Ls st) : Run p l e R s m args below meth c n0 P h k n pc Ls ((.int x) :: .int j :: .ref a :: st) := by
  subst hp hvs
  have V0 := V
  obtain ⟨cl, A, hs, hl, -⟩ := V
  obtain ⟨e1, e2⟩ := idx_n hi
  subst e1
  intro T locs X eT N
  obtain ⟨T', h', X', e', W, q⟩ := stI X C.1 C.2.1 eT A (j := j) (by rw [hs]; rintro (q | q); exact e2 q; simp at q; omega) (g := mkF m pc Ls ((.int x) :: .int j :: .ref a :: st)) rfl rfl (hb C.2.2.1 hd)
  obtain ⟨s₂, o, z, r⟩ := r h' W (V0.set W rfl) T' _ X' e' (Fr.snoc X' N ha)
  exact ⟨s₂, o, q _ z, r⟩
theorem s_lastore (C : Ctx p l e R s m args below meth c Z own cd maxL ret nm) {a : Addr} {vs : List Value} {j : Int32} {x : Int64} (hd : decode cd pc = .ok (.lastore, 1)) (hp : pc + 1 = pc') (V : Av Z h a .long vs) (i : Nat) (hi : j.toInt = (i : Int)) (hlt : i < vs.length) (ha : n0 ≤ a) (vs' : List Value) (hvs : vs.set i (.long x) = vs') (r : ∀ h', Wr h h' a i (.long x) → Av Z h' a .long vs' → Run p l e R s m args below meth c n0 P h' k n pc' Ls st) : Run p l e R s m args below meth c n0 P h k n pc Ls ((.long x) :: .int j :: .ref a :: st) := by
  subst hp hvs
  have V0 := V
  obtain ⟨cl, A, hs, hl, -⟩ := V
  obtain ⟨e1, e2⟩ := idx_n hi
  subst e1
  intro T locs X eT N
  obtain ⟨T', h', X', e', W, q⟩ := stJ X C.1 C.2.1 eT A (j := j) (by rw [hs]; rintro (q | q); exact e2 q; simp at q; omega) (g := mkF m pc Ls ((.long x) :: .int j :: .ref a :: st)) rfl rfl (hb C.2.2.1 hd)
  obtain ⟨s₂, o, z, r⟩ := r h' W (V0.set W rfl) T' _ X' e' (Fr.snoc X' N ha)
  exact ⟨s₂, o, q _ z, r⟩
theorem s_bastore (C : Ctx p l e R s m args below meth c Z own cd maxL ret nm) {a : Addr} {vs : List Value} {j : Int32} {x : Int32} (hd : decode cd pc = .ok (.bastore, 1)) (hp : pc + 1 = pc') (V : Av Z h a .byte vs) (i : Nat) (hi : j.toInt = (i : Int)) (hlt : i < vs.length) (ha : n0 ≤ a) (vs' : List Value) (hvs : vs.set i (.int x.toInt8.toInt32) = vs') (r : ∀ h', Wr h h' a i (.int x.toInt8.toInt32) → Av Z h' a .byte vs' → Run p l e R s m args below meth c n0 P h' k n pc' Ls st) : Run p l e R s m args below meth c n0 P h k n pc Ls ((.int x) :: .int j :: .ref a :: st) := by
  subst hp hvs
  have V0 := V
  obtain ⟨cl, A, hs, hl, -⟩ := V
  obtain ⟨e1, e2⟩ := idx_n hi
  subst e1
  intro T locs X eT N
  obtain ⟨T', h', X', e', W, q⟩ := stB X C.1 C.2.1 eT A (j := j) (by rw [hs]; rintro (q | q); exact e2 q; simp at q; omega) (g := mkF m pc Ls ((.int x) :: .int j :: .ref a :: st)) rfl rfl (hb C.2.2.1 hd)
  obtain ⟨s₂, o, z, r⟩ := r h' W (V0.set W (fits_nar_byte _)) T' _ X' e' (Fr.snoc X' N ha)
  exact ⟨s₂, o, q _ z, r⟩
theorem s_castore (C : Ctx p l e R s m args below meth c Z own cd maxL ret nm) {a : Addr} {vs : List Value} {j : Int32} {x : Int32} (hd : decode cd pc = .ok (.castore, 1)) (hp : pc + 1 = pc') (V : Av Z h a .char vs) (i : Nat) (hi : j.toInt = (i : Int)) (hlt : i < vs.length) (ha : n0 ≤ a) (vs' : List Value) (hvs : vs.set i (.int x.toUInt32.toUInt16.toUInt32.toInt32) = vs') (r : ∀ h', Wr h h' a i (.int x.toUInt32.toUInt16.toUInt32.toInt32) → Av Z h' a .char vs' → Run p l e R s m args below meth c n0 P h' k n pc' Ls st) : Run p l e R s m args below meth c n0 P h k n pc Ls ((.int x) :: .int j :: .ref a :: st) := by
  subst hp hvs
  have V0 := V
  obtain ⟨cl, A, hs, hl, -⟩ := V
  obtain ⟨e1, e2⟩ := idx_n hi
  subst e1
  intro T locs X eT N
  obtain ⟨T', h', X', e', W, q⟩ := stC X C.1 C.2.1 eT A (j := j) (by rw [hs]; rintro (q | q); exact e2 q; simp at q; omega) (g := mkF m pc Ls ((.int x) :: .int j :: .ref a :: st)) rfl rfl (hb C.2.2.1 hd)
  obtain ⟨s₂, o, z, r⟩ := r h' W (V0.set W (fits_nar_char _)) T' _ X' e' (Fr.snoc X' N ha)
  exact ⟨s₂, o, q _ z, r⟩
end Steps
end Own
end Jvm.Pilot.@@N@@

namespace Jvm.Pilot.@@N@@
open Jvm Jvm.ClassFile Sem Op Lib Jvm.Free Jvm.Stand Jvm.LawKit Jvm.RoadKit Bundle Jvm.Pilot.@@N@@.Jvm.D
namespace Own
abbrev Hw (a0 : Array Value) (Z : State) : Prop := ∀ d ∈ tables_1, d.before a0 Z = true
theorem w0 {a0 : Array Value} {Z : State} (hw : Hw a0 Z) : (Jvm.Cond.arrayClass Jvm.ClassFile.FieldType.long).before a0 Z = true := hw _ (List.mem_of_getElem? (i := 0) rfl)
theorem w1 {a0 : Array Value} {Z : State} (hw : Hw a0 Z) : (Jvm.Cond.constantLong "org/subveil/Curve25519FieldSelectPinLaw" (7 : Nat) (-1 : Int64)).before a0 Z = true := hw _ (List.mem_of_getElem? (i := 1) rfl)
theorem w2 {a0 : Array Value} {Z : State} (hw : Hw a0 Z) : (Jvm.Cond.methodLink "org/subveil/Curve25519FieldSelectPinLaw" (9 : Nat) ({ cls := "org/subveil/Curve25519Field", name := "select", desc := "([JJ[J[J)V" } : Jvm.MethodName)).before a0 Z = true := hw _ (List.mem_of_getElem? (i := 2) rfl)
theorem w3 {a0 : Array Value} {Z : State} (hw : Hw a0 Z) : (Jvm.Cond.static ({ cls := "org/subveil/Curve25519Field", name := "select", desc := "([JJ[J[J)V" } : Jvm.MethodName)).before a0 Z = true := hw _ (List.mem_of_getElem? (i := 3) rfl)
theorem w4 {a0 : Array Value} {Z : State} (hw : Hw a0 Z) : (Jvm.Cond.initialized "org/subveil/Curve25519Field").before a0 Z = true := hw _ (List.mem_of_getElem? (i := 4) rfl)
theorem w5 {a0 : Array Value} {Z : State} (hw : Hw a0 Z) : (Jvm.Cond.code ({ cls := "org/subveil/Curve25519Field", name := "select", desc := "([JJ[J[J)V" } : Jvm.MethodName) prog_3_method_6_code (8 : Nat) (Option.none : Option Jvm.ClassFile.FieldType)).before a0 Z = true := hw _ (List.mem_of_getElem? (i := 5) rfl)
theorem ef1 (m : MethodId) (x0 : Addr) (x1 : Int64) (x2 : Addr) (x3 : Addr) : entryFrame m #[(.ref x0), (.long x1), (.ref x2), (.ref x3)] 8 = mkF m 0 #[.val (.ref x0), .val (.long x1), .second, .val (.ref x2), .val (.ref x3), .unset, .unset, .unset] [] := by first | (simp [entryFrame, mkF, argsToLocals, Value.category]; done) | rfl
theorem pn1 : plainFor (⟨"org/subveil/Curve25519Field", "select", "([JJ[J[J)V"⟩ : MethodName) = true := plainFor_of_name (by first | (simp [plainName, overriddenIn]; done) | decide +kernel)
theorem d1_0 : decode prog_3_method_6_code 0 = .ok (.lload_n 1, 1) := by decide +kernel
theorem d1_1 : decode prog_3_method_6_code 1 = .ok (.lneg, 1) := by decide +kernel
theorem d1_2 : decode prog_3_method_6_code 2 = .ok (.lstore 5, 2) := by decide +kernel
theorem d1_4 : decode prog_3_method_6_code 4 = .ok (.iconst 0, 1) := by decide +kernel
theorem d1_5 : decode prog_3_method_6_code 5 = .ok (.istore 7, 2) := by decide +kernel
theorem d1_7 : decode prog_3_method_6_code 7 = .ok (.iload 7, 2) := by decide +kernel
theorem d1_9 : decode prog_3_method_6_code 9 = .ok (.iconst 5, 1) := by decide +kernel
theorem d1_10 : decode prog_3_method_6_code 10 = .ok (.if_icmp .ge 31, 3) := by decide +kernel
theorem d1_13 : decode prog_3_method_6_code 13 = .ok (.aload_n 0, 1) := by decide +kernel
theorem d1_14 : decode prog_3_method_6_code 14 = .ok (.iload 7, 2) := by decide +kernel
theorem d1_16 : decode prog_3_method_6_code 16 = .ok (.aload_n 3, 1) := by decide +kernel
theorem d1_17 : decode prog_3_method_6_code 17 = .ok (.iload 7, 2) := by decide +kernel
theorem d1_19 : decode prog_3_method_6_code 19 = .ok (.laload, 1) := by decide +kernel
theorem d1_20 : decode prog_3_method_6_code 20 = .ok (.aload_n 3, 1) := by decide +kernel
theorem d1_21 : decode prog_3_method_6_code 21 = .ok (.iload 7, 2) := by decide +kernel
theorem d1_23 : decode prog_3_method_6_code 23 = .ok (.laload, 1) := by decide +kernel
theorem d1_24 : decode prog_3_method_6_code 24 = .ok (.aload 4, 2) := by decide +kernel
theorem d1_26 : decode prog_3_method_6_code 26 = .ok (.iload 7, 2) := by decide +kernel
theorem d1_28 : decode prog_3_method_6_code 28 = .ok (.laload, 1) := by decide +kernel
theorem d1_29 : decode prog_3_method_6_code 29 = .ok (.lxor, 1) := by decide +kernel
theorem d1_30 : decode prog_3_method_6_code 30 = .ok (.lload 5, 2) := by decide +kernel
theorem d1_32 : decode prog_3_method_6_code 32 = .ok (.land, 1) := by decide +kernel
theorem d1_33 : decode prog_3_method_6_code 33 = .ok (.lxor, 1) := by decide +kernel
theorem d1_34 : decode prog_3_method_6_code 34 = .ok (.lastore, 1) := by decide +kernel
theorem d1_35 : decode prog_3_method_6_code 35 = .ok (.iinc 7 1, 3) := by decide +kernel
theorem d1_38 : decode prog_3_method_6_code 38 = .ok (.goto (-31), 3) := by decide +kernel
theorem d1_41 : decode prog_3_method_6_code 41 = .ok (.return_, 1) := by decide +kernel
theorem ef0 (m : MethodId) (x0 : Int64) (x1 : Int64) (x2 : Int64) (x3 : Int64) (x4 : Int64) (x5 : Int32) : entryFrame m #[(.long x0), (.long x1), (.long x2), (.long x3), (.long x4), (.int x5)] maxLocals = mkF m 0 #[.val (.long x0), .second, .val (.long x1), .second, .val (.long x2), .second, .val (.long x3), .second, .val (.long x4), .second, .val (.int x5), .unset, .unset, .unset, .unset, .unset, .unset, .unset, .unset, .unset, .unset, .unset, .unset, .unset, .unset, .unset, .unset, .unset, .unset, .unset, .unset, .unset] [] := by first | (simp [entryFrame, mkF, argsToLocals, Value.category, maxLocals]; done) | rfl
theorem pn0 : plainFor (⟨"org/subveil/Curve25519FieldSelectPinLaw", "law", "(JJJJJI)Z"⟩ : MethodName) = true := plainFor_of_name (by first | (simp [plainName, overriddenIn]; done) | decide +kernel)
theorem pd0 : parseMethodDescriptor "([JJ[J[J)V" = some ⟨[(.array .long), .long, (.array .long), (.array .long)], none⟩ := by decide +kernel

theorem own_bit (m : Int32) : (m &&& 1).toInt64 = 0 ∨ (m &&& 1).toInt64 = 1 := by
  have e : (m &&& 1).toInt = m.toInt % (2 ^ 1 : Nat) := c_mask m 1 1 (by decide) (by decide)
  rcases (show (m &&& 1).toInt = 0 ∨ (m &&& 1).toInt = 1 by omega) with q | q
  · exact Or.inl (Int64.toInt_inj.mp (by rw [Int32.toInt_toInt64, q]; decide))
  · exact Or.inr (Int64.toInt_inj.mp (by rw [Int32.toInt_toInt64, q]; decide))
theorem own_x0 (x y s : Int64) (h : s = 0) : x ^^^ ((x ^^^ y) &&& (-s)) = x := by
  subst h
  rw [show (-(0 : Int64)) = 0 from by decide, Int64.and_zero, Int64.xor_zero]
theorem own_y0 (x y s : Int64) (h : s = 0) : y ^^^ ((x ^^^ y) &&& (-s)) = y := by
  subst h
  rw [show (-(0 : Int64)) = 0 from by decide, Int64.and_zero, Int64.xor_zero]
theorem own_x1 (x y s : Int64) (h : s = 1) : x ^^^ ((x ^^^ y) &&& (-s)) = y := by
  subst h
  rw [show (-(1 : Int64)) = -1 from by decide, Int64.and_neg_one, ← Int64.xor_assoc, Int64.xor_self, Int64.zero_xor]
theorem own_y1 (x y s : Int64) (h : s = 1) : y ^^^ ((x ^^^ y) &&& (-s)) = x := by
  subst h
  rw [show (-(1 : Int64)) = -1 from by decide, Int64.and_neg_one, Int64.xor_comm x y, ← Int64.xor_assoc, Int64.xor_self, Int64.zero_xor]
theorem own_not1 {s : Int64} (h : s = 0 ∨ s = 1) (q : ¬ s = 1) : s = 0 := h.resolve_right q

set_option maxRecDepth 65536 in
set_option maxHeartbeats 40000000 in
theorem c_self (l : Launch) (Z : State) (a0 : Array Value) (hw : Hw a0 Z) (r : Addr) (s1 : Int64) (a b : Addr) (u0 u1 u2 u3 u4 w0 w1 w2 w3 w4 t0 t1 t2 t3 t4 : Int64) (h0 : Heap) (n0 : Nat) (Z0 : n0 ≤ h0.size) (hne : a ≠ b) (g_r : n0 ≤ r) (V_a : Av Z h0 a .long [(.long u0), (.long u1), (.long u2), (.long u3), (.long u4)]) (V_b : Av Z h0 b .long [(.long w0), (.long w1), (.long w2), (.long w3), (.long w4)]) (V_r : Av Z h0 r .long [(.long t0), (.long t1), (.long t2), (.long t3), (.long t4)]) (hra : a ≠ r) (hrb : b ≠ r) :
    Met l Z (⟨"org/subveil/Curve25519Field", "select", "([JJ[J[J)V"⟩ : MethodName) prog_3_method_6_code 8 none [] ({ frames := 0, cells := 0, slots := 0, locals := 0 } : Room) #[(.ref r), (.long s1), (.ref a), (.ref b)] h0 n0 (Ret0 (fun h => Keep h0 h [r] ∧ Av Z h r .long [(.long (u0 ^^^ ((u0 ^^^ w0) &&& (-s1)))), (.long (u1 ^^^ ((u1 ^^^ w1) &&& (-s1)))), (.long (u2 ^^^ ((u2 ^^^ w2) &&& (-s1)))), (.long (u3 ^^^ ((u3 ^^^ w3) &&& (-s1)))), (.long (u4 ^^^ ((u4 ^^^ w4) &&& (-s1))))])) := by
  refine Met.intro pn1 (own := "org/subveil/Curve25519Field") rfl (nm := "select") rfl (fun m => ef1 m r s1 a b) ?_
  intro p e s m below meth c C
  refine s_lloadN C d1_0 (pc' := 1) rfl rfl ?_
  refine s_lneg C d1_1 (pc' := 2) rfl ?_
  refine s_lstoreP C d1_2 (pc' := 4) rfl #[.val (.ref r), .val (.long s1), .second, .val (.ref a), .val (.ref b), .val (.long (-s1)), .second, .unset] rfl ?_
  refine s_iconst C d1_4 (pc' := 5) rfl (0 : Int32) rfl ?_
  refine s_istoreP C d1_5 (pc' := 7) rfl #[.val (.ref r), .val (.long s1), .second, .val (.ref a), .val (.ref b), .val (.long (-s1)), .second, .val (.int (0 : Int32))] rfl ?_
  refine s_iload C d1_7 (pc' := 9) rfl rfl ?_
  refine s_iconst C d1_9 (pc' := 10) rfl (5 : Int32) rfl ?_
  refine s_icmp_ge C d1_10 (pc' := 13) rfl (pcY := 41) rfl (fun hc => by exfalso; revert hc; decide) (fun c1 => ?_)
  refine s_aloadN C d1_13 (pc' := 14) rfl rfl rfl ?_
  refine s_iload C d1_14 (pc' := 16) rfl rfl ?_
  refine s_aloadN C d1_16 (pc' := 17) rfl rfl rfl ?_
  refine s_iload C d1_17 (pc' := 19) rfl rfl ?_
  refine s_laload C d1_19 (pc' := 20) rfl V_a 0 (by decide) rfl ?_
  refine s_aloadN C d1_20 (pc' := 21) rfl rfl rfl ?_
  refine s_iload C d1_21 (pc' := 23) rfl rfl ?_
  refine s_laload C d1_23 (pc' := 24) rfl V_a 0 (by decide) rfl ?_
  refine s_aload C d1_24 (pc' := 26) rfl rfl rfl ?_
  refine s_iload C d1_26 (pc' := 28) rfl rfl ?_
  refine s_laload C d1_28 (pc' := 29) rfl V_b 0 (by decide) rfl ?_
  refine s_lxor C d1_29 (pc' := 30) rfl ?_
  refine s_lload C d1_30 (pc' := 32) rfl rfl ?_
  refine s_land C d1_32 (pc' := 33) rfl ?_
  refine s_lxor C d1_33 (pc' := 34) rfl ?_
  refine s_lastore C d1_34 (pc' := 35) rfl V_r 0 (by decide) (Nat.le_of_ble_eq_true rfl) g_r [(.long (u0 ^^^ ((u0 ^^^ w0) &&& (-s1)))), (.long t1), (.long t2), (.long t3), (.long t4)] rfl (fun h2 W2 A2 => ?_)
  have sz3 : n0 ≤ h2.size := (Nat.le_trans Z0 (Nat.le_of_eq W2.size.symm))
  have Kp4 : Keep h0 h2 [r] := (Keep.refl h0 [r]).wr W2 (Or.inl (List.mem_of_getElem? (i := 0) rfl))
  refine s_iincP C d1_35 (pc' := 38) rfl rfl (1 : Int32) rfl #[.val (.ref r), .val (.long s1), .second, .val (.ref a), .val (.ref b), .val (.long (-s1)), .second, .val (.int (1 : Int32))] rfl ?_
  refine s_goto C d1_38 (pc' := 7) rfl ?_
  refine s_iload C d1_7 (pc' := 9) rfl rfl ?_
  refine s_iconst C d1_9 (pc' := 10) rfl (5 : Int32) rfl ?_
  refine s_icmp_ge C d1_10 (pc' := 13) rfl (pcY := 41) rfl (fun hc => by exfalso; revert hc; decide) (fun c6 => ?_)
  refine s_aloadN C d1_13 (pc' := 14) rfl rfl rfl ?_
  refine s_iload C d1_14 (pc' := 16) rfl rfl ?_
  refine s_aloadN C d1_16 (pc' := 17) rfl rfl rfl ?_
  refine s_iload C d1_17 (pc' := 19) rfl rfl ?_
  have Vx7 := (V_a.other W2 hra)
  refine s_laload C d1_19 (pc' := 20) rfl Vx7 1 (by decide) rfl ?_
  refine s_aloadN C d1_20 (pc' := 21) rfl rfl rfl ?_
  refine s_iload C d1_21 (pc' := 23) rfl rfl ?_
  refine s_laload C d1_23 (pc' := 24) rfl Vx7 1 (by decide) rfl ?_
  refine s_aload C d1_24 (pc' := 26) rfl rfl rfl ?_
  refine s_iload C d1_26 (pc' := 28) rfl rfl ?_
  have Vx8 := (V_b.other W2 hrb)
  refine s_laload C d1_28 (pc' := 29) rfl Vx8 1 (by decide) rfl ?_
  refine s_lxor C d1_29 (pc' := 30) rfl ?_
  refine s_lload C d1_30 (pc' := 32) rfl rfl ?_
  refine s_land C d1_32 (pc' := 33) rfl ?_
  refine s_lxor C d1_33 (pc' := 34) rfl ?_
  refine s_lastore C d1_34 (pc' := 35) rfl A2 1 (by decide) (Nat.le_of_ble_eq_true rfl) g_r [(.long (u0 ^^^ ((u0 ^^^ w0) &&& (-s1)))), (.long (u1 ^^^ ((u1 ^^^ w1) &&& (-s1)))), (.long t2), (.long t3), (.long t4)] rfl (fun h9 W9 A9 => ?_)
  have sz10 : n0 ≤ h9.size := (Nat.le_trans sz3 (Nat.le_of_eq W9.size.symm))
  have Kp11 : Keep h0 h9 [r] := Kp4.wr W9 (Or.inl (List.mem_of_getElem? (i := 0) rfl))
  refine s_iincP C d1_35 (pc' := 38) rfl rfl (2 : Int32) rfl #[.val (.ref r), .val (.long s1), .second, .val (.ref a), .val (.ref b), .val (.long (-s1)), .second, .val (.int (2 : Int32))] rfl ?_
  refine s_goto C d1_38 (pc' := 7) rfl ?_
  refine s_iload C d1_7 (pc' := 9) rfl rfl ?_
  refine s_iconst C d1_9 (pc' := 10) rfl (5 : Int32) rfl ?_
  refine s_icmp_ge C d1_10 (pc' := 13) rfl (pcY := 41) rfl (fun hc => by exfalso; revert hc; decide) (fun c13 => ?_)
  refine s_aloadN C d1_13 (pc' := 14) rfl rfl rfl ?_
  refine s_iload C d1_14 (pc' := 16) rfl rfl ?_
  refine s_aloadN C d1_16 (pc' := 17) rfl rfl rfl ?_
  refine s_iload C d1_17 (pc' := 19) rfl rfl ?_
  have Vx14 := (Vx7.other W9 hra)
  refine s_laload C d1_19 (pc' := 20) rfl Vx14 2 (by decide) rfl ?_
  refine s_aloadN C d1_20 (pc' := 21) rfl rfl rfl ?_
  refine s_iload C d1_21 (pc' := 23) rfl rfl ?_
  refine s_laload C d1_23 (pc' := 24) rfl Vx14 2 (by decide) rfl ?_
  refine s_aload C d1_24 (pc' := 26) rfl rfl rfl ?_
  refine s_iload C d1_26 (pc' := 28) rfl rfl ?_
  have Vx15 := (Vx8.other W9 hrb)
  refine s_laload C d1_28 (pc' := 29) rfl Vx15 2 (by decide) rfl ?_
  refine s_lxor C d1_29 (pc' := 30) rfl ?_
  refine s_lload C d1_30 (pc' := 32) rfl rfl ?_
  refine s_land C d1_32 (pc' := 33) rfl ?_
  refine s_lxor C d1_33 (pc' := 34) rfl ?_
  refine s_lastore C d1_34 (pc' := 35) rfl A9 2 (by decide) (Nat.le_of_ble_eq_true rfl) g_r [(.long (u0 ^^^ ((u0 ^^^ w0) &&& (-s1)))), (.long (u1 ^^^ ((u1 ^^^ w1) &&& (-s1)))), (.long (u2 ^^^ ((u2 ^^^ w2) &&& (-s1)))), (.long t3), (.long t4)] rfl (fun h16 W16 A16 => ?_)
  have sz17 : n0 ≤ h16.size := (Nat.le_trans sz10 (Nat.le_of_eq W16.size.symm))
  have Kp18 : Keep h0 h16 [r] := Kp11.wr W16 (Or.inl (List.mem_of_getElem? (i := 0) rfl))
  refine s_iincP C d1_35 (pc' := 38) rfl rfl (3 : Int32) rfl #[.val (.ref r), .val (.long s1), .second, .val (.ref a), .val (.ref b), .val (.long (-s1)), .second, .val (.int (3 : Int32))] rfl ?_
  refine s_goto C d1_38 (pc' := 7) rfl ?_
  refine s_iload C d1_7 (pc' := 9) rfl rfl ?_
  refine s_iconst C d1_9 (pc' := 10) rfl (5 : Int32) rfl ?_
  refine s_icmp_ge C d1_10 (pc' := 13) rfl (pcY := 41) rfl (fun hc => by exfalso; revert hc; decide) (fun c20 => ?_)
  refine s_aloadN C d1_13 (pc' := 14) rfl rfl rfl ?_
  refine s_iload C d1_14 (pc' := 16) rfl rfl ?_
  refine s_aloadN C d1_16 (pc' := 17) rfl rfl rfl ?_
  refine s_iload C d1_17 (pc' := 19) rfl rfl ?_
  have Vx21 := (Vx14.other W16 hra)
  refine s_laload C d1_19 (pc' := 20) rfl Vx21 3 (by decide) rfl ?_
  refine s_aloadN C d1_20 (pc' := 21) rfl rfl rfl ?_
  refine s_iload C d1_21 (pc' := 23) rfl rfl ?_
  refine s_laload C d1_23 (pc' := 24) rfl Vx21 3 (by decide) rfl ?_
  refine s_aload C d1_24 (pc' := 26) rfl rfl rfl ?_
  refine s_iload C d1_26 (pc' := 28) rfl rfl ?_
  have Vx22 := (Vx15.other W16 hrb)
  refine s_laload C d1_28 (pc' := 29) rfl Vx22 3 (by decide) rfl ?_
  refine s_lxor C d1_29 (pc' := 30) rfl ?_
  refine s_lload C d1_30 (pc' := 32) rfl rfl ?_
  refine s_land C d1_32 (pc' := 33) rfl ?_
  refine s_lxor C d1_33 (pc' := 34) rfl ?_
  refine s_lastore C d1_34 (pc' := 35) rfl A16 3 (by decide) (Nat.le_of_ble_eq_true rfl) g_r [(.long (u0 ^^^ ((u0 ^^^ w0) &&& (-s1)))), (.long (u1 ^^^ ((u1 ^^^ w1) &&& (-s1)))), (.long (u2 ^^^ ((u2 ^^^ w2) &&& (-s1)))), (.long (u3 ^^^ ((u3 ^^^ w3) &&& (-s1)))), (.long t4)] rfl (fun h23 W23 A23 => ?_)
  have sz24 : n0 ≤ h23.size := (Nat.le_trans sz17 (Nat.le_of_eq W23.size.symm))
  have Kp25 : Keep h0 h23 [r] := Kp18.wr W23 (Or.inl (List.mem_of_getElem? (i := 0) rfl))
  refine s_iincP C d1_35 (pc' := 38) rfl rfl (4 : Int32) rfl #[.val (.ref r), .val (.long s1), .second, .val (.ref a), .val (.ref b), .val (.long (-s1)), .second, .val (.int (4 : Int32))] rfl ?_
  refine s_goto C d1_38 (pc' := 7) rfl ?_
  refine s_iload C d1_7 (pc' := 9) rfl rfl ?_
  refine s_iconst C d1_9 (pc' := 10) rfl (5 : Int32) rfl ?_
  refine s_icmp_ge C d1_10 (pc' := 13) rfl (pcY := 41) rfl (fun hc => by exfalso; revert hc; decide) (fun c27 => ?_)
  refine s_aloadN C d1_13 (pc' := 14) rfl rfl rfl ?_
  refine s_iload C d1_14 (pc' := 16) rfl rfl ?_
  refine s_aloadN C d1_16 (pc' := 17) rfl rfl rfl ?_
  refine s_iload C d1_17 (pc' := 19) rfl rfl ?_
  have Vx28 := (Vx21.other W23 hra)
  refine s_laload C d1_19 (pc' := 20) rfl Vx28 4 (by decide) rfl ?_
  refine s_aloadN C d1_20 (pc' := 21) rfl rfl rfl ?_
  refine s_iload C d1_21 (pc' := 23) rfl rfl ?_
  refine s_laload C d1_23 (pc' := 24) rfl Vx28 4 (by decide) rfl ?_
  refine s_aload C d1_24 (pc' := 26) rfl rfl rfl ?_
  refine s_iload C d1_26 (pc' := 28) rfl rfl ?_
  have Vx29 := (Vx22.other W23 hrb)
  refine s_laload C d1_28 (pc' := 29) rfl Vx29 4 (by decide) rfl ?_
  refine s_lxor C d1_29 (pc' := 30) rfl ?_
  refine s_lload C d1_30 (pc' := 32) rfl rfl ?_
  refine s_land C d1_32 (pc' := 33) rfl ?_
  refine s_lxor C d1_33 (pc' := 34) rfl ?_
  refine s_lastore C d1_34 (pc' := 35) rfl A23 4 (by decide) (Nat.le_of_ble_eq_true rfl) g_r [(.long (u0 ^^^ ((u0 ^^^ w0) &&& (-s1)))), (.long (u1 ^^^ ((u1 ^^^ w1) &&& (-s1)))), (.long (u2 ^^^ ((u2 ^^^ w2) &&& (-s1)))), (.long (u3 ^^^ ((u3 ^^^ w3) &&& (-s1)))), (.long (u4 ^^^ ((u4 ^^^ w4) &&& (-s1))))] rfl (fun h30 W30 A30 => ?_)
  have sz31 : n0 ≤ h30.size := (Nat.le_trans sz24 (Nat.le_of_eq W30.size.symm))
  have Kp32 : Keep h0 h30 [r] := Kp25.wr W30 (Or.inl (List.mem_of_getElem? (i := 0) rfl))
  refine s_iincP C d1_35 (pc' := 38) rfl rfl (5 : Int32) rfl #[.val (.ref r), .val (.long s1), .second, .val (.ref a), .val (.ref b), .val (.long (-s1)), .second, .val (.int (5 : Int32))] rfl ?_
  refine s_goto C d1_38 (pc' := 7) rfl ?_
  refine s_iload C d1_7 (pc' := 9) rfl rfl ?_
  refine s_iconst C d1_9 (pc' := 10) rfl (5 : Int32) rfl ?_
  refine s_icmp_ge C d1_10 (pc' := 13) rfl (pcY := 41) rfl (fun c34 => ?_) (fun hc => by exfalso; revert hc; decide)
  exact s_ret0 C d1_41 (by decide) (by decide) ⟨Kp32, A30⟩
set_option maxRecDepth 65536 in
set_option maxHeartbeats 40000000 in
theorem c_sela (l : Launch) (Z : State) (a0 : Array Value) (hw : Hw a0 Z) (s1 : Int64) (a b : Addr) (u0 u1 u2 u3 u4 w0 w1 w2 w3 w4 : Int64) (h0 : Heap) (n0 : Nat) (Z0 : n0 ≤ h0.size) (hne : a ≠ b) (g_r : n0 ≤ a) (V_a : Av Z h0 a .long [(.long u0), (.long u1), (.long u2), (.long u3), (.long u4)]) (V_b : Av Z h0 b .long [(.long w0), (.long w1), (.long w2), (.long w3), (.long w4)]) :
    Met l Z (⟨"org/subveil/Curve25519Field", "select", "([JJ[J[J)V"⟩ : MethodName) prog_3_method_6_code 8 none [] ({ frames := 0, cells := 0, slots := 0, locals := 0 } : Room) #[(.ref a), (.long s1), (.ref a), (.ref b)] h0 n0 (Ret0 (fun h => Keep h0 h [a] ∧ Av Z h a .long [(.long (u0 ^^^ ((u0 ^^^ w0) &&& (-s1)))), (.long (u1 ^^^ ((u1 ^^^ w1) &&& (-s1)))), (.long (u2 ^^^ ((u2 ^^^ w2) &&& (-s1)))), (.long (u3 ^^^ ((u3 ^^^ w3) &&& (-s1)))), (.long (u4 ^^^ ((u4 ^^^ w4) &&& (-s1))))])) := by
  refine Met.intro pn1 (own := "org/subveil/Curve25519Field") rfl (nm := "select") rfl (fun m => ef1 m a s1 a b) ?_
  intro p e s m below meth c C
  refine s_lloadN C d1_0 (pc' := 1) rfl rfl ?_
  refine s_lneg C d1_1 (pc' := 2) rfl ?_
  refine s_lstoreP C d1_2 (pc' := 4) rfl #[.val (.ref a), .val (.long s1), .second, .val (.ref a), .val (.ref b), .val (.long (-s1)), .second, .unset] rfl ?_
  refine s_iconst C d1_4 (pc' := 5) rfl (0 : Int32) rfl ?_
  refine s_istoreP C d1_5 (pc' := 7) rfl #[.val (.ref a), .val (.long s1), .second, .val (.ref a), .val (.ref b), .val (.long (-s1)), .second, .val (.int (0 : Int32))] rfl ?_
  refine s_iload C d1_7 (pc' := 9) rfl rfl ?_
  refine s_iconst C d1_9 (pc' := 10) rfl (5 : Int32) rfl ?_
  refine s_icmp_ge C d1_10 (pc' := 13) rfl (pcY := 41) rfl (fun hc => by exfalso; revert hc; decide) (fun c1 => ?_)
  refine s_aloadN C d1_13 (pc' := 14) rfl rfl rfl ?_
  refine s_iload C d1_14 (pc' := 16) rfl rfl ?_
  refine s_aloadN C d1_16 (pc' := 17) rfl rfl rfl ?_
  refine s_iload C d1_17 (pc' := 19) rfl rfl ?_
  refine s_laload C d1_19 (pc' := 20) rfl V_a 0 (by decide) rfl ?_
  refine s_aloadN C d1_20 (pc' := 21) rfl rfl rfl ?_
  refine s_iload C d1_21 (pc' := 23) rfl rfl ?_
  refine s_laload C d1_23 (pc' := 24) rfl V_a 0 (by decide) rfl ?_
  refine s_aload C d1_24 (pc' := 26) rfl rfl rfl ?_
  refine s_iload C d1_26 (pc' := 28) rfl rfl ?_
  refine s_laload C d1_28 (pc' := 29) rfl V_b 0 (by decide) rfl ?_
  refine s_lxor C d1_29 (pc' := 30) rfl ?_
  refine s_lload C d1_30 (pc' := 32) rfl rfl ?_
  refine s_land C d1_32 (pc' := 33) rfl ?_
  refine s_lxor C d1_33 (pc' := 34) rfl ?_
  refine s_lastore C d1_34 (pc' := 35) rfl V_a 0 (by decide) (Nat.le_of_ble_eq_true rfl) g_r [(.long (u0 ^^^ ((u0 ^^^ w0) &&& (-s1)))), (.long u1), (.long u2), (.long u3), (.long u4)] rfl (fun h2 W2 A2 => ?_)
  have sz3 : n0 ≤ h2.size := (Nat.le_trans Z0 (Nat.le_of_eq W2.size.symm))
  have Kp4 : Keep h0 h2 [a] := (Keep.refl h0 [a]).wr W2 (Or.inl (List.mem_of_getElem? (i := 0) rfl))
  refine s_iincP C d1_35 (pc' := 38) rfl rfl (1 : Int32) rfl #[.val (.ref a), .val (.long s1), .second, .val (.ref a), .val (.ref b), .val (.long (-s1)), .second, .val (.int (1 : Int32))] rfl ?_
  refine s_goto C d1_38 (pc' := 7) rfl ?_
  refine s_iload C d1_7 (pc' := 9) rfl rfl ?_
  refine s_iconst C d1_9 (pc' := 10) rfl (5 : Int32) rfl ?_
  refine s_icmp_ge C d1_10 (pc' := 13) rfl (pcY := 41) rfl (fun hc => by exfalso; revert hc; decide) (fun c6 => ?_)
  refine s_aloadN C d1_13 (pc' := 14) rfl rfl rfl ?_
  refine s_iload C d1_14 (pc' := 16) rfl rfl ?_
  refine s_aloadN C d1_16 (pc' := 17) rfl rfl rfl ?_
  refine s_iload C d1_17 (pc' := 19) rfl rfl ?_
  refine s_laload C d1_19 (pc' := 20) rfl A2 1 (by decide) rfl ?_
  refine s_aloadN C d1_20 (pc' := 21) rfl rfl rfl ?_
  refine s_iload C d1_21 (pc' := 23) rfl rfl ?_
  refine s_laload C d1_23 (pc' := 24) rfl A2 1 (by decide) rfl ?_
  refine s_aload C d1_24 (pc' := 26) rfl rfl rfl ?_
  refine s_iload C d1_26 (pc' := 28) rfl rfl ?_
  have Vx7 := (V_b.other W2 (Ne.symm hne))
  refine s_laload C d1_28 (pc' := 29) rfl Vx7 1 (by decide) rfl ?_
  refine s_lxor C d1_29 (pc' := 30) rfl ?_
  refine s_lload C d1_30 (pc' := 32) rfl rfl ?_
  refine s_land C d1_32 (pc' := 33) rfl ?_
  refine s_lxor C d1_33 (pc' := 34) rfl ?_
  refine s_lastore C d1_34 (pc' := 35) rfl A2 1 (by decide) (Nat.le_of_ble_eq_true rfl) g_r [(.long (u0 ^^^ ((u0 ^^^ w0) &&& (-s1)))), (.long (u1 ^^^ ((u1 ^^^ w1) &&& (-s1)))), (.long u2), (.long u3), (.long u4)] rfl (fun h8 W8 A8 => ?_)
  have sz9 : n0 ≤ h8.size := (Nat.le_trans sz3 (Nat.le_of_eq W8.size.symm))
  have Kp10 : Keep h0 h8 [a] := Kp4.wr W8 (Or.inl (List.mem_of_getElem? (i := 0) rfl))
  refine s_iincP C d1_35 (pc' := 38) rfl rfl (2 : Int32) rfl #[.val (.ref a), .val (.long s1), .second, .val (.ref a), .val (.ref b), .val (.long (-s1)), .second, .val (.int (2 : Int32))] rfl ?_
  refine s_goto C d1_38 (pc' := 7) rfl ?_
  refine s_iload C d1_7 (pc' := 9) rfl rfl ?_
  refine s_iconst C d1_9 (pc' := 10) rfl (5 : Int32) rfl ?_
  refine s_icmp_ge C d1_10 (pc' := 13) rfl (pcY := 41) rfl (fun hc => by exfalso; revert hc; decide) (fun c12 => ?_)
  refine s_aloadN C d1_13 (pc' := 14) rfl rfl rfl ?_
  refine s_iload C d1_14 (pc' := 16) rfl rfl ?_
  refine s_aloadN C d1_16 (pc' := 17) rfl rfl rfl ?_
  refine s_iload C d1_17 (pc' := 19) rfl rfl ?_
  refine s_laload C d1_19 (pc' := 20) rfl A8 2 (by decide) rfl ?_
  refine s_aloadN C d1_20 (pc' := 21) rfl rfl rfl ?_
  refine s_iload C d1_21 (pc' := 23) rfl rfl ?_
  refine s_laload C d1_23 (pc' := 24) rfl A8 2 (by decide) rfl ?_
  refine s_aload C d1_24 (pc' := 26) rfl rfl rfl ?_
  refine s_iload C d1_26 (pc' := 28) rfl rfl ?_
  have Vx13 := (Vx7.other W8 (Ne.symm hne))
  refine s_laload C d1_28 (pc' := 29) rfl Vx13 2 (by decide) rfl ?_
  refine s_lxor C d1_29 (pc' := 30) rfl ?_
  refine s_lload C d1_30 (pc' := 32) rfl rfl ?_
  refine s_land C d1_32 (pc' := 33) rfl ?_
  refine s_lxor C d1_33 (pc' := 34) rfl ?_
  refine s_lastore C d1_34 (pc' := 35) rfl A8 2 (by decide) (Nat.le_of_ble_eq_true rfl) g_r [(.long (u0 ^^^ ((u0 ^^^ w0) &&& (-s1)))), (.long (u1 ^^^ ((u1 ^^^ w1) &&& (-s1)))), (.long (u2 ^^^ ((u2 ^^^ w2) &&& (-s1)))), (.long u3), (.long u4)] rfl (fun h14 W14 A14 => ?_)
  have sz15 : n0 ≤ h14.size := (Nat.le_trans sz9 (Nat.le_of_eq W14.size.symm))
  have Kp16 : Keep h0 h14 [a] := Kp10.wr W14 (Or.inl (List.mem_of_getElem? (i := 0) rfl))
  refine s_iincP C d1_35 (pc' := 38) rfl rfl (3 : Int32) rfl #[.val (.ref a), .val (.long s1), .second, .val (.ref a), .val (.ref b), .val (.long (-s1)), .second, .val (.int (3 : Int32))] rfl ?_
  refine s_goto C d1_38 (pc' := 7) rfl ?_
  refine s_iload C d1_7 (pc' := 9) rfl rfl ?_
  refine s_iconst C d1_9 (pc' := 10) rfl (5 : Int32) rfl ?_
  refine s_icmp_ge C d1_10 (pc' := 13) rfl (pcY := 41) rfl (fun hc => by exfalso; revert hc; decide) (fun c18 => ?_)
  refine s_aloadN C d1_13 (pc' := 14) rfl rfl rfl ?_
  refine s_iload C d1_14 (pc' := 16) rfl rfl ?_
  refine s_aloadN C d1_16 (pc' := 17) rfl rfl rfl ?_
  refine s_iload C d1_17 (pc' := 19) rfl rfl ?_
  refine s_laload C d1_19 (pc' := 20) rfl A14 3 (by decide) rfl ?_
  refine s_aloadN C d1_20 (pc' := 21) rfl rfl rfl ?_
  refine s_iload C d1_21 (pc' := 23) rfl rfl ?_
  refine s_laload C d1_23 (pc' := 24) rfl A14 3 (by decide) rfl ?_
  refine s_aload C d1_24 (pc' := 26) rfl rfl rfl ?_
  refine s_iload C d1_26 (pc' := 28) rfl rfl ?_
  have Vx19 := (Vx13.other W14 (Ne.symm hne))
  refine s_laload C d1_28 (pc' := 29) rfl Vx19 3 (by decide) rfl ?_
  refine s_lxor C d1_29 (pc' := 30) rfl ?_
  refine s_lload C d1_30 (pc' := 32) rfl rfl ?_
  refine s_land C d1_32 (pc' := 33) rfl ?_
  refine s_lxor C d1_33 (pc' := 34) rfl ?_
  refine s_lastore C d1_34 (pc' := 35) rfl A14 3 (by decide) (Nat.le_of_ble_eq_true rfl) g_r [(.long (u0 ^^^ ((u0 ^^^ w0) &&& (-s1)))), (.long (u1 ^^^ ((u1 ^^^ w1) &&& (-s1)))), (.long (u2 ^^^ ((u2 ^^^ w2) &&& (-s1)))), (.long (u3 ^^^ ((u3 ^^^ w3) &&& (-s1)))), (.long u4)] rfl (fun h20 W20 A20 => ?_)
  have sz21 : n0 ≤ h20.size := (Nat.le_trans sz15 (Nat.le_of_eq W20.size.symm))
  have Kp22 : Keep h0 h20 [a] := Kp16.wr W20 (Or.inl (List.mem_of_getElem? (i := 0) rfl))
  refine s_iincP C d1_35 (pc' := 38) rfl rfl (4 : Int32) rfl #[.val (.ref a), .val (.long s1), .second, .val (.ref a), .val (.ref b), .val (.long (-s1)), .second, .val (.int (4 : Int32))] rfl ?_
  refine s_goto C d1_38 (pc' := 7) rfl ?_
  refine s_iload C d1_7 (pc' := 9) rfl rfl ?_
  refine s_iconst C d1_9 (pc' := 10) rfl (5 : Int32) rfl ?_
  refine s_icmp_ge C d1_10 (pc' := 13) rfl (pcY := 41) rfl (fun hc => by exfalso; revert hc; decide) (fun c24 => ?_)
  refine s_aloadN C d1_13 (pc' := 14) rfl rfl rfl ?_
  refine s_iload C d1_14 (pc' := 16) rfl rfl ?_
  refine s_aloadN C d1_16 (pc' := 17) rfl rfl rfl ?_
  refine s_iload C d1_17 (pc' := 19) rfl rfl ?_
  refine s_laload C d1_19 (pc' := 20) rfl A20 4 (by decide) rfl ?_
  refine s_aloadN C d1_20 (pc' := 21) rfl rfl rfl ?_
  refine s_iload C d1_21 (pc' := 23) rfl rfl ?_
  refine s_laload C d1_23 (pc' := 24) rfl A20 4 (by decide) rfl ?_
  refine s_aload C d1_24 (pc' := 26) rfl rfl rfl ?_
  refine s_iload C d1_26 (pc' := 28) rfl rfl ?_
  have Vx25 := (Vx19.other W20 (Ne.symm hne))
  refine s_laload C d1_28 (pc' := 29) rfl Vx25 4 (by decide) rfl ?_
  refine s_lxor C d1_29 (pc' := 30) rfl ?_
  refine s_lload C d1_30 (pc' := 32) rfl rfl ?_
  refine s_land C d1_32 (pc' := 33) rfl ?_
  refine s_lxor C d1_33 (pc' := 34) rfl ?_
  refine s_lastore C d1_34 (pc' := 35) rfl A20 4 (by decide) (Nat.le_of_ble_eq_true rfl) g_r [(.long (u0 ^^^ ((u0 ^^^ w0) &&& (-s1)))), (.long (u1 ^^^ ((u1 ^^^ w1) &&& (-s1)))), (.long (u2 ^^^ ((u2 ^^^ w2) &&& (-s1)))), (.long (u3 ^^^ ((u3 ^^^ w3) &&& (-s1)))), (.long (u4 ^^^ ((u4 ^^^ w4) &&& (-s1))))] rfl (fun h26 W26 A26 => ?_)
  have sz27 : n0 ≤ h26.size := (Nat.le_trans sz21 (Nat.le_of_eq W26.size.symm))
  have Kp28 : Keep h0 h26 [a] := Kp22.wr W26 (Or.inl (List.mem_of_getElem? (i := 0) rfl))
  refine s_iincP C d1_35 (pc' := 38) rfl rfl (5 : Int32) rfl #[.val (.ref a), .val (.long s1), .second, .val (.ref a), .val (.ref b), .val (.long (-s1)), .second, .val (.int (5 : Int32))] rfl ?_
  refine s_goto C d1_38 (pc' := 7) rfl ?_
  refine s_iload C d1_7 (pc' := 9) rfl rfl ?_
  refine s_iconst C d1_9 (pc' := 10) rfl (5 : Int32) rfl ?_
  refine s_icmp_ge C d1_10 (pc' := 13) rfl (pcY := 41) rfl (fun c30 => ?_) (fun hc => by exfalso; revert hc; decide)
  exact s_ret0 C d1_41 (by decide) (by decide) ⟨Kp28, A26⟩
set_option maxRecDepth 65536 in
set_option maxHeartbeats 40000000 in
theorem c_selb (l : Launch) (Z : State) (a0 : Array Value) (hw : Hw a0 Z) (s1 : Int64) (a b : Addr) (u0 u1 u2 u3 u4 w0 w1 w2 w3 w4 : Int64) (h0 : Heap) (n0 : Nat) (Z0 : n0 ≤ h0.size) (hne : a ≠ b) (g_r : n0 ≤ b) (V_a : Av Z h0 a .long [(.long u0), (.long u1), (.long u2), (.long u3), (.long u4)]) (V_b : Av Z h0 b .long [(.long w0), (.long w1), (.long w2), (.long w3), (.long w4)]) :
    Met l Z (⟨"org/subveil/Curve25519Field", "select", "([JJ[J[J)V"⟩ : MethodName) prog_3_method_6_code 8 none [] ({ frames := 0, cells := 0, slots := 0, locals := 0 } : Room) #[(.ref b), (.long s1), (.ref a), (.ref b)] h0 n0 (Ret0 (fun h => Keep h0 h [b] ∧ Av Z h b .long [(.long (u0 ^^^ ((u0 ^^^ w0) &&& (-s1)))), (.long (u1 ^^^ ((u1 ^^^ w1) &&& (-s1)))), (.long (u2 ^^^ ((u2 ^^^ w2) &&& (-s1)))), (.long (u3 ^^^ ((u3 ^^^ w3) &&& (-s1)))), (.long (u4 ^^^ ((u4 ^^^ w4) &&& (-s1))))])) := by
  refine Met.intro pn1 (own := "org/subveil/Curve25519Field") rfl (nm := "select") rfl (fun m => ef1 m b s1 a b) ?_
  intro p e s m below meth c C
  refine s_lloadN C d1_0 (pc' := 1) rfl rfl ?_
  refine s_lneg C d1_1 (pc' := 2) rfl ?_
  refine s_lstoreP C d1_2 (pc' := 4) rfl #[.val (.ref b), .val (.long s1), .second, .val (.ref a), .val (.ref b), .val (.long (-s1)), .second, .unset] rfl ?_
  refine s_iconst C d1_4 (pc' := 5) rfl (0 : Int32) rfl ?_
  refine s_istoreP C d1_5 (pc' := 7) rfl #[.val (.ref b), .val (.long s1), .second, .val (.ref a), .val (.ref b), .val (.long (-s1)), .second, .val (.int (0 : Int32))] rfl ?_
  refine s_iload C d1_7 (pc' := 9) rfl rfl ?_
  refine s_iconst C d1_9 (pc' := 10) rfl (5 : Int32) rfl ?_
  refine s_icmp_ge C d1_10 (pc' := 13) rfl (pcY := 41) rfl (fun hc => by exfalso; revert hc; decide) (fun c1 => ?_)
  refine s_aloadN C d1_13 (pc' := 14) rfl rfl rfl ?_
  refine s_iload C d1_14 (pc' := 16) rfl rfl ?_
  refine s_aloadN C d1_16 (pc' := 17) rfl rfl rfl ?_
  refine s_iload C d1_17 (pc' := 19) rfl rfl ?_
  refine s_laload C d1_19 (pc' := 20) rfl V_a 0 (by decide) rfl ?_
  refine s_aloadN C d1_20 (pc' := 21) rfl rfl rfl ?_
  refine s_iload C d1_21 (pc' := 23) rfl rfl ?_
  refine s_laload C d1_23 (pc' := 24) rfl V_a 0 (by decide) rfl ?_
  refine s_aload C d1_24 (pc' := 26) rfl rfl rfl ?_
  refine s_iload C d1_26 (pc' := 28) rfl rfl ?_
  refine s_laload C d1_28 (pc' := 29) rfl V_b 0 (by decide) rfl ?_
  refine s_lxor C d1_29 (pc' := 30) rfl ?_
  refine s_lload C d1_30 (pc' := 32) rfl rfl ?_
  refine s_land C d1_32 (pc' := 33) rfl ?_
  refine s_lxor C d1_33 (pc' := 34) rfl ?_
  refine s_lastore C d1_34 (pc' := 35) rfl V_b 0 (by decide) (Nat.le_of_ble_eq_true rfl) g_r [(.long (u0 ^^^ ((u0 ^^^ w0) &&& (-s1)))), (.long w1), (.long w2), (.long w3), (.long w4)] rfl (fun h2 W2 A2 => ?_)
  have sz3 : n0 ≤ h2.size := (Nat.le_trans Z0 (Nat.le_of_eq W2.size.symm))
  have Kp4 : Keep h0 h2 [b] := (Keep.refl h0 [b]).wr W2 (Or.inl (List.mem_of_getElem? (i := 0) rfl))
  refine s_iincP C d1_35 (pc' := 38) rfl rfl (1 : Int32) rfl #[.val (.ref b), .val (.long s1), .second, .val (.ref a), .val (.ref b), .val (.long (-s1)), .second, .val (.int (1 : Int32))] rfl ?_
  refine s_goto C d1_38 (pc' := 7) rfl ?_
  refine s_iload C d1_7 (pc' := 9) rfl rfl ?_
  refine s_iconst C d1_9 (pc' := 10) rfl (5 : Int32) rfl ?_
  refine s_icmp_ge C d1_10 (pc' := 13) rfl (pcY := 41) rfl (fun hc => by exfalso; revert hc; decide) (fun c6 => ?_)
  refine s_aloadN C d1_13 (pc' := 14) rfl rfl rfl ?_
  refine s_iload C d1_14 (pc' := 16) rfl rfl ?_
  refine s_aloadN C d1_16 (pc' := 17) rfl rfl rfl ?_
  refine s_iload C d1_17 (pc' := 19) rfl rfl ?_
  have Vx7 := (V_a.other W2 hne)
  refine s_laload C d1_19 (pc' := 20) rfl Vx7 1 (by decide) rfl ?_
  refine s_aloadN C d1_20 (pc' := 21) rfl rfl rfl ?_
  refine s_iload C d1_21 (pc' := 23) rfl rfl ?_
  refine s_laload C d1_23 (pc' := 24) rfl Vx7 1 (by decide) rfl ?_
  refine s_aload C d1_24 (pc' := 26) rfl rfl rfl ?_
  refine s_iload C d1_26 (pc' := 28) rfl rfl ?_
  refine s_laload C d1_28 (pc' := 29) rfl A2 1 (by decide) rfl ?_
  refine s_lxor C d1_29 (pc' := 30) rfl ?_
  refine s_lload C d1_30 (pc' := 32) rfl rfl ?_
  refine s_land C d1_32 (pc' := 33) rfl ?_
  refine s_lxor C d1_33 (pc' := 34) rfl ?_
  refine s_lastore C d1_34 (pc' := 35) rfl A2 1 (by decide) (Nat.le_of_ble_eq_true rfl) g_r [(.long (u0 ^^^ ((u0 ^^^ w0) &&& (-s1)))), (.long (u1 ^^^ ((u1 ^^^ w1) &&& (-s1)))), (.long w2), (.long w3), (.long w4)] rfl (fun h8 W8 A8 => ?_)
  have sz9 : n0 ≤ h8.size := (Nat.le_trans sz3 (Nat.le_of_eq W8.size.symm))
  have Kp10 : Keep h0 h8 [b] := Kp4.wr W8 (Or.inl (List.mem_of_getElem? (i := 0) rfl))
  refine s_iincP C d1_35 (pc' := 38) rfl rfl (2 : Int32) rfl #[.val (.ref b), .val (.long s1), .second, .val (.ref a), .val (.ref b), .val (.long (-s1)), .second, .val (.int (2 : Int32))] rfl ?_
  refine s_goto C d1_38 (pc' := 7) rfl ?_
  refine s_iload C d1_7 (pc' := 9) rfl rfl ?_
  refine s_iconst C d1_9 (pc' := 10) rfl (5 : Int32) rfl ?_
  refine s_icmp_ge C d1_10 (pc' := 13) rfl (pcY := 41) rfl (fun hc => by exfalso; revert hc; decide) (fun c12 => ?_)
  refine s_aloadN C d1_13 (pc' := 14) rfl rfl rfl ?_
  refine s_iload C d1_14 (pc' := 16) rfl rfl ?_
  refine s_aloadN C d1_16 (pc' := 17) rfl rfl rfl ?_
  refine s_iload C d1_17 (pc' := 19) rfl rfl ?_
  have Vx13 := (Vx7.other W8 hne)
  refine s_laload C d1_19 (pc' := 20) rfl Vx13 2 (by decide) rfl ?_
  refine s_aloadN C d1_20 (pc' := 21) rfl rfl rfl ?_
  refine s_iload C d1_21 (pc' := 23) rfl rfl ?_
  refine s_laload C d1_23 (pc' := 24) rfl Vx13 2 (by decide) rfl ?_
  refine s_aload C d1_24 (pc' := 26) rfl rfl rfl ?_
  refine s_iload C d1_26 (pc' := 28) rfl rfl ?_
  refine s_laload C d1_28 (pc' := 29) rfl A8 2 (by decide) rfl ?_
  refine s_lxor C d1_29 (pc' := 30) rfl ?_
  refine s_lload C d1_30 (pc' := 32) rfl rfl ?_
  refine s_land C d1_32 (pc' := 33) rfl ?_
  refine s_lxor C d1_33 (pc' := 34) rfl ?_
  refine s_lastore C d1_34 (pc' := 35) rfl A8 2 (by decide) (Nat.le_of_ble_eq_true rfl) g_r [(.long (u0 ^^^ ((u0 ^^^ w0) &&& (-s1)))), (.long (u1 ^^^ ((u1 ^^^ w1) &&& (-s1)))), (.long (u2 ^^^ ((u2 ^^^ w2) &&& (-s1)))), (.long w3), (.long w4)] rfl (fun h14 W14 A14 => ?_)
  have sz15 : n0 ≤ h14.size := (Nat.le_trans sz9 (Nat.le_of_eq W14.size.symm))
  have Kp16 : Keep h0 h14 [b] := Kp10.wr W14 (Or.inl (List.mem_of_getElem? (i := 0) rfl))
  refine s_iincP C d1_35 (pc' := 38) rfl rfl (3 : Int32) rfl #[.val (.ref b), .val (.long s1), .second, .val (.ref a), .val (.ref b), .val (.long (-s1)), .second, .val (.int (3 : Int32))] rfl ?_
  refine s_goto C d1_38 (pc' := 7) rfl ?_
  refine s_iload C d1_7 (pc' := 9) rfl rfl ?_
  refine s_iconst C d1_9 (pc' := 10) rfl (5 : Int32) rfl ?_
  refine s_icmp_ge C d1_10 (pc' := 13) rfl (pcY := 41) rfl (fun hc => by exfalso; revert hc; decide) (fun c18 => ?_)
  refine s_aloadN C d1_13 (pc' := 14) rfl rfl rfl ?_
  refine s_iload C d1_14 (pc' := 16) rfl rfl ?_
  refine s_aloadN C d1_16 (pc' := 17) rfl rfl rfl ?_
  refine s_iload C d1_17 (pc' := 19) rfl rfl ?_
  have Vx19 := (Vx13.other W14 hne)
  refine s_laload C d1_19 (pc' := 20) rfl Vx19 3 (by decide) rfl ?_
  refine s_aloadN C d1_20 (pc' := 21) rfl rfl rfl ?_
  refine s_iload C d1_21 (pc' := 23) rfl rfl ?_
  refine s_laload C d1_23 (pc' := 24) rfl Vx19 3 (by decide) rfl ?_
  refine s_aload C d1_24 (pc' := 26) rfl rfl rfl ?_
  refine s_iload C d1_26 (pc' := 28) rfl rfl ?_
  refine s_laload C d1_28 (pc' := 29) rfl A14 3 (by decide) rfl ?_
  refine s_lxor C d1_29 (pc' := 30) rfl ?_
  refine s_lload C d1_30 (pc' := 32) rfl rfl ?_
  refine s_land C d1_32 (pc' := 33) rfl ?_
  refine s_lxor C d1_33 (pc' := 34) rfl ?_
  refine s_lastore C d1_34 (pc' := 35) rfl A14 3 (by decide) (Nat.le_of_ble_eq_true rfl) g_r [(.long (u0 ^^^ ((u0 ^^^ w0) &&& (-s1)))), (.long (u1 ^^^ ((u1 ^^^ w1) &&& (-s1)))), (.long (u2 ^^^ ((u2 ^^^ w2) &&& (-s1)))), (.long (u3 ^^^ ((u3 ^^^ w3) &&& (-s1)))), (.long w4)] rfl (fun h20 W20 A20 => ?_)
  have sz21 : n0 ≤ h20.size := (Nat.le_trans sz15 (Nat.le_of_eq W20.size.symm))
  have Kp22 : Keep h0 h20 [b] := Kp16.wr W20 (Or.inl (List.mem_of_getElem? (i := 0) rfl))
  refine s_iincP C d1_35 (pc' := 38) rfl rfl (4 : Int32) rfl #[.val (.ref b), .val (.long s1), .second, .val (.ref a), .val (.ref b), .val (.long (-s1)), .second, .val (.int (4 : Int32))] rfl ?_
  refine s_goto C d1_38 (pc' := 7) rfl ?_
  refine s_iload C d1_7 (pc' := 9) rfl rfl ?_
  refine s_iconst C d1_9 (pc' := 10) rfl (5 : Int32) rfl ?_
  refine s_icmp_ge C d1_10 (pc' := 13) rfl (pcY := 41) rfl (fun hc => by exfalso; revert hc; decide) (fun c24 => ?_)
  refine s_aloadN C d1_13 (pc' := 14) rfl rfl rfl ?_
  refine s_iload C d1_14 (pc' := 16) rfl rfl ?_
  refine s_aloadN C d1_16 (pc' := 17) rfl rfl rfl ?_
  refine s_iload C d1_17 (pc' := 19) rfl rfl ?_
  have Vx25 := (Vx19.other W20 hne)
  refine s_laload C d1_19 (pc' := 20) rfl Vx25 4 (by decide) rfl ?_
  refine s_aloadN C d1_20 (pc' := 21) rfl rfl rfl ?_
  refine s_iload C d1_21 (pc' := 23) rfl rfl ?_
  refine s_laload C d1_23 (pc' := 24) rfl Vx25 4 (by decide) rfl ?_
  refine s_aload C d1_24 (pc' := 26) rfl rfl rfl ?_
  refine s_iload C d1_26 (pc' := 28) rfl rfl ?_
  refine s_laload C d1_28 (pc' := 29) rfl A20 4 (by decide) rfl ?_
  refine s_lxor C d1_29 (pc' := 30) rfl ?_
  refine s_lload C d1_30 (pc' := 32) rfl rfl ?_
  refine s_land C d1_32 (pc' := 33) rfl ?_
  refine s_lxor C d1_33 (pc' := 34) rfl ?_
  refine s_lastore C d1_34 (pc' := 35) rfl A20 4 (by decide) (Nat.le_of_ble_eq_true rfl) g_r [(.long (u0 ^^^ ((u0 ^^^ w0) &&& (-s1)))), (.long (u1 ^^^ ((u1 ^^^ w1) &&& (-s1)))), (.long (u2 ^^^ ((u2 ^^^ w2) &&& (-s1)))), (.long (u3 ^^^ ((u3 ^^^ w3) &&& (-s1)))), (.long (u4 ^^^ ((u4 ^^^ w4) &&& (-s1))))] rfl (fun h26 W26 A26 => ?_)
  have sz27 : n0 ≤ h26.size := (Nat.le_trans sz21 (Nat.le_of_eq W26.size.symm))
  have Kp28 : Keep h0 h26 [b] := Kp22.wr W26 (Or.inl (List.mem_of_getElem? (i := 0) rfl))
  refine s_iincP C d1_35 (pc' := 38) rfl rfl (5 : Int32) rfl #[.val (.ref b), .val (.long s1), .second, .val (.ref a), .val (.ref b), .val (.long (-s1)), .second, .val (.int (5 : Int32))] rfl ?_
  refine s_goto C d1_38 (pc' := 7) rfl ?_
  refine s_iload C d1_7 (pc' := 9) rfl rfl ?_
  refine s_iconst C d1_9 (pc' := 10) rfl (5 : Int32) rfl ?_
  refine s_icmp_ge C d1_10 (pc' := 13) rfl (pcY := 41) rfl (fun c30 => ?_) (fun hc => by exfalso; revert hc; decide)
  exact s_ret0 C d1_41 (by decide) (by decide) ⟨Kp28, A26⟩
set_option maxRecDepth 65536 in
set_option maxHeartbeats 40000000 in
theorem law (l : Launch) (Z : State) (a0 : Array Value) (hw : Hw a0 Z) (x1 x2 x3 x4 x5 : Int64) (x6 : Int32) (h0 : Heap) (n0 : Nat) (Z0 : n0 ≤ h0.size)  :
    Met l Z x code maxLocals ret tables_1 room_1 #[(.long x1), (.long x2), (.long x3), (.long x4), (.long x5), (.int x6)] h0 n0 (RetI (fun z h => z = 1)) := by
  refine Met.intro pn0 (own := "org/subveil/Curve25519FieldSelectPinLaw") rfl (nm := "law") rfl (fun m => ef0 m x1 x2 x3 x4 x5 x6) ?_
  intro p e s m below meth c C
  refine s_iload C at_0 (pc' := 2) rfl rfl ?_
  refine s_iconst C at_2 (pc' := 3) rfl (1 : Int32) rfl ?_
  refine s_iand C at_3 (pc' := 4) rfl ?_
  refine s_i2l C at_4 (pc' := 5) rfl ?_
  obtain ⟨v1, hv1⟩ : ∃ y, y = (x6 &&& (1 : Int32)).toInt64 := ⟨_, rfl⟩
  rw [← hv1]
  refine s_lstoreP C at_5 (pc' := 7) rfl #[.val (.long x1), .second, .val (.long x2), .second, .val (.long x3), .second, .val (.long x4), .second, .val (.long x5), .second, .val (.int x6), .val (.long v1), .second, .unset, .unset, .unset, .unset, .unset, .unset, .unset, .unset, .unset, .unset, .unset, .unset, .unset, .unset, .unset, .unset, .unset, .unset, .unset] rfl ?_
  refine s_iload C at_7 (pc' := 9) rfl rfl ?_
  refine s_iconst C at_9 (pc' := 10) rfl (1 : Int32) rfl ?_
  refine s_iushr C at_10 (pc' := 11) rfl ?_
  refine s_iconst C at_11 (pc' := 12) rfl (3 : Int32) rfl ?_
  refine s_iand C at_12 (pc' := 13) rfl ?_
  refine s_iconst C at_13 (pc' := 14) rfl (3 : Int32) rfl ?_
  refine s_irem C at_14 (pc' := 15) rfl (by decide) ?_
  obtain ⟨v2, hv2⟩ : ∃ y, y = (((x6.toUInt32 >>> ((1 : Int32) &&& 31).toUInt32).toInt32 &&& (3 : Int32)) % (3 : Int32)) := ⟨_, rfl⟩
  rw [← hv2]
  refine s_istoreP C at_15 (pc' := 17) rfl #[.val (.long x1), .second, .val (.long x2), .second, .val (.long x3), .second, .val (.long x4), .second, .val (.long x5), .second, .val (.int x6), .val (.long v1), .second, .val (.int v2), .unset, .unset, .unset, .unset, .unset, .unset, .unset, .unset, .unset, .unset, .unset, .unset, .unset, .unset, .unset, .unset, .unset, .unset] rfl ?_
  refine s_iconst C at_17 (pc' := 18) rfl (5 : Int32) rfl ?_
  refine s_newarr C (cap := 5) at_18 (pc' := 20) rfl (w0 hw) (by decide) (by decide) (by decide) (k' := 1) rfl (by decide) (n' := 5) rfl (by decide) [(.long (0 : Int64)), (.long (0 : Int64)), (.long (0 : Int64)), (.long (0 : Int64)), (.long (0 : Int64))] rfl (fun h3 a3 E3 g3 A3 => ?_)
  have gn4 : n0 ≤ a3 := by rw [g3]; exact Z0
  have sz5 : n0 ≤ h3.size := (Nat.le_trans Z0 E3.1)
  refine s_dup C at_20 (pc' := 21) rfl rfl ?_
  refine s_iconst C at_21 (pc' := 22) rfl (0 : Int32) rfl ?_
  refine s_lloadN C at_22 (pc' := 23) rfl rfl ?_
  refine s_lastore C at_23 (pc' := 24) rfl A3 0 (by decide) (Nat.le_of_ble_eq_true rfl) gn4 [(.long x1), (.long (0 : Int64)), (.long (0 : Int64)), (.long (0 : Int64)), (.long (0 : Int64))] rfl (fun h6 W6 A6 => ?_)
  have sz7 : n0 ≤ h6.size := (Nat.le_trans sz5 (Nat.le_of_eq W6.size.symm))
  refine s_dup C at_24 (pc' := 25) rfl rfl ?_
  refine s_iconst C at_25 (pc' := 26) rfl (1 : Int32) rfl ?_
  refine s_lloadN C at_26 (pc' := 27) rfl rfl ?_
  refine s_lastore C at_27 (pc' := 28) rfl A6 1 (by decide) (Nat.le_of_ble_eq_true rfl) gn4 [(.long x1), (.long x2), (.long (0 : Int64)), (.long (0 : Int64)), (.long (0 : Int64))] rfl (fun h8 W8 A8 => ?_)
  have sz9 : n0 ≤ h8.size := (Nat.le_trans sz7 (Nat.le_of_eq W8.size.symm))
  refine s_dup C at_28 (pc' := 29) rfl rfl ?_
  refine s_iconst C at_29 (pc' := 30) rfl (2 : Int32) rfl ?_
  refine s_lloadN C at_30 (pc' := 31) rfl rfl ?_
  refine s_lloadN C at_31 (pc' := 32) rfl rfl ?_
  refine s_lxor C at_32 (pc' := 33) rfl ?_
  refine s_lastore C at_33 (pc' := 34) rfl A8 2 (by decide) (Nat.le_of_ble_eq_true rfl) gn4 [(.long x1), (.long x2), (.long (x1 ^^^ x2)), (.long (0 : Int64)), (.long (0 : Int64))] rfl (fun h10 W10 A10 => ?_)
  have sz11 : n0 ≤ h10.size := (Nat.le_trans sz9 (Nat.le_of_eq W10.size.symm))
  refine s_dup C at_34 (pc' := 35) rfl rfl ?_
  refine s_iconst C at_35 (pc' := 36) rfl (3 : Int32) rfl ?_
  refine s_lloadN C at_36 (pc' := 37) rfl rfl ?_
  refine s_lload C at_37 (pc' := 39) rfl rfl ?_
  refine s_ladd C at_39 (pc' := 40) rfl ?_
  refine s_lastore C at_40 (pc' := 41) rfl A10 3 (by decide) (Nat.le_of_ble_eq_true rfl) gn4 [(.long x1), (.long x2), (.long (x1 ^^^ x2)), (.long (x1 + x5)), (.long (0 : Int64))] rfl (fun h12 W12 A12 => ?_)
  have sz13 : n0 ≤ h12.size := (Nat.le_trans sz11 (Nat.le_of_eq W12.size.symm))
  refine s_dup C at_41 (pc' := 42) rfl rfl ?_
  refine s_iconst C at_42 (pc' := 43) rfl (4 : Int32) rfl ?_
  refine s_lloadN C at_43 (pc' := 44) rfl rfl ?_
  refine s_ldc2 C at_44 (pc' := 47) rfl (w1 hw) ?_
  refine s_lxor C at_47 (pc' := 48) rfl ?_
  refine s_lastore C at_48 (pc' := 49) rfl A12 4 (by decide) (Nat.le_of_ble_eq_true rfl) gn4 [(.long x1), (.long x2), (.long (x1 ^^^ x2)), (.long (x1 + x5)), (.long (x2 ^^^ (-1 : Int64)))] rfl (fun h14 W14 A14 => ?_)
  have sz15 : n0 ≤ h14.size := (Nat.le_trans sz13 (Nat.le_of_eq W14.size.symm))
  refine s_astore C at_49 (pc' := 51) rfl rfl #[.val (.long x1), .second, .val (.long x2), .second, .val (.long x3), .second, .val (.long x4), .second, .val (.long x5), .second, .val (.int x6), .val (.long v1), .second, .val (.int v2), .val (.ref a3), .unset, .unset, .unset, .unset, .unset, .unset, .unset, .unset, .unset, .unset, .unset, .unset, .unset, .unset, .unset, .unset, .unset] rfl ?_
  refine s_iconst C at_51 (pc' := 52) rfl (5 : Int32) rfl ?_
  refine s_newarr C (cap := 5) at_52 (pc' := 54) rfl (w0 hw) (by decide) (by decide) (by decide) (k' := 2) rfl (by decide) (n' := 10) rfl (by decide) [(.long (0 : Int64)), (.long (0 : Int64)), (.long (0 : Int64)), (.long (0 : Int64)), (.long (0 : Int64))] rfl (fun h16 a16 E16 g16 A16 => ?_)
  have ne17 : a3 ≠ a16 := Nat.ne_of_lt (by rw [g16]; exact A14.lt)
  have gn18 : n0 ≤ a16 := by rw [g16]; exact sz15
  have sz19 : n0 ≤ h16.size := (Nat.le_trans sz15 E16.1)
  refine s_dup C at_54 (pc' := 55) rfl rfl ?_
  refine s_iconst C at_55 (pc' := 56) rfl (0 : Int32) rfl ?_
  refine s_lload C at_56 (pc' := 58) rfl rfl ?_
  refine s_lastore C at_58 (pc' := 59) rfl A16 0 (by decide) (Nat.le_of_ble_eq_true rfl) gn18 [(.long x3), (.long (0 : Int64)), (.long (0 : Int64)), (.long (0 : Int64)), (.long (0 : Int64))] rfl (fun h20 W20 A20 => ?_)
  have sz21 : n0 ≤ h20.size := (Nat.le_trans sz19 (Nat.le_of_eq W20.size.symm))
  refine s_dup C at_59 (pc' := 60) rfl rfl ?_
  refine s_iconst C at_60 (pc' := 61) rfl (1 : Int32) rfl ?_
  refine s_lload C at_61 (pc' := 63) rfl rfl ?_
  refine s_lastore C at_63 (pc' := 64) rfl A20 1 (by decide) (Nat.le_of_ble_eq_true rfl) gn18 [(.long x3), (.long x4), (.long (0 : Int64)), (.long (0 : Int64)), (.long (0 : Int64))] rfl (fun h22 W22 A22 => ?_)
  have sz23 : n0 ≤ h22.size := (Nat.le_trans sz21 (Nat.le_of_eq W22.size.symm))
  refine s_dup C at_64 (pc' := 65) rfl rfl ?_
  refine s_iconst C at_65 (pc' := 66) rfl (2 : Int32) rfl ?_
  refine s_lload C at_66 (pc' := 68) rfl rfl ?_
  refine s_lload C at_68 (pc' := 70) rfl rfl ?_
  refine s_lxor C at_70 (pc' := 71) rfl ?_
  refine s_lastore C at_71 (pc' := 72) rfl A22 2 (by decide) (Nat.le_of_ble_eq_true rfl) gn18 [(.long x3), (.long x4), (.long (x3 ^^^ x4)), (.long (0 : Int64)), (.long (0 : Int64))] rfl (fun h24 W24 A24 => ?_)
  have sz25 : n0 ≤ h24.size := (Nat.le_trans sz23 (Nat.le_of_eq W24.size.symm))
  refine s_dup C at_72 (pc' := 73) rfl rfl ?_
  refine s_iconst C at_73 (pc' := 74) rfl (3 : Int32) rfl ?_
  refine s_lload C at_74 (pc' := 76) rfl rfl ?_
  refine s_lload C at_76 (pc' := 78) rfl rfl ?_
  refine s_lsub C at_78 (pc' := 79) rfl ?_
  refine s_lastore C at_79 (pc' := 80) rfl A24 3 (by decide) (Nat.le_of_ble_eq_true rfl) gn18 [(.long x3), (.long x4), (.long (x3 ^^^ x4)), (.long (x3 - x5)), (.long (0 : Int64))] rfl (fun h26 W26 A26 => ?_)
  have sz27 : n0 ≤ h26.size := (Nat.le_trans sz25 (Nat.le_of_eq W26.size.symm))
  refine s_dup C at_80 (pc' := 81) rfl rfl ?_
  refine s_iconst C at_81 (pc' := 82) rfl (4 : Int32) rfl ?_
  refine s_lload C at_82 (pc' := 84) rfl rfl ?_
  refine s_ldc2 C at_84 (pc' := 87) rfl (w1 hw) ?_
  refine s_lxor C at_87 (pc' := 88) rfl ?_
  refine s_lastore C at_88 (pc' := 89) rfl A26 4 (by decide) (Nat.le_of_ble_eq_true rfl) gn18 [(.long x3), (.long x4), (.long (x3 ^^^ x4)), (.long (x3 - x5)), (.long (x4 ^^^ (-1 : Int64)))] rfl (fun h28 W28 A28 => ?_)
  have sz29 : n0 ≤ h28.size := (Nat.le_trans sz27 (Nat.le_of_eq W28.size.symm))
  refine s_astore C at_89 (pc' := 91) rfl rfl #[.val (.long x1), .second, .val (.long x2), .second, .val (.long x3), .second, .val (.long x4), .second, .val (.long x5), .second, .val (.int x6), .val (.long v1), .second, .val (.int v2), .val (.ref a3), .val (.ref a16), .unset, .unset, .unset, .unset, .unset, .unset, .unset, .unset, .unset, .unset, .unset, .unset, .unset, .unset, .unset, .unset] rfl ?_
  refine s_iconst C at_91 (pc' := 92) rfl (5 : Int32) rfl ?_
  refine s_newarr C (cap := 5) at_92 (pc' := 94) rfl (w0 hw) (by decide) (by decide) (by decide) (k' := 3) rfl (by decide) (n' := 15) rfl (by decide) [(.long (0 : Int64)), (.long (0 : Int64)), (.long (0 : Int64)), (.long (0 : Int64)), (.long (0 : Int64))] rfl (fun h30 a30 E30 g30 A30 => ?_)
  have ne31 : a16 ≠ a30 := Nat.ne_of_lt (by rw [g30]; exact A28.lt)
  have Vx32 := ((((((A14.ext E16).other W20 ne17).other W22 ne17).other W24 ne17).other W26 ne17).other W28 ne17)
  have ne33 : a3 ≠ a30 := Nat.ne_of_lt (by rw [g30]; exact Vx32.lt)
  have gn34 : n0 ≤ a30 := by rw [g30]; exact sz29
  have sz35 : n0 ≤ h30.size := (Nat.le_trans sz29 E30.1)
  refine s_dup C at_94 (pc' := 95) rfl rfl ?_
  refine s_iconst C at_95 (pc' := 96) rfl (0 : Int32) rfl ?_
  refine s_lload C at_96 (pc' := 98) rfl rfl ?_
  refine s_lastore C at_98 (pc' := 99) rfl A30 0 (by decide) (Nat.le_of_ble_eq_true rfl) gn34 [(.long x5), (.long (0 : Int64)), (.long (0 : Int64)), (.long (0 : Int64)), (.long (0 : Int64))] rfl (fun h36 W36 A36 => ?_)
  have sz37 : n0 ≤ h36.size := (Nat.le_trans sz35 (Nat.le_of_eq W36.size.symm))
  refine s_dup C at_99 (pc' := 100) rfl rfl ?_
  refine s_iconst C at_100 (pc' := 101) rfl (1 : Int32) rfl ?_
  refine s_lload C at_101 (pc' := 103) rfl rfl ?_
  refine s_ldc2 C at_103 (pc' := 106) rfl (w1 hw) ?_
  refine s_lxor C at_106 (pc' := 107) rfl ?_
  refine s_lastore C at_107 (pc' := 108) rfl A36 1 (by decide) (Nat.le_of_ble_eq_true rfl) gn34 [(.long x5), (.long (x5 ^^^ (-1 : Int64))), (.long (0 : Int64)), (.long (0 : Int64)), (.long (0 : Int64))] rfl (fun h38 W38 A38 => ?_)
  have sz39 : n0 ≤ h38.size := (Nat.le_trans sz37 (Nat.le_of_eq W38.size.symm))
  refine s_dup C at_108 (pc' := 109) rfl rfl ?_
  refine s_iconst C at_109 (pc' := 110) rfl (2 : Int32) rfl ?_
  refine s_lload C at_110 (pc' := 112) rfl rfl ?_
  refine s_lloadN C at_112 (pc' := 113) rfl rfl ?_
  refine s_lxor C at_113 (pc' := 114) rfl ?_
  refine s_lastore C at_114 (pc' := 115) rfl A38 2 (by decide) (Nat.le_of_ble_eq_true rfl) gn34 [(.long x5), (.long (x5 ^^^ (-1 : Int64))), (.long (x5 ^^^ x1)), (.long (0 : Int64)), (.long (0 : Int64))] rfl (fun h40 W40 A40 => ?_)
  have sz41 : n0 ≤ h40.size := (Nat.le_trans sz39 (Nat.le_of_eq W40.size.symm))
  refine s_dup C at_115 (pc' := 116) rfl rfl ?_
  refine s_iconst C at_116 (pc' := 117) rfl (3 : Int32) rfl ?_
  refine s_lload C at_117 (pc' := 119) rfl rfl ?_
  refine s_lload C at_119 (pc' := 121) rfl rfl ?_
  refine s_lxor C at_121 (pc' := 122) rfl ?_
  refine s_lastore C at_122 (pc' := 123) rfl A40 3 (by decide) (Nat.le_of_ble_eq_true rfl) gn34 [(.long x5), (.long (x5 ^^^ (-1 : Int64))), (.long (x5 ^^^ x1)), (.long (x5 ^^^ x3)), (.long (0 : Int64))] rfl (fun h42 W42 A42 => ?_)
  have sz43 : n0 ≤ h42.size := (Nat.le_trans sz41 (Nat.le_of_eq W42.size.symm))
  refine s_dup C at_123 (pc' := 124) rfl rfl ?_
  refine s_iconst C at_124 (pc' := 125) rfl (4 : Int32) rfl ?_
  refine s_lload C at_125 (pc' := 127) rfl rfl ?_
  refine s_lconst C at_127 (pc' := 128) rfl (1 : Int64) rfl ?_
  refine s_ladd C at_128 (pc' := 129) rfl ?_
  refine s_lastore C at_129 (pc' := 130) rfl A42 4 (by decide) (Nat.le_of_ble_eq_true rfl) gn34 [(.long x5), (.long (x5 ^^^ (-1 : Int64))), (.long (x5 ^^^ x1)), (.long (x5 ^^^ x3)), (.long (x5 + (1 : Int64)))] rfl (fun h44 W44 A44 => ?_)
  have sz45 : n0 ≤ h44.size := (Nat.le_trans sz43 (Nat.le_of_eq W44.size.symm))
  refine s_astore C at_130 (pc' := 132) rfl rfl #[.val (.long x1), .second, .val (.long x2), .second, .val (.long x3), .second, .val (.long x4), .second, .val (.long x5), .second, .val (.int x6), .val (.long v1), .second, .val (.int v2), .val (.ref a3), .val (.ref a16), .val (.ref a30), .unset, .unset, .unset, .unset, .unset, .unset, .unset, .unset, .unset, .unset, .unset, .unset, .unset, .unset, .unset] rfl ?_
  refine s_iload C at_132 (pc' := 134) rfl rfl ?_
  refine s_iconst C at_134 (pc' := 135) rfl (1 : Int32) rfl ?_
  refine s_icmp_ne C at_135 (pc' := 138) rfl (pcY := 143) rfl (fun c46 => ?_) (fun c46 => ?_)
  · skip
    refine s_iload C at_143 (pc' := 145) rfl rfl ?_
    refine s_iconst C at_145 (pc' := 146) rfl (2 : Int32) rfl ?_
    refine s_icmp_ne C at_146 (pc' := 149) rfl (pcY := 154) rfl (fun c47 => ?_) (fun c47 => ?_)
    · skip
      refine s_aload C at_154 (pc' := 156) rfl rfl rfl ?_
      refine s_astore C at_156 (pc' := 158) rfl rfl #[.val (.long x1), .second, .val (.long x2), .second, .val (.long x3), .second, .val (.long x4), .second, .val (.long x5), .second, .val (.int x6), .val (.long v1), .second, .val (.int v2), .val (.ref a3), .val (.ref a16), .val (.ref a30), .val (.ref a30), .unset, .unset, .unset, .unset, .unset, .unset, .unset, .unset, .unset, .unset, .unset, .unset, .unset, .unset] rfl ?_
      refine s_lload C at_158 (pc' := 160) rfl rfl ?_
      refine s_lconst C at_160 (pc' := 161) rfl (1 : Int64) rfl ?_
      refine s_lc_ne C at_161 (pc1 := 162) rfl at_162 (pc' := 165) rfl (pcY := 169) rfl (fun c48 => ?_) (fun c48 => ?_)
      · skip
        refine s_iconst C at_169 (pc' := 170) rfl (0 : Int32) rfl ?_
        refine s_istoreP C at_170 (pc' := 172) rfl #[.val (.long x1), .second, .val (.long x2), .second, .val (.long x3), .second, .val (.long x4), .second, .val (.long x5), .second, .val (.int x6), .val (.long v1), .second, .val (.int v2), .val (.ref a3), .val (.ref a16), .val (.ref a30), .val (.ref a30), .val (.int (0 : Int32)), .unset, .unset, .unset, .unset, .unset, .unset, .unset, .unset, .unset, .unset, .unset, .unset, .unset] rfl ?_
        refine s_iload C at_172 (pc' := 174) rfl rfl ?_
        refine s_if_eq C at_174 (pc' := 177) rfl (pcY := 182) rfl (fun c49 => ?_) (fun hc => by exfalso; revert hc; decide)
        refine s_lloadN C at_182 (pc' := 183) rfl rfl ?_
        refine s_lstoreP C at_183 (pc' := 185) rfl #[.val (.long x1), .second, .val (.long x2), .second, .val (.long x3), .second, .val (.long x4), .second, .val (.long x5), .second, .val (.int x6), .val (.long v1), .second, .val (.int v2), .val (.ref a3), .val (.ref a16), .val (.ref a30), .val (.ref a30), .val (.int (0 : Int32)), .val (.long x1), .second, .unset, .unset, .unset, .unset, .unset, .unset, .unset, .unset, .unset, .unset, .unset] rfl ?_
        refine s_iload C at_185 (pc' := 187) rfl rfl ?_
        refine s_if_eq C at_187 (pc' := 190) rfl (pcY := 195) rfl (fun c50 => ?_) (fun hc => by exfalso; revert hc; decide)
        refine s_lloadN C at_195 (pc' := 196) rfl rfl ?_
        refine s_lstoreP C at_196 (pc' := 198) rfl #[.val (.long x1), .second, .val (.long x2), .second, .val (.long x3), .second, .val (.long x4), .second, .val (.long x5), .second, .val (.int x6), .val (.long v1), .second, .val (.int v2), .val (.ref a3), .val (.ref a16), .val (.ref a30), .val (.ref a30), .val (.int (0 : Int32)), .val (.long x1), .second, .val (.long x2), .second, .unset, .unset, .unset, .unset, .unset, .unset, .unset, .unset, .unset] rfl ?_
        refine s_iload C at_198 (pc' := 200) rfl rfl ?_
        refine s_if_eq C at_200 (pc' := 203) rfl (pcY := 211) rfl (fun c51 => ?_) (fun hc => by exfalso; revert hc; decide)
        refine s_lloadN C at_211 (pc' := 212) rfl rfl ?_
        refine s_lloadN C at_212 (pc' := 213) rfl rfl ?_
        refine s_lxor C at_213 (pc' := 214) rfl ?_
        refine s_lstoreP C at_214 (pc' := 216) rfl #[.val (.long x1), .second, .val (.long x2), .second, .val (.long x3), .second, .val (.long x4), .second, .val (.long x5), .second, .val (.int x6), .val (.long v1), .second, .val (.int v2), .val (.ref a3), .val (.ref a16), .val (.ref a30), .val (.ref a30), .val (.int (0 : Int32)), .val (.long x1), .second, .val (.long x2), .second, .val (.long (x1 ^^^ x2)), .second, .unset, .unset, .unset, .unset, .unset, .unset, .unset] rfl ?_
        refine s_iload C at_216 (pc' := 218) rfl rfl ?_
        refine s_if_eq C at_218 (pc' := 221) rfl (pcY := 229) rfl (fun c52 => ?_) (fun hc => by exfalso; revert hc; decide)
        refine s_lloadN C at_229 (pc' := 230) rfl rfl ?_
        refine s_lload C at_230 (pc' := 232) rfl rfl ?_
        refine s_ladd C at_232 (pc' := 233) rfl ?_
        refine s_lstoreP C at_233 (pc' := 235) rfl #[.val (.long x1), .second, .val (.long x2), .second, .val (.long x3), .second, .val (.long x4), .second, .val (.long x5), .second, .val (.int x6), .val (.long v1), .second, .val (.int v2), .val (.ref a3), .val (.ref a16), .val (.ref a30), .val (.ref a30), .val (.int (0 : Int32)), .val (.long x1), .second, .val (.long x2), .second, .val (.long (x1 ^^^ x2)), .second, .val (.long (x1 + x5)), .second, .unset, .unset, .unset, .unset, .unset] rfl ?_
        refine s_iload C at_235 (pc' := 237) rfl rfl ?_
        refine s_if_eq C at_237 (pc' := 240) rfl (pcY := 249) rfl (fun c53 => ?_) (fun hc => by exfalso; revert hc; decide)
        refine s_lloadN C at_249 (pc' := 250) rfl rfl ?_
        refine s_ldc2 C at_250 (pc' := 253) rfl (w1 hw) ?_
        refine s_lxor C at_253 (pc' := 254) rfl ?_
        refine s_lstoreP C at_254 (pc' := 256) rfl #[.val (.long x1), .second, .val (.long x2), .second, .val (.long x3), .second, .val (.long x4), .second, .val (.long x5), .second, .val (.int x6), .val (.long v1), .second, .val (.int v2), .val (.ref a3), .val (.ref a16), .val (.ref a30), .val (.ref a30), .val (.int (0 : Int32)), .val (.long x1), .second, .val (.long x2), .second, .val (.long (x1 ^^^ x2)), .second, .val (.long (x1 + x5)), .second, .val (.long (x2 ^^^ (-1 : Int64))), .second, .unset, .unset, .unset] rfl ?_
        refine s_aload C at_256 (pc' := 258) rfl rfl rfl ?_
        refine s_lload C at_258 (pc' := 260) rfl rfl ?_
        refine s_aload C at_260 (pc' := 262) rfl rfl rfl ?_
        refine s_aload C at_262 (pc' := 264) rfl rfl rfl ?_
        have Vx54 := ((((((Vx32.ext E30).other W36 ne33).other W38 ne33).other W40 ne33).other W42 ne33).other W44 ne33)
        have Vx55 := ((((((A28.ext E30).other W36 ne31).other W38 ne31).other W40 ne31).other W42 ne31).other W44 ne31)
        refine s_callS0 C at_264 (pc' := 267) rfl (w2 hw) (w3 hw) (w4 hw) (w5 hw) (by decide) [(.ref a30), (.long v1), (.ref a3), (.ref a16)] [] pd0 rfl rfl (c_self l Z a0 hw a30 v1 a3 a16 x1 x2 (x1 ^^^ x2) (x1 + x5) (x2 ^^^ (-1 : Int64)) x3 x4 (x3 ^^^ x4) (x3 - x5) (x4 ^^^ (-1 : Int64)) x5 (x5 ^^^ (-1 : Int64)) (x5 ^^^ x1) (x5 ^^^ x3) (x5 + (1 : Int64)) h44 n0 sz45 ne17 gn34 Vx54 Vx55 A44 ne33 ne31) rfl (W := 0) rfl (by decide) (by decide) (k' := 3) rfl (by decide) (n' := 15) rfl (by decide) (fun h56 q56 => ?_)
        obtain ⟨K56, Vr56⟩ := q56
        have sz57 : n0 ≤ h56.size := (Nat.le_trans sz45 K56.1)
        refine s_aload C at_267 (pc' := 269) rfl rfl rfl ?_
        refine s_iconst C at_269 (pc' := 270) rfl (0 : Int32) rfl ?_
        refine s_laload C at_270 (pc' := 271) rfl Vr56 0 (by decide) rfl ?_
        refine s_lload C at_271 (pc' := 273) rfl rfl ?_
        refine s_lc_ne C at_273 (pc1 := 274) rfl at_274 (pc' := 277) rfl (pcY := 321) rfl (fun hc => by exfalso; exact hc (own_x0 _ _ _ (own_not1 (hv1 ▸ own_bit _) c48))) (fun c58 => ?_)
        refine s_aload C at_277 (pc' := 279) rfl rfl rfl ?_
        refine s_iconst C at_279 (pc' := 280) rfl (1 : Int32) rfl ?_
        refine s_laload C at_280 (pc' := 281) rfl Vr56 1 (by decide) rfl ?_
        refine s_lload C at_281 (pc' := 283) rfl rfl ?_
        refine s_lc_ne C at_283 (pc1 := 284) rfl at_284 (pc' := 287) rfl (pcY := 321) rfl (fun hc => by exfalso; exact hc (own_x0 _ _ _ (own_not1 (hv1 ▸ own_bit _) c48))) (fun c59 => ?_)
        refine s_aload C at_287 (pc' := 289) rfl rfl rfl ?_
        refine s_iconst C at_289 (pc' := 290) rfl (2 : Int32) rfl ?_
        refine s_laload C at_290 (pc' := 291) rfl Vr56 2 (by decide) rfl ?_
        refine s_lload C at_291 (pc' := 293) rfl rfl ?_
        refine s_lc_ne C at_293 (pc1 := 294) rfl at_294 (pc' := 297) rfl (pcY := 321) rfl (fun hc => by exfalso; exact hc (own_x0 _ _ _ (own_not1 (hv1 ▸ own_bit _) c48))) (fun c60 => ?_)
        refine s_aload C at_297 (pc' := 299) rfl rfl rfl ?_
        refine s_iconst C at_299 (pc' := 300) rfl (3 : Int32) rfl ?_
        refine s_laload C at_300 (pc' := 301) rfl Vr56 3 (by decide) rfl ?_
        refine s_lload C at_301 (pc' := 303) rfl rfl ?_
        refine s_lc_ne C at_303 (pc1 := 304) rfl at_304 (pc' := 307) rfl (pcY := 321) rfl (fun hc => by exfalso; exact hc (own_x0 _ _ _ (own_not1 (hv1 ▸ own_bit _) c48))) (fun c61 => ?_)
        refine s_aload C at_307 (pc' := 309) rfl rfl rfl ?_
        refine s_iconst C at_309 (pc' := 310) rfl (4 : Int32) rfl ?_
        refine s_laload C at_310 (pc' := 311) rfl Vr56 4 (by decide) rfl ?_
        refine s_lload C at_311 (pc' := 313) rfl rfl ?_
        refine s_lc_ne C at_313 (pc1 := 314) rfl at_314 (pc' := 317) rfl (pcY := 321) rfl (fun hc => by exfalso; exact hc (own_x0 _ _ _ (own_not1 (hv1 ▸ own_bit _) c48))) (fun c62 => ?_)
        refine s_iconst C at_317 (pc' := 318) rfl (1 : Int32) rfl ?_
        refine s_goto C at_318 (pc' := 322) rfl ?_
        refine s_istoreP C at_322 (pc' := 324) rfl #[.val (.long x1), .second, .val (.long x2), .second, .val (.long x3), .second, .val (.long x4), .second, .val (.long x5), .second, .val (.int x6), .val (.long v1), .second, .val (.int v2), .val (.ref a3), .val (.ref a16), .val (.ref a30), .val (.ref a30), .val (.int (0 : Int32)), .val (.long x1), .second, .val (.long x2), .second, .val (.long (x1 ^^^ x2)), .second, .val (.long (x1 + x5)), .second, .val (.long (x2 ^^^ (-1 : Int64))), .second, .val (.int (1 : Int32)), .unset, .unset] rfl ?_
        refine s_iload C at_324 (pc' := 326) rfl rfl ?_
        refine s_iconst C at_326 (pc' := 327) rfl (1 : Int32) rfl ?_
        refine s_icmp_eq C at_327 (pc' := 330) rfl (pcY := 384) rfl (fun hc => by exfalso; exact c46 hc) (fun c63 => ?_)
        refine s_aload C at_330 (pc' := 332) rfl rfl rfl ?_
        refine s_iconst C at_332 (pc' := 333) rfl (0 : Int32) rfl ?_
        have Vx64 := (Vx54.keep K56 (ninS ne33 nin0))
        refine s_laload C at_333 (pc' := 334) rfl Vx64 0 (by decide) rfl ?_
        refine s_lloadN C at_334 (pc' := 335) rfl rfl ?_
        refine s_lc_ne C at_335 (pc1 := 336) rfl at_336 (pc' := 339) rfl (pcY := 388) rfl (fun hc => by exfalso; first | exact hc rfl | (simp at hc)) (fun c65 => ?_)
        refine s_aload C at_339 (pc' := 341) rfl rfl rfl ?_
        refine s_iconst C at_341 (pc' := 342) rfl (1 : Int32) rfl ?_
        refine s_laload C at_342 (pc' := 343) rfl Vx64 1 (by decide) rfl ?_
        refine s_lloadN C at_343 (pc' := 344) rfl rfl ?_
        refine s_lc_ne C at_344 (pc1 := 345) rfl at_345 (pc' := 348) rfl (pcY := 388) rfl (fun hc => by exfalso; first | exact hc rfl | (simp at hc)) (fun c66 => ?_)
        refine s_aload C at_348 (pc' := 350) rfl rfl rfl ?_
        refine s_iconst C at_350 (pc' := 351) rfl (2 : Int32) rfl ?_
        refine s_laload C at_351 (pc' := 352) rfl Vx64 2 (by decide) rfl ?_
        refine s_lloadN C at_352 (pc' := 353) rfl rfl ?_
        refine s_lloadN C at_353 (pc' := 354) rfl rfl ?_
        refine s_lxor C at_354 (pc' := 355) rfl ?_
        refine s_lc_ne C at_355 (pc1 := 356) rfl at_356 (pc' := 359) rfl (pcY := 388) rfl (fun hc => by exfalso; first | exact hc rfl | (simp at hc)) (fun c67 => ?_)
        refine s_aload C at_359 (pc' := 361) rfl rfl rfl ?_
        refine s_iconst C at_361 (pc' := 362) rfl (3 : Int32) rfl ?_
        refine s_laload C at_362 (pc' := 363) rfl Vx64 3 (by decide) rfl ?_
        refine s_lloadN C at_363 (pc' := 364) rfl rfl ?_
        refine s_lload C at_364 (pc' := 366) rfl rfl ?_
        refine s_ladd C at_366 (pc' := 367) rfl ?_
        refine s_lc_ne C at_367 (pc1 := 368) rfl at_368 (pc' := 371) rfl (pcY := 388) rfl (fun hc => by exfalso; first | exact hc rfl | (simp at hc)) (fun c68 => ?_)
        refine s_aload C at_371 (pc' := 373) rfl rfl rfl ?_
        refine s_iconst C at_373 (pc' := 374) rfl (4 : Int32) rfl ?_
        refine s_laload C at_374 (pc' := 375) rfl Vx64 4 (by decide) rfl ?_
        refine s_lloadN C at_375 (pc' := 376) rfl rfl ?_
        refine s_ldc2 C at_376 (pc' := 379) rfl (w1 hw) ?_
        refine s_lxor C at_379 (pc' := 380) rfl ?_
        refine s_lc_ne C at_380 (pc1 := 381) rfl at_381 (pc' := 384) rfl (pcY := 388) rfl (fun hc => by exfalso; first | exact hc rfl | (simp at hc)) (fun c69 => ?_)
        refine s_iconst C at_384 (pc' := 385) rfl (1 : Int32) rfl ?_
        refine s_goto C at_385 (pc' := 389) rfl ?_
        refine s_istoreP C at_389 (pc' := 391) rfl #[.val (.long x1), .second, .val (.long x2), .second, .val (.long x3), .second, .val (.long x4), .second, .val (.long x5), .second, .val (.int x6), .val (.long v1), .second, .val (.int v2), .val (.ref a3), .val (.ref a16), .val (.ref a30), .val (.ref a30), .val (.int (0 : Int32)), .val (.long x1), .second, .val (.long x2), .second, .val (.long (x1 ^^^ x2)), .second, .val (.long (x1 + x5)), .second, .val (.long (x2 ^^^ (-1 : Int64))), .second, .val (.int (1 : Int32)), .val (.int (1 : Int32)), .unset] rfl ?_
        refine s_iload C at_391 (pc' := 393) rfl rfl ?_
        refine s_iconst C at_393 (pc' := 394) rfl (2 : Int32) rfl ?_
        refine s_icmp_eq C at_394 (pc' := 397) rfl (pcY := 457) rfl (fun hc => by exfalso; exact c47 hc) (fun c70 => ?_)
        refine s_aload C at_397 (pc' := 399) rfl rfl rfl ?_
        refine s_iconst C at_399 (pc' := 400) rfl (0 : Int32) rfl ?_
        have Vx71 := (Vx55.keep K56 (ninS ne31 nin0))
        refine s_laload C at_400 (pc' := 401) rfl Vx71 0 (by decide) rfl ?_
        refine s_lload C at_401 (pc' := 403) rfl rfl ?_
        refine s_lc_ne C at_403 (pc1 := 404) rfl at_404 (pc' := 407) rfl (pcY := 461) rfl (fun hc => by exfalso; first | exact hc rfl | (simp at hc)) (fun c72 => ?_)
        refine s_aload C at_407 (pc' := 409) rfl rfl rfl ?_
        refine s_iconst C at_409 (pc' := 410) rfl (1 : Int32) rfl ?_
        refine s_laload C at_410 (pc' := 411) rfl Vx71 1 (by decide) rfl ?_
        refine s_lload C at_411 (pc' := 413) rfl rfl ?_
        refine s_lc_ne C at_413 (pc1 := 414) rfl at_414 (pc' := 417) rfl (pcY := 461) rfl (fun hc => by exfalso; first | exact hc rfl | (simp at hc)) (fun c73 => ?_)
        refine s_aload C at_417 (pc' := 419) rfl rfl rfl ?_
        refine s_iconst C at_419 (pc' := 420) rfl (2 : Int32) rfl ?_
        refine s_laload C at_420 (pc' := 421) rfl Vx71 2 (by decide) rfl ?_
        refine s_lload C at_421 (pc' := 423) rfl rfl ?_
        refine s_lload C at_423 (pc' := 425) rfl rfl ?_
        refine s_lxor C at_425 (pc' := 426) rfl ?_
        refine s_lc_ne C at_426 (pc1 := 427) rfl at_427 (pc' := 430) rfl (pcY := 461) rfl (fun hc => by exfalso; first | exact hc rfl | (simp at hc)) (fun c74 => ?_)
        refine s_aload C at_430 (pc' := 432) rfl rfl rfl ?_
        refine s_iconst C at_432 (pc' := 433) rfl (3 : Int32) rfl ?_
        refine s_laload C at_433 (pc' := 434) rfl Vx71 3 (by decide) rfl ?_
        refine s_lload C at_434 (pc' := 436) rfl rfl ?_
        refine s_lload C at_436 (pc' := 438) rfl rfl ?_
        refine s_lsub C at_438 (pc' := 439) rfl ?_
        refine s_lc_ne C at_439 (pc1 := 440) rfl at_440 (pc' := 443) rfl (pcY := 461) rfl (fun hc => by exfalso; first | exact hc rfl | (simp at hc)) (fun c75 => ?_)
        refine s_aload C at_443 (pc' := 445) rfl rfl rfl ?_
        refine s_iconst C at_445 (pc' := 446) rfl (4 : Int32) rfl ?_
        refine s_laload C at_446 (pc' := 447) rfl Vx71 4 (by decide) rfl ?_
        refine s_lload C at_447 (pc' := 449) rfl rfl ?_
        refine s_ldc2 C at_449 (pc' := 452) rfl (w1 hw) ?_
        refine s_lxor C at_452 (pc' := 453) rfl ?_
        refine s_lc_ne C at_453 (pc1 := 454) rfl at_454 (pc' := 457) rfl (pcY := 461) rfl (fun hc => by exfalso; first | exact hc rfl | (simp at hc)) (fun c76 => ?_)
        refine s_iconst C at_457 (pc' := 458) rfl (1 : Int32) rfl ?_
        refine s_goto C at_458 (pc' := 462) rfl ?_
        refine s_istoreP C at_462 (pc' := 464) rfl #[.val (.long x1), .second, .val (.long x2), .second, .val (.long x3), .second, .val (.long x4), .second, .val (.long x5), .second, .val (.int x6), .val (.long v1), .second, .val (.int v2), .val (.ref a3), .val (.ref a16), .val (.ref a30), .val (.ref a30), .val (.int (0 : Int32)), .val (.long x1), .second, .val (.long x2), .second, .val (.long (x1 ^^^ x2)), .second, .val (.long (x1 + x5)), .second, .val (.long (x2 ^^^ (-1 : Int64))), .second, .val (.int (1 : Int32)), .val (.int (1 : Int32)), .val (.int (1 : Int32))] rfl ?_
        refine s_iload C at_464 (pc' := 466) rfl rfl ?_
        refine s_if_eq C at_466 (pc' := 469) rfl (pcY := 483) rfl (fun hc => by exfalso; revert hc; decide) (fun c77 => ?_)
        refine s_iload C at_469 (pc' := 471) rfl rfl ?_
        refine s_if_eq C at_471 (pc' := 474) rfl (pcY := 483) rfl (fun hc => by exfalso; revert hc; decide) (fun c78 => ?_)
        refine s_iload C at_474 (pc' := 476) rfl rfl ?_
        refine s_if_eq C at_476 (pc' := 479) rfl (pcY := 483) rfl (fun hc => by exfalso; revert hc; decide) (fun c79 => ?_)
        refine s_iconst C at_479 (pc' := 480) rfl (1 : Int32) rfl ?_
        refine s_goto C at_480 (pc' := 484) rfl ?_
        exact s_retN C (by simp) at_484 (by decide) (by decide) rfl
      · skip
        refine s_iconst C at_165 (pc' := 166) rfl (1 : Int32) rfl ?_
        refine s_goto C at_166 (pc' := 170) rfl ?_
        refine s_istoreP C at_170 (pc' := 172) rfl #[.val (.long x1), .second, .val (.long x2), .second, .val (.long x3), .second, .val (.long x4), .second, .val (.long x5), .second, .val (.int x6), .val (.long v1), .second, .val (.int v2), .val (.ref a3), .val (.ref a16), .val (.ref a30), .val (.ref a30), .val (.int (1 : Int32)), .unset, .unset, .unset, .unset, .unset, .unset, .unset, .unset, .unset, .unset, .unset, .unset, .unset] rfl ?_
        refine s_iload C at_172 (pc' := 174) rfl rfl ?_
        refine s_if_eq C at_174 (pc' := 177) rfl (pcY := 182) rfl (fun hc => by exfalso; revert hc; decide) (fun c80 => ?_)
        refine s_lload C at_177 (pc' := 179) rfl rfl ?_
        refine s_goto C at_179 (pc' := 183) rfl ?_
        refine s_lstoreP C at_183 (pc' := 185) rfl #[.val (.long x1), .second, .val (.long x2), .second, .val (.long x3), .second, .val (.long x4), .second, .val (.long x5), .second, .val (.int x6), .val (.long v1), .second, .val (.int v2), .val (.ref a3), .val (.ref a16), .val (.ref a30), .val (.ref a30), .val (.int (1 : Int32)), .val (.long x3), .second, .unset, .unset, .unset, .unset, .unset, .unset, .unset, .unset, .unset, .unset, .unset] rfl ?_
        refine s_iload C at_185 (pc' := 187) rfl rfl ?_
        refine s_if_eq C at_187 (pc' := 190) rfl (pcY := 195) rfl (fun hc => by exfalso; revert hc; decide) (fun c81 => ?_)
        refine s_lload C at_190 (pc' := 192) rfl rfl ?_
        refine s_goto C at_192 (pc' := 196) rfl ?_
        refine s_lstoreP C at_196 (pc' := 198) rfl #[.val (.long x1), .second, .val (.long x2), .second, .val (.long x3), .second, .val (.long x4), .second, .val (.long x5), .second, .val (.int x6), .val (.long v1), .second, .val (.int v2), .val (.ref a3), .val (.ref a16), .val (.ref a30), .val (.ref a30), .val (.int (1 : Int32)), .val (.long x3), .second, .val (.long x4), .second, .unset, .unset, .unset, .unset, .unset, .unset, .unset, .unset, .unset] rfl ?_
        refine s_iload C at_198 (pc' := 200) rfl rfl ?_
        refine s_if_eq C at_200 (pc' := 203) rfl (pcY := 211) rfl (fun hc => by exfalso; revert hc; decide) (fun c82 => ?_)
        refine s_lload C at_203 (pc' := 205) rfl rfl ?_
        refine s_lload C at_205 (pc' := 207) rfl rfl ?_
        refine s_lxor C at_207 (pc' := 208) rfl ?_
        refine s_goto C at_208 (pc' := 214) rfl ?_
        refine s_lstoreP C at_214 (pc' := 216) rfl #[.val (.long x1), .second, .val (.long x2), .second, .val (.long x3), .second, .val (.long x4), .second, .val (.long x5), .second, .val (.int x6), .val (.long v1), .second, .val (.int v2), .val (.ref a3), .val (.ref a16), .val (.ref a30), .val (.ref a30), .val (.int (1 : Int32)), .val (.long x3), .second, .val (.long x4), .second, .val (.long (x3 ^^^ x4)), .second, .unset, .unset, .unset, .unset, .unset, .unset, .unset] rfl ?_
        refine s_iload C at_216 (pc' := 218) rfl rfl ?_
        refine s_if_eq C at_218 (pc' := 221) rfl (pcY := 229) rfl (fun hc => by exfalso; revert hc; decide) (fun c83 => ?_)
        refine s_lload C at_221 (pc' := 223) rfl rfl ?_
        refine s_lload C at_223 (pc' := 225) rfl rfl ?_
        refine s_lsub C at_225 (pc' := 226) rfl ?_
        refine s_goto C at_226 (pc' := 233) rfl ?_
        refine s_lstoreP C at_233 (pc' := 235) rfl #[.val (.long x1), .second, .val (.long x2), .second, .val (.long x3), .second, .val (.long x4), .second, .val (.long x5), .second, .val (.int x6), .val (.long v1), .second, .val (.int v2), .val (.ref a3), .val (.ref a16), .val (.ref a30), .val (.ref a30), .val (.int (1 : Int32)), .val (.long x3), .second, .val (.long x4), .second, .val (.long (x3 ^^^ x4)), .second, .val (.long (x3 - x5)), .second, .unset, .unset, .unset, .unset, .unset] rfl ?_
        refine s_iload C at_235 (pc' := 237) rfl rfl ?_
        refine s_if_eq C at_237 (pc' := 240) rfl (pcY := 249) rfl (fun hc => by exfalso; revert hc; decide) (fun c84 => ?_)
        refine s_lload C at_240 (pc' := 242) rfl rfl ?_
        refine s_ldc2 C at_242 (pc' := 245) rfl (w1 hw) ?_
        refine s_lxor C at_245 (pc' := 246) rfl ?_
        refine s_goto C at_246 (pc' := 254) rfl ?_
        refine s_lstoreP C at_254 (pc' := 256) rfl #[.val (.long x1), .second, .val (.long x2), .second, .val (.long x3), .second, .val (.long x4), .second, .val (.long x5), .second, .val (.int x6), .val (.long v1), .second, .val (.int v2), .val (.ref a3), .val (.ref a16), .val (.ref a30), .val (.ref a30), .val (.int (1 : Int32)), .val (.long x3), .second, .val (.long x4), .second, .val (.long (x3 ^^^ x4)), .second, .val (.long (x3 - x5)), .second, .val (.long (x4 ^^^ (-1 : Int64))), .second, .unset, .unset, .unset] rfl ?_
        refine s_aload C at_256 (pc' := 258) rfl rfl rfl ?_
        refine s_lload C at_258 (pc' := 260) rfl rfl ?_
        refine s_aload C at_260 (pc' := 262) rfl rfl rfl ?_
        refine s_aload C at_262 (pc' := 264) rfl rfl rfl ?_
        have Vx85 := ((((((Vx32.ext E30).other W36 ne33).other W38 ne33).other W40 ne33).other W42 ne33).other W44 ne33)
        have Vx86 := ((((((A28.ext E30).other W36 ne31).other W38 ne31).other W40 ne31).other W42 ne31).other W44 ne31)
        refine s_callS0 C at_264 (pc' := 267) rfl (w2 hw) (w3 hw) (w4 hw) (w5 hw) (by decide) [(.ref a30), (.long v1), (.ref a3), (.ref a16)] [] pd0 rfl rfl (c_self l Z a0 hw a30 v1 a3 a16 x1 x2 (x1 ^^^ x2) (x1 + x5) (x2 ^^^ (-1 : Int64)) x3 x4 (x3 ^^^ x4) (x3 - x5) (x4 ^^^ (-1 : Int64)) x5 (x5 ^^^ (-1 : Int64)) (x5 ^^^ x1) (x5 ^^^ x3) (x5 + (1 : Int64)) h44 n0 sz45 ne17 gn34 Vx85 Vx86 A44 ne33 ne31) rfl (W := 0) rfl (by decide) (by decide) (k' := 3) rfl (by decide) (n' := 15) rfl (by decide) (fun h87 q87 => ?_)
        obtain ⟨K87, Vr87⟩ := q87
        have sz88 : n0 ≤ h87.size := (Nat.le_trans sz45 K87.1)
        refine s_aload C at_267 (pc' := 269) rfl rfl rfl ?_
        refine s_iconst C at_269 (pc' := 270) rfl (0 : Int32) rfl ?_
        refine s_laload C at_270 (pc' := 271) rfl Vr87 0 (by decide) rfl ?_
        refine s_lload C at_271 (pc' := 273) rfl rfl ?_
        refine s_lc_ne C at_273 (pc1 := 274) rfl at_274 (pc' := 277) rfl (pcY := 321) rfl (fun hc => by exfalso; exact hc (own_x1 _ _ _ c48)) (fun c89 => ?_)
        refine s_aload C at_277 (pc' := 279) rfl rfl rfl ?_
        refine s_iconst C at_279 (pc' := 280) rfl (1 : Int32) rfl ?_
        refine s_laload C at_280 (pc' := 281) rfl Vr87 1 (by decide) rfl ?_
        refine s_lload C at_281 (pc' := 283) rfl rfl ?_
        refine s_lc_ne C at_283 (pc1 := 284) rfl at_284 (pc' := 287) rfl (pcY := 321) rfl (fun hc => by exfalso; exact hc (own_x1 _ _ _ c48)) (fun c90 => ?_)
        refine s_aload C at_287 (pc' := 289) rfl rfl rfl ?_
        refine s_iconst C at_289 (pc' := 290) rfl (2 : Int32) rfl ?_
        refine s_laload C at_290 (pc' := 291) rfl Vr87 2 (by decide) rfl ?_
        refine s_lload C at_291 (pc' := 293) rfl rfl ?_
        refine s_lc_ne C at_293 (pc1 := 294) rfl at_294 (pc' := 297) rfl (pcY := 321) rfl (fun hc => by exfalso; exact hc (own_x1 _ _ _ c48)) (fun c91 => ?_)
        refine s_aload C at_297 (pc' := 299) rfl rfl rfl ?_
        refine s_iconst C at_299 (pc' := 300) rfl (3 : Int32) rfl ?_
        refine s_laload C at_300 (pc' := 301) rfl Vr87 3 (by decide) rfl ?_
        refine s_lload C at_301 (pc' := 303) rfl rfl ?_
        refine s_lc_ne C at_303 (pc1 := 304) rfl at_304 (pc' := 307) rfl (pcY := 321) rfl (fun hc => by exfalso; exact hc (own_x1 _ _ _ c48)) (fun c92 => ?_)
        refine s_aload C at_307 (pc' := 309) rfl rfl rfl ?_
        refine s_iconst C at_309 (pc' := 310) rfl (4 : Int32) rfl ?_
        refine s_laload C at_310 (pc' := 311) rfl Vr87 4 (by decide) rfl ?_
        refine s_lload C at_311 (pc' := 313) rfl rfl ?_
        refine s_lc_ne C at_313 (pc1 := 314) rfl at_314 (pc' := 317) rfl (pcY := 321) rfl (fun hc => by exfalso; exact hc (own_x1 _ _ _ c48)) (fun c93 => ?_)
        refine s_iconst C at_317 (pc' := 318) rfl (1 : Int32) rfl ?_
        refine s_goto C at_318 (pc' := 322) rfl ?_
        refine s_istoreP C at_322 (pc' := 324) rfl #[.val (.long x1), .second, .val (.long x2), .second, .val (.long x3), .second, .val (.long x4), .second, .val (.long x5), .second, .val (.int x6), .val (.long v1), .second, .val (.int v2), .val (.ref a3), .val (.ref a16), .val (.ref a30), .val (.ref a30), .val (.int (1 : Int32)), .val (.long x3), .second, .val (.long x4), .second, .val (.long (x3 ^^^ x4)), .second, .val (.long (x3 - x5)), .second, .val (.long (x4 ^^^ (-1 : Int64))), .second, .val (.int (1 : Int32)), .unset, .unset] rfl ?_
        refine s_iload C at_324 (pc' := 326) rfl rfl ?_
        refine s_iconst C at_326 (pc' := 327) rfl (1 : Int32) rfl ?_
        refine s_icmp_eq C at_327 (pc' := 330) rfl (pcY := 384) rfl (fun hc => by exfalso; exact c46 hc) (fun c94 => ?_)
        refine s_aload C at_330 (pc' := 332) rfl rfl rfl ?_
        refine s_iconst C at_332 (pc' := 333) rfl (0 : Int32) rfl ?_
        have Vx95 := (Vx85.keep K87 (ninS ne33 nin0))
        refine s_laload C at_333 (pc' := 334) rfl Vx95 0 (by decide) rfl ?_
        refine s_lloadN C at_334 (pc' := 335) rfl rfl ?_
        refine s_lc_ne C at_335 (pc1 := 336) rfl at_336 (pc' := 339) rfl (pcY := 388) rfl (fun hc => by exfalso; first | exact hc rfl | (simp at hc)) (fun c96 => ?_)
        refine s_aload C at_339 (pc' := 341) rfl rfl rfl ?_
        refine s_iconst C at_341 (pc' := 342) rfl (1 : Int32) rfl ?_
        refine s_laload C at_342 (pc' := 343) rfl Vx95 1 (by decide) rfl ?_
        refine s_lloadN C at_343 (pc' := 344) rfl rfl ?_
        refine s_lc_ne C at_344 (pc1 := 345) rfl at_345 (pc' := 348) rfl (pcY := 388) rfl (fun hc => by exfalso; first | exact hc rfl | (simp at hc)) (fun c97 => ?_)
        refine s_aload C at_348 (pc' := 350) rfl rfl rfl ?_
        refine s_iconst C at_350 (pc' := 351) rfl (2 : Int32) rfl ?_
        refine s_laload C at_351 (pc' := 352) rfl Vx95 2 (by decide) rfl ?_
        refine s_lloadN C at_352 (pc' := 353) rfl rfl ?_
        refine s_lloadN C at_353 (pc' := 354) rfl rfl ?_
        refine s_lxor C at_354 (pc' := 355) rfl ?_
        refine s_lc_ne C at_355 (pc1 := 356) rfl at_356 (pc' := 359) rfl (pcY := 388) rfl (fun hc => by exfalso; first | exact hc rfl | (simp at hc)) (fun c98 => ?_)
        refine s_aload C at_359 (pc' := 361) rfl rfl rfl ?_
        refine s_iconst C at_361 (pc' := 362) rfl (3 : Int32) rfl ?_
        refine s_laload C at_362 (pc' := 363) rfl Vx95 3 (by decide) rfl ?_
        refine s_lloadN C at_363 (pc' := 364) rfl rfl ?_
        refine s_lload C at_364 (pc' := 366) rfl rfl ?_
        refine s_ladd C at_366 (pc' := 367) rfl ?_
        refine s_lc_ne C at_367 (pc1 := 368) rfl at_368 (pc' := 371) rfl (pcY := 388) rfl (fun hc => by exfalso; first | exact hc rfl | (simp at hc)) (fun c99 => ?_)
        refine s_aload C at_371 (pc' := 373) rfl rfl rfl ?_
        refine s_iconst C at_373 (pc' := 374) rfl (4 : Int32) rfl ?_
        refine s_laload C at_374 (pc' := 375) rfl Vx95 4 (by decide) rfl ?_
        refine s_lloadN C at_375 (pc' := 376) rfl rfl ?_
        refine s_ldc2 C at_376 (pc' := 379) rfl (w1 hw) ?_
        refine s_lxor C at_379 (pc' := 380) rfl ?_
        refine s_lc_ne C at_380 (pc1 := 381) rfl at_381 (pc' := 384) rfl (pcY := 388) rfl (fun hc => by exfalso; first | exact hc rfl | (simp at hc)) (fun c100 => ?_)
        refine s_iconst C at_384 (pc' := 385) rfl (1 : Int32) rfl ?_
        refine s_goto C at_385 (pc' := 389) rfl ?_
        refine s_istoreP C at_389 (pc' := 391) rfl #[.val (.long x1), .second, .val (.long x2), .second, .val (.long x3), .second, .val (.long x4), .second, .val (.long x5), .second, .val (.int x6), .val (.long v1), .second, .val (.int v2), .val (.ref a3), .val (.ref a16), .val (.ref a30), .val (.ref a30), .val (.int (1 : Int32)), .val (.long x3), .second, .val (.long x4), .second, .val (.long (x3 ^^^ x4)), .second, .val (.long (x3 - x5)), .second, .val (.long (x4 ^^^ (-1 : Int64))), .second, .val (.int (1 : Int32)), .val (.int (1 : Int32)), .unset] rfl ?_
        refine s_iload C at_391 (pc' := 393) rfl rfl ?_
        refine s_iconst C at_393 (pc' := 394) rfl (2 : Int32) rfl ?_
        refine s_icmp_eq C at_394 (pc' := 397) rfl (pcY := 457) rfl (fun hc => by exfalso; exact c47 hc) (fun c101 => ?_)
        refine s_aload C at_397 (pc' := 399) rfl rfl rfl ?_
        refine s_iconst C at_399 (pc' := 400) rfl (0 : Int32) rfl ?_
        have Vx102 := (Vx86.keep K87 (ninS ne31 nin0))
        refine s_laload C at_400 (pc' := 401) rfl Vx102 0 (by decide) rfl ?_
        refine s_lload C at_401 (pc' := 403) rfl rfl ?_
        refine s_lc_ne C at_403 (pc1 := 404) rfl at_404 (pc' := 407) rfl (pcY := 461) rfl (fun hc => by exfalso; first | exact hc rfl | (simp at hc)) (fun c103 => ?_)
        refine s_aload C at_407 (pc' := 409) rfl rfl rfl ?_
        refine s_iconst C at_409 (pc' := 410) rfl (1 : Int32) rfl ?_
        refine s_laload C at_410 (pc' := 411) rfl Vx102 1 (by decide) rfl ?_
        refine s_lload C at_411 (pc' := 413) rfl rfl ?_
        refine s_lc_ne C at_413 (pc1 := 414) rfl at_414 (pc' := 417) rfl (pcY := 461) rfl (fun hc => by exfalso; first | exact hc rfl | (simp at hc)) (fun c104 => ?_)
        refine s_aload C at_417 (pc' := 419) rfl rfl rfl ?_
        refine s_iconst C at_419 (pc' := 420) rfl (2 : Int32) rfl ?_
        refine s_laload C at_420 (pc' := 421) rfl Vx102 2 (by decide) rfl ?_
        refine s_lload C at_421 (pc' := 423) rfl rfl ?_
        refine s_lload C at_423 (pc' := 425) rfl rfl ?_
        refine s_lxor C at_425 (pc' := 426) rfl ?_
        refine s_lc_ne C at_426 (pc1 := 427) rfl at_427 (pc' := 430) rfl (pcY := 461) rfl (fun hc => by exfalso; first | exact hc rfl | (simp at hc)) (fun c105 => ?_)
        refine s_aload C at_430 (pc' := 432) rfl rfl rfl ?_
        refine s_iconst C at_432 (pc' := 433) rfl (3 : Int32) rfl ?_
        refine s_laload C at_433 (pc' := 434) rfl Vx102 3 (by decide) rfl ?_
        refine s_lload C at_434 (pc' := 436) rfl rfl ?_
        refine s_lload C at_436 (pc' := 438) rfl rfl ?_
        refine s_lsub C at_438 (pc' := 439) rfl ?_
        refine s_lc_ne C at_439 (pc1 := 440) rfl at_440 (pc' := 443) rfl (pcY := 461) rfl (fun hc => by exfalso; first | exact hc rfl | (simp at hc)) (fun c106 => ?_)
        refine s_aload C at_443 (pc' := 445) rfl rfl rfl ?_
        refine s_iconst C at_445 (pc' := 446) rfl (4 : Int32) rfl ?_
        refine s_laload C at_446 (pc' := 447) rfl Vx102 4 (by decide) rfl ?_
        refine s_lload C at_447 (pc' := 449) rfl rfl ?_
        refine s_ldc2 C at_449 (pc' := 452) rfl (w1 hw) ?_
        refine s_lxor C at_452 (pc' := 453) rfl ?_
        refine s_lc_ne C at_453 (pc1 := 454) rfl at_454 (pc' := 457) rfl (pcY := 461) rfl (fun hc => by exfalso; first | exact hc rfl | (simp at hc)) (fun c107 => ?_)
        refine s_iconst C at_457 (pc' := 458) rfl (1 : Int32) rfl ?_
        refine s_goto C at_458 (pc' := 462) rfl ?_
        refine s_istoreP C at_462 (pc' := 464) rfl #[.val (.long x1), .second, .val (.long x2), .second, .val (.long x3), .second, .val (.long x4), .second, .val (.long x5), .second, .val (.int x6), .val (.long v1), .second, .val (.int v2), .val (.ref a3), .val (.ref a16), .val (.ref a30), .val (.ref a30), .val (.int (1 : Int32)), .val (.long x3), .second, .val (.long x4), .second, .val (.long (x3 ^^^ x4)), .second, .val (.long (x3 - x5)), .second, .val (.long (x4 ^^^ (-1 : Int64))), .second, .val (.int (1 : Int32)), .val (.int (1 : Int32)), .val (.int (1 : Int32))] rfl ?_
        refine s_iload C at_464 (pc' := 466) rfl rfl ?_
        refine s_if_eq C at_466 (pc' := 469) rfl (pcY := 483) rfl (fun hc => by exfalso; revert hc; decide) (fun c108 => ?_)
        refine s_iload C at_469 (pc' := 471) rfl rfl ?_
        refine s_if_eq C at_471 (pc' := 474) rfl (pcY := 483) rfl (fun hc => by exfalso; revert hc; decide) (fun c109 => ?_)
        refine s_iload C at_474 (pc' := 476) rfl rfl ?_
        refine s_if_eq C at_476 (pc' := 479) rfl (pcY := 483) rfl (fun hc => by exfalso; revert hc; decide) (fun c110 => ?_)
        refine s_iconst C at_479 (pc' := 480) rfl (1 : Int32) rfl ?_
        refine s_goto C at_480 (pc' := 484) rfl ?_
        exact s_retN C (by simp) at_484 (by decide) (by decide) rfl
    · skip
      refine s_aload C at_149 (pc' := 151) rfl rfl rfl ?_
      refine s_goto C at_151 (pc' := 156) rfl ?_
      refine s_astore C at_156 (pc' := 158) rfl rfl #[.val (.long x1), .second, .val (.long x2), .second, .val (.long x3), .second, .val (.long x4), .second, .val (.long x5), .second, .val (.int x6), .val (.long v1), .second, .val (.int v2), .val (.ref a3), .val (.ref a16), .val (.ref a30), .val (.ref a16), .unset, .unset, .unset, .unset, .unset, .unset, .unset, .unset, .unset, .unset, .unset, .unset, .unset, .unset] rfl ?_
      refine s_lload C at_158 (pc' := 160) rfl rfl ?_
      refine s_lconst C at_160 (pc' := 161) rfl (1 : Int64) rfl ?_
      refine s_lc_ne C at_161 (pc1 := 162) rfl at_162 (pc' := 165) rfl (pcY := 169) rfl (fun c111 => ?_) (fun c111 => ?_)
      · skip
        refine s_iconst C at_169 (pc' := 170) rfl (0 : Int32) rfl ?_
        refine s_istoreP C at_170 (pc' := 172) rfl #[.val (.long x1), .second, .val (.long x2), .second, .val (.long x3), .second, .val (.long x4), .second, .val (.long x5), .second, .val (.int x6), .val (.long v1), .second, .val (.int v2), .val (.ref a3), .val (.ref a16), .val (.ref a30), .val (.ref a16), .val (.int (0 : Int32)), .unset, .unset, .unset, .unset, .unset, .unset, .unset, .unset, .unset, .unset, .unset, .unset, .unset] rfl ?_
        refine s_iload C at_172 (pc' := 174) rfl rfl ?_
        refine s_if_eq C at_174 (pc' := 177) rfl (pcY := 182) rfl (fun c112 => ?_) (fun hc => by exfalso; revert hc; decide)
        refine s_lloadN C at_182 (pc' := 183) rfl rfl ?_
        refine s_lstoreP C at_183 (pc' := 185) rfl #[.val (.long x1), .second, .val (.long x2), .second, .val (.long x3), .second, .val (.long x4), .second, .val (.long x5), .second, .val (.int x6), .val (.long v1), .second, .val (.int v2), .val (.ref a3), .val (.ref a16), .val (.ref a30), .val (.ref a16), .val (.int (0 : Int32)), .val (.long x1), .second, .unset, .unset, .unset, .unset, .unset, .unset, .unset, .unset, .unset, .unset, .unset] rfl ?_
        refine s_iload C at_185 (pc' := 187) rfl rfl ?_
        refine s_if_eq C at_187 (pc' := 190) rfl (pcY := 195) rfl (fun c113 => ?_) (fun hc => by exfalso; revert hc; decide)
        refine s_lloadN C at_195 (pc' := 196) rfl rfl ?_
        refine s_lstoreP C at_196 (pc' := 198) rfl #[.val (.long x1), .second, .val (.long x2), .second, .val (.long x3), .second, .val (.long x4), .second, .val (.long x5), .second, .val (.int x6), .val (.long v1), .second, .val (.int v2), .val (.ref a3), .val (.ref a16), .val (.ref a30), .val (.ref a16), .val (.int (0 : Int32)), .val (.long x1), .second, .val (.long x2), .second, .unset, .unset, .unset, .unset, .unset, .unset, .unset, .unset, .unset] rfl ?_
        refine s_iload C at_198 (pc' := 200) rfl rfl ?_
        refine s_if_eq C at_200 (pc' := 203) rfl (pcY := 211) rfl (fun c114 => ?_) (fun hc => by exfalso; revert hc; decide)
        refine s_lloadN C at_211 (pc' := 212) rfl rfl ?_
        refine s_lloadN C at_212 (pc' := 213) rfl rfl ?_
        refine s_lxor C at_213 (pc' := 214) rfl ?_
        refine s_lstoreP C at_214 (pc' := 216) rfl #[.val (.long x1), .second, .val (.long x2), .second, .val (.long x3), .second, .val (.long x4), .second, .val (.long x5), .second, .val (.int x6), .val (.long v1), .second, .val (.int v2), .val (.ref a3), .val (.ref a16), .val (.ref a30), .val (.ref a16), .val (.int (0 : Int32)), .val (.long x1), .second, .val (.long x2), .second, .val (.long (x1 ^^^ x2)), .second, .unset, .unset, .unset, .unset, .unset, .unset, .unset] rfl ?_
        refine s_iload C at_216 (pc' := 218) rfl rfl ?_
        refine s_if_eq C at_218 (pc' := 221) rfl (pcY := 229) rfl (fun c115 => ?_) (fun hc => by exfalso; revert hc; decide)
        refine s_lloadN C at_229 (pc' := 230) rfl rfl ?_
        refine s_lload C at_230 (pc' := 232) rfl rfl ?_
        refine s_ladd C at_232 (pc' := 233) rfl ?_
        refine s_lstoreP C at_233 (pc' := 235) rfl #[.val (.long x1), .second, .val (.long x2), .second, .val (.long x3), .second, .val (.long x4), .second, .val (.long x5), .second, .val (.int x6), .val (.long v1), .second, .val (.int v2), .val (.ref a3), .val (.ref a16), .val (.ref a30), .val (.ref a16), .val (.int (0 : Int32)), .val (.long x1), .second, .val (.long x2), .second, .val (.long (x1 ^^^ x2)), .second, .val (.long (x1 + x5)), .second, .unset, .unset, .unset, .unset, .unset] rfl ?_
        refine s_iload C at_235 (pc' := 237) rfl rfl ?_
        refine s_if_eq C at_237 (pc' := 240) rfl (pcY := 249) rfl (fun c116 => ?_) (fun hc => by exfalso; revert hc; decide)
        refine s_lloadN C at_249 (pc' := 250) rfl rfl ?_
        refine s_ldc2 C at_250 (pc' := 253) rfl (w1 hw) ?_
        refine s_lxor C at_253 (pc' := 254) rfl ?_
        refine s_lstoreP C at_254 (pc' := 256) rfl #[.val (.long x1), .second, .val (.long x2), .second, .val (.long x3), .second, .val (.long x4), .second, .val (.long x5), .second, .val (.int x6), .val (.long v1), .second, .val (.int v2), .val (.ref a3), .val (.ref a16), .val (.ref a30), .val (.ref a16), .val (.int (0 : Int32)), .val (.long x1), .second, .val (.long x2), .second, .val (.long (x1 ^^^ x2)), .second, .val (.long (x1 + x5)), .second, .val (.long (x2 ^^^ (-1 : Int64))), .second, .unset, .unset, .unset] rfl ?_
        refine s_aload C at_256 (pc' := 258) rfl rfl rfl ?_
        refine s_lload C at_258 (pc' := 260) rfl rfl ?_
        refine s_aload C at_260 (pc' := 262) rfl rfl rfl ?_
        refine s_aload C at_262 (pc' := 264) rfl rfl rfl ?_
        have Vx117 := ((((((Vx32.ext E30).other W36 ne33).other W38 ne33).other W40 ne33).other W42 ne33).other W44 ne33)
        have Vx118 := ((((((A28.ext E30).other W36 ne31).other W38 ne31).other W40 ne31).other W42 ne31).other W44 ne31)
        refine s_callS0 C at_264 (pc' := 267) rfl (w2 hw) (w3 hw) (w4 hw) (w5 hw) (by decide) [(.ref a16), (.long v1), (.ref a3), (.ref a16)] [] pd0 rfl rfl (c_selb l Z a0 hw  v1 a3 a16 x1 x2 (x1 ^^^ x2) (x1 + x5) (x2 ^^^ (-1 : Int64)) x3 x4 (x3 ^^^ x4) (x3 - x5) (x4 ^^^ (-1 : Int64)) h44 n0 sz45 ne17 gn18 Vx117 Vx118) rfl (W := 0) rfl (by decide) (by decide) (k' := 3) rfl (by decide) (n' := 15) rfl (by decide) (fun h119 q119 => ?_)
        obtain ⟨K119, Vr119⟩ := q119
        have sz120 : n0 ≤ h119.size := (Nat.le_trans sz45 K119.1)
        refine s_aload C at_267 (pc' := 269) rfl rfl rfl ?_
        refine s_iconst C at_269 (pc' := 270) rfl (0 : Int32) rfl ?_
        refine s_laload C at_270 (pc' := 271) rfl Vr119 0 (by decide) rfl ?_
        refine s_lload C at_271 (pc' := 273) rfl rfl ?_
        refine s_lc_ne C at_273 (pc1 := 274) rfl at_274 (pc' := 277) rfl (pcY := 321) rfl (fun hc => by exfalso; exact hc (own_x0 _ _ _ (own_not1 (hv1 ▸ own_bit _) c111))) (fun c121 => ?_)
        refine s_aload C at_277 (pc' := 279) rfl rfl rfl ?_
        refine s_iconst C at_279 (pc' := 280) rfl (1 : Int32) rfl ?_
        refine s_laload C at_280 (pc' := 281) rfl Vr119 1 (by decide) rfl ?_
        refine s_lload C at_281 (pc' := 283) rfl rfl ?_
        refine s_lc_ne C at_283 (pc1 := 284) rfl at_284 (pc' := 287) rfl (pcY := 321) rfl (fun hc => by exfalso; exact hc (own_x0 _ _ _ (own_not1 (hv1 ▸ own_bit _) c111))) (fun c122 => ?_)
        refine s_aload C at_287 (pc' := 289) rfl rfl rfl ?_
        refine s_iconst C at_289 (pc' := 290) rfl (2 : Int32) rfl ?_
        refine s_laload C at_290 (pc' := 291) rfl Vr119 2 (by decide) rfl ?_
        refine s_lload C at_291 (pc' := 293) rfl rfl ?_
        refine s_lc_ne C at_293 (pc1 := 294) rfl at_294 (pc' := 297) rfl (pcY := 321) rfl (fun hc => by exfalso; exact hc (own_x0 _ _ _ (own_not1 (hv1 ▸ own_bit _) c111))) (fun c123 => ?_)
        refine s_aload C at_297 (pc' := 299) rfl rfl rfl ?_
        refine s_iconst C at_299 (pc' := 300) rfl (3 : Int32) rfl ?_
        refine s_laload C at_300 (pc' := 301) rfl Vr119 3 (by decide) rfl ?_
        refine s_lload C at_301 (pc' := 303) rfl rfl ?_
        refine s_lc_ne C at_303 (pc1 := 304) rfl at_304 (pc' := 307) rfl (pcY := 321) rfl (fun hc => by exfalso; exact hc (own_x0 _ _ _ (own_not1 (hv1 ▸ own_bit _) c111))) (fun c124 => ?_)
        refine s_aload C at_307 (pc' := 309) rfl rfl rfl ?_
        refine s_iconst C at_309 (pc' := 310) rfl (4 : Int32) rfl ?_
        refine s_laload C at_310 (pc' := 311) rfl Vr119 4 (by decide) rfl ?_
        refine s_lload C at_311 (pc' := 313) rfl rfl ?_
        refine s_lc_ne C at_313 (pc1 := 314) rfl at_314 (pc' := 317) rfl (pcY := 321) rfl (fun hc => by exfalso; exact hc (own_x0 _ _ _ (own_not1 (hv1 ▸ own_bit _) c111))) (fun c125 => ?_)
        refine s_iconst C at_317 (pc' := 318) rfl (1 : Int32) rfl ?_
        refine s_goto C at_318 (pc' := 322) rfl ?_
        refine s_istoreP C at_322 (pc' := 324) rfl #[.val (.long x1), .second, .val (.long x2), .second, .val (.long x3), .second, .val (.long x4), .second, .val (.long x5), .second, .val (.int x6), .val (.long v1), .second, .val (.int v2), .val (.ref a3), .val (.ref a16), .val (.ref a30), .val (.ref a16), .val (.int (0 : Int32)), .val (.long x1), .second, .val (.long x2), .second, .val (.long (x1 ^^^ x2)), .second, .val (.long (x1 + x5)), .second, .val (.long (x2 ^^^ (-1 : Int64))), .second, .val (.int (1 : Int32)), .unset, .unset] rfl ?_
        refine s_iload C at_324 (pc' := 326) rfl rfl ?_
        refine s_iconst C at_326 (pc' := 327) rfl (1 : Int32) rfl ?_
        refine s_icmp_eq C at_327 (pc' := 330) rfl (pcY := 384) rfl (fun hc => by exfalso; exact c46 hc) (fun c126 => ?_)
        refine s_aload C at_330 (pc' := 332) rfl rfl rfl ?_
        refine s_iconst C at_332 (pc' := 333) rfl (0 : Int32) rfl ?_
        have Vx127 := (Vx117.keep K119 (ninS ne17 nin0))
        refine s_laload C at_333 (pc' := 334) rfl Vx127 0 (by decide) rfl ?_
        refine s_lloadN C at_334 (pc' := 335) rfl rfl ?_
        refine s_lc_ne C at_335 (pc1 := 336) rfl at_336 (pc' := 339) rfl (pcY := 388) rfl (fun hc => by exfalso; first | exact hc rfl | (simp at hc)) (fun c128 => ?_)
        refine s_aload C at_339 (pc' := 341) rfl rfl rfl ?_
        refine s_iconst C at_341 (pc' := 342) rfl (1 : Int32) rfl ?_
        refine s_laload C at_342 (pc' := 343) rfl Vx127 1 (by decide) rfl ?_
        refine s_lloadN C at_343 (pc' := 344) rfl rfl ?_
        refine s_lc_ne C at_344 (pc1 := 345) rfl at_345 (pc' := 348) rfl (pcY := 388) rfl (fun hc => by exfalso; first | exact hc rfl | (simp at hc)) (fun c129 => ?_)
        refine s_aload C at_348 (pc' := 350) rfl rfl rfl ?_
        refine s_iconst C at_350 (pc' := 351) rfl (2 : Int32) rfl ?_
        refine s_laload C at_351 (pc' := 352) rfl Vx127 2 (by decide) rfl ?_
        refine s_lloadN C at_352 (pc' := 353) rfl rfl ?_
        refine s_lloadN C at_353 (pc' := 354) rfl rfl ?_
        refine s_lxor C at_354 (pc' := 355) rfl ?_
        refine s_lc_ne C at_355 (pc1 := 356) rfl at_356 (pc' := 359) rfl (pcY := 388) rfl (fun hc => by exfalso; first | exact hc rfl | (simp at hc)) (fun c130 => ?_)
        refine s_aload C at_359 (pc' := 361) rfl rfl rfl ?_
        refine s_iconst C at_361 (pc' := 362) rfl (3 : Int32) rfl ?_
        refine s_laload C at_362 (pc' := 363) rfl Vx127 3 (by decide) rfl ?_
        refine s_lloadN C at_363 (pc' := 364) rfl rfl ?_
        refine s_lload C at_364 (pc' := 366) rfl rfl ?_
        refine s_ladd C at_366 (pc' := 367) rfl ?_
        refine s_lc_ne C at_367 (pc1 := 368) rfl at_368 (pc' := 371) rfl (pcY := 388) rfl (fun hc => by exfalso; first | exact hc rfl | (simp at hc)) (fun c131 => ?_)
        refine s_aload C at_371 (pc' := 373) rfl rfl rfl ?_
        refine s_iconst C at_373 (pc' := 374) rfl (4 : Int32) rfl ?_
        refine s_laload C at_374 (pc' := 375) rfl Vx127 4 (by decide) rfl ?_
        refine s_lloadN C at_375 (pc' := 376) rfl rfl ?_
        refine s_ldc2 C at_376 (pc' := 379) rfl (w1 hw) ?_
        refine s_lxor C at_379 (pc' := 380) rfl ?_
        refine s_lc_ne C at_380 (pc1 := 381) rfl at_381 (pc' := 384) rfl (pcY := 388) rfl (fun hc => by exfalso; first | exact hc rfl | (simp at hc)) (fun c132 => ?_)
        refine s_iconst C at_384 (pc' := 385) rfl (1 : Int32) rfl ?_
        refine s_goto C at_385 (pc' := 389) rfl ?_
        refine s_istoreP C at_389 (pc' := 391) rfl #[.val (.long x1), .second, .val (.long x2), .second, .val (.long x3), .second, .val (.long x4), .second, .val (.long x5), .second, .val (.int x6), .val (.long v1), .second, .val (.int v2), .val (.ref a3), .val (.ref a16), .val (.ref a30), .val (.ref a16), .val (.int (0 : Int32)), .val (.long x1), .second, .val (.long x2), .second, .val (.long (x1 ^^^ x2)), .second, .val (.long (x1 + x5)), .second, .val (.long (x2 ^^^ (-1 : Int64))), .second, .val (.int (1 : Int32)), .val (.int (1 : Int32)), .unset] rfl ?_
        refine s_iload C at_391 (pc' := 393) rfl rfl ?_
        refine s_iconst C at_393 (pc' := 394) rfl (2 : Int32) rfl ?_
        refine s_icmp_eq C at_394 (pc' := 397) rfl (pcY := 457) rfl (fun c133 => ?_) (fun hc => by exfalso; exact hc c47)
        refine s_iconst C at_457 (pc' := 458) rfl (1 : Int32) rfl ?_
        refine s_goto C at_458 (pc' := 462) rfl ?_
        refine s_istoreP C at_462 (pc' := 464) rfl #[.val (.long x1), .second, .val (.long x2), .second, .val (.long x3), .second, .val (.long x4), .second, .val (.long x5), .second, .val (.int x6), .val (.long v1), .second, .val (.int v2), .val (.ref a3), .val (.ref a16), .val (.ref a30), .val (.ref a16), .val (.int (0 : Int32)), .val (.long x1), .second, .val (.long x2), .second, .val (.long (x1 ^^^ x2)), .second, .val (.long (x1 + x5)), .second, .val (.long (x2 ^^^ (-1 : Int64))), .second, .val (.int (1 : Int32)), .val (.int (1 : Int32)), .val (.int (1 : Int32))] rfl ?_
        refine s_iload C at_464 (pc' := 466) rfl rfl ?_
        refine s_if_eq C at_466 (pc' := 469) rfl (pcY := 483) rfl (fun hc => by exfalso; revert hc; decide) (fun c134 => ?_)
        refine s_iload C at_469 (pc' := 471) rfl rfl ?_
        refine s_if_eq C at_471 (pc' := 474) rfl (pcY := 483) rfl (fun hc => by exfalso; revert hc; decide) (fun c135 => ?_)
        refine s_iload C at_474 (pc' := 476) rfl rfl ?_
        refine s_if_eq C at_476 (pc' := 479) rfl (pcY := 483) rfl (fun hc => by exfalso; revert hc; decide) (fun c136 => ?_)
        refine s_iconst C at_479 (pc' := 480) rfl (1 : Int32) rfl ?_
        refine s_goto C at_480 (pc' := 484) rfl ?_
        exact s_retN C (by simp) at_484 (by decide) (by decide) rfl
      · skip
        refine s_iconst C at_165 (pc' := 166) rfl (1 : Int32) rfl ?_
        refine s_goto C at_166 (pc' := 170) rfl ?_
        refine s_istoreP C at_170 (pc' := 172) rfl #[.val (.long x1), .second, .val (.long x2), .second, .val (.long x3), .second, .val (.long x4), .second, .val (.long x5), .second, .val (.int x6), .val (.long v1), .second, .val (.int v2), .val (.ref a3), .val (.ref a16), .val (.ref a30), .val (.ref a16), .val (.int (1 : Int32)), .unset, .unset, .unset, .unset, .unset, .unset, .unset, .unset, .unset, .unset, .unset, .unset, .unset] rfl ?_
        refine s_iload C at_172 (pc' := 174) rfl rfl ?_
        refine s_if_eq C at_174 (pc' := 177) rfl (pcY := 182) rfl (fun hc => by exfalso; revert hc; decide) (fun c137 => ?_)
        refine s_lload C at_177 (pc' := 179) rfl rfl ?_
        refine s_goto C at_179 (pc' := 183) rfl ?_
        refine s_lstoreP C at_183 (pc' := 185) rfl #[.val (.long x1), .second, .val (.long x2), .second, .val (.long x3), .second, .val (.long x4), .second, .val (.long x5), .second, .val (.int x6), .val (.long v1), .second, .val (.int v2), .val (.ref a3), .val (.ref a16), .val (.ref a30), .val (.ref a16), .val (.int (1 : Int32)), .val (.long x3), .second, .unset, .unset, .unset, .unset, .unset, .unset, .unset, .unset, .unset, .unset, .unset] rfl ?_
        refine s_iload C at_185 (pc' := 187) rfl rfl ?_
        refine s_if_eq C at_187 (pc' := 190) rfl (pcY := 195) rfl (fun hc => by exfalso; revert hc; decide) (fun c138 => ?_)
        refine s_lload C at_190 (pc' := 192) rfl rfl ?_
        refine s_goto C at_192 (pc' := 196) rfl ?_
        refine s_lstoreP C at_196 (pc' := 198) rfl #[.val (.long x1), .second, .val (.long x2), .second, .val (.long x3), .second, .val (.long x4), .second, .val (.long x5), .second, .val (.int x6), .val (.long v1), .second, .val (.int v2), .val (.ref a3), .val (.ref a16), .val (.ref a30), .val (.ref a16), .val (.int (1 : Int32)), .val (.long x3), .second, .val (.long x4), .second, .unset, .unset, .unset, .unset, .unset, .unset, .unset, .unset, .unset] rfl ?_
        refine s_iload C at_198 (pc' := 200) rfl rfl ?_
        refine s_if_eq C at_200 (pc' := 203) rfl (pcY := 211) rfl (fun hc => by exfalso; revert hc; decide) (fun c139 => ?_)
        refine s_lload C at_203 (pc' := 205) rfl rfl ?_
        refine s_lload C at_205 (pc' := 207) rfl rfl ?_
        refine s_lxor C at_207 (pc' := 208) rfl ?_
        refine s_goto C at_208 (pc' := 214) rfl ?_
        refine s_lstoreP C at_214 (pc' := 216) rfl #[.val (.long x1), .second, .val (.long x2), .second, .val (.long x3), .second, .val (.long x4), .second, .val (.long x5), .second, .val (.int x6), .val (.long v1), .second, .val (.int v2), .val (.ref a3), .val (.ref a16), .val (.ref a30), .val (.ref a16), .val (.int (1 : Int32)), .val (.long x3), .second, .val (.long x4), .second, .val (.long (x3 ^^^ x4)), .second, .unset, .unset, .unset, .unset, .unset, .unset, .unset] rfl ?_
        refine s_iload C at_216 (pc' := 218) rfl rfl ?_
        refine s_if_eq C at_218 (pc' := 221) rfl (pcY := 229) rfl (fun hc => by exfalso; revert hc; decide) (fun c140 => ?_)
        refine s_lload C at_221 (pc' := 223) rfl rfl ?_
        refine s_lload C at_223 (pc' := 225) rfl rfl ?_
        refine s_lsub C at_225 (pc' := 226) rfl ?_
        refine s_goto C at_226 (pc' := 233) rfl ?_
        refine s_lstoreP C at_233 (pc' := 235) rfl #[.val (.long x1), .second, .val (.long x2), .second, .val (.long x3), .second, .val (.long x4), .second, .val (.long x5), .second, .val (.int x6), .val (.long v1), .second, .val (.int v2), .val (.ref a3), .val (.ref a16), .val (.ref a30), .val (.ref a16), .val (.int (1 : Int32)), .val (.long x3), .second, .val (.long x4), .second, .val (.long (x3 ^^^ x4)), .second, .val (.long (x3 - x5)), .second, .unset, .unset, .unset, .unset, .unset] rfl ?_
        refine s_iload C at_235 (pc' := 237) rfl rfl ?_
        refine s_if_eq C at_237 (pc' := 240) rfl (pcY := 249) rfl (fun hc => by exfalso; revert hc; decide) (fun c141 => ?_)
        refine s_lload C at_240 (pc' := 242) rfl rfl ?_
        refine s_ldc2 C at_242 (pc' := 245) rfl (w1 hw) ?_
        refine s_lxor C at_245 (pc' := 246) rfl ?_
        refine s_goto C at_246 (pc' := 254) rfl ?_
        refine s_lstoreP C at_254 (pc' := 256) rfl #[.val (.long x1), .second, .val (.long x2), .second, .val (.long x3), .second, .val (.long x4), .second, .val (.long x5), .second, .val (.int x6), .val (.long v1), .second, .val (.int v2), .val (.ref a3), .val (.ref a16), .val (.ref a30), .val (.ref a16), .val (.int (1 : Int32)), .val (.long x3), .second, .val (.long x4), .second, .val (.long (x3 ^^^ x4)), .second, .val (.long (x3 - x5)), .second, .val (.long (x4 ^^^ (-1 : Int64))), .second, .unset, .unset, .unset] rfl ?_
        refine s_aload C at_256 (pc' := 258) rfl rfl rfl ?_
        refine s_lload C at_258 (pc' := 260) rfl rfl ?_
        refine s_aload C at_260 (pc' := 262) rfl rfl rfl ?_
        refine s_aload C at_262 (pc' := 264) rfl rfl rfl ?_
        have Vx142 := ((((((Vx32.ext E30).other W36 ne33).other W38 ne33).other W40 ne33).other W42 ne33).other W44 ne33)
        have Vx143 := ((((((A28.ext E30).other W36 ne31).other W38 ne31).other W40 ne31).other W42 ne31).other W44 ne31)
        refine s_callS0 C at_264 (pc' := 267) rfl (w2 hw) (w3 hw) (w4 hw) (w5 hw) (by decide) [(.ref a16), (.long v1), (.ref a3), (.ref a16)] [] pd0 rfl rfl (c_selb l Z a0 hw  v1 a3 a16 x1 x2 (x1 ^^^ x2) (x1 + x5) (x2 ^^^ (-1 : Int64)) x3 x4 (x3 ^^^ x4) (x3 - x5) (x4 ^^^ (-1 : Int64)) h44 n0 sz45 ne17 gn18 Vx142 Vx143) rfl (W := 0) rfl (by decide) (by decide) (k' := 3) rfl (by decide) (n' := 15) rfl (by decide) (fun h144 q144 => ?_)
        obtain ⟨K144, Vr144⟩ := q144
        have sz145 : n0 ≤ h144.size := (Nat.le_trans sz45 K144.1)
        refine s_aload C at_267 (pc' := 269) rfl rfl rfl ?_
        refine s_iconst C at_269 (pc' := 270) rfl (0 : Int32) rfl ?_
        refine s_laload C at_270 (pc' := 271) rfl Vr144 0 (by decide) rfl ?_
        refine s_lload C at_271 (pc' := 273) rfl rfl ?_
        refine s_lc_ne C at_273 (pc1 := 274) rfl at_274 (pc' := 277) rfl (pcY := 321) rfl (fun hc => by exfalso; exact hc (own_x1 _ _ _ c111)) (fun c146 => ?_)
        refine s_aload C at_277 (pc' := 279) rfl rfl rfl ?_
        refine s_iconst C at_279 (pc' := 280) rfl (1 : Int32) rfl ?_
        refine s_laload C at_280 (pc' := 281) rfl Vr144 1 (by decide) rfl ?_
        refine s_lload C at_281 (pc' := 283) rfl rfl ?_
        refine s_lc_ne C at_283 (pc1 := 284) rfl at_284 (pc' := 287) rfl (pcY := 321) rfl (fun hc => by exfalso; exact hc (own_x1 _ _ _ c111)) (fun c147 => ?_)
        refine s_aload C at_287 (pc' := 289) rfl rfl rfl ?_
        refine s_iconst C at_289 (pc' := 290) rfl (2 : Int32) rfl ?_
        refine s_laload C at_290 (pc' := 291) rfl Vr144 2 (by decide) rfl ?_
        refine s_lload C at_291 (pc' := 293) rfl rfl ?_
        refine s_lc_ne C at_293 (pc1 := 294) rfl at_294 (pc' := 297) rfl (pcY := 321) rfl (fun hc => by exfalso; exact hc (own_x1 _ _ _ c111)) (fun c148 => ?_)
        refine s_aload C at_297 (pc' := 299) rfl rfl rfl ?_
        refine s_iconst C at_299 (pc' := 300) rfl (3 : Int32) rfl ?_
        refine s_laload C at_300 (pc' := 301) rfl Vr144 3 (by decide) rfl ?_
        refine s_lload C at_301 (pc' := 303) rfl rfl ?_
        refine s_lc_ne C at_303 (pc1 := 304) rfl at_304 (pc' := 307) rfl (pcY := 321) rfl (fun hc => by exfalso; exact hc (own_x1 _ _ _ c111)) (fun c149 => ?_)
        refine s_aload C at_307 (pc' := 309) rfl rfl rfl ?_
        refine s_iconst C at_309 (pc' := 310) rfl (4 : Int32) rfl ?_
        refine s_laload C at_310 (pc' := 311) rfl Vr144 4 (by decide) rfl ?_
        refine s_lload C at_311 (pc' := 313) rfl rfl ?_
        refine s_lc_ne C at_313 (pc1 := 314) rfl at_314 (pc' := 317) rfl (pcY := 321) rfl (fun hc => by exfalso; exact hc (own_x1 _ _ _ c111)) (fun c150 => ?_)
        refine s_iconst C at_317 (pc' := 318) rfl (1 : Int32) rfl ?_
        refine s_goto C at_318 (pc' := 322) rfl ?_
        refine s_istoreP C at_322 (pc' := 324) rfl #[.val (.long x1), .second, .val (.long x2), .second, .val (.long x3), .second, .val (.long x4), .second, .val (.long x5), .second, .val (.int x6), .val (.long v1), .second, .val (.int v2), .val (.ref a3), .val (.ref a16), .val (.ref a30), .val (.ref a16), .val (.int (1 : Int32)), .val (.long x3), .second, .val (.long x4), .second, .val (.long (x3 ^^^ x4)), .second, .val (.long (x3 - x5)), .second, .val (.long (x4 ^^^ (-1 : Int64))), .second, .val (.int (1 : Int32)), .unset, .unset] rfl ?_
        refine s_iload C at_324 (pc' := 326) rfl rfl ?_
        refine s_iconst C at_326 (pc' := 327) rfl (1 : Int32) rfl ?_
        refine s_icmp_eq C at_327 (pc' := 330) rfl (pcY := 384) rfl (fun hc => by exfalso; exact c46 hc) (fun c151 => ?_)
        refine s_aload C at_330 (pc' := 332) rfl rfl rfl ?_
        refine s_iconst C at_332 (pc' := 333) rfl (0 : Int32) rfl ?_
        have Vx152 := (Vx142.keep K144 (ninS ne17 nin0))
        refine s_laload C at_333 (pc' := 334) rfl Vx152 0 (by decide) rfl ?_
        refine s_lloadN C at_334 (pc' := 335) rfl rfl ?_
        refine s_lc_ne C at_335 (pc1 := 336) rfl at_336 (pc' := 339) rfl (pcY := 388) rfl (fun hc => by exfalso; first | exact hc rfl | (simp at hc)) (fun c153 => ?_)
        refine s_aload C at_339 (pc' := 341) rfl rfl rfl ?_
        refine s_iconst C at_341 (pc' := 342) rfl (1 : Int32) rfl ?_
        refine s_laload C at_342 (pc' := 343) rfl Vx152 1 (by decide) rfl ?_
        refine s_lloadN C at_343 (pc' := 344) rfl rfl ?_
        refine s_lc_ne C at_344 (pc1 := 345) rfl at_345 (pc' := 348) rfl (pcY := 388) rfl (fun hc => by exfalso; first | exact hc rfl | (simp at hc)) (fun c154 => ?_)
        refine s_aload C at_348 (pc' := 350) rfl rfl rfl ?_
        refine s_iconst C at_350 (pc' := 351) rfl (2 : Int32) rfl ?_
        refine s_laload C at_351 (pc' := 352) rfl Vx152 2 (by decide) rfl ?_
        refine s_lloadN C at_352 (pc' := 353) rfl rfl ?_
        refine s_lloadN C at_353 (pc' := 354) rfl rfl ?_
        refine s_lxor C at_354 (pc' := 355) rfl ?_
        refine s_lc_ne C at_355 (pc1 := 356) rfl at_356 (pc' := 359) rfl (pcY := 388) rfl (fun hc => by exfalso; first | exact hc rfl | (simp at hc)) (fun c155 => ?_)
        refine s_aload C at_359 (pc' := 361) rfl rfl rfl ?_
        refine s_iconst C at_361 (pc' := 362) rfl (3 : Int32) rfl ?_
        refine s_laload C at_362 (pc' := 363) rfl Vx152 3 (by decide) rfl ?_
        refine s_lloadN C at_363 (pc' := 364) rfl rfl ?_
        refine s_lload C at_364 (pc' := 366) rfl rfl ?_
        refine s_ladd C at_366 (pc' := 367) rfl ?_
        refine s_lc_ne C at_367 (pc1 := 368) rfl at_368 (pc' := 371) rfl (pcY := 388) rfl (fun hc => by exfalso; first | exact hc rfl | (simp at hc)) (fun c156 => ?_)
        refine s_aload C at_371 (pc' := 373) rfl rfl rfl ?_
        refine s_iconst C at_373 (pc' := 374) rfl (4 : Int32) rfl ?_
        refine s_laload C at_374 (pc' := 375) rfl Vx152 4 (by decide) rfl ?_
        refine s_lloadN C at_375 (pc' := 376) rfl rfl ?_
        refine s_ldc2 C at_376 (pc' := 379) rfl (w1 hw) ?_
        refine s_lxor C at_379 (pc' := 380) rfl ?_
        refine s_lc_ne C at_380 (pc1 := 381) rfl at_381 (pc' := 384) rfl (pcY := 388) rfl (fun hc => by exfalso; first | exact hc rfl | (simp at hc)) (fun c157 => ?_)
        refine s_iconst C at_384 (pc' := 385) rfl (1 : Int32) rfl ?_
        refine s_goto C at_385 (pc' := 389) rfl ?_
        refine s_istoreP C at_389 (pc' := 391) rfl #[.val (.long x1), .second, .val (.long x2), .second, .val (.long x3), .second, .val (.long x4), .second, .val (.long x5), .second, .val (.int x6), .val (.long v1), .second, .val (.int v2), .val (.ref a3), .val (.ref a16), .val (.ref a30), .val (.ref a16), .val (.int (1 : Int32)), .val (.long x3), .second, .val (.long x4), .second, .val (.long (x3 ^^^ x4)), .second, .val (.long (x3 - x5)), .second, .val (.long (x4 ^^^ (-1 : Int64))), .second, .val (.int (1 : Int32)), .val (.int (1 : Int32)), .unset] rfl ?_
        refine s_iload C at_391 (pc' := 393) rfl rfl ?_
        refine s_iconst C at_393 (pc' := 394) rfl (2 : Int32) rfl ?_
        refine s_icmp_eq C at_394 (pc' := 397) rfl (pcY := 457) rfl (fun c158 => ?_) (fun hc => by exfalso; exact hc c47)
        refine s_iconst C at_457 (pc' := 458) rfl (1 : Int32) rfl ?_
        refine s_goto C at_458 (pc' := 462) rfl ?_
        refine s_istoreP C at_462 (pc' := 464) rfl #[.val (.long x1), .second, .val (.long x2), .second, .val (.long x3), .second, .val (.long x4), .second, .val (.long x5), .second, .val (.int x6), .val (.long v1), .second, .val (.int v2), .val (.ref a3), .val (.ref a16), .val (.ref a30), .val (.ref a16), .val (.int (1 : Int32)), .val (.long x3), .second, .val (.long x4), .second, .val (.long (x3 ^^^ x4)), .second, .val (.long (x3 - x5)), .second, .val (.long (x4 ^^^ (-1 : Int64))), .second, .val (.int (1 : Int32)), .val (.int (1 : Int32)), .val (.int (1 : Int32))] rfl ?_
        refine s_iload C at_464 (pc' := 466) rfl rfl ?_
        refine s_if_eq C at_466 (pc' := 469) rfl (pcY := 483) rfl (fun hc => by exfalso; revert hc; decide) (fun c159 => ?_)
        refine s_iload C at_469 (pc' := 471) rfl rfl ?_
        refine s_if_eq C at_471 (pc' := 474) rfl (pcY := 483) rfl (fun hc => by exfalso; revert hc; decide) (fun c160 => ?_)
        refine s_iload C at_474 (pc' := 476) rfl rfl ?_
        refine s_if_eq C at_476 (pc' := 479) rfl (pcY := 483) rfl (fun hc => by exfalso; revert hc; decide) (fun c161 => ?_)
        refine s_iconst C at_479 (pc' := 480) rfl (1 : Int32) rfl ?_
        refine s_goto C at_480 (pc' := 484) rfl ?_
        exact s_retN C (by simp) at_484 (by decide) (by decide) rfl
  · skip
    refine s_aload C at_138 (pc' := 140) rfl rfl rfl ?_
    refine s_goto C at_140 (pc' := 156) rfl ?_
    refine s_astore C at_156 (pc' := 158) rfl rfl #[.val (.long x1), .second, .val (.long x2), .second, .val (.long x3), .second, .val (.long x4), .second, .val (.long x5), .second, .val (.int x6), .val (.long v1), .second, .val (.int v2), .val (.ref a3), .val (.ref a16), .val (.ref a30), .val (.ref a3), .unset, .unset, .unset, .unset, .unset, .unset, .unset, .unset, .unset, .unset, .unset, .unset, .unset, .unset] rfl ?_
    refine s_lload C at_158 (pc' := 160) rfl rfl ?_
    refine s_lconst C at_160 (pc' := 161) rfl (1 : Int64) rfl ?_
    refine s_lc_ne C at_161 (pc1 := 162) rfl at_162 (pc' := 165) rfl (pcY := 169) rfl (fun c162 => ?_) (fun c162 => ?_)
    · skip
      refine s_iconst C at_169 (pc' := 170) rfl (0 : Int32) rfl ?_
      refine s_istoreP C at_170 (pc' := 172) rfl #[.val (.long x1), .second, .val (.long x2), .second, .val (.long x3), .second, .val (.long x4), .second, .val (.long x5), .second, .val (.int x6), .val (.long v1), .second, .val (.int v2), .val (.ref a3), .val (.ref a16), .val (.ref a30), .val (.ref a3), .val (.int (0 : Int32)), .unset, .unset, .unset, .unset, .unset, .unset, .unset, .unset, .unset, .unset, .unset, .unset, .unset] rfl ?_
      refine s_iload C at_172 (pc' := 174) rfl rfl ?_
      refine s_if_eq C at_174 (pc' := 177) rfl (pcY := 182) rfl (fun c163 => ?_) (fun hc => by exfalso; revert hc; decide)
      refine s_lloadN C at_182 (pc' := 183) rfl rfl ?_
      refine s_lstoreP C at_183 (pc' := 185) rfl #[.val (.long x1), .second, .val (.long x2), .second, .val (.long x3), .second, .val (.long x4), .second, .val (.long x5), .second, .val (.int x6), .val (.long v1), .second, .val (.int v2), .val (.ref a3), .val (.ref a16), .val (.ref a30), .val (.ref a3), .val (.int (0 : Int32)), .val (.long x1), .second, .unset, .unset, .unset, .unset, .unset, .unset, .unset, .unset, .unset, .unset, .unset] rfl ?_
      refine s_iload C at_185 (pc' := 187) rfl rfl ?_
      refine s_if_eq C at_187 (pc' := 190) rfl (pcY := 195) rfl (fun c164 => ?_) (fun hc => by exfalso; revert hc; decide)
      refine s_lloadN C at_195 (pc' := 196) rfl rfl ?_
      refine s_lstoreP C at_196 (pc' := 198) rfl #[.val (.long x1), .second, .val (.long x2), .second, .val (.long x3), .second, .val (.long x4), .second, .val (.long x5), .second, .val (.int x6), .val (.long v1), .second, .val (.int v2), .val (.ref a3), .val (.ref a16), .val (.ref a30), .val (.ref a3), .val (.int (0 : Int32)), .val (.long x1), .second, .val (.long x2), .second, .unset, .unset, .unset, .unset, .unset, .unset, .unset, .unset, .unset] rfl ?_
      refine s_iload C at_198 (pc' := 200) rfl rfl ?_
      refine s_if_eq C at_200 (pc' := 203) rfl (pcY := 211) rfl (fun c165 => ?_) (fun hc => by exfalso; revert hc; decide)
      refine s_lloadN C at_211 (pc' := 212) rfl rfl ?_
      refine s_lloadN C at_212 (pc' := 213) rfl rfl ?_
      refine s_lxor C at_213 (pc' := 214) rfl ?_
      refine s_lstoreP C at_214 (pc' := 216) rfl #[.val (.long x1), .second, .val (.long x2), .second, .val (.long x3), .second, .val (.long x4), .second, .val (.long x5), .second, .val (.int x6), .val (.long v1), .second, .val (.int v2), .val (.ref a3), .val (.ref a16), .val (.ref a30), .val (.ref a3), .val (.int (0 : Int32)), .val (.long x1), .second, .val (.long x2), .second, .val (.long (x1 ^^^ x2)), .second, .unset, .unset, .unset, .unset, .unset, .unset, .unset] rfl ?_
      refine s_iload C at_216 (pc' := 218) rfl rfl ?_
      refine s_if_eq C at_218 (pc' := 221) rfl (pcY := 229) rfl (fun c166 => ?_) (fun hc => by exfalso; revert hc; decide)
      refine s_lloadN C at_229 (pc' := 230) rfl rfl ?_
      refine s_lload C at_230 (pc' := 232) rfl rfl ?_
      refine s_ladd C at_232 (pc' := 233) rfl ?_
      refine s_lstoreP C at_233 (pc' := 235) rfl #[.val (.long x1), .second, .val (.long x2), .second, .val (.long x3), .second, .val (.long x4), .second, .val (.long x5), .second, .val (.int x6), .val (.long v1), .second, .val (.int v2), .val (.ref a3), .val (.ref a16), .val (.ref a30), .val (.ref a3), .val (.int (0 : Int32)), .val (.long x1), .second, .val (.long x2), .second, .val (.long (x1 ^^^ x2)), .second, .val (.long (x1 + x5)), .second, .unset, .unset, .unset, .unset, .unset] rfl ?_
      refine s_iload C at_235 (pc' := 237) rfl rfl ?_
      refine s_if_eq C at_237 (pc' := 240) rfl (pcY := 249) rfl (fun c167 => ?_) (fun hc => by exfalso; revert hc; decide)
      refine s_lloadN C at_249 (pc' := 250) rfl rfl ?_
      refine s_ldc2 C at_250 (pc' := 253) rfl (w1 hw) ?_
      refine s_lxor C at_253 (pc' := 254) rfl ?_
      refine s_lstoreP C at_254 (pc' := 256) rfl #[.val (.long x1), .second, .val (.long x2), .second, .val (.long x3), .second, .val (.long x4), .second, .val (.long x5), .second, .val (.int x6), .val (.long v1), .second, .val (.int v2), .val (.ref a3), .val (.ref a16), .val (.ref a30), .val (.ref a3), .val (.int (0 : Int32)), .val (.long x1), .second, .val (.long x2), .second, .val (.long (x1 ^^^ x2)), .second, .val (.long (x1 + x5)), .second, .val (.long (x2 ^^^ (-1 : Int64))), .second, .unset, .unset, .unset] rfl ?_
      refine s_aload C at_256 (pc' := 258) rfl rfl rfl ?_
      refine s_lload C at_258 (pc' := 260) rfl rfl ?_
      refine s_aload C at_260 (pc' := 262) rfl rfl rfl ?_
      refine s_aload C at_262 (pc' := 264) rfl rfl rfl ?_
      have Vx168 := ((((((Vx32.ext E30).other W36 ne33).other W38 ne33).other W40 ne33).other W42 ne33).other W44 ne33)
      have Vx169 := ((((((A28.ext E30).other W36 ne31).other W38 ne31).other W40 ne31).other W42 ne31).other W44 ne31)
      refine s_callS0 C at_264 (pc' := 267) rfl (w2 hw) (w3 hw) (w4 hw) (w5 hw) (by decide) [(.ref a3), (.long v1), (.ref a3), (.ref a16)] [] pd0 rfl rfl (c_sela l Z a0 hw  v1 a3 a16 x1 x2 (x1 ^^^ x2) (x1 + x5) (x2 ^^^ (-1 : Int64)) x3 x4 (x3 ^^^ x4) (x3 - x5) (x4 ^^^ (-1 : Int64)) h44 n0 sz45 ne17 gn4 Vx168 Vx169) rfl (W := 0) rfl (by decide) (by decide) (k' := 3) rfl (by decide) (n' := 15) rfl (by decide) (fun h170 q170 => ?_)
      obtain ⟨K170, Vr170⟩ := q170
      have sz171 : n0 ≤ h170.size := (Nat.le_trans sz45 K170.1)
      refine s_aload C at_267 (pc' := 269) rfl rfl rfl ?_
      refine s_iconst C at_269 (pc' := 270) rfl (0 : Int32) rfl ?_
      refine s_laload C at_270 (pc' := 271) rfl Vr170 0 (by decide) rfl ?_
      refine s_lload C at_271 (pc' := 273) rfl rfl ?_
      refine s_lc_ne C at_273 (pc1 := 274) rfl at_274 (pc' := 277) rfl (pcY := 321) rfl (fun hc => by exfalso; exact hc (own_x0 _ _ _ (own_not1 (hv1 ▸ own_bit _) c162))) (fun c172 => ?_)
      refine s_aload C at_277 (pc' := 279) rfl rfl rfl ?_
      refine s_iconst C at_279 (pc' := 280) rfl (1 : Int32) rfl ?_
      refine s_laload C at_280 (pc' := 281) rfl Vr170 1 (by decide) rfl ?_
      refine s_lload C at_281 (pc' := 283) rfl rfl ?_
      refine s_lc_ne C at_283 (pc1 := 284) rfl at_284 (pc' := 287) rfl (pcY := 321) rfl (fun hc => by exfalso; exact hc (own_x0 _ _ _ (own_not1 (hv1 ▸ own_bit _) c162))) (fun c173 => ?_)
      refine s_aload C at_287 (pc' := 289) rfl rfl rfl ?_
      refine s_iconst C at_289 (pc' := 290) rfl (2 : Int32) rfl ?_
      refine s_laload C at_290 (pc' := 291) rfl Vr170 2 (by decide) rfl ?_
      refine s_lload C at_291 (pc' := 293) rfl rfl ?_
      refine s_lc_ne C at_293 (pc1 := 294) rfl at_294 (pc' := 297) rfl (pcY := 321) rfl (fun hc => by exfalso; exact hc (own_x0 _ _ _ (own_not1 (hv1 ▸ own_bit _) c162))) (fun c174 => ?_)
      refine s_aload C at_297 (pc' := 299) rfl rfl rfl ?_
      refine s_iconst C at_299 (pc' := 300) rfl (3 : Int32) rfl ?_
      refine s_laload C at_300 (pc' := 301) rfl Vr170 3 (by decide) rfl ?_
      refine s_lload C at_301 (pc' := 303) rfl rfl ?_
      refine s_lc_ne C at_303 (pc1 := 304) rfl at_304 (pc' := 307) rfl (pcY := 321) rfl (fun hc => by exfalso; exact hc (own_x0 _ _ _ (own_not1 (hv1 ▸ own_bit _) c162))) (fun c175 => ?_)
      refine s_aload C at_307 (pc' := 309) rfl rfl rfl ?_
      refine s_iconst C at_309 (pc' := 310) rfl (4 : Int32) rfl ?_
      refine s_laload C at_310 (pc' := 311) rfl Vr170 4 (by decide) rfl ?_
      refine s_lload C at_311 (pc' := 313) rfl rfl ?_
      refine s_lc_ne C at_313 (pc1 := 314) rfl at_314 (pc' := 317) rfl (pcY := 321) rfl (fun hc => by exfalso; exact hc (own_x0 _ _ _ (own_not1 (hv1 ▸ own_bit _) c162))) (fun c176 => ?_)
      refine s_iconst C at_317 (pc' := 318) rfl (1 : Int32) rfl ?_
      refine s_goto C at_318 (pc' := 322) rfl ?_
      refine s_istoreP C at_322 (pc' := 324) rfl #[.val (.long x1), .second, .val (.long x2), .second, .val (.long x3), .second, .val (.long x4), .second, .val (.long x5), .second, .val (.int x6), .val (.long v1), .second, .val (.int v2), .val (.ref a3), .val (.ref a16), .val (.ref a30), .val (.ref a3), .val (.int (0 : Int32)), .val (.long x1), .second, .val (.long x2), .second, .val (.long (x1 ^^^ x2)), .second, .val (.long (x1 + x5)), .second, .val (.long (x2 ^^^ (-1 : Int64))), .second, .val (.int (1 : Int32)), .unset, .unset] rfl ?_
      refine s_iload C at_324 (pc' := 326) rfl rfl ?_
      refine s_iconst C at_326 (pc' := 327) rfl (1 : Int32) rfl ?_
      refine s_icmp_eq C at_327 (pc' := 330) rfl (pcY := 384) rfl (fun c177 => ?_) (fun hc => by exfalso; exact hc c46)
      refine s_iconst C at_384 (pc' := 385) rfl (1 : Int32) rfl ?_
      refine s_goto C at_385 (pc' := 389) rfl ?_
      refine s_istoreP C at_389 (pc' := 391) rfl #[.val (.long x1), .second, .val (.long x2), .second, .val (.long x3), .second, .val (.long x4), .second, .val (.long x5), .second, .val (.int x6), .val (.long v1), .second, .val (.int v2), .val (.ref a3), .val (.ref a16), .val (.ref a30), .val (.ref a3), .val (.int (0 : Int32)), .val (.long x1), .second, .val (.long x2), .second, .val (.long (x1 ^^^ x2)), .second, .val (.long (x1 + x5)), .second, .val (.long (x2 ^^^ (-1 : Int64))), .second, .val (.int (1 : Int32)), .val (.int (1 : Int32)), .unset] rfl ?_
      refine s_iload C at_391 (pc' := 393) rfl rfl ?_
      refine s_iconst C at_393 (pc' := 394) rfl (2 : Int32) rfl ?_
      refine s_icmp_eq C at_394 (pc' := 397) rfl (pcY := 457) rfl (fun hc => by exfalso; rw [c46] at hc; revert hc; decide) (fun c178 => ?_)
      refine s_aload C at_397 (pc' := 399) rfl rfl rfl ?_
      refine s_iconst C at_399 (pc' := 400) rfl (0 : Int32) rfl ?_
      have Vx179 := (Vx169.keep K170 (ninS (Ne.symm ne17) nin0))
      refine s_laload C at_400 (pc' := 401) rfl Vx179 0 (by decide) rfl ?_
      refine s_lload C at_401 (pc' := 403) rfl rfl ?_
      refine s_lc_ne C at_403 (pc1 := 404) rfl at_404 (pc' := 407) rfl (pcY := 461) rfl (fun hc => by exfalso; first | exact hc rfl | (simp at hc)) (fun c180 => ?_)
      refine s_aload C at_407 (pc' := 409) rfl rfl rfl ?_
      refine s_iconst C at_409 (pc' := 410) rfl (1 : Int32) rfl ?_
      refine s_laload C at_410 (pc' := 411) rfl Vx179 1 (by decide) rfl ?_
      refine s_lload C at_411 (pc' := 413) rfl rfl ?_
      refine s_lc_ne C at_413 (pc1 := 414) rfl at_414 (pc' := 417) rfl (pcY := 461) rfl (fun hc => by exfalso; first | exact hc rfl | (simp at hc)) (fun c181 => ?_)
      refine s_aload C at_417 (pc' := 419) rfl rfl rfl ?_
      refine s_iconst C at_419 (pc' := 420) rfl (2 : Int32) rfl ?_
      refine s_laload C at_420 (pc' := 421) rfl Vx179 2 (by decide) rfl ?_
      refine s_lload C at_421 (pc' := 423) rfl rfl ?_
      refine s_lload C at_423 (pc' := 425) rfl rfl ?_
      refine s_lxor C at_425 (pc' := 426) rfl ?_
      refine s_lc_ne C at_426 (pc1 := 427) rfl at_427 (pc' := 430) rfl (pcY := 461) rfl (fun hc => by exfalso; first | exact hc rfl | (simp at hc)) (fun c182 => ?_)
      refine s_aload C at_430 (pc' := 432) rfl rfl rfl ?_
      refine s_iconst C at_432 (pc' := 433) rfl (3 : Int32) rfl ?_
      refine s_laload C at_433 (pc' := 434) rfl Vx179 3 (by decide) rfl ?_
      refine s_lload C at_434 (pc' := 436) rfl rfl ?_
      refine s_lload C at_436 (pc' := 438) rfl rfl ?_
      refine s_lsub C at_438 (pc' := 439) rfl ?_
      refine s_lc_ne C at_439 (pc1 := 440) rfl at_440 (pc' := 443) rfl (pcY := 461) rfl (fun hc => by exfalso; first | exact hc rfl | (simp at hc)) (fun c183 => ?_)
      refine s_aload C at_443 (pc' := 445) rfl rfl rfl ?_
      refine s_iconst C at_445 (pc' := 446) rfl (4 : Int32) rfl ?_
      refine s_laload C at_446 (pc' := 447) rfl Vx179 4 (by decide) rfl ?_
      refine s_lload C at_447 (pc' := 449) rfl rfl ?_
      refine s_ldc2 C at_449 (pc' := 452) rfl (w1 hw) ?_
      refine s_lxor C at_452 (pc' := 453) rfl ?_
      refine s_lc_ne C at_453 (pc1 := 454) rfl at_454 (pc' := 457) rfl (pcY := 461) rfl (fun hc => by exfalso; first | exact hc rfl | (simp at hc)) (fun c184 => ?_)
      refine s_iconst C at_457 (pc' := 458) rfl (1 : Int32) rfl ?_
      refine s_goto C at_458 (pc' := 462) rfl ?_
      refine s_istoreP C at_462 (pc' := 464) rfl #[.val (.long x1), .second, .val (.long x2), .second, .val (.long x3), .second, .val (.long x4), .second, .val (.long x5), .second, .val (.int x6), .val (.long v1), .second, .val (.int v2), .val (.ref a3), .val (.ref a16), .val (.ref a30), .val (.ref a3), .val (.int (0 : Int32)), .val (.long x1), .second, .val (.long x2), .second, .val (.long (x1 ^^^ x2)), .second, .val (.long (x1 + x5)), .second, .val (.long (x2 ^^^ (-1 : Int64))), .second, .val (.int (1 : Int32)), .val (.int (1 : Int32)), .val (.int (1 : Int32))] rfl ?_
      refine s_iload C at_464 (pc' := 466) rfl rfl ?_
      refine s_if_eq C at_466 (pc' := 469) rfl (pcY := 483) rfl (fun hc => by exfalso; revert hc; decide) (fun c185 => ?_)
      refine s_iload C at_469 (pc' := 471) rfl rfl ?_
      refine s_if_eq C at_471 (pc' := 474) rfl (pcY := 483) rfl (fun hc => by exfalso; revert hc; decide) (fun c186 => ?_)
      refine s_iload C at_474 (pc' := 476) rfl rfl ?_
      refine s_if_eq C at_476 (pc' := 479) rfl (pcY := 483) rfl (fun hc => by exfalso; revert hc; decide) (fun c187 => ?_)
      refine s_iconst C at_479 (pc' := 480) rfl (1 : Int32) rfl ?_
      refine s_goto C at_480 (pc' := 484) rfl ?_
      exact s_retN C (by simp) at_484 (by decide) (by decide) rfl
    · skip
      refine s_iconst C at_165 (pc' := 166) rfl (1 : Int32) rfl ?_
      refine s_goto C at_166 (pc' := 170) rfl ?_
      refine s_istoreP C at_170 (pc' := 172) rfl #[.val (.long x1), .second, .val (.long x2), .second, .val (.long x3), .second, .val (.long x4), .second, .val (.long x5), .second, .val (.int x6), .val (.long v1), .second, .val (.int v2), .val (.ref a3), .val (.ref a16), .val (.ref a30), .val (.ref a3), .val (.int (1 : Int32)), .unset, .unset, .unset, .unset, .unset, .unset, .unset, .unset, .unset, .unset, .unset, .unset, .unset] rfl ?_
      refine s_iload C at_172 (pc' := 174) rfl rfl ?_
      refine s_if_eq C at_174 (pc' := 177) rfl (pcY := 182) rfl (fun hc => by exfalso; revert hc; decide) (fun c188 => ?_)
      refine s_lload C at_177 (pc' := 179) rfl rfl ?_
      refine s_goto C at_179 (pc' := 183) rfl ?_
      refine s_lstoreP C at_183 (pc' := 185) rfl #[.val (.long x1), .second, .val (.long x2), .second, .val (.long x3), .second, .val (.long x4), .second, .val (.long x5), .second, .val (.int x6), .val (.long v1), .second, .val (.int v2), .val (.ref a3), .val (.ref a16), .val (.ref a30), .val (.ref a3), .val (.int (1 : Int32)), .val (.long x3), .second, .unset, .unset, .unset, .unset, .unset, .unset, .unset, .unset, .unset, .unset, .unset] rfl ?_
      refine s_iload C at_185 (pc' := 187) rfl rfl ?_
      refine s_if_eq C at_187 (pc' := 190) rfl (pcY := 195) rfl (fun hc => by exfalso; revert hc; decide) (fun c189 => ?_)
      refine s_lload C at_190 (pc' := 192) rfl rfl ?_
      refine s_goto C at_192 (pc' := 196) rfl ?_
      refine s_lstoreP C at_196 (pc' := 198) rfl #[.val (.long x1), .second, .val (.long x2), .second, .val (.long x3), .second, .val (.long x4), .second, .val (.long x5), .second, .val (.int x6), .val (.long v1), .second, .val (.int v2), .val (.ref a3), .val (.ref a16), .val (.ref a30), .val (.ref a3), .val (.int (1 : Int32)), .val (.long x3), .second, .val (.long x4), .second, .unset, .unset, .unset, .unset, .unset, .unset, .unset, .unset, .unset] rfl ?_
      refine s_iload C at_198 (pc' := 200) rfl rfl ?_
      refine s_if_eq C at_200 (pc' := 203) rfl (pcY := 211) rfl (fun hc => by exfalso; revert hc; decide) (fun c190 => ?_)
      refine s_lload C at_203 (pc' := 205) rfl rfl ?_
      refine s_lload C at_205 (pc' := 207) rfl rfl ?_
      refine s_lxor C at_207 (pc' := 208) rfl ?_
      refine s_goto C at_208 (pc' := 214) rfl ?_
      refine s_lstoreP C at_214 (pc' := 216) rfl #[.val (.long x1), .second, .val (.long x2), .second, .val (.long x3), .second, .val (.long x4), .second, .val (.long x5), .second, .val (.int x6), .val (.long v1), .second, .val (.int v2), .val (.ref a3), .val (.ref a16), .val (.ref a30), .val (.ref a3), .val (.int (1 : Int32)), .val (.long x3), .second, .val (.long x4), .second, .val (.long (x3 ^^^ x4)), .second, .unset, .unset, .unset, .unset, .unset, .unset, .unset] rfl ?_
      refine s_iload C at_216 (pc' := 218) rfl rfl ?_
      refine s_if_eq C at_218 (pc' := 221) rfl (pcY := 229) rfl (fun hc => by exfalso; revert hc; decide) (fun c191 => ?_)
      refine s_lload C at_221 (pc' := 223) rfl rfl ?_
      refine s_lload C at_223 (pc' := 225) rfl rfl ?_
      refine s_lsub C at_225 (pc' := 226) rfl ?_
      refine s_goto C at_226 (pc' := 233) rfl ?_
      refine s_lstoreP C at_233 (pc' := 235) rfl #[.val (.long x1), .second, .val (.long x2), .second, .val (.long x3), .second, .val (.long x4), .second, .val (.long x5), .second, .val (.int x6), .val (.long v1), .second, .val (.int v2), .val (.ref a3), .val (.ref a16), .val (.ref a30), .val (.ref a3), .val (.int (1 : Int32)), .val (.long x3), .second, .val (.long x4), .second, .val (.long (x3 ^^^ x4)), .second, .val (.long (x3 - x5)), .second, .unset, .unset, .unset, .unset, .unset] rfl ?_
      refine s_iload C at_235 (pc' := 237) rfl rfl ?_
      refine s_if_eq C at_237 (pc' := 240) rfl (pcY := 249) rfl (fun hc => by exfalso; revert hc; decide) (fun c192 => ?_)
      refine s_lload C at_240 (pc' := 242) rfl rfl ?_
      refine s_ldc2 C at_242 (pc' := 245) rfl (w1 hw) ?_
      refine s_lxor C at_245 (pc' := 246) rfl ?_
      refine s_goto C at_246 (pc' := 254) rfl ?_
      refine s_lstoreP C at_254 (pc' := 256) rfl #[.val (.long x1), .second, .val (.long x2), .second, .val (.long x3), .second, .val (.long x4), .second, .val (.long x5), .second, .val (.int x6), .val (.long v1), .second, .val (.int v2), .val (.ref a3), .val (.ref a16), .val (.ref a30), .val (.ref a3), .val (.int (1 : Int32)), .val (.long x3), .second, .val (.long x4), .second, .val (.long (x3 ^^^ x4)), .second, .val (.long (x3 - x5)), .second, .val (.long (x4 ^^^ (-1 : Int64))), .second, .unset, .unset, .unset] rfl ?_
      refine s_aload C at_256 (pc' := 258) rfl rfl rfl ?_
      refine s_lload C at_258 (pc' := 260) rfl rfl ?_
      refine s_aload C at_260 (pc' := 262) rfl rfl rfl ?_
      refine s_aload C at_262 (pc' := 264) rfl rfl rfl ?_
      have Vx193 := ((((((Vx32.ext E30).other W36 ne33).other W38 ne33).other W40 ne33).other W42 ne33).other W44 ne33)
      have Vx194 := ((((((A28.ext E30).other W36 ne31).other W38 ne31).other W40 ne31).other W42 ne31).other W44 ne31)
      refine s_callS0 C at_264 (pc' := 267) rfl (w2 hw) (w3 hw) (w4 hw) (w5 hw) (by decide) [(.ref a3), (.long v1), (.ref a3), (.ref a16)] [] pd0 rfl rfl (c_sela l Z a0 hw  v1 a3 a16 x1 x2 (x1 ^^^ x2) (x1 + x5) (x2 ^^^ (-1 : Int64)) x3 x4 (x3 ^^^ x4) (x3 - x5) (x4 ^^^ (-1 : Int64)) h44 n0 sz45 ne17 gn4 Vx193 Vx194) rfl (W := 0) rfl (by decide) (by decide) (k' := 3) rfl (by decide) (n' := 15) rfl (by decide) (fun h195 q195 => ?_)
      obtain ⟨K195, Vr195⟩ := q195
      have sz196 : n0 ≤ h195.size := (Nat.le_trans sz45 K195.1)
      refine s_aload C at_267 (pc' := 269) rfl rfl rfl ?_
      refine s_iconst C at_269 (pc' := 270) rfl (0 : Int32) rfl ?_
      refine s_laload C at_270 (pc' := 271) rfl Vr195 0 (by decide) rfl ?_
      refine s_lload C at_271 (pc' := 273) rfl rfl ?_
      refine s_lc_ne C at_273 (pc1 := 274) rfl at_274 (pc' := 277) rfl (pcY := 321) rfl (fun hc => by exfalso; exact hc (own_x1 _ _ _ c162)) (fun c197 => ?_)
      refine s_aload C at_277 (pc' := 279) rfl rfl rfl ?_
      refine s_iconst C at_279 (pc' := 280) rfl (1 : Int32) rfl ?_
      refine s_laload C at_280 (pc' := 281) rfl Vr195 1 (by decide) rfl ?_
      refine s_lload C at_281 (pc' := 283) rfl rfl ?_
      refine s_lc_ne C at_283 (pc1 := 284) rfl at_284 (pc' := 287) rfl (pcY := 321) rfl (fun hc => by exfalso; exact hc (own_x1 _ _ _ c162)) (fun c198 => ?_)
      refine s_aload C at_287 (pc' := 289) rfl rfl rfl ?_
      refine s_iconst C at_289 (pc' := 290) rfl (2 : Int32) rfl ?_
      refine s_laload C at_290 (pc' := 291) rfl Vr195 2 (by decide) rfl ?_
      refine s_lload C at_291 (pc' := 293) rfl rfl ?_
      refine s_lc_ne C at_293 (pc1 := 294) rfl at_294 (pc' := 297) rfl (pcY := 321) rfl (fun hc => by exfalso; exact hc (own_x1 _ _ _ c162)) (fun c199 => ?_)
      refine s_aload C at_297 (pc' := 299) rfl rfl rfl ?_
      refine s_iconst C at_299 (pc' := 300) rfl (3 : Int32) rfl ?_
      refine s_laload C at_300 (pc' := 301) rfl Vr195 3 (by decide) rfl ?_
      refine s_lload C at_301 (pc' := 303) rfl rfl ?_
      refine s_lc_ne C at_303 (pc1 := 304) rfl at_304 (pc' := 307) rfl (pcY := 321) rfl (fun hc => by exfalso; exact hc (own_x1 _ _ _ c162)) (fun c200 => ?_)
      refine s_aload C at_307 (pc' := 309) rfl rfl rfl ?_
      refine s_iconst C at_309 (pc' := 310) rfl (4 : Int32) rfl ?_
      refine s_laload C at_310 (pc' := 311) rfl Vr195 4 (by decide) rfl ?_
      refine s_lload C at_311 (pc' := 313) rfl rfl ?_
      refine s_lc_ne C at_313 (pc1 := 314) rfl at_314 (pc' := 317) rfl (pcY := 321) rfl (fun hc => by exfalso; exact hc (own_x1 _ _ _ c162)) (fun c201 => ?_)
      refine s_iconst C at_317 (pc' := 318) rfl (1 : Int32) rfl ?_
      refine s_goto C at_318 (pc' := 322) rfl ?_
      refine s_istoreP C at_322 (pc' := 324) rfl #[.val (.long x1), .second, .val (.long x2), .second, .val (.long x3), .second, .val (.long x4), .second, .val (.long x5), .second, .val (.int x6), .val (.long v1), .second, .val (.int v2), .val (.ref a3), .val (.ref a16), .val (.ref a30), .val (.ref a3), .val (.int (1 : Int32)), .val (.long x3), .second, .val (.long x4), .second, .val (.long (x3 ^^^ x4)), .second, .val (.long (x3 - x5)), .second, .val (.long (x4 ^^^ (-1 : Int64))), .second, .val (.int (1 : Int32)), .unset, .unset] rfl ?_
      refine s_iload C at_324 (pc' := 326) rfl rfl ?_
      refine s_iconst C at_326 (pc' := 327) rfl (1 : Int32) rfl ?_
      refine s_icmp_eq C at_327 (pc' := 330) rfl (pcY := 384) rfl (fun c202 => ?_) (fun hc => by exfalso; exact hc c46)
      refine s_iconst C at_384 (pc' := 385) rfl (1 : Int32) rfl ?_
      refine s_goto C at_385 (pc' := 389) rfl ?_
      refine s_istoreP C at_389 (pc' := 391) rfl #[.val (.long x1), .second, .val (.long x2), .second, .val (.long x3), .second, .val (.long x4), .second, .val (.long x5), .second, .val (.int x6), .val (.long v1), .second, .val (.int v2), .val (.ref a3), .val (.ref a16), .val (.ref a30), .val (.ref a3), .val (.int (1 : Int32)), .val (.long x3), .second, .val (.long x4), .second, .val (.long (x3 ^^^ x4)), .second, .val (.long (x3 - x5)), .second, .val (.long (x4 ^^^ (-1 : Int64))), .second, .val (.int (1 : Int32)), .val (.int (1 : Int32)), .unset] rfl ?_
      refine s_iload C at_391 (pc' := 393) rfl rfl ?_
      refine s_iconst C at_393 (pc' := 394) rfl (2 : Int32) rfl ?_
      refine s_icmp_eq C at_394 (pc' := 397) rfl (pcY := 457) rfl (fun hc => by exfalso; rw [c46] at hc; revert hc; decide) (fun c203 => ?_)
      refine s_aload C at_397 (pc' := 399) rfl rfl rfl ?_
      refine s_iconst C at_399 (pc' := 400) rfl (0 : Int32) rfl ?_
      have Vx204 := (Vx194.keep K195 (ninS (Ne.symm ne17) nin0))
      refine s_laload C at_400 (pc' := 401) rfl Vx204 0 (by decide) rfl ?_
      refine s_lload C at_401 (pc' := 403) rfl rfl ?_
      refine s_lc_ne C at_403 (pc1 := 404) rfl at_404 (pc' := 407) rfl (pcY := 461) rfl (fun hc => by exfalso; first | exact hc rfl | (simp at hc)) (fun c205 => ?_)
      refine s_aload C at_407 (pc' := 409) rfl rfl rfl ?_
      refine s_iconst C at_409 (pc' := 410) rfl (1 : Int32) rfl ?_
      refine s_laload C at_410 (pc' := 411) rfl Vx204 1 (by decide) rfl ?_
      refine s_lload C at_411 (pc' := 413) rfl rfl ?_
      refine s_lc_ne C at_413 (pc1 := 414) rfl at_414 (pc' := 417) rfl (pcY := 461) rfl (fun hc => by exfalso; first | exact hc rfl | (simp at hc)) (fun c206 => ?_)
      refine s_aload C at_417 (pc' := 419) rfl rfl rfl ?_
      refine s_iconst C at_419 (pc' := 420) rfl (2 : Int32) rfl ?_
      refine s_laload C at_420 (pc' := 421) rfl Vx204 2 (by decide) rfl ?_
      refine s_lload C at_421 (pc' := 423) rfl rfl ?_
      refine s_lload C at_423 (pc' := 425) rfl rfl ?_
      refine s_lxor C at_425 (pc' := 426) rfl ?_
      refine s_lc_ne C at_426 (pc1 := 427) rfl at_427 (pc' := 430) rfl (pcY := 461) rfl (fun hc => by exfalso; first | exact hc rfl | (simp at hc)) (fun c207 => ?_)
      refine s_aload C at_430 (pc' := 432) rfl rfl rfl ?_
      refine s_iconst C at_432 (pc' := 433) rfl (3 : Int32) rfl ?_
      refine s_laload C at_433 (pc' := 434) rfl Vx204 3 (by decide) rfl ?_
      refine s_lload C at_434 (pc' := 436) rfl rfl ?_
      refine s_lload C at_436 (pc' := 438) rfl rfl ?_
      refine s_lsub C at_438 (pc' := 439) rfl ?_
      refine s_lc_ne C at_439 (pc1 := 440) rfl at_440 (pc' := 443) rfl (pcY := 461) rfl (fun hc => by exfalso; first | exact hc rfl | (simp at hc)) (fun c208 => ?_)
      refine s_aload C at_443 (pc' := 445) rfl rfl rfl ?_
      refine s_iconst C at_445 (pc' := 446) rfl (4 : Int32) rfl ?_
      refine s_laload C at_446 (pc' := 447) rfl Vx204 4 (by decide) rfl ?_
      refine s_lload C at_447 (pc' := 449) rfl rfl ?_
      refine s_ldc2 C at_449 (pc' := 452) rfl (w1 hw) ?_
      refine s_lxor C at_452 (pc' := 453) rfl ?_
      refine s_lc_ne C at_453 (pc1 := 454) rfl at_454 (pc' := 457) rfl (pcY := 461) rfl (fun hc => by exfalso; first | exact hc rfl | (simp at hc)) (fun c209 => ?_)
      refine s_iconst C at_457 (pc' := 458) rfl (1 : Int32) rfl ?_
      refine s_goto C at_458 (pc' := 462) rfl ?_
      refine s_istoreP C at_462 (pc' := 464) rfl #[.val (.long x1), .second, .val (.long x2), .second, .val (.long x3), .second, .val (.long x4), .second, .val (.long x5), .second, .val (.int x6), .val (.long v1), .second, .val (.int v2), .val (.ref a3), .val (.ref a16), .val (.ref a30), .val (.ref a3), .val (.int (1 : Int32)), .val (.long x3), .second, .val (.long x4), .second, .val (.long (x3 ^^^ x4)), .second, .val (.long (x3 - x5)), .second, .val (.long (x4 ^^^ (-1 : Int64))), .second, .val (.int (1 : Int32)), .val (.int (1 : Int32)), .val (.int (1 : Int32))] rfl ?_
      refine s_iload C at_464 (pc' := 466) rfl rfl ?_
      refine s_if_eq C at_466 (pc' := 469) rfl (pcY := 483) rfl (fun hc => by exfalso; revert hc; decide) (fun c210 => ?_)
      refine s_iload C at_469 (pc' := 471) rfl rfl ?_
      refine s_if_eq C at_471 (pc' := 474) rfl (pcY := 483) rfl (fun hc => by exfalso; revert hc; decide) (fun c211 => ?_)
      refine s_iload C at_474 (pc' := 476) rfl rfl ?_
      refine s_if_eq C at_476 (pc' := 479) rfl (pcY := 483) rfl (fun hc => by exfalso; revert hc; decide) (fun c212 => ?_)
      refine s_iconst C at_479 (pc' := 480) rfl (1 : Int32) rfl ?_
      refine s_goto C at_480 (pc' := 484) rfl ?_
      exact s_retN C (by simp) at_484 (by decide) (by decide) rfl
end Own
end Jvm.Pilot.@@N@@
namespace Jvm.Pilot.@@N@@
open Jvm Jvm.ClassFile Sem Op Lib Jvm.Free Jvm.Stand Jvm.LawKit Jvm.RoadKit Bundle Own Jvm.Pilot.@@N@@.Jvm.D
set_option maxRecDepth 65536 in
set_option maxHeartbeats 40000000 in
theorem comes_1 {Post : Tables → Env → Array Value → State → Outcome → State → Prop} (hpost : ∀ tb e args s v u, (limb_1_1.after args s (.returned v) u = true ∧ limb_1_2.after args s (.returned v) u = true ∧ True) → FrameEnd s (.returned v) u (Jvm.fieldLocs frame_1_writes args s ++ Jvm.arrayLocs frame_1_arrays args s ++ Jvm.staticLocs frame_1_statics s) 16 128 → Post tb e args s (.returned v) u) :
    ArmFor flags0 classFile x code maxLocals ret World_1 tables_1 room_1 Calls_1 rest_1 Pre_1 Post := by
  intro l hfl _ _ p e ha hc hk s m args below hf hA hF happ hP
  obtain ⟨hcalls, hrest, hpre⟩ := hP
  obtain ⟨-, -, -, hnamed, -, -, -, hat⟩ := (Spec.applies_iff hf).mp happ
  obtain ⟨hg, hn⟩ := and_e (Cond.before_iff.mp (show (Jvm.Cond.and given_1 narrow_1).before args s = true from hpre))
  obtain ⟨g1, g2⟩ := and_e hg
  obtain ⟨g3, g4⟩ := and_e g2
  obtain ⟨g5, g6⟩ := and_e g4
  obtain ⟨g7, g8⟩ := and_e g6
  obtain ⟨g9, g10⟩ := and_e g8
  obtain ⟨g11, g12⟩ := and_e g10
  obtain ⟨w0, w1, w2, w3, w4, w5, rfl⟩ : ∃ w0 w1 w2 w3 w4 w5 : Value, args = #[w0, w1, w2, w3, w4, w5] := by
    have hs : args.size = 6 := by simpa [Cond.value, given_1] using g1
    obtain ⟨L⟩ := args
    match L, hs with
    | [w0, w1, w2, w3, w4, w5], _ => exact ⟨w0, w1, w2, w3, w4, w5, rfl⟩
  have hw := fun d (hd : d ∈ tables_1) => atoms_spec (ws := Jvm.Cond.code x code maxLocals ret :: tables_1) hat d (List.mem_cons_of_mem _ hd)
  have hfit : Fit s := fun {y c} hc i hi => by
    obtain ⟨ha, rfl⟩ := Array.getElem?_eq_some_iff.mp hc
    have q := List.all_eq_true.mp ((Array.all_eq_true_iff_forall_mem.mp hF) _ (Array.getElem_mem ha)) i (List.mem_range.mpr hi)
    simpa [Array.getElem?_eq_getElem hi] using q
  obtain ⟨i0, ei0⟩ := isL_v g3
  obtain rfl : w0 = (.long i0) := Option.some.inj ei0
  obtain ⟨i1, ei1⟩ := isL_v g5
  obtain rfl : w1 = (.long i1) := Option.some.inj ei1
  obtain ⟨i2, ei2⟩ := isL_v g7
  obtain rfl : w2 = (.long i2) := Option.some.inj ei2
  obtain ⟨i3, ei3⟩ := isL_v g9
  obtain rfl : w3 = (.long i3) := Option.some.inj ei3
  obtain ⟨i4, ei4⟩ := isL_v g11
  obtain rfl : w4 = (.long i4) := Option.some.inj ei4
  obtain ⟨i5, ei5⟩ := is_v g12
  obtain rfl : w5 = (.int i5) := Option.some.inj ei5
  obtain ⟨n, o, h1, h2, h3, _, L, rfl, ⟨⟨_, rfl, rfl⟩, N⟩, hq⟩ := law l s _ hw i0 i1 i2 i3 i4 i5 s.heap s.heap.size (Nat.le_refl _)  p e ha hc hk s m _ below hf ((Spec.applies_iff_loose hf).mp happ).1 ⟨rfl, State.Warmed39.refl s, rfl⟩ trivial
  refine ⟨n, _, h1, h2, h3, hpost _ _ _ _ _ _ ⟨Cond.after_iff.mpr rfl, Cond.after_iff.mpr (eq_i res_at (Term.int_eval (1)) rfl), trivial⟩ ⟨hq.1, hq.2.1, (hq.2.2.sift fun y hy => Or.inr (N y hy)).mono (by decide) (by decide)⟩⟩
theorem main_1_1 : Claimed_1_1 := comes_1 fun _ _ _ _ _ _ h hF => ⟨h.1, hF⟩
theorem main_1_2 : Claimed_1_2 := comes_1 fun _ _ _ _ _ _ h hF => ⟨h.2.1, hF⟩
end Jvm.Pilot.@@N@@
namespace Jvm.Pilot.@@N@@
open Jvm Jvm.ClassFile Sem Op Lib Jvm.Free Jvm.Stand Jvm.Pilot.@@N@@.Jvm.D
/-! MADE BY PROGRAM (witnessworld.py) out of the Statement's table words and the real class files: 11 classes; the members and pool entries that the words name. The judged class is class 1, her method 1. -/
namespace start1
open Jvm.ClassFile
def u (s : String) : CpInfo := .utf8 (stringToUtf16 s)
/-- a pool by its gaps: so many unusable entries, then the entry; so many at the end -/
def gap : Nat → List CpInfo → List CpInfo
  | 0, r => r
  | n + 1, r => .unusable :: gap n r
def poolList (es : List (Nat × CpInfo)) (last : Nat) : List CpInfo := es.foldr (fun e r => gap e.1 (e.2 :: r)) (gap last [])
def pool (es : List (Nat × CpInfo)) (last : Nat) : Array CpInfo := ⟨poolList es last⟩
def fileOf (pool : Array CpInfo) (this : Nat) (attrs : Array Attribute := #[]) (ms : Array MethodInfo := #[]) (fl : Nat := 33) (sup : Nat := 0) (ifs : Array Nat := #[]) (fds : Array FieldInfo := #[]) : ClassFile where
  minorVersion := 0
  majorVersion := 65
  constantPool := pool
  accessFlags := fl
  thisClass := this
  superClass := sup
  interfaces := ifs
  fields := fds
  methods := ms
  attributes := attrs
def plain (name : String) (sup : Option ClassId) : Class where
  name := name
  kind := .ordinary
  loader := none
  accessFlags := 33
  super := sup
  interfaces := #[]
  cf := none
  fields := #[]
  methods := #[]
  instanceTypes := #[]
  staticTypes := #[]
  resolved := #[]
  callSites := []
  init := .initialized
  statics := none
  mirror := none

def pool0 : Array CpInfo := pool [(5, u "<init>"), (0, u "()V"), (1, .class_ 10), (1, u "java/lang/Object")] 113

def k0m0 : Method := { name := "<init>", desc := "()V", sig := { parameters := [], returnType := none }, accessFlags := 1, code := none }
/-- java/lang/Object -/
def k0 : Class := { plain "java/lang/Object" none with
  accessFlags := 33
  interfaces := #[]
  cf := some (fileOf pool0 8 #[] #[{ accessFlags := 1, nameIndex := 5, descriptorIndex := 6, attributes := #[] }] 33 0 #[] #[])
  fields := #[]
  methods := #[k0m0]
  instanceTypes := #[]
  staticTypes := #[]
  resolved := Array.replicate 124 none
  statics := none }

def pool1 : Array CpInfo := pool [(2, .class_ 4), (1, u "java/lang/Object"), (0, u "<init>"), (0, u "()V"), (0, .long 18446744073709551615), (1, .methodref 10 11), (0, .class_ 12), (0, .nameAndType 13 14), (0, u "org/subveil/Curve25519Field"), (0, u "select"), (0, u "([JJ[J[J)V"), (0, .class_ 16), (0, u "org/subveil/Curve25519FieldSelectPinLaw"), (2, u "law"), (0, u "(JJJJJI)Z")] 5

def k1m0 : Method := { name := "<init>", desc := "()V", sig := { parameters := [], returnType := none }, accessFlags := 1, code := none }
def k1c1 : Code := { maxStack := 7, maxLocals := 32, code := code, exceptionTable := #[], attributes := #[] }
def k1m1 : Method := { name := "law", desc := "(JJJJJI)Z", sig := { parameters := [.long, .long, .long, .long, .long, .int], returnType := some .boolean }, accessFlags := 9, code := some k1c1 }
/-- org/subveil/Curve25519FieldSelectPinLaw -/
def k1 : Class := { plain "org/subveil/Curve25519FieldSelectPinLaw" (some 0) with
  accessFlags := 49
  interfaces := #[]
  cf := some (fileOf pool1 15 #[] #[{ accessFlags := 1, nameIndex := 5, descriptorIndex := 6, attributes := #[] }, { accessFlags := 9, nameIndex := 19, descriptorIndex := 20, attributes := #[] }] 49 2 #[] #[])
  fields := #[]
  methods := #[k1m0, k1m1]
  instanceTypes := #[]
  staticTypes := #[]
  resolved := Array.replicate 26 none
  statics := none }

def pool2 : Array CpInfo := pool [(1, .class_ 2), (0, u "org/subveil/Curve25519Field"), (1, .class_ 6), (1, u "java/lang/Object"), (0, u "<init>"), (0, u "()V"), (58, .class_ 68), (0, u "org/subveil/Curve25519Field$1"), (3, u "ARITHMETIC"), (0, u "Lorg/subveil/PrimeField;"), (0, u "LIMBS"), (0, u "I"), (2, u "OCTETS"), (1, u "BITS"), (1, u "MASK"), (0, u "J"), (0, u "FOLD"), (0, u "SHIFT"), (1, u "LOW_SHIFT"), (1, u "TWO_P_LOW"), (0, u "TWO_P"), (0, u "P128_LOW"), (0, u "P128"), (0, u "UNIT"), (0, u "D"), (0, u "A24"), (12, u "select"), (0, u "([JJ[J[J)V")] 12

def k2m0 : Method := { name := "<init>", desc := "()V", sig := { parameters := [], returnType := none }, accessFlags := 2, code := none }
def k2c1 : Code := { maxStack := 8, maxLocals := 8, code := prog_3_method_6_code, exceptionTable := #[], attributes := #[] }
def k2m1 : Method := { name := "select", desc := "([JJ[J[J)V", sig := { parameters := [(.array .long), .long, (.array .long), (.array .long)], returnType := none }, accessFlags := 8, code := some k2c1 }
/-- org/subveil/Curve25519Field -/
def k2 : Class := { plain "org/subveil/Curve25519Field" (some 0) with
  accessFlags := 48
  interfaces := #[]
  cf := some (fileOf pool2 1 #[.nestMembers #[67]] #[{ accessFlags := 2, nameIndex := 7, descriptorIndex := 8, attributes := #[] }, { accessFlags := 8, nameIndex := 108, descriptorIndex := 109, attributes := #[] }] 48 4 #[] #[{ accessFlags := 24, nameIndex := 74, descriptorIndex := 75, attributes := #[] }, { accessFlags := 24, nameIndex := 78, descriptorIndex := 75, attributes := #[] }, { accessFlags := 26, nameIndex := 80, descriptorIndex := 75, attributes := #[] }, { accessFlags := 26, nameIndex := 82, descriptorIndex := 83, attributes := #[] }, { accessFlags := 26, nameIndex := 84, descriptorIndex := 83, attributes := #[] }, { accessFlags := 26, nameIndex := 85, descriptorIndex := 75, attributes := #[] }, { accessFlags := 26, nameIndex := 87, descriptorIndex := 75, attributes := #[] }, { accessFlags := 26, nameIndex := 89, descriptorIndex := 83, attributes := #[] }, { accessFlags := 26, nameIndex := 90, descriptorIndex := 83, attributes := #[] }, { accessFlags := 26, nameIndex := 91, descriptorIndex := 83, attributes := #[] }, { accessFlags := 26, nameIndex := 92, descriptorIndex := 83, attributes := #[] }, { accessFlags := 26, nameIndex := 93, descriptorIndex := 94, attributes := #[] }, { accessFlags := 26, nameIndex := 95, descriptorIndex := 83, attributes := #[] }, { accessFlags := 24, nameIndex := 72, descriptorIndex := 73, attributes := #[] }])
  fields := #[{ name := "LIMBS", type := .int, accessFlags := 24, slot := 0, constantValue := 0 }, { name := "OCTETS", type := .int, accessFlags := 24, slot := 1, constantValue := 0 }, { name := "BITS", type := .int, accessFlags := 26, slot := 2, constantValue := 0 }, { name := "MASK", type := .long, accessFlags := 26, slot := 3, constantValue := 0 }, { name := "FOLD", type := .long, accessFlags := 26, slot := 4, constantValue := 0 }, { name := "SHIFT", type := .int, accessFlags := 26, slot := 5, constantValue := 0 }, { name := "LOW_SHIFT", type := .int, accessFlags := 26, slot := 6, constantValue := 0 }, { name := "TWO_P_LOW", type := .long, accessFlags := 26, slot := 7, constantValue := 0 }, { name := "TWO_P", type := .long, accessFlags := 26, slot := 8, constantValue := 0 }, { name := "P128_LOW", type := .long, accessFlags := 26, slot := 9, constantValue := 0 }, { name := "P128", type := .long, accessFlags := 26, slot := 10, constantValue := 0 }, { name := "UNIT", type := .double, accessFlags := 26, slot := 11, constantValue := 0 }, { name := "A24", type := .long, accessFlags := 26, slot := 12, constantValue := 0 }, { name := "ARITHMETIC", type := (.object "org/subveil/PrimeField"), accessFlags := 24, slot := 13, constantValue := 0 }]
  methods := #[k2m0, k2m1]
  instanceTypes := #[]
  staticTypes := #[.int, .int, .int, .long, .long, .int, .int, .long, .long, .long, .long, .double, .long, (.object "org/subveil/PrimeField")]
  resolved := Array.replicate 122 none
  statics := none }

def pool3 : Array CpInfo := pool [(1, u "java/lang/Cloneable"), (0, .class_ 1), (0, u "java/lang/Object"), (0, .class_ 3)] 3

/-- java/lang/Cloneable -/
def k3 : Class := { plain "java/lang/Cloneable" (some 0) with
  accessFlags := 1537
  interfaces := #[]
  cf := some (fileOf pool3 2 #[] #[] 1537 4 #[] #[])
  fields := #[]
  methods := #[]
  instanceTypes := #[]
  staticTypes := #[]
  resolved := Array.replicate 8 none
  statics := none }

def pool4 : Array CpInfo := pool [(1, u "java/io/Serializable"), (0, .class_ 1), (0, u "java/lang/Object"), (0, .class_ 3)] 3

/-- java/io/Serializable -/
def k4 : Class := { plain "java/io/Serializable" (some 0) with
  accessFlags := 1537
  interfaces := #[]
  cf := some (fileOf pool4 2 #[] #[] 1537 4 #[] #[])
  fields := #[]
  methods := #[]
  instanceTypes := #[]
  staticTypes := #[]
  resolved := Array.replicate 8 none
  statics := none }

/-- the primitive byte -/
def k5 : Class := { plain "byte" none with kind := .primitive 'B', accessFlags := 0x411 }
/-- [B -/
def k6 : Class := { plain "[B" (some 0) with kind := .array 5 .byte, interfaces := #[3, 4], accessFlags := 1041 }

/-- the primitive int -/
def k7 : Class := { plain "int" none with kind := .primitive 'I', accessFlags := 0x411 }
/-- [I -/
def k8 : Class := { plain "[I" (some 0) with kind := .array 7 .int, interfaces := #[3, 4], accessFlags := 1041 }

/-- the primitive long -/
def k9 : Class := { plain "long" none with kind := .primitive 'J', accessFlags := 0x411 }
/-- [J -/
def k10 : Class := { plain "[J" (some 0) with kind := .array 9 .long, interfaces := #[3, 4], accessFlags := 1041 }

def heap : Heap := #[]
def classes : Array Class := #[k0, k1, k2, k3, k4, k5, k6, k7, k8, k9, k10]
def interned : List (Array UInt16 × Addr) := []
def slotsUsed : Nat := 0
def theMethod : MethodId := ⟨1, 1⟩
def args0 : Array Value := #[.long 5, .long 7, .long 9, .long 11, .long 13, .int 3]
def aboutOver (below : List Frame) : State where
  vm := { classes := classes, interned := interned.toArray }
  heap := heap
  slotsUsed := slotsUsed
  threads := #[{ frames := .invoking theMethod args0 :: below }]
def below0 : List Frame := [.native { method := ⟨0, 0⟩, args := #[] }]
def about1 : State := aboutOver below0
def p0 : Program := .bare "" "" ""
def e0 : Env := launch0.env 0 0 0
theorem w_frames : about1.frames = Frame.invoking theMethod args0 :: below0 := rfl
set_option maxRecDepth 65536 in
theorem w_args : argsFit about1.vm theMethod args0 = true := by decide +kernel
set_option maxRecDepth 65536 in
theorem w_heap : heapFits about1 = true := by decide +kernel
set_option maxRecDepth 65536 in
theorem w_runnable : about1.curStatus? = some .runnable := by decide +kernel
set_option maxRecDepth 65536 in
theorem w_alone : about1.alone = true := by decide +kernel
set_option maxRecDepth 65536 in
theorem w_named : about1.methodNamed? x = some theMethod := by decide +kernel
set_option maxRecDepth 65536 in
theorem w_hears : about1.hears theMethod below0 = true := by decide +kernel
set_option maxRecDepth 65536 in
theorem w_ripe : about1.ripe theMethod args0 below0 = true := by decide +kernel
theorem w_running : about1.status = .running := rfl
set_option maxRecDepth 65536 in
theorem w_room : about1.hasRoom e0.platform room_1 = true :=
  launch0.hasRoom_least _ room_1 (by decide +kernel) (by decide +kernel) (by decide +kernel) (by decide +kernel) (by decide +kernel) (by decide +kernel)
theorem allAtoms_all (ts : List Jvm.Cond) (a : Array Jvm.Value) (st : Jvm.State) : (allAtoms ts).before a st = ts.all (fun c => c.before a st) := by
  induction ts with
  | nil => rfl
  | cons c t ih =>
    show (Jvm.Cond.and c (allAtoms t)).before a st = _
    rw [Jvm.Cond.before_and, ih, List.all_cons]
def words1 : List Jvm.Cond := Jvm.Cond.code x code maxLocals ret :: tables_1
/-- a 'code' word, met by the world's own term for the bytes: nothing is compared byte by byte -/
theorem code_word {y : MethodName} {bytes : ByteArray} {mx : Nat} {rt : Option FieldType} {a : Array Value} {s : State} {m : MethodId} {meth : Method} {c : Code} (h1 : s.methodNamed? y = some m) (h2 : s.vm.method? m = some meth) (h3 : meth.code = some c) (h4 : c.code = bytes)
    (h5 : (c.maxLocals == mx && c.exceptionTable.isEmpty && decide (c.maxStack ≤ mostOperands) && decide (meth.sig.returnType = rt) && !meth.locks && decide (parseMethodDescriptor y.desc = some meth.sig)) = true) : (Jvm.Cond.code y bytes mx rt).before a s = true := by
  simp only [Bool.and_eq_true, beq_iff_eq, Bool.not_eq_true', decide_eq_true_eq] at h5
  obtain ⟨⟨⟨⟨⟨g1, g2⟩, g3⟩, g4⟩, g5⟩, g6⟩ := h5
  simp [Cond.before, Cond.holds, Cond.value, h1, h2, h3, h4, g1, g2, g3, g4, g5, g6]
def isCode : Jvm.Cond → Bool
  | .code _ _ _ _ => true
  | _ => false
theorem all_split {L : List Jvm.Cond} {P : Jvm.Cond → Bool} (h1 : L.all (fun c => isCode c || P c) = true) (h2 : ∀ c ∈ L.filter isCode, P c = true) : L.all P = true := by
  refine List.all_eq_true.mpr fun c hc => ?_
  have h := List.all_eq_true.mp h1 c hc
  rcases Bool.eq_false_or_eq_true (isCode c) with hi | hi
  · exact h2 c (List.mem_filter.mpr ⟨hc, hi⟩)
  · simpa [hi] using h
set_option maxRecDepth 65536 in
theorem w_c0 : (Jvm.Cond.code x code maxLocals ret).before args0 about1 = true := code_word (m := ⟨1, 1⟩) (meth := k1m1) (c := k1c1) (by decide +kernel) rfl rfl rfl (by decide +kernel)
set_option maxRecDepth 65536 in
theorem w_c1 : (Jvm.Cond.code ({ cls := "org/subveil/Curve25519Field", name := "select", desc := "([JJ[J[J)V" } : Jvm.MethodName) prog_3_method_6_code (8 : Nat) (Option.none : Option Jvm.ClassFile.FieldType)).before args0 about1 = true := code_word (m := ⟨2, 1⟩) (meth := k2m1) (c := k2c1) (by decide +kernel) rfl rfl rfl (by decide +kernel)
def codes1 : List Jvm.Cond := [Jvm.Cond.code x code maxLocals ret, Jvm.Cond.code ({ cls := "org/subveil/Curve25519Field", name := "select", desc := "([JJ[J[J)V" } : Jvm.MethodName) prog_3_method_6_code (8 : Nat) (Option.none : Option Jvm.ClassFile.FieldType)]
set_option maxRecDepth 65536 in
theorem codes_eq : words1.filter isCode = codes1 := rfl
theorem w_codes : ∀ c ∈ words1.filter isCode, c.before args0 about1 = true := by
  rw [codes_eq]
  intro c hc
  simp only [codes1, List.mem_cons, List.not_mem_nil, or_false] at hc
  rcases hc with rfl | rfl
  · exact w_c0
  · exact w_c1
set_option maxRecDepth 65536 in
theorem w_t1 : words1.all (fun c => isCode c || c.before args0 about1) = true := by decide +kernel
theorem w_tables : (allAtoms (Jvm.Cond.code x code maxLocals ret :: tables_1)).before args0 about1 = true := by
  rw [allAtoms_all]
  show words1.all (fun c => c.before args0 about1) = true
  refine all_split ?_ w_codes
  rw [w_t1]
set_option maxRecDepth 65536 in
theorem w_case : (Jvm.Cond.and given_1 narrow_1).before args0 about1 = true := by decide +kernel
theorem w_applies : (headSpec (Jvm.Cond.code x code maxLocals ret :: tables_1) room_1).applies x e0.platform about1 = true :=
  (Spec.applies_iff w_frames).mpr ⟨w_running, w_runnable, w_alone, w_named, w_hears, w_ripe, w_room, w_tables⟩
theorem atStart : AtStart classFile x code maxLocals ret World_1 tables_1 room_1 Calls_1 rest_1 Pre_1 launch0 p0 e0 about1 theMethod args0 below0 :=
  ⟨lists_1, trivial, launch0.admits_env _ _ _, launch0.least_env, fairChoices_fair.cas, fairChoices_fair.clock, w_frames, w_args, w_heap, w_applies, trivial, trivial, w_case⟩
end start1
theorem witness_1 : WitnessClaimed_1 := ⟨start1.p0, start1.e0, start1.about1, start1.theMethod, start1.args0, start1.below0, start1.atStart⟩
end Jvm.Pilot.@@N@@
