import JvmDerived
import JvmDerived.Pilot.@@N@@Statement
import JvmDerived.Pilot.@@N@@Code
set_option linter.unusedVariables false
set_option linter.unusedSimpArgs false
namespace Jvm.Pilot.@@N@@
namespace Own
open Jvm Jvm.ClassFile Sem Op Lib Jvm.Free Jvm.Stand Jvm.LawKit Jvm.RoadKit Bundle
/-- what a body's walk knows of its method -/
def Ctx (p : Program) (l : Launch) (e : Env) (R : Room) (s : State) (m : MethodId) (args : Array Value) (below : List Frame) (meth : Method) (c : Code) (Z : State) (own : String) (cd : ByteArray) (maxL : Nat) (ret : Option FieldType) (nm : String) : Prop :=
  p.tables.exec = Jvm.exec ∧ Z.Warmed39 s.vm ∧ c.code = cd ∧ c.maxLocals = maxL ∧ s.vm.findClass own = some m.cls ∧ meth.sig.returnType = ret ∧ meth.locks = false ∧ meth.name = nm
/-- from every state that stands at pc with these locals and this stack over the heap h the method returns, and P holds -/
def Run (p : Program) (l : Launch) (e : Env) (R : Room) (s : State) (m : MethodId) (args : Array Value) (below : List Frame) (meth : Method) (c : Code) (n0 : Nat) (P : Option Value → Heap → Prop) (h : Heap) (k n : Nat) (pc : Nat) (Ls : Array Slot) (st : List Value) : Prop :=
  ∀ (T : State) (locs : List Loc), Stand p l e R s m args below meth c T locs k n → T.heap = h → Fr n0 locs →
    ∃ s₂ o, Steps p.tables e below (T.setTop (mkF m pc Ls st)) s₂ ∧ s₂.status = .running ∧ Ended s₂ below o ∧ ∃ v L, o = .returned v ∧ (P v s₂.heap ∧ Fr n0 L) ∧ FrameEnd s o s₂ L R.cells R.slots
def RetI (Q : Int32 → Heap → Prop) (v : Option Value) (h : Heap) : Prop := ∃ z, v = some (.int z) ∧ Q z h
def RetL (Q : Int64 → Heap → Prop) (v : Option Value) (h : Heap) : Prop := ∃ z, v = some (.long z) ∧ Q z h
def RetV (Q : Value → Heap → Prop) (v : Option Value) (h : Heap) : Prop := ∃ z, v = some z ∧ Q z h
def Ret0 (Q : Heap → Prop) (v : Option Value) (h : Heap) : Prop := v = none ∧ Q h
def Met (l : Launch) (Z : State) (y : MethodName) (bytes : ByteArray) (mL : Nat) (rt : Option FieldType) (ws : List Jvm.Cond) (rm : Room) (as : Array Value) (h : Heap) (n0 : Nat) (P : Option Value → Heap → Prop) : Prop :=
  MetFree l y (head1 (Jvm.Cond.code y bytes mL rt :: ws) rm) (fun a U => a = as ∧ Z.Warmed39 U.vm ∧ U.heap = h) (fun _ _ _ _ _ => True) (fun _ U o U' => ∃ v L, o = .returned v ∧ (P v U'.heap ∧ Fr n0 L) ∧ FrameEnd U o U' L rm.cells rm.slots)
section Steps
variable {p : Program} {l : Launch} {e : Env} {R : Room} {s : State} {m : MethodId} {args : Array Value} {below : List Frame} {meth : Method} {c : Code} {Z : State} {own nm : String} {cd : ByteArray} {maxL : Nat} {ret : Option FieldType} {n0 : Nat} {P : Option Value → Heap → Prop} {h : Heap} {k n pc pc' : Nat} {Ls l' : Array Slot} {st st' rest : List Value} {a0 : Array Value}
theorem Met.intro {y : MethodName} {bytes : ByteArray} {mL : Nat} {rt : Option FieldType} {ws : List Jvm.Cond} {rm : Room} {as : Array Value} (hpl : plainFor y = true) (ho : y.cls = own) (hn : y.name = nm) (ef : ∀ m, entryFrame m as mL = mkF m 0 Ls [])
    (body : ∀ p e s m below meth c, Ctx p l e rm s m as below meth c Z own bytes mL rt nm → Run p l e rm s m as below meth c n0 P h 0 0 0 Ls []) : Met l Z y bytes mL rt ws rm as h n0 P := by
  subst ho hn
  refine MetFree.of_bodySF hpl hisR ?_
  intro p e s m args below meth c s₁ Bd hml0 hP hK
  obtain ⟨rfl, hZ, hh⟩ := hP
  have X0 : Stand p l e rm s m args below meth c s₁ [] 0 0 := Stand.of_body Bd
  have e0 : s₁.heap = h := by rw [← hh, Bd.state]; rfl
  have hown : s.vm.findClass y.cls = some m.cls := findClass_of_methodNamed Bd.named
  obtain ⟨s₂, o, h1, h2⟩ := body p e s m below meth c ⟨Bd.exec, hZ, Bd.bytes, hml0, hown, Bd.returns, Bd.notSynchronized, (name_of_methodNamed Bd.named Bd.method).1⟩ s₁ [] X0 e0 (Fr.nil _)
  exact ⟨s₂, o, castTop (ef m) h1, h2⟩
theorem Run.pure (f : ∀ T locs, Stand p l e R s m args below meth c T locs k n → T.heap = h → ∀ t, Steps p.tables e below (T.setTop (mkF m pc' l' st')) t → Steps p.tables e below (T.setTop (mkF m pc Ls st)) t) (r : Run p l e R s m args below meth c n0 P h k n pc' l' st') : Run p l e R s m args below meth c n0 P h k n pc Ls st := fun T locs X eT N => by
  obtain ⟨s₂, o, q, r⟩ := r T locs X eT N
  exact ⟨s₂, o, f T locs X eT _ q, r⟩
theorem Run.warm (f : ∀ T locs, Stand p l e R s m args below meth c T locs k n → T.heap = h → ∃ T', Stand p l e R s m args below meth c T' locs k n ∧ T'.heap = h ∧ ∀ t, Steps p.tables e below (T'.setTop (mkF m pc' l' st')) t → Steps p.tables e below (T.setTop (mkF m pc Ls st)) t) (r : Run p l e R s m args below meth c n0 P h k n pc' l' st') : Run p l e R s m args below meth c n0 P h k n pc Ls st := fun T locs X eT N => by
  obtain ⟨T', X', e', f'⟩ := f T locs X eT
  obtain ⟨s₂, o, q, r⟩ := r T' locs X' e' N
  exact ⟨s₂, o, f' _ q, r⟩
/-! loads, stores, constants -/
theorem s_iloadN (C : Ctx p l e R s m args below meth c Z own cd maxL ret nm) {q : Fin 4} {v : Int32} (hd : decode cd pc = .ok (.iload_n q, 1)) (hp : pc + 1 = pc') (hl : Ls[q.val]? = some (.val (.int v))) (r : Run p l e R s m args below meth c n0 P h k n pc' Ls (.int v :: st)) : Run p l e R s m args below meth c n0 P h k n pc Ls st := by
  subst hp; exact Run.pure (fun T locs X _ t z => XS.iloadN X.here C.1 rfl (hb C.2.2.1 hd) hl z) r
theorem s_iload (C : Ctx p l e R s m args below meth c Z own cd maxL ret nm) {q : Nat} {v : Int32} (hd : decode cd pc = .ok (.iload q, 2)) (hp : pc + 2 = pc') (hl : Ls[q]? = some (.val (.int v))) (r : Run p l e R s m args below meth c n0 P h k n pc' Ls (.int v :: st)) : Run p l e R s m args below meth c n0 P h k n pc Ls st := by
  subst hp; exact Run.pure (fun T locs X _ t z => XS.iload X.here C.1 rfl (hb C.2.2.1 hd) hl z) r
theorem s_lloadN (C : Ctx p l e R s m args below meth c Z own cd maxL ret nm) {q : Fin 4} {v : Int64} (hd : decode cd pc = .ok (.lload_n q, 1)) (hp : pc + 1 = pc') (hl : Ls[q.val]? = some (.val (.long v))) (r : Run p l e R s m args below meth c n0 P h k n pc' Ls (.long v :: st)) : Run p l e R s m args below meth c n0 P h k n pc Ls st := by
  subst hp; exact Run.pure (fun T locs X _ t z => XS.lloadN X.here C.1 rfl (hb C.2.2.1 hd) hl z) r
theorem s_lload (C : Ctx p l e R s m args below meth c Z own cd maxL ret nm) {q : Nat} {v : Int64} (hd : decode cd pc = .ok (.lload q, 2)) (hp : pc + 2 = pc') (hl : Ls[q]? = some (.val (.long v))) (r : Run p l e R s m args below meth c n0 P h k n pc' Ls (.long v :: st)) : Run p l e R s m args below meth c n0 P h k n pc Ls st := by
  subst hp; exact Run.pure (fun T locs X _ t z => XS.lload X.here C.1 rfl (hb C.2.2.1 hd) hl z) r
theorem s_aloadN (C : Ctx p l e R s m args below meth c Z own cd maxL ret nm) {q : Fin 4} {v : Value} (hd : decode cd pc = .ok (.aload_n q, 1)) (hp : pc + 1 = pc') (hl : Ls[q.val]? = some (.val v)) (hv : v.isRef = true) (r : Run p l e R s m args below meth c n0 P h k n pc' Ls (v :: st)) : Run p l e R s m args below meth c n0 P h k n pc Ls st := by
  subst hp; exact Run.pure (fun T locs X _ t z => XS.aloadN X.here C.1 rfl (hb C.2.2.1 hd) hl hv z) r
theorem s_aload (C : Ctx p l e R s m args below meth c Z own cd maxL ret nm) {q : Nat} {v : Value} (hd : decode cd pc = .ok (.aload q, 2)) (hp : pc + 2 = pc') (hl : Ls[q]? = some (.val v)) (hv : v.isRef = true) (r : Run p l e R s m args below meth c n0 P h k n pc' Ls (v :: st)) : Run p l e R s m args below meth c n0 P h k n pc Ls st := by
  subst hp; exact Run.pure (fun T locs X _ t z => XS.aload X.here C.1 rfl (hb C.2.2.1 hd) hl hv z) r
theorem s_istoreN (C : Ctx p l e R s m args below meth c Z own cd maxL ret nm) {q : Fin 4} {x : Int32} (hd : decode cd pc = .ok (.istore_n q, 1)) (hp : pc + 1 = pc') (L : Int32 → Array Slot) (hl : ∀ y, storeLocals Ls q.val (.int y) = some (L y)) (r : ∀ y, y = x → Run p l e R s m args below meth c n0 P h k n pc' (L y) st) : Run p l e R s m args below meth c n0 P h k n pc Ls (.int x :: st) := by
  subst hp; exact Run.pure (fun T locs X _ t z => XS.istoreN X.here C.1 rfl (hb C.2.2.1 hd) rfl (hl x) z) (r x rfl)
theorem s_istore (C : Ctx p l e R s m args below meth c Z own cd maxL ret nm) {q : Nat} {x : Int32} (hd : decode cd pc = .ok (.istore q, 2)) (hp : pc + 2 = pc') (L : Int32 → Array Slot) (hl : ∀ y, storeLocals Ls q (.int y) = some (L y)) (r : ∀ y, y = x → Run p l e R s m args below meth c n0 P h k n pc' (L y) st) : Run p l e R s m args below meth c n0 P h k n pc Ls (.int x :: st) := by
  subst hp; exact Run.pure (fun T locs X _ t z => XS.istore X.here C.1 rfl (hb C.2.2.1 hd) rfl (hl x) z) (r x rfl)
theorem s_lstoreN (C : Ctx p l e R s m args below meth c Z own cd maxL ret nm) {q : Fin 4} {x : Int64} (hd : decode cd pc = .ok (.lstore_n q, 1)) (hp : pc + 1 = pc') (L : Int64 → Array Slot) (hl : ∀ y, storeLocals Ls q.val (.long y) = some (L y)) (r : ∀ y, y = x → Run p l e R s m args below meth c n0 P h k n pc' (L y) st) : Run p l e R s m args below meth c n0 P h k n pc Ls (.long x :: st) := by
  subst hp; exact Run.pure (fun T locs X _ t z => XS.lstoreN X.here C.1 rfl (hb C.2.2.1 hd) rfl (hl x) z) (r x rfl)
theorem s_lstore (C : Ctx p l e R s m args below meth c Z own cd maxL ret nm) {q : Nat} {x : Int64} (hd : decode cd pc = .ok (.lstore q, 2)) (hp : pc + 2 = pc') (L : Int64 → Array Slot) (hl : ∀ y, storeLocals Ls q (.long y) = some (L y)) (r : ∀ y, y = x → Run p l e R s m args below meth c n0 P h k n pc' (L y) st) : Run p l e R s m args below meth c n0 P h k n pc Ls (.long x :: st) := by
  subst hp; exact Run.pure (fun T locs X _ t z => XS.lstore X.here C.1 rfl (hb C.2.2.1 hd) rfl (hl x) z) (r x rfl)
theorem s_istoreNP (C : Ctx p l e R s m args below meth c Z own cd maxL ret nm) {q : Fin 4} {x : Int32} (hd : decode cd pc = .ok (.istore_n q, 1)) (hp : pc + 1 = pc') (L : Array Slot) (hl : storeLocals Ls q.val (.int x) = some L) (r : Run p l e R s m args below meth c n0 P h k n pc' L st) : Run p l e R s m args below meth c n0 P h k n pc Ls (.int x :: st) := by
  subst hp; exact Run.pure (fun T locs X _ t z => XS.istoreN X.here C.1 rfl (hb C.2.2.1 hd) rfl hl z) r
theorem s_istoreP (C : Ctx p l e R s m args below meth c Z own cd maxL ret nm) {q : Nat} {x : Int32} (hd : decode cd pc = .ok (.istore q, 2)) (hp : pc + 2 = pc') (L : Array Slot) (hl : storeLocals Ls q (.int x) = some L) (r : Run p l e R s m args below meth c n0 P h k n pc' L st) : Run p l e R s m args below meth c n0 P h k n pc Ls (.int x :: st) := by
  subst hp; exact Run.pure (fun T locs X _ t z => XS.istore X.here C.1 rfl (hb C.2.2.1 hd) rfl hl z) r
theorem s_lstoreNP (C : Ctx p l e R s m args below meth c Z own cd maxL ret nm) {q : Fin 4} {x : Int64} (hd : decode cd pc = .ok (.lstore_n q, 1)) (hp : pc + 1 = pc') (L : Array Slot) (hl : storeLocals Ls q.val (.long x) = some L) (r : Run p l e R s m args below meth c n0 P h k n pc' L st) : Run p l e R s m args below meth c n0 P h k n pc Ls (.long x :: st) := by
  subst hp; exact Run.pure (fun T locs X _ t z => XS.lstoreN X.here C.1 rfl (hb C.2.2.1 hd) rfl hl z) r
theorem s_lstoreP (C : Ctx p l e R s m args below meth c Z own cd maxL ret nm) {q : Nat} {x : Int64} (hd : decode cd pc = .ok (.lstore q, 2)) (hp : pc + 2 = pc') (L : Array Slot) (hl : storeLocals Ls q (.long x) = some L) (r : Run p l e R s m args below meth c n0 P h k n pc' L st) : Run p l e R s m args below meth c n0 P h k n pc Ls (.long x :: st) := by
  subst hp; exact Run.pure (fun T locs X _ t z => XS.lstore X.here C.1 rfl (hb C.2.2.1 hd) rfl hl z) r
theorem s_astoreN (C : Ctx p l e R s m args below meth c Z own cd maxL ret nm) {q : Fin 4} {x : Value} (hd : decode cd pc = .ok (.astore_n q, 1)) (hp : pc + 1 = pc') (hv : x.isRef = true) (L : Array Slot) (hl : storeLocals Ls q.val x = some L) (r : Run p l e R s m args below meth c n0 P h k n pc' L st) : Run p l e R s m args below meth c n0 P h k n pc Ls (x :: st) := by
  subst hp; exact Run.pure (fun T locs X _ t z => XS.astoreN X.here C.1 rfl (hb C.2.2.1 hd) rfl hv hl z) r
theorem s_astore (C : Ctx p l e R s m args below meth c Z own cd maxL ret nm) {q : Nat} {x : Value} (hd : decode cd pc = .ok (.astore q, 2)) (hp : pc + 2 = pc') (hv : x.isRef = true) (L : Array Slot) (hl : storeLocals Ls q x = some L) (r : Run p l e R s m args below meth c n0 P h k n pc' L st) : Run p l e R s m args below meth c n0 P h k n pc Ls (x :: st) := by
  subst hp; exact Run.pure (fun T locs X _ t z => XS.astore X.here C.1 rfl (hb C.2.2.1 hd) rfl hv hl z) r
theorem s_iconst (C : Ctx p l e R s m args below meth c Z own cd maxL ret nm) {i : Int} (hd : decode cd pc = .ok (.iconst i, 1)) (hp : pc + 1 = pc') (v : Int32) (hv : Int32.ofInt i = v) (r : Run p l e R s m args below meth c n0 P h k n pc' Ls (.int v :: st)) : Run p l e R s m args below meth c n0 P h k n pc Ls st := by
  subst hp hv; exact Run.pure (fun T locs X _ t z => XS.iconst X.here C.1 rfl (hb C.2.2.1 hd) z) r
theorem s_bipush (C : Ctx p l e R s m args below meth c Z own cd maxL ret nm) {i : Int} (hd : decode cd pc = .ok (.bipush i, 2)) (hp : pc + 2 = pc') (v : Int32) (hv : (Int8.ofInt i).toInt32 = v) (r : Run p l e R s m args below meth c n0 P h k n pc' Ls (.int v :: st)) : Run p l e R s m args below meth c n0 P h k n pc Ls st := by
  subst hp hv; exact Run.pure (fun T locs X _ t z => XS.bipush X.here C.1 rfl (hb C.2.2.1 hd) z) r
theorem s_sipush (C : Ctx p l e R s m args below meth c Z own cd maxL ret nm) {i : Int} (hd : decode cd pc = .ok (.sipush i, 3)) (hp : pc + 3 = pc') (v : Int32) (hv : (Int16.ofInt i).toInt32 = v) (r : Run p l e R s m args below meth c n0 P h k n pc' Ls (.int v :: st)) : Run p l e R s m args below meth c n0 P h k n pc Ls st := by
  subst hp hv; exact Run.pure (fun T locs X _ t z => XS.sipush X.here C.1 rfl (hb C.2.2.1 hd) z) r
theorem s_lconst (C : Ctx p l e R s m args below meth c Z own cd maxL ret nm) {i : Fin 2} (hd : decode cd pc = .ok (.lconst i, 1)) (hp : pc + 1 = pc') (v : Int64) (hv : Int64.ofNat i.val = v) (r : Run p l e R s m args below meth c n0 P h k n pc' Ls (.long v :: st)) : Run p l e R s m args below meth c n0 P h k n pc Ls st := by
  subst hp hv; exact Run.pure (fun T locs X _ t z => XS.lconst X.here C.1 rfl (hb C.2.2.1 hd) z) r
theorem s_null (C : Ctx p l e R s m args below meth c Z own cd maxL ret nm) (hd : decode cd pc = .ok (.aconst_null, 1)) (hp : pc + 1 = pc') (r : Run p l e R s m args below meth c n0 P h k n pc' Ls (.null :: st)) : Run p l e R s m args below meth c n0 P h k n pc Ls st := by
  subst hp; exact Run.pure (fun T locs X _ t z => XS.aconstNull X.here C.1 rfl (hb C.2.2.1 hd) z) r
theorem s_ldc (C : Ctx p l e R s m args below meth c Z own cd maxL ret nm) {i : Nat} {v : Int32} (hd : decode cd pc = .ok (.ldc i, 2)) (hp : pc + 2 = pc') (w : (Jvm.Cond.constant own i v).before a0 Z = true) (r : Run p l e R s m args below meth c n0 P h k n pc' Ls (.int v :: st)) : Run p l e R s m args below meth c n0 P h k n pc Ls st := by
  subst hp; exact Run.pure (fun T locs X _ t z => X.ldcInt C.1 C.2.2.2.2.1 (mvT C.2.1 w) (g := mkF m pc Ls st) rfl (hb C.2.2.1 hd) _ z) r
theorem s_ldc2 (C : Ctx p l e R s m args below meth c Z own cd maxL ret nm) {i : Nat} {v : Int64} (hd : decode cd pc = .ok (.ldc2_w i, 3)) (hp : pc + 3 = pc') (w : (Jvm.Cond.constantLong own i v).before a0 Z = true) (r : Run p l e R s m args below meth c n0 P h k n pc' Ls (.long v :: st)) : Run p l e R s m args below meth c n0 P h k n pc Ls st := by
  subst hp; exact Run.pure (fun T locs X _ t z => X.ldc2Long C.1 C.2.2.2.2.1 (mvT C.2.1 w) (g := mkF m pc Ls st) rfl (hb C.2.2.1 hd) _ z) r
theorem s_iinc (C : Ctx p l e R s m args below meth c Z own cd maxL ret nm) {q : Nat} {cst : Int} {x : Int32} (hd : decode cd pc = .ok (.iinc q cst, 3)) (hp : pc + 3 = pc') (hl : Ls[q]? = some (.val (.int x))) (z : Int32) (hz : Int32.ofInt cst = z) (L : Int32 → Array Slot) (hl' : ∀ y, storeLocals Ls q (.int y) = some (L y)) (r : ∀ y, y = x + z → Run p l e R s m args below meth c n0 P h k n pc' (L y) st) : Run p l e R s m args below meth c n0 P h k n pc Ls st := by
  subst hp hz; exact Run.pure (fun T locs X _ t z => XS.iinc X.here C.1 rfl (hb C.2.2.1 hd) hl (hl' _) z) (r _ rfl)
theorem s_iincP (C : Ctx p l e R s m args below meth c Z own cd maxL ret nm) {q : Nat} {cst : Int} {x : Int32} (hd : decode cd pc = .ok (.iinc q cst, 3)) (hp : pc + 3 = pc') (hl : Ls[q]? = some (.val (.int x))) (z : Int32) (hz : x + Int32.ofInt cst = z) (L : Array Slot) (hl' : storeLocals Ls q (.int z) = some L) (r : Run p l e R s m args below meth c n0 P h k n pc' L st) : Run p l e R s m args below meth c n0 P h k n pc Ls st := by
  subst hp hz; exact Run.pure (fun T locs X _ t z => XS.iinc X.here C.1 rfl (hb C.2.2.1 hd) hl hl' z) r
/-! plain steps -/
theorem s_iadd (C : Ctx p l e R s m args below meth c Z own cd maxL ret nm) {x y : Int32} (hd : decode cd pc = .ok (.iadd, 1)) (hp : pc + 1 = pc') (r : Run p l e R s m args below meth c n0 P h k n pc' Ls (.int (x + y) :: st)) : Run p l e R s m args below meth c n0 P h k n pc Ls (.int y :: .int x :: st) := by
  subst hp; exact Run.pure (fun T locs X _ t z => XS.iadd X.here C.1 rfl (hb C.2.2.1 hd) rfl z) r
theorem s_isub (C : Ctx p l e R s m args below meth c Z own cd maxL ret nm) {x y : Int32} (hd : decode cd pc = .ok (.isub, 1)) (hp : pc + 1 = pc') (r : Run p l e R s m args below meth c n0 P h k n pc' Ls (.int (x - y) :: st)) : Run p l e R s m args below meth c n0 P h k n pc Ls (.int y :: .int x :: st) := by
  subst hp; exact Run.pure (fun T locs X _ t z => XS.isub X.here C.1 rfl (hb C.2.2.1 hd) rfl z) r
theorem s_imul (C : Ctx p l e R s m args below meth c Z own cd maxL ret nm) {x y : Int32} (hd : decode cd pc = .ok (.imul, 1)) (hp : pc + 1 = pc') (r : Run p l e R s m args below meth c n0 P h k n pc' Ls (.int (x * y) :: st)) : Run p l e R s m args below meth c n0 P h k n pc Ls (.int y :: .int x :: st) := by
  subst hp; exact Run.pure (fun T locs X _ t z => XS.imul X.here C.1 rfl (hb C.2.2.1 hd) rfl z) r
theorem s_iand (C : Ctx p l e R s m args below meth c Z own cd maxL ret nm) {x y : Int32} (hd : decode cd pc = .ok (.iand, 1)) (hp : pc + 1 = pc') (r : Run p l e R s m args below meth c n0 P h k n pc' Ls (.int (x &&& y) :: st)) : Run p l e R s m args below meth c n0 P h k n pc Ls (.int y :: .int x :: st) := by
  subst hp; exact Run.pure (fun T locs X _ t z => XS.iand X.here C.1 rfl (hb C.2.2.1 hd) rfl z) r
theorem s_ior (C : Ctx p l e R s m args below meth c Z own cd maxL ret nm) {x y : Int32} (hd : decode cd pc = .ok (.ior, 1)) (hp : pc + 1 = pc') (r : Run p l e R s m args below meth c n0 P h k n pc' Ls (.int (x ||| y) :: st)) : Run p l e R s m args below meth c n0 P h k n pc Ls (.int y :: .int x :: st) := by
  subst hp; exact Run.pure (fun T locs X _ t z => XS.ior X.here C.1 rfl (hb C.2.2.1 hd) rfl z) r
theorem s_ixor (C : Ctx p l e R s m args below meth c Z own cd maxL ret nm) {x y : Int32} (hd : decode cd pc = .ok (.ixor, 1)) (hp : pc + 1 = pc') (r : Run p l e R s m args below meth c n0 P h k n pc' Ls (.int (x ^^^ y) :: st)) : Run p l e R s m args below meth c n0 P h k n pc Ls (.int y :: .int x :: st) := by
  subst hp; exact Run.pure (fun T locs X _ t z => XS.ixor X.here C.1 rfl (hb C.2.2.1 hd) rfl z) r
theorem s_ishl (C : Ctx p l e R s m args below meth c Z own cd maxL ret nm) {x y : Int32} (hd : decode cd pc = .ok (.ishl, 1)) (hp : pc + 1 = pc') (r : Run p l e R s m args below meth c n0 P h k n pc' Ls (.int (x <<< (y &&& 31)) :: st)) : Run p l e R s m args below meth c n0 P h k n pc Ls (.int y :: .int x :: st) := by
  subst hp; exact Run.pure (fun T locs X _ t z => XS.ishl X.here C.1 rfl (hb C.2.2.1 hd) rfl z) r
theorem s_ishr (C : Ctx p l e R s m args below meth c Z own cd maxL ret nm) {x y : Int32} (hd : decode cd pc = .ok (.ishr, 1)) (hp : pc + 1 = pc') (r : Run p l e R s m args below meth c n0 P h k n pc' Ls (.int (x >>> (y &&& 31)) :: st)) : Run p l e R s m args below meth c n0 P h k n pc Ls (.int y :: .int x :: st) := by
  subst hp; exact Run.pure (fun T locs X _ t z => XS.ishr X.here C.1 rfl (hb C.2.2.1 hd) rfl z) r
theorem s_iushr (C : Ctx p l e R s m args below meth c Z own cd maxL ret nm) {x y : Int32} (hd : decode cd pc = .ok (.iushr, 1)) (hp : pc + 1 = pc') (r : Run p l e R s m args below meth c n0 P h k n pc' Ls (.int ((x.toUInt32 >>> (y &&& 31).toUInt32).toInt32) :: st)) : Run p l e R s m args below meth c n0 P h k n pc Ls (.int y :: .int x :: st) := by
  subst hp; exact Run.pure (fun T locs X _ t z => XS.iushr X.here C.1 rfl (hb C.2.2.1 hd) rfl z) r
theorem s_ladd (C : Ctx p l e R s m args below meth c Z own cd maxL ret nm) {x y : Int64} (hd : decode cd pc = .ok (.ladd, 1)) (hp : pc + 1 = pc') (r : Run p l e R s m args below meth c n0 P h k n pc' Ls (.long (x + y) :: st)) : Run p l e R s m args below meth c n0 P h k n pc Ls (.long y :: .long x :: st) := by
  subst hp; exact Run.pure (fun T locs X _ t z => XS.ladd X.here C.1 rfl (hb C.2.2.1 hd) rfl z) r
theorem s_lsub (C : Ctx p l e R s m args below meth c Z own cd maxL ret nm) {x y : Int64} (hd : decode cd pc = .ok (.lsub, 1)) (hp : pc + 1 = pc') (r : Run p l e R s m args below meth c n0 P h k n pc' Ls (.long (x - y) :: st)) : Run p l e R s m args below meth c n0 P h k n pc Ls (.long y :: .long x :: st) := by
  subst hp; exact Run.pure (fun T locs X _ t z => XS.lsub X.here C.1 rfl (hb C.2.2.1 hd) rfl z) r
theorem s_lmul (C : Ctx p l e R s m args below meth c Z own cd maxL ret nm) {x y : Int64} (hd : decode cd pc = .ok (.lmul, 1)) (hp : pc + 1 = pc') (r : Run p l e R s m args below meth c n0 P h k n pc' Ls (.long (x * y) :: st)) : Run p l e R s m args below meth c n0 P h k n pc Ls (.long y :: .long x :: st) := by
  subst hp; exact Run.pure (fun T locs X _ t z => XS.lmul X.here C.1 rfl (hb C.2.2.1 hd) rfl z) r
theorem s_land (C : Ctx p l e R s m args below meth c Z own cd maxL ret nm) {x y : Int64} (hd : decode cd pc = .ok (.land, 1)) (hp : pc + 1 = pc') (r : Run p l e R s m args below meth c n0 P h k n pc' Ls (.long (x &&& y) :: st)) : Run p l e R s m args below meth c n0 P h k n pc Ls (.long y :: .long x :: st) := by
  subst hp; exact Run.pure (fun T locs X _ t z => XS.land X.here C.1 rfl (hb C.2.2.1 hd) rfl z) r
theorem s_lor (C : Ctx p l e R s m args below meth c Z own cd maxL ret nm) {x y : Int64} (hd : decode cd pc = .ok (.lor, 1)) (hp : pc + 1 = pc') (r : Run p l e R s m args below meth c n0 P h k n pc' Ls (.long (x ||| y) :: st)) : Run p l e R s m args below meth c n0 P h k n pc Ls (.long y :: .long x :: st) := by
  subst hp; exact Run.pure (fun T locs X _ t z => XS.lor X.here C.1 rfl (hb C.2.2.1 hd) rfl z) r
theorem s_lxor (C : Ctx p l e R s m args below meth c Z own cd maxL ret nm) {x y : Int64} (hd : decode cd pc = .ok (.lxor, 1)) (hp : pc + 1 = pc') (r : Run p l e R s m args below meth c n0 P h k n pc' Ls (.long (x ^^^ y) :: st)) : Run p l e R s m args below meth c n0 P h k n pc Ls (.long y :: .long x :: st) := by
  subst hp; exact Run.pure (fun T locs X _ t z => XS.lxor X.here C.1 rfl (hb C.2.2.1 hd) rfl z) r
theorem s_lshl (C : Ctx p l e R s m args below meth c Z own cd maxL ret nm) {x : Int64} {y : Int32} (hd : decode cd pc = .ok (.lshl, 1)) (hp : pc + 1 = pc') (r : Run p l e R s m args below meth c n0 P h k n pc' Ls (.long (x <<< (y &&& 0x3f).toInt64) :: st)) : Run p l e R s m args below meth c n0 P h k n pc Ls (.int y :: .long x :: st) := by
  subst hp; exact Run.pure (fun T locs X _ t z => XS.lshl X.here C.1 rfl (hb C.2.2.1 hd) rfl z) r
theorem s_lshr (C : Ctx p l e R s m args below meth c Z own cd maxL ret nm) {x : Int64} {y : Int32} (hd : decode cd pc = .ok (.lshr, 1)) (hp : pc + 1 = pc') (r : Run p l e R s m args below meth c n0 P h k n pc' Ls (.long (x >>> (y &&& 0x3f).toInt64) :: st)) : Run p l e R s m args below meth c n0 P h k n pc Ls (.int y :: .long x :: st) := by
  subst hp; exact Run.pure (fun T locs X _ t z => XS.lshr X.here C.1 rfl (hb C.2.2.1 hd) rfl z) r
theorem s_lushr (C : Ctx p l e R s m args below meth c Z own cd maxL ret nm) {x : Int64} {y : Int32} (hd : decode cd pc = .ok (.lushr, 1)) (hp : pc + 1 = pc') (r : Run p l e R s m args below meth c n0 P h k n pc' Ls (.long ((x.toUInt64 >>> (y &&& 0x3f).toInt64.toUInt64).toInt64) :: st)) : Run p l e R s m args below meth c n0 P h k n pc Ls (.int y :: .long x :: st) := by
  subst hp; exact Run.pure (fun T locs X _ t z => XS.lushr X.here C.1 rfl (hb C.2.2.1 hd) rfl z) r
theorem s_idiv (C : Ctx p l e R s m args below meth c Z own cd maxL ret nm) {x y : Int32} (hd : decode cd pc = .ok (.idiv, 1)) (hp : pc + 1 = pc') (hy : y ≠ 0) (r : Run p l e R s m args below meth c n0 P h k n pc' Ls (.int (x / y) :: st)) : Run p l e R s m args below meth c n0 P h k n pc Ls (.int y :: .int x :: st) := by
  subst hp; exact Run.pure (fun T locs X _ t z => XS.idiv X.here C.1 rfl (hb C.2.2.1 hd) rfl hy z) r
theorem s_irem (C : Ctx p l e R s m args below meth c Z own cd maxL ret nm) {x y : Int32} (hd : decode cd pc = .ok (.irem, 1)) (hp : pc + 1 = pc') (hy : y ≠ 0) (r : Run p l e R s m args below meth c n0 P h k n pc' Ls (.int (x % y) :: st)) : Run p l e R s m args below meth c n0 P h k n pc Ls (.int y :: .int x :: st) := by
  subst hp; exact Run.pure (fun T locs X _ t z => iremM X C.1 (g := mkF m pc Ls (.int y :: .int x :: st)) rfl (hb C.2.2.1 hd) rfl hy z) r
theorem s_ldiv (C : Ctx p l e R s m args below meth c Z own cd maxL ret nm) {x y : Int64} (hd : decode cd pc = .ok (.ldiv, 1)) (hp : pc + 1 = pc') (hy : y ≠ 0) (r : Run p l e R s m args below meth c n0 P h k n pc' Ls (.long (x / y) :: st)) : Run p l e R s m args below meth c n0 P h k n pc Ls (.long y :: .long x :: st) := by
  subst hp; exact Run.pure (fun T locs X _ t z => XS.ldiv X.here C.1 rfl (hb C.2.2.1 hd) rfl hy z) r
theorem s_lrem (C : Ctx p l e R s m args below meth c Z own cd maxL ret nm) {x y : Int64} (hd : decode cd pc = .ok (.lrem, 1)) (hp : pc + 1 = pc') (hy : y ≠ 0) (r : Run p l e R s m args below meth c n0 P h k n pc' Ls (.long (x % y) :: st)) : Run p l e R s m args below meth c n0 P h k n pc Ls (.long y :: .long x :: st) := by
  subst hp; rw [← lrem_mod] at r; exact Run.pure (fun T locs X _ t z => XS.lrem X.here C.1 rfl (hb C.2.2.1 hd) rfl hy z) r
theorem s_ineg (C : Ctx p l e R s m args below meth c Z own cd maxL ret nm) {x : Int32} (hd : decode cd pc = .ok (.ineg, 1)) (hp : pc + 1 = pc') (r : Run p l e R s m args below meth c n0 P h k n pc' Ls (.int (-x) :: st)) : Run p l e R s m args below meth c n0 P h k n pc Ls (.int x :: st) := by
  subst hp; exact Run.pure (fun T locs X _ t z => XS.ineg X.here C.1 rfl (hb C.2.2.1 hd) rfl z) r
theorem s_lneg (C : Ctx p l e R s m args below meth c Z own cd maxL ret nm) {x : Int64} (hd : decode cd pc = .ok (.lneg, 1)) (hp : pc + 1 = pc') (r : Run p l e R s m args below meth c n0 P h k n pc' Ls (.long (-x) :: st)) : Run p l e R s m args below meth c n0 P h k n pc Ls (.long x :: st) := by
  subst hp; exact Run.pure (fun T locs X _ t z => XS.lneg X.here C.1 rfl (hb C.2.2.1 hd) rfl z) r
theorem s_i2l (C : Ctx p l e R s m args below meth c Z own cd maxL ret nm) {x : Int32} (hd : decode cd pc = .ok (.i2l, 1)) (hp : pc + 1 = pc') (r : Run p l e R s m args below meth c n0 P h k n pc' Ls (.long (x.toInt64) :: st)) : Run p l e R s m args below meth c n0 P h k n pc Ls (.int x :: st) := by
  subst hp; exact Run.pure (fun T locs X _ t z => XS.i2l X.here C.1 rfl (hb C.2.2.1 hd) rfl z) r
theorem s_l2i (C : Ctx p l e R s m args below meth c Z own cd maxL ret nm) {x : Int64} (hd : decode cd pc = .ok (.l2i, 1)) (hp : pc + 1 = pc') (r : Run p l e R s m args below meth c n0 P h k n pc' Ls (.int (x.toInt32) :: st)) : Run p l e R s m args below meth c n0 P h k n pc Ls (.long x :: st) := by
  subst hp; exact Run.pure (fun T locs X _ t z => XS.l2i X.here C.1 rfl (hb C.2.2.1 hd) rfl z) r
theorem s_i2b (C : Ctx p l e R s m args below meth c Z own cd maxL ret nm) {x : Int32} (hd : decode cd pc = .ok (.i2b, 1)) (hp : pc + 1 = pc') (r : Run p l e R s m args below meth c n0 P h k n pc' Ls (.int (x.toInt8.toInt32) :: st)) : Run p l e R s m args below meth c n0 P h k n pc Ls (.int x :: st) := by
  subst hp; exact Run.pure (fun T locs X _ t z => XS.i2b X.here C.1 rfl (hb C.2.2.1 hd) rfl z) r
theorem s_i2s (C : Ctx p l e R s m args below meth c Z own cd maxL ret nm) {x : Int32} (hd : decode cd pc = .ok (.i2s, 1)) (hp : pc + 1 = pc') (r : Run p l e R s m args below meth c n0 P h k n pc' Ls (.int (x.toInt16.toInt32) :: st)) : Run p l e R s m args below meth c n0 P h k n pc Ls (.int x :: st) := by
  subst hp; exact Run.pure (fun T locs X _ t z => XS.i2s X.here C.1 rfl (hb C.2.2.1 hd) rfl z) r
theorem s_i2c (C : Ctx p l e R s m args below meth c Z own cd maxL ret nm) {x : Int32} (hd : decode cd pc = .ok (.i2c, 1)) (hp : pc + 1 = pc') (r : Run p l e R s m args below meth c n0 P h k n pc' Ls (.int (x.toUInt32.toUInt16.toUInt32.toInt32) :: st)) : Run p l e R s m args below meth c n0 P h k n pc Ls (.int x :: st) := by
  subst hp; exact Run.pure (fun T locs X _ t z => XS.i2c X.here C.1 rfl (hb C.2.2.1 hd) rfl z) r
theorem s_lcmp (C : Ctx p l e R s m args below meth c Z own cd maxL ret nm) {x y : Int64} (hd : decode cd pc = .ok (.lcmp, 1)) (hp : pc + 1 = pc') (r : Run p l e R s m args below meth c n0 P h k n pc' Ls (.int (lcmpW x y) :: st)) : Run p l e R s m args below meth c n0 P h k n pc Ls (.long y :: .long x :: st) := by
  subst hp; exact Run.pure (fun T locs X _ t z => XS.lcmp X.here C.1 rfl (hb C.2.2.1 hd) rfl z) r
theorem s_goto (C : Ctx p l e R s m args below meth c Z own cd maxL ret nm) {o : Int} (hd : decode cd pc = .ok (.goto o, 3)) (hp : (pc : Int) + o = (pc' : Int)) (r : Run p l e R s m args below meth c n0 P h k n pc' Ls st) : Run p l e R s m args below meth c n0 P h k n pc Ls st :=
  Run.pure (fun T locs X _ t z => XS.goto X.here C.1 rfl (pc0 := pc) rfl (hb C.2.2.1 hd) (by omega) (by omega) z) r
theorem s_dup (C : Ctx p l e R s m args below meth c Z own cd maxL ret nm) {v : Value} (hd : decode cd pc = .ok (.dup, 1)) (hp : pc + 1 = pc') (hc : v.category = 1) (r : Run p l e R s m args below meth c n0 P h k n pc' Ls (v :: v :: st)) : Run p l e R s m args below meth c n0 P h k n pc Ls (v :: st) := by
  subst hp; exact Run.pure (fun T locs X _ t z => XS.dup X.here C.1 rfl (hb C.2.2.1 hd) rfl hc z) r
theorem s_pop (C : Ctx p l e R s m args below meth c Z own cd maxL ret nm) {v : Value} (hd : decode cd pc = .ok (.pop, 1)) (hp : pc + 1 = pc') (hc : v.category = 1) (r : Run p l e R s m args below meth c n0 P h k n pc' Ls st) : Run p l e R s m args below meth c n0 P h k n pc Ls (v :: st) := by
  subst hp; exact Run.pure (fun T locs X _ t z => XS.pop X.here C.1 rfl (hb C.2.2.1 hd) rfl hc z) r
theorem s_dup2 (C : Ctx p l e R s m args below meth c Z own cd maxL ret nm) {v w : Value} (hd : decode cd pc = .ok (.dup2, 1)) (hp : pc + 1 = pc') (hc : v.category = 1) (hc' : w.category = 1) (r : Run p l e R s m args below meth c n0 P h k n pc' Ls (v :: w :: v :: w :: st)) : Run p l e R s m args below meth c n0 P h k n pc Ls (v :: w :: st) := by
  subst hp; exact Run.pure (fun T locs X _ t z => XT.dup2 X.here C.1 rfl (hb C.2.2.1 hd) rfl hc hc' z) r
theorem s_dupX1 (C : Ctx p l e R s m args below meth c Z own cd maxL ret nm) {v w : Value} (hd : decode cd pc = .ok (.dup_x1, 1)) (hp : pc + 1 = pc') (hc : v.category = 1) (hc' : w.category = 1) (r : Run p l e R s m args below meth c n0 P h k n pc' Ls (v :: w :: v :: st)) : Run p l e R s m args below meth c n0 P h k n pc Ls (v :: w :: st) := by
  subst hp; exact Run.pure (fun T locs X _ t z => XS.dupX1 X.here C.1 rfl (hb C.2.2.1 hd) rfl hc hc' z) r
/-! branches -/
theorem s_if (C : Ctx p l e R s m args below meth c Z own cd maxL ret nm) {cc : ClassFile.Cond} {o : Int} {x : Int32} {pcY : Nat} (hd : decode cd pc = .ok (.ifCond cc o, 3)) (hp : pc + 3 = pc') (ho : (pc : Int) + o = (pcY : Int)) (rY : if_icmp.holds cc x 0 = true → Run p l e R s m args below meth c n0 P h k n pcY Ls st) (rN : if_icmp.holds cc x 0 = false → Run p l e R s m args below meth c n0 P h k n pc' Ls st) : Run p l e R s m args below meth c n0 P h k n pc Ls (.int x :: st) := by
  subst hp
  cases hq : if_icmp.holds cc x 0
  · exact Run.pure (fun T locs X _ t z => XS.ifNo X.here C.1 rfl (hb C.2.2.1 hd) rfl ((if0 _ _).trans hq) z) (rN hq)
  · exact Run.pure (fun T locs X _ t z => XS.ifYes X.here C.1 rfl (pc0 := pc) rfl (hb C.2.2.1 hd) rfl ((if0 _ _).trans hq) (by omega) (by omega) z) (rY hq)
theorem s_icmp (C : Ctx p l e R s m args below meth c Z own cd maxL ret nm) {cc : ClassFile.Cond} {o : Int} {x y : Int32} {pcY : Nat} (hd : decode cd pc = .ok (.if_icmp cc o, 3)) (hp : pc + 3 = pc') (ho : (pc : Int) + o = (pcY : Int)) (rY : if_icmp.holds cc x y = true → Run p l e R s m args below meth c n0 P h k n pcY Ls st) (rN : if_icmp.holds cc x y = false → Run p l e R s m args below meth c n0 P h k n pc' Ls st) : Run p l e R s m args below meth c n0 P h k n pc Ls (.int y :: .int x :: st) := by
  subst hp
  cases hq : if_icmp.holds cc x y
  · exact Run.pure (fun T locs X _ t z => XS.icmpNo X.here C.1 rfl (hb C.2.2.1 hd) rfl hq z) (rN hq)
  · exact Run.pure (fun T locs X _ t z => XS.icmpYes X.here C.1 rfl (pc0 := pc) rfl (hb C.2.2.1 hd) rfl hq (by omega) (by omega) z) (rY hq)
theorem holds_lt {x y : Int32} : (if_icmp.holds .lt x y = true → x < y) ∧ (if_icmp.holds .lt x y = false → ¬ x < y) := ⟨fun h => by simpa [if_icmp.holds] using h, fun h q => by simp [if_icmp.holds, q] at h⟩
theorem holds_ge {x y : Int32} : (if_icmp.holds .ge x y = true → ¬ x < y) ∧ (if_icmp.holds .ge x y = false → x < y) := ⟨fun h q => (by rw [(tlt q).2.1] at h; cases h), fun h => Decidable.byContradiction fun q => (by rw [(flt q).2.1] at h; cases h)⟩
theorem holds_gt {x y : Int32} : (if_icmp.holds .gt x y = true → y < x) ∧ (if_icmp.holds .gt x y = false → ¬ y < x) := ⟨fun h => Decidable.byContradiction fun q => (by rw [(flt q).2.2.1] at h; cases h), fun h q => (by rw [(tlt q).2.2.1] at h; cases h)⟩
theorem holds_le {x y : Int32} : (if_icmp.holds .le x y = true → ¬ y < x) ∧ (if_icmp.holds .le x y = false → y < x) := ⟨fun h q => (by rw [(tlt q).2.2.2] at h; cases h), fun h => Decidable.byContradiction fun q => (by rw [(flt q).2.2.2] at h; cases h)⟩
theorem holds_eq {x y : Int32} : (if_icmp.holds .eq x y = true → x = y) ∧ (if_icmp.holds .eq x y = false → ¬ x = y) := ⟨fun h => Decidable.byContradiction fun q => (by rw [(feq q).1] at h; cases h), fun h q => (by rw [(teq q).1] at h; cases h)⟩
theorem holds_ne {x y : Int32} : (if_icmp.holds .ne x y = true → ¬ x = y) ∧ (if_icmp.holds .ne x y = false → x = y) := ⟨fun h q => (by rw [(teq q).2] at h; cases h), fun h => Decidable.byContradiction fun q => (by rw [(feq q).2] at h; cases h)⟩
theorem s_if_lt (C : Ctx p l e R s m args below meth c Z own cd maxL ret nm) {o : Int} {x : Int32} {pcY : Nat} (hd : decode cd pc = .ok (.ifCond .lt o, 3)) (hp : pc + 3 = pc') (ho : (pc : Int) + o = (pcY : Int)) (rY : x < (0 : Int32) → Run p l e R s m args below meth c n0 P h k n pcY Ls st) (rN : ¬ x < (0 : Int32) → Run p l e R s m args below meth c n0 P h k n pc' Ls st) : Run p l e R s m args below meth c n0 P h k n pc Ls (.int x :: st) :=
  s_if C hd hp ho (fun h => rY (holds_lt.1 h)) (fun h => rN (holds_lt.2 h))
theorem s_icmp_lt (C : Ctx p l e R s m args below meth c Z own cd maxL ret nm) {o : Int} {x y : Int32} {pcY : Nat} (hd : decode cd pc = .ok (.if_icmp .lt o, 3)) (hp : pc + 3 = pc') (ho : (pc : Int) + o = (pcY : Int)) (rY : x < y → Run p l e R s m args below meth c n0 P h k n pcY Ls st) (rN : ¬ x < y → Run p l e R s m args below meth c n0 P h k n pc' Ls st) : Run p l e R s m args below meth c n0 P h k n pc Ls (.int y :: .int x :: st) :=
  s_icmp C hd hp ho (fun h => rY (holds_lt.1 h)) (fun h => rN (holds_lt.2 h))
theorem s_lc_lt (C : Ctx p l e R s m args below meth c Z own cd maxL ret nm) {o : Int} {x y : Int64} {pc1 pcY : Nat} (hd : decode cd pc = .ok (.lcmp, 1)) (hp1 : pc + 1 = pc1) (hd2 : decode cd pc1 = .ok (.ifCond .lt o, 3)) (hp : pc1 + 3 = pc') (ho : (pc1 : Int) + o = (pcY : Int)) (rY : x < y → Run p l e R s m args below meth c n0 P h k n pcY Ls st) (rN : ¬ x < y → Run p l e R s m args below meth c n0 P h k n pc' Ls st) : Run p l e R s m args below meth c n0 P h k n pc Ls (.long y :: .long x :: st) :=
  s_lcmp C hd hp1 (s_if_lt C hd2 hp ho (fun h => rY ((lw_lt x y).mp h)) (fun h => rN (fun q => h ((lw_lt x y).mpr q))))
theorem s_if_ge (C : Ctx p l e R s m args below meth c Z own cd maxL ret nm) {o : Int} {x : Int32} {pcY : Nat} (hd : decode cd pc = .ok (.ifCond .ge o, 3)) (hp : pc + 3 = pc') (ho : (pc : Int) + o = (pcY : Int)) (rY : ¬ x < (0 : Int32) → Run p l e R s m args below meth c n0 P h k n pcY Ls st) (rN : x < (0 : Int32) → Run p l e R s m args below meth c n0 P h k n pc' Ls st) : Run p l e R s m args below meth c n0 P h k n pc Ls (.int x :: st) :=
  s_if C hd hp ho (fun h => rY (holds_ge.1 h)) (fun h => rN (holds_ge.2 h))
theorem s_icmp_ge (C : Ctx p l e R s m args below meth c Z own cd maxL ret nm) {o : Int} {x y : Int32} {pcY : Nat} (hd : decode cd pc = .ok (.if_icmp .ge o, 3)) (hp : pc + 3 = pc') (ho : (pc : Int) + o = (pcY : Int)) (rY : ¬ x < y → Run p l e R s m args below meth c n0 P h k n pcY Ls st) (rN : x < y → Run p l e R s m args below meth c n0 P h k n pc' Ls st) : Run p l e R s m args below meth c n0 P h k n pc Ls (.int y :: .int x :: st) :=
  s_icmp C hd hp ho (fun h => rY (holds_ge.1 h)) (fun h => rN (holds_ge.2 h))
theorem s_lc_ge (C : Ctx p l e R s m args below meth c Z own cd maxL ret nm) {o : Int} {x y : Int64} {pc1 pcY : Nat} (hd : decode cd pc = .ok (.lcmp, 1)) (hp1 : pc + 1 = pc1) (hd2 : decode cd pc1 = .ok (.ifCond .ge o, 3)) (hp : pc1 + 3 = pc') (ho : (pc1 : Int) + o = (pcY : Int)) (rY : ¬ x < y → Run p l e R s m args below meth c n0 P h k n pcY Ls st) (rN : x < y → Run p l e R s m args below meth c n0 P h k n pc' Ls st) : Run p l e R s m args below meth c n0 P h k n pc Ls (.long y :: .long x :: st) :=
  s_lcmp C hd hp1 (s_if_ge C hd2 hp ho (fun h => rY (fun q => h ((lw_lt x y).mpr q))) (fun h => rN ((lw_lt x y).mp h)))
theorem s_if_gt (C : Ctx p l e R s m args below meth c Z own cd maxL ret nm) {o : Int} {x : Int32} {pcY : Nat} (hd : decode cd pc = .ok (.ifCond .gt o, 3)) (hp : pc + 3 = pc') (ho : (pc : Int) + o = (pcY : Int)) (rY : (0 : Int32) < x → Run p l e R s m args below meth c n0 P h k n pcY Ls st) (rN : ¬ (0 : Int32) < x → Run p l e R s m args below meth c n0 P h k n pc' Ls st) : Run p l e R s m args below meth c n0 P h k n pc Ls (.int x :: st) :=
  s_if C hd hp ho (fun h => rY (holds_gt.1 h)) (fun h => rN (holds_gt.2 h))
theorem s_icmp_gt (C : Ctx p l e R s m args below meth c Z own cd maxL ret nm) {o : Int} {x y : Int32} {pcY : Nat} (hd : decode cd pc = .ok (.if_icmp .gt o, 3)) (hp : pc + 3 = pc') (ho : (pc : Int) + o = (pcY : Int)) (rY : y < x → Run p l e R s m args below meth c n0 P h k n pcY Ls st) (rN : ¬ y < x → Run p l e R s m args below meth c n0 P h k n pc' Ls st) : Run p l e R s m args below meth c n0 P h k n pc Ls (.int y :: .int x :: st) :=
  s_icmp C hd hp ho (fun h => rY (holds_gt.1 h)) (fun h => rN (holds_gt.2 h))
theorem s_lc_gt (C : Ctx p l e R s m args below meth c Z own cd maxL ret nm) {o : Int} {x y : Int64} {pc1 pcY : Nat} (hd : decode cd pc = .ok (.lcmp, 1)) (hp1 : pc + 1 = pc1) (hd2 : decode cd pc1 = .ok (.ifCond .gt o, 3)) (hp : pc1 + 3 = pc') (ho : (pc1 : Int) + o = (pcY : Int)) (rY : y < x → Run p l e R s m args below meth c n0 P h k n pcY Ls st) (rN : ¬ y < x → Run p l e R s m args below meth c n0 P h k n pc' Ls st) : Run p l e R s m args below meth c n0 P h k n pc Ls (.long y :: .long x :: st) :=
  s_lcmp C hd hp1 (s_if_gt C hd2 hp ho (fun h => rY ((lw_gt x y).mp h)) (fun h => rN (fun q => h ((lw_gt x y).mpr q))))
theorem s_if_le (C : Ctx p l e R s m args below meth c Z own cd maxL ret nm) {o : Int} {x : Int32} {pcY : Nat} (hd : decode cd pc = .ok (.ifCond .le o, 3)) (hp : pc + 3 = pc') (ho : (pc : Int) + o = (pcY : Int)) (rY : ¬ (0 : Int32) < x → Run p l e R s m args below meth c n0 P h k n pcY Ls st) (rN : (0 : Int32) < x → Run p l e R s m args below meth c n0 P h k n pc' Ls st) : Run p l e R s m args below meth c n0 P h k n pc Ls (.int x :: st) :=
  s_if C hd hp ho (fun h => rY (holds_le.1 h)) (fun h => rN (holds_le.2 h))
theorem s_icmp_le (C : Ctx p l e R s m args below meth c Z own cd maxL ret nm) {o : Int} {x y : Int32} {pcY : Nat} (hd : decode cd pc = .ok (.if_icmp .le o, 3)) (hp : pc + 3 = pc') (ho : (pc : Int) + o = (pcY : Int)) (rY : ¬ y < x → Run p l e R s m args below meth c n0 P h k n pcY Ls st) (rN : y < x → Run p l e R s m args below meth c n0 P h k n pc' Ls st) : Run p l e R s m args below meth c n0 P h k n pc Ls (.int y :: .int x :: st) :=
  s_icmp C hd hp ho (fun h => rY (holds_le.1 h)) (fun h => rN (holds_le.2 h))
theorem s_lc_le (C : Ctx p l e R s m args below meth c Z own cd maxL ret nm) {o : Int} {x y : Int64} {pc1 pcY : Nat} (hd : decode cd pc = .ok (.lcmp, 1)) (hp1 : pc + 1 = pc1) (hd2 : decode cd pc1 = .ok (.ifCond .le o, 3)) (hp : pc1 + 3 = pc') (ho : (pc1 : Int) + o = (pcY : Int)) (rY : ¬ y < x → Run p l e R s m args below meth c n0 P h k n pcY Ls st) (rN : y < x → Run p l e R s m args below meth c n0 P h k n pc' Ls st) : Run p l e R s m args below meth c n0 P h k n pc Ls (.long y :: .long x :: st) :=
  s_lcmp C hd hp1 (s_if_le C hd2 hp ho (fun h => rY (fun q => h ((lw_gt x y).mpr q))) (fun h => rN ((lw_gt x y).mp h)))
theorem s_if_eq (C : Ctx p l e R s m args below meth c Z own cd maxL ret nm) {o : Int} {x : Int32} {pcY : Nat} (hd : decode cd pc = .ok (.ifCond .eq o, 3)) (hp : pc + 3 = pc') (ho : (pc : Int) + o = (pcY : Int)) (rY : x = (0 : Int32) → Run p l e R s m args below meth c n0 P h k n pcY Ls st) (rN : ¬ x = (0 : Int32) → Run p l e R s m args below meth c n0 P h k n pc' Ls st) : Run p l e R s m args below meth c n0 P h k n pc Ls (.int x :: st) :=
  s_if C hd hp ho (fun h => rY (holds_eq.1 h)) (fun h => rN (holds_eq.2 h))
theorem s_icmp_eq (C : Ctx p l e R s m args below meth c Z own cd maxL ret nm) {o : Int} {x y : Int32} {pcY : Nat} (hd : decode cd pc = .ok (.if_icmp .eq o, 3)) (hp : pc + 3 = pc') (ho : (pc : Int) + o = (pcY : Int)) (rY : x = y → Run p l e R s m args below meth c n0 P h k n pcY Ls st) (rN : ¬ x = y → Run p l e R s m args below meth c n0 P h k n pc' Ls st) : Run p l e R s m args below meth c n0 P h k n pc Ls (.int y :: .int x :: st) :=
  s_icmp C hd hp ho (fun h => rY (holds_eq.1 h)) (fun h => rN (holds_eq.2 h))
theorem s_lc_eq (C : Ctx p l e R s m args below meth c Z own cd maxL ret nm) {o : Int} {x y : Int64} {pc1 pcY : Nat} (hd : decode cd pc = .ok (.lcmp, 1)) (hp1 : pc + 1 = pc1) (hd2 : decode cd pc1 = .ok (.ifCond .eq o, 3)) (hp : pc1 + 3 = pc') (ho : (pc1 : Int) + o = (pcY : Int)) (rY : x = y → Run p l e R s m args below meth c n0 P h k n pcY Ls st) (rN : ¬ x = y → Run p l e R s m args below meth c n0 P h k n pc' Ls st) : Run p l e R s m args below meth c n0 P h k n pc Ls (.long y :: .long x :: st) :=
  s_lcmp C hd hp1 (s_if_eq C hd2 hp ho (fun h => rY ((lw_eq x y).mp h)) (fun h => rN (fun q => h ((lw_eq x y).mpr q))))
theorem s_if_ne (C : Ctx p l e R s m args below meth c Z own cd maxL ret nm) {o : Int} {x : Int32} {pcY : Nat} (hd : decode cd pc = .ok (.ifCond .ne o, 3)) (hp : pc + 3 = pc') (ho : (pc : Int) + o = (pcY : Int)) (rY : ¬ x = (0 : Int32) → Run p l e R s m args below meth c n0 P h k n pcY Ls st) (rN : x = (0 : Int32) → Run p l e R s m args below meth c n0 P h k n pc' Ls st) : Run p l e R s m args below meth c n0 P h k n pc Ls (.int x :: st) :=
  s_if C hd hp ho (fun h => rY (holds_ne.1 h)) (fun h => rN (holds_ne.2 h))
theorem s_icmp_ne (C : Ctx p l e R s m args below meth c Z own cd maxL ret nm) {o : Int} {x y : Int32} {pcY : Nat} (hd : decode cd pc = .ok (.if_icmp .ne o, 3)) (hp : pc + 3 = pc') (ho : (pc : Int) + o = (pcY : Int)) (rY : ¬ x = y → Run p l e R s m args below meth c n0 P h k n pcY Ls st) (rN : x = y → Run p l e R s m args below meth c n0 P h k n pc' Ls st) : Run p l e R s m args below meth c n0 P h k n pc Ls (.int y :: .int x :: st) :=
  s_icmp C hd hp ho (fun h => rY (holds_ne.1 h)) (fun h => rN (holds_ne.2 h))
theorem s_lc_ne (C : Ctx p l e R s m args below meth c Z own cd maxL ret nm) {o : Int} {x y : Int64} {pc1 pcY : Nat} (hd : decode cd pc = .ok (.lcmp, 1)) (hp1 : pc + 1 = pc1) (hd2 : decode cd pc1 = .ok (.ifCond .ne o, 3)) (hp : pc1 + 3 = pc') (ho : (pc1 : Int) + o = (pcY : Int)) (rY : ¬ x = y → Run p l e R s m args below meth c n0 P h k n pcY Ls st) (rN : x = y → Run p l e R s m args below meth c n0 P h k n pc' Ls st) : Run p l e R s m args below meth c n0 P h k n pc Ls (.long y :: .long x :: st) :=
  s_lcmp C hd hp1 (s_if_ne C hd2 hp ho (fun h => rY (fun q => h ((lw_eq x y).mpr q))) (fun h => rN ((lw_eq x y).mp h)))
theorem s_ifnullR (C : Ctx p l e R s m args below meth c Z own cd maxL ret nm) {o : Int} {b : Addr} (hd : decode cd pc = .ok (.ifnull o, 3)) (hp : pc + 3 = pc') (r : Run p l e R s m args below meth c n0 P h k n pc' Ls st) : Run p l e R s m args below meth c n0 P h k n pc Ls (.ref b :: st) := by
  subst hp; exact Run.pure (fun T locs X _ t z => XS.ifnullNo X.here C.1 rfl (hb C.2.2.1 hd) rfl z) r
theorem s_ifnullN (C : Ctx p l e R s m args below meth c Z own cd maxL ret nm) {o : Int} (hd : decode cd pc = .ok (.ifnull o, 3)) (hp : (pc : Int) + o = (pc' : Int)) (r : Run p l e R s m args below meth c n0 P h k n pc' Ls st) : Run p l e R s m args below meth c n0 P h k n pc Ls (.null :: st) :=
  Run.pure (fun T locs X _ t z => XS.ifnullYes X.here C.1 rfl (pc0 := pc) rfl (hb C.2.2.1 hd) rfl (by omega) (by omega) z) r
theorem s_ifnonnullR (C : Ctx p l e R s m args below meth c Z own cd maxL ret nm) {o : Int} {b : Addr} (hd : decode cd pc = .ok (.ifnonnull o, 3)) (hp : (pc : Int) + o = (pc' : Int)) (r : Run p l e R s m args below meth c n0 P h k n pc' Ls st) : Run p l e R s m args below meth c n0 P h k n pc Ls (.ref b :: st) :=
  Run.pure (fun T locs X _ t z => XS.ifnonnullYes X.here C.1 rfl (pc0 := pc) rfl (hb C.2.2.1 hd) rfl (by omega) (by omega) z) r
theorem s_ifnonnullN (C : Ctx p l e R s m args below meth c Z own cd maxL ret nm) {o : Int} (hd : decode cd pc = .ok (.ifnonnull o, 3)) (hp : pc + 3 = pc') (r : Run p l e R s m args below meth c n0 P h k n pc' Ls st) : Run p l e R s m args below meth c n0 P h k n pc Ls (.null :: st) := by
  subst hp; exact Run.pure (fun T locs X _ t z => XS.ifnonnullNo X.here C.1 rfl (hb C.2.2.1 hd) rfl z) r
theorem s_acmp (C : Ctx p l e R s m args below meth c Z own cd maxL ret nm) {cc : ClassFile.ACond} {o : Int} {x y : Value} {same : Bool} (hd : decode cd pc = .ok (.if_acmp cc o, 3)) (h1 : x.isRef = true) (h2 : y.isRef = true) (hq : decide (x = y) = same) (ho : 0 ≤ (pc : Int) + o) (hp : pc' = if acV cc same = true then ((pc : Int) + o).toNat else pc + 3) (r : Run p l e R s m args below meth c n0 P h k n pc' Ls st) : Run p l e R s m args below meth c n0 P h k n pc Ls (y :: x :: st) :=
  Run.pure (fun T locs X _ t z => Jvm.RoadKit.acmp (g := mkF m pc Ls (y :: x :: st)) X C.1 rfl h1 h2 rfl (hb C.2.2.1 hd) rfl hq ho hp z) r
/-! returns -/
theorem Run.out {v : Option Value} (C : Ctx p l e R s m args below meth c Z own cd maxL ret nm) (hv : ret = none → v = none) (f : ∀ T locs, Stand p l e R s m args below meth c T locs k n → ∀ fs, (∀ (f : JFrame) (acts : List Action), f.method = m → f.locked = none → f.entered = [] → (doReturn e (T.setTop f) acts v).1 = T.setFrames fs) → Steps p.tables e below (T.setTop (mkF m pc Ls st)) (T.setFrames fs)) (hk : k ≤ R.cells) (hn : n ≤ R.slots) (hP : P v h) : Run p l e R s m args below meth c n0 P h k n pc Ls st := fun T locs X eT N => by
  obtain ⟨fs, hr, hrun, hended, hW, hsame⟩ := X.leave (v := v) (fun h => hv (C.2.2.2.2.2.1 ▸ h)) C.2.2.2.2.2.2.1
  exact ⟨_, _, f T locs X fs hr, hrun, hended, _, _, rfl, ⟨(by rw [show (T.setFrames fs).heap = h from eT]; exact hP), N⟩, ⟨_, rfl⟩, hW, hsame.mono hk hn⟩
theorem s_retI {Q : Int32 → Heap → Prop} (C : Ctx p l e R s m args below meth c Z own cd maxL (some .int) nm) {z : Int32} (hd : decode cd pc = .ok (.ireturn, 1)) (hk : k ≤ R.cells) (hn : n ≤ R.slots) (hQ : Q z h) : Run p l e R s m args below meth c n0 (RetI Q) h k n pc Ls (.int z :: st) :=
  Run.out C (fun h => by cases h) (fun T locs X fs hr => retOut X C.1 C.2.2.2.2.2.1 rfl (Or.inl ⟨rfl, Or.inl rfl, _, rfl⟩) (hb C.2.2.1 hd) hr) hk hn ⟨_, rfl, hQ⟩
theorem s_retN {Q : Int32 → Heap → Prop} {t : FieldType} (C : Ctx p l e R s m args below meth c Z own cd maxL (some t) nm) (ht : t = .boolean ∨ t = .byte ∨ t = .char ∨ t = .short) {z : Int32} (hd : decode cd pc = .ok (.ireturn, 1)) (hk : k ≤ R.cells) (hn : n ≤ R.slots) (hQ : Q (nar t z) h) : Run p l e R s m args below meth c n0 (RetI Q) h k n pc Ls (.int z :: st) :=
  Run.out C (fun h => by cases h) (fun T locs X fs hr => retN X C.1 C.2.2.2.2.2.1 ht (hb C.2.2.1 hd) hr) hk hn ⟨_, rfl, hQ⟩
theorem s_retL {Q : Int64 → Heap → Prop} (C : Ctx p l e R s m args below meth c Z own cd maxL (some .long) nm) {z : Int64} (hd : decode cd pc = .ok (.lreturn, 1)) (hk : k ≤ R.cells) (hn : n ≤ R.slots) (hQ : Q z h) : Run p l e R s m args below meth c n0 (RetL Q) h k n pc Ls (.long z :: st) :=
  Run.out C (fun h => by cases h) (fun T locs X fs hr => retOut X C.1 C.2.2.2.2.2.1 rfl (Or.inr (Or.inl ⟨rfl, rfl, _, rfl⟩)) (hb C.2.2.1 hd) hr) hk hn ⟨_, rfl, hQ⟩
theorem s_retA {Q : Value → Heap → Prop} {t : FieldType} (C : Ctx p l e R s m args below meth c Z own cd maxL (some t) nm) (ht : t.isReference = true) {v : Value} (hv : v.isRef = true) (hn' : narrow t v = v) (hd : decode cd pc = .ok (.areturn, 1)) (hk : k ≤ R.cells) (hn : n ≤ R.slots) (hQ : Q v h) : Run p l e R s m args below meth c n0 (RetV Q) h k n pc Ls (v :: st) :=
  Run.out C (fun h => by cases h) (fun T locs X fs hr => retOut X C.1 C.2.2.2.2.2.1 hn' (Or.inr (Or.inr (Or.inr (Or.inr ⟨rfl, ht, hv⟩)))) (hb C.2.2.1 hd) hr) hk hn ⟨_, rfl, hQ⟩
theorem s_ret0 {Q : Heap → Prop} (C : Ctx p l e R s m args below meth c Z own cd maxL none nm) (hd : decode cd pc = .ok (.return_, 1)) (hk : k ≤ R.cells) (hn : n ≤ R.slots) (hQ : Q h) : Run p l e R s m args below meth c n0 (Ret0 Q) h k n pc Ls [] :=
  Run.out C (fun _ => rfl) (fun T locs X fs hr => X.returnOut C.1 C.2.2.2.2.2.1 (hb C.2.2.1 hd) hr) hk hn ⟨rfl, hQ⟩
/-! fields, objects -/
theorem s_getF (C : Ctx p l e R s m args below meth c Z own cd maxL ret nm) {O f d : String} {i : Nat} {a : Addr} {v : Value} (hd : decode cd pc = .ok (.getfield i, 3)) (hp : pc + 3 = pc') (w : (Jvm.Cond.fieldLink own i O f d).before a0 Z = true) (F : Fld Z h a O f d v) (r : Run p l e R s m args below meth c n0 P h k n pc' Ls (v :: st)) : Run p l e R s m args below meth c n0 P h k n pc Ls (.ref a :: st) := by
  subst hp; exact Run.warm (fun T locs X eT => getF X C.1 C.2.1 C.2.2.2.2.1 (host := "") (Or.inl w) Via.refl eT F (g := mkF m pc Ls (.ref a :: st)) rfl rfl (hb C.2.2.1 hd)) r
theorem s_getS (C : Ctx p l e R s m args below meth c Z own cd maxL ret nm) {O f d : String} {i : Nat} {v : Value} (hd : decode cd pc = .ok (.getstatic i, 3)) (hp : pc + 3 = pc') (w : (Jvm.Cond.fieldLink own i O f d).before a0 Z = true) (F : Sta Z h O f d v) (r : Run p l e R s m args below meth c n0 P h k n pc' Ls (v :: st)) : Run p l e R s m args below meth c n0 P h k n pc Ls st := by
  subst hp; exact Run.warm (fun T locs X eT => getS (host := "") X C.1 C.2.1 C.2.2.2.2.1 w Via.refl eT F (g := mkF m pc Ls st) rfl (hb C.2.2.1 hd)) r
theorem s_putF (C : Ctx p l e R s m args below meth c Z own cd maxL ret nm) {O f d K : String} {i kk : Nat} {a : Addr} {v old : Value} {ty : FieldType} (hd : decode cd pc = .ok (.putfield i, 3)) (hp : pc + 3 = pc') (w : (Jvm.Cond.fieldLink own i O f d).before a0 Z = true) (F : Fld Z h a O f d old) (E : Exa Z h a K)
    (L : (Jvm.Cond.lays K O f d).before a0 Z = true ∨ ((Jvm.Cond.laysFinal K O f d).before a0 Z = true ∧ own = O ∧ nm = "<init>")) (wi : (Jvm.Cond.instantiable K kk).before a0 Z = true) (hty : parseFieldDescriptor d = some ty) (hn : narrow ty v = v) (hf : fits ty v = true) (ha : n0 ≤ a)
    (r : ∀ h', Wr h h' a (Jvm.RoadKit.slotOf Z O f d) v → Run p l e R s m args below meth c n0 P h' k n pc' Ls st) : Run p l e R s m args below meth c n0 P h k n pc Ls (v :: .ref a :: st) := by
  subst hp
  intro T locs X eT N
  obtain ⟨T', h', X', e', W, q⟩ := putF X C.1 C.2.1 C.2.2.2.2.1 (host := "") (Or.inl w) Via.refl eT F E (L.imp id fun z => ⟨z.1, z.2.1, C.2.2.2.2.2.2.2.trans z.2.2⟩) wi hty hn hf (g := mkF m pc Ls (v :: .ref a :: st)) rfl rfl (hb C.2.2.1 hd)
  obtain ⟨s₂, o, z, r⟩ := r h' W T' _ X' e' (Fr.snoc X' N ha)
  exact ⟨s₂, o, q _ z, r⟩
theorem s_new (C : Ctx p l e R s m args below meth c Z own cd maxL ret nm) {K : String} {i sl k' n' : Nat} (hd : decode cd pc = .ok (.new i, 3)) (hp : pc + 3 = pc') (w : (Jvm.Cond.classLink own i K).before a0 Z = true) (wi : (Jvm.Cond.instantiable K sl).before a0 Z = true) (wz : (Jvm.Cond.initialized K).before a0 Z = true) (hk : k + 1 = k') (hk' : k' ≤ R.cells) (hn : n + sl = n') (hn' : n' ≤ R.slots)
    (r : ∀ h' a, Ext h h' → a = h.size → Exa Z h' a K → (∀ {O nm d : String} {ty : FieldType}, Laid Z a0 K O nm d → parseFieldDescriptor d = some ty → Fld Z h' a O nm d (defaultValue ty)) → Run p l e R s m args below meth c n0 P h' k' n' pc' Ls (.ref a :: st)) : Run p l e R s m args below meth c n0 P h k n pc Ls st := by
  subst hp hk hn
  intro T locs X eT N
  obtain ⟨T', h', X', e', E, A, D, -, q⟩ := newO X C.1 C.2.1 C.2.2.2.2.1 w wi wz eT (g := mkF m pc Ls st) rfl (hb C.2.2.1 hd) hk' hn'
  obtain ⟨s₂, o, z, r⟩ := r h' _ E rfl A D T' _ X' e' N
  exact ⟨s₂, o, q _ z, r⟩
theorem s_initO (C : Ctx p l e R s m args below meth c Z own cd maxL ret nm) {i W : Nat} {a : Addr} (hd : decode cd pc = .ok (.invokespecial i, 3)) (hp : pc + 3 = pc') (w1 : (Jvm.Cond.methodLink own i Lib.objectInit).before a0 Z = true) (w2 : (Jvm.Cond.instanceMethod Lib.objectInit).before a0 Z = true) (w3 : (Jvm.Cond.code Lib.objectInit ⟨#[0xb1]⟩ 1 none).before a0 Z = true) (hs : Ls.size = maxL) (hf : 1 ≤ R.frames) (hW : (st.map fun v => v.category).sum = W) (hl : W + 12 ≤ R.locals)
    (r : Run p l e R s m args below meth c n0 P h k n pc' Ls st) : Run p l e R s m args below meth c n0 P h k n pc Ls (.ref a :: st) := by
  subst hp; exact Run.warm (fun T locs X eT => initO X C.1 C.2.1 C.2.2.2.2.1 w1 w2 w3 eT (g := mkF m pc Ls (.ref a :: st)) rfl (by rw [C.2.2.2.1]; exact hs) rfl (hb C.2.2.1 hd) hf (W := W) (by show 2 * 0 + _ ≤ _; omega) hl) r
theorem s_cast (C : Ctx p l e R s m args below meth c Z own cd maxL ret nm) {K : String} {i : Nat} {a : Addr} (hd : decode cd pc = .ok (.checkcast i, 3)) (hp : pc + 3 = pc') (w : (Jvm.Cond.classLink own i K).before a0 Z = true) (F : Ins Z h a K true) (r : Run p l e R s m args below meth c n0 P h k n pc' Ls (.ref a :: st)) : Run p l e R s m args below meth c n0 P h k n pc Ls (.ref a :: st) := by
  subst hp; exact Run.warm (fun T locs X eT => castY X C.1 C.2.1 C.2.2.2.2.1 w eT F (g := mkF m pc Ls (.ref a :: st)) rfl rfl (hb C.2.2.1 hd)) r
theorem s_instY (C : Ctx p l e R s m args below meth c Z own cd maxL ret nm) {K : String} {i : Nat} {a : Addr} (hd : decode cd pc = .ok (.instanceof i, 3)) (hp : pc + 3 = pc') (w : (Jvm.Cond.classLink own i K).before a0 Z = true) (F : Ins Z h a K true) (r : Run p l e R s m args below meth c n0 P h k n pc' Ls (.int 1 :: st)) : Run p l e R s m args below meth c n0 P h k n pc Ls (.ref a :: st) := by
  subst hp; exact Run.warm (fun T locs X eT => instY X C.1 C.2.1 C.2.2.2.2.1 w eT F (g := mkF m pc Ls (.ref a :: st)) rfl rfl (hb C.2.2.1 hd)) r
/-! calls -/
theorem Met.back {y : MethodName} {bytes : ByteArray} {mL len W : Nat} {rt : Option FieldType} {rm : Room} {as : Array Value} {Q : Option Value → Heap → Prop} (M : Met l Z y bytes mL rt [] rm as h n0 Q) (hZ : Z.Warmed39 s.vm) (wc : (Jvm.Cond.code y bytes mL rt).before a0 Z = true) (wz : (Jvm.Cond.initialized y.cls).before a0 Z = true) (hf : rm.frames + 1 ≤ R.frames) (hl : W + (mL + 11) + rm.locals ≤ R.locals) :
    Back l R p e below s args y len W (fun A a => a = as ∧ A.U.heap = h ∧ A.cells + rm.cells ≤ R.cells ∧ A.slots + rm.slots ≤ R.slots) (fun A _ v B => ∃ L, (Q v B.U.heap ∧ Fr n0 L) ∧ B.locs = A.locs ++ L ∧ B.cells = A.cells + rm.cells ∧ B.slots = A.slots + rm.slots) :=
  backOf (Q := fun v h L => Q v h ∧ Fr n0 L) M hZ wc wz hf hl
theorem s_callS (C : Ctx p l e R s m args below meth c Z own cd maxL ret nm) {y : MethodName} {bytes : ByteArray} {mL i W k' n' : Nat} {rt : Option FieldType} {rm : Room} {Q : Option Value → Heap → Prop} (hd : decode cd pc = .ok (.invokestatic i, 3)) (hp : pc + 3 = pc') (wl : (Jvm.Cond.methodLink own i y).before a0 Z = true) (ws : (Jvm.Cond.static y).before a0 Z = true) (wz : (Jvm.Cond.initialized y.cls).before a0 Z = true) (wc : (Jvm.Cond.code y bytes mL rt).before a0 Z = true) (hy : y.cls ≠ "java/lang/invoke/MethodHandle" ∧ y.cls ≠ "java/lang/invoke/VarHandle") (as rest : List Value) {ps : List FieldType} {rr : Option FieldType} (hdes : parseMethodDescriptor y.desc = some ⟨ps, rr⟩) (hlen : as.length = ps.length) (hst : st = as.reverse ++ rest)
    (M : Met l Z y bytes mL rt [] rm as.toArray h n0 Q) (hs : Ls.size = maxL) (hW : (rest.map fun v => v.category).sum = W) (hf : rm.frames + 1 ≤ R.frames) (hl : W + (mL + 11) + rm.locals ≤ R.locals) (hk : k + rm.cells = k') (hk' : k' ≤ R.cells) (hn : n + rm.slots = n') (hn' : n' ≤ R.slots)
    (r : ∀ v h', Q v h' → Run p l e R s m args below meth c n0 P h' k' n' pc' Ls (v.toList ++ rest)) : Run p l e R s m args below meth c n0 P h k n pc Ls st := by
  subst hp hk hn hst
  intro T locs X eT N
  obtain ⟨v, _, ⟨T', L', k', n'⟩, -, X', ⟨Lc, ⟨hQ, N'⟩, l', y', z'⟩, q⟩ := Jvm.LawKit.callS X C.1 (y := y) C.2.2.2.2.1 (mvT C.2.1 wl) (mvT C.2.1 ws) (mvT C.2.1 wz) (mvT C.2.1 wc) hy (M.back (W := W) C.2.1 wc wz hf hl) (g := mkF m pc Ls (as.reverse ++ rest)) rfl (by rw [C.2.2.2.1]; exact hs) (argsL := as) (rest := rest) (lenOf hdes hlen) rfl (by show 2 * 0 + _ ≤ _; omega) (hb C.2.2.1 hd) (fun _ _ => ⟨rfl, eT, hk', hn'⟩)
  dsimp only [Pt.U, Pt.locs, Pt.cells, Pt.slots] at X' l' y' z' q hQ
  subst l' y' z'
  obtain ⟨s₂, o, z, r⟩ := r v _ hQ T' _ X' rfl (Fr.app N N')
  exact ⟨s₂, o, q _ z, r⟩
theorem s_callV (C : Ctx p l e R s m args below meth c Z own cd maxL ret nm) {y z : MethodName} {K : String} {bytes : ByteArray} {mL i W k' n' : Nat} {rt : Option FieldType} {rm : Room} {b : Addr} {Q : Option Value → Heap → Prop} (hd : decode cd pc = .ok (.invokevirtual i, 3)) (hp : pc + 3 = pc') (wl : (Jvm.Cond.methodLink own i y).before a0 Z = true) (wd : (Jvm.Cond.declares y).before a0 Z = true) (hnf : NotFace s y) (wsel : (Jvm.Cond.selects K y z).before a0 Z = true) (wi : (Jvm.Cond.instanceMethod z).before a0 Z = true) (wz : (Jvm.Cond.initialized z.cls).before a0 Z = true) (wc : (Jvm.Cond.code z bytes mL rt).before a0 Z = true) (hy : y.cls ≠ "java/lang/invoke/MethodHandle" ∧ y.cls ≠ "java/lang/invoke/VarHandle") (E : Exa Z h b K) (as rest : List Value) {ps : List FieldType} {rr : Option FieldType} (hdes : parseMethodDescriptor y.desc = some ⟨ps, rr⟩) (hlen : as.length = ps.length) (hst : st = as.reverse ++ .ref b :: rest)
    (M : Met l Z z bytes mL rt [] rm (.ref b :: as).toArray h n0 Q) (hs : Ls.size = maxL) (hW : (rest.map fun v => v.category).sum = W) (hf : rm.frames + 1 ≤ R.frames) (hl : W + (mL + 11) + rm.locals ≤ R.locals) (hk : k + rm.cells = k') (hk' : k' ≤ R.cells) (hn : n + rm.slots = n') (hn' : n' ≤ R.slots)
    (r : ∀ v h', Q v h' → Run p l e R s m args below meth c n0 P h' k' n' pc' Ls (v.toList ++ rest)) : Run p l e R s m args below meth c n0 P h k n pc Ls st := by
  subst hp hk hn hst
  intro T locs X eT N
  obtain ⟨cq, kq, qa, qb, qc⟩ := isOf C.2.1 eT E
  obtain ⟨v, _, ⟨T', L', k', n'⟩, -, X', ⟨Lc, ⟨hQ, N'⟩, l', y', z'⟩, q⟩ := X.virtualBack C.1 (y := y) (z := z) C.2.2.2.2.1 (mvT C.2.1 wl) (mvT C.2.1 wd) hnf (mvT C.2.1 wsel) (mvT C.2.1 wi) hy (M.back (W := W) C.2.1 wc wz hf hl) qa qc (g := mkF m pc Ls (as.reverse ++ .ref b :: rest)) rfl (by rw [C.2.2.2.1]; exact hs) (Steps.refl _) (argsL := as) (rest := rest) (lenOf hdes hlen) rfl (by show 2 * 0 + _ ≤ _; omega) (hb C.2.2.1 hd) (fun _ _ => ⟨rfl, eT, hk', hn'⟩)
  dsimp only [Pt.U, Pt.locs, Pt.cells, Pt.slots] at X' l' y' z' q hQ
  subst l' y' z'
  obtain ⟨s₂, o, z, r⟩ := r v _ hQ T' _ X' rfl (Fr.app N N')
  exact ⟨s₂, o, q.trans z, r⟩
theorem s_callI (C : Ctx p l e R s m args below meth c Z own cd maxL ret nm) {y : MethodName} {bytes : ByteArray} {mL i W k' n' : Nat} {rm : Room} {b : Addr} {Q : Heap → Prop} (hd : decode cd pc = .ok (.invokespecial i, 3)) (hp : pc + 3 = pc') (wl : (Jvm.Cond.methodLink own i y).before a0 Z = true) (hy1 : y.name = "<init>") (wi : (Jvm.Cond.instanceMethod y).before a0 Z = true) (wz : (Jvm.Cond.initialized y.cls).before a0 Z = true) (wc : (Jvm.Cond.code y bytes mL none).before a0 Z = true) (hy : y.cls ≠ "java/lang/invoke/MethodHandle" ∧ y.cls ≠ "java/lang/invoke/VarHandle") (as rest : List Value) {ps : List FieldType} {rr : Option FieldType} (hdes : parseMethodDescriptor y.desc = some ⟨ps, rr⟩) (hlen : as.length = ps.length) (hst : st = as.reverse ++ .ref b :: rest)
    (M : Met l Z y bytes mL none [] rm (.ref b :: as).toArray h n0 (Ret0 Q)) (hs : Ls.size = maxL) (hW : (rest.map fun v => v.category).sum = W) (hf : rm.frames + 1 ≤ R.frames) (hl : W + (mL + 11) + rm.locals ≤ R.locals) (hk : k + rm.cells = k') (hk' : k' ≤ R.cells) (hn : n + rm.slots = n') (hn' : n' ≤ R.slots)
    (r : ∀ h', Q h' → Run p l e R s m args below meth c n0 P h' k' n' pc' Ls rest) : Run p l e R s m args below meth c n0 P h k n pc Ls st := by
  subst hp hk hn hst
  intro T locs X eT N
  obtain ⟨v, _, ⟨T', L', k', n'⟩, -, X', ⟨Lc, ⟨⟨rfl, hQ⟩, N'⟩, l', y', z'⟩, q⟩ := X.specialBack C.1 (y := y) hy1 C.2.2.2.2.1 (mvT C.2.1 wl) (mvT C.2.1 wi) (mvT C.2.1 wc) hy (M.back (W := W) C.2.1 wc wz hf hl) (g := mkF m pc Ls (as.reverse ++ .ref b :: rest)) rfl (by rw [C.2.2.2.1]; exact hs) (Steps.refl _) (a := b) (argsL := as) (rest := rest) (lenOf hdes hlen) rfl (by show 2 * 0 + _ ≤ _; omega) (hb C.2.2.1 hd) (fun _ _ => ⟨rfl, eT, hk', hn'⟩)
  dsimp only [Pt.U, Pt.locs, Pt.cells, Pt.slots] at X' l' y' z' q hQ
  subst l' y' z'
  obtain ⟨s₂, o, z, r⟩ := r _ hQ T' _ X' rfl (Fr.app N N')
  exact ⟨s₂, o, q.trans z, r⟩
theorem s_callSI (C : Ctx p l e R s m args below meth c Z own cd maxL ret nm) {y : MethodName} {bytes : ByteArray} {mL i W k' n' : Nat} {rt : Option FieldType} {rm : Room} {Q : Int32 → Heap → Prop} (hd : decode cd pc = .ok (.invokestatic i, 3)) (hp : pc + 3 = pc') (wl : (Jvm.Cond.methodLink own i y).before a0 Z = true) (ws : (Jvm.Cond.static y).before a0 Z = true) (wz : (Jvm.Cond.initialized y.cls).before a0 Z = true) (wc : (Jvm.Cond.code y bytes mL rt).before a0 Z = true) (hy : y.cls ≠ "java/lang/invoke/MethodHandle" ∧ y.cls ≠ "java/lang/invoke/VarHandle") (as rest : List Value) {ps : List FieldType} {rr : Option FieldType} (hdes : parseMethodDescriptor y.desc = some ⟨ps, rr⟩) (hlen : as.length = ps.length) (hst : st = as.reverse ++ rest)
    (M : Met l Z y bytes mL rt [] rm as.toArray h n0 (RetI Q)) (hs : Ls.size = maxL) (hW : (rest.map fun v => v.category).sum = W) (hf : rm.frames + 1 ≤ R.frames) (hl : W + (mL + 11) + rm.locals ≤ R.locals) (hk : k + rm.cells = k') (hk' : k' ≤ R.cells) (hn : n + rm.slots = n') (hn' : n' ≤ R.slots)
    (r : ∀ (z : Int32) h', Q z h' → Run p l e R s m args below meth c n0 P h' k' n' pc' Ls ((.int z) :: rest)) : Run p l e R s m args below meth c n0 P h k n pc Ls st :=
  s_callS C hd hp wl ws wz wc hy as rest hdes hlen hst M hs hW hf hl hk hk' hn hn' (fun v h' q => by obtain ⟨z, rfl, q⟩ := q; exact r z h' q)
theorem s_callSL (C : Ctx p l e R s m args below meth c Z own cd maxL ret nm) {y : MethodName} {bytes : ByteArray} {mL i W k' n' : Nat} {rt : Option FieldType} {rm : Room} {Q : Int64 → Heap → Prop} (hd : decode cd pc = .ok (.invokestatic i, 3)) (hp : pc + 3 = pc') (wl : (Jvm.Cond.methodLink own i y).before a0 Z = true) (ws : (Jvm.Cond.static y).before a0 Z = true) (wz : (Jvm.Cond.initialized y.cls).before a0 Z = true) (wc : (Jvm.Cond.code y bytes mL rt).before a0 Z = true) (hy : y.cls ≠ "java/lang/invoke/MethodHandle" ∧ y.cls ≠ "java/lang/invoke/VarHandle") (as rest : List Value) {ps : List FieldType} {rr : Option FieldType} (hdes : parseMethodDescriptor y.desc = some ⟨ps, rr⟩) (hlen : as.length = ps.length) (hst : st = as.reverse ++ rest)
    (M : Met l Z y bytes mL rt [] rm as.toArray h n0 (RetL Q)) (hs : Ls.size = maxL) (hW : (rest.map fun v => v.category).sum = W) (hf : rm.frames + 1 ≤ R.frames) (hl : W + (mL + 11) + rm.locals ≤ R.locals) (hk : k + rm.cells = k') (hk' : k' ≤ R.cells) (hn : n + rm.slots = n') (hn' : n' ≤ R.slots)
    (r : ∀ (z : Int64) h', Q z h' → Run p l e R s m args below meth c n0 P h' k' n' pc' Ls ((.long z) :: rest)) : Run p l e R s m args below meth c n0 P h k n pc Ls st :=
  s_callS C hd hp wl ws wz wc hy as rest hdes hlen hst M hs hW hf hl hk hk' hn hn' (fun v h' q => by obtain ⟨z, rfl, q⟩ := q; exact r z h' q)
theorem s_callSA (C : Ctx p l e R s m args below meth c Z own cd maxL ret nm) {y : MethodName} {bytes : ByteArray} {mL i W k' n' : Nat} {rt : Option FieldType} {rm : Room} {Q : Value → Heap → Prop} (hd : decode cd pc = .ok (.invokestatic i, 3)) (hp : pc + 3 = pc') (wl : (Jvm.Cond.methodLink own i y).before a0 Z = true) (ws : (Jvm.Cond.static y).before a0 Z = true) (wz : (Jvm.Cond.initialized y.cls).before a0 Z = true) (wc : (Jvm.Cond.code y bytes mL rt).before a0 Z = true) (hy : y.cls ≠ "java/lang/invoke/MethodHandle" ∧ y.cls ≠ "java/lang/invoke/VarHandle") (as rest : List Value) {ps : List FieldType} {rr : Option FieldType} (hdes : parseMethodDescriptor y.desc = some ⟨ps, rr⟩) (hlen : as.length = ps.length) (hst : st = as.reverse ++ rest)
    (M : Met l Z y bytes mL rt [] rm as.toArray h n0 (RetV Q)) (hs : Ls.size = maxL) (hW : (rest.map fun v => v.category).sum = W) (hf : rm.frames + 1 ≤ R.frames) (hl : W + (mL + 11) + rm.locals ≤ R.locals) (hk : k + rm.cells = k') (hk' : k' ≤ R.cells) (hn : n + rm.slots = n') (hn' : n' ≤ R.slots)
    (r : ∀ (z : Value) h', Q z h' → Run p l e R s m args below meth c n0 P h' k' n' pc' Ls (z :: rest)) : Run p l e R s m args below meth c n0 P h k n pc Ls st :=
  s_callS C hd hp wl ws wz wc hy as rest hdes hlen hst M hs hW hf hl hk hk' hn hn' (fun v h' q => by obtain ⟨z, rfl, q⟩ := q; exact r z h' q)
theorem s_callS0 (C : Ctx p l e R s m args below meth c Z own cd maxL ret nm) {y : MethodName} {bytes : ByteArray} {mL i W k' n' : Nat} {rt : Option FieldType} {rm : Room} {Q : Heap → Prop} (hd : decode cd pc = .ok (.invokestatic i, 3)) (hp : pc + 3 = pc') (wl : (Jvm.Cond.methodLink own i y).before a0 Z = true) (ws : (Jvm.Cond.static y).before a0 Z = true) (wz : (Jvm.Cond.initialized y.cls).before a0 Z = true) (wc : (Jvm.Cond.code y bytes mL rt).before a0 Z = true) (hy : y.cls ≠ "java/lang/invoke/MethodHandle" ∧ y.cls ≠ "java/lang/invoke/VarHandle") (as rest : List Value) {ps : List FieldType} {rr : Option FieldType} (hdes : parseMethodDescriptor y.desc = some ⟨ps, rr⟩) (hlen : as.length = ps.length) (hst : st = as.reverse ++ rest)
    (M : Met l Z y bytes mL rt [] rm as.toArray h n0 (Ret0 Q)) (hs : Ls.size = maxL) (hW : (rest.map fun v => v.category).sum = W) (hf : rm.frames + 1 ≤ R.frames) (hl : W + (mL + 11) + rm.locals ≤ R.locals) (hk : k + rm.cells = k') (hk' : k' ≤ R.cells) (hn : n + rm.slots = n') (hn' : n' ≤ R.slots)
    (r : ∀ h', Q h' → Run p l e R s m args below meth c n0 P h' k' n' pc' Ls rest) : Run p l e R s m args below meth c n0 P h k n pc Ls st :=
  s_callS C hd hp wl ws wz wc hy as rest hdes hlen hst M hs hW hf hl hk hk' hn hn' (fun v h' q => by obtain ⟨rfl, q⟩ := q; exact r h' q)
theorem s_callVI (C : Ctx p l e R s m args below meth c Z own cd maxL ret nm) {y z : MethodName} {K : String} {bytes : ByteArray} {mL i W k' n' : Nat} {rt : Option FieldType} {rm : Room} {b : Addr} {Q : Int32 → Heap → Prop} (hd : decode cd pc = .ok (.invokevirtual i, 3)) (hp : pc + 3 = pc') (wl : (Jvm.Cond.methodLink own i y).before a0 Z = true) (wd : (Jvm.Cond.declares y).before a0 Z = true) (hnf : NotFace s y) (wsel : (Jvm.Cond.selects K y z).before a0 Z = true) (wi : (Jvm.Cond.instanceMethod z).before a0 Z = true) (wz : (Jvm.Cond.initialized z.cls).before a0 Z = true) (wc : (Jvm.Cond.code z bytes mL rt).before a0 Z = true) (hy : y.cls ≠ "java/lang/invoke/MethodHandle" ∧ y.cls ≠ "java/lang/invoke/VarHandle") (E : Exa Z h b K) (as rest : List Value) {ps : List FieldType} {rr : Option FieldType} (hdes : parseMethodDescriptor y.desc = some ⟨ps, rr⟩) (hlen : as.length = ps.length) (hst : st = as.reverse ++ .ref b :: rest)
    (M : Met l Z z bytes mL rt [] rm (.ref b :: as).toArray h n0 (RetI Q)) (hs : Ls.size = maxL) (hW : (rest.map fun v => v.category).sum = W) (hf : rm.frames + 1 ≤ R.frames) (hl : W + (mL + 11) + rm.locals ≤ R.locals) (hk : k + rm.cells = k') (hk' : k' ≤ R.cells) (hn : n + rm.slots = n') (hn' : n' ≤ R.slots)
    (r : ∀ (z : Int32) h', Q z h' → Run p l e R s m args below meth c n0 P h' k' n' pc' Ls ((.int z) :: rest)) : Run p l e R s m args below meth c n0 P h k n pc Ls st :=
  s_callV C hd hp wl wd hnf wsel wi wz wc hy E as rest hdes hlen hst M hs hW hf hl hk hk' hn hn' (fun v h' q => by obtain ⟨z, rfl, q⟩ := q; exact r z h' q)
theorem s_callVL (C : Ctx p l e R s m args below meth c Z own cd maxL ret nm) {y z : MethodName} {K : String} {bytes : ByteArray} {mL i W k' n' : Nat} {rt : Option FieldType} {rm : Room} {b : Addr} {Q : Int64 → Heap → Prop} (hd : decode cd pc = .ok (.invokevirtual i, 3)) (hp : pc + 3 = pc') (wl : (Jvm.Cond.methodLink own i y).before a0 Z = true) (wd : (Jvm.Cond.declares y).before a0 Z = true) (hnf : NotFace s y) (wsel : (Jvm.Cond.selects K y z).before a0 Z = true) (wi : (Jvm.Cond.instanceMethod z).before a0 Z = true) (wz : (Jvm.Cond.initialized z.cls).before a0 Z = true) (wc : (Jvm.Cond.code z bytes mL rt).before a0 Z = true) (hy : y.cls ≠ "java/lang/invoke/MethodHandle" ∧ y.cls ≠ "java/lang/invoke/VarHandle") (E : Exa Z h b K) (as rest : List Value) {ps : List FieldType} {rr : Option FieldType} (hdes : parseMethodDescriptor y.desc = some ⟨ps, rr⟩) (hlen : as.length = ps.length) (hst : st = as.reverse ++ .ref b :: rest)
    (M : Met l Z z bytes mL rt [] rm (.ref b :: as).toArray h n0 (RetL Q)) (hs : Ls.size = maxL) (hW : (rest.map fun v => v.category).sum = W) (hf : rm.frames + 1 ≤ R.frames) (hl : W + (mL + 11) + rm.locals ≤ R.locals) (hk : k + rm.cells = k') (hk' : k' ≤ R.cells) (hn : n + rm.slots = n') (hn' : n' ≤ R.slots)
    (r : ∀ (z : Int64) h', Q z h' → Run p l e R s m args below meth c n0 P h' k' n' pc' Ls ((.long z) :: rest)) : Run p l e R s m args below meth c n0 P h k n pc Ls st :=
  s_callV C hd hp wl wd hnf wsel wi wz wc hy E as rest hdes hlen hst M hs hW hf hl hk hk' hn hn' (fun v h' q => by obtain ⟨z, rfl, q⟩ := q; exact r z h' q)
theorem s_callVA (C : Ctx p l e R s m args below meth c Z own cd maxL ret nm) {y z : MethodName} {K : String} {bytes : ByteArray} {mL i W k' n' : Nat} {rt : Option FieldType} {rm : Room} {b : Addr} {Q : Value → Heap → Prop} (hd : decode cd pc = .ok (.invokevirtual i, 3)) (hp : pc + 3 = pc') (wl : (Jvm.Cond.methodLink own i y).before a0 Z = true) (wd : (Jvm.Cond.declares y).before a0 Z = true) (hnf : NotFace s y) (wsel : (Jvm.Cond.selects K y z).before a0 Z = true) (wi : (Jvm.Cond.instanceMethod z).before a0 Z = true) (wz : (Jvm.Cond.initialized z.cls).before a0 Z = true) (wc : (Jvm.Cond.code z bytes mL rt).before a0 Z = true) (hy : y.cls ≠ "java/lang/invoke/MethodHandle" ∧ y.cls ≠ "java/lang/invoke/VarHandle") (E : Exa Z h b K) (as rest : List Value) {ps : List FieldType} {rr : Option FieldType} (hdes : parseMethodDescriptor y.desc = some ⟨ps, rr⟩) (hlen : as.length = ps.length) (hst : st = as.reverse ++ .ref b :: rest)
    (M : Met l Z z bytes mL rt [] rm (.ref b :: as).toArray h n0 (RetV Q)) (hs : Ls.size = maxL) (hW : (rest.map fun v => v.category).sum = W) (hf : rm.frames + 1 ≤ R.frames) (hl : W + (mL + 11) + rm.locals ≤ R.locals) (hk : k + rm.cells = k') (hk' : k' ≤ R.cells) (hn : n + rm.slots = n') (hn' : n' ≤ R.slots)
    (r : ∀ (z : Value) h', Q z h' → Run p l e R s m args below meth c n0 P h' k' n' pc' Ls (z :: rest)) : Run p l e R s m args below meth c n0 P h k n pc Ls st :=
  s_callV C hd hp wl wd hnf wsel wi wz wc hy E as rest hdes hlen hst M hs hW hf hl hk hk' hn hn' (fun v h' q => by obtain ⟨z, rfl, q⟩ := q; exact r z h' q)
theorem s_callV0 (C : Ctx p l e R s m args below meth c Z own cd maxL ret nm) {y z : MethodName} {K : String} {bytes : ByteArray} {mL i W k' n' : Nat} {rt : Option FieldType} {rm : Room} {b : Addr} {Q : Heap → Prop} (hd : decode cd pc = .ok (.invokevirtual i, 3)) (hp : pc + 3 = pc') (wl : (Jvm.Cond.methodLink own i y).before a0 Z = true) (wd : (Jvm.Cond.declares y).before a0 Z = true) (hnf : NotFace s y) (wsel : (Jvm.Cond.selects K y z).before a0 Z = true) (wi : (Jvm.Cond.instanceMethod z).before a0 Z = true) (wz : (Jvm.Cond.initialized z.cls).before a0 Z = true) (wc : (Jvm.Cond.code z bytes mL rt).before a0 Z = true) (hy : y.cls ≠ "java/lang/invoke/MethodHandle" ∧ y.cls ≠ "java/lang/invoke/VarHandle") (E : Exa Z h b K) (as rest : List Value) {ps : List FieldType} {rr : Option FieldType} (hdes : parseMethodDescriptor y.desc = some ⟨ps, rr⟩) (hlen : as.length = ps.length) (hst : st = as.reverse ++ .ref b :: rest)
    (M : Met l Z z bytes mL rt [] rm (.ref b :: as).toArray h n0 (Ret0 Q)) (hs : Ls.size = maxL) (hW : (rest.map fun v => v.category).sum = W) (hf : rm.frames + 1 ≤ R.frames) (hl : W + (mL + 11) + rm.locals ≤ R.locals) (hk : k + rm.cells = k') (hk' : k' ≤ R.cells) (hn : n + rm.slots = n') (hn' : n' ≤ R.slots)
    (r : ∀ h', Q h' → Run p l e R s m args below meth c n0 P h' k' n' pc' Ls rest) : Run p l e R s m args below meth c n0 P h k n pc Ls st :=
  s_callV C hd hp wl wd hnf wsel wi wz wc hy E as rest hdes hlen hst M hs hW hf hl hk hk' hn hn' (fun v h' q => by obtain ⟨rfl, q⟩ := q; exact r h' q)
/-! arrays: exactly these values -/
def Av (Z : State) (h : Heap) (a : Addr) (ty : FieldType) (vs : List Value) : Prop := ∃ cl : Cell, Arr Z h a cl ty ∧ cl.slots = vs.toArray ∧ vs.length < 2 ^ 31 ∧ ∀ v ∈ vs, fits ty v = true
theorem Av.lt {h : Heap} {a : Addr} {ty : FieldType} {vs : List Value} (V : Av Z h a ty vs) : a < h.size := by obtain ⟨cl, A, -⟩ := V; exact A.lt
theorem Av.ext {h h' : Heap} {a : Addr} {ty : FieldType} {vs : List Value} (V : Av Z h a ty vs) (E : Ext h h') : Av Z h' a ty vs := by obtain ⟨cl, A, r⟩ := V; exact ⟨cl, A.ext E, r⟩
theorem Av.other {h h' : Heap} {a b : Addr} {ty : FieldType} {vs : List Value} {sl : Nat} {v : Value} (V : Av Z h b ty vs) (W : Wr h h' a sl v) (q : b ≠ a) : Av Z h' b ty vs := by obtain ⟨cl, A, r⟩ := V; exact ⟨cl, A.other W q, r⟩
theorem Av.keep {h h' : Heap} {a : Addr} {ty : FieldType} {vs : List Value} {ws : List Addr} (V : Av Z h a ty vs) (K : Keep h h' ws) (q : a ∉ ws) : Av Z h' a ty vs := by obtain ⟨cl, A, r⟩ := V; exact ⟨cl, ⟨K.2.1 a cl A.1 q, A.2⟩, r⟩
theorem Av.set {h h' : Heap} {a : Addr} {ty : FieldType} {vs : List Value} {i : Nat} {v : Value} (V : Av Z h a ty vs) (W : Wr h h' a i v) (hf : fits ty v = true) : Av Z h' a ty (vs.set i v) := by
  obtain ⟨cl, A, hs, hl, hq⟩ := V
  exact ⟨_, A.same W, by simp [Cell.setSlot, hs], by simpa using hl, fun u hu => (List.mem_or_eq_of_mem_set hu).elim (hq u) (fun e => e ▸ hf)⟩
theorem fits_default (ty : FieldType) : fits ty (defaultValue ty) = true := by cases ty <;> first | rfl | decide
theorem Av.new {h : Heap} {a : Addr} {cA : ClassId} {ty : FieldType} {z : Int32} (A : Arr Z h a (newA cA ty z) ty) : Av Z h a ty (List.replicate z.toNatClampNeg (defaultValue ty)) := ⟨_, A, by simp [newA], by rw [List.length_replicate]; have := z.toInt_lt; simp only [Int32.toNatClampNeg]; omega, fun v hv => (List.eq_of_mem_replicate hv) ▸ fits_default ty⟩
theorem getD_toArray (vs : List Value) (i : Nat) (dv : Value) (hi : i < vs.length) : vs.toArray[i]? = some (vs.getD i dv) := by
  simp [List.getD_eq_getElem?_getD, List.getElem?_eq_getElem hi]
theorem len32 {n : Nat} (h : n < 2 ^ 31) : n.toInt32.toNatClampNeg = n ∧ ¬ n.toInt32 < 0 := by
  have e : n.toInt32.toInt = n := len_toInt (by omega)
  constructor
  · simp [Int32.toNatClampNeg, e]
  · rw [Int32.lt_iff_toInt_lt, e]; simp only [Int32.reduceToInt]; omega
theorem Av.arv {h : Heap} {a : Addr} {ty : FieldType} {vs : List Value} (dv : Value) (V : Av Z h a ty vs) : ∃ k, Arv Z h a k ty vs.length.toInt32 vs dv := by
  obtain ⟨cl, A, hs, hl, hq⟩ := V
  have e := len32 hl
  refine ⟨cl.cls, cl, A, rfl, by rw [e.1, hs]; simp, e.2, fun i hi => ?_, fun i hi => ?_⟩
  · rw [hs] at hi ⊢; exact getD_toArray vs i dv (by simpa using hi)
  · rw [hs] at hi
    have hi' : i < vs.length := by simpa using hi
    rw [List.getD_eq_getElem?_getD, List.getElem?_eq_getElem hi']
    exact hq _ (List.getElem_mem hi')
theorem Av.of_arv {h : Heap} {a : Addr} {k : ClassId} {ty : FieldType} {z : Int32} {vs : List Value} {dv : Value} (V : Arv Z h a k ty z vs dv) (hl : vs.length = z.toNatClampNeg) : Av Z h a ty vs := by
  obtain ⟨cl, A, -, hs, hz, hh, hf⟩ := V
  have e : cl.slots.size = vs.length := by rw [hs, hl]
  refine ⟨cl, A, ?_, by have := z.toInt_lt; rw [hl]; simp only [Int32.toNatClampNeg]; omega, fun v hv => ?_⟩
  · apply Array.ext_getElem?
    intro i
    by_cases hi : i < vs.length
    · rw [hh i (by omega)]; exact (getD_toArray vs i dv hi).symm
    · rw [Array.getElem?_eq_none (by omega), Array.getElem?_eq_none (by simpa using hi)]
  · obtain ⟨i, hi, rfl⟩ := List.getElem_of_mem hv
    have q := hf i (by omega)
    rwa [List.getD_eq_getElem?_getD, List.getElem?_eq_getElem hi] at q
theorem idx_n {j : Int32} {i : Nat} (hi : j.toInt = (i : Int)) : j.toNatClampNeg = i ∧ ¬ j < 0 := by
  constructor
  · simp [Int32.toNatClampNeg, hi]
  · rw [Int32.lt_iff_toInt_lt, hi]; simp only [Int32.reduceToInt]; omega
theorem s_newarr (C : Ctx p l e R s m args below meth c Z own cd maxL ret nm) {aty : ArrayType} {z : Int32} {k' n' cap : Nat} (hd : decode cd pc = .ok (.newarray aty, 2)) (hp : pc + 2 = pc') (w : (Jvm.Cond.arrayClass (newarray.typeOf aty)).before a0 Z = true) (hz : ¬ z < 0) (hcap : z.toNatClampNeg ≤ cap) (hcb : cap * 8 ≤ 536870912) (hk : k + 1 = k') (hk' : k' ≤ R.cells) (hn : n + cap = n') (hn' : n' ≤ R.slots) (vs : List Value) (hvs : List.replicate z.toNatClampNeg (defaultValue (newarray.typeOf aty)) = vs)
    (r : ∀ h' a, Ext h h' → a = h.size → Av Z h' a (newarray.typeOf aty) vs → Run p l e R s m args below meth c n0 P h' k' n' pc' Ls (.ref a :: st)) : Run p l e R s m args below meth c n0 P h k n pc Ls (.int z :: st) := by
  subst hp hk hn hvs
  intro T locs X eT N
  obtain ⟨T', h', cA, X', e', E, A, q⟩ := newP X C.1 C.2.1 w eT (g := mkF m pc Ls (.int z :: st)) rfl (hb C.2.2.1 hd) rfl hz hcap hcb hk' hn'
  obtain ⟨s₂, o, z, r⟩ := r h' _ E rfl (Av.new A) T' _ X' e' N
  exact ⟨s₂, o, q _ z, r⟩
theorem s_newarrE (C : Ctx p l e R s m args below meth c Z own cd maxL ret nm) {aty : ArrayType} {z : Int32} {k' n' cap : Nat} (hd : decode cd pc = .ok (.newarray aty, 2)) (hp : pc + 2 = pc') (w : (Jvm.Cond.arrayClass (newarray.typeOf aty)).before a0 Z = true) (hz : ¬ z < 0) (hcap : z.toNatClampNeg ≤ cap) (hcb : cap * 8 ≤ 536870912) (hk : k + 1 = k') (hk' : k' ≤ R.cells) (hn : n + cap = n') (hn' : n' ≤ R.slots) (vs : List Value) (hvs : List.replicate z.toNatClampNeg (defaultValue (newarray.typeOf aty)) = vs) (ad : String) (had : "[" ++ (newarray.typeOf aty).toString = ad)
    (r : ∀ h' a, Ext h h' → a = h.size → Av Z h' a (newarray.typeOf aty) vs → Exa Z h' a ad → Run p l e R s m args below meth c n0 P h' k' n' pc' Ls (.ref a :: st)) : Run p l e R s m args below meth c n0 P h k n pc Ls (.int z :: st) := by
  subst hp hk hn hvs
  intro T locs X eT N
  obtain ⟨T', h', cA, X', e', E, A, Ex, q⟩ := newPE X C.1 C.2.1 w eT (g := mkF m pc Ls (.int z :: st)) rfl (hb C.2.2.1 hd) rfl hz hcap hcb hk' hn' had
  obtain ⟨s₂, o, z, r⟩ := r h' _ E rfl (Av.new A) Ex T' _ X' e' N
  exact ⟨s₂, o, q _ z, r⟩
theorem s_newref (C : Ctx p l e R s m args below meth c Z own cd maxL ret nm) {K : String} {i : Nat} {z : Int32} {k' n' cap : Nat} (hd : decode cd pc = .ok (.anewarray i, 3)) (hp : pc + 3 = pc') (w1 : (Jvm.Cond.classLink own i K).before a0 Z = true) (w2 : (Jvm.Cond.arrayOver (.object K)).before a0 Z = true) (hz : ¬ z < 0) (hcap : z.toNatClampNeg ≤ cap) (hcb : cap * 8 ≤ 536870912) (hk : k + 1 = k') (hk' : k' ≤ R.cells) (hn : n + cap = n') (hn' : n' ≤ R.slots) (vs : List Value) (hvs : List.replicate z.toNatClampNeg Value.null = vs)
    (r : ∀ h' a cA, Ext h h' → a = h.size → Av Z h' a (.object K) vs → Arr Z h' a (newA cA (.object K) z) (.object K) → Ovr Z cA K → Run p l e R s m args below meth c n0 P h' k' n' pc' Ls (.ref a :: st)) : Run p l e R s m args below meth c n0 P h k n pc Ls (.int z :: st) := by
  subst hp hk hn hvs
  intro T locs X eT N
  obtain ⟨T', h', cA, X', e', E, A, O, q⟩ := newR X C.1 C.2.1 C.2.2.2.2.1 w1 w2 eT (g := mkF m pc Ls (.int z :: st)) rfl (hb C.2.2.1 hd) rfl hz hcap hcb hk' hn'
  obtain ⟨s₂, o, z, r⟩ := r h' _ cA E rfl (Av.new A) A O T' _ X' e' N
  exact ⟨s₂, o, q _ z, r⟩
theorem s_foldI (C : Ctx p l e R s m args below meth c Z own cd maxL ret nm) {x y : Int32} (hx : x = y) (r : Run p l e R s m args below meth c n0 P h k n pc Ls (.int y :: st)) : Run p l e R s m args below meth c n0 P h k n pc Ls (.int x :: st) := hx ▸ r
theorem s_foldL (C : Ctx p l e R s m args below meth c Z own cd maxL ret nm) {x y : Int64} (hx : x = y) (r : Run p l e R s m args below meth c n0 P h k n pc Ls (.long y :: st)) : Run p l e R s m args below meth c n0 P h k n pc Ls (.long x :: st) := hx ▸ r
theorem s_arraycopy (C : Ctx p l e R s m args below meth c Z own cd maxL ret nm) {i W : Nat} {ty : FieldType} {a b : Addr} {vs vd : List Value} {sp dp nn : Int32} (hd : decode cd pc = .ok (.invokestatic i, 3)) (hp : pc + 3 = pc') (w1 : (Jvm.Cond.methodLink own i Jvm.Stand.acN).before a0 Z = true) (w2 : (Jvm.Cond.native Jvm.Stand.acN).before a0 Z = true) (w3 : (Jvm.Cond.static Jvm.Stand.acN).before a0 Z = true) (w4 : (Jvm.Cond.initialized "java/lang/System").before a0 Z = true) (A : Av Z h a ty vs) (B : Av Z h b ty vd) (hty : refKind ty = false) (si di ni : Nat) (h1 : sp.toInt = (si : Int)) (h2 : dp.toInt = (di : Int)) (h3 : nn.toInt = (ni : Int)) (h4 : si + ni ≤ vs.length) (h5 : di + ni ≤ vd.length) (ge : n0 ≤ b) (hs : Ls.size = maxL) (hf : 1 ≤ R.frames) (hW : (st.map fun v => v.category).sum = W) (hlo : W + (nativeFrameWords "java/lang/System" "arraycopy" 5 + 11) ≤ R.locals) (vd' : List Value) (hvd : vd.take di ++ (vs.drop si).take ni ++ vd.drop (di + ni) = vd')
    (r : ∀ h', Keep h h' [b] → Av Z h' b ty vd' → Run p l e R s m args below meth c n0 P h' k n pc' Ls st) : Run p l e R s m args below meth c n0 P h k n pc Ls (.int nn :: .int dp :: .ref b :: .int sp :: .ref a :: st) := by
  subst hp hvd
  obtain ⟨e1, g1⟩ := idx_n h1
  obtain ⟨e2, g2⟩ := idx_n h2
  obtain ⟨e3, g3⟩ := idx_n h3
  have la := A
  have lb := B
  obtain ⟨_, -, -, la, -⟩ := la
  obtain ⟨_, -, -, lb, -⟩ := lb
  obtain ⟨ka, A'⟩ := A.arv Value.null
  obtain ⟨kb, B'⟩ := B.arv Value.null
  intro T locs X eT N
  have hus : (vs.drop si).take ni = (List.range nn.toNatClampNeg).map fun i => vs.getD (sp.toNatClampNeg + i) Value.null := by
    rw [e1, e3]
    apply List.ext_getElem
    · simp; omega
    · intro j q1 q2
      have q3 : j < ni := by simpa using q2
      simp [List.getD_eq_getElem?_getD, List.getElem?_eq_getElem (show si + j < vs.length by omega)]
  obtain ⟨T', h', L, X', e', N', K, V', q⟩ := cpA X C.1 C.2.1 C.2.2.2.2.1 w1 w2 w3 w4 eT A' B' (Or.inl ⟨rfl, hty⟩) g1 g2 g3 (by rw [e1, e3, (len32 la).1]; exact h4) (by rw [e2, e3, (len32 lb).1]; exact h5) hus (by rw [e2, e3]; exact h5) N ge (g := mkF m pc Ls (.int nn :: .int dp :: .ref b :: .int sp :: .ref a :: st)) rfl (by rw [C.2.2.2.1]; exact hs) rfl (hb C.2.2.1 hd) hf (W := W) (by show 2 * 0 + _ ≤ _; omega) hlo
  rw [e2, e3] at V'
  obtain ⟨s₂, o, z, r⟩ := r h' K (Av.of_arv V' (by rw [(len32 lb).1]; simp; omega)) T' _ X' e' N'
  exact ⟨s₂, o, q _ z, r⟩
theorem s_clone (C : Ctx p l e R s m args below meth c Z own cd maxL ret nm) {i W k' n' cap : Nat} {ty : FieldType} {ad : String} {a : Addr} {vs : List Value} (hd : decode cd pc = .ok (.invokevirtual i, 3)) (hp : pc + 3 = pc') (w1 : (Jvm.Cond.methodLink own i ⟨ad, "clone", "()Ljava/lang/Object;"⟩).before a0 Z = true) (w2 : (Jvm.Cond.sameMethod ad "java/lang/Object" "clone" "()Ljava/lang/Object;").before a0 Z = true) (w3 : (Jvm.Cond.native ⟨"java/lang/Object", "clone", "()Ljava/lang/Object;"⟩).before a0 Z = true) (w4 : (Jvm.Cond.instanceMethod ⟨"java/lang/Object", "clone", "()Ljava/lang/Object;"⟩).before a0 Z = true) (w5 : (Jvm.Cond.selects ad ⟨ad, "clone", "()Ljava/lang/Object;"⟩ ⟨"java/lang/Object", "clone", "()Ljava/lang/Object;"⟩).before a0 Z = true) (w6 : (Jvm.Cond.castable ad "java/lang/Cloneable").before a0 Z = true) (V : Av Z h a ty vs) (E : Exa Z h a ad) (hs : Ls.size = maxL) (hf : 1 ≤ R.frames) (hW : (st.map fun v => v.category).sum = W) (hl : W + 14 ≤ R.locals) (hcap : vs.length ≤ cap) (hk : k + 1 = k') (hk' : k' ≤ R.cells) (hn : n + cap = n') (hn' : n' ≤ R.slots)
    (r : ∀ h' b, Ext h h' → b = h.size → Av Z h' b ty vs → Exa Z h' b ad → Run p l e R s m args below meth c n0 P h' k' n' pc' Ls (.ref b :: st)) : Run p l e R s m args below meth c n0 P h k n pc Ls (.ref a :: st) := by
  subst hp hk hn
  have la := V
  obtain ⟨_, -, -, la, -⟩ := la
  obtain ⟨ka, A'⟩ := V.arv Value.null
  intro T locs X eT N
  obtain ⟨T', h', X', e', Ex, V', E', q⟩ := cloneH X C.1 C.2.1 C.2.2.2.2.1 w1 w2 w3 w4 w5 w6 eT A'.arh E (g := mkF m pc Ls (.ref a :: st)) rfl (by rw [C.2.2.2.1]; exact hs) rfl (hb C.2.2.1 hd) hf (W := W) (cap := cap) (by show 2 * 0 + _ ≤ _; omega) hl (by rw [(len32 la).1]; exact hcap) hk' hn'
  obtain ⟨s₂, o, z, r⟩ := r h' _ Ex rfl (Av.of_arv (dv := Value.null) V' (len32 la).1.symm) E' T' _ X' e' N
  exact ⟨s₂, o, q _ z, r⟩
theorem s_length (C : Ctx p l e R s m args below meth c Z own cd maxL ret nm) {ty : FieldType} {a : Addr} {vs : List Value} (hd : decode cd pc = .ok (.arraylength, 1)) (hp : pc + 1 = pc') (V : Av Z h a ty vs) (z : Int32) (hz : vs.length.toInt32 = z) (r : Run p l e R s m args below meth c n0 P h k n pc' Ls (.int z :: st)) : Run p l e R s m args below meth c n0 P h k n pc Ls (.ref a :: st) := by
  subst hp hz
  obtain ⟨cl, A, hs, hl, -⟩ := V
  have e1 : cl.slots.size = vs.length := by simp [hs]
  refine Run.pure (fun T locs X eT t z => X.arraylength C.1 (by rw [eT]; exact A.1) (State.isArrayOf_alike C.2.1.alike A.2.1) (g := mkF m pc Ls (.ref a :: st)) rfl rfl (hb C.2.2.1 hd) _ (by rw [e1]; exact z)) r
theorem s_iaload (C : Ctx p l e R s m args below meth c Z own cd maxL ret nm) {a : Addr} {vs : List Value} {j : Int32} {x : Int32} (hd : decode cd pc = .ok (.iaload, 1)) (hp : pc + 1 = pc') (V : Av Z h a .int vs) (i : Nat) (hi : j.toInt = (i : Int)) (hv : vs[i]? = some (.int x)) (r : Run p l e R s m args below meth c n0 P h k n pc' Ls ((.int x) :: st)) : Run p l e R s m args below meth c n0 P h k n pc Ls (.int j :: .ref a :: st) := by
  subst hp
  obtain ⟨cl, A, hs, hl, -⟩ := V
  obtain ⟨e1, e2⟩ := idx_n hi
  have e3 : i < vs.length := (List.getElem?_eq_some_iff.mp hv).1
  refine Run.pure (fun T locs X eT t z => X.iaload C.1 (by rw [eT]; exact A.1) (State.isArrayOf_alike C.2.1.alike A.2.1) A.2.2 (by rw [e1, hs]; rintro (q | q); exact e2 q; simp at q; omega) (by rw [e1, hs]; simpa using hv) (g := mkF m pc Ls (.int j :: .ref a :: st)) rfl rfl (hb C.2.2.1 hd) _ z) r
theorem s_laload (C : Ctx p l e R s m args below meth c Z own cd maxL ret nm) {a : Addr} {vs : List Value} {j : Int32} {x : Int64} (hd : decode cd pc = .ok (.laload, 1)) (hp : pc + 1 = pc') (V : Av Z h a .long vs) (i : Nat) (hi : j.toInt = (i : Int)) (hv : vs[i]? = some (.long x)) (r : Run p l e R s m args below meth c n0 P h k n pc' Ls ((.long x) :: st)) : Run p l e R s m args below meth c n0 P h k n pc Ls (.int j :: .ref a :: st) := by
  subst hp
  obtain ⟨cl, A, hs, hl, -⟩ := V
  obtain ⟨e1, e2⟩ := idx_n hi
  have e3 : i < vs.length := (List.getElem?_eq_some_iff.mp hv).1
  refine Run.pure (fun T locs X eT t z => X.laload C.1 (by rw [eT]; exact A.1) (State.isArrayOf_alike C.2.1.alike A.2.1) A.2.2 (by rw [e1, hs]; rintro (q | q); exact e2 q; simp at q; omega) (by rw [e1, hs]; simpa using hv) (g := mkF m pc Ls (.int j :: .ref a :: st)) rfl rfl (hb C.2.2.1 hd) _ z) r
theorem s_baload (C : Ctx p l e R s m args below meth c Z own cd maxL ret nm) {a : Addr} {vs : List Value} {j : Int32} {x : Int32} (hd : decode cd pc = .ok (.baload, 1)) (hp : pc + 1 = pc') (V : Av Z h a .byte vs) (i : Nat) (hi : j.toInt = (i : Int)) (hv : vs[i]? = some (.int x)) (r : Run p l e R s m args below meth c n0 P h k n pc' Ls ((.int x) :: st)) : Run p l e R s m args below meth c n0 P h k n pc Ls (.int j :: .ref a :: st) := by
  subst hp
  obtain ⟨cl, A, hs, hl, -⟩ := V
  obtain ⟨e1, e2⟩ := idx_n hi
  have e3 : i < vs.length := (List.getElem?_eq_some_iff.mp hv).1
  refine Run.pure (fun T locs X eT t z => X.baloadBytes C.1 (by rw [eT]; exact A.1) (State.isArrayOf_alike C.2.1.alike A.2.1) A.2.2 (by rw [e1, hs]; rintro (q | q); exact e2 q; simp at q; omega) (by rw [e1, hs]; simpa using hv) (g := mkF m pc Ls (.int j :: .ref a :: st)) rfl rfl (hb C.2.2.1 hd) _ z) r
theorem s_caload (C : Ctx p l e R s m args below meth c Z own cd maxL ret nm) {a : Addr} {vs : List Value} {j : Int32} {x : Int32} (hd : decode cd pc = .ok (.caload, 1)) (hp : pc + 1 = pc') (V : Av Z h a .char vs) (i : Nat) (hi : j.toInt = (i : Int)) (hv : vs[i]? = some (.int x)) (r : Run p l e R s m args below meth c n0 P h k n pc' Ls ((.int x) :: st)) : Run p l e R s m args below meth c n0 P h k n pc Ls (.int j :: .ref a :: st) := by
  subst hp
  obtain ⟨cl, A, hs, hl, -⟩ := V
  obtain ⟨e1, e2⟩ := idx_n hi
  have e3 : i < vs.length := (List.getElem?_eq_some_iff.mp hv).1
  refine Run.pure (fun T locs X eT t z => X.caload C.1 (by rw [eT]; exact A.1) (State.isArrayOf_alike C.2.1.alike A.2.1) A.2.2 (by rw [e1, hs]; rintro (q | q); exact e2 q; simp at q; omega) (by rw [e1, hs]; simpa using hv) (g := mkF m pc Ls (.int j :: .ref a :: st)) rfl rfl (hb C.2.2.1 hd) _ z) r
theorem s_aaload (C : Ctx p l e R s m args below meth c Z own cd maxL ret nm) {a : Addr} {vs : List Value} {j : Int32} {x : Value} {ty : FieldType} (hty : ty.isReference = true) (hd : decode cd pc = .ok (.aaload, 1)) (hp : pc + 1 = pc') (V : Av Z h a ty vs) (i : Nat) (hi : j.toInt = (i : Int)) (hv : vs[i]? = some x) (r : Run p l e R s m args below meth c n0 P h k n pc' Ls (x :: st)) : Run p l e R s m args below meth c n0 P h k n pc Ls (.int j :: .ref a :: st) := by
  subst hp
  obtain ⟨cl, A, hs, hl, -⟩ := V
  obtain ⟨e1, e2⟩ := idx_n hi
  have e3 : i < vs.length := (List.getElem?_eq_some_iff.mp hv).1
  refine Run.pure (fun T locs X eT t z => X.aaload C.1 (by rw [eT]; exact A.1) (State.isArrayOf_alike C.2.1.alike A.2.1) hty A.2.2 (by rw [e1, hs]; rintro (q | q); exact e2 q; simp at q; omega) (by rw [e1, hs]; simpa using hv) (g := mkF m pc Ls (.int j :: .ref a :: st)) rfl rfl (hb C.2.2.1 hd) _ z) r
theorem s_baloadC (C : Ctx p l e R s m args below meth c Z own cd maxL ret nm) {a : Addr} {cl : Cell} {j x : Int32} (hd : decode cd pc = .ok (.baload, 1)) (hp : pc + 1 = pc') (A : Arr Z h a cl .byte) (hin : ¬ (j < 0 ∨ cl.slots.size ≤ j.toNatClampNeg)) (hv : cl.slots[j.toNatClampNeg]? = some (.int x)) (r : Run p l e R s m args below meth c n0 P h k n pc' Ls (.int x :: st)) : Run p l e R s m args below meth c n0 P h k n pc Ls (.int j :: .ref a :: st) := by
  subst hp
  exact Run.pure (fun T locs X eT t z => X.baloadBytes C.1 (by rw [eT]; exact A.1) (State.isArrayOf_alike C.2.1.alike A.2.1) A.2.2 hin hv (g := mkF m pc Ls (.int j :: .ref a :: st)) rfl rfl (hb C.2.2.1 hd) _ z) r
theorem s_aaloadC (C : Ctx p l e R s m args below meth c Z own cd maxL ret nm) {a : Addr} {cl : Cell} {ty : FieldType} {j : Int32} {x : Value} (hty : ty.isReference = true) (hd : decode cd pc = .ok (.aaload, 1)) (hp : pc + 1 = pc') (A : Arr Z h a cl ty) (hin : ¬ (j < 0 ∨ cl.slots.size ≤ j.toNatClampNeg)) (hv : cl.slots[j.toNatClampNeg]? = some x) (r : Run p l e R s m args below meth c n0 P h k n pc' Ls (x :: st)) : Run p l e R s m args below meth c n0 P h k n pc Ls (.int j :: .ref a :: st) := by
  subst hp
  exact Run.pure (fun T locs X eT t z => X.aaload C.1 (by rw [eT]; exact A.1) (State.isArrayOf_alike C.2.1.alike A.2.1) hty A.2.2 hin hv (g := mkF m pc Ls (.int j :: .ref a :: st)) rfl rfl (hb C.2.2.1 hd) _ z) r
theorem s_iastore (C : Ctx p l e R s m args below meth c Z own cd maxL ret nm) {a : Addr} {vs : List Value} {j : Int32} {x : Int32} (hd : decode cd pc = .ok (.iastore, 1)) (hp : pc + 1 = pc') (V : Av Z h a .int vs) (i : Nat) (hi : j.toInt = (i : Int)) (hlt : i < vs.length) (ha : n0 ≤ a) (vs' : List Value) (hvs : vs.set i (.int x) = vs') (r : ∀ h', Wr h h' a i (.int x) → Av Z h' a .int vs' → Run p l e R s m args below meth c n0 P h' k n pc' Ls st) : Run p l e R s m args below meth c n0 P h k n pc Ls ((.int x) :: .int j :: .ref a :: st) := by
  subst hp hvs
  have V0 := V
  obtain ⟨cl, A, hs, hl, -⟩ := V
  obtain ⟨e1, e2⟩ := idx_n hi
  subst e1
  intro T locs X eT N
  obtain ⟨T', h', X', e', W, q⟩ := stI X C.1 C.2.1 eT A (j := j) (by rw [hs]; rintro (q | q); exact e2 q; simp at q; omega) (g := mkF m pc Ls ((.int x) :: .int j :: .ref a :: st)) rfl rfl (hb C.2.2.1 hd)
  obtain ⟨s₂, o, z, r⟩ := r h' W (V0.set W rfl) T' _ X' e' (Fr.snoc X' N ha)
  exact ⟨s₂, o, q _ z, r⟩
theorem s_lastore (C : Ctx p l e R s m args below meth c Z own cd maxL ret nm) {a : Addr} {vs : List Value} {j : Int32} {x : Int64} (hd : decode cd pc = .ok (.lastore, 1)) (hp : pc + 1 = pc') (V : Av Z h a .long vs) (i : Nat) (hi : j.toInt = (i : Int)) (hlt : i < vs.length) (ha : n0 ≤ a) (vs' : List Value) (hvs : vs.set i (.long x) = vs') (r : ∀ h', Wr h h' a i (.long x) → Av Z h' a .long vs' → Run p l e R s m args below meth c n0 P h' k n pc' Ls st) : Run p l e R s m args below meth c n0 P h k n pc Ls ((.long x) :: .int j :: .ref a :: st) := by
  subst hp hvs
  have V0 := V
  obtain ⟨cl, A, hs, hl, -⟩ := V
  obtain ⟨e1, e2⟩ := idx_n hi
  subst e1
  intro T locs X eT N
  obtain ⟨T', h', X', e', W, q⟩ := stJ X C.1 C.2.1 eT A (j := j) (by rw [hs]; rintro (q | q); exact e2 q; simp at q; omega) (g := mkF m pc Ls ((.long x) :: .int j :: .ref a :: st)) rfl rfl (hb C.2.2.1 hd)
  obtain ⟨s₂, o, z, r⟩ := r h' W (V0.set W rfl) T' _ X' e' (Fr.snoc X' N ha)
  exact ⟨s₂, o, q _ z, r⟩
theorem s_bastore (C : Ctx p l e R s m args below meth c Z own cd maxL ret nm) {a : Addr} {vs : List Value} {j : Int32} {x : Int32} (hd : decode cd pc = .ok (.bastore, 1)) (hp : pc + 1 = pc') (V : Av Z h a .byte vs) (i : Nat) (hi : j.toInt = (i : Int)) (hlt : i < vs.length) (ha : n0 ≤ a) (vs' : List Value) (hvs : vs.set i (.int x.toInt8.toInt32) = vs') (r : ∀ h', Wr h h' a i (.int x.toInt8.toInt32) → Av Z h' a .byte vs' → Run p l e R s m args below meth c n0 P h' k n pc' Ls st) : Run p l e R s m args below meth c n0 P h k n pc Ls ((.int x) :: .int j :: .ref a :: st) := by
  subst hp hvs
  have V0 := V
  obtain ⟨cl, A, hs, hl, -⟩ := V
  obtain ⟨e1, e2⟩ := idx_n hi
  subst e1
  intro T locs X eT N
  obtain ⟨T', h', X', e', W, q⟩ := stB X C.1 C.2.1 eT A (j := j) (by rw [hs]; rintro (q | q); exact e2 q; simp at q; omega) (g := mkF m pc Ls ((.int x) :: .int j :: .ref a :: st)) rfl rfl (hb C.2.2.1 hd)
  obtain ⟨s₂, o, z, r⟩ := r h' W (V0.set W (fits_nar_byte _)) T' _ X' e' (Fr.snoc X' N ha)
  exact ⟨s₂, o, q _ z, r⟩
theorem s_castore (C : Ctx p l e R s m args below meth c Z own cd maxL ret nm) {a : Addr} {vs : List Value} {j : Int32} {x : Int32} (hd : decode cd pc = .ok (.castore, 1)) (hp : pc + 1 = pc') (V : Av Z h a .char vs) (i : Nat) (hi : j.toInt = (i : Int)) (hlt : i < vs.length) (ha : n0 ≤ a) (vs' : List Value) (hvs : vs.set i (.int x.toUInt32.toUInt16.toUInt32.toInt32) = vs') (r : ∀ h', Wr h h' a i (.int x.toUInt32.toUInt16.toUInt32.toInt32) → Av Z h' a .char vs' → Run p l e R s m args below meth c n0 P h' k n pc' Ls st) : Run p l e R s m args below meth c n0 P h k n pc Ls ((.int x) :: .int j :: .ref a :: st) := by
  subst hp hvs
  have V0 := V
  obtain ⟨cl, A, hs, hl, -⟩ := V
  obtain ⟨e1, e2⟩ := idx_n hi
  subst e1
  intro T locs X eT N
  obtain ⟨T', h', X', e', W, q⟩ := stC X C.1 C.2.1 eT A (j := j) (by rw [hs]; rintro (q | q); exact e2 q; simp at q; omega) (g := mkF m pc Ls ((.int x) :: .int j :: .ref a :: st)) rfl rfl (hb C.2.2.1 hd)
  obtain ⟨s₂, o, z, r⟩ := r h' W (V0.set W (fits_nar_char _)) T' _ X' e' (Fr.snoc X' N ha)
  exact ⟨s₂, o, q _ z, r⟩
end Steps
end Own
end Jvm.Pilot.@@N@@

namespace Jvm.Pilot.@@N@@
open Jvm Jvm.ClassFile Sem Op Lib Jvm.Free Jvm.Stand Jvm.LawKit Jvm.RoadKit Bundle Jvm.Pilot.@@N@@.Jvm.D
namespace Own
abbrev Hw (a0 : Array Value) (Z : State) : Prop := ∀ d ∈ tables_1, d.before a0 Z = true
theorem w0 {a0 : Array Value} {Z : State} (hw : Hw a0 Z) : (Jvm.Cond.arrayClass Jvm.ClassFile.FieldType.byte).before a0 Z = true := hw _ (List.mem_of_getElem? (i := 0) rfl)
theorem w1 {a0 : Array Value} {Z : State} (hw : Hw a0 Z) : (Jvm.Cond.methodLink "com/example/dewk/dewk/index/IndexFormatPutVarintPinLaw" (7 : Nat) ({ cls := "com/example/dewk/dewk/index/IndexFormat", name := "putVarint", desc := "([BIJ)I" } : Jvm.MethodName)).before a0 Z = true := hw _ (List.mem_of_getElem? (i := 1) rfl)
theorem w2 {a0 : Array Value} {Z : State} (hw : Hw a0 Z) : (Jvm.Cond.static ({ cls := "com/example/dewk/dewk/index/IndexFormat", name := "putVarint", desc := "([BIJ)I" } : Jvm.MethodName)).before a0 Z = true := hw _ (List.mem_of_getElem? (i := 2) rfl)
theorem w3 {a0 : Array Value} {Z : State} (hw : Hw a0 Z) : (Jvm.Cond.initialized "com/example/dewk/dewk/index/IndexFormat").before a0 Z = true := hw _ (List.mem_of_getElem? (i := 3) rfl)
theorem w4 {a0 : Array Value} {Z : State} (hw : Hw a0 Z) : (Jvm.Cond.code ({ cls := "com/example/dewk/dewk/index/IndexFormat", name := "putVarint", desc := "([BIJ)I" } : Jvm.MethodName) prog_80_method_5_code (7 : Nat) (Option.some Jvm.ClassFile.FieldType.int)).before a0 Z = true := hw _ (List.mem_of_getElem? (i := 4) rfl)
theorem w5 {a0 : Array Value} {Z : State} (hw : Hw a0 Z) : (Jvm.Cond.constantLong "com/example/dewk/dewk/index/IndexFormat" (32 : Nat) (-128 : Int64)).before a0 Z = true := hw _ (List.mem_of_getElem? (i := 5) rfl)
theorem w6 {a0 : Array Value} {Z : State} (hw : Hw a0 Z) : (Jvm.Cond.methodLink "com/example/dewk/dewk/index/IndexFormatPutVarintPinLaw" (13 : Nat) ({ cls := "com/example/dewk/dewk/index/IndexFormatPutVarintPinLaw", name := "expectedSize", desc := "(J)I" } : Jvm.MethodName)).before a0 Z = true := hw _ (List.mem_of_getElem? (i := 6) rfl)
theorem w7 {a0 : Array Value} {Z : State} (hw : Hw a0 Z) : (Jvm.Cond.static ({ cls := "com/example/dewk/dewk/index/IndexFormatPutVarintPinLaw", name := "expectedSize", desc := "(J)I" } : Jvm.MethodName)).before a0 Z = true := hw _ (List.mem_of_getElem? (i := 7) rfl)
theorem w8 {a0 : Array Value} {Z : State} (hw : Hw a0 Z) : (Jvm.Cond.initialized "com/example/dewk/dewk/index/IndexFormatPutVarintPinLaw").before a0 Z = true := hw _ (List.mem_of_getElem? (i := 8) rfl)
theorem w9 {a0 : Array Value} {Z : State} (hw : Hw a0 Z) : (Jvm.Cond.code ({ cls := "com/example/dewk/dewk/index/IndexFormatPutVarintPinLaw", name := "expectedSize", desc := "(J)I" } : Jvm.MethodName) method_3_code (2 : Nat) (Option.some Jvm.ClassFile.FieldType.int)).before a0 Z = true := hw _ (List.mem_of_getElem? (i := 9) rfl)
theorem w10 {a0 : Array Value} {Z : State} (hw : Hw a0 Z) : (Jvm.Cond.methodLink "com/example/dewk/dewk/index/IndexFormatPutVarintPinLaw" (19 : Nat) ({ cls := "com/example/dewk/dewk/index/IndexFormatPutVarintPinLaw", name := "ok", desc := "([BIIIJB)Z" } : Jvm.MethodName)).before a0 Z = true := hw _ (List.mem_of_getElem? (i := 10) rfl)
theorem w11 {a0 : Array Value} {Z : State} (hw : Hw a0 Z) : (Jvm.Cond.static ({ cls := "com/example/dewk/dewk/index/IndexFormatPutVarintPinLaw", name := "ok", desc := "([BIIIJB)Z" } : Jvm.MethodName)).before a0 Z = true := hw _ (List.mem_of_getElem? (i := 11) rfl)
theorem w12 {a0 : Array Value} {Z : State} (hw : Hw a0 Z) : (Jvm.Cond.code ({ cls := "com/example/dewk/dewk/index/IndexFormatPutVarintPinLaw", name := "ok", desc := "([BIIIJB)Z" } : Jvm.MethodName) method_4_code (10 : Nat) (Option.some Jvm.ClassFile.FieldType.boolean)).before a0 Z = true := hw _ (List.mem_of_getElem? (i := 12) rfl)
theorem w13 {a0 : Array Value} {Z : State} (hw : Hw a0 Z) : (Jvm.Cond.constantLong "com/example/dewk/dewk/index/IndexFormatPutVarintPinLaw" (23 : Nat) (127 : Int64)).before a0 Z = true := hw _ (List.mem_of_getElem? (i := 13) rfl)
theorem w14 {a0 : Array Value} {Z : State} (hw : Hw a0 Z) : (Jvm.Cond.constantLong "com/example/dewk/dewk/index/IndexFormat" (34 : Nat) (127 : Int64)).before a0 Z = true := hw _ (List.mem_of_getElem? (i := 14) rfl)
theorem w15 {a0 : Array Value} {Z : State} (hw : Hw a0 Z) : (Jvm.Cond.constantLong "com/example/dewk/dewk/index/IndexFormat" (30 : Nat) (128 : Int64)).before a0 Z = true := hw _ (List.mem_of_getElem? (i := 15) rfl)
theorem ef2 (m : MethodId) (x0 : Int64) : entryFrame m #[(.long x0)] 2 = mkF m 0 #[.val (.long x0), .second] [] := by first | (simp [entryFrame, mkF, argsToLocals, Value.category]; done) | rfl
theorem pn2 : plainFor (⟨"com/example/dewk/dewk/index/IndexFormatPutVarintPinLaw", "expectedSize", "(J)I"⟩ : MethodName) = true := plainFor_of_name (by first | (simp [plainName, overriddenIn]; done) | decide +kernel)
theorem d2_0 : decode method_3_code 0 = .ok (.lload_n 0, 1) := by decide +kernel
theorem d2_1 : decode method_3_code 1 = .ok (.bipush 7, 2) := by decide +kernel
theorem d2_3 : decode method_3_code 3 = .ok (.lushr, 1) := by decide +kernel
theorem d2_4 : decode method_3_code 4 = .ok (.lconst 0, 1) := by decide +kernel
theorem d2_5 : decode method_3_code 5 = .ok (.lcmp, 1) := by decide +kernel
theorem d2_6 : decode method_3_code 6 = .ok (.ifCond .ne 5, 3) := by decide +kernel
theorem d2_11 : decode method_3_code 11 = .ok (.lload_n 0, 1) := by decide +kernel
theorem d2_12 : decode method_3_code 12 = .ok (.bipush 14, 2) := by decide +kernel
theorem d2_14 : decode method_3_code 14 = .ok (.lushr, 1) := by decide +kernel
theorem d2_15 : decode method_3_code 15 = .ok (.lconst 0, 1) := by decide +kernel
theorem d2_16 : decode method_3_code 16 = .ok (.lcmp, 1) := by decide +kernel
theorem d2_17 : decode method_3_code 17 = .ok (.ifCond .ne 5, 3) := by decide +kernel
theorem d2_22 : decode method_3_code 22 = .ok (.lload_n 0, 1) := by decide +kernel
theorem d2_23 : decode method_3_code 23 = .ok (.bipush 21, 2) := by decide +kernel
theorem d2_25 : decode method_3_code 25 = .ok (.lushr, 1) := by decide +kernel
theorem d2_26 : decode method_3_code 26 = .ok (.lconst 0, 1) := by decide +kernel
theorem d2_27 : decode method_3_code 27 = .ok (.lcmp, 1) := by decide +kernel
theorem d2_28 : decode method_3_code 28 = .ok (.ifCond .ne 5, 3) := by decide +kernel
theorem d2_33 : decode method_3_code 33 = .ok (.lload_n 0, 1) := by decide +kernel
theorem d2_34 : decode method_3_code 34 = .ok (.bipush 28, 2) := by decide +kernel
theorem d2_36 : decode method_3_code 36 = .ok (.lushr, 1) := by decide +kernel
theorem d2_37 : decode method_3_code 37 = .ok (.lconst 0, 1) := by decide +kernel
theorem d2_38 : decode method_3_code 38 = .ok (.lcmp, 1) := by decide +kernel
theorem d2_39 : decode method_3_code 39 = .ok (.ifCond .ne 5, 3) := by decide +kernel
theorem d2_44 : decode method_3_code 44 = .ok (.lload_n 0, 1) := by decide +kernel
theorem d2_45 : decode method_3_code 45 = .ok (.bipush 35, 2) := by decide +kernel
theorem d2_47 : decode method_3_code 47 = .ok (.lushr, 1) := by decide +kernel
theorem d2_48 : decode method_3_code 48 = .ok (.lconst 0, 1) := by decide +kernel
theorem d2_49 : decode method_3_code 49 = .ok (.lcmp, 1) := by decide +kernel
theorem d2_50 : decode method_3_code 50 = .ok (.ifCond .ne 5, 3) := by decide +kernel
theorem d2_55 : decode method_3_code 55 = .ok (.lload_n 0, 1) := by decide +kernel
theorem d2_56 : decode method_3_code 56 = .ok (.bipush 42, 2) := by decide +kernel
theorem d2_58 : decode method_3_code 58 = .ok (.lushr, 1) := by decide +kernel
theorem d2_59 : decode method_3_code 59 = .ok (.lconst 0, 1) := by decide +kernel
theorem d2_60 : decode method_3_code 60 = .ok (.lcmp, 1) := by decide +kernel
theorem d2_61 : decode method_3_code 61 = .ok (.ifCond .ne 6, 3) := by decide +kernel
theorem d2_67 : decode method_3_code 67 = .ok (.lload_n 0, 1) := by decide +kernel
theorem d2_68 : decode method_3_code 68 = .ok (.bipush 49, 2) := by decide +kernel
theorem d2_70 : decode method_3_code 70 = .ok (.lushr, 1) := by decide +kernel
theorem d2_71 : decode method_3_code 71 = .ok (.lconst 0, 1) := by decide +kernel
theorem d2_72 : decode method_3_code 72 = .ok (.lcmp, 1) := by decide +kernel
theorem d2_73 : decode method_3_code 73 = .ok (.ifCond .ne 6, 3) := by decide +kernel
theorem d2_79 : decode method_3_code 79 = .ok (.lload_n 0, 1) := by decide +kernel
theorem d2_80 : decode method_3_code 80 = .ok (.bipush 56, 2) := by decide +kernel
theorem d2_82 : decode method_3_code 82 = .ok (.lushr, 1) := by decide +kernel
theorem d2_83 : decode method_3_code 83 = .ok (.lconst 0, 1) := by decide +kernel
theorem d2_84 : decode method_3_code 84 = .ok (.lcmp, 1) := by decide +kernel
theorem d2_85 : decode method_3_code 85 = .ok (.ifCond .ne 6, 3) := by decide +kernel
theorem d2_91 : decode method_3_code 91 = .ok (.lload_n 0, 1) := by decide +kernel
theorem d2_92 : decode method_3_code 92 = .ok (.bipush 63, 2) := by decide +kernel
theorem d2_94 : decode method_3_code 94 = .ok (.lushr, 1) := by decide +kernel
theorem d2_95 : decode method_3_code 95 = .ok (.lconst 0, 1) := by decide +kernel
theorem d2_96 : decode method_3_code 96 = .ok (.lcmp, 1) := by decide +kernel
theorem d2_97 : decode method_3_code 97 = .ok (.ifCond .ne 6, 3) := by decide +kernel
theorem d2_103 : decode method_3_code 103 = .ok (.bipush 10, 2) := by decide +kernel
theorem d2_105 : decode method_3_code 105 = .ok (.ireturn, 1) := by decide +kernel
theorem d2_100 : decode method_3_code 100 = .ok (.bipush 9, 2) := by decide +kernel
theorem d2_102 : decode method_3_code 102 = .ok (.ireturn, 1) := by decide +kernel
theorem d2_88 : decode method_3_code 88 = .ok (.bipush 8, 2) := by decide +kernel
theorem d2_90 : decode method_3_code 90 = .ok (.ireturn, 1) := by decide +kernel
theorem d2_76 : decode method_3_code 76 = .ok (.bipush 7, 2) := by decide +kernel
theorem d2_78 : decode method_3_code 78 = .ok (.ireturn, 1) := by decide +kernel
theorem d2_64 : decode method_3_code 64 = .ok (.bipush 6, 2) := by decide +kernel
theorem d2_66 : decode method_3_code 66 = .ok (.ireturn, 1) := by decide +kernel
theorem d2_53 : decode method_3_code 53 = .ok (.iconst 5, 1) := by decide +kernel
theorem d2_54 : decode method_3_code 54 = .ok (.ireturn, 1) := by decide +kernel
theorem d2_42 : decode method_3_code 42 = .ok (.iconst 4, 1) := by decide +kernel
theorem d2_43 : decode method_3_code 43 = .ok (.ireturn, 1) := by decide +kernel
theorem d2_31 : decode method_3_code 31 = .ok (.iconst 3, 1) := by decide +kernel
theorem d2_32 : decode method_3_code 32 = .ok (.ireturn, 1) := by decide +kernel
theorem d2_20 : decode method_3_code 20 = .ok (.iconst 2, 1) := by decide +kernel
theorem d2_21 : decode method_3_code 21 = .ok (.ireturn, 1) := by decide +kernel
theorem d2_9 : decode method_3_code 9 = .ok (.iconst 1, 1) := by decide +kernel
theorem d2_10 : decode method_3_code 10 = .ok (.ireturn, 1) := by decide +kernel
theorem ef1 (m : MethodId) (x0 : Addr) (x1 : Int32) (x2 : Int64) : entryFrame m #[(.ref x0), (.int x1), (.long x2)] 7 = mkF m 0 #[.val (.ref x0), .val (.int x1), .val (.long x2), .second, .unset, .unset, .unset] [] := by first | (simp [entryFrame, mkF, argsToLocals, Value.category]; done) | rfl
theorem pn1 : plainFor (⟨"com/example/dewk/dewk/index/IndexFormat", "putVarint", "([BIJ)I"⟩ : MethodName) = true := plainFor_of_name (by first | (simp [plainName, overriddenIn]; done) | decide +kernel)
theorem d1_6 : decode prog_80_method_5_code 6 = .ok (.lload 5, 2) := by decide +kernel
theorem d1_8 : decode prog_80_method_5_code 8 = .ok (.ldc2_w 32, 3) := by decide +kernel
theorem d1_11 : decode prog_80_method_5_code 11 = .ok (.land, 1) := by decide +kernel
theorem d1_12 : decode prog_80_method_5_code 12 = .ok (.lconst 0, 1) := by decide +kernel
theorem d1_13 : decode prog_80_method_5_code 13 = .ok (.lcmp, 1) := by decide +kernel
theorem d1_14 : decode prog_80_method_5_code 14 = .ok (.ifCond .eq 32, 3) := by decide +kernel
theorem d1_46 : decode prog_80_method_5_code 46 = .ok (.aload_n 0, 1) := by decide +kernel
theorem d1_47 : decode prog_80_method_5_code 47 = .ok (.iload 4, 2) := by decide +kernel
theorem d1_49 : decode prog_80_method_5_code 49 = .ok (.iinc 4 1, 3) := by decide +kernel
theorem d1_52 : decode prog_80_method_5_code 52 = .ok (.lload 5, 2) := by decide +kernel
theorem d1_54 : decode prog_80_method_5_code 54 = .ok (.l2i, 1) := by decide +kernel
theorem d1_55 : decode prog_80_method_5_code 55 = .ok (.i2b, 1) := by decide +kernel
theorem d1_56 : decode prog_80_method_5_code 56 = .ok (.bastore, 1) := by decide +kernel
theorem d1_57 : decode prog_80_method_5_code 57 = .ok (.iload 4, 2) := by decide +kernel
theorem d1_59 : decode prog_80_method_5_code 59 = .ok (.ireturn, 1) := by decide +kernel
theorem d1_17 : decode prog_80_method_5_code 17 = .ok (.aload_n 0, 1) := by decide +kernel
theorem d1_18 : decode prog_80_method_5_code 18 = .ok (.iload 4, 2) := by decide +kernel
theorem d1_20 : decode prog_80_method_5_code 20 = .ok (.iinc 4 1, 3) := by decide +kernel
theorem d1_23 : decode prog_80_method_5_code 23 = .ok (.lload 5, 2) := by decide +kernel
theorem d1_25 : decode prog_80_method_5_code 25 = .ok (.ldc2_w 34, 3) := by decide +kernel
theorem d1_28 : decode prog_80_method_5_code 28 = .ok (.land, 1) := by decide +kernel
theorem d1_29 : decode prog_80_method_5_code 29 = .ok (.ldc2_w 30, 3) := by decide +kernel
theorem d1_32 : decode prog_80_method_5_code 32 = .ok (.lor, 1) := by decide +kernel
theorem d1_33 : decode prog_80_method_5_code 33 = .ok (.l2i, 1) := by decide +kernel
theorem d1_34 : decode prog_80_method_5_code 34 = .ok (.i2b, 1) := by decide +kernel
theorem d1_35 : decode prog_80_method_5_code 35 = .ok (.bastore, 1) := by decide +kernel
theorem d1_36 : decode prog_80_method_5_code 36 = .ok (.lload 5, 2) := by decide +kernel
theorem d1_38 : decode prog_80_method_5_code 38 = .ok (.bipush 7, 2) := by decide +kernel
theorem d1_40 : decode prog_80_method_5_code 40 = .ok (.lushr, 1) := by decide +kernel
theorem d1_41 : decode prog_80_method_5_code 41 = .ok (.lstore 5, 2) := by decide +kernel
theorem d1_43 : decode prog_80_method_5_code 43 = .ok (.goto (-37), 3) := by decide +kernel
theorem d1_0 : decode prog_80_method_5_code 0 = .ok (.iload_n 1, 1) := by decide +kernel
theorem d1_1 : decode prog_80_method_5_code 1 = .ok (.istore 4, 2) := by decide +kernel
theorem d1_3 : decode prog_80_method_5_code 3 = .ok (.lload_n 2, 1) := by decide +kernel
theorem d1_4 : decode prog_80_method_5_code 4 = .ok (.lstore 5, 2) := by decide +kernel
theorem ef3 (m : MethodId) (x0 : Addr) (x1 : Int32) (x2 : Int32) (x3 : Int32) (x4 : Int64) (x5 : Int32) : entryFrame m #[(.ref x0), (.int x1), (.int x2), (.int x3), (.long x4), (.int x5)] 10 = mkF m 0 #[.val (.ref x0), .val (.int x1), .val (.int x2), .val (.int x3), .val (.long x4), .second, .val (.int x5), .unset, .unset, .unset] [] := by first | (simp [entryFrame, mkF, argsToLocals, Value.category]; done) | rfl
theorem pn3 : plainFor (⟨"com/example/dewk/dewk/index/IndexFormatPutVarintPinLaw", "ok", "([BIIIJB)Z"⟩ : MethodName) = true := plainFor_of_name (by first | (simp [plainName, overriddenIn]; done) | decide +kernel)
theorem d3_0 : decode method_4_code 0 = .ok (.iload_n 1, 1) := by decide +kernel
theorem d3_1 : decode method_4_code 1 = .ok (.iload_n 2, 1) := by decide +kernel
theorem d3_2 : decode method_4_code 2 = .ok (.isub, 1) := by decide +kernel
theorem d3_3 : decode method_4_code 3 = .ok (.istore 7, 2) := by decide +kernel
theorem d3_5 : decode method_4_code 5 = .ok (.iload 7, 2) := by decide +kernel
theorem d3_7 : decode method_4_code 7 = .ok (.ifCond .lt 9, 3) := by decide +kernel
theorem d3_16 : decode method_4_code 16 = .ok (.aload_n 0, 1) := by decide +kernel
theorem d3_17 : decode method_4_code 17 = .ok (.iload_n 1, 1) := by decide +kernel
theorem d3_18 : decode method_4_code 18 = .ok (.baload, 1) := by decide +kernel
theorem d3_19 : decode method_4_code 19 = .ok (.iload 6, 2) := by decide +kernel
theorem d3_21 : decode method_4_code 21 = .ok (.if_icmp .ne 7, 3) := by decide +kernel
theorem d3_28 : decode method_4_code 28 = .ok (.iconst 0, 1) := by decide +kernel
theorem d3_29 : decode method_4_code 29 = .ok (.ireturn, 1) := by decide +kernel
theorem d3_24 : decode method_4_code 24 = .ok (.iconst 1, 1) := by decide +kernel
theorem d3_25 : decode method_4_code 25 = .ok (.goto 4, 3) := by decide +kernel
theorem d3_10 : decode method_4_code 10 = .ok (.iload 7, 2) := by decide +kernel
theorem d3_12 : decode method_4_code 12 = .ok (.iload_n 3, 1) := by decide +kernel
theorem d3_13 : decode method_4_code 13 = .ok (.if_icmp .lt 17, 3) := by decide +kernel
theorem d3_30 : decode method_4_code 30 = .ok (.lload 4, 2) := by decide +kernel
theorem d3_32 : decode method_4_code 32 = .ok (.bipush 7, 2) := by decide +kernel
theorem d3_34 : decode method_4_code 34 = .ok (.iload 7, 2) := by decide +kernel
theorem d3_36 : decode method_4_code 36 = .ok (.imul, 1) := by decide +kernel
theorem d3_37 : decode method_4_code 37 = .ok (.lushr, 1) := by decide +kernel
theorem d3_38 : decode method_4_code 38 = .ok (.ldc2_w 23, 3) := by decide +kernel
theorem d3_41 : decode method_4_code 41 = .ok (.land, 1) := by decide +kernel
theorem d3_42 : decode method_4_code 42 = .ok (.l2i, 1) := by decide +kernel
theorem d3_43 : decode method_4_code 43 = .ok (.istore 8, 2) := by decide +kernel
theorem d3_45 : decode method_4_code 45 = .ok (.iload 7, 2) := by decide +kernel
theorem d3_47 : decode method_4_code 47 = .ok (.iload_n 3, 1) := by decide +kernel
theorem d3_48 : decode method_4_code 48 = .ok (.iconst 1, 1) := by decide +kernel
theorem d3_49 : decode method_4_code 49 = .ok (.isub, 1) := by decide +kernel
theorem d3_50 : decode method_4_code 50 = .ok (.if_icmp .ge 12, 3) := by decide +kernel
theorem d3_62 : decode method_4_code 62 = .ok (.iload 8, 2) := by decide +kernel
theorem d3_64 : decode method_4_code 64 = .ok (.istore 9, 2) := by decide +kernel
theorem d3_66 : decode method_4_code 66 = .ok (.aload_n 0, 1) := by decide +kernel
theorem d3_67 : decode method_4_code 67 = .ok (.iload_n 1, 1) := by decide +kernel
theorem d3_68 : decode method_4_code 68 = .ok (.baload, 1) := by decide +kernel
theorem d3_69 : decode method_4_code 69 = .ok (.iload 9, 2) := by decide +kernel
theorem d3_71 : decode method_4_code 71 = .ok (.i2b, 1) := by decide +kernel
theorem d3_72 : decode method_4_code 72 = .ok (.if_icmp .ne 7, 3) := by decide +kernel
theorem d3_79 : decode method_4_code 79 = .ok (.iconst 0, 1) := by decide +kernel
theorem d3_80 : decode method_4_code 80 = .ok (.ireturn, 1) := by decide +kernel
theorem d3_75 : decode method_4_code 75 = .ok (.iconst 1, 1) := by decide +kernel
theorem d3_76 : decode method_4_code 76 = .ok (.goto 4, 3) := by decide +kernel
theorem d3_53 : decode method_4_code 53 = .ok (.iload 8, 2) := by decide +kernel
theorem d3_55 : decode method_4_code 55 = .ok (.sipush 128, 3) := by decide +kernel
theorem d3_58 : decode method_4_code 58 = .ok (.ior, 1) := by decide +kernel
theorem d3_59 : decode method_4_code 59 = .ok (.goto 5, 3) := by decide +kernel
theorem ef0 (m : MethodId) (x0 : Int64) (x1 : Int32) (x2 : Int32) : entryFrame m #[(.long x0), (.int x1), (.int x2)] maxLocals = mkF m 0 #[.val (.long x0), .second, .val (.int x1), .val (.int x2), .unset, .unset, .unset, .unset, .unset] [] := by first | (simp [entryFrame, mkF, argsToLocals, Value.category, maxLocals]; done) | rfl
theorem pn0 : plainFor (⟨"com/example/dewk/dewk/index/IndexFormatPutVarintPinLaw", "law", "(JII)Z"⟩ : MethodName) = true := plainFor_of_name (by first | (simp [plainName, overriddenIn]; done) | decide +kernel)
theorem pd2 : parseMethodDescriptor "([BIJ)I" = some ⟨[(.array .byte), .int, .long], some .int⟩ := by decide +kernel
theorem pd0 : parseMethodDescriptor "(J)I" = some ⟨[.long], some .int⟩ := by decide +kernel
theorem pd1 : parseMethodDescriptor "([BIIIJB)Z" = some ⟨[(.array .byte), .int, .int, .int, .long, .byte], some .boolean⟩ := by decide +kernel

def own_U (w : Int64) : Nat := (w.toInt % 18446744073709551616).toNat
theorem own_Ui (w : Int64) : (own_U w : Int) = w.toInt % 18446744073709551616 := by
  unfold own_U; omega
theorem own_Un (w : Int64) : own_U w = w.toBitVec.toNat := by
  have e : w.toInt % 18446744073709551616 = (w.toBitVec.toNat : Int) := by
    show w.toBitVec.toInt % 18446744073709551616 = _
    rw [BitVec.toInt_eq_toNat_bmod]
    have q := Int.bmod_emod (x := (w.toBitVec.toNat : Int)) (m := 2 ^ 64)
    have h := w.toBitVec.isLt
    rw [show ((2 ^ 64 : Nat) : Int) = 18446744073709551616 from by decide] at q
    rw [q]
    omega
  unfold own_U; rw [e]; simp
theorem own_lt (w : Int64) : own_U w < 18446744073709551616 := by unfold own_U; omega
theorem own_small (w : Int64) (h : own_U w < 128) : w.toInt = own_U w := by
  have q := own_Ui w
  have r := rng64 w
  omega
theorem own_cont (w : Int64) : (w &&& (-128)) = 0 ↔ own_U w < 128 := by
  constructor
  · intro h
    rw [own_Un, show (128 : Nat) = 2 ^ 7 from rfl]
    refine Nat.lt_pow_two_of_testBit _ fun i hi => ?_
    by_cases h64 : i < 64
    · have q := congrArg (fun x : Int64 => x.toBitVec.getLsbD i) h
      simp only [Int64.toBitVec_and, BitVec.getLsbD_and] at q
      have k : (-128 : Int64).toBitVec.getLsbD i = true := (by decide : ∀ j : Fin 64, 7 ≤ j.val → (-128 : Int64).toBitVec.getLsbD j.val = true) ⟨i, h64⟩ hi
      have k0 : (0 : Int64).toBitVec.getLsbD i = false := (by decide : ∀ j : Fin 64, (0 : Int64).toBitVec.getLsbD j.val = false) ⟨i, h64⟩
      rw [k, k0, Bool.and_true] at q
      exact q
    · exact Nat.testBit_lt_two_pow (Nat.lt_of_lt_of_le w.toBitVec.isLt (Nat.pow_le_pow_right (by decide) (by omega)))
  · intro h
    have e := own_small w h
    have q : ∀ n : Fin 128, (Int64.ofInt (n.val : Int) &&& (-128)) = 0 := by decide +kernel
    have e2 : w = Int64.ofInt ((own_U w : Nat) : Int) := by rw [← e, Int64.ofInt_toInt]
    rw [e2]; exact q ⟨own_U w, h⟩
theorem own_shift (w : Int64) : own_U (w.toUInt64 >>> ((7 : Int32) &&& 0x3f).toInt64.toUInt64).toInt64 = own_U w / 128 := by
  have q := c_lushr w 7 7 (by decide) (by decide)
  have u := own_Ui w
  have u2 := own_Ui (w.toUInt64 >>> ((7 : Int32) &&& 0x3f).toInt64.toUInt64).toInt64
  have h := own_lt w
  rw [q] at u2
  omega
theorem own_k127 : (127 : Int64).toInt = 127 := by decide
theorem own_k128 : (128 : Int64).toInt = 128 := by decide
theorem own_or (w : Int64) : ((w &&& 127) ||| 128).toInt = w.toInt % 128 + 128 := by
  have m := c_maskL w 127 7 (by decide) (by decide)
  have o := c_orL' (w &&& 127) 128 7 (by decide) 128 (by decide) (by rw [own_k128]; decide) (by rw [m]; omega) (by rw [m]; omega)
  have r := rng64 ((w &&& 127) ||| 128)
  rw [own_k128] at o
  omega
theorem own_byte (w : Int64) : ((w &&& 127) ||| 128).toInt32.toInt8.toInt32.toInt8.toInt32 = Int32.ofInt (((own_U w % 128 : Nat) : Int) - 128) := by
  rw [← Int32.toInt_inj]
  have a := own_or w
  have b := c_l2i ((w &&& 127) ||| 128)
  have c := c_i2b ((w &&& 127) ||| 128).toInt32
  have d := c_i2b ((w &&& 127) ||| 128).toInt32.toInt8.toInt32
  have u := own_Ui w
  rw [Int32.toInt_ofInt]
  have e : ((((own_U w % 128 : Nat) : Int) - 128).bmod (2 ^ 32)) = ((own_U w % 128 : Nat) : Int) - 128 := Int.bmod_eq_of_le (by omega) (by omega)
  have e' : ((((own_U w % 128 : Nat) : Int) - 128).bmod (Int32.size)) = ((own_U w % 128 : Nat) : Int) - 128 := e
  first | rw [e] | rw [e']
  omega
theorem own_last (w : Int64) (h : own_U w < 128) : w.toInt32.toInt8.toInt32.toInt8.toInt32 = Int32.ofInt ((own_U w : Nat) : Int) := by
  rw [← Int32.toInt_inj]
  have a := own_small w h
  have b := c_l2i w
  have c := c_i2b w.toInt32
  have d := c_i2b w.toInt32.toInt8.toInt32
  rw [Int32.toInt_ofInt]
  have e : (((own_U w : Nat) : Int).bmod (2 ^ 32)) = ((own_U w : Nat) : Int) := Int.bmod_eq_of_le (by omega) (by omega)
  have e' : (((own_U w : Nat) : Int).bmod (Int32.size)) = ((own_U w : Nat) : Int) := e
  first | rw [e] | rw [e']
  omega
def own_c (U i : Nat) : Int32 := Int32.ofInt (((U / 128 ^ i % 128 : Nat) : Int) - 128)
def own_P (o U : Nat) (s : Int32) (i j : Nat) : Int32 := if o ≤ j ∧ j < o + i then own_c U (j - o) else s
def own_W (o U : Nat) (s : Int32) (i j : Nat) : Int32 := if j = o + i then Int32.ofInt ((U / 128 ^ i : Nat) : Int) else own_P o U s i j
theorem own_step {o U i : Nat} {s x : Int32} {us : List Value} (hl : us.length = 14) (ho : o + i < 14) (h : ∀ j, j < 14 → us[j]? = some (.int (own_P o U s i j))) (hx : x = own_c U i) : ∀ j, j < 14 → (us.set (o + i) (.int x))[j]? = some (.int (own_P o U s (i + 1) j)) := by
  intro j hj
  rw [List.getElem?_set]
  by_cases q : o + i = j
  · subst q
    rw [if_pos rfl, if_pos (by omega), hx]
    unfold own_P
    rw [if_pos (by omega), Nat.add_sub_cancel_left]
  · rw [if_neg q, h j hj]
    unfold own_P
    by_cases r : o ≤ j ∧ j < o + i
    · rw [if_pos r, if_pos (by omega)]
    · rw [if_neg r, if_neg (by omega)]
theorem own_fin {o U i : Nat} {s x : Int32} {us : List Value} (hl : us.length = 14) (ho : o + i < 14) (h : ∀ j, j < 14 → us[j]? = some (.int (own_P o U s i j))) (hx : x = Int32.ofInt ((U / 128 ^ i : Nat) : Int)) : ∀ j, j < 14 → (us.set (o + i) (.int x))[j]? = some (.int (own_W o U s i j)) := by
  intro j hj
  rw [List.getElem?_set]
  unfold own_W
  by_cases q : o + i = j
  · subst q
    rw [if_pos rfl, if_pos (by omega), if_pos rfl, hx]
  · rw [if_neg q, h j hj, if_neg (fun z => q z.symm)]
def own_size (u : Nat) : Nat := if u < 128 then 1 else if u < 16384 then 2 else if u < 2097152 then 3 else if u < 268435456 then 4 else if u < 34359738368 then 5 else if u < 4398046511104 then 6 else if u < 562949953421312 then 7 else if u < 72057594037927936 then 8 else if u < 9223372036854775808 then 9 else 10
theorem own_inc {x : Int32} (h0 : 0 ≤ x.toInt) (h1 : x.toInt ≤ 20) : (x + 1).toInt = x.toInt + 1 := by
  have q := c_iadd x 1
  have r := rng32 (x + 1)
  have k : (1 : Int32).toInt = 1 := by decide
  rw [k] at q; omega
theorem own_sz0 (u : Nat) (h1 : 0 ≤ u) (h2 : u < 128) : own_size u = 1 := by
  unfold own_size
  (repeat' split) <;> omega
theorem own_sz1 (u : Nat) (h1 : 128 ≤ u) (h2 : u < 16384) : own_size u = 2 := by
  unfold own_size
  (repeat' split) <;> omega
theorem own_sz2 (u : Nat) (h1 : 16384 ≤ u) (h2 : u < 2097152) : own_size u = 3 := by
  unfold own_size
  (repeat' split) <;> omega
theorem own_sz3 (u : Nat) (h1 : 2097152 ≤ u) (h2 : u < 268435456) : own_size u = 4 := by
  unfold own_size
  (repeat' split) <;> omega
theorem own_sz4 (u : Nat) (h1 : 268435456 ≤ u) (h2 : u < 34359738368) : own_size u = 5 := by
  unfold own_size
  (repeat' split) <;> omega
theorem own_sz5 (u : Nat) (h1 : 34359738368 ≤ u) (h2 : u < 4398046511104) : own_size u = 6 := by
  unfold own_size
  (repeat' split) <;> omega
theorem own_sz6 (u : Nat) (h1 : 4398046511104 ≤ u) (h2 : u < 562949953421312) : own_size u = 7 := by
  unfold own_size
  (repeat' split) <;> omega
theorem own_sz7 (u : Nat) (h1 : 562949953421312 ≤ u) (h2 : u < 72057594037927936) : own_size u = 8 := by
  unfold own_size
  (repeat' split) <;> omega
theorem own_sz8 (u : Nat) (h1 : 72057594037927936 ≤ u) (h2 : u < 9223372036854775808) : own_size u = 9 := by
  unfold own_size
  (repeat' split) <;> omega
theorem own_sz9 (u : Nat) (h1 : 9223372036854775808 ≤ u) (h2 : u < 18446744073709551616) : own_size u = 10 := by
  unfold own_size
  (repeat' split) <;> omega

def f_es  (x1 : Int64) : Int32 := if (x1.toUInt64 >>> ((7 : Int32) &&& 0x3f).toInt64.toUInt64).toInt64 = (0 : Int64) then (1 : Int32) else (if (x1.toUInt64 >>> ((14 : Int32) &&& 0x3f).toInt64.toUInt64).toInt64 = (0 : Int64) then (2 : Int32) else (if (x1.toUInt64 >>> ((21 : Int32) &&& 0x3f).toInt64.toUInt64).toInt64 = (0 : Int64) then (3 : Int32) else (if (x1.toUInt64 >>> ((28 : Int32) &&& 0x3f).toInt64.toUInt64).toInt64 = (0 : Int64) then (4 : Int32) else (if (x1.toUInt64 >>> ((35 : Int32) &&& 0x3f).toInt64.toUInt64).toInt64 = (0 : Int64) then (5 : Int32) else (if (x1.toUInt64 >>> ((42 : Int32) &&& 0x3f).toInt64.toUInt64).toInt64 = (0 : Int64) then (6 : Int32) else (if (x1.toUInt64 >>> ((49 : Int32) &&& 0x3f).toInt64.toUInt64).toInt64 = (0 : Int64) then (7 : Int32) else (if (x1.toUInt64 >>> ((56 : Int32) &&& 0x3f).toInt64.toUInt64).toInt64 = (0 : Int64) then (8 : Int32) else (if (x1.toUInt64 >>> ((63 : Int32) &&& 0x3f).toInt64.toUInt64).toInt64 = (0 : Int64) then (9 : Int32) else (10 : Int32)))))))))
set_option maxRecDepth 65536 in
set_option maxHeartbeats 40000000 in
theorem c_es (l : Launch) (Z : State) (a0 : Array Value) (hw : Hw a0 Z)  (x1 : Int64) (h0 : Heap) (n0 : Nat) (Z0 : n0 ≤ h0.size)  :
    Met l Z (⟨"com/example/dewk/dewk/index/IndexFormatPutVarintPinLaw", "expectedSize", "(J)I"⟩ : MethodName) method_3_code 2 (some .int) [] ({ frames := 0, cells := 0, slots := 0, locals := 0 } : Room) #[(.long x1)] h0 n0 (RetI (fun z h => z = f_es  x1 ∧ h0 = h)) := by
  refine Met.intro pn2 (own := "com/example/dewk/dewk/index/IndexFormatPutVarintPinLaw") rfl (nm := "expectedSize") rfl (fun m => ef2 m x1) ?_
  intro p e s m below meth c C
  refine s_lloadN C d2_0 (pc' := 1) rfl rfl ?_
  refine s_bipush C d2_1 (pc' := 3) rfl (7 : Int32) rfl ?_
  refine s_lushr C d2_3 (pc' := 4) rfl ?_
  refine s_lconst C d2_4 (pc' := 5) rfl (0 : Int64) rfl ?_
  refine s_lc_ne C d2_5 (pc1 := 6) rfl d2_6 (pc' := 9) rfl (pcY := 11) rfl (fun c1 => ?_) (fun c1 => ?_)
  · skip
    refine s_lloadN C d2_11 (pc' := 12) rfl rfl ?_
    refine s_bipush C d2_12 (pc' := 14) rfl (14 : Int32) rfl ?_
    refine s_lushr C d2_14 (pc' := 15) rfl ?_
    refine s_lconst C d2_15 (pc' := 16) rfl (0 : Int64) rfl ?_
    refine s_lc_ne C d2_16 (pc1 := 17) rfl d2_17 (pc' := 20) rfl (pcY := 22) rfl (fun c2 => ?_) (fun c2 => ?_)
    · skip
      refine s_lloadN C d2_22 (pc' := 23) rfl rfl ?_
      refine s_bipush C d2_23 (pc' := 25) rfl (21 : Int32) rfl ?_
      refine s_lushr C d2_25 (pc' := 26) rfl ?_
      refine s_lconst C d2_26 (pc' := 27) rfl (0 : Int64) rfl ?_
      refine s_lc_ne C d2_27 (pc1 := 28) rfl d2_28 (pc' := 31) rfl (pcY := 33) rfl (fun c3 => ?_) (fun c3 => ?_)
      · skip
        refine s_lloadN C d2_33 (pc' := 34) rfl rfl ?_
        refine s_bipush C d2_34 (pc' := 36) rfl (28 : Int32) rfl ?_
        refine s_lushr C d2_36 (pc' := 37) rfl ?_
        refine s_lconst C d2_37 (pc' := 38) rfl (0 : Int64) rfl ?_
        refine s_lc_ne C d2_38 (pc1 := 39) rfl d2_39 (pc' := 42) rfl (pcY := 44) rfl (fun c4 => ?_) (fun c4 => ?_)
        · skip
          refine s_lloadN C d2_44 (pc' := 45) rfl rfl ?_
          refine s_bipush C d2_45 (pc' := 47) rfl (35 : Int32) rfl ?_
          refine s_lushr C d2_47 (pc' := 48) rfl ?_
          refine s_lconst C d2_48 (pc' := 49) rfl (0 : Int64) rfl ?_
          refine s_lc_ne C d2_49 (pc1 := 50) rfl d2_50 (pc' := 53) rfl (pcY := 55) rfl (fun c5 => ?_) (fun c5 => ?_)
          · skip
            refine s_lloadN C d2_55 (pc' := 56) rfl rfl ?_
            refine s_bipush C d2_56 (pc' := 58) rfl (42 : Int32) rfl ?_
            refine s_lushr C d2_58 (pc' := 59) rfl ?_
            refine s_lconst C d2_59 (pc' := 60) rfl (0 : Int64) rfl ?_
            refine s_lc_ne C d2_60 (pc1 := 61) rfl d2_61 (pc' := 64) rfl (pcY := 67) rfl (fun c6 => ?_) (fun c6 => ?_)
            · skip
              refine s_lloadN C d2_67 (pc' := 68) rfl rfl ?_
              refine s_bipush C d2_68 (pc' := 70) rfl (49 : Int32) rfl ?_
              refine s_lushr C d2_70 (pc' := 71) rfl ?_
              refine s_lconst C d2_71 (pc' := 72) rfl (0 : Int64) rfl ?_
              refine s_lc_ne C d2_72 (pc1 := 73) rfl d2_73 (pc' := 76) rfl (pcY := 79) rfl (fun c7 => ?_) (fun c7 => ?_)
              · skip
                refine s_lloadN C d2_79 (pc' := 80) rfl rfl ?_
                refine s_bipush C d2_80 (pc' := 82) rfl (56 : Int32) rfl ?_
                refine s_lushr C d2_82 (pc' := 83) rfl ?_
                refine s_lconst C d2_83 (pc' := 84) rfl (0 : Int64) rfl ?_
                refine s_lc_ne C d2_84 (pc1 := 85) rfl d2_85 (pc' := 88) rfl (pcY := 91) rfl (fun c8 => ?_) (fun c8 => ?_)
                · skip
                  refine s_lloadN C d2_91 (pc' := 92) rfl rfl ?_
                  refine s_bipush C d2_92 (pc' := 94) rfl (63 : Int32) rfl ?_
                  refine s_lushr C d2_94 (pc' := 95) rfl ?_
                  refine s_lconst C d2_95 (pc' := 96) rfl (0 : Int64) rfl ?_
                  refine s_lc_ne C d2_96 (pc1 := 97) rfl d2_97 (pc' := 100) rfl (pcY := 103) rfl (fun c9 => ?_) (fun c9 => ?_)
                  · skip
                    refine s_bipush C d2_103 (pc' := 105) rfl (10 : Int32) rfl ?_
                    exact s_retI C d2_105 (by decide) (by decide) (by have e : f_es  x1 = (10 : Int32) := (by unfold f_es; rw [if_neg c1, if_neg c2, if_neg c3, if_neg c4, if_neg c5, if_neg c6, if_neg c7, if_neg c8, if_neg c9]); exact ⟨e.symm, rfl⟩)
                  · skip
                    refine s_bipush C d2_100 (pc' := 102) rfl (9 : Int32) rfl ?_
                    exact s_retI C d2_102 (by decide) (by decide) (by have e : f_es  x1 = (9 : Int32) := (by unfold f_es; rw [if_neg c1, if_neg c2, if_neg c3, if_neg c4, if_neg c5, if_neg c6, if_neg c7, if_neg c8, if_pos c9]); exact ⟨e.symm, rfl⟩)
                · skip
                  refine s_bipush C d2_88 (pc' := 90) rfl (8 : Int32) rfl ?_
                  exact s_retI C d2_90 (by decide) (by decide) (by have e : f_es  x1 = (8 : Int32) := (by unfold f_es; rw [if_neg c1, if_neg c2, if_neg c3, if_neg c4, if_neg c5, if_neg c6, if_neg c7, if_pos c8]); exact ⟨e.symm, rfl⟩)
              · skip
                refine s_bipush C d2_76 (pc' := 78) rfl (7 : Int32) rfl ?_
                exact s_retI C d2_78 (by decide) (by decide) (by have e : f_es  x1 = (7 : Int32) := (by unfold f_es; rw [if_neg c1, if_neg c2, if_neg c3, if_neg c4, if_neg c5, if_neg c6, if_pos c7]); exact ⟨e.symm, rfl⟩)
            · skip
              refine s_bipush C d2_64 (pc' := 66) rfl (6 : Int32) rfl ?_
              exact s_retI C d2_66 (by decide) (by decide) (by have e : f_es  x1 = (6 : Int32) := (by unfold f_es; rw [if_neg c1, if_neg c2, if_neg c3, if_neg c4, if_neg c5, if_pos c6]); exact ⟨e.symm, rfl⟩)
          · skip
            refine s_iconst C d2_53 (pc' := 54) rfl (5 : Int32) rfl ?_
            exact s_retI C d2_54 (by decide) (by decide) (by have e : f_es  x1 = (5 : Int32) := (by unfold f_es; rw [if_neg c1, if_neg c2, if_neg c3, if_neg c4, if_pos c5]); exact ⟨e.symm, rfl⟩)
        · skip
          refine s_iconst C d2_42 (pc' := 43) rfl (4 : Int32) rfl ?_
          exact s_retI C d2_43 (by decide) (by decide) (by have e : f_es  x1 = (4 : Int32) := (by unfold f_es; rw [if_neg c1, if_neg c2, if_neg c3, if_pos c4]); exact ⟨e.symm, rfl⟩)
      · skip
        refine s_iconst C d2_31 (pc' := 32) rfl (3 : Int32) rfl ?_
        exact s_retI C d2_32 (by decide) (by decide) (by have e : f_es  x1 = (3 : Int32) := (by unfold f_es; rw [if_neg c1, if_neg c2, if_pos c3]); exact ⟨e.symm, rfl⟩)
    · skip
      refine s_iconst C d2_20 (pc' := 21) rfl (2 : Int32) rfl ?_
      exact s_retI C d2_21 (by decide) (by decide) (by have e : f_es  x1 = (2 : Int32) := (by unfold f_es; rw [if_neg c1, if_pos c2]); exact ⟨e.symm, rfl⟩)
  · skip
    refine s_iconst C d2_9 (pc' := 10) rfl (1 : Int32) rfl ?_
    exact s_retI C d2_10 (by decide) (by decide) (by have e : f_es  x1 = (1 : Int32) := (by unfold f_es; rw [if_pos c1]); exact ⟨e.symm, rfl⟩)
set_option maxRecDepth 65536 in
set_option maxHeartbeats 40000000 in
theorem c_put (l : Launch) (Z : State) (a0 : Array Value) (hw : Hw a0 Z) (a : Addr) (x2 : Int32) (x3 : Int64) (sv : Int32) (vs : List Value) (h0 : Heap) (n0 : Nat) (Z0 : n0 ≤ h0.size) (g_a : n0 ≤ a) (V_a : Av Z h0 a .byte vs) (hl : vs.length = 14) (hv : ∀ j, j < 14 → vs[j]? = some (.int sv)) (r0 : 0 ≤ x2.toInt) (r3 : x2.toInt ≤ 3) :
    Met l Z (⟨"com/example/dewk/dewk/index/IndexFormat", "putVarint", "([BIJ)I"⟩ : MethodName) prog_80_method_5_code 7 (some .int) [] ({ frames := 0, cells := 0, slots := 0, locals := 0 } : Room) #[(.ref a), (.int x2), (.long x3)] h0 n0 (RetI (fun z h => Keep h0 h [a] ∧ z.toInt = x2.toInt + own_size (own_U x3) ∧ ∃ vs', Av Z h a .byte vs' ∧ vs'.length = 14 ∧ ∀ j, j < 14 → vs'[j]? = some (.int (own_W x2.toInt.toNat (own_U x3) sv (own_size (own_U x3) - 1) j)))) := by
  refine Met.intro pn1 (own := "com/example/dewk/dewk/index/IndexFormat") rfl (nm := "putVarint") rfl (fun m => ef1 m a x2 x3) ?_
  intro p e s m below meth c C
  have S9 : ∀ (hh : Heap) (ix : Int32) (u : Int64) (us : List Value), n0 ≤ hh.size → Keep h0 hh [a] → Av Z hh a .byte us → us.length = 14 → ix.toInt = x2.toInt + 9 → own_U u = own_U x3 / 9223372036854775808 → 9223372036854775808 ≤ own_U x3 → (∀ j, j < 14 → us[j]? = some (.int (own_P x2.toInt.toNat (own_U x3) sv 9 j))) → Run p l e ({ frames := 0, cells := 0, slots := 0, locals := 0 } : Room) s m #[(.ref a), (.int x2), (.long x3)] below meth c n0 (RetI (fun z h => Keep h0 h [a] ∧ z.toInt = x2.toInt + own_size (own_U x3) ∧ ∃ vs', Av Z h a .byte vs' ∧ vs'.length = 14 ∧ ∀ j, j < 14 → vs'[j]? = some (.int (own_W x2.toInt.toNat (own_U x3) sv (own_size (own_U x3) - 1) j)))) hh 0 0 6 #[.val (.ref a), .val (.int x2), .val (.long x3), .second, .val (.int ix), .val (.long u), .second] [] := by
    intro hh ix u us sz0 KK V_a hl hi hu hge hj
    have hlt := own_lt x3
    refine s_lload C d1_6 (pc' := 8) rfl rfl ?_
    refine s_ldc2 C d1_8 (pc' := 11) rfl (w5 hw) ?_
    refine s_land C d1_11 (pc' := 12) rfl ?_
    refine s_lconst C d1_12 (pc' := 13) rfl (0 : Int64) rfl ?_
    refine s_lc_eq C d1_13 (pc1 := 14) rfl d1_14 (pc' := 17) rfl (pcY := 46) rfl (fun c1 => ?_) (fun hc => by exfalso; exact hc ((own_cont _).mpr (by omega)))
    refine s_aloadN C d1_46 (pc' := 47) rfl rfl rfl ?_
    refine s_iload C d1_47 (pc' := 49) rfl rfl ?_
    refine s_iincP C d1_49 (pc' := 52) rfl rfl (ix + (1 : Int32)) rfl #[.val (.ref a), .val (.int x2), .val (.long x3), .second, .val (.int (ix + (1 : Int32))), .val (.long u), .second] rfl ?_
    refine s_lload C d1_52 (pc' := 54) rfl rfl ?_
    refine s_l2i C d1_54 (pc' := 55) rfl ?_
    refine s_i2b C d1_55 (pc' := 56) rfl ?_
    refine s_bastore C d1_56 (pc' := 57) rfl V_a (x2.toInt.toNat + 9) (by omega) (by rw [hl]; omega) g_a (us.set (x2.toInt.toNat + 9) (.int u.toInt32.toInt8.toInt32.toInt8.toInt32)) rfl (fun h3 W3 A3 => ?_)
    have sz4 : n0 ≤ h3.size := (Nat.le_trans sz0 (Nat.le_of_eq W3.size.symm))
    have Kp5 : Keep h0 h3 [a] := KK.wr W3 (Or.inl (List.mem_of_getElem? (i := 0) rfl))
    refine s_iload C d1_57 (pc' := 59) rfl rfl ?_
    exact s_retI C d1_59 (by decide) (by decide) (by have q := (own_cont u).mp c1; have sz : own_size (own_U x3) = 10 := (own_sz9 _ hge (by omega)); exact ⟨Kp5, by rw [own_inc (by omega) (by omega), sz]; omega, _, A3, by rw [List.length_set]; exact hl, by rw [sz]; exact own_fin hl (by omega) hj (by rw [own_last u q, hu])⟩)
  have S8 : ∀ (hh : Heap) (ix : Int32) (u : Int64) (us : List Value), n0 ≤ hh.size → Keep h0 hh [a] → Av Z hh a .byte us → us.length = 14 → ix.toInt = x2.toInt + 8 → own_U u = own_U x3 / 72057594037927936 → 72057594037927936 ≤ own_U x3 → (∀ j, j < 14 → us[j]? = some (.int (own_P x2.toInt.toNat (own_U x3) sv 8 j))) → Run p l e ({ frames := 0, cells := 0, slots := 0, locals := 0 } : Room) s m #[(.ref a), (.int x2), (.long x3)] below meth c n0 (RetI (fun z h => Keep h0 h [a] ∧ z.toInt = x2.toInt + own_size (own_U x3) ∧ ∃ vs', Av Z h a .byte vs' ∧ vs'.length = 14 ∧ ∀ j, j < 14 → vs'[j]? = some (.int (own_W x2.toInt.toNat (own_U x3) sv (own_size (own_U x3) - 1) j)))) hh 0 0 6 #[.val (.ref a), .val (.int x2), .val (.long x3), .second, .val (.int ix), .val (.long u), .second] [] := by
    intro hh ix u us sz0 KK V_a hl hi hu hge hj
    have hlt := own_lt x3
    refine s_lload C d1_6 (pc' := 8) rfl rfl ?_
    refine s_ldc2 C d1_8 (pc' := 11) rfl (w5 hw) ?_
    refine s_land C d1_11 (pc' := 12) rfl ?_
    refine s_lconst C d1_12 (pc' := 13) rfl (0 : Int64) rfl ?_
    refine s_lc_eq C d1_13 (pc1 := 14) rfl d1_14 (pc' := 17) rfl (pcY := 46) rfl (fun c6 => ?_) (fun c6 => ?_)
    · skip
      refine s_aloadN C d1_46 (pc' := 47) rfl rfl rfl ?_
      refine s_iload C d1_47 (pc' := 49) rfl rfl ?_
      refine s_iincP C d1_49 (pc' := 52) rfl rfl (ix + (1 : Int32)) rfl #[.val (.ref a), .val (.int x2), .val (.long x3), .second, .val (.int (ix + (1 : Int32))), .val (.long u), .second] rfl ?_
      refine s_lload C d1_52 (pc' := 54) rfl rfl ?_
      refine s_l2i C d1_54 (pc' := 55) rfl ?_
      refine s_i2b C d1_55 (pc' := 56) rfl ?_
      refine s_bastore C d1_56 (pc' := 57) rfl V_a (x2.toInt.toNat + 8) (by omega) (by rw [hl]; omega) g_a (us.set (x2.toInt.toNat + 8) (.int u.toInt32.toInt8.toInt32.toInt8.toInt32)) rfl (fun h8 W8 A8 => ?_)
      have sz9 : n0 ≤ h8.size := (Nat.le_trans sz0 (Nat.le_of_eq W8.size.symm))
      have Kp10 : Keep h0 h8 [a] := KK.wr W8 (Or.inl (List.mem_of_getElem? (i := 0) rfl))
      refine s_iload C d1_57 (pc' := 59) rfl rfl ?_
      exact s_retI C d1_59 (by decide) (by decide) (by have q := (own_cont u).mp c6; have sz : own_size (own_U x3) = 9 := (own_sz8 _ hge (by omega)); exact ⟨Kp10, by rw [own_inc (by omega) (by omega), sz]; omega, _, A8, by rw [List.length_set]; exact hl, by rw [sz]; exact own_fin hl (by omega) hj (by rw [own_last u q, hu])⟩)
    · skip
      refine s_aloadN C d1_17 (pc' := 18) rfl rfl rfl ?_
      refine s_iload C d1_18 (pc' := 20) rfl rfl ?_
      refine s_iincP C d1_20 (pc' := 23) rfl rfl (ix + (1 : Int32)) rfl #[.val (.ref a), .val (.int x2), .val (.long x3), .second, .val (.int (ix + (1 : Int32))), .val (.long u), .second] rfl ?_
      refine s_lload C d1_23 (pc' := 25) rfl rfl ?_
      refine s_ldc2 C d1_25 (pc' := 28) rfl (w14 hw) ?_
      refine s_land C d1_28 (pc' := 29) rfl ?_
      refine s_ldc2 C d1_29 (pc' := 32) rfl (w15 hw) ?_
      refine s_lor C d1_32 (pc' := 33) rfl ?_
      refine s_l2i C d1_33 (pc' := 34) rfl ?_
      refine s_i2b C d1_34 (pc' := 35) rfl ?_
      refine s_bastore C d1_35 (pc' := 36) rfl V_a (x2.toInt.toNat + 8) (by omega) (by rw [hl]; omega) g_a (us.set (x2.toInt.toNat + 8) (.int ((u &&& (127 : Int64)) ||| (128 : Int64)).toInt32.toInt8.toInt32.toInt8.toInt32)) rfl (fun h12 W12 A12 => ?_)
      have sz13 : n0 ≤ h12.size := (Nat.le_trans sz0 (Nat.le_of_eq W12.size.symm))
      have Kp14 : Keep h0 h12 [a] := KK.wr W12 (Or.inl (List.mem_of_getElem? (i := 0) rfl))
      refine s_lload C d1_36 (pc' := 38) rfl rfl ?_
      refine s_bipush C d1_38 (pc' := 40) rfl (7 : Int32) rfl ?_
      refine s_lushr C d1_40 (pc' := 41) rfl ?_
      refine s_lstoreP C d1_41 (pc' := 43) rfl #[.val (.ref a), .val (.int x2), .val (.long x3), .second, .val (.int (ix + (1 : Int32))), .val (.long (u.toUInt64 >>> ((7 : Int32) &&& 0x3f).toInt64.toUInt64).toInt64), .second] rfl ?_
      refine s_goto C d1_43 (pc' := 6) rfl ?_
      exact S9 _ _ _ _ sz13 Kp14 A12 (by rw [List.length_set]; exact hl) (by rw [own_inc (by omega) (by omega)]; omega) (by rw [own_shift, hu]; omega) (by have q : ¬ own_U u < 128 := fun z => c6 ((own_cont u).mpr z); omega) (own_step hl (by omega) hj (by rw [own_byte, hu]; rfl))
  have S7 : ∀ (hh : Heap) (ix : Int32) (u : Int64) (us : List Value), n0 ≤ hh.size → Keep h0 hh [a] → Av Z hh a .byte us → us.length = 14 → ix.toInt = x2.toInt + 7 → own_U u = own_U x3 / 562949953421312 → 562949953421312 ≤ own_U x3 → (∀ j, j < 14 → us[j]? = some (.int (own_P x2.toInt.toNat (own_U x3) sv 7 j))) → Run p l e ({ frames := 0, cells := 0, slots := 0, locals := 0 } : Room) s m #[(.ref a), (.int x2), (.long x3)] below meth c n0 (RetI (fun z h => Keep h0 h [a] ∧ z.toInt = x2.toInt + own_size (own_U x3) ∧ ∃ vs', Av Z h a .byte vs' ∧ vs'.length = 14 ∧ ∀ j, j < 14 → vs'[j]? = some (.int (own_W x2.toInt.toNat (own_U x3) sv (own_size (own_U x3) - 1) j)))) hh 0 0 6 #[.val (.ref a), .val (.int x2), .val (.long x3), .second, .val (.int ix), .val (.long u), .second] [] := by
    intro hh ix u us sz0 KK V_a hl hi hu hge hj
    have hlt := own_lt x3
    refine s_lload C d1_6 (pc' := 8) rfl rfl ?_
    refine s_ldc2 C d1_8 (pc' := 11) rfl (w5 hw) ?_
    refine s_land C d1_11 (pc' := 12) rfl ?_
    refine s_lconst C d1_12 (pc' := 13) rfl (0 : Int64) rfl ?_
    refine s_lc_eq C d1_13 (pc1 := 14) rfl d1_14 (pc' := 17) rfl (pcY := 46) rfl (fun c15 => ?_) (fun c15 => ?_)
    · skip
      refine s_aloadN C d1_46 (pc' := 47) rfl rfl rfl ?_
      refine s_iload C d1_47 (pc' := 49) rfl rfl ?_
      refine s_iincP C d1_49 (pc' := 52) rfl rfl (ix + (1 : Int32)) rfl #[.val (.ref a), .val (.int x2), .val (.long x3), .second, .val (.int (ix + (1 : Int32))), .val (.long u), .second] rfl ?_
      refine s_lload C d1_52 (pc' := 54) rfl rfl ?_
      refine s_l2i C d1_54 (pc' := 55) rfl ?_
      refine s_i2b C d1_55 (pc' := 56) rfl ?_
      refine s_bastore C d1_56 (pc' := 57) rfl V_a (x2.toInt.toNat + 7) (by omega) (by rw [hl]; omega) g_a (us.set (x2.toInt.toNat + 7) (.int u.toInt32.toInt8.toInt32.toInt8.toInt32)) rfl (fun h17 W17 A17 => ?_)
      have sz18 : n0 ≤ h17.size := (Nat.le_trans sz0 (Nat.le_of_eq W17.size.symm))
      have Kp19 : Keep h0 h17 [a] := KK.wr W17 (Or.inl (List.mem_of_getElem? (i := 0) rfl))
      refine s_iload C d1_57 (pc' := 59) rfl rfl ?_
      exact s_retI C d1_59 (by decide) (by decide) (by have q := (own_cont u).mp c15; have sz : own_size (own_U x3) = 8 := (own_sz7 _ hge (by omega)); exact ⟨Kp19, by rw [own_inc (by omega) (by omega), sz]; omega, _, A17, by rw [List.length_set]; exact hl, by rw [sz]; exact own_fin hl (by omega) hj (by rw [own_last u q, hu])⟩)
    · skip
      refine s_aloadN C d1_17 (pc' := 18) rfl rfl rfl ?_
      refine s_iload C d1_18 (pc' := 20) rfl rfl ?_
      refine s_iincP C d1_20 (pc' := 23) rfl rfl (ix + (1 : Int32)) rfl #[.val (.ref a), .val (.int x2), .val (.long x3), .second, .val (.int (ix + (1 : Int32))), .val (.long u), .second] rfl ?_
      refine s_lload C d1_23 (pc' := 25) rfl rfl ?_
      refine s_ldc2 C d1_25 (pc' := 28) rfl (w14 hw) ?_
      refine s_land C d1_28 (pc' := 29) rfl ?_
      refine s_ldc2 C d1_29 (pc' := 32) rfl (w15 hw) ?_
      refine s_lor C d1_32 (pc' := 33) rfl ?_
      refine s_l2i C d1_33 (pc' := 34) rfl ?_
      refine s_i2b C d1_34 (pc' := 35) rfl ?_
      refine s_bastore C d1_35 (pc' := 36) rfl V_a (x2.toInt.toNat + 7) (by omega) (by rw [hl]; omega) g_a (us.set (x2.toInt.toNat + 7) (.int ((u &&& (127 : Int64)) ||| (128 : Int64)).toInt32.toInt8.toInt32.toInt8.toInt32)) rfl (fun h21 W21 A21 => ?_)
      have sz22 : n0 ≤ h21.size := (Nat.le_trans sz0 (Nat.le_of_eq W21.size.symm))
      have Kp23 : Keep h0 h21 [a] := KK.wr W21 (Or.inl (List.mem_of_getElem? (i := 0) rfl))
      refine s_lload C d1_36 (pc' := 38) rfl rfl ?_
      refine s_bipush C d1_38 (pc' := 40) rfl (7 : Int32) rfl ?_
      refine s_lushr C d1_40 (pc' := 41) rfl ?_
      refine s_lstoreP C d1_41 (pc' := 43) rfl #[.val (.ref a), .val (.int x2), .val (.long x3), .second, .val (.int (ix + (1 : Int32))), .val (.long (u.toUInt64 >>> ((7 : Int32) &&& 0x3f).toInt64.toUInt64).toInt64), .second] rfl ?_
      refine s_goto C d1_43 (pc' := 6) rfl ?_
      exact S8 _ _ _ _ sz22 Kp23 A21 (by rw [List.length_set]; exact hl) (by rw [own_inc (by omega) (by omega)]; omega) (by rw [own_shift, hu]; omega) (by have q : ¬ own_U u < 128 := fun z => c15 ((own_cont u).mpr z); omega) (own_step hl (by omega) hj (by rw [own_byte, hu]; rfl))
  have S6 : ∀ (hh : Heap) (ix : Int32) (u : Int64) (us : List Value), n0 ≤ hh.size → Keep h0 hh [a] → Av Z hh a .byte us → us.length = 14 → ix.toInt = x2.toInt + 6 → own_U u = own_U x3 / 4398046511104 → 4398046511104 ≤ own_U x3 → (∀ j, j < 14 → us[j]? = some (.int (own_P x2.toInt.toNat (own_U x3) sv 6 j))) → Run p l e ({ frames := 0, cells := 0, slots := 0, locals := 0 } : Room) s m #[(.ref a), (.int x2), (.long x3)] below meth c n0 (RetI (fun z h => Keep h0 h [a] ∧ z.toInt = x2.toInt + own_size (own_U x3) ∧ ∃ vs', Av Z h a .byte vs' ∧ vs'.length = 14 ∧ ∀ j, j < 14 → vs'[j]? = some (.int (own_W x2.toInt.toNat (own_U x3) sv (own_size (own_U x3) - 1) j)))) hh 0 0 6 #[.val (.ref a), .val (.int x2), .val (.long x3), .second, .val (.int ix), .val (.long u), .second] [] := by
    intro hh ix u us sz0 KK V_a hl hi hu hge hj
    have hlt := own_lt x3
    refine s_lload C d1_6 (pc' := 8) rfl rfl ?_
    refine s_ldc2 C d1_8 (pc' := 11) rfl (w5 hw) ?_
    refine s_land C d1_11 (pc' := 12) rfl ?_
    refine s_lconst C d1_12 (pc' := 13) rfl (0 : Int64) rfl ?_
    refine s_lc_eq C d1_13 (pc1 := 14) rfl d1_14 (pc' := 17) rfl (pcY := 46) rfl (fun c24 => ?_) (fun c24 => ?_)
    · skip
      refine s_aloadN C d1_46 (pc' := 47) rfl rfl rfl ?_
      refine s_iload C d1_47 (pc' := 49) rfl rfl ?_
      refine s_iincP C d1_49 (pc' := 52) rfl rfl (ix + (1 : Int32)) rfl #[.val (.ref a), .val (.int x2), .val (.long x3), .second, .val (.int (ix + (1 : Int32))), .val (.long u), .second] rfl ?_
      refine s_lload C d1_52 (pc' := 54) rfl rfl ?_
      refine s_l2i C d1_54 (pc' := 55) rfl ?_
      refine s_i2b C d1_55 (pc' := 56) rfl ?_
      refine s_bastore C d1_56 (pc' := 57) rfl V_a (x2.toInt.toNat + 6) (by omega) (by rw [hl]; omega) g_a (us.set (x2.toInt.toNat + 6) (.int u.toInt32.toInt8.toInt32.toInt8.toInt32)) rfl (fun h26 W26 A26 => ?_)
      have sz27 : n0 ≤ h26.size := (Nat.le_trans sz0 (Nat.le_of_eq W26.size.symm))
      have Kp28 : Keep h0 h26 [a] := KK.wr W26 (Or.inl (List.mem_of_getElem? (i := 0) rfl))
      refine s_iload C d1_57 (pc' := 59) rfl rfl ?_
      exact s_retI C d1_59 (by decide) (by decide) (by have q := (own_cont u).mp c24; have sz : own_size (own_U x3) = 7 := (own_sz6 _ hge (by omega)); exact ⟨Kp28, by rw [own_inc (by omega) (by omega), sz]; omega, _, A26, by rw [List.length_set]; exact hl, by rw [sz]; exact own_fin hl (by omega) hj (by rw [own_last u q, hu])⟩)
    · skip
      refine s_aloadN C d1_17 (pc' := 18) rfl rfl rfl ?_
      refine s_iload C d1_18 (pc' := 20) rfl rfl ?_
      refine s_iincP C d1_20 (pc' := 23) rfl rfl (ix + (1 : Int32)) rfl #[.val (.ref a), .val (.int x2), .val (.long x3), .second, .val (.int (ix + (1 : Int32))), .val (.long u), .second] rfl ?_
      refine s_lload C d1_23 (pc' := 25) rfl rfl ?_
      refine s_ldc2 C d1_25 (pc' := 28) rfl (w14 hw) ?_
      refine s_land C d1_28 (pc' := 29) rfl ?_
      refine s_ldc2 C d1_29 (pc' := 32) rfl (w15 hw) ?_
      refine s_lor C d1_32 (pc' := 33) rfl ?_
      refine s_l2i C d1_33 (pc' := 34) rfl ?_
      refine s_i2b C d1_34 (pc' := 35) rfl ?_
      refine s_bastore C d1_35 (pc' := 36) rfl V_a (x2.toInt.toNat + 6) (by omega) (by rw [hl]; omega) g_a (us.set (x2.toInt.toNat + 6) (.int ((u &&& (127 : Int64)) ||| (128 : Int64)).toInt32.toInt8.toInt32.toInt8.toInt32)) rfl (fun h30 W30 A30 => ?_)
      have sz31 : n0 ≤ h30.size := (Nat.le_trans sz0 (Nat.le_of_eq W30.size.symm))
      have Kp32 : Keep h0 h30 [a] := KK.wr W30 (Or.inl (List.mem_of_getElem? (i := 0) rfl))
      refine s_lload C d1_36 (pc' := 38) rfl rfl ?_
      refine s_bipush C d1_38 (pc' := 40) rfl (7 : Int32) rfl ?_
      refine s_lushr C d1_40 (pc' := 41) rfl ?_
      refine s_lstoreP C d1_41 (pc' := 43) rfl #[.val (.ref a), .val (.int x2), .val (.long x3), .second, .val (.int (ix + (1 : Int32))), .val (.long (u.toUInt64 >>> ((7 : Int32) &&& 0x3f).toInt64.toUInt64).toInt64), .second] rfl ?_
      refine s_goto C d1_43 (pc' := 6) rfl ?_
      exact S7 _ _ _ _ sz31 Kp32 A30 (by rw [List.length_set]; exact hl) (by rw [own_inc (by omega) (by omega)]; omega) (by rw [own_shift, hu]; omega) (by have q : ¬ own_U u < 128 := fun z => c24 ((own_cont u).mpr z); omega) (own_step hl (by omega) hj (by rw [own_byte, hu]; rfl))
  have S5 : ∀ (hh : Heap) (ix : Int32) (u : Int64) (us : List Value), n0 ≤ hh.size → Keep h0 hh [a] → Av Z hh a .byte us → us.length = 14 → ix.toInt = x2.toInt + 5 → own_U u = own_U x3 / 34359738368 → 34359738368 ≤ own_U x3 → (∀ j, j < 14 → us[j]? = some (.int (own_P x2.toInt.toNat (own_U x3) sv 5 j))) → Run p l e ({ frames := 0, cells := 0, slots := 0, locals := 0 } : Room) s m #[(.ref a), (.int x2), (.long x3)] below meth c n0 (RetI (fun z h => Keep h0 h [a] ∧ z.toInt = x2.toInt + own_size (own_U x3) ∧ ∃ vs', Av Z h a .byte vs' ∧ vs'.length = 14 ∧ ∀ j, j < 14 → vs'[j]? = some (.int (own_W x2.toInt.toNat (own_U x3) sv (own_size (own_U x3) - 1) j)))) hh 0 0 6 #[.val (.ref a), .val (.int x2), .val (.long x3), .second, .val (.int ix), .val (.long u), .second] [] := by
    intro hh ix u us sz0 KK V_a hl hi hu hge hj
    have hlt := own_lt x3
    refine s_lload C d1_6 (pc' := 8) rfl rfl ?_
    refine s_ldc2 C d1_8 (pc' := 11) rfl (w5 hw) ?_
    refine s_land C d1_11 (pc' := 12) rfl ?_
    refine s_lconst C d1_12 (pc' := 13) rfl (0 : Int64) rfl ?_
    refine s_lc_eq C d1_13 (pc1 := 14) rfl d1_14 (pc' := 17) rfl (pcY := 46) rfl (fun c33 => ?_) (fun c33 => ?_)
    · skip
      refine s_aloadN C d1_46 (pc' := 47) rfl rfl rfl ?_
      refine s_iload C d1_47 (pc' := 49) rfl rfl ?_
      refine s_iincP C d1_49 (pc' := 52) rfl rfl (ix + (1 : Int32)) rfl #[.val (.ref a), .val (.int x2), .val (.long x3), .second, .val (.int (ix + (1 : Int32))), .val (.long u), .second] rfl ?_
      refine s_lload C d1_52 (pc' := 54) rfl rfl ?_
      refine s_l2i C d1_54 (pc' := 55) rfl ?_
      refine s_i2b C d1_55 (pc' := 56) rfl ?_
      refine s_bastore C d1_56 (pc' := 57) rfl V_a (x2.toInt.toNat + 5) (by omega) (by rw [hl]; omega) g_a (us.set (x2.toInt.toNat + 5) (.int u.toInt32.toInt8.toInt32.toInt8.toInt32)) rfl (fun h35 W35 A35 => ?_)
      have sz36 : n0 ≤ h35.size := (Nat.le_trans sz0 (Nat.le_of_eq W35.size.symm))
      have Kp37 : Keep h0 h35 [a] := KK.wr W35 (Or.inl (List.mem_of_getElem? (i := 0) rfl))
      refine s_iload C d1_57 (pc' := 59) rfl rfl ?_
      exact s_retI C d1_59 (by decide) (by decide) (by have q := (own_cont u).mp c33; have sz : own_size (own_U x3) = 6 := (own_sz5 _ hge (by omega)); exact ⟨Kp37, by rw [own_inc (by omega) (by omega), sz]; omega, _, A35, by rw [List.length_set]; exact hl, by rw [sz]; exact own_fin hl (by omega) hj (by rw [own_last u q, hu])⟩)
    · skip
      refine s_aloadN C d1_17 (pc' := 18) rfl rfl rfl ?_
      refine s_iload C d1_18 (pc' := 20) rfl rfl ?_
      refine s_iincP C d1_20 (pc' := 23) rfl rfl (ix + (1 : Int32)) rfl #[.val (.ref a), .val (.int x2), .val (.long x3), .second, .val (.int (ix + (1 : Int32))), .val (.long u), .second] rfl ?_
      refine s_lload C d1_23 (pc' := 25) rfl rfl ?_
      refine s_ldc2 C d1_25 (pc' := 28) rfl (w14 hw) ?_
      refine s_land C d1_28 (pc' := 29) rfl ?_
      refine s_ldc2 C d1_29 (pc' := 32) rfl (w15 hw) ?_
      refine s_lor C d1_32 (pc' := 33) rfl ?_
      refine s_l2i C d1_33 (pc' := 34) rfl ?_
      refine s_i2b C d1_34 (pc' := 35) rfl ?_
      refine s_bastore C d1_35 (pc' := 36) rfl V_a (x2.toInt.toNat + 5) (by omega) (by rw [hl]; omega) g_a (us.set (x2.toInt.toNat + 5) (.int ((u &&& (127 : Int64)) ||| (128 : Int64)).toInt32.toInt8.toInt32.toInt8.toInt32)) rfl (fun h39 W39 A39 => ?_)
      have sz40 : n0 ≤ h39.size := (Nat.le_trans sz0 (Nat.le_of_eq W39.size.symm))
      have Kp41 : Keep h0 h39 [a] := KK.wr W39 (Or.inl (List.mem_of_getElem? (i := 0) rfl))
      refine s_lload C d1_36 (pc' := 38) rfl rfl ?_
      refine s_bipush C d1_38 (pc' := 40) rfl (7 : Int32) rfl ?_
      refine s_lushr C d1_40 (pc' := 41) rfl ?_
      refine s_lstoreP C d1_41 (pc' := 43) rfl #[.val (.ref a), .val (.int x2), .val (.long x3), .second, .val (.int (ix + (1 : Int32))), .val (.long (u.toUInt64 >>> ((7 : Int32) &&& 0x3f).toInt64.toUInt64).toInt64), .second] rfl ?_
      refine s_goto C d1_43 (pc' := 6) rfl ?_
      exact S6 _ _ _ _ sz40 Kp41 A39 (by rw [List.length_set]; exact hl) (by rw [own_inc (by omega) (by omega)]; omega) (by rw [own_shift, hu]; omega) (by have q : ¬ own_U u < 128 := fun z => c33 ((own_cont u).mpr z); omega) (own_step hl (by omega) hj (by rw [own_byte, hu]; rfl))
  have S4 : ∀ (hh : Heap) (ix : Int32) (u : Int64) (us : List Value), n0 ≤ hh.size → Keep h0 hh [a] → Av Z hh a .byte us → us.length = 14 → ix.toInt = x2.toInt + 4 → own_U u = own_U x3 / 268435456 → 268435456 ≤ own_U x3 → (∀ j, j < 14 → us[j]? = some (.int (own_P x2.toInt.toNat (own_U x3) sv 4 j))) → Run p l e ({ frames := 0, cells := 0, slots := 0, locals := 0 } : Room) s m #[(.ref a), (.int x2), (.long x3)] below meth c n0 (RetI (fun z h => Keep h0 h [a] ∧ z.toInt = x2.toInt + own_size (own_U x3) ∧ ∃ vs', Av Z h a .byte vs' ∧ vs'.length = 14 ∧ ∀ j, j < 14 → vs'[j]? = some (.int (own_W x2.toInt.toNat (own_U x3) sv (own_size (own_U x3) - 1) j)))) hh 0 0 6 #[.val (.ref a), .val (.int x2), .val (.long x3), .second, .val (.int ix), .val (.long u), .second] [] := by
    intro hh ix u us sz0 KK V_a hl hi hu hge hj
    have hlt := own_lt x3
    refine s_lload C d1_6 (pc' := 8) rfl rfl ?_
    refine s_ldc2 C d1_8 (pc' := 11) rfl (w5 hw) ?_
    refine s_land C d1_11 (pc' := 12) rfl ?_
    refine s_lconst C d1_12 (pc' := 13) rfl (0 : Int64) rfl ?_
    refine s_lc_eq C d1_13 (pc1 := 14) rfl d1_14 (pc' := 17) rfl (pcY := 46) rfl (fun c42 => ?_) (fun c42 => ?_)
    · skip
      refine s_aloadN C d1_46 (pc' := 47) rfl rfl rfl ?_
      refine s_iload C d1_47 (pc' := 49) rfl rfl ?_
      refine s_iincP C d1_49 (pc' := 52) rfl rfl (ix + (1 : Int32)) rfl #[.val (.ref a), .val (.int x2), .val (.long x3), .second, .val (.int (ix + (1 : Int32))), .val (.long u), .second] rfl ?_
      refine s_lload C d1_52 (pc' := 54) rfl rfl ?_
      refine s_l2i C d1_54 (pc' := 55) rfl ?_
      refine s_i2b C d1_55 (pc' := 56) rfl ?_
      refine s_bastore C d1_56 (pc' := 57) rfl V_a (x2.toInt.toNat + 4) (by omega) (by rw [hl]; omega) g_a (us.set (x2.toInt.toNat + 4) (.int u.toInt32.toInt8.toInt32.toInt8.toInt32)) rfl (fun h44 W44 A44 => ?_)
      have sz45 : n0 ≤ h44.size := (Nat.le_trans sz0 (Nat.le_of_eq W44.size.symm))
      have Kp46 : Keep h0 h44 [a] := KK.wr W44 (Or.inl (List.mem_of_getElem? (i := 0) rfl))
      refine s_iload C d1_57 (pc' := 59) rfl rfl ?_
      exact s_retI C d1_59 (by decide) (by decide) (by have q := (own_cont u).mp c42; have sz : own_size (own_U x3) = 5 := (own_sz4 _ hge (by omega)); exact ⟨Kp46, by rw [own_inc (by omega) (by omega), sz]; omega, _, A44, by rw [List.length_set]; exact hl, by rw [sz]; exact own_fin hl (by omega) hj (by rw [own_last u q, hu])⟩)
    · skip
      refine s_aloadN C d1_17 (pc' := 18) rfl rfl rfl ?_
      refine s_iload C d1_18 (pc' := 20) rfl rfl ?_
      refine s_iincP C d1_20 (pc' := 23) rfl rfl (ix + (1 : Int32)) rfl #[.val (.ref a), .val (.int x2), .val (.long x3), .second, .val (.int (ix + (1 : Int32))), .val (.long u), .second] rfl ?_
      refine s_lload C d1_23 (pc' := 25) rfl rfl ?_
      refine s_ldc2 C d1_25 (pc' := 28) rfl (w14 hw) ?_
      refine s_land C d1_28 (pc' := 29) rfl ?_
      refine s_ldc2 C d1_29 (pc' := 32) rfl (w15 hw) ?_
      refine s_lor C d1_32 (pc' := 33) rfl ?_
      refine s_l2i C d1_33 (pc' := 34) rfl ?_
      refine s_i2b C d1_34 (pc' := 35) rfl ?_
      refine s_bastore C d1_35 (pc' := 36) rfl V_a (x2.toInt.toNat + 4) (by omega) (by rw [hl]; omega) g_a (us.set (x2.toInt.toNat + 4) (.int ((u &&& (127 : Int64)) ||| (128 : Int64)).toInt32.toInt8.toInt32.toInt8.toInt32)) rfl (fun h48 W48 A48 => ?_)
      have sz49 : n0 ≤ h48.size := (Nat.le_trans sz0 (Nat.le_of_eq W48.size.symm))
      have Kp50 : Keep h0 h48 [a] := KK.wr W48 (Or.inl (List.mem_of_getElem? (i := 0) rfl))
      refine s_lload C d1_36 (pc' := 38) rfl rfl ?_
      refine s_bipush C d1_38 (pc' := 40) rfl (7 : Int32) rfl ?_
      refine s_lushr C d1_40 (pc' := 41) rfl ?_
      refine s_lstoreP C d1_41 (pc' := 43) rfl #[.val (.ref a), .val (.int x2), .val (.long x3), .second, .val (.int (ix + (1 : Int32))), .val (.long (u.toUInt64 >>> ((7 : Int32) &&& 0x3f).toInt64.toUInt64).toInt64), .second] rfl ?_
      refine s_goto C d1_43 (pc' := 6) rfl ?_
      exact S5 _ _ _ _ sz49 Kp50 A48 (by rw [List.length_set]; exact hl) (by rw [own_inc (by omega) (by omega)]; omega) (by rw [own_shift, hu]; omega) (by have q : ¬ own_U u < 128 := fun z => c42 ((own_cont u).mpr z); omega) (own_step hl (by omega) hj (by rw [own_byte, hu]; rfl))
  have S3 : ∀ (hh : Heap) (ix : Int32) (u : Int64) (us : List Value), n0 ≤ hh.size → Keep h0 hh [a] → Av Z hh a .byte us → us.length = 14 → ix.toInt = x2.toInt + 3 → own_U u = own_U x3 / 2097152 → 2097152 ≤ own_U x3 → (∀ j, j < 14 → us[j]? = some (.int (own_P x2.toInt.toNat (own_U x3) sv 3 j))) → Run p l e ({ frames := 0, cells := 0, slots := 0, locals := 0 } : Room) s m #[(.ref a), (.int x2), (.long x3)] below meth c n0 (RetI (fun z h => Keep h0 h [a] ∧ z.toInt = x2.toInt + own_size (own_U x3) ∧ ∃ vs', Av Z h a .byte vs' ∧ vs'.length = 14 ∧ ∀ j, j < 14 → vs'[j]? = some (.int (own_W x2.toInt.toNat (own_U x3) sv (own_size (own_U x3) - 1) j)))) hh 0 0 6 #[.val (.ref a), .val (.int x2), .val (.long x3), .second, .val (.int ix), .val (.long u), .second] [] := by
    intro hh ix u us sz0 KK V_a hl hi hu hge hj
    have hlt := own_lt x3
    refine s_lload C d1_6 (pc' := 8) rfl rfl ?_
    refine s_ldc2 C d1_8 (pc' := 11) rfl (w5 hw) ?_
    refine s_land C d1_11 (pc' := 12) rfl ?_
    refine s_lconst C d1_12 (pc' := 13) rfl (0 : Int64) rfl ?_
    refine s_lc_eq C d1_13 (pc1 := 14) rfl d1_14 (pc' := 17) rfl (pcY := 46) rfl (fun c51 => ?_) (fun c51 => ?_)
    · skip
      refine s_aloadN C d1_46 (pc' := 47) rfl rfl rfl ?_
      refine s_iload C d1_47 (pc' := 49) rfl rfl ?_
      refine s_iincP C d1_49 (pc' := 52) rfl rfl (ix + (1 : Int32)) rfl #[.val (.ref a), .val (.int x2), .val (.long x3), .second, .val (.int (ix + (1 : Int32))), .val (.long u), .second] rfl ?_
      refine s_lload C d1_52 (pc' := 54) rfl rfl ?_
      refine s_l2i C d1_54 (pc' := 55) rfl ?_
      refine s_i2b C d1_55 (pc' := 56) rfl ?_
      refine s_bastore C d1_56 (pc' := 57) rfl V_a (x2.toInt.toNat + 3) (by omega) (by rw [hl]; omega) g_a (us.set (x2.toInt.toNat + 3) (.int u.toInt32.toInt8.toInt32.toInt8.toInt32)) rfl (fun h53 W53 A53 => ?_)
      have sz54 : n0 ≤ h53.size := (Nat.le_trans sz0 (Nat.le_of_eq W53.size.symm))
      have Kp55 : Keep h0 h53 [a] := KK.wr W53 (Or.inl (List.mem_of_getElem? (i := 0) rfl))
      refine s_iload C d1_57 (pc' := 59) rfl rfl ?_
      exact s_retI C d1_59 (by decide) (by decide) (by have q := (own_cont u).mp c51; have sz : own_size (own_U x3) = 4 := (own_sz3 _ hge (by omega)); exact ⟨Kp55, by rw [own_inc (by omega) (by omega), sz]; omega, _, A53, by rw [List.length_set]; exact hl, by rw [sz]; exact own_fin hl (by omega) hj (by rw [own_last u q, hu])⟩)
    · skip
      refine s_aloadN C d1_17 (pc' := 18) rfl rfl rfl ?_
      refine s_iload C d1_18 (pc' := 20) rfl rfl ?_
      refine s_iincP C d1_20 (pc' := 23) rfl rfl (ix + (1 : Int32)) rfl #[.val (.ref a), .val (.int x2), .val (.long x3), .second, .val (.int (ix + (1 : Int32))), .val (.long u), .second] rfl ?_
      refine s_lload C d1_23 (pc' := 25) rfl rfl ?_
      refine s_ldc2 C d1_25 (pc' := 28) rfl (w14 hw) ?_
      refine s_land C d1_28 (pc' := 29) rfl ?_
      refine s_ldc2 C d1_29 (pc' := 32) rfl (w15 hw) ?_
      refine s_lor C d1_32 (pc' := 33) rfl ?_
      refine s_l2i C d1_33 (pc' := 34) rfl ?_
      refine s_i2b C d1_34 (pc' := 35) rfl ?_
      refine s_bastore C d1_35 (pc' := 36) rfl V_a (x2.toInt.toNat + 3) (by omega) (by rw [hl]; omega) g_a (us.set (x2.toInt.toNat + 3) (.int ((u &&& (127 : Int64)) ||| (128 : Int64)).toInt32.toInt8.toInt32.toInt8.toInt32)) rfl (fun h57 W57 A57 => ?_)
      have sz58 : n0 ≤ h57.size := (Nat.le_trans sz0 (Nat.le_of_eq W57.size.symm))
      have Kp59 : Keep h0 h57 [a] := KK.wr W57 (Or.inl (List.mem_of_getElem? (i := 0) rfl))
      refine s_lload C d1_36 (pc' := 38) rfl rfl ?_
      refine s_bipush C d1_38 (pc' := 40) rfl (7 : Int32) rfl ?_
      refine s_lushr C d1_40 (pc' := 41) rfl ?_
      refine s_lstoreP C d1_41 (pc' := 43) rfl #[.val (.ref a), .val (.int x2), .val (.long x3), .second, .val (.int (ix + (1 : Int32))), .val (.long (u.toUInt64 >>> ((7 : Int32) &&& 0x3f).toInt64.toUInt64).toInt64), .second] rfl ?_
      refine s_goto C d1_43 (pc' := 6) rfl ?_
      exact S4 _ _ _ _ sz58 Kp59 A57 (by rw [List.length_set]; exact hl) (by rw [own_inc (by omega) (by omega)]; omega) (by rw [own_shift, hu]; omega) (by have q : ¬ own_U u < 128 := fun z => c51 ((own_cont u).mpr z); omega) (own_step hl (by omega) hj (by rw [own_byte, hu]; rfl))
  have S2 : ∀ (hh : Heap) (ix : Int32) (u : Int64) (us : List Value), n0 ≤ hh.size → Keep h0 hh [a] → Av Z hh a .byte us → us.length = 14 → ix.toInt = x2.toInt + 2 → own_U u = own_U x3 / 16384 → 16384 ≤ own_U x3 → (∀ j, j < 14 → us[j]? = some (.int (own_P x2.toInt.toNat (own_U x3) sv 2 j))) → Run p l e ({ frames := 0, cells := 0, slots := 0, locals := 0 } : Room) s m #[(.ref a), (.int x2), (.long x3)] below meth c n0 (RetI (fun z h => Keep h0 h [a] ∧ z.toInt = x2.toInt + own_size (own_U x3) ∧ ∃ vs', Av Z h a .byte vs' ∧ vs'.length = 14 ∧ ∀ j, j < 14 → vs'[j]? = some (.int (own_W x2.toInt.toNat (own_U x3) sv (own_size (own_U x3) - 1) j)))) hh 0 0 6 #[.val (.ref a), .val (.int x2), .val (.long x3), .second, .val (.int ix), .val (.long u), .second] [] := by
    intro hh ix u us sz0 KK V_a hl hi hu hge hj
    have hlt := own_lt x3
    refine s_lload C d1_6 (pc' := 8) rfl rfl ?_
    refine s_ldc2 C d1_8 (pc' := 11) rfl (w5 hw) ?_
    refine s_land C d1_11 (pc' := 12) rfl ?_
    refine s_lconst C d1_12 (pc' := 13) rfl (0 : Int64) rfl ?_
    refine s_lc_eq C d1_13 (pc1 := 14) rfl d1_14 (pc' := 17) rfl (pcY := 46) rfl (fun c60 => ?_) (fun c60 => ?_)
    · skip
      refine s_aloadN C d1_46 (pc' := 47) rfl rfl rfl ?_
      refine s_iload C d1_47 (pc' := 49) rfl rfl ?_
      refine s_iincP C d1_49 (pc' := 52) rfl rfl (ix + (1 : Int32)) rfl #[.val (.ref a), .val (.int x2), .val (.long x3), .second, .val (.int (ix + (1 : Int32))), .val (.long u), .second] rfl ?_
      refine s_lload C d1_52 (pc' := 54) rfl rfl ?_
      refine s_l2i C d1_54 (pc' := 55) rfl ?_
      refine s_i2b C d1_55 (pc' := 56) rfl ?_
      refine s_bastore C d1_56 (pc' := 57) rfl V_a (x2.toInt.toNat + 2) (by omega) (by rw [hl]; omega) g_a (us.set (x2.toInt.toNat + 2) (.int u.toInt32.toInt8.toInt32.toInt8.toInt32)) rfl (fun h62 W62 A62 => ?_)
      have sz63 : n0 ≤ h62.size := (Nat.le_trans sz0 (Nat.le_of_eq W62.size.symm))
      have Kp64 : Keep h0 h62 [a] := KK.wr W62 (Or.inl (List.mem_of_getElem? (i := 0) rfl))
      refine s_iload C d1_57 (pc' := 59) rfl rfl ?_
      exact s_retI C d1_59 (by decide) (by decide) (by have q := (own_cont u).mp c60; have sz : own_size (own_U x3) = 3 := (own_sz2 _ hge (by omega)); exact ⟨Kp64, by rw [own_inc (by omega) (by omega), sz]; omega, _, A62, by rw [List.length_set]; exact hl, by rw [sz]; exact own_fin hl (by omega) hj (by rw [own_last u q, hu])⟩)
    · skip
      refine s_aloadN C d1_17 (pc' := 18) rfl rfl rfl ?_
      refine s_iload C d1_18 (pc' := 20) rfl rfl ?_
      refine s_iincP C d1_20 (pc' := 23) rfl rfl (ix + (1 : Int32)) rfl #[.val (.ref a), .val (.int x2), .val (.long x3), .second, .val (.int (ix + (1 : Int32))), .val (.long u), .second] rfl ?_
      refine s_lload C d1_23 (pc' := 25) rfl rfl ?_
      refine s_ldc2 C d1_25 (pc' := 28) rfl (w14 hw) ?_
      refine s_land C d1_28 (pc' := 29) rfl ?_
      refine s_ldc2 C d1_29 (pc' := 32) rfl (w15 hw) ?_
      refine s_lor C d1_32 (pc' := 33) rfl ?_
      refine s_l2i C d1_33 (pc' := 34) rfl ?_
      refine s_i2b C d1_34 (pc' := 35) rfl ?_
      refine s_bastore C d1_35 (pc' := 36) rfl V_a (x2.toInt.toNat + 2) (by omega) (by rw [hl]; omega) g_a (us.set (x2.toInt.toNat + 2) (.int ((u &&& (127 : Int64)) ||| (128 : Int64)).toInt32.toInt8.toInt32.toInt8.toInt32)) rfl (fun h66 W66 A66 => ?_)
      have sz67 : n0 ≤ h66.size := (Nat.le_trans sz0 (Nat.le_of_eq W66.size.symm))
      have Kp68 : Keep h0 h66 [a] := KK.wr W66 (Or.inl (List.mem_of_getElem? (i := 0) rfl))
      refine s_lload C d1_36 (pc' := 38) rfl rfl ?_
      refine s_bipush C d1_38 (pc' := 40) rfl (7 : Int32) rfl ?_
      refine s_lushr C d1_40 (pc' := 41) rfl ?_
      refine s_lstoreP C d1_41 (pc' := 43) rfl #[.val (.ref a), .val (.int x2), .val (.long x3), .second, .val (.int (ix + (1 : Int32))), .val (.long (u.toUInt64 >>> ((7 : Int32) &&& 0x3f).toInt64.toUInt64).toInt64), .second] rfl ?_
      refine s_goto C d1_43 (pc' := 6) rfl ?_
      exact S3 _ _ _ _ sz67 Kp68 A66 (by rw [List.length_set]; exact hl) (by rw [own_inc (by omega) (by omega)]; omega) (by rw [own_shift, hu]; omega) (by have q : ¬ own_U u < 128 := fun z => c60 ((own_cont u).mpr z); omega) (own_step hl (by omega) hj (by rw [own_byte, hu]; rfl))
  have S1 : ∀ (hh : Heap) (ix : Int32) (u : Int64) (us : List Value), n0 ≤ hh.size → Keep h0 hh [a] → Av Z hh a .byte us → us.length = 14 → ix.toInt = x2.toInt + 1 → own_U u = own_U x3 / 128 → 128 ≤ own_U x3 → (∀ j, j < 14 → us[j]? = some (.int (own_P x2.toInt.toNat (own_U x3) sv 1 j))) → Run p l e ({ frames := 0, cells := 0, slots := 0, locals := 0 } : Room) s m #[(.ref a), (.int x2), (.long x3)] below meth c n0 (RetI (fun z h => Keep h0 h [a] ∧ z.toInt = x2.toInt + own_size (own_U x3) ∧ ∃ vs', Av Z h a .byte vs' ∧ vs'.length = 14 ∧ ∀ j, j < 14 → vs'[j]? = some (.int (own_W x2.toInt.toNat (own_U x3) sv (own_size (own_U x3) - 1) j)))) hh 0 0 6 #[.val (.ref a), .val (.int x2), .val (.long x3), .second, .val (.int ix), .val (.long u), .second] [] := by
    intro hh ix u us sz0 KK V_a hl hi hu hge hj
    have hlt := own_lt x3
    refine s_lload C d1_6 (pc' := 8) rfl rfl ?_
    refine s_ldc2 C d1_8 (pc' := 11) rfl (w5 hw) ?_
    refine s_land C d1_11 (pc' := 12) rfl ?_
    refine s_lconst C d1_12 (pc' := 13) rfl (0 : Int64) rfl ?_
    refine s_lc_eq C d1_13 (pc1 := 14) rfl d1_14 (pc' := 17) rfl (pcY := 46) rfl (fun c69 => ?_) (fun c69 => ?_)
    · skip
      refine s_aloadN C d1_46 (pc' := 47) rfl rfl rfl ?_
      refine s_iload C d1_47 (pc' := 49) rfl rfl ?_
      refine s_iincP C d1_49 (pc' := 52) rfl rfl (ix + (1 : Int32)) rfl #[.val (.ref a), .val (.int x2), .val (.long x3), .second, .val (.int (ix + (1 : Int32))), .val (.long u), .second] rfl ?_
      refine s_lload C d1_52 (pc' := 54) rfl rfl ?_
      refine s_l2i C d1_54 (pc' := 55) rfl ?_
      refine s_i2b C d1_55 (pc' := 56) rfl ?_
      refine s_bastore C d1_56 (pc' := 57) rfl V_a (x2.toInt.toNat + 1) (by omega) (by rw [hl]; omega) g_a (us.set (x2.toInt.toNat + 1) (.int u.toInt32.toInt8.toInt32.toInt8.toInt32)) rfl (fun h71 W71 A71 => ?_)
      have sz72 : n0 ≤ h71.size := (Nat.le_trans sz0 (Nat.le_of_eq W71.size.symm))
      have Kp73 : Keep h0 h71 [a] := KK.wr W71 (Or.inl (List.mem_of_getElem? (i := 0) rfl))
      refine s_iload C d1_57 (pc' := 59) rfl rfl ?_
      exact s_retI C d1_59 (by decide) (by decide) (by have q := (own_cont u).mp c69; have sz : own_size (own_U x3) = 2 := (own_sz1 _ hge (by omega)); exact ⟨Kp73, by rw [own_inc (by omega) (by omega), sz]; omega, _, A71, by rw [List.length_set]; exact hl, by rw [sz]; exact own_fin hl (by omega) hj (by rw [own_last u q, hu])⟩)
    · skip
      refine s_aloadN C d1_17 (pc' := 18) rfl rfl rfl ?_
      refine s_iload C d1_18 (pc' := 20) rfl rfl ?_
      refine s_iincP C d1_20 (pc' := 23) rfl rfl (ix + (1 : Int32)) rfl #[.val (.ref a), .val (.int x2), .val (.long x3), .second, .val (.int (ix + (1 : Int32))), .val (.long u), .second] rfl ?_
      refine s_lload C d1_23 (pc' := 25) rfl rfl ?_
      refine s_ldc2 C d1_25 (pc' := 28) rfl (w14 hw) ?_
      refine s_land C d1_28 (pc' := 29) rfl ?_
      refine s_ldc2 C d1_29 (pc' := 32) rfl (w15 hw) ?_
      refine s_lor C d1_32 (pc' := 33) rfl ?_
      refine s_l2i C d1_33 (pc' := 34) rfl ?_
      refine s_i2b C d1_34 (pc' := 35) rfl ?_
      refine s_bastore C d1_35 (pc' := 36) rfl V_a (x2.toInt.toNat + 1) (by omega) (by rw [hl]; omega) g_a (us.set (x2.toInt.toNat + 1) (.int ((u &&& (127 : Int64)) ||| (128 : Int64)).toInt32.toInt8.toInt32.toInt8.toInt32)) rfl (fun h75 W75 A75 => ?_)
      have sz76 : n0 ≤ h75.size := (Nat.le_trans sz0 (Nat.le_of_eq W75.size.symm))
      have Kp77 : Keep h0 h75 [a] := KK.wr W75 (Or.inl (List.mem_of_getElem? (i := 0) rfl))
      refine s_lload C d1_36 (pc' := 38) rfl rfl ?_
      refine s_bipush C d1_38 (pc' := 40) rfl (7 : Int32) rfl ?_
      refine s_lushr C d1_40 (pc' := 41) rfl ?_
      refine s_lstoreP C d1_41 (pc' := 43) rfl #[.val (.ref a), .val (.int x2), .val (.long x3), .second, .val (.int (ix + (1 : Int32))), .val (.long (u.toUInt64 >>> ((7 : Int32) &&& 0x3f).toInt64.toUInt64).toInt64), .second] rfl ?_
      refine s_goto C d1_43 (pc' := 6) rfl ?_
      exact S2 _ _ _ _ sz76 Kp77 A75 (by rw [List.length_set]; exact hl) (by rw [own_inc (by omega) (by omega)]; omega) (by rw [own_shift, hu]; omega) (by have q : ¬ own_U u < 128 := fun z => c69 ((own_cont u).mpr z); omega) (own_step hl (by omega) hj (by rw [own_byte, hu]; rfl))
  have S0 : ∀ (hh : Heap) (ix : Int32) (u : Int64) (us : List Value), n0 ≤ hh.size → Keep h0 hh [a] → Av Z hh a .byte us → us.length = 14 → ix.toInt = x2.toInt + 0 → own_U u = own_U x3 / 1 → 0 ≤ own_U x3 → (∀ j, j < 14 → us[j]? = some (.int (own_P x2.toInt.toNat (own_U x3) sv 0 j))) → Run p l e ({ frames := 0, cells := 0, slots := 0, locals := 0 } : Room) s m #[(.ref a), (.int x2), (.long x3)] below meth c n0 (RetI (fun z h => Keep h0 h [a] ∧ z.toInt = x2.toInt + own_size (own_U x3) ∧ ∃ vs', Av Z h a .byte vs' ∧ vs'.length = 14 ∧ ∀ j, j < 14 → vs'[j]? = some (.int (own_W x2.toInt.toNat (own_U x3) sv (own_size (own_U x3) - 1) j)))) hh 0 0 6 #[.val (.ref a), .val (.int x2), .val (.long x3), .second, .val (.int ix), .val (.long u), .second] [] := by
    intro hh ix u us sz0 KK V_a hl hi hu hge hj
    have hlt := own_lt x3
    refine s_lload C d1_6 (pc' := 8) rfl rfl ?_
    refine s_ldc2 C d1_8 (pc' := 11) rfl (w5 hw) ?_
    refine s_land C d1_11 (pc' := 12) rfl ?_
    refine s_lconst C d1_12 (pc' := 13) rfl (0 : Int64) rfl ?_
    refine s_lc_eq C d1_13 (pc1 := 14) rfl d1_14 (pc' := 17) rfl (pcY := 46) rfl (fun c78 => ?_) (fun c78 => ?_)
    · skip
      refine s_aloadN C d1_46 (pc' := 47) rfl rfl rfl ?_
      refine s_iload C d1_47 (pc' := 49) rfl rfl ?_
      refine s_iincP C d1_49 (pc' := 52) rfl rfl (ix + (1 : Int32)) rfl #[.val (.ref a), .val (.int x2), .val (.long x3), .second, .val (.int (ix + (1 : Int32))), .val (.long u), .second] rfl ?_
      refine s_lload C d1_52 (pc' := 54) rfl rfl ?_
      refine s_l2i C d1_54 (pc' := 55) rfl ?_
      refine s_i2b C d1_55 (pc' := 56) rfl ?_
      refine s_bastore C d1_56 (pc' := 57) rfl V_a (x2.toInt.toNat + 0) (by omega) (by rw [hl]; omega) g_a (us.set (x2.toInt.toNat + 0) (.int u.toInt32.toInt8.toInt32.toInt8.toInt32)) rfl (fun h80 W80 A80 => ?_)
      have sz81 : n0 ≤ h80.size := (Nat.le_trans sz0 (Nat.le_of_eq W80.size.symm))
      have Kp82 : Keep h0 h80 [a] := KK.wr W80 (Or.inl (List.mem_of_getElem? (i := 0) rfl))
      refine s_iload C d1_57 (pc' := 59) rfl rfl ?_
      exact s_retI C d1_59 (by decide) (by decide) (by have q := (own_cont u).mp c78; have sz : own_size (own_U x3) = 1 := (own_sz0 _ hge (by omega)); exact ⟨Kp82, by rw [own_inc (by omega) (by omega), sz]; omega, _, A80, by rw [List.length_set]; exact hl, by rw [sz]; exact own_fin hl (by omega) hj (by rw [own_last u q, hu])⟩)
    · skip
      refine s_aloadN C d1_17 (pc' := 18) rfl rfl rfl ?_
      refine s_iload C d1_18 (pc' := 20) rfl rfl ?_
      refine s_iincP C d1_20 (pc' := 23) rfl rfl (ix + (1 : Int32)) rfl #[.val (.ref a), .val (.int x2), .val (.long x3), .second, .val (.int (ix + (1 : Int32))), .val (.long u), .second] rfl ?_
      refine s_lload C d1_23 (pc' := 25) rfl rfl ?_
      refine s_ldc2 C d1_25 (pc' := 28) rfl (w14 hw) ?_
      refine s_land C d1_28 (pc' := 29) rfl ?_
      refine s_ldc2 C d1_29 (pc' := 32) rfl (w15 hw) ?_
      refine s_lor C d1_32 (pc' := 33) rfl ?_
      refine s_l2i C d1_33 (pc' := 34) rfl ?_
      refine s_i2b C d1_34 (pc' := 35) rfl ?_
      refine s_bastore C d1_35 (pc' := 36) rfl V_a (x2.toInt.toNat + 0) (by omega) (by rw [hl]; omega) g_a (us.set (x2.toInt.toNat + 0) (.int ((u &&& (127 : Int64)) ||| (128 : Int64)).toInt32.toInt8.toInt32.toInt8.toInt32)) rfl (fun h84 W84 A84 => ?_)
      have sz85 : n0 ≤ h84.size := (Nat.le_trans sz0 (Nat.le_of_eq W84.size.symm))
      have Kp86 : Keep h0 h84 [a] := KK.wr W84 (Or.inl (List.mem_of_getElem? (i := 0) rfl))
      refine s_lload C d1_36 (pc' := 38) rfl rfl ?_
      refine s_bipush C d1_38 (pc' := 40) rfl (7 : Int32) rfl ?_
      refine s_lushr C d1_40 (pc' := 41) rfl ?_
      refine s_lstoreP C d1_41 (pc' := 43) rfl #[.val (.ref a), .val (.int x2), .val (.long x3), .second, .val (.int (ix + (1 : Int32))), .val (.long (u.toUInt64 >>> ((7 : Int32) &&& 0x3f).toInt64.toUInt64).toInt64), .second] rfl ?_
      refine s_goto C d1_43 (pc' := 6) rfl ?_
      exact S1 _ _ _ _ sz85 Kp86 A84 (by rw [List.length_set]; exact hl) (by rw [own_inc (by omega) (by omega)]; omega) (by rw [own_shift, hu]; omega) (by have q : ¬ own_U u < 128 := fun z => c78 ((own_cont u).mpr z); omega) (own_step hl (by omega) hj (by rw [own_byte, hu]; rfl))
  refine s_iloadN C d1_0 (pc' := 1) rfl rfl ?_
  refine s_istoreP C d1_1 (pc' := 3) rfl #[.val (.ref a), .val (.int x2), .val (.long x3), .second, .val (.int x2), .unset, .unset] rfl ?_
  refine s_lloadN C d1_3 (pc' := 4) rfl rfl ?_
  refine s_lstoreP C d1_4 (pc' := 6) rfl #[.val (.ref a), .val (.int x2), .val (.long x3), .second, .val (.int x2), .val (.long x3), .second] rfl ?_
  exact S0 _ _ _ _ Z0 (Keep.refl h0 [a]) V_a hl (by omega) (by omega) (by omega) (fun j hj => by rw [hv j hj]; unfold own_P; rw [if_neg (by omega)])
def f_ok (b : Int32) (x2 : Int32) (x3 : Int32) (x4 : Int32) (x5 : Int64) (x6 : Int32) : Int32 := if (x2 - x3) < (0 : Int32) then (if b = x6 then (1 : Int32) else (0 : Int32)) else (if (x2 - x3) < x4 then (if (x2 - x3) < (x4 - (1 : Int32)) then (if b = (((x5.toUInt64 >>> (((7 : Int32) * (x2 - x3)) &&& 0x3f).toInt64.toUInt64).toInt64 &&& (127 : Int64)).toInt32 ||| (128 : Int32)).toInt8.toInt32 then (1 : Int32) else (0 : Int32)) else (if b = ((x5.toUInt64 >>> (((7 : Int32) * (x2 - x3)) &&& 0x3f).toInt64.toUInt64).toInt64 &&& (127 : Int64)).toInt32.toInt8.toInt32 then (1 : Int32) else (0 : Int32))) else (if b = x6 then (1 : Int32) else (0 : Int32)))
set_option maxRecDepth 65536 in
set_option maxHeartbeats 40000000 in
theorem c_ok (l : Launch) (Z : State) (a0 : Array Value) (hw : Hw a0 Z) (x1 : Addr) (b : Int32) (x2 : Int32) (x3 : Int32) (x4 : Int32) (x5 : Int64) (x6 : Int32) (h0 : Heap) (n0 : Nat) (Z0 : n0 ≤ h0.size) (vs : List Value) (ik : Nat) (V_x1 : Av Z h0 x1 .byte vs) (hik : x2.toInt = (ik : Int)) (hv : vs[ik]? = some (.int b)) :
    Met l Z (⟨"com/example/dewk/dewk/index/IndexFormatPutVarintPinLaw", "ok", "([BIIIJB)Z"⟩ : MethodName) method_4_code 10 (some .boolean) [] ({ frames := 0, cells := 0, slots := 0, locals := 0 } : Room) #[(.ref x1), (.int x2), (.int x3), (.int x4), (.long x5), (.int x6)] h0 n0 (RetI (fun z h => z = f_ok b x2 x3 x4 x5 x6 ∧ h0 = h)) := by
  refine Met.intro pn3 (own := "com/example/dewk/dewk/index/IndexFormatPutVarintPinLaw") rfl (nm := "ok") rfl (fun m => ef3 m x1 x2 x3 x4 x5 x6) ?_
  intro p e s m below meth c C
  refine s_iloadN C d3_0 (pc' := 1) rfl rfl ?_
  refine s_iloadN C d3_1 (pc' := 2) rfl rfl ?_
  refine s_isub C d3_2 (pc' := 3) rfl ?_
  refine s_istoreP C d3_3 (pc' := 5) rfl #[.val (.ref x1), .val (.int x2), .val (.int x3), .val (.int x4), .val (.long x5), .second, .val (.int x6), .val (.int (x2 - x3)), .unset, .unset] rfl ?_
  refine s_iload C d3_5 (pc' := 7) rfl rfl ?_
  refine s_if_lt C d3_7 (pc' := 10) rfl (pcY := 16) rfl (fun c1 => ?_) (fun c1 => ?_)
  · skip
    refine s_aloadN C d3_16 (pc' := 17) rfl rfl rfl ?_
    refine s_iloadN C d3_17 (pc' := 18) rfl rfl ?_
    refine s_baload C d3_18 (pc' := 19) rfl V_x1 ik hik hv ?_
    refine s_iload C d3_19 (pc' := 21) rfl rfl ?_
    refine s_icmp_ne C d3_21 (pc' := 24) rfl (pcY := 28) rfl (fun c2 => ?_) (fun c2 => ?_)
    · skip
      refine s_iconst C d3_28 (pc' := 29) rfl (0 : Int32) rfl ?_
      exact s_retN C (by simp) d3_29 (by decide) (by decide) (by have e : f_ok b x2 x3 x4 x5 x6 = (0 : Int32) := (by unfold f_ok; rw [if_pos c1, if_neg c2]); exact ⟨e.symm, rfl⟩)
    · skip
      refine s_iconst C d3_24 (pc' := 25) rfl (1 : Int32) rfl ?_
      refine s_goto C d3_25 (pc' := 29) rfl ?_
      exact s_retN C (by simp) d3_29 (by decide) (by decide) (by have e : f_ok b x2 x3 x4 x5 x6 = (1 : Int32) := (by unfold f_ok; rw [if_pos c1, if_pos c2]); exact ⟨e.symm, rfl⟩)
  · skip
    refine s_iload C d3_10 (pc' := 12) rfl rfl ?_
    refine s_iloadN C d3_12 (pc' := 13) rfl rfl ?_
    refine s_icmp_lt C d3_13 (pc' := 16) rfl (pcY := 30) rfl (fun c3 => ?_) (fun c3 => ?_)
    · skip
      refine s_lload C d3_30 (pc' := 32) rfl rfl ?_
      refine s_bipush C d3_32 (pc' := 34) rfl (7 : Int32) rfl ?_
      refine s_iload C d3_34 (pc' := 36) rfl rfl ?_
      refine s_imul C d3_36 (pc' := 37) rfl ?_
      refine s_lushr C d3_37 (pc' := 38) rfl ?_
      refine s_ldc2 C d3_38 (pc' := 41) rfl (w13 hw) ?_
      refine s_land C d3_41 (pc' := 42) rfl ?_
      refine s_l2i C d3_42 (pc' := 43) rfl ?_
      refine s_istoreP C d3_43 (pc' := 45) rfl #[.val (.ref x1), .val (.int x2), .val (.int x3), .val (.int x4), .val (.long x5), .second, .val (.int x6), .val (.int (x2 - x3)), .val (.int ((x5.toUInt64 >>> (((7 : Int32) * (x2 - x3)) &&& 0x3f).toInt64.toUInt64).toInt64 &&& (127 : Int64)).toInt32), .unset] rfl ?_
      refine s_iload C d3_45 (pc' := 47) rfl rfl ?_
      refine s_iloadN C d3_47 (pc' := 48) rfl rfl ?_
      refine s_iconst C d3_48 (pc' := 49) rfl (1 : Int32) rfl ?_
      refine s_isub C d3_49 (pc' := 50) rfl ?_
      refine s_icmp_ge C d3_50 (pc' := 53) rfl (pcY := 62) rfl (fun c4 => ?_) (fun c4 => ?_)
      · skip
        refine s_iload C d3_62 (pc' := 64) rfl rfl ?_
        refine s_istoreP C d3_64 (pc' := 66) rfl #[.val (.ref x1), .val (.int x2), .val (.int x3), .val (.int x4), .val (.long x5), .second, .val (.int x6), .val (.int (x2 - x3)), .val (.int ((x5.toUInt64 >>> (((7 : Int32) * (x2 - x3)) &&& 0x3f).toInt64.toUInt64).toInt64 &&& (127 : Int64)).toInt32), .val (.int ((x5.toUInt64 >>> (((7 : Int32) * (x2 - x3)) &&& 0x3f).toInt64.toUInt64).toInt64 &&& (127 : Int64)).toInt32)] rfl ?_
        refine s_aloadN C d3_66 (pc' := 67) rfl rfl rfl ?_
        refine s_iloadN C d3_67 (pc' := 68) rfl rfl ?_
        refine s_baload C d3_68 (pc' := 69) rfl V_x1 ik hik hv ?_
        refine s_iload C d3_69 (pc' := 71) rfl rfl ?_
        refine s_i2b C d3_71 (pc' := 72) rfl ?_
        refine s_icmp_ne C d3_72 (pc' := 75) rfl (pcY := 79) rfl (fun c5 => ?_) (fun c5 => ?_)
        · skip
          refine s_iconst C d3_79 (pc' := 80) rfl (0 : Int32) rfl ?_
          exact s_retN C (by simp) d3_80 (by decide) (by decide) (by have e : f_ok b x2 x3 x4 x5 x6 = (0 : Int32) := (by unfold f_ok; rw [if_neg c1, if_pos c3, if_neg c4, if_neg c5]); exact ⟨e.symm, rfl⟩)
        · skip
          refine s_iconst C d3_75 (pc' := 76) rfl (1 : Int32) rfl ?_
          refine s_goto C d3_76 (pc' := 80) rfl ?_
          exact s_retN C (by simp) d3_80 (by decide) (by decide) (by have e : f_ok b x2 x3 x4 x5 x6 = (1 : Int32) := (by unfold f_ok; rw [if_neg c1, if_pos c3, if_neg c4, if_pos c5]); exact ⟨e.symm, rfl⟩)
      · skip
        refine s_iload C d3_53 (pc' := 55) rfl rfl ?_
        refine s_sipush C d3_55 (pc' := 58) rfl (128 : Int32) rfl ?_
        refine s_ior C d3_58 (pc' := 59) rfl ?_
        refine s_goto C d3_59 (pc' := 64) rfl ?_
        refine s_istoreP C d3_64 (pc' := 66) rfl #[.val (.ref x1), .val (.int x2), .val (.int x3), .val (.int x4), .val (.long x5), .second, .val (.int x6), .val (.int (x2 - x3)), .val (.int ((x5.toUInt64 >>> (((7 : Int32) * (x2 - x3)) &&& 0x3f).toInt64.toUInt64).toInt64 &&& (127 : Int64)).toInt32), .val (.int (((x5.toUInt64 >>> (((7 : Int32) * (x2 - x3)) &&& 0x3f).toInt64.toUInt64).toInt64 &&& (127 : Int64)).toInt32 ||| (128 : Int32)))] rfl ?_
        refine s_aloadN C d3_66 (pc' := 67) rfl rfl rfl ?_
        refine s_iloadN C d3_67 (pc' := 68) rfl rfl ?_
        refine s_baload C d3_68 (pc' := 69) rfl V_x1 ik hik hv ?_
        refine s_iload C d3_69 (pc' := 71) rfl rfl ?_
        refine s_i2b C d3_71 (pc' := 72) rfl ?_
        refine s_icmp_ne C d3_72 (pc' := 75) rfl (pcY := 79) rfl (fun c6 => ?_) (fun c6 => ?_)
        · skip
          refine s_iconst C d3_79 (pc' := 80) rfl (0 : Int32) rfl ?_
          exact s_retN C (by simp) d3_80 (by decide) (by decide) (by have e : f_ok b x2 x3 x4 x5 x6 = (0 : Int32) := (by unfold f_ok; rw [if_neg c1, if_pos c3, if_pos c4, if_neg c6]); exact ⟨e.symm, rfl⟩)
        · skip
          refine s_iconst C d3_75 (pc' := 76) rfl (1 : Int32) rfl ?_
          refine s_goto C d3_76 (pc' := 80) rfl ?_
          exact s_retN C (by simp) d3_80 (by decide) (by decide) (by have e : f_ok b x2 x3 x4 x5 x6 = (1 : Int32) := (by unfold f_ok; rw [if_neg c1, if_pos c3, if_pos c4, if_pos c6]); exact ⟨e.symm, rfl⟩)
    · skip
      refine s_aloadN C d3_16 (pc' := 17) rfl rfl rfl ?_
      refine s_iloadN C d3_17 (pc' := 18) rfl rfl ?_
      refine s_baload C d3_18 (pc' := 19) rfl V_x1 ik hik hv ?_
      refine s_iload C d3_19 (pc' := 21) rfl rfl ?_
      refine s_icmp_ne C d3_21 (pc' := 24) rfl (pcY := 28) rfl (fun c7 => ?_) (fun c7 => ?_)
      · skip
        refine s_iconst C d3_28 (pc' := 29) rfl (0 : Int32) rfl ?_
        exact s_retN C (by simp) d3_29 (by decide) (by decide) (by have e : f_ok b x2 x3 x4 x5 x6 = (0 : Int32) := (by unfold f_ok; rw [if_neg c1, if_neg c3, if_neg c7]); exact ⟨e.symm, rfl⟩)
      · skip
        refine s_iconst C d3_24 (pc' := 25) rfl (1 : Int32) rfl ?_
        refine s_goto C d3_25 (pc' := 29) rfl ?_
        exact s_retN C (by simp) d3_29 (by decide) (by decide) (by have e : f_ok b x2 x3 x4 x5 x6 = (1 : Int32) := (by unfold f_ok; rw [if_neg c1, if_neg c3, if_pos c7]); exact ⟨e.symm, rfl⟩)

theorem own_sh (v : Int64) (k : Nat) (q : Int32) (h : q.toBitVec.toNat % 64 = k) (h0 : 0 < k) : own_U (v.toUInt64 >>> (q &&& 0x3f).toInt64.toUInt64).toInt64 = own_U v / 2 ^ k := by
  have e := c_lushr v q k h h0
  have u := own_Ui v
  have u2 := own_Ui (v.toUInt64 >>> (q &&& 0x3f).toInt64.toUInt64).toInt64
  have l := own_lt v
  have p : 0 < 2 ^ k := Nat.two_pow_pos k
  rw [e, ← u] at u2
  have e3 : ((own_U v : Int) / ((2 ^ k : Nat) : Int)) = ((own_U v / 2 ^ k : Nat) : Int) := by simp
  have l2 : own_U v / 2 ^ k ≤ own_U v := Nat.div_le_self _ _
  rw [e3] at u2
  generalize own_U v / 2 ^ k = D at *
  omega
theorem own_zero (v : Int64) (k : Nat) (q : Int32) (h : q.toBitVec.toNat % 64 = k) (h0 : 0 < k) : (v.toUInt64 >>> (q &&& 0x3f).toInt64.toUInt64).toInt64 = 0 ↔ own_U v / 2 ^ k = 0 := by
  have e := own_sh v k q h h0
  constructor
  · intro z; rw [z] at e; rw [← e]; decide
  · intro z
    rw [z] at e
    rw [← Int64.toInt_inj, own_small _ (by omega), e]; decide
theorem own_es (v : Int64) : (f_es v).toInt = own_size (own_U v) := by
  unfold f_es own_size
  simp only [own_zero v 7 7 (by decide) (by decide), own_zero v 14 14 (by decide) (by decide), own_zero v 21 21 (by decide) (by decide), own_zero v 28 28 (by decide) (by decide), own_zero v 35 35 (by decide) (by decide), own_zero v 42 42 (by decide) (by decide), own_zero v 49 49 (by decide) (by decide), own_zero v 56 56 (by decide) (by decide), own_zero v 63 63 (by decide) (by decide)]
  simp only [Nat.div_eq_zero_iff, show ¬ (2 ^ 7 = 0) from by decide, show ¬ (2 ^ 14 = 0) from by decide, show ¬ (2 ^ 21 = 0) from by decide, show ¬ (2 ^ 28 = 0) from by decide, show ¬ (2 ^ 35 = 0) from by decide, show ¬ (2 ^ 42 = 0) from by decide, show ¬ (2 ^ 49 = 0) from by decide, show ¬ (2 ^ 56 = 0) from by decide, show ¬ (2 ^ 63 = 0) from by decide, false_or]
  repeat' split
  all_goals first | rfl | (exfalso; omega) | decide


theorem own_low (v : Int64) (i : Int32) (n : Nat) (hi : i = Int32.ofInt (n : Int)) (hn : n < 10) : (v.toUInt64 >>> (((7 : Int32) * i) &&& 0x3f).toInt64.toUInt64).toInt64.toInt % 128 = ((own_U v / 128 ^ n % 128 : Nat) : Int) := by
  subst hi
  match n, hn with
  | 0, _ =>
    have e : (v.toUInt64 >>> (((7 : Int32) * Int32.ofInt ((0 : Nat) : Int)) &&& 0x3f).toInt64.toUInt64).toInt64 = v := by
      have k : (((7 : Int32) * Int32.ofInt ((0 : Nat) : Int)) &&& 0x3f).toInt64.toUInt64 = 0 := by decide
      rw [k]; simp
    rw [e]
    have u := own_Ui v
    omega
  | 1, _ =>
    have e := own_sh v 7 ((7 : Int32) * Int32.ofInt ((1 : Nat) : Int)) (by decide) (by decide)
    have u := own_Ui (v.toUInt64 >>> (((7 : Int32) * Int32.ofInt ((1 : Nat) : Int)) &&& 0x3f).toInt64.toUInt64).toInt64
    rw [e] at u
    have k : 2 ^ 7 = 128 ^ 1 := by decide
    rw [k] at u
    omega
  | 2, _ =>
    have e := own_sh v 14 ((7 : Int32) * Int32.ofInt ((2 : Nat) : Int)) (by decide) (by decide)
    have u := own_Ui (v.toUInt64 >>> (((7 : Int32) * Int32.ofInt ((2 : Nat) : Int)) &&& 0x3f).toInt64.toUInt64).toInt64
    rw [e] at u
    have k : 2 ^ 14 = 128 ^ 2 := by decide
    rw [k] at u
    omega
  | 3, _ =>
    have e := own_sh v 21 ((7 : Int32) * Int32.ofInt ((3 : Nat) : Int)) (by decide) (by decide)
    have u := own_Ui (v.toUInt64 >>> (((7 : Int32) * Int32.ofInt ((3 : Nat) : Int)) &&& 0x3f).toInt64.toUInt64).toInt64
    rw [e] at u
    have k : 2 ^ 21 = 128 ^ 3 := by decide
    rw [k] at u
    omega
  | 4, _ =>
    have e := own_sh v 28 ((7 : Int32) * Int32.ofInt ((4 : Nat) : Int)) (by decide) (by decide)
    have u := own_Ui (v.toUInt64 >>> (((7 : Int32) * Int32.ofInt ((4 : Nat) : Int)) &&& 0x3f).toInt64.toUInt64).toInt64
    rw [e] at u
    have k : 2 ^ 28 = 128 ^ 4 := by decide
    rw [k] at u
    omega
  | 5, _ =>
    have e := own_sh v 35 ((7 : Int32) * Int32.ofInt ((5 : Nat) : Int)) (by decide) (by decide)
    have u := own_Ui (v.toUInt64 >>> (((7 : Int32) * Int32.ofInt ((5 : Nat) : Int)) &&& 0x3f).toInt64.toUInt64).toInt64
    rw [e] at u
    have k : 2 ^ 35 = 128 ^ 5 := by decide
    rw [k] at u
    omega
  | 6, _ =>
    have e := own_sh v 42 ((7 : Int32) * Int32.ofInt ((6 : Nat) : Int)) (by decide) (by decide)
    have u := own_Ui (v.toUInt64 >>> (((7 : Int32) * Int32.ofInt ((6 : Nat) : Int)) &&& 0x3f).toInt64.toUInt64).toInt64
    rw [e] at u
    have k : 2 ^ 42 = 128 ^ 6 := by decide
    rw [k] at u
    omega
  | 7, _ =>
    have e := own_sh v 49 ((7 : Int32) * Int32.ofInt ((7 : Nat) : Int)) (by decide) (by decide)
    have u := own_Ui (v.toUInt64 >>> (((7 : Int32) * Int32.ofInt ((7 : Nat) : Int)) &&& 0x3f).toInt64.toUInt64).toInt64
    rw [e] at u
    have k : 2 ^ 49 = 128 ^ 7 := by decide
    rw [k] at u
    omega
  | 8, _ =>
    have e := own_sh v 56 ((7 : Int32) * Int32.ofInt ((8 : Nat) : Int)) (by decide) (by decide)
    have u := own_Ui (v.toUInt64 >>> (((7 : Int32) * Int32.ofInt ((8 : Nat) : Int)) &&& 0x3f).toInt64.toUInt64).toInt64
    rw [e] at u
    have k : 2 ^ 56 = 128 ^ 8 := by decide
    rw [k] at u
    omega
  | 9, _ =>
    have e := own_sh v 63 ((7 : Int32) * Int32.ofInt ((9 : Nat) : Int)) (by decide) (by decide)
    have u := own_Ui (v.toUInt64 >>> (((7 : Int32) * Int32.ofInt ((9 : Nat) : Int)) &&& 0x3f).toInt64.toUInt64).toInt64
    rw [e] at u
    have k : 2 ^ 63 = 128 ^ 9 := by decide
    rw [k] at u
    omega
  | n + 10, h => omega


theorem own_exp1 (X : Int64) (m : Nat) (h : X.toInt % 128 = (m : Int)) (hm : m < 128) : ((X &&& 127).toInt32 ||| 128).toInt8.toInt32 = Int32.ofInt ((m : Int) - 128) := by
  have a := c_maskL X 127 7 (by decide) (by decide)
  have b := c_l2i (X &&& 127)
  have r := rng32 (X &&& 127).toInt32
  have k : (128 : Int32).toInt = 128 := by decide
  have o := c_or' (X &&& 127).toInt32 128 7 (by decide) 128 (by decide) (by rw [k]; decide) (by omega) (by omega)
  have r2 := rng32 ((X &&& 127).toInt32 ||| 128)
  have c := c_i2b ((X &&& 127).toInt32 ||| 128)
  rw [← Int32.toInt_inj, Int32.toInt_ofInt]
  have e : (((m : Int) - 128).bmod (2 ^ 32)) = (m : Int) - 128 := Int.bmod_eq_of_le (by omega) (by omega)
  have e' : (((m : Int) - 128).bmod (Int32.size)) = (m : Int) - 128 := e
  first | rw [e] | rw [e']
  rw [k] at o
  omega
theorem own_exp2 (X : Int64) (m : Nat) (h : X.toInt % 128 = (m : Int)) (hm : m < 128) : (X &&& 127).toInt32.toInt8.toInt32 = Int32.ofInt (m : Int) := by
  have a := c_maskL X 127 7 (by decide) (by decide)
  have b := c_l2i (X &&& 127)
  have r := rng32 (X &&& 127).toInt32
  have c := c_i2b (X &&& 127).toInt32
  rw [← Int32.toInt_inj, Int32.toInt_ofInt]
  have e : (((m : Int)).bmod (2 ^ 32)) = (m : Int) := Int.bmod_eq_of_le (by omega) (by omega)
  have e' : (((m : Int)).bmod (Int32.size)) = (m : Int) := e
  first | rw [e] | rw [e']
  omega
theorem own_sz (v : Int64) : 1 ≤ own_size (own_U v) ∧ own_size (own_U v) ≤ 10 ∧ own_U v / 128 ^ (own_size (own_U v) - 1) < 128 := by
  have h := own_lt v
  unfold own_size
  repeat' split
  all_goals (refine ⟨by decide, by decide, ?_⟩; simp only [Nat.reduceSub, Nat.reducePow, Nat.pow_zero, Nat.div_one]; omega)
theorem own_fok (k off sz s : Int32) (v : Int64) (kn : Nat) (hkn : k.toInt = (kn : Int)) (hk : kn < 14) (h0 : 0 ≤ off.toInt) (h3 : off.toInt ≤ 3) (hz : sz.toInt = own_size (own_U v)) : f_ok (own_W off.toInt.toNat (own_U v) s (own_size (own_U v) - 1) kn) k off sz v s = 1 := by
  have hs := own_sz v
  have d := c_isub k off
  have r := rng32 (k - off)
  have d1 := c_isub sz 1
  have r1 := rng32 (sz - 1)
  have k1 : (1 : Int32).toInt = 1 := by decide
  have k0 : (0 : Int32).toInt = 0 := by decide
  rw [k1] at d1
  have e : (k - off).toInt = k.toInt - off.toInt := by omega
  have e1 : (sz - 1).toInt = sz.toInt - 1 := by omega
  generalize own_size (own_U v) = n at hs hz ⊢
  unfold f_ok
  simp only [Int32.lt_iff_toInt_lt, k0, e, e1]
  by_cases c1 : k.toInt - off.toInt < 0
  · rw [if_pos c1, if_pos]
    unfold own_W own_P
    rw [if_neg (by omega), if_neg (by omega)]
  · rw [if_neg c1]
    by_cases c2 : k.toInt - off.toInt < sz.toInt
    · rw [if_pos c2]
      obtain ⟨i, hi⟩ : ∃ i : Nat, (k.toInt - off.toInt) = (i : Int) := ⟨(k.toInt - off.toInt).toNat, by omega⟩
      have hki : k - off = Int32.ofInt (i : Int) := by rw [← hi, ← e, Int32.ofInt_toInt]
      have hl := own_low v (k - off) i hki (by omega)
      have hm : own_U v / 128 ^ i % 128 < 128 := Nat.mod_lt _ (by decide)
      by_cases c3 : k.toInt - off.toInt < sz.toInt - 1
      · rw [if_pos c3, if_pos]
        rw [own_exp1 _ _ hl hm]
        unfold own_W own_P
        rw [if_neg (by omega), if_pos (by omega), show kn - off.toInt.toNat = i from by omega]
        rfl
      · rw [if_neg c3, if_pos]
        rw [own_exp2 _ _ hl hm]
        unfold own_W
        have ei : i = n - 1 := by omega
        rw [if_pos (by omega), ← ei]
        rw [← ei] at hs
        rw [Nat.mod_eq_of_lt hs.2.2]
    · rw [if_neg c2, if_pos]
      unfold own_W own_P
      rw [if_neg (by omega), if_neg (by omega)]
theorem own_idem (x v : Int32) (h : v = x.toInt8.toInt32) : v.toInt8.toInt32 = v := by
  subst h
  rw [← Int32.toInt_inj]
  have a := c_i2b x
  have b := c_i2b x.toInt8.toInt32
  omega
theorem own_off (x : Int32) : 0 ≤ (x &&& 3).toInt ∧ (x &&& 3).toInt ≤ 3 := by
  have e : (x &&& 3).toInt = x.toInt % (2 ^ 2 : Nat) := c_mask x 3 2 (by decide) (by decide)
  rw [e]; omega
theorem own_all (v : Value) : ∀ j, j < 14 → [v, v, v, v, v, v, v, v, v, v, v, v, v, v][j]? = some v := by
  intro j hj
  match j, hj with
  | 0, _ => rfl
  | 1, _ => rfl
  | 2, _ => rfl
  | 3, _ => rfl
  | 4, _ => rfl
  | 5, _ => rfl
  | 6, _ => rfl
  | 7, _ => rfl
  | 8, _ => rfl
  | 9, _ => rfl
  | 10, _ => rfl
  | 11, _ => rfl
  | 12, _ => rfl
  | 13, _ => rfl
  | n + 14, h => omega

set_option maxRecDepth 65536 in
set_option maxHeartbeats 40000000 in
theorem law (l : Launch) (Z : State) (a0 : Array Value) (hw : Hw a0 Z) (x1 : Int64) (x2 x3 : Int32) (h0 : Heap) (n0 : Nat) (Z0 : n0 ≤ h0.size)  :
    Met l Z x code maxLocals ret tables_1 room_1 #[(.long x1), (.int x2), (.int x3)] h0 n0 (RetI (fun z h => z = 1)) := by
  refine Met.intro pn0 (own := "com/example/dewk/dewk/index/IndexFormatPutVarintPinLaw") rfl (nm := "law") rfl (fun m => ef0 m x1 x2 x3) ?_
  intro p e s m below meth c C
  refine s_iloadN C at_0 (pc' := 1) rfl rfl ?_
  refine s_iconst C at_1 (pc' := 2) rfl (3 : Int32) rfl ?_
  refine s_iand C at_2 (pc' := 3) rfl ?_
  refine s_istore C at_3 (pc' := 5) rfl (fun y => #[.val (.long x1), .second, .val (.int x2), .val (.int x3), .val (.int y), .unset, .unset, .unset, .unset]) (fun _ => rfl) (fun v1 hv1 => ?_)
  refine s_iloadN C at_5 (pc' := 6) rfl rfl ?_
  refine s_i2b C at_6 (pc' := 7) rfl ?_
  refine s_istore C at_7 (pc' := 9) rfl (fun y => #[.val (.long x1), .second, .val (.int x2), .val (.int x3), .val (.int v1), .val (.int y), .unset, .unset, .unset]) (fun _ => rfl) (fun v2 hv2 => ?_)
  refine s_bipush C at_9 (pc' := 11) rfl (14 : Int32) rfl ?_
  refine s_newarr C (cap := 14) at_11 (pc' := 13) rfl (w0 hw) (by decide) (by decide) (by decide) (k' := 1) rfl (by decide) (n' := 14) rfl (by decide) [(.int (0 : Int32)), (.int (0 : Int32)), (.int (0 : Int32)), (.int (0 : Int32)), (.int (0 : Int32)), (.int (0 : Int32)), (.int (0 : Int32)), (.int (0 : Int32)), (.int (0 : Int32)), (.int (0 : Int32)), (.int (0 : Int32)), (.int (0 : Int32)), (.int (0 : Int32)), (.int (0 : Int32))] rfl (fun h3 a3 E3 g3 A3 => ?_)
  have gn4 : n0 ≤ a3 := by rw [g3]; exact Z0
  have sz5 : n0 ≤ h3.size := (Nat.le_trans Z0 E3.1)
  refine s_dup C at_13 (pc' := 14) rfl rfl ?_
  refine s_iconst C at_14 (pc' := 15) rfl (0 : Int32) rfl ?_
  refine s_iload C at_15 (pc' := 17) rfl rfl ?_
  refine s_bastore C at_17 (pc' := 18) rfl A3 0 (by decide) (Nat.le_of_ble_eq_true rfl) gn4 [(.int v2.toInt8.toInt32), (.int (0 : Int32)), (.int (0 : Int32)), (.int (0 : Int32)), (.int (0 : Int32)), (.int (0 : Int32)), (.int (0 : Int32)), (.int (0 : Int32)), (.int (0 : Int32)), (.int (0 : Int32)), (.int (0 : Int32)), (.int (0 : Int32)), (.int (0 : Int32)), (.int (0 : Int32))] rfl (fun h6 W6 A6 => ?_)
  have sz7 : n0 ≤ h6.size := (Nat.le_trans sz5 (Nat.le_of_eq W6.size.symm))
  refine s_dup C at_18 (pc' := 19) rfl rfl ?_
  refine s_iconst C at_19 (pc' := 20) rfl (1 : Int32) rfl ?_
  refine s_iload C at_20 (pc' := 22) rfl rfl ?_
  refine s_bastore C at_22 (pc' := 23) rfl A6 1 (by decide) (Nat.le_of_ble_eq_true rfl) gn4 [(.int v2.toInt8.toInt32), (.int v2.toInt8.toInt32), (.int (0 : Int32)), (.int (0 : Int32)), (.int (0 : Int32)), (.int (0 : Int32)), (.int (0 : Int32)), (.int (0 : Int32)), (.int (0 : Int32)), (.int (0 : Int32)), (.int (0 : Int32)), (.int (0 : Int32)), (.int (0 : Int32)), (.int (0 : Int32))] rfl (fun h8 W8 A8 => ?_)
  have sz9 : n0 ≤ h8.size := (Nat.le_trans sz7 (Nat.le_of_eq W8.size.symm))
  refine s_dup C at_23 (pc' := 24) rfl rfl ?_
  refine s_iconst C at_24 (pc' := 25) rfl (2 : Int32) rfl ?_
  refine s_iload C at_25 (pc' := 27) rfl rfl ?_
  refine s_bastore C at_27 (pc' := 28) rfl A8 2 (by decide) (Nat.le_of_ble_eq_true rfl) gn4 [(.int v2.toInt8.toInt32), (.int v2.toInt8.toInt32), (.int v2.toInt8.toInt32), (.int (0 : Int32)), (.int (0 : Int32)), (.int (0 : Int32)), (.int (0 : Int32)), (.int (0 : Int32)), (.int (0 : Int32)), (.int (0 : Int32)), (.int (0 : Int32)), (.int (0 : Int32)), (.int (0 : Int32)), (.int (0 : Int32))] rfl (fun h10 W10 A10 => ?_)
  have sz11 : n0 ≤ h10.size := (Nat.le_trans sz9 (Nat.le_of_eq W10.size.symm))
  refine s_dup C at_28 (pc' := 29) rfl rfl ?_
  refine s_iconst C at_29 (pc' := 30) rfl (3 : Int32) rfl ?_
  refine s_iload C at_30 (pc' := 32) rfl rfl ?_
  refine s_bastore C at_32 (pc' := 33) rfl A10 3 (by decide) (Nat.le_of_ble_eq_true rfl) gn4 [(.int v2.toInt8.toInt32), (.int v2.toInt8.toInt32), (.int v2.toInt8.toInt32), (.int v2.toInt8.toInt32), (.int (0 : Int32)), (.int (0 : Int32)), (.int (0 : Int32)), (.int (0 : Int32)), (.int (0 : Int32)), (.int (0 : Int32)), (.int (0 : Int32)), (.int (0 : Int32)), (.int (0 : Int32)), (.int (0 : Int32))] rfl (fun h12 W12 A12 => ?_)
  have sz13 : n0 ≤ h12.size := (Nat.le_trans sz11 (Nat.le_of_eq W12.size.symm))
  refine s_dup C at_33 (pc' := 34) rfl rfl ?_
  refine s_iconst C at_34 (pc' := 35) rfl (4 : Int32) rfl ?_
  refine s_iload C at_35 (pc' := 37) rfl rfl ?_
  refine s_bastore C at_37 (pc' := 38) rfl A12 4 (by decide) (Nat.le_of_ble_eq_true rfl) gn4 [(.int v2.toInt8.toInt32), (.int v2.toInt8.toInt32), (.int v2.toInt8.toInt32), (.int v2.toInt8.toInt32), (.int v2.toInt8.toInt32), (.int (0 : Int32)), (.int (0 : Int32)), (.int (0 : Int32)), (.int (0 : Int32)), (.int (0 : Int32)), (.int (0 : Int32)), (.int (0 : Int32)), (.int (0 : Int32)), (.int (0 : Int32))] rfl (fun h14 W14 A14 => ?_)
  have sz15 : n0 ≤ h14.size := (Nat.le_trans sz13 (Nat.le_of_eq W14.size.symm))
  refine s_dup C at_38 (pc' := 39) rfl rfl ?_
  refine s_iconst C at_39 (pc' := 40) rfl (5 : Int32) rfl ?_
  refine s_iload C at_40 (pc' := 42) rfl rfl ?_
  refine s_bastore C at_42 (pc' := 43) rfl A14 5 (by decide) (Nat.le_of_ble_eq_true rfl) gn4 [(.int v2.toInt8.toInt32), (.int v2.toInt8.toInt32), (.int v2.toInt8.toInt32), (.int v2.toInt8.toInt32), (.int v2.toInt8.toInt32), (.int v2.toInt8.toInt32), (.int (0 : Int32)), (.int (0 : Int32)), (.int (0 : Int32)), (.int (0 : Int32)), (.int (0 : Int32)), (.int (0 : Int32)), (.int (0 : Int32)), (.int (0 : Int32))] rfl (fun h16 W16 A16 => ?_)
  have sz17 : n0 ≤ h16.size := (Nat.le_trans sz15 (Nat.le_of_eq W16.size.symm))
  refine s_dup C at_43 (pc' := 44) rfl rfl ?_
  refine s_bipush C at_44 (pc' := 46) rfl (6 : Int32) rfl ?_
  refine s_iload C at_46 (pc' := 48) rfl rfl ?_
  refine s_bastore C at_48 (pc' := 49) rfl A16 6 (by decide) (Nat.le_of_ble_eq_true rfl) gn4 [(.int v2.toInt8.toInt32), (.int v2.toInt8.toInt32), (.int v2.toInt8.toInt32), (.int v2.toInt8.toInt32), (.int v2.toInt8.toInt32), (.int v2.toInt8.toInt32), (.int v2.toInt8.toInt32), (.int (0 : Int32)), (.int (0 : Int32)), (.int (0 : Int32)), (.int (0 : Int32)), (.int (0 : Int32)), (.int (0 : Int32)), (.int (0 : Int32))] rfl (fun h18 W18 A18 => ?_)
  have sz19 : n0 ≤ h18.size := (Nat.le_trans sz17 (Nat.le_of_eq W18.size.symm))
  refine s_dup C at_49 (pc' := 50) rfl rfl ?_
  refine s_bipush C at_50 (pc' := 52) rfl (7 : Int32) rfl ?_
  refine s_iload C at_52 (pc' := 54) rfl rfl ?_
  refine s_bastore C at_54 (pc' := 55) rfl A18 7 (by decide) (Nat.le_of_ble_eq_true rfl) gn4 [(.int v2.toInt8.toInt32), (.int v2.toInt8.toInt32), (.int v2.toInt8.toInt32), (.int v2.toInt8.toInt32), (.int v2.toInt8.toInt32), (.int v2.toInt8.toInt32), (.int v2.toInt8.toInt32), (.int v2.toInt8.toInt32), (.int (0 : Int32)), (.int (0 : Int32)), (.int (0 : Int32)), (.int (0 : Int32)), (.int (0 : Int32)), (.int (0 : Int32))] rfl (fun h20 W20 A20 => ?_)
  have sz21 : n0 ≤ h20.size := (Nat.le_trans sz19 (Nat.le_of_eq W20.size.symm))
  refine s_dup C at_55 (pc' := 56) rfl rfl ?_
  refine s_bipush C at_56 (pc' := 58) rfl (8 : Int32) rfl ?_
  refine s_iload C at_58 (pc' := 60) rfl rfl ?_
  refine s_bastore C at_60 (pc' := 61) rfl A20 8 (by decide) (Nat.le_of_ble_eq_true rfl) gn4 [(.int v2.toInt8.toInt32), (.int v2.toInt8.toInt32), (.int v2.toInt8.toInt32), (.int v2.toInt8.toInt32), (.int v2.toInt8.toInt32), (.int v2.toInt8.toInt32), (.int v2.toInt8.toInt32), (.int v2.toInt8.toInt32), (.int v2.toInt8.toInt32), (.int (0 : Int32)), (.int (0 : Int32)), (.int (0 : Int32)), (.int (0 : Int32)), (.int (0 : Int32))] rfl (fun h22 W22 A22 => ?_)
  have sz23 : n0 ≤ h22.size := (Nat.le_trans sz21 (Nat.le_of_eq W22.size.symm))
  refine s_dup C at_61 (pc' := 62) rfl rfl ?_
  refine s_bipush C at_62 (pc' := 64) rfl (9 : Int32) rfl ?_
  refine s_iload C at_64 (pc' := 66) rfl rfl ?_
  refine s_bastore C at_66 (pc' := 67) rfl A22 9 (by decide) (Nat.le_of_ble_eq_true rfl) gn4 [(.int v2.toInt8.toInt32), (.int v2.toInt8.toInt32), (.int v2.toInt8.toInt32), (.int v2.toInt8.toInt32), (.int v2.toInt8.toInt32), (.int v2.toInt8.toInt32), (.int v2.toInt8.toInt32), (.int v2.toInt8.toInt32), (.int v2.toInt8.toInt32), (.int v2.toInt8.toInt32), (.int (0 : Int32)), (.int (0 : Int32)), (.int (0 : Int32)), (.int (0 : Int32))] rfl (fun h24 W24 A24 => ?_)
  have sz25 : n0 ≤ h24.size := (Nat.le_trans sz23 (Nat.le_of_eq W24.size.symm))
  refine s_dup C at_67 (pc' := 68) rfl rfl ?_
  refine s_bipush C at_68 (pc' := 70) rfl (10 : Int32) rfl ?_
  refine s_iload C at_70 (pc' := 72) rfl rfl ?_
  refine s_bastore C at_72 (pc' := 73) rfl A24 10 (by decide) (Nat.le_of_ble_eq_true rfl) gn4 [(.int v2.toInt8.toInt32), (.int v2.toInt8.toInt32), (.int v2.toInt8.toInt32), (.int v2.toInt8.toInt32), (.int v2.toInt8.toInt32), (.int v2.toInt8.toInt32), (.int v2.toInt8.toInt32), (.int v2.toInt8.toInt32), (.int v2.toInt8.toInt32), (.int v2.toInt8.toInt32), (.int v2.toInt8.toInt32), (.int (0 : Int32)), (.int (0 : Int32)), (.int (0 : Int32))] rfl (fun h26 W26 A26 => ?_)
  have sz27 : n0 ≤ h26.size := (Nat.le_trans sz25 (Nat.le_of_eq W26.size.symm))
  refine s_dup C at_73 (pc' := 74) rfl rfl ?_
  refine s_bipush C at_74 (pc' := 76) rfl (11 : Int32) rfl ?_
  refine s_iload C at_76 (pc' := 78) rfl rfl ?_
  refine s_bastore C at_78 (pc' := 79) rfl A26 11 (by decide) (Nat.le_of_ble_eq_true rfl) gn4 [(.int v2.toInt8.toInt32), (.int v2.toInt8.toInt32), (.int v2.toInt8.toInt32), (.int v2.toInt8.toInt32), (.int v2.toInt8.toInt32), (.int v2.toInt8.toInt32), (.int v2.toInt8.toInt32), (.int v2.toInt8.toInt32), (.int v2.toInt8.toInt32), (.int v2.toInt8.toInt32), (.int v2.toInt8.toInt32), (.int v2.toInt8.toInt32), (.int (0 : Int32)), (.int (0 : Int32))] rfl (fun h28 W28 A28 => ?_)
  have sz29 : n0 ≤ h28.size := (Nat.le_trans sz27 (Nat.le_of_eq W28.size.symm))
  refine s_dup C at_79 (pc' := 80) rfl rfl ?_
  refine s_bipush C at_80 (pc' := 82) rfl (12 : Int32) rfl ?_
  refine s_iload C at_82 (pc' := 84) rfl rfl ?_
  refine s_bastore C at_84 (pc' := 85) rfl A28 12 (by decide) (Nat.le_of_ble_eq_true rfl) gn4 [(.int v2.toInt8.toInt32), (.int v2.toInt8.toInt32), (.int v2.toInt8.toInt32), (.int v2.toInt8.toInt32), (.int v2.toInt8.toInt32), (.int v2.toInt8.toInt32), (.int v2.toInt8.toInt32), (.int v2.toInt8.toInt32), (.int v2.toInt8.toInt32), (.int v2.toInt8.toInt32), (.int v2.toInt8.toInt32), (.int v2.toInt8.toInt32), (.int v2.toInt8.toInt32), (.int (0 : Int32))] rfl (fun h30 W30 A30 => ?_)
  have sz31 : n0 ≤ h30.size := (Nat.le_trans sz29 (Nat.le_of_eq W30.size.symm))
  refine s_dup C at_85 (pc' := 86) rfl rfl ?_
  refine s_bipush C at_86 (pc' := 88) rfl (13 : Int32) rfl ?_
  refine s_iload C at_88 (pc' := 90) rfl rfl ?_
  refine s_bastore C at_90 (pc' := 91) rfl A30 13 (by decide) (Nat.le_of_ble_eq_true rfl) gn4 [(.int v2.toInt8.toInt32), (.int v2.toInt8.toInt32), (.int v2.toInt8.toInt32), (.int v2.toInt8.toInt32), (.int v2.toInt8.toInt32), (.int v2.toInt8.toInt32), (.int v2.toInt8.toInt32), (.int v2.toInt8.toInt32), (.int v2.toInt8.toInt32), (.int v2.toInt8.toInt32), (.int v2.toInt8.toInt32), (.int v2.toInt8.toInt32), (.int v2.toInt8.toInt32), (.int v2.toInt8.toInt32)] rfl (fun h32 W32 A32 => ?_)
  have sz33 : n0 ≤ h32.size := (Nat.le_trans sz31 (Nat.le_of_eq W32.size.symm))
  refine s_astore C at_91 (pc' := 93) rfl rfl #[.val (.long x1), .second, .val (.int x2), .val (.int x3), .val (.int v1), .val (.int v2), .val (.ref a3), .unset, .unset] rfl ?_
  refine s_aload C at_93 (pc' := 95) rfl rfl rfl ?_
  refine s_iload C at_95 (pc' := 97) rfl rfl ?_
  refine s_lloadN C at_97 (pc' := 98) rfl rfl ?_
  have hid := own_idem _ v2 hv2
  have ho : 0 ≤ v1.toInt ∧ v1.toInt ≤ 3 := by rw [hv1]; exact own_off _
  rw [hid] at A32
  refine s_callSI C at_98 (pc' := 101) rfl (w1 hw) (w2 hw) (w3 hw) (w4 hw) (by decide) [(.ref a3), (.int v1), (.long x1)] [] pd2 rfl rfl (c_put l Z a0 hw a3 v1 x1 v2 _ h32 n0 sz33 gn4 A32 rfl (own_all _) ho.1 ho.2) rfl (W := 0) rfl (by decide) (by decide) (k' := 1) rfl (by decide) (n' := 14) rfl (by decide) (fun z34 h34 q34 => ?_)
  obtain ⟨K34, hz34, vs34, A34, hl34, hv34⟩ := q34
  have sz35 : n0 ≤ h34.size := (Nat.le_trans sz33 K34.1)
  refine s_istoreP C at_101 (pc' := 103) rfl #[.val (.long x1), .second, .val (.int x2), .val (.int x3), .val (.int v1), .val (.int v2), .val (.ref a3), .val (.int z34), .unset] rfl ?_
  refine s_lloadN C at_103 (pc' := 104) rfl rfl ?_
  refine s_callSI C at_104 (pc' := 107) rfl (w6 hw) (w7 hw) (w8 hw) (w9 hw) (by decide) [(.long x1)] [] pd0 rfl rfl (c_es l Z a0 hw x1 h34 n0 sz35 ) rfl (W := 0) rfl (by decide) (by decide) (k' := 1) rfl (by decide) (n' := 14) rfl (by decide) (fun r36 _ qr36 => ?_)
  obtain ⟨rfl, rfl⟩ := qr36
  refine s_istore C at_107 (pc' := 109) rfl (fun y => #[.val (.long x1), .second, .val (.int x2), .val (.int x3), .val (.int v1), .val (.int v2), .val (.ref a3), .val (.int z34), .val (.int y)]) (fun _ => rfl) (fun v37 hv37 => ?_)
  refine s_iload C at_109 (pc' := 111) rfl rfl ?_
  refine s_iload C at_111 (pc' := 113) rfl rfl ?_
  refine s_iload C at_113 (pc' := 115) rfl rfl ?_
  refine s_iadd C at_115 (pc' := 116) rfl ?_
  refine s_icmp_eq C at_116 (pc' := 119) rfl (pcY := 121) rfl (fun c38 => ?_) (fun hc => by exfalso; exact hc (by rw [← Int32.toInt_inj]; have q := c_iadd v1 v37; have r := rng32 (v1 + v37); have e := own_es x1; rw [← hv37] at e; have g := own_sz x1; omega))
  refine s_aload C at_121 (pc' := 123) rfl rfl rfl ?_
  refine s_iconst C at_123 (pc' := 124) rfl (0 : Int32) rfl ?_
  refine s_iload C at_124 (pc' := 126) rfl rfl ?_
  refine s_iload C at_126 (pc' := 128) rfl rfl ?_
  refine s_lloadN C at_128 (pc' := 129) rfl rfl ?_
  refine s_iload C at_129 (pc' := 131) rfl rfl ?_
  refine s_callSI C at_131 (pc' := 134) rfl (w10 hw) (w11 hw) (w8 hw) (w12 hw) (by decide) [(.ref a3), (.int (0 : Int32)), (.int v1), (.int v37), (.long x1), (.int v2)] [] pd1 rfl rfl (c_ok l Z a0 hw a3 _ (0 : Int32) v1 v37 x1 v2 h34 n0 sz35 vs34 0 A34 (by decide) (hv34 0 (by decide))) rfl (W := 0) rfl (by decide) (by decide) (k' := 1) rfl (by decide) (n' := 14) rfl (by decide) (fun _ _ q39 => ?_)
  obtain ⟨rfl, rfl⟩ := q39
  refine s_if_eq C at_134 (pc' := 137) rfl (pcY := 357) rfl (fun hc => by exfalso; rw [own_fok _ _ _ _ _ _ (by decide) (by decide) ho.1 ho.2 (by rw [hv37]; exact own_es _)] at hc; revert hc; decide) (fun c40 => ?_)
  refine s_aload C at_137 (pc' := 139) rfl rfl rfl ?_
  refine s_iconst C at_139 (pc' := 140) rfl (1 : Int32) rfl ?_
  refine s_iload C at_140 (pc' := 142) rfl rfl ?_
  refine s_iload C at_142 (pc' := 144) rfl rfl ?_
  refine s_lloadN C at_144 (pc' := 145) rfl rfl ?_
  refine s_iload C at_145 (pc' := 147) rfl rfl ?_
  refine s_callSI C at_147 (pc' := 150) rfl (w10 hw) (w11 hw) (w8 hw) (w12 hw) (by decide) [(.ref a3), (.int (1 : Int32)), (.int v1), (.int v37), (.long x1), (.int v2)] [] pd1 rfl rfl (c_ok l Z a0 hw a3 _ (1 : Int32) v1 v37 x1 v2 h34 n0 sz35 vs34 1 A34 (by decide) (hv34 1 (by decide))) rfl (W := 0) rfl (by decide) (by decide) (k' := 1) rfl (by decide) (n' := 14) rfl (by decide) (fun _ _ q41 => ?_)
  obtain ⟨rfl, rfl⟩ := q41
  refine s_if_eq C at_150 (pc' := 153) rfl (pcY := 357) rfl (fun hc => by exfalso; rw [own_fok _ _ _ _ _ _ (by decide) (by decide) ho.1 ho.2 (by rw [hv37]; exact own_es _)] at hc; revert hc; decide) (fun c42 => ?_)
  refine s_aload C at_153 (pc' := 155) rfl rfl rfl ?_
  refine s_iconst C at_155 (pc' := 156) rfl (2 : Int32) rfl ?_
  refine s_iload C at_156 (pc' := 158) rfl rfl ?_
  refine s_iload C at_158 (pc' := 160) rfl rfl ?_
  refine s_lloadN C at_160 (pc' := 161) rfl rfl ?_
  refine s_iload C at_161 (pc' := 163) rfl rfl ?_
  refine s_callSI C at_163 (pc' := 166) rfl (w10 hw) (w11 hw) (w8 hw) (w12 hw) (by decide) [(.ref a3), (.int (2 : Int32)), (.int v1), (.int v37), (.long x1), (.int v2)] [] pd1 rfl rfl (c_ok l Z a0 hw a3 _ (2 : Int32) v1 v37 x1 v2 h34 n0 sz35 vs34 2 A34 (by decide) (hv34 2 (by decide))) rfl (W := 0) rfl (by decide) (by decide) (k' := 1) rfl (by decide) (n' := 14) rfl (by decide) (fun _ _ q43 => ?_)
  obtain ⟨rfl, rfl⟩ := q43
  refine s_if_eq C at_166 (pc' := 169) rfl (pcY := 357) rfl (fun hc => by exfalso; rw [own_fok _ _ _ _ _ _ (by decide) (by decide) ho.1 ho.2 (by rw [hv37]; exact own_es _)] at hc; revert hc; decide) (fun c44 => ?_)
  refine s_aload C at_169 (pc' := 171) rfl rfl rfl ?_
  refine s_iconst C at_171 (pc' := 172) rfl (3 : Int32) rfl ?_
  refine s_iload C at_172 (pc' := 174) rfl rfl ?_
  refine s_iload C at_174 (pc' := 176) rfl rfl ?_
  refine s_lloadN C at_176 (pc' := 177) rfl rfl ?_
  refine s_iload C at_177 (pc' := 179) rfl rfl ?_
  refine s_callSI C at_179 (pc' := 182) rfl (w10 hw) (w11 hw) (w8 hw) (w12 hw) (by decide) [(.ref a3), (.int (3 : Int32)), (.int v1), (.int v37), (.long x1), (.int v2)] [] pd1 rfl rfl (c_ok l Z a0 hw a3 _ (3 : Int32) v1 v37 x1 v2 h34 n0 sz35 vs34 3 A34 (by decide) (hv34 3 (by decide))) rfl (W := 0) rfl (by decide) (by decide) (k' := 1) rfl (by decide) (n' := 14) rfl (by decide) (fun _ _ q45 => ?_)
  obtain ⟨rfl, rfl⟩ := q45
  refine s_if_eq C at_182 (pc' := 185) rfl (pcY := 357) rfl (fun hc => by exfalso; rw [own_fok _ _ _ _ _ _ (by decide) (by decide) ho.1 ho.2 (by rw [hv37]; exact own_es _)] at hc; revert hc; decide) (fun c46 => ?_)
  refine s_aload C at_185 (pc' := 187) rfl rfl rfl ?_
  refine s_iconst C at_187 (pc' := 188) rfl (4 : Int32) rfl ?_
  refine s_iload C at_188 (pc' := 190) rfl rfl ?_
  refine s_iload C at_190 (pc' := 192) rfl rfl ?_
  refine s_lloadN C at_192 (pc' := 193) rfl rfl ?_
  refine s_iload C at_193 (pc' := 195) rfl rfl ?_
  refine s_callSI C at_195 (pc' := 198) rfl (w10 hw) (w11 hw) (w8 hw) (w12 hw) (by decide) [(.ref a3), (.int (4 : Int32)), (.int v1), (.int v37), (.long x1), (.int v2)] [] pd1 rfl rfl (c_ok l Z a0 hw a3 _ (4 : Int32) v1 v37 x1 v2 h34 n0 sz35 vs34 4 A34 (by decide) (hv34 4 (by decide))) rfl (W := 0) rfl (by decide) (by decide) (k' := 1) rfl (by decide) (n' := 14) rfl (by decide) (fun _ _ q47 => ?_)
  obtain ⟨rfl, rfl⟩ := q47
  refine s_if_eq C at_198 (pc' := 201) rfl (pcY := 357) rfl (fun hc => by exfalso; rw [own_fok _ _ _ _ _ _ (by decide) (by decide) ho.1 ho.2 (by rw [hv37]; exact own_es _)] at hc; revert hc; decide) (fun c48 => ?_)
  refine s_aload C at_201 (pc' := 203) rfl rfl rfl ?_
  refine s_iconst C at_203 (pc' := 204) rfl (5 : Int32) rfl ?_
  refine s_iload C at_204 (pc' := 206) rfl rfl ?_
  refine s_iload C at_206 (pc' := 208) rfl rfl ?_
  refine s_lloadN C at_208 (pc' := 209) rfl rfl ?_
  refine s_iload C at_209 (pc' := 211) rfl rfl ?_
  refine s_callSI C at_211 (pc' := 214) rfl (w10 hw) (w11 hw) (w8 hw) (w12 hw) (by decide) [(.ref a3), (.int (5 : Int32)), (.int v1), (.int v37), (.long x1), (.int v2)] [] pd1 rfl rfl (c_ok l Z a0 hw a3 _ (5 : Int32) v1 v37 x1 v2 h34 n0 sz35 vs34 5 A34 (by decide) (hv34 5 (by decide))) rfl (W := 0) rfl (by decide) (by decide) (k' := 1) rfl (by decide) (n' := 14) rfl (by decide) (fun _ _ q49 => ?_)
  obtain ⟨rfl, rfl⟩ := q49
  refine s_if_eq C at_214 (pc' := 217) rfl (pcY := 357) rfl (fun hc => by exfalso; rw [own_fok _ _ _ _ _ _ (by decide) (by decide) ho.1 ho.2 (by rw [hv37]; exact own_es _)] at hc; revert hc; decide) (fun c50 => ?_)
  refine s_aload C at_217 (pc' := 219) rfl rfl rfl ?_
  refine s_bipush C at_219 (pc' := 221) rfl (6 : Int32) rfl ?_
  refine s_iload C at_221 (pc' := 223) rfl rfl ?_
  refine s_iload C at_223 (pc' := 225) rfl rfl ?_
  refine s_lloadN C at_225 (pc' := 226) rfl rfl ?_
  refine s_iload C at_226 (pc' := 228) rfl rfl ?_
  refine s_callSI C at_228 (pc' := 231) rfl (w10 hw) (w11 hw) (w8 hw) (w12 hw) (by decide) [(.ref a3), (.int (6 : Int32)), (.int v1), (.int v37), (.long x1), (.int v2)] [] pd1 rfl rfl (c_ok l Z a0 hw a3 _ (6 : Int32) v1 v37 x1 v2 h34 n0 sz35 vs34 6 A34 (by decide) (hv34 6 (by decide))) rfl (W := 0) rfl (by decide) (by decide) (k' := 1) rfl (by decide) (n' := 14) rfl (by decide) (fun _ _ q51 => ?_)
  obtain ⟨rfl, rfl⟩ := q51
  refine s_if_eq C at_231 (pc' := 234) rfl (pcY := 357) rfl (fun hc => by exfalso; rw [own_fok _ _ _ _ _ _ (by decide) (by decide) ho.1 ho.2 (by rw [hv37]; exact own_es _)] at hc; revert hc; decide) (fun c52 => ?_)
  refine s_aload C at_234 (pc' := 236) rfl rfl rfl ?_
  refine s_bipush C at_236 (pc' := 238) rfl (7 : Int32) rfl ?_
  refine s_iload C at_238 (pc' := 240) rfl rfl ?_
  refine s_iload C at_240 (pc' := 242) rfl rfl ?_
  refine s_lloadN C at_242 (pc' := 243) rfl rfl ?_
  refine s_iload C at_243 (pc' := 245) rfl rfl ?_
  refine s_callSI C at_245 (pc' := 248) rfl (w10 hw) (w11 hw) (w8 hw) (w12 hw) (by decide) [(.ref a3), (.int (7 : Int32)), (.int v1), (.int v37), (.long x1), (.int v2)] [] pd1 rfl rfl (c_ok l Z a0 hw a3 _ (7 : Int32) v1 v37 x1 v2 h34 n0 sz35 vs34 7 A34 (by decide) (hv34 7 (by decide))) rfl (W := 0) rfl (by decide) (by decide) (k' := 1) rfl (by decide) (n' := 14) rfl (by decide) (fun _ _ q53 => ?_)
  obtain ⟨rfl, rfl⟩ := q53
  refine s_if_eq C at_248 (pc' := 251) rfl (pcY := 357) rfl (fun hc => by exfalso; rw [own_fok _ _ _ _ _ _ (by decide) (by decide) ho.1 ho.2 (by rw [hv37]; exact own_es _)] at hc; revert hc; decide) (fun c54 => ?_)
  refine s_aload C at_251 (pc' := 253) rfl rfl rfl ?_
  refine s_bipush C at_253 (pc' := 255) rfl (8 : Int32) rfl ?_
  refine s_iload C at_255 (pc' := 257) rfl rfl ?_
  refine s_iload C at_257 (pc' := 259) rfl rfl ?_
  refine s_lloadN C at_259 (pc' := 260) rfl rfl ?_
  refine s_iload C at_260 (pc' := 262) rfl rfl ?_
  refine s_callSI C at_262 (pc' := 265) rfl (w10 hw) (w11 hw) (w8 hw) (w12 hw) (by decide) [(.ref a3), (.int (8 : Int32)), (.int v1), (.int v37), (.long x1), (.int v2)] [] pd1 rfl rfl (c_ok l Z a0 hw a3 _ (8 : Int32) v1 v37 x1 v2 h34 n0 sz35 vs34 8 A34 (by decide) (hv34 8 (by decide))) rfl (W := 0) rfl (by decide) (by decide) (k' := 1) rfl (by decide) (n' := 14) rfl (by decide) (fun _ _ q55 => ?_)
  obtain ⟨rfl, rfl⟩ := q55
  refine s_if_eq C at_265 (pc' := 268) rfl (pcY := 357) rfl (fun hc => by exfalso; rw [own_fok _ _ _ _ _ _ (by decide) (by decide) ho.1 ho.2 (by rw [hv37]; exact own_es _)] at hc; revert hc; decide) (fun c56 => ?_)
  refine s_aload C at_268 (pc' := 270) rfl rfl rfl ?_
  refine s_bipush C at_270 (pc' := 272) rfl (9 : Int32) rfl ?_
  refine s_iload C at_272 (pc' := 274) rfl rfl ?_
  refine s_iload C at_274 (pc' := 276) rfl rfl ?_
  refine s_lloadN C at_276 (pc' := 277) rfl rfl ?_
  refine s_iload C at_277 (pc' := 279) rfl rfl ?_
  refine s_callSI C at_279 (pc' := 282) rfl (w10 hw) (w11 hw) (w8 hw) (w12 hw) (by decide) [(.ref a3), (.int (9 : Int32)), (.int v1), (.int v37), (.long x1), (.int v2)] [] pd1 rfl rfl (c_ok l Z a0 hw a3 _ (9 : Int32) v1 v37 x1 v2 h34 n0 sz35 vs34 9 A34 (by decide) (hv34 9 (by decide))) rfl (W := 0) rfl (by decide) (by decide) (k' := 1) rfl (by decide) (n' := 14) rfl (by decide) (fun _ _ q57 => ?_)
  obtain ⟨rfl, rfl⟩ := q57
  refine s_if_eq C at_282 (pc' := 285) rfl (pcY := 357) rfl (fun hc => by exfalso; rw [own_fok _ _ _ _ _ _ (by decide) (by decide) ho.1 ho.2 (by rw [hv37]; exact own_es _)] at hc; revert hc; decide) (fun c58 => ?_)
  refine s_aload C at_285 (pc' := 287) rfl rfl rfl ?_
  refine s_bipush C at_287 (pc' := 289) rfl (10 : Int32) rfl ?_
  refine s_iload C at_289 (pc' := 291) rfl rfl ?_
  refine s_iload C at_291 (pc' := 293) rfl rfl ?_
  refine s_lloadN C at_293 (pc' := 294) rfl rfl ?_
  refine s_iload C at_294 (pc' := 296) rfl rfl ?_
  refine s_callSI C at_296 (pc' := 299) rfl (w10 hw) (w11 hw) (w8 hw) (w12 hw) (by decide) [(.ref a3), (.int (10 : Int32)), (.int v1), (.int v37), (.long x1), (.int v2)] [] pd1 rfl rfl (c_ok l Z a0 hw a3 _ (10 : Int32) v1 v37 x1 v2 h34 n0 sz35 vs34 10 A34 (by decide) (hv34 10 (by decide))) rfl (W := 0) rfl (by decide) (by decide) (k' := 1) rfl (by decide) (n' := 14) rfl (by decide) (fun _ _ q59 => ?_)
  obtain ⟨rfl, rfl⟩ := q59
  refine s_if_eq C at_299 (pc' := 302) rfl (pcY := 357) rfl (fun hc => by exfalso; rw [own_fok _ _ _ _ _ _ (by decide) (by decide) ho.1 ho.2 (by rw [hv37]; exact own_es _)] at hc; revert hc; decide) (fun c60 => ?_)
  refine s_aload C at_302 (pc' := 304) rfl rfl rfl ?_
  refine s_bipush C at_304 (pc' := 306) rfl (11 : Int32) rfl ?_
  refine s_iload C at_306 (pc' := 308) rfl rfl ?_
  refine s_iload C at_308 (pc' := 310) rfl rfl ?_
  refine s_lloadN C at_310 (pc' := 311) rfl rfl ?_
  refine s_iload C at_311 (pc' := 313) rfl rfl ?_
  refine s_callSI C at_313 (pc' := 316) rfl (w10 hw) (w11 hw) (w8 hw) (w12 hw) (by decide) [(.ref a3), (.int (11 : Int32)), (.int v1), (.int v37), (.long x1), (.int v2)] [] pd1 rfl rfl (c_ok l Z a0 hw a3 _ (11 : Int32) v1 v37 x1 v2 h34 n0 sz35 vs34 11 A34 (by decide) (hv34 11 (by decide))) rfl (W := 0) rfl (by decide) (by decide) (k' := 1) rfl (by decide) (n' := 14) rfl (by decide) (fun _ _ q61 => ?_)
  obtain ⟨rfl, rfl⟩ := q61
  refine s_if_eq C at_316 (pc' := 319) rfl (pcY := 357) rfl (fun hc => by exfalso; rw [own_fok _ _ _ _ _ _ (by decide) (by decide) ho.1 ho.2 (by rw [hv37]; exact own_es _)] at hc; revert hc; decide) (fun c62 => ?_)
  refine s_aload C at_319 (pc' := 321) rfl rfl rfl ?_
  refine s_bipush C at_321 (pc' := 323) rfl (12 : Int32) rfl ?_
  refine s_iload C at_323 (pc' := 325) rfl rfl ?_
  refine s_iload C at_325 (pc' := 327) rfl rfl ?_
  refine s_lloadN C at_327 (pc' := 328) rfl rfl ?_
  refine s_iload C at_328 (pc' := 330) rfl rfl ?_
  refine s_callSI C at_330 (pc' := 333) rfl (w10 hw) (w11 hw) (w8 hw) (w12 hw) (by decide) [(.ref a3), (.int (12 : Int32)), (.int v1), (.int v37), (.long x1), (.int v2)] [] pd1 rfl rfl (c_ok l Z a0 hw a3 _ (12 : Int32) v1 v37 x1 v2 h34 n0 sz35 vs34 12 A34 (by decide) (hv34 12 (by decide))) rfl (W := 0) rfl (by decide) (by decide) (k' := 1) rfl (by decide) (n' := 14) rfl (by decide) (fun _ _ q63 => ?_)
  obtain ⟨rfl, rfl⟩ := q63
  refine s_if_eq C at_333 (pc' := 336) rfl (pcY := 357) rfl (fun hc => by exfalso; rw [own_fok _ _ _ _ _ _ (by decide) (by decide) ho.1 ho.2 (by rw [hv37]; exact own_es _)] at hc; revert hc; decide) (fun c64 => ?_)
  refine s_aload C at_336 (pc' := 338) rfl rfl rfl ?_
  refine s_bipush C at_338 (pc' := 340) rfl (13 : Int32) rfl ?_
  refine s_iload C at_340 (pc' := 342) rfl rfl ?_
  refine s_iload C at_342 (pc' := 344) rfl rfl ?_
  refine s_lloadN C at_344 (pc' := 345) rfl rfl ?_
  refine s_iload C at_345 (pc' := 347) rfl rfl ?_
  refine s_callSI C at_347 (pc' := 350) rfl (w10 hw) (w11 hw) (w8 hw) (w12 hw) (by decide) [(.ref a3), (.int (13 : Int32)), (.int v1), (.int v37), (.long x1), (.int v2)] [] pd1 rfl rfl (c_ok l Z a0 hw a3 _ (13 : Int32) v1 v37 x1 v2 h34 n0 sz35 vs34 13 A34 (by decide) (hv34 13 (by decide))) rfl (W := 0) rfl (by decide) (by decide) (k' := 1) rfl (by decide) (n' := 14) rfl (by decide) (fun _ _ q65 => ?_)
  obtain ⟨rfl, rfl⟩ := q65
  refine s_if_eq C at_350 (pc' := 353) rfl (pcY := 357) rfl (fun hc => by exfalso; rw [own_fok _ _ _ _ _ _ (by decide) (by decide) ho.1 ho.2 (by rw [hv37]; exact own_es _)] at hc; revert hc; decide) (fun c66 => ?_)
  refine s_iconst C at_353 (pc' := 354) rfl (1 : Int32) rfl ?_
  refine s_goto C at_354 (pc' := 358) rfl ?_
  exact s_retN C (by simp) at_358 (by decide) (by decide) rfl
end Own
end Jvm.Pilot.@@N@@
namespace Jvm.Pilot.@@N@@
open Jvm Jvm.ClassFile Sem Op Lib Jvm.Free Jvm.Stand Jvm.LawKit Jvm.RoadKit Bundle Own Jvm.Pilot.@@N@@.Jvm.D
set_option maxRecDepth 65536 in
set_option maxHeartbeats 40000000 in
theorem comes_1 {Post : Tables → Env → Array Value → State → Outcome → State → Prop} (hpost : ∀ tb e args s v u, (limb_1_1.after args s (.returned v) u = true ∧ limb_1_2.after args s (.returned v) u = true ∧ True) → FrameEnd s (.returned v) u (Jvm.fieldLocs frame_1_writes args s ++ Jvm.arrayLocs frame_1_arrays args s ++ Jvm.staticLocs frame_1_statics s) 16 128 → Post tb e args s (.returned v) u) :
    ArmFor flags0 classFile x code maxLocals ret World_1 tables_1 room_1 Calls_1 rest_1 Pre_1 Post := by
  intro l hfl _ _ p e ha hc hk s m args below hf hA hF happ hP
  obtain ⟨hcalls, hrest, hpre⟩ := hP
  obtain ⟨-, -, -, hnamed, -, -, -, hat⟩ := (Spec.applies_iff hf).mp happ
  obtain ⟨hg, hn⟩ := and_e (Cond.before_iff.mp (show (Jvm.Cond.and given_1 narrow_1).before args s = true from hpre))
  obtain ⟨g1, g2⟩ := and_e hg
  obtain ⟨g3, g4⟩ := and_e g2
  obtain ⟨g5, g6⟩ := and_e g4
  obtain ⟨w0, w1, w2, rfl⟩ : ∃ w0 w1 w2 : Value, args = #[w0, w1, w2] := by
    have hs : args.size = 3 := by simpa [Cond.value, given_1] using g1
    obtain ⟨L⟩ := args
    match L, hs with
    | [w0, w1, w2], _ => exact ⟨w0, w1, w2, rfl⟩
  have hw := fun d (hd : d ∈ tables_1) => atoms_spec (ws := Jvm.Cond.code x code maxLocals ret :: tables_1) hat d (List.mem_cons_of_mem _ hd)
  have hfit : Fit s := fun {y c} hc i hi => by
    obtain ⟨ha, rfl⟩ := Array.getElem?_eq_some_iff.mp hc
    have q := List.all_eq_true.mp ((Array.all_eq_true_iff_forall_mem.mp hF) _ (Array.getElem_mem ha)) i (List.mem_range.mpr hi)
    simpa [Array.getElem?_eq_getElem hi] using q
  obtain ⟨i0, ei0⟩ := isL_v g3
  obtain rfl : w0 = (.long i0) := Option.some.inj ei0
  obtain ⟨i1, ei1⟩ := is_v g5
  obtain rfl : w1 = (.int i1) := Option.some.inj ei1
  obtain ⟨i2, ei2⟩ := is_v g6
  obtain rfl : w2 = (.int i2) := Option.some.inj ei2
  obtain ⟨n, o, h1, h2, h3, _, L, rfl, ⟨⟨_, rfl, rfl⟩, N⟩, hq⟩ := law l s _ hw i0 i1 i2 s.heap s.heap.size (Nat.le_refl _)  p e ha hc hk s m _ below hf ((Spec.applies_iff_loose hf).mp happ).1 ⟨rfl, State.Warmed39.refl s, rfl⟩ trivial
  refine ⟨n, _, h1, h2, h3, hpost _ _ _ _ _ _ ⟨Cond.after_iff.mpr rfl, Cond.after_iff.mpr (eq_i res_at (Term.int_eval (1)) rfl), trivial⟩ ⟨hq.1, hq.2.1, (hq.2.2.sift fun y hy => Or.inr (N y hy)).mono (by decide) (by decide)⟩⟩
theorem main_1_1 : Claimed_1_1 := comes_1 fun _ _ _ _ _ _ h hF => ⟨h.1, hF⟩
theorem main_1_2 : Claimed_1_2 := comes_1 fun _ _ _ _ _ _ h hF => ⟨h.2.1, hF⟩
end Jvm.Pilot.@@N@@
namespace Jvm.Pilot.@@N@@
open Jvm Jvm.ClassFile Sem Op Lib Jvm.Free Jvm.Stand Jvm.Pilot.@@N@@.Jvm.D
/-! MADE BY PROGRAM (witnessworld.py) out of the Statement's table words and the real class files: 9 classes; the members and pool entries that the words name. The judged class is class 1, her method 1. -/
namespace start1
open Jvm.ClassFile
def u (s : String) : CpInfo := .utf8 (stringToUtf16 s)
/-- a pool by its gaps: so many unusable entries, then the entry; so many at the end -/
def gap : Nat → List CpInfo → List CpInfo
  | 0, r => r
  | n + 1, r => .unusable :: gap n r
def poolList (es : List (Nat × CpInfo)) (last : Nat) : List CpInfo := es.foldr (fun e r => gap e.1 (e.2 :: r)) (gap last [])
def pool (es : List (Nat × CpInfo)) (last : Nat) : Array CpInfo := ⟨poolList es last⟩
def fileOf (pool : Array CpInfo) (this : Nat) (attrs : Array Attribute := #[]) (ms : Array MethodInfo := #[]) (fl : Nat := 33) (sup : Nat := 0) (ifs : Array Nat := #[]) (fds : Array FieldInfo := #[]) : ClassFile where
  minorVersion := 0
  majorVersion := 65
  constantPool := pool
  accessFlags := fl
  thisClass := this
  superClass := sup
  interfaces := ifs
  fields := fds
  methods := ms
  attributes := attrs
def plain (name : String) (sup : Option ClassId) : Class where
  name := name
  kind := .ordinary
  loader := none
  accessFlags := 33
  super := sup
  interfaces := #[]
  cf := none
  fields := #[]
  methods := #[]
  instanceTypes := #[]
  staticTypes := #[]
  resolved := #[]
  callSites := []
  init := .initialized
  statics := none
  mirror := none

def pool0 : Array CpInfo := pool [(5, u "<init>"), (0, u "()V"), (1, .class_ 10), (1, u "java/lang/Object")] 113

def k0m0 : Method := { name := "<init>", desc := "()V", sig := { parameters := [], returnType := none }, accessFlags := 1, code := none }
/-- java/lang/Object -/
def k0 : Class := { plain "java/lang/Object" none with
  accessFlags := 33
  interfaces := #[]
  cf := some (fileOf pool0 8 #[] #[{ accessFlags := 1, nameIndex := 5, descriptorIndex := 6, attributes := #[] }] 33 0 #[] #[])
  fields := #[]
  methods := #[k0m0]
  instanceTypes := #[]
  staticTypes := #[]
  resolved := Array.replicate 124 none
  statics := none }

def pool1 : Array CpInfo := pool [(2, .class_ 4), (1, u "java/lang/Object"), (0, u "<init>"), (0, u "()V"), (0, .methodref 8 9), (0, .class_ 10), (0, .nameAndType 11 12), (0, u "com/example/dewk/dewk/index/IndexFormat"), (0, u "putVarint"), (0, u "([BIJ)I"), (0, .methodref 14 15), (0, .class_ 16), (0, .nameAndType 17 18), (0, u "com/example/dewk/dewk/index/IndexFormatPutVarintPinLaw"), (0, u "expectedSize"), (0, u "(J)I"), (0, .methodref 14 20), (0, .nameAndType 21 22), (0, u "ok"), (0, u "([BIIIJB)Z"), (0, .long 127), (3, u "law"), (0, u "(JII)Z")] 5

def k1m0 : Method := { name := "<init>", desc := "()V", sig := { parameters := [], returnType := none }, accessFlags := 1, code := none }
def k1c1 : Code := { maxStack := 7, maxLocals := 9, code := code, exceptionTable := #[], attributes := #[] }
def k1m1 : Method := { name := "law", desc := "(JII)Z", sig := { parameters := [.long, .int, .int], returnType := some .boolean }, accessFlags := 9, code := some k1c1 }
def k1c2 : Code := { maxStack := 4, maxLocals := 2, code := method_3_code, exceptionTable := #[], attributes := #[] }
def k1m2 : Method := { name := "expectedSize", desc := "(J)I", sig := { parameters := [.long], returnType := some .int }, accessFlags := 10, code := some k1c2 }
def k1c3 : Code := { maxStack := 4, maxLocals := 10, code := method_4_code, exceptionTable := #[], attributes := #[] }
def k1m3 : Method := { name := "ok", desc := "([BIIIJB)Z", sig := { parameters := [(.array .byte), .int, .int, .int, .long, .byte], returnType := some .boolean }, accessFlags := 10, code := some k1c3 }
/-- com/example/dewk/dewk/index/IndexFormatPutVarintPinLaw -/
def k1 : Class := { plain "com/example/dewk/dewk/index/IndexFormatPutVarintPinLaw" (some 0) with
  accessFlags := 49
  interfaces := #[]
  cf := some (fileOf pool1 14 #[] #[{ accessFlags := 1, nameIndex := 5, descriptorIndex := 6, attributes := #[] }, { accessFlags := 9, nameIndex := 27, descriptorIndex := 28, attributes := #[] }, { accessFlags := 10, nameIndex := 17, descriptorIndex := 18, attributes := #[] }, { accessFlags := 10, nameIndex := 21, descriptorIndex := 22, attributes := #[] }] 49 2 #[] #[])
  fields := #[]
  methods := #[k1m0, k1m1, k1m2, k1m3]
  instanceTypes := #[]
  staticTypes := #[]
  resolved := Array.replicate 34 none
  statics := none }

def pool2 : Array CpInfo := pool [(1, .class_ 2), (0, u "com/example/dewk/dewk/index/IndexFormat"), (5, .class_ 10), (1, u "java/lang/Object"), (0, u "<init>"), (0, u "()V"), (17, .long 128), (1, .long 18446744073709551488), (1, .long 127), (24, u "MAGIC"), (0, u "[B"), (13, u "JAVA_RELEASE"), (0, u "I"), (2, u "VERSION_OFFSET"), (2, u "JAVA_RELEASE_OFFSET"), (2, u "TERMS_PER_BLOCK_OFFSET"), (2, u "COUNTS_OFFSET"), (2, u "HEADER_SIZE"), (0, u "FILE_NAME"), (0, u "Ljava/lang/String;"), (3, u "PART_NAME"), (2, u "LOCK_NAME"), (2, u "SCRATCH_PREFIX"), (0, u "SCRATCH_SUFFIX"), (0, u "VERSION"), (1, u "TERMS_PER_BLOCK"), (1, u "POSTINGS_PER_SKIP"), (1, u "OFFSET_COUNT"), (1, u "PARENT_FIELD"), (1, u "NAME_FIELD"), (1, u "POSITION_FIELD"), (1, u "SAME_NAME_POSITION_FIELD"), (1, u "DESCENDANTS_FIELD"), (1, u "ELEMENT_FIELDS"), (1, u "ELEMENT_SIZE"), (1, u "BLOCK_SIZE"), (1, u "SKIP_SIZE"), (1, u "MAX_VARINT_SIZE"), (9, u "putVarint"), (0, u "([BIJ)I")] 21

def k2m0 : Method := { name := "<init>", desc := "()V", sig := { parameters := [], returnType := none }, accessFlags := 2, code := none }
def k2c1 : Code := { maxStack := 6, maxLocals := 7, code := prog_80_method_5_code, exceptionTable := #[], attributes := #[] }
def k2m1 : Method := { name := "putVarint", desc := "([BIJ)I", sig := { parameters := [(.array .byte), .int, .long], returnType := some .int }, accessFlags := 8, code := some k2c1 }
/-- com/example/dewk/dewk/index/IndexFormat -/
def k2 : Class := { plain "com/example/dewk/dewk/index/IndexFormat" (some 0) with
  accessFlags := 32
  interfaces := #[]
  cf := some (fileOf pool2 1 #[] #[{ accessFlags := 2, nameIndex := 11, descriptorIndex := 12, attributes := #[] }, { accessFlags := 8, nameIndex := 140, descriptorIndex := 141, attributes := #[] }] 32 8 #[] #[{ accessFlags := 24, nameIndex := 91, descriptorIndex := 92, attributes := #[] }, { accessFlags := 24, nameIndex := 96, descriptorIndex := 92, attributes := #[] }, { accessFlags := 24, nameIndex := 99, descriptorIndex := 92, attributes := #[] }, { accessFlags := 24, nameIndex := 102, descriptorIndex := 92, attributes := #[] }, { accessFlags := 24, nameIndex := 103, descriptorIndex := 92, attributes := #[] }, { accessFlags := 24, nameIndex := 59, descriptorIndex := 60, attributes := #[] }, { accessFlags := 24, nameIndex := 104, descriptorIndex := 75, attributes := #[] }, { accessFlags := 24, nameIndex := 74, descriptorIndex := 75, attributes := #[] }, { accessFlags := 24, nameIndex := 106, descriptorIndex := 75, attributes := #[] }, { accessFlags := 24, nameIndex := 108, descriptorIndex := 75, attributes := #[] }, { accessFlags := 24, nameIndex := 110, descriptorIndex := 75, attributes := #[] }, { accessFlags := 24, nameIndex := 78, descriptorIndex := 75, attributes := #[] }, { accessFlags := 24, nameIndex := 81, descriptorIndex := 75, attributes := #[] }, { accessFlags := 24, nameIndex := 84, descriptorIndex := 75, attributes := #[] }, { accessFlags := 24, nameIndex := 87, descriptorIndex := 75, attributes := #[] }, { accessFlags := 24, nameIndex := 90, descriptorIndex := 75, attributes := #[] }, { accessFlags := 24, nameIndex := 112, descriptorIndex := 75, attributes := #[] }, { accessFlags := 24, nameIndex := 114, descriptorIndex := 75, attributes := #[] }, { accessFlags := 24, nameIndex := 116, descriptorIndex := 75, attributes := #[] }, { accessFlags := 24, nameIndex := 118, descriptorIndex := 75, attributes := #[] }, { accessFlags := 24, nameIndex := 120, descriptorIndex := 75, attributes := #[] }, { accessFlags := 24, nameIndex := 122, descriptorIndex := 75, attributes := #[] }, { accessFlags := 24, nameIndex := 124, descriptorIndex := 75, attributes := #[] }, { accessFlags := 24, nameIndex := 126, descriptorIndex := 75, attributes := #[] }, { accessFlags := 24, nameIndex := 128, descriptorIndex := 75, attributes := #[] }, { accessFlags := 24, nameIndex := 130, descriptorIndex := 75, attributes := #[] }])
  fields := #[{ name := "FILE_NAME", type := (.object "java/lang/String"), accessFlags := 24, slot := 0, constantValue := 0 }, { name := "PART_NAME", type := (.object "java/lang/String"), accessFlags := 24, slot := 1, constantValue := 0 }, { name := "LOCK_NAME", type := (.object "java/lang/String"), accessFlags := 24, slot := 2, constantValue := 0 }, { name := "SCRATCH_PREFIX", type := (.object "java/lang/String"), accessFlags := 24, slot := 3, constantValue := 0 }, { name := "SCRATCH_SUFFIX", type := (.object "java/lang/String"), accessFlags := 24, slot := 4, constantValue := 0 }, { name := "MAGIC", type := (.array .byte), accessFlags := 24, slot := 5, constantValue := 0 }, { name := "VERSION", type := .int, accessFlags := 24, slot := 6, constantValue := 0 }, { name := "JAVA_RELEASE", type := .int, accessFlags := 24, slot := 7, constantValue := 0 }, { name := "TERMS_PER_BLOCK", type := .int, accessFlags := 24, slot := 8, constantValue := 0 }, { name := "POSTINGS_PER_SKIP", type := .int, accessFlags := 24, slot := 9, constantValue := 0 }, { name := "OFFSET_COUNT", type := .int, accessFlags := 24, slot := 10, constantValue := 0 }, { name := "VERSION_OFFSET", type := .int, accessFlags := 24, slot := 11, constantValue := 0 }, { name := "JAVA_RELEASE_OFFSET", type := .int, accessFlags := 24, slot := 12, constantValue := 0 }, { name := "TERMS_PER_BLOCK_OFFSET", type := .int, accessFlags := 24, slot := 13, constantValue := 0 }, { name := "COUNTS_OFFSET", type := .int, accessFlags := 24, slot := 14, constantValue := 0 }, { name := "HEADER_SIZE", type := .int, accessFlags := 24, slot := 15, constantValue := 0 }, { name := "PARENT_FIELD", type := .int, accessFlags := 24, slot := 16, constantValue := 0 }, { name := "NAME_FIELD", type := .int, accessFlags := 24, slot := 17, constantValue := 0 }, { name := "POSITION_FIELD", type := .int, accessFlags := 24, slot := 18, constantValue := 0 }, { name := "SAME_NAME_POSITION_FIELD", type := .int, accessFlags := 24, slot := 19, constantValue := 0 }, { name := "DESCENDANTS_FIELD", type := .int, accessFlags := 24, slot := 20, constantValue := 0 }, { name := "ELEMENT_FIELDS", type := .int, accessFlags := 24, slot := 21, constantValue := 0 }, { name := "ELEMENT_SIZE", type := .int, accessFlags := 24, slot := 22, constantValue := 0 }, { name := "BLOCK_SIZE", type := .int, accessFlags := 24, slot := 23, constantValue := 0 }, { name := "SKIP_SIZE", type := .int, accessFlags := 24, slot := 24, constantValue := 0 }, { name := "MAX_VARINT_SIZE", type := .int, accessFlags := 24, slot := 25, constantValue := 0 }]
  methods := #[k2m0, k2m1]
  instanceTypes := #[]
  staticTypes := #[(.object "java/lang/String"), (.object "java/lang/String"), (.object "java/lang/String"), (.object "java/lang/String"), (.object "java/lang/String"), (.array .byte), .int, .int, .int, .int, .int, .int, .int, .int, .int, .int, .int, .int, .int, .int, .int, .int, .int, .int, .int, .int]
  resolved := Array.replicate 163 none
  statics := none }

def pool3 : Array CpInfo := pool [(1, u "java/lang/Cloneable"), (0, .class_ 1), (0, u "java/lang/Object"), (0, .class_ 3)] 3

/-- java/lang/Cloneable -/
def k3 : Class := { plain "java/lang/Cloneable" (some 0) with
  accessFlags := 1537
  interfaces := #[]
  cf := some (fileOf pool3 2 #[] #[] 1537 4 #[] #[])
  fields := #[]
  methods := #[]
  instanceTypes := #[]
  staticTypes := #[]
  resolved := Array.replicate 8 none
  statics := none }

def pool4 : Array CpInfo := pool [(1, u "java/io/Serializable"), (0, .class_ 1), (0, u "java/lang/Object"), (0, .class_ 3)] 3

/-- java/io/Serializable -/
def k4 : Class := { plain "java/io/Serializable" (some 0) with
  accessFlags := 1537
  interfaces := #[]
  cf := some (fileOf pool4 2 #[] #[] 1537 4 #[] #[])
  fields := #[]
  methods := #[]
  instanceTypes := #[]
  staticTypes := #[]
  resolved := Array.replicate 8 none
  statics := none }

/-- the primitive byte -/
def k5 : Class := { plain "byte" none with kind := .primitive 'B', accessFlags := 0x411 }
/-- [B -/
def k6 : Class := { plain "[B" (some 0) with kind := .array 5 .byte, interfaces := #[3, 4], accessFlags := 1041 }

/-- the primitive int -/
def k7 : Class := { plain "int" none with kind := .primitive 'I', accessFlags := 0x411 }
/-- [I -/
def k8 : Class := { plain "[I" (some 0) with kind := .array 7 .int, interfaces := #[3, 4], accessFlags := 1041 }

def heap : Heap := #[]
def classes : Array Class := #[k0, k1, k2, k3, k4, k5, k6, k7, k8]
def interned : List (Array UInt16 × Addr) := []
def slotsUsed : Nat := 0
def theMethod : MethodId := ⟨1, 1⟩
def args0 : Array Value := #[.long 500, .int 7, .int 9]
def aboutOver (below : List Frame) : State where
  vm := { classes := classes, interned := interned.toArray }
  heap := heap
  slotsUsed := slotsUsed
  threads := #[{ frames := .invoking theMethod args0 :: below }]
def below0 : List Frame := [.native { method := ⟨0, 0⟩, args := #[] }]
def about1 : State := aboutOver below0
def p0 : Program := .bare "" "" ""
def e0 : Env := launch0.env 0 0 0
theorem w_frames : about1.frames = Frame.invoking theMethod args0 :: below0 := rfl
set_option maxRecDepth 65536 in
theorem w_args : argsFit about1.vm theMethod args0 = true := by decide +kernel
set_option maxRecDepth 65536 in
theorem w_heap : heapFits about1 = true := by decide +kernel
set_option maxRecDepth 65536 in
theorem w_runnable : about1.curStatus? = some .runnable := by decide +kernel
set_option maxRecDepth 65536 in
theorem w_alone : about1.alone = true := by decide +kernel
set_option maxRecDepth 65536 in
theorem w_named : about1.methodNamed? x = some theMethod := by decide +kernel
set_option maxRecDepth 65536 in
theorem w_hears : about1.hears theMethod below0 = true := by decide +kernel
set_option maxRecDepth 65536 in
theorem w_ripe : about1.ripe theMethod args0 below0 = true := by decide +kernel
theorem w_running : about1.status = .running := rfl
set_option maxRecDepth 65536 in
theorem w_room : about1.hasRoom e0.platform room_1 = true :=
  launch0.hasRoom_least _ room_1 (by decide +kernel) (by decide +kernel) (by decide +kernel) (by decide +kernel) (by decide +kernel) (by decide +kernel)
theorem allAtoms_all (ts : List Jvm.Cond) (a : Array Jvm.Value) (st : Jvm.State) : (allAtoms ts).before a st = ts.all (fun c => c.before a st) := by
  induction ts with
  | nil => rfl
  | cons c t ih =>
    show (Jvm.Cond.and c (allAtoms t)).before a st = _
    rw [Jvm.Cond.before_and, ih, List.all_cons]
def words1 : List Jvm.Cond := Jvm.Cond.code x code maxLocals ret :: tables_1
/-- a 'code' word, met by the world's own term for the bytes: nothing is compared byte by byte -/
theorem code_word {y : MethodName} {bytes : ByteArray} {mx : Nat} {rt : Option FieldType} {a : Array Value} {s : State} {m : MethodId} {meth : Method} {c : Code} (h1 : s.methodNamed? y = some m) (h2 : s.vm.method? m = some meth) (h3 : meth.code = some c) (h4 : c.code = bytes)
    (h5 : (c.maxLocals == mx && c.exceptionTable.isEmpty && decide (c.maxStack ≤ mostOperands) && decide (meth.sig.returnType = rt) && !meth.locks && decide (parseMethodDescriptor y.desc = some meth.sig)) = true) : (Jvm.Cond.code y bytes mx rt).before a s = true := by
  simp only [Bool.and_eq_true, beq_iff_eq, Bool.not_eq_true', decide_eq_true_eq] at h5
  obtain ⟨⟨⟨⟨⟨g1, g2⟩, g3⟩, g4⟩, g5⟩, g6⟩ := h5
  simp [Cond.before, Cond.holds, Cond.value, h1, h2, h3, h4, g1, g2, g3, g4, g5, g6]
def isCode : Jvm.Cond → Bool
  | .code _ _ _ _ => true
  | _ => false
theorem all_split {L : List Jvm.Cond} {P : Jvm.Cond → Bool} (h1 : L.all (fun c => isCode c || P c) = true) (h2 : ∀ c ∈ L.filter isCode, P c = true) : L.all P = true := by
  refine List.all_eq_true.mpr fun c hc => ?_
  have h := List.all_eq_true.mp h1 c hc
  rcases Bool.eq_false_or_eq_true (isCode c) with hi | hi
  · exact h2 c (List.mem_filter.mpr ⟨hc, hi⟩)
  · simpa [hi] using h
set_option maxRecDepth 65536 in
theorem w_c0 : (Jvm.Cond.code x code maxLocals ret).before args0 about1 = true := code_word (m := ⟨1, 1⟩) (meth := k1m1) (c := k1c1) (by decide +kernel) rfl rfl rfl (by decide +kernel)
set_option maxRecDepth 65536 in
theorem w_c1 : (Jvm.Cond.code ({ cls := "com/example/dewk/dewk/index/IndexFormat", name := "putVarint", desc := "([BIJ)I" } : Jvm.MethodName) prog_80_method_5_code (7 : Nat) (Option.some Jvm.ClassFile.FieldType.int)).before args0 about1 = true := code_word (m := ⟨2, 1⟩) (meth := k2m1) (c := k2c1) (by decide +kernel) rfl rfl rfl (by decide +kernel)
set_option maxRecDepth 65536 in
theorem w_c2 : (Jvm.Cond.code ({ cls := "com/example/dewk/dewk/index/IndexFormatPutVarintPinLaw", name := "expectedSize", desc := "(J)I" } : Jvm.MethodName) method_3_code (2 : Nat) (Option.some Jvm.ClassFile.FieldType.int)).before args0 about1 = true := code_word (m := ⟨1, 2⟩) (meth := k1m2) (c := k1c2) (by decide +kernel) rfl rfl rfl (by decide +kernel)
set_option maxRecDepth 65536 in
theorem w_c3 : (Jvm.Cond.code ({ cls := "com/example/dewk/dewk/index/IndexFormatPutVarintPinLaw", name := "ok", desc := "([BIIIJB)Z" } : Jvm.MethodName) method_4_code (10 : Nat) (Option.some Jvm.ClassFile.FieldType.boolean)).before args0 about1 = true := code_word (m := ⟨1, 3⟩) (meth := k1m3) (c := k1c3) (by decide +kernel) rfl rfl rfl (by decide +kernel)
def codes1 : List Jvm.Cond := [Jvm.Cond.code x code maxLocals ret, Jvm.Cond.code ({ cls := "com/example/dewk/dewk/index/IndexFormat", name := "putVarint", desc := "([BIJ)I" } : Jvm.MethodName) prog_80_method_5_code (7 : Nat) (Option.some Jvm.ClassFile.FieldType.int), Jvm.Cond.code ({ cls := "com/example/dewk/dewk/index/IndexFormatPutVarintPinLaw", name := "expectedSize", desc := "(J)I" } : Jvm.MethodName) method_3_code (2 : Nat) (Option.some Jvm.ClassFile.FieldType.int), Jvm.Cond.code ({ cls := "com/example/dewk/dewk/index/IndexFormatPutVarintPinLaw", name := "ok", desc := "([BIIIJB)Z" } : Jvm.MethodName) method_4_code (10 : Nat) (Option.some Jvm.ClassFile.FieldType.boolean)]
set_option maxRecDepth 65536 in
theorem codes_eq : words1.filter isCode = codes1 := rfl
theorem w_codes : ∀ c ∈ words1.filter isCode, c.before args0 about1 = true := by
  rw [codes_eq]
  intro c hc
  simp only [codes1, List.mem_cons, List.not_mem_nil, or_false] at hc
  rcases hc with rfl | rfl | rfl | rfl
  · exact w_c0
  · exact w_c1
  · exact w_c2
  · exact w_c3
set_option maxRecDepth 65536 in
theorem w_t1 : words1.all (fun c => isCode c || c.before args0 about1) = true := by decide +kernel
theorem w_tables : (allAtoms (Jvm.Cond.code x code maxLocals ret :: tables_1)).before args0 about1 = true := by
  rw [allAtoms_all]
  show words1.all (fun c => c.before args0 about1) = true
  refine all_split ?_ w_codes
  rw [w_t1]
set_option maxRecDepth 65536 in
theorem w_case : (Jvm.Cond.and given_1 narrow_1).before args0 about1 = true := by decide +kernel
theorem w_applies : (headSpec (Jvm.Cond.code x code maxLocals ret :: tables_1) room_1).applies x e0.platform about1 = true :=
  (Spec.applies_iff w_frames).mpr ⟨w_running, w_runnable, w_alone, w_named, w_hears, w_ripe, w_room, w_tables⟩
theorem atStart : AtStart classFile x code maxLocals ret World_1 tables_1 room_1 Calls_1 rest_1 Pre_1 launch0 p0 e0 about1 theMethod args0 below0 :=
  ⟨lists_1, trivial, launch0.admits_env _ _ _, launch0.least_env, fairChoices_fair.cas, fairChoices_fair.clock, w_frames, w_args, w_heap, w_applies, trivial, trivial, w_case⟩
end start1
theorem witness_1 : WitnessClaimed_1 := ⟨start1.p0, start1.e0, start1.about1, start1.theMethod, start1.args0, start1.below0, start1.atStart⟩
end Jvm.Pilot.@@N@@
