import JvmDerived
import JvmDerived.Pilot.@@N@@Statement
import JvmDerived.Pilot.@@N@@Code
set_option linter.unusedVariables false
set_option linter.unusedSimpArgs false
namespace Jvm.Pilot.@@N@@
namespace Own
open Jvm Jvm.ClassFile Sem Op Lib Jvm.Free Jvm.Stand Jvm.LawKit Jvm.RoadKit Bundle
/-- what a body's walk knows of its method -/
def Ctx (p : Program) (l : Launch) (e : Env) (R : Room) (s : State) (m : MethodId) (args : Array Value) (below : List Frame) (meth : Method) (c : Code) (Z : State) (own : String) (cd : ByteArray) (maxL : Nat) (ret : Option FieldType) (nm : String) : Prop :=
  p.tables.exec = Jvm.exec ∧ Z.Warmed39 s.vm ∧ c.code = cd ∧ c.maxLocals = maxL ∧ s.vm.findClass own = some m.cls ∧ meth.sig.returnType = ret ∧ meth.locks = false ∧ meth.name = nm
/-- from every state that stands at pc with these locals and this stack over the heap h the method returns, and P holds -/
def Run (p : Program) (l : Launch) (e : Env) (R : Room) (s : State) (m : MethodId) (args : Array Value) (below : List Frame) (meth : Method) (c : Code) (n0 : Nat) (P : Option Value → Heap → Prop) (h : Heap) (k n : Nat) (pc : Nat) (Ls : Array Slot) (st : List Value) : Prop :=
  ∀ (T : State) (locs : List Loc), Stand p l e R s m args below meth c T locs k n → T.heap = h → Fr n0 locs →
    ∃ s₂ o, Steps p.tables e below (T.setTop (mkF m pc Ls st)) s₂ ∧ s₂.status = .running ∧ Ended s₂ below o ∧ ∃ v L, o = .returned v ∧ (P v s₂.heap ∧ Fr n0 L) ∧ FrameEnd s o s₂ L R.cells R.slots
def RetI (Q : Int32 → Heap → Prop) (v : Option Value) (h : Heap) : Prop := ∃ z, v = some (.int z) ∧ Q z h
def RetL (Q : Int64 → Heap → Prop) (v : Option Value) (h : Heap) : Prop := ∃ z, v = some (.long z) ∧ Q z h
def RetV (Q : Value → Heap → Prop) (v : Option Value) (h : Heap) : Prop := ∃ z, v = some z ∧ Q z h
def Ret0 (Q : Heap → Prop) (v : Option Value) (h : Heap) : Prop := v = none ∧ Q h
def Met (l : Launch) (Z : State) (y : MethodName) (bytes : ByteArray) (mL : Nat) (rt : Option FieldType) (ws : List Jvm.Cond) (rm : Room) (as : Array Value) (h : Heap) (n0 : Nat) (P : Option Value → Heap → Prop) : Prop :=
  MetFree l y (head1 (Jvm.Cond.code y bytes mL rt :: ws) rm) (fun a U => a = as ∧ Z.Warmed39 U.vm ∧ U.heap = h) (fun _ _ _ _ _ => True) (fun _ U o U' => ∃ v L, o = .returned v ∧ (P v U'.heap ∧ Fr n0 L) ∧ FrameEnd U o U' L rm.cells rm.slots)
section Steps
variable {p : Program} {l : Launch} {e : Env} {R : Room} {s : State} {m : MethodId} {args : Array Value} {below : List Frame} {meth : Method} {c : Code} {Z : State} {own nm : String} {cd : ByteArray} {maxL : Nat} {ret : Option FieldType} {n0 : Nat} {P : Option Value → Heap → Prop} {h : Heap} {k n pc pc' : Nat} {Ls l' : Array Slot} {st st' rest : List Value} {a0 : Array Value}
theorem Met.intro {y : MethodName} {bytes : ByteArray} {mL : Nat} {rt : Option FieldType} {ws : List Jvm.Cond} {rm : Room} {as : Array Value} (hpl : plainFor y = true) (ho : y.cls = own) (hn : y.name = nm) (ef : ∀ m, entryFrame m as mL = mkF m 0 Ls [])
    (body : ∀ p e s m below meth c, Ctx p l e rm s m as below meth c Z own bytes mL rt nm → Run p l e rm s m as below meth c n0 P h 0 0 0 Ls []) : Met l Z y bytes mL rt ws rm as h n0 P := by
  subst ho hn
  refine MetFree.of_bodySF hpl hisR ?_
  intro p e s m args below meth c s₁ Bd hml0 hP hK
  obtain ⟨rfl, hZ, hh⟩ := hP
  have X0 : Stand p l e rm s m args below meth c s₁ [] 0 0 := Stand.of_body Bd
  have e0 : s₁.heap = h := by rw [← hh, Bd.state]; rfl
  have hown : s.vm.findClass y.cls = some m.cls := findClass_of_methodNamed Bd.named
  obtain ⟨s₂, o, h1, h2⟩ := body p e s m below meth c ⟨Bd.exec, hZ, Bd.bytes, hml0, hown, Bd.returns, Bd.notSynchronized, (name_of_methodNamed Bd.named Bd.method).1⟩ s₁ [] X0 e0 (Fr.nil _)
  exact ⟨s₂, o, castTop (ef m) h1, h2⟩
theorem Run.pure (f : ∀ T locs, Stand p l e R s m args below meth c T locs k n → T.heap = h → ∀ t, Steps p.tables e below (T.setTop (mkF m pc' l' st')) t → Steps p.tables e below (T.setTop (mkF m pc Ls st)) t) (r : Run p l e R s m args below meth c n0 P h k n pc' l' st') : Run p l e R s m args below meth c n0 P h k n pc Ls st := fun T locs X eT N => by
  obtain ⟨s₂, o, q, r⟩ := r T locs X eT N
  exact ⟨s₂, o, f T locs X eT _ q, r⟩
theorem Run.warm (f : ∀ T locs, Stand p l e R s m args below meth c T locs k n → T.heap = h → ∃ T', Stand p l e R s m args below meth c T' locs k n ∧ T'.heap = h ∧ ∀ t, Steps p.tables e below (T'.setTop (mkF m pc' l' st')) t → Steps p.tables e below (T.setTop (mkF m pc Ls st)) t) (r : Run p l e R s m args below meth c n0 P h k n pc' l' st') : Run p l e R s m args below meth c n0 P h k n pc Ls st := fun T locs X eT N => by
  obtain ⟨T', X', e', f'⟩ := f T locs X eT
  obtain ⟨s₂, o, q, r⟩ := r T' locs X' e' N
  exact ⟨s₂, o, f' _ q, r⟩
/-! loads, stores, constants -/
theorem s_iloadN (C : Ctx p l e R s m args below meth c Z own cd maxL ret nm) {q : Fin 4} {v : Int32} (hd : decode cd pc = .ok (.iload_n q, 1)) (hp : pc + 1 = pc') (hl : Ls[q.val]? = some (.val (.int v))) (r : Run p l e R s m args below meth c n0 P h k n pc' Ls (.int v :: st)) : Run p l e R s m args below meth c n0 P h k n pc Ls st := by
  subst hp; exact Run.pure (fun T locs X _ t z => XS.iloadN X.here C.1 rfl (hb C.2.2.1 hd) hl z) r
theorem s_iload (C : Ctx p l e R s m args below meth c Z own cd maxL ret nm) {q : Nat} {v : Int32} (hd : decode cd pc = .ok (.iload q, 2)) (hp : pc + 2 = pc') (hl : Ls[q]? = some (.val (.int v))) (r : Run p l e R s m args below meth c n0 P h k n pc' Ls (.int v :: st)) : Run p l e R s m args below meth c n0 P h k n pc Ls st := by
  subst hp; exact Run.pure (fun T locs X _ t z => XS.iload X.here C.1 rfl (hb C.2.2.1 hd) hl z) r
theorem s_lloadN (C : Ctx p l e R s m args below meth c Z own cd maxL ret nm) {q : Fin 4} {v : Int64} (hd : decode cd pc = .ok (.lload_n q, 1)) (hp : pc + 1 = pc') (hl : Ls[q.val]? = some (.val (.long v))) (r : Run p l e R s m args below meth c n0 P h k n pc' Ls (.long v :: st)) : Run p l e R s m args below meth c n0 P h k n pc Ls st := by
  subst hp; exact Run.pure (fun T locs X _ t z => XS.lloadN X.here C.1 rfl (hb C.2.2.1 hd) hl z) r
theorem s_lload (C : Ctx p l e R s m args below meth c Z own cd maxL ret nm) {q : Nat} {v : Int64} (hd : decode cd pc = .ok (.lload q, 2)) (hp : pc + 2 = pc') (hl : Ls[q]? = some (.val (.long v))) (r : Run p l e R s m args below meth c n0 P h k n pc' Ls (.long v :: st)) : Run p l e R s m args below meth c n0 P h k n pc Ls st := by
  subst hp; exact Run.pure (fun T locs X _ t z => XS.lload X.here C.1 rfl (hb C.2.2.1 hd) hl z) r
theorem s_aloadN (C : Ctx p l e R s m args below meth c Z own cd maxL ret nm) {q : Fin 4} {v : Value} (hd : decode cd pc = .ok (.aload_n q, 1)) (hp : pc + 1 = pc') (hl : Ls[q.val]? = some (.val v)) (hv : v.isRef = true) (r : Run p l e R s m args below meth c n0 P h k n pc' Ls (v :: st)) : Run p l e R s m args below meth c n0 P h k n pc Ls st := by
  subst hp; exact Run.pure (fun T locs X _ t z => XS.aloadN X.here C.1 rfl (hb C.2.2.1 hd) hl hv z) r
theorem s_aload (C : Ctx p l e R s m args below meth c Z own cd maxL ret nm) {q : Nat} {v : Value} (hd : decode cd pc = .ok (.aload q, 2)) (hp : pc + 2 = pc') (hl : Ls[q]? = some (.val v)) (hv : v.isRef = true) (r : Run p l e R s m args below meth c n0 P h k n pc' Ls (v :: st)) : Run p l e R s m args below meth c n0 P h k n pc Ls st := by
  subst hp; exact Run.pure (fun T locs X _ t z => XS.aload X.here C.1 rfl (hb C.2.2.1 hd) hl hv z) r
theorem s_istoreN (C : Ctx p l e R s m args below meth c Z own cd maxL ret nm) {q : Fin 4} {x : Int32} (hd : decode cd pc = .ok (.istore_n q, 1)) (hp : pc + 1 = pc') (L : Int32 → Array Slot) (hl : ∀ y, storeLocals Ls q.val (.int y) = some (L y)) (r : ∀ y, y = x → Run p l e R s m args below meth c n0 P h k n pc' (L y) st) : Run p l e R s m args below meth c n0 P h k n pc Ls (.int x :: st) := by
  subst hp; exact Run.pure (fun T locs X _ t z => XS.istoreN X.here C.1 rfl (hb C.2.2.1 hd) rfl (hl x) z) (r x rfl)
theorem s_istore (C : Ctx p l e R s m args below meth c Z own cd maxL ret nm) {q : Nat} {x : Int32} (hd : decode cd pc = .ok (.istore q, 2)) (hp : pc + 2 = pc') (L : Int32 → Array Slot) (hl : ∀ y, storeLocals Ls q (.int y) = some (L y)) (r : ∀ y, y = x → Run p l e R s m args below meth c n0 P h k n pc' (L y) st) : Run p l e R s m args below meth c n0 P h k n pc Ls (.int x :: st) := by
  subst hp; exact Run.pure (fun T locs X _ t z => XS.istore X.here C.1 rfl (hb C.2.2.1 hd) rfl (hl x) z) (r x rfl)
theorem s_lstoreN (C : Ctx p l e R s m args below meth c Z own cd maxL ret nm) {q : Fin 4} {x : Int64} (hd : decode cd pc = .ok (.lstore_n q, 1)) (hp : pc + 1 = pc') (L : Int64 → Array Slot) (hl : ∀ y, storeLocals Ls q.val (.long y) = some (L y)) (r : ∀ y, y = x → Run p l e R s m args below meth c n0 P h k n pc' (L y) st) : Run p l e R s m args below meth c n0 P h k n pc Ls (.long x :: st) := by
  subst hp; exact Run.pure (fun T locs X _ t z => XS.lstoreN X.here C.1 rfl (hb C.2.2.1 hd) rfl (hl x) z) (r x rfl)
theorem s_lstore (C : Ctx p l e R s m args below meth c Z own cd maxL ret nm) {q : Nat} {x : Int64} (hd : decode cd pc = .ok (.lstore q, 2)) (hp : pc + 2 = pc') (L : Int64 → Array Slot) (hl : ∀ y, storeLocals Ls q (.long y) = some (L y)) (r : ∀ y, y = x → Run p l e R s m args below meth c n0 P h k n pc' (L y) st) : Run p l e R s m args below meth c n0 P h k n pc Ls (.long x :: st) := by
  subst hp; exact Run.pure (fun T locs X _ t z => XS.lstore X.here C.1 rfl (hb C.2.2.1 hd) rfl (hl x) z) (r x rfl)
theorem s_istoreNP (C : Ctx p l e R s m args below meth c Z own cd maxL ret nm) {q : Fin 4} {x : Int32} (hd : decode cd pc = .ok (.istore_n q, 1)) (hp : pc + 1 = pc') (L : Array Slot) (hl : storeLocals Ls q.val (.int x) = some L) (r : Run p l e R s m args below meth c n0 P h k n pc' L st) : Run p l e R s m args below meth c n0 P h k n pc Ls (.int x :: st) := by
  subst hp; exact Run.pure (fun T locs X _ t z => XS.istoreN X.here C.1 rfl (hb C.2.2.1 hd) rfl hl z) r
theorem s_istoreP (C : Ctx p l e R s m args below meth c Z own cd maxL ret nm) {q : Nat} {x : Int32} (hd : decode cd pc = .ok (.istore q, 2)) (hp : pc + 2 = pc') (L : Array Slot) (hl : storeLocals Ls q (.int x) = some L) (r : Run p l e R s m args below meth c n0 P h k n pc' L st) : Run p l e R s m args below meth c n0 P h k n pc Ls (.int x :: st) := by
  subst hp; exact Run.pure (fun T locs X _ t z => XS.istore X.here C.1 rfl (hb C.2.2.1 hd) rfl hl z) r
theorem s_lstoreNP (C : Ctx p l e R s m args below meth c Z own cd maxL ret nm) {q : Fin 4} {x : Int64} (hd : decode cd pc = .ok (.lstore_n q, 1)) (hp : pc + 1 = pc') (L : Array Slot) (hl : storeLocals Ls q.val (.long x) = some L) (r : Run p l e R s m args below meth c n0 P h k n pc' L st) : Run p l e R s m args below meth c n0 P h k n pc Ls (.long x :: st) := by
  subst hp; exact Run.pure (fun T locs X _ t z => XS.lstoreN X.here C.1 rfl (hb C.2.2.1 hd) rfl hl z) r
theorem s_lstoreP (C : Ctx p l e R s m args below meth c Z own cd maxL ret nm) {q : Nat} {x : Int64} (hd : decode cd pc = .ok (.lstore q, 2)) (hp : pc + 2 = pc') (L : Array Slot) (hl : storeLocals Ls q (.long x) = some L) (r : Run p l e R s m args below meth c n0 P h k n pc' L st) : Run p l e R s m args below meth c n0 P h k n pc Ls (.long x :: st) := by
  subst hp; exact Run.pure (fun T locs X _ t z => XS.lstore X.here C.1 rfl (hb C.2.2.1 hd) rfl hl z) r
theorem s_astoreN (C : Ctx p l e R s m args below meth c Z own cd maxL ret nm) {q : Fin 4} {x : Value} (hd : decode cd pc = .ok (.astore_n q, 1)) (hp : pc + 1 = pc') (hv : x.isRef = true) (L : Array Slot) (hl : storeLocals Ls q.val x = some L) (r : Run p l e R s m args below meth c n0 P h k n pc' L st) : Run p l e R s m args below meth c n0 P h k n pc Ls (x :: st) := by
  subst hp; exact Run.pure (fun T locs X _ t z => XS.astoreN X.here C.1 rfl (hb C.2.2.1 hd) rfl hv hl z) r
theorem s_astore (C : Ctx p l e R s m args below meth c Z own cd maxL ret nm) {q : Nat} {x : Value} (hd : decode cd pc = .ok (.astore q, 2)) (hp : pc + 2 = pc') (hv : x.isRef = true) (L : Array Slot) (hl : storeLocals Ls q x = some L) (r : Run p l e R s m args below meth c n0 P h k n pc' L st) : Run p l e R s m args below meth c n0 P h k n pc Ls (x :: st) := by
  subst hp; exact Run.pure (fun T locs X _ t z => XS.astore X.here C.1 rfl (hb C.2.2.1 hd) rfl hv hl z) r
theorem s_iconst (C : Ctx p l e R s m args below meth c Z own cd maxL ret nm) {i : Int} (hd : decode cd pc = .ok (.iconst i, 1)) (hp : pc + 1 = pc') (v : Int32) (hv : Int32.ofInt i = v) (r : Run p l e R s m args below meth c n0 P h k n pc' Ls (.int v :: st)) : Run p l e R s m args below meth c n0 P h k n pc Ls st := by
  subst hp hv; exact Run.pure (fun T locs X _ t z => XS.iconst X.here C.1 rfl (hb C.2.2.1 hd) z) r
theorem s_bipush (C : Ctx p l e R s m args below meth c Z own cd maxL ret nm) {i : Int} (hd : decode cd pc = .ok (.bipush i, 2)) (hp : pc + 2 = pc') (v : Int32) (hv : (Int8.ofInt i).toInt32 = v) (r : Run p l e R s m args below meth c n0 P h k n pc' Ls (.int v :: st)) : Run p l e R s m args below meth c n0 P h k n pc Ls st := by
  subst hp hv; exact Run.pure (fun T locs X _ t z => XS.bipush X.here C.1 rfl (hb C.2.2.1 hd) z) r
theorem s_sipush (C : Ctx p l e R s m args below meth c Z own cd maxL ret nm) {i : Int} (hd : decode cd pc = .ok (.sipush i, 3)) (hp : pc + 3 = pc') (v : Int32) (hv : (Int16.ofInt i).toInt32 = v) (r : Run p l e R s m args below meth c n0 P h k n pc' Ls (.int v :: st)) : Run p l e R s m args below meth c n0 P h k n pc Ls st := by
  subst hp hv; exact Run.pure (fun T locs X _ t z => XS.sipush X.here C.1 rfl (hb C.2.2.1 hd) z) r
theorem s_lconst (C : Ctx p l e R s m args below meth c Z own cd maxL ret nm) {i : Fin 2} (hd : decode cd pc = .ok (.lconst i, 1)) (hp : pc + 1 = pc') (v : Int64) (hv : Int64.ofNat i.val = v) (r : Run p l e R s m args below meth c n0 P h k n pc' Ls (.long v :: st)) : Run p l e R s m args below meth c n0 P h k n pc Ls st := by
  subst hp hv; exact Run.pure (fun T locs X _ t z => XS.lconst X.here C.1 rfl (hb C.2.2.1 hd) z) r
theorem s_null (C : Ctx p l e R s m args below meth c Z own cd maxL ret nm) (hd : decode cd pc = .ok (.aconst_null, 1)) (hp : pc + 1 = pc') (r : Run p l e R s m args below meth c n0 P h k n pc' Ls (.null :: st)) : Run p l e R s m args below meth c n0 P h k n pc Ls st := by
  subst hp; exact Run.pure (fun T locs X _ t z => XS.aconstNull X.here C.1 rfl (hb C.2.2.1 hd) z) r
theorem s_ldc (C : Ctx p l e R s m args below meth c Z own cd maxL ret nm) {i : Nat} {v : Int32} (hd : decode cd pc = .ok (.ldc i, 2)) (hp : pc + 2 = pc') (w : (Jvm.Cond.constant own i v).before a0 Z = true) (r : Run p l e R s m args below meth c n0 P h k n pc' Ls (.int v :: st)) : Run p l e R s m args below meth c n0 P h k n pc Ls st := by
  subst hp; exact Run.pure (fun T locs X _ t z => X.ldcInt C.1 C.2.2.2.2.1 (mvT C.2.1 w) (g := mkF m pc Ls st) rfl (hb C.2.2.1 hd) _ z) r
theorem s_ldc2 (C : Ctx p l e R s m args below meth c Z own cd maxL ret nm) {i : Nat} {v : Int64} (hd : decode cd pc = .ok (.ldc2_w i, 3)) (hp : pc + 3 = pc') (w : (Jvm.Cond.constantLong own i v).before a0 Z = true) (r : Run p l e R s m args below meth c n0 P h k n pc' Ls (.long v :: st)) : Run p l e R s m args below meth c n0 P h k n pc Ls st := by
  subst hp; exact Run.pure (fun T locs X _ t z => X.ldc2Long C.1 C.2.2.2.2.1 (mvT C.2.1 w) (g := mkF m pc Ls st) rfl (hb C.2.2.1 hd) _ z) r
theorem s_iinc (C : Ctx p l e R s m args below meth c Z own cd maxL ret nm) {q : Nat} {cst : Int} {x : Int32} (hd : decode cd pc = .ok (.iinc q cst, 3)) (hp : pc + 3 = pc') (hl : Ls[q]? = some (.val (.int x))) (z : Int32) (hz : Int32.ofInt cst = z) (L : Int32 → Array Slot) (hl' : ∀ y, storeLocals Ls q (.int y) = some (L y)) (r : ∀ y, y = x + z → Run p l e R s m args below meth c n0 P h k n pc' (L y) st) : Run p l e R s m args below meth c n0 P h k n pc Ls st := by
  subst hp hz; exact Run.pure (fun T locs X _ t z => XS.iinc X.here C.1 rfl (hb C.2.2.1 hd) hl (hl' _) z) (r _ rfl)
theorem s_iincP (C : Ctx p l e R s m args below meth c Z own cd maxL ret nm) {q : Nat} {cst : Int} {x : Int32} (hd : decode cd pc = .ok (.iinc q cst, 3)) (hp : pc + 3 = pc') (hl : Ls[q]? = some (.val (.int x))) (z : Int32) (hz : x + Int32.ofInt cst = z) (L : Array Slot) (hl' : storeLocals Ls q (.int z) = some L) (r : Run p l e R s m args below meth c n0 P h k n pc' L st) : Run p l e R s m args below meth c n0 P h k n pc Ls st := by
  subst hp hz; exact Run.pure (fun T locs X _ t z => XS.iinc X.here C.1 rfl (hb C.2.2.1 hd) hl hl' z) r
/-! plain steps -/
theorem s_iadd (C : Ctx p l e R s m args below meth c Z own cd maxL ret nm) {x y : Int32} (hd : decode cd pc = .ok (.iadd, 1)) (hp : pc + 1 = pc') (r : Run p l e R s m args below meth c n0 P h k n pc' Ls (.int (x + y) :: st)) : Run p l e R s m args below meth c n0 P h k n pc Ls (.int y :: .int x :: st) := by
  subst hp; exact Run.pure (fun T locs X _ t z => XS.iadd X.here C.1 rfl (hb C.2.2.1 hd) rfl z) r
theorem s_isub (C : Ctx p l e R s m args below meth c Z own cd maxL ret nm) {x y : Int32} (hd : decode cd pc = .ok (.isub, 1)) (hp : pc + 1 = pc') (r : Run p l e R s m args below meth c n0 P h k n pc' Ls (.int (x - y) :: st)) : Run p l e R s m args below meth c n0 P h k n pc Ls (.int y :: .int x :: st) := by
  subst hp; exact Run.pure (fun T locs X _ t z => XS.isub X.here C.1 rfl (hb C.2.2.1 hd) rfl z) r
theorem s_imul (C : Ctx p l e R s m args below meth c Z own cd maxL ret nm) {x y : Int32} (hd : decode cd pc = .ok (.imul, 1)) (hp : pc + 1 = pc') (r : Run p l e R s m args below meth c n0 P h k n pc' Ls (.int (x * y) :: st)) : Run p l e R s m args below meth c n0 P h k n pc Ls (.int y :: .int x :: st) := by
  subst hp; exact Run.pure (fun T locs X _ t z => XS.imul X.here C.1 rfl (hb C.2.2.1 hd) rfl z) r
theorem s_iand (C : Ctx p l e R s m args below meth c Z own cd maxL ret nm) {x y : Int32} (hd : decode cd pc = .ok (.iand, 1)) (hp : pc + 1 = pc') (r : Run p l e R s m args below meth c n0 P h k n pc' Ls (.int (x &&& y) :: st)) : Run p l e R s m args below meth c n0 P h k n pc Ls (.int y :: .int x :: st) := by
  subst hp; exact Run.pure (fun T locs X _ t z => XS.iand X.here C.1 rfl (hb C.2.2.1 hd) rfl z) r
theorem s_ior (C : Ctx p l e R s m args below meth c Z own cd maxL ret nm) {x y : Int32} (hd : decode cd pc = .ok (.ior, 1)) (hp : pc + 1 = pc') (r : Run p l e R s m args below meth c n0 P h k n pc' Ls (.int (x ||| y) :: st)) : Run p l e R s m args below meth c n0 P h k n pc Ls (.int y :: .int x :: st) := by
  subst hp; exact Run.pure (fun T locs X _ t z => XS.ior X.here C.1 rfl (hb C.2.2.1 hd) rfl z) r
theorem s_ixor (C : Ctx p l e R s m args below meth c Z own cd maxL ret nm) {x y : Int32} (hd : decode cd pc = .ok (.ixor, 1)) (hp : pc + 1 = pc') (r : Run p l e R s m args below meth c n0 P h k n pc' Ls (.int (x ^^^ y) :: st)) : Run p l e R s m args below meth c n0 P h k n pc Ls (.int y :: .int x :: st) := by
  subst hp; exact Run.pure (fun T locs X _ t z => XS.ixor X.here C.1 rfl (hb C.2.2.1 hd) rfl z) r
theorem s_ishl (C : Ctx p l e R s m args below meth c Z own cd maxL ret nm) {x y : Int32} (hd : decode cd pc = .ok (.ishl, 1)) (hp : pc + 1 = pc') (r : Run p l e R s m args below meth c n0 P h k n pc' Ls (.int (x <<< (y &&& 31)) :: st)) : Run p l e R s m args below meth c n0 P h k n pc Ls (.int y :: .int x :: st) := by
  subst hp; exact Run.pure (fun T locs X _ t z => XS.ishl X.here C.1 rfl (hb C.2.2.1 hd) rfl z) r
theorem s_ishr (C : Ctx p l e R s m args below meth c Z own cd maxL ret nm) {x y : Int32} (hd : decode cd pc = .ok (.ishr, 1)) (hp : pc + 1 = pc') (r : Run p l e R s m args below meth c n0 P h k n pc' Ls (.int (x >>> (y &&& 31)) :: st)) : Run p l e R s m args below meth c n0 P h k n pc Ls (.int y :: .int x :: st) := by
  subst hp; exact Run.pure (fun T locs X _ t z => XS.ishr X.here C.1 rfl (hb C.2.2.1 hd) rfl z) r
theorem s_iushr (C : Ctx p l e R s m args below meth c Z own cd maxL ret nm) {x y : Int32} (hd : decode cd pc = .ok (.iushr, 1)) (hp : pc + 1 = pc') (r : Run p l e R s m args below meth c n0 P h k n pc' Ls (.int ((x.toUInt32 >>> (y &&& 31).toUInt32).toInt32) :: st)) : Run p l e R s m args below meth c n0 P h k n pc Ls (.int y :: .int x :: st) := by
  subst hp; exact Run.pure (fun T locs X _ t z => XS.iushr X.here C.1 rfl (hb C.2.2.1 hd) rfl z) r
theorem s_ladd (C : Ctx p l e R s m args below meth c Z own cd maxL ret nm) {x y : Int64} (hd : decode cd pc = .ok (.ladd, 1)) (hp : pc + 1 = pc') (r : Run p l e R s m args below meth c n0 P h k n pc' Ls (.long (x + y) :: st)) : Run p l e R s m args below meth c n0 P h k n pc Ls (.long y :: .long x :: st) := by
  subst hp; exact Run.pure (fun T locs X _ t z => XS.ladd X.here C.1 rfl (hb C.2.2.1 hd) rfl z) r
theorem s_lsub (C : Ctx p l e R s m args below meth c Z own cd maxL ret nm) {x y : Int64} (hd : decode cd pc = .ok (.lsub, 1)) (hp : pc + 1 = pc') (r : Run p l e R s m args below meth c n0 P h k n pc' Ls (.long (x - y) :: st)) : Run p l e R s m args below meth c n0 P h k n pc Ls (.long y :: .long x :: st) := by
  subst hp; exact Run.pure (fun T locs X _ t z => XS.lsub X.here C.1 rfl (hb C.2.2.1 hd) rfl z) r
theorem s_lmul (C : Ctx p l e R s m args below meth c Z own cd maxL ret nm) {x y : Int64} (hd : decode cd pc = .ok (.lmul, 1)) (hp : pc + 1 = pc') (r : Run p l e R s m args below meth c n0 P h k n pc' Ls (.long (x * y) :: st)) : Run p l e R s m args below meth c n0 P h k n pc Ls (.long y :: .long x :: st) := by
  subst hp; exact Run.pure (fun T locs X _ t z => XS.lmul X.here C.1 rfl (hb C.2.2.1 hd) rfl z) r
theorem s_land (C : Ctx p l e R s m args below meth c Z own cd maxL ret nm) {x y : Int64} (hd : decode cd pc = .ok (.land, 1)) (hp : pc + 1 = pc') (r : Run p l e R s m args below meth c n0 P h k n pc' Ls (.long (x &&& y) :: st)) : Run p l e R s m args below meth c n0 P h k n pc Ls (.long y :: .long x :: st) := by
  subst hp; exact Run.pure (fun T locs X _ t z => XS.land X.here C.1 rfl (hb C.2.2.1 hd) rfl z) r
theorem s_lor (C : Ctx p l e R s m args below meth c Z own cd maxL ret nm) {x y : Int64} (hd : decode cd pc = .ok (.lor, 1)) (hp : pc + 1 = pc') (r : Run p l e R s m args below meth c n0 P h k n pc' Ls (.long (x ||| y) :: st)) : Run p l e R s m args below meth c n0 P h k n pc Ls (.long y :: .long x :: st) := by
  subst hp; exact Run.pure (fun T locs X _ t z => XS.lor X.here C.1 rfl (hb C.2.2.1 hd) rfl z) r
theorem s_lxor (C : Ctx p l e R s m args below meth c Z own cd maxL ret nm) {x y : Int64} (hd : decode cd pc = .ok (.lxor, 1)) (hp : pc + 1 = pc') (r : Run p l e R s m args below meth c n0 P h k n pc' Ls (.long (x ^^^ y) :: st)) : Run p l e R s m args below meth c n0 P h k n pc Ls (.long y :: .long x :: st) := by
  subst hp; exact Run.pure (fun T locs X _ t z => XS.lxor X.here C.1 rfl (hb C.2.2.1 hd) rfl z) r
theorem s_lshl (C : Ctx p l e R s m args below meth c Z own cd maxL ret nm) {x : Int64} {y : Int32} (hd : decode cd pc = .ok (.lshl, 1)) (hp : pc + 1 = pc') (r : Run p l e R s m args below meth c n0 P h k n pc' Ls (.long (x <<< (y &&& 0x3f).toInt64) :: st)) : Run p l e R s m args below meth c n0 P h k n pc Ls (.int y :: .long x :: st) := by
  subst hp; exact Run.pure (fun T locs X _ t z => XS.lshl X.here C.1 rfl (hb C.2.2.1 hd) rfl z) r
theorem s_lshr (C : Ctx p l e R s m args below meth c Z own cd maxL ret nm) {x : Int64} {y : Int32} (hd : decode cd pc = .ok (.lshr, 1)) (hp : pc + 1 = pc') (r : Run p l e R s m args below meth c n0 P h k n pc' Ls (.long (x >>> (y &&& 0x3f).toInt64) :: st)) : Run p l e R s m args below meth c n0 P h k n pc Ls (.int y :: .long x :: st) := by
  subst hp; exact Run.pure (fun T locs X _ t z => XS.lshr X.here C.1 rfl (hb C.2.2.1 hd) rfl z) r
theorem s_lushr (C : Ctx p l e R s m args below meth c Z own cd maxL ret nm) {x : Int64} {y : Int32} (hd : decode cd pc = .ok (.lushr, 1)) (hp : pc + 1 = pc') (r : Run p l e R s m args below meth c n0 P h k n pc' Ls (.long ((x.toUInt64 >>> (y &&& 0x3f).toInt64.toUInt64).toInt64) :: st)) : Run p l e R s m args below meth c n0 P h k n pc Ls (.int y :: .long x :: st) := by
  subst hp; exact Run.pure (fun T locs X _ t z => XS.lushr X.here C.1 rfl (hb C.2.2.1 hd) rfl z) r
theorem s_idiv (C : Ctx p l e R s m args below meth c Z own cd maxL ret nm) {x y : Int32} (hd : decode cd pc = .ok (.idiv, 1)) (hp : pc + 1 = pc') (hy : y ≠ 0) (r : Run p l e R s m args below meth c n0 P h k n pc' Ls (.int (x / y) :: st)) : Run p l e R s m args below meth c n0 P h k n pc Ls (.int y :: .int x :: st) := by
  subst hp; exact Run.pure (fun T locs X _ t z => XS.idiv X.here C.1 rfl (hb C.2.2.1 hd) rfl hy z) r
theorem s_irem (C : Ctx p l e R s m args below meth c Z own cd maxL ret nm) {x y : Int32} (hd : decode cd pc = .ok (.irem, 1)) (hp : pc + 1 = pc') (hy : y ≠ 0) (r : Run p l e R s m args below meth c n0 P h k n pc' Ls (.int (x % y) :: st)) : Run p l e R s m args below meth c n0 P h k n pc Ls (.int y :: .int x :: st) := by
  subst hp; exact Run.pure (fun T locs X _ t z => iremM X C.1 (g := mkF m pc Ls (.int y :: .int x :: st)) rfl (hb C.2.2.1 hd) rfl hy z) r
theorem s_ldiv (C : Ctx p l e R s m args below meth c Z own cd maxL ret nm) {x y : Int64} (hd : decode cd pc = .ok (.ldiv, 1)) (hp : pc + 1 = pc') (hy : y ≠ 0) (r : Run p l e R s m args below meth c n0 P h k n pc' Ls (.long (x / y) :: st)) : Run p l e R s m args below meth c n0 P h k n pc Ls (.long y :: .long x :: st) := by
  subst hp; exact Run.pure (fun T locs X _ t z => XS.ldiv X.here C.1 rfl (hb C.2.2.1 hd) rfl hy z) r
theorem s_lrem (C : Ctx p l e R s m args below meth c Z own cd maxL ret nm) {x y : Int64} (hd : decode cd pc = .ok (.lrem, 1)) (hp : pc + 1 = pc') (hy : y ≠ 0) (r : Run p l e R s m args below meth c n0 P h k n pc' Ls (.long (x % y) :: st)) : Run p l e R s m args below meth c n0 P h k n pc Ls (.long y :: .long x :: st) := by
  subst hp; rw [← lrem_mod] at r; exact Run.pure (fun T locs X _ t z => XS.lrem X.here C.1 rfl (hb C.2.2.1 hd) rfl hy z) r
theorem s_ineg (C : Ctx p l e R s m args below meth c Z own cd maxL ret nm) {x : Int32} (hd : decode cd pc = .ok (.ineg, 1)) (hp : pc + 1 = pc') (r : Run p l e R s m args below meth c n0 P h k n pc' Ls (.int (-x) :: st)) : Run p l e R s m args below meth c n0 P h k n pc Ls (.int x :: st) := by
  subst hp; exact Run.pure (fun T locs X _ t z => XS.ineg X.here C.1 rfl (hb C.2.2.1 hd) rfl z) r
theorem s_lneg (C : Ctx p l e R s m args below meth c Z own cd maxL ret nm) {x : Int64} (hd : decode cd pc = .ok (.lneg, 1)) (hp : pc + 1 = pc') (r : Run p l e R s m args below meth c n0 P h k n pc' Ls (.long (-x) :: st)) : Run p l e R s m args below meth c n0 P h k n pc Ls (.long x :: st) := by
  subst hp; exact Run.pure (fun T locs X _ t z => XS.lneg X.here C.1 rfl (hb C.2.2.1 hd) rfl z) r
theorem s_i2l (C : Ctx p l e R s m args below meth c Z own cd maxL ret nm) {x : Int32} (hd : decode cd pc = .ok (.i2l, 1)) (hp : pc + 1 = pc') (r : Run p l e R s m args below meth c n0 P h k n pc' Ls (.long (x.toInt64) :: st)) : Run p l e R s m args below meth c n0 P h k n pc Ls (.int x :: st) := by
  subst hp; exact Run.pure (fun T locs X _ t z => XS.i2l X.here C.1 rfl (hb C.2.2.1 hd) rfl z) r
theorem s_l2i (C : Ctx p l e R s m args below meth c Z own cd maxL ret nm) {x : Int64} (hd : decode cd pc = .ok (.l2i, 1)) (hp : pc + 1 = pc') (r : Run p l e R s m args below meth c n0 P h k n pc' Ls (.int (x.toInt32) :: st)) : Run p l e R s m args below meth c n0 P h k n pc Ls (.long x :: st) := by
  subst hp; exact Run.pure (fun T locs X _ t z => XS.l2i X.here C.1 rfl (hb C.2.2.1 hd) rfl z) r
theorem s_i2b (C : Ctx p l e R s m args below meth c Z own cd maxL ret nm) {x : Int32} (hd : decode cd pc = .ok (.i2b, 1)) (hp : pc + 1 = pc') (r : Run p l e R s m args below meth c n0 P h k n pc' Ls (.int (x.toInt8.toInt32) :: st)) : Run p l e R s m args below meth c n0 P h k n pc Ls (.int x :: st) := by
  subst hp; exact Run.pure (fun T locs X _ t z => XS.i2b X.here C.1 rfl (hb C.2.2.1 hd) rfl z) r
theorem s_i2s (C : Ctx p l e R s m args below meth c Z own cd maxL ret nm) {x : Int32} (hd : decode cd pc = .ok (.i2s, 1)) (hp : pc + 1 = pc') (r : Run p l e R s m args below meth c n0 P h k n pc' Ls (.int (x.toInt16.toInt32) :: st)) : Run p l e R s m args below meth c n0 P h k n pc Ls (.int x :: st) := by
  subst hp; exact Run.pure (fun T locs X _ t z => XS.i2s X.here C.1 rfl (hb C.2.2.1 hd) rfl z) r
theorem s_i2c (C : Ctx p l e R s m args below meth c Z own cd maxL ret nm) {x : Int32} (hd : decode cd pc = .ok (.i2c, 1)) (hp : pc + 1 = pc') (r : Run p l e R s m args below meth c n0 P h k n pc' Ls (.int (x.toUInt32.toUInt16.toUInt32.toInt32) :: st)) : Run p l e R s m args below meth c n0 P h k n pc Ls (.int x :: st) := by
  subst hp; exact Run.pure (fun T locs X _ t z => XS.i2c X.here C.1 rfl (hb C.2.2.1 hd) rfl z) r
theorem s_lcmp (C : Ctx p l e R s m args below meth c Z own cd maxL ret nm) {x y : Int64} (hd : decode cd pc = .ok (.lcmp, 1)) (hp : pc + 1 = pc') (r : Run p l e R s m args below meth c n0 P h k n pc' Ls (.int (lcmpW x y) :: st)) : Run p l e R s m args below meth c n0 P h k n pc Ls (.long y :: .long x :: st) := by
  subst hp; exact Run.pure (fun T locs X _ t z => XS.lcmp X.here C.1 rfl (hb C.2.2.1 hd) rfl z) r
theorem s_goto (C : Ctx p l e R s m args below meth c Z own cd maxL ret nm) {o : Int} (hd : decode cd pc = .ok (.goto o, 3)) (hp : (pc : Int) + o = (pc' : Int)) (r : Run p l e R s m args below meth c n0 P h k n pc' Ls st) : Run p l e R s m args below meth c n0 P h k n pc Ls st :=
  Run.pure (fun T locs X _ t z => XS.goto X.here C.1 rfl (pc0 := pc) rfl (hb C.2.2.1 hd) (by omega) (by omega) z) r
theorem s_dup (C : Ctx p l e R s m args below meth c Z own cd maxL ret nm) {v : Value} (hd : decode cd pc = .ok (.dup, 1)) (hp : pc + 1 = pc') (hc : v.category = 1) (r : Run p l e R s m args below meth c n0 P h k n pc' Ls (v :: v :: st)) : Run p l e R s m args below meth c n0 P h k n pc Ls (v :: st) := by
  subst hp; exact Run.pure (fun T locs X _ t z => XS.dup X.here C.1 rfl (hb C.2.2.1 hd) rfl hc z) r
theorem s_pop (C : Ctx p l e R s m args below meth c Z own cd maxL ret nm) {v : Value} (hd : decode cd pc = .ok (.pop, 1)) (hp : pc + 1 = pc') (hc : v.category = 1) (r : Run p l e R s m args below meth c n0 P h k n pc' Ls st) : Run p l e R s m args below meth c n0 P h k n pc Ls (v :: st) := by
  subst hp; exact Run.pure (fun T locs X _ t z => XS.pop X.here C.1 rfl (hb C.2.2.1 hd) rfl hc z) r
theorem s_dup2 (C : Ctx p l e R s m args below meth c Z own cd maxL ret nm) {v w : Value} (hd : decode cd pc = .ok (.dup2, 1)) (hp : pc + 1 = pc') (hc : v.category = 1) (hc' : w.category = 1) (r : Run p l e R s m args below meth c n0 P h k n pc' Ls (v :: w :: v :: w :: st)) : Run p l e R s m args below meth c n0 P h k n pc Ls (v :: w :: st) := by
  subst hp; exact Run.pure (fun T locs X _ t z => XT.dup2 X.here C.1 rfl (hb C.2.2.1 hd) rfl hc hc' z) r
theorem s_dupX1 (C : Ctx p l e R s m args below meth c Z own cd maxL ret nm) {v w : Value} (hd : decode cd pc = .ok (.dup_x1, 1)) (hp : pc + 1 = pc') (hc : v.category = 1) (hc' : w.category = 1) (r : Run p l e R s m args below meth c n0 P h k n pc' Ls (v :: w :: v :: st)) : Run p l e R s m args below meth c n0 P h k n pc Ls (v :: w :: st) := by
  subst hp; exact Run.pure (fun T locs X _ t z => XS.dupX1 X.here C.1 rfl (hb C.2.2.1 hd) rfl hc hc' z) r
/-! branches -/
theorem s_if (C : Ctx p l e R s m args below meth c Z own cd maxL ret nm) {cc : ClassFile.Cond} {o : Int} {x : Int32} {pcY : Nat} (hd : decode cd pc = .ok (.ifCond cc o, 3)) (hp : pc + 3 = pc') (ho : (pc : Int) + o = (pcY : Int)) (rY : if_icmp.holds cc x 0 = true → Run p l e R s m args below meth c n0 P h k n pcY Ls st) (rN : if_icmp.holds cc x 0 = false → Run p l e R s m args below meth c n0 P h k n pc' Ls st) : Run p l e R s m args below meth c n0 P h k n pc Ls (.int x :: st) := by
  subst hp
  cases hq : if_icmp.holds cc x 0
  · exact Run.pure (fun T locs X _ t z => XS.ifNo X.here C.1 rfl (hb C.2.2.1 hd) rfl ((if0 _ _).trans hq) z) (rN hq)
  · exact Run.pure (fun T locs X _ t z => XS.ifYes X.here C.1 rfl (pc0 := pc) rfl (hb C.2.2.1 hd) rfl ((if0 _ _).trans hq) (by omega) (by omega) z) (rY hq)
theorem s_icmp (C : Ctx p l e R s m args below meth c Z own cd maxL ret nm) {cc : ClassFile.Cond} {o : Int} {x y : Int32} {pcY : Nat} (hd : decode cd pc = .ok (.if_icmp cc o, 3)) (hp : pc + 3 = pc') (ho : (pc : Int) + o = (pcY : Int)) (rY : if_icmp.holds cc x y = true → Run p l e R s m args below meth c n0 P h k n pcY Ls st) (rN : if_icmp.holds cc x y = false → Run p l e R s m args below meth c n0 P h k n pc' Ls st) : Run p l e R s m args below meth c n0 P h k n pc Ls (.int y :: .int x :: st) := by
  subst hp
  cases hq : if_icmp.holds cc x y
  · exact Run.pure (fun T locs X _ t z => XS.icmpNo X.here C.1 rfl (hb C.2.2.1 hd) rfl hq z) (rN hq)
  · exact Run.pure (fun T locs X _ t z => XS.icmpYes X.here C.1 rfl (pc0 := pc) rfl (hb C.2.2.1 hd) rfl hq (by omega) (by omega) z) (rY hq)
theorem holds_lt {x y : Int32} : (if_icmp.holds .lt x y = true → x < y) ∧ (if_icmp.holds .lt x y = false → ¬ x < y) := ⟨fun h => by simpa [if_icmp.holds] using h, fun h q => by simp [if_icmp.holds, q] at h⟩
theorem holds_ge {x y : Int32} : (if_icmp.holds .ge x y = true → ¬ x < y) ∧ (if_icmp.holds .ge x y = false → x < y) := ⟨fun h q => (by rw [(tlt q).2.1] at h; cases h), fun h => Decidable.byContradiction fun q => (by rw [(flt q).2.1] at h; cases h)⟩
theorem holds_gt {x y : Int32} : (if_icmp.holds .gt x y = true → y < x) ∧ (if_icmp.holds .gt x y = false → ¬ y < x) := ⟨fun h => Decidable.byContradiction fun q => (by rw [(flt q).2.2.1] at h; cases h), fun h q => (by rw [(tlt q).2.2.1] at h; cases h)⟩
theorem holds_le {x y : Int32} : (if_icmp.holds .le x y = true → ¬ y < x) ∧ (if_icmp.holds .le x y = false → y < x) := ⟨fun h q => (by rw [(tlt q).2.2.2] at h; cases h), fun h => Decidable.byContradiction fun q => (by rw [(flt q).2.2.2] at h; cases h)⟩
theorem holds_eq {x y : Int32} : (if_icmp.holds .eq x y = true → x = y) ∧ (if_icmp.holds .eq x y = false → ¬ x = y) := ⟨fun h => Decidable.byContradiction fun q => (by rw [(feq q).1] at h; cases h), fun h q => (by rw [(teq q).1] at h; cases h)⟩
theorem holds_ne {x y : Int32} : (if_icmp.holds .ne x y = true → ¬ x = y) ∧ (if_icmp.holds .ne x y = false → x = y) := ⟨fun h q => (by rw [(teq q).2] at h; cases h), fun h => Decidable.byContradiction fun q => (by rw [(feq q).2] at h; cases h)⟩
theorem s_if_lt (C : Ctx p l e R s m args below meth c Z own cd maxL ret nm) {o : Int} {x : Int32} {pcY : Nat} (hd : decode cd pc = .ok (.ifCond .lt o, 3)) (hp : pc + 3 = pc') (ho : (pc : Int) + o = (pcY : Int)) (rY : x < (0 : Int32) → Run p l e R s m args below meth c n0 P h k n pcY Ls st) (rN : ¬ x < (0 : Int32) → Run p l e R s m args below meth c n0 P h k n pc' Ls st) : Run p l e R s m args below meth c n0 P h k n pc Ls (.int x :: st) :=
  s_if C hd hp ho (fun h => rY (holds_lt.1 h)) (fun h => rN (holds_lt.2 h))
theorem s_icmp_lt (C : Ctx p l e R s m args below meth c Z own cd maxL ret nm) {o : Int} {x y : Int32} {pcY : Nat} (hd : decode cd pc = .ok (.if_icmp .lt o, 3)) (hp : pc + 3 = pc') (ho : (pc : Int) + o = (pcY : Int)) (rY : x < y → Run p l e R s m args below meth c n0 P h k n pcY Ls st) (rN : ¬ x < y → Run p l e R s m args below meth c n0 P h k n pc' Ls st) : Run p l e R s m args below meth c n0 P h k n pc Ls (.int y :: .int x :: st) :=
  s_icmp C hd hp ho (fun h => rY (holds_lt.1 h)) (fun h => rN (holds_lt.2 h))
theorem s_lc_lt (C : Ctx p l e R s m args below meth c Z own cd maxL ret nm) {o : Int} {x y : Int64} {pc1 pcY : Nat} (hd : decode cd pc = .ok (.lcmp, 1)) (hp1 : pc + 1 = pc1) (hd2 : decode cd pc1 = .ok (.ifCond .lt o, 3)) (hp : pc1 + 3 = pc') (ho : (pc1 : Int) + o = (pcY : Int)) (rY : x < y → Run p l e R s m args below meth c n0 P h k n pcY Ls st) (rN : ¬ x < y → Run p l e R s m args below meth c n0 P h k n pc' Ls st) : Run p l e R s m args below meth c n0 P h k n pc Ls (.long y :: .long x :: st) :=
  s_lcmp C hd hp1 (s_if_lt C hd2 hp ho (fun h => rY ((lw_lt x y).mp h)) (fun h => rN (fun q => h ((lw_lt x y).mpr q))))
theorem s_if_ge (C : Ctx p l e R s m args below meth c Z own cd maxL ret nm) {o : Int} {x : Int32} {pcY : Nat} (hd : decode cd pc = .ok (.ifCond .ge o, 3)) (hp : pc + 3 = pc') (ho : (pc : Int) + o = (pcY : Int)) (rY : ¬ x < (0 : Int32) → Run p l e R s m args below meth c n0 P h k n pcY Ls st) (rN : x < (0 : Int32) → Run p l e R s m args below meth c n0 P h k n pc' Ls st) : Run p l e R s m args below meth c n0 P h k n pc Ls (.int x :: st) :=
  s_if C hd hp ho (fun h => rY (holds_ge.1 h)) (fun h => rN (holds_ge.2 h))
theorem s_icmp_ge (C : Ctx p l e R s m args below meth c Z own cd maxL ret nm) {o : Int} {x y : Int32} {pcY : Nat} (hd : decode cd pc = .ok (.if_icmp .ge o, 3)) (hp : pc + 3 = pc') (ho : (pc : Int) + o = (pcY : Int)) (rY : ¬ x < y → Run p l e R s m args below meth c n0 P h k n pcY Ls st) (rN : x < y → Run p l e R s m args below meth c n0 P h k n pc' Ls st) : Run p l e R s m args below meth c n0 P h k n pc Ls (.int y :: .int x :: st) :=
  s_icmp C hd hp ho (fun h => rY (holds_ge.1 h)) (fun h => rN (holds_ge.2 h))
theorem s_lc_ge (C : Ctx p l e R s m args below meth c Z own cd maxL ret nm) {o : Int} {x y : Int64} {pc1 pcY : Nat} (hd : decode cd pc = .ok (.lcmp, 1)) (hp1 : pc + 1 = pc1) (hd2 : decode cd pc1 = .ok (.ifCond .ge o, 3)) (hp : pc1 + 3 = pc') (ho : (pc1 : Int) + o = (pcY : Int)) (rY : ¬ x < y → Run p l e R s m args below meth c n0 P h k n pcY Ls st) (rN : x < y → Run p l e R s m args below meth c n0 P h k n pc' Ls st) : Run p l e R s m args below meth c n0 P h k n pc Ls (.long y :: .long x :: st) :=
  s_lcmp C hd hp1 (s_if_ge C hd2 hp ho (fun h => rY (fun q => h ((lw_lt x y).mpr q))) (fun h => rN ((lw_lt x y).mp h)))
theorem s_if_gt (C : Ctx p l e R s m args below meth c Z own cd maxL ret nm) {o : Int} {x : Int32} {pcY : Nat} (hd : decode cd pc = .ok (.ifCond .gt o, 3)) (hp : pc + 3 = pc') (ho : (pc : Int) + o = (pcY : Int)) (rY : (0 : Int32) < x → Run p l e R s m args below meth c n0 P h k n pcY Ls st) (rN : ¬ (0 : Int32) < x → Run p l e R s m args below meth c n0 P h k n pc' Ls st) : Run p l e R s m args below meth c n0 P h k n pc Ls (.int x :: st) :=
  s_if C hd hp ho (fun h => rY (holds_gt.1 h)) (fun h => rN (holds_gt.2 h))
theorem s_icmp_gt (C : Ctx p l e R s m args below meth c Z own cd maxL ret nm) {o : Int} {x y : Int32} {pcY : Nat} (hd : decode cd pc = .ok (.if_icmp .gt o, 3)) (hp : pc + 3 = pc') (ho : (pc : Int) + o = (pcY : Int)) (rY : y < x → Run p l e R s m args below meth c n0 P h k n pcY Ls st) (rN : ¬ y < x → Run p l e R s m args below meth c n0 P h k n pc' Ls st) : Run p l e R s m args below meth c n0 P h k n pc Ls (.int y :: .int x :: st) :=
  s_icmp C hd hp ho (fun h => rY (holds_gt.1 h)) (fun h => rN (holds_gt.2 h))
theorem s_lc_gt (C : Ctx p l e R s m args below meth c Z own cd maxL ret nm) {o : Int} {x y : Int64} {pc1 pcY : Nat} (hd : decode cd pc = .ok (.lcmp, 1)) (hp1 : pc + 1 = pc1) (hd2 : decode cd pc1 = .ok (.ifCond .gt o, 3)) (hp : pc1 + 3 = pc') (ho : (pc1 : Int) + o = (pcY : Int)) (rY : y < x → Run p l e R s m args below meth c n0 P h k n pcY Ls st) (rN : ¬ y < x → Run p l e R s m args below meth c n0 P h k n pc' Ls st) : Run p l e R s m args below meth c n0 P h k n pc Ls (.long y :: .long x :: st) :=
  s_lcmp C hd hp1 (s_if_gt C hd2 hp ho (fun h => rY ((lw_gt x y).mp h)) (fun h => rN (fun q => h ((lw_gt x y).mpr q))))
theorem s_if_le (C : Ctx p l e R s m args below meth c Z own cd maxL ret nm) {o : Int} {x : Int32} {pcY : Nat} (hd : decode cd pc = .ok (.ifCond .le o, 3)) (hp : pc + 3 = pc') (ho : (pc : Int) + o = (pcY : Int)) (rY : ¬ (0 : Int32) < x → Run p l e R s m args below meth c n0 P h k n pcY Ls st) (rN : (0 : Int32) < x → Run p l e R s m args below meth c n0 P h k n pc' Ls st) : Run p l e R s m args below meth c n0 P h k n pc Ls (.int x :: st) :=
  s_if C hd hp ho (fun h => rY (holds_le.1 h)) (fun h => rN (holds_le.2 h))
theorem s_icmp_le (C : Ctx p l e R s m args below meth c Z own cd maxL ret nm) {o : Int} {x y : Int32} {pcY : Nat} (hd : decode cd pc = .ok (.if_icmp .le o, 3)) (hp : pc + 3 = pc') (ho : (pc : Int) + o = (pcY : Int)) (rY : ¬ y < x → Run p l e R s m args below meth c n0 P h k n pcY Ls st) (rN : y < x → Run p l e R s m args below meth c n0 P h k n pc' Ls st) : Run p l e R s m args below meth c n0 P h k n pc Ls (.int y :: .int x :: st) :=
  s_icmp C hd hp ho (fun h => rY (holds_le.1 h)) (fun h => rN (holds_le.2 h))
theorem s_lc_le (C : Ctx p l e R s m args below meth c Z own cd maxL ret nm) {o : Int} {x y : Int64} {pc1 pcY : Nat} (hd : decode cd pc = .ok (.lcmp, 1)) (hp1 : pc + 1 = pc1) (hd2 : decode cd pc1 = .ok (.ifCond .le o, 3)) (hp : pc1 + 3 = pc') (ho : (pc1 : Int) + o = (pcY : Int)) (rY : ¬ y < x → Run p l e R s m args below meth c n0 P h k n pcY Ls st) (rN : y < x → Run p l e R s m args below meth c n0 P h k n pc' Ls st) : Run p l e R s m args below meth c n0 P h k n pc Ls (.long y :: .long x :: st) :=
  s_lcmp C hd hp1 (s_if_le C hd2 hp ho (fun h => rY (fun q => h ((lw_gt x y).mpr q))) (fun h => rN ((lw_gt x y).mp h)))
theorem s_if_eq (C : Ctx p l e R s m args below meth c Z own cd maxL ret nm) {o : Int} {x : Int32} {pcY : Nat} (hd : decode cd pc = .ok (.ifCond .eq o, 3)) (hp : pc + 3 = pc') (ho : (pc : Int) + o = (pcY : Int)) (rY : x = (0 : Int32) → Run p l e R s m args below meth c n0 P h k n pcY Ls st) (rN : ¬ x = (0 : Int32) → Run p l e R s m args below meth c n0 P h k n pc' Ls st) : Run p l e R s m args below meth c n0 P h k n pc Ls (.int x :: st) :=
  s_if C hd hp ho (fun h => rY (holds_eq.1 h)) (fun h => rN (holds_eq.2 h))
theorem s_icmp_eq (C : Ctx p l e R s m args below meth c Z own cd maxL ret nm) {o : Int} {x y : Int32} {pcY : Nat} (hd : decode cd pc = .ok (.if_icmp .eq o, 3)) (hp : pc + 3 = pc') (ho : (pc : Int) + o = (pcY : Int)) (rY : x = y → Run p l e R s m args below meth c n0 P h k n pcY Ls st) (rN : ¬ x = y → Run p l e R s m args below meth c n0 P h k n pc' Ls st) : Run p l e R s m args below meth c n0 P h k n pc Ls (.int y :: .int x :: st) :=
  s_icmp C hd hp ho (fun h => rY (holds_eq.1 h)) (fun h => rN (holds_eq.2 h))
theorem s_lc_eq (C : Ctx p l e R s m args below meth c Z own cd maxL ret nm) {o : Int} {x y : Int64} {pc1 pcY : Nat} (hd : decode cd pc = .ok (.lcmp, 1)) (hp1 : pc + 1 = pc1) (hd2 : decode cd pc1 = .ok (.ifCond .eq o, 3)) (hp : pc1 + 3 = pc') (ho : (pc1 : Int) + o = (pcY : Int)) (rY : x = y → Run p l e R s m args below meth c n0 P h k n pcY Ls st) (rN : ¬ x = y → Run p l e R s m args below meth c n0 P h k n pc' Ls st) : Run p l e R s m args below meth c n0 P h k n pc Ls (.long y :: .long x :: st) :=
  s_lcmp C hd hp1 (s_if_eq C hd2 hp ho (fun h => rY ((lw_eq x y).mp h)) (fun h => rN (fun q => h ((lw_eq x y).mpr q))))
theorem s_if_ne (C : Ctx p l e R s m args below meth c Z own cd maxL ret nm) {o : Int} {x : Int32} {pcY : Nat} (hd : decode cd pc = .ok (.ifCond .ne o, 3)) (hp : pc + 3 = pc') (ho : (pc : Int) + o = (pcY : Int)) (rY : ¬ x = (0 : Int32) → Run p l e R s m args below meth c n0 P h k n pcY Ls st) (rN : x = (0 : Int32) → Run p l e R s m args below meth c n0 P h k n pc' Ls st) : Run p l e R s m args below meth c n0 P h k n pc Ls (.int x :: st) :=
  s_if C hd hp ho (fun h => rY (holds_ne.1 h)) (fun h => rN (holds_ne.2 h))
theorem s_icmp_ne (C : Ctx p l e R s m args below meth c Z own cd maxL ret nm) {o : Int} {x y : Int32} {pcY : Nat} (hd : decode cd pc = .ok (.if_icmp .ne o, 3)) (hp : pc + 3 = pc') (ho : (pc : Int) + o = (pcY : Int)) (rY : ¬ x = y → Run p l e R s m args below meth c n0 P h k n pcY Ls st) (rN : x = y → Run p l e R s m args below meth c n0 P h k n pc' Ls st) : Run p l e R s m args below meth c n0 P h k n pc Ls (.int y :: .int x :: st) :=
  s_icmp C hd hp ho (fun h => rY (holds_ne.1 h)) (fun h => rN (holds_ne.2 h))
theorem s_lc_ne (C : Ctx p l e R s m args below meth c Z own cd maxL ret nm) {o : Int} {x y : Int64} {pc1 pcY : Nat} (hd : decode cd pc = .ok (.lcmp, 1)) (hp1 : pc + 1 = pc1) (hd2 : decode cd pc1 = .ok (.ifCond .ne o, 3)) (hp : pc1 + 3 = pc') (ho : (pc1 : Int) + o = (pcY : Int)) (rY : ¬ x = y → Run p l e R s m args below meth c n0 P h k n pcY Ls st) (rN : x = y → Run p l e R s m args below meth c n0 P h k n pc' Ls st) : Run p l e R s m args below meth c n0 P h k n pc Ls (.long y :: .long x :: st) :=
  s_lcmp C hd hp1 (s_if_ne C hd2 hp ho (fun h => rY (fun q => h ((lw_eq x y).mpr q))) (fun h => rN ((lw_eq x y).mp h)))
theorem s_ifnullR (C : Ctx p l e R s m args below meth c Z own cd maxL ret nm) {o : Int} {b : Addr} (hd : decode cd pc = .ok (.ifnull o, 3)) (hp : pc + 3 = pc') (r : Run p l e R s m args below meth c n0 P h k n pc' Ls st) : Run p l e R s m args below meth c n0 P h k n pc Ls (.ref b :: st) := by
  subst hp; exact Run.pure (fun T locs X _ t z => XS.ifnullNo X.here C.1 rfl (hb C.2.2.1 hd) rfl z) r
theorem s_ifnullN (C : Ctx p l e R s m args below meth c Z own cd maxL ret nm) {o : Int} (hd : decode cd pc = .ok (.ifnull o, 3)) (hp : (pc : Int) + o = (pc' : Int)) (r : Run p l e R s m args below meth c n0 P h k n pc' Ls st) : Run p l e R s m args below meth c n0 P h k n pc Ls (.null :: st) :=
  Run.pure (fun T locs X _ t z => XS.ifnullYes X.here C.1 rfl (pc0 := pc) rfl (hb C.2.2.1 hd) rfl (by omega) (by omega) z) r
theorem s_ifnonnullR (C : Ctx p l e R s m args below meth c Z own cd maxL ret nm) {o : Int} {b : Addr} (hd : decode cd pc = .ok (.ifnonnull o, 3)) (hp : (pc : Int) + o = (pc' : Int)) (r : Run p l e R s m args below meth c n0 P h k n pc' Ls st) : Run p l e R s m args below meth c n0 P h k n pc Ls (.ref b :: st) :=
  Run.pure (fun T locs X _ t z => XS.ifnonnullYes X.here C.1 rfl (pc0 := pc) rfl (hb C.2.2.1 hd) rfl (by omega) (by omega) z) r
theorem s_ifnonnullN (C : Ctx p l e R s m args below meth c Z own cd maxL ret nm) {o : Int} (hd : decode cd pc = .ok (.ifnonnull o, 3)) (hp : pc + 3 = pc') (r : Run p l e R s m args below meth c n0 P h k n pc' Ls st) : Run p l e R s m args below meth c n0 P h k n pc Ls (.null :: st) := by
  subst hp; exact Run.pure (fun T locs X _ t z => XS.ifnonnullNo X.here C.1 rfl (hb C.2.2.1 hd) rfl z) r
theorem s_acmp (C : Ctx p l e R s m args below meth c Z own cd maxL ret nm) {cc : ClassFile.ACond} {o : Int} {x y : Value} {same : Bool} (hd : decode cd pc = .ok (.if_acmp cc o, 3)) (h1 : x.isRef = true) (h2 : y.isRef = true) (hq : decide (x = y) = same) (ho : 0 ≤ (pc : Int) + o) (hp : pc' = if acV cc same = true then ((pc : Int) + o).toNat else pc + 3) (r : Run p l e R s m args below meth c n0 P h k n pc' Ls st) : Run p l e R s m args below meth c n0 P h k n pc Ls (y :: x :: st) :=
  Run.pure (fun T locs X _ t z => Jvm.RoadKit.acmp (g := mkF m pc Ls (y :: x :: st)) X C.1 rfl h1 h2 rfl (hb C.2.2.1 hd) rfl hq ho hp z) r
/-! returns -/
theorem Run.out {v : Option Value} (C : Ctx p l e R s m args below meth c Z own cd maxL ret nm) (hv : ret = none → v = none) (f : ∀ T locs, Stand p l e R s m args below meth c T locs k n → ∀ fs, (∀ (f : JFrame) (acts : List Action), f.method = m → f.locked = none → f.entered = [] → (doReturn e (T.setTop f) acts v).1 = T.setFrames fs) → Steps p.tables e below (T.setTop (mkF m pc Ls st)) (T.setFrames fs)) (hk : k ≤ R.cells) (hn : n ≤ R.slots) (hP : P v h) : Run p l e R s m args below meth c n0 P h k n pc Ls st := fun T locs X eT N => by
  obtain ⟨fs, hr, hrun, hended, hW, hsame⟩ := X.leave (v := v) (fun h => hv (C.2.2.2.2.2.1 ▸ h)) C.2.2.2.2.2.2.1
  exact ⟨_, _, f T locs X fs hr, hrun, hended, _, _, rfl, ⟨(by rw [show (T.setFrames fs).heap = h from eT]; exact hP), N⟩, ⟨_, rfl⟩, hW, hsame.mono hk hn⟩
theorem s_retI {Q : Int32 → Heap → Prop} (C : Ctx p l e R s m args below meth c Z own cd maxL (some .int) nm) {z : Int32} (hd : decode cd pc = .ok (.ireturn, 1)) (hk : k ≤ R.cells) (hn : n ≤ R.slots) (hQ : Q z h) : Run p l e R s m args below meth c n0 (RetI Q) h k n pc Ls (.int z :: st) :=
  Run.out C (fun h => by cases h) (fun T locs X fs hr => retOut X C.1 C.2.2.2.2.2.1 rfl (Or.inl ⟨rfl, Or.inl rfl, _, rfl⟩) (hb C.2.2.1 hd) hr) hk hn ⟨_, rfl, hQ⟩
theorem s_retN {Q : Int32 → Heap → Prop} {t : FieldType} (C : Ctx p l e R s m args below meth c Z own cd maxL (some t) nm) (ht : t = .boolean ∨ t = .byte ∨ t = .char ∨ t = .short) {z : Int32} (hd : decode cd pc = .ok (.ireturn, 1)) (hk : k ≤ R.cells) (hn : n ≤ R.slots) (hQ : Q (nar t z) h) : Run p l e R s m args below meth c n0 (RetI Q) h k n pc Ls (.int z :: st) :=
  Run.out C (fun h => by cases h) (fun T locs X fs hr => retN X C.1 C.2.2.2.2.2.1 ht (hb C.2.2.1 hd) hr) hk hn ⟨_, rfl, hQ⟩
theorem s_retL {Q : Int64 → Heap → Prop} (C : Ctx p l e R s m args below meth c Z own cd maxL (some .long) nm) {z : Int64} (hd : decode cd pc = .ok (.lreturn, 1)) (hk : k ≤ R.cells) (hn : n ≤ R.slots) (hQ : Q z h) : Run p l e R s m args below meth c n0 (RetL Q) h k n pc Ls (.long z :: st) :=
  Run.out C (fun h => by cases h) (fun T locs X fs hr => retOut X C.1 C.2.2.2.2.2.1 rfl (Or.inr (Or.inl ⟨rfl, rfl, _, rfl⟩)) (hb C.2.2.1 hd) hr) hk hn ⟨_, rfl, hQ⟩
theorem s_retA {Q : Value → Heap → Prop} {t : FieldType} (C : Ctx p l e R s m args below meth c Z own cd maxL (some t) nm) (ht : t.isReference = true) {v : Value} (hv : v.isRef = true) (hn' : narrow t v = v) (hd : decode cd pc = .ok (.areturn, 1)) (hk : k ≤ R.cells) (hn : n ≤ R.slots) (hQ : Q v h) : Run p l e R s m args below meth c n0 (RetV Q) h k n pc Ls (v :: st) :=
  Run.out C (fun h => by cases h) (fun T locs X fs hr => retOut X C.1 C.2.2.2.2.2.1 hn' (Or.inr (Or.inr (Or.inr (Or.inr ⟨rfl, ht, hv⟩)))) (hb C.2.2.1 hd) hr) hk hn ⟨_, rfl, hQ⟩
theorem s_ret0 {Q : Heap → Prop} (C : Ctx p l e R s m args below meth c Z own cd maxL none nm) (hd : decode cd pc = .ok (.return_, 1)) (hk : k ≤ R.cells) (hn : n ≤ R.slots) (hQ : Q h) : Run p l e R s m args below meth c n0 (Ret0 Q) h k n pc Ls [] :=
  Run.out C (fun _ => rfl) (fun T locs X fs hr => X.returnOut C.1 C.2.2.2.2.2.1 (hb C.2.2.1 hd) hr) hk hn ⟨rfl, hQ⟩
/-! fields, objects -/
theorem s_getF (C : Ctx p l e R s m args below meth c Z own cd maxL ret nm) {O f d : String} {i : Nat} {a : Addr} {v : Value} (hd : decode cd pc = .ok (.getfield i, 3)) (hp : pc + 3 = pc') (w : (Jvm.Cond.fieldLink own i O f d).before a0 Z = true) (F : Fld Z h a O f d v) (r : Run p l e R s m args below meth c n0 P h k n pc' Ls (v :: st)) : Run p l e R s m args below meth c n0 P h k n pc Ls (.ref a :: st) := by
  subst hp; exact Run.warm (fun T locs X eT => getF X C.1 C.2.1 C.2.2.2.2.1 (host := "") (Or.inl w) Via.refl eT F (g := mkF m pc Ls (.ref a :: st)) rfl rfl (hb C.2.2.1 hd)) r
theorem s_getS (C : Ctx p l e R s m args below meth c Z own cd maxL ret nm) {O f d : String} {i : Nat} {v : Value} (hd : decode cd pc = .ok (.getstatic i, 3)) (hp : pc + 3 = pc') (w : (Jvm.Cond.fieldLink own i O f d).before a0 Z = true) (F : Sta Z h O f d v) (r : Run p l e R s m args below meth c n0 P h k n pc' Ls (v :: st)) : Run p l e R s m args below meth c n0 P h k n pc Ls st := by
  subst hp; exact Run.warm (fun T locs X eT => getS (host := "") X C.1 C.2.1 C.2.2.2.2.1 w Via.refl eT F (g := mkF m pc Ls st) rfl (hb C.2.2.1 hd)) r
theorem s_putF (C : Ctx p l e R s m args below meth c Z own cd maxL ret nm) {O f d K : String} {i kk : Nat} {a : Addr} {v old : Value} {ty : FieldType} (hd : decode cd pc = .ok (.putfield i, 3)) (hp : pc + 3 = pc') (w : (Jvm.Cond.fieldLink own i O f d).before a0 Z = true) (F : Fld Z h a O f d old) (E : Exa Z h a K)
    (L : (Jvm.Cond.lays K O f d).before a0 Z = true ∨ ((Jvm.Cond.laysFinal K O f d).before a0 Z = true ∧ own = O ∧ nm = "<init>")) (wi : (Jvm.Cond.instantiable K kk).before a0 Z = true) (hty : parseFieldDescriptor d = some ty) (hn : narrow ty v = v) (hf : fits ty v = true) (ha : n0 ≤ a)
    (r : ∀ h', Wr h h' a (Jvm.RoadKit.slotOf Z O f d) v → Run p l e R s m args below meth c n0 P h' k n pc' Ls st) : Run p l e R s m args below meth c n0 P h k n pc Ls (v :: .ref a :: st) := by
  subst hp
  intro T locs X eT N
  obtain ⟨T', h', X', e', W, q⟩ := putF X C.1 C.2.1 C.2.2.2.2.1 (host := "") (Or.inl w) Via.refl eT F E (L.imp id fun z => ⟨z.1, z.2.1, C.2.2.2.2.2.2.2.trans z.2.2⟩) wi hty hn hf (g := mkF m pc Ls (v :: .ref a :: st)) rfl rfl (hb C.2.2.1 hd)
  obtain ⟨s₂, o, z, r⟩ := r h' W T' _ X' e' (Fr.snoc X' N ha)
  exact ⟨s₂, o, q _ z, r⟩
theorem s_new (C : Ctx p l e R s m args below meth c Z own cd maxL ret nm) {K : String} {i sl k' n' : Nat} (hd : decode cd pc = .ok (.new i, 3)) (hp : pc + 3 = pc') (w : (Jvm.Cond.classLink own i K).before a0 Z = true) (wi : (Jvm.Cond.instantiable K sl).before a0 Z = true) (wz : (Jvm.Cond.initialized K).before a0 Z = true) (hk : k + 1 = k') (hk' : k' ≤ R.cells) (hn : n + sl = n') (hn' : n' ≤ R.slots)
    (r : ∀ h' a, Ext h h' → a = h.size → Exa Z h' a K → (∀ {O nm d : String} {ty : FieldType}, Laid Z a0 K O nm d → parseFieldDescriptor d = some ty → Fld Z h' a O nm d (defaultValue ty)) → Run p l e R s m args below meth c n0 P h' k' n' pc' Ls (.ref a :: st)) : Run p l e R s m args below meth c n0 P h k n pc Ls st := by
  subst hp hk hn
  intro T locs X eT N
  obtain ⟨T', h', X', e', E, A, D, -, q⟩ := newO X C.1 C.2.1 C.2.2.2.2.1 w wi wz eT (g := mkF m pc Ls st) rfl (hb C.2.2.1 hd) hk' hn'
  obtain ⟨s₂, o, z, r⟩ := r h' _ E rfl A D T' _ X' e' N
  exact ⟨s₂, o, q _ z, r⟩
theorem s_initO (C : Ctx p l e R s m args below meth c Z own cd maxL ret nm) {i W : Nat} {a : Addr} (hd : decode cd pc = .ok (.invokespecial i, 3)) (hp : pc + 3 = pc') (w1 : (Jvm.Cond.methodLink own i Lib.objectInit).before a0 Z = true) (w2 : (Jvm.Cond.instanceMethod Lib.objectInit).before a0 Z = true) (w3 : (Jvm.Cond.code Lib.objectInit ⟨#[0xb1]⟩ 1 none).before a0 Z = true) (hs : Ls.size = maxL) (hf : 1 ≤ R.frames) (hW : (st.map fun v => v.category).sum = W) (hl : W + 12 ≤ R.locals)
    (r : Run p l e R s m args below meth c n0 P h k n pc' Ls st) : Run p l e R s m args below meth c n0 P h k n pc Ls (.ref a :: st) := by
  subst hp; exact Run.warm (fun T locs X eT => initO X C.1 C.2.1 C.2.2.2.2.1 w1 w2 w3 eT (g := mkF m pc Ls (.ref a :: st)) rfl (by rw [C.2.2.2.1]; exact hs) rfl (hb C.2.2.1 hd) hf (W := W) (by show 2 * 0 + _ ≤ _; omega) hl) r
theorem s_cast (C : Ctx p l e R s m args below meth c Z own cd maxL ret nm) {K : String} {i : Nat} {a : Addr} (hd : decode cd pc = .ok (.checkcast i, 3)) (hp : pc + 3 = pc') (w : (Jvm.Cond.classLink own i K).before a0 Z = true) (F : Ins Z h a K true) (r : Run p l e R s m args below meth c n0 P h k n pc' Ls (.ref a :: st)) : Run p l e R s m args below meth c n0 P h k n pc Ls (.ref a :: st) := by
  subst hp; exact Run.warm (fun T locs X eT => castY X C.1 C.2.1 C.2.2.2.2.1 w eT F (g := mkF m pc Ls (.ref a :: st)) rfl rfl (hb C.2.2.1 hd)) r
theorem s_instY (C : Ctx p l e R s m args below meth c Z own cd maxL ret nm) {K : String} {i : Nat} {a : Addr} (hd : decode cd pc = .ok (.instanceof i, 3)) (hp : pc + 3 = pc') (w : (Jvm.Cond.classLink own i K).before a0 Z = true) (F : Ins Z h a K true) (r : Run p l e R s m args below meth c n0 P h k n pc' Ls (.int 1 :: st)) : Run p l e R s m args below meth c n0 P h k n pc Ls (.ref a :: st) := by
  subst hp; exact Run.warm (fun T locs X eT => instY X C.1 C.2.1 C.2.2.2.2.1 w eT F (g := mkF m pc Ls (.ref a :: st)) rfl rfl (hb C.2.2.1 hd)) r
/-! calls -/
theorem Met.back {y : MethodName} {bytes : ByteArray} {mL len W : Nat} {rt : Option FieldType} {rm : Room} {as : Array Value} {Q : Option Value → Heap → Prop} (M : Met l Z y bytes mL rt [] rm as h n0 Q) (hZ : Z.Warmed39 s.vm) (wc : (Jvm.Cond.code y bytes mL rt).before a0 Z = true) (wz : (Jvm.Cond.initialized y.cls).before a0 Z = true) (hf : rm.frames + 1 ≤ R.frames) (hl : W + (mL + 11) + rm.locals ≤ R.locals) :
    Back l R p e below s args y len W (fun A a => a = as ∧ A.U.heap = h ∧ A.cells + rm.cells ≤ R.cells ∧ A.slots + rm.slots ≤ R.slots) (fun A _ v B => ∃ L, (Q v B.U.heap ∧ Fr n0 L) ∧ B.locs = A.locs ++ L ∧ B.cells = A.cells + rm.cells ∧ B.slots = A.slots + rm.slots) :=
  backOf (Q := fun v h L => Q v h ∧ Fr n0 L) M hZ wc wz hf hl
theorem s_callS (C : Ctx p l e R s m args below meth c Z own cd maxL ret nm) {y : MethodName} {bytes : ByteArray} {mL i W k' n' : Nat} {rt : Option FieldType} {rm : Room} {Q : Option Value → Heap → Prop} (hd : decode cd pc = .ok (.invokestatic i, 3)) (hp : pc + 3 = pc') (wl : (Jvm.Cond.methodLink own i y).before a0 Z = true) (ws : (Jvm.Cond.static y).before a0 Z = true) (wz : (Jvm.Cond.initialized y.cls).before a0 Z = true) (wc : (Jvm.Cond.code y bytes mL rt).before a0 Z = true) (hy : y.cls ≠ "java/lang/invoke/MethodHandle" ∧ y.cls ≠ "java/lang/invoke/VarHandle") (as rest : List Value) {ps : List FieldType} {rr : Option FieldType} (hdes : parseMethodDescriptor y.desc = some ⟨ps, rr⟩) (hlen : as.length = ps.length) (hst : st = as.reverse ++ rest)
    (M : Met l Z y bytes mL rt [] rm as.toArray h n0 Q) (hs : Ls.size = maxL) (hW : (rest.map fun v => v.category).sum = W) (hf : rm.frames + 1 ≤ R.frames) (hl : W + (mL + 11) + rm.locals ≤ R.locals) (hk : k + rm.cells = k') (hk' : k' ≤ R.cells) (hn : n + rm.slots = n') (hn' : n' ≤ R.slots)
    (r : ∀ v h', Q v h' → Run p l e R s m args below meth c n0 P h' k' n' pc' Ls (v.toList ++ rest)) : Run p l e R s m args below meth c n0 P h k n pc Ls st := by
  subst hp hk hn hst
  intro T locs X eT N
  obtain ⟨v, _, ⟨T', L', k', n'⟩, -, X', ⟨Lc, ⟨hQ, N'⟩, l', y', z'⟩, q⟩ := Jvm.LawKit.callS X C.1 (y := y) C.2.2.2.2.1 (mvT C.2.1 wl) (mvT C.2.1 ws) (mvT C.2.1 wz) (mvT C.2.1 wc) hy (M.back (W := W) C.2.1 wc wz hf hl) (g := mkF m pc Ls (as.reverse ++ rest)) rfl (by rw [C.2.2.2.1]; exact hs) (argsL := as) (rest := rest) (lenOf hdes hlen) rfl (by show 2 * 0 + _ ≤ _; omega) (hb C.2.2.1 hd) (fun _ _ => ⟨rfl, eT, hk', hn'⟩)
  dsimp only [Pt.U, Pt.locs, Pt.cells, Pt.slots] at X' l' y' z' q hQ
  subst l' y' z'
  obtain ⟨s₂, o, z, r⟩ := r v _ hQ T' _ X' rfl (Fr.app N N')
  exact ⟨s₂, o, q _ z, r⟩
theorem s_callV (C : Ctx p l e R s m args below meth c Z own cd maxL ret nm) {y z : MethodName} {K : String} {bytes : ByteArray} {mL i W k' n' : Nat} {rt : Option FieldType} {rm : Room} {b : Addr} {Q : Option Value → Heap → Prop} (hd : decode cd pc = .ok (.invokevirtual i, 3)) (hp : pc + 3 = pc') (wl : (Jvm.Cond.methodLink own i y).before a0 Z = true) (wd : (Jvm.Cond.declares y).before a0 Z = true) (hnf : NotFace s y) (wsel : (Jvm.Cond.selects K y z).before a0 Z = true) (wi : (Jvm.Cond.instanceMethod z).before a0 Z = true) (wz : (Jvm.Cond.initialized z.cls).before a0 Z = true) (wc : (Jvm.Cond.code z bytes mL rt).before a0 Z = true) (hy : y.cls ≠ "java/lang/invoke/MethodHandle" ∧ y.cls ≠ "java/lang/invoke/VarHandle") (E : Exa Z h b K) (as rest : List Value) {ps : List FieldType} {rr : Option FieldType} (hdes : parseMethodDescriptor y.desc = some ⟨ps, rr⟩) (hlen : as.length = ps.length) (hst : st = as.reverse ++ .ref b :: rest)
    (M : Met l Z z bytes mL rt [] rm (.ref b :: as).toArray h n0 Q) (hs : Ls.size = maxL) (hW : (rest.map fun v => v.category).sum = W) (hf : rm.frames + 1 ≤ R.frames) (hl : W + (mL + 11) + rm.locals ≤ R.locals) (hk : k + rm.cells = k') (hk' : k' ≤ R.cells) (hn : n + rm.slots = n') (hn' : n' ≤ R.slots)
    (r : ∀ v h', Q v h' → Run p l e R s m args below meth c n0 P h' k' n' pc' Ls (v.toList ++ rest)) : Run p l e R s m args below meth c n0 P h k n pc Ls st := by
  subst hp hk hn hst
  intro T locs X eT N
  obtain ⟨cq, kq, qa, qb, qc⟩ := isOf C.2.1 eT E
  obtain ⟨v, _, ⟨T', L', k', n'⟩, -, X', ⟨Lc, ⟨hQ, N'⟩, l', y', z'⟩, q⟩ := X.virtualBack C.1 (y := y) (z := z) C.2.2.2.2.1 (mvT C.2.1 wl) (mvT C.2.1 wd) hnf (mvT C.2.1 wsel) (mvT C.2.1 wi) hy (M.back (W := W) C.2.1 wc wz hf hl) qa qc (g := mkF m pc Ls (as.reverse ++ .ref b :: rest)) rfl (by rw [C.2.2.2.1]; exact hs) (Steps.refl _) (argsL := as) (rest := rest) (lenOf hdes hlen) rfl (by show 2 * 0 + _ ≤ _; omega) (hb C.2.2.1 hd) (fun _ _ => ⟨rfl, eT, hk', hn'⟩)
  dsimp only [Pt.U, Pt.locs, Pt.cells, Pt.slots] at X' l' y' z' q hQ
  subst l' y' z'
  obtain ⟨s₂, o, z, r⟩ := r v _ hQ T' _ X' rfl (Fr.app N N')
  exact ⟨s₂, o, q.trans z, r⟩
theorem s_callI (C : Ctx p l e R s m args below meth c Z own cd maxL ret nm) {y : MethodName} {bytes : ByteArray} {mL i W k' n' : Nat} {rm : Room} {b : Addr} {Q : Heap → Prop} (hd : decode cd pc = .ok (.invokespecial i, 3)) (hp : pc + 3 = pc') (wl : (Jvm.Cond.methodLink own i y).before a0 Z = true) (hy1 : y.name = "<init>") (wi : (Jvm.Cond.instanceMethod y).before a0 Z = true) (wz : (Jvm.Cond.initialized y.cls).before a0 Z = true) (wc : (Jvm.Cond.code y bytes mL none).before a0 Z = true) (hy : y.cls ≠ "java/lang/invoke/MethodHandle" ∧ y.cls ≠ "java/lang/invoke/VarHandle") (as rest : List Value) {ps : List FieldType} {rr : Option FieldType} (hdes : parseMethodDescriptor y.desc = some ⟨ps, rr⟩) (hlen : as.length = ps.length) (hst : st = as.reverse ++ .ref b :: rest)
    (M : Met l Z y bytes mL none [] rm (.ref b :: as).toArray h n0 (Ret0 Q)) (hs : Ls.size = maxL) (hW : (rest.map fun v => v.category).sum = W) (hf : rm.frames + 1 ≤ R.frames) (hl : W + (mL + 11) + rm.locals ≤ R.locals) (hk : k + rm.cells = k') (hk' : k' ≤ R.cells) (hn : n + rm.slots = n') (hn' : n' ≤ R.slots)
    (r : ∀ h', Q h' → Run p l e R s m args below meth c n0 P h' k' n' pc' Ls rest) : Run p l e R s m args below meth c n0 P h k n pc Ls st := by
  subst hp hk hn hst
  intro T locs X eT N
  obtain ⟨v, _, ⟨T', L', k', n'⟩, -, X', ⟨Lc, ⟨⟨rfl, hQ⟩, N'⟩, l', y', z'⟩, q⟩ := X.specialBack C.1 (y := y) hy1 C.2.2.2.2.1 (mvT C.2.1 wl) (mvT C.2.1 wi) (mvT C.2.1 wc) hy (M.back (W := W) C.2.1 wc wz hf hl) (g := mkF m pc Ls (as.reverse ++ .ref b :: rest)) rfl (by rw [C.2.2.2.1]; exact hs) (Steps.refl _) (a := b) (argsL := as) (rest := rest) (lenOf hdes hlen) rfl (by show 2 * 0 + _ ≤ _; omega) (hb C.2.2.1 hd) (fun _ _ => ⟨rfl, eT, hk', hn'⟩)
  dsimp only [Pt.U, Pt.locs, Pt.cells, Pt.slots] at X' l' y' z' q hQ
  subst l' y' z'
  obtain ⟨s₂, o, z, r⟩ := r _ hQ T' _ X' rfl (Fr.app N N')
  exact ⟨s₂, o, q.trans z, r⟩
theorem s_callSI (C : Ctx p l e R s m args below meth c Z own cd maxL ret nm) {y : MethodName} {bytes : ByteArray} {mL i W k' n' : Nat} {rt : Option FieldType} {rm : Room} {Q : Int32 → Heap → Prop} (hd : decode cd pc = .ok (.invokestatic i, 3)) (hp : pc + 3 = pc') (wl : (Jvm.Cond.methodLink own i y).before a0 Z = true) (ws : (Jvm.Cond.static y).before a0 Z = true) (wz : (Jvm.Cond.initialized y.cls).before a0 Z = true) (wc : (Jvm.Cond.code y bytes mL rt).before a0 Z = true) (hy : y.cls ≠ "java/lang/invoke/MethodHandle" ∧ y.cls ≠ "java/lang/invoke/VarHandle") (as rest : List Value) {ps : List FieldType} {rr : Option FieldType} (hdes : parseMethodDescriptor y.desc = some ⟨ps, rr⟩) (hlen : as.length = ps.length) (hst : st = as.reverse ++ rest)
    (M : Met l Z y bytes mL rt [] rm as.toArray h n0 (RetI Q)) (hs : Ls.size = maxL) (hW : (rest.map fun v => v.category).sum = W) (hf : rm.frames + 1 ≤ R.frames) (hl : W + (mL + 11) + rm.locals ≤ R.locals) (hk : k + rm.cells = k') (hk' : k' ≤ R.cells) (hn : n + rm.slots = n') (hn' : n' ≤ R.slots)
    (r : ∀ (z : Int32) h', Q z h' → Run p l e R s m args below meth c n0 P h' k' n' pc' Ls ((.int z) :: rest)) : Run p l e R s m args below meth c n0 P h k n pc Ls st :=
  s_callS C hd hp wl ws wz wc hy as rest hdes hlen hst M hs hW hf hl hk hk' hn hn' (fun v h' q => by obtain ⟨z, rfl, q⟩ := q; exact r z h' q)
theorem s_callSL (C : Ctx p l e R s m args below meth c Z own cd maxL ret nm) {y : MethodName} {bytes : ByteArray} {mL i W k' n' : Nat} {rt : Option FieldType} {rm : Room} {Q : Int64 → Heap → Prop} (hd : decode cd pc = .ok (.invokestatic i, 3)) (hp : pc + 3 = pc') (wl : (Jvm.Cond.methodLink own i y).before a0 Z = true) (ws : (Jvm.Cond.static y).before a0 Z = true) (wz : (Jvm.Cond.initialized y.cls).before a0 Z = true) (wc : (Jvm.Cond.code y bytes mL rt).before a0 Z = true) (hy : y.cls ≠ "java/lang/invoke/MethodHandle" ∧ y.cls ≠ "java/lang/invoke/VarHandle") (as rest : List Value) {ps : List FieldType} {rr : Option FieldType} (hdes : parseMethodDescriptor y.desc = some ⟨ps, rr⟩) (hlen : as.length = ps.length) (hst : st = as.reverse ++ rest)
    (M : Met l Z y bytes mL rt [] rm as.toArray h n0 (RetL Q)) (hs : Ls.size = maxL) (hW : (rest.map fun v => v.category).sum = W) (hf : rm.frames + 1 ≤ R.frames) (hl : W + (mL + 11) + rm.locals ≤ R.locals) (hk : k + rm.cells = k') (hk' : k' ≤ R.cells) (hn : n + rm.slots = n') (hn' : n' ≤ R.slots)
    (r : ∀ (z : Int64) h', Q z h' → Run p l e R s m args below meth c n0 P h' k' n' pc' Ls ((.long z) :: rest)) : Run p l e R s m args below meth c n0 P h k n pc Ls st :=
  s_callS C hd hp wl ws wz wc hy as rest hdes hlen hst M hs hW hf hl hk hk' hn hn' (fun v h' q => by obtain ⟨z, rfl, q⟩ := q; exact r z h' q)
theorem s_callSA (C : Ctx p l e R s m args below meth c Z own cd maxL ret nm) {y : MethodName} {bytes : ByteArray} {mL i W k' n' : Nat} {rt : Option FieldType} {rm : Room} {Q : Value → Heap → Prop} (hd : decode cd pc = .ok (.invokestatic i, 3)) (hp : pc + 3 = pc') (wl : (Jvm.Cond.methodLink own i y).before a0 Z = true) (ws : (Jvm.Cond.static y).before a0 Z = true) (wz : (Jvm.Cond.initialized y.cls).before a0 Z = true) (wc : (Jvm.Cond.code y bytes mL rt).before a0 Z = true) (hy : y.cls ≠ "java/lang/invoke/MethodHandle" ∧ y.cls ≠ "java/lang/invoke/VarHandle") (as rest : List Value) {ps : List FieldType} {rr : Option FieldType} (hdes : parseMethodDescriptor y.desc = some ⟨ps, rr⟩) (hlen : as.length = ps.length) (hst : st = as.reverse ++ rest)
    (M : Met l Z y bytes mL rt [] rm as.toArray h n0 (RetV Q)) (hs : Ls.size = maxL) (hW : (rest.map fun v => v.category).sum = W) (hf : rm.frames + 1 ≤ R.frames) (hl : W + (mL + 11) + rm.locals ≤ R.locals) (hk : k + rm.cells = k') (hk' : k' ≤ R.cells) (hn : n + rm.slots = n') (hn' : n' ≤ R.slots)
    (r : ∀ (z : Value) h', Q z h' → Run p l e R s m args below meth c n0 P h' k' n' pc' Ls (z :: rest)) : Run p l e R s m args below meth c n0 P h k n pc Ls st :=
  s_callS C hd hp wl ws wz wc hy as rest hdes hlen hst M hs hW hf hl hk hk' hn hn' (fun v h' q => by obtain ⟨z, rfl, q⟩ := q; exact r z h' q)
theorem s_callS0 (C : Ctx p l e R s m args below meth c Z own cd maxL ret nm) {y : MethodName} {bytes : ByteArray} {mL i W k' n' : Nat} {rt : Option FieldType} {rm : Room} {Q : Heap → Prop} (hd : decode cd pc = .ok (.invokestatic i, 3)) (hp : pc + 3 = pc') (wl : (Jvm.Cond.methodLink own i y).before a0 Z = true) (ws : (Jvm.Cond.static y).before a0 Z = true) (wz : (Jvm.Cond.initialized y.cls).before a0 Z = true) (wc : (Jvm.Cond.code y bytes mL rt).before a0 Z = true) (hy : y.cls ≠ "java/lang/invoke/MethodHandle" ∧ y.cls ≠ "java/lang/invoke/VarHandle") (as rest : List Value) {ps : List FieldType} {rr : Option FieldType} (hdes : parseMethodDescriptor y.desc = some ⟨ps, rr⟩) (hlen : as.length = ps.length) (hst : st = as.reverse ++ rest)
    (M : Met l Z y bytes mL rt [] rm as.toArray h n0 (Ret0 Q)) (hs : Ls.size = maxL) (hW : (rest.map fun v => v.category).sum = W) (hf : rm.frames + 1 ≤ R.frames) (hl : W + (mL + 11) + rm.locals ≤ R.locals) (hk : k + rm.cells = k') (hk' : k' ≤ R.cells) (hn : n + rm.slots = n') (hn' : n' ≤ R.slots)
    (r : ∀ h', Q h' → Run p l e R s m args below meth c n0 P h' k' n' pc' Ls rest) : Run p l e R s m args below meth c n0 P h k n pc Ls st :=
  s_callS C hd hp wl ws wz wc hy as rest hdes hlen hst M hs hW hf hl hk hk' hn hn' (fun v h' q => by obtain ⟨rfl, q⟩ := q; exact r h' q)
theorem s_callVI (C : Ctx p l e R s m args below meth c Z own cd maxL ret nm) {y z : MethodName} {K : String} {bytes : ByteArray} {mL i W k' n' : Nat} {rt : Option FieldType} {rm : Room} {b : Addr} {Q : Int32 → Heap → Prop} (hd : decode cd pc = .ok (.invokevirtual i, 3)) (hp : pc + 3 = pc') (wl : (Jvm.Cond.methodLink own i y).before a0 Z = true) (wd : (Jvm.Cond.declares y).before a0 Z = true) (hnf : NotFace s y) (wsel : (Jvm.Cond.selects K y z).before a0 Z = true) (wi : (Jvm.Cond.instanceMethod z).before a0 Z = true) (wz : (Jvm.Cond.initialized z.cls).before a0 Z = true) (wc : (Jvm.Cond.code z bytes mL rt).before a0 Z = true) (hy : y.cls ≠ "java/lang/invoke/MethodHandle" ∧ y.cls ≠ "java/lang/invoke/VarHandle") (E : Exa Z h b K) (as rest : List Value) {ps : List FieldType} {rr : Option FieldType} (hdes : parseMethodDescriptor y.desc = some ⟨ps, rr⟩) (hlen : as.length = ps.length) (hst : st = as.reverse ++ .ref b :: rest)
    (M : Met l Z z bytes mL rt [] rm (.ref b :: as).toArray h n0 (RetI Q)) (hs : Ls.size = maxL) (hW : (rest.map fun v => v.category).sum = W) (hf : rm.frames + 1 ≤ R.frames) (hl : W + (mL + 11) + rm.locals ≤ R.locals) (hk : k + rm.cells = k') (hk' : k' ≤ R.cells) (hn : n + rm.slots = n') (hn' : n' ≤ R.slots)
    (r : ∀ (z : Int32) h', Q z h' → Run p l e R s m args below meth c n0 P h' k' n' pc' Ls ((.int z) :: rest)) : Run p l e R s m args below meth c n0 P h k n pc Ls st :=
  s_callV C hd hp wl wd hnf wsel wi wz wc hy E as rest hdes hlen hst M hs hW hf hl hk hk' hn hn' (fun v h' q => by obtain ⟨z, rfl, q⟩ := q; exact r z h' q)
theorem s_callVL (C : Ctx p l e R s m args below meth c Z own cd maxL ret nm) {y z : MethodName} {K : String} {bytes : ByteArray} {mL i W k' n' : Nat} {rt : Option FieldType} {rm : Room} {b : Addr} {Q : Int64 → Heap → Prop} (hd : decode cd pc = .ok (.invokevirtual i, 3)) (hp : pc + 3 = pc') (wl : (Jvm.Cond.methodLink own i y).before a0 Z = true) (wd : (Jvm.Cond.declares y).before a0 Z = true) (hnf : NotFace s y) (wsel : (Jvm.Cond.selects K y z).before a0 Z = true) (wi : (Jvm.Cond.instanceMethod z).before a0 Z = true) (wz : (Jvm.Cond.initialized z.cls).before a0 Z = true) (wc : (Jvm.Cond.code z bytes mL rt).before a0 Z = true) (hy : y.cls ≠ "java/lang/invoke/MethodHandle" ∧ y.cls ≠ "java/lang/invoke/VarHandle") (E : Exa Z h b K) (as rest : List Value) {ps : List FieldType} {rr : Option FieldType} (hdes : parseMethodDescriptor y.desc = some ⟨ps, rr⟩) (hlen : as.length = ps.length) (hst : st = as.reverse ++ .ref b :: rest)
    (M : Met l Z z bytes mL rt [] rm (.ref b :: as).toArray h n0 (RetL Q)) (hs : Ls.size = maxL) (hW : (rest.map fun v => v.category).sum = W) (hf : rm.frames + 1 ≤ R.frames) (hl : W + (mL + 11) + rm.locals ≤ R.locals) (hk : k + rm.cells = k') (hk' : k' ≤ R.cells) (hn : n + rm.slots = n') (hn' : n' ≤ R.slots)
    (r : ∀ (z : Int64) h', Q z h' → Run p l e R s m args below meth c n0 P h' k' n' pc' Ls ((.long z) :: rest)) : Run p l e R s m args below meth c n0 P h k n pc Ls st :=
  s_callV C hd hp wl wd hnf wsel wi wz wc hy E as rest hdes hlen hst M hs hW hf hl hk hk' hn hn' (fun v h' q => by obtain ⟨z, rfl, q⟩ := q; exact r z h' q)
theorem s_callVA (C : Ctx p l e R s m args below meth c Z own cd maxL ret nm) {y z : MethodName} {K : String} {bytes : ByteArray} {mL i W k' n' : Nat} {rt : Option FieldType} {rm : Room} {b : Addr} {Q : Value → Heap → Prop} (hd : decode cd pc = .ok (.invokevirtual i, 3)) (hp : pc + 3 = pc') (wl : (Jvm.Cond.methodLink own i y).before a0 Z = true) (wd : (Jvm.Cond.declares y).before a0 Z = true) (hnf : NotFace s y) (wsel : (Jvm.Cond.selects K y z).before a0 Z = true) (wi : (Jvm.Cond.instanceMethod z).before a0 Z = true) (wz : (Jvm.Cond.initialized z.cls).before a0 Z = true) (wc : (Jvm.Cond.code z bytes mL rt).before a0 Z = true) (hy : y.cls ≠ "java/lang/invoke/MethodHandle" ∧ y.cls ≠ "java/lang/invoke/VarHandle") (E : Exa Z h b K) (as rest : List Value) {ps : List FieldType} {rr : Option FieldType} (hdes : parseMethodDescriptor y.desc = some ⟨ps, rr⟩) (hlen : as.length = ps.length) (hst : st = as.reverse ++ .ref b :: rest)
    (M : Met l Z z bytes mL rt [] rm (.ref b :: as).toArray h n0 (RetV Q)) (hs : Ls.size = maxL) (hW : (rest.map fun v => v.category).sum = W) (hf : rm.frames + 1 ≤ R.frames) (hl : W + (mL + 11) + rm.locals ≤ R.locals) (hk : k + rm.cells = k') (hk' : k' ≤ R.cells) (hn : n + rm.slots = n') (hn' : n' ≤ R.slots)
    (r : ∀ (z : Value) h', Q z h' → Run p l e R s m args below meth c n0 P h' k' n' pc' Ls (z :: rest)) : Run p l e R s m args below meth c n0 P h k n pc Ls st :=
  s_callV C hd hp wl wd hnf wsel wi wz wc hy E as rest hdes hlen hst M hs hW hf hl hk hk' hn hn' (fun v h' q => by obtain ⟨z, rfl, q⟩ := q; exact r z h' q)
theorem s_callV0 (C : Ctx p l e R s m args below meth c Z own cd maxL ret nm) {y z : MethodName} {K : String} {bytes : ByteArray} {mL i W k' n' : Nat} {rt : Option FieldType} {rm : Room} {b : Addr} {Q : Heap → Prop} (hd : decode cd pc = .ok (.invokevirtual i, 3)) (hp : pc + 3 = pc') (wl : (Jvm.Cond.methodLink own i y).before a0 Z = true) (wd : (Jvm.Cond.declares y).before a0 Z = true) (hnf : NotFace s y) (wsel : (Jvm.Cond.selects K y z).before a0 Z = true) (wi : (Jvm.Cond.instanceMethod z).before a0 Z = true) (wz : (Jvm.Cond.initialized z.cls).before a0 Z = true) (wc : (Jvm.Cond.code z bytes mL rt).before a0 Z = true) (hy : y.cls ≠ "java/lang/invoke/MethodHandle" ∧ y.cls ≠ "java/lang/invoke/VarHandle") (E : Exa Z h b K) (as rest : List Value) {ps : List FieldType} {rr : Option FieldType} (hdes : parseMethodDescriptor y.desc = some ⟨ps, rr⟩) (hlen : as.length = ps.length) (hst : st = as.reverse ++ .ref b :: rest)
    (M : Met l Z z bytes mL rt [] rm (.ref b :: as).toArray h n0 (Ret0 Q)) (hs : Ls.size = maxL) (hW : (rest.map fun v => v.category).sum = W) (hf : rm.frames + 1 ≤ R.frames) (hl : W + (mL + 11) + rm.locals ≤ R.locals) (hk : k + rm.cells = k') (hk' : k' ≤ R.cells) (hn : n + rm.slots = n') (hn' : n' ≤ R.slots)
    (r : ∀ h', Q h' → Run p l e R s m args below meth c n0 P h' k' n' pc' Ls rest) : Run p l e R s m args below meth c n0 P h k n pc Ls st :=
  s_callV C hd hp wl wd hnf wsel wi wz wc hy E as rest hdes hlen hst M hs hW hf hl hk hk' hn hn' (fun v h' q => by obtain ⟨rfl, q⟩ := q; exact r h' q)
/-! arrays: exactly these values -/
def Av (Z : State) (h : Heap) (a : Addr) (ty : FieldType) (vs : List Value) : Prop := ∃ cl : Cell, Arr Z h a cl ty ∧ cl.slots = vs.toArray ∧ vs.length < 2 ^ 31 ∧ ∀ v ∈ vs, fits ty v = true
theorem Av.lt {h : Heap} {a : Addr} {ty : FieldType} {vs : List Value} (V : Av Z h a ty vs) : a < h.size := by obtain ⟨cl, A, -⟩ := V; exact A.lt
theorem Av.ext {h h' : Heap} {a : Addr} {ty : FieldType} {vs : List Value} (V : Av Z h a ty vs) (E : Ext h h') : Av Z h' a ty vs := by obtain ⟨cl, A, r⟩ := V; exact ⟨cl, A.ext E, r⟩
theorem Av.other {h h' : Heap} {a b : Addr} {ty : FieldType} {vs : List Value} {sl : Nat} {v : Value} (V : Av Z h b ty vs) (W : Wr h h' a sl v) (q : b ≠ a) : Av Z h' b ty vs := by obtain ⟨cl, A, r⟩ := V; exact ⟨cl, A.other W q, r⟩
theorem Av.keep {h h' : Heap} {a : Addr} {ty : FieldType} {vs : List Value} {ws : List Addr} (V : Av Z h a ty vs) (K : Keep h h' ws) (q : a ∉ ws) : Av Z h' a ty vs := by obtain ⟨cl, A, r⟩ := V; exact ⟨cl, ⟨K.2.1 a cl A.1 q, A.2⟩, r⟩
theorem Av.set {h h' : Heap} {a : Addr} {ty : FieldType} {vs : List Value} {i : Nat} {v : Value} (V : Av Z h a ty vs) (W : Wr h h' a i v) (hf : fits ty v = true) : Av Z h' a ty (vs.set i v) := by
  obtain ⟨cl, A, hs, hl, hq⟩ := V
  exact ⟨_, A.same W, by simp [Cell.setSlot, hs], by simpa using hl, fun u hu => (List.mem_or_eq_of_mem_set hu).elim (hq u) (fun e => e ▸ hf)⟩
theorem fits_default (ty : FieldType) : fits ty (defaultValue ty) = true := by cases ty <;> first | rfl | decide
theorem Av.new {h : Heap} {a : Addr} {cA : ClassId} {ty : FieldType} {z : Int32} (A : Arr Z h a (newA cA ty z) ty) : Av Z h a ty (List.replicate z.toNatClampNeg (defaultValue ty)) := ⟨_, A, by simp [newA], by rw [List.length_replicate]; have := z.toInt_lt; simp only [Int32.toNatClampNeg]; omega, fun v hv => (List.eq_of_mem_replicate hv) ▸ fits_default ty⟩
theorem getD_toArray (vs : List Value) (i : Nat) (dv : Value) (hi : i < vs.length) : vs.toArray[i]? = some (vs.getD i dv) := by
  simp [List.getD_eq_getElem?_getD, List.getElem?_eq_getElem hi]
theorem len32 {n : Nat} (h : n < 2 ^ 31) : n.toInt32.toNatClampNeg = n ∧ ¬ n.toInt32 < 0 := by
  have e : n.toInt32.toInt = n := len_toInt (by omega)
  constructor
  · simp [Int32.toNatClampNeg, e]
  · rw [Int32.lt_iff_toInt_lt, e]; simp only [Int32.reduceToInt]; omega
theorem Av.arv {h : Heap} {a : Addr} {ty : FieldType} {vs : List Value} (dv : Value) (V : Av Z h a ty vs) : ∃ k, Arv Z h a k ty vs.length.toInt32 vs dv := by
  obtain ⟨cl, A, hs, hl, hq⟩ := V
  have e := len32 hl
  refine ⟨cl.cls, cl, A, rfl, by rw [e.1, hs]; simp, e.2, fun i hi => ?_, fun i hi => ?_⟩
  · rw [hs] at hi ⊢; exact getD_toArray vs i dv (by simpa using hi)
  · rw [hs] at hi
    have hi' : i < vs.length := by simpa using hi
    rw [List.getD_eq_getElem?_getD, List.getElem?_eq_getElem hi']
    exact hq _ (List.getElem_mem hi')
theorem Av.of_arv {h : Heap} {a : Addr} {k : ClassId} {ty : FieldType} {z : Int32} {vs : List Value} {dv : Value} (V : Arv Z h a k ty z vs dv) (hl : vs.length = z.toNatClampNeg) : Av Z h a ty vs := by
  obtain ⟨cl, A, -, hs, hz, hh, hf⟩ := V
  have e : cl.slots.size = vs.length := by rw [hs, hl]
  refine ⟨cl, A, ?_, by have := z.toInt_lt; rw [hl]; simp only [Int32.toNatClampNeg]; omega, fun v hv => ?_⟩
  · apply Array.ext_getElem?
    intro i
    by_cases hi : i < vs.length
    · rw [hh i (by omega)]; exact (getD_toArray vs i dv hi).symm
    · rw [Array.getElem?_eq_none (by omega), Array.getElem?_eq_none (by simpa using hi)]
  · obtain ⟨i, hi, rfl⟩ := List.getElem_of_mem hv
    have q := hf i (by omega)
    rwa [List.getD_eq_getElem?_getD, List.getElem?_eq_getElem hi] at q
theorem idx_n {j : Int32} {i : Nat} (hi : j.toInt = (i : Int)) : j.toNatClampNeg = i ∧ ¬ j < 0 := by
  constructor
  · simp [Int32.toNatClampNeg, hi]
  · rw [Int32.lt_iff_toInt_lt, hi]; simp only [Int32.reduceToInt]; omega
theorem s_newarr (C : Ctx p l e R s m args below meth c Z own cd maxL ret nm) {aty : ArrayType} {z : Int32} {k' n' cap : Nat} (hd : decode cd pc = .ok (.newarray aty, 2)) (hp : pc + 2 = pc') (w : (Jvm.Cond.arrayClass (newarray.typeOf aty)).before a0 Z = true) (hz : ¬ z < 0) (hcap : z.toNatClampNeg ≤ cap) (hcb : cap * 8 ≤ 536870912) (hk : k + 1 = k') (hk' : k' ≤ R.cells) (hn : n + cap = n') (hn' : n' ≤ R.slots) (vs : List Value) (hvs : List.replicate z.toNatClampNeg (defaultValue (newarray.typeOf aty)) = vs)
    (r : ∀ h' a, Ext h h' → a = h.size → Av Z h' a (newarray.typeOf aty) vs → Run p l e R s m args below meth c n0 P h' k' n' pc' Ls (.ref a :: st)) : Run p l e R s m args below meth c n0 P h k n pc Ls (.int z :: st) := by
  subst hp hk hn hvs
  intro T locs X eT N
  obtain ⟨T', h', cA, X', e', E, A, q⟩ := newP X C.1 C.2.1 w eT (g := mkF m pc Ls (.int z :: st)) rfl (hb C.2.2.1 hd) rfl hz hcap hcb hk' hn'
  obtain ⟨s₂, o, z, r⟩ := r h' _ E rfl (Av.new A) T' _ X' e' N
  exact ⟨s₂, o, q _ z, r⟩
theorem s_newarrE (C : Ctx p l e R s m args below meth c Z own cd maxL ret nm) {aty : ArrayType} {z : Int32} {k' n' cap : Nat} (hd : decode cd pc = .ok (.newarray aty, 2)) (hp : pc + 2 = pc') (w : (Jvm.Cond.arrayClass (newarray.typeOf aty)).before a0 Z = true) (hz : ¬ z < 0) (hcap : z.toNatClampNeg ≤ cap) (hcb : cap * 8 ≤ 536870912) (hk : k + 1 = k') (hk' : k' ≤ R.cells) (hn : n + cap = n') (hn' : n' ≤ R.slots) (vs : List Value) (hvs : List.replicate z.toNatClampNeg (defaultValue (newarray.typeOf aty)) = vs) (ad : String) (had : "[" ++ (newarray.typeOf aty).toString = ad)
    (r : ∀ h' a, Ext h h' → a = h.size → Av Z h' a (newarray.typeOf aty) vs → Exa Z h' a ad → Run p l e R s m args below meth c n0 P h' k' n' pc' Ls (.ref a :: st)) : Run p l e R s m args below meth c n0 P h k n pc Ls (.int z :: st) := by
  subst hp hk hn hvs
  intro T locs X eT N
  obtain ⟨T', h', cA, X', e', E, A, Ex, q⟩ := newPE X C.1 C.2.1 w eT (g := mkF m pc Ls (.int z :: st)) rfl (hb C.2.2.1 hd) rfl hz hcap hcb hk' hn' had
  obtain ⟨s₂, o, z, r⟩ := r h' _ E rfl (Av.new A) Ex T' _ X' e' N
  exact ⟨s₂, o, q _ z, r⟩
theorem s_newref (C : Ctx p l e R s m args below meth c Z own cd maxL ret nm) {K : String} {i : Nat} {z : Int32} {k' n' cap : Nat} (hd : decode cd pc = .ok (.anewarray i, 3)) (hp : pc + 3 = pc') (w1 : (Jvm.Cond.classLink own i K).before a0 Z = true) (w2 : (Jvm.Cond.arrayOver (.object K)).before a0 Z = true) (hz : ¬ z < 0) (hcap : z.toNatClampNeg ≤ cap) (hcb : cap * 8 ≤ 536870912) (hk : k + 1 = k') (hk' : k' ≤ R.cells) (hn : n + cap = n') (hn' : n' ≤ R.slots) (vs : List Value) (hvs : List.replicate z.toNatClampNeg Value.null = vs)
    (r : ∀ h' a cA, Ext h h' → a = h.size → Av Z h' a (.object K) vs → Arr Z h' a (newA cA (.object K) z) (.object K) → Ovr Z cA K → Run p l e R s m args below meth c n0 P h' k' n' pc' Ls (.ref a :: st)) : Run p l e R s m args below meth c n0 P h k n pc Ls (.int z :: st) := by
  subst hp hk hn hvs
  intro T locs X eT N
  obtain ⟨T', h', cA, X', e', E, A, O, q⟩ := newR X C.1 C.2.1 C.2.2.2.2.1 w1 w2 eT (g := mkF m pc Ls (.int z :: st)) rfl (hb C.2.2.1 hd) rfl hz hcap hcb hk' hn'
  obtain ⟨s₂, o, z, r⟩ := r h' _ cA E rfl (Av.new A) A O T' _ X' e' N
  exact ⟨s₂, o, q _ z, r⟩
theorem s_foldI (C : Ctx p l e R s m args below meth c Z own cd maxL ret nm) {x y : Int32} (hx : x = y) (r : Run p l e R s m args below meth c n0 P h k n pc Ls (.int y :: st)) : Run p l e R s m args below meth c n0 P h k n pc Ls (.int x :: st) := hx ▸ r
theorem s_foldL (C : Ctx p l e R s m args below meth c Z own cd maxL ret nm) {x y : Int64} (hx : x = y) (r : Run p l e R s m args below meth c n0 P h k n pc Ls (.long y :: st)) : Run p l e R s m args below meth c n0 P h k n pc Ls (.long x :: st) := hx ▸ r
theorem s_arraycopy (C : Ctx p l e R s m args below meth c Z own cd maxL ret nm) {i W : Nat} {ty : FieldType} {a b : Addr} {vs vd : List Value} {sp dp nn : Int32} (hd : decode cd pc = .ok (.invokestatic i, 3)) (hp : pc + 3 = pc') (w1 : (Jvm.Cond.methodLink own i Jvm.Stand.acN).before a0 Z = true) (w2 : (Jvm.Cond.native Jvm.Stand.acN).before a0 Z = true) (w3 : (Jvm.Cond.static Jvm.Stand.acN).before a0 Z = true) (w4 : (Jvm.Cond.initialized "java/lang/System").before a0 Z = true) (A : Av Z h a ty vs) (B : Av Z h b ty vd) (hty : refKind ty = false) (si di ni : Nat) (h1 : sp.toInt = (si : Int)) (h2 : dp.toInt = (di : Int)) (h3 : nn.toInt = (ni : Int)) (h4 : si + ni ≤ vs.length) (h5 : di + ni ≤ vd.length) (ge : n0 ≤ b) (hs : Ls.size = maxL) (hf : 1 ≤ R.frames) (hW : (st.map fun v => v.category).sum = W) (hlo : W + (nativeFrameWords "java/lang/System" "arraycopy" 5 + 11) ≤ R.locals) (vd' : List Value) (hvd : vd.take di ++ (vs.drop si).take ni ++ vd.drop (di + ni) = vd')
    (r : ∀ h', Keep h h' [b] → Av Z h' b ty vd' → Run p l e R s m args below meth c n0 P h' k n pc' Ls st) : Run p l e R s m args below meth c n0 P h k n pc Ls (.int nn :: .int dp :: .ref b :: .int sp :: .ref a :: st) := by
  subst hp hvd
  obtain ⟨e1, g1⟩ := idx_n h1
  obtain ⟨e2, g2⟩ := idx_n h2
  obtain ⟨e3, g3⟩ := idx_n h3
  have la := A
  have lb := B
  obtain ⟨_, -, -, la, -⟩ := la
  obtain ⟨_, -, -, lb, -⟩ := lb
  obtain ⟨ka, A'⟩ := A.arv Value.null
  obtain ⟨kb, B'⟩ := B.arv Value.null
  intro T locs X eT N
  have hus : (vs.drop si).take ni = (List.range nn.toNatClampNeg).map fun i => vs.getD (sp.toNatClampNeg + i) Value.null := by
    rw [e1, e3]
    apply List.ext_getElem
    · simp; omega
    · intro j q1 q2
      have q3 : j < ni := by simpa using q2
      simp [List.getD_eq_getElem?_getD, List.getElem?_eq_getElem (show si + j < vs.length by omega)]
  obtain ⟨T', h', L, X', e', N', K, V', q⟩ := cpA X C.1 C.2.1 C.2.2.2.2.1 w1 w2 w3 w4 eT A' B' (Or.inl ⟨rfl, hty⟩) g1 g2 g3 (by rw [e1, e3, (len32 la).1]; exact h4) (by rw [e2, e3, (len32 lb).1]; exact h5) hus (by rw [e2, e3]; exact h5) N ge (g := mkF m pc Ls (.int nn :: .int dp :: .ref b :: .int sp :: .ref a :: st)) rfl (by rw [C.2.2.2.1]; exact hs) rfl (hb C.2.2.1 hd) hf (W := W) (by show 2 * 0 + _ ≤ _; omega) hlo
  rw [e2, e3] at V'
  obtain ⟨s₂, o, z, r⟩ := r h' K (Av.of_arv V' (by rw [(len32 lb).1]; simp; omega)) T' _ X' e' N'
  exact ⟨s₂, o, q _ z, r⟩
theorem s_clone (C : Ctx p l e R s m args below meth c Z own cd maxL ret nm) {i W k' n' cap : Nat} {ty : FieldType} {ad : String} {a : Addr} {vs : List Value} (hd : decode cd pc = .ok (.invokevirtual i, 3)) (hp : pc + 3 = pc') (w1 : (Jvm.Cond.methodLink own i ⟨ad, "clone", "()Ljava/lang/Object;"⟩).before a0 Z = true) (w2 : (Jvm.Cond.sameMethod ad "java/lang/Object" "clone" "()Ljava/lang/Object;").before a0 Z = true) (w3 : (Jvm.Cond.native ⟨"java/lang/Object", "clone", "()Ljava/lang/Object;"⟩).before a0 Z = true) (w4 : (Jvm.Cond.instanceMethod ⟨"java/lang/Object", "clone", "()Ljava/lang/Object;"⟩).before a0 Z = true) (w5 : (Jvm.Cond.selects ad ⟨ad, "clone", "()Ljava/lang/Object;"⟩ ⟨"java/lang/Object", "clone", "()Ljava/lang/Object;"⟩).before a0 Z = true) (w6 : (Jvm.Cond.castable ad "java/lang/Cloneable").before a0 Z = true) (V : Av Z h a ty vs) (E : Exa Z h a ad) (hs : Ls.size = maxL) (hf : 1 ≤ R.frames) (hW : (st.map fun v => v.category).sum = W) (hl : W + 14 ≤ R.locals) (hcap : vs.length ≤ cap) (hk : k + 1 = k') (hk' : k' ≤ R.cells) (hn : n + cap = n') (hn' : n' ≤ R.slots)
    (r : ∀ h' b, Ext h h' → b = h.size → Av Z h' b ty vs → Exa Z h' b ad → Run p l e R s m args below meth c n0 P h' k' n' pc' Ls (.ref b :: st)) : Run p l e R s m args below meth c n0 P h k n pc Ls (.ref a :: st) := by
  subst hp hk hn
  have la := V
  obtain ⟨_, -, -, la, -⟩ := la
  obtain ⟨ka, A'⟩ := V.arv Value.null
  intro T locs X eT N
  obtain ⟨T', h', X', e', Ex, V', E', q⟩ := cloneH X C.1 C.2.1 C.2.2.2.2.1 w1 w2 w3 w4 w5 w6 eT A'.arh E (g := mkF m pc Ls (.ref a :: st)) rfl (by rw [C.2.2.2.1]; exact hs) rfl (hb C.2.2.1 hd) hf (W := W) (cap := cap) (by show 2 * 0 + _ ≤ _; omega) hl (by rw [(len32 la).1]; exact hcap) hk' hn'
  obtain ⟨s₂, o, z, r⟩ := r h' _ Ex rfl (Av.of_arv (dv := Value.null) V' (len32 la).1.symm) E' T' _ X' e' N
  exact ⟨s₂, o, q _ z, r⟩
theorem s_length (C : Ctx p l e R s m args below meth c Z own cd maxL ret nm) {ty : FieldType} {a : Addr} {vs : List Value} (hd : decode cd pc = .ok (.arraylength, 1)) (hp : pc + 1 = pc') (V : Av Z h a ty vs) (z : Int32) (hz : vs.length.toInt32 = z) (r : Run p l e R s m args below meth c n0 P h k n pc' Ls (.int z :: st)) : Run p l e R s m args below meth c n0 P h k n pc Ls (.ref a :: st) := by
  subst hp hz
  obtain ⟨cl, A, hs, hl, -⟩ := V
  have e1 : cl.slots.size = vs.length := by simp [hs]
  refine Run.pure (fun T locs X eT t z => X.arraylength C.1 (by rw [eT]; exact A.1) (State.isArrayOf_alike C.2.1.alike A.2.1) (g := mkF m pc Ls (.ref a :: st)) rfl rfl (hb C.2.2.1 hd) _ (by rw [e1]; exact z)) r
theorem s_iaload (C : Ctx p l e R s m args below meth c Z own cd maxL ret nm) {a : Addr} {vs : List Value} {j : Int32} {x : Int32} (hd : decode cd pc = .ok (.iaload, 1)) (hp : pc + 1 = pc') (V : Av Z h a .int vs) (i : Nat) (hi : j.toInt = (i : Int)) (hv : vs[i]? = some (.int x)) (r : Run p l e R s m args below meth c n0 P h k n pc' Ls ((.int x) :: st)) : Run p l e R s m args below meth c n0 P h k n pc Ls (.int j :: .ref a :: st) := by
  subst hp
  obtain ⟨cl, A, hs, hl, -⟩ := V
  obtain ⟨e1, e2⟩ := idx_n hi
  have e3 : i < vs.length := (List.getElem?_eq_some_iff.mp hv).1
  refine Run.pure (fun T locs X eT t z => X.iaload C.1 (by rw [eT]; exact A.1) (State.isArrayOf_alike C.2.1.alike A.2.1) A.2.2 (by rw [e1, hs]; rintro (q | q); exact e2 q; simp at q; omega) (by rw [e1, hs]; simpa using hv) (g := mkF m pc Ls (.int j :: .ref a :: st)) rfl rfl (hb C.2.2.1 hd) _ z) r
theorem s_laload (C : Ctx p l e R s m args below meth c Z own cd maxL ret nm) {a : Addr} {vs : List Value} {j : Int32} {x : Int64} (hd : decode cd pc = .ok (.laload, 1)) (hp : pc + 1 = pc') (V : Av Z h a .long vs) (i : Nat) (hi : j.toInt = (i : Int)) (hv : vs[i]? = some (.long x)) (r : Run p l e R s m args below meth c n0 P h k n pc' Ls ((.long x) :: st)) : Run p l e R s m args below meth c n0 P h k n pc Ls (.int j :: .ref a :: st) := by
  subst hp
  obtain ⟨cl, A, hs, hl, -⟩ := V
  obtain ⟨e1, e2⟩ := idx_n hi
  have e3 : i < vs.length := (List.getElem?_eq_some_iff.mp hv).1
  refine Run.pure (fun T locs X eT t z => X.laload C.1 (by rw [eT]; exact A.1) (State.isArrayOf_alike C.2.1.alike A.2.1) A.2.2 (by rw [e1, hs]; rintro (q | q); exact e2 q; simp at q; omega) (by rw [e1, hs]; simpa using hv) (g := mkF m pc Ls (.int j :: .ref a :: st)) rfl rfl (hb C.2.2.1 hd) _ z) r
theorem s_baload (C : Ctx p l e R s m args below meth c Z own cd maxL ret nm) {a : Addr} {vs : List Value} {j : Int32} {x : Int32} (hd : decode cd pc = .ok (.baload, 1)) (hp : pc + 1 = pc') (V : Av Z h a .byte vs) (i : Nat) (hi : j.toInt = (i : Int)) (hv : vs[i]? = some (.int x)) (r : Run p l e R s m args below meth c n0 P h k n pc' Ls ((.int x) :: st)) : Run p l e R s m args below meth c n0 P h k n pc Ls (.int j :: .ref a :: st) := by
  subst hp
  obtain ⟨cl, A, hs, hl, -⟩ := V
  obtain ⟨e1, e2⟩ := idx_n hi
  have e3 : i < vs.length := (List.getElem?_eq_some_iff.mp hv).1
  refine Run.pure (fun T locs X eT t z => X.baloadBytes C.1 (by rw [eT]; exact A.1) (State.isArrayOf_alike C.2.1.alike A.2.1) A.2.2 (by rw [e1, hs]; rintro (q | q); exact e2 q; simp at q; omega) (by rw [e1, hs]; simpa using hv) (g := mkF m pc Ls (.int j :: .ref a :: st)) rfl rfl (hb C.2.2.1 hd) _ z) r
theorem s_caload (C : Ctx p l e R s m args below meth c Z own cd maxL ret nm) {a : Addr} {vs : List Value} {j : Int32} {x : Int32} (hd : decode cd pc = .ok (.caload, 1)) (hp : pc + 1 = pc') (V : Av Z h a .char vs) (i : Nat) (hi : j.toInt = (i : Int)) (hv : vs[i]? = some (.int x)) (r : Run p l e R s m args below meth c n0 P h k n pc' Ls ((.int x) :: st)) : Run p l e R s m args below meth c n0 P h k n pc Ls (.int j :: .ref a :: st) := by
  subst hp
  obtain ⟨cl, A, hs, hl, -⟩ := V
  obtain ⟨e1, e2⟩ := idx_n hi
  have e3 : i < vs.length := (List.getElem?_eq_some_iff.mp hv).1
  refine Run.pure (fun T locs X eT t z => X.caload C.1 (by rw [eT]; exact A.1) (State.isArrayOf_alike C.2.1.alike A.2.1) A.2.2 (by rw [e1, hs]; rintro (q | q); exact e2 q; simp at q; omega) (by rw [e1, hs]; simpa using hv) (g := mkF m pc Ls (.int j :: .ref a :: st)) rfl rfl (hb C.2.2.1 hd) _ z) r
theorem s_aaload (C : Ctx p l e R s m args below meth c Z own cd maxL ret nm) {a : Addr} {vs : List Value} {j : Int32} {x : Value} {ty : FieldType} (hty : ty.isReference = true) (hd : decode cd pc = .ok (.aaload, 1)) (hp : pc + 1 = pc') (V : Av Z h a ty vs) (i : Nat) (hi : j.toInt = (i : Int)) (hv : vs[i]? = some x) (r : Run p l e R s m args below meth c n0 P h k n pc' Ls (x :: st)) : Run p l e R s m args below meth c n0 P h k n pc Ls (.int j :: .ref a :: st) := by
  subst hp
  obtain ⟨cl, A, hs, hl, -⟩ := V
  obtain ⟨e1, e2⟩ := idx_n hi
  have e3 : i < vs.length := (List.getElem?_eq_some_iff.mp hv).1
  refine Run.pure (fun T locs X eT t z => X.aaload C.1 (by rw [eT]; exact A.1) (State.isArrayOf_alike C.2.1.alike A.2.1) hty A.2.2 (by rw [e1, hs]; rintro (q | q); exact e2 q; simp at q; omega) (by rw [e1, hs]; simpa using hv) (g := mkF m pc Ls (.int j :: .ref a :: st)) rfl rfl (hb C.2.2.1 hd) _ z) r
def OvA (Z : State) (h : Heap) (a : Addr) (K : String) : Prop := ∃ cl : Cell, Arr Z h a cl (.object K) ∧ Ovr Z cl.cls K
theorem OvA.keep {h h' : Heap} {a : Addr} {K : String} {ws : List Addr} (F : OvA Z h a K) (Kp : Keep h h' ws) : OvA Z h' a K := by
  obtain ⟨cl, A, O⟩ := F
  obtain ⟨c', h1, h2, h3, h4⟩ := Kp.2.2 a cl A.1
  exact ⟨c', ⟨h1, ⟨by rw [h3]; exact A.2.1.1, by rw [h2]; exact A.2.1.2⟩, by rw [h3]; exact A.2.2⟩, h2 ▸ O⟩
theorem OvA.lt {h : Heap} {a : Addr} {K : String} (F : OvA Z h a K) : a < h.size := by obtain ⟨cl, A, -⟩ := F; exact A.lt
theorem OvA.sto {h : Heap} {a y : Addr} {K : String} (F : OvA Z h a K) (I : Ins Z h y K true) : Sto Z h a (.ref y) := by obtain ⟨cl, A, O⟩ := F; exact Sto.of A O I
theorem s_instNull (C : Ctx p l e R s m args below meth c Z own cd maxL ret nm) {i : Nat} (hd : decode cd pc = .ok (.instanceof i, 3)) (hp : pc + 3 = pc') (r : Run p l e R s m args below meth c n0 P h k n pc' Ls (.int 0 :: st)) : Run p l e R s m args below meth c n0 P h k n pc Ls (.null :: st) := by
  subst hp; exact Run.pure (fun T locs X _ t z => X.instanceofNull C.1 (g := mkF m pc Ls (.null :: st)) rfl rfl (hb C.2.2.1 hd) _ z) r
theorem s_instNo (C : Ctx p l e R s m args below meth c Z own cd maxL ret nm) {K Kc : String} {i : Nat} {a : Addr} (hd : decode cd pc = .ok (.instanceof i, 3)) (hp : pc + 3 = pc') (w : (Jvm.Cond.classLink own i K).before a0 Z = true) (E : Exa Z h a Kc) (F : ∃ c t, Z.vm.findClass Kc = some c ∧ Z.vm.findClass K = some t ∧ Z.vm.assignable c t = false) (r : Run p l e R s m args below meth c n0 P h k n pc' Ls (.int 0 :: st)) : Run p l e R s m args below meth c n0 P h k n pc Ls (.ref a :: st) := by
  subst hp; exact Run.warm (fun T locs X eT => instNo X C.1 C.2.1 C.2.2.2.2.1 w eT E F (g := mkF m pc Ls (.ref a :: st)) rfl rfl (hb C.2.2.1 hd)) r
theorem ns_root {O K : String} {q : Nat} (w : (Jvm.Cond.noSuperclass O).before a0 Z = true) (wi : (Jvm.Cond.instantiable K q).before a0 Z = true) (hn : O ≠ K) : NS Z O K := by
  obtain ⟨c, k, h1, h2, h3, -, -⟩ := Cond.noSuperclass_spec w
  obtain ⟨t, kt, g1, -⟩ := Cond.instantiable_spec wi
  exact ⟨c, t, h1, g1, fun fuel => by cases fuel with | zero => rfl | succ f => simp [Vm.isSubclassAux, ids_ne h1 g1 hn, h2, h3]⟩
theorem ns_no {C' S' K : String} {q : Nat} (w : (Jvm.Cond.superclass C' S').before a0 Z = true) (wi : (Jvm.Cond.instantiable K q).before a0 Z = true) (nn : NS Z C' K) (hn : C' ≠ K) : ∃ c t, Z.vm.findClass C' = some c ∧ Z.vm.findClass K = some t ∧ Z.vm.assignable c t = false := by
  obtain ⟨c, t, h0, g0, n3⟩ := nn
  obtain ⟨_, k, _, -, h2, -, -, h5, -⟩ := Cond.superclass_spec h0 w
  obtain ⟨t', kt, g1, g2, g5, g6, -⟩ := Cond.instantiable_spec wi
  cases g0.symm.trans g1
  refine ⟨c, t, h0, g0, ?_⟩
  have g7 : kt.isInterface = false := (Bool.or_eq_false_iff.mp g6).1
  show Z.vm.assignableAux 256 c t = false
  simp [Vm.assignableAux, ids_ne h0 g0 hn, h2, g2, h5, g5, g7, Vm.isSubclass, n3]
theorem s_aastore (C : Ctx p l e R s m args below meth c Z own cd maxL ret nm) {a : Addr} {ty : FieldType} {vs : List Value} {j : Int32} {v : Value} (hty : ty.isReference = true) (hd : decode cd pc = .ok (.aastore, 1)) (hp : pc + 1 = pc') (V : Av Z h a ty vs) (F : Sto Z h a v) (hfv : fits ty v = true) (i : Nat) (hi : j.toInt = (i : Int)) (hlt : i < vs.length) (ha : n0 ≤ a) (vs' : List Value) (hvs : vs.set i v = vs') (r : ∀ h', Wr h h' a i v → Av Z h' a ty vs' → Run p l e R s m args below meth c n0 P h' k n pc' Ls st) : Run p l e R s m args below meth c n0 P h k n pc Ls (v :: .int j :: .ref a :: st) := by
  subst hp hvs
  have V0 := V
  obtain ⟨cl, A, hs, hl, -⟩ := V
  obtain ⟨e1, e2⟩ := idx_n hi
  subst e1
  intro T locs X eT N
  obtain ⟨T', h', X', e', W, q⟩ := stR X C.1 C.2.1 eT A (j := j) (by rw [hs]; rintro (q | q); exact e2 q; simp at q; omega) hty F (g := mkF m pc Ls (v :: .int j :: .ref a :: st)) rfl rfl (hb C.2.2.1 hd)
  obtain ⟨s₂, o, z, r⟩ := r h' W (V0.set W hfv) T' _ X' e' (Fr.snoc X' N ha)
  exact ⟨s₂, o, q _ z, r⟩
theorem s_baloadC (C : Ctx p l e R s m args below meth c Z own cd maxL ret nm) {a : Addr} {cl : Cell} {j x : Int32} (hd : decode cd pc = .ok (.baload, 1)) (hp : pc + 1 = pc') (A : Arr Z h a cl .byte) (hin : ¬ (j < 0 ∨ cl.slots.size ≤ j.toNatClampNeg)) (hv : cl.slots[j.toNatClampNeg]? = some (.int x)) (r : Run p l e R s m args below meth c n0 P h k n pc' Ls (.int x :: st)) : Run p l e R s m args below meth c n0 P h k n pc Ls (.int j :: .ref a :: st) := by
  subst hp
  exact Run.pure (fun T locs X eT t z => X.baloadBytes C.1 (by rw [eT]; exact A.1) (State.isArrayOf_alike C.2.1.alike A.2.1) A.2.2 hin hv (g := mkF m pc Ls (.int j :: .ref a :: st)) rfl rfl (hb C.2.2.1 hd) _ z) r
theorem s_aaloadC (C : Ctx p l e R s m args below meth c Z own cd maxL ret nm) {a : Addr} {cl : Cell} {ty : FieldType} {j : Int32} {x : Value} (hty : ty.isReference = true) (hd : decode cd pc = .ok (.aaload, 1)) (hp : pc + 1 = pc') (A : Arr Z h a cl ty) (hin : ¬ (j < 0 ∨ cl.slots.size ≤ j.toNatClampNeg)) (hv : cl.slots[j.toNatClampNeg]? = some x) (r : Run p l e R s m args below meth c n0 P h k n pc' Ls (x :: st)) : Run p l e R s m args below meth c n0 P h k n pc Ls (.int j :: .ref a :: st) := by
  subst hp
  exact Run.pure (fun T locs X eT t z => X.aaload C.1 (by rw [eT]; exact A.1) (State.isArrayOf_alike C.2.1.alike A.2.1) hty A.2.2 hin hv (g := mkF m pc Ls (.int j :: .ref a :: st)) rfl rfl (hb C.2.2.1 hd) _ z) r
theorem s_iastore (C : Ctx p l e R s m args below meth c Z own cd maxL ret nm) {a : Addr} {vs : List Value} {j : Int32} {x : Int32} (hd : decode cd pc = .ok (.iastore, 1)) (hp : pc + 1 = pc') (V : Av Z h a .int vs) (i : Nat) (hi : j.toInt = (i : Int)) (hlt : i < vs.length) (ha : n0 ≤ a) (vs' : List Value) (hvs : vs.set i (.int x) = vs') (r : ∀ h', Wr h h' a i (.int x) → Av Z h' a .int vs' → Run p l e R s m args below meth c n0 P h' k n pc' Ls st) : Run p l e R s m args below meth c n0 P h k n pc Ls ((.int x) :: .int j :: .ref a :: st) := by
  subst hp hvs
  have V0 := V
  obtain ⟨cl, A, hs, hl, -⟩ := V
  obtain ⟨e1, e2⟩ := idx_n hi
  subst e1
  intro T locs X eT N
  obtain ⟨T', h', X', e', W, q⟩ := stI X C.1 C.2.1 eT A (j := j) (by rw [hs]; rintro (q | q); exact e2 q; simp at q; omega) (g := mkF m pc Ls ((.int x) :: .int j :: .ref a :: st)) rfl rfl (hb C.2.2.1 hd)
  obtain ⟨s₂, o, z, r⟩ := r h' W (V0.set W rfl) T' _ X' e' (Fr.snoc X' N ha)
  exact ⟨s₂, o, q _ z, r⟩
theorem s_lastore (C : Ctx p l e R s m args below meth c Z own cd maxL ret nm) {a : Addr} {vs : List Value} {j : Int32} {x : Int64} (hd : decode cd pc = .ok (.lastore, 1)) (hp : pc + 1 = pc') (V : Av Z h a .long vs) (i : Nat) (hi : j.toInt = (i : Int)) (hlt : i < vs.length) (ha : n0 ≤ a) (vs' : List Value) (hvs : vs.set i (.long x) = vs') (r : ∀ h', Wr h h' a i (.long x) → Av Z h' a .long vs' → Run p l e R s m args below meth c n0 P h' k n pc' Ls st) : Run p l e R s m args below meth c n0 P h k n pc Ls ((.long x) :: .int j :: .ref a :: st) := by
  subst hp hvs
  have V0 := V
  obtain ⟨cl, A, hs, hl, -⟩ := V
  obtain ⟨e1, e2⟩ := idx_n hi
  subst e1
  intro T locs X eT N
  obtain ⟨T', h', X', e', W, q⟩ := stJ X C.1 C.2.1 eT A (j := j) (by rw [hs]; rintro (q | q); exact e2 q; simp at q; omega) (g := mkF m pc Ls ((.long x) :: .int j :: .ref a :: st)) rfl rfl (hb C.2.2.1 hd)
  obtain ⟨s₂, o, z, r⟩ := r h' W (V0.set W rfl) T' _ X' e' (Fr.snoc X' N ha)
  exact ⟨s₂, o, q _ z, r⟩
theorem s_bastore (C : Ctx p l e R s m args below meth c Z own cd maxL ret nm) {a : Addr} {vs : List Value} {j : Int32} {x : Int32} (hd : decode cd pc = .ok (.bastore, 1)) (hp : pc + 1 = pc') (V : Av Z h a .byte vs) (i : Nat) (hi : j.toInt = (i : Int)) (hlt : i < vs.length) (ha : n0 ≤ a) (vs' : List Value) (hvs : vs.set i (.int x.toInt8.toInt32) = vs') (r : ∀ h', Wr h h' a i (.int x.toInt8.toInt32) → Av Z h' a .byte vs' → Run p l e R s m args below meth c n0 P h' k n pc' Ls st) : Run p l e R s m args below meth c n0 P h k n pc Ls ((.int x) :: .int j :: .ref a :: st) := by
  subst hp hvs
  have V0 := V
  obtain ⟨cl, A, hs, hl, -⟩ := V
  obtain ⟨e1, e2⟩ := idx_n hi
  subst e1
  intro T locs X eT N
  obtain ⟨T', h', X', e', W, q⟩ := stB X C.1 C.2.1 eT A (j := j) (by rw [hs]; rintro (q | q); exact e2 q; simp at q; omega) (g := mkF m pc Ls ((.int x) :: .int j :: .ref a :: st)) rfl rfl (hb C.2.2.1 hd)
  obtain ⟨s₂, o, z, r⟩ := r h' W (V0.set W (fits_nar_byte _)) T' _ X' e' (Fr.snoc X' N ha)
  exact ⟨s₂, o, q _ z, r⟩
theorem s_castore (C : Ctx p l e R s m args below meth c Z own cd maxL ret nm) {a : Addr} {vs : List Value} {j : Int32} {x : Int32} (hd : decode cd pc = .ok (.castore, 1)) (hp : pc + 1 = pc') (V : Av Z h a .char vs) (i : Nat) (hi : j.toInt = (i : Int)) (hlt : i < vs.length) (ha : n0 ≤ a) (vs' : List Value) (hvs : vs.set i (.int x.toUInt32.toUInt16.toUInt32.toInt32) = vs') (r : ∀ h', Wr h h' a i (.int x.toUInt32.toUInt16.toUInt32.toInt32) → Av Z h' a .char vs' → Run p l e R s m args below meth c n0 P h' k n pc' Ls st) : Run p l e R s m args below meth c n0 P h k n pc Ls ((.int x) :: .int j :: .ref a :: st) := by
  subst hp hvs
  have V0 := V
  obtain ⟨cl, A, hs, hl, -⟩ := V
  obtain ⟨e1, e2⟩ := idx_n hi
  subst e1
  intro T locs X eT N
  obtain ⟨T', h', X', e', W, q⟩ := stC X C.1 C.2.1 eT A (j := j) (by rw [hs]; rintro (q | q); exact e2 q; simp at q; omega) (g := mkF m pc Ls ((.int x) :: .int j :: .ref a :: st)) rfl rfl (hb C.2.2.1 hd)
  obtain ⟨s₂, o, z, r⟩ := r h' W (V0.set W (fits_nar_char _)) T' _ X' e' (Fr.snoc X' N ha)
  exact ⟨s₂, o, q _ z, r⟩
end Steps
end Own
end Jvm.Pilot.@@N@@

namespace Jvm.Pilot.@@N@@
open Jvm Jvm.ClassFile Sem Op Lib Jvm.Free Jvm.Stand Jvm.LawKit Jvm.RoadKit Bundle Jvm.Pilot.@@N@@.Jvm.D
namespace Own
abbrev Hw (a0 : Array Value) (Z : State) : Prop := ∀ d ∈ tables_1, d.before a0 Z = true
theorem w0 {a0 : Array Value} {Z : State} (hw : Hw a0 Z) : (Jvm.Cond.constantLong "com/example/chasm/chasm/chase/IdListIndexOfPinLaw" (9 : Nat) (2147483647 : Int64)).before a0 Z = true := hw _ (List.mem_of_getElem? (i := 0) rfl)
theorem w1 {a0 : Array Value} {Z : State} (hw : Hw a0 Z) : (Jvm.Cond.classLink "com/example/chasm/chasm/chase/IdListIndexOfPinLaw" (22 : Nat) "com/example/chasm/chasm/chase/IdList").before a0 Z = true := hw _ (List.mem_of_getElem? (i := 1) rfl)
theorem w2 {a0 : Array Value} {Z : State} (hw : Hw a0 Z) : (Jvm.Cond.instantiable "com/example/chasm/chasm/chase/IdList" (2 : Nat)).before a0 Z = true := hw _ (List.mem_of_getElem? (i := 2) rfl)
theorem w3 {a0 : Array Value} {Z : State} (hw : Hw a0 Z) : (Jvm.Cond.initialized "com/example/chasm/chasm/chase/IdList").before a0 Z = true := hw _ (List.mem_of_getElem? (i := 3) rfl)
theorem w4 {a0 : Array Value} {Z : State} (hw : Hw a0 Z) : (Jvm.Cond.methodLink "com/example/chasm/chasm/chase/IdListIndexOfPinLaw" (24 : Nat) ({ cls := "com/example/chasm/chasm/chase/IdList", name := "<init>", desc := "()V" } : Jvm.MethodName)).before a0 Z = true := hw _ (List.mem_of_getElem? (i := 4) rfl)
theorem w5 {a0 : Array Value} {Z : State} (hw : Hw a0 Z) : (Jvm.Cond.instanceMethod ({ cls := "com/example/chasm/chasm/chase/IdList", name := "<init>", desc := "()V" } : Jvm.MethodName)).before a0 Z = true := hw _ (List.mem_of_getElem? (i := 5) rfl)
theorem w6 {a0 : Array Value} {Z : State} (hw : Hw a0 Z) : (Jvm.Cond.code ({ cls := "com/example/chasm/chasm/chase/IdList", name := "<init>", desc := "()V" } : Jvm.MethodName) prog_24_method_1_code (1 : Nat) (Option.none : Option Jvm.ClassFile.FieldType)).before a0 Z = true := hw _ (List.mem_of_getElem? (i := 6) rfl)
theorem w7 {a0 : Array Value} {Z : State} (hw : Hw a0 Z) : (Jvm.Cond.methodLink "com/example/chasm/chasm/chase/IdList" (1 : Nat) ({ cls := "java/lang/Object", name := "<init>", desc := "()V" } : Jvm.MethodName)).before a0 Z = true := hw _ (List.mem_of_getElem? (i := 7) rfl)
theorem w8 {a0 : Array Value} {Z : State} (hw : Hw a0 Z) : (Jvm.Cond.instanceMethod ({ cls := "java/lang/Object", name := "<init>", desc := "()V" } : Jvm.MethodName)).before a0 Z = true := hw _ (List.mem_of_getElem? (i := 8) rfl)
theorem w9 {a0 : Array Value} {Z : State} (hw : Hw a0 Z) : (Jvm.Cond.code ({ cls := "java/lang/Object", name := "<init>", desc := "()V" } : Jvm.MethodName) object_method_1_code (1 : Nat) (Option.none : Option Jvm.ClassFile.FieldType)).before a0 Z = true := hw _ (List.mem_of_getElem? (i := 9) rfl)
theorem w10 {a0 : Array Value} {Z : State} (hw : Hw a0 Z) : (Jvm.Cond.arrayClass Jvm.ClassFile.FieldType.int).before a0 Z = true := hw _ (List.mem_of_getElem? (i := 10) rfl)
theorem w11 {a0 : Array Value} {Z : State} (hw : Hw a0 Z) : (Jvm.Cond.fieldLink "com/example/chasm/chasm/chase/IdList" (7 : Nat) "com/example/chasm/chasm/chase/IdList" "ids" "[I").before a0 Z = true := hw _ (List.mem_of_getElem? (i := 11) rfl)
theorem w12 {a0 : Array Value} {Z : State} (hw : Hw a0 Z) : (Jvm.Cond.lays "com/example/chasm/chasm/chase/IdList" "com/example/chasm/chasm/chase/IdList" "ids" "[I").before a0 Z = true := hw _ (List.mem_of_getElem? (i := 12) rfl)
theorem w13 {a0 : Array Value} {Z : State} (hw : Hw a0 Z) : (Jvm.Cond.methodLink "com/example/chasm/chasm/chase/IdListIndexOfPinLaw" (25 : Nat) ({ cls := "com/example/chasm/chasm/chase/IdList", name := "add", desc := "(I)V" } : Jvm.MethodName)).before a0 Z = true := hw _ (List.mem_of_getElem? (i := 13) rfl)
theorem w14 {a0 : Array Value} {Z : State} (hw : Hw a0 Z) : (Jvm.Cond.declares ({ cls := "com/example/chasm/chasm/chase/IdList", name := "add", desc := "(I)V" } : Jvm.MethodName)).before a0 Z = true := hw _ (List.mem_of_getElem? (i := 14) rfl)
theorem w15 {a0 : Array Value} {Z : State} (hw : Hw a0 Z) : (Jvm.Cond.instanceMethod ({ cls := "com/example/chasm/chasm/chase/IdList", name := "add", desc := "(I)V" } : Jvm.MethodName)).before a0 Z = true := hw _ (List.mem_of_getElem? (i := 15) rfl)
theorem w16 {a0 : Array Value} {Z : State} (hw : Hw a0 Z) : (Jvm.Cond.selects "com/example/chasm/chasm/chase/IdList" ({ cls := "com/example/chasm/chasm/chase/IdList", name := "add", desc := "(I)V" } : Jvm.MethodName) ({ cls := "com/example/chasm/chasm/chase/IdList", name := "add", desc := "(I)V" } : Jvm.MethodName)).before a0 Z = true := hw _ (List.mem_of_getElem? (i := 16) rfl)
theorem w17 {a0 : Array Value} {Z : State} (hw : Hw a0 Z) : (Jvm.Cond.code ({ cls := "com/example/chasm/chasm/chase/IdList", name := "add", desc := "(I)V" } : Jvm.MethodName) prog_24_method_2_code (2 : Nat) (Option.none : Option Jvm.ClassFile.FieldType)).before a0 Z = true := hw _ (List.mem_of_getElem? (i := 17) rfl)
theorem w18 {a0 : Array Value} {Z : State} (hw : Hw a0 Z) : (Jvm.Cond.fieldLink "com/example/chasm/chasm/chase/IdList" (13 : Nat) "com/example/chasm/chasm/chase/IdList" "size" "I").before a0 Z = true := hw _ (List.mem_of_getElem? (i := 18) rfl)
theorem w19 {a0 : Array Value} {Z : State} (hw : Hw a0 Z) : (Jvm.Cond.lays "com/example/chasm/chasm/chase/IdList" "com/example/chasm/chasm/chase/IdList" "size" "I").before a0 Z = true := hw _ (List.mem_of_getElem? (i := 19) rfl)
theorem w20 {a0 : Array Value} {Z : State} (hw : Hw a0 Z) : (Jvm.Cond.methodLink "com/example/chasm/chasm/chase/IdListIndexOfPinLaw" (29 : Nat) ({ cls := "com/example/chasm/chasm/chase/IdListIndexOfPinLaw", name := "below", desc := "(IIJI)I" } : Jvm.MethodName)).before a0 Z = true := hw _ (List.mem_of_getElem? (i := 20) rfl)
theorem w21 {a0 : Array Value} {Z : State} (hw : Hw a0 Z) : (Jvm.Cond.static ({ cls := "com/example/chasm/chasm/chase/IdListIndexOfPinLaw", name := "below", desc := "(IIJI)I" } : Jvm.MethodName)).before a0 Z = true := hw _ (List.mem_of_getElem? (i := 21) rfl)
theorem w22 {a0 : Array Value} {Z : State} (hw : Hw a0 Z) : (Jvm.Cond.initialized "com/example/chasm/chasm/chase/IdListIndexOfPinLaw").before a0 Z = true := hw _ (List.mem_of_getElem? (i := 22) rfl)
theorem w23 {a0 : Array Value} {Z : State} (hw : Hw a0 Z) : (Jvm.Cond.code ({ cls := "com/example/chasm/chasm/chase/IdListIndexOfPinLaw", name := "below", desc := "(IIJI)I" } : Jvm.MethodName) method_2_code (5 : Nat) (Option.some Jvm.ClassFile.FieldType.int)).before a0 Z = true := hw _ (List.mem_of_getElem? (i := 23) rfl)
theorem w24 {a0 : Array Value} {Z : State} (hw : Hw a0 Z) : (Jvm.Cond.methodLink "com/example/chasm/chasm/chase/IdListIndexOfPinLaw" (35 : Nat) ({ cls := "com/example/chasm/chasm/chase/IdList", name := "indexOf", desc := "(I)I" } : Jvm.MethodName)).before a0 Z = true := hw _ (List.mem_of_getElem? (i := 24) rfl)
theorem w25 {a0 : Array Value} {Z : State} (hw : Hw a0 Z) : (Jvm.Cond.declares ({ cls := "com/example/chasm/chasm/chase/IdList", name := "indexOf", desc := "(I)I" } : Jvm.MethodName)).before a0 Z = true := hw _ (List.mem_of_getElem? (i := 25) rfl)
theorem w26 {a0 : Array Value} {Z : State} (hw : Hw a0 Z) : (Jvm.Cond.instanceMethod ({ cls := "com/example/chasm/chasm/chase/IdList", name := "indexOf", desc := "(I)I" } : Jvm.MethodName)).before a0 Z = true := hw _ (List.mem_of_getElem? (i := 26) rfl)
theorem w27 {a0 : Array Value} {Z : State} (hw : Hw a0 Z) : (Jvm.Cond.selects "com/example/chasm/chasm/chase/IdList" ({ cls := "com/example/chasm/chasm/chase/IdList", name := "indexOf", desc := "(I)I" } : Jvm.MethodName) ({ cls := "com/example/chasm/chasm/chase/IdList", name := "indexOf", desc := "(I)I" } : Jvm.MethodName)).before a0 Z = true := hw _ (List.mem_of_getElem? (i := 27) rfl)
theorem w28 {a0 : Array Value} {Z : State} (hw : Hw a0 Z) : (Jvm.Cond.code ({ cls := "com/example/chasm/chasm/chase/IdList", name := "indexOf", desc := "(I)I" } : Jvm.MethodName) prog_24_method_7_code (5 : Nat) (Option.some Jvm.ClassFile.FieldType.int)).before a0 Z = true := hw _ (List.mem_of_getElem? (i := 28) rfl)
theorem w29 {a0 : Array Value} {Z : State} (hw : Hw a0 Z) : (Jvm.Cond.constantLong "com/example/chasm/chasm/chase/IdListIndexOfPinLaw" (11 : Nat) (-2147483648 : Int64)).before a0 Z = true := hw _ (List.mem_of_getElem? (i := 29) rfl)
theorem w30 {a0 : Array Value} {Z : State} (hw : Hw a0 Z) : (Jvm.Cond.methodLink "com/example/chasm/chasm/chase/IdListIndexOfPinLaw" (13 : Nat) ({ cls := "java/lang/Math", name := "min", desc := "(JJ)J" } : Jvm.MethodName)).before a0 Z = true := hw _ (List.mem_of_getElem? (i := 30) rfl)
theorem w31 {a0 : Array Value} {Z : State} (hw : Hw a0 Z) : (Jvm.Cond.static ({ cls := "java/lang/Math", name := "min", desc := "(JJ)J" } : Jvm.MethodName)).before a0 Z = true := hw _ (List.mem_of_getElem? (i := 31) rfl)
theorem w32 {a0 : Array Value} {Z : State} (hw : Hw a0 Z) : (Jvm.Cond.initialized "java/lang/Math").before a0 Z = true := hw _ (List.mem_of_getElem? (i := 32) rfl)
theorem w33 {a0 : Array Value} {Z : State} (hw : Hw a0 Z) : (Jvm.Cond.code ({ cls := "java/lang/Math", name := "min", desc := "(JJ)J" } : Jvm.MethodName) jdk_29_method_70_code (4 : Nat) (Option.some Jvm.ClassFile.FieldType.long)).before a0 Z = true := hw _ (List.mem_of_getElem? (i := 33) rfl)
theorem w34 {a0 : Array Value} {Z : State} (hw : Hw a0 Z) : (Jvm.Cond.methodLink "com/example/chasm/chasm/chase/IdListIndexOfPinLaw" (19 : Nat) ({ cls := "java/lang/Math", name := "max", desc := "(JJ)J" } : Jvm.MethodName)).before a0 Z = true := hw _ (List.mem_of_getElem? (i := 34) rfl)
theorem w35 {a0 : Array Value} {Z : State} (hw : Hw a0 Z) : (Jvm.Cond.static ({ cls := "java/lang/Math", name := "max", desc := "(JJ)J" } : Jvm.MethodName)).before a0 Z = true := hw _ (List.mem_of_getElem? (i := 35) rfl)
theorem w36 {a0 : Array Value} {Z : State} (hw : Hw a0 Z) : (Jvm.Cond.code ({ cls := "java/lang/Math", name := "max", desc := "(JJ)J" } : Jvm.MethodName) jdk_29_method_66_code (4 : Nat) (Option.some Jvm.ClassFile.FieldType.long)).before a0 Z = true := hw _ (List.mem_of_getElem? (i := 36) rfl)
theorem w37 {a0 : Array Value} {Z : State} (hw : Hw a0 Z) : (Jvm.Cond.methodLink "com/example/chasm/chasm/chase/IdList" (17 : Nat) ({ cls := "java/util/Arrays", name := "copyOf", desc := "([II)[I" } : Jvm.MethodName)).before a0 Z = true := hw _ (List.mem_of_getElem? (i := 37) rfl)
theorem w38 {a0 : Array Value} {Z : State} (hw : Hw a0 Z) : (Jvm.Cond.static ({ cls := "java/util/Arrays", name := "copyOf", desc := "([II)[I" } : Jvm.MethodName)).before a0 Z = true := hw _ (List.mem_of_getElem? (i := 38) rfl)
theorem w39 {a0 : Array Value} {Z : State} (hw : Hw a0 Z) : (Jvm.Cond.initialized "java/util/Arrays").before a0 Z = true := hw _ (List.mem_of_getElem? (i := 39) rfl)
theorem w40 {a0 : Array Value} {Z : State} (hw : Hw a0 Z) : (Jvm.Cond.code ({ cls := "java/util/Arrays", name := "copyOf", desc := "([II)[I" } : Jvm.MethodName) jdk_65_method_123_code (3 : Nat) (Option.some (Jvm.ClassFile.FieldType.array Jvm.ClassFile.FieldType.int))).before a0 Z = true := hw _ (List.mem_of_getElem? (i := 40) rfl)
theorem w41 {a0 : Array Value} {Z : State} (hw : Hw a0 Z) : (Jvm.Cond.methodLink "java/util/Arrays" (304 : Nat) ({ cls := "java/lang/Math", name := "min", desc := "(II)I" } : Jvm.MethodName)).before a0 Z = true := hw _ (List.mem_of_getElem? (i := 41) rfl)
theorem w42 {a0 : Array Value} {Z : State} (hw : Hw a0 Z) : (Jvm.Cond.static ({ cls := "java/lang/Math", name := "min", desc := "(II)I" } : Jvm.MethodName)).before a0 Z = true := hw _ (List.mem_of_getElem? (i := 42) rfl)
theorem w43 {a0 : Array Value} {Z : State} (hw : Hw a0 Z) : (Jvm.Cond.code ({ cls := "java/lang/Math", name := "min", desc := "(II)I" } : Jvm.MethodName) jdk_29_method_69_code (2 : Nat) (Option.some Jvm.ClassFile.FieldType.int)).before a0 Z = true := hw _ (List.mem_of_getElem? (i := 43) rfl)
theorem w44 {a0 : Array Value} {Z : State} (hw : Hw a0 Z) : (Jvm.Cond.methodLink "java/util/Arrays" (150 : Nat) ({ cls := "java/lang/System", name := "arraycopy", desc := "(Ljava/lang/Object;ILjava/lang/Object;II)V" } : Jvm.MethodName)).before a0 Z = true := hw _ (List.mem_of_getElem? (i := 44) rfl)
theorem w45 {a0 : Array Value} {Z : State} (hw : Hw a0 Z) : (Jvm.Cond.static ({ cls := "java/lang/System", name := "arraycopy", desc := "(Ljava/lang/Object;ILjava/lang/Object;II)V" } : Jvm.MethodName)).before a0 Z = true := hw _ (List.mem_of_getElem? (i := 45) rfl)
theorem w46 {a0 : Array Value} {Z : State} (hw : Hw a0 Z) : (Jvm.Cond.initialized "java/lang/System").before a0 Z = true := hw _ (List.mem_of_getElem? (i := 46) rfl)
theorem w47 {a0 : Array Value} {Z : State} (hw : Hw a0 Z) : (Jvm.Cond.native ({ cls := "java/lang/System", name := "arraycopy", desc := "(Ljava/lang/Object;ILjava/lang/Object;II)V" } : Jvm.MethodName)).before a0 Z = true := hw _ (List.mem_of_getElem? (i := 47) rfl)
theorem ef9 (m : MethodId) (x0 : Int32) (x1 : Int32) : entryFrame m #[(.int x0), (.int x1)] 2 = mkF m 0 #[.val (.int x0), .val (.int x1)] [] := by first | (simp [entryFrame, mkF, argsToLocals, Value.category]; done) | rfl
theorem pn9 : plainFor (⟨"java/lang/Math", "min", "(II)I"⟩ : MethodName) = true := Jvm.Free.JP.mathPlain rfl (by decide +kernel)
theorem d9_0 : decode jdk_29_method_69_code 0 = .ok (.iload_n 0, 1) := by decide +kernel
theorem d9_1 : decode jdk_29_method_69_code 1 = .ok (.iload_n 1, 1) := by decide +kernel
theorem d9_2 : decode jdk_29_method_69_code 2 = .ok (.if_icmp .gt 7, 3) := by decide +kernel
theorem d9_9 : decode jdk_29_method_69_code 9 = .ok (.iload_n 1, 1) := by decide +kernel
theorem d9_10 : decode jdk_29_method_69_code 10 = .ok (.ireturn, 1) := by decide +kernel
theorem d9_5 : decode jdk_29_method_69_code 5 = .ok (.iload_n 0, 1) := by decide +kernel
theorem d9_6 : decode jdk_29_method_69_code 6 = .ok (.goto 4, 3) := by decide +kernel
theorem ef6 (m : MethodId) (x0 : Int64) (x1 : Int64) : entryFrame m #[(.long x0), (.long x1)] 4 = mkF m 0 #[.val (.long x0), .second, .val (.long x1), .second] [] := by first | (simp [entryFrame, mkF, argsToLocals, Value.category]; done) | rfl
theorem pn6 : plainFor (⟨"java/lang/Math", "min", "(JJ)J"⟩ : MethodName) = true := Jvm.Free.JP.mathPlain rfl (by decide +kernel)
theorem d6_0 : decode jdk_29_method_70_code 0 = .ok (.lload_n 0, 1) := by decide +kernel
theorem d6_1 : decode jdk_29_method_70_code 1 = .ok (.lload_n 2, 1) := by decide +kernel
theorem d6_2 : decode jdk_29_method_70_code 2 = .ok (.lcmp, 1) := by decide +kernel
theorem d6_3 : decode jdk_29_method_70_code 3 = .ok (.ifCond .gt 7, 3) := by decide +kernel
theorem d6_10 : decode jdk_29_method_70_code 10 = .ok (.lload_n 2, 1) := by decide +kernel
theorem d6_11 : decode jdk_29_method_70_code 11 = .ok (.lreturn, 1) := by decide +kernel
theorem d6_6 : decode jdk_29_method_70_code 6 = .ok (.lload_n 0, 1) := by decide +kernel
theorem d6_7 : decode jdk_29_method_70_code 7 = .ok (.goto 4, 3) := by decide +kernel
theorem ef7 (m : MethodId) (x0 : Int64) (x1 : Int64) : entryFrame m #[(.long x0), (.long x1)] 4 = mkF m 0 #[.val (.long x0), .second, .val (.long x1), .second] [] := by first | (simp [entryFrame, mkF, argsToLocals, Value.category]; done) | rfl
theorem pn7 : plainFor (⟨"java/lang/Math", "max", "(JJ)J"⟩ : MethodName) = true := Jvm.Free.JP.mathPlain rfl (by decide +kernel)
theorem d7_0 : decode jdk_29_method_66_code 0 = .ok (.lload_n 0, 1) := by decide +kernel
theorem d7_1 : decode jdk_29_method_66_code 1 = .ok (.lload_n 2, 1) := by decide +kernel
theorem d7_2 : decode jdk_29_method_66_code 2 = .ok (.lcmp, 1) := by decide +kernel
theorem d7_3 : decode jdk_29_method_66_code 3 = .ok (.ifCond .lt 7, 3) := by decide +kernel
theorem d7_10 : decode jdk_29_method_66_code 10 = .ok (.lload_n 2, 1) := by decide +kernel
theorem d7_11 : decode jdk_29_method_66_code 11 = .ok (.lreturn, 1) := by decide +kernel
theorem d7_6 : decode jdk_29_method_66_code 6 = .ok (.lload_n 0, 1) := by decide +kernel
theorem d7_7 : decode jdk_29_method_66_code 7 = .ok (.goto 4, 3) := by decide +kernel
theorem ef4 (m : MethodId) (x0 : Int32) (x1 : Int32) (x2 : Int64) (x3 : Int32) : entryFrame m #[(.int x0), (.int x1), (.long x2), (.int x3)] 5 = mkF m 0 #[.val (.int x0), .val (.int x1), .val (.long x2), .second, .val (.int x3)] [] := by first | (simp [entryFrame, mkF, argsToLocals, Value.category]; done) | rfl
theorem pn4 : plainFor (⟨"com/example/chasm/chasm/chase/IdListIndexOfPinLaw", "below", "(IIJI)I"⟩ : MethodName) = true := plainFor_of_name (by first | (simp [plainName, overriddenIn]; done) | decide +kernel)
theorem d4_0 : decode method_2_code 0 = .ok (.iload_n 1, 1) := by decide +kernel
theorem d4_1 : decode method_2_code 1 = .ok (.iload_n 0, 1) := by decide +kernel
theorem d4_2 : decode method_2_code 2 = .ok (.if_icmp .ge 15, 3) := by decide +kernel
theorem d4_17 : decode method_2_code 17 = .ok (.iconst 0, 1) := by decide +kernel
theorem d4_18 : decode method_2_code 18 = .ok (.ireturn, 1) := by decide +kernel
theorem d4_5 : decode method_2_code 5 = .ok (.lload_n 2, 1) := by decide +kernel
theorem d4_6 : decode method_2_code 6 = .ok (.iload 4, 2) := by decide +kernel
theorem d4_8 : decode method_2_code 8 = .ok (.i2l, 1) := by decide +kernel
theorem d4_9 : decode method_2_code 9 = .ok (.lcmp, 1) := by decide +kernel
theorem d4_10 : decode method_2_code 10 = .ok (.ifCond .ge 7, 3) := by decide +kernel
theorem d4_13 : decode method_2_code 13 = .ok (.iconst 1, 1) := by decide +kernel
theorem d4_14 : decode method_2_code 14 = .ok (.goto 4, 3) := by decide +kernel
theorem ef1 (m : MethodId) (x0 : Addr) : entryFrame m #[(.ref x0)] 1 = mkF m 0 #[.val (.ref x0)] [] := by first | (simp [entryFrame, mkF, argsToLocals, Value.category]; done) | rfl
theorem pn1 : plainFor (⟨"com/example/chasm/chasm/chase/IdList", "<init>", "()V"⟩ : MethodName) = true := plainFor_of_name (by first | (simp [plainName, overriddenIn]; done) | decide +kernel)
theorem d1_0 : decode prog_24_method_1_code 0 = .ok (.aload_n 0, 1) := by decide +kernel
theorem d1_1 : decode prog_24_method_1_code 1 = .ok (.invokespecial 1, 3) := by decide +kernel
theorem d1_4 : decode prog_24_method_1_code 4 = .ok (.aload_n 0, 1) := by decide +kernel
theorem d1_5 : decode prog_24_method_1_code 5 = .ok (.iconst 4, 1) := by decide +kernel
theorem d1_6 : decode prog_24_method_1_code 6 = .ok (.newarray .int, 2) := by decide +kernel
theorem d1_8 : decode prog_24_method_1_code 8 = .ok (.putfield 7, 3) := by decide +kernel
theorem d1_11 : decode prog_24_method_1_code 11 = .ok (.return_, 1) := by decide +kernel
theorem ef8 (m : MethodId) (x0 : Addr) (x1 : Int32) : entryFrame m #[(.ref x0), (.int x1)] 3 = mkF m 0 #[.val (.ref x0), .val (.int x1), .unset] [] := by first | (simp [entryFrame, mkF, argsToLocals, Value.category]; done) | rfl
theorem pn8 : plainFor (⟨"java/util/Arrays", "copyOf", "([II)[I"⟩ : MethodName) = true := plainFor_of_name (by first | (simp [plainName, overriddenIn]; done) | decide +kernel)
theorem d8_0 : decode jdk_65_method_123_code 0 = .ok (.iload_n 1, 1) := by decide +kernel
theorem d8_1 : decode jdk_65_method_123_code 1 = .ok (.aload_n 0, 1) := by decide +kernel
theorem d8_2 : decode jdk_65_method_123_code 2 = .ok (.arraylength, 1) := by decide +kernel
theorem d8_3 : decode jdk_65_method_123_code 3 = .ok (.if_icmp .ne 11, 3) := by decide +kernel
theorem d8_14 : decode jdk_65_method_123_code 14 = .ok (.iload_n 1, 1) := by decide +kernel
theorem d8_15 : decode jdk_65_method_123_code 15 = .ok (.newarray .int, 2) := by decide +kernel
theorem d8_17 : decode jdk_65_method_123_code 17 = .ok (.astore_n 2, 1) := by decide +kernel
theorem d8_18 : decode jdk_65_method_123_code 18 = .ok (.aload_n 0, 1) := by decide +kernel
theorem d8_19 : decode jdk_65_method_123_code 19 = .ok (.iconst 0, 1) := by decide +kernel
theorem d8_20 : decode jdk_65_method_123_code 20 = .ok (.aload_n 2, 1) := by decide +kernel
theorem d8_21 : decode jdk_65_method_123_code 21 = .ok (.iconst 0, 1) := by decide +kernel
theorem d8_22 : decode jdk_65_method_123_code 22 = .ok (.aload_n 0, 1) := by decide +kernel
theorem d8_23 : decode jdk_65_method_123_code 23 = .ok (.arraylength, 1) := by decide +kernel
theorem d8_24 : decode jdk_65_method_123_code 24 = .ok (.iload_n 1, 1) := by decide +kernel
theorem d8_25 : decode jdk_65_method_123_code 25 = .ok (.invokestatic 304, 3) := by decide +kernel
theorem pd3 : parseMethodDescriptor "(II)I" = some ⟨[.int, .int], some .int⟩ := by decide +kernel
theorem d8_28 : decode jdk_65_method_123_code 28 = .ok (.invokestatic 150, 3) := by decide +kernel
theorem d8_31 : decode jdk_65_method_123_code 31 = .ok (.aload_n 2, 1) := by decide +kernel
theorem d8_32 : decode jdk_65_method_123_code 32 = .ok (.areturn, 1) := by decide +kernel
theorem ef3 (m : MethodId) (x0 : Addr) (x1 : Int32) : entryFrame m #[(.ref x0), (.int x1)] 2 = mkF m 0 #[.val (.ref x0), .val (.int x1)] [] := by first | (simp [entryFrame, mkF, argsToLocals, Value.category]; done) | rfl
theorem pn3 : plainFor (⟨"com/example/chasm/chasm/chase/IdList", "add", "(I)V"⟩ : MethodName) = true := plainFor_of_name (by first | (simp [plainName, overriddenIn]; done) | decide +kernel)
theorem d3_0 : decode prog_24_method_2_code 0 = .ok (.aload_n 0, 1) := by decide +kernel
theorem d3_1 : decode prog_24_method_2_code 1 = .ok (.getfield 13, 3) := by decide +kernel
theorem d3_4 : decode prog_24_method_2_code 4 = .ok (.aload_n 0, 1) := by decide +kernel
theorem d3_5 : decode prog_24_method_2_code 5 = .ok (.getfield 7, 3) := by decide +kernel
theorem d3_8 : decode prog_24_method_2_code 8 = .ok (.arraylength, 1) := by decide +kernel
theorem d3_9 : decode prog_24_method_2_code 9 = .ok (.if_icmp .ne 20, 3) := by decide +kernel
theorem d3_29 : decode prog_24_method_2_code 29 = .ok (.aload_n 0, 1) := by decide +kernel
theorem d3_30 : decode prog_24_method_2_code 30 = .ok (.getfield 7, 3) := by decide +kernel
theorem d3_33 : decode prog_24_method_2_code 33 = .ok (.aload_n 0, 1) := by decide +kernel
theorem d3_34 : decode prog_24_method_2_code 34 = .ok (.dup, 1) := by decide +kernel
theorem d3_35 : decode prog_24_method_2_code 35 = .ok (.getfield 13, 3) := by decide +kernel
theorem d3_38 : decode prog_24_method_2_code 38 = .ok (.dup_x1, 1) := by decide +kernel
theorem d3_39 : decode prog_24_method_2_code 39 = .ok (.iconst 1, 1) := by decide +kernel
theorem d3_40 : decode prog_24_method_2_code 40 = .ok (.iadd, 1) := by decide +kernel
theorem d3_41 : decode prog_24_method_2_code 41 = .ok (.putfield 13, 3) := by decide +kernel
theorem d3_44 : decode prog_24_method_2_code 44 = .ok (.iload_n 1, 1) := by decide +kernel
theorem d3_45 : decode prog_24_method_2_code 45 = .ok (.iastore, 1) := by decide +kernel
theorem d3_46 : decode prog_24_method_2_code 46 = .ok (.return_, 1) := by decide +kernel
theorem d3_12 : decode prog_24_method_2_code 12 = .ok (.aload_n 0, 1) := by decide +kernel
theorem d3_13 : decode prog_24_method_2_code 13 = .ok (.aload_n 0, 1) := by decide +kernel
theorem d3_14 : decode prog_24_method_2_code 14 = .ok (.getfield 7, 3) := by decide +kernel
theorem d3_17 : decode prog_24_method_2_code 17 = .ok (.aload_n 0, 1) := by decide +kernel
theorem d3_18 : decode prog_24_method_2_code 18 = .ok (.getfield 13, 3) := by decide +kernel
theorem d3_21 : decode prog_24_method_2_code 21 = .ok (.iconst 2, 1) := by decide +kernel
theorem d3_22 : decode prog_24_method_2_code 22 = .ok (.imul, 1) := by decide +kernel
theorem d3_23 : decode prog_24_method_2_code 23 = .ok (.invokestatic 17, 3) := by decide +kernel
theorem pd7 : parseMethodDescriptor "([II)[I" = some ⟨[(.array .int), .int], some (.array .int)⟩ := by decide +kernel
theorem d3_26 : decode prog_24_method_2_code 26 = .ok (.putfield 7, 3) := by decide +kernel
theorem ef5 (m : MethodId) (x0 : Addr) (x1 : Int32) : entryFrame m #[(.ref x0), (.int x1)] 5 = mkF m 0 #[.val (.ref x0), .val (.int x1), .unset, .unset, .unset] [] := by first | (simp [entryFrame, mkF, argsToLocals, Value.category]; done) | rfl
theorem pn5 : plainFor (⟨"com/example/chasm/chasm/chase/IdList", "indexOf", "(I)I"⟩ : MethodName) = true := plainFor_of_name (by first | (simp [plainName, overriddenIn]; done) | decide +kernel)
theorem d5_0 : decode prog_24_method_7_code 0 = .ok (.iconst 0, 1) := by decide +kernel
theorem d5_1 : decode prog_24_method_7_code 1 = .ok (.istore_n 2, 1) := by decide +kernel
theorem d5_2 : decode prog_24_method_7_code 2 = .ok (.aload_n 0, 1) := by decide +kernel
theorem d5_3 : decode prog_24_method_7_code 3 = .ok (.getfield 13, 3) := by decide +kernel
theorem d5_6 : decode prog_24_method_7_code 6 = .ok (.istore_n 3, 1) := by decide +kernel
theorem d5_7 : decode prog_24_method_7_code 7 = .ok (.iload_n 2, 1) := by decide +kernel
theorem d5_8 : decode prog_24_method_7_code 8 = .ok (.iload_n 3, 1) := by decide +kernel
theorem d5_9 : decode prog_24_method_7_code 9 = .ok (.if_icmp .ge 35, 3) := by decide +kernel
theorem d5_44 : decode prog_24_method_7_code 44 = .ok (.iload_n 2, 1) := by decide +kernel
theorem d5_45 : decode prog_24_method_7_code 45 = .ok (.ireturn, 1) := by decide +kernel
theorem d5_12 : decode prog_24_method_7_code 12 = .ok (.iload_n 2, 1) := by decide +kernel
theorem d5_13 : decode prog_24_method_7_code 13 = .ok (.iload_n 3, 1) := by decide +kernel
theorem d5_14 : decode prog_24_method_7_code 14 = .ok (.iadd, 1) := by decide +kernel
theorem d5_15 : decode prog_24_method_7_code 15 = .ok (.iconst 1, 1) := by decide +kernel
theorem d5_16 : decode prog_24_method_7_code 16 = .ok (.iushr, 1) := by decide +kernel
theorem d5_17 : decode prog_24_method_7_code 17 = .ok (.istore 4, 2) := by decide +kernel
theorem d5_19 : decode prog_24_method_7_code 19 = .ok (.aload_n 0, 1) := by decide +kernel
theorem d5_20 : decode prog_24_method_7_code 20 = .ok (.getfield 7, 3) := by decide +kernel
theorem d5_23 : decode prog_24_method_7_code 23 = .ok (.iload 4, 2) := by decide +kernel
theorem d5_25 : decode prog_24_method_7_code 25 = .ok (.iaload, 1) := by decide +kernel
theorem d5_26 : decode prog_24_method_7_code 26 = .ok (.iload_n 1, 1) := by decide +kernel
theorem d5_27 : decode prog_24_method_7_code 27 = .ok (.if_icmp .ge 11, 3) := by decide +kernel
theorem d5_38 : decode prog_24_method_7_code 38 = .ok (.iload 4, 2) := by decide +kernel
theorem d5_40 : decode prog_24_method_7_code 40 = .ok (.istore_n 3, 1) := by decide +kernel
theorem d5_41 : decode prog_24_method_7_code 41 = .ok (.goto (-34), 3) := by decide +kernel
theorem d5_30 : decode prog_24_method_7_code 30 = .ok (.iload 4, 2) := by decide +kernel
theorem d5_32 : decode prog_24_method_7_code 32 = .ok (.iconst 1, 1) := by decide +kernel
theorem d5_33 : decode prog_24_method_7_code 33 = .ok (.iadd, 1) := by decide +kernel
theorem d5_34 : decode prog_24_method_7_code 34 = .ok (.istore_n 2, 1) := by decide +kernel
theorem d5_35 : decode prog_24_method_7_code 35 = .ok (.goto 6, 3) := by decide +kernel
theorem ef0 (m : MethodId) (x0 : Int32) (x1 : Int32) (x2 : Int32) (x3 : Int32) (x4 : Int32) : entryFrame m #[(.int x0), (.int x1), (.int x2), (.int x3), (.int x4)] maxLocals = mkF m 0 #[.val (.int x0), .val (.int x1), .val (.int x2), .val (.int x3), .val (.int x4), .unset, .unset, .unset, .unset, .unset, .unset, .unset, .unset, .unset, .unset, .unset, .unset, .unset, .unset, .unset, .unset, .unset, .unset] [] := by first | (simp [entryFrame, mkF, argsToLocals, Value.category, maxLocals]; done) | rfl
theorem pn0 : plainFor (⟨"com/example/chasm/chasm/chase/IdListIndexOfPinLaw", "law", "(IIIII)Z"⟩ : MethodName) = true := plainFor_of_name (by first | (simp [plainName, overriddenIn]; done) | decide +kernel)
theorem pd0 : parseMethodDescriptor "()V" = some ⟨[], none⟩ := by decide +kernel
theorem pd4 : parseMethodDescriptor "(IIJI)I" = some ⟨[.int, .int, .long, .int], some .int⟩ := by decide +kernel
theorem pd1 : parseMethodDescriptor "(I)I" = some ⟨[.int], some .int⟩ := by decide +kernel
theorem pd2 : parseMethodDescriptor "(I)V" = some ⟨[.int], none⟩ := by decide +kernel
theorem pd5 : parseMethodDescriptor "(JJ)J" = some ⟨[.long, .long], some .long⟩ := by decide +kernel

def f_minI  (x1 : Int32) (x2 : Int32) : Int32 := if x2 < x1 then x2 else x1
set_option maxRecDepth 65536 in
set_option maxHeartbeats 40000000 in
theorem c_minI (l : Launch) (Z : State) (a0 : Array Value) (hw : Hw a0 Z)  (x1 : Int32) (x2 : Int32) (h0 : Heap) (n0 : Nat) (Z0 : n0 ≤ h0.size)  :
    Met l Z (⟨"java/lang/Math", "min", "(II)I"⟩ : MethodName) jdk_29_method_69_code 2 (some .int) [] ({ frames := 0, cells := 0, slots := 0, locals := 0 } : Room) #[(.int x1), (.int x2)] h0 n0 (RetI (fun z h => z = f_minI  x1 x2 ∧ h0 = h)) := by
  refine Met.intro pn9 (own := "java/lang/Math") rfl (nm := "min") rfl (fun m => ef9 m x1 x2) ?_
  intro p e s m below meth c C
  refine s_iloadN C d9_0 (pc' := 1) rfl rfl ?_
  refine s_iloadN C d9_1 (pc' := 2) rfl rfl ?_
  refine s_icmp_gt C d9_2 (pc' := 5) rfl (pcY := 9) rfl (fun c1 => ?_) (fun c1 => ?_)
  · skip
    refine s_iloadN C d9_9 (pc' := 10) rfl rfl ?_
    exact s_retI C d9_10 (by decide) (by decide) (by have e : f_minI  x1 x2 = x2 := (by unfold f_minI; rw [if_pos c1]); exact ⟨e.symm, rfl⟩)
  · skip
    refine s_iloadN C d9_5 (pc' := 6) rfl rfl ?_
    refine s_goto C d9_6 (pc' := 10) rfl ?_
    exact s_retI C d9_10 (by decide) (by decide) (by have e : f_minI  x1 x2 = x1 := (by unfold f_minI; rw [if_neg c1]); exact ⟨e.symm, rfl⟩)
def f_minJ  (x1 : Int64) (x2 : Int64) : Int64 := if x2 < x1 then x2 else x1
set_option maxRecDepth 65536 in
set_option maxHeartbeats 40000000 in
theorem c_minJ (l : Launch) (Z : State) (a0 : Array Value) (hw : Hw a0 Z)  (x1 : Int64) (x2 : Int64) (h0 : Heap) (n0 : Nat) (Z0 : n0 ≤ h0.size)  :
    Met l Z (⟨"java/lang/Math", "min", "(JJ)J"⟩ : MethodName) jdk_29_method_70_code 4 (some .long) [] ({ frames := 0, cells := 0, slots := 0, locals := 0 } : Room) #[(.long x1), (.long x2)] h0 n0 (RetL (fun z h => z = f_minJ  x1 x2 ∧ h0 = h)) := by
  refine Met.intro pn6 (own := "java/lang/Math") rfl (nm := "min") rfl (fun m => ef6 m x1 x2) ?_
  intro p e s m below meth c C
  refine s_lloadN C d6_0 (pc' := 1) rfl rfl ?_
  refine s_lloadN C d6_1 (pc' := 2) rfl rfl ?_
  refine s_lc_gt C d6_2 (pc1 := 3) rfl d6_3 (pc' := 6) rfl (pcY := 10) rfl (fun c1 => ?_) (fun c1 => ?_)
  · skip
    refine s_lloadN C d6_10 (pc' := 11) rfl rfl ?_
    exact s_retL C d6_11 (by decide) (by decide) (by have e : f_minJ  x1 x2 = x2 := (by unfold f_minJ; rw [if_pos c1]); exact ⟨e.symm, rfl⟩)
  · skip
    refine s_lloadN C d6_6 (pc' := 7) rfl rfl ?_
    refine s_goto C d6_7 (pc' := 11) rfl ?_
    exact s_retL C d6_11 (by decide) (by decide) (by have e : f_minJ  x1 x2 = x1 := (by unfold f_minJ; rw [if_neg c1]); exact ⟨e.symm, rfl⟩)
def f_maxJ  (x1 : Int64) (x2 : Int64) : Int64 := if x1 < x2 then x2 else x1
set_option maxRecDepth 65536 in
set_option maxHeartbeats 40000000 in
theorem c_maxJ (l : Launch) (Z : State) (a0 : Array Value) (hw : Hw a0 Z)  (x1 : Int64) (x2 : Int64) (h0 : Heap) (n0 : Nat) (Z0 : n0 ≤ h0.size)  :
    Met l Z (⟨"java/lang/Math", "max", "(JJ)J"⟩ : MethodName) jdk_29_method_66_code 4 (some .long) [] ({ frames := 0, cells := 0, slots := 0, locals := 0 } : Room) #[(.long x1), (.long x2)] h0 n0 (RetL (fun z h => z = f_maxJ  x1 x2 ∧ h0 = h)) := by
  refine Met.intro pn7 (own := "java/lang/Math") rfl (nm := "max") rfl (fun m => ef7 m x1 x2) ?_
  intro p e s m below meth c C
  refine s_lloadN C d7_0 (pc' := 1) rfl rfl ?_
  refine s_lloadN C d7_1 (pc' := 2) rfl rfl ?_
  refine s_lc_lt C d7_2 (pc1 := 3) rfl d7_3 (pc' := 6) rfl (pcY := 10) rfl (fun c1 => ?_) (fun c1 => ?_)
  · skip
    refine s_lloadN C d7_10 (pc' := 11) rfl rfl ?_
    exact s_retL C d7_11 (by decide) (by decide) (by have e : f_maxJ  x1 x2 = x2 := (by unfold f_maxJ; rw [if_pos c1]); exact ⟨e.symm, rfl⟩)
  · skip
    refine s_lloadN C d7_6 (pc' := 7) rfl rfl ?_
    refine s_goto C d7_7 (pc' := 11) rfl ?_
    exact s_retL C d7_11 (by decide) (by decide) (by have e : f_maxJ  x1 x2 = x1 := (by unfold f_maxJ; rw [if_neg c1]); exact ⟨e.symm, rfl⟩)
def f_bel  (x1 : Int32) (x2 : Int32) (x3 : Int64) (x4 : Int32) : Int32 := if x2 < x1 then (if x3 < x4.toInt64 then (1 : Int32) else (0 : Int32)) else (0 : Int32)
set_option maxRecDepth 65536 in
set_option maxHeartbeats 40000000 in
theorem c_bel (l : Launch) (Z : State) (a0 : Array Value) (hw : Hw a0 Z)  (x1 : Int32) (x2 : Int32) (x3 : Int64) (x4 : Int32) (h0 : Heap) (n0 : Nat) (Z0 : n0 ≤ h0.size)  :
    Met l Z (⟨"com/example/chasm/chasm/chase/IdListIndexOfPinLaw", "below", "(IIJI)I"⟩ : MethodName) method_2_code 5 (some .int) [] ({ frames := 0, cells := 0, slots := 0, locals := 0 } : Room) #[(.int x1), (.int x2), (.long x3), (.int x4)] h0 n0 (RetI (fun z h => z = f_bel  x1 x2 x3 x4 ∧ h0 = h)) := by
  refine Met.intro pn4 (own := "com/example/chasm/chasm/chase/IdListIndexOfPinLaw") rfl (nm := "below") rfl (fun m => ef4 m x1 x2 x3 x4) ?_
  intro p e s m below meth c C
  refine s_iloadN C d4_0 (pc' := 1) rfl rfl ?_
  refine s_iloadN C d4_1 (pc' := 2) rfl rfl ?_
  refine s_icmp_ge C d4_2 (pc' := 5) rfl (pcY := 17) rfl (fun c1 => ?_) (fun c1 => ?_)
  · skip
    refine s_iconst C d4_17 (pc' := 18) rfl (0 : Int32) rfl ?_
    exact s_retI C d4_18 (by decide) (by decide) (by have e : f_bel  x1 x2 x3 x4 = (0 : Int32) := (by unfold f_bel; rw [if_neg c1]); exact ⟨e.symm, rfl⟩)
  · skip
    refine s_lloadN C d4_5 (pc' := 6) rfl rfl ?_
    refine s_iload C d4_6 (pc' := 8) rfl rfl ?_
    refine s_i2l C d4_8 (pc' := 9) rfl ?_
    refine s_lc_ge C d4_9 (pc1 := 10) rfl d4_10 (pc' := 13) rfl (pcY := 17) rfl (fun c2 => ?_) (fun c2 => ?_)
    · skip
      refine s_iconst C d4_17 (pc' := 18) rfl (0 : Int32) rfl ?_
      exact s_retI C d4_18 (by decide) (by decide) (by have e : f_bel  x1 x2 x3 x4 = (0 : Int32) := (by unfold f_bel; rw [if_pos c1, if_neg c2]); exact ⟨e.symm, rfl⟩)
    · skip
      refine s_iconst C d4_13 (pc' := 14) rfl (1 : Int32) rfl ?_
      refine s_goto C d4_14 (pc' := 18) rfl ?_
      exact s_retI C d4_18 (by decide) (by decide) (by have e : f_bel  x1 x2 x3 x4 = (1 : Int32) := (by unfold f_bel; rw [if_pos c1, if_pos c2]); exact ⟨e.symm, rfl⟩)
set_option maxRecDepth 65536 in
set_option maxHeartbeats 40000000 in
theorem c_list (l : Launch) (Z : State) (a0 : Array Value) (hw : Hw a0 Z) (o : Addr) (h0 : Heap) (n0 : Nat) (Z0 : n0 ≤ h0.size) (E_o : Exa Z h0 o "com/example/chasm/chasm/chase/IdList") (g_o : n0 ≤ o) (F_e : Fld Z h0 o "com/example/chasm/chasm/chase/IdList" "ids" "[I" .null) (F_s : Fld Z h0 o "com/example/chasm/chasm/chase/IdList" "size" "I" (.int 0)) :
    Met l Z (⟨"com/example/chasm/chasm/chase/IdList", "<init>", "()V"⟩ : MethodName) prog_24_method_1_code 1 none [] ({ frames := 1, cells := 1, slots := 4, locals := 12 } : Room) #[(.ref o)] h0 n0 (Ret0 (fun h => ∃ a : Addr, Keep h0 h [o] ∧ Exa Z h o "com/example/chasm/chasm/chase/IdList" ∧ Fld Z h o "com/example/chasm/chasm/chase/IdList" "ids" "[I" (.ref a) ∧ Fld Z h o "com/example/chasm/chasm/chase/IdList" "size" "I" (.int 0) ∧ Av Z h a .int [(.int (0 : Int32)), (.int (0 : Int32)), (.int (0 : Int32)), (.int (0 : Int32))] ∧ h0.size ≤ a)) := by
  refine Met.intro pn1 (own := "com/example/chasm/chasm/chase/IdList") rfl (nm := "<init>") rfl (fun m => ef1 m o) ?_
  intro p e s m below meth c C
  refine s_aloadN C d1_0 (pc' := 1) rfl rfl rfl ?_
  refine s_initO C d1_1 (pc' := 4) rfl (w7 hw) (w8 hw) (w9 hw) rfl (by decide) (W := 0) rfl (by decide) ?_
  refine s_aloadN C d1_4 (pc' := 5) rfl rfl rfl ?_
  refine s_iconst C d1_5 (pc' := 6) rfl (4 : Int32) rfl ?_
  refine s_newarr C (cap := 4) d1_6 (pc' := 8) rfl (w10 hw) (by decide) (by decide) (by decide) (k' := 1) rfl (by decide) (n' := 4) rfl (by decide) [(.int (0 : Int32)), (.int (0 : Int32)), (.int (0 : Int32)), (.int (0 : Int32))] rfl (fun h1 a1 E1 g1 A1 => ?_)
  have ne2 : o ≠ a1 := Nat.ne_of_lt (by rw [g1]; exact E_o.lt)
  have gn3 : n0 ≤ a1 := by rw [g1]; exact Z0
  have bs4 : h0.size ≤ a1 := by rw [g1]; exact (Keep.refl h0 [o]).1
  have sz5 : n0 ≤ h1.size := (Nat.le_trans Z0 E1.1)
  have Kp6 : Keep h0 h1 [o] := (Keep.refl h0 [o]).ext E1
  have Fx7 := (F_e.ext E1)
  have Ex8 := (E_o.ext E1)
  refine s_putF C d1_8 (pc' := 11) rfl (w11 hw) Fx7 Ex8 (Or.inl (w12 hw)) (w2 hw) (ty := (.array .int)) (by decide) rfl rfl g_o (fun h9 W9 => ?_)
  have F9 := Fx7.same W9
  have sz10 : n0 ≤ h9.size := (Nat.le_trans sz5 (Nat.le_of_eq W9.size.symm))
  have Kp11 : Keep h0 h9 [o] := Kp6.wr W9 (Or.inl (List.mem_of_getElem? (i := 0) rfl))
  have Ex12 := (Ex8.wr W9)
  have Fx13 := ((F_s.ext E1).other W9 (Or.inr (slot_ne (Or.inl (w19 hw)) (Or.inl (w12 hw)) (by decide) (t := .int) (t' := (.array .int)) (by decide) (by decide))))
  have Vx14 := (A1.other W9 (Ne.symm ne2))
  exact s_ret0 C d1_11 (by decide) (by decide) ⟨a1, Kp11, Ex12, F9, Fx13, Vx14, bs4⟩
set_option maxRecDepth 65536 in
set_option maxHeartbeats 40000000 in
theorem c_cp (l : Launch) (Z : State) (a0 : Array Value) (hw : Hw a0 Z) (a : Addr) (y0 y1 y2 y3 : Int32) (h0 : Heap) (n0 : Nat) (Z0 : n0 ≤ h0.size) (V_a : Av Z h0 a .int [(.int y0), (.int y1), (.int y2), (.int y3)]) :
    Met l Z (⟨"java/util/Arrays", "copyOf", "([II)[I"⟩ : MethodName) jdk_65_method_123_code 3 (some (.array .int)) [] ({ frames := 1, cells := 1, slots := 8, locals := 60 } : Room) #[(.ref a), (.int (8 : Int32))] h0 n0 (RetV (fun z h => ∃ r : Addr, z = .ref r ∧ Keep h0 h [] ∧ h0.size ≤ r ∧ Av Z h r .int [(.int y0), (.int y1), (.int y2), (.int y3), (.int (0 : Int32)), (.int (0 : Int32)), (.int (0 : Int32)), (.int (0 : Int32))])) := by
  refine Met.intro pn8 (own := "java/util/Arrays") rfl (nm := "copyOf") rfl (fun m => ef8 m a (8 : Int32)) ?_
  intro p e s m below meth c C
  refine s_iloadN C d8_0 (pc' := 1) rfl rfl ?_
  refine s_aloadN C d8_1 (pc' := 2) rfl rfl rfl ?_
  refine s_length C d8_2 (pc' := 3) rfl V_a (4 : Int32) rfl ?_
  refine s_icmp_ne C d8_3 (pc' := 6) rfl (pcY := 14) rfl (fun c1 => ?_) (fun hc => by exfalso; revert hc; decide)
  refine s_iloadN C d8_14 (pc' := 15) rfl rfl ?_
  refine s_newarr C (cap := 8) d8_15 (pc' := 17) rfl (w10 hw) (by decide) (by decide) (by decide) (k' := 1) rfl (by decide) (n' := 8) rfl (by decide) [(.int (0 : Int32)), (.int (0 : Int32)), (.int (0 : Int32)), (.int (0 : Int32)), (.int (0 : Int32)), (.int (0 : Int32)), (.int (0 : Int32)), (.int (0 : Int32))] rfl (fun h2 a2 E2 g2 A2 => ?_)
  have ne3 : a ≠ a2 := Nat.ne_of_lt (by rw [g2]; exact V_a.lt)
  have gn4 : n0 ≤ a2 := by rw [g2]; exact Z0
  have bs5 : h0.size ≤ a2 := by rw [g2]; exact (Keep.refl h0 []).1
  have sz6 : n0 ≤ h2.size := (Nat.le_trans Z0 E2.1)
  have Kp7 : Keep h0 h2 [] := (Keep.refl h0 []).ext E2
  refine s_astoreN C d8_17 (pc' := 18) rfl rfl #[.val (.ref a), .val (.int (8 : Int32)), .val (.ref a2)] rfl ?_
  refine s_aloadN C d8_18 (pc' := 19) rfl rfl rfl ?_
  refine s_iconst C d8_19 (pc' := 20) rfl (0 : Int32) rfl ?_
  refine s_aloadN C d8_20 (pc' := 21) rfl rfl rfl ?_
  refine s_iconst C d8_21 (pc' := 22) rfl (0 : Int32) rfl ?_
  refine s_aloadN C d8_22 (pc' := 23) rfl rfl rfl ?_
  have Vx8 := (V_a.ext E2)
  refine s_length C d8_23 (pc' := 24) rfl Vx8 (4 : Int32) rfl ?_
  refine s_iloadN C d8_24 (pc' := 25) rfl rfl ?_
  refine s_callSI C d8_25 (pc' := 28) rfl (w41 hw) (w42 hw) (w32 hw) (w43 hw) (by decide) [(.int (4 : Int32)), (.int (8 : Int32))] [(.int (0 : Int32)), (.ref a2), (.int (0 : Int32)), (.ref a)] pd3 rfl rfl (c_minI l Z a0 hw (4 : Int32) (8 : Int32) h2 n0 sz6) rfl (W := 4) rfl (by decide) (by decide) (k' := 1) rfl (by decide) (n' := 8) rfl (by decide) (fun _ _ q9 => ?_)
  obtain ⟨rfl, rfl⟩ := q9
  refine s_foldI C (y := (4 : Int32)) (by decide) ?_
  refine s_arraycopy C d8_28 (pc' := 31) rfl (w44 hw) (w47 hw) (w45 hw) (w46 hw) Vx8 A2 rfl 0 0 4 (by decide) (by decide) (by decide) (Nat.le_of_ble_eq_true rfl) (Nat.le_of_ble_eq_true rfl) gn4 rfl (by decide) (W := 0) rfl (by decide) [(.int y0), (.int y1), (.int y2), (.int y3), (.int (0 : Int32)), (.int (0 : Int32)), (.int (0 : Int32)), (.int (0 : Int32))] rfl (fun h10 K10 A10 => ?_)
  have sz11 : n0 ≤ h10.size := (Nat.le_trans sz6 K10.1)
  have Kp12 : Keep h0 h10 [] := Kp7.trans K10 (allS (Or.inr bs5) all0)
  refine s_aloadN C d8_31 (pc' := 32) rfl rfl rfl ?_
  exact s_retA C rfl rfl rfl d8_32 (by decide) (by decide) ⟨a2, rfl, Kp12, bs5, A10⟩
set_option maxRecDepth 65536 in
set_option maxHeartbeats 40000000 in
theorem c_add0 (l : Launch) (Z : State) (a0 : Array Value) (hw : Hw a0 Z) (o a : Addr) (x1 : Int32) (h0 : Heap) (n0 : Nat) (Z0 : n0 ≤ h0.size) (E_o : Exa Z h0 o "com/example/chasm/chasm/chase/IdList") (g_o : n0 ≤ o) (g_a : n0 ≤ a) (hne : o ≠ a) (F_e : Fld Z h0 o "com/example/chasm/chasm/chase/IdList" "ids" "[I" (.ref a)) (F_s : Fld Z h0 o "com/example/chasm/chasm/chase/IdList" "size" "I" (.int 0)) (V_a : Av Z h0 a .int [(.int (0 : Int32)), (.int (0 : Int32)), (.int (0 : Int32)), (.int (0 : Int32))]) :
    Met l Z (⟨"com/example/chasm/chasm/chase/IdList", "add", "(I)V"⟩ : MethodName) prog_24_method_2_code 2 none [] ({ frames := 0, cells := 0, slots := 0, locals := 0 } : Room) #[(.ref o), (.int x1)] h0 n0 (Ret0 (fun h => Keep h0 h [o, a] ∧ Exa Z h o "com/example/chasm/chasm/chase/IdList" ∧ Fld Z h o "com/example/chasm/chasm/chase/IdList" "ids" "[I" (.ref a) ∧ Fld Z h o "com/example/chasm/chasm/chase/IdList" "size" "I" (.int 1) ∧ Av Z h a .int [(.int x1), (.int (0 : Int32)), (.int (0 : Int32)), (.int (0 : Int32))])) := by
  refine Met.intro pn3 (own := "com/example/chasm/chasm/chase/IdList") rfl (nm := "add") rfl (fun m => ef3 m o x1) ?_
  intro p e s m below meth c C
  refine s_aloadN C d3_0 (pc' := 1) rfl rfl rfl ?_
  refine s_getF C d3_1 (pc' := 4) rfl (w18 hw) F_s ?_
  refine s_aloadN C d3_4 (pc' := 5) rfl rfl rfl ?_
  refine s_getF C d3_5 (pc' := 8) rfl (w11 hw) F_e ?_
  refine s_length C d3_8 (pc' := 9) rfl V_a (4 : Int32) rfl ?_
  refine s_icmp_ne C d3_9 (pc' := 12) rfl (pcY := 29) rfl (fun c1 => ?_) (fun hc => by exfalso; revert hc; decide)
  refine s_aloadN C d3_29 (pc' := 30) rfl rfl rfl ?_
  refine s_getF C d3_30 (pc' := 33) rfl (w11 hw) F_e ?_
  refine s_aloadN C d3_33 (pc' := 34) rfl rfl rfl ?_
  refine s_dup C d3_34 (pc' := 35) rfl rfl ?_
  refine s_getF C d3_35 (pc' := 38) rfl (w18 hw) F_s ?_
  refine s_dupX1 C d3_38 (pc' := 39) rfl rfl rfl ?_
  refine s_iconst C d3_39 (pc' := 40) rfl (1 : Int32) rfl ?_
  refine s_iadd C d3_40 (pc' := 41) rfl ?_
  refine s_foldI C (y := (1 : Int32)) (by decide) ?_
  refine s_putF C d3_41 (pc' := 44) rfl (w18 hw) F_s E_o (Or.inl (w19 hw)) (w2 hw) (ty := .int) (by decide) rfl rfl g_o (fun h2 W2 => ?_)
  have F2 := F_s.same W2
  have sz3 : n0 ≤ h2.size := (Nat.le_trans Z0 (Nat.le_of_eq W2.size.symm))
  have Kp4 : Keep h0 h2 [o, a] := (Keep.refl h0 [o, a]).wr W2 (Or.inl (List.mem_of_getElem? (i := 0) rfl))
  refine s_iloadN C d3_44 (pc' := 45) rfl rfl ?_
  have Vx6 := (V_a.other W2 (Ne.symm hne))
  refine s_iastore C d3_45 (pc' := 46) rfl Vx6 0 (by decide) (Nat.le_of_ble_eq_true rfl) g_a [(.int x1), (.int (0 : Int32)), (.int (0 : Int32)), (.int (0 : Int32))] rfl (fun h5 W5 A5 => ?_)
  have sz7 : n0 ≤ h5.size := (Nat.le_trans sz3 (Nat.le_of_eq W5.size.symm))
  have Kp8 : Keep h0 h5 [o, a] := Kp4.wr W5 (Or.inl (List.mem_of_getElem? (i := 1) rfl))
  have Ex9 := ((E_o.wr W2).wr W5)
  have Fx10 := ((F_e.other W2 (Or.inr (slot_ne (Or.inl (w12 hw)) (Or.inl (w19 hw)) (by decide) (t := (.array .int)) (t' := .int) (by decide) (by decide)))).other W5 (Or.inl hne))
  have Fx11 := (F2.other W5 (Or.inl hne))
  exact s_ret0 C d3_46 (by decide) (by decide) ⟨Kp8, Ex9, Fx10, Fx11, A5⟩
set_option maxRecDepth 65536 in
set_option maxHeartbeats 40000000 in
theorem c_add1 (l : Launch) (Z : State) (a0 : Array Value) (hw : Hw a0 Z) (o a : Addr) (x1 e0 : Int32) (h0 : Heap) (n0 : Nat) (Z0 : n0 ≤ h0.size) (E_o : Exa Z h0 o "com/example/chasm/chasm/chase/IdList") (g_o : n0 ≤ o) (g_a : n0 ≤ a) (hne : o ≠ a) (F_e : Fld Z h0 o "com/example/chasm/chasm/chase/IdList" "ids" "[I" (.ref a)) (F_s : Fld Z h0 o "com/example/chasm/chasm/chase/IdList" "size" "I" (.int 1)) (V_a : Av Z h0 a .int [(.int e0), (.int (0 : Int32)), (.int (0 : Int32)), (.int (0 : Int32))]) :
    Met l Z (⟨"com/example/chasm/chasm/chase/IdList", "add", "(I)V"⟩ : MethodName) prog_24_method_2_code 2 none [] ({ frames := 0, cells := 0, slots := 0, locals := 0 } : Room) #[(.ref o), (.int x1)] h0 n0 (Ret0 (fun h => Keep h0 h [o, a] ∧ Exa Z h o "com/example/chasm/chasm/chase/IdList" ∧ Fld Z h o "com/example/chasm/chasm/chase/IdList" "ids" "[I" (.ref a) ∧ Fld Z h o "com/example/chasm/chasm/chase/IdList" "size" "I" (.int 2) ∧ Av Z h a .int [(.int e0), (.int x1), (.int (0 : Int32)), (.int (0 : Int32))])) := by
  refine Met.intro pn3 (own := "com/example/chasm/chasm/chase/IdList") rfl (nm := "add") rfl (fun m => ef3 m o x1) ?_
  intro p e s m below meth c C
  refine s_aloadN C d3_0 (pc' := 1) rfl rfl rfl ?_
  refine s_getF C d3_1 (pc' := 4) rfl (w18 hw) F_s ?_
  refine s_aloadN C d3_4 (pc' := 5) rfl rfl rfl ?_
  refine s_getF C d3_5 (pc' := 8) rfl (w11 hw) F_e ?_
  refine s_length C d3_8 (pc' := 9) rfl V_a (4 : Int32) rfl ?_
  refine s_icmp_ne C d3_9 (pc' := 12) rfl (pcY := 29) rfl (fun c1 => ?_) (fun hc => by exfalso; revert hc; decide)
  refine s_aloadN C d3_29 (pc' := 30) rfl rfl rfl ?_
  refine s_getF C d3_30 (pc' := 33) rfl (w11 hw) F_e ?_
  refine s_aloadN C d3_33 (pc' := 34) rfl rfl rfl ?_
  refine s_dup C d3_34 (pc' := 35) rfl rfl ?_
  refine s_getF C d3_35 (pc' := 38) rfl (w18 hw) F_s ?_
  refine s_dupX1 C d3_38 (pc' := 39) rfl rfl rfl ?_
  refine s_iconst C d3_39 (pc' := 40) rfl (1 : Int32) rfl ?_
  refine s_iadd C d3_40 (pc' := 41) rfl ?_
  refine s_foldI C (y := (2 : Int32)) (by decide) ?_
  refine s_putF C d3_41 (pc' := 44) rfl (w18 hw) F_s E_o (Or.inl (w19 hw)) (w2 hw) (ty := .int) (by decide) rfl rfl g_o (fun h2 W2 => ?_)
  have F2 := F_s.same W2
  have sz3 : n0 ≤ h2.size := (Nat.le_trans Z0 (Nat.le_of_eq W2.size.symm))
  have Kp4 : Keep h0 h2 [o, a] := (Keep.refl h0 [o, a]).wr W2 (Or.inl (List.mem_of_getElem? (i := 0) rfl))
  refine s_iloadN C d3_44 (pc' := 45) rfl rfl ?_
  have Vx6 := (V_a.other W2 (Ne.symm hne))
  refine s_iastore C d3_45 (pc' := 46) rfl Vx6 1 (by decide) (Nat.le_of_ble_eq_true rfl) g_a [(.int e0), (.int x1), (.int (0 : Int32)), (.int (0 : Int32))] rfl (fun h5 W5 A5 => ?_)
  have sz7 : n0 ≤ h5.size := (Nat.le_trans sz3 (Nat.le_of_eq W5.size.symm))
  have Kp8 : Keep h0 h5 [o, a] := Kp4.wr W5 (Or.inl (List.mem_of_getElem? (i := 1) rfl))
  have Ex9 := ((E_o.wr W2).wr W5)
  have Fx10 := ((F_e.other W2 (Or.inr (slot_ne (Or.inl (w12 hw)) (Or.inl (w19 hw)) (by decide) (t := (.array .int)) (t' := .int) (by decide) (by decide)))).other W5 (Or.inl hne))
  have Fx11 := (F2.other W5 (Or.inl hne))
  exact s_ret0 C d3_46 (by decide) (by decide) ⟨Kp8, Ex9, Fx10, Fx11, A5⟩
set_option maxRecDepth 65536 in
set_option maxHeartbeats 40000000 in
theorem c_add2 (l : Launch) (Z : State) (a0 : Array Value) (hw : Hw a0 Z) (o a : Addr) (x1 e0 e1 : Int32) (h0 : Heap) (n0 : Nat) (Z0 : n0 ≤ h0.size) (E_o : Exa Z h0 o "com/example/chasm/chasm/chase/IdList") (g_o : n0 ≤ o) (g_a : n0 ≤ a) (hne : o ≠ a) (F_e : Fld Z h0 o "com/example/chasm/chasm/chase/IdList" "ids" "[I" (.ref a)) (F_s : Fld Z h0 o "com/example/chasm/chasm/chase/IdList" "size" "I" (.int 2)) (V_a : Av Z h0 a .int [(.int e0), (.int e1), (.int (0 : Int32)), (.int (0 : Int32))]) :
    Met l Z (⟨"com/example/chasm/chasm/chase/IdList", "add", "(I)V"⟩ : MethodName) prog_24_method_2_code 2 none [] ({ frames := 0, cells := 0, slots := 0, locals := 0 } : Room) #[(.ref o), (.int x1)] h0 n0 (Ret0 (fun h => Keep h0 h [o, a] ∧ Exa Z h o "com/example/chasm/chasm/chase/IdList" ∧ Fld Z h o "com/example/chasm/chasm/chase/IdList" "ids" "[I" (.ref a) ∧ Fld Z h o "com/example/chasm/chasm/chase/IdList" "size" "I" (.int 3) ∧ Av Z h a .int [(.int e0), (.int e1), (.int x1), (.int (0 : Int32))])) := by
  refine Met.intro pn3 (own := "com/example/chasm/chasm/chase/IdList") rfl (nm := "add") rfl (fun m => ef3 m o x1) ?_
  intro p e s m below meth c C
  refine s_aloadN C d3_0 (pc' := 1) rfl rfl rfl ?_
  refine s_getF C d3_1 (pc' := 4) rfl (w18 hw) F_s ?_
  refine s_aloadN C d3_4 (pc' := 5) rfl rfl rfl ?_
  refine s_getF C d3_5 (pc' := 8) rfl (w11 hw) F_e ?_
  refine s_length C d3_8 (pc' := 9) rfl V_a (4 : Int32) rfl ?_
  refine s_icmp_ne C d3_9 (pc' := 12) rfl (pcY := 29) rfl (fun c1 => ?_) (fun hc => by exfalso; revert hc; decide)
  refine s_aloadN C d3_29 (pc' := 30) rfl rfl rfl ?_
  refine s_getF C d3_30 (pc' := 33) rfl (w11 hw) F_e ?_
  refine s_aloadN C d3_33 (pc' := 34) rfl rfl rfl ?_
  refine s_dup C d3_34 (pc' := 35) rfl rfl ?_
  refine s_getF C d3_35 (pc' := 38) rfl (w18 hw) F_s ?_
  refine s_dupX1 C d3_38 (pc' := 39) rfl rfl rfl ?_
  refine s_iconst C d3_39 (pc' := 40) rfl (1 : Int32) rfl ?_
  refine s_iadd C d3_40 (pc' := 41) rfl ?_
  refine s_foldI C (y := (3 : Int32)) (by decide) ?_
  refine s_putF C d3_41 (pc' := 44) rfl (w18 hw) F_s E_o (Or.inl (w19 hw)) (w2 hw) (ty := .int) (by decide) rfl rfl g_o (fun h2 W2 => ?_)
  have F2 := F_s.same W2
  have sz3 : n0 ≤ h2.size := (Nat.le_trans Z0 (Nat.le_of_eq W2.size.symm))
  have Kp4 : Keep h0 h2 [o, a] := (Keep.refl h0 [o, a]).wr W2 (Or.inl (List.mem_of_getElem? (i := 0) rfl))
  refine s_iloadN C d3_44 (pc' := 45) rfl rfl ?_
  have Vx6 := (V_a.other W2 (Ne.symm hne))
  refine s_iastore C d3_45 (pc' := 46) rfl Vx6 2 (by decide) (Nat.le_of_ble_eq_true rfl) g_a [(.int e0), (.int e1), (.int x1), (.int (0 : Int32))] rfl (fun h5 W5 A5 => ?_)
  have sz7 : n0 ≤ h5.size := (Nat.le_trans sz3 (Nat.le_of_eq W5.size.symm))
  have Kp8 : Keep h0 h5 [o, a] := Kp4.wr W5 (Or.inl (List.mem_of_getElem? (i := 1) rfl))
  have Ex9 := ((E_o.wr W2).wr W5)
  have Fx10 := ((F_e.other W2 (Or.inr (slot_ne (Or.inl (w12 hw)) (Or.inl (w19 hw)) (by decide) (t := (.array .int)) (t' := .int) (by decide) (by decide)))).other W5 (Or.inl hne))
  have Fx11 := (F2.other W5 (Or.inl hne))
  exact s_ret0 C d3_46 (by decide) (by decide) ⟨Kp8, Ex9, Fx10, Fx11, A5⟩
set_option maxRecDepth 65536 in
set_option maxHeartbeats 40000000 in
theorem c_add3 (l : Launch) (Z : State) (a0 : Array Value) (hw : Hw a0 Z) (o a : Addr) (x1 e0 e1 e2 : Int32) (h0 : Heap) (n0 : Nat) (Z0 : n0 ≤ h0.size) (E_o : Exa Z h0 o "com/example/chasm/chasm/chase/IdList") (g_o : n0 ≤ o) (g_a : n0 ≤ a) (hne : o ≠ a) (F_e : Fld Z h0 o "com/example/chasm/chasm/chase/IdList" "ids" "[I" (.ref a)) (F_s : Fld Z h0 o "com/example/chasm/chasm/chase/IdList" "size" "I" (.int 3)) (V_a : Av Z h0 a .int [(.int e0), (.int e1), (.int e2), (.int (0 : Int32))]) :
    Met l Z (⟨"com/example/chasm/chasm/chase/IdList", "add", "(I)V"⟩ : MethodName) prog_24_method_2_code 2 none [] ({ frames := 0, cells := 0, slots := 0, locals := 0 } : Room) #[(.ref o), (.int x1)] h0 n0 (Ret0 (fun h => Keep h0 h [o, a] ∧ Exa Z h o "com/example/chasm/chasm/chase/IdList" ∧ Fld Z h o "com/example/chasm/chasm/chase/IdList" "ids" "[I" (.ref a) ∧ Fld Z h o "com/example/chasm/chasm/chase/IdList" "size" "I" (.int 4) ∧ Av Z h a .int [(.int e0), (.int e1), (.int e2), (.int x1)])) := by
  refine Met.intro pn3 (own := "com/example/chasm/chasm/chase/IdList") rfl (nm := "add") rfl (fun m => ef3 m o x1) ?_
  intro p e s m below meth c C
  refine s_aloadN C d3_0 (pc' := 1) rfl rfl rfl ?_
  refine s_getF C d3_1 (pc' := 4) rfl (w18 hw) F_s ?_
  refine s_aloadN C d3_4 (pc' := 5) rfl rfl rfl ?_
  refine s_getF C d3_5 (pc' := 8) rfl (w11 hw) F_e ?_
  refine s_length C d3_8 (pc' := 9) rfl V_a (4 : Int32) rfl ?_
  refine s_icmp_ne C d3_9 (pc' := 12) rfl (pcY := 29) rfl (fun c1 => ?_) (fun hc => by exfalso; revert hc; decide)
  refine s_aloadN C d3_29 (pc' := 30) rfl rfl rfl ?_
  refine s_getF C d3_30 (pc' := 33) rfl (w11 hw) F_e ?_
  refine s_aloadN C d3_33 (pc' := 34) rfl rfl rfl ?_
  refine s_dup C d3_34 (pc' := 35) rfl rfl ?_
  refine s_getF C d3_35 (pc' := 38) rfl (w18 hw) F_s ?_
  refine s_dupX1 C d3_38 (pc' := 39) rfl rfl rfl ?_
  refine s_iconst C d3_39 (pc' := 40) rfl (1 : Int32) rfl ?_
  refine s_iadd C d3_40 (pc' := 41) rfl ?_
  refine s_foldI C (y := (4 : Int32)) (by decide) ?_
  refine s_putF C d3_41 (pc' := 44) rfl (w18 hw) F_s E_o (Or.inl (w19 hw)) (w2 hw) (ty := .int) (by decide) rfl rfl g_o (fun h2 W2 => ?_)
  have F2 := F_s.same W2
  have sz3 : n0 ≤ h2.size := (Nat.le_trans Z0 (Nat.le_of_eq W2.size.symm))
  have Kp4 : Keep h0 h2 [o, a] := (Keep.refl h0 [o, a]).wr W2 (Or.inl (List.mem_of_getElem? (i := 0) rfl))
  refine s_iloadN C d3_44 (pc' := 45) rfl rfl ?_
  have Vx6 := (V_a.other W2 (Ne.symm hne))
  refine s_iastore C d3_45 (pc' := 46) rfl Vx6 3 (by decide) (Nat.le_of_ble_eq_true rfl) g_a [(.int e0), (.int e1), (.int e2), (.int x1)] rfl (fun h5 W5 A5 => ?_)
  have sz7 : n0 ≤ h5.size := (Nat.le_trans sz3 (Nat.le_of_eq W5.size.symm))
  have Kp8 : Keep h0 h5 [o, a] := Kp4.wr W5 (Or.inl (List.mem_of_getElem? (i := 1) rfl))
  have Ex9 := ((E_o.wr W2).wr W5)
  have Fx10 := ((F_e.other W2 (Or.inr (slot_ne (Or.inl (w12 hw)) (Or.inl (w19 hw)) (by decide) (t := (.array .int)) (t' := .int) (by decide) (by decide)))).other W5 (Or.inl hne))
  have Fx11 := (F2.other W5 (Or.inl hne))
  exact s_ret0 C d3_46 (by decide) (by decide) ⟨Kp8, Ex9, Fx10, Fx11, A5⟩
set_option maxRecDepth 65536 in
set_option maxHeartbeats 40000000 in
theorem c_add4 (l : Launch) (Z : State) (a0 : Array Value) (hw : Hw a0 Z) (o a : Addr) (x1 e0 e1 e2 e3 : Int32) (h0 : Heap) (n0 : Nat) (Z0 : n0 ≤ h0.size) (E_o : Exa Z h0 o "com/example/chasm/chasm/chase/IdList") (g_o : n0 ≤ o) (g_a : n0 ≤ a) (hne : o ≠ a) (F_e : Fld Z h0 o "com/example/chasm/chasm/chase/IdList" "ids" "[I" (.ref a)) (F_s : Fld Z h0 o "com/example/chasm/chasm/chase/IdList" "size" "I" (.int 4)) (V_a : Av Z h0 a .int [(.int e0), (.int e1), (.int e2), (.int e3)]) :
    Met l Z (⟨"com/example/chasm/chasm/chase/IdList", "add", "(I)V"⟩ : MethodName) prog_24_method_2_code 2 none [] ({ frames := 2, cells := 1, slots := 8, locals := 90 } : Room) #[(.ref o), (.int x1)] h0 n0 (Ret0 (fun h => ∃ b : Addr, Keep h0 h [o] ∧ Exa Z h o "com/example/chasm/chasm/chase/IdList" ∧ Fld Z h o "com/example/chasm/chasm/chase/IdList" "ids" "[I" (.ref b) ∧ Fld Z h o "com/example/chasm/chasm/chase/IdList" "size" "I" (.int 5) ∧ Av Z h b .int [(.int e0), (.int e1), (.int e2), (.int e3), (.int x1), (.int (0 : Int32)), (.int (0 : Int32)), (.int (0 : Int32))] ∧ h0.size ≤ b)) := by
  refine Met.intro pn3 (own := "com/example/chasm/chasm/chase/IdList") rfl (nm := "add") rfl (fun m => ef3 m o x1) ?_
  intro p e s m below meth c C
  refine s_aloadN C d3_0 (pc' := 1) rfl rfl rfl ?_
  refine s_getF C d3_1 (pc' := 4) rfl (w18 hw) F_s ?_
  refine s_aloadN C d3_4 (pc' := 5) rfl rfl rfl ?_
  refine s_getF C d3_5 (pc' := 8) rfl (w11 hw) F_e ?_
  refine s_length C d3_8 (pc' := 9) rfl V_a (4 : Int32) rfl ?_
  refine s_icmp_ne C d3_9 (pc' := 12) rfl (pcY := 29) rfl (fun hc => by exfalso; revert hc; decide) (fun c1 => ?_)
  refine s_aloadN C d3_12 (pc' := 13) rfl rfl rfl ?_
  refine s_aloadN C d3_13 (pc' := 14) rfl rfl rfl ?_
  refine s_getF C d3_14 (pc' := 17) rfl (w11 hw) F_e ?_
  refine s_aloadN C d3_17 (pc' := 18) rfl rfl rfl ?_
  refine s_getF C d3_18 (pc' := 21) rfl (w18 hw) F_s ?_
  refine s_iconst C d3_21 (pc' := 22) rfl (2 : Int32) rfl ?_
  refine s_imul C d3_22 (pc' := 23) rfl ?_
  refine s_foldI C (y := (8 : Int32)) (by decide) ?_
  refine s_callSA C d3_23 (pc' := 26) rfl (w37 hw) (w38 hw) (w39 hw) (w40 hw) (by decide) [(.ref a), (.int (8 : Int32))] [(.ref o)] pd7 rfl rfl (c_cp l Z a0 hw a e0 e1 e2 e3 h0 n0 Z0 V_a) rfl (W := 1) rfl (by decide) (by decide) (k' := 1) rfl (by decide) (n' := 8) rfl (by decide) (fun _ h2 q2 => ?_)
  obtain ⟨r2, rfl, K2, s2, A2⟩ := q2
  have ne3 : a ≠ r2 := Nat.ne_of_lt (Nat.lt_of_lt_of_le V_a.lt s2)
  have ne4 : o ≠ r2 := Nat.ne_of_lt (Nat.lt_of_lt_of_le E_o.lt s2)
  have gn5 : n0 ≤ r2 := Nat.le_trans Z0 s2
  have bs6 : h0.size ≤ r2 := Nat.le_trans (Keep.refl h0 [o]).1 s2
  have sz7 : n0 ≤ h2.size := (Nat.le_trans Z0 K2.1)
  have Kp8 : Keep h0 h2 [o] := (Keep.refl h0 [o]).trans K2 all0
  have Fx9 := (F_e.keep K2 nin0)
  have Ex10 := (E_o.keep K2)
  refine s_putF C d3_26 (pc' := 29) rfl (w11 hw) Fx9 Ex10 (Or.inl (w12 hw)) (w2 hw) (ty := (.array .int)) (by decide) rfl rfl g_o (fun h11 W11 => ?_)
  have F11 := Fx9.same W11
  have sz12 : n0 ≤ h11.size := (Nat.le_trans sz7 (Nat.le_of_eq W11.size.symm))
  have Kp13 : Keep h0 h11 [o] := Kp8.wr W11 (Or.inl (List.mem_of_getElem? (i := 0) rfl))
  refine s_aloadN C d3_29 (pc' := 30) rfl rfl rfl ?_
  refine s_getF C d3_30 (pc' := 33) rfl (w11 hw) F11 ?_
  refine s_aloadN C d3_33 (pc' := 34) rfl rfl rfl ?_
  refine s_dup C d3_34 (pc' := 35) rfl rfl ?_
  have Fx14 := ((F_s.keep K2 nin0).other W11 (Or.inr (slot_ne (Or.inl (w19 hw)) (Or.inl (w12 hw)) (by decide) (t := .int) (t' := (.array .int)) (by decide) (by decide))))
  refine s_getF C d3_35 (pc' := 38) rfl (w18 hw) Fx14 ?_
  refine s_dupX1 C d3_38 (pc' := 39) rfl rfl rfl ?_
  refine s_iconst C d3_39 (pc' := 40) rfl (1 : Int32) rfl ?_
  refine s_iadd C d3_40 (pc' := 41) rfl ?_
  refine s_foldI C (y := (5 : Int32)) (by decide) ?_
  have Ex15 := (Ex10.wr W11)
  refine s_putF C d3_41 (pc' := 44) rfl (w18 hw) Fx14 Ex15 (Or.inl (w19 hw)) (w2 hw) (ty := .int) (by decide) rfl rfl g_o (fun h16 W16 => ?_)
  have F16 := Fx14.same W16
  have sz17 : n0 ≤ h16.size := (Nat.le_trans sz12 (Nat.le_of_eq W16.size.symm))
  have Kp18 : Keep h0 h16 [o] := Kp13.wr W16 (Or.inl (List.mem_of_getElem? (i := 0) rfl))
  refine s_iloadN C d3_44 (pc' := 45) rfl rfl ?_
  have Vx20 := ((A2.other W11 (Ne.symm ne4)).other W16 (Ne.symm ne4))
  refine s_iastore C d3_45 (pc' := 46) rfl Vx20 4 (by decide) (Nat.le_of_ble_eq_true rfl) gn5 [(.int e0), (.int e1), (.int e2), (.int e3), (.int x1), (.int (0 : Int32)), (.int (0 : Int32)), (.int (0 : Int32))] rfl (fun h19 W19 A19 => ?_)
  have sz21 : n0 ≤ h19.size := (Nat.le_trans sz17 (Nat.le_of_eq W19.size.symm))
  have Kp22 : Keep h0 h19 [o] := Kp18.wr W19 (Or.inr bs6)
  have Ex23 := ((Ex15.wr W16).wr W19)
  have Fx24 := ((F11.other W16 (Or.inr (slot_ne (Or.inl (w12 hw)) (Or.inl (w19 hw)) (by decide) (t := (.array .int)) (t' := .int) (by decide) (by decide)))).other W19 (Or.inl ne4))
  have Fx25 := (F16.other W19 (Or.inl ne4))
  exact s_ret0 C d3_46 (by decide) (by decide) ⟨r2, Kp22, Ex23, Fx24, Fx25, A19, bs6⟩
set_option maxRecDepth 65536 in
set_option maxHeartbeats 40000000 in
theorem c_add5 (l : Launch) (Z : State) (a0 : Array Value) (hw : Hw a0 Z) (o a : Addr) (x1 e0 e1 e2 e3 e4 : Int32) (h0 : Heap) (n0 : Nat) (Z0 : n0 ≤ h0.size) (E_o : Exa Z h0 o "com/example/chasm/chasm/chase/IdList") (g_o : n0 ≤ o) (g_a : n0 ≤ a) (hne : o ≠ a) (F_e : Fld Z h0 o "com/example/chasm/chasm/chase/IdList" "ids" "[I" (.ref a)) (F_s : Fld Z h0 o "com/example/chasm/chasm/chase/IdList" "size" "I" (.int 5)) (V_a : Av Z h0 a .int [(.int e0), (.int e1), (.int e2), (.int e3), (.int e4), (.int (0 : Int32)), (.int (0 : Int32)), (.int (0 : Int32))]) :
    Met l Z (⟨"com/example/chasm/chasm/chase/IdList", "add", "(I)V"⟩ : MethodName) prog_24_method_2_code 2 none [] ({ frames := 0, cells := 0, slots := 0, locals := 0 } : Room) #[(.ref o), (.int x1)] h0 n0 (Ret0 (fun h => Keep h0 h [o, a] ∧ Exa Z h o "com/example/chasm/chasm/chase/IdList" ∧ Fld Z h o "com/example/chasm/chasm/chase/IdList" "ids" "[I" (.ref a) ∧ Fld Z h o "com/example/chasm/chasm/chase/IdList" "size" "I" (.int 6) ∧ Av Z h a .int [(.int e0), (.int e1), (.int e2), (.int e3), (.int e4), (.int x1), (.int (0 : Int32)), (.int (0 : Int32))])) := by
  refine Met.intro pn3 (own := "com/example/chasm/chasm/chase/IdList") rfl (nm := "add") rfl (fun m => ef3 m o x1) ?_
  intro p e s m below meth c C
  refine s_aloadN C d3_0 (pc' := 1) rfl rfl rfl ?_
  refine s_getF C d3_1 (pc' := 4) rfl (w18 hw) F_s ?_
  refine s_aloadN C d3_4 (pc' := 5) rfl rfl rfl ?_
  refine s_getF C d3_5 (pc' := 8) rfl (w11 hw) F_e ?_
  refine s_length C d3_8 (pc' := 9) rfl V_a (8 : Int32) rfl ?_
  refine s_icmp_ne C d3_9 (pc' := 12) rfl (pcY := 29) rfl (fun c1 => ?_) (fun hc => by exfalso; revert hc; decide)
  refine s_aloadN C d3_29 (pc' := 30) rfl rfl rfl ?_
  refine s_getF C d3_30 (pc' := 33) rfl (w11 hw) F_e ?_
  refine s_aloadN C d3_33 (pc' := 34) rfl rfl rfl ?_
  refine s_dup C d3_34 (pc' := 35) rfl rfl ?_
  refine s_getF C d3_35 (pc' := 38) rfl (w18 hw) F_s ?_
  refine s_dupX1 C d3_38 (pc' := 39) rfl rfl rfl ?_
  refine s_iconst C d3_39 (pc' := 40) rfl (1 : Int32) rfl ?_
  refine s_iadd C d3_40 (pc' := 41) rfl ?_
  refine s_foldI C (y := (6 : Int32)) (by decide) ?_
  refine s_putF C d3_41 (pc' := 44) rfl (w18 hw) F_s E_o (Or.inl (w19 hw)) (w2 hw) (ty := .int) (by decide) rfl rfl g_o (fun h2 W2 => ?_)
  have F2 := F_s.same W2
  have sz3 : n0 ≤ h2.size := (Nat.le_trans Z0 (Nat.le_of_eq W2.size.symm))
  have Kp4 : Keep h0 h2 [o, a] := (Keep.refl h0 [o, a]).wr W2 (Or.inl (List.mem_of_getElem? (i := 0) rfl))
  refine s_iloadN C d3_44 (pc' := 45) rfl rfl ?_
  have Vx6 := (V_a.other W2 (Ne.symm hne))
  refine s_iastore C d3_45 (pc' := 46) rfl Vx6 5 (by decide) (Nat.le_of_ble_eq_true rfl) g_a [(.int e0), (.int e1), (.int e2), (.int e3), (.int e4), (.int x1), (.int (0 : Int32)), (.int (0 : Int32))] rfl (fun h5 W5 A5 => ?_)
  have sz7 : n0 ≤ h5.size := (Nat.le_trans sz3 (Nat.le_of_eq W5.size.symm))
  have Kp8 : Keep h0 h5 [o, a] := Kp4.wr W5 (Or.inl (List.mem_of_getElem? (i := 1) rfl))
  have Ex9 := ((E_o.wr W2).wr W5)
  have Fx10 := ((F_e.other W2 (Or.inr (slot_ne (Or.inl (w12 hw)) (Or.inl (w19 hw)) (by decide) (t := (.array .int)) (t' := .int) (by decide) (by decide)))).other W5 (Or.inl hne))
  have Fx11 := (F2.other W5 (Or.inl hne))
  exact s_ret0 C d3_46 (by decide) (by decide) ⟨Kp8, Ex9, Fx10, Fx11, A5⟩
set_option maxRecDepth 65536 in
set_option maxHeartbeats 40000000 in
theorem c_add6 (l : Launch) (Z : State) (a0 : Array Value) (hw : Hw a0 Z) (o a : Addr) (x1 e0 e1 e2 e3 e4 e5 : Int32) (h0 : Heap) (n0 : Nat) (Z0 : n0 ≤ h0.size) (E_o : Exa Z h0 o "com/example/chasm/chasm/chase/IdList") (g_o : n0 ≤ o) (g_a : n0 ≤ a) (hne : o ≠ a) (F_e : Fld Z h0 o "com/example/chasm/chasm/chase/IdList" "ids" "[I" (.ref a)) (F_s : Fld Z h0 o "com/example/chasm/chasm/chase/IdList" "size" "I" (.int 6)) (V_a : Av Z h0 a .int [(.int e0), (.int e1), (.int e2), (.int e3), (.int e4), (.int e5), (.int (0 : Int32)), (.int (0 : Int32))]) :
    Met l Z (⟨"com/example/chasm/chasm/chase/IdList", "add", "(I)V"⟩ : MethodName) prog_24_method_2_code 2 none [] ({ frames := 0, cells := 0, slots := 0, locals := 0 } : Room) #[(.ref o), (.int x1)] h0 n0 (Ret0 (fun h => Keep h0 h [o, a] ∧ Exa Z h o "com/example/chasm/chasm/chase/IdList" ∧ Fld Z h o "com/example/chasm/chasm/chase/IdList" "ids" "[I" (.ref a) ∧ Fld Z h o "com/example/chasm/chasm/chase/IdList" "size" "I" (.int 7) ∧ Av Z h a .int [(.int e0), (.int e1), (.int e2), (.int e3), (.int e4), (.int e5), (.int x1), (.int (0 : Int32))])) := by
  refine Met.intro pn3 (own := "com/example/chasm/chasm/chase/IdList") rfl (nm := "add") rfl (fun m => ef3 m o x1) ?_
  intro p e s m below meth c C
  refine s_aloadN C d3_0 (pc' := 1) rfl rfl rfl ?_
  refine s_getF C d3_1 (pc' := 4) rfl (w18 hw) F_s ?_
  refine s_aloadN C d3_4 (pc' := 5) rfl rfl rfl ?_
  refine s_getF C d3_5 (pc' := 8) rfl (w11 hw) F_e ?_
  refine s_length C d3_8 (pc' := 9) rfl V_a (8 : Int32) rfl ?_
  refine s_icmp_ne C d3_9 (pc' := 12) rfl (pcY := 29) rfl (fun c1 => ?_) (fun hc => by exfalso; revert hc; decide)
  refine s_aloadN C d3_29 (pc' := 30) rfl rfl rfl ?_
  refine s_getF C d3_30 (pc' := 33) rfl (w11 hw) F_e ?_
  refine s_aloadN C d3_33 (pc' := 34) rfl rfl rfl ?_
  refine s_dup C d3_34 (pc' := 35) rfl rfl ?_
  refine s_getF C d3_35 (pc' := 38) rfl (w18 hw) F_s ?_
  refine s_dupX1 C d3_38 (pc' := 39) rfl rfl rfl ?_
  refine s_iconst C d3_39 (pc' := 40) rfl (1 : Int32) rfl ?_
  refine s_iadd C d3_40 (pc' := 41) rfl ?_
  refine s_foldI C (y := (7 : Int32)) (by decide) ?_
  refine s_putF C d3_41 (pc' := 44) rfl (w18 hw) F_s E_o (Or.inl (w19 hw)) (w2 hw) (ty := .int) (by decide) rfl rfl g_o (fun h2 W2 => ?_)
  have F2 := F_s.same W2
  have sz3 : n0 ≤ h2.size := (Nat.le_trans Z0 (Nat.le_of_eq W2.size.symm))
  have Kp4 : Keep h0 h2 [o, a] := (Keep.refl h0 [o, a]).wr W2 (Or.inl (List.mem_of_getElem? (i := 0) rfl))
  refine s_iloadN C d3_44 (pc' := 45) rfl rfl ?_
  have Vx6 := (V_a.other W2 (Ne.symm hne))
  refine s_iastore C d3_45 (pc' := 46) rfl Vx6 6 (by decide) (Nat.le_of_ble_eq_true rfl) g_a [(.int e0), (.int e1), (.int e2), (.int e3), (.int e4), (.int e5), (.int x1), (.int (0 : Int32))] rfl (fun h5 W5 A5 => ?_)
  have sz7 : n0 ≤ h5.size := (Nat.le_trans sz3 (Nat.le_of_eq W5.size.symm))
  have Kp8 : Keep h0 h5 [o, a] := Kp4.wr W5 (Or.inl (List.mem_of_getElem? (i := 1) rfl))
  have Ex9 := ((E_o.wr W2).wr W5)
  have Fx10 := ((F_e.other W2 (Or.inr (slot_ne (Or.inl (w12 hw)) (Or.inl (w19 hw)) (by decide) (t := (.array .int)) (t' := .int) (by decide) (by decide)))).other W5 (Or.inl hne))
  have Fx11 := (F2.other W5 (Or.inl hne))
  exact s_ret0 C d3_46 (by decide) (by decide) ⟨Kp8, Ex9, Fx10, Fx11, A5⟩
def f_ix0  (x1 : Int32) : Int32 := (0 : Int32)
set_option maxRecDepth 65536 in
set_option maxHeartbeats 40000000 in
theorem c_ix0 (l : Launch) (Z : State) (a0 : Array Value) (hw : Hw a0 Z) (o : Addr)  (x1 : Int32) (h0 : Heap) (n0 : Nat) (Z0 : n0 ≤ h0.size) (a : Addr) (E_o : Exa Z h0 o "com/example/chasm/chasm/chase/IdList") (F_e : Fld Z h0 o "com/example/chasm/chasm/chase/IdList" "ids" "[I" (.ref a)) (F_s : Fld Z h0 o "com/example/chasm/chasm/chase/IdList" "size" "I" (.int 0)) (V_a : Av Z h0 a .int [(.int (0 : Int32)), (.int (0 : Int32)), (.int (0 : Int32)), (.int (0 : Int32))]) :
    Met l Z (⟨"com/example/chasm/chasm/chase/IdList", "indexOf", "(I)I"⟩ : MethodName) prog_24_method_7_code 5 (some .int) [] ({ frames := 0, cells := 0, slots := 0, locals := 0 } : Room) #[(.ref o), (.int x1)] h0 n0 (RetI (fun z h => z = f_ix0  x1 ∧ h0 = h)) := by
  refine Met.intro pn5 (own := "com/example/chasm/chasm/chase/IdList") rfl (nm := "indexOf") rfl (fun m => ef5 m o x1) ?_
  intro p e s m below meth c C
  refine s_iconst C d5_0 (pc' := 1) rfl (0 : Int32) rfl ?_
  refine s_istoreNP C d5_1 (pc' := 2) rfl #[.val (.ref o), .val (.int x1), .val (.int (0 : Int32)), .unset, .unset] rfl ?_
  refine s_aloadN C d5_2 (pc' := 3) rfl rfl rfl ?_
  refine s_getF C d5_3 (pc' := 6) rfl (w18 hw) F_s ?_
  refine s_istoreNP C d5_6 (pc' := 7) rfl #[.val (.ref o), .val (.int x1), .val (.int (0 : Int32)), .val (.int (0 : Int32)), .unset] rfl ?_
  refine s_iloadN C d5_7 (pc' := 8) rfl rfl ?_
  refine s_iloadN C d5_8 (pc' := 9) rfl rfl ?_
  refine s_icmp_ge C d5_9 (pc' := 12) rfl (pcY := 44) rfl (fun c1 => ?_) (fun hc => by exfalso; revert hc; decide)
  refine s_iloadN C d5_44 (pc' := 45) rfl rfl ?_
  exact s_retI C d5_45 (by decide) (by decide) (by have e : f_ix0  x1 = (0 : Int32) := rfl; exact ⟨e.symm, rfl⟩)
def f_ix1 (e0 : Int32) (x1 : Int32) : Int32 := if e0 < x1 then (1 : Int32) else (0 : Int32)
set_option maxRecDepth 65536 in
set_option maxHeartbeats 40000000 in
theorem c_ix1 (l : Launch) (Z : State) (a0 : Array Value) (hw : Hw a0 Z) (o : Addr) (e0 : Int32) (x1 : Int32) (h0 : Heap) (n0 : Nat) (Z0 : n0 ≤ h0.size) (a : Addr) (E_o : Exa Z h0 o "com/example/chasm/chasm/chase/IdList") (F_e : Fld Z h0 o "com/example/chasm/chasm/chase/IdList" "ids" "[I" (.ref a)) (F_s : Fld Z h0 o "com/example/chasm/chasm/chase/IdList" "size" "I" (.int 1)) (V_a : Av Z h0 a .int [(.int e0), (.int (0 : Int32)), (.int (0 : Int32)), (.int (0 : Int32))]) :
    Met l Z (⟨"com/example/chasm/chasm/chase/IdList", "indexOf", "(I)I"⟩ : MethodName) prog_24_method_7_code 5 (some .int) [] ({ frames := 0, cells := 0, slots := 0, locals := 0 } : Room) #[(.ref o), (.int x1)] h0 n0 (RetI (fun z h => z = f_ix1 e0 x1 ∧ h0 = h)) := by
  refine Met.intro pn5 (own := "com/example/chasm/chasm/chase/IdList") rfl (nm := "indexOf") rfl (fun m => ef5 m o x1) ?_
  intro p e s m below meth c C
  refine s_iconst C d5_0 (pc' := 1) rfl (0 : Int32) rfl ?_
  refine s_istoreNP C d5_1 (pc' := 2) rfl #[.val (.ref o), .val (.int x1), .val (.int (0 : Int32)), .unset, .unset] rfl ?_
  refine s_aloadN C d5_2 (pc' := 3) rfl rfl rfl ?_
  refine s_getF C d5_3 (pc' := 6) rfl (w18 hw) F_s ?_
  refine s_istoreNP C d5_6 (pc' := 7) rfl #[.val (.ref o), .val (.int x1), .val (.int (0 : Int32)), .val (.int (1 : Int32)), .unset] rfl ?_
  refine s_iloadN C d5_7 (pc' := 8) rfl rfl ?_
  refine s_iloadN C d5_8 (pc' := 9) rfl rfl ?_
  refine s_icmp_ge C d5_9 (pc' := 12) rfl (pcY := 44) rfl (fun hc => by exfalso; revert hc; decide) (fun c1 => ?_)
  refine s_iloadN C d5_12 (pc' := 13) rfl rfl ?_
  refine s_iloadN C d5_13 (pc' := 14) rfl rfl ?_
  refine s_iadd C d5_14 (pc' := 15) rfl ?_
  refine s_foldI C (y := (1 : Int32)) (by decide) ?_
  refine s_iconst C d5_15 (pc' := 16) rfl (1 : Int32) rfl ?_
  refine s_iushr C d5_16 (pc' := 17) rfl ?_
  refine s_foldI C (y := (0 : Int32)) (by decide) ?_
  refine s_istoreP C d5_17 (pc' := 19) rfl #[.val (.ref o), .val (.int x1), .val (.int (0 : Int32)), .val (.int (1 : Int32)), .val (.int (0 : Int32))] rfl ?_
  refine s_aloadN C d5_19 (pc' := 20) rfl rfl rfl ?_
  refine s_getF C d5_20 (pc' := 23) rfl (w11 hw) F_e ?_
  refine s_iload C d5_23 (pc' := 25) rfl rfl ?_
  refine s_iaload C d5_25 (pc' := 26) rfl V_a 0 (by decide) rfl ?_
  refine s_iloadN C d5_26 (pc' := 27) rfl rfl ?_
  refine s_icmp_ge C d5_27 (pc' := 30) rfl (pcY := 38) rfl (fun c2 => ?_) (fun c2 => ?_)
  · skip
    refine s_iload C d5_38 (pc' := 40) rfl rfl ?_
    refine s_istoreNP C d5_40 (pc' := 41) rfl #[.val (.ref o), .val (.int x1), .val (.int (0 : Int32)), .val (.int (0 : Int32)), .val (.int (0 : Int32))] rfl ?_
    refine s_goto C d5_41 (pc' := 7) rfl ?_
    refine s_iloadN C d5_7 (pc' := 8) rfl rfl ?_
    refine s_iloadN C d5_8 (pc' := 9) rfl rfl ?_
    refine s_icmp_ge C d5_9 (pc' := 12) rfl (pcY := 44) rfl (fun c3 => ?_) (fun hc => by exfalso; revert hc; decide)
    refine s_iloadN C d5_44 (pc' := 45) rfl rfl ?_
    exact s_retI C d5_45 (by decide) (by decide) (by have e : f_ix1 e0 x1 = (0 : Int32) := (by unfold f_ix1; rw [if_neg c2]); exact ⟨e.symm, rfl⟩)
  · skip
    refine s_iload C d5_30 (pc' := 32) rfl rfl ?_
    refine s_iconst C d5_32 (pc' := 33) rfl (1 : Int32) rfl ?_
    refine s_iadd C d5_33 (pc' := 34) rfl ?_
    refine s_foldI C (y := (1 : Int32)) (by decide) ?_
    refine s_istoreNP C d5_34 (pc' := 35) rfl #[.val (.ref o), .val (.int x1), .val (.int (1 : Int32)), .val (.int (1 : Int32)), .val (.int (0 : Int32))] rfl ?_
    refine s_goto C d5_35 (pc' := 41) rfl ?_
    refine s_goto C d5_41 (pc' := 7) rfl ?_
    refine s_iloadN C d5_7 (pc' := 8) rfl rfl ?_
    refine s_iloadN C d5_8 (pc' := 9) rfl rfl ?_
    refine s_icmp_ge C d5_9 (pc' := 12) rfl (pcY := 44) rfl (fun c4 => ?_) (fun hc => by exfalso; revert hc; decide)
    refine s_iloadN C d5_44 (pc' := 45) rfl rfl ?_
    exact s_retI C d5_45 (by decide) (by decide) (by have e : f_ix1 e0 x1 = (1 : Int32) := (by unfold f_ix1; rw [if_pos c2]); exact ⟨e.symm, rfl⟩)
def f_ix2 (e0 e1 : Int32) (x1 : Int32) : Int32 := if e1 < x1 then (2 : Int32) else (if e0 < x1 then (1 : Int32) else (0 : Int32))
set_option maxRecDepth 65536 in
set_option maxHeartbeats 40000000 in
theorem c_ix2 (l : Launch) (Z : State) (a0 : Array Value) (hw : Hw a0 Z) (o : Addr) (e0 e1 : Int32) (x1 : Int32) (h0 : Heap) (n0 : Nat) (Z0 : n0 ≤ h0.size) (a : Addr) (E_o : Exa Z h0 o "com/example/chasm/chasm/chase/IdList") (F_e : Fld Z h0 o "com/example/chasm/chasm/chase/IdList" "ids" "[I" (.ref a)) (F_s : Fld Z h0 o "com/example/chasm/chasm/chase/IdList" "size" "I" (.int 2)) (V_a : Av Z h0 a .int [(.int e0), (.int e1), (.int (0 : Int32)), (.int (0 : Int32))]) :
    Met l Z (⟨"com/example/chasm/chasm/chase/IdList", "indexOf", "(I)I"⟩ : MethodName) prog_24_method_7_code 5 (some .int) [] ({ frames := 0, cells := 0, slots := 0, locals := 0 } : Room) #[(.ref o), (.int x1)] h0 n0 (RetI (fun z h => z = f_ix2 e0 e1 x1 ∧ h0 = h)) := by
  refine Met.intro pn5 (own := "com/example/chasm/chasm/chase/IdList") rfl (nm := "indexOf") rfl (fun m => ef5 m o x1) ?_
  intro p e s m below meth c C
  refine s_iconst C d5_0 (pc' := 1) rfl (0 : Int32) rfl ?_
  refine s_istoreNP C d5_1 (pc' := 2) rfl #[.val (.ref o), .val (.int x1), .val (.int (0 : Int32)), .unset, .unset] rfl ?_
  refine s_aloadN C d5_2 (pc' := 3) rfl rfl rfl ?_
  refine s_getF C d5_3 (pc' := 6) rfl (w18 hw) F_s ?_
  refine s_istoreNP C d5_6 (pc' := 7) rfl #[.val (.ref o), .val (.int x1), .val (.int (0 : Int32)), .val (.int (2 : Int32)), .unset] rfl ?_
  refine s_iloadN C d5_7 (pc' := 8) rfl rfl ?_
  refine s_iloadN C d5_8 (pc' := 9) rfl rfl ?_
  refine s_icmp_ge C d5_9 (pc' := 12) rfl (pcY := 44) rfl (fun hc => by exfalso; revert hc; decide) (fun c1 => ?_)
  refine s_iloadN C d5_12 (pc' := 13) rfl rfl ?_
  refine s_iloadN C d5_13 (pc' := 14) rfl rfl ?_
  refine s_iadd C d5_14 (pc' := 15) rfl ?_
  refine s_foldI C (y := (2 : Int32)) (by decide) ?_
  refine s_iconst C d5_15 (pc' := 16) rfl (1 : Int32) rfl ?_
  refine s_iushr C d5_16 (pc' := 17) rfl ?_
  refine s_foldI C (y := (1 : Int32)) (by decide) ?_
  refine s_istoreP C d5_17 (pc' := 19) rfl #[.val (.ref o), .val (.int x1), .val (.int (0 : Int32)), .val (.int (2 : Int32)), .val (.int (1 : Int32))] rfl ?_
  refine s_aloadN C d5_19 (pc' := 20) rfl rfl rfl ?_
  refine s_getF C d5_20 (pc' := 23) rfl (w11 hw) F_e ?_
  refine s_iload C d5_23 (pc' := 25) rfl rfl ?_
  refine s_iaload C d5_25 (pc' := 26) rfl V_a 1 (by decide) rfl ?_
  refine s_iloadN C d5_26 (pc' := 27) rfl rfl ?_
  refine s_icmp_ge C d5_27 (pc' := 30) rfl (pcY := 38) rfl (fun c2 => ?_) (fun c2 => ?_)
  · skip
    refine s_iload C d5_38 (pc' := 40) rfl rfl ?_
    refine s_istoreNP C d5_40 (pc' := 41) rfl #[.val (.ref o), .val (.int x1), .val (.int (0 : Int32)), .val (.int (1 : Int32)), .val (.int (1 : Int32))] rfl ?_
    refine s_goto C d5_41 (pc' := 7) rfl ?_
    refine s_iloadN C d5_7 (pc' := 8) rfl rfl ?_
    refine s_iloadN C d5_8 (pc' := 9) rfl rfl ?_
    refine s_icmp_ge C d5_9 (pc' := 12) rfl (pcY := 44) rfl (fun hc => by exfalso; revert hc; decide) (fun c3 => ?_)
    refine s_iloadN C d5_12 (pc' := 13) rfl rfl ?_
    refine s_iloadN C d5_13 (pc' := 14) rfl rfl ?_
    refine s_iadd C d5_14 (pc' := 15) rfl ?_
    refine s_foldI C (y := (1 : Int32)) (by decide) ?_
    refine s_iconst C d5_15 (pc' := 16) rfl (1 : Int32) rfl ?_
    refine s_iushr C d5_16 (pc' := 17) rfl ?_
    refine s_foldI C (y := (0 : Int32)) (by decide) ?_
    refine s_istoreP C d5_17 (pc' := 19) rfl #[.val (.ref o), .val (.int x1), .val (.int (0 : Int32)), .val (.int (1 : Int32)), .val (.int (0 : Int32))] rfl ?_
    refine s_aloadN C d5_19 (pc' := 20) rfl rfl rfl ?_
    refine s_getF C d5_20 (pc' := 23) rfl (w11 hw) F_e ?_
    refine s_iload C d5_23 (pc' := 25) rfl rfl ?_
    refine s_iaload C d5_25 (pc' := 26) rfl V_a 0 (by decide) rfl ?_
    refine s_iloadN C d5_26 (pc' := 27) rfl rfl ?_
    refine s_icmp_ge C d5_27 (pc' := 30) rfl (pcY := 38) rfl (fun c4 => ?_) (fun c4 => ?_)
    · skip
      refine s_iload C d5_38 (pc' := 40) rfl rfl ?_
      refine s_istoreNP C d5_40 (pc' := 41) rfl #[.val (.ref o), .val (.int x1), .val (.int (0 : Int32)), .val (.int (0 : Int32)), .val (.int (0 : Int32))] rfl ?_
      refine s_goto C d5_41 (pc' := 7) rfl ?_
      refine s_iloadN C d5_7 (pc' := 8) rfl rfl ?_
      refine s_iloadN C d5_8 (pc' := 9) rfl rfl ?_
      refine s_icmp_ge C d5_9 (pc' := 12) rfl (pcY := 44) rfl (fun c5 => ?_) (fun hc => by exfalso; revert hc; decide)
      refine s_iloadN C d5_44 (pc' := 45) rfl rfl ?_
      exact s_retI C d5_45 (by decide) (by decide) (by have e : f_ix2 e0 e1 x1 = (0 : Int32) := (by unfold f_ix2; rw [if_neg c2, if_neg c4]); exact ⟨e.symm, rfl⟩)
    · skip
      refine s_iload C d5_30 (pc' := 32) rfl rfl ?_
      refine s_iconst C d5_32 (pc' := 33) rfl (1 : Int32) rfl ?_
      refine s_iadd C d5_33 (pc' := 34) rfl ?_
      refine s_foldI C (y := (1 : Int32)) (by decide) ?_
      refine s_istoreNP C d5_34 (pc' := 35) rfl #[.val (.ref o), .val (.int x1), .val (.int (1 : Int32)), .val (.int (1 : Int32)), .val (.int (0 : Int32))] rfl ?_
      refine s_goto C d5_35 (pc' := 41) rfl ?_
      refine s_goto C d5_41 (pc' := 7) rfl ?_
      refine s_iloadN C d5_7 (pc' := 8) rfl rfl ?_
      refine s_iloadN C d5_8 (pc' := 9) rfl rfl ?_
      refine s_icmp_ge C d5_9 (pc' := 12) rfl (pcY := 44) rfl (fun c6 => ?_) (fun hc => by exfalso; revert hc; decide)
      refine s_iloadN C d5_44 (pc' := 45) rfl rfl ?_
      exact s_retI C d5_45 (by decide) (by decide) (by have e : f_ix2 e0 e1 x1 = (1 : Int32) := (by unfold f_ix2; rw [if_neg c2, if_pos c4]); exact ⟨e.symm, rfl⟩)
  · skip
    refine s_iload C d5_30 (pc' := 32) rfl rfl ?_
    refine s_iconst C d5_32 (pc' := 33) rfl (1 : Int32) rfl ?_
    refine s_iadd C d5_33 (pc' := 34) rfl ?_
    refine s_foldI C (y := (2 : Int32)) (by decide) ?_
    refine s_istoreNP C d5_34 (pc' := 35) rfl #[.val (.ref o), .val (.int x1), .val (.int (2 : Int32)), .val (.int (2 : Int32)), .val (.int (1 : Int32))] rfl ?_
    refine s_goto C d5_35 (pc' := 41) rfl ?_
    refine s_goto C d5_41 (pc' := 7) rfl ?_
    refine s_iloadN C d5_7 (pc' := 8) rfl rfl ?_
    refine s_iloadN C d5_8 (pc' := 9) rfl rfl ?_
    refine s_icmp_ge C d5_9 (pc' := 12) rfl (pcY := 44) rfl (fun c7 => ?_) (fun hc => by exfalso; revert hc; decide)
    refine s_iloadN C d5_44 (pc' := 45) rfl rfl ?_
    exact s_retI C d5_45 (by decide) (by decide) (by have e : f_ix2 e0 e1 x1 = (2 : Int32) := (by unfold f_ix2; rw [if_pos c2]); exact ⟨e.symm, rfl⟩)
def f_ix3 (e0 e1 e2 : Int32) (x1 : Int32) : Int32 := if e1 < x1 then (if e2 < x1 then (3 : Int32) else (2 : Int32)) else (if e0 < x1 then (1 : Int32) else (0 : Int32))
set_option maxRecDepth 65536 in
set_option maxHeartbeats 40000000 in
theorem c_ix3 (l : Launch) (Z : State) (a0 : Array Value) (hw : Hw a0 Z) (o : Addr) (e0 e1 e2 : Int32) (x1 : Int32) (h0 : Heap) (n0 : Nat) (Z0 : n0 ≤ h0.size) (a : Addr) (E_o : Exa Z h0 o "com/example/chasm/chasm/chase/IdList") (F_e : Fld Z h0 o "com/example/chasm/chasm/chase/IdList" "ids" "[I" (.ref a)) (F_s : Fld Z h0 o "com/example/chasm/chasm/chase/IdList" "size" "I" (.int 3)) (V_a : Av Z h0 a .int [(.int e0), (.int e1), (.int e2), (.int (0 : Int32))]) :
    Met l Z (⟨"com/example/chasm/chasm/chase/IdList", "indexOf", "(I)I"⟩ : MethodName) prog_24_method_7_code 5 (some .int) [] ({ frames := 0, cells := 0, slots := 0, locals := 0 } : Room) #[(.ref o), (.int x1)] h0 n0 (RetI (fun z h => z = f_ix3 e0 e1 e2 x1 ∧ h0 = h)) := by
  refine Met.intro pn5 (own := "com/example/chasm/chasm/chase/IdList") rfl (nm := "indexOf") rfl (fun m => ef5 m o x1) ?_
  intro p e s m below meth c C
  refine s_iconst C d5_0 (pc' := 1) rfl (0 : Int32) rfl ?_
  refine s_istoreNP C d5_1 (pc' := 2) rfl #[.val (.ref o), .val (.int x1), .val (.int (0 : Int32)), .unset, .unset] rfl ?_
  refine s_aloadN C d5_2 (pc' := 3) rfl rfl rfl ?_
  refine s_getF C d5_3 (pc' := 6) rfl (w18 hw) F_s ?_
  refine s_istoreNP C d5_6 (pc' := 7) rfl #[.val (.ref o), .val (.int x1), .val (.int (0 : Int32)), .val (.int (3 : Int32)), .unset] rfl ?_
  refine s_iloadN C d5_7 (pc' := 8) rfl rfl ?_
  refine s_iloadN C d5_8 (pc' := 9) rfl rfl ?_
  refine s_icmp_ge C d5_9 (pc' := 12) rfl (pcY := 44) rfl (fun hc => by exfalso; revert hc; decide) (fun c1 => ?_)
  refine s_iloadN C d5_12 (pc' := 13) rfl rfl ?_
  refine s_iloadN C d5_13 (pc' := 14) rfl rfl ?_
  refine s_iadd C d5_14 (pc' := 15) rfl ?_
  refine s_foldI C (y := (3 : Int32)) (by decide) ?_
  refine s_iconst C d5_15 (pc' := 16) rfl (1 : Int32) rfl ?_
  refine s_iushr C d5_16 (pc' := 17) rfl ?_
  refine s_foldI C (y := (1 : Int32)) (by decide) ?_
  refine s_istoreP C d5_17 (pc' := 19) rfl #[.val (.ref o), .val (.int x1), .val (.int (0 : Int32)), .val (.int (3 : Int32)), .val (.int (1 : Int32))] rfl ?_
  refine s_aloadN C d5_19 (pc' := 20) rfl rfl rfl ?_
  refine s_getF C d5_20 (pc' := 23) rfl (w11 hw) F_e ?_
  refine s_iload C d5_23 (pc' := 25) rfl rfl ?_
  refine s_iaload C d5_25 (pc' := 26) rfl V_a 1 (by decide) rfl ?_
  refine s_iloadN C d5_26 (pc' := 27) rfl rfl ?_
  refine s_icmp_ge C d5_27 (pc' := 30) rfl (pcY := 38) rfl (fun c2 => ?_) (fun c2 => ?_)
  · skip
    refine s_iload C d5_38 (pc' := 40) rfl rfl ?_
    refine s_istoreNP C d5_40 (pc' := 41) rfl #[.val (.ref o), .val (.int x1), .val (.int (0 : Int32)), .val (.int (1 : Int32)), .val (.int (1 : Int32))] rfl ?_
    refine s_goto C d5_41 (pc' := 7) rfl ?_
    refine s_iloadN C d5_7 (pc' := 8) rfl rfl ?_
    refine s_iloadN C d5_8 (pc' := 9) rfl rfl ?_
    refine s_icmp_ge C d5_9 (pc' := 12) rfl (pcY := 44) rfl (fun hc => by exfalso; revert hc; decide) (fun c3 => ?_)
    refine s_iloadN C d5_12 (pc' := 13) rfl rfl ?_
    refine s_iloadN C d5_13 (pc' := 14) rfl rfl ?_
    refine s_iadd C d5_14 (pc' := 15) rfl ?_
    refine s_foldI C (y := (1 : Int32)) (by decide) ?_
    refine s_iconst C d5_15 (pc' := 16) rfl (1 : Int32) rfl ?_
    refine s_iushr C d5_16 (pc' := 17) rfl ?_
    refine s_foldI C (y := (0 : Int32)) (by decide) ?_
    refine s_istoreP C d5_17 (pc' := 19) rfl #[.val (.ref o), .val (.int x1), .val (.int (0 : Int32)), .val (.int (1 : Int32)), .val (.int (0 : Int32))] rfl ?_
    refine s_aloadN C d5_19 (pc' := 20) rfl rfl rfl ?_
    refine s_getF C d5_20 (pc' := 23) rfl (w11 hw) F_e ?_
    refine s_iload C d5_23 (pc' := 25) rfl rfl ?_
    refine s_iaload C d5_25 (pc' := 26) rfl V_a 0 (by decide) rfl ?_
    refine s_iloadN C d5_26 (pc' := 27) rfl rfl ?_
    refine s_icmp_ge C d5_27 (pc' := 30) rfl (pcY := 38) rfl (fun c4 => ?_) (fun c4 => ?_)
    · skip
      refine s_iload C d5_38 (pc' := 40) rfl rfl ?_
      refine s_istoreNP C d5_40 (pc' := 41) rfl #[.val (.ref o), .val (.int x1), .val (.int (0 : Int32)), .val (.int (0 : Int32)), .val (.int (0 : Int32))] rfl ?_
      refine s_goto C d5_41 (pc' := 7) rfl ?_
      refine s_iloadN C d5_7 (pc' := 8) rfl rfl ?_
      refine s_iloadN C d5_8 (pc' := 9) rfl rfl ?_
      refine s_icmp_ge C d5_9 (pc' := 12) rfl (pcY := 44) rfl (fun c5 => ?_) (fun hc => by exfalso; revert hc; decide)
      refine s_iloadN C d5_44 (pc' := 45) rfl rfl ?_
      exact s_retI C d5_45 (by decide) (by decide) (by have e : f_ix3 e0 e1 e2 x1 = (0 : Int32) := (by unfold f_ix3; rw [if_neg c2, if_neg c4]); exact ⟨e.symm, rfl⟩)
    · skip
      refine s_iload C d5_30 (pc' := 32) rfl rfl ?_
      refine s_iconst C d5_32 (pc' := 33) rfl (1 : Int32) rfl ?_
      refine s_iadd C d5_33 (pc' := 34) rfl ?_
      refine s_foldI C (y := (1 : Int32)) (by decide) ?_
      refine s_istoreNP C d5_34 (pc' := 35) rfl #[.val (.ref o), .val (.int x1), .val (.int (1 : Int32)), .val (.int (1 : Int32)), .val (.int (0 : Int32))] rfl ?_
      refine s_goto C d5_35 (pc' := 41) rfl ?_
      refine s_goto C d5_41 (pc' := 7) rfl ?_
      refine s_iloadN C d5_7 (pc' := 8) rfl rfl ?_
      refine s_iloadN C d5_8 (pc' := 9) rfl rfl ?_
      refine s_icmp_ge C d5_9 (pc' := 12) rfl (pcY := 44) rfl (fun c6 => ?_) (fun hc => by exfalso; revert hc; decide)
      refine s_iloadN C d5_44 (pc' := 45) rfl rfl ?_
      exact s_retI C d5_45 (by decide) (by decide) (by have e : f_ix3 e0 e1 e2 x1 = (1 : Int32) := (by unfold f_ix3; rw [if_neg c2, if_pos c4]); exact ⟨e.symm, rfl⟩)
  · skip
    refine s_iload C d5_30 (pc' := 32) rfl rfl ?_
    refine s_iconst C d5_32 (pc' := 33) rfl (1 : Int32) rfl ?_
    refine s_iadd C d5_33 (pc' := 34) rfl ?_
    refine s_foldI C (y := (2 : Int32)) (by decide) ?_
    refine s_istoreNP C d5_34 (pc' := 35) rfl #[.val (.ref o), .val (.int x1), .val (.int (2 : Int32)), .val (.int (3 : Int32)), .val (.int (1 : Int32))] rfl ?_
    refine s_goto C d5_35 (pc' := 41) rfl ?_
    refine s_goto C d5_41 (pc' := 7) rfl ?_
    refine s_iloadN C d5_7 (pc' := 8) rfl rfl ?_
    refine s_iloadN C d5_8 (pc' := 9) rfl rfl ?_
    refine s_icmp_ge C d5_9 (pc' := 12) rfl (pcY := 44) rfl (fun hc => by exfalso; revert hc; decide) (fun c7 => ?_)
    refine s_iloadN C d5_12 (pc' := 13) rfl rfl ?_
    refine s_iloadN C d5_13 (pc' := 14) rfl rfl ?_
    refine s_iadd C d5_14 (pc' := 15) rfl ?_
    refine s_foldI C (y := (5 : Int32)) (by decide) ?_
    refine s_iconst C d5_15 (pc' := 16) rfl (1 : Int32) rfl ?_
    refine s_iushr C d5_16 (pc' := 17) rfl ?_
    refine s_foldI C (y := (2 : Int32)) (by decide) ?_
    refine s_istoreP C d5_17 (pc' := 19) rfl #[.val (.ref o), .val (.int x1), .val (.int (2 : Int32)), .val (.int (3 : Int32)), .val (.int (2 : Int32))] rfl ?_
    refine s_aloadN C d5_19 (pc' := 20) rfl rfl rfl ?_
    refine s_getF C d5_20 (pc' := 23) rfl (w11 hw) F_e ?_
    refine s_iload C d5_23 (pc' := 25) rfl rfl ?_
    refine s_iaload C d5_25 (pc' := 26) rfl V_a 2 (by decide) rfl ?_
    refine s_iloadN C d5_26 (pc' := 27) rfl rfl ?_
    refine s_icmp_ge C d5_27 (pc' := 30) rfl (pcY := 38) rfl (fun c8 => ?_) (fun c8 => ?_)
    · skip
      refine s_iload C d5_38 (pc' := 40) rfl rfl ?_
      refine s_istoreNP C d5_40 (pc' := 41) rfl #[.val (.ref o), .val (.int x1), .val (.int (2 : Int32)), .val (.int (2 : Int32)), .val (.int (2 : Int32))] rfl ?_
      refine s_goto C d5_41 (pc' := 7) rfl ?_
      refine s_iloadN C d5_7 (pc' := 8) rfl rfl ?_
      refine s_iloadN C d5_8 (pc' := 9) rfl rfl ?_
      refine s_icmp_ge C d5_9 (pc' := 12) rfl (pcY := 44) rfl (fun c9 => ?_) (fun hc => by exfalso; revert hc; decide)
      refine s_iloadN C d5_44 (pc' := 45) rfl rfl ?_
      exact s_retI C d5_45 (by decide) (by decide) (by have e : f_ix3 e0 e1 e2 x1 = (2 : Int32) := (by unfold f_ix3; rw [if_pos c2, if_neg c8]); exact ⟨e.symm, rfl⟩)
    · skip
      refine s_iload C d5_30 (pc' := 32) rfl rfl ?_
      refine s_iconst C d5_32 (pc' := 33) rfl (1 : Int32) rfl ?_
      refine s_iadd C d5_33 (pc' := 34) rfl ?_
      refine s_foldI C (y := (3 : Int32)) (by decide) ?_
      refine s_istoreNP C d5_34 (pc' := 35) rfl #[.val (.ref o), .val (.int x1), .val (.int (3 : Int32)), .val (.int (3 : Int32)), .val (.int (2 : Int32))] rfl ?_
      refine s_goto C d5_35 (pc' := 41) rfl ?_
      refine s_goto C d5_41 (pc' := 7) rfl ?_
      refine s_iloadN C d5_7 (pc' := 8) rfl rfl ?_
      refine s_iloadN C d5_8 (pc' := 9) rfl rfl ?_
      refine s_icmp_ge C d5_9 (pc' := 12) rfl (pcY := 44) rfl (fun c10 => ?_) (fun hc => by exfalso; revert hc; decide)
      refine s_iloadN C d5_44 (pc' := 45) rfl rfl ?_
      exact s_retI C d5_45 (by decide) (by decide) (by have e : f_ix3 e0 e1 e2 x1 = (3 : Int32) := (by unfold f_ix3; rw [if_pos c2, if_pos c8]); exact ⟨e.symm, rfl⟩)
def f_ix4 (e0 e1 e2 e3 : Int32) (x1 : Int32) : Int32 := if e2 < x1 then (if e3 < x1 then (4 : Int32) else (3 : Int32)) else (if e1 < x1 then (2 : Int32) else (if e0 < x1 then (1 : Int32) else (0 : Int32)))
set_option maxRecDepth 65536 in
set_option maxHeartbeats 40000000 in
theorem c_ix4 (l : Launch) (Z : State) (a0 : Array Value) (hw : Hw a0 Z) (o : Addr) (e0 e1 e2 e3 : Int32) (x1 : Int32) (h0 : Heap) (n0 : Nat) (Z0 : n0 ≤ h0.size) (a : Addr) (E_o : Exa Z h0 o "com/example/chasm/chasm/chase/IdList") (F_e : Fld Z h0 o "com/example/chasm/chasm/chase/IdList" "ids" "[I" (.ref a)) (F_s : Fld Z h0 o "com/example/chasm/chasm/chase/IdList" "size" "I" (.int 4)) (V_a : Av Z h0 a .int [(.int e0), (.int e1), (.int e2), (.int e3)]) :
    Met l Z (⟨"com/example/chasm/chasm/chase/IdList", "indexOf", "(I)I"⟩ : MethodName) prog_24_method_7_code 5 (some .int) [] ({ frames := 0, cells := 0, slots := 0, locals := 0 } : Room) #[(.ref o), (.int x1)] h0 n0 (RetI (fun z h => z = f_ix4 e0 e1 e2 e3 x1 ∧ h0 = h)) := by
  refine Met.intro pn5 (own := "com/example/chasm/chasm/chase/IdList") rfl (nm := "indexOf") rfl (fun m => ef5 m o x1) ?_
  intro p e s m below meth c C
  refine s_iconst C d5_0 (pc' := 1) rfl (0 : Int32) rfl ?_
  refine s_istoreNP C d5_1 (pc' := 2) rfl #[.val (.ref o), .val (.int x1), .val (.int (0 : Int32)), .unset, .unset] rfl ?_
  refine s_aloadN C d5_2 (pc' := 3) rfl rfl rfl ?_
  refine s_getF C d5_3 (pc' := 6) rfl (w18 hw) F_s ?_
  refine s_istoreNP C d5_6 (pc' := 7) rfl #[.val (.ref o), .val (.int x1), .val (.int (0 : Int32)), .val (.int (4 : Int32)), .unset] rfl ?_
  refine s_iloadN C d5_7 (pc' := 8) rfl rfl ?_
  refine s_iloadN C d5_8 (pc' := 9) rfl rfl ?_
  refine s_icmp_ge C d5_9 (pc' := 12) rfl (pcY := 44) rfl (fun hc => by exfalso; revert hc; decide) (fun c1 => ?_)
  refine s_iloadN C d5_12 (pc' := 13) rfl rfl ?_
  refine s_iloadN C d5_13 (pc' := 14) rfl rfl ?_
  refine s_iadd C d5_14 (pc' := 15) rfl ?_
  refine s_foldI C (y := (4 : Int32)) (by decide) ?_
  refine s_iconst C d5_15 (pc' := 16) rfl (1 : Int32) rfl ?_
  refine s_iushr C d5_16 (pc' := 17) rfl ?_
  refine s_foldI C (y := (2 : Int32)) (by decide) ?_
  refine s_istoreP C d5_17 (pc' := 19) rfl #[.val (.ref o), .val (.int x1), .val (.int (0 : Int32)), .val (.int (4 : Int32)), .val (.int (2 : Int32))] rfl ?_
  refine s_aloadN C d5_19 (pc' := 20) rfl rfl rfl ?_
  refine s_getF C d5_20 (pc' := 23) rfl (w11 hw) F_e ?_
  refine s_iload C d5_23 (pc' := 25) rfl rfl ?_
  refine s_iaload C d5_25 (pc' := 26) rfl V_a 2 (by decide) rfl ?_
  refine s_iloadN C d5_26 (pc' := 27) rfl rfl ?_
  refine s_icmp_ge C d5_27 (pc' := 30) rfl (pcY := 38) rfl (fun c2 => ?_) (fun c2 => ?_)
  · skip
    refine s_iload C d5_38 (pc' := 40) rfl rfl ?_
    refine s_istoreNP C d5_40 (pc' := 41) rfl #[.val (.ref o), .val (.int x1), .val (.int (0 : Int32)), .val (.int (2 : Int32)), .val (.int (2 : Int32))] rfl ?_
    refine s_goto C d5_41 (pc' := 7) rfl ?_
    refine s_iloadN C d5_7 (pc' := 8) rfl rfl ?_
    refine s_iloadN C d5_8 (pc' := 9) rfl rfl ?_
    refine s_icmp_ge C d5_9 (pc' := 12) rfl (pcY := 44) rfl (fun hc => by exfalso; revert hc; decide) (fun c3 => ?_)
    refine s_iloadN C d5_12 (pc' := 13) rfl rfl ?_
    refine s_iloadN C d5_13 (pc' := 14) rfl rfl ?_
    refine s_iadd C d5_14 (pc' := 15) rfl ?_
    refine s_foldI C (y := (2 : Int32)) (by decide) ?_
    refine s_iconst C d5_15 (pc' := 16) rfl (1 : Int32) rfl ?_
    refine s_iushr C d5_16 (pc' := 17) rfl ?_
    refine s_foldI C (y := (1 : Int32)) (by decide) ?_
    refine s_istoreP C d5_17 (pc' := 19) rfl #[.val (.ref o), .val (.int x1), .val (.int (0 : Int32)), .val (.int (2 : Int32)), .val (.int (1 : Int32))] rfl ?_
    refine s_aloadN C d5_19 (pc' := 20) rfl rfl rfl ?_
    refine s_getF C d5_20 (pc' := 23) rfl (w11 hw) F_e ?_
    refine s_iload C d5_23 (pc' := 25) rfl rfl ?_
    refine s_iaload C d5_25 (pc' := 26) rfl V_a 1 (by decide) rfl ?_
    refine s_iloadN C d5_26 (pc' := 27) rfl rfl ?_
    refine s_icmp_ge C d5_27 (pc' := 30) rfl (pcY := 38) rfl (fun c4 => ?_) (fun c4 => ?_)
    · skip
      refine s_iload C d5_38 (pc' := 40) rfl rfl ?_
      refine s_istoreNP C d5_40 (pc' := 41) rfl #[.val (.ref o), .val (.int x1), .val (.int (0 : Int32)), .val (.int (1 : Int32)), .val (.int (1 : Int32))] rfl ?_
      refine s_goto C d5_41 (pc' := 7) rfl ?_
      refine s_iloadN C d5_7 (pc' := 8) rfl rfl ?_
      refine s_iloadN C d5_8 (pc' := 9) rfl rfl ?_
      refine s_icmp_ge C d5_9 (pc' := 12) rfl (pcY := 44) rfl (fun hc => by exfalso; revert hc; decide) (fun c5 => ?_)
      refine s_iloadN C d5_12 (pc' := 13) rfl rfl ?_
      refine s_iloadN C d5_13 (pc' := 14) rfl rfl ?_
      refine s_iadd C d5_14 (pc' := 15) rfl ?_
      refine s_foldI C (y := (1 : Int32)) (by decide) ?_
      refine s_iconst C d5_15 (pc' := 16) rfl (1 : Int32) rfl ?_
      refine s_iushr C d5_16 (pc' := 17) rfl ?_
      refine s_foldI C (y := (0 : Int32)) (by decide) ?_
      refine s_istoreP C d5_17 (pc' := 19) rfl #[.val (.ref o), .val (.int x1), .val (.int (0 : Int32)), .val (.int (1 : Int32)), .val (.int (0 : Int32))] rfl ?_
      refine s_aloadN C d5_19 (pc' := 20) rfl rfl rfl ?_
      refine s_getF C d5_20 (pc' := 23) rfl (w11 hw) F_e ?_
      refine s_iload C d5_23 (pc' := 25) rfl rfl ?_
      refine s_iaload C d5_25 (pc' := 26) rfl V_a 0 (by decide) rfl ?_
      refine s_iloadN C d5_26 (pc' := 27) rfl rfl ?_
      refine s_icmp_ge C d5_27 (pc' := 30) rfl (pcY := 38) rfl (fun c6 => ?_) (fun c6 => ?_)
      · skip
        refine s_iload C d5_38 (pc' := 40) rfl rfl ?_
        refine s_istoreNP C d5_40 (pc' := 41) rfl #[.val (.ref o), .val (.int x1), .val (.int (0 : Int32)), .val (.int (0 : Int32)), .val (.int (0 : Int32))] rfl ?_
        refine s_goto C d5_41 (pc' := 7) rfl ?_
        refine s_iloadN C d5_7 (pc' := 8) rfl rfl ?_
        refine s_iloadN C d5_8 (pc' := 9) rfl rfl ?_
        refine s_icmp_ge C d5_9 (pc' := 12) rfl (pcY := 44) rfl (fun c7 => ?_) (fun hc => by exfalso; revert hc; decide)
        refine s_iloadN C d5_44 (pc' := 45) rfl rfl ?_
        exact s_retI C d5_45 (by decide) (by decide) (by have e : f_ix4 e0 e1 e2 e3 x1 = (0 : Int32) := (by unfold f_ix4; rw [if_neg c2, if_neg c4, if_neg c6]); exact ⟨e.symm, rfl⟩)
      · skip
        refine s_iload C d5_30 (pc' := 32) rfl rfl ?_
        refine s_iconst C d5_32 (pc' := 33) rfl (1 : Int32) rfl ?_
        refine s_iadd C d5_33 (pc' := 34) rfl ?_
        refine s_foldI C (y := (1 : Int32)) (by decide) ?_
        refine s_istoreNP C d5_34 (pc' := 35) rfl #[.val (.ref o), .val (.int x1), .val (.int (1 : Int32)), .val (.int (1 : Int32)), .val (.int (0 : Int32))] rfl ?_
        refine s_goto C d5_35 (pc' := 41) rfl ?_
        refine s_goto C d5_41 (pc' := 7) rfl ?_
        refine s_iloadN C d5_7 (pc' := 8) rfl rfl ?_
        refine s_iloadN C d5_8 (pc' := 9) rfl rfl ?_
        refine s_icmp_ge C d5_9 (pc' := 12) rfl (pcY := 44) rfl (fun c8 => ?_) (fun hc => by exfalso; revert hc; decide)
        refine s_iloadN C d5_44 (pc' := 45) rfl rfl ?_
        exact s_retI C d5_45 (by decide) (by decide) (by have e : f_ix4 e0 e1 e2 e3 x1 = (1 : Int32) := (by unfold f_ix4; rw [if_neg c2, if_neg c4, if_pos c6]); exact ⟨e.symm, rfl⟩)
    · skip
      refine s_iload C d5_30 (pc' := 32) rfl rfl ?_
      refine s_iconst C d5_32 (pc' := 33) rfl (1 : Int32) rfl ?_
      refine s_iadd C d5_33 (pc' := 34) rfl ?_
      refine s_foldI C (y := (2 : Int32)) (by decide) ?_
      refine s_istoreNP C d5_34 (pc' := 35) rfl #[.val (.ref o), .val (.int x1), .val (.int (2 : Int32)), .val (.int (2 : Int32)), .val (.int (1 : Int32))] rfl ?_
      refine s_goto C d5_35 (pc' := 41) rfl ?_
      refine s_goto C d5_41 (pc' := 7) rfl ?_
      refine s_iloadN C d5_7 (pc' := 8) rfl rfl ?_
      refine s_iloadN C d5_8 (pc' := 9) rfl rfl ?_
      refine s_icmp_ge C d5_9 (pc' := 12) rfl (pcY := 44) rfl (fun c9 => ?_) (fun hc => by exfalso; revert hc; decide)
      refine s_iloadN C d5_44 (pc' := 45) rfl rfl ?_
      exact s_retI C d5_45 (by decide) (by decide) (by have e : f_ix4 e0 e1 e2 e3 x1 = (2 : Int32) := (by unfold f_ix4; rw [if_neg c2, if_pos c4]); exact ⟨e.symm, rfl⟩)
  · skip
    refine s_iload C d5_30 (pc' := 32) rfl rfl ?_
    refine s_iconst C d5_32 (pc' := 33) rfl (1 : Int32) rfl ?_
    refine s_iadd C d5_33 (pc' := 34) rfl ?_
    refine s_foldI C (y := (3 : Int32)) (by decide) ?_
    refine s_istoreNP C d5_34 (pc' := 35) rfl #[.val (.ref o), .val (.int x1), .val (.int (3 : Int32)), .val (.int (4 : Int32)), .val (.int (2 : Int32))] rfl ?_
    refine s_goto C d5_35 (pc' := 41) rfl ?_
    refine s_goto C d5_41 (pc' := 7) rfl ?_
    refine s_iloadN C d5_7 (pc' := 8) rfl rfl ?_
    refine s_iloadN C d5_8 (pc' := 9) rfl rfl ?_
    refine s_icmp_ge C d5_9 (pc' := 12) rfl (pcY := 44) rfl (fun hc => by exfalso; revert hc; decide) (fun c10 => ?_)
    refine s_iloadN C d5_12 (pc' := 13) rfl rfl ?_
    refine s_iloadN C d5_13 (pc' := 14) rfl rfl ?_
    refine s_iadd C d5_14 (pc' := 15) rfl ?_
    refine s_foldI C (y := (7 : Int32)) (by decide) ?_
    refine s_iconst C d5_15 (pc' := 16) rfl (1 : Int32) rfl ?_
    refine s_iushr C d5_16 (pc' := 17) rfl ?_
    refine s_foldI C (y := (3 : Int32)) (by decide) ?_
    refine s_istoreP C d5_17 (pc' := 19) rfl #[.val (.ref o), .val (.int x1), .val (.int (3 : Int32)), .val (.int (4 : Int32)), .val (.int (3 : Int32))] rfl ?_
    refine s_aloadN C d5_19 (pc' := 20) rfl rfl rfl ?_
    refine s_getF C d5_20 (pc' := 23) rfl (w11 hw) F_e ?_
    refine s_iload C d5_23 (pc' := 25) rfl rfl ?_
    refine s_iaload C d5_25 (pc' := 26) rfl V_a 3 (by decide) rfl ?_
    refine s_iloadN C d5_26 (pc' := 27) rfl rfl ?_
    refine s_icmp_ge C d5_27 (pc' := 30) rfl (pcY := 38) rfl (fun c11 => ?_) (fun c11 => ?_)
    · skip
      refine s_iload C d5_38 (pc' := 40) rfl rfl ?_
      refine s_istoreNP C d5_40 (pc' := 41) rfl #[.val (.ref o), .val (.int x1), .val (.int (3 : Int32)), .val (.int (3 : Int32)), .val (.int (3 : Int32))] rfl ?_
      refine s_goto C d5_41 (pc' := 7) rfl ?_
      refine s_iloadN C d5_7 (pc' := 8) rfl rfl ?_
      refine s_iloadN C d5_8 (pc' := 9) rfl rfl ?_
      refine s_icmp_ge C d5_9 (pc' := 12) rfl (pcY := 44) rfl (fun c12 => ?_) (fun hc => by exfalso; revert hc; decide)
      refine s_iloadN C d5_44 (pc' := 45) rfl rfl ?_
      exact s_retI C d5_45 (by decide) (by decide) (by have e : f_ix4 e0 e1 e2 e3 x1 = (3 : Int32) := (by unfold f_ix4; rw [if_pos c2, if_neg c11]); exact ⟨e.symm, rfl⟩)
    · skip
      refine s_iload C d5_30 (pc' := 32) rfl rfl ?_
      refine s_iconst C d5_32 (pc' := 33) rfl (1 : Int32) rfl ?_
      refine s_iadd C d5_33 (pc' := 34) rfl ?_
      refine s_foldI C (y := (4 : Int32)) (by decide) ?_
      refine s_istoreNP C d5_34 (pc' := 35) rfl #[.val (.ref o), .val (.int x1), .val (.int (4 : Int32)), .val (.int (4 : Int32)), .val (.int (3 : Int32))] rfl ?_
      refine s_goto C d5_35 (pc' := 41) rfl ?_
      refine s_goto C d5_41 (pc' := 7) rfl ?_
      refine s_iloadN C d5_7 (pc' := 8) rfl rfl ?_
      refine s_iloadN C d5_8 (pc' := 9) rfl rfl ?_
      refine s_icmp_ge C d5_9 (pc' := 12) rfl (pcY := 44) rfl (fun c13 => ?_) (fun hc => by exfalso; revert hc; decide)
      refine s_iloadN C d5_44 (pc' := 45) rfl rfl ?_
      exact s_retI C d5_45 (by decide) (by decide) (by have e : f_ix4 e0 e1 e2 e3 x1 = (4 : Int32) := (by unfold f_ix4; rw [if_pos c2, if_pos c11]); exact ⟨e.symm, rfl⟩)
def f_ix5 (e0 e1 e2 e3 e4 : Int32) (x1 : Int32) : Int32 := if e2 < x1 then (if e4 < x1 then (5 : Int32) else (if e3 < x1 then (4 : Int32) else (3 : Int32))) else (if e1 < x1 then (2 : Int32) else (if e0 < x1 then (1 : Int32) else (0 : Int32)))
set_option maxRecDepth 65536 in
set_option maxHeartbeats 40000000 in
theorem c_ix5 (l : Launch) (Z : State) (a0 : Array Value) (hw : Hw a0 Z) (o : Addr) (e0 e1 e2 e3 e4 : Int32) (x1 : Int32) (h0 : Heap) (n0 : Nat) (Z0 : n0 ≤ h0.size) (a : Addr) (E_o : Exa Z h0 o "com/example/chasm/chasm/chase/IdList") (F_e : Fld Z h0 o "com/example/chasm/chasm/chase/IdList" "ids" "[I" (.ref a)) (F_s : Fld Z h0 o "com/example/chasm/chasm/chase/IdList" "size" "I" (.int 5)) (V_a : Av Z h0 a .int [(.int e0), (.int e1), (.int e2), (.int e3), (.int e4), (.int (0 : Int32)), (.int (0 : Int32)), (.int (0 : Int32))]) :
    Met l Z (⟨"com/example/chasm/chasm/chase/IdList", "indexOf", "(I)I"⟩ : MethodName) prog_24_method_7_code 5 (some .int) [] ({ frames := 0, cells := 0, slots := 0, locals := 0 } : Room) #[(.ref o), (.int x1)] h0 n0 (RetI (fun z h => z = f_ix5 e0 e1 e2 e3 e4 x1 ∧ h0 = h)) := by
  refine Met.intro pn5 (own := "com/example/chasm/chasm/chase/IdList") rfl (nm := "indexOf") rfl (fun m => ef5 m o x1) ?_
  intro p e s m below meth c C
  refine s_iconst C d5_0 (pc' := 1) rfl (0 : Int32) rfl ?_
  refine s_istoreNP C d5_1 (pc' := 2) rfl #[.val (.ref o), .val (.int x1), .val (.int (0 : Int32)), .unset, .unset] rfl ?_
  refine s_aloadN C d5_2 (pc' := 3) rfl rfl rfl ?_
  refine s_getF C d5_3 (pc' := 6) rfl (w18 hw) F_s ?_
  refine s_istoreNP C d5_6 (pc' := 7) rfl #[.val (.ref o), .val (.int x1), .val (.int (0 : Int32)), .val (.int (5 : Int32)), .unset] rfl ?_
  refine s_iloadN C d5_7 (pc' := 8) rfl rfl ?_
  refine s_iloadN C d5_8 (pc' := 9) rfl rfl ?_
  refine s_icmp_ge C d5_9 (pc' := 12) rfl (pcY := 44) rfl (fun hc => by exfalso; revert hc; decide) (fun c1 => ?_)
  refine s_iloadN C d5_12 (pc' := 13) rfl rfl ?_
  refine s_iloadN C d5_13 (pc' := 14) rfl rfl ?_
  refine s_iadd C d5_14 (pc' := 15) rfl ?_
  refine s_foldI C (y := (5 : Int32)) (by decide) ?_
  refine s_iconst C d5_15 (pc' := 16) rfl (1 : Int32) rfl ?_
  refine s_iushr C d5_16 (pc' := 17) rfl ?_
  refine s_foldI C (y := (2 : Int32)) (by decide) ?_
  refine s_istoreP C d5_17 (pc' := 19) rfl #[.val (.ref o), .val (.int x1), .val (.int (0 : Int32)), .val (.int (5 : Int32)), .val (.int (2 : Int32))] rfl ?_
  refine s_aloadN C d5_19 (pc' := 20) rfl rfl rfl ?_
  refine s_getF C d5_20 (pc' := 23) rfl (w11 hw) F_e ?_
  refine s_iload C d5_23 (pc' := 25) rfl rfl ?_
  refine s_iaload C d5_25 (pc' := 26) rfl V_a 2 (by decide) rfl ?_
  refine s_iloadN C d5_26 (pc' := 27) rfl rfl ?_
  refine s_icmp_ge C d5_27 (pc' := 30) rfl (pcY := 38) rfl (fun c2 => ?_) (fun c2 => ?_)
  · skip
    refine s_iload C d5_38 (pc' := 40) rfl rfl ?_
    refine s_istoreNP C d5_40 (pc' := 41) rfl #[.val (.ref o), .val (.int x1), .val (.int (0 : Int32)), .val (.int (2 : Int32)), .val (.int (2 : Int32))] rfl ?_
    refine s_goto C d5_41 (pc' := 7) rfl ?_
    refine s_iloadN C d5_7 (pc' := 8) rfl rfl ?_
    refine s_iloadN C d5_8 (pc' := 9) rfl rfl ?_
    refine s_icmp_ge C d5_9 (pc' := 12) rfl (pcY := 44) rfl (fun hc => by exfalso; revert hc; decide) (fun c3 => ?_)
    refine s_iloadN C d5_12 (pc' := 13) rfl rfl ?_
    refine s_iloadN C d5_13 (pc' := 14) rfl rfl ?_
    refine s_iadd C d5_14 (pc' := 15) rfl ?_
    refine s_foldI C (y := (2 : Int32)) (by decide) ?_
    refine s_iconst C d5_15 (pc' := 16) rfl (1 : Int32) rfl ?_
    refine s_iushr C d5_16 (pc' := 17) rfl ?_
    refine s_foldI C (y := (1 : Int32)) (by decide) ?_
    refine s_istoreP C d5_17 (pc' := 19) rfl #[.val (.ref o), .val (.int x1), .val (.int (0 : Int32)), .val (.int (2 : Int32)), .val (.int (1 : Int32))] rfl ?_
    refine s_aloadN C d5_19 (pc' := 20) rfl rfl rfl ?_
    refine s_getF C d5_20 (pc' := 23) rfl (w11 hw) F_e ?_
    refine s_iload C d5_23 (pc' := 25) rfl rfl ?_
    refine s_iaload C d5_25 (pc' := 26) rfl V_a 1 (by decide) rfl ?_
    refine s_iloadN C d5_26 (pc' := 27) rfl rfl ?_
    refine s_icmp_ge C d5_27 (pc' := 30) rfl (pcY := 38) rfl (fun c4 => ?_) (fun c4 => ?_)
    · skip
      refine s_iload C d5_38 (pc' := 40) rfl rfl ?_
      refine s_istoreNP C d5_40 (pc' := 41) rfl #[.val (.ref o), .val (.int x1), .val (.int (0 : Int32)), .val (.int (1 : Int32)), .val (.int (1 : Int32))] rfl ?_
      refine s_goto C d5_41 (pc' := 7) rfl ?_
      refine s_iloadN C d5_7 (pc' := 8) rfl rfl ?_
      refine s_iloadN C d5_8 (pc' := 9) rfl rfl ?_
      refine s_icmp_ge C d5_9 (pc' := 12) rfl (pcY := 44) rfl (fun hc => by exfalso; revert hc; decide) (fun c5 => ?_)
      refine s_iloadN C d5_12 (pc' := 13) rfl rfl ?_
      refine s_iloadN C d5_13 (pc' := 14) rfl rfl ?_
      refine s_iadd C d5_14 (pc' := 15) rfl ?_
      refine s_foldI C (y := (1 : Int32)) (by decide) ?_
      refine s_iconst C d5_15 (pc' := 16) rfl (1 : Int32) rfl ?_
      refine s_iushr C d5_16 (pc' := 17) rfl ?_
      refine s_foldI C (y := (0 : Int32)) (by decide) ?_
      refine s_istoreP C d5_17 (pc' := 19) rfl #[.val (.ref o), .val (.int x1), .val (.int (0 : Int32)), .val (.int (1 : Int32)), .val (.int (0 : Int32))] rfl ?_
      refine s_aloadN C d5_19 (pc' := 20) rfl rfl rfl ?_
      refine s_getF C d5_20 (pc' := 23) rfl (w11 hw) F_e ?_
      refine s_iload C d5_23 (pc' := 25) rfl rfl ?_
      refine s_iaload C d5_25 (pc' := 26) rfl V_a 0 (by decide) rfl ?_
      refine s_iloadN C d5_26 (pc' := 27) rfl rfl ?_
      refine s_icmp_ge C d5_27 (pc' := 30) rfl (pcY := 38) rfl (fun c6 => ?_) (fun c6 => ?_)
      · skip
        refine s_iload C d5_38 (pc' := 40) rfl rfl ?_
        refine s_istoreNP C d5_40 (pc' := 41) rfl #[.val (.ref o), .val (.int x1), .val (.int (0 : Int32)), .val (.int (0 : Int32)), .val (.int (0 : Int32))] rfl ?_
        refine s_goto C d5_41 (pc' := 7) rfl ?_
        refine s_iloadN C d5_7 (pc' := 8) rfl rfl ?_
        refine s_iloadN C d5_8 (pc' := 9) rfl rfl ?_
        refine s_icmp_ge C d5_9 (pc' := 12) rfl (pcY := 44) rfl (fun c7 => ?_) (fun hc => by exfalso; revert hc; decide)
        refine s_iloadN C d5_44 (pc' := 45) rfl rfl ?_
        exact s_retI C d5_45 (by decide) (by decide) (by have e : f_ix5 e0 e1 e2 e3 e4 x1 = (0 : Int32) := (by unfold f_ix5; rw [if_neg c2, if_neg c4, if_neg c6]); exact ⟨e.symm, rfl⟩)
      · skip
        refine s_iload C d5_30 (pc' := 32) rfl rfl ?_
        refine s_iconst C d5_32 (pc' := 33) rfl (1 : Int32) rfl ?_
        refine s_iadd C d5_33 (pc' := 34) rfl ?_
        refine s_foldI C (y := (1 : Int32)) (by decide) ?_
        refine s_istoreNP C d5_34 (pc' := 35) rfl #[.val (.ref o), .val (.int x1), .val (.int (1 : Int32)), .val (.int (1 : Int32)), .val (.int (0 : Int32))] rfl ?_
        refine s_goto C d5_35 (pc' := 41) rfl ?_
        refine s_goto C d5_41 (pc' := 7) rfl ?_
        refine s_iloadN C d5_7 (pc' := 8) rfl rfl ?_
        refine s_iloadN C d5_8 (pc' := 9) rfl rfl ?_
        refine s_icmp_ge C d5_9 (pc' := 12) rfl (pcY := 44) rfl (fun c8 => ?_) (fun hc => by exfalso; revert hc; decide)
        refine s_iloadN C d5_44 (pc' := 45) rfl rfl ?_
        exact s_retI C d5_45 (by decide) (by decide) (by have e : f_ix5 e0 e1 e2 e3 e4 x1 = (1 : Int32) := (by unfold f_ix5; rw [if_neg c2, if_neg c4, if_pos c6]); exact ⟨e.symm, rfl⟩)
    · skip
      refine s_iload C d5_30 (pc' := 32) rfl rfl ?_
      refine s_iconst C d5_32 (pc' := 33) rfl (1 : Int32) rfl ?_
      refine s_iadd C d5_33 (pc' := 34) rfl ?_
      refine s_foldI C (y := (2 : Int32)) (by decide) ?_
      refine s_istoreNP C d5_34 (pc' := 35) rfl #[.val (.ref o), .val (.int x1), .val (.int (2 : Int32)), .val (.int (2 : Int32)), .val (.int (1 : Int32))] rfl ?_
      refine s_goto C d5_35 (pc' := 41) rfl ?_
      refine s_goto C d5_41 (pc' := 7) rfl ?_
      refine s_iloadN C d5_7 (pc' := 8) rfl rfl ?_
      refine s_iloadN C d5_8 (pc' := 9) rfl rfl ?_
      refine s_icmp_ge C d5_9 (pc' := 12) rfl (pcY := 44) rfl (fun c9 => ?_) (fun hc => by exfalso; revert hc; decide)
      refine s_iloadN C d5_44 (pc' := 45) rfl rfl ?_
      exact s_retI C d5_45 (by decide) (by decide) (by have e : f_ix5 e0 e1 e2 e3 e4 x1 = (2 : Int32) := (by unfold f_ix5; rw [if_neg c2, if_pos c4]); exact ⟨e.symm, rfl⟩)
  · skip
    refine s_iload C d5_30 (pc' := 32) rfl rfl ?_
    refine s_iconst C d5_32 (pc' := 33) rfl (1 : Int32) rfl ?_
    refine s_iadd C d5_33 (pc' := 34) rfl ?_
    refine s_foldI C (y := (3 : Int32)) (by decide) ?_
    refine s_istoreNP C d5_34 (pc' := 35) rfl #[.val (.ref o), .val (.int x1), .val (.int (3 : Int32)), .val (.int (5 : Int32)), .val (.int (2 : Int32))] rfl ?_
    refine s_goto C d5_35 (pc' := 41) rfl ?_
    refine s_goto C d5_41 (pc' := 7) rfl ?_
    refine s_iloadN C d5_7 (pc' := 8) rfl rfl ?_
    refine s_iloadN C d5_8 (pc' := 9) rfl rfl ?_
    refine s_icmp_ge C d5_9 (pc' := 12) rfl (pcY := 44) rfl (fun hc => by exfalso; revert hc; decide) (fun c10 => ?_)
    refine s_iloadN C d5_12 (pc' := 13) rfl rfl ?_
    refine s_iloadN C d5_13 (pc' := 14) rfl rfl ?_
    refine s_iadd C d5_14 (pc' := 15) rfl ?_
    refine s_foldI C (y := (8 : Int32)) (by decide) ?_
    refine s_iconst C d5_15 (pc' := 16) rfl (1 : Int32) rfl ?_
    refine s_iushr C d5_16 (pc' := 17) rfl ?_
    refine s_foldI C (y := (4 : Int32)) (by decide) ?_
    refine s_istoreP C d5_17 (pc' := 19) rfl #[.val (.ref o), .val (.int x1), .val (.int (3 : Int32)), .val (.int (5 : Int32)), .val (.int (4 : Int32))] rfl ?_
    refine s_aloadN C d5_19 (pc' := 20) rfl rfl rfl ?_
    refine s_getF C d5_20 (pc' := 23) rfl (w11 hw) F_e ?_
    refine s_iload C d5_23 (pc' := 25) rfl rfl ?_
    refine s_iaload C d5_25 (pc' := 26) rfl V_a 4 (by decide) rfl ?_
    refine s_iloadN C d5_26 (pc' := 27) rfl rfl ?_
    refine s_icmp_ge C d5_27 (pc' := 30) rfl (pcY := 38) rfl (fun c11 => ?_) (fun c11 => ?_)
    · skip
      refine s_iload C d5_38 (pc' := 40) rfl rfl ?_
      refine s_istoreNP C d5_40 (pc' := 41) rfl #[.val (.ref o), .val (.int x1), .val (.int (3 : Int32)), .val (.int (4 : Int32)), .val (.int (4 : Int32))] rfl ?_
      refine s_goto C d5_41 (pc' := 7) rfl ?_
      refine s_iloadN C d5_7 (pc' := 8) rfl rfl ?_
      refine s_iloadN C d5_8 (pc' := 9) rfl rfl ?_
      refine s_icmp_ge C d5_9 (pc' := 12) rfl (pcY := 44) rfl (fun hc => by exfalso; revert hc; decide) (fun c12 => ?_)
      refine s_iloadN C d5_12 (pc' := 13) rfl rfl ?_
      refine s_iloadN C d5_13 (pc' := 14) rfl rfl ?_
      refine s_iadd C d5_14 (pc' := 15) rfl ?_
      refine s_foldI C (y := (7 : Int32)) (by decide) ?_
      refine s_iconst C d5_15 (pc' := 16) rfl (1 : Int32) rfl ?_
      refine s_iushr C d5_16 (pc' := 17) rfl ?_
      refine s_foldI C (y := (3 : Int32)) (by decide) ?_
      refine s_istoreP C d5_17 (pc' := 19) rfl #[.val (.ref o), .val (.int x1), .val (.int (3 : Int32)), .val (.int (4 : Int32)), .val (.int (3 : Int32))] rfl ?_
      refine s_aloadN C d5_19 (pc' := 20) rfl rfl rfl ?_
      refine s_getF C d5_20 (pc' := 23) rfl (w11 hw) F_e ?_
      refine s_iload C d5_23 (pc' := 25) rfl rfl ?_
      refine s_iaload C d5_25 (pc' := 26) rfl V_a 3 (by decide) rfl ?_
      refine s_iloadN C d5_26 (pc' := 27) rfl rfl ?_
      refine s_icmp_ge C d5_27 (pc' := 30) rfl (pcY := 38) rfl (fun c13 => ?_) (fun c13 => ?_)
      · skip
        refine s_iload C d5_38 (pc' := 40) rfl rfl ?_
        refine s_istoreNP C d5_40 (pc' := 41) rfl #[.val (.ref o), .val (.int x1), .val (.int (3 : Int32)), .val (.int (3 : Int32)), .val (.int (3 : Int32))] rfl ?_
        refine s_goto C d5_41 (pc' := 7) rfl ?_
        refine s_iloadN C d5_7 (pc' := 8) rfl rfl ?_
        refine s_iloadN C d5_8 (pc' := 9) rfl rfl ?_
        refine s_icmp_ge C d5_9 (pc' := 12) rfl (pcY := 44) rfl (fun c14 => ?_) (fun hc => by exfalso; revert hc; decide)
        refine s_iloadN C d5_44 (pc' := 45) rfl rfl ?_
        exact s_retI C d5_45 (by decide) (by decide) (by have e : f_ix5 e0 e1 e2 e3 e4 x1 = (3 : Int32) := (by unfold f_ix5; rw [if_pos c2, if_neg c11, if_neg c13]); exact ⟨e.symm, rfl⟩)
      · skip
        refine s_iload C d5_30 (pc' := 32) rfl rfl ?_
        refine s_iconst C d5_32 (pc' := 33) rfl (1 : Int32) rfl ?_
        refine s_iadd C d5_33 (pc' := 34) rfl ?_
        refine s_foldI C (y := (4 : Int32)) (by decide) ?_
        refine s_istoreNP C d5_34 (pc' := 35) rfl #[.val (.ref o), .val (.int x1), .val (.int (4 : Int32)), .val (.int (4 : Int32)), .val (.int (3 : Int32))] rfl ?_
        refine s_goto C d5_35 (pc' := 41) rfl ?_
        refine s_goto C d5_41 (pc' := 7) rfl ?_
        refine s_iloadN C d5_7 (pc' := 8) rfl rfl ?_
        refine s_iloadN C d5_8 (pc' := 9) rfl rfl ?_
        refine s_icmp_ge C d5_9 (pc' := 12) rfl (pcY := 44) rfl (fun c15 => ?_) (fun hc => by exfalso; revert hc; decide)
        refine s_iloadN C d5_44 (pc' := 45) rfl rfl ?_
        exact s_retI C d5_45 (by decide) (by decide) (by have e : f_ix5 e0 e1 e2 e3 e4 x1 = (4 : Int32) := (by unfold f_ix5; rw [if_pos c2, if_neg c11, if_pos c13]); exact ⟨e.symm, rfl⟩)
    · skip
      refine s_iload C d5_30 (pc' := 32) rfl rfl ?_
      refine s_iconst C d5_32 (pc' := 33) rfl (1 : Int32) rfl ?_
      refine s_iadd C d5_33 (pc' := 34) rfl ?_
      refine s_foldI C (y := (5 : Int32)) (by decide) ?_
      refine s_istoreNP C d5_34 (pc' := 35) rfl #[.val (.ref o), .val (.int x1), .val (.int (5 : Int32)), .val (.int (5 : Int32)), .val (.int (4 : Int32))] rfl ?_
      refine s_goto C d5_35 (pc' := 41) rfl ?_
      refine s_goto C d5_41 (pc' := 7) rfl ?_
      refine s_iloadN C d5_7 (pc' := 8) rfl rfl ?_
      refine s_iloadN C d5_8 (pc' := 9) rfl rfl ?_
      refine s_icmp_ge C d5_9 (pc' := 12) rfl (pcY := 44) rfl (fun c16 => ?_) (fun hc => by exfalso; revert hc; decide)
      refine s_iloadN C d5_44 (pc' := 45) rfl rfl ?_
      exact s_retI C d5_45 (by decide) (by decide) (by have e : f_ix5 e0 e1 e2 e3 e4 x1 = (5 : Int32) := (by unfold f_ix5; rw [if_pos c2, if_pos c11]); exact ⟨e.symm, rfl⟩)
def f_ix6 (e0 e1 e2 e3 e4 e5 : Int32) (x1 : Int32) : Int32 := if e3 < x1 then (if e5 < x1 then (6 : Int32) else (if e4 < x1 then (5 : Int32) else (4 : Int32))) else (if e1 < x1 then (if e2 < x1 then (3 : Int32) else (2 : Int32)) else (if e0 < x1 then (1 : Int32) else (0 : Int32)))
set_option maxRecDepth 65536 in
set_option maxHeartbeats 40000000 in
theorem c_ix6 (l : Launch) (Z : State) (a0 : Array Value) (hw : Hw a0 Z) (o : Addr) (e0 e1 e2 e3 e4 e5 : Int32) (x1 : Int32) (h0 : Heap) (n0 : Nat) (Z0 : n0 ≤ h0.size) (a : Addr) (E_o : Exa Z h0 o "com/example/chasm/chasm/chase/IdList") (F_e : Fld Z h0 o "com/example/chasm/chasm/chase/IdList" "ids" "[I" (.ref a)) (F_s : Fld Z h0 o "com/example/chasm/chasm/chase/IdList" "size" "I" (.int 6)) (V_a : Av Z h0 a .int [(.int e0), (.int e1), (.int e2), (.int e3), (.int e4), (.int e5), (.int (0 : Int32)), (.int (0 : Int32))]) :
    Met l Z (⟨"com/example/chasm/chasm/chase/IdList", "indexOf", "(I)I"⟩ : MethodName) prog_24_method_7_code 5 (some .int) [] ({ frames := 0, cells := 0, slots := 0, locals := 0 } : Room) #[(.ref o), (.int x1)] h0 n0 (RetI (fun z h => z = f_ix6 e0 e1 e2 e3 e4 e5 x1 ∧ h0 = h)) := by
  refine Met.intro pn5 (own := "com/example/chasm/chasm/chase/IdList") rfl (nm := "indexOf") rfl (fun m => ef5 m o x1) ?_
  intro p e s m below meth c C
  refine s_iconst C d5_0 (pc' := 1) rfl (0 : Int32) rfl ?_
  refine s_istoreNP C d5_1 (pc' := 2) rfl #[.val (.ref o), .val (.int x1), .val (.int (0 : Int32)), .unset, .unset] rfl ?_
  refine s_aloadN C d5_2 (pc' := 3) rfl rfl rfl ?_
  refine s_getF C d5_3 (pc' := 6) rfl (w18 hw) F_s ?_
  refine s_istoreNP C d5_6 (pc' := 7) rfl #[.val (.ref o), .val (.int x1), .val (.int (0 : Int32)), .val (.int (6 : Int32)), .unset] rfl ?_
  refine s_iloadN C d5_7 (pc' := 8) rfl rfl ?_
  refine s_iloadN C d5_8 (pc' := 9) rfl rfl ?_
  refine s_icmp_ge C d5_9 (pc' := 12) rfl (pcY := 44) rfl (fun hc => by exfalso; revert hc; decide) (fun c1 => ?_)
  refine s_iloadN C d5_12 (pc' := 13) rfl rfl ?_
  refine s_iloadN C d5_13 (pc' := 14) rfl rfl ?_
  refine s_iadd C d5_14 (pc' := 15) rfl ?_
  refine s_foldI C (y := (6 : Int32)) (by decide) ?_
  refine s_iconst C d5_15 (pc' := 16) rfl (1 : Int32) rfl ?_
  refine s_iushr C d5_16 (pc' := 17) rfl ?_
  refine s_foldI C (y := (3 : Int32)) (by decide) ?_
  refine s_istoreP C d5_17 (pc' := 19) rfl #[.val (.ref o), .val (.int x1), .val (.int (0 : Int32)), .val (.int (6 : Int32)), .val (.int (3 : Int32))] rfl ?_
  refine s_aloadN C d5_19 (pc' := 20) rfl rfl rfl ?_
  refine s_getF C d5_20 (pc' := 23) rfl (w11 hw) F_e ?_
  refine s_iload C d5_23 (pc' := 25) rfl rfl ?_
  refine s_iaload C d5_25 (pc' := 26) rfl V_a 3 (by decide) rfl ?_
  refine s_iloadN C d5_26 (pc' := 27) rfl rfl ?_
  refine s_icmp_ge C d5_27 (pc' := 30) rfl (pcY := 38) rfl (fun c2 => ?_) (fun c2 => ?_)
  · skip
    refine s_iload C d5_38 (pc' := 40) rfl rfl ?_
    refine s_istoreNP C d5_40 (pc' := 41) rfl #[.val (.ref o), .val (.int x1), .val (.int (0 : Int32)), .val (.int (3 : Int32)), .val (.int (3 : Int32))] rfl ?_
    refine s_goto C d5_41 (pc' := 7) rfl ?_
    refine s_iloadN C d5_7 (pc' := 8) rfl rfl ?_
    refine s_iloadN C d5_8 (pc' := 9) rfl rfl ?_
    refine s_icmp_ge C d5_9 (pc' := 12) rfl (pcY := 44) rfl (fun hc => by exfalso; revert hc; decide) (fun c3 => ?_)
    refine s_iloadN C d5_12 (pc' := 13) rfl rfl ?_
    refine s_iloadN C d5_13 (pc' := 14) rfl rfl ?_
    refine s_iadd C d5_14 (pc' := 15) rfl ?_
    refine s_foldI C (y := (3 : Int32)) (by decide) ?_
    refine s_iconst C d5_15 (pc' := 16) rfl (1 : Int32) rfl ?_
    refine s_iushr C d5_16 (pc' := 17) rfl ?_
    refine s_foldI C (y := (1 : Int32)) (by decide) ?_
    refine s_istoreP C d5_17 (pc' := 19) rfl #[.val (.ref o), .val (.int x1), .val (.int (0 : Int32)), .val (.int (3 : Int32)), .val (.int (1 : Int32))] rfl ?_
    refine s_aloadN C d5_19 (pc' := 20) rfl rfl rfl ?_
    refine s_getF C d5_20 (pc' := 23) rfl (w11 hw) F_e ?_
    refine s_iload C d5_23 (pc' := 25) rfl rfl ?_
    refine s_iaload C d5_25 (pc' := 26) rfl V_a 1 (by decide) rfl ?_
    refine s_iloadN C d5_26 (pc' := 27) rfl rfl ?_
    refine s_icmp_ge C d5_27 (pc' := 30) rfl (pcY := 38) rfl (fun c4 => ?_) (fun c4 => ?_)
    · skip
      refine s_iload C d5_38 (pc' := 40) rfl rfl ?_
      refine s_istoreNP C d5_40 (pc' := 41) rfl #[.val (.ref o), .val (.int x1), .val (.int (0 : Int32)), .val (.int (1 : Int32)), .val (.int (1 : Int32))] rfl ?_
      refine s_goto C d5_41 (pc' := 7) rfl ?_
      refine s_iloadN C d5_7 (pc' := 8) rfl rfl ?_
      refine s_iloadN C d5_8 (pc' := 9) rfl rfl ?_
      refine s_icmp_ge C d5_9 (pc' := 12) rfl (pcY := 44) rfl (fun hc => by exfalso; revert hc; decide) (fun c5 => ?_)
      refine s_iloadN C d5_12 (pc' := 13) rfl rfl ?_
      refine s_iloadN C d5_13 (pc' := 14) rfl rfl ?_
      refine s_iadd C d5_14 (pc' := 15) rfl ?_
      refine s_foldI C (y := (1 : Int32)) (by decide) ?_
      refine s_iconst C d5_15 (pc' := 16) rfl (1 : Int32) rfl ?_
      refine s_iushr C d5_16 (pc' := 17) rfl ?_
      refine s_foldI C (y := (0 : Int32)) (by decide) ?_
      refine s_istoreP C d5_17 (pc' := 19) rfl #[.val (.ref o), .val (.int x1), .val (.int (0 : Int32)), .val (.int (1 : Int32)), .val (.int (0 : Int32))] rfl ?_
      refine s_aloadN C d5_19 (pc' := 20) rfl rfl rfl ?_
      refine s_getF C d5_20 (pc' := 23) rfl (w11 hw) F_e ?_
      refine s_iload C d5_23 (pc' := 25) rfl rfl ?_
      refine s_iaload C d5_25 (pc' := 26) rfl V_a 0 (by decide) rfl ?_
      refine s_iloadN C d5_26 (pc' := 27) rfl rfl ?_
      refine s_icmp_ge C d5_27 (pc' := 30) rfl (pcY := 38) rfl (fun c6 => ?_) (fun c6 => ?_)
      · skip
        refine s_iload C d5_38 (pc' := 40) rfl rfl ?_
        refine s_istoreNP C d5_40 (pc' := 41) rfl #[.val (.ref o), .val (.int x1), .val (.int (0 : Int32)), .val (.int (0 : Int32)), .val (.int (0 : Int32))] rfl ?_
        refine s_goto C d5_41 (pc' := 7) rfl ?_
        refine s_iloadN C d5_7 (pc' := 8) rfl rfl ?_
        refine s_iloadN C d5_8 (pc' := 9) rfl rfl ?_
        refine s_icmp_ge C d5_9 (pc' := 12) rfl (pcY := 44) rfl (fun c7 => ?_) (fun hc => by exfalso; revert hc; decide)
        refine s_iloadN C d5_44 (pc' := 45) rfl rfl ?_
        exact s_retI C d5_45 (by decide) (by decide) (by have e : f_ix6 e0 e1 e2 e3 e4 e5 x1 = (0 : Int32) := (by unfold f_ix6; rw [if_neg c2, if_neg c4, if_neg c6]); exact ⟨e.symm, rfl⟩)
      · skip
        refine s_iload C d5_30 (pc' := 32) rfl rfl ?_
        refine s_iconst C d5_32 (pc' := 33) rfl (1 : Int32) rfl ?_
        refine s_iadd C d5_33 (pc' := 34) rfl ?_
        refine s_foldI C (y := (1 : Int32)) (by decide) ?_
        refine s_istoreNP C d5_34 (pc' := 35) rfl #[.val (.ref o), .val (.int x1), .val (.int (1 : Int32)), .val (.int (1 : Int32)), .val (.int (0 : Int32))] rfl ?_
        refine s_goto C d5_35 (pc' := 41) rfl ?_
        refine s_goto C d5_41 (pc' := 7) rfl ?_
        refine s_iloadN C d5_7 (pc' := 8) rfl rfl ?_
        refine s_iloadN C d5_8 (pc' := 9) rfl rfl ?_
        refine s_icmp_ge C d5_9 (pc' := 12) rfl (pcY := 44) rfl (fun c8 => ?_) (fun hc => by exfalso; revert hc; decide)
        refine s_iloadN C d5_44 (pc' := 45) rfl rfl ?_
        exact s_retI C d5_45 (by decide) (by decide) (by have e : f_ix6 e0 e1 e2 e3 e4 e5 x1 = (1 : Int32) := (by unfold f_ix6; rw [if_neg c2, if_neg c4, if_pos c6]); exact ⟨e.symm, rfl⟩)
    · skip
      refine s_iload C d5_30 (pc' := 32) rfl rfl ?_
      refine s_iconst C d5_32 (pc' := 33) rfl (1 : Int32) rfl ?_
      refine s_iadd C d5_33 (pc' := 34) rfl ?_
      refine s_foldI C (y := (2 : Int32)) (by decide) ?_
      refine s_istoreNP C d5_34 (pc' := 35) rfl #[.val (.ref o), .val (.int x1), .val (.int (2 : Int32)), .val (.int (3 : Int32)), .val (.int (1 : Int32))] rfl ?_
      refine s_goto C d5_35 (pc' := 41) rfl ?_
      refine s_goto C d5_41 (pc' := 7) rfl ?_
      refine s_iloadN C d5_7 (pc' := 8) rfl rfl ?_
      refine s_iloadN C d5_8 (pc' := 9) rfl rfl ?_
      refine s_icmp_ge C d5_9 (pc' := 12) rfl (pcY := 44) rfl (fun hc => by exfalso; revert hc; decide) (fun c9 => ?_)
      refine s_iloadN C d5_12 (pc' := 13) rfl rfl ?_
      refine s_iloadN C d5_13 (pc' := 14) rfl rfl ?_
      refine s_iadd C d5_14 (pc' := 15) rfl ?_
      refine s_foldI C (y := (5 : Int32)) (by decide) ?_
      refine s_iconst C d5_15 (pc' := 16) rfl (1 : Int32) rfl ?_
      refine s_iushr C d5_16 (pc' := 17) rfl ?_
      refine s_foldI C (y := (2 : Int32)) (by decide) ?_
      refine s_istoreP C d5_17 (pc' := 19) rfl #[.val (.ref o), .val (.int x1), .val (.int (2 : Int32)), .val (.int (3 : Int32)), .val (.int (2 : Int32))] rfl ?_
      refine s_aloadN C d5_19 (pc' := 20) rfl rfl rfl ?_
      refine s_getF C d5_20 (pc' := 23) rfl (w11 hw) F_e ?_
      refine s_iload C d5_23 (pc' := 25) rfl rfl ?_
      refine s_iaload C d5_25 (pc' := 26) rfl V_a 2 (by decide) rfl ?_
      refine s_iloadN C d5_26 (pc' := 27) rfl rfl ?_
      refine s_icmp_ge C d5_27 (pc' := 30) rfl (pcY := 38) rfl (fun c10 => ?_) (fun c10 => ?_)
      · skip
        refine s_iload C d5_38 (pc' := 40) rfl rfl ?_
        refine s_istoreNP C d5_40 (pc' := 41) rfl #[.val (.ref o), .val (.int x1), .val (.int (2 : Int32)), .val (.int (2 : Int32)), .val (.int (2 : Int32))] rfl ?_
        refine s_goto C d5_41 (pc' := 7) rfl ?_
        refine s_iloadN C d5_7 (pc' := 8) rfl rfl ?_
        refine s_iloadN C d5_8 (pc' := 9) rfl rfl ?_
        refine s_icmp_ge C d5_9 (pc' := 12) rfl (pcY := 44) rfl (fun c11 => ?_) (fun hc => by exfalso; revert hc; decide)
        refine s_iloadN C d5_44 (pc' := 45) rfl rfl ?_
        exact s_retI C d5_45 (by decide) (by decide) (by have e : f_ix6 e0 e1 e2 e3 e4 e5 x1 = (2 : Int32) := (by unfold f_ix6; rw [if_neg c2, if_pos c4, if_neg c10]); exact ⟨e.symm, rfl⟩)
      · skip
        refine s_iload C d5_30 (pc' := 32) rfl rfl ?_
        refine s_iconst C d5_32 (pc' := 33) rfl (1 : Int32) rfl ?_
        refine s_iadd C d5_33 (pc' := 34) rfl ?_
        refine s_foldI C (y := (3 : Int32)) (by decide) ?_
        refine s_istoreNP C d5_34 (pc' := 35) rfl #[.val (.ref o), .val (.int x1), .val (.int (3 : Int32)), .val (.int (3 : Int32)), .val (.int (2 : Int32))] rfl ?_
        refine s_goto C d5_35 (pc' := 41) rfl ?_
        refine s_goto C d5_41 (pc' := 7) rfl ?_
        refine s_iloadN C d5_7 (pc' := 8) rfl rfl ?_
        refine s_iloadN C d5_8 (pc' := 9) rfl rfl ?_
        refine s_icmp_ge C d5_9 (pc' := 12) rfl (pcY := 44) rfl (fun c12 => ?_) (fun hc => by exfalso; revert hc; decide)
        refine s_iloadN C d5_44 (pc' := 45) rfl rfl ?_
        exact s_retI C d5_45 (by decide) (by decide) (by have e : f_ix6 e0 e1 e2 e3 e4 e5 x1 = (3 : Int32) := (by unfold f_ix6; rw [if_neg c2, if_pos c4, if_pos c10]); exact ⟨e.symm, rfl⟩)
  · skip
    refine s_iload C d5_30 (pc' := 32) rfl rfl ?_
    refine s_iconst C d5_32 (pc' := 33) rfl (1 : Int32) rfl ?_
    refine s_iadd C d5_33 (pc' := 34) rfl ?_
    refine s_foldI C (y := (4 : Int32)) (by decide) ?_
    refine s_istoreNP C d5_34 (pc' := 35) rfl #[.val (.ref o), .val (.int x1), .val (.int (4 : Int32)), .val (.int (6 : Int32)), .val (.int (3 : Int32))] rfl ?_
    refine s_goto C d5_35 (pc' := 41) rfl ?_
    refine s_goto C d5_41 (pc' := 7) rfl ?_
    refine s_iloadN C d5_7 (pc' := 8) rfl rfl ?_
    refine s_iloadN C d5_8 (pc' := 9) rfl rfl ?_
    refine s_icmp_ge C d5_9 (pc' := 12) rfl (pcY := 44) rfl (fun hc => by exfalso; revert hc; decide) (fun c13 => ?_)
    refine s_iloadN C d5_12 (pc' := 13) rfl rfl ?_
    refine s_iloadN C d5_13 (pc' := 14) rfl rfl ?_
    refine s_iadd C d5_14 (pc' := 15) rfl ?_
    refine s_foldI C (y := (10 : Int32)) (by decide) ?_
    refine s_iconst C d5_15 (pc' := 16) rfl (1 : Int32) rfl ?_
    refine s_iushr C d5_16 (pc' := 17) rfl ?_
    refine s_foldI C (y := (5 : Int32)) (by decide) ?_
    refine s_istoreP C d5_17 (pc' := 19) rfl #[.val (.ref o), .val (.int x1), .val (.int (4 : Int32)), .val (.int (6 : Int32)), .val (.int (5 : Int32))] rfl ?_
    refine s_aloadN C d5_19 (pc' := 20) rfl rfl rfl ?_
    refine s_getF C d5_20 (pc' := 23) rfl (w11 hw) F_e ?_
    refine s_iload C d5_23 (pc' := 25) rfl rfl ?_
    refine s_iaload C d5_25 (pc' := 26) rfl V_a 5 (by decide) rfl ?_
    refine s_iloadN C d5_26 (pc' := 27) rfl rfl ?_
    refine s_icmp_ge C d5_27 (pc' := 30) rfl (pcY := 38) rfl (fun c14 => ?_) (fun c14 => ?_)
    · skip
      refine s_iload C d5_38 (pc' := 40) rfl rfl ?_
      refine s_istoreNP C d5_40 (pc' := 41) rfl #[.val (.ref o), .val (.int x1), .val (.int (4 : Int32)), .val (.int (5 : Int32)), .val (.int (5 : Int32))] rfl ?_
      refine s_goto C d5_41 (pc' := 7) rfl ?_
      refine s_iloadN C d5_7 (pc' := 8) rfl rfl ?_
      refine s_iloadN C d5_8 (pc' := 9) rfl rfl ?_
      refine s_icmp_ge C d5_9 (pc' := 12) rfl (pcY := 44) rfl (fun hc => by exfalso; revert hc; decide) (fun c15 => ?_)
      refine s_iloadN C d5_12 (pc' := 13) rfl rfl ?_
      refine s_iloadN C d5_13 (pc' := 14) rfl rfl ?_
      refine s_iadd C d5_14 (pc' := 15) rfl ?_
      refine s_foldI C (y := (9 : Int32)) (by decide) ?_
      refine s_iconst C d5_15 (pc' := 16) rfl (1 : Int32) rfl ?_
      refine s_iushr C d5_16 (pc' := 17) rfl ?_
      refine s_foldI C (y := (4 : Int32)) (by decide) ?_
      refine s_istoreP C d5_17 (pc' := 19) rfl #[.val (.ref o), .val (.int x1), .val (.int (4 : Int32)), .val (.int (5 : Int32)), .val (.int (4 : Int32))] rfl ?_
      refine s_aloadN C d5_19 (pc' := 20) rfl rfl rfl ?_
      refine s_getF C d5_20 (pc' := 23) rfl (w11 hw) F_e ?_
      refine s_iload C d5_23 (pc' := 25) rfl rfl ?_
      refine s_iaload C d5_25 (pc' := 26) rfl V_a 4 (by decide) rfl ?_
      refine s_iloadN C d5_26 (pc' := 27) rfl rfl ?_
      refine s_icmp_ge C d5_27 (pc' := 30) rfl (pcY := 38) rfl (fun c16 => ?_) (fun c16 => ?_)
      · skip
        refine s_iload C d5_38 (pc' := 40) rfl rfl ?_
        refine s_istoreNP C d5_40 (pc' := 41) rfl #[.val (.ref o), .val (.int x1), .val (.int (4 : Int32)), .val (.int (4 : Int32)), .val (.int (4 : Int32))] rfl ?_
        refine s_goto C d5_41 (pc' := 7) rfl ?_
        refine s_iloadN C d5_7 (pc' := 8) rfl rfl ?_
        refine s_iloadN C d5_8 (pc' := 9) rfl rfl ?_
        refine s_icmp_ge C d5_9 (pc' := 12) rfl (pcY := 44) rfl (fun c17 => ?_) (fun hc => by exfalso; revert hc; decide)
        refine s_iloadN C d5_44 (pc' := 45) rfl rfl ?_
        exact s_retI C d5_45 (by decide) (by decide) (by have e : f_ix6 e0 e1 e2 e3 e4 e5 x1 = (4 : Int32) := (by unfold f_ix6; rw [if_pos c2, if_neg c14, if_neg c16]); exact ⟨e.symm, rfl⟩)
      · skip
        refine s_iload C d5_30 (pc' := 32) rfl rfl ?_
        refine s_iconst C d5_32 (pc' := 33) rfl (1 : Int32) rfl ?_
        refine s_iadd C d5_33 (pc' := 34) rfl ?_
        refine s_foldI C (y := (5 : Int32)) (by decide) ?_
        refine s_istoreNP C d5_34 (pc' := 35) rfl #[.val (.ref o), .val (.int x1), .val (.int (5 : Int32)), .val (.int (5 : Int32)), .val (.int (4 : Int32))] rfl ?_
        refine s_goto C d5_35 (pc' := 41) rfl ?_
        refine s_goto C d5_41 (pc' := 7) rfl ?_
        refine s_iloadN C d5_7 (pc' := 8) rfl rfl ?_
        refine s_iloadN C d5_8 (pc' := 9) rfl rfl ?_
        refine s_icmp_ge C d5_9 (pc' := 12) rfl (pcY := 44) rfl (fun c18 => ?_) (fun hc => by exfalso; revert hc; decide)
        refine s_iloadN C d5_44 (pc' := 45) rfl rfl ?_
        exact s_retI C d5_45 (by decide) (by decide) (by have e : f_ix6 e0 e1 e2 e3 e4 e5 x1 = (5 : Int32) := (by unfold f_ix6; rw [if_pos c2, if_neg c14, if_pos c16]); exact ⟨e.symm, rfl⟩)
    · skip
      refine s_iload C d5_30 (pc' := 32) rfl rfl ?_
      refine s_iconst C d5_32 (pc' := 33) rfl (1 : Int32) rfl ?_
      refine s_iadd C d5_33 (pc' := 34) rfl ?_
      refine s_foldI C (y := (6 : Int32)) (by decide) ?_
      refine s_istoreNP C d5_34 (pc' := 35) rfl #[.val (.ref o), .val (.int x1), .val (.int (6 : Int32)), .val (.int (6 : Int32)), .val (.int (5 : Int32))] rfl ?_
      refine s_goto C d5_35 (pc' := 41) rfl ?_
      refine s_goto C d5_41 (pc' := 7) rfl ?_
      refine s_iloadN C d5_7 (pc' := 8) rfl rfl ?_
      refine s_iloadN C d5_8 (pc' := 9) rfl rfl ?_
      refine s_icmp_ge C d5_9 (pc' := 12) rfl (pcY := 44) rfl (fun c19 => ?_) (fun hc => by exfalso; revert hc; decide)
      refine s_iloadN C d5_44 (pc' := 45) rfl rfl ?_
      exact s_retI C d5_45 (by decide) (by decide) (by have e : f_ix6 e0 e1 e2 e3 e4 e5 x1 = (6 : Int32) := (by unfold f_ix6; rw [if_pos c2, if_pos c14]); exact ⟨e.symm, rfl⟩)
def f_ix7 (e0 e1 e2 e3 e4 e5 e6 : Int32) (x1 : Int32) : Int32 := if e3 < x1 then (if e5 < x1 then (if e6 < x1 then (7 : Int32) else (6 : Int32)) else (if e4 < x1 then (5 : Int32) else (4 : Int32))) else (if e1 < x1 then (if e2 < x1 then (3 : Int32) else (2 : Int32)) else (if e0 < x1 then (1 : Int32) else (0 : Int32)))
set_option maxRecDepth 65536 in
set_option maxHeartbeats 40000000 in
theorem c_ix7 (l : Launch) (Z : State) (a0 : Array Value) (hw : Hw a0 Z) (o : Addr) (e0 e1 e2 e3 e4 e5 e6 : Int32) (x1 : Int32) (h0 : Heap) (n0 : Nat) (Z0 : n0 ≤ h0.size) (a : Addr) (E_o : Exa Z h0 o "com/example/chasm/chasm/chase/IdList") (F_e : Fld Z h0 o "com/example/chasm/chasm/chase/IdList" "ids" "[I" (.ref a)) (F_s : Fld Z h0 o "com/example/chasm/chasm/chase/IdList" "size" "I" (.int 7)) (V_a : Av Z h0 a .int [(.int e0), (.int e1), (.int e2), (.int e3), (.int e4), (.int e5), (.int e6), (.int (0 : Int32))]) :
    Met l Z (⟨"com/example/chasm/chasm/chase/IdList", "indexOf", "(I)I"⟩ : MethodName) prog_24_method_7_code 5 (some .int) [] ({ frames := 0, cells := 0, slots := 0, locals := 0 } : Room) #[(.ref o), (.int x1)] h0 n0 (RetI (fun z h => z = f_ix7 e0 e1 e2 e3 e4 e5 e6 x1 ∧ h0 = h)) := by
  refine Met.intro pn5 (own := "com/example/chasm/chasm/chase/IdList") rfl (nm := "indexOf") rfl (fun m => ef5 m o x1) ?_
  intro p e s m below meth c C
  refine s_iconst C d5_0 (pc' := 1) rfl (0 : Int32) rfl ?_
  refine s_istoreNP C d5_1 (pc' := 2) rfl #[.val (.ref o), .val (.int x1), .val (.int (0 : Int32)), .unset, .unset] rfl ?_
  refine s_aloadN C d5_2 (pc' := 3) rfl rfl rfl ?_
  refine s_getF C d5_3 (pc' := 6) rfl (w18 hw) F_s ?_
  refine s_istoreNP C d5_6 (pc' := 7) rfl #[.val (.ref o), .val (.int x1), .val (.int (0 : Int32)), .val (.int (7 : Int32)), .unset] rfl ?_
  refine s_iloadN C d5_7 (pc' := 8) rfl rfl ?_
  refine s_iloadN C d5_8 (pc' := 9) rfl rfl ?_
  refine s_icmp_ge C d5_9 (pc' := 12) rfl (pcY := 44) rfl (fun hc => by exfalso; revert hc; decide) (fun c1 => ?_)
  refine s_iloadN C d5_12 (pc' := 13) rfl rfl ?_
  refine s_iloadN C d5_13 (pc' := 14) rfl rfl ?_
  refine s_iadd C d5_14 (pc' := 15) rfl ?_
  refine s_foldI C (y := (7 : Int32)) (by decide) ?_
  refine s_iconst C d5_15 (pc' := 16) rfl (1 : Int32) rfl ?_
  refine s_iushr C d5_16 (pc' := 17) rfl ?_
  refine s_foldI C (y := (3 : Int32)) (by decide) ?_
  refine s_istoreP C d5_17 (pc' := 19) rfl #[.val (.ref o), .val (.int x1), .val (.int (0 : Int32)), .val (.int (7 : Int32)), .val (.int (3 : Int32))] rfl ?_
  refine s_aloadN C d5_19 (pc' := 20) rfl rfl rfl ?_
  refine s_getF C d5_20 (pc' := 23) rfl (w11 hw) F_e ?_
  refine s_iload C d5_23 (pc' := 25) rfl rfl ?_
  refine s_iaload C d5_25 (pc' := 26) rfl V_a 3 (by decide) rfl ?_
  refine s_iloadN C d5_26 (pc' := 27) rfl rfl ?_
  refine s_icmp_ge C d5_27 (pc' := 30) rfl (pcY := 38) rfl (fun c2 => ?_) (fun c2 => ?_)
  · skip
    refine s_iload C d5_38 (pc' := 40) rfl rfl ?_
    refine s_istoreNP C d5_40 (pc' := 41) rfl #[.val (.ref o), .val (.int x1), .val (.int (0 : Int32)), .val (.int (3 : Int32)), .val (.int (3 : Int32))] rfl ?_
    refine s_goto C d5_41 (pc' := 7) rfl ?_
    refine s_iloadN C d5_7 (pc' := 8) rfl rfl ?_
    refine s_iloadN C d5_8 (pc' := 9) rfl rfl ?_
    refine s_icmp_ge C d5_9 (pc' := 12) rfl (pcY := 44) rfl (fun hc => by exfalso; revert hc; decide) (fun c3 => ?_)
    refine s_iloadN C d5_12 (pc' := 13) rfl rfl ?_
    refine s_iloadN C d5_13 (pc' := 14) rfl rfl ?_
    refine s_iadd C d5_14 (pc' := 15) rfl ?_
    refine s_foldI C (y := (3 : Int32)) (by decide) ?_
    refine s_iconst C d5_15 (pc' := 16) rfl (1 : Int32) rfl ?_
    refine s_iushr C d5_16 (pc' := 17) rfl ?_
    refine s_foldI C (y := (1 : Int32)) (by decide) ?_
    refine s_istoreP C d5_17 (pc' := 19) rfl #[.val (.ref o), .val (.int x1), .val (.int (0 : Int32)), .val (.int (3 : Int32)), .val (.int (1 : Int32))] rfl ?_
    refine s_aloadN C d5_19 (pc' := 20) rfl rfl rfl ?_
    refine s_getF C d5_20 (pc' := 23) rfl (w11 hw) F_e ?_
    refine s_iload C d5_23 (pc' := 25) rfl rfl ?_
    refine s_iaload C d5_25 (pc' := 26) rfl V_a 1 (by decide) rfl ?_
    refine s_iloadN C d5_26 (pc' := 27) rfl rfl ?_
    refine s_icmp_ge C d5_27 (pc' := 30) rfl (pcY := 38) rfl (fun c4 => ?_) (fun c4 => ?_)
    · skip
      refine s_iload C d5_38 (pc' := 40) rfl rfl ?_
      refine s_istoreNP C d5_40 (pc' := 41) rfl #[.val (.ref o), .val (.int x1), .val (.int (0 : Int32)), .val (.int (1 : Int32)), .val (.int (1 : Int32))] rfl ?_
      refine s_goto C d5_41 (pc' := 7) rfl ?_
      refine s_iloadN C d5_7 (pc' := 8) rfl rfl ?_
      refine s_iloadN C d5_8 (pc' := 9) rfl rfl ?_
      refine s_icmp_ge C d5_9 (pc' := 12) rfl (pcY := 44) rfl (fun hc => by exfalso; revert hc; decide) (fun c5 => ?_)
      refine s_iloadN C d5_12 (pc' := 13) rfl rfl ?_
      refine s_iloadN C d5_13 (pc' := 14) rfl rfl ?_
      refine s_iadd C d5_14 (pc' := 15) rfl ?_
      refine s_foldI C (y := (1 : Int32)) (by decide) ?_
      refine s_iconst C d5_15 (pc' := 16) rfl (1 : Int32) rfl ?_
      refine s_iushr C d5_16 (pc' := 17) rfl ?_
      refine s_foldI C (y := (0 : Int32)) (by decide) ?_
      refine s_istoreP C d5_17 (pc' := 19) rfl #[.val (.ref o), .val (.int x1), .val (.int (0 : Int32)), .val (.int (1 : Int32)), .val (.int (0 : Int32))] rfl ?_
      refine s_aloadN C d5_19 (pc' := 20) rfl rfl rfl ?_
      refine s_getF C d5_20 (pc' := 23) rfl (w11 hw) F_e ?_
      refine s_iload C d5_23 (pc' := 25) rfl rfl ?_
      refine s_iaload C d5_25 (pc' := 26) rfl V_a 0 (by decide) rfl ?_
      refine s_iloadN C d5_26 (pc' := 27) rfl rfl ?_
      refine s_icmp_ge C d5_27 (pc' := 30) rfl (pcY := 38) rfl (fun c6 => ?_) (fun c6 => ?_)
      · skip
        refine s_iload C d5_38 (pc' := 40) rfl rfl ?_
        refine s_istoreNP C d5_40 (pc' := 41) rfl #[.val (.ref o), .val (.int x1), .val (.int (0 : Int32)), .val (.int (0 : Int32)), .val (.int (0 : Int32))] rfl ?_
        refine s_goto C d5_41 (pc' := 7) rfl ?_
        refine s_iloadN C d5_7 (pc' := 8) rfl rfl ?_
        refine s_iloadN C d5_8 (pc' := 9) rfl rfl ?_
        refine s_icmp_ge C d5_9 (pc' := 12) rfl (pcY := 44) rfl (fun c7 => ?_) (fun hc => by exfalso; revert hc; decide)
        refine s_iloadN C d5_44 (pc' := 45) rfl rfl ?_
        exact s_retI C d5_45 (by decide) (by decide) (by have e : f_ix7 e0 e1 e2 e3 e4 e5 e6 x1 = (0 : Int32) := (by unfold f_ix7; rw [if_neg c2, if_neg c4, if_neg c6]); exact ⟨e.symm, rfl⟩)
      · skip
        refine s_iload C d5_30 (pc' := 32) rfl rfl ?_
        refine s_iconst C d5_32 (pc' := 33) rfl (1 : Int32) rfl ?_
        refine s_iadd C d5_33 (pc' := 34) rfl ?_
        refine s_foldI C (y := (1 : Int32)) (by decide) ?_
        refine s_istoreNP C d5_34 (pc' := 35) rfl #[.val (.ref o), .val (.int x1), .val (.int (1 : Int32)), .val (.int (1 : Int32)), .val (.int (0 : Int32))] rfl ?_
        refine s_goto C d5_35 (pc' := 41) rfl ?_
        refine s_goto C d5_41 (pc' := 7) rfl ?_
        refine s_iloadN C d5_7 (pc' := 8) rfl rfl ?_
        refine s_iloadN C d5_8 (pc' := 9) rfl rfl ?_
        refine s_icmp_ge C d5_9 (pc' := 12) rfl (pcY := 44) rfl (fun c8 => ?_) (fun hc => by exfalso; revert hc; decide)
        refine s_iloadN C d5_44 (pc' := 45) rfl rfl ?_
        exact s_retI C d5_45 (by decide) (by decide) (by have e : f_ix7 e0 e1 e2 e3 e4 e5 e6 x1 = (1 : Int32) := (by unfold f_ix7; rw [if_neg c2, if_neg c4, if_pos c6]); exact ⟨e.symm, rfl⟩)
    · skip
      refine s_iload C d5_30 (pc' := 32) rfl rfl ?_
      refine s_iconst C d5_32 (pc' := 33) rfl (1 : Int32) rfl ?_
      refine s_iadd C d5_33 (pc' := 34) rfl ?_
      refine s_foldI C (y := (2 : Int32)) (by decide) ?_
      refine s_istoreNP C d5_34 (pc' := 35) rfl #[.val (.ref o), .val (.int x1), .val (.int (2 : Int32)), .val (.int (3 : Int32)), .val (.int (1 : Int32))] rfl ?_
      refine s_goto C d5_35 (pc' := 41) rfl ?_
      refine s_goto C d5_41 (pc' := 7) rfl ?_
      refine s_iloadN C d5_7 (pc' := 8) rfl rfl ?_
      refine s_iloadN C d5_8 (pc' := 9) rfl rfl ?_
      refine s_icmp_ge C d5_9 (pc' := 12) rfl (pcY := 44) rfl (fun hc => by exfalso; revert hc; decide) (fun c9 => ?_)
      refine s_iloadN C d5_12 (pc' := 13) rfl rfl ?_
      refine s_iloadN C d5_13 (pc' := 14) rfl rfl ?_
      refine s_iadd C d5_14 (pc' := 15) rfl ?_
      refine s_foldI C (y := (5 : Int32)) (by decide) ?_
      refine s_iconst C d5_15 (pc' := 16) rfl (1 : Int32) rfl ?_
      refine s_iushr C d5_16 (pc' := 17) rfl ?_
      refine s_foldI C (y := (2 : Int32)) (by decide) ?_
      refine s_istoreP C d5_17 (pc' := 19) rfl #[.val (.ref o), .val (.int x1), .val (.int (2 : Int32)), .val (.int (3 : Int32)), .val (.int (2 : Int32))] rfl ?_
      refine s_aloadN C d5_19 (pc' := 20) rfl rfl rfl ?_
      refine s_getF C d5_20 (pc' := 23) rfl (w11 hw) F_e ?_
      refine s_iload C d5_23 (pc' := 25) rfl rfl ?_
      refine s_iaload C d5_25 (pc' := 26) rfl V_a 2 (by decide) rfl ?_
      refine s_iloadN C d5_26 (pc' := 27) rfl rfl ?_
      refine s_icmp_ge C d5_27 (pc' := 30) rfl (pcY := 38) rfl (fun c10 => ?_) (fun c10 => ?_)
      · skip
        refine s_iload C d5_38 (pc' := 40) rfl rfl ?_
        refine s_istoreNP C d5_40 (pc' := 41) rfl #[.val (.ref o), .val (.int x1), .val (.int (2 : Int32)), .val (.int (2 : Int32)), .val (.int (2 : Int32))] rfl ?_
        refine s_goto C d5_41 (pc' := 7) rfl ?_
        refine s_iloadN C d5_7 (pc' := 8) rfl rfl ?_
        refine s_iloadN C d5_8 (pc' := 9) rfl rfl ?_
        refine s_icmp_ge C d5_9 (pc' := 12) rfl (pcY := 44) rfl (fun c11 => ?_) (fun hc => by exfalso; revert hc; decide)
        refine s_iloadN C d5_44 (pc' := 45) rfl rfl ?_
        exact s_retI C d5_45 (by decide) (by decide) (by have e : f_ix7 e0 e1 e2 e3 e4 e5 e6 x1 = (2 : Int32) := (by unfold f_ix7; rw [if_neg c2, if_pos c4, if_neg c10]); exact ⟨e.symm, rfl⟩)
      · skip
        refine s_iload C d5_30 (pc' := 32) rfl rfl ?_
        refine s_iconst C d5_32 (pc' := 33) rfl (1 : Int32) rfl ?_
        refine s_iadd C d5_33 (pc' := 34) rfl ?_
        refine s_foldI C (y := (3 : Int32)) (by decide) ?_
        refine s_istoreNP C d5_34 (pc' := 35) rfl #[.val (.ref o), .val (.int x1), .val (.int (3 : Int32)), .val (.int (3 : Int32)), .val (.int (2 : Int32))] rfl ?_
        refine s_goto C d5_35 (pc' := 41) rfl ?_
        refine s_goto C d5_41 (pc' := 7) rfl ?_
        refine s_iloadN C d5_7 (pc' := 8) rfl rfl ?_
        refine s_iloadN C d5_8 (pc' := 9) rfl rfl ?_
        refine s_icmp_ge C d5_9 (pc' := 12) rfl (pcY := 44) rfl (fun c12 => ?_) (fun hc => by exfalso; revert hc; decide)
        refine s_iloadN C d5_44 (pc' := 45) rfl rfl ?_
        exact s_retI C d5_45 (by decide) (by decide) (by have e : f_ix7 e0 e1 e2 e3 e4 e5 e6 x1 = (3 : Int32) := (by unfold f_ix7; rw [if_neg c2, if_pos c4, if_pos c10]); exact ⟨e.symm, rfl⟩)
  · skip
    refine s_iload C d5_30 (pc' := 32) rfl rfl ?_
    refine s_iconst C d5_32 (pc' := 33) rfl (1 : Int32) rfl ?_
    refine s_iadd C d5_33 (pc' := 34) rfl ?_
    refine s_foldI C (y := (4 : Int32)) (by decide) ?_
    refine s_istoreNP C d5_34 (pc' := 35) rfl #[.val (.ref o), .val (.int x1), .val (.int (4 : Int32)), .val (.int (7 : Int32)), .val (.int (3 : Int32))] rfl ?_
    refine s_goto C d5_35 (pc' := 41) rfl ?_
    refine s_goto C d5_41 (pc' := 7) rfl ?_
    refine s_iloadN C d5_7 (pc' := 8) rfl rfl ?_
    refine s_iloadN C d5_8 (pc' := 9) rfl rfl ?_
    refine s_icmp_ge C d5_9 (pc' := 12) rfl (pcY := 44) rfl (fun hc => by exfalso; revert hc; decide) (fun c13 => ?_)
    refine s_iloadN C d5_12 (pc' := 13) rfl rfl ?_
    refine s_iloadN C d5_13 (pc' := 14) rfl rfl ?_
    refine s_iadd C d5_14 (pc' := 15) rfl ?_
    refine s_foldI C (y := (11 : Int32)) (by decide) ?_
    refine s_iconst C d5_15 (pc' := 16) rfl (1 : Int32) rfl ?_
    refine s_iushr C d5_16 (pc' := 17) rfl ?_
    refine s_foldI C (y := (5 : Int32)) (by decide) ?_
    refine s_istoreP C d5_17 (pc' := 19) rfl #[.val (.ref o), .val (.int x1), .val (.int (4 : Int32)), .val (.int (7 : Int32)), .val (.int (5 : Int32))] rfl ?_
    refine s_aloadN C d5_19 (pc' := 20) rfl rfl rfl ?_
    refine s_getF C d5_20 (pc' := 23) rfl (w11 hw) F_e ?_
    refine s_iload C d5_23 (pc' := 25) rfl rfl ?_
    refine s_iaload C d5_25 (pc' := 26) rfl V_a 5 (by decide) rfl ?_
    refine s_iloadN C d5_26 (pc' := 27) rfl rfl ?_
    refine s_icmp_ge C d5_27 (pc' := 30) rfl (pcY := 38) rfl (fun c14 => ?_) (fun c14 => ?_)
    · skip
      refine s_iload C d5_38 (pc' := 40) rfl rfl ?_
      refine s_istoreNP C d5_40 (pc' := 41) rfl #[.val (.ref o), .val (.int x1), .val (.int (4 : Int32)), .val (.int (5 : Int32)), .val (.int (5 : Int32))] rfl ?_
      refine s_goto C d5_41 (pc' := 7) rfl ?_
      refine s_iloadN C d5_7 (pc' := 8) rfl rfl ?_
      refine s_iloadN C d5_8 (pc' := 9) rfl rfl ?_
      refine s_icmp_ge C d5_9 (pc' := 12) rfl (pcY := 44) rfl (fun hc => by exfalso; revert hc; decide) (fun c15 => ?_)
      refine s_iloadN C d5_12 (pc' := 13) rfl rfl ?_
      refine s_iloadN C d5_13 (pc' := 14) rfl rfl ?_
      refine s_iadd C d5_14 (pc' := 15) rfl ?_
      refine s_foldI C (y := (9 : Int32)) (by decide) ?_
      refine s_iconst C d5_15 (pc' := 16) rfl (1 : Int32) rfl ?_
      refine s_iushr C d5_16 (pc' := 17) rfl ?_
      refine s_foldI C (y := (4 : Int32)) (by decide) ?_
      refine s_istoreP C d5_17 (pc' := 19) rfl #[.val (.ref o), .val (.int x1), .val (.int (4 : Int32)), .val (.int (5 : Int32)), .val (.int (4 : Int32))] rfl ?_
      refine s_aloadN C d5_19 (pc' := 20) rfl rfl rfl ?_
      refine s_getF C d5_20 (pc' := 23) rfl (w11 hw) F_e ?_
      refine s_iload C d5_23 (pc' := 25) rfl rfl ?_
      refine s_iaload C d5_25 (pc' := 26) rfl V_a 4 (by decide) rfl ?_
      refine s_iloadN C d5_26 (pc' := 27) rfl rfl ?_
      refine s_icmp_ge C d5_27 (pc' := 30) rfl (pcY := 38) rfl (fun c16 => ?_) (fun c16 => ?_)
      · skip
        refine s_iload C d5_38 (pc' := 40) rfl rfl ?_
        refine s_istoreNP C d5_40 (pc' := 41) rfl #[.val (.ref o), .val (.int x1), .val (.int (4 : Int32)), .val (.int (4 : Int32)), .val (.int (4 : Int32))] rfl ?_
        refine s_goto C d5_41 (pc' := 7) rfl ?_
        refine s_iloadN C d5_7 (pc' := 8) rfl rfl ?_
        refine s_iloadN C d5_8 (pc' := 9) rfl rfl ?_
        refine s_icmp_ge C d5_9 (pc' := 12) rfl (pcY := 44) rfl (fun c17 => ?_) (fun hc => by exfalso; revert hc; decide)
        refine s_iloadN C d5_44 (pc' := 45) rfl rfl ?_
        exact s_retI C d5_45 (by decide) (by decide) (by have e : f_ix7 e0 e1 e2 e3 e4 e5 e6 x1 = (4 : Int32) := (by unfold f_ix7; rw [if_pos c2, if_neg c14, if_neg c16]); exact ⟨e.symm, rfl⟩)
      · skip
        refine s_iload C d5_30 (pc' := 32) rfl rfl ?_
        refine s_iconst C d5_32 (pc' := 33) rfl (1 : Int32) rfl ?_
        refine s_iadd C d5_33 (pc' := 34) rfl ?_
        refine s_foldI C (y := (5 : Int32)) (by decide) ?_
        refine s_istoreNP C d5_34 (pc' := 35) rfl #[.val (.ref o), .val (.int x1), .val (.int (5 : Int32)), .val (.int (5 : Int32)), .val (.int (4 : Int32))] rfl ?_
        refine s_goto C d5_35 (pc' := 41) rfl ?_
        refine s_goto C d5_41 (pc' := 7) rfl ?_
        refine s_iloadN C d5_7 (pc' := 8) rfl rfl ?_
        refine s_iloadN C d5_8 (pc' := 9) rfl rfl ?_
        refine s_icmp_ge C d5_9 (pc' := 12) rfl (pcY := 44) rfl (fun c18 => ?_) (fun hc => by exfalso; revert hc; decide)
        refine s_iloadN C d5_44 (pc' := 45) rfl rfl ?_
        exact s_retI C d5_45 (by decide) (by decide) (by have e : f_ix7 e0 e1 e2 e3 e4 e5 e6 x1 = (5 : Int32) := (by unfold f_ix7; rw [if_pos c2, if_neg c14, if_pos c16]); exact ⟨e.symm, rfl⟩)
    · skip
      refine s_iload C d5_30 (pc' := 32) rfl rfl ?_
      refine s_iconst C d5_32 (pc' := 33) rfl (1 : Int32) rfl ?_
      refine s_iadd C d5_33 (pc' := 34) rfl ?_
      refine s_foldI C (y := (6 : Int32)) (by decide) ?_
      refine s_istoreNP C d5_34 (pc' := 35) rfl #[.val (.ref o), .val (.int x1), .val (.int (6 : Int32)), .val (.int (7 : Int32)), .val (.int (5 : Int32))] rfl ?_
      refine s_goto C d5_35 (pc' := 41) rfl ?_
      refine s_goto C d5_41 (pc' := 7) rfl ?_
      refine s_iloadN C d5_7 (pc' := 8) rfl rfl ?_
      refine s_iloadN C d5_8 (pc' := 9) rfl rfl ?_
      refine s_icmp_ge C d5_9 (pc' := 12) rfl (pcY := 44) rfl (fun hc => by exfalso; revert hc; decide) (fun c19 => ?_)
      refine s_iloadN C d5_12 (pc' := 13) rfl rfl ?_
      refine s_iloadN C d5_13 (pc' := 14) rfl rfl ?_
      refine s_iadd C d5_14 (pc' := 15) rfl ?_
      refine s_foldI C (y := (13 : Int32)) (by decide) ?_
      refine s_iconst C d5_15 (pc' := 16) rfl (1 : Int32) rfl ?_
      refine s_iushr C d5_16 (pc' := 17) rfl ?_
      refine s_foldI C (y := (6 : Int32)) (by decide) ?_
      refine s_istoreP C d5_17 (pc' := 19) rfl #[.val (.ref o), .val (.int x1), .val (.int (6 : Int32)), .val (.int (7 : Int32)), .val (.int (6 : Int32))] rfl ?_
      refine s_aloadN C d5_19 (pc' := 20) rfl rfl rfl ?_
      refine s_getF C d5_20 (pc' := 23) rfl (w11 hw) F_e ?_
      refine s_iload C d5_23 (pc' := 25) rfl rfl ?_
      refine s_iaload C d5_25 (pc' := 26) rfl V_a 6 (by decide) rfl ?_
      refine s_iloadN C d5_26 (pc' := 27) rfl rfl ?_
      refine s_icmp_ge C d5_27 (pc' := 30) rfl (pcY := 38) rfl (fun c20 => ?_) (fun c20 => ?_)
      · skip
        refine s_iload C d5_38 (pc' := 40) rfl rfl ?_
        refine s_istoreNP C d5_40 (pc' := 41) rfl #[.val (.ref o), .val (.int x1), .val (.int (6 : Int32)), .val (.int (6 : Int32)), .val (.int (6 : Int32))] rfl ?_
        refine s_goto C d5_41 (pc' := 7) rfl ?_
        refine s_iloadN C d5_7 (pc' := 8) rfl rfl ?_
        refine s_iloadN C d5_8 (pc' := 9) rfl rfl ?_
        refine s_icmp_ge C d5_9 (pc' := 12) rfl (pcY := 44) rfl (fun c21 => ?_) (fun hc => by exfalso; revert hc; decide)
        refine s_iloadN C d5_44 (pc' := 45) rfl rfl ?_
        exact s_retI C d5_45 (by decide) (by decide) (by have e : f_ix7 e0 e1 e2 e3 e4 e5 e6 x1 = (6 : Int32) := (by unfold f_ix7; rw [if_pos c2, if_pos c14, if_neg c20]); exact ⟨e.symm, rfl⟩)
      · skip
        refine s_iload C d5_30 (pc' := 32) rfl rfl ?_
        refine s_iconst C d5_32 (pc' := 33) rfl (1 : Int32) rfl ?_
        refine s_iadd C d5_33 (pc' := 34) rfl ?_
        refine s_foldI C (y := (7 : Int32)) (by decide) ?_
        refine s_istoreNP C d5_34 (pc' := 35) rfl #[.val (.ref o), .val (.int x1), .val (.int (7 : Int32)), .val (.int (7 : Int32)), .val (.int (6 : Int32))] rfl ?_
        refine s_goto C d5_35 (pc' := 41) rfl ?_
        refine s_goto C d5_41 (pc' := 7) rfl ?_
        refine s_iloadN C d5_7 (pc' := 8) rfl rfl ?_
        refine s_iloadN C d5_8 (pc' := 9) rfl rfl ?_
        refine s_icmp_ge C d5_9 (pc' := 12) rfl (pcY := 44) rfl (fun c22 => ?_) (fun hc => by exfalso; revert hc; decide)
        refine s_iloadN C d5_44 (pc' := 45) rfl rfl ?_
        exact s_retI C d5_45 (by decide) (by decide) (by have e : f_ix7 e0 e1 e2 e3 e4 e5 e6 x1 = (7 : Int32) := (by unfold f_ix7; rw [if_pos c2, if_pos c14, if_pos c20]); exact ⟨e.symm, rfl⟩)

theorem own_bel (n k : Int32) (e : Int64) (d : Int32) : f_bel n k e d = if k < n then (if e < d.toInt64 then 1 else 0) else 0 := by
  unfold f_bel
  (repeat' split) <;> first | rfl | contradiction
theorem own_lt {e : Int64} {d : Int32} (h1 : -2147483648 ≤ e.toInt) (h2 : e.toInt ≤ 2147483647) : (e.toInt32 < d) ↔ (e < d.toInt64) := by
  have c := c_l2i e
  have r := rng32 e.toInt32
  rw [Int32.lt_iff_toInt_lt, Int64.lt_iff_toInt_lt, Int32.toInt_toInt64]
  omega
theorem own_mono {a b : Int64} {d : Int32} (h : a.toInt ≤ b.toInt) : b < d.toInt64 → a < d.toInt64 := by
  rw [Int64.lt_iff_toInt_lt, Int64.lt_iff_toInt_lt]; omega
theorem own_e {e : Int64} (X : Int32) (h1 : -2147483648 ≤ e.toInt) (h2 : e.toInt ≤ 2147489999) : e.toInt ≤ (e + (X &&& 15).toInt64).toInt ∧ (e + (X &&& 15).toInt64).toInt ≤ e.toInt + 15 := by
  have m : (X &&& 15).toInt = X.toInt % (2 ^ 4 : Nat) := c_mask X 15 4 (by decide) (by decide)
  have c := c_ladd e (X &&& 15).toInt64
  have r := rng64 (e + (X &&& 15).toInt64)
  rw [Int32.toInt_toInt64] at c
  omega
theorem own_n (x : Int32) : (x &&& 7) = 0 ∨ (x &&& 7) = 1 ∨ (x &&& 7) = 2 ∨ (x &&& 7) = 3 ∨ (x &&& 7) = 4 ∨ (x &&& 7) = 5 ∨ (x &&& 7) = 6 ∨ (x &&& 7) = 7 := by
  have e : (x &&& 7).toInt = x.toInt % (2 ^ 3 : Nat) := c_mask x 7 3 (by decide) (by decide)
  simp only [← Int32.toInt_inj, show (0 : Int32).toInt = 0 from by decide, show (1 : Int32).toInt = 1 from by decide, show (2 : Int32).toInt = 2 from by decide, show (3 : Int32).toInt = 3 from by decide, show (4 : Int32).toInt = 4 from by decide, show (5 : Int32).toInt = 5 from by decide, show (6 : Int32).toInt = 6 from by decide, show (7 : Int32).toInt = 7 from by decide]
  omega
theorem own_ix0 (d : Int32) (e0 e1 e2 e3 e4 e5 e6 : Int64) : f_ix0  d = ((((((f_bel 0 0 e0 d + f_bel 0 1 e1 d) + f_bel 0 2 e2 d) + f_bel 0 3 e3 d) + f_bel 0 4 e4 d) + f_bel 0 5 e5 d) + f_bel 0 6 e6 d) := by
  simp only [own_bel, show ¬ (0 : Int32) < 0 from by decide, show ¬ (1 : Int32) < 0 from by decide, show ¬ (2 : Int32) < 0 from by decide, show ¬ (3 : Int32) < 0 from by decide, show ¬ (4 : Int32) < 0 from by decide, show ¬ (5 : Int32) < 0 from by decide, show ¬ (6 : Int32) < 0 from by decide, if_true, if_false]
  unfold f_ix0
  decide
theorem own_ix1 (d : Int32) (e0 e1 e2 e3 e4 e5 e6 : Int64) (h0 : e0.toInt32 < d ↔ e0 < d.toInt64) : f_ix1 e0.toInt32 d = ((((((f_bel 1 0 e0 d + f_bel 1 1 e1 d) + f_bel 1 2 e2 d) + f_bel 1 3 e3 d) + f_bel 1 4 e4 d) + f_bel 1 5 e5 d) + f_bel 1 6 e6 d) := by
  simp only [own_bel, show (0 : Int32) < 1 from by decide, show ¬ (1 : Int32) < 1 from by decide, show ¬ (2 : Int32) < 1 from by decide, show ¬ (3 : Int32) < 1 from by decide, show ¬ (4 : Int32) < 1 from by decide, show ¬ (5 : Int32) < 1 from by decide, show ¬ (6 : Int32) < 1 from by decide, if_true, if_false]
  unfold f_ix1
  simp only [h0]
  by_cases p0 : e0 < d.toInt64
  rotate_left
  · simp only [p0, if_true, if_false]
    try decide
  · skip
    simp only [p0, if_true, if_false]
    try decide
theorem own_ix2 (d : Int32) (e0 e1 e2 e3 e4 e5 e6 : Int64) (h0 : e0.toInt32 < d ↔ e0 < d.toInt64) (h1 : e1.toInt32 < d ↔ e1 < d.toInt64) (m1 : e1 < d.toInt64 → e0 < d.toInt64) : f_ix2 e0.toInt32 e1.toInt32 d = ((((((f_bel 2 0 e0 d + f_bel 2 1 e1 d) + f_bel 2 2 e2 d) + f_bel 2 3 e3 d) + f_bel 2 4 e4 d) + f_bel 2 5 e5 d) + f_bel 2 6 e6 d) := by
  simp only [own_bel, show (0 : Int32) < 2 from by decide, show (1 : Int32) < 2 from by decide, show ¬ (2 : Int32) < 2 from by decide, show ¬ (3 : Int32) < 2 from by decide, show ¬ (4 : Int32) < 2 from by decide, show ¬ (5 : Int32) < 2 from by decide, show ¬ (6 : Int32) < 2 from by decide, if_true, if_false]
  unfold f_ix2
  simp only [h0, h1]
  by_cases p0 : e0 < d.toInt64
  rotate_left
  · have p1 : ¬ e1 < d.toInt64 := fun q => p0 (m1 q)
    simp only [p0, p1, if_true, if_false]
    try decide
  · skip
    by_cases p1 : e1 < d.toInt64
    rotate_left
    · simp only [p0, p1, if_true, if_false]
      try decide
    · skip
      simp only [p0, p1, if_true, if_false]
      try decide
theorem own_ix3 (d : Int32) (e0 e1 e2 e3 e4 e5 e6 : Int64) (h0 : e0.toInt32 < d ↔ e0 < d.toInt64) (h1 : e1.toInt32 < d ↔ e1 < d.toInt64) (h2 : e2.toInt32 < d ↔ e2 < d.toInt64) (m1 : e1 < d.toInt64 → e0 < d.toInt64) (m2 : e2 < d.toInt64 → e1 < d.toInt64) : f_ix3 e0.toInt32 e1.toInt32 e2.toInt32 d = ((((((f_bel 3 0 e0 d + f_bel 3 1 e1 d) + f_bel 3 2 e2 d) + f_bel 3 3 e3 d) + f_bel 3 4 e4 d) + f_bel 3 5 e5 d) + f_bel 3 6 e6 d) := by
  simp only [own_bel, show (0 : Int32) < 3 from by decide, show (1 : Int32) < 3 from by decide, show (2 : Int32) < 3 from by decide, show ¬ (3 : Int32) < 3 from by decide, show ¬ (4 : Int32) < 3 from by decide, show ¬ (5 : Int32) < 3 from by decide, show ¬ (6 : Int32) < 3 from by decide, if_true, if_false]
  unfold f_ix3
  simp only [h0, h1, h2]
  by_cases p0 : e0 < d.toInt64
  rotate_left
  · have p1 : ¬ e1 < d.toInt64 := fun q => p0 (m1 q)
    have p2 : ¬ e2 < d.toInt64 := fun q => p1 (m2 q)
    simp only [p0, p1, p2, if_true, if_false]
    try decide
  · skip
    by_cases p1 : e1 < d.toInt64
    rotate_left
    · have p2 : ¬ e2 < d.toInt64 := fun q => p1 (m2 q)
      simp only [p0, p1, p2, if_true, if_false]
      try decide
    · skip
      by_cases p2 : e2 < d.toInt64
      rotate_left
      · simp only [p0, p1, p2, if_true, if_false]
        try decide
      · skip
        simp only [p0, p1, p2, if_true, if_false]
        try decide
theorem own_ix4 (d : Int32) (e0 e1 e2 e3 e4 e5 e6 : Int64) (h0 : e0.toInt32 < d ↔ e0 < d.toInt64) (h1 : e1.toInt32 < d ↔ e1 < d.toInt64) (h2 : e2.toInt32 < d ↔ e2 < d.toInt64) (h3 : e3.toInt32 < d ↔ e3 < d.toInt64) (m1 : e1 < d.toInt64 → e0 < d.toInt64) (m2 : e2 < d.toInt64 → e1 < d.toInt64) (m3 : e3 < d.toInt64 → e2 < d.toInt64) : f_ix4 e0.toInt32 e1.toInt32 e2.toInt32 e3.toInt32 d = ((((((f_bel 4 0 e0 d + f_bel 4 1 e1 d) + f_bel 4 2 e2 d) + f_bel 4 3 e3 d) + f_bel 4 4 e4 d) + f_bel 4 5 e5 d) + f_bel 4 6 e6 d) := by
  simp only [own_bel, show (0 : Int32) < 4 from by decide, show (1 : Int32) < 4 from by decide, show (2 : Int32) < 4 from by decide, show (3 : Int32) < 4 from by decide, show ¬ (4 : Int32) < 4 from by decide, show ¬ (5 : Int32) < 4 from by decide, show ¬ (6 : Int32) < 4 from by decide, if_true, if_false]
  unfold f_ix4
  simp only [h0, h1, h2, h3]
  by_cases p0 : e0 < d.toInt64
  rotate_left
  · have p1 : ¬ e1 < d.toInt64 := fun q => p0 (m1 q)
    have p2 : ¬ e2 < d.toInt64 := fun q => p1 (m2 q)
    have p3 : ¬ e3 < d.toInt64 := fun q => p2 (m3 q)
    simp only [p0, p1, p2, p3, if_true, if_false]
    try decide
  · skip
    by_cases p1 : e1 < d.toInt64
    rotate_left
    · have p2 : ¬ e2 < d.toInt64 := fun q => p1 (m2 q)
      have p3 : ¬ e3 < d.toInt64 := fun q => p2 (m3 q)
      simp only [p0, p1, p2, p3, if_true, if_false]
      try decide
    · skip
      by_cases p2 : e2 < d.toInt64
      rotate_left
      · have p3 : ¬ e3 < d.toInt64 := fun q => p2 (m3 q)
        simp only [p0, p1, p2, p3, if_true, if_false]
        try decide
      · skip
        by_cases p3 : e3 < d.toInt64
        rotate_left
        · simp only [p0, p1, p2, p3, if_true, if_false]
          try decide
        · skip
          simp only [p0, p1, p2, p3, if_true, if_false]
          try decide
theorem own_ix5 (d : Int32) (e0 e1 e2 e3 e4 e5 e6 : Int64) (h0 : e0.toInt32 < d ↔ e0 < d.toInt64) (h1 : e1.toInt32 < d ↔ e1 < d.toInt64) (h2 : e2.toInt32 < d ↔ e2 < d.toInt64) (h3 : e3.toInt32 < d ↔ e3 < d.toInt64) (h4 : e4.toInt32 < d ↔ e4 < d.toInt64) (m1 : e1 < d.toInt64 → e0 < d.toInt64) (m2 : e2 < d.toInt64 → e1 < d.toInt64) (m3 : e3 < d.toInt64 → e2 < d.toInt64) (m4 : e4 < d.toInt64 → e3 < d.toInt64) : f_ix5 e0.toInt32 e1.toInt32 e2.toInt32 e3.toInt32 e4.toInt32 d = ((((((f_bel 5 0 e0 d + f_bel 5 1 e1 d) + f_bel 5 2 e2 d) + f_bel 5 3 e3 d) + f_bel 5 4 e4 d) + f_bel 5 5 e5 d) + f_bel 5 6 e6 d) := by
  simp only [own_bel, show (0 : Int32) < 5 from by decide, show (1 : Int32) < 5 from by decide, show (2 : Int32) < 5 from by decide, show (3 : Int32) < 5 from by decide, show (4 : Int32) < 5 from by decide, show ¬ (5 : Int32) < 5 from by decide, show ¬ (6 : Int32) < 5 from by decide, if_true, if_false]
  unfold f_ix5
  simp only [h0, h1, h2, h3, h4]
  by_cases p0 : e0 < d.toInt64
  rotate_left
  · have p1 : ¬ e1 < d.toInt64 := fun q => p0 (m1 q)
    have p2 : ¬ e2 < d.toInt64 := fun q => p1 (m2 q)
    have p3 : ¬ e3 < d.toInt64 := fun q => p2 (m3 q)
    have p4 : ¬ e4 < d.toInt64 := fun q => p3 (m4 q)
    simp only [p0, p1, p2, p3, p4, if_true, if_false]
    try decide
  · skip
    by_cases p1 : e1 < d.toInt64
    rotate_left
    · have p2 : ¬ e2 < d.toInt64 := fun q => p1 (m2 q)
      have p3 : ¬ e3 < d.toInt64 := fun q => p2 (m3 q)
      have p4 : ¬ e4 < d.toInt64 := fun q => p3 (m4 q)
      simp only [p0, p1, p2, p3, p4, if_true, if_false]
      try decide
    · skip
      by_cases p2 : e2 < d.toInt64
      rotate_left
      · have p3 : ¬ e3 < d.toInt64 := fun q => p2 (m3 q)
        have p4 : ¬ e4 < d.toInt64 := fun q => p3 (m4 q)
        simp only [p0, p1, p2, p3, p4, if_true, if_false]
        try decide
      · skip
        by_cases p3 : e3 < d.toInt64
        rotate_left
        · have p4 : ¬ e4 < d.toInt64 := fun q => p3 (m4 q)
          simp only [p0, p1, p2, p3, p4, if_true, if_false]
          try decide
        · skip
          by_cases p4 : e4 < d.toInt64
          rotate_left
          · simp only [p0, p1, p2, p3, p4, if_true, if_false]
            try decide
          · skip
            simp only [p0, p1, p2, p3, p4, if_true, if_false]
            try decide
theorem own_ix6 (d : Int32) (e0 e1 e2 e3 e4 e5 e6 : Int64) (h0 : e0.toInt32 < d ↔ e0 < d.toInt64) (h1 : e1.toInt32 < d ↔ e1 < d.toInt64) (h2 : e2.toInt32 < d ↔ e2 < d.toInt64) (h3 : e3.toInt32 < d ↔ e3 < d.toInt64) (h4 : e4.toInt32 < d ↔ e4 < d.toInt64) (h5 : e5.toInt32 < d ↔ e5 < d.toInt64) (m1 : e1 < d.toInt64 → e0 < d.toInt64) (m2 : e2 < d.toInt64 → e1 < d.toInt64) (m3 : e3 < d.toInt64 → e2 < d.toInt64) (m4 : e4 < d.toInt64 → e3 < d.toInt64) (m5 : e5 < d.toInt64 → e4 < d.toInt64) : f_ix6 e0.toInt32 e1.toInt32 e2.toInt32 e3.toInt32 e4.toInt32 e5.toInt32 d = ((((((f_bel 6 0 e0 d + f_bel 6 1 e1 d) + f_bel 6 2 e2 d) + f_bel 6 3 e3 d) + f_bel 6 4 e4 d) + f_bel 6 5 e5 d) + f_bel 6 6 e6 d) := by
  simp only [own_bel, show (0 : Int32) < 6 from by decide, show (1 : Int32) < 6 from by decide, show (2 : Int32) < 6 from by decide, show (3 : Int32) < 6 from by decide, show (4 : Int32) < 6 from by decide, show (5 : Int32) < 6 from by decide, show ¬ (6 : Int32) < 6 from by decide, if_true, if_false]
  unfold f_ix6
  simp only [h0, h1, h2, h3, h4, h5]
  by_cases p0 : e0 < d.toInt64
  rotate_left
  · have p1 : ¬ e1 < d.toInt64 := fun q => p0 (m1 q)
    have p2 : ¬ e2 < d.toInt64 := fun q => p1 (m2 q)
    have p3 : ¬ e3 < d.toInt64 := fun q => p2 (m3 q)
    have p4 : ¬ e4 < d.toInt64 := fun q => p3 (m4 q)
    have p5 : ¬ e5 < d.toInt64 := fun q => p4 (m5 q)
    simp only [p0, p1, p2, p3, p4, p5, if_true, if_false]
    try decide
  · skip
    by_cases p1 : e1 < d.toInt64
    rotate_left
    · have p2 : ¬ e2 < d.toInt64 := fun q => p1 (m2 q)
      have p3 : ¬ e3 < d.toInt64 := fun q => p2 (m3 q)
      have p4 : ¬ e4 < d.toInt64 := fun q => p3 (m4 q)
      have p5 : ¬ e5 < d.toInt64 := fun q => p4 (m5 q)
      simp only [p0, p1, p2, p3, p4, p5, if_true, if_false]
      try decide
    · skip
      by_cases p2 : e2 < d.toInt64
      rotate_left
      · have p3 : ¬ e3 < d.toInt64 := fun q => p2 (m3 q)
        have p4 : ¬ e4 < d.toInt64 := fun q => p3 (m4 q)
        have p5 : ¬ e5 < d.toInt64 := fun q => p4 (m5 q)
        simp only [p0, p1, p2, p3, p4, p5, if_true, if_false]
        try decide
      · skip
        by_cases p3 : e3 < d.toInt64
        rotate_left
        · have p4 : ¬ e4 < d.toInt64 := fun q => p3 (m4 q)
          have p5 : ¬ e5 < d.toInt64 := fun q => p4 (m5 q)
          simp only [p0, p1, p2, p3, p4, p5, if_true, if_false]
          try decide
        · skip
          by_cases p4 : e4 < d.toInt64
          rotate_left
          · have p5 : ¬ e5 < d.toInt64 := fun q => p4 (m5 q)
            simp only [p0, p1, p2, p3, p4, p5, if_true, if_false]
            try decide
          · skip
            by_cases p5 : e5 < d.toInt64
            rotate_left
            · simp only [p0, p1, p2, p3, p4, p5, if_true, if_false]
              try decide
            · skip
              simp only [p0, p1, p2, p3, p4, p5, if_true, if_false]
              try decide
theorem own_ix7 (d : Int32) (e0 e1 e2 e3 e4 e5 e6 : Int64) (h0 : e0.toInt32 < d ↔ e0 < d.toInt64) (h1 : e1.toInt32 < d ↔ e1 < d.toInt64) (h2 : e2.toInt32 < d ↔ e2 < d.toInt64) (h3 : e3.toInt32 < d ↔ e3 < d.toInt64) (h4 : e4.toInt32 < d ↔ e4 < d.toInt64) (h5 : e5.toInt32 < d ↔ e5 < d.toInt64) (h6 : e6.toInt32 < d ↔ e6 < d.toInt64) (m1 : e1 < d.toInt64 → e0 < d.toInt64) (m2 : e2 < d.toInt64 → e1 < d.toInt64) (m3 : e3 < d.toInt64 → e2 < d.toInt64) (m4 : e4 < d.toInt64 → e3 < d.toInt64) (m5 : e5 < d.toInt64 → e4 < d.toInt64) (m6 : e6 < d.toInt64 → e5 < d.toInt64) : f_ix7 e0.toInt32 e1.toInt32 e2.toInt32 e3.toInt32 e4.toInt32 e5.toInt32 e6.toInt32 d = ((((((f_bel 7 0 e0 d + f_bel 7 1 e1 d) + f_bel 7 2 e2 d) + f_bel 7 3 e3 d) + f_bel 7 4 e4 d) + f_bel 7 5 e5 d) + f_bel 7 6 e6 d) := by
  simp only [own_bel, show (0 : Int32) < 7 from by decide, show (1 : Int32) < 7 from by decide, show (2 : Int32) < 7 from by decide, show (3 : Int32) < 7 from by decide, show (4 : Int32) < 7 from by decide, show (5 : Int32) < 7 from by decide, show (6 : Int32) < 7 from by decide, if_true, if_false]
  unfold f_ix7
  simp only [h0, h1, h2, h3, h4, h5, h6]
  by_cases p0 : e0 < d.toInt64
  rotate_left
  · have p1 : ¬ e1 < d.toInt64 := fun q => p0 (m1 q)
    have p2 : ¬ e2 < d.toInt64 := fun q => p1 (m2 q)
    have p3 : ¬ e3 < d.toInt64 := fun q => p2 (m3 q)
    have p4 : ¬ e4 < d.toInt64 := fun q => p3 (m4 q)
    have p5 : ¬ e5 < d.toInt64 := fun q => p4 (m5 q)
    have p6 : ¬ e6 < d.toInt64 := fun q => p5 (m6 q)
    simp only [p0, p1, p2, p3, p4, p5, p6, if_true, if_false]
    try decide
  · skip
    by_cases p1 : e1 < d.toInt64
    rotate_left
    · have p2 : ¬ e2 < d.toInt64 := fun q => p1 (m2 q)
      have p3 : ¬ e3 < d.toInt64 := fun q => p2 (m3 q)
      have p4 : ¬ e4 < d.toInt64 := fun q => p3 (m4 q)
      have p5 : ¬ e5 < d.toInt64 := fun q => p4 (m5 q)
      have p6 : ¬ e6 < d.toInt64 := fun q => p5 (m6 q)
      simp only [p0, p1, p2, p3, p4, p5, p6, if_true, if_false]
      try decide
    · skip
      by_cases p2 : e2 < d.toInt64
      rotate_left
      · have p3 : ¬ e3 < d.toInt64 := fun q => p2 (m3 q)
        have p4 : ¬ e4 < d.toInt64 := fun q => p3 (m4 q)
        have p5 : ¬ e5 < d.toInt64 := fun q => p4 (m5 q)
        have p6 : ¬ e6 < d.toInt64 := fun q => p5 (m6 q)
        simp only [p0, p1, p2, p3, p4, p5, p6, if_true, if_false]
        try decide
      · skip
        by_cases p3 : e3 < d.toInt64
        rotate_left
        · have p4 : ¬ e4 < d.toInt64 := fun q => p3 (m4 q)
          have p5 : ¬ e5 < d.toInt64 := fun q => p4 (m5 q)
          have p6 : ¬ e6 < d.toInt64 := fun q => p5 (m6 q)
          simp only [p0, p1, p2, p3, p4, p5, p6, if_true, if_false]
          try decide
        · skip
          by_cases p4 : e4 < d.toInt64
          rotate_left
          · have p5 : ¬ e5 < d.toInt64 := fun q => p4 (m5 q)
            have p6 : ¬ e6 < d.toInt64 := fun q => p5 (m6 q)
            simp only [p0, p1, p2, p3, p4, p5, p6, if_true, if_false]
            try decide
          · skip
            by_cases p5 : e5 < d.toInt64
            rotate_left
            · have p6 : ¬ e6 < d.toInt64 := fun q => p5 (m6 q)
              simp only [p0, p1, p2, p3, p4, p5, p6, if_true, if_false]
              try decide
            · skip
              by_cases p6 : e6 < d.toInt64
              rotate_left
              · simp only [p0, p1, p2, p3, p4, p5, p6, if_true, if_false]
                try decide
              · skip
                simp only [p0, p1, p2, p3, p4, p5, p6, if_true, if_false]
                try decide

set_option maxRecDepth 65536 in
set_option maxHeartbeats 40000000 in
theorem law (l : Launch) (Z : State) (a0 : Array Value) (hw : Hw a0 Z) (x1 x2 x3 x4 x5 : Int32) (h0 : Heap) (n0 : Nat) (Z0 : n0 ≤ h0.size)  :
    Met l Z x code maxLocals ret tables_1 room_1 #[(.int x1), (.int x2), (.int x3), (.int x4), (.int x5)] h0 n0 (RetI (fun z h => z = 1)) := by
  refine Met.intro pn0 (own := "com/example/chasm/chasm/chase/IdListIndexOfPinLaw") rfl (nm := "law") rfl (fun m => ef0 m x1 x2 x3 x4 x5) ?_
  intro p e s m below meth c C
  refine s_iloadN C at_0 (pc' := 1) rfl rfl ?_
  refine s_bipush C at_1 (pc' := 3) rfl (7 : Int32) rfl ?_
  refine s_iand C at_3 (pc' := 4) rfl ?_
  refine s_istore C at_4 (pc' := 6) rfl (fun y => #[.val (.int x1), .val (.int x2), .val (.int x3), .val (.int x4), .val (.int x5), .val (.int y), .unset, .unset, .unset, .unset, .unset, .unset, .unset, .unset, .unset, .unset, .unset, .unset, .unset, .unset, .unset, .unset, .unset]) (fun _ => rfl) (fun v1 hv1 => ?_)
  refine s_iloadN C at_6 (pc' := 7) rfl rfl ?_
  refine s_i2l C at_7 (pc' := 8) rfl ?_
  refine s_lstore C at_8 (pc' := 10) rfl (fun y => #[.val (.int x1), .val (.int x2), .val (.int x3), .val (.int x4), .val (.int x5), .val (.int v1), .val (.long y), .second, .unset, .unset, .unset, .unset, .unset, .unset, .unset, .unset, .unset, .unset, .unset, .unset, .unset, .unset, .unset]) (fun _ => rfl) (fun v2 hv2 => ?_)
  refine s_lload C at_10 (pc' := 12) rfl rfl ?_
  refine s_iloadN C at_12 (pc' := 13) rfl rfl ?_
  refine s_bipush C at_13 (pc' := 15) rfl (15 : Int32) rfl ?_
  refine s_iand C at_15 (pc' := 16) rfl ?_
  refine s_i2l C at_16 (pc' := 17) rfl ?_
  refine s_ladd C at_17 (pc' := 18) rfl ?_
  refine s_lstore C at_18 (pc' := 20) rfl (fun y => #[.val (.int x1), .val (.int x2), .val (.int x3), .val (.int x4), .val (.int x5), .val (.int v1), .val (.long v2), .second, .val (.long y), .second, .unset, .unset, .unset, .unset, .unset, .unset, .unset, .unset, .unset, .unset, .unset, .unset, .unset]) (fun _ => rfl) (fun v3 hv3 => ?_)
  refine s_lload C at_20 (pc' := 22) rfl rfl ?_
  refine s_iloadN C at_22 (pc' := 23) rfl rfl ?_
  refine s_iconst C at_23 (pc' := 24) rfl (4 : Int32) rfl ?_
  refine s_iushr C at_24 (pc' := 25) rfl ?_
  refine s_bipush C at_25 (pc' := 27) rfl (15 : Int32) rfl ?_
  refine s_iand C at_27 (pc' := 28) rfl ?_
  refine s_i2l C at_28 (pc' := 29) rfl ?_
  refine s_ladd C at_29 (pc' := 30) rfl ?_
  refine s_lstore C at_30 (pc' := 32) rfl (fun y => #[.val (.int x1), .val (.int x2), .val (.int x3), .val (.int x4), .val (.int x5), .val (.int v1), .val (.long v2), .second, .val (.long v3), .second, .val (.long y), .second, .unset, .unset, .unset, .unset, .unset, .unset, .unset, .unset, .unset, .unset, .unset]) (fun _ => rfl) (fun v4 hv4 => ?_)
  refine s_lload C at_32 (pc' := 34) rfl rfl ?_
  refine s_iloadN C at_34 (pc' := 35) rfl rfl ?_
  refine s_bipush C at_35 (pc' := 37) rfl (8 : Int32) rfl ?_
  refine s_iushr C at_37 (pc' := 38) rfl ?_
  refine s_bipush C at_38 (pc' := 40) rfl (15 : Int32) rfl ?_
  refine s_iand C at_40 (pc' := 41) rfl ?_
  refine s_i2l C at_41 (pc' := 42) rfl ?_
  refine s_ladd C at_42 (pc' := 43) rfl ?_
  refine s_lstore C at_43 (pc' := 45) rfl (fun y => #[.val (.int x1), .val (.int x2), .val (.int x3), .val (.int x4), .val (.int x5), .val (.int v1), .val (.long v2), .second, .val (.long v3), .second, .val (.long v4), .second, .val (.long y), .second, .unset, .unset, .unset, .unset, .unset, .unset, .unset, .unset, .unset]) (fun _ => rfl) (fun v5 hv5 => ?_)
  refine s_lload C at_45 (pc' := 47) rfl rfl ?_
  refine s_iloadN C at_47 (pc' := 48) rfl rfl ?_
  refine s_bipush C at_48 (pc' := 50) rfl (12 : Int32) rfl ?_
  refine s_iushr C at_50 (pc' := 51) rfl ?_
  refine s_bipush C at_51 (pc' := 53) rfl (15 : Int32) rfl ?_
  refine s_iand C at_53 (pc' := 54) rfl ?_
  refine s_i2l C at_54 (pc' := 55) rfl ?_
  refine s_ladd C at_55 (pc' := 56) rfl ?_
  refine s_lstore C at_56 (pc' := 58) rfl (fun y => #[.val (.int x1), .val (.int x2), .val (.int x3), .val (.int x4), .val (.int x5), .val (.int v1), .val (.long v2), .second, .val (.long v3), .second, .val (.long v4), .second, .val (.long v5), .second, .val (.long y), .second, .unset, .unset, .unset, .unset, .unset, .unset, .unset]) (fun _ => rfl) (fun v6 hv6 => ?_)
  refine s_lload C at_58 (pc' := 60) rfl rfl ?_
  refine s_iloadN C at_60 (pc' := 61) rfl rfl ?_
  refine s_bipush C at_61 (pc' := 63) rfl (16 : Int32) rfl ?_
  refine s_iushr C at_63 (pc' := 64) rfl ?_
  refine s_bipush C at_64 (pc' := 66) rfl (15 : Int32) rfl ?_
  refine s_iand C at_66 (pc' := 67) rfl ?_
  refine s_i2l C at_67 (pc' := 68) rfl ?_
  refine s_ladd C at_68 (pc' := 69) rfl ?_
  refine s_lstore C at_69 (pc' := 71) rfl (fun y => #[.val (.int x1), .val (.int x2), .val (.int x3), .val (.int x4), .val (.int x5), .val (.int v1), .val (.long v2), .second, .val (.long v3), .second, .val (.long v4), .second, .val (.long v5), .second, .val (.long v6), .second, .val (.long y), .second, .unset, .unset, .unset, .unset, .unset]) (fun _ => rfl) (fun v7 hv7 => ?_)
  refine s_lload C at_71 (pc' := 73) rfl rfl ?_
  refine s_iloadN C at_73 (pc' := 74) rfl rfl ?_
  refine s_bipush C at_74 (pc' := 76) rfl (20 : Int32) rfl ?_
  refine s_iushr C at_76 (pc' := 77) rfl ?_
  refine s_bipush C at_77 (pc' := 79) rfl (15 : Int32) rfl ?_
  refine s_iand C at_79 (pc' := 80) rfl ?_
  refine s_i2l C at_80 (pc' := 81) rfl ?_
  refine s_ladd C at_81 (pc' := 82) rfl ?_
  refine s_lstore C at_82 (pc' := 84) rfl (fun y => #[.val (.int x1), .val (.int x2), .val (.int x3), .val (.int x4), .val (.int x5), .val (.int v1), .val (.long v2), .second, .val (.long v3), .second, .val (.long v4), .second, .val (.long v5), .second, .val (.long v6), .second, .val (.long v7), .second, .val (.long y), .second, .unset, .unset, .unset]) (fun _ => rfl) (fun v8 hv8 => ?_)
  have r0 := rng32 x1
  have z0 : -2147483648 ≤ v2.toInt ∧ v2.toInt ≤ 2147483647 := by rw [hv2, Int32.toInt_toInt64]; omega
  have z1 : v2.toInt ≤ v3.toInt ∧ v3.toInt ≤ v2.toInt + 15 := by rw [hv3]; exact own_e _ (by omega) (by omega)
  have z2 : v3.toInt ≤ v4.toInt ∧ v4.toInt ≤ v3.toInt + 15 := by rw [hv4]; exact own_e _ (by omega) (by omega)
  have z3 : v4.toInt ≤ v5.toInt ∧ v5.toInt ≤ v4.toInt + 15 := by rw [hv5]; exact own_e _ (by omega) (by omega)
  have z4 : v5.toInt ≤ v6.toInt ∧ v6.toInt ≤ v5.toInt + 15 := by rw [hv6]; exact own_e _ (by omega) (by omega)
  have z5 : v6.toInt ≤ v7.toInt ∧ v7.toInt ≤ v6.toInt + 15 := by rw [hv7]; exact own_e _ (by omega) (by omega)
  have z6 : v7.toInt ≤ v8.toInt ∧ v8.toInt ≤ v7.toInt + 15 := by rw [hv8]; exact own_e _ (by omega) (by omega)
  refine s_lload C at_84 (pc' := 86) rfl rfl ?_
  refine s_ldc2 C at_86 (pc' := 89) rfl (w0 hw) ?_
  refine s_lc_le C at_89 (pc1 := 90) rfl at_90 (pc' := 93) rfl (pcY := 95) rfl (fun c9 => ?_) (fun c9 => ?_)
  · skip
    have k7 : v8.toInt ≤ 2147483647 := by have k : (2147483647 : Int64).toInt = 2147483647 := (by decide); rw [Int64.lt_iff_toInt_lt, k] at c9; omega
    have J138 : ∀ (dd : Int32) (sA sB : Slot), (∀ qq, storeLocals #[.val (.int x1), .val (.int x2), .val (.int x3), .val (.int x4), .val (.int x5), .val (.int v1), .val (.long v2), .second, .val (.long v3), .second, .val (.long v4), .second, .val (.long v5), .second, .val (.long v6), .second, .val (.long v7), .second, .val (.long v8), .second, .val (.int dd), sA, sB] 21 (.ref qq) = some #[.val (.int x1), .val (.int x2), .val (.int x3), .val (.int x4), .val (.int x5), .val (.int v1), .val (.long v2), .second, .val (.long v3), .second, .val (.long v4), .second, .val (.long v5), .second, .val (.long v6), .second, .val (.long v7), .second, .val (.long v8), .second, .val (.int dd), .val (.ref qq), .unset]) → Run p l e room_1 s m #[(.int x1), (.int x2), (.int x3), (.int x4), (.int x5)] below meth c n0 (RetI (fun z h => z = 1)) h0 0 0 138 #[.val (.int x1), .val (.int x2), .val (.int x3), .val (.int x4), .val (.int x5), .val (.int v1), .val (.long v2), .second, .val (.long v3), .second, .val (.long v4), .second, .val (.long v5), .second, .val (.long v6), .second, .val (.long v7), .second, .val (.long v8), .second, .val (.int dd), sA, sB] [] := by
      intro dd sA sB hS
      refine s_new C at_138 (pc' := 141) rfl (w1 hw) (w2 hw) (w3 hw) (k' := 1) rfl (by decide) (n' := 2) rfl (by decide) (fun h10 a10 E10 g10 A10 D10 => ?_)
      have gn11 : n0 ≤ a10 := by rw [g10]; exact Z0
      have sz12 : n0 ≤ h10.size := (Nat.le_trans Z0 E10.1)
      have F10_ids : Fld Z h10 a10 "com/example/chasm/chasm/chase/IdList" "ids" "[I" .null := D10 (Or.inl (w12 hw)) (ty := (.array .int)) (by decide)
      have F10_size : Fld Z h10 a10 "com/example/chasm/chasm/chase/IdList" "size" "I" (.int (0 : Int32)) := D10 (Or.inl (w19 hw)) (ty := .int) (by decide)
      refine s_dup C at_141 (pc' := 142) rfl rfl ?_
      refine s_callI C at_142 (pc' := 145) rfl (w4 hw) rfl (w5 hw) (w3 hw) (w6 hw) (by decide) [] [(.ref a10)] pd0 rfl rfl (c_list l Z a0 hw a10 h10 n0 sz12 A10 gn11 F10_ids F10_size) rfl (W := 1) rfl (by decide) (by decide) (k' := 2) rfl (by decide) (n' := 6) rfl (by decide) (fun h13 q13 => ?_)
      obtain ⟨ar13, K13, E13, Fe13, Fs13, V13, s13⟩ := q13
      have gn13 : n0 ≤ ar13 := Nat.le_trans sz12 s13
      have ne13 : a10 ≠ ar13 := Nat.ne_of_lt (Nat.lt_of_lt_of_le A10.lt s13)
      have sz14 : n0 ≤ h13.size := (Nat.le_trans sz12 K13.1)
      refine s_astore C at_145 (pc' := 147) rfl rfl #[.val (.int x1), .val (.int x2), .val (.int x3), .val (.int x4), .val (.int x5), .val (.int v1), .val (.long v2), .second, .val (.long v3), .second, .val (.long v4), .second, .val (.long v5), .second, .val (.long v6), .second, .val (.long v7), .second, .val (.long v8), .second, .val (.int dd), .val (.ref a10), .unset] (hS _) ?_
      rcases own_n x3 with q | q | q | q | q | q | q | q
      · obtain rfl : v1 = 0 := hv1.trans q
        refine s_iload C at_147 (pc' := 149) rfl rfl ?_
        refine s_if_le C at_149 (pc' := 152) rfl (pcY := 160) rfl (fun c15 => ?_) (fun hc => by exfalso; revert hc; decide)
        refine s_iload C at_160 (pc' := 162) rfl rfl ?_
        refine s_iconst C at_162 (pc' := 163) rfl (1 : Int32) rfl ?_
        refine s_icmp_le C at_163 (pc' := 166) rfl (pcY := 174) rfl (fun c16 => ?_) (fun hc => by exfalso; revert hc; decide)
        refine s_iload C at_174 (pc' := 176) rfl rfl ?_
        refine s_iconst C at_176 (pc' := 177) rfl (2 : Int32) rfl ?_
        refine s_icmp_le C at_177 (pc' := 180) rfl (pcY := 188) rfl (fun c17 => ?_) (fun hc => by exfalso; revert hc; decide)
        refine s_iload C at_188 (pc' := 190) rfl rfl ?_
        refine s_iconst C at_190 (pc' := 191) rfl (3 : Int32) rfl ?_
        refine s_icmp_le C at_191 (pc' := 194) rfl (pcY := 202) rfl (fun c18 => ?_) (fun hc => by exfalso; revert hc; decide)
        refine s_iload C at_202 (pc' := 204) rfl rfl ?_
        refine s_iconst C at_204 (pc' := 205) rfl (4 : Int32) rfl ?_
        refine s_icmp_le C at_205 (pc' := 208) rfl (pcY := 216) rfl (fun c19 => ?_) (fun hc => by exfalso; revert hc; decide)
        refine s_iload C at_216 (pc' := 218) rfl rfl ?_
        refine s_iconst C at_218 (pc' := 219) rfl (5 : Int32) rfl ?_
        refine s_icmp_le C at_219 (pc' := 222) rfl (pcY := 230) rfl (fun c20 => ?_) (fun hc => by exfalso; revert hc; decide)
        refine s_iload C at_230 (pc' := 232) rfl rfl ?_
        refine s_bipush C at_232 (pc' := 234) rfl (6 : Int32) rfl ?_
        refine s_icmp_le C at_234 (pc' := 237) rfl (pcY := 245) rfl (fun c21 => ?_) (fun hc => by exfalso; revert hc; decide)
        refine s_iload C at_245 (pc' := 247) rfl rfl ?_
        refine s_iconst C at_247 (pc' := 248) rfl (0 : Int32) rfl ?_
        refine s_lload C at_248 (pc' := 250) rfl rfl ?_
        refine s_iload C at_250 (pc' := 252) rfl rfl ?_
        refine s_callSI C at_252 (pc' := 255) rfl (w20 hw) (w21 hw) (w22 hw) (w23 hw) (by decide) [(.int (0 : Int32)), (.int (0 : Int32)), (.long v2), (.int dd)] [] pd4 rfl rfl (c_bel l Z a0 hw (0 : Int32) (0 : Int32) v2 dd h13 n0 sz14 ) rfl (W := 0) rfl (by decide) (by decide) (k' := 2) rfl (by decide) (n' := 6) rfl (by decide) (fun r22 _ qr22 => ?_)
        obtain ⟨rfl, rfl⟩ := qr22
        refine s_iload C at_255 (pc' := 257) rfl rfl ?_
        refine s_iconst C at_257 (pc' := 258) rfl (1 : Int32) rfl ?_
        refine s_lload C at_258 (pc' := 260) rfl rfl ?_
        refine s_iload C at_260 (pc' := 262) rfl rfl ?_
        refine s_callSI C at_262 (pc' := 265) rfl (w20 hw) (w21 hw) (w22 hw) (w23 hw) (by decide) [(.int (0 : Int32)), (.int (1 : Int32)), (.long v3), (.int dd)] [(.int (f_bel (0 : Int32) (0 : Int32) v2 dd))] pd4 rfl rfl (c_bel l Z a0 hw (0 : Int32) (1 : Int32) v3 dd h13 n0 sz14 ) rfl (W := 1) rfl (by decide) (by decide) (k' := 2) rfl (by decide) (n' := 6) rfl (by decide) (fun r23 _ qr23 => ?_)
        obtain ⟨rfl, rfl⟩ := qr23
        refine s_iadd C at_265 (pc' := 266) rfl ?_
        refine s_iload C at_266 (pc' := 268) rfl rfl ?_
        refine s_iconst C at_268 (pc' := 269) rfl (2 : Int32) rfl ?_
        refine s_lload C at_269 (pc' := 271) rfl rfl ?_
        refine s_iload C at_271 (pc' := 273) rfl rfl ?_
        refine s_callSI C at_273 (pc' := 276) rfl (w20 hw) (w21 hw) (w22 hw) (w23 hw) (by decide) [(.int (0 : Int32)), (.int (2 : Int32)), (.long v4), (.int dd)] [(.int ((f_bel (0 : Int32) (0 : Int32) v2 dd) + (f_bel (0 : Int32) (1 : Int32) v3 dd)))] pd4 rfl rfl (c_bel l Z a0 hw (0 : Int32) (2 : Int32) v4 dd h13 n0 sz14 ) rfl (W := 1) rfl (by decide) (by decide) (k' := 2) rfl (by decide) (n' := 6) rfl (by decide) (fun r24 _ qr24 => ?_)
        obtain ⟨rfl, rfl⟩ := qr24
        refine s_iadd C at_276 (pc' := 277) rfl ?_
        refine s_iload C at_277 (pc' := 279) rfl rfl ?_
        refine s_iconst C at_279 (pc' := 280) rfl (3 : Int32) rfl ?_
        refine s_lload C at_280 (pc' := 282) rfl rfl ?_
        refine s_iload C at_282 (pc' := 284) rfl rfl ?_
        refine s_callSI C at_284 (pc' := 287) rfl (w20 hw) (w21 hw) (w22 hw) (w23 hw) (by decide) [(.int (0 : Int32)), (.int (3 : Int32)), (.long v5), (.int dd)] [(.int (((f_bel (0 : Int32) (0 : Int32) v2 dd) + (f_bel (0 : Int32) (1 : Int32) v3 dd)) + (f_bel (0 : Int32) (2 : Int32) v4 dd)))] pd4 rfl rfl (c_bel l Z a0 hw (0 : Int32) (3 : Int32) v5 dd h13 n0 sz14 ) rfl (W := 1) rfl (by decide) (by decide) (k' := 2) rfl (by decide) (n' := 6) rfl (by decide) (fun r25 _ qr25 => ?_)
        obtain ⟨rfl, rfl⟩ := qr25
        refine s_iadd C at_287 (pc' := 288) rfl ?_
        refine s_iload C at_288 (pc' := 290) rfl rfl ?_
        refine s_iconst C at_290 (pc' := 291) rfl (4 : Int32) rfl ?_
        refine s_lload C at_291 (pc' := 293) rfl rfl ?_
        refine s_iload C at_293 (pc' := 295) rfl rfl ?_
        refine s_callSI C at_295 (pc' := 298) rfl (w20 hw) (w21 hw) (w22 hw) (w23 hw) (by decide) [(.int (0 : Int32)), (.int (4 : Int32)), (.long v6), (.int dd)] [(.int ((((f_bel (0 : Int32) (0 : Int32) v2 dd) + (f_bel (0 : Int32) (1 : Int32) v3 dd)) + (f_bel (0 : Int32) (2 : Int32) v4 dd)) + (f_bel (0 : Int32) (3 : Int32) v5 dd)))] pd4 rfl rfl (c_bel l Z a0 hw (0 : Int32) (4 : Int32) v6 dd h13 n0 sz14 ) rfl (W := 1) rfl (by decide) (by decide) (k' := 2) rfl (by decide) (n' := 6) rfl (by decide) (fun r26 _ qr26 => ?_)
        obtain ⟨rfl, rfl⟩ := qr26
        refine s_iadd C at_298 (pc' := 299) rfl ?_
        refine s_iload C at_299 (pc' := 301) rfl rfl ?_
        refine s_iconst C at_301 (pc' := 302) rfl (5 : Int32) rfl ?_
        refine s_lload C at_302 (pc' := 304) rfl rfl ?_
        refine s_iload C at_304 (pc' := 306) rfl rfl ?_
        refine s_callSI C at_306 (pc' := 309) rfl (w20 hw) (w21 hw) (w22 hw) (w23 hw) (by decide) [(.int (0 : Int32)), (.int (5 : Int32)), (.long v7), (.int dd)] [(.int (((((f_bel (0 : Int32) (0 : Int32) v2 dd) + (f_bel (0 : Int32) (1 : Int32) v3 dd)) + (f_bel (0 : Int32) (2 : Int32) v4 dd)) + (f_bel (0 : Int32) (3 : Int32) v5 dd)) + (f_bel (0 : Int32) (4 : Int32) v6 dd)))] pd4 rfl rfl (c_bel l Z a0 hw (0 : Int32) (5 : Int32) v7 dd h13 n0 sz14 ) rfl (W := 1) rfl (by decide) (by decide) (k' := 2) rfl (by decide) (n' := 6) rfl (by decide) (fun r27 _ qr27 => ?_)
        obtain ⟨rfl, rfl⟩ := qr27
        refine s_iadd C at_309 (pc' := 310) rfl ?_
        refine s_iload C at_310 (pc' := 312) rfl rfl ?_
        refine s_bipush C at_312 (pc' := 314) rfl (6 : Int32) rfl ?_
        refine s_lload C at_314 (pc' := 316) rfl rfl ?_
        refine s_iload C at_316 (pc' := 318) rfl rfl ?_
        refine s_callSI C at_318 (pc' := 321) rfl (w20 hw) (w21 hw) (w22 hw) (w23 hw) (by decide) [(.int (0 : Int32)), (.int (6 : Int32)), (.long v8), (.int dd)] [(.int ((((((f_bel (0 : Int32) (0 : Int32) v2 dd) + (f_bel (0 : Int32) (1 : Int32) v3 dd)) + (f_bel (0 : Int32) (2 : Int32) v4 dd)) + (f_bel (0 : Int32) (3 : Int32) v5 dd)) + (f_bel (0 : Int32) (4 : Int32) v6 dd)) + (f_bel (0 : Int32) (5 : Int32) v7 dd)))] pd4 rfl rfl (c_bel l Z a0 hw (0 : Int32) (6 : Int32) v8 dd h13 n0 sz14 ) rfl (W := 1) rfl (by decide) (by decide) (k' := 2) rfl (by decide) (n' := 6) rfl (by decide) (fun r28 _ qr28 => ?_)
        obtain ⟨rfl, rfl⟩ := qr28
        refine s_iadd C at_321 (pc' := 322) rfl ?_
        refine s_istoreP C at_322 (pc' := 324) rfl #[.val (.int x1), .val (.int x2), .val (.int x3), .val (.int x4), .val (.int x5), .val (.int (0 : Int32)), .val (.long v2), .second, .val (.long v3), .second, .val (.long v4), .second, .val (.long v5), .second, .val (.long v6), .second, .val (.long v7), .second, .val (.long v8), .second, .val (.int dd), .val (.ref a10), .val (.int (((((((f_bel (0 : Int32) (0 : Int32) v2 dd) + (f_bel (0 : Int32) (1 : Int32) v3 dd)) + (f_bel (0 : Int32) (2 : Int32) v4 dd)) + (f_bel (0 : Int32) (3 : Int32) v5 dd)) + (f_bel (0 : Int32) (4 : Int32) v6 dd)) + (f_bel (0 : Int32) (5 : Int32) v7 dd)) + (f_bel (0 : Int32) (6 : Int32) v8 dd)))] rfl ?_
        refine s_aload C at_324 (pc' := 326) rfl rfl rfl ?_
        refine s_iload C at_326 (pc' := 328) rfl rfl ?_
        refine s_callVI C at_328 (pc' := 331) rfl (w24 hw) (w25 hw) (notFace_of_selects (args := #[]) (mvT C.2.1 (w27 hw))) (w27 hw) (w26 hw) (w3 hw) (w28 hw) (by decide) E13 [(.int dd)] [] pd1 rfl rfl (c_ix0 l Z a0 hw a10  dd h13 n0 sz14 ar13 E13 Fe13 Fs13 V13) rfl (W := 0) rfl (by decide) (by decide) (k' := 2) rfl (by decide) (n' := 6) rfl (by decide) (fun _ _ q29 => ?_)
        obtain ⟨rfl, rfl⟩ := q29
        refine s_iload C at_331 (pc' := 333) rfl rfl ?_
        refine s_icmp_ne C at_333 (pc' := 336) rfl (pcY := 340) rfl (fun hc => by exfalso; exact hc (own_ix0 _ v2 v3 v4 v5 v6 v7 v8  )) (fun c30 => ?_)
        refine s_iconst C at_336 (pc' := 337) rfl (1 : Int32) rfl ?_
        refine s_goto C at_337 (pc' := 341) rfl ?_
        exact s_retN C (by simp) at_341 (by decide) (by decide) rfl
      · obtain rfl : v1 = 1 := hv1.trans q
        refine s_iload C at_147 (pc' := 149) rfl rfl ?_
        refine s_if_le C at_149 (pc' := 152) rfl (pcY := 160) rfl (fun hc => by exfalso; revert hc; decide) (fun c31 => ?_)
        refine s_aload C at_152 (pc' := 154) rfl rfl rfl ?_
        refine s_lload C at_154 (pc' := 156) rfl rfl ?_
        refine s_l2i C at_156 (pc' := 157) rfl ?_
        refine s_callV0 C at_157 (pc' := 160) rfl (w13 hw) (w14 hw) (notFace_of_selects (args := #[]) (mvT C.2.1 (w16 hw))) (w16 hw) (w15 hw) (w3 hw) (w17 hw) (by decide) E13 [(.int v2.toInt32)] [] pd2 rfl rfl (c_add0 l Z a0 hw a10 ar13 v2.toInt32  h13 n0 sz14 E13 gn11 gn13 ne13 Fe13 Fs13 V13) rfl (W := 0) rfl (by decide) (by decide) (k' := 2) rfl (by decide) (n' := 6) rfl (by decide) (fun h32 q32 => ?_)
        obtain ⟨K32, E32, Fe32, Fs32, V32⟩ := q32
        have sz33 : n0 ≤ h32.size := (Nat.le_trans sz14 K32.1)
        refine s_iload C at_160 (pc' := 162) rfl rfl ?_
        refine s_iconst C at_162 (pc' := 163) rfl (1 : Int32) rfl ?_
        refine s_icmp_le C at_163 (pc' := 166) rfl (pcY := 174) rfl (fun c34 => ?_) (fun hc => by exfalso; revert hc; decide)
        refine s_iload C at_174 (pc' := 176) rfl rfl ?_
        refine s_iconst C at_176 (pc' := 177) rfl (2 : Int32) rfl ?_
        refine s_icmp_le C at_177 (pc' := 180) rfl (pcY := 188) rfl (fun c35 => ?_) (fun hc => by exfalso; revert hc; decide)
        refine s_iload C at_188 (pc' := 190) rfl rfl ?_
        refine s_iconst C at_190 (pc' := 191) rfl (3 : Int32) rfl ?_
        refine s_icmp_le C at_191 (pc' := 194) rfl (pcY := 202) rfl (fun c36 => ?_) (fun hc => by exfalso; revert hc; decide)
        refine s_iload C at_202 (pc' := 204) rfl rfl ?_
        refine s_iconst C at_204 (pc' := 205) rfl (4 : Int32) rfl ?_
        refine s_icmp_le C at_205 (pc' := 208) rfl (pcY := 216) rfl (fun c37 => ?_) (fun hc => by exfalso; revert hc; decide)
        refine s_iload C at_216 (pc' := 218) rfl rfl ?_
        refine s_iconst C at_218 (pc' := 219) rfl (5 : Int32) rfl ?_
        refine s_icmp_le C at_219 (pc' := 222) rfl (pcY := 230) rfl (fun c38 => ?_) (fun hc => by exfalso; revert hc; decide)
        refine s_iload C at_230 (pc' := 232) rfl rfl ?_
        refine s_bipush C at_232 (pc' := 234) rfl (6 : Int32) rfl ?_
        refine s_icmp_le C at_234 (pc' := 237) rfl (pcY := 245) rfl (fun c39 => ?_) (fun hc => by exfalso; revert hc; decide)
        refine s_iload C at_245 (pc' := 247) rfl rfl ?_
        refine s_iconst C at_247 (pc' := 248) rfl (0 : Int32) rfl ?_
        refine s_lload C at_248 (pc' := 250) rfl rfl ?_
        refine s_iload C at_250 (pc' := 252) rfl rfl ?_
        refine s_callSI C at_252 (pc' := 255) rfl (w20 hw) (w21 hw) (w22 hw) (w23 hw) (by decide) [(.int (1 : Int32)), (.int (0 : Int32)), (.long v2), (.int dd)] [] pd4 rfl rfl (c_bel l Z a0 hw (1 : Int32) (0 : Int32) v2 dd h32 n0 sz33 ) rfl (W := 0) rfl (by decide) (by decide) (k' := 2) rfl (by decide) (n' := 6) rfl (by decide) (fun r40 _ qr40 => ?_)
        obtain ⟨rfl, rfl⟩ := qr40
        refine s_iload C at_255 (pc' := 257) rfl rfl ?_
        refine s_iconst C at_257 (pc' := 258) rfl (1 : Int32) rfl ?_
        refine s_lload C at_258 (pc' := 260) rfl rfl ?_
        refine s_iload C at_260 (pc' := 262) rfl rfl ?_
        refine s_callSI C at_262 (pc' := 265) rfl (w20 hw) (w21 hw) (w22 hw) (w23 hw) (by decide) [(.int (1 : Int32)), (.int (1 : Int32)), (.long v3), (.int dd)] [(.int (f_bel (1 : Int32) (0 : Int32) v2 dd))] pd4 rfl rfl (c_bel l Z a0 hw (1 : Int32) (1 : Int32) v3 dd h32 n0 sz33 ) rfl (W := 1) rfl (by decide) (by decide) (k' := 2) rfl (by decide) (n' := 6) rfl (by decide) (fun r41 _ qr41 => ?_)
        obtain ⟨rfl, rfl⟩ := qr41
        refine s_iadd C at_265 (pc' := 266) rfl ?_
        refine s_iload C at_266 (pc' := 268) rfl rfl ?_
        refine s_iconst C at_268 (pc' := 269) rfl (2 : Int32) rfl ?_
        refine s_lload C at_269 (pc' := 271) rfl rfl ?_
        refine s_iload C at_271 (pc' := 273) rfl rfl ?_
        refine s_callSI C at_273 (pc' := 276) rfl (w20 hw) (w21 hw) (w22 hw) (w23 hw) (by decide) [(.int (1 : Int32)), (.int (2 : Int32)), (.long v4), (.int dd)] [(.int ((f_bel (1 : Int32) (0 : Int32) v2 dd) + (f_bel (1 : Int32) (1 : Int32) v3 dd)))] pd4 rfl rfl (c_bel l Z a0 hw (1 : Int32) (2 : Int32) v4 dd h32 n0 sz33 ) rfl (W := 1) rfl (by decide) (by decide) (k' := 2) rfl (by decide) (n' := 6) rfl (by decide) (fun r42 _ qr42 => ?_)
        obtain ⟨rfl, rfl⟩ := qr42
        refine s_iadd C at_276 (pc' := 277) rfl ?_
        refine s_iload C at_277 (pc' := 279) rfl rfl ?_
        refine s_iconst C at_279 (pc' := 280) rfl (3 : Int32) rfl ?_
        refine s_lload C at_280 (pc' := 282) rfl rfl ?_
        refine s_iload C at_282 (pc' := 284) rfl rfl ?_
        refine s_callSI C at_284 (pc' := 287) rfl (w20 hw) (w21 hw) (w22 hw) (w23 hw) (by decide) [(.int (1 : Int32)), (.int (3 : Int32)), (.long v5), (.int dd)] [(.int (((f_bel (1 : Int32) (0 : Int32) v2 dd) + (f_bel (1 : Int32) (1 : Int32) v3 dd)) + (f_bel (1 : Int32) (2 : Int32) v4 dd)))] pd4 rfl rfl (c_bel l Z a0 hw (1 : Int32) (3 : Int32) v5 dd h32 n0 sz33 ) rfl (W := 1) rfl (by decide) (by decide) (k' := 2) rfl (by decide) (n' := 6) rfl (by decide) (fun r43 _ qr43 => ?_)
        obtain ⟨rfl, rfl⟩ := qr43
        refine s_iadd C at_287 (pc' := 288) rfl ?_
        refine s_iload C at_288 (pc' := 290) rfl rfl ?_
        refine s_iconst C at_290 (pc' := 291) rfl (4 : Int32) rfl ?_
        refine s_lload C at_291 (pc' := 293) rfl rfl ?_
        refine s_iload C at_293 (pc' := 295) rfl rfl ?_
        refine s_callSI C at_295 (pc' := 298) rfl (w20 hw) (w21 hw) (w22 hw) (w23 hw) (by decide) [(.int (1 : Int32)), (.int (4 : Int32)), (.long v6), (.int dd)] [(.int ((((f_bel (1 : Int32) (0 : Int32) v2 dd) + (f_bel (1 : Int32) (1 : Int32) v3 dd)) + (f_bel (1 : Int32) (2 : Int32) v4 dd)) + (f_bel (1 : Int32) (3 : Int32) v5 dd)))] pd4 rfl rfl (c_bel l Z a0 hw (1 : Int32) (4 : Int32) v6 dd h32 n0 sz33 ) rfl (W := 1) rfl (by decide) (by decide) (k' := 2) rfl (by decide) (n' := 6) rfl (by decide) (fun r44 _ qr44 => ?_)
        obtain ⟨rfl, rfl⟩ := qr44
        refine s_iadd C at_298 (pc' := 299) rfl ?_
        refine s_iload C at_299 (pc' := 301) rfl rfl ?_
        refine s_iconst C at_301 (pc' := 302) rfl (5 : Int32) rfl ?_
        refine s_lload C at_302 (pc' := 304) rfl rfl ?_
        refine s_iload C at_304 (pc' := 306) rfl rfl ?_
        refine s_callSI C at_306 (pc' := 309) rfl (w20 hw) (w21 hw) (w22 hw) (w23 hw) (by decide) [(.int (1 : Int32)), (.int (5 : Int32)), (.long v7), (.int dd)] [(.int (((((f_bel (1 : Int32) (0 : Int32) v2 dd) + (f_bel (1 : Int32) (1 : Int32) v3 dd)) + (f_bel (1 : Int32) (2 : Int32) v4 dd)) + (f_bel (1 : Int32) (3 : Int32) v5 dd)) + (f_bel (1 : Int32) (4 : Int32) v6 dd)))] pd4 rfl rfl (c_bel l Z a0 hw (1 : Int32) (5 : Int32) v7 dd h32 n0 sz33 ) rfl (W := 1) rfl (by decide) (by decide) (k' := 2) rfl (by decide) (n' := 6) rfl (by decide) (fun r45 _ qr45 => ?_)
        obtain ⟨rfl, rfl⟩ := qr45
        refine s_iadd C at_309 (pc' := 310) rfl ?_
        refine s_iload C at_310 (pc' := 312) rfl rfl ?_
        refine s_bipush C at_312 (pc' := 314) rfl (6 : Int32) rfl ?_
        refine s_lload C at_314 (pc' := 316) rfl rfl ?_
        refine s_iload C at_316 (pc' := 318) rfl rfl ?_
        refine s_callSI C at_318 (pc' := 321) rfl (w20 hw) (w21 hw) (w22 hw) (w23 hw) (by decide) [(.int (1 : Int32)), (.int (6 : Int32)), (.long v8), (.int dd)] [(.int ((((((f_bel (1 : Int32) (0 : Int32) v2 dd) + (f_bel (1 : Int32) (1 : Int32) v3 dd)) + (f_bel (1 : Int32) (2 : Int32) v4 dd)) + (f_bel (1 : Int32) (3 : Int32) v5 dd)) + (f_bel (1 : Int32) (4 : Int32) v6 dd)) + (f_bel (1 : Int32) (5 : Int32) v7 dd)))] pd4 rfl rfl (c_bel l Z a0 hw (1 : Int32) (6 : Int32) v8 dd h32 n0 sz33 ) rfl (W := 1) rfl (by decide) (by decide) (k' := 2) rfl (by decide) (n' := 6) rfl (by decide) (fun r46 _ qr46 => ?_)
        obtain ⟨rfl, rfl⟩ := qr46
        refine s_iadd C at_321 (pc' := 322) rfl ?_
        refine s_istoreP C at_322 (pc' := 324) rfl #[.val (.int x1), .val (.int x2), .val (.int x3), .val (.int x4), .val (.int x5), .val (.int (1 : Int32)), .val (.long v2), .second, .val (.long v3), .second, .val (.long v4), .second, .val (.long v5), .second, .val (.long v6), .second, .val (.long v7), .second, .val (.long v8), .second, .val (.int dd), .val (.ref a10), .val (.int (((((((f_bel (1 : Int32) (0 : Int32) v2 dd) + (f_bel (1 : Int32) (1 : Int32) v3 dd)) + (f_bel (1 : Int32) (2 : Int32) v4 dd)) + (f_bel (1 : Int32) (3 : Int32) v5 dd)) + (f_bel (1 : Int32) (4 : Int32) v6 dd)) + (f_bel (1 : Int32) (5 : Int32) v7 dd)) + (f_bel (1 : Int32) (6 : Int32) v8 dd)))] rfl ?_
        refine s_aload C at_324 (pc' := 326) rfl rfl rfl ?_
        refine s_iload C at_326 (pc' := 328) rfl rfl ?_
        refine s_callVI C at_328 (pc' := 331) rfl (w24 hw) (w25 hw) (notFace_of_selects (args := #[]) (mvT C.2.1 (w27 hw))) (w27 hw) (w26 hw) (w3 hw) (w28 hw) (by decide) E32 [(.int dd)] [] pd1 rfl rfl (c_ix1 l Z a0 hw a10 v2.toInt32 dd h32 n0 sz33 ar13 E32 Fe32 Fs32 V32) rfl (W := 0) rfl (by decide) (by decide) (k' := 2) rfl (by decide) (n' := 6) rfl (by decide) (fun _ _ q47 => ?_)
        obtain ⟨rfl, rfl⟩ := q47
        refine s_iload C at_331 (pc' := 333) rfl rfl ?_
        refine s_icmp_ne C at_333 (pc' := 336) rfl (pcY := 340) rfl (fun hc => by exfalso; exact hc (own_ix1 _ v2 v3 v4 v5 v6 v7 v8 (own_lt (by omega) (by omega)) )) (fun c48 => ?_)
        refine s_iconst C at_336 (pc' := 337) rfl (1 : Int32) rfl ?_
        refine s_goto C at_337 (pc' := 341) rfl ?_
        exact s_retN C (by simp) at_341 (by decide) (by decide) rfl
      · obtain rfl : v1 = 2 := hv1.trans q
        refine s_iload C at_147 (pc' := 149) rfl rfl ?_
        refine s_if_le C at_149 (pc' := 152) rfl (pcY := 160) rfl (fun hc => by exfalso; revert hc; decide) (fun c49 => ?_)
        refine s_aload C at_152 (pc' := 154) rfl rfl rfl ?_
        refine s_lload C at_154 (pc' := 156) rfl rfl ?_
        refine s_l2i C at_156 (pc' := 157) rfl ?_
        refine s_callV0 C at_157 (pc' := 160) rfl (w13 hw) (w14 hw) (notFace_of_selects (args := #[]) (mvT C.2.1 (w16 hw))) (w16 hw) (w15 hw) (w3 hw) (w17 hw) (by decide) E13 [(.int v2.toInt32)] [] pd2 rfl rfl (c_add0 l Z a0 hw a10 ar13 v2.toInt32  h13 n0 sz14 E13 gn11 gn13 ne13 Fe13 Fs13 V13) rfl (W := 0) rfl (by decide) (by decide) (k' := 2) rfl (by decide) (n' := 6) rfl (by decide) (fun h50 q50 => ?_)
        obtain ⟨K50, E50, Fe50, Fs50, V50⟩ := q50
        have sz51 : n0 ≤ h50.size := (Nat.le_trans sz14 K50.1)
        refine s_iload C at_160 (pc' := 162) rfl rfl ?_
        refine s_iconst C at_162 (pc' := 163) rfl (1 : Int32) rfl ?_
        refine s_icmp_le C at_163 (pc' := 166) rfl (pcY := 174) rfl (fun hc => by exfalso; revert hc; decide) (fun c52 => ?_)
        refine s_aload C at_166 (pc' := 168) rfl rfl rfl ?_
        refine s_lload C at_168 (pc' := 170) rfl rfl ?_
        refine s_l2i C at_170 (pc' := 171) rfl ?_
        refine s_callV0 C at_171 (pc' := 174) rfl (w13 hw) (w14 hw) (notFace_of_selects (args := #[]) (mvT C.2.1 (w16 hw))) (w16 hw) (w15 hw) (w3 hw) (w17 hw) (by decide) E50 [(.int v3.toInt32)] [] pd2 rfl rfl (c_add1 l Z a0 hw a10 ar13 v3.toInt32 v2.toInt32 h50 n0 sz51 E50 gn11 gn13 ne13 Fe50 Fs50 V50) rfl (W := 0) rfl (by decide) (by decide) (k' := 2) rfl (by decide) (n' := 6) rfl (by decide) (fun h53 q53 => ?_)
        obtain ⟨K53, E53, Fe53, Fs53, V53⟩ := q53
        have sz54 : n0 ≤ h53.size := (Nat.le_trans sz51 K53.1)
        refine s_iload C at_174 (pc' := 176) rfl rfl ?_
        refine s_iconst C at_176 (pc' := 177) rfl (2 : Int32) rfl ?_
        refine s_icmp_le C at_177 (pc' := 180) rfl (pcY := 188) rfl (fun c55 => ?_) (fun hc => by exfalso; revert hc; decide)
        refine s_iload C at_188 (pc' := 190) rfl rfl ?_
        refine s_iconst C at_190 (pc' := 191) rfl (3 : Int32) rfl ?_
        refine s_icmp_le C at_191 (pc' := 194) rfl (pcY := 202) rfl (fun c56 => ?_) (fun hc => by exfalso; revert hc; decide)
        refine s_iload C at_202 (pc' := 204) rfl rfl ?_
        refine s_iconst C at_204 (pc' := 205) rfl (4 : Int32) rfl ?_
        refine s_icmp_le C at_205 (pc' := 208) rfl (pcY := 216) rfl (fun c57 => ?_) (fun hc => by exfalso; revert hc; decide)
        refine s_iload C at_216 (pc' := 218) rfl rfl ?_
        refine s_iconst C at_218 (pc' := 219) rfl (5 : Int32) rfl ?_
        refine s_icmp_le C at_219 (pc' := 222) rfl (pcY := 230) rfl (fun c58 => ?_) (fun hc => by exfalso; revert hc; decide)
        refine s_iload C at_230 (pc' := 232) rfl rfl ?_
        refine s_bipush C at_232 (pc' := 234) rfl (6 : Int32) rfl ?_
        refine s_icmp_le C at_234 (pc' := 237) rfl (pcY := 245) rfl (fun c59 => ?_) (fun hc => by exfalso; revert hc; decide)
        refine s_iload C at_245 (pc' := 247) rfl rfl ?_
        refine s_iconst C at_247 (pc' := 248) rfl (0 : Int32) rfl ?_
        refine s_lload C at_248 (pc' := 250) rfl rfl ?_
        refine s_iload C at_250 (pc' := 252) rfl rfl ?_
        refine s_callSI C at_252 (pc' := 255) rfl (w20 hw) (w21 hw) (w22 hw) (w23 hw) (by decide) [(.int (2 : Int32)), (.int (0 : Int32)), (.long v2), (.int dd)] [] pd4 rfl rfl (c_bel l Z a0 hw (2 : Int32) (0 : Int32) v2 dd h53 n0 sz54 ) rfl (W := 0) rfl (by decide) (by decide) (k' := 2) rfl (by decide) (n' := 6) rfl (by decide) (fun r60 _ qr60 => ?_)
        obtain ⟨rfl, rfl⟩ := qr60
        refine s_iload C at_255 (pc' := 257) rfl rfl ?_
        refine s_iconst C at_257 (pc' := 258) rfl (1 : Int32) rfl ?_
        refine s_lload C at_258 (pc' := 260) rfl rfl ?_
        refine s_iload C at_260 (pc' := 262) rfl rfl ?_
        refine s_callSI C at_262 (pc' := 265) rfl (w20 hw) (w21 hw) (w22 hw) (w23 hw) (by decide) [(.int (2 : Int32)), (.int (1 : Int32)), (.long v3), (.int dd)] [(.int (f_bel (2 : Int32) (0 : Int32) v2 dd))] pd4 rfl rfl (c_bel l Z a0 hw (2 : Int32) (1 : Int32) v3 dd h53 n0 sz54 ) rfl (W := 1) rfl (by decide) (by decide) (k' := 2) rfl (by decide) (n' := 6) rfl (by decide) (fun r61 _ qr61 => ?_)
        obtain ⟨rfl, rfl⟩ := qr61
        refine s_iadd C at_265 (pc' := 266) rfl ?_
        refine s_iload C at_266 (pc' := 268) rfl rfl ?_
        refine s_iconst C at_268 (pc' := 269) rfl (2 : Int32) rfl ?_
        refine s_lload C at_269 (pc' := 271) rfl rfl ?_
        refine s_iload C at_271 (pc' := 273) rfl rfl ?_
        refine s_callSI C at_273 (pc' := 276) rfl (w20 hw) (w21 hw) (w22 hw) (w23 hw) (by decide) [(.int (2 : Int32)), (.int (2 : Int32)), (.long v4), (.int dd)] [(.int ((f_bel (2 : Int32) (0 : Int32) v2 dd) + (f_bel (2 : Int32) (1 : Int32) v3 dd)))] pd4 rfl rfl (c_bel l Z a0 hw (2 : Int32) (2 : Int32) v4 dd h53 n0 sz54 ) rfl (W := 1) rfl (by decide) (by decide) (k' := 2) rfl (by decide) (n' := 6) rfl (by decide) (fun r62 _ qr62 => ?_)
        obtain ⟨rfl, rfl⟩ := qr62
        refine s_iadd C at_276 (pc' := 277) rfl ?_
        refine s_iload C at_277 (pc' := 279) rfl rfl ?_
        refine s_iconst C at_279 (pc' := 280) rfl (3 : Int32) rfl ?_
        refine s_lload C at_280 (pc' := 282) rfl rfl ?_
        refine s_iload C at_282 (pc' := 284) rfl rfl ?_
        refine s_callSI C at_284 (pc' := 287) rfl (w20 hw) (w21 hw) (w22 hw) (w23 hw) (by decide) [(.int (2 : Int32)), (.int (3 : Int32)), (.long v5), (.int dd)] [(.int (((f_bel (2 : Int32) (0 : Int32) v2 dd) + (f_bel (2 : Int32) (1 : Int32) v3 dd)) + (f_bel (2 : Int32) (2 : Int32) v4 dd)))] pd4 rfl rfl (c_bel l Z a0 hw (2 : Int32) (3 : Int32) v5 dd h53 n0 sz54 ) rfl (W := 1) rfl (by decide) (by decide) (k' := 2) rfl (by decide) (n' := 6) rfl (by decide) (fun r63 _ qr63 => ?_)
        obtain ⟨rfl, rfl⟩ := qr63
        refine s_iadd C at_287 (pc' := 288) rfl ?_
        refine s_iload C at_288 (pc' := 290) rfl rfl ?_
        refine s_iconst C at_290 (pc' := 291) rfl (4 : Int32) rfl ?_
        refine s_lload C at_291 (pc' := 293) rfl rfl ?_
        refine s_iload C at_293 (pc' := 295) rfl rfl ?_
        refine s_callSI C at_295 (pc' := 298) rfl (w20 hw) (w21 hw) (w22 hw) (w23 hw) (by decide) [(.int (2 : Int32)), (.int (4 : Int32)), (.long v6), (.int dd)] [(.int ((((f_bel (2 : Int32) (0 : Int32) v2 dd) + (f_bel (2 : Int32) (1 : Int32) v3 dd)) + (f_bel (2 : Int32) (2 : Int32) v4 dd)) + (f_bel (2 : Int32) (3 : Int32) v5 dd)))] pd4 rfl rfl (c_bel l Z a0 hw (2 : Int32) (4 : Int32) v6 dd h53 n0 sz54 ) rfl (W := 1) rfl (by decide) (by decide) (k' := 2) rfl (by decide) (n' := 6) rfl (by decide) (fun r64 _ qr64 => ?_)
        obtain ⟨rfl, rfl⟩ := qr64
        refine s_iadd C at_298 (pc' := 299) rfl ?_
        refine s_iload C at_299 (pc' := 301) rfl rfl ?_
        refine s_iconst C at_301 (pc' := 302) rfl (5 : Int32) rfl ?_
        refine s_lload C at_302 (pc' := 304) rfl rfl ?_
        refine s_iload C at_304 (pc' := 306) rfl rfl ?_
        refine s_callSI C at_306 (pc' := 309) rfl (w20 hw) (w21 hw) (w22 hw) (w23 hw) (by decide) [(.int (2 : Int32)), (.int (5 : Int32)), (.long v7), (.int dd)] [(.int (((((f_bel (2 : Int32) (0 : Int32) v2 dd) + (f_bel (2 : Int32) (1 : Int32) v3 dd)) + (f_bel (2 : Int32) (2 : Int32) v4 dd)) + (f_bel (2 : Int32) (3 : Int32) v5 dd)) + (f_bel (2 : Int32) (4 : Int32) v6 dd)))] pd4 rfl rfl (c_bel l Z a0 hw (2 : Int32) (5 : Int32) v7 dd h53 n0 sz54 ) rfl (W := 1) rfl (by decide) (by decide) (k' := 2) rfl (by decide) (n' := 6) rfl (by decide) (fun r65 _ qr65 => ?_)
        obtain ⟨rfl, rfl⟩ := qr65
        refine s_iadd C at_309 (pc' := 310) rfl ?_
        refine s_iload C at_310 (pc' := 312) rfl rfl ?_
        refine s_bipush C at_312 (pc' := 314) rfl (6 : Int32) rfl ?_
        refine s_lload C at_314 (pc' := 316) rfl rfl ?_
        refine s_iload C at_316 (pc' := 318) rfl rfl ?_
        refine s_callSI C at_318 (pc' := 321) rfl (w20 hw) (w21 hw) (w22 hw) (w23 hw) (by decide) [(.int (2 : Int32)), (.int (6 : Int32)), (.long v8), (.int dd)] [(.int ((((((f_bel (2 : Int32) (0 : Int32) v2 dd) + (f_bel (2 : Int32) (1 : Int32) v3 dd)) + (f_bel (2 : Int32) (2 : Int32) v4 dd)) + (f_bel (2 : Int32) (3 : Int32) v5 dd)) + (f_bel (2 : Int32) (4 : Int32) v6 dd)) + (f_bel (2 : Int32) (5 : Int32) v7 dd)))] pd4 rfl rfl (c_bel l Z a0 hw (2 : Int32) (6 : Int32) v8 dd h53 n0 sz54 ) rfl (W := 1) rfl (by decide) (by decide) (k' := 2) rfl (by decide) (n' := 6) rfl (by decide) (fun r66 _ qr66 => ?_)
        obtain ⟨rfl, rfl⟩ := qr66
        refine s_iadd C at_321 (pc' := 322) rfl ?_
        refine s_istoreP C at_322 (pc' := 324) rfl #[.val (.int x1), .val (.int x2), .val (.int x3), .val (.int x4), .val (.int x5), .val (.int (2 : Int32)), .val (.long v2), .second, .val (.long v3), .second, .val (.long v4), .second, .val (.long v5), .second, .val (.long v6), .second, .val (.long v7), .second, .val (.long v8), .second, .val (.int dd), .val (.ref a10), .val (.int (((((((f_bel (2 : Int32) (0 : Int32) v2 dd) + (f_bel (2 : Int32) (1 : Int32) v3 dd)) + (f_bel (2 : Int32) (2 : Int32) v4 dd)) + (f_bel (2 : Int32) (3 : Int32) v5 dd)) + (f_bel (2 : Int32) (4 : Int32) v6 dd)) + (f_bel (2 : Int32) (5 : Int32) v7 dd)) + (f_bel (2 : Int32) (6 : Int32) v8 dd)))] rfl ?_
        refine s_aload C at_324 (pc' := 326) rfl rfl rfl ?_
        refine s_iload C at_326 (pc' := 328) rfl rfl ?_
        refine s_callVI C at_328 (pc' := 331) rfl (w24 hw) (w25 hw) (notFace_of_selects (args := #[]) (mvT C.2.1 (w27 hw))) (w27 hw) (w26 hw) (w3 hw) (w28 hw) (by decide) E53 [(.int dd)] [] pd1 rfl rfl (c_ix2 l Z a0 hw a10 v2.toInt32 v3.toInt32 dd h53 n0 sz54 ar13 E53 Fe53 Fs53 V53) rfl (W := 0) rfl (by decide) (by decide) (k' := 2) rfl (by decide) (n' := 6) rfl (by decide) (fun _ _ q67 => ?_)
        obtain ⟨rfl, rfl⟩ := q67
        refine s_iload C at_331 (pc' := 333) rfl rfl ?_
        refine s_icmp_ne C at_333 (pc' := 336) rfl (pcY := 340) rfl (fun hc => by exfalso; exact hc (own_ix2 _ v2 v3 v4 v5 v6 v7 v8 (own_lt (by omega) (by omega)) (own_lt (by omega) (by omega)) (own_mono (by omega)))) (fun c68 => ?_)
        refine s_iconst C at_336 (pc' := 337) rfl (1 : Int32) rfl ?_
        refine s_goto C at_337 (pc' := 341) rfl ?_
        exact s_retN C (by simp) at_341 (by decide) (by decide) rfl
      · obtain rfl : v1 = 3 := hv1.trans q
        refine s_iload C at_147 (pc' := 149) rfl rfl ?_
        refine s_if_le C at_149 (pc' := 152) rfl (pcY := 160) rfl (fun hc => by exfalso; revert hc; decide) (fun c69 => ?_)
        refine s_aload C at_152 (pc' := 154) rfl rfl rfl ?_
        refine s_lload C at_154 (pc' := 156) rfl rfl ?_
        refine s_l2i C at_156 (pc' := 157) rfl ?_
        refine s_callV0 C at_157 (pc' := 160) rfl (w13 hw) (w14 hw) (notFace_of_selects (args := #[]) (mvT C.2.1 (w16 hw))) (w16 hw) (w15 hw) (w3 hw) (w17 hw) (by decide) E13 [(.int v2.toInt32)] [] pd2 rfl rfl (c_add0 l Z a0 hw a10 ar13 v2.toInt32  h13 n0 sz14 E13 gn11 gn13 ne13 Fe13 Fs13 V13) rfl (W := 0) rfl (by decide) (by decide) (k' := 2) rfl (by decide) (n' := 6) rfl (by decide) (fun h70 q70 => ?_)
        obtain ⟨K70, E70, Fe70, Fs70, V70⟩ := q70
        have sz71 : n0 ≤ h70.size := (Nat.le_trans sz14 K70.1)
        refine s_iload C at_160 (pc' := 162) rfl rfl ?_
        refine s_iconst C at_162 (pc' := 163) rfl (1 : Int32) rfl ?_
        refine s_icmp_le C at_163 (pc' := 166) rfl (pcY := 174) rfl (fun hc => by exfalso; revert hc; decide) (fun c72 => ?_)
        refine s_aload C at_166 (pc' := 168) rfl rfl rfl ?_
        refine s_lload C at_168 (pc' := 170) rfl rfl ?_
        refine s_l2i C at_170 (pc' := 171) rfl ?_
        refine s_callV0 C at_171 (pc' := 174) rfl (w13 hw) (w14 hw) (notFace_of_selects (args := #[]) (mvT C.2.1 (w16 hw))) (w16 hw) (w15 hw) (w3 hw) (w17 hw) (by decide) E70 [(.int v3.toInt32)] [] pd2 rfl rfl (c_add1 l Z a0 hw a10 ar13 v3.toInt32 v2.toInt32 h70 n0 sz71 E70 gn11 gn13 ne13 Fe70 Fs70 V70) rfl (W := 0) rfl (by decide) (by decide) (k' := 2) rfl (by decide) (n' := 6) rfl (by decide) (fun h73 q73 => ?_)
        obtain ⟨K73, E73, Fe73, Fs73, V73⟩ := q73
        have sz74 : n0 ≤ h73.size := (Nat.le_trans sz71 K73.1)
        refine s_iload C at_174 (pc' := 176) rfl rfl ?_
        refine s_iconst C at_176 (pc' := 177) rfl (2 : Int32) rfl ?_
        refine s_icmp_le C at_177 (pc' := 180) rfl (pcY := 188) rfl (fun hc => by exfalso; revert hc; decide) (fun c75 => ?_)
        refine s_aload C at_180 (pc' := 182) rfl rfl rfl ?_
        refine s_lload C at_182 (pc' := 184) rfl rfl ?_
        refine s_l2i C at_184 (pc' := 185) rfl ?_
        refine s_callV0 C at_185 (pc' := 188) rfl (w13 hw) (w14 hw) (notFace_of_selects (args := #[]) (mvT C.2.1 (w16 hw))) (w16 hw) (w15 hw) (w3 hw) (w17 hw) (by decide) E73 [(.int v4.toInt32)] [] pd2 rfl rfl (c_add2 l Z a0 hw a10 ar13 v4.toInt32 v2.toInt32 v3.toInt32 h73 n0 sz74 E73 gn11 gn13 ne13 Fe73 Fs73 V73) rfl (W := 0) rfl (by decide) (by decide) (k' := 2) rfl (by decide) (n' := 6) rfl (by decide) (fun h76 q76 => ?_)
        obtain ⟨K76, E76, Fe76, Fs76, V76⟩ := q76
        have sz77 : n0 ≤ h76.size := (Nat.le_trans sz74 K76.1)
        refine s_iload C at_188 (pc' := 190) rfl rfl ?_
        refine s_iconst C at_190 (pc' := 191) rfl (3 : Int32) rfl ?_
        refine s_icmp_le C at_191 (pc' := 194) rfl (pcY := 202) rfl (fun c78 => ?_) (fun hc => by exfalso; revert hc; decide)
        refine s_iload C at_202 (pc' := 204) rfl rfl ?_
        refine s_iconst C at_204 (pc' := 205) rfl (4 : Int32) rfl ?_
        refine s_icmp_le C at_205 (pc' := 208) rfl (pcY := 216) rfl (fun c79 => ?_) (fun hc => by exfalso; revert hc; decide)
        refine s_iload C at_216 (pc' := 218) rfl rfl ?_
        refine s_iconst C at_218 (pc' := 219) rfl (5 : Int32) rfl ?_
        refine s_icmp_le C at_219 (pc' := 222) rfl (pcY := 230) rfl (fun c80 => ?_) (fun hc => by exfalso; revert hc; decide)
        refine s_iload C at_230 (pc' := 232) rfl rfl ?_
        refine s_bipush C at_232 (pc' := 234) rfl (6 : Int32) rfl ?_
        refine s_icmp_le C at_234 (pc' := 237) rfl (pcY := 245) rfl (fun c81 => ?_) (fun hc => by exfalso; revert hc; decide)
        refine s_iload C at_245 (pc' := 247) rfl rfl ?_
        refine s_iconst C at_247 (pc' := 248) rfl (0 : Int32) rfl ?_
        refine s_lload C at_248 (pc' := 250) rfl rfl ?_
        refine s_iload C at_250 (pc' := 252) rfl rfl ?_
        refine s_callSI C at_252 (pc' := 255) rfl (w20 hw) (w21 hw) (w22 hw) (w23 hw) (by decide) [(.int (3 : Int32)), (.int (0 : Int32)), (.long v2), (.int dd)] [] pd4 rfl rfl (c_bel l Z a0 hw (3 : Int32) (0 : Int32) v2 dd h76 n0 sz77 ) rfl (W := 0) rfl (by decide) (by decide) (k' := 2) rfl (by decide) (n' := 6) rfl (by decide) (fun r82 _ qr82 => ?_)
        obtain ⟨rfl, rfl⟩ := qr82
        refine s_iload C at_255 (pc' := 257) rfl rfl ?_
        refine s_iconst C at_257 (pc' := 258) rfl (1 : Int32) rfl ?_
        refine s_lload C at_258 (pc' := 260) rfl rfl ?_
        refine s_iload C at_260 (pc' := 262) rfl rfl ?_
        refine s_callSI C at_262 (pc' := 265) rfl (w20 hw) (w21 hw) (w22 hw) (w23 hw) (by decide) [(.int (3 : Int32)), (.int (1 : Int32)), (.long v3), (.int dd)] [(.int (f_bel (3 : Int32) (0 : Int32) v2 dd))] pd4 rfl rfl (c_bel l Z a0 hw (3 : Int32) (1 : Int32) v3 dd h76 n0 sz77 ) rfl (W := 1) rfl (by decide) (by decide) (k' := 2) rfl (by decide) (n' := 6) rfl (by decide) (fun r83 _ qr83 => ?_)
        obtain ⟨rfl, rfl⟩ := qr83
        refine s_iadd C at_265 (pc' := 266) rfl ?_
        refine s_iload C at_266 (pc' := 268) rfl rfl ?_
        refine s_iconst C at_268 (pc' := 269) rfl (2 : Int32) rfl ?_
        refine s_lload C at_269 (pc' := 271) rfl rfl ?_
        refine s_iload C at_271 (pc' := 273) rfl rfl ?_
        refine s_callSI C at_273 (pc' := 276) rfl (w20 hw) (w21 hw) (w22 hw) (w23 hw) (by decide) [(.int (3 : Int32)), (.int (2 : Int32)), (.long v4), (.int dd)] [(.int ((f_bel (3 : Int32) (0 : Int32) v2 dd) + (f_bel (3 : Int32) (1 : Int32) v3 dd)))] pd4 rfl rfl (c_bel l Z a0 hw (3 : Int32) (2 : Int32) v4 dd h76 n0 sz77 ) rfl (W := 1) rfl (by decide) (by decide) (k' := 2) rfl (by decide) (n' := 6) rfl (by decide) (fun r84 _ qr84 => ?_)
        obtain ⟨rfl, rfl⟩ := qr84
        refine s_iadd C at_276 (pc' := 277) rfl ?_
        refine s_iload C at_277 (pc' := 279) rfl rfl ?_
        refine s_iconst C at_279 (pc' := 280) rfl (3 : Int32) rfl ?_
        refine s_lload C at_280 (pc' := 282) rfl rfl ?_
        refine s_iload C at_282 (pc' := 284) rfl rfl ?_
        refine s_callSI C at_284 (pc' := 287) rfl (w20 hw) (w21 hw) (w22 hw) (w23 hw) (by decide) [(.int (3 : Int32)), (.int (3 : Int32)), (.long v5), (.int dd)] [(.int (((f_bel (3 : Int32) (0 : Int32) v2 dd) + (f_bel (3 : Int32) (1 : Int32) v3 dd)) + (f_bel (3 : Int32) (2 : Int32) v4 dd)))] pd4 rfl rfl (c_bel l Z a0 hw (3 : Int32) (3 : Int32) v5 dd h76 n0 sz77 ) rfl (W := 1) rfl (by decide) (by decide) (k' := 2) rfl (by decide) (n' := 6) rfl (by decide) (fun r85 _ qr85 => ?_)
        obtain ⟨rfl, rfl⟩ := qr85
        refine s_iadd C at_287 (pc' := 288) rfl ?_
        refine s_iload C at_288 (pc' := 290) rfl rfl ?_
        refine s_iconst C at_290 (pc' := 291) rfl (4 : Int32) rfl ?_
        refine s_lload C at_291 (pc' := 293) rfl rfl ?_
        refine s_iload C at_293 (pc' := 295) rfl rfl ?_
        refine s_callSI C at_295 (pc' := 298) rfl (w20 hw) (w21 hw) (w22 hw) (w23 hw) (by decide) [(.int (3 : Int32)), (.int (4 : Int32)), (.long v6), (.int dd)] [(.int ((((f_bel (3 : Int32) (0 : Int32) v2 dd) + (f_bel (3 : Int32) (1 : Int32) v3 dd)) + (f_bel (3 : Int32) (2 : Int32) v4 dd)) + (f_bel (3 : Int32) (3 : Int32) v5 dd)))] pd4 rfl rfl (c_bel l Z a0 hw (3 : Int32) (4 : Int32) v6 dd h76 n0 sz77 ) rfl (W := 1) rfl (by decide) (by decide) (k' := 2) rfl (by decide) (n' := 6) rfl (by decide) (fun r86 _ qr86 => ?_)
        obtain ⟨rfl, rfl⟩ := qr86
        refine s_iadd C at_298 (pc' := 299) rfl ?_
        refine s_iload C at_299 (pc' := 301) rfl rfl ?_
        refine s_iconst C at_301 (pc' := 302) rfl (5 : Int32) rfl ?_
        refine s_lload C at_302 (pc' := 304) rfl rfl ?_
        refine s_iload C at_304 (pc' := 306) rfl rfl ?_
        refine s_callSI C at_306 (pc' := 309) rfl (w20 hw) (w21 hw) (w22 hw) (w23 hw) (by decide) [(.int (3 : Int32)), (.int (5 : Int32)), (.long v7), (.int dd)] [(.int (((((f_bel (3 : Int32) (0 : Int32) v2 dd) + (f_bel (3 : Int32) (1 : Int32) v3 dd)) + (f_bel (3 : Int32) (2 : Int32) v4 dd)) + (f_bel (3 : Int32) (3 : Int32) v5 dd)) + (f_bel (3 : Int32) (4 : Int32) v6 dd)))] pd4 rfl rfl (c_bel l Z a0 hw (3 : Int32) (5 : Int32) v7 dd h76 n0 sz77 ) rfl (W := 1) rfl (by decide) (by decide) (k' := 2) rfl (by decide) (n' := 6) rfl (by decide) (fun r87 _ qr87 => ?_)
        obtain ⟨rfl, rfl⟩ := qr87
        refine s_iadd C at_309 (pc' := 310) rfl ?_
        refine s_iload C at_310 (pc' := 312) rfl rfl ?_
        refine s_bipush C at_312 (pc' := 314) rfl (6 : Int32) rfl ?_
        refine s_lload C at_314 (pc' := 316) rfl rfl ?_
        refine s_iload C at_316 (pc' := 318) rfl rfl ?_
        refine s_callSI C at_318 (pc' := 321) rfl (w20 hw) (w21 hw) (w22 hw) (w23 hw) (by decide) [(.int (3 : Int32)), (.int (6 : Int32)), (.long v8), (.int dd)] [(.int ((((((f_bel (3 : Int32) (0 : Int32) v2 dd) + (f_bel (3 : Int32) (1 : Int32) v3 dd)) + (f_bel (3 : Int32) (2 : Int32) v4 dd)) + (f_bel (3 : Int32) (3 : Int32) v5 dd)) + (f_bel (3 : Int32) (4 : Int32) v6 dd)) + (f_bel (3 : Int32) (5 : Int32) v7 dd)))] pd4 rfl rfl (c_bel l Z a0 hw (3 : Int32) (6 : Int32) v8 dd h76 n0 sz77 ) rfl (W := 1) rfl (by decide) (by decide) (k' := 2) rfl (by decide) (n' := 6) rfl (by decide) (fun r88 _ qr88 => ?_)
        obtain ⟨rfl, rfl⟩ := qr88
        refine s_iadd C at_321 (pc' := 322) rfl ?_
        refine s_istoreP C at_322 (pc' := 324) rfl #[.val (.int x1), .val (.int x2), .val (.int x3), .val (.int x4), .val (.int x5), .val (.int (3 : Int32)), .val (.long v2), .second, .val (.long v3), .second, .val (.long v4), .second, .val (.long v5), .second, .val (.long v6), .second, .val (.long v7), .second, .val (.long v8), .second, .val (.int dd), .val (.ref a10), .val (.int (((((((f_bel (3 : Int32) (0 : Int32) v2 dd) + (f_bel (3 : Int32) (1 : Int32) v3 dd)) + (f_bel (3 : Int32) (2 : Int32) v4 dd)) + (f_bel (3 : Int32) (3 : Int32) v5 dd)) + (f_bel (3 : Int32) (4 : Int32) v6 dd)) + (f_bel (3 : Int32) (5 : Int32) v7 dd)) + (f_bel (3 : Int32) (6 : Int32) v8 dd)))] rfl ?_
        refine s_aload C at_324 (pc' := 326) rfl rfl rfl ?_
        refine s_iload C at_326 (pc' := 328) rfl rfl ?_
        refine s_callVI C at_328 (pc' := 331) rfl (w24 hw) (w25 hw) (notFace_of_selects (args := #[]) (mvT C.2.1 (w27 hw))) (w27 hw) (w26 hw) (w3 hw) (w28 hw) (by decide) E76 [(.int dd)] [] pd1 rfl rfl (c_ix3 l Z a0 hw a10 v2.toInt32 v3.toInt32 v4.toInt32 dd h76 n0 sz77 ar13 E76 Fe76 Fs76 V76) rfl (W := 0) rfl (by decide) (by decide) (k' := 2) rfl (by decide) (n' := 6) rfl (by decide) (fun _ _ q89 => ?_)
        obtain ⟨rfl, rfl⟩ := q89
        refine s_iload C at_331 (pc' := 333) rfl rfl ?_
        refine s_icmp_ne C at_333 (pc' := 336) rfl (pcY := 340) rfl (fun hc => by exfalso; exact hc (own_ix3 _ v2 v3 v4 v5 v6 v7 v8 (own_lt (by omega) (by omega)) (own_lt (by omega) (by omega)) (own_lt (by omega) (by omega)) (own_mono (by omega)) (own_mono (by omega)))) (fun c90 => ?_)
        refine s_iconst C at_336 (pc' := 337) rfl (1 : Int32) rfl ?_
        refine s_goto C at_337 (pc' := 341) rfl ?_
        exact s_retN C (by simp) at_341 (by decide) (by decide) rfl
      · obtain rfl : v1 = 4 := hv1.trans q
        refine s_iload C at_147 (pc' := 149) rfl rfl ?_
        refine s_if_le C at_149 (pc' := 152) rfl (pcY := 160) rfl (fun hc => by exfalso; revert hc; decide) (fun c91 => ?_)
        refine s_aload C at_152 (pc' := 154) rfl rfl rfl ?_
        refine s_lload C at_154 (pc' := 156) rfl rfl ?_
        refine s_l2i C at_156 (pc' := 157) rfl ?_
        refine s_callV0 C at_157 (pc' := 160) rfl (w13 hw) (w14 hw) (notFace_of_selects (args := #[]) (mvT C.2.1 (w16 hw))) (w16 hw) (w15 hw) (w3 hw) (w17 hw) (by decide) E13 [(.int v2.toInt32)] [] pd2 rfl rfl (c_add0 l Z a0 hw a10 ar13 v2.toInt32  h13 n0 sz14 E13 gn11 gn13 ne13 Fe13 Fs13 V13) rfl (W := 0) rfl (by decide) (by decide) (k' := 2) rfl (by decide) (n' := 6) rfl (by decide) (fun h92 q92 => ?_)
        obtain ⟨K92, E92, Fe92, Fs92, V92⟩ := q92
        have sz93 : n0 ≤ h92.size := (Nat.le_trans sz14 K92.1)
        refine s_iload C at_160 (pc' := 162) rfl rfl ?_
        refine s_iconst C at_162 (pc' := 163) rfl (1 : Int32) rfl ?_
        refine s_icmp_le C at_163 (pc' := 166) rfl (pcY := 174) rfl (fun hc => by exfalso; revert hc; decide) (fun c94 => ?_)
        refine s_aload C at_166 (pc' := 168) rfl rfl rfl ?_
        refine s_lload C at_168 (pc' := 170) rfl rfl ?_
        refine s_l2i C at_170 (pc' := 171) rfl ?_
        refine s_callV0 C at_171 (pc' := 174) rfl (w13 hw) (w14 hw) (notFace_of_selects (args := #[]) (mvT C.2.1 (w16 hw))) (w16 hw) (w15 hw) (w3 hw) (w17 hw) (by decide) E92 [(.int v3.toInt32)] [] pd2 rfl rfl (c_add1 l Z a0 hw a10 ar13 v3.toInt32 v2.toInt32 h92 n0 sz93 E92 gn11 gn13 ne13 Fe92 Fs92 V92) rfl (W := 0) rfl (by decide) (by decide) (k' := 2) rfl (by decide) (n' := 6) rfl (by decide) (fun h95 q95 => ?_)
        obtain ⟨K95, E95, Fe95, Fs95, V95⟩ := q95
        have sz96 : n0 ≤ h95.size := (Nat.le_trans sz93 K95.1)
        refine s_iload C at_174 (pc' := 176) rfl rfl ?_
        refine s_iconst C at_176 (pc' := 177) rfl (2 : Int32) rfl ?_
        refine s_icmp_le C at_177 (pc' := 180) rfl (pcY := 188) rfl (fun hc => by exfalso; revert hc; decide) (fun c97 => ?_)
        refine s_aload C at_180 (pc' := 182) rfl rfl rfl ?_
        refine s_lload C at_182 (pc' := 184) rfl rfl ?_
        refine s_l2i C at_184 (pc' := 185) rfl ?_
        refine s_callV0 C at_185 (pc' := 188) rfl (w13 hw) (w14 hw) (notFace_of_selects (args := #[]) (mvT C.2.1 (w16 hw))) (w16 hw) (w15 hw) (w3 hw) (w17 hw) (by decide) E95 [(.int v4.toInt32)] [] pd2 rfl rfl (c_add2 l Z a0 hw a10 ar13 v4.toInt32 v2.toInt32 v3.toInt32 h95 n0 sz96 E95 gn11 gn13 ne13 Fe95 Fs95 V95) rfl (W := 0) rfl (by decide) (by decide) (k' := 2) rfl (by decide) (n' := 6) rfl (by decide) (fun h98 q98 => ?_)
        obtain ⟨K98, E98, Fe98, Fs98, V98⟩ := q98
        have sz99 : n0 ≤ h98.size := (Nat.le_trans sz96 K98.1)
        refine s_iload C at_188 (pc' := 190) rfl rfl ?_
        refine s_iconst C at_190 (pc' := 191) rfl (3 : Int32) rfl ?_
        refine s_icmp_le C at_191 (pc' := 194) rfl (pcY := 202) rfl (fun hc => by exfalso; revert hc; decide) (fun c100 => ?_)
        refine s_aload C at_194 (pc' := 196) rfl rfl rfl ?_
        refine s_lload C at_196 (pc' := 198) rfl rfl ?_
        refine s_l2i C at_198 (pc' := 199) rfl ?_
        refine s_callV0 C at_199 (pc' := 202) rfl (w13 hw) (w14 hw) (notFace_of_selects (args := #[]) (mvT C.2.1 (w16 hw))) (w16 hw) (w15 hw) (w3 hw) (w17 hw) (by decide) E98 [(.int v5.toInt32)] [] pd2 rfl rfl (c_add3 l Z a0 hw a10 ar13 v5.toInt32 v2.toInt32 v3.toInt32 v4.toInt32 h98 n0 sz99 E98 gn11 gn13 ne13 Fe98 Fs98 V98) rfl (W := 0) rfl (by decide) (by decide) (k' := 2) rfl (by decide) (n' := 6) rfl (by decide) (fun h101 q101 => ?_)
        obtain ⟨K101, E101, Fe101, Fs101, V101⟩ := q101
        have sz102 : n0 ≤ h101.size := (Nat.le_trans sz99 K101.1)
        refine s_iload C at_202 (pc' := 204) rfl rfl ?_
        refine s_iconst C at_204 (pc' := 205) rfl (4 : Int32) rfl ?_
        refine s_icmp_le C at_205 (pc' := 208) rfl (pcY := 216) rfl (fun c103 => ?_) (fun hc => by exfalso; revert hc; decide)
        refine s_iload C at_216 (pc' := 218) rfl rfl ?_
        refine s_iconst C at_218 (pc' := 219) rfl (5 : Int32) rfl ?_
        refine s_icmp_le C at_219 (pc' := 222) rfl (pcY := 230) rfl (fun c104 => ?_) (fun hc => by exfalso; revert hc; decide)
        refine s_iload C at_230 (pc' := 232) rfl rfl ?_
        refine s_bipush C at_232 (pc' := 234) rfl (6 : Int32) rfl ?_
        refine s_icmp_le C at_234 (pc' := 237) rfl (pcY := 245) rfl (fun c105 => ?_) (fun hc => by exfalso; revert hc; decide)
        refine s_iload C at_245 (pc' := 247) rfl rfl ?_
        refine s_iconst C at_247 (pc' := 248) rfl (0 : Int32) rfl ?_
        refine s_lload C at_248 (pc' := 250) rfl rfl ?_
        refine s_iload C at_250 (pc' := 252) rfl rfl ?_
        refine s_callSI C at_252 (pc' := 255) rfl (w20 hw) (w21 hw) (w22 hw) (w23 hw) (by decide) [(.int (4 : Int32)), (.int (0 : Int32)), (.long v2), (.int dd)] [] pd4 rfl rfl (c_bel l Z a0 hw (4 : Int32) (0 : Int32) v2 dd h101 n0 sz102 ) rfl (W := 0) rfl (by decide) (by decide) (k' := 2) rfl (by decide) (n' := 6) rfl (by decide) (fun r106 _ qr106 => ?_)
        obtain ⟨rfl, rfl⟩ := qr106
        refine s_iload C at_255 (pc' := 257) rfl rfl ?_
        refine s_iconst C at_257 (pc' := 258) rfl (1 : Int32) rfl ?_
        refine s_lload C at_258 (pc' := 260) rfl rfl ?_
        refine s_iload C at_260 (pc' := 262) rfl rfl ?_
        refine s_callSI C at_262 (pc' := 265) rfl (w20 hw) (w21 hw) (w22 hw) (w23 hw) (by decide) [(.int (4 : Int32)), (.int (1 : Int32)), (.long v3), (.int dd)] [(.int (f_bel (4 : Int32) (0 : Int32) v2 dd))] pd4 rfl rfl (c_bel l Z a0 hw (4 : Int32) (1 : Int32) v3 dd h101 n0 sz102 ) rfl (W := 1) rfl (by decide) (by decide) (k' := 2) rfl (by decide) (n' := 6) rfl (by decide) (fun r107 _ qr107 => ?_)
        obtain ⟨rfl, rfl⟩ := qr107
        refine s_iadd C at_265 (pc' := 266) rfl ?_
        refine s_iload C at_266 (pc' := 268) rfl rfl ?_
        refine s_iconst C at_268 (pc' := 269) rfl (2 : Int32) rfl ?_
        refine s_lload C at_269 (pc' := 271) rfl rfl ?_
        refine s_iload C at_271 (pc' := 273) rfl rfl ?_
        refine s_callSI C at_273 (pc' := 276) rfl (w20 hw) (w21 hw) (w22 hw) (w23 hw) (by decide) [(.int (4 : Int32)), (.int (2 : Int32)), (.long v4), (.int dd)] [(.int ((f_bel (4 : Int32) (0 : Int32) v2 dd) + (f_bel (4 : Int32) (1 : Int32) v3 dd)))] pd4 rfl rfl (c_bel l Z a0 hw (4 : Int32) (2 : Int32) v4 dd h101 n0 sz102 ) rfl (W := 1) rfl (by decide) (by decide) (k' := 2) rfl (by decide) (n' := 6) rfl (by decide) (fun r108 _ qr108 => ?_)
        obtain ⟨rfl, rfl⟩ := qr108
        refine s_iadd C at_276 (pc' := 277) rfl ?_
        refine s_iload C at_277 (pc' := 279) rfl rfl ?_
        refine s_iconst C at_279 (pc' := 280) rfl (3 : Int32) rfl ?_
        refine s_lload C at_280 (pc' := 282) rfl rfl ?_
        refine s_iload C at_282 (pc' := 284) rfl rfl ?_
        refine s_callSI C at_284 (pc' := 287) rfl (w20 hw) (w21 hw) (w22 hw) (w23 hw) (by decide) [(.int (4 : Int32)), (.int (3 : Int32)), (.long v5), (.int dd)] [(.int (((f_bel (4 : Int32) (0 : Int32) v2 dd) + (f_bel (4 : Int32) (1 : Int32) v3 dd)) + (f_bel (4 : Int32) (2 : Int32) v4 dd)))] pd4 rfl rfl (c_bel l Z a0 hw (4 : Int32) (3 : Int32) v5 dd h101 n0 sz102 ) rfl (W := 1) rfl (by decide) (by decide) (k' := 2) rfl (by decide) (n' := 6) rfl (by decide) (fun r109 _ qr109 => ?_)
        obtain ⟨rfl, rfl⟩ := qr109
        refine s_iadd C at_287 (pc' := 288) rfl ?_
        refine s_iload C at_288 (pc' := 290) rfl rfl ?_
        refine s_iconst C at_290 (pc' := 291) rfl (4 : Int32) rfl ?_
        refine s_lload C at_291 (pc' := 293) rfl rfl ?_
        refine s_iload C at_293 (pc' := 295) rfl rfl ?_
        refine s_callSI C at_295 (pc' := 298) rfl (w20 hw) (w21 hw) (w22 hw) (w23 hw) (by decide) [(.int (4 : Int32)), (.int (4 : Int32)), (.long v6), (.int dd)] [(.int ((((f_bel (4 : Int32) (0 : Int32) v2 dd) + (f_bel (4 : Int32) (1 : Int32) v3 dd)) + (f_bel (4 : Int32) (2 : Int32) v4 dd)) + (f_bel (4 : Int32) (3 : Int32) v5 dd)))] pd4 rfl rfl (c_bel l Z a0 hw (4 : Int32) (4 : Int32) v6 dd h101 n0 sz102 ) rfl (W := 1) rfl (by decide) (by decide) (k' := 2) rfl (by decide) (n' := 6) rfl (by decide) (fun r110 _ qr110 => ?_)
        obtain ⟨rfl, rfl⟩ := qr110
        refine s_iadd C at_298 (pc' := 299) rfl ?_
        refine s_iload C at_299 (pc' := 301) rfl rfl ?_
        refine s_iconst C at_301 (pc' := 302) rfl (5 : Int32) rfl ?_
        refine s_lload C at_302 (pc' := 304) rfl rfl ?_
        refine s_iload C at_304 (pc' := 306) rfl rfl ?_
        refine s_callSI C at_306 (pc' := 309) rfl (w20 hw) (w21 hw) (w22 hw) (w23 hw) (by decide) [(.int (4 : Int32)), (.int (5 : Int32)), (.long v7), (.int dd)] [(.int (((((f_bel (4 : Int32) (0 : Int32) v2 dd) + (f_bel (4 : Int32) (1 : Int32) v3 dd)) + (f_bel (4 : Int32) (2 : Int32) v4 dd)) + (f_bel (4 : Int32) (3 : Int32) v5 dd)) + (f_bel (4 : Int32) (4 : Int32) v6 dd)))] pd4 rfl rfl (c_bel l Z a0 hw (4 : Int32) (5 : Int32) v7 dd h101 n0 sz102 ) rfl (W := 1) rfl (by decide) (by decide) (k' := 2) rfl (by decide) (n' := 6) rfl (by decide) (fun r111 _ qr111 => ?_)
        obtain ⟨rfl, rfl⟩ := qr111
        refine s_iadd C at_309 (pc' := 310) rfl ?_
        refine s_iload C at_310 (pc' := 312) rfl rfl ?_
        refine s_bipush C at_312 (pc' := 314) rfl (6 : Int32) rfl ?_
        refine s_lload C at_314 (pc' := 316) rfl rfl ?_
        refine s_iload C at_316 (pc' := 318) rfl rfl ?_
        refine s_callSI C at_318 (pc' := 321) rfl (w20 hw) (w21 hw) (w22 hw) (w23 hw) (by decide) [(.int (4 : Int32)), (.int (6 : Int32)), (.long v8), (.int dd)] [(.int ((((((f_bel (4 : Int32) (0 : Int32) v2 dd) + (f_bel (4 : Int32) (1 : Int32) v3 dd)) + (f_bel (4 : Int32) (2 : Int32) v4 dd)) + (f_bel (4 : Int32) (3 : Int32) v5 dd)) + (f_bel (4 : Int32) (4 : Int32) v6 dd)) + (f_bel (4 : Int32) (5 : Int32) v7 dd)))] pd4 rfl rfl (c_bel l Z a0 hw (4 : Int32) (6 : Int32) v8 dd h101 n0 sz102 ) rfl (W := 1) rfl (by decide) (by decide) (k' := 2) rfl (by decide) (n' := 6) rfl (by decide) (fun r112 _ qr112 => ?_)
        obtain ⟨rfl, rfl⟩ := qr112
        refine s_iadd C at_321 (pc' := 322) rfl ?_
        refine s_istoreP C at_322 (pc' := 324) rfl #[.val (.int x1), .val (.int x2), .val (.int x3), .val (.int x4), .val (.int x5), .val (.int (4 : Int32)), .val (.long v2), .second, .val (.long v3), .second, .val (.long v4), .second, .val (.long v5), .second, .val (.long v6), .second, .val (.long v7), .second, .val (.long v8), .second, .val (.int dd), .val (.ref a10), .val (.int (((((((f_bel (4 : Int32) (0 : Int32) v2 dd) + (f_bel (4 : Int32) (1 : Int32) v3 dd)) + (f_bel (4 : Int32) (2 : Int32) v4 dd)) + (f_bel (4 : Int32) (3 : Int32) v5 dd)) + (f_bel (4 : Int32) (4 : Int32) v6 dd)) + (f_bel (4 : Int32) (5 : Int32) v7 dd)) + (f_bel (4 : Int32) (6 : Int32) v8 dd)))] rfl ?_
        refine s_aload C at_324 (pc' := 326) rfl rfl rfl ?_
        refine s_iload C at_326 (pc' := 328) rfl rfl ?_
        refine s_callVI C at_328 (pc' := 331) rfl (w24 hw) (w25 hw) (notFace_of_selects (args := #[]) (mvT C.2.1 (w27 hw))) (w27 hw) (w26 hw) (w3 hw) (w28 hw) (by decide) E101 [(.int dd)] [] pd1 rfl rfl (c_ix4 l Z a0 hw a10 v2.toInt32 v3.toInt32 v4.toInt32 v5.toInt32 dd h101 n0 sz102 ar13 E101 Fe101 Fs101 V101) rfl (W := 0) rfl (by decide) (by decide) (k' := 2) rfl (by decide) (n' := 6) rfl (by decide) (fun _ _ q113 => ?_)
        obtain ⟨rfl, rfl⟩ := q113
        refine s_iload C at_331 (pc' := 333) rfl rfl ?_
        refine s_icmp_ne C at_333 (pc' := 336) rfl (pcY := 340) rfl (fun hc => by exfalso; exact hc (own_ix4 _ v2 v3 v4 v5 v6 v7 v8 (own_lt (by omega) (by omega)) (own_lt (by omega) (by omega)) (own_lt (by omega) (by omega)) (own_lt (by omega) (by omega)) (own_mono (by omega)) (own_mono (by omega)) (own_mono (by omega)))) (fun c114 => ?_)
        refine s_iconst C at_336 (pc' := 337) rfl (1 : Int32) rfl ?_
        refine s_goto C at_337 (pc' := 341) rfl ?_
        exact s_retN C (by simp) at_341 (by decide) (by decide) rfl
      · obtain rfl : v1 = 5 := hv1.trans q
        refine s_iload C at_147 (pc' := 149) rfl rfl ?_
        refine s_if_le C at_149 (pc' := 152) rfl (pcY := 160) rfl (fun hc => by exfalso; revert hc; decide) (fun c115 => ?_)
        refine s_aload C at_152 (pc' := 154) rfl rfl rfl ?_
        refine s_lload C at_154 (pc' := 156) rfl rfl ?_
        refine s_l2i C at_156 (pc' := 157) rfl ?_
        refine s_callV0 C at_157 (pc' := 160) rfl (w13 hw) (w14 hw) (notFace_of_selects (args := #[]) (mvT C.2.1 (w16 hw))) (w16 hw) (w15 hw) (w3 hw) (w17 hw) (by decide) E13 [(.int v2.toInt32)] [] pd2 rfl rfl (c_add0 l Z a0 hw a10 ar13 v2.toInt32  h13 n0 sz14 E13 gn11 gn13 ne13 Fe13 Fs13 V13) rfl (W := 0) rfl (by decide) (by decide) (k' := 2) rfl (by decide) (n' := 6) rfl (by decide) (fun h116 q116 => ?_)
        obtain ⟨K116, E116, Fe116, Fs116, V116⟩ := q116
        have sz117 : n0 ≤ h116.size := (Nat.le_trans sz14 K116.1)
        refine s_iload C at_160 (pc' := 162) rfl rfl ?_
        refine s_iconst C at_162 (pc' := 163) rfl (1 : Int32) rfl ?_
        refine s_icmp_le C at_163 (pc' := 166) rfl (pcY := 174) rfl (fun hc => by exfalso; revert hc; decide) (fun c118 => ?_)
        refine s_aload C at_166 (pc' := 168) rfl rfl rfl ?_
        refine s_lload C at_168 (pc' := 170) rfl rfl ?_
        refine s_l2i C at_170 (pc' := 171) rfl ?_
        refine s_callV0 C at_171 (pc' := 174) rfl (w13 hw) (w14 hw) (notFace_of_selects (args := #[]) (mvT C.2.1 (w16 hw))) (w16 hw) (w15 hw) (w3 hw) (w17 hw) (by decide) E116 [(.int v3.toInt32)] [] pd2 rfl rfl (c_add1 l Z a0 hw a10 ar13 v3.toInt32 v2.toInt32 h116 n0 sz117 E116 gn11 gn13 ne13 Fe116 Fs116 V116) rfl (W := 0) rfl (by decide) (by decide) (k' := 2) rfl (by decide) (n' := 6) rfl (by decide) (fun h119 q119 => ?_)
        obtain ⟨K119, E119, Fe119, Fs119, V119⟩ := q119
        have sz120 : n0 ≤ h119.size := (Nat.le_trans sz117 K119.1)
        refine s_iload C at_174 (pc' := 176) rfl rfl ?_
        refine s_iconst C at_176 (pc' := 177) rfl (2 : Int32) rfl ?_
        refine s_icmp_le C at_177 (pc' := 180) rfl (pcY := 188) rfl (fun hc => by exfalso; revert hc; decide) (fun c121 => ?_)
        refine s_aload C at_180 (pc' := 182) rfl rfl rfl ?_
        refine s_lload C at_182 (pc' := 184) rfl rfl ?_
        refine s_l2i C at_184 (pc' := 185) rfl ?_
        refine s_callV0 C at_185 (pc' := 188) rfl (w13 hw) (w14 hw) (notFace_of_selects (args := #[]) (mvT C.2.1 (w16 hw))) (w16 hw) (w15 hw) (w3 hw) (w17 hw) (by decide) E119 [(.int v4.toInt32)] [] pd2 rfl rfl (c_add2 l Z a0 hw a10 ar13 v4.toInt32 v2.toInt32 v3.toInt32 h119 n0 sz120 E119 gn11 gn13 ne13 Fe119 Fs119 V119) rfl (W := 0) rfl (by decide) (by decide) (k' := 2) rfl (by decide) (n' := 6) rfl (by decide) (fun h122 q122 => ?_)
        obtain ⟨K122, E122, Fe122, Fs122, V122⟩ := q122
        have sz123 : n0 ≤ h122.size := (Nat.le_trans sz120 K122.1)
        refine s_iload C at_188 (pc' := 190) rfl rfl ?_
        refine s_iconst C at_190 (pc' := 191) rfl (3 : Int32) rfl ?_
        refine s_icmp_le C at_191 (pc' := 194) rfl (pcY := 202) rfl (fun hc => by exfalso; revert hc; decide) (fun c124 => ?_)
        refine s_aload C at_194 (pc' := 196) rfl rfl rfl ?_
        refine s_lload C at_196 (pc' := 198) rfl rfl ?_
        refine s_l2i C at_198 (pc' := 199) rfl ?_
        refine s_callV0 C at_199 (pc' := 202) rfl (w13 hw) (w14 hw) (notFace_of_selects (args := #[]) (mvT C.2.1 (w16 hw))) (w16 hw) (w15 hw) (w3 hw) (w17 hw) (by decide) E122 [(.int v5.toInt32)] [] pd2 rfl rfl (c_add3 l Z a0 hw a10 ar13 v5.toInt32 v2.toInt32 v3.toInt32 v4.toInt32 h122 n0 sz123 E122 gn11 gn13 ne13 Fe122 Fs122 V122) rfl (W := 0) rfl (by decide) (by decide) (k' := 2) rfl (by decide) (n' := 6) rfl (by decide) (fun h125 q125 => ?_)
        obtain ⟨K125, E125, Fe125, Fs125, V125⟩ := q125
        have sz126 : n0 ≤ h125.size := (Nat.le_trans sz123 K125.1)
        refine s_iload C at_202 (pc' := 204) rfl rfl ?_
        refine s_iconst C at_204 (pc' := 205) rfl (4 : Int32) rfl ?_
        refine s_icmp_le C at_205 (pc' := 208) rfl (pcY := 216) rfl (fun hc => by exfalso; revert hc; decide) (fun c127 => ?_)
        refine s_aload C at_208 (pc' := 210) rfl rfl rfl ?_
        refine s_lload C at_210 (pc' := 212) rfl rfl ?_
        refine s_l2i C at_212 (pc' := 213) rfl ?_
        refine s_callV0 C at_213 (pc' := 216) rfl (w13 hw) (w14 hw) (notFace_of_selects (args := #[]) (mvT C.2.1 (w16 hw))) (w16 hw) (w15 hw) (w3 hw) (w17 hw) (by decide) E125 [(.int v6.toInt32)] [] pd2 rfl rfl (c_add4 l Z a0 hw a10 ar13 v6.toInt32 v2.toInt32 v3.toInt32 v4.toInt32 v5.toInt32 h125 n0 sz126 E125 gn11 gn13 ne13 Fe125 Fs125 V125) rfl (W := 0) rfl (by decide) (by decide) (k' := 3) rfl (by decide) (n' := 14) rfl (by decide) (fun h128 q128 => ?_)
        obtain ⟨ar128, K128, E128, Fe128, Fs128, V128, s128⟩ := q128
        have gn128 : n0 ≤ ar128 := Nat.le_trans sz126 s128
        have ne128 : a10 ≠ ar128 := Nat.ne_of_lt (Nat.lt_of_lt_of_le E125.lt s128)
        have sz129 : n0 ≤ h128.size := (Nat.le_trans sz126 K128.1)
        refine s_iload C at_216 (pc' := 218) rfl rfl ?_
        refine s_iconst C at_218 (pc' := 219) rfl (5 : Int32) rfl ?_
        refine s_icmp_le C at_219 (pc' := 222) rfl (pcY := 230) rfl (fun c130 => ?_) (fun hc => by exfalso; revert hc; decide)
        refine s_iload C at_230 (pc' := 232) rfl rfl ?_
        refine s_bipush C at_232 (pc' := 234) rfl (6 : Int32) rfl ?_
        refine s_icmp_le C at_234 (pc' := 237) rfl (pcY := 245) rfl (fun c131 => ?_) (fun hc => by exfalso; revert hc; decide)
        refine s_iload C at_245 (pc' := 247) rfl rfl ?_
        refine s_iconst C at_247 (pc' := 248) rfl (0 : Int32) rfl ?_
        refine s_lload C at_248 (pc' := 250) rfl rfl ?_
        refine s_iload C at_250 (pc' := 252) rfl rfl ?_
        refine s_callSI C at_252 (pc' := 255) rfl (w20 hw) (w21 hw) (w22 hw) (w23 hw) (by decide) [(.int (5 : Int32)), (.int (0 : Int32)), (.long v2), (.int dd)] [] pd4 rfl rfl (c_bel l Z a0 hw (5 : Int32) (0 : Int32) v2 dd h128 n0 sz129 ) rfl (W := 0) rfl (by decide) (by decide) (k' := 3) rfl (by decide) (n' := 14) rfl (by decide) (fun r132 _ qr132 => ?_)
        obtain ⟨rfl, rfl⟩ := qr132
        refine s_iload C at_255 (pc' := 257) rfl rfl ?_
        refine s_iconst C at_257 (pc' := 258) rfl (1 : Int32) rfl ?_
        refine s_lload C at_258 (pc' := 260) rfl rfl ?_
        refine s_iload C at_260 (pc' := 262) rfl rfl ?_
        refine s_callSI C at_262 (pc' := 265) rfl (w20 hw) (w21 hw) (w22 hw) (w23 hw) (by decide) [(.int (5 : Int32)), (.int (1 : Int32)), (.long v3), (.int dd)] [(.int (f_bel (5 : Int32) (0 : Int32) v2 dd))] pd4 rfl rfl (c_bel l Z a0 hw (5 : Int32) (1 : Int32) v3 dd h128 n0 sz129 ) rfl (W := 1) rfl (by decide) (by decide) (k' := 3) rfl (by decide) (n' := 14) rfl (by decide) (fun r133 _ qr133 => ?_)
        obtain ⟨rfl, rfl⟩ := qr133
        refine s_iadd C at_265 (pc' := 266) rfl ?_
        refine s_iload C at_266 (pc' := 268) rfl rfl ?_
        refine s_iconst C at_268 (pc' := 269) rfl (2 : Int32) rfl ?_
        refine s_lload C at_269 (pc' := 271) rfl rfl ?_
        refine s_iload C at_271 (pc' := 273) rfl rfl ?_
        refine s_callSI C at_273 (pc' := 276) rfl (w20 hw) (w21 hw) (w22 hw) (w23 hw) (by decide) [(.int (5 : Int32)), (.int (2 : Int32)), (.long v4), (.int dd)] [(.int ((f_bel (5 : Int32) (0 : Int32) v2 dd) + (f_bel (5 : Int32) (1 : Int32) v3 dd)))] pd4 rfl rfl (c_bel l Z a0 hw (5 : Int32) (2 : Int32) v4 dd h128 n0 sz129 ) rfl (W := 1) rfl (by decide) (by decide) (k' := 3) rfl (by decide) (n' := 14) rfl (by decide) (fun r134 _ qr134 => ?_)
        obtain ⟨rfl, rfl⟩ := qr134
        refine s_iadd C at_276 (pc' := 277) rfl ?_
        refine s_iload C at_277 (pc' := 279) rfl rfl ?_
        refine s_iconst C at_279 (pc' := 280) rfl (3 : Int32) rfl ?_
        refine s_lload C at_280 (pc' := 282) rfl rfl ?_
        refine s_iload C at_282 (pc' := 284) rfl rfl ?_
        refine s_callSI C at_284 (pc' := 287) rfl (w20 hw) (w21 hw) (w22 hw) (w23 hw) (by decide) [(.int (5 : Int32)), (.int (3 : Int32)), (.long v5), (.int dd)] [(.int (((f_bel (5 : Int32) (0 : Int32) v2 dd) + (f_bel (5 : Int32) (1 : Int32) v3 dd)) + (f_bel (5 : Int32) (2 : Int32) v4 dd)))] pd4 rfl rfl (c_bel l Z a0 hw (5 : Int32) (3 : Int32) v5 dd h128 n0 sz129 ) rfl (W := 1) rfl (by decide) (by decide) (k' := 3) rfl (by decide) (n' := 14) rfl (by decide) (fun r135 _ qr135 => ?_)
        obtain ⟨rfl, rfl⟩ := qr135
        refine s_iadd C at_287 (pc' := 288) rfl ?_
        refine s_iload C at_288 (pc' := 290) rfl rfl ?_
        refine s_iconst C at_290 (pc' := 291) rfl (4 : Int32) rfl ?_
        refine s_lload C at_291 (pc' := 293) rfl rfl ?_
        refine s_iload C at_293 (pc' := 295) rfl rfl ?_
        refine s_callSI C at_295 (pc' := 298) rfl (w20 hw) (w21 hw) (w22 hw) (w23 hw) (by decide) [(.int (5 : Int32)), (.int (4 : Int32)), (.long v6), (.int dd)] [(.int ((((f_bel (5 : Int32) (0 : Int32) v2 dd) + (f_bel (5 : Int32) (1 : Int32) v3 dd)) + (f_bel (5 : Int32) (2 : Int32) v4 dd)) + (f_bel (5 : Int32) (3 : Int32) v5 dd)))] pd4 rfl rfl (c_bel l Z a0 hw (5 : Int32) (4 : Int32) v6 dd h128 n0 sz129 ) rfl (W := 1) rfl (by decide) (by decide) (k' := 3) rfl (by decide) (n' := 14) rfl (by decide) (fun r136 _ qr136 => ?_)
        obtain ⟨rfl, rfl⟩ := qr136
        refine s_iadd C at_298 (pc' := 299) rfl ?_
        refine s_iload C at_299 (pc' := 301) rfl rfl ?_
        refine s_iconst C at_301 (pc' := 302) rfl (5 : Int32) rfl ?_
        refine s_lload C at_302 (pc' := 304) rfl rfl ?_
        refine s_iload C at_304 (pc' := 306) rfl rfl ?_
        refine s_callSI C at_306 (pc' := 309) rfl (w20 hw) (w21 hw) (w22 hw) (w23 hw) (by decide) [(.int (5 : Int32)), (.int (5 : Int32)), (.long v7), (.int dd)] [(.int (((((f_bel (5 : Int32) (0 : Int32) v2 dd) + (f_bel (5 : Int32) (1 : Int32) v3 dd)) + (f_bel (5 : Int32) (2 : Int32) v4 dd)) + (f_bel (5 : Int32) (3 : Int32) v5 dd)) + (f_bel (5 : Int32) (4 : Int32) v6 dd)))] pd4 rfl rfl (c_bel l Z a0 hw (5 : Int32) (5 : Int32) v7 dd h128 n0 sz129 ) rfl (W := 1) rfl (by decide) (by decide) (k' := 3) rfl (by decide) (n' := 14) rfl (by decide) (fun r137 _ qr137 => ?_)
        obtain ⟨rfl, rfl⟩ := qr137
        refine s_iadd C at_309 (pc' := 310) rfl ?_
        refine s_iload C at_310 (pc' := 312) rfl rfl ?_
        refine s_bipush C at_312 (pc' := 314) rfl (6 : Int32) rfl ?_
        refine s_lload C at_314 (pc' := 316) rfl rfl ?_
        refine s_iload C at_316 (pc' := 318) rfl rfl ?_
        refine s_callSI C at_318 (pc' := 321) rfl (w20 hw) (w21 hw) (w22 hw) (w23 hw) (by decide) [(.int (5 : Int32)), (.int (6 : Int32)), (.long v8), (.int dd)] [(.int ((((((f_bel (5 : Int32) (0 : Int32) v2 dd) + (f_bel (5 : Int32) (1 : Int32) v3 dd)) + (f_bel (5 : Int32) (2 : Int32) v4 dd)) + (f_bel (5 : Int32) (3 : Int32) v5 dd)) + (f_bel (5 : Int32) (4 : Int32) v6 dd)) + (f_bel (5 : Int32) (5 : Int32) v7 dd)))] pd4 rfl rfl (c_bel l Z a0 hw (5 : Int32) (6 : Int32) v8 dd h128 n0 sz129 ) rfl (W := 1) rfl (by decide) (by decide) (k' := 3) rfl (by decide) (n' := 14) rfl (by decide) (fun r138 _ qr138 => ?_)
        obtain ⟨rfl, rfl⟩ := qr138
        refine s_iadd C at_321 (pc' := 322) rfl ?_
        refine s_istoreP C at_322 (pc' := 324) rfl #[.val (.int x1), .val (.int x2), .val (.int x3), .val (.int x4), .val (.int x5), .val (.int (5 : Int32)), .val (.long v2), .second, .val (.long v3), .second, .val (.long v4), .second, .val (.long v5), .second, .val (.long v6), .second, .val (.long v7), .second, .val (.long v8), .second, .val (.int dd), .val (.ref a10), .val (.int (((((((f_bel (5 : Int32) (0 : Int32) v2 dd) + (f_bel (5 : Int32) (1 : Int32) v3 dd)) + (f_bel (5 : Int32) (2 : Int32) v4 dd)) + (f_bel (5 : Int32) (3 : Int32) v5 dd)) + (f_bel (5 : Int32) (4 : Int32) v6 dd)) + (f_bel (5 : Int32) (5 : Int32) v7 dd)) + (f_bel (5 : Int32) (6 : Int32) v8 dd)))] rfl ?_
        refine s_aload C at_324 (pc' := 326) rfl rfl rfl ?_
        refine s_iload C at_326 (pc' := 328) rfl rfl ?_
        refine s_callVI C at_328 (pc' := 331) rfl (w24 hw) (w25 hw) (notFace_of_selects (args := #[]) (mvT C.2.1 (w27 hw))) (w27 hw) (w26 hw) (w3 hw) (w28 hw) (by decide) E128 [(.int dd)] [] pd1 rfl rfl (c_ix5 l Z a0 hw a10 v2.toInt32 v3.toInt32 v4.toInt32 v5.toInt32 v6.toInt32 dd h128 n0 sz129 ar128 E128 Fe128 Fs128 V128) rfl (W := 0) rfl (by decide) (by decide) (k' := 3) rfl (by decide) (n' := 14) rfl (by decide) (fun _ _ q139 => ?_)
        obtain ⟨rfl, rfl⟩ := q139
        refine s_iload C at_331 (pc' := 333) rfl rfl ?_
        refine s_icmp_ne C at_333 (pc' := 336) rfl (pcY := 340) rfl (fun hc => by exfalso; exact hc (own_ix5 _ v2 v3 v4 v5 v6 v7 v8 (own_lt (by omega) (by omega)) (own_lt (by omega) (by omega)) (own_lt (by omega) (by omega)) (own_lt (by omega) (by omega)) (own_lt (by omega) (by omega)) (own_mono (by omega)) (own_mono (by omega)) (own_mono (by omega)) (own_mono (by omega)))) (fun c140 => ?_)
        refine s_iconst C at_336 (pc' := 337) rfl (1 : Int32) rfl ?_
        refine s_goto C at_337 (pc' := 341) rfl ?_
        exact s_retN C (by simp) at_341 (by decide) (by decide) rfl
      · obtain rfl : v1 = 6 := hv1.trans q
        refine s_iload C at_147 (pc' := 149) rfl rfl ?_
        refine s_if_le C at_149 (pc' := 152) rfl (pcY := 160) rfl (fun hc => by exfalso; revert hc; decide) (fun c141 => ?_)
        refine s_aload C at_152 (pc' := 154) rfl rfl rfl ?_
        refine s_lload C at_154 (pc' := 156) rfl rfl ?_
        refine s_l2i C at_156 (pc' := 157) rfl ?_
        refine s_callV0 C at_157 (pc' := 160) rfl (w13 hw) (w14 hw) (notFace_of_selects (args := #[]) (mvT C.2.1 (w16 hw))) (w16 hw) (w15 hw) (w3 hw) (w17 hw) (by decide) E13 [(.int v2.toInt32)] [] pd2 rfl rfl (c_add0 l Z a0 hw a10 ar13 v2.toInt32  h13 n0 sz14 E13 gn11 gn13 ne13 Fe13 Fs13 V13) rfl (W := 0) rfl (by decide) (by decide) (k' := 2) rfl (by decide) (n' := 6) rfl (by decide) (fun h142 q142 => ?_)
        obtain ⟨K142, E142, Fe142, Fs142, V142⟩ := q142
        have sz143 : n0 ≤ h142.size := (Nat.le_trans sz14 K142.1)
        refine s_iload C at_160 (pc' := 162) rfl rfl ?_
        refine s_iconst C at_162 (pc' := 163) rfl (1 : Int32) rfl ?_
        refine s_icmp_le C at_163 (pc' := 166) rfl (pcY := 174) rfl (fun hc => by exfalso; revert hc; decide) (fun c144 => ?_)
        refine s_aload C at_166 (pc' := 168) rfl rfl rfl ?_
        refine s_lload C at_168 (pc' := 170) rfl rfl ?_
        refine s_l2i C at_170 (pc' := 171) rfl ?_
        refine s_callV0 C at_171 (pc' := 174) rfl (w13 hw) (w14 hw) (notFace_of_selects (args := #[]) (mvT C.2.1 (w16 hw))) (w16 hw) (w15 hw) (w3 hw) (w17 hw) (by decide) E142 [(.int v3.toInt32)] [] pd2 rfl rfl (c_add1 l Z a0 hw a10 ar13 v3.toInt32 v2.toInt32 h142 n0 sz143 E142 gn11 gn13 ne13 Fe142 Fs142 V142) rfl (W := 0) rfl (by decide) (by decide) (k' := 2) rfl (by decide) (n' := 6) rfl (by decide) (fun h145 q145 => ?_)
        obtain ⟨K145, E145, Fe145, Fs145, V145⟩ := q145
        have sz146 : n0 ≤ h145.size := (Nat.le_trans sz143 K145.1)
        refine s_iload C at_174 (pc' := 176) rfl rfl ?_
        refine s_iconst C at_176 (pc' := 177) rfl (2 : Int32) rfl ?_
        refine s_icmp_le C at_177 (pc' := 180) rfl (pcY := 188) rfl (fun hc => by exfalso; revert hc; decide) (fun c147 => ?_)
        refine s_aload C at_180 (pc' := 182) rfl rfl rfl ?_
        refine s_lload C at_182 (pc' := 184) rfl rfl ?_
        refine s_l2i C at_184 (pc' := 185) rfl ?_
        refine s_callV0 C at_185 (pc' := 188) rfl (w13 hw) (w14 hw) (notFace_of_selects (args := #[]) (mvT C.2.1 (w16 hw))) (w16 hw) (w15 hw) (w3 hw) (w17 hw) (by decide) E145 [(.int v4.toInt32)] [] pd2 rfl rfl (c_add2 l Z a0 hw a10 ar13 v4.toInt32 v2.toInt32 v3.toInt32 h145 n0 sz146 E145 gn11 gn13 ne13 Fe145 Fs145 V145) rfl (W := 0) rfl (by decide) (by decide) (k' := 2) rfl (by decide) (n' := 6) rfl (by decide) (fun h148 q148 => ?_)
        obtain ⟨K148, E148, Fe148, Fs148, V148⟩ := q148
        have sz149 : n0 ≤ h148.size := (Nat.le_trans sz146 K148.1)
        refine s_iload C at_188 (pc' := 190) rfl rfl ?_
        refine s_iconst C at_190 (pc' := 191) rfl (3 : Int32) rfl ?_
        refine s_icmp_le C at_191 (pc' := 194) rfl (pcY := 202) rfl (fun hc => by exfalso; revert hc; decide) (fun c150 => ?_)
        refine s_aload C at_194 (pc' := 196) rfl rfl rfl ?_
        refine s_lload C at_196 (pc' := 198) rfl rfl ?_
        refine s_l2i C at_198 (pc' := 199) rfl ?_
        refine s_callV0 C at_199 (pc' := 202) rfl (w13 hw) (w14 hw) (notFace_of_selects (args := #[]) (mvT C.2.1 (w16 hw))) (w16 hw) (w15 hw) (w3 hw) (w17 hw) (by decide) E148 [(.int v5.toInt32)] [] pd2 rfl rfl (c_add3 l Z a0 hw a10 ar13 v5.toInt32 v2.toInt32 v3.toInt32 v4.toInt32 h148 n0 sz149 E148 gn11 gn13 ne13 Fe148 Fs148 V148) rfl (W := 0) rfl (by decide) (by decide) (k' := 2) rfl (by decide) (n' := 6) rfl (by decide) (fun h151 q151 => ?_)
        obtain ⟨K151, E151, Fe151, Fs151, V151⟩ := q151
        have sz152 : n0 ≤ h151.size := (Nat.le_trans sz149 K151.1)
        refine s_iload C at_202 (pc' := 204) rfl rfl ?_
        refine s_iconst C at_204 (pc' := 205) rfl (4 : Int32) rfl ?_
        refine s_icmp_le C at_205 (pc' := 208) rfl (pcY := 216) rfl (fun hc => by exfalso; revert hc; decide) (fun c153 => ?_)
        refine s_aload C at_208 (pc' := 210) rfl rfl rfl ?_
        refine s_lload C at_210 (pc' := 212) rfl rfl ?_
        refine s_l2i C at_212 (pc' := 213) rfl ?_
        refine s_callV0 C at_213 (pc' := 216) rfl (w13 hw) (w14 hw) (notFace_of_selects (args := #[]) (mvT C.2.1 (w16 hw))) (w16 hw) (w15 hw) (w3 hw) (w17 hw) (by decide) E151 [(.int v6.toInt32)] [] pd2 rfl rfl (c_add4 l Z a0 hw a10 ar13 v6.toInt32 v2.toInt32 v3.toInt32 v4.toInt32 v5.toInt32 h151 n0 sz152 E151 gn11 gn13 ne13 Fe151 Fs151 V151) rfl (W := 0) rfl (by decide) (by decide) (k' := 3) rfl (by decide) (n' := 14) rfl (by decide) (fun h154 q154 => ?_)
        obtain ⟨ar154, K154, E154, Fe154, Fs154, V154, s154⟩ := q154
        have gn154 : n0 ≤ ar154 := Nat.le_trans sz152 s154
        have ne154 : a10 ≠ ar154 := Nat.ne_of_lt (Nat.lt_of_lt_of_le E151.lt s154)
        have sz155 : n0 ≤ h154.size := (Nat.le_trans sz152 K154.1)
        refine s_iload C at_216 (pc' := 218) rfl rfl ?_
        refine s_iconst C at_218 (pc' := 219) rfl (5 : Int32) rfl ?_
        refine s_icmp_le C at_219 (pc' := 222) rfl (pcY := 230) rfl (fun hc => by exfalso; revert hc; decide) (fun c156 => ?_)
        refine s_aload C at_222 (pc' := 224) rfl rfl rfl ?_
        refine s_lload C at_224 (pc' := 226) rfl rfl ?_
        refine s_l2i C at_226 (pc' := 227) rfl ?_
        refine s_callV0 C at_227 (pc' := 230) rfl (w13 hw) (w14 hw) (notFace_of_selects (args := #[]) (mvT C.2.1 (w16 hw))) (w16 hw) (w15 hw) (w3 hw) (w17 hw) (by decide) E154 [(.int v7.toInt32)] [] pd2 rfl rfl (c_add5 l Z a0 hw a10 ar154 v7.toInt32 v2.toInt32 v3.toInt32 v4.toInt32 v5.toInt32 v6.toInt32 h154 n0 sz155 E154 gn11 gn154 ne154 Fe154 Fs154 V154) rfl (W := 0) rfl (by decide) (by decide) (k' := 3) rfl (by decide) (n' := 14) rfl (by decide) (fun h157 q157 => ?_)
        obtain ⟨K157, E157, Fe157, Fs157, V157⟩ := q157
        have sz158 : n0 ≤ h157.size := (Nat.le_trans sz155 K157.1)
        refine s_iload C at_230 (pc' := 232) rfl rfl ?_
        refine s_bipush C at_232 (pc' := 234) rfl (6 : Int32) rfl ?_
        refine s_icmp_le C at_234 (pc' := 237) rfl (pcY := 245) rfl (fun c159 => ?_) (fun hc => by exfalso; revert hc; decide)
        refine s_iload C at_245 (pc' := 247) rfl rfl ?_
        refine s_iconst C at_247 (pc' := 248) rfl (0 : Int32) rfl ?_
        refine s_lload C at_248 (pc' := 250) rfl rfl ?_
        refine s_iload C at_250 (pc' := 252) rfl rfl ?_
        refine s_callSI C at_252 (pc' := 255) rfl (w20 hw) (w21 hw) (w22 hw) (w23 hw) (by decide) [(.int (6 : Int32)), (.int (0 : Int32)), (.long v2), (.int dd)] [] pd4 rfl rfl (c_bel l Z a0 hw (6 : Int32) (0 : Int32) v2 dd h157 n0 sz158 ) rfl (W := 0) rfl (by decide) (by decide) (k' := 3) rfl (by decide) (n' := 14) rfl (by decide) (fun r160 _ qr160 => ?_)
        obtain ⟨rfl, rfl⟩ := qr160
        refine s_iload C at_255 (pc' := 257) rfl rfl ?_
        refine s_iconst C at_257 (pc' := 258) rfl (1 : Int32) rfl ?_
        refine s_lload C at_258 (pc' := 260) rfl rfl ?_
        refine s_iload C at_260 (pc' := 262) rfl rfl ?_
        refine s_callSI C at_262 (pc' := 265) rfl (w20 hw) (w21 hw) (w22 hw) (w23 hw) (by decide) [(.int (6 : Int32)), (.int (1 : Int32)), (.long v3), (.int dd)] [(.int (f_bel (6 : Int32) (0 : Int32) v2 dd))] pd4 rfl rfl (c_bel l Z a0 hw (6 : Int32) (1 : Int32) v3 dd h157 n0 sz158 ) rfl (W := 1) rfl (by decide) (by decide) (k' := 3) rfl (by decide) (n' := 14) rfl (by decide) (fun r161 _ qr161 => ?_)
        obtain ⟨rfl, rfl⟩ := qr161
        refine s_iadd C at_265 (pc' := 266) rfl ?_
        refine s_iload C at_266 (pc' := 268) rfl rfl ?_
        refine s_iconst C at_268 (pc' := 269) rfl (2 : Int32) rfl ?_
        refine s_lload C at_269 (pc' := 271) rfl rfl ?_
        refine s_iload C at_271 (pc' := 273) rfl rfl ?_
        refine s_callSI C at_273 (pc' := 276) rfl (w20 hw) (w21 hw) (w22 hw) (w23 hw) (by decide) [(.int (6 : Int32)), (.int (2 : Int32)), (.long v4), (.int dd)] [(.int ((f_bel (6 : Int32) (0 : Int32) v2 dd) + (f_bel (6 : Int32) (1 : Int32) v3 dd)))] pd4 rfl rfl (c_bel l Z a0 hw (6 : Int32) (2 : Int32) v4 dd h157 n0 sz158 ) rfl (W := 1) rfl (by decide) (by decide) (k' := 3) rfl (by decide) (n' := 14) rfl (by decide) (fun r162 _ qr162 => ?_)
        obtain ⟨rfl, rfl⟩ := qr162
        refine s_iadd C at_276 (pc' := 277) rfl ?_
        refine s_iload C at_277 (pc' := 279) rfl rfl ?_
        refine s_iconst C at_279 (pc' := 280) rfl (3 : Int32) rfl ?_
        refine s_lload C at_280 (pc' := 282) rfl rfl ?_
        refine s_iload C at_282 (pc' := 284) rfl rfl ?_
        refine s_callSI C at_284 (pc' := 287) rfl (w20 hw) (w21 hw) (w22 hw) (w23 hw) (by decide) [(.int (6 : Int32)), (.int (3 : Int32)), (.long v5), (.int dd)] [(.int (((f_bel (6 : Int32) (0 : Int32) v2 dd) + (f_bel (6 : Int32) (1 : Int32) v3 dd)) + (f_bel (6 : Int32) (2 : Int32) v4 dd)))] pd4 rfl rfl (c_bel l Z a0 hw (6 : Int32) (3 : Int32) v5 dd h157 n0 sz158 ) rfl (W := 1) rfl (by decide) (by decide) (k' := 3) rfl (by decide) (n' := 14) rfl (by decide) (fun r163 _ qr163 => ?_)
        obtain ⟨rfl, rfl⟩ := qr163
        refine s_iadd C at_287 (pc' := 288) rfl ?_
        refine s_iload C at_288 (pc' := 290) rfl rfl ?_
        refine s_iconst C at_290 (pc' := 291) rfl (4 : Int32) rfl ?_
        refine s_lload C at_291 (pc' := 293) rfl rfl ?_
        refine s_iload C at_293 (pc' := 295) rfl rfl ?_
        refine s_callSI C at_295 (pc' := 298) rfl (w20 hw) (w21 hw) (w22 hw) (w23 hw) (by decide) [(.int (6 : Int32)), (.int (4 : Int32)), (.long v6), (.int dd)] [(.int ((((f_bel (6 : Int32) (0 : Int32) v2 dd) + (f_bel (6 : Int32) (1 : Int32) v3 dd)) + (f_bel (6 : Int32) (2 : Int32) v4 dd)) + (f_bel (6 : Int32) (3 : Int32) v5 dd)))] pd4 rfl rfl (c_bel l Z a0 hw (6 : Int32) (4 : Int32) v6 dd h157 n0 sz158 ) rfl (W := 1) rfl (by decide) (by decide) (k' := 3) rfl (by decide) (n' := 14) rfl (by decide) (fun r164 _ qr164 => ?_)
        obtain ⟨rfl, rfl⟩ := qr164
        refine s_iadd C at_298 (pc' := 299) rfl ?_
        refine s_iload C at_299 (pc' := 301) rfl rfl ?_
        refine s_iconst C at_301 (pc' := 302) rfl (5 : Int32) rfl ?_
        refine s_lload C at_302 (pc' := 304) rfl rfl ?_
        refine s_iload C at_304 (pc' := 306) rfl rfl ?_
        refine s_callSI C at_306 (pc' := 309) rfl (w20 hw) (w21 hw) (w22 hw) (w23 hw) (by decide) [(.int (6 : Int32)), (.int (5 : Int32)), (.long v7), (.int dd)] [(.int (((((f_bel (6 : Int32) (0 : Int32) v2 dd) + (f_bel (6 : Int32) (1 : Int32) v3 dd)) + (f_bel (6 : Int32) (2 : Int32) v4 dd)) + (f_bel (6 : Int32) (3 : Int32) v5 dd)) + (f_bel (6 : Int32) (4 : Int32) v6 dd)))] pd4 rfl rfl (c_bel l Z a0 hw (6 : Int32) (5 : Int32) v7 dd h157 n0 sz158 ) rfl (W := 1) rfl (by decide) (by decide) (k' := 3) rfl (by decide) (n' := 14) rfl (by decide) (fun r165 _ qr165 => ?_)
        obtain ⟨rfl, rfl⟩ := qr165
        refine s_iadd C at_309 (pc' := 310) rfl ?_
        refine s_iload C at_310 (pc' := 312) rfl rfl ?_
        refine s_bipush C at_312 (pc' := 314) rfl (6 : Int32) rfl ?_
        refine s_lload C at_314 (pc' := 316) rfl rfl ?_
        refine s_iload C at_316 (pc' := 318) rfl rfl ?_
        refine s_callSI C at_318 (pc' := 321) rfl (w20 hw) (w21 hw) (w22 hw) (w23 hw) (by decide) [(.int (6 : Int32)), (.int (6 : Int32)), (.long v8), (.int dd)] [(.int ((((((f_bel (6 : Int32) (0 : Int32) v2 dd) + (f_bel (6 : Int32) (1 : Int32) v3 dd)) + (f_bel (6 : Int32) (2 : Int32) v4 dd)) + (f_bel (6 : Int32) (3 : Int32) v5 dd)) + (f_bel (6 : Int32) (4 : Int32) v6 dd)) + (f_bel (6 : Int32) (5 : Int32) v7 dd)))] pd4 rfl rfl (c_bel l Z a0 hw (6 : Int32) (6 : Int32) v8 dd h157 n0 sz158 ) rfl (W := 1) rfl (by decide) (by decide) (k' := 3) rfl (by decide) (n' := 14) rfl (by decide) (fun r166 _ qr166 => ?_)
        obtain ⟨rfl, rfl⟩ := qr166
        refine s_iadd C at_321 (pc' := 322) rfl ?_
        refine s_istoreP C at_322 (pc' := 324) rfl #[.val (.int x1), .val (.int x2), .val (.int x3), .val (.int x4), .val (.int x5), .val (.int (6 : Int32)), .val (.long v2), .second, .val (.long v3), .second, .val (.long v4), .second, .val (.long v5), .second, .val (.long v6), .second, .val (.long v7), .second, .val (.long v8), .second, .val (.int dd), .val (.ref a10), .val (.int (((((((f_bel (6 : Int32) (0 : Int32) v2 dd) + (f_bel (6 : Int32) (1 : Int32) v3 dd)) + (f_bel (6 : Int32) (2 : Int32) v4 dd)) + (f_bel (6 : Int32) (3 : Int32) v5 dd)) + (f_bel (6 : Int32) (4 : Int32) v6 dd)) + (f_bel (6 : Int32) (5 : Int32) v7 dd)) + (f_bel (6 : Int32) (6 : Int32) v8 dd)))] rfl ?_
        refine s_aload C at_324 (pc' := 326) rfl rfl rfl ?_
        refine s_iload C at_326 (pc' := 328) rfl rfl ?_
        refine s_callVI C at_328 (pc' := 331) rfl (w24 hw) (w25 hw) (notFace_of_selects (args := #[]) (mvT C.2.1 (w27 hw))) (w27 hw) (w26 hw) (w3 hw) (w28 hw) (by decide) E157 [(.int dd)] [] pd1 rfl rfl (c_ix6 l Z a0 hw a10 v2.toInt32 v3.toInt32 v4.toInt32 v5.toInt32 v6.toInt32 v7.toInt32 dd h157 n0 sz158 ar154 E157 Fe157 Fs157 V157) rfl (W := 0) rfl (by decide) (by decide) (k' := 3) rfl (by decide) (n' := 14) rfl (by decide) (fun _ _ q167 => ?_)
        obtain ⟨rfl, rfl⟩ := q167
        refine s_iload C at_331 (pc' := 333) rfl rfl ?_
        refine s_icmp_ne C at_333 (pc' := 336) rfl (pcY := 340) rfl (fun hc => by exfalso; exact hc (own_ix6 _ v2 v3 v4 v5 v6 v7 v8 (own_lt (by omega) (by omega)) (own_lt (by omega) (by omega)) (own_lt (by omega) (by omega)) (own_lt (by omega) (by omega)) (own_lt (by omega) (by omega)) (own_lt (by omega) (by omega)) (own_mono (by omega)) (own_mono (by omega)) (own_mono (by omega)) (own_mono (by omega)) (own_mono (by omega)))) (fun c168 => ?_)
        refine s_iconst C at_336 (pc' := 337) rfl (1 : Int32) rfl ?_
        refine s_goto C at_337 (pc' := 341) rfl ?_
        exact s_retN C (by simp) at_341 (by decide) (by decide) rfl
      · obtain rfl : v1 = 7 := hv1.trans q
        refine s_iload C at_147 (pc' := 149) rfl rfl ?_
        refine s_if_le C at_149 (pc' := 152) rfl (pcY := 160) rfl (fun hc => by exfalso; revert hc; decide) (fun c169 => ?_)
        refine s_aload C at_152 (pc' := 154) rfl rfl rfl ?_
        refine s_lload C at_154 (pc' := 156) rfl rfl ?_
        refine s_l2i C at_156 (pc' := 157) rfl ?_
        refine s_callV0 C at_157 (pc' := 160) rfl (w13 hw) (w14 hw) (notFace_of_selects (args := #[]) (mvT C.2.1 (w16 hw))) (w16 hw) (w15 hw) (w3 hw) (w17 hw) (by decide) E13 [(.int v2.toInt32)] [] pd2 rfl rfl (c_add0 l Z a0 hw a10 ar13 v2.toInt32  h13 n0 sz14 E13 gn11 gn13 ne13 Fe13 Fs13 V13) rfl (W := 0) rfl (by decide) (by decide) (k' := 2) rfl (by decide) (n' := 6) rfl (by decide) (fun h170 q170 => ?_)
        obtain ⟨K170, E170, Fe170, Fs170, V170⟩ := q170
        have sz171 : n0 ≤ h170.size := (Nat.le_trans sz14 K170.1)
        refine s_iload C at_160 (pc' := 162) rfl rfl ?_
        refine s_iconst C at_162 (pc' := 163) rfl (1 : Int32) rfl ?_
        refine s_icmp_le C at_163 (pc' := 166) rfl (pcY := 174) rfl (fun hc => by exfalso; revert hc; decide) (fun c172 => ?_)
        refine s_aload C at_166 (pc' := 168) rfl rfl rfl ?_
        refine s_lload C at_168 (pc' := 170) rfl rfl ?_
        refine s_l2i C at_170 (pc' := 171) rfl ?_
        refine s_callV0 C at_171 (pc' := 174) rfl (w13 hw) (w14 hw) (notFace_of_selects (args := #[]) (mvT C.2.1 (w16 hw))) (w16 hw) (w15 hw) (w3 hw) (w17 hw) (by decide) E170 [(.int v3.toInt32)] [] pd2 rfl rfl (c_add1 l Z a0 hw a10 ar13 v3.toInt32 v2.toInt32 h170 n0 sz171 E170 gn11 gn13 ne13 Fe170 Fs170 V170) rfl (W := 0) rfl (by decide) (by decide) (k' := 2) rfl (by decide) (n' := 6) rfl (by decide) (fun h173 q173 => ?_)
        obtain ⟨K173, E173, Fe173, Fs173, V173⟩ := q173
        have sz174 : n0 ≤ h173.size := (Nat.le_trans sz171 K173.1)
        refine s_iload C at_174 (pc' := 176) rfl rfl ?_
        refine s_iconst C at_176 (pc' := 177) rfl (2 : Int32) rfl ?_
        refine s_icmp_le C at_177 (pc' := 180) rfl (pcY := 188) rfl (fun hc => by exfalso; revert hc; decide) (fun c175 => ?_)
        refine s_aload C at_180 (pc' := 182) rfl rfl rfl ?_
        refine s_lload C at_182 (pc' := 184) rfl rfl ?_
        refine s_l2i C at_184 (pc' := 185) rfl ?_
        refine s_callV0 C at_185 (pc' := 188) rfl (w13 hw) (w14 hw) (notFace_of_selects (args := #[]) (mvT C.2.1 (w16 hw))) (w16 hw) (w15 hw) (w3 hw) (w17 hw) (by decide) E173 [(.int v4.toInt32)] [] pd2 rfl rfl (c_add2 l Z a0 hw a10 ar13 v4.toInt32 v2.toInt32 v3.toInt32 h173 n0 sz174 E173 gn11 gn13 ne13 Fe173 Fs173 V173) rfl (W := 0) rfl (by decide) (by decide) (k' := 2) rfl (by decide) (n' := 6) rfl (by decide) (fun h176 q176 => ?_)
        obtain ⟨K176, E176, Fe176, Fs176, V176⟩ := q176
        have sz177 : n0 ≤ h176.size := (Nat.le_trans sz174 K176.1)
        refine s_iload C at_188 (pc' := 190) rfl rfl ?_
        refine s_iconst C at_190 (pc' := 191) rfl (3 : Int32) rfl ?_
        refine s_icmp_le C at_191 (pc' := 194) rfl (pcY := 202) rfl (fun hc => by exfalso; revert hc; decide) (fun c178 => ?_)
        refine s_aload C at_194 (pc' := 196) rfl rfl rfl ?_
        refine s_lload C at_196 (pc' := 198) rfl rfl ?_
        refine s_l2i C at_198 (pc' := 199) rfl ?_
        refine s_callV0 C at_199 (pc' := 202) rfl (w13 hw) (w14 hw) (notFace_of_selects (args := #[]) (mvT C.2.1 (w16 hw))) (w16 hw) (w15 hw) (w3 hw) (w17 hw) (by decide) E176 [(.int v5.toInt32)] [] pd2 rfl rfl (c_add3 l Z a0 hw a10 ar13 v5.toInt32 v2.toInt32 v3.toInt32 v4.toInt32 h176 n0 sz177 E176 gn11 gn13 ne13 Fe176 Fs176 V176) rfl (W := 0) rfl (by decide) (by decide) (k' := 2) rfl (by decide) (n' := 6) rfl (by decide) (fun h179 q179 => ?_)
        obtain ⟨K179, E179, Fe179, Fs179, V179⟩ := q179
        have sz180 : n0 ≤ h179.size := (Nat.le_trans sz177 K179.1)
        refine s_iload C at_202 (pc' := 204) rfl rfl ?_
        refine s_iconst C at_204 (pc' := 205) rfl (4 : Int32) rfl ?_
        refine s_icmp_le C at_205 (pc' := 208) rfl (pcY := 216) rfl (fun hc => by exfalso; revert hc; decide) (fun c181 => ?_)
        refine s_aload C at_208 (pc' := 210) rfl rfl rfl ?_
        refine s_lload C at_210 (pc' := 212) rfl rfl ?_
        refine s_l2i C at_212 (pc' := 213) rfl ?_
        refine s_callV0 C at_213 (pc' := 216) rfl (w13 hw) (w14 hw) (notFace_of_selects (args := #[]) (mvT C.2.1 (w16 hw))) (w16 hw) (w15 hw) (w3 hw) (w17 hw) (by decide) E179 [(.int v6.toInt32)] [] pd2 rfl rfl (c_add4 l Z a0 hw a10 ar13 v6.toInt32 v2.toInt32 v3.toInt32 v4.toInt32 v5.toInt32 h179 n0 sz180 E179 gn11 gn13 ne13 Fe179 Fs179 V179) rfl (W := 0) rfl (by decide) (by decide) (k' := 3) rfl (by decide) (n' := 14) rfl (by decide) (fun h182 q182 => ?_)
        obtain ⟨ar182, K182, E182, Fe182, Fs182, V182, s182⟩ := q182
        have gn182 : n0 ≤ ar182 := Nat.le_trans sz180 s182
        have ne182 : a10 ≠ ar182 := Nat.ne_of_lt (Nat.lt_of_lt_of_le E179.lt s182)
        have sz183 : n0 ≤ h182.size := (Nat.le_trans sz180 K182.1)
        refine s_iload C at_216 (pc' := 218) rfl rfl ?_
        refine s_iconst C at_218 (pc' := 219) rfl (5 : Int32) rfl ?_
        refine s_icmp_le C at_219 (pc' := 222) rfl (pcY := 230) rfl (fun hc => by exfalso; revert hc; decide) (fun c184 => ?_)
        refine s_aload C at_222 (pc' := 224) rfl rfl rfl ?_
        refine s_lload C at_224 (pc' := 226) rfl rfl ?_
        refine s_l2i C at_226 (pc' := 227) rfl ?_
        refine s_callV0 C at_227 (pc' := 230) rfl (w13 hw) (w14 hw) (notFace_of_selects (args := #[]) (mvT C.2.1 (w16 hw))) (w16 hw) (w15 hw) (w3 hw) (w17 hw) (by decide) E182 [(.int v7.toInt32)] [] pd2 rfl rfl (c_add5 l Z a0 hw a10 ar182 v7.toInt32 v2.toInt32 v3.toInt32 v4.toInt32 v5.toInt32 v6.toInt32 h182 n0 sz183 E182 gn11 gn182 ne182 Fe182 Fs182 V182) rfl (W := 0) rfl (by decide) (by decide) (k' := 3) rfl (by decide) (n' := 14) rfl (by decide) (fun h185 q185 => ?_)
        obtain ⟨K185, E185, Fe185, Fs185, V185⟩ := q185
        have sz186 : n0 ≤ h185.size := (Nat.le_trans sz183 K185.1)
        refine s_iload C at_230 (pc' := 232) rfl rfl ?_
        refine s_bipush C at_232 (pc' := 234) rfl (6 : Int32) rfl ?_
        refine s_icmp_le C at_234 (pc' := 237) rfl (pcY := 245) rfl (fun hc => by exfalso; revert hc; decide) (fun c187 => ?_)
        refine s_aload C at_237 (pc' := 239) rfl rfl rfl ?_
        refine s_lload C at_239 (pc' := 241) rfl rfl ?_
        refine s_l2i C at_241 (pc' := 242) rfl ?_
        refine s_callV0 C at_242 (pc' := 245) rfl (w13 hw) (w14 hw) (notFace_of_selects (args := #[]) (mvT C.2.1 (w16 hw))) (w16 hw) (w15 hw) (w3 hw) (w17 hw) (by decide) E185 [(.int v8.toInt32)] [] pd2 rfl rfl (c_add6 l Z a0 hw a10 ar182 v8.toInt32 v2.toInt32 v3.toInt32 v4.toInt32 v5.toInt32 v6.toInt32 v7.toInt32 h185 n0 sz186 E185 gn11 gn182 ne182 Fe185 Fs185 V185) rfl (W := 0) rfl (by decide) (by decide) (k' := 3) rfl (by decide) (n' := 14) rfl (by decide) (fun h188 q188 => ?_)
        obtain ⟨K188, E188, Fe188, Fs188, V188⟩ := q188
        have sz189 : n0 ≤ h188.size := (Nat.le_trans sz186 K188.1)
        refine s_iload C at_245 (pc' := 247) rfl rfl ?_
        refine s_iconst C at_247 (pc' := 248) rfl (0 : Int32) rfl ?_
        refine s_lload C at_248 (pc' := 250) rfl rfl ?_
        refine s_iload C at_250 (pc' := 252) rfl rfl ?_
        refine s_callSI C at_252 (pc' := 255) rfl (w20 hw) (w21 hw) (w22 hw) (w23 hw) (by decide) [(.int (7 : Int32)), (.int (0 : Int32)), (.long v2), (.int dd)] [] pd4 rfl rfl (c_bel l Z a0 hw (7 : Int32) (0 : Int32) v2 dd h188 n0 sz189 ) rfl (W := 0) rfl (by decide) (by decide) (k' := 3) rfl (by decide) (n' := 14) rfl (by decide) (fun r190 _ qr190 => ?_)
        obtain ⟨rfl, rfl⟩ := qr190
        refine s_iload C at_255 (pc' := 257) rfl rfl ?_
        refine s_iconst C at_257 (pc' := 258) rfl (1 : Int32) rfl ?_
        refine s_lload C at_258 (pc' := 260) rfl rfl ?_
        refine s_iload C at_260 (pc' := 262) rfl rfl ?_
        refine s_callSI C at_262 (pc' := 265) rfl (w20 hw) (w21 hw) (w22 hw) (w23 hw) (by decide) [(.int (7 : Int32)), (.int (1 : Int32)), (.long v3), (.int dd)] [(.int (f_bel (7 : Int32) (0 : Int32) v2 dd))] pd4 rfl rfl (c_bel l Z a0 hw (7 : Int32) (1 : Int32) v3 dd h188 n0 sz189 ) rfl (W := 1) rfl (by decide) (by decide) (k' := 3) rfl (by decide) (n' := 14) rfl (by decide) (fun r191 _ qr191 => ?_)
        obtain ⟨rfl, rfl⟩ := qr191
        refine s_iadd C at_265 (pc' := 266) rfl ?_
        refine s_iload C at_266 (pc' := 268) rfl rfl ?_
        refine s_iconst C at_268 (pc' := 269) rfl (2 : Int32) rfl ?_
        refine s_lload C at_269 (pc' := 271) rfl rfl ?_
        refine s_iload C at_271 (pc' := 273) rfl rfl ?_
        refine s_callSI C at_273 (pc' := 276) rfl (w20 hw) (w21 hw) (w22 hw) (w23 hw) (by decide) [(.int (7 : Int32)), (.int (2 : Int32)), (.long v4), (.int dd)] [(.int ((f_bel (7 : Int32) (0 : Int32) v2 dd) + (f_bel (7 : Int32) (1 : Int32) v3 dd)))] pd4 rfl rfl (c_bel l Z a0 hw (7 : Int32) (2 : Int32) v4 dd h188 n0 sz189 ) rfl (W := 1) rfl (by decide) (by decide) (k' := 3) rfl (by decide) (n' := 14) rfl (by decide) (fun r192 _ qr192 => ?_)
        obtain ⟨rfl, rfl⟩ := qr192
        refine s_iadd C at_276 (pc' := 277) rfl ?_
        refine s_iload C at_277 (pc' := 279) rfl rfl ?_
        refine s_iconst C at_279 (pc' := 280) rfl (3 : Int32) rfl ?_
        refine s_lload C at_280 (pc' := 282) rfl rfl ?_
        refine s_iload C at_282 (pc' := 284) rfl rfl ?_
        refine s_callSI C at_284 (pc' := 287) rfl (w20 hw) (w21 hw) (w22 hw) (w23 hw) (by decide) [(.int (7 : Int32)), (.int (3 : Int32)), (.long v5), (.int dd)] [(.int (((f_bel (7 : Int32) (0 : Int32) v2 dd) + (f_bel (7 : Int32) (1 : Int32) v3 dd)) + (f_bel (7 : Int32) (2 : Int32) v4 dd)))] pd4 rfl rfl (c_bel l Z a0 hw (7 : Int32) (3 : Int32) v5 dd h188 n0 sz189 ) rfl (W := 1) rfl (by decide) (by decide) (k' := 3) rfl (by decide) (n' := 14) rfl (by decide) (fun r193 _ qr193 => ?_)
        obtain ⟨rfl, rfl⟩ := qr193
        refine s_iadd C at_287 (pc' := 288) rfl ?_
        refine s_iload C at_288 (pc' := 290) rfl rfl ?_
        refine s_iconst C at_290 (pc' := 291) rfl (4 : Int32) rfl ?_
        refine s_lload C at_291 (pc' := 293) rfl rfl ?_
        refine s_iload C at_293 (pc' := 295) rfl rfl ?_
        refine s_callSI C at_295 (pc' := 298) rfl (w20 hw) (w21 hw) (w22 hw) (w23 hw) (by decide) [(.int (7 : Int32)), (.int (4 : Int32)), (.long v6), (.int dd)] [(.int ((((f_bel (7 : Int32) (0 : Int32) v2 dd) + (f_bel (7 : Int32) (1 : Int32) v3 dd)) + (f_bel (7 : Int32) (2 : Int32) v4 dd)) + (f_bel (7 : Int32) (3 : Int32) v5 dd)))] pd4 rfl rfl (c_bel l Z a0 hw (7 : Int32) (4 : Int32) v6 dd h188 n0 sz189 ) rfl (W := 1) rfl (by decide) (by decide) (k' := 3) rfl (by decide) (n' := 14) rfl (by decide) (fun r194 _ qr194 => ?_)
        obtain ⟨rfl, rfl⟩ := qr194
        refine s_iadd C at_298 (pc' := 299) rfl ?_
        refine s_iload C at_299 (pc' := 301) rfl rfl ?_
        refine s_iconst C at_301 (pc' := 302) rfl (5 : Int32) rfl ?_
        refine s_lload C at_302 (pc' := 304) rfl rfl ?_
        refine s_iload C at_304 (pc' := 306) rfl rfl ?_
        refine s_callSI C at_306 (pc' := 309) rfl (w20 hw) (w21 hw) (w22 hw) (w23 hw) (by decide) [(.int (7 : Int32)), (.int (5 : Int32)), (.long v7), (.int dd)] [(.int (((((f_bel (7 : Int32) (0 : Int32) v2 dd) + (f_bel (7 : Int32) (1 : Int32) v3 dd)) + (f_bel (7 : Int32) (2 : Int32) v4 dd)) + (f_bel (7 : Int32) (3 : Int32) v5 dd)) + (f_bel (7 : Int32) (4 : Int32) v6 dd)))] pd4 rfl rfl (c_bel l Z a0 hw (7 : Int32) (5 : Int32) v7 dd h188 n0 sz189 ) rfl (W := 1) rfl (by decide) (by decide) (k' := 3) rfl (by decide) (n' := 14) rfl (by decide) (fun r195 _ qr195 => ?_)
        obtain ⟨rfl, rfl⟩ := qr195
        refine s_iadd C at_309 (pc' := 310) rfl ?_
        refine s_iload C at_310 (pc' := 312) rfl rfl ?_
        refine s_bipush C at_312 (pc' := 314) rfl (6 : Int32) rfl ?_
        refine s_lload C at_314 (pc' := 316) rfl rfl ?_
        refine s_iload C at_316 (pc' := 318) rfl rfl ?_
        refine s_callSI C at_318 (pc' := 321) rfl (w20 hw) (w21 hw) (w22 hw) (w23 hw) (by decide) [(.int (7 : Int32)), (.int (6 : Int32)), (.long v8), (.int dd)] [(.int ((((((f_bel (7 : Int32) (0 : Int32) v2 dd) + (f_bel (7 : Int32) (1 : Int32) v3 dd)) + (f_bel (7 : Int32) (2 : Int32) v4 dd)) + (f_bel (7 : Int32) (3 : Int32) v5 dd)) + (f_bel (7 : Int32) (4 : Int32) v6 dd)) + (f_bel (7 : Int32) (5 : Int32) v7 dd)))] pd4 rfl rfl (c_bel l Z a0 hw (7 : Int32) (6 : Int32) v8 dd h188 n0 sz189 ) rfl (W := 1) rfl (by decide) (by decide) (k' := 3) rfl (by decide) (n' := 14) rfl (by decide) (fun r196 _ qr196 => ?_)
        obtain ⟨rfl, rfl⟩ := qr196
        refine s_iadd C at_321 (pc' := 322) rfl ?_
        refine s_istoreP C at_322 (pc' := 324) rfl #[.val (.int x1), .val (.int x2), .val (.int x3), .val (.int x4), .val (.int x5), .val (.int (7 : Int32)), .val (.long v2), .second, .val (.long v3), .second, .val (.long v4), .second, .val (.long v5), .second, .val (.long v6), .second, .val (.long v7), .second, .val (.long v8), .second, .val (.int dd), .val (.ref a10), .val (.int (((((((f_bel (7 : Int32) (0 : Int32) v2 dd) + (f_bel (7 : Int32) (1 : Int32) v3 dd)) + (f_bel (7 : Int32) (2 : Int32) v4 dd)) + (f_bel (7 : Int32) (3 : Int32) v5 dd)) + (f_bel (7 : Int32) (4 : Int32) v6 dd)) + (f_bel (7 : Int32) (5 : Int32) v7 dd)) + (f_bel (7 : Int32) (6 : Int32) v8 dd)))] rfl ?_
        refine s_aload C at_324 (pc' := 326) rfl rfl rfl ?_
        refine s_iload C at_326 (pc' := 328) rfl rfl ?_
        refine s_callVI C at_328 (pc' := 331) rfl (w24 hw) (w25 hw) (notFace_of_selects (args := #[]) (mvT C.2.1 (w27 hw))) (w27 hw) (w26 hw) (w3 hw) (w28 hw) (by decide) E188 [(.int dd)] [] pd1 rfl rfl (c_ix7 l Z a0 hw a10 v2.toInt32 v3.toInt32 v4.toInt32 v5.toInt32 v6.toInt32 v7.toInt32 v8.toInt32 dd h188 n0 sz189 ar182 E188 Fe188 Fs188 V188) rfl (W := 0) rfl (by decide) (by decide) (k' := 3) rfl (by decide) (n' := 14) rfl (by decide) (fun _ _ q197 => ?_)
        obtain ⟨rfl, rfl⟩ := q197
        refine s_iload C at_331 (pc' := 333) rfl rfl ?_
        refine s_icmp_ne C at_333 (pc' := 336) rfl (pcY := 340) rfl (fun hc => by exfalso; exact hc (own_ix7 _ v2 v3 v4 v5 v6 v7 v8 (own_lt (by omega) (by omega)) (own_lt (by omega) (by omega)) (own_lt (by omega) (by omega)) (own_lt (by omega) (by omega)) (own_lt (by omega) (by omega)) (own_lt (by omega) (by omega)) (own_lt (by omega) (by omega)) (own_mono (by omega)) (own_mono (by omega)) (own_mono (by omega)) (own_mono (by omega)) (own_mono (by omega)) (own_mono (by omega)))) (fun c198 => ?_)
        refine s_iconst C at_336 (pc' := 337) rfl (1 : Int32) rfl ?_
        refine s_goto C at_337 (pc' := 341) rfl ?_
        exact s_retN C (by simp) at_341 (by decide) (by decide) rfl
    refine s_iload C at_95 (pc' := 97) rfl rfl ?_
    refine s_iconst C at_97 (pc' := 98) rfl (1 : Int32) rfl ?_
    refine s_iand C at_98 (pc' := 99) rfl ?_
    refine s_if_ne C at_99 (pc' := 102) rfl (pcY := 108) rfl (fun c199 => ?_) (fun c199 => ?_)
    · skip
      refine s_iloadN C at_108 (pc' := 109) rfl rfl ?_
      refine s_i2l C at_109 (pc' := 110) rfl ?_
      refine s_iloadN C at_110 (pc' := 111) rfl rfl ?_
      refine s_bipush C at_111 (pc' := 113) rfl (127 : Int32) rfl ?_
      refine s_iand C at_113 (pc' := 114) rfl ?_
      refine s_bipush C at_114 (pc' := 116) rfl (8 : Int32) rfl ?_
      refine s_isub C at_116 (pc' := 117) rfl ?_
      refine s_i2l C at_117 (pc' := 118) rfl ?_
      refine s_ladd C at_118 (pc' := 119) rfl ?_
      refine s_lstore C at_119 (pc' := 121) rfl (fun y => #[.val (.int x1), .val (.int x2), .val (.int x3), .val (.int x4), .val (.int x5), .val (.int v1), .val (.long v2), .second, .val (.long v3), .second, .val (.long v4), .second, .val (.long v5), .second, .val (.long v6), .second, .val (.long v7), .second, .val (.long v8), .second, .unset, .val (.long y), .second]) (fun _ => rfl) (fun v200 hv200 => ?_)
      refine s_ldc2 C at_121 (pc' := 124) rfl (w29 hw) ?_
      refine s_ldc2 C at_124 (pc' := 127) rfl (w0 hw) ?_
      refine s_lload C at_127 (pc' := 129) rfl rfl ?_
      refine s_callSL C at_129 (pc' := 132) rfl (w30 hw) (w31 hw) (w32 hw) (w33 hw) (by decide) [(.long (2147483647 : Int64)), (.long v200)] [(.long (-2147483648 : Int64))] pd5 rfl rfl (c_minJ l Z a0 hw (2147483647 : Int64) v200 h0 n0 Z0 ) rfl (W := 2) rfl (by decide) (by decide) (k' := 0) rfl (by decide) (n' := 0) rfl (by decide) (fun r201 _ qr201 => ?_)
      obtain ⟨rfl, rfl⟩ := qr201
      refine s_callSL C at_132 (pc' := 135) rfl (w34 hw) (w35 hw) (w32 hw) (w36 hw) (by decide) [(.long (-2147483648 : Int64)), (.long (f_minJ (2147483647 : Int64) v200))] [] pd5 rfl rfl (c_maxJ l Z a0 hw (-2147483648 : Int64) (f_minJ (2147483647 : Int64) v200) h0 n0 Z0 ) rfl (W := 0) rfl (by decide) (by decide) (k' := 0) rfl (by decide) (n' := 0) rfl (by decide) (fun r202 _ qr202 => ?_)
      obtain ⟨rfl, rfl⟩ := qr202
      refine s_l2i C at_135 (pc' := 136) rfl ?_
      refine s_istore C at_136 (pc' := 138) rfl (fun y => #[.val (.int x1), .val (.int x2), .val (.int x3), .val (.int x4), .val (.int x5), .val (.int v1), .val (.long v2), .second, .val (.long v3), .second, .val (.long v4), .second, .val (.long v5), .second, .val (.long v6), .second, .val (.long v7), .second, .val (.long v8), .second, .val (.int y), .val (.long v200), .second]) (fun _ => rfl) (fun v203 hv203 => ?_)
      exact J138 _ _ _ (fun _ => rfl)
    · skip
      refine s_iloadN C at_102 (pc' := 103) rfl rfl ?_
      refine s_istoreP C at_103 (pc' := 105) rfl #[.val (.int x1), .val (.int x2), .val (.int x3), .val (.int x4), .val (.int x5), .val (.int v1), .val (.long v2), .second, .val (.long v3), .second, .val (.long v4), .second, .val (.long v5), .second, .val (.long v6), .second, .val (.long v7), .second, .val (.long v8), .second, .val (.int x4), .unset, .unset] rfl ?_
      refine s_goto C at_105 (pc' := 138) rfl ?_
      exact J138 _ _ _ (fun _ => rfl)
  · skip
    refine s_iconst C at_93 (pc' := 94) rfl (1 : Int32) rfl ?_
    exact s_retN C (by simp) at_94 (by decide) (by decide) rfl
end Own
end Jvm.Pilot.@@N@@
namespace Jvm.Pilot.@@N@@
open Jvm Jvm.ClassFile Sem Op Lib Jvm.Free Jvm.Stand Jvm.LawKit Jvm.RoadKit Bundle Own Jvm.Pilot.@@N@@.Jvm.D
set_option maxRecDepth 65536 in
set_option maxHeartbeats 40000000 in
theorem comes_1 {Post : Tables → Env → Array Value → State → Outcome → State → Prop} (hpost : ∀ tb e args s v u, (limb_1_1.after args s (.returned v) u = true ∧ limb_1_2.after args s (.returned v) u = true ∧ True) → FrameEnd s (.returned v) u (Jvm.fieldLocs frame_1_writes args s ++ Jvm.arrayLocs frame_1_arrays args s ++ Jvm.staticLocs frame_1_statics s) 16 128 → Post tb e args s (.returned v) u) :
    ArmFor flags0 classFile x code maxLocals ret World_1 tables_1 room_1 Calls_1 rest_1 Pre_1 Post := by
  intro l hfl _ _ p e ha hc hk s m args below hf hA hF happ hP
  obtain ⟨hcalls, hrest, hpre⟩ := hP
  obtain ⟨-, -, -, hnamed, -, -, -, hat⟩ := (Spec.applies_iff hf).mp happ
  obtain ⟨hg, hn⟩ := and_e (Cond.before_iff.mp (show (Jvm.Cond.and given_1 narrow_1).before args s = true from hpre))
  obtain ⟨g1, g2⟩ := and_e hg
  obtain ⟨g3, g4⟩ := and_e g2
  obtain ⟨g5, g6⟩ := and_e g4
  obtain ⟨g7, g8⟩ := and_e g6
  obtain ⟨g9, g10⟩ := and_e g8
  obtain ⟨w0, w1, w2, w3, w4, rfl⟩ : ∃ w0 w1 w2 w3 w4 : Value, args = #[w0, w1, w2, w3, w4] := by
    have hs : args.size = 5 := by simpa [Cond.value, given_1] using g1
    obtain ⟨L⟩ := args
    match L, hs with
    | [w0, w1, w2, w3, w4], _ => exact ⟨w0, w1, w2, w3, w4, rfl⟩
  have hw := fun d (hd : d ∈ tables_1) => atoms_spec (ws := Jvm.Cond.code x code maxLocals ret :: tables_1) hat d (List.mem_cons_of_mem _ hd)
  have hfit : Fit s := fun {y c} hc i hi => by
    obtain ⟨ha, rfl⟩ := Array.getElem?_eq_some_iff.mp hc
    have q := List.all_eq_true.mp ((Array.all_eq_true_iff_forall_mem.mp hF) _ (Array.getElem_mem ha)) i (List.mem_range.mpr hi)
    simpa [Array.getElem?_eq_getElem hi] using q
  obtain ⟨i0, ei0⟩ := is_v g3
  obtain rfl : w0 = (.int i0) := Option.some.inj ei0
  obtain ⟨i1, ei1⟩ := is_v g5
  obtain rfl : w1 = (.int i1) := Option.some.inj ei1
  obtain ⟨i2, ei2⟩ := is_v g7
  obtain rfl : w2 = (.int i2) := Option.some.inj ei2
  obtain ⟨i3, ei3⟩ := is_v g9
  obtain rfl : w3 = (.int i3) := Option.some.inj ei3
  obtain ⟨i4, ei4⟩ := is_v g10
  obtain rfl : w4 = (.int i4) := Option.some.inj ei4
  obtain ⟨n, o, h1, h2, h3, _, L, rfl, ⟨⟨_, rfl, rfl⟩, N⟩, hq⟩ := law l s _ hw i0 i1 i2 i3 i4 s.heap s.heap.size (Nat.le_refl _)  p e ha hc hk s m _ below hf ((Spec.applies_iff_loose hf).mp happ).1 ⟨rfl, State.Warmed39.refl s, rfl⟩ trivial
  refine ⟨n, _, h1, h2, h3, hpost _ _ _ _ _ _ ⟨Cond.after_iff.mpr rfl, Cond.after_iff.mpr (eq_i res_at (Term.int_eval (1)) rfl), trivial⟩ ⟨hq.1, hq.2.1, (hq.2.2.sift fun y hy => Or.inr (N y hy)).mono (by decide) (by decide)⟩⟩
theorem main_1_1 : Claimed_1_1 := comes_1 fun _ _ _ _ _ _ h hF => ⟨h.1, hF⟩
theorem main_1_2 : Claimed_1_2 := comes_1 fun _ _ _ _ _ _ h hF => ⟨h.2.1, hF⟩
end Jvm.Pilot.@@N@@
namespace Jvm.Pilot.@@N@@
open Jvm Jvm.ClassFile Sem Op Lib Jvm.Free Jvm.Stand Jvm.Pilot.@@N@@.Jvm.D
/-! MADE BY PROGRAM (witnessworld.py) out of the Statement's table words and the real class files: 12 classes; the members and pool entries that the words name. The judged class is class 1, her method 2. -/
namespace start1
open Jvm.ClassFile
def u (s : String) : CpInfo := .utf8 (stringToUtf16 s)
/-- a pool by its gaps: so many unusable entries, then the entry; so many at the end -/
def gap : Nat → List CpInfo → List CpInfo
  | 0, r => r
  | n + 1, r => .unusable :: gap n r
def poolList (es : List (Nat × CpInfo)) (last : Nat) : List CpInfo := es.foldr (fun e r => gap e.1 (e.2 :: r)) (gap last [])
def pool (es : List (Nat × CpInfo)) (last : Nat) : Array CpInfo := ⟨poolList es last⟩
def fileOf (pool : Array CpInfo) (this : Nat) (attrs : Array Attribute := #[]) (ms : Array MethodInfo := #[]) (fl : Nat := 33) (sup : Nat := 0) (ifs : Array Nat := #[]) (fds : Array FieldInfo := #[]) : ClassFile where
  minorVersion := 0
  majorVersion := 65
  constantPool := pool
  accessFlags := fl
  thisClass := this
  superClass := sup
  interfaces := ifs
  fields := fds
  methods := ms
  attributes := attrs
def plain (name : String) (sup : Option ClassId) : Class where
  name := name
  kind := .ordinary
  loader := none
  accessFlags := 33
  super := sup
  interfaces := #[]
  cf := none
  fields := #[]
  methods := #[]
  instanceTypes := #[]
  staticTypes := #[]
  resolved := #[]
  callSites := []
  init := .initialized
  statics := none
  mirror := none

def pool0 : Array CpInfo := pool [(5, u "<init>"), (0, u "()V"), (1, .class_ 10), (1, u "java/lang/Object")] 113

def k0c0 : Code := { maxStack := 0, maxLocals := 1, code := object_method_1_code, exceptionTable := #[], attributes := #[] }
def k0m0 : Method := { name := "<init>", desc := "()V", sig := { parameters := [], returnType := none }, accessFlags := 1, code := some k0c0 }
/-- java/lang/Object -/
def k0 : Class := { plain "java/lang/Object" none with
  accessFlags := 33
  interfaces := #[]
  cf := some (fileOf pool0 8 #[] #[{ accessFlags := 1, nameIndex := 5, descriptorIndex := 6, attributes := #[] }] 33 0 #[] #[])
  fields := #[]
  methods := #[k0m0]
  instanceTypes := #[]
  staticTypes := #[]
  resolved := Array.replicate 124 none
  statics := none }

def pool1 : Array CpInfo := pool [(2, .class_ 4), (0, .nameAndType 5 6), (0, u "java/lang/Object"), (0, u "<init>"), (0, u "()V"), (2, .long 2147483647), (1, .long 18446744071562067968), (1, .methodref 14 15), (0, .class_ 16), (0, .nameAndType 17 18), (0, u "java/lang/Math"), (0, u "min"), (0, u "(JJ)J"), (0, .methodref 14 20), (0, .nameAndType 21 18), (0, u "max"), (0, .class_ 23), (0, u "com/example/chasm/chasm/chase/IdList"), (0, .methodref 22 3), (0, .methodref 22 26), (0, .nameAndType 27 28), (0, u "add"), (0, u "(I)V"), (0, .methodref 30 31), (0, .class_ 32), (0, .nameAndType 33 34), (0, u "com/example/chasm/chasm/chase/IdListIndexOfPinLaw"), (0, u "below"), (0, u "(IIJI)I"), (0, .methodref 22 36), (0, .nameAndType 37 38), (0, u "indexOf"), (0, u "(I)I"), (3, u "law"), (0, u "(IIIII)Z")] 2

def k1m0 : Method := { name := "<init>", desc := "()V", sig := { parameters := [], returnType := none }, accessFlags := 1, code := none }
def k1c1 : Code := { maxStack := 4, maxLocals := 5, code := method_2_code, exceptionTable := #[], attributes := #[] }
def k1m1 : Method := { name := "below", desc := "(IIJI)I", sig := { parameters := [.int, .int, .long, .int], returnType := some .int }, accessFlags := 10, code := some k1c1 }
def k1c2 : Code := { maxStack := 6, maxLocals := 23, code := code, exceptionTable := #[], attributes := #[] }
def k1m2 : Method := { name := "law", desc := "(IIIII)Z", sig := { parameters := [.int, .int, .int, .int, .int], returnType := some .boolean }, accessFlags := 9, code := some k1c2 }
/-- com/example/chasm/chasm/chase/IdListIndexOfPinLaw -/
def k1 : Class := { plain "com/example/chasm/chasm/chase/IdListIndexOfPinLaw" (some 0) with
  accessFlags := 49
  interfaces := #[]
  cf := some (fileOf pool1 30 #[] #[{ accessFlags := 1, nameIndex := 5, descriptorIndex := 6, attributes := #[] }, { accessFlags := 10, nameIndex := 33, descriptorIndex := 34, attributes := #[] }, { accessFlags := 9, nameIndex := 42, descriptorIndex := 43, attributes := #[] }] 49 2 #[] #[])
  fields := #[]
  methods := #[k1m0, k1m1, k1m2]
  instanceTypes := #[]
  staticTypes := #[]
  resolved := Array.replicate 46 none
  statics := none }

def pool2 : Array CpInfo := pool [(1, .methodref 2 3), (0, .class_ 4), (0, .nameAndType 5 6), (0, u "java/lang/Object"), (0, u "<init>"), (0, u "()V"), (0, .fieldref 8 9), (0, .class_ 10), (0, .nameAndType 11 12), (0, u "com/example/chasm/chasm/chase/IdList"), (0, u "ids"), (0, u "[I"), (0, .fieldref 8 14), (0, .nameAndType 15 16), (0, u "size"), (0, u "I"), (0, .methodref 18 19), (0, .class_ 20), (0, .nameAndType 21 22), (0, u "java/util/Arrays"), (0, u "copyOf"), (0, u "([II)[I"), (2, u "indexOf"), (0, u "(I)I"), (8, u "add"), (0, u "(I)V")] 8

def k2c0 : Code := { maxStack := 2, maxLocals := 1, code := prog_24_method_1_code, exceptionTable := #[], attributes := #[] }
def k2m0 : Method := { name := "<init>", desc := "()V", sig := { parameters := [], returnType := none }, accessFlags := 0, code := some k2c0 }
def k2c1 : Code := { maxStack := 5, maxLocals := 2, code := prog_24_method_2_code, exceptionTable := #[], attributes := #[] }
def k2m1 : Method := { name := "add", desc := "(I)V", sig := { parameters := [.int], returnType := none }, accessFlags := 0, code := some k2c1 }
def k2c2 : Code := { maxStack := 2, maxLocals := 5, code := prog_24_method_7_code, exceptionTable := #[], attributes := #[] }
def k2m2 : Method := { name := "indexOf", desc := "(I)I", sig := { parameters := [.int], returnType := some .int }, accessFlags := 0, code := some k2c2 }
/-- com/example/chasm/chasm/chase/IdList -/
def k2 : Class := { plain "com/example/chasm/chasm/chase/IdList" (some 0) with
  accessFlags := 48
  interfaces := #[]
  cf := some (fileOf pool2 8 #[] #[{ accessFlags := 0, nameIndex := 5, descriptorIndex := 6, attributes := #[] }, { accessFlags := 0, nameIndex := 35, descriptorIndex := 36, attributes := #[] }, { accessFlags := 0, nameIndex := 25, descriptorIndex := 26, attributes := #[] }] 48 2 #[] #[{ accessFlags := 2, nameIndex := 11, descriptorIndex := 12, attributes := #[] }, { accessFlags := 2, nameIndex := 15, descriptorIndex := 16, attributes := #[] }])
  fields := #[{ name := "ids", type := (.array .int), accessFlags := 2, slot := 0, constantValue := 0 }, { name := "size", type := .int, accessFlags := 2, slot := 1, constantValue := 0 }]
  methods := #[k2m0, k2m1, k2m2]
  instanceTypes := #[(.array .int), .int]
  staticTypes := #[]
  resolved := Array.replicate 45 none
  statics := none }

def pool3 : Array CpInfo := pool [(1, .class_ 2), (0, u "java/lang/Math"), (1, .class_ 6), (1, u "java/lang/Object"), (0, u "<init>"), (0, u "()V"), (89, .class_ 100), (1, u "java/lang/Math$RandomNumberGeneratorHolder"), (20, u "(JJ)J"), (50, u "negativeZeroFloatBits"), (0, u "J"), (2, u "negativeZeroDoubleBits"), (21, u "max"), (2, u "min"), (43, u "$assertionsDisabled"), (0, u "Z"), (88, u "(II)I"), (2, u "twoToTheDoubleScaleDown"), (0, u "D"), (4, u "twoToTheDoubleScaleUp"), (9, u "E"), (3, u "PI"), (2, u "TAU"), (2, u "DEGREES_TO_RADIANS"), (0, u "RADIANS_TO_DEGREES")] 94

def k3m0 : Method := { name := "<init>", desc := "()V", sig := { parameters := [], returnType := none }, accessFlags := 2, code := none }
def k3c1 : Code := { maxStack := 4, maxLocals := 4, code := jdk_29_method_66_code, exceptionTable := #[], attributes := #[] }
def k3m1 : Method := { name := "max", desc := "(JJ)J", sig := { parameters := [.long, .long], returnType := some .long }, accessFlags := 9, code := some k3c1 }
def k3c2 : Code := { maxStack := 2, maxLocals := 2, code := jdk_29_method_69_code, exceptionTable := #[], attributes := #[] }
def k3m2 : Method := { name := "min", desc := "(II)I", sig := { parameters := [.int, .int], returnType := some .int }, accessFlags := 9, code := some k3c2 }
def k3c3 : Code := { maxStack := 4, maxLocals := 4, code := jdk_29_method_70_code, exceptionTable := #[], attributes := #[] }
def k3m3 : Method := { name := "min", desc := "(JJ)J", sig := { parameters := [.long, .long], returnType := some .long }, accessFlags := 9, code := some k3c3 }
/-- java/lang/Math -/
def k3 : Class := { plain "java/lang/Math" (some 0) with
  accessFlags := 49
  interfaces := #[]
  cf := some (fileOf pool3 1 #[.nestMembers #[98]] #[{ accessFlags := 2, nameIndex := 7, descriptorIndex := 8, attributes := #[] }, { accessFlags := 9, nameIndex := 198, descriptorIndex := 121, attributes := #[] }, { accessFlags := 9, nameIndex := 201, descriptorIndex := 335, attributes := #[] }, { accessFlags := 9, nameIndex := 201, descriptorIndex := 121, attributes := #[] }] 49 4 #[] #[{ accessFlags := 25, nameIndex := 354, descriptorIndex := 339, attributes := #[] }, { accessFlags := 25, nameIndex := 358, descriptorIndex := 339, attributes := #[] }, { accessFlags := 25, nameIndex := 361, descriptorIndex := 339, attributes := #[] }, { accessFlags := 26, nameIndex := 364, descriptorIndex := 339, attributes := #[] }, { accessFlags := 26, nameIndex := 365, descriptorIndex := 339, attributes := #[] }, { accessFlags := 26, nameIndex := 172, descriptorIndex := 173, attributes := #[] }, { accessFlags := 26, nameIndex := 176, descriptorIndex := 173, attributes := #[] }, { accessFlags := 8, nameIndex := 344, descriptorIndex := 339, attributes := #[] }, { accessFlags := 8, nameIndex := 338, descriptorIndex := 339, attributes := #[] }, { accessFlags := 4120, nameIndex := 245, descriptorIndex := 246, attributes := #[] }])
  fields := #[{ name := "E", type := .double, accessFlags := 25, slot := 0, constantValue := 0 }, { name := "PI", type := .double, accessFlags := 25, slot := 1, constantValue := 0 }, { name := "TAU", type := .double, accessFlags := 25, slot := 2, constantValue := 0 }, { name := "DEGREES_TO_RADIANS", type := .double, accessFlags := 26, slot := 3, constantValue := 0 }, { name := "RADIANS_TO_DEGREES", type := .double, accessFlags := 26, slot := 4, constantValue := 0 }, { name := "negativeZeroFloatBits", type := .long, accessFlags := 26, slot := 5, constantValue := 0 }, { name := "negativeZeroDoubleBits", type := .long, accessFlags := 26, slot := 6, constantValue := 0 }, { name := "twoToTheDoubleScaleUp", type := .double, accessFlags := 8, slot := 7, constantValue := 0 }, { name := "twoToTheDoubleScaleDown", type := .double, accessFlags := 8, slot := 8, constantValue := 0 }, { name := "$assertionsDisabled", type := .boolean, accessFlags := 4120, slot := 9, constantValue := 0 }]
  methods := #[k3m0, k3m1, k3m2, k3m3]
  instanceTypes := #[]
  staticTypes := #[.double, .double, .double, .double, .double, .long, .long, .double, .double, .boolean]
  resolved := Array.replicate 460 none
  statics := none }

def pool4 : Array CpInfo := pool [(2, .class_ 4), (1, u "java/lang/Object"), (0, u "<init>"), (0, u "()V"), (7, .class_ 16), (1, u "java/util/Arrays"), (57, .class_ 76), (1, u "java/util/Arrays$NaturalOrder"), (36, .class_ 115), (1, u "java/util/Arrays$LegacyMergeSort"), (1, u "Z"), (32, .methodref 151 152), (0, .class_ 153), (0, .nameAndType 154 155), (0, u "java/lang/System"), (0, u "arraycopy"), (0, u "(Ljava/lang/Object;ILjava/lang/Object;II)V"), (146, u "copyOf"), (1, .methodref 305 306), (0, .class_ 307), (0, .nameAndType 308 309), (0, u "java/lang/Math"), (0, u "min"), (0, u "(II)I"), (65, .class_ 376), (0, u "java/util/Arrays$ArrayList"), (68, u "$assertionsDisabled"), (269, u "MIN_ARRAY_SORT_GRAN"), (0, u "I"), (2, u "INSERTIONSORT_THRESHOLD"), (151, u "([II)[I"), (103, .class_ 976), (0, u "java/util/Arrays$ArrayItr")] 52

def k4m0 : Method := { name := "<init>", desc := "()V", sig := { parameters := [], returnType := none }, accessFlags := 2, code := none }
def k4c1 : Code := { maxStack := 6, maxLocals := 3, code := jdk_65_method_123_code, exceptionTable := #[], attributes := #[] }
def k4m1 : Method := { name := "copyOf", desc := "([II)[I", sig := { parameters := [(.array .int), .int], returnType := some (.array .int) }, accessFlags := 9, code := some k4c1 }
/-- java/util/Arrays -/
def k4 : Class := { plain "java/util/Arrays" (some 0) with
  accessFlags := 49
  interfaces := #[]
  cf := some (fileOf pool4 14 #[.nestMembers #[975, 375, 113, 74]] #[{ accessFlags := 2, nameIndex := 5, descriptorIndex := 6, attributes := #[] }, { accessFlags := 9, nameIndex := 302, descriptorIndex := 871, attributes := #[] }] 49 2 #[] #[{ accessFlags := 26, nameIndex := 715, descriptorIndex := 716, attributes := #[] }, { accessFlags := 26, nameIndex := 719, descriptorIndex := 716, attributes := #[] }, { accessFlags := 4120, nameIndex := 445, descriptorIndex := 117, attributes := #[] }])
  fields := #[{ name := "MIN_ARRAY_SORT_GRAN", type := .int, accessFlags := 26, slot := 0, constantValue := 0 }, { name := "INSERTIONSORT_THRESHOLD", type := .int, accessFlags := 26, slot := 1, constantValue := 0 }, { name := "$assertionsDisabled", type := .boolean, accessFlags := 4120, slot := 2, constantValue := 0 }]
  methods := #[k4m0, k4m1]
  instanceTypes := #[]
  staticTypes := #[.int, .int, .boolean]
  resolved := Array.replicate 1029 none
  statics := none }

def pool5 : Array CpInfo := pool [(2, .class_ 4), (1, u "java/lang/Object"), (0, u "<init>"), (0, u "()V"), (1, .class_ 10), (1, u "java/lang/System"), (0, u "allowSecurityManager"), (0, u "I"), (16, u "cons"), (0, u "Ljava/io/Console;"), (77, .class_ 110), (1, u "java/lang/System$CallersHolder"), (43, u "initialErrStream"), (0, u "Ljava/io/PrintStream;"), (19, u "security"), (0, u "Ljava/lang/SecurityManager;"), (31, .class_ 209), (0, u "java/lang/System$1"), (7, u "props"), (0, u "Ljava/util/Properties;"), (2, u "lineSeparator"), (0, u "Ljava/lang/String;"), (96, .class_ 321), (1, u "java/lang/System$LoggerFinder"), (5, .class_ 328), (0, u "java/lang/System$Logger"), (67, u "err"), (2, u "out"), (91, u "notSupportedJnuEncoding"), (15, u "in"), (17, u "initialIn"), (0, u "Ljava/io/InputStream;"), (35, u "bootLayer"), (0, u "Ljava/lang/ModuleLayer;"), (99, .class_ 664), (0, u "java/lang/System$2"), (9, u "NEVER"), (2, u "MAYBE"), (49, u "arraycopy"), (0, u "(Ljava/lang/Object;ILjava/lang/Object;II)V"), (72, .class_ 802), (0, u "java/lang/System$Logger$Level")] 31

def k5m0 : Method := { name := "<init>", desc := "()V", sig := { parameters := [], returnType := none }, accessFlags := 2, code := none }
def k5m1 : Method := { name := "arraycopy", desc := "(Ljava/lang/Object;ILjava/lang/Object;II)V", sig := { parameters := [(.object "java/lang/Object"), .int, (.object "java/lang/Object"), .int, .int], returnType := none }, accessFlags := 265, code := none }
/-- java/lang/System -/
def k5 : Class := { plain "java/lang/System" (some 0) with
  accessFlags := 49
  interfaces := #[]
  cf := some (fileOf pool5 8 #[.nestMembers #[319, 327, 801, 108, 663, 208]] #[{ accessFlags := 2, nameIndex := 5, descriptorIndex := 6, attributes := #[] }, { accessFlags := 265, nameIndex := 727, descriptorIndex := 728, attributes := #[] }] 49 2 #[] #[{ accessFlags := 25, nameIndex := 507, descriptorIndex := 526, attributes := #[] }, { accessFlags := 25, nameIndex := 399, descriptorIndex := 155, attributes := #[] }, { accessFlags := 25, nameIndex := 396, descriptorIndex := 155, attributes := #[] }, { accessFlags := 10, nameIndex := 525, descriptorIndex := 526, attributes := #[] }, { accessFlags := 26, nameIndex := 674, descriptorIndex := 12, attributes := #[] }, { accessFlags := 26, nameIndex := 677, descriptorIndex := 12, attributes := #[] }, { accessFlags := 10, nameIndex := 11, descriptorIndex := 12, attributes := #[] }, { accessFlags := 74, nameIndex := 175, descriptorIndex := 176, attributes := #[] }, { accessFlags := 10, nameIndex := 491, descriptorIndex := 222, attributes := #[] }, { accessFlags := 74, nameIndex := 29, descriptorIndex := 30, attributes := #[] }, { accessFlags := 74, nameIndex := 154, descriptorIndex := 155, attributes := #[] }, { accessFlags := 10, nameIndex := 217, descriptorIndex := 218, attributes := #[] }, { accessFlags := 10, nameIndex := 221, descriptorIndex := 222, attributes := #[] }, { accessFlags := 8, nameIndex := 562, descriptorIndex := 563, attributes := #[] }])
  fields := #[{ name := "in", type := (.object "java/io/InputStream"), accessFlags := 25, slot := 0, constantValue := 0 }, { name := "out", type := (.object "java/io/PrintStream"), accessFlags := 25, slot := 1, constantValue := 0 }, { name := "err", type := (.object "java/io/PrintStream"), accessFlags := 25, slot := 2, constantValue := 0 }, { name := "initialIn", type := (.object "java/io/InputStream"), accessFlags := 10, slot := 3, constantValue := 0 }, { name := "NEVER", type := .int, accessFlags := 26, slot := 4, constantValue := 0 }, { name := "MAYBE", type := .int, accessFlags := 26, slot := 5, constantValue := 0 }, { name := "allowSecurityManager", type := .int, accessFlags := 10, slot := 6, constantValue := 0 }, { name := "security", type := (.object "java/lang/SecurityManager"), accessFlags := 74, slot := 7, constantValue := 0 }, { name := "notSupportedJnuEncoding", type := (.object "java/lang/String"), accessFlags := 10, slot := 8, constantValue := 0 }, { name := "cons", type := (.object "java/io/Console"), accessFlags := 74, slot := 9, constantValue := 0 }, { name := "initialErrStream", type := (.object "java/io/PrintStream"), accessFlags := 74, slot := 10, constantValue := 0 }, { name := "props", type := (.object "java/util/Properties"), accessFlags := 10, slot := 11, constantValue := 0 }, { name := "lineSeparator", type := (.object "java/lang/String"), accessFlags := 10, slot := 12, constantValue := 0 }, { name := "bootLayer", type := (.object "java/lang/ModuleLayer"), accessFlags := 8, slot := 13, constantValue := 0 }]
  methods := #[k5m0, k5m1]
  instanceTypes := #[]
  staticTypes := #[(.object "java/io/InputStream"), (.object "java/io/PrintStream"), (.object "java/io/PrintStream"), (.object "java/io/InputStream"), .int, .int, .int, (.object "java/lang/SecurityManager"), (.object "java/lang/String"), (.object "java/io/Console"), (.object "java/io/PrintStream"), (.object "java/util/Properties"), (.object "java/lang/String"), (.object "java/lang/ModuleLayer")]
  resolved := Array.replicate 834 none
  statics := none }

def pool6 : Array CpInfo := pool [(1, u "java/lang/Cloneable"), (0, .class_ 1), (0, u "java/lang/Object"), (0, .class_ 3)] 3

/-- java/lang/Cloneable -/
def k6 : Class := { plain "java/lang/Cloneable" (some 0) with
  accessFlags := 1537
  interfaces := #[]
  cf := some (fileOf pool6 2 #[] #[] 1537 4 #[] #[])
  fields := #[]
  methods := #[]
  instanceTypes := #[]
  staticTypes := #[]
  resolved := Array.replicate 8 none
  statics := none }

def pool7 : Array CpInfo := pool [(1, u "java/io/Serializable"), (0, .class_ 1), (0, u "java/lang/Object"), (0, .class_ 3)] 3

/-- java/io/Serializable -/
def k7 : Class := { plain "java/io/Serializable" (some 0) with
  accessFlags := 1537
  interfaces := #[]
  cf := some (fileOf pool7 2 #[] #[] 1537 4 #[] #[])
  fields := #[]
  methods := #[]
  instanceTypes := #[]
  staticTypes := #[]
  resolved := Array.replicate 8 none
  statics := none }

/-- the primitive byte -/
def k8 : Class := { plain "byte" none with kind := .primitive 'B', accessFlags := 0x411 }
/-- [B -/
def k9 : Class := { plain "[B" (some 0) with kind := .array 8 .byte, interfaces := #[6, 7], accessFlags := 1041 }

/-- the primitive int -/
def k10 : Class := { plain "int" none with kind := .primitive 'I', accessFlags := 0x411 }
/-- [I -/
def k11 : Class := { plain "[I" (some 0) with kind := .array 10 .int, interfaces := #[6, 7], accessFlags := 1041 }

def heap : Heap := #[]
def classes : Array Class := #[k0, k1, k2, k3, k4, k5, k6, k7, k8, k9, k10, k11]
def interned : List (Array UInt16 × Addr) := []
def slotsUsed : Nat := 0
def theMethod : MethodId := ⟨1, 2⟩
def args0 : Array Value := #[.int 3, .int 5, .int 7, .int 9, .int 11]
def aboutOver (below : List Frame) : State where
  vm := { classes := classes, interned := interned.toArray }
  heap := heap
  slotsUsed := slotsUsed
  threads := #[{ frames := .invoking theMethod args0 :: below }]
def below0 : List Frame := [.native { method := ⟨0, 0⟩, args := #[] }]
def about1 : State := aboutOver below0
def p0 : Program := .bare "" "" ""
def e0 : Env := launch0.env 0 0 0
theorem w_frames : about1.frames = Frame.invoking theMethod args0 :: below0 := rfl
set_option maxRecDepth 65536 in
theorem w_args : argsFit about1.vm theMethod args0 = true := by decide +kernel
set_option maxRecDepth 65536 in
theorem w_heap : heapFits about1 = true := by decide +kernel
set_option maxRecDepth 65536 in
theorem w_runnable : about1.curStatus? = some .runnable := by decide +kernel
set_option maxRecDepth 65536 in
theorem w_alone : about1.alone = true := by decide +kernel
set_option maxRecDepth 65536 in
theorem w_named : about1.methodNamed? x = some theMethod := by decide +kernel
set_option maxRecDepth 65536 in
theorem w_hears : about1.hears theMethod below0 = true := by decide +kernel
set_option maxRecDepth 65536 in
theorem w_ripe : about1.ripe theMethod args0 below0 = true := by decide +kernel
theorem w_running : about1.status = .running := rfl
set_option maxRecDepth 65536 in
theorem w_room : about1.hasRoom e0.platform room_1 = true :=
  launch0.hasRoom_least _ room_1 (by decide +kernel) (by decide +kernel) (by decide +kernel) (by decide +kernel) (by decide +kernel) (by decide +kernel)
theorem allAtoms_all (ts : List Jvm.Cond) (a : Array Jvm.Value) (st : Jvm.State) : (allAtoms ts).before a st = ts.all (fun c => c.before a st) := by
  induction ts with
  | nil => rfl
  | cons c t ih =>
    show (Jvm.Cond.and c (allAtoms t)).before a st = _
    rw [Jvm.Cond.before_and, ih, List.all_cons]
def words1 : List Jvm.Cond := Jvm.Cond.code x code maxLocals ret :: tables_1
/-- a 'code' word, met by the world's own term for the bytes: nothing is compared byte by byte -/
theorem code_word {y : MethodName} {bytes : ByteArray} {mx : Nat} {rt : Option FieldType} {a : Array Value} {s : State} {m : MethodId} {meth : Method} {c : Code} (h1 : s.methodNamed? y = some m) (h2 : s.vm.method? m = some meth) (h3 : meth.code = some c) (h4 : c.code = bytes)
    (h5 : (c.maxLocals == mx && c.exceptionTable.isEmpty && decide (c.maxStack ≤ mostOperands) && decide (meth.sig.returnType = rt) && !meth.locks && decide (parseMethodDescriptor y.desc = some meth.sig)) = true) : (Jvm.Cond.code y bytes mx rt).before a s = true := by
  simp only [Bool.and_eq_true, beq_iff_eq, Bool.not_eq_true', decide_eq_true_eq] at h5
  obtain ⟨⟨⟨⟨⟨g1, g2⟩, g3⟩, g4⟩, g5⟩, g6⟩ := h5
  simp [Cond.before, Cond.holds, Cond.value, h1, h2, h3, h4, g1, g2, g3, g4, g5, g6]
def isCode : Jvm.Cond → Bool
  | .code _ _ _ _ => true
  | _ => false
theorem all_split {L : List Jvm.Cond} {P : Jvm.Cond → Bool} (h1 : L.all (fun c => isCode c || P c) = true) (h2 : ∀ c ∈ L.filter isCode, P c = true) : L.all P = true := by
  refine List.all_eq_true.mpr fun c hc => ?_
  have h := List.all_eq_true.mp h1 c hc
  rcases Bool.eq_false_or_eq_true (isCode c) with hi | hi
  · exact h2 c (List.mem_filter.mpr ⟨hc, hi⟩)
  · simpa [hi] using h
set_option maxRecDepth 65536 in
theorem w_c0 : (Jvm.Cond.code x code maxLocals ret).before args0 about1 = true := code_word (m := ⟨1, 2⟩) (meth := k1m2) (c := k1c2) (by decide +kernel) rfl rfl rfl (by decide +kernel)
set_option maxRecDepth 65536 in
theorem w_c1 : (Jvm.Cond.code ({ cls := "com/example/chasm/chasm/chase/IdList", name := "<init>", desc := "()V" } : Jvm.MethodName) prog_24_method_1_code (1 : Nat) (Option.none : Option Jvm.ClassFile.FieldType)).before args0 about1 = true := code_word (m := ⟨2, 0⟩) (meth := k2m0) (c := k2c0) (by decide +kernel) rfl rfl rfl (by decide +kernel)
set_option maxRecDepth 65536 in
theorem w_c2 : (Jvm.Cond.code ({ cls := "java/lang/Object", name := "<init>", desc := "()V" } : Jvm.MethodName) object_method_1_code (1 : Nat) (Option.none : Option Jvm.ClassFile.FieldType)).before args0 about1 = true := code_word (m := ⟨0, 0⟩) (meth := k0m0) (c := k0c0) (by decide +kernel) rfl rfl rfl (by decide +kernel)
set_option maxRecDepth 65536 in
theorem w_c3 : (Jvm.Cond.code ({ cls := "com/example/chasm/chasm/chase/IdList", name := "add", desc := "(I)V" } : Jvm.MethodName) prog_24_method_2_code (2 : Nat) (Option.none : Option Jvm.ClassFile.FieldType)).before args0 about1 = true := code_word (m := ⟨2, 1⟩) (meth := k2m1) (c := k2c1) (by decide +kernel) rfl rfl rfl (by decide +kernel)
set_option maxRecDepth 65536 in
theorem w_c4 : (Jvm.Cond.code ({ cls := "com/example/chasm/chasm/chase/IdListIndexOfPinLaw", name := "below", desc := "(IIJI)I" } : Jvm.MethodName) method_2_code (5 : Nat) (Option.some Jvm.ClassFile.FieldType.int)).before args0 about1 = true := code_word (m := ⟨1, 1⟩) (meth := k1m1) (c := k1c1) (by decide +kernel) rfl rfl rfl (by decide +kernel)
set_option maxRecDepth 65536 in
theorem w_c5 : (Jvm.Cond.code ({ cls := "com/example/chasm/chasm/chase/IdList", name := "indexOf", desc := "(I)I" } : Jvm.MethodName) prog_24_method_7_code (5 : Nat) (Option.some Jvm.ClassFile.FieldType.int)).before args0 about1 = true := code_word (m := ⟨2, 2⟩) (meth := k2m2) (c := k2c2) (by decide +kernel) rfl rfl rfl (by decide +kernel)
set_option maxRecDepth 65536 in
theorem w_c6 : (Jvm.Cond.code ({ cls := "java/lang/Math", name := "min", desc := "(JJ)J" } : Jvm.MethodName) jdk_29_method_70_code (4 : Nat) (Option.some Jvm.ClassFile.FieldType.long)).before args0 about1 = true := code_word (m := ⟨3, 3⟩) (meth := k3m3) (c := k3c3) (by decide +kernel) rfl rfl rfl (by decide +kernel)
set_option maxRecDepth 65536 in
theorem w_c7 : (Jvm.Cond.code ({ cls := "java/lang/Math", name := "max", desc := "(JJ)J" } : Jvm.MethodName) jdk_29_method_66_code (4 : Nat) (Option.some Jvm.ClassFile.FieldType.long)).before args0 about1 = true := code_word (m := ⟨3, 1⟩) (meth := k3m1) (c := k3c1) (by decide +kernel) rfl rfl rfl (by decide +kernel)
set_option maxRecDepth 65536 in
theorem w_c8 : (Jvm.Cond.code ({ cls := "java/util/Arrays", name := "copyOf", desc := "([II)[I" } : Jvm.MethodName) jdk_65_method_123_code (3 : Nat) (Option.some (Jvm.ClassFile.FieldType.array Jvm.ClassFile.FieldType.int))).before args0 about1 = true := code_word (m := ⟨4, 1⟩) (meth := k4m1) (c := k4c1) (by decide +kernel) rfl rfl rfl (by decide +kernel)
set_option maxRecDepth 65536 in
theorem w_c9 : (Jvm.Cond.code ({ cls := "java/lang/Math", name := "min", desc := "(II)I" } : Jvm.MethodName) jdk_29_method_69_code (2 : Nat) (Option.some Jvm.ClassFile.FieldType.int)).before args0 about1 = true := code_word (m := ⟨3, 2⟩) (meth := k3m2) (c := k3c2) (by decide +kernel) rfl rfl rfl (by decide +kernel)
def codes1 : List Jvm.Cond := [Jvm.Cond.code x code maxLocals ret, Jvm.Cond.code ({ cls := "com/example/chasm/chasm/chase/IdList", name := "<init>", desc := "()V" } : Jvm.MethodName) prog_24_method_1_code (1 : Nat) (Option.none : Option Jvm.ClassFile.FieldType), Jvm.Cond.code ({ cls := "java/lang/Object", name := "<init>", desc := "()V" } : Jvm.MethodName) object_method_1_code (1 : Nat) (Option.none : Option Jvm.ClassFile.FieldType), Jvm.Cond.code ({ cls := "com/example/chasm/chasm/chase/IdList", name := "add", desc := "(I)V" } : Jvm.MethodName) prog_24_method_2_code (2 : Nat) (Option.none : Option Jvm.ClassFile.FieldType), Jvm.Cond.code ({ cls := "com/example/chasm/chasm/chase/IdListIndexOfPinLaw", name := "below", desc := "(IIJI)I" } : Jvm.MethodName) method_2_code (5 : Nat) (Option.some Jvm.ClassFile.FieldType.int), Jvm.Cond.code ({ cls := "com/example/chasm/chasm/chase/IdList", name := "indexOf", desc := "(I)I" } : Jvm.MethodName) prog_24_method_7_code (5 : Nat) (Option.some Jvm.ClassFile.FieldType.int), Jvm.Cond.code ({ cls := "java/lang/Math", name := "min", desc := "(JJ)J" } : Jvm.MethodName) jdk_29_method_70_code (4 : Nat) (Option.some Jvm.ClassFile.FieldType.long), Jvm.Cond.code ({ cls := "java/lang/Math", name := "max", desc := "(JJ)J" } : Jvm.MethodName) jdk_29_method_66_code (4 : Nat) (Option.some Jvm.ClassFile.FieldType.long), Jvm.Cond.code ({ cls := "java/util/Arrays", name := "copyOf", desc := "([II)[I" } : Jvm.MethodName) jdk_65_method_123_code (3 : Nat) (Option.some (Jvm.ClassFile.FieldType.array Jvm.ClassFile.FieldType.int)), Jvm.Cond.code ({ cls := "java/lang/Math", name := "min", desc := "(II)I" } : Jvm.MethodName) jdk_29_method_69_code (2 : Nat) (Option.some Jvm.ClassFile.FieldType.int)]
set_option maxRecDepth 65536 in
theorem codes_eq : words1.filter isCode = codes1 := rfl
theorem w_codes : ∀ c ∈ words1.filter isCode, c.before args0 about1 = true := by
  rw [codes_eq]
  intro c hc
  simp only [codes1, List.mem_cons, List.not_mem_nil, or_false] at hc
  rcases hc with rfl | rfl | rfl | rfl | rfl | rfl | rfl | rfl | rfl | rfl
  · exact w_c0
  · exact w_c1
  · exact w_c2
  · exact w_c3
  · exact w_c4
  · exact w_c5
  · exact w_c6
  · exact w_c7
  · exact w_c8
  · exact w_c9
set_option maxRecDepth 65536 in
theorem w_t1 : (words1.take 24).all (fun c => isCode c || c.before args0 about1) = true := by decide +kernel
set_option maxRecDepth 65536 in
theorem w_t2 : ((words1.drop 24).take 24).all (fun c => isCode c || c.before args0 about1) = true := by decide +kernel
set_option maxRecDepth 65536 in
theorem w_t3 : ((words1.drop 24).drop 24).all (fun c => isCode c || c.before args0 about1) = true := by decide +kernel
theorem w_tables : (allAtoms (Jvm.Cond.code x code maxLocals ret :: tables_1)).before args0 about1 = true := by
  rw [allAtoms_all]
  show words1.all (fun c => c.before args0 about1) = true
  refine all_split ?_ w_codes
  rw [← List.take_append_drop 24 words1, List.all_append, w_t1, ← List.take_append_drop 24 (words1.drop 24), List.all_append, w_t2, w_t3]
  rfl
set_option maxRecDepth 65536 in
theorem w_case : (Jvm.Cond.and given_1 narrow_1).before args0 about1 = true := by decide +kernel
theorem w_applies : (headSpec (Jvm.Cond.code x code maxLocals ret :: tables_1) room_1).applies x e0.platform about1 = true :=
  (Spec.applies_iff w_frames).mpr ⟨w_running, w_runnable, w_alone, w_named, w_hears, w_ripe, w_room, w_tables⟩
theorem atStart : AtStart classFile x code maxLocals ret World_1 tables_1 room_1 Calls_1 rest_1 Pre_1 launch0 p0 e0 about1 theMethod args0 below0 :=
  ⟨lists_1, trivial, launch0.admits_env _ _ _, launch0.least_env, fairChoices_fair.cas, fairChoices_fair.clock, w_frames, w_args, w_heap, w_applies, trivial, trivial, w_case⟩
end start1
theorem witness_1 : WitnessClaimed_1 := ⟨start1.p0, start1.e0, start1.about1, start1.theMethod, start1.args0, start1.below0, start1.atStart⟩
end Jvm.Pilot.@@N@@
