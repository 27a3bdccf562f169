import JvmDerived
import JvmDerived.Pilot.@@N@@Statement
import JvmDerived.Pilot.@@N@@Code
set_option linter.unusedVariables false
set_option linter.unusedSimpArgs false
namespace Jvm.Pilot.@@N@@
namespace Own
open Jvm Jvm.ClassFile Sem Op Lib Jvm.Free Jvm.Stand Jvm.LawKit Jvm.RoadKit Bundle
/-- what a body's walk knows of its method -/
def Ctx (p : Program) (l : Launch) (e : Env) (R : Room) (s : State) (m : MethodId) (args : Array Value) (below : List Frame) (meth : Method) (c : Code) (Z : State) (own : String) (cd : ByteArray) (maxL : Nat) (ret : Option FieldType) (nm : String) : Prop :=
  p.tables.exec = Jvm.exec ∧ Z.Warmed39 s.vm ∧ c.code = cd ∧ c.maxLocals = maxL ∧ s.vm.findClass own = some m.cls ∧ meth.sig.returnType = ret ∧ meth.locks = false ∧ meth.name = nm
def RunG (G : Outcome → State → List Loc → Prop) (p : Program) (l : Launch) (e : Env) (R : Room) (s : State) (m : MethodId) (args : Array Value) (below : List Frame) (meth : Method) (c : Code) (n0 : Nat) (P : Option Value → Heap → Prop) (h : Heap) (k n : Nat) (pc : Nat) (Ls : Array Slot) (st : List Value) : Prop :=
  ∀ (T : State) (locs : List Loc), Stand p l e R s m args below meth c T locs k n → T.heap = h → Fr n0 locs →
    ∃ s₂ o, Steps p.tables e below (T.setTop (mkF m pc Ls st)) s₂ ∧ s₂.status = .running ∧ Ended s₂ below o ∧ ∃ v L, o = .returned v ∧ (P v s₂.heap ∧ Fr n0 L) ∧ G o s₂ L
abbrev Run (p : Program) (l : Launch) (e : Env) (R : Room) (s : State) (m : MethodId) (args : Array Value) (below : List Frame) (meth : Method) (c : Code) (n0 : Nat) (P : Option Value → Heap → Prop) (h : Heap) (k n : Nat) (pc : Nat) (Ls : Array Slot) (st : List Value) : Prop :=
  RunG (fun o s₂ L => FrameEnd s o s₂ L R.cells R.slots) p l e R s m args below meth c n0 P h k n pc Ls st
def MetW (l : Launch) (Z : State) (y : MethodName) (bytes : ByteArray) (mL : Nat) (rt : Option FieldType) (ws : List Jvm.Cond) (rm : Room) (as : Array Value) (h : Heap) (n0 : Nat) (P : Option Value → Heap → Prop) : Prop :=
  MetFree l y (head1 (Jvm.Cond.code y bytes mL rt :: ws) rm) (fun a U => a = as ∧ Z.Warmed39 U.vm ∧ U.heap = h) (fun _ _ _ _ _ => True) (fun _ U o U' => ∃ v L, o = .returned v ∧ (P v U'.heap ∧ Fr n0 L) ∧ ReturnedEndW U o U' L rm.cells rm.slots)
def EndW (s : State) (R : Room) (o : Outcome) (t : State) (L : List Loc) : Prop := ReturnedEndW s o t L R.cells R.slots
def RetI (Q : Int32 → Heap → Prop) (v : Option Value) (h : Heap) : Prop := ∃ z, v = some (.int z) ∧ Q z h
def RetL (Q : Int64 → Heap → Prop) (v : Option Value) (h : Heap) : Prop := ∃ z, v = some (.long z) ∧ Q z h
def RetV (Q : Value → Heap → Prop) (v : Option Value) (h : Heap) : Prop := ∃ z, v = some z ∧ Q z h
def Ret0 (Q : Heap → Prop) (v : Option Value) (h : Heap) : Prop := v = none ∧ Q h
def Met (l : Launch) (Z : State) (y : MethodName) (bytes : ByteArray) (mL : Nat) (rt : Option FieldType) (ws : List Jvm.Cond) (rm : Room) (as : Array Value) (h : Heap) (n0 : Nat) (P : Option Value → Heap → Prop) : Prop :=
  MetFree l y (head1 (Jvm.Cond.code y bytes mL rt :: ws) rm) (fun a U => a = as ∧ Z.Warmed39 U.vm ∧ U.heap = h) (fun _ _ _ _ _ => True) (fun _ U o U' => ∃ v L, o = .returned v ∧ (P v U'.heap ∧ Fr n0 L) ∧ FrameEnd U o U' L rm.cells rm.slots)
section Steps
variable {G : Outcome → State → List Loc → Prop} {p : Program} {l : Launch} {e : Env} {R : Room} {s : State} {m : MethodId} {args : Array Value} {below : List Frame} {meth : Method} {c : Code} {Z : State} {own nm : String} {cd : ByteArray} {maxL : Nat} {ret : Option FieldType} {n0 : Nat} {P : Option Value → Heap → Prop} {h : Heap} {k n pc pc' : Nat} {Ls l' : Array Slot} {st st' rest : List Value} {a0 : Array Value}
theorem Met.intro {y : MethodName} {bytes : ByteArray} {mL : Nat} {rt : Option FieldType} {ws : List Jvm.Cond} {rm : Room} {as : Array Value} (hpl : plainFor y = true) (ho : y.cls = own) (hn : y.name = nm) (ef : ∀ m, entryFrame m as mL = mkF m 0 Ls [])
    (body : ∀ p e s m below meth c, Ctx p l e rm s m as below meth c Z own bytes mL rt nm → Run p l e rm s m as below meth c n0 P h 0 0 0 Ls []) : Met l Z y bytes mL rt ws rm as h n0 P := by
  subst ho hn
  refine MetFree.of_bodySF hpl hisR ?_
  intro p e s m args below meth c s₁ Bd hml0 hP hK
  obtain ⟨rfl, hZ, hh⟩ := hP
  have X0 : Stand p l e rm s m args below meth c s₁ [] 0 0 := Stand.of_body Bd
  have e0 : s₁.heap = h := by rw [← hh, Bd.state]; rfl
  have hown : s.vm.findClass y.cls = some m.cls := findClass_of_methodNamed Bd.named
  obtain ⟨s₂, o, h1, h2⟩ := body p e s m below meth c ⟨Bd.exec, hZ, Bd.bytes, hml0, hown, Bd.returns, Bd.notSynchronized, (name_of_methodNamed Bd.named Bd.method).1⟩ s₁ [] X0 e0 (Fr.nil _)
  exact ⟨s₂, o, castTop (ef m) h1, h2⟩
theorem Run.pure (f : ∀ T locs, Stand p l e R s m args below meth c T locs k n → T.heap = h → ∀ t, Steps p.tables e below (T.setTop (mkF m pc' l' st')) t → Steps p.tables e below (T.setTop (mkF m pc Ls st)) t) (r : RunG G p l e R s m args below meth c n0 P h k n pc' l' st') : RunG G p l e R s m args below meth c n0 P h k n pc Ls st := fun T locs X eT N => by
  obtain ⟨s₂, o, q, r⟩ := r T locs X eT N
  exact ⟨s₂, o, f T locs X eT _ q, r⟩
theorem Run.warm (f : ∀ T locs, Stand p l e R s m args below meth c T locs k n → T.heap = h → ∃ T', Stand p l e R s m args below meth c T' locs k n ∧ T'.heap = h ∧ ∀ t, Steps p.tables e below (T'.setTop (mkF m pc' l' st')) t → Steps p.tables e below (T.setTop (mkF m pc Ls st)) t) (r : RunG G p l e R s m args below meth c n0 P h k n pc' l' st') : RunG G p l e R s m args below meth c n0 P h k n pc Ls st := fun T locs X eT N => by
  obtain ⟨T', X', e', f'⟩ := f T locs X eT
  obtain ⟨s₂, o, q, r⟩ := r T' locs X' e' N
  exact ⟨s₂, o, f' _ q, r⟩
/-! loads, stores, constants -/
theorem s_iloadN (C : Ctx p l e R s m args below meth c Z own cd maxL ret nm) {q : Fin 4} {v : Int32} (hd : decode cd pc = .ok (.iload_n q, 1)) (hp : pc + 1 = pc') (hl : Ls[q.val]? = some (.val (.int v))) (r : RunG G p l e R s m args below meth c n0 P h k n pc' Ls (.int v :: st)) : RunG G p l e R s m args below meth c n0 P h k n pc Ls st := by
  subst hp; exact Run.pure (fun T locs X _ t z => XS.iloadN X.here C.1 rfl (hb C.2.2.1 hd) hl z) r
theorem s_iload (C : Ctx p l e R s m args below meth c Z own cd maxL ret nm) {q : Nat} {v : Int32} (hd : decode cd pc = .ok (.iload q, 2)) (hp : pc + 2 = pc') (hl : Ls[q]? = some (.val (.int v))) (r : RunG G p l e R s m args below meth c n0 P h k n pc' Ls (.int v :: st)) : RunG G p l e R s m args below meth c n0 P h k n pc Ls st := by
  subst hp; exact Run.pure (fun T locs X _ t z => XS.iload X.here C.1 rfl (hb C.2.2.1 hd) hl z) r
theorem s_lloadN (C : Ctx p l e R s m args below meth c Z own cd maxL ret nm) {q : Fin 4} {v : Int64} (hd : decode cd pc = .ok (.lload_n q, 1)) (hp : pc + 1 = pc') (hl : Ls[q.val]? = some (.val (.long v))) (r : RunG G p l e R s m args below meth c n0 P h k n pc' Ls (.long v :: st)) : RunG G p l e R s m args below meth c n0 P h k n pc Ls st := by
  subst hp; exact Run.pure (fun T locs X _ t z => XS.lloadN X.here C.1 rfl (hb C.2.2.1 hd) hl z) r
theorem s_lload (C : Ctx p l e R s m args below meth c Z own cd maxL ret nm) {q : Nat} {v : Int64} (hd : decode cd pc = .ok (.lload q, 2)) (hp : pc + 2 = pc') (hl : Ls[q]? = some (.val (.long v))) (r : RunG G p l e R s m args below meth c n0 P h k n pc' Ls (.long v :: st)) : RunG G p l e R s m args below meth c n0 P h k n pc Ls st := by
  subst hp; exact Run.pure (fun T locs X _ t z => XS.lload X.here C.1 rfl (hb C.2.2.1 hd) hl z) r
theorem s_aloadN (C : Ctx p l e R s m args below meth c Z own cd maxL ret nm) {q : Fin 4} {v : Value} (hd : decode cd pc = .ok (.aload_n q, 1)) (hp : pc + 1 = pc') (hl : Ls[q.val]? = some (.val v)) (hv : v.isRef = true) (r : RunG G p l e R s m args below meth c n0 P h k n pc' Ls (v :: st)) : RunG G p l e R s m args below meth c n0 P h k n pc Ls st := by
  subst hp; exact Run.pure (fun T locs X _ t z => XS.aloadN X.here C.1 rfl (hb C.2.2.1 hd) hl hv z) r
theorem s_aload (C : Ctx p l e R s m args below meth c Z own cd maxL ret nm) {q : Nat} {v : Value} (hd : decode cd pc = .ok (.aload q, 2)) (hp : pc + 2 = pc') (hl : Ls[q]? = some (.val v)) (hv : v.isRef = true) (r : RunG G p l e R s m args below meth c n0 P h k n pc' Ls (v :: st)) : RunG G p l e R s m args below meth c n0 P h k n pc Ls st := by
  subst hp; exact Run.pure (fun T locs X _ t z => XS.aload X.here C.1 rfl (hb C.2.2.1 hd) hl hv z) r
theorem s_istoreN (C : Ctx p l e R s m args below meth c Z own cd maxL ret nm) {q : Fin 4} {x : Int32} (hd : decode cd pc = .ok (.istore_n q, 1)) (hp : pc + 1 = pc') (L : Int32 → Array Slot) (hl : ∀ y, storeLocals Ls q.val (.int y) = some (L y)) (r : ∀ y, y = x → RunG G p l e R s m args below meth c n0 P h k n pc' (L y) st) : RunG G p l e R s m args below meth c n0 P h k n pc Ls (.int x :: st) := by
  subst hp; exact Run.pure (fun T locs X _ t z => XS.istoreN X.here C.1 rfl (hb C.2.2.1 hd) rfl (hl x) z) (r x rfl)
theorem s_istore (C : Ctx p l e R s m args below meth c Z own cd maxL ret nm) {q : Nat} {x : Int32} (hd : decode cd pc = .ok (.istore q, 2)) (hp : pc + 2 = pc') (L : Int32 → Array Slot) (hl : ∀ y, storeLocals Ls q (.int y) = some (L y)) (r : ∀ y, y = x → RunG G p l e R s m args below meth c n0 P h k n pc' (L y) st) : RunG G p l e R s m args below meth c n0 P h k n pc Ls (.int x :: st) := by
  subst hp; exact Run.pure (fun T locs X _ t z => XS.istore X.here C.1 rfl (hb C.2.2.1 hd) rfl (hl x) z) (r x rfl)
theorem s_lstoreN (C : Ctx p l e R s m args below meth c Z own cd maxL ret nm) {q : Fin 4} {x : Int64} (hd : decode cd pc = .ok (.lstore_n q, 1)) (hp : pc + 1 = pc') (L : Int64 → Array Slot) (hl : ∀ y, storeLocals Ls q.val (.long y) = some (L y)) (r : ∀ y, y = x → RunG G p l e R s m args below meth c n0 P h k n pc' (L y) st) : RunG G p l e R s m args below meth c n0 P h k n pc Ls (.long x :: st) := by
  subst hp; exact Run.pure (fun T locs X _ t z => XS.lstoreN X.here C.1 rfl (hb C.2.2.1 hd) rfl (hl x) z) (r x rfl)
theorem s_lstore (C : Ctx p l e R s m args below meth c Z own cd maxL ret nm) {q : Nat} {x : Int64} (hd : decode cd pc = .ok (.lstore q, 2)) (hp : pc + 2 = pc') (L : Int64 → Array Slot) (hl : ∀ y, storeLocals Ls q (.long y) = some (L y)) (r : ∀ y, y = x → RunG G p l e R s m args below meth c n0 P h k n pc' (L y) st) : RunG G p l e R s m args below meth c n0 P h k n pc Ls (.long x :: st) := by
  subst hp; exact Run.pure (fun T locs X _ t z => XS.lstore X.here C.1 rfl (hb C.2.2.1 hd) rfl (hl x) z) (r x rfl)
theorem s_istoreNP (C : Ctx p l e R s m args below meth c Z own cd maxL ret nm) {q : Fin 4} {x : Int32} (hd : decode cd pc = .ok (.istore_n q, 1)) (hp : pc + 1 = pc') (L : Array Slot) (hl : storeLocals Ls q.val (.int x) = some L) (r : RunG G p l e R s m args below meth c n0 P h k n pc' L st) : RunG G p l e R s m args below meth c n0 P h k n pc Ls (.int x :: st) := by
  subst hp; exact Run.pure (fun T locs X _ t z => XS.istoreN X.here C.1 rfl (hb C.2.2.1 hd) rfl hl z) r
theorem s_istoreP (C : Ctx p l e R s m args below meth c Z own cd maxL ret nm) {q : Nat} {x : Int32} (hd : decode cd pc = .ok (.istore q, 2)) (hp : pc + 2 = pc') (L : Array Slot) (hl : storeLocals Ls q (.int x) = some L) (r : RunG G p l e R s m args below meth c n0 P h k n pc' L st) : RunG G p l e R s m args below meth c n0 P h k n pc Ls (.int x :: st) := by
  subst hp; exact Run.pure (fun T locs X _ t z => XS.istore X.here C.1 rfl (hb C.2.2.1 hd) rfl hl z) r
theorem s_lstoreNP (C : Ctx p l e R s m args below meth c Z own cd maxL ret nm) {q : Fin 4} {x : Int64} (hd : decode cd pc = .ok (.lstore_n q, 1)) (hp : pc + 1 = pc') (L : Array Slot) (hl : storeLocals Ls q.val (.long x) = some L) (r : RunG G p l e R s m args below meth c n0 P h k n pc' L st) : RunG G p l e R s m args below meth c n0 P h k n pc Ls (.long x :: st) := by
  subst hp; exact Run.pure (fun T locs X _ t z => XS.lstoreN X.here C.1 rfl (hb C.2.2.1 hd) rfl hl z) r
theorem s_lstoreP (C : Ctx p l e R s m args below meth c Z own cd maxL ret nm) {q : Nat} {x : Int64} (hd : decode cd pc = .ok (.lstore q, 2)) (hp : pc + 2 = pc') (L : Array Slot) (hl : storeLocals Ls q (.long x) = some L) (r : RunG G p l e R s m args below meth c n0 P h k n pc' L st) : RunG G p l e R s m args below meth c n0 P h k n pc Ls (.long x :: st) := by
  subst hp; exact Run.pure (fun T locs X _ t z => XS.lstore X.here C.1 rfl (hb C.2.2.1 hd) rfl hl z) r
theorem s_astoreN (C : Ctx p l e R s m args below meth c Z own cd maxL ret nm) {q : Fin 4} {x : Value} (hd : decode cd pc = .ok (.astore_n q, 1)) (hp : pc + 1 = pc') (hv : x.isRef = true) (L : Array Slot) (hl : storeLocals Ls q.val x = some L) (r : RunG G p l e R s m args below meth c n0 P h k n pc' L st) : RunG G p l e R s m args below meth c n0 P h k n pc Ls (x :: st) := by
  subst hp; exact Run.pure (fun T locs X _ t z => XS.astoreN X.here C.1 rfl (hb C.2.2.1 hd) rfl hv hl z) r
theorem s_astore (C : Ctx p l e R s m args below meth c Z own cd maxL ret nm) {q : Nat} {x : Value} (hd : decode cd pc = .ok (.astore q, 2)) (hp : pc + 2 = pc') (hv : x.isRef = true) (L : Array Slot) (hl : storeLocals Ls q x = some L) (r : RunG G p l e R s m args below meth c n0 P h k n pc' L st) : RunG G p l e R s m args below meth c n0 P h k n pc Ls (x :: st) := by
  subst hp; exact Run.pure (fun T locs X _ t z => XS.astore X.here C.1 rfl (hb C.2.2.1 hd) rfl hv hl z) r
theorem s_iconst (C : Ctx p l e R s m args below meth c Z own cd maxL ret nm) {i : Int} (hd : decode cd pc = .ok (.iconst i, 1)) (hp : pc + 1 = pc') (v : Int32) (hv : Int32.ofInt i = v) (r : RunG G p l e R s m args below meth c n0 P h k n pc' Ls (.int v :: st)) : RunG G p l e R s m args below meth c n0 P h k n pc Ls st := by
  subst hp hv; exact Run.pure (fun T locs X _ t z => XS.iconst X.here C.1 rfl (hb C.2.2.1 hd) z) r
theorem s_bipush (C : Ctx p l e R s m args below meth c Z own cd maxL ret nm) {i : Int} (hd : decode cd pc = .ok (.bipush i, 2)) (hp : pc + 2 = pc') (v : Int32) (hv : (Int8.ofInt i).toInt32 = v) (r : RunG G p l e R s m args below meth c n0 P h k n pc' Ls (.int v :: st)) : RunG G p l e R s m args below meth c n0 P h k n pc Ls st := by
  subst hp hv; exact Run.pure (fun T locs X _ t z => XS.bipush X.here C.1 rfl (hb C.2.2.1 hd) z) r
theorem s_sipush (C : Ctx p l e R s m args below meth c Z own cd maxL ret nm) {i : Int} (hd : decode cd pc = .ok (.sipush i, 3)) (hp : pc + 3 = pc') (v : Int32) (hv : (Int16.ofInt i).toInt32 = v) (r : RunG G p l e R s m args below meth c n0 P h k n pc' Ls (.int v :: st)) : RunG G p l e R s m args below meth c n0 P h k n pc Ls st := by
  subst hp hv; exact Run.pure (fun T locs X _ t z => XS.sipush X.here C.1 rfl (hb C.2.2.1 hd) z) r
theorem s_lconst (C : Ctx p l e R s m args below meth c Z own cd maxL ret nm) {i : Fin 2} (hd : decode cd pc = .ok (.lconst i, 1)) (hp : pc + 1 = pc') (v : Int64) (hv : Int64.ofNat i.val = v) (r : RunG G p l e R s m args below meth c n0 P h k n pc' Ls (.long v :: st)) : RunG G p l e R s m args below meth c n0 P h k n pc Ls st := by
  subst hp hv; exact Run.pure (fun T locs X _ t z => XS.lconst X.here C.1 rfl (hb C.2.2.1 hd) z) r
theorem s_null (C : Ctx p l e R s m args below meth c Z own cd maxL ret nm) (hd : decode cd pc = .ok (.aconst_null, 1)) (hp : pc + 1 = pc') (r : RunG G p l e R s m args below meth c n0 P h k n pc' Ls (.null :: st)) : RunG G p l e R s m args below meth c n0 P h k n pc Ls st := by
  subst hp; exact Run.pure (fun T locs X _ t z => XS.aconstNull X.here C.1 rfl (hb C.2.2.1 hd) z) r
theorem s_ldc (C : Ctx p l e R s m args below meth c Z own cd maxL ret nm) {i : Nat} {v : Int32} (hd : decode cd pc = .ok (.ldc i, 2)) (hp : pc + 2 = pc') (w : (Jvm.Cond.constant own i v).before a0 Z = true) (r : RunG G p l e R s m args below meth c n0 P h k n pc' Ls (.int v :: st)) : RunG G p l e R s m args below meth c n0 P h k n pc Ls st := by
  subst hp; exact Run.pure (fun T locs X _ t z => X.ldcInt C.1 C.2.2.2.2.1 (mvT C.2.1 w) (g := mkF m pc Ls st) rfl (hb C.2.2.1 hd) _ z) r
theorem s_ldc2 (C : Ctx p l e R s m args below meth c Z own cd maxL ret nm) {i : Nat} {v : Int64} (hd : decode cd pc = .ok (.ldc2_w i, 3)) (hp : pc + 3 = pc') (w : (Jvm.Cond.constantLong own i v).before a0 Z = true) (r : RunG G p l e R s m args below meth c n0 P h k n pc' Ls (.long v :: st)) : RunG G p l e R s m args below meth c n0 P h k n pc Ls st := by
  subst hp; exact Run.pure (fun T locs X _ t z => X.ldc2Long C.1 C.2.2.2.2.1 (mvT C.2.1 w) (g := mkF m pc Ls st) rfl (hb C.2.2.1 hd) _ z) r
theorem s_iinc (C : Ctx p l e R s m args below meth c Z own cd maxL ret nm) {q : Nat} {cst : Int} {x : Int32} (hd : decode cd pc = .ok (.iinc q cst, 3)) (hp : pc + 3 = pc') (hl : Ls[q]? = some (.val (.int x))) (z : Int32) (hz : Int32.ofInt cst = z) (L : Int32 → Array Slot) (hl' : ∀ y, storeLocals Ls q (.int y) = some (L y)) (r : ∀ y, y = x + z → RunG G p l e R s m args below meth c n0 P h k n pc' (L y) st) : RunG G p l e R s m args below meth c n0 P h k n pc Ls st := by
  subst hp hz; exact Run.pure (fun T locs X _ t z => XS.iinc X.here C.1 rfl (hb C.2.2.1 hd) hl (hl' _) z) (r _ rfl)
theorem s_iincP (C : Ctx p l e R s m args below meth c Z own cd maxL ret nm) {q : Nat} {cst : Int} {x : Int32} (hd : decode cd pc = .ok (.iinc q cst, 3)) (hp : pc + 3 = pc') (hl : Ls[q]? = some (.val (.int x))) (z : Int32) (hz : x + Int32.ofInt cst = z) (L : Array Slot) (hl' : storeLocals Ls q (.int z) = some L) (r : RunG G p l e R s m args below meth c n0 P h k n pc' L st) : RunG G p l e R s m args below meth c n0 P h k n pc Ls st := by
  subst hp hz; exact Run.pure (fun T locs X _ t z => XS.iinc X.here C.1 rfl (hb C.2.2.1 hd) hl hl' z) r
/-! plain steps -/
theorem s_iadd (C : Ctx p l e R s m args below meth c Z own cd maxL ret nm) {x y : Int32} (hd : decode cd pc = .ok (.iadd, 1)) (hp : pc + 1 = pc') (r : RunG G p l e R s m args below meth c n0 P h k n pc' Ls (.int (x + y) :: st)) : RunG G p l e R s m args below meth c n0 P h k n pc Ls (.int y :: .int x :: st) := by
  subst hp; exact Run.pure (fun T locs X _ t z => XS.iadd X.here C.1 rfl (hb C.2.2.1 hd) rfl z) r
theorem s_isub (C : Ctx p l e R s m args below meth c Z own cd maxL ret nm) {x y : Int32} (hd : decode cd pc = .ok (.isub, 1)) (hp : pc + 1 = pc') (r : RunG G p l e R s m args below meth c n0 P h k n pc' Ls (.int (x - y) :: st)) : RunG G p l e R s m args below meth c n0 P h k n pc Ls (.int y :: .int x :: st) := by
  subst hp; exact Run.pure (fun T locs X _ t z => XS.isub X.here C.1 rfl (hb C.2.2.1 hd) rfl z) r
theorem s_imul (C : Ctx p l e R s m args below meth c Z own cd maxL ret nm) {x y : Int32} (hd : decode cd pc = .ok (.imul, 1)) (hp : pc + 1 = pc') (r : RunG G p l e R s m args below meth c n0 P h k n pc' Ls (.int (x * y) :: st)) : RunG G p l e R s m args below meth c n0 P h k n pc Ls (.int y :: .int x :: st) := by
  subst hp; exact Run.pure (fun T locs X _ t z => XS.imul X.here C.1 rfl (hb C.2.2.1 hd) rfl z) r
theorem s_iand (C : Ctx p l e R s m args below meth c Z own cd maxL ret nm) {x y : Int32} (hd : decode cd pc = .ok (.iand, 1)) (hp : pc + 1 = pc') (r : RunG G p l e R s m args below meth c n0 P h k n pc' Ls (.int (x &&& y) :: st)) : RunG G p l e R s m args below meth c n0 P h k n pc Ls (.int y :: .int x :: st) := by
  subst hp; exact Run.pure (fun T locs X _ t z => XS.iand X.here C.1 rfl (hb C.2.2.1 hd) rfl z) r
theorem s_ior (C : Ctx p l e R s m args below meth c Z own cd maxL ret nm) {x y : Int32} (hd : decode cd pc = .ok (.ior, 1)) (hp : pc + 1 = pc') (r : RunG G p l e R s m args below meth c n0 P h k n pc' Ls (.int (x ||| y) :: st)) : RunG G p l e R s m args below meth c n0 P h k n pc Ls (.int y :: .int x :: st) := by
  subst hp; exact Run.pure (fun T locs X _ t z => XS.ior X.here C.1 rfl (hb C.2.2.1 hd) rfl z) r
theorem s_ixor (C : Ctx p l e R s m args below meth c Z own cd maxL ret nm) {x y : Int32} (hd : decode cd pc = .ok (.ixor, 1)) (hp : pc + 1 = pc') (r : RunG G p l e R s m args below meth c n0 P h k n pc' Ls (.int (x ^^^ y) :: st)) : RunG G p l e R s m args below meth c n0 P h k n pc Ls (.int y :: .int x :: st) := by
  subst hp; exact Run.pure (fun T locs X _ t z => XS.ixor X.here C.1 rfl (hb C.2.2.1 hd) rfl z) r
theorem s_ishl (C : Ctx p l e R s m args below meth c Z own cd maxL ret nm) {x y : Int32} (hd : decode cd pc = .ok (.ishl, 1)) (hp : pc + 1 = pc') (r : RunG G p l e R s m args below meth c n0 P h k n pc' Ls (.int (x <<< (y &&& 31)) :: st)) : RunG G p l e R s m args below meth c n0 P h k n pc Ls (.int y :: .int x :: st) := by
  subst hp; exact Run.pure (fun T locs X _ t z => XS.ishl X.here C.1 rfl (hb C.2.2.1 hd) rfl z) r
theorem s_ishr (C : Ctx p l e R s m args below meth c Z own cd maxL ret nm) {x y : Int32} (hd : decode cd pc = .ok (.ishr, 1)) (hp : pc + 1 = pc') (r : RunG G p l e R s m args below meth c n0 P h k n pc' Ls (.int (x >>> (y &&& 31)) :: st)) : RunG G p l e R s m args below meth c n0 P h k n pc Ls (.int y :: .int x :: st) := by
  subst hp; exact Run.pure (fun T locs X _ t z => XS.ishr X.here C.1 rfl (hb C.2.2.1 hd) rfl z) r
theorem s_iushr (C : Ctx p l e R s m args below meth c Z own cd maxL ret nm) {x y : Int32} (hd : decode cd pc = .ok (.iushr, 1)) (hp : pc + 1 = pc') (r : RunG G p l e R s m args below meth c n0 P h k n pc' Ls (.int ((x.toUInt32 >>> (y &&& 31).toUInt32).toInt32) :: st)) : RunG G p l e R s m args below meth c n0 P h k n pc Ls (.int y :: .int x :: st) := by
  subst hp; exact Run.pure (fun T locs X _ t z => XS.iushr X.here C.1 rfl (hb C.2.2.1 hd) rfl z) r
theorem s_ladd (C : Ctx p l e R s m args below meth c Z own cd maxL ret nm) {x y : Int64} (hd : decode cd pc = .ok (.ladd, 1)) (hp : pc + 1 = pc') (r : RunG G p l e R s m args below meth c n0 P h k n pc' Ls (.long (x + y) :: st)) : RunG G p l e R s m args below meth c n0 P h k n pc Ls (.long y :: .long x :: st) := by
  subst hp; exact Run.pure (fun T locs X _ t z => XS.ladd X.here C.1 rfl (hb C.2.2.1 hd) rfl z) r
theorem s_lsub (C : Ctx p l e R s m args below meth c Z own cd maxL ret nm) {x y : Int64} (hd : decode cd pc = .ok (.lsub, 1)) (hp : pc + 1 = pc') (r : RunG G p l e R s m args below meth c n0 P h k n pc' Ls (.long (x - y) :: st)) : RunG G p l e R s m args below meth c n0 P h k n pc Ls (.long y :: .long x :: st) := by
  subst hp; exact Run.pure (fun T locs X _ t z => XS.lsub X.here C.1 rfl (hb C.2.2.1 hd) rfl z) r
theorem s_lmul (C : Ctx p l e R s m args below meth c Z own cd maxL ret nm) {x y : Int64} (hd : decode cd pc = .ok (.lmul, 1)) (hp : pc + 1 = pc') (r : RunG G p l e R s m args below meth c n0 P h k n pc' Ls (.long (x * y) :: st)) : RunG G p l e R s m args below meth c n0 P h k n pc Ls (.long y :: .long x :: st) := by
  subst hp; exact Run.pure (fun T locs X _ t z => XS.lmul X.here C.1 rfl (hb C.2.2.1 hd) rfl z) r
theorem s_land (C : Ctx p l e R s m args below meth c Z own cd maxL ret nm) {x y : Int64} (hd : decode cd pc = .ok (.land, 1)) (hp : pc + 1 = pc') (r : RunG G p l e R s m args below meth c n0 P h k n pc' Ls (.long (x &&& y) :: st)) : RunG G p l e R s m args below meth c n0 P h k n pc Ls (.long y :: .long x :: st) := by
  subst hp; exact Run.pure (fun T locs X _ t z => XS.land X.here C.1 rfl (hb C.2.2.1 hd) rfl z) r
theorem s_lor (C : Ctx p l e R s m args below meth c Z own cd maxL ret nm) {x y : Int64} (hd : decode cd pc = .ok (.lor, 1)) (hp : pc + 1 = pc') (r : RunG G p l e R s m args below meth c n0 P h k n pc' Ls (.long (x ||| y) :: st)) : RunG G p l e R s m args below meth c n0 P h k n pc Ls (.long y :: .long x :: st) := by
  subst hp; exact Run.pure (fun T locs X _ t z => XS.lor X.here C.1 rfl (hb C.2.2.1 hd) rfl z) r
theorem s_lxor (C : Ctx p l e R s m args below meth c Z own cd maxL ret nm) {x y : Int64} (hd : decode cd pc = .ok (.lxor, 1)) (hp : pc + 1 = pc') (r : RunG G p l e R s m args below meth c n0 P h k n pc' Ls (.long (x ^^^ y) :: st)) : RunG G p l e R s m args below meth c n0 P h k n pc Ls (.long y :: .long x :: st) := by
  subst hp; exact Run.pure (fun T locs X _ t z => XS.lxor X.here C.1 rfl (hb C.2.2.1 hd) rfl z) r
theorem s_lshl (C : Ctx p l e R s m args below meth c Z own cd maxL ret nm) {x : Int64} {y : Int32} (hd : decode cd pc = .ok (.lshl, 1)) (hp : pc + 1 = pc') (r : RunG G p l e R s m args below meth c n0 P h k n pc' Ls (.long (x <<< (y &&& 0x3f).toInt64) :: st)) : RunG G p l e R s m args below meth c n0 P h k n pc Ls (.int y :: .long x :: st) := by
  subst hp; exact Run.pure (fun T locs X _ t z => XS.lshl X.here C.1 rfl (hb C.2.2.1 hd) rfl z) r
theorem s_lshr (C : Ctx p l e R s m args below meth c Z own cd maxL ret nm) {x : Int64} {y : Int32} (hd : decode cd pc = .ok (.lshr, 1)) (hp : pc + 1 = pc') (r : RunG G p l e R s m args below meth c n0 P h k n pc' Ls (.long (x >>> (y &&& 0x3f).toInt64) :: st)) : RunG G p l e R s m args below meth c n0 P h k n pc Ls (.int y :: .long x :: st) := by
  subst hp; exact Run.pure (fun T locs X _ t z => XS.lshr X.here C.1 rfl (hb C.2.2.1 hd) rfl z) r
theorem s_lushr (C : Ctx p l e R s m args below meth c Z own cd maxL ret nm) {x : Int64} {y : Int32} (hd : decode cd pc = .ok (.lushr, 1)) (hp : pc + 1 = pc') (r : RunG G p l e R s m args below meth c n0 P h k n pc' Ls (.long ((x.toUInt64 >>> (y &&& 0x3f).toInt64.toUInt64).toInt64) :: st)) : RunG G p l e R s m args below meth c n0 P h k n pc Ls (.int y :: .long x :: st) := by
  subst hp; exact Run.pure (fun T locs X _ t z => XS.lushr X.here C.1 rfl (hb C.2.2.1 hd) rfl z) r
theorem s_idiv (C : Ctx p l e R s m args below meth c Z own cd maxL ret nm) {x y : Int32} (hd : decode cd pc = .ok (.idiv, 1)) (hp : pc + 1 = pc') (hy : y ≠ 0) (r : RunG G p l e R s m args below meth c n0 P h k n pc' Ls (.int (x / y) :: st)) : RunG G p l e R s m args below meth c n0 P h k n pc Ls (.int y :: .int x :: st) := by
  subst hp; exact Run.pure (fun T locs X _ t z => XS.idiv X.here C.1 rfl (hb C.2.2.1 hd) rfl hy z) r
theorem s_irem (C : Ctx p l e R s m args below meth c Z own cd maxL ret nm) {x y : Int32} (hd : decode cd pc = .ok (.irem, 1)) (hp : pc + 1 = pc') (hy : y ≠ 0) (r : RunG G p l e R s m args below meth c n0 P h k n pc' Ls (.int (x % y) :: st)) : RunG G p l e R s m args below meth c n0 P h k n pc Ls (.int y :: .int x :: st) := by
  subst hp; exact Run.pure (fun T locs X _ t z => iremM X C.1 (g := mkF m pc Ls (.int y :: .int x :: st)) rfl (hb C.2.2.1 hd) rfl hy z) r
theorem s_ldiv (C : Ctx p l e R s m args below meth c Z own cd maxL ret nm) {x y : Int64} (hd : decode cd pc = .ok (.ldiv, 1)) (hp : pc + 1 = pc') (hy : y ≠ 0) (r : RunG G p l e R s m args below meth c n0 P h k n pc' Ls (.long (x / y) :: st)) : RunG G p l e R s m args below meth c n0 P h k n pc Ls (.long y :: .long x :: st) := by
  subst hp; exact Run.pure (fun T locs X _ t z => XS.ldiv X.here C.1 rfl (hb C.2.2.1 hd) rfl hy z) r
theorem s_lrem (C : Ctx p l e R s m args below meth c Z own cd maxL ret nm) {x y : Int64} (hd : decode cd pc = .ok (.lrem, 1)) (hp : pc + 1 = pc') (hy : y ≠ 0) (r : RunG G p l e R s m args below meth c n0 P h k n pc' Ls (.long (x % y) :: st)) : RunG G p l e R s m args below meth c n0 P h k n pc Ls (.long y :: .long x :: st) := by
  subst hp; rw [← lrem_mod] at r; exact Run.pure (fun T locs X _ t z => XS.lrem X.here C.1 rfl (hb C.2.2.1 hd) rfl hy z) r
theorem s_ineg (C : Ctx p l e R s m args below meth c Z own cd maxL ret nm) {x : Int32} (hd : decode cd pc = .ok (.ineg, 1)) (hp : pc + 1 = pc') (r : RunG G p l e R s m args below meth c n0 P h k n pc' Ls (.int (-x) :: st)) : RunG G p l e R s m args below meth c n0 P h k n pc Ls (.int x :: st) := by
  subst hp; exact Run.pure (fun T locs X _ t z => XS.ineg X.here C.1 rfl (hb C.2.2.1 hd) rfl z) r
theorem s_lneg (C : Ctx p l e R s m args below meth c Z own cd maxL ret nm) {x : Int64} (hd : decode cd pc = .ok (.lneg, 1)) (hp : pc + 1 = pc') (r : RunG G p l e R s m args below meth c n0 P h k n pc' Ls (.long (-x) :: st)) : RunG G p l e R s m args below meth c n0 P h k n pc Ls (.long x :: st) := by
  subst hp; exact Run.pure (fun T locs X _ t z => XS.lneg X.here C.1 rfl (hb C.2.2.1 hd) rfl z) r
theorem s_i2l (C : Ctx p l e R s m args below meth c Z own cd maxL ret nm) {x : Int32} (hd : decode cd pc = .ok (.i2l, 1)) (hp : pc + 1 = pc') (r : RunG G p l e R s m args below meth c n0 P h k n pc' Ls (.long (x.toInt64) :: st)) : RunG G p l e R s m args below meth c n0 P h k n pc Ls (.int x :: st) := by
  subst hp; exact Run.pure (fun T locs X _ t z => XS.i2l X.here C.1 rfl (hb C.2.2.1 hd) rfl z) r
theorem s_l2i (C : Ctx p l e R s m args below meth c Z own cd maxL ret nm) {x : Int64} (hd : decode cd pc = .ok (.l2i, 1)) (hp : pc + 1 = pc') (r : RunG G p l e R s m args below meth c n0 P h k n pc' Ls (.int (x.toInt32) :: st)) : RunG G p l e R s m args below meth c n0 P h k n pc Ls (.long x :: st) := by
  subst hp; exact Run.pure (fun T locs X _ t z => XS.l2i X.here C.1 rfl (hb C.2.2.1 hd) rfl z) r
theorem s_i2b (C : Ctx p l e R s m args below meth c Z own cd maxL ret nm) {x : Int32} (hd : decode cd pc = .ok (.i2b, 1)) (hp : pc + 1 = pc') (r : RunG G p l e R s m args below meth c n0 P h k n pc' Ls (.int (x.toInt8.toInt32) :: st)) : RunG G p l e R s m args below meth c n0 P h k n pc Ls (.int x :: st) := by
  subst hp; exact Run.pure (fun T locs X _ t z => XS.i2b X.here C.1 rfl (hb C.2.2.1 hd) rfl z) r
theorem s_i2s (C : Ctx p l e R s m args below meth c Z own cd maxL ret nm) {x : Int32} (hd : decode cd pc = .ok (.i2s, 1)) (hp : pc + 1 = pc') (r : RunG G p l e R s m args below meth c n0 P h k n pc' Ls (.int (x.toInt16.toInt32) :: st)) : RunG G p l e R s m args below meth c n0 P h k n pc Ls (.int x :: st) := by
  subst hp; exact Run.pure (fun T locs X _ t z => XS.i2s X.here C.1 rfl (hb C.2.2.1 hd) rfl z) r
theorem s_i2c (C : Ctx p l e R s m args below meth c Z own cd maxL ret nm) {x : Int32} (hd : decode cd pc = .ok (.i2c, 1)) (hp : pc + 1 = pc') (r : RunG G p l e R s m args below meth c n0 P h k n pc' Ls (.int (x.toUInt32.toUInt16.toUInt32.toInt32) :: st)) : RunG G p l e R s m args below meth c n0 P h k n pc Ls (.int x :: st) := by
  subst hp; exact Run.pure (fun T locs X _ t z => XS.i2c X.here C.1 rfl (hb C.2.2.1 hd) rfl z) r
theorem s_lcmp (C : Ctx p l e R s m args below meth c Z own cd maxL ret nm) {x y : Int64} (hd : decode cd pc = .ok (.lcmp, 1)) (hp : pc + 1 = pc') (r : RunG G p l e R s m args below meth c n0 P h k n pc' Ls (.int (lcmpW x y) :: st)) : RunG G p l e R s m args below meth c n0 P h k n pc Ls (.long y :: .long x :: st) := by
  subst hp; exact Run.pure (fun T locs X _ t z => XS.lcmp X.here C.1 rfl (hb C.2.2.1 hd) rfl z) r
theorem s_goto (C : Ctx p l e R s m args below meth c Z own cd maxL ret nm) {o : Int} (hd : decode cd pc = .ok (.goto o, 3)) (hp : (pc : Int) + o = (pc' : Int)) (r : RunG G p l e R s m args below meth c n0 P h k n pc' Ls st) : RunG G p l e R s m args below meth c n0 P h k n pc Ls st :=
  Run.pure (fun T locs X _ t z => XS.goto X.here C.1 rfl (pc0 := pc) rfl (hb C.2.2.1 hd) (by omega) (by omega) z) r
theorem s_dup (C : Ctx p l e R s m args below meth c Z own cd maxL ret nm) {v : Value} (hd : decode cd pc = .ok (.dup, 1)) (hp : pc + 1 = pc') (hc : v.category = 1) (r : RunG G p l e R s m args below meth c n0 P h k n pc' Ls (v :: v :: st)) : RunG G p l e R s m args below meth c n0 P h k n pc Ls (v :: st) := by
  subst hp; exact Run.pure (fun T locs X _ t z => XS.dup X.here C.1 rfl (hb C.2.2.1 hd) rfl hc z) r
theorem s_pop (C : Ctx p l e R s m args below meth c Z own cd maxL ret nm) {v : Value} (hd : decode cd pc = .ok (.pop, 1)) (hp : pc + 1 = pc') (hc : v.category = 1) (r : RunG G p l e R s m args below meth c n0 P h k n pc' Ls st) : RunG G p l e R s m args below meth c n0 P h k n pc Ls (v :: st) := by
  subst hp; exact Run.pure (fun T locs X _ t z => XS.pop X.here C.1 rfl (hb C.2.2.1 hd) rfl hc z) r
theorem s_dup2 (C : Ctx p l e R s m args below meth c Z own cd maxL ret nm) {v w : Value} (hd : decode cd pc = .ok (.dup2, 1)) (hp : pc + 1 = pc') (hc : v.category = 1) (hc' : w.category = 1) (r : RunG G p l e R s m args below meth c n0 P h k n pc' Ls (v :: w :: v :: w :: st)) : RunG G p l e R s m args below meth c n0 P h k n pc Ls (v :: w :: st) := by
  subst hp; exact Run.pure (fun T locs X _ t z => XT.dup2 X.here C.1 rfl (hb C.2.2.1 hd) rfl hc hc' z) r
theorem s_dupX1 (C : Ctx p l e R s m args below meth c Z own cd maxL ret nm) {v w : Value} (hd : decode cd pc = .ok (.dup_x1, 1)) (hp : pc + 1 = pc') (hc : v.category = 1) (hc' : w.category = 1) (r : RunG G p l e R s m args below meth c n0 P h k n pc' Ls (v :: w :: v :: st)) : RunG G p l e R s m args below meth c n0 P h k n pc Ls (v :: w :: st) := by
  subst hp; exact Run.pure (fun T locs X _ t z => XS.dupX1 X.here C.1 rfl (hb C.2.2.1 hd) rfl hc hc' z) r
/-! branches -/
theorem s_if (C : Ctx p l e R s m args below meth c Z own cd maxL ret nm) {cc : ClassFile.Cond} {o : Int} {x : Int32} {pcY : Nat} (hd : decode cd pc = .ok (.ifCond cc o, 3)) (hp : pc + 3 = pc') (ho : (pc : Int) + o = (pcY : Int)) (rY : if_icmp.holds cc x 0 = true → RunG G p l e R s m args below meth c n0 P h k n pcY Ls st) (rN : if_icmp.holds cc x 0 = false → RunG G p l e R s m args below meth c n0 P h k n pc' Ls st) : RunG G p l e R s m args below meth c n0 P h k n pc Ls (.int x :: st) := by
  subst hp
  cases hq : if_icmp.holds cc x 0
  · exact Run.pure (fun T locs X _ t z => XS.ifNo X.here C.1 rfl (hb C.2.2.1 hd) rfl ((if0 _ _).trans hq) z) (rN hq)
  · exact Run.pure (fun T locs X _ t z => XS.ifYes X.here C.1 rfl (pc0 := pc) rfl (hb C.2.2.1 hd) rfl ((if0 _ _).trans hq) (by omega) (by omega) z) (rY hq)
theorem s_icmp (C : Ctx p l e R s m args below meth c Z own cd maxL ret nm) {cc : ClassFile.Cond} {o : Int} {x y : Int32} {pcY : Nat} (hd : decode cd pc = .ok (.if_icmp cc o, 3)) (hp : pc + 3 = pc') (ho : (pc : Int) + o = (pcY : Int)) (rY : if_icmp.holds cc x y = true → RunG G p l e R s m args below meth c n0 P h k n pcY Ls st) (rN : if_icmp.holds cc x y = false → RunG G p l e R s m args below meth c n0 P h k n pc' Ls st) : RunG G p l e R s m args below meth c n0 P h k n pc Ls (.int y :: .int x :: st) := by
  subst hp
  cases hq : if_icmp.holds cc x y
  · exact Run.pure (fun T locs X _ t z => XS.icmpNo X.here C.1 rfl (hb C.2.2.1 hd) rfl hq z) (rN hq)
  · exact Run.pure (fun T locs X _ t z => XS.icmpYes X.here C.1 rfl (pc0 := pc) rfl (hb C.2.2.1 hd) rfl hq (by omega) (by omega) z) (rY hq)
theorem holds_lt {x y : Int32} : (if_icmp.holds .lt x y = true → x < y) ∧ (if_icmp.holds .lt x y = false → ¬ x < y) := ⟨fun h => by simpa [if_icmp.holds] using h, fun h q => by simp [if_icmp.holds, q] at h⟩
theorem holds_ge {x y : Int32} : (if_icmp.holds .ge x y = true → ¬ x < y) ∧ (if_icmp.holds .ge x y = false → x < y) := ⟨fun h q => (by rw [(tlt q).2.1] at h; cases h), fun h => Decidable.byContradiction fun q => (by rw [(flt q).2.1] at h; cases h)⟩
theorem holds_gt {x y : Int32} : (if_icmp.holds .gt x y = true → y < x) ∧ (if_icmp.holds .gt x y = false → ¬ y < x) := ⟨fun h => Decidable.byContradiction fun q => (by rw [(flt q).2.2.1] at h; cases h), fun h q => (by rw [(tlt q).2.2.1] at h; cases h)⟩
theorem holds_le {x y : Int32} : (if_icmp.holds .le x y = true → ¬ y < x) ∧ (if_icmp.holds .le x y = false → y < x) := ⟨fun h q => (by rw [(tlt q).2.2.2] at h; cases h), fun h => Decidable.byContradiction fun q => (by rw [(flt q).2.2.2] at h; cases h)⟩
theorem holds_eq {x y : Int32} : (if_icmp.holds .eq x y = true → x = y) ∧ (if_icmp.holds .eq x y = false → ¬ x = y) := ⟨fun h => Decidable.byContradiction fun q => (by rw [(feq q).1] at h; cases h), fun h q => (by rw [(teq q).1] at h; cases h)⟩
theorem holds_ne {x y : Int32} : (if_icmp.holds .ne x y = true → ¬ x = y) ∧ (if_icmp.holds .ne x y = false → x = y) := ⟨fun h q => (by rw [(teq q).2] at h; cases h), fun h => Decidable.byContradiction fun q => (by rw [(feq q).2] at h; cases h)⟩
theorem s_if_lt (C : Ctx p l e R s m args below meth c Z own cd maxL ret nm) {o : Int} {x : Int32} {pcY : Nat} (hd : decode cd pc = .ok (.ifCond .lt o, 3)) (hp : pc + 3 = pc') (ho : (pc : Int) + o = (pcY : Int)) (rY : x < (0 : Int32) → RunG G p l e R s m args below meth c n0 P h k n pcY Ls st) (rN : ¬ x < (0 : Int32) → RunG G p l e R s m args below meth c n0 P h k n pc' Ls st) : RunG G p l e R s m args below meth c n0 P h k n pc Ls (.int x :: st) :=
  s_if C hd hp ho (fun h => rY (holds_lt.1 h)) (fun h => rN (holds_lt.2 h))
theorem s_icmp_lt (C : Ctx p l e R s m args below meth c Z own cd maxL ret nm) {o : Int} {x y : Int32} {pcY : Nat} (hd : decode cd pc = .ok (.if_icmp .lt o, 3)) (hp : pc + 3 = pc') (ho : (pc : Int) + o = (pcY : Int)) (rY : x < y → RunG G p l e R s m args below meth c n0 P h k n pcY Ls st) (rN : ¬ x < y → RunG G p l e R s m args below meth c n0 P h k n pc' Ls st) : RunG G p l e R s m args below meth c n0 P h k n pc Ls (.int y :: .int x :: st) :=
  s_icmp C hd hp ho (fun h => rY (holds_lt.1 h)) (fun h => rN (holds_lt.2 h))
theorem s_lc_lt (C : Ctx p l e R s m args below meth c Z own cd maxL ret nm) {o : Int} {x y : Int64} {pc1 pcY : Nat} (hd : decode cd pc = .ok (.lcmp, 1)) (hp1 : pc + 1 = pc1) (hd2 : decode cd pc1 = .ok (.ifCond .lt o, 3)) (hp : pc1 + 3 = pc') (ho : (pc1 : Int) + o = (pcY : Int)) (rY : x < y → RunG G p l e R s m args below meth c n0 P h k n pcY Ls st) (rN : ¬ x < y → RunG G p l e R s m args below meth c n0 P h k n pc' Ls st) : RunG G p l e R s m args below meth c n0 P h k n pc Ls (.long y :: .long x :: st) :=
  s_lcmp C hd hp1 (s_if_lt C hd2 hp ho (fun h => rY ((lw_lt x y).mp h)) (fun h => rN (fun q => h ((lw_lt x y).mpr q))))
theorem s_if_ge (C : Ctx p l e R s m args below meth c Z own cd maxL ret nm) {o : Int} {x : Int32} {pcY : Nat} (hd : decode cd pc = .ok (.ifCond .ge o, 3)) (hp : pc + 3 = pc') (ho : (pc : Int) + o = (pcY : Int)) (rY : ¬ x < (0 : Int32) → RunG G p l e R s m args below meth c n0 P h k n pcY Ls st) (rN : x < (0 : Int32) → RunG G p l e R s m args below meth c n0 P h k n pc' Ls st) : RunG G p l e R s m args below meth c n0 P h k n pc Ls (.int x :: st) :=
  s_if C hd hp ho (fun h => rY (holds_ge.1 h)) (fun h => rN (holds_ge.2 h))
theorem s_icmp_ge (C : Ctx p l e R s m args below meth c Z own cd maxL ret nm) {o : Int} {x y : Int32} {pcY : Nat} (hd : decode cd pc = .ok (.if_icmp .ge o, 3)) (hp : pc + 3 = pc') (ho : (pc : Int) + o = (pcY : Int)) (rY : ¬ x < y → RunG G p l e R s m args below meth c n0 P h k n pcY Ls st) (rN : x < y → RunG G p l e R s m args below meth c n0 P h k n pc' Ls st) : RunG G p l e R s m args below meth c n0 P h k n pc Ls (.int y :: .int x :: st) :=
  s_icmp C hd hp ho (fun h => rY (holds_ge.1 h)) (fun h => rN (holds_ge.2 h))
theorem s_lc_ge (C : Ctx p l e R s m args below meth c Z own cd maxL ret nm) {o : Int} {x y : Int64} {pc1 pcY : Nat} (hd : decode cd pc = .ok (.lcmp, 1)) (hp1 : pc + 1 = pc1) (hd2 : decode cd pc1 = .ok (.ifCond .ge o, 3)) (hp : pc1 + 3 = pc') (ho : (pc1 : Int) + o = (pcY : Int)) (rY : ¬ x < y → RunG G p l e R s m args below meth c n0 P h k n pcY Ls st) (rN : x < y → RunG G p l e R s m args below meth c n0 P h k n pc' Ls st) : RunG G p l e R s m args below meth c n0 P h k n pc Ls (.long y :: .long x :: st) :=
  s_lcmp C hd hp1 (s_if_ge C hd2 hp ho (fun h => rY (fun q => h ((lw_lt x y).mpr q))) (fun h => rN ((lw_lt x y).mp h)))
theorem s_if_gt (C : Ctx p l e R s m args below meth c Z own cd maxL ret nm) {o : Int} {x : Int32} {pcY : Nat} (hd : decode cd pc = .ok (.ifCond .gt o, 3)) (hp : pc + 3 = pc') (ho : (pc : Int) + o = (pcY : Int)) (rY : (0 : Int32) < x → RunG G p l e R s m args below meth c n0 P h k n pcY Ls st) (rN : ¬ (0 : Int32) < x → RunG G p l e R s m args below meth c n0 P h k n pc' Ls st) : RunG G p l e R s m args below meth c n0 P h k n pc Ls (.int x :: st) :=
  s_if C hd hp ho (fun h => rY (holds_gt.1 h)) (fun h => rN (holds_gt.2 h))
theorem s_icmp_gt (C : Ctx p l e R s m args below meth c Z own cd maxL ret nm) {o : Int} {x y : Int32} {pcY : Nat} (hd : decode cd pc = .ok (.if_icmp .gt o, 3)) (hp : pc + 3 = pc') (ho : (pc : Int) + o = (pcY : Int)) (rY : y < x → RunG G p l e R s m args below meth c n0 P h k n pcY Ls st) (rN : ¬ y < x → RunG G p l e R s m args below meth c n0 P h k n pc' Ls st) : RunG G p l e R s m args below meth c n0 P h k n pc Ls (.int y :: .int x :: st) :=
  s_icmp C hd hp ho (fun h => rY (holds_gt.1 h)) (fun h => rN (holds_gt.2 h))
theorem s_lc_gt (C : Ctx p l e R s m args below meth c Z own cd maxL ret nm) {o : Int} {x y : Int64} {pc1 pcY : Nat} (hd : decode cd pc = .ok (.lcmp, 1)) (hp1 : pc + 1 = pc1) (hd2 : decode cd pc1 = .ok (.ifCond .gt o, 3)) (hp : pc1 + 3 = pc') (ho : (pc1 : Int) + o = (pcY : Int)) (rY : y < x → RunG G p l e R s m args below meth c n0 P h k n pcY Ls st) (rN : ¬ y < x → RunG G p l e R s m args below meth c n0 P h k n pc' Ls st) : RunG G p l e R s m args below meth c n0 P h k n pc Ls (.long y :: .long x :: st) :=
  s_lcmp C hd hp1 (s_if_gt C hd2 hp ho (fun h => rY ((lw_gt x y).mp h)) (fun h => rN (fun q => h ((lw_gt x y).mpr q))))
theorem s_if_le (C : Ctx p l e R s m args below meth c Z own cd maxL ret nm) {o : Int} {x : Int32} {pcY : Nat} (hd : decode cd pc = .ok (.ifCond .le o, 3)) (hp : pc + 3 = pc') (ho : (pc : Int) + o = (pcY : Int)) (rY : ¬ (0 : Int32) < x → RunG G p l e R s m args below meth c n0 P h k n pcY Ls st) (rN : (0 : Int32) < x → RunG G p l e R s m args below meth c n0 P h k n pc' Ls st) : RunG G p l e R s m args below meth c n0 P h k n pc Ls (.int x :: st) :=
  s_if C hd hp ho (fun h => rY (holds_le.1 h)) (fun h => rN (holds_le.2 h))
theorem s_icmp_le (C : Ctx p l e R s m args below meth c Z own cd maxL ret nm) {o : Int} {x y : Int32} {pcY : Nat} (hd : decode cd pc = .ok (.if_icmp .le o, 3)) (hp : pc + 3 = pc') (ho : (pc : Int) + o = (pcY : Int)) (rY : ¬ y < x → RunG G p l e R s m args below meth c n0 P h k n pcY Ls st) (rN : y < x → RunG G p l e R s m args below meth c n0 P h k n pc' Ls st) : RunG G p l e R s m args below meth c n0 P h k n pc Ls (.int y :: .int x :: st) :=
  s_icmp C hd hp ho (fun h => rY (holds_le.1 h)) (fun h => rN (holds_le.2 h))
theorem s_lc_le (C : Ctx p l e R s m args below meth c Z own cd maxL ret nm) {o : Int} {x y : Int64} {pc1 pcY : Nat} (hd : decode cd pc = .ok (.lcmp, 1)) (hp1 : pc + 1 = pc1) (hd2 : decode cd pc1 = .ok (.ifCond .le o, 3)) (hp : pc1 + 3 = pc') (ho : (pc1 : Int) + o = (pcY : Int)) (rY : ¬ y < x → RunG G p l e R s m args below meth c n0 P h k n pcY Ls st) (rN : y < x → RunG G p l e R s m args below meth c n0 P h k n pc' Ls st) : RunG G p l e R s m args below meth c n0 P h k n pc Ls (.long y :: .long x :: st) :=
  s_lcmp C hd hp1 (s_if_le C hd2 hp ho (fun h => rY (fun q => h ((lw_gt x y).mpr q))) (fun h => rN ((lw_gt x y).mp h)))
theorem s_if_eq (C : Ctx p l e R s m args below meth c Z own cd maxL ret nm) {o : Int} {x : Int32} {pcY : Nat} (hd : decode cd pc = .ok (.ifCond .eq o, 3)) (hp : pc + 3 = pc') (ho : (pc : Int) + o = (pcY : Int)) (rY : x = (0 : Int32) → RunG G p l e R s m args below meth c n0 P h k n pcY Ls st) (rN : ¬ x = (0 : Int32) → RunG G p l e R s m args below meth c n0 P h k n pc' Ls st) : RunG G p l e R s m args below meth c n0 P h k n pc Ls (.int x :: st) :=
  s_if C hd hp ho (fun h => rY (holds_eq.1 h)) (fun h => rN (holds_eq.2 h))
theorem s_icmp_eq (C : Ctx p l e R s m args below meth c Z own cd maxL ret nm) {o : Int} {x y : Int32} {pcY : Nat} (hd : decode cd pc = .ok (.if_icmp .eq o, 3)) (hp : pc + 3 = pc') (ho : (pc : Int) + o = (pcY : Int)) (rY : x = y → RunG G p l e R s m args below meth c n0 P h k n pcY Ls st) (rN : ¬ x = y → RunG G p l e R s m args below meth c n0 P h k n pc' Ls st) : RunG G p l e R s m args below meth c n0 P h k n pc Ls (.int y :: .int x :: st) :=
  s_icmp C hd hp ho (fun h => rY (holds_eq.1 h)) (fun h => rN (holds_eq.2 h))
theorem s_lc_eq (C : Ctx p l e R s m args below meth c Z own cd maxL ret nm) {o : Int} {x y : Int64} {pc1 pcY : Nat} (hd : decode cd pc = .ok (.lcmp, 1)) (hp1 : pc + 1 = pc1) (hd2 : decode cd pc1 = .ok (.ifCond .eq o, 3)) (hp : pc1 + 3 = pc') (ho : (pc1 : Int) + o = (pcY : Int)) (rY : x = y → RunG G p l e R s m args below meth c n0 P h k n pcY Ls st) (rN : ¬ x = y → RunG G p l e R s m args below meth c n0 P h k n pc' Ls st) : RunG G p l e R s m args below meth c n0 P h k n pc Ls (.long y :: .long x :: st) :=
  s_lcmp C hd hp1 (s_if_eq C hd2 hp ho (fun h => rY ((lw_eq x y).mp h)) (fun h => rN (fun q => h ((lw_eq x y).mpr q))))
theorem s_if_ne (C : Ctx p l e R s m args below meth c Z own cd maxL ret nm) {o : Int} {x : Int32} {pcY : Nat} (hd : decode cd pc = .ok (.ifCond .ne o, 3)) (hp : pc + 3 = pc') (ho : (pc : Int) + o = (pcY : Int)) (rY : ¬ x = (0 : Int32) → RunG G p l e R s m args below meth c n0 P h k n pcY Ls st) (rN : x = (0 : Int32) → RunG G p l e R s m args below meth c n0 P h k n pc' Ls st) : RunG G p l e R s m args below meth c n0 P h k n pc Ls (.int x :: st) :=
  s_if C hd hp ho (fun h => rY (holds_ne.1 h)) (fun h => rN (holds_ne.2 h))
theorem s_icmp_ne (C : Ctx p l e R s m args below meth c Z own cd maxL ret nm) {o : Int} {x y : Int32} {pcY : Nat} (hd : decode cd pc = .ok (.if_icmp .ne o, 3)) (hp : pc + 3 = pc') (ho : (pc : Int) + o = (pcY : Int)) (rY : ¬ x = y → RunG G p l e R s m args below meth c n0 P h k n pcY Ls st) (rN : x = y → RunG G p l e R s m args below meth c n0 P h k n pc' Ls st) : RunG G p l e R s m args below meth c n0 P h k n pc Ls (.int y :: .int x :: st) :=
  s_icmp C hd hp ho (fun h => rY (holds_ne.1 h)) (fun h => rN (holds_ne.2 h))
theorem s_lc_ne (C : Ctx p l e R s m args below meth c Z own cd maxL ret nm) {o : Int} {x y : Int64} {pc1 pcY : Nat} (hd : decode cd pc = .ok (.lcmp, 1)) (hp1 : pc + 1 = pc1) (hd2 : decode cd pc1 = .ok (.ifCond .ne o, 3)) (hp : pc1 + 3 = pc') (ho : (pc1 : Int) + o = (pcY : Int)) (rY : ¬ x = y → RunG G p l e R s m args below meth c n0 P h k n pcY Ls st) (rN : x = y → RunG G p l e R s m args below meth c n0 P h k n pc' Ls st) : RunG G p l e R s m args below meth c n0 P h k n pc Ls (.long y :: .long x :: st) :=
  s_lcmp C hd hp1 (s_if_ne C hd2 hp ho (fun h => rY (fun q => h ((lw_eq x y).mpr q))) (fun h => rN ((lw_eq x y).mp h)))
theorem s_ifnullR (C : Ctx p l e R s m args below meth c Z own cd maxL ret nm) {o : Int} {b : Addr} (hd : decode cd pc = .ok (.ifnull o, 3)) (hp : pc + 3 = pc') (r : RunG G p l e R s m args below meth c n0 P h k n pc' Ls st) : RunG G p l e R s m args below meth c n0 P h k n pc Ls (.ref b :: st) := by
  subst hp; exact Run.pure (fun T locs X _ t z => XS.ifnullNo X.here C.1 rfl (hb C.2.2.1 hd) rfl z) r
theorem s_ifnullN (C : Ctx p l e R s m args below meth c Z own cd maxL ret nm) {o : Int} (hd : decode cd pc = .ok (.ifnull o, 3)) (hp : (pc : Int) + o = (pc' : Int)) (r : RunG G p l e R s m args below meth c n0 P h k n pc' Ls st) : RunG G p l e R s m args below meth c n0 P h k n pc Ls (.null :: st) :=
  Run.pure (fun T locs X _ t z => XS.ifnullYes X.here C.1 rfl (pc0 := pc) rfl (hb C.2.2.1 hd) rfl (by omega) (by omega) z) r
theorem s_ifnonnullR (C : Ctx p l e R s m args below meth c Z own cd maxL ret nm) {o : Int} {b : Addr} (hd : decode cd pc = .ok (.ifnonnull o, 3)) (hp : (pc : Int) + o = (pc' : Int)) (r : RunG G p l e R s m args below meth c n0 P h k n pc' Ls st) : RunG G p l e R s m args below meth c n0 P h k n pc Ls (.ref b :: st) :=
  Run.pure (fun T locs X _ t z => XS.ifnonnullYes X.here C.1 rfl (pc0 := pc) rfl (hb C.2.2.1 hd) rfl (by omega) (by omega) z) r
theorem s_ifnonnullN (C : Ctx p l e R s m args below meth c Z own cd maxL ret nm) {o : Int} (hd : decode cd pc = .ok (.ifnonnull o, 3)) (hp : pc + 3 = pc') (r : RunG G p l e R s m args below meth c n0 P h k n pc' Ls st) : RunG G p l e R s m args below meth c n0 P h k n pc Ls (.null :: st) := by
  subst hp; exact Run.pure (fun T locs X _ t z => XS.ifnonnullNo X.here C.1 rfl (hb C.2.2.1 hd) rfl z) r
theorem s_acmp (C : Ctx p l e R s m args below meth c Z own cd maxL ret nm) {cc : ClassFile.ACond} {o : Int} {x y : Value} {same : Bool} (hd : decode cd pc = .ok (.if_acmp cc o, 3)) (h1 : x.isRef = true) (h2 : y.isRef = true) (hq : decide (x = y) = same) (ho : 0 ≤ (pc : Int) + o) (hp : pc' = if acV cc same = true then ((pc : Int) + o).toNat else pc + 3) (r : RunG G p l e R s m args below meth c n0 P h k n pc' Ls st) : RunG G p l e R s m args below meth c n0 P h k n pc Ls (y :: x :: st) :=
  Run.pure (fun T locs X _ t z => Jvm.RoadKit.acmp (g := mkF m pc Ls (y :: x :: st)) X C.1 rfl h1 h2 rfl (hb C.2.2.1 hd) rfl hq ho hp z) r
/-! returns -/
theorem Run.out {v : Option Value} (C : Ctx p l e R s m args below meth c Z own cd maxL ret nm) (hv : ret = none → v = none) (f : ∀ T locs, Stand p l e R s m args below meth c T locs k n → ∀ fs, (∀ (f : JFrame) (acts : List Action), f.method = m → f.locked = none → f.entered = [] → (doReturn e (T.setTop f) acts v).1 = T.setFrames fs) → Steps p.tables e below (T.setTop (mkF m pc Ls st)) (T.setFrames fs)) (hk : k ≤ R.cells) (hn : n ≤ R.slots) (hP : P v h) : Run p l e R s m args below meth c n0 P h k n pc Ls st := fun T locs X eT N => by
  obtain ⟨fs, hr, hrun, hended, hW, hsame⟩ := X.leave (v := v) (fun h => hv (C.2.2.2.2.2.1 ▸ h)) C.2.2.2.2.2.2.1
  exact ⟨_, _, f T locs X fs hr, hrun, hended, _, _, rfl, ⟨(by rw [show (T.setFrames fs).heap = h from eT]; exact hP), N⟩, ⟨_, rfl⟩, hW, hsame.mono hk hn⟩
theorem s_retI {Q : Int32 → Heap → Prop} (C : Ctx p l e R s m args below meth c Z own cd maxL (some .int) nm) {z : Int32} (hd : decode cd pc = .ok (.ireturn, 1)) (hk : k ≤ R.cells) (hn : n ≤ R.slots) (hQ : Q z h) : Run p l e R s m args below meth c n0 (RetI Q) h k n pc Ls (.int z :: st) :=
  Run.out C (fun h => by cases h) (fun T locs X fs hr => retOut X C.1 C.2.2.2.2.2.1 rfl (Or.inl ⟨rfl, Or.inl rfl, _, rfl⟩) (hb C.2.2.1 hd) hr) hk hn ⟨_, rfl, hQ⟩
theorem s_retN {Q : Int32 → Heap → Prop} {t : FieldType} (C : Ctx p l e R s m args below meth c Z own cd maxL (some t) nm) (ht : t = .boolean ∨ t = .byte ∨ t = .char ∨ t = .short) {z : Int32} (hd : decode cd pc = .ok (.ireturn, 1)) (hk : k ≤ R.cells) (hn : n ≤ R.slots) (hQ : Q (nar t z) h) : Run p l e R s m args below meth c n0 (RetI Q) h k n pc Ls (.int z :: st) :=
  Run.out C (fun h => by cases h) (fun T locs X fs hr => retN X C.1 C.2.2.2.2.2.1 ht (hb C.2.2.1 hd) hr) hk hn ⟨_, rfl, hQ⟩
theorem s_retL {Q : Int64 → Heap → Prop} (C : Ctx p l e R s m args below meth c Z own cd maxL (some .long) nm) {z : Int64} (hd : decode cd pc = .ok (.lreturn, 1)) (hk : k ≤ R.cells) (hn : n ≤ R.slots) (hQ : Q z h) : Run p l e R s m args below meth c n0 (RetL Q) h k n pc Ls (.long z :: st) :=
  Run.out C (fun h => by cases h) (fun T locs X fs hr => retOut X C.1 C.2.2.2.2.2.1 rfl (Or.inr (Or.inl ⟨rfl, rfl, _, rfl⟩)) (hb C.2.2.1 hd) hr) hk hn ⟨_, rfl, hQ⟩
theorem s_retA {Q : Value → Heap → Prop} {t : FieldType} (C : Ctx p l e R s m args below meth c Z own cd maxL (some t) nm) (ht : t.isReference = true) {v : Value} (hv : v.isRef = true) (hn' : narrow t v = v) (hd : decode cd pc = .ok (.areturn, 1)) (hk : k ≤ R.cells) (hn : n ≤ R.slots) (hQ : Q v h) : Run p l e R s m args below meth c n0 (RetV Q) h k n pc Ls (v :: st) :=
  Run.out C (fun h => by cases h) (fun T locs X fs hr => retOut X C.1 C.2.2.2.2.2.1 hn' (Or.inr (Or.inr (Or.inr (Or.inr ⟨rfl, ht, hv⟩)))) (hb C.2.2.1 hd) hr) hk hn ⟨_, rfl, hQ⟩
theorem s_ret0 {Q : Heap → Prop} (C : Ctx p l e R s m args below meth c Z own cd maxL none nm) (hd : decode cd pc = .ok (.return_, 1)) (hk : k ≤ R.cells) (hn : n ≤ R.slots) (hQ : Q h) : Run p l e R s m args below meth c n0 (Ret0 Q) h k n pc Ls [] :=
  Run.out C (fun _ => rfl) (fun T locs X fs hr => X.returnOut C.1 C.2.2.2.2.2.1 (hb C.2.2.1 hd) hr) hk hn ⟨rfl, hQ⟩
/-! fields, objects -/
theorem s_getF (C : Ctx p l e R s m args below meth c Z own cd maxL ret nm) {O f d : String} {i : Nat} {a : Addr} {v : Value} (hd : decode cd pc = .ok (.getfield i, 3)) (hp : pc + 3 = pc') (w : (Jvm.Cond.fieldLink own i O f d).before a0 Z = true) (F : Fld Z h a O f d v) (r : RunG G p l e R s m args below meth c n0 P h k n pc' Ls (v :: st)) : RunG G p l e R s m args below meth c n0 P h k n pc Ls (.ref a :: st) := by
  subst hp; exact Run.warm (fun T locs X eT => getF X C.1 C.2.1 C.2.2.2.2.1 (host := "") (Or.inl w) Via.refl eT F (g := mkF m pc Ls (.ref a :: st)) rfl rfl (hb C.2.2.1 hd)) r
theorem s_getS (C : Ctx p l e R s m args below meth c Z own cd maxL ret nm) {O f d : String} {i : Nat} {v : Value} (hd : decode cd pc = .ok (.getstatic i, 3)) (hp : pc + 3 = pc') (w : (Jvm.Cond.fieldLink own i O f d).before a0 Z = true) (F : Sta Z h O f d v) (r : RunG G p l e R s m args below meth c n0 P h k n pc' Ls (v :: st)) : RunG G p l e R s m args below meth c n0 P h k n pc Ls st := by
  subst hp; exact Run.warm (fun T locs X eT => getS (host := "") X C.1 C.2.1 C.2.2.2.2.1 w Via.refl eT F (g := mkF m pc Ls st) rfl (hb C.2.2.1 hd)) r
theorem s_putF (C : Ctx p l e R s m args below meth c Z own cd maxL ret nm) {O f d K : String} {i kk : Nat} {a : Addr} {v old : Value} {ty : FieldType} (hd : decode cd pc = .ok (.putfield i, 3)) (hp : pc + 3 = pc') (w : (Jvm.Cond.fieldLink own i O f d).before a0 Z = true) (F : Fld Z h a O f d old) (E : Exa Z h a K)
    (L : (Jvm.Cond.lays K O f d).before a0 Z = true ∨ ((Jvm.Cond.laysFinal K O f d).before a0 Z = true ∧ own = O ∧ nm = "<init>")) (wi : (Jvm.Cond.instantiable K kk).before a0 Z = true) (hty : parseFieldDescriptor d = some ty) (hn : narrow ty v = v) (hf : fits ty v = true) (ha : n0 ≤ a)
    (r : ∀ h', Wr h h' a (Jvm.RoadKit.slotOf Z O f d) v → RunG G p l e R s m args below meth c n0 P h' k n pc' Ls st) : RunG G p l e R s m args below meth c n0 P h k n pc Ls (v :: .ref a :: st) := by
  subst hp
  intro T locs X eT N
  obtain ⟨T', h', X', e', W, q⟩ := putF X C.1 C.2.1 C.2.2.2.2.1 (host := "") (Or.inl w) Via.refl eT F E (L.imp id fun z => ⟨z.1, z.2.1, C.2.2.2.2.2.2.2.trans z.2.2⟩) wi hty hn hf (g := mkF m pc Ls (v :: .ref a :: st)) rfl rfl (hb C.2.2.1 hd)
  obtain ⟨s₂, o, z, r⟩ := r h' W T' _ X' e' (Fr.snoc X' N ha)
  exact ⟨s₂, o, q _ z, r⟩
theorem s_new (C : Ctx p l e R s m args below meth c Z own cd maxL ret nm) {K : String} {i sl k' n' : Nat} (hd : decode cd pc = .ok (.new i, 3)) (hp : pc + 3 = pc') (w : (Jvm.Cond.classLink own i K).before a0 Z = true) (wi : (Jvm.Cond.instantiable K sl).before a0 Z = true) (wz : (Jvm.Cond.initialized K).before a0 Z = true) (hk : k + 1 = k') (hk' : k' ≤ R.cells) (hn : n + sl = n') (hn' : n' ≤ R.slots)
    (r : ∀ h' a, Ext h h' → a = h.size → Exa Z h' a K → (∀ {O nm d : String} {ty : FieldType}, Laid Z a0 K O nm d → parseFieldDescriptor d = some ty → Fld Z h' a O nm d (defaultValue ty)) → RunG G p l e R s m args below meth c n0 P h' k' n' pc' Ls (.ref a :: st)) : RunG G p l e R s m args below meth c n0 P h k n pc Ls st := by
  subst hp hk hn
  intro T locs X eT N
  obtain ⟨T', h', X', e', E, A, D, -, q⟩ := newO X C.1 C.2.1 C.2.2.2.2.1 w wi wz eT (g := mkF m pc Ls st) rfl (hb C.2.2.1 hd) hk' hn'
  obtain ⟨s₂, o, z, r⟩ := r h' _ E rfl A D T' _ X' e' N
  exact ⟨s₂, o, q _ z, r⟩
theorem s_initO (C : Ctx p l e R s m args below meth c Z own cd maxL ret nm) {i W : Nat} {a : Addr} (hd : decode cd pc = .ok (.invokespecial i, 3)) (hp : pc + 3 = pc') (w1 : (Jvm.Cond.methodLink own i Lib.objectInit).before a0 Z = true) (w2 : (Jvm.Cond.instanceMethod Lib.objectInit).before a0 Z = true) (w3 : (Jvm.Cond.code Lib.objectInit ⟨#[0xb1]⟩ 1 none).before a0 Z = true) (hs : Ls.size = maxL) (hf : 1 ≤ R.frames) (hW : (st.map fun v => v.category).sum = W) (hl : W + 12 ≤ R.locals)
    (r : RunG G p l e R s m args below meth c n0 P h k n pc' Ls st) : RunG G p l e R s m args below meth c n0 P h k n pc Ls (.ref a :: st) := by
  subst hp; exact Run.warm (fun T locs X eT => initO X C.1 C.2.1 C.2.2.2.2.1 w1 w2 w3 eT (g := mkF m pc Ls (.ref a :: st)) rfl (by rw [C.2.2.2.1]; exact hs) rfl (hb C.2.2.1 hd) hf (W := W) (by show 2 * 0 + _ ≤ _; omega) hl) r
theorem s_cast (C : Ctx p l e R s m args below meth c Z own cd maxL ret nm) {K : String} {i : Nat} {a : Addr} (hd : decode cd pc = .ok (.checkcast i, 3)) (hp : pc + 3 = pc') (w : (Jvm.Cond.classLink own i K).before a0 Z = true) (F : Ins Z h a K true) (r : RunG G p l e R s m args below meth c n0 P h k n pc' Ls (.ref a :: st)) : RunG G p l e R s m args below meth c n0 P h k n pc Ls (.ref a :: st) := by
  subst hp; exact Run.warm (fun T locs X eT => castY X C.1 C.2.1 C.2.2.2.2.1 w eT F (g := mkF m pc Ls (.ref a :: st)) rfl rfl (hb C.2.2.1 hd)) r
theorem s_instY (C : Ctx p l e R s m args below meth c Z own cd maxL ret nm) {K : String} {i : Nat} {a : Addr} (hd : decode cd pc = .ok (.instanceof i, 3)) (hp : pc + 3 = pc') (w : (Jvm.Cond.classLink own i K).before a0 Z = true) (F : Ins Z h a K true) (r : RunG G p l e R s m args below meth c n0 P h k n pc' Ls (.int 1 :: st)) : RunG G p l e R s m args below meth c n0 P h k n pc Ls (.ref a :: st) := by
  subst hp; exact Run.warm (fun T locs X eT => instY X C.1 C.2.1 C.2.2.2.2.1 w eT F (g := mkF m pc Ls (.ref a :: st)) rfl rfl (hb C.2.2.1 hd)) r
/-! calls -/
theorem Met.back {y : MethodName} {bytes : ByteArray} {mL len W : Nat} {rt : Option FieldType} {rm : Room} {as : Array Value} {Q : Option Value → Heap → Prop} (M : Met l Z y bytes mL rt [] rm as h n0 Q) (hZ : Z.Warmed39 s.vm) (wc : (Jvm.Cond.code y bytes mL rt).before a0 Z = true) (wz : (Jvm.Cond.initialized y.cls).before a0 Z = true) (hf : rm.frames + 1 ≤ R.frames) (hl : W + (mL + 11) + rm.locals ≤ R.locals) :
    Back l R p e below s args y len W (fun A a => a = as ∧ A.U.heap = h ∧ A.cells + rm.cells ≤ R.cells ∧ A.slots + rm.slots ≤ R.slots) (fun A _ v B => ∃ L, (Q v B.U.heap ∧ Fr n0 L) ∧ B.locs = A.locs ++ L ∧ B.cells = A.cells + rm.cells ∧ B.slots = A.slots + rm.slots) :=
  backOf (Q := fun v h L => Q v h ∧ Fr n0 L) M hZ wc wz hf hl
theorem s_callS (C : Ctx p l e R s m args below meth c Z own cd maxL ret nm) {y : MethodName} {bytes : ByteArray} {mL i W k' n' : Nat} {rt : Option FieldType} {rm : Room} {Q : Option Value → Heap → Prop} (hd : decode cd pc = .ok (.invokestatic i, 3)) (hp : pc + 3 = pc') (wl : (Jvm.Cond.methodLink own i y).before a0 Z = true) (ws : (Jvm.Cond.static y).before a0 Z = true) (wz : (Jvm.Cond.initialized y.cls).before a0 Z = true) (wc : (Jvm.Cond.code y bytes mL rt).before a0 Z = true) (hy : y.cls ≠ "java/lang/invoke/MethodHandle" ∧ y.cls ≠ "java/lang/invoke/VarHandle") (as rest : List Value) {ps : List FieldType} {rr : Option FieldType} (hdes : parseMethodDescriptor y.desc = some ⟨ps, rr⟩) (hlen : as.length = ps.length) (hst : st = as.reverse ++ rest)
    (M : Met l Z y bytes mL rt [] rm as.toArray h n0 Q) (hs : Ls.size = maxL) (hW : (rest.map fun v => v.category).sum = W) (hf : rm.frames + 1 ≤ R.frames) (hl : W + (mL + 11) + rm.locals ≤ R.locals) (hk : k + rm.cells = k') (hk' : k' ≤ R.cells) (hn : n + rm.slots = n') (hn' : n' ≤ R.slots)
    (r : ∀ v h', Q v h' → RunG G p l e R s m args below meth c n0 P h' k' n' pc' Ls (v.toList ++ rest)) : RunG G p l e R s m args below meth c n0 P h k n pc Ls st := by
  subst hp hk hn hst
  intro T locs X eT N
  obtain ⟨v, _, ⟨T', L', k', n'⟩, -, X', ⟨Lc, ⟨hQ, N'⟩, l', y', z'⟩, q⟩ := Jvm.LawKit.callS X C.1 (y := y) C.2.2.2.2.1 (mvT C.2.1 wl) (mvT C.2.1 ws) (mvT C.2.1 wz) (mvT C.2.1 wc) hy (M.back (W := W) C.2.1 wc wz hf hl) (g := mkF m pc Ls (as.reverse ++ rest)) rfl (by rw [C.2.2.2.1]; exact hs) (argsL := as) (rest := rest) (lenOf hdes hlen) rfl (by show 2 * 0 + _ ≤ _; omega) (hb C.2.2.1 hd) (fun _ _ => ⟨rfl, eT, hk', hn'⟩)
  dsimp only [Pt.U, Pt.locs, Pt.cells, Pt.slots] at X' l' y' z' q hQ
  subst l' y' z'
  obtain ⟨s₂, o, z, r⟩ := r v _ hQ T' _ X' rfl (Fr.app N N')
  exact ⟨s₂, o, q _ z, r⟩
theorem s_callV (C : Ctx p l e R s m args below meth c Z own cd maxL ret nm) {y z : MethodName} {K : String} {bytes : ByteArray} {mL i W k' n' : Nat} {rt : Option FieldType} {rm : Room} {b : Addr} {Q : Option Value → Heap → Prop} (hd : decode cd pc = .ok (.invokevirtual i, 3)) (hp : pc + 3 = pc') (wl : (Jvm.Cond.methodLink own i y).before a0 Z = true) (wd : (Jvm.Cond.declares y).before a0 Z = true) (hnf : NotFace s y) (wsel : (Jvm.Cond.selects K y z).before a0 Z = true) (wi : (Jvm.Cond.instanceMethod z).before a0 Z = true) (wz : (Jvm.Cond.initialized z.cls).before a0 Z = true) (wc : (Jvm.Cond.code z bytes mL rt).before a0 Z = true) (hy : y.cls ≠ "java/lang/invoke/MethodHandle" ∧ y.cls ≠ "java/lang/invoke/VarHandle") (E : Exa Z h b K) (as rest : List Value) {ps : List FieldType} {rr : Option FieldType} (hdes : parseMethodDescriptor y.desc = some ⟨ps, rr⟩) (hlen : as.length = ps.length) (hst : st = as.reverse ++ .ref b :: rest)
    (M : Met l Z z bytes mL rt [] rm (.ref b :: as).toArray h n0 Q) (hs : Ls.size = maxL) (hW : (rest.map fun v => v.category).sum = W) (hf : rm.frames + 1 ≤ R.frames) (hl : W + (mL + 11) + rm.locals ≤ R.locals) (hk : k + rm.cells = k') (hk' : k' ≤ R.cells) (hn : n + rm.slots = n') (hn' : n' ≤ R.slots)
    (r : ∀ v h', Q v h' → RunG G p l e R s m args below meth c n0 P h' k' n' pc' Ls (v.toList ++ rest)) : RunG G p l e R s m args below meth c n0 P h k n pc Ls st := by
  subst hp hk hn hst
  intro T locs X eT N
  obtain ⟨cq, kq, qa, qb, qc⟩ := isOf C.2.1 eT E
  obtain ⟨v, _, ⟨T', L', k', n'⟩, -, X', ⟨Lc, ⟨hQ, N'⟩, l', y', z'⟩, q⟩ := X.virtualBack C.1 (y := y) (z := z) C.2.2.2.2.1 (mvT C.2.1 wl) (mvT C.2.1 wd) hnf (mvT C.2.1 wsel) (mvT C.2.1 wi) hy (M.back (W := W) C.2.1 wc wz hf hl) qa qc (g := mkF m pc Ls (as.reverse ++ .ref b :: rest)) rfl (by rw [C.2.2.2.1]; exact hs) (Steps.refl _) (argsL := as) (rest := rest) (lenOf hdes hlen) rfl (by show 2 * 0 + _ ≤ _; omega) (hb C.2.2.1 hd) (fun _ _ => ⟨rfl, eT, hk', hn'⟩)
  dsimp only [Pt.U, Pt.locs, Pt.cells, Pt.slots] at X' l' y' z' q hQ
  subst l' y' z'
  obtain ⟨s₂, o, z, r⟩ := r v _ hQ T' _ X' rfl (Fr.app N N')
  exact ⟨s₂, o, q.trans z, r⟩
theorem s_callI (C : Ctx p l e R s m args below meth c Z own cd maxL ret nm) {y : MethodName} {bytes : ByteArray} {mL i W k' n' : Nat} {rm : Room} {b : Addr} {Q : Heap → Prop} (hd : decode cd pc = .ok (.invokespecial i, 3)) (hp : pc + 3 = pc') (wl : (Jvm.Cond.methodLink own i y).before a0 Z = true) (hy1 : y.name = "<init>") (wi : (Jvm.Cond.instanceMethod y).before a0 Z = true) (wz : (Jvm.Cond.initialized y.cls).before a0 Z = true) (wc : (Jvm.Cond.code y bytes mL none).before a0 Z = true) (hy : y.cls ≠ "java/lang/invoke/MethodHandle" ∧ y.cls ≠ "java/lang/invoke/VarHandle") (as rest : List Value) {ps : List FieldType} {rr : Option FieldType} (hdes : parseMethodDescriptor y.desc = some ⟨ps, rr⟩) (hlen : as.length = ps.length) (hst : st = as.reverse ++ .ref b :: rest)
    (M : Met l Z y bytes mL none [] rm (.ref b :: as).toArray h n0 (Ret0 Q)) (hs : Ls.size = maxL) (hW : (rest.map fun v => v.category).sum = W) (hf : rm.frames + 1 ≤ R.frames) (hl : W + (mL + 11) + rm.locals ≤ R.locals) (hk : k + rm.cells = k') (hk' : k' ≤ R.cells) (hn : n + rm.slots = n') (hn' : n' ≤ R.slots)
    (r : ∀ h', Q h' → RunG G p l e R s m args below meth c n0 P h' k' n' pc' Ls rest) : RunG G p l e R s m args below meth c n0 P h k n pc Ls st := by
  subst hp hk hn hst
  intro T locs X eT N
  obtain ⟨v, _, ⟨T', L', k', n'⟩, -, X', ⟨Lc, ⟨⟨rfl, hQ⟩, N'⟩, l', y', z'⟩, q⟩ := X.specialBack C.1 (y := y) hy1 C.2.2.2.2.1 (mvT C.2.1 wl) (mvT C.2.1 wi) (mvT C.2.1 wc) hy (M.back (W := W) C.2.1 wc wz hf hl) (g := mkF m pc Ls (as.reverse ++ .ref b :: rest)) rfl (by rw [C.2.2.2.1]; exact hs) (Steps.refl _) (a := b) (argsL := as) (rest := rest) (lenOf hdes hlen) rfl (by show 2 * 0 + _ ≤ _; omega) (hb C.2.2.1 hd) (fun _ _ => ⟨rfl, eT, hk', hn'⟩)
  dsimp only [Pt.U, Pt.locs, Pt.cells, Pt.slots] at X' l' y' z' q hQ
  subst l' y' z'
  obtain ⟨s₂, o, z, r⟩ := r _ hQ T' _ X' rfl (Fr.app N N')
  exact ⟨s₂, o, q.trans z, r⟩
theorem s_callSI (C : Ctx p l e R s m args below meth c Z own cd maxL ret nm) {y : MethodName} {bytes : ByteArray} {mL i W k' n' : Nat} {rt : Option FieldType} {rm : Room} {Q : Int32 → Heap → Prop} (hd : decode cd pc = .ok (.invokestatic i, 3)) (hp : pc + 3 = pc') (wl : (Jvm.Cond.methodLink own i y).before a0 Z = true) (ws : (Jvm.Cond.static y).before a0 Z = true) (wz : (Jvm.Cond.initialized y.cls).before a0 Z = true) (wc : (Jvm.Cond.code y bytes mL rt).before a0 Z = true) (hy : y.cls ≠ "java/lang/invoke/MethodHandle" ∧ y.cls ≠ "java/lang/invoke/VarHandle") (as rest : List Value) {ps : List FieldType} {rr : Option FieldType} (hdes : parseMethodDescriptor y.desc = some ⟨ps, rr⟩) (hlen : as.length = ps.length) (hst : st = as.reverse ++ rest)
    (M : Met l Z y bytes mL rt [] rm as.toArray h n0 (RetI Q)) (hs : Ls.size = maxL) (hW : (rest.map fun v => v.category).sum = W) (hf : rm.frames + 1 ≤ R.frames) (hl : W + (mL + 11) + rm.locals ≤ R.locals) (hk : k + rm.cells = k') (hk' : k' ≤ R.cells) (hn : n + rm.slots = n') (hn' : n' ≤ R.slots)
    (r : ∀ (z : Int32) h', Q z h' → RunG G p l e R s m args below meth c n0 P h' k' n' pc' Ls ((.int z) :: rest)) : RunG G p l e R s m args below meth c n0 P h k n pc Ls st :=
  s_callS C hd hp wl ws wz wc hy as rest hdes hlen hst M hs hW hf hl hk hk' hn hn' (fun v h' q => by obtain ⟨z, rfl, q⟩ := q; exact r z h' q)
theorem s_callSL (C : Ctx p l e R s m args below meth c Z own cd maxL ret nm) {y : MethodName} {bytes : ByteArray} {mL i W k' n' : Nat} {rt : Option FieldType} {rm : Room} {Q : Int64 → Heap → Prop} (hd : decode cd pc = .ok (.invokestatic i, 3)) (hp : pc + 3 = pc') (wl : (Jvm.Cond.methodLink own i y).before a0 Z = true) (ws : (Jvm.Cond.static y).before a0 Z = true) (wz : (Jvm.Cond.initialized y.cls).before a0 Z = true) (wc : (Jvm.Cond.code y bytes mL rt).before a0 Z = true) (hy : y.cls ≠ "java/lang/invoke/MethodHandle" ∧ y.cls ≠ "java/lang/invoke/VarHandle") (as rest : List Value) {ps : List FieldType} {rr : Option FieldType} (hdes : parseMethodDescriptor y.desc = some ⟨ps, rr⟩) (hlen : as.length = ps.length) (hst : st = as.reverse ++ rest)
    (M : Met l Z y bytes mL rt [] rm as.toArray h n0 (RetL Q)) (hs : Ls.size = maxL) (hW : (rest.map fun v => v.category).sum = W) (hf : rm.frames + 1 ≤ R.frames) (hl : W + (mL + 11) + rm.locals ≤ R.locals) (hk : k + rm.cells = k') (hk' : k' ≤ R.cells) (hn : n + rm.slots = n') (hn' : n' ≤ R.slots)
    (r : ∀ (z : Int64) h', Q z h' → RunG G p l e R s m args below meth c n0 P h' k' n' pc' Ls ((.long z) :: rest)) : RunG G p l e R s m args below meth c n0 P h k n pc Ls st :=
  s_callS C hd hp wl ws wz wc hy as rest hdes hlen hst M hs hW hf hl hk hk' hn hn' (fun v h' q => by obtain ⟨z, rfl, q⟩ := q; exact r z h' q)
theorem s_callSA (C : Ctx p l e R s m args below meth c Z own cd maxL ret nm) {y : MethodName} {bytes : ByteArray} {mL i W k' n' : Nat} {rt : Option FieldType} {rm : Room} {Q : Value → Heap → Prop} (hd : decode cd pc = .ok (.invokestatic i, 3)) (hp : pc + 3 = pc') (wl : (Jvm.Cond.methodLink own i y).before a0 Z = true) (ws : (Jvm.Cond.static y).before a0 Z = true) (wz : (Jvm.Cond.initialized y.cls).before a0 Z = true) (wc : (Jvm.Cond.code y bytes mL rt).before a0 Z = true) (hy : y.cls ≠ "java/lang/invoke/MethodHandle" ∧ y.cls ≠ "java/lang/invoke/VarHandle") (as rest : List Value) {ps : List FieldType} {rr : Option FieldType} (hdes : parseMethodDescriptor y.desc = some ⟨ps, rr⟩) (hlen : as.length = ps.length) (hst : st = as.reverse ++ rest)
    (M : Met l Z y bytes mL rt [] rm as.toArray h n0 (RetV Q)) (hs : Ls.size = maxL) (hW : (rest.map fun v => v.category).sum = W) (hf : rm.frames + 1 ≤ R.frames) (hl : W + (mL + 11) + rm.locals ≤ R.locals) (hk : k + rm.cells = k') (hk' : k' ≤ R.cells) (hn : n + rm.slots = n') (hn' : n' ≤ R.slots)
    (r : ∀ (z : Value) h', Q z h' → RunG G p l e R s m args below meth c n0 P h' k' n' pc' Ls (z :: rest)) : RunG G p l e R s m args below meth c n0 P h k n pc Ls st :=
  s_callS C hd hp wl ws wz wc hy as rest hdes hlen hst M hs hW hf hl hk hk' hn hn' (fun v h' q => by obtain ⟨z, rfl, q⟩ := q; exact r z h' q)
theorem s_callS0 (C : Ctx p l e R s m args below meth c Z own cd maxL ret nm) {y : MethodName} {bytes : ByteArray} {mL i W k' n' : Nat} {rt : Option FieldType} {rm : Room} {Q : Heap → Prop} (hd : decode cd pc = .ok (.invokestatic i, 3)) (hp : pc + 3 = pc') (wl : (Jvm.Cond.methodLink own i y).before a0 Z = true) (ws : (Jvm.Cond.static y).before a0 Z = true) (wz : (Jvm.Cond.initialized y.cls).before a0 Z = true) (wc : (Jvm.Cond.code y bytes mL rt).before a0 Z = true) (hy : y.cls ≠ "java/lang/invoke/MethodHandle" ∧ y.cls ≠ "java/lang/invoke/VarHandle") (as rest : List Value) {ps : List FieldType} {rr : Option FieldType} (hdes : parseMethodDescriptor y.desc = some ⟨ps, rr⟩) (hlen : as.length = ps.length) (hst : st = as.reverse ++ rest)
    (M : Met l Z y bytes mL rt [] rm as.toArray h n0 (Ret0 Q)) (hs : Ls.size = maxL) (hW : (rest.map fun v => v.category).sum = W) (hf : rm.frames + 1 ≤ R.frames) (hl : W + (mL + 11) + rm.locals ≤ R.locals) (hk : k + rm.cells = k') (hk' : k' ≤ R.cells) (hn : n + rm.slots = n') (hn' : n' ≤ R.slots)
    (r : ∀ h', Q h' → RunG G p l e R s m args below meth c n0 P h' k' n' pc' Ls rest) : RunG G p l e R s m args below meth c n0 P h k n pc Ls st :=
  s_callS C hd hp wl ws wz wc hy as rest hdes hlen hst M hs hW hf hl hk hk' hn hn' (fun v h' q => by obtain ⟨rfl, q⟩ := q; exact r h' q)
theorem s_callVI (C : Ctx p l e R s m args below meth c Z own cd maxL ret nm) {y z : MethodName} {K : String} {bytes : ByteArray} {mL i W k' n' : Nat} {rt : Option FieldType} {rm : Room} {b : Addr} {Q : Int32 → Heap → Prop} (hd : decode cd pc = .ok (.invokevirtual i, 3)) (hp : pc + 3 = pc') (wl : (Jvm.Cond.methodLink own i y).before a0 Z = true) (wd : (Jvm.Cond.declares y).before a0 Z = true) (hnf : NotFace s y) (wsel : (Jvm.Cond.selects K y z).before a0 Z = true) (wi : (Jvm.Cond.instanceMethod z).before a0 Z = true) (wz : (Jvm.Cond.initialized z.cls).before a0 Z = true) (wc : (Jvm.Cond.code z bytes mL rt).before a0 Z = true) (hy : y.cls ≠ "java/lang/invoke/MethodHandle" ∧ y.cls ≠ "java/lang/invoke/VarHandle") (E : Exa Z h b K) (as rest : List Value) {ps : List FieldType} {rr : Option FieldType} (hdes : parseMethodDescriptor y.desc = some ⟨ps, rr⟩) (hlen : as.length = ps.length) (hst : st = as.reverse ++ .ref b :: rest)
    (M : Met l Z z bytes mL rt [] rm (.ref b :: as).toArray h n0 (RetI Q)) (hs : Ls.size = maxL) (hW : (rest.map fun v => v.category).sum = W) (hf : rm.frames + 1 ≤ R.frames) (hl : W + (mL + 11) + rm.locals ≤ R.locals) (hk : k + rm.cells = k') (hk' : k' ≤ R.cells) (hn : n + rm.slots = n') (hn' : n' ≤ R.slots)
    (r : ∀ (z : Int32) h', Q z h' → RunG G p l e R s m args below meth c n0 P h' k' n' pc' Ls ((.int z) :: rest)) : RunG G p l e R s m args below meth c n0 P h k n pc Ls st :=
  s_callV C hd hp wl wd hnf wsel wi wz wc hy E as rest hdes hlen hst M hs hW hf hl hk hk' hn hn' (fun v h' q => by obtain ⟨z, rfl, q⟩ := q; exact r z h' q)
theorem s_callVL (C : Ctx p l e R s m args below meth c Z own cd maxL ret nm) {y z : MethodName} {K : String} {bytes : ByteArray} {mL i W k' n' : Nat} {rt : Option FieldType} {rm : Room} {b : Addr} {Q : Int64 → Heap → Prop} (hd : decode cd pc = .ok (.invokevirtual i, 3)) (hp : pc + 3 = pc') (wl : (Jvm.Cond.methodLink own i y).before a0 Z = true) (wd : (Jvm.Cond.declares y).before a0 Z = true) (hnf : NotFace s y) (wsel : (Jvm.Cond.selects K y z).before a0 Z = true) (wi : (Jvm.Cond.instanceMethod z).before a0 Z = true) (wz : (Jvm.Cond.initialized z.cls).before a0 Z = true) (wc : (Jvm.Cond.code z bytes mL rt).before a0 Z = true) (hy : y.cls ≠ "java/lang/invoke/MethodHandle" ∧ y.cls ≠ "java/lang/invoke/VarHandle") (E : Exa Z h b K) (as rest : List Value) {ps : List FieldType} {rr : Option FieldType} (hdes : parseMethodDescriptor y.desc = some ⟨ps, rr⟩) (hlen : as.length = ps.length) (hst : st = as.reverse ++ .ref b :: rest)
    (M : Met l Z z bytes mL rt [] rm (.ref b :: as).toArray h n0 (RetL Q)) (hs : Ls.size = maxL) (hW : (rest.map fun v => v.category).sum = W) (hf : rm.frames + 1 ≤ R.frames) (hl : W + (mL + 11) + rm.locals ≤ R.locals) (hk : k + rm.cells = k') (hk' : k' ≤ R.cells) (hn : n + rm.slots = n') (hn' : n' ≤ R.slots)
    (r : ∀ (z : Int64) h', Q z h' → RunG G p l e R s m args below meth c n0 P h' k' n' pc' Ls ((.long z) :: rest)) : RunG G p l e R s m args below meth c n0 P h k n pc Ls st :=
  s_callV C hd hp wl wd hnf wsel wi wz wc hy E as rest hdes hlen hst M hs hW hf hl hk hk' hn hn' (fun v h' q => by obtain ⟨z, rfl, q⟩ := q; exact r z h' q)
theorem s_callVA (C : Ctx p l e R s m args below meth c Z own cd maxL ret nm) {y z : MethodName} {K : String} {bytes : ByteArray} {mL i W k' n' : Nat} {rt : Option FieldType} {rm : Room} {b : Addr} {Q : Value → Heap → Prop} (hd : decode cd pc = .ok (.invokevirtual i, 3)) (hp : pc + 3 = pc') (wl : (Jvm.Cond.methodLink own i y).before a0 Z = true) (wd : (Jvm.Cond.declares y).before a0 Z = true) (hnf : NotFace s y) (wsel : (Jvm.Cond.selects K y z).before a0 Z = true) (wi : (Jvm.Cond.instanceMethod z).before a0 Z = true) (wz : (Jvm.Cond.initialized z.cls).before a0 Z = true) (wc : (Jvm.Cond.code z bytes mL rt).before a0 Z = true) (hy : y.cls ≠ "java/lang/invoke/MethodHandle" ∧ y.cls ≠ "java/lang/invoke/VarHandle") (E : Exa Z h b K) (as rest : List Value) {ps : List FieldType} {rr : Option FieldType} (hdes : parseMethodDescriptor y.desc = some ⟨ps, rr⟩) (hlen : as.length = ps.length) (hst : st = as.reverse ++ .ref b :: rest)
    (M : Met l Z z bytes mL rt [] rm (.ref b :: as).toArray h n0 (RetV Q)) (hs : Ls.size = maxL) (hW : (rest.map fun v => v.category).sum = W) (hf : rm.frames + 1 ≤ R.frames) (hl : W + (mL + 11) + rm.locals ≤ R.locals) (hk : k + rm.cells = k') (hk' : k' ≤ R.cells) (hn : n + rm.slots = n') (hn' : n' ≤ R.slots)
    (r : ∀ (z : Value) h', Q z h' → RunG G p l e R s m args below meth c n0 P h' k' n' pc' Ls (z :: rest)) : RunG G p l e R s m args below meth c n0 P h k n pc Ls st :=
  s_callV C hd hp wl wd hnf wsel wi wz wc hy E as rest hdes hlen hst M hs hW hf hl hk hk' hn hn' (fun v h' q => by obtain ⟨z, rfl, q⟩ := q; exact r z h' q)
theorem s_callV0 (C : Ctx p l e R s m args below meth c Z own cd maxL ret nm) {y z : MethodName} {K : String} {bytes : ByteArray} {mL i W k' n' : Nat} {rt : Option FieldType} {rm : Room} {b : Addr} {Q : Heap → Prop} (hd : decode cd pc = .ok (.invokevirtual i, 3)) (hp : pc + 3 = pc') (wl : (Jvm.Cond.methodLink own i y).before a0 Z = true) (wd : (Jvm.Cond.declares y).before a0 Z = true) (hnf : NotFace s y) (wsel : (Jvm.Cond.selects K y z).before a0 Z = true) (wi : (Jvm.Cond.instanceMethod z).before a0 Z = true) (wz : (Jvm.Cond.initialized z.cls).before a0 Z = true) (wc : (Jvm.Cond.code z bytes mL rt).before a0 Z = true) (hy : y.cls ≠ "java/lang/invoke/MethodHandle" ∧ y.cls ≠ "java/lang/invoke/VarHandle") (E : Exa Z h b K) (as rest : List Value) {ps : List FieldType} {rr : Option FieldType} (hdes : parseMethodDescriptor y.desc = some ⟨ps, rr⟩) (hlen : as.length = ps.length) (hst : st = as.reverse ++ .ref b :: rest)
    (M : Met l Z z bytes mL rt [] rm (.ref b :: as).toArray h n0 (Ret0 Q)) (hs : Ls.size = maxL) (hW : (rest.map fun v => v.category).sum = W) (hf : rm.frames + 1 ≤ R.frames) (hl : W + (mL + 11) + rm.locals ≤ R.locals) (hk : k + rm.cells = k') (hk' : k' ≤ R.cells) (hn : n + rm.slots = n') (hn' : n' ≤ R.slots)
    (r : ∀ h', Q h' → RunG G p l e R s m args below meth c n0 P h' k' n' pc' Ls rest) : RunG G p l e R s m args below meth c n0 P h k n pc Ls st :=
  s_callV C hd hp wl wd hnf wsel wi wz wc hy E as rest hdes hlen hst M hs hW hf hl hk hk' hn hn' (fun v h' q => by obtain ⟨rfl, q⟩ := q; exact r h' q)
/-! arrays: exactly these values -/
def Av (Z : State) (h : Heap) (a : Addr) (ty : FieldType) (vs : List Value) : Prop := ∃ cl : Cell, Arr Z h a cl ty ∧ cl.slots = vs.toArray ∧ vs.length < 2 ^ 31 ∧ ∀ v ∈ vs, fits ty v = true
theorem Av.lt {h : Heap} {a : Addr} {ty : FieldType} {vs : List Value} (V : Av Z h a ty vs) : a < h.size := by obtain ⟨cl, A, -⟩ := V; exact A.lt
theorem Av.ext {h h' : Heap} {a : Addr} {ty : FieldType} {vs : List Value} (V : Av Z h a ty vs) (E : Ext h h') : Av Z h' a ty vs := by obtain ⟨cl, A, r⟩ := V; exact ⟨cl, A.ext E, r⟩
theorem Av.other {h h' : Heap} {a b : Addr} {ty : FieldType} {vs : List Value} {sl : Nat} {v : Value} (V : Av Z h b ty vs) (W : Wr h h' a sl v) (q : b ≠ a) : Av Z h' b ty vs := by obtain ⟨cl, A, r⟩ := V; exact ⟨cl, A.other W q, r⟩
theorem Av.keep {h h' : Heap} {a : Addr} {ty : FieldType} {vs : List Value} {ws : List Addr} (V : Av Z h a ty vs) (K : Keep h h' ws) (q : a ∉ ws) : Av Z h' a ty vs := by obtain ⟨cl, A, r⟩ := V; exact ⟨cl, ⟨K.2.1 a cl A.1 q, A.2⟩, r⟩
theorem Av.set {h h' : Heap} {a : Addr} {ty : FieldType} {vs : List Value} {i : Nat} {v : Value} (V : Av Z h a ty vs) (W : Wr h h' a i v) (hf : fits ty v = true) : Av Z h' a ty (vs.set i v) := by
  obtain ⟨cl, A, hs, hl, hq⟩ := V
  exact ⟨_, A.same W, by simp [Cell.setSlot, hs], by simpa using hl, fun u hu => (List.mem_or_eq_of_mem_set hu).elim (hq u) (fun e => e ▸ hf)⟩
theorem fits_default (ty : FieldType) : fits ty (defaultValue ty) = true := by cases ty <;> first | rfl | decide
theorem Av.new {h : Heap} {a : Addr} {cA : ClassId} {ty : FieldType} {z : Int32} (A : Arr Z h a (newA cA ty z) ty) : Av Z h a ty (List.replicate z.toNatClampNeg (defaultValue ty)) := ⟨_, A, by simp [newA], by rw [List.length_replicate]; have := z.toInt_lt; simp only [Int32.toNatClampNeg]; omega, fun v hv => (List.eq_of_mem_replicate hv) ▸ fits_default ty⟩
theorem getD_toArray (vs : List Value) (i : Nat) (dv : Value) (hi : i < vs.length) : vs.toArray[i]? = some (vs.getD i dv) := by
  simp [List.getD_eq_getElem?_getD, List.getElem?_eq_getElem hi]
theorem len32 {n : Nat} (h : n < 2 ^ 31) : n.toInt32.toNatClampNeg = n ∧ ¬ n.toInt32 < 0 := by
  have e : n.toInt32.toInt = n := len_toInt (by omega)
  constructor
  · simp [Int32.toNatClampNeg, e]
  · rw [Int32.lt_iff_toInt_lt, e]; simp only [Int32.reduceToInt]; omega
theorem Av.arv {h : Heap} {a : Addr} {ty : FieldType} {vs : List Value} (dv : Value) (V : Av Z h a ty vs) : ∃ k, Arv Z h a k ty vs.length.toInt32 vs dv := by
  obtain ⟨cl, A, hs, hl, hq⟩ := V
  have e := len32 hl
  refine ⟨cl.cls, cl, A, rfl, by rw [e.1, hs]; simp, e.2, fun i hi => ?_, fun i hi => ?_⟩
  · rw [hs] at hi ⊢; exact getD_toArray vs i dv (by simpa using hi)
  · rw [hs] at hi
    have hi' : i < vs.length := by simpa using hi
    rw [List.getD_eq_getElem?_getD, List.getElem?_eq_getElem hi']
    exact hq _ (List.getElem_mem hi')
theorem Av.of_arv {h : Heap} {a : Addr} {k : ClassId} {ty : FieldType} {z : Int32} {vs : List Value} {dv : Value} (V : Arv Z h a k ty z vs dv) (hl : vs.length = z.toNatClampNeg) : Av Z h a ty vs := by
  obtain ⟨cl, A, -, hs, hz, hh, hf⟩ := V
  have e : cl.slots.size = vs.length := by rw [hs, hl]
  refine ⟨cl, A, ?_, by have := z.toInt_lt; rw [hl]; simp only [Int32.toNatClampNeg]; omega, fun v hv => ?_⟩
  · apply Array.ext_getElem?
    intro i
    by_cases hi : i < vs.length
    · rw [hh i (by omega)]; exact (getD_toArray vs i dv hi).symm
    · rw [Array.getElem?_eq_none (by omega), Array.getElem?_eq_none (by simpa using hi)]
  · obtain ⟨i, hi, rfl⟩ := List.getElem_of_mem hv
    have q := hf i (by omega)
    rwa [List.getD_eq_getElem?_getD, List.getElem?_eq_getElem hi] at q
theorem idx_n {j : Int32} {i : Nat} (hi : j.toInt = (i : Int)) : j.toNatClampNeg = i ∧ ¬ j < 0 := by
  constructor
  · simp [Int32.toNatClampNeg, hi]
  · rw [Int32.lt_iff_toInt_lt, hi]; simp only [Int32.reduceToInt]; omega
theorem s_newarr (C : Ctx p l e R s m args below meth c Z own cd maxL ret nm) {aty : ArrayType} {z : Int32} {k' n' cap : Nat} (hd : decode cd pc = .ok (.newarray aty, 2)) (hp : pc + 2 = pc') (w : (Jvm.Cond.arrayClass (newarray.typeOf aty)).before a0 Z = true) (hz : ¬ z < 0) (hcap : z.toNatClampNeg ≤ cap) (hcb : cap * 8 ≤ 536870912) (hk : k + 1 = k') (hk' : k' ≤ R.cells) (hn : n + cap = n') (hn' : n' ≤ R.slots) (vs : List Value) (hvs : List.replicate z.toNatClampNeg (defaultValue (newarray.typeOf aty)) = vs)
    (r : ∀ h' a, Ext h h' → a = h.size → Av Z h' a (newarray.typeOf aty) vs → RunG G p l e R s m args below meth c n0 P h' k' n' pc' Ls (.ref a :: st)) : RunG G p l e R s m args below meth c n0 P h k n pc Ls (.int z :: st) := by
  subst hp hk hn hvs
  intro T locs X eT N
  obtain ⟨T', h', cA, X', e', E, A, q⟩ := newP X C.1 C.2.1 w eT (g := mkF m pc Ls (.int z :: st)) rfl (hb C.2.2.1 hd) rfl hz hcap hcb hk' hn'
  obtain ⟨s₂, o, z, r⟩ := r h' _ E rfl (Av.new A) T' _ X' e' N
  exact ⟨s₂, o, q _ z, r⟩
theorem s_newarrE (C : Ctx p l e R s m args below meth c Z own cd maxL ret nm) {aty : ArrayType} {z : Int32} {k' n' cap : Nat} (hd : decode cd pc = .ok (.newarray aty, 2)) (hp : pc + 2 = pc') (w : (Jvm.Cond.arrayClass (newarray.typeOf aty)).before a0 Z = true) (hz : ¬ z < 0) (hcap : z.toNatClampNeg ≤ cap) (hcb : cap * 8 ≤ 536870912) (hk : k + 1 = k') (hk' : k' ≤ R.cells) (hn : n + cap = n') (hn' : n' ≤ R.slots) (vs : List Value) (hvs : List.replicate z.toNatClampNeg (defaultValue (newarray.typeOf aty)) = vs) (ad : String) (had : "[" ++ (newarray.typeOf aty).toString = ad)
    (r : ∀ h' a, Ext h h' → a = h.size → Av Z h' a (newarray.typeOf aty) vs → Exa Z h' a ad → RunG G p l e R s m args below meth c n0 P h' k' n' pc' Ls (.ref a :: st)) : RunG G p l e R s m args below meth c n0 P h k n pc Ls (.int z :: st) := by
  subst hp hk hn hvs
  intro T locs X eT N
  obtain ⟨T', h', cA, X', e', E, A, Ex, q⟩ := newPE X C.1 C.2.1 w eT (g := mkF m pc Ls (.int z :: st)) rfl (hb C.2.2.1 hd) rfl hz hcap hcb hk' hn' had
  obtain ⟨s₂, o, z, r⟩ := r h' _ E rfl (Av.new A) Ex T' _ X' e' N
  exact ⟨s₂, o, q _ z, r⟩
theorem s_newref (C : Ctx p l e R s m args below meth c Z own cd maxL ret nm) {K : String} {i : Nat} {z : Int32} {k' n' cap : Nat} (hd : decode cd pc = .ok (.anewarray i, 3)) (hp : pc + 3 = pc') (w1 : (Jvm.Cond.classLink own i K).before a0 Z = true) (w2 : (Jvm.Cond.arrayOver (.object K)).before a0 Z = true) (hz : ¬ z < 0) (hcap : z.toNatClampNeg ≤ cap) (hcb : cap * 8 ≤ 536870912) (hk : k + 1 = k') (hk' : k' ≤ R.cells) (hn : n + cap = n') (hn' : n' ≤ R.slots) (vs : List Value) (hvs : List.replicate z.toNatClampNeg Value.null = vs)
    (r : ∀ h' a cA, Ext h h' → a = h.size → Av Z h' a (.object K) vs → Arr Z h' a (newA cA (.object K) z) (.object K) → Ovr Z cA K → RunG G p l e R s m args below meth c n0 P h' k' n' pc' Ls (.ref a :: st)) : RunG G p l e R s m args below meth c n0 P h k n pc Ls (.int z :: st) := by
  subst hp hk hn hvs
  intro T locs X eT N
  obtain ⟨T', h', cA, X', e', E, A, O, q⟩ := newR X C.1 C.2.1 C.2.2.2.2.1 w1 w2 eT (g := mkF m pc Ls (.int z :: st)) rfl (hb C.2.2.1 hd) rfl hz hcap hcb hk' hn'
  obtain ⟨s₂, o, z, r⟩ := r h' _ cA E rfl (Av.new A) A O T' _ X' e' N
  exact ⟨s₂, o, q _ z, r⟩
theorem s_foldI (C : Ctx p l e R s m args below meth c Z own cd maxL ret nm) {x y : Int32} (hx : x = y) (r : RunG G p l e R s m args below meth c n0 P h k n pc Ls (.int y :: st)) : RunG G p l e R s m args below meth c n0 P h k n pc Ls (.int x :: st) := hx ▸ r
theorem s_foldL (C : Ctx p l e R s m args below meth c Z own cd maxL ret nm) {x y : Int64} (hx : x = y) (r : RunG G p l e R s m args below meth c n0 P h k n pc Ls (.long y :: st)) : RunG G p l e R s m args below meth c n0 P h k n pc Ls (.long x :: st) := hx ▸ r
theorem s_arraycopy (C : Ctx p l e R s m args below meth c Z own cd maxL ret nm) {i W : Nat} {ty : FieldType} {a b : Addr} {vs vd : List Value} {sp dp nn : Int32} (hd : decode cd pc = .ok (.invokestatic i, 3)) (hp : pc + 3 = pc') (w1 : (Jvm.Cond.methodLink own i Jvm.Stand.acN).before a0 Z = true) (w2 : (Jvm.Cond.native Jvm.Stand.acN).before a0 Z = true) (w3 : (Jvm.Cond.static Jvm.Stand.acN).before a0 Z = true) (w4 : (Jvm.Cond.initialized "java/lang/System").before a0 Z = true) (A : Av Z h a ty vs) (B : Av Z h b ty vd) (hty : refKind ty = false) (si di ni : Nat) (h1 : sp.toInt = (si : Int)) (h2 : dp.toInt = (di : Int)) (h3 : nn.toInt = (ni : Int)) (h4 : si + ni ≤ vs.length) (h5 : di + ni ≤ vd.length) (ge : n0 ≤ b) (hs : Ls.size = maxL) (hf : 1 ≤ R.frames) (hW : (st.map fun v => v.category).sum = W) (hlo : W + (nativeFrameWords "java/lang/System" "arraycopy" 5 + 11) ≤ R.locals) (vd' : List Value) (hvd : vd.take di ++ (vs.drop si).take ni ++ vd.drop (di + ni) = vd')
    (r : ∀ h', Keep h h' [b] → Av Z h' b ty vd' → RunG G p l e R s m args below meth c n0 P h' k n pc' Ls st) : RunG G p l e R s m args below meth c n0 P h k n pc Ls (.int nn :: .int dp :: .ref b :: .int sp :: .ref a :: st) := by
  subst hp hvd
  obtain ⟨e1, g1⟩ := idx_n h1
  obtain ⟨e2, g2⟩ := idx_n h2
  obtain ⟨e3, g3⟩ := idx_n h3
  have la := A
  have lb := B
  obtain ⟨_, -, -, la, -⟩ := la
  obtain ⟨_, -, -, lb, -⟩ := lb
  obtain ⟨ka, A'⟩ := A.arv Value.null
  obtain ⟨kb, B'⟩ := B.arv Value.null
  intro T locs X eT N
  have hus : (vs.drop si).take ni = (List.range nn.toNatClampNeg).map fun i => vs.getD (sp.toNatClampNeg + i) Value.null := by
    rw [e1, e3]
    apply List.ext_getElem
    · simp; omega
    · intro j q1 q2
      have q3 : j < ni := by simpa using q2
      simp [List.getD_eq_getElem?_getD, List.getElem?_eq_getElem (show si + j < vs.length by omega)]
  obtain ⟨T', h', L, X', e', N', K, V', q⟩ := cpA X C.1 C.2.1 C.2.2.2.2.1 w1 w2 w3 w4 eT A' B' (Or.inl ⟨rfl, hty⟩) g1 g2 g3 (by rw [e1, e3, (len32 la).1]; exact h4) (by rw [e2, e3, (len32 lb).1]; exact h5) hus (by rw [e2, e3]; exact h5) N ge (g := mkF m pc Ls (.int nn :: .int dp :: .ref b :: .int sp :: .ref a :: st)) rfl (by rw [C.2.2.2.1]; exact hs) rfl (hb C.2.2.1 hd) hf (W := W) (by show 2 * 0 + _ ≤ _; omega) hlo
  rw [e2, e3] at V'
  obtain ⟨s₂, o, z, r⟩ := r h' K (Av.of_arv V' (by rw [(len32 lb).1]; simp; omega)) T' _ X' e' N'
  exact ⟨s₂, o, q _ z, r⟩
theorem s_clone (C : Ctx p l e R s m args below meth c Z own cd maxL ret nm) {i W k' n' cap : Nat} {ty : FieldType} {ad : String} {a : Addr} {vs : List Value} (hd : decode cd pc = .ok (.invokevirtual i, 3)) (hp : pc + 3 = pc') (w1 : (Jvm.Cond.methodLink own i ⟨ad, "clone", "()Ljava/lang/Object;"⟩).before a0 Z = true) (w2 : (Jvm.Cond.sameMethod ad "java/lang/Object" "clone" "()Ljava/lang/Object;").before a0 Z = true) (w3 : (Jvm.Cond.native ⟨"java/lang/Object", "clone", "()Ljava/lang/Object;"⟩).before a0 Z = true) (w4 : (Jvm.Cond.instanceMethod ⟨"java/lang/Object", "clone", "()Ljava/lang/Object;"⟩).before a0 Z = true) (w5 : (Jvm.Cond.selects ad ⟨ad, "clone", "()Ljava/lang/Object;"⟩ ⟨"java/lang/Object", "clone", "()Ljava/lang/Object;"⟩).before a0 Z = true) (w6 : (Jvm.Cond.castable ad "java/lang/Cloneable").before a0 Z = true) (V : Av Z h a ty vs) (E : Exa Z h a ad) (hs : Ls.size = maxL) (hf : 1 ≤ R.frames) (hW : (st.map fun v => v.category).sum = W) (hl : W + 14 ≤ R.locals) (hcap : vs.length ≤ cap) (hk : k + 1 = k') (hk' : k' ≤ R.cells) (hn : n + cap = n') (hn' : n' ≤ R.slots)
    (r : ∀ h' b, Ext h h' → b = h.size → Av Z h' b ty vs → Exa Z h' b ad → RunG G p l e R s m args below meth c n0 P h' k' n' pc' Ls (.ref b :: st)) : RunG G p l e R s m args below meth c n0 P h k n pc Ls (.ref a :: st) := by
  subst hp hk hn
  have la := V
  obtain ⟨_, -, -, la, -⟩ := la
  obtain ⟨ka, A'⟩ := V.arv Value.null
  intro T locs X eT N
  obtain ⟨T', h', X', e', Ex, V', E', q⟩ := cloneH X C.1 C.2.1 C.2.2.2.2.1 w1 w2 w3 w4 w5 w6 eT A'.arh E (g := mkF m pc Ls (.ref a :: st)) rfl (by rw [C.2.2.2.1]; exact hs) rfl (hb C.2.2.1 hd) hf (W := W) (cap := cap) (by show 2 * 0 + _ ≤ _; omega) hl (by rw [(len32 la).1]; exact hcap) hk' hn'
  obtain ⟨s₂, o, z, r⟩ := r h' _ Ex rfl (Av.of_arv (dv := Value.null) V' (len32 la).1.symm) E' T' _ X' e' N
  exact ⟨s₂, o, q _ z, r⟩
theorem s_length (C : Ctx p l e R s m args below meth c Z own cd maxL ret nm) {ty : FieldType} {a : Addr} {vs : List Value} (hd : decode cd pc = .ok (.arraylength, 1)) (hp : pc + 1 = pc') (V : Av Z h a ty vs) (z : Int32) (hz : vs.length.toInt32 = z) (r : RunG G p l e R s m args below meth c n0 P h k n pc' Ls (.int z :: st)) : RunG G p l e R s m args below meth c n0 P h k n pc Ls (.ref a :: st) := by
  subst hp hz
  obtain ⟨cl, A, hs, hl, -⟩ := V
  have e1 : cl.slots.size = vs.length := by simp [hs]
  refine Run.pure (fun T locs X eT t z => X.arraylength C.1 (by rw [eT]; exact A.1) (State.isArrayOf_alike C.2.1.alike A.2.1) (g := mkF m pc Ls (.ref a :: st)) rfl rfl (hb C.2.2.1 hd) _ (by rw [e1]; exact z)) r
theorem s_iaload (C : Ctx p l e R s m args below meth c Z own cd maxL ret nm) {a : Addr} {vs : List Value} {j : Int32} {x : Int32} (hd : decode cd pc = .ok (.iaload, 1)) (hp : pc + 1 = pc') (V : Av Z h a .int vs) (i : Nat) (hi : j.toInt = (i : Int)) (hv : vs[i]? = some (.int x)) (r : RunG G p l e R s m args below meth c n0 P h k n pc' Ls ((.int x) :: st)) : RunG G p l e R s m args below meth c n0 P h k n pc Ls (.int j :: .ref a :: st) := by
  subst hp
  obtain ⟨cl, A, hs, hl, -⟩ := V
  obtain ⟨e1, e2⟩ := idx_n hi
  have e3 : i < vs.length := (List.getElem?_eq_some_iff.mp hv).1
  refine Run.pure (fun T locs X eT t z => X.iaload C.1 (by rw [eT]; exact A.1) (State.isArrayOf_alike C.2.1.alike A.2.1) A.2.2 (by rw [e1, hs]; rintro (q | q); exact e2 q; simp at q; omega) (by rw [e1, hs]; simpa using hv) (g := mkF m pc Ls (.int j :: .ref a :: st)) rfl rfl (hb C.2.2.1 hd) _ z) r
theorem s_laload (C : Ctx p l e R s m args below meth c Z own cd maxL ret nm) {a : Addr} {vs : List Value} {j : Int32} {x : Int64} (hd : decode cd pc = .ok (.laload, 1)) (hp : pc + 1 = pc') (V : Av Z h a .long vs) (i : Nat) (hi : j.toInt = (i : Int)) (hv : vs[i]? = some (.long x)) (r : RunG G p l e R s m args below meth c n0 P h k n pc' Ls ((.long x) :: st)) : RunG G p l e R s m args below meth c n0 P h k n pc Ls (.int j :: .ref a :: st) := by
  subst hp
  obtain ⟨cl, A, hs, hl, -⟩ := V
  obtain ⟨e1, e2⟩ := idx_n hi
  have e3 : i < vs.length := (List.getElem?_eq_some_iff.mp hv).1
  refine Run.pure (fun T locs X eT t z => X.laload C.1 (by rw [eT]; exact A.1) (State.isArrayOf_alike C.2.1.alike A.2.1) A.2.2 (by rw [e1, hs]; rintro (q | q); exact e2 q; simp at q; omega) (by rw [e1, hs]; simpa using hv) (g := mkF m pc Ls (.int j :: .ref a :: st)) rfl rfl (hb C.2.2.1 hd) _ z) r
theorem s_baload (C : Ctx p l e R s m args below meth c Z own cd maxL ret nm) {a : Addr} {vs : List Value} {j : Int32} {x : Int32} (hd : decode cd pc = .ok (.baload, 1)) (hp : pc + 1 = pc') (V : Av Z h a .byte vs) (i : Nat) (hi : j.toInt = (i : Int)) (hv : vs[i]? = some (.int x)) (r : RunG G p l e R s m args below meth c n0 P h k n pc' Ls ((.int x) :: st)) : RunG G p l e R s m args below meth c n0 P h k n pc Ls (.int j :: .ref a :: st) := by
  subst hp
  obtain ⟨cl, A, hs, hl, -⟩ := V
  obtain ⟨e1, e2⟩ := idx_n hi
  have e3 : i < vs.length := (List.getElem?_eq_some_iff.mp hv).1
  refine Run.pure (fun T locs X eT t z => X.baloadBytes C.1 (by rw [eT]; exact A.1) (State.isArrayOf_alike C.2.1.alike A.2.1) A.2.2 (by rw [e1, hs]; rintro (q | q); exact e2 q; simp at q; omega) (by rw [e1, hs]; simpa using hv) (g := mkF m pc Ls (.int j :: .ref a :: st)) rfl rfl (hb C.2.2.1 hd) _ z) r
theorem s_caload (C : Ctx p l e R s m args below meth c Z own cd maxL ret nm) {a : Addr} {vs : List Value} {j : Int32} {x : Int32} (hd : decode cd pc = .ok (.caload, 1)) (hp : pc + 1 = pc') (V : Av Z h a .char vs) (i : Nat) (hi : j.toInt = (i : Int)) (hv : vs[i]? = some (.int x)) (r : RunG G p l e R s m args below meth c n0 P h k n pc' Ls ((.int x) :: st)) : RunG G p l e R s m args below meth c n0 P h k n pc Ls (.int j :: .ref a :: st) := by
  subst hp
  obtain ⟨cl, A, hs, hl, -⟩ := V
  obtain ⟨e1, e2⟩ := idx_n hi
  have e3 : i < vs.length := (List.getElem?_eq_some_iff.mp hv).1
  refine Run.pure (fun T locs X eT t z => X.caload C.1 (by rw [eT]; exact A.1) (State.isArrayOf_alike C.2.1.alike A.2.1) A.2.2 (by rw [e1, hs]; rintro (q | q); exact e2 q; simp at q; omega) (by rw [e1, hs]; simpa using hv) (g := mkF m pc Ls (.int j :: .ref a :: st)) rfl rfl (hb C.2.2.1 hd) _ z) r
theorem s_aaload (C : Ctx p l e R s m args below meth c Z own cd maxL ret nm) {a : Addr} {vs : List Value} {j : Int32} {x : Value} {ty : FieldType} (hty : ty.isReference = true) (hd : decode cd pc = .ok (.aaload, 1)) (hp : pc + 1 = pc') (V : Av Z h a ty vs) (i : Nat) (hi : j.toInt = (i : Int)) (hv : vs[i]? = some x) (r : RunG G p l e R s m args below meth c n0 P h k n pc' Ls (x :: st)) : RunG G p l e R s m args below meth c n0 P h k n pc Ls (.int j :: .ref a :: st) := by
  subst hp
  obtain ⟨cl, A, hs, hl, -⟩ := V
  obtain ⟨e1, e2⟩ := idx_n hi
  have e3 : i < vs.length := (List.getElem?_eq_some_iff.mp hv).1
  refine Run.pure (fun T locs X eT t z => X.aaload C.1 (by rw [eT]; exact A.1) (State.isArrayOf_alike C.2.1.alike A.2.1) hty A.2.2 (by rw [e1, hs]; rintro (q | q); exact e2 q; simp at q; omega) (by rw [e1, hs]; simpa using hv) (g := mkF m pc Ls (.int j :: .ref a :: st)) rfl rfl (hb C.2.2.1 hd) _ z) r
def OvA (Z : State) (h : Heap) (a : Addr) (K : String) : Prop := ∃ cl : Cell, Arr Z h a cl (.object K) ∧ Ovr Z cl.cls K
theorem OvA.keep {h h' : Heap} {a : Addr} {K : String} {ws : List Addr} (F : OvA Z h a K) (Kp : Keep h h' ws) : OvA Z h' a K := by
  obtain ⟨cl, A, O⟩ := F
  obtain ⟨c', h1, h2, h3, h4⟩ := Kp.2.2 a cl A.1
  exact ⟨c', ⟨h1, ⟨by rw [h3]; exact A.2.1.1, by rw [h2]; exact A.2.1.2⟩, by rw [h3]; exact A.2.2⟩, h2 ▸ O⟩
theorem OvA.lt {h : Heap} {a : Addr} {K : String} (F : OvA Z h a K) : a < h.size := by obtain ⟨cl, A, -⟩ := F; exact A.lt
theorem OvA.sto {h : Heap} {a y : Addr} {K : String} (F : OvA Z h a K) (I : Ins Z h y K true) : Sto Z h a (.ref y) := by obtain ⟨cl, A, O⟩ := F; exact Sto.of A O I
theorem s_instNull (C : Ctx p l e R s m args below meth c Z own cd maxL ret nm) {i : Nat} (hd : decode cd pc = .ok (.instanceof i, 3)) (hp : pc + 3 = pc') (r : RunG G p l e R s m args below meth c n0 P h k n pc' Ls (.int 0 :: st)) : RunG G p l e R s m args below meth c n0 P h k n pc Ls (.null :: st) := by
  subst hp; exact Run.pure (fun T locs X _ t z => X.instanceofNull C.1 (g := mkF m pc Ls (.null :: st)) rfl rfl (hb C.2.2.1 hd) _ z) r
theorem s_instNo (C : Ctx p l e R s m args below meth c Z own cd maxL ret nm) {K Kc : String} {i : Nat} {a : Addr} (hd : decode cd pc = .ok (.instanceof i, 3)) (hp : pc + 3 = pc') (w : (Jvm.Cond.classLink own i K).before a0 Z = true) (E : Exa Z h a Kc) (F : ∃ c t, Z.vm.findClass Kc = some c ∧ Z.vm.findClass K = some t ∧ Z.vm.assignable c t = false) (r : RunG G p l e R s m args below meth c n0 P h k n pc' Ls (.int 0 :: st)) : RunG G p l e R s m args below meth c n0 P h k n pc Ls (.ref a :: st) := by
  subst hp; exact Run.warm (fun T locs X eT => instNo X C.1 C.2.1 C.2.2.2.2.1 w eT E F (g := mkF m pc Ls (.ref a :: st)) rfl rfl (hb C.2.2.1 hd)) r
theorem ns_root {O K : String} {q : Nat} (w : (Jvm.Cond.noSuperclass O).before a0 Z = true) (wi : (Jvm.Cond.instantiable K q).before a0 Z = true) (hn : O ≠ K) : NS Z O K := by
  obtain ⟨c, k, h1, h2, h3, -, -⟩ := Cond.noSuperclass_spec w
  obtain ⟨t, kt, g1, -⟩ := Cond.instantiable_spec wi
  exact ⟨c, t, h1, g1, fun fuel => by cases fuel with | zero => rfl | succ f => simp [Vm.isSubclassAux, ids_ne h1 g1 hn, h2, h3]⟩
theorem ns_no {C' S' K : String} {q : Nat} (w : (Jvm.Cond.superclass C' S').before a0 Z = true) (wi : (Jvm.Cond.instantiable K q).before a0 Z = true) (nn : NS Z C' K) (hn : C' ≠ K) : ∃ c t, Z.vm.findClass C' = some c ∧ Z.vm.findClass K = some t ∧ Z.vm.assignable c t = false := by
  obtain ⟨c, t, h0, g0, n3⟩ := nn
  obtain ⟨_, k, _, -, h2, -, -, h5, -⟩ := Cond.superclass_spec h0 w
  obtain ⟨t', kt, g1, g2, g5, g6, -⟩ := Cond.instantiable_spec wi
  cases g0.symm.trans g1
  refine ⟨c, t, h0, g0, ?_⟩
  have g7 : kt.isInterface = false := (Bool.or_eq_false_iff.mp g6).1
  show Z.vm.assignableAux 256 c t = false
  simp [Vm.assignableAux, ids_ne h0 g0 hn, h2, g2, h5, g5, g7, Vm.isSubclass, n3]
theorem s_aastore (C : Ctx p l e R s m args below meth c Z own cd maxL ret nm) {a : Addr} {ty : FieldType} {vs : List Value} {j : Int32} {v : Value} (hty : ty.isReference = true) (hd : decode cd pc = .ok (.aastore, 1)) (hp : pc + 1 = pc') (V : Av Z h a ty vs) (F : Sto Z h a v) (hfv : fits ty v = true) (i : Nat) (hi : j.toInt = (i : Int)) (hlt : i < vs.length) (ha : n0 ≤ a) (vs' : List Value) (hvs : vs.set i v = vs') (r : ∀ h', Wr h h' a i v → Av Z h' a ty vs' → RunG G p l e R s m args below meth c n0 P h' k n pc' Ls st) : RunG G p l e R s m args below meth c n0 P h k n pc Ls (v :: .int j :: .ref a :: st) := by
  subst hp hvs
  have V0 := V
  obtain ⟨cl, A, hs, hl, -⟩ := V
  obtain ⟨e1, e2⟩ := idx_n hi
  subst e1
  intro T locs X eT N
  obtain ⟨T', h', X', e', W, q⟩ := stR X C.1 C.2.1 eT A (j := j) (by rw [hs]; rintro (q | q); exact e2 q; simp at q; omega) hty F (g := mkF m pc Ls (v :: .int j :: .ref a :: st)) rfl rfl (hb C.2.2.1 hd)
  obtain ⟨s₂, o, z, r⟩ := r h' W (V0.set W hfv) T' _ X' e' (Fr.snoc X' N ha)
  exact ⟨s₂, o, q _ z, r⟩
theorem s_baloadC (C : Ctx p l e R s m args below meth c Z own cd maxL ret nm) {a : Addr} {cl : Cell} {j x : Int32} (hd : decode cd pc = .ok (.baload, 1)) (hp : pc + 1 = pc') (A : Arr Z h a cl .byte) (hin : ¬ (j < 0 ∨ cl.slots.size ≤ j.toNatClampNeg)) (hv : cl.slots[j.toNatClampNeg]? = some (.int x)) (r : RunG G p l e R s m args below meth c n0 P h k n pc' Ls (.int x :: st)) : RunG G p l e R s m args below meth c n0 P h k n pc Ls (.int j :: .ref a :: st) := by
  subst hp
  exact Run.pure (fun T locs X eT t z => X.baloadBytes C.1 (by rw [eT]; exact A.1) (State.isArrayOf_alike C.2.1.alike A.2.1) A.2.2 hin hv (g := mkF m pc Ls (.int j :: .ref a :: st)) rfl rfl (hb C.2.2.1 hd) _ z) r
theorem s_aaloadC (C : Ctx p l e R s m args below meth c Z own cd maxL ret nm) {a : Addr} {cl : Cell} {ty : FieldType} {j : Int32} {x : Value} (hty : ty.isReference = true) (hd : decode cd pc = .ok (.aaload, 1)) (hp : pc + 1 = pc') (A : Arr Z h a cl ty) (hin : ¬ (j < 0 ∨ cl.slots.size ≤ j.toNatClampNeg)) (hv : cl.slots[j.toNatClampNeg]? = some x) (r : RunG G p l e R s m args below meth c n0 P h k n pc' Ls (x :: st)) : RunG G p l e R s m args below meth c n0 P h k n pc Ls (.int j :: .ref a :: st) := by
  subst hp
  exact Run.pure (fun T locs X eT t z => X.aaload C.1 (by rw [eT]; exact A.1) (State.isArrayOf_alike C.2.1.alike A.2.1) hty A.2.2 hin hv (g := mkF m pc Ls (.int j :: .ref a :: st)) rfl rfl (hb C.2.2.1 hd) _ z) r
theorem s_iastore (C : Ctx p l e R s m args below meth c Z own cd maxL ret nm) {a : Addr} {vs : List Value} {j : Int32} {x : Int32} (hd : decode cd pc = .ok (.iastore, 1)) (hp : pc + 1 = pc') (V : Av Z h a .int vs) (i : Nat) (hi : j.toInt = (i : Int)) (hlt : i < vs.length) (ha : n0 ≤ a) (vs' : List Value) (hvs : vs.set i (.int x) = vs') (r : ∀ h', Wr h h' a i (.int x) → Av Z h' a .int vs' → RunG G p l e R s m args below meth c n0 P h' k n pc' Ls st) : RunG G p l e R s m args below meth c n0 P h k n pc Ls ((.int x) :: .int j :: .ref a :: st) := by
  subst hp hvs
  have V0 := V
  obtain ⟨cl, A, hs, hl, -⟩ := V
  obtain ⟨e1, e2⟩ := idx_n hi
  subst e1
  intro T locs X eT N
  obtain ⟨T', h', X', e', W, q⟩ := stI X C.1 C.2.1 eT A (j := j) (by rw [hs]; rintro (q | q); exact e2 q; simp at q; omega) (g := mkF m pc Ls ((.int x) :: .int j :: .ref a :: st)) rfl rfl (hb C.2.2.1 hd)
  obtain ⟨s₂, o, z, r⟩ := r h' W (V0.set W rfl) T' _ X' e' (Fr.snoc X' N ha)
  exact ⟨s₂, o, q _ z, r⟩
theorem s_lastore (C : Ctx p l e R s m args below meth c Z own cd maxL ret nm) {a : Addr} {vs : List Value} {j : Int32} {x : Int64} (hd : decode cd pc = .ok (.lastore, 1)) (hp : pc + 1 = pc') (V : Av Z h a .long vs) (i : Nat) (hi : j.toInt = (i : Int)) (hlt : i < vs.length) (ha : n0 ≤ a) (vs' : List Value) (hvs : vs.set i (.long x) = vs') (r : ∀ h', Wr h h' a i (.long x) → Av Z h' a .long vs' → RunG G p l e R s m args below meth c n0 P h' k n pc' Ls st) : RunG G p l e R s m args below meth c n0 P h k n pc Ls ((.long x) :: .int j :: .ref a :: st) := by
  subst hp hvs
  have V0 := V
  obtain ⟨cl, A, hs, hl, -⟩ := V
  obtain ⟨e1, e2⟩ := idx_n hi
  subst e1
  intro T locs X eT N
  obtain ⟨T', h', X', e', W, q⟩ := stJ X C.1 C.2.1 eT A (j := j) (by rw [hs]; rintro (q | q); exact e2 q; simp at q; omega) (g := mkF m pc Ls ((.long x) :: .int j :: .ref a :: st)) rfl rfl (hb C.2.2.1 hd)
  obtain ⟨s₂, o, z, r⟩ := r h' W (V0.set W rfl) T' _ X' e' (Fr.snoc X' N ha)
  exact ⟨s₂, o, q _ z, r⟩
theorem s_bastore (C : Ctx p l e R s m args below meth c Z own cd maxL ret nm) {a : Addr} {vs : List Value} {j : Int32} {x : Int32} (hd : decode cd pc = .ok (.bastore, 1)) (hp : pc + 1 = pc') (V : Av Z h a .byte vs) (i : Nat) (hi : j.toInt = (i : Int)) (hlt : i < vs.length) (ha : n0 ≤ a) (vs' : List Value) (hvs : vs.set i (.int x.toInt8.toInt32) = vs') (r : ∀ h', Wr h h' a i (.int x.toInt8.toInt32) → Av Z h' a .byte vs' → RunG G p l e R s m args below meth c n0 P h' k n pc' Ls st) : RunG G p l e R s m args below meth c n0 P h k n pc Ls ((.int x) :: .int j :: .ref a :: st) := by
  subst hp hvs
  have V0 := V
  obtain ⟨cl, A, hs, hl, -⟩ := V
  obtain ⟨e1, e2⟩ := idx_n hi
  subst e1
  intro T locs X eT N
  obtain ⟨T', h', X', e', W, q⟩ := stB X C.1 C.2.1 eT A (j := j) (by rw [hs]; rintro (q | q); exact e2 q; simp at q; omega) (g := mkF m pc Ls ((.int x) :: .int j :: .ref a :: st)) rfl rfl (hb C.2.2.1 hd)
  obtain ⟨s₂, o, z, r⟩ := r h' W (V0.set W (fits_nar_byte _)) T' _ X' e' (Fr.snoc X' N ha)
  exact ⟨s₂, o, q _ z, r⟩
theorem s_castore (C : Ctx p l e R s m args below meth c Z own cd maxL ret nm) {a : Addr} {vs : List Value} {j : Int32} {x : Int32} (hd : decode cd pc = .ok (.castore, 1)) (hp : pc + 1 = pc') (V : Av Z h a .char vs) (i : Nat) (hi : j.toInt = (i : Int)) (hlt : i < vs.length) (ha : n0 ≤ a) (vs' : List Value) (hvs : vs.set i (.int x.toUInt32.toUInt16.toUInt32.toInt32) = vs') (r : ∀ h', Wr h h' a i (.int x.toUInt32.toUInt16.toUInt32.toInt32) → Av Z h' a .char vs' → RunG G p l e R s m args below meth c n0 P h' k n pc' Ls st) : RunG G p l e R s m args below meth c n0 P h k n pc Ls ((.int x) :: .int j :: .ref a :: st) := by
  subst hp hvs
  have V0 := V
  obtain ⟨cl, A, hs, hl, -⟩ := V
  obtain ⟨e1, e2⟩ := idx_n hi
  subst e1
  intro T locs X eT N
  obtain ⟨T', h', X', e', W, q⟩ := stC X C.1 C.2.1 eT A (j := j) (by rw [hs]; rintro (q | q); exact e2 q; simp at q; omega) (g := mkF m pc Ls ((.int x) :: .int j :: .ref a :: st)) rfl rfl (hb C.2.2.1 hd)
  obtain ⟨s₂, o, z, r⟩ := r h' W (V0.set W (fits_nar_char _)) T' _ X' e' (Fr.snoc X' N ha)
  exact ⟨s₂, o, q _ z, r⟩

theorem Run.wide (r : Run p l e R s m args below meth c n0 P h k n pc Ls st) : RunG (EndW s R) p l e R s m args below meth c n0 P h k n pc Ls st := fun T locs X eT N => by
  obtain ⟨s₂, o, h1, h2, h3, v, L, rfl, q, f⟩ := r T locs X eT N
  exact ⟨s₂, _, h1, h2, h3, v, L, rfl, q, ReturnedEndW.of_narrow f.1 f.2.1 f.2.2⟩
theorem Run.outW {vm1 : Vm} {k1 : Nat} {v : Option Value} (C : Ctx p l e R (s.setVm vm1) m args below meth c Z own cd maxL ret nm) (hS : s.Since vm1 k1) (hk1 : k1 ≤ h.size) (hv : ret = none → v = none) (f : ∀ T locs, Stand p l e R (s.setVm vm1) m args below meth c T locs k n → ∀ fs, (∀ (f : JFrame) (acts : List Action), f.method = m → f.locked = none → f.entered = [] → (doReturn e (T.setTop f) acts v).1 = T.setFrames fs) → Steps p.tables e below (T.setTop (mkF m pc Ls st)) (T.setFrames fs)) (hk : k ≤ R.cells) (hn : n ≤ R.slots) (hP : P v h) : RunG (EndW s R) p l e R (s.setVm vm1) m args below meth c n0 P h k n pc Ls st := fun T locs X eT N => by
  obtain ⟨fs, hr, hrun, hended, hE⟩ := X.leaveW hS (by rw [eT]; exact hk1) (v := v) (fun h => hv (C.2.2.2.2.2.1 ▸ h)) C.2.2.2.2.2.2.1
  exact ⟨_, _, f T locs X fs hr, hrun, hended, _, _, rfl, ⟨(by rw [show (T.setFrames fs).heap = h from eT]; exact hP), N⟩, hE.1, hE.2.1, hE.2.2.1, hE.2.2.2.mono hk hn⟩
theorem s_retNW {Q : Int32 → Heap → Prop} {vm1 : Vm} {k1 : Nat} {t : FieldType} (C : Ctx p l e R (s.setVm vm1) m args below meth c Z own cd maxL (some t) nm) (hS : s.Since vm1 k1) (hk1 : k1 ≤ h.size) (ht : t = .boolean ∨ t = .byte ∨ t = .char ∨ t = .short) {z : Int32} (hd : decode cd pc = .ok (.ireturn, 1)) (hk : k ≤ R.cells) (hn : n ≤ R.slots) (hQ : Q (nar t z) h) : RunG (EndW s R) p l e R (s.setVm vm1) m args below meth c n0 (RetI Q) h k n pc Ls (.int z :: st) :=
  Run.outW C hS hk1 (fun h => by cases h) (fun T locs X fs hr => retN X C.1 C.2.2.2.2.2.1 ht (hb C.2.2.1 hd) hr) hk hn ⟨_, rfl, hQ⟩
theorem s_ret0W {Q : Heap → Prop} {vm1 : Vm} {k1 : Nat} (C : Ctx p l e R (s.setVm vm1) m args below meth c Z own cd maxL none nm) (hS : s.Since vm1 k1) (hk1 : k1 ≤ h.size) (hd : decode cd pc = .ok (.return_, 1)) (hk : k ≤ R.cells) (hn : n ≤ R.slots) (hQ : Q h) : RunG (EndW s R) p l e R (s.setVm vm1) m args below meth c n0 (Ret0 Q) h k n pc Ls [] :=
  Run.outW C hS hk1 (fun _ => rfl) (fun T locs X fs hr => X.returnOut C.1 C.2.2.2.2.2.1 (hb C.2.2.1 hd) hr) hk hn ⟨rfl, hQ⟩
theorem s_ldcStr (C : Ctx p l e R s m args below meth c Z own cd maxL ret nm) {i k' n' nn : Nat} {text : String} (hd : decode cd pc = .ok (.ldc i, 2)) (hp : pc + 2 = pc') (w : (Jvm.Cond.stringLink own i text).before a0 Z = true) (wS : ∀ a ∈ Bundle.stringAtoms, a.before a0 Z = true) (hnn : 4 * text.toList.length ≤ nn) (hbig : nn ≤ 536870912) (hk : k + 2 = k') (hk' : k' ≤ R.cells) (hn : n + (nn + 4) = n') (hn' : n' ≤ R.slots)
    (r : ∀ vm1 k1 h' a, Ext h h' → s.Since vm1 k1 → k1 ≤ h'.size → Ctx p l e R (s.setVm vm1) m args below meth c Z own cd maxL ret nm → RunG G p l e R (s.setVm vm1) m args below meth c n0 P h' k' n' pc' Ls (.ref a :: st)) : RunG G p l e R s m args below meth c n0 P h k n pc Ls st := by
  subst hp hk hn
  intro T locs X eT N
  obtain ⟨a, T', h', k1, X', e', E, hS, hk1, hW, hf, q⟩ := ldcS (s := s) (vm0 := s.vm) X C.1 C.2.1 C.2.2.2.2.1 w wS eT (k0 := h.size) ((State.WarmedH.refl s).since _) (Nat.le_refl _) (g := mkF m pc Ls st) rfl (hb C.2.2.1 hd) hnn hbig hk' hn'
  obtain ⟨s₂, o, z, r⟩ := r T'.vm k1 h' a E hS hk1 ⟨C.1, hW, C.2.2.1, C.2.2.2.1, hf, C.2.2.2.2.2⟩ T' _ X' e' N
  exact ⟨s₂, o, q _ z, r⟩
theorem MetW.intro {y : MethodName} {bytes : ByteArray} {mL : Nat} {rt : Option FieldType} {ws : List Jvm.Cond} {rm : Room} {as : Array Value} (hpl : plainFor y = true) (ho : y.cls = own) (hn : y.name = nm) (ef : ∀ m, entryFrame m as mL = mkF m 0 Ls [])
    (body : ∀ p e s m below meth c, Ctx p l e rm s m as below meth c Z own bytes mL rt nm → RunG (EndW s rm) p l e rm s m as below meth c n0 P h 0 0 0 Ls []) : MetW l Z y bytes mL rt ws rm as h n0 P := by
  subst ho hn
  refine MetFree.of_bodySF hpl hisR ?_
  intro p e s m args below meth c s₁ Bd hml0 hP hK
  obtain ⟨rfl, hZ, hh⟩ := hP
  have X0 : Stand p l e rm s m args below meth c s₁ [] 0 0 := Stand.of_body Bd
  have e0 : s₁.heap = h := by rw [← hh, Bd.state]; rfl
  have hown : s.vm.findClass y.cls = some m.cls := findClass_of_methodNamed Bd.named
  obtain ⟨s₂, o, h1, h2⟩ := body p e s m below meth c ⟨Bd.exec, hZ, Bd.bytes, hml0, hown, Bd.returns, Bd.notSynchronized, (name_of_methodNamed Bd.named Bd.method).1⟩ s₁ [] X0 e0 (Fr.nil _)
  exact ⟨s₂, o, castTop (ef m) h1, h2⟩
theorem s_callIW (C : Ctx p l e R s m args below meth c Z own cd maxL ret nm) {y : MethodName} {bytes : ByteArray} {mL i W k' n' : Nat} {rm : Room} {b : Addr} {Q : Heap → Prop} (hd : decode cd pc = .ok (.invokespecial i, 3)) (hp : pc + 3 = pc') (wl : (Jvm.Cond.methodLink own i y).before a0 Z = true) (hy1 : y.name = "<init>") (wi : (Jvm.Cond.instanceMethod y).before a0 Z = true) (wz : (Jvm.Cond.initialized y.cls).before a0 Z = true) (wc : (Jvm.Cond.code y bytes mL none).before a0 Z = true) (hy : y.cls ≠ "java/lang/invoke/MethodHandle" ∧ y.cls ≠ "java/lang/invoke/VarHandle") (as rest : List Value) {ps : List FieldType} {rr : Option FieldType} (hdes : parseMethodDescriptor y.desc = some ⟨ps, rr⟩) (hlen : as.length = ps.length) (hst : st = as.reverse ++ .ref b :: rest)
    (M : MetW l Z y bytes mL none [] rm (.ref b :: as).toArray h n0 (Ret0 Q)) (hs : Ls.size = maxL) (hW : (rest.map fun v => v.category).sum = W) (hf : rm.frames + 1 ≤ R.frames) (hl : W + (mL + 11) + rm.locals ≤ R.locals) (hk : k + rm.cells = k') (hk' : k' ≤ R.cells) (hn : n + rm.slots = n') (hn' : n' ≤ R.slots)
    (r : ∀ vm1 k1 h', Q h' → s.Since vm1 k1 → k1 ≤ h'.size → Ctx p l e R (s.setVm vm1) m args below meth c Z own cd maxL ret nm → RunG G p l e R (s.setVm vm1) m args below meth c n0 P h' k' n' pc' Ls rest) : RunG G p l e R s m args below meth c n0 P h k n pc Ls st := by
  subst hp hk hn hst
  intro T locs X eT N
  obtain ⟨v, _, ⟨T', L', k', n'⟩, -, X', hS, hgr, ⟨Lc, ⟨⟨rfl, hQ⟩, N'⟩, l', y', z'⟩, q⟩ := X.specialBackS C.1 (y := y) hy1 C.2.2.2.2.1 (mvT C.2.1 wl) (mvT C.2.1 wi) (mvT C.2.1 wc) hy (backOfS (Q := fun v h L => Ret0 Q v h ∧ Fr n0 L) (W := W) M C.2.1 wc wz hf hl) (g := mkF m pc Ls (as.reverse ++ .ref b :: rest)) rfl (by rw [C.2.2.2.1]; exact hs) (Steps.refl _) (a := b) (argsL := as) (rest := rest) (lenOf hdes hlen) rfl (by show 2 * 0 + _ ≤ _; omega) (hb C.2.2.1 hd) (fun _ _ => ⟨rfl, eT, hk', hn'⟩)
  dsimp only [Pt.U, Pt.locs, Pt.cells, Pt.slots] at X' l' y' z' q hQ hS hgr
  subst l' y' z'
  obtain ⟨s₂, o, z, r⟩ := r T'.vm _ _ hQ hS (Nat.le_refl _) ⟨C.1, State.Warmed39.trans C.2.1 hS.1, C.2.2.1, C.2.2.2.1, by rw [show (s.setVm T'.vm).vm = T'.vm from rfl, hS.1.alike.findClass]; exact C.2.2.2.2.1, C.2.2.2.2.2⟩ T' _ X' rfl (Fr.app N N')
  exact ⟨s₂, o, q.trans z, r⟩
end Steps
end Own
end Jvm.Pilot.@@N@@

namespace Jvm.Pilot.@@N@@
open Jvm Jvm.ClassFile Sem Op Lib Jvm.Free Jvm.Stand Jvm.LawKit Jvm.RoadKit Bundle Jvm.Pilot.@@N@@.Jvm.D
namespace Own
abbrev Hw (a0 : Array Value) (Z : State) : Prop := ∀ d ∈ tables_1, d.before a0 Z = true
theorem w0 {a0 : Array Value} {Z : State} (hw : Hw a0 Z) : (Jvm.Cond.classLink "com/example/chasm/chasm/model/InventedValueEqualsPinLaw" (7 : Nat) "com/example/chasm/chasm/model/InventedValue").before a0 Z = true := hw _ (List.mem_of_getElem? (i := 0) rfl)
theorem w1 {a0 : Array Value} {Z : State} (hw : Hw a0 Z) : (Jvm.Cond.instantiable "com/example/chasm/chasm/model/InventedValue" (1 : Nat)).before a0 Z = true := hw _ (List.mem_of_getElem? (i := 1) rfl)
theorem w2 {a0 : Array Value} {Z : State} (hw : Hw a0 Z) : (Jvm.Cond.initialized "com/example/chasm/chasm/model/InventedValue").before a0 Z = true := hw _ (List.mem_of_getElem? (i := 2) rfl)
theorem w3 {a0 : Array Value} {Z : State} (hw : Hw a0 Z) : (Jvm.Cond.methodLink "com/example/chasm/chasm/model/InventedValueEqualsPinLaw" (9 : Nat) ({ cls := "com/example/chasm/chasm/model/InventedValue", name := "<init>", desc := "(J)V" } : Jvm.MethodName)).before a0 Z = true := hw _ (List.mem_of_getElem? (i := 3) rfl)
theorem w4 {a0 : Array Value} {Z : State} (hw : Hw a0 Z) : (Jvm.Cond.instanceMethod ({ cls := "com/example/chasm/chasm/model/InventedValue", name := "<init>", desc := "(J)V" } : Jvm.MethodName)).before a0 Z = true := hw _ (List.mem_of_getElem? (i := 4) rfl)
theorem w5 {a0 : Array Value} {Z : State} (hw : Hw a0 Z) : (Jvm.Cond.code ({ cls := "com/example/chasm/chasm/model/InventedValue", name := "<init>", desc := "(J)V" } : Jvm.MethodName) prog_51_method_1_code (3 : Nat) (Option.none : Option Jvm.ClassFile.FieldType)).before a0 Z = true := hw _ (List.mem_of_getElem? (i := 5) rfl)
theorem w6 {a0 : Array Value} {Z : State} (hw : Hw a0 Z) : (Jvm.Cond.methodLink "com/example/chasm/chasm/model/InventedValue" (1 : Nat) ({ cls := "java/lang/Record", name := "<init>", desc := "()V" } : Jvm.MethodName)).before a0 Z = true := hw _ (List.mem_of_getElem? (i := 6) rfl)
theorem w7 {a0 : Array Value} {Z : State} (hw : Hw a0 Z) : (Jvm.Cond.instanceMethod ({ cls := "java/lang/Record", name := "<init>", desc := "()V" } : Jvm.MethodName)).before a0 Z = true := hw _ (List.mem_of_getElem? (i := 7) rfl)
theorem w9 {a0 : Array Value} {Z : State} (hw : Hw a0 Z) : (Jvm.Cond.initialized "java/lang/Record").before a0 Z = true := hw _ (List.mem_of_getElem? (i := 9) rfl)
theorem w10 {a0 : Array Value} {Z : State} (hw : Hw a0 Z) : (Jvm.Cond.code ({ cls := "java/lang/Record", name := "<init>", desc := "()V" } : Jvm.MethodName) jdk_30_method_1_code (1 : Nat) (Option.none : Option Jvm.ClassFile.FieldType)).before a0 Z = true := hw _ (List.mem_of_getElem? (i := 10) rfl)
theorem w11 {a0 : Array Value} {Z : State} (hw : Hw a0 Z) : (Jvm.Cond.methodLink "java/lang/Record" (1 : Nat) ({ cls := "java/lang/Object", name := "<init>", desc := "()V" } : Jvm.MethodName)).before a0 Z = true := hw _ (List.mem_of_getElem? (i := 11) rfl)
theorem w12 {a0 : Array Value} {Z : State} (hw : Hw a0 Z) : (Jvm.Cond.instanceMethod ({ cls := "java/lang/Object", name := "<init>", desc := "()V" } : Jvm.MethodName)).before a0 Z = true := hw _ (List.mem_of_getElem? (i := 12) rfl)
theorem w13 {a0 : Array Value} {Z : State} (hw : Hw a0 Z) : (Jvm.Cond.code ({ cls := "java/lang/Object", name := "<init>", desc := "()V" } : Jvm.MethodName) object_method_1_code (1 : Nat) (Option.none : Option Jvm.ClassFile.FieldType)).before a0 Z = true := hw _ (List.mem_of_getElem? (i := 13) rfl)
theorem w14 {a0 : Array Value} {Z : State} (hw : Hw a0 Z) : (Jvm.Cond.fieldLink "com/example/chasm/chasm/model/InventedValue" (7 : Nat) "com/example/chasm/chasm/model/InventedValue" "number" "J").before a0 Z = true := hw _ (List.mem_of_getElem? (i := 14) rfl)
theorem w15 {a0 : Array Value} {Z : State} (hw : Hw a0 Z) : (Jvm.Cond.laysFinal "com/example/chasm/chasm/model/InventedValue" "com/example/chasm/chasm/model/InventedValue" "number" "J").before a0 Z = true := hw _ (List.mem_of_getElem? (i := 15) rfl)
theorem w16 {a0 : Array Value} {Z : State} (hw : Hw a0 Z) : (Jvm.Cond.arrayClass Jvm.ClassFile.FieldType.char).before a0 Z = true := hw _ (List.mem_of_getElem? (i := 16) rfl)
theorem w17 {a0 : Array Value} {Z : State} (hw : Hw a0 Z) : (Jvm.Cond.methodLink "com/example/chasm/chasm/model/InventedValueEqualsPinLaw" (28 : Nat) ({ cls := "com/example/chasm/chasm/model/InventedValue", name := "equals", desc := "(Ljava/lang/Object;)Z" } : Jvm.MethodName)).before a0 Z = true := hw _ (List.mem_of_getElem? (i := 17) rfl)
theorem w18 {a0 : Array Value} {Z : State} (hw : Hw a0 Z) : (Jvm.Cond.declares ({ cls := "com/example/chasm/chasm/model/InventedValue", name := "equals", desc := "(Ljava/lang/Object;)Z" } : Jvm.MethodName)).before a0 Z = true := hw _ (List.mem_of_getElem? (i := 18) rfl)
theorem w19 {a0 : Array Value} {Z : State} (hw : Hw a0 Z) : (Jvm.Cond.instanceMethod ({ cls := "com/example/chasm/chasm/model/InventedValue", name := "equals", desc := "(Ljava/lang/Object;)Z" } : Jvm.MethodName)).before a0 Z = true := hw _ (List.mem_of_getElem? (i := 19) rfl)
theorem w20 {a0 : Array Value} {Z : State} (hw : Hw a0 Z) : (Jvm.Cond.selects "com/example/chasm/chasm/model/InventedValue" ({ cls := "com/example/chasm/chasm/model/InventedValue", name := "equals", desc := "(Ljava/lang/Object;)Z" } : Jvm.MethodName) ({ cls := "com/example/chasm/chasm/model/InventedValue", name := "equals", desc := "(Ljava/lang/Object;)Z" } : Jvm.MethodName)).before a0 Z = true := hw _ (List.mem_of_getElem? (i := 20) rfl)
theorem w21 {a0 : Array Value} {Z : State} (hw : Hw a0 Z) : (Jvm.Cond.code ({ cls := "com/example/chasm/chasm/model/InventedValue", name := "equals", desc := "(Ljava/lang/Object;)Z" } : Jvm.MethodName) prog_51_method_2_code (3 : Nat) (Option.some Jvm.ClassFile.FieldType.boolean)).before a0 Z = true := hw _ (List.mem_of_getElem? (i := 21) rfl)
theorem w22 {a0 : Array Value} {Z : State} (hw : Hw a0 Z) : (Jvm.Cond.classLink "com/example/chasm/chasm/model/InventedValue" (8 : Nat) "com/example/chasm/chasm/model/InventedValue").before a0 Z = true := hw _ (List.mem_of_getElem? (i := 22) rfl)
theorem w24 {a0 : Array Value} {Z : State} (hw : Hw a0 Z) : (Jvm.Cond.classLink "com/example/chasm/chasm/model/InventedValueEqualsPinLaw" (12 : Nat) "com/example/chasm/chasm/model/Constant").before a0 Z = true := hw _ (List.mem_of_getElem? (i := 24) rfl)
theorem w25 {a0 : Array Value} {Z : State} (hw : Hw a0 Z) : (Jvm.Cond.instantiable "com/example/chasm/chasm/model/Constant" (1 : Nat)).before a0 Z = true := hw _ (List.mem_of_getElem? (i := 25) rfl)
theorem w26 {a0 : Array Value} {Z : State} (hw : Hw a0 Z) : (Jvm.Cond.initialized "com/example/chasm/chasm/model/Constant").before a0 Z = true := hw _ (List.mem_of_getElem? (i := 26) rfl)
theorem w27 {a0 : Array Value} {Z : State} (hw : Hw a0 Z) : (Jvm.Cond.classLink "com/example/chasm/chasm/model/InventedValueEqualsPinLaw" (14 : Nat) "java/lang/String").before a0 Z = true := hw _ (List.mem_of_getElem? (i := 27) rfl)
theorem w28 {a0 : Array Value} {Z : State} (hw : Hw a0 Z) : (Jvm.Cond.instantiable "java/lang/String" (4 : Nat)).before a0 Z = true := hw _ (List.mem_of_getElem? (i := 28) rfl)
theorem w29 {a0 : Array Value} {Z : State} (hw : Hw a0 Z) : (Jvm.Cond.initialized "java/lang/String").before a0 Z = true := hw _ (List.mem_of_getElem? (i := 29) rfl)
theorem w30 {a0 : Array Value} {Z : State} (hw : Hw a0 Z) : (Jvm.Cond.methodLink "com/example/chasm/chasm/model/InventedValueEqualsPinLaw" (16 : Nat) ({ cls := "java/lang/String", name := "<init>", desc := "([C)V" } : Jvm.MethodName)).before a0 Z = true := hw _ (List.mem_of_getElem? (i := 30) rfl)
theorem w31 {a0 : Array Value} {Z : State} (hw : Hw a0 Z) : (Jvm.Cond.instanceMethod ({ cls := "java/lang/String", name := "<init>", desc := "([C)V" } : Jvm.MethodName)).before a0 Z = true := hw _ (List.mem_of_getElem? (i := 31) rfl)
theorem w32 {a0 : Array Value} {Z : State} (hw : Hw a0 Z) : (Jvm.Cond.code ({ cls := "java/lang/String", name := "<init>", desc := "([C)V" } : Jvm.MethodName) jdk_42_method_3_code (2 : Nat) (Option.none : Option Jvm.ClassFile.FieldType)).before a0 Z = true := hw _ (List.mem_of_getElem? (i := 32) rfl)
theorem w33 {a0 : Array Value} {Z : State} (hw : Hw a0 Z) : (Jvm.Cond.methodLink "java/lang/String" (27 : Nat) ({ cls := "java/lang/String", name := "<init>", desc := "([CIILjava/lang/Void;)V" } : Jvm.MethodName)).before a0 Z = true := hw _ (List.mem_of_getElem? (i := 33) rfl)
theorem w34 {a0 : Array Value} {Z : State} (hw : Hw a0 Z) : (Jvm.Cond.instanceMethod ({ cls := "java/lang/String", name := "<init>", desc := "([CIILjava/lang/Void;)V" } : Jvm.MethodName)).before a0 Z = true := hw _ (List.mem_of_getElem? (i := 34) rfl)
theorem w36 {a0 : Array Value} {Z : State} (hw : Hw a0 Z) : (Jvm.Cond.code ({ cls := "java/lang/String", name := "<init>", desc := "([CIILjava/lang/Void;)V" } : Jvm.MethodName) jdk_42_method_149_code (6 : Nat) (Option.none : Option Jvm.ClassFile.FieldType)).before a0 Z = true := hw _ (List.mem_of_getElem? (i := 36) rfl)
theorem w37 {a0 : Array Value} {Z : State} (hw : Hw a0 Z) : (Jvm.Cond.methodLink "java/lang/String" (1 : Nat) ({ cls := "java/lang/Object", name := "<init>", desc := "()V" } : Jvm.MethodName)).before a0 Z = true := hw _ (List.mem_of_getElem? (i := 37) rfl)
theorem w38 {a0 : Array Value} {Z : State} (hw : Hw a0 Z) : (Jvm.Cond.fieldLink "java/lang/String" (38 : Nat) "java/lang/String" "COMPACT_STRINGS" "Z").before a0 Z = true := hw _ (List.mem_of_getElem? (i := 38) rfl)
theorem w39 {a0 : Array Value} {Z : State} (hw : Hw a0 Z) : (Jvm.Cond.methodLink "java/lang/String" (177 : Nat) ({ cls := "java/lang/StringUTF16", name := "compress", desc := "([CII)[B" } : Jvm.MethodName)).before a0 Z = true := hw _ (List.mem_of_getElem? (i := 39) rfl)
theorem w40 {a0 : Array Value} {Z : State} (hw : Hw a0 Z) : (Jvm.Cond.static ({ cls := "java/lang/StringUTF16", name := "compress", desc := "([CII)[B" } : Jvm.MethodName)).before a0 Z = true := hw _ (List.mem_of_getElem? (i := 40) rfl)
theorem w41 {a0 : Array Value} {Z : State} (hw : Hw a0 Z) : (Jvm.Cond.initialized "java/lang/StringUTF16").before a0 Z = true := hw _ (List.mem_of_getElem? (i := 41) rfl)
theorem w42 {a0 : Array Value} {Z : State} (hw : Hw a0 Z) : (Jvm.Cond.code ({ cls := "java/lang/StringUTF16", name := "compress", desc := "([CII)[B" } : Jvm.MethodName) jdk_52_method_16_code (6 : Nat) (Option.some (Jvm.ClassFile.FieldType.array Jvm.ClassFile.FieldType.byte))).before a0 Z = true := hw _ (List.mem_of_getElem? (i := 42) rfl)
theorem w43 {a0 : Array Value} {Z : State} (hw : Hw a0 Z) : (Jvm.Cond.arrayClass Jvm.ClassFile.FieldType.byte).before a0 Z = true := hw _ (List.mem_of_getElem? (i := 43) rfl)
theorem w44 {a0 : Array Value} {Z : State} (hw : Hw a0 Z) : (Jvm.Cond.methodLink "java/lang/StringUTF16" (115 : Nat) ({ cls := "java/lang/StringUTF16", name := "compress", desc := "([CI[BII)I" } : Jvm.MethodName)).before a0 Z = true := hw _ (List.mem_of_getElem? (i := 44) rfl)
theorem w45 {a0 : Array Value} {Z : State} (hw : Hw a0 Z) : (Jvm.Cond.static ({ cls := "java/lang/StringUTF16", name := "compress", desc := "([CI[BII)I" } : Jvm.MethodName)).before a0 Z = true := hw _ (List.mem_of_getElem? (i := 45) rfl)
theorem w46 {a0 : Array Value} {Z : State} (hw : Hw a0 Z) : (Jvm.Cond.code ({ cls := "java/lang/StringUTF16", name := "compress", desc := "([CI[BII)I" } : Jvm.MethodName) jdk_52_method_21_code (7 : Nat) (Option.some Jvm.ClassFile.FieldType.int)).before a0 Z = true := hw _ (List.mem_of_getElem? (i := 46) rfl)
theorem w47 {a0 : Array Value} {Z : State} (hw : Hw a0 Z) : (Jvm.Cond.methodLink "java/lang/String" (47 : Nat) ({ cls := "java/lang/StringUTF16", name := "coderFromArrayLen", desc := "([BI)B" } : Jvm.MethodName)).before a0 Z = true := hw _ (List.mem_of_getElem? (i := 47) rfl)
theorem w48 {a0 : Array Value} {Z : State} (hw : Hw a0 Z) : (Jvm.Cond.static ({ cls := "java/lang/StringUTF16", name := "coderFromArrayLen", desc := "([BI)B" } : Jvm.MethodName)).before a0 Z = true := hw _ (List.mem_of_getElem? (i := 48) rfl)
theorem w49 {a0 : Array Value} {Z : State} (hw : Hw a0 Z) : (Jvm.Cond.code ({ cls := "java/lang/StringUTF16", name := "coderFromArrayLen", desc := "([BI)B" } : Jvm.MethodName) jdk_52_method_15_code (2 : Nat) (Option.some Jvm.ClassFile.FieldType.byte)).before a0 Z = true := hw _ (List.mem_of_getElem? (i := 49) rfl)
theorem w50 {a0 : Array Value} {Z : State} (hw : Hw a0 Z) : (Jvm.Cond.fieldLink "java/lang/String" (15 : Nat) "java/lang/String" "coder" "B").before a0 Z = true := hw _ (List.mem_of_getElem? (i := 50) rfl)
theorem w51 {a0 : Array Value} {Z : State} (hw : Hw a0 Z) : (Jvm.Cond.laysFinal "java/lang/String" "java/lang/String" "coder" "B").before a0 Z = true := hw _ (List.mem_of_getElem? (i := 51) rfl)
theorem w52 {a0 : Array Value} {Z : State} (hw : Hw a0 Z) : (Jvm.Cond.fieldLink "java/lang/String" (9 : Nat) "java/lang/String" "value" "[B").before a0 Z = true := hw _ (List.mem_of_getElem? (i := 52) rfl)
theorem w53 {a0 : Array Value} {Z : State} (hw : Hw a0 Z) : (Jvm.Cond.laysFinal "java/lang/String" "java/lang/String" "value" "[B").before a0 Z = true := hw _ (List.mem_of_getElem? (i := 53) rfl)
theorem w54 {a0 : Array Value} {Z : State} (hw : Hw a0 Z) : (Jvm.Cond.methodLink "com/example/chasm/chasm/model/InventedValueEqualsPinLaw" (19 : Nat) ({ cls := "com/example/chasm/chasm/model/Constant", name := "<init>", desc := "(Ljava/lang/String;)V" } : Jvm.MethodName)).before a0 Z = true := hw _ (List.mem_of_getElem? (i := 54) rfl)
theorem w55 {a0 : Array Value} {Z : State} (hw : Hw a0 Z) : (Jvm.Cond.instanceMethod ({ cls := "com/example/chasm/chasm/model/Constant", name := "<init>", desc := "(Ljava/lang/String;)V" } : Jvm.MethodName)).before a0 Z = true := hw _ (List.mem_of_getElem? (i := 55) rfl)
theorem w56 {a0 : Array Value} {Z : State} (hw : Hw a0 Z) : (Jvm.Cond.code ({ cls := "com/example/chasm/chasm/model/Constant", name := "<init>", desc := "(Ljava/lang/String;)V" } : Jvm.MethodName) prog_39_method_1_code (2 : Nat) (Option.none : Option Jvm.ClassFile.FieldType)).before a0 Z = true := hw _ (List.mem_of_getElem? (i := 56) rfl)
theorem w57 {a0 : Array Value} {Z : State} (hw : Hw a0 Z) : (Jvm.Cond.methodLink "com/example/chasm/chasm/model/Constant" (1 : Nat) ({ cls := "java/lang/Record", name := "<init>", desc := "()V" } : Jvm.MethodName)).before a0 Z = true := hw _ (List.mem_of_getElem? (i := 57) rfl)
theorem w58 {a0 : Array Value} {Z : State} (hw : Hw a0 Z) : (Jvm.Cond.stringLink "com/example/chasm/chasm/model/Constant" (7 : Nat) "text").before a0 Z = true := hw _ (List.mem_of_getElem? (i := 58) rfl)
theorem w59 {a0 : Array Value} {Z : State} (hw : Hw a0 Z) : (Jvm.Cond.soleField "java/lang/String" "value").before a0 Z = true := hw _ (List.mem_of_getElem? (i := 59) rfl)
theorem w60 {a0 : Array Value} {Z : State} (hw : Hw a0 Z) : (Jvm.Cond.soleField "java/lang/String" "coder").before a0 Z = true := hw _ (List.mem_of_getElem? (i := 60) rfl)
theorem w61 {a0 : Array Value} {Z : State} (hw : Hw a0 Z) : (Jvm.Cond.methodLink "com/example/chasm/chasm/model/Constant" (9 : Nat) ({ cls := "java/util/Objects", name := "requireNonNull", desc := "(Ljava/lang/Object;Ljava/lang/String;)Ljava/lang/Object;" } : Jvm.MethodName)).before a0 Z = true := hw _ (List.mem_of_getElem? (i := 61) rfl)
theorem w62 {a0 : Array Value} {Z : State} (hw : Hw a0 Z) : (Jvm.Cond.static ({ cls := "java/util/Objects", name := "requireNonNull", desc := "(Ljava/lang/Object;Ljava/lang/String;)Ljava/lang/Object;" } : Jvm.MethodName)).before a0 Z = true := hw _ (List.mem_of_getElem? (i := 62) rfl)
theorem w63 {a0 : Array Value} {Z : State} (hw : Hw a0 Z) : (Jvm.Cond.initialized "java/util/Objects").before a0 Z = true := hw _ (List.mem_of_getElem? (i := 63) rfl)
theorem w64 {a0 : Array Value} {Z : State} (hw : Hw a0 Z) : (Jvm.Cond.code ({ cls := "java/util/Objects", name := "requireNonNull", desc := "(Ljava/lang/Object;Ljava/lang/String;)Ljava/lang/Object;" } : Jvm.MethodName) jdk_31_method_11_code (2 : Nat) (Option.some (Jvm.ClassFile.FieldType.object "java/lang/Object"))).before a0 Z = true := hw _ (List.mem_of_getElem? (i := 64) rfl)
theorem w65 {a0 : Array Value} {Z : State} (hw : Hw a0 Z) : (Jvm.Cond.fieldLink "com/example/chasm/chasm/model/Constant" (15 : Nat) "com/example/chasm/chasm/model/Constant" "text" "Ljava/lang/String;").before a0 Z = true := hw _ (List.mem_of_getElem? (i := 65) rfl)
theorem w66 {a0 : Array Value} {Z : State} (hw : Hw a0 Z) : (Jvm.Cond.laysFinal "com/example/chasm/chasm/model/Constant" "com/example/chasm/chasm/model/Constant" "text" "Ljava/lang/String;").before a0 Z = true := hw _ (List.mem_of_getElem? (i := 66) rfl)
theorem w67 {a0 : Array Value} {Z : State} (hw : Hw a0 Z) : (Jvm.Cond.superclass "com/example/chasm/chasm/model/Constant" "java/lang/Record").before a0 Z = true := hw _ (List.mem_of_getElem? (i := 67) rfl)
theorem w68 {a0 : Array Value} {Z : State} (hw : Hw a0 Z) : (Jvm.Cond.superclass "java/lang/Record" "java/lang/Object").before a0 Z = true := hw _ (List.mem_of_getElem? (i := 68) rfl)
theorem w69 {a0 : Array Value} {Z : State} (hw : Hw a0 Z) : (Jvm.Cond.noSuperclass "java/lang/Object").before a0 Z = true := hw _ (List.mem_of_getElem? (i := 69) rfl)
theorem w70 {a0 : Array Value} {Z : State} (hw : Hw a0 Z) : (Jvm.Cond.methodLink "com/example/chasm/chasm/model/InventedValueEqualsPinLaw" (22 : Nat) ({ cls := "java/lang/Long", name := "valueOf", desc := "(J)Ljava/lang/Long;" } : Jvm.MethodName)).before a0 Z = true := hw _ (List.mem_of_getElem? (i := 70) rfl)
theorem w71 {a0 : Array Value} {Z : State} (hw : Hw a0 Z) : (Jvm.Cond.static ({ cls := "java/lang/Long", name := "valueOf", desc := "(J)Ljava/lang/Long;" } : Jvm.MethodName)).before a0 Z = true := hw _ (List.mem_of_getElem? (i := 71) rfl)
theorem w72 {a0 : Array Value} {Z : State} (hw : Hw a0 Z) : (Jvm.Cond.initialized "java/lang/Long").before a0 Z = true := hw _ (List.mem_of_getElem? (i := 72) rfl)
theorem w73 {a0 : Array Value} {Z : State} (hw : Hw a0 Z) : (Jvm.Cond.code ({ cls := "java/lang/Long", name := "valueOf", desc := "(J)Ljava/lang/Long;" } : Jvm.MethodName) jdk_35_method_24_code (3 : Nat) (Option.some (Jvm.ClassFile.FieldType.object "java/lang/Long"))).before a0 Z = true := hw _ (List.mem_of_getElem? (i := 73) rfl)
theorem w74 {a0 : Array Value} {Z : State} (hw : Hw a0 Z) : (Jvm.Cond.constantLong "java/lang/Long" (230 : Nat) (-128 : Int64)).before a0 Z = true := hw _ (List.mem_of_getElem? (i := 74) rfl)
theorem w75 {a0 : Array Value} {Z : State} (hw : Hw a0 Z) : (Jvm.Cond.constantLong "java/lang/Long" (232 : Nat) (127 : Int64)).before a0 Z = true := hw _ (List.mem_of_getElem? (i := 75) rfl)
theorem w76 {a0 : Array Value} {Z : State} (hw : Hw a0 Z) : (Jvm.Cond.classLink "java/lang/Long" (1 : Nat) "java/lang/Long").before a0 Z = true := hw _ (List.mem_of_getElem? (i := 76) rfl)
theorem w77 {a0 : Array Value} {Z : State} (hw : Hw a0 Z) : (Jvm.Cond.instantiable "java/lang/Long" (1 : Nat)).before a0 Z = true := hw _ (List.mem_of_getElem? (i := 77) rfl)
theorem w78 {a0 : Array Value} {Z : State} (hw : Hw a0 Z) : (Jvm.Cond.methodLink "java/lang/Long" (240 : Nat) ({ cls := "java/lang/Long", name := "<init>", desc := "(J)V" } : Jvm.MethodName)).before a0 Z = true := hw _ (List.mem_of_getElem? (i := 78) rfl)
theorem w79 {a0 : Array Value} {Z : State} (hw : Hw a0 Z) : (Jvm.Cond.instanceMethod ({ cls := "java/lang/Long", name := "<init>", desc := "(J)V" } : Jvm.MethodName)).before a0 Z = true := hw _ (List.mem_of_getElem? (i := 79) rfl)
theorem w81 {a0 : Array Value} {Z : State} (hw : Hw a0 Z) : (Jvm.Cond.code ({ cls := "java/lang/Long", name := "<init>", desc := "(J)V" } : Jvm.MethodName) jdk_35_method_26_code (3 : Nat) (Option.none : Option Jvm.ClassFile.FieldType)).before a0 Z = true := hw _ (List.mem_of_getElem? (i := 81) rfl)
theorem w82 {a0 : Array Value} {Z : State} (hw : Hw a0 Z) : (Jvm.Cond.methodLink "java/lang/Long" (270 : Nat) ({ cls := "java/lang/Number", name := "<init>", desc := "()V" } : Jvm.MethodName)).before a0 Z = true := hw _ (List.mem_of_getElem? (i := 82) rfl)
theorem w83 {a0 : Array Value} {Z : State} (hw : Hw a0 Z) : (Jvm.Cond.instanceMethod ({ cls := "java/lang/Number", name := "<init>", desc := "()V" } : Jvm.MethodName)).before a0 Z = true := hw _ (List.mem_of_getElem? (i := 83) rfl)
theorem w86 {a0 : Array Value} {Z : State} (hw : Hw a0 Z) : (Jvm.Cond.initialized "java/lang/Number").before a0 Z = true := hw _ (List.mem_of_getElem? (i := 86) rfl)
theorem w87 {a0 : Array Value} {Z : State} (hw : Hw a0 Z) : (Jvm.Cond.code ({ cls := "java/lang/Number", name := "<init>", desc := "()V" } : Jvm.MethodName) jdk_18_method_1_code (1 : Nat) (Option.none : Option Jvm.ClassFile.FieldType)).before a0 Z = true := hw _ (List.mem_of_getElem? (i := 87) rfl)
theorem w88 {a0 : Array Value} {Z : State} (hw : Hw a0 Z) : (Jvm.Cond.methodLink "java/lang/Number" (1 : Nat) ({ cls := "java/lang/Object", name := "<init>", desc := "()V" } : Jvm.MethodName)).before a0 Z = true := hw _ (List.mem_of_getElem? (i := 88) rfl)
theorem w89 {a0 : Array Value} {Z : State} (hw : Hw a0 Z) : (Jvm.Cond.fieldLink "java/lang/Long" (273 : Nat) "java/lang/Long" "value" "J").before a0 Z = true := hw _ (List.mem_of_getElem? (i := 89) rfl)
theorem w90 {a0 : Array Value} {Z : State} (hw : Hw a0 Z) : (Jvm.Cond.laysFinal "java/lang/Long" "java/lang/Long" "value" "J").before a0 Z = true := hw _ (List.mem_of_getElem? (i := 90) rfl)
theorem w91 {a0 : Array Value} {Z : State} (hw : Hw a0 Z) : (Jvm.Cond.superclass "java/lang/Long" "java/lang/Number").before a0 Z = true := hw _ (List.mem_of_getElem? (i := 91) rfl)
theorem w92 {a0 : Array Value} {Z : State} (hw : Hw a0 Z) : (Jvm.Cond.superclass "java/lang/Number" "java/lang/Object").before a0 Z = true := hw _ (List.mem_of_getElem? (i := 92) rfl)
theorem w93 {a0 : Array Value} {Z : State} (hw : Hw a0 Z) : (Jvm.Cond.fieldLink "java/lang/Long" (234 : Nat) "java/lang/Long$LongCache" "cache" "[Ljava/lang/Long;").before a0 Z = true := hw _ (List.mem_of_getElem? (i := 93) rfl)
theorem w94 {a0 : Array Value} {Z : State} (hw : Hw a0 Z) : (Jvm.Cond.initialized "java/lang/Long$LongCache").before a0 Z = true := hw _ (List.mem_of_getElem? (i := 94) rfl)
theorem ef2 (m : MethodId) (x0 : Addr) : entryFrame m #[(.ref x0)] 1 = mkF m 0 #[.val (.ref x0)] [] := by first | (simp [entryFrame, mkF, argsToLocals, Value.category]; done) | rfl
theorem pn2 : plainFor (⟨"java/lang/Record", "<init>", "()V"⟩ : MethodName) = true := plainFor_of_name (by first | (simp [plainName, overriddenIn]; done) | decide +kernel)
theorem d2_0 : decode jdk_30_method_1_code 0 = .ok (.aload_n 0, 1) := by decide +kernel
theorem d2_1 : decode jdk_30_method_1_code 1 = .ok (.invokespecial 1, 3) := by decide +kernel
theorem d2_4 : decode jdk_30_method_1_code 4 = .ok (.return_, 1) := by decide +kernel
theorem ef1 (m : MethodId) (x0 : Addr) (x1 : Int64) : entryFrame m #[(.ref x0), (.long x1)] 3 = mkF m 0 #[.val (.ref x0), .val (.long x1), .second] [] := by first | (simp [entryFrame, mkF, argsToLocals, Value.category]; done) | rfl
theorem pn1 : plainFor (⟨"com/example/chasm/chasm/model/InventedValue", "<init>", "(J)V"⟩ : MethodName) = true := plainFor_of_name (by first | (simp [plainName, overriddenIn]; done) | decide +kernel)
theorem d1_0 : decode prog_51_method_1_code 0 = .ok (.aload_n 0, 1) := by decide +kernel
theorem d1_1 : decode prog_51_method_1_code 1 = .ok (.invokespecial 1, 3) := by decide +kernel
theorem pd0 : parseMethodDescriptor "()V" = some ⟨[], none⟩ := by decide +kernel
theorem d1_4 : decode prog_51_method_1_code 4 = .ok (.aload_n 0, 1) := by decide +kernel
theorem d1_5 : decode prog_51_method_1_code 5 = .ok (.lload_n 1, 1) := by decide +kernel
theorem d1_6 : decode prog_51_method_1_code 6 = .ok (.putfield 7, 3) := by decide +kernel
theorem d1_9 : decode prog_51_method_1_code 9 = .ok (.return_, 1) := by decide +kernel
theorem ef4n1 (m : MethodId) (x0 : Addr) : entryFrame m #[(.ref x0), .null] 3 = mkF m 0 #[.val (.ref x0), .val .null, .unset] [] := by first | (simp [entryFrame, mkF, argsToLocals, Value.category]; done) | rfl
theorem pn4 : plainFor (⟨"com/example/chasm/chasm/model/InventedValue", "equals", "(Ljava/lang/Object;)Z"⟩ : MethodName) = true := plainFor_of_name (by first | (simp [plainName, overriddenIn]; done) | decide +kernel)
theorem d4_0 : decode prog_51_method_2_code 0 = .ok (.aload_n 1, 1) := by decide +kernel
theorem d4_1 : decode prog_51_method_2_code 1 = .ok (.instanceof 8, 3) := by decide +kernel
theorem d4_4 : decode prog_51_method_2_code 4 = .ok (.ifCond .eq 24, 3) := by decide +kernel
theorem d4_28 : decode prog_51_method_2_code 28 = .ok (.iconst 0, 1) := by decide +kernel
theorem d4_29 : decode prog_51_method_2_code 29 = .ok (.ireturn, 1) := by decide +kernel
theorem ef4 (m : MethodId) (x0 : Addr) (x1 : Addr) : entryFrame m #[(.ref x0), (.ref x1)] 3 = mkF m 0 #[.val (.ref x0), .val (.ref x1), .unset] [] := by first | (simp [entryFrame, mkF, argsToLocals, Value.category]; done) | rfl
theorem d4_7 : decode prog_51_method_2_code 7 = .ok (.aload_n 1, 1) := by decide +kernel
theorem d4_8 : decode prog_51_method_2_code 8 = .ok (.checkcast 8, 3) := by decide +kernel
theorem d4_11 : decode prog_51_method_2_code 11 = .ok (.astore_n 2, 1) := by decide +kernel
theorem d4_12 : decode prog_51_method_2_code 12 = .ok (.aload_n 0, 1) := by decide +kernel
theorem d4_13 : decode prog_51_method_2_code 13 = .ok (.getfield 7, 3) := by decide +kernel
theorem d4_16 : decode prog_51_method_2_code 16 = .ok (.aload_n 2, 1) := by decide +kernel
theorem d4_17 : decode prog_51_method_2_code 17 = .ok (.getfield 7, 3) := by decide +kernel
theorem d4_20 : decode prog_51_method_2_code 20 = .ok (.lcmp, 1) := by decide +kernel
theorem d4_21 : decode prog_51_method_2_code 21 = .ok (.ifCond .ne 7, 3) := by decide +kernel
theorem d4_24 : decode prog_51_method_2_code 24 = .ok (.iconst 1, 1) := by decide +kernel
theorem d4_25 : decode prog_51_method_2_code 25 = .ok (.goto 4, 3) := by decide +kernel
theorem ef14 (m : MethodId) (x0 : Addr) : entryFrame m #[(.ref x0)] 1 = mkF m 0 #[.val (.ref x0)] [] := by first | (simp [entryFrame, mkF, argsToLocals, Value.category]; done) | rfl
theorem pn14 : plainFor (⟨"java/lang/Number", "<init>", "()V"⟩ : MethodName) = true := plainFor_of_name (by first | (simp [plainName, overriddenIn]; done) | decide +kernel)
theorem d14_0 : decode jdk_18_method_1_code 0 = .ok (.aload_n 0, 1) := by decide +kernel
theorem d14_1 : decode jdk_18_method_1_code 1 = .ok (.invokespecial 1, 3) := by decide +kernel
theorem d14_4 : decode jdk_18_method_1_code 4 = .ok (.return_, 1) := by decide +kernel
theorem ef13 (m : MethodId) (x0 : Addr) (x1 : Int64) : entryFrame m #[(.ref x0), (.long x1)] 3 = mkF m 0 #[.val (.ref x0), .val (.long x1), .second] [] := by first | (simp [entryFrame, mkF, argsToLocals, Value.category]; done) | rfl
theorem pn13 : plainFor (⟨"java/lang/Long", "<init>", "(J)V"⟩ : MethodName) = true := plainFor_of_name (by first | (simp [plainName, overriddenIn]; done) | decide +kernel)
theorem d13_0 : decode jdk_35_method_26_code 0 = .ok (.aload_n 0, 1) := by decide +kernel
theorem d13_1 : decode jdk_35_method_26_code 1 = .ok (.invokespecial 270, 3) := by decide +kernel
theorem d13_4 : decode jdk_35_method_26_code 4 = .ok (.aload_n 0, 1) := by decide +kernel
theorem d13_5 : decode jdk_35_method_26_code 5 = .ok (.lload_n 1, 1) := by decide +kernel
theorem d13_6 : decode jdk_35_method_26_code 6 = .ok (.putfield 273, 3) := by decide +kernel
theorem d13_9 : decode jdk_35_method_26_code 9 = .ok (.return_, 1) := by decide +kernel
theorem ef12 (m : MethodId) (x0 : Int64) : entryFrame m #[(.long x0)] 3 = mkF m 0 #[.val (.long x0), .second, .unset] [] := by first | (simp [entryFrame, mkF, argsToLocals, Value.category]; done) | rfl
theorem pn12 : plainFor (⟨"java/lang/Long", "valueOf", "(J)Ljava/lang/Long;"⟩ : MethodName) = true := plainFor_of_name (by first | (simp [plainName, overriddenIn]; done) | decide +kernel)
theorem d12_0 : decode jdk_35_method_24_code 0 = .ok (.sipush 128, 3) := by decide +kernel
theorem d12_3 : decode jdk_35_method_24_code 3 = .ok (.istore_n 2, 1) := by decide +kernel
theorem d12_4 : decode jdk_35_method_24_code 4 = .ok (.lload_n 0, 1) := by decide +kernel
theorem d12_5 : decode jdk_35_method_24_code 5 = .ok (.ldc2_w 230, 3) := by decide +kernel
theorem d12_8 : decode jdk_35_method_24_code 8 = .ok (.lcmp, 1) := by decide +kernel
theorem d12_9 : decode jdk_35_method_24_code 9 = .ok (.ifCond .lt 22, 3) := by decide +kernel
theorem d12_31 : decode jdk_35_method_24_code 31 = .ok (.new 1, 3) := by decide +kernel
theorem d12_34 : decode jdk_35_method_24_code 34 = .ok (.dup, 1) := by decide +kernel
theorem d12_35 : decode jdk_35_method_24_code 35 = .ok (.lload_n 0, 1) := by decide +kernel
theorem d12_36 : decode jdk_35_method_24_code 36 = .ok (.invokespecial 240, 3) := by decide +kernel
theorem pd2 : parseMethodDescriptor "(J)V" = some ⟨[.long], none⟩ := by decide +kernel
theorem d12_39 : decode jdk_35_method_24_code 39 = .ok (.areturn, 1) := by decide +kernel
theorem d12_12 : decode jdk_35_method_24_code 12 = .ok (.lload_n 0, 1) := by decide +kernel
theorem d12_13 : decode jdk_35_method_24_code 13 = .ok (.ldc2_w 232, 3) := by decide +kernel
theorem d12_16 : decode jdk_35_method_24_code 16 = .ok (.lcmp, 1) := by decide +kernel
theorem d12_17 : decode jdk_35_method_24_code 17 = .ok (.ifCond .gt 14, 3) := by decide +kernel
theorem d12_20 : decode jdk_35_method_24_code 20 = .ok (.getstatic 234, 3) := by decide +kernel
theorem d12_23 : decode jdk_35_method_24_code 23 = .ok (.lload_n 0, 1) := by decide +kernel
theorem d12_24 : decode jdk_35_method_24_code 24 = .ok (.l2i, 1) := by decide +kernel
theorem d12_25 : decode jdk_35_method_24_code 25 = .ok (.sipush 128, 3) := by decide +kernel
theorem d12_28 : decode jdk_35_method_24_code 28 = .ok (.iadd, 1) := by decide +kernel
theorem d12_29 : decode jdk_35_method_24_code 29 = .ok (.aaload, 1) := by decide +kernel
theorem d12_30 : decode jdk_35_method_24_code 30 = .ok (.areturn, 1) := by decide +kernel
theorem ef8 (m : MethodId) (x0 : Addr) (x1 : Int32) (x2 : Addr) (x3 : Int32) (x4 : Int32) : entryFrame m #[(.ref x0), (.int x1), (.ref x2), (.int x3), (.int x4)] 7 = mkF m 0 #[.val (.ref x0), .val (.int x1), .val (.ref x2), .val (.int x3), .val (.int x4), .unset, .unset] [] := by first | (simp [entryFrame, mkF, argsToLocals, Value.category]; done) | rfl
theorem pn8 : plainFor (⟨"java/lang/StringUTF16", "compress", "([CI[BII)I"⟩ : MethodName) = true := plainFor_of_name (by first | (simp [plainName, overriddenIn]; done) | decide +kernel)
theorem d8_0 : decode jdk_52_method_21_code 0 = .ok (.iconst 0, 1) := by decide +kernel
theorem d8_1 : decode jdk_52_method_21_code 1 = .ok (.istore 5, 2) := by decide +kernel
theorem d8_3 : decode jdk_52_method_21_code 3 = .ok (.iload 5, 2) := by decide +kernel
theorem d8_5 : decode jdk_52_method_21_code 5 = .ok (.iload 4, 2) := by decide +kernel
theorem d8_7 : decode jdk_52_method_21_code 7 = .ok (.if_icmp .ge 37, 3) := by decide +kernel
theorem d8_10 : decode jdk_52_method_21_code 10 = .ok (.aload_n 0, 1) := by decide +kernel
theorem d8_11 : decode jdk_52_method_21_code 11 = .ok (.iload_n 1, 1) := by decide +kernel
theorem d8_12 : decode jdk_52_method_21_code 12 = .ok (.caload, 1) := by decide +kernel
theorem d8_13 : decode jdk_52_method_21_code 13 = .ok (.istore 6, 2) := by decide +kernel
theorem d8_15 : decode jdk_52_method_21_code 15 = .ok (.iload 6, 2) := by decide +kernel
theorem d8_17 : decode jdk_52_method_21_code 17 = .ok (.sipush 255, 3) := by decide +kernel
theorem d8_20 : decode jdk_52_method_21_code 20 = .ok (.if_icmp .le 6, 3) := by decide +kernel
theorem d8_26 : decode jdk_52_method_21_code 26 = .ok (.aload_n 2, 1) := by decide +kernel
theorem d8_27 : decode jdk_52_method_21_code 27 = .ok (.iload_n 3, 1) := by decide +kernel
theorem d8_28 : decode jdk_52_method_21_code 28 = .ok (.iload 6, 2) := by decide +kernel
theorem d8_30 : decode jdk_52_method_21_code 30 = .ok (.i2b, 1) := by decide +kernel
theorem d8_31 : decode jdk_52_method_21_code 31 = .ok (.bastore, 1) := by decide +kernel
theorem d8_32 : decode jdk_52_method_21_code 32 = .ok (.iinc 1 1, 3) := by decide +kernel
theorem d8_35 : decode jdk_52_method_21_code 35 = .ok (.iinc 3 1, 3) := by decide +kernel
theorem d8_38 : decode jdk_52_method_21_code 38 = .ok (.iinc 5 1, 3) := by decide +kernel
theorem d8_41 : decode jdk_52_method_21_code 41 = .ok (.goto (-38), 3) := by decide +kernel
theorem d8_44 : decode jdk_52_method_21_code 44 = .ok (.iload 4, 2) := by decide +kernel
theorem d8_46 : decode jdk_52_method_21_code 46 = .ok (.ireturn, 1) := by decide +kernel
theorem ef7 (m : MethodId) (x0 : Addr) (x1 : Int32) (x2 : Int32) : entryFrame m #[(.ref x0), (.int x1), (.int x2)] 6 = mkF m 0 #[.val (.ref x0), .val (.int x1), .val (.int x2), .unset, .unset, .unset] [] := by first | (simp [entryFrame, mkF, argsToLocals, Value.category]; done) | rfl
theorem pn7 : plainFor (⟨"java/lang/StringUTF16", "compress", "([CII)[B"⟩ : MethodName) = true := plainFor_of_name (by first | (simp [plainName, overriddenIn]; done) | decide +kernel)
theorem d7_0 : decode jdk_52_method_16_code 0 = .ok (.iload_n 2, 1) := by decide +kernel
theorem d7_1 : decode jdk_52_method_16_code 1 = .ok (.newarray .byte, 2) := by decide +kernel
theorem d7_3 : decode jdk_52_method_16_code 3 = .ok (.astore_n 3, 1) := by decide +kernel
theorem d7_4 : decode jdk_52_method_16_code 4 = .ok (.aload_n 0, 1) := by decide +kernel
theorem d7_5 : decode jdk_52_method_16_code 5 = .ok (.iload_n 1, 1) := by decide +kernel
theorem d7_6 : decode jdk_52_method_16_code 6 = .ok (.aload_n 3, 1) := by decide +kernel
theorem d7_7 : decode jdk_52_method_16_code 7 = .ok (.iconst 0, 1) := by decide +kernel
theorem d7_8 : decode jdk_52_method_16_code 8 = .ok (.iload_n 2, 1) := by decide +kernel
theorem d7_9 : decode jdk_52_method_16_code 9 = .ok (.invokestatic 115, 3) := by decide +kernel
theorem pd10 : parseMethodDescriptor "([CI[BII)I" = some ⟨[(.array .char), .int, (.array .byte), .int, .int], some .int⟩ := by decide +kernel
theorem d7_12 : decode jdk_52_method_16_code 12 = .ok (.istore 4, 2) := by decide +kernel
theorem d7_14 : decode jdk_52_method_16_code 14 = .ok (.iload 4, 2) := by decide +kernel
theorem d7_16 : decode jdk_52_method_16_code 16 = .ok (.iload_n 2, 1) := by decide +kernel
theorem d7_17 : decode jdk_52_method_16_code 17 = .ok (.if_icmp .eq 40, 3) := by decide +kernel
theorem d7_57 : decode jdk_52_method_16_code 57 = .ok (.aload_n 3, 1) := by decide +kernel
theorem d7_58 : decode jdk_52_method_16_code 58 = .ok (.areturn, 1) := by decide +kernel
theorem ef9 (m : MethodId) (x0 : Addr) (x1 : Int32) : entryFrame m #[(.ref x0), (.int x1)] 2 = mkF m 0 #[.val (.ref x0), .val (.int x1)] [] := by first | (simp [entryFrame, mkF, argsToLocals, Value.category]; done) | rfl
theorem pn9 : plainFor (⟨"java/lang/StringUTF16", "coderFromArrayLen", "([BI)B"⟩ : MethodName) = true := plainFor_of_name (by first | (simp [plainName, overriddenIn]; done) | decide +kernel)
theorem d9_0 : decode jdk_52_method_15_code 0 = .ok (.iload_n 1, 1) := by decide +kernel
theorem d9_1 : decode jdk_52_method_15_code 1 = .ok (.aload_n 0, 1) := by decide +kernel
theorem d9_2 : decode jdk_52_method_15_code 2 = .ok (.arraylength, 1) := by decide +kernel
theorem d9_3 : decode jdk_52_method_15_code 3 = .ok (.isub, 1) := by decide +kernel
theorem d9_4 : decode jdk_52_method_15_code 4 = .ok (.bipush 31, 2) := by decide +kernel
theorem d9_6 : decode jdk_52_method_15_code 6 = .ok (.iushr, 1) := by decide +kernel
theorem d9_7 : decode jdk_52_method_15_code 7 = .ok (.i2b, 1) := by decide +kernel
theorem d9_8 : decode jdk_52_method_15_code 8 = .ok (.ireturn, 1) := by decide +kernel
theorem ef6n4 (m : MethodId) (x0 : Addr) (x1 : Addr) (x2 : Int32) (x3 : Int32) : entryFrame m #[(.ref x0), (.ref x1), (.int x2), (.int x3), .null] 6 = mkF m 0 #[.val (.ref x0), .val (.ref x1), .val (.int x2), .val (.int x3), .val .null, .unset] [] := by first | (simp [entryFrame, mkF, argsToLocals, Value.category]; done) | rfl
theorem pn6 : plainFor (⟨"java/lang/String", "<init>", "([CIILjava/lang/Void;)V"⟩ : MethodName) = true := plainFor_of_name (by first | (simp [plainName, overriddenIn]; done) | decide +kernel)
theorem d6_0 : decode jdk_42_method_149_code 0 = .ok (.aload_n 0, 1) := by decide +kernel
theorem d6_1 : decode jdk_42_method_149_code 1 = .ok (.invokespecial 1, 3) := by decide +kernel
theorem d6_4 : decode jdk_42_method_149_code 4 = .ok (.iload_n 3, 1) := by decide +kernel
theorem d6_5 : decode jdk_42_method_149_code 5 = .ok (.ifCond .ne 22, 3) := by decide +kernel
theorem d6_27 : decode jdk_42_method_149_code 27 = .ok (.getstatic 38, 3) := by decide +kernel
theorem d6_30 : decode jdk_42_method_149_code 30 = .ok (.ifCond .eq 28, 3) := by decide +kernel
theorem d6_33 : decode jdk_42_method_149_code 33 = .ok (.aload_n 1, 1) := by decide +kernel
theorem d6_34 : decode jdk_42_method_149_code 34 = .ok (.iload_n 2, 1) := by decide +kernel
theorem d6_35 : decode jdk_42_method_149_code 35 = .ok (.iload_n 3, 1) := by decide +kernel
theorem d6_36 : decode jdk_42_method_149_code 36 = .ok (.invokestatic 177, 3) := by decide +kernel
theorem pd8 : parseMethodDescriptor "([CII)[B" = some ⟨[(.array .char), .int, .int], some (.array .byte)⟩ := by decide +kernel
theorem d6_39 : decode jdk_42_method_149_code 39 = .ok (.astore 5, 2) := by decide +kernel
theorem d6_41 : decode jdk_42_method_149_code 41 = .ok (.aload_n 0, 1) := by decide +kernel
theorem d6_42 : decode jdk_42_method_149_code 42 = .ok (.aload 5, 2) := by decide +kernel
theorem d6_44 : decode jdk_42_method_149_code 44 = .ok (.iload_n 3, 1) := by decide +kernel
theorem d6_45 : decode jdk_42_method_149_code 45 = .ok (.invokestatic 47, 3) := by decide +kernel
theorem pd6 : parseMethodDescriptor "([BI)B" = some ⟨[(.array .byte), .int], some .byte⟩ := by decide +kernel
theorem d6_48 : decode jdk_42_method_149_code 48 = .ok (.putfield 15, 3) := by decide +kernel
theorem d6_51 : decode jdk_42_method_149_code 51 = .ok (.aload_n 0, 1) := by decide +kernel
theorem d6_52 : decode jdk_42_method_149_code 52 = .ok (.aload 5, 2) := by decide +kernel
theorem d6_54 : decode jdk_42_method_149_code 54 = .ok (.putfield 9, 3) := by decide +kernel
theorem d6_57 : decode jdk_42_method_149_code 57 = .ok (.return_, 1) := by decide +kernel
theorem ef5 (m : MethodId) (x0 : Addr) (x1 : Addr) : entryFrame m #[(.ref x0), (.ref x1)] 2 = mkF m 0 #[.val (.ref x0), .val (.ref x1)] [] := by first | (simp [entryFrame, mkF, argsToLocals, Value.category]; done) | rfl
theorem pn5 : plainFor (⟨"java/lang/String", "<init>", "([C)V"⟩ : MethodName) = true := plainFor_of_name (by first | (simp [plainName, overriddenIn]; done) | decide +kernel)
theorem d5_0 : decode jdk_42_method_3_code 0 = .ok (.aload_n 0, 1) := by decide +kernel
theorem d5_1 : decode jdk_42_method_3_code 1 = .ok (.aload_n 1, 1) := by decide +kernel
theorem d5_2 : decode jdk_42_method_3_code 2 = .ok (.iconst 0, 1) := by decide +kernel
theorem d5_3 : decode jdk_42_method_3_code 3 = .ok (.aload_n 1, 1) := by decide +kernel
theorem d5_4 : decode jdk_42_method_3_code 4 = .ok (.arraylength, 1) := by decide +kernel
theorem d5_5 : decode jdk_42_method_3_code 5 = .ok (.aconst_null, 1) := by decide +kernel
theorem d5_6 : decode jdk_42_method_3_code 6 = .ok (.invokespecial 27, 3) := by decide +kernel
theorem pd9 : parseMethodDescriptor "([CIILjava/lang/Void;)V" = some ⟨[(.array .char), .int, .int, (.object "java/lang/Void")], none⟩ := by decide +kernel
theorem d5_9 : decode jdk_42_method_3_code 9 = .ok (.return_, 1) := by decide +kernel
theorem ef11 (m : MethodId) (x0 : Addr) (x1 : Addr) : entryFrame m #[(.ref x0), (.ref x1)] 2 = mkF m 0 #[.val (.ref x0), .val (.ref x1)] [] := by first | (simp [entryFrame, mkF, argsToLocals, Value.category]; done) | rfl
theorem pn11 : plainFor (⟨"java/util/Objects", "requireNonNull", "(Ljava/lang/Object;Ljava/lang/String;)Ljava/lang/Object;"⟩ : MethodName) = true := plainFor_of_name (by first | (simp [plainName, overriddenIn]; done) | decide +kernel)
theorem d11_0 : decode jdk_31_method_11_code 0 = .ok (.aload_n 0, 1) := by decide +kernel
theorem d11_1 : decode jdk_31_method_11_code 1 = .ok (.ifnonnull 12, 3) := by decide +kernel
theorem d11_13 : decode jdk_31_method_11_code 13 = .ok (.aload_n 0, 1) := by decide +kernel
theorem d11_14 : decode jdk_31_method_11_code 14 = .ok (.areturn, 1) := by decide +kernel
theorem ef10 (m : MethodId) (x0 : Addr) (x1 : Addr) : entryFrame m #[(.ref x0), (.ref x1)] 2 = mkF m 0 #[.val (.ref x0), .val (.ref x1)] [] := by first | (simp [entryFrame, mkF, argsToLocals, Value.category]; done) | rfl
theorem pn10 : plainFor (⟨"com/example/chasm/chasm/model/Constant", "<init>", "(Ljava/lang/String;)V"⟩ : MethodName) = true := plainFor_of_name (by first | (simp [plainName, overriddenIn]; done) | decide +kernel)
theorem d10_0 : decode prog_39_method_1_code 0 = .ok (.aload_n 0, 1) := by decide +kernel
theorem d10_1 : decode prog_39_method_1_code 1 = .ok (.invokespecial 1, 3) := by decide +kernel
theorem d10_4 : decode prog_39_method_1_code 4 = .ok (.aload_n 1, 1) := by decide +kernel
theorem d10_5 : decode prog_39_method_1_code 5 = .ok (.ldc 7, 2) := by decide +kernel
theorem d10_7 : decode prog_39_method_1_code 7 = .ok (.invokestatic 9, 3) := by decide +kernel
theorem pd4 : parseMethodDescriptor "(Ljava/lang/Object;Ljava/lang/String;)Ljava/lang/Object;" = some ⟨[(.object "java/lang/Object"), (.object "java/lang/String")], some (.object "java/lang/Object")⟩ := by decide +kernel
theorem d10_10 : decode prog_39_method_1_code 10 = .ok (.pop, 1) := by decide +kernel
theorem d10_11 : decode prog_39_method_1_code 11 = .ok (.aload_n 0, 1) := by decide +kernel
theorem d10_12 : decode prog_39_method_1_code 12 = .ok (.aload_n 1, 1) := by decide +kernel
theorem d10_13 : decode prog_39_method_1_code 13 = .ok (.putfield 15, 3) := by decide +kernel
theorem d10_16 : decode prog_39_method_1_code 16 = .ok (.return_, 1) := by decide +kernel
theorem ef0 (m : MethodId) (x0 : Int64) (x1 : Int64) (x2 : Int32) (x3 : Int32) : entryFrame m #[(.long x0), (.long x1), (.int x2), (.int x3)] maxLocals = mkF m 0 #[.val (.long x0), .second, .val (.long x1), .second, .val (.int x2), .val (.int x3), .unset, .unset, .unset, .unset, .unset, .unset, .unset] [] := by first | (simp [entryFrame, mkF, argsToLocals, Value.category, maxLocals]; done) | rfl
theorem pn0 : plainFor (⟨"com/example/chasm/chasm/model/InventedValueEqualsPinLaw", "law", "(JJII)Z"⟩ : MethodName) = true := plainFor_of_name (by first | (simp [plainName, overriddenIn]; done) | decide +kernel)
theorem pd3 : parseMethodDescriptor "(Ljava/lang/Object;)Z" = some ⟨[(.object "java/lang/Object")], some .boolean⟩ := by decide +kernel
theorem pd7 : parseMethodDescriptor "([C)V" = some ⟨[(.array .char)], none⟩ := by decide +kernel
theorem pd5 : parseMethodDescriptor "(Ljava/lang/String;)V" = some ⟨[(.object "java/lang/String")], none⟩ := by decide +kernel
theorem pd1 : parseMethodDescriptor "(J)Ljava/lang/Long;" = some ⟨[.long], some (.object "java/lang/Long")⟩ := by decide +kernel

theorem own_bjL {x : Int64} (h1 : ¬ x < (-128 : Int64)) (h2 : ¬ (127 : Int64) < x) {cl : Cell} (hs : cl.slots.size = (256 : Int32).toNatClampNeg) : ¬ (x.toInt32 + 128 < 0 ∨ cl.slots.size ≤ (x.toInt32 + 128).toNatClampNeg) := by
  have k1 : (-128 : Int64).toInt = -128 := by decide
  have k2 : (127 : Int64).toInt = 127 := by decide
  have k3 : (128 : Int32).toInt = 128 := by decide
  have k0 : (0 : Int32).toInt = 0 := by decide
  have k4 : (256 : Int32).toNatClampNeg = 256 := by decide
  have q := c_iadd x.toInt32 128
  have q2 := c_l2i x
  have r := rng32 (x.toInt32 + 128)
  have r2 := rng32 x.toInt32
  rw [Int64.lt_iff_toInt_lt, k1] at h1
  rw [Int64.lt_iff_toInt_lt, k2] at h2
  rw [k3] at q
  rw [hs, k4, Int32.lt_iff_toInt_lt, k0]
  simp only [Int32.toNatClampNeg]
  omega
theorem own_ch (x : Int32) : ¬ (255 : Int32) < ((x &&& 255).toUInt32.toUInt16.toUInt32.toInt32).toUInt32.toUInt16.toUInt32.toInt32 := by
  have e : (x &&& 255).toInt = x.toInt % (2 ^ 8 : Nat) := c_mask x 255 8 (by decide) (by decide)
  have a := c_i2c (x &&& 255)
  have b := c_i2c ((x &&& 255).toUInt32.toUInt16.toUInt32.toInt32)
  have k : (255 : Int32).toInt = 255 := by decide
  rw [Int32.lt_iff_toInt_lt, k]; omega
theorem own_k5 (x : Int32) : (x &&& 7) % 5 = 0 ∨ (x &&& 7) % 5 = 1 ∨ (x &&& 7) % 5 = 2 ∨ (x &&& 7) % 5 = 3 ∨ (x &&& 7) % 5 = 4 := by
  have e : (x &&& 7).toInt = x.toInt % (2 ^ 3 : Nat) := c_mask x 7 3 (by decide) (by decide)
  have q := (c_irem (x &&& 7) 5 5 (by decide)).1 (by rw [e]; omega)
  simp only [← Int32.toInt_inj]
  have k0 : (0 : Int32).toInt = 0 := by decide
  have k1 : (1 : Int32).toInt = 1 := by decide
  have k2 : (2 : Int32).toInt = 2 := by decide
  have k3 : (3 : Int32).toInt = 3 := by decide
  have k4 : (4 : Int32).toInt = 4 := by decide
  rw [k0, k1, k2, k3, k4]; omega

theorem own_strs {a0 : Array Value} {Z : State} (hw : Hw a0 Z) : ∀ a ∈ Bundle.stringAtoms, a.before a0 Z = true := fun d hd => by
  simp only [Bundle.stringAtoms, List.mem_cons, List.not_mem_nil, or_false] at hd
  rcases hd with rfl | rfl | rfl | rfl | rfl | rfl | rfl
  · exact (w29 hw)
  · exact (w28 hw)
  · exact (w43 hw)
  · exact (w53 hw)
  · exact (w51 hw)
  · exact (w59 hw)
  · exact (w60 hw)
set_option maxRecDepth 65536 in
set_option maxHeartbeats 40000000 in
theorem c_rec (l : Launch) (Z : State) (a0 : Array Value) (hw : Hw a0 Z) (o : Addr) (h0 : Heap) (n0 : Nat) (Z0 : n0 ≤ h0.size)  :
    Met l Z (⟨"java/lang/Record", "<init>", "()V"⟩ : MethodName) jdk_30_method_1_code 1 none [] ({ frames := 1, cells := 0, slots := 0, locals := 12 } : Room) #[(.ref o)] h0 n0 (Ret0 (fun h => h0 = h)) := by
  refine Met.intro pn2 (own := "java/lang/Record") rfl (nm := "<init>") rfl (fun m => ef2 m o) ?_
  intro p e s m below meth c C
  refine s_aloadN C d2_0 (pc' := 1) rfl rfl rfl ?_
  refine s_initO C d2_1 (pc' := 4) rfl (w11 hw) (w12 hw) (w13 hw) rfl (by decide) (W := 0) rfl (by decide) ?_
  exact s_ret0 C d2_4 (by decide) (by decide) rfl
set_option maxRecDepth 65536 in
set_option maxHeartbeats 40000000 in
theorem c_inv (l : Launch) (Z : State) (a0 : Array Value) (hw : Hw a0 Z) (o : Addr) (x1 : Int64) (h0 : Heap) (n0 : Nat) (Z0 : n0 ≤ h0.size) (E_o : Exa Z h0 o "com/example/chasm/chasm/model/InventedValue") (g_o : n0 ≤ o) (F_number : Fld Z h0 o "com/example/chasm/chasm/model/InventedValue" "number" "J" (.long (0 : Int64)))  :
    Met l Z (⟨"com/example/chasm/chasm/model/InventedValue", "<init>", "(J)V"⟩ : MethodName) prog_51_method_1_code 3 none [] ({ frames := 2, cells := 0, slots := 0, locals := 24 } : Room) #[(.ref o), (.long x1)] h0 n0 (Ret0 (fun h => Keep h0 h [o] ∧ Exa Z h o "com/example/chasm/chasm/model/InventedValue" ∧ Fld Z h o "com/example/chasm/chasm/model/InventedValue" "number" "J" (.long x1))) := by
  refine Met.intro pn1 (own := "com/example/chasm/chasm/model/InventedValue") rfl (nm := "<init>") rfl (fun m => ef1 m o x1) ?_
  intro p e s m below meth c C
  refine s_aloadN C d1_0 (pc' := 1) rfl rfl rfl ?_
  refine s_callI C d1_1 (pc' := 4) rfl (w6 hw) rfl (w7 hw) (w9 hw) (w10 hw) (by decide) [] [] pd0 rfl rfl (c_rec l Z a0 hw o h0 n0 Z0) rfl (W := 0) rfl (by decide) (by decide) (k' := 0) rfl (by decide) (n' := 0) rfl (by decide) (fun _ q1 => ?_)
  obtain rfl := q1
  refine s_aloadN C d1_4 (pc' := 5) rfl rfl rfl ?_
  refine s_lloadN C d1_5 (pc' := 6) rfl rfl ?_
  refine s_putF C d1_6 (pc' := 9) rfl (w14 hw) F_number E_o (Or.inr ⟨(w15 hw), rfl, rfl⟩) (w1 hw) (ty := .long) (by decide) rfl rfl g_o (fun h2 W2 => ?_)
  have F2 := F_number.same W2
  have sz3 : n0 ≤ h2.size := (Nat.le_trans Z0 (Nat.le_of_eq W2.size.symm))
  have Kp4 : Keep h0 h2 [o] := (Keep.refl h0 [o]).wr W2 (Or.inl (List.mem_of_getElem? (i := 0) rfl))
  have Ex5 := (E_o.wr W2)
  exact s_ret0 C d1_9 (by decide) (by decide) ⟨Kp4, Ex5, F2⟩
set_option maxRecDepth 65536 in
set_option maxHeartbeats 40000000 in
theorem c_eqN (l : Launch) (Z : State) (a0 : Array Value) (hw : Hw a0 Z) (o : Addr) (h0 : Heap) (n0 : Nat) (Z0 : n0 ≤ h0.size)  :
    Met l Z (⟨"com/example/chasm/chasm/model/InventedValue", "equals", "(Ljava/lang/Object;)Z"⟩ : MethodName) prog_51_method_2_code 3 (some .boolean) [] ({ frames := 0, cells := 0, slots := 0, locals := 0 } : Room) #[(.ref o), .null] h0 n0 (RetI (fun z h => z = 0 ∧ h0 = h)) := by
  refine Met.intro pn4 (own := "com/example/chasm/chasm/model/InventedValue") rfl (nm := "equals") rfl (fun m => ef4n1 m o) ?_
  intro p e s m below meth c C
  refine s_aloadN C d4_0 (pc' := 1) rfl rfl rfl ?_
  refine s_instNull C d4_1 (pc' := 4) rfl ?_
  refine s_if_eq C d4_4 (pc' := 7) rfl (pcY := 28) rfl (fun c1 => ?_) (fun hc => by exfalso; revert hc; decide)
  refine s_iconst C d4_28 (pc' := 29) rfl (0 : Int32) rfl ?_
  exact s_retN C (by simp) d4_29 (by decide) (by decide) ⟨rfl, rfl⟩
set_option maxRecDepth 65536 in
set_option maxHeartbeats 40000000 in
theorem c_eqC (l : Launch) (Z : State) (a0 : Array Value) (hw : Hw a0 Z) (o b : Addr) (h0 : Heap) (n0 : Nat) (Z0 : n0 ≤ h0.size) (X_b : Exa Z h0 b "com/example/chasm/chasm/model/Constant") :
    Met l Z (⟨"com/example/chasm/chasm/model/InventedValue", "equals", "(Ljava/lang/Object;)Z"⟩ : MethodName) prog_51_method_2_code 3 (some .boolean) [] ({ frames := 0, cells := 0, slots := 0, locals := 0 } : Room) #[(.ref o), (.ref b)] h0 n0 (RetI (fun z h => z = 0 ∧ h0 = h)) := by
  refine Met.intro pn4 (own := "com/example/chasm/chasm/model/InventedValue") rfl (nm := "equals") rfl (fun m => ef4 m o b) ?_
  intro p e s m below meth c C
  refine s_aloadN C d4_0 (pc' := 1) rfl rfl rfl ?_
  refine s_instNo C d4_1 (pc' := 4) rfl (w22 hw) X_b (ns_no (w67 hw) (w1 hw) (NS.step (w67 hw) (NS.step (w68 hw) (ns_root (w69 hw) (w1 hw) (by decide)) (by decide)) (by decide)) (by decide)) ?_
  refine s_if_eq C d4_4 (pc' := 7) rfl (pcY := 28) rfl (fun c1 => ?_) (fun hc => by exfalso; revert hc; decide)
  refine s_iconst C d4_28 (pc' := 29) rfl (0 : Int32) rfl ?_
  exact s_retN C (by simp) d4_29 (by decide) (by decide) ⟨rfl, rfl⟩
set_option maxRecDepth 65536 in
set_option maxHeartbeats 40000000 in
theorem c_eqL (l : Launch) (Z : State) (a0 : Array Value) (hw : Hw a0 Z) (o b : Addr) (h0 : Heap) (n0 : Nat) (Z0 : n0 ≤ h0.size) (X_b : Exa Z h0 b "java/lang/Long") :
    Met l Z (⟨"com/example/chasm/chasm/model/InventedValue", "equals", "(Ljava/lang/Object;)Z"⟩ : MethodName) prog_51_method_2_code 3 (some .boolean) [] ({ frames := 0, cells := 0, slots := 0, locals := 0 } : Room) #[(.ref o), (.ref b)] h0 n0 (RetI (fun z h => z = 0 ∧ h0 = h)) := by
  refine Met.intro pn4 (own := "com/example/chasm/chasm/model/InventedValue") rfl (nm := "equals") rfl (fun m => ef4 m o b) ?_
  intro p e s m below meth c C
  refine s_aloadN C d4_0 (pc' := 1) rfl rfl rfl ?_
  refine s_instNo C d4_1 (pc' := 4) rfl (w22 hw) X_b (ns_no (w91 hw) (w1 hw) (NS.step (w91 hw) (NS.step (w92 hw) (ns_root (w69 hw) (w1 hw) (by decide)) (by decide)) (by decide)) (by decide)) ?_
  refine s_if_eq C d4_4 (pc' := 7) rfl (pcY := 28) rfl (fun c1 => ?_) (fun hc => by exfalso; revert hc; decide)
  refine s_iconst C d4_28 (pc' := 29) rfl (0 : Int32) rfl ?_
  exact s_retN C (by simp) d4_29 (by decide) (by decide) ⟨rfl, rfl⟩
set_option maxRecDepth 65536 in
set_option maxHeartbeats 40000000 in
theorem c_eqI (l : Launch) (Z : State) (a0 : Array Value) (hw : Hw a0 Z) (o b : Addr) (no nb : Int64) (h0 : Heap) (n0 : Nat) (Z0 : n0 ≤ h0.size) (X_o : Exa Z h0 o "com/example/chasm/chasm/model/InventedValue") (F_o : Fld Z h0 o "com/example/chasm/chasm/model/InventedValue" "number" "J" (.long no)) (X_b : Exa Z h0 b "com/example/chasm/chasm/model/InventedValue") (F_b : Fld Z h0 b "com/example/chasm/chasm/model/InventedValue" "number" "J" (.long nb)) :
    Met l Z (⟨"com/example/chasm/chasm/model/InventedValue", "equals", "(Ljava/lang/Object;)Z"⟩ : MethodName) prog_51_method_2_code 3 (some .boolean) [] ({ frames := 0, cells := 0, slots := 0, locals := 0 } : Room) #[(.ref o), (.ref b)] h0 n0 (RetI (fun z h => (no = nb → z = 1) ∧ (¬ no = nb → z = 0) ∧ h0 = h)) := by
  refine Met.intro pn4 (own := "com/example/chasm/chasm/model/InventedValue") rfl (nm := "equals") rfl (fun m => ef4 m o b) ?_
  intro p e s m below meth c C
  refine s_aloadN C d4_0 (pc' := 1) rfl rfl rfl ?_
  refine s_instY C d4_1 (pc' := 4) rfl (w22 hw) (Ins.self X_b) ?_
  refine s_if_eq C d4_4 (pc' := 7) rfl (pcY := 28) rfl (fun hc => by exfalso; revert hc; decide) (fun c1 => ?_)
  refine s_aloadN C d4_7 (pc' := 8) rfl rfl rfl ?_
  refine s_cast C d4_8 (pc' := 11) rfl (w22 hw) (Ins.self X_b) ?_
  refine s_astoreN C d4_11 (pc' := 12) rfl rfl #[.val (.ref o), .val (.ref b), .val (.ref b)] rfl ?_
  refine s_aloadN C d4_12 (pc' := 13) rfl rfl rfl ?_
  refine s_getF C d4_13 (pc' := 16) rfl (w14 hw) F_o ?_
  refine s_aloadN C d4_16 (pc' := 17) rfl rfl rfl ?_
  refine s_getF C d4_17 (pc' := 20) rfl (w14 hw) F_b ?_
  refine s_lc_ne C d4_20 (pc1 := 21) rfl d4_21 (pc' := 24) rfl (pcY := 28) rfl (fun c2 => ?_) (fun c2 => ?_)
  · skip
    refine s_iconst C d4_28 (pc' := 29) rfl (0 : Int32) rfl ?_
    exact s_retN C (by simp) d4_29 (by decide) (by decide) ⟨fun q => absurd q c2, fun _ => rfl, rfl⟩
  · skip
    refine s_iconst C d4_24 (pc' := 25) rfl (1 : Int32) rfl ?_
    refine s_goto C d4_25 (pc' := 29) rfl ?_
    exact s_retN C (by simp) d4_29 (by decide) (by decide) ⟨fun _ => rfl, fun q => absurd c2 q, rfl⟩
set_option maxRecDepth 65536 in
set_option maxHeartbeats 40000000 in
theorem c_num (l : Launch) (Z : State) (a0 : Array Value) (hw : Hw a0 Z) (o : Addr) (h0 : Heap) (n0 : Nat) (Z0 : n0 ≤ h0.size)  :
    Met l Z (⟨"java/lang/Number", "<init>", "()V"⟩ : MethodName) jdk_18_method_1_code 1 none [] ({ frames := 1, cells := 0, slots := 0, locals := 12 } : Room) #[(.ref o)] h0 n0 (Ret0 (fun h => h0 = h)) := by
  refine Met.intro pn14 (own := "java/lang/Number") rfl (nm := "<init>") rfl (fun m => ef14 m o) ?_
  intro p e s m below meth c C
  refine s_aloadN C d14_0 (pc' := 1) rfl rfl rfl ?_
  refine s_initO C d14_1 (pc' := 4) rfl (w88 hw) (w12 hw) (w13 hw) rfl (by decide) (W := 0) rfl (by decide) ?_
  exact s_ret0 C d14_4 (by decide) (by decide) rfl
set_option maxRecDepth 65536 in
set_option maxHeartbeats 40000000 in
theorem c_lng (l : Launch) (Z : State) (a0 : Array Value) (hw : Hw a0 Z) (o : Addr) (x1 : Int64) (h0 : Heap) (n0 : Nat) (Z0 : n0 ≤ h0.size) (E_o : Exa Z h0 o "java/lang/Long") (g_o : n0 ≤ o) (F_value : Fld Z h0 o "java/lang/Long" "value" "J" (.long (0 : Int64)))  :
    Met l Z (⟨"java/lang/Long", "<init>", "(J)V"⟩ : MethodName) jdk_35_method_26_code 3 none [] ({ frames := 2, cells := 0, slots := 0, locals := 24 } : Room) #[(.ref o), (.long x1)] h0 n0 (Ret0 (fun h => Keep h0 h [o] ∧ Exa Z h o "java/lang/Long" ∧ Fld Z h o "java/lang/Long" "value" "J" (.long x1))) := by
  refine Met.intro pn13 (own := "java/lang/Long") rfl (nm := "<init>") rfl (fun m => ef13 m o x1) ?_
  intro p e s m below meth c C
  refine s_aloadN C d13_0 (pc' := 1) rfl rfl rfl ?_
  refine s_callI C d13_1 (pc' := 4) rfl (w82 hw) rfl (w83 hw) (w86 hw) (w87 hw) (by decide) [] [] pd0 rfl rfl (c_num l Z a0 hw o h0 n0 Z0) rfl (W := 0) rfl (by decide) (by decide) (k' := 0) rfl (by decide) (n' := 0) rfl (by decide) (fun _ q1 => ?_)
  obtain rfl := q1
  refine s_aloadN C d13_4 (pc' := 5) rfl rfl rfl ?_
  refine s_lloadN C d13_5 (pc' := 6) rfl rfl ?_
  refine s_putF C d13_6 (pc' := 9) rfl (w89 hw) F_value E_o (Or.inr ⟨(w90 hw), rfl, rfl⟩) (w77 hw) (ty := .long) (by decide) rfl rfl g_o (fun h2 W2 => ?_)
  have F2 := F_value.same W2
  have sz3 : n0 ≤ h2.size := (Nat.le_trans Z0 (Nat.le_of_eq W2.size.symm))
  have Kp4 : Keep h0 h2 [o] := (Keep.refl h0 [o]).wr W2 (Or.inl (List.mem_of_getElem? (i := 0) rfl))
  have Ex5 := (E_o.wr W2)
  exact s_ret0 C d13_9 (by decide) (by decide) ⟨Kp4, Ex5, F2⟩
set_option maxRecDepth 65536 in
set_option maxHeartbeats 40000000 in
theorem c_vof (l : Launch) (Z : State) (a0 : Array Value) (hw : Hw a0 Z) (x1 : Int64) (ca : Addr) (cl : Cell) (cs : Int32) (h0 : Heap) (n0 : Nat) (Z0 : n0 ≤ h0.size) (O0 : Old Z n0 h0) (S_ca : Sta Z Z.heap "java/lang/Long$LongCache" "cache" "[Ljava/lang/Long;" (.ref ca)) (B : Bxs Z ca cl "java/lang/Long" "J" 256 (fun j => .long (j - 128).toInt64)) (S_cs : Sta Z Z.heap "java/lang/String" "COMPACT_STRINGS" "Z" (.int cs)) (hcs : ¬ cs = 0) :
    Met l Z (⟨"java/lang/Long", "valueOf", "(J)Ljava/lang/Long;"⟩ : MethodName) jdk_35_method_24_code 3 (some (.object "java/lang/Long")) [] ({ frames := 3, cells := 1, slots := 1, locals := 40 } : Room) #[(.long x1)] h0 n0 (RetV (fun z h => ∃ b : Addr, z = .ref b ∧ Keep h0 h [] ∧ Exa Z h b "java/lang/Long")) := by
  refine Met.intro pn12 (own := "java/lang/Long") rfl (nm := "valueOf") rfl (fun m => ef12 m x1) ?_
  intro p e s m below meth c C
  refine s_sipush C d12_0 (pc' := 3) rfl (128 : Int32) rfl ?_
  refine s_istoreNP C d12_3 (pc' := 4) rfl #[.val (.long x1), .second, .val (.int (128 : Int32))] rfl ?_
  refine s_lloadN C d12_4 (pc' := 5) rfl rfl ?_
  refine s_ldc2 C d12_5 (pc' := 8) rfl (w74 hw) ?_
  refine s_lc_lt C d12_8 (pc1 := 9) rfl d12_9 (pc' := 12) rfl (pcY := 31) rfl (fun c1 => ?_) (fun c1 => ?_)
  · skip
    refine s_new C d12_31 (pc' := 34) rfl (w76 hw) (w77 hw) (w72 hw) (k' := 1) rfl (by decide) (n' := 1) rfl (by decide) (fun h2 a2 E2 g2 A2 D2 => ?_)
    have gn3 : n0 ≤ a2 := by rw [g2]; exact Z0
    have bs4 : h0.size ≤ a2 := by rw [g2]; exact (Keep.refl h0 []).1
    have sz5 : n0 ≤ h2.size := (Nat.le_trans Z0 E2.1)
    have Kp6 : Keep h0 h2 [] := (Keep.refl h0 []).ext E2
    have Od7 : Old Z n0 h2 := O0.ext E2
    have F2_value : Fld Z h2 a2 "java/lang/Long" "value" "J" (.long (0 : Int64)) := D2 (Or.inr (w90 hw)) (ty := .long) (by decide)
    refine s_dup C d12_34 (pc' := 35) rfl rfl ?_
    refine s_lloadN C d12_35 (pc' := 36) rfl rfl ?_
    refine s_callI C d12_36 (pc' := 39) rfl (w78 hw) rfl (w79 hw) (w72 hw) (w81 hw) (by decide) [(.long x1)] [(.ref a2)] pd2 rfl rfl (c_lng l Z a0 hw a2 x1 h2 n0 sz5 A2 gn3 F2_value ) rfl (W := 1) rfl (by decide) (by decide) (k' := 1) rfl (by decide) (n' := 1) rfl (by decide) (fun h8 q8 => ?_)
    obtain ⟨K8, E8, F8_value⟩ := q8
    have sz9 : n0 ≤ h8.size := (Nat.le_trans sz5 K8.1)
    have Kp10 : Keep h0 h8 [] := Kp6.trans K8 (allS (Or.inr bs4) all0)
    have Od11 : Old Z n0 h8 := Od7.keep K8 (allS gn3 all0)
    exact s_retA C rfl rfl rfl d12_39 (by decide) (by decide) ⟨a2, rfl, Kp10, E8⟩
  · skip
    refine s_lloadN C d12_12 (pc' := 13) rfl rfl ?_
    refine s_ldc2 C d12_13 (pc' := 16) rfl (w75 hw) ?_
    refine s_lc_gt C d12_16 (pc1 := 17) rfl d12_17 (pc' := 20) rfl (pcY := 31) rfl (fun c12 => ?_) (fun c12 => ?_)
    · skip
      refine s_new C d12_31 (pc' := 34) rfl (w76 hw) (w77 hw) (w72 hw) (k' := 1) rfl (by decide) (n' := 1) rfl (by decide) (fun h13 a13 E13 g13 A13 D13 => ?_)
      have gn14 : n0 ≤ a13 := by rw [g13]; exact Z0
      have bs15 : h0.size ≤ a13 := by rw [g13]; exact (Keep.refl h0 []).1
      have sz16 : n0 ≤ h13.size := (Nat.le_trans Z0 E13.1)
      have Kp17 : Keep h0 h13 [] := (Keep.refl h0 []).ext E13
      have Od18 : Old Z n0 h13 := O0.ext E13
      have F13_value : Fld Z h13 a13 "java/lang/Long" "value" "J" (.long (0 : Int64)) := D13 (Or.inr (w90 hw)) (ty := .long) (by decide)
      refine s_dup C d12_34 (pc' := 35) rfl rfl ?_
      refine s_lloadN C d12_35 (pc' := 36) rfl rfl ?_
      refine s_callI C d12_36 (pc' := 39) rfl (w78 hw) rfl (w79 hw) (w72 hw) (w81 hw) (by decide) [(.long x1)] [(.ref a13)] pd2 rfl rfl (c_lng l Z a0 hw a13 x1 h13 n0 sz16 A13 gn14 F13_value ) rfl (W := 1) rfl (by decide) (by decide) (k' := 1) rfl (by decide) (n' := 1) rfl (by decide) (fun h19 q19 => ?_)
      obtain ⟨K19, E19, F19_value⟩ := q19
      have sz20 : n0 ≤ h19.size := (Nat.le_trans sz16 K19.1)
      have Kp21 : Keep h0 h19 [] := Kp17.trans K19 (allS (Or.inr bs15) all0)
      have Od22 : Old Z n0 h19 := Od18.keep K19 (allS gn14 all0)
      exact s_retA C rfl rfl rfl d12_39 (by decide) (by decide) ⟨a13, rfl, Kp21, E19⟩
    · skip
      refine s_getS C d12_20 (pc' := 23) rfl (w93 hw) (S_ca.ext O0.2) ?_
      refine s_lloadN C d12_23 (pc' := 24) rfl rfl ?_
      refine s_l2i C d12_24 (pc' := 25) rfl ?_
      refine s_sipush C d12_25 (pc' := 28) rfl (128 : Int32) rfl ?_
      refine s_iadd C d12_28 (pc' := 29) rfl ?_
      have hj := own_bjL c1 c12 B.2.1
      obtain ⟨bx, hbx, Ebx, -⟩ := B.2.2.2 _ hj
      refine s_aaloadC C rfl d12_29 (pc' := 30) rfl (B.1.ext O0.2) hj hbx ?_
      exact s_retA C rfl rfl rfl d12_30 (by decide) (by decide) ⟨bx, rfl, (Keep.refl h0 []), (Ebx.ext O0.2)⟩
set_option maxRecDepth 65536 in
set_option maxHeartbeats 40000000 in
theorem c_cmp5 (l : Launch) (Z : State) (a0 : Array Value) (hw : Hw a0 Z) (a b : Addr) (ch : Int32) (h0 : Heap) (n0 : Nat) (Z0 : n0 ≤ h0.size) (hch : ¬ (255 : Int32) < ch) (hab : a ≠ b) (g_b : n0 ≤ b) (V_a : Av Z h0 a .char [.int ch]) (V_b : Av Z h0 b .byte [.int 0]) :
    Met l Z (⟨"java/lang/StringUTF16", "compress", "([CI[BII)I"⟩ : MethodName) jdk_52_method_21_code 7 (some .int) [] ({ frames := 0, cells := 0, slots := 0, locals := 0 } : Room) #[(.ref a), (.int (0 : Int32)), (.ref b), (.int (0 : Int32)), (.int (1 : Int32))] h0 n0 (RetI (fun z h => z = 1 ∧ Keep h0 h [b] ∧ ∃ y : Int32, Av Z h b .byte [.int y])) := by
  refine Met.intro pn8 (own := "java/lang/StringUTF16") rfl (nm := "compress") rfl (fun m => ef8 m a (0 : Int32) b (0 : Int32) (1 : Int32)) ?_
  intro p e s m below meth c C
  refine s_iconst C d8_0 (pc' := 1) rfl (0 : Int32) rfl ?_
  refine s_istoreP C d8_1 (pc' := 3) rfl #[.val (.ref a), .val (.int (0 : Int32)), .val (.ref b), .val (.int (0 : Int32)), .val (.int (1 : Int32)), .val (.int (0 : Int32)), .unset] rfl ?_
  refine s_iload C d8_3 (pc' := 5) rfl rfl ?_
  refine s_iload C d8_5 (pc' := 7) rfl rfl ?_
  refine s_icmp_ge C d8_7 (pc' := 10) rfl (pcY := 44) rfl (fun hc => by exfalso; revert hc; decide) (fun c1 => ?_)
  refine s_aloadN C d8_10 (pc' := 11) rfl rfl rfl ?_
  refine s_iloadN C d8_11 (pc' := 12) rfl rfl ?_
  refine s_caload C d8_12 (pc' := 13) rfl V_a 0 (by decide) rfl ?_
  refine s_istoreP C d8_13 (pc' := 15) rfl #[.val (.ref a), .val (.int (0 : Int32)), .val (.ref b), .val (.int (0 : Int32)), .val (.int (1 : Int32)), .val (.int (0 : Int32)), .val (.int ch)] rfl ?_
  refine s_iload C d8_15 (pc' := 17) rfl rfl ?_
  refine s_sipush C d8_17 (pc' := 20) rfl (255 : Int32) rfl ?_
  refine s_icmp_le C d8_20 (pc' := 23) rfl (pcY := 26) rfl (fun c2 => ?_) (fun hc => by exfalso; exact hch hc)
  refine s_aloadN C d8_26 (pc' := 27) rfl rfl rfl ?_
  refine s_iloadN C d8_27 (pc' := 28) rfl rfl ?_
  refine s_iload C d8_28 (pc' := 30) rfl rfl ?_
  refine s_i2b C d8_30 (pc' := 31) rfl ?_
  refine s_bastore C d8_31 (pc' := 32) rfl V_b 0 (by decide) (Nat.le_of_ble_eq_true rfl) g_b [(.int ch.toInt8.toInt32.toInt8.toInt32)] rfl (fun h3 W3 A3 => ?_)
  have sz4 : n0 ≤ h3.size := (Nat.le_trans Z0 (Nat.le_of_eq W3.size.symm))
  have Kp5 : Keep h0 h3 [b] := (Keep.refl h0 [b]).wr W3 (Or.inl (List.mem_of_getElem? (i := 0) rfl))
  refine s_iincP C d8_32 (pc' := 35) rfl rfl (1 : Int32) rfl #[.val (.ref a), .val (.int (1 : Int32)), .val (.ref b), .val (.int (0 : Int32)), .val (.int (1 : Int32)), .val (.int (0 : Int32)), .val (.int ch)] rfl ?_
  refine s_iincP C d8_35 (pc' := 38) rfl rfl (1 : Int32) rfl #[.val (.ref a), .val (.int (1 : Int32)), .val (.ref b), .val (.int (1 : Int32)), .val (.int (1 : Int32)), .val (.int (0 : Int32)), .val (.int ch)] rfl ?_
  refine s_iincP C d8_38 (pc' := 41) rfl rfl (1 : Int32) rfl #[.val (.ref a), .val (.int (1 : Int32)), .val (.ref b), .val (.int (1 : Int32)), .val (.int (1 : Int32)), .val (.int (1 : Int32)), .val (.int ch)] rfl ?_
  refine s_goto C d8_41 (pc' := 3) rfl ?_
  refine s_iload C d8_3 (pc' := 5) rfl rfl ?_
  refine s_iload C d8_5 (pc' := 7) rfl rfl ?_
  refine s_icmp_ge C d8_7 (pc' := 10) rfl (pcY := 44) rfl (fun c9 => ?_) (fun hc => by exfalso; revert hc; decide)
  refine s_iload C d8_44 (pc' := 46) rfl rfl ?_
  exact s_retI C d8_46 (by decide) (by decide) ⟨rfl, Kp5, _, A3⟩
set_option maxRecDepth 65536 in
set_option maxHeartbeats 40000000 in
theorem c_cmp3 (l : Launch) (Z : State) (a0 : Array Value) (hw : Hw a0 Z) (a : Addr) (ch : Int32) (h0 : Heap) (n0 : Nat) (Z0 : n0 ≤ h0.size) (hch : ¬ (255 : Int32) < ch) (V_a : Av Z h0 a .char [.int ch]) :
    Met l Z (⟨"java/lang/StringUTF16", "compress", "([CII)[B"⟩ : MethodName) jdk_52_method_16_code 6 (some (.array .byte)) [] ({ frames := 1, cells := 1, slots := 1, locals := 40 } : Room) #[(.ref a), (.int (0 : Int32)), (.int (1 : Int32))] h0 n0 (RetV (fun z h => ∃ r : Addr, z = .ref r ∧ Keep h0 h [] ∧ h0.size ≤ r ∧ ∃ y : Int32, Av Z h r .byte [.int y])) := by
  refine Met.intro pn7 (own := "java/lang/StringUTF16") rfl (nm := "compress") rfl (fun m => ef7 m a (0 : Int32) (1 : Int32)) ?_
  intro p e s m below meth c C
  refine s_iloadN C d7_0 (pc' := 1) rfl rfl ?_
  refine s_newarr C (cap := 1) d7_1 (pc' := 3) rfl (w43 hw) (by decide) (by decide) (by decide) (k' := 1) rfl (by decide) (n' := 1) rfl (by decide) [(.int (0 : Int32))] rfl (fun h1 a1 E1 g1 A1 => ?_)
  have ne2 : a ≠ a1 := Nat.ne_of_lt (by rw [g1]; exact V_a.lt)
  have gn3 : n0 ≤ a1 := by rw [g1]; exact Z0
  have bs4 : h0.size ≤ a1 := by rw [g1]; exact (Keep.refl h0 []).1
  have sz5 : n0 ≤ h1.size := (Nat.le_trans Z0 E1.1)
  have Kp6 : Keep h0 h1 [] := (Keep.refl h0 []).ext E1
  refine s_astoreN C d7_3 (pc' := 4) rfl rfl #[.val (.ref a), .val (.int (0 : Int32)), .val (.int (1 : Int32)), .val (.ref a1), .unset, .unset] rfl ?_
  refine s_aloadN C d7_4 (pc' := 5) rfl rfl rfl ?_
  refine s_iloadN C d7_5 (pc' := 6) rfl rfl ?_
  refine s_aloadN C d7_6 (pc' := 7) rfl rfl rfl ?_
  refine s_iconst C d7_7 (pc' := 8) rfl (0 : Int32) rfl ?_
  refine s_iloadN C d7_8 (pc' := 9) rfl rfl ?_
  have Vx8 := (V_a.ext E1)
  refine s_callSI C d7_9 (pc' := 12) rfl (w44 hw) (w45 hw) (w41 hw) (w46 hw) (by decide) [(.ref a), (.int (0 : Int32)), (.ref a1), (.int (0 : Int32)), (.int (1 : Int32))] [] pd10 rfl rfl (c_cmp5 l Z a0 hw a a1 ch h1 n0 sz5 hch ne2 gn3 Vx8 A1) rfl (W := 0) rfl (by decide) (by decide) (k' := 1) rfl (by decide) (n' := 1) rfl (by decide) (fun _ h7 q7 => ?_)
  obtain ⟨rfl, K7, y7, V7⟩ := q7
  have sz9 : n0 ≤ h7.size := (Nat.le_trans sz5 K7.1)
  have Kp10 : Keep h0 h7 [] := Kp6.trans K7 (allS (Or.inr bs4) all0)
  refine s_istoreP C d7_12 (pc' := 14) rfl #[.val (.ref a), .val (.int (0 : Int32)), .val (.int (1 : Int32)), .val (.ref a1), .val (.int (1 : Int32)), .unset] rfl ?_
  refine s_iload C d7_14 (pc' := 16) rfl rfl ?_
  refine s_iloadN C d7_16 (pc' := 17) rfl rfl ?_
  refine s_icmp_eq C d7_17 (pc' := 20) rfl (pcY := 57) rfl (fun c11 => ?_) (fun hc => by exfalso; revert hc; decide)
  refine s_aloadN C d7_57 (pc' := 58) rfl rfl rfl ?_
  exact s_retA C rfl rfl rfl d7_58 (by decide) (by decide) ⟨a1, rfl, Kp10, bs4, _, V7⟩
set_option maxRecDepth 65536 in
set_option maxHeartbeats 40000000 in
theorem c_cod (l : Launch) (Z : State) (a0 : Array Value) (hw : Hw a0 Z) (b : Addr) (y : Int32) (h0 : Heap) (n0 : Nat) (Z0 : n0 ≤ h0.size) (V_b : Av Z h0 b .byte [.int y]) :
    Met l Z (⟨"java/lang/StringUTF16", "coderFromArrayLen", "([BI)B"⟩ : MethodName) jdk_52_method_15_code 2 (some .byte) [] ({ frames := 0, cells := 0, slots := 0, locals := 0 } : Room) #[(.ref b), (.int (1 : Int32))] h0 n0 (RetI (fun z h => z = 0 ∧ h0 = h)) := by
  refine Met.intro pn9 (own := "java/lang/StringUTF16") rfl (nm := "coderFromArrayLen") rfl (fun m => ef9 m b (1 : Int32)) ?_
  intro p e s m below meth c C
  refine s_iloadN C d9_0 (pc' := 1) rfl rfl ?_
  refine s_aloadN C d9_1 (pc' := 2) rfl rfl rfl ?_
  refine s_length C d9_2 (pc' := 3) rfl V_b (1 : Int32) rfl ?_
  refine s_isub C d9_3 (pc' := 4) rfl ?_
  refine s_foldI C (y := (0 : Int32)) (by decide) ?_
  refine s_bipush C d9_4 (pc' := 6) rfl (31 : Int32) rfl ?_
  refine s_iushr C d9_6 (pc' := 7) rfl ?_
  refine s_foldI C (y := (0 : Int32)) (by decide) ?_
  refine s_i2b C d9_7 (pc' := 8) rfl ?_
  exact s_retN C (by simp) d9_8 (by decide) (by decide) ⟨by decide, rfl⟩
set_option maxRecDepth 65536 in
set_option maxHeartbeats 40000000 in
theorem c_str4 (l : Launch) (Z : State) (a0 : Array Value) (hw : Hw a0 Z) (o a : Addr) (ch : Int32) (ca : Addr) (cl : Cell) (cs : Int32) (h0 : Heap) (n0 : Nat) (Z0 : n0 ≤ h0.size) (O0 : Old Z n0 h0) (S_ca : Sta Z Z.heap "java/lang/Long$LongCache" "cache" "[Ljava/lang/Long;" (.ref ca)) (B : Bxs Z ca cl "java/lang/Long" "J" 256 (fun j => .long (j - 128).toInt64)) (S_cs : Sta Z Z.heap "java/lang/String" "COMPACT_STRINGS" "Z" (.int cs)) (hcs : ¬ cs = 0) (hch : ¬ (255 : Int32) < ch) (E_o : Exa Z h0 o "java/lang/String") (g_o : n0 ≤ o) (F_c : Fld Z h0 o "java/lang/String" "coder" "B" (.int 0)) (F_v : Fld Z h0 o "java/lang/String" "value" "[B" .null) (V_a : Av Z h0 a .char [.int ch]) :
    Met l Z (⟨"java/lang/String", "<init>", "([CIILjava/lang/Void;)V"⟩ : MethodName) jdk_42_method_149_code 6 none [] ({ frames := 2, cells := 1, slots := 1, locals := 70 } : Room) #[(.ref o), (.ref a), (.int (0 : Int32)), (.int (1 : Int32)), .null] h0 n0 (Ret0 (fun h => Keep h0 h [o])) := by
  refine Met.intro pn6 (own := "java/lang/String") rfl (nm := "<init>") rfl (fun m => ef6n4 m o a (0 : Int32) (1 : Int32)) ?_
  intro p e s m below meth c C
  refine s_aloadN C d6_0 (pc' := 1) rfl rfl rfl ?_
  refine s_initO C d6_1 (pc' := 4) rfl (w37 hw) (w12 hw) (w13 hw) rfl (by decide) (W := 0) rfl (by decide) ?_
  refine s_iloadN C d6_4 (pc' := 5) rfl rfl ?_
  refine s_if_ne C d6_5 (pc' := 8) rfl (pcY := 27) rfl (fun c1 => ?_) (fun hc => by exfalso; revert hc; decide)
  refine s_getS C d6_27 (pc' := 30) rfl (w38 hw) (S_cs.ext O0.2) ?_
  refine s_if_eq C d6_30 (pc' := 33) rfl (pcY := 58) rfl (fun hc => by exfalso; exact hcs hc) (fun c2 => ?_)
  refine s_aloadN C d6_33 (pc' := 34) rfl rfl rfl ?_
  refine s_iloadN C d6_34 (pc' := 35) rfl rfl ?_
  refine s_iloadN C d6_35 (pc' := 36) rfl rfl ?_
  refine s_callSA C d6_36 (pc' := 39) rfl (w39 hw) (w40 hw) (w41 hw) (w42 hw) (by decide) [(.ref a), (.int (0 : Int32)), (.int (1 : Int32))] [] pd8 rfl rfl (c_cmp3 l Z a0 hw a ch h0 n0 Z0 hch V_a) rfl (W := 0) rfl (by decide) (by decide) (k' := 1) rfl (by decide) (n' := 1) rfl (by decide) (fun _ h3 q3 => ?_)
  obtain ⟨r3, rfl, K3, s3, y3, A3⟩ := q3
  have ne4 : a ≠ r3 := Nat.ne_of_lt (Nat.lt_of_lt_of_le V_a.lt s3)
  have ne5 : o ≠ r3 := Nat.ne_of_lt (Nat.lt_of_lt_of_le E_o.lt s3)
  have gn6 : n0 ≤ r3 := Nat.le_trans Z0 s3
  have bs7 : h0.size ≤ r3 := Nat.le_trans (Keep.refl h0 [o]).1 s3
  have sz8 : n0 ≤ h3.size := (Nat.le_trans Z0 K3.1)
  have Kp9 : Keep h0 h3 [o] := (Keep.refl h0 [o]).trans K3 all0
  have Od10 : Old Z n0 h3 := O0.keep K3 all0
  refine s_astore C d6_39 (pc' := 41) rfl rfl #[.val (.ref o), .val (.ref a), .val (.int (0 : Int32)), .val (.int (1 : Int32)), .val .null, .val (.ref r3)] rfl ?_
  refine s_aloadN C d6_41 (pc' := 42) rfl rfl rfl ?_
  refine s_aload C d6_42 (pc' := 44) rfl rfl rfl ?_
  refine s_iloadN C d6_44 (pc' := 45) rfl rfl ?_
  refine s_callSI C d6_45 (pc' := 48) rfl (w47 hw) (w48 hw) (w41 hw) (w49 hw) (by decide) [(.ref r3), (.int (1 : Int32))] [(.ref o)] pd6 rfl rfl (c_cod l Z a0 hw r3 y3 h3 n0 sz8 A3) rfl (W := 1) rfl (by decide) (by decide) (k' := 1) rfl (by decide) (n' := 1) rfl (by decide) (fun _ _ q11 => ?_)
  obtain ⟨rfl, rfl⟩ := q11
  have Fx12 := (F_c.keep K3 nin0)
  have Ex13 := (E_o.keep K3)
  refine s_putF C d6_48 (pc' := 51) rfl (w50 hw) Fx12 Ex13 (Or.inr ⟨(w51 hw), rfl, rfl⟩) (w28 hw) (ty := .byte) (by decide) rfl rfl g_o (fun h14 W14 => ?_)
  have F14 := Fx12.same W14
  have sz15 : n0 ≤ h14.size := (Nat.le_trans sz8 (Nat.le_of_eq W14.size.symm))
  have Kp16 : Keep h0 h14 [o] := Kp9.wr W14 (Or.inl (List.mem_of_getElem? (i := 0) rfl))
  have Od17 : Old Z n0 h14 := Od10.wr W14 g_o
  refine s_aloadN C d6_51 (pc' := 52) rfl rfl rfl ?_
  refine s_aload C d6_52 (pc' := 54) rfl rfl rfl ?_
  have Fx18 := ((F_v.keep K3 nin0).other W14 (Or.inr (slot_ne (Or.inr (w53 hw)) (Or.inr (w51 hw)) (by decide) (t := (.array .byte)) (t' := .byte) (by decide) (by decide))))
  have Ex19 := (Ex13.wr W14)
  refine s_putF C d6_54 (pc' := 57) rfl (w52 hw) Fx18 Ex19 (Or.inr ⟨(w53 hw), rfl, rfl⟩) (w28 hw) (ty := (.array .byte)) (by decide) rfl rfl g_o (fun h20 W20 => ?_)
  have F20 := Fx18.same W20
  have sz21 : n0 ≤ h20.size := (Nat.le_trans sz15 (Nat.le_of_eq W20.size.symm))
  have Kp22 : Keep h0 h20 [o] := Kp16.wr W20 (Or.inl (List.mem_of_getElem? (i := 0) rfl))
  have Od23 : Old Z n0 h20 := Od17.wr W20 g_o
  exact s_ret0 C d6_57 (by decide) (by decide) Kp22
set_option maxRecDepth 65536 in
set_option maxHeartbeats 40000000 in
theorem c_str1 (l : Launch) (Z : State) (a0 : Array Value) (hw : Hw a0 Z) (o a : Addr) (ch : Int32) (ca : Addr) (cl : Cell) (cs : Int32) (h0 : Heap) (n0 : Nat) (Z0 : n0 ≤ h0.size) (O0 : Old Z n0 h0) (S_ca : Sta Z Z.heap "java/lang/Long$LongCache" "cache" "[Ljava/lang/Long;" (.ref ca)) (B : Bxs Z ca cl "java/lang/Long" "J" 256 (fun j => .long (j - 128).toInt64)) (S_cs : Sta Z Z.heap "java/lang/String" "COMPACT_STRINGS" "Z" (.int cs)) (hcs : ¬ cs = 0) (hch : ¬ (255 : Int32) < ch) (E_o : Exa Z h0 o "java/lang/String") (g_o : n0 ≤ o) (F_c : Fld Z h0 o "java/lang/String" "coder" "B" (.int 0)) (F_v : Fld Z h0 o "java/lang/String" "value" "[B" .null) (V_a : Av Z h0 a .char [.int ch]) :
    Met l Z (⟨"java/lang/String", "<init>", "([C)V"⟩ : MethodName) jdk_42_method_3_code 2 none [] ({ frames := 3, cells := 1, slots := 1, locals := 100 } : Room) #[(.ref o), (.ref a)] h0 n0 (Ret0 (fun h => Keep h0 h [o])) := by
  refine Met.intro pn5 (own := "java/lang/String") rfl (nm := "<init>") rfl (fun m => ef5 m o a) ?_
  intro p e s m below meth c C
  refine s_aloadN C d5_0 (pc' := 1) rfl rfl rfl ?_
  refine s_aloadN C d5_1 (pc' := 2) rfl rfl rfl ?_
  refine s_iconst C d5_2 (pc' := 3) rfl (0 : Int32) rfl ?_
  refine s_aloadN C d5_3 (pc' := 4) rfl rfl rfl ?_
  refine s_length C d5_4 (pc' := 5) rfl V_a (1 : Int32) rfl ?_
  refine s_null C d5_5 (pc' := 6) rfl ?_
  refine s_callI C d5_6 (pc' := 9) rfl (w33 hw) rfl (w34 hw) (w29 hw) (w36 hw) (by decide) [(.ref a), (.int (0 : Int32)), (.int (1 : Int32)), .null] [] pd9 rfl rfl (c_str4 l Z a0 hw o a ch ca cl cs h0 n0 Z0 O0 S_ca B S_cs hcs hch E_o g_o F_c F_v V_a) rfl (W := 0) rfl (by decide) (by decide) (k' := 1) rfl (by decide) (n' := 1) rfl (by decide) (fun h1 q1 => ?_)
  have sz2 : n0 ≤ h1.size := (Nat.le_trans Z0 q1.1)
  have Kp3 : Keep h0 h1 [o] := (Keep.refl h0 [o]).trans q1 (allS (Or.inl (List.mem_of_getElem? (i := 0) rfl)) all0)
  have Od4 : Old Z n0 h1 := O0.keep q1 (allS g_o all0)
  exact s_ret0 C d5_9 (by decide) (by decide) Kp3
set_option maxRecDepth 65536 in
set_option maxHeartbeats 40000000 in
theorem c_rnn (l : Launch) (Z : State) (a0 : Array Value) (hw : Hw a0 Z) (a b : Addr) (h0 : Heap) (n0 : Nat) (Z0 : n0 ≤ h0.size)  :
    Met l Z (⟨"java/util/Objects", "requireNonNull", "(Ljava/lang/Object;Ljava/lang/String;)Ljava/lang/Object;"⟩ : MethodName) jdk_31_method_11_code 2 (some (.object "java/lang/Object")) [] ({ frames := 0, cells := 0, slots := 0, locals := 0 } : Room) #[(.ref a), (.ref b)] h0 n0 (RetV (fun z h => (.ref a) = z ∧ h0 = h)) := by
  refine Met.intro pn11 (own := "java/util/Objects") rfl (nm := "requireNonNull") rfl (fun m => ef11 m a b) ?_
  intro p e s m below meth c C
  refine s_aloadN C d11_0 (pc' := 1) rfl rfl rfl ?_
  refine s_ifnonnullR C d11_1 (pc' := 13) rfl ?_
  refine s_aloadN C d11_13 (pc' := 14) rfl rfl rfl ?_
  exact s_retA C rfl rfl rfl d11_14 (by decide) (by decide) ⟨rfl, rfl⟩
set_option maxRecDepth 65536 in
set_option maxHeartbeats 40000000 in
theorem c_con (l : Launch) (Z : State) (a0 : Array Value) (hw : Hw a0 Z) (o t : Addr) (h0 : Heap) (n0 : Nat) (Z0 : n0 ≤ h0.size) (E_o : Exa Z h0 o "com/example/chasm/chasm/model/Constant") (g_o : n0 ≤ o) (F_t : Fld Z h0 o "com/example/chasm/chasm/model/Constant" "text" "Ljava/lang/String;" .null) :
    MetW l Z (⟨"com/example/chasm/chasm/model/Constant", "<init>", "(Ljava/lang/String;)V"⟩ : MethodName) prog_39_method_1_code 2 none [] ({ frames := 2, cells := 2, slots := 20, locals := 40 } : Room) #[(.ref o), (.ref t)] h0 n0 (Ret0 (fun h => Keep h0 h [o] ∧ Exa Z h o "com/example/chasm/chasm/model/Constant")) := by
  refine MetW.intro pn10 (own := "com/example/chasm/chasm/model/Constant") rfl (nm := "<init>") rfl (fun m => ef10 m o t) ?_
  intro p e s m below meth c C
  refine s_aloadN C d10_0 (pc' := 1) rfl rfl rfl ?_
  refine s_callI C d10_1 (pc' := 4) rfl (w57 hw) rfl (w7 hw) (w9 hw) (w10 hw) (by decide) [] [] pd0 rfl rfl (c_rec l Z a0 hw o h0 n0 Z0) rfl (W := 0) rfl (by decide) (by decide) (k' := 0) rfl (by decide) (n' := 0) rfl (by decide) (fun _ q1 => ?_)
  obtain rfl := q1
  refine s_aloadN C d10_4 (pc' := 5) rfl rfl rfl ?_
  refine s_ldcStr C (nn := 16) d10_5 (pc' := 7) rfl (w58 hw) (own_strs hw) (by decide) (by decide) (k' := 2) rfl (by decide) (n' := 20) rfl (by decide) (fun vm2 k12 h2 a2 E2 hS2 hk2 C => ?_)
  have sz3 : n0 ≤ h2.size := (Nat.le_trans Z0 E2.1)
  have Kp4 : Keep h0 h2 [o] := (Keep.refl h0 [o]).ext E2
  refine s_callSA C d10_7 (pc' := 10) rfl (w61 hw) (w62 hw) (w63 hw) (w64 hw) (by decide) [(.ref t), (.ref a2)] [] pd4 rfl rfl (c_rnn l Z a0 hw t a2 h2 n0 sz3) rfl (W := 0) rfl (by decide) (by decide) (k' := 2) rfl (by decide) (n' := 20) rfl (by decide) (fun _ _ q5 => ?_)
  obtain ⟨rfl, rfl⟩ := q5
  refine s_pop C d10_10 (pc' := 11) rfl rfl ?_
  refine s_aloadN C d10_11 (pc' := 12) rfl rfl rfl ?_
  refine s_aloadN C d10_12 (pc' := 13) rfl rfl rfl ?_
  have Fx6 := (F_t.ext E2)
  have Ex7 := (E_o.ext E2)
  refine s_putF C d10_13 (pc' := 16) rfl (w65 hw) Fx6 Ex7 (Or.inr ⟨(w66 hw), rfl, rfl⟩) (w25 hw) (ty := (.object "java/lang/String")) (by decide) rfl rfl g_o (fun h8 W8 => ?_)
  have F8 := Fx6.same W8
  have sz9 : n0 ≤ h8.size := (Nat.le_trans sz3 (Nat.le_of_eq W8.size.symm))
  have Kp10 : Keep h0 h8 [o] := Kp4.wr W8 (Or.inl (List.mem_of_getElem? (i := 0) rfl))
  have kz11 := Nat.le_trans hk2 (Nat.le_of_eq W8.size.symm)
  have Ex12 := (Ex7.wr W8)
  exact s_ret0W C hS2 kz11 d10_16 (by decide) (by decide) ⟨Kp10, Ex12⟩

theorem st_ref {args : Array Value} {s : State} {C f d : String} {ty : FieldType} (g : (Jvm.Cond.arrayOf (Jvm.Term.static C f d) ty).value args s none s [] = some true) (hi : (Jvm.Cond.initializedFor C f d).before args s = true ∨ ((Jvm.Cond.initialized C).before args s = true ∧ (Jvm.Cond.laysStatic C f d).before args s = true)) : ∃ b cl, Sta s s.heap C f d (.ref b) ∧ Arr s s.heap b cl ty ∧ ∀ idx, (Jvm.Term.static C f d).eval args s none idx s = some (.ref b) := by
  obtain ⟨b, eb⟩ := arr_v g
  obtain ⟨cl, A⟩ := Arr.start eb g
  exact ⟨b, cl, Sta.start eb hi, A, fun idx => by simpa [Jvm.Term.eval] using eb⟩
theorem st_len {args : Array Value} {s : State} {t : Term} {ty : FieldType} {b : Addr} {cl : Cell} {n : Int32} (A : Arr s s.heap b cl ty) (eb : ∀ idx, t.eval args s none idx s = some (.ref b)) (g : (Jvm.Cond.eq (Jvm.Term.length t) (Jvm.Term.int n)).value args s none s [] = some true) : cl.slots.size < 2 ^ 31 ∧ cl.slots.size.toInt32 = n := by
  have e := eqv_i (Term.int_eval n) g
  obtain ⟨b', c', h1, h2, h3, h4⟩ := Jvm.Lib.length_spec e
  obtain rfl : b = b' := Value.ref.inj (Option.some.inj ((eb []).symm.trans h1))
  obtain rfl : cl = c' := Option.some.inj ((A.fin (Vm.Alike.refl _)).symm.trans h2)
  exact ⟨h3, (Value.int.inj h4).symm⟩
theorem st_size {cl : Cell} {n : Int32} (h : cl.slots.size < 2 ^ 31 ∧ cl.slots.size.toInt32 = n) : cl.slots.size = n.toNatClampNeg := by rw [← h.2]; exact (len32 h.1).1.symm
theorem st_el {args : Array Value} {s : State} {t : Term} {ty : FieldType} {b : Addr} {cl : Cell} {j v : Int32} (A : Arr s s.heap b cl ty) (eb : ∀ idx, t.eval args s none idx s = some (.ref b)) (hj : ¬ j < 0) (g : (Jvm.Cond.eq (Jvm.Term.elem t (Jvm.Term.int j)) (Jvm.Term.int v)).value args s none s [] = some true) : cl.slots[j.toNatClampNeg]? = some (.int v) := by
  have e := eqv_i (Term.int_eval v) g
  rw [elem_f (eb []) (Term.int_eval j) (A.fin (Vm.Alike.refl _)) hj] at e
  exact e
theorem st_elL {args : Array Value} {s : State} {t : Term} {ty : FieldType} {b : Addr} {cl : Cell} {j : Int32} {v : Int64} (A : Arr s s.heap b cl ty) (eb : ∀ idx, t.eval args s none idx s = some (.ref b)) (hj : ¬ j < 0) (g : (Jvm.Cond.eq (Jvm.Term.elem t (Jvm.Term.int j)) (Jvm.Term.long v)).value args s none s [] = some true) : cl.slots[j.toNatClampNeg]? = some (.long v) := by
  have e := eqv_l (y := v) (by simp [Jvm.Term.eval]) g
  rw [elem_f (eb []) (Term.int_eval j) (A.fin (Vm.Alike.refl _)) hj] at e
  exact e
theorem st_elR {args : Array Value} {s : State} {t t2 : Term} {ty : FieldType} {b y : Addr} {cl : Cell} {j : Int32} (A : Arr s s.heap b cl ty) (eb : ∀ idx, t.eval args s none idx s = some (.ref b)) (hj : ¬ j < 0) (e2 : t2.eval args s none [] s = some (.ref y)) (g : (Jvm.Cond.eq (Jvm.Term.elem t (Jvm.Term.int j)) t2).value args s none s [] = some true) : cl.slots[j.toNatClampNeg]? = some (.ref y) := by
  obtain ⟨x, y', h1, h2, -, k2⟩ := cmp_v (Or.inl g)
  obtain rfl : Value.ref y = y' := Option.some.inj (e2.symm.trans h2)
  have q := gotT (eq_R h1 h2 k2.2 rfl) g
  subst q
  rw [elem_f (eb []) (Term.int_eval j) (A.fin (Vm.Alike.refl _)) hj] at h1
  exact h1
theorem av_of {Z : State} {h : Heap} {b : Addr} {cl : Cell} {ty : FieldType} {vs : List Value} (A : Arr Z h b cl ty) (hs : cl.slots.size = vs.length) (hl : vs.length < 2 ^ 31) (he : ∀ i, i < vs.length → cl.slots[i]? = vs[i]?) (hf : ∀ v ∈ vs, fits ty v = true) : Av Z h b ty vs := by
  refine ⟨cl, A, ?_, hl, hf⟩
  apply Array.ext_getElem?
  intro i
  by_cases hi : i < vs.length
  · rw [he i hi]; simp
  · rw [Array.getElem?_eq_none (by omega), Array.getElem?_eq_none (by simpa using hi)]

theorem own_rest {args : Array Value} {s : State} (hw : Hw args s) (hsets : ∀ c ∈ jdkStatics_1, c.before args s = true) : ∃ ca cl cs, Sta s s.heap "java/lang/Long$LongCache" "cache" "[Ljava/lang/Long;" (.ref ca) ∧ Bxs s ca cl "java/lang/Long" "J" 256 (fun j => .long (j - 128).toInt64) ∧ Sta s s.heap "java/lang/String" "COMPACT_STRINGS" "Z" (.int cs) ∧ ¬ cs = 0 := by
  have i0 := hsets _ (List.mem_of_getElem? (i := 0) rfl)
  have c1 := Cond.before_iff.mp (hsets _ (List.mem_of_getElem? (i := 1) rfl))
  have c2 := Cond.before_iff.mp (hsets _ (List.mem_of_getElem? (i := 2) rfl))
  have l1 := hsets _ (List.mem_of_getElem? (i := 9) rfl)
  have n1 := Cond.before_iff.mp (hsets _ (List.mem_of_getElem? (i := 11) rfl))
  have n2 := Cond.before_iff.mp (hsets _ (List.mem_of_getElem? (i := 13) rfl))
  have n3 := Cond.before_iff.mp (hsets _ (List.mem_of_getElem? (i := 14) rfl))
  obtain ⟨ca, cl, S, A, eb⟩ := st_ref n1 (Or.inr ⟨(w94 hw), l1⟩)
  have hl := st_len A eb n2
  obtain ⟨cs, ecs⟩ := is_v c1
  refine ⟨ca, cl, cs, S, Bxs.start eb A hl.1 hl.2 (by decide) n3 (fun X j hj g => ?_), Sta.start ecs (Or.inl i0), ?_⟩
  · exact eqv_l (by rw [Term.eval_op1 .i2l _ (Term.sub_int (idx_at hj) (Term.int_eval 128))]; rfl) g
  · intro q
    subst q
    simp only [Cond.value] at c2
    rw [ecs, Term.int_eval] at c2
    simp at c2

set_option maxRecDepth 65536 in
set_option maxHeartbeats 40000000 in
theorem law (l : Launch) (Z : State) (a0 : Array Value) (hw : Hw a0 Z) (x1 x2 : Int64) (x3 x4 : Int32) (ca : Addr) (cl : Cell) (cs : Int32) (h0 : Heap) (n0 : Nat) (Z0 : n0 ≤ h0.size) (O0 : Old Z n0 h0) (S_ca : Sta Z Z.heap "java/lang/Long$LongCache" "cache" "[Ljava/lang/Long;" (.ref ca)) (B : Bxs Z ca cl "java/lang/Long" "J" 256 (fun j => .long (j - 128).toInt64)) (S_cs : Sta Z Z.heap "java/lang/String" "COMPACT_STRINGS" "Z" (.int cs)) (hcs : ¬ cs = 0) :
    MetW l Z x code maxLocals ret tables_1 room_1 #[(.long x1), (.long x2), (.int x3), (.int x4)] h0 n0 (RetI (fun z h => z = 1)) := by
  refine MetW.intro pn0 (own := "com/example/chasm/chasm/model/InventedValueEqualsPinLaw") rfl (nm := "law") rfl (fun m => ef0 m x1 x2 x3 x4) ?_
  intro p e s m below meth c C
  refine s_new C at_0 (pc' := 3) rfl (w0 hw) (w1 hw) (w2 hw) (k' := 1) rfl (by decide) (n' := 1) rfl (by decide) (fun h1 a1 E1 g1 A1 D1 => ?_)
  have gn2 : n0 ≤ a1 := by rw [g1]; exact Z0
  have sz3 : n0 ≤ h1.size := (Nat.le_trans Z0 E1.1)
  have Od4 : Old Z n0 h1 := O0.ext E1
  have F1_number : Fld Z h1 a1 "com/example/chasm/chasm/model/InventedValue" "number" "J" (.long (0 : Int64)) := D1 (Or.inr (w15 hw)) (ty := .long) (by decide)
  refine s_dup C at_3 (pc' := 4) rfl rfl ?_
  refine s_lloadN C at_4 (pc' := 5) rfl rfl ?_
  refine s_callI C at_5 (pc' := 8) rfl (w3 hw) rfl (w4 hw) (w2 hw) (w5 hw) (by decide) [(.long x1)] [(.ref a1)] pd2 rfl rfl (c_inv l Z a0 hw a1 x1 h1 n0 sz3 A1 gn2 F1_number ) rfl (W := 1) rfl (by decide) (by decide) (k' := 1) rfl (by decide) (n' := 1) rfl (by decide) (fun h5 q5 => ?_)
  obtain ⟨K5, E5, F5_number⟩ := q5
  have sz6 : n0 ≤ h5.size := (Nat.le_trans sz3 K5.1)
  have Od7 : Old Z n0 h5 := Od4.keep K5 (allS gn2 all0)
  refine s_astore C at_8 (pc' := 10) rfl rfl #[.val (.long x1), .second, .val (.long x2), .second, .val (.int x3), .val (.int x4), .val (.ref a1), .unset, .unset, .unset, .unset, .unset, .unset] rfl ?_
  refine s_iload C at_10 (pc' := 12) rfl rfl ?_
  refine s_bipush C at_12 (pc' := 14) rfl (8 : Int32) rfl ?_
  refine s_iand C at_14 (pc' := 15) rfl ?_
  refine s_if_eq C at_15 (pc' := 18) rfl (pcY := 22) rfl (fun c8 => ?_) (fun c8 => ?_)
  · skip
    refine s_lloadN C at_22 (pc' := 23) rfl rfl ?_
    refine s_lstoreP C at_23 (pc' := 25) rfl #[.val (.long x1), .second, .val (.long x2), .second, .val (.int x3), .val (.int x4), .val (.ref a1), .val (.long x2), .second, .unset, .unset, .unset, .unset] rfl ?_
    refine s_iload C at_25 (pc' := 27) rfl rfl ?_
    refine s_bipush C at_27 (pc' := 29) rfl (7 : Int32) rfl ?_
    refine s_iand C at_29 (pc' := 30) rfl ?_
    refine s_iconst C at_30 (pc' := 31) rfl (5 : Int32) rfl ?_
    refine s_irem C at_31 (pc' := 32) rfl (by decide) ?_
    obtain ⟨kd, hkd⟩ : ∃ y, y = ((x3 &&& (7 : Int32)) % (5 : Int32)) := ⟨_, rfl⟩
    have h5 := own_k5 x3
    rw [← hkd] at h5 ⊢
    clear hkd
    rcases h5 with q | q | q | q | q
    · subst q
      refine s_istoreP C at_32 (pc' := 34) rfl #[.val (.long x1), .second, .val (.long x2), .second, .val (.int x3), .val (.int x4), .val (.ref a1), .val (.long x2), .second, .val (.int (0 : Int32)), .unset, .unset, .unset] rfl ?_
      refine s_iconst C at_34 (pc' := 35) rfl (1 : Int32) rfl ?_
      refine s_newarr C (cap := 1) at_35 (pc' := 37) rfl (w16 hw) (by decide) (by decide) (by decide) (k' := 2) rfl (by decide) (n' := 2) rfl (by decide) [(.int (0 : Int32))] rfl (fun h9 a9 E9 g9 A9 => ?_)
      have ne10 : a1 ≠ a9 := Nat.ne_of_lt (by rw [g9]; exact E5.lt)
      have gn11 : n0 ≤ a9 := by rw [g9]; exact sz6
      have sz12 : n0 ≤ h9.size := (Nat.le_trans sz6 E9.1)
      have Od13 : Old Z n0 h9 := Od7.ext E9
      refine s_astore C at_37 (pc' := 39) rfl rfl #[.val (.long x1), .second, .val (.long x2), .second, .val (.int x3), .val (.int x4), .val (.ref a1), .val (.long x2), .second, .val (.int (0 : Int32)), .val (.ref a9), .unset, .unset] rfl ?_
      refine s_aload C at_39 (pc' := 41) rfl rfl rfl ?_
      refine s_iconst C at_41 (pc' := 42) rfl (0 : Int32) rfl ?_
      refine s_iload C at_42 (pc' := 44) rfl rfl ?_
      refine s_sipush C at_44 (pc' := 47) rfl (255 : Int32) rfl ?_
      refine s_iand C at_47 (pc' := 48) rfl ?_
      refine s_i2c C at_48 (pc' := 49) rfl ?_
      refine s_castore C at_49 (pc' := 50) rfl A9 0 (by decide) (Nat.le_of_ble_eq_true rfl) gn11 [(.int (x4 &&& (255 : Int32)).toUInt32.toUInt16.toUInt32.toInt32.toUInt32.toUInt16.toUInt32.toInt32)] rfl (fun h14 W14 A14 => ?_)
      have sz15 : n0 ≤ h14.size := (Nat.le_trans sz12 (Nat.le_of_eq W14.size.symm))
      have Od16 : Old Z n0 h14 := Od13.wr W14 gn11
      refine s_iload C at_50 (pc' := 52) rfl rfl ?_
      refine s_if_ne C at_52 (pc' := 55) rfl (pcY := 83) rfl (fun hc => by exfalso; revert hc; decide) (fun c17 => ?_)
      refine s_new C at_55 (pc' := 58) rfl (w0 hw) (w1 hw) (w2 hw) (k' := 3) rfl (by decide) (n' := 3) rfl (by decide) (fun h18 a18 E18 g18 A18 D18 => ?_)
      have Ex19 := ((E5.ext E9).wr W14)
      have ne20 : a1 ≠ a18 := Nat.ne_of_lt (by rw [g18]; exact Ex19.lt)
      have ne21 : a9 ≠ a18 := Nat.ne_of_lt (by rw [g18]; exact A14.lt)
      have gn22 : n0 ≤ a18 := by rw [g18]; exact sz15
      have sz23 : n0 ≤ h18.size := (Nat.le_trans sz15 E18.1)
      have Od24 : Old Z n0 h18 := Od16.ext E18
      have F18_number : Fld Z h18 a18 "com/example/chasm/chasm/model/InventedValue" "number" "J" (.long (0 : Int64)) := D18 (Or.inr (w15 hw)) (ty := .long) (by decide)
      refine s_dup C at_58 (pc' := 59) rfl rfl ?_
      refine s_lload C at_59 (pc' := 61) rfl rfl ?_
      refine s_callI C at_61 (pc' := 64) rfl (w3 hw) rfl (w4 hw) (w2 hw) (w5 hw) (by decide) [(.long x2)] [(.ref a18)] pd2 rfl rfl (c_inv l Z a0 hw a18 x2 h18 n0 sz23 A18 gn22 F18_number ) rfl (W := 1) rfl (by decide) (by decide) (k' := 3) rfl (by decide) (n' := 3) rfl (by decide) (fun h25 q25 => ?_)
      obtain ⟨K25, E25, F25_number⟩ := q25
      have sz26 : n0 ≤ h25.size := (Nat.le_trans sz23 K25.1)
      have Od27 : Old Z n0 h25 := Od24.keep K25 (allS gn22 all0)
      refine s_astore C at_64 (pc' := 66) rfl rfl #[.val (.long x1), .second, .val (.long x2), .second, .val (.int x3), .val (.int x4), .val (.ref a1), .val (.long x2), .second, .val (.int (0 : Int32)), .val (.ref a9), .val (.ref a18), .unset] rfl ?_
      refine s_lloadN C at_66 (pc' := 67) rfl rfl ?_
      refine s_lload C at_67 (pc' := 69) rfl rfl ?_
      refine s_lc_ne C at_69 (pc1 := 70) rfl at_70 (pc' := 73) rfl (pcY := 77) rfl (fun c28 => ?_) (fun c28 => ?_)
      · skip
        refine s_iconst C at_77 (pc' := 78) rfl (0 : Int32) rfl ?_
        refine s_istoreP C at_78 (pc' := 80) rfl #[.val (.long x1), .second, .val (.long x2), .second, .val (.int x3), .val (.int x4), .val (.ref a1), .val (.long x2), .second, .val (.int (0 : Int32)), .val (.ref a9), .val (.ref a18), .val (.int (0 : Int32))] rfl ?_
        refine s_goto C at_80 (pc' := 154) rfl ?_
        refine s_aload C at_154 (pc' := 156) rfl rfl rfl ?_
        refine s_aload C at_156 (pc' := 158) rfl rfl rfl ?_
        have Ex30 := ((Ex19.ext E18).keep K25)
        have Fx31 := ((((F5_number.ext E9).other W14 (Or.inl ne10)).ext E18).keep K25 (ninS ne20 nin0))
        refine s_callVI C at_158 (pc' := 161) rfl (w17 hw) (w18 hw) (notFace_of_selects (args := #[]) (mvT C.2.1 (w20 hw))) (w20 hw) (w19 hw) (w2 hw) (w21 hw) (by decide) Ex30 [(.ref a18)] [] pd3 rfl rfl (c_eqI l Z a0 hw a1 a18 x1 x2 h25 n0 sz26 Ex30 Fx31 E25 F25_number) rfl (W := 0) rfl (by decide) (by decide) (k' := 3) rfl (by decide) (n' := 3) rfl (by decide) (fun _ _ q29 => ?_)
        obtain rfl := q29.2.1 c28
        obtain rfl := q29.2.2
        refine s_iload C at_161 (pc' := 163) rfl rfl ?_
        refine s_icmp_ne C at_163 (pc' := 166) rfl (pcY := 170) rfl (fun hc => by exfalso; revert hc; decide) (fun c32 => ?_)
        refine s_iconst C at_166 (pc' := 167) rfl (1 : Int32) rfl ?_
        refine s_goto C at_167 (pc' := 171) rfl ?_
        exact Run.wide (s_retN C (by simp) at_171 (by decide) (by decide) rfl)
      · skip
        refine s_iconst C at_73 (pc' := 74) rfl (1 : Int32) rfl ?_
        refine s_goto C at_74 (pc' := 78) rfl ?_
        refine s_istoreP C at_78 (pc' := 80) rfl #[.val (.long x1), .second, .val (.long x2), .second, .val (.int x3), .val (.int x4), .val (.ref a1), .val (.long x2), .second, .val (.int (0 : Int32)), .val (.ref a9), .val (.ref a18), .val (.int (1 : Int32))] rfl ?_
        refine s_goto C at_80 (pc' := 154) rfl ?_
        refine s_aload C at_154 (pc' := 156) rfl rfl rfl ?_
        refine s_aload C at_156 (pc' := 158) rfl rfl rfl ?_
        have Ex34 := ((Ex19.ext E18).keep K25)
        have Fx35 := ((((F5_number.ext E9).other W14 (Or.inl ne10)).ext E18).keep K25 (ninS ne20 nin0))
        refine s_callVI C at_158 (pc' := 161) rfl (w17 hw) (w18 hw) (notFace_of_selects (args := #[]) (mvT C.2.1 (w20 hw))) (w20 hw) (w19 hw) (w2 hw) (w21 hw) (by decide) Ex34 [(.ref a18)] [] pd3 rfl rfl (c_eqI l Z a0 hw a1 a18 x1 x2 h25 n0 sz26 Ex34 Fx35 E25 F25_number) rfl (W := 0) rfl (by decide) (by decide) (k' := 3) rfl (by decide) (n' := 3) rfl (by decide) (fun _ _ q33 => ?_)
        obtain rfl := q33.1 c28
        obtain rfl := q33.2.2
        refine s_iload C at_161 (pc' := 163) rfl rfl ?_
        refine s_icmp_ne C at_163 (pc' := 166) rfl (pcY := 170) rfl (fun hc => by exfalso; revert hc; decide) (fun c36 => ?_)
        refine s_iconst C at_166 (pc' := 167) rfl (1 : Int32) rfl ?_
        refine s_goto C at_167 (pc' := 171) rfl ?_
        exact Run.wide (s_retN C (by simp) at_171 (by decide) (by decide) rfl)
    · subst q
      refine s_istoreP C at_32 (pc' := 34) rfl #[.val (.long x1), .second, .val (.long x2), .second, .val (.int x3), .val (.int x4), .val (.ref a1), .val (.long x2), .second, .val (.int (1 : Int32)), .unset, .unset, .unset] rfl ?_
      refine s_iconst C at_34 (pc' := 35) rfl (1 : Int32) rfl ?_
      refine s_newarr C (cap := 1) at_35 (pc' := 37) rfl (w16 hw) (by decide) (by decide) (by decide) (k' := 2) rfl (by decide) (n' := 2) rfl (by decide) [(.int (0 : Int32))] rfl (fun h37 a37 E37 g37 A37 => ?_)
      have ne38 : a1 ≠ a37 := Nat.ne_of_lt (by rw [g37]; exact E5.lt)
      have gn39 : n0 ≤ a37 := by rw [g37]; exact sz6
      have sz40 : n0 ≤ h37.size := (Nat.le_trans sz6 E37.1)
      have Od41 : Old Z n0 h37 := Od7.ext E37
      refine s_astore C at_37 (pc' := 39) rfl rfl #[.val (.long x1), .second, .val (.long x2), .second, .val (.int x3), .val (.int x4), .val (.ref a1), .val (.long x2), .second, .val (.int (1 : Int32)), .val (.ref a37), .unset, .unset] rfl ?_
      refine s_aload C at_39 (pc' := 41) rfl rfl rfl ?_
      refine s_iconst C at_41 (pc' := 42) rfl (0 : Int32) rfl ?_
      refine s_iload C at_42 (pc' := 44) rfl rfl ?_
      refine s_sipush C at_44 (pc' := 47) rfl (255 : Int32) rfl ?_
      refine s_iand C at_47 (pc' := 48) rfl ?_
      refine s_i2c C at_48 (pc' := 49) rfl ?_
      refine s_castore C at_49 (pc' := 50) rfl A37 0 (by decide) (Nat.le_of_ble_eq_true rfl) gn39 [(.int (x4 &&& (255 : Int32)).toUInt32.toUInt16.toUInt32.toInt32.toUInt32.toUInt16.toUInt32.toInt32)] rfl (fun h42 W42 A42 => ?_)
      have sz43 : n0 ≤ h42.size := (Nat.le_trans sz40 (Nat.le_of_eq W42.size.symm))
      have Od44 : Old Z n0 h42 := Od41.wr W42 gn39
      refine s_iload C at_50 (pc' := 52) rfl rfl ?_
      refine s_if_ne C at_52 (pc' := 55) rfl (pcY := 83) rfl (fun c45 => ?_) (fun hc => by exfalso; revert hc; decide)
      refine s_iload C at_83 (pc' := 85) rfl rfl ?_
      refine s_iconst C at_85 (pc' := 86) rfl (1 : Int32) rfl ?_
      refine s_icmp_ne C at_86 (pc' := 89) rfl (pcY := 98) rfl (fun hc => by exfalso; revert hc; decide) (fun c46 => ?_)
      refine s_null C at_89 (pc' := 90) rfl ?_
      refine s_astore C at_90 (pc' := 92) rfl rfl #[.val (.long x1), .second, .val (.long x2), .second, .val (.int x3), .val (.int x4), .val (.ref a1), .val (.long x2), .second, .val (.int (1 : Int32)), .val (.ref a37), .val .null, .unset] rfl ?_
      refine s_iconst C at_92 (pc' := 93) rfl (0 : Int32) rfl ?_
      refine s_istoreP C at_93 (pc' := 95) rfl #[.val (.long x1), .second, .val (.long x2), .second, .val (.int x3), .val (.int x4), .val (.ref a1), .val (.long x2), .second, .val (.int (1 : Int32)), .val (.ref a37), .val .null, .val (.int (0 : Int32))] rfl ?_
      refine s_goto C at_95 (pc' := 154) rfl ?_
      refine s_aload C at_154 (pc' := 156) rfl rfl rfl ?_
      refine s_aload C at_156 (pc' := 158) rfl rfl rfl ?_
      have Ex48 := ((E5.ext E37).wr W42)
      refine s_callVI C at_158 (pc' := 161) rfl (w17 hw) (w18 hw) (notFace_of_selects (args := #[]) (mvT C.2.1 (w20 hw))) (w20 hw) (w19 hw) (w2 hw) (w21 hw) (by decide) Ex48 [.null] [] pd3 rfl rfl (c_eqN l Z a0 hw a1 h42 n0 sz43) rfl (W := 0) rfl (by decide) (by decide) (k' := 2) rfl (by decide) (n' := 2) rfl (by decide) (fun _ _ q47 => ?_)
      obtain ⟨rfl, rfl⟩ := q47
      refine s_iload C at_161 (pc' := 163) rfl rfl ?_
      refine s_icmp_ne C at_163 (pc' := 166) rfl (pcY := 170) rfl (fun hc => by exfalso; revert hc; decide) (fun c49 => ?_)
      refine s_iconst C at_166 (pc' := 167) rfl (1 : Int32) rfl ?_
      refine s_goto C at_167 (pc' := 171) rfl ?_
      exact Run.wide (s_retN C (by simp) at_171 (by decide) (by decide) rfl)
    · subst q
      refine s_istoreP C at_32 (pc' := 34) rfl #[.val (.long x1), .second, .val (.long x2), .second, .val (.int x3), .val (.int x4), .val (.ref a1), .val (.long x2), .second, .val (.int (2 : Int32)), .unset, .unset, .unset] rfl ?_
      refine s_iconst C at_34 (pc' := 35) rfl (1 : Int32) rfl ?_
      refine s_newarr C (cap := 1) at_35 (pc' := 37) rfl (w16 hw) (by decide) (by decide) (by decide) (k' := 2) rfl (by decide) (n' := 2) rfl (by decide) [(.int (0 : Int32))] rfl (fun h50 a50 E50 g50 A50 => ?_)
      have ne51 : a1 ≠ a50 := Nat.ne_of_lt (by rw [g50]; exact E5.lt)
      have gn52 : n0 ≤ a50 := by rw [g50]; exact sz6
      have sz53 : n0 ≤ h50.size := (Nat.le_trans sz6 E50.1)
      have Od54 : Old Z n0 h50 := Od7.ext E50
      refine s_astore C at_37 (pc' := 39) rfl rfl #[.val (.long x1), .second, .val (.long x2), .second, .val (.int x3), .val (.int x4), .val (.ref a1), .val (.long x2), .second, .val (.int (2 : Int32)), .val (.ref a50), .unset, .unset] rfl ?_
      refine s_aload C at_39 (pc' := 41) rfl rfl rfl ?_
      refine s_iconst C at_41 (pc' := 42) rfl (0 : Int32) rfl ?_
      refine s_iload C at_42 (pc' := 44) rfl rfl ?_
      refine s_sipush C at_44 (pc' := 47) rfl (255 : Int32) rfl ?_
      refine s_iand C at_47 (pc' := 48) rfl ?_
      refine s_i2c C at_48 (pc' := 49) rfl ?_
      refine s_castore C at_49 (pc' := 50) rfl A50 0 (by decide) (Nat.le_of_ble_eq_true rfl) gn52 [(.int (x4 &&& (255 : Int32)).toUInt32.toUInt16.toUInt32.toInt32.toUInt32.toUInt16.toUInt32.toInt32)] rfl (fun h55 W55 A55 => ?_)
      have sz56 : n0 ≤ h55.size := (Nat.le_trans sz53 (Nat.le_of_eq W55.size.symm))
      have Od57 : Old Z n0 h55 := Od54.wr W55 gn52
      refine s_iload C at_50 (pc' := 52) rfl rfl ?_
      refine s_if_ne C at_52 (pc' := 55) rfl (pcY := 83) rfl (fun c58 => ?_) (fun hc => by exfalso; revert hc; decide)
      refine s_iload C at_83 (pc' := 85) rfl rfl ?_
      refine s_iconst C at_85 (pc' := 86) rfl (1 : Int32) rfl ?_
      refine s_icmp_ne C at_86 (pc' := 89) rfl (pcY := 98) rfl (fun c59 => ?_) (fun hc => by exfalso; revert hc; decide)
      refine s_iload C at_98 (pc' := 100) rfl rfl ?_
      refine s_iconst C at_100 (pc' := 101) rfl (2 : Int32) rfl ?_
      refine s_icmp_ne C at_101 (pc' := 104) rfl (pcY := 128) rfl (fun hc => by exfalso; revert hc; decide) (fun c60 => ?_)
      refine s_new C at_104 (pc' := 107) rfl (w24 hw) (w25 hw) (w26 hw) (k' := 3) rfl (by decide) (n' := 3) rfl (by decide) (fun h61 a61 E61 g61 A61 D61 => ?_)
      have Ex62 := ((E5.ext E50).wr W55)
      have ne63 : a1 ≠ a61 := Nat.ne_of_lt (by rw [g61]; exact Ex62.lt)
      have ne64 : a50 ≠ a61 := Nat.ne_of_lt (by rw [g61]; exact A55.lt)
      have gn65 : n0 ≤ a61 := by rw [g61]; exact sz56
      have sz66 : n0 ≤ h61.size := (Nat.le_trans sz56 E61.1)
      have Od67 : Old Z n0 h61 := Od57.ext E61
      have F61_text : Fld Z h61 a61 "com/example/chasm/chasm/model/Constant" "text" "Ljava/lang/String;" .null := D61 (Or.inr (w66 hw)) (ty := (.object "java/lang/String")) (by decide)
      refine s_dup C at_107 (pc' := 108) rfl rfl ?_
      refine s_new C at_108 (pc' := 111) rfl (w27 hw) (w28 hw) (w29 hw) (k' := 4) rfl (by decide) (n' := 7) rfl (by decide) (fun h68 a68 E68 g68 A68 D68 => ?_)
      have Ex69 := (Ex62.ext E61)
      have ne70 : a1 ≠ a68 := Nat.ne_of_lt (by rw [g68]; exact Ex69.lt)
      have Vx71 := (A55.ext E61)
      have ne72 : a50 ≠ a68 := Nat.ne_of_lt (by rw [g68]; exact Vx71.lt)
      have ne73 : a61 ≠ a68 := Nat.ne_of_lt (by rw [g68]; exact A61.lt)
      have gn74 : n0 ≤ a68 := by rw [g68]; exact sz66
      have sz75 : n0 ≤ h68.size := (Nat.le_trans sz66 E68.1)
      have Od76 : Old Z n0 h68 := Od67.ext E68
      have F68_coder : Fld Z h68 a68 "java/lang/String" "coder" "B" (.int (0 : Int32)) := D68 (Or.inr (w51 hw)) (ty := .byte) (by decide)
      have F68_value : Fld Z h68 a68 "java/lang/String" "value" "[B" .null := D68 (Or.inr (w53 hw)) (ty := (.array .byte)) (by decide)
      refine s_dup C at_111 (pc' := 112) rfl rfl ?_
      refine s_aload C at_112 (pc' := 114) rfl rfl rfl ?_
      have Vx78 := (Vx71.ext E68)
      refine s_callI C at_114 (pc' := 117) rfl (w30 hw) rfl (w31 hw) (w29 hw) (w32 hw) (by decide) [(.ref a50)] [(.ref a68), (.ref a61), (.ref a61)] pd7 rfl rfl (c_str1 l Z a0 hw a68 a50 (x4 &&& (255 : Int32)).toUInt32.toUInt16.toUInt32.toInt32.toUInt32.toUInt16.toUInt32.toInt32 ca cl cs h68 n0 sz75 Od76 S_ca B S_cs hcs (own_ch _) A68 gn74 F68_coder F68_value Vx78) rfl (W := 3) rfl (by decide) (by decide) (k' := 5) rfl (by decide) (n' := 8) rfl (by decide) (fun h77 q77 => ?_)
      have sz79 : n0 ≤ h77.size := (Nat.le_trans sz75 q77.1)
      have Od80 : Old Z n0 h77 := Od76.keep q77 (allS gn74 all0)
      have Ex82 := ((A61.ext E68).keep q77)
      have Fx83 := ((F61_text.ext E68).keep q77 (ninS ne73 nin0))
      refine s_callIW C at_117 (pc' := 120) rfl (w54 hw) rfl (w55 hw) (w26 hw) (w56 hw) (by decide) [(.ref a68)] [(.ref a61)] pd5 rfl rfl (c_con l Z a0 hw a61 a68 h77 n0 sz79 Ex82 gn65 Fx83) rfl (W := 1) rfl (by decide) (by decide) (k' := 7) rfl (by decide) (n' := 28) rfl (by decide) (fun vm81 k181 h81 q81 hS81 hk81 C => ?_)
      obtain ⟨K81, X81⟩ := q81
      have sz84 : n0 ≤ h81.size := (Nat.le_trans sz79 K81.1)
      have Od85 : Old Z n0 h81 := Od80.keep K81 (allS gn65 all0)
      refine s_astore C at_120 (pc' := 122) rfl rfl #[.val (.long x1), .second, .val (.long x2), .second, .val (.int x3), .val (.int x4), .val (.ref a1), .val (.long x2), .second, .val (.int (2 : Int32)), .val (.ref a50), .val (.ref a61), .unset] rfl ?_
      refine s_iconst C at_122 (pc' := 123) rfl (0 : Int32) rfl ?_
      refine s_istoreP C at_123 (pc' := 125) rfl #[.val (.long x1), .second, .val (.long x2), .second, .val (.int x3), .val (.int x4), .val (.ref a1), .val (.long x2), .second, .val (.int (2 : Int32)), .val (.ref a50), .val (.ref a61), .val (.int (0 : Int32))] rfl ?_
      refine s_goto C at_125 (pc' := 154) rfl ?_
      refine s_aload C at_154 (pc' := 156) rfl rfl rfl ?_
      refine s_aload C at_156 (pc' := 158) rfl rfl rfl ?_
      have Ex87 := (((Ex69.ext E68).keep q77).keep K81)
      refine s_callVI C at_158 (pc' := 161) rfl (w17 hw) (w18 hw) (notFace_of_selects (args := #[]) (mvT C.2.1 (w20 hw))) (w20 hw) (w19 hw) (w2 hw) (w21 hw) (by decide) Ex87 [(.ref a61)] [] pd3 rfl rfl (c_eqC l Z a0 hw a1 a61 h81 n0 sz84 X81) rfl (W := 0) rfl (by decide) (by decide) (k' := 7) rfl (by decide) (n' := 28) rfl (by decide) (fun _ _ q86 => ?_)
      obtain ⟨rfl, rfl⟩ := q86
      refine s_iload C at_161 (pc' := 163) rfl rfl ?_
      refine s_icmp_ne C at_163 (pc' := 166) rfl (pcY := 170) rfl (fun hc => by exfalso; revert hc; decide) (fun c88 => ?_)
      refine s_iconst C at_166 (pc' := 167) rfl (1 : Int32) rfl ?_
      refine s_goto C at_167 (pc' := 171) rfl ?_
      exact s_retNW C hS81 hk81 (by simp) at_171 (by decide) (by decide) rfl
    · subst q
      refine s_istoreP C at_32 (pc' := 34) rfl #[.val (.long x1), .second, .val (.long x2), .second, .val (.int x3), .val (.int x4), .val (.ref a1), .val (.long x2), .second, .val (.int (3 : Int32)), .unset, .unset, .unset] rfl ?_
      refine s_iconst C at_34 (pc' := 35) rfl (1 : Int32) rfl ?_
      refine s_newarr C (cap := 1) at_35 (pc' := 37) rfl (w16 hw) (by decide) (by decide) (by decide) (k' := 2) rfl (by decide) (n' := 2) rfl (by decide) [(.int (0 : Int32))] rfl (fun h89 a89 E89 g89 A89 => ?_)
      have ne90 : a1 ≠ a89 := Nat.ne_of_lt (by rw [g89]; exact E5.lt)
      have gn91 : n0 ≤ a89 := by rw [g89]; exact sz6
      have sz92 : n0 ≤ h89.size := (Nat.le_trans sz6 E89.1)
      have Od93 : Old Z n0 h89 := Od7.ext E89
      refine s_astore C at_37 (pc' := 39) rfl rfl #[.val (.long x1), .second, .val (.long x2), .second, .val (.int x3), .val (.int x4), .val (.ref a1), .val (.long x2), .second, .val (.int (3 : Int32)), .val (.ref a89), .unset, .unset] rfl ?_
      refine s_aload C at_39 (pc' := 41) rfl rfl rfl ?_
      refine s_iconst C at_41 (pc' := 42) rfl (0 : Int32) rfl ?_
      refine s_iload C at_42 (pc' := 44) rfl rfl ?_
      refine s_sipush C at_44 (pc' := 47) rfl (255 : Int32) rfl ?_
      refine s_iand C at_47 (pc' := 48) rfl ?_
      refine s_i2c C at_48 (pc' := 49) rfl ?_
      refine s_castore C at_49 (pc' := 50) rfl A89 0 (by decide) (Nat.le_of_ble_eq_true rfl) gn91 [(.int (x4 &&& (255 : Int32)).toUInt32.toUInt16.toUInt32.toInt32.toUInt32.toUInt16.toUInt32.toInt32)] rfl (fun h94 W94 A94 => ?_)
      have sz95 : n0 ≤ h94.size := (Nat.le_trans sz92 (Nat.le_of_eq W94.size.symm))
      have Od96 : Old Z n0 h94 := Od93.wr W94 gn91
      refine s_iload C at_50 (pc' := 52) rfl rfl ?_
      refine s_if_ne C at_52 (pc' := 55) rfl (pcY := 83) rfl (fun c97 => ?_) (fun hc => by exfalso; revert hc; decide)
      refine s_iload C at_83 (pc' := 85) rfl rfl ?_
      refine s_iconst C at_85 (pc' := 86) rfl (1 : Int32) rfl ?_
      refine s_icmp_ne C at_86 (pc' := 89) rfl (pcY := 98) rfl (fun c98 => ?_) (fun hc => by exfalso; revert hc; decide)
      refine s_iload C at_98 (pc' := 100) rfl rfl ?_
      refine s_iconst C at_100 (pc' := 101) rfl (2 : Int32) rfl ?_
      refine s_icmp_ne C at_101 (pc' := 104) rfl (pcY := 128) rfl (fun c99 => ?_) (fun hc => by exfalso; revert hc; decide)
      refine s_iload C at_128 (pc' := 130) rfl rfl ?_
      refine s_iconst C at_130 (pc' := 131) rfl (3 : Int32) rfl ?_
      refine s_icmp_ne C at_131 (pc' := 134) rfl (pcY := 147) rfl (fun hc => by exfalso; revert hc; decide) (fun c100 => ?_)
      refine s_lload C at_134 (pc' := 136) rfl rfl ?_
      refine s_callSA C at_136 (pc' := 139) rfl (w70 hw) (w71 hw) (w72 hw) (w73 hw) (by decide) [(.long x2)] [] pd1 rfl rfl (c_vof l Z a0 hw x2 ca cl cs h94 n0 sz95 Od96 S_ca B S_cs hcs) rfl (W := 0) rfl (by decide) (by decide) (k' := 3) rfl (by decide) (n' := 3) rfl (by decide) (fun _ h101 q101 => ?_)
      obtain ⟨r101, rfl, K101, X101⟩ := q101
      have sz102 : n0 ≤ h101.size := (Nat.le_trans sz95 K101.1)
      have Od103 : Old Z n0 h101 := Od96.keep K101 all0
      refine s_astore C at_139 (pc' := 141) rfl rfl #[.val (.long x1), .second, .val (.long x2), .second, .val (.int x3), .val (.int x4), .val (.ref a1), .val (.long x2), .second, .val (.int (3 : Int32)), .val (.ref a89), .val (.ref r101), .unset] rfl ?_
      refine s_iconst C at_141 (pc' := 142) rfl (0 : Int32) rfl ?_
      refine s_istoreP C at_142 (pc' := 144) rfl #[.val (.long x1), .second, .val (.long x2), .second, .val (.int x3), .val (.int x4), .val (.ref a1), .val (.long x2), .second, .val (.int (3 : Int32)), .val (.ref a89), .val (.ref r101), .val (.int (0 : Int32))] rfl ?_
      refine s_goto C at_144 (pc' := 154) rfl ?_
      refine s_aload C at_154 (pc' := 156) rfl rfl rfl ?_
      refine s_aload C at_156 (pc' := 158) rfl rfl rfl ?_
      have Ex105 := (((E5.ext E89).wr W94).keep K101)
      refine s_callVI C at_158 (pc' := 161) rfl (w17 hw) (w18 hw) (notFace_of_selects (args := #[]) (mvT C.2.1 (w20 hw))) (w20 hw) (w19 hw) (w2 hw) (w21 hw) (by decide) Ex105 [(.ref r101)] [] pd3 rfl rfl (c_eqL l Z a0 hw a1 r101 h101 n0 sz102 X101) rfl (W := 0) rfl (by decide) (by decide) (k' := 3) rfl (by decide) (n' := 3) rfl (by decide) (fun _ _ q104 => ?_)
      obtain ⟨rfl, rfl⟩ := q104
      refine s_iload C at_161 (pc' := 163) rfl rfl ?_
      refine s_icmp_ne C at_163 (pc' := 166) rfl (pcY := 170) rfl (fun hc => by exfalso; revert hc; decide) (fun c106 => ?_)
      refine s_iconst C at_166 (pc' := 167) rfl (1 : Int32) rfl ?_
      refine s_goto C at_167 (pc' := 171) rfl ?_
      exact Run.wide (s_retN C (by simp) at_171 (by decide) (by decide) rfl)
    · subst q
      refine s_istoreP C at_32 (pc' := 34) rfl #[.val (.long x1), .second, .val (.long x2), .second, .val (.int x3), .val (.int x4), .val (.ref a1), .val (.long x2), .second, .val (.int (4 : Int32)), .unset, .unset, .unset] rfl ?_
      refine s_iconst C at_34 (pc' := 35) rfl (1 : Int32) rfl ?_
      refine s_newarr C (cap := 1) at_35 (pc' := 37) rfl (w16 hw) (by decide) (by decide) (by decide) (k' := 2) rfl (by decide) (n' := 2) rfl (by decide) [(.int (0 : Int32))] rfl (fun h107 a107 E107 g107 A107 => ?_)
      have ne108 : a1 ≠ a107 := Nat.ne_of_lt (by rw [g107]; exact E5.lt)
      have gn109 : n0 ≤ a107 := by rw [g107]; exact sz6
      have sz110 : n0 ≤ h107.size := (Nat.le_trans sz6 E107.1)
      have Od111 : Old Z n0 h107 := Od7.ext E107
      refine s_astore C at_37 (pc' := 39) rfl rfl #[.val (.long x1), .second, .val (.long x2), .second, .val (.int x3), .val (.int x4), .val (.ref a1), .val (.long x2), .second, .val (.int (4 : Int32)), .val (.ref a107), .unset, .unset] rfl ?_
      refine s_aload C at_39 (pc' := 41) rfl rfl rfl ?_
      refine s_iconst C at_41 (pc' := 42) rfl (0 : Int32) rfl ?_
      refine s_iload C at_42 (pc' := 44) rfl rfl ?_
      refine s_sipush C at_44 (pc' := 47) rfl (255 : Int32) rfl ?_
      refine s_iand C at_47 (pc' := 48) rfl ?_
      refine s_i2c C at_48 (pc' := 49) rfl ?_
      refine s_castore C at_49 (pc' := 50) rfl A107 0 (by decide) (Nat.le_of_ble_eq_true rfl) gn109 [(.int (x4 &&& (255 : Int32)).toUInt32.toUInt16.toUInt32.toInt32.toUInt32.toUInt16.toUInt32.toInt32)] rfl (fun h112 W112 A112 => ?_)
      have sz113 : n0 ≤ h112.size := (Nat.le_trans sz110 (Nat.le_of_eq W112.size.symm))
      have Od114 : Old Z n0 h112 := Od111.wr W112 gn109
      refine s_iload C at_50 (pc' := 52) rfl rfl ?_
      refine s_if_ne C at_52 (pc' := 55) rfl (pcY := 83) rfl (fun c115 => ?_) (fun hc => by exfalso; revert hc; decide)
      refine s_iload C at_83 (pc' := 85) rfl rfl ?_
      refine s_iconst C at_85 (pc' := 86) rfl (1 : Int32) rfl ?_
      refine s_icmp_ne C at_86 (pc' := 89) rfl (pcY := 98) rfl (fun c116 => ?_) (fun hc => by exfalso; revert hc; decide)
      refine s_iload C at_98 (pc' := 100) rfl rfl ?_
      refine s_iconst C at_100 (pc' := 101) rfl (2 : Int32) rfl ?_
      refine s_icmp_ne C at_101 (pc' := 104) rfl (pcY := 128) rfl (fun c117 => ?_) (fun hc => by exfalso; revert hc; decide)
      refine s_iload C at_128 (pc' := 130) rfl rfl ?_
      refine s_iconst C at_130 (pc' := 131) rfl (3 : Int32) rfl ?_
      refine s_icmp_ne C at_131 (pc' := 134) rfl (pcY := 147) rfl (fun c118 => ?_) (fun hc => by exfalso; revert hc; decide)
      refine s_aload C at_147 (pc' := 149) rfl rfl rfl ?_
      refine s_astore C at_149 (pc' := 151) rfl rfl #[.val (.long x1), .second, .val (.long x2), .second, .val (.int x3), .val (.int x4), .val (.ref a1), .val (.long x2), .second, .val (.int (4 : Int32)), .val (.ref a107), .val (.ref a1), .unset] rfl ?_
      refine s_iconst C at_151 (pc' := 152) rfl (1 : Int32) rfl ?_
      refine s_istoreP C at_152 (pc' := 154) rfl #[.val (.long x1), .second, .val (.long x2), .second, .val (.int x3), .val (.int x4), .val (.ref a1), .val (.long x2), .second, .val (.int (4 : Int32)), .val (.ref a107), .val (.ref a1), .val (.int (1 : Int32))] rfl ?_
      refine s_aload C at_154 (pc' := 156) rfl rfl rfl ?_
      refine s_aload C at_156 (pc' := 158) rfl rfl rfl ?_
      have Ex120 := ((E5.ext E107).wr W112)
      have Fx121 := ((F5_number.ext E107).other W112 (Or.inl ne108))
      refine s_callVI C at_158 (pc' := 161) rfl (w17 hw) (w18 hw) (notFace_of_selects (args := #[]) (mvT C.2.1 (w20 hw))) (w20 hw) (w19 hw) (w2 hw) (w21 hw) (by decide) Ex120 [(.ref a1)] [] pd3 rfl rfl (c_eqI l Z a0 hw a1 a1 x1 x1 h112 n0 sz113 Ex120 Fx121 Ex120 Fx121) rfl (W := 0) rfl (by decide) (by decide) (k' := 2) rfl (by decide) (n' := 2) rfl (by decide) (fun _ _ q119 => ?_)
      obtain rfl := q119.1 rfl
      obtain rfl := q119.2.2
      refine s_iload C at_161 (pc' := 163) rfl rfl ?_
      refine s_icmp_ne C at_163 (pc' := 166) rfl (pcY := 170) rfl (fun hc => by exfalso; revert hc; decide) (fun c122 => ?_)
      refine s_iconst C at_166 (pc' := 167) rfl (1 : Int32) rfl ?_
      refine s_goto C at_167 (pc' := 171) rfl ?_
      exact Run.wide (s_retN C (by simp) at_171 (by decide) (by decide) rfl)
  · skip
    refine s_lloadN C at_18 (pc' := 19) rfl rfl ?_
    refine s_goto C at_19 (pc' := 23) rfl ?_
    refine s_lstoreP C at_23 (pc' := 25) rfl #[.val (.long x1), .second, .val (.long x2), .second, .val (.int x3), .val (.int x4), .val (.ref a1), .val (.long x1), .second, .unset, .unset, .unset, .unset] rfl ?_
    refine s_iload C at_25 (pc' := 27) rfl rfl ?_
    refine s_bipush C at_27 (pc' := 29) rfl (7 : Int32) rfl ?_
    refine s_iand C at_29 (pc' := 30) rfl ?_
    refine s_iconst C at_30 (pc' := 31) rfl (5 : Int32) rfl ?_
    refine s_irem C at_31 (pc' := 32) rfl (by decide) ?_
    obtain ⟨kd, hkd⟩ : ∃ y, y = ((x3 &&& (7 : Int32)) % (5 : Int32)) := ⟨_, rfl⟩
    have h5 := own_k5 x3
    rw [← hkd] at h5 ⊢
    clear hkd
    rcases h5 with q | q | q | q | q
    · subst q
      refine s_istoreP C at_32 (pc' := 34) rfl #[.val (.long x1), .second, .val (.long x2), .second, .val (.int x3), .val (.int x4), .val (.ref a1), .val (.long x1), .second, .val (.int (0 : Int32)), .unset, .unset, .unset] rfl ?_
      refine s_iconst C at_34 (pc' := 35) rfl (1 : Int32) rfl ?_
      refine s_newarr C (cap := 1) at_35 (pc' := 37) rfl (w16 hw) (by decide) (by decide) (by decide) (k' := 2) rfl (by decide) (n' := 2) rfl (by decide) [(.int (0 : Int32))] rfl (fun h123 a123 E123 g123 A123 => ?_)
      have ne124 : a1 ≠ a123 := Nat.ne_of_lt (by rw [g123]; exact E5.lt)
      have gn125 : n0 ≤ a123 := by rw [g123]; exact sz6
      have sz126 : n0 ≤ h123.size := (Nat.le_trans sz6 E123.1)
      have Od127 : Old Z n0 h123 := Od7.ext E123
      refine s_astore C at_37 (pc' := 39) rfl rfl #[.val (.long x1), .second, .val (.long x2), .second, .val (.int x3), .val (.int x4), .val (.ref a1), .val (.long x1), .second, .val (.int (0 : Int32)), .val (.ref a123), .unset, .unset] rfl ?_
      refine s_aload C at_39 (pc' := 41) rfl rfl rfl ?_
      refine s_iconst C at_41 (pc' := 42) rfl (0 : Int32) rfl ?_
      refine s_iload C at_42 (pc' := 44) rfl rfl ?_
      refine s_sipush C at_44 (pc' := 47) rfl (255 : Int32) rfl ?_
      refine s_iand C at_47 (pc' := 48) rfl ?_
      refine s_i2c C at_48 (pc' := 49) rfl ?_
      refine s_castore C at_49 (pc' := 50) rfl A123 0 (by decide) (Nat.le_of_ble_eq_true rfl) gn125 [(.int (x4 &&& (255 : Int32)).toUInt32.toUInt16.toUInt32.toInt32.toUInt32.toUInt16.toUInt32.toInt32)] rfl (fun h128 W128 A128 => ?_)
      have sz129 : n0 ≤ h128.size := (Nat.le_trans sz126 (Nat.le_of_eq W128.size.symm))
      have Od130 : Old Z n0 h128 := Od127.wr W128 gn125
      refine s_iload C at_50 (pc' := 52) rfl rfl ?_
      refine s_if_ne C at_52 (pc' := 55) rfl (pcY := 83) rfl (fun hc => by exfalso; revert hc; decide) (fun c131 => ?_)
      refine s_new C at_55 (pc' := 58) rfl (w0 hw) (w1 hw) (w2 hw) (k' := 3) rfl (by decide) (n' := 3) rfl (by decide) (fun h132 a132 E132 g132 A132 D132 => ?_)
      have Ex133 := ((E5.ext E123).wr W128)
      have ne134 : a1 ≠ a132 := Nat.ne_of_lt (by rw [g132]; exact Ex133.lt)
      have ne135 : a123 ≠ a132 := Nat.ne_of_lt (by rw [g132]; exact A128.lt)
      have gn136 : n0 ≤ a132 := by rw [g132]; exact sz129
      have sz137 : n0 ≤ h132.size := (Nat.le_trans sz129 E132.1)
      have Od138 : Old Z n0 h132 := Od130.ext E132
      have F132_number : Fld Z h132 a132 "com/example/chasm/chasm/model/InventedValue" "number" "J" (.long (0 : Int64)) := D132 (Or.inr (w15 hw)) (ty := .long) (by decide)
      refine s_dup C at_58 (pc' := 59) rfl rfl ?_
      refine s_lload C at_59 (pc' := 61) rfl rfl ?_
      refine s_callI C at_61 (pc' := 64) rfl (w3 hw) rfl (w4 hw) (w2 hw) (w5 hw) (by decide) [(.long x1)] [(.ref a132)] pd2 rfl rfl (c_inv l Z a0 hw a132 x1 h132 n0 sz137 A132 gn136 F132_number ) rfl (W := 1) rfl (by decide) (by decide) (k' := 3) rfl (by decide) (n' := 3) rfl (by decide) (fun h139 q139 => ?_)
      obtain ⟨K139, E139, F139_number⟩ := q139
      have sz140 : n0 ≤ h139.size := (Nat.le_trans sz137 K139.1)
      have Od141 : Old Z n0 h139 := Od138.keep K139 (allS gn136 all0)
      refine s_astore C at_64 (pc' := 66) rfl rfl #[.val (.long x1), .second, .val (.long x2), .second, .val (.int x3), .val (.int x4), .val (.ref a1), .val (.long x1), .second, .val (.int (0 : Int32)), .val (.ref a123), .val (.ref a132), .unset] rfl ?_
      refine s_lloadN C at_66 (pc' := 67) rfl rfl ?_
      refine s_lload C at_67 (pc' := 69) rfl rfl ?_
      refine s_lc_ne C at_69 (pc1 := 70) rfl at_70 (pc' := 73) rfl (pcY := 77) rfl (fun hc => by exfalso; first | exact hc rfl | (simp at hc)) (fun c142 => ?_)
      refine s_iconst C at_73 (pc' := 74) rfl (1 : Int32) rfl ?_
      refine s_goto C at_74 (pc' := 78) rfl ?_
      refine s_istoreP C at_78 (pc' := 80) rfl #[.val (.long x1), .second, .val (.long x2), .second, .val (.int x3), .val (.int x4), .val (.ref a1), .val (.long x1), .second, .val (.int (0 : Int32)), .val (.ref a123), .val (.ref a132), .val (.int (1 : Int32))] rfl ?_
      refine s_goto C at_80 (pc' := 154) rfl ?_
      refine s_aload C at_154 (pc' := 156) rfl rfl rfl ?_
      refine s_aload C at_156 (pc' := 158) rfl rfl rfl ?_
      have Ex144 := ((Ex133.ext E132).keep K139)
      have Fx145 := ((((F5_number.ext E123).other W128 (Or.inl ne124)).ext E132).keep K139 (ninS ne134 nin0))
      refine s_callVI C at_158 (pc' := 161) rfl (w17 hw) (w18 hw) (notFace_of_selects (args := #[]) (mvT C.2.1 (w20 hw))) (w20 hw) (w19 hw) (w2 hw) (w21 hw) (by decide) Ex144 [(.ref a132)] [] pd3 rfl rfl (c_eqI l Z a0 hw a1 a132 x1 x1 h139 n0 sz140 Ex144 Fx145 E139 F139_number) rfl (W := 0) rfl (by decide) (by decide) (k' := 3) rfl (by decide) (n' := 3) rfl (by decide) (fun _ _ q143 => ?_)
      obtain rfl := q143.1 rfl
      obtain rfl := q143.2.2
      refine s_iload C at_161 (pc' := 163) rfl rfl ?_
      refine s_icmp_ne C at_163 (pc' := 166) rfl (pcY := 170) rfl (fun hc => by exfalso; revert hc; decide) (fun c146 => ?_)
      refine s_iconst C at_166 (pc' := 167) rfl (1 : Int32) rfl ?_
      refine s_goto C at_167 (pc' := 171) rfl ?_
      exact Run.wide (s_retN C (by simp) at_171 (by decide) (by decide) rfl)
    · subst q
      refine s_istoreP C at_32 (pc' := 34) rfl #[.val (.long x1), .second, .val (.long x2), .second, .val (.int x3), .val (.int x4), .val (.ref a1), .val (.long x1), .second, .val (.int (1 : Int32)), .unset, .unset, .unset] rfl ?_
      refine s_iconst C at_34 (pc' := 35) rfl (1 : Int32) rfl ?_
      refine s_newarr C (cap := 1) at_35 (pc' := 37) rfl (w16 hw) (by decide) (by decide) (by decide) (k' := 2) rfl (by decide) (n' := 2) rfl (by decide) [(.int (0 : Int32))] rfl (fun h147 a147 E147 g147 A147 => ?_)
      have ne148 : a1 ≠ a147 := Nat.ne_of_lt (by rw [g147]; exact E5.lt)
      have gn149 : n0 ≤ a147 := by rw [g147]; exact sz6
      have sz150 : n0 ≤ h147.size := (Nat.le_trans sz6 E147.1)
      have Od151 : Old Z n0 h147 := Od7.ext E147
      refine s_astore C at_37 (pc' := 39) rfl rfl #[.val (.long x1), .second, .val (.long x2), .second, .val (.int x3), .val (.int x4), .val (.ref a1), .val (.long x1), .second, .val (.int (1 : Int32)), .val (.ref a147), .unset, .unset] rfl ?_
      refine s_aload C at_39 (pc' := 41) rfl rfl rfl ?_
      refine s_iconst C at_41 (pc' := 42) rfl (0 : Int32) rfl ?_
      refine s_iload C at_42 (pc' := 44) rfl rfl ?_
      refine s_sipush C at_44 (pc' := 47) rfl (255 : Int32) rfl ?_
      refine s_iand C at_47 (pc' := 48) rfl ?_
      refine s_i2c C at_48 (pc' := 49) rfl ?_
      refine s_castore C at_49 (pc' := 50) rfl A147 0 (by decide) (Nat.le_of_ble_eq_true rfl) gn149 [(.int (x4 &&& (255 : Int32)).toUInt32.toUInt16.toUInt32.toInt32.toUInt32.toUInt16.toUInt32.toInt32)] rfl (fun h152 W152 A152 => ?_)
      have sz153 : n0 ≤ h152.size := (Nat.le_trans sz150 (Nat.le_of_eq W152.size.symm))
      have Od154 : Old Z n0 h152 := Od151.wr W152 gn149
      refine s_iload C at_50 (pc' := 52) rfl rfl ?_
      refine s_if_ne C at_52 (pc' := 55) rfl (pcY := 83) rfl (fun c155 => ?_) (fun hc => by exfalso; revert hc; decide)
      refine s_iload C at_83 (pc' := 85) rfl rfl ?_
      refine s_iconst C at_85 (pc' := 86) rfl (1 : Int32) rfl ?_
      refine s_icmp_ne C at_86 (pc' := 89) rfl (pcY := 98) rfl (fun hc => by exfalso; revert hc; decide) (fun c156 => ?_)
      refine s_null C at_89 (pc' := 90) rfl ?_
      refine s_astore C at_90 (pc' := 92) rfl rfl #[.val (.long x1), .second, .val (.long x2), .second, .val (.int x3), .val (.int x4), .val (.ref a1), .val (.long x1), .second, .val (.int (1 : Int32)), .val (.ref a147), .val .null, .unset] rfl ?_
      refine s_iconst C at_92 (pc' := 93) rfl (0 : Int32) rfl ?_
      refine s_istoreP C at_93 (pc' := 95) rfl #[.val (.long x1), .second, .val (.long x2), .second, .val (.int x3), .val (.int x4), .val (.ref a1), .val (.long x1), .second, .val (.int (1 : Int32)), .val (.ref a147), .val .null, .val (.int (0 : Int32))] rfl ?_
      refine s_goto C at_95 (pc' := 154) rfl ?_
      refine s_aload C at_154 (pc' := 156) rfl rfl rfl ?_
      refine s_aload C at_156 (pc' := 158) rfl rfl rfl ?_
      have Ex158 := ((E5.ext E147).wr W152)
      refine s_callVI C at_158 (pc' := 161) rfl (w17 hw) (w18 hw) (notFace_of_selects (args := #[]) (mvT C.2.1 (w20 hw))) (w20 hw) (w19 hw) (w2 hw) (w21 hw) (by decide) Ex158 [.null] [] pd3 rfl rfl (c_eqN l Z a0 hw a1 h152 n0 sz153) rfl (W := 0) rfl (by decide) (by decide) (k' := 2) rfl (by decide) (n' := 2) rfl (by decide) (fun _ _ q157 => ?_)
      obtain ⟨rfl, rfl⟩ := q157
      refine s_iload C at_161 (pc' := 163) rfl rfl ?_
      refine s_icmp_ne C at_163 (pc' := 166) rfl (pcY := 170) rfl (fun hc => by exfalso; revert hc; decide) (fun c159 => ?_)
      refine s_iconst C at_166 (pc' := 167) rfl (1 : Int32) rfl ?_
      refine s_goto C at_167 (pc' := 171) rfl ?_
      exact Run.wide (s_retN C (by simp) at_171 (by decide) (by decide) rfl)
    · subst q
      refine s_istoreP C at_32 (pc' := 34) rfl #[.val (.long x1), .second, .val (.long x2), .second, .val (.int x3), .val (.int x4), .val (.ref a1), .val (.long x1), .second, .val (.int (2 : Int32)), .unset, .unset, .unset] rfl ?_
      refine s_iconst C at_34 (pc' := 35) rfl (1 : Int32) rfl ?_
      refine s_newarr C (cap := 1) at_35 (pc' := 37) rfl (w16 hw) (by decide) (by decide) (by decide) (k' := 2) rfl (by decide) (n' := 2) rfl (by decide) [(.int (0 : Int32))] rfl (fun h160 a160 E160 g160 A160 => ?_)
      have ne161 : a1 ≠ a160 := Nat.ne_of_lt (by rw [g160]; exact E5.lt)
      have gn162 : n0 ≤ a160 := by rw [g160]; exact sz6
      have sz163 : n0 ≤ h160.size := (Nat.le_trans sz6 E160.1)
      have Od164 : Old Z n0 h160 := Od7.ext E160
      refine s_astore C at_37 (pc' := 39) rfl rfl #[.val (.long x1), .second, .val (.long x2), .second, .val (.int x3), .val (.int x4), .val (.ref a1), .val (.long x1), .second, .val (.int (2 : Int32)), .val (.ref a160), .unset, .unset] rfl ?_
      refine s_aload C at_39 (pc' := 41) rfl rfl rfl ?_
      refine s_iconst C at_41 (pc' := 42) rfl (0 : Int32) rfl ?_
      refine s_iload C at_42 (pc' := 44) rfl rfl ?_
      refine s_sipush C at_44 (pc' := 47) rfl (255 : Int32) rfl ?_
      refine s_iand C at_47 (pc' := 48) rfl ?_
      refine s_i2c C at_48 (pc' := 49) rfl ?_
      refine s_castore C at_49 (pc' := 50) rfl A160 0 (by decide) (Nat.le_of_ble_eq_true rfl) gn162 [(.int (x4 &&& (255 : Int32)).toUInt32.toUInt16.toUInt32.toInt32.toUInt32.toUInt16.toUInt32.toInt32)] rfl (fun h165 W165 A165 => ?_)
      have sz166 : n0 ≤ h165.size := (Nat.le_trans sz163 (Nat.le_of_eq W165.size.symm))
      have Od167 : Old Z n0 h165 := Od164.wr W165 gn162
      refine s_iload C at_50 (pc' := 52) rfl rfl ?_
      refine s_if_ne C at_52 (pc' := 55) rfl (pcY := 83) rfl (fun c168 => ?_) (fun hc => by exfalso; revert hc; decide)
      refine s_iload C at_83 (pc' := 85) rfl rfl ?_
      refine s_iconst C at_85 (pc' := 86) rfl (1 : Int32) rfl ?_
      refine s_icmp_ne C at_86 (pc' := 89) rfl (pcY := 98) rfl (fun c169 => ?_) (fun hc => by exfalso; revert hc; decide)
      refine s_iload C at_98 (pc' := 100) rfl rfl ?_
      refine s_iconst C at_100 (pc' := 101) rfl (2 : Int32) rfl ?_
      refine s_icmp_ne C at_101 (pc' := 104) rfl (pcY := 128) rfl (fun hc => by exfalso; revert hc; decide) (fun c170 => ?_)
      refine s_new C at_104 (pc' := 107) rfl (w24 hw) (w25 hw) (w26 hw) (k' := 3) rfl (by decide) (n' := 3) rfl (by decide) (fun h171 a171 E171 g171 A171 D171 => ?_)
      have Ex172 := ((E5.ext E160).wr W165)
      have ne173 : a1 ≠ a171 := Nat.ne_of_lt (by rw [g171]; exact Ex172.lt)
      have ne174 : a160 ≠ a171 := Nat.ne_of_lt (by rw [g171]; exact A165.lt)
      have gn175 : n0 ≤ a171 := by rw [g171]; exact sz166
      have sz176 : n0 ≤ h171.size := (Nat.le_trans sz166 E171.1)
      have Od177 : Old Z n0 h171 := Od167.ext E171
      have F171_text : Fld Z h171 a171 "com/example/chasm/chasm/model/Constant" "text" "Ljava/lang/String;" .null := D171 (Or.inr (w66 hw)) (ty := (.object "java/lang/String")) (by decide)
      refine s_dup C at_107 (pc' := 108) rfl rfl ?_
      refine s_new C at_108 (pc' := 111) rfl (w27 hw) (w28 hw) (w29 hw) (k' := 4) rfl (by decide) (n' := 7) rfl (by decide) (fun h178 a178 E178 g178 A178 D178 => ?_)
      have Ex179 := (Ex172.ext E171)
      have ne180 : a1 ≠ a178 := Nat.ne_of_lt (by rw [g178]; exact Ex179.lt)
      have Vx181 := (A165.ext E171)
      have ne182 : a160 ≠ a178 := Nat.ne_of_lt (by rw [g178]; exact Vx181.lt)
      have ne183 : a171 ≠ a178 := Nat.ne_of_lt (by rw [g178]; exact A171.lt)
      have gn184 : n0 ≤ a178 := by rw [g178]; exact sz176
      have sz185 : n0 ≤ h178.size := (Nat.le_trans sz176 E178.1)
      have Od186 : Old Z n0 h178 := Od177.ext E178
      have F178_coder : Fld Z h178 a178 "java/lang/String" "coder" "B" (.int (0 : Int32)) := D178 (Or.inr (w51 hw)) (ty := .byte) (by decide)
      have F178_value : Fld Z h178 a178 "java/lang/String" "value" "[B" .null := D178 (Or.inr (w53 hw)) (ty := (.array .byte)) (by decide)
      refine s_dup C at_111 (pc' := 112) rfl rfl ?_
      refine s_aload C at_112 (pc' := 114) rfl rfl rfl ?_
      have Vx188 := (Vx181.ext E178)
      refine s_callI C at_114 (pc' := 117) rfl (w30 hw) rfl (w31 hw) (w29 hw) (w32 hw) (by decide) [(.ref a160)] [(.ref a178), (.ref a171), (.ref a171)] pd7 rfl rfl (c_str1 l Z a0 hw a178 a160 (x4 &&& (255 : Int32)).toUInt32.toUInt16.toUInt32.toInt32.toUInt32.toUInt16.toUInt32.toInt32 ca cl cs h178 n0 sz185 Od186 S_ca B S_cs hcs (own_ch _) A178 gn184 F178_coder F178_value Vx188) rfl (W := 3) rfl (by decide) (by decide) (k' := 5) rfl (by decide) (n' := 8) rfl (by decide) (fun h187 q187 => ?_)
      have sz189 : n0 ≤ h187.size := (Nat.le_trans sz185 q187.1)
      have Od190 : Old Z n0 h187 := Od186.keep q187 (allS gn184 all0)
      have Ex192 := ((A171.ext E178).keep q187)
      have Fx193 := ((F171_text.ext E178).keep q187 (ninS ne183 nin0))
      refine s_callIW C at_117 (pc' := 120) rfl (w54 hw) rfl (w55 hw) (w26 hw) (w56 hw) (by decide) [(.ref a178)] [(.ref a171)] pd5 rfl rfl (c_con l Z a0 hw a171 a178 h187 n0 sz189 Ex192 gn175 Fx193) rfl (W := 1) rfl (by decide) (by decide) (k' := 7) rfl (by decide) (n' := 28) rfl (by decide) (fun vm191 k1191 h191 q191 hS191 hk191 C => ?_)
      obtain ⟨K191, X191⟩ := q191
      have sz194 : n0 ≤ h191.size := (Nat.le_trans sz189 K191.1)
      have Od195 : Old Z n0 h191 := Od190.keep K191 (allS gn175 all0)
      refine s_astore C at_120 (pc' := 122) rfl rfl #[.val (.long x1), .second, .val (.long x2), .second, .val (.int x3), .val (.int x4), .val (.ref a1), .val (.long x1), .second, .val (.int (2 : Int32)), .val (.ref a160), .val (.ref a171), .unset] rfl ?_
      refine s_iconst C at_122 (pc' := 123) rfl (0 : Int32) rfl ?_
      refine s_istoreP C at_123 (pc' := 125) rfl #[.val (.long x1), .second, .val (.long x2), .second, .val (.int x3), .val (.int x4), .val (.ref a1), .val (.long x1), .second, .val (.int (2 : Int32)), .val (.ref a160), .val (.ref a171), .val (.int (0 : Int32))] rfl ?_
      refine s_goto C at_125 (pc' := 154) rfl ?_
      refine s_aload C at_154 (pc' := 156) rfl rfl rfl ?_
      refine s_aload C at_156 (pc' := 158) rfl rfl rfl ?_
      have Ex197 := (((Ex179.ext E178).keep q187).keep K191)
      refine s_callVI C at_158 (pc' := 161) rfl (w17 hw) (w18 hw) (notFace_of_selects (args := #[]) (mvT C.2.1 (w20 hw))) (w20 hw) (w19 hw) (w2 hw) (w21 hw) (by decide) Ex197 [(.ref a171)] [] pd3 rfl rfl (c_eqC l Z a0 hw a1 a171 h191 n0 sz194 X191) rfl (W := 0) rfl (by decide) (by decide) (k' := 7) rfl (by decide) (n' := 28) rfl (by decide) (fun _ _ q196 => ?_)
      obtain ⟨rfl, rfl⟩ := q196
      refine s_iload C at_161 (pc' := 163) rfl rfl ?_
      refine s_icmp_ne C at_163 (pc' := 166) rfl (pcY := 170) rfl (fun hc => by exfalso; revert hc; decide) (fun c198 => ?_)
      refine s_iconst C at_166 (pc' := 167) rfl (1 : Int32) rfl ?_
      refine s_goto C at_167 (pc' := 171) rfl ?_
      exact s_retNW C hS191 hk191 (by simp) at_171 (by decide) (by decide) rfl
    · subst q
      refine s_istoreP C at_32 (pc' := 34) rfl #[.val (.long x1), .second, .val (.long x2), .second, .val (.int x3), .val (.int x4), .val (.ref a1), .val (.long x1), .second, .val (.int (3 : Int32)), .unset, .unset, .unset] rfl ?_
      refine s_iconst C at_34 (pc' := 35) rfl (1 : Int32) rfl ?_
      refine s_newarr C (cap := 1) at_35 (pc' := 37) rfl (w16 hw) (by decide) (by decide) (by decide) (k' := 2) rfl (by decide) (n' := 2) rfl (by decide) [(.int (0 : Int32))] rfl (fun h199 a199 E199 g199 A199 => ?_)
      have ne200 : a1 ≠ a199 := Nat.ne_of_lt (by rw [g199]; exact E5.lt)
      have gn201 : n0 ≤ a199 := by rw [g199]; exact sz6
      have sz202 : n0 ≤ h199.size := (Nat.le_trans sz6 E199.1)
      have Od203 : Old Z n0 h199 := Od7.ext E199
      refine s_astore C at_37 (pc' := 39) rfl rfl #[.val (.long x1), .second, .val (.long x2), .second, .val (.int x3), .val (.int x4), .val (.ref a1), .val (.long x1), .second, .val (.int (3 : Int32)), .val (.ref a199), .unset, .unset] rfl ?_
      refine s_aload C at_39 (pc' := 41) rfl rfl rfl ?_
      refine s_iconst C at_41 (pc' := 42) rfl (0 : Int32) rfl ?_
      refine s_iload C at_42 (pc' := 44) rfl rfl ?_
      refine s_sipush C at_44 (pc' := 47) rfl (255 : Int32) rfl ?_
      refine s_iand C at_47 (pc' := 48) rfl ?_
      refine s_i2c C at_48 (pc' := 49) rfl ?_
      refine s_castore C at_49 (pc' := 50) rfl A199 0 (by decide) (Nat.le_of_ble_eq_true rfl) gn201 [(.int (x4 &&& (255 : Int32)).toUInt32.toUInt16.toUInt32.toInt32.toUInt32.toUInt16.toUInt32.toInt32)] rfl (fun h204 W204 A204 => ?_)
      have sz205 : n0 ≤ h204.size := (Nat.le_trans sz202 (Nat.le_of_eq W204.size.symm))
      have Od206 : Old Z n0 h204 := Od203.wr W204 gn201
      refine s_iload C at_50 (pc' := 52) rfl rfl ?_
      refine s_if_ne C at_52 (pc' := 55) rfl (pcY := 83) rfl (fun c207 => ?_) (fun hc => by exfalso; revert hc; decide)
      refine s_iload C at_83 (pc' := 85) rfl rfl ?_
      refine s_iconst C at_85 (pc' := 86) rfl (1 : Int32) rfl ?_
      refine s_icmp_ne C at_86 (pc' := 89) rfl (pcY := 98) rfl (fun c208 => ?_) (fun hc => by exfalso; revert hc; decide)
      refine s_iload C at_98 (pc' := 100) rfl rfl ?_
      refine s_iconst C at_100 (pc' := 101) rfl (2 : Int32) rfl ?_
      refine s_icmp_ne C at_101 (pc' := 104) rfl (pcY := 128) rfl (fun c209 => ?_) (fun hc => by exfalso; revert hc; decide)
      refine s_iload C at_128 (pc' := 130) rfl rfl ?_
      refine s_iconst C at_130 (pc' := 131) rfl (3 : Int32) rfl ?_
      refine s_icmp_ne C at_131 (pc' := 134) rfl (pcY := 147) rfl (fun hc => by exfalso; revert hc; decide) (fun c210 => ?_)
      refine s_lload C at_134 (pc' := 136) rfl rfl ?_
      refine s_callSA C at_136 (pc' := 139) rfl (w70 hw) (w71 hw) (w72 hw) (w73 hw) (by decide) [(.long x1)] [] pd1 rfl rfl (c_vof l Z a0 hw x1 ca cl cs h204 n0 sz205 Od206 S_ca B S_cs hcs) rfl (W := 0) rfl (by decide) (by decide) (k' := 3) rfl (by decide) (n' := 3) rfl (by decide) (fun _ h211 q211 => ?_)
      obtain ⟨r211, rfl, K211, X211⟩ := q211
      have sz212 : n0 ≤ h211.size := (Nat.le_trans sz205 K211.1)
      have Od213 : Old Z n0 h211 := Od206.keep K211 all0
      refine s_astore C at_139 (pc' := 141) rfl rfl #[.val (.long x1), .second, .val (.long x2), .second, .val (.int x3), .val (.int x4), .val (.ref a1), .val (.long x1), .second, .val (.int (3 : Int32)), .val (.ref a199), .val (.ref r211), .unset] rfl ?_
      refine s_iconst C at_141 (pc' := 142) rfl (0 : Int32) rfl ?_
      refine s_istoreP C at_142 (pc' := 144) rfl #[.val (.long x1), .second, .val (.long x2), .second, .val (.int x3), .val (.int x4), .val (.ref a1), .val (.long x1), .second, .val (.int (3 : Int32)), .val (.ref a199), .val (.ref r211), .val (.int (0 : Int32))] rfl ?_
      refine s_goto C at_144 (pc' := 154) rfl ?_
      refine s_aload C at_154 (pc' := 156) rfl rfl rfl ?_
      refine s_aload C at_156 (pc' := 158) rfl rfl rfl ?_
      have Ex215 := (((E5.ext E199).wr W204).keep K211)
      refine s_callVI C at_158 (pc' := 161) rfl (w17 hw) (w18 hw) (notFace_of_selects (args := #[]) (mvT C.2.1 (w20 hw))) (w20 hw) (w19 hw) (w2 hw) (w21 hw) (by decide) Ex215 [(.ref r211)] [] pd3 rfl rfl (c_eqL l Z a0 hw a1 r211 h211 n0 sz212 X211) rfl (W := 0) rfl (by decide) (by decide) (k' := 3) rfl (by decide) (n' := 3) rfl (by decide) (fun _ _ q214 => ?_)
      obtain ⟨rfl, rfl⟩ := q214
      refine s_iload C at_161 (pc' := 163) rfl rfl ?_
      refine s_icmp_ne C at_163 (pc' := 166) rfl (pcY := 170) rfl (fun hc => by exfalso; revert hc; decide) (fun c216 => ?_)
      refine s_iconst C at_166 (pc' := 167) rfl (1 : Int32) rfl ?_
      refine s_goto C at_167 (pc' := 171) rfl ?_
      exact Run.wide (s_retN C (by simp) at_171 (by decide) (by decide) rfl)
    · subst q
      refine s_istoreP C at_32 (pc' := 34) rfl #[.val (.long x1), .second, .val (.long x2), .second, .val (.int x3), .val (.int x4), .val (.ref a1), .val (.long x1), .second, .val (.int (4 : Int32)), .unset, .unset, .unset] rfl ?_
      refine s_iconst C at_34 (pc' := 35) rfl (1 : Int32) rfl ?_
      refine s_newarr C (cap := 1) at_35 (pc' := 37) rfl (w16 hw) (by decide) (by decide) (by decide) (k' := 2) rfl (by decide) (n' := 2) rfl (by decide) [(.int (0 : Int32))] rfl (fun h217 a217 E217 g217 A217 => ?_)
      have ne218 : a1 ≠ a217 := Nat.ne_of_lt (by rw [g217]; exact E5.lt)
      have gn219 : n0 ≤ a217 := by rw [g217]; exact sz6
      have sz220 : n0 ≤ h217.size := (Nat.le_trans sz6 E217.1)
      have Od221 : Old Z n0 h217 := Od7.ext E217
      refine s_astore C at_37 (pc' := 39) rfl rfl #[.val (.long x1), .second, .val (.long x2), .second, .val (.int x3), .val (.int x4), .val (.ref a1), .val (.long x1), .second, .val (.int (4 : Int32)), .val (.ref a217), .unset, .unset] rfl ?_
      refine s_aload C at_39 (pc' := 41) rfl rfl rfl ?_
      refine s_iconst C at_41 (pc' := 42) rfl (0 : Int32) rfl ?_
      refine s_iload C at_42 (pc' := 44) rfl rfl ?_
      refine s_sipush C at_44 (pc' := 47) rfl (255 : Int32) rfl ?_
      refine s_iand C at_47 (pc' := 48) rfl ?_
      refine s_i2c C at_48 (pc' := 49) rfl ?_
      refine s_castore C at_49 (pc' := 50) rfl A217 0 (by decide) (Nat.le_of_ble_eq_true rfl) gn219 [(.int (x4 &&& (255 : Int32)).toUInt32.toUInt16.toUInt32.toInt32.toUInt32.toUInt16.toUInt32.toInt32)] rfl (fun h222 W222 A222 => ?_)
      have sz223 : n0 ≤ h222.size := (Nat.le_trans sz220 (Nat.le_of_eq W222.size.symm))
      have Od224 : Old Z n0 h222 := Od221.wr W222 gn219
      refine s_iload C at_50 (pc' := 52) rfl rfl ?_
      refine s_if_ne C at_52 (pc' := 55) rfl (pcY := 83) rfl (fun c225 => ?_) (fun hc => by exfalso; revert hc; decide)
      refine s_iload C at_83 (pc' := 85) rfl rfl ?_
      refine s_iconst C at_85 (pc' := 86) rfl (1 : Int32) rfl ?_
      refine s_icmp_ne C at_86 (pc' := 89) rfl (pcY := 98) rfl (fun c226 => ?_) (fun hc => by exfalso; revert hc; decide)
      refine s_iload C at_98 (pc' := 100) rfl rfl ?_
      refine s_iconst C at_100 (pc' := 101) rfl (2 : Int32) rfl ?_
      refine s_icmp_ne C at_101 (pc' := 104) rfl (pcY := 128) rfl (fun c227 => ?_) (fun hc => by exfalso; revert hc; decide)
      refine s_iload C at_128 (pc' := 130) rfl rfl ?_
      refine s_iconst C at_130 (pc' := 131) rfl (3 : Int32) rfl ?_
      refine s_icmp_ne C at_131 (pc' := 134) rfl (pcY := 147) rfl (fun c228 => ?_) (fun hc => by exfalso; revert hc; decide)
      refine s_aload C at_147 (pc' := 149) rfl rfl rfl ?_
      refine s_astore C at_149 (pc' := 151) rfl rfl #[.val (.long x1), .second, .val (.long x2), .second, .val (.int x3), .val (.int x4), .val (.ref a1), .val (.long x1), .second, .val (.int (4 : Int32)), .val (.ref a217), .val (.ref a1), .unset] rfl ?_
      refine s_iconst C at_151 (pc' := 152) rfl (1 : Int32) rfl ?_
      refine s_istoreP C at_152 (pc' := 154) rfl #[.val (.long x1), .second, .val (.long x2), .second, .val (.int x3), .val (.int x4), .val (.ref a1), .val (.long x1), .second, .val (.int (4 : Int32)), .val (.ref a217), .val (.ref a1), .val (.int (1 : Int32))] rfl ?_
      refine s_aload C at_154 (pc' := 156) rfl rfl rfl ?_
      refine s_aload C at_156 (pc' := 158) rfl rfl rfl ?_
      have Ex230 := ((E5.ext E217).wr W222)
      have Fx231 := ((F5_number.ext E217).other W222 (Or.inl ne218))
      refine s_callVI C at_158 (pc' := 161) rfl (w17 hw) (w18 hw) (notFace_of_selects (args := #[]) (mvT C.2.1 (w20 hw))) (w20 hw) (w19 hw) (w2 hw) (w21 hw) (by decide) Ex230 [(.ref a1)] [] pd3 rfl rfl (c_eqI l Z a0 hw a1 a1 x1 x1 h222 n0 sz223 Ex230 Fx231 Ex230 Fx231) rfl (W := 0) rfl (by decide) (by decide) (k' := 2) rfl (by decide) (n' := 2) rfl (by decide) (fun _ _ q229 => ?_)
      obtain rfl := q229.1 rfl
      obtain rfl := q229.2.2
      refine s_iload C at_161 (pc' := 163) rfl rfl ?_
      refine s_icmp_ne C at_163 (pc' := 166) rfl (pcY := 170) rfl (fun hc => by exfalso; revert hc; decide) (fun c232 => ?_)
      refine s_iconst C at_166 (pc' := 167) rfl (1 : Int32) rfl ?_
      refine s_goto C at_167 (pc' := 171) rfl ?_
      exact Run.wide (s_retN C (by simp) at_171 (by decide) (by decide) rfl)
end Own
end Jvm.Pilot.@@N@@
namespace Jvm.Pilot.@@N@@
open Jvm Jvm.ClassFile Sem Op Lib Jvm.Free Jvm.Stand Jvm.LawKit Jvm.RoadKit Bundle Own Jvm.Pilot.@@N@@.Jvm.D
set_option maxRecDepth 65536 in
set_option maxHeartbeats 40000000 in
theorem comes_1 {Post : Tables → Env → Array Value → State → Outcome → State → Prop} (hpost : ∀ tb e args s v u, (limb_1_1.after args s (.returned v) u = true ∧ limb_1_2.after args s (.returned v) u = true ∧ True) → ReturnedEndW s (.returned v) u (Jvm.fieldLocs frame_1_writes args s ++ Jvm.arrayLocs frame_1_arrays args s ++ Jvm.staticLocs frame_1_statics s) 24 1152 → Post tb e args s (.returned v) u) :
    ArmFor flags0 classFile x code maxLocals ret World_1 tables_1 room_1 Calls_1 rest_1 Pre_1 Post := by
  intro l hfl _ _ p e ha hc hk s m args below hf hA hF happ hP
  obtain ⟨hcalls, hrest, hpre⟩ := hP
  obtain ⟨-, -, -, hnamed, -, -, -, hat⟩ := (Spec.applies_iff hf).mp happ
  obtain ⟨hg, hn⟩ := and_e (Cond.before_iff.mp (show (Jvm.Cond.and given_1 narrow_1).before args s = true from hpre))
  obtain ⟨g1, g2⟩ := and_e hg
  obtain ⟨g3, g4⟩ := and_e g2
  obtain ⟨g5, g6⟩ := and_e g4
  obtain ⟨g7, g8⟩ := and_e g6
  obtain ⟨w0, w1, w2, w3, rfl⟩ : ∃ w0 w1 w2 w3 : Value, args = #[w0, w1, w2, w3] := by
    have hs : args.size = 4 := by simpa [Cond.value, given_1] using g1
    obtain ⟨L⟩ := args
    match L, hs with
    | [w0, w1, w2, w3], _ => exact ⟨w0, w1, w2, w3, rfl⟩
  have hw := fun d (hd : d ∈ tables_1) => atoms_spec (ws := Jvm.Cond.code x code maxLocals ret :: tables_1) hat d (List.mem_cons_of_mem _ hd)
  have hfit : Fit s := fun {y c} hc i hi => by
    obtain ⟨ha, rfl⟩ := Array.getElem?_eq_some_iff.mp hc
    have q := List.all_eq_true.mp ((Array.all_eq_true_iff_forall_mem.mp hF) _ (Array.getElem_mem ha)) i (List.mem_range.mpr hi)
    simpa [Array.getElem?_eq_getElem hi] using q
  obtain ⟨hsets, hown0⟩ := atoms_of _ (rest_1_c_eq ▸ (show rest_1_c.before _ s = true from hrest))
  have hr0 := Cond.before_iff.mp hown0
  obtain ⟨i0, ei0⟩ := isL_v g3
  obtain rfl : w0 = (.long i0) := Option.some.inj ei0
  obtain ⟨i1, ei1⟩ := isL_v g5
  obtain rfl : w1 = (.long i1) := Option.some.inj ei1
  obtain ⟨i2, ei2⟩ := is_v g7
  obtain rfl : w2 = (.int i2) := Option.some.inj ei2
  obtain ⟨i3, ei3⟩ := is_v g8
  obtain rfl : w3 = (.int i3) := Option.some.inj ei3
  obtain ⟨ca, cl, cs, T1, T2, T3, T4⟩ := own_rest hw hsets
  obtain ⟨n, o, h1, h2, h3, _, L, rfl, ⟨⟨_, rfl, rfl⟩, N⟩, hq⟩ := law l s _ hw i0 i1 i2 i3 ca cl cs s.heap s.heap.size (Nat.le_refl _) (Old.start s) T1 T2 T3 T4 p e ha hc hk s m _ below hf ((Spec.applies_iff_loose hf).mp happ).1 ⟨rfl, State.Warmed39.refl s, rfl⟩ trivial
  refine ⟨n, _, h1, h2, h3, hpost _ _ _ _ _ _ ⟨Cond.after_iff.mpr rfl, Cond.after_iff.mpr (eq_i res_at (Term.int_eval (1)) rfl), trivial⟩ ⟨hq.1, hq.2.1, hq.2.2.1, (hq.2.2.2.sift fun y hy => Or.inr (N y hy)).mono (by decide) (by decide)⟩⟩
theorem main_1_1 : Claimed_1_1 := comes_1 fun _ _ _ _ _ _ h hF => ⟨h.1, hF⟩
theorem main_1_2 : Claimed_1_2 := comes_1 fun _ _ _ _ _ _ h hF => ⟨h.2.1, hF⟩
end Jvm.Pilot.@@N@@
namespace Jvm.Pilot.@@N@@
open Jvm Jvm.ClassFile Sem Op Lib Jvm.Free Jvm.Stand Jvm.Pilot.@@N@@.Jvm.D
/-! MADE BY PROGRAM (witnessworld.py) out of the Statement's table words and the real class files: 28 classes; the members and pool entries that the words name. The judged class is class 1, her method 1. -/
namespace start1
open Jvm.ClassFile
def u (s : String) : CpInfo := .utf8 (stringToUtf16 s)
/-- a pool by its gaps: so many unusable entries, then the entry; so many at the end -/
def gap : Nat → List CpInfo → List CpInfo
  | 0, r => r
  | n + 1, r => .unusable :: gap n r
def poolList (es : List (Nat × CpInfo)) (last : Nat) : List CpInfo := es.foldr (fun e r => gap e.1 (e.2 :: r)) (gap last [])
def pool (es : List (Nat × CpInfo)) (last : Nat) : Array CpInfo := ⟨poolList es last⟩
def fileOf (pool : Array CpInfo) (this : Nat) (attrs : Array Attribute := #[]) (ms : Array MethodInfo := #[]) (fl : Nat := 33) (sup : Nat := 0) (ifs : Array Nat := #[]) (fds : Array FieldInfo := #[]) : ClassFile where
  minorVersion := 0
  majorVersion := 65
  constantPool := pool
  accessFlags := fl
  thisClass := this
  superClass := sup
  interfaces := ifs
  fields := fds
  methods := ms
  attributes := attrs
def plain (name : String) (sup : Option ClassId) : Class where
  name := name
  kind := .ordinary
  loader := none
  accessFlags := 33
  super := sup
  interfaces := #[]
  cf := none
  fields := #[]
  methods := #[]
  instanceTypes := #[]
  staticTypes := #[]
  resolved := #[]
  callSites := []
  init := .initialized
  statics := none
  mirror := none

def pool0 : Array CpInfo := pool [(5, u "<init>"), (0, u "()V"), (1, .class_ 10), (1, u "java/lang/Object")] 113

def k0c0 : Code := { maxStack := 0, maxLocals := 1, code := object_method_1_code, exceptionTable := #[], attributes := #[] }
def k0m0 : Method := { name := "<init>", desc := "()V", sig := { parameters := [], returnType := none }, accessFlags := 1, code := some k0c0 }
/-- java/lang/Object -/
def k0 : Class := { plain "java/lang/Object" none with
  accessFlags := 33
  interfaces := #[]
  cf := some (fileOf pool0 8 #[] #[{ accessFlags := 1, nameIndex := 5, descriptorIndex := 6, attributes := #[] }] 33 0 #[] #[])
  fields := #[]
  methods := #[k0m0]
  instanceTypes := #[]
  staticTypes := #[]
  resolved := Array.replicate 124 none
  statics := none }

def pool1 : Array CpInfo := pool [(2, .class_ 4), (1, u "java/lang/Object"), (0, u "<init>"), (0, u "()V"), (0, .class_ 8), (0, u "com/example/chasm/chasm/model/InventedValue"), (0, .methodref 7 10), (0, .nameAndType 5 11), (0, u "(J)V"), (0, .class_ 13), (0, u "com/example/chasm/chasm/model/Constant"), (0, .class_ 15), (0, u "java/lang/String"), (0, .methodref 14 17), (0, .nameAndType 5 18), (0, u "([C)V"), (0, .methodref 12 20), (0, .nameAndType 5 21), (0, u "(Ljava/lang/String;)V"), (0, .methodref 23 24), (0, .class_ 25), (0, .nameAndType 26 27), (0, u "java/lang/Long"), (0, u "valueOf"), (0, u "(J)Ljava/lang/Long;"), (0, .methodref 7 29), (0, .nameAndType 30 31), (0, u "equals"), (0, u "(Ljava/lang/Object;)Z"), (0, .class_ 33), (0, u "com/example/chasm/chasm/model/InventedValueEqualsPinLaw"), (2, u "law"), (0, u "(JJII)Z")] 5

def k1m0 : Method := { name := "<init>", desc := "()V", sig := { parameters := [], returnType := none }, accessFlags := 1, code := none }
def k1c1 : Code := { maxStack := 5, maxLocals := 13, code := code, exceptionTable := #[], attributes := #[] }
def k1m1 : Method := { name := "law", desc := "(JJII)Z", sig := { parameters := [.long, .long, .int, .int], returnType := some .boolean }, accessFlags := 9, code := some k1c1 }
/-- com/example/chasm/chasm/model/InventedValueEqualsPinLaw -/
def k1 : Class := { plain "com/example/chasm/chasm/model/InventedValueEqualsPinLaw" (some 0) with
  accessFlags := 49
  interfaces := #[]
  cf := some (fileOf pool1 32 #[] #[{ accessFlags := 1, nameIndex := 5, descriptorIndex := 6, attributes := #[] }, { accessFlags := 9, nameIndex := 36, descriptorIndex := 37, attributes := #[] }] 49 2 #[] #[])
  fields := #[]
  methods := #[k1m0, k1m1]
  instanceTypes := #[]
  staticTypes := #[]
  resolved := Array.replicate 43 none
  statics := none }

def pool2 : Array CpInfo := pool [(1, .methodref 2 3), (0, .class_ 4), (0, .nameAndType 5 6), (0, u "java/lang/Object"), (0, u "<init>"), (0, u "()V"), (0, .class_ 8), (0, u "java/lang/Record")] 13

def k2c0 : Code := { maxStack := 1, maxLocals := 1, code := jdk_30_method_1_code, exceptionTable := #[], attributes := #[] }
def k2m0 : Method := { name := "<init>", desc := "()V", sig := { parameters := [], returnType := none }, accessFlags := 4, code := some k2c0 }
/-- java/lang/Record -/
def k2 : Class := { plain "java/lang/Record" (some 0) with
  accessFlags := 1057
  interfaces := #[]
  cf := some (fileOf pool2 7 #[] #[{ accessFlags := 4, nameIndex := 5, descriptorIndex := 6, attributes := #[] }] 1057 2 #[] #[])
  fields := #[]
  methods := #[k2m0]
  instanceTypes := #[]
  staticTypes := #[]
  resolved := Array.replicate 22 none
  statics := none }

def pool3 : Array CpInfo := pool [(1, .class_ 2), (0, u "com/example/chasm/chasm/model/Term"), (0, .class_ 4), (0, u "java/lang/Object")] 9

/-- com/example/chasm/chasm/model/Term -/
def k3 : Class := { plain "com/example/chasm/chasm/model/Term" (some 0) with
  accessFlags := 1537
  interfaces := #[]
  cf := some (fileOf pool3 1 #[] #[] 1537 3 #[] #[])
  fields := #[]
  methods := #[]
  instanceTypes := #[]
  staticTypes := #[]
  resolved := Array.replicate 14 none
  statics := none }

def pool4 : Array CpInfo := pool [(1, .methodref 2 3), (0, .class_ 4), (0, .nameAndType 5 6), (0, u "java/lang/Record"), (0, u "<init>"), (0, u "()V"), (0, .fieldref 8 9), (0, .class_ 10), (0, .nameAndType 11 12), (0, u "com/example/chasm/chasm/model/InventedValue"), (0, u "number"), (0, u "J"), (16, .class_ 30), (0, u "com/example/chasm/chasm/model/Term"), (0, u "(J)V"), (3, u "equals"), (0, u "(Ljava/lang/Object;)Z")] 23

def k4c0 : Code := { maxStack := 3, maxLocals := 3, code := prog_51_method_1_code, exceptionTable := #[], attributes := #[] }
def k4m0 : Method := { name := "<init>", desc := "(J)V", sig := { parameters := [.long], returnType := none }, accessFlags := 1, code := some k4c0 }
def k4c1 : Code := { maxStack := 4, maxLocals := 3, code := prog_51_method_2_code, exceptionTable := #[], attributes := #[] }
def k4m1 : Method := { name := "equals", desc := "(Ljava/lang/Object;)Z", sig := { parameters := [(.object "java/lang/Object")], returnType := some .boolean }, accessFlags := 1, code := some k4c1 }
/-- com/example/chasm/chasm/model/InventedValue -/
def k4 : Class := { plain "com/example/chasm/chasm/model/InventedValue" (some 2) with
  accessFlags := 49
  interfaces := #[3]
  cf := some (fileOf pool4 8 #[] #[{ accessFlags := 1, nameIndex := 5, descriptorIndex := 31, attributes := #[] }, { accessFlags := 1, nameIndex := 35, descriptorIndex := 36, attributes := #[] }] 49 2 #[29] #[{ accessFlags := 18, nameIndex := 11, descriptorIndex := 12, attributes := #[] }])
  fields := #[{ name := "number", type := .long, accessFlags := 18, slot := 0, constantValue := 0 }]
  methods := #[k4m0, k4m1]
  instanceTypes := #[.long]
  staticTypes := #[]
  resolved := Array.replicate 60 none
  statics := none }

def pool5 : Array CpInfo := pool [(1, .methodref 2 3), (0, .class_ 4), (0, .nameAndType 5 6), (0, u "java/lang/Record"), (0, u "<init>"), (0, u "()V"), (0, .string 8), (0, u "text"), (0, .methodref 10 11), (0, .class_ 12), (0, .nameAndType 13 14), (0, u "java/util/Objects"), (0, u "requireNonNull"), (0, u "(Ljava/lang/Object;Ljava/lang/String;)Ljava/lang/Object;"), (0, .fieldref 16 17), (0, .class_ 18), (0, .nameAndType 8 19), (0, u "com/example/chasm/chasm/model/Constant"), (0, u "Ljava/lang/String;"), (16, .class_ 37), (0, u "com/example/chasm/chasm/model/Term"), (0, u "(Ljava/lang/String;)V")] 9

def k5c0 : Code := { maxStack := 2, maxLocals := 2, code := prog_39_method_1_code, exceptionTable := #[], attributes := #[] }
def k5m0 : Method := { name := "<init>", desc := "(Ljava/lang/String;)V", sig := { parameters := [(.object "java/lang/String")], returnType := none }, accessFlags := 1, code := some k5c0 }
/-- com/example/chasm/chasm/model/Constant -/
def k5 : Class := { plain "com/example/chasm/chasm/model/Constant" (some 2) with
  accessFlags := 49
  interfaces := #[3]
  cf := some (fileOf pool5 16 #[] #[{ accessFlags := 1, nameIndex := 5, descriptorIndex := 38, attributes := #[] }] 49 2 #[36] #[{ accessFlags := 18, nameIndex := 8, descriptorIndex := 19, attributes := #[] }])
  fields := #[{ name := "text", type := (.object "java/lang/String"), accessFlags := 18, slot := 0, constantValue := 0 }]
  methods := #[k5m0]
  instanceTypes := #[(.object "java/lang/String")]
  staticTypes := #[]
  resolved := Array.replicate 48 none
  statics := none }

def pool6 : Array CpInfo := pool [(1, .class_ 2), (0, u "java/io/Serializable"), (0, .class_ 4), (0, u "java/lang/Object")] 2

/-- java/io/Serializable -/
def k6 : Class := { plain "java/io/Serializable" (some 0) with
  accessFlags := 1537
  interfaces := #[]
  cf := some (fileOf pool6 1 #[] #[] 1537 3 #[] #[])
  fields := #[]
  methods := #[]
  instanceTypes := #[]
  staticTypes := #[]
  resolved := Array.replicate 7 none
  statics := none }

def pool7 : Array CpInfo := pool [(1, .class_ 2), (0, u "java/lang/Comparable"), (0, .class_ 4), (0, u "java/lang/Object")] 7

/-- java/lang/Comparable -/
def k7 : Class := { plain "java/lang/Comparable" (some 0) with
  accessFlags := 1537
  interfaces := #[]
  cf := some (fileOf pool7 1 #[] #[] 1537 3 #[] #[])
  fields := #[]
  methods := #[]
  instanceTypes := #[]
  staticTypes := #[]
  resolved := Array.replicate 12 none
  statics := none }

def pool8 : Array CpInfo := pool [(2, .class_ 4), (1, u "java/lang/CharSequence"), (42, .class_ 48), (0, u "java/lang/CharSequence$1CodePointIterator"), (10, .class_ 60), (0, u "java/lang/CharSequence$1CharIterator"), (5, .class_ 67), (0, u "java/lang/Object")] 63

/-- java/lang/CharSequence -/
def k8 : Class := { plain "java/lang/CharSequence" (some 0) with
  accessFlags := 1537
  interfaces := #[]
  cf := some (fileOf pool8 2 #[.nestMembers #[47, 59]] #[] 1537 66 #[] #[])
  fields := #[]
  methods := #[]
  instanceTypes := #[]
  staticTypes := #[]
  resolved := Array.replicate 131 none
  statics := none }

def pool9 : Array CpInfo := pool [(1, .class_ 2), (0, u "java/lang/constant/Constable"), (0, .class_ 4), (0, u "java/lang/Object")] 6

/-- java/lang/constant/Constable -/
def k9 : Class := { plain "java/lang/constant/Constable" (some 0) with
  accessFlags := 1537
  interfaces := #[]
  cf := some (fileOf pool9 1 #[] #[] 1537 3 #[] #[])
  fields := #[]
  methods := #[]
  instanceTypes := #[]
  staticTypes := #[]
  resolved := Array.replicate 11 none
  statics := none }

def pool10 : Array CpInfo := pool [(1, .class_ 2), (0, u "java/lang/constant/ConstantDesc"), (0, .class_ 4), (0, u "java/lang/Object")] 32

/-- java/lang/constant/ConstantDesc -/
def k10 : Class := { plain "java/lang/constant/ConstantDesc" (some 0) with
  accessFlags := 1537
  interfaces := #[]
  cf := some (fileOf pool10 1 #[] #[] 1537 3 #[] #[])
  fields := #[]
  methods := #[]
  instanceTypes := #[]
  staticTypes := #[]
  resolved := Array.replicate 37 none
  statics := none }

def pool11 : Array CpInfo := pool [(1, .methodref 2 3), (0, .class_ 4), (0, .nameAndType 5 6), (0, u "java/lang/Object"), (0, u "<init>"), (0, u "()V"), (2, .fieldref 10 11), (0, .class_ 12), (0, .nameAndType 13 14), (0, u "java/lang/String"), (0, u "value"), (0, u "[B"), (0, .fieldref 10 16), (0, .nameAndType 17 18), (0, u "coder"), (0, u "B"), (2, u "hash"), (0, u "I"), (2, u "hashIsZero"), (0, u "Z"), (0, .methodref 10 28), (0, .nameAndType 5 29), (0, u "([CIILjava/lang/Void;)V"), (8, .fieldref 10 39), (0, .nameAndType 40 26), (0, u "COMPACT_STRINGS"), (1, .class_ 44), (1, u "java/lang/StringUTF16"), (0, u "compress"), (1, .methodref 42 48), (0, .nameAndType 49 50), (0, u "coderFromArrayLen"), (0, u "([BI)B"), (126, .methodref 42 178), (0, .nameAndType 45 179), (0, u "([CII)[B"), (395, .class_ 576), (0, u "java/lang/CharSequence"), (22, u "CASE_INSENSITIVE_ORDER"), (0, u "Ljava/util/Comparator;"), (409, u "([C)V"), (90, u "serialPersistentFields"), (0, u "[Ljava/io/ObjectStreamField;"), (0, .class_ 1104), (0, u "java/lang/String$CaseInsensitiveComparator"), (1, .class_ 1107), (0, u "java/io/Serializable"), (0, .class_ 1109), (0, u "java/lang/Comparable"), (0, .class_ 1111), (0, u "java/lang/constant/Constable"), (0, .class_ 1113), (0, u "java/lang/constant/ConstantDesc"), (2, u "serialVersionUID"), (0, u "J"), (3, u "REPL"), (0, u "C"), (2, u "LATIN1"), (1, u "UTF16")] 323

def k11m0 : Method := { name := "<init>", desc := "()V", sig := { parameters := [], returnType := none }, accessFlags := 1, code := none }
def k11c1 : Code := { maxStack := 5, maxLocals := 2, code := jdk_42_method_3_code, exceptionTable := #[], attributes := #[] }
def k11m1 : Method := { name := "<init>", desc := "([C)V", sig := { parameters := [(.array .char)], returnType := none }, accessFlags := 1, code := some k11c1 }
def k11c2 : Code := { maxStack := 4, maxLocals := 6, code := jdk_42_method_149_code, exceptionTable := #[], attributes := #[] }
def k11m2 : Method := { name := "<init>", desc := "([CIILjava/lang/Void;)V", sig := { parameters := [(.array .char), .int, .int, (.object "java/lang/Void")], returnType := none }, accessFlags := 2, code := some k11c2 }
/-- java/lang/String -/
def k11 : Class := { plain "java/lang/String" (some 0) with
  accessFlags := 49
  interfaces := #[6, 7, 8, 9, 10]
  cf := some (fileOf pool11 10 #[.nestMembers #[1103]] #[{ accessFlags := 1, nameIndex := 5, descriptorIndex := 6, attributes := #[] }, { accessFlags := 1, nameIndex := 5, descriptorIndex := 1010, attributes := #[] }, { accessFlags := 2, nameIndex := 5, descriptorIndex := 29, attributes := #[] }] 49 2 #[1106, 1108, 575, 1110, 1112] #[{ accessFlags := 18, nameIndex := 13, descriptorIndex := 14, attributes := #[] }, { accessFlags := 18, nameIndex := 17, descriptorIndex := 18, attributes := #[] }, { accessFlags := 2, nameIndex := 21, descriptorIndex := 22, attributes := #[] }, { accessFlags := 2, nameIndex := 25, descriptorIndex := 26, attributes := #[] }, { accessFlags := 26, nameIndex := 1116, descriptorIndex := 1117, attributes := #[] }, { accessFlags := 24, nameIndex := 40, descriptorIndex := 26, attributes := #[] }, { accessFlags := 26, nameIndex := 1101, descriptorIndex := 1102, attributes := #[] }, { accessFlags := 26, nameIndex := 1121, descriptorIndex := 1122, attributes := #[] }, { accessFlags := 25, nameIndex := 599, descriptorIndex := 600, attributes := #[] }, { accessFlags := 24, nameIndex := 1125, descriptorIndex := 18, attributes := #[] }, { accessFlags := 24, nameIndex := 1127, descriptorIndex := 18, attributes := #[] }])
  fields := #[{ name := "value", type := (.array .byte), accessFlags := 18, slot := 0, constantValue := 0 }, { name := "coder", type := .byte, accessFlags := 18, slot := 1, constantValue := 0 }, { name := "hash", type := .int, accessFlags := 2, slot := 2, constantValue := 0 }, { name := "hashIsZero", type := .boolean, accessFlags := 2, slot := 3, constantValue := 0 }, { name := "serialVersionUID", type := .long, accessFlags := 26, slot := 0, constantValue := 0 }, { name := "COMPACT_STRINGS", type := .boolean, accessFlags := 24, slot := 1, constantValue := 0 }, { name := "serialPersistentFields", type := (.array (.object "java/io/ObjectStreamField")), accessFlags := 26, slot := 2, constantValue := 0 }, { name := "REPL", type := .char, accessFlags := 26, slot := 3, constantValue := 0 }, { name := "CASE_INSENSITIVE_ORDER", type := (.object "java/util/Comparator"), accessFlags := 25, slot := 4, constantValue := 0 }, { name := "LATIN1", type := .byte, accessFlags := 24, slot := 5, constantValue := 0 }, { name := "UTF16", type := .byte, accessFlags := 24, slot := 6, constantValue := 0 }]
  methods := #[k11m0, k11m1, k11m2]
  instanceTypes := #[(.array .byte), .byte, .int, .boolean]
  staticTypes := #[.long, .boolean, (.array (.object "java/io/ObjectStreamField")), .char, (.object "java/util/Comparator"), .byte, .byte]
  resolved := Array.replicate 1451 none
  statics := some 0 }

def pool12 : Array CpInfo := pool [(6, .class_ 8), (1, u "java/lang/Object"), (0, u "<init>"), (0, u "()V"), (1, .class_ 14), (1, u "java/lang/StringUTF16"), (31, u "$assertionsDisabled"), (0, u "Z"), (13, u "HI_BYTE_SHIFT"), (0, u "I"), (2, u "LO_BYTE_SHIFT"), (49, .methodref 12 116), (0, .nameAndType 117 118), (0, u "compress"), (0, u "([CI[BII)I"), (3, u "([CII)[B"), (138, u "coderFromArrayLen"), (0, u "([BI)B"), (106, .class_ 371), (1, u "java/lang/StringUTF16$LinesSpliterator"), (58, u "MAX_LENGTH"), (196, .class_ 628), (0, u "java/lang/StringUTF16$CodePointsSpliterator"), (0, .class_ 630), (0, u "java/lang/StringUTF16$CharsSpliterator")] 4

def k12m0 : Method := { name := "<init>", desc := "()V", sig := { parameters := [], returnType := none }, accessFlags := 0, code := none }
def k12c1 : Code := { maxStack := 2, maxLocals := 2, code := jdk_52_method_15_code, exceptionTable := #[], attributes := #[] }
def k12m1 : Method := { name := "coderFromArrayLen", desc := "([BI)B", sig := { parameters := [(.array .byte), .int], returnType := some .byte }, accessFlags := 8, code := some k12c1 }
def k12c2 : Code := { maxStack := 5, maxLocals := 6, code := jdk_52_method_16_code, exceptionTable := #[], attributes := #[] }
def k12m2 : Method := { name := "compress", desc := "([CII)[B", sig := { parameters := [(.array .char), .int, .int], returnType := some (.array .byte) }, accessFlags := 9, code := some k12c2 }
def k12c3 : Code := { maxStack := 3, maxLocals := 7, code := jdk_52_method_21_code, exceptionTable := #[], attributes := #[] }
def k12m3 : Method := { name := "compress", desc := "([CI[BII)I", sig := { parameters := [(.array .char), .int, (.array .byte), .int, .int], returnType := some .int }, accessFlags := 9, code := some k12c3 }
/-- java/lang/StringUTF16 -/
def k12 : Class := { plain "java/lang/StringUTF16" (some 0) with
  accessFlags := 48
  interfaces := #[]
  cf := some (fileOf pool12 12 #[.nestMembers #[627, 629, 369]] #[{ accessFlags := 0, nameIndex := 9, descriptorIndex := 10, attributes := #[] }, { accessFlags := 8, nameIndex := 261, descriptorIndex := 262, attributes := #[] }, { accessFlags := 9, nameIndex := 117, descriptorIndex := 122, attributes := #[] }, { accessFlags := 9, nameIndex := 117, descriptorIndex := 118, attributes := #[] }] 48 6 #[] #[{ accessFlags := 26, nameIndex := 61, descriptorIndex := 62, attributes := #[] }, { accessFlags := 26, nameIndex := 65, descriptorIndex := 62, attributes := #[] }, { accessFlags := 24, nameIndex := 430, descriptorIndex := 62, attributes := #[] }, { accessFlags := 4120, nameIndex := 46, descriptorIndex := 47, attributes := #[] }])
  fields := #[{ name := "HI_BYTE_SHIFT", type := .int, accessFlags := 26, slot := 0, constantValue := 0 }, { name := "LO_BYTE_SHIFT", type := .int, accessFlags := 26, slot := 1, constantValue := 0 }, { name := "MAX_LENGTH", type := .int, accessFlags := 24, slot := 2, constantValue := 0 }, { name := "$assertionsDisabled", type := .boolean, accessFlags := 4120, slot := 3, constantValue := 0 }]
  methods := #[k12m0, k12m1, k12m2, k12m3]
  instanceTypes := #[]
  staticTypes := #[.int, .int, .int, .boolean]
  resolved := Array.replicate 635 none
  statics := none }

def pool13 : Array CpInfo := pool [(2, .class_ 4), (1, u "java/lang/Object"), (0, u "<init>"), (0, u "()V"), (35, .class_ 44), (1, u "java/util/Objects"), (0, u "requireNonNull"), (48, u "(Ljava/lang/Object;Ljava/lang/String;)Ljava/lang/Object;")] 89

def k13m0 : Method := { name := "<init>", desc := "()V", sig := { parameters := [], returnType := none }, accessFlags := 2, code := none }
def k13c1 : Code := { maxStack := 3, maxLocals := 2, code := jdk_31_method_11_code, exceptionTable := #[], attributes := #[] }
def k13m1 : Method := { name := "requireNonNull", desc := "(Ljava/lang/Object;Ljava/lang/String;)Ljava/lang/Object;", sig := { parameters := [(.object "java/lang/Object"), (.object "java/lang/String")], returnType := some (.object "java/lang/Object") }, accessFlags := 9, code := some k13c1 }
/-- java/util/Objects -/
def k13 : Class := { plain "java/util/Objects" (some 0) with
  accessFlags := 49
  interfaces := #[]
  cf := some (fileOf pool13 42 #[] #[{ accessFlags := 2, nameIndex := 5, descriptorIndex := 6, attributes := #[] }, { accessFlags := 9, nameIndex := 45, descriptorIndex := 94, attributes := #[] }] 49 2 #[] #[])
  fields := #[]
  methods := #[k13m0, k13m1]
  instanceTypes := #[]
  staticTypes := #[]
  resolved := Array.replicate 184 none
  statics := none }

def pool14 : Array CpInfo := pool [(1, .methodref 2 3), (0, .class_ 4), (0, .nameAndType 5 6), (0, u "java/lang/Object"), (0, u "<init>"), (0, u "()V"), (1, .class_ 10), (1, u "java/lang/Number"), (2, .class_ 14), (0, u "java/io/Serializable"), (0, u "serialVersionUID"), (0, u "J")] 20

def k14c0 : Code := { maxStack := 1, maxLocals := 1, code := jdk_18_method_1_code, exceptionTable := #[], attributes := #[] }
def k14m0 : Method := { name := "<init>", desc := "()V", sig := { parameters := [], returnType := none }, accessFlags := 1, code := some k14c0 }
/-- java/lang/Number -/
def k14 : Class := { plain "java/lang/Number" (some 0) with
  accessFlags := 1057
  interfaces := #[6]
  cf := some (fileOf pool14 8 #[] #[{ accessFlags := 1, nameIndex := 5, descriptorIndex := 6, attributes := #[] }] 1057 2 #[13] #[{ accessFlags := 26, nameIndex := 15, descriptorIndex := 16, attributes := #[] }])
  fields := #[{ name := "serialVersionUID", type := .long, accessFlags := 26, slot := 0, constantValue := 0 }]
  methods := #[k14m0]
  instanceTypes := #[]
  staticTypes := #[.long]
  resolved := Array.replicate 37 none
  statics := none }

def pool15 : Array CpInfo := pool [(1, .class_ 2), (0, u "java/lang/Long"), (55, .nameAndType 59 60), (0, u "<init>"), (0, u "()V"), (24, u "valueOf"), (143, u "(J)Ljava/lang/Long;"), (0, .long 18446744073709551488), (1, .long 127), (1, .fieldref 235 236), (0, .class_ 237), (0, .nameAndType 238 239), (0, u "java/lang/Long$LongCache"), (0, u "cache"), (0, u "[Ljava/lang/Long;"), (0, .methodref 1 241), (0, .nameAndType 59 242), (0, u "(J)V"), (27, .methodref 271 58), (0, .class_ 272), (0, u "java/lang/Number"), (0, .fieldref 1 274), (0, .nameAndType 275 276), (0, u "value"), (0, u "J"), (84, u "TYPE"), (0, u "Ljava/lang/Class;"), (0, .class_ 364), (0, u "java/lang/Comparable"), (0, .class_ 366), (0, u "java/lang/constant/Constable"), (0, .class_ 368), (0, u "java/lang/constant/ConstantDesc"), (0, u "MIN_VALUE"), (1, u "MAX_VALUE"), (4, u "SIZE"), (0, u "I"), (1, u "BYTES"), (1, u "serialVersionUID")] 142

def k15c0 : Code := { maxStack := 4, maxLocals := 3, code := jdk_35_method_24_code, exceptionTable := #[], attributes := #[] }
def k15m0 : Method := { name := "valueOf", desc := "(J)Ljava/lang/Long;", sig := { parameters := [.long], returnType := some (.object "java/lang/Long") }, accessFlags := 9, code := some k15c0 }
def k15c1 : Code := { maxStack := 3, maxLocals := 3, code := jdk_35_method_26_code, exceptionTable := #[], attributes := #[] }
def k15m1 : Method := { name := "<init>", desc := "(J)V", sig := { parameters := [.long], returnType := none }, accessFlags := 1, code := some k15c1 }
/-- java/lang/Long -/
def k15 : Class := { plain "java/lang/Long" (some 14) with
  accessFlags := 49
  interfaces := #[7, 9, 10]
  cf := some (fileOf pool15 1 #[.nestMembers #[235]] #[{ accessFlags := 9, nameIndex := 85, descriptorIndex := 229, attributes := #[] }, { accessFlags := 1, nameIndex := 59, descriptorIndex := 242, attributes := #[] }] 49 271 #[363, 365, 367] #[{ accessFlags := 25, nameIndex := 369, descriptorIndex := 276, attributes := #[] }, { accessFlags := 25, nameIndex := 371, descriptorIndex := 276, attributes := #[] }, { accessFlags := 25, nameIndex := 361, descriptorIndex := 362, attributes := #[] }, { accessFlags := 18, nameIndex := 275, descriptorIndex := 276, attributes := #[] }, { accessFlags := 25, nameIndex := 376, descriptorIndex := 377, attributes := #[] }, { accessFlags := 25, nameIndex := 379, descriptorIndex := 377, attributes := #[] }, { accessFlags := 26, nameIndex := 381, descriptorIndex := 276, attributes := #[] }])
  fields := #[{ name := "MIN_VALUE", type := .long, accessFlags := 25, slot := 0, constantValue := 0 }, { name := "MAX_VALUE", type := .long, accessFlags := 25, slot := 1, constantValue := 0 }, { name := "TYPE", type := (.object "java/lang/Class"), accessFlags := 25, slot := 2, constantValue := 0 }, { name := "value", type := .long, accessFlags := 18, slot := 0, constantValue := 0 }, { name := "SIZE", type := .int, accessFlags := 25, slot := 3, constantValue := 0 }, { name := "BYTES", type := .int, accessFlags := 25, slot := 4, constantValue := 0 }, { name := "serialVersionUID", type := .long, accessFlags := 26, slot := 5, constantValue := 0 }]
  methods := #[k15m0, k15m1]
  instanceTypes := #[.long]
  staticTypes := #[.long, .long, (.object "java/lang/Class"), .int, .int, .long]
  resolved := Array.replicate 524 none
  statics := none }

def pool16 : Array CpInfo := pool [(2, .class_ 4), (1, u "java/lang/Object"), (0, u "<init>"), (0, u "()V"), (0, .class_ 8), (0, u "java/lang/Long"), (7, .class_ 18), (1, u "java/lang/Long$LongCache"), (0, u "$assertionsDisabled"), (0, u "Z"), (8, u "archivedCache"), (0, u "[Ljava/lang/Long;"), (7, u "cache")] 24

def k16m0 : Method := { name := "<init>", desc := "()V", sig := { parameters := [], returnType := none }, accessFlags := 2, code := none }
/-- java/lang/Long$LongCache -/
def k16 : Class := { plain "java/lang/Long$LongCache" (some 0) with
  accessFlags := 48
  interfaces := #[]
  cf := some (fileOf pool16 16 #[.nestHost 7] #[{ accessFlags := 2, nameIndex := 5, descriptorIndex := 6, attributes := #[] }] 48 2 #[] #[{ accessFlags := 24, nameIndex := 38, descriptorIndex := 30, attributes := #[] }, { accessFlags := 8, nameIndex := 29, descriptorIndex := 30, attributes := #[] }, { accessFlags := 4120, nameIndex := 19, descriptorIndex := 20, attributes := #[] }])
  fields := #[{ name := "cache", type := (.array (.object "java/lang/Long")), accessFlags := 24, slot := 0, constantValue := 0 }, { name := "archivedCache", type := (.array (.object "java/lang/Long")), accessFlags := 8, slot := 1, constantValue := 0 }, { name := "$assertionsDisabled", type := .boolean, accessFlags := 4120, slot := 2, constantValue := 0 }]
  methods := #[k16m0]
  instanceTypes := #[]
  staticTypes := #[(.array (.object "java/lang/Long")), (.array (.object "java/lang/Long")), .boolean]
  resolved := Array.replicate 63 none
  statics := some 1 }

def pool17 : Array CpInfo := pool [(4, .class_ 6), (1, u "java/lang/Object"), (0, u "<init>"), (0, u "()V"), (5, .class_ 16), (1, u "java/lang/StringLatin1"), (104, u "$assertionsDisabled"), (0, u "Z"), (98, .class_ 223), (1, u "java/lang/StringLatin1$LinesSpliterator"), (166, .class_ 391), (0, u "java/lang/StringLatin1$CharsSpliterator")] 3

def k17m0 : Method := { name := "<init>", desc := "()V", sig := { parameters := [], returnType := none }, accessFlags := 0, code := none }
/-- java/lang/StringLatin1 -/
def k17 : Class := { plain "java/lang/StringLatin1" (some 0) with
  accessFlags := 48
  interfaces := #[]
  cf := some (fileOf pool17 14 #[.nestMembers #[390, 221]] #[{ accessFlags := 0, nameIndex := 7, descriptorIndex := 8, attributes := #[] }] 48 4 #[] #[{ accessFlags := 4120, nameIndex := 121, descriptorIndex := 122, attributes := #[] }])
  fields := #[{ name := "$assertionsDisabled", type := .boolean, accessFlags := 4120, slot := 0, constantValue := 0 }]
  methods := #[k17m0]
  instanceTypes := #[]
  staticTypes := #[.boolean]
  resolved := Array.replicate 395 none
  statics := none }

def pool18 : Array CpInfo := pool [(2, .class_ 4), (1, u "java/lang/Object"), (0, u "<init>"), (0, u "()V"), (17, .class_ 26), (1, u "jdk/internal/util/Preconditions"), (28, .class_ 56), (0, u "jdk/internal/util/Preconditions$4"), (57, .class_ 115), (0, u "jdk/internal/util/Preconditions$1"), (7, u "SIOOBE_FORMATTER"), (0, u "Ljava/util/function/BiFunction;"), (0, .class_ 126), (0, u "jdk/internal/util/Preconditions$2"), (3, u "AIOOBE_FORMATTER"), (0, .class_ 132), (0, u "jdk/internal/util/Preconditions$3"), (3, u "IOOBE_FORMATTER")] 57

def k18m0 : Method := { name := "<init>", desc := "()V", sig := { parameters := [], returnType := none }, accessFlags := 1, code := none }
/-- jdk/internal/util/Preconditions -/
def k18 : Class := { plain "jdk/internal/util/Preconditions" (some 0) with
  accessFlags := 33
  interfaces := #[]
  cf := some (fileOf pool18 24 #[.nestMembers #[55, 131, 125, 114]] #[{ accessFlags := 1, nameIndex := 5, descriptorIndex := 6, attributes := #[] }] 33 2 #[] #[{ accessFlags := 25, nameIndex := 123, descriptorIndex := 124, attributes := #[] }, { accessFlags := 25, nameIndex := 130, descriptorIndex := 124, attributes := #[] }, { accessFlags := 25, nameIndex := 136, descriptorIndex := 124, attributes := #[] }])
  fields := #[{ name := "SIOOBE_FORMATTER", type := (.object "java/util/function/BiFunction"), accessFlags := 25, slot := 0, constantValue := 0 }, { name := "AIOOBE_FORMATTER", type := (.object "java/util/function/BiFunction"), accessFlags := 25, slot := 1, constantValue := 0 }, { name := "IOOBE_FORMATTER", type := (.object "java/util/function/BiFunction"), accessFlags := 25, slot := 2, constantValue := 0 }]
  methods := #[k18m0]
  instanceTypes := #[]
  staticTypes := #[(.object "java/util/function/BiFunction"), (.object "java/util/function/BiFunction"), (.object "java/util/function/BiFunction")]
  resolved := Array.replicate 194 none
  statics := some 2 }

def pool19 : Array CpInfo := pool [(9, u "<init>"), (6, .class_ 18), (1, u "java/lang/Object"), (0, u "()V"), (1, .class_ 23), (1, u "jdk/internal/util/ArraysSupport"), (0, u "LOG2_ARRAY_LONG_INDEX_SCALE"), (0, u "I"), (2, u "U"), (0, u "Ljdk/internal/misc/Unsafe;"), (8, u "BIG_ENDIAN"), (0, u "Z"), (8, u "LOG2_BYTE_BIT_SIZE"), (4, u "LOG2_ARRAY_INT_INDEX_SCALE"), (54, u "JLA"), (0, u "Ljdk/internal/access/JavaLangAccess;"), (11, u "LOG2_ARRAY_BOOLEAN_INDEX_SCALE"), (9, u "LOG2_ARRAY_BYTE_INDEX_SCALE"), (5, u "LOG2_ARRAY_CHAR_INDEX_SCALE"), (5, u "LOG2_ARRAY_SHORT_INDEX_SCALE"), (18, u "LOG2_ARRAY_FLOAT_INDEX_SCALE"), (24, u "LOG2_ARRAY_DOUBLE_INDEX_SCALE"), (89, u "T_BOOLEAN"), (2, u "T_CHAR"), (1, u "T_FLOAT"), (1, u "T_DOUBLE"), (1, u "T_BYTE"), (1, u "T_SHORT"), (1, u "T_INT"), (1, u "T_LONG"), (1, u "SOFT_MAX_ARRAY_LENGTH")] 83

def k19m0 : Method := { name := "<init>", desc := "()V", sig := { parameters := [], returnType := none }, accessFlags := 2, code := none }
/-- jdk/internal/util/ArraysSupport -/
def k19 : Class := { plain "jdk/internal/util/ArraysSupport" (some 0) with
  accessFlags := 33
  interfaces := #[]
  cf := some (fileOf pool19 21 #[] #[{ accessFlags := 2, nameIndex := 9, descriptorIndex := 19, attributes := #[] }] 33 16 #[] #[{ accessFlags := 24, nameIndex := 28, descriptorIndex := 29, attributes := #[] }, { accessFlags := 26, nameIndex := 38, descriptorIndex := 39, attributes := #[] }, { accessFlags := 25, nameIndex := 121, descriptorIndex := 25, attributes := #[] }, { accessFlags := 25, nameIndex := 131, descriptorIndex := 25, attributes := #[] }, { accessFlags := 25, nameIndex := 137, descriptorIndex := 25, attributes := #[] }, { accessFlags := 25, nameIndex := 143, descriptorIndex := 25, attributes := #[] }, { accessFlags := 25, nameIndex := 53, descriptorIndex := 25, attributes := #[] }, { accessFlags := 25, nameIndex := 24, descriptorIndex := 25, attributes := #[] }, { accessFlags := 25, nameIndex := 162, descriptorIndex := 25, attributes := #[] }, { accessFlags := 25, nameIndex := 187, descriptorIndex := 25, attributes := #[] }, { accessFlags := 26, nameIndex := 48, descriptorIndex := 25, attributes := #[] }, { accessFlags := 25, nameIndex := 277, descriptorIndex := 25, attributes := #[] }, { accessFlags := 25, nameIndex := 280, descriptorIndex := 25, attributes := #[] }, { accessFlags := 25, nameIndex := 282, descriptorIndex := 25, attributes := #[] }, { accessFlags := 25, nameIndex := 284, descriptorIndex := 25, attributes := #[] }, { accessFlags := 25, nameIndex := 286, descriptorIndex := 25, attributes := #[] }, { accessFlags := 25, nameIndex := 288, descriptorIndex := 25, attributes := #[] }, { accessFlags := 25, nameIndex := 290, descriptorIndex := 25, attributes := #[] }, { accessFlags := 25, nameIndex := 292, descriptorIndex := 25, attributes := #[] }, { accessFlags := 26, nameIndex := 108, descriptorIndex := 109, attributes := #[] }, { accessFlags := 25, nameIndex := 294, descriptorIndex := 25, attributes := #[] }])
  fields := #[{ name := "U", type := (.object "jdk/internal/misc/Unsafe"), accessFlags := 24, slot := 0, constantValue := 0 }, { name := "BIG_ENDIAN", type := .boolean, accessFlags := 26, slot := 1, constantValue := 0 }, { name := "LOG2_ARRAY_BOOLEAN_INDEX_SCALE", type := .int, accessFlags := 25, slot := 2, constantValue := 0 }, { name := "LOG2_ARRAY_BYTE_INDEX_SCALE", type := .int, accessFlags := 25, slot := 3, constantValue := 0 }, { name := "LOG2_ARRAY_CHAR_INDEX_SCALE", type := .int, accessFlags := 25, slot := 4, constantValue := 0 }, { name := "LOG2_ARRAY_SHORT_INDEX_SCALE", type := .int, accessFlags := 25, slot := 5, constantValue := 0 }, { name := "LOG2_ARRAY_INT_INDEX_SCALE", type := .int, accessFlags := 25, slot := 6, constantValue := 0 }, { name := "LOG2_ARRAY_LONG_INDEX_SCALE", type := .int, accessFlags := 25, slot := 7, constantValue := 0 }, { name := "LOG2_ARRAY_FLOAT_INDEX_SCALE", type := .int, accessFlags := 25, slot := 8, constantValue := 0 }, { name := "LOG2_ARRAY_DOUBLE_INDEX_SCALE", type := .int, accessFlags := 25, slot := 9, constantValue := 0 }, { name := "LOG2_BYTE_BIT_SIZE", type := .int, accessFlags := 26, slot := 10, constantValue := 0 }, { name := "T_BOOLEAN", type := .int, accessFlags := 25, slot := 11, constantValue := 0 }, { name := "T_CHAR", type := .int, accessFlags := 25, slot := 12, constantValue := 0 }, { name := "T_FLOAT", type := .int, accessFlags := 25, slot := 13, constantValue := 0 }, { name := "T_DOUBLE", type := .int, accessFlags := 25, slot := 14, constantValue := 0 }, { name := "T_BYTE", type := .int, accessFlags := 25, slot := 15, constantValue := 0 }, { name := "T_SHORT", type := .int, accessFlags := 25, slot := 16, constantValue := 0 }, { name := "T_INT", type := .int, accessFlags := 25, slot := 17, constantValue := 0 }, { name := "T_LONG", type := .int, accessFlags := 25, slot := 18, constantValue := 0 }, { name := "JLA", type := (.object "jdk/internal/access/JavaLangAccess"), accessFlags := 26, slot := 19, constantValue := 0 }, { name := "SOFT_MAX_ARRAY_LENGTH", type := .int, accessFlags := 25, slot := 20, constantValue := 0 }]
  methods := #[k19m0]
  instanceTypes := #[]
  staticTypes := #[(.object "jdk/internal/misc/Unsafe"), .boolean, .int, .int, .int, .int, .int, .int, .int, .int, .int, .int, .int, .int, .int, .int, .int, .int, .int, (.object "jdk/internal/access/JavaLangAccess"), .int]
  resolved := Array.replicate 378 none
  statics := none }

def pool20 : Array CpInfo := pool [(1, u "java/lang/Cloneable"), (0, .class_ 1), (0, u "java/lang/Object"), (0, .class_ 3)] 3

/-- java/lang/Cloneable -/
def k20 : Class := { plain "java/lang/Cloneable" (some 0) with
  accessFlags := 1537
  interfaces := #[]
  cf := some (fileOf pool20 2 #[] #[] 1537 4 #[] #[])
  fields := #[]
  methods := #[]
  instanceTypes := #[]
  staticTypes := #[]
  resolved := Array.replicate 8 none
  statics := none }

/-- the primitive byte -/
def k21 : Class := { plain "byte" none with kind := .primitive 'B', accessFlags := 0x411 }
/-- [B -/
def k22 : Class := { plain "[B" (some 0) with kind := .array 21 .byte, interfaces := #[20, 6], accessFlags := 1041 }

/-- the primitive char -/
def k23 : Class := { plain "char" none with kind := .primitive 'C', accessFlags := 0x411 }
/-- [C -/
def k24 : Class := { plain "[C" (some 0) with kind := .array 23 .char, interfaces := #[20, 6], accessFlags := 1041 }

/-- the primitive int -/
def k25 : Class := { plain "int" none with kind := .primitive 'I', accessFlags := 0x411 }
/-- [I -/
def k26 : Class := { plain "[I" (some 0) with kind := .array 25 .int, interfaces := #[20, 6], accessFlags := 1041 }

/-- [Ljava/lang/Long; -/
def k27 : Class := { plain "[Ljava/lang/Long;" (some 0) with kind := .array 15 (.object "java/lang/Long"), interfaces := #[20, 6], accessFlags := 1041 }

def heap : Heap := #[{ cls := 11, slots := #[.long 0, .int 1, .null, .int 0, .null, .int 0, .int 0], vm := .statics 11 },
  { cls := 16, slots := #[.ref 3, .null, .int 0], vm := .statics 16 },
  { cls := 18, slots := #[.null, .null, .null], vm := .statics 18 },
  { cls := 27, slots := #[.ref 4, .ref 5, .ref 6, .ref 7, .ref 8, .ref 9, .ref 10, .ref 11, .ref 12, .ref 13, .ref 14, .ref 15, .ref 16, .ref 17, .ref 18, .ref 19, .ref 20, .ref 21, .ref 22, .ref 23, .ref 24, .ref 25, .ref 26, .ref 27, .ref 28, .ref 29, .ref 30, .ref 31, .ref 32, .ref 33, .ref 34, .ref 35, .ref 36, .ref 37, .ref 38, .ref 39, .ref 40, .ref 41, .ref 42, .ref 43, .ref 44, .ref 45, .ref 46, .ref 47, .ref 48, .ref 49, .ref 50, .ref 51, .ref 52, .ref 53, .ref 54, .ref 55, .ref 56, .ref 57, .ref 58, .ref 59, .ref 60, .ref 61, .ref 62, .ref 63, .ref 64, .ref 65, .ref 66, .ref 67, .ref 68, .ref 69, .ref 70, .ref 71, .ref 72, .ref 73, .ref 74, .ref 75, .ref 76, .ref 77, .ref 78, .ref 79, .ref 80, .ref 81, .ref 82, .ref 83, .ref 84, .ref 85, .ref 86, .ref 87, .ref 88, .ref 89, .ref 90, .ref 91, .ref 92, .ref 93, .ref 94, .ref 95, .ref 96, .ref 97, .ref 98, .ref 99, .ref 100, .ref 101, .ref 102, .ref 103, .ref 104, .ref 105, .ref 106, .ref 107, .ref 108, .ref 109, .ref 110, .ref 111, .ref 112, .ref 113, .ref 114, .ref 115, .ref 116, .ref 117, .ref 118, .ref 119, .ref 120, .ref 121, .ref 122, .ref 123, .ref 124, .ref 125, .ref 126, .ref 127, .ref 128, .ref 129, .ref 130, .ref 131, .ref 132, .ref 133, .ref 134, .ref 135, .ref 136, .ref 137, .ref 138, .ref 139, .ref 140, .ref 141, .ref 142, .ref 143, .ref 144, .ref 145, .ref 146, .ref 147, .ref 148, .ref 149, .ref 150, .ref 151, .ref 152, .ref 153, .ref 154, .ref 155, .ref 156, .ref 157, .ref 158, .ref 159, .ref 160, .ref 161, .ref 162, .ref 163, .ref 164, .ref 165, .ref 166, .ref 167, .ref 168, .ref 169, .ref 170, .ref 171, .ref 172, .ref 173, .ref 174, .ref 175, .ref 176, .ref 177, .ref 178, .ref 179, .ref 180, .ref 181, .ref 182, .ref 183, .ref 184, .ref 185, .ref 186, .ref 187, .ref 188, .ref 189, .ref 190, .ref 191, .ref 192, .ref 193, .ref 194, .ref 195, .ref 196, .ref 197, .ref 198, .ref 199, .ref 200, .ref 201, .ref 202, .ref 203, .ref 204, .ref 205, .ref 206, .ref 207, .ref 208, .ref 209, .ref 210, .ref 211, .ref 212, .ref 213, .ref 214, .ref 215, .ref 216, .ref 217, .ref 218, .ref 219, .ref 220, .ref 221, .ref 222, .ref 223, .ref 224, .ref 225, .ref 226, .ref 227, .ref 228, .ref 229, .ref 230, .ref 231, .ref 232, .ref 233, .ref 234, .ref 235, .ref 236, .ref 237, .ref 238, .ref 239, .ref 240, .ref 241, .ref 242, .ref 243, .ref 244, .ref 245, .ref 246, .ref 247, .ref 248, .ref 249, .ref 250, .ref 251, .ref 252, .ref 253, .ref 254, .ref 255, .ref 256, .ref 257, .ref 258, .ref 259], vm := .none },
  { cls := 15, slots := #[.long (-128)], vm := .none },
  { cls := 15, slots := #[.long (-127)], vm := .none },
  { cls := 15, slots := #[.long (-126)], vm := .none },
  { cls := 15, slots := #[.long (-125)], vm := .none },
  { cls := 15, slots := #[.long (-124)], vm := .none },
  { cls := 15, slots := #[.long (-123)], vm := .none },
  { cls := 15, slots := #[.long (-122)], vm := .none },
  { cls := 15, slots := #[.long (-121)], vm := .none },
  { cls := 15, slots := #[.long (-120)], vm := .none },
  { cls := 15, slots := #[.long (-119)], vm := .none },
  { cls := 15, slots := #[.long (-118)], vm := .none },
  { cls := 15, slots := #[.long (-117)], vm := .none },
  { cls := 15, slots := #[.long (-116)], vm := .none },
  { cls := 15, slots := #[.long (-115)], vm := .none },
  { cls := 15, slots := #[.long (-114)], vm := .none },
  { cls := 15, slots := #[.long (-113)], vm := .none },
  { cls := 15, slots := #[.long (-112)], vm := .none },
  { cls := 15, slots := #[.long (-111)], vm := .none },
  { cls := 15, slots := #[.long (-110)], vm := .none },
  { cls := 15, slots := #[.long (-109)], vm := .none },
  { cls := 15, slots := #[.long (-108)], vm := .none },
  { cls := 15, slots := #[.long (-107)], vm := .none },
  { cls := 15, slots := #[.long (-106)], vm := .none },
  { cls := 15, slots := #[.long (-105)], vm := .none },
  { cls := 15, slots := #[.long (-104)], vm := .none },
  { cls := 15, slots := #[.long (-103)], vm := .none },
  { cls := 15, slots := #[.long (-102)], vm := .none },
  { cls := 15, slots := #[.long (-101)], vm := .none },
  { cls := 15, slots := #[.long (-100)], vm := .none },
  { cls := 15, slots := #[.long (-99)], vm := .none },
  { cls := 15, slots := #[.long (-98)], vm := .none },
  { cls := 15, slots := #[.long (-97)], vm := .none },
  { cls := 15, slots := #[.long (-96)], vm := .none },
  { cls := 15, slots := #[.long (-95)], vm := .none },
  { cls := 15, slots := #[.long (-94)], vm := .none },
  { cls := 15, slots := #[.long (-93)], vm := .none },
  { cls := 15, slots := #[.long (-92)], vm := .none },
  { cls := 15, slots := #[.long (-91)], vm := .none },
  { cls := 15, slots := #[.long (-90)], vm := .none },
  { cls := 15, slots := #[.long (-89)], vm := .none },
  { cls := 15, slots := #[.long (-88)], vm := .none },
  { cls := 15, slots := #[.long (-87)], vm := .none },
  { cls := 15, slots := #[.long (-86)], vm := .none },
  { cls := 15, slots := #[.long (-85)], vm := .none },
  { cls := 15, slots := #[.long (-84)], vm := .none },
  { cls := 15, slots := #[.long (-83)], vm := .none },
  { cls := 15, slots := #[.long (-82)], vm := .none },
  { cls := 15, slots := #[.long (-81)], vm := .none },
  { cls := 15, slots := #[.long (-80)], vm := .none },
  { cls := 15, slots := #[.long (-79)], vm := .none },
  { cls := 15, slots := #[.long (-78)], vm := .none },
  { cls := 15, slots := #[.long (-77)], vm := .none },
  { cls := 15, slots := #[.long (-76)], vm := .none },
  { cls := 15, slots := #[.long (-75)], vm := .none },
  { cls := 15, slots := #[.long (-74)], vm := .none },
  { cls := 15, slots := #[.long (-73)], vm := .none },
  { cls := 15, slots := #[.long (-72)], vm := .none },
  { cls := 15, slots := #[.long (-71)], vm := .none },
  { cls := 15, slots := #[.long (-70)], vm := .none },
  { cls := 15, slots := #[.long (-69)], vm := .none },
  { cls := 15, slots := #[.long (-68)], vm := .none },
  { cls := 15, slots := #[.long (-67)], vm := .none },
  { cls := 15, slots := #[.long (-66)], vm := .none },
  { cls := 15, slots := #[.long (-65)], vm := .none },
  { cls := 15, slots := #[.long (-64)], vm := .none },
  { cls := 15, slots := #[.long (-63)], vm := .none },
  { cls := 15, slots := #[.long (-62)], vm := .none },
  { cls := 15, slots := #[.long (-61)], vm := .none },
  { cls := 15, slots := #[.long (-60)], vm := .none },
  { cls := 15, slots := #[.long (-59)], vm := .none },
  { cls := 15, slots := #[.long (-58)], vm := .none },
  { cls := 15, slots := #[.long (-57)], vm := .none },
  { cls := 15, slots := #[.long (-56)], vm := .none },
  { cls := 15, slots := #[.long (-55)], vm := .none },
  { cls := 15, slots := #[.long (-54)], vm := .none },
  { cls := 15, slots := #[.long (-53)], vm := .none },
  { cls := 15, slots := #[.long (-52)], vm := .none },
  { cls := 15, slots := #[.long (-51)], vm := .none },
  { cls := 15, slots := #[.long (-50)], vm := .none },
  { cls := 15, slots := #[.long (-49)], vm := .none },
  { cls := 15, slots := #[.long (-48)], vm := .none },
  { cls := 15, slots := #[.long (-47)], vm := .none },
  { cls := 15, slots := #[.long (-46)], vm := .none },
  { cls := 15, slots := #[.long (-45)], vm := .none },
  { cls := 15, slots := #[.long (-44)], vm := .none },
  { cls := 15, slots := #[.long (-43)], vm := .none },
  { cls := 15, slots := #[.long (-42)], vm := .none },
  { cls := 15, slots := #[.long (-41)], vm := .none },
  { cls := 15, slots := #[.long (-40)], vm := .none },
  { cls := 15, slots := #[.long (-39)], vm := .none },
  { cls := 15, slots := #[.long (-38)], vm := .none },
  { cls := 15, slots := #[.long (-37)], vm := .none },
  { cls := 15, slots := #[.long (-36)], vm := .none },
  { cls := 15, slots := #[.long (-35)], vm := .none },
  { cls := 15, slots := #[.long (-34)], vm := .none },
  { cls := 15, slots := #[.long (-33)], vm := .none },
  { cls := 15, slots := #[.long (-32)], vm := .none },
  { cls := 15, slots := #[.long (-31)], vm := .none },
  { cls := 15, slots := #[.long (-30)], vm := .none },
  { cls := 15, slots := #[.long (-29)], vm := .none },
  { cls := 15, slots := #[.long (-28)], vm := .none },
  { cls := 15, slots := #[.long (-27)], vm := .none },
  { cls := 15, slots := #[.long (-26)], vm := .none },
  { cls := 15, slots := #[.long (-25)], vm := .none },
  { cls := 15, slots := #[.long (-24)], vm := .none },
  { cls := 15, slots := #[.long (-23)], vm := .none },
  { cls := 15, slots := #[.long (-22)], vm := .none },
  { cls := 15, slots := #[.long (-21)], vm := .none },
  { cls := 15, slots := #[.long (-20)], vm := .none },
  { cls := 15, slots := #[.long (-19)], vm := .none },
  { cls := 15, slots := #[.long (-18)], vm := .none },
  { cls := 15, slots := #[.long (-17)], vm := .none },
  { cls := 15, slots := #[.long (-16)], vm := .none },
  { cls := 15, slots := #[.long (-15)], vm := .none },
  { cls := 15, slots := #[.long (-14)], vm := .none },
  { cls := 15, slots := #[.long (-13)], vm := .none },
  { cls := 15, slots := #[.long (-12)], vm := .none },
  { cls := 15, slots := #[.long (-11)], vm := .none },
  { cls := 15, slots := #[.long (-10)], vm := .none },
  { cls := 15, slots := #[.long (-9)], vm := .none },
  { cls := 15, slots := #[.long (-8)], vm := .none },
  { cls := 15, slots := #[.long (-7)], vm := .none },
  { cls := 15, slots := #[.long (-6)], vm := .none },
  { cls := 15, slots := #[.long (-5)], vm := .none },
  { cls := 15, slots := #[.long (-4)], vm := .none },
  { cls := 15, slots := #[.long (-3)], vm := .none },
  { cls := 15, slots := #[.long (-2)], vm := .none },
  { cls := 15, slots := #[.long (-1)], vm := .none },
  { cls := 15, slots := #[.long 0], vm := .none },
  { cls := 15, slots := #[.long 1], vm := .none },
  { cls := 15, slots := #[.long 2], vm := .none },
  { cls := 15, slots := #[.long 3], vm := .none },
  { cls := 15, slots := #[.long 4], vm := .none },
  { cls := 15, slots := #[.long 5], vm := .none },
  { cls := 15, slots := #[.long 6], vm := .none },
  { cls := 15, slots := #[.long 7], vm := .none },
  { cls := 15, slots := #[.long 8], vm := .none },
  { cls := 15, slots := #[.long 9], vm := .none },
  { cls := 15, slots := #[.long 10], vm := .none },
  { cls := 15, slots := #[.long 11], vm := .none },
  { cls := 15, slots := #[.long 12], vm := .none },
  { cls := 15, slots := #[.long 13], vm := .none },
  { cls := 15, slots := #[.long 14], vm := .none },
  { cls := 15, slots := #[.long 15], vm := .none },
  { cls := 15, slots := #[.long 16], vm := .none },
  { cls := 15, slots := #[.long 17], vm := .none },
  { cls := 15, slots := #[.long 18], vm := .none },
  { cls := 15, slots := #[.long 19], vm := .none },
  { cls := 15, slots := #[.long 20], vm := .none },
  { cls := 15, slots := #[.long 21], vm := .none },
  { cls := 15, slots := #[.long 22], vm := .none },
  { cls := 15, slots := #[.long 23], vm := .none },
  { cls := 15, slots := #[.long 24], vm := .none },
  { cls := 15, slots := #[.long 25], vm := .none },
  { cls := 15, slots := #[.long 26], vm := .none },
  { cls := 15, slots := #[.long 27], vm := .none },
  { cls := 15, slots := #[.long 28], vm := .none },
  { cls := 15, slots := #[.long 29], vm := .none },
  { cls := 15, slots := #[.long 30], vm := .none },
  { cls := 15, slots := #[.long 31], vm := .none },
  { cls := 15, slots := #[.long 32], vm := .none },
  { cls := 15, slots := #[.long 33], vm := .none },
  { cls := 15, slots := #[.long 34], vm := .none },
  { cls := 15, slots := #[.long 35], vm := .none },
  { cls := 15, slots := #[.long 36], vm := .none },
  { cls := 15, slots := #[.long 37], vm := .none },
  { cls := 15, slots := #[.long 38], vm := .none },
  { cls := 15, slots := #[.long 39], vm := .none },
  { cls := 15, slots := #[.long 40], vm := .none },
  { cls := 15, slots := #[.long 41], vm := .none },
  { cls := 15, slots := #[.long 42], vm := .none },
  { cls := 15, slots := #[.long 43], vm := .none },
  { cls := 15, slots := #[.long 44], vm := .none },
  { cls := 15, slots := #[.long 45], vm := .none },
  { cls := 15, slots := #[.long 46], vm := .none },
  { cls := 15, slots := #[.long 47], vm := .none },
  { cls := 15, slots := #[.long 48], vm := .none },
  { cls := 15, slots := #[.long 49], vm := .none },
  { cls := 15, slots := #[.long 50], vm := .none },
  { cls := 15, slots := #[.long 51], vm := .none },
  { cls := 15, slots := #[.long 52], vm := .none },
  { cls := 15, slots := #[.long 53], vm := .none },
  { cls := 15, slots := #[.long 54], vm := .none },
  { cls := 15, slots := #[.long 55], vm := .none },
  { cls := 15, slots := #[.long 56], vm := .none },
  { cls := 15, slots := #[.long 57], vm := .none },
  { cls := 15, slots := #[.long 58], vm := .none },
  { cls := 15, slots := #[.long 59], vm := .none },
  { cls := 15, slots := #[.long 60], vm := .none },
  { cls := 15, slots := #[.long 61], vm := .none },
  { cls := 15, slots := #[.long 62], vm := .none },
  { cls := 15, slots := #[.long 63], vm := .none },
  { cls := 15, slots := #[.long 64], vm := .none },
  { cls := 15, slots := #[.long 65], vm := .none },
  { cls := 15, slots := #[.long 66], vm := .none },
  { cls := 15, slots := #[.long 67], vm := .none },
  { cls := 15, slots := #[.long 68], vm := .none },
  { cls := 15, slots := #[.long 69], vm := .none },
  { cls := 15, slots := #[.long 70], vm := .none },
  { cls := 15, slots := #[.long 71], vm := .none },
  { cls := 15, slots := #[.long 72], vm := .none },
  { cls := 15, slots := #[.long 73], vm := .none },
  { cls := 15, slots := #[.long 74], vm := .none },
  { cls := 15, slots := #[.long 75], vm := .none },
  { cls := 15, slots := #[.long 76], vm := .none },
  { cls := 15, slots := #[.long 77], vm := .none },
  { cls := 15, slots := #[.long 78], vm := .none },
  { cls := 15, slots := #[.long 79], vm := .none },
  { cls := 15, slots := #[.long 80], vm := .none },
  { cls := 15, slots := #[.long 81], vm := .none },
  { cls := 15, slots := #[.long 82], vm := .none },
  { cls := 15, slots := #[.long 83], vm := .none },
  { cls := 15, slots := #[.long 84], vm := .none },
  { cls := 15, slots := #[.long 85], vm := .none },
  { cls := 15, slots := #[.long 86], vm := .none },
  { cls := 15, slots := #[.long 87], vm := .none },
  { cls := 15, slots := #[.long 88], vm := .none },
  { cls := 15, slots := #[.long 89], vm := .none },
  { cls := 15, slots := #[.long 90], vm := .none },
  { cls := 15, slots := #[.long 91], vm := .none },
  { cls := 15, slots := #[.long 92], vm := .none },
  { cls := 15, slots := #[.long 93], vm := .none },
  { cls := 15, slots := #[.long 94], vm := .none },
  { cls := 15, slots := #[.long 95], vm := .none },
  { cls := 15, slots := #[.long 96], vm := .none },
  { cls := 15, slots := #[.long 97], vm := .none },
  { cls := 15, slots := #[.long 98], vm := .none },
  { cls := 15, slots := #[.long 99], vm := .none },
  { cls := 15, slots := #[.long 100], vm := .none },
  { cls := 15, slots := #[.long 101], vm := .none },
  { cls := 15, slots := #[.long 102], vm := .none },
  { cls := 15, slots := #[.long 103], vm := .none },
  { cls := 15, slots := #[.long 104], vm := .none },
  { cls := 15, slots := #[.long 105], vm := .none },
  { cls := 15, slots := #[.long 106], vm := .none },
  { cls := 15, slots := #[.long 107], vm := .none },
  { cls := 15, slots := #[.long 108], vm := .none },
  { cls := 15, slots := #[.long 109], vm := .none },
  { cls := 15, slots := #[.long 110], vm := .none },
  { cls := 15, slots := #[.long 111], vm := .none },
  { cls := 15, slots := #[.long 112], vm := .none },
  { cls := 15, slots := #[.long 113], vm := .none },
  { cls := 15, slots := #[.long 114], vm := .none },
  { cls := 15, slots := #[.long 115], vm := .none },
  { cls := 15, slots := #[.long 116], vm := .none },
  { cls := 15, slots := #[.long 117], vm := .none },
  { cls := 15, slots := #[.long 118], vm := .none },
  { cls := 15, slots := #[.long 119], vm := .none },
  { cls := 15, slots := #[.long 120], vm := .none },
  { cls := 15, slots := #[.long 121], vm := .none },
  { cls := 15, slots := #[.long 122], vm := .none },
  { cls := 15, slots := #[.long 123], vm := .none },
  { cls := 15, slots := #[.long 124], vm := .none },
  { cls := 15, slots := #[.long 125], vm := .none },
  { cls := 15, slots := #[.long 126], vm := .none },
  { cls := 15, slots := #[.long 127], vm := .none }]
def classes : Array Class := #[k0, k1, k2, k3, k4, k5, k6, k7, k8, k9, k10, k11, k12, k13, k14, k15, k16, k17, k18, k19, k20, k21, k22, k23, k24, k25, k26, k27]
def interned : List (Array UInt16 × Addr) := []
def slotsUsed : Nat := 525
def theMethod : MethodId := ⟨1, 1⟩
def args0 : Array Value := #[.long 3, .long 5, .int 7, .int 9]
def aboutOver (below : List Frame) : State where
  vm := { classes := classes, interned := interned.toArray }
  heap := heap
  slotsUsed := slotsUsed
  threads := #[{ frames := .invoking theMethod args0 :: below }]
def below0 : List Frame := [.native { method := ⟨0, 0⟩, args := #[] }]
def about1 : State := aboutOver below0
def p0 : Program := .bare "" "" ""
def e0 : Env := launch0.env 0 0 0
theorem w_frames : about1.frames = Frame.invoking theMethod args0 :: below0 := rfl
set_option maxRecDepth 65536 in
theorem w_args : argsFit about1.vm theMethod args0 = true := by decide +kernel
set_option maxRecDepth 65536 in
theorem w_heap : heapFits about1 = true := by decide +kernel
set_option maxRecDepth 65536 in
theorem w_runnable : about1.curStatus? = some .runnable := by decide +kernel
set_option maxRecDepth 65536 in
theorem w_alone : about1.alone = true := by decide +kernel
set_option maxRecDepth 65536 in
theorem w_named : about1.methodNamed? x = some theMethod := by decide +kernel
set_option maxRecDepth 65536 in
theorem w_hears : about1.hears theMethod below0 = true := by decide +kernel
set_option maxRecDepth 65536 in
theorem w_ripe : about1.ripe theMethod args0 below0 = true := by decide +kernel
theorem w_running : about1.status = .running := rfl
set_option maxRecDepth 65536 in
theorem w_room : about1.hasRoom e0.platform room_1 = true :=
  launch0.hasRoom_least _ room_1 (by decide +kernel) (by decide +kernel) (by decide +kernel) (by decide +kernel) (by decide +kernel) (by decide +kernel)
theorem allAtoms_all (ts : List Jvm.Cond) (a : Array Jvm.Value) (st : Jvm.State) : (allAtoms ts).before a st = ts.all (fun c => c.before a st) := by
  induction ts with
  | nil => rfl
  | cons c t ih =>
    show (Jvm.Cond.and c (allAtoms t)).before a st = _
    rw [Jvm.Cond.before_and, ih, List.all_cons]
def words1 : List Jvm.Cond := Jvm.Cond.code x code maxLocals ret :: tables_1
/-- a 'code' word, met by the world's own term for the bytes: nothing is compared byte by byte -/
theorem code_word {y : MethodName} {bytes : ByteArray} {mx : Nat} {rt : Option FieldType} {a : Array Value} {s : State} {m : MethodId} {meth : Method} {c : Code} (h1 : s.methodNamed? y = some m) (h2 : s.vm.method? m = some meth) (h3 : meth.code = some c) (h4 : c.code = bytes)
    (h5 : (c.maxLocals == mx && c.exceptionTable.isEmpty && decide (c.maxStack ≤ mostOperands) && decide (meth.sig.returnType = rt) && !meth.locks && decide (parseMethodDescriptor y.desc = some meth.sig)) = true) : (Jvm.Cond.code y bytes mx rt).before a s = true := by
  simp only [Bool.and_eq_true, beq_iff_eq, Bool.not_eq_true', decide_eq_true_eq] at h5
  obtain ⟨⟨⟨⟨⟨g1, g2⟩, g3⟩, g4⟩, g5⟩, g6⟩ := h5
  simp [Cond.before, Cond.holds, Cond.value, h1, h2, h3, h4, g1, g2, g3, g4, g5, g6]
def isCode : Jvm.Cond → Bool
  | .code _ _ _ _ => true
  | _ => false
theorem all_split {L : List Jvm.Cond} {P : Jvm.Cond → Bool} (h1 : L.all (fun c => isCode c || P c) = true) (h2 : ∀ c ∈ L.filter isCode, P c = true) : L.all P = true := by
  refine List.all_eq_true.mpr fun c hc => ?_
  have h := List.all_eq_true.mp h1 c hc
  rcases Bool.eq_false_or_eq_true (isCode c) with hi | hi
  · exact h2 c (List.mem_filter.mpr ⟨hc, hi⟩)
  · simpa [hi] using h
set_option maxRecDepth 65536 in
theorem w_c0 : (Jvm.Cond.code x code maxLocals ret).before args0 about1 = true := code_word (m := ⟨1, 1⟩) (meth := k1m1) (c := k1c1) (by decide +kernel) rfl rfl rfl (by decide +kernel)
set_option maxRecDepth 65536 in
theorem w_c1 : (Jvm.Cond.code ({ cls := "com/example/chasm/chasm/model/InventedValue", name := "<init>", desc := "(J)V" } : Jvm.MethodName) prog_51_method_1_code (3 : Nat) (Option.none : Option Jvm.ClassFile.FieldType)).before args0 about1 = true := code_word (m := ⟨4, 0⟩) (meth := k4m0) (c := k4c0) (by decide +kernel) rfl rfl rfl (by decide +kernel)
set_option maxRecDepth 65536 in
theorem w_c2 : (Jvm.Cond.code ({ cls := "java/lang/Record", name := "<init>", desc := "()V" } : Jvm.MethodName) jdk_30_method_1_code (1 : Nat) (Option.none : Option Jvm.ClassFile.FieldType)).before args0 about1 = true := code_word (m := ⟨2, 0⟩) (meth := k2m0) (c := k2c0) (by decide +kernel) rfl rfl rfl (by decide +kernel)
set_option maxRecDepth 65536 in
theorem w_c3 : (Jvm.Cond.code ({ cls := "java/lang/Object", name := "<init>", desc := "()V" } : Jvm.MethodName) object_method_1_code (1 : Nat) (Option.none : Option Jvm.ClassFile.FieldType)).before args0 about1 = true := code_word (m := ⟨0, 0⟩) (meth := k0m0) (c := k0c0) (by decide +kernel) rfl rfl rfl (by decide +kernel)
set_option maxRecDepth 65536 in
theorem w_c4 : (Jvm.Cond.code ({ cls := "com/example/chasm/chasm/model/InventedValue", name := "equals", desc := "(Ljava/lang/Object;)Z" } : Jvm.MethodName) prog_51_method_2_code (3 : Nat) (Option.some Jvm.ClassFile.FieldType.boolean)).before args0 about1 = true := code_word (m := ⟨4, 1⟩) (meth := k4m1) (c := k4c1) (by decide +kernel) rfl rfl rfl (by decide +kernel)
set_option maxRecDepth 65536 in
theorem w_c5 : (Jvm.Cond.code ({ cls := "java/lang/String", name := "<init>", desc := "([C)V" } : Jvm.MethodName) jdk_42_method_3_code (2 : Nat) (Option.none : Option Jvm.ClassFile.FieldType)).before args0 about1 = true := code_word (m := ⟨11, 1⟩) (meth := k11m1) (c := k11c1) (by decide +kernel) rfl rfl rfl (by decide +kernel)
set_option maxRecDepth 65536 in
theorem w_c6 : (Jvm.Cond.code ({ cls := "java/lang/String", name := "<init>", desc := "([CIILjava/lang/Void;)V" } : Jvm.MethodName) jdk_42_method_149_code (6 : Nat) (Option.none : Option Jvm.ClassFile.FieldType)).before args0 about1 = true := code_word (m := ⟨11, 2⟩) (meth := k11m2) (c := k11c2) (by decide +kernel) rfl rfl rfl (by decide +kernel)
set_option maxRecDepth 65536 in
theorem w_c7 : (Jvm.Cond.code ({ cls := "java/lang/StringUTF16", name := "compress", desc := "([CII)[B" } : Jvm.MethodName) jdk_52_method_16_code (6 : Nat) (Option.some (Jvm.ClassFile.FieldType.array Jvm.ClassFile.FieldType.byte))).before args0 about1 = true := code_word (m := ⟨12, 2⟩) (meth := k12m2) (c := k12c2) (by decide +kernel) rfl rfl rfl (by decide +kernel)
set_option maxRecDepth 65536 in
theorem w_c8 : (Jvm.Cond.code ({ cls := "java/lang/StringUTF16", name := "compress", desc := "([CI[BII)I" } : Jvm.MethodName) jdk_52_method_21_code (7 : Nat) (Option.some Jvm.ClassFile.FieldType.int)).before args0 about1 = true := code_word (m := ⟨12, 3⟩) (meth := k12m3) (c := k12c3) (by decide +kernel) rfl rfl rfl (by decide +kernel)
set_option maxRecDepth 65536 in
theorem w_c9 : (Jvm.Cond.code ({ cls := "java/lang/StringUTF16", name := "coderFromArrayLen", desc := "([BI)B" } : Jvm.MethodName) jdk_52_method_15_code (2 : Nat) (Option.some Jvm.ClassFile.FieldType.byte)).before args0 about1 = true := code_word (m := ⟨12, 1⟩) (meth := k12m1) (c := k12c1) (by decide +kernel) rfl rfl rfl (by decide +kernel)
set_option maxRecDepth 65536 in
theorem w_c10 : (Jvm.Cond.code ({ cls := "com/example/chasm/chasm/model/Constant", name := "<init>", desc := "(Ljava/lang/String;)V" } : Jvm.MethodName) prog_39_method_1_code (2 : Nat) (Option.none : Option Jvm.ClassFile.FieldType)).before args0 about1 = true := code_word (m := ⟨5, 0⟩) (meth := k5m0) (c := k5c0) (by decide +kernel) rfl rfl rfl (by decide +kernel)
set_option maxRecDepth 65536 in
theorem w_c11 : (Jvm.Cond.code ({ cls := "java/util/Objects", name := "requireNonNull", desc := "(Ljava/lang/Object;Ljava/lang/String;)Ljava/lang/Object;" } : Jvm.MethodName) jdk_31_method_11_code (2 : Nat) (Option.some (Jvm.ClassFile.FieldType.object "java/lang/Object"))).before args0 about1 = true := code_word (m := ⟨13, 1⟩) (meth := k13m1) (c := k13c1) (by decide +kernel) rfl rfl rfl (by decide +kernel)
set_option maxRecDepth 65536 in
theorem w_c12 : (Jvm.Cond.code ({ cls := "java/lang/Long", name := "valueOf", desc := "(J)Ljava/lang/Long;" } : Jvm.MethodName) jdk_35_method_24_code (3 : Nat) (Option.some (Jvm.ClassFile.FieldType.object "java/lang/Long"))).before args0 about1 = true := code_word (m := ⟨15, 0⟩) (meth := k15m0) (c := k15c0) (by decide +kernel) rfl rfl rfl (by decide +kernel)
set_option maxRecDepth 65536 in
theorem w_c13 : (Jvm.Cond.code ({ cls := "java/lang/Long", name := "<init>", desc := "(J)V" } : Jvm.MethodName) jdk_35_method_26_code (3 : Nat) (Option.none : Option Jvm.ClassFile.FieldType)).before args0 about1 = true := code_word (m := ⟨15, 1⟩) (meth := k15m1) (c := k15c1) (by decide +kernel) rfl rfl rfl (by decide +kernel)
set_option maxRecDepth 65536 in
theorem w_c14 : (Jvm.Cond.code ({ cls := "java/lang/Number", name := "<init>", desc := "()V" } : Jvm.MethodName) jdk_18_method_1_code (1 : Nat) (Option.none : Option Jvm.ClassFile.FieldType)).before args0 about1 = true := code_word (m := ⟨14, 0⟩) (meth := k14m0) (c := k14c0) (by decide +kernel) rfl rfl rfl (by decide +kernel)
def codes1 : List Jvm.Cond := [Jvm.Cond.code x code maxLocals ret, Jvm.Cond.code ({ cls := "com/example/chasm/chasm/model/InventedValue", name := "<init>", desc := "(J)V" } : Jvm.MethodName) prog_51_method_1_code (3 : Nat) (Option.none : Option Jvm.ClassFile.FieldType), Jvm.Cond.code ({ cls := "java/lang/Record", name := "<init>", desc := "()V" } : Jvm.MethodName) jdk_30_method_1_code (1 : Nat) (Option.none : Option Jvm.ClassFile.FieldType), Jvm.Cond.code ({ cls := "java/lang/Object", name := "<init>", desc := "()V" } : Jvm.MethodName) object_method_1_code (1 : Nat) (Option.none : Option Jvm.ClassFile.FieldType), Jvm.Cond.code ({ cls := "com/example/chasm/chasm/model/InventedValue", name := "equals", desc := "(Ljava/lang/Object;)Z" } : Jvm.MethodName) prog_51_method_2_code (3 : Nat) (Option.some Jvm.ClassFile.FieldType.boolean), Jvm.Cond.code ({ cls := "java/lang/String", name := "<init>", desc := "([C)V" } : Jvm.MethodName) jdk_42_method_3_code (2 : Nat) (Option.none : Option Jvm.ClassFile.FieldType), Jvm.Cond.code ({ cls := "java/lang/String", name := "<init>", desc := "([CIILjava/lang/Void;)V" } : Jvm.MethodName) jdk_42_method_149_code (6 : Nat) (Option.none : Option Jvm.ClassFile.FieldType), Jvm.Cond.code ({ cls := "java/lang/StringUTF16", name := "compress", desc := "([CII)[B" } : Jvm.MethodName) jdk_52_method_16_code (6 : Nat) (Option.some (Jvm.ClassFile.FieldType.array Jvm.ClassFile.FieldType.byte)), Jvm.Cond.code ({ cls := "java/lang/StringUTF16", name := "compress", desc := "([CI[BII)I" } : Jvm.MethodName) jdk_52_method_21_code (7 : Nat) (Option.some Jvm.ClassFile.FieldType.int), Jvm.Cond.code ({ cls := "java/lang/StringUTF16", name := "coderFromArrayLen", desc := "([BI)B" } : Jvm.MethodName) jdk_52_method_15_code (2 : Nat) (Option.some Jvm.ClassFile.FieldType.byte), Jvm.Cond.code ({ cls := "com/example/chasm/chasm/model/Constant", name := "<init>", desc := "(Ljava/lang/String;)V" } : Jvm.MethodName) prog_39_method_1_code (2 : Nat) (Option.none : Option Jvm.ClassFile.FieldType), Jvm.Cond.code ({ cls := "java/util/Objects", name := "requireNonNull", desc := "(Ljava/lang/Object;Ljava/lang/String;)Ljava/lang/Object;" } : Jvm.MethodName) jdk_31_method_11_code (2 : Nat) (Option.some (Jvm.ClassFile.FieldType.object "java/lang/Object")), Jvm.Cond.code ({ cls := "java/lang/Long", name := "valueOf", desc := "(J)Ljava/lang/Long;" } : Jvm.MethodName) jdk_35_method_24_code (3 : Nat) (Option.some (Jvm.ClassFile.FieldType.object "java/lang/Long")), Jvm.Cond.code ({ cls := "java/lang/Long", name := "<init>", desc := "(J)V" } : Jvm.MethodName) jdk_35_method_26_code (3 : Nat) (Option.none : Option Jvm.ClassFile.FieldType), Jvm.Cond.code ({ cls := "java/lang/Number", name := "<init>", desc := "()V" } : Jvm.MethodName) jdk_18_method_1_code (1 : Nat) (Option.none : Option Jvm.ClassFile.FieldType)]
set_option maxRecDepth 65536 in
theorem codes_eq : words1.filter isCode = codes1 := rfl
theorem w_codes : ∀ c ∈ words1.filter isCode, c.before args0 about1 = true := by
  rw [codes_eq]
  intro c hc
  simp only [codes1, List.mem_cons, List.not_mem_nil, or_false] at hc
  rcases hc with rfl | rfl | rfl | rfl | rfl | rfl | rfl | rfl | rfl | rfl | rfl | rfl | rfl | rfl | rfl
  · exact w_c0
  · exact w_c1
  · exact w_c2
  · exact w_c3
  · exact w_c4
  · exact w_c5
  · exact w_c6
  · exact w_c7
  · exact w_c8
  · exact w_c9
  · exact w_c10
  · exact w_c11
  · exact w_c12
  · exact w_c13
  · exact w_c14
set_option maxRecDepth 65536 in
theorem w_t1 : (words1.take 24).all (fun c => isCode c || c.before args0 about1) = true := by decide +kernel
set_option maxRecDepth 65536 in
theorem w_t2 : ((words1.drop 24).take 24).all (fun c => isCode c || c.before args0 about1) = true := by decide +kernel
set_option maxRecDepth 65536 in
theorem w_t3 : (((words1.drop 24).drop 24).take 24).all (fun c => isCode c || c.before args0 about1) = true := by decide +kernel
set_option maxRecDepth 65536 in
theorem w_t4 : (((words1.drop 24).drop 24).drop 24).all (fun c => isCode c || c.before args0 about1) = true := by decide +kernel
theorem w_tables : (allAtoms (Jvm.Cond.code x code maxLocals ret :: tables_1)).before args0 about1 = true := by
  rw [allAtoms_all]
  show words1.all (fun c => c.before args0 about1) = true
  refine all_split ?_ w_codes
  rw [← List.take_append_drop 24 words1, List.all_append, w_t1, ← List.take_append_drop 24 (words1.drop 24), List.all_append, w_t2, ← List.take_append_drop 24 ((words1.drop 24).drop 24), List.all_append, w_t3, w_t4]
  rfl
set_option maxRecDepth 65536 in
theorem w_rest : rest_1_c.before args0 about1 = true := by decide +kernel
set_option maxRecDepth 65536 in
theorem w_case : (Jvm.Cond.and given_1 narrow_1).before args0 about1 = true := by decide +kernel
theorem w_applies : (headSpec (Jvm.Cond.code x code maxLocals ret :: tables_1) room_1).applies x e0.platform about1 = true :=
  (Spec.applies_iff w_frames).mpr ⟨w_running, w_runnable, w_alone, w_named, w_hears, w_ripe, w_room, w_tables⟩
theorem atStart : AtStart classFile x code maxLocals ret World_1 tables_1 room_1 Calls_1 rest_1 Pre_1 launch0 p0 e0 about1 theMethod args0 below0 :=
  ⟨lists_1, trivial, launch0.admits_env _ _ _, launch0.least_env, fairChoices_fair.cas, fairChoices_fair.clock, w_frames, w_args, w_heap, w_applies, trivial, w_rest, w_case⟩
end start1
theorem witness_1 : WitnessClaimed_1 := ⟨start1.p0, start1.e0, start1.about1, start1.theMethod, start1.args0, start1.below0, start1.atStart⟩
end Jvm.Pilot.@@N@@
