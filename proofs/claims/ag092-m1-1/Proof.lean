import JvmDerived
import JvmDerived.Pilot.@@N@@Statement
import JvmDerived.Pilot.@@N@@Code
set_option linter.unusedVariables false
set_option linter.unusedSimpArgs false
namespace Jvm.Pilot.@@N@@
open Jvm Jvm.ClassFile Sem Op Lib Jvm.Free Jvm.Stand Jvm.LawKit Jvm.RoadKit Bundle Jvm.Pilot.@@N@@.Jvm.D

/-! ## OWN LAYER: weakest preconditions over the walk -/
abbrev Cx : Type := (Program × Launch × Env × Room) × (State × MethodId × Array Value × List Frame) × (Method × Code) × (Option Value → Heap → Prop) × Nat
abbrev Sd (K : Cx) (T : State) (locs : List Loc) (cells slots : Nat) : Prop := Stand K.1.1 K.1.2.1 K.1.2.2.1 K.1.2.2.2 K.2.1.1 K.2.1.2.1 K.2.1.2.2.1 K.2.1.2.2.2 K.2.2.1.1 K.2.2.1.2 T locs cells slots
abbrev Stp (K : Cx) (A B : State) : Prop := Steps K.1.1.tables K.1.2.2.1 K.2.1.2.2.2 A B
abbrev Tp (K : Cx) (T : State) (pc : Nat) (L : Array Slot) (st : List Value) : State := T.setTop (mkF K.2.1.2.1 pc L st)
/-- from every state that stands at pc with these locals, this stack and this heap the run ends as K says -/
def W (K : Cx) (h : Heap) (cells slots pc : Nat) (L : Array Slot) (st : List Value) : Prop :=
  ∀ T locs, Sd K T locs cells slots → T.heap = h → Fr K.2.2.2.2 locs →
    ∃ s₂ o, Stp K (Tp K T pc L st) s₂ ∧ s₂.status = .running ∧ Ended s₂ K.2.1.2.2.2 o ∧ ∃ v Ls, o = .returned v ∧ (K.2.2.2.1 v s₂.heap ∧ Fr K.2.2.2.2 Ls) ∧ FrameEnd K.2.1.1 o s₂ Ls K.1.2.2.2.cells K.1.2.2.2.slots
def Ok (K : Cx) (l : Launch) (Z : State) (a0 : Array Value) (ts : List Jvm.Cond) (B : ByteArray) (ml : Nat) (rt : Option FieldType) (own nm : String) (R : Room) (n0 : Nat) (Q : Option Value → Heap → Prop) : Prop :=
  K.1.1.tables.exec = Jvm.exec ∧ K.2.2.1.2.code = B ∧ K.2.2.1.2.maxLocals = ml ∧ K.2.1.1.vm.findClass own = some K.2.1.2.1.cls ∧ K.2.2.1.1.name = nm ∧ K.2.2.1.1.sig.returnType = rt ∧ K.2.2.1.1.locks = false ∧ Z.Warmed39 K.2.1.1.vm ∧ (∀ d ∈ ts, d.before a0 Z = true) ∧ n0 ≤ K.2.1.1.heap.size ∧ K.1.2.1 = l ∧ K.1.2.2.2 = R ∧ K.2.2.2.2 = n0 ∧ K.2.2.2.1 = Q
/-- a body's contract -/
def Con (l : Launch) (Z : State) (y : MethodName) (B : ByteArray) (ml : Nat) (rt : Option FieldType) (rm : Room) (as : List Value) (h : Heap) (n0 : Nat) (Q : Option Value → Heap → Prop) : Prop :=
  n0 ≤ h.size → ∀ ws, MetFree l y (head1 (Jvm.Cond.code y B ml rt :: ws) rm) (fun a U => a = as.toArray ∧ Z.Warmed39 U.vm ∧ U.heap = h) (fun _ _ _ _ _ => True) (fun _ U o U' => ∃ v L, o = .returned v ∧ (Q v U'.heap ∧ Fr n0 L) ∧ FrameEnd U o U' L rm.cells rm.slots)
def RetI (P : Int32 → Heap → Prop) (v : Option Value) (h : Heap) : Prop := ∃ r, v = some (.int r) ∧ P r h
def RetL (P : Int64 → Heap → Prop) (v : Option Value) (h : Heap) : Prop := ∃ r, v = some (.long r) ∧ P r h
def RetA (P : Value → Heap → Prop) (v : Option Value) (h : Heap) : Prop := ∃ r, v = some r ∧ r.isRef = true ∧ P r h
def RetV (P : Heap → Prop) (v : Option Value) (h : Heap) : Prop := v = none ∧ P h
section OwnW
variable {K : Cx} {l : Launch} {Z : State} {a0 : Array Value} {ts : List Jvm.Cond} {B : ByteArray} {ml : Nat} {rt : Option FieldType} {own nm : String} {R : Room} {n0 : Nat} {Q : Option Value → Heap → Prop} {h : Heap} {cl sl pc pc' : Nat} {L L' : Array Slot} {st st' : List Value}
theorem W.step (f : ∀ T locs, Sd K T locs cl sl → T.heap = h → ∀ t, Stp K (Tp K T pc' L' st') t → Stp K (Tp K T pc L st) t) (k : W K h cl sl pc' L' st') : W K h cl sl pc L st := fun T locs X e N => by
  obtain ⟨s2, o, h1, r⟩ := k T locs X e N
  exact ⟨s2, o, f T locs X e _ h1, r⟩
theorem W.stepT (f : ∀ T locs, Sd K T locs cl sl → T.heap = h → ∃ T', Sd K T' locs cl sl ∧ T'.heap = h ∧ ∀ t, Stp K (Tp K T' pc' L' st') t → Stp K (Tp K T pc L st) t) (k : W K h cl sl pc' L' st') : W K h cl sl pc L st := fun T locs X e N => by
  obtain ⟨T', X', e', g⟩ := f T locs X e
  obtain ⟨s2, o, h1, r⟩ := k T' locs X' e' N
  exact ⟨s2, o, g _ h1, r⟩
theorem W.stepW {a : Addr} {i : Nat} {v : Value} (f : ∀ T locs, Sd K T locs cl sl → T.heap = h → ∃ T' h', Sd K T' (locs ++ [⟨a, i⟩]) cl sl ∧ T'.heap = h' ∧ Wr h h' a i v ∧ ∀ t, Stp K (Tp K T' pc' L' st') t → Stp K (Tp K T pc L st) t) (ha : K.2.2.2.2 ≤ a) (k : ∀ h', Wr h h' a i v → W K h' cl sl pc' L' st') : W K h cl sl pc L st := fun T locs X e N => by
  obtain ⟨T', h', X', e', w, g⟩ := f T locs X e
  obtain ⟨s2, o, h1, r⟩ := k h' w T' _ X' e' (Fr.snoc X' N ha)
  exact ⟨s2, o, g _ h1, r⟩
theorem W.mono {cl' sl' : Nat} (hc : cl ≤ cl') (hs : sl ≤ sl') (k : W K h cl' sl' pc L st) : W K h cl sl pc L st := fun T locs X e N => k T locs (X.mono hc hs) e N
theorem Sd.size {T : State} {locs : List Loc} (X : Sd K T locs cl sl) : K.2.1.1.heap.size ≤ T.heap.size := X.same.2.1
theorem cI {cl' sl' : Nat} {P : Int32 → Heap → Prop} (k : ∀ r h', P r h' → W K h' cl' sl' pc' L (.int r :: st)) : ∀ v h', RetI P v h' → W K h' cl' sl' pc' L (v.toList ++ st) := by
  rintro _ h' ⟨r, rfl, hp⟩; exact k r h' hp
theorem cL {cl' sl' : Nat} {P : Int64 → Heap → Prop} (k : ∀ r h', P r h' → W K h' cl' sl' pc' L (.long r :: st)) : ∀ v h', RetL P v h' → W K h' cl' sl' pc' L (v.toList ++ st) := by
  rintro _ h' ⟨r, rfl, hp⟩; exact k r h' hp
theorem cA {cl' sl' : Nat} {P : Value → Heap → Prop} (k : ∀ r h', r.isRef = true → P r h' → W K h' cl' sl' pc' L (r :: st)) : ∀ v h', RetA P v h' → W K h' cl' sl' pc' L (v.toList ++ st) := by
  rintro _ h' ⟨r, rfl, hr, hp⟩; exact k r h' hr hp
theorem cV {cl' sl' : Nat} {P : Heap → Prop} (k : ∀ h', P h' → W K h' cl' sl' pc' L st) : ∀ v h', RetV P v h' → W K h' cl' sl' pc' L (v.toList ++ st) := by
  rintro _ h' ⟨rfl, hp⟩; exact k h' hp
theorem Con.weak {y : MethodName} {rm : Room} {as : List Value} {Q' : Option Value → Heap → Prop} (c : Con l Z y B ml rt rm as h n0 Q) (q : ∀ v h', Q v h' → Q' v h') : Con l Z y B ml rt rm as h n0 Q' := fun hn ws p e ha hc hk s m args below hf happ hP hK => by
  obtain ⟨n, o, h1, h2, h3, v, L, e1, ⟨h4, h5⟩, h6⟩ := c hn ws p e ha hc hk s m args below hf happ hP hK
  exact ⟨n, o, h1, h2, h3, v, L, e1, ⟨q _ _ h4, h5⟩, h6⟩
theorem Con.body {y : MethodName} {rm : Room} {as : List Value} {L0 : Array Slot} (hw : ∀ d ∈ ts, d.before a0 Z = true) (pn : plainFor y = true) (ef : ∀ m, entryFrame m as.toArray ml = mkF m 0 L0 [])
    (b : ∀ K, Ok K l Z a0 ts B ml rt y.cls y.name rm n0 Q → W K h 0 0 0 L0 []) : Con l Z y B ml rt rm as h n0 Q := by
  intro hn ws
  refine MetFree.of_bodySF pn hisR ?_
  intro p e s m args below meth c s₁ Bd hml0 hP hK
  obtain ⟨rfl, hZ, hh⟩ := hP
  have hown : s.vm.findClass y.cls = some m.cls := findClass_of_methodNamed Bd.named
  have hnm := (name_of_methodNamed Bd.named Bd.method).1
  have X0 : Stand p l e rm s m as.toArray below meth c s₁ [] 0 0 := Stand.of_body Bd
  have e0 : s₁.heap = h := by rw [← hh, Bd.state]; rfl
  have q := b ((p, l, e, rm), (s, m, as.toArray, below), (meth, c), Q, n0) ⟨Bd.exec, Bd.bytes, hml0, hown, hnm, Bd.returns, Bd.notSynchronized, hZ, hw, by rw [← hh] at hn; exact hn, rfl, rfl, rfl, rfl⟩ s₁ [] X0 e0 (Fr.nil _)
  obtain ⟨s2, o, h1, h2, h3, h4⟩ := q
  exact ⟨s2, o, castTop (ef m) h1, h2, h3, h4⟩

theorem w_iloadN (O : Ok K l Z a0 ts B ml rt own nm R n0 Q) {i : Fin 4} {v : Int32} (hd : decode B pc = .ok (.iload_n i, 1)) (hp : pc + 1 = pc') (hl : L[i.val]? = some (.val (.int v))) (k : W K h cl sl pc' L (.int v :: st)) : W K h cl sl pc L (st) := by
  subst hp; exact W.step (fun T locs X e t q => XS.iloadN X.here O.1 rfl (hb O.2.1 hd) hl q) k
theorem w_iload (O : Ok K l Z a0 ts B ml rt own nm R n0 Q) {i : Nat} {v : Int32} (hd : decode B pc = .ok (.iload i, 2)) (hp : pc + 2 = pc') (hl : L[i]? = some (.val (.int v))) (k : W K h cl sl pc' L (.int v :: st)) : W K h cl sl pc L (st) := by
  subst hp; exact W.step (fun T locs X e t q => XS.iload X.here O.1 rfl (hb O.2.1 hd) hl q) k
theorem w_lloadN (O : Ok K l Z a0 ts B ml rt own nm R n0 Q) {i : Fin 4} {v : Int64} (hd : decode B pc = .ok (.lload_n i, 1)) (hp : pc + 1 = pc') (hl : L[i.val]? = some (.val (.long v))) (k : W K h cl sl pc' L (.long v :: st)) : W K h cl sl pc L (st) := by
  subst hp; exact W.step (fun T locs X e t q => XS.lloadN X.here O.1 rfl (hb O.2.1 hd) hl q) k
theorem w_lload (O : Ok K l Z a0 ts B ml rt own nm R n0 Q) {i : Nat} {v : Int64} (hd : decode B pc = .ok (.lload i, 2)) (hp : pc + 2 = pc') (hl : L[i]? = some (.val (.long v))) (k : W K h cl sl pc' L (.long v :: st)) : W K h cl sl pc L (st) := by
  subst hp; exact W.step (fun T locs X e t q => XS.lload X.here O.1 rfl (hb O.2.1 hd) hl q) k
theorem w_aloadN (O : Ok K l Z a0 ts B ml rt own nm R n0 Q) {i : Fin 4} {v : Value} (hd : decode B pc = .ok (.aload_n i, 1)) (hp : pc + 1 = pc') (hl : L[i.val]? = some (.val v)) (hv : v.isRef = true) (k : W K h cl sl pc' L (v :: st)) : W K h cl sl pc L (st) := by
  subst hp; exact W.step (fun T locs X e t q => XS.aloadN X.here O.1 rfl (hb O.2.1 hd) hl hv q) k
theorem w_aload (O : Ok K l Z a0 ts B ml rt own nm R n0 Q) {i : Nat} {v : Value} (hd : decode B pc = .ok (.aload i, 2)) (hp : pc + 2 = pc') (hl : L[i]? = some (.val v)) (hv : v.isRef = true) (k : W K h cl sl pc' L (v :: st)) : W K h cl sl pc L (st) := by
  subst hp; exact W.step (fun T locs X e t q => XS.aload X.here O.1 rfl (hb O.2.1 hd) hl hv q) k
theorem w_istoreN (O : Ok K l Z a0 ts B ml rt own nm R n0 Q) {i : Fin 4} {v : Int32} (hd : decode B pc = .ok (.istore_n i, 1)) (hp : pc + 1 = pc') (hl : storeLocals L i.val (.int v) = some L') (k : W K h cl sl pc' L' st) : W K h cl sl pc L (.int v :: st) := by
  subst hp; exact W.step (fun T locs X e t q => XS.istoreN X.here O.1 rfl (hb O.2.1 hd) rfl hl q) k
theorem w_istoreNG (O : Ok K l Z a0 ts B ml rt own nm R n0 Q) {i : Fin 4} {v : Int32} {L' : Int32 → Array Slot} (hd : decode B pc = .ok (.istore_n i, 1)) (hp : pc + 1 = pc') (hl : ∀ z, storeLocals L i.val (.int z) = some (L' z)) (k : ∀ z, z = v → W K h cl sl pc' (L' z) st) : W K h cl sl pc L (.int v :: st) := w_istoreN O hd hp (hl v) (k v rfl)
theorem w_istore (O : Ok K l Z a0 ts B ml rt own nm R n0 Q) {i : Nat} {v : Int32} (hd : decode B pc = .ok (.istore i, 2)) (hp : pc + 2 = pc') (hl : storeLocals L i (.int v) = some L') (k : W K h cl sl pc' L' st) : W K h cl sl pc L (.int v :: st) := by
  subst hp; exact W.step (fun T locs X e t q => XS.istore X.here O.1 rfl (hb O.2.1 hd) rfl hl q) k
theorem w_istoreG (O : Ok K l Z a0 ts B ml rt own nm R n0 Q) {i : Nat} {v : Int32} {L' : Int32 → Array Slot} (hd : decode B pc = .ok (.istore i, 2)) (hp : pc + 2 = pc') (hl : ∀ z, storeLocals L i (.int z) = some (L' z)) (k : ∀ z, z = v → W K h cl sl pc' (L' z) st) : W K h cl sl pc L (.int v :: st) := w_istore O hd hp (hl v) (k v rfl)
theorem w_lstoreN (O : Ok K l Z a0 ts B ml rt own nm R n0 Q) {i : Fin 4} {v : Int64} (hd : decode B pc = .ok (.lstore_n i, 1)) (hp : pc + 1 = pc') (hl : storeLocals L i.val (.long v) = some L') (k : W K h cl sl pc' L' st) : W K h cl sl pc L (.long v :: st) := by
  subst hp; exact W.step (fun T locs X e t q => XS.lstoreN X.here O.1 rfl (hb O.2.1 hd) rfl hl q) k
theorem w_lstoreNG (O : Ok K l Z a0 ts B ml rt own nm R n0 Q) {i : Fin 4} {v : Int64} {L' : Int64 → Array Slot} (hd : decode B pc = .ok (.lstore_n i, 1)) (hp : pc + 1 = pc') (hl : ∀ z, storeLocals L i.val (.long z) = some (L' z)) (k : ∀ z, z = v → W K h cl sl pc' (L' z) st) : W K h cl sl pc L (.long v :: st) := w_lstoreN O hd hp (hl v) (k v rfl)
theorem w_lstore (O : Ok K l Z a0 ts B ml rt own nm R n0 Q) {i : Nat} {v : Int64} (hd : decode B pc = .ok (.lstore i, 2)) (hp : pc + 2 = pc') (hl : storeLocals L i (.long v) = some L') (k : W K h cl sl pc' L' st) : W K h cl sl pc L (.long v :: st) := by
  subst hp; exact W.step (fun T locs X e t q => XS.lstore X.here O.1 rfl (hb O.2.1 hd) rfl hl q) k
theorem w_lstoreG (O : Ok K l Z a0 ts B ml rt own nm R n0 Q) {i : Nat} {v : Int64} {L' : Int64 → Array Slot} (hd : decode B pc = .ok (.lstore i, 2)) (hp : pc + 2 = pc') (hl : ∀ z, storeLocals L i (.long z) = some (L' z)) (k : ∀ z, z = v → W K h cl sl pc' (L' z) st) : W K h cl sl pc L (.long v :: st) := w_lstore O hd hp (hl v) (k v rfl)
theorem w_astoreN (O : Ok K l Z a0 ts B ml rt own nm R n0 Q) {i : Fin 4} {v : Value} (hd : decode B pc = .ok (.astore_n i, 1)) (hp : pc + 1 = pc') (hv : v.isRef = true) (hl : storeLocals L i.val v = some L') (k : W K h cl sl pc' L' st) : W K h cl sl pc L (v :: st) := by
  subst hp; exact W.step (fun T locs X e t q => XS.astoreN X.here O.1 rfl (hb O.2.1 hd) rfl hv hl q) k
theorem w_astore (O : Ok K l Z a0 ts B ml rt own nm R n0 Q) {i : Nat} {v : Value} (hd : decode B pc = .ok (.astore i, 2)) (hp : pc + 2 = pc') (hv : v.isRef = true) (hl : storeLocals L i v = some L') (k : W K h cl sl pc' L' st) : W K h cl sl pc L (v :: st) := by
  subst hp; exact W.step (fun T locs X e t q => XS.astore X.here O.1 rfl (hb O.2.1 hd) rfl hv hl q) k
theorem w_iinc (O : Ok K l Z a0 ts B ml rt own nm R n0 Q) {i : Nat} {cst : Int} {x z : Int32} (hd : decode B pc = .ok (.iinc i cst, 3)) (hp : pc + 3 = pc') (hl : L[i]? = some (.val (.int x))) (hz : x + Int32.ofInt cst = z) (hl' : storeLocals L i (.int z) = some L') (k : W K h cl sl pc' L' st) : W K h cl sl pc L st := by
  subst hp; subst hz; exact W.step (fun T locs X e t q => XS.iinc X.here O.1 rfl (hb O.2.1 hd) hl hl' q) k
theorem w_iincG (O : Ok K l Z a0 ts B ml rt own nm R n0 Q) {i : Nat} {cst : Int} {x y : Int32} {L' : Int32 → Array Slot} (hd : decode B pc = .ok (.iinc i cst, 3)) (hp : pc + 3 = pc') (hl : L[i]? = some (.val (.int x))) (hz : Int32.ofInt cst = y) (hl' : ∀ z, storeLocals L i (.int z) = some (L' z)) (k : ∀ z, z = x + y → W K h cl sl pc' (L' z) st) : W K h cl sl pc L st := by
  subst hz; exact w_iinc O hd hp hl rfl (hl' _) (k _ rfl)
theorem w_iconst (O : Ok K l Z a0 ts B ml rt own nm R n0 Q) {i : Int} {z : Int32} (hd : decode B pc = .ok (.iconst i, 1)) (hp : pc + 1 = pc') (hz : Int32.ofInt i = z) (k : W K h cl sl pc' L (.int z :: st)) : W K h cl sl pc L (st) := by
  subst hp; exact W.step (fun T locs X e t q => XS.iconst X.here O.1 rfl (hb O.2.1 hd) (by rw [hz]; exact q)) k
theorem w_bipush (O : Ok K l Z a0 ts B ml rt own nm R n0 Q) {i : Int} {z : Int32} (hd : decode B pc = .ok (.bipush i, 2)) (hp : pc + 2 = pc') (hz : (Int8.ofInt i).toInt32 = z) (k : W K h cl sl pc' L (.int z :: st)) : W K h cl sl pc L (st) := by
  subst hp; exact W.step (fun T locs X e t q => XS.bipush X.here O.1 rfl (hb O.2.1 hd) (by rw [hz]; exact q)) k
theorem w_sipush (O : Ok K l Z a0 ts B ml rt own nm R n0 Q) {i : Int} {z : Int32} (hd : decode B pc = .ok (.sipush i, 3)) (hp : pc + 3 = pc') (hz : (Int16.ofInt i).toInt32 = z) (k : W K h cl sl pc' L (.int z :: st)) : W K h cl sl pc L (st) := by
  subst hp; exact W.step (fun T locs X e t q => XS.sipush X.here O.1 rfl (hb O.2.1 hd) (by rw [hz]; exact q)) k
theorem w_lconst (O : Ok K l Z a0 ts B ml rt own nm R n0 Q) {i : Fin 2} {z : Int64} (hd : decode B pc = .ok (.lconst i, 1)) (hp : pc + 1 = pc') (hz : Int64.ofNat i = z) (k : W K h cl sl pc' L (.long z :: st)) : W K h cl sl pc L (st) := by
  subst hp; exact W.step (fun T locs X e t q => XS.lconst X.here O.1 rfl (hb O.2.1 hd) (by rw [hz]; exact q)) k
theorem w_anull (O : Ok K l Z a0 ts B ml rt own nm R n0 Q)  (hd : decode B pc = .ok (.aconst_null, 1)) (hp : pc + 1 = pc') (k : W K h cl sl pc' L (.null :: st)) : W K h cl sl pc L (st) := by
  subst hp; exact W.step (fun T locs X e t q => XS.aconstNull X.here O.1 rfl (hb O.2.1 hd) q) k
theorem w_ldc (O : Ok K l Z a0 ts B ml rt own nm R n0 Q) {i : Nat} {v : Int32} (hd : decode B pc = .ok (.ldc i, 2)) (hp : pc + 2 = pc') (w : Jvm.Cond.constant own i v ∈ ts) (k : W K h cl sl pc' L (.int v :: st)) : W K h cl sl pc L (st) := by
  subst hp; exact W.step (fun T locs X e t q => X.ldcInt O.1 O.2.2.2.1 (mvT O.2.2.2.2.2.2.2.1 (O.2.2.2.2.2.2.2.2.1 _ w)) (g := mkF K.2.1.2.1 pc L st) rfl (hb O.2.1 hd) _ q) k
theorem w_ldc2 (O : Ok K l Z a0 ts B ml rt own nm R n0 Q) {i : Nat} {v : Int64} (hd : decode B pc = .ok (.ldc2_w i, 3)) (hp : pc + 3 = pc') (w : Jvm.Cond.constantLong own i v ∈ ts) (k : W K h cl sl pc' L (.long v :: st)) : W K h cl sl pc L (st) := by
  subst hp; exact W.step (fun T locs X e t q => X.ldc2Long O.1 O.2.2.2.1 (mvT O.2.2.2.2.2.2.2.1 (O.2.2.2.2.2.2.2.2.1 _ w)) (g := mkF K.2.1.2.1 pc L st) rfl (hb O.2.1 hd) _ q) k
theorem w_iadd (O : Ok K l Z a0 ts B ml rt own nm R n0 Q) {x y : Int32} (hd : decode B pc = .ok (.iadd, 1)) (hp : pc + 1 = pc') (k : W K h cl sl pc' L (.int (x + y) :: st)) : W K h cl sl pc L (.int y :: .int x :: st) := by
  subst hp; exact W.step (fun T locs X e t q => XS.iadd X.here O.1 rfl (hb O.2.1 hd) rfl q) k
theorem w_isub (O : Ok K l Z a0 ts B ml rt own nm R n0 Q) {x y : Int32} (hd : decode B pc = .ok (.isub, 1)) (hp : pc + 1 = pc') (k : W K h cl sl pc' L (.int (x - y) :: st)) : W K h cl sl pc L (.int y :: .int x :: st) := by
  subst hp; exact W.step (fun T locs X e t q => XS.isub X.here O.1 rfl (hb O.2.1 hd) rfl q) k
theorem w_imul (O : Ok K l Z a0 ts B ml rt own nm R n0 Q) {x y : Int32} (hd : decode B pc = .ok (.imul, 1)) (hp : pc + 1 = pc') (k : W K h cl sl pc' L (.int (x * y) :: st)) : W K h cl sl pc L (.int y :: .int x :: st) := by
  subst hp; exact W.step (fun T locs X e t q => XS.imul X.here O.1 rfl (hb O.2.1 hd) rfl q) k
theorem w_iand (O : Ok K l Z a0 ts B ml rt own nm R n0 Q) {x y : Int32} (hd : decode B pc = .ok (.iand, 1)) (hp : pc + 1 = pc') (k : W K h cl sl pc' L (.int (x &&& y) :: st)) : W K h cl sl pc L (.int y :: .int x :: st) := by
  subst hp; exact W.step (fun T locs X e t q => XS.iand X.here O.1 rfl (hb O.2.1 hd) rfl q) k
theorem w_ior (O : Ok K l Z a0 ts B ml rt own nm R n0 Q) {x y : Int32} (hd : decode B pc = .ok (.ior, 1)) (hp : pc + 1 = pc') (k : W K h cl sl pc' L (.int (x ||| y) :: st)) : W K h cl sl pc L (.int y :: .int x :: st) := by
  subst hp; exact W.step (fun T locs X e t q => XS.ior X.here O.1 rfl (hb O.2.1 hd) rfl q) k
theorem w_ixor (O : Ok K l Z a0 ts B ml rt own nm R n0 Q) {x y : Int32} (hd : decode B pc = .ok (.ixor, 1)) (hp : pc + 1 = pc') (k : W K h cl sl pc' L (.int (x ^^^ y) :: st)) : W K h cl sl pc L (.int y :: .int x :: st) := by
  subst hp; exact W.step (fun T locs X e t q => XS.ixor X.here O.1 rfl (hb O.2.1 hd) rfl q) k
theorem w_ishl (O : Ok K l Z a0 ts B ml rt own nm R n0 Q) {x y : Int32} (hd : decode B pc = .ok (.ishl, 1)) (hp : pc + 1 = pc') (k : W K h cl sl pc' L (.int (x <<< (y &&& 31)) :: st)) : W K h cl sl pc L (.int y :: .int x :: st) := by
  subst hp; exact W.step (fun T locs X e t q => XS.ishl X.here O.1 rfl (hb O.2.1 hd) rfl q) k
theorem w_ishr (O : Ok K l Z a0 ts B ml rt own nm R n0 Q) {x y : Int32} (hd : decode B pc = .ok (.ishr, 1)) (hp : pc + 1 = pc') (k : W K h cl sl pc' L (.int (x >>> (y &&& 31)) :: st)) : W K h cl sl pc L (.int y :: .int x :: st) := by
  subst hp; exact W.step (fun T locs X e t q => XS.ishr X.here O.1 rfl (hb O.2.1 hd) rfl q) k
theorem w_iushr (O : Ok K l Z a0 ts B ml rt own nm R n0 Q) {x y : Int32} (hd : decode B pc = .ok (.iushr, 1)) (hp : pc + 1 = pc') (k : W K h cl sl pc' L (.int ((x.toUInt32 >>> (y &&& 31).toUInt32).toInt32) :: st)) : W K h cl sl pc L (.int y :: .int x :: st) := by
  subst hp; exact W.step (fun T locs X e t q => XS.iushr X.here O.1 rfl (hb O.2.1 hd) rfl q) k
theorem w_ladd (O : Ok K l Z a0 ts B ml rt own nm R n0 Q) {x y : Int64} (hd : decode B pc = .ok (.ladd, 1)) (hp : pc + 1 = pc') (k : W K h cl sl pc' L (.long (x + y) :: st)) : W K h cl sl pc L (.long y :: .long x :: st) := by
  subst hp; exact W.step (fun T locs X e t q => XS.ladd X.here O.1 rfl (hb O.2.1 hd) rfl q) k
theorem w_lsub (O : Ok K l Z a0 ts B ml rt own nm R n0 Q) {x y : Int64} (hd : decode B pc = .ok (.lsub, 1)) (hp : pc + 1 = pc') (k : W K h cl sl pc' L (.long (x - y) :: st)) : W K h cl sl pc L (.long y :: .long x :: st) := by
  subst hp; exact W.step (fun T locs X e t q => XS.lsub X.here O.1 rfl (hb O.2.1 hd) rfl q) k
theorem w_lmul (O : Ok K l Z a0 ts B ml rt own nm R n0 Q) {x y : Int64} (hd : decode B pc = .ok (.lmul, 1)) (hp : pc + 1 = pc') (k : W K h cl sl pc' L (.long (x * y) :: st)) : W K h cl sl pc L (.long y :: .long x :: st) := by
  subst hp; exact W.step (fun T locs X e t q => XS.lmul X.here O.1 rfl (hb O.2.1 hd) rfl q) k
theorem w_land (O : Ok K l Z a0 ts B ml rt own nm R n0 Q) {x y : Int64} (hd : decode B pc = .ok (.land, 1)) (hp : pc + 1 = pc') (k : W K h cl sl pc' L (.long (x &&& y) :: st)) : W K h cl sl pc L (.long y :: .long x :: st) := by
  subst hp; exact W.step (fun T locs X e t q => XS.land X.here O.1 rfl (hb O.2.1 hd) rfl q) k
theorem w_lor (O : Ok K l Z a0 ts B ml rt own nm R n0 Q) {x y : Int64} (hd : decode B pc = .ok (.lor, 1)) (hp : pc + 1 = pc') (k : W K h cl sl pc' L (.long (x ||| y) :: st)) : W K h cl sl pc L (.long y :: .long x :: st) := by
  subst hp; exact W.step (fun T locs X e t q => XS.lor X.here O.1 rfl (hb O.2.1 hd) rfl q) k
theorem w_lxor (O : Ok K l Z a0 ts B ml rt own nm R n0 Q) {x y : Int64} (hd : decode B pc = .ok (.lxor, 1)) (hp : pc + 1 = pc') (k : W K h cl sl pc' L (.long (x ^^^ y) :: st)) : W K h cl sl pc L (.long y :: .long x :: st) := by
  subst hp; exact W.step (fun T locs X e t q => XS.lxor X.here O.1 rfl (hb O.2.1 hd) rfl q) k
theorem w_lshl (O : Ok K l Z a0 ts B ml rt own nm R n0 Q) {x : Int64} {y : Int32} (hd : decode B pc = .ok (.lshl, 1)) (hp : pc + 1 = pc') (k : W K h cl sl pc' L (.long (x <<< (y &&& 0x3f).toInt64) :: st)) : W K h cl sl pc L (.int y :: .long x :: st) := by
  subst hp; exact W.step (fun T locs X e t q => XS.lshl X.here O.1 rfl (hb O.2.1 hd) rfl q) k
theorem w_lshr (O : Ok K l Z a0 ts B ml rt own nm R n0 Q) {x : Int64} {y : Int32} (hd : decode B pc = .ok (.lshr, 1)) (hp : pc + 1 = pc') (k : W K h cl sl pc' L (.long (x >>> (y &&& 0x3f).toInt64) :: st)) : W K h cl sl pc L (.int y :: .long x :: st) := by
  subst hp; exact W.step (fun T locs X e t q => XS.lshr X.here O.1 rfl (hb O.2.1 hd) rfl q) k
theorem w_lushr (O : Ok K l Z a0 ts B ml rt own nm R n0 Q) {x : Int64} {y : Int32} (hd : decode B pc = .ok (.lushr, 1)) (hp : pc + 1 = pc') (k : W K h cl sl pc' L (.long ((x.toUInt64 >>> (y &&& 0x3f).toInt64.toUInt64).toInt64) :: st)) : W K h cl sl pc L (.int y :: .long x :: st) := by
  subst hp; exact W.step (fun T locs X e t q => XS.lushr X.here O.1 rfl (hb O.2.1 hd) rfl q) k
theorem w_idiv (O : Ok K l Z a0 ts B ml rt own nm R n0 Q) {x y : Int32} (hd : decode B pc = .ok (.idiv, 1)) (hp : pc + 1 = pc') (hy : y ≠ 0) (k : W K h cl sl pc' L (.int (x / y) :: st)) : W K h cl sl pc L (.int y :: .int x :: st) := by
  subst hp; exact W.step (fun T locs X e t q => XS.idiv X.here O.1 rfl (hb O.2.1 hd) rfl hy q) k
theorem w_irem (O : Ok K l Z a0 ts B ml rt own nm R n0 Q) {x y : Int32} (hd : decode B pc = .ok (.irem, 1)) (hp : pc + 1 = pc') (hy : y ≠ 0) (k : W K h cl sl pc' L (.int (x % y) :: st)) : W K h cl sl pc L (.int y :: .int x :: st) := by
  subst hp; exact W.step (fun T locs X e t q => iremM X O.1 rfl (hb O.2.1 hd) rfl hy q) k
theorem w_ldiv (O : Ok K l Z a0 ts B ml rt own nm R n0 Q) {x y : Int64} (hd : decode B pc = .ok (.ldiv, 1)) (hp : pc + 1 = pc') (hy : y ≠ 0) (k : W K h cl sl pc' L (.long (x / y) :: st)) : W K h cl sl pc L (.long y :: .long x :: st) := by
  subst hp; exact W.step (fun T locs X e t q => XS.ldiv X.here O.1 rfl (hb O.2.1 hd) rfl hy q) k
theorem w_lrem (O : Ok K l Z a0 ts B ml rt own nm R n0 Q) {x y : Int64} (hd : decode B pc = .ok (.lrem, 1)) (hp : pc + 1 = pc') (hy : y ≠ 0) (k : W K h cl sl pc' L (.long (x % y) :: st)) : W K h cl sl pc L (.long y :: .long x :: st) := by
  subst hp; exact W.step (fun T locs X e t q => XS.lrem X.here O.1 rfl (hb O.2.1 hd) rfl hy (by rw [lrem_mod]; exact q)) k
theorem w_ineg (O : Ok K l Z a0 ts B ml rt own nm R n0 Q) {x : Int32} (hd : decode B pc = .ok (.ineg, 1)) (hp : pc + 1 = pc') (k : W K h cl sl pc' L (.int (-x) :: st)) : W K h cl sl pc L (.int x :: st) := by
  subst hp; exact W.step (fun T locs X e t q => XS.ineg X.here O.1 rfl (hb O.2.1 hd) rfl q) k
theorem w_lneg (O : Ok K l Z a0 ts B ml rt own nm R n0 Q) {x : Int64} (hd : decode B pc = .ok (.lneg, 1)) (hp : pc + 1 = pc') (k : W K h cl sl pc' L (.long (-x) :: st)) : W K h cl sl pc L (.long x :: st) := by
  subst hp; exact W.step (fun T locs X e t q => XS.lneg X.here O.1 rfl (hb O.2.1 hd) rfl q) k
theorem w_i2l (O : Ok K l Z a0 ts B ml rt own nm R n0 Q) {x : Int32} (hd : decode B pc = .ok (.i2l, 1)) (hp : pc + 1 = pc') (k : W K h cl sl pc' L (.long (x.toInt64) :: st)) : W K h cl sl pc L (.int x :: st) := by
  subst hp; exact W.step (fun T locs X e t q => XS.i2l X.here O.1 rfl (hb O.2.1 hd) rfl q) k
theorem w_l2i (O : Ok K l Z a0 ts B ml rt own nm R n0 Q) {x : Int64} (hd : decode B pc = .ok (.l2i, 1)) (hp : pc + 1 = pc') (k : W K h cl sl pc' L (.int (x.toInt32) :: st)) : W K h cl sl pc L (.long x :: st) := by
  subst hp; exact W.step (fun T locs X e t q => XS.l2i X.here O.1 rfl (hb O.2.1 hd) rfl q) k
theorem w_i2b (O : Ok K l Z a0 ts B ml rt own nm R n0 Q) {x : Int32} (hd : decode B pc = .ok (.i2b, 1)) (hp : pc + 1 = pc') (k : W K h cl sl pc' L (.int (x.toInt8.toInt32) :: st)) : W K h cl sl pc L (.int x :: st) := by
  subst hp; exact W.step (fun T locs X e t q => XS.i2b X.here O.1 rfl (hb O.2.1 hd) rfl q) k
theorem w_i2s (O : Ok K l Z a0 ts B ml rt own nm R n0 Q) {x : Int32} (hd : decode B pc = .ok (.i2s, 1)) (hp : pc + 1 = pc') (k : W K h cl sl pc' L (.int (x.toInt16.toInt32) :: st)) : W K h cl sl pc L (.int x :: st) := by
  subst hp; exact W.step (fun T locs X e t q => XS.i2s X.here O.1 rfl (hb O.2.1 hd) rfl q) k
theorem w_i2c (O : Ok K l Z a0 ts B ml rt own nm R n0 Q) {x : Int32} (hd : decode B pc = .ok (.i2c, 1)) (hp : pc + 1 = pc') (k : W K h cl sl pc' L (.int (x.toUInt32.toUInt16.toUInt32.toInt32) :: st)) : W K h cl sl pc L (.int x :: st) := by
  subst hp; exact W.step (fun T locs X e t q => XS.i2c X.here O.1 rfl (hb O.2.1 hd) rfl q) k
theorem w_dup (O : Ok K l Z a0 ts B ml rt own nm R n0 Q) {x : Value} (hd : decode B pc = .ok (.dup, 1)) (hp : pc + 1 = pc') (hc : x.category = 1) (k : W K h cl sl pc' L (x :: x :: st)) : W K h cl sl pc L (x :: st) := by
  subst hp; exact W.step (fun T locs X e t q => XS.dup X.here O.1 rfl (hb O.2.1 hd) rfl hc q) k
theorem w_pop (O : Ok K l Z a0 ts B ml rt own nm R n0 Q) {x : Value} (hd : decode B pc = .ok (.pop, 1)) (hp : pc + 1 = pc') (hc : x.category = 1) (k : W K h cl sl pc' L (st)) : W K h cl sl pc L (x :: st) := by
  subst hp; exact W.step (fun T locs X e t q => XS.pop X.here O.1 rfl (hb O.2.1 hd) rfl hc q) k
theorem w_dupX1 (O : Ok K l Z a0 ts B ml rt own nm R n0 Q) {x y : Value} (hd : decode B pc = .ok (.dup_x1, 1)) (hp : pc + 1 = pc') (hc : x.category = 1) (hc2 : y.category = 1) (k : W K h cl sl pc' L (x :: y :: x :: st)) : W K h cl sl pc L (x :: y :: st) := by
  subst hp; exact W.step (fun T locs X e t q => XS.dupX1 X.here O.1 rfl (hb O.2.1 hd) rfl hc hc2 q) k
theorem w_goto (O : Ok K l Z a0 ts B ml rt own nm R n0 Q) {o : Int} (hd : decode B pc = .ok (.goto o, 3)) (ho : 0 ≤ (pc : Int) + o) (hp : ((pc : Int) + o).toNat = pc') (k : W K h cl sl pc' L st) : W K h cl sl pc L st := W.step (fun T locs X e t q => XS.goto X.here O.1 rfl rfl (hb O.2.1 hd) ho hp q) k
theorem w_icmp_eq (O : Ok K l Z a0 ts B ml rt own nm R n0 Q) {o : Int} {x y : Int32} {pt pn : Nat} (hd : decode B pc = .ok (.if_icmp .eq o, 3)) (hn : pc + 3 = pn) (ho : 0 ≤ (pc : Int) + o) (ht : ((pc : Int) + o).toNat = pt) (ky : x.toInt = y.toInt → W K h cl sl pt L st) (kn : ¬ x.toInt = y.toInt → W K h cl sl pn L st) : W K h cl sl pc L (.int y :: .int x :: st) := by
  by_cases q : x = y
  · exact W.step (fun T locs X e t z => XS.icmpYes X.here O.1 rfl rfl (hb O.2.1 hd) rfl (teq q).1 ho ht z) (ky (Int32.toInt_inj.mpr q))
  · exact W.step (fun T locs X e t z => XS.icmpNo X.here O.1 rfl (hb O.2.1 hd) rfl (feq q).1 (by rw [← hn] at z; exact z)) (kn fun w => q (Int32.toInt_inj.mp w))
theorem w_if_eq (O : Ok K l Z a0 ts B ml rt own nm R n0 Q) {o : Int} {x : Int32} {pt pn : Nat} (hd : decode B pc = .ok (.ifCond .eq o, 3)) (hn : pc + 3 = pn) (ho : 0 ≤ (pc : Int) + o) (ht : ((pc : Int) + o).toNat = pt) (ky : x.toInt = 0 → W K h cl sl pt L st) (kn : ¬ x.toInt = 0 → W K h cl sl pn L st) : W K h cl sl pc L (.int x :: st) := by
  have e0 : (0 : Int32).toInt = 0 := by decide
  by_cases q : x = 0
  · exact W.step (fun T locs X e t z => XS.ifYes X.here O.1 rfl rfl (hb O.2.1 hd) rfl ((if0 _ _).trans (teq q).1) ho ht z) (ky (by rw [← e0]; exact (Int32.toInt_inj.mpr q)))
  · exact W.step (fun T locs X e t z => XS.ifNo X.here O.1 rfl (hb O.2.1 hd) rfl ((if0 _ _).trans (feq q).1) (by rw [← hn] at z; exact z)) (kn fun w => q (by rw [← e0] at w; exact (Int32.toInt_inj.mp w)))
theorem lcb_eq {x y : Int64} : (lcmpW x y).toInt = 0 ↔ x.toInt = y.toInt := by
  have e0 : (0 : Int32).toInt = 0 := by decide
  rw [← e0]
  exact Int32.toInt_inj.trans ((lw_eq x y).trans Int64.toInt_inj.symm)
theorem w_lcmp_eq (O : Ok K l Z a0 ts B ml rt own nm R n0 Q) {o : Int} {x y : Int64} {pi pt pn : Nat} (hd : decode B pc = .ok (.lcmp, 1)) (hi : pc + 1 = pi) (hd2 : decode B pi = .ok (.ifCond .eq o, 3)) (hn : pi + 3 = pn) (ho : 0 ≤ (pi : Int) + o) (ht : ((pi : Int) + o).toNat = pt) (ky : x.toInt = y.toInt → W K h cl sl pt L st) (kn : ¬ x.toInt = y.toInt → W K h cl sl pn L st) : W K h cl sl pc L (.long y :: .long x :: st) := by
  subst hi
  exact W.step (fun T locs X e t q => XS.lcmp X.here O.1 rfl (hb O.2.1 hd) rfl q) (w_if_eq O hd2 hn ho ht (fun q => ky (lcb_eq.mp q)) (fun q => kn fun w => q (lcb_eq.mpr w)))
theorem w_icmp_ne (O : Ok K l Z a0 ts B ml rt own nm R n0 Q) {o : Int} {x y : Int32} {pt pn : Nat} (hd : decode B pc = .ok (.if_icmp .ne o, 3)) (hn : pc + 3 = pn) (ho : 0 ≤ (pc : Int) + o) (ht : ((pc : Int) + o).toNat = pt) (ky : ¬ x.toInt = y.toInt → W K h cl sl pt L st) (kn : x.toInt = y.toInt → W K h cl sl pn L st) : W K h cl sl pc L (.int y :: .int x :: st) := by
  by_cases q : x = y
  · exact W.step (fun T locs X e t z => XS.icmpNo X.here O.1 rfl (hb O.2.1 hd) rfl (teq q).2 (by rw [← hn] at z; exact z)) (kn (Int32.toInt_inj.mpr q))
  · exact W.step (fun T locs X e t z => XS.icmpYes X.here O.1 rfl rfl (hb O.2.1 hd) rfl (feq q).2 ho ht z) (ky fun w => q (Int32.toInt_inj.mp w))
theorem w_if_ne (O : Ok K l Z a0 ts B ml rt own nm R n0 Q) {o : Int} {x : Int32} {pt pn : Nat} (hd : decode B pc = .ok (.ifCond .ne o, 3)) (hn : pc + 3 = pn) (ho : 0 ≤ (pc : Int) + o) (ht : ((pc : Int) + o).toNat = pt) (ky : ¬ x.toInt = 0 → W K h cl sl pt L st) (kn : x.toInt = 0 → W K h cl sl pn L st) : W K h cl sl pc L (.int x :: st) := by
  have e0 : (0 : Int32).toInt = 0 := by decide
  by_cases q : x = 0
  · exact W.step (fun T locs X e t z => XS.ifNo X.here O.1 rfl (hb O.2.1 hd) rfl ((if0 _ _).trans (teq q).2) (by rw [← hn] at z; exact z)) (kn (by rw [← e0]; exact (Int32.toInt_inj.mpr q)))
  · exact W.step (fun T locs X e t z => XS.ifYes X.here O.1 rfl rfl (hb O.2.1 hd) rfl ((if0 _ _).trans (feq q).2) ho ht z) (ky fun w => q (by rw [← e0] at w; exact (Int32.toInt_inj.mp w)))
theorem lcb_ne {x y : Int64} : (lcmpW x y).toInt = 0 ↔ x.toInt = y.toInt := by
  have e0 : (0 : Int32).toInt = 0 := by decide
  rw [← e0]
  exact Int32.toInt_inj.trans ((lw_eq x y).trans Int64.toInt_inj.symm)
theorem w_lcmp_ne (O : Ok K l Z a0 ts B ml rt own nm R n0 Q) {o : Int} {x y : Int64} {pi pt pn : Nat} (hd : decode B pc = .ok (.lcmp, 1)) (hi : pc + 1 = pi) (hd2 : decode B pi = .ok (.ifCond .ne o, 3)) (hn : pi + 3 = pn) (ho : 0 ≤ (pi : Int) + o) (ht : ((pi : Int) + o).toNat = pt) (ky : ¬ x.toInt = y.toInt → W K h cl sl pt L st) (kn : x.toInt = y.toInt → W K h cl sl pn L st) : W K h cl sl pc L (.long y :: .long x :: st) := by
  subst hi
  exact W.step (fun T locs X e t q => XS.lcmp X.here O.1 rfl (hb O.2.1 hd) rfl q) (w_if_ne O hd2 hn ho ht (fun q => ky fun w => q (lcb_ne.mpr w)) (fun q => kn (lcb_ne.mp q)))
theorem w_icmp_lt (O : Ok K l Z a0 ts B ml rt own nm R n0 Q) {o : Int} {x y : Int32} {pt pn : Nat} (hd : decode B pc = .ok (.if_icmp .lt o, 3)) (hn : pc + 3 = pn) (ho : 0 ≤ (pc : Int) + o) (ht : ((pc : Int) + o).toNat = pt) (ky : x.toInt < y.toInt → W K h cl sl pt L st) (kn : ¬ x.toInt < y.toInt → W K h cl sl pn L st) : W K h cl sl pc L (.int y :: .int x :: st) := by
  by_cases q : x < y
  · exact W.step (fun T locs X e t z => XS.icmpYes X.here O.1 rfl rfl (hb O.2.1 hd) rfl (tlt q).1 ho ht z) (ky (Int32.lt_iff_toInt_lt.mp q))
  · exact W.step (fun T locs X e t z => XS.icmpNo X.here O.1 rfl (hb O.2.1 hd) rfl (flt q).1 (by rw [← hn] at z; exact z)) (kn fun w => q (Int32.lt_iff_toInt_lt.mpr w))
theorem w_if_lt (O : Ok K l Z a0 ts B ml rt own nm R n0 Q) {o : Int} {x : Int32} {pt pn : Nat} (hd : decode B pc = .ok (.ifCond .lt o, 3)) (hn : pc + 3 = pn) (ho : 0 ≤ (pc : Int) + o) (ht : ((pc : Int) + o).toNat = pt) (ky : x.toInt < 0 → W K h cl sl pt L st) (kn : ¬ x.toInt < 0 → W K h cl sl pn L st) : W K h cl sl pc L (.int x :: st) := by
  have e0 : (0 : Int32).toInt = 0 := by decide
  by_cases q : x < 0
  · exact W.step (fun T locs X e t z => XS.ifYes X.here O.1 rfl rfl (hb O.2.1 hd) rfl ((if0 _ _).trans (tlt q).1) ho ht z) (ky (by rw [← e0]; exact (Int32.lt_iff_toInt_lt.mp q)))
  · exact W.step (fun T locs X e t z => XS.ifNo X.here O.1 rfl (hb O.2.1 hd) rfl ((if0 _ _).trans (flt q).1) (by rw [← hn] at z; exact z)) (kn fun w => q (by rw [← e0] at w; exact (Int32.lt_iff_toInt_lt.mpr w)))
theorem lcb_lt {x y : Int64} : (lcmpW x y).toInt < 0 ↔ x.toInt < y.toInt := by
  have e0 : (0 : Int32).toInt = 0 := by decide
  rw [← e0]
  exact (Int32.lt_iff_toInt_lt.symm).trans ((lw_lt x y).trans Int64.lt_iff_toInt_lt)
theorem w_lcmp_lt (O : Ok K l Z a0 ts B ml rt own nm R n0 Q) {o : Int} {x y : Int64} {pi pt pn : Nat} (hd : decode B pc = .ok (.lcmp, 1)) (hi : pc + 1 = pi) (hd2 : decode B pi = .ok (.ifCond .lt o, 3)) (hn : pi + 3 = pn) (ho : 0 ≤ (pi : Int) + o) (ht : ((pi : Int) + o).toNat = pt) (ky : x.toInt < y.toInt → W K h cl sl pt L st) (kn : ¬ x.toInt < y.toInt → W K h cl sl pn L st) : W K h cl sl pc L (.long y :: .long x :: st) := by
  subst hi
  exact W.step (fun T locs X e t q => XS.lcmp X.here O.1 rfl (hb O.2.1 hd) rfl q) (w_if_lt O hd2 hn ho ht (fun q => ky (lcb_lt.mp q)) (fun q => kn fun w => q (lcb_lt.mpr w)))
theorem w_icmp_ge (O : Ok K l Z a0 ts B ml rt own nm R n0 Q) {o : Int} {x y : Int32} {pt pn : Nat} (hd : decode B pc = .ok (.if_icmp .ge o, 3)) (hn : pc + 3 = pn) (ho : 0 ≤ (pc : Int) + o) (ht : ((pc : Int) + o).toNat = pt) (ky : ¬ x.toInt < y.toInt → W K h cl sl pt L st) (kn : x.toInt < y.toInt → W K h cl sl pn L st) : W K h cl sl pc L (.int y :: .int x :: st) := by
  by_cases q : x < y
  · exact W.step (fun T locs X e t z => XS.icmpNo X.here O.1 rfl (hb O.2.1 hd) rfl (tlt q).2.1 (by rw [← hn] at z; exact z)) (kn (Int32.lt_iff_toInt_lt.mp q))
  · exact W.step (fun T locs X e t z => XS.icmpYes X.here O.1 rfl rfl (hb O.2.1 hd) rfl (flt q).2.1 ho ht z) (ky fun w => q (Int32.lt_iff_toInt_lt.mpr w))
theorem w_if_ge (O : Ok K l Z a0 ts B ml rt own nm R n0 Q) {o : Int} {x : Int32} {pt pn : Nat} (hd : decode B pc = .ok (.ifCond .ge o, 3)) (hn : pc + 3 = pn) (ho : 0 ≤ (pc : Int) + o) (ht : ((pc : Int) + o).toNat = pt) (ky : ¬ x.toInt < 0 → W K h cl sl pt L st) (kn : x.toInt < 0 → W K h cl sl pn L st) : W K h cl sl pc L (.int x :: st) := by
  have e0 : (0 : Int32).toInt = 0 := by decide
  by_cases q : x < 0
  · exact W.step (fun T locs X e t z => XS.ifNo X.here O.1 rfl (hb O.2.1 hd) rfl ((if0 _ _).trans (tlt q).2.1) (by rw [← hn] at z; exact z)) (kn (by rw [← e0]; exact (Int32.lt_iff_toInt_lt.mp q)))
  · exact W.step (fun T locs X e t z => XS.ifYes X.here O.1 rfl rfl (hb O.2.1 hd) rfl ((if0 _ _).trans (flt q).2.1) ho ht z) (ky fun w => q (by rw [← e0] at w; exact (Int32.lt_iff_toInt_lt.mpr w)))
theorem lcb_ge {x y : Int64} : (lcmpW x y).toInt < 0 ↔ x.toInt < y.toInt := by
  have e0 : (0 : Int32).toInt = 0 := by decide
  rw [← e0]
  exact (Int32.lt_iff_toInt_lt.symm).trans ((lw_lt x y).trans Int64.lt_iff_toInt_lt)
theorem w_lcmp_ge (O : Ok K l Z a0 ts B ml rt own nm R n0 Q) {o : Int} {x y : Int64} {pi pt pn : Nat} (hd : decode B pc = .ok (.lcmp, 1)) (hi : pc + 1 = pi) (hd2 : decode B pi = .ok (.ifCond .ge o, 3)) (hn : pi + 3 = pn) (ho : 0 ≤ (pi : Int) + o) (ht : ((pi : Int) + o).toNat = pt) (ky : ¬ x.toInt < y.toInt → W K h cl sl pt L st) (kn : x.toInt < y.toInt → W K h cl sl pn L st) : W K h cl sl pc L (.long y :: .long x :: st) := by
  subst hi
  exact W.step (fun T locs X e t q => XS.lcmp X.here O.1 rfl (hb O.2.1 hd) rfl q) (w_if_ge O hd2 hn ho ht (fun q => ky fun w => q (lcb_ge.mpr w)) (fun q => kn (lcb_ge.mp q)))
theorem w_icmp_gt (O : Ok K l Z a0 ts B ml rt own nm R n0 Q) {o : Int} {x y : Int32} {pt pn : Nat} (hd : decode B pc = .ok (.if_icmp .gt o, 3)) (hn : pc + 3 = pn) (ho : 0 ≤ (pc : Int) + o) (ht : ((pc : Int) + o).toNat = pt) (ky : y.toInt < x.toInt → W K h cl sl pt L st) (kn : ¬ y.toInt < x.toInt → W K h cl sl pn L st) : W K h cl sl pc L (.int y :: .int x :: st) := by
  by_cases q : y < x
  · exact W.step (fun T locs X e t z => XS.icmpYes X.here O.1 rfl rfl (hb O.2.1 hd) rfl (tlt q).2.2.1 ho ht z) (ky (Int32.lt_iff_toInt_lt.mp q))
  · exact W.step (fun T locs X e t z => XS.icmpNo X.here O.1 rfl (hb O.2.1 hd) rfl (flt q).2.2.1 (by rw [← hn] at z; exact z)) (kn fun w => q (Int32.lt_iff_toInt_lt.mpr w))
theorem w_if_gt (O : Ok K l Z a0 ts B ml rt own nm R n0 Q) {o : Int} {x : Int32} {pt pn : Nat} (hd : decode B pc = .ok (.ifCond .gt o, 3)) (hn : pc + 3 = pn) (ho : 0 ≤ (pc : Int) + o) (ht : ((pc : Int) + o).toNat = pt) (ky : 0 < x.toInt → W K h cl sl pt L st) (kn : ¬ 0 < x.toInt → W K h cl sl pn L st) : W K h cl sl pc L (.int x :: st) := by
  have e0 : (0 : Int32).toInt = 0 := by decide
  by_cases q : 0 < x
  · exact W.step (fun T locs X e t z => XS.ifYes X.here O.1 rfl rfl (hb O.2.1 hd) rfl ((if0 _ _).trans (tlt q).2.2.1) ho ht z) (ky (by rw [← e0]; exact (Int32.lt_iff_toInt_lt.mp q)))
  · exact W.step (fun T locs X e t z => XS.ifNo X.here O.1 rfl (hb O.2.1 hd) rfl ((if0 _ _).trans (flt q).2.2.1) (by rw [← hn] at z; exact z)) (kn fun w => q (by rw [← e0] at w; exact (Int32.lt_iff_toInt_lt.mpr w)))
theorem lcb_gt {x y : Int64} : 0 < (lcmpW x y).toInt ↔ y.toInt < x.toInt := by
  have e0 : (0 : Int32).toInt = 0 := by decide
  rw [← e0]
  exact (Int32.lt_iff_toInt_lt.symm).trans ((lw_gt x y).trans Int64.lt_iff_toInt_lt)
theorem w_lcmp_gt (O : Ok K l Z a0 ts B ml rt own nm R n0 Q) {o : Int} {x y : Int64} {pi pt pn : Nat} (hd : decode B pc = .ok (.lcmp, 1)) (hi : pc + 1 = pi) (hd2 : decode B pi = .ok (.ifCond .gt o, 3)) (hn : pi + 3 = pn) (ho : 0 ≤ (pi : Int) + o) (ht : ((pi : Int) + o).toNat = pt) (ky : y.toInt < x.toInt → W K h cl sl pt L st) (kn : ¬ y.toInt < x.toInt → W K h cl sl pn L st) : W K h cl sl pc L (.long y :: .long x :: st) := by
  subst hi
  exact W.step (fun T locs X e t q => XS.lcmp X.here O.1 rfl (hb O.2.1 hd) rfl q) (w_if_gt O hd2 hn ho ht (fun q => ky (lcb_gt.mp q)) (fun q => kn fun w => q (lcb_gt.mpr w)))
theorem w_icmp_le (O : Ok K l Z a0 ts B ml rt own nm R n0 Q) {o : Int} {x y : Int32} {pt pn : Nat} (hd : decode B pc = .ok (.if_icmp .le o, 3)) (hn : pc + 3 = pn) (ho : 0 ≤ (pc : Int) + o) (ht : ((pc : Int) + o).toNat = pt) (ky : ¬ y.toInt < x.toInt → W K h cl sl pt L st) (kn : y.toInt < x.toInt → W K h cl sl pn L st) : W K h cl sl pc L (.int y :: .int x :: st) := by
  by_cases q : y < x
  · exact W.step (fun T locs X e t z => XS.icmpNo X.here O.1 rfl (hb O.2.1 hd) rfl (tlt q).2.2.2 (by rw [← hn] at z; exact z)) (kn (Int32.lt_iff_toInt_lt.mp q))
  · exact W.step (fun T locs X e t z => XS.icmpYes X.here O.1 rfl rfl (hb O.2.1 hd) rfl (flt q).2.2.2 ho ht z) (ky fun w => q (Int32.lt_iff_toInt_lt.mpr w))
theorem w_if_le (O : Ok K l Z a0 ts B ml rt own nm R n0 Q) {o : Int} {x : Int32} {pt pn : Nat} (hd : decode B pc = .ok (.ifCond .le o, 3)) (hn : pc + 3 = pn) (ho : 0 ≤ (pc : Int) + o) (ht : ((pc : Int) + o).toNat = pt) (ky : ¬ 0 < x.toInt → W K h cl sl pt L st) (kn : 0 < x.toInt → W K h cl sl pn L st) : W K h cl sl pc L (.int x :: st) := by
  have e0 : (0 : Int32).toInt = 0 := by decide
  by_cases q : 0 < x
  · exact W.step (fun T locs X e t z => XS.ifNo X.here O.1 rfl (hb O.2.1 hd) rfl ((if0 _ _).trans (tlt q).2.2.2) (by rw [← hn] at z; exact z)) (kn (by rw [← e0]; exact (Int32.lt_iff_toInt_lt.mp q)))
  · exact W.step (fun T locs X e t z => XS.ifYes X.here O.1 rfl rfl (hb O.2.1 hd) rfl ((if0 _ _).trans (flt q).2.2.2) ho ht z) (ky fun w => q (by rw [← e0] at w; exact (Int32.lt_iff_toInt_lt.mpr w)))
theorem lcb_le {x y : Int64} : 0 < (lcmpW x y).toInt ↔ y.toInt < x.toInt := by
  have e0 : (0 : Int32).toInt = 0 := by decide
  rw [← e0]
  exact (Int32.lt_iff_toInt_lt.symm).trans ((lw_gt x y).trans Int64.lt_iff_toInt_lt)
theorem w_lcmp_le (O : Ok K l Z a0 ts B ml rt own nm R n0 Q) {o : Int} {x y : Int64} {pi pt pn : Nat} (hd : decode B pc = .ok (.lcmp, 1)) (hi : pc + 1 = pi) (hd2 : decode B pi = .ok (.ifCond .le o, 3)) (hn : pi + 3 = pn) (ho : 0 ≤ (pi : Int) + o) (ht : ((pi : Int) + o).toNat = pt) (ky : ¬ y.toInt < x.toInt → W K h cl sl pt L st) (kn : y.toInt < x.toInt → W K h cl sl pn L st) : W K h cl sl pc L (.long y :: .long x :: st) := by
  subst hi
  exact W.step (fun T locs X e t q => XS.lcmp X.here O.1 rfl (hb O.2.1 hd) rfl q) (w_if_le O hd2 hn ho ht (fun q => ky fun w => q (lcb_le.mpr w)) (fun q => kn (lcb_le.mp q)))
theorem w_ifnullY (O : Ok K l Z a0 ts B ml rt own nm R n0 Q) {o : Int} (hd : decode B pc = .ok (.ifnull o, 3)) (ho : 0 ≤ (pc : Int) + o) (ht : ((pc : Int) + o).toNat = pc') (k : W K h cl sl pc' L st) : W K h cl sl pc L (.null :: st) := W.step (fun T locs X e t q => XS.ifnullYes X.here O.1 rfl rfl (hb O.2.1 hd) rfl ho ht q) k
theorem w_ifnullN (O : Ok K l Z a0 ts B ml rt own nm R n0 Q) {o : Int} {b : Addr} (hd : decode B pc = .ok (.ifnull o, 3)) (hp : pc + 3 = pc') (k : W K h cl sl pc' L st) : W K h cl sl pc L (.ref b :: st) := by
  subst hp; exact W.step (fun T locs X e t q => XS.ifnullNo X.here O.1 rfl (hb O.2.1 hd) rfl q) k
theorem w_ifnonnullY (O : Ok K l Z a0 ts B ml rt own nm R n0 Q) {o : Int} {b : Addr} (hd : decode B pc = .ok (.ifnonnull o, 3)) (ho : 0 ≤ (pc : Int) + o) (ht : ((pc : Int) + o).toNat = pc') (k : W K h cl sl pc' L st) : W K h cl sl pc L (.ref b :: st) := W.step (fun T locs X e t q => XS.ifnonnullYes X.here O.1 rfl rfl (hb O.2.1 hd) rfl ho ht q) k
theorem w_ifnonnullN (O : Ok K l Z a0 ts B ml rt own nm R n0 Q) {o : Int} (hd : decode B pc = .ok (.ifnonnull o, 3)) (hp : pc + 3 = pc') (k : W K h cl sl pc' L st) : W K h cl sl pc L (.null :: st) := by
  subst hp; exact W.step (fun T locs X e t q => XS.ifnonnullNo X.here O.1 rfl (hb O.2.1 hd) rfl q) k
theorem w_acmp_eq (O : Ok K l Z a0 ts B ml rt own nm R n0 Q) {o : Int} {x y : Value} {pt pn : Nat} (hd : decode B pc = .ok (.if_acmp .eq o, 3)) (hx' : x.isRef = true) (hy' : y.isRef = true) (hn : pc + 3 = pn) (ho : 0 ≤ (pc : Int) + o) (ht : ((pc : Int) + o).toNat = pt) (ky : x = y → W K h cl sl pt L st) (kn : ¬ x = y → W K h cl sl pn L st) : W K h cl sl pc L (y :: x :: st) := by
  by_cases q : x = y
  · exact W.step (fun T locs X e t z => Jvm.RoadKit.acmp (g := mkF K.2.1.2.1 pc L (y :: x :: st)) X O.1 rfl hx' hy' (pc0 := pc) (pc' := pt) (same := true) rfl (hb O.2.1 hd) rfl (decide_eq_true q) ho (by simp [acV, ht, hn]) z) (ky q)
  · exact W.step (fun T locs X e t z => Jvm.RoadKit.acmp (g := mkF K.2.1.2.1 pc L (y :: x :: st)) X O.1 rfl hx' hy' (pc0 := pc) (pc' := pn) (same := false) rfl (hb O.2.1 hd) rfl (decide_eq_false q) ho (by simp [acV, ht, hn]) z) (kn q)
theorem w_acmp_ne (O : Ok K l Z a0 ts B ml rt own nm R n0 Q) {o : Int} {x y : Value} {pt pn : Nat} (hd : decode B pc = .ok (.if_acmp .ne o, 3)) (hx' : x.isRef = true) (hy' : y.isRef = true) (hn : pc + 3 = pn) (ho : 0 ≤ (pc : Int) + o) (ht : ((pc : Int) + o).toNat = pt) (ky : ¬ x = y → W K h cl sl pt L st) (kn : x = y → W K h cl sl pn L st) : W K h cl sl pc L (y :: x :: st) := by
  by_cases q : x = y
  · exact W.step (fun T locs X e t z => Jvm.RoadKit.acmp (g := mkF K.2.1.2.1 pc L (y :: x :: st)) X O.1 rfl hx' hy' (pc0 := pc) (pc' := pn) (same := true) rfl (hb O.2.1 hd) rfl (decide_eq_true q) ho (by simp [acV, ht, hn]) z) (kn q)
  · exact W.step (fun T locs X e t z => Jvm.RoadKit.acmp (g := mkF K.2.1.2.1 pc L (y :: x :: st)) X O.1 rfl hx' hy' (pc0 := pc) (pc' := pt) (same := false) rfl (hb O.2.1 hd) rfl (decide_eq_false q) ho (by simp [acV, ht, hn]) z) (ky q)
theorem w_getf (O : Ok K l Z a0 ts B ml rt own nm R n0 Q) {i : Nat} {C f d : String} {a : Addr} {v : Value} (hd : decode B pc = .ok (.getfield i, 3)) (hp : pc + 3 = pc') (w : Jvm.Cond.fieldLink own i C f d ∈ ts) (F : Fld Z h a C f d v) (k : W K h cl sl pc' L (v :: st)) : W K h cl sl pc L (.ref a :: st) := by
  subst hp
  exact W.stepT (fun T locs X e => getF X O.1 O.2.2.2.2.2.2.2.1 O.2.2.2.1 (host := "") (Or.inl (O.2.2.2.2.2.2.2.2.1 _ w)) Via.refl e F (g := mkF K.2.1.2.1 pc L (.ref a :: st)) rfl rfl (hb O.2.1 hd)) k
theorem w_gets (O : Ok K l Z a0 ts B ml rt own nm R n0 Q) {i : Nat} {C f d : String} {v : Value} (hd : decode B pc = .ok (.getstatic i, 3)) (hp : pc + 3 = pc') (w : Jvm.Cond.fieldLink own i C f d ∈ ts) (F : Sta Z h C f d v) (k : W K h cl sl pc' L (v :: st)) : W K h cl sl pc L st := by
  subst hp
  exact W.stepT (fun T locs X e => getS2 X O.1 O.2.2.2.2.2.2.2.1 O.2.2.2.1 (host := "") (Or.inl (O.2.2.2.2.2.2.2.2.1 _ w)) Via.refl e F (g := mkF K.2.1.2.1 pc L st) rfl (hb O.2.1 hd)) k
theorem w_putf (O : Ok K l Z a0 ts B ml rt own nm R n0 Q) {i kk : Nat} {C f d : String} {a : Addr} {v old : Value} {ty : FieldType} (hd : decode B pc = .ok (.putfield i, 3)) (hp : pc + 3 = pc') (w : Jvm.Cond.fieldLink own i C f d ∈ ts) (wi : Jvm.Cond.instantiable C kk ∈ ts) (Ly : Jvm.Cond.lays C C f d ∈ ts ∨ (Jvm.Cond.laysFinal C C f d ∈ ts ∧ own = C ∧ nm = "<init>")) (F : Fld Z h a C f d old) (E : Exa Z h a C) (ha : n0 ≤ a) (hty : parseFieldDescriptor d = some ty) (hn : narrow ty v = v) (hf : fits ty v = true)
    (k : ∀ h', Wr h h' a (Jvm.RoadKit.slotOf Z C f d) v → W K h' cl sl pc' L st) : W K h cl sl pc L (v :: .ref a :: st) := by
  subst hp
  have hw := O.2.2.2.2.2.2.2.2.1
  exact W.stepW (fun T locs X e => putF X O.1 O.2.2.2.2.2.2.2.1 O.2.2.2.1 (host := "") (Or.inl (hw _ w)) Via.refl e F E (Ly.imp (fun q => hw _ q) fun q => ⟨hw _ q.1, q.2.1, O.2.2.2.2.1.trans q.2.2⟩) (hw _ wi) hty hn hf (g := mkF K.2.1.2.1 pc L (v :: .ref a :: st)) rfl rfl (hb O.2.1 hd)) (by rw [O.2.2.2.2.2.2.2.2.2.2.2.2.1]; exact ha) k
theorem w_new (O : Ok K l Z a0 ts B ml rt own nm R n0 Q) {i n cl' sl' : Nat} {C : String} (hd : decode B pc = .ok (.new i, 3)) (hp : pc + 3 = pc') (w1 : Jvm.Cond.classLink own i C ∈ ts) (w2 : Jvm.Cond.instantiable C n ∈ ts) (w3 : Jvm.Cond.initialized C ∈ ts) (hc : cl + 1 = cl') (hs : sl + n = sl') (hc' : cl' ≤ R.cells) (hs' : sl' ≤ R.slots)
    (k : ∀ h' b, b = h.size → n0 ≤ b → Ext h h' → Exa Z h' b C → (∀ {Ow nf d : String} {ty : FieldType}, Laid Z a0 C Ow nf d → parseFieldDescriptor d = some ty → Fld Z h' b Ow nf d (defaultValue ty)) → W K h' cl' sl' pc' L (.ref b :: st)) : W K h cl sl pc L st := by
  obtain ⟨⟨p, l', e', R'⟩, ⟨s, m, args, below⟩, ⟨meth, c⟩, Q', n0'⟩ := K
  obtain ⟨hx, hby, hml, hown, hnm, hrt, hlk, hZ, hw, hn0, hl', hR', hn', hQ'⟩ := O
  dsimp only at hx hby hml hown hnm hrt hlk hZ hn0 hl' hR' hn' hQ'
  subst hl' hR' hn' hQ'
  subst hp hc hs
  intro T locs X eT N
  obtain ⟨T2, h2, X2, e2, E2, A2, D2, -, st2⟩ := newO X hx hZ hown (hw _ w1) (hw _ w2) (hw _ w3) eT (g := mkF m pc L st) rfl (hb hby hd) hc' hs'
  obtain ⟨s2, o, h1, r⟩ := k h2 h.size rfl (Nat.le_trans hn0 (by rw [← eT]; exact X.same.2.1)) E2 A2 D2 T2 _ X2 e2 N
  exact ⟨s2, o, st2 _ h1, r⟩
theorem w_objinit (O : Ok K l Z a0 ts B ml rt own nm R n0 Q) {i wt : Nat} {a : Addr} (hd : decode B pc = .ok (.invokespecial i, 3)) (hp : pc + 3 = pc') (w1 : Jvm.Cond.methodLink own i Lib.objectInit ∈ ts) (w2 : Jvm.Cond.instanceMethod Lib.objectInit ∈ ts) (w3 : Jvm.Cond.code Lib.objectInit ⟨#[0xb1]⟩ 1 none ∈ ts) (hsz : L.size = ml) (hwt : (st.map fun v => v.category).sum = wt) (hf : 1 ≤ R.frames) (hl : wt + 12 ≤ R.locals) (k : W K h cl sl pc' L st) : W K h cl sl pc L (.ref a :: st) := by
  obtain ⟨⟨p, l', e', R'⟩, ⟨s, m, args, below⟩, ⟨meth, c⟩, Q', n0'⟩ := K
  obtain ⟨hx, hby, hml, hown, hnm, hrt, hlk, hZ, hw, hn0, hl', hR', hn', hQ'⟩ := O
  dsimp only at hx hby hml hown hnm hrt hlk hZ hn0 hl' hR' hn' hQ'
  subst hl' hR' hn' hQ'
  subst hp hml
  exact W.stepT (fun T locs X e => initO X hx hZ hown (hw _ w1) (hw _ w2) (hw _ w3) e (g := mkF m pc L (.ref a :: st)) rfl hsz rfl (hb hby hd) hf (W := wt) (by show 2 * 0 + _ ≤ _; omega) hl) k
/-- an array of n places, the i-th holds f i -/
def Afn (Z : State) (h : Heap) (a : Addr) (ty : FieldType) (n : Nat) (f : Nat → Value) : Prop := ∃ c : Cell, Arr Z h a c ty ∧ c.slots.size = n ∧ n < 2147483648 ∧ ∀ i, i < n → c.slots[i]? = some (f i)
def upd (f : Nat → Value) (i : Nat) (v : Value) : Nat → Value := fun j => if j = i then v else f j
theorem Afn.lt {a : Addr} {ty : FieldType} {n : Nat} {f : Nat → Value} (A : Afn Z h a ty n f) : a < h.size := by obtain ⟨c, A, -⟩ := A; exact A.lt
theorem Afn.bound {a : Addr} {ty : FieldType} {n : Nat} {f : Nat → Value} (A : Afn Z h a ty n f) : n < 2147483648 := by obtain ⟨c, -, -, q, -⟩ := A; exact q
theorem upd_same (f : Nat → Value) (i : Nat) (v : Value) : upd f i v i = v := if_pos rfl
theorem upd_ne (f : Nat → Value) {i j : Nat} (v : Value) (q : ¬ j = i) : upd f i v j = f j := if_neg q
theorem Afn.ext {h' : Heap} {a : Addr} {ty : FieldType} {n : Nat} {f : Nat → Value} (A : Afn Z h a ty n f) (E : Ext h h') : Afn Z h' a ty n f := by obtain ⟨c, A, r⟩ := A; exact ⟨c, A.ext E, r⟩
theorem Afn.other {h' : Heap} {a b : Addr} {i : Nat} {v : Value} {ty : FieldType} {n : Nat} {f : Nat → Value} (A : Afn Z h b ty n f) (Wq : Wr h h' a i v) (q : b ≠ a) : Afn Z h' b ty n f := by obtain ⟨c, A, r⟩ := A; exact ⟨c, A.other Wq q, r⟩
theorem Afn.keep {h' : Heap} {a : Addr} {ws : List Addr} {ty : FieldType} {n : Nat} {f : Nat → Value} (A : Afn Z h a ty n f) (Kp : Keep h h' ws) (q : a ∉ ws) : Afn Z h' a ty n f := by obtain ⟨c, A, r⟩ := A; exact ⟨c, ⟨Kp.2.1 a c A.1 q, A.2⟩, r⟩
theorem Afn.congr {a : Addr} {ty : FieldType} {n : Nat} {f g : Nat → Value} (A : Afn Z h a ty n f) (q : ∀ i, i < n → f i = g i) : Afn Z h a ty n g := by obtain ⟨c, A, h1, h2, h3⟩ := A; exact ⟨c, A, h1, h2, fun i hi => by rw [← q i hi]; exact h3 i hi⟩
theorem Afn.set {h' : Heap} {a : Addr} {i : Nat} {v : Value} {ty : FieldType} {n : Nat} {f : Nat → Value} (A : Afn Z h a ty n f) (Wq : Wr h h' a i v) : Afn Z h' a ty n (upd f i v) := by
  obtain ⟨c, A, h1, h2, h3⟩ := A
  refine ⟨_, A.same Wq, by simp [Cell.setSlot, h1], h2, fun j hj => ?_⟩
  by_cases q : j = i
  · subst q
    simp [Cell.setSlot, upd, h1, hj]
  · simp only [upd, if_neg q]
    show (c.slots.setIfInBounds i v)[j]? = _
    rw [Array.getElem?_setIfInBounds_ne (fun z => q z.symm)]; exact h3 j hj
theorem tnc {j : Int32} {i : Nat} (hj : j.toInt = (i : Int)) : j.toNatClampNeg = i ∧ ¬ j < 0 := by
  have e0 : (0 : Int32).toInt = 0 := by decide
  have q : ¬ j < 0 := by rw [Int32.lt_iff_toInt_lt, e0]; omega
  have := nat_of q
  exact ⟨by omega, q⟩
theorem idxOk {c : Cell} {n : Nat} {j : Int32} {i : Nat} (hs : c.slots.size = n) (hj : j.toInt = (i : Int)) (hi : i < n) : ¬ (j < 0 ∨ c.slots.size ≤ j.toNatClampNeg) := by
  obtain ⟨q1, q2⟩ := tnc hj
  rintro (z | z)
  · exact q2 z
  · omega

theorem w_iaload (O : Ok K l Z a0 ts B ml rt own nm R n0 Q) {a : Addr} {n i : Nat} {f : Nat → Value} {j : Int32} {x : Int32} (hd : decode B pc = .ok (.iaload, 1)) (hp : pc + 1 = pc') (A : Afn Z h a .int n f) (hj : j.toInt = (i : Int)) (hi : i < n) (hv : f i = .int x) (k : W K h cl sl pc' L (.int x :: st)) : W K h cl sl pc L (.int j :: .ref a :: st) := by
  subst hp
  obtain ⟨c, A, h1, h2, h3⟩ := A
  refine W.step (fun T locs X e t q => X.iaload O.1 (j := j) (v := .int x) (by rw [e]; exact A.1) (State.isArrayOf_alike O.2.2.2.2.2.2.2.1.alike A.2.1) A.2.2 (idxOk h1 hj hi) (by rw [(tnc hj).1, h3 i hi, hv]) (g := mkF K.2.1.2.1 pc L (.int j :: .ref a :: st)) rfl rfl (hb O.2.1 hd) _ q) k
theorem w_laload (O : Ok K l Z a0 ts B ml rt own nm R n0 Q) {a : Addr} {n i : Nat} {f : Nat → Value} {j : Int32} {x : Int64} (hd : decode B pc = .ok (.laload, 1)) (hp : pc + 1 = pc') (A : Afn Z h a .long n f) (hj : j.toInt = (i : Int)) (hi : i < n) (hv : f i = .long x) (k : W K h cl sl pc' L (.long x :: st)) : W K h cl sl pc L (.int j :: .ref a :: st) := by
  subst hp
  obtain ⟨c, A, h1, h2, h3⟩ := A
  refine W.step (fun T locs X e t q => X.laload O.1 (j := j) (v := .long x) (by rw [e]; exact A.1) (State.isArrayOf_alike O.2.2.2.2.2.2.2.1.alike A.2.1) A.2.2 (idxOk h1 hj hi) (by rw [(tnc hj).1, h3 i hi, hv]) (g := mkF K.2.1.2.1 pc L (.int j :: .ref a :: st)) rfl rfl (hb O.2.1 hd) _ q) k
theorem w_baload (O : Ok K l Z a0 ts B ml rt own nm R n0 Q) {a : Addr} {n i : Nat} {f : Nat → Value} {j : Int32} {x : Int32} (hd : decode B pc = .ok (.baload, 1)) (hp : pc + 1 = pc') (A : Afn Z h a .byte n f) (hj : j.toInt = (i : Int)) (hi : i < n) (hv : f i = .int x) (k : W K h cl sl pc' L (.int x :: st)) : W K h cl sl pc L (.int j :: .ref a :: st) := by
  subst hp
  obtain ⟨c, A, h1, h2, h3⟩ := A
  refine W.step (fun T locs X e t q => X.baloadBytes O.1 (j := j) (v := .int x) (by rw [e]; exact A.1) (State.isArrayOf_alike O.2.2.2.2.2.2.2.1.alike A.2.1) A.2.2 (idxOk h1 hj hi) (by rw [(tnc hj).1, h3 i hi, hv]) (g := mkF K.2.1.2.1 pc L (.int j :: .ref a :: st)) rfl rfl (hb O.2.1 hd) _ q) k
theorem w_caload (O : Ok K l Z a0 ts B ml rt own nm R n0 Q) {a : Addr} {n i : Nat} {f : Nat → Value} {j : Int32} {x : Int32} (hd : decode B pc = .ok (.caload, 1)) (hp : pc + 1 = pc') (A : Afn Z h a .char n f) (hj : j.toInt = (i : Int)) (hi : i < n) (hv : f i = .int x) (k : W K h cl sl pc' L (.int x :: st)) : W K h cl sl pc L (.int j :: .ref a :: st) := by
  subst hp
  obtain ⟨c, A, h1, h2, h3⟩ := A
  refine W.step (fun T locs X e t q => X.caload O.1 (j := j) (v := .int x) (by rw [e]; exact A.1) (State.isArrayOf_alike O.2.2.2.2.2.2.2.1.alike A.2.1) A.2.2 (idxOk h1 hj hi) (by rw [(tnc hj).1, h3 i hi, hv]) (g := mkF K.2.1.2.1 pc L (.int j :: .ref a :: st)) rfl rfl (hb O.2.1 hd) _ q) k
theorem w_aaload (O : Ok K l Z a0 ts B ml rt own nm R n0 Q) {a : Addr} {n i : Nat} {f : Nat → Value} {j : Int32} {x : Value} {ty : FieldType} (hd : decode B pc = .ok (.aaload, 1)) (hp : pc + 1 = pc') (A : Afn Z h a ty n f) (hty : ty.isReference = true) (hj : j.toInt = (i : Int)) (hi : i < n) (hv : f i = x) (k : W K h cl sl pc' L (x :: st)) : W K h cl sl pc L (.int j :: .ref a :: st) := by
  subst hp
  obtain ⟨c, A, h1, h2, h3⟩ := A
  refine W.step (fun T locs X e t q => X.aaload O.1 (j := j) (v := x) (by rw [e]; exact A.1) (State.isArrayOf_alike O.2.2.2.2.2.2.2.1.alike A.2.1) hty A.2.2 (idxOk h1 hj hi) (by rw [(tnc hj).1, h3 i hi, hv]) (g := mkF K.2.1.2.1 pc L (.int j :: .ref a :: st)) rfl rfl (hb O.2.1 hd) _ q) k
theorem w_iastore (O : Ok K l Z a0 ts B ml rt own nm R n0 Q) {a : Addr} {n i : Nat} {f : Nat → Value} {j : Int32} {x : Int32} (hd : decode B pc = .ok (.iastore, 1)) (hp : pc + 1 = pc') (A : Afn Z h a .int n f) (hj : j.toInt = (i : Int)) (hi : i < n) (ha : n0 ≤ a) (k : ∀ h', Wr h h' a i (.int x) → W K h' cl sl pc' L st) : W K h cl sl pc L (.int x :: .int j :: .ref a :: st) := by
  subst hp
  obtain ⟨c, A, h1, h2, h3⟩ := A
  rw [← (tnc hj).1] at k
  exact W.stepW (fun T locs X e => stI X O.1 O.2.2.2.2.2.2.2.1 e A (j := j) (idxOk h1 hj hi) (g := mkF K.2.1.2.1 pc L (.int x :: .int j :: .ref a :: st)) rfl rfl (hb O.2.1 hd)) (by rw [O.2.2.2.2.2.2.2.2.2.2.2.2.1]; exact ha) k
theorem w_lastore (O : Ok K l Z a0 ts B ml rt own nm R n0 Q) {a : Addr} {n i : Nat} {f : Nat → Value} {j : Int32} {x : Int64} (hd : decode B pc = .ok (.lastore, 1)) (hp : pc + 1 = pc') (A : Afn Z h a .long n f) (hj : j.toInt = (i : Int)) (hi : i < n) (ha : n0 ≤ a) (k : ∀ h', Wr h h' a i (.long x) → W K h' cl sl pc' L st) : W K h cl sl pc L (.long x :: .int j :: .ref a :: st) := by
  subst hp
  obtain ⟨c, A, h1, h2, h3⟩ := A
  rw [← (tnc hj).1] at k
  exact W.stepW (fun T locs X e => stJ X O.1 O.2.2.2.2.2.2.2.1 e A (j := j) (idxOk h1 hj hi) (g := mkF K.2.1.2.1 pc L (.long x :: .int j :: .ref a :: st)) rfl rfl (hb O.2.1 hd)) (by rw [O.2.2.2.2.2.2.2.2.2.2.2.2.1]; exact ha) k
theorem w_bastore (O : Ok K l Z a0 ts B ml rt own nm R n0 Q) {a : Addr} {n i : Nat} {f : Nat → Value} {j : Int32} {x : Int32} (hd : decode B pc = .ok (.bastore, 1)) (hp : pc + 1 = pc') (A : Afn Z h a .byte n f) (hj : j.toInt = (i : Int)) (hi : i < n) (ha : n0 ≤ a) (k : ∀ h', Wr h h' a i (.int (nar .byte x)) → W K h' cl sl pc' L st) : W K h cl sl pc L (.int x :: .int j :: .ref a :: st) := by
  subst hp
  obtain ⟨c, A, h1, h2, h3⟩ := A
  rw [← (tnc hj).1] at k
  exact W.stepW (fun T locs X e => stB X O.1 O.2.2.2.2.2.2.2.1 e A (j := j) (idxOk h1 hj hi) (g := mkF K.2.1.2.1 pc L (.int x :: .int j :: .ref a :: st)) rfl rfl (hb O.2.1 hd)) (by rw [O.2.2.2.2.2.2.2.2.2.2.2.2.1]; exact ha) k
theorem w_castore (O : Ok K l Z a0 ts B ml rt own nm R n0 Q) {a : Addr} {n i : Nat} {f : Nat → Value} {j : Int32} {x : Int32} (hd : decode B pc = .ok (.castore, 1)) (hp : pc + 1 = pc') (A : Afn Z h a .char n f) (hj : j.toInt = (i : Int)) (hi : i < n) (ha : n0 ≤ a) (k : ∀ h', Wr h h' a i (.int (nar .char x)) → W K h' cl sl pc' L st) : W K h cl sl pc L (.int x :: .int j :: .ref a :: st) := by
  subst hp
  obtain ⟨c, A, h1, h2, h3⟩ := A
  rw [← (tnc hj).1] at k
  exact W.stepW (fun T locs X e => stC X O.1 O.2.2.2.2.2.2.2.1 e A (j := j) (idxOk h1 hj hi) (g := mkF K.2.1.2.1 pc L (.int x :: .int j :: .ref a :: st)) rfl rfl (hb O.2.1 hd)) (by rw [O.2.2.2.2.2.2.2.2.2.2.2.2.1]; exact ha) k
theorem w_alen (O : Ok K l Z a0 ts B ml rt own nm R n0 Q) {a : Addr} {n : Nat} {f : Nat → Value} {z : Int32} {ty : FieldType} (hd : decode B pc = .ok (.arraylength, 1)) (hp : pc + 1 = pc') (A : Afn Z h a ty n f) (hz : z.toInt = (n : Int)) (k : W K h cl sl pc' L (.int z :: st)) : W K h cl sl pc L (.ref a :: st) := by
  subst hp
  obtain ⟨c, A, h1, h2, h3⟩ := A
  have ez : c.slots.size.toInt32 = z := by
    have := (back32 (tnc hz).2).1
    rw [(tnc hz).1, ← h1] at this; exact this
  refine W.step (fun T locs X e t q => X.arraylength O.1 (by rw [e]; exact A.1) (State.isArrayOf_alike O.2.2.2.2.2.2.2.1.alike A.2.1) (g := mkF K.2.1.2.1 pc L (.ref a :: st)) rfl rfl (hb O.2.1 hd) _ (by rw [ez]; exact q)) k
theorem w_newarr (O : Ok K l Z a0 ts B ml rt own nm R n0 Q) {aty : ArrayType} {ty : FieldType} {dv : Value} {z : Int32} {n cap cl' sl' : Nat} (hd : decode B pc = .ok (.newarray aty, 2)) (hp : pc + 2 = pc') (hty : newarray.typeOf aty = ty) (hdv : defaultValue ty = dv) (w : Jvm.Cond.arrayClass ty ∈ ts) (hz : z.toInt = (n : Int)) (hcap : n ≤ cap) (hb8 : cap * 8 ≤ 536870912) (hc : cl + 1 = cl') (hs : sl + cap = sl') (hc' : cl' ≤ R.cells) (hs' : sl' ≤ R.slots)
    (k : ∀ h' b, b = h.size → n0 ≤ b → Ext h h' → Afn Z h' b ty n (fun _ => dv) → W K h' cl' sl' pc' L (.ref b :: st)) : W K h cl sl pc L (.int z :: st) := by
  obtain ⟨⟨p, l', e', R'⟩, ⟨s, m, args, below⟩, ⟨meth, c⟩, Q', n0'⟩ := K
  obtain ⟨hx, hby, hml, hown, hnm, hrt, hlk, hZ, hw, hn0, hl', hR', hn', hQ'⟩ := O
  dsimp only at hx hby hml hown hnm hrt hlk hZ hn0 hl' hR' hn' hQ'
  subst hl' hR' hn' hQ'
  subst hp hc hs hty hdv
  intro T locs X eT N
  obtain ⟨T2, h2, kA, X2, e2, E2, A2, st2⟩ := newP X hx hZ (hw _ w) eT (g := mkF m pc L (.int z :: st)) rfl (hb hby hd) rfl (tnc hz).2 (cap := cap) (by rw [(tnc hz).1]; exact hcap) hb8 hc' hs'
  have hsz : (newA kA (newarray.typeOf aty) z).slots.size = n := by rw [sz_new, (tnc hz).1]
  have hr := (rng32 z).2
  obtain ⟨s2, o, h1, r⟩ := k h2 h.size rfl (Nat.le_trans hn0 (by rw [← eT]; exact X.same.2.1)) E2 ⟨_, A2, hsz, by omega, fun i hi => by show (Array.replicate z.toNatClampNeg (defaultValue (newarray.typeOf aty)))[i]? = _; rw [Array.getElem?_replicate, if_pos (by rw [(tnc hz).1]; exact hi)]⟩ T2 _ X2 e2 N
  exact ⟨s2, o, st2 _ h1, r⟩
theorem w_newarrE (O : Ok K l Z a0 ts B ml rt own nm R n0 Q) {aty : ArrayType} {ty : FieldType} {ad : String} {dv : Value} {z : Int32} {n cap cl' sl' : Nat} (hd : decode B pc = .ok (.newarray aty, 2)) (hp : pc + 2 = pc') (hty : newarray.typeOf aty = ty) (hdv : defaultValue ty = dv) (had : "[" ++ (newarray.typeOf aty).toString = ad) (w : Jvm.Cond.arrayClass ty ∈ ts) (hz : z.toInt = (n : Int)) (hcap : n ≤ cap) (hb8 : cap * 8 ≤ 536870912) (hc : cl + 1 = cl') (hs : sl + cap = sl') (hc' : cl' ≤ R.cells) (hs' : sl' ≤ R.slots)
    (k : ∀ h' b, b = h.size → n0 ≤ b → Ext h h' → Afn Z h' b ty n (fun _ => dv) → Exa Z h' b ad → W K h' cl' sl' pc' L (.ref b :: st)) : W K h cl sl pc L (.int z :: st) := by
  obtain ⟨⟨p, l', e', R'⟩, ⟨s, m, args, below⟩, ⟨meth, c⟩, Q', n0'⟩ := K
  obtain ⟨hx, hby, hml, hown, hnm, hrt, hlk, hZ, hw, hn0, hl', hR', hn', hQ'⟩ := O
  dsimp only at hx hby hml hown hnm hrt hlk hZ hn0 hl' hR' hn' hQ'
  subst hl' hR' hn' hQ'
  subst hp hc hs hty hdv
  intro T locs X eT N
  obtain ⟨T2, h2, kA, X2, e2, E2, A2, Ex2, st2⟩ := newPE X hx hZ (hw _ w) eT (g := mkF m pc L (.int z :: st)) rfl (hb hby hd) rfl (tnc hz).2 (cap := cap) (by rw [(tnc hz).1]; exact hcap) hb8 hc' hs' had
  have hsz : (newA kA (newarray.typeOf aty) z).slots.size = n := by rw [sz_new, (tnc hz).1]
  have hr := (rng32 z).2
  obtain ⟨s2, o, h1, r⟩ := k h2 h.size rfl (Nat.le_trans hn0 (by rw [← eT]; exact X.same.2.1)) E2 ⟨_, A2, hsz, by omega, fun i hi => by show (Array.replicate z.toNatClampNeg (defaultValue (newarray.typeOf aty)))[i]? = _; rw [Array.getElem?_replicate, if_pos (by rw [(tnc hz).1]; exact hi)]⟩ Ex2 T2 _ X2 e2 N
  exact ⟨s2, o, st2 _ h1, r⟩
theorem w_clone (O : Ok K l Z a0 ts B ml rt own nm R n0 Q) {i wt n cap cl' sl' : Nat} {ad : String} {a : Addr} {ty : FieldType} {f : Nat → Value} (hd : decode B pc = .ok (.invokevirtual i, 3)) (hp : pc + 3 = pc') (w1 : Jvm.Cond.methodLink own i ⟨ad, "clone", "()Ljava/lang/Object;"⟩ ∈ ts) (w2 : Jvm.Cond.sameMethod ad "java/lang/Object" "clone" "()Ljava/lang/Object;" ∈ ts) (w3 : Jvm.Cond.native ⟨"java/lang/Object", "clone", "()Ljava/lang/Object;"⟩ ∈ ts) (w4 : Jvm.Cond.instanceMethod ⟨"java/lang/Object", "clone", "()Ljava/lang/Object;"⟩ ∈ ts) (w5 : Jvm.Cond.selects ad ⟨ad, "clone", "()Ljava/lang/Object;"⟩ ⟨"java/lang/Object", "clone", "()Ljava/lang/Object;"⟩ ∈ ts) (w6 : Jvm.Cond.castable ad "java/lang/Cloneable" ∈ ts)
    (A : Afn Z h a ty n f) (E : Exa Z h a ad) (hfit : ∀ i, i < n → fits ty (f i) = true) (hsz : L.size = ml) (hwt : (st.map fun v => v.category).sum = wt) (hf : 1 ≤ R.frames) (hl : wt + 14 ≤ R.locals) (hcap : n ≤ cap) (hc : cl + 1 = cl') (hs : sl + cap = sl') (hc' : cl' ≤ R.cells) (hs' : sl' ≤ R.slots)
    (k : ∀ h' b, b = h.size → n0 ≤ b → Ext h h' → Afn Z h' b ty n f → Exa Z h' b ad → W K h' cl' sl' pc' L (.ref b :: st)) : W K h cl sl pc L (.ref a :: st) := by
  obtain ⟨⟨p, l', e', R'⟩, ⟨s, m, args, below⟩, ⟨meth, c⟩, Q', n0'⟩ := K
  obtain ⟨hx, hby, hml, hown, hnm, hrt, hlk, hZ, hw, hn0, hl', hR', hn', hQ'⟩ := O
  dsimp only at hx hby hml hown hnm hrt hlk hZ hn0 hl' hR' hn' hQ'
  subst hl' hR' hn' hQ'
  subst hp hc hs hml
  intro T locs X eT N
  obtain ⟨cx, A1, h1, h2, h3⟩ := A
  have FC : FitC Z cx := fitC_of A1 fun i hi v hv => by rw [h1] at hi; rw [h3 i hi] at hv; cases hv; exact hfit i hi
  obtain ⟨T2, h4, X2, e2, E2, A2, Ex2, st2⟩ := cloneA X hx hZ hown (hw _ w1) (hw _ w2) (hw _ w3) (hw _ w4) (hw _ w5) (hw _ w6) eT A1 E FC (g := mkF m pc L (.ref a :: st)) rfl hsz rfl (hb hby hd) hf (W := wt) (cap := cap) (by show 2 * 0 + _ ≤ _; omega) hl (by rw [h1]; exact hcap) hc' hs'
  obtain ⟨s2, o, g1, r⟩ := k h4 h.size rfl (Nat.le_trans hn0 (by rw [← eT]; exact X.same.2.1)) E2 ⟨_, A2, h1, h2, h3⟩ Ex2 T2 _ X2 e2 N
  exact ⟨s2, o, st2 _ g1, r⟩
theorem w_cast (O : Ok K l Z a0 ts B ml rt own nm R n0 Q) {i : Nat} {C : String} {a : Addr} (hd : decode B pc = .ok (.checkcast i, 3)) (hp : pc + 3 = pc') (w : Jvm.Cond.classLink own i C ∈ ts) (I : Ins Z h a C true) (k : W K h cl sl pc' L (.ref a :: st)) : W K h cl sl pc L (.ref a :: st) := by
  subst hp
  exact W.stepT (fun T locs X e => castY X O.1 O.2.2.2.2.2.2.2.1 O.2.2.2.1 (O.2.2.2.2.2.2.2.2.1 _ w) e I (g := mkF K.2.1.2.1 pc L (.ref a :: st)) rfl rfl (hb O.2.1 hd)) k
/-- the array at a takes every C -/
def Tk (Z : State) (h : Heap) (a : Addr) (C : String) : Prop := ∃ (c : Cell) (k : Class) (comp : ClassId) (t : FieldType), h[a]? = some c ∧ Z.vm.classes[c.cls]? = some k ∧ k.kind = .array comp t ∧ Z.vm.findClass C = some comp
theorem Tk.lt {a : Addr} {C : String} (F : Tk Z h a C) : a < h.size := by obtain ⟨_, _, _, _, h1, -⟩ := F; exact (Array.getElem?_eq_some_iff.mp h1).1
theorem Tk.ext {h' : Heap} {a : Addr} {C : String} (F : Tk Z h a C) (E : Ext h h') : Tk Z h' a C := by obtain ⟨c, k, cp, t, h1, r⟩ := F; exact ⟨c, k, cp, t, E.2 _ _ h1, r⟩
theorem Tk.wr {h' : Heap} {a b : Addr} {C : String} {i : Nat} {v : Value} (F : Tk Z h a C) (Wq : Wr h h' b i v) : Tk Z h' a C := by
  obtain ⟨c, k, cp, t, h1, h2, r⟩ := F
  obtain ⟨d1, a1, a2, -⟩ := wr_at Wq h1
  exact ⟨d1, k, cp, t, a1, by rw [a2]; exact h2, r⟩
theorem Tk.keep {h' : Heap} {a : Addr} {C : String} {ws : List Addr} (F : Tk Z h a C) (Kp : Keep h h' ws) : Tk Z h' a C := by
  obtain ⟨c, k, cp, t, h1, h2, r⟩ := F
  obtain ⟨d1, a1, a2, -⟩ := Kp.2.2 a c h1
  exact ⟨d1, k, cp, t, a1, by rw [a2]; exact h2, r⟩
theorem Tk.sto {a y : Addr} {C : String} (F : Tk Z h a C) (I : Ins Z h y C true) : Sto Z h a (.ref y) := by
  obtain ⟨cl, k, comp, t, o0, o1, o2, o3⟩ := F
  obtain ⟨cv, cT, i1, i2, i3⟩ := I
  cases o3.symm.trans i2
  simp only [Bool.and_eq_true, Bool.not_eq_true'] at i3
  obtain ⟨kc, q⟩ := Vm.classAt_of_findClass o3
  obtain ⟨kv, q2⟩ := Vm.classAt_of_assignable i3.2 ⟨kc, q⟩
  exact Or.inr ⟨cl, cv, k, kv, kc, _, _, y, o0, o1, o2, q, rfl, i1, i3.1, q2, i3.2⟩
theorem w_anewarrA (O : Ok K l Z a0 ts B ml rt own nm R n0 Q) {i : Nat} {C ad : String} {ty : FieldType} {z : Int32} {n cap cl' sl' : Nat} (hd : decode B pc = .ok (.anewarray i, 3)) (hp : pc + 3 = pc') (hC : (FieldType.array ty).toString = C) (had : "[" ++ C = ad) (w1 : Jvm.Cond.classLink own i C ∈ ts) (w2 : Jvm.Cond.arrayOver (.array ty) ∈ ts) (hz : z.toInt = (n : Int)) (hcap : n ≤ cap) (hb8 : cap * 8 ≤ 536870912) (hc : cl + 1 = cl') (hs : sl + cap = sl') (hc' : cl' ≤ R.cells) (hs' : sl' ≤ R.slots)
    (k : ∀ h' b, b = h.size → n0 ≤ b → Ext h h' → Afn Z h' b (.array ty) n (fun _ => .null) → Exa Z h' b ad → Tk Z h' b C → W K h' cl' sl' pc' L (.ref b :: st)) : W K h cl sl pc L (.int z :: st) := by
  obtain ⟨⟨p, l', e', R'⟩, ⟨s, m, args, below⟩, ⟨meth, c⟩, Q', n0'⟩ := K
  obtain ⟨hx, hby, hml, hown, hnm, hrt, hlk, hZ, hw, hn0, hl', hR', hn', hQ'⟩ := O
  dsimp only at hx hby hml hown hnm hrt hlk hZ hn0 hl' hR' hn' hQ'
  subst hl' hR' hn' hQ'
  subst hp hc hs
  intro T locs X eT N
  obtain ⟨T2, h2, kA, X2, e2, E2, A2, Ex2, Ov2, st2⟩ := newRA X hx hZ hown hC (hw _ w1) (hw _ w2) eT (g := mkF m pc L (.int z :: st)) rfl (hb hby hd) rfl (tnc hz).2 (cap := cap) (by rw [(tnc hz).1]; exact hcap) hb8 hc' hs' had
  have hsz : (newA kA (.array ty) z).slots.size = n := by rw [sz_new, (tnc hz).1]
  have hr := (rng32 z).2
  obtain ⟨ko, cpo, o1, o2, o3⟩ := Ov2
  obtain ⟨s2, o, h1, r⟩ := k h2 h.size rfl (Nat.le_trans hn0 (by rw [← eT]; exact X.same.2.1)) E2 ⟨_, A2, hsz, by omega, fun i hi => by show (Array.replicate z.toNatClampNeg (defaultValue (.array ty)))[i]? = _; rw [Array.getElem?_replicate, if_pos (by rw [(tnc hz).1]; exact hi)]; rfl⟩ Ex2 ⟨_, ko, cpo, _, A2.1, o1, o2, o3⟩ T2 _ X2 e2 N
  exact ⟨s2, o, st2 _ h1, r⟩
theorem w_aastore (O : Ok K l Z a0 ts B ml rt own nm R n0 Q) {a : Addr} {n i : Nat} {f : Nat → Value} {j : Int32} {x : Value} {ty : FieldType} (hd : decode B pc = .ok (.aastore, 1)) (hp : pc + 1 = pc') (A : Afn Z h a ty n f) (hty : ty.isReference = true) (hj : j.toInt = (i : Int)) (hi : i < n) (ha : n0 ≤ a) (St : Sto Z h a x) (k : ∀ h', Wr h h' a i x → W K h' cl sl pc' L st) : W K h cl sl pc L (x :: .int j :: .ref a :: st) := by
  subst hp
  obtain ⟨c, A, h1, h2, h3⟩ := A
  rw [← (tnc hj).1] at k
  exact W.stepW (fun T locs X e => stR X O.1 O.2.2.2.2.2.2.2.1 e A (j := j) (idxOk h1 hj hi) hty St (g := mkF K.2.1.2.1 pc L (x :: .int j :: .ref a :: st)) rfl rfl (hb O.2.1 hd)) (by rw [O.2.2.2.2.2.2.2.2.2.2.2.2.1]; exact ha) k
theorem w_static (O : Ok K l Z a0 ts B ml rt own nm R n0 Q) {i ml' wt cl' sl' : Nat} {y : MethodName} {B' : ByteArray} {rt' : Option FieldType} {rm : Room} {as S : List Value} {Qc : Option Value → Heap → Prop} {sg : MethodDescriptor} (hd : decode B pc = .ok (.invokestatic i, 3)) (hp : pc + 3 = pc') (w1 : Jvm.Cond.methodLink own i y ∈ ts) (w2 : Jvm.Cond.static y ∈ ts) (w3 : Jvm.Cond.initialized y.cls ∈ ts) (w4 : Jvm.Cond.code y B' ml' rt' ∈ ts) (hy : y.cls ≠ "java/lang/invoke/MethodHandle" ∧ y.cls ≠ "java/lang/invoke/VarHandle")
    (con : Con l Z y B' ml' rt' rm as h n0 Qc) (hS : S = as.reverse ++ st) (hsg : parseMethodDescriptor y.desc = some sg) (hlen : as.length = sg.parameters.length) (hwt : (st.map fun v => v.category).sum = wt) (hsz : L.size = ml) (hf : rm.frames + 1 ≤ R.frames) (hl : wt + (ml' + 11) + rm.locals ≤ R.locals) (hc : cl + rm.cells = cl') (hs : sl + rm.slots = sl') (hc' : cl' ≤ R.cells) (hs' : sl' ≤ R.slots) (k : ∀ v h', Qc v h' → W K h' cl' sl' pc' L (v.toList ++ st)) : W K h cl sl pc L S := by
  obtain ⟨⟨p, l', e', R'⟩, ⟨s, m, args, below⟩, ⟨meth, c⟩, Q', n0'⟩ := K
  obtain ⟨hx, hby, hml, hown, hnm, hrt, hlk, hZ, hw, hn0, hl', hR', hn', hQ'⟩ := O
  dsimp only at hx hby hml hown hnm hrt hlk hZ hn0 hl' hR' hn' hQ'
  subst hl' hR' hn' hQ'
  subst hp hc hs hS hml
  intro T locs X eT N
  have hn1 : n0' ≤ h.size := Nat.le_trans hn0 (by rw [← eT]; exact X.same.2.1)
  obtain ⟨_, _, ⟨T', L', k', n'⟩, -, X', ⟨Lc, ⟨hQ, hFr⟩, l1, y1, z1⟩, st1⟩ := Jvm.LawKit.callS X hx (y := y) hown (mvT hZ (hw _ w1)) (mvT hZ (hw _ w2)) (mvT hZ (hw _ w3)) (mvT hZ (hw _ w4)) hy (backOf (W := wt) (Q := fun v h L => Qc v h ∧ Fr n0' L) (con hn1 []) hZ (hw _ w4) (hw _ w3) hf hl) (g := mkF m pc L (as.reverse ++ st)) rfl hsz (argsL := as) (rest := st) (lenOf hsg hlen) rfl (by show 2 * 0 + _ ≤ _; omega) (hb hby hd) (fun _ _ => ⟨rfl, eT, hc', hs'⟩)
  dsimp only [Pt.U, Pt.locs, Pt.cells, Pt.slots] at X' l1 y1 z1 st1 hQ
  subst l1 y1 z1
  obtain ⟨s2, o, h1, r⟩ := k _ T'.heap hQ T' _ X' rfl (Fr.app N hFr)
  exact ⟨s2, o, st1 _ h1, r⟩
theorem w_virtual (O : Ok K l Z a0 ts B ml rt own nm R n0 Q) {i ml' wt cl' sl' : Nat} {y : MethodName} {B' : ByteArray} {rt' : Option FieldType} {rm : Room} {as S : List Value} {Qc : Option Value → Heap → Prop} {sg : MethodDescriptor} {a : Addr} {C : String} (hd : decode B pc = .ok (.invokevirtual i, 3)) (hp : pc + 3 = pc') (w1 : Jvm.Cond.methodLink own i y ∈ ts) (w2 : Jvm.Cond.declares y ∈ ts) (w3 : Jvm.Cond.selects C y y ∈ ts) (w4 : Jvm.Cond.instanceMethod y ∈ ts) (w5 : Jvm.Cond.code y B' ml' rt' ∈ ts) (w6 : Jvm.Cond.initialized y.cls ∈ ts) (hy : y.cls ≠ "java/lang/invoke/MethodHandle" ∧ y.cls ≠ "java/lang/invoke/VarHandle") (E : Exa Z h a C)
    (con : Con l Z y B' ml' rt' rm (.ref a :: as) h n0 Qc) (hS : S = as.reverse ++ .ref a :: st) (hsg : parseMethodDescriptor y.desc = some sg) (hlen : as.length = sg.parameters.length) (hwt : (st.map fun v => v.category).sum = wt) (hsz : L.size = ml) (hf : rm.frames + 1 ≤ R.frames) (hl : wt + (ml' + 11) + rm.locals ≤ R.locals) (hc : cl + rm.cells = cl') (hs : sl + rm.slots = sl') (hc' : cl' ≤ R.cells) (hs' : sl' ≤ R.slots) (k : ∀ v h', Qc v h' → W K h' cl' sl' pc' L (v.toList ++ st)) : W K h cl sl pc L S := by
  obtain ⟨⟨p, l', e', R'⟩, ⟨s, m, args, below⟩, ⟨meth, c⟩, Q', n0'⟩ := K
  obtain ⟨hx, hby, hml, hown, hnm, hrt, hlk, hZ, hw, hn0, hl', hR', hn', hQ'⟩ := O
  dsimp only at hx hby hml hown hnm hrt hlk hZ hn0 hl' hR' hn' hQ'
  subst hl' hR' hn' hQ'
  subst hp hc hs hS hml
  intro T locs X eT N
  have hn1 : n0' ≤ h.size := Nat.le_trans hn0 (by rw [← eT]; exact X.same.2.1)
  obtain ⟨cq, kq, qa, qb, qc⟩ := isOf hZ eT E
  obtain ⟨_, _, ⟨T', L', k', n'⟩, -, X', ⟨Lc, ⟨hQ, hFr⟩, l1, y1, z1⟩, st1⟩ := X.virtualBack hx (y := y) (z := y) hown (mvT hZ (hw _ w1)) (mvT hZ (hw _ w2)) (notFace_of_selects (args := #[]) (mvT hZ (hw _ w3))) (mvT hZ (hw _ w3)) (mvT hZ (hw _ w4)) hy (backOf (W := wt) (Q := fun v h L => Qc v h ∧ Fr n0' L) (con hn1 []) hZ (hw _ w5) (hw _ w6) hf hl) qa qc (g := mkF m pc L (as.reverse ++ .ref a :: st)) rfl hsz (Steps.refl _) (argsL := as) (rest := st) (lenOf hsg hlen) rfl (by show 2 * 0 + _ ≤ _; omega) (hb hby hd) (fun _ _ => ⟨rfl, eT, hc', hs'⟩)
  dsimp only [Pt.U, Pt.locs, Pt.cells, Pt.slots] at X' l1 y1 z1 st1 hQ
  subst l1 y1 z1
  obtain ⟨s2, o, h1, r⟩ := k _ T'.heap hQ T' _ X' rfl (Fr.app N hFr)
  exact ⟨s2, o, st1.trans h1, r⟩
theorem w_private (O : Ok K l Z a0 ts B ml rt own nm R n0 Q) {i ml' wt cl' sl' : Nat} {y : MethodName} {B' : ByteArray} {rt' : Option FieldType} {rm : Room} {as S : List Value} {Qc : Option Value → Heap → Prop} {sg : MethodDescriptor} {kk : Nat} {a : Addr} {C : String} (hd : decode B pc = .ok (.invokevirtual i, 3)) (hp : pc + 3 = pc') (w1 : Jvm.Cond.methodLink own i y ∈ ts) (w2 : Jvm.Cond.instanceMethod y ∈ ts) (w3 : Jvm.Cond.privateMethod y ∈ ts) (w4 : Jvm.Cond.instantiable y.cls kk ∈ ts) (w5 : Jvm.Cond.code y B' ml' rt' ∈ ts) (w6 : Jvm.Cond.initialized y.cls ∈ ts) (hy : y.cls ≠ "java/lang/invoke/MethodHandle" ∧ y.cls ≠ "java/lang/invoke/VarHandle") (E : Exa Z h a C)
    (con : Con l Z y B' ml' rt' rm (.ref a :: as) h n0 Qc) (hS : S = as.reverse ++ .ref a :: st) (hsg : parseMethodDescriptor y.desc = some sg) (hlen : as.length = sg.parameters.length) (hwt : (st.map fun v => v.category).sum = wt) (hsz : L.size = ml) (hf : rm.frames + 1 ≤ R.frames) (hl : wt + (ml' + 11) + rm.locals ≤ R.locals) (hc : cl + rm.cells = cl') (hs : sl + rm.slots = sl') (hc' : cl' ≤ R.cells) (hs' : sl' ≤ R.slots) (k : ∀ v h', Qc v h' → W K h' cl' sl' pc' L (v.toList ++ st)) : W K h cl sl pc L S := by
  obtain ⟨⟨p, l', e', R'⟩, ⟨s, m, args, below⟩, ⟨meth, c⟩, Q', n0'⟩ := K
  obtain ⟨hx, hby, hml, hown, hnm, hrt, hlk, hZ, hw, hn0, hl', hR', hn', hQ'⟩ := O
  dsimp only at hx hby hml hown hnm hrt hlk hZ hn0 hl' hR' hn' hQ'
  subst hl' hR' hn' hQ'
  subst hp hc hs hS hml
  intro T locs X eT N
  have hn1 : n0' ≤ h.size := Nat.le_trans hn0 (by rw [← eT]; exact X.same.2.1)
  obtain ⟨cq, q1, q2⟩ := E.cell
  have hpr : s.PrivateAt y := Cond.privateMethod_at (mvP hZ (hw _ w3) (args := #[]))
  have hsel : (Jvm.Cond.selects y.cls y y).before args s = true := by
    obtain ⟨c1, k1, g1, g2, -, g3, -⟩ := Cond.instantiable_spec (mvT (args := args) hZ (hw _ w4))
    exact selects_self_of_private g1 g2 (by simp at g3; exact g3.1) hpr (mvT hZ (hw _ w2)) hy
  obtain ⟨_, _, ⟨T', L', k', n'⟩, -, X', ⟨Lc, ⟨hQ, hFr⟩, l1, y1, z1⟩, st1⟩ := X.privateBack hx (y := y) hown (mvT hZ (hw _ w1)) (mvT hZ (hw _ w2)) hsel hpr (mvT hZ (hw _ w5)) hy (backOf (W := wt) (Q := fun v h L => Qc v h ∧ Fr n0' L) (con hn1 []) hZ (hw _ w5) (hw _ w6) hf hl) (g := mkF m pc L (as.reverse ++ .ref a :: st)) rfl hsz (Steps.refl _) (a := a) (by rw [eT]; exact q1) q2 (argsL := as) (rest := st) (lenOf hsg hlen) rfl (by show 2 * 0 + _ ≤ _; omega) (hb hby hd) (fun _ _ => ⟨rfl, eT, hc', hs'⟩)
  dsimp only [Pt.U, Pt.locs, Pt.cells, Pt.slots] at X' l1 y1 z1 st1 hQ
  subst l1 y1 z1
  obtain ⟨s2, o, h1, r⟩ := k _ T'.heap hQ T' _ X' rfl (Fr.app N hFr)
  exact ⟨s2, o, st1.trans h1, r⟩
theorem w_init (O : Ok K l Z a0 ts B ml rt own nm R n0 Q) {i ml' wt cl' sl' : Nat} {y : MethodName} {B' : ByteArray} {rm : Room} {as S : List Value} {Qc : Option Value → Heap → Prop} {sg : MethodDescriptor} {a : Addr} (hd : decode B pc = .ok (.invokespecial i, 3)) (hp : pc + 3 = pc') (hin : y.name = "<init>") (w1 : Jvm.Cond.methodLink own i y ∈ ts) (w2 : Jvm.Cond.instanceMethod y ∈ ts) (w3 : Jvm.Cond.initialized y.cls ∈ ts) (w4 : Jvm.Cond.code y B' ml' none ∈ ts) (hy : y.cls ≠ "java/lang/invoke/MethodHandle" ∧ y.cls ≠ "java/lang/invoke/VarHandle")
    (con : Con l Z y B' ml' none rm (.ref a :: as) h n0 Qc) (hS : S = as.reverse ++ .ref a :: st) (hsg : parseMethodDescriptor y.desc = some sg) (hlen : as.length = sg.parameters.length) (hwt : (st.map fun v => v.category).sum = wt) (hsz : L.size = ml) (hf : rm.frames + 1 ≤ R.frames) (hl : wt + (ml' + 11) + rm.locals ≤ R.locals) (hc : cl + rm.cells = cl') (hs : sl + rm.slots = sl') (hc' : cl' ≤ R.cells) (hs' : sl' ≤ R.slots) (k : ∀ v h', Qc v h' → W K h' cl' sl' pc' L (v.toList ++ st)) : W K h cl sl pc L S := by
  obtain ⟨⟨p, l', e', R'⟩, ⟨s, m, args, below⟩, ⟨meth, c⟩, Q', n0'⟩ := K
  obtain ⟨hx, hby, hml, hown, hnm, hrt, hlk, hZ, hw, hn0, hl', hR', hn', hQ'⟩ := O
  dsimp only at hx hby hml hown hnm hrt hlk hZ hn0 hl' hR' hn' hQ'
  subst hl' hR' hn' hQ'
  subst hp hc hs hS hml
  intro T locs X eT N
  have hn1 : n0' ≤ h.size := Nat.le_trans hn0 (by rw [← eT]; exact X.same.2.1)
  obtain ⟨_, _, ⟨T', L', k', n'⟩, -, X', ⟨Lc, ⟨hQ, hFr⟩, l1, y1, z1⟩, st1⟩ := X.specialBack hx (y := y) hin hown (mvT hZ (hw _ w1)) (mvT hZ (hw _ w2)) (mvT hZ (hw _ w4)) hy (backOf (W := wt) (Q := fun v h L => Qc v h ∧ Fr n0' L) (con hn1 []) hZ (hw _ w4) (hw _ w3) hf hl) (g := mkF m pc L (as.reverse ++ .ref a :: st)) rfl hsz (Steps.refl _) (a := a) (argsL := as) (rest := st) (lenOf hsg hlen) rfl (by show 2 * 0 + _ ≤ _; omega) (hb hby hd) (fun _ _ => ⟨rfl, eT, hc', hs'⟩)
  dsimp only [Pt.U, Pt.locs, Pt.cells, Pt.slots] at X' l1 y1 z1 st1 hQ
  subst l1 y1 z1
  obtain ⟨s2, o, h1, r⟩ := k _ T'.heap hQ T' _ X' rfl (Fr.app N hFr)
  exact ⟨s2, o, st1.trans h1, r⟩
theorem w_initB (O : Ok K l Z a0 ts B ml rt own nm R n0 Q) {i ml' wt cl' sl' rc rs : Nat} {y : MethodName} {B' : ByteArray} {as S : List Value} {Qc : Option Value → Heap → List Loc → Prop} {sg : MethodDescriptor} {a : Addr} (hd : decode B pc = .ok (.invokespecial i, 3)) (hp : pc + 3 = pc') (hin : y.name = "<init>") (w1 : Jvm.Cond.methodLink own i y ∈ ts) (w2 : Jvm.Cond.instanceMethod y ∈ ts) (w4 : Jvm.Cond.code y B' ml' none ∈ ts) (hy : y.cls ≠ "java/lang/invoke/MethodHandle" ∧ y.cls ≠ "java/lang/invoke/VarHandle")
    (bk : n0 ≤ h.size → ∀ (p : Program) (e : Env) (below : List Frame) (s : State) (args : Array Value), Z.Warmed39 s.vm → Back l R p e below s args y 3 wt (fun P a' => a' = (Value.ref a :: as).toArray ∧ P.U.heap = h ∧ P.cells + rc ≤ R.cells ∧ P.slots + rs ≤ R.slots) (fun P _ v B => ∃ L, Qc v B.U.heap L ∧ B.locs = P.locs ++ L ∧ B.cells = P.cells + rc ∧ B.slots = P.slots + rs)) (hfr : ∀ v h' L, Qc v h' L → Fr n0 L)
    (hS : S = as.reverse ++ .ref a :: st) (hsg : parseMethodDescriptor y.desc = some sg) (hlen : as.length = sg.parameters.length) (hwt : (st.map fun v => v.category).sum = wt) (hsz : L.size = ml) (hc : cl + rc = cl') (hs : sl + rs = sl') (hc' : cl' ≤ R.cells) (hs' : sl' ≤ R.slots) (k : ∀ v h' Ls, Qc v h' Ls → W K h' cl' sl' pc' L (v.toList ++ st)) : W K h cl sl pc L S := by
  obtain ⟨⟨p, l', e', R'⟩, ⟨s, m, args, below⟩, ⟨meth, c⟩, Q', n0'⟩ := K
  obtain ⟨hx, hby, hml, hown, hnm, hrt, hlk, hZ, hw, hn0, hl', hR', hn', hQ'⟩ := O
  dsimp only at hx hby hml hown hnm hrt hlk hZ hn0 hl' hR' hn' hQ'
  subst hl' hR' hn' hQ'
  subst hp hc hs hS hml
  intro T locs X eT N
  have hn1 : n0' ≤ h.size := Nat.le_trans hn0 (by rw [← eT]; exact X.same.2.1)
  obtain ⟨_, _, ⟨T', L', k', n'⟩, -, X', ⟨Lc, hQ, l1, y1, z1⟩, st1⟩ := X.specialBack hx (y := y) hin hown (mvT hZ (hw _ w1)) (mvT hZ (hw _ w2)) (mvT hZ (hw _ w4)) hy (bk hn1 p e' below s args hZ) (g := mkF m pc L (as.reverse ++ .ref a :: st)) rfl hsz (Steps.refl _) (a := a) (argsL := as) (rest := st) (lenOf hsg hlen) rfl (by show 2 * 0 + _ ≤ _; omega) (hb hby hd) (fun _ _ => ⟨rfl, eT, hc', hs'⟩)
  dsimp only [Pt.U, Pt.locs, Pt.cells, Pt.slots] at X' l1 y1 z1 st1 hQ
  subst l1 y1 z1
  obtain ⟨s2, o, h1, r⟩ := k _ T'.heap _ hQ T' _ X' rfl (Fr.app N (hfr _ _ _ hQ))
  exact ⟨s2, o, st1.trans h1, r⟩
theorem Afn.arv {a : Addr} {ty : FieldType} {n : Nat} {f : Nat → Value} {N : Int32} {vs : List Value} {d : Value} (A : Afn Z h a ty n f) (hN : N.toInt = (n : Int)) (hv : ∀ i, i < n → vs.getD i d = f i) (hf : ∀ i, i < n → fits ty (f i) = true) : ∃ k, Arv Z h a k ty N vs d := by
  obtain ⟨c, A, h1, h2, h3⟩ := A
  refine ⟨c.cls, c, A, rfl, by rw [h1, (tnc hN).1], (tnc hN).2, fun i hi => ?_, fun i hi => ?_⟩
  · rw [h1] at hi; rw [hv i hi]; exact h3 i hi
  · rw [h1] at hi; rw [hv i hi]; exact hf i hi
theorem w_reti {x : Int32} (O : Ok K l Z a0 ts B ml (some .int) own nm R n0 Q) (hd : decode B pc = .ok (.ireturn, 1)) (hc : cl ≤ R.cells) (hs : sl ≤ R.slots) (hq : Q (some (.int x)) h) : W K h cl sl pc L (.int x :: st) := by
  obtain ⟨⟨p, l', e', R'⟩, ⟨s, m, args, below⟩, ⟨meth, c⟩, Q', n0'⟩ := K
  obtain ⟨hx, hby, hml, hown, hnm, hrt, hlk, hZ, hw, hn0, hl', hR', hn', hQ'⟩ := O
  dsimp only at hx hby hml hown hnm hrt hlk hZ hn0 hl' hR' hn' hQ'
  subst hl' hR' hn' hQ'
  intro T locs X eT N
  obtain ⟨fs, hr, hrun, hended, hW, hsame⟩ := X.leave (v := some (.int x)) (fun q => by rw [hrt] at q; cases q) hlk
  refine ⟨_, _, retOut X hx hrt rfl (Or.inl ⟨rfl, Or.inl rfl, _, rfl⟩) (hb hby hd) hr, hrun, hended, _, _, rfl, ⟨?_, N⟩, ⟨_, rfl⟩, hW, hsame.mono hc hs⟩
  show Q' _ T.heap
  rw [eT]; exact hq
theorem w_retz {x : Int32} (O : Ok K l Z a0 ts B ml (some .boolean) own nm R n0 Q) (hd : decode B pc = .ok (.ireturn, 1)) (hc : cl ≤ R.cells) (hs : sl ≤ R.slots) (hz : x = 0 ∨ x = 1) (hq : Q (some (.int x)) h) : W K h cl sl pc L (.int x :: st) := by
  have hna : narrow .boolean (.int x) = .int x := by rcases hz with rfl | rfl <;> rfl
  obtain ⟨⟨p, l', e', R'⟩, ⟨s, m, args, below⟩, ⟨meth, c⟩, Q', n0'⟩ := K
  obtain ⟨hx, hby, hml, hown, hnm, hrt, hlk, hZ, hw, hn0, hl', hR', hn', hQ'⟩ := O
  dsimp only at hx hby hml hown hnm hrt hlk hZ hn0 hl' hR' hn' hQ'
  subst hl' hR' hn' hQ'
  intro T locs X eT N
  obtain ⟨fs, hr, hrun, hended, hW, hsame⟩ := X.leave (v := some (.int x)) (fun q => by rw [hrt] at q; cases q) hlk
  refine ⟨_, _, retOut X hx hrt hna (Or.inl ⟨rfl, Or.inr (Or.inl rfl), _, rfl⟩) (hb hby hd) hr, hrun, hended, _, _, rfl, ⟨?_, N⟩, ⟨_, rfl⟩, hW, hsame.mono hc hs⟩
  show Q' _ T.heap
  rw [eT]; exact hq
theorem w_retl {x : Int64} (O : Ok K l Z a0 ts B ml (some .long) own nm R n0 Q) (hd : decode B pc = .ok (.lreturn, 1)) (hc : cl ≤ R.cells) (hs : sl ≤ R.slots) (hq : Q (some (.long x)) h) : W K h cl sl pc L (.long x :: st) := by
  obtain ⟨⟨p, l', e', R'⟩, ⟨s, m, args, below⟩, ⟨meth, c⟩, Q', n0'⟩ := K
  obtain ⟨hx, hby, hml, hown, hnm, hrt, hlk, hZ, hw, hn0, hl', hR', hn', hQ'⟩ := O
  dsimp only at hx hby hml hown hnm hrt hlk hZ hn0 hl' hR' hn' hQ'
  subst hl' hR' hn' hQ'
  intro T locs X eT N
  obtain ⟨fs, hr, hrun, hended, hW, hsame⟩ := X.leave (v := some (.long x)) (fun q => by rw [hrt] at q; cases q) hlk
  refine ⟨_, _, retOut X hx hrt rfl (Or.inr (Or.inl ⟨rfl, rfl, _, rfl⟩)) (hb hby hd) hr, hrun, hended, _, _, rfl, ⟨?_, N⟩, ⟨_, rfl⟩, hW, hsame.mono hc hs⟩
  show Q' _ T.heap
  rw [eT]; exact hq
theorem w_reta {x : Value} {t : FieldType} (O : Ok K l Z a0 ts B ml (some t) own nm R n0 Q) (hd : decode B pc = .ok (.areturn, 1)) (ht : t.isReference = true) (hna : narrow t x = x) (hx' : x.isRef = true) (hc : cl ≤ R.cells) (hs : sl ≤ R.slots) (hq : Q (some x) h) : W K h cl sl pc L (x :: st) := by
  obtain ⟨⟨p, l', e', R'⟩, ⟨s, m, args, below⟩, ⟨meth, c⟩, Q', n0'⟩ := K
  obtain ⟨hx, hby, hml, hown, hnm, hrt, hlk, hZ, hw, hn0, hl', hR', hn', hQ'⟩ := O
  dsimp only at hx hby hml hown hnm hrt hlk hZ hn0 hl' hR' hn' hQ'
  subst hl' hR' hn' hQ'
  intro T locs X eT N
  obtain ⟨fs, hr, hrun, hended, hW, hsame⟩ := X.leave (v := some x) (fun q => by rw [hrt] at q; cases q) hlk
  refine ⟨_, _, retOut X hx hrt hna (Or.inr (Or.inr (Or.inr (Or.inr ⟨rfl, ht, hx'⟩)))) (hb hby hd) hr, hrun, hended, _, _, rfl, ⟨?_, N⟩, ⟨_, rfl⟩, hW, hsame.mono hc hs⟩
  show Q' _ T.heap
  rw [eT]; exact hq
theorem w_retv (O : Ok K l Z a0 ts B ml none own nm R n0 Q) (hd : decode B pc = .ok (.return_, 1)) (hc : cl ≤ R.cells) (hs : sl ≤ R.slots) (hq : Q none h) : W K h cl sl pc L [] := by
  obtain ⟨⟨p, l', e', R'⟩, ⟨s, m, args, below⟩, ⟨meth, c⟩, Q', n0'⟩ := K
  obtain ⟨hx, hby, hml, hown, hnm, hrt, hlk, hZ, hw, hn0, hl', hR', hn', hQ'⟩ := O
  dsimp only at hx hby hml hown hnm hrt hlk hZ hn0 hl' hR' hn' hQ'
  subst hl' hR' hn' hQ'
  intro T locs X eT N
  obtain ⟨fs, hr, hrun, hended, hW, hsame⟩ := X.leave (v := none) (fun _ => rfl) hlk
  refine ⟨_, _, X.returnOut hx hrt (hb hby hd) hr, hrun, hended, _, _, rfl, ⟨?_, N⟩, ⟨_, rfl⟩, hW, hsame.mono hc hs⟩
  show Q' _ T.heap
  rw [eT]; exact hq
theorem nz32 {y : Int32} (q : ¬ y.toInt = 0) : y ≠ 0 := by rintro rfl; exact q (by decide)
theorem nz64 {y : Int64} (q : ¬ y.toInt = 0) : y ≠ 0 := by rintro rfl; exact q (by decide)
theorem of_nat32 {q : Int32} {n : Nat} (hn : q.toInt = (n : Int)) : q = Int32.ofNat n := by
  have h1 := rng32 q
  apply Int32.toInt_inj.mp
  rw [hn, Int32.toInt_ofNat_of_lt (by omega)]
theorem c_lremP (x y : Int64) (d : Int) (hy : y.toInt = d) : (0 ≤ x.toInt → (x % y).toInt = x.toInt % d) ∧ (x.toInt < 0 → (x % y).toInt = -((-x.toInt) % d)) := by rw [← lrem_mod]; exact c_lrem x y d hy
end OwnW

theorem mw {d : Jvm.Cond} (k : Nat) (q : tables_1[k]? = some d) : d ∈ tables_1 := List.mem_of_getElem? q
def updI (g : Nat → Int32) (i : Nat) (v : Int32) : Nat → Int32 := fun j => if j = i then v else g j
theorem updI_eq (g : Nat → Int32) (i : Nat) (v : Int32) (j : Nat) : upd (fun j => .int (g j)) i (.int v) j = .int (updI g i v j) := by unfold upd updI; split <;> rfl
def Two (s t : Slot) : Prop := (s = .unset ∧ t = .unset) ∨ ∃ y, s = .val (.long y) ∧ t = .second
/-- L is the number of decimal digits of M -/
def Dg (M L : Nat) : Prop := 1 ≤ L ∧ L ≤ 19 ∧ M < 10 ^ L ∧ (L = 1 ∨ 10 ^ (L - 1) ≤ M)
theorem Dg.uniq {M L L' : Nat} (h : Dg M L) (h' : Dg M L') : L = L' := by
  obtain ⟨a1, a2, a3, a4⟩ := h
  obtain ⟨b1, b2, b3, b4⟩ := h'
  rcases Nat.lt_trichotomy L L' with q | q | q
  · rcases b4 with b4 | b4
    · omega
    · have := Nat.pow_le_pow_right (show 0 < 10 by decide) (show L ≤ L' - 1 by omega); omega
  · exact q
  · rcases a4 with a4 | a4
    · omega
    · have := Nat.pow_le_pow_right (show 0 < 10 by decide) (show L' ≤ L - 1 by omega); omega
def SgOf (v : Int64) (M sg : Nat) : Prop := (v.toInt < 0 ∧ sg = 1 ∧ v.toInt = -(M : Int)) ∨ (¬ v.toInt < 0 ∧ sg = 0 ∧ v.toInt = (M : Int))
theorem SgOf.b {v : Int64} {M sg : Nat} (h : SgOf v M sg) : sg ≤ 1 ∧ M ≤ 9223372036854775808 := by
  have r := rng64 v
  unfold SgOf at h; omega
theorem SgOf.uniq {v : Int64} {M sg M' sg' : Nat} (h : SgOf v M sg) (h' : SgOf v M' sg') : M = M' ∧ sg = sg' := by
  unfold SgOf at h h'; omega
theorem nar_b (y : Int32) : nar .byte (y.toInt8.toInt32) = y.toInt8.toInt32 := by
  show (y.toInt8.toInt32).toInt8.toInt32 = _
  simp
theorem pow10_pos : ∀ k : Nat, 0 < 10 ^ k
  | 0 => by decide
  | k + 1 => by have := pow10_pos k; rw [Nat.pow_succ]; omega
theorem div_step (M t : Nat) : M / 10 ^ (t + 1) = M / 10 ^ t / 10 := by rw [Nat.pow_succ, Nat.div_div_eq_div_mul]
theorem own_digit (r4 tn : Int64) (X : Nat) (hr : r4.toInt = -(X : Int)) (hX : X ≤ 9223372036854775808) (ht : tn = r4 / (10 : Int64)) : tn.toInt = -((X / 10 : Nat) : Int) ∧ (((((48 : Int64) + (tn * (10 : Int64))) - r4).toInt32).toInt8.toInt32).toInt = 48 + ((X % 10 : Nat) : Int) := by
  have i4 : (0 ≤ r4.toInt → (r4 / (10 : Int64)).toInt = r4.toInt / 10) ∧ (r4.toInt < 0 → (r4 / (10 : Int64)).toInt = -((-r4.toInt) / 10)) := c_ldiv r4 (10 : Int64) 10 (by decide) (by decide)
  have h1 : tn.toInt = -((X / 10 : Nat) : Int) := by
    rw [ht]
    by_cases q : r4.toInt < 0
    · rw [i4.2 q]; clear i4; omega
    · rw [i4.1 (by omega)]; clear i4; omega
  clear i4 ht
  have h2 : (tn * (10 : Int64)).toInt = -(10 * ((X / 10 : Nat) : Int)) := by
    have m : ((tn * (10 : Int64)).toInt - (tn.toInt * 10)) % 18446744073709551616 = 0 := c_lmul tn (10 : Int64)
    have r := rng64 (tn * (10 : Int64))
    omega
  have h3 : ((48 : Int64) + (tn * (10 : Int64))).toInt = 48 - 10 * ((X / 10 : Nat) : Int) := by
    have m : (((48 : Int64) + (tn * (10 : Int64))).toInt - (48 + (tn * (10 : Int64)).toInt)) % 18446744073709551616 = 0 := c_ladd (48 : Int64) (tn * (10 : Int64))
    have r := rng64 ((48 : Int64) + (tn * (10 : Int64)))
    omega
  have h4 : (((48 : Int64) + (tn * (10 : Int64))) - r4).toInt = 48 + ((X % 10 : Nat) : Int) := by
    have m : ((((48 : Int64) + (tn * (10 : Int64))) - r4).toInt - (((48 : Int64) + (tn * (10 : Int64))).toInt - r4.toInt)) % 18446744073709551616 = 0 := c_lsub ((48 : Int64) + (tn * (10 : Int64))) r4
    have r := rng64 (((48 : Int64) + (tn * (10 : Int64))) - r4)
    omega
  clear h2 h3
  have h5 : ((((48 : Int64) + (tn * (10 : Int64))) - r4).toInt32).toInt = 48 + ((X % 10 : Nat) : Int) := by
    have m := c_l2i (((48 : Int64) + (tn * (10 : Int64))) - r4)
    have r := rng32 ((((48 : Int64) + (tn * (10 : Int64))) - r4).toInt32)
    omega
  refine ⟨h1, ?_⟩
  have m := c_i2b ((((48 : Int64) + (tn * (10 : Int64))) - r4).toInt32)
  omega
theorem own_pl (pl pl' : Int32) (a sg k t d : Nat) (e : pl' = pl + (-1 : Int32)) (h : pl.toInt = (a : Int) + sg + k - 1 - t) (htk : t + (d + 1) = k) (hk : k ≤ 19) (ha : a ≤ 7) (hsg : sg ≤ 1) : pl'.toInt = (a : Int) + sg + k - 1 - ((t + 1 : Nat) : Int) := by
  have e2 : pl' = pl - 1 := by rw [e, Int32.sub_eq_add_neg]
  clear e
  have i : ((pl - (1 : Int32)).toInt - (pl.toInt - 1)) % 4294967296 = 0 := c_isub pl (1 : Int32)
  have r := rng32 (pl - 1)
  have j := congrArg Int32.toInt e2
  omega
theorem d1_0 : decode method_2_code 0 = .ok (.lload_n 0, 1) := by decide +kernel
theorem d1_1 : decode method_2_code 1 = .ok (.ldc2_w 7, 3) := by decide +kernel
theorem d1_4 : decode method_2_code 4 = .ok (.lcmp, 1) := by decide +kernel
theorem d1_5 : decode method_2_code 5 = .ok (.ifCond .le 5, 3) := by decide +kernel
theorem d1_8 : decode method_2_code 8 = .ok (.iconst 1, 1) := by decide +kernel
theorem d1_9 : decode method_2_code 9 = .ok (.ireturn, 1) := by decide +kernel
theorem d1_10 : decode method_2_code 10 = .ok (.lload_n 0, 1) := by decide +kernel
theorem d1_11 : decode method_2_code 11 = .ok (.ldc2_w 9, 3) := by decide +kernel
theorem d1_14 : decode method_2_code 14 = .ok (.lcmp, 1) := by decide +kernel
theorem d1_15 : decode method_2_code 15 = .ok (.ifCond .le 5, 3) := by decide +kernel
theorem d1_18 : decode method_2_code 18 = .ok (.iconst 2, 1) := by decide +kernel
theorem d1_19 : decode method_2_code 19 = .ok (.ireturn, 1) := by decide +kernel
theorem d1_20 : decode method_2_code 20 = .ok (.lload_n 0, 1) := by decide +kernel
theorem d1_21 : decode method_2_code 21 = .ok (.ldc2_w 11, 3) := by decide +kernel
theorem d1_24 : decode method_2_code 24 = .ok (.lcmp, 1) := by decide +kernel
theorem d1_25 : decode method_2_code 25 = .ok (.ifCond .le 5, 3) := by decide +kernel
theorem d1_28 : decode method_2_code 28 = .ok (.iconst 3, 1) := by decide +kernel
theorem d1_29 : decode method_2_code 29 = .ok (.ireturn, 1) := by decide +kernel
theorem d1_30 : decode method_2_code 30 = .ok (.lload_n 0, 1) := by decide +kernel
theorem d1_31 : decode method_2_code 31 = .ok (.ldc2_w 13, 3) := by decide +kernel
theorem d1_34 : decode method_2_code 34 = .ok (.lcmp, 1) := by decide +kernel
theorem d1_35 : decode method_2_code 35 = .ok (.ifCond .le 5, 3) := by decide +kernel
theorem d1_38 : decode method_2_code 38 = .ok (.iconst 4, 1) := by decide +kernel
theorem d1_39 : decode method_2_code 39 = .ok (.ireturn, 1) := by decide +kernel
theorem d1_40 : decode method_2_code 40 = .ok (.lload_n 0, 1) := by decide +kernel
theorem d1_41 : decode method_2_code 41 = .ok (.ldc2_w 15, 3) := by decide +kernel
theorem d1_44 : decode method_2_code 44 = .ok (.lcmp, 1) := by decide +kernel
theorem d1_45 : decode method_2_code 45 = .ok (.ifCond .le 5, 3) := by decide +kernel
theorem d1_48 : decode method_2_code 48 = .ok (.iconst 5, 1) := by decide +kernel
theorem d1_49 : decode method_2_code 49 = .ok (.ireturn, 1) := by decide +kernel
theorem d1_50 : decode method_2_code 50 = .ok (.lload_n 0, 1) := by decide +kernel
theorem d1_51 : decode method_2_code 51 = .ok (.ldc2_w 17, 3) := by decide +kernel
theorem d1_54 : decode method_2_code 54 = .ok (.lcmp, 1) := by decide +kernel
theorem d1_55 : decode method_2_code 55 = .ok (.ifCond .le 6, 3) := by decide +kernel
theorem d1_58 : decode method_2_code 58 = .ok (.bipush 6, 2) := by decide +kernel
theorem d1_60 : decode method_2_code 60 = .ok (.ireturn, 1) := by decide +kernel
theorem d1_61 : decode method_2_code 61 = .ok (.lload_n 0, 1) := by decide +kernel
theorem d1_62 : decode method_2_code 62 = .ok (.ldc2_w 19, 3) := by decide +kernel
theorem d1_65 : decode method_2_code 65 = .ok (.lcmp, 1) := by decide +kernel
theorem d1_66 : decode method_2_code 66 = .ok (.ifCond .le 6, 3) := by decide +kernel
theorem d1_69 : decode method_2_code 69 = .ok (.bipush 7, 2) := by decide +kernel
theorem d1_71 : decode method_2_code 71 = .ok (.ireturn, 1) := by decide +kernel
theorem d1_72 : decode method_2_code 72 = .ok (.lload_n 0, 1) := by decide +kernel
theorem d1_73 : decode method_2_code 73 = .ok (.ldc2_w 21, 3) := by decide +kernel
theorem d1_76 : decode method_2_code 76 = .ok (.lcmp, 1) := by decide +kernel
theorem d1_77 : decode method_2_code 77 = .ok (.ifCond .le 6, 3) := by decide +kernel
theorem d1_80 : decode method_2_code 80 = .ok (.bipush 8, 2) := by decide +kernel
theorem d1_82 : decode method_2_code 82 = .ok (.ireturn, 1) := by decide +kernel
theorem d1_83 : decode method_2_code 83 = .ok (.lload_n 0, 1) := by decide +kernel
theorem d1_84 : decode method_2_code 84 = .ok (.ldc2_w 23, 3) := by decide +kernel
theorem d1_87 : decode method_2_code 87 = .ok (.lcmp, 1) := by decide +kernel
theorem d1_88 : decode method_2_code 88 = .ok (.ifCond .le 6, 3) := by decide +kernel
theorem d1_91 : decode method_2_code 91 = .ok (.bipush 9, 2) := by decide +kernel
theorem d1_93 : decode method_2_code 93 = .ok (.ireturn, 1) := by decide +kernel
theorem d1_94 : decode method_2_code 94 = .ok (.lload_n 0, 1) := by decide +kernel
theorem d1_95 : decode method_2_code 95 = .ok (.ldc2_w 25, 3) := by decide +kernel
theorem d1_98 : decode method_2_code 98 = .ok (.lcmp, 1) := by decide +kernel
theorem d1_99 : decode method_2_code 99 = .ok (.ifCond .le 6, 3) := by decide +kernel
theorem d1_102 : decode method_2_code 102 = .ok (.bipush 10, 2) := by decide +kernel
theorem d1_104 : decode method_2_code 104 = .ok (.ireturn, 1) := by decide +kernel
theorem d1_105 : decode method_2_code 105 = .ok (.lload_n 0, 1) := by decide +kernel
theorem d1_106 : decode method_2_code 106 = .ok (.ldc2_w 27, 3) := by decide +kernel
theorem d1_109 : decode method_2_code 109 = .ok (.lcmp, 1) := by decide +kernel
theorem d1_110 : decode method_2_code 110 = .ok (.ifCond .le 6, 3) := by decide +kernel
theorem d1_113 : decode method_2_code 113 = .ok (.bipush 11, 2) := by decide +kernel
theorem d1_115 : decode method_2_code 115 = .ok (.ireturn, 1) := by decide +kernel
theorem d1_116 : decode method_2_code 116 = .ok (.lload_n 0, 1) := by decide +kernel
theorem d1_117 : decode method_2_code 117 = .ok (.ldc2_w 29, 3) := by decide +kernel
theorem d1_120 : decode method_2_code 120 = .ok (.lcmp, 1) := by decide +kernel
theorem d1_121 : decode method_2_code 121 = .ok (.ifCond .le 6, 3) := by decide +kernel
theorem d1_124 : decode method_2_code 124 = .ok (.bipush 12, 2) := by decide +kernel
theorem d1_126 : decode method_2_code 126 = .ok (.ireturn, 1) := by decide +kernel
theorem d1_127 : decode method_2_code 127 = .ok (.lload_n 0, 1) := by decide +kernel
theorem d1_128 : decode method_2_code 128 = .ok (.ldc2_w 31, 3) := by decide +kernel
theorem d1_131 : decode method_2_code 131 = .ok (.lcmp, 1) := by decide +kernel
theorem d1_132 : decode method_2_code 132 = .ok (.ifCond .le 6, 3) := by decide +kernel
theorem d1_135 : decode method_2_code 135 = .ok (.bipush 13, 2) := by decide +kernel
theorem d1_137 : decode method_2_code 137 = .ok (.ireturn, 1) := by decide +kernel
theorem d1_138 : decode method_2_code 138 = .ok (.lload_n 0, 1) := by decide +kernel
theorem d1_139 : decode method_2_code 139 = .ok (.ldc2_w 33, 3) := by decide +kernel
theorem d1_142 : decode method_2_code 142 = .ok (.lcmp, 1) := by decide +kernel
theorem d1_143 : decode method_2_code 143 = .ok (.ifCond .le 6, 3) := by decide +kernel
theorem d1_146 : decode method_2_code 146 = .ok (.bipush 14, 2) := by decide +kernel
theorem d1_148 : decode method_2_code 148 = .ok (.ireturn, 1) := by decide +kernel
theorem d1_149 : decode method_2_code 149 = .ok (.lload_n 0, 1) := by decide +kernel
theorem d1_150 : decode method_2_code 150 = .ok (.ldc2_w 35, 3) := by decide +kernel
theorem d1_153 : decode method_2_code 153 = .ok (.lcmp, 1) := by decide +kernel
theorem d1_154 : decode method_2_code 154 = .ok (.ifCond .le 6, 3) := by decide +kernel
theorem d1_157 : decode method_2_code 157 = .ok (.bipush 15, 2) := by decide +kernel
theorem d1_159 : decode method_2_code 159 = .ok (.ireturn, 1) := by decide +kernel
theorem d1_160 : decode method_2_code 160 = .ok (.lload_n 0, 1) := by decide +kernel
theorem d1_161 : decode method_2_code 161 = .ok (.ldc2_w 37, 3) := by decide +kernel
theorem d1_164 : decode method_2_code 164 = .ok (.lcmp, 1) := by decide +kernel
theorem d1_165 : decode method_2_code 165 = .ok (.ifCond .le 6, 3) := by decide +kernel
theorem d1_168 : decode method_2_code 168 = .ok (.bipush 16, 2) := by decide +kernel
theorem d1_170 : decode method_2_code 170 = .ok (.ireturn, 1) := by decide +kernel
theorem d1_171 : decode method_2_code 171 = .ok (.lload_n 0, 1) := by decide +kernel
theorem d1_172 : decode method_2_code 172 = .ok (.ldc2_w 39, 3) := by decide +kernel
theorem d1_175 : decode method_2_code 175 = .ok (.lcmp, 1) := by decide +kernel
theorem d1_176 : decode method_2_code 176 = .ok (.ifCond .le 6, 3) := by decide +kernel
theorem d1_179 : decode method_2_code 179 = .ok (.bipush 17, 2) := by decide +kernel
theorem d1_181 : decode method_2_code 181 = .ok (.ireturn, 1) := by decide +kernel
theorem d1_182 : decode method_2_code 182 = .ok (.lload_n 0, 1) := by decide +kernel
theorem d1_183 : decode method_2_code 183 = .ok (.ldc2_w 41, 3) := by decide +kernel
theorem d1_186 : decode method_2_code 186 = .ok (.lcmp, 1) := by decide +kernel
theorem d1_187 : decode method_2_code 187 = .ok (.ifCond .le 6, 3) := by decide +kernel
theorem d1_190 : decode method_2_code 190 = .ok (.bipush 18, 2) := by decide +kernel
theorem d1_192 : decode method_2_code 192 = .ok (.ireturn, 1) := by decide +kernel
theorem d1_193 : decode method_2_code 193 = .ok (.bipush 19, 2) := by decide +kernel
theorem d1_195 : decode method_2_code 195 = .ok (.ireturn, 1) := by decide +kernel
theorem pn_1 : plainFor (⟨"com/example/lean_crowd/leancrowd/output/DecimalsPutPinLaw", "digitCount", "(J)I"⟩ : MethodName) = true := plainFor_of_name (by first | (simp [plainName, overriddenIn]; done) | decide +kernel)
set_option maxRecDepth 65536 in
set_option maxHeartbeats 40000000 in
theorem con_dc (l : Launch) (Z : State) (a0 : Array Value) (hw : ∀ d ∈ tables_1, d.before a0 Z = true) (n : Int64) (h0 : Heap) (n0 : Nat) (M : Nat) (hM : n.toInt = -(M : Int)) :
    Con l Z (⟨"com/example/lean_crowd/leancrowd/output/DecimalsPutPinLaw", "digitCount", "(J)I"⟩ : MethodName) method_2_code 2 (some .int) ⟨0, 0, 0, 0⟩ [(.long n)] h0 n0 (RetI fun r h => h = h0 ∧ ∃ L : Nat, r.toInt = (L : Int) ∧ Dg M L) := by
  refine Con.body (L0 := #[.val (.long n), .second]) hw pn_1 (fun m => by first | (simp [entryFrame, mkF, argsToLocals, Value.category]; done) | rfl) (fun K O => ?_)
  have rn := rng64 n
  refine w_lloadN O d1_0 (pc' := 1) rfl rfl ?_
  refine w_ldc2 O d1_1 (pc' := 4) rfl (mw 23 rfl) ?_
  refine w_lcmp_le O d1_4 (pi := 5) rfl d1_5 (pn := 8) (pt := 10) rfl (by decide) rfl (fun c4 => ?_) (fun c4 => ?_)
  · replace c4 : ¬ -10 < n.toInt := c4
    refine w_lloadN O d1_10 (pc' := 11) rfl rfl ?_
    refine w_ldc2 O d1_11 (pc' := 14) rfl (mw 36 rfl) ?_
    refine w_lcmp_le O d1_14 (pi := 15) rfl d1_15 (pn := 18) (pt := 20) rfl (by decide) rfl (fun c14 => ?_) (fun c14 => ?_)
    · replace c14 : ¬ -100 < n.toInt := c14
      refine w_lloadN O d1_20 (pc' := 21) rfl rfl ?_
      refine w_ldc2 O d1_21 (pc' := 24) rfl (mw 37 rfl) ?_
      refine w_lcmp_le O d1_24 (pi := 25) rfl d1_25 (pn := 28) (pt := 30) rfl (by decide) rfl (fun c24 => ?_) (fun c24 => ?_)
      · replace c24 : ¬ -1000 < n.toInt := c24
        refine w_lloadN O d1_30 (pc' := 31) rfl rfl ?_
        refine w_ldc2 O d1_31 (pc' := 34) rfl (mw 38 rfl) ?_
        refine w_lcmp_le O d1_34 (pi := 35) rfl d1_35 (pn := 38) (pt := 40) rfl (by decide) rfl (fun c34 => ?_) (fun c34 => ?_)
        · replace c34 : ¬ -10000 < n.toInt := c34
          refine w_lloadN O d1_40 (pc' := 41) rfl rfl ?_
          refine w_ldc2 O d1_41 (pc' := 44) rfl (mw 39 rfl) ?_
          refine w_lcmp_le O d1_44 (pi := 45) rfl d1_45 (pn := 48) (pt := 50) rfl (by decide) rfl (fun c44 => ?_) (fun c44 => ?_)
          · replace c44 : ¬ -100000 < n.toInt := c44
            refine w_lloadN O d1_50 (pc' := 51) rfl rfl ?_
            refine w_ldc2 O d1_51 (pc' := 54) rfl (mw 40 rfl) ?_
            refine w_lcmp_le O d1_54 (pi := 55) rfl d1_55 (pn := 58) (pt := 61) rfl (by decide) rfl (fun c54 => ?_) (fun c54 => ?_)
            · replace c54 : ¬ -1000000 < n.toInt := c54
              refine w_lloadN O d1_61 (pc' := 62) rfl rfl ?_
              refine w_ldc2 O d1_62 (pc' := 65) rfl (mw 41 rfl) ?_
              refine w_lcmp_le O d1_65 (pi := 66) rfl d1_66 (pn := 69) (pt := 72) rfl (by decide) rfl (fun c65 => ?_) (fun c65 => ?_)
              · replace c65 : ¬ -10000000 < n.toInt := c65
                refine w_lloadN O d1_72 (pc' := 73) rfl rfl ?_
                refine w_ldc2 O d1_73 (pc' := 76) rfl (mw 42 rfl) ?_
                refine w_lcmp_le O d1_76 (pi := 77) rfl d1_77 (pn := 80) (pt := 83) rfl (by decide) rfl (fun c76 => ?_) (fun c76 => ?_)
                · replace c76 : ¬ -100000000 < n.toInt := c76
                  refine w_lloadN O d1_83 (pc' := 84) rfl rfl ?_
                  refine w_ldc2 O d1_84 (pc' := 87) rfl (mw 43 rfl) ?_
                  refine w_lcmp_le O d1_87 (pi := 88) rfl d1_88 (pn := 91) (pt := 94) rfl (by decide) rfl (fun c87 => ?_) (fun c87 => ?_)
                  · replace c87 : ¬ -1000000000 < n.toInt := c87
                    refine w_lloadN O d1_94 (pc' := 95) rfl rfl ?_
                    refine w_ldc2 O d1_95 (pc' := 98) rfl (mw 44 rfl) ?_
                    refine w_lcmp_le O d1_98 (pi := 99) rfl d1_99 (pn := 102) (pt := 105) rfl (by decide) rfl (fun c98 => ?_) (fun c98 => ?_)
                    · replace c98 : ¬ -10000000000 < n.toInt := c98
                      refine w_lloadN O d1_105 (pc' := 106) rfl rfl ?_
                      refine w_ldc2 O d1_106 (pc' := 109) rfl (mw 45 rfl) ?_
                      refine w_lcmp_le O d1_109 (pi := 110) rfl d1_110 (pn := 113) (pt := 116) rfl (by decide) rfl (fun c109 => ?_) (fun c109 => ?_)
                      · replace c109 : ¬ -100000000000 < n.toInt := c109
                        refine w_lloadN O d1_116 (pc' := 117) rfl rfl ?_
                        refine w_ldc2 O d1_117 (pc' := 120) rfl (mw 46 rfl) ?_
                        refine w_lcmp_le O d1_120 (pi := 121) rfl d1_121 (pn := 124) (pt := 127) rfl (by decide) rfl (fun c120 => ?_) (fun c120 => ?_)
                        · replace c120 : ¬ -1000000000000 < n.toInt := c120
                          refine w_lloadN O d1_127 (pc' := 128) rfl rfl ?_
                          refine w_ldc2 O d1_128 (pc' := 131) rfl (mw 47 rfl) ?_
                          refine w_lcmp_le O d1_131 (pi := 132) rfl d1_132 (pn := 135) (pt := 138) rfl (by decide) rfl (fun c131 => ?_) (fun c131 => ?_)
                          · replace c131 : ¬ -10000000000000 < n.toInt := c131
                            refine w_lloadN O d1_138 (pc' := 139) rfl rfl ?_
                            refine w_ldc2 O d1_139 (pc' := 142) rfl (mw 48 rfl) ?_
                            refine w_lcmp_le O d1_142 (pi := 143) rfl d1_143 (pn := 146) (pt := 149) rfl (by decide) rfl (fun c142 => ?_) (fun c142 => ?_)
                            · replace c142 : ¬ -100000000000000 < n.toInt := c142
                              refine w_lloadN O d1_149 (pc' := 150) rfl rfl ?_
                              refine w_ldc2 O d1_150 (pc' := 153) rfl (mw 49 rfl) ?_
                              refine w_lcmp_le O d1_153 (pi := 154) rfl d1_154 (pn := 157) (pt := 160) rfl (by decide) rfl (fun c153 => ?_) (fun c153 => ?_)
                              · replace c153 : ¬ -1000000000000000 < n.toInt := c153
                                refine w_lloadN O d1_160 (pc' := 161) rfl rfl ?_
                                refine w_ldc2 O d1_161 (pc' := 164) rfl (mw 50 rfl) ?_
                                refine w_lcmp_le O d1_164 (pi := 165) rfl d1_165 (pn := 168) (pt := 171) rfl (by decide) rfl (fun c164 => ?_) (fun c164 => ?_)
                                · replace c164 : ¬ -10000000000000000 < n.toInt := c164
                                  refine w_lloadN O d1_171 (pc' := 172) rfl rfl ?_
                                  refine w_ldc2 O d1_172 (pc' := 175) rfl (mw 51 rfl) ?_
                                  refine w_lcmp_le O d1_175 (pi := 176) rfl d1_176 (pn := 179) (pt := 182) rfl (by decide) rfl (fun c175 => ?_) (fun c175 => ?_)
                                  · replace c175 : ¬ -100000000000000000 < n.toInt := c175
                                    refine w_lloadN O d1_182 (pc' := 183) rfl rfl ?_
                                    refine w_ldc2 O d1_183 (pc' := 186) rfl (mw 52 rfl) ?_
                                    refine w_lcmp_le O d1_186 (pi := 187) rfl d1_187 (pn := 190) (pt := 193) rfl (by decide) rfl (fun c186 => ?_) (fun c186 => ?_)
                                    · replace c186 : ¬ -1000000000000000000 < n.toInt := c186
                                      refine w_bipush O d1_193 (z := (19 : Int32)) (pc' := 195) rfl rfl ?_
                                      refine w_reti O d1_195 (by decide) (by decide) ?_
                                      exact ⟨_, rfl, rfl, 19, rfl, by decide, by decide, (show M < 10000000000000000000 by omega), Or.inr (show 1000000000000000000 ≤ M by omega)⟩
                                    · replace c186 : -1000000000000000000 < n.toInt := c186
                                      refine w_bipush O d1_190 (z := (18 : Int32)) (pc' := 192) rfl rfl ?_
                                      refine w_reti O d1_192 (by decide) (by decide) ?_
                                      exact ⟨_, rfl, rfl, 18, rfl, by decide, by decide, (show M < 1000000000000000000 by omega), Or.inr (show 100000000000000000 ≤ M by omega)⟩
                                  · replace c175 : -100000000000000000 < n.toInt := c175
                                    refine w_bipush O d1_179 (z := (17 : Int32)) (pc' := 181) rfl rfl ?_
                                    refine w_reti O d1_181 (by decide) (by decide) ?_
                                    exact ⟨_, rfl, rfl, 17, rfl, by decide, by decide, (show M < 100000000000000000 by omega), Or.inr (show 10000000000000000 ≤ M by omega)⟩
                                · replace c164 : -10000000000000000 < n.toInt := c164
                                  refine w_bipush O d1_168 (z := (16 : Int32)) (pc' := 170) rfl rfl ?_
                                  refine w_reti O d1_170 (by decide) (by decide) ?_
                                  exact ⟨_, rfl, rfl, 16, rfl, by decide, by decide, (show M < 10000000000000000 by omega), Or.inr (show 1000000000000000 ≤ M by omega)⟩
                              · replace c153 : -1000000000000000 < n.toInt := c153
                                refine w_bipush O d1_157 (z := (15 : Int32)) (pc' := 159) rfl rfl ?_
                                refine w_reti O d1_159 (by decide) (by decide) ?_
                                exact ⟨_, rfl, rfl, 15, rfl, by decide, by decide, (show M < 1000000000000000 by omega), Or.inr (show 100000000000000 ≤ M by omega)⟩
                            · replace c142 : -100000000000000 < n.toInt := c142
                              refine w_bipush O d1_146 (z := (14 : Int32)) (pc' := 148) rfl rfl ?_
                              refine w_reti O d1_148 (by decide) (by decide) ?_
                              exact ⟨_, rfl, rfl, 14, rfl, by decide, by decide, (show M < 100000000000000 by omega), Or.inr (show 10000000000000 ≤ M by omega)⟩
                          · replace c131 : -10000000000000 < n.toInt := c131
                            refine w_bipush O d1_135 (z := (13 : Int32)) (pc' := 137) rfl rfl ?_
                            refine w_reti O d1_137 (by decide) (by decide) ?_
                            exact ⟨_, rfl, rfl, 13, rfl, by decide, by decide, (show M < 10000000000000 by omega), Or.inr (show 1000000000000 ≤ M by omega)⟩
                        · replace c120 : -1000000000000 < n.toInt := c120
                          refine w_bipush O d1_124 (z := (12 : Int32)) (pc' := 126) rfl rfl ?_
                          refine w_reti O d1_126 (by decide) (by decide) ?_
                          exact ⟨_, rfl, rfl, 12, rfl, by decide, by decide, (show M < 1000000000000 by omega), Or.inr (show 100000000000 ≤ M by omega)⟩
                      · replace c109 : -100000000000 < n.toInt := c109
                        refine w_bipush O d1_113 (z := (11 : Int32)) (pc' := 115) rfl rfl ?_
                        refine w_reti O d1_115 (by decide) (by decide) ?_
                        exact ⟨_, rfl, rfl, 11, rfl, by decide, by decide, (show M < 100000000000 by omega), Or.inr (show 10000000000 ≤ M by omega)⟩
                    · replace c98 : -10000000000 < n.toInt := c98
                      refine w_bipush O d1_102 (z := (10 : Int32)) (pc' := 104) rfl rfl ?_
                      refine w_reti O d1_104 (by decide) (by decide) ?_
                      exact ⟨_, rfl, rfl, 10, rfl, by decide, by decide, (show M < 10000000000 by omega), Or.inr (show 1000000000 ≤ M by omega)⟩
                  · replace c87 : -1000000000 < n.toInt := c87
                    refine w_bipush O d1_91 (z := (9 : Int32)) (pc' := 93) rfl rfl ?_
                    refine w_reti O d1_93 (by decide) (by decide) ?_
                    exact ⟨_, rfl, rfl, 9, rfl, by decide, by decide, (show M < 1000000000 by omega), Or.inr (show 100000000 ≤ M by omega)⟩
                · replace c76 : -100000000 < n.toInt := c76
                  refine w_bipush O d1_80 (z := (8 : Int32)) (pc' := 82) rfl rfl ?_
                  refine w_reti O d1_82 (by decide) (by decide) ?_
                  exact ⟨_, rfl, rfl, 8, rfl, by decide, by decide, (show M < 100000000 by omega), Or.inr (show 10000000 ≤ M by omega)⟩
              · replace c65 : -10000000 < n.toInt := c65
                refine w_bipush O d1_69 (z := (7 : Int32)) (pc' := 71) rfl rfl ?_
                refine w_reti O d1_71 (by decide) (by decide) ?_
                exact ⟨_, rfl, rfl, 7, rfl, by decide, by decide, (show M < 10000000 by omega), Or.inr (show 1000000 ≤ M by omega)⟩
            · replace c54 : -1000000 < n.toInt := c54
              refine w_bipush O d1_58 (z := (6 : Int32)) (pc' := 60) rfl rfl ?_
              refine w_reti O d1_60 (by decide) (by decide) ?_
              exact ⟨_, rfl, rfl, 6, rfl, by decide, by decide, (show M < 1000000 by omega), Or.inr (show 100000 ≤ M by omega)⟩
          · replace c44 : -100000 < n.toInt := c44
            refine w_iconst O d1_48 (z := (5 : Int32)) (pc' := 49) rfl rfl ?_
            refine w_reti O d1_49 (by decide) (by decide) ?_
            exact ⟨_, rfl, rfl, 5, rfl, by decide, by decide, (show M < 100000 by omega), Or.inr (show 10000 ≤ M by omega)⟩
        · replace c34 : -10000 < n.toInt := c34
          refine w_iconst O d1_38 (z := (4 : Int32)) (pc' := 39) rfl rfl ?_
          refine w_reti O d1_39 (by decide) (by decide) ?_
          exact ⟨_, rfl, rfl, 4, rfl, by decide, by decide, (show M < 10000 by omega), Or.inr (show 1000 ≤ M by omega)⟩
      · replace c24 : -1000 < n.toInt := c24
        refine w_iconst O d1_28 (z := (3 : Int32)) (pc' := 29) rfl rfl ?_
        refine w_reti O d1_29 (by decide) (by decide) ?_
        exact ⟨_, rfl, rfl, 3, rfl, by decide, by decide, (show M < 1000 by omega), Or.inr (show 100 ≤ M by omega)⟩
    · replace c14 : -100 < n.toInt := c14
      refine w_iconst O d1_18 (z := (2 : Int32)) (pc' := 19) rfl rfl ?_
      refine w_reti O d1_19 (by decide) (by decide) ?_
      exact ⟨_, rfl, rfl, 2, rfl, by decide, by decide, (show M < 100 by omega), Or.inr (show 10 ≤ M by omega)⟩
  · replace c4 : -10 < n.toInt := c4
    refine w_iconst O d1_8 (z := (1 : Int32)) (pc' := 9) rfl rfl ?_
    refine w_reti O d1_9 (by decide) (by decide) ?_
    exact ⟨_, rfl, rfl, 1, rfl, by decide, by decide, (show M < 10 by omega), Or.inl rfl⟩
theorem d2_0 : decode jdk_29_method_61_code 0 = .ok (.lload_n 0, 1) := by decide +kernel
theorem d2_1 : decode jdk_29_method_61_code 1 = .ok (.lconst 0, 1) := by decide +kernel
theorem d2_2 : decode jdk_29_method_61_code 2 = .ok (.lcmp, 1) := by decide +kernel
theorem d2_3 : decode jdk_29_method_61_code 3 = .ok (.ifCond .ge 8, 3) := by decide +kernel
theorem d2_6 : decode jdk_29_method_61_code 6 = .ok (.lload_n 0, 1) := by decide +kernel
theorem d2_7 : decode jdk_29_method_61_code 7 = .ok (.lneg, 1) := by decide +kernel
theorem d2_8 : decode jdk_29_method_61_code 8 = .ok (.goto 4, 3) := by decide +kernel
theorem d2_11 : decode jdk_29_method_61_code 11 = .ok (.lload_n 0, 1) := by decide +kernel
theorem d2_12 : decode jdk_29_method_61_code 12 = .ok (.lreturn, 1) := by decide +kernel
theorem pn_2 : plainFor (⟨"java/lang/Math", "abs", "(J)J"⟩ : MethodName) = true := Jvm.Free.JP.mathPlain rfl (by decide +kernel)
set_option maxRecDepth 65536 in
set_option maxHeartbeats 40000000 in
theorem con_abs (l : Launch) (Z : State) (a0 : Array Value) (hw : ∀ d ∈ tables_1, d.before a0 Z = true) (a : Int64) (h0 : Heap) (n0 : Nat)  :
    Con l Z (⟨"java/lang/Math", "abs", "(J)J"⟩ : MethodName) jdk_29_method_61_code 2 (some .long) ⟨0, 0, 0, 0⟩ [(.long a)] h0 n0 (RetL fun r h => h = h0 ∧ ((a.toInt < 0 ∧ r = -a) ∨ (¬ a.toInt < 0 ∧ r = a))) := by
  refine Con.body (L0 := #[.val (.long a), .second]) hw pn_2 (fun m => by first | (simp [entryFrame, mkF, argsToLocals, Value.category]; done) | rfl) (fun K O => ?_)
  refine w_lloadN O d2_0 (pc' := 1) rfl rfl ?_
  refine w_lconst O d2_1 (z := (0 : Int64)) (pc' := 2) rfl rfl ?_
  refine w_lcmp_ge O d2_2 (pi := 3) rfl d2_3 (pn := 6) (pt := 11) rfl (by decide) rfl (fun c2 => ?_) (fun c2 => ?_)
  · replace c2 : ¬ a.toInt < 0 := c2
    refine w_lloadN O d2_11 (pc' := 12) rfl rfl ?_
    refine w_retl O d2_12 (by decide) (by decide) ?_
    exact ⟨_, rfl, rfl, Or.inr ⟨c2, rfl⟩⟩
  · replace c2 : a.toInt < 0 := c2
    refine w_lloadN O d2_6 (pc' := 7) rfl rfl ?_
    refine w_lneg O d2_7 (pc' := 8) rfl ?_
    refine w_goto O d2_8 (pc' := 12) (by decide) rfl ?_
    refine w_retl O d2_12 (by decide) (by decide) ?_
    exact ⟨_, rfl, rfl, Or.inl ⟨by omega, rfl⟩⟩
theorem d3_0 : decode prog_51_method_6_code 0 = .ok (.lload_n 2, 1) := by decide +kernel
theorem d3_1 : decode prog_51_method_6_code 1 = .ok (.lconst 0, 1) := by decide +kernel
theorem d3_2 : decode prog_51_method_6_code 2 = .ok (.lcmp, 1) := by decide +kernel
theorem d3_3 : decode prog_51_method_6_code 3 = .ok (.ifCond .ge 7, 3) := by decide +kernel
theorem d3_6 : decode prog_51_method_6_code 6 = .ok (.lload_n 2, 1) := by decide +kernel
theorem d3_7 : decode prog_51_method_6_code 7 = .ok (.goto 5, 3) := by decide +kernel
theorem d3_10 : decode prog_51_method_6_code 10 = .ok (.lload_n 2, 1) := by decide +kernel
theorem d3_11 : decode prog_51_method_6_code 11 = .ok (.lneg, 1) := by decide +kernel
theorem d3_12 : decode prog_51_method_6_code 12 = .ok (.lstore 4, 2) := by decide +kernel
theorem d3_14 : decode prog_51_method_6_code 14 = .ok (.iconst 1, 1) := by decide +kernel
theorem d3_15 : decode prog_51_method_6_code 15 = .ok (.istore 6, 2) := by decide +kernel
theorem d3_17 : decode prog_51_method_6_code 17 = .ok (.lload 4, 2) := by decide +kernel
theorem d3_19 : decode prog_51_method_6_code 19 = .ok (.ldc2_w 67, 3) := by decide +kernel
theorem d3_22 : decode prog_51_method_6_code 22 = .ok (.ldiv, 1) := by decide +kernel
theorem d3_23 : decode prog_51_method_6_code 23 = .ok (.lstore 7, 2) := by decide +kernel
theorem d3_25 : decode prog_51_method_6_code 25 = .ok (.lload 7, 2) := by decide +kernel
theorem d3_27 : decode prog_51_method_6_code 27 = .ok (.lconst 0, 1) := by decide +kernel
theorem d3_28 : decode prog_51_method_6_code 28 = .ok (.lcmp, 1) := by decide +kernel
theorem d3_29 : decode prog_51_method_6_code 29 = .ok (.ifCond .eq 17, 3) := by decide +kernel
theorem d3_32 : decode prog_51_method_6_code 32 = .ok (.iinc 6 1, 3) := by decide +kernel
theorem d3_35 : decode prog_51_method_6_code 35 = .ok (.lload 7, 2) := by decide +kernel
theorem d3_37 : decode prog_51_method_6_code 37 = .ok (.ldc2_w 67, 3) := by decide +kernel
theorem d3_40 : decode prog_51_method_6_code 40 = .ok (.ldiv, 1) := by decide +kernel
theorem d3_41 : decode prog_51_method_6_code 41 = .ok (.lstore 7, 2) := by decide +kernel
theorem d3_43 : decode prog_51_method_6_code 43 = .ok (.goto (-18), 3) := by decide +kernel
theorem d3_46 : decode prog_51_method_6_code 46 = .ok (.iload_n 1, 1) := by decide +kernel
theorem d3_47 : decode prog_51_method_6_code 47 = .ok (.lload_n 2, 1) := by decide +kernel
theorem d3_48 : decode prog_51_method_6_code 48 = .ok (.lconst 0, 1) := by decide +kernel
theorem d3_49 : decode prog_51_method_6_code 49 = .ok (.lcmp, 1) := by decide +kernel
theorem d3_50 : decode prog_51_method_6_code 50 = .ok (.ifCond .ge 7, 3) := by decide +kernel
theorem d3_53 : decode prog_51_method_6_code 53 = .ok (.iconst 1, 1) := by decide +kernel
theorem d3_54 : decode prog_51_method_6_code 54 = .ok (.goto 4, 3) := by decide +kernel
theorem d3_57 : decode prog_51_method_6_code 57 = .ok (.iconst 0, 1) := by decide +kernel
theorem d3_58 : decode prog_51_method_6_code 58 = .ok (.iadd, 1) := by decide +kernel
theorem d3_59 : decode prog_51_method_6_code 59 = .ok (.iload 6, 2) := by decide +kernel
theorem d3_61 : decode prog_51_method_6_code 61 = .ok (.iadd, 1) := by decide +kernel
theorem d3_62 : decode prog_51_method_6_code 62 = .ok (.istore 7, 2) := by decide +kernel
theorem d3_64 : decode prog_51_method_6_code 64 = .ok (.iload 7, 2) := by decide +kernel
theorem d3_66 : decode prog_51_method_6_code 66 = .ok (.iconst 1, 1) := by decide +kernel
theorem d3_67 : decode prog_51_method_6_code 67 = .ok (.isub, 1) := by decide +kernel
theorem d3_68 : decode prog_51_method_6_code 68 = .ok (.istore 8, 2) := by decide +kernel
theorem d3_70 : decode prog_51_method_6_code 70 = .ok (.iload 8, 2) := by decide +kernel
theorem d3_72 : decode prog_51_method_6_code 72 = .ok (.iload 7, 2) := by decide +kernel
theorem d3_74 : decode prog_51_method_6_code 74 = .ok (.iload 6, 2) := by decide +kernel
theorem d3_76 : decode prog_51_method_6_code 76 = .ok (.isub, 1) := by decide +kernel
theorem d3_77 : decode prog_51_method_6_code 77 = .ok (.if_icmp .lt 40, 3) := by decide +kernel
theorem d3_80 : decode prog_51_method_6_code 80 = .ok (.lload 4, 2) := by decide +kernel
theorem d3_82 : decode prog_51_method_6_code 82 = .ok (.ldc2_w 67, 3) := by decide +kernel
theorem d3_85 : decode prog_51_method_6_code 85 = .ok (.ldiv, 1) := by decide +kernel
theorem d3_86 : decode prog_51_method_6_code 86 = .ok (.lstore 9, 2) := by decide +kernel
theorem d3_88 : decode prog_51_method_6_code 88 = .ok (.aload_n 0, 1) := by decide +kernel
theorem d3_89 : decode prog_51_method_6_code 89 = .ok (.iload 8, 2) := by decide +kernel
theorem d3_91 : decode prog_51_method_6_code 91 = .ok (.ldc2_w 72, 3) := by decide +kernel
theorem d3_94 : decode prog_51_method_6_code 94 = .ok (.lload 9, 2) := by decide +kernel
theorem d3_96 : decode prog_51_method_6_code 96 = .ok (.ldc2_w 67, 3) := by decide +kernel
theorem d3_99 : decode prog_51_method_6_code 99 = .ok (.lmul, 1) := by decide +kernel
theorem d3_100 : decode prog_51_method_6_code 100 = .ok (.ladd, 1) := by decide +kernel
theorem d3_101 : decode prog_51_method_6_code 101 = .ok (.lload 4, 2) := by decide +kernel
theorem d3_103 : decode prog_51_method_6_code 103 = .ok (.lsub, 1) := by decide +kernel
theorem d3_104 : decode prog_51_method_6_code 104 = .ok (.l2i, 1) := by decide +kernel
theorem d3_105 : decode prog_51_method_6_code 105 = .ok (.i2b, 1) := by decide +kernel
theorem d3_106 : decode prog_51_method_6_code 106 = .ok (.bastore, 1) := by decide +kernel
theorem d3_107 : decode prog_51_method_6_code 107 = .ok (.lload 9, 2) := by decide +kernel
theorem d3_109 : decode prog_51_method_6_code 109 = .ok (.lstore 4, 2) := by decide +kernel
theorem d3_111 : decode prog_51_method_6_code 111 = .ok (.iinc 8 (-1), 3) := by decide +kernel
theorem d3_114 : decode prog_51_method_6_code 114 = .ok (.goto (-44), 3) := by decide +kernel
theorem d3_117 : decode prog_51_method_6_code 117 = .ok (.lload_n 2, 1) := by decide +kernel
theorem d3_118 : decode prog_51_method_6_code 118 = .ok (.lconst 0, 1) := by decide +kernel
theorem d3_119 : decode prog_51_method_6_code 119 = .ok (.lcmp, 1) := by decide +kernel
theorem d3_120 : decode prog_51_method_6_code 120 = .ok (.ifCond .ge 8, 3) := by decide +kernel
theorem d3_123 : decode prog_51_method_6_code 123 = .ok (.aload_n 0, 1) := by decide +kernel
theorem d3_124 : decode prog_51_method_6_code 124 = .ok (.iload_n 1, 1) := by decide +kernel
theorem d3_125 : decode prog_51_method_6_code 125 = .ok (.bipush 45, 2) := by decide +kernel
theorem d3_127 : decode prog_51_method_6_code 127 = .ok (.bastore, 1) := by decide +kernel
theorem d3_128 : decode prog_51_method_6_code 128 = .ok (.iload 7, 2) := by decide +kernel
theorem d3_130 : decode prog_51_method_6_code 130 = .ok (.ireturn, 1) := by decide +kernel
theorem pn_3 : plainFor (⟨"com/example/lean_crowd/leancrowd/output/Decimals", "put", "([BIJ)I"⟩ : MethodName) = true := plainFor_of_name (by first | (simp [plainName, overriddenIn]; done) | decide +kernel)
set_option maxRecDepth 65536 in
set_option maxHeartbeats 40000000 in
theorem con_put (l : Launch) (Z : State) (a0 : Array Value) (hw : ∀ d ∈ tables_1, d.before a0 Z = true) (w : Addr) (at_ : Int32) (v : Int64) (h0 : Heap) (n0 : Nat) (f : Nat → Int32) (a : Nat) (A0 : Afn Z h0 w .byte 28 (fun j => .int (f j))) (ha : at_.toInt = (a : Int)) (ha7 : a ≤ 7) (gw : n0 ≤ w) :
    Con l Z (⟨"com/example/lean_crowd/leancrowd/output/Decimals", "put", "([BIJ)I"⟩ : MethodName) prog_51_method_6_code 11 (some .int) ⟨0, 0, 0, 0⟩ [(.ref w), (.int at_), (.long v)] h0 n0 (RetI fun r h => ∃ M k sg : Nat, SgOf v M sg ∧ Dg M k ∧ r.toInt = (a : Int) + sg + k ∧ ∃ g : Nat → Int32, Afn Z h w .byte 28 (fun j => .int (g j)) ∧ (∀ j, a + sg ≤ j → j < a + sg + k → (g j).toInt = 48 + ((M / 10 ^ (a + sg + k - 1 - j) % 10 : Nat) : Int)) ∧ (sg = 1 → (g a).toInt = 45) ∧ ∀ j, (j < a ∨ a + sg + k ≤ j) → g j = f j) := by
  refine Con.body (L0 := #[.val (.ref w), .val (.int at_), .val (.long v), .second, .unset, .unset, .unset, .unset, .unset, .unset, .unset]) hw pn_3 (fun m => by first | (simp [entryFrame, mkF, argsToLocals, Value.category]; done) | rfl) (fun K O => ?_)
  have rv := rng64 v
  obtain ⟨M, sg, hv⟩ : ∃ M sg : Nat, SgOf v M sg := by
    unfold SgOf
    by_cases q : v.toInt < 0
    · exact ⟨(-v.toInt).toNat, 1, Or.inl ⟨q, rfl, by omega⟩⟩
    · exact ⟨v.toInt.toNat, 0, Or.inr ⟨q, rfl, by omega⟩⟩
  have hsg := hv.b
  clear rv
  refine w_lloadN O d3_0 (pc' := 1) rfl rfl ?_
  refine w_lconst O d3_1 (z := (0 : Int64)) (pc' := 2) rfl rfl ?_
  have J12 : ∀ (ng : Int64), ng.toInt = -(M : Int) → W K h0 0 0 12 #[.val (.ref w), .val (.int at_), .val (.long v), .second, .unset, .unset, .unset, .unset, .unset, .unset, .unset] [(.long ng)] := by
    intro ng hJ12
    have hng := hJ12
    have J46 : ∀ (k : Nat) (dd : Int32) (rr : Int64), dd.toInt = (k : Int) → 1 ≤ k → k ≤ 19 → Dg M k → W K h0 0 0 46 #[.val (.ref w), .val (.int at_), .val (.long v), .second, .val (.long ng), .second, .val (.int dd), .val (.long rr), .second, .unset, .unset] [] := by
      intro k dd rr hdd hk1 hk19 hDk
      refine w_iloadN O d3_46 (pc' := 47) rfl rfl ?_
      refine w_lloadN O d3_47 (pc' := 48) rfl rfl ?_
      refine w_lconst O d3_48 (z := (0 : Int64)) (pc' := 49) rfl rfl ?_
      have J58 : ∀ (sgv : Int32), sgv.toInt = (sg : Int) → W K h0 0 0 58 #[.val (.ref w), .val (.int at_), .val (.long v), .second, .val (.long ng), .second, .val (.int dd), .val (.long rr), .second, .unset, .unset] [(.int sgv), (.int at_)] := by
        intro sgv hJ58
        refine w_iadd O d3_58 (pc' := 59) rfl ?_
        refine w_iload O d3_59 (pc' := 61) rfl rfl ?_
        refine w_iadd O d3_61 (pc' := 62) rfl ?_
        refine w_istoreG O d3_62 (L' := fun zq => #[.val (.ref w), .val (.int at_), .val (.long v), .second, .val (.long ng), .second, .val (.int dd), .val (.int zq), .unset, .unset, .unset]) (pc' := 64) rfl (fun _ => rfl) (fun en e_en => ?_)
        have i2 : ((at_ + sgv).toInt - (at_.toInt + sgv.toInt)) % 4294967296 = 0 := c_iadd at_ sgv
        have i3 := rng32 (at_ + sgv)
        have i4 : (((at_ + sgv) + dd).toInt - ((at_ + sgv).toInt + dd.toInt)) % 4294967296 = 0 := c_iadd (at_ + sgv) dd
        have i5 := rng32 ((at_ + sgv) + dd)
        have j_en := congrArg Int32.toInt e_en
        have r_en := rng32 en
        have hen : en.toInt = (a : Int) + sg + k := by omega
        clear i2 i3 i4 i5 j_en
        refine w_iload O d3_64 (pc' := 66) rfl rfl ?_
        refine w_iconst O d3_66 (z := (1 : Int32)) (pc' := 67) rfl rfl ?_
        refine w_isub O d3_67 (pc' := 68) rfl ?_
        refine w_istoreG O d3_68 (L' := fun zq => #[.val (.ref w), .val (.int at_), .val (.long v), .second, .val (.long ng), .second, .val (.int dd), .val (.int en), .val (.int zq), .unset, .unset]) (pc' := 70) rfl (fun _ => rfl) (fun pl e_pl => ?_)
        have i7 : ((en - (1 : Int32)).toInt - (en.toInt - 1)) % 4294967296 = 0 := c_isub en (1 : Int32)
        have i8 := rng32 (en - (1 : Int32))
        have j_pl := congrArg Int32.toInt e_pl
        have r_pl := rng32 pl
        have hpl0 : pl.toInt = (a : Int) + sg + k - 1 := by omega
        clear i7 i8 j_pl
        have J117 : ∀ (h : Heap) (g : Nat → Int32) (pl : Int32) (r4 : Int64) (s9 s10 : Slot), Afn Z h w .byte 28 (fun j => .int (g j)) → (∀ j, a + sg ≤ j → j < a + sg + k → (g j).toInt = 48 + ((M / 10 ^ (a + sg + k - 1 - j) % 10 : Nat) : Int)) → (∀ j, ¬ (a + sg ≤ j ∧ j < a + sg + k) → g j = f j) → W K h 0 0 117 #[.val (.ref w), .val (.int at_), .val (.long v), .second, .val (.long r4), .second, .val (.int dd), .val (.int en), .val (.int pl), s9, s10] [] := by
          intro h g pl r4 s9 s10 A hg1 hg2
          refine w_lloadN O d3_117 (pc' := 118) rfl rfl ?_
          refine w_lconst O d3_118 (z := (0 : Int64)) (pc' := 119) rfl rfl ?_
          refine w_lcmp_ge O d3_119 (pi := 120) rfl d3_120 (pn := 123) (pt := 128) rfl (by decide) rfl (fun c119 => ?_) (fun c119 => ?_)
          · replace c119 : ¬ v.toInt < 0 := c119
            refine w_iload O d3_128 (pc' := 130) rfl rfl ?_
            refine w_reti O d3_130 (by decide) (by decide) ?_
            exact ⟨_, rfl, M, k, sg, hv, hDk, hen, g, A, hg1, fun q => by unfold SgOf at hv; omega, fun j q => hg2 j (by omega)⟩
          · replace c119 : v.toInt < 0 := c119
            refine w_aloadN O d3_123 (pc' := 124) rfl rfl rfl ?_
            refine w_iloadN O d3_124 (pc' := 125) rfl rfl ?_
            refine w_bipush O d3_125 (z := (45 : Int32)) (pc' := 127) rfl rfl ?_
            refine w_bastore O d3_127 (i := a) (pc' := 128) rfl A ha (by omega) gw (fun h1 Wh1 => ?_)
            have A_h1 := A.set Wh1
            refine w_iload O d3_128 (pc' := 130) rfl rfl ?_
            refine w_reti O d3_130 (by decide) (by decide) ?_
            have hs1 : sg = 1 := by unfold SgOf at hv; omega
            exact ⟨_, rfl, M, k, sg, hv, hDk, hen, updI g a 45, A_h1.congr (fun j _ => updI_eq _ _ _ j), fun j q1 q2 => by unfold updI; rw [if_neg (by omega)]; exact hg1 j q1 q2, fun _ => by unfold updI; rw [if_pos rfl]; decide, fun j q => by unfold updI; rw [if_neg (by omega)]; exact hg2 j (by omega)⟩
        have loop2 : ∀ (d t : Nat) (pl : Int32) (r4 : Int64) (s9 s10 : Slot) (h : Heap) (g : Nat → Int32), Afn Z h w .byte 28 (fun j => .int (g j)) → pl.toInt = (a : Int) + sg + k - 1 - t → t + d = k → r4.toInt = -((M / 10 ^ t : Nat) : Int) → (∀ j, a + sg + k - t ≤ j → j < a + sg + k → (g j).toInt = 48 + ((M / 10 ^ (a + sg + k - 1 - j) % 10 : Nat) : Int)) → (∀ j, ¬ (a + sg + k - t ≤ j ∧ j < a + sg + k) → g j = f j) → Two s9 s10 → W K h 0 0 70 #[.val (.ref w), .val (.int at_), .val (.long v), .second, .val (.long r4), .second, .val (.int dd), .val (.int en), .val (.int pl), s9, s10] [] := by
          intro d
          induction d with
          | zero =>
            intro t pl r4 s9 s10 h g A hpl htk hr4 hg1 hg2 h9
            obtain ⟨X, hX⟩ : ∃ X, X = M / 10 ^ t := ⟨_, rfl⟩
            rw [← hX] at hr4
            have dvs : M / 10 ^ (t + 1) = X / 10 := by rw [hX]; exact div_step M t
            have hXM : X ≤ M := by rw [hX]; exact Nat.div_le_self _ _
            clear hDk
            refine w_iload O d3_70 (pc' := 72) rfl rfl ?_
            refine w_iload O d3_72 (pc' := 74) rfl rfl ?_
            refine w_iload O d3_74 (pc' := 76) rfl rfl ?_
            refine w_isub O d3_76 (pc' := 77) rfl ?_
            have i1 : ((en - dd).toInt - (en.toInt - dd.toInt)) % 4294967296 = 0 := c_isub en dd
            have i2 := rng32 (en - dd)
            refine w_icmp_lt O d3_77 (pn := 80) (pt := 117) rfl (by decide) rfl (fun c77 => ?_) (fun c77 => absurd (show ¬ pl.toInt < (en - dd).toInt from c77) (by omega))
            exact J117 h g pl r4 s9 s10 A (fun j q1 q2 => hg1 j (by omega) q2) (fun j q => hg2 j (by omega))
          | succ d ih =>
            intro t pl r4 s9 s10 h g A hpl htk hr4 hg1 hg2 h9
            obtain ⟨X, hX⟩ : ∃ X, X = M / 10 ^ t := ⟨_, rfl⟩
            rw [← hX] at hr4
            have dvs : M / 10 ^ (t + 1) = X / 10 := by rw [hX]; exact div_step M t
            have hXM : X ≤ M := by rw [hX]; exact Nat.div_le_self _ _
            clear hDk
            refine w_iload O d3_70 (pc' := 72) rfl rfl ?_
            refine w_iload O d3_72 (pc' := 74) rfl rfl ?_
            refine w_iload O d3_74 (pc' := 76) rfl rfl ?_
            refine w_isub O d3_76 (pc' := 77) rfl ?_
            have i1 : ((en - dd).toInt - (en.toInt - dd.toInt)) % 4294967296 = 0 := c_isub en dd
            have i2 := rng32 (en - dd)
            refine w_icmp_lt O d3_77 (pn := 80) (pt := 117) rfl (by decide) rfl (fun c77 => absurd (show pl.toInt < (en - dd).toInt from c77) (by omega)) (fun c77 => ?_)
            refine w_lload O d3_80 (pc' := 82) rfl rfl ?_
            refine w_ldc2 O d3_82 (pc' := 85) rfl (mw 34 rfl) ?_
            refine w_ldiv O d3_85 (pc' := 86) rfl (by decide) ?_
            refine w_lstoreG O d3_86 (L' := fun zq => #[.val (.ref w), .val (.int at_), .val (.long v), .second, .val (.long r4), .second, .val (.int dd), .val (.int en), .val (.int pl), .val (.long zq), .second]) (pc' := 88) rfl (fun _ => by rcases h9 with ⟨rfl, rfl⟩ | ⟨y, rfl, rfl⟩ <;> rfl) (fun tn e_tn => ?_)
            obtain ⟨hd1, hd2⟩ := own_digit r4 tn X hr4 (by omega) e_tn
            clear e_tn c77
            clear i1 i2
            refine w_aloadN O d3_88 (pc' := 89) rfl rfl rfl ?_
            refine w_iload O d3_89 (pc' := 91) rfl rfl ?_
            refine w_ldc2 O d3_91 (pc' := 94) rfl (mw 35 rfl) ?_
            refine w_lload O d3_94 (pc' := 96) rfl rfl ?_
            refine w_ldc2 O d3_96 (pc' := 99) rfl (mw 34 rfl) ?_
            refine w_lmul O d3_99 (pc' := 100) rfl ?_
            refine w_ladd O d3_100 (pc' := 101) rfl ?_
            refine w_lload O d3_101 (pc' := 103) rfl rfl ?_
            refine w_lsub O d3_103 (pc' := 104) rfl ?_
            refine w_l2i O d3_104 (pc' := 105) rfl ?_
            refine w_i2b O d3_105 (pc' := 106) rfl ?_
            refine w_bastore O d3_106 (i := (a + sg + k - 1 - t)) (pc' := 107) rfl A (by omega) (by omega) gw (fun h4 Wh4 => ?_)
            have A_h4 := A.set Wh4
            refine w_lload O d3_107 (pc' := 109) rfl rfl ?_
            refine w_lstore O d3_109 (L' := #[.val (.ref w), .val (.int at_), .val (.long v), .second, .val (.long tn), .second, .val (.int dd), .val (.int en), .val (.int pl), .val (.long tn), .second]) (pc' := 111) rfl rfl ?_
            refine w_iincG O d3_111 (y := (-1 : Int32)) (L' := fun zq => #[.val (.ref w), .val (.int at_), .val (.long v), .second, .val (.long tn), .second, .val (.int dd), .val (.int en), .val (.int zq), .val (.long tn), .second]) (pc' := 114) rfl rfl rfl (fun _ => rfl) (fun pl' e_pl' => ?_)
            have hp' := own_pl pl pl' a sg k t d e_pl' hpl htk hk19 ha7 hsg.1
            clear e_pl'
            refine w_goto O d3_114 (pc' := 70) (by decide) rfl ?_
            have A' : Afn Z h4 w .byte 28 (fun j => .int (updI g (a + sg + k - 1 - t) (nar .byte (((((48 : Int64) + (tn * (10 : Int64))) - r4).toInt32).toInt8.toInt32)) j)) := A_h4.congr (fun j _ => updI_eq g (a + sg + k - 1 - t) (nar .byte (((((48 : Int64) + (tn * (10 : Int64))) - r4).toInt32).toInt8.toInt32)) j)
            have hr' : tn.toInt = -((M / 10 ^ (t + 1) : Nat) : Int) := hd1.trans (congrArg (fun z : Nat => -(z : Int)) dvs.symm)
            have hd3 : (nar .byte (((((48 : Int64) + (tn * (10 : Int64))) - r4).toInt32).toInt8.toInt32)).toInt = 48 + ((M / 10 ^ t % 10 : Nat) : Int) := by rw [nar_b, ← hX]; exact hd2
            clear hd1 hd2 dvs
            obtain ⟨V, hV⟩ : ∃ V, V = nar .byte (((((48 : Int64) + (tn * (10 : Int64))) - r4).toInt32).toInt8.toInt32) := ⟨_, rfl⟩
            rw [← hV] at hd3 A'
            clear hV A_h4 A hr4 hX Wh4 hng
            refine ih (t + 1) pl' tn _ _ h4 (updI g (a + sg + k - 1 - t) V) A' hp' (by omega) hr' (fun j q1 q2 => ?_) (fun j q => ?_) (Or.inr ⟨_, rfl, rfl⟩)
            · unfold updI
              by_cases q3 : j = a + sg + k - 1 - t
              · rw [if_pos q3, q3, show a + sg + k - 1 - (a + sg + k - 1 - t) = t by omega]
                exact hd3
              · rw [if_neg q3]; exact hg1 j (by omega) q2
            · unfold updI
              rw [if_neg (by omega)]; exact hg2 j (by omega)
        exact loop2 k 0 pl ng _ _ h0 f A0 (by rw [hpl0]; omega) (by omega) (by rw [Nat.pow_zero, Nat.div_one]; exact hng) (fun j q1 q2 => by omega) (fun j _ => rfl) (Or.inl ⟨rfl, rfl⟩)
      refine w_lcmp_ge O d3_49 (pi := 50) rfl d3_50 (pn := 53) (pt := 57) rfl (by decide) rfl (fun c49 => ?_) (fun c49 => ?_)
      · replace c49 : ¬ v.toInt < 0 := c49
        refine w_iconst O d3_57 (z := (0 : Int32)) (pc' := 58) rfl rfl ?_
        exact J58 (0 : Int32) (by unfold SgOf at hv; first | omega | (show (1 : Int) = _; omega) | (show (0 : Int) = _; omega))
      · replace c49 : v.toInt < 0 := c49
        refine w_iconst O d3_53 (z := (1 : Int32)) (pc' := 54) rfl rfl ?_
        refine w_goto O d3_54 (pc' := 58) (by decide) rfl ?_
        exact J58 (1 : Int32) (by unfold SgOf at hv; first | omega | (show (1 : Int) = _; omega) | (show (0 : Int) = _; omega))
    have loop1 : ∀ (f_ k : Nat) (dd : Int32) (rr : Int64), dd.toInt = (k : Int) → 1 ≤ k → k ≤ 19 → rr.toInt = -((M / 10 ^ k : Nat) : Int) → (k = 1 ∨ 10 ^ (k - 1) ≤ M) → M < 10 ^ (k + f_) → W K h0 0 0 25 #[.val (.ref w), .val (.int at_), .val (.long v), .second, .val (.long ng), .second, .val (.int dd), .val (.long rr), .second, .unset, .unset] [] := by
      intro f_
      induction f_ with
      | zero =>
        intro k dd rr hdd hk1 hk19 hrr hk4 hf
        rw [Nat.add_zero] at hf
        have hz0 := Nat.div_eq_of_lt hf
        refine w_lload O d3_25 (pc' := 27) rfl rfl ?_
        refine w_lconst O d3_27 (z := (0 : Int64)) (pc' := 28) rfl rfl ?_
        refine w_lcmp_eq O d3_28 (pi := 29) rfl d3_29 (pn := 32) (pt := 46) rfl (by decide) rfl (fun c28 => ?_) (fun c28 => absurd (show ¬ rr.toInt = 0 from c28) (by omega))
        replace c28 : rr.toInt = 0 := c28
        have hz : M / 10 ^ k = 0 := by omega
        have hlt : M < 10 ^ k := by
          rcases Nat.lt_or_ge M (10 ^ k) with q | q
          · exact q
          · have := Nat.div_pos q (pow10_pos k); omega
        exact J46 k dd rr hdd hk1 hk19 ⟨hk1, hk19, hlt, hk4⟩
      | succ f_ ih =>
        intro k dd rr hdd hk1 hk19 hrr hk4 hf
        refine w_lload O d3_25 (pc' := 27) rfl rfl ?_
        refine w_lconst O d3_27 (z := (0 : Int64)) (pc' := 28) rfl rfl ?_
        refine w_lcmp_eq O d3_28 (pi := 29) rfl d3_29 (pn := 32) (pt := 46) rfl (by decide) rfl (fun c28 => ?_) (fun c28 => ?_)
        · replace c28 : rr.toInt = 0 := c28
          have hz : M / 10 ^ k = 0 := by omega
          have hlt : M < 10 ^ k := by
            rcases Nat.lt_or_ge M (10 ^ k) with q | q
            · exact q
            · have := Nat.div_pos q (pow10_pos k); omega
          exact J46 k dd rr hdd hk1 hk19 ⟨hk1, hk19, hlt, hk4⟩
        · replace c28 : ¬ rr.toInt = 0 := c28
          refine w_iincG O d3_32 (y := (1 : Int32)) (L' := fun zq => #[.val (.ref w), .val (.int at_), .val (.long v), .second, .val (.long ng), .second, .val (.int zq), .val (.long rr), .second, .unset, .unset]) (pc' := 35) rfl rfl rfl (fun _ => rfl) (fun dd' e_dd' => ?_)
          have i2 : ((dd + (1 : Int32)).toInt - (dd.toInt + 1)) % 4294967296 = 0 := c_iadd dd (1 : Int32)
          have i3 := rng32 (dd + (1 : Int32))
          have j_dd' := congrArg Int32.toInt e_dd'
          refine w_lload O d3_35 (pc' := 37) rfl rfl ?_
          refine w_ldc2 O d3_37 (pc' := 40) rfl (mw 34 rfl) ?_
          refine w_ldiv O d3_40 (pc' := 41) rfl (by decide) ?_
          refine w_lstoreG O d3_41 (L' := fun zq => #[.val (.ref w), .val (.int at_), .val (.long v), .second, .val (.long ng), .second, .val (.int dd'), .val (.long zq), .second, .unset, .unset]) (pc' := 43) rfl (fun _ => rfl) (fun rr' e_rr' => ?_)
          have i5 : (0 ≤ rr.toInt → (rr / (10 : Int64)).toInt = rr.toInt / 10) ∧ (rr.toInt < 0 → (rr / (10 : Int64)).toInt = -((-rr.toInt) / 10)) := c_ldiv rr (10 : Int64) 10 (by decide) (by decide)
          have j_rr' := congrArg Int64.toInt e_rr'
          have r_rr' := rng64 rr'
          refine w_goto O d3_43 (pc' := 25) (by decide) rfl ?_
          have hp : 10 ^ k ≤ M := by
            rcases Nat.lt_or_ge M (10 ^ k) with q | q
            · rw [Nat.div_eq_of_lt q] at hrr; exact absurd hrr (by omega)
            · exact q
          have hk18 : k < 19 := by
            rcases Nat.lt_or_ge k 19 with q | q
            · exact q
            · have := Nat.pow_le_pow_right (show 0 < 10 by decide) q; have e19 : 10 ^ 19 = 10000000000000000000 := by decide
              omega
          have dvs := div_step M k
          obtain ⟨X, hX⟩ : ∃ X, X = M / 10 ^ k := ⟨_, rfl⟩
          rw [← hX] at hrr dvs
          exact ih (k + 1) dd' rr' (by omega) (by omega) (by omega) (by rw [dvs]; clear dvs hX hp hk4 hf; omega) (Or.inr (by simpa using hp)) (by rw [show k + 1 + f_ = k + (f_ + 1) by omega]; exact hf)
    refine w_lstore O d3_12 (L' := #[.val (.ref w), .val (.int at_), .val (.long v), .second, .val (.long ng), .second, .unset, .unset, .unset, .unset, .unset]) (pc' := 14) rfl rfl ?_
    refine w_iconst O d3_14 (z := (1 : Int32)) (pc' := 15) rfl rfl ?_
    refine w_istore O d3_15 (L' := #[.val (.ref w), .val (.int at_), .val (.long v), .second, .val (.long ng), .second, .val (.int (1 : Int32)), .unset, .unset, .unset, .unset]) (pc' := 17) rfl rfl ?_
    refine w_lload O d3_17 (pc' := 19) rfl rfl ?_
    refine w_ldc2 O d3_19 (pc' := 22) rfl (mw 34 rfl) ?_
    refine w_ldiv O d3_22 (pc' := 23) rfl (by decide) ?_
    refine w_lstoreG O d3_23 (L' := fun zq => #[.val (.ref w), .val (.int at_), .val (.long v), .second, .val (.long ng), .second, .val (.int (1 : Int32)), .val (.long zq), .second, .unset, .unset]) (pc' := 25) rfl (fun _ => rfl) (fun rr0 e_rr0 => ?_)
    have i2 : (0 ≤ ng.toInt → (ng / (10 : Int64)).toInt = ng.toInt / 10) ∧ (ng.toInt < 0 → (ng / (10 : Int64)).toInt = -((-ng.toInt) / 10)) := c_ldiv ng (10 : Int64) 10 (by decide) (by decide)
    have j_rr0 := congrArg Int64.toInt e_rr0
    have r_rr0 := rng64 rr0
    exact loop1 18 1 _ rr0 (by decide) (by decide) (by decide) (by have e1 : (10 : Nat) ^ 1 = 10 := rfl; rw [e1]; omega) (Or.inl rfl) (by have e19 : 10 ^ (1 + 18) = 10000000000000000000 := (by decide); omega)
  refine w_lcmp_ge O d3_2 (pi := 3) rfl d3_3 (pn := 6) (pt := 10) rfl (by decide) rfl (fun c2 => ?_) (fun c2 => ?_)
  · replace c2 : ¬ v.toInt < 0 := c2
    refine w_lloadN O d3_10 (pc' := 11) rfl rfl ?_
    refine w_lneg O d3_11 (pc' := 12) rfl ?_
    have i3 : ((-v).toInt - (-v.toInt)) % 18446744073709551616 = 0 := c_lneg v
    have i4 := rng64 (-v)
    exact J12 (-v) (by have rv := rng64 v; unfold SgOf at hv; omega)
  · replace c2 : v.toInt < 0 := c2
    refine w_lloadN O d3_6 (pc' := 7) rfl rfl ?_
    refine w_goto O d3_7 (pc' := 12) (by decide) rfl ?_
    exact J12 v (by have rv := rng64 v; unfold SgOf at hv; omega)
theorem pn_0 : plainFor x = true := plainFor_of_name (by first | (simp [plainName, overriddenIn]; done) | decide +kernel)
theorem pd_0 : parseMethodDescriptor "(J)I" = some ⟨[.long], some .int⟩ := by decide +kernel
theorem pd_1 : parseMethodDescriptor "(J)J" = some ⟨[.long], some .long⟩ := by decide +kernel
theorem pd_2 : parseMethodDescriptor "([BIJ)I" = some ⟨[(.array .byte), .int, .long], some .int⟩ := by decide +kernel
set_option maxRecDepth 65536 in
set_option maxHeartbeats 40000000 in
theorem law_con (l : Launch) (Z : State) (a0 : Array Value) (hw : ∀ d ∈ tables_1, d.before a0 Z = true) (v : Int64) (u1 u2 : Int32) (h0 : Heap) (n0 : Nat)  :
    Con l Z x code maxLocals ret room_1 [(.long v), (.int u1), (.int u2)] h0 n0 (RetI fun r _ => r = 1) := by
  refine Con.body (L0 := #[.val (.long v), .second, .val (.int u1), .val (.int u2), .unset, .unset, .unset, .unset, .unset, .unset, .unset, .unset, .unset, .unset, .unset, .unset]) hw pn_0 (fun m => by first | (simp [entryFrame, mkF, argsToLocals, Value.category, maxLocals]; done) | rfl) (fun K O => ?_)
  replace O : Ok K l Z a0 tables_1 code 16 (some .boolean) "com/example/lean_crowd/leancrowd/output/DecimalsPutPinLaw" "law" room_1 n0 _ := O
  refine w_bipush O at_0 (z := (19 : Int32)) (pc' := 2) rfl rfl ?_
  refine w_newarr O at_2 (ty := .long) (dv := (.long (0 : Int64))) (n := 19) (cap := 19) (cl' := 1) (sl' := 19) (pc' := 4) rfl rfl rfl (mw 0 rfl) (by decide) (by decide) (by decide) rfl rfl (by decide) (by decide) (fun h1 b qb g_b Eh1 A_b => ?_)
  refine w_dup O at_4 (pc' := 5) rfl rfl ?_
  refine w_iconst O at_5 (z := (0 : Int32)) (pc' := 6) rfl rfl ?_
  refine w_lconst O at_6 (z := (1 : Int64)) (pc' := 7) rfl rfl ?_
  refine w_lastore O at_7 (i := 0) (pc' := 8) rfl A_b (by decide) (by decide) g_b (fun h3 Wh3 => ?_)
  have A_b_h3 := A_b.set Wh3
  refine w_dup O at_8 (pc' := 9) rfl rfl ?_
  refine w_iconst O at_9 (z := (1 : Int32)) (pc' := 10) rfl rfl ?_
  refine w_ldc2 O at_10 (pc' := 13) rfl (mw 1 rfl) ?_
  refine w_lastore O at_13 (i := 1) (pc' := 14) rfl A_b_h3 (by decide) (by decide) g_b (fun h4 Wh4 => ?_)
  have A_b_h4 := A_b_h3.set Wh4
  refine w_dup O at_14 (pc' := 15) rfl rfl ?_
  refine w_iconst O at_15 (z := (2 : Int32)) (pc' := 16) rfl rfl ?_
  refine w_ldc2 O at_16 (pc' := 19) rfl (mw 2 rfl) ?_
  refine w_lastore O at_19 (i := 2) (pc' := 20) rfl A_b_h4 (by decide) (by decide) g_b (fun h5 Wh5 => ?_)
  have A_b_h5 := A_b_h4.set Wh5
  refine w_dup O at_20 (pc' := 21) rfl rfl ?_
  refine w_iconst O at_21 (z := (3 : Int32)) (pc' := 22) rfl rfl ?_
  refine w_ldc2 O at_22 (pc' := 25) rfl (mw 3 rfl) ?_
  refine w_lastore O at_25 (i := 3) (pc' := 26) rfl A_b_h5 (by decide) (by decide) g_b (fun h6 Wh6 => ?_)
  have A_b_h6 := A_b_h5.set Wh6
  refine w_dup O at_26 (pc' := 27) rfl rfl ?_
  refine w_iconst O at_27 (z := (4 : Int32)) (pc' := 28) rfl rfl ?_
  refine w_ldc2 O at_28 (pc' := 31) rfl (mw 4 rfl) ?_
  refine w_lastore O at_31 (i := 4) (pc' := 32) rfl A_b_h6 (by decide) (by decide) g_b (fun h7 Wh7 => ?_)
  have A_b_h7 := A_b_h6.set Wh7
  refine w_dup O at_32 (pc' := 33) rfl rfl ?_
  refine w_iconst O at_33 (z := (5 : Int32)) (pc' := 34) rfl rfl ?_
  refine w_ldc2 O at_34 (pc' := 37) rfl (mw 5 rfl) ?_
  refine w_lastore O at_37 (i := 5) (pc' := 38) rfl A_b_h7 (by decide) (by decide) g_b (fun h8 Wh8 => ?_)
  have A_b_h8 := A_b_h7.set Wh8
  refine w_dup O at_38 (pc' := 39) rfl rfl ?_
  refine w_bipush O at_39 (z := (6 : Int32)) (pc' := 41) rfl rfl ?_
  refine w_ldc2 O at_41 (pc' := 44) rfl (mw 6 rfl) ?_
  refine w_lastore O at_44 (i := 6) (pc' := 45) rfl A_b_h8 (by decide) (by decide) g_b (fun h9 Wh9 => ?_)
  have A_b_h9 := A_b_h8.set Wh9
  refine w_dup O at_45 (pc' := 46) rfl rfl ?_
  refine w_bipush O at_46 (z := (7 : Int32)) (pc' := 48) rfl rfl ?_
  refine w_ldc2 O at_48 (pc' := 51) rfl (mw 7 rfl) ?_
  refine w_lastore O at_51 (i := 7) (pc' := 52) rfl A_b_h9 (by decide) (by decide) g_b (fun h10 Wh10 => ?_)
  have A_b_h10 := A_b_h9.set Wh10
  refine w_dup O at_52 (pc' := 53) rfl rfl ?_
  refine w_bipush O at_53 (z := (8 : Int32)) (pc' := 55) rfl rfl ?_
  refine w_ldc2 O at_55 (pc' := 58) rfl (mw 8 rfl) ?_
  refine w_lastore O at_58 (i := 8) (pc' := 59) rfl A_b_h10 (by decide) (by decide) g_b (fun h11 Wh11 => ?_)
  have A_b_h11 := A_b_h10.set Wh11
  refine w_dup O at_59 (pc' := 60) rfl rfl ?_
  refine w_bipush O at_60 (z := (9 : Int32)) (pc' := 62) rfl rfl ?_
  refine w_ldc2 O at_62 (pc' := 65) rfl (mw 9 rfl) ?_
  refine w_lastore O at_65 (i := 9) (pc' := 66) rfl A_b_h11 (by decide) (by decide) g_b (fun h12 Wh12 => ?_)
  have A_b_h12 := A_b_h11.set Wh12
  refine w_dup O at_66 (pc' := 67) rfl rfl ?_
  refine w_bipush O at_67 (z := (10 : Int32)) (pc' := 69) rfl rfl ?_
  refine w_ldc2 O at_69 (pc' := 72) rfl (mw 10 rfl) ?_
  refine w_lastore O at_72 (i := 10) (pc' := 73) rfl A_b_h12 (by decide) (by decide) g_b (fun h13 Wh13 => ?_)
  have A_b_h13 := A_b_h12.set Wh13
  refine w_dup O at_73 (pc' := 74) rfl rfl ?_
  refine w_bipush O at_74 (z := (11 : Int32)) (pc' := 76) rfl rfl ?_
  refine w_ldc2 O at_76 (pc' := 79) rfl (mw 11 rfl) ?_
  refine w_lastore O at_79 (i := 11) (pc' := 80) rfl A_b_h13 (by decide) (by decide) g_b (fun h14 Wh14 => ?_)
  have A_b_h14 := A_b_h13.set Wh14
  refine w_dup O at_80 (pc' := 81) rfl rfl ?_
  refine w_bipush O at_81 (z := (12 : Int32)) (pc' := 83) rfl rfl ?_
  refine w_ldc2 O at_83 (pc' := 86) rfl (mw 12 rfl) ?_
  refine w_lastore O at_86 (i := 12) (pc' := 87) rfl A_b_h14 (by decide) (by decide) g_b (fun h15 Wh15 => ?_)
  have A_b_h15 := A_b_h14.set Wh15
  refine w_dup O at_87 (pc' := 88) rfl rfl ?_
  refine w_bipush O at_88 (z := (13 : Int32)) (pc' := 90) rfl rfl ?_
  refine w_ldc2 O at_90 (pc' := 93) rfl (mw 13 rfl) ?_
  refine w_lastore O at_93 (i := 13) (pc' := 94) rfl A_b_h15 (by decide) (by decide) g_b (fun h16 Wh16 => ?_)
  have A_b_h16 := A_b_h15.set Wh16
  refine w_dup O at_94 (pc' := 95) rfl rfl ?_
  refine w_bipush O at_95 (z := (14 : Int32)) (pc' := 97) rfl rfl ?_
  refine w_ldc2 O at_97 (pc' := 100) rfl (mw 14 rfl) ?_
  refine w_lastore O at_100 (i := 14) (pc' := 101) rfl A_b_h16 (by decide) (by decide) g_b (fun h17 Wh17 => ?_)
  have A_b_h17 := A_b_h16.set Wh17
  refine w_dup O at_101 (pc' := 102) rfl rfl ?_
  refine w_bipush O at_102 (z := (15 : Int32)) (pc' := 104) rfl rfl ?_
  refine w_ldc2 O at_104 (pc' := 107) rfl (mw 15 rfl) ?_
  refine w_lastore O at_107 (i := 15) (pc' := 108) rfl A_b_h17 (by decide) (by decide) g_b (fun h18 Wh18 => ?_)
  have A_b_h18 := A_b_h17.set Wh18
  refine w_dup O at_108 (pc' := 109) rfl rfl ?_
  refine w_bipush O at_109 (z := (16 : Int32)) (pc' := 111) rfl rfl ?_
  refine w_ldc2 O at_111 (pc' := 114) rfl (mw 16 rfl) ?_
  refine w_lastore O at_114 (i := 16) (pc' := 115) rfl A_b_h18 (by decide) (by decide) g_b (fun h19 Wh19 => ?_)
  have A_b_h19 := A_b_h18.set Wh19
  refine w_dup O at_115 (pc' := 116) rfl rfl ?_
  refine w_bipush O at_116 (z := (17 : Int32)) (pc' := 118) rfl rfl ?_
  refine w_ldc2 O at_118 (pc' := 121) rfl (mw 17 rfl) ?_
  refine w_lastore O at_121 (i := 17) (pc' := 122) rfl A_b_h19 (by decide) (by decide) g_b (fun h20 Wh20 => ?_)
  have A_b_h20 := A_b_h19.set Wh20
  refine w_dup O at_122 (pc' := 123) rfl rfl ?_
  refine w_bipush O at_123 (z := (18 : Int32)) (pc' := 125) rfl rfl ?_
  refine w_ldc2 O at_125 (pc' := 128) rfl (mw 18 rfl) ?_
  refine w_lastore O at_128 (i := 18) (pc' := 129) rfl A_b_h20 (by decide) (by decide) g_b (fun h21 Wh21 => ?_)
  have A_b_h21 := A_b_h20.set Wh21
  refine w_astore O at_129 (L' := #[.val (.long v), .second, .val (.int u1), .val (.int u2), .val (.ref b), .unset, .unset, .unset, .unset, .unset, .unset, .unset, .unset, .unset, .unset, .unset]) (pc' := 131) rfl rfl rfl ?_
  obtain ⟨pw, hpw⟩ : ∃ pw : Nat → Int64, pw = fun j => [(1 : Int64), (10 : Int64), (100 : Int64), (1000 : Int64), (10000 : Int64), (100000 : Int64), (1000000 : Int64), (10000000 : Int64), (100000000 : Int64), (1000000000 : Int64), (10000000000 : Int64), (100000000000 : Int64), (1000000000000 : Int64), (10000000000000 : Int64), (100000000000000 : Int64), (1000000000000000 : Int64), (10000000000000000 : Int64), (100000000000000000 : Int64), (1000000000000000000 : Int64)].getD j 0 := ⟨_, rfl⟩
  have h19 : ∀ j : Nat, j < 19 → j = 0 ∨ j = 1 ∨ j = 2 ∨ j = 3 ∨ j = 4 ∨ j = 5 ∨ j = 6 ∨ j = 7 ∨ j = 8 ∨ j = 9 ∨ j = 10 ∨ j = 11 ∨ j = 12 ∨ j = 13 ∨ j = 14 ∨ j = 15 ∨ j = 16 ∨ j = 17 ∨ j = 18 := by intro j hj; omega
  have Ap : Afn Z h21 b .long 19 (fun j => .long (pw j)) := A_b_h21.congr (fun j hj => by
    rcases h19 j hj with rfl | rfl | rfl | rfl | rfl | rfl | rfl | rfl | rfl | rfl | rfl | rfl | rfl | rfl | rfl | rfl | rfl | rfl | rfl <;> (subst hpw; rfl))
  have hp10 : ∀ j : Nat, j < 19 → (pw j).toInt = ((10 ^ j : Nat) : Int) := by
    intro j hj
    rcases h19 j hj with rfl | rfl | rfl | rfl | rfl | rfl | rfl | rfl | rfl | rfl | rfl | rfl | rfl | rfl | rfl | rfl | rfl | rfl | rfl <;> (subst hpw; decide)
  clear hpw h19
  refine w_iloadN O at_131 (pc' := 132) rfl rfl ?_
  refine w_bipush O at_132 (z := (7 : Int32)) (pc' := 134) rfl rfl ?_
  refine w_iand O at_134 (pc' := 135) rfl ?_
  refine w_istoreG O at_135 (L' := fun zq => #[.val (.long v), .second, .val (.int u1), .val (.int u2), .val (.ref b), .val (.int zq), .unset, .unset, .unset, .unset, .unset, .unset, .unset, .unset, .unset, .unset]) (pc' := 137) rfl (fun _ => rfl) (fun at_ e_at_ => ?_)
  have i23 : (u1 &&& (7 : Int32)).toInt = u1.toInt % 8 := c_mask u1 (7 : Int32) 3 (by decide) (by decide)
  have j_at_ := congrArg Int32.toInt e_at_
  have r_at_ := rng32 at_
  obtain ⟨a, ha⟩ : ∃ a : Nat, at_.toInt = (a : Int) := ⟨at_.toInt.toNat, by omega⟩
  have ha7 : a ≤ 7 := by omega
  have rv := rng64 v
  obtain ⟨M, sg, hv⟩ : ∃ M sg : Nat, SgOf v M sg := by
    unfold SgOf
    by_cases q : v.toInt < 0
    · exact ⟨(-v.toInt).toNat, 1, Or.inl ⟨q, rfl, by omega⟩⟩
    · exact ⟨v.toInt.toNat, 0, Or.inr ⟨q, rfl, by omega⟩⟩
  have hsg := hv.b
  clear rv
  clear i23 j_at_
  refine w_lloadN O at_137 (pc' := 138) rfl rfl ?_
  refine w_lconst O at_138 (z := (0 : Int64)) (pc' := 139) rfl rfl ?_
  have J149 : ∀ (ng : Int64), ng.toInt = -(M : Int) → W K h21 1 19 149 #[.val (.long v), .second, .val (.int u1), .val (.int u2), .val (.ref b), .val (.int at_), .unset, .unset, .unset, .unset, .unset, .unset, .unset, .unset, .unset, .unset] [(.long ng)] := by
    intro ng hJ149
    refine w_lstore O at_149 (L' := #[.val (.long v), .second, .val (.int u1), .val (.int u2), .val (.ref b), .val (.int at_), .val (.long ng), .second, .unset, .unset, .unset, .unset, .unset, .unset, .unset, .unset]) (pc' := 151) rfl rfl ?_
    refine w_lload O at_151 (pc' := 153) rfl rfl ?_
    refine w_static O at_153 (as := [(.long ng)]) (st := []) (wt := 0) (cl' := 1) (sl' := 19) (pc' := 156) rfl (mw 19 rfl) (mw 20 rfl) (mw 21 rfl) (mw 22 rfl) (by decide) (con_dc l Z a0 hw ng h21 n0 M hJ149) rfl pd_0 rfl rfl rfl (by decide) (by decide) rfl rfl (by decide) (by decide) (cI fun len _ ⟨qq, Ln, hLn, hDg⟩ => ?_)
    rw [qq]
    obtain ⟨hL1, hL19, hL3, hL4⟩ := id hDg
    refine w_istore O at_156 (L' := #[.val (.long v), .second, .val (.int u1), .val (.int u2), .val (.ref b), .val (.int at_), .val (.long ng), .second, .val (.int len), .unset, .unset, .unset, .unset, .unset, .unset, .unset]) (pc' := 158) rfl rfl ?_
    refine w_lloadN O at_158 (pc' := 159) rfl rfl ?_
    refine w_lconst O at_159 (z := (0 : Int64)) (pc' := 160) rfl rfl ?_
    have J169 : ∀ (sgv : Int32), sgv.toInt = (sg : Int) → W K h21 1 19 169 #[.val (.long v), .second, .val (.int u1), .val (.int u2), .val (.ref b), .val (.int at_), .val (.long ng), .second, .val (.int len), .unset, .unset, .unset, .unset, .unset, .unset, .unset] [(.int sgv)] := by
      intro sgv hJ169
      refine w_istore O at_169 (L' := #[.val (.long v), .second, .val (.int u1), .val (.int u2), .val (.ref b), .val (.int at_), .val (.long ng), .second, .val (.int len), .val (.int sgv), .unset, .unset, .unset, .unset, .unset, .unset]) (pc' := 171) rfl rfl ?_
      refine w_iloadN O at_171 (pc' := 172) rfl rfl ?_
      refine w_ldc O at_172 (pc' := 174) rfl (mw 24 rfl) ?_
      refine w_iand O at_174 (pc' := 175) rfl ?_
      refine w_iload O at_175 (pc' := 177) rfl rfl ?_
      refine w_irem O at_177 (pc' := 178) rfl (nz32 (by omega)) ?_
      refine w_istoreG O at_178 (L' := fun zq => #[.val (.long v), .second, .val (.int u1), .val (.int u2), .val (.ref b), .val (.int at_), .val (.long ng), .second, .val (.int len), .val (.int sgv), .val (.int zq), .unset, .unset, .unset, .unset, .unset]) (pc' := 180) rfl (fun _ => rfl) (fun kk e_kk => ?_)
      have i25 : (u2 &&& (2147483647 : Int32)).toInt = u2.toInt % 2147483648 := c_mask u2 (2147483647 : Int32) 31 (by decide) (by decide)
      have i26 := c_iremV (u2 &&& (2147483647 : Int32)) len
      have j_kk := congrArg Int32.toInt e_kk
      have r_kk := rng32 kk
      obtain ⟨kn, hkn⟩ : ∃ kn : Nat, kk.toInt = (kn : Int) := ⟨kk.toInt.toNat, by omega⟩
      have hkL : kn < Ln := by omega
      have hpk := hp10 kn (by omega)
      have hpos : 0 < 10 ^ kn := pow10_pos kn
      have hnm1 : pw kn ≠ -1 := by intro q; rw [q] at hpk; exact absurd hpk (by have e : (-1 : Int64).toInt = -1 := (by decide); omega)
      have hdv := c_ldiv v (pw kn) _ hpk hnm1
      clear i25 i26 j_kk
      refine w_lloadN O at_180 (pc' := 181) rfl rfl ?_
      refine w_aload O at_181 (pc' := 183) rfl rfl rfl ?_
      refine w_iload O at_183 (pc' := 185) rfl rfl ?_
      refine w_laload O at_185 (i := kn) (x := (pw kn)) (pc' := 186) rfl Ap hkn (by omega) rfl ?_
      refine w_ldiv O at_186 (pc' := 187) rfl (nz64 (by omega)) ?_
      refine w_ldc2 O at_187 (pc' := 190) rfl (mw 1 rfl) ?_
      refine w_lrem O at_190 (pc' := 191) rfl (by decide) ?_
      refine w_lstoreG O at_191 (L' := fun zq => #[.val (.long v), .second, .val (.int u1), .val (.int u2), .val (.ref b), .val (.int at_), .val (.long ng), .second, .val (.int len), .val (.int sgv), .val (.int kk), .val (.long zq), .second, .unset, .unset, .unset]) (pc' := 193) rfl (fun _ => rfl) (fun dq e_dq => ?_)
      have i28 : (0 ≤ (v / (pw kn)).toInt → ((v / (pw kn)) % (10 : Int64)).toInt = (v / (pw kn)).toInt % 10) ∧ ((v / (pw kn)).toInt < 0 → ((v / (pw kn)) % (10 : Int64)).toInt = -((-(v / (pw kn)).toInt) % 10)) := c_lremP (v / (pw kn)) (10 : Int64) 10 (by decide)
      have j_dq := congrArg Int64.toInt e_dq
      have r_dq := rng64 dq
      have hdq : dq.toInt = ((M / 10 ^ kn % 10 : Nat) : Int) ∨ dq.toInt = -((M / 10 ^ kn % 10 : Nat) : Int) := by
        unfold SgOf at hv
        rcases hv with ⟨q1, q2, q3⟩ | ⟨q1, q2, q3⟩
        · have z1 := hdv.2 q1
          rw [q3, Int.neg_neg, ← Int.natCast_ediv] at z1
          clear hdv
          generalize M / 10 ^ kn = X at z1 ⊢
          omega
        · have z1 := hdv.1 (by omega)
          rw [q3, ← Int.natCast_ediv] at z1
          clear hdv
          generalize M / 10 ^ kn = X at z1 ⊢
          omega
      clear hdv
      clear i28 j_dq
      refine w_bipush O at_193 (z := (48 : Int32)) (pc' := 195) rfl rfl ?_
      refine w_lload O at_195 (pc' := 197) rfl rfl ?_
      refine w_static O at_197 (as := [(.long dq)]) (st := [(.int (48 : Int32))]) (wt := 1) (cl' := 1) (sl' := 19) (pc' := 200) rfl (mw 25 rfl) (mw 26 rfl) (mw 27 rfl) (mw 28 rfl) (by decide) (con_abs l Z a0 hw dq h21 n0) rfl pd_1 rfl rfl rfl (by decide) (by decide) rfl rfl (by decide) (by decide) (cL fun ab _ ⟨qq, sab⟩ => ?_)
      rw [qq]
      refine w_l2i O at_200 (pc' := 201) rfl ?_
      refine w_iadd O at_201 (pc' := 202) rfl ?_
      refine w_i2b O at_202 (pc' := 203) rfl ?_
      refine w_istoreG O at_203 (L' := fun zq => #[.val (.long v), .second, .val (.int u1), .val (.int u2), .val (.ref b), .val (.int at_), .val (.long ng), .second, .val (.int len), .val (.int sgv), .val (.int kk), .val (.long dq), .second, .val (.int zq), .unset, .unset]) (pc' := 205) rfl (fun _ => rfl) (fun ed e_ed => ?_)
      have i30 := c_l2i ab
      have i31 := rng32 (ab.toInt32)
      have i32 : (((48 : Int32) + (ab.toInt32)).toInt - (48 + (ab.toInt32).toInt)) % 4294967296 = 0 := c_iadd (48 : Int32) (ab.toInt32)
      have i33 := rng32 ((48 : Int32) + (ab.toInt32))
      have i34 := c_i2b ((48 : Int32) + (ab.toInt32))
      have j_ed := congrArg Int32.toInt e_ed
      have r_ed := rng32 ed
      have hed : ed.toInt = 48 + ((M / 10 ^ kn % 10 : Nat) : Int) := by
        have z2 := c_lneg dq
        have z3 := rng64 (-dq)
        have hm10 := Nat.mod_lt (M / 10 ^ kn) (show 0 < 10 by decide)
        rcases sab with ⟨q1, rfl⟩ | ⟨q1, rfl⟩ <;> omega
      clear sab hdq
      clear i30 i31 i32 i33 i34 j_ed
      refine w_bipush O at_205 (z := (28 : Int32)) (pc' := 207) rfl rfl ?_
      refine w_newarr O at_207 (ty := .byte) (dv := (.int (0 : Int32))) (n := 28) (cap := 28) (cl' := 2) (sl' := 47) (pc' := 209) rfl rfl rfl (mw 29 rfl) (by decide) (by decide) (by decide) rfl rfl (by decide) (by decide) (fun h35 bo qbo g_bo Eh35 A_bo => ?_)
      have ne_b_bo : b ≠ bo := Nat.ne_of_lt (by rw [qbo]; exact Ap.lt)
      have Ap_h35 := Ap.ext Eh35
      refine w_astore O at_209 (L' := #[.val (.long v), .second, .val (.int u1), .val (.int u2), .val (.ref b), .val (.int at_), .val (.long ng), .second, .val (.int len), .val (.int sgv), .val (.int kk), .val (.long dq), .second, .val (.int ed), .val (.ref bo), .unset]) (pc' := 211) rfl rfl rfl ?_
      refine w_aload O at_211 (pc' := 213) rfl rfl rfl ?_
      refine w_iload O at_213 (pc' := 215) rfl rfl ?_
      refine w_lloadN O at_215 (pc' := 216) rfl rfl ?_
      refine w_static O at_216 (as := [(.ref bo), (.int at_), (.long v)]) (st := []) (wt := 0) (cl' := 2) (sl' := 47) (pc' := 219) rfl (mw 30 rfl) (mw 31 rfl) (mw 32 rfl) (mw 33 rfl) (by decide) (con_put l Z a0 hw bo at_ v h35 n0 (fun _ => 0) a A_bo ha (by omega) g_bo) rfl pd_2 rfl rfl rfl (by decide) (by decide) rfl rfl (by decide) (by decide) (cI fun en h37 ⟨M', k', sg', hv', hDg', hen, g, Ag, hg1, hg2, hg3⟩ => ?_)
      obtain ⟨rfl, rfl⟩ : M = M' ∧ sg = sg' := hv.uniq hv'
      obtain rfl : Ln = k' := Dg.uniq hDg hDg'
      refine w_istore O at_219 (L' := #[.val (.long v), .second, .val (.int u1), .val (.int u2), .val (.ref b), .val (.int at_), .val (.long ng), .second, .val (.int len), .val (.int sgv), .val (.int kk), .val (.long dq), .second, .val (.int ed), .val (.ref bo), .val (.int en)]) (pc' := 221) rfl rfl ?_
      refine w_iload O at_221 (pc' := 223) rfl rfl ?_
      refine w_iload O at_223 (pc' := 225) rfl rfl ?_
      refine w_iload O at_225 (pc' := 227) rfl rfl ?_
      refine w_iadd O at_227 (pc' := 228) rfl ?_
      refine w_iload O at_228 (pc' := 230) rfl rfl ?_
      refine w_iadd O at_230 (pc' := 231) rfl ?_
      have i38 : ((at_ + sgv).toInt - (at_.toInt + sgv.toInt)) % 4294967296 = 0 := c_iadd at_ sgv
      have i39 := rng32 (at_ + sgv)
      have i40 : (((at_ + sgv) + len).toInt - ((at_ + sgv).toInt + len.toInt)) % 4294967296 = 0 := c_iadd (at_ + sgv) len
      have i41 := rng32 ((at_ + sgv) + len)
      have he : en.toInt = ((at_ + sgv) + len).toInt := by
        omega
      refine w_icmp_eq O at_231 (pn := 234) (pt := 236) rfl (by decide) rfl (fun _ => ?_) (fun q => absurd he q)
      refine w_lloadN O at_236 (pc' := 237) rfl rfl ?_
      refine w_lconst O at_237 (z := (0 : Int64)) (pc' := 238) rfl rfl ?_
      refine w_lcmp_ge O at_238 (pi := 239) rfl at_239 (pn := 242) (pt := 254) rfl (by decide) rfl (fun c238 => ?_) (fun c238 => ?_)
      · replace c238 : ¬ v.toInt < 0 := c238
        refine w_aload O at_254 (pc' := 256) rfl rfl rfl ?_
        refine w_iload O at_256 (pc' := 258) rfl rfl ?_
        refine w_iconst O at_258 (z := (1 : Int32)) (pc' := 259) rfl rfl ?_
        refine w_isub O at_259 (pc' := 260) rfl ?_
        refine w_iload O at_260 (pc' := 262) rfl rfl ?_
        refine w_isub O at_262 (pc' := 263) rfl ?_
        have i42 : ((en - (1 : Int32)).toInt - (en.toInt - 1)) % 4294967296 = 0 := c_isub en (1 : Int32)
        have i43 := rng32 (en - (1 : Int32))
        have i44 : (((en - (1 : Int32)) - kk).toInt - ((en - (1 : Int32)).toInt - kk.toInt)) % 4294967296 = 0 := c_isub (en - (1 : Int32)) kk
        have i45 := rng32 ((en - (1 : Int32)) - kk)
        refine w_baload O at_263 (i := (a + sg + Ln - 1 - kn)) (x := (g (a + sg + Ln - 1 - kn))) (pc' := 264) rfl Ag (by omega) (by omega) rfl ?_
        refine w_iload O at_264 (pc' := 266) rfl rfl ?_
        have he : (g (a + sg + Ln - 1 - kn)).toInt = ed.toInt := by
          rw [hg1 _ (by omega) (by omega), show a + sg + Ln - 1 - (a + sg + Ln - 1 - kn) = kn by omega, hed]
        refine w_icmp_eq O at_266 (pn := 269) (pt := 271) rfl (by decide) rfl (fun _ => ?_) (fun q => absurd he q)
        refine w_aload O at_271 (pc' := 273) rfl rfl rfl ?_
        refine w_iload O at_273 (pc' := 275) rfl rfl ?_
        refine w_baload O at_275 (i := (a + sg + Ln)) (x := (g (a + sg + Ln))) (pc' := 276) rfl Ag hen (by omega) rfl ?_
        have he : (g (a + sg + Ln)).toInt = 0 := by rw [hg3 _ (Or.inr (by omega))]; decide
        refine w_if_eq O at_276 (pn := 279) (pt := 281) rfl (by decide) rfl (fun _ => ?_) (fun q => absurd he q)
        refine w_iload O at_281 (pc' := 283) rfl rfl ?_
        refine w_if_le O at_283 (pn := 286) (pt := 298) rfl (by decide) rfl (fun c283 => ?_) (fun c283 => ?_)
        · replace c283 : ¬ 0 < at_.toInt := c283
          refine w_iconst O at_298 (z := (1 : Int32)) (pc' := 299) rfl rfl ?_
          refine w_retz O at_299 (by decide) (by decide) (Or.inr rfl) ?_
          exact ⟨_, rfl, rfl⟩
        · replace c283 : 0 < at_.toInt := c283
          refine w_aload O at_286 (pc' := 288) rfl rfl rfl ?_
          refine w_iload O at_288 (pc' := 290) rfl rfl ?_
          refine w_iconst O at_290 (z := (1 : Int32)) (pc' := 291) rfl rfl ?_
          refine w_isub O at_291 (pc' := 292) rfl ?_
          have i46 : ((at_ - (1 : Int32)).toInt - (at_.toInt - 1)) % 4294967296 = 0 := c_isub at_ (1 : Int32)
          have i47 := rng32 (at_ - (1 : Int32))
          refine w_baload O at_292 (i := (a - 1)) (x := (g (a - 1))) (pc' := 293) rfl Ag (by omega) (by omega) rfl ?_
          have he : (g (a - 1)).toInt = 0 := by rw [hg3 _ (Or.inl (by omega))]; decide
          refine w_if_eq O at_293 (pn := 296) (pt := 298) rfl (by decide) rfl (fun _ => ?_) (fun q => absurd he q)
          refine w_iconst O at_298 (z := (1 : Int32)) (pc' := 299) rfl rfl ?_
          refine w_retz O at_299 (by decide) (by decide) (Or.inr rfl) ?_
          exact ⟨_, rfl, rfl⟩
      · replace c238 : v.toInt < 0 := c238
        refine w_aload O at_242 (pc' := 244) rfl rfl rfl ?_
        refine w_iload O at_244 (pc' := 246) rfl rfl ?_
        refine w_baload O at_246 (i := a) (x := (g a)) (pc' := 247) rfl Ag ha (by omega) rfl ?_
        refine w_bipush O at_247 (z := (45 : Int32)) (pc' := 249) rfl rfl ?_
        have he : (g a).toInt = 45 := by
          exact hg2 (by unfold SgOf at hv; omega)
        refine w_icmp_eq O at_249 (pn := 252) (pt := 254) rfl (by decide) rfl (fun _ => ?_) (fun q => absurd he q)
        refine w_aload O at_254 (pc' := 256) rfl rfl rfl ?_
        refine w_iload O at_256 (pc' := 258) rfl rfl ?_
        refine w_iconst O at_258 (z := (1 : Int32)) (pc' := 259) rfl rfl ?_
        refine w_isub O at_259 (pc' := 260) rfl ?_
        refine w_iload O at_260 (pc' := 262) rfl rfl ?_
        refine w_isub O at_262 (pc' := 263) rfl ?_
        have i48 : ((en - (1 : Int32)).toInt - (en.toInt - 1)) % 4294967296 = 0 := c_isub en (1 : Int32)
        have i49 := rng32 (en - (1 : Int32))
        have i50 : (((en - (1 : Int32)) - kk).toInt - ((en - (1 : Int32)).toInt - kk.toInt)) % 4294967296 = 0 := c_isub (en - (1 : Int32)) kk
        have i51 := rng32 ((en - (1 : Int32)) - kk)
        refine w_baload O at_263 (i := (a + sg + Ln - 1 - kn)) (x := (g (a + sg + Ln - 1 - kn))) (pc' := 264) rfl Ag (by omega) (by omega) rfl ?_
        refine w_iload O at_264 (pc' := 266) rfl rfl ?_
        have he : (g (a + sg + Ln - 1 - kn)).toInt = ed.toInt := by
          rw [hg1 _ (by omega) (by omega), show a + sg + Ln - 1 - (a + sg + Ln - 1 - kn) = kn by omega, hed]
        refine w_icmp_eq O at_266 (pn := 269) (pt := 271) rfl (by decide) rfl (fun _ => ?_) (fun q => absurd he q)
        refine w_aload O at_271 (pc' := 273) rfl rfl rfl ?_
        refine w_iload O at_273 (pc' := 275) rfl rfl ?_
        refine w_baload O at_275 (i := (a + sg + Ln)) (x := (g (a + sg + Ln))) (pc' := 276) rfl Ag hen (by omega) rfl ?_
        have he : (g (a + sg + Ln)).toInt = 0 := by rw [hg3 _ (Or.inr (by omega))]; decide
        refine w_if_eq O at_276 (pn := 279) (pt := 281) rfl (by decide) rfl (fun _ => ?_) (fun q => absurd he q)
        refine w_iload O at_281 (pc' := 283) rfl rfl ?_
        refine w_if_le O at_283 (pn := 286) (pt := 298) rfl (by decide) rfl (fun c283 => ?_) (fun c283 => ?_)
        · replace c283 : ¬ 0 < at_.toInt := c283
          refine w_iconst O at_298 (z := (1 : Int32)) (pc' := 299) rfl rfl ?_
          refine w_retz O at_299 (by decide) (by decide) (Or.inr rfl) ?_
          exact ⟨_, rfl, rfl⟩
        · replace c283 : 0 < at_.toInt := c283
          refine w_aload O at_286 (pc' := 288) rfl rfl rfl ?_
          refine w_iload O at_288 (pc' := 290) rfl rfl ?_
          refine w_iconst O at_290 (z := (1 : Int32)) (pc' := 291) rfl rfl ?_
          refine w_isub O at_291 (pc' := 292) rfl ?_
          have i52 : ((at_ - (1 : Int32)).toInt - (at_.toInt - 1)) % 4294967296 = 0 := c_isub at_ (1 : Int32)
          have i53 := rng32 (at_ - (1 : Int32))
          refine w_baload O at_292 (i := (a - 1)) (x := (g (a - 1))) (pc' := 293) rfl Ag (by omega) (by omega) rfl ?_
          have he : (g (a - 1)).toInt = 0 := by rw [hg3 _ (Or.inl (by omega))]; decide
          refine w_if_eq O at_293 (pn := 296) (pt := 298) rfl (by decide) rfl (fun _ => ?_) (fun q => absurd he q)
          refine w_iconst O at_298 (z := (1 : Int32)) (pc' := 299) rfl rfl ?_
          refine w_retz O at_299 (by decide) (by decide) (Or.inr rfl) ?_
          exact ⟨_, rfl, rfl⟩
    refine w_lcmp_ge O at_160 (pi := 161) rfl at_161 (pn := 164) (pt := 168) rfl (by decide) rfl (fun c160 => ?_) (fun c160 => ?_)
    · replace c160 : ¬ v.toInt < 0 := c160
      refine w_iconst O at_168 (z := (0 : Int32)) (pc' := 169) rfl rfl ?_
      exact J169 (0 : Int32) (by unfold SgOf at hv; first | (show (1 : Int) = _; omega) | (show (0 : Int) = _; omega))
    · replace c160 : v.toInt < 0 := c160
      refine w_iconst O at_164 (z := (1 : Int32)) (pc' := 165) rfl rfl ?_
      refine w_goto O at_165 (pc' := 169) (by decide) rfl ?_
      exact J169 (1 : Int32) (by unfold SgOf at hv; first | (show (1 : Int) = _; omega) | (show (0 : Int) = _; omega))
  refine w_lcmp_ge O at_139 (pi := 140) rfl at_140 (pn := 143) (pt := 147) rfl (by decide) rfl (fun c139 => ?_) (fun c139 => ?_)
  · replace c139 : ¬ v.toInt < 0 := c139
    refine w_lloadN O at_147 (pc' := 148) rfl rfl ?_
    refine w_lneg O at_148 (pc' := 149) rfl ?_
    have i54 : ((-v).toInt - (-v.toInt)) % 18446744073709551616 = 0 := c_lneg v
    have i55 := rng64 (-v)
    exact J149 (-v) (by have rv := rng64 v; unfold SgOf at hv; omega)
  · replace c139 : v.toInt < 0 := c139
    refine w_lloadN O at_143 (pc' := 144) rfl rfl ?_
    refine w_goto O at_144 (pc' := 149) (by decide) rfl ?_
    exact J149 v (by have rv := rng64 v; unfold SgOf at hv; omega)
set_option maxRecDepth 65536 in
set_option maxHeartbeats 40000000 in
theorem comes_1 {Post : Tables → Env → Array Value → State → Outcome → State → Prop} (hpost : ∀ tb e args s v u, (limb_1_1.after args s (.returned v) u = true ∧ limb_1_2.after args s (.returned v) u = true ∧ True) → FrameEnd s (.returned v) u (Jvm.fieldLocs frame_1_writes args s ++ Jvm.arrayLocs frame_1_arrays args s ++ Jvm.staticLocs frame_1_statics s) 16 192 → Post tb e args s (.returned v) u) :
    ArmFor flags0 classFile x code maxLocals ret World_1 tables_1 room_1 Calls_1 rest_1 Pre_1 Post := by
  intro l hfl _ _ p e ha hc hk s m args below hf hA hF happ hP
  obtain ⟨hcalls, hrest, hpre⟩ := hP
  obtain ⟨-, -, -, hnamed, -, -, -, hat⟩ := (Spec.applies_iff hf).mp happ
  obtain ⟨hg, hn⟩ := and_e (Cond.before_iff.mp (show (Jvm.Cond.and given_1 narrow_1).before args s = true from hpre))
  obtain ⟨g1, g2⟩ := and_e hg
  obtain ⟨g3, g4⟩ := and_e g2
  obtain ⟨g5, g6⟩ := and_e g4
  obtain ⟨w0, w1, w2, rfl⟩ : ∃ w0 w1 w2 : Value, args = #[w0, w1, w2] := by
    have hs : args.size = 3 := by simpa [Cond.value, given_1] using g1
    obtain ⟨L⟩ := args
    match L, hs with
    | [w0, w1, w2], _ => exact ⟨w0, w1, w2, rfl⟩
  have hw := fun d (hd : d ∈ tables_1) => atoms_spec (ws := Jvm.Cond.code x code maxLocals ret :: tables_1) hat d (List.mem_cons_of_mem _ hd)
  have hfit : Fit s := fun {y c} hc i hi => by
    obtain ⟨ha, rfl⟩ := Array.getElem?_eq_some_iff.mp hc
    have q := List.all_eq_true.mp ((Array.all_eq_true_iff_forall_mem.mp hF) _ (Array.getElem_mem ha)) i (List.mem_range.mpr hi)
    simpa [Array.getElem?_eq_getElem hi] using q
  obtain ⟨i0, ei0⟩ := isL_v g3
  obtain rfl : w0 = (.long i0) := Option.some.inj ei0
  obtain ⟨i1, ei1⟩ := is_v g5
  obtain rfl : w1 = (.int i1) := Option.some.inj ei1
  obtain ⟨i2, ei2⟩ := is_v g6
  obtain rfl : w2 = (.int i2) := Option.some.inj ei2
  obtain ⟨n, o, h1, h2, h3, _, L, rfl, ⟨⟨r, rfl, rfl⟩, N⟩, hq⟩ := (law_con l s _ hw i0 i1 i2 s.heap s.heap.size) (Nat.le_refl _) tables_1 p e ha hc hk s m _ below hf ((Spec.applies_iff_loose hf).mp happ).1 ⟨rfl, State.Warmed39.refl s, rfl⟩ trivial
  refine ⟨n, _, h1, h2, h3, hpost _ _ _ _ _ _ ⟨Cond.after_iff.mpr rfl, Cond.after_iff.mpr (eq_i res_at (Term.int_eval (1)) rfl), trivial⟩ ⟨hq.1, hq.2.1, (hq.2.2.sift fun y hy => Or.inr (N y hy)).mono (by decide) (by decide)⟩⟩
theorem main_1_1 : Claimed_1_1 := comes_1 fun _ _ _ _ _ _ h hF => ⟨h.1, hF⟩
theorem main_1_2 : Claimed_1_2 := comes_1 fun _ _ _ _ _ _ h hF => ⟨h.2.1, hF⟩
end Jvm.Pilot.@@N@@
namespace Jvm.Pilot.@@N@@
open Jvm Jvm.ClassFile Sem Op Lib Jvm.Free Jvm.Stand Jvm.Pilot.@@N@@.Jvm.D
/-! MADE BY PROGRAM (witnessworld.py) out of the Statement's table words and the real class files: 12 classes; the members and pool entries that the words name. The judged class is class 1, her method 2. -/
namespace start1
open Jvm.ClassFile
def u (s : String) : CpInfo := .utf8 (stringToUtf16 s)
/-- a pool by its gaps: so many unusable entries, then the entry; so many at the end -/
def gap : Nat → List CpInfo → List CpInfo
  | 0, r => r
  | n + 1, r => .unusable :: gap n r
def poolList (es : List (Nat × CpInfo)) (last : Nat) : List CpInfo := es.foldr (fun e r => gap e.1 (e.2 :: r)) (gap last [])
def pool (es : List (Nat × CpInfo)) (last : Nat) : Array CpInfo := ⟨poolList es last⟩
def fileOf (pool : Array CpInfo) (this : Nat) (attrs : Array Attribute := #[]) (ms : Array MethodInfo := #[]) (fl : Nat := 33) (sup : Nat := 0) (ifs : Array Nat := #[]) (fds : Array FieldInfo := #[]) : ClassFile where
  minorVersion := 0
  majorVersion := 65
  constantPool := pool
  accessFlags := fl
  thisClass := this
  superClass := sup
  interfaces := ifs
  fields := fds
  methods := ms
  attributes := attrs
def plain (name : String) (sup : Option ClassId) : Class where
  name := name
  kind := .ordinary
  loader := none
  accessFlags := 33
  super := sup
  interfaces := #[]
  cf := none
  fields := #[]
  methods := #[]
  instanceTypes := #[]
  staticTypes := #[]
  resolved := #[]
  callSites := []
  init := .initialized
  statics := none
  mirror := none

def pool0 : Array CpInfo := pool [(5, u "<init>"), (0, u "()V"), (1, .class_ 10), (1, u "java/lang/Object")] 113

def k0m0 : Method := { name := "<init>", desc := "()V", sig := { parameters := [], returnType := none }, accessFlags := 1, code := none }
/-- java/lang/Object -/
def k0 : Class := { plain "java/lang/Object" none with
  accessFlags := 33
  interfaces := #[]
  cf := some (fileOf pool0 8 #[] #[{ accessFlags := 1, nameIndex := 5, descriptorIndex := 6, attributes := #[] }] 33 0 #[] #[])
  fields := #[]
  methods := #[k0m0]
  instanceTypes := #[]
  staticTypes := #[]
  resolved := Array.replicate 124 none
  statics := none }

def pool1 : Array CpInfo := pool [(2, .class_ 4), (1, u "java/lang/Object"), (0, u "<init>"), (0, u "()V"), (0, .long 18446744073709551606), (1, .long 18446744073709551516), (1, .long 18446744073709550616), (1, .long 18446744073709541616), (1, .long 18446744073709451616), (1, .long 18446744073708551616), (1, .long 18446744073699551616), (1, .long 18446744073609551616), (1, .long 18446744072709551616), (1, .long 18446744063709551616), (1, .long 18446743973709551616), (1, .long 18446743073709551616), (1, .long 18446734073709551616), (1, .long 18446644073709551616), (1, .long 18445744073709551616), (1, .long 18436744073709551616), (1, .long 18346744073709551616), (1, .long 17446744073709551616), (1, .long 10), (1, .long 100), (1, .long 1000), (1, .long 10000), (1, .long 100000), (1, .long 1000000), (1, .long 10000000), (1, .long 100000000), (1, .long 1000000000), (1, .long 10000000000), (1, .long 100000000000), (1, .long 1000000000000), (1, .long 10000000000000), (1, .long 100000000000000), (1, .long 1000000000000000), (1, .long 10000000000000000), (1, .long 100000000000000000), (1, .long 1000000000000000000), (1, .methodref 80 81), (0, .class_ 82), (0, .nameAndType 83 84), (0, u "com/example/lean_crowd/leancrowd/output/DecimalsPutPinLaw"), (0, u "digitCount"), (0, u "(J)I"), (0, .integer 2147483647), (0, .methodref 87 88), (0, .class_ 89), (0, .nameAndType 90 91), (0, u "java/lang/Math"), (0, u "abs"), (0, u "(J)J"), (0, .methodref 93 94), (0, .class_ 95), (0, .nameAndType 96 97), (0, u "com/example/lean_crowd/leancrowd/output/Decimals"), (0, u "put"), (0, u "([BIJ)I"), (3, u "law"), (0, u "(JII)Z")] 6

def k1m0 : Method := { name := "<init>", desc := "()V", sig := { parameters := [], returnType := none }, accessFlags := 2, code := none }
def k1c1 : Code := { maxStack := 4, maxLocals := 2, code := method_2_code, exceptionTable := #[], attributes := #[] }
def k1m1 : Method := { name := "digitCount", desc := "(J)I", sig := { parameters := [.long], returnType := some .int }, accessFlags := 10, code := some k1c1 }
def k1c2 : Code := { maxStack := 5, maxLocals := 16, code := code, exceptionTable := #[], attributes := #[] }
def k1m2 : Method := { name := "law", desc := "(JII)Z", sig := { parameters := [.long, .int, .int], returnType := some .boolean }, accessFlags := 9, code := some k1c2 }
/-- com/example/lean_crowd/leancrowd/output/DecimalsPutPinLaw -/
def k1 : Class := { plain "com/example/lean_crowd/leancrowd/output/DecimalsPutPinLaw" (some 0) with
  accessFlags := 49
  interfaces := #[]
  cf := some (fileOf pool1 80 #[] #[{ accessFlags := 2, nameIndex := 5, descriptorIndex := 6, attributes := #[] }, { accessFlags := 10, nameIndex := 83, descriptorIndex := 84, attributes := #[] }, { accessFlags := 9, nameIndex := 101, descriptorIndex := 102, attributes := #[] }] 49 2 #[] #[])
  fields := #[]
  methods := #[k1m0, k1m1, k1m2]
  instanceTypes := #[]
  staticTypes := #[]
  resolved := Array.replicate 109 none
  statics := none }

def pool2 : Array CpInfo := pool [(1, .class_ 2), (0, u "java/lang/Math"), (1, .class_ 6), (1, u "java/lang/Object"), (0, u "<init>"), (0, u "()V"), (89, .class_ 100), (1, u "java/lang/Math$RandomNumberGeneratorHolder"), (23, u "abs"), (0, u "(J)J"), (46, u "negativeZeroFloatBits"), (0, u "J"), (2, u "negativeZeroDoubleBits"), (68, u "$assertionsDisabled"), (0, u "Z"), (91, u "twoToTheDoubleScaleDown"), (0, u "D"), (4, u "twoToTheDoubleScaleUp"), (9, u "E"), (3, u "PI"), (2, u "TAU"), (2, u "DEGREES_TO_RADIANS"), (0, u "RADIANS_TO_DEGREES")] 94

def k2m0 : Method := { name := "<init>", desc := "()V", sig := { parameters := [], returnType := none }, accessFlags := 2, code := none }
def k2c1 : Code := { maxStack := 4, maxLocals := 2, code := jdk_29_method_61_code, exceptionTable := #[], attributes := #[] }
def k2m1 : Method := { name := "abs", desc := "(J)J", sig := { parameters := [.long], returnType := some .long }, accessFlags := 9, code := some k2c1 }
/-- java/lang/Math -/
def k2 : Class := { plain "java/lang/Math" (some 0) with
  accessFlags := 49
  interfaces := #[]
  cf := some (fileOf pool2 1 #[.nestMembers #[98]] #[{ accessFlags := 2, nameIndex := 7, descriptorIndex := 8, attributes := #[] }, { accessFlags := 9, nameIndex := 124, descriptorIndex := 125, attributes := #[] }] 49 4 #[] #[{ accessFlags := 25, nameIndex := 354, descriptorIndex := 339, attributes := #[] }, { accessFlags := 25, nameIndex := 358, descriptorIndex := 339, attributes := #[] }, { accessFlags := 25, nameIndex := 361, descriptorIndex := 339, attributes := #[] }, { accessFlags := 26, nameIndex := 364, descriptorIndex := 339, attributes := #[] }, { accessFlags := 26, nameIndex := 365, descriptorIndex := 339, attributes := #[] }, { accessFlags := 26, nameIndex := 172, descriptorIndex := 173, attributes := #[] }, { accessFlags := 26, nameIndex := 176, descriptorIndex := 173, attributes := #[] }, { accessFlags := 8, nameIndex := 344, descriptorIndex := 339, attributes := #[] }, { accessFlags := 8, nameIndex := 338, descriptorIndex := 339, attributes := #[] }, { accessFlags := 4120, nameIndex := 245, descriptorIndex := 246, attributes := #[] }])
  fields := #[{ name := "E", type := .double, accessFlags := 25, slot := 0, constantValue := 0 }, { name := "PI", type := .double, accessFlags := 25, slot := 1, constantValue := 0 }, { name := "TAU", type := .double, accessFlags := 25, slot := 2, constantValue := 0 }, { name := "DEGREES_TO_RADIANS", type := .double, accessFlags := 26, slot := 3, constantValue := 0 }, { name := "RADIANS_TO_DEGREES", type := .double, accessFlags := 26, slot := 4, constantValue := 0 }, { name := "negativeZeroFloatBits", type := .long, accessFlags := 26, slot := 5, constantValue := 0 }, { name := "negativeZeroDoubleBits", type := .long, accessFlags := 26, slot := 6, constantValue := 0 }, { name := "twoToTheDoubleScaleUp", type := .double, accessFlags := 8, slot := 7, constantValue := 0 }, { name := "twoToTheDoubleScaleDown", type := .double, accessFlags := 8, slot := 8, constantValue := 0 }, { name := "$assertionsDisabled", type := .boolean, accessFlags := 4120, slot := 9, constantValue := 0 }]
  methods := #[k2m0, k2m1]
  instanceTypes := #[]
  staticTypes := #[.double, .double, .double, .double, .double, .long, .long, .double, .double, .boolean]
  resolved := Array.replicate 460 none
  statics := none }

def pool3 : Array CpInfo := pool [(2, .class_ 4), (1, u "java/lang/Object"), (0, u "<init>"), (0, u "()V"), (6, .class_ 15), (1, u "com/example/lean_crowd/leancrowd/output/Decimals"), (14, u "put"), (21, u "POWERS_OF_TEN"), (0, u "[J"), (13, .long 10), (3, u "([BIJ)I"), (0, .long 48), (52, u "MOST_BYTES"), (0, u "I"), (2, u "EXACT_WHOLE_BELOW"), (0, u "D")] 10

def k3m0 : Method := { name := "<init>", desc := "()V", sig := { parameters := [], returnType := none }, accessFlags := 2, code := none }
def k3c1 : Code := { maxStack := 8, maxLocals := 11, code := prog_51_method_6_code, exceptionTable := #[], attributes := #[] }
def k3m1 : Method := { name := "put", desc := "([BIJ)I", sig := { parameters := [(.array .byte), .int, .long], returnType := some .int }, accessFlags := 8, code := some k3c1 }
/-- com/example/lean_crowd/leancrowd/output/Decimals -/
def k3 : Class := { plain "com/example/lean_crowd/leancrowd/output/Decimals" (some 0) with
  accessFlags := 48
  interfaces := #[]
  cf := some (fileOf pool3 13 #[] #[{ accessFlags := 2, nameIndex := 5, descriptorIndex := 6, attributes := #[] }, { accessFlags := 8, nameIndex := 30, descriptorIndex := 71, attributes := #[] }] 48 2 #[] #[{ accessFlags := 24, nameIndex := 125, descriptorIndex := 126, attributes := #[] }, { accessFlags := 26, nameIndex := 52, descriptorIndex := 53, attributes := #[] }, { accessFlags := 26, nameIndex := 129, descriptorIndex := 130, attributes := #[] }])
  fields := #[{ name := "MOST_BYTES", type := .int, accessFlags := 24, slot := 0, constantValue := 0 }, { name := "POWERS_OF_TEN", type := (.array .long), accessFlags := 26, slot := 1, constantValue := 0 }, { name := "EXACT_WHOLE_BELOW", type := .double, accessFlags := 26, slot := 2, constantValue := 0 }]
  methods := #[k3m0, k3m1]
  instanceTypes := #[]
  staticTypes := #[.int, (.array .long), .double]
  resolved := Array.replicate 141 none
  statics := none }

def pool4 : Array CpInfo := pool [(1, u "java/lang/Cloneable"), (0, .class_ 1), (0, u "java/lang/Object"), (0, .class_ 3)] 3

/-- java/lang/Cloneable -/
def k4 : Class := { plain "java/lang/Cloneable" (some 0) with
  accessFlags := 1537
  interfaces := #[]
  cf := some (fileOf pool4 2 #[] #[] 1537 4 #[] #[])
  fields := #[]
  methods := #[]
  instanceTypes := #[]
  staticTypes := #[]
  resolved := Array.replicate 8 none
  statics := none }

def pool5 : Array CpInfo := pool [(1, u "java/io/Serializable"), (0, .class_ 1), (0, u "java/lang/Object"), (0, .class_ 3)] 3

/-- java/io/Serializable -/
def k5 : Class := { plain "java/io/Serializable" (some 0) with
  accessFlags := 1537
  interfaces := #[]
  cf := some (fileOf pool5 2 #[] #[] 1537 4 #[] #[])
  fields := #[]
  methods := #[]
  instanceTypes := #[]
  staticTypes := #[]
  resolved := Array.replicate 8 none
  statics := none }

/-- the primitive byte -/
def k6 : Class := { plain "byte" none with kind := .primitive 'B', accessFlags := 0x411 }
/-- [B -/
def k7 : Class := { plain "[B" (some 0) with kind := .array 6 .byte, interfaces := #[4, 5], accessFlags := 1041 }

/-- the primitive int -/
def k8 : Class := { plain "int" none with kind := .primitive 'I', accessFlags := 0x411 }
/-- [I -/
def k9 : Class := { plain "[I" (some 0) with kind := .array 8 .int, interfaces := #[4, 5], accessFlags := 1041 }

/-- the primitive long -/
def k10 : Class := { plain "long" none with kind := .primitive 'J', accessFlags := 0x411 }
/-- [J -/
def k11 : Class := { plain "[J" (some 0) with kind := .array 10 .long, interfaces := #[4, 5], accessFlags := 1041 }

def heap : Heap := #[]
def classes : Array Class := #[k0, k1, k2, k3, k4, k5, k6, k7, k8, k9, k10, k11]
def interned : List (Array UInt16 × Addr) := []
def slotsUsed : Nat := 0
def theMethod : MethodId := ⟨1, 2⟩
def args0 : Array Value := #[.long 7, .int 1, .int 2]
def aboutOver (below : List Frame) : State where
  vm := { classes := classes, interned := interned.toArray }
  heap := heap
  slotsUsed := slotsUsed
  threads := #[{ frames := .invoking theMethod args0 :: below }]
def below0 : List Frame := [.native { method := ⟨0, 0⟩, args := #[] }]
def about1 : State := aboutOver below0
def p0 : Program := .bare "" "" ""
def e0 : Env := launch0.env 0 0 0
theorem w_frames : about1.frames = Frame.invoking theMethod args0 :: below0 := rfl
set_option maxRecDepth 65536 in
theorem w_args : argsFit about1.vm theMethod args0 = true := by decide +kernel
set_option maxRecDepth 65536 in
theorem w_heap : heapFits about1 = true := by decide +kernel
set_option maxRecDepth 65536 in
theorem w_runnable : about1.curStatus? = some .runnable := by decide +kernel
set_option maxRecDepth 65536 in
theorem w_alone : about1.alone = true := by decide +kernel
set_option maxRecDepth 65536 in
theorem w_named : about1.methodNamed? x = some theMethod := by decide +kernel
set_option maxRecDepth 65536 in
theorem w_hears : about1.hears theMethod below0 = true := by decide +kernel
set_option maxRecDepth 65536 in
theorem w_ripe : about1.ripe theMethod args0 below0 = true := by decide +kernel
theorem w_running : about1.status = .running := rfl
set_option maxRecDepth 65536 in
theorem w_room : about1.hasRoom e0.platform room_1 = true :=
  launch0.hasRoom_least _ room_1 (by decide +kernel) (by decide +kernel) (by decide +kernel) (by decide +kernel) (by decide +kernel) (by decide +kernel)
theorem allAtoms_all (ts : List Jvm.Cond) (a : Array Jvm.Value) (st : Jvm.State) : (allAtoms ts).before a st = ts.all (fun c => c.before a st) := by
  induction ts with
  | nil => rfl
  | cons c t ih =>
    show (Jvm.Cond.and c (allAtoms t)).before a st = _
    rw [Jvm.Cond.before_and, ih, List.all_cons]
def words1 : List Jvm.Cond := Jvm.Cond.code x code maxLocals ret :: tables_1
/-- a 'code' word, met by the world's own term for the bytes: nothing is compared byte by byte -/
theorem code_word {y : MethodName} {bytes : ByteArray} {mx : Nat} {rt : Option FieldType} {a : Array Value} {s : State} {m : MethodId} {meth : Method} {c : Code} (h1 : s.methodNamed? y = some m) (h2 : s.vm.method? m = some meth) (h3 : meth.code = some c) (h4 : c.code = bytes)
    (h5 : (c.maxLocals == mx && c.exceptionTable.isEmpty && decide (c.maxStack ≤ mostOperands) && decide (meth.sig.returnType = rt) && !meth.locks && decide (parseMethodDescriptor y.desc = some meth.sig)) = true) : (Jvm.Cond.code y bytes mx rt).before a s = true := by
  simp only [Bool.and_eq_true, beq_iff_eq, Bool.not_eq_true', decide_eq_true_eq] at h5
  obtain ⟨⟨⟨⟨⟨g1, g2⟩, g3⟩, g4⟩, g5⟩, g6⟩ := h5
  simp [Cond.before, Cond.holds, Cond.value, h1, h2, h3, h4, g1, g2, g3, g4, g5, g6]
def isCode : Jvm.Cond → Bool
  | .code _ _ _ _ => true
  | _ => false
theorem all_split {L : List Jvm.Cond} {P : Jvm.Cond → Bool} (h1 : L.all (fun c => isCode c || P c) = true) (h2 : ∀ c ∈ L.filter isCode, P c = true) : L.all P = true := by
  refine List.all_eq_true.mpr fun c hc => ?_
  have h := List.all_eq_true.mp h1 c hc
  rcases Bool.eq_false_or_eq_true (isCode c) with hi | hi
  · exact h2 c (List.mem_filter.mpr ⟨hc, hi⟩)
  · simpa [hi] using h
set_option maxRecDepth 65536 in
theorem w_c0 : (Jvm.Cond.code x code maxLocals ret).before args0 about1 = true := code_word (m := ⟨1, 2⟩) (meth := k1m2) (c := k1c2) (by decide +kernel) rfl rfl rfl (by decide +kernel)
set_option maxRecDepth 65536 in
theorem w_c1 : (Jvm.Cond.code ({ cls := "com/example/lean_crowd/leancrowd/output/DecimalsPutPinLaw", name := "digitCount", desc := "(J)I" } : Jvm.MethodName) method_2_code (2 : Nat) (Option.some Jvm.ClassFile.FieldType.int)).before args0 about1 = true := code_word (m := ⟨1, 1⟩) (meth := k1m1) (c := k1c1) (by decide +kernel) rfl rfl rfl (by decide +kernel)
set_option maxRecDepth 65536 in
theorem w_c2 : (Jvm.Cond.code ({ cls := "java/lang/Math", name := "abs", desc := "(J)J" } : Jvm.MethodName) jdk_29_method_61_code (2 : Nat) (Option.some Jvm.ClassFile.FieldType.long)).before args0 about1 = true := code_word (m := ⟨2, 1⟩) (meth := k2m1) (c := k2c1) (by decide +kernel) rfl rfl rfl (by decide +kernel)
set_option maxRecDepth 65536 in
theorem w_c3 : (Jvm.Cond.code ({ cls := "com/example/lean_crowd/leancrowd/output/Decimals", name := "put", desc := "([BIJ)I" } : Jvm.MethodName) prog_51_method_6_code (11 : Nat) (Option.some Jvm.ClassFile.FieldType.int)).before args0 about1 = true := code_word (m := ⟨3, 1⟩) (meth := k3m1) (c := k3c1) (by decide +kernel) rfl rfl rfl (by decide +kernel)
def codes1 : List Jvm.Cond := [Jvm.Cond.code x code maxLocals ret, Jvm.Cond.code ({ cls := "com/example/lean_crowd/leancrowd/output/DecimalsPutPinLaw", name := "digitCount", desc := "(J)I" } : Jvm.MethodName) method_2_code (2 : Nat) (Option.some Jvm.ClassFile.FieldType.int), Jvm.Cond.code ({ cls := "java/lang/Math", name := "abs", desc := "(J)J" } : Jvm.MethodName) jdk_29_method_61_code (2 : Nat) (Option.some Jvm.ClassFile.FieldType.long), Jvm.Cond.code ({ cls := "com/example/lean_crowd/leancrowd/output/Decimals", name := "put", desc := "([BIJ)I" } : Jvm.MethodName) prog_51_method_6_code (11 : Nat) (Option.some Jvm.ClassFile.FieldType.int)]
set_option maxRecDepth 65536 in
theorem codes_eq : words1.filter isCode = codes1 := rfl
theorem w_codes : ∀ c ∈ words1.filter isCode, c.before args0 about1 = true := by
  rw [codes_eq]
  intro c hc
  simp only [codes1, List.mem_cons, List.not_mem_nil, or_false] at hc
  rcases hc with rfl | rfl | rfl | rfl
  · exact w_c0
  · exact w_c1
  · exact w_c2
  · exact w_c3
set_option maxRecDepth 65536 in
theorem w_t1 : (words1.take 24).all (fun c => isCode c || c.before args0 about1) = true := by decide +kernel
set_option maxRecDepth 65536 in
theorem w_t2 : ((words1.drop 24).take 24).all (fun c => isCode c || c.before args0 about1) = true := by decide +kernel
set_option maxRecDepth 65536 in
theorem w_t3 : ((words1.drop 24).drop 24).all (fun c => isCode c || c.before args0 about1) = true := by decide +kernel
theorem w_tables : (allAtoms (Jvm.Cond.code x code maxLocals ret :: tables_1)).before args0 about1 = true := by
  rw [allAtoms_all]
  show words1.all (fun c => c.before args0 about1) = true
  refine all_split ?_ w_codes
  rw [← List.take_append_drop 24 words1, List.all_append, w_t1, ← List.take_append_drop 24 (words1.drop 24), List.all_append, w_t2, w_t3]
  rfl
set_option maxRecDepth 65536 in
theorem w_case : (Jvm.Cond.and given_1 narrow_1).before args0 about1 = true := by decide +kernel
theorem w_applies : (headSpec (Jvm.Cond.code x code maxLocals ret :: tables_1) room_1).applies x e0.platform about1 = true :=
  (Spec.applies_iff w_frames).mpr ⟨w_running, w_runnable, w_alone, w_named, w_hears, w_ripe, w_room, w_tables⟩
theorem atStart : AtStart classFile x code maxLocals ret World_1 tables_1 room_1 Calls_1 rest_1 Pre_1 launch0 p0 e0 about1 theMethod args0 below0 :=
  ⟨lists_1, trivial, launch0.admits_env _ _ _, launch0.least_env, fairChoices_fair.cas, fairChoices_fair.clock, w_frames, w_args, w_heap, w_applies, trivial, trivial, w_case⟩
end start1
theorem witness_1 : WitnessClaimed_1 := ⟨start1.p0, start1.e0, start1.about1, start1.theMethod, start1.args0, start1.below0, start1.atStart⟩
end Jvm.Pilot.@@N@@
