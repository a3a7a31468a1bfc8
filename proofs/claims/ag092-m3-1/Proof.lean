import JvmDerived
import JvmDerived.Pilot.@@N@@Statement
import JvmDerived.Pilot.@@N@@Code
set_option linter.unusedVariables false
set_option linter.unusedSimpArgs false
namespace Jvm.Pilot.@@N@@
open Jvm Jvm.ClassFile Sem Op Lib Jvm.Free Jvm.Stand Jvm.LawKit Jvm.RoadKit Bundle Jvm.Pilot.@@N@@.Jvm.D

/-! ## OWN LAYER: weakest preconditions over the walk -/
abbrev Cx : Type := (Program × Launch × Env × Room) × (State × MethodId × Array Value × List Frame) × (Method × Code) × (Option Value → Heap → Prop) × Nat
abbrev Sd (K : Cx) (T : State) (locs : List Loc) (cells slots : Nat) : Prop := Stand K.1.1 K.1.2.1 K.1.2.2.1 K.1.2.2.2 K.2.1.1 K.2.1.2.1 K.2.1.2.2.1 K.2.1.2.2.2 K.2.2.1.1 K.2.2.1.2 T locs cells slots
abbrev Stp (K : Cx) (A B : State) : Prop := Steps K.1.1.tables K.1.2.2.1 K.2.1.2.2.2 A B
abbrev Tp (K : Cx) (T : State) (pc : Nat) (L : Array Slot) (st : List Value) : State := T.setTop (mkF K.2.1.2.1 pc L st)
/-- from every state that stands at pc with these locals, this stack and this heap the run ends as K says -/
def W (K : Cx) (h : Heap) (cells slots pc : Nat) (L : Array Slot) (st : List Value) : Prop :=
  ∀ T locs, Sd K T locs cells slots → T.heap = h → Fr K.2.2.2.2 locs →
    ∃ s₂ o, Stp K (Tp K T pc L st) s₂ ∧ s₂.status = .running ∧ Ended s₂ K.2.1.2.2.2 o ∧ ∃ v Ls, o = .returned v ∧ (K.2.2.2.1 v s₂.heap ∧ Fr K.2.2.2.2 Ls) ∧ FrameEnd K.2.1.1 o s₂ Ls K.1.2.2.2.cells K.1.2.2.2.slots
def Ok (K : Cx) (l : Launch) (Z : State) (a0 : Array Value) (ts : List Jvm.Cond) (B : ByteArray) (ml : Nat) (rt : Option FieldType) (own nm : String) (R : Room) (n0 : Nat) (Q : Option Value → Heap → Prop) : Prop :=
  K.1.1.tables.exec = Jvm.exec ∧ K.2.2.1.2.code = B ∧ K.2.2.1.2.maxLocals = ml ∧ K.2.1.1.vm.findClass own = some K.2.1.2.1.cls ∧ K.2.2.1.1.name = nm ∧ K.2.2.1.1.sig.returnType = rt ∧ K.2.2.1.1.locks = false ∧ Z.Warmed39 K.2.1.1.vm ∧ (∀ d ∈ ts, d.before a0 Z = true) ∧ n0 ≤ K.2.1.1.heap.size ∧ K.1.2.1 = l ∧ K.1.2.2.2 = R ∧ K.2.2.2.2 = n0 ∧ K.2.2.2.1 = Q
/-- a body's contract -/
def Con (l : Launch) (Z : State) (y : MethodName) (B : ByteArray) (ml : Nat) (rt : Option FieldType) (rm : Room) (as : List Value) (h : Heap) (n0 : Nat) (Q : Option Value → Heap → Prop) : Prop :=
  n0 ≤ h.size → ∀ ws, MetFree l y (head1 (Jvm.Cond.code y B ml rt :: ws) rm) (fun a U => a = as.toArray ∧ Z.Warmed39 U.vm ∧ U.heap = h) (fun _ _ _ _ _ => True) (fun _ U o U' => ∃ v L, o = .returned v ∧ (Q v U'.heap ∧ Fr n0 L) ∧ FrameEnd U o U' L rm.cells rm.slots)
def RetI (P : Int32 → Heap → Prop) (v : Option Value) (h : Heap) : Prop := ∃ r, v = some (.int r) ∧ P r h
def RetL (P : Int64 → Heap → Prop) (v : Option Value) (h : Heap) : Prop := ∃ r, v = some (.long r) ∧ P r h
def RetA (P : Value → Heap → Prop) (v : Option Value) (h : Heap) : Prop := ∃ r, v = some r ∧ r.isRef = true ∧ P r h
def RetV (P : Heap → Prop) (v : Option Value) (h : Heap) : Prop := v = none ∧ P h
section OwnW
variable {K : Cx} {l : Launch} {Z : State} {a0 : Array Value} {ts : List Jvm.Cond} {B : ByteArray} {ml : Nat} {rt : Option FieldType} {own nm : String} {R : Room} {n0 : Nat} {Q : Option Value → Heap → Prop} {h : Heap} {cl sl pc pc' : Nat} {L L' : Array Slot} {st st' : List Value}
theorem W.step (f : ∀ T locs, Sd K T locs cl sl → T.heap = h → ∀ t, Stp K (Tp K T pc' L' st') t → Stp K (Tp K T pc L st) t) (k : W K h cl sl pc' L' st') : W K h cl sl pc L st := fun T locs X e N => by
  obtain ⟨s2, o, h1, r⟩ := k T locs X e N
  exact ⟨s2, o, f T locs X e _ h1, r⟩
theorem W.stepT (f : ∀ T locs, Sd K T locs cl sl → T.heap = h → ∃ T', Sd K T' locs cl sl ∧ T'.heap = h ∧ ∀ t, Stp K (Tp K T' pc' L' st') t → Stp K (Tp K T pc L st) t) (k : W K h cl sl pc' L' st') : W K h cl sl pc L st := fun T locs X e N => by
  obtain ⟨T', X', e', g⟩ := f T locs X e
  obtain ⟨s2, o, h1, r⟩ := k T' locs X' e' N
  exact ⟨s2, o, g _ h1, r⟩
theorem W.stepW {a : Addr} {i : Nat} {v : Value} (f : ∀ T locs, Sd K T locs cl sl → T.heap = h → ∃ T' h', Sd K T' (locs ++ [⟨a, i⟩]) cl sl ∧ T'.heap = h' ∧ Wr h h' a i v ∧ ∀ t, Stp K (Tp K T' pc' L' st') t → Stp K (Tp K T pc L st) t) (ha : K.2.2.2.2 ≤ a) (k : ∀ h', Wr h h' a i v → W K h' cl sl pc' L' st') : W K h cl sl pc L st := fun T locs X e N => by
  obtain ⟨T', h', X', e', w, g⟩ := f T locs X e
  obtain ⟨s2, o, h1, r⟩ := k h' w T' _ X' e' (Fr.snoc X' N ha)
  exact ⟨s2, o, g _ h1, r⟩
theorem W.mono {cl' sl' : Nat} (hc : cl ≤ cl') (hs : sl ≤ sl') (k : W K h cl' sl' pc L st) : W K h cl sl pc L st := fun T locs X e N => k T locs (X.mono hc hs) e N
theorem Sd.size {T : State} {locs : List Loc} (X : Sd K T locs cl sl) : K.2.1.1.heap.size ≤ T.heap.size := X.same.2.1
theorem cI {cl' sl' : Nat} {P : Int32 → Heap → Prop} (k : ∀ r h', P r h' → W K h' cl' sl' pc' L (.int r :: st)) : ∀ v h', RetI P v h' → W K h' cl' sl' pc' L (v.toList ++ st) := by
  rintro _ h' ⟨r, rfl, hp⟩; exact k r h' hp
theorem cL {cl' sl' : Nat} {P : Int64 → Heap → Prop} (k : ∀ r h', P r h' → W K h' cl' sl' pc' L (.long r :: st)) : ∀ v h', RetL P v h' → W K h' cl' sl' pc' L (v.toList ++ st) := by
  rintro _ h' ⟨r, rfl, hp⟩; exact k r h' hp
theorem cA {cl' sl' : Nat} {P : Value → Heap → Prop} (k : ∀ r h', r.isRef = true → P r h' → W K h' cl' sl' pc' L (r :: st)) : ∀ v h', RetA P v h' → W K h' cl' sl' pc' L (v.toList ++ st) := by
  rintro _ h' ⟨r, rfl, hr, hp⟩; exact k r h' hr hp
theorem cV {cl' sl' : Nat} {P : Heap → Prop} (k : ∀ h', P h' → W K h' cl' sl' pc' L st) : ∀ v h', RetV P v h' → W K h' cl' sl' pc' L (v.toList ++ st) := by
  rintro _ h' ⟨rfl, hp⟩; exact k h' hp
theorem Con.weak {y : MethodName} {rm : Room} {as : List Value} {Q' : Option Value → Heap → Prop} (c : Con l Z y B ml rt rm as h n0 Q) (q : ∀ v h', Q v h' → Q' v h') : Con l Z y B ml rt rm as h n0 Q' := fun hn ws p e ha hc hk s m args below hf happ hP hK => by
  obtain ⟨n, o, h1, h2, h3, v, L, e1, ⟨h4, h5⟩, h6⟩ := c hn ws p e ha hc hk s m args below hf happ hP hK
  exact ⟨n, o, h1, h2, h3, v, L, e1, ⟨q _ _ h4, h5⟩, h6⟩
theorem Con.body {y : MethodName} {rm : Room} {as : List Value} {L0 : Array Slot} (hw : ∀ d ∈ ts, d.before a0 Z = true) (pn : plainFor y = true) (ef : ∀ m, entryFrame m as.toArray ml = mkF m 0 L0 [])
    (b : ∀ K, Ok K l Z a0 ts B ml rt y.cls y.name rm n0 Q → W K h 0 0 0 L0 []) : Con l Z y B ml rt rm as h n0 Q := by
  intro hn ws
  refine MetFree.of_bodySF pn hisR ?_
  intro p e s m args below meth c s₁ Bd hml0 hP hK
  obtain ⟨rfl, hZ, hh⟩ := hP
  have hown : s.vm.findClass y.cls = some m.cls := findClass_of_methodNamed Bd.named
  have hnm := (name_of_methodNamed Bd.named Bd.method).1
  have X0 : Stand p l e rm s m as.toArray below meth c s₁ [] 0 0 := Stand.of_body Bd
  have e0 : s₁.heap = h := by rw [← hh, Bd.state]; rfl
  have q := b ((p, l, e, rm), (s, m, as.toArray, below), (meth, c), Q, n0) ⟨Bd.exec, Bd.bytes, hml0, hown, hnm, Bd.returns, Bd.notSynchronized, hZ, hw, by rw [← hh] at hn; exact hn, rfl, rfl, rfl, rfl⟩ s₁ [] X0 e0 (Fr.nil _)
  obtain ⟨s2, o, h1, h2, h3, h4⟩ := q
  exact ⟨s2, o, castTop (ef m) h1, h2, h3, h4⟩

theorem w_iloadN (O : Ok K l Z a0 ts B ml rt own nm R n0 Q) {i : Fin 4} {v : Int32} (hd : decode B pc = .ok (.iload_n i, 1)) (hp : pc + 1 = pc') (hl : L[i.val]? = some (.val (.int v))) (k : W K h cl sl pc' L (.int v :: st)) : W K h cl sl pc L (st) := by
  subst hp; exact W.step (fun T locs X e t q => XS.iloadN X.here O.1 rfl (hb O.2.1 hd) hl q) k
theorem w_iload (O : Ok K l Z a0 ts B ml rt own nm R n0 Q) {i : Nat} {v : Int32} (hd : decode B pc = .ok (.iload i, 2)) (hp : pc + 2 = pc') (hl : L[i]? = some (.val (.int v))) (k : W K h cl sl pc' L (.int v :: st)) : W K h cl sl pc L (st) := by
  subst hp; exact W.step (fun T locs X e t q => XS.iload X.here O.1 rfl (hb O.2.1 hd) hl q) k
theorem w_lloadN (O : Ok K l Z a0 ts B ml rt own nm R n0 Q) {i : Fin 4} {v : Int64} (hd : decode B pc = .ok (.lload_n i, 1)) (hp : pc + 1 = pc') (hl : L[i.val]? = some (.val (.long v))) (k : W K h cl sl pc' L (.long v :: st)) : W K h cl sl pc L (st) := by
  subst hp; exact W.step (fun T locs X e t q => XS.lloadN X.here O.1 rfl (hb O.2.1 hd) hl q) k
theorem w_lload (O : Ok K l Z a0 ts B ml rt own nm R n0 Q) {i : Nat} {v : Int64} (hd : decode B pc = .ok (.lload i, 2)) (hp : pc + 2 = pc') (hl : L[i]? = some (.val (.long v))) (k : W K h cl sl pc' L (.long v :: st)) : W K h cl sl pc L (st) := by
  subst hp; exact W.step (fun T locs X e t q => XS.lload X.here O.1 rfl (hb O.2.1 hd) hl q) k
theorem w_aloadN (O : Ok K l Z a0 ts B ml rt own nm R n0 Q) {i : Fin 4} {v : Value} (hd : decode B pc = .ok (.aload_n i, 1)) (hp : pc + 1 = pc') (hl : L[i.val]? = some (.val v)) (hv : v.isRef = true) (k : W K h cl sl pc' L (v :: st)) : W K h cl sl pc L (st) := by
  subst hp; exact W.step (fun T locs X e t q => XS.aloadN X.here O.1 rfl (hb O.2.1 hd) hl hv q) k
theorem w_aload (O : Ok K l Z a0 ts B ml rt own nm R n0 Q) {i : Nat} {v : Value} (hd : decode B pc = .ok (.aload i, 2)) (hp : pc + 2 = pc') (hl : L[i]? = some (.val v)) (hv : v.isRef = true) (k : W K h cl sl pc' L (v :: st)) : W K h cl sl pc L (st) := by
  subst hp; exact W.step (fun T locs X e t q => XS.aload X.here O.1 rfl (hb O.2.1 hd) hl hv q) k
theorem w_istoreN (O : Ok K l Z a0 ts B ml rt own nm R n0 Q) {i : Fin 4} {v : Int32} (hd : decode B pc = .ok (.istore_n i, 1)) (hp : pc + 1 = pc') (hl : storeLocals L i.val (.int v) = some L') (k : W K h cl sl pc' L' st) : W K h cl sl pc L (.int v :: st) := by
  subst hp; exact W.step (fun T locs X e t q => XS.istoreN X.here O.1 rfl (hb O.2.1 hd) rfl hl q) k
theorem w_istoreNG (O : Ok K l Z a0 ts B ml rt own nm R n0 Q) {i : Fin 4} {v : Int32} {L' : Int32 → Array Slot} (hd : decode B pc = .ok (.istore_n i, 1)) (hp : pc + 1 = pc') (hl : ∀ z, storeLocals L i.val (.int z) = some (L' z)) (k : ∀ z, z = v → W K h cl sl pc' (L' z) st) : W K h cl sl pc L (.int v :: st) := w_istoreN O hd hp (hl v) (k v rfl)
theorem w_istore (O : Ok K l Z a0 ts B ml rt own nm R n0 Q) {i : Nat} {v : Int32} (hd : decode B pc = .ok (.istore i, 2)) (hp : pc + 2 = pc') (hl : storeLocals L i (.int v) = some L') (k : W K h cl sl pc' L' st) : W K h cl sl pc L (.int v :: st) := by
  subst hp; exact W.step (fun T locs X e t q => XS.istore X.here O.1 rfl (hb O.2.1 hd) rfl hl q) k
theorem w_istoreG (O : Ok K l Z a0 ts B ml rt own nm R n0 Q) {i : Nat} {v : Int32} {L' : Int32 → Array Slot} (hd : decode B pc = .ok (.istore i, 2)) (hp : pc + 2 = pc') (hl : ∀ z, storeLocals L i (.int z) = some (L' z)) (k : ∀ z, z = v → W K h cl sl pc' (L' z) st) : W K h cl sl pc L (.int v :: st) := w_istore O hd hp (hl v) (k v rfl)
theorem w_lstoreN (O : Ok K l Z a0 ts B ml rt own nm R n0 Q) {i : Fin 4} {v : Int64} (hd : decode B pc = .ok (.lstore_n i, 1)) (hp : pc + 1 = pc') (hl : storeLocals L i.val (.long v) = some L') (k : W K h cl sl pc' L' st) : W K h cl sl pc L (.long v :: st) := by
  subst hp; exact W.step (fun T locs X e t q => XS.lstoreN X.here O.1 rfl (hb O.2.1 hd) rfl hl q) k
theorem w_lstoreNG (O : Ok K l Z a0 ts B ml rt own nm R n0 Q) {i : Fin 4} {v : Int64} {L' : Int64 → Array Slot} (hd : decode B pc = .ok (.lstore_n i, 1)) (hp : pc + 1 = pc') (hl : ∀ z, storeLocals L i.val (.long z) = some (L' z)) (k : ∀ z, z = v → W K h cl sl pc' (L' z) st) : W K h cl sl pc L (.long v :: st) := w_lstoreN O hd hp (hl v) (k v rfl)
theorem w_lstore (O : Ok K l Z a0 ts B ml rt own nm R n0 Q) {i : Nat} {v : Int64} (hd : decode B pc = .ok (.lstore i, 2)) (hp : pc + 2 = pc') (hl : storeLocals L i (.long v) = some L') (k : W K h cl sl pc' L' st) : W K h cl sl pc L (.long v :: st) := by
  subst hp; exact W.step (fun T locs X e t q => XS.lstore X.here O.1 rfl (hb O.2.1 hd) rfl hl q) k
theorem w_lstoreG (O : Ok K l Z a0 ts B ml rt own nm R n0 Q) {i : Nat} {v : Int64} {L' : Int64 → Array Slot} (hd : decode B pc = .ok (.lstore i, 2)) (hp : pc + 2 = pc') (hl : ∀ z, storeLocals L i (.long z) = some (L' z)) (k : ∀ z, z = v → W K h cl sl pc' (L' z) st) : W K h cl sl pc L (.long v :: st) := w_lstore O hd hp (hl v) (k v rfl)
theorem w_astoreN (O : Ok K l Z a0 ts B ml rt own nm R n0 Q) {i : Fin 4} {v : Value} (hd : decode B pc = .ok (.astore_n i, 1)) (hp : pc + 1 = pc') (hv : v.isRef = true) (hl : storeLocals L i.val v = some L') (k : W K h cl sl pc' L' st) : W K h cl sl pc L (v :: st) := by
  subst hp; exact W.step (fun T locs X e t q => XS.astoreN X.here O.1 rfl (hb O.2.1 hd) rfl hv hl q) k
theorem w_astore (O : Ok K l Z a0 ts B ml rt own nm R n0 Q) {i : Nat} {v : Value} (hd : decode B pc = .ok (.astore i, 2)) (hp : pc + 2 = pc') (hv : v.isRef = true) (hl : storeLocals L i v = some L') (k : W K h cl sl pc' L' st) : W K h cl sl pc L (v :: st) := by
  subst hp; exact W.step (fun T locs X e t q => XS.astore X.here O.1 rfl (hb O.2.1 hd) rfl hv hl q) k
theorem w_iinc (O : Ok K l Z a0 ts B ml rt own nm R n0 Q) {i : Nat} {cst : Int} {x z : Int32} (hd : decode B pc = .ok (.iinc i cst, 3)) (hp : pc + 3 = pc') (hl : L[i]? = some (.val (.int x))) (hz : x + Int32.ofInt cst = z) (hl' : storeLocals L i (.int z) = some L') (k : W K h cl sl pc' L' st) : W K h cl sl pc L st := by
  subst hp; subst hz; exact W.step (fun T locs X e t q => XS.iinc X.here O.1 rfl (hb O.2.1 hd) hl hl' q) k
theorem w_iincG (O : Ok K l Z a0 ts B ml rt own nm R n0 Q) {i : Nat} {cst : Int} {x y : Int32} {L' : Int32 → Array Slot} (hd : decode B pc = .ok (.iinc i cst, 3)) (hp : pc + 3 = pc') (hl : L[i]? = some (.val (.int x))) (hz : Int32.ofInt cst = y) (hl' : ∀ z, storeLocals L i (.int z) = some (L' z)) (k : ∀ z, z = x + y → W K h cl sl pc' (L' z) st) : W K h cl sl pc L st := by
  subst hz; exact w_iinc O hd hp hl rfl (hl' _) (k _ rfl)
theorem w_iconst (O : Ok K l Z a0 ts B ml rt own nm R n0 Q) {i : Int} {z : Int32} (hd : decode B pc = .ok (.iconst i, 1)) (hp : pc + 1 = pc') (hz : Int32.ofInt i = z) (k : W K h cl sl pc' L (.int z :: st)) : W K h cl sl pc L (st) := by
  subst hp; exact W.step (fun T locs X e t q => XS.iconst X.here O.1 rfl (hb O.2.1 hd) (by rw [hz]; exact q)) k
theorem w_bipush (O : Ok K l Z a0 ts B ml rt own nm R n0 Q) {i : Int} {z : Int32} (hd : decode B pc = .ok (.bipush i, 2)) (hp : pc + 2 = pc') (hz : (Int8.ofInt i).toInt32 = z) (k : W K h cl sl pc' L (.int z :: st)) : W K h cl sl pc L (st) := by
  subst hp; exact W.step (fun T locs X e t q => XS.bipush X.here O.1 rfl (hb O.2.1 hd) (by rw [hz]; exact q)) k
theorem w_sipush (O : Ok K l Z a0 ts B ml rt own nm R n0 Q) {i : Int} {z : Int32} (hd : decode B pc = .ok (.sipush i, 3)) (hp : pc + 3 = pc') (hz : (Int16.ofInt i).toInt32 = z) (k : W K h cl sl pc' L (.int z :: st)) : W K h cl sl pc L (st) := by
  subst hp; exact W.step (fun T locs X e t q => XS.sipush X.here O.1 rfl (hb O.2.1 hd) (by rw [hz]; exact q)) k
theorem w_lconst (O : Ok K l Z a0 ts B ml rt own nm R n0 Q) {i : Fin 2} {z : Int64} (hd : decode B pc = .ok (.lconst i, 1)) (hp : pc + 1 = pc') (hz : Int64.ofNat i = z) (k : W K h cl sl pc' L (.long z :: st)) : W K h cl sl pc L (st) := by
  subst hp; exact W.step (fun T locs X e t q => XS.lconst X.here O.1 rfl (hb O.2.1 hd) (by rw [hz]; exact q)) k
theorem w_anull (O : Ok K l Z a0 ts B ml rt own nm R n0 Q)  (hd : decode B pc = .ok (.aconst_null, 1)) (hp : pc + 1 = pc') (k : W K h cl sl pc' L (.null :: st)) : W K h cl sl pc L (st) := by
  subst hp; exact W.step (fun T locs X e t q => XS.aconstNull X.here O.1 rfl (hb O.2.1 hd) q) k
theorem w_ldc (O : Ok K l Z a0 ts B ml rt own nm R n0 Q) {i : Nat} {v : Int32} (hd : decode B pc = .ok (.ldc i, 2)) (hp : pc + 2 = pc') (w : Jvm.Cond.constant own i v ∈ ts) (k : W K h cl sl pc' L (.int v :: st)) : W K h cl sl pc L (st) := by
  subst hp; exact W.step (fun T locs X e t q => X.ldcInt O.1 O.2.2.2.1 (mvT O.2.2.2.2.2.2.2.1 (O.2.2.2.2.2.2.2.2.1 _ w)) (g := mkF K.2.1.2.1 pc L st) rfl (hb O.2.1 hd) _ q) k
theorem w_ldc2 (O : Ok K l Z a0 ts B ml rt own nm R n0 Q) {i : Nat} {v : Int64} (hd : decode B pc = .ok (.ldc2_w i, 3)) (hp : pc + 3 = pc') (w : Jvm.Cond.constantLong own i v ∈ ts) (k : W K h cl sl pc' L (.long v :: st)) : W K h cl sl pc L (st) := by
  subst hp; exact W.step (fun T locs X e t q => X.ldc2Long O.1 O.2.2.2.1 (mvT O.2.2.2.2.2.2.2.1 (O.2.2.2.2.2.2.2.2.1 _ w)) (g := mkF K.2.1.2.1 pc L st) rfl (hb O.2.1 hd) _ q) k
theorem w_iadd (O : Ok K l Z a0 ts B ml rt own nm R n0 Q) {x y : Int32} (hd : decode B pc = .ok (.iadd, 1)) (hp : pc + 1 = pc') (k : W K h cl sl pc' L (.int (x + y) :: st)) : W K h cl sl pc L (.int y :: .int x :: st) := by
  subst hp; exact W.step (fun T locs X e t q => XS.iadd X.here O.1 rfl (hb O.2.1 hd) rfl q) k
theorem w_isub (O : Ok K l Z a0 ts B ml rt own nm R n0 Q) {x y : Int32} (hd : decode B pc = .ok (.isub, 1)) (hp : pc + 1 = pc') (k : W K h cl sl pc' L (.int (x - y) :: st)) : W K h cl sl pc L (.int y :: .int x :: st) := by
  subst hp; exact W.step (fun T locs X e t q => XS.isub X.here O.1 rfl (hb O.2.1 hd) rfl q) k
theorem w_imul (O : Ok K l Z a0 ts B ml rt own nm R n0 Q) {x y : Int32} (hd : decode B pc = .ok (.imul, 1)) (hp : pc + 1 = pc') (k : W K h cl sl pc' L (.int (x * y) :: st)) : W K h cl sl pc L (.int y :: .int x :: st) := by
  subst hp; exact W.step (fun T locs X e t q => XS.imul X.here O.1 rfl (hb O.2.1 hd) rfl q) k
theorem w_iand (O : Ok K l Z a0 ts B ml rt own nm R n0 Q) {x y : Int32} (hd : decode B pc = .ok (.iand, 1)) (hp : pc + 1 = pc') (k : W K h cl sl pc' L (.int (x &&& y) :: st)) : W K h cl sl pc L (.int y :: .int x :: st) := by
  subst hp; exact W.step (fun T locs X e t q => XS.iand X.here O.1 rfl (hb O.2.1 hd) rfl q) k
theorem w_ior (O : Ok K l Z a0 ts B ml rt own nm R n0 Q) {x y : Int32} (hd : decode B pc = .ok (.ior, 1)) (hp : pc + 1 = pc') (k : W K h cl sl pc' L (.int (x ||| y) :: st)) : W K h cl sl pc L (.int y :: .int x :: st) := by
  subst hp; exact W.step (fun T locs X e t q => XS.ior X.here O.1 rfl (hb O.2.1 hd) rfl q) k
theorem w_ixor (O : Ok K l Z a0 ts B ml rt own nm R n0 Q) {x y : Int32} (hd : decode B pc = .ok (.ixor, 1)) (hp : pc + 1 = pc') (k : W K h cl sl pc' L (.int (x ^^^ y) :: st)) : W K h cl sl pc L (.int y :: .int x :: st) := by
  subst hp; exact W.step (fun T locs X e t q => XS.ixor X.here O.1 rfl (hb O.2.1 hd) rfl q) k
theorem w_ishl (O : Ok K l Z a0 ts B ml rt own nm R n0 Q) {x y : Int32} (hd : decode B pc = .ok (.ishl, 1)) (hp : pc + 1 = pc') (k : W K h cl sl pc' L (.int (x <<< (y &&& 31)) :: st)) : W K h cl sl pc L (.int y :: .int x :: st) := by
  subst hp; exact W.step (fun T locs X e t q => XS.ishl X.here O.1 rfl (hb O.2.1 hd) rfl q) k
theorem w_ishr (O : Ok K l Z a0 ts B ml rt own nm R n0 Q) {x y : Int32} (hd : decode B pc = .ok (.ishr, 1)) (hp : pc + 1 = pc') (k : W K h cl sl pc' L (.int (x >>> (y &&& 31)) :: st)) : W K h cl sl pc L (.int y :: .int x :: st) := by
  subst hp; exact W.step (fun T locs X e t q => XS.ishr X.here O.1 rfl (hb O.2.1 hd) rfl q) k
theorem w_iushr (O : Ok K l Z a0 ts B ml rt own nm R n0 Q) {x y : Int32} (hd : decode B pc = .ok (.iushr, 1)) (hp : pc + 1 = pc') (k : W K h cl sl pc' L (.int ((x.toUInt32 >>> (y &&& 31).toUInt32).toInt32) :: st)) : W K h cl sl pc L (.int y :: .int x :: st) := by
  subst hp; exact W.step (fun T locs X e t q => XS.iushr X.here O.1 rfl (hb O.2.1 hd) rfl q) k
theorem w_ladd (O : Ok K l Z a0 ts B ml rt own nm R n0 Q) {x y : Int64} (hd : decode B pc = .ok (.ladd, 1)) (hp : pc + 1 = pc') (k : W K h cl sl pc' L (.long (x + y) :: st)) : W K h cl sl pc L (.long y :: .long x :: st) := by
  subst hp; exact W.step (fun T locs X e t q => XS.ladd X.here O.1 rfl (hb O.2.1 hd) rfl q) k
theorem w_lsub (O : Ok K l Z a0 ts B ml rt own nm R n0 Q) {x y : Int64} (hd : decode B pc = .ok (.lsub, 1)) (hp : pc + 1 = pc') (k : W K h cl sl pc' L (.long (x - y) :: st)) : W K h cl sl pc L (.long y :: .long x :: st) := by
  subst hp; exact W.step (fun T locs X e t q => XS.lsub X.here O.1 rfl (hb O.2.1 hd) rfl q) k
theorem w_lmul (O : Ok K l Z a0 ts B ml rt own nm R n0 Q) {x y : Int64} (hd : decode B pc = .ok (.lmul, 1)) (hp : pc + 1 = pc') (k : W K h cl sl pc' L (.long (x * y) :: st)) : W K h cl sl pc L (.long y :: .long x :: st) := by
  subst hp; exact W.step (fun T locs X e t q => XS.lmul X.here O.1 rfl (hb O.2.1 hd) rfl q) k
theorem w_land (O : Ok K l Z a0 ts B ml rt own nm R n0 Q) {x y : Int64} (hd : decode B pc = .ok (.land, 1)) (hp : pc + 1 = pc') (k : W K h cl sl pc' L (.long (x &&& y) :: st)) : W K h cl sl pc L (.long y :: .long x :: st) := by
  subst hp; exact W.step (fun T locs X e t q => XS.land X.here O.1 rfl (hb O.2.1 hd) rfl q) k
theorem w_lor (O : Ok K l Z a0 ts B ml rt own nm R n0 Q) {x y : Int64} (hd : decode B pc = .ok (.lor, 1)) (hp : pc + 1 = pc') (k : W K h cl sl pc' L (.long (x ||| y) :: st)) : W K h cl sl pc L (.long y :: .long x :: st) := by
  subst hp; exact W.step (fun T locs X e t q => XS.lor X.here O.1 rfl (hb O.2.1 hd) rfl q) k
theorem w_lxor (O : Ok K l Z a0 ts B ml rt own nm R n0 Q) {x y : Int64} (hd : decode B pc = .ok (.lxor, 1)) (hp : pc + 1 = pc') (k : W K h cl sl pc' L (.long (x ^^^ y) :: st)) : W K h cl sl pc L (.long y :: .long x :: st) := by
  subst hp; exact W.step (fun T locs X e t q => XS.lxor X.here O.1 rfl (hb O.2.1 hd) rfl q) k
theorem w_lshl (O : Ok K l Z a0 ts B ml rt own nm R n0 Q) {x : Int64} {y : Int32} (hd : decode B pc = .ok (.lshl, 1)) (hp : pc + 1 = pc') (k : W K h cl sl pc' L (.long (x <<< (y &&& 0x3f).toInt64) :: st)) : W K h cl sl pc L (.int y :: .long x :: st) := by
  subst hp; exact W.step (fun T locs X e t q => XS.lshl X.here O.1 rfl (hb O.2.1 hd) rfl q) k
theorem w_lshr (O : Ok K l Z a0 ts B ml rt own nm R n0 Q) {x : Int64} {y : Int32} (hd : decode B pc = .ok (.lshr, 1)) (hp : pc + 1 = pc') (k : W K h cl sl pc' L (.long (x >>> (y &&& 0x3f).toInt64) :: st)) : W K h cl sl pc L (.int y :: .long x :: st) := by
  subst hp; exact W.step (fun T locs X e t q => XS.lshr X.here O.1 rfl (hb O.2.1 hd) rfl q) k
theorem w_lushr (O : Ok K l Z a0 ts B ml rt own nm R n0 Q) {x : Int64} {y : Int32} (hd : decode B pc = .ok (.lushr, 1)) (hp : pc + 1 = pc') (k : W K h cl sl pc' L (.long ((x.toUInt64 >>> (y &&& 0x3f).toInt64.toUInt64).toInt64) :: st)) : W K h cl sl pc L (.int y :: .long x :: st) := by
  subst hp; exact W.step (fun T locs X e t q => XS.lushr X.here O.1 rfl (hb O.2.1 hd) rfl q) k
theorem w_idiv (O : Ok K l Z a0 ts B ml rt own nm R n0 Q) {x y : Int32} (hd : decode B pc = .ok (.idiv, 1)) (hp : pc + 1 = pc') (hy : y ≠ 0) (k : W K h cl sl pc' L (.int (x / y) :: st)) : W K h cl sl pc L (.int y :: .int x :: st) := by
  subst hp; exact W.step (fun T locs X e t q => XS.idiv X.here O.1 rfl (hb O.2.1 hd) rfl hy q) k
theorem w_irem (O : Ok K l Z a0 ts B ml rt own nm R n0 Q) {x y : Int32} (hd : decode B pc = .ok (.irem, 1)) (hp : pc + 1 = pc') (hy : y ≠ 0) (k : W K h cl sl pc' L (.int (x % y) :: st)) : W K h cl sl pc L (.int y :: .int x :: st) := by
  subst hp; exact W.step (fun T locs X e t q => iremM X O.1 rfl (hb O.2.1 hd) rfl hy q) k
theorem w_ldiv (O : Ok K l Z a0 ts B ml rt own nm R n0 Q) {x y : Int64} (hd : decode B pc = .ok (.ldiv, 1)) (hp : pc + 1 = pc') (hy : y ≠ 0) (k : W K h cl sl pc' L (.long (x / y) :: st)) : W K h cl sl pc L (.long y :: .long x :: st) := by
  subst hp; exact W.step (fun T locs X e t q => XS.ldiv X.here O.1 rfl (hb O.2.1 hd) rfl hy q) k
theorem w_lrem (O : Ok K l Z a0 ts B ml rt own nm R n0 Q) {x y : Int64} (hd : decode B pc = .ok (.lrem, 1)) (hp : pc + 1 = pc') (hy : y ≠ 0) (k : W K h cl sl pc' L (.long (x % y) :: st)) : W K h cl sl pc L (.long y :: .long x :: st) := by
  subst hp; exact W.step (fun T locs X e t q => XS.lrem X.here O.1 rfl (hb O.2.1 hd) rfl hy (by rw [lrem_mod]; exact q)) k
theorem w_ineg (O : Ok K l Z a0 ts B ml rt own nm R n0 Q) {x : Int32} (hd : decode B pc = .ok (.ineg, 1)) (hp : pc + 1 = pc') (k : W K h cl sl pc' L (.int (-x) :: st)) : W K h cl sl pc L (.int x :: st) := by
  subst hp; exact W.step (fun T locs X e t q => XS.ineg X.here O.1 rfl (hb O.2.1 hd) rfl q) k
theorem w_lneg (O : Ok K l Z a0 ts B ml rt own nm R n0 Q) {x : Int64} (hd : decode B pc = .ok (.lneg, 1)) (hp : pc + 1 = pc') (k : W K h cl sl pc' L (.long (-x) :: st)) : W K h cl sl pc L (.long x :: st) := by
  subst hp; exact W.step (fun T locs X e t q => XS.lneg X.here O.1 rfl (hb O.2.1 hd) rfl q) k
theorem w_i2l (O : Ok K l Z a0 ts B ml rt own nm R n0 Q) {x : Int32} (hd : decode B pc = .ok (.i2l, 1)) (hp : pc + 1 = pc') (k : W K h cl sl pc' L (.long (x.toInt64) :: st)) : W K h cl sl pc L (.int x :: st) := by
  subst hp; exact W.step (fun T locs X e t q => XS.i2l X.here O.1 rfl (hb O.2.1 hd) rfl q) k
theorem w_l2i (O : Ok K l Z a0 ts B ml rt own nm R n0 Q) {x : Int64} (hd : decode B pc = .ok (.l2i, 1)) (hp : pc + 1 = pc') (k : W K h cl sl pc' L (.int (x.toInt32) :: st)) : W K h cl sl pc L (.long x :: st) := by
  subst hp; exact W.step (fun T locs X e t q => XS.l2i X.here O.1 rfl (hb O.2.1 hd) rfl q) k
theorem w_i2b (O : Ok K l Z a0 ts B ml rt own nm R n0 Q) {x : Int32} (hd : decode B pc = .ok (.i2b, 1)) (hp : pc + 1 = pc') (k : W K h cl sl pc' L (.int (x.toInt8.toInt32) :: st)) : W K h cl sl pc L (.int x :: st) := by
  subst hp; exact W.step (fun T locs X e t q => XS.i2b X.here O.1 rfl (hb O.2.1 hd) rfl q) k
theorem w_i2s (O : Ok K l Z a0 ts B ml rt own nm R n0 Q) {x : Int32} (hd : decode B pc = .ok (.i2s, 1)) (hp : pc + 1 = pc') (k : W K h cl sl pc' L (.int (x.toInt16.toInt32) :: st)) : W K h cl sl pc L (.int x :: st) := by
  subst hp; exact W.step (fun T locs X e t q => XS.i2s X.here O.1 rfl (hb O.2.1 hd) rfl q) k
theorem w_i2c (O : Ok K l Z a0 ts B ml rt own nm R n0 Q) {x : Int32} (hd : decode B pc = .ok (.i2c, 1)) (hp : pc + 1 = pc') (k : W K h cl sl pc' L (.int (x.toUInt32.toUInt16.toUInt32.toInt32) :: st)) : W K h cl sl pc L (.int x :: st) := by
  subst hp; exact W.step (fun T locs X e t q => XS.i2c X.here O.1 rfl (hb O.2.1 hd) rfl q) k
theorem w_dup (O : Ok K l Z a0 ts B ml rt own nm R n0 Q) {x : Value} (hd : decode B pc = .ok (.dup, 1)) (hp : pc + 1 = pc') (hc : x.category = 1) (k : W K h cl sl pc' L (x :: x :: st)) : W K h cl sl pc L (x :: st) := by
  subst hp; exact W.step (fun T locs X e t q => XS.dup X.here O.1 rfl (hb O.2.1 hd) rfl hc q) k
theorem w_pop (O : Ok K l Z a0 ts B ml rt own nm R n0 Q) {x : Value} (hd : decode B pc = .ok (.pop, 1)) (hp : pc + 1 = pc') (hc : x.category = 1) (k : W K h cl sl pc' L (st)) : W K h cl sl pc L (x :: st) := by
  subst hp; exact W.step (fun T locs X e t q => XS.pop X.here O.1 rfl (hb O.2.1 hd) rfl hc q) k
theorem w_dupX1 (O : Ok K l Z a0 ts B ml rt own nm R n0 Q) {x y : Value} (hd : decode B pc = .ok (.dup_x1, 1)) (hp : pc + 1 = pc') (hc : x.category = 1) (hc2 : y.category = 1) (k : W K h cl sl pc' L (x :: y :: x :: st)) : W K h cl sl pc L (x :: y :: st) := by
  subst hp; exact W.step (fun T locs X e t q => XS.dupX1 X.here O.1 rfl (hb O.2.1 hd) rfl hc hc2 q) k
theorem w_goto (O : Ok K l Z a0 ts B ml rt own nm R n0 Q) {o : Int} (hd : decode B pc = .ok (.goto o, 3)) (ho : 0 ≤ (pc : Int) + o) (hp : ((pc : Int) + o).toNat = pc') (k : W K h cl sl pc' L st) : W K h cl sl pc L st := W.step (fun T locs X e t q => XS.goto X.here O.1 rfl rfl (hb O.2.1 hd) ho hp q) k
theorem w_icmp_eq (O : Ok K l Z a0 ts B ml rt own nm R n0 Q) {o : Int} {x y : Int32} {pt pn : Nat} (hd : decode B pc = .ok (.if_icmp .eq o, 3)) (hn : pc + 3 = pn) (ho : 0 ≤ (pc : Int) + o) (ht : ((pc : Int) + o).toNat = pt) (ky : x.toInt = y.toInt → W K h cl sl pt L st) (kn : ¬ x.toInt = y.toInt → W K h cl sl pn L st) : W K h cl sl pc L (.int y :: .int x :: st) := by
  by_cases q : x = y
  · exact W.step (fun T locs X e t z => XS.icmpYes X.here O.1 rfl rfl (hb O.2.1 hd) rfl (teq q).1 ho ht z) (ky (Int32.toInt_inj.mpr q))
  · exact W.step (fun T locs X e t z => XS.icmpNo X.here O.1 rfl (hb O.2.1 hd) rfl (feq q).1 (by rw [← hn] at z; exact z)) (kn fun w => q (Int32.toInt_inj.mp w))
theorem w_if_eq (O : Ok K l Z a0 ts B ml rt own nm R n0 Q) {o : Int} {x : Int32} {pt pn : Nat} (hd : decode B pc = .ok (.ifCond .eq o, 3)) (hn : pc + 3 = pn) (ho : 0 ≤ (pc : Int) + o) (ht : ((pc : Int) + o).toNat = pt) (ky : x.toInt = 0 → W K h cl sl pt L st) (kn : ¬ x.toInt = 0 → W K h cl sl pn L st) : W K h cl sl pc L (.int x :: st) := by
  have e0 : (0 : Int32).toInt = 0 := by decide
  by_cases q : x = 0
  · exact W.step (fun T locs X e t z => XS.ifYes X.here O.1 rfl rfl (hb O.2.1 hd) rfl ((if0 _ _).trans (teq q).1) ho ht z) (ky (by rw [← e0]; exact (Int32.toInt_inj.mpr q)))
  · exact W.step (fun T locs X e t z => XS.ifNo X.here O.1 rfl (hb O.2.1 hd) rfl ((if0 _ _).trans (feq q).1) (by rw [← hn] at z; exact z)) (kn fun w => q (by rw [← e0] at w; exact (Int32.toInt_inj.mp w)))
theorem lcb_eq {x y : Int64} : (lcmpW x y).toInt = 0 ↔ x.toInt = y.toInt := by
  have e0 : (0 : Int32).toInt = 0 := by decide
  rw [← e0]
  exact Int32.toInt_inj.trans ((lw_eq x y).trans Int64.toInt_inj.symm)
theorem w_lcmp_eq (O : Ok K l Z a0 ts B ml rt own nm R n0 Q) {o : Int} {x y : Int64} {pi pt pn : Nat} (hd : decode B pc = .ok (.lcmp, 1)) (hi : pc + 1 = pi) (hd2 : decode B pi = .ok (.ifCond .eq o, 3)) (hn : pi + 3 = pn) (ho : 0 ≤ (pi : Int) + o) (ht : ((pi : Int) + o).toNat = pt) (ky : x.toInt = y.toInt → W K h cl sl pt L st) (kn : ¬ x.toInt = y.toInt → W K h cl sl pn L st) : W K h cl sl pc L (.long y :: .long x :: st) := by
  subst hi
  exact W.step (fun T locs X e t q => XS.lcmp X.here O.1 rfl (hb O.2.1 hd) rfl q) (w_if_eq O hd2 hn ho ht (fun q => ky (lcb_eq.mp q)) (fun q => kn fun w => q (lcb_eq.mpr w)))
theorem w_icmp_ne (O : Ok K l Z a0 ts B ml rt own nm R n0 Q) {o : Int} {x y : Int32} {pt pn : Nat} (hd : decode B pc = .ok (.if_icmp .ne o, 3)) (hn : pc + 3 = pn) (ho : 0 ≤ (pc : Int) + o) (ht : ((pc : Int) + o).toNat = pt) (ky : ¬ x.toInt = y.toInt → W K h cl sl pt L st) (kn : x.toInt = y.toInt → W K h cl sl pn L st) : W K h cl sl pc L (.int y :: .int x :: st) := by
  by_cases q : x = y
  · exact W.step (fun T locs X e t z => XS.icmpNo X.here O.1 rfl (hb O.2.1 hd) rfl (teq q).2 (by rw [← hn] at z; exact z)) (kn (Int32.toInt_inj.mpr q))
  · exact W.step (fun T locs X e t z => XS.icmpYes X.here O.1 rfl rfl (hb O.2.1 hd) rfl (feq q).2 ho ht z) (ky fun w => q (Int32.toInt_inj.mp w))
theorem w_if_ne (O : Ok K l Z a0 ts B ml rt own nm R n0 Q) {o : Int} {x : Int32} {pt pn : Nat} (hd : decode B pc = .ok (.ifCond .ne o, 3)) (hn : pc + 3 = pn) (ho : 0 ≤ (pc : Int) + o) (ht : ((pc : Int) + o).toNat = pt) (ky : ¬ x.toInt = 0 → W K h cl sl pt L st) (kn : x.toInt = 0 → W K h cl sl pn L st) : W K h cl sl pc L (.int x :: st) := by
  have e0 : (0 : Int32).toInt = 0 := by decide
  by_cases q : x = 0
  · exact W.step (fun T locs X e t z => XS.ifNo X.here O.1 rfl (hb O.2.1 hd) rfl ((if0 _ _).trans (teq q).2) (by rw [← hn] at z; exact z)) (kn (by rw [← e0]; exact (Int32.toInt_inj.mpr q)))
  · exact W.step (fun T locs X e t z => XS.ifYes X.here O.1 rfl rfl (hb O.2.1 hd) rfl ((if0 _ _).trans (feq q).2) ho ht z) (ky fun w => q (by rw [← e0] at w; exact (Int32.toInt_inj.mp w)))
theorem lcb_ne {x y : Int64} : (lcmpW x y).toInt = 0 ↔ x.toInt = y.toInt := by
  have e0 : (0 : Int32).toInt = 0 := by decide
  rw [← e0]
  exact Int32.toInt_inj.trans ((lw_eq x y).trans Int64.toInt_inj.symm)
theorem w_lcmp_ne (O : Ok K l Z a0 ts B ml rt own nm R n0 Q) {o : Int} {x y : Int64} {pi pt pn : Nat} (hd : decode B pc = .ok (.lcmp, 1)) (hi : pc + 1 = pi) (hd2 : decode B pi = .ok (.ifCond .ne o, 3)) (hn : pi + 3 = pn) (ho : 0 ≤ (pi : Int) + o) (ht : ((pi : Int) + o).toNat = pt) (ky : ¬ x.toInt = y.toInt → W K h cl sl pt L st) (kn : x.toInt = y.toInt → W K h cl sl pn L st) : W K h cl sl pc L (.long y :: .long x :: st) := by
  subst hi
  exact W.step (fun T locs X e t q => XS.lcmp X.here O.1 rfl (hb O.2.1 hd) rfl q) (w_if_ne O hd2 hn ho ht (fun q => ky fun w => q (lcb_ne.mpr w)) (fun q => kn (lcb_ne.mp q)))
theorem w_icmp_lt (O : Ok K l Z a0 ts B ml rt own nm R n0 Q) {o : Int} {x y : Int32} {pt pn : Nat} (hd : decode B pc = .ok (.if_icmp .lt o, 3)) (hn : pc + 3 = pn) (ho : 0 ≤ (pc : Int) + o) (ht : ((pc : Int) + o).toNat = pt) (ky : x.toInt < y.toInt → W K h cl sl pt L st) (kn : ¬ x.toInt < y.toInt → W K h cl sl pn L st) : W K h cl sl pc L (.int y :: .int x :: st) := by
  by_cases q : x < y
  · exact W.step (fun T locs X e t z => XS.icmpYes X.here O.1 rfl rfl (hb O.2.1 hd) rfl (tlt q).1 ho ht z) (ky (Int32.lt_iff_toInt_lt.mp q))
  · exact W.step (fun T locs X e t z => XS.icmpNo X.here O.1 rfl (hb O.2.1 hd) rfl (flt q).1 (by rw [← hn] at z; exact z)) (kn fun w => q (Int32.lt_iff_toInt_lt.mpr w))
theorem w_if_lt (O : Ok K l Z a0 ts B ml rt own nm R n0 Q) {o : Int} {x : Int32} {pt pn : Nat} (hd : decode B pc = .ok (.ifCond .lt o, 3)) (hn : pc + 3 = pn) (ho : 0 ≤ (pc : Int) + o) (ht : ((pc : Int) + o).toNat = pt) (ky : x.toInt < 0 → W K h cl sl pt L st) (kn : ¬ x.toInt < 0 → W K h cl sl pn L st) : W K h cl sl pc L (.int x :: st) := by
  have e0 : (0 : Int32).toInt = 0 := by decide
  by_cases q : x < 0
  · exact W.step (fun T locs X e t z => XS.ifYes X.here O.1 rfl rfl (hb O.2.1 hd) rfl ((if0 _ _).trans (tlt q).1) ho ht z) (ky (by rw [← e0]; exact (Int32.lt_iff_toInt_lt.mp q)))
  · exact W.step (fun T locs X e t z => XS.ifNo X.here O.1 rfl (hb O.2.1 hd) rfl ((if0 _ _).trans (flt q).1) (by rw [← hn] at z; exact z)) (kn fun w => q (by rw [← e0] at w; exact (Int32.lt_iff_toInt_lt.mpr w)))
theorem lcb_lt {x y : Int64} : (lcmpW x y).toInt < 0 ↔ x.toInt < y.toInt := by
  have e0 : (0 : Int32).toInt = 0 := by decide
  rw [← e0]
  exact (Int32.lt_iff_toInt_lt.symm).trans ((lw_lt x y).trans Int64.lt_iff_toInt_lt)
theorem w_lcmp_lt (O : Ok K l Z a0 ts B ml rt own nm R n0 Q) {o : Int} {x y : Int64} {pi pt pn : Nat} (hd : decode B pc = .ok (.lcmp, 1)) (hi : pc + 1 = pi) (hd2 : decode B pi = .ok (.ifCond .lt o, 3)) (hn : pi + 3 = pn) (ho : 0 ≤ (pi : Int) + o) (ht : ((pi : Int) + o).toNat = pt) (ky : x.toInt < y.toInt → W K h cl sl pt L st) (kn : ¬ x.toInt < y.toInt → W K h cl sl pn L st) : W K h cl sl pc L (.long y :: .long x :: st) := by
  subst hi
  exact W.step (fun T locs X e t q => XS.lcmp X.here O.1 rfl (hb O.2.1 hd) rfl q) (w_if_lt O hd2 hn ho ht (fun q => ky (lcb_lt.mp q)) (fun q => kn fun w => q (lcb_lt.mpr w)))
theorem w_icmp_ge (O : Ok K l Z a0 ts B ml rt own nm R n0 Q) {o : Int} {x y : Int32} {pt pn : Nat} (hd : decode B pc = .ok (.if_icmp .ge o, 3)) (hn : pc + 3 = pn) (ho : 0 ≤ (pc : Int) + o) (ht : ((pc : Int) + o).toNat = pt) (ky : ¬ x.toInt < y.toInt → W K h cl sl pt L st) (kn : x.toInt < y.toInt → W K h cl sl pn L st) : W K h cl sl pc L (.int y :: .int x :: st) := by
  by_cases q : x < y
  · exact W.step (fun T locs X e t z => XS.icmpNo X.here O.1 rfl (hb O.2.1 hd) rfl (tlt q).2.1 (by rw [← hn] at z; exact z)) (kn (Int32.lt_iff_toInt_lt.mp q))
  · exact W.step (fun T locs X e t z => XS.icmpYes X.here O.1 rfl rfl (hb O.2.1 hd) rfl (flt q).2.1 ho ht z) (ky fun w => q (Int32.lt_iff_toInt_lt.mpr w))
theorem w_if_ge (O : Ok K l Z a0 ts B ml rt own nm R n0 Q) {o : Int} {x : Int32} {pt pn : Nat} (hd : decode B pc = .ok (.ifCond .ge o, 3)) (hn : pc + 3 = pn) (ho : 0 ≤ (pc : Int) + o) (ht : ((pc : Int) + o).toNat = pt) (ky : ¬ x.toInt < 0 → W K h cl sl pt L st) (kn : x.toInt < 0 → W K h cl sl pn L st) : W K h cl sl pc L (.int x :: st) := by
  have e0 : (0 : Int32).toInt = 0 := by decide
  by_cases q : x < 0
  · exact W.step (fun T locs X e t z => XS.ifNo X.here O.1 rfl (hb O.2.1 hd) rfl ((if0 _ _).trans (tlt q).2.1) (by rw [← hn] at z; exact z)) (kn (by rw [← e0]; exact (Int32.lt_iff_toInt_lt.mp q)))
  · exact W.step (fun T locs X e t z => XS.ifYes X.here O.1 rfl rfl (hb O.2.1 hd) rfl ((if0 _ _).trans (flt q).2.1) ho ht z) (ky fun w => q (by rw [← e0] at w; exact (Int32.lt_iff_toInt_lt.mpr w)))
theorem lcb_ge {x y : Int64} : (lcmpW x y).toInt < 0 ↔ x.toInt < y.toInt := by
  have e0 : (0 : Int32).toInt = 0 := by decide
  rw [← e0]
  exact (Int32.lt_iff_toInt_lt.symm).trans ((lw_lt x y).trans Int64.lt_iff_toInt_lt)
theorem w_lcmp_ge (O : Ok K l Z a0 ts B ml rt own nm R n0 Q) {o : Int} {x y : Int64} {pi pt pn : Nat} (hd : decode B pc = .ok (.lcmp, 1)) (hi : pc + 1 = pi) (hd2 : decode B pi = .ok (.ifCond .ge o, 3)) (hn : pi + 3 = pn) (ho : 0 ≤ (pi : Int) + o) (ht : ((pi : Int) + o).toNat = pt) (ky : ¬ x.toInt < y.toInt → W K h cl sl pt L st) (kn : x.toInt < y.toInt → W K h cl sl pn L st) : W K h cl sl pc L (.long y :: .long x :: st) := by
  subst hi
  exact W.step (fun T locs X e t q => XS.lcmp X.here O.1 rfl (hb O.2.1 hd) rfl q) (w_if_ge O hd2 hn ho ht (fun q => ky fun w => q (lcb_ge.mpr w)) (fun q => kn (lcb_ge.mp q)))
theorem w_icmp_gt (O : Ok K l Z a0 ts B ml rt own nm R n0 Q) {o : Int} {x y : Int32} {pt pn : Nat} (hd : decode B pc = .ok (.if_icmp .gt o, 3)) (hn : pc + 3 = pn) (ho : 0 ≤ (pc : Int) + o) (ht : ((pc : Int) + o).toNat = pt) (ky : y.toInt < x.toInt → W K h cl sl pt L st) (kn : ¬ y.toInt < x.toInt → W K h cl sl pn L st) : W K h cl sl pc L (.int y :: .int x :: st) := by
  by_cases q : y < x
  · exact W.step (fun T locs X e t z => XS.icmpYes X.here O.1 rfl rfl (hb O.2.1 hd) rfl (tlt q).2.2.1 ho ht z) (ky (Int32.lt_iff_toInt_lt.mp q))
  · exact W.step (fun T locs X e t z => XS.icmpNo X.here O.1 rfl (hb O.2.1 hd) rfl (flt q).2.2.1 (by rw [← hn] at z; exact z)) (kn fun w => q (Int32.lt_iff_toInt_lt.mpr w))
theorem w_if_gt (O : Ok K l Z a0 ts B ml rt own nm R n0 Q) {o : Int} {x : Int32} {pt pn : Nat} (hd : decode B pc = .ok (.ifCond .gt o, 3)) (hn : pc + 3 = pn) (ho : 0 ≤ (pc : Int) + o) (ht : ((pc : Int) + o).toNat = pt) (ky : 0 < x.toInt → W K h cl sl pt L st) (kn : ¬ 0 < x.toInt → W K h cl sl pn L st) : W K h cl sl pc L (.int x :: st) := by
  have e0 : (0 : Int32).toInt = 0 := by decide
  by_cases q : 0 < x
  · exact W.step (fun T locs X e t z => XS.ifYes X.here O.1 rfl rfl (hb O.2.1 hd) rfl ((if0 _ _).trans (tlt q).2.2.1) ho ht z) (ky (by rw [← e0]; exact (Int32.lt_iff_toInt_lt.mp q)))
  · exact W.step (fun T locs X e t z => XS.ifNo X.here O.1 rfl (hb O.2.1 hd) rfl ((if0 _ _).trans (flt q).2.2.1) (by rw [← hn] at z; exact z)) (kn fun w => q (by rw [← e0] at w; exact (Int32.lt_iff_toInt_lt.mpr w)))
theorem lcb_gt {x y : Int64} : 0 < (lcmpW x y).toInt ↔ y.toInt < x.toInt := by
  have e0 : (0 : Int32).toInt = 0 := by decide
  rw [← e0]
  exact (Int32.lt_iff_toInt_lt.symm).trans ((lw_gt x y).trans Int64.lt_iff_toInt_lt)
theorem w_lcmp_gt (O : Ok K l Z a0 ts B ml rt own nm R n0 Q) {o : Int} {x y : Int64} {pi pt pn : Nat} (hd : decode B pc = .ok (.lcmp, 1)) (hi : pc + 1 = pi) (hd2 : decode B pi = .ok (.ifCond .gt o, 3)) (hn : pi + 3 = pn) (ho : 0 ≤ (pi : Int) + o) (ht : ((pi : Int) + o).toNat = pt) (ky : y.toInt < x.toInt → W K h cl sl pt L st) (kn : ¬ y.toInt < x.toInt → W K h cl sl pn L st) : W K h cl sl pc L (.long y :: .long x :: st) := by
  subst hi
  exact W.step (fun T locs X e t q => XS.lcmp X.here O.1 rfl (hb O.2.1 hd) rfl q) (w_if_gt O hd2 hn ho ht (fun q => ky (lcb_gt.mp q)) (fun q => kn fun w => q (lcb_gt.mpr w)))
theorem w_icmp_le (O : Ok K l Z a0 ts B ml rt own nm R n0 Q) {o : Int} {x y : Int32} {pt pn : Nat} (hd : decode B pc = .ok (.if_icmp .le o, 3)) (hn : pc + 3 = pn) (ho : 0 ≤ (pc : Int) + o) (ht : ((pc : Int) + o).toNat = pt) (ky : ¬ y.toInt < x.toInt → W K h cl sl pt L st) (kn : y.toInt < x.toInt → W K h cl sl pn L st) : W K h cl sl pc L (.int y :: .int x :: st) := by
  by_cases q : y < x
  · exact W.step (fun T locs X e t z => XS.icmpNo X.here O.1 rfl (hb O.2.1 hd) rfl (tlt q).2.2.2 (by rw [← hn] at z; exact z)) (kn (Int32.lt_iff_toInt_lt.mp q))
  · exact W.step (fun T locs X e t z => XS.icmpYes X.here O.1 rfl rfl (hb O.2.1 hd) rfl (flt q).2.2.2 ho ht z) (ky fun w => q (Int32.lt_iff_toInt_lt.mpr w))
theorem w_if_le (O : Ok K l Z a0 ts B ml rt own nm R n0 Q) {o : Int} {x : Int32} {pt pn : Nat} (hd : decode B pc = .ok (.ifCond .le o, 3)) (hn : pc + 3 = pn) (ho : 0 ≤ (pc : Int) + o) (ht : ((pc : Int) + o).toNat = pt) (ky : ¬ 0 < x.toInt → W K h cl sl pt L st) (kn : 0 < x.toInt → W K h cl sl pn L st) : W K h cl sl pc L (.int x :: st) := by
  have e0 : (0 : Int32).toInt = 0 := by decide
  by_cases q : 0 < x
  · exact W.step (fun T locs X e t z => XS.ifNo X.here O.1 rfl (hb O.2.1 hd) rfl ((if0 _ _).trans (tlt q).2.2.2) (by rw [← hn] at z; exact z)) (kn (by rw [← e0]; exact (Int32.lt_iff_toInt_lt.mp q)))
  · exact W.step (fun T locs X e t z => XS.ifYes X.here O.1 rfl rfl (hb O.2.1 hd) rfl ((if0 _ _).trans (flt q).2.2.2) ho ht z) (ky fun w => q (by rw [← e0] at w; exact (Int32.lt_iff_toInt_lt.mpr w)))
theorem lcb_le {x y : Int64} : 0 < (lcmpW x y).toInt ↔ y.toInt < x.toInt := by
  have e0 : (0 : Int32).toInt = 0 := by decide
  rw [← e0]
  exact (Int32.lt_iff_toInt_lt.symm).trans ((lw_gt x y).trans Int64.lt_iff_toInt_lt)
theorem w_lcmp_le (O : Ok K l Z a0 ts B ml rt own nm R n0 Q) {o : Int} {x y : Int64} {pi pt pn : Nat} (hd : decode B pc = .ok (.lcmp, 1)) (hi : pc + 1 = pi) (hd2 : decode B pi = .ok (.ifCond .le o, 3)) (hn : pi + 3 = pn) (ho : 0 ≤ (pi : Int) + o) (ht : ((pi : Int) + o).toNat = pt) (ky : ¬ y.toInt < x.toInt → W K h cl sl pt L st) (kn : y.toInt < x.toInt → W K h cl sl pn L st) : W K h cl sl pc L (.long y :: .long x :: st) := by
  subst hi
  exact W.step (fun T locs X e t q => XS.lcmp X.here O.1 rfl (hb O.2.1 hd) rfl q) (w_if_le O hd2 hn ho ht (fun q => ky fun w => q (lcb_le.mpr w)) (fun q => kn (lcb_le.mp q)))
theorem w_ifnullY (O : Ok K l Z a0 ts B ml rt own nm R n0 Q) {o : Int} (hd : decode B pc = .ok (.ifnull o, 3)) (ho : 0 ≤ (pc : Int) + o) (ht : ((pc : Int) + o).toNat = pc') (k : W K h cl sl pc' L st) : W K h cl sl pc L (.null :: st) := W.step (fun T locs X e t q => XS.ifnullYes X.here O.1 rfl rfl (hb O.2.1 hd) rfl ho ht q) k
theorem w_ifnullN (O : Ok K l Z a0 ts B ml rt own nm R n0 Q) {o : Int} {b : Addr} (hd : decode B pc = .ok (.ifnull o, 3)) (hp : pc + 3 = pc') (k : W K h cl sl pc' L st) : W K h cl sl pc L (.ref b :: st) := by
  subst hp; exact W.step (fun T locs X e t q => XS.ifnullNo X.here O.1 rfl (hb O.2.1 hd) rfl q) k
theorem w_ifnonnullY (O : Ok K l Z a0 ts B ml rt own nm R n0 Q) {o : Int} {b : Addr} (hd : decode B pc = .ok (.ifnonnull o, 3)) (ho : 0 ≤ (pc : Int) + o) (ht : ((pc : Int) + o).toNat = pc') (k : W K h cl sl pc' L st) : W K h cl sl pc L (.ref b :: st) := W.step (fun T locs X e t q => XS.ifnonnullYes X.here O.1 rfl rfl (hb O.2.1 hd) rfl ho ht q) k
theorem w_ifnonnullN (O : Ok K l Z a0 ts B ml rt own nm R n0 Q) {o : Int} (hd : decode B pc = .ok (.ifnonnull o, 3)) (hp : pc + 3 = pc') (k : W K h cl sl pc' L st) : W K h cl sl pc L (.null :: st) := by
  subst hp; exact W.step (fun T locs X e t q => XS.ifnonnullNo X.here O.1 rfl (hb O.2.1 hd) rfl q) k
theorem w_acmp_eq (O : Ok K l Z a0 ts B ml rt own nm R n0 Q) {o : Int} {x y : Value} {pt pn : Nat} (hd : decode B pc = .ok (.if_acmp .eq o, 3)) (hx' : x.isRef = true) (hy' : y.isRef = true) (hn : pc + 3 = pn) (ho : 0 ≤ (pc : Int) + o) (ht : ((pc : Int) + o).toNat = pt) (ky : x = y → W K h cl sl pt L st) (kn : ¬ x = y → W K h cl sl pn L st) : W K h cl sl pc L (y :: x :: st) := by
  by_cases q : x = y
  · exact W.step (fun T locs X e t z => Jvm.RoadKit.acmp (g := mkF K.2.1.2.1 pc L (y :: x :: st)) X O.1 rfl hx' hy' (pc0 := pc) (pc' := pt) (same := true) rfl (hb O.2.1 hd) rfl (decide_eq_true q) ho (by simp [acV, ht, hn]) z) (ky q)
  · exact W.step (fun T locs X e t z => Jvm.RoadKit.acmp (g := mkF K.2.1.2.1 pc L (y :: x :: st)) X O.1 rfl hx' hy' (pc0 := pc) (pc' := pn) (same := false) rfl (hb O.2.1 hd) rfl (decide_eq_false q) ho (by simp [acV, ht, hn]) z) (kn q)
theorem w_acmp_ne (O : Ok K l Z a0 ts B ml rt own nm R n0 Q) {o : Int} {x y : Value} {pt pn : Nat} (hd : decode B pc = .ok (.if_acmp .ne o, 3)) (hx' : x.isRef = true) (hy' : y.isRef = true) (hn : pc + 3 = pn) (ho : 0 ≤ (pc : Int) + o) (ht : ((pc : Int) + o).toNat = pt) (ky : ¬ x = y → W K h cl sl pt L st) (kn : x = y → W K h cl sl pn L st) : W K h cl sl pc L (y :: x :: st) := by
  by_cases q : x = y
  · exact W.step (fun T locs X e t z => Jvm.RoadKit.acmp (g := mkF K.2.1.2.1 pc L (y :: x :: st)) X O.1 rfl hx' hy' (pc0 := pc) (pc' := pn) (same := true) rfl (hb O.2.1 hd) rfl (decide_eq_true q) ho (by simp [acV, ht, hn]) z) (kn q)
  · exact W.step (fun T locs X e t z => Jvm.RoadKit.acmp (g := mkF K.2.1.2.1 pc L (y :: x :: st)) X O.1 rfl hx' hy' (pc0 := pc) (pc' := pt) (same := false) rfl (hb O.2.1 hd) rfl (decide_eq_false q) ho (by simp [acV, ht, hn]) z) (ky q)
theorem w_getf (O : Ok K l Z a0 ts B ml rt own nm R n0 Q) {i : Nat} {C f d : String} {a : Addr} {v : Value} (hd : decode B pc = .ok (.getfield i, 3)) (hp : pc + 3 = pc') (w : Jvm.Cond.fieldLink own i C f d ∈ ts) (F : Fld Z h a C f d v) (k : W K h cl sl pc' L (v :: st)) : W K h cl sl pc L (.ref a :: st) := by
  subst hp
  exact W.stepT (fun T locs X e => getF X O.1 O.2.2.2.2.2.2.2.1 O.2.2.2.1 (host := "") (Or.inl (O.2.2.2.2.2.2.2.2.1 _ w)) Via.refl e F (g := mkF K.2.1.2.1 pc L (.ref a :: st)) rfl rfl (hb O.2.1 hd)) k
theorem w_gets (O : Ok K l Z a0 ts B ml rt own nm R n0 Q) {i : Nat} {C f d : String} {v : Value} (hd : decode B pc = .ok (.getstatic i, 3)) (hp : pc + 3 = pc') (w : Jvm.Cond.fieldLink own i C f d ∈ ts) (F : Sta Z h C f d v) (k : W K h cl sl pc' L (v :: st)) : W K h cl sl pc L st := by
  subst hp
  exact W.stepT (fun T locs X e => getS2 X O.1 O.2.2.2.2.2.2.2.1 O.2.2.2.1 (host := "") (Or.inl (O.2.2.2.2.2.2.2.2.1 _ w)) Via.refl e F (g := mkF K.2.1.2.1 pc L st) rfl (hb O.2.1 hd)) k
theorem w_putf (O : Ok K l Z a0 ts B ml rt own nm R n0 Q) {i kk : Nat} {C f d : String} {a : Addr} {v old : Value} {ty : FieldType} (hd : decode B pc = .ok (.putfield i, 3)) (hp : pc + 3 = pc') (w : Jvm.Cond.fieldLink own i C f d ∈ ts) (wi : Jvm.Cond.instantiable C kk ∈ ts) (Ly : Jvm.Cond.lays C C f d ∈ ts ∨ (Jvm.Cond.laysFinal C C f d ∈ ts ∧ own = C ∧ nm = "<init>")) (F : Fld Z h a C f d old) (E : Exa Z h a C) (ha : n0 ≤ a) (hty : parseFieldDescriptor d = some ty) (hn : narrow ty v = v) (hf : fits ty v = true)
    (k : ∀ h', Wr h h' a (Jvm.RoadKit.slotOf Z C f d) v → W K h' cl sl pc' L st) : W K h cl sl pc L (v :: .ref a :: st) := by
  subst hp
  have hw := O.2.2.2.2.2.2.2.2.1
  exact W.stepW (fun T locs X e => putF X O.1 O.2.2.2.2.2.2.2.1 O.2.2.2.1 (host := "") (Or.inl (hw _ w)) Via.refl e F E (Ly.imp (fun q => hw _ q) fun q => ⟨hw _ q.1, q.2.1, O.2.2.2.2.1.trans q.2.2⟩) (hw _ wi) hty hn hf (g := mkF K.2.1.2.1 pc L (v :: .ref a :: st)) rfl rfl (hb O.2.1 hd)) (by rw [O.2.2.2.2.2.2.2.2.2.2.2.2.1]; exact ha) k
theorem w_new (O : Ok K l Z a0 ts B ml rt own nm R n0 Q) {i n cl' sl' : Nat} {C : String} (hd : decode B pc = .ok (.new i, 3)) (hp : pc + 3 = pc') (w1 : Jvm.Cond.classLink own i C ∈ ts) (w2 : Jvm.Cond.instantiable C n ∈ ts) (w3 : Jvm.Cond.initialized C ∈ ts) (hc : cl + 1 = cl') (hs : sl + n = sl') (hc' : cl' ≤ R.cells) (hs' : sl' ≤ R.slots)
    (k : ∀ h' b, b = h.size → n0 ≤ b → Ext h h' → Exa Z h' b C → (∀ {Ow nf d : String} {ty : FieldType}, Laid Z a0 C Ow nf d → parseFieldDescriptor d = some ty → Fld Z h' b Ow nf d (defaultValue ty)) → W K h' cl' sl' pc' L (.ref b :: st)) : W K h cl sl pc L st := by
  obtain ⟨⟨p, l', e', R'⟩, ⟨s, m, args, below⟩, ⟨meth, c⟩, Q', n0'⟩ := K
  obtain ⟨hx, hby, hml, hown, hnm, hrt, hlk, hZ, hw, hn0, hl', hR', hn', hQ'⟩ := O
  dsimp only at hx hby hml hown hnm hrt hlk hZ hn0 hl' hR' hn' hQ'
  subst hl' hR' hn' hQ'
  subst hp hc hs
  intro T locs X eT N
  obtain ⟨T2, h2, X2, e2, E2, A2, D2, -, st2⟩ := newO X hx hZ hown (hw _ w1) (hw _ w2) (hw _ w3) eT (g := mkF m pc L st) rfl (hb hby hd) hc' hs'
  obtain ⟨s2, o, h1, r⟩ := k h2 h.size rfl (Nat.le_trans hn0 (by rw [← eT]; exact X.same.2.1)) E2 A2 D2 T2 _ X2 e2 N
  exact ⟨s2, o, st2 _ h1, r⟩
theorem w_objinit (O : Ok K l Z a0 ts B ml rt own nm R n0 Q) {i wt : Nat} {a : Addr} (hd : decode B pc = .ok (.invokespecial i, 3)) (hp : pc + 3 = pc') (w1 : Jvm.Cond.methodLink own i Lib.objectInit ∈ ts) (w2 : Jvm.Cond.instanceMethod Lib.objectInit ∈ ts) (w3 : Jvm.Cond.code Lib.objectInit ⟨#[0xb1]⟩ 1 none ∈ ts) (hsz : L.size = ml) (hwt : (st.map fun v => v.category).sum = wt) (hf : 1 ≤ R.frames) (hl : wt + 12 ≤ R.locals) (k : W K h cl sl pc' L st) : W K h cl sl pc L (.ref a :: st) := by
  obtain ⟨⟨p, l', e', R'⟩, ⟨s, m, args, below⟩, ⟨meth, c⟩, Q', n0'⟩ := K
  obtain ⟨hx, hby, hml, hown, hnm, hrt, hlk, hZ, hw, hn0, hl', hR', hn', hQ'⟩ := O
  dsimp only at hx hby hml hown hnm hrt hlk hZ hn0 hl' hR' hn' hQ'
  subst hl' hR' hn' hQ'
  subst hp hml
  exact W.stepT (fun T locs X e => initO X hx hZ hown (hw _ w1) (hw _ w2) (hw _ w3) e (g := mkF m pc L (.ref a :: st)) rfl hsz rfl (hb hby hd) hf (W := wt) (by show 2 * 0 + _ ≤ _; omega) hl) k
/-- an array of n places, the i-th holds f i -/
def Afn (Z : State) (h : Heap) (a : Addr) (ty : FieldType) (n : Nat) (f : Nat → Value) : Prop := ∃ c : Cell, Arr Z h a c ty ∧ c.slots.size = n ∧ n < 2147483648 ∧ ∀ i, i < n → c.slots[i]? = some (f i)
def upd (f : Nat → Value) (i : Nat) (v : Value) : Nat → Value := fun j => if j = i then v else f j
theorem Afn.lt {a : Addr} {ty : FieldType} {n : Nat} {f : Nat → Value} (A : Afn Z h a ty n f) : a < h.size := by obtain ⟨c, A, -⟩ := A; exact A.lt
theorem Afn.bound {a : Addr} {ty : FieldType} {n : Nat} {f : Nat → Value} (A : Afn Z h a ty n f) : n < 2147483648 := by obtain ⟨c, -, -, q, -⟩ := A; exact q
theorem upd_same (f : Nat → Value) (i : Nat) (v : Value) : upd f i v i = v := if_pos rfl
theorem upd_ne (f : Nat → Value) {i j : Nat} (v : Value) (q : ¬ j = i) : upd f i v j = f j := if_neg q
theorem Afn.ext {h' : Heap} {a : Addr} {ty : FieldType} {n : Nat} {f : Nat → Value} (A : Afn Z h a ty n f) (E : Ext h h') : Afn Z h' a ty n f := by obtain ⟨c, A, r⟩ := A; exact ⟨c, A.ext E, r⟩
theorem Afn.other {h' : Heap} {a b : Addr} {i : Nat} {v : Value} {ty : FieldType} {n : Nat} {f : Nat → Value} (A : Afn Z h b ty n f) (Wq : Wr h h' a i v) (q : b ≠ a) : Afn Z h' b ty n f := by obtain ⟨c, A, r⟩ := A; exact ⟨c, A.other Wq q, r⟩
theorem Afn.keep {h' : Heap} {a : Addr} {ws : List Addr} {ty : FieldType} {n : Nat} {f : Nat → Value} (A : Afn Z h a ty n f) (Kp : Keep h h' ws) (q : a ∉ ws) : Afn Z h' a ty n f := by obtain ⟨c, A, r⟩ := A; exact ⟨c, ⟨Kp.2.1 a c A.1 q, A.2⟩, r⟩
theorem Afn.congr {a : Addr} {ty : FieldType} {n : Nat} {f g : Nat → Value} (A : Afn Z h a ty n f) (q : ∀ i, i < n → f i = g i) : Afn Z h a ty n g := by obtain ⟨c, A, h1, h2, h3⟩ := A; exact ⟨c, A, h1, h2, fun i hi => by rw [← q i hi]; exact h3 i hi⟩
theorem Afn.set {h' : Heap} {a : Addr} {i : Nat} {v : Value} {ty : FieldType} {n : Nat} {f : Nat → Value} (A : Afn Z h a ty n f) (Wq : Wr h h' a i v) : Afn Z h' a ty n (upd f i v) := by
  obtain ⟨c, A, h1, h2, h3⟩ := A
  refine ⟨_, A.same Wq, by simp [Cell.setSlot, h1], h2, fun j hj => ?_⟩
  by_cases q : j = i
  · subst q
    simp [Cell.setSlot, upd, h1, hj]
  · simp only [upd, if_neg q]
    show (c.slots.setIfInBounds i v)[j]? = _
    rw [Array.getElem?_setIfInBounds_ne (fun z => q z.symm)]; exact h3 j hj
theorem tnc {j : Int32} {i : Nat} (hj : j.toInt = (i : Int)) : j.toNatClampNeg = i ∧ ¬ j < 0 := by
  have e0 : (0 : Int32).toInt = 0 := by decide
  have q : ¬ j < 0 := by rw [Int32.lt_iff_toInt_lt, e0]; omega
  have := nat_of q
  exact ⟨by omega, q⟩
theorem idxOk {c : Cell} {n : Nat} {j : Int32} {i : Nat} (hs : c.slots.size = n) (hj : j.toInt = (i : Int)) (hi : i < n) : ¬ (j < 0 ∨ c.slots.size ≤ j.toNatClampNeg) := by
  obtain ⟨q1, q2⟩ := tnc hj
  rintro (z | z)
  · exact q2 z
  · omega

theorem w_iaload (O : Ok K l Z a0 ts B ml rt own nm R n0 Q) {a : Addr} {n i : Nat} {f : Nat → Value} {j : Int32} {x : Int32} (hd : decode B pc = .ok (.iaload, 1)) (hp : pc + 1 = pc') (A : Afn Z h a .int n f) (hj : j.toInt = (i : Int)) (hi : i < n) (hv : f i = .int x) (k : W K h cl sl pc' L (.int x :: st)) : W K h cl sl pc L (.int j :: .ref a :: st) := by
  subst hp
  obtain ⟨c, A, h1, h2, h3⟩ := A
  refine W.step (fun T locs X e t q => X.iaload O.1 (j := j) (v := .int x) (by rw [e]; exact A.1) (State.isArrayOf_alike O.2.2.2.2.2.2.2.1.alike A.2.1) A.2.2 (idxOk h1 hj hi) (by rw [(tnc hj).1, h3 i hi, hv]) (g := mkF K.2.1.2.1 pc L (.int j :: .ref a :: st)) rfl rfl (hb O.2.1 hd) _ q) k
theorem w_laload (O : Ok K l Z a0 ts B ml rt own nm R n0 Q) {a : Addr} {n i : Nat} {f : Nat → Value} {j : Int32} {x : Int64} (hd : decode B pc = .ok (.laload, 1)) (hp : pc + 1 = pc') (A : Afn Z h a .long n f) (hj : j.toInt = (i : Int)) (hi : i < n) (hv : f i = .long x) (k : W K h cl sl pc' L (.long x :: st)) : W K h cl sl pc L (.int j :: .ref a :: st) := by
  subst hp
  obtain ⟨c, A, h1, h2, h3⟩ := A
  refine W.step (fun T locs X e t q => X.laload O.1 (j := j) (v := .long x) (by rw [e]; exact A.1) (State.isArrayOf_alike O.2.2.2.2.2.2.2.1.alike A.2.1) A.2.2 (idxOk h1 hj hi) (by rw [(tnc hj).1, h3 i hi, hv]) (g := mkF K.2.1.2.1 pc L (.int j :: .ref a :: st)) rfl rfl (hb O.2.1 hd) _ q) k
theorem w_baload (O : Ok K l Z a0 ts B ml rt own nm R n0 Q) {a : Addr} {n i : Nat} {f : Nat → Value} {j : Int32} {x : Int32} (hd : decode B pc = .ok (.baload, 1)) (hp : pc + 1 = pc') (A : Afn Z h a .byte n f) (hj : j.toInt = (i : Int)) (hi : i < n) (hv : f i = .int x) (k : W K h cl sl pc' L (.int x :: st)) : W K h cl sl pc L (.int j :: .ref a :: st) := by
  subst hp
  obtain ⟨c, A, h1, h2, h3⟩ := A
  refine W.step (fun T locs X e t q => X.baloadBytes O.1 (j := j) (v := .int x) (by rw [e]; exact A.1) (State.isArrayOf_alike O.2.2.2.2.2.2.2.1.alike A.2.1) A.2.2 (idxOk h1 hj hi) (by rw [(tnc hj).1, h3 i hi, hv]) (g := mkF K.2.1.2.1 pc L (.int j :: .ref a :: st)) rfl rfl (hb O.2.1 hd) _ q) k
theorem w_caload (O : Ok K l Z a0 ts B ml rt own nm R n0 Q) {a : Addr} {n i : Nat} {f : Nat → Value} {j : Int32} {x : Int32} (hd : decode B pc = .ok (.caload, 1)) (hp : pc + 1 = pc') (A : Afn Z h a .char n f) (hj : j.toInt = (i : Int)) (hi : i < n) (hv : f i = .int x) (k : W K h cl sl pc' L (.int x :: st)) : W K h cl sl pc L (.int j :: .ref a :: st) := by
  subst hp
  obtain ⟨c, A, h1, h2, h3⟩ := A
  refine W.step (fun T locs X e t q => X.caload O.1 (j := j) (v := .int x) (by rw [e]; exact A.1) (State.isArrayOf_alike O.2.2.2.2.2.2.2.1.alike A.2.1) A.2.2 (idxOk h1 hj hi) (by rw [(tnc hj).1, h3 i hi, hv]) (g := mkF K.2.1.2.1 pc L (.int j :: .ref a :: st)) rfl rfl (hb O.2.1 hd) _ q) k
theorem w_aaload (O : Ok K l Z a0 ts B ml rt own nm R n0 Q) {a : Addr} {n i : Nat} {f : Nat → Value} {j : Int32} {x : Value} {ty : FieldType} (hd : decode B pc = .ok (.aaload, 1)) (hp : pc + 1 = pc') (A : Afn Z h a ty n f) (hty : ty.isReference = true) (hj : j.toInt = (i : Int)) (hi : i < n) (hv : f i = x) (k : W K h cl sl pc' L (x :: st)) : W K h cl sl pc L (.int j :: .ref a :: st) := by
  subst hp
  obtain ⟨c, A, h1, h2, h3⟩ := A
  refine W.step (fun T locs X e t q => X.aaload O.1 (j := j) (v := x) (by rw [e]; exact A.1) (State.isArrayOf_alike O.2.2.2.2.2.2.2.1.alike A.2.1) hty A.2.2 (idxOk h1 hj hi) (by rw [(tnc hj).1, h3 i hi, hv]) (g := mkF K.2.1.2.1 pc L (.int j :: .ref a :: st)) rfl rfl (hb O.2.1 hd) _ q) k
theorem w_iastore (O : Ok K l Z a0 ts B ml rt own nm R n0 Q) {a : Addr} {n i : Nat} {f : Nat → Value} {j : Int32} {x : Int32} (hd : decode B pc = .ok (.iastore, 1)) (hp : pc + 1 = pc') (A : Afn Z h a .int n f) (hj : j.toInt = (i : Int)) (hi : i < n) (ha : n0 ≤ a) (k : ∀ h', Wr h h' a i (.int x) → W K h' cl sl pc' L st) : W K h cl sl pc L (.int x :: .int j :: .ref a :: st) := by
  subst hp
  obtain ⟨c, A, h1, h2, h3⟩ := A
  rw [← (tnc hj).1] at k
  exact W.stepW (fun T locs X e => stI X O.1 O.2.2.2.2.2.2.2.1 e A (j := j) (idxOk h1 hj hi) (g := mkF K.2.1.2.1 pc L (.int x :: .int j :: .ref a :: st)) rfl rfl (hb O.2.1 hd)) (by rw [O.2.2.2.2.2.2.2.2.2.2.2.2.1]; exact ha) k
theorem w_lastore (O : Ok K l Z a0 ts B ml rt own nm R n0 Q) {a : Addr} {n i : Nat} {f : Nat → Value} {j : Int32} {x : Int64} (hd : decode B pc = .ok (.lastore, 1)) (hp : pc + 1 = pc') (A : Afn Z h a .long n f) (hj : j.toInt = (i : Int)) (hi : i < n) (ha : n0 ≤ a) (k : ∀ h', Wr h h' a i (.long x) → W K h' cl sl pc' L st) : W K h cl sl pc L (.long x :: .int j :: .ref a :: st) := by
  subst hp
  obtain ⟨c, A, h1, h2, h3⟩ := A
  rw [← (tnc hj).1] at k
  exact W.stepW (fun T locs X e => stJ X O.1 O.2.2.2.2.2.2.2.1 e A (j := j) (idxOk h1 hj hi) (g := mkF K.2.1.2.1 pc L (.long x :: .int j :: .ref a :: st)) rfl rfl (hb O.2.1 hd)) (by rw [O.2.2.2.2.2.2.2.2.2.2.2.2.1]; exact ha) k
theorem w_bastore (O : Ok K l Z a0 ts B ml rt own nm R n0 Q) {a : Addr} {n i : Nat} {f : Nat → Value} {j : Int32} {x : Int32} (hd : decode B pc = .ok (.bastore, 1)) (hp : pc + 1 = pc') (A : Afn Z h a .byte n f) (hj : j.toInt = (i : Int)) (hi : i < n) (ha : n0 ≤ a) (k : ∀ h', Wr h h' a i (.int (nar .byte x)) → W K h' cl sl pc' L st) : W K h cl sl pc L (.int x :: .int j :: .ref a :: st) := by
  subst hp
  obtain ⟨c, A, h1, h2, h3⟩ := A
  rw [← (tnc hj).1] at k
  exact W.stepW (fun T locs X e => stB X O.1 O.2.2.2.2.2.2.2.1 e A (j := j) (idxOk h1 hj hi) (g := mkF K.2.1.2.1 pc L (.int x :: .int j :: .ref a :: st)) rfl rfl (hb O.2.1 hd)) (by rw [O.2.2.2.2.2.2.2.2.2.2.2.2.1]; exact ha) k
theorem w_castore (O : Ok K l Z a0 ts B ml rt own nm R n0 Q) {a : Addr} {n i : Nat} {f : Nat → Value} {j : Int32} {x : Int32} (hd : decode B pc = .ok (.castore, 1)) (hp : pc + 1 = pc') (A : Afn Z h a .char n f) (hj : j.toInt = (i : Int)) (hi : i < n) (ha : n0 ≤ a) (k : ∀ h', Wr h h' a i (.int (nar .char x)) → W K h' cl sl pc' L st) : W K h cl sl pc L (.int x :: .int j :: .ref a :: st) := by
  subst hp
  obtain ⟨c, A, h1, h2, h3⟩ := A
  rw [← (tnc hj).1] at k
  exact W.stepW (fun T locs X e => stC X O.1 O.2.2.2.2.2.2.2.1 e A (j := j) (idxOk h1 hj hi) (g := mkF K.2.1.2.1 pc L (.int x :: .int j :: .ref a :: st)) rfl rfl (hb O.2.1 hd)) (by rw [O.2.2.2.2.2.2.2.2.2.2.2.2.1]; exact ha) k
theorem w_alen (O : Ok K l Z a0 ts B ml rt own nm R n0 Q) {a : Addr} {n : Nat} {f : Nat → Value} {z : Int32} {ty : FieldType} (hd : decode B pc = .ok (.arraylength, 1)) (hp : pc + 1 = pc') (A : Afn Z h a ty n f) (hz : z.toInt = (n : Int)) (k : W K h cl sl pc' L (.int z :: st)) : W K h cl sl pc L (.ref a :: st) := by
  subst hp
  obtain ⟨c, A, h1, h2, h3⟩ := A
  have ez : c.slots.size.toInt32 = z := by
    have := (back32 (tnc hz).2).1
    rw [(tnc hz).1, ← h1] at this; exact this
  refine W.step (fun T locs X e t q => X.arraylength O.1 (by rw [e]; exact A.1) (State.isArrayOf_alike O.2.2.2.2.2.2.2.1.alike A.2.1) (g := mkF K.2.1.2.1 pc L (.ref a :: st)) rfl rfl (hb O.2.1 hd) _ (by rw [ez]; exact q)) k
theorem w_newarr (O : Ok K l Z a0 ts B ml rt own nm R n0 Q) {aty : ArrayType} {ty : FieldType} {dv : Value} {z : Int32} {n cap cl' sl' : Nat} (hd : decode B pc = .ok (.newarray aty, 2)) (hp : pc + 2 = pc') (hty : newarray.typeOf aty = ty) (hdv : defaultValue ty = dv) (w : Jvm.Cond.arrayClass ty ∈ ts) (hz : z.toInt = (n : Int)) (hcap : n ≤ cap) (hb8 : cap * 8 ≤ 536870912) (hc : cl + 1 = cl') (hs : sl + cap = sl') (hc' : cl' ≤ R.cells) (hs' : sl' ≤ R.slots)
    (k : ∀ h' b, b = h.size → n0 ≤ b → Ext h h' → Afn Z h' b ty n (fun _ => dv) → W K h' cl' sl' pc' L (.ref b :: st)) : W K h cl sl pc L (.int z :: st) := by
  obtain ⟨⟨p, l', e', R'⟩, ⟨s, m, args, below⟩, ⟨meth, c⟩, Q', n0'⟩ := K
  obtain ⟨hx, hby, hml, hown, hnm, hrt, hlk, hZ, hw, hn0, hl', hR', hn', hQ'⟩ := O
  dsimp only at hx hby hml hown hnm hrt hlk hZ hn0 hl' hR' hn' hQ'
  subst hl' hR' hn' hQ'
  subst hp hc hs hty hdv
  intro T locs X eT N
  obtain ⟨T2, h2, kA, X2, e2, E2, A2, st2⟩ := newP X hx hZ (hw _ w) eT (g := mkF m pc L (.int z :: st)) rfl (hb hby hd) rfl (tnc hz).2 (cap := cap) (by rw [(tnc hz).1]; exact hcap) hb8 hc' hs'
  have hsz : (newA kA (newarray.typeOf aty) z).slots.size = n := by rw [sz_new, (tnc hz).1]
  have hr := (rng32 z).2
  obtain ⟨s2, o, h1, r⟩ := k h2 h.size rfl (Nat.le_trans hn0 (by rw [← eT]; exact X.same.2.1)) E2 ⟨_, A2, hsz, by omega, fun i hi => by show (Array.replicate z.toNatClampNeg (defaultValue (newarray.typeOf aty)))[i]? = _; rw [Array.getElem?_replicate, if_pos (by rw [(tnc hz).1]; exact hi)]⟩ T2 _ X2 e2 N
  exact ⟨s2, o, st2 _ h1, r⟩
theorem w_newarrE (O : Ok K l Z a0 ts B ml rt own nm R n0 Q) {aty : ArrayType} {ty : FieldType} {ad : String} {dv : Value} {z : Int32} {n cap cl' sl' : Nat} (hd : decode B pc = .ok (.newarray aty, 2)) (hp : pc + 2 = pc') (hty : newarray.typeOf aty = ty) (hdv : defaultValue ty = dv) (had : "[" ++ (newarray.typeOf aty).toString = ad) (w : Jvm.Cond.arrayClass ty ∈ ts) (hz : z.toInt = (n : Int)) (hcap : n ≤ cap) (hb8 : cap * 8 ≤ 536870912) (hc : cl + 1 = cl') (hs : sl + cap = sl') (hc' : cl' ≤ R.cells) (hs' : sl' ≤ R.slots)
    (k : ∀ h' b, b = h.size → n0 ≤ b → Ext h h' → Afn Z h' b ty n (fun _ => dv) → Exa Z h' b ad → W K h' cl' sl' pc' L (.ref b :: st)) : W K h cl sl pc L (.int z :: st) := by
  obtain ⟨⟨p, l', e', R'⟩, ⟨s, m, args, below⟩, ⟨meth, c⟩, Q', n0'⟩ := K
  obtain ⟨hx, hby, hml, hown, hnm, hrt, hlk, hZ, hw, hn0, hl', hR', hn', hQ'⟩ := O
  dsimp only at hx hby hml hown hnm hrt hlk hZ hn0 hl' hR' hn' hQ'
  subst hl' hR' hn' hQ'
  subst hp hc hs hty hdv
  intro T locs X eT N
  obtain ⟨T2, h2, kA, X2, e2, E2, A2, Ex2, st2⟩ := newPE X hx hZ (hw _ w) eT (g := mkF m pc L (.int z :: st)) rfl (hb hby hd) rfl (tnc hz).2 (cap := cap) (by rw [(tnc hz).1]; exact hcap) hb8 hc' hs' had
  have hsz : (newA kA (newarray.typeOf aty) z).slots.size = n := by rw [sz_new, (tnc hz).1]
  have hr := (rng32 z).2
  obtain ⟨s2, o, h1, r⟩ := k h2 h.size rfl (Nat.le_trans hn0 (by rw [← eT]; exact X.same.2.1)) E2 ⟨_, A2, hsz, by omega, fun i hi => by show (Array.replicate z.toNatClampNeg (defaultValue (newarray.typeOf aty)))[i]? = _; rw [Array.getElem?_replicate, if_pos (by rw [(tnc hz).1]; exact hi)]⟩ Ex2 T2 _ X2 e2 N
  exact ⟨s2, o, st2 _ h1, r⟩
theorem w_clone (O : Ok K l Z a0 ts B ml rt own nm R n0 Q) {i wt n cap cl' sl' : Nat} {ad : String} {a : Addr} {ty : FieldType} {f : Nat → Value} (hd : decode B pc = .ok (.invokevirtual i, 3)) (hp : pc + 3 = pc') (w1 : Jvm.Cond.methodLink own i ⟨ad, "clone", "()Ljava/lang/Object;"⟩ ∈ ts) (w2 : Jvm.Cond.sameMethod ad "java/lang/Object" "clone" "()Ljava/lang/Object;" ∈ ts) (w3 : Jvm.Cond.native ⟨"java/lang/Object", "clone", "()Ljava/lang/Object;"⟩ ∈ ts) (w4 : Jvm.Cond.instanceMethod ⟨"java/lang/Object", "clone", "()Ljava/lang/Object;"⟩ ∈ ts) (w5 : Jvm.Cond.selects ad ⟨ad, "clone", "()Ljava/lang/Object;"⟩ ⟨"java/lang/Object", "clone", "()Ljava/lang/Object;"⟩ ∈ ts) (w6 : Jvm.Cond.castable ad "java/lang/Cloneable" ∈ ts)
    (A : Afn Z h a ty n f) (E : Exa Z h a ad) (hfit : ∀ i, i < n → fits ty (f i) = true) (hsz : L.size = ml) (hwt : (st.map fun v => v.category).sum = wt) (hf : 1 ≤ R.frames) (hl : wt + 14 ≤ R.locals) (hcap : n ≤ cap) (hc : cl + 1 = cl') (hs : sl + cap = sl') (hc' : cl' ≤ R.cells) (hs' : sl' ≤ R.slots)
    (k : ∀ h' b, b = h.size → n0 ≤ b → Ext h h' → Afn Z h' b ty n f → Exa Z h' b ad → W K h' cl' sl' pc' L (.ref b :: st)) : W K h cl sl pc L (.ref a :: st) := by
  obtain ⟨⟨p, l', e', R'⟩, ⟨s, m, args, below⟩, ⟨meth, c⟩, Q', n0'⟩ := K
  obtain ⟨hx, hby, hml, hown, hnm, hrt, hlk, hZ, hw, hn0, hl', hR', hn', hQ'⟩ := O
  dsimp only at hx hby hml hown hnm hrt hlk hZ hn0 hl' hR' hn' hQ'
  subst hl' hR' hn' hQ'
  subst hp hc hs hml
  intro T locs X eT N
  obtain ⟨cx, A1, h1, h2, h3⟩ := A
  have FC : FitC Z cx := fitC_of A1 fun i hi v hv => by rw [h1] at hi; rw [h3 i hi] at hv; cases hv; exact hfit i hi
  obtain ⟨T2, h4, X2, e2, E2, A2, Ex2, st2⟩ := cloneA X hx hZ hown (hw _ w1) (hw _ w2) (hw _ w3) (hw _ w4) (hw _ w5) (hw _ w6) eT A1 E FC (g := mkF m pc L (.ref a :: st)) rfl hsz rfl (hb hby hd) hf (W := wt) (cap := cap) (by show 2 * 0 + _ ≤ _; omega) hl (by rw [h1]; exact hcap) hc' hs'
  obtain ⟨s2, o, g1, r⟩ := k h4 h.size rfl (Nat.le_trans hn0 (by rw [← eT]; exact X.same.2.1)) E2 ⟨_, A2, h1, h2, h3⟩ Ex2 T2 _ X2 e2 N
  exact ⟨s2, o, st2 _ g1, r⟩
theorem w_cast (O : Ok K l Z a0 ts B ml rt own nm R n0 Q) {i : Nat} {C : String} {a : Addr} (hd : decode B pc = .ok (.checkcast i, 3)) (hp : pc + 3 = pc') (w : Jvm.Cond.classLink own i C ∈ ts) (I : Ins Z h a C true) (k : W K h cl sl pc' L (.ref a :: st)) : W K h cl sl pc L (.ref a :: st) := by
  subst hp
  exact W.stepT (fun T locs X e => castY X O.1 O.2.2.2.2.2.2.2.1 O.2.2.2.1 (O.2.2.2.2.2.2.2.2.1 _ w) e I (g := mkF K.2.1.2.1 pc L (.ref a :: st)) rfl rfl (hb O.2.1 hd)) k
/-- the array at a takes every C -/
def Tk (Z : State) (h : Heap) (a : Addr) (C : String) : Prop := ∃ (c : Cell) (k : Class) (comp : ClassId) (t : FieldType), h[a]? = some c ∧ Z.vm.classes[c.cls]? = some k ∧ k.kind = .array comp t ∧ Z.vm.findClass C = some comp
theorem Tk.lt {a : Addr} {C : String} (F : Tk Z h a C) : a < h.size := by obtain ⟨_, _, _, _, h1, -⟩ := F; exact (Array.getElem?_eq_some_iff.mp h1).1
theorem Tk.ext {h' : Heap} {a : Addr} {C : String} (F : Tk Z h a C) (E : Ext h h') : Tk Z h' a C := by obtain ⟨c, k, cp, t, h1, r⟩ := F; exact ⟨c, k, cp, t, E.2 _ _ h1, r⟩
theorem Tk.wr {h' : Heap} {a b : Addr} {C : String} {i : Nat} {v : Value} (F : Tk Z h a C) (Wq : Wr h h' b i v) : Tk Z h' a C := by
  obtain ⟨c, k, cp, t, h1, h2, r⟩ := F
  obtain ⟨d1, a1, a2, -⟩ := wr_at Wq h1
  exact ⟨d1, k, cp, t, a1, by rw [a2]; exact h2, r⟩
theorem Tk.keep {h' : Heap} {a : Addr} {C : String} {ws : List Addr} (F : Tk Z h a C) (Kp : Keep h h' ws) : Tk Z h' a C := by
  obtain ⟨c, k, cp, t, h1, h2, r⟩ := F
  obtain ⟨d1, a1, a2, -⟩ := Kp.2.2 a c h1
  exact ⟨d1, k, cp, t, a1, by rw [a2]; exact h2, r⟩
theorem Tk.sto {a y : Addr} {C : String} (F : Tk Z h a C) (I : Ins Z h y C true) : Sto Z h a (.ref y) := by
  obtain ⟨cl, k, comp, t, o0, o1, o2, o3⟩ := F
  obtain ⟨cv, cT, i1, i2, i3⟩ := I
  cases o3.symm.trans i2
  simp only [Bool.and_eq_true, Bool.not_eq_true'] at i3
  obtain ⟨kc, q⟩ := Vm.classAt_of_findClass o3
  obtain ⟨kv, q2⟩ := Vm.classAt_of_assignable i3.2 ⟨kc, q⟩
  exact Or.inr ⟨cl, cv, k, kv, kc, _, _, y, o0, o1, o2, q, rfl, i1, i3.1, q2, i3.2⟩
theorem w_anewarrA (O : Ok K l Z a0 ts B ml rt own nm R n0 Q) {i : Nat} {C ad : String} {ty : FieldType} {z : Int32} {n cap cl' sl' : Nat} (hd : decode B pc = .ok (.anewarray i, 3)) (hp : pc + 3 = pc') (hC : (FieldType.array ty).toString = C) (had : "[" ++ C = ad) (w1 : Jvm.Cond.classLink own i C ∈ ts) (w2 : Jvm.Cond.arrayOver (.array ty) ∈ ts) (hz : z.toInt = (n : Int)) (hcap : n ≤ cap) (hb8 : cap * 8 ≤ 536870912) (hc : cl + 1 = cl') (hs : sl + cap = sl') (hc' : cl' ≤ R.cells) (hs' : sl' ≤ R.slots)
    (k : ∀ h' b, b = h.size → n0 ≤ b → Ext h h' → Afn Z h' b (.array ty) n (fun _ => .null) → Exa Z h' b ad → Tk Z h' b C → W K h' cl' sl' pc' L (.ref b :: st)) : W K h cl sl pc L (.int z :: st) := by
  obtain ⟨⟨p, l', e', R'⟩, ⟨s, m, args, below⟩, ⟨meth, c⟩, Q', n0'⟩ := K
  obtain ⟨hx, hby, hml, hown, hnm, hrt, hlk, hZ, hw, hn0, hl', hR', hn', hQ'⟩ := O
  dsimp only at hx hby hml hown hnm hrt hlk hZ hn0 hl' hR' hn' hQ'
  subst hl' hR' hn' hQ'
  subst hp hc hs
  intro T locs X eT N
  obtain ⟨T2, h2, kA, X2, e2, E2, A2, Ex2, Ov2, st2⟩ := newRA X hx hZ hown hC (hw _ w1) (hw _ w2) eT (g := mkF m pc L (.int z :: st)) rfl (hb hby hd) rfl (tnc hz).2 (cap := cap) (by rw [(tnc hz).1]; exact hcap) hb8 hc' hs' had
  have hsz : (newA kA (.array ty) z).slots.size = n := by rw [sz_new, (tnc hz).1]
  have hr := (rng32 z).2
  obtain ⟨ko, cpo, o1, o2, o3⟩ := Ov2
  obtain ⟨s2, o, h1, r⟩ := k h2 h.size rfl (Nat.le_trans hn0 (by rw [← eT]; exact X.same.2.1)) E2 ⟨_, A2, hsz, by omega, fun i hi => by show (Array.replicate z.toNatClampNeg (defaultValue (.array ty)))[i]? = _; rw [Array.getElem?_replicate, if_pos (by rw [(tnc hz).1]; exact hi)]; rfl⟩ Ex2 ⟨_, ko, cpo, _, A2.1, o1, o2, o3⟩ T2 _ X2 e2 N
  exact ⟨s2, o, st2 _ h1, r⟩
theorem w_aastore (O : Ok K l Z a0 ts B ml rt own nm R n0 Q) {a : Addr} {n i : Nat} {f : Nat → Value} {j : Int32} {x : Value} {ty : FieldType} (hd : decode B pc = .ok (.aastore, 1)) (hp : pc + 1 = pc') (A : Afn Z h a ty n f) (hty : ty.isReference = true) (hj : j.toInt = (i : Int)) (hi : i < n) (ha : n0 ≤ a) (St : Sto Z h a x) (k : ∀ h', Wr h h' a i x → W K h' cl sl pc' L st) : W K h cl sl pc L (x :: .int j :: .ref a :: st) := by
  subst hp
  obtain ⟨c, A, h1, h2, h3⟩ := A
  rw [← (tnc hj).1] at k
  exact W.stepW (fun T locs X e => stR X O.1 O.2.2.2.2.2.2.2.1 e A (j := j) (idxOk h1 hj hi) hty St (g := mkF K.2.1.2.1 pc L (x :: .int j :: .ref a :: st)) rfl rfl (hb O.2.1 hd)) (by rw [O.2.2.2.2.2.2.2.2.2.2.2.2.1]; exact ha) k
theorem w_static (O : Ok K l Z a0 ts B ml rt own nm R n0 Q) {i ml' wt cl' sl' : Nat} {y : MethodName} {B' : ByteArray} {rt' : Option FieldType} {rm : Room} {as S : List Value} {Qc : Option Value → Heap → Prop} {sg : MethodDescriptor} (hd : decode B pc = .ok (.invokestatic i, 3)) (hp : pc + 3 = pc') (w1 : Jvm.Cond.methodLink own i y ∈ ts) (w2 : Jvm.Cond.static y ∈ ts) (w3 : Jvm.Cond.initialized y.cls ∈ ts) (w4 : Jvm.Cond.code y B' ml' rt' ∈ ts) (hy : y.cls ≠ "java/lang/invoke/MethodHandle" ∧ y.cls ≠ "java/lang/invoke/VarHandle")
    (con : Con l Z y B' ml' rt' rm as h n0 Qc) (hS : S = as.reverse ++ st) (hsg : parseMethodDescriptor y.desc = some sg) (hlen : as.length = sg.parameters.length) (hwt : (st.map fun v => v.category).sum = wt) (hsz : L.size = ml) (hf : rm.frames + 1 ≤ R.frames) (hl : wt + (ml' + 11) + rm.locals ≤ R.locals) (hc : cl + rm.cells = cl') (hs : sl + rm.slots = sl') (hc' : cl' ≤ R.cells) (hs' : sl' ≤ R.slots) (k : ∀ v h', Qc v h' → W K h' cl' sl' pc' L (v.toList ++ st)) : W K h cl sl pc L S := by
  obtain ⟨⟨p, l', e', R'⟩, ⟨s, m, args, below⟩, ⟨meth, c⟩, Q', n0'⟩ := K
  obtain ⟨hx, hby, hml, hown, hnm, hrt, hlk, hZ, hw, hn0, hl', hR', hn', hQ'⟩ := O
  dsimp only at hx hby hml hown hnm hrt hlk hZ hn0 hl' hR' hn' hQ'
  subst hl' hR' hn' hQ'
  subst hp hc hs hS hml
  intro T locs X eT N
  have hn1 : n0' ≤ h.size := Nat.le_trans hn0 (by rw [← eT]; exact X.same.2.1)
  obtain ⟨_, _, ⟨T', L', k', n'⟩, -, X', ⟨Lc, ⟨hQ, hFr⟩, l1, y1, z1⟩, st1⟩ := Jvm.LawKit.callS X hx (y := y) hown (mvT hZ (hw _ w1)) (mvT hZ (hw _ w2)) (mvT hZ (hw _ w3)) (mvT hZ (hw _ w4)) hy (backOf (W := wt) (Q := fun v h L => Qc v h ∧ Fr n0' L) (con hn1 []) hZ (hw _ w4) (hw _ w3) hf hl) (g := mkF m pc L (as.reverse ++ st)) rfl hsz (argsL := as) (rest := st) (lenOf hsg hlen) rfl (by show 2 * 0 + _ ≤ _; omega) (hb hby hd) (fun _ _ => ⟨rfl, eT, hc', hs'⟩)
  dsimp only [Pt.U, Pt.locs, Pt.cells, Pt.slots] at X' l1 y1 z1 st1 hQ
  subst l1 y1 z1
  obtain ⟨s2, o, h1, r⟩ := k _ T'.heap hQ T' _ X' rfl (Fr.app N hFr)
  exact ⟨s2, o, st1 _ h1, r⟩
theorem w_virtual (O : Ok K l Z a0 ts B ml rt own nm R n0 Q) {i ml' wt cl' sl' : Nat} {y : MethodName} {B' : ByteArray} {rt' : Option FieldType} {rm : Room} {as S : List Value} {Qc : Option Value → Heap → Prop} {sg : MethodDescriptor} {a : Addr} {C : String} (hd : decode B pc = .ok (.invokevirtual i, 3)) (hp : pc + 3 = pc') (w1 : Jvm.Cond.methodLink own i y ∈ ts) (w2 : Jvm.Cond.declares y ∈ ts) (w3 : Jvm.Cond.selects C y y ∈ ts) (w4 : Jvm.Cond.instanceMethod y ∈ ts) (w5 : Jvm.Cond.code y B' ml' rt' ∈ ts) (w6 : Jvm.Cond.initialized y.cls ∈ ts) (hy : y.cls ≠ "java/lang/invoke/MethodHandle" ∧ y.cls ≠ "java/lang/invoke/VarHandle") (E : Exa Z h a C)
    (con : Con l Z y B' ml' rt' rm (.ref a :: as) h n0 Qc) (hS : S = as.reverse ++ .ref a :: st) (hsg : parseMethodDescriptor y.desc = some sg) (hlen : as.length = sg.parameters.length) (hwt : (st.map fun v => v.category).sum = wt) (hsz : L.size = ml) (hf : rm.frames + 1 ≤ R.frames) (hl : wt + (ml' + 11) + rm.locals ≤ R.locals) (hc : cl + rm.cells = cl') (hs : sl + rm.slots = sl') (hc' : cl' ≤ R.cells) (hs' : sl' ≤ R.slots) (k : ∀ v h', Qc v h' → W K h' cl' sl' pc' L (v.toList ++ st)) : W K h cl sl pc L S := by
  obtain ⟨⟨p, l', e', R'⟩, ⟨s, m, args, below⟩, ⟨meth, c⟩, Q', n0'⟩ := K
  obtain ⟨hx, hby, hml, hown, hnm, hrt, hlk, hZ, hw, hn0, hl', hR', hn', hQ'⟩ := O
  dsimp only at hx hby hml hown hnm hrt hlk hZ hn0 hl' hR' hn' hQ'
  subst hl' hR' hn' hQ'
  subst hp hc hs hS hml
  intro T locs X eT N
  have hn1 : n0' ≤ h.size := Nat.le_trans hn0 (by rw [← eT]; exact X.same.2.1)
  obtain ⟨cq, kq, qa, qb, qc⟩ := isOf hZ eT E
  obtain ⟨_, _, ⟨T', L', k', n'⟩, -, X', ⟨Lc, ⟨hQ, hFr⟩, l1, y1, z1⟩, st1⟩ := X.virtualBack hx (y := y) (z := y) hown (mvT hZ (hw _ w1)) (mvT hZ (hw _ w2)) (notFace_of_selects (args := #[]) (mvT hZ (hw _ w3))) (mvT hZ (hw _ w3)) (mvT hZ (hw _ w4)) hy (backOf (W := wt) (Q := fun v h L => Qc v h ∧ Fr n0' L) (con hn1 []) hZ (hw _ w5) (hw _ w6) hf hl) qa qc (g := mkF m pc L (as.reverse ++ .ref a :: st)) rfl hsz (Steps.refl _) (argsL := as) (rest := st) (lenOf hsg hlen) rfl (by show 2 * 0 + _ ≤ _; omega) (hb hby hd) (fun _ _ => ⟨rfl, eT, hc', hs'⟩)
  dsimp only [Pt.U, Pt.locs, Pt.cells, Pt.slots] at X' l1 y1 z1 st1 hQ
  subst l1 y1 z1
  obtain ⟨s2, o, h1, r⟩ := k _ T'.heap hQ T' _ X' rfl (Fr.app N hFr)
  exact ⟨s2, o, st1.trans h1, r⟩
theorem w_private (O : Ok K l Z a0 ts B ml rt own nm R n0 Q) {i ml' wt cl' sl' : Nat} {y : MethodName} {B' : ByteArray} {rt' : Option FieldType} {rm : Room} {as S : List Value} {Qc : Option Value → Heap → Prop} {sg : MethodDescriptor} {kk : Nat} {a : Addr} {C : String} (hd : decode B pc = .ok (.invokevirtual i, 3)) (hp : pc + 3 = pc') (w1 : Jvm.Cond.methodLink own i y ∈ ts) (w2 : Jvm.Cond.instanceMethod y ∈ ts) (w3 : Jvm.Cond.privateMethod y ∈ ts) (w4 : Jvm.Cond.instantiable y.cls kk ∈ ts) (w5 : Jvm.Cond.code y B' ml' rt' ∈ ts) (w6 : Jvm.Cond.initialized y.cls ∈ ts) (hy : y.cls ≠ "java/lang/invoke/MethodHandle" ∧ y.cls ≠ "java/lang/invoke/VarHandle") (E : Exa Z h a C)
    (con : Con l Z y B' ml' rt' rm (.ref a :: as) h n0 Qc) (hS : S = as.reverse ++ .ref a :: st) (hsg : parseMethodDescriptor y.desc = some sg) (hlen : as.length = sg.parameters.length) (hwt : (st.map fun v => v.category).sum = wt) (hsz : L.size = ml) (hf : rm.frames + 1 ≤ R.frames) (hl : wt + (ml' + 11) + rm.locals ≤ R.locals) (hc : cl + rm.cells = cl') (hs : sl + rm.slots = sl') (hc' : cl' ≤ R.cells) (hs' : sl' ≤ R.slots) (k : ∀ v h', Qc v h' → W K h' cl' sl' pc' L (v.toList ++ st)) : W K h cl sl pc L S := by
  obtain ⟨⟨p, l', e', R'⟩, ⟨s, m, args, below⟩, ⟨meth, c⟩, Q', n0'⟩ := K
  obtain ⟨hx, hby, hml, hown, hnm, hrt, hlk, hZ, hw, hn0, hl', hR', hn', hQ'⟩ := O
  dsimp only at hx hby hml hown hnm hrt hlk hZ hn0 hl' hR' hn' hQ'
  subst hl' hR' hn' hQ'
  subst hp hc hs hS hml
  intro T locs X eT N
  have hn1 : n0' ≤ h.size := Nat.le_trans hn0 (by rw [← eT]; exact X.same.2.1)
  obtain ⟨cq, q1, q2⟩ := E.cell
  have hpr : s.PrivateAt y := Cond.privateMethod_at (mvP hZ (hw _ w3) (args := #[]))
  have hsel : (Jvm.Cond.selects y.cls y y).before args s = true := by
    obtain ⟨c1, k1, g1, g2, -, g3, -⟩ := Cond.instantiable_spec (mvT (args := args) hZ (hw _ w4))
    exact selects_self_of_private g1 g2 (by simp at g3; exact g3.1) hpr (mvT hZ (hw _ w2)) hy
  obtain ⟨_, _, ⟨T', L', k', n'⟩, -, X', ⟨Lc, ⟨hQ, hFr⟩, l1, y1, z1⟩, st1⟩ := X.privateBack hx (y := y) hown (mvT hZ (hw _ w1)) (mvT hZ (hw _ w2)) hsel hpr (mvT hZ (hw _ w5)) hy (backOf (W := wt) (Q := fun v h L => Qc v h ∧ Fr n0' L) (con hn1 []) hZ (hw _ w5) (hw _ w6) hf hl) (g := mkF m pc L (as.reverse ++ .ref a :: st)) rfl hsz (Steps.refl _) (a := a) (by rw [eT]; exact q1) q2 (argsL := as) (rest := st) (lenOf hsg hlen) rfl (by show 2 * 0 + _ ≤ _; omega) (hb hby hd) (fun _ _ => ⟨rfl, eT, hc', hs'⟩)
  dsimp only [Pt.U, Pt.locs, Pt.cells, Pt.slots] at X' l1 y1 z1 st1 hQ
  subst l1 y1 z1
  obtain ⟨s2, o, h1, r⟩ := k _ T'.heap hQ T' _ X' rfl (Fr.app N hFr)
  exact ⟨s2, o, st1.trans h1, r⟩
theorem w_init (O : Ok K l Z a0 ts B ml rt own nm R n0 Q) {i ml' wt cl' sl' : Nat} {y : MethodName} {B' : ByteArray} {rm : Room} {as S : List Value} {Qc : Option Value → Heap → Prop} {sg : MethodDescriptor} {a : Addr} (hd : decode B pc = .ok (.invokespecial i, 3)) (hp : pc + 3 = pc') (hin : y.name = "<init>") (w1 : Jvm.Cond.methodLink own i y ∈ ts) (w2 : Jvm.Cond.instanceMethod y ∈ ts) (w3 : Jvm.Cond.initialized y.cls ∈ ts) (w4 : Jvm.Cond.code y B' ml' none ∈ ts) (hy : y.cls ≠ "java/lang/invoke/MethodHandle" ∧ y.cls ≠ "java/lang/invoke/VarHandle")
    (con : Con l Z y B' ml' none rm (.ref a :: as) h n0 Qc) (hS : S = as.reverse ++ .ref a :: st) (hsg : parseMethodDescriptor y.desc = some sg) (hlen : as.length = sg.parameters.length) (hwt : (st.map fun v => v.category).sum = wt) (hsz : L.size = ml) (hf : rm.frames + 1 ≤ R.frames) (hl : wt + (ml' + 11) + rm.locals ≤ R.locals) (hc : cl + rm.cells = cl') (hs : sl + rm.slots = sl') (hc' : cl' ≤ R.cells) (hs' : sl' ≤ R.slots) (k : ∀ v h', Qc v h' → W K h' cl' sl' pc' L (v.toList ++ st)) : W K h cl sl pc L S := by
  obtain ⟨⟨p, l', e', R'⟩, ⟨s, m, args, below⟩, ⟨meth, c⟩, Q', n0'⟩ := K
  obtain ⟨hx, hby, hml, hown, hnm, hrt, hlk, hZ, hw, hn0, hl', hR', hn', hQ'⟩ := O
  dsimp only at hx hby hml hown hnm hrt hlk hZ hn0 hl' hR' hn' hQ'
  subst hl' hR' hn' hQ'
  subst hp hc hs hS hml
  intro T locs X eT N
  have hn1 : n0' ≤ h.size := Nat.le_trans hn0 (by rw [← eT]; exact X.same.2.1)
  obtain ⟨_, _, ⟨T', L', k', n'⟩, -, X', ⟨Lc, ⟨hQ, hFr⟩, l1, y1, z1⟩, st1⟩ := X.specialBack hx (y := y) hin hown (mvT hZ (hw _ w1)) (mvT hZ (hw _ w2)) (mvT hZ (hw _ w4)) hy (backOf (W := wt) (Q := fun v h L => Qc v h ∧ Fr n0' L) (con hn1 []) hZ (hw _ w4) (hw _ w3) hf hl) (g := mkF m pc L (as.reverse ++ .ref a :: st)) rfl hsz (Steps.refl _) (a := a) (argsL := as) (rest := st) (lenOf hsg hlen) rfl (by show 2 * 0 + _ ≤ _; omega) (hb hby hd) (fun _ _ => ⟨rfl, eT, hc', hs'⟩)
  dsimp only [Pt.U, Pt.locs, Pt.cells, Pt.slots] at X' l1 y1 z1 st1 hQ
  subst l1 y1 z1
  obtain ⟨s2, o, h1, r⟩ := k _ T'.heap hQ T' _ X' rfl (Fr.app N hFr)
  exact ⟨s2, o, st1.trans h1, r⟩
theorem w_initB (O : Ok K l Z a0 ts B ml rt own nm R n0 Q) {i ml' wt cl' sl' rc rs : Nat} {y : MethodName} {B' : ByteArray} {as S : List Value} {Qc : Option Value → Heap → List Loc → Prop} {sg : MethodDescriptor} {a : Addr} (hd : decode B pc = .ok (.invokespecial i, 3)) (hp : pc + 3 = pc') (hin : y.name = "<init>") (w1 : Jvm.Cond.methodLink own i y ∈ ts) (w2 : Jvm.Cond.instanceMethod y ∈ ts) (w4 : Jvm.Cond.code y B' ml' none ∈ ts) (hy : y.cls ≠ "java/lang/invoke/MethodHandle" ∧ y.cls ≠ "java/lang/invoke/VarHandle")
    (bk : n0 ≤ h.size → ∀ (p : Program) (e : Env) (below : List Frame) (s : State) (args : Array Value), Z.Warmed39 s.vm → Back l R p e below s args y 3 wt (fun P a' => a' = (Value.ref a :: as).toArray ∧ P.U.heap = h ∧ P.cells + rc ≤ R.cells ∧ P.slots + rs ≤ R.slots) (fun P _ v B => ∃ L, Qc v B.U.heap L ∧ B.locs = P.locs ++ L ∧ B.cells = P.cells + rc ∧ B.slots = P.slots + rs)) (hfr : ∀ v h' L, Qc v h' L → Fr n0 L)
    (hS : S = as.reverse ++ .ref a :: st) (hsg : parseMethodDescriptor y.desc = some sg) (hlen : as.length = sg.parameters.length) (hwt : (st.map fun v => v.category).sum = wt) (hsz : L.size = ml) (hc : cl + rc = cl') (hs : sl + rs = sl') (hc' : cl' ≤ R.cells) (hs' : sl' ≤ R.slots) (k : ∀ v h' Ls, Qc v h' Ls → W K h' cl' sl' pc' L (v.toList ++ st)) : W K h cl sl pc L S := by
  obtain ⟨⟨p, l', e', R'⟩, ⟨s, m, args, below⟩, ⟨meth, c⟩, Q', n0'⟩ := K
  obtain ⟨hx, hby, hml, hown, hnm, hrt, hlk, hZ, hw, hn0, hl', hR', hn', hQ'⟩ := O
  dsimp only at hx hby hml hown hnm hrt hlk hZ hn0 hl' hR' hn' hQ'
  subst hl' hR' hn' hQ'
  subst hp hc hs hS hml
  intro T locs X eT N
  have hn1 : n0' ≤ h.size := Nat.le_trans hn0 (by rw [← eT]; exact X.same.2.1)
  obtain ⟨_, _, ⟨T', L', k', n'⟩, -, X', ⟨Lc, hQ, l1, y1, z1⟩, st1⟩ := X.specialBack hx (y := y) hin hown (mvT hZ (hw _ w1)) (mvT hZ (hw _ w2)) (mvT hZ (hw _ w4)) hy (bk hn1 p e' below s args hZ) (g := mkF m pc L (as.reverse ++ .ref a :: st)) rfl hsz (Steps.refl _) (a := a) (argsL := as) (rest := st) (lenOf hsg hlen) rfl (by show 2 * 0 + _ ≤ _; omega) (hb hby hd) (fun _ _ => ⟨rfl, eT, hc', hs'⟩)
  dsimp only [Pt.U, Pt.locs, Pt.cells, Pt.slots] at X' l1 y1 z1 st1 hQ
  subst l1 y1 z1
  obtain ⟨s2, o, h1, r⟩ := k _ T'.heap _ hQ T' _ X' rfl (Fr.app N (hfr _ _ _ hQ))
  exact ⟨s2, o, st1.trans h1, r⟩
theorem Afn.arv {a : Addr} {ty : FieldType} {n : Nat} {f : Nat → Value} {N : Int32} {vs : List Value} {d : Value} (A : Afn Z h a ty n f) (hN : N.toInt = (n : Int)) (hv : ∀ i, i < n → vs.getD i d = f i) (hf : ∀ i, i < n → fits ty (f i) = true) : ∃ k, Arv Z h a k ty N vs d := by
  obtain ⟨c, A, h1, h2, h3⟩ := A
  refine ⟨c.cls, c, A, rfl, by rw [h1, (tnc hN).1], (tnc hN).2, fun i hi => ?_, fun i hi => ?_⟩
  · rw [h1] at hi; rw [hv i hi]; exact h3 i hi
  · rw [h1] at hi; rw [hv i hi]; exact hf i hi
theorem w_reti {x : Int32} (O : Ok K l Z a0 ts B ml (some .int) own nm R n0 Q) (hd : decode B pc = .ok (.ireturn, 1)) (hc : cl ≤ R.cells) (hs : sl ≤ R.slots) (hq : Q (some (.int x)) h) : W K h cl sl pc L (.int x :: st) := by
  obtain ⟨⟨p, l', e', R'⟩, ⟨s, m, args, below⟩, ⟨meth, c⟩, Q', n0'⟩ := K
  obtain ⟨hx, hby, hml, hown, hnm, hrt, hlk, hZ, hw, hn0, hl', hR', hn', hQ'⟩ := O
  dsimp only at hx hby hml hown hnm hrt hlk hZ hn0 hl' hR' hn' hQ'
  subst hl' hR' hn' hQ'
  intro T locs X eT N
  obtain ⟨fs, hr, hrun, hended, hW, hsame⟩ := X.leave (v := some (.int x)) (fun q => by rw [hrt] at q; cases q) hlk
  refine ⟨_, _, retOut X hx hrt rfl (Or.inl ⟨rfl, Or.inl rfl, _, rfl⟩) (hb hby hd) hr, hrun, hended, _, _, rfl, ⟨?_, N⟩, ⟨_, rfl⟩, hW, hsame.mono hc hs⟩
  show Q' _ T.heap
  rw [eT]; exact hq
theorem w_retz {x : Int32} (O : Ok K l Z a0 ts B ml (some .boolean) own nm R n0 Q) (hd : decode B pc = .ok (.ireturn, 1)) (hc : cl ≤ R.cells) (hs : sl ≤ R.slots) (hz : x = 0 ∨ x = 1) (hq : Q (some (.int x)) h) : W K h cl sl pc L (.int x :: st) := by
  have hna : narrow .boolean (.int x) = .int x := by rcases hz with rfl | rfl <;> rfl
  obtain ⟨⟨p, l', e', R'⟩, ⟨s, m, args, below⟩, ⟨meth, c⟩, Q', n0'⟩ := K
  obtain ⟨hx, hby, hml, hown, hnm, hrt, hlk, hZ, hw, hn0, hl', hR', hn', hQ'⟩ := O
  dsimp only at hx hby hml hown hnm hrt hlk hZ hn0 hl' hR' hn' hQ'
  subst hl' hR' hn' hQ'
  intro T locs X eT N
  obtain ⟨fs, hr, hrun, hended, hW, hsame⟩ := X.leave (v := some (.int x)) (fun q => by rw [hrt] at q; cases q) hlk
  refine ⟨_, _, retOut X hx hrt hna (Or.inl ⟨rfl, Or.inr (Or.inl rfl), _, rfl⟩) (hb hby hd) hr, hrun, hended, _, _, rfl, ⟨?_, N⟩, ⟨_, rfl⟩, hW, hsame.mono hc hs⟩
  show Q' _ T.heap
  rw [eT]; exact hq
theorem w_retl {x : Int64} (O : Ok K l Z a0 ts B ml (some .long) own nm R n0 Q) (hd : decode B pc = .ok (.lreturn, 1)) (hc : cl ≤ R.cells) (hs : sl ≤ R.slots) (hq : Q (some (.long x)) h) : W K h cl sl pc L (.long x :: st) := by
  obtain ⟨⟨p, l', e', R'⟩, ⟨s, m, args, below⟩, ⟨meth, c⟩, Q', n0'⟩ := K
  obtain ⟨hx, hby, hml, hown, hnm, hrt, hlk, hZ, hw, hn0, hl', hR', hn', hQ'⟩ := O
  dsimp only at hx hby hml hown hnm hrt hlk hZ hn0 hl' hR' hn' hQ'
  subst hl' hR' hn' hQ'
  intro T locs X eT N
  obtain ⟨fs, hr, hrun, hended, hW, hsame⟩ := X.leave (v := some (.long x)) (fun q => by rw [hrt] at q; cases q) hlk
  refine ⟨_, _, retOut X hx hrt rfl (Or.inr (Or.inl ⟨rfl, rfl, _, rfl⟩)) (hb hby hd) hr, hrun, hended, _, _, rfl, ⟨?_, N⟩, ⟨_, rfl⟩, hW, hsame.mono hc hs⟩
  show Q' _ T.heap
  rw [eT]; exact hq
theorem w_reta {x : Value} {t : FieldType} (O : Ok K l Z a0 ts B ml (some t) own nm R n0 Q) (hd : decode B pc = .ok (.areturn, 1)) (ht : t.isReference = true) (hna : narrow t x = x) (hx' : x.isRef = true) (hc : cl ≤ R.cells) (hs : sl ≤ R.slots) (hq : Q (some x) h) : W K h cl sl pc L (x :: st) := by
  obtain ⟨⟨p, l', e', R'⟩, ⟨s, m, args, below⟩, ⟨meth, c⟩, Q', n0'⟩ := K
  obtain ⟨hx, hby, hml, hown, hnm, hrt, hlk, hZ, hw, hn0, hl', hR', hn', hQ'⟩ := O
  dsimp only at hx hby hml hown hnm hrt hlk hZ hn0 hl' hR' hn' hQ'
  subst hl' hR' hn' hQ'
  intro T locs X eT N
  obtain ⟨fs, hr, hrun, hended, hW, hsame⟩ := X.leave (v := some x) (fun q => by rw [hrt] at q; cases q) hlk
  refine ⟨_, _, retOut X hx hrt hna (Or.inr (Or.inr (Or.inr (Or.inr ⟨rfl, ht, hx'⟩)))) (hb hby hd) hr, hrun, hended, _, _, rfl, ⟨?_, N⟩, ⟨_, rfl⟩, hW, hsame.mono hc hs⟩
  show Q' _ T.heap
  rw [eT]; exact hq
theorem w_retv (O : Ok K l Z a0 ts B ml none own nm R n0 Q) (hd : decode B pc = .ok (.return_, 1)) (hc : cl ≤ R.cells) (hs : sl ≤ R.slots) (hq : Q none h) : W K h cl sl pc L [] := by
  obtain ⟨⟨p, l', e', R'⟩, ⟨s, m, args, below⟩, ⟨meth, c⟩, Q', n0'⟩ := K
  obtain ⟨hx, hby, hml, hown, hnm, hrt, hlk, hZ, hw, hn0, hl', hR', hn', hQ'⟩ := O
  dsimp only at hx hby hml hown hnm hrt hlk hZ hn0 hl' hR' hn' hQ'
  subst hl' hR' hn' hQ'
  intro T locs X eT N
  obtain ⟨fs, hr, hrun, hended, hW, hsame⟩ := X.leave (v := none) (fun _ => rfl) hlk
  refine ⟨_, _, X.returnOut hx hrt (hb hby hd) hr, hrun, hended, _, _, rfl, ⟨?_, N⟩, ⟨_, rfl⟩, hW, hsame.mono hc hs⟩
  show Q' _ T.heap
  rw [eT]; exact hq
theorem nz32 {y : Int32} (q : ¬ y.toInt = 0) : y ≠ 0 := by rintro rfl; exact q (by decide)
theorem nz64 {y : Int64} (q : ¬ y.toInt = 0) : y ≠ 0 := by rintro rfl; exact q (by decide)
theorem of_nat32 {q : Int32} {n : Nat} (hn : q.toInt = (n : Int)) : q = Int32.ofNat n := by
  have h1 := rng32 q
  apply Int32.toInt_inj.mp
  rw [hn, Int32.toInt_ofNat_of_lt (by omega)]
theorem c_lremP (x y : Int64) (d : Int) (hy : y.toInt = d) : (0 ≤ x.toInt → (x % y).toInt = x.toInt % d) ∧ (x.toInt < 0 → (x % y).toInt = -((-x.toInt) % d)) := by rw [← lrem_mod]; exact c_lrem x y d hy
end OwnW

theorem mw {d : Jvm.Cond} (k : Nat) (q : tables_1[k]? = some d) : d ∈ tables_1 := List.mem_of_getElem? q
theorem w_dloadN (O : Ok K l Z a0 ts B ml rt own nm R n0 Q) {i : Fin 4} {v : UInt64} (hd : decode B pc = .ok (.dload_n i, 1)) (hp : pc + 1 = pc') (hl : L[i.val]? = some (.val (.double v))) (k : W K h cl sl pc' L (.double v :: st)) : W K h cl sl pc L (st) := by
  subst hp; exact W.step (fun T locs X e t q => XS.dloadN X.here O.1 rfl (hb O.2.1 hd) hl q) k
theorem w_dload (O : Ok K l Z a0 ts B ml rt own nm R n0 Q) {i : Nat} {v : UInt64} (hd : decode B pc = .ok (.dload i, 2)) (hp : pc + 2 = pc') (hl : L[i]? = some (.val (.double v))) (k : W K h cl sl pc' L (.double v :: st)) : W K h cl sl pc L (st) := by
  subst hp; exact W.step (fun T locs X e t q => XS.dload X.here O.1 rfl (hb O.2.1 hd) hl q) k
theorem w_dstore (O : Ok K l Z a0 ts B ml rt own nm R n0 Q) {i : Nat} {v : UInt64} (hd : decode B pc = .ok (.dstore i, 2)) (hp : pc + 2 = pc') (hl : storeLocals L i (.double v) = some L') (k : W K h cl sl pc' L' st) : W K h cl sl pc L (.double v :: st) := by
  subst hp; exact W.step (fun T locs X e t q => XS.dstore X.here O.1 rfl (hb O.2.1 hd) rfl hl q) k
theorem w_dstoreG (O : Ok K l Z a0 ts B ml rt own nm R n0 Q) {i : Nat} {v : UInt64} {L' : UInt64 → Array Slot} (hd : decode B pc = .ok (.dstore i, 2)) (hp : pc + 2 = pc') (hl : ∀ z, storeLocals L i (.double z) = some (L' z)) (k : ∀ z, z = v → W K h cl sl pc' (L' z) st) : W K h cl sl pc L (.double v :: st) := w_dstore O hd hp (hl v) (k v rfl)
theorem w_i2d (O : Ok K l Z a0 ts B ml rt own nm R n0 Q) {x : Int32} (hd : decode B pc = .ok (.i2d, 1)) (hp : pc + 1 = pc') (k : W K h cl sl pc' L (.double (FP.i2d x) :: st)) : W K h cl sl pc L (.int x :: st) := by
  subst hp; exact W.step (fun T locs X e t q => XS.i2dS X.here O.1 rfl (hb O.2.1 hd) rfl rfl q) k
theorem w_dadd (O : Ok K l Z a0 ts B ml rt own nm R n0 Q) {x y : UInt64} (hd : decode B pc = .ok (.dadd, 1)) (hp : pc + 1 = pc') (hn : Jvm.Free.Fl.NoNaN64 (FP.dadd x y)) (k : W K h cl sl pc' L (.double (FP.dadd x y) :: st)) : W K h cl sl pc L (.double y :: .double x :: st) := by
  subst hp; exact W.step (fun T locs X e t q => XS.daddS X.here O.1 rfl (hb O.2.1 hd) rfl hn rfl q) k
theorem w_ddiv (O : Ok K l Z a0 ts B ml rt own nm R n0 Q) {x y : UInt64} (hd : decode B pc = .ok (.ddiv, 1)) (hp : pc + 1 = pc') (hn : Jvm.Free.Fl.NoNaN64 (FP.ddiv x y)) (k : W K h cl sl pc' L (.double (FP.ddiv x y) :: st)) : W K h cl sl pc L (.double y :: .double x :: st) := by
  subst hp; exact W.step (fun T locs X e t q => XS.ddivS X.here O.1 rfl (hb O.2.1 hd) rfl hn rfl q) k
theorem w_ldc2D (O : Ok K l Z a0 ts B ml rt own nm R n0 Q) {i : Nat} {v : UInt64} (hd : decode B pc = .ok (.ldc2_w i, 3)) (hp : pc + 3 = pc') (w : Jvm.Cond.constantDouble own i v ∈ ts) (k : W K h cl sl pc' L (.double v :: st)) : W K h cl sl pc L (st) := by
  subst hp; exact W.step (fun T locs X e t q => X.ldc2DoubleC O.1 O.2.2.2.1 (mvT O.2.2.2.2.2.2.2.1 (O.2.2.2.2.2.2.2.2.1 _ w)) (g := mkF K.2.1.2.1 pc L st) rfl (hb O.2.1 hd) _ q) k
open Jvm.FP.Core (b64 val64 zval DInt one64) in
/-- a double's value, in units of the least one -/
def zv (x : UInt64) : Int := Jvm.FP.Core.zval Jvm.FP.Core.b64 (Jvm.FP.Core.val64 x)
def Nn (x : UInt64) : Prop := Jvm.FP.Core.val64 x ≠ .nan
def Cmp3 (a b r : Int) : Prop := (a < b ∧ r = -1) ∨ (a = b ∧ r = 0) ∨ (b < a ∧ r = 1)
theorem cmp3 {x y : UInt64} (hx : Nn x) (hy : Nn y) (o : CmpOp) : Cmp3 (zv x) (zv y) (cmpValue (FP.dcmp x y) o).toInt := by
  have e : FP.dcmp x y = some (compare (zv x) (zv y)) := Jvm.FP.Core.order_zval Jvm.FP.Core.good_b64 (Jvm.FP.Core.val64_fits x) (Jvm.FP.Core.val64_fits y) hx hy
  rw [e]
  cases hc : compare (zv x) (zv y) with
  | lt => exact Or.inl ⟨Int.compare_eq_lt.mp hc, by cases o <;> decide⟩
  | eq => exact Or.inr (Or.inl ⟨Int.compare_eq_eq.mp hc, by cases o <;> decide⟩)
  | gt => exact Or.inr (Or.inr ⟨Int.compare_eq_gt.mp hc, by cases o <;> decide⟩)
theorem nn_int {i : Int} {a : UInt64} (h : Jvm.FP.Core.DInt i a) : Nn a := Jvm.FP.Core.Whole.ne_nan h
theorem own_half {i : Int} {a : UInt64} (h : Jvm.FP.Core.DInt i a) : Nn (FP.ddiv a 4611686018427387904) ∧ 2 * zv (FP.ddiv a 4611686018427387904) = zv a := by
  have e2 : Jvm.FP.Core.val64 4611686018427387904 = .fin false 4503599627370496 (-51) := by decide +kernel
  have hf := Jvm.FP.Core.val64_fits a
  unfold Nn zv
  rw [Jvm.FP.Core.val64_ddiv, e2]
  unfold Jvm.FP.Core.DInt at h
  cases ha : Jvm.FP.Core.val64 a with
  | nan => rw [ha] at h; exact h.elim
  | inf s => rw [ha] at h; exact h.elim
  | fin s c q =>
    rw [ha] at h hf
    obtain ⟨f1, f2, f3, f4⟩ := hf
    have ep : Jvm.FP.Core.b64.p = 53 := by decide +kernel
    have eq : Jvm.FP.Core.b64.qmin = -1074 := by decide +kernel
    have eQ : Jvm.FP.Core.quotient Jvm.FP.Core.b64 (.fin s c q) (.fin false 4503599627370496 (-51)) = Jvm.FP.Core.roundRatio Jvm.FP.Core.b64 s c 4503599627370496 (q - (-51)) := by
      show (if (4503599627370496 : Nat) = 0 then (if c = 0 then Jvm.FP.Core.Datum.nan else .inf (s != false)) else Jvm.FP.Core.roundRatio Jvm.FP.Core.b64 (s != false) c 4503599627370496 (q - (-51))) = _
      rw [if_neg (by decide)]
      cases s <;> rfl
    rw [eQ]
    by_cases hc : c = 0
    · subst hc
      have e0 : Jvm.FP.Core.roundRatio Jvm.FP.Core.b64 s 0 4503599627370496 (q - (-51)) = .fin s 0 Jvm.FP.Core.b64.qmin := if_pos rfl
      rw [e0]
      refine ⟨fun q => Jvm.FP.Core.Datum.noConfusion q, ?_⟩
      show 2 * Jvm.FP.Core.signed s (0 * 2 ^ _) = Jvm.FP.Core.signed s (0 * 2 ^ _)
      simp [Jvm.FP.Core.signed]
    · have hq : Jvm.FP.Core.b64.qmin < q := by
        rcases Int.lt_or_eq_of_le f2 with z | z
        · exact z
        · exfalso
          have hi : i ≠ 0 := fun z0 => hc ((Jvm.FP.Core.whole_zero h).mpr z0)
          have h' : Jvm.FP.Core.signed s (c * 2 ^ q.toNat) = i * ((2 ^ (-q).toNat : Nat) : Int) := h
          have e3 := congrArg Int.natAbs h'
          rw [← z, eq] at e3
          rw [Int.natAbs_mul, Int.natAbs_natCast, show (-1074 : Int).toNat = 0 from rfl, show (-(-1074) : Int).toNat = 1074 from rfl, Nat.pow_zero, Nat.mul_one] at e3
          have e4 : (Jvm.FP.Core.signed s c).natAbs = c := by unfold Jvm.FP.Core.signed; cases s <;> simp
          rw [e4] at e3
          rw [ep] at f1
          have e5 : 1 ≤ i.natAbs := by omega
          have e6 : 2 ^ 1074 ≤ c := by rw [e3]; exact Nat.le_mul_of_pos_left _ e5
          have e7 : (2 : Nat) ^ 53 ≤ 2 ^ 1074 := Nat.pow_le_pow_right (by decide) (by decide)
          exact absurd (Nat.lt_of_lt_of_le f1 e7) (Nat.not_lt.mpr e6)
      have ht : Jvm.FP.Core.b64.tails ≤ c := f4.resolve_left (by omega)
      have e1 : Jvm.FP.Core.roundRatio Jvm.FP.Core.b64 s c 4503599627370496 (q - (-51)) = .fin s c (q - 1) := by
        refine Jvm.FP.Core.roundRatio_exact Jvm.FP.Core.good_b64 (by decide) ⟨f1, by omega, by omega, Or.inr ht⟩ ?_
        rw [show (q - (-51) - (q - 1)).toNat = 52 by omega, show (q - 1 - (q - (-51))).toNat = 0 by omega, Nat.pow_zero, Nat.mul_one, show (2 : Nat) ^ 52 = 4503599627370496 by decide +kernel]
      rw [e1]
      refine ⟨fun q => Jvm.FP.Core.Datum.noConfusion q, ?_⟩
      show 2 * Jvm.FP.Core.signed s (c * 2 ^ (q - 1 - Jvm.FP.Core.b64.qmin).toNat) = Jvm.FP.Core.signed s (c * 2 ^ (q - Jvm.FP.Core.b64.qmin).toNat)
      rw [show (q - Jvm.FP.Core.b64.qmin).toNat = (q - 1 - Jvm.FP.Core.b64.qmin).toNat + 1 by omega, Nat.pow_succ, ← Nat.mul_assoc]
      generalize c * 2 ^ (q - 1 - Jvm.FP.Core.b64.qmin).toNat = M
      unfold Jvm.FP.Core.signed
      cases s <;> simp <;> omega
theorem own_sum (a b : Int32) : FP.dadd (FP.i2d a) (FP.i2d b) = FP.l2d (a.toInt64 + b.toInt64) ∧ (a.toInt64 + b.toInt64).toInt = a.toInt + b.toInt := by
  have r1 := rng32 a
  have r2 := rng32 b
  have e1 : a.toInt64.toInt = a.toInt := Int32.toInt_toInt64 a
  have e2 : b.toInt64.toInt = b.toInt := Int32.toInt_toInt64 b
  have B1 : B53 a.toInt64 := by unfold B53; omega
  have B2 : B53 b.toInt64 := by unfold B53; omega
  exact ⟨by rw [i2d_w, i2d_w, dadd_w B1 B2], by rw [add64 B1 B2, e1, e2]⟩
theorem own_mid (a b : Int32) : Jvm.Free.Fl.NoNaN64 (FP.dadd (FP.i2d a) (FP.i2d b)) ∧ Jvm.Free.Fl.NoNaN64 (FP.ddiv (FP.dadd (FP.i2d a) (FP.i2d b)) 4611686018427387904) ∧ Nn (FP.ddiv (FP.dadd (FP.i2d a) (FP.i2d b)) 4611686018427387904) ∧ 2 * zv (FP.ddiv (FP.dadd (FP.i2d a) (FP.i2d b)) 4611686018427387904) = zv (FP.i2d a) + zv (FP.i2d b) := by
  obtain ⟨e, e'⟩ := own_sum a b
  have r1 := rng32 a
  have r2 := rng32 b
  have d : Jvm.FP.Core.DInt (a.toInt + b.toInt) (FP.dadd (FP.i2d a) (FP.i2d b)) := by
    rw [e, ← e']
    refine Jvm.FP.Core.l2d_int ?_
    rw [e']
    have : (2 : Nat) ^ 53 = 9007199254740992 := by decide +kernel
    omega
  obtain ⟨h1, h2⟩ := own_half d
  have n1 : Jvm.Free.Fl.NoNaN64 (FP.dadd (FP.i2d a) (FP.i2d b)) := nn_w e
  have z0 : zv (FP.dadd (FP.i2d a) (FP.i2d b)) = zv (FP.i2d a) + zv (FP.i2d b) := by
    unfold zv
    rw [Jvm.FP.Core.DInt_zval d, Jvm.FP.Core.DInt_zval (Jvm.FP.Core.i2d_int a), Jvm.FP.Core.DInt_zval (Jvm.FP.Core.i2d_int b), Int.add_mul]
  refine ⟨n1, Jvm.Free.Fl.ddiv_out n1 (by unfold Jvm.Free.Fl.Fin64; decide) (by unfold Jvm.Free.Fl.Nz64; decide), h1, h2.trans z0⟩
theorem w_dcmp (O : Ok K l Z a0 ts B ml rt own nm R n0 Q) {o : CmpOp} {x y : UInt64} (hd : decode B pc = .ok (.dcmp o, 1)) (hp : pc + 1 = pc') (hx : Nn x) (hy : Nn y) (k : ∀ r : Int32, Cmp3 (zv x) (zv y) r.toInt → W K h cl sl pc' L (.int r :: st)) : W K h cl sl pc L (.double y :: .double x :: st) := by
  subst hp; exact W.step (fun T locs X e t q => XS.dcmpS X.here O.1 rfl (hb O.2.1 hd) rfl rfl q) (k _ (cmp3 hx hy o))
theorem d2_0 : decode jdk_30_method_1_code 0 = .ok (.aload_n 0, 1) := by decide +kernel
theorem d2_1 : decode jdk_30_method_1_code 1 = .ok (.invokespecial 1, 3) := by decide +kernel
theorem d2_4 : decode jdk_30_method_1_code 4 = .ok (.return_, 1) := by decide +kernel
theorem pn_2 : plainFor (⟨"java/lang/Record", "<init>", "()V"⟩ : MethodName) = true := plainFor_of_name (by first | (simp [plainName, overriddenIn]; done) | decide +kernel)
set_option maxRecDepth 65536 in
set_option maxHeartbeats 40000000 in
theorem con_rec (l : Launch) (Z : State) (a0 : Array Value) (hw : ∀ d ∈ tables_1, d.before a0 Z = true) (a : Addr) (h0 : Heap) (n0 : Nat)  :
    Con l Z (⟨"java/lang/Record", "<init>", "()V"⟩ : MethodName) jdk_30_method_1_code 1 none ⟨1, 0, 0, 13⟩ [(.ref a)] h0 n0 (RetV fun h => h = h0) := by
  refine Con.body (L0 := #[.val (.ref a)]) hw pn_2 (fun m => by first | (simp [entryFrame, mkF, argsToLocals, Value.category]; done) | rfl) (fun K O => ?_)
  refine w_aloadN O d2_0 (pc' := 1) rfl rfl rfl ?_
  refine w_objinit O d2_1 (wt := 0) (pc' := 4) rfl (mw 11 rfl) (mw 12 rfl) (mw 13 rfl) rfl rfl (by decide) (by decide) ?_
  refine w_retv O d2_4 (by decide) (by decide) ?_
  exact ⟨rfl, rfl⟩
def Sp (Z : State) (h : Heap) (a : Addr) (x y : UInt64) (f1 f2 : Int32) : Prop := Exa Z h a "com/example/lean_crowd/leancrowd/geometry/Span" ∧ Fld Z h a "com/example/lean_crowd/leancrowd/geometry/Span" "low" "D" (.double x) ∧ Fld Z h a "com/example/lean_crowd/leancrowd/geometry/Span" "holdsLow" "Z" (.int f1) ∧ Fld Z h a "com/example/lean_crowd/leancrowd/geometry/Span" "high" "D" (.double y) ∧ Fld Z h a "com/example/lean_crowd/leancrowd/geometry/Span" "holdsHigh" "Z" (.int f2)
theorem d1_0 : decode prog_37_method_1_code 0 = .ok (.aload_n 0, 1) := by decide +kernel
theorem d1_1 : decode prog_37_method_1_code 1 = .ok (.invokespecial 1, 3) := by decide +kernel
theorem d1_4 : decode prog_37_method_1_code 4 = .ok (.aload_n 0, 1) := by decide +kernel
theorem d1_5 : decode prog_37_method_1_code 5 = .ok (.dload_n 1, 1) := by decide +kernel
theorem d1_6 : decode prog_37_method_1_code 6 = .ok (.putfield 7, 3) := by decide +kernel
theorem d1_9 : decode prog_37_method_1_code 9 = .ok (.aload_n 0, 1) := by decide +kernel
theorem d1_10 : decode prog_37_method_1_code 10 = .ok (.iload_n 3, 1) := by decide +kernel
theorem d1_11 : decode prog_37_method_1_code 11 = .ok (.putfield 13, 3) := by decide +kernel
theorem d1_14 : decode prog_37_method_1_code 14 = .ok (.aload_n 0, 1) := by decide +kernel
theorem d1_15 : decode prog_37_method_1_code 15 = .ok (.dload 4, 2) := by decide +kernel
theorem d1_17 : decode prog_37_method_1_code 17 = .ok (.putfield 17, 3) := by decide +kernel
theorem d1_20 : decode prog_37_method_1_code 20 = .ok (.aload_n 0, 1) := by decide +kernel
theorem d1_21 : decode prog_37_method_1_code 21 = .ok (.iload 6, 2) := by decide +kernel
theorem d1_23 : decode prog_37_method_1_code 23 = .ok (.putfield 20, 3) := by decide +kernel
theorem d1_26 : decode prog_37_method_1_code 26 = .ok (.return_, 1) := by decide +kernel
theorem pn_1 : plainFor (⟨"com/example/lean_crowd/leancrowd/geometry/Span", "<init>", "(DZDZ)V"⟩ : MethodName) = true := plainFor_of_name (by first | (simp [plainName, overriddenIn]; done) | decide +kernel)
theorem pd_0 : parseMethodDescriptor "()V" = some ⟨[], none⟩ := by decide +kernel
set_option maxRecDepth 65536 in
set_option maxHeartbeats 40000000 in
theorem con_span (l : Launch) (Z : State) (a0 : Array Value) (hw : ∀ d ∈ tables_1, d.before a0 Z = true) (a : Addr) (x : UInt64) (f1 : Int32) (y : UInt64) (f2 : Int32) (h0 : Heap) (n0 : Nat) (hE : Exa Z h0 a "com/example/lean_crowd/leancrowd/geometry/Span") (h_low : Fld Z h0 a "com/example/lean_crowd/leancrowd/geometry/Span" "low" "D" (.double 0)) (h_holdsLow : Fld Z h0 a "com/example/lean_crowd/leancrowd/geometry/Span" "holdsLow" "Z" (.int (0 : Int32))) (h_high : Fld Z h0 a "com/example/lean_crowd/leancrowd/geometry/Span" "high" "D" (.double 0)) (h_holdsHigh : Fld Z h0 a "com/example/lean_crowd/leancrowd/geometry/Span" "holdsHigh" "Z" (.int (0 : Int32))) (ga : n0 ≤ a) (hf1 : f1 = 0 ∨ f1 = 1) (hf2 : f2 = 0 ∨ f2 = 1) :
    Con l Z (⟨"com/example/lean_crowd/leancrowd/geometry/Span", "<init>", "(DZDZ)V"⟩ : MethodName) prog_37_method_1_code 7 none ⟨2, 0, 0, 26⟩ [(.ref a), (.double x), (.int f1), (.double y), (.int f2)] h0 n0 (RetV fun h => Sp Z h a x y f1 f2) := by
  refine Con.body (L0 := #[.val (.ref a), .val (.double x), .second, .val (.int f1), .val (.double y), .second, .val (.int f2)]) hw pn_1 (fun m => by first | (simp [entryFrame, mkF, argsToLocals, Value.category]; done) | rfl) (fun K O => ?_)
  refine w_aloadN O d1_0 (pc' := 1) rfl rfl rfl ?_
  refine w_init O d1_1 (as := []) (st := []) (wt := 0) (cl' := 0) (sl' := 0) (pc' := 4) rfl rfl (mw 6 rfl) (mw 7 rfl) (mw 9 rfl) (mw 10 rfl) (by decide) (con_rec l Z a0 hw a h0 n0) rfl pd_0 rfl rfl rfl (by decide) (by decide) rfl rfl (by decide) (by decide) (cV fun _ qr => ?_)
  rw [qr]
  refine w_aloadN O d1_4 (pc' := 5) rfl rfl rfl ?_
  refine w_dloadN O d1_5 (pc' := 6) rfl rfl ?_
  refine w_putf O d1_6 (pc' := 9) rfl (mw 14 rfl) (mw 1 rfl) (Or.inr ⟨(mw 15 rfl), rfl, rfl⟩) h_low hE ga (ty := .double) (by decide) rfl rfl (fun h1 Wh1 => ?_)
  have hE_h1 := hE.wr Wh1
  have h_low_h1 := Fld.same Wh1 h_low
  have h_holdsLow_h1 := Fld.other Wh1 h_holdsLow (Or.inr (Jvm.RoadKit.slot_ne (Or.inr (O.2.2.2.2.2.2.2.2.1 _ (mw 17 rfl))) (Or.inr (O.2.2.2.2.2.2.2.2.1 _ (mw 15 rfl))) (by decide) (t := .boolean) (t' := .double) (by decide) (by decide)))
  have h_high_h1 := Fld.other Wh1 h_high (Or.inr (Jvm.RoadKit.slot_ne (Or.inr (O.2.2.2.2.2.2.2.2.1 _ (mw 19 rfl))) (Or.inr (O.2.2.2.2.2.2.2.2.1 _ (mw 15 rfl))) (by decide) (t := .double) (t' := .double) (by decide) (by decide)))
  have h_holdsHigh_h1 := Fld.other Wh1 h_holdsHigh (Or.inr (Jvm.RoadKit.slot_ne (Or.inr (O.2.2.2.2.2.2.2.2.1 _ (mw 21 rfl))) (Or.inr (O.2.2.2.2.2.2.2.2.1 _ (mw 15 rfl))) (by decide) (t := .boolean) (t' := .double) (by decide) (by decide)))
  refine w_aloadN O d1_9 (pc' := 10) rfl rfl rfl ?_
  refine w_iloadN O d1_10 (pc' := 11) rfl rfl ?_
  refine w_putf O d1_11 (pc' := 14) rfl (mw 16 rfl) (mw 1 rfl) (Or.inr ⟨(mw 17 rfl), rfl, rfl⟩) h_holdsLow_h1 hE_h1 ga (ty := .boolean) (by decide) (by rcases hf1 with rfl | rfl <;> rfl) (by rcases hf1 with rfl | rfl <;> rfl) (fun h2 Wh2 => ?_)
  have hE_h2 := hE_h1.wr Wh2
  have h_low_h2 := Fld.other Wh2 h_low_h1 (Or.inr (Jvm.RoadKit.slot_ne (Or.inr (O.2.2.2.2.2.2.2.2.1 _ (mw 15 rfl))) (Or.inr (O.2.2.2.2.2.2.2.2.1 _ (mw 17 rfl))) (by decide) (t := .double) (t' := .boolean) (by decide) (by decide)))
  have h_holdsLow_h2 := Fld.same Wh2 h_holdsLow_h1
  have h_high_h2 := Fld.other Wh2 h_high_h1 (Or.inr (Jvm.RoadKit.slot_ne (Or.inr (O.2.2.2.2.2.2.2.2.1 _ (mw 19 rfl))) (Or.inr (O.2.2.2.2.2.2.2.2.1 _ (mw 17 rfl))) (by decide) (t := .double) (t' := .boolean) (by decide) (by decide)))
  have h_holdsHigh_h2 := Fld.other Wh2 h_holdsHigh_h1 (Or.inr (Jvm.RoadKit.slot_ne (Or.inr (O.2.2.2.2.2.2.2.2.1 _ (mw 21 rfl))) (Or.inr (O.2.2.2.2.2.2.2.2.1 _ (mw 17 rfl))) (by decide) (t := .boolean) (t' := .boolean) (by decide) (by decide)))
  refine w_aloadN O d1_14 (pc' := 15) rfl rfl rfl ?_
  refine w_dload O d1_15 (pc' := 17) rfl rfl ?_
  refine w_putf O d1_17 (pc' := 20) rfl (mw 18 rfl) (mw 1 rfl) (Or.inr ⟨(mw 19 rfl), rfl, rfl⟩) h_high_h2 hE_h2 ga (ty := .double) (by decide) rfl rfl (fun h3 Wh3 => ?_)
  have hE_h3 := hE_h2.wr Wh3
  have h_low_h3 := Fld.other Wh3 h_low_h2 (Or.inr (Jvm.RoadKit.slot_ne (Or.inr (O.2.2.2.2.2.2.2.2.1 _ (mw 15 rfl))) (Or.inr (O.2.2.2.2.2.2.2.2.1 _ (mw 19 rfl))) (by decide) (t := .double) (t' := .double) (by decide) (by decide)))
  have h_holdsLow_h3 := Fld.other Wh3 h_holdsLow_h2 (Or.inr (Jvm.RoadKit.slot_ne (Or.inr (O.2.2.2.2.2.2.2.2.1 _ (mw 17 rfl))) (Or.inr (O.2.2.2.2.2.2.2.2.1 _ (mw 19 rfl))) (by decide) (t := .boolean) (t' := .double) (by decide) (by decide)))
  have h_high_h3 := Fld.same Wh3 h_high_h2
  have h_holdsHigh_h3 := Fld.other Wh3 h_holdsHigh_h2 (Or.inr (Jvm.RoadKit.slot_ne (Or.inr (O.2.2.2.2.2.2.2.2.1 _ (mw 21 rfl))) (Or.inr (O.2.2.2.2.2.2.2.2.1 _ (mw 19 rfl))) (by decide) (t := .boolean) (t' := .double) (by decide) (by decide)))
  refine w_aloadN O d1_20 (pc' := 21) rfl rfl rfl ?_
  refine w_iload O d1_21 (pc' := 23) rfl rfl ?_
  refine w_putf O d1_23 (pc' := 26) rfl (mw 20 rfl) (mw 1 rfl) (Or.inr ⟨(mw 21 rfl), rfl, rfl⟩) h_holdsHigh_h3 hE_h3 ga (ty := .boolean) (by decide) (by rcases hf2 with rfl | rfl <;> rfl) (by rcases hf2 with rfl | rfl <;> rfl) (fun h4 Wh4 => ?_)
  have hE_h4 := hE_h3.wr Wh4
  have h_low_h4 := Fld.other Wh4 h_low_h3 (Or.inr (Jvm.RoadKit.slot_ne (Or.inr (O.2.2.2.2.2.2.2.2.1 _ (mw 15 rfl))) (Or.inr (O.2.2.2.2.2.2.2.2.1 _ (mw 21 rfl))) (by decide) (t := .double) (t' := .boolean) (by decide) (by decide)))
  have h_holdsLow_h4 := Fld.other Wh4 h_holdsLow_h3 (Or.inr (Jvm.RoadKit.slot_ne (Or.inr (O.2.2.2.2.2.2.2.2.1 _ (mw 17 rfl))) (Or.inr (O.2.2.2.2.2.2.2.2.1 _ (mw 21 rfl))) (by decide) (t := .boolean) (t' := .boolean) (by decide) (by decide)))
  have h_high_h4 := Fld.other Wh4 h_high_h3 (Or.inr (Jvm.RoadKit.slot_ne (Or.inr (O.2.2.2.2.2.2.2.2.1 _ (mw 19 rfl))) (Or.inr (O.2.2.2.2.2.2.2.2.1 _ (mw 21 rfl))) (by decide) (t := .double) (t' := .boolean) (by decide) (by decide)))
  have h_holdsHigh_h4 := Fld.same Wh4 h_holdsHigh_h3
  refine w_retv O d1_26 (by decide) (by decide) ?_
  exact ⟨rfl, hE_h4, h_low_h4, h_holdsLow_h4, h_high_h4, h_holdsHigh_h4⟩
theorem d4_0 : decode method_2_code 0 = .ok (.iload_n 2, 1) := by decide +kernel
theorem d4_1 : decode method_2_code 1 = .ok (.ifCond .eq 18, 3) := by decide +kernel
theorem d4_4 : decode method_2_code 4 = .ok (.dload_n 0, 1) := by decide +kernel
theorem d4_5 : decode method_2_code 5 = .ok (.dload 6, 2) := by decide +kernel
theorem d4_7 : decode method_2_code 7 = .ok (.dcmp .g, 1) := by decide +kernel
theorem d4_8 : decode method_2_code 8 = .ok (.ifCond .gt 7, 3) := by decide +kernel
theorem d4_11 : decode method_2_code 11 = .ok (.iconst 1, 1) := by decide +kernel
theorem d4_12 : decode method_2_code 12 = .ok (.goto 19, 3) := by decide +kernel
theorem d4_15 : decode method_2_code 15 = .ok (.iconst 0, 1) := by decide +kernel
theorem d4_16 : decode method_2_code 16 = .ok (.goto 15, 3) := by decide +kernel
theorem d4_19 : decode method_2_code 19 = .ok (.dload_n 0, 1) := by decide +kernel
theorem d4_20 : decode method_2_code 20 = .ok (.dload 6, 2) := by decide +kernel
theorem d4_22 : decode method_2_code 22 = .ok (.dcmp .g, 1) := by decide +kernel
theorem d4_23 : decode method_2_code 23 = .ok (.ifCond .ge 7, 3) := by decide +kernel
theorem d4_26 : decode method_2_code 26 = .ok (.iconst 1, 1) := by decide +kernel
theorem d4_27 : decode method_2_code 27 = .ok (.goto 4, 3) := by decide +kernel
theorem d4_30 : decode method_2_code 30 = .ok (.iconst 0, 1) := by decide +kernel
theorem d4_31 : decode method_2_code 31 = .ok (.istore 8, 2) := by decide +kernel
theorem d4_33 : decode method_2_code 33 = .ok (.iload 5, 2) := by decide +kernel
theorem d4_35 : decode method_2_code 35 = .ok (.ifCond .eq 18, 3) := by decide +kernel
theorem d4_38 : decode method_2_code 38 = .ok (.dload 6, 2) := by decide +kernel
theorem d4_40 : decode method_2_code 40 = .ok (.dload_n 3, 1) := by decide +kernel
theorem d4_41 : decode method_2_code 41 = .ok (.dcmp .g, 1) := by decide +kernel
theorem d4_42 : decode method_2_code 42 = .ok (.ifCond .gt 7, 3) := by decide +kernel
theorem d4_45 : decode method_2_code 45 = .ok (.iconst 1, 1) := by decide +kernel
theorem d4_46 : decode method_2_code 46 = .ok (.goto 19, 3) := by decide +kernel
theorem d4_49 : decode method_2_code 49 = .ok (.iconst 0, 1) := by decide +kernel
theorem d4_50 : decode method_2_code 50 = .ok (.goto 15, 3) := by decide +kernel
theorem d4_53 : decode method_2_code 53 = .ok (.dload 6, 2) := by decide +kernel
theorem d4_55 : decode method_2_code 55 = .ok (.dload_n 3, 1) := by decide +kernel
theorem d4_56 : decode method_2_code 56 = .ok (.dcmp .g, 1) := by decide +kernel
theorem d4_57 : decode method_2_code 57 = .ok (.ifCond .ge 7, 3) := by decide +kernel
theorem d4_60 : decode method_2_code 60 = .ok (.iconst 1, 1) := by decide +kernel
theorem d4_61 : decode method_2_code 61 = .ok (.goto 4, 3) := by decide +kernel
theorem d4_64 : decode method_2_code 64 = .ok (.iconst 0, 1) := by decide +kernel
theorem d4_65 : decode method_2_code 65 = .ok (.istore 9, 2) := by decide +kernel
theorem d4_67 : decode method_2_code 67 = .ok (.iload 8, 2) := by decide +kernel
theorem d4_69 : decode method_2_code 69 = .ok (.ifCond .eq 12, 3) := by decide +kernel
theorem d4_72 : decode method_2_code 72 = .ok (.iload 9, 2) := by decide +kernel
theorem d4_74 : decode method_2_code 74 = .ok (.ifCond .eq 7, 3) := by decide +kernel
theorem d4_77 : decode method_2_code 77 = .ok (.iconst 1, 1) := by decide +kernel
theorem d4_78 : decode method_2_code 78 = .ok (.goto 4, 3) := by decide +kernel
theorem d4_81 : decode method_2_code 81 = .ok (.iconst 0, 1) := by decide +kernel
theorem d4_82 : decode method_2_code 82 = .ok (.ireturn, 1) := by decide +kernel
theorem pn_4 : plainFor (⟨"com/example/lean_crowd/leancrowd/geometry/SpanIsEmptyPinLaw", "holds", "(DZDZD)Z"⟩ : MethodName) = true := plainFor_of_name (by first | (simp [plainName, overriddenIn]; done) | decide +kernel)
set_option maxRecDepth 65536 in
set_option maxHeartbeats 40000000 in
theorem con_holds (l : Launch) (Z : State) (a0 : Array Value) (hw : ∀ d ∈ tables_1, d.before a0 Z = true) (lo : UInt64) (f1 : Int32) (hi : UInt64) (f2 : Int32) (x : UInt64) (h0 : Heap) (n0 : Nat) (n_lo : Nn lo) (n_hi : Nn hi) (n_x : Nn x) :
    Con l Z (⟨"com/example/lean_crowd/leancrowd/geometry/SpanIsEmptyPinLaw", "holds", "(DZDZD)Z"⟩ : MethodName) method_2_code 10 (some .boolean) ⟨0, 0, 0, 0⟩ [(.double lo), (.int f1), (.double hi), (.int f2), (.double x)] h0 n0 (RetI fun r h => h = h0 ∧ (((((¬ f1.toInt = 0 ∧ zv lo ≤ zv x) ∨ (f1.toInt = 0 ∧ zv lo < zv x)) ∧ ((¬ f2.toInt = 0 ∧ zv x ≤ zv hi) ∨ (f2.toInt = 0 ∧ zv x < zv hi))) ∧ r.toInt = 1) ∨ (¬ (((¬ f1.toInt = 0 ∧ zv lo ≤ zv x) ∨ (f1.toInt = 0 ∧ zv lo < zv x)) ∧ ((¬ f2.toInt = 0 ∧ zv x ≤ zv hi) ∨ (f2.toInt = 0 ∧ zv x < zv hi))) ∧ r.toInt = 0))) := by
  refine Con.body (L0 := #[.val (.double lo), .second, .val (.int f1), .val (.double hi), .second, .val (.int f2), .val (.double x), .second, .unset, .unset]) hw pn_4 (fun m => by first | (simp [entryFrame, mkF, argsToLocals, Value.category]; done) | rfl) (fun K O => ?_)
  refine w_iloadN O d4_0 (pc' := 1) rfl rfl ?_
  refine w_if_eq O d4_1 (pn := 4) (pt := 19) rfl (by decide) rfl (fun c1 => ?_) (fun c1 => ?_)
  · replace c1 : f1.toInt = 0 := c1
    refine w_dloadN O d4_19 (pc' := 20) rfl rfl ?_
    refine w_dload O d4_20 (pc' := 22) rfl rfl ?_
    refine w_dcmp O d4_22 (pc' := 23) rfl n_lo n_x (fun x22 hx22 => ?_)
    refine w_if_ge O d4_23 (pn := 26) (pt := 30) rfl (by decide) rfl (fun c23 => ?_) (fun c23 => ?_)
    · replace c23 : ¬ x22.toInt < 0 := c23
      refine w_iconst O d4_30 (z := (0 : Int32)) (pc' := 31) rfl rfl ?_
      refine w_istore O d4_31 (L' := #[.val (.double lo), .second, .val (.int f1), .val (.double hi), .second, .val (.int f2), .val (.double x), .second, .val (.int (0 : Int32)), .unset]) (pc' := 33) rfl rfl ?_
      refine w_iload O d4_33 (pc' := 35) rfl rfl ?_
      refine w_if_eq O d4_35 (pn := 38) (pt := 53) rfl (by decide) rfl (fun c35 => ?_) (fun c35 => ?_)
      · replace c35 : f2.toInt = 0 := c35
        refine w_dload O d4_53 (pc' := 55) rfl rfl ?_
        refine w_dloadN O d4_55 (pc' := 56) rfl rfl ?_
        refine w_dcmp O d4_56 (pc' := 57) rfl n_x n_hi (fun x56 hx56 => ?_)
        refine w_if_ge O d4_57 (pn := 60) (pt := 64) rfl (by decide) rfl (fun c57 => ?_) (fun c57 => ?_)
        · replace c57 : ¬ x56.toInt < 0 := c57
          refine w_iconst O d4_64 (z := (0 : Int32)) (pc' := 65) rfl rfl ?_
          refine w_istore O d4_65 (L' := #[.val (.double lo), .second, .val (.int f1), .val (.double hi), .second, .val (.int f2), .val (.double x), .second, .val (.int (0 : Int32)), .val (.int (0 : Int32))]) (pc' := 67) rfl rfl ?_
          refine w_iload O d4_67 (pc' := 69) rfl rfl ?_
          refine w_if_eq O d4_69 (pn := 72) (pt := 81) rfl (by decide) rfl (fun c69 => ?_) (fun q => absurd q (by decide))
          refine w_iconst O d4_81 (z := (0 : Int32)) (pc' := 82) rfl rfl ?_
          refine w_retz O d4_82 (by decide) (by decide) (Or.inl rfl) ?_
          refine ⟨_, rfl, rfl, ?_⟩
          show (((((¬ f1.toInt = 0 ∧ zv lo ≤ zv x) ∨ (f1.toInt = 0 ∧ zv lo < zv x)) ∧ ((¬ f2.toInt = 0 ∧ zv x ≤ zv hi) ∨ (f2.toInt = 0 ∧ zv x < zv hi))) ∧ (0 : Int) = 1) ∨ (¬ (((¬ f1.toInt = 0 ∧ zv lo ≤ zv x) ∨ (f1.toInt = 0 ∧ zv lo < zv x)) ∧ ((¬ f2.toInt = 0 ∧ zv x ≤ zv hi) ∨ (f2.toInt = 0 ∧ zv x < zv hi))) ∧ (0 : Int) = 0))
          clear O
          unfold Cmp3 at *
          omega
        · replace c57 : x56.toInt < 0 := c57
          refine w_iconst O d4_60 (z := (1 : Int32)) (pc' := 61) rfl rfl ?_
          refine w_goto O d4_61 (pc' := 65) (by decide) rfl ?_
          refine w_istore O d4_65 (L' := #[.val (.double lo), .second, .val (.int f1), .val (.double hi), .second, .val (.int f2), .val (.double x), .second, .val (.int (0 : Int32)), .val (.int (1 : Int32))]) (pc' := 67) rfl rfl ?_
          refine w_iload O d4_67 (pc' := 69) rfl rfl ?_
          refine w_if_eq O d4_69 (pn := 72) (pt := 81) rfl (by decide) rfl (fun c69 => ?_) (fun q => absurd q (by decide))
          refine w_iconst O d4_81 (z := (0 : Int32)) (pc' := 82) rfl rfl ?_
          refine w_retz O d4_82 (by decide) (by decide) (Or.inl rfl) ?_
          refine ⟨_, rfl, rfl, ?_⟩
          show (((((¬ f1.toInt = 0 ∧ zv lo ≤ zv x) ∨ (f1.toInt = 0 ∧ zv lo < zv x)) ∧ ((¬ f2.toInt = 0 ∧ zv x ≤ zv hi) ∨ (f2.toInt = 0 ∧ zv x < zv hi))) ∧ (0 : Int) = 1) ∨ (¬ (((¬ f1.toInt = 0 ∧ zv lo ≤ zv x) ∨ (f1.toInt = 0 ∧ zv lo < zv x)) ∧ ((¬ f2.toInt = 0 ∧ zv x ≤ zv hi) ∨ (f2.toInt = 0 ∧ zv x < zv hi))) ∧ (0 : Int) = 0))
          clear O
          unfold Cmp3 at *
          omega
      · replace c35 : ¬ f2.toInt = 0 := c35
        refine w_dload O d4_38 (pc' := 40) rfl rfl ?_
        refine w_dloadN O d4_40 (pc' := 41) rfl rfl ?_
        refine w_dcmp O d4_41 (pc' := 42) rfl n_x n_hi (fun x41 hx41 => ?_)
        refine w_if_gt O d4_42 (pn := 45) (pt := 49) rfl (by decide) rfl (fun c42 => ?_) (fun c42 => ?_)
        · replace c42 : 0 < x41.toInt := c42
          refine w_iconst O d4_49 (z := (0 : Int32)) (pc' := 50) rfl rfl ?_
          refine w_goto O d4_50 (pc' := 65) (by decide) rfl ?_
          refine w_istore O d4_65 (L' := #[.val (.double lo), .second, .val (.int f1), .val (.double hi), .second, .val (.int f2), .val (.double x), .second, .val (.int (0 : Int32)), .val (.int (0 : Int32))]) (pc' := 67) rfl rfl ?_
          refine w_iload O d4_67 (pc' := 69) rfl rfl ?_
          refine w_if_eq O d4_69 (pn := 72) (pt := 81) rfl (by decide) rfl (fun c69 => ?_) (fun q => absurd q (by decide))
          refine w_iconst O d4_81 (z := (0 : Int32)) (pc' := 82) rfl rfl ?_
          refine w_retz O d4_82 (by decide) (by decide) (Or.inl rfl) ?_
          refine ⟨_, rfl, rfl, ?_⟩
          show (((((¬ f1.toInt = 0 ∧ zv lo ≤ zv x) ∨ (f1.toInt = 0 ∧ zv lo < zv x)) ∧ ((¬ f2.toInt = 0 ∧ zv x ≤ zv hi) ∨ (f2.toInt = 0 ∧ zv x < zv hi))) ∧ (0 : Int) = 1) ∨ (¬ (((¬ f1.toInt = 0 ∧ zv lo ≤ zv x) ∨ (f1.toInt = 0 ∧ zv lo < zv x)) ∧ ((¬ f2.toInt = 0 ∧ zv x ≤ zv hi) ∨ (f2.toInt = 0 ∧ zv x < zv hi))) ∧ (0 : Int) = 0))
          clear O
          unfold Cmp3 at *
          omega
        · replace c42 : ¬ 0 < x41.toInt := c42
          refine w_iconst O d4_45 (z := (1 : Int32)) (pc' := 46) rfl rfl ?_
          refine w_goto O d4_46 (pc' := 65) (by decide) rfl ?_
          refine w_istore O d4_65 (L' := #[.val (.double lo), .second, .val (.int f1), .val (.double hi), .second, .val (.int f2), .val (.double x), .second, .val (.int (0 : Int32)), .val (.int (1 : Int32))]) (pc' := 67) rfl rfl ?_
          refine w_iload O d4_67 (pc' := 69) rfl rfl ?_
          refine w_if_eq O d4_69 (pn := 72) (pt := 81) rfl (by decide) rfl (fun c69 => ?_) (fun q => absurd q (by decide))
          refine w_iconst O d4_81 (z := (0 : Int32)) (pc' := 82) rfl rfl ?_
          refine w_retz O d4_82 (by decide) (by decide) (Or.inl rfl) ?_
          refine ⟨_, rfl, rfl, ?_⟩
          show (((((¬ f1.toInt = 0 ∧ zv lo ≤ zv x) ∨ (f1.toInt = 0 ∧ zv lo < zv x)) ∧ ((¬ f2.toInt = 0 ∧ zv x ≤ zv hi) ∨ (f2.toInt = 0 ∧ zv x < zv hi))) ∧ (0 : Int) = 1) ∨ (¬ (((¬ f1.toInt = 0 ∧ zv lo ≤ zv x) ∨ (f1.toInt = 0 ∧ zv lo < zv x)) ∧ ((¬ f2.toInt = 0 ∧ zv x ≤ zv hi) ∨ (f2.toInt = 0 ∧ zv x < zv hi))) ∧ (0 : Int) = 0))
          clear O
          unfold Cmp3 at *
          omega
    · replace c23 : x22.toInt < 0 := c23
      refine w_iconst O d4_26 (z := (1 : Int32)) (pc' := 27) rfl rfl ?_
      refine w_goto O d4_27 (pc' := 31) (by decide) rfl ?_
      refine w_istore O d4_31 (L' := #[.val (.double lo), .second, .val (.int f1), .val (.double hi), .second, .val (.int f2), .val (.double x), .second, .val (.int (1 : Int32)), .unset]) (pc' := 33) rfl rfl ?_
      refine w_iload O d4_33 (pc' := 35) rfl rfl ?_
      refine w_if_eq O d4_35 (pn := 38) (pt := 53) rfl (by decide) rfl (fun c35 => ?_) (fun c35 => ?_)
      · replace c35 : f2.toInt = 0 := c35
        refine w_dload O d4_53 (pc' := 55) rfl rfl ?_
        refine w_dloadN O d4_55 (pc' := 56) rfl rfl ?_
        refine w_dcmp O d4_56 (pc' := 57) rfl n_x n_hi (fun x56 hx56 => ?_)
        refine w_if_ge O d4_57 (pn := 60) (pt := 64) rfl (by decide) rfl (fun c57 => ?_) (fun c57 => ?_)
        · replace c57 : ¬ x56.toInt < 0 := c57
          refine w_iconst O d4_64 (z := (0 : Int32)) (pc' := 65) rfl rfl ?_
          refine w_istore O d4_65 (L' := #[.val (.double lo), .second, .val (.int f1), .val (.double hi), .second, .val (.int f2), .val (.double x), .second, .val (.int (1 : Int32)), .val (.int (0 : Int32))]) (pc' := 67) rfl rfl ?_
          refine w_iload O d4_67 (pc' := 69) rfl rfl ?_
          refine w_if_eq O d4_69 (pn := 72) (pt := 81) rfl (by decide) rfl (fun q => absurd q (by decide)) (fun c69 => ?_)
          refine w_iload O d4_72 (pc' := 74) rfl rfl ?_
          refine w_if_eq O d4_74 (pn := 77) (pt := 81) rfl (by decide) rfl (fun c74 => ?_) (fun q => absurd q (by decide))
          refine w_iconst O d4_81 (z := (0 : Int32)) (pc' := 82) rfl rfl ?_
          refine w_retz O d4_82 (by decide) (by decide) (Or.inl rfl) ?_
          refine ⟨_, rfl, rfl, ?_⟩
          show (((((¬ f1.toInt = 0 ∧ zv lo ≤ zv x) ∨ (f1.toInt = 0 ∧ zv lo < zv x)) ∧ ((¬ f2.toInt = 0 ∧ zv x ≤ zv hi) ∨ (f2.toInt = 0 ∧ zv x < zv hi))) ∧ (0 : Int) = 1) ∨ (¬ (((¬ f1.toInt = 0 ∧ zv lo ≤ zv x) ∨ (f1.toInt = 0 ∧ zv lo < zv x)) ∧ ((¬ f2.toInt = 0 ∧ zv x ≤ zv hi) ∨ (f2.toInt = 0 ∧ zv x < zv hi))) ∧ (0 : Int) = 0))
          clear O
          unfold Cmp3 at *
          omega
        · replace c57 : x56.toInt < 0 := c57
          refine w_iconst O d4_60 (z := (1 : Int32)) (pc' := 61) rfl rfl ?_
          refine w_goto O d4_61 (pc' := 65) (by decide) rfl ?_
          refine w_istore O d4_65 (L' := #[.val (.double lo), .second, .val (.int f1), .val (.double hi), .second, .val (.int f2), .val (.double x), .second, .val (.int (1 : Int32)), .val (.int (1 : Int32))]) (pc' := 67) rfl rfl ?_
          refine w_iload O d4_67 (pc' := 69) rfl rfl ?_
          refine w_if_eq O d4_69 (pn := 72) (pt := 81) rfl (by decide) rfl (fun q => absurd q (by decide)) (fun c69 => ?_)
          refine w_iload O d4_72 (pc' := 74) rfl rfl ?_
          refine w_if_eq O d4_74 (pn := 77) (pt := 81) rfl (by decide) rfl (fun q => absurd q (by decide)) (fun c74 => ?_)
          refine w_iconst O d4_77 (z := (1 : Int32)) (pc' := 78) rfl rfl ?_
          refine w_goto O d4_78 (pc' := 82) (by decide) rfl ?_
          refine w_retz O d4_82 (by decide) (by decide) (Or.inr rfl) ?_
          refine ⟨_, rfl, rfl, ?_⟩
          show (((((¬ f1.toInt = 0 ∧ zv lo ≤ zv x) ∨ (f1.toInt = 0 ∧ zv lo < zv x)) ∧ ((¬ f2.toInt = 0 ∧ zv x ≤ zv hi) ∨ (f2.toInt = 0 ∧ zv x < zv hi))) ∧ (1 : Int) = 1) ∨ (¬ (((¬ f1.toInt = 0 ∧ zv lo ≤ zv x) ∨ (f1.toInt = 0 ∧ zv lo < zv x)) ∧ ((¬ f2.toInt = 0 ∧ zv x ≤ zv hi) ∨ (f2.toInt = 0 ∧ zv x < zv hi))) ∧ (1 : Int) = 0))
          clear O
          unfold Cmp3 at *
          omega
      · replace c35 : ¬ f2.toInt = 0 := c35
        refine w_dload O d4_38 (pc' := 40) rfl rfl ?_
        refine w_dloadN O d4_40 (pc' := 41) rfl rfl ?_
        refine w_dcmp O d4_41 (pc' := 42) rfl n_x n_hi (fun x41 hx41 => ?_)
        refine w_if_gt O d4_42 (pn := 45) (pt := 49) rfl (by decide) rfl (fun c42 => ?_) (fun c42 => ?_)
        · replace c42 : 0 < x41.toInt := c42
          refine w_iconst O d4_49 (z := (0 : Int32)) (pc' := 50) rfl rfl ?_
          refine w_goto O d4_50 (pc' := 65) (by decide) rfl ?_
          refine w_istore O d4_65 (L' := #[.val (.double lo), .second, .val (.int f1), .val (.double hi), .second, .val (.int f2), .val (.double x), .second, .val (.int (1 : Int32)), .val (.int (0 : Int32))]) (pc' := 67) rfl rfl ?_
          refine w_iload O d4_67 (pc' := 69) rfl rfl ?_
          refine w_if_eq O d4_69 (pn := 72) (pt := 81) rfl (by decide) rfl (fun q => absurd q (by decide)) (fun c69 => ?_)
          refine w_iload O d4_72 (pc' := 74) rfl rfl ?_
          refine w_if_eq O d4_74 (pn := 77) (pt := 81) rfl (by decide) rfl (fun c74 => ?_) (fun q => absurd q (by decide))
          refine w_iconst O d4_81 (z := (0 : Int32)) (pc' := 82) rfl rfl ?_
          refine w_retz O d4_82 (by decide) (by decide) (Or.inl rfl) ?_
          refine ⟨_, rfl, rfl, ?_⟩
          show (((((¬ f1.toInt = 0 ∧ zv lo ≤ zv x) ∨ (f1.toInt = 0 ∧ zv lo < zv x)) ∧ ((¬ f2.toInt = 0 ∧ zv x ≤ zv hi) ∨ (f2.toInt = 0 ∧ zv x < zv hi))) ∧ (0 : Int) = 1) ∨ (¬ (((¬ f1.toInt = 0 ∧ zv lo ≤ zv x) ∨ (f1.toInt = 0 ∧ zv lo < zv x)) ∧ ((¬ f2.toInt = 0 ∧ zv x ≤ zv hi) ∨ (f2.toInt = 0 ∧ zv x < zv hi))) ∧ (0 : Int) = 0))
          clear O
          unfold Cmp3 at *
          omega
        · replace c42 : ¬ 0 < x41.toInt := c42
          refine w_iconst O d4_45 (z := (1 : Int32)) (pc' := 46) rfl rfl ?_
          refine w_goto O d4_46 (pc' := 65) (by decide) rfl ?_
          refine w_istore O d4_65 (L' := #[.val (.double lo), .second, .val (.int f1), .val (.double hi), .second, .val (.int f2), .val (.double x), .second, .val (.int (1 : Int32)), .val (.int (1 : Int32))]) (pc' := 67) rfl rfl ?_
          refine w_iload O d4_67 (pc' := 69) rfl rfl ?_
          refine w_if_eq O d4_69 (pn := 72) (pt := 81) rfl (by decide) rfl (fun q => absurd q (by decide)) (fun c69 => ?_)
          refine w_iload O d4_72 (pc' := 74) rfl rfl ?_
          refine w_if_eq O d4_74 (pn := 77) (pt := 81) rfl (by decide) rfl (fun q => absurd q (by decide)) (fun c74 => ?_)
          refine w_iconst O d4_77 (z := (1 : Int32)) (pc' := 78) rfl rfl ?_
          refine w_goto O d4_78 (pc' := 82) (by decide) rfl ?_
          refine w_retz O d4_82 (by decide) (by decide) (Or.inr rfl) ?_
          refine ⟨_, rfl, rfl, ?_⟩
          show (((((¬ f1.toInt = 0 ∧ zv lo ≤ zv x) ∨ (f1.toInt = 0 ∧ zv lo < zv x)) ∧ ((¬ f2.toInt = 0 ∧ zv x ≤ zv hi) ∨ (f2.toInt = 0 ∧ zv x < zv hi))) ∧ (1 : Int) = 1) ∨ (¬ (((¬ f1.toInt = 0 ∧ zv lo ≤ zv x) ∨ (f1.toInt = 0 ∧ zv lo < zv x)) ∧ ((¬ f2.toInt = 0 ∧ zv x ≤ zv hi) ∨ (f2.toInt = 0 ∧ zv x < zv hi))) ∧ (1 : Int) = 0))
          clear O
          unfold Cmp3 at *
          omega
  · replace c1 : ¬ f1.toInt = 0 := c1
    refine w_dloadN O d4_4 (pc' := 5) rfl rfl ?_
    refine w_dload O d4_5 (pc' := 7) rfl rfl ?_
    refine w_dcmp O d4_7 (pc' := 8) rfl n_lo n_x (fun x7 hx7 => ?_)
    refine w_if_gt O d4_8 (pn := 11) (pt := 15) rfl (by decide) rfl (fun c8 => ?_) (fun c8 => ?_)
    · replace c8 : 0 < x7.toInt := c8
      refine w_iconst O d4_15 (z := (0 : Int32)) (pc' := 16) rfl rfl ?_
      refine w_goto O d4_16 (pc' := 31) (by decide) rfl ?_
      refine w_istore O d4_31 (L' := #[.val (.double lo), .second, .val (.int f1), .val (.double hi), .second, .val (.int f2), .val (.double x), .second, .val (.int (0 : Int32)), .unset]) (pc' := 33) rfl rfl ?_
      refine w_iload O d4_33 (pc' := 35) rfl rfl ?_
      refine w_if_eq O d4_35 (pn := 38) (pt := 53) rfl (by decide) rfl (fun c35 => ?_) (fun c35 => ?_)
      · replace c35 : f2.toInt = 0 := c35
        refine w_dload O d4_53 (pc' := 55) rfl rfl ?_
        refine w_dloadN O d4_55 (pc' := 56) rfl rfl ?_
        refine w_dcmp O d4_56 (pc' := 57) rfl n_x n_hi (fun x56 hx56 => ?_)
        refine w_if_ge O d4_57 (pn := 60) (pt := 64) rfl (by decide) rfl (fun c57 => ?_) (fun c57 => ?_)
        · replace c57 : ¬ x56.toInt < 0 := c57
          refine w_iconst O d4_64 (z := (0 : Int32)) (pc' := 65) rfl rfl ?_
          refine w_istore O d4_65 (L' := #[.val (.double lo), .second, .val (.int f1), .val (.double hi), .second, .val (.int f2), .val (.double x), .second, .val (.int (0 : Int32)), .val (.int (0 : Int32))]) (pc' := 67) rfl rfl ?_
          refine w_iload O d4_67 (pc' := 69) rfl rfl ?_
          refine w_if_eq O d4_69 (pn := 72) (pt := 81) rfl (by decide) rfl (fun c69 => ?_) (fun q => absurd q (by decide))
          refine w_iconst O d4_81 (z := (0 : Int32)) (pc' := 82) rfl rfl ?_
          refine w_retz O d4_82 (by decide) (by decide) (Or.inl rfl) ?_
          refine ⟨_, rfl, rfl, ?_⟩
          show (((((¬ f1.toInt = 0 ∧ zv lo ≤ zv x) ∨ (f1.toInt = 0 ∧ zv lo < zv x)) ∧ ((¬ f2.toInt = 0 ∧ zv x ≤ zv hi) ∨ (f2.toInt = 0 ∧ zv x < zv hi))) ∧ (0 : Int) = 1) ∨ (¬ (((¬ f1.toInt = 0 ∧ zv lo ≤ zv x) ∨ (f1.toInt = 0 ∧ zv lo < zv x)) ∧ ((¬ f2.toInt = 0 ∧ zv x ≤ zv hi) ∨ (f2.toInt = 0 ∧ zv x < zv hi))) ∧ (0 : Int) = 0))
          clear O
          unfold Cmp3 at *
          omega
        · replace c57 : x56.toInt < 0 := c57
          refine w_iconst O d4_60 (z := (1 : Int32)) (pc' := 61) rfl rfl ?_
          refine w_goto O d4_61 (pc' := 65) (by decide) rfl ?_
          refine w_istore O d4_65 (L' := #[.val (.double lo), .second, .val (.int f1), .val (.double hi), .second, .val (.int f2), .val (.double x), .second, .val (.int (0 : Int32)), .val (.int (1 : Int32))]) (pc' := 67) rfl rfl ?_
          refine w_iload O d4_67 (pc' := 69) rfl rfl ?_
          refine w_if_eq O d4_69 (pn := 72) (pt := 81) rfl (by decide) rfl (fun c69 => ?_) (fun q => absurd q (by decide))
          refine w_iconst O d4_81 (z := (0 : Int32)) (pc' := 82) rfl rfl ?_
          refine w_retz O d4_82 (by decide) (by decide) (Or.inl rfl) ?_
          refine ⟨_, rfl, rfl, ?_⟩
          show (((((¬ f1.toInt = 0 ∧ zv lo ≤ zv x) ∨ (f1.toInt = 0 ∧ zv lo < zv x)) ∧ ((¬ f2.toInt = 0 ∧ zv x ≤ zv hi) ∨ (f2.toInt = 0 ∧ zv x < zv hi))) ∧ (0 : Int) = 1) ∨ (¬ (((¬ f1.toInt = 0 ∧ zv lo ≤ zv x) ∨ (f1.toInt = 0 ∧ zv lo < zv x)) ∧ ((¬ f2.toInt = 0 ∧ zv x ≤ zv hi) ∨ (f2.toInt = 0 ∧ zv x < zv hi))) ∧ (0 : Int) = 0))
          clear O
          unfold Cmp3 at *
          omega
      · replace c35 : ¬ f2.toInt = 0 := c35
        refine w_dload O d4_38 (pc' := 40) rfl rfl ?_
        refine w_dloadN O d4_40 (pc' := 41) rfl rfl ?_
        refine w_dcmp O d4_41 (pc' := 42) rfl n_x n_hi (fun x41 hx41 => ?_)
        refine w_if_gt O d4_42 (pn := 45) (pt := 49) rfl (by decide) rfl (fun c42 => ?_) (fun c42 => ?_)
        · replace c42 : 0 < x41.toInt := c42
          refine w_iconst O d4_49 (z := (0 : Int32)) (pc' := 50) rfl rfl ?_
          refine w_goto O d4_50 (pc' := 65) (by decide) rfl ?_
          refine w_istore O d4_65 (L' := #[.val (.double lo), .second, .val (.int f1), .val (.double hi), .second, .val (.int f2), .val (.double x), .second, .val (.int (0 : Int32)), .val (.int (0 : Int32))]) (pc' := 67) rfl rfl ?_
          refine w_iload O d4_67 (pc' := 69) rfl rfl ?_
          refine w_if_eq O d4_69 (pn := 72) (pt := 81) rfl (by decide) rfl (fun c69 => ?_) (fun q => absurd q (by decide))
          refine w_iconst O d4_81 (z := (0 : Int32)) (pc' := 82) rfl rfl ?_
          refine w_retz O d4_82 (by decide) (by decide) (Or.inl rfl) ?_
          refine ⟨_, rfl, rfl, ?_⟩
          show (((((¬ f1.toInt = 0 ∧ zv lo ≤ zv x) ∨ (f1.toInt = 0 ∧ zv lo < zv x)) ∧ ((¬ f2.toInt = 0 ∧ zv x ≤ zv hi) ∨ (f2.toInt = 0 ∧ zv x < zv hi))) ∧ (0 : Int) = 1) ∨ (¬ (((¬ f1.toInt = 0 ∧ zv lo ≤ zv x) ∨ (f1.toInt = 0 ∧ zv lo < zv x)) ∧ ((¬ f2.toInt = 0 ∧ zv x ≤ zv hi) ∨ (f2.toInt = 0 ∧ zv x < zv hi))) ∧ (0 : Int) = 0))
          clear O
          unfold Cmp3 at *
          omega
        · replace c42 : ¬ 0 < x41.toInt := c42
          refine w_iconst O d4_45 (z := (1 : Int32)) (pc' := 46) rfl rfl ?_
          refine w_goto O d4_46 (pc' := 65) (by decide) rfl ?_
          refine w_istore O d4_65 (L' := #[.val (.double lo), .second, .val (.int f1), .val (.double hi), .second, .val (.int f2), .val (.double x), .second, .val (.int (0 : Int32)), .val (.int (1 : Int32))]) (pc' := 67) rfl rfl ?_
          refine w_iload O d4_67 (pc' := 69) rfl rfl ?_
          refine w_if_eq O d4_69 (pn := 72) (pt := 81) rfl (by decide) rfl (fun c69 => ?_) (fun q => absurd q (by decide))
          refine w_iconst O d4_81 (z := (0 : Int32)) (pc' := 82) rfl rfl ?_
          refine w_retz O d4_82 (by decide) (by decide) (Or.inl rfl) ?_
          refine ⟨_, rfl, rfl, ?_⟩
          show (((((¬ f1.toInt = 0 ∧ zv lo ≤ zv x) ∨ (f1.toInt = 0 ∧ zv lo < zv x)) ∧ ((¬ f2.toInt = 0 ∧ zv x ≤ zv hi) ∨ (f2.toInt = 0 ∧ zv x < zv hi))) ∧ (0 : Int) = 1) ∨ (¬ (((¬ f1.toInt = 0 ∧ zv lo ≤ zv x) ∨ (f1.toInt = 0 ∧ zv lo < zv x)) ∧ ((¬ f2.toInt = 0 ∧ zv x ≤ zv hi) ∨ (f2.toInt = 0 ∧ zv x < zv hi))) ∧ (0 : Int) = 0))
          clear O
          unfold Cmp3 at *
          omega
    · replace c8 : ¬ 0 < x7.toInt := c8
      refine w_iconst O d4_11 (z := (1 : Int32)) (pc' := 12) rfl rfl ?_
      refine w_goto O d4_12 (pc' := 31) (by decide) rfl ?_
      refine w_istore O d4_31 (L' := #[.val (.double lo), .second, .val (.int f1), .val (.double hi), .second, .val (.int f2), .val (.double x), .second, .val (.int (1 : Int32)), .unset]) (pc' := 33) rfl rfl ?_
      refine w_iload O d4_33 (pc' := 35) rfl rfl ?_
      refine w_if_eq O d4_35 (pn := 38) (pt := 53) rfl (by decide) rfl (fun c35 => ?_) (fun c35 => ?_)
      · replace c35 : f2.toInt = 0 := c35
        refine w_dload O d4_53 (pc' := 55) rfl rfl ?_
        refine w_dloadN O d4_55 (pc' := 56) rfl rfl ?_
        refine w_dcmp O d4_56 (pc' := 57) rfl n_x n_hi (fun x56 hx56 => ?_)
        refine w_if_ge O d4_57 (pn := 60) (pt := 64) rfl (by decide) rfl (fun c57 => ?_) (fun c57 => ?_)
        · replace c57 : ¬ x56.toInt < 0 := c57
          refine w_iconst O d4_64 (z := (0 : Int32)) (pc' := 65) rfl rfl ?_
          refine w_istore O d4_65 (L' := #[.val (.double lo), .second, .val (.int f1), .val (.double hi), .second, .val (.int f2), .val (.double x), .second, .val (.int (1 : Int32)), .val (.int (0 : Int32))]) (pc' := 67) rfl rfl ?_
          refine w_iload O d4_67 (pc' := 69) rfl rfl ?_
          refine w_if_eq O d4_69 (pn := 72) (pt := 81) rfl (by decide) rfl (fun q => absurd q (by decide)) (fun c69 => ?_)
          refine w_iload O d4_72 (pc' := 74) rfl rfl ?_
          refine w_if_eq O d4_74 (pn := 77) (pt := 81) rfl (by decide) rfl (fun c74 => ?_) (fun q => absurd q (by decide))
          refine w_iconst O d4_81 (z := (0 : Int32)) (pc' := 82) rfl rfl ?_
          refine w_retz O d4_82 (by decide) (by decide) (Or.inl rfl) ?_
          refine ⟨_, rfl, rfl, ?_⟩
          show (((((¬ f1.toInt = 0 ∧ zv lo ≤ zv x) ∨ (f1.toInt = 0 ∧ zv lo < zv x)) ∧ ((¬ f2.toInt = 0 ∧ zv x ≤ zv hi) ∨ (f2.toInt = 0 ∧ zv x < zv hi))) ∧ (0 : Int) = 1) ∨ (¬ (((¬ f1.toInt = 0 ∧ zv lo ≤ zv x) ∨ (f1.toInt = 0 ∧ zv lo < zv x)) ∧ ((¬ f2.toInt = 0 ∧ zv x ≤ zv hi) ∨ (f2.toInt = 0 ∧ zv x < zv hi))) ∧ (0 : Int) = 0))
          clear O
          unfold Cmp3 at *
          omega
        · replace c57 : x56.toInt < 0 := c57
          refine w_iconst O d4_60 (z := (1 : Int32)) (pc' := 61) rfl rfl ?_
          refine w_goto O d4_61 (pc' := 65) (by decide) rfl ?_
          refine w_istore O d4_65 (L' := #[.val (.double lo), .second, .val (.int f1), .val (.double hi), .second, .val (.int f2), .val (.double x), .second, .val (.int (1 : Int32)), .val (.int (1 : Int32))]) (pc' := 67) rfl rfl ?_
          refine w_iload O d4_67 (pc' := 69) rfl rfl ?_
          refine w_if_eq O d4_69 (pn := 72) (pt := 81) rfl (by decide) rfl (fun q => absurd q (by decide)) (fun c69 => ?_)
          refine w_iload O d4_72 (pc' := 74) rfl rfl ?_
          refine w_if_eq O d4_74 (pn := 77) (pt := 81) rfl (by decide) rfl (fun q => absurd q (by decide)) (fun c74 => ?_)
          refine w_iconst O d4_77 (z := (1 : Int32)) (pc' := 78) rfl rfl ?_
          refine w_goto O d4_78 (pc' := 82) (by decide) rfl ?_
          refine w_retz O d4_82 (by decide) (by decide) (Or.inr rfl) ?_
          refine ⟨_, rfl, rfl, ?_⟩
          show (((((¬ f1.toInt = 0 ∧ zv lo ≤ zv x) ∨ (f1.toInt = 0 ∧ zv lo < zv x)) ∧ ((¬ f2.toInt = 0 ∧ zv x ≤ zv hi) ∨ (f2.toInt = 0 ∧ zv x < zv hi))) ∧ (1 : Int) = 1) ∨ (¬ (((¬ f1.toInt = 0 ∧ zv lo ≤ zv x) ∨ (f1.toInt = 0 ∧ zv lo < zv x)) ∧ ((¬ f2.toInt = 0 ∧ zv x ≤ zv hi) ∨ (f2.toInt = 0 ∧ zv x < zv hi))) ∧ (1 : Int) = 0))
          clear O
          unfold Cmp3 at *
          omega
      · replace c35 : ¬ f2.toInt = 0 := c35
        refine w_dload O d4_38 (pc' := 40) rfl rfl ?_
        refine w_dloadN O d4_40 (pc' := 41) rfl rfl ?_
        refine w_dcmp O d4_41 (pc' := 42) rfl n_x n_hi (fun x41 hx41 => ?_)
        refine w_if_gt O d4_42 (pn := 45) (pt := 49) rfl (by decide) rfl (fun c42 => ?_) (fun c42 => ?_)
        · replace c42 : 0 < x41.toInt := c42
          refine w_iconst O d4_49 (z := (0 : Int32)) (pc' := 50) rfl rfl ?_
          refine w_goto O d4_50 (pc' := 65) (by decide) rfl ?_
          refine w_istore O d4_65 (L' := #[.val (.double lo), .second, .val (.int f1), .val (.double hi), .second, .val (.int f2), .val (.double x), .second, .val (.int (1 : Int32)), .val (.int (0 : Int32))]) (pc' := 67) rfl rfl ?_
          refine w_iload O d4_67 (pc' := 69) rfl rfl ?_
          refine w_if_eq O d4_69 (pn := 72) (pt := 81) rfl (by decide) rfl (fun q => absurd q (by decide)) (fun c69 => ?_)
          refine w_iload O d4_72 (pc' := 74) rfl rfl ?_
          refine w_if_eq O d4_74 (pn := 77) (pt := 81) rfl (by decide) rfl (fun c74 => ?_) (fun q => absurd q (by decide))
          refine w_iconst O d4_81 (z := (0 : Int32)) (pc' := 82) rfl rfl ?_
          refine w_retz O d4_82 (by decide) (by decide) (Or.inl rfl) ?_
          refine ⟨_, rfl, rfl, ?_⟩
          show (((((¬ f1.toInt = 0 ∧ zv lo ≤ zv x) ∨ (f1.toInt = 0 ∧ zv lo < zv x)) ∧ ((¬ f2.toInt = 0 ∧ zv x ≤ zv hi) ∨ (f2.toInt = 0 ∧ zv x < zv hi))) ∧ (0 : Int) = 1) ∨ (¬ (((¬ f1.toInt = 0 ∧ zv lo ≤ zv x) ∨ (f1.toInt = 0 ∧ zv lo < zv x)) ∧ ((¬ f2.toInt = 0 ∧ zv x ≤ zv hi) ∨ (f2.toInt = 0 ∧ zv x < zv hi))) ∧ (0 : Int) = 0))
          clear O
          unfold Cmp3 at *
          omega
        · replace c42 : ¬ 0 < x41.toInt := c42
          refine w_iconst O d4_45 (z := (1 : Int32)) (pc' := 46) rfl rfl ?_
          refine w_goto O d4_46 (pc' := 65) (by decide) rfl ?_
          refine w_istore O d4_65 (L' := #[.val (.double lo), .second, .val (.int f1), .val (.double hi), .second, .val (.int f2), .val (.double x), .second, .val (.int (1 : Int32)), .val (.int (1 : Int32))]) (pc' := 67) rfl rfl ?_
          refine w_iload O d4_67 (pc' := 69) rfl rfl ?_
          refine w_if_eq O d4_69 (pn := 72) (pt := 81) rfl (by decide) rfl (fun q => absurd q (by decide)) (fun c69 => ?_)
          refine w_iload O d4_72 (pc' := 74) rfl rfl ?_
          refine w_if_eq O d4_74 (pn := 77) (pt := 81) rfl (by decide) rfl (fun q => absurd q (by decide)) (fun c74 => ?_)
          refine w_iconst O d4_77 (z := (1 : Int32)) (pc' := 78) rfl rfl ?_
          refine w_goto O d4_78 (pc' := 82) (by decide) rfl ?_
          refine w_retz O d4_82 (by decide) (by decide) (Or.inr rfl) ?_
          refine ⟨_, rfl, rfl, ?_⟩
          show (((((¬ f1.toInt = 0 ∧ zv lo ≤ zv x) ∨ (f1.toInt = 0 ∧ zv lo < zv x)) ∧ ((¬ f2.toInt = 0 ∧ zv x ≤ zv hi) ∨ (f2.toInt = 0 ∧ zv x < zv hi))) ∧ (1 : Int) = 1) ∨ (¬ (((¬ f1.toInt = 0 ∧ zv lo ≤ zv x) ∨ (f1.toInt = 0 ∧ zv lo < zv x)) ∧ ((¬ f2.toInt = 0 ∧ zv x ≤ zv hi) ∨ (f2.toInt = 0 ∧ zv x < zv hi))) ∧ (1 : Int) = 0))
          clear O
          unfold Cmp3 at *
          omega
theorem d5_0 : decode prog_37_method_4_code 0 = .ok (.aload_n 0, 1) := by decide +kernel
theorem d5_1 : decode prog_37_method_4_code 1 = .ok (.getfield 7, 3) := by decide +kernel
theorem d5_4 : decode prog_37_method_4_code 4 = .ok (.aload_n 0, 1) := by decide +kernel
theorem d5_5 : decode prog_37_method_4_code 5 = .ok (.getfield 17, 3) := by decide +kernel
theorem d5_8 : decode prog_37_method_4_code 8 = .ok (.dcmp .l, 1) := by decide +kernel
theorem d5_9 : decode prog_37_method_4_code 9 = .ok (.ifCond .gt 29, 3) := by decide +kernel
theorem d5_12 : decode prog_37_method_4_code 12 = .ok (.aload_n 0, 1) := by decide +kernel
theorem d5_13 : decode prog_37_method_4_code 13 = .ok (.getfield 7, 3) := by decide +kernel
theorem d5_16 : decode prog_37_method_4_code 16 = .ok (.aload_n 0, 1) := by decide +kernel
theorem d5_17 : decode prog_37_method_4_code 17 = .ok (.getfield 17, 3) := by decide +kernel
theorem d5_20 : decode prog_37_method_4_code 20 = .ok (.dcmp .l, 1) := by decide +kernel
theorem d5_21 : decode prog_37_method_4_code 21 = .ok (.ifCond .ne 21, 3) := by decide +kernel
theorem d5_24 : decode prog_37_method_4_code 24 = .ok (.aload_n 0, 1) := by decide +kernel
theorem d5_25 : decode prog_37_method_4_code 25 = .ok (.getfield 13, 3) := by decide +kernel
theorem d5_28 : decode prog_37_method_4_code 28 = .ok (.ifCond .eq 10, 3) := by decide +kernel
theorem d5_31 : decode prog_37_method_4_code 31 = .ok (.aload_n 0, 1) := by decide +kernel
theorem d5_32 : decode prog_37_method_4_code 32 = .ok (.getfield 20, 3) := by decide +kernel
theorem d5_35 : decode prog_37_method_4_code 35 = .ok (.ifCond .ne 7, 3) := by decide +kernel
theorem d5_38 : decode prog_37_method_4_code 38 = .ok (.iconst 1, 1) := by decide +kernel
theorem d5_39 : decode prog_37_method_4_code 39 = .ok (.goto 4, 3) := by decide +kernel
theorem d5_42 : decode prog_37_method_4_code 42 = .ok (.iconst 0, 1) := by decide +kernel
theorem d5_43 : decode prog_37_method_4_code 43 = .ok (.ireturn, 1) := by decide +kernel
theorem pn_5 : plainFor (⟨"com/example/lean_crowd/leancrowd/geometry/Span", "isEmpty", "()Z"⟩ : MethodName) = true := plainFor_of_name (by first | (simp [plainName, overriddenIn]; done) | decide +kernel)
set_option maxRecDepth 65536 in
set_option maxHeartbeats 40000000 in
theorem con_empty (l : Launch) (Z : State) (a0 : Array Value) (hw : ∀ d ∈ tables_1, d.before a0 Z = true) (a : Addr) (x y : UInt64) (f1 f2 : Int32) (h0 : Heap) (n0 : Nat) (S : Sp Z h0 a x y f1 f2) (n_x : Nn x) (n_y : Nn y) :
    Con l Z (⟨"com/example/lean_crowd/leancrowd/geometry/Span", "isEmpty", "()Z"⟩ : MethodName) prog_37_method_4_code 1 (some .boolean) ⟨0, 0, 0, 0⟩ [(.ref a)] h0 n0 (RetI fun r h => h = h0 ∧ (((zv y < zv x ∨ (zv x = zv y ∧ (f1.toInt = 0 ∨ f2.toInt = 0))) ∧ r.toInt = 1) ∨ (¬ (zv y < zv x ∨ (zv x = zv y ∧ (f1.toInt = 0 ∨ f2.toInt = 0))) ∧ r.toInt = 0))) := by
  refine Con.body (L0 := #[.val (.ref a)]) hw pn_5 (fun m => by first | (simp [entryFrame, mkF, argsToLocals, Value.category]; done) | rfl) (fun K O => ?_)
  obtain ⟨hE, h_low, h_holdsLow, h_high, h_holdsHigh⟩ := S
  refine w_aloadN O d5_0 (pc' := 1) rfl rfl rfl ?_
  refine w_getf O d5_1 (pc' := 4) rfl (mw 14 rfl) h_low ?_
  refine w_aloadN O d5_4 (pc' := 5) rfl rfl rfl ?_
  refine w_getf O d5_5 (pc' := 8) rfl (mw 18 rfl) h_high ?_
  refine w_dcmp O d5_8 (pc' := 9) rfl n_x n_y (fun x8 hx8 => ?_)
  refine w_if_gt O d5_9 (pn := 12) (pt := 38) rfl (by decide) rfl (fun c9 => ?_) (fun c9 => ?_)
  · replace c9 : 0 < x8.toInt := c9
    refine w_iconst O d5_38 (z := (1 : Int32)) (pc' := 39) rfl rfl ?_
    refine w_goto O d5_39 (pc' := 43) (by decide) rfl ?_
    refine w_retz O d5_43 (by decide) (by decide) (Or.inr rfl) ?_
    refine ⟨_, rfl, rfl, ?_⟩
    show (((zv y < zv x ∨ (zv x = zv y ∧ (f1.toInt = 0 ∨ f2.toInt = 0))) ∧ (1 : Int) = 1) ∨ (¬ (zv y < zv x ∨ (zv x = zv y ∧ (f1.toInt = 0 ∨ f2.toInt = 0))) ∧ (1 : Int) = 0))
    clear O
    unfold Cmp3 at *
    omega
  · replace c9 : ¬ 0 < x8.toInt := c9
    refine w_aloadN O d5_12 (pc' := 13) rfl rfl rfl ?_
    refine w_getf O d5_13 (pc' := 16) rfl (mw 14 rfl) h_low ?_
    refine w_aloadN O d5_16 (pc' := 17) rfl rfl rfl ?_
    refine w_getf O d5_17 (pc' := 20) rfl (mw 18 rfl) h_high ?_
    refine w_dcmp O d5_20 (pc' := 21) rfl n_x n_y (fun x20 hx20 => ?_)
    refine w_if_ne O d5_21 (pn := 24) (pt := 42) rfl (by decide) rfl (fun c21 => ?_) (fun c21 => ?_)
    · replace c21 : ¬ x20.toInt = 0 := c21
      refine w_iconst O d5_42 (z := (0 : Int32)) (pc' := 43) rfl rfl ?_
      refine w_retz O d5_43 (by decide) (by decide) (Or.inl rfl) ?_
      refine ⟨_, rfl, rfl, ?_⟩
      show (((zv y < zv x ∨ (zv x = zv y ∧ (f1.toInt = 0 ∨ f2.toInt = 0))) ∧ (0 : Int) = 1) ∨ (¬ (zv y < zv x ∨ (zv x = zv y ∧ (f1.toInt = 0 ∨ f2.toInt = 0))) ∧ (0 : Int) = 0))
      clear O
      unfold Cmp3 at *
      omega
    · replace c21 : x20.toInt = 0 := c21
      refine w_aloadN O d5_24 (pc' := 25) rfl rfl rfl ?_
      refine w_getf O d5_25 (pc' := 28) rfl (mw 16 rfl) h_holdsLow ?_
      refine w_if_eq O d5_28 (pn := 31) (pt := 38) rfl (by decide) rfl (fun c28 => ?_) (fun c28 => ?_)
      · replace c28 : f1.toInt = 0 := c28
        refine w_iconst O d5_38 (z := (1 : Int32)) (pc' := 39) rfl rfl ?_
        refine w_goto O d5_39 (pc' := 43) (by decide) rfl ?_
        refine w_retz O d5_43 (by decide) (by decide) (Or.inr rfl) ?_
        refine ⟨_, rfl, rfl, ?_⟩
        show (((zv y < zv x ∨ (zv x = zv y ∧ (f1.toInt = 0 ∨ f2.toInt = 0))) ∧ (1 : Int) = 1) ∨ (¬ (zv y < zv x ∨ (zv x = zv y ∧ (f1.toInt = 0 ∨ f2.toInt = 0))) ∧ (1 : Int) = 0))
        clear O
        unfold Cmp3 at *
        omega
      · replace c28 : ¬ f1.toInt = 0 := c28
        refine w_aloadN O d5_31 (pc' := 32) rfl rfl rfl ?_
        refine w_getf O d5_32 (pc' := 35) rfl (mw 20 rfl) h_holdsHigh ?_
        refine w_if_ne O d5_35 (pn := 38) (pt := 42) rfl (by decide) rfl (fun c35 => ?_) (fun c35 => ?_)
        · replace c35 : ¬ f2.toInt = 0 := c35
          refine w_iconst O d5_42 (z := (0 : Int32)) (pc' := 43) rfl rfl ?_
          refine w_retz O d5_43 (by decide) (by decide) (Or.inl rfl) ?_
          refine ⟨_, rfl, rfl, ?_⟩
          show (((zv y < zv x ∨ (zv x = zv y ∧ (f1.toInt = 0 ∨ f2.toInt = 0))) ∧ (0 : Int) = 1) ∨ (¬ (zv y < zv x ∨ (zv x = zv y ∧ (f1.toInt = 0 ∨ f2.toInt = 0))) ∧ (0 : Int) = 0))
          clear O
          unfold Cmp3 at *
          omega
        · replace c35 : f2.toInt = 0 := c35
          refine w_iconst O d5_38 (z := (1 : Int32)) (pc' := 39) rfl rfl ?_
          refine w_goto O d5_39 (pc' := 43) (by decide) rfl ?_
          refine w_retz O d5_43 (by decide) (by decide) (Or.inr rfl) ?_
          refine ⟨_, rfl, rfl, ?_⟩
          show (((zv y < zv x ∨ (zv x = zv y ∧ (f1.toInt = 0 ∨ f2.toInt = 0))) ∧ (1 : Int) = 1) ∨ (¬ (zv y < zv x ∨ (zv x = zv y ∧ (f1.toInt = 0 ∨ f2.toInt = 0))) ∧ (1 : Int) = 0))
          clear O
          unfold Cmp3 at *
          omega
theorem pn_0 : plainFor x = true := plainFor_of_name (by first | (simp [plainName, overriddenIn]; done) | decide +kernel)
theorem pd_1 : parseMethodDescriptor "(DZDZ)V" = some ⟨[.double, .boolean, .double, .boolean], none⟩ := by decide +kernel
theorem pd_2 : parseMethodDescriptor "(DZDZD)Z" = some ⟨[.double, .boolean, .double, .boolean, .double], some .boolean⟩ := by decide +kernel
theorem pd_3 : parseMethodDescriptor "()Z" = some ⟨[], some .boolean⟩ := by decide +kernel
set_option maxRecDepth 65536 in
set_option maxHeartbeats 40000000 in
theorem law_con (l : Launch) (Z : State) (a0 : Array Value) (hw : ∀ d ∈ tables_1, d.before a0 Z = true) (u0 u1 u2 : Int32) (h0 : Heap) (n0 : Nat)  :
    Con l Z x code maxLocals ret room_1 [(.int u0), (.int u1), (.int u2)] h0 n0 (RetI fun r _ => r = 1) := by
  refine Con.body (L0 := #[.val (.int u0), .val (.int u1), .val (.int u2), .unset, .unset, .unset, .unset, .unset, .unset, .unset, .unset, .unset, .unset, .unset]) hw pn_0 (fun m => by first | (simp [entryFrame, mkF, argsToLocals, Value.category, maxLocals]; done) | rfl) (fun K O => ?_)
  replace O : Ok K l Z a0 tables_1 code 14 (some .boolean) "com/example/lean_crowd/leancrowd/geometry/SpanIsEmptyPinLaw" "law" room_1 n0 _ := O
  refine w_iloadN O at_0 (pc' := 1) rfl rfl ?_
  refine w_iconst O at_1 (z := (1 : Int32)) (pc' := 2) rfl rfl ?_
  refine w_iand O at_2 (pc' := 3) rfl ?_
  have i1 : (u2 &&& (1 : Int32)).toInt = u2.toInt % 2 := c_mask u2 (1 : Int32) 1 (by decide) (by decide)
  refine w_if_eq O at_3 (pn := 6) (pt := 10) rfl (by decide) rfl (fun c3 => ?_) (fun c3 => ?_)
  · replace c3 : (u2 &&& (1 : Int32)).toInt = 0 := c3
    refine w_iconst O at_10 (z := (0 : Int32)) (pc' := 11) rfl rfl ?_
    refine w_istoreN O at_11 (L' := #[.val (.int u0), .val (.int u1), .val (.int u2), .val (.int (0 : Int32)), .unset, .unset, .unset, .unset, .unset, .unset, .unset, .unset, .unset, .unset]) (pc' := 12) rfl rfl ?_
    refine w_iloadN O at_12 (pc' := 13) rfl rfl ?_
    refine w_iconst O at_13 (z := (2 : Int32)) (pc' := 14) rfl rfl ?_
    refine w_iand O at_14 (pc' := 15) rfl ?_
    have i2 : 0 ≤ (u2 &&& (2 : Int32)).toInt ∧ (u2 &&& (2 : Int32)).toInt ≤ 2 := c_and u2 (2 : Int32) (by decide)
    refine w_if_eq O at_15 (pn := 18) (pt := 22) rfl (by decide) rfl (fun c15 => ?_) (fun c15 => ?_)
    · replace c15 : (u2 &&& (2 : Int32)).toInt = 0 := c15
      refine w_iconst O at_22 (z := (0 : Int32)) (pc' := 23) rfl rfl ?_
      refine w_istore O at_23 (L' := #[.val (.int u0), .val (.int u1), .val (.int u2), .val (.int (0 : Int32)), .val (.int (0 : Int32)), .unset, .unset, .unset, .unset, .unset, .unset, .unset, .unset, .unset]) (pc' := 25) rfl rfl ?_
      refine w_iloadN O at_25 (pc' := 26) rfl rfl ?_
      refine w_iconst O at_26 (z := (4 : Int32)) (pc' := 27) rfl rfl ?_
      refine w_iand O at_27 (pc' := 28) rfl ?_
      have i3 : 0 ≤ (u2 &&& (4 : Int32)).toInt ∧ (u2 &&& (4 : Int32)).toInt ≤ 4 := c_and u2 (4 : Int32) (by decide)
      have J36 : ∀ (bb : Int32), True → W K h0 0 0 36 #[.val (.int u0), .val (.int u1), .val (.int u2), .val (.int (0 : Int32)), .val (.int (0 : Int32)), .unset, .unset, .unset, .unset, .unset, .unset, .unset, .unset, .unset] [(.int bb)] := by
        intro bb hJ36
        refine w_istore O at_36 (L' := #[.val (.int u0), .val (.int u1), .val (.int u2), .val (.int (0 : Int32)), .val (.int (0 : Int32)), .val (.int bb), .unset, .unset, .unset, .unset, .unset, .unset, .unset, .unset]) (pc' := 38) rfl rfl ?_
        refine w_iloadN O at_38 (pc' := 39) rfl rfl ?_
        refine w_i2d O at_39 (pc' := 40) rfl ?_
        refine w_dstoreG O at_40 (L' := fun zq => #[.val (.int u0), .val (.int u1), .val (.int u2), .val (.int (0 : Int32)), .val (.int (0 : Int32)), .val (.int bb), .val (.double zq), .second, .unset, .unset, .unset, .unset, .unset, .unset]) (pc' := 42) rfl (fun _ => rfl) (fun lo e_lo => ?_)
        have n_lo : Nn lo := by rw [e_lo]; exact nn_int (Jvm.FP.Core.i2d_int u0)
        refine w_iload O at_42 (pc' := 44) rfl rfl ?_
        refine w_i2d O at_44 (pc' := 45) rfl ?_
        refine w_dstoreG O at_45 (L' := fun zq => #[.val (.int u0), .val (.int u1), .val (.int u2), .val (.int (0 : Int32)), .val (.int (0 : Int32)), .val (.int bb), .val (.double lo), .second, .val (.double zq), .second, .unset, .unset, .unset, .unset]) (pc' := 47) rfl (fun _ => rfl) (fun hi e_hi => ?_)
        have n_hi : Nn hi := by rw [e_hi]; exact nn_int (Jvm.FP.Core.i2d_int bb)
        refine w_new O at_47 (cl' := 1) (sl' := 4) (pc' := 50) rfl (mw 0 rfl) (mw 1 rfl) (mw 2 rfl) rfl rfl (by decide) (by decide) (fun h6 b7 qb7 g_b7 Eh6 E_b7 Db7 => ?_)
        have F_low_b7 : Fld Z h6 b7 "com/example/lean_crowd/leancrowd/geometry/Span" "low" "D" (.double 0) := Db7 (Or.inr (O.2.2.2.2.2.2.2.2.1 _ (mw 15 rfl))) (ty := .double) (by decide)
        have F_holdsLow_b7 : Fld Z h6 b7 "com/example/lean_crowd/leancrowd/geometry/Span" "holdsLow" "Z" (.int (0 : Int32)) := Db7 (Or.inr (O.2.2.2.2.2.2.2.2.1 _ (mw 17 rfl))) (ty := .boolean) (by decide)
        have F_high_b7 : Fld Z h6 b7 "com/example/lean_crowd/leancrowd/geometry/Span" "high" "D" (.double 0) := Db7 (Or.inr (O.2.2.2.2.2.2.2.2.1 _ (mw 19 rfl))) (ty := .double) (by decide)
        have F_holdsHigh_b7 : Fld Z h6 b7 "com/example/lean_crowd/leancrowd/geometry/Span" "holdsHigh" "Z" (.int (0 : Int32)) := Db7 (Or.inr (O.2.2.2.2.2.2.2.2.1 _ (mw 21 rfl))) (ty := .boolean) (by decide)
        refine w_dup O at_50 (pc' := 51) rfl rfl ?_
        refine w_dload O at_51 (pc' := 53) rfl rfl ?_
        refine w_iloadN O at_53 (pc' := 54) rfl rfl ?_
        refine w_dload O at_54 (pc' := 56) rfl rfl ?_
        refine w_iload O at_56 (pc' := 58) rfl rfl ?_
        refine w_init O at_58 (as := [(.double lo), (.int (0 : Int32)), (.double hi), (.int (0 : Int32))]) (st := [(.ref b7)]) (wt := 1) (cl' := 1) (sl' := 4) (pc' := 61) rfl rfl (mw 3 rfl) (mw 4 rfl) (mw 2 rfl) (mw 5 rfl) (by decide) (con_span l Z a0 hw b7 lo (0 : Int32) hi (0 : Int32) h6 n0 E_b7 F_low_b7 F_holdsLow_b7 F_high_b7 F_holdsHigh_b7 g_b7 (by decide) (by decide)) rfl pd_1 rfl rfl rfl (by decide) (by decide) rfl rfl (by decide) (by decide) (cV fun h8 Sh8 => ?_)
        refine w_astore O at_61 (L' := #[.val (.int u0), .val (.int u1), .val (.int u2), .val (.int (0 : Int32)), .val (.int (0 : Int32)), .val (.int bb), .val (.double lo), .second, .val (.double hi), .second, .val (.ref b7), .unset, .unset, .unset]) (pc' := 63) rfl rfl rfl ?_
        refine w_dload O at_63 (pc' := 65) rfl rfl ?_
        refine w_dload O at_65 (pc' := 67) rfl rfl ?_
        obtain ⟨m1, m2, m3, m4⟩ := own_mid u0 bb
        rw [← e_lo, ← e_hi] at m1 m2 m3 m4
        refine w_dadd O at_67 (pc' := 68) rfl m1 ?_
        refine w_ldc2D O at_68 (pc' := 71) rfl (mw 22 rfl) ?_
        refine w_ddiv O at_71 (pc' := 72) rfl m2 ?_
        refine w_dstoreG O at_72 (L' := fun zq => #[.val (.int u0), .val (.int u1), .val (.int u2), .val (.int (0 : Int32)), .val (.int (0 : Int32)), .val (.int bb), .val (.double lo), .second, .val (.double hi), .second, .val (.ref b7), .val (.double zq), .second, .unset]) (pc' := 74) rfl (fun _ => rfl) (fun mid e_mid => ?_)
        have n_mid : Nn mid := by rw [e_mid]; exact m3
        have hmid : 2 * zv mid = zv lo + zv hi := by rw [e_mid]; exact m4
        clear m1 m2 m3 m4
        refine w_dload O at_74 (pc' := 76) rfl rfl ?_
        refine w_iloadN O at_76 (pc' := 77) rfl rfl ?_
        refine w_dload O at_77 (pc' := 79) rfl rfl ?_
        refine w_iload O at_79 (pc' := 81) rfl rfl ?_
        refine w_dload O at_81 (pc' := 83) rfl rfl ?_
        refine w_static O at_83 (as := [(.double lo), (.int (0 : Int32)), (.double hi), (.int (0 : Int32)), (.double mid)]) (st := []) (wt := 0) (cl' := 1) (sl' := 4) (pc' := 86) rfl (mw 23 rfl) (mw 24 rfl) (mw 25 rfl) (mw 26 rfl) (by decide) (con_holds l Z a0 hw lo (0 : Int32) hi (0 : Int32) mid h8 n0 n_lo n_hi n_mid) rfl pd_2 rfl rfl rfl (by decide) (by decide) rfl rfl (by decide) (by decide) (cI fun t10 _ ⟨qt10, st10⟩ => ?_)
        rw [qt10]
        replace st10 : ((((¬ (0 : Int) = 0 ∧ zv lo ≤ zv mid) ∨ ((0 : Int) = 0 ∧ zv lo < zv mid)) ∧ ((¬ (0 : Int) = 0 ∧ zv mid ≤ zv hi) ∨ ((0 : Int) = 0 ∧ zv mid < zv hi))) ∧ t10.toInt = 1) ∨ (¬ (((¬ (0 : Int) = 0 ∧ zv lo ≤ zv mid) ∨ ((0 : Int) = 0 ∧ zv lo < zv mid)) ∧ ((¬ (0 : Int) = 0 ∧ zv mid ≤ zv hi) ∨ ((0 : Int) = 0 ∧ zv mid < zv hi))) ∧ t10.toInt = 0) := st10
        refine w_if_ne O at_86 (pn := 89) (pt := 119) rfl (by decide) rfl (fun c86 => ?_) (fun c86 => ?_)
        · replace c86 : ¬ t10.toInt = 0 := c86
          refine w_iconst O at_119 (z := (1 : Int32)) (pc' := 120) rfl rfl ?_
          refine w_goto O at_120 (pc' := 124) (by decide) rfl ?_
          refine w_istore O at_124 (L' := #[.val (.int u0), .val (.int u1), .val (.int u2), .val (.int (0 : Int32)), .val (.int (0 : Int32)), .val (.int bb), .val (.double lo), .second, .val (.double hi), .second, .val (.ref b7), .val (.double mid), .second, .val (.int (1 : Int32))]) (pc' := 126) rfl rfl ?_
          refine w_aload O at_126 (pc' := 128) rfl rfl rfl ?_
          refine w_virtual O at_128 (as := []) (st := []) (wt := 0) (cl' := 1) (sl' := 4) (pc' := 131) rfl (mw 27 rfl) (mw 28 rfl) (mw 30 rfl) (mw 29 rfl) (mw 31 rfl) (mw 2 rfl) (by decide) Sh8.1 (con_empty l Z a0 hw b7 lo hi (0 : Int32) (0 : Int32) h8 n0 Sh8 n_lo n_hi) rfl pd_3 rfl rfl rfl (by decide) (by decide) rfl rfl (by decide) (by decide) (cI fun re _ ⟨qre, sre⟩ => ?_)
          rw [qre]
          replace sre : ((zv hi < zv lo ∨ (zv lo = zv hi ∧ ((0 : Int) = 0 ∨ (0 : Int) = 0))) ∧ re.toInt = 1) ∨ (¬ (zv hi < zv lo ∨ (zv lo = zv hi ∧ ((0 : Int) = 0 ∨ (0 : Int) = 0))) ∧ re.toInt = 0) := sre
          refine w_iload O at_131 (pc' := 133) rfl rfl ?_
          refine w_if_ne O at_133 (pn := 136) (pt := 140) rfl (by decide) rfl (fun c133 => ?_) (fun q => absurd q (by decide))
          refine w_iconst O at_140 (z := (0 : Int32)) (pc' := 141) rfl rfl ?_
          have hne : re.toInt = 0 := by
            clear O
            omega
          refine w_icmp_ne O at_141 (pn := 144) (pt := 148) rfl (by decide) rfl (fun q => absurd hne q) (fun _ => ?_)
          refine w_iconst O at_144 (z := (1 : Int32)) (pc' := 145) rfl rfl ?_
          refine w_goto O at_145 (pc' := 149) (by decide) rfl ?_
          refine w_retz O at_149 (by decide) (by decide) (Or.inr rfl) ?_
          exact ⟨_, rfl, rfl⟩
        · replace c86 : t10.toInt = 0 := c86
          refine w_dload O at_89 (pc' := 91) rfl rfl ?_
          refine w_iloadN O at_91 (pc' := 92) rfl rfl ?_
          refine w_dload O at_92 (pc' := 94) rfl rfl ?_
          refine w_iload O at_94 (pc' := 96) rfl rfl ?_
          refine w_dload O at_96 (pc' := 98) rfl rfl ?_
          refine w_static O at_98 (as := [(.double lo), (.int (0 : Int32)), (.double hi), (.int (0 : Int32)), (.double lo)]) (st := []) (wt := 0) (cl' := 1) (sl' := 4) (pc' := 101) rfl (mw 23 rfl) (mw 24 rfl) (mw 25 rfl) (mw 26 rfl) (by decide) (con_holds l Z a0 hw lo (0 : Int32) hi (0 : Int32) lo h8 n0 n_lo n_hi n_lo) rfl pd_2 rfl rfl rfl (by decide) (by decide) rfl rfl (by decide) (by decide) (cI fun t11 _ ⟨qt11, st11⟩ => ?_)
          rw [qt11]
          replace st11 : ((((¬ (0 : Int) = 0 ∧ zv lo ≤ zv lo) ∨ ((0 : Int) = 0 ∧ zv lo < zv lo)) ∧ ((¬ (0 : Int) = 0 ∧ zv lo ≤ zv hi) ∨ ((0 : Int) = 0 ∧ zv lo < zv hi))) ∧ t11.toInt = 1) ∨ (¬ (((¬ (0 : Int) = 0 ∧ zv lo ≤ zv lo) ∨ ((0 : Int) = 0 ∧ zv lo < zv lo)) ∧ ((¬ (0 : Int) = 0 ∧ zv lo ≤ zv hi) ∨ ((0 : Int) = 0 ∧ zv lo < zv hi))) ∧ t11.toInt = 0) := st11
          refine w_if_ne O at_101 (pn := 104) (pt := 119) rfl (by decide) rfl (fun c101 => ?_) (fun c101 => ?_)
          · replace c101 : ¬ t11.toInt = 0 := c101
            refine w_iconst O at_119 (z := (1 : Int32)) (pc' := 120) rfl rfl ?_
            refine w_goto O at_120 (pc' := 124) (by decide) rfl ?_
            refine w_istore O at_124 (L' := #[.val (.int u0), .val (.int u1), .val (.int u2), .val (.int (0 : Int32)), .val (.int (0 : Int32)), .val (.int bb), .val (.double lo), .second, .val (.double hi), .second, .val (.ref b7), .val (.double mid), .second, .val (.int (1 : Int32))]) (pc' := 126) rfl rfl ?_
            refine w_aload O at_126 (pc' := 128) rfl rfl rfl ?_
            refine w_virtual O at_128 (as := []) (st := []) (wt := 0) (cl' := 1) (sl' := 4) (pc' := 131) rfl (mw 27 rfl) (mw 28 rfl) (mw 30 rfl) (mw 29 rfl) (mw 31 rfl) (mw 2 rfl) (by decide) Sh8.1 (con_empty l Z a0 hw b7 lo hi (0 : Int32) (0 : Int32) h8 n0 Sh8 n_lo n_hi) rfl pd_3 rfl rfl rfl (by decide) (by decide) rfl rfl (by decide) (by decide) (cI fun re _ ⟨qre, sre⟩ => ?_)
            rw [qre]
            replace sre : ((zv hi < zv lo ∨ (zv lo = zv hi ∧ ((0 : Int) = 0 ∨ (0 : Int) = 0))) ∧ re.toInt = 1) ∨ (¬ (zv hi < zv lo ∨ (zv lo = zv hi ∧ ((0 : Int) = 0 ∨ (0 : Int) = 0))) ∧ re.toInt = 0) := sre
            refine w_iload O at_131 (pc' := 133) rfl rfl ?_
            refine w_if_ne O at_133 (pn := 136) (pt := 140) rfl (by decide) rfl (fun c133 => ?_) (fun q => absurd q (by decide))
            refine w_iconst O at_140 (z := (0 : Int32)) (pc' := 141) rfl rfl ?_
            have hne : re.toInt = 0 := by
              clear O
              omega
            refine w_icmp_ne O at_141 (pn := 144) (pt := 148) rfl (by decide) rfl (fun q => absurd hne q) (fun _ => ?_)
            refine w_iconst O at_144 (z := (1 : Int32)) (pc' := 145) rfl rfl ?_
            refine w_goto O at_145 (pc' := 149) (by decide) rfl ?_
            refine w_retz O at_149 (by decide) (by decide) (Or.inr rfl) ?_
            exact ⟨_, rfl, rfl⟩
          · replace c101 : t11.toInt = 0 := c101
            refine w_dload O at_104 (pc' := 106) rfl rfl ?_
            refine w_iloadN O at_106 (pc' := 107) rfl rfl ?_
            refine w_dload O at_107 (pc' := 109) rfl rfl ?_
            refine w_iload O at_109 (pc' := 111) rfl rfl ?_
            refine w_dload O at_111 (pc' := 113) rfl rfl ?_
            refine w_static O at_113 (as := [(.double lo), (.int (0 : Int32)), (.double hi), (.int (0 : Int32)), (.double hi)]) (st := []) (wt := 0) (cl' := 1) (sl' := 4) (pc' := 116) rfl (mw 23 rfl) (mw 24 rfl) (mw 25 rfl) (mw 26 rfl) (by decide) (con_holds l Z a0 hw lo (0 : Int32) hi (0 : Int32) hi h8 n0 n_lo n_hi n_hi) rfl pd_2 rfl rfl rfl (by decide) (by decide) rfl rfl (by decide) (by decide) (cI fun t12 _ ⟨qt12, st12⟩ => ?_)
            rw [qt12]
            replace st12 : ((((¬ (0 : Int) = 0 ∧ zv lo ≤ zv hi) ∨ ((0 : Int) = 0 ∧ zv lo < zv hi)) ∧ ((¬ (0 : Int) = 0 ∧ zv hi ≤ zv hi) ∨ ((0 : Int) = 0 ∧ zv hi < zv hi))) ∧ t12.toInt = 1) ∨ (¬ (((¬ (0 : Int) = 0 ∧ zv lo ≤ zv hi) ∨ ((0 : Int) = 0 ∧ zv lo < zv hi)) ∧ ((¬ (0 : Int) = 0 ∧ zv hi ≤ zv hi) ∨ ((0 : Int) = 0 ∧ zv hi < zv hi))) ∧ t12.toInt = 0) := st12
            refine w_if_eq O at_116 (pn := 119) (pt := 123) rfl (by decide) rfl (fun c116 => ?_) (fun c116 => ?_)
            · replace c116 : t12.toInt = 0 := c116
              refine w_iconst O at_123 (z := (0 : Int32)) (pc' := 124) rfl rfl ?_
              refine w_istore O at_124 (L' := #[.val (.int u0), .val (.int u1), .val (.int u2), .val (.int (0 : Int32)), .val (.int (0 : Int32)), .val (.int bb), .val (.double lo), .second, .val (.double hi), .second, .val (.ref b7), .val (.double mid), .second, .val (.int (0 : Int32))]) (pc' := 126) rfl rfl ?_
              refine w_aload O at_126 (pc' := 128) rfl rfl rfl ?_
              refine w_virtual O at_128 (as := []) (st := []) (wt := 0) (cl' := 1) (sl' := 4) (pc' := 131) rfl (mw 27 rfl) (mw 28 rfl) (mw 30 rfl) (mw 29 rfl) (mw 31 rfl) (mw 2 rfl) (by decide) Sh8.1 (con_empty l Z a0 hw b7 lo hi (0 : Int32) (0 : Int32) h8 n0 Sh8 n_lo n_hi) rfl pd_3 rfl rfl rfl (by decide) (by decide) rfl rfl (by decide) (by decide) (cI fun re _ ⟨qre, sre⟩ => ?_)
              rw [qre]
              replace sre : ((zv hi < zv lo ∨ (zv lo = zv hi ∧ ((0 : Int) = 0 ∨ (0 : Int) = 0))) ∧ re.toInt = 1) ∨ (¬ (zv hi < zv lo ∨ (zv lo = zv hi ∧ ((0 : Int) = 0 ∨ (0 : Int) = 0))) ∧ re.toInt = 0) := sre
              refine w_iload O at_131 (pc' := 133) rfl rfl ?_
              refine w_if_ne O at_133 (pn := 136) (pt := 140) rfl (by decide) rfl (fun q => absurd q (by decide)) (fun c133 => ?_)
              refine w_iconst O at_136 (z := (1 : Int32)) (pc' := 137) rfl rfl ?_
              refine w_goto O at_137 (pc' := 141) (by decide) rfl ?_
              have hne : re.toInt = 1 := by
                clear O
                omega
              refine w_icmp_ne O at_141 (pn := 144) (pt := 148) rfl (by decide) rfl (fun q => absurd hne q) (fun _ => ?_)
              refine w_iconst O at_144 (z := (1 : Int32)) (pc' := 145) rfl rfl ?_
              refine w_goto O at_145 (pc' := 149) (by decide) rfl ?_
              refine w_retz O at_149 (by decide) (by decide) (Or.inr rfl) ?_
              exact ⟨_, rfl, rfl⟩
            · replace c116 : ¬ t12.toInt = 0 := c116
              refine w_iconst O at_119 (z := (1 : Int32)) (pc' := 120) rfl rfl ?_
              refine w_goto O at_120 (pc' := 124) (by decide) rfl ?_
              refine w_istore O at_124 (L' := #[.val (.int u0), .val (.int u1), .val (.int u2), .val (.int (0 : Int32)), .val (.int (0 : Int32)), .val (.int bb), .val (.double lo), .second, .val (.double hi), .second, .val (.ref b7), .val (.double mid), .second, .val (.int (1 : Int32))]) (pc' := 126) rfl rfl ?_
              refine w_aload O at_126 (pc' := 128) rfl rfl rfl ?_
              refine w_virtual O at_128 (as := []) (st := []) (wt := 0) (cl' := 1) (sl' := 4) (pc' := 131) rfl (mw 27 rfl) (mw 28 rfl) (mw 30 rfl) (mw 29 rfl) (mw 31 rfl) (mw 2 rfl) (by decide) Sh8.1 (con_empty l Z a0 hw b7 lo hi (0 : Int32) (0 : Int32) h8 n0 Sh8 n_lo n_hi) rfl pd_3 rfl rfl rfl (by decide) (by decide) rfl rfl (by decide) (by decide) (cI fun re _ ⟨qre, sre⟩ => ?_)
              rw [qre]
              replace sre : ((zv hi < zv lo ∨ (zv lo = zv hi ∧ ((0 : Int) = 0 ∨ (0 : Int) = 0))) ∧ re.toInt = 1) ∨ (¬ (zv hi < zv lo ∨ (zv lo = zv hi ∧ ((0 : Int) = 0 ∨ (0 : Int) = 0))) ∧ re.toInt = 0) := sre
              refine w_iload O at_131 (pc' := 133) rfl rfl ?_
              refine w_if_ne O at_133 (pn := 136) (pt := 140) rfl (by decide) rfl (fun c133 => ?_) (fun q => absurd q (by decide))
              refine w_iconst O at_140 (z := (0 : Int32)) (pc' := 141) rfl rfl ?_
              have hne : re.toInt = 0 := by
                clear O
                omega
              refine w_icmp_ne O at_141 (pn := 144) (pt := 148) rfl (by decide) rfl (fun q => absurd hne q) (fun _ => ?_)
              refine w_iconst O at_144 (z := (1 : Int32)) (pc' := 145) rfl rfl ?_
              refine w_goto O at_145 (pc' := 149) (by decide) rfl ?_
              refine w_retz O at_149 (by decide) (by decide) (Or.inr rfl) ?_
              exact ⟨_, rfl, rfl⟩
      refine w_if_eq O at_28 (pn := 31) (pt := 35) rfl (by decide) rfl (fun c28 => ?_) (fun c28 => ?_)
      · replace c28 : (u2 &&& (4 : Int32)).toInt = 0 := c28
        refine w_iloadN O at_35 (pc' := 36) rfl rfl ?_
        exact J36 u1 (trivial)
      · replace c28 : ¬ (u2 &&& (4 : Int32)).toInt = 0 := c28
        refine w_iloadN O at_31 (pc' := 32) rfl rfl ?_
        refine w_goto O at_32 (pc' := 36) (by decide) rfl ?_
        exact J36 u0 (trivial)
    · replace c15 : ¬ (u2 &&& (2 : Int32)).toInt = 0 := c15
      refine w_iconst O at_18 (z := (1 : Int32)) (pc' := 19) rfl rfl ?_
      refine w_goto O at_19 (pc' := 23) (by decide) rfl ?_
      refine w_istore O at_23 (L' := #[.val (.int u0), .val (.int u1), .val (.int u2), .val (.int (0 : Int32)), .val (.int (1 : Int32)), .unset, .unset, .unset, .unset, .unset, .unset, .unset, .unset, .unset]) (pc' := 25) rfl rfl ?_
      refine w_iloadN O at_25 (pc' := 26) rfl rfl ?_
      refine w_iconst O at_26 (z := (4 : Int32)) (pc' := 27) rfl rfl ?_
      refine w_iand O at_27 (pc' := 28) rfl ?_
      have i13 : 0 ≤ (u2 &&& (4 : Int32)).toInt ∧ (u2 &&& (4 : Int32)).toInt ≤ 4 := c_and u2 (4 : Int32) (by decide)
      have J36 : ∀ (bb : Int32), True → W K h0 0 0 36 #[.val (.int u0), .val (.int u1), .val (.int u2), .val (.int (0 : Int32)), .val (.int (1 : Int32)), .unset, .unset, .unset, .unset, .unset, .unset, .unset, .unset, .unset] [(.int bb)] := by
        intro bb hJ36
        refine w_istore O at_36 (L' := #[.val (.int u0), .val (.int u1), .val (.int u2), .val (.int (0 : Int32)), .val (.int (1 : Int32)), .val (.int bb), .unset, .unset, .unset, .unset, .unset, .unset, .unset, .unset]) (pc' := 38) rfl rfl ?_
        refine w_iloadN O at_38 (pc' := 39) rfl rfl ?_
        refine w_i2d O at_39 (pc' := 40) rfl ?_
        refine w_dstoreG O at_40 (L' := fun zq => #[.val (.int u0), .val (.int u1), .val (.int u2), .val (.int (0 : Int32)), .val (.int (1 : Int32)), .val (.int bb), .val (.double zq), .second, .unset, .unset, .unset, .unset, .unset, .unset]) (pc' := 42) rfl (fun _ => rfl) (fun lo e_lo => ?_)
        have n_lo : Nn lo := by rw [e_lo]; exact nn_int (Jvm.FP.Core.i2d_int u0)
        refine w_iload O at_42 (pc' := 44) rfl rfl ?_
        refine w_i2d O at_44 (pc' := 45) rfl ?_
        refine w_dstoreG O at_45 (L' := fun zq => #[.val (.int u0), .val (.int u1), .val (.int u2), .val (.int (0 : Int32)), .val (.int (1 : Int32)), .val (.int bb), .val (.double lo), .second, .val (.double zq), .second, .unset, .unset, .unset, .unset]) (pc' := 47) rfl (fun _ => rfl) (fun hi e_hi => ?_)
        have n_hi : Nn hi := by rw [e_hi]; exact nn_int (Jvm.FP.Core.i2d_int bb)
        refine w_new O at_47 (cl' := 1) (sl' := 4) (pc' := 50) rfl (mw 0 rfl) (mw 1 rfl) (mw 2 rfl) rfl rfl (by decide) (by decide) (fun h16 b17 qb17 g_b17 Eh16 E_b17 Db17 => ?_)
        have F_low_b17 : Fld Z h16 b17 "com/example/lean_crowd/leancrowd/geometry/Span" "low" "D" (.double 0) := Db17 (Or.inr (O.2.2.2.2.2.2.2.2.1 _ (mw 15 rfl))) (ty := .double) (by decide)
        have F_holdsLow_b17 : Fld Z h16 b17 "com/example/lean_crowd/leancrowd/geometry/Span" "holdsLow" "Z" (.int (0 : Int32)) := Db17 (Or.inr (O.2.2.2.2.2.2.2.2.1 _ (mw 17 rfl))) (ty := .boolean) (by decide)
        have F_high_b17 : Fld Z h16 b17 "com/example/lean_crowd/leancrowd/geometry/Span" "high" "D" (.double 0) := Db17 (Or.inr (O.2.2.2.2.2.2.2.2.1 _ (mw 19 rfl))) (ty := .double) (by decide)
        have F_holdsHigh_b17 : Fld Z h16 b17 "com/example/lean_crowd/leancrowd/geometry/Span" "holdsHigh" "Z" (.int (0 : Int32)) := Db17 (Or.inr (O.2.2.2.2.2.2.2.2.1 _ (mw 21 rfl))) (ty := .boolean) (by decide)
        refine w_dup O at_50 (pc' := 51) rfl rfl ?_
        refine w_dload O at_51 (pc' := 53) rfl rfl ?_
        refine w_iloadN O at_53 (pc' := 54) rfl rfl ?_
        refine w_dload O at_54 (pc' := 56) rfl rfl ?_
        refine w_iload O at_56 (pc' := 58) rfl rfl ?_
        refine w_init O at_58 (as := [(.double lo), (.int (0 : Int32)), (.double hi), (.int (1 : Int32))]) (st := [(.ref b17)]) (wt := 1) (cl' := 1) (sl' := 4) (pc' := 61) rfl rfl (mw 3 rfl) (mw 4 rfl) (mw 2 rfl) (mw 5 rfl) (by decide) (con_span l Z a0 hw b17 lo (0 : Int32) hi (1 : Int32) h16 n0 E_b17 F_low_b17 F_holdsLow_b17 F_high_b17 F_holdsHigh_b17 g_b17 (by decide) (by decide)) rfl pd_1 rfl rfl rfl (by decide) (by decide) rfl rfl (by decide) (by decide) (cV fun h18 Sh18 => ?_)
        refine w_astore O at_61 (L' := #[.val (.int u0), .val (.int u1), .val (.int u2), .val (.int (0 : Int32)), .val (.int (1 : Int32)), .val (.int bb), .val (.double lo), .second, .val (.double hi), .second, .val (.ref b17), .unset, .unset, .unset]) (pc' := 63) rfl rfl rfl ?_
        refine w_dload O at_63 (pc' := 65) rfl rfl ?_
        refine w_dload O at_65 (pc' := 67) rfl rfl ?_
        obtain ⟨m1, m2, m3, m4⟩ := own_mid u0 bb
        rw [← e_lo, ← e_hi] at m1 m2 m3 m4
        refine w_dadd O at_67 (pc' := 68) rfl m1 ?_
        refine w_ldc2D O at_68 (pc' := 71) rfl (mw 22 rfl) ?_
        refine w_ddiv O at_71 (pc' := 72) rfl m2 ?_
        refine w_dstoreG O at_72 (L' := fun zq => #[.val (.int u0), .val (.int u1), .val (.int u2), .val (.int (0 : Int32)), .val (.int (1 : Int32)), .val (.int bb), .val (.double lo), .second, .val (.double hi), .second, .val (.ref b17), .val (.double zq), .second, .unset]) (pc' := 74) rfl (fun _ => rfl) (fun mid e_mid => ?_)
        have n_mid : Nn mid := by rw [e_mid]; exact m3
        have hmid : 2 * zv mid = zv lo + zv hi := by rw [e_mid]; exact m4
        clear m1 m2 m3 m4
        refine w_dload O at_74 (pc' := 76) rfl rfl ?_
        refine w_iloadN O at_76 (pc' := 77) rfl rfl ?_
        refine w_dload O at_77 (pc' := 79) rfl rfl ?_
        refine w_iload O at_79 (pc' := 81) rfl rfl ?_
        refine w_dload O at_81 (pc' := 83) rfl rfl ?_
        refine w_static O at_83 (as := [(.double lo), (.int (0 : Int32)), (.double hi), (.int (1 : Int32)), (.double mid)]) (st := []) (wt := 0) (cl' := 1) (sl' := 4) (pc' := 86) rfl (mw 23 rfl) (mw 24 rfl) (mw 25 rfl) (mw 26 rfl) (by decide) (con_holds l Z a0 hw lo (0 : Int32) hi (1 : Int32) mid h18 n0 n_lo n_hi n_mid) rfl pd_2 rfl rfl rfl (by decide) (by decide) rfl rfl (by decide) (by decide) (cI fun t20 _ ⟨qt20, st20⟩ => ?_)
        rw [qt20]
        replace st20 : ((((¬ (0 : Int) = 0 ∧ zv lo ≤ zv mid) ∨ ((0 : Int) = 0 ∧ zv lo < zv mid)) ∧ ((¬ (1 : Int) = 0 ∧ zv mid ≤ zv hi) ∨ ((1 : Int) = 0 ∧ zv mid < zv hi))) ∧ t20.toInt = 1) ∨ (¬ (((¬ (0 : Int) = 0 ∧ zv lo ≤ zv mid) ∨ ((0 : Int) = 0 ∧ zv lo < zv mid)) ∧ ((¬ (1 : Int) = 0 ∧ zv mid ≤ zv hi) ∨ ((1 : Int) = 0 ∧ zv mid < zv hi))) ∧ t20.toInt = 0) := st20
        refine w_if_ne O at_86 (pn := 89) (pt := 119) rfl (by decide) rfl (fun c86 => ?_) (fun c86 => ?_)
        · replace c86 : ¬ t20.toInt = 0 := c86
          refine w_iconst O at_119 (z := (1 : Int32)) (pc' := 120) rfl rfl ?_
          refine w_goto O at_120 (pc' := 124) (by decide) rfl ?_
          refine w_istore O at_124 (L' := #[.val (.int u0), .val (.int u1), .val (.int u2), .val (.int (0 : Int32)), .val (.int (1 : Int32)), .val (.int bb), .val (.double lo), .second, .val (.double hi), .second, .val (.ref b17), .val (.double mid), .second, .val (.int (1 : Int32))]) (pc' := 126) rfl rfl ?_
          refine w_aload O at_126 (pc' := 128) rfl rfl rfl ?_
          refine w_virtual O at_128 (as := []) (st := []) (wt := 0) (cl' := 1) (sl' := 4) (pc' := 131) rfl (mw 27 rfl) (mw 28 rfl) (mw 30 rfl) (mw 29 rfl) (mw 31 rfl) (mw 2 rfl) (by decide) Sh18.1 (con_empty l Z a0 hw b17 lo hi (0 : Int32) (1 : Int32) h18 n0 Sh18 n_lo n_hi) rfl pd_3 rfl rfl rfl (by decide) (by decide) rfl rfl (by decide) (by decide) (cI fun re _ ⟨qre, sre⟩ => ?_)
          rw [qre]
          replace sre : ((zv hi < zv lo ∨ (zv lo = zv hi ∧ ((0 : Int) = 0 ∨ (1 : Int) = 0))) ∧ re.toInt = 1) ∨ (¬ (zv hi < zv lo ∨ (zv lo = zv hi ∧ ((0 : Int) = 0 ∨ (1 : Int) = 0))) ∧ re.toInt = 0) := sre
          refine w_iload O at_131 (pc' := 133) rfl rfl ?_
          refine w_if_ne O at_133 (pn := 136) (pt := 140) rfl (by decide) rfl (fun c133 => ?_) (fun q => absurd q (by decide))
          refine w_iconst O at_140 (z := (0 : Int32)) (pc' := 141) rfl rfl ?_
          have hne : re.toInt = 0 := by
            clear O
            omega
          refine w_icmp_ne O at_141 (pn := 144) (pt := 148) rfl (by decide) rfl (fun q => absurd hne q) (fun _ => ?_)
          refine w_iconst O at_144 (z := (1 : Int32)) (pc' := 145) rfl rfl ?_
          refine w_goto O at_145 (pc' := 149) (by decide) rfl ?_
          refine w_retz O at_149 (by decide) (by decide) (Or.inr rfl) ?_
          exact ⟨_, rfl, rfl⟩
        · replace c86 : t20.toInt = 0 := c86
          refine w_dload O at_89 (pc' := 91) rfl rfl ?_
          refine w_iloadN O at_91 (pc' := 92) rfl rfl ?_
          refine w_dload O at_92 (pc' := 94) rfl rfl ?_
          refine w_iload O at_94 (pc' := 96) rfl rfl ?_
          refine w_dload O at_96 (pc' := 98) rfl rfl ?_
          refine w_static O at_98 (as := [(.double lo), (.int (0 : Int32)), (.double hi), (.int (1 : Int32)), (.double lo)]) (st := []) (wt := 0) (cl' := 1) (sl' := 4) (pc' := 101) rfl (mw 23 rfl) (mw 24 rfl) (mw 25 rfl) (mw 26 rfl) (by decide) (con_holds l Z a0 hw lo (0 : Int32) hi (1 : Int32) lo h18 n0 n_lo n_hi n_lo) rfl pd_2 rfl rfl rfl (by decide) (by decide) rfl rfl (by decide) (by decide) (cI fun t21 _ ⟨qt21, st21⟩ => ?_)
          rw [qt21]
          replace st21 : ((((¬ (0 : Int) = 0 ∧ zv lo ≤ zv lo) ∨ ((0 : Int) = 0 ∧ zv lo < zv lo)) ∧ ((¬ (1 : Int) = 0 ∧ zv lo ≤ zv hi) ∨ ((1 : Int) = 0 ∧ zv lo < zv hi))) ∧ t21.toInt = 1) ∨ (¬ (((¬ (0 : Int) = 0 ∧ zv lo ≤ zv lo) ∨ ((0 : Int) = 0 ∧ zv lo < zv lo)) ∧ ((¬ (1 : Int) = 0 ∧ zv lo ≤ zv hi) ∨ ((1 : Int) = 0 ∧ zv lo < zv hi))) ∧ t21.toInt = 0) := st21
          refine w_if_ne O at_101 (pn := 104) (pt := 119) rfl (by decide) rfl (fun c101 => ?_) (fun c101 => ?_)
          · replace c101 : ¬ t21.toInt = 0 := c101
            refine w_iconst O at_119 (z := (1 : Int32)) (pc' := 120) rfl rfl ?_
            refine w_goto O at_120 (pc' := 124) (by decide) rfl ?_
            refine w_istore O at_124 (L' := #[.val (.int u0), .val (.int u1), .val (.int u2), .val (.int (0 : Int32)), .val (.int (1 : Int32)), .val (.int bb), .val (.double lo), .second, .val (.double hi), .second, .val (.ref b17), .val (.double mid), .second, .val (.int (1 : Int32))]) (pc' := 126) rfl rfl ?_
            refine w_aload O at_126 (pc' := 128) rfl rfl rfl ?_
            refine w_virtual O at_128 (as := []) (st := []) (wt := 0) (cl' := 1) (sl' := 4) (pc' := 131) rfl (mw 27 rfl) (mw 28 rfl) (mw 30 rfl) (mw 29 rfl) (mw 31 rfl) (mw 2 rfl) (by decide) Sh18.1 (con_empty l Z a0 hw b17 lo hi (0 : Int32) (1 : Int32) h18 n0 Sh18 n_lo n_hi) rfl pd_3 rfl rfl rfl (by decide) (by decide) rfl rfl (by decide) (by decide) (cI fun re _ ⟨qre, sre⟩ => ?_)
            rw [qre]
            replace sre : ((zv hi < zv lo ∨ (zv lo = zv hi ∧ ((0 : Int) = 0 ∨ (1 : Int) = 0))) ∧ re.toInt = 1) ∨ (¬ (zv hi < zv lo ∨ (zv lo = zv hi ∧ ((0 : Int) = 0 ∨ (1 : Int) = 0))) ∧ re.toInt = 0) := sre
            refine w_iload O at_131 (pc' := 133) rfl rfl ?_
            refine w_if_ne O at_133 (pn := 136) (pt := 140) rfl (by decide) rfl (fun c133 => ?_) (fun q => absurd q (by decide))
            refine w_iconst O at_140 (z := (0 : Int32)) (pc' := 141) rfl rfl ?_
            have hne : re.toInt = 0 := by
              clear O
              omega
            refine w_icmp_ne O at_141 (pn := 144) (pt := 148) rfl (by decide) rfl (fun q => absurd hne q) (fun _ => ?_)
            refine w_iconst O at_144 (z := (1 : Int32)) (pc' := 145) rfl rfl ?_
            refine w_goto O at_145 (pc' := 149) (by decide) rfl ?_
            refine w_retz O at_149 (by decide) (by decide) (Or.inr rfl) ?_
            exact ⟨_, rfl, rfl⟩
          · replace c101 : t21.toInt = 0 := c101
            refine w_dload O at_104 (pc' := 106) rfl rfl ?_
            refine w_iloadN O at_106 (pc' := 107) rfl rfl ?_
            refine w_dload O at_107 (pc' := 109) rfl rfl ?_
            refine w_iload O at_109 (pc' := 111) rfl rfl ?_
            refine w_dload O at_111 (pc' := 113) rfl rfl ?_
            refine w_static O at_113 (as := [(.double lo), (.int (0 : Int32)), (.double hi), (.int (1 : Int32)), (.double hi)]) (st := []) (wt := 0) (cl' := 1) (sl' := 4) (pc' := 116) rfl (mw 23 rfl) (mw 24 rfl) (mw 25 rfl) (mw 26 rfl) (by decide) (con_holds l Z a0 hw lo (0 : Int32) hi (1 : Int32) hi h18 n0 n_lo n_hi n_hi) rfl pd_2 rfl rfl rfl (by decide) (by decide) rfl rfl (by decide) (by decide) (cI fun t22 _ ⟨qt22, st22⟩ => ?_)
            rw [qt22]
            replace st22 : ((((¬ (0 : Int) = 0 ∧ zv lo ≤ zv hi) ∨ ((0 : Int) = 0 ∧ zv lo < zv hi)) ∧ ((¬ (1 : Int) = 0 ∧ zv hi ≤ zv hi) ∨ ((1 : Int) = 0 ∧ zv hi < zv hi))) ∧ t22.toInt = 1) ∨ (¬ (((¬ (0 : Int) = 0 ∧ zv lo ≤ zv hi) ∨ ((0 : Int) = 0 ∧ zv lo < zv hi)) ∧ ((¬ (1 : Int) = 0 ∧ zv hi ≤ zv hi) ∨ ((1 : Int) = 0 ∧ zv hi < zv hi))) ∧ t22.toInt = 0) := st22
            refine w_if_eq O at_116 (pn := 119) (pt := 123) rfl (by decide) rfl (fun c116 => ?_) (fun c116 => ?_)
            · replace c116 : t22.toInt = 0 := c116
              refine w_iconst O at_123 (z := (0 : Int32)) (pc' := 124) rfl rfl ?_
              refine w_istore O at_124 (L' := #[.val (.int u0), .val (.int u1), .val (.int u2), .val (.int (0 : Int32)), .val (.int (1 : Int32)), .val (.int bb), .val (.double lo), .second, .val (.double hi), .second, .val (.ref b17), .val (.double mid), .second, .val (.int (0 : Int32))]) (pc' := 126) rfl rfl ?_
              refine w_aload O at_126 (pc' := 128) rfl rfl rfl ?_
              refine w_virtual O at_128 (as := []) (st := []) (wt := 0) (cl' := 1) (sl' := 4) (pc' := 131) rfl (mw 27 rfl) (mw 28 rfl) (mw 30 rfl) (mw 29 rfl) (mw 31 rfl) (mw 2 rfl) (by decide) Sh18.1 (con_empty l Z a0 hw b17 lo hi (0 : Int32) (1 : Int32) h18 n0 Sh18 n_lo n_hi) rfl pd_3 rfl rfl rfl (by decide) (by decide) rfl rfl (by decide) (by decide) (cI fun re _ ⟨qre, sre⟩ => ?_)
              rw [qre]
              replace sre : ((zv hi < zv lo ∨ (zv lo = zv hi ∧ ((0 : Int) = 0 ∨ (1 : Int) = 0))) ∧ re.toInt = 1) ∨ (¬ (zv hi < zv lo ∨ (zv lo = zv hi ∧ ((0 : Int) = 0 ∨ (1 : Int) = 0))) ∧ re.toInt = 0) := sre
              refine w_iload O at_131 (pc' := 133) rfl rfl ?_
              refine w_if_ne O at_133 (pn := 136) (pt := 140) rfl (by decide) rfl (fun q => absurd q (by decide)) (fun c133 => ?_)
              refine w_iconst O at_136 (z := (1 : Int32)) (pc' := 137) rfl rfl ?_
              refine w_goto O at_137 (pc' := 141) (by decide) rfl ?_
              have hne : re.toInt = 1 := by
                clear O
                omega
              refine w_icmp_ne O at_141 (pn := 144) (pt := 148) rfl (by decide) rfl (fun q => absurd hne q) (fun _ => ?_)
              refine w_iconst O at_144 (z := (1 : Int32)) (pc' := 145) rfl rfl ?_
              refine w_goto O at_145 (pc' := 149) (by decide) rfl ?_
              refine w_retz O at_149 (by decide) (by decide) (Or.inr rfl) ?_
              exact ⟨_, rfl, rfl⟩
            · replace c116 : ¬ t22.toInt = 0 := c116
              refine w_iconst O at_119 (z := (1 : Int32)) (pc' := 120) rfl rfl ?_
              refine w_goto O at_120 (pc' := 124) (by decide) rfl ?_
              refine w_istore O at_124 (L' := #[.val (.int u0), .val (.int u1), .val (.int u2), .val (.int (0 : Int32)), .val (.int (1 : Int32)), .val (.int bb), .val (.double lo), .second, .val (.double hi), .second, .val (.ref b17), .val (.double mid), .second, .val (.int (1 : Int32))]) (pc' := 126) rfl rfl ?_
              refine w_aload O at_126 (pc' := 128) rfl rfl rfl ?_
              refine w_virtual O at_128 (as := []) (st := []) (wt := 0) (cl' := 1) (sl' := 4) (pc' := 131) rfl (mw 27 rfl) (mw 28 rfl) (mw 30 rfl) (mw 29 rfl) (mw 31 rfl) (mw 2 rfl) (by decide) Sh18.1 (con_empty l Z a0 hw b17 lo hi (0 : Int32) (1 : Int32) h18 n0 Sh18 n_lo n_hi) rfl pd_3 rfl rfl rfl (by decide) (by decide) rfl rfl (by decide) (by decide) (cI fun re _ ⟨qre, sre⟩ => ?_)
              rw [qre]
              replace sre : ((zv hi < zv lo ∨ (zv lo = zv hi ∧ ((0 : Int) = 0 ∨ (1 : Int) = 0))) ∧ re.toInt = 1) ∨ (¬ (zv hi < zv lo ∨ (zv lo = zv hi ∧ ((0 : Int) = 0 ∨ (1 : Int) = 0))) ∧ re.toInt = 0) := sre
              refine w_iload O at_131 (pc' := 133) rfl rfl ?_
              refine w_if_ne O at_133 (pn := 136) (pt := 140) rfl (by decide) rfl (fun c133 => ?_) (fun q => absurd q (by decide))
              refine w_iconst O at_140 (z := (0 : Int32)) (pc' := 141) rfl rfl ?_
              have hne : re.toInt = 0 := by
                clear O
                omega
              refine w_icmp_ne O at_141 (pn := 144) (pt := 148) rfl (by decide) rfl (fun q => absurd hne q) (fun _ => ?_)
              refine w_iconst O at_144 (z := (1 : Int32)) (pc' := 145) rfl rfl ?_
              refine w_goto O at_145 (pc' := 149) (by decide) rfl ?_
              refine w_retz O at_149 (by decide) (by decide) (Or.inr rfl) ?_
              exact ⟨_, rfl, rfl⟩
      refine w_if_eq O at_28 (pn := 31) (pt := 35) rfl (by decide) rfl (fun c28 => ?_) (fun c28 => ?_)
      · replace c28 : (u2 &&& (4 : Int32)).toInt = 0 := c28
        refine w_iloadN O at_35 (pc' := 36) rfl rfl ?_
        exact J36 u1 (trivial)
      · replace c28 : ¬ (u2 &&& (4 : Int32)).toInt = 0 := c28
        refine w_iloadN O at_31 (pc' := 32) rfl rfl ?_
        refine w_goto O at_32 (pc' := 36) (by decide) rfl ?_
        exact J36 u0 (trivial)
  · replace c3 : ¬ (u2 &&& (1 : Int32)).toInt = 0 := c3
    refine w_iconst O at_6 (z := (1 : Int32)) (pc' := 7) rfl rfl ?_
    refine w_goto O at_7 (pc' := 11) (by decide) rfl ?_
    refine w_istoreN O at_11 (L' := #[.val (.int u0), .val (.int u1), .val (.int u2), .val (.int (1 : Int32)), .unset, .unset, .unset, .unset, .unset, .unset, .unset, .unset, .unset, .unset]) (pc' := 12) rfl rfl ?_
    refine w_iloadN O at_12 (pc' := 13) rfl rfl ?_
    refine w_iconst O at_13 (z := (2 : Int32)) (pc' := 14) rfl rfl ?_
    refine w_iand O at_14 (pc' := 15) rfl ?_
    have i23 : 0 ≤ (u2 &&& (2 : Int32)).toInt ∧ (u2 &&& (2 : Int32)).toInt ≤ 2 := c_and u2 (2 : Int32) (by decide)
    refine w_if_eq O at_15 (pn := 18) (pt := 22) rfl (by decide) rfl (fun c15 => ?_) (fun c15 => ?_)
    · replace c15 : (u2 &&& (2 : Int32)).toInt = 0 := c15
      refine w_iconst O at_22 (z := (0 : Int32)) (pc' := 23) rfl rfl ?_
      refine w_istore O at_23 (L' := #[.val (.int u0), .val (.int u1), .val (.int u2), .val (.int (1 : Int32)), .val (.int (0 : Int32)), .unset, .unset, .unset, .unset, .unset, .unset, .unset, .unset, .unset]) (pc' := 25) rfl rfl ?_
      refine w_iloadN O at_25 (pc' := 26) rfl rfl ?_
      refine w_iconst O at_26 (z := (4 : Int32)) (pc' := 27) rfl rfl ?_
      refine w_iand O at_27 (pc' := 28) rfl ?_
      have i24 : 0 ≤ (u2 &&& (4 : Int32)).toInt ∧ (u2 &&& (4 : Int32)).toInt ≤ 4 := c_and u2 (4 : Int32) (by decide)
      have J36 : ∀ (bb : Int32), True → W K h0 0 0 36 #[.val (.int u0), .val (.int u1), .val (.int u2), .val (.int (1 : Int32)), .val (.int (0 : Int32)), .unset, .unset, .unset, .unset, .unset, .unset, .unset, .unset, .unset] [(.int bb)] := by
        intro bb hJ36
        refine w_istore O at_36 (L' := #[.val (.int u0), .val (.int u1), .val (.int u2), .val (.int (1 : Int32)), .val (.int (0 : Int32)), .val (.int bb), .unset, .unset, .unset, .unset, .unset, .unset, .unset, .unset]) (pc' := 38) rfl rfl ?_
        refine w_iloadN O at_38 (pc' := 39) rfl rfl ?_
        refine w_i2d O at_39 (pc' := 40) rfl ?_
        refine w_dstoreG O at_40 (L' := fun zq => #[.val (.int u0), .val (.int u1), .val (.int u2), .val (.int (1 : Int32)), .val (.int (0 : Int32)), .val (.int bb), .val (.double zq), .second, .unset, .unset, .unset, .unset, .unset, .unset]) (pc' := 42) rfl (fun _ => rfl) (fun lo e_lo => ?_)
        have n_lo : Nn lo := by rw [e_lo]; exact nn_int (Jvm.FP.Core.i2d_int u0)
        refine w_iload O at_42 (pc' := 44) rfl rfl ?_
        refine w_i2d O at_44 (pc' := 45) rfl ?_
        refine w_dstoreG O at_45 (L' := fun zq => #[.val (.int u0), .val (.int u1), .val (.int u2), .val (.int (1 : Int32)), .val (.int (0 : Int32)), .val (.int bb), .val (.double lo), .second, .val (.double zq), .second, .unset, .unset, .unset, .unset]) (pc' := 47) rfl (fun _ => rfl) (fun hi e_hi => ?_)
        have n_hi : Nn hi := by rw [e_hi]; exact nn_int (Jvm.FP.Core.i2d_int bb)
        refine w_new O at_47 (cl' := 1) (sl' := 4) (pc' := 50) rfl (mw 0 rfl) (mw 1 rfl) (mw 2 rfl) rfl rfl (by decide) (by decide) (fun h27 b28 qb28 g_b28 Eh27 E_b28 Db28 => ?_)
        have F_low_b28 : Fld Z h27 b28 "com/example/lean_crowd/leancrowd/geometry/Span" "low" "D" (.double 0) := Db28 (Or.inr (O.2.2.2.2.2.2.2.2.1 _ (mw 15 rfl))) (ty := .double) (by decide)
        have F_holdsLow_b28 : Fld Z h27 b28 "com/example/lean_crowd/leancrowd/geometry/Span" "holdsLow" "Z" (.int (0 : Int32)) := Db28 (Or.inr (O.2.2.2.2.2.2.2.2.1 _ (mw 17 rfl))) (ty := .boolean) (by decide)
        have F_high_b28 : Fld Z h27 b28 "com/example/lean_crowd/leancrowd/geometry/Span" "high" "D" (.double 0) := Db28 (Or.inr (O.2.2.2.2.2.2.2.2.1 _ (mw 19 rfl))) (ty := .double) (by decide)
        have F_holdsHigh_b28 : Fld Z h27 b28 "com/example/lean_crowd/leancrowd/geometry/Span" "holdsHigh" "Z" (.int (0 : Int32)) := Db28 (Or.inr (O.2.2.2.2.2.2.2.2.1 _ (mw 21 rfl))) (ty := .boolean) (by decide)
        refine w_dup O at_50 (pc' := 51) rfl rfl ?_
        refine w_dload O at_51 (pc' := 53) rfl rfl ?_
        refine w_iloadN O at_53 (pc' := 54) rfl rfl ?_
        refine w_dload O at_54 (pc' := 56) rfl rfl ?_
        refine w_iload O at_56 (pc' := 58) rfl rfl ?_
        refine w_init O at_58 (as := [(.double lo), (.int (1 : Int32)), (.double hi), (.int (0 : Int32))]) (st := [(.ref b28)]) (wt := 1) (cl' := 1) (sl' := 4) (pc' := 61) rfl rfl (mw 3 rfl) (mw 4 rfl) (mw 2 rfl) (mw 5 rfl) (by decide) (con_span l Z a0 hw b28 lo (1 : Int32) hi (0 : Int32) h27 n0 E_b28 F_low_b28 F_holdsLow_b28 F_high_b28 F_holdsHigh_b28 g_b28 (by decide) (by decide)) rfl pd_1 rfl rfl rfl (by decide) (by decide) rfl rfl (by decide) (by decide) (cV fun h29 Sh29 => ?_)
        refine w_astore O at_61 (L' := #[.val (.int u0), .val (.int u1), .val (.int u2), .val (.int (1 : Int32)), .val (.int (0 : Int32)), .val (.int bb), .val (.double lo), .second, .val (.double hi), .second, .val (.ref b28), .unset, .unset, .unset]) (pc' := 63) rfl rfl rfl ?_
        refine w_dload O at_63 (pc' := 65) rfl rfl ?_
        refine w_dload O at_65 (pc' := 67) rfl rfl ?_
        obtain ⟨m1, m2, m3, m4⟩ := own_mid u0 bb
        rw [← e_lo, ← e_hi] at m1 m2 m3 m4
        refine w_dadd O at_67 (pc' := 68) rfl m1 ?_
        refine w_ldc2D O at_68 (pc' := 71) rfl (mw 22 rfl) ?_
        refine w_ddiv O at_71 (pc' := 72) rfl m2 ?_
        refine w_dstoreG O at_72 (L' := fun zq => #[.val (.int u0), .val (.int u1), .val (.int u2), .val (.int (1 : Int32)), .val (.int (0 : Int32)), .val (.int bb), .val (.double lo), .second, .val (.double hi), .second, .val (.ref b28), .val (.double zq), .second, .unset]) (pc' := 74) rfl (fun _ => rfl) (fun mid e_mid => ?_)
        have n_mid : Nn mid := by rw [e_mid]; exact m3
        have hmid : 2 * zv mid = zv lo + zv hi := by rw [e_mid]; exact m4
        clear m1 m2 m3 m4
        refine w_dload O at_74 (pc' := 76) rfl rfl ?_
        refine w_iloadN O at_76 (pc' := 77) rfl rfl ?_
        refine w_dload O at_77 (pc' := 79) rfl rfl ?_
        refine w_iload O at_79 (pc' := 81) rfl rfl ?_
        refine w_dload O at_81 (pc' := 83) rfl rfl ?_
        refine w_static O at_83 (as := [(.double lo), (.int (1 : Int32)), (.double hi), (.int (0 : Int32)), (.double mid)]) (st := []) (wt := 0) (cl' := 1) (sl' := 4) (pc' := 86) rfl (mw 23 rfl) (mw 24 rfl) (mw 25 rfl) (mw 26 rfl) (by decide) (con_holds l Z a0 hw lo (1 : Int32) hi (0 : Int32) mid h29 n0 n_lo n_hi n_mid) rfl pd_2 rfl rfl rfl (by decide) (by decide) rfl rfl (by decide) (by decide) (cI fun t31 _ ⟨qt31, st31⟩ => ?_)
        rw [qt31]
        replace st31 : ((((¬ (1 : Int) = 0 ∧ zv lo ≤ zv mid) ∨ ((1 : Int) = 0 ∧ zv lo < zv mid)) ∧ ((¬ (0 : Int) = 0 ∧ zv mid ≤ zv hi) ∨ ((0 : Int) = 0 ∧ zv mid < zv hi))) ∧ t31.toInt = 1) ∨ (¬ (((¬ (1 : Int) = 0 ∧ zv lo ≤ zv mid) ∨ ((1 : Int) = 0 ∧ zv lo < zv mid)) ∧ ((¬ (0 : Int) = 0 ∧ zv mid ≤ zv hi) ∨ ((0 : Int) = 0 ∧ zv mid < zv hi))) ∧ t31.toInt = 0) := st31
        refine w_if_ne O at_86 (pn := 89) (pt := 119) rfl (by decide) rfl (fun c86 => ?_) (fun c86 => ?_)
        · replace c86 : ¬ t31.toInt = 0 := c86
          refine w_iconst O at_119 (z := (1 : Int32)) (pc' := 120) rfl rfl ?_
          refine w_goto O at_120 (pc' := 124) (by decide) rfl ?_
          refine w_istore O at_124 (L' := #[.val (.int u0), .val (.int u1), .val (.int u2), .val (.int (1 : Int32)), .val (.int (0 : Int32)), .val (.int bb), .val (.double lo), .second, .val (.double hi), .second, .val (.ref b28), .val (.double mid), .second, .val (.int (1 : Int32))]) (pc' := 126) rfl rfl ?_
          refine w_aload O at_126 (pc' := 128) rfl rfl rfl ?_
          refine w_virtual O at_128 (as := []) (st := []) (wt := 0) (cl' := 1) (sl' := 4) (pc' := 131) rfl (mw 27 rfl) (mw 28 rfl) (mw 30 rfl) (mw 29 rfl) (mw 31 rfl) (mw 2 rfl) (by decide) Sh29.1 (con_empty l Z a0 hw b28 lo hi (1 : Int32) (0 : Int32) h29 n0 Sh29 n_lo n_hi) rfl pd_3 rfl rfl rfl (by decide) (by decide) rfl rfl (by decide) (by decide) (cI fun re _ ⟨qre, sre⟩ => ?_)
          rw [qre]
          replace sre : ((zv hi < zv lo ∨ (zv lo = zv hi ∧ ((1 : Int) = 0 ∨ (0 : Int) = 0))) ∧ re.toInt = 1) ∨ (¬ (zv hi < zv lo ∨ (zv lo = zv hi ∧ ((1 : Int) = 0 ∨ (0 : Int) = 0))) ∧ re.toInt = 0) := sre
          refine w_iload O at_131 (pc' := 133) rfl rfl ?_
          refine w_if_ne O at_133 (pn := 136) (pt := 140) rfl (by decide) rfl (fun c133 => ?_) (fun q => absurd q (by decide))
          refine w_iconst O at_140 (z := (0 : Int32)) (pc' := 141) rfl rfl ?_
          have hne : re.toInt = 0 := by
            clear O
            omega
          refine w_icmp_ne O at_141 (pn := 144) (pt := 148) rfl (by decide) rfl (fun q => absurd hne q) (fun _ => ?_)
          refine w_iconst O at_144 (z := (1 : Int32)) (pc' := 145) rfl rfl ?_
          refine w_goto O at_145 (pc' := 149) (by decide) rfl ?_
          refine w_retz O at_149 (by decide) (by decide) (Or.inr rfl) ?_
          exact ⟨_, rfl, rfl⟩
        · replace c86 : t31.toInt = 0 := c86
          refine w_dload O at_89 (pc' := 91) rfl rfl ?_
          refine w_iloadN O at_91 (pc' := 92) rfl rfl ?_
          refine w_dload O at_92 (pc' := 94) rfl rfl ?_
          refine w_iload O at_94 (pc' := 96) rfl rfl ?_
          refine w_dload O at_96 (pc' := 98) rfl rfl ?_
          refine w_static O at_98 (as := [(.double lo), (.int (1 : Int32)), (.double hi), (.int (0 : Int32)), (.double lo)]) (st := []) (wt := 0) (cl' := 1) (sl' := 4) (pc' := 101) rfl (mw 23 rfl) (mw 24 rfl) (mw 25 rfl) (mw 26 rfl) (by decide) (con_holds l Z a0 hw lo (1 : Int32) hi (0 : Int32) lo h29 n0 n_lo n_hi n_lo) rfl pd_2 rfl rfl rfl (by decide) (by decide) rfl rfl (by decide) (by decide) (cI fun t32 _ ⟨qt32, st32⟩ => ?_)
          rw [qt32]
          replace st32 : ((((¬ (1 : Int) = 0 ∧ zv lo ≤ zv lo) ∨ ((1 : Int) = 0 ∧ zv lo < zv lo)) ∧ ((¬ (0 : Int) = 0 ∧ zv lo ≤ zv hi) ∨ ((0 : Int) = 0 ∧ zv lo < zv hi))) ∧ t32.toInt = 1) ∨ (¬ (((¬ (1 : Int) = 0 ∧ zv lo ≤ zv lo) ∨ ((1 : Int) = 0 ∧ zv lo < zv lo)) ∧ ((¬ (0 : Int) = 0 ∧ zv lo ≤ zv hi) ∨ ((0 : Int) = 0 ∧ zv lo < zv hi))) ∧ t32.toInt = 0) := st32
          refine w_if_ne O at_101 (pn := 104) (pt := 119) rfl (by decide) rfl (fun c101 => ?_) (fun c101 => ?_)
          · replace c101 : ¬ t32.toInt = 0 := c101
            refine w_iconst O at_119 (z := (1 : Int32)) (pc' := 120) rfl rfl ?_
            refine w_goto O at_120 (pc' := 124) (by decide) rfl ?_
            refine w_istore O at_124 (L' := #[.val (.int u0), .val (.int u1), .val (.int u2), .val (.int (1 : Int32)), .val (.int (0 : Int32)), .val (.int bb), .val (.double lo), .second, .val (.double hi), .second, .val (.ref b28), .val (.double mid), .second, .val (.int (1 : Int32))]) (pc' := 126) rfl rfl ?_
            refine w_aload O at_126 (pc' := 128) rfl rfl rfl ?_
            refine w_virtual O at_128 (as := []) (st := []) (wt := 0) (cl' := 1) (sl' := 4) (pc' := 131) rfl (mw 27 rfl) (mw 28 rfl) (mw 30 rfl) (mw 29 rfl) (mw 31 rfl) (mw 2 rfl) (by decide) Sh29.1 (con_empty l Z a0 hw b28 lo hi (1 : Int32) (0 : Int32) h29 n0 Sh29 n_lo n_hi) rfl pd_3 rfl rfl rfl (by decide) (by decide) rfl rfl (by decide) (by decide) (cI fun re _ ⟨qre, sre⟩ => ?_)
            rw [qre]
            replace sre : ((zv hi < zv lo ∨ (zv lo = zv hi ∧ ((1 : Int) = 0 ∨ (0 : Int) = 0))) ∧ re.toInt = 1) ∨ (¬ (zv hi < zv lo ∨ (zv lo = zv hi ∧ ((1 : Int) = 0 ∨ (0 : Int) = 0))) ∧ re.toInt = 0) := sre
            refine w_iload O at_131 (pc' := 133) rfl rfl ?_
            refine w_if_ne O at_133 (pn := 136) (pt := 140) rfl (by decide) rfl (fun c133 => ?_) (fun q => absurd q (by decide))
            refine w_iconst O at_140 (z := (0 : Int32)) (pc' := 141) rfl rfl ?_
            have hne : re.toInt = 0 := by
              clear O
              omega
            refine w_icmp_ne O at_141 (pn := 144) (pt := 148) rfl (by decide) rfl (fun q => absurd hne q) (fun _ => ?_)
            refine w_iconst O at_144 (z := (1 : Int32)) (pc' := 145) rfl rfl ?_
            refine w_goto O at_145 (pc' := 149) (by decide) rfl ?_
            refine w_retz O at_149 (by decide) (by decide) (Or.inr rfl) ?_
            exact ⟨_, rfl, rfl⟩
          · replace c101 : t32.toInt = 0 := c101
            refine w_dload O at_104 (pc' := 106) rfl rfl ?_
            refine w_iloadN O at_106 (pc' := 107) rfl rfl ?_
            refine w_dload O at_107 (pc' := 109) rfl rfl ?_
            refine w_iload O at_109 (pc' := 111) rfl rfl ?_
            refine w_dload O at_111 (pc' := 113) rfl rfl ?_
            refine w_static O at_113 (as := [(.double lo), (.int (1 : Int32)), (.double hi), (.int (0 : Int32)), (.double hi)]) (st := []) (wt := 0) (cl' := 1) (sl' := 4) (pc' := 116) rfl (mw 23 rfl) (mw 24 rfl) (mw 25 rfl) (mw 26 rfl) (by decide) (con_holds l Z a0 hw lo (1 : Int32) hi (0 : Int32) hi h29 n0 n_lo n_hi n_hi) rfl pd_2 rfl rfl rfl (by decide) (by decide) rfl rfl (by decide) (by decide) (cI fun t33 _ ⟨qt33, st33⟩ => ?_)
            rw [qt33]
            replace st33 : ((((¬ (1 : Int) = 0 ∧ zv lo ≤ zv hi) ∨ ((1 : Int) = 0 ∧ zv lo < zv hi)) ∧ ((¬ (0 : Int) = 0 ∧ zv hi ≤ zv hi) ∨ ((0 : Int) = 0 ∧ zv hi < zv hi))) ∧ t33.toInt = 1) ∨ (¬ (((¬ (1 : Int) = 0 ∧ zv lo ≤ zv hi) ∨ ((1 : Int) = 0 ∧ zv lo < zv hi)) ∧ ((¬ (0 : Int) = 0 ∧ zv hi ≤ zv hi) ∨ ((0 : Int) = 0 ∧ zv hi < zv hi))) ∧ t33.toInt = 0) := st33
            refine w_if_eq O at_116 (pn := 119) (pt := 123) rfl (by decide) rfl (fun c116 => ?_) (fun c116 => ?_)
            · replace c116 : t33.toInt = 0 := c116
              refine w_iconst O at_123 (z := (0 : Int32)) (pc' := 124) rfl rfl ?_
              refine w_istore O at_124 (L' := #[.val (.int u0), .val (.int u1), .val (.int u2), .val (.int (1 : Int32)), .val (.int (0 : Int32)), .val (.int bb), .val (.double lo), .second, .val (.double hi), .second, .val (.ref b28), .val (.double mid), .second, .val (.int (0 : Int32))]) (pc' := 126) rfl rfl ?_
              refine w_aload O at_126 (pc' := 128) rfl rfl rfl ?_
              refine w_virtual O at_128 (as := []) (st := []) (wt := 0) (cl' := 1) (sl' := 4) (pc' := 131) rfl (mw 27 rfl) (mw 28 rfl) (mw 30 rfl) (mw 29 rfl) (mw 31 rfl) (mw 2 rfl) (by decide) Sh29.1 (con_empty l Z a0 hw b28 lo hi (1 : Int32) (0 : Int32) h29 n0 Sh29 n_lo n_hi) rfl pd_3 rfl rfl rfl (by decide) (by decide) rfl rfl (by decide) (by decide) (cI fun re _ ⟨qre, sre⟩ => ?_)
              rw [qre]
              replace sre : ((zv hi < zv lo ∨ (zv lo = zv hi ∧ ((1 : Int) = 0 ∨ (0 : Int) = 0))) ∧ re.toInt = 1) ∨ (¬ (zv hi < zv lo ∨ (zv lo = zv hi ∧ ((1 : Int) = 0 ∨ (0 : Int) = 0))) ∧ re.toInt = 0) := sre
              refine w_iload O at_131 (pc' := 133) rfl rfl ?_
              refine w_if_ne O at_133 (pn := 136) (pt := 140) rfl (by decide) rfl (fun q => absurd q (by decide)) (fun c133 => ?_)
              refine w_iconst O at_136 (z := (1 : Int32)) (pc' := 137) rfl rfl ?_
              refine w_goto O at_137 (pc' := 141) (by decide) rfl ?_
              have hne : re.toInt = 1 := by
                clear O
                omega
              refine w_icmp_ne O at_141 (pn := 144) (pt := 148) rfl (by decide) rfl (fun q => absurd hne q) (fun _ => ?_)
              refine w_iconst O at_144 (z := (1 : Int32)) (pc' := 145) rfl rfl ?_
              refine w_goto O at_145 (pc' := 149) (by decide) rfl ?_
              refine w_retz O at_149 (by decide) (by decide) (Or.inr rfl) ?_
              exact ⟨_, rfl, rfl⟩
            · replace c116 : ¬ t33.toInt = 0 := c116
              refine w_iconst O at_119 (z := (1 : Int32)) (pc' := 120) rfl rfl ?_
              refine w_goto O at_120 (pc' := 124) (by decide) rfl ?_
              refine w_istore O at_124 (L' := #[.val (.int u0), .val (.int u1), .val (.int u2), .val (.int (1 : Int32)), .val (.int (0 : Int32)), .val (.int bb), .val (.double lo), .second, .val (.double hi), .second, .val (.ref b28), .val (.double mid), .second, .val (.int (1 : Int32))]) (pc' := 126) rfl rfl ?_
              refine w_aload O at_126 (pc' := 128) rfl rfl rfl ?_
              refine w_virtual O at_128 (as := []) (st := []) (wt := 0) (cl' := 1) (sl' := 4) (pc' := 131) rfl (mw 27 rfl) (mw 28 rfl) (mw 30 rfl) (mw 29 rfl) (mw 31 rfl) (mw 2 rfl) (by decide) Sh29.1 (con_empty l Z a0 hw b28 lo hi (1 : Int32) (0 : Int32) h29 n0 Sh29 n_lo n_hi) rfl pd_3 rfl rfl rfl (by decide) (by decide) rfl rfl (by decide) (by decide) (cI fun re _ ⟨qre, sre⟩ => ?_)
              rw [qre]
              replace sre : ((zv hi < zv lo ∨ (zv lo = zv hi ∧ ((1 : Int) = 0 ∨ (0 : Int) = 0))) ∧ re.toInt = 1) ∨ (¬ (zv hi < zv lo ∨ (zv lo = zv hi ∧ ((1 : Int) = 0 ∨ (0 : Int) = 0))) ∧ re.toInt = 0) := sre
              refine w_iload O at_131 (pc' := 133) rfl rfl ?_
              refine w_if_ne O at_133 (pn := 136) (pt := 140) rfl (by decide) rfl (fun c133 => ?_) (fun q => absurd q (by decide))
              refine w_iconst O at_140 (z := (0 : Int32)) (pc' := 141) rfl rfl ?_
              have hne : re.toInt = 0 := by
                clear O
                omega
              refine w_icmp_ne O at_141 (pn := 144) (pt := 148) rfl (by decide) rfl (fun q => absurd hne q) (fun _ => ?_)
              refine w_iconst O at_144 (z := (1 : Int32)) (pc' := 145) rfl rfl ?_
              refine w_goto O at_145 (pc' := 149) (by decide) rfl ?_
              refine w_retz O at_149 (by decide) (by decide) (Or.inr rfl) ?_
              exact ⟨_, rfl, rfl⟩
      refine w_if_eq O at_28 (pn := 31) (pt := 35) rfl (by decide) rfl (fun c28 => ?_) (fun c28 => ?_)
      · replace c28 : (u2 &&& (4 : Int32)).toInt = 0 := c28
        refine w_iloadN O at_35 (pc' := 36) rfl rfl ?_
        exact J36 u1 (trivial)
      · replace c28 : ¬ (u2 &&& (4 : Int32)).toInt = 0 := c28
        refine w_iloadN O at_31 (pc' := 32) rfl rfl ?_
        refine w_goto O at_32 (pc' := 36) (by decide) rfl ?_
        exact J36 u0 (trivial)
    · replace c15 : ¬ (u2 &&& (2 : Int32)).toInt = 0 := c15
      refine w_iconst O at_18 (z := (1 : Int32)) (pc' := 19) rfl rfl ?_
      refine w_goto O at_19 (pc' := 23) (by decide) rfl ?_
      refine w_istore O at_23 (L' := #[.val (.int u0), .val (.int u1), .val (.int u2), .val (.int (1 : Int32)), .val (.int (1 : Int32)), .unset, .unset, .unset, .unset, .unset, .unset, .unset, .unset, .unset]) (pc' := 25) rfl rfl ?_
      refine w_iloadN O at_25 (pc' := 26) rfl rfl ?_
      refine w_iconst O at_26 (z := (4 : Int32)) (pc' := 27) rfl rfl ?_
      refine w_iand O at_27 (pc' := 28) rfl ?_
      have i34 : 0 ≤ (u2 &&& (4 : Int32)).toInt ∧ (u2 &&& (4 : Int32)).toInt ≤ 4 := c_and u2 (4 : Int32) (by decide)
      have J36 : ∀ (bb : Int32), True → W K h0 0 0 36 #[.val (.int u0), .val (.int u1), .val (.int u2), .val (.int (1 : Int32)), .val (.int (1 : Int32)), .unset, .unset, .unset, .unset, .unset, .unset, .unset, .unset, .unset] [(.int bb)] := by
        intro bb hJ36
        refine w_istore O at_36 (L' := #[.val (.int u0), .val (.int u1), .val (.int u2), .val (.int (1 : Int32)), .val (.int (1 : Int32)), .val (.int bb), .unset, .unset, .unset, .unset, .unset, .unset, .unset, .unset]) (pc' := 38) rfl rfl ?_
        refine w_iloadN O at_38 (pc' := 39) rfl rfl ?_
        refine w_i2d O at_39 (pc' := 40) rfl ?_
        refine w_dstoreG O at_40 (L' := fun zq => #[.val (.int u0), .val (.int u1), .val (.int u2), .val (.int (1 : Int32)), .val (.int (1 : Int32)), .val (.int bb), .val (.double zq), .second, .unset, .unset, .unset, .unset, .unset, .unset]) (pc' := 42) rfl (fun _ => rfl) (fun lo e_lo => ?_)
        have n_lo : Nn lo := by rw [e_lo]; exact nn_int (Jvm.FP.Core.i2d_int u0)
        refine w_iload O at_42 (pc' := 44) rfl rfl ?_
        refine w_i2d O at_44 (pc' := 45) rfl ?_
        refine w_dstoreG O at_45 (L' := fun zq => #[.val (.int u0), .val (.int u1), .val (.int u2), .val (.int (1 : Int32)), .val (.int (1 : Int32)), .val (.int bb), .val (.double lo), .second, .val (.double zq), .second, .unset, .unset, .unset, .unset]) (pc' := 47) rfl (fun _ => rfl) (fun hi e_hi => ?_)
        have n_hi : Nn hi := by rw [e_hi]; exact nn_int (Jvm.FP.Core.i2d_int bb)
        refine w_new O at_47 (cl' := 1) (sl' := 4) (pc' := 50) rfl (mw 0 rfl) (mw 1 rfl) (mw 2 rfl) rfl rfl (by decide) (by decide) (fun h37 b38 qb38 g_b38 Eh37 E_b38 Db38 => ?_)
        have F_low_b38 : Fld Z h37 b38 "com/example/lean_crowd/leancrowd/geometry/Span" "low" "D" (.double 0) := Db38 (Or.inr (O.2.2.2.2.2.2.2.2.1 _ (mw 15 rfl))) (ty := .double) (by decide)
        have F_holdsLow_b38 : Fld Z h37 b38 "com/example/lean_crowd/leancrowd/geometry/Span" "holdsLow" "Z" (.int (0 : Int32)) := Db38 (Or.inr (O.2.2.2.2.2.2.2.2.1 _ (mw 17 rfl))) (ty := .boolean) (by decide)
        have F_high_b38 : Fld Z h37 b38 "com/example/lean_crowd/leancrowd/geometry/Span" "high" "D" (.double 0) := Db38 (Or.inr (O.2.2.2.2.2.2.2.2.1 _ (mw 19 rfl))) (ty := .double) (by decide)
        have F_holdsHigh_b38 : Fld Z h37 b38 "com/example/lean_crowd/leancrowd/geometry/Span" "holdsHigh" "Z" (.int (0 : Int32)) := Db38 (Or.inr (O.2.2.2.2.2.2.2.2.1 _ (mw 21 rfl))) (ty := .boolean) (by decide)
        refine w_dup O at_50 (pc' := 51) rfl rfl ?_
        refine w_dload O at_51 (pc' := 53) rfl rfl ?_
        refine w_iloadN O at_53 (pc' := 54) rfl rfl ?_
        refine w_dload O at_54 (pc' := 56) rfl rfl ?_
        refine w_iload O at_56 (pc' := 58) rfl rfl ?_
        refine w_init O at_58 (as := [(.double lo), (.int (1 : Int32)), (.double hi), (.int (1 : Int32))]) (st := [(.ref b38)]) (wt := 1) (cl' := 1) (sl' := 4) (pc' := 61) rfl rfl (mw 3 rfl) (mw 4 rfl) (mw 2 rfl) (mw 5 rfl) (by decide) (con_span l Z a0 hw b38 lo (1 : Int32) hi (1 : Int32) h37 n0 E_b38 F_low_b38 F_holdsLow_b38 F_high_b38 F_holdsHigh_b38 g_b38 (by decide) (by decide)) rfl pd_1 rfl rfl rfl (by decide) (by decide) rfl rfl (by decide) (by decide) (cV fun h39 Sh39 => ?_)
        refine w_astore O at_61 (L' := #[.val (.int u0), .val (.int u1), .val (.int u2), .val (.int (1 : Int32)), .val (.int (1 : Int32)), .val (.int bb), .val (.double lo), .second, .val (.double hi), .second, .val (.ref b38), .unset, .unset, .unset]) (pc' := 63) rfl rfl rfl ?_
        refine w_dload O at_63 (pc' := 65) rfl rfl ?_
        refine w_dload O at_65 (pc' := 67) rfl rfl ?_
        obtain ⟨m1, m2, m3, m4⟩ := own_mid u0 bb
        rw [← e_lo, ← e_hi] at m1 m2 m3 m4
        refine w_dadd O at_67 (pc' := 68) rfl m1 ?_
        refine w_ldc2D O at_68 (pc' := 71) rfl (mw 22 rfl) ?_
        refine w_ddiv O at_71 (pc' := 72) rfl m2 ?_
        refine w_dstoreG O at_72 (L' := fun zq => #[.val (.int u0), .val (.int u1), .val (.int u2), .val (.int (1 : Int32)), .val (.int (1 : Int32)), .val (.int bb), .val (.double lo), .second, .val (.double hi), .second, .val (.ref b38), .val (.double zq), .second, .unset]) (pc' := 74) rfl (fun _ => rfl) (fun mid e_mid => ?_)
        have n_mid : Nn mid := by rw [e_mid]; exact m3
        have hmid : 2 * zv mid = zv lo + zv hi := by rw [e_mid]; exact m4
        clear m1 m2 m3 m4
        refine w_dload O at_74 (pc' := 76) rfl rfl ?_
        refine w_iloadN O at_76 (pc' := 77) rfl rfl ?_
        refine w_dload O at_77 (pc' := 79) rfl rfl ?_
        refine w_iload O at_79 (pc' := 81) rfl rfl ?_
        refine w_dload O at_81 (pc' := 83) rfl rfl ?_
        refine w_static O at_83 (as := [(.double lo), (.int (1 : Int32)), (.double hi), (.int (1 : Int32)), (.double mid)]) (st := []) (wt := 0) (cl' := 1) (sl' := 4) (pc' := 86) rfl (mw 23 rfl) (mw 24 rfl) (mw 25 rfl) (mw 26 rfl) (by decide) (con_holds l Z a0 hw lo (1 : Int32) hi (1 : Int32) mid h39 n0 n_lo n_hi n_mid) rfl pd_2 rfl rfl rfl (by decide) (by decide) rfl rfl (by decide) (by decide) (cI fun t41 _ ⟨qt41, st41⟩ => ?_)
        rw [qt41]
        replace st41 : ((((¬ (1 : Int) = 0 ∧ zv lo ≤ zv mid) ∨ ((1 : Int) = 0 ∧ zv lo < zv mid)) ∧ ((¬ (1 : Int) = 0 ∧ zv mid ≤ zv hi) ∨ ((1 : Int) = 0 ∧ zv mid < zv hi))) ∧ t41.toInt = 1) ∨ (¬ (((¬ (1 : Int) = 0 ∧ zv lo ≤ zv mid) ∨ ((1 : Int) = 0 ∧ zv lo < zv mid)) ∧ ((¬ (1 : Int) = 0 ∧ zv mid ≤ zv hi) ∨ ((1 : Int) = 0 ∧ zv mid < zv hi))) ∧ t41.toInt = 0) := st41
        refine w_if_ne O at_86 (pn := 89) (pt := 119) rfl (by decide) rfl (fun c86 => ?_) (fun c86 => ?_)
        · replace c86 : ¬ t41.toInt = 0 := c86
          refine w_iconst O at_119 (z := (1 : Int32)) (pc' := 120) rfl rfl ?_
          refine w_goto O at_120 (pc' := 124) (by decide) rfl ?_
          refine w_istore O at_124 (L' := #[.val (.int u0), .val (.int u1), .val (.int u2), .val (.int (1 : Int32)), .val (.int (1 : Int32)), .val (.int bb), .val (.double lo), .second, .val (.double hi), .second, .val (.ref b38), .val (.double mid), .second, .val (.int (1 : Int32))]) (pc' := 126) rfl rfl ?_
          refine w_aload O at_126 (pc' := 128) rfl rfl rfl ?_
          refine w_virtual O at_128 (as := []) (st := []) (wt := 0) (cl' := 1) (sl' := 4) (pc' := 131) rfl (mw 27 rfl) (mw 28 rfl) (mw 30 rfl) (mw 29 rfl) (mw 31 rfl) (mw 2 rfl) (by decide) Sh39.1 (con_empty l Z a0 hw b38 lo hi (1 : Int32) (1 : Int32) h39 n0 Sh39 n_lo n_hi) rfl pd_3 rfl rfl rfl (by decide) (by decide) rfl rfl (by decide) (by decide) (cI fun re _ ⟨qre, sre⟩ => ?_)
          rw [qre]
          replace sre : ((zv hi < zv lo ∨ (zv lo = zv hi ∧ ((1 : Int) = 0 ∨ (1 : Int) = 0))) ∧ re.toInt = 1) ∨ (¬ (zv hi < zv lo ∨ (zv lo = zv hi ∧ ((1 : Int) = 0 ∨ (1 : Int) = 0))) ∧ re.toInt = 0) := sre
          refine w_iload O at_131 (pc' := 133) rfl rfl ?_
          refine w_if_ne O at_133 (pn := 136) (pt := 140) rfl (by decide) rfl (fun c133 => ?_) (fun q => absurd q (by decide))
          refine w_iconst O at_140 (z := (0 : Int32)) (pc' := 141) rfl rfl ?_
          have hne : re.toInt = 0 := by
            clear O
            omega
          refine w_icmp_ne O at_141 (pn := 144) (pt := 148) rfl (by decide) rfl (fun q => absurd hne q) (fun _ => ?_)
          refine w_iconst O at_144 (z := (1 : Int32)) (pc' := 145) rfl rfl ?_
          refine w_goto O at_145 (pc' := 149) (by decide) rfl ?_
          refine w_retz O at_149 (by decide) (by decide) (Or.inr rfl) ?_
          exact ⟨_, rfl, rfl⟩
        · replace c86 : t41.toInt = 0 := c86
          refine w_dload O at_89 (pc' := 91) rfl rfl ?_
          refine w_iloadN O at_91 (pc' := 92) rfl rfl ?_
          refine w_dload O at_92 (pc' := 94) rfl rfl ?_
          refine w_iload O at_94 (pc' := 96) rfl rfl ?_
          refine w_dload O at_96 (pc' := 98) rfl rfl ?_
          refine w_static O at_98 (as := [(.double lo), (.int (1 : Int32)), (.double hi), (.int (1 : Int32)), (.double lo)]) (st := []) (wt := 0) (cl' := 1) (sl' := 4) (pc' := 101) rfl (mw 23 rfl) (mw 24 rfl) (mw 25 rfl) (mw 26 rfl) (by decide) (con_holds l Z a0 hw lo (1 : Int32) hi (1 : Int32) lo h39 n0 n_lo n_hi n_lo) rfl pd_2 rfl rfl rfl (by decide) (by decide) rfl rfl (by decide) (by decide) (cI fun t42 _ ⟨qt42, st42⟩ => ?_)
          rw [qt42]
          replace st42 : ((((¬ (1 : Int) = 0 ∧ zv lo ≤ zv lo) ∨ ((1 : Int) = 0 ∧ zv lo < zv lo)) ∧ ((¬ (1 : Int) = 0 ∧ zv lo ≤ zv hi) ∨ ((1 : Int) = 0 ∧ zv lo < zv hi))) ∧ t42.toInt = 1) ∨ (¬ (((¬ (1 : Int) = 0 ∧ zv lo ≤ zv lo) ∨ ((1 : Int) = 0 ∧ zv lo < zv lo)) ∧ ((¬ (1 : Int) = 0 ∧ zv lo ≤ zv hi) ∨ ((1 : Int) = 0 ∧ zv lo < zv hi))) ∧ t42.toInt = 0) := st42
          refine w_if_ne O at_101 (pn := 104) (pt := 119) rfl (by decide) rfl (fun c101 => ?_) (fun c101 => ?_)
          · replace c101 : ¬ t42.toInt = 0 := c101
            refine w_iconst O at_119 (z := (1 : Int32)) (pc' := 120) rfl rfl ?_
            refine w_goto O at_120 (pc' := 124) (by decide) rfl ?_
            refine w_istore O at_124 (L' := #[.val (.int u0), .val (.int u1), .val (.int u2), .val (.int (1 : Int32)), .val (.int (1 : Int32)), .val (.int bb), .val (.double lo), .second, .val (.double hi), .second, .val (.ref b38), .val (.double mid), .second, .val (.int (1 : Int32))]) (pc' := 126) rfl rfl ?_
            refine w_aload O at_126 (pc' := 128) rfl rfl rfl ?_
            refine w_virtual O at_128 (as := []) (st := []) (wt := 0) (cl' := 1) (sl' := 4) (pc' := 131) rfl (mw 27 rfl) (mw 28 rfl) (mw 30 rfl) (mw 29 rfl) (mw 31 rfl) (mw 2 rfl) (by decide) Sh39.1 (con_empty l Z a0 hw b38 lo hi (1 : Int32) (1 : Int32) h39 n0 Sh39 n_lo n_hi) rfl pd_3 rfl rfl rfl (by decide) (by decide) rfl rfl (by decide) (by decide) (cI fun re _ ⟨qre, sre⟩ => ?_)
            rw [qre]
            replace sre : ((zv hi < zv lo ∨ (zv lo = zv hi ∧ ((1 : Int) = 0 ∨ (1 : Int) = 0))) ∧ re.toInt = 1) ∨ (¬ (zv hi < zv lo ∨ (zv lo = zv hi ∧ ((1 : Int) = 0 ∨ (1 : Int) = 0))) ∧ re.toInt = 0) := sre
            refine w_iload O at_131 (pc' := 133) rfl rfl ?_
            refine w_if_ne O at_133 (pn := 136) (pt := 140) rfl (by decide) rfl (fun c133 => ?_) (fun q => absurd q (by decide))
            refine w_iconst O at_140 (z := (0 : Int32)) (pc' := 141) rfl rfl ?_
            have hne : re.toInt = 0 := by
              clear O
              omega
            refine w_icmp_ne O at_141 (pn := 144) (pt := 148) rfl (by decide) rfl (fun q => absurd hne q) (fun _ => ?_)
            refine w_iconst O at_144 (z := (1 : Int32)) (pc' := 145) rfl rfl ?_
            refine w_goto O at_145 (pc' := 149) (by decide) rfl ?_
            refine w_retz O at_149 (by decide) (by decide) (Or.inr rfl) ?_
            exact ⟨_, rfl, rfl⟩
          · replace c101 : t42.toInt = 0 := c101
            refine w_dload O at_104 (pc' := 106) rfl rfl ?_
            refine w_iloadN O at_106 (pc' := 107) rfl rfl ?_
            refine w_dload O at_107 (pc' := 109) rfl rfl ?_
            refine w_iload O at_109 (pc' := 111) rfl rfl ?_
            refine w_dload O at_111 (pc' := 113) rfl rfl ?_
            refine w_static O at_113 (as := [(.double lo), (.int (1 : Int32)), (.double hi), (.int (1 : Int32)), (.double hi)]) (st := []) (wt := 0) (cl' := 1) (sl' := 4) (pc' := 116) rfl (mw 23 rfl) (mw 24 rfl) (mw 25 rfl) (mw 26 rfl) (by decide) (con_holds l Z a0 hw lo (1 : Int32) hi (1 : Int32) hi h39 n0 n_lo n_hi n_hi) rfl pd_2 rfl rfl rfl (by decide) (by decide) rfl rfl (by decide) (by decide) (cI fun t43 _ ⟨qt43, st43⟩ => ?_)
            rw [qt43]
            replace st43 : ((((¬ (1 : Int) = 0 ∧ zv lo ≤ zv hi) ∨ ((1 : Int) = 0 ∧ zv lo < zv hi)) ∧ ((¬ (1 : Int) = 0 ∧ zv hi ≤ zv hi) ∨ ((1 : Int) = 0 ∧ zv hi < zv hi))) ∧ t43.toInt = 1) ∨ (¬ (((¬ (1 : Int) = 0 ∧ zv lo ≤ zv hi) ∨ ((1 : Int) = 0 ∧ zv lo < zv hi)) ∧ ((¬ (1 : Int) = 0 ∧ zv hi ≤ zv hi) ∨ ((1 : Int) = 0 ∧ zv hi < zv hi))) ∧ t43.toInt = 0) := st43
            refine w_if_eq O at_116 (pn := 119) (pt := 123) rfl (by decide) rfl (fun c116 => ?_) (fun c116 => ?_)
            · replace c116 : t43.toInt = 0 := c116
              refine w_iconst O at_123 (z := (0 : Int32)) (pc' := 124) rfl rfl ?_
              refine w_istore O at_124 (L' := #[.val (.int u0), .val (.int u1), .val (.int u2), .val (.int (1 : Int32)), .val (.int (1 : Int32)), .val (.int bb), .val (.double lo), .second, .val (.double hi), .second, .val (.ref b38), .val (.double mid), .second, .val (.int (0 : Int32))]) (pc' := 126) rfl rfl ?_
              refine w_aload O at_126 (pc' := 128) rfl rfl rfl ?_
              refine w_virtual O at_128 (as := []) (st := []) (wt := 0) (cl' := 1) (sl' := 4) (pc' := 131) rfl (mw 27 rfl) (mw 28 rfl) (mw 30 rfl) (mw 29 rfl) (mw 31 rfl) (mw 2 rfl) (by decide) Sh39.1 (con_empty l Z a0 hw b38 lo hi (1 : Int32) (1 : Int32) h39 n0 Sh39 n_lo n_hi) rfl pd_3 rfl rfl rfl (by decide) (by decide) rfl rfl (by decide) (by decide) (cI fun re _ ⟨qre, sre⟩ => ?_)
              rw [qre]
              replace sre : ((zv hi < zv lo ∨ (zv lo = zv hi ∧ ((1 : Int) = 0 ∨ (1 : Int) = 0))) ∧ re.toInt = 1) ∨ (¬ (zv hi < zv lo ∨ (zv lo = zv hi ∧ ((1 : Int) = 0 ∨ (1 : Int) = 0))) ∧ re.toInt = 0) := sre
              refine w_iload O at_131 (pc' := 133) rfl rfl ?_
              refine w_if_ne O at_133 (pn := 136) (pt := 140) rfl (by decide) rfl (fun q => absurd q (by decide)) (fun c133 => ?_)
              refine w_iconst O at_136 (z := (1 : Int32)) (pc' := 137) rfl rfl ?_
              refine w_goto O at_137 (pc' := 141) (by decide) rfl ?_
              have hne : re.toInt = 1 := by
                clear O
                omega
              refine w_icmp_ne O at_141 (pn := 144) (pt := 148) rfl (by decide) rfl (fun q => absurd hne q) (fun _ => ?_)
              refine w_iconst O at_144 (z := (1 : Int32)) (pc' := 145) rfl rfl ?_
              refine w_goto O at_145 (pc' := 149) (by decide) rfl ?_
              refine w_retz O at_149 (by decide) (by decide) (Or.inr rfl) ?_
              exact ⟨_, rfl, rfl⟩
            · replace c116 : ¬ t43.toInt = 0 := c116
              refine w_iconst O at_119 (z := (1 : Int32)) (pc' := 120) rfl rfl ?_
              refine w_goto O at_120 (pc' := 124) (by decide) rfl ?_
              refine w_istore O at_124 (L' := #[.val (.int u0), .val (.int u1), .val (.int u2), .val (.int (1 : Int32)), .val (.int (1 : Int32)), .val (.int bb), .val (.double lo), .second, .val (.double hi), .second, .val (.ref b38), .val (.double mid), .second, .val (.int (1 : Int32))]) (pc' := 126) rfl rfl ?_
              refine w_aload O at_126 (pc' := 128) rfl rfl rfl ?_
              refine w_virtual O at_128 (as := []) (st := []) (wt := 0) (cl' := 1) (sl' := 4) (pc' := 131) rfl (mw 27 rfl) (mw 28 rfl) (mw 30 rfl) (mw 29 rfl) (mw 31 rfl) (mw 2 rfl) (by decide) Sh39.1 (con_empty l Z a0 hw b38 lo hi (1 : Int32) (1 : Int32) h39 n0 Sh39 n_lo n_hi) rfl pd_3 rfl rfl rfl (by decide) (by decide) rfl rfl (by decide) (by decide) (cI fun re _ ⟨qre, sre⟩ => ?_)
              rw [qre]
              replace sre : ((zv hi < zv lo ∨ (zv lo = zv hi ∧ ((1 : Int) = 0 ∨ (1 : Int) = 0))) ∧ re.toInt = 1) ∨ (¬ (zv hi < zv lo ∨ (zv lo = zv hi ∧ ((1 : Int) = 0 ∨ (1 : Int) = 0))) ∧ re.toInt = 0) := sre
              refine w_iload O at_131 (pc' := 133) rfl rfl ?_
              refine w_if_ne O at_133 (pn := 136) (pt := 140) rfl (by decide) rfl (fun c133 => ?_) (fun q => absurd q (by decide))
              refine w_iconst O at_140 (z := (0 : Int32)) (pc' := 141) rfl rfl ?_
              have hne : re.toInt = 0 := by
                clear O
                omega
              refine w_icmp_ne O at_141 (pn := 144) (pt := 148) rfl (by decide) rfl (fun q => absurd hne q) (fun _ => ?_)
              refine w_iconst O at_144 (z := (1 : Int32)) (pc' := 145) rfl rfl ?_
              refine w_goto O at_145 (pc' := 149) (by decide) rfl ?_
              refine w_retz O at_149 (by decide) (by decide) (Or.inr rfl) ?_
              exact ⟨_, rfl, rfl⟩
      refine w_if_eq O at_28 (pn := 31) (pt := 35) rfl (by decide) rfl (fun c28 => ?_) (fun c28 => ?_)
      · replace c28 : (u2 &&& (4 : Int32)).toInt = 0 := c28
        refine w_iloadN O at_35 (pc' := 36) rfl rfl ?_
        exact J36 u1 (trivial)
      · replace c28 : ¬ (u2 &&& (4 : Int32)).toInt = 0 := c28
        refine w_iloadN O at_31 (pc' := 32) rfl rfl ?_
        refine w_goto O at_32 (pc' := 36) (by decide) rfl ?_
        exact J36 u0 (trivial)
set_option maxRecDepth 65536 in
set_option maxHeartbeats 40000000 in
theorem comes_1 {Post : Tables → Env → Array Value → State → Outcome → State → Prop} (hpost : ∀ tb e args s v u, (limb_1_1.after args s (.returned v) u = true ∧ limb_1_2.after args s (.returned v) u = true ∧ True) → FrameEnd s (.returned v) u (Jvm.fieldLocs frame_1_writes args s ++ Jvm.arrayLocs frame_1_arrays args s ++ Jvm.staticLocs frame_1_statics s) 16 128 → Post tb e args s (.returned v) u) :
    ArmFor flags0 classFile x code maxLocals ret World_1 tables_1 room_1 Calls_1 rest_1 Pre_1 Post := by
  intro l hfl _ _ p e ha hc hk s m args below hf hA hF happ hP
  obtain ⟨hcalls, hrest, hpre⟩ := hP
  obtain ⟨-, -, -, hnamed, -, -, -, hat⟩ := (Spec.applies_iff hf).mp happ
  obtain ⟨hg, hn⟩ := and_e (Cond.before_iff.mp (show (Jvm.Cond.and given_1 narrow_1).before args s = true from hpre))
  obtain ⟨g1, g2⟩ := and_e hg
  obtain ⟨g3, g4⟩ := and_e g2
  obtain ⟨g5, g6⟩ := and_e g4
  obtain ⟨w0, w1, w2, rfl⟩ : ∃ w0 w1 w2 : Value, args = #[w0, w1, w2] := by
    have hs : args.size = 3 := by simpa [Cond.value, given_1] using g1
    obtain ⟨L⟩ := args
    match L, hs with
    | [w0, w1, w2], _ => exact ⟨w0, w1, w2, rfl⟩
  have hw := fun d (hd : d ∈ tables_1) => atoms_spec (ws := Jvm.Cond.code x code maxLocals ret :: tables_1) hat d (List.mem_cons_of_mem _ hd)
  have hfit : Fit s := fun {y c} hc i hi => by
    obtain ⟨ha, rfl⟩ := Array.getElem?_eq_some_iff.mp hc
    have q := List.all_eq_true.mp ((Array.all_eq_true_iff_forall_mem.mp hF) _ (Array.getElem_mem ha)) i (List.mem_range.mpr hi)
    simpa [Array.getElem?_eq_getElem hi] using q
  obtain ⟨i0, ei0⟩ := is_v g3
  obtain rfl : w0 = (.int i0) := Option.some.inj ei0
  obtain ⟨i1, ei1⟩ := is_v g5
  obtain rfl : w1 = (.int i1) := Option.some.inj ei1
  obtain ⟨i2, ei2⟩ := is_v g6
  obtain rfl : w2 = (.int i2) := Option.some.inj ei2
  obtain ⟨n, o, h1, h2, h3, _, L, rfl, ⟨⟨r, rfl, rfl⟩, N⟩, hq⟩ := (law_con l s _ hw i0 i1 i2 s.heap s.heap.size) (Nat.le_refl _) tables_1 p e ha hc hk s m _ below hf ((Spec.applies_iff_loose hf).mp happ).1 ⟨rfl, State.Warmed39.refl s, rfl⟩ trivial
  refine ⟨n, _, h1, h2, h3, hpost _ _ _ _ _ _ ⟨Cond.after_iff.mpr rfl, Cond.after_iff.mpr (eq_i res_at (Term.int_eval (1)) rfl), trivial⟩ ⟨hq.1, hq.2.1, (hq.2.2.sift fun y hy => Or.inr (N y hy)).mono (by decide) (by decide)⟩⟩
theorem main_1_1 : Claimed_1_1 := comes_1 fun _ _ _ _ _ _ h hF => ⟨h.1, hF⟩
theorem main_1_2 : Claimed_1_2 := comes_1 fun _ _ _ _ _ _ h hF => ⟨h.2.1, hF⟩
end Jvm.Pilot.@@N@@
namespace Jvm.Pilot.@@N@@
open Jvm Jvm.ClassFile Sem Op Lib Jvm.Free Jvm.Stand Jvm.Pilot.@@N@@.Jvm.D
/-! MADE BY PROGRAM (witnessworld.py) out of the Statement's table words and the real class files: 10 classes; the members and pool entries that the words name. The judged class is class 1, her method 2. -/
namespace start1
open Jvm.ClassFile
def u (s : String) : CpInfo := .utf8 (stringToUtf16 s)
/-- a pool by its gaps: so many unusable entries, then the entry; so many at the end -/
def gap : Nat → List CpInfo → List CpInfo
  | 0, r => r
  | n + 1, r => .unusable :: gap n r
def poolList (es : List (Nat × CpInfo)) (last : Nat) : List CpInfo := es.foldr (fun e r => gap e.1 (e.2 :: r)) (gap last [])
def pool (es : List (Nat × CpInfo)) (last : Nat) : Array CpInfo := ⟨poolList es last⟩
def fileOf (pool : Array CpInfo) (this : Nat) (attrs : Array Attribute := #[]) (ms : Array MethodInfo := #[]) (fl : Nat := 33) (sup : Nat := 0) (ifs : Array Nat := #[]) (fds : Array FieldInfo := #[]) : ClassFile where
  minorVersion := 0
  majorVersion := 65
  constantPool := pool
  accessFlags := fl
  thisClass := this
  superClass := sup
  interfaces := ifs
  fields := fds
  methods := ms
  attributes := attrs
def plain (name : String) (sup : Option ClassId) : Class where
  name := name
  kind := .ordinary
  loader := none
  accessFlags := 33
  super := sup
  interfaces := #[]
  cf := none
  fields := #[]
  methods := #[]
  instanceTypes := #[]
  staticTypes := #[]
  resolved := #[]
  callSites := []
  init := .initialized
  statics := none
  mirror := none

def pool0 : Array CpInfo := pool [(5, u "<init>"), (0, u "()V"), (1, .class_ 10), (1, u "java/lang/Object")] 113

def k0c0 : Code := { maxStack := 0, maxLocals := 1, code := object_method_1_code, exceptionTable := #[], attributes := #[] }
def k0m0 : Method := { name := "<init>", desc := "()V", sig := { parameters := [], returnType := none }, accessFlags := 1, code := some k0c0 }
/-- java/lang/Object -/
def k0 : Class := { plain "java/lang/Object" none with
  accessFlags := 33
  interfaces := #[]
  cf := some (fileOf pool0 8 #[] #[{ accessFlags := 1, nameIndex := 5, descriptorIndex := 6, attributes := #[] }] 33 0 #[] #[])
  fields := #[]
  methods := #[k0m0]
  instanceTypes := #[]
  staticTypes := #[]
  resolved := Array.replicate 124 none
  statics := none }

def pool1 : Array CpInfo := pool [(2, .class_ 4), (1, u "java/lang/Object"), (0, u "<init>"), (0, u "()V"), (0, .class_ 8), (0, u "com/example/lean_crowd/leancrowd/geometry/Span"), (0, .methodref 7 10), (0, .nameAndType 5 11), (0, u "(DZDZ)V"), (0, .double 4611686018427387904), (1, .methodref 15 16), (0, .class_ 17), (0, .nameAndType 18 19), (0, u "com/example/lean_crowd/leancrowd/geometry/SpanIsEmptyPinLaw"), (0, u "holds"), (0, u "(DZDZD)Z"), (0, .methodref 7 21), (0, .nameAndType 22 23), (0, u "isEmpty"), (0, u "()Z"), (3, u "law"), (0, u "(III)Z")] 2

def k1m0 : Method := { name := "<init>", desc := "()V", sig := { parameters := [], returnType := none }, accessFlags := 1, code := none }
def k1c1 : Code := { maxStack := 4, maxLocals := 10, code := method_2_code, exceptionTable := #[], attributes := #[] }
def k1m1 : Method := { name := "holds", desc := "(DZDZD)Z", sig := { parameters := [.double, .boolean, .double, .boolean, .double], returnType := some .boolean }, accessFlags := 10, code := some k1c1 }
def k1c2 : Code := { maxStack := 8, maxLocals := 14, code := code, exceptionTable := #[], attributes := #[] }
def k1m2 : Method := { name := "law", desc := "(III)Z", sig := { parameters := [.int, .int, .int], returnType := some .boolean }, accessFlags := 9, code := some k1c2 }
/-- com/example/lean_crowd/leancrowd/geometry/SpanIsEmptyPinLaw -/
def k1 : Class := { plain "com/example/lean_crowd/leancrowd/geometry/SpanIsEmptyPinLaw" (some 0) with
  accessFlags := 49
  interfaces := #[]
  cf := some (fileOf pool1 15 #[] #[{ accessFlags := 1, nameIndex := 5, descriptorIndex := 6, attributes := #[] }, { accessFlags := 10, nameIndex := 18, descriptorIndex := 19, attributes := #[] }, { accessFlags := 9, nameIndex := 27, descriptorIndex := 28, attributes := #[] }] 49 2 #[] #[])
  fields := #[]
  methods := #[k1m0, k1m1, k1m2]
  instanceTypes := #[]
  staticTypes := #[]
  resolved := Array.replicate 31 none
  statics := none }

def pool2 : Array CpInfo := pool [(1, .methodref 2 3), (0, .class_ 4), (0, .nameAndType 5 6), (0, u "java/lang/Object"), (0, u "<init>"), (0, u "()V"), (0, .class_ 8), (0, u "java/lang/Record")] 13

def k2c0 : Code := { maxStack := 1, maxLocals := 1, code := jdk_30_method_1_code, exceptionTable := #[], attributes := #[] }
def k2m0 : Method := { name := "<init>", desc := "()V", sig := { parameters := [], returnType := none }, accessFlags := 4, code := some k2c0 }
/-- java/lang/Record -/
def k2 : Class := { plain "java/lang/Record" (some 0) with
  accessFlags := 1057
  interfaces := #[]
  cf := some (fileOf pool2 7 #[] #[{ accessFlags := 4, nameIndex := 5, descriptorIndex := 6, attributes := #[] }] 1057 2 #[] #[])
  fields := #[]
  methods := #[k2m0]
  instanceTypes := #[]
  staticTypes := #[]
  resolved := Array.replicate 22 none
  statics := none }

def pool3 : Array CpInfo := pool [(1, .methodref 2 3), (0, .class_ 4), (0, .nameAndType 5 6), (0, u "java/lang/Record"), (0, u "<init>"), (0, u "()V"), (0, .fieldref 8 9), (0, .class_ 10), (0, .nameAndType 11 12), (0, u "com/example/lean_crowd/leancrowd/geometry/Span"), (0, u "low"), (0, u "D"), (0, .fieldref 8 14), (0, .nameAndType 15 16), (0, u "holdsLow"), (0, u "Z"), (0, .fieldref 8 18), (0, .nameAndType 19 12), (0, u "high"), (0, .fieldref 8 21), (0, .nameAndType 22 16), (0, u "holdsHigh"), (2, u "(DZDZ)V"), (2, u "ALL"), (0, u "Lcom/example/lean_crowd/leancrowd/geometry/Span;"), (2, u "NONE"), (29, u "SEGMENT"), (8, u "isEmpty"), (0, u "()Z")] 28

def k3c0 : Code := { maxStack := 3, maxLocals := 7, code := prog_37_method_1_code, exceptionTable := #[], attributes := #[] }
def k3m0 : Method := { name := "<init>", desc := "(DZDZ)V", sig := { parameters := [.double, .boolean, .double, .boolean], returnType := none }, accessFlags := 0, code := some k3c0 }
def k3c1 : Code := { maxStack := 4, maxLocals := 1, code := prog_37_method_4_code, exceptionTable := #[], attributes := #[] }
def k3m1 : Method := { name := "isEmpty", desc := "()Z", sig := { parameters := [], returnType := some .boolean }, accessFlags := 0, code := some k3c1 }
/-- com/example/lean_crowd/leancrowd/geometry/Span -/
def k3 : Class := { plain "com/example/lean_crowd/leancrowd/geometry/Span" (some 2) with
  accessFlags := 48
  interfaces := #[]
  cf := some (fileOf pool3 8 #[] #[{ accessFlags := 0, nameIndex := 5, descriptorIndex := 25, attributes := #[] }, { accessFlags := 0, nameIndex := 71, descriptorIndex := 72, attributes := #[] }] 48 2 #[] #[{ accessFlags := 18, nameIndex := 11, descriptorIndex := 12, attributes := #[] }, { accessFlags := 18, nameIndex := 15, descriptorIndex := 16, attributes := #[] }, { accessFlags := 18, nameIndex := 19, descriptorIndex := 12, attributes := #[] }, { accessFlags := 18, nameIndex := 22, descriptorIndex := 16, attributes := #[] }, { accessFlags := 24, nameIndex := 28, descriptorIndex := 29, attributes := #[] }, { accessFlags := 24, nameIndex := 32, descriptorIndex := 29, attributes := #[] }, { accessFlags := 24, nameIndex := 62, descriptorIndex := 29, attributes := #[] }])
  fields := #[{ name := "low", type := .double, accessFlags := 18, slot := 0, constantValue := 0 }, { name := "holdsLow", type := .boolean, accessFlags := 18, slot := 1, constantValue := 0 }, { name := "high", type := .double, accessFlags := 18, slot := 2, constantValue := 0 }, { name := "holdsHigh", type := .boolean, accessFlags := 18, slot := 3, constantValue := 0 }, { name := "ALL", type := (.object "com/example/lean_crowd/leancrowd/geometry/Span"), accessFlags := 24, slot := 0, constantValue := 0 }, { name := "NONE", type := (.object "com/example/lean_crowd/leancrowd/geometry/Span"), accessFlags := 24, slot := 1, constantValue := 0 }, { name := "SEGMENT", type := (.object "com/example/lean_crowd/leancrowd/geometry/Span"), accessFlags := 24, slot := 2, constantValue := 0 }]
  methods := #[k3m0, k3m1]
  instanceTypes := #[.double, .boolean, .double, .boolean]
  staticTypes := #[(.object "com/example/lean_crowd/leancrowd/geometry/Span"), (.object "com/example/lean_crowd/leancrowd/geometry/Span"), (.object "com/example/lean_crowd/leancrowd/geometry/Span")]
  resolved := Array.replicate 101 none
  statics := none }

def pool4 : Array CpInfo := pool [(1, u "java/lang/Cloneable"), (0, .class_ 1), (0, u "java/lang/Object"), (0, .class_ 3)] 3

/-- java/lang/Cloneable -/
def k4 : Class := { plain "java/lang/Cloneable" (some 0) with
  accessFlags := 1537
  interfaces := #[]
  cf := some (fileOf pool4 2 #[] #[] 1537 4 #[] #[])
  fields := #[]
  methods := #[]
  instanceTypes := #[]
  staticTypes := #[]
  resolved := Array.replicate 8 none
  statics := none }

def pool5 : Array CpInfo := pool [(1, u "java/io/Serializable"), (0, .class_ 1), (0, u "java/lang/Object"), (0, .class_ 3)] 3

/-- java/io/Serializable -/
def k5 : Class := { plain "java/io/Serializable" (some 0) with
  accessFlags := 1537
  interfaces := #[]
  cf := some (fileOf pool5 2 #[] #[] 1537 4 #[] #[])
  fields := #[]
  methods := #[]
  instanceTypes := #[]
  staticTypes := #[]
  resolved := Array.replicate 8 none
  statics := none }

/-- the primitive byte -/
def k6 : Class := { plain "byte" none with kind := .primitive 'B', accessFlags := 0x411 }
/-- [B -/
def k7 : Class := { plain "[B" (some 0) with kind := .array 6 .byte, interfaces := #[4, 5], accessFlags := 1041 }

/-- the primitive int -/
def k8 : Class := { plain "int" none with kind := .primitive 'I', accessFlags := 0x411 }
/-- [I -/
def k9 : Class := { plain "[I" (some 0) with kind := .array 8 .int, interfaces := #[4, 5], accessFlags := 1041 }

def heap : Heap := #[]
def classes : Array Class := #[k0, k1, k2, k3, k4, k5, k6, k7, k8, k9]
def interned : List (Array UInt16 × Addr) := []
def slotsUsed : Nat := 0
def theMethod : MethodId := ⟨1, 2⟩
def args0 : Array Value := #[.int 7, .int 100, .int 5]
def aboutOver (below : List Frame) : State where
  vm := { classes := classes, interned := interned.toArray }
  heap := heap
  slotsUsed := slotsUsed
  threads := #[{ frames := .invoking theMethod args0 :: below }]
def below0 : List Frame := [.native { method := ⟨0, 0⟩, args := #[] }]
def about1 : State := aboutOver below0
def p0 : Program := .bare "" "" ""
def e0 : Env := launch0.env 0 0 0
theorem w_frames : about1.frames = Frame.invoking theMethod args0 :: below0 := rfl
set_option maxRecDepth 65536 in
theorem w_args : argsFit about1.vm theMethod args0 = true := by decide +kernel
set_option maxRecDepth 65536 in
theorem w_heap : heapFits about1 = true := by decide +kernel
set_option maxRecDepth 65536 in
theorem w_runnable : about1.curStatus? = some .runnable := by decide +kernel
set_option maxRecDepth 65536 in
theorem w_alone : about1.alone = true := by decide +kernel
set_option maxRecDepth 65536 in
theorem w_named : about1.methodNamed? x = some theMethod := by decide +kernel
set_option maxRecDepth 65536 in
theorem w_hears : about1.hears theMethod below0 = true := by decide +kernel
set_option maxRecDepth 65536 in
theorem w_ripe : about1.ripe theMethod args0 below0 = true := by decide +kernel
theorem w_running : about1.status = .running := rfl
set_option maxRecDepth 65536 in
theorem w_room : about1.hasRoom e0.platform room_1 = true :=
  launch0.hasRoom_least _ room_1 (by decide +kernel) (by decide +kernel) (by decide +kernel) (by decide +kernel) (by decide +kernel) (by decide +kernel)
theorem allAtoms_all (ts : List Jvm.Cond) (a : Array Jvm.Value) (st : Jvm.State) : (allAtoms ts).before a st = ts.all (fun c => c.before a st) := by
  induction ts with
  | nil => rfl
  | cons c t ih =>
    show (Jvm.Cond.and c (allAtoms t)).before a st = _
    rw [Jvm.Cond.before_and, ih, List.all_cons]
def words1 : List Jvm.Cond := Jvm.Cond.code x code maxLocals ret :: tables_1
/-- a 'code' word, met by the world's own term for the bytes: nothing is compared byte by byte -/
theorem code_word {y : MethodName} {bytes : ByteArray} {mx : Nat} {rt : Option FieldType} {a : Array Value} {s : State} {m : MethodId} {meth : Method} {c : Code} (h1 : s.methodNamed? y = some m) (h2 : s.vm.method? m = some meth) (h3 : meth.code = some c) (h4 : c.code = bytes)
    (h5 : (c.maxLocals == mx && c.exceptionTable.isEmpty && decide (c.maxStack ≤ mostOperands) && decide (meth.sig.returnType = rt) && !meth.locks && decide (parseMethodDescriptor y.desc = some meth.sig)) = true) : (Jvm.Cond.code y bytes mx rt).before a s = true := by
  simp only [Bool.and_eq_true, beq_iff_eq, Bool.not_eq_true', decide_eq_true_eq] at h5
  obtain ⟨⟨⟨⟨⟨g1, g2⟩, g3⟩, g4⟩, g5⟩, g6⟩ := h5
  simp [Cond.before, Cond.holds, Cond.value, h1, h2, h3, h4, g1, g2, g3, g4, g5, g6]
def isCode : Jvm.Cond → Bool
  | .code _ _ _ _ => true
  | _ => false
theorem all_split {L : List Jvm.Cond} {P : Jvm.Cond → Bool} (h1 : L.all (fun c => isCode c || P c) = true) (h2 : ∀ c ∈ L.filter isCode, P c = true) : L.all P = true := by
  refine List.all_eq_true.mpr fun c hc => ?_
  have h := List.all_eq_true.mp h1 c hc
  rcases Bool.eq_false_or_eq_true (isCode c) with hi | hi
  · exact h2 c (List.mem_filter.mpr ⟨hc, hi⟩)
  · simpa [hi] using h
set_option maxRecDepth 65536 in
theorem w_c0 : (Jvm.Cond.code x code maxLocals ret).before args0 about1 = true := code_word (m := ⟨1, 2⟩) (meth := k1m2) (c := k1c2) (by decide +kernel) rfl rfl rfl (by decide +kernel)
set_option maxRecDepth 65536 in
theorem w_c1 : (Jvm.Cond.code ({ cls := "com/example/lean_crowd/leancrowd/geometry/Span", name := "<init>", desc := "(DZDZ)V" } : Jvm.MethodName) prog_37_method_1_code (7 : Nat) (Option.none : Option Jvm.ClassFile.FieldType)).before args0 about1 = true := code_word (m := ⟨3, 0⟩) (meth := k3m0) (c := k3c0) (by decide +kernel) rfl rfl rfl (by decide +kernel)
set_option maxRecDepth 65536 in
theorem w_c2 : (Jvm.Cond.code ({ cls := "java/lang/Record", name := "<init>", desc := "()V" } : Jvm.MethodName) jdk_30_method_1_code (1 : Nat) (Option.none : Option Jvm.ClassFile.FieldType)).before args0 about1 = true := code_word (m := ⟨2, 0⟩) (meth := k2m0) (c := k2c0) (by decide +kernel) rfl rfl rfl (by decide +kernel)
set_option maxRecDepth 65536 in
theorem w_c3 : (Jvm.Cond.code ({ cls := "java/lang/Object", name := "<init>", desc := "()V" } : Jvm.MethodName) object_method_1_code (1 : Nat) (Option.none : Option Jvm.ClassFile.FieldType)).before args0 about1 = true := code_word (m := ⟨0, 0⟩) (meth := k0m0) (c := k0c0) (by decide +kernel) rfl rfl rfl (by decide +kernel)
set_option maxRecDepth 65536 in
theorem w_c4 : (Jvm.Cond.code ({ cls := "com/example/lean_crowd/leancrowd/geometry/SpanIsEmptyPinLaw", name := "holds", desc := "(DZDZD)Z" } : Jvm.MethodName) method_2_code (10 : Nat) (Option.some Jvm.ClassFile.FieldType.boolean)).before args0 about1 = true := code_word (m := ⟨1, 1⟩) (meth := k1m1) (c := k1c1) (by decide +kernel) rfl rfl rfl (by decide +kernel)
set_option maxRecDepth 65536 in
theorem w_c5 : (Jvm.Cond.code ({ cls := "com/example/lean_crowd/leancrowd/geometry/Span", name := "isEmpty", desc := "()Z" } : Jvm.MethodName) prog_37_method_4_code (1 : Nat) (Option.some Jvm.ClassFile.FieldType.boolean)).before args0 about1 = true := code_word (m := ⟨3, 1⟩) (meth := k3m1) (c := k3c1) (by decide +kernel) rfl rfl rfl (by decide +kernel)
def codes1 : List Jvm.Cond := [Jvm.Cond.code x code maxLocals ret, Jvm.Cond.code ({ cls := "com/example/lean_crowd/leancrowd/geometry/Span", name := "<init>", desc := "(DZDZ)V" } : Jvm.MethodName) prog_37_method_1_code (7 : Nat) (Option.none : Option Jvm.ClassFile.FieldType), Jvm.Cond.code ({ cls := "java/lang/Record", name := "<init>", desc := "()V" } : Jvm.MethodName) jdk_30_method_1_code (1 : Nat) (Option.none : Option Jvm.ClassFile.FieldType), Jvm.Cond.code ({ cls := "java/lang/Object", name := "<init>", desc := "()V" } : Jvm.MethodName) object_method_1_code (1 : Nat) (Option.none : Option Jvm.ClassFile.FieldType), Jvm.Cond.code ({ cls := "com/example/lean_crowd/leancrowd/geometry/SpanIsEmptyPinLaw", name := "holds", desc := "(DZDZD)Z" } : Jvm.MethodName) method_2_code (10 : Nat) (Option.some Jvm.ClassFile.FieldType.boolean), Jvm.Cond.code ({ cls := "com/example/lean_crowd/leancrowd/geometry/Span", name := "isEmpty", desc := "()Z" } : Jvm.MethodName) prog_37_method_4_code (1 : Nat) (Option.some Jvm.ClassFile.FieldType.boolean)]
set_option maxRecDepth 65536 in
theorem codes_eq : words1.filter isCode = codes1 := rfl
theorem w_codes : ∀ c ∈ words1.filter isCode, c.before args0 about1 = true := by
  rw [codes_eq]
  intro c hc
  simp only [codes1, List.mem_cons, List.not_mem_nil, or_false] at hc
  rcases hc with rfl | rfl | rfl | rfl | rfl | rfl
  · exact w_c0
  · exact w_c1
  · exact w_c2
  · exact w_c3
  · exact w_c4
  · exact w_c5
set_option maxRecDepth 65536 in
theorem w_t1 : (words1.take 24).all (fun c => isCode c || c.before args0 about1) = true := by decide +kernel
set_option maxRecDepth 65536 in
theorem w_t2 : (words1.drop 24).all (fun c => isCode c || c.before args0 about1) = true := by decide +kernel
theorem w_tables : (allAtoms (Jvm.Cond.code x code maxLocals ret :: tables_1)).before args0 about1 = true := by
  rw [allAtoms_all]
  show words1.all (fun c => c.before args0 about1) = true
  refine all_split ?_ w_codes
  rw [← List.take_append_drop 24 words1, List.all_append, w_t1, w_t2]
  rfl
set_option maxRecDepth 65536 in
theorem w_case : (Jvm.Cond.and given_1 narrow_1).before args0 about1 = true := by decide +kernel
theorem w_applies : (headSpec (Jvm.Cond.code x code maxLocals ret :: tables_1) room_1).applies x e0.platform about1 = true :=
  (Spec.applies_iff w_frames).mpr ⟨w_running, w_runnable, w_alone, w_named, w_hears, w_ripe, w_room, w_tables⟩
theorem atStart : AtStart classFile x code maxLocals ret World_1 tables_1 room_1 Calls_1 rest_1 Pre_1 launch0 p0 e0 about1 theMethod args0 below0 :=
  ⟨lists_1, trivial, launch0.admits_env _ _ _, launch0.least_env, fairChoices_fair.cas, fairChoices_fair.clock, w_frames, w_args, w_heap, w_applies, trivial, trivial, w_case⟩
end start1
theorem witness_1 : WitnessClaimed_1 := ⟨start1.p0, start1.e0, start1.about1, start1.theMethod, start1.args0, start1.below0, start1.atStart⟩
end Jvm.Pilot.@@N@@
