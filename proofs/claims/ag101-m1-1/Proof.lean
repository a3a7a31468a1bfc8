import JvmDerived
import JvmDerived.Pilot.@@N@@Statement
import JvmDerived.Pilot.@@N@@Code
set_option linter.unusedVariables false
set_option linter.unusedSimpArgs false
namespace Jvm.Pilot.@@N@@
open Jvm Jvm.ClassFile Sem Op Lib Jvm.Free Jvm.Stand Jvm.LawKit Jvm.RoadKit Bundle Jvm.Pilot.@@N@@.Jvm.D

/-! ## OWN LAYER: weakest preconditions over the walk -/
abbrev Cx : Type := (Program × Launch × Env × Room) × (State × MethodId × Array Value × List Frame) × (Method × Code) × (Option Value → Heap → Prop) × Nat
abbrev Sd (K : Cx) (T : State) (locs : List Loc) (cells slots : Nat) : Prop := Stand K.1.1 K.1.2.1 K.1.2.2.1 K.1.2.2.2 K.2.1.1 K.2.1.2.1 K.2.1.2.2.1 K.2.1.2.2.2 K.2.2.1.1 K.2.2.1.2 T locs cells slots
abbrev Stp (K : Cx) (A B : State) : Prop := Steps K.1.1.tables K.1.2.2.1 K.2.1.2.2.2 A B
abbrev Tp (K : Cx) (T : State) (pc : Nat) (L : Array Slot) (st : List Value) : State := T.setTop (mkF K.2.1.2.1 pc L st)
/-- from every state that stands at pc with these locals, this stack and this heap the run ends as K says -/
def W (K : Cx) (h : Heap) (cells slots pc : Nat) (L : Array Slot) (st : List Value) : Prop :=
  ∀ T locs, Sd K T locs cells slots → T.heap = h → Fr K.2.2.2.2 locs →
    ∃ s₂ o, Stp K (Tp K T pc L st) s₂ ∧ s₂.status = .running ∧ Ended s₂ K.2.1.2.2.2 o ∧ ∃ v Ls, o = .returned v ∧ (K.2.2.2.1 v s₂.heap ∧ Fr K.2.2.2.2 Ls) ∧ FrameEnd K.2.1.1 o s₂ Ls K.1.2.2.2.cells K.1.2.2.2.slots
def Ok (K : Cx) (l : Launch) (Z : State) (a0 : Array Value) (ts : List Jvm.Cond) (B : ByteArray) (ml : Nat) (rt : Option FieldType) (own nm : String) (R : Room) (n0 : Nat) (Q : Option Value → Heap → Prop) : Prop :=
  K.1.1.tables.exec = Jvm.exec ∧ K.2.2.1.2.code = B ∧ K.2.2.1.2.maxLocals = ml ∧ K.2.1.1.vm.findClass own = some K.2.1.2.1.cls ∧ K.2.2.1.1.name = nm ∧ K.2.2.1.1.sig.returnType = rt ∧ K.2.2.1.1.locks = false ∧ Z.Warmed39 K.2.1.1.vm ∧ (∀ d ∈ ts, d.before a0 Z = true) ∧ n0 ≤ K.2.1.1.heap.size ∧ K.1.2.1 = l ∧ K.1.2.2.2 = R ∧ K.2.2.2.2 = n0 ∧ K.2.2.2.1 = Q
/-- a body's contract -/
def Con (l : Launch) (Z : State) (y : MethodName) (B : ByteArray) (ml : Nat) (rt : Option FieldType) (rm : Room) (as : List Value) (h : Heap) (n0 : Nat) (Q : Option Value → Heap → Prop) : Prop :=
  n0 ≤ h.size → ∀ ws, MetFree l y (head1 (Jvm.Cond.code y B ml rt :: ws) rm) (fun a U => a = as.toArray ∧ Z.Warmed39 U.vm ∧ U.heap = h) (fun _ _ _ _ _ => True) (fun _ U o U' => ∃ v L, o = .returned v ∧ (Q v U'.heap ∧ Fr n0 L) ∧ FrameEnd U o U' L rm.cells rm.slots)
def RetI (P : Int32 → Heap → Prop) (v : Option Value) (h : Heap) : Prop := ∃ r, v = some (.int r) ∧ P r h
def RetL (P : Int64 → Heap → Prop) (v : Option Value) (h : Heap) : Prop := ∃ r, v = some (.long r) ∧ P r h
def RetA (P : Value → Heap → Prop) (v : Option Value) (h : Heap) : Prop := ∃ r, v = some r ∧ r.isRef = true ∧ P r h
def RetV (P : Heap → Prop) (v : Option Value) (h : Heap) : Prop := v = none ∧ P h
section OwnW
variable {K : Cx} {l : Launch} {Z : State} {a0 : Array Value} {ts : List Jvm.Cond} {B : ByteArray} {ml : Nat} {rt : Option FieldType} {own nm : String} {R : Room} {n0 : Nat} {Q : Option Value → Heap → Prop} {h : Heap} {cl sl pc pc' : Nat} {L L' : Array Slot} {st st' : List Value}
theorem W.step (f : ∀ T locs, Sd K T locs cl sl → T.heap = h → ∀ t, Stp K (Tp K T pc' L' st') t → Stp K (Tp K T pc L st) t) (k : W K h cl sl pc' L' st') : W K h cl sl pc L st := fun T locs X e N => by
  obtain ⟨s2, o, h1, r⟩ := k T locs X e N
  exact ⟨s2, o, f T locs X e _ h1, r⟩
theorem W.stepT (f : ∀ T locs, Sd K T locs cl sl → T.heap = h → ∃ T', Sd K T' locs cl sl ∧ T'.heap = h ∧ ∀ t, Stp K (Tp K T' pc' L' st') t → Stp K (Tp K T pc L st) t) (k : W K h cl sl pc' L' st') : W K h cl sl pc L st := fun T locs X e N => by
  obtain ⟨T', X', e', g⟩ := f T locs X e
  obtain ⟨s2, o, h1, r⟩ := k T' locs X' e' N
  exact ⟨s2, o, g _ h1, r⟩
theorem W.stepW {a : Addr} {i : Nat} {v : Value} (f : ∀ T locs, Sd K T locs cl sl → T.heap = h → ∃ T' h', Sd K T' (locs ++ [⟨a, i⟩]) cl sl ∧ T'.heap = h' ∧ Wr h h' a i v ∧ ∀ t, Stp K (Tp K T' pc' L' st') t → Stp K (Tp K T pc L st) t) (ha : K.2.2.2.2 ≤ a) (k : ∀ h', Wr h h' a i v → W K h' cl sl pc' L' st') : W K h cl sl pc L st := fun T locs X e N => by
  obtain ⟨T', h', X', e', w, g⟩ := f T locs X e
  obtain ⟨s2, o, h1, r⟩ := k h' w T' _ X' e' (Fr.snoc X' N ha)
  exact ⟨s2, o, g _ h1, r⟩
theorem W.mono {cl' sl' : Nat} (hc : cl ≤ cl') (hs : sl ≤ sl') (k : W K h cl' sl' pc L st) : W K h cl sl pc L st := fun T locs X e N => k T locs (X.mono hc hs) e N
theorem Sd.size {T : State} {locs : List Loc} (X : Sd K T locs cl sl) : K.2.1.1.heap.size ≤ T.heap.size := X.same.2.1
theorem cI {cl' sl' : Nat} {P : Int32 → Heap → Prop} (k : ∀ r h', P r h' → W K h' cl' sl' pc' L (.int r :: st)) : ∀ v h', RetI P v h' → W K h' cl' sl' pc' L (v.toList ++ st) := by
  rintro _ h' ⟨r, rfl, hp⟩; exact k r h' hp
theorem cL {cl' sl' : Nat} {P : Int64 → Heap → Prop} (k : ∀ r h', P r h' → W K h' cl' sl' pc' L (.long r :: st)) : ∀ v h', RetL P v h' → W K h' cl' sl' pc' L (v.toList ++ st) := by
  rintro _ h' ⟨r, rfl, hp⟩; exact k r h' hp
theorem cA {cl' sl' : Nat} {P : Value → Heap → Prop} (k : ∀ r h', r.isRef = true → P r h' → W K h' cl' sl' pc' L (r :: st)) : ∀ v h', RetA P v h' → W K h' cl' sl' pc' L (v.toList ++ st) := by
  rintro _ h' ⟨r, rfl, hr, hp⟩; exact k r h' hr hp
theorem cV {cl' sl' : Nat} {P : Heap → Prop} (k : ∀ h', P h' → W K h' cl' sl' pc' L st) : ∀ v h', RetV P v h' → W K h' cl' sl' pc' L (v.toList ++ st) := by
  rintro _ h' ⟨rfl, hp⟩; exact k h' hp
theorem Con.weak {y : MethodName} {rm : Room} {as : List Value} {Q' : Option Value → Heap → Prop} (c : Con l Z y B ml rt rm as h n0 Q) (q : ∀ v h', Q v h' → Q' v h') : Con l Z y B ml rt rm as h n0 Q' := fun hn ws p e ha hc hk s m args below hf happ hP hK => by
  obtain ⟨n, o, h1, h2, h3, v, L, e1, ⟨h4, h5⟩, h6⟩ := c hn ws p e ha hc hk s m args below hf happ hP hK
  exact ⟨n, o, h1, h2, h3, v, L, e1, ⟨q _ _ h4, h5⟩, h6⟩
theorem Con.body {y : MethodName} {rm : Room} {as : List Value} {L0 : Array Slot} (hw : ∀ d ∈ ts, d.before a0 Z = true) (pn : plainFor y = true) (ef : ∀ m, entryFrame m as.toArray ml = mkF m 0 L0 [])
    (b : ∀ K, Ok K l Z a0 ts B ml rt y.cls y.name rm n0 Q → W K h 0 0 0 L0 []) : Con l Z y B ml rt rm as h n0 Q := by
  intro hn ws
  refine MetFree.of_bodySF pn hisR ?_
  intro p e s m args below meth c s₁ Bd hml0 hP hK
  obtain ⟨rfl, hZ, hh⟩ := hP
  have hown : s.vm.findClass y.cls = some m.cls := findClass_of_methodNamed Bd.named
  have hnm := (name_of_methodNamed Bd.named Bd.method).1
  have X0 : Stand p l e rm s m as.toArray below meth c s₁ [] 0 0 := Stand.of_body Bd
  have e0 : s₁.heap = h := by rw [← hh, Bd.state]; rfl
  have q := b ((p, l, e, rm), (s, m, as.toArray, below), (meth, c), Q, n0) ⟨Bd.exec, Bd.bytes, hml0, hown, hnm, Bd.returns, Bd.notSynchronized, hZ, hw, by rw [← hh] at hn; exact hn, rfl, rfl, rfl, rfl⟩ s₁ [] X0 e0 (Fr.nil _)
  obtain ⟨s2, o, h1, h2, h3, h4⟩ := q
  exact ⟨s2, o, castTop (ef m) h1, h2, h3, h4⟩

theorem w_iloadN (O : Ok K l Z a0 ts B ml rt own nm R n0 Q) {i : Fin 4} {v : Int32} (hd : decode B pc = .ok (.iload_n i, 1)) (hp : pc + 1 = pc') (hl : L[i.val]? = some (.val (.int v))) (k : W K h cl sl pc' L (.int v :: st)) : W K h cl sl pc L (st) := by
  subst hp; exact W.step (fun T locs X e t q => XS.iloadN X.here O.1 rfl (hb O.2.1 hd) hl q) k
theorem w_iload (O : Ok K l Z a0 ts B ml rt own nm R n0 Q) {i : Nat} {v : Int32} (hd : decode B pc = .ok (.iload i, 2)) (hp : pc + 2 = pc') (hl : L[i]? = some (.val (.int v))) (k : W K h cl sl pc' L (.int v :: st)) : W K h cl sl pc L (st) := by
  subst hp; exact W.step (fun T locs X e t q => XS.iload X.here O.1 rfl (hb O.2.1 hd) hl q) k
theorem w_lloadN (O : Ok K l Z a0 ts B ml rt own nm R n0 Q) {i : Fin 4} {v : Int64} (hd : decode B pc = .ok (.lload_n i, 1)) (hp : pc + 1 = pc') (hl : L[i.val]? = some (.val (.long v))) (k : W K h cl sl pc' L (.long v :: st)) : W K h cl sl pc L (st) := by
  subst hp; exact W.step (fun T locs X e t q => XS.lloadN X.here O.1 rfl (hb O.2.1 hd) hl q) k
theorem w_lload (O : Ok K l Z a0 ts B ml rt own nm R n0 Q) {i : Nat} {v : Int64} (hd : decode B pc = .ok (.lload i, 2)) (hp : pc + 2 = pc') (hl : L[i]? = some (.val (.long v))) (k : W K h cl sl pc' L (.long v :: st)) : W K h cl sl pc L (st) := by
  subst hp; exact W.step (fun T locs X e t q => XS.lload X.here O.1 rfl (hb O.2.1 hd) hl q) k
theorem w_aloadN (O : Ok K l Z a0 ts B ml rt own nm R n0 Q) {i : Fin 4} {v : Value} (hd : decode B pc = .ok (.aload_n i, 1)) (hp : pc + 1 = pc') (hl : L[i.val]? = some (.val v)) (hv : v.isRef = true) (k : W K h cl sl pc' L (v :: st)) : W K h cl sl pc L (st) := by
  subst hp; exact W.step (fun T locs X e t q => XS.aloadN X.here O.1 rfl (hb O.2.1 hd) hl hv q) k
theorem w_aload (O : Ok K l Z a0 ts B ml rt own nm R n0 Q) {i : Nat} {v : Value} (hd : decode B pc = .ok (.aload i, 2)) (hp : pc + 2 = pc') (hl : L[i]? = some (.val v)) (hv : v.isRef = true) (k : W K h cl sl pc' L (v :: st)) : W K h cl sl pc L (st) := by
  subst hp; exact W.step (fun T locs X e t q => XS.aload X.here O.1 rfl (hb O.2.1 hd) hl hv q) k
theorem w_istoreN (O : Ok K l Z a0 ts B ml rt own nm R n0 Q) {i : Fin 4} {v : Int32} (hd : decode B pc = .ok (.istore_n i, 1)) (hp : pc + 1 = pc') (hl : storeLocals L i.val (.int v) = some L') (k : W K h cl sl pc' L' st) : W K h cl sl pc L (.int v :: st) := by
  subst hp; exact W.step (fun T locs X e t q => XS.istoreN X.here O.1 rfl (hb O.2.1 hd) rfl hl q) k
theorem w_istoreNG (O : Ok K l Z a0 ts B ml rt own nm R n0 Q) {i : Fin 4} {v : Int32} {L' : Int32 → Array Slot} (hd : decode B pc = .ok (.istore_n i, 1)) (hp : pc + 1 = pc') (hl : ∀ z, storeLocals L i.val (.int z) = some (L' z)) (k : ∀ z, z = v → W K h cl sl pc' (L' z) st) : W K h cl sl pc L (.int v :: st) := w_istoreN O hd hp (hl v) (k v rfl)
theorem w_istore (O : Ok K l Z a0 ts B ml rt own nm R n0 Q) {i : Nat} {v : Int32} (hd : decode B pc = .ok (.istore i, 2)) (hp : pc + 2 = pc') (hl : storeLocals L i (.int v) = some L') (k : W K h cl sl pc' L' st) : W K h cl sl pc L (.int v :: st) := by
  subst hp; exact W.step (fun T locs X e t q => XS.istore X.here O.1 rfl (hb O.2.1 hd) rfl hl q) k
theorem w_istoreG (O : Ok K l Z a0 ts B ml rt own nm R n0 Q) {i : Nat} {v : Int32} {L' : Int32 → Array Slot} (hd : decode B pc = .ok (.istore i, 2)) (hp : pc + 2 = pc') (hl : ∀ z, storeLocals L i (.int z) = some (L' z)) (k : ∀ z, z = v → W K h cl sl pc' (L' z) st) : W K h cl sl pc L (.int v :: st) := w_istore O hd hp (hl v) (k v rfl)
theorem w_lstoreN (O : Ok K l Z a0 ts B ml rt own nm R n0 Q) {i : Fin 4} {v : Int64} (hd : decode B pc = .ok (.lstore_n i, 1)) (hp : pc + 1 = pc') (hl : storeLocals L i.val (.long v) = some L') (k : W K h cl sl pc' L' st) : W K h cl sl pc L (.long v :: st) := by
  subst hp; exact W.step (fun T locs X e t q => XS.lstoreN X.here O.1 rfl (hb O.2.1 hd) rfl hl q) k
theorem w_lstoreNG (O : Ok K l Z a0 ts B ml rt own nm R n0 Q) {i : Fin 4} {v : Int64} {L' : Int64 → Array Slot} (hd : decode B pc = .ok (.lstore_n i, 1)) (hp : pc + 1 = pc') (hl : ∀ z, storeLocals L i.val (.long z) = some (L' z)) (k : ∀ z, z = v → W K h cl sl pc' (L' z) st) : W K h cl sl pc L (.long v :: st) := w_lstoreN O hd hp (hl v) (k v rfl)
theorem w_lstore (O : Ok K l Z a0 ts B ml rt own nm R n0 Q) {i : Nat} {v : Int64} (hd : decode B pc = .ok (.lstore i, 2)) (hp : pc + 2 = pc') (hl : storeLocals L i (.long v) = some L') (k : W K h cl sl pc' L' st) : W K h cl sl pc L (.long v :: st) := by
  subst hp; exact W.step (fun T locs X e t q => XS.lstore X.here O.1 rfl (hb O.2.1 hd) rfl hl q) k
theorem w_lstoreG (O : Ok K l Z a0 ts B ml rt own nm R n0 Q) {i : Nat} {v : Int64} {L' : Int64 → Array Slot} (hd : decode B pc = .ok (.lstore i, 2)) (hp : pc + 2 = pc') (hl : ∀ z, storeLocals L i (.long z) = some (L' z)) (k : ∀ z, z = v → W K h cl sl pc' (L' z) st) : W K h cl sl pc L (.long v :: st) := w_lstore O hd hp (hl v) (k v rfl)
theorem w_astoreN (O : Ok K l Z a0 ts B ml rt own nm R n0 Q) {i : Fin 4} {v : Value} (hd : decode B pc = .ok (.astore_n i, 1)) (hp : pc + 1 = pc') (hv : v.isRef = true) (hl : storeLocals L i.val v = some L') (k : W K h cl sl pc' L' st) : W K h cl sl pc L (v :: st) := by
  subst hp; exact W.step (fun T locs X e t q => XS.astoreN X.here O.1 rfl (hb O.2.1 hd) rfl hv hl q) k
theorem w_astore (O : Ok K l Z a0 ts B ml rt own nm R n0 Q) {i : Nat} {v : Value} (hd : decode B pc = .ok (.astore i, 2)) (hp : pc + 2 = pc') (hv : v.isRef = true) (hl : storeLocals L i v = some L') (k : W K h cl sl pc' L' st) : W K h cl sl pc L (v :: st) := by
  subst hp; exact W.step (fun T locs X e t q => XS.astore X.here O.1 rfl (hb O.2.1 hd) rfl hv hl q) k
theorem w_iinc (O : Ok K l Z a0 ts B ml rt own nm R n0 Q) {i : Nat} {cst : Int} {x z : Int32} (hd : decode B pc = .ok (.iinc i cst, 3)) (hp : pc + 3 = pc') (hl : L[i]? = some (.val (.int x))) (hz : x + Int32.ofInt cst = z) (hl' : storeLocals L i (.int z) = some L') (k : W K h cl sl pc' L' st) : W K h cl sl pc L st := by
  subst hp; subst hz; exact W.step (fun T locs X e t q => XS.iinc X.here O.1 rfl (hb O.2.1 hd) hl hl' q) k
theorem w_iincG (O : Ok K l Z a0 ts B ml rt own nm R n0 Q) {i : Nat} {cst : Int} {x y : Int32} {L' : Int32 → Array Slot} (hd : decode B pc = .ok (.iinc i cst, 3)) (hp : pc + 3 = pc') (hl : L[i]? = some (.val (.int x))) (hz : Int32.ofInt cst = y) (hl' : ∀ z, storeLocals L i (.int z) = some (L' z)) (k : ∀ z, z = x + y → W K h cl sl pc' (L' z) st) : W K h cl sl pc L st := by
  subst hz; exact w_iinc O hd hp hl rfl (hl' _) (k _ rfl)
theorem w_iconst (O : Ok K l Z a0 ts B ml rt own nm R n0 Q) {i : Int} {z : Int32} (hd : decode B pc = .ok (.iconst i, 1)) (hp : pc + 1 = pc') (hz : Int32.ofInt i = z) (k : W K h cl sl pc' L (.int z :: st)) : W K h cl sl pc L (st) := by
  subst hp; exact W.step (fun T locs X e t q => XS.iconst X.here O.1 rfl (hb O.2.1 hd) (by rw [hz]; exact q)) k
theorem w_bipush (O : Ok K l Z a0 ts B ml rt own nm R n0 Q) {i : Int} {z : Int32} (hd : decode B pc = .ok (.bipush i, 2)) (hp : pc + 2 = pc') (hz : (Int8.ofInt i).toInt32 = z) (k : W K h cl sl pc' L (.int z :: st)) : W K h cl sl pc L (st) := by
  subst hp; exact W.step (fun T locs X e t q => XS.bipush X.here O.1 rfl (hb O.2.1 hd) (by rw [hz]; exact q)) k
theorem w_sipush (O : Ok K l Z a0 ts B ml rt own nm R n0 Q) {i : Int} {z : Int32} (hd : decode B pc = .ok (.sipush i, 3)) (hp : pc + 3 = pc') (hz : (Int16.ofInt i).toInt32 = z) (k : W K h cl sl pc' L (.int z :: st)) : W K h cl sl pc L (st) := by
  subst hp; exact W.step (fun T locs X e t q => XS.sipush X.here O.1 rfl (hb O.2.1 hd) (by rw [hz]; exact q)) k
theorem w_lconst (O : Ok K l Z a0 ts B ml rt own nm R n0 Q) {i : Fin 2} {z : Int64} (hd : decode B pc = .ok (.lconst i, 1)) (hp : pc + 1 = pc') (hz : Int64.ofNat i = z) (k : W K h cl sl pc' L (.long z :: st)) : W K h cl sl pc L (st) := by
  subst hp; exact W.step (fun T locs X e t q => XS.lconst X.here O.1 rfl (hb O.2.1 hd) (by rw [hz]; exact q)) k
theorem w_anull (O : Ok K l Z a0 ts B ml rt own nm R n0 Q)  (hd : decode B pc = .ok (.aconst_null, 1)) (hp : pc + 1 = pc') (k : W K h cl sl pc' L (.null :: st)) : W K h cl sl pc L (st) := by
  subst hp; exact W.step (fun T locs X e t q => XS.aconstNull X.here O.1 rfl (hb O.2.1 hd) q) k
theorem w_ldc (O : Ok K l Z a0 ts B ml rt own nm R n0 Q) {i : Nat} {v : Int32} (hd : decode B pc = .ok (.ldc i, 2)) (hp : pc + 2 = pc') (w : Jvm.Cond.constant own i v ∈ ts) (k : W K h cl sl pc' L (.int v :: st)) : W K h cl sl pc L (st) := by
  subst hp; exact W.step (fun T locs X e t q => X.ldcInt O.1 O.2.2.2.1 (mvT O.2.2.2.2.2.2.2.1 (O.2.2.2.2.2.2.2.2.1 _ w)) (g := mkF K.2.1.2.1 pc L st) rfl (hb O.2.1 hd) _ q) k
theorem w_ldc2 (O : Ok K l Z a0 ts B ml rt own nm R n0 Q) {i : Nat} {v : Int64} (hd : decode B pc = .ok (.ldc2_w i, 3)) (hp : pc + 3 = pc') (w : Jvm.Cond.constantLong own i v ∈ ts) (k : W K h cl sl pc' L (.long v :: st)) : W K h cl sl pc L (st) := by
  subst hp; exact W.step (fun T locs X e t q => X.ldc2Long O.1 O.2.2.2.1 (mvT O.2.2.2.2.2.2.2.1 (O.2.2.2.2.2.2.2.2.1 _ w)) (g := mkF K.2.1.2.1 pc L st) rfl (hb O.2.1 hd) _ q) k
theorem w_iadd (O : Ok K l Z a0 ts B ml rt own nm R n0 Q) {x y : Int32} (hd : decode B pc = .ok (.iadd, 1)) (hp : pc + 1 = pc') (k : W K h cl sl pc' L (.int (x + y) :: st)) : W K h cl sl pc L (.int y :: .int x :: st) := by
  subst hp; exact W.step (fun T locs X e t q => XS.iadd X.here O.1 rfl (hb O.2.1 hd) rfl q) k
theorem w_isub (O : Ok K l Z a0 ts B ml rt own nm R n0 Q) {x y : Int32} (hd : decode B pc = .ok (.isub, 1)) (hp : pc + 1 = pc') (k : W K h cl sl pc' L (.int (x - y) :: st)) : W K h cl sl pc L (.int y :: .int x :: st) := by
  subst hp; exact W.step (fun T locs X e t q => XS.isub X.here O.1 rfl (hb O.2.1 hd) rfl q) k
theorem w_imul (O : Ok K l Z a0 ts B ml rt own nm R n0 Q) {x y : Int32} (hd : decode B pc = .ok (.imul, 1)) (hp : pc + 1 = pc') (k : W K h cl sl pc' L (.int (x * y) :: st)) : W K h cl sl pc L (.int y :: .int x :: st) := by
  subst hp; exact W.step (fun T locs X e t q => XS.imul X.here O.1 rfl (hb O.2.1 hd) rfl q) k
theorem w_iand (O : Ok K l Z a0 ts B ml rt own nm R n0 Q) {x y : Int32} (hd : decode B pc = .ok (.iand, 1)) (hp : pc + 1 = pc') (k : W K h cl sl pc' L (.int (x &&& y) :: st)) : W K h cl sl pc L (.int y :: .int x :: st) := by
  subst hp; exact W.step (fun T locs X e t q => XS.iand X.here O.1 rfl (hb O.2.1 hd) rfl q) k
theorem w_ior (O : Ok K l Z a0 ts B ml rt own nm R n0 Q) {x y : Int32} (hd : decode B pc = .ok (.ior, 1)) (hp : pc + 1 = pc') (k : W K h cl sl pc' L (.int (x ||| y) :: st)) : W K h cl sl pc L (.int y :: .int x :: st) := by
  subst hp; exact W.step (fun T locs X e t q => XS.ior X.here O.1 rfl (hb O.2.1 hd) rfl q) k
theorem w_ixor (O : Ok K l Z a0 ts B ml rt own nm R n0 Q) {x y : Int32} (hd : decode B pc = .ok (.ixor, 1)) (hp : pc + 1 = pc') (k : W K h cl sl pc' L (.int (x ^^^ y) :: st)) : W K h cl sl pc L (.int y :: .int x :: st) := by
  subst hp; exact W.step (fun T locs X e t q => XS.ixor X.here O.1 rfl (hb O.2.1 hd) rfl q) k
theorem w_ishl (O : Ok K l Z a0 ts B ml rt own nm R n0 Q) {x y : Int32} (hd : decode B pc = .ok (.ishl, 1)) (hp : pc + 1 = pc') (k : W K h cl sl pc' L (.int (x <<< (y &&& 31)) :: st)) : W K h cl sl pc L (.int y :: .int x :: st) := by
  subst hp; exact W.step (fun T locs X e t q => XS.ishl X.here O.1 rfl (hb O.2.1 hd) rfl q) k
theorem w_ishr (O : Ok K l Z a0 ts B ml rt own nm R n0 Q) {x y : Int32} (hd : decode B pc = .ok (.ishr, 1)) (hp : pc + 1 = pc') (k : W K h cl sl pc' L (.int (x >>> (y &&& 31)) :: st)) : W K h cl sl pc L (.int y :: .int x :: st) := by
  subst hp; exact W.step (fun T locs X e t q => XS.ishr X.here O.1 rfl (hb O.2.1 hd) rfl q) k
theorem w_iushr (O : Ok K l Z a0 ts B ml rt own nm R n0 Q) {x y : Int32} (hd : decode B pc = .ok (.iushr, 1)) (hp : pc + 1 = pc') (k : W K h cl sl pc' L (.int ((x.toUInt32 >>> (y &&& 31).toUInt32).toInt32) :: st)) : W K h cl sl pc L (.int y :: .int x :: st) := by
  subst hp; exact W.step (fun T locs X e t q => XS.iushr X.here O.1 rfl (hb O.2.1 hd) rfl q) k
theorem w_ladd (O : Ok K l Z a0 ts B ml rt own nm R n0 Q) {x y : Int64} (hd : decode B pc = .ok (.ladd, 1)) (hp : pc + 1 = pc') (k : W K h cl sl pc' L (.long (x + y) :: st)) : W K h cl sl pc L (.long y :: .long x :: st) := by
  subst hp; exact W.step (fun T locs X e t q => XS.ladd X.here O.1 rfl (hb O.2.1 hd) rfl q) k
theorem w_lsub (O : Ok K l Z a0 ts B ml rt own nm R n0 Q) {x y : Int64} (hd : decode B pc = .ok (.lsub, 1)) (hp : pc + 1 = pc') (k : W K h cl sl pc' L (.long (x - y) :: st)) : W K h cl sl pc L (.long y :: .long x :: st) := by
  subst hp; exact W.step (fun T locs X e t q => XS.lsub X.here O.1 rfl (hb O.2.1 hd) rfl q) k
theorem w_lmul (O : Ok K l Z a0 ts B ml rt own nm R n0 Q) {x y : Int64} (hd : decode B pc = .ok (.lmul, 1)) (hp : pc + 1 = pc') (k : W K h cl sl pc' L (.long (x * y) :: st)) : W K h cl sl pc L (.long y :: .long x :: st) := by
  subst hp; exact W.step (fun T locs X e t q => XS.lmul X.here O.1 rfl (hb O.2.1 hd) rfl q) k
theorem w_land (O : Ok K l Z a0 ts B ml rt own nm R n0 Q) {x y : Int64} (hd : decode B pc = .ok (.land, 1)) (hp : pc + 1 = pc') (k : W K h cl sl pc' L (.long (x &&& y) :: st)) : W K h cl sl pc L (.long y :: .long x :: st) := by
  subst hp; exact W.step (fun T locs X e t q => XS.land X.here O.1 rfl (hb O.2.1 hd) rfl q) k
theorem w_lor (O : Ok K l Z a0 ts B ml rt own nm R n0 Q) {x y : Int64} (hd : decode B pc = .ok (.lor, 1)) (hp : pc + 1 = pc') (k : W K h cl sl pc' L (.long (x ||| y) :: st)) : W K h cl sl pc L (.long y :: .long x :: st) := by
  subst hp; exact W.step (fun T locs X e t q => XS.lor X.here O.1 rfl (hb O.2.1 hd) rfl q) k
theorem w_lxor (O : Ok K l Z a0 ts B ml rt own nm R n0 Q) {x y : Int64} (hd : decode B pc = .ok (.lxor, 1)) (hp : pc + 1 = pc') (k : W K h cl sl pc' L (.long (x ^^^ y) :: st)) : W K h cl sl pc L (.long y :: .long x :: st) := by
  subst hp; exact W.step (fun T locs X e t q => XS.lxor X.here O.1 rfl (hb O.2.1 hd) rfl q) k
theorem w_lshl (O : Ok K l Z a0 ts B ml rt own nm R n0 Q) {x : Int64} {y : Int32} (hd : decode B pc = .ok (.lshl, 1)) (hp : pc + 1 = pc') (k : W K h cl sl pc' L (.long (x <<< (y &&& 0x3f).toInt64) :: st)) : W K h cl sl pc L (.int y :: .long x :: st) := by
  subst hp; exact W.step (fun T locs X e t q => XS.lshl X.here O.1 rfl (hb O.2.1 hd) rfl q) k
theorem w_lshr (O : Ok K l Z a0 ts B ml rt own nm R n0 Q) {x : Int64} {y : Int32} (hd : decode B pc = .ok (.lshr, 1)) (hp : pc + 1 = pc') (k : W K h cl sl pc' L (.long (x >>> (y &&& 0x3f).toInt64) :: st)) : W K h cl sl pc L (.int y :: .long x :: st) := by
  subst hp; exact W.step (fun T locs X e t q => XS.lshr X.here O.1 rfl (hb O.2.1 hd) rfl q) k
theorem w_lushr (O : Ok K l Z a0 ts B ml rt own nm R n0 Q) {x : Int64} {y : Int32} (hd : decode B pc = .ok (.lushr, 1)) (hp : pc + 1 = pc') (k : W K h cl sl pc' L (.long ((x.toUInt64 >>> (y &&& 0x3f).toInt64.toUInt64).toInt64) :: st)) : W K h cl sl pc L (.int y :: .long x :: st) := by
  subst hp; exact W.step (fun T locs X e t q => XS.lushr X.here O.1 rfl (hb O.2.1 hd) rfl q) k
theorem w_idiv (O : Ok K l Z a0 ts B ml rt own nm R n0 Q) {x y : Int32} (hd : decode B pc = .ok (.idiv, 1)) (hp : pc + 1 = pc') (hy : y ≠ 0) (k : W K h cl sl pc' L (.int (x / y) :: st)) : W K h cl sl pc L (.int y :: .int x :: st) := by
  subst hp; exact W.step (fun T locs X e t q => XS.idiv X.here O.1 rfl (hb O.2.1 hd) rfl hy q) k
theorem w_irem (O : Ok K l Z a0 ts B ml rt own nm R n0 Q) {x y : Int32} (hd : decode B pc = .ok (.irem, 1)) (hp : pc + 1 = pc') (hy : y ≠ 0) (k : W K h cl sl pc' L (.int (x % y) :: st)) : W K h cl sl pc L (.int y :: .int x :: st) := by
  subst hp; exact W.step (fun T locs X e t q => iremM X O.1 rfl (hb O.2.1 hd) rfl hy q) k
theorem w_ldiv (O : Ok K l Z a0 ts B ml rt own nm R n0 Q) {x y : Int64} (hd : decode B pc = .ok (.ldiv, 1)) (hp : pc + 1 = pc') (hy : y ≠ 0) (k : W K h cl sl pc' L (.long (x / y) :: st)) : W K h cl sl pc L (.long y :: .long x :: st) := by
  subst hp; exact W.step (fun T locs X e t q => XS.ldiv X.here O.1 rfl (hb O.2.1 hd) rfl hy q) k
theorem w_lrem (O : Ok K l Z a0 ts B ml rt own nm R n0 Q) {x y : Int64} (hd : decode B pc = .ok (.lrem, 1)) (hp : pc + 1 = pc') (hy : y ≠ 0) (k : W K h cl sl pc' L (.long (x % y) :: st)) : W K h cl sl pc L (.long y :: .long x :: st) := by
  subst hp; exact W.step (fun T locs X e t q => XS.lrem X.here O.1 rfl (hb O.2.1 hd) rfl hy (by rw [lrem_mod]; exact q)) k
theorem w_ineg (O : Ok K l Z a0 ts B ml rt own nm R n0 Q) {x : Int32} (hd : decode B pc = .ok (.ineg, 1)) (hp : pc + 1 = pc') (k : W K h cl sl pc' L (.int (-x) :: st)) : W K h cl sl pc L (.int x :: st) := by
  subst hp; exact W.step (fun T locs X e t q => XS.ineg X.here O.1 rfl (hb O.2.1 hd) rfl q) k
theorem w_lneg (O : Ok K l Z a0 ts B ml rt own nm R n0 Q) {x : Int64} (hd : decode B pc = .ok (.lneg, 1)) (hp : pc + 1 = pc') (k : W K h cl sl pc' L (.long (-x) :: st)) : W K h cl sl pc L (.long x :: st) := by
  subst hp; exact W.step (fun T locs X e t q => XS.lneg X.here O.1 rfl (hb O.2.1 hd) rfl q) k
theorem w_i2l (O : Ok K l Z a0 ts B ml rt own nm R n0 Q) {x : Int32} (hd : decode B pc = .ok (.i2l, 1)) (hp : pc + 1 = pc') (k : W K h cl sl pc' L (.long (x.toInt64) :: st)) : W K h cl sl pc L (.int x :: st) := by
  subst hp; exact W.step (fun T locs X e t q => XS.i2l X.here O.1 rfl (hb O.2.1 hd) rfl q) k
theorem w_l2i (O : Ok K l Z a0 ts B ml rt own nm R n0 Q) {x : Int64} (hd : decode B pc = .ok (.l2i, 1)) (hp : pc + 1 = pc') (k : W K h cl sl pc' L (.int (x.toInt32) :: st)) : W K h cl sl pc L (.long x :: st) := by
  subst hp; exact W.step (fun T locs X e t q => XS.l2i X.here O.1 rfl (hb O.2.1 hd) rfl q) k
theorem w_i2b (O : Ok K l Z a0 ts B ml rt own nm R n0 Q) {x : Int32} (hd : decode B pc = .ok (.i2b, 1)) (hp : pc + 1 = pc') (k : W K h cl sl pc' L (.int (x.toInt8.toInt32) :: st)) : W K h cl sl pc L (.int x :: st) := by
  subst hp; exact W.step (fun T locs X e t q => XS.i2b X.here O.1 rfl (hb O.2.1 hd) rfl q) k
theorem w_i2s (O : Ok K l Z a0 ts B ml rt own nm R n0 Q) {x : Int32} (hd : decode B pc = .ok (.i2s, 1)) (hp : pc + 1 = pc') (k : W K h cl sl pc' L (.int (x.toInt16.toInt32) :: st)) : W K h cl sl pc L (.int x :: st) := by
  subst hp; exact W.step (fun T locs X e t q => XS.i2s X.here O.1 rfl (hb O.2.1 hd) rfl q) k
theorem w_i2c (O : Ok K l Z a0 ts B ml rt own nm R n0 Q) {x : Int32} (hd : decode B pc = .ok (.i2c, 1)) (hp : pc + 1 = pc') (k : W K h cl sl pc' L (.int (x.toUInt32.toUInt16.toUInt32.toInt32) :: st)) : W K h cl sl pc L (.int x :: st) := by
  subst hp; exact W.step (fun T locs X e t q => XS.i2c X.here O.1 rfl (hb O.2.1 hd) rfl q) k
theorem w_dup (O : Ok K l Z a0 ts B ml rt own nm R n0 Q) {x : Value} (hd : decode B pc = .ok (.dup, 1)) (hp : pc + 1 = pc') (hc : x.category = 1) (k : W K h cl sl pc' L (x :: x :: st)) : W K h cl sl pc L (x :: st) := by
  subst hp; exact W.step (fun T locs X e t q => XS.dup X.here O.1 rfl (hb O.2.1 hd) rfl hc q) k
theorem w_pop (O : Ok K l Z a0 ts B ml rt own nm R n0 Q) {x : Value} (hd : decode B pc = .ok (.pop, 1)) (hp : pc + 1 = pc') (hc : x.category = 1) (k : W K h cl sl pc' L (st)) : W K h cl sl pc L (x :: st) := by
  subst hp; exact W.step (fun T locs X e t q => XS.pop X.here O.1 rfl (hb O.2.1 hd) rfl hc q) k
theorem w_dupX1 (O : Ok K l Z a0 ts B ml rt own nm R n0 Q) {x y : Value} (hd : decode B pc = .ok (.dup_x1, 1)) (hp : pc + 1 = pc') (hc : x.category = 1) (hc2 : y.category = 1) (k : W K h cl sl pc' L (x :: y :: x :: st)) : W K h cl sl pc L (x :: y :: st) := by
  subst hp; exact W.step (fun T locs X e t q => XS.dupX1 X.here O.1 rfl (hb O.2.1 hd) rfl hc hc2 q) k
theorem w_goto (O : Ok K l Z a0 ts B ml rt own nm R n0 Q) {o : Int} (hd : decode B pc = .ok (.goto o, 3)) (ho : 0 ≤ (pc : Int) + o) (hp : ((pc : Int) + o).toNat = pc') (k : W K h cl sl pc' L st) : W K h cl sl pc L st := W.step (fun T locs X e t q => XS.goto X.here O.1 rfl rfl (hb O.2.1 hd) ho hp q) k
theorem w_icmp_eq (O : Ok K l Z a0 ts B ml rt own nm R n0 Q) {o : Int} {x y : Int32} {pt pn : Nat} (hd : decode B pc = .ok (.if_icmp .eq o, 3)) (hn : pc + 3 = pn) (ho : 0 ≤ (pc : Int) + o) (ht : ((pc : Int) + o).toNat = pt) (ky : x.toInt = y.toInt → W K h cl sl pt L st) (kn : ¬ x.toInt = y.toInt → W K h cl sl pn L st) : W K h cl sl pc L (.int y :: .int x :: st) := by
  by_cases q : x = y
  · exact W.step (fun T locs X e t z => XS.icmpYes X.here O.1 rfl rfl (hb O.2.1 hd) rfl (teq q).1 ho ht z) (ky (Int32.toInt_inj.mpr q))
  · exact W.step (fun T locs X e t z => XS.icmpNo X.here O.1 rfl (hb O.2.1 hd) rfl (feq q).1 (by rw [← hn] at z; exact z)) (kn fun w => q (Int32.toInt_inj.mp w))
theorem w_if_eq (O : Ok K l Z a0 ts B ml rt own nm R n0 Q) {o : Int} {x : Int32} {pt pn : Nat} (hd : decode B pc = .ok (.ifCond .eq o, 3)) (hn : pc + 3 = pn) (ho : 0 ≤ (pc : Int) + o) (ht : ((pc : Int) + o).toNat = pt) (ky : x.toInt = 0 → W K h cl sl pt L st) (kn : ¬ x.toInt = 0 → W K h cl sl pn L st) : W K h cl sl pc L (.int x :: st) := by
  have e0 : (0 : Int32).toInt = 0 := by decide
  by_cases q : x = 0
  · exact W.step (fun T locs X e t z => XS.ifYes X.here O.1 rfl rfl (hb O.2.1 hd) rfl ((if0 _ _).trans (teq q).1) ho ht z) (ky (by rw [← e0]; exact (Int32.toInt_inj.mpr q)))
  · exact W.step (fun T locs X e t z => XS.ifNo X.here O.1 rfl (hb O.2.1 hd) rfl ((if0 _ _).trans (feq q).1) (by rw [← hn] at z; exact z)) (kn fun w => q (by rw [← e0] at w; exact (Int32.toInt_inj.mp w)))
theorem lcb_eq {x y : Int64} : (lcmpW x y).toInt = 0 ↔ x.toInt = y.toInt := by
  have e0 : (0 : Int32).toInt = 0 := by decide
  rw [← e0]
  exact Int32.toInt_inj.trans ((lw_eq x y).trans Int64.toInt_inj.symm)
theorem w_lcmp_eq (O : Ok K l Z a0 ts B ml rt own nm R n0 Q) {o : Int} {x y : Int64} {pi pt pn : Nat} (hd : decode B pc = .ok (.lcmp, 1)) (hi : pc + 1 = pi) (hd2 : decode B pi = .ok (.ifCond .eq o, 3)) (hn : pi + 3 = pn) (ho : 0 ≤ (pi : Int) + o) (ht : ((pi : Int) + o).toNat = pt) (ky : x.toInt = y.toInt → W K h cl sl pt L st) (kn : ¬ x.toInt = y.toInt → W K h cl sl pn L st) : W K h cl sl pc L (.long y :: .long x :: st) := by
  subst hi
  exact W.step (fun T locs X e t q => XS.lcmp X.here O.1 rfl (hb O.2.1 hd) rfl q) (w_if_eq O hd2 hn ho ht (fun q => ky (lcb_eq.mp q)) (fun q => kn fun w => q (lcb_eq.mpr w)))
theorem w_icmp_ne (O : Ok K l Z a0 ts B ml rt own nm R n0 Q) {o : Int} {x y : Int32} {pt pn : Nat} (hd : decode B pc = .ok (.if_icmp .ne o, 3)) (hn : pc + 3 = pn) (ho : 0 ≤ (pc : Int) + o) (ht : ((pc : Int) + o).toNat = pt) (ky : ¬ x.toInt = y.toInt → W K h cl sl pt L st) (kn : x.toInt = y.toInt → W K h cl sl pn L st) : W K h cl sl pc L (.int y :: .int x :: st) := by
  by_cases q : x = y
  · exact W.step (fun T locs X e t z => XS.icmpNo X.here O.1 rfl (hb O.2.1 hd) rfl (teq q).2 (by rw [← hn] at z; exact z)) (kn (Int32.toInt_inj.mpr q))
  · exact W.step (fun T locs X e t z => XS.icmpYes X.here O.1 rfl rfl (hb O.2.1 hd) rfl (feq q).2 ho ht z) (ky fun w => q (Int32.toInt_inj.mp w))
theorem w_if_ne (O : Ok K l Z a0 ts B ml rt own nm R n0 Q) {o : Int} {x : Int32} {pt pn : Nat} (hd : decode B pc = .ok (.ifCond .ne o, 3)) (hn : pc + 3 = pn) (ho : 0 ≤ (pc : Int) + o) (ht : ((pc : Int) + o).toNat = pt) (ky : ¬ x.toInt = 0 → W K h cl sl pt L st) (kn : x.toInt = 0 → W K h cl sl pn L st) : W K h cl sl pc L (.int x :: st) := by
  have e0 : (0 : Int32).toInt = 0 := by decide
  by_cases q : x = 0
  · exact W.step (fun T locs X e t z => XS.ifNo X.here O.1 rfl (hb O.2.1 hd) rfl ((if0 _ _).trans (teq q).2) (by rw [← hn] at z; exact z)) (kn (by rw [← e0]; exact (Int32.toInt_inj.mpr q)))
  · exact W.step (fun T locs X e t z => XS.ifYes X.here O.1 rfl rfl (hb O.2.1 hd) rfl ((if0 _ _).trans (feq q).2) ho ht z) (ky fun w => q (by rw [← e0] at w; exact (Int32.toInt_inj.mp w)))
theorem lcb_ne {x y : Int64} : (lcmpW x y).toInt = 0 ↔ x.toInt = y.toInt := by
  have e0 : (0 : Int32).toInt = 0 := by decide
  rw [← e0]
  exact Int32.toInt_inj.trans ((lw_eq x y).trans Int64.toInt_inj.symm)
theorem w_lcmp_ne (O : Ok K l Z a0 ts B ml rt own nm R n0 Q) {o : Int} {x y : Int64} {pi pt pn : Nat} (hd : decode B pc = .ok (.lcmp, 1)) (hi : pc + 1 = pi) (hd2 : decode B pi = .ok (.ifCond .ne o, 3)) (hn : pi + 3 = pn) (ho : 0 ≤ (pi : Int) + o) (ht : ((pi : Int) + o).toNat = pt) (ky : ¬ x.toInt = y.toInt → W K h cl sl pt L st) (kn : x.toInt = y.toInt → W K h cl sl pn L st) : W K h cl sl pc L (.long y :: .long x :: st) := by
  subst hi
  exact W.step (fun T locs X e t q => XS.lcmp X.here O.1 rfl (hb O.2.1 hd) rfl q) (w_if_ne O hd2 hn ho ht (fun q => ky fun w => q (lcb_ne.mpr w)) (fun q => kn (lcb_ne.mp q)))
theorem w_icmp_lt (O : Ok K l Z a0 ts B ml rt own nm R n0 Q) {o : Int} {x y : Int32} {pt pn : Nat} (hd : decode B pc = .ok (.if_icmp .lt o, 3)) (hn : pc + 3 = pn) (ho : 0 ≤ (pc : Int) + o) (ht : ((pc : Int) + o).toNat = pt) (ky : x.toInt < y.toInt → W K h cl sl pt L st) (kn : ¬ x.toInt < y.toInt → W K h cl sl pn L st) : W K h cl sl pc L (.int y :: .int x :: st) := by
  by_cases q : x < y
  · exact W.step (fun T locs X e t z => XS.icmpYes X.here O.1 rfl rfl (hb O.2.1 hd) rfl (tlt q).1 ho ht z) (ky (Int32.lt_iff_toInt_lt.mp q))
  · exact W.step (fun T locs X e t z => XS.icmpNo X.here O.1 rfl (hb O.2.1 hd) rfl (flt q).1 (by rw [← hn] at z; exact z)) (kn fun w => q (Int32.lt_iff_toInt_lt.mpr w))
theorem w_if_lt (O : Ok K l Z a0 ts B ml rt own nm R n0 Q) {o : Int} {x : Int32} {pt pn : Nat} (hd : decode B pc = .ok (.ifCond .lt o, 3)) (hn : pc + 3 = pn) (ho : 0 ≤ (pc : Int) + o) (ht : ((pc : Int) + o).toNat = pt) (ky : x.toInt < 0 → W K h cl sl pt L st) (kn : ¬ x.toInt < 0 → W K h cl sl pn L st) : W K h cl sl pc L (.int x :: st) := by
  have e0 : (0 : Int32).toInt = 0 := by decide
  by_cases q : x < 0
  · exact W.step (fun T locs X e t z => XS.ifYes X.here O.1 rfl rfl (hb O.2.1 hd) rfl ((if0 _ _).trans (tlt q).1) ho ht z) (ky (by rw [← e0]; exact (Int32.lt_iff_toInt_lt.mp q)))
  · exact W.step (fun T locs X e t z => XS.ifNo X.here O.1 rfl (hb O.2.1 hd) rfl ((if0 _ _).trans (flt q).1) (by rw [← hn] at z; exact z)) (kn fun w => q (by rw [← e0] at w; exact (Int32.lt_iff_toInt_lt.mpr w)))
theorem lcb_lt {x y : Int64} : (lcmpW x y).toInt < 0 ↔ x.toInt < y.toInt := by
  have e0 : (0 : Int32).toInt = 0 := by decide
  rw [← e0]
  exact (Int32.lt_iff_toInt_lt.symm).trans ((lw_lt x y).trans Int64.lt_iff_toInt_lt)
theorem w_lcmp_lt (O : Ok K l Z a0 ts B ml rt own nm R n0 Q) {o : Int} {x y : Int64} {pi pt pn : Nat} (hd : decode B pc = .ok (.lcmp, 1)) (hi : pc + 1 = pi) (hd2 : decode B pi = .ok (.ifCond .lt o, 3)) (hn : pi + 3 = pn) (ho : 0 ≤ (pi : Int) + o) (ht : ((pi : Int) + o).toNat = pt) (ky : x.toInt < y.toInt → W K h cl sl pt L st) (kn : ¬ x.toInt < y.toInt → W K h cl sl pn L st) : W K h cl sl pc L (.long y :: .long x :: st) := by
  subst hi
  exact W.step (fun T locs X e t q => XS.lcmp X.here O.1 rfl (hb O.2.1 hd) rfl q) (w_if_lt O hd2 hn ho ht (fun q => ky (lcb_lt.mp q)) (fun q => kn fun w => q (lcb_lt.mpr w)))
theorem w_icmp_ge (O : Ok K l Z a0 ts B ml rt own nm R n0 Q) {o : Int} {x y : Int32} {pt pn : Nat} (hd : decode B pc = .ok (.if_icmp .ge o, 3)) (hn : pc + 3 = pn) (ho : 0 ≤ (pc : Int) + o) (ht : ((pc : Int) + o).toNat = pt) (ky : ¬ x.toInt < y.toInt → W K h cl sl pt L st) (kn : x.toInt < y.toInt → W K h cl sl pn L st) : W K h cl sl pc L (.int y :: .int x :: st) := by
  by_cases q : x < y
  · exact W.step (fun T locs X e t z => XS.icmpNo X.here O.1 rfl (hb O.2.1 hd) rfl (tlt q).2.1 (by rw [← hn] at z; exact z)) (kn (Int32.lt_iff_toInt_lt.mp q))
  · exact W.step (fun T locs X e t z => XS.icmpYes X.here O.1 rfl rfl (hb O.2.1 hd) rfl (flt q).2.1 ho ht z) (ky fun w => q (Int32.lt_iff_toInt_lt.mpr w))
theorem w_if_ge (O : Ok K l Z a0 ts B ml rt own nm R n0 Q) {o : Int} {x : Int32} {pt pn : Nat} (hd : decode B pc = .ok (.ifCond .ge o, 3)) (hn : pc + 3 = pn) (ho : 0 ≤ (pc : Int) + o) (ht : ((pc : Int) + o).toNat = pt) (ky : ¬ x.toInt < 0 → W K h cl sl pt L st) (kn : x.toInt < 0 → W K h cl sl pn L st) : W K h cl sl pc L (.int x :: st) := by
  have e0 : (0 : Int32).toInt = 0 := by decide
  by_cases q : x < 0
  · exact W.step (fun T locs X e t z => XS.ifNo X.here O.1 rfl (hb O.2.1 hd) rfl ((if0 _ _).trans (tlt q).2.1) (by rw [← hn] at z; exact z)) (kn (by rw [← e0]; exact (Int32.lt_iff_toInt_lt.mp q)))
  · exact W.step (fun T locs X e t z => XS.ifYes X.here O.1 rfl rfl (hb O.2.1 hd) rfl ((if0 _ _).trans (flt q).2.1) ho ht z) (ky fun w => q (by rw [← e0] at w; exact (Int32.lt_iff_toInt_lt.mpr w)))
theorem lcb_ge {x y : Int64} : (lcmpW x y).toInt < 0 ↔ x.toInt < y.toInt := by
  have e0 : (0 : Int32).toInt = 0 := by decide
  rw [← e0]
  exact (Int32.lt_iff_toInt_lt.symm).trans ((lw_lt x y).trans Int64.lt_iff_toInt_lt)
theorem w_lcmp_ge (O : Ok K l Z a0 ts B ml rt own nm R n0 Q) {o : Int} {x y : Int64} {pi pt pn : Nat} (hd : decode B pc = .ok (.lcmp, 1)) (hi : pc + 1 = pi) (hd2 : decode B pi = .ok (.ifCond .ge o, 3)) (hn : pi + 3 = pn) (ho : 0 ≤ (pi : Int) + o) (ht : ((pi : Int) + o).toNat = pt) (ky : ¬ x.toInt < y.toInt → W K h cl sl pt L st) (kn : x.toInt < y.toInt → W K h cl sl pn L st) : W K h cl sl pc L (.long y :: .long x :: st) := by
  subst hi
  exact W.step (fun T locs X e t q => XS.lcmp X.here O.1 rfl (hb O.2.1 hd) rfl q) (w_if_ge O hd2 hn ho ht (fun q => ky fun w => q (lcb_ge.mpr w)) (fun q => kn (lcb_ge.mp q)))
theorem w_icmp_gt (O : Ok K l Z a0 ts B ml rt own nm R n0 Q) {o : Int} {x y : Int32} {pt pn : Nat} (hd : decode B pc = .ok (.if_icmp .gt o, 3)) (hn : pc + 3 = pn) (ho : 0 ≤ (pc : Int) + o) (ht : ((pc : Int) + o).toNat = pt) (ky : y.toInt < x.toInt → W K h cl sl pt L st) (kn : ¬ y.toInt < x.toInt → W K h cl sl pn L st) : W K h cl sl pc L (.int y :: .int x :: st) := by
  by_cases q : y < x
  · exact W.step (fun T locs X e t z => XS.icmpYes X.here O.1 rfl rfl (hb O.2.1 hd) rfl (tlt q).2.2.1 ho ht z) (ky (Int32.lt_iff_toInt_lt.mp q))
  · exact W.step (fun T locs X e t z => XS.icmpNo X.here O.1 rfl (hb O.2.1 hd) rfl (flt q).2.2.1 (by rw [← hn] at z; exact z)) (kn fun w => q (Int32.lt_iff_toInt_lt.mpr w))
theorem w_if_gt (O : Ok K l Z a0 ts B ml rt own nm R n0 Q) {o : Int} {x : Int32} {pt pn : Nat} (hd : decode B pc = .ok (.ifCond .gt o, 3)) (hn : pc + 3 = pn) (ho : 0 ≤ (pc : Int) + o) (ht : ((pc : Int) + o).toNat = pt) (ky : 0 < x.toInt → W K h cl sl pt L st) (kn : ¬ 0 < x.toInt → W K h cl sl pn L st) : W K h cl sl pc L (.int x :: st) := by
  have e0 : (0 : Int32).toInt = 0 := by decide
  by_cases q : 0 < x
  · exact W.step (fun T locs X e t z => XS.ifYes X.here O.1 rfl rfl (hb O.2.1 hd) rfl ((if0 _ _).trans (tlt q).2.2.1) ho ht z) (ky (by rw [← e0]; exact (Int32.lt_iff_toInt_lt.mp q)))
  · exact W.step (fun T locs X e t z => XS.ifNo X.here O.1 rfl (hb O.2.1 hd) rfl ((if0 _ _).trans (flt q).2.2.1) (by rw [← hn] at z; exact z)) (kn fun w => q (by rw [← e0] at w; exact (Int32.lt_iff_toInt_lt.mpr w)))
theorem lcb_gt {x y : Int64} : 0 < (lcmpW x y).toInt ↔ y.toInt < x.toInt := by
  have e0 : (0 : Int32).toInt = 0 := by decide
  rw [← e0]
  exact (Int32.lt_iff_toInt_lt.symm).trans ((lw_gt x y).trans Int64.lt_iff_toInt_lt)
theorem w_lcmp_gt (O : Ok K l Z a0 ts B ml rt own nm R n0 Q) {o : Int} {x y : Int64} {pi pt pn : Nat} (hd : decode B pc = .ok (.lcmp, 1)) (hi : pc + 1 = pi) (hd2 : decode B pi = .ok (.ifCond .gt o, 3)) (hn : pi + 3 = pn) (ho : 0 ≤ (pi : Int) + o) (ht : ((pi : Int) + o).toNat = pt) (ky : y.toInt < x.toInt → W K h cl sl pt L st) (kn : ¬ y.toInt < x.toInt → W K h cl sl pn L st) : W K h cl sl pc L (.long y :: .long x :: st) := by
  subst hi
  exact W.step (fun T locs X e t q => XS.lcmp X.here O.1 rfl (hb O.2.1 hd) rfl q) (w_if_gt O hd2 hn ho ht (fun q => ky (lcb_gt.mp q)) (fun q => kn fun w => q (lcb_gt.mpr w)))
theorem w_icmp_le (O : Ok K l Z a0 ts B ml rt own nm R n0 Q) {o : Int} {x y : Int32} {pt pn : Nat} (hd : decode B pc = .ok (.if_icmp .le o, 3)) (hn : pc + 3 = pn) (ho : 0 ≤ (pc : Int) + o) (ht : ((pc : Int) + o).toNat = pt) (ky : ¬ y.toInt < x.toInt → W K h cl sl pt L st) (kn : y.toInt < x.toInt → W K h cl sl pn L st) : W K h cl sl pc L (.int y :: .int x :: st) := by
  by_cases q : y < x
  · exact W.step (fun T locs X e t z => XS.icmpNo X.here O.1 rfl (hb O.2.1 hd) rfl (tlt q).2.2.2 (by rw [← hn] at z; exact z)) (kn (Int32.lt_iff_toInt_lt.mp q))
  · exact W.step (fun T locs X e t z => XS.icmpYes X.here O.1 rfl rfl (hb O.2.1 hd) rfl (flt q).2.2.2 ho ht z) (ky fun w => q (Int32.lt_iff_toInt_lt.mpr w))
theorem w_if_le (O : Ok K l Z a0 ts B ml rt own nm R n0 Q) {o : Int} {x : Int32} {pt pn : Nat} (hd : decode B pc = .ok (.ifCond .le o, 3)) (hn : pc + 3 = pn) (ho : 0 ≤ (pc : Int) + o) (ht : ((pc : Int) + o).toNat = pt) (ky : ¬ 0 < x.toInt → W K h cl sl pt L st) (kn : 0 < x.toInt → W K h cl sl pn L st) : W K h cl sl pc L (.int x :: st) := by
  have e0 : (0 : Int32).toInt = 0 := by decide
  by_cases q : 0 < x
  · exact W.step (fun T locs X e t z => XS.ifNo X.here O.1 rfl (hb O.2.1 hd) rfl ((if0 _ _).trans (tlt q).2.2.2) (by rw [← hn] at z; exact z)) (kn (by rw [← e0]; exact (Int32.lt_iff_toInt_lt.mp q)))
  · exact W.step (fun T locs X e t z => XS.ifYes X.here O.1 rfl rfl (hb O.2.1 hd) rfl ((if0 _ _).trans (flt q).2.2.2) ho ht z) (ky fun w => q (by rw [← e0] at w; exact (Int32.lt_iff_toInt_lt.mpr w)))
theorem lcb_le {x y : Int64} : 0 < (lcmpW x y).toInt ↔ y.toInt < x.toInt := by
  have e0 : (0 : Int32).toInt = 0 := by decide
  rw [← e0]
  exact (Int32.lt_iff_toInt_lt.symm).trans ((lw_gt x y).trans Int64.lt_iff_toInt_lt)
theorem w_lcmp_le (O : Ok K l Z a0 ts B ml rt own nm R n0 Q) {o : Int} {x y : Int64} {pi pt pn : Nat} (hd : decode B pc = .ok (.lcmp, 1)) (hi : pc + 1 = pi) (hd2 : decode B pi = .ok (.ifCond .le o, 3)) (hn : pi + 3 = pn) (ho : 0 ≤ (pi : Int) + o) (ht : ((pi : Int) + o).toNat = pt) (ky : ¬ y.toInt < x.toInt → W K h cl sl pt L st) (kn : y.toInt < x.toInt → W K h cl sl pn L st) : W K h cl sl pc L (.long y :: .long x :: st) := by
  subst hi
  exact W.step (fun T locs X e t q => XS.lcmp X.here O.1 rfl (hb O.2.1 hd) rfl q) (w_if_le O hd2 hn ho ht (fun q => ky fun w => q (lcb_le.mpr w)) (fun q => kn (lcb_le.mp q)))
theorem w_ifnullY (O : Ok K l Z a0 ts B ml rt own nm R n0 Q) {o : Int} (hd : decode B pc = .ok (.ifnull o, 3)) (ho : 0 ≤ (pc : Int) + o) (ht : ((pc : Int) + o).toNat = pc') (k : W K h cl sl pc' L st) : W K h cl sl pc L (.null :: st) := W.step (fun T locs X e t q => XS.ifnullYes X.here O.1 rfl rfl (hb O.2.1 hd) rfl ho ht q) k
theorem w_ifnullN (O : Ok K l Z a0 ts B ml rt own nm R n0 Q) {o : Int} {b : Addr} (hd : decode B pc = .ok (.ifnull o, 3)) (hp : pc + 3 = pc') (k : W K h cl sl pc' L st) : W K h cl sl pc L (.ref b :: st) := by
  subst hp; exact W.step (fun T locs X e t q => XS.ifnullNo X.here O.1 rfl (hb O.2.1 hd) rfl q) k
theorem w_ifnonnullY (O : Ok K l Z a0 ts B ml rt own nm R n0 Q) {o : Int} {b : Addr} (hd : decode B pc = .ok (.ifnonnull o, 3)) (ho : 0 ≤ (pc : Int) + o) (ht : ((pc : Int) + o).toNat = pc') (k : W K h cl sl pc' L st) : W K h cl sl pc L (.ref b :: st) := W.step (fun T locs X e t q => XS.ifnonnullYes X.here O.1 rfl rfl (hb O.2.1 hd) rfl ho ht q) k
theorem w_ifnonnullN (O : Ok K l Z a0 ts B ml rt own nm R n0 Q) {o : Int} (hd : decode B pc = .ok (.ifnonnull o, 3)) (hp : pc + 3 = pc') (k : W K h cl sl pc' L st) : W K h cl sl pc L (.null :: st) := by
  subst hp; exact W.step (fun T locs X e t q => XS.ifnonnullNo X.here O.1 rfl (hb O.2.1 hd) rfl q) k
theorem w_acmp_eq (O : Ok K l Z a0 ts B ml rt own nm R n0 Q) {o : Int} {x y : Value} {pt pn : Nat} (hd : decode B pc = .ok (.if_acmp .eq o, 3)) (hx' : x.isRef = true) (hy' : y.isRef = true) (hn : pc + 3 = pn) (ho : 0 ≤ (pc : Int) + o) (ht : ((pc : Int) + o).toNat = pt) (ky : x = y → W K h cl sl pt L st) (kn : ¬ x = y → W K h cl sl pn L st) : W K h cl sl pc L (y :: x :: st) := by
  by_cases q : x = y
  · exact W.step (fun T locs X e t z => Jvm.RoadKit.acmp (g := mkF K.2.1.2.1 pc L (y :: x :: st)) X O.1 rfl hx' hy' (pc0 := pc) (pc' := pt) (same := true) rfl (hb O.2.1 hd) rfl (decide_eq_true q) ho (by simp [acV, ht, hn]) z) (ky q)
  · exact W.step (fun T locs X e t z => Jvm.RoadKit.acmp (g := mkF K.2.1.2.1 pc L (y :: x :: st)) X O.1 rfl hx' hy' (pc0 := pc) (pc' := pn) (same := false) rfl (hb O.2.1 hd) rfl (decide_eq_false q) ho (by simp [acV, ht, hn]) z) (kn q)
theorem w_acmp_ne (O : Ok K l Z a0 ts B ml rt own nm R n0 Q) {o : Int} {x y : Value} {pt pn : Nat} (hd : decode B pc = .ok (.if_acmp .ne o, 3)) (hx' : x.isRef = true) (hy' : y.isRef = true) (hn : pc + 3 = pn) (ho : 0 ≤ (pc : Int) + o) (ht : ((pc : Int) + o).toNat = pt) (ky : ¬ x = y → W K h cl sl pt L st) (kn : x = y → W K h cl sl pn L st) : W K h cl sl pc L (y :: x :: st) := by
  by_cases q : x = y
  · exact W.step (fun T locs X e t z => Jvm.RoadKit.acmp (g := mkF K.2.1.2.1 pc L (y :: x :: st)) X O.1 rfl hx' hy' (pc0 := pc) (pc' := pn) (same := true) rfl (hb O.2.1 hd) rfl (decide_eq_true q) ho (by simp [acV, ht, hn]) z) (kn q)
  · exact W.step (fun T locs X e t z => Jvm.RoadKit.acmp (g := mkF K.2.1.2.1 pc L (y :: x :: st)) X O.1 rfl hx' hy' (pc0 := pc) (pc' := pt) (same := false) rfl (hb O.2.1 hd) rfl (decide_eq_false q) ho (by simp [acV, ht, hn]) z) (ky q)
theorem w_getf (O : Ok K l Z a0 ts B ml rt own nm R n0 Q) {i : Nat} {C f d : String} {a : Addr} {v : Value} (hd : decode B pc = .ok (.getfield i, 3)) (hp : pc + 3 = pc') (w : Jvm.Cond.fieldLink own i C f d ∈ ts) (F : Fld Z h a C f d v) (k : W K h cl sl pc' L (v :: st)) : W K h cl sl pc L (.ref a :: st) := by
  subst hp
  exact W.stepT (fun T locs X e => getF X O.1 O.2.2.2.2.2.2.2.1 O.2.2.2.1 (host := "") (Or.inl (O.2.2.2.2.2.2.2.2.1 _ w)) Via.refl e F (g := mkF K.2.1.2.1 pc L (.ref a :: st)) rfl rfl (hb O.2.1 hd)) k
theorem w_gets (O : Ok K l Z a0 ts B ml rt own nm R n0 Q) {i : Nat} {C f d : String} {v : Value} (hd : decode B pc = .ok (.getstatic i, 3)) (hp : pc + 3 = pc') (w : Jvm.Cond.fieldLink own i C f d ∈ ts) (F : Sta Z h C f d v) (k : W K h cl sl pc' L (v :: st)) : W K h cl sl pc L st := by
  subst hp
  exact W.stepT (fun T locs X e => getS2 X O.1 O.2.2.2.2.2.2.2.1 O.2.2.2.1 (host := "") (Or.inl (O.2.2.2.2.2.2.2.2.1 _ w)) Via.refl e F (g := mkF K.2.1.2.1 pc L st) rfl (hb O.2.1 hd)) k
theorem w_putf (O : Ok K l Z a0 ts B ml rt own nm R n0 Q) {i kk : Nat} {C f d : String} {a : Addr} {v old : Value} {ty : FieldType} (hd : decode B pc = .ok (.putfield i, 3)) (hp : pc + 3 = pc') (w : Jvm.Cond.fieldLink own i C f d ∈ ts) (wi : Jvm.Cond.instantiable C kk ∈ ts) (Ly : Jvm.Cond.lays C C f d ∈ ts ∨ (Jvm.Cond.laysFinal C C f d ∈ ts ∧ own = C ∧ nm = "<init>")) (F : Fld Z h a C f d old) (E : Exa Z h a C) (ha : n0 ≤ a) (hty : parseFieldDescriptor d = some ty) (hn : narrow ty v = v) (hf : fits ty v = true)
    (k : ∀ h', Wr h h' a (Jvm.RoadKit.slotOf Z C f d) v → W K h' cl sl pc' L st) : W K h cl sl pc L (v :: .ref a :: st) := by
  subst hp
  have hw := O.2.2.2.2.2.2.2.2.1
  exact W.stepW (fun T locs X e => putF X O.1 O.2.2.2.2.2.2.2.1 O.2.2.2.1 (host := "") (Or.inl (hw _ w)) Via.refl e F E (Ly.imp (fun q => hw _ q) fun q => ⟨hw _ q.1, q.2.1, O.2.2.2.2.1.trans q.2.2⟩) (hw _ wi) hty hn hf (g := mkF K.2.1.2.1 pc L (v :: .ref a :: st)) rfl rfl (hb O.2.1 hd)) (by rw [O.2.2.2.2.2.2.2.2.2.2.2.2.1]; exact ha) k
theorem w_new (O : Ok K l Z a0 ts B ml rt own nm R n0 Q) {i n cl' sl' : Nat} {C : String} (hd : decode B pc = .ok (.new i, 3)) (hp : pc + 3 = pc') (w1 : Jvm.Cond.classLink own i C ∈ ts) (w2 : Jvm.Cond.instantiable C n ∈ ts) (w3 : Jvm.Cond.initialized C ∈ ts) (hc : cl + 1 = cl') (hs : sl + n = sl') (hc' : cl' ≤ R.cells) (hs' : sl' ≤ R.slots)
    (k : ∀ h' b, b = h.size → n0 ≤ b → Ext h h' → Exa Z h' b C → (∀ {Ow nf d : String} {ty : FieldType}, Laid Z a0 C Ow nf d → parseFieldDescriptor d = some ty → Fld Z h' b Ow nf d (defaultValue ty)) → W K h' cl' sl' pc' L (.ref b :: st)) : W K h cl sl pc L st := by
  obtain ⟨⟨p, l', e', R'⟩, ⟨s, m, args, below⟩, ⟨meth, c⟩, Q', n0'⟩ := K
  obtain ⟨hx, hby, hml, hown, hnm, hrt, hlk, hZ, hw, hn0, hl', hR', hn', hQ'⟩ := O
  dsimp only at hx hby hml hown hnm hrt hlk hZ hn0 hl' hR' hn' hQ'
  subst hl' hR' hn' hQ'
  subst hp hc hs
  intro T locs X eT N
  obtain ⟨T2, h2, X2, e2, E2, A2, D2, -, st2⟩ := newO X hx hZ hown (hw _ w1) (hw _ w2) (hw _ w3) eT (g := mkF m pc L st) rfl (hb hby hd) hc' hs'
  obtain ⟨s2, o, h1, r⟩ := k h2 h.size rfl (Nat.le_trans hn0 (by rw [← eT]; exact X.same.2.1)) E2 A2 D2 T2 _ X2 e2 N
  exact ⟨s2, o, st2 _ h1, r⟩
theorem w_objinit (O : Ok K l Z a0 ts B ml rt own nm R n0 Q) {i wt : Nat} {a : Addr} (hd : decode B pc = .ok (.invokespecial i, 3)) (hp : pc + 3 = pc') (w1 : Jvm.Cond.methodLink own i Lib.objectInit ∈ ts) (w2 : Jvm.Cond.instanceMethod Lib.objectInit ∈ ts) (w3 : Jvm.Cond.code Lib.objectInit ⟨#[0xb1]⟩ 1 none ∈ ts) (hsz : L.size = ml) (hwt : (st.map fun v => v.category).sum = wt) (hf : 1 ≤ R.frames) (hl : wt + 12 ≤ R.locals) (k : W K h cl sl pc' L st) : W K h cl sl pc L (.ref a :: st) := by
  obtain ⟨⟨p, l', e', R'⟩, ⟨s, m, args, below⟩, ⟨meth, c⟩, Q', n0'⟩ := K
  obtain ⟨hx, hby, hml, hown, hnm, hrt, hlk, hZ, hw, hn0, hl', hR', hn', hQ'⟩ := O
  dsimp only at hx hby hml hown hnm hrt hlk hZ hn0 hl' hR' hn' hQ'
  subst hl' hR' hn' hQ'
  subst hp hml
  exact W.stepT (fun T locs X e => initO X hx hZ hown (hw _ w1) (hw _ w2) (hw _ w3) e (g := mkF m pc L (.ref a :: st)) rfl hsz rfl (hb hby hd) hf (W := wt) (by show 2 * 0 + _ ≤ _; omega) hl) k
/-- an array of n places, the i-th holds f i -/
def Afn (Z : State) (h : Heap) (a : Addr) (ty : FieldType) (n : Nat) (f : Nat → Value) : Prop := ∃ c : Cell, Arr Z h a c ty ∧ c.slots.size = n ∧ n < 2147483648 ∧ ∀ i, i < n → c.slots[i]? = some (f i)
def upd (f : Nat → Value) (i : Nat) (v : Value) : Nat → Value := fun j => if j = i then v else f j
theorem Afn.lt {a : Addr} {ty : FieldType} {n : Nat} {f : Nat → Value} (A : Afn Z h a ty n f) : a < h.size := by obtain ⟨c, A, -⟩ := A; exact A.lt
theorem Afn.bound {a : Addr} {ty : FieldType} {n : Nat} {f : Nat → Value} (A : Afn Z h a ty n f) : n < 2147483648 := by obtain ⟨c, -, -, q, -⟩ := A; exact q
theorem upd_same (f : Nat → Value) (i : Nat) (v : Value) : upd f i v i = v := if_pos rfl
theorem upd_ne (f : Nat → Value) {i j : Nat} (v : Value) (q : ¬ j = i) : upd f i v j = f j := if_neg q
theorem Afn.ext {h' : Heap} {a : Addr} {ty : FieldType} {n : Nat} {f : Nat → Value} (A : Afn Z h a ty n f) (E : Ext h h') : Afn Z h' a ty n f := by obtain ⟨c, A, r⟩ := A; exact ⟨c, A.ext E, r⟩
theorem Afn.other {h' : Heap} {a b : Addr} {i : Nat} {v : Value} {ty : FieldType} {n : Nat} {f : Nat → Value} (A : Afn Z h b ty n f) (Wq : Wr h h' a i v) (q : b ≠ a) : Afn Z h' b ty n f := by obtain ⟨c, A, r⟩ := A; exact ⟨c, A.other Wq q, r⟩
theorem Afn.keep {h' : Heap} {a : Addr} {ws : List Addr} {ty : FieldType} {n : Nat} {f : Nat → Value} (A : Afn Z h a ty n f) (Kp : Keep h h' ws) (q : a ∉ ws) : Afn Z h' a ty n f := by obtain ⟨c, A, r⟩ := A; exact ⟨c, ⟨Kp.2.1 a c A.1 q, A.2⟩, r⟩
theorem Afn.congr {a : Addr} {ty : FieldType} {n : Nat} {f g : Nat → Value} (A : Afn Z h a ty n f) (q : ∀ i, i < n → f i = g i) : Afn Z h a ty n g := by obtain ⟨c, A, h1, h2, h3⟩ := A; exact ⟨c, A, h1, h2, fun i hi => by rw [← q i hi]; exact h3 i hi⟩
theorem Afn.set {h' : Heap} {a : Addr} {i : Nat} {v : Value} {ty : FieldType} {n : Nat} {f : Nat → Value} (A : Afn Z h a ty n f) (Wq : Wr h h' a i v) : Afn Z h' a ty n (upd f i v) := by
  obtain ⟨c, A, h1, h2, h3⟩ := A
  refine ⟨_, A.same Wq, by simp [Cell.setSlot, h1], h2, fun j hj => ?_⟩
  by_cases q : j = i
  · subst q
    simp [Cell.setSlot, upd, h1, hj]
  · simp only [upd, if_neg q]
    show (c.slots.setIfInBounds i v)[j]? = _
    rw [Array.getElem?_setIfInBounds_ne (fun z => q z.symm)]; exact h3 j hj
theorem tnc {j : Int32} {i : Nat} (hj : j.toInt = (i : Int)) : j.toNatClampNeg = i ∧ ¬ j < 0 := by
  have e0 : (0 : Int32).toInt = 0 := by decide
  have q : ¬ j < 0 := by rw [Int32.lt_iff_toInt_lt, e0]; omega
  have := nat_of q
  exact ⟨by omega, q⟩
theorem idxOk {c : Cell} {n : Nat} {j : Int32} {i : Nat} (hs : c.slots.size = n) (hj : j.toInt = (i : Int)) (hi : i < n) : ¬ (j < 0 ∨ c.slots.size ≤ j.toNatClampNeg) := by
  obtain ⟨q1, q2⟩ := tnc hj
  rintro (z | z)
  · exact q2 z
  · omega

theorem w_iaload (O : Ok K l Z a0 ts B ml rt own nm R n0 Q) {a : Addr} {n i : Nat} {f : Nat → Value} {j : Int32} {x : Int32} (hd : decode B pc = .ok (.iaload, 1)) (hp : pc + 1 = pc') (A : Afn Z h a .int n f) (hj : j.toInt = (i : Int)) (hi : i < n) (hv : f i = .int x) (k : W K h cl sl pc' L (.int x :: st)) : W K h cl sl pc L (.int j :: .ref a :: st) := by
  subst hp
  obtain ⟨c, A, h1, h2, h3⟩ := A
  refine W.step (fun T locs X e t q => X.iaload O.1 (j := j) (v := .int x) (by rw [e]; exact A.1) (State.isArrayOf_alike O.2.2.2.2.2.2.2.1.alike A.2.1) A.2.2 (idxOk h1 hj hi) (by rw [(tnc hj).1, h3 i hi, hv]) (g := mkF K.2.1.2.1 pc L (.int j :: .ref a :: st)) rfl rfl (hb O.2.1 hd) _ q) k
theorem w_laload (O : Ok K l Z a0 ts B ml rt own nm R n0 Q) {a : Addr} {n i : Nat} {f : Nat → Value} {j : Int32} {x : Int64} (hd : decode B pc = .ok (.laload, 1)) (hp : pc + 1 = pc') (A : Afn Z h a .long n f) (hj : j.toInt = (i : Int)) (hi : i < n) (hv : f i = .long x) (k : W K h cl sl pc' L (.long x :: st)) : W K h cl sl pc L (.int j :: .ref a :: st) := by
  subst hp
  obtain ⟨c, A, h1, h2, h3⟩ := A
  refine W.step (fun T locs X e t q => X.laload O.1 (j := j) (v := .long x) (by rw [e]; exact A.1) (State.isArrayOf_alike O.2.2.2.2.2.2.2.1.alike A.2.1) A.2.2 (idxOk h1 hj hi) (by rw [(tnc hj).1, h3 i hi, hv]) (g := mkF K.2.1.2.1 pc L (.int j :: .ref a :: st)) rfl rfl (hb O.2.1 hd) _ q) k
theorem w_baload (O : Ok K l Z a0 ts B ml rt own nm R n0 Q) {a : Addr} {n i : Nat} {f : Nat → Value} {j : Int32} {x : Int32} (hd : decode B pc = .ok (.baload, 1)) (hp : pc + 1 = pc') (A : Afn Z h a .byte n f) (hj : j.toInt = (i : Int)) (hi : i < n) (hv : f i = .int x) (k : W K h cl sl pc' L (.int x :: st)) : W K h cl sl pc L (.int j :: .ref a :: st) := by
  subst hp
  obtain ⟨c, A, h1, h2, h3⟩ := A
  refine W.step (fun T locs X e t q => X.baloadBytes O.1 (j := j) (v := .int x) (by rw [e]; exact A.1) (State.isArrayOf_alike O.2.2.2.2.2.2.2.1.alike A.2.1) A.2.2 (idxOk h1 hj hi) (by rw [(tnc hj).1, h3 i hi, hv]) (g := mkF K.2.1.2.1 pc L (.int j :: .ref a :: st)) rfl rfl (hb O.2.1 hd) _ q) k
theorem w_caload (O : Ok K l Z a0 ts B ml rt own nm R n0 Q) {a : Addr} {n i : Nat} {f : Nat → Value} {j : Int32} {x : Int32} (hd : decode B pc = .ok (.caload, 1)) (hp : pc + 1 = pc') (A : Afn Z h a .char n f) (hj : j.toInt = (i : Int)) (hi : i < n) (hv : f i = .int x) (k : W K h cl sl pc' L (.int x :: st)) : W K h cl sl pc L (.int j :: .ref a :: st) := by
  subst hp
  obtain ⟨c, A, h1, h2, h3⟩ := A
  refine W.step (fun T locs X e t q => X.caload O.1 (j := j) (v := .int x) (by rw [e]; exact A.1) (State.isArrayOf_alike O.2.2.2.2.2.2.2.1.alike A.2.1) A.2.2 (idxOk h1 hj hi) (by rw [(tnc hj).1, h3 i hi, hv]) (g := mkF K.2.1.2.1 pc L (.int j :: .ref a :: st)) rfl rfl (hb O.2.1 hd) _ q) k
theorem w_aaload (O : Ok K l Z a0 ts B ml rt own nm R n0 Q) {a : Addr} {n i : Nat} {f : Nat → Value} {j : Int32} {x : Value} {ty : FieldType} (hd : decode B pc = .ok (.aaload, 1)) (hp : pc + 1 = pc') (A : Afn Z h a ty n f) (hty : ty.isReference = true) (hj : j.toInt = (i : Int)) (hi : i < n) (hv : f i = x) (k : W K h cl sl pc' L (x :: st)) : W K h cl sl pc L (.int j :: .ref a :: st) := by
  subst hp
  obtain ⟨c, A, h1, h2, h3⟩ := A
  refine W.step (fun T locs X e t q => X.aaload O.1 (j := j) (v := x) (by rw [e]; exact A.1) (State.isArrayOf_alike O.2.2.2.2.2.2.2.1.alike A.2.1) hty A.2.2 (idxOk h1 hj hi) (by rw [(tnc hj).1, h3 i hi, hv]) (g := mkF K.2.1.2.1 pc L (.int j :: .ref a :: st)) rfl rfl (hb O.2.1 hd) _ q) k
theorem w_iastore (O : Ok K l Z a0 ts B ml rt own nm R n0 Q) {a : Addr} {n i : Nat} {f : Nat → Value} {j : Int32} {x : Int32} (hd : decode B pc = .ok (.iastore, 1)) (hp : pc + 1 = pc') (A : Afn Z h a .int n f) (hj : j.toInt = (i : Int)) (hi : i < n) (ha : n0 ≤ a) (k : ∀ h', Wr h h' a i (.int x) → W K h' cl sl pc' L st) : W K h cl sl pc L (.int x :: .int j :: .ref a :: st) := by
  subst hp
  obtain ⟨c, A, h1, h2, h3⟩ := A
  rw [← (tnc hj).1] at k
  exact W.stepW (fun T locs X e => stI X O.1 O.2.2.2.2.2.2.2.1 e A (j := j) (idxOk h1 hj hi) (g := mkF K.2.1.2.1 pc L (.int x :: .int j :: .ref a :: st)) rfl rfl (hb O.2.1 hd)) (by rw [O.2.2.2.2.2.2.2.2.2.2.2.2.1]; exact ha) k
theorem w_lastore (O : Ok K l Z a0 ts B ml rt own nm R n0 Q) {a : Addr} {n i : Nat} {f : Nat → Value} {j : Int32} {x : Int64} (hd : decode B pc = .ok (.lastore, 1)) (hp : pc + 1 = pc') (A : Afn Z h a .long n f) (hj : j.toInt = (i : Int)) (hi : i < n) (ha : n0 ≤ a) (k : ∀ h', Wr h h' a i (.long x) → W K h' cl sl pc' L st) : W K h cl sl pc L (.long x :: .int j :: .ref a :: st) := by
  subst hp
  obtain ⟨c, A, h1, h2, h3⟩ := A
  rw [← (tnc hj).1] at k
  exact W.stepW (fun T locs X e => stJ X O.1 O.2.2.2.2.2.2.2.1 e A (j := j) (idxOk h1 hj hi) (g := mkF K.2.1.2.1 pc L (.long x :: .int j :: .ref a :: st)) rfl rfl (hb O.2.1 hd)) (by rw [O.2.2.2.2.2.2.2.2.2.2.2.2.1]; exact ha) k
theorem w_bastore (O : Ok K l Z a0 ts B ml rt own nm R n0 Q) {a : Addr} {n i : Nat} {f : Nat → Value} {j : Int32} {x : Int32} (hd : decode B pc = .ok (.bastore, 1)) (hp : pc + 1 = pc') (A : Afn Z h a .byte n f) (hj : j.toInt = (i : Int)) (hi : i < n) (ha : n0 ≤ a) (k : ∀ h', Wr h h' a i (.int (nar .byte x)) → W K h' cl sl pc' L st) : W K h cl sl pc L (.int x :: .int j :: .ref a :: st) := by
  subst hp
  obtain ⟨c, A, h1, h2, h3⟩ := A
  rw [← (tnc hj).1] at k
  exact W.stepW (fun T locs X e => stB X O.1 O.2.2.2.2.2.2.2.1 e A (j := j) (idxOk h1 hj hi) (g := mkF K.2.1.2.1 pc L (.int x :: .int j :: .ref a :: st)) rfl rfl (hb O.2.1 hd)) (by rw [O.2.2.2.2.2.2.2.2.2.2.2.2.1]; exact ha) k
theorem w_castore (O : Ok K l Z a0 ts B ml rt own nm R n0 Q) {a : Addr} {n i : Nat} {f : Nat → Value} {j : Int32} {x : Int32} (hd : decode B pc = .ok (.castore, 1)) (hp : pc + 1 = pc') (A : Afn Z h a .char n f) (hj : j.toInt = (i : Int)) (hi : i < n) (ha : n0 ≤ a) (k : ∀ h', Wr h h' a i (.int (nar .char x)) → W K h' cl sl pc' L st) : W K h cl sl pc L (.int x :: .int j :: .ref a :: st) := by
  subst hp
  obtain ⟨c, A, h1, h2, h3⟩ := A
  rw [← (tnc hj).1] at k
  exact W.stepW (fun T locs X e => stC X O.1 O.2.2.2.2.2.2.2.1 e A (j := j) (idxOk h1 hj hi) (g := mkF K.2.1.2.1 pc L (.int x :: .int j :: .ref a :: st)) rfl rfl (hb O.2.1 hd)) (by rw [O.2.2.2.2.2.2.2.2.2.2.2.2.1]; exact ha) k
theorem w_alen (O : Ok K l Z a0 ts B ml rt own nm R n0 Q) {a : Addr} {n : Nat} {f : Nat → Value} {z : Int32} {ty : FieldType} (hd : decode B pc = .ok (.arraylength, 1)) (hp : pc + 1 = pc') (A : Afn Z h a ty n f) (hz : z.toInt = (n : Int)) (k : W K h cl sl pc' L (.int z :: st)) : W K h cl sl pc L (.ref a :: st) := by
  subst hp
  obtain ⟨c, A, h1, h2, h3⟩ := A
  have ez : c.slots.size.toInt32 = z := by
    have := (back32 (tnc hz).2).1
    rw [(tnc hz).1, ← h1] at this; exact this
  refine W.step (fun T locs X e t q => X.arraylength O.1 (by rw [e]; exact A.1) (State.isArrayOf_alike O.2.2.2.2.2.2.2.1.alike A.2.1) (g := mkF K.2.1.2.1 pc L (.ref a :: st)) rfl rfl (hb O.2.1 hd) _ (by rw [ez]; exact q)) k
theorem w_newarr (O : Ok K l Z a0 ts B ml rt own nm R n0 Q) {aty : ArrayType} {ty : FieldType} {dv : Value} {z : Int32} {n cap cl' sl' : Nat} (hd : decode B pc = .ok (.newarray aty, 2)) (hp : pc + 2 = pc') (hty : newarray.typeOf aty = ty) (hdv : defaultValue ty = dv) (w : Jvm.Cond.arrayClass ty ∈ ts) (hz : z.toInt = (n : Int)) (hcap : n ≤ cap) (hb8 : cap * 8 ≤ 536870912) (hc : cl + 1 = cl') (hs : sl + cap = sl') (hc' : cl' ≤ R.cells) (hs' : sl' ≤ R.slots)
    (k : ∀ h' b, b = h.size → n0 ≤ b → Ext h h' → Afn Z h' b ty n (fun _ => dv) → W K h' cl' sl' pc' L (.ref b :: st)) : W K h cl sl pc L (.int z :: st) := by
  obtain ⟨⟨p, l', e', R'⟩, ⟨s, m, args, below⟩, ⟨meth, c⟩, Q', n0'⟩ := K
  obtain ⟨hx, hby, hml, hown, hnm, hrt, hlk, hZ, hw, hn0, hl', hR', hn', hQ'⟩ := O
  dsimp only at hx hby hml hown hnm hrt hlk hZ hn0 hl' hR' hn' hQ'
  subst hl' hR' hn' hQ'
  subst hp hc hs hty hdv
  intro T locs X eT N
  obtain ⟨T2, h2, kA, X2, e2, E2, A2, st2⟩ := newP X hx hZ (hw _ w) eT (g := mkF m pc L (.int z :: st)) rfl (hb hby hd) rfl (tnc hz).2 (cap := cap) (by rw [(tnc hz).1]; exact hcap) hb8 hc' hs'
  have hsz : (newA kA (newarray.typeOf aty) z).slots.size = n := by rw [sz_new, (tnc hz).1]
  have hr := (rng32 z).2
  obtain ⟨s2, o, h1, r⟩ := k h2 h.size rfl (Nat.le_trans hn0 (by rw [← eT]; exact X.same.2.1)) E2 ⟨_, A2, hsz, by omega, fun i hi => by show (Array.replicate z.toNatClampNeg (defaultValue (newarray.typeOf aty)))[i]? = _; rw [Array.getElem?_replicate, if_pos (by rw [(tnc hz).1]; exact hi)]⟩ T2 _ X2 e2 N
  exact ⟨s2, o, st2 _ h1, r⟩
theorem w_newarrE (O : Ok K l Z a0 ts B ml rt own nm R n0 Q) {aty : ArrayType} {ty : FieldType} {ad : String} {dv : Value} {z : Int32} {n cap cl' sl' : Nat} (hd : decode B pc = .ok (.newarray aty, 2)) (hp : pc + 2 = pc') (hty : newarray.typeOf aty = ty) (hdv : defaultValue ty = dv) (had : "[" ++ (newarray.typeOf aty).toString = ad) (w : Jvm.Cond.arrayClass ty ∈ ts) (hz : z.toInt = (n : Int)) (hcap : n ≤ cap) (hb8 : cap * 8 ≤ 536870912) (hc : cl + 1 = cl') (hs : sl + cap = sl') (hc' : cl' ≤ R.cells) (hs' : sl' ≤ R.slots)
    (k : ∀ h' b, b = h.size → n0 ≤ b → Ext h h' → Afn Z h' b ty n (fun _ => dv) → Exa Z h' b ad → W K h' cl' sl' pc' L (.ref b :: st)) : W K h cl sl pc L (.int z :: st) := by
  obtain ⟨⟨p, l', e', R'⟩, ⟨s, m, args, below⟩, ⟨meth, c⟩, Q', n0'⟩ := K
  obtain ⟨hx, hby, hml, hown, hnm, hrt, hlk, hZ, hw, hn0, hl', hR', hn', hQ'⟩ := O
  dsimp only at hx hby hml hown hnm hrt hlk hZ hn0 hl' hR' hn' hQ'
  subst hl' hR' hn' hQ'
  subst hp hc hs hty hdv
  intro T locs X eT N
  obtain ⟨T2, h2, kA, X2, e2, E2, A2, Ex2, st2⟩ := newPE X hx hZ (hw _ w) eT (g := mkF m pc L (.int z :: st)) rfl (hb hby hd) rfl (tnc hz).2 (cap := cap) (by rw [(tnc hz).1]; exact hcap) hb8 hc' hs' had
  have hsz : (newA kA (newarray.typeOf aty) z).slots.size = n := by rw [sz_new, (tnc hz).1]
  have hr := (rng32 z).2
  obtain ⟨s2, o, h1, r⟩ := k h2 h.size rfl (Nat.le_trans hn0 (by rw [← eT]; exact X.same.2.1)) E2 ⟨_, A2, hsz, by omega, fun i hi => by show (Array.replicate z.toNatClampNeg (defaultValue (newarray.typeOf aty)))[i]? = _; rw [Array.getElem?_replicate, if_pos (by rw [(tnc hz).1]; exact hi)]⟩ Ex2 T2 _ X2 e2 N
  exact ⟨s2, o, st2 _ h1, r⟩
theorem w_clone (O : Ok K l Z a0 ts B ml rt own nm R n0 Q) {i wt n cap cl' sl' : Nat} {ad : String} {a : Addr} {ty : FieldType} {f : Nat → Value} (hd : decode B pc = .ok (.invokevirtual i, 3)) (hp : pc + 3 = pc') (w1 : Jvm.Cond.methodLink own i ⟨ad, "clone", "()Ljava/lang/Object;"⟩ ∈ ts) (w2 : Jvm.Cond.sameMethod ad "java/lang/Object" "clone" "()Ljava/lang/Object;" ∈ ts) (w3 : Jvm.Cond.native ⟨"java/lang/Object", "clone", "()Ljava/lang/Object;"⟩ ∈ ts) (w4 : Jvm.Cond.instanceMethod ⟨"java/lang/Object", "clone", "()Ljava/lang/Object;"⟩ ∈ ts) (w5 : Jvm.Cond.selects ad ⟨ad, "clone", "()Ljava/lang/Object;"⟩ ⟨"java/lang/Object", "clone", "()Ljava/lang/Object;"⟩ ∈ ts) (w6 : Jvm.Cond.castable ad "java/lang/Cloneable" ∈ ts)
    (A : Afn Z h a ty n f) (E : Exa Z h a ad) (hfit : ∀ i, i < n → fits ty (f i) = true) (hsz : L.size = ml) (hwt : (st.map fun v => v.category).sum = wt) (hf : 1 ≤ R.frames) (hl : wt + 14 ≤ R.locals) (hcap : n ≤ cap) (hc : cl + 1 = cl') (hs : sl + cap = sl') (hc' : cl' ≤ R.cells) (hs' : sl' ≤ R.slots)
    (k : ∀ h' b, b = h.size → n0 ≤ b → Ext h h' → Afn Z h' b ty n f → Exa Z h' b ad → W K h' cl' sl' pc' L (.ref b :: st)) : W K h cl sl pc L (.ref a :: st) := by
  obtain ⟨⟨p, l', e', R'⟩, ⟨s, m, args, below⟩, ⟨meth, c⟩, Q', n0'⟩ := K
  obtain ⟨hx, hby, hml, hown, hnm, hrt, hlk, hZ, hw, hn0, hl', hR', hn', hQ'⟩ := O
  dsimp only at hx hby hml hown hnm hrt hlk hZ hn0 hl' hR' hn' hQ'
  subst hl' hR' hn' hQ'
  subst hp hc hs hml
  intro T locs X eT N
  obtain ⟨cx, A1, h1, h2, h3⟩ := A
  have FC : FitC Z cx := fitC_of A1 fun i hi v hv => by rw [h1] at hi; rw [h3 i hi] at hv; cases hv; exact hfit i hi
  obtain ⟨T2, h4, X2, e2, E2, A2, Ex2, st2⟩ := cloneA X hx hZ hown (hw _ w1) (hw _ w2) (hw _ w3) (hw _ w4) (hw _ w5) (hw _ w6) eT A1 E FC (g := mkF m pc L (.ref a :: st)) rfl hsz rfl (hb hby hd) hf (W := wt) (cap := cap) (by show 2 * 0 + _ ≤ _; omega) hl (by rw [h1]; exact hcap) hc' hs'
  obtain ⟨s2, o, g1, r⟩ := k h4 h.size rfl (Nat.le_trans hn0 (by rw [← eT]; exact X.same.2.1)) E2 ⟨_, A2, h1, h2, h3⟩ Ex2 T2 _ X2 e2 N
  exact ⟨s2, o, st2 _ g1, r⟩
theorem w_cast (O : Ok K l Z a0 ts B ml rt own nm R n0 Q) {i : Nat} {C : String} {a : Addr} (hd : decode B pc = .ok (.checkcast i, 3)) (hp : pc + 3 = pc') (w : Jvm.Cond.classLink own i C ∈ ts) (I : Ins Z h a C true) (k : W K h cl sl pc' L (.ref a :: st)) : W K h cl sl pc L (.ref a :: st) := by
  subst hp
  exact W.stepT (fun T locs X e => castY X O.1 O.2.2.2.2.2.2.2.1 O.2.2.2.1 (O.2.2.2.2.2.2.2.2.1 _ w) e I (g := mkF K.2.1.2.1 pc L (.ref a :: st)) rfl rfl (hb O.2.1 hd)) k
/-- the array at a takes every C -/
def Tk (Z : State) (h : Heap) (a : Addr) (C : String) : Prop := ∃ (c : Cell) (k : Class) (comp : ClassId) (t : FieldType), h[a]? = some c ∧ Z.vm.classes[c.cls]? = some k ∧ k.kind = .array comp t ∧ Z.vm.findClass C = some comp
theorem Tk.lt {a : Addr} {C : String} (F : Tk Z h a C) : a < h.size := by obtain ⟨_, _, _, _, h1, -⟩ := F; exact (Array.getElem?_eq_some_iff.mp h1).1
theorem Tk.ext {h' : Heap} {a : Addr} {C : String} (F : Tk Z h a C) (E : Ext h h') : Tk Z h' a C := by obtain ⟨c, k, cp, t, h1, r⟩ := F; exact ⟨c, k, cp, t, E.2 _ _ h1, r⟩
theorem Tk.wr {h' : Heap} {a b : Addr} {C : String} {i : Nat} {v : Value} (F : Tk Z h a C) (Wq : Wr h h' b i v) : Tk Z h' a C := by
  obtain ⟨c, k, cp, t, h1, h2, r⟩ := F
  obtain ⟨d1, a1, a2, -⟩ := wr_at Wq h1
  exact ⟨d1, k, cp, t, a1, by rw [a2]; exact h2, r⟩
theorem Tk.keep {h' : Heap} {a : Addr} {C : String} {ws : List Addr} (F : Tk Z h a C) (Kp : Keep h h' ws) : Tk Z h' a C := by
  obtain ⟨c, k, cp, t, h1, h2, r⟩ := F
  obtain ⟨d1, a1, a2, -⟩ := Kp.2.2 a c h1
  exact ⟨d1, k, cp, t, a1, by rw [a2]; exact h2, r⟩
theorem Tk.sto {a y : Addr} {C : String} (F : Tk Z h a C) (I : Ins Z h y C true) : Sto Z h a (.ref y) := by
  obtain ⟨cl, k, comp, t, o0, o1, o2, o3⟩ := F
  obtain ⟨cv, cT, i1, i2, i3⟩ := I
  cases o3.symm.trans i2
  simp only [Bool.and_eq_true, Bool.not_eq_true'] at i3
  obtain ⟨kc, q⟩ := Vm.classAt_of_findClass o3
  obtain ⟨kv, q2⟩ := Vm.classAt_of_assignable i3.2 ⟨kc, q⟩
  exact Or.inr ⟨cl, cv, k, kv, kc, _, _, y, o0, o1, o2, q, rfl, i1, i3.1, q2, i3.2⟩
theorem w_anewarrA (O : Ok K l Z a0 ts B ml rt own nm R n0 Q) {i : Nat} {C ad : String} {ty : FieldType} {z : Int32} {n cap cl' sl' : Nat} (hd : decode B pc = .ok (.anewarray i, 3)) (hp : pc + 3 = pc') (hC : (FieldType.array ty).toString = C) (had : "[" ++ C = ad) (w1 : Jvm.Cond.classLink own i C ∈ ts) (w2 : Jvm.Cond.arrayOver (.array ty) ∈ ts) (hz : z.toInt = (n : Int)) (hcap : n ≤ cap) (hb8 : cap * 8 ≤ 536870912) (hc : cl + 1 = cl') (hs : sl + cap = sl') (hc' : cl' ≤ R.cells) (hs' : sl' ≤ R.slots)
    (k : ∀ h' b, b = h.size → n0 ≤ b → Ext h h' → Afn Z h' b (.array ty) n (fun _ => .null) → Exa Z h' b ad → Tk Z h' b C → W K h' cl' sl' pc' L (.ref b :: st)) : W K h cl sl pc L (.int z :: st) := by
  obtain ⟨⟨p, l', e', R'⟩, ⟨s, m, args, below⟩, ⟨meth, c⟩, Q', n0'⟩ := K
  obtain ⟨hx, hby, hml, hown, hnm, hrt, hlk, hZ, hw, hn0, hl', hR', hn', hQ'⟩ := O
  dsimp only at hx hby hml hown hnm hrt hlk hZ hn0 hl' hR' hn' hQ'
  subst hl' hR' hn' hQ'
  subst hp hc hs
  intro T locs X eT N
  obtain ⟨T2, h2, kA, X2, e2, E2, A2, Ex2, Ov2, st2⟩ := newRA X hx hZ hown hC (hw _ w1) (hw _ w2) eT (g := mkF m pc L (.int z :: st)) rfl (hb hby hd) rfl (tnc hz).2 (cap := cap) (by rw [(tnc hz).1]; exact hcap) hb8 hc' hs' had
  have hsz : (newA kA (.array ty) z).slots.size = n := by rw [sz_new, (tnc hz).1]
  have hr := (rng32 z).2
  obtain ⟨ko, cpo, o1, o2, o3⟩ := Ov2
  obtain ⟨s2, o, h1, r⟩ := k h2 h.size rfl (Nat.le_trans hn0 (by rw [← eT]; exact X.same.2.1)) E2 ⟨_, A2, hsz, by omega, fun i hi => by show (Array.replicate z.toNatClampNeg (defaultValue (.array ty)))[i]? = _; rw [Array.getElem?_replicate, if_pos (by rw [(tnc hz).1]; exact hi)]; rfl⟩ Ex2 ⟨_, ko, cpo, _, A2.1, o1, o2, o3⟩ T2 _ X2 e2 N
  exact ⟨s2, o, st2 _ h1, r⟩
theorem w_aastore (O : Ok K l Z a0 ts B ml rt own nm R n0 Q) {a : Addr} {n i : Nat} {f : Nat → Value} {j : Int32} {x : Value} {ty : FieldType} (hd : decode B pc = .ok (.aastore, 1)) (hp : pc + 1 = pc') (A : Afn Z h a ty n f) (hty : ty.isReference = true) (hj : j.toInt = (i : Int)) (hi : i < n) (ha : n0 ≤ a) (St : Sto Z h a x) (k : ∀ h', Wr h h' a i x → W K h' cl sl pc' L st) : W K h cl sl pc L (x :: .int j :: .ref a :: st) := by
  subst hp
  obtain ⟨c, A, h1, h2, h3⟩ := A
  rw [← (tnc hj).1] at k
  exact W.stepW (fun T locs X e => stR X O.1 O.2.2.2.2.2.2.2.1 e A (j := j) (idxOk h1 hj hi) hty St (g := mkF K.2.1.2.1 pc L (x :: .int j :: .ref a :: st)) rfl rfl (hb O.2.1 hd)) (by rw [O.2.2.2.2.2.2.2.2.2.2.2.2.1]; exact ha) k
theorem w_static (O : Ok K l Z a0 ts B ml rt own nm R n0 Q) {i ml' wt cl' sl' : Nat} {y : MethodName} {B' : ByteArray} {rt' : Option FieldType} {rm : Room} {as S : List Value} {Qc : Option Value → Heap → Prop} {sg : MethodDescriptor} (hd : decode B pc = .ok (.invokestatic i, 3)) (hp : pc + 3 = pc') (w1 : Jvm.Cond.methodLink own i y ∈ ts) (w2 : Jvm.Cond.static y ∈ ts) (w3 : Jvm.Cond.initialized y.cls ∈ ts) (w4 : Jvm.Cond.code y B' ml' rt' ∈ ts) (hy : y.cls ≠ "java/lang/invoke/MethodHandle" ∧ y.cls ≠ "java/lang/invoke/VarHandle")
    (con : Con l Z y B' ml' rt' rm as h n0 Qc) (hS : S = as.reverse ++ st) (hsg : parseMethodDescriptor y.desc = some sg) (hlen : as.length = sg.parameters.length) (hwt : (st.map fun v => v.category).sum = wt) (hsz : L.size = ml) (hf : rm.frames + 1 ≤ R.frames) (hl : wt + (ml' + 11) + rm.locals ≤ R.locals) (hc : cl + rm.cells = cl') (hs : sl + rm.slots = sl') (hc' : cl' ≤ R.cells) (hs' : sl' ≤ R.slots) (k : ∀ v h', Qc v h' → W K h' cl' sl' pc' L (v.toList ++ st)) : W K h cl sl pc L S := by
  obtain ⟨⟨p, l', e', R'⟩, ⟨s, m, args, below⟩, ⟨meth, c⟩, Q', n0'⟩ := K
  obtain ⟨hx, hby, hml, hown, hnm, hrt, hlk, hZ, hw, hn0, hl', hR', hn', hQ'⟩ := O
  dsimp only at hx hby hml hown hnm hrt hlk hZ hn0 hl' hR' hn' hQ'
  subst hl' hR' hn' hQ'
  subst hp hc hs hS hml
  intro T locs X eT N
  have hn1 : n0' ≤ h.size := Nat.le_trans hn0 (by rw [← eT]; exact X.same.2.1)
  obtain ⟨_, _, ⟨T', L', k', n'⟩, -, X', ⟨Lc, ⟨hQ, hFr⟩, l1, y1, z1⟩, st1⟩ := Jvm.LawKit.callS X hx (y := y) hown (mvT hZ (hw _ w1)) (mvT hZ (hw _ w2)) (mvT hZ (hw _ w3)) (mvT hZ (hw _ w4)) hy (backOf (W := wt) (Q := fun v h L => Qc v h ∧ Fr n0' L) (con hn1 []) hZ (hw _ w4) (hw _ w3) hf hl) (g := mkF m pc L (as.reverse ++ st)) rfl hsz (argsL := as) (rest := st) (lenOf hsg hlen) rfl (by show 2 * 0 + _ ≤ _; omega) (hb hby hd) (fun _ _ => ⟨rfl, eT, hc', hs'⟩)
  dsimp only [Pt.U, Pt.locs, Pt.cells, Pt.slots] at X' l1 y1 z1 st1 hQ
  subst l1 y1 z1
  obtain ⟨s2, o, h1, r⟩ := k _ T'.heap hQ T' _ X' rfl (Fr.app N hFr)
  exact ⟨s2, o, st1 _ h1, r⟩
theorem w_virtual (O : Ok K l Z a0 ts B ml rt own nm R n0 Q) {i ml' wt cl' sl' : Nat} {y : MethodName} {B' : ByteArray} {rt' : Option FieldType} {rm : Room} {as S : List Value} {Qc : Option Value → Heap → Prop} {sg : MethodDescriptor} {a : Addr} {C : String} (hd : decode B pc = .ok (.invokevirtual i, 3)) (hp : pc + 3 = pc') (w1 : Jvm.Cond.methodLink own i y ∈ ts) (w2 : Jvm.Cond.declares y ∈ ts) (w3 : Jvm.Cond.selects C y y ∈ ts) (w4 : Jvm.Cond.instanceMethod y ∈ ts) (w5 : Jvm.Cond.code y B' ml' rt' ∈ ts) (w6 : Jvm.Cond.initialized y.cls ∈ ts) (hy : y.cls ≠ "java/lang/invoke/MethodHandle" ∧ y.cls ≠ "java/lang/invoke/VarHandle") (E : Exa Z h a C)
    (con : Con l Z y B' ml' rt' rm (.ref a :: as) h n0 Qc) (hS : S = as.reverse ++ .ref a :: st) (hsg : parseMethodDescriptor y.desc = some sg) (hlen : as.length = sg.parameters.length) (hwt : (st.map fun v => v.category).sum = wt) (hsz : L.size = ml) (hf : rm.frames + 1 ≤ R.frames) (hl : wt + (ml' + 11) + rm.locals ≤ R.locals) (hc : cl + rm.cells = cl') (hs : sl + rm.slots = sl') (hc' : cl' ≤ R.cells) (hs' : sl' ≤ R.slots) (k : ∀ v h', Qc v h' → W K h' cl' sl' pc' L (v.toList ++ st)) : W K h cl sl pc L S := by
  obtain ⟨⟨p, l', e', R'⟩, ⟨s, m, args, below⟩, ⟨meth, c⟩, Q', n0'⟩ := K
  obtain ⟨hx, hby, hml, hown, hnm, hrt, hlk, hZ, hw, hn0, hl', hR', hn', hQ'⟩ := O
  dsimp only at hx hby hml hown hnm hrt hlk hZ hn0 hl' hR' hn' hQ'
  subst hl' hR' hn' hQ'
  subst hp hc hs hS hml
  intro T locs X eT N
  have hn1 : n0' ≤ h.size := Nat.le_trans hn0 (by rw [← eT]; exact X.same.2.1)
  obtain ⟨cq, kq, qa, qb, qc⟩ := isOf hZ eT E
  obtain ⟨_, _, ⟨T', L', k', n'⟩, -, X', ⟨Lc, ⟨hQ, hFr⟩, l1, y1, z1⟩, st1⟩ := X.virtualBack hx (y := y) (z := y) hown (mvT hZ (hw _ w1)) (mvT hZ (hw _ w2)) (notFace_of_selects (args := #[]) (mvT hZ (hw _ w3))) (mvT hZ (hw _ w3)) (mvT hZ (hw _ w4)) hy (backOf (W := wt) (Q := fun v h L => Qc v h ∧ Fr n0' L) (con hn1 []) hZ (hw _ w5) (hw _ w6) hf hl) qa qc (g := mkF m pc L (as.reverse ++ .ref a :: st)) rfl hsz (Steps.refl _) (argsL := as) (rest := st) (lenOf hsg hlen) rfl (by show 2 * 0 + _ ≤ _; omega) (hb hby hd) (fun _ _ => ⟨rfl, eT, hc', hs'⟩)
  dsimp only [Pt.U, Pt.locs, Pt.cells, Pt.slots] at X' l1 y1 z1 st1 hQ
  subst l1 y1 z1
  obtain ⟨s2, o, h1, r⟩ := k _ T'.heap hQ T' _ X' rfl (Fr.app N hFr)
  exact ⟨s2, o, st1.trans h1, r⟩
theorem w_private (O : Ok K l Z a0 ts B ml rt own nm R n0 Q) {i ml' wt cl' sl' : Nat} {y : MethodName} {B' : ByteArray} {rt' : Option FieldType} {rm : Room} {as S : List Value} {Qc : Option Value → Heap → Prop} {sg : MethodDescriptor} {kk : Nat} {a : Addr} {C : String} (hd : decode B pc = .ok (.invokevirtual i, 3)) (hp : pc + 3 = pc') (w1 : Jvm.Cond.methodLink own i y ∈ ts) (w2 : Jvm.Cond.instanceMethod y ∈ ts) (w3 : Jvm.Cond.privateMethod y ∈ ts) (w4 : Jvm.Cond.instantiable y.cls kk ∈ ts) (w5 : Jvm.Cond.code y B' ml' rt' ∈ ts) (w6 : Jvm.Cond.initialized y.cls ∈ ts) (hy : y.cls ≠ "java/lang/invoke/MethodHandle" ∧ y.cls ≠ "java/lang/invoke/VarHandle") (E : Exa Z h a C)
    (con : Con l Z y B' ml' rt' rm (.ref a :: as) h n0 Qc) (hS : S = as.reverse ++ .ref a :: st) (hsg : parseMethodDescriptor y.desc = some sg) (hlen : as.length = sg.parameters.length) (hwt : (st.map fun v => v.category).sum = wt) (hsz : L.size = ml) (hf : rm.frames + 1 ≤ R.frames) (hl : wt + (ml' + 11) + rm.locals ≤ R.locals) (hc : cl + rm.cells = cl') (hs : sl + rm.slots = sl') (hc' : cl' ≤ R.cells) (hs' : sl' ≤ R.slots) (k : ∀ v h', Qc v h' → W K h' cl' sl' pc' L (v.toList ++ st)) : W K h cl sl pc L S := by
  obtain ⟨⟨p, l', e', R'⟩, ⟨s, m, args, below⟩, ⟨meth, c⟩, Q', n0'⟩ := K
  obtain ⟨hx, hby, hml, hown, hnm, hrt, hlk, hZ, hw, hn0, hl', hR', hn', hQ'⟩ := O
  dsimp only at hx hby hml hown hnm hrt hlk hZ hn0 hl' hR' hn' hQ'
  subst hl' hR' hn' hQ'
  subst hp hc hs hS hml
  intro T locs X eT N
  have hn1 : n0' ≤ h.size := Nat.le_trans hn0 (by rw [← eT]; exact X.same.2.1)
  obtain ⟨cq, q1, q2⟩ := E.cell
  have hpr : s.PrivateAt y := Cond.privateMethod_at (mvP hZ (hw _ w3) (args := #[]))
  have hsel : (Jvm.Cond.selects y.cls y y).before args s = true := by
    obtain ⟨c1, k1, g1, g2, -, g3, -⟩ := Cond.instantiable_spec (mvT (args := args) hZ (hw _ w4))
    exact selects_self_of_private g1 g2 (by simp at g3; exact g3.1) hpr (mvT hZ (hw _ w2)) hy
  obtain ⟨_, _, ⟨T', L', k', n'⟩, -, X', ⟨Lc, ⟨hQ, hFr⟩, l1, y1, z1⟩, st1⟩ := X.privateBack hx (y := y) hown (mvT hZ (hw _ w1)) (mvT hZ (hw _ w2)) hsel hpr (mvT hZ (hw _ w5)) hy (backOf (W := wt) (Q := fun v h L => Qc v h ∧ Fr n0' L) (con hn1 []) hZ (hw _ w5) (hw _ w6) hf hl) (g := mkF m pc L (as.reverse ++ .ref a :: st)) rfl hsz (Steps.refl _) (a := a) (by rw [eT]; exact q1) q2 (argsL := as) (rest := st) (lenOf hsg hlen) rfl (by show 2 * 0 + _ ≤ _; omega) (hb hby hd) (fun _ _ => ⟨rfl, eT, hc', hs'⟩)
  dsimp only [Pt.U, Pt.locs, Pt.cells, Pt.slots] at X' l1 y1 z1 st1 hQ
  subst l1 y1 z1
  obtain ⟨s2, o, h1, r⟩ := k _ T'.heap hQ T' _ X' rfl (Fr.app N hFr)
  exact ⟨s2, o, st1.trans h1, r⟩
theorem w_init (O : Ok K l Z a0 ts B ml rt own nm R n0 Q) {i ml' wt cl' sl' : Nat} {y : MethodName} {B' : ByteArray} {rm : Room} {as S : List Value} {Qc : Option Value → Heap → Prop} {sg : MethodDescriptor} {a : Addr} (hd : decode B pc = .ok (.invokespecial i, 3)) (hp : pc + 3 = pc') (hin : y.name = "<init>") (w1 : Jvm.Cond.methodLink own i y ∈ ts) (w2 : Jvm.Cond.instanceMethod y ∈ ts) (w3 : Jvm.Cond.initialized y.cls ∈ ts) (w4 : Jvm.Cond.code y B' ml' none ∈ ts) (hy : y.cls ≠ "java/lang/invoke/MethodHandle" ∧ y.cls ≠ "java/lang/invoke/VarHandle")
    (con : Con l Z y B' ml' none rm (.ref a :: as) h n0 Qc) (hS : S = as.reverse ++ .ref a :: st) (hsg : parseMethodDescriptor y.desc = some sg) (hlen : as.length = sg.parameters.length) (hwt : (st.map fun v => v.category).sum = wt) (hsz : L.size = ml) (hf : rm.frames + 1 ≤ R.frames) (hl : wt + (ml' + 11) + rm.locals ≤ R.locals) (hc : cl + rm.cells = cl') (hs : sl + rm.slots = sl') (hc' : cl' ≤ R.cells) (hs' : sl' ≤ R.slots) (k : ∀ v h', Qc v h' → W K h' cl' sl' pc' L (v.toList ++ st)) : W K h cl sl pc L S := by
  obtain ⟨⟨p, l', e', R'⟩, ⟨s, m, args, below⟩, ⟨meth, c⟩, Q', n0'⟩ := K
  obtain ⟨hx, hby, hml, hown, hnm, hrt, hlk, hZ, hw, hn0, hl', hR', hn', hQ'⟩ := O
  dsimp only at hx hby hml hown hnm hrt hlk hZ hn0 hl' hR' hn' hQ'
  subst hl' hR' hn' hQ'
  subst hp hc hs hS hml
  intro T locs X eT N
  have hn1 : n0' ≤ h.size := Nat.le_trans hn0 (by rw [← eT]; exact X.same.2.1)
  obtain ⟨_, _, ⟨T', L', k', n'⟩, -, X', ⟨Lc, ⟨hQ, hFr⟩, l1, y1, z1⟩, st1⟩ := X.specialBack hx (y := y) hin hown (mvT hZ (hw _ w1)) (mvT hZ (hw _ w2)) (mvT hZ (hw _ w4)) hy (backOf (W := wt) (Q := fun v h L => Qc v h ∧ Fr n0' L) (con hn1 []) hZ (hw _ w4) (hw _ w3) hf hl) (g := mkF m pc L (as.reverse ++ .ref a :: st)) rfl hsz (Steps.refl _) (a := a) (argsL := as) (rest := st) (lenOf hsg hlen) rfl (by show 2 * 0 + _ ≤ _; omega) (hb hby hd) (fun _ _ => ⟨rfl, eT, hc', hs'⟩)
  dsimp only [Pt.U, Pt.locs, Pt.cells, Pt.slots] at X' l1 y1 z1 st1 hQ
  subst l1 y1 z1
  obtain ⟨s2, o, h1, r⟩ := k _ T'.heap hQ T' _ X' rfl (Fr.app N hFr)
  exact ⟨s2, o, st1.trans h1, r⟩
theorem w_initB (O : Ok K l Z a0 ts B ml rt own nm R n0 Q) {i ml' wt cl' sl' rc rs : Nat} {y : MethodName} {B' : ByteArray} {as S : List Value} {Qc : Option Value → Heap → List Loc → Prop} {sg : MethodDescriptor} {a : Addr} (hd : decode B pc = .ok (.invokespecial i, 3)) (hp : pc + 3 = pc') (hin : y.name = "<init>") (w1 : Jvm.Cond.methodLink own i y ∈ ts) (w2 : Jvm.Cond.instanceMethod y ∈ ts) (w4 : Jvm.Cond.code y B' ml' none ∈ ts) (hy : y.cls ≠ "java/lang/invoke/MethodHandle" ∧ y.cls ≠ "java/lang/invoke/VarHandle")
    (bk : n0 ≤ h.size → ∀ (p : Program) (e : Env) (below : List Frame) (s : State) (args : Array Value), Z.Warmed39 s.vm → Back l R p e below s args y 3 wt (fun P a' => a' = (Value.ref a :: as).toArray ∧ P.U.heap = h ∧ P.cells + rc ≤ R.cells ∧ P.slots + rs ≤ R.slots) (fun P _ v B => ∃ L, Qc v B.U.heap L ∧ B.locs = P.locs ++ L ∧ B.cells = P.cells + rc ∧ B.slots = P.slots + rs)) (hfr : ∀ v h' L, Qc v h' L → Fr n0 L)
    (hS : S = as.reverse ++ .ref a :: st) (hsg : parseMethodDescriptor y.desc = some sg) (hlen : as.length = sg.parameters.length) (hwt : (st.map fun v => v.category).sum = wt) (hsz : L.size = ml) (hc : cl + rc = cl') (hs : sl + rs = sl') (hc' : cl' ≤ R.cells) (hs' : sl' ≤ R.slots) (k : ∀ v h' Ls, Qc v h' Ls → W K h' cl' sl' pc' L (v.toList ++ st)) : W K h cl sl pc L S := by
  obtain ⟨⟨p, l', e', R'⟩, ⟨s, m, args, below⟩, ⟨meth, c⟩, Q', n0'⟩ := K
  obtain ⟨hx, hby, hml, hown, hnm, hrt, hlk, hZ, hw, hn0, hl', hR', hn', hQ'⟩ := O
  dsimp only at hx hby hml hown hnm hrt hlk hZ hn0 hl' hR' hn' hQ'
  subst hl' hR' hn' hQ'
  subst hp hc hs hS hml
  intro T locs X eT N
  have hn1 : n0' ≤ h.size := Nat.le_trans hn0 (by rw [← eT]; exact X.same.2.1)
  obtain ⟨_, _, ⟨T', L', k', n'⟩, -, X', ⟨Lc, hQ, l1, y1, z1⟩, st1⟩ := X.specialBack hx (y := y) hin hown (mvT hZ (hw _ w1)) (mvT hZ (hw _ w2)) (mvT hZ (hw _ w4)) hy (bk hn1 p e' below s args hZ) (g := mkF m pc L (as.reverse ++ .ref a :: st)) rfl hsz (Steps.refl _) (a := a) (argsL := as) (rest := st) (lenOf hsg hlen) rfl (by show 2 * 0 + _ ≤ _; omega) (hb hby hd) (fun _ _ => ⟨rfl, eT, hc', hs'⟩)
  dsimp only [Pt.U, Pt.locs, Pt.cells, Pt.slots] at X' l1 y1 z1 st1 hQ
  subst l1 y1 z1
  obtain ⟨s2, o, h1, r⟩ := k _ T'.heap _ hQ T' _ X' rfl (Fr.app N (hfr _ _ _ hQ))
  exact ⟨s2, o, st1.trans h1, r⟩
theorem Afn.arv {a : Addr} {ty : FieldType} {n : Nat} {f : Nat → Value} {N : Int32} {vs : List Value} {d : Value} (A : Afn Z h a ty n f) (hN : N.toInt = (n : Int)) (hv : ∀ i, i < n → vs.getD i d = f i) (hf : ∀ i, i < n → fits ty (f i) = true) : ∃ k, Arv Z h a k ty N vs d := by
  obtain ⟨c, A, h1, h2, h3⟩ := A
  refine ⟨c.cls, c, A, rfl, by rw [h1, (tnc hN).1], (tnc hN).2, fun i hi => ?_, fun i hi => ?_⟩
  · rw [h1] at hi; rw [hv i hi]; exact h3 i hi
  · rw [h1] at hi; rw [hv i hi]; exact hf i hi
theorem w_reti {x : Int32} (O : Ok K l Z a0 ts B ml (some .int) own nm R n0 Q) (hd : decode B pc = .ok (.ireturn, 1)) (hc : cl ≤ R.cells) (hs : sl ≤ R.slots) (hq : Q (some (.int x)) h) : W K h cl sl pc L (.int x :: st) := by
  obtain ⟨⟨p, l', e', R'⟩, ⟨s, m, args, below⟩, ⟨meth, c⟩, Q', n0'⟩ := K
  obtain ⟨hx, hby, hml, hown, hnm, hrt, hlk, hZ, hw, hn0, hl', hR', hn', hQ'⟩ := O
  dsimp only at hx hby hml hown hnm hrt hlk hZ hn0 hl' hR' hn' hQ'
  subst hl' hR' hn' hQ'
  intro T locs X eT N
  obtain ⟨fs, hr, hrun, hended, hW, hsame⟩ := X.leave (v := some (.int x)) (fun q => by rw [hrt] at q; cases q) hlk
  refine ⟨_, _, retOut X hx hrt rfl (Or.inl ⟨rfl, Or.inl rfl, _, rfl⟩) (hb hby hd) hr, hrun, hended, _, _, rfl, ⟨?_, N⟩, ⟨_, rfl⟩, hW, hsame.mono hc hs⟩
  show Q' _ T.heap
  rw [eT]; exact hq
theorem w_retz {x : Int32} (O : Ok K l Z a0 ts B ml (some .boolean) own nm R n0 Q) (hd : decode B pc = .ok (.ireturn, 1)) (hc : cl ≤ R.cells) (hs : sl ≤ R.slots) (hz : x = 0 ∨ x = 1) (hq : Q (some (.int x)) h) : W K h cl sl pc L (.int x :: st) := by
  have hna : narrow .boolean (.int x) = .int x := by rcases hz with rfl | rfl <;> rfl
  obtain ⟨⟨p, l', e', R'⟩, ⟨s, m, args, below⟩, ⟨meth, c⟩, Q', n0'⟩ := K
  obtain ⟨hx, hby, hml, hown, hnm, hrt, hlk, hZ, hw, hn0, hl', hR', hn', hQ'⟩ := O
  dsimp only at hx hby hml hown hnm hrt hlk hZ hn0 hl' hR' hn' hQ'
  subst hl' hR' hn' hQ'
  intro T locs X eT N
  obtain ⟨fs, hr, hrun, hended, hW, hsame⟩ := X.leave (v := some (.int x)) (fun q => by rw [hrt] at q; cases q) hlk
  refine ⟨_, _, retOut X hx hrt hna (Or.inl ⟨rfl, Or.inr (Or.inl rfl), _, rfl⟩) (hb hby hd) hr, hrun, hended, _, _, rfl, ⟨?_, N⟩, ⟨_, rfl⟩, hW, hsame.mono hc hs⟩
  show Q' _ T.heap
  rw [eT]; exact hq
theorem w_retl {x : Int64} (O : Ok K l Z a0 ts B ml (some .long) own nm R n0 Q) (hd : decode B pc = .ok (.lreturn, 1)) (hc : cl ≤ R.cells) (hs : sl ≤ R.slots) (hq : Q (some (.long x)) h) : W K h cl sl pc L (.long x :: st) := by
  obtain ⟨⟨p, l', e', R'⟩, ⟨s, m, args, below⟩, ⟨meth, c⟩, Q', n0'⟩ := K
  obtain ⟨hx, hby, hml, hown, hnm, hrt, hlk, hZ, hw, hn0, hl', hR', hn', hQ'⟩ := O
  dsimp only at hx hby hml hown hnm hrt hlk hZ hn0 hl' hR' hn' hQ'
  subst hl' hR' hn' hQ'
  intro T locs X eT N
  obtain ⟨fs, hr, hrun, hended, hW, hsame⟩ := X.leave (v := some (.long x)) (fun q => by rw [hrt] at q; cases q) hlk
  refine ⟨_, _, retOut X hx hrt rfl (Or.inr (Or.inl ⟨rfl, rfl, _, rfl⟩)) (hb hby hd) hr, hrun, hended, _, _, rfl, ⟨?_, N⟩, ⟨_, rfl⟩, hW, hsame.mono hc hs⟩
  show Q' _ T.heap
  rw [eT]; exact hq
theorem w_reta {x : Value} {t : FieldType} (O : Ok K l Z a0 ts B ml (some t) own nm R n0 Q) (hd : decode B pc = .ok (.areturn, 1)) (ht : t.isReference = true) (hna : narrow t x = x) (hx' : x.isRef = true) (hc : cl ≤ R.cells) (hs : sl ≤ R.slots) (hq : Q (some x) h) : W K h cl sl pc L (x :: st) := by
  obtain ⟨⟨p, l', e', R'⟩, ⟨s, m, args, below⟩, ⟨meth, c⟩, Q', n0'⟩ := K
  obtain ⟨hx, hby, hml, hown, hnm, hrt, hlk, hZ, hw, hn0, hl', hR', hn', hQ'⟩ := O
  dsimp only at hx hby hml hown hnm hrt hlk hZ hn0 hl' hR' hn' hQ'
  subst hl' hR' hn' hQ'
  intro T locs X eT N
  obtain ⟨fs, hr, hrun, hended, hW, hsame⟩ := X.leave (v := some x) (fun q => by rw [hrt] at q; cases q) hlk
  refine ⟨_, _, retOut X hx hrt hna (Or.inr (Or.inr (Or.inr (Or.inr ⟨rfl, ht, hx'⟩)))) (hb hby hd) hr, hrun, hended, _, _, rfl, ⟨?_, N⟩, ⟨_, rfl⟩, hW, hsame.mono hc hs⟩
  show Q' _ T.heap
  rw [eT]; exact hq
theorem w_retv (O : Ok K l Z a0 ts B ml none own nm R n0 Q) (hd : decode B pc = .ok (.return_, 1)) (hc : cl ≤ R.cells) (hs : sl ≤ R.slots) (hq : Q none h) : W K h cl sl pc L [] := by
  obtain ⟨⟨p, l', e', R'⟩, ⟨s, m, args, below⟩, ⟨meth, c⟩, Q', n0'⟩ := K
  obtain ⟨hx, hby, hml, hown, hnm, hrt, hlk, hZ, hw, hn0, hl', hR', hn', hQ'⟩ := O
  dsimp only at hx hby hml hown hnm hrt hlk hZ hn0 hl' hR' hn' hQ'
  subst hl' hR' hn' hQ'
  intro T locs X eT N
  obtain ⟨fs, hr, hrun, hended, hW, hsame⟩ := X.leave (v := none) (fun _ => rfl) hlk
  refine ⟨_, _, X.returnOut hx hrt (hb hby hd) hr, hrun, hended, _, _, rfl, ⟨?_, N⟩, ⟨_, rfl⟩, hW, hsame.mono hc hs⟩
  show Q' _ T.heap
  rw [eT]; exact hq
theorem nz32 {y : Int32} (q : ¬ y.toInt = 0) : y ≠ 0 := by rintro rfl; exact q (by decide)
theorem nz64 {y : Int64} (q : ¬ y.toInt = 0) : y ≠ 0 := by rintro rfl; exact q (by decide)
theorem of_nat32 {q : Int32} {n : Nat} (hn : q.toInt = (n : Int)) : q = Int32.ofNat n := by
  have h1 := rng32 q
  apply Int32.toInt_inj.mp
  rw [hn, Int32.toInt_ofNat_of_lt (by omega)]
theorem c_lremP (x y : Int64) (d : Int) (hy : y.toInt = d) : (0 ≤ x.toInt → (x % y).toInt = x.toInt % d) ∧ (x.toInt < 0 → (x % y).toInt = -((-x.toInt) % d)) := by rw [← lrem_mod]; exact c_lrem x y d hy
end OwnW

theorem mw {d : Jvm.Cond} (k : Nat) (q : tables_1[k]? = some d) : d ∈ tables_1 := List.mem_of_getElem? q
def Stk (Z : State) (h : Heap) (n0 : Nat) (a r : Addr) (z : Int32) (f : Nat → Value) : Prop := Exa Z h a "com/example/mutex_explorer/mutexexplorer/IntStack" ∧ Fld Z h a "com/example/mutex_explorer/mutexexplorer/IntStack" "elements" "[I" (.ref r) ∧ Fld Z h a "com/example/mutex_explorer/mutexexplorer/IntStack" "size" "I" (.int z) ∧ Afn Z h r .int 64 f ∧ a ≠ r ∧ n0 ≤ a ∧ n0 ≤ r
theorem d1_0 : decode prog_10_method_1_code 0 = .ok (.aload_n 0, 1) := by decide +kernel
theorem d1_1 : decode prog_10_method_1_code 1 = .ok (.invokespecial 1, 3) := by decide +kernel
theorem d1_4 : decode prog_10_method_1_code 4 = .ok (.aload_n 0, 1) := by decide +kernel
theorem d1_5 : decode prog_10_method_1_code 5 = .ok (.bipush 64, 2) := by decide +kernel
theorem d1_7 : decode prog_10_method_1_code 7 = .ok (.newarray .int, 2) := by decide +kernel
theorem d1_9 : decode prog_10_method_1_code 9 = .ok (.putfield 7, 3) := by decide +kernel
theorem d1_12 : decode prog_10_method_1_code 12 = .ok (.return_, 1) := by decide +kernel
theorem pn_1 : plainFor (⟨"com/example/mutex_explorer/mutexexplorer/IntStack", "<init>", "()V"⟩ : MethodName) = true := plainFor_of_name (by first | (simp [plainName, overriddenIn]; done) | decide +kernel)
set_option maxRecDepth 65536 in
set_option maxHeartbeats 40000000 in
theorem con_init (l : Launch) (Z : State) (a0 : Array Value) (hw : ∀ d ∈ tables_1, d.before a0 Z = true) (a : Addr) (h0 : Heap) (n0 : Nat) (hE : Exa Z h0 a "com/example/mutex_explorer/mutexexplorer/IntStack") (hEl : Fld Z h0 a "com/example/mutex_explorer/mutexexplorer/IntStack" "elements" "[I" .null) (hSz : Fld Z h0 a "com/example/mutex_explorer/mutexexplorer/IntStack" "size" "I" (.int (0 : Int32))) (ga : n0 ≤ a) :
    Con l Z (⟨"com/example/mutex_explorer/mutexexplorer/IntStack", "<init>", "()V"⟩ : MethodName) prog_10_method_1_code 1 none ⟨1, 1, 64, 13⟩ [(.ref a)] h0 n0 (RetV fun h => ∃ r, Stk Z h n0 a r 0 (fun _ => .int 0)) := by
  refine Con.body (L0 := #[.val (.ref a)]) hw pn_1 (fun m => by first | (simp [entryFrame, mkF, argsToLocals, Value.category]; done) | rfl) (fun K O => ?_)
  refine w_aloadN O d1_0 (pc' := 1) rfl rfl rfl ?_
  refine w_objinit O d1_1 (wt := 0) (pc' := 4) rfl (mw 6 rfl) (mw 7 rfl) (mw 8 rfl) rfl rfl (by decide) (by decide) ?_
  refine w_aloadN O d1_4 (pc' := 5) rfl rfl rfl ?_
  refine w_bipush O d1_5 (z := (64 : Int32)) (pc' := 7) rfl rfl ?_
  refine w_newarr O d1_7 (ty := .int) (dv := (.int (0 : Int32))) (n := 64) (cap := 64) (cl' := 1) (sl' := 64) (pc' := 9) rfl rfl rfl (mw 9 rfl) (by decide) (by decide) (by decide) rfl rfl (by decide) (by decide) (fun h1 r qr g_r Eh1 A_r => ?_)
  have ne_a_r : a ≠ r := Nat.ne_of_lt (by rw [qr]; exact hE.lt)
  have hE_h1 := Exa.ext Eh1 hE
  have hEl_h1 := Fld.ext Eh1 hEl
  have hSz_h1 := Fld.ext Eh1 hSz
  refine w_putf O d1_9 (pc' := 12) rfl (mw 10 rfl) (mw 1 rfl) (Or.inl (mw 11 rfl)) hEl_h1 hE_h1 ga (ty := (.array .int)) (by decide) rfl rfl (fun h3 Wh3 => ?_)
  have hE_h3 := hE_h1.wr Wh3
  have hEl_h3 := Fld.same Wh3 hEl_h1
  have hSz_h3 := Fld.other Wh3 hSz_h1 (Or.inr (Jvm.RoadKit.slot_ne (Or.inl (O.2.2.2.2.2.2.2.2.1 _ (mw 18 rfl))) (Or.inl (O.2.2.2.2.2.2.2.2.1 _ (mw 11 rfl))) (by decide) (t := .int) (t' := (.array .int)) (by decide) (by decide)))
  have A_r_h3 := A_r.other Wh3 (Ne.symm ne_a_r)
  refine w_retv O d1_12 (by decide) (by decide) ?_
  exact ⟨rfl, r, hE_h3, hEl_h3, hSz_h3, A_r_h3, ne_a_r, ga, g_r⟩
theorem d5_0 : decode prog_10_method_2_code 0 = .ok (.aload_n 0, 1) := by decide +kernel
theorem d5_1 : decode prog_10_method_2_code 1 = .ok (.getfield 13, 3) := by decide +kernel
theorem d5_4 : decode prog_10_method_2_code 4 = .ok (.aload_n 0, 1) := by decide +kernel
theorem d5_5 : decode prog_10_method_2_code 5 = .ok (.getfield 7, 3) := by decide +kernel
theorem d5_8 : decode prog_10_method_2_code 8 = .ok (.arraylength, 1) := by decide +kernel
theorem d5_9 : decode prog_10_method_2_code 9 = .ok (.if_icmp .ne 21, 3) := by decide +kernel
theorem d5_12 : decode prog_10_method_2_code 12 = .ok (.aload_n 0, 1) := by decide +kernel
theorem d5_13 : decode prog_10_method_2_code 13 = .ok (.aload_n 0, 1) := by decide +kernel
theorem d5_14 : decode prog_10_method_2_code 14 = .ok (.getfield 7, 3) := by decide +kernel
theorem d5_17 : decode prog_10_method_2_code 17 = .ok (.aload_n 0, 1) := by decide +kernel
theorem d5_18 : decode prog_10_method_2_code 18 = .ok (.getfield 7, 3) := by decide +kernel
theorem d5_21 : decode prog_10_method_2_code 21 = .ok (.arraylength, 1) := by decide +kernel
theorem d5_22 : decode prog_10_method_2_code 22 = .ok (.iconst 2, 1) := by decide +kernel
theorem d5_23 : decode prog_10_method_2_code 23 = .ok (.imul, 1) := by decide +kernel
theorem d5_24 : decode prog_10_method_2_code 24 = .ok (.invokestatic 17, 3) := by decide +kernel
theorem d5_27 : decode prog_10_method_2_code 27 = .ok (.putfield 7, 3) := by decide +kernel
theorem d5_30 : decode prog_10_method_2_code 30 = .ok (.aload_n 0, 1) := by decide +kernel
theorem d5_31 : decode prog_10_method_2_code 31 = .ok (.getfield 7, 3) := by decide +kernel
theorem d5_34 : decode prog_10_method_2_code 34 = .ok (.aload_n 0, 1) := by decide +kernel
theorem d5_35 : decode prog_10_method_2_code 35 = .ok (.getfield 13, 3) := by decide +kernel
theorem d5_38 : decode prog_10_method_2_code 38 = .ok (.iload_n 1, 1) := by decide +kernel
theorem d5_39 : decode prog_10_method_2_code 39 = .ok (.iastore, 1) := by decide +kernel
theorem d5_40 : decode prog_10_method_2_code 40 = .ok (.aload_n 0, 1) := by decide +kernel
theorem d5_41 : decode prog_10_method_2_code 41 = .ok (.dup, 1) := by decide +kernel
theorem d5_42 : decode prog_10_method_2_code 42 = .ok (.getfield 13, 3) := by decide +kernel
theorem d5_45 : decode prog_10_method_2_code 45 = .ok (.iconst 1, 1) := by decide +kernel
theorem d5_46 : decode prog_10_method_2_code 46 = .ok (.iadd, 1) := by decide +kernel
theorem d5_47 : decode prog_10_method_2_code 47 = .ok (.putfield 13, 3) := by decide +kernel
theorem d5_50 : decode prog_10_method_2_code 50 = .ok (.return_, 1) := by decide +kernel
theorem pn_5 : plainFor (⟨"com/example/mutex_explorer/mutexexplorer/IntStack", "push", "(I)V"⟩ : MethodName) = true := plainFor_of_name (by first | (simp [plainName, overriddenIn]; done) | decide +kernel)
set_option maxRecDepth 65536 in
set_option maxHeartbeats 40000000 in
theorem con_push (l : Launch) (Z : State) (a0 : Array Value) (hw : ∀ d ∈ tables_1, d.before a0 Z = true) (a r : Addr) (z : Int32) (f : Nat → Value) (x : Int32) (h0 : Heap) (n0 : Nat) (z' : Int32) (i : Nat) (S : Stk Z h0 n0 a r z f) (hz : z.toInt = (i : Int)) (hi : i < 63) (hz' : z + 1 = z') :
    Con l Z (⟨"com/example/mutex_explorer/mutexexplorer/IntStack", "push", "(I)V"⟩ : MethodName) prog_10_method_2_code 2 none ⟨0, 0, 0, 0⟩ [(.ref a), (.int x)] h0 n0 (RetV fun h => Stk Z h n0 a r z' (upd f i (.int x))) := by
  refine Con.body (L0 := #[.val (.ref a), .val (.int x)]) hw pn_5 (fun m => by first | (simp [entryFrame, mkF, argsToLocals, Value.category]; done) | rfl) (fun K O => ?_)
  obtain ⟨hE, hEl, hSz, hA, hne, ga, gr⟩ := S
  refine w_aloadN O d5_0 (pc' := 1) rfl rfl rfl ?_
  refine w_getf O d5_1 (pc' := 4) rfl (mw 17 rfl) hSz ?_
  refine w_aloadN O d5_4 (pc' := 5) rfl rfl rfl ?_
  refine w_getf O d5_5 (pc' := 8) rfl (mw 10 rfl) hEl ?_
  refine w_alen O d5_8 (z := (64 : Int32)) (pc' := 9) rfl hA (by decide) ?_
  refine w_icmp_ne O d5_9 (pn := 12) (pt := 30) rfl (by decide) rfl (fun c9 => ?_) (fun c9 => absurd (show z.toInt = 64 from c9) (by omega))
  replace c9 : ¬ z.toInt = 64 := c9
  refine w_aloadN O d5_30 (pc' := 31) rfl rfl rfl ?_
  refine w_getf O d5_31 (pc' := 34) rfl (mw 10 rfl) hEl ?_
  refine w_aloadN O d5_34 (pc' := 35) rfl rfl rfl ?_
  refine w_getf O d5_35 (pc' := 38) rfl (mw 17 rfl) hSz ?_
  refine w_iloadN O d5_38 (pc' := 39) rfl rfl ?_
  refine w_iastore O d5_39 (i := i) (pc' := 40) rfl hA hz (by omega) gr (fun h1 Wh1 => ?_)
  have hE_h1 := hE.wr Wh1
  have hEl_h1 := Fld.other Wh1 hEl (Or.inl hne)
  have hSz_h1 := Fld.other Wh1 hSz (Or.inl hne)
  have hA_h1 := hA.set Wh1
  refine w_aloadN O d5_40 (pc' := 41) rfl rfl rfl ?_
  refine w_dup O d5_41 (pc' := 42) rfl rfl ?_
  refine w_getf O d5_42 (pc' := 45) rfl (mw 17 rfl) hSz_h1 ?_
  refine w_iconst O d5_45 (z := (1 : Int32)) (pc' := 46) rfl rfl ?_
  refine w_iadd O d5_46 (pc' := 47) rfl ?_
  refine w_putf O d5_47 (pc' := 50) rfl (mw 17 rfl) (mw 1 rfl) (Or.inl (mw 18 rfl)) hSz_h1 hE_h1 ga (ty := .int) (by decide) rfl rfl (fun h2 Wh2 => ?_)
  have hE_h2 := hE_h1.wr Wh2
  have hEl_h2 := Fld.other Wh2 hEl_h1 (Or.inr (Jvm.RoadKit.slot_ne (Or.inl (O.2.2.2.2.2.2.2.2.1 _ (mw 11 rfl))) (Or.inl (O.2.2.2.2.2.2.2.2.1 _ (mw 18 rfl))) (by decide) (t := (.array .int)) (t' := .int) (by decide) (by decide)))
  have hSz_h2 := Fld.same Wh2 hSz_h1
  have hA_h2 := hA_h1.other Wh2 (Ne.symm hne)
  refine w_retv O d5_50 (by decide) (by decide) ?_
  subst hz'
  exact ⟨rfl, ⟨hE_h2, hEl_h2, hSz_h2, hA_h2, hne, ga, gr⟩⟩
theorem d7_0 : decode prog_10_method_3_code 0 = .ok (.aload_n 0, 1) := by decide +kernel
theorem d7_1 : decode prog_10_method_3_code 1 = .ok (.dup, 1) := by decide +kernel
theorem d7_2 : decode prog_10_method_3_code 2 = .ok (.getfield 13, 3) := by decide +kernel
theorem d7_5 : decode prog_10_method_3_code 5 = .ok (.iconst 1, 1) := by decide +kernel
theorem d7_6 : decode prog_10_method_3_code 6 = .ok (.isub, 1) := by decide +kernel
theorem d7_7 : decode prog_10_method_3_code 7 = .ok (.putfield 13, 3) := by decide +kernel
theorem d7_10 : decode prog_10_method_3_code 10 = .ok (.aload_n 0, 1) := by decide +kernel
theorem d7_11 : decode prog_10_method_3_code 11 = .ok (.getfield 7, 3) := by decide +kernel
theorem d7_14 : decode prog_10_method_3_code 14 = .ok (.aload_n 0, 1) := by decide +kernel
theorem d7_15 : decode prog_10_method_3_code 15 = .ok (.getfield 13, 3) := by decide +kernel
theorem d7_18 : decode prog_10_method_3_code 18 = .ok (.iaload, 1) := by decide +kernel
theorem d7_19 : decode prog_10_method_3_code 19 = .ok (.ireturn, 1) := by decide +kernel
theorem pn_7 : plainFor (⟨"com/example/mutex_explorer/mutexexplorer/IntStack", "pop", "()I"⟩ : MethodName) = true := plainFor_of_name (by first | (simp [plainName, overriddenIn]; done) | decide +kernel)
set_option maxRecDepth 65536 in
set_option maxHeartbeats 40000000 in
theorem con_pop (l : Launch) (Z : State) (a0 : Array Value) (hw : ∀ d ∈ tables_1, d.before a0 Z = true) (a r : Addr) (z : Int32) (f : Nat → Value) (h0 : Heap) (n0 : Nat) (z' x : Int32) (i : Nat) (S : Stk Z h0 n0 a r z f) (hz : z - 1 = z') (hz' : z'.toInt = (i : Int)) (hi : i < 64) (hx : f i = .int x) :
    Con l Z (⟨"com/example/mutex_explorer/mutexexplorer/IntStack", "pop", "()I"⟩ : MethodName) prog_10_method_3_code 1 (some .int) ⟨0, 0, 0, 0⟩ [(.ref a)] h0 n0 (RetI fun q h => q = x ∧ Stk Z h n0 a r z' f) := by
  refine Con.body (L0 := #[.val (.ref a)]) hw pn_7 (fun m => by first | (simp [entryFrame, mkF, argsToLocals, Value.category]; done) | rfl) (fun K O => ?_)
  obtain ⟨hE, hEl, hSz, hA, hne, ga, gr⟩ := S
  subst hz
  refine w_aloadN O d7_0 (pc' := 1) rfl rfl rfl ?_
  refine w_dup O d7_1 (pc' := 2) rfl rfl ?_
  refine w_getf O d7_2 (pc' := 5) rfl (mw 17 rfl) hSz ?_
  refine w_iconst O d7_5 (z := (1 : Int32)) (pc' := 6) rfl rfl ?_
  refine w_isub O d7_6 (pc' := 7) rfl ?_
  refine w_putf O d7_7 (pc' := 10) rfl (mw 17 rfl) (mw 1 rfl) (Or.inl (mw 18 rfl)) hSz hE ga (ty := .int) (by decide) rfl rfl (fun h1 Wh1 => ?_)
  have hE_h1 := hE.wr Wh1
  have hEl_h1 := Fld.other Wh1 hEl (Or.inr (Jvm.RoadKit.slot_ne (Or.inl (O.2.2.2.2.2.2.2.2.1 _ (mw 11 rfl))) (Or.inl (O.2.2.2.2.2.2.2.2.1 _ (mw 18 rfl))) (by decide) (t := (.array .int)) (t' := .int) (by decide) (by decide)))
  have hSz_h1 := Fld.same Wh1 hSz
  have hA_h1 := hA.other Wh1 (Ne.symm hne)
  refine w_aloadN O d7_10 (pc' := 11) rfl rfl rfl ?_
  refine w_getf O d7_11 (pc' := 14) rfl (mw 10 rfl) hEl_h1 ?_
  refine w_aloadN O d7_14 (pc' := 15) rfl rfl rfl ?_
  refine w_getf O d7_15 (pc' := 18) rfl (mw 17 rfl) hSz_h1 ?_
  have i2 : ((z - (1 : Int32)).toInt - (z.toInt - 1)) % 4294967296 = 0 := c_isub z (1 : Int32)
  have i3 := rng32 (z - (1 : Int32))
  refine w_iaload O d7_18 (i := i) (x := x) (pc' := 19) rfl hA_h1 hz' hi hx ?_
  refine w_reti O d7_19 (by decide) (by decide) ?_
  exact ⟨_, rfl, rfl, ⟨hE_h1, hEl_h1, hSz_h1, hA_h1, hne, ga, gr⟩⟩
theorem d4_0 : decode prog_10_method_7_code 0 = .ok (.aload_n 0, 1) := by decide +kernel
theorem d4_1 : decode prog_10_method_7_code 1 = .ok (.getfield 13, 3) := by decide +kernel
theorem d4_4 : decode prog_10_method_7_code 4 = .ok (.ireturn, 1) := by decide +kernel
theorem pn_4 : plainFor (⟨"com/example/mutex_explorer/mutexexplorer/IntStack", "size", "()I"⟩ : MethodName) = true := plainFor_of_name (by first | (simp [plainName, overriddenIn]; done) | decide +kernel)
set_option maxRecDepth 65536 in
set_option maxHeartbeats 40000000 in
theorem con_size (l : Launch) (Z : State) (a0 : Array Value) (hw : ∀ d ∈ tables_1, d.before a0 Z = true) (a r : Addr) (z : Int32) (f : Nat → Value) (h0 : Heap) (n0 : Nat) (S : Stk Z h0 n0 a r z f) :
    Con l Z (⟨"com/example/mutex_explorer/mutexexplorer/IntStack", "size", "()I"⟩ : MethodName) prog_10_method_7_code 1 (some .int) ⟨0, 0, 0, 0⟩ [(.ref a)] h0 n0 (RetI fun q h => h = h0 ∧ q = z) := by
  refine Con.body (L0 := #[.val (.ref a)]) hw pn_4 (fun m => by first | (simp [entryFrame, mkF, argsToLocals, Value.category]; done) | rfl) (fun K O => ?_)
  obtain ⟨hE, hEl, hSz, hA, hne, ga, gr⟩ := S
  refine w_aloadN O d4_0 (pc' := 1) rfl rfl rfl ?_
  refine w_getf O d4_1 (pc' := 4) rfl (mw 17 rfl) hSz ?_
  refine w_reti O d4_4 (by decide) (by decide) ?_
  exact ⟨_, rfl, rfl, rfl⟩
theorem Stk.wr {Z : State} {h h' : Heap} {n0 : Nat} {a r b : Addr} {z : Int32} {f : Nat → Value} {i : Nat} {v : Value} (S : Stk Z h n0 a r z f) (Wq : Wr h h' b i v) (q1 : a ≠ b) (q2 : r ≠ b) : Stk Z h' n0 a r z f :=
  ⟨S.1.wr Wq, S.2.1.other Wq (Or.inl q1), S.2.2.1.other Wq (Or.inl q1), S.2.2.2.1.other Wq q2, S.2.2.2.2⟩
theorem d6_0 : decode prog_10_method_4_code 0 = .ok (.aload_n 0, 1) := by decide +kernel
theorem d6_1 : decode prog_10_method_4_code 1 = .ok (.getfield 7, 3) := by decide +kernel
theorem d6_4 : decode prog_10_method_4_code 4 = .ok (.aload_n 0, 1) := by decide +kernel
theorem d6_5 : decode prog_10_method_4_code 5 = .ok (.getfield 13, 3) := by decide +kernel
theorem d6_8 : decode prog_10_method_4_code 8 = .ok (.iconst 1, 1) := by decide +kernel
theorem d6_9 : decode prog_10_method_4_code 9 = .ok (.isub, 1) := by decide +kernel
theorem d6_10 : decode prog_10_method_4_code 10 = .ok (.iaload, 1) := by decide +kernel
theorem d6_11 : decode prog_10_method_4_code 11 = .ok (.ireturn, 1) := by decide +kernel
theorem pn_6 : plainFor (⟨"com/example/mutex_explorer/mutexexplorer/IntStack", "peek", "()I"⟩ : MethodName) = true := plainFor_of_name (by first | (simp [plainName, overriddenIn]; done) | decide +kernel)
set_option maxRecDepth 65536 in
set_option maxHeartbeats 40000000 in
theorem con_peek (l : Launch) (Z : State) (a0 : Array Value) (hw : ∀ d ∈ tables_1, d.before a0 Z = true) (a r : Addr) (z : Int32) (f : Nat → Value) (h0 : Heap) (n0 : Nat) (z' x : Int32) (i : Nat) (S : Stk Z h0 n0 a r z f) (hz : z - 1 = z') (hz' : z'.toInt = (i : Int)) (hi : i < 64) (hx : f i = .int x) :
    Con l Z (⟨"com/example/mutex_explorer/mutexexplorer/IntStack", "peek", "()I"⟩ : MethodName) prog_10_method_4_code 1 (some .int) ⟨0, 0, 0, 0⟩ [(.ref a)] h0 n0 (RetI fun q h => h = h0 ∧ q = x) := by
  refine Con.body (L0 := #[.val (.ref a)]) hw pn_6 (fun m => by first | (simp [entryFrame, mkF, argsToLocals, Value.category]; done) | rfl) (fun K O => ?_)
  obtain ⟨hE, hEl, hSz, hA, hne, ga, gr⟩ := S
  subst hz
  refine w_aloadN O d6_0 (pc' := 1) rfl rfl rfl ?_
  refine w_getf O d6_1 (pc' := 4) rfl (mw 10 rfl) hEl ?_
  refine w_aloadN O d6_4 (pc' := 5) rfl rfl rfl ?_
  refine w_getf O d6_5 (pc' := 8) rfl (mw 17 rfl) hSz ?_
  refine w_iconst O d6_8 (z := (1 : Int32)) (pc' := 9) rfl rfl ?_
  refine w_isub O d6_9 (pc' := 10) rfl ?_
  have i1 : ((z - (1 : Int32)).toInt - (z.toInt - 1)) % 4294967296 = 0 := c_isub z (1 : Int32)
  have i2 := rng32 (z - (1 : Int32))
  refine w_iaload O d6_10 (i := i) (x := x) (pc' := 11) rfl hA hz' hi hx ?_
  refine w_reti O d6_11 (by decide) (by decide) ?_
  exact ⟨_, rfl, rfl, rfl⟩
theorem d3_0 : decode prog_10_method_10_code 0 = .ok (.aload_n 0, 1) := by decide +kernel
theorem d3_1 : decode prog_10_method_10_code 1 = .ok (.getfield 13, 3) := by decide +kernel
theorem d3_4 : decode prog_10_method_10_code 4 = .ok (.newarray .int, 2) := by decide +kernel
theorem d3_6 : decode prog_10_method_10_code 6 = .ok (.astore_n 1, 1) := by decide +kernel
theorem d3_7 : decode prog_10_method_10_code 7 = .ok (.iconst 0, 1) := by decide +kernel
theorem d3_8 : decode prog_10_method_10_code 8 = .ok (.istore_n 2, 1) := by decide +kernel
theorem d3_9 : decode prog_10_method_10_code 9 = .ok (.iload_n 2, 1) := by decide +kernel
theorem d3_10 : decode prog_10_method_10_code 10 = .ok (.aload_n 0, 1) := by decide +kernel
theorem d3_11 : decode prog_10_method_10_code 11 = .ok (.getfield 13, 3) := by decide +kernel
theorem d3_14 : decode prog_10_method_10_code 14 = .ok (.if_icmp .ge 25, 3) := by decide +kernel
theorem d3_17 : decode prog_10_method_10_code 17 = .ok (.aload_n 1, 1) := by decide +kernel
theorem d3_18 : decode prog_10_method_10_code 18 = .ok (.iload_n 2, 1) := by decide +kernel
theorem d3_19 : decode prog_10_method_10_code 19 = .ok (.aload_n 0, 1) := by decide +kernel
theorem d3_20 : decode prog_10_method_10_code 20 = .ok (.getfield 7, 3) := by decide +kernel
theorem d3_23 : decode prog_10_method_10_code 23 = .ok (.aload_n 0, 1) := by decide +kernel
theorem d3_24 : decode prog_10_method_10_code 24 = .ok (.getfield 13, 3) := by decide +kernel
theorem d3_27 : decode prog_10_method_10_code 27 = .ok (.iconst 1, 1) := by decide +kernel
theorem d3_28 : decode prog_10_method_10_code 28 = .ok (.isub, 1) := by decide +kernel
theorem d3_29 : decode prog_10_method_10_code 29 = .ok (.iload_n 2, 1) := by decide +kernel
theorem d3_30 : decode prog_10_method_10_code 30 = .ok (.isub, 1) := by decide +kernel
theorem d3_31 : decode prog_10_method_10_code 31 = .ok (.iaload, 1) := by decide +kernel
theorem d3_32 : decode prog_10_method_10_code 32 = .ok (.iastore, 1) := by decide +kernel
theorem d3_33 : decode prog_10_method_10_code 33 = .ok (.iinc 2 1, 3) := by decide +kernel
theorem d3_36 : decode prog_10_method_10_code 36 = .ok (.goto (-27), 3) := by decide +kernel
theorem d3_39 : decode prog_10_method_10_code 39 = .ok (.aload_n 1, 1) := by decide +kernel
theorem d3_40 : decode prog_10_method_10_code 40 = .ok (.areturn, 1) := by decide +kernel
theorem pn_3 : plainFor (⟨"com/example/mutex_explorer/mutexexplorer/IntStack", "topFirst", "()[I"⟩ : MethodName) = true := plainFor_of_name (by first | (simp [plainName, overriddenIn]; done) | decide +kernel)
set_option maxRecDepth 65536 in
set_option maxHeartbeats 40000000 in
theorem con_top (l : Launch) (Z : State) (a0 : Array Value) (hw : ∀ d ∈ tables_1, d.before a0 Z = true) (a r : Addr) (z : Int32) (f : Nat → Value) (h0 : Heap) (n0 : Nat) (n : Nat) (S : Stk Z h0 n0 a r z f) (hz : z.toInt = (n : Int)) (hn : n ≤ 3) (hf : ∀ j, j < n → ∃ x, f j = .int x) :
    Con l Z (⟨"com/example/mutex_explorer/mutexexplorer/IntStack", "topFirst", "()[I"⟩ : MethodName) prog_10_method_10_code 3 (some (.array .int)) ⟨0, 1, 3, 0⟩ [(.ref a)] h0 n0 (RetA fun v h => ∃ b, v = .ref b ∧ Stk Z h n0 a r z f ∧ Afn Z h b .int n (fun j => f (n - 1 - j)) ∧ a ≠ b ∧ r ≠ b ∧ n0 ≤ b) := by
  refine Con.body (L0 := #[.val (.ref a), .unset, .unset]) hw pn_3 (fun m => by first | (simp [entryFrame, mkF, argsToLocals, Value.category]; done) | rfl) (fun K O => ?_)
  have loop : ∀ (b : Addr), a ≠ b → r ≠ b → n0 ≤ b → ∀ (d k : Nat) (i : Int32) (h : Heap), Stk Z h n0 a r z f → Afn Z h b .int n (fun j => if j < k then f (n - 1 - j) else .int 0) → i.toInt = (k : Int) → k + d = n → W K h 1 3 9 #[.val (.ref a), .val (.ref b), .val (.int i)] [] := by
    intro b nab nrb gb d
    induction d with
    | zero =>
      intro k i h S hB hi hk
      obtain ⟨hE, hEl, hSz, hA, hne, ga, gr⟩ := S
      refine w_iloadN O d3_9 (pc' := 10) rfl rfl ?_
      refine w_aloadN O d3_10 (pc' := 11) rfl rfl rfl ?_
      refine w_getf O d3_11 (pc' := 14) rfl (mw 17 rfl) hSz ?_
      refine w_icmp_ge O d3_14 (pn := 17) (pt := 39) rfl (by decide) rfl (fun c14 => ?_) (fun c14 => absurd (show i.toInt < z.toInt from c14) (by omega))
      refine w_aloadN O d3_39 (pc' := 40) rfl rfl rfl ?_
      refine w_reta O d3_40 rfl rfl rfl (by decide) (by decide) ?_
      exact ⟨_, rfl, rfl, b, rfl, ⟨hE, hEl, hSz, hA, hne, ga, gr⟩, hB.congr (fun j hj => if_pos (by omega)), nab, nrb, gb⟩
    | succ d ih =>
      intro k i h S hB hi hk
      obtain ⟨hE, hEl, hSz, hA, hne, ga, gr⟩ := S
      obtain ⟨x, hx⟩ := hf (n - 1 - k) (by omega)
      refine w_iloadN O d3_9 (pc' := 10) rfl rfl ?_
      refine w_aloadN O d3_10 (pc' := 11) rfl rfl rfl ?_
      refine w_getf O d3_11 (pc' := 14) rfl (mw 17 rfl) hSz ?_
      refine w_icmp_ge O d3_14 (pn := 17) (pt := 39) rfl (by decide) rfl (fun c14 => absurd (show ¬ i.toInt < z.toInt from c14) (by omega)) (fun c14 => ?_)
      refine w_aloadN O d3_17 (pc' := 18) rfl rfl rfl ?_
      refine w_iloadN O d3_18 (pc' := 19) rfl rfl ?_
      refine w_aloadN O d3_19 (pc' := 20) rfl rfl rfl ?_
      refine w_getf O d3_20 (pc' := 23) rfl (mw 10 rfl) hEl ?_
      refine w_aloadN O d3_23 (pc' := 24) rfl rfl rfl ?_
      refine w_getf O d3_24 (pc' := 27) rfl (mw 17 rfl) hSz ?_
      refine w_iconst O d3_27 (z := (1 : Int32)) (pc' := 28) rfl rfl ?_
      refine w_isub O d3_28 (pc' := 29) rfl ?_
      refine w_iloadN O d3_29 (pc' := 30) rfl rfl ?_
      refine w_isub O d3_30 (pc' := 31) rfl ?_
      have i1 : ((z - (1 : Int32)).toInt - (z.toInt - 1)) % 4294967296 = 0 := c_isub z (1 : Int32)
      have i2 := rng32 (z - (1 : Int32))
      have i3 : (((z - (1 : Int32)) - i).toInt - ((z - (1 : Int32)).toInt - i.toInt)) % 4294967296 = 0 := c_isub (z - (1 : Int32)) i
      have i4 := rng32 ((z - (1 : Int32)) - i)
      refine w_iaload O d3_31 (i := (n - 1 - k)) (x := x) (pc' := 32) rfl hA (by omega) (by omega) hx ?_
      refine w_iastore O d3_32 (i := k) (pc' := 33) rfl hB hi (by omega) gb (fun h5 Wh5 => ?_)
      have hE_h5 := hE.wr Wh5
      have hEl_h5 := Fld.other Wh5 hEl (Or.inl nab)
      have hSz_h5 := Fld.other Wh5 hSz (Or.inl nab)
      have hA_h5 := hA.other Wh5 nrb
      have hB_h5 := hB.set Wh5
      refine w_iincG O d3_33 (y := (1 : Int32)) (L' := fun zq => #[.val (.ref a), .val (.ref b), .val (.int zq)]) (pc' := 36) rfl rfl rfl (fun _ => rfl) (fun i' e_i' => ?_)
      have i7 : ((i + (1 : Int32)).toInt - (i.toInt + 1)) % 4294967296 = 0 := c_iadd i (1 : Int32)
      have i8 := rng32 (i + (1 : Int32))
      have j_i' := congrArg Int32.toInt e_i'
      refine w_goto O d3_36 (pc' := 9) (by decide) rfl ?_
      refine ih (k + 1) i' h5 ⟨hE_h5, hEl_h5, hSz_h5, hA_h5, hne, ga, gr⟩ (hB_h5.congr fun j hj => ?_) (by omega) (by omega)
      unfold upd
      by_cases q1 : j = k
      · rw [if_pos q1, if_pos (by omega), q1, hx]
      · rw [if_neg q1]
        try dsimp only
        by_cases q2 : j < k
        · rw [if_pos q2, if_pos (by omega)]
        · rw [if_neg q2, if_neg (by omega)]
  obtain ⟨hE, hEl, hSz, hA, hne, ga, gr⟩ := S
  refine w_aloadN O d3_0 (pc' := 1) rfl rfl rfl ?_
  refine w_getf O d3_1 (pc' := 4) rfl (mw 17 rfl) hSz ?_
  refine w_newarr O d3_4 (ty := .int) (dv := (.int (0 : Int32))) (n := n) (cap := 3) (cl' := 1) (sl' := 3) (pc' := 6) rfl rfl rfl (mw 9 rfl) hz hn (by decide) rfl rfl (by decide) (by decide) (fun h1 b qb g_b Eh1 A_b => ?_)
  have ne_a_b : a ≠ b := Nat.ne_of_lt (by rw [qb]; exact hE.lt)
  have ne_r_b : r ≠ b := Nat.ne_of_lt (by rw [qb]; exact hA.lt)
  have hE_h1 := Exa.ext Eh1 hE
  have hEl_h1 := Fld.ext Eh1 hEl
  have hSz_h1 := Fld.ext Eh1 hSz
  have hA_h1 := hA.ext Eh1
  refine w_astoreN O d3_6 (L' := #[.val (.ref a), .val (.ref b), .unset]) (pc' := 7) rfl rfl rfl ?_
  refine w_iconst O d3_7 (z := (0 : Int32)) (pc' := 8) rfl rfl ?_
  refine w_istoreN O d3_8 (L' := #[.val (.ref a), .val (.ref b), .val (.int (0 : Int32))]) (pc' := 9) rfl rfl ?_
  exact loop b ne_a_b ne_r_b g_b n 0 _ _ ⟨hE_h1, hEl_h1, hSz_h1, hA_h1, hne, ga, gr⟩ (A_b.congr fun j hj => (if_neg (by omega)).symm) (by decide) (by omega)
theorem pn_0 : plainFor x = true := plainFor_of_name (by first | (simp [plainName, overriddenIn]; done) | decide +kernel)
theorem pd_0 : parseMethodDescriptor "()V" = some ⟨[], none⟩ := by decide +kernel
theorem pd_1 : parseMethodDescriptor "()[I" = some ⟨[], some (.array .int)⟩ := by decide +kernel
theorem pd_2 : parseMethodDescriptor "()I" = some ⟨[], some .int⟩ := by decide +kernel
theorem pd_3 : parseMethodDescriptor "(I)V" = some ⟨[.int], none⟩ := by decide +kernel
set_option maxRecDepth 65536 in
set_option maxHeartbeats 40000000 in
theorem law_con (l : Launch) (Z : State) (a0 : Array Value) (hw : ∀ d ∈ tables_1, d.before a0 Z = true) (u0 u1 u2 u3 u4 : Int32) (h0 : Heap) (n0 : Nat)  :
    Con l Z x code maxLocals ret room_1 [(.int u0), (.int u1), (.int u2), (.int u3), (.int u4)] h0 n0 (RetI fun r _ => r = 1) := by
  refine Con.body (L0 := #[.val (.int u0), .val (.int u1), .val (.int u2), .val (.int u3), .val (.int u4), .unset, .unset, .unset, .unset, .unset, .unset]) hw pn_0 (fun m => by first | (simp [entryFrame, mkF, argsToLocals, Value.category, maxLocals]; done) | rfl) (fun K O => ?_)
  replace O : Ok K l Z a0 tables_1 code 11 (some .boolean) "com/example/mutex_explorer/mutexexplorer/IntStackTopFirstPinLaw" "law" room_1 n0 _ := O
  refine w_iloadN O at_0 (pc' := 1) rfl rfl ?_
  refine w_iconst O at_1 (z := (3 : Int32)) (pc' := 2) rfl rfl ?_
  refine w_iand O at_2 (pc' := 3) rfl ?_
  have i0 : (u0 &&& (3 : Int32)).toInt = u0.toInt % 4 := c_mask u0 (3 : Int32) 2 (by decide) (by decide)
  have hn : (u0 &&& (3 : Int32)) = 0 ∨ (u0 &&& (3 : Int32)) = 1 ∨ (u0 &&& (3 : Int32)) = 2 ∨ (u0 &&& (3 : Int32)) = 3 := by
    have : (u0 &&& (3 : Int32)).toInt = 0 ∨ (u0 &&& (3 : Int32)).toInt = 1 ∨ (u0 &&& (3 : Int32)).toInt = 2 ∨ (u0 &&& (3 : Int32)).toInt = 3 := by omega
    rcases this with q | q | q | q
    · exact Or.inl (Int32.toInt_inj.mp (q.trans (by decide)))
    · exact Or.inr (Or.inl (Int32.toInt_inj.mp (q.trans (by decide))))
    · exact Or.inr (Or.inr (Or.inl (Int32.toInt_inj.mp (q.trans (by decide)))))
    · exact Or.inr (Or.inr (Or.inr (Int32.toInt_inj.mp (q.trans (by decide)))))
  rcases hn with en | en | en | en
  · rw [en]
    refine w_istore O at_3 (L' := #[.val (.int u0), .val (.int u1), .val (.int u2), .val (.int u3), .val (.int u4), .val (.int (0 : Int32)), .unset, .unset, .unset, .unset, .unset]) (pc' := 5) rfl rfl ?_
    refine w_iloadN O at_5 (pc' := 6) rfl rfl ?_
    refine w_iconst O at_6 (z := (2 : Int32)) (pc' := 7) rfl rfl ?_
    refine w_ishr O at_7 (pc' := 8) rfl ?_
    refine w_iconst O at_8 (z := (1 : Int32)) (pc' := 9) rfl rfl ?_
    refine w_iand O at_9 (pc' := 10) rfl ?_
    have i1 : ((u0 >>> ((2 : Int32) &&& 31))).toInt = u0.toInt / 4 := c_ishr u0 (2 : Int32) 2 (by decide)
    have i2 : (((u0 >>> ((2 : Int32) &&& 31))) &&& (1 : Int32)).toInt = ((u0 >>> ((2 : Int32) &&& 31))).toInt % 2 := c_mask ((u0 >>> ((2 : Int32) &&& 31))) (1 : Int32) 1 (by decide) (by decide)
    refine w_if_eq O at_10 (pn := 13) (pt := 17) rfl (by decide) rfl (fun c10 => ?_) (fun c10 => ?_)
    · replace c10 : (((u0 >>> ((2 : Int32) &&& 31))) &&& (1 : Int32)).toInt = 0 := c10
      refine w_iconst O at_17 (z := (0 : Int32)) (pc' := 18) rfl rfl ?_
      refine w_istore O at_18 (L' := #[.val (.int u0), .val (.int u1), .val (.int u2), .val (.int u3), .val (.int u4), .val (.int (0 : Int32)), .val (.int (0 : Int32)), .unset, .unset, .unset, .unset]) (pc' := 20) rfl rfl ?_
      refine w_new O at_20 (cl' := 1) (sl' := 2) (pc' := 23) rfl (mw 0 rfl) (mw 1 rfl) (mw 2 rfl) rfl rfl (by decide) (by decide) (fun h3 b4 qb4 g_b4 Eh3 E_b4 Db4 => ?_)
      have F_elements_b4 : Fld Z h3 b4 "com/example/mutex_explorer/mutexexplorer/IntStack" "elements" "[I" .null := Db4 (Or.inl (O.2.2.2.2.2.2.2.2.1 _ (mw 11 rfl))) (ty := (.array .int)) (by decide)
      have F_size_b4 : Fld Z h3 b4 "com/example/mutex_explorer/mutexexplorer/IntStack" "size" "I" (.int (0 : Int32)) := Db4 (Or.inl (O.2.2.2.2.2.2.2.2.1 _ (mw 18 rfl))) (ty := .int) (by decide)
      refine w_dup O at_23 (pc' := 24) rfl rfl ?_
      refine w_init O at_24 (as := []) (st := [(.ref b4)]) (wt := 1) (cl' := 2) (sl' := 66) (pc' := 27) rfl rfl (mw 3 rfl) (mw 4 rfl) (mw 2 rfl) (mw 5 rfl) (by decide) (con_init l Z a0 hw b4 h3 n0 E_b4 F_elements_b4 F_size_b4 g_b4) rfl pd_0 rfl rfl rfl (by decide) (by decide) rfl rfl (by decide) (by decide) (cV fun h5 ⟨r, Sh5⟩ => ?_)
      refine w_astore O at_27 (L' := #[.val (.int u0), .val (.int u1), .val (.int u2), .val (.int u3), .val (.int u4), .val (.int (0 : Int32)), .val (.int (0 : Int32)), .val (.ref b4), .unset, .unset, .unset]) (pc' := 29) rfl rfl rfl ?_
      refine w_iload O at_29 (pc' := 31) rfl rfl ?_
      refine w_iconst O at_31 (z := (1 : Int32)) (pc' := 32) rfl rfl ?_
      refine w_icmp_lt O at_32 (pn := 35) (pt := 41) rfl (by decide) rfl (fun c32 => ?_) (fun q => absurd q (by decide))
      refine w_iload O at_41 (pc' := 43) rfl rfl ?_
      refine w_iconst O at_43 (z := (2 : Int32)) (pc' := 44) rfl rfl ?_
      refine w_icmp_lt O at_44 (pn := 47) (pt := 53) rfl (by decide) rfl (fun c44 => ?_) (fun q => absurd q (by decide))
      refine w_iload O at_53 (pc' := 55) rfl rfl ?_
      refine w_iconst O at_55 (z := (3 : Int32)) (pc' := 56) rfl rfl ?_
      refine w_icmp_lt O at_56 (pn := 59) (pt := 65) rfl (by decide) rfl (fun c56 => ?_) (fun q => absurd q (by decide))
      refine w_iload O at_65 (pc' := 67) rfl rfl ?_
      refine w_if_eq O at_67 (pn := 70) (pt := 83) rfl (by decide) rfl (fun c67 => ?_) (fun q => absurd q (by decide))
      refine w_aload O at_83 (pc' := 85) rfl rfl rfl ?_
      refine w_virtual O at_85 (as := []) (st := []) (wt := 0) (cl' := 3) (sl' := 69) (pc' := 88) rfl (mw 12 rfl) (mw 13 rfl) (mw 15 rfl) (mw 14 rfl) (mw 16 rfl) (mw 2 rfl) (by decide) Sh5.1 (con_top l Z a0 hw b4 r (0 : Int32) (fun _ => .int (0 : Int32)) h5 n0 0 Sh5 (by decide) (by decide) (fun j hj => by omega)) rfl pd_1 rfl rfl rfl (by decide) (by decide) rfl rfl (by decide) (by decide) (cA fun v h6 hv ⟨bt, ev, Sh6, Bth6, nab, nrb, gb⟩ => ?_)
      subst ev
      refine w_astore O at_88 (L' := #[.val (.int u0), .val (.int u1), .val (.int u2), .val (.int u3), .val (.int u4), .val (.int (0 : Int32)), .val (.int (0 : Int32)), .val (.ref b4), .val (.ref bt), .unset, .unset]) (pc' := 90) rfl rfl rfl ?_
      refine w_aload O at_90 (pc' := 92) rfl rfl rfl ?_
      refine w_alen O at_92 (z := (0 : Int32)) (pc' := 93) rfl Bth6 (by decide) ?_
      refine w_iload O at_93 (pc' := 95) rfl rfl ?_
      refine w_icmp_eq O at_95 (pn := 98) (pt := 100) rfl (by decide) rfl (fun c95 => ?_) (fun q => absurd q (by decide))
      refine w_iload O at_100 (pc' := 102) rfl rfl ?_
      refine w_if_ne O at_102 (pn := 105) (pt := 114) rfl (by decide) rfl (fun q => absurd q (by decide)) (fun c102 => ?_)
      refine w_iconst O at_105 (z := (1 : Int32)) (pc' := 106) rfl rfl ?_
      refine w_istore O at_106 (L' := #[.val (.int u0), .val (.int u1), .val (.int u2), .val (.int u3), .val (.int u4), .val (.int (0 : Int32)), .val (.int (0 : Int32)), .val (.ref b4), .val (.ref bt), .val (.int (1 : Int32)), .unset]) (pc' := 108) rfl rfl ?_
      refine w_iconst O at_108 (z := (0 : Int32)) (pc' := 109) rfl rfl ?_
      refine w_istore O at_109 (L' := #[.val (.int u0), .val (.int u1), .val (.int u2), .val (.int u3), .val (.int u4), .val (.int (0 : Int32)), .val (.int (0 : Int32)), .val (.ref b4), .val (.ref bt), .val (.int (1 : Int32)), .val (.int (0 : Int32))]) (pc' := 111) rfl rfl ?_
      refine w_goto O at_111 (pc' := 210) (by decide) rfl ?_
      refine w_iload O at_210 (pc' := 212) rfl rfl ?_
      refine w_if_ne O at_212 (pn := 215) (pt := 217) rfl (by decide) rfl (fun c212 => ?_) (fun q => absurd q (by decide))
      refine w_iload O at_217 (pc' := 219) rfl rfl ?_
      refine w_iconst O at_219 (z := (1 : Int32)) (pc' := 220) rfl rfl ?_
      refine w_icmp_lt O at_220 (pn := 223) (pt := 245) rfl (by decide) rfl (fun c220 => ?_) (fun q => absurd q (by decide))
      refine w_aload O at_245 (pc' := 247) rfl rfl rfl ?_
      refine w_virtual O at_247 (as := []) (st := []) (wt := 0) (cl' := 3) (sl' := 69) (pc' := 250) rfl (mw 19 rfl) (mw 20 rfl) (mw 22 rfl) (mw 21 rfl) (mw 23 rfl) (mw 2 rfl) (by decide) Sh6.1 (con_size l Z a0 hw b4 r (0 : Int32) (fun _ => .int (0 : Int32)) h6 n0 Sh6) rfl pd_2 rfl rfl rfl (by decide) (by decide) rfl rfl (by decide) (by decide) (cI fun q7 _ ⟨hq7, eq7⟩ => ?_)
      rw [hq7]
      rw [eq7]
      refine w_iload O at_250 (pc' := 252) rfl rfl ?_
      refine w_icmp_ne O at_252 (pn := 255) (pt := 259) rfl (by decide) rfl (fun q => absurd q (by decide)) (fun c252 => ?_)
      refine w_iconst O at_255 (z := (1 : Int32)) (pc' := 256) rfl rfl ?_
      refine w_goto O at_256 (pc' := 260) (by decide) rfl ?_
      refine w_retz O at_260 (by decide) (by decide) (Or.inr rfl) ?_
      exact ⟨_, rfl, rfl⟩
    · replace c10 : ¬ (((u0 >>> ((2 : Int32) &&& 31))) &&& (1 : Int32)).toInt = 0 := c10
      refine w_iconst O at_13 (z := (1 : Int32)) (pc' := 14) rfl rfl ?_
      refine w_goto O at_14 (pc' := 18) (by decide) rfl ?_
      refine w_istore O at_18 (L' := #[.val (.int u0), .val (.int u1), .val (.int u2), .val (.int u3), .val (.int u4), .val (.int (0 : Int32)), .val (.int (1 : Int32)), .unset, .unset, .unset, .unset]) (pc' := 20) rfl rfl ?_
      refine w_new O at_20 (cl' := 1) (sl' := 2) (pc' := 23) rfl (mw 0 rfl) (mw 1 rfl) (mw 2 rfl) rfl rfl (by decide) (by decide) (fun h8 b9 qb9 g_b9 Eh8 E_b9 Db9 => ?_)
      have F_elements_b9 : Fld Z h8 b9 "com/example/mutex_explorer/mutexexplorer/IntStack" "elements" "[I" .null := Db9 (Or.inl (O.2.2.2.2.2.2.2.2.1 _ (mw 11 rfl))) (ty := (.array .int)) (by decide)
      have F_size_b9 : Fld Z h8 b9 "com/example/mutex_explorer/mutexexplorer/IntStack" "size" "I" (.int (0 : Int32)) := Db9 (Or.inl (O.2.2.2.2.2.2.2.2.1 _ (mw 18 rfl))) (ty := .int) (by decide)
      refine w_dup O at_23 (pc' := 24) rfl rfl ?_
      refine w_init O at_24 (as := []) (st := [(.ref b9)]) (wt := 1) (cl' := 2) (sl' := 66) (pc' := 27) rfl rfl (mw 3 rfl) (mw 4 rfl) (mw 2 rfl) (mw 5 rfl) (by decide) (con_init l Z a0 hw b9 h8 n0 E_b9 F_elements_b9 F_size_b9 g_b9) rfl pd_0 rfl rfl rfl (by decide) (by decide) rfl rfl (by decide) (by decide) (cV fun h10 ⟨r, Sh10⟩ => ?_)
      refine w_astore O at_27 (L' := #[.val (.int u0), .val (.int u1), .val (.int u2), .val (.int u3), .val (.int u4), .val (.int (0 : Int32)), .val (.int (1 : Int32)), .val (.ref b9), .unset, .unset, .unset]) (pc' := 29) rfl rfl rfl ?_
      refine w_iload O at_29 (pc' := 31) rfl rfl ?_
      refine w_iconst O at_31 (z := (1 : Int32)) (pc' := 32) rfl rfl ?_
      refine w_icmp_lt O at_32 (pn := 35) (pt := 41) rfl (by decide) rfl (fun c32 => ?_) (fun q => absurd q (by decide))
      refine w_iload O at_41 (pc' := 43) rfl rfl ?_
      refine w_iconst O at_43 (z := (2 : Int32)) (pc' := 44) rfl rfl ?_
      refine w_icmp_lt O at_44 (pn := 47) (pt := 53) rfl (by decide) rfl (fun c44 => ?_) (fun q => absurd q (by decide))
      refine w_iload O at_53 (pc' := 55) rfl rfl ?_
      refine w_iconst O at_55 (z := (3 : Int32)) (pc' := 56) rfl rfl ?_
      refine w_icmp_lt O at_56 (pn := 59) (pt := 65) rfl (by decide) rfl (fun c56 => ?_) (fun q => absurd q (by decide))
      refine w_iload O at_65 (pc' := 67) rfl rfl ?_
      refine w_if_eq O at_67 (pn := 70) (pt := 83) rfl (by decide) rfl (fun q => absurd q (by decide)) (fun c67 => ?_)
      refine w_aload O at_70 (pc' := 72) rfl rfl rfl ?_
      refine w_iload O at_72 (pc' := 74) rfl rfl ?_
      refine w_virtual O at_74 (as := [(.int u4)]) (st := []) (wt := 0) (cl' := 2) (sl' := 66) (pc' := 77) rfl (mw 24 rfl) (mw 25 rfl) (mw 27 rfl) (mw 26 rfl) (mw 28 rfl) (mw 2 rfl) (by decide) Sh10.1 (con_push l Z a0 hw b9 r (0 : Int32) (fun _ => .int (0 : Int32)) u4 h10 n0 (1 : Int32) 0 Sh10 (by decide) (by decide) rfl) rfl pd_3 rfl rfl rfl (by decide) (by decide) rfl rfl (by decide) (by decide) (cV fun h11 Sh11 => ?_)
      refine w_aload O at_77 (pc' := 79) rfl rfl rfl ?_
      refine w_virtual O at_79 (as := []) (st := []) (wt := 0) (cl' := 2) (sl' := 66) (pc' := 82) rfl (mw 34 rfl) (mw 35 rfl) (mw 37 rfl) (mw 36 rfl) (mw 38 rfl) (mw 2 rfl) (by decide) Sh11.1 (con_pop l Z a0 hw b9 r (1 : Int32) (upd (fun _ => .int (0 : Int32)) 0 (.int u4)) h11 n0 (0 : Int32) u4 0 Sh11 rfl (by decide) (by decide) rfl) rfl pd_2 rfl rfl rfl (by decide) (by decide) rfl rfl (by decide) (by decide) (cI fun q13 h12 ⟨eq13, Sh12⟩ => ?_)
      rw [eq13]
      refine w_pop O at_82 (pc' := 83) rfl rfl ?_
      refine w_aload O at_83 (pc' := 85) rfl rfl rfl ?_
      refine w_virtual O at_85 (as := []) (st := []) (wt := 0) (cl' := 3) (sl' := 69) (pc' := 88) rfl (mw 12 rfl) (mw 13 rfl) (mw 15 rfl) (mw 14 rfl) (mw 16 rfl) (mw 2 rfl) (by decide) Sh12.1 (con_top l Z a0 hw b9 r (0 : Int32) (upd (fun _ => .int (0 : Int32)) 0 (.int u4)) h12 n0 0 Sh12 (by decide) (by decide) (fun j hj => by omega)) rfl pd_1 rfl rfl rfl (by decide) (by decide) rfl rfl (by decide) (by decide) (cA fun v h14 hv ⟨bt, ev, Sh14, Bth14, nab, nrb, gb⟩ => ?_)
      subst ev
      refine w_astore O at_88 (L' := #[.val (.int u0), .val (.int u1), .val (.int u2), .val (.int u3), .val (.int u4), .val (.int (0 : Int32)), .val (.int (1 : Int32)), .val (.ref b9), .val (.ref bt), .unset, .unset]) (pc' := 90) rfl rfl rfl ?_
      refine w_aload O at_90 (pc' := 92) rfl rfl rfl ?_
      refine w_alen O at_92 (z := (0 : Int32)) (pc' := 93) rfl Bth14 (by decide) ?_
      refine w_iload O at_93 (pc' := 95) rfl rfl ?_
      refine w_icmp_eq O at_95 (pn := 98) (pt := 100) rfl (by decide) rfl (fun c95 => ?_) (fun q => absurd q (by decide))
      refine w_iload O at_100 (pc' := 102) rfl rfl ?_
      refine w_if_ne O at_102 (pn := 105) (pt := 114) rfl (by decide) rfl (fun q => absurd q (by decide)) (fun c102 => ?_)
      refine w_iconst O at_105 (z := (1 : Int32)) (pc' := 106) rfl rfl ?_
      refine w_istore O at_106 (L' := #[.val (.int u0), .val (.int u1), .val (.int u2), .val (.int u3), .val (.int u4), .val (.int (0 : Int32)), .val (.int (1 : Int32)), .val (.ref b9), .val (.ref bt), .val (.int (1 : Int32)), .unset]) (pc' := 108) rfl rfl ?_
      refine w_iconst O at_108 (z := (0 : Int32)) (pc' := 109) rfl rfl ?_
      refine w_istore O at_109 (L' := #[.val (.int u0), .val (.int u1), .val (.int u2), .val (.int u3), .val (.int u4), .val (.int (0 : Int32)), .val (.int (1 : Int32)), .val (.ref b9), .val (.ref bt), .val (.int (1 : Int32)), .val (.int (0 : Int32))]) (pc' := 111) rfl rfl ?_
      refine w_goto O at_111 (pc' := 210) (by decide) rfl ?_
      refine w_iload O at_210 (pc' := 212) rfl rfl ?_
      refine w_if_ne O at_212 (pn := 215) (pt := 217) rfl (by decide) rfl (fun c212 => ?_) (fun q => absurd q (by decide))
      refine w_iload O at_217 (pc' := 219) rfl rfl ?_
      refine w_iconst O at_219 (z := (1 : Int32)) (pc' := 220) rfl rfl ?_
      refine w_icmp_lt O at_220 (pn := 223) (pt := 245) rfl (by decide) rfl (fun c220 => ?_) (fun q => absurd q (by decide))
      refine w_aload O at_245 (pc' := 247) rfl rfl rfl ?_
      refine w_virtual O at_247 (as := []) (st := []) (wt := 0) (cl' := 3) (sl' := 69) (pc' := 250) rfl (mw 19 rfl) (mw 20 rfl) (mw 22 rfl) (mw 21 rfl) (mw 23 rfl) (mw 2 rfl) (by decide) Sh14.1 (con_size l Z a0 hw b9 r (0 : Int32) (upd (fun _ => .int (0 : Int32)) 0 (.int u4)) h14 n0 Sh14) rfl pd_2 rfl rfl rfl (by decide) (by decide) rfl rfl (by decide) (by decide) (cI fun q15 _ ⟨hq15, eq15⟩ => ?_)
      rw [hq15]
      rw [eq15]
      refine w_iload O at_250 (pc' := 252) rfl rfl ?_
      refine w_icmp_ne O at_252 (pn := 255) (pt := 259) rfl (by decide) rfl (fun q => absurd q (by decide)) (fun c252 => ?_)
      refine w_iconst O at_255 (z := (1 : Int32)) (pc' := 256) rfl rfl ?_
      refine w_goto O at_256 (pc' := 260) (by decide) rfl ?_
      refine w_retz O at_260 (by decide) (by decide) (Or.inr rfl) ?_
      exact ⟨_, rfl, rfl⟩
  · rw [en]
    refine w_istore O at_3 (L' := #[.val (.int u0), .val (.int u1), .val (.int u2), .val (.int u3), .val (.int u4), .val (.int (1 : Int32)), .unset, .unset, .unset, .unset, .unset]) (pc' := 5) rfl rfl ?_
    refine w_iloadN O at_5 (pc' := 6) rfl rfl ?_
    refine w_iconst O at_6 (z := (2 : Int32)) (pc' := 7) rfl rfl ?_
    refine w_ishr O at_7 (pc' := 8) rfl ?_
    refine w_iconst O at_8 (z := (1 : Int32)) (pc' := 9) rfl rfl ?_
    refine w_iand O at_9 (pc' := 10) rfl ?_
    have i16 : ((u0 >>> ((2 : Int32) &&& 31))).toInt = u0.toInt / 4 := c_ishr u0 (2 : Int32) 2 (by decide)
    have i17 : (((u0 >>> ((2 : Int32) &&& 31))) &&& (1 : Int32)).toInt = ((u0 >>> ((2 : Int32) &&& 31))).toInt % 2 := c_mask ((u0 >>> ((2 : Int32) &&& 31))) (1 : Int32) 1 (by decide) (by decide)
    refine w_if_eq O at_10 (pn := 13) (pt := 17) rfl (by decide) rfl (fun c10 => ?_) (fun c10 => ?_)
    · replace c10 : (((u0 >>> ((2 : Int32) &&& 31))) &&& (1 : Int32)).toInt = 0 := c10
      refine w_iconst O at_17 (z := (0 : Int32)) (pc' := 18) rfl rfl ?_
      refine w_istore O at_18 (L' := #[.val (.int u0), .val (.int u1), .val (.int u2), .val (.int u3), .val (.int u4), .val (.int (1 : Int32)), .val (.int (0 : Int32)), .unset, .unset, .unset, .unset]) (pc' := 20) rfl rfl ?_
      refine w_new O at_20 (cl' := 1) (sl' := 2) (pc' := 23) rfl (mw 0 rfl) (mw 1 rfl) (mw 2 rfl) rfl rfl (by decide) (by decide) (fun h18 b19 qb19 g_b19 Eh18 E_b19 Db19 => ?_)
      have F_elements_b19 : Fld Z h18 b19 "com/example/mutex_explorer/mutexexplorer/IntStack" "elements" "[I" .null := Db19 (Or.inl (O.2.2.2.2.2.2.2.2.1 _ (mw 11 rfl))) (ty := (.array .int)) (by decide)
      have F_size_b19 : Fld Z h18 b19 "com/example/mutex_explorer/mutexexplorer/IntStack" "size" "I" (.int (0 : Int32)) := Db19 (Or.inl (O.2.2.2.2.2.2.2.2.1 _ (mw 18 rfl))) (ty := .int) (by decide)
      refine w_dup O at_23 (pc' := 24) rfl rfl ?_
      refine w_init O at_24 (as := []) (st := [(.ref b19)]) (wt := 1) (cl' := 2) (sl' := 66) (pc' := 27) rfl rfl (mw 3 rfl) (mw 4 rfl) (mw 2 rfl) (mw 5 rfl) (by decide) (con_init l Z a0 hw b19 h18 n0 E_b19 F_elements_b19 F_size_b19 g_b19) rfl pd_0 rfl rfl rfl (by decide) (by decide) rfl rfl (by decide) (by decide) (cV fun h20 ⟨r, Sh20⟩ => ?_)
      refine w_astore O at_27 (L' := #[.val (.int u0), .val (.int u1), .val (.int u2), .val (.int u3), .val (.int u4), .val (.int (1 : Int32)), .val (.int (0 : Int32)), .val (.ref b19), .unset, .unset, .unset]) (pc' := 29) rfl rfl rfl ?_
      refine w_iload O at_29 (pc' := 31) rfl rfl ?_
      refine w_iconst O at_31 (z := (1 : Int32)) (pc' := 32) rfl rfl ?_
      refine w_icmp_lt O at_32 (pn := 35) (pt := 41) rfl (by decide) rfl (fun q => absurd q (by decide)) (fun c32 => ?_)
      refine w_aload O at_35 (pc' := 37) rfl rfl rfl ?_
      refine w_iloadN O at_37 (pc' := 38) rfl rfl ?_
      refine w_virtual O at_38 (as := [(.int u1)]) (st := []) (wt := 0) (cl' := 2) (sl' := 66) (pc' := 41) rfl (mw 24 rfl) (mw 25 rfl) (mw 27 rfl) (mw 26 rfl) (mw 28 rfl) (mw 2 rfl) (by decide) Sh20.1 (con_push l Z a0 hw b19 r (0 : Int32) (fun _ => .int (0 : Int32)) u1 h20 n0 (1 : Int32) 0 Sh20 (by decide) (by decide) rfl) rfl pd_3 rfl rfl rfl (by decide) (by decide) rfl rfl (by decide) (by decide) (cV fun h21 Sh21 => ?_)
      refine w_iload O at_41 (pc' := 43) rfl rfl ?_
      refine w_iconst O at_43 (z := (2 : Int32)) (pc' := 44) rfl rfl ?_
      refine w_icmp_lt O at_44 (pn := 47) (pt := 53) rfl (by decide) rfl (fun c44 => ?_) (fun q => absurd q (by decide))
      refine w_iload O at_53 (pc' := 55) rfl rfl ?_
      refine w_iconst O at_55 (z := (3 : Int32)) (pc' := 56) rfl rfl ?_
      refine w_icmp_lt O at_56 (pn := 59) (pt := 65) rfl (by decide) rfl (fun c56 => ?_) (fun q => absurd q (by decide))
      refine w_iload O at_65 (pc' := 67) rfl rfl ?_
      refine w_if_eq O at_67 (pn := 70) (pt := 83) rfl (by decide) rfl (fun c67 => ?_) (fun q => absurd q (by decide))
      refine w_aload O at_83 (pc' := 85) rfl rfl rfl ?_
      refine w_virtual O at_85 (as := []) (st := []) (wt := 0) (cl' := 3) (sl' := 69) (pc' := 88) rfl (mw 12 rfl) (mw 13 rfl) (mw 15 rfl) (mw 14 rfl) (mw 16 rfl) (mw 2 rfl) (by decide) Sh21.1 (con_top l Z a0 hw b19 r (1 : Int32) (upd (fun _ => .int (0 : Int32)) 0 (.int u1)) h21 n0 1 Sh21 (by decide) (by decide) (fun j hj => by have hj' : j = 0 := (by omega); rcases hj' with rfl <;> exact ⟨_, rfl⟩)) rfl pd_1 rfl rfl rfl (by decide) (by decide) rfl rfl (by decide) (by decide) (cA fun v h22 hv ⟨bt, ev, Sh22, Bth22, nab, nrb, gb⟩ => ?_)
      subst ev
      refine w_astore O at_88 (L' := #[.val (.int u0), .val (.int u1), .val (.int u2), .val (.int u3), .val (.int u4), .val (.int (1 : Int32)), .val (.int (0 : Int32)), .val (.ref b19), .val (.ref bt), .unset, .unset]) (pc' := 90) rfl rfl rfl ?_
      refine w_aload O at_90 (pc' := 92) rfl rfl rfl ?_
      refine w_alen O at_92 (z := (1 : Int32)) (pc' := 93) rfl Bth22 (by decide) ?_
      refine w_iload O at_93 (pc' := 95) rfl rfl ?_
      refine w_icmp_eq O at_95 (pn := 98) (pt := 100) rfl (by decide) rfl (fun c95 => ?_) (fun q => absurd q (by decide))
      refine w_iload O at_100 (pc' := 102) rfl rfl ?_
      refine w_if_ne O at_102 (pn := 105) (pt := 114) rfl (by decide) rfl (fun c102 => ?_) (fun q => absurd q (by decide))
      refine w_iload O at_114 (pc' := 116) rfl rfl ?_
      refine w_iconst O at_116 (z := (1 : Int32)) (pc' := 117) rfl rfl ?_
      refine w_icmp_ne O at_117 (pn := 120) (pt := 141) rfl (by decide) rfl (fun q => absurd q (by decide)) (fun c117 => ?_)
      refine w_aload O at_120 (pc' := 122) rfl rfl rfl ?_
      refine w_iconst O at_122 (z := (0 : Int32)) (pc' := 123) rfl rfl ?_
      refine w_iaload O at_123 (i := 0) (x := u1) (pc' := 124) rfl Bth22 (by decide) (by decide) rfl ?_
      refine w_iloadN O at_124 (pc' := 125) rfl rfl ?_
      refine w_icmp_ne O at_125 (pn := 128) (pt := 132) rfl (by decide) rfl (fun q => absurd q (by omega)) (fun c125 => ?_)
      refine w_iconst O at_128 (z := (1 : Int32)) (pc' := 129) rfl rfl ?_
      refine w_goto O at_129 (pc' := 133) (by decide) rfl ?_
      refine w_istore O at_133 (L' := #[.val (.int u0), .val (.int u1), .val (.int u2), .val (.int u3), .val (.int u4), .val (.int (1 : Int32)), .val (.int (0 : Int32)), .val (.ref b19), .val (.ref bt), .val (.int (1 : Int32)), .unset]) (pc' := 135) rfl rfl ?_
      refine w_iloadN O at_135 (pc' := 136) rfl rfl ?_
      refine w_istore O at_136 (L' := #[.val (.int u0), .val (.int u1), .val (.int u2), .val (.int u3), .val (.int u4), .val (.int (1 : Int32)), .val (.int (0 : Int32)), .val (.ref b19), .val (.ref bt), .val (.int (1 : Int32)), .val (.int u1)]) (pc' := 138) rfl rfl ?_
      refine w_goto O at_138 (pc' := 210) (by decide) rfl ?_
      refine w_iload O at_210 (pc' := 212) rfl rfl ?_
      refine w_if_ne O at_212 (pn := 215) (pt := 217) rfl (by decide) rfl (fun c212 => ?_) (fun q => absurd q (by decide))
      refine w_iload O at_217 (pc' := 219) rfl rfl ?_
      refine w_iconst O at_219 (z := (1 : Int32)) (pc' := 220) rfl rfl ?_
      refine w_icmp_lt O at_220 (pn := 223) (pt := 245) rfl (by decide) rfl (fun q => absurd q (by decide)) (fun c220 => ?_)
      refine w_aload O at_223 (pc' := 225) rfl rfl rfl ?_
      refine w_iconst O at_225 (z := (0 : Int32)) (pc' := 226) rfl rfl ?_
      refine w_aload O at_226 (pc' := 228) rfl rfl rfl ?_
      refine w_iconst O at_228 (z := (0 : Int32)) (pc' := 229) rfl rfl ?_
      refine w_iaload O at_229 (i := 0) (x := u1) (pc' := 230) rfl Bth22 (by decide) (by decide) rfl ?_
      refine w_iconst O at_230 (z := (-1 : Int32)) (pc' := 231) rfl rfl ?_
      refine w_ixor O at_231 (pc' := 232) rfl ?_
      refine w_iastore O at_232 (i := 0) (pc' := 233) rfl Bth22 (by decide) (by decide) gb (fun h23 Wh23 => ?_)
      have F24_h23 := Sh22.1.wr Wh23
      have Sh22_h23 := Stk.wr Sh22 Wh23 nab nrb
      have Bth22_h23 := Bth22.set Wh23
      refine w_aload O at_233 (pc' := 235) rfl rfl rfl ?_
      refine w_virtual O at_235 (as := []) (st := []) (wt := 0) (cl' := 3) (sl' := 69) (pc' := 238) rfl (mw 29 rfl) (mw 30 rfl) (mw 32 rfl) (mw 31 rfl) (mw 33 rfl) (mw 2 rfl) (by decide) F24_h23 (con_peek l Z a0 hw b19 r (1 : Int32) (upd (fun _ => .int (0 : Int32)) 0 (.int u1)) h23 n0 (0 : Int32) u1 0 Sh22_h23 rfl (by decide) (by decide) rfl) rfl pd_2 rfl rfl rfl (by decide) (by decide) rfl rfl (by decide) (by decide) (cI fun q25 _ ⟨hq25, eq25⟩ => ?_)
      rw [hq25]
      rw [eq25]
      refine w_iload O at_238 (pc' := 240) rfl rfl ?_
      refine w_icmp_eq O at_240 (pn := 243) (pt := 245) rfl (by decide) rfl (fun c240 => ?_) (fun q => absurd q (by omega))
      refine w_aload O at_245 (pc' := 247) rfl rfl rfl ?_
      refine w_virtual O at_247 (as := []) (st := []) (wt := 0) (cl' := 3) (sl' := 69) (pc' := 250) rfl (mw 19 rfl) (mw 20 rfl) (mw 22 rfl) (mw 21 rfl) (mw 23 rfl) (mw 2 rfl) (by decide) F24_h23 (con_size l Z a0 hw b19 r (1 : Int32) (upd (fun _ => .int (0 : Int32)) 0 (.int u1)) h23 n0 Sh22_h23) rfl pd_2 rfl rfl rfl (by decide) (by decide) rfl rfl (by decide) (by decide) (cI fun q26 _ ⟨hq26, eq26⟩ => ?_)
      rw [hq26]
      rw [eq26]
      refine w_iload O at_250 (pc' := 252) rfl rfl ?_
      refine w_icmp_ne O at_252 (pn := 255) (pt := 259) rfl (by decide) rfl (fun q => absurd q (by decide)) (fun c252 => ?_)
      refine w_iconst O at_255 (z := (1 : Int32)) (pc' := 256) rfl rfl ?_
      refine w_goto O at_256 (pc' := 260) (by decide) rfl ?_
      refine w_retz O at_260 (by decide) (by decide) (Or.inr rfl) ?_
      exact ⟨_, rfl, rfl⟩
    · replace c10 : ¬ (((u0 >>> ((2 : Int32) &&& 31))) &&& (1 : Int32)).toInt = 0 := c10
      refine w_iconst O at_13 (z := (1 : Int32)) (pc' := 14) rfl rfl ?_
      refine w_goto O at_14 (pc' := 18) (by decide) rfl ?_
      refine w_istore O at_18 (L' := #[.val (.int u0), .val (.int u1), .val (.int u2), .val (.int u3), .val (.int u4), .val (.int (1 : Int32)), .val (.int (1 : Int32)), .unset, .unset, .unset, .unset]) (pc' := 20) rfl rfl ?_
      refine w_new O at_20 (cl' := 1) (sl' := 2) (pc' := 23) rfl (mw 0 rfl) (mw 1 rfl) (mw 2 rfl) rfl rfl (by decide) (by decide) (fun h27 b28 qb28 g_b28 Eh27 E_b28 Db28 => ?_)
      have F_elements_b28 : Fld Z h27 b28 "com/example/mutex_explorer/mutexexplorer/IntStack" "elements" "[I" .null := Db28 (Or.inl (O.2.2.2.2.2.2.2.2.1 _ (mw 11 rfl))) (ty := (.array .int)) (by decide)
      have F_size_b28 : Fld Z h27 b28 "com/example/mutex_explorer/mutexexplorer/IntStack" "size" "I" (.int (0 : Int32)) := Db28 (Or.inl (O.2.2.2.2.2.2.2.2.1 _ (mw 18 rfl))) (ty := .int) (by decide)
      refine w_dup O at_23 (pc' := 24) rfl rfl ?_
      refine w_init O at_24 (as := []) (st := [(.ref b28)]) (wt := 1) (cl' := 2) (sl' := 66) (pc' := 27) rfl rfl (mw 3 rfl) (mw 4 rfl) (mw 2 rfl) (mw 5 rfl) (by decide) (con_init l Z a0 hw b28 h27 n0 E_b28 F_elements_b28 F_size_b28 g_b28) rfl pd_0 rfl rfl rfl (by decide) (by decide) rfl rfl (by decide) (by decide) (cV fun h29 ⟨r, Sh29⟩ => ?_)
      refine w_astore O at_27 (L' := #[.val (.int u0), .val (.int u1), .val (.int u2), .val (.int u3), .val (.int u4), .val (.int (1 : Int32)), .val (.int (1 : Int32)), .val (.ref b28), .unset, .unset, .unset]) (pc' := 29) rfl rfl rfl ?_
      refine w_iload O at_29 (pc' := 31) rfl rfl ?_
      refine w_iconst O at_31 (z := (1 : Int32)) (pc' := 32) rfl rfl ?_
      refine w_icmp_lt O at_32 (pn := 35) (pt := 41) rfl (by decide) rfl (fun q => absurd q (by decide)) (fun c32 => ?_)
      refine w_aload O at_35 (pc' := 37) rfl rfl rfl ?_
      refine w_iloadN O at_37 (pc' := 38) rfl rfl ?_
      refine w_virtual O at_38 (as := [(.int u1)]) (st := []) (wt := 0) (cl' := 2) (sl' := 66) (pc' := 41) rfl (mw 24 rfl) (mw 25 rfl) (mw 27 rfl) (mw 26 rfl) (mw 28 rfl) (mw 2 rfl) (by decide) Sh29.1 (con_push l Z a0 hw b28 r (0 : Int32) (fun _ => .int (0 : Int32)) u1 h29 n0 (1 : Int32) 0 Sh29 (by decide) (by decide) rfl) rfl pd_3 rfl rfl rfl (by decide) (by decide) rfl rfl (by decide) (by decide) (cV fun h30 Sh30 => ?_)
      refine w_iload O at_41 (pc' := 43) rfl rfl ?_
      refine w_iconst O at_43 (z := (2 : Int32)) (pc' := 44) rfl rfl ?_
      refine w_icmp_lt O at_44 (pn := 47) (pt := 53) rfl (by decide) rfl (fun c44 => ?_) (fun q => absurd q (by decide))
      refine w_iload O at_53 (pc' := 55) rfl rfl ?_
      refine w_iconst O at_55 (z := (3 : Int32)) (pc' := 56) rfl rfl ?_
      refine w_icmp_lt O at_56 (pn := 59) (pt := 65) rfl (by decide) rfl (fun c56 => ?_) (fun q => absurd q (by decide))
      refine w_iload O at_65 (pc' := 67) rfl rfl ?_
      refine w_if_eq O at_67 (pn := 70) (pt := 83) rfl (by decide) rfl (fun q => absurd q (by decide)) (fun c67 => ?_)
      refine w_aload O at_70 (pc' := 72) rfl rfl rfl ?_
      refine w_iload O at_72 (pc' := 74) rfl rfl ?_
      refine w_virtual O at_74 (as := [(.int u4)]) (st := []) (wt := 0) (cl' := 2) (sl' := 66) (pc' := 77) rfl (mw 24 rfl) (mw 25 rfl) (mw 27 rfl) (mw 26 rfl) (mw 28 rfl) (mw 2 rfl) (by decide) Sh30.1 (con_push l Z a0 hw b28 r (1 : Int32) (upd (fun _ => .int (0 : Int32)) 0 (.int u1)) u4 h30 n0 (2 : Int32) 1 Sh30 (by decide) (by decide) rfl) rfl pd_3 rfl rfl rfl (by decide) (by decide) rfl rfl (by decide) (by decide) (cV fun h31 Sh31 => ?_)
      refine w_aload O at_77 (pc' := 79) rfl rfl rfl ?_
      refine w_virtual O at_79 (as := []) (st := []) (wt := 0) (cl' := 2) (sl' := 66) (pc' := 82) rfl (mw 34 rfl) (mw 35 rfl) (mw 37 rfl) (mw 36 rfl) (mw 38 rfl) (mw 2 rfl) (by decide) Sh31.1 (con_pop l Z a0 hw b28 r (2 : Int32) (upd (upd (fun _ => .int (0 : Int32)) 0 (.int u1)) 1 (.int u4)) h31 n0 (1 : Int32) u4 1 Sh31 rfl (by decide) (by decide) rfl) rfl pd_2 rfl rfl rfl (by decide) (by decide) rfl rfl (by decide) (by decide) (cI fun q33 h32 ⟨eq33, Sh32⟩ => ?_)
      rw [eq33]
      refine w_pop O at_82 (pc' := 83) rfl rfl ?_
      refine w_aload O at_83 (pc' := 85) rfl rfl rfl ?_
      refine w_virtual O at_85 (as := []) (st := []) (wt := 0) (cl' := 3) (sl' := 69) (pc' := 88) rfl (mw 12 rfl) (mw 13 rfl) (mw 15 rfl) (mw 14 rfl) (mw 16 rfl) (mw 2 rfl) (by decide) Sh32.1 (con_top l Z a0 hw b28 r (1 : Int32) (upd (upd (fun _ => .int (0 : Int32)) 0 (.int u1)) 1 (.int u4)) h32 n0 1 Sh32 (by decide) (by decide) (fun j hj => by have hj' : j = 0 := (by omega); rcases hj' with rfl <;> exact ⟨_, rfl⟩)) rfl pd_1 rfl rfl rfl (by decide) (by decide) rfl rfl (by decide) (by decide) (cA fun v h34 hv ⟨bt, ev, Sh34, Bth34, nab, nrb, gb⟩ => ?_)
      subst ev
      refine w_astore O at_88 (L' := #[.val (.int u0), .val (.int u1), .val (.int u2), .val (.int u3), .val (.int u4), .val (.int (1 : Int32)), .val (.int (1 : Int32)), .val (.ref b28), .val (.ref bt), .unset, .unset]) (pc' := 90) rfl rfl rfl ?_
      refine w_aload O at_90 (pc' := 92) rfl rfl rfl ?_
      refine w_alen O at_92 (z := (1 : Int32)) (pc' := 93) rfl Bth34 (by decide) ?_
      refine w_iload O at_93 (pc' := 95) rfl rfl ?_
      refine w_icmp_eq O at_95 (pn := 98) (pt := 100) rfl (by decide) rfl (fun c95 => ?_) (fun q => absurd q (by decide))
      refine w_iload O at_100 (pc' := 102) rfl rfl ?_
      refine w_if_ne O at_102 (pn := 105) (pt := 114) rfl (by decide) rfl (fun c102 => ?_) (fun q => absurd q (by decide))
      refine w_iload O at_114 (pc' := 116) rfl rfl ?_
      refine w_iconst O at_116 (z := (1 : Int32)) (pc' := 117) rfl rfl ?_
      refine w_icmp_ne O at_117 (pn := 120) (pt := 141) rfl (by decide) rfl (fun q => absurd q (by decide)) (fun c117 => ?_)
      refine w_aload O at_120 (pc' := 122) rfl rfl rfl ?_
      refine w_iconst O at_122 (z := (0 : Int32)) (pc' := 123) rfl rfl ?_
      refine w_iaload O at_123 (i := 0) (x := u1) (pc' := 124) rfl Bth34 (by decide) (by decide) rfl ?_
      refine w_iloadN O at_124 (pc' := 125) rfl rfl ?_
      refine w_icmp_ne O at_125 (pn := 128) (pt := 132) rfl (by decide) rfl (fun q => absurd q (by omega)) (fun c125 => ?_)
      refine w_iconst O at_128 (z := (1 : Int32)) (pc' := 129) rfl rfl ?_
      refine w_goto O at_129 (pc' := 133) (by decide) rfl ?_
      refine w_istore O at_133 (L' := #[.val (.int u0), .val (.int u1), .val (.int u2), .val (.int u3), .val (.int u4), .val (.int (1 : Int32)), .val (.int (1 : Int32)), .val (.ref b28), .val (.ref bt), .val (.int (1 : Int32)), .unset]) (pc' := 135) rfl rfl ?_
      refine w_iloadN O at_135 (pc' := 136) rfl rfl ?_
      refine w_istore O at_136 (L' := #[.val (.int u0), .val (.int u1), .val (.int u2), .val (.int u3), .val (.int u4), .val (.int (1 : Int32)), .val (.int (1 : Int32)), .val (.ref b28), .val (.ref bt), .val (.int (1 : Int32)), .val (.int u1)]) (pc' := 138) rfl rfl ?_
      refine w_goto O at_138 (pc' := 210) (by decide) rfl ?_
      refine w_iload O at_210 (pc' := 212) rfl rfl ?_
      refine w_if_ne O at_212 (pn := 215) (pt := 217) rfl (by decide) rfl (fun c212 => ?_) (fun q => absurd q (by decide))
      refine w_iload O at_217 (pc' := 219) rfl rfl ?_
      refine w_iconst O at_219 (z := (1 : Int32)) (pc' := 220) rfl rfl ?_
      refine w_icmp_lt O at_220 (pn := 223) (pt := 245) rfl (by decide) rfl (fun q => absurd q (by decide)) (fun c220 => ?_)
      refine w_aload O at_223 (pc' := 225) rfl rfl rfl ?_
      refine w_iconst O at_225 (z := (0 : Int32)) (pc' := 226) rfl rfl ?_
      refine w_aload O at_226 (pc' := 228) rfl rfl rfl ?_
      refine w_iconst O at_228 (z := (0 : Int32)) (pc' := 229) rfl rfl ?_
      refine w_iaload O at_229 (i := 0) (x := u1) (pc' := 230) rfl Bth34 (by decide) (by decide) rfl ?_
      refine w_iconst O at_230 (z := (-1 : Int32)) (pc' := 231) rfl rfl ?_
      refine w_ixor O at_231 (pc' := 232) rfl ?_
      refine w_iastore O at_232 (i := 0) (pc' := 233) rfl Bth34 (by decide) (by decide) gb (fun h35 Wh35 => ?_)
      have F36_h35 := Sh34.1.wr Wh35
      have Sh34_h35 := Stk.wr Sh34 Wh35 nab nrb
      have Bth34_h35 := Bth34.set Wh35
      refine w_aload O at_233 (pc' := 235) rfl rfl rfl ?_
      refine w_virtual O at_235 (as := []) (st := []) (wt := 0) (cl' := 3) (sl' := 69) (pc' := 238) rfl (mw 29 rfl) (mw 30 rfl) (mw 32 rfl) (mw 31 rfl) (mw 33 rfl) (mw 2 rfl) (by decide) F36_h35 (con_peek l Z a0 hw b28 r (1 : Int32) (upd (upd (fun _ => .int (0 : Int32)) 0 (.int u1)) 1 (.int u4)) h35 n0 (0 : Int32) u1 0 Sh34_h35 rfl (by decide) (by decide) rfl) rfl pd_2 rfl rfl rfl (by decide) (by decide) rfl rfl (by decide) (by decide) (cI fun q37 _ ⟨hq37, eq37⟩ => ?_)
      rw [hq37]
      rw [eq37]
      refine w_iload O at_238 (pc' := 240) rfl rfl ?_
      refine w_icmp_eq O at_240 (pn := 243) (pt := 245) rfl (by decide) rfl (fun c240 => ?_) (fun q => absurd q (by omega))
      refine w_aload O at_245 (pc' := 247) rfl rfl rfl ?_
      refine w_virtual O at_247 (as := []) (st := []) (wt := 0) (cl' := 3) (sl' := 69) (pc' := 250) rfl (mw 19 rfl) (mw 20 rfl) (mw 22 rfl) (mw 21 rfl) (mw 23 rfl) (mw 2 rfl) (by decide) F36_h35 (con_size l Z a0 hw b28 r (1 : Int32) (upd (upd (fun _ => .int (0 : Int32)) 0 (.int u1)) 1 (.int u4)) h35 n0 Sh34_h35) rfl pd_2 rfl rfl rfl (by decide) (by decide) rfl rfl (by decide) (by decide) (cI fun q38 _ ⟨hq38, eq38⟩ => ?_)
      rw [hq38]
      rw [eq38]
      refine w_iload O at_250 (pc' := 252) rfl rfl ?_
      refine w_icmp_ne O at_252 (pn := 255) (pt := 259) rfl (by decide) rfl (fun q => absurd q (by decide)) (fun c252 => ?_)
      refine w_iconst O at_255 (z := (1 : Int32)) (pc' := 256) rfl rfl ?_
      refine w_goto O at_256 (pc' := 260) (by decide) rfl ?_
      refine w_retz O at_260 (by decide) (by decide) (Or.inr rfl) ?_
      exact ⟨_, rfl, rfl⟩
  · rw [en]
    refine w_istore O at_3 (L' := #[.val (.int u0), .val (.int u1), .val (.int u2), .val (.int u3), .val (.int u4), .val (.int (2 : Int32)), .unset, .unset, .unset, .unset, .unset]) (pc' := 5) rfl rfl ?_
    refine w_iloadN O at_5 (pc' := 6) rfl rfl ?_
    refine w_iconst O at_6 (z := (2 : Int32)) (pc' := 7) rfl rfl ?_
    refine w_ishr O at_7 (pc' := 8) rfl ?_
    refine w_iconst O at_8 (z := (1 : Int32)) (pc' := 9) rfl rfl ?_
    refine w_iand O at_9 (pc' := 10) rfl ?_
    have i39 : ((u0 >>> ((2 : Int32) &&& 31))).toInt = u0.toInt / 4 := c_ishr u0 (2 : Int32) 2 (by decide)
    have i40 : (((u0 >>> ((2 : Int32) &&& 31))) &&& (1 : Int32)).toInt = ((u0 >>> ((2 : Int32) &&& 31))).toInt % 2 := c_mask ((u0 >>> ((2 : Int32) &&& 31))) (1 : Int32) 1 (by decide) (by decide)
    refine w_if_eq O at_10 (pn := 13) (pt := 17) rfl (by decide) rfl (fun c10 => ?_) (fun c10 => ?_)
    · replace c10 : (((u0 >>> ((2 : Int32) &&& 31))) &&& (1 : Int32)).toInt = 0 := c10
      refine w_iconst O at_17 (z := (0 : Int32)) (pc' := 18) rfl rfl ?_
      refine w_istore O at_18 (L' := #[.val (.int u0), .val (.int u1), .val (.int u2), .val (.int u3), .val (.int u4), .val (.int (2 : Int32)), .val (.int (0 : Int32)), .unset, .unset, .unset, .unset]) (pc' := 20) rfl rfl ?_
      refine w_new O at_20 (cl' := 1) (sl' := 2) (pc' := 23) rfl (mw 0 rfl) (mw 1 rfl) (mw 2 rfl) rfl rfl (by decide) (by decide) (fun h41 b42 qb42 g_b42 Eh41 E_b42 Db42 => ?_)
      have F_elements_b42 : Fld Z h41 b42 "com/example/mutex_explorer/mutexexplorer/IntStack" "elements" "[I" .null := Db42 (Or.inl (O.2.2.2.2.2.2.2.2.1 _ (mw 11 rfl))) (ty := (.array .int)) (by decide)
      have F_size_b42 : Fld Z h41 b42 "com/example/mutex_explorer/mutexexplorer/IntStack" "size" "I" (.int (0 : Int32)) := Db42 (Or.inl (O.2.2.2.2.2.2.2.2.1 _ (mw 18 rfl))) (ty := .int) (by decide)
      refine w_dup O at_23 (pc' := 24) rfl rfl ?_
      refine w_init O at_24 (as := []) (st := [(.ref b42)]) (wt := 1) (cl' := 2) (sl' := 66) (pc' := 27) rfl rfl (mw 3 rfl) (mw 4 rfl) (mw 2 rfl) (mw 5 rfl) (by decide) (con_init l Z a0 hw b42 h41 n0 E_b42 F_elements_b42 F_size_b42 g_b42) rfl pd_0 rfl rfl rfl (by decide) (by decide) rfl rfl (by decide) (by decide) (cV fun h43 ⟨r, Sh43⟩ => ?_)
      refine w_astore O at_27 (L' := #[.val (.int u0), .val (.int u1), .val (.int u2), .val (.int u3), .val (.int u4), .val (.int (2 : Int32)), .val (.int (0 : Int32)), .val (.ref b42), .unset, .unset, .unset]) (pc' := 29) rfl rfl rfl ?_
      refine w_iload O at_29 (pc' := 31) rfl rfl ?_
      refine w_iconst O at_31 (z := (1 : Int32)) (pc' := 32) rfl rfl ?_
      refine w_icmp_lt O at_32 (pn := 35) (pt := 41) rfl (by decide) rfl (fun q => absurd q (by decide)) (fun c32 => ?_)
      refine w_aload O at_35 (pc' := 37) rfl rfl rfl ?_
      refine w_iloadN O at_37 (pc' := 38) rfl rfl ?_
      refine w_virtual O at_38 (as := [(.int u1)]) (st := []) (wt := 0) (cl' := 2) (sl' := 66) (pc' := 41) rfl (mw 24 rfl) (mw 25 rfl) (mw 27 rfl) (mw 26 rfl) (mw 28 rfl) (mw 2 rfl) (by decide) Sh43.1 (con_push l Z a0 hw b42 r (0 : Int32) (fun _ => .int (0 : Int32)) u1 h43 n0 (1 : Int32) 0 Sh43 (by decide) (by decide) rfl) rfl pd_3 rfl rfl rfl (by decide) (by decide) rfl rfl (by decide) (by decide) (cV fun h44 Sh44 => ?_)
      refine w_iload O at_41 (pc' := 43) rfl rfl ?_
      refine w_iconst O at_43 (z := (2 : Int32)) (pc' := 44) rfl rfl ?_
      refine w_icmp_lt O at_44 (pn := 47) (pt := 53) rfl (by decide) rfl (fun q => absurd q (by decide)) (fun c44 => ?_)
      refine w_aload O at_47 (pc' := 49) rfl rfl rfl ?_
      refine w_iloadN O at_49 (pc' := 50) rfl rfl ?_
      refine w_virtual O at_50 (as := [(.int u2)]) (st := []) (wt := 0) (cl' := 2) (sl' := 66) (pc' := 53) rfl (mw 24 rfl) (mw 25 rfl) (mw 27 rfl) (mw 26 rfl) (mw 28 rfl) (mw 2 rfl) (by decide) Sh44.1 (con_push l Z a0 hw b42 r (1 : Int32) (upd (fun _ => .int (0 : Int32)) 0 (.int u1)) u2 h44 n0 (2 : Int32) 1 Sh44 (by decide) (by decide) rfl) rfl pd_3 rfl rfl rfl (by decide) (by decide) rfl rfl (by decide) (by decide) (cV fun h45 Sh45 => ?_)
      refine w_iload O at_53 (pc' := 55) rfl rfl ?_
      refine w_iconst O at_55 (z := (3 : Int32)) (pc' := 56) rfl rfl ?_
      refine w_icmp_lt O at_56 (pn := 59) (pt := 65) rfl (by decide) rfl (fun c56 => ?_) (fun q => absurd q (by decide))
      refine w_iload O at_65 (pc' := 67) rfl rfl ?_
      refine w_if_eq O at_67 (pn := 70) (pt := 83) rfl (by decide) rfl (fun c67 => ?_) (fun q => absurd q (by decide))
      refine w_aload O at_83 (pc' := 85) rfl rfl rfl ?_
      refine w_virtual O at_85 (as := []) (st := []) (wt := 0) (cl' := 3) (sl' := 69) (pc' := 88) rfl (mw 12 rfl) (mw 13 rfl) (mw 15 rfl) (mw 14 rfl) (mw 16 rfl) (mw 2 rfl) (by decide) Sh45.1 (con_top l Z a0 hw b42 r (2 : Int32) (upd (upd (fun _ => .int (0 : Int32)) 0 (.int u1)) 1 (.int u2)) h45 n0 2 Sh45 (by decide) (by decide) (fun j hj => by have hj' : j = 0 ∨ j = 1 := (by omega); rcases hj' with rfl | rfl <;> exact ⟨_, rfl⟩)) rfl pd_1 rfl rfl rfl (by decide) (by decide) rfl rfl (by decide) (by decide) (cA fun v h46 hv ⟨bt, ev, Sh46, Bth46, nab, nrb, gb⟩ => ?_)
      subst ev
      refine w_astore O at_88 (L' := #[.val (.int u0), .val (.int u1), .val (.int u2), .val (.int u3), .val (.int u4), .val (.int (2 : Int32)), .val (.int (0 : Int32)), .val (.ref b42), .val (.ref bt), .unset, .unset]) (pc' := 90) rfl rfl rfl ?_
      refine w_aload O at_90 (pc' := 92) rfl rfl rfl ?_
      refine w_alen O at_92 (z := (2 : Int32)) (pc' := 93) rfl Bth46 (by decide) ?_
      refine w_iload O at_93 (pc' := 95) rfl rfl ?_
      refine w_icmp_eq O at_95 (pn := 98) (pt := 100) rfl (by decide) rfl (fun c95 => ?_) (fun q => absurd q (by decide))
      refine w_iload O at_100 (pc' := 102) rfl rfl ?_
      refine w_if_ne O at_102 (pn := 105) (pt := 114) rfl (by decide) rfl (fun c102 => ?_) (fun q => absurd q (by decide))
      refine w_iload O at_114 (pc' := 116) rfl rfl ?_
      refine w_iconst O at_116 (z := (1 : Int32)) (pc' := 117) rfl rfl ?_
      refine w_icmp_ne O at_117 (pn := 120) (pt := 141) rfl (by decide) rfl (fun c117 => ?_) (fun q => absurd q (by decide))
      refine w_iload O at_141 (pc' := 143) rfl rfl ?_
      refine w_iconst O at_143 (z := (2 : Int32)) (pc' := 144) rfl rfl ?_
      refine w_icmp_ne O at_144 (pn := 147) (pt := 176) rfl (by decide) rfl (fun q => absurd q (by decide)) (fun c144 => ?_)
      refine w_aload O at_147 (pc' := 149) rfl rfl rfl ?_
      refine w_iconst O at_149 (z := (0 : Int32)) (pc' := 150) rfl rfl ?_
      refine w_iaload O at_150 (i := 0) (x := u2) (pc' := 151) rfl Bth46 (by decide) (by decide) rfl ?_
      refine w_iloadN O at_151 (pc' := 152) rfl rfl ?_
      refine w_icmp_ne O at_152 (pn := 155) (pt := 167) rfl (by decide) rfl (fun q => absurd q (by omega)) (fun c152 => ?_)
      refine w_aload O at_155 (pc' := 157) rfl rfl rfl ?_
      refine w_iconst O at_157 (z := (1 : Int32)) (pc' := 158) rfl rfl ?_
      refine w_iaload O at_158 (i := 1) (x := u1) (pc' := 159) rfl Bth46 (by decide) (by decide) rfl ?_
      refine w_iloadN O at_159 (pc' := 160) rfl rfl ?_
      refine w_icmp_ne O at_160 (pn := 163) (pt := 167) rfl (by decide) rfl (fun q => absurd q (by omega)) (fun c160 => ?_)
      refine w_iconst O at_163 (z := (1 : Int32)) (pc' := 164) rfl rfl ?_
      refine w_goto O at_164 (pc' := 168) (by decide) rfl ?_
      refine w_istore O at_168 (L' := #[.val (.int u0), .val (.int u1), .val (.int u2), .val (.int u3), .val (.int u4), .val (.int (2 : Int32)), .val (.int (0 : Int32)), .val (.ref b42), .val (.ref bt), .val (.int (1 : Int32)), .unset]) (pc' := 170) rfl rfl ?_
      refine w_iloadN O at_170 (pc' := 171) rfl rfl ?_
      refine w_istore O at_171 (L' := #[.val (.int u0), .val (.int u1), .val (.int u2), .val (.int u3), .val (.int u4), .val (.int (2 : Int32)), .val (.int (0 : Int32)), .val (.ref b42), .val (.ref bt), .val (.int (1 : Int32)), .val (.int u2)]) (pc' := 173) rfl rfl ?_
      refine w_goto O at_173 (pc' := 210) (by decide) rfl ?_
      refine w_iload O at_210 (pc' := 212) rfl rfl ?_
      refine w_if_ne O at_212 (pn := 215) (pt := 217) rfl (by decide) rfl (fun c212 => ?_) (fun q => absurd q (by decide))
      refine w_iload O at_217 (pc' := 219) rfl rfl ?_
      refine w_iconst O at_219 (z := (1 : Int32)) (pc' := 220) rfl rfl ?_
      refine w_icmp_lt O at_220 (pn := 223) (pt := 245) rfl (by decide) rfl (fun q => absurd q (by decide)) (fun c220 => ?_)
      refine w_aload O at_223 (pc' := 225) rfl rfl rfl ?_
      refine w_iconst O at_225 (z := (0 : Int32)) (pc' := 226) rfl rfl ?_
      refine w_aload O at_226 (pc' := 228) rfl rfl rfl ?_
      refine w_iconst O at_228 (z := (0 : Int32)) (pc' := 229) rfl rfl ?_
      refine w_iaload O at_229 (i := 0) (x := u2) (pc' := 230) rfl Bth46 (by decide) (by decide) rfl ?_
      refine w_iconst O at_230 (z := (-1 : Int32)) (pc' := 231) rfl rfl ?_
      refine w_ixor O at_231 (pc' := 232) rfl ?_
      refine w_iastore O at_232 (i := 0) (pc' := 233) rfl Bth46 (by decide) (by decide) gb (fun h47 Wh47 => ?_)
      have F48_h47 := Sh46.1.wr Wh47
      have Sh46_h47 := Stk.wr Sh46 Wh47 nab nrb
      have Bth46_h47 := Bth46.set Wh47
      refine w_aload O at_233 (pc' := 235) rfl rfl rfl ?_
      refine w_virtual O at_235 (as := []) (st := []) (wt := 0) (cl' := 3) (sl' := 69) (pc' := 238) rfl (mw 29 rfl) (mw 30 rfl) (mw 32 rfl) (mw 31 rfl) (mw 33 rfl) (mw 2 rfl) (by decide) F48_h47 (con_peek l Z a0 hw b42 r (2 : Int32) (upd (upd (fun _ => .int (0 : Int32)) 0 (.int u1)) 1 (.int u2)) h47 n0 (1 : Int32) u2 1 Sh46_h47 rfl (by decide) (by decide) rfl) rfl pd_2 rfl rfl rfl (by decide) (by decide) rfl rfl (by decide) (by decide) (cI fun q49 _ ⟨hq49, eq49⟩ => ?_)
      rw [hq49]
      rw [eq49]
      refine w_iload O at_238 (pc' := 240) rfl rfl ?_
      refine w_icmp_eq O at_240 (pn := 243) (pt := 245) rfl (by decide) rfl (fun c240 => ?_) (fun q => absurd q (by omega))
      refine w_aload O at_245 (pc' := 247) rfl rfl rfl ?_
      refine w_virtual O at_247 (as := []) (st := []) (wt := 0) (cl' := 3) (sl' := 69) (pc' := 250) rfl (mw 19 rfl) (mw 20 rfl) (mw 22 rfl) (mw 21 rfl) (mw 23 rfl) (mw 2 rfl) (by decide) F48_h47 (con_size l Z a0 hw b42 r (2 : Int32) (upd (upd (fun _ => .int (0 : Int32)) 0 (.int u1)) 1 (.int u2)) h47 n0 Sh46_h47) rfl pd_2 rfl rfl rfl (by decide) (by decide) rfl rfl (by decide) (by decide) (cI fun q50 _ ⟨hq50, eq50⟩ => ?_)
      rw [hq50]
      rw [eq50]
      refine w_iload O at_250 (pc' := 252) rfl rfl ?_
      refine w_icmp_ne O at_252 (pn := 255) (pt := 259) rfl (by decide) rfl (fun q => absurd q (by decide)) (fun c252 => ?_)
      refine w_iconst O at_255 (z := (1 : Int32)) (pc' := 256) rfl rfl ?_
      refine w_goto O at_256 (pc' := 260) (by decide) rfl ?_
      refine w_retz O at_260 (by decide) (by decide) (Or.inr rfl) ?_
      exact ⟨_, rfl, rfl⟩
    · replace c10 : ¬ (((u0 >>> ((2 : Int32) &&& 31))) &&& (1 : Int32)).toInt = 0 := c10
      refine w_iconst O at_13 (z := (1 : Int32)) (pc' := 14) rfl rfl ?_
      refine w_goto O at_14 (pc' := 18) (by decide) rfl ?_
      refine w_istore O at_18 (L' := #[.val (.int u0), .val (.int u1), .val (.int u2), .val (.int u3), .val (.int u4), .val (.int (2 : Int32)), .val (.int (1 : Int32)), .unset, .unset, .unset, .unset]) (pc' := 20) rfl rfl ?_
      refine w_new O at_20 (cl' := 1) (sl' := 2) (pc' := 23) rfl (mw 0 rfl) (mw 1 rfl) (mw 2 rfl) rfl rfl (by decide) (by decide) (fun h51 b52 qb52 g_b52 Eh51 E_b52 Db52 => ?_)
      have F_elements_b52 : Fld Z h51 b52 "com/example/mutex_explorer/mutexexplorer/IntStack" "elements" "[I" .null := Db52 (Or.inl (O.2.2.2.2.2.2.2.2.1 _ (mw 11 rfl))) (ty := (.array .int)) (by decide)
      have F_size_b52 : Fld Z h51 b52 "com/example/mutex_explorer/mutexexplorer/IntStack" "size" "I" (.int (0 : Int32)) := Db52 (Or.inl (O.2.2.2.2.2.2.2.2.1 _ (mw 18 rfl))) (ty := .int) (by decide)
      refine w_dup O at_23 (pc' := 24) rfl rfl ?_
      refine w_init O at_24 (as := []) (st := [(.ref b52)]) (wt := 1) (cl' := 2) (sl' := 66) (pc' := 27) rfl rfl (mw 3 rfl) (mw 4 rfl) (mw 2 rfl) (mw 5 rfl) (by decide) (con_init l Z a0 hw b52 h51 n0 E_b52 F_elements_b52 F_size_b52 g_b52) rfl pd_0 rfl rfl rfl (by decide) (by decide) rfl rfl (by decide) (by decide) (cV fun h53 ⟨r, Sh53⟩ => ?_)
      refine w_astore O at_27 (L' := #[.val (.int u0), .val (.int u1), .val (.int u2), .val (.int u3), .val (.int u4), .val (.int (2 : Int32)), .val (.int (1 : Int32)), .val (.ref b52), .unset, .unset, .unset]) (pc' := 29) rfl rfl rfl ?_
      refine w_iload O at_29 (pc' := 31) rfl rfl ?_
      refine w_iconst O at_31 (z := (1 : Int32)) (pc' := 32) rfl rfl ?_
      refine w_icmp_lt O at_32 (pn := 35) (pt := 41) rfl (by decide) rfl (fun q => absurd q (by decide)) (fun c32 => ?_)
      refine w_aload O at_35 (pc' := 37) rfl rfl rfl ?_
      refine w_iloadN O at_37 (pc' := 38) rfl rfl ?_
      refine w_virtual O at_38 (as := [(.int u1)]) (st := []) (wt := 0) (cl' := 2) (sl' := 66) (pc' := 41) rfl (mw 24 rfl) (mw 25 rfl) (mw 27 rfl) (mw 26 rfl) (mw 28 rfl) (mw 2 rfl) (by decide) Sh53.1 (con_push l Z a0 hw b52 r (0 : Int32) (fun _ => .int (0 : Int32)) u1 h53 n0 (1 : Int32) 0 Sh53 (by decide) (by decide) rfl) rfl pd_3 rfl rfl rfl (by decide) (by decide) rfl rfl (by decide) (by decide) (cV fun h54 Sh54 => ?_)
      refine w_iload O at_41 (pc' := 43) rfl rfl ?_
      refine w_iconst O at_43 (z := (2 : Int32)) (pc' := 44) rfl rfl ?_
      refine w_icmp_lt O at_44 (pn := 47) (pt := 53) rfl (by decide) rfl (fun q => absurd q (by decide)) (fun c44 => ?_)
      refine w_aload O at_47 (pc' := 49) rfl rfl rfl ?_
      refine w_iloadN O at_49 (pc' := 50) rfl rfl ?_
      refine w_virtual O at_50 (as := [(.int u2)]) (st := []) (wt := 0) (cl' := 2) (sl' := 66) (pc' := 53) rfl (mw 24 rfl) (mw 25 rfl) (mw 27 rfl) (mw 26 rfl) (mw 28 rfl) (mw 2 rfl) (by decide) Sh54.1 (con_push l Z a0 hw b52 r (1 : Int32) (upd (fun _ => .int (0 : Int32)) 0 (.int u1)) u2 h54 n0 (2 : Int32) 1 Sh54 (by decide) (by decide) rfl) rfl pd_3 rfl rfl rfl (by decide) (by decide) rfl rfl (by decide) (by decide) (cV fun h55 Sh55 => ?_)
      refine w_iload O at_53 (pc' := 55) rfl rfl ?_
      refine w_iconst O at_55 (z := (3 : Int32)) (pc' := 56) rfl rfl ?_
      refine w_icmp_lt O at_56 (pn := 59) (pt := 65) rfl (by decide) rfl (fun c56 => ?_) (fun q => absurd q (by decide))
      refine w_iload O at_65 (pc' := 67) rfl rfl ?_
      refine w_if_eq O at_67 (pn := 70) (pt := 83) rfl (by decide) rfl (fun q => absurd q (by decide)) (fun c67 => ?_)
      refine w_aload O at_70 (pc' := 72) rfl rfl rfl ?_
      refine w_iload O at_72 (pc' := 74) rfl rfl ?_
      refine w_virtual O at_74 (as := [(.int u4)]) (st := []) (wt := 0) (cl' := 2) (sl' := 66) (pc' := 77) rfl (mw 24 rfl) (mw 25 rfl) (mw 27 rfl) (mw 26 rfl) (mw 28 rfl) (mw 2 rfl) (by decide) Sh55.1 (con_push l Z a0 hw b52 r (2 : Int32) (upd (upd (fun _ => .int (0 : Int32)) 0 (.int u1)) 1 (.int u2)) u4 h55 n0 (3 : Int32) 2 Sh55 (by decide) (by decide) rfl) rfl pd_3 rfl rfl rfl (by decide) (by decide) rfl rfl (by decide) (by decide) (cV fun h56 Sh56 => ?_)
      refine w_aload O at_77 (pc' := 79) rfl rfl rfl ?_
      refine w_virtual O at_79 (as := []) (st := []) (wt := 0) (cl' := 2) (sl' := 66) (pc' := 82) rfl (mw 34 rfl) (mw 35 rfl) (mw 37 rfl) (mw 36 rfl) (mw 38 rfl) (mw 2 rfl) (by decide) Sh56.1 (con_pop l Z a0 hw b52 r (3 : Int32) (upd (upd (upd (fun _ => .int (0 : Int32)) 0 (.int u1)) 1 (.int u2)) 2 (.int u4)) h56 n0 (2 : Int32) u4 2 Sh56 rfl (by decide) (by decide) rfl) rfl pd_2 rfl rfl rfl (by decide) (by decide) rfl rfl (by decide) (by decide) (cI fun q58 h57 ⟨eq58, Sh57⟩ => ?_)
      rw [eq58]
      refine w_pop O at_82 (pc' := 83) rfl rfl ?_
      refine w_aload O at_83 (pc' := 85) rfl rfl rfl ?_
      refine w_virtual O at_85 (as := []) (st := []) (wt := 0) (cl' := 3) (sl' := 69) (pc' := 88) rfl (mw 12 rfl) (mw 13 rfl) (mw 15 rfl) (mw 14 rfl) (mw 16 rfl) (mw 2 rfl) (by decide) Sh57.1 (con_top l Z a0 hw b52 r (2 : Int32) (upd (upd (upd (fun _ => .int (0 : Int32)) 0 (.int u1)) 1 (.int u2)) 2 (.int u4)) h57 n0 2 Sh57 (by decide) (by decide) (fun j hj => by have hj' : j = 0 ∨ j = 1 := (by omega); rcases hj' with rfl | rfl <;> exact ⟨_, rfl⟩)) rfl pd_1 rfl rfl rfl (by decide) (by decide) rfl rfl (by decide) (by decide) (cA fun v h59 hv ⟨bt, ev, Sh59, Bth59, nab, nrb, gb⟩ => ?_)
      subst ev
      refine w_astore O at_88 (L' := #[.val (.int u0), .val (.int u1), .val (.int u2), .val (.int u3), .val (.int u4), .val (.int (2 : Int32)), .val (.int (1 : Int32)), .val (.ref b52), .val (.ref bt), .unset, .unset]) (pc' := 90) rfl rfl rfl ?_
      refine w_aload O at_90 (pc' := 92) rfl rfl rfl ?_
      refine w_alen O at_92 (z := (2 : Int32)) (pc' := 93) rfl Bth59 (by decide) ?_
      refine w_iload O at_93 (pc' := 95) rfl rfl ?_
      refine w_icmp_eq O at_95 (pn := 98) (pt := 100) rfl (by decide) rfl (fun c95 => ?_) (fun q => absurd q (by decide))
      refine w_iload O at_100 (pc' := 102) rfl rfl ?_
      refine w_if_ne O at_102 (pn := 105) (pt := 114) rfl (by decide) rfl (fun c102 => ?_) (fun q => absurd q (by decide))
      refine w_iload O at_114 (pc' := 116) rfl rfl ?_
      refine w_iconst O at_116 (z := (1 : Int32)) (pc' := 117) rfl rfl ?_
      refine w_icmp_ne O at_117 (pn := 120) (pt := 141) rfl (by decide) rfl (fun c117 => ?_) (fun q => absurd q (by decide))
      refine w_iload O at_141 (pc' := 143) rfl rfl ?_
      refine w_iconst O at_143 (z := (2 : Int32)) (pc' := 144) rfl rfl ?_
      refine w_icmp_ne O at_144 (pn := 147) (pt := 176) rfl (by decide) rfl (fun q => absurd q (by decide)) (fun c144 => ?_)
      refine w_aload O at_147 (pc' := 149) rfl rfl rfl ?_
      refine w_iconst O at_149 (z := (0 : Int32)) (pc' := 150) rfl rfl ?_
      refine w_iaload O at_150 (i := 0) (x := u2) (pc' := 151) rfl Bth59 (by decide) (by decide) rfl ?_
      refine w_iloadN O at_151 (pc' := 152) rfl rfl ?_
      refine w_icmp_ne O at_152 (pn := 155) (pt := 167) rfl (by decide) rfl (fun q => absurd q (by omega)) (fun c152 => ?_)
      refine w_aload O at_155 (pc' := 157) rfl rfl rfl ?_
      refine w_iconst O at_157 (z := (1 : Int32)) (pc' := 158) rfl rfl ?_
      refine w_iaload O at_158 (i := 1) (x := u1) (pc' := 159) rfl Bth59 (by decide) (by decide) rfl ?_
      refine w_iloadN O at_159 (pc' := 160) rfl rfl ?_
      refine w_icmp_ne O at_160 (pn := 163) (pt := 167) rfl (by decide) rfl (fun q => absurd q (by omega)) (fun c160 => ?_)
      refine w_iconst O at_163 (z := (1 : Int32)) (pc' := 164) rfl rfl ?_
      refine w_goto O at_164 (pc' := 168) (by decide) rfl ?_
      refine w_istore O at_168 (L' := #[.val (.int u0), .val (.int u1), .val (.int u2), .val (.int u3), .val (.int u4), .val (.int (2 : Int32)), .val (.int (1 : Int32)), .val (.ref b52), .val (.ref bt), .val (.int (1 : Int32)), .unset]) (pc' := 170) rfl rfl ?_
      refine w_iloadN O at_170 (pc' := 171) rfl rfl ?_
      refine w_istore O at_171 (L' := #[.val (.int u0), .val (.int u1), .val (.int u2), .val (.int u3), .val (.int u4), .val (.int (2 : Int32)), .val (.int (1 : Int32)), .val (.ref b52), .val (.ref bt), .val (.int (1 : Int32)), .val (.int u2)]) (pc' := 173) rfl rfl ?_
      refine w_goto O at_173 (pc' := 210) (by decide) rfl ?_
      refine w_iload O at_210 (pc' := 212) rfl rfl ?_
      refine w_if_ne O at_212 (pn := 215) (pt := 217) rfl (by decide) rfl (fun c212 => ?_) (fun q => absurd q (by decide))
      refine w_iload O at_217 (pc' := 219) rfl rfl ?_
      refine w_iconst O at_219 (z := (1 : Int32)) (pc' := 220) rfl rfl ?_
      refine w_icmp_lt O at_220 (pn := 223) (pt := 245) rfl (by decide) rfl (fun q => absurd q (by decide)) (fun c220 => ?_)
      refine w_aload O at_223 (pc' := 225) rfl rfl rfl ?_
      refine w_iconst O at_225 (z := (0 : Int32)) (pc' := 226) rfl rfl ?_
      refine w_aload O at_226 (pc' := 228) rfl rfl rfl ?_
      refine w_iconst O at_228 (z := (0 : Int32)) (pc' := 229) rfl rfl ?_
      refine w_iaload O at_229 (i := 0) (x := u2) (pc' := 230) rfl Bth59 (by decide) (by decide) rfl ?_
      refine w_iconst O at_230 (z := (-1 : Int32)) (pc' := 231) rfl rfl ?_
      refine w_ixor O at_231 (pc' := 232) rfl ?_
      refine w_iastore O at_232 (i := 0) (pc' := 233) rfl Bth59 (by decide) (by decide) gb (fun h60 Wh60 => ?_)
      have F61_h60 := Sh59.1.wr Wh60
      have Sh59_h60 := Stk.wr Sh59 Wh60 nab nrb
      have Bth59_h60 := Bth59.set Wh60
      refine w_aload O at_233 (pc' := 235) rfl rfl rfl ?_
      refine w_virtual O at_235 (as := []) (st := []) (wt := 0) (cl' := 3) (sl' := 69) (pc' := 238) rfl (mw 29 rfl) (mw 30 rfl) (mw 32 rfl) (mw 31 rfl) (mw 33 rfl) (mw 2 rfl) (by decide) F61_h60 (con_peek l Z a0 hw b52 r (2 : Int32) (upd (upd (upd (fun _ => .int (0 : Int32)) 0 (.int u1)) 1 (.int u2)) 2 (.int u4)) h60 n0 (1 : Int32) u2 1 Sh59_h60 rfl (by decide) (by decide) rfl) rfl pd_2 rfl rfl rfl (by decide) (by decide) rfl rfl (by decide) (by decide) (cI fun q62 _ ⟨hq62, eq62⟩ => ?_)
      rw [hq62]
      rw [eq62]
      refine w_iload O at_238 (pc' := 240) rfl rfl ?_
      refine w_icmp_eq O at_240 (pn := 243) (pt := 245) rfl (by decide) rfl (fun c240 => ?_) (fun q => absurd q (by omega))
      refine w_aload O at_245 (pc' := 247) rfl rfl rfl ?_
      refine w_virtual O at_247 (as := []) (st := []) (wt := 0) (cl' := 3) (sl' := 69) (pc' := 250) rfl (mw 19 rfl) (mw 20 rfl) (mw 22 rfl) (mw 21 rfl) (mw 23 rfl) (mw 2 rfl) (by decide) F61_h60 (con_size l Z a0 hw b52 r (2 : Int32) (upd (upd (upd (fun _ => .int (0 : Int32)) 0 (.int u1)) 1 (.int u2)) 2 (.int u4)) h60 n0 Sh59_h60) rfl pd_2 rfl rfl rfl (by decide) (by decide) rfl rfl (by decide) (by decide) (cI fun q63 _ ⟨hq63, eq63⟩ => ?_)
      rw [hq63]
      rw [eq63]
      refine w_iload O at_250 (pc' := 252) rfl rfl ?_
      refine w_icmp_ne O at_252 (pn := 255) (pt := 259) rfl (by decide) rfl (fun q => absurd q (by decide)) (fun c252 => ?_)
      refine w_iconst O at_255 (z := (1 : Int32)) (pc' := 256) rfl rfl ?_
      refine w_goto O at_256 (pc' := 260) (by decide) rfl ?_
      refine w_retz O at_260 (by decide) (by decide) (Or.inr rfl) ?_
      exact ⟨_, rfl, rfl⟩
  · rw [en]
    refine w_istore O at_3 (L' := #[.val (.int u0), .val (.int u1), .val (.int u2), .val (.int u3), .val (.int u4), .val (.int (3 : Int32)), .unset, .unset, .unset, .unset, .unset]) (pc' := 5) rfl rfl ?_
    refine w_iloadN O at_5 (pc' := 6) rfl rfl ?_
    refine w_iconst O at_6 (z := (2 : Int32)) (pc' := 7) rfl rfl ?_
    refine w_ishr O at_7 (pc' := 8) rfl ?_
    refine w_iconst O at_8 (z := (1 : Int32)) (pc' := 9) rfl rfl ?_
    refine w_iand O at_9 (pc' := 10) rfl ?_
    have i64 : ((u0 >>> ((2 : Int32) &&& 31))).toInt = u0.toInt / 4 := c_ishr u0 (2 : Int32) 2 (by decide)
    have i65 : (((u0 >>> ((2 : Int32) &&& 31))) &&& (1 : Int32)).toInt = ((u0 >>> ((2 : Int32) &&& 31))).toInt % 2 := c_mask ((u0 >>> ((2 : Int32) &&& 31))) (1 : Int32) 1 (by decide) (by decide)
    refine w_if_eq O at_10 (pn := 13) (pt := 17) rfl (by decide) rfl (fun c10 => ?_) (fun c10 => ?_)
    · replace c10 : (((u0 >>> ((2 : Int32) &&& 31))) &&& (1 : Int32)).toInt = 0 := c10
      refine w_iconst O at_17 (z := (0 : Int32)) (pc' := 18) rfl rfl ?_
      refine w_istore O at_18 (L' := #[.val (.int u0), .val (.int u1), .val (.int u2), .val (.int u3), .val (.int u4), .val (.int (3 : Int32)), .val (.int (0 : Int32)), .unset, .unset, .unset, .unset]) (pc' := 20) rfl rfl ?_
      refine w_new O at_20 (cl' := 1) (sl' := 2) (pc' := 23) rfl (mw 0 rfl) (mw 1 rfl) (mw 2 rfl) rfl rfl (by decide) (by decide) (fun h66 b67 qb67 g_b67 Eh66 E_b67 Db67 => ?_)
      have F_elements_b67 : Fld Z h66 b67 "com/example/mutex_explorer/mutexexplorer/IntStack" "elements" "[I" .null := Db67 (Or.inl (O.2.2.2.2.2.2.2.2.1 _ (mw 11 rfl))) (ty := (.array .int)) (by decide)
      have F_size_b67 : Fld Z h66 b67 "com/example/mutex_explorer/mutexexplorer/IntStack" "size" "I" (.int (0 : Int32)) := Db67 (Or.inl (O.2.2.2.2.2.2.2.2.1 _ (mw 18 rfl))) (ty := .int) (by decide)
      refine w_dup O at_23 (pc' := 24) rfl rfl ?_
      refine w_init O at_24 (as := []) (st := [(.ref b67)]) (wt := 1) (cl' := 2) (sl' := 66) (pc' := 27) rfl rfl (mw 3 rfl) (mw 4 rfl) (mw 2 rfl) (mw 5 rfl) (by decide) (con_init l Z a0 hw b67 h66 n0 E_b67 F_elements_b67 F_size_b67 g_b67) rfl pd_0 rfl rfl rfl (by decide) (by decide) rfl rfl (by decide) (by decide) (cV fun h68 ⟨r, Sh68⟩ => ?_)
      refine w_astore O at_27 (L' := #[.val (.int u0), .val (.int u1), .val (.int u2), .val (.int u3), .val (.int u4), .val (.int (3 : Int32)), .val (.int (0 : Int32)), .val (.ref b67), .unset, .unset, .unset]) (pc' := 29) rfl rfl rfl ?_
      refine w_iload O at_29 (pc' := 31) rfl rfl ?_
      refine w_iconst O at_31 (z := (1 : Int32)) (pc' := 32) rfl rfl ?_
      refine w_icmp_lt O at_32 (pn := 35) (pt := 41) rfl (by decide) rfl (fun q => absurd q (by decide)) (fun c32 => ?_)
      refine w_aload O at_35 (pc' := 37) rfl rfl rfl ?_
      refine w_iloadN O at_37 (pc' := 38) rfl rfl ?_
      refine w_virtual O at_38 (as := [(.int u1)]) (st := []) (wt := 0) (cl' := 2) (sl' := 66) (pc' := 41) rfl (mw 24 rfl) (mw 25 rfl) (mw 27 rfl) (mw 26 rfl) (mw 28 rfl) (mw 2 rfl) (by decide) Sh68.1 (con_push l Z a0 hw b67 r (0 : Int32) (fun _ => .int (0 : Int32)) u1 h68 n0 (1 : Int32) 0 Sh68 (by decide) (by decide) rfl) rfl pd_3 rfl rfl rfl (by decide) (by decide) rfl rfl (by decide) (by decide) (cV fun h69 Sh69 => ?_)
      refine w_iload O at_41 (pc' := 43) rfl rfl ?_
      refine w_iconst O at_43 (z := (2 : Int32)) (pc' := 44) rfl rfl ?_
      refine w_icmp_lt O at_44 (pn := 47) (pt := 53) rfl (by decide) rfl (fun q => absurd q (by decide)) (fun c44 => ?_)
      refine w_aload O at_47 (pc' := 49) rfl rfl rfl ?_
      refine w_iloadN O at_49 (pc' := 50) rfl rfl ?_
      refine w_virtual O at_50 (as := [(.int u2)]) (st := []) (wt := 0) (cl' := 2) (sl' := 66) (pc' := 53) rfl (mw 24 rfl) (mw 25 rfl) (mw 27 rfl) (mw 26 rfl) (mw 28 rfl) (mw 2 rfl) (by decide) Sh69.1 (con_push l Z a0 hw b67 r (1 : Int32) (upd (fun _ => .int (0 : Int32)) 0 (.int u1)) u2 h69 n0 (2 : Int32) 1 Sh69 (by decide) (by decide) rfl) rfl pd_3 rfl rfl rfl (by decide) (by decide) rfl rfl (by decide) (by decide) (cV fun h70 Sh70 => ?_)
      refine w_iload O at_53 (pc' := 55) rfl rfl ?_
      refine w_iconst O at_55 (z := (3 : Int32)) (pc' := 56) rfl rfl ?_
      refine w_icmp_lt O at_56 (pn := 59) (pt := 65) rfl (by decide) rfl (fun q => absurd q (by decide)) (fun c56 => ?_)
      refine w_aload O at_59 (pc' := 61) rfl rfl rfl ?_
      refine w_iloadN O at_61 (pc' := 62) rfl rfl ?_
      refine w_virtual O at_62 (as := [(.int u3)]) (st := []) (wt := 0) (cl' := 2) (sl' := 66) (pc' := 65) rfl (mw 24 rfl) (mw 25 rfl) (mw 27 rfl) (mw 26 rfl) (mw 28 rfl) (mw 2 rfl) (by decide) Sh70.1 (con_push l Z a0 hw b67 r (2 : Int32) (upd (upd (fun _ => .int (0 : Int32)) 0 (.int u1)) 1 (.int u2)) u3 h70 n0 (3 : Int32) 2 Sh70 (by decide) (by decide) rfl) rfl pd_3 rfl rfl rfl (by decide) (by decide) rfl rfl (by decide) (by decide) (cV fun h71 Sh71 => ?_)
      refine w_iload O at_65 (pc' := 67) rfl rfl ?_
      refine w_if_eq O at_67 (pn := 70) (pt := 83) rfl (by decide) rfl (fun c67 => ?_) (fun q => absurd q (by decide))
      refine w_aload O at_83 (pc' := 85) rfl rfl rfl ?_
      refine w_virtual O at_85 (as := []) (st := []) (wt := 0) (cl' := 3) (sl' := 69) (pc' := 88) rfl (mw 12 rfl) (mw 13 rfl) (mw 15 rfl) (mw 14 rfl) (mw 16 rfl) (mw 2 rfl) (by decide) Sh71.1 (con_top l Z a0 hw b67 r (3 : Int32) (upd (upd (upd (fun _ => .int (0 : Int32)) 0 (.int u1)) 1 (.int u2)) 2 (.int u3)) h71 n0 3 Sh71 (by decide) (by decide) (fun j hj => by have hj' : j = 0 ∨ j = 1 ∨ j = 2 := (by omega); rcases hj' with rfl | rfl | rfl <;> exact ⟨_, rfl⟩)) rfl pd_1 rfl rfl rfl (by decide) (by decide) rfl rfl (by decide) (by decide) (cA fun v h72 hv ⟨bt, ev, Sh72, Bth72, nab, nrb, gb⟩ => ?_)
      subst ev
      refine w_astore O at_88 (L' := #[.val (.int u0), .val (.int u1), .val (.int u2), .val (.int u3), .val (.int u4), .val (.int (3 : Int32)), .val (.int (0 : Int32)), .val (.ref b67), .val (.ref bt), .unset, .unset]) (pc' := 90) rfl rfl rfl ?_
      refine w_aload O at_90 (pc' := 92) rfl rfl rfl ?_
      refine w_alen O at_92 (z := (3 : Int32)) (pc' := 93) rfl Bth72 (by decide) ?_
      refine w_iload O at_93 (pc' := 95) rfl rfl ?_
      refine w_icmp_eq O at_95 (pn := 98) (pt := 100) rfl (by decide) rfl (fun c95 => ?_) (fun q => absurd q (by decide))
      refine w_iload O at_100 (pc' := 102) rfl rfl ?_
      refine w_if_ne O at_102 (pn := 105) (pt := 114) rfl (by decide) rfl (fun c102 => ?_) (fun q => absurd q (by decide))
      refine w_iload O at_114 (pc' := 116) rfl rfl ?_
      refine w_iconst O at_116 (z := (1 : Int32)) (pc' := 117) rfl rfl ?_
      refine w_icmp_ne O at_117 (pn := 120) (pt := 141) rfl (by decide) rfl (fun c117 => ?_) (fun q => absurd q (by decide))
      refine w_iload O at_141 (pc' := 143) rfl rfl ?_
      refine w_iconst O at_143 (z := (2 : Int32)) (pc' := 144) rfl rfl ?_
      refine w_icmp_ne O at_144 (pn := 147) (pt := 176) rfl (by decide) rfl (fun c144 => ?_) (fun q => absurd q (by decide))
      refine w_aload O at_176 (pc' := 178) rfl rfl rfl ?_
      refine w_iconst O at_178 (z := (0 : Int32)) (pc' := 179) rfl rfl ?_
      refine w_iaload O at_179 (i := 0) (x := u3) (pc' := 180) rfl Bth72 (by decide) (by decide) rfl ?_
      refine w_iloadN O at_180 (pc' := 181) rfl rfl ?_
      refine w_icmp_ne O at_181 (pn := 184) (pt := 204) rfl (by decide) rfl (fun q => absurd q (by omega)) (fun c181 => ?_)
      refine w_aload O at_184 (pc' := 186) rfl rfl rfl ?_
      refine w_iconst O at_186 (z := (1 : Int32)) (pc' := 187) rfl rfl ?_
      refine w_iaload O at_187 (i := 1) (x := u2) (pc' := 188) rfl Bth72 (by decide) (by decide) rfl ?_
      refine w_iloadN O at_188 (pc' := 189) rfl rfl ?_
      refine w_icmp_ne O at_189 (pn := 192) (pt := 204) rfl (by decide) rfl (fun q => absurd q (by omega)) (fun c189 => ?_)
      refine w_aload O at_192 (pc' := 194) rfl rfl rfl ?_
      refine w_iconst O at_194 (z := (2 : Int32)) (pc' := 195) rfl rfl ?_
      refine w_iaload O at_195 (i := 2) (x := u1) (pc' := 196) rfl Bth72 (by decide) (by decide) rfl ?_
      refine w_iloadN O at_196 (pc' := 197) rfl rfl ?_
      refine w_icmp_ne O at_197 (pn := 200) (pt := 204) rfl (by decide) rfl (fun q => absurd q (by omega)) (fun c197 => ?_)
      refine w_iconst O at_200 (z := (1 : Int32)) (pc' := 201) rfl rfl ?_
      refine w_goto O at_201 (pc' := 205) (by decide) rfl ?_
      refine w_istore O at_205 (L' := #[.val (.int u0), .val (.int u1), .val (.int u2), .val (.int u3), .val (.int u4), .val (.int (3 : Int32)), .val (.int (0 : Int32)), .val (.ref b67), .val (.ref bt), .val (.int (1 : Int32)), .unset]) (pc' := 207) rfl rfl ?_
      refine w_iloadN O at_207 (pc' := 208) rfl rfl ?_
      refine w_istore O at_208 (L' := #[.val (.int u0), .val (.int u1), .val (.int u2), .val (.int u3), .val (.int u4), .val (.int (3 : Int32)), .val (.int (0 : Int32)), .val (.ref b67), .val (.ref bt), .val (.int (1 : Int32)), .val (.int u3)]) (pc' := 210) rfl rfl ?_
      refine w_iload O at_210 (pc' := 212) rfl rfl ?_
      refine w_if_ne O at_212 (pn := 215) (pt := 217) rfl (by decide) rfl (fun c212 => ?_) (fun q => absurd q (by decide))
      refine w_iload O at_217 (pc' := 219) rfl rfl ?_
      refine w_iconst O at_219 (z := (1 : Int32)) (pc' := 220) rfl rfl ?_
      refine w_icmp_lt O at_220 (pn := 223) (pt := 245) rfl (by decide) rfl (fun q => absurd q (by decide)) (fun c220 => ?_)
      refine w_aload O at_223 (pc' := 225) rfl rfl rfl ?_
      refine w_iconst O at_225 (z := (0 : Int32)) (pc' := 226) rfl rfl ?_
      refine w_aload O at_226 (pc' := 228) rfl rfl rfl ?_
      refine w_iconst O at_228 (z := (0 : Int32)) (pc' := 229) rfl rfl ?_
      refine w_iaload O at_229 (i := 0) (x := u3) (pc' := 230) rfl Bth72 (by decide) (by decide) rfl ?_
      refine w_iconst O at_230 (z := (-1 : Int32)) (pc' := 231) rfl rfl ?_
      refine w_ixor O at_231 (pc' := 232) rfl ?_
      refine w_iastore O at_232 (i := 0) (pc' := 233) rfl Bth72 (by decide) (by decide) gb (fun h73 Wh73 => ?_)
      have F74_h73 := Sh72.1.wr Wh73
      have Sh72_h73 := Stk.wr Sh72 Wh73 nab nrb
      have Bth72_h73 := Bth72.set Wh73
      refine w_aload O at_233 (pc' := 235) rfl rfl rfl ?_
      refine w_virtual O at_235 (as := []) (st := []) (wt := 0) (cl' := 3) (sl' := 69) (pc' := 238) rfl (mw 29 rfl) (mw 30 rfl) (mw 32 rfl) (mw 31 rfl) (mw 33 rfl) (mw 2 rfl) (by decide) F74_h73 (con_peek l Z a0 hw b67 r (3 : Int32) (upd (upd (upd (fun _ => .int (0 : Int32)) 0 (.int u1)) 1 (.int u2)) 2 (.int u3)) h73 n0 (2 : Int32) u3 2 Sh72_h73 rfl (by decide) (by decide) rfl) rfl pd_2 rfl rfl rfl (by decide) (by decide) rfl rfl (by decide) (by decide) (cI fun q75 _ ⟨hq75, eq75⟩ => ?_)
      rw [hq75]
      rw [eq75]
      refine w_iload O at_238 (pc' := 240) rfl rfl ?_
      refine w_icmp_eq O at_240 (pn := 243) (pt := 245) rfl (by decide) rfl (fun c240 => ?_) (fun q => absurd q (by omega))
      refine w_aload O at_245 (pc' := 247) rfl rfl rfl ?_
      refine w_virtual O at_247 (as := []) (st := []) (wt := 0) (cl' := 3) (sl' := 69) (pc' := 250) rfl (mw 19 rfl) (mw 20 rfl) (mw 22 rfl) (mw 21 rfl) (mw 23 rfl) (mw 2 rfl) (by decide) F74_h73 (con_size l Z a0 hw b67 r (3 : Int32) (upd (upd (upd (fun _ => .int (0 : Int32)) 0 (.int u1)) 1 (.int u2)) 2 (.int u3)) h73 n0 Sh72_h73) rfl pd_2 rfl rfl rfl (by decide) (by decide) rfl rfl (by decide) (by decide) (cI fun q76 _ ⟨hq76, eq76⟩ => ?_)
      rw [hq76]
      rw [eq76]
      refine w_iload O at_250 (pc' := 252) rfl rfl ?_
      refine w_icmp_ne O at_252 (pn := 255) (pt := 259) rfl (by decide) rfl (fun q => absurd q (by decide)) (fun c252 => ?_)
      refine w_iconst O at_255 (z := (1 : Int32)) (pc' := 256) rfl rfl ?_
      refine w_goto O at_256 (pc' := 260) (by decide) rfl ?_
      refine w_retz O at_260 (by decide) (by decide) (Or.inr rfl) ?_
      exact ⟨_, rfl, rfl⟩
    · replace c10 : ¬ (((u0 >>> ((2 : Int32) &&& 31))) &&& (1 : Int32)).toInt = 0 := c10
      refine w_iconst O at_13 (z := (1 : Int32)) (pc' := 14) rfl rfl ?_
      refine w_goto O at_14 (pc' := 18) (by decide) rfl ?_
      refine w_istore O at_18 (L' := #[.val (.int u0), .val (.int u1), .val (.int u2), .val (.int u3), .val (.int u4), .val (.int (3 : Int32)), .val (.int (1 : Int32)), .unset, .unset, .unset, .unset]) (pc' := 20) rfl rfl ?_
      refine w_new O at_20 (cl' := 1) (sl' := 2) (pc' := 23) rfl (mw 0 rfl) (mw 1 rfl) (mw 2 rfl) rfl rfl (by decide) (by decide) (fun h77 b78 qb78 g_b78 Eh77 E_b78 Db78 => ?_)
      have F_elements_b78 : Fld Z h77 b78 "com/example/mutex_explorer/mutexexplorer/IntStack" "elements" "[I" .null := Db78 (Or.inl (O.2.2.2.2.2.2.2.2.1 _ (mw 11 rfl))) (ty := (.array .int)) (by decide)
      have F_size_b78 : Fld Z h77 b78 "com/example/mutex_explorer/mutexexplorer/IntStack" "size" "I" (.int (0 : Int32)) := Db78 (Or.inl (O.2.2.2.2.2.2.2.2.1 _ (mw 18 rfl))) (ty := .int) (by decide)
      refine w_dup O at_23 (pc' := 24) rfl rfl ?_
      refine w_init O at_24 (as := []) (st := [(.ref b78)]) (wt := 1) (cl' := 2) (sl' := 66) (pc' := 27) rfl rfl (mw 3 rfl) (mw 4 rfl) (mw 2 rfl) (mw 5 rfl) (by decide) (con_init l Z a0 hw b78 h77 n0 E_b78 F_elements_b78 F_size_b78 g_b78) rfl pd_0 rfl rfl rfl (by decide) (by decide) rfl rfl (by decide) (by decide) (cV fun h79 ⟨r, Sh79⟩ => ?_)
      refine w_astore O at_27 (L' := #[.val (.int u0), .val (.int u1), .val (.int u2), .val (.int u3), .val (.int u4), .val (.int (3 : Int32)), .val (.int (1 : Int32)), .val (.ref b78), .unset, .unset, .unset]) (pc' := 29) rfl rfl rfl ?_
      refine w_iload O at_29 (pc' := 31) rfl rfl ?_
      refine w_iconst O at_31 (z := (1 : Int32)) (pc' := 32) rfl rfl ?_
      refine w_icmp_lt O at_32 (pn := 35) (pt := 41) rfl (by decide) rfl (fun q => absurd q (by decide)) (fun c32 => ?_)
      refine w_aload O at_35 (pc' := 37) rfl rfl rfl ?_
      refine w_iloadN O at_37 (pc' := 38) rfl rfl ?_
      refine w_virtual O at_38 (as := [(.int u1)]) (st := []) (wt := 0) (cl' := 2) (sl' := 66) (pc' := 41) rfl (mw 24 rfl) (mw 25 rfl) (mw 27 rfl) (mw 26 rfl) (mw 28 rfl) (mw 2 rfl) (by decide) Sh79.1 (con_push l Z a0 hw b78 r (0 : Int32) (fun _ => .int (0 : Int32)) u1 h79 n0 (1 : Int32) 0 Sh79 (by decide) (by decide) rfl) rfl pd_3 rfl rfl rfl (by decide) (by decide) rfl rfl (by decide) (by decide) (cV fun h80 Sh80 => ?_)
      refine w_iload O at_41 (pc' := 43) rfl rfl ?_
      refine w_iconst O at_43 (z := (2 : Int32)) (pc' := 44) rfl rfl ?_
      refine w_icmp_lt O at_44 (pn := 47) (pt := 53) rfl (by decide) rfl (fun q => absurd q (by decide)) (fun c44 => ?_)
      refine w_aload O at_47 (pc' := 49) rfl rfl rfl ?_
      refine w_iloadN O at_49 (pc' := 50) rfl rfl ?_
      refine w_virtual O at_50 (as := [(.int u2)]) (st := []) (wt := 0) (cl' := 2) (sl' := 66) (pc' := 53) rfl (mw 24 rfl) (mw 25 rfl) (mw 27 rfl) (mw 26 rfl) (mw 28 rfl) (mw 2 rfl) (by decide) Sh80.1 (con_push l Z a0 hw b78 r (1 : Int32) (upd (fun _ => .int (0 : Int32)) 0 (.int u1)) u2 h80 n0 (2 : Int32) 1 Sh80 (by decide) (by decide) rfl) rfl pd_3 rfl rfl rfl (by decide) (by decide) rfl rfl (by decide) (by decide) (cV fun h81 Sh81 => ?_)
      refine w_iload O at_53 (pc' := 55) rfl rfl ?_
      refine w_iconst O at_55 (z := (3 : Int32)) (pc' := 56) rfl rfl ?_
      refine w_icmp_lt O at_56 (pn := 59) (pt := 65) rfl (by decide) rfl (fun q => absurd q (by decide)) (fun c56 => ?_)
      refine w_aload O at_59 (pc' := 61) rfl rfl rfl ?_
      refine w_iloadN O at_61 (pc' := 62) rfl rfl ?_
      refine w_virtual O at_62 (as := [(.int u3)]) (st := []) (wt := 0) (cl' := 2) (sl' := 66) (pc' := 65) rfl (mw 24 rfl) (mw 25 rfl) (mw 27 rfl) (mw 26 rfl) (mw 28 rfl) (mw 2 rfl) (by decide) Sh81.1 (con_push l Z a0 hw b78 r (2 : Int32) (upd (upd (fun _ => .int (0 : Int32)) 0 (.int u1)) 1 (.int u2)) u3 h81 n0 (3 : Int32) 2 Sh81 (by decide) (by decide) rfl) rfl pd_3 rfl rfl rfl (by decide) (by decide) rfl rfl (by decide) (by decide) (cV fun h82 Sh82 => ?_)
      refine w_iload O at_65 (pc' := 67) rfl rfl ?_
      refine w_if_eq O at_67 (pn := 70) (pt := 83) rfl (by decide) rfl (fun q => absurd q (by decide)) (fun c67 => ?_)
      refine w_aload O at_70 (pc' := 72) rfl rfl rfl ?_
      refine w_iload O at_72 (pc' := 74) rfl rfl ?_
      refine w_virtual O at_74 (as := [(.int u4)]) (st := []) (wt := 0) (cl' := 2) (sl' := 66) (pc' := 77) rfl (mw 24 rfl) (mw 25 rfl) (mw 27 rfl) (mw 26 rfl) (mw 28 rfl) (mw 2 rfl) (by decide) Sh82.1 (con_push l Z a0 hw b78 r (3 : Int32) (upd (upd (upd (fun _ => .int (0 : Int32)) 0 (.int u1)) 1 (.int u2)) 2 (.int u3)) u4 h82 n0 (4 : Int32) 3 Sh82 (by decide) (by decide) rfl) rfl pd_3 rfl rfl rfl (by decide) (by decide) rfl rfl (by decide) (by decide) (cV fun h83 Sh83 => ?_)
      refine w_aload O at_77 (pc' := 79) rfl rfl rfl ?_
      refine w_virtual O at_79 (as := []) (st := []) (wt := 0) (cl' := 2) (sl' := 66) (pc' := 82) rfl (mw 34 rfl) (mw 35 rfl) (mw 37 rfl) (mw 36 rfl) (mw 38 rfl) (mw 2 rfl) (by decide) Sh83.1 (con_pop l Z a0 hw b78 r (4 : Int32) (upd (upd (upd (upd (fun _ => .int (0 : Int32)) 0 (.int u1)) 1 (.int u2)) 2 (.int u3)) 3 (.int u4)) h83 n0 (3 : Int32) u4 3 Sh83 rfl (by decide) (by decide) rfl) rfl pd_2 rfl rfl rfl (by decide) (by decide) rfl rfl (by decide) (by decide) (cI fun q85 h84 ⟨eq85, Sh84⟩ => ?_)
      rw [eq85]
      refine w_pop O at_82 (pc' := 83) rfl rfl ?_
      refine w_aload O at_83 (pc' := 85) rfl rfl rfl ?_
      refine w_virtual O at_85 (as := []) (st := []) (wt := 0) (cl' := 3) (sl' := 69) (pc' := 88) rfl (mw 12 rfl) (mw 13 rfl) (mw 15 rfl) (mw 14 rfl) (mw 16 rfl) (mw 2 rfl) (by decide) Sh84.1 (con_top l Z a0 hw b78 r (3 : Int32) (upd (upd (upd (upd (fun _ => .int (0 : Int32)) 0 (.int u1)) 1 (.int u2)) 2 (.int u3)) 3 (.int u4)) h84 n0 3 Sh84 (by decide) (by decide) (fun j hj => by have hj' : j = 0 ∨ j = 1 ∨ j = 2 := (by omega); rcases hj' with rfl | rfl | rfl <;> exact ⟨_, rfl⟩)) rfl pd_1 rfl rfl rfl (by decide) (by decide) rfl rfl (by decide) (by decide) (cA fun v h86 hv ⟨bt, ev, Sh86, Bth86, nab, nrb, gb⟩ => ?_)
      subst ev
      refine w_astore O at_88 (L' := #[.val (.int u0), .val (.int u1), .val (.int u2), .val (.int u3), .val (.int u4), .val (.int (3 : Int32)), .val (.int (1 : Int32)), .val (.ref b78), .val (.ref bt), .unset, .unset]) (pc' := 90) rfl rfl rfl ?_
      refine w_aload O at_90 (pc' := 92) rfl rfl rfl ?_
      refine w_alen O at_92 (z := (3 : Int32)) (pc' := 93) rfl Bth86 (by decide) ?_
      refine w_iload O at_93 (pc' := 95) rfl rfl ?_
      refine w_icmp_eq O at_95 (pn := 98) (pt := 100) rfl (by decide) rfl (fun c95 => ?_) (fun q => absurd q (by decide))
      refine w_iload O at_100 (pc' := 102) rfl rfl ?_
      refine w_if_ne O at_102 (pn := 105) (pt := 114) rfl (by decide) rfl (fun c102 => ?_) (fun q => absurd q (by decide))
      refine w_iload O at_114 (pc' := 116) rfl rfl ?_
      refine w_iconst O at_116 (z := (1 : Int32)) (pc' := 117) rfl rfl ?_
      refine w_icmp_ne O at_117 (pn := 120) (pt := 141) rfl (by decide) rfl (fun c117 => ?_) (fun q => absurd q (by decide))
      refine w_iload O at_141 (pc' := 143) rfl rfl ?_
      refine w_iconst O at_143 (z := (2 : Int32)) (pc' := 144) rfl rfl ?_
      refine w_icmp_ne O at_144 (pn := 147) (pt := 176) rfl (by decide) rfl (fun c144 => ?_) (fun q => absurd q (by decide))
      refine w_aload O at_176 (pc' := 178) rfl rfl rfl ?_
      refine w_iconst O at_178 (z := (0 : Int32)) (pc' := 179) rfl rfl ?_
      refine w_iaload O at_179 (i := 0) (x := u3) (pc' := 180) rfl Bth86 (by decide) (by decide) rfl ?_
      refine w_iloadN O at_180 (pc' := 181) rfl rfl ?_
      refine w_icmp_ne O at_181 (pn := 184) (pt := 204) rfl (by decide) rfl (fun q => absurd q (by omega)) (fun c181 => ?_)
      refine w_aload O at_184 (pc' := 186) rfl rfl rfl ?_
      refine w_iconst O at_186 (z := (1 : Int32)) (pc' := 187) rfl rfl ?_
      refine w_iaload O at_187 (i := 1) (x := u2) (pc' := 188) rfl Bth86 (by decide) (by decide) rfl ?_
      refine w_iloadN O at_188 (pc' := 189) rfl rfl ?_
      refine w_icmp_ne O at_189 (pn := 192) (pt := 204) rfl (by decide) rfl (fun q => absurd q (by omega)) (fun c189 => ?_)
      refine w_aload O at_192 (pc' := 194) rfl rfl rfl ?_
      refine w_iconst O at_194 (z := (2 : Int32)) (pc' := 195) rfl rfl ?_
      refine w_iaload O at_195 (i := 2) (x := u1) (pc' := 196) rfl Bth86 (by decide) (by decide) rfl ?_
      refine w_iloadN O at_196 (pc' := 197) rfl rfl ?_
      refine w_icmp_ne O at_197 (pn := 200) (pt := 204) rfl (by decide) rfl (fun q => absurd q (by omega)) (fun c197 => ?_)
      refine w_iconst O at_200 (z := (1 : Int32)) (pc' := 201) rfl rfl ?_
      refine w_goto O at_201 (pc' := 205) (by decide) rfl ?_
      refine w_istore O at_205 (L' := #[.val (.int u0), .val (.int u1), .val (.int u2), .val (.int u3), .val (.int u4), .val (.int (3 : Int32)), .val (.int (1 : Int32)), .val (.ref b78), .val (.ref bt), .val (.int (1 : Int32)), .unset]) (pc' := 207) rfl rfl ?_
      refine w_iloadN O at_207 (pc' := 208) rfl rfl ?_
      refine w_istore O at_208 (L' := #[.val (.int u0), .val (.int u1), .val (.int u2), .val (.int u3), .val (.int u4), .val (.int (3 : Int32)), .val (.int (1 : Int32)), .val (.ref b78), .val (.ref bt), .val (.int (1 : Int32)), .val (.int u3)]) (pc' := 210) rfl rfl ?_
      refine w_iload O at_210 (pc' := 212) rfl rfl ?_
      refine w_if_ne O at_212 (pn := 215) (pt := 217) rfl (by decide) rfl (fun c212 => ?_) (fun q => absurd q (by decide))
      refine w_iload O at_217 (pc' := 219) rfl rfl ?_
      refine w_iconst O at_219 (z := (1 : Int32)) (pc' := 220) rfl rfl ?_
      refine w_icmp_lt O at_220 (pn := 223) (pt := 245) rfl (by decide) rfl (fun q => absurd q (by decide)) (fun c220 => ?_)
      refine w_aload O at_223 (pc' := 225) rfl rfl rfl ?_
      refine w_iconst O at_225 (z := (0 : Int32)) (pc' := 226) rfl rfl ?_
      refine w_aload O at_226 (pc' := 228) rfl rfl rfl ?_
      refine w_iconst O at_228 (z := (0 : Int32)) (pc' := 229) rfl rfl ?_
      refine w_iaload O at_229 (i := 0) (x := u3) (pc' := 230) rfl Bth86 (by decide) (by decide) rfl ?_
      refine w_iconst O at_230 (z := (-1 : Int32)) (pc' := 231) rfl rfl ?_
      refine w_ixor O at_231 (pc' := 232) rfl ?_
      refine w_iastore O at_232 (i := 0) (pc' := 233) rfl Bth86 (by decide) (by decide) gb (fun h87 Wh87 => ?_)
      have F88_h87 := Sh86.1.wr Wh87
      have Sh86_h87 := Stk.wr Sh86 Wh87 nab nrb
      have Bth86_h87 := Bth86.set Wh87
      refine w_aload O at_233 (pc' := 235) rfl rfl rfl ?_
      refine w_virtual O at_235 (as := []) (st := []) (wt := 0) (cl' := 3) (sl' := 69) (pc' := 238) rfl (mw 29 rfl) (mw 30 rfl) (mw 32 rfl) (mw 31 rfl) (mw 33 rfl) (mw 2 rfl) (by decide) F88_h87 (con_peek l Z a0 hw b78 r (3 : Int32) (upd (upd (upd (upd (fun _ => .int (0 : Int32)) 0 (.int u1)) 1 (.int u2)) 2 (.int u3)) 3 (.int u4)) h87 n0 (2 : Int32) u3 2 Sh86_h87 rfl (by decide) (by decide) rfl) rfl pd_2 rfl rfl rfl (by decide) (by decide) rfl rfl (by decide) (by decide) (cI fun q89 _ ⟨hq89, eq89⟩ => ?_)
      rw [hq89]
      rw [eq89]
      refine w_iload O at_238 (pc' := 240) rfl rfl ?_
      refine w_icmp_eq O at_240 (pn := 243) (pt := 245) rfl (by decide) rfl (fun c240 => ?_) (fun q => absurd q (by omega))
      refine w_aload O at_245 (pc' := 247) rfl rfl rfl ?_
      refine w_virtual O at_247 (as := []) (st := []) (wt := 0) (cl' := 3) (sl' := 69) (pc' := 250) rfl (mw 19 rfl) (mw 20 rfl) (mw 22 rfl) (mw 21 rfl) (mw 23 rfl) (mw 2 rfl) (by decide) F88_h87 (con_size l Z a0 hw b78 r (3 : Int32) (upd (upd (upd (upd (fun _ => .int (0 : Int32)) 0 (.int u1)) 1 (.int u2)) 2 (.int u3)) 3 (.int u4)) h87 n0 Sh86_h87) rfl pd_2 rfl rfl rfl (by decide) (by decide) rfl rfl (by decide) (by decide) (cI fun q90 _ ⟨hq90, eq90⟩ => ?_)
      rw [hq90]
      rw [eq90]
      refine w_iload O at_250 (pc' := 252) rfl rfl ?_
      refine w_icmp_ne O at_252 (pn := 255) (pt := 259) rfl (by decide) rfl (fun q => absurd q (by decide)) (fun c252 => ?_)
      refine w_iconst O at_255 (z := (1 : Int32)) (pc' := 256) rfl rfl ?_
      refine w_goto O at_256 (pc' := 260) (by decide) rfl ?_
      refine w_retz O at_260 (by decide) (by decide) (Or.inr rfl) ?_
      exact ⟨_, rfl, rfl⟩
set_option maxRecDepth 65536 in
set_option maxHeartbeats 40000000 in
theorem comes_1 {Post : Tables → Env → Array Value → State → Outcome → State → Prop} (hpost : ∀ tb e args s v u, (limb_1_1.after args s (.returned v) u = true ∧ limb_1_2.after args s (.returned v) u = true ∧ True) → FrameEnd s (.returned v) u (Jvm.fieldLocs frame_1_writes args s ++ Jvm.arrayLocs frame_1_arrays args s ++ Jvm.staticLocs frame_1_statics s) 16 256 → Post tb e args s (.returned v) u) :
    ArmFor flags0 classFile x code maxLocals ret World_1 tables_1 room_1 Calls_1 rest_1 Pre_1 Post := by
  intro l hfl _ _ p e ha hc hk s m args below hf hA hF happ hP
  obtain ⟨hcalls, hrest, hpre⟩ := hP
  obtain ⟨-, -, -, hnamed, -, -, -, hat⟩ := (Spec.applies_iff hf).mp happ
  obtain ⟨hg, hn⟩ := and_e (Cond.before_iff.mp (show (Jvm.Cond.and given_1 narrow_1).before args s = true from hpre))
  obtain ⟨g1, g2⟩ := and_e hg
  obtain ⟨g3, g4⟩ := and_e g2
  obtain ⟨g5, g6⟩ := and_e g4
  obtain ⟨g7, g8⟩ := and_e g6
  obtain ⟨g9, g10⟩ := and_e g8
  obtain ⟨w0, w1, w2, w3, w4, rfl⟩ : ∃ w0 w1 w2 w3 w4 : Value, args = #[w0, w1, w2, w3, w4] := by
    have hs : args.size = 5 := by simpa [Cond.value, given_1] using g1
    obtain ⟨L⟩ := args
    match L, hs with
    | [w0, w1, w2, w3, w4], _ => exact ⟨w0, w1, w2, w3, w4, rfl⟩
  have hw := fun d (hd : d ∈ tables_1) => atoms_spec (ws := Jvm.Cond.code x code maxLocals ret :: tables_1) hat d (List.mem_cons_of_mem _ hd)
  have hfit : Fit s := fun {y c} hc i hi => by
    obtain ⟨ha, rfl⟩ := Array.getElem?_eq_some_iff.mp hc
    have q := List.all_eq_true.mp ((Array.all_eq_true_iff_forall_mem.mp hF) _ (Array.getElem_mem ha)) i (List.mem_range.mpr hi)
    simpa [Array.getElem?_eq_getElem hi] using q
  obtain ⟨i0, ei0⟩ := is_v g3
  obtain rfl : w0 = (.int i0) := Option.some.inj ei0
  obtain ⟨i1, ei1⟩ := is_v g5
  obtain rfl : w1 = (.int i1) := Option.some.inj ei1
  obtain ⟨i2, ei2⟩ := is_v g7
  obtain rfl : w2 = (.int i2) := Option.some.inj ei2
  obtain ⟨i3, ei3⟩ := is_v g9
  obtain rfl : w3 = (.int i3) := Option.some.inj ei3
  obtain ⟨i4, ei4⟩ := is_v g10
  obtain rfl : w4 = (.int i4) := Option.some.inj ei4
  obtain ⟨n, o, h1, h2, h3, _, L, rfl, ⟨⟨r, rfl, rfl⟩, N⟩, hq⟩ := (law_con l s _ hw i0 i1 i2 i3 i4 s.heap s.heap.size) (Nat.le_refl _) tables_1 p e ha hc hk s m _ below hf ((Spec.applies_iff_loose hf).mp happ).1 ⟨rfl, State.Warmed39.refl s, rfl⟩ trivial
  refine ⟨n, _, h1, h2, h3, hpost _ _ _ _ _ _ ⟨Cond.after_iff.mpr rfl, Cond.after_iff.mpr (eq_i res_at (Term.int_eval (1)) rfl), trivial⟩ ⟨hq.1, hq.2.1, (hq.2.2.sift fun y hy => Or.inr (N y hy)).mono (by decide) (by decide)⟩⟩
theorem main_1_1 : Claimed_1_1 := comes_1 fun _ _ _ _ _ _ h hF => ⟨h.1, hF⟩
theorem main_1_2 : Claimed_1_2 := comes_1 fun _ _ _ _ _ _ h hF => ⟨h.2.1, hF⟩
end Jvm.Pilot.@@N@@
namespace Jvm.Pilot.@@N@@
open Jvm Jvm.ClassFile Sem Op Lib Jvm.Free Jvm.Stand Jvm.Pilot.@@N@@.Jvm.D
/-! MADE BY PROGRAM (witnessworld.py) out of the Statement's table words and the real class files: 9 classes; the members and pool entries that the words name. The judged class is class 1, her method 1. -/
namespace start1
open Jvm.ClassFile
def u (s : String) : CpInfo := .utf8 (stringToUtf16 s)
/-- a pool by its gaps: so many unusable entries, then the entry; so many at the end -/
def gap : Nat → List CpInfo → List CpInfo
  | 0, r => r
  | n + 1, r => .unusable :: gap n r
def poolList (es : List (Nat × CpInfo)) (last : Nat) : List CpInfo := es.foldr (fun e r => gap e.1 (e.2 :: r)) (gap last [])
def pool (es : List (Nat × CpInfo)) (last : Nat) : Array CpInfo := ⟨poolList es last⟩
def fileOf (pool : Array CpInfo) (this : Nat) (attrs : Array Attribute := #[]) (ms : Array MethodInfo := #[]) (fl : Nat := 33) (sup : Nat := 0) (ifs : Array Nat := #[]) (fds : Array FieldInfo := #[]) : ClassFile where
  minorVersion := 0
  majorVersion := 65
  constantPool := pool
  accessFlags := fl
  thisClass := this
  superClass := sup
  interfaces := ifs
  fields := fds
  methods := ms
  attributes := attrs
def plain (name : String) (sup : Option ClassId) : Class where
  name := name
  kind := .ordinary
  loader := none
  accessFlags := 33
  super := sup
  interfaces := #[]
  cf := none
  fields := #[]
  methods := #[]
  instanceTypes := #[]
  staticTypes := #[]
  resolved := #[]
  callSites := []
  init := .initialized
  statics := none
  mirror := none

def pool0 : Array CpInfo := pool [(5, u "<init>"), (0, u "()V"), (1, .class_ 10), (1, u "java/lang/Object")] 113

def k0c0 : Code := { maxStack := 0, maxLocals := 1, code := object_method_1_code, exceptionTable := #[], attributes := #[] }
def k0m0 : Method := { name := "<init>", desc := "()V", sig := { parameters := [], returnType := none }, accessFlags := 1, code := some k0c0 }
/-- java/lang/Object -/
def k0 : Class := { plain "java/lang/Object" none with
  accessFlags := 33
  interfaces := #[]
  cf := some (fileOf pool0 8 #[] #[{ accessFlags := 1, nameIndex := 5, descriptorIndex := 6, attributes := #[] }] 33 0 #[] #[])
  fields := #[]
  methods := #[k0m0]
  instanceTypes := #[]
  staticTypes := #[]
  resolved := Array.replicate 124 none
  statics := none }

def pool1 : Array CpInfo := pool [(2, .class_ 4), (0, .nameAndType 5 6), (0, u "java/lang/Object"), (0, u "<init>"), (0, u "()V"), (0, .class_ 8), (0, u "com/example/mutex_explorer/mutexexplorer/IntStack"), (0, .methodref 7 3), (0, .methodref 7 11), (0, .nameAndType 12 13), (0, u "push"), (0, u "(I)V"), (0, .methodref 7 15), (0, .nameAndType 16 17), (0, u "pop"), (0, u "()I"), (0, .methodref 7 19), (0, .nameAndType 20 21), (0, u "topFirst"), (0, u "()[I"), (0, .methodref 7 23), (0, .nameAndType 24 17), (0, u "peek"), (0, .methodref 7 26), (0, .nameAndType 27 17), (0, u "size"), (0, .class_ 29), (0, u "com/example/mutex_explorer/mutexexplorer/IntStackTopFirstPinLaw"), (2, u "law"), (0, u "(IIIII)Z")] 5

def k1m0 : Method := { name := "<init>", desc := "()V", sig := { parameters := [], returnType := none }, accessFlags := 1, code := none }
def k1c1 : Code := { maxStack := 4, maxLocals := 11, code := code, exceptionTable := #[], attributes := #[] }
def k1m1 : Method := { name := "law", desc := "(IIIII)Z", sig := { parameters := [.int, .int, .int, .int, .int], returnType := some .boolean }, accessFlags := 9, code := some k1c1 }
/-- com/example/mutex_explorer/mutexexplorer/IntStackTopFirstPinLaw -/
def k1 : Class := { plain "com/example/mutex_explorer/mutexexplorer/IntStackTopFirstPinLaw" (some 0) with
  accessFlags := 49
  interfaces := #[]
  cf := some (fileOf pool1 28 #[] #[{ accessFlags := 1, nameIndex := 5, descriptorIndex := 6, attributes := #[] }, { accessFlags := 9, nameIndex := 32, descriptorIndex := 33, attributes := #[] }] 49 2 #[] #[])
  fields := #[]
  methods := #[k1m0, k1m1]
  instanceTypes := #[]
  staticTypes := #[]
  resolved := Array.replicate 39 none
  statics := none }

def pool2 : Array CpInfo := pool [(1, .methodref 2 3), (0, .class_ 4), (0, .nameAndType 5 6), (0, u "java/lang/Object"), (0, u "<init>"), (0, u "()V"), (0, .fieldref 8 9), (0, .class_ 10), (0, .nameAndType 11 12), (0, u "com/example/mutex_explorer/mutexexplorer/IntStack"), (0, u "elements"), (0, u "[I"), (0, .fieldref 8 14), (0, .nameAndType 15 16), (0, u "size"), (0, u "I"), (8, u "push"), (0, u "(I)V"), (1, u "pop"), (0, u "()I"), (0, u "peek"), (6, u "()[I"), (0, u "topFirst")] 4

def k2c0 : Code := { maxStack := 2, maxLocals := 1, code := prog_10_method_1_code, exceptionTable := #[], attributes := #[] }
def k2m0 : Method := { name := "<init>", desc := "()V", sig := { parameters := [], returnType := none }, accessFlags := 0, code := some k2c0 }
def k2c1 : Code := { maxStack := 4, maxLocals := 2, code := prog_10_method_2_code, exceptionTable := #[], attributes := #[] }
def k2m1 : Method := { name := "push", desc := "(I)V", sig := { parameters := [.int], returnType := none }, accessFlags := 0, code := some k2c1 }
def k2c2 : Code := { maxStack := 3, maxLocals := 1, code := prog_10_method_3_code, exceptionTable := #[], attributes := #[] }
def k2m2 : Method := { name := "pop", desc := "()I", sig := { parameters := [], returnType := some .int }, accessFlags := 0, code := some k2c2 }
def k2c3 : Code := { maxStack := 3, maxLocals := 1, code := prog_10_method_4_code, exceptionTable := #[], attributes := #[] }
def k2m3 : Method := { name := "peek", desc := "()I", sig := { parameters := [], returnType := some .int }, accessFlags := 0, code := some k2c3 }
def k2c4 : Code := { maxStack := 1, maxLocals := 1, code := prog_10_method_7_code, exceptionTable := #[], attributes := #[] }
def k2m4 : Method := { name := "size", desc := "()I", sig := { parameters := [], returnType := some .int }, accessFlags := 0, code := some k2c4 }
def k2c5 : Code := { maxStack := 5, maxLocals := 3, code := prog_10_method_10_code, exceptionTable := #[], attributes := #[] }
def k2m5 : Method := { name := "topFirst", desc := "()[I", sig := { parameters := [], returnType := some (.array .int) }, accessFlags := 0, code := some k2c5 }
/-- com/example/mutex_explorer/mutexexplorer/IntStack -/
def k2 : Class := { plain "com/example/mutex_explorer/mutexexplorer/IntStack" (some 0) with
  accessFlags := 48
  interfaces := #[]
  cf := some (fileOf pool2 8 #[] #[{ accessFlags := 0, nameIndex := 5, descriptorIndex := 6, attributes := #[] }, { accessFlags := 0, nameIndex := 25, descriptorIndex := 26, attributes := #[] }, { accessFlags := 0, nameIndex := 28, descriptorIndex := 29, attributes := #[] }, { accessFlags := 0, nameIndex := 30, descriptorIndex := 29, attributes := #[] }, { accessFlags := 0, nameIndex := 15, descriptorIndex := 29, attributes := #[] }, { accessFlags := 0, nameIndex := 38, descriptorIndex := 37, attributes := #[] }] 48 2 #[] #[{ accessFlags := 2, nameIndex := 11, descriptorIndex := 12, attributes := #[] }, { accessFlags := 2, nameIndex := 15, descriptorIndex := 16, attributes := #[] }])
  fields := #[{ name := "elements", type := (.array .int), accessFlags := 2, slot := 0, constantValue := 0 }, { name := "size", type := .int, accessFlags := 2, slot := 1, constantValue := 0 }]
  methods := #[k2m0, k2m1, k2m2, k2m3, k2m4, k2m5]
  instanceTypes := #[(.array .int), .int]
  staticTypes := #[]
  resolved := Array.replicate 43 none
  statics := none }

def pool3 : Array CpInfo := pool [(1, u "java/lang/Cloneable"), (0, .class_ 1), (0, u "java/lang/Object"), (0, .class_ 3)] 3

/-- java/lang/Cloneable -/
def k3 : Class := { plain "java/lang/Cloneable" (some 0) with
  accessFlags := 1537
  interfaces := #[]
  cf := some (fileOf pool3 2 #[] #[] 1537 4 #[] #[])
  fields := #[]
  methods := #[]
  instanceTypes := #[]
  staticTypes := #[]
  resolved := Array.replicate 8 none
  statics := none }

def pool4 : Array CpInfo := pool [(1, u "java/io/Serializable"), (0, .class_ 1), (0, u "java/lang/Object"), (0, .class_ 3)] 3

/-- java/io/Serializable -/
def k4 : Class := { plain "java/io/Serializable" (some 0) with
  accessFlags := 1537
  interfaces := #[]
  cf := some (fileOf pool4 2 #[] #[] 1537 4 #[] #[])
  fields := #[]
  methods := #[]
  instanceTypes := #[]
  staticTypes := #[]
  resolved := Array.replicate 8 none
  statics := none }

/-- the primitive byte -/
def k5 : Class := { plain "byte" none with kind := .primitive 'B', accessFlags := 0x411 }
/-- [B -/
def k6 : Class := { plain "[B" (some 0) with kind := .array 5 .byte, interfaces := #[3, 4], accessFlags := 1041 }

/-- the primitive int -/
def k7 : Class := { plain "int" none with kind := .primitive 'I', accessFlags := 0x411 }
/-- [I -/
def k8 : Class := { plain "[I" (some 0) with kind := .array 7 .int, interfaces := #[3, 4], accessFlags := 1041 }

def heap : Heap := #[]
def classes : Array Class := #[k0, k1, k2, k3, k4, k5, k6, k7, k8]
def interned : List (Array UInt16 × Addr) := []
def slotsUsed : Nat := 0
def theMethod : MethodId := ⟨1, 1⟩
def args0 : Array Value := #[.int 7, .int 1, .int 2, .int 3, .int 5]
def aboutOver (below : List Frame) : State where
  vm := { classes := classes, interned := interned.toArray }
  heap := heap
  slotsUsed := slotsUsed
  threads := #[{ frames := .invoking theMethod args0 :: below }]
def below0 : List Frame := [.native { method := ⟨0, 0⟩, args := #[] }]
def about1 : State := aboutOver below0
def p0 : Program := .bare "" "" ""
def e0 : Env := launch0.env 0 0 0
theorem w_frames : about1.frames = Frame.invoking theMethod args0 :: below0 := rfl
set_option maxRecDepth 65536 in
theorem w_args : argsFit about1.vm theMethod args0 = true := by decide +kernel
set_option maxRecDepth 65536 in
theorem w_heap : heapFits about1 = true := by decide +kernel
set_option maxRecDepth 65536 in
theorem w_runnable : about1.curStatus? = some .runnable := by decide +kernel
set_option maxRecDepth 65536 in
theorem w_alone : about1.alone = true := by decide +kernel
set_option maxRecDepth 65536 in
theorem w_named : about1.methodNamed? x = some theMethod := by decide +kernel
set_option maxRecDepth 65536 in
theorem w_hears : about1.hears theMethod below0 = true := by decide +kernel
set_option maxRecDepth 65536 in
theorem w_ripe : about1.ripe theMethod args0 below0 = true := by decide +kernel
theorem w_running : about1.status = .running := rfl
set_option maxRecDepth 65536 in
theorem w_room : about1.hasRoom e0.platform room_1 = true :=
  launch0.hasRoom_least _ room_1 (by decide +kernel) (by decide +kernel) (by decide +kernel) (by decide +kernel) (by decide +kernel) (by decide +kernel)
theorem allAtoms_all (ts : List Jvm.Cond) (a : Array Jvm.Value) (st : Jvm.State) : (allAtoms ts).before a st = ts.all (fun c => c.before a st) := by
  induction ts with
  | nil => rfl
  | cons c t ih =>
    show (Jvm.Cond.and c (allAtoms t)).before a st = _
    rw [Jvm.Cond.before_and, ih, List.all_cons]
def words1 : List Jvm.Cond := Jvm.Cond.code x code maxLocals ret :: tables_1
/-- a 'code' word, met by the world's own term for the bytes: nothing is compared byte by byte -/
theorem code_word {y : MethodName} {bytes : ByteArray} {mx : Nat} {rt : Option FieldType} {a : Array Value} {s : State} {m : MethodId} {meth : Method} {c : Code} (h1 : s.methodNamed? y = some m) (h2 : s.vm.method? m = some meth) (h3 : meth.code = some c) (h4 : c.code = bytes)
    (h5 : (c.maxLocals == mx && c.exceptionTable.isEmpty && decide (c.maxStack ≤ mostOperands) && decide (meth.sig.returnType = rt) && !meth.locks && decide (parseMethodDescriptor y.desc = some meth.sig)) = true) : (Jvm.Cond.code y bytes mx rt).before a s = true := by
  simp only [Bool.and_eq_true, beq_iff_eq, Bool.not_eq_true', decide_eq_true_eq] at h5
  obtain ⟨⟨⟨⟨⟨g1, g2⟩, g3⟩, g4⟩, g5⟩, g6⟩ := h5
  simp [Cond.before, Cond.holds, Cond.value, h1, h2, h3, h4, g1, g2, g3, g4, g5, g6]
def isCode : Jvm.Cond → Bool
  | .code _ _ _ _ => true
  | _ => false
theorem all_split {L : List Jvm.Cond} {P : Jvm.Cond → Bool} (h1 : L.all (fun c => isCode c || P c) = true) (h2 : ∀ c ∈ L.filter isCode, P c = true) : L.all P = true := by
  refine List.all_eq_true.mpr fun c hc => ?_
  have h := List.all_eq_true.mp h1 c hc
  rcases Bool.eq_false_or_eq_true (isCode c) with hi | hi
  · exact h2 c (List.mem_filter.mpr ⟨hc, hi⟩)
  · simpa [hi] using h
set_option maxRecDepth 65536 in
theorem w_c0 : (Jvm.Cond.code x code maxLocals ret).before args0 about1 = true := code_word (m := ⟨1, 1⟩) (meth := k1m1) (c := k1c1) (by decide +kernel) rfl rfl rfl (by decide +kernel)
set_option maxRecDepth 65536 in
theorem w_c1 : (Jvm.Cond.code ({ cls := "com/example/mutex_explorer/mutexexplorer/IntStack", name := "<init>", desc := "()V" } : Jvm.MethodName) prog_10_method_1_code (1 : Nat) (Option.none : Option Jvm.ClassFile.FieldType)).before args0 about1 = true := code_word (m := ⟨2, 0⟩) (meth := k2m0) (c := k2c0) (by decide +kernel) rfl rfl rfl (by decide +kernel)
set_option maxRecDepth 65536 in
theorem w_c2 : (Jvm.Cond.code ({ cls := "java/lang/Object", name := "<init>", desc := "()V" } : Jvm.MethodName) object_method_1_code (1 : Nat) (Option.none : Option Jvm.ClassFile.FieldType)).before args0 about1 = true := code_word (m := ⟨0, 0⟩) (meth := k0m0) (c := k0c0) (by decide +kernel) rfl rfl rfl (by decide +kernel)
set_option maxRecDepth 65536 in
theorem w_c3 : (Jvm.Cond.code ({ cls := "com/example/mutex_explorer/mutexexplorer/IntStack", name := "topFirst", desc := "()[I" } : Jvm.MethodName) prog_10_method_10_code (3 : Nat) (Option.some (Jvm.ClassFile.FieldType.array Jvm.ClassFile.FieldType.int))).before args0 about1 = true := code_word (m := ⟨2, 5⟩) (meth := k2m5) (c := k2c5) (by decide +kernel) rfl rfl rfl (by decide +kernel)
set_option maxRecDepth 65536 in
theorem w_c4 : (Jvm.Cond.code ({ cls := "com/example/mutex_explorer/mutexexplorer/IntStack", name := "size", desc := "()I" } : Jvm.MethodName) prog_10_method_7_code (1 : Nat) (Option.some Jvm.ClassFile.FieldType.int)).before args0 about1 = true := code_word (m := ⟨2, 4⟩) (meth := k2m4) (c := k2c4) (by decide +kernel) rfl rfl rfl (by decide +kernel)
set_option maxRecDepth 65536 in
theorem w_c5 : (Jvm.Cond.code ({ cls := "com/example/mutex_explorer/mutexexplorer/IntStack", name := "push", desc := "(I)V" } : Jvm.MethodName) prog_10_method_2_code (2 : Nat) (Option.none : Option Jvm.ClassFile.FieldType)).before args0 about1 = true := code_word (m := ⟨2, 1⟩) (meth := k2m1) (c := k2c1) (by decide +kernel) rfl rfl rfl (by decide +kernel)
set_option maxRecDepth 65536 in
theorem w_c6 : (Jvm.Cond.code ({ cls := "com/example/mutex_explorer/mutexexplorer/IntStack", name := "peek", desc := "()I" } : Jvm.MethodName) prog_10_method_4_code (1 : Nat) (Option.some Jvm.ClassFile.FieldType.int)).before args0 about1 = true := code_word (m := ⟨2, 3⟩) (meth := k2m3) (c := k2c3) (by decide +kernel) rfl rfl rfl (by decide +kernel)
set_option maxRecDepth 65536 in
theorem w_c7 : (Jvm.Cond.code ({ cls := "com/example/mutex_explorer/mutexexplorer/IntStack", name := "pop", desc := "()I" } : Jvm.MethodName) prog_10_method_3_code (1 : Nat) (Option.some Jvm.ClassFile.FieldType.int)).before args0 about1 = true := code_word (m := ⟨2, 2⟩) (meth := k2m2) (c := k2c2) (by decide +kernel) rfl rfl rfl (by decide +kernel)
def codes1 : List Jvm.Cond := [Jvm.Cond.code x code maxLocals ret, Jvm.Cond.code ({ cls := "com/example/mutex_explorer/mutexexplorer/IntStack", name := "<init>", desc := "()V" } : Jvm.MethodName) prog_10_method_1_code (1 : Nat) (Option.none : Option Jvm.ClassFile.FieldType), Jvm.Cond.code ({ cls := "java/lang/Object", name := "<init>", desc := "()V" } : Jvm.MethodName) object_method_1_code (1 : Nat) (Option.none : Option Jvm.ClassFile.FieldType), Jvm.Cond.code ({ cls := "com/example/mutex_explorer/mutexexplorer/IntStack", name := "topFirst", desc := "()[I" } : Jvm.MethodName) prog_10_method_10_code (3 : Nat) (Option.some (Jvm.ClassFile.FieldType.array Jvm.ClassFile.FieldType.int)), Jvm.Cond.code ({ cls := "com/example/mutex_explorer/mutexexplorer/IntStack", name := "size", desc := "()I" } : Jvm.MethodName) prog_10_method_7_code (1 : Nat) (Option.some Jvm.ClassFile.FieldType.int), Jvm.Cond.code ({ cls := "com/example/mutex_explorer/mutexexplorer/IntStack", name := "push", desc := "(I)V" } : Jvm.MethodName) prog_10_method_2_code (2 : Nat) (Option.none : Option Jvm.ClassFile.FieldType), Jvm.Cond.code ({ cls := "com/example/mutex_explorer/mutexexplorer/IntStack", name := "peek", desc := "()I" } : Jvm.MethodName) prog_10_method_4_code (1 : Nat) (Option.some Jvm.ClassFile.FieldType.int), Jvm.Cond.code ({ cls := "com/example/mutex_explorer/mutexexplorer/IntStack", name := "pop", desc := "()I" } : Jvm.MethodName) prog_10_method_3_code (1 : Nat) (Option.some Jvm.ClassFile.FieldType.int)]
set_option maxRecDepth 65536 in
theorem codes_eq : words1.filter isCode = codes1 := rfl
theorem w_codes : ∀ c ∈ words1.filter isCode, c.before args0 about1 = true := by
  rw [codes_eq]
  intro c hc
  simp only [codes1, List.mem_cons, List.not_mem_nil, or_false] at hc
  rcases hc with rfl | rfl | rfl | rfl | rfl | rfl | rfl | rfl
  · exact w_c0
  · exact w_c1
  · exact w_c2
  · exact w_c3
  · exact w_c4
  · exact w_c5
  · exact w_c6
  · exact w_c7
set_option maxRecDepth 65536 in
theorem w_t1 : (words1.take 24).all (fun c => isCode c || c.before args0 about1) = true := by decide +kernel
set_option maxRecDepth 65536 in
theorem w_t2 : (words1.drop 24).all (fun c => isCode c || c.before args0 about1) = true := by decide +kernel
theorem w_tables : (allAtoms (Jvm.Cond.code x code maxLocals ret :: tables_1)).before args0 about1 = true := by
  rw [allAtoms_all]
  show words1.all (fun c => c.before args0 about1) = true
  refine all_split ?_ w_codes
  rw [← List.take_append_drop 24 words1, List.all_append, w_t1, w_t2]
  rfl
set_option maxRecDepth 65536 in
theorem w_case : (Jvm.Cond.and given_1 narrow_1).before args0 about1 = true := by decide +kernel
theorem w_applies : (headSpec (Jvm.Cond.code x code maxLocals ret :: tables_1) room_1).applies x e0.platform about1 = true :=
  (Spec.applies_iff w_frames).mpr ⟨w_running, w_runnable, w_alone, w_named, w_hears, w_ripe, w_room, w_tables⟩
theorem atStart : AtStart classFile x code maxLocals ret World_1 tables_1 room_1 Calls_1 rest_1 Pre_1 launch0 p0 e0 about1 theMethod args0 below0 :=
  ⟨lists_1, trivial, launch0.admits_env _ _ _, launch0.least_env, fairChoices_fair.cas, fairChoices_fair.clock, w_frames, w_args, w_heap, w_applies, trivial, trivial, w_case⟩
end start1
theorem witness_1 : WitnessClaimed_1 := ⟨start1.p0, start1.e0, start1.about1, start1.theMethod, start1.args0, start1.below0, start1.atStart⟩
end Jvm.Pilot.@@N@@
