import JvmDerived
import JvmDerived.Pilot.@@N@@Statement
import JvmDerived.Pilot.@@N@@Code
set_option linter.unusedVariables false
set_option linter.unusedSimpArgs false
namespace Jvm.Pilot.@@N@@
open Jvm Jvm.ClassFile Sem Op Lib Jvm.Free Jvm.Stand Jvm.LawKit Jvm.RoadKit Bundle Jvm.Pilot.@@N@@.Jvm.D

/-! ## OWN LAYER: weakest preconditions over the walk -/
abbrev Cx : Type := (Program × Launch × Env × Room) × (State × MethodId × Array Value × List Frame) × (Method × Code) × (Option Value → Heap → Prop) × Nat
abbrev Sd (K : Cx) (T : State) (locs : List Loc) (cells slots : Nat) : Prop := Stand K.1.1 K.1.2.1 K.1.2.2.1 K.1.2.2.2 K.2.1.1 K.2.1.2.1 K.2.1.2.2.1 K.2.1.2.2.2 K.2.2.1.1 K.2.2.1.2 T locs cells slots
abbrev Stp (K : Cx) (A B : State) : Prop := Steps K.1.1.tables K.1.2.2.1 K.2.1.2.2.2 A B
abbrev Tp (K : Cx) (T : State) (pc : Nat) (L : Array Slot) (st : List Value) : State := T.setTop (mkF K.2.1.2.1 pc L st)
/-- from every state that stands at pc with these locals, this stack and this heap the run ends as K says -/
def W (K : Cx) (h : Heap) (cells slots pc : Nat) (L : Array Slot) (st : List Value) : Prop :=
  ∀ T locs, Sd K T locs cells slots → T.heap = h → Fr K.2.2.2.2 locs →
    ∃ s₂ o, Stp K (Tp K T pc L st) s₂ ∧ s₂.status = .running ∧ Ended s₂ K.2.1.2.2.2 o ∧ ∃ v Ls, o = .returned v ∧ (K.2.2.2.1 v s₂.heap ∧ Fr K.2.2.2.2 Ls) ∧ FrameEnd K.2.1.1 o s₂ Ls K.1.2.2.2.cells K.1.2.2.2.slots
def Ok (K : Cx) (l : Launch) (Z : State) (a0 : Array Value) (ts : List Jvm.Cond) (B : ByteArray) (ml : Nat) (rt : Option FieldType) (own nm : String) (R : Room) (n0 : Nat) (Q : Option Value → Heap → Prop) : Prop :=
  K.1.1.tables.exec = Jvm.exec ∧ K.2.2.1.2.code = B ∧ K.2.2.1.2.maxLocals = ml ∧ K.2.1.1.vm.findClass own = some K.2.1.2.1.cls ∧ K.2.2.1.1.name = nm ∧ K.2.2.1.1.sig.returnType = rt ∧ K.2.2.1.1.locks = false ∧ Z.Warmed39 K.2.1.1.vm ∧ (∀ d ∈ ts, d.before a0 Z = true) ∧ n0 ≤ K.2.1.1.heap.size ∧ K.1.2.1 = l ∧ K.1.2.2.2 = R ∧ K.2.2.2.2 = n0 ∧ K.2.2.2.1 = Q
/-- a body's contract -/
def Con (l : Launch) (Z : State) (y : MethodName) (B : ByteArray) (ml : Nat) (rt : Option FieldType) (rm : Room) (as : List Value) (h : Heap) (n0 : Nat) (Q : Option Value → Heap → Prop) : Prop :=
  n0 ≤ h.size → ∀ ws, MetFree l y (head1 (Jvm.Cond.code y B ml rt :: ws) rm) (fun a U => a = as.toArray ∧ Z.Warmed39 U.vm ∧ U.heap = h) (fun _ _ _ _ _ => True) (fun _ U o U' => ∃ v L, o = .returned v ∧ (Q v U'.heap ∧ Fr n0 L) ∧ FrameEnd U o U' L rm.cells rm.slots)
def RetI (P : Int32 → Heap → Prop) (v : Option Value) (h : Heap) : Prop := ∃ r, v = some (.int r) ∧ P r h
def RetL (P : Int64 → Heap → Prop) (v : Option Value) (h : Heap) : Prop := ∃ r, v = some (.long r) ∧ P r h
def RetA (P : Value → Heap → Prop) (v : Option Value) (h : Heap) : Prop := ∃ r, v = some r ∧ r.isRef = true ∧ P r h
def RetV (P : Heap → Prop) (v : Option Value) (h : Heap) : Prop := v = none ∧ P h
section OwnW
variable {K : Cx} {l : Launch} {Z : State} {a0 : Array Value} {ts : List Jvm.Cond} {B : ByteArray} {ml : Nat} {rt : Option FieldType} {own nm : String} {R : Room} {n0 : Nat} {Q : Option Value → Heap → Prop} {h : Heap} {cl sl pc pc' : Nat} {L L' : Array Slot} {st st' : List Value}
theorem W.step (f : ∀ T locs, Sd K T locs cl sl → T.heap = h → ∀ t, Stp K (Tp K T pc' L' st') t → Stp K (Tp K T pc L st) t) (k : W K h cl sl pc' L' st') : W K h cl sl pc L st := fun T locs X e N => by
  obtain ⟨s2, o, h1, r⟩ := k T locs X e N
  exact ⟨s2, o, f T locs X e _ h1, r⟩
theorem W.stepT (f : ∀ T locs, Sd K T locs cl sl → T.heap = h → ∃ T', Sd K T' locs cl sl ∧ T'.heap = h ∧ ∀ t, Stp K (Tp K T' pc' L' st') t → Stp K (Tp K T pc L st) t) (k : W K h cl sl pc' L' st') : W K h cl sl pc L st := fun T locs X e N => by
  obtain ⟨T', X', e', g⟩ := f T locs X e
  obtain ⟨s2, o, h1, r⟩ := k T' locs X' e' N
  exact ⟨s2, o, g _ h1, r⟩
theorem W.stepW {a : Addr} {i : Nat} {v : Value} (f : ∀ T locs, Sd K T locs cl sl → T.heap = h → ∃ T' h', Sd K T' (locs ++ [⟨a, i⟩]) cl sl ∧ T'.heap = h' ∧ Wr h h' a i v ∧ ∀ t, Stp K (Tp K T' pc' L' st') t → Stp K (Tp K T pc L st) t) (ha : K.2.2.2.2 ≤ a) (k : ∀ h', Wr h h' a i v → W K h' cl sl pc' L' st') : W K h cl sl pc L st := fun T locs X e N => by
  obtain ⟨T', h', X', e', w, g⟩ := f T locs X e
  obtain ⟨s2, o, h1, r⟩ := k h' w T' _ X' e' (Fr.snoc X' N ha)
  exact ⟨s2, o, g _ h1, r⟩
theorem W.mono {cl' sl' : Nat} (hc : cl ≤ cl') (hs : sl ≤ sl') (k : W K h cl' sl' pc L st) : W K h cl sl pc L st := fun T locs X e N => k T locs (X.mono hc hs) e N
theorem Sd.size {T : State} {locs : List Loc} (X : Sd K T locs cl sl) : K.2.1.1.heap.size ≤ T.heap.size := X.same.2.1
theorem cI {cl' sl' : Nat} {P : Int32 → Heap → Prop} (k : ∀ r h', P r h' → W K h' cl' sl' pc' L (.int r :: st)) : ∀ v h', RetI P v h' → W K h' cl' sl' pc' L (v.toList ++ st) := by
  rintro _ h' ⟨r, rfl, hp⟩; exact k r h' hp
theorem cL {cl' sl' : Nat} {P : Int64 → Heap → Prop} (k : ∀ r h', P r h' → W K h' cl' sl' pc' L (.long r :: st)) : ∀ v h', RetL P v h' → W K h' cl' sl' pc' L (v.toList ++ st) := by
  rintro _ h' ⟨r, rfl, hp⟩; exact k r h' hp
theorem cA {cl' sl' : Nat} {P : Value → Heap → Prop} (k : ∀ r h', r.isRef = true → P r h' → W K h' cl' sl' pc' L (r :: st)) : ∀ v h', RetA P v h' → W K h' cl' sl' pc' L (v.toList ++ st) := by
  rintro _ h' ⟨r, rfl, hr, hp⟩; exact k r h' hr hp
theorem cV {cl' sl' : Nat} {P : Heap → Prop} (k : ∀ h', P h' → W K h' cl' sl' pc' L st) : ∀ v h', RetV P v h' → W K h' cl' sl' pc' L (v.toList ++ st) := by
  rintro _ h' ⟨rfl, hp⟩; exact k h' hp
theorem Con.weak {y : MethodName} {rm : Room} {as : List Value} {Q' : Option Value → Heap → Prop} (c : Con l Z y B ml rt rm as h n0 Q) (q : ∀ v h', Q v h' → Q' v h') : Con l Z y B ml rt rm as h n0 Q' := fun hn ws p e ha hc hk s m args below hf happ hP hK => by
  obtain ⟨n, o, h1, h2, h3, v, L, e1, ⟨h4, h5⟩, h6⟩ := c hn ws p e ha hc hk s m args below hf happ hP hK
  exact ⟨n, o, h1, h2, h3, v, L, e1, ⟨q _ _ h4, h5⟩, h6⟩
theorem Con.body {y : MethodName} {rm : Room} {as : List Value} {L0 : Array Slot} (hw : ∀ d ∈ ts, d.before a0 Z = true) (pn : plainFor y = true) (ef : ∀ m, entryFrame m as.toArray ml = mkF m 0 L0 [])
    (b : ∀ K, Ok K l Z a0 ts B ml rt y.cls y.name rm n0 Q → W K h 0 0 0 L0 []) : Con l Z y B ml rt rm as h n0 Q := by
  intro hn ws
  refine MetFree.of_bodySF pn hisR ?_
  intro p e s m args below meth c s₁ Bd hml0 hP hK
  obtain ⟨rfl, hZ, hh⟩ := hP
  have hown : s.vm.findClass y.cls = some m.cls := findClass_of_methodNamed Bd.named
  have hnm := (name_of_methodNamed Bd.named Bd.method).1
  have X0 : Stand p l e rm s m as.toArray below meth c s₁ [] 0 0 := Stand.of_body Bd
  have e0 : s₁.heap = h := by rw [← hh, Bd.state]; rfl
  have q := b ((p, l, e, rm), (s, m, as.toArray, below), (meth, c), Q, n0) ⟨Bd.exec, Bd.bytes, hml0, hown, hnm, Bd.returns, Bd.notSynchronized, hZ, hw, by rw [← hh] at hn; exact hn, rfl, rfl, rfl, rfl⟩ s₁ [] X0 e0 (Fr.nil _)
  obtain ⟨s2, o, h1, h2, h3, h4⟩ := q
  exact ⟨s2, o, castTop (ef m) h1, h2, h3, h4⟩

theorem w_iloadN (O : Ok K l Z a0 ts B ml rt own nm R n0 Q) {i : Fin 4} {v : Int32} (hd : decode B pc = .ok (.iload_n i, 1)) (hp : pc + 1 = pc') (hl : L[i.val]? = some (.val (.int v))) (k : W K h cl sl pc' L (.int v :: st)) : W K h cl sl pc L (st) := by
  subst hp; exact W.step (fun T locs X e t q => XS.iloadN X.here O.1 rfl (hb O.2.1 hd) hl q) k
theorem w_iload (O : Ok K l Z a0 ts B ml rt own nm R n0 Q) {i : Nat} {v : Int32} (hd : decode B pc = .ok (.iload i, 2)) (hp : pc + 2 = pc') (hl : L[i]? = some (.val (.int v))) (k : W K h cl sl pc' L (.int v :: st)) : W K h cl sl pc L (st) := by
  subst hp; exact W.step (fun T locs X e t q => XS.iload X.here O.1 rfl (hb O.2.1 hd) hl q) k
theorem w_lloadN (O : Ok K l Z a0 ts B ml rt own nm R n0 Q) {i : Fin 4} {v : Int64} (hd : decode B pc = .ok (.lload_n i, 1)) (hp : pc + 1 = pc') (hl : L[i.val]? = some (.val (.long v))) (k : W K h cl sl pc' L (.long v :: st)) : W K h cl sl pc L (st) := by
  subst hp; exact W.step (fun T locs X e t q => XS.lloadN X.here O.1 rfl (hb O.2.1 hd) hl q) k
theorem w_lload (O : Ok K l Z a0 ts B ml rt own nm R n0 Q) {i : Nat} {v : Int64} (hd : decode B pc = .ok (.lload i, 2)) (hp : pc + 2 = pc') (hl : L[i]? = some (.val (.long v))) (k : W K h cl sl pc' L (.long v :: st)) : W K h cl sl pc L (st) := by
  subst hp; exact W.step (fun T locs X e t q => XS.lload X.here O.1 rfl (hb O.2.1 hd) hl q) k
theorem w_aloadN (O : Ok K l Z a0 ts B ml rt own nm R n0 Q) {i : Fin 4} {v : Value} (hd : decode B pc = .ok (.aload_n i, 1)) (hp : pc + 1 = pc') (hl : L[i.val]? = some (.val v)) (hv : v.isRef = true) (k : W K h cl sl pc' L (v :: st)) : W K h cl sl pc L (st) := by
  subst hp; exact W.step (fun T locs X e t q => XS.aloadN X.here O.1 rfl (hb O.2.1 hd) hl hv q) k
theorem w_aload (O : Ok K l Z a0 ts B ml rt own nm R n0 Q) {i : Nat} {v : Value} (hd : decode B pc = .ok (.aload i, 2)) (hp : pc + 2 = pc') (hl : L[i]? = some (.val v)) (hv : v.isRef = true) (k : W K h cl sl pc' L (v :: st)) : W K h cl sl pc L (st) := by
  subst hp; exact W.step (fun T locs X e t q => XS.aload X.here O.1 rfl (hb O.2.1 hd) hl hv q) k
theorem w_istoreN (O : Ok K l Z a0 ts B ml rt own nm R n0 Q) {i : Fin 4} {v : Int32} (hd : decode B pc = .ok (.istore_n i, 1)) (hp : pc + 1 = pc') (hl : storeLocals L i.val (.int v) = some L') (k : W K h cl sl pc' L' st) : W K h cl sl pc L (.int v :: st) := by
  subst hp; exact W.step (fun T locs X e t q => XS.istoreN X.here O.1 rfl (hb O.2.1 hd) rfl hl q) k
theorem w_istoreNG (O : Ok K l Z a0 ts B ml rt own nm R n0 Q) {i : Fin 4} {v : Int32} {L' : Int32 → Array Slot} (hd : decode B pc = .ok (.istore_n i, 1)) (hp : pc + 1 = pc') (hl : ∀ z, storeLocals L i.val (.int z) = some (L' z)) (k : ∀ z, z = v → W K h cl sl pc' (L' z) st) : W K h cl sl pc L (.int v :: st) := w_istoreN O hd hp (hl v) (k v rfl)
theorem w_istore (O : Ok K l Z a0 ts B ml rt own nm R n0 Q) {i : Nat} {v : Int32} (hd : decode B pc = .ok (.istore i, 2)) (hp : pc + 2 = pc') (hl : storeLocals L i (.int v) = some L') (k : W K h cl sl pc' L' st) : W K h cl sl pc L (.int v :: st) := by
  subst hp; exact W.step (fun T locs X e t q => XS.istore X.here O.1 rfl (hb O.2.1 hd) rfl hl q) k
theorem w_istoreG (O : Ok K l Z a0 ts B ml rt own nm R n0 Q) {i : Nat} {v : Int32} {L' : Int32 → Array Slot} (hd : decode B pc = .ok (.istore i, 2)) (hp : pc + 2 = pc') (hl : ∀ z, storeLocals L i (.int z) = some (L' z)) (k : ∀ z, z = v → W K h cl sl pc' (L' z) st) : W K h cl sl pc L (.int v :: st) := w_istore O hd hp (hl v) (k v rfl)
theorem w_lstoreN (O : Ok K l Z a0 ts B ml rt own nm R n0 Q) {i : Fin 4} {v : Int64} (hd : decode B pc = .ok (.lstore_n i, 1)) (hp : pc + 1 = pc') (hl : storeLocals L i.val (.long v) = some L') (k : W K h cl sl pc' L' st) : W K h cl sl pc L (.long v :: st) := by
  subst hp; exact W.step (fun T locs X e t q => XS.lstoreN X.here O.1 rfl (hb O.2.1 hd) rfl hl q) k
theorem w_lstoreNG (O : Ok K l Z a0 ts B ml rt own nm R n0 Q) {i : Fin 4} {v : Int64} {L' : Int64 → Array Slot} (hd : decode B pc = .ok (.lstore_n i, 1)) (hp : pc + 1 = pc') (hl : ∀ z, storeLocals L i.val (.long z) = some (L' z)) (k : ∀ z, z = v → W K h cl sl pc' (L' z) st) : W K h cl sl pc L (.long v :: st) := w_lstoreN O hd hp (hl v) (k v rfl)
theorem w_lstore (O : Ok K l Z a0 ts B ml rt own nm R n0 Q) {i : Nat} {v : Int64} (hd : decode B pc = .ok (.lstore i, 2)) (hp : pc + 2 = pc') (hl : storeLocals L i (.long v) = some L') (k : W K h cl sl pc' L' st) : W K h cl sl pc L (.long v :: st) := by
  subst hp; exact W.step (fun T locs X e t q => XS.lstore X.here O.1 rfl (hb O.2.1 hd) rfl hl q) k
theorem w_lstoreG (O : Ok K l Z a0 ts B ml rt own nm R n0 Q) {i : Nat} {v : Int64} {L' : Int64 → Array Slot} (hd : decode B pc = .ok (.lstore i, 2)) (hp : pc + 2 = pc') (hl : ∀ z, storeLocals L i (.long z) = some (L' z)) (k : ∀ z, z = v → W K h cl sl pc' (L' z) st) : W K h cl sl pc L (.long v :: st) := w_lstore O hd hp (hl v) (k v rfl)
theorem w_astoreN (O : Ok K l Z a0 ts B ml rt own nm R n0 Q) {i : Fin 4} {v : Value} (hd : decode B pc = .ok (.astore_n i, 1)) (hp : pc + 1 = pc') (hv : v.isRef = true) (hl : storeLocals L i.val v = some L') (k : W K h cl sl pc' L' st) : W K h cl sl pc L (v :: st) := by
  subst hp; exact W.step (fun T locs X e t q => XS.astoreN X.here O.1 rfl (hb O.2.1 hd) rfl hv hl q) k
theorem w_astore (O : Ok K l Z a0 ts B ml rt own nm R n0 Q) {i : Nat} {v : Value} (hd : decode B pc = .ok (.astore i, 2)) (hp : pc + 2 = pc') (hv : v.isRef = true) (hl : storeLocals L i v = some L') (k : W K h cl sl pc' L' st) : W K h cl sl pc L (v :: st) := by
  subst hp; exact W.step (fun T locs X e t q => XS.astore X.here O.1 rfl (hb O.2.1 hd) rfl hv hl q) k
theorem w_iinc (O : Ok K l Z a0 ts B ml rt own nm R n0 Q) {i : Nat} {cst : Int} {x z : Int32} (hd : decode B pc = .ok (.iinc i cst, 3)) (hp : pc + 3 = pc') (hl : L[i]? = some (.val (.int x))) (hz : x + Int32.ofInt cst = z) (hl' : storeLocals L i (.int z) = some L') (k : W K h cl sl pc' L' st) : W K h cl sl pc L st := by
  subst hp; subst hz; exact W.step (fun T locs X e t q => XS.iinc X.here O.1 rfl (hb O.2.1 hd) hl hl' q) k
theorem w_iincG (O : Ok K l Z a0 ts B ml rt own nm R n0 Q) {i : Nat} {cst : Int} {x y : Int32} {L' : Int32 → Array Slot} (hd : decode B pc = .ok (.iinc i cst, 3)) (hp : pc + 3 = pc') (hl : L[i]? = some (.val (.int x))) (hz : Int32.ofInt cst = y) (hl' : ∀ z, storeLocals L i (.int z) = some (L' z)) (k : ∀ z, z = x + y → W K h cl sl pc' (L' z) st) : W K h cl sl pc L st := by
  subst hz; exact w_iinc O hd hp hl rfl (hl' _) (k _ rfl)
theorem w_iconst (O : Ok K l Z a0 ts B ml rt own nm R n0 Q) {i : Int} {z : Int32} (hd : decode B pc = .ok (.iconst i, 1)) (hp : pc + 1 = pc') (hz : Int32.ofInt i = z) (k : W K h cl sl pc' L (.int z :: st)) : W K h cl sl pc L (st) := by
  subst hp; exact W.step (fun T locs X e t q => XS.iconst X.here O.1 rfl (hb O.2.1 hd) (by rw [hz]; exact q)) k
theorem w_bipush (O : Ok K l Z a0 ts B ml rt own nm R n0 Q) {i : Int} {z : Int32} (hd : decode B pc = .ok (.bipush i, 2)) (hp : pc + 2 = pc') (hz : (Int8.ofInt i).toInt32 = z) (k : W K h cl sl pc' L (.int z :: st)) : W K h cl sl pc L (st) := by
  subst hp; exact W.step (fun T locs X e t q => XS.bipush X.here O.1 rfl (hb O.2.1 hd) (by rw [hz]; exact q)) k
theorem w_sipush (O : Ok K l Z a0 ts B ml rt own nm R n0 Q) {i : Int} {z : Int32} (hd : decode B pc = .ok (.sipush i, 3)) (hp : pc + 3 = pc') (hz : (Int16.ofInt i).toInt32 = z) (k : W K h cl sl pc' L (.int z :: st)) : W K h cl sl pc L (st) := by
  subst hp; exact W.step (fun T locs X e t q => XS.sipush X.here O.1 rfl (hb O.2.1 hd) (by rw [hz]; exact q)) k
theorem w_lconst (O : Ok K l Z a0 ts B ml rt own nm R n0 Q) {i : Fin 2} {z : Int64} (hd : decode B pc = .ok (.lconst i, 1)) (hp : pc + 1 = pc') (hz : Int64.ofNat i = z) (k : W K h cl sl pc' L (.long z :: st)) : W K h cl sl pc L (st) := by
  subst hp; exact W.step (fun T locs X e t q => XS.lconst X.here O.1 rfl (hb O.2.1 hd) (by rw [hz]; exact q)) k
theorem w_anull (O : Ok K l Z a0 ts B ml rt own nm R n0 Q)  (hd : decode B pc = .ok (.aconst_null, 1)) (hp : pc + 1 = pc') (k : W K h cl sl pc' L (.null :: st)) : W K h cl sl pc L (st) := by
  subst hp; exact W.step (fun T locs X e t q => XS.aconstNull X.here O.1 rfl (hb O.2.1 hd) q) k
theorem w_ldc (O : Ok K l Z a0 ts B ml rt own nm R n0 Q) {i : Nat} {v : Int32} (hd : decode B pc = .ok (.ldc i, 2)) (hp : pc + 2 = pc') (w : Jvm.Cond.constant own i v ∈ ts) (k : W K h cl sl pc' L (.int v :: st)) : W K h cl sl pc L (st) := by
  subst hp; exact W.step (fun T locs X e t q => X.ldcInt O.1 O.2.2.2.1 (mvT O.2.2.2.2.2.2.2.1 (O.2.2.2.2.2.2.2.2.1 _ w)) (g := mkF K.2.1.2.1 pc L st) rfl (hb O.2.1 hd) _ q) k
theorem w_ldc2 (O : Ok K l Z a0 ts B ml rt own nm R n0 Q) {i : Nat} {v : Int64} (hd : decode B pc = .ok (.ldc2_w i, 3)) (hp : pc + 3 = pc') (w : Jvm.Cond.constantLong own i v ∈ ts) (k : W K h cl sl pc' L (.long v :: st)) : W K h cl sl pc L (st) := by
  subst hp; exact W.step (fun T locs X e t q => X.ldc2Long O.1 O.2.2.2.1 (mvT O.2.2.2.2.2.2.2.1 (O.2.2.2.2.2.2.2.2.1 _ w)) (g := mkF K.2.1.2.1 pc L st) rfl (hb O.2.1 hd) _ q) k
theorem w_iadd (O : Ok K l Z a0 ts B ml rt own nm R n0 Q) {x y : Int32} (hd : decode B pc = .ok (.iadd, 1)) (hp : pc + 1 = pc') (k : W K h cl sl pc' L (.int (x + y) :: st)) : W K h cl sl pc L (.int y :: .int x :: st) := by
  subst hp; exact W.step (fun T locs X e t q => XS.iadd X.here O.1 rfl (hb O.2.1 hd) rfl q) k
theorem w_isub (O : Ok K l Z a0 ts B ml rt own nm R n0 Q) {x y : Int32} (hd : decode B pc = .ok (.isub, 1)) (hp : pc + 1 = pc') (k : W K h cl sl pc' L (.int (x - y) :: st)) : W K h cl sl pc L (.int y :: .int x :: st) := by
  subst hp; exact W.step (fun T locs X e t q => XS.isub X.here O.1 rfl (hb O.2.1 hd) rfl q) k
theorem w_imul (O : Ok K l Z a0 ts B ml rt own nm R n0 Q) {x y : Int32} (hd : decode B pc = .ok (.imul, 1)) (hp : pc + 1 = pc') (k : W K h cl sl pc' L (.int (x * y) :: st)) : W K h cl sl pc L (.int y :: .int x :: st) := by
  subst hp; exact W.step (fun T locs X e t q => XS.imul X.here O.1 rfl (hb O.2.1 hd) rfl q) k
theorem w_iand (O : Ok K l Z a0 ts B ml rt own nm R n0 Q) {x y : Int32} (hd : decode B pc = .ok (.iand, 1)) (hp : pc + 1 = pc') (k : W K h cl sl pc' L (.int (x &&& y) :: st)) : W K h cl sl pc L (.int y :: .int x :: st) := by
  subst hp; exact W.step (fun T locs X e t q => XS.iand X.here O.1 rfl (hb O.2.1 hd) rfl q) k
theorem w_ior (O : Ok K l Z a0 ts B ml rt own nm R n0 Q) {x y : Int32} (hd : decode B pc = .ok (.ior, 1)) (hp : pc + 1 = pc') (k : W K h cl sl pc' L (.int (x ||| y) :: st)) : W K h cl sl pc L (.int y :: .int x :: st) := by
  subst hp; exact W.step (fun T locs X e t q => XS.ior X.here O.1 rfl (hb O.2.1 hd) rfl q) k
theorem w_ixor (O : Ok K l Z a0 ts B ml rt own nm R n0 Q) {x y : Int32} (hd : decode B pc = .ok (.ixor, 1)) (hp : pc + 1 = pc') (k : W K h cl sl pc' L (.int (x ^^^ y) :: st)) : W K h cl sl pc L (.int y :: .int x :: st) := by
  subst hp; exact W.step (fun T locs X e t q => XS.ixor X.here O.1 rfl (hb O.2.1 hd) rfl q) k
theorem w_ishl (O : Ok K l Z a0 ts B ml rt own nm R n0 Q) {x y : Int32} (hd : decode B pc = .ok (.ishl, 1)) (hp : pc + 1 = pc') (k : W K h cl sl pc' L (.int (x <<< (y &&& 31)) :: st)) : W K h cl sl pc L (.int y :: .int x :: st) := by
  subst hp; exact W.step (fun T locs X e t q => XS.ishl X.here O.1 rfl (hb O.2.1 hd) rfl q) k
theorem w_ishr (O : Ok K l Z a0 ts B ml rt own nm R n0 Q) {x y : Int32} (hd : decode B pc = .ok (.ishr, 1)) (hp : pc + 1 = pc') (k : W K h cl sl pc' L (.int (x >>> (y &&& 31)) :: st)) : W K h cl sl pc L (.int y :: .int x :: st) := by
  subst hp; exact W.step (fun T locs X e t q => XS.ishr X.here O.1 rfl (hb O.2.1 hd) rfl q) k
theorem w_iushr (O : Ok K l Z a0 ts B ml rt own nm R n0 Q) {x y : Int32} (hd : decode B pc = .ok (.iushr, 1)) (hp : pc + 1 = pc') (k : W K h cl sl pc' L (.int ((x.toUInt32 >>> (y &&& 31).toUInt32).toInt32) :: st)) : W K h cl sl pc L (.int y :: .int x :: st) := by
  subst hp; exact W.step (fun T locs X e t q => XS.iushr X.here O.1 rfl (hb O.2.1 hd) rfl q) k
theorem w_ladd (O : Ok K l Z a0 ts B ml rt own nm R n0 Q) {x y : Int64} (hd : decode B pc = .ok (.ladd, 1)) (hp : pc + 1 = pc') (k : W K h cl sl pc' L (.long (x + y) :: st)) : W K h cl sl pc L (.long y :: .long x :: st) := by
  subst hp; exact W.step (fun T locs X e t q => XS.ladd X.here O.1 rfl (hb O.2.1 hd) rfl q) k
theorem w_lsub (O : Ok K l Z a0 ts B ml rt own nm R n0 Q) {x y : Int64} (hd : decode B pc = .ok (.lsub, 1)) (hp : pc + 1 = pc') (k : W K h cl sl pc' L (.long (x - y) :: st)) : W K h cl sl pc L (.long y :: .long x :: st) := by
  subst hp; exact W.step (fun T locs X e t q => XS.lsub X.here O.1 rfl (hb O.2.1 hd) rfl q) k
theorem w_lmul (O : Ok K l Z a0 ts B ml rt own nm R n0 Q) {x y : Int64} (hd : decode B pc = .ok (.lmul, 1)) (hp : pc + 1 = pc') (k : W K h cl sl pc' L (.long (x * y) :: st)) : W K h cl sl pc L (.long y :: .long x :: st) := by
  subst hp; exact W.step (fun T locs X e t q => XS.lmul X.here O.1 rfl (hb O.2.1 hd) rfl q) k
theorem w_land (O : Ok K l Z a0 ts B ml rt own nm R n0 Q) {x y : Int64} (hd : decode B pc = .ok (.land, 1)) (hp : pc + 1 = pc') (k : W K h cl sl pc' L (.long (x &&& y) :: st)) : W K h cl sl pc L (.long y :: .long x :: st) := by
  subst hp; exact W.step (fun T locs X e t q => XS.land X.here O.1 rfl (hb O.2.1 hd) rfl q) k
theorem w_lor (O : Ok K l Z a0 ts B ml rt own nm R n0 Q) {x y : Int64} (hd : decode B pc = .ok (.lor, 1)) (hp : pc + 1 = pc') (k : W K h cl sl pc' L (.long (x ||| y) :: st)) : W K h cl sl pc L (.long y :: .long x :: st) := by
  subst hp; exact W.step (fun T locs X e t q => XS.lor X.here O.1 rfl (hb O.2.1 hd) rfl q) k
theorem w_lxor (O : Ok K l Z a0 ts B ml rt own nm R n0 Q) {x y : Int64} (hd : decode B pc = .ok (.lxor, 1)) (hp : pc + 1 = pc') (k : W K h cl sl pc' L (.long (x ^^^ y) :: st)) : W K h cl sl pc L (.long y :: .long x :: st) := by
  subst hp; exact W.step (fun T locs X e t q => XS.lxor X.here O.1 rfl (hb O.2.1 hd) rfl q) k
theorem w_lshl (O : Ok K l Z a0 ts B ml rt own nm R n0 Q) {x : Int64} {y : Int32} (hd : decode B pc = .ok (.lshl, 1)) (hp : pc + 1 = pc') (k : W K h cl sl pc' L (.long (x <<< (y &&& 0x3f).toInt64) :: st)) : W K h cl sl pc L (.int y :: .long x :: st) := by
  subst hp; exact W.step (fun T locs X e t q => XS.lshl X.here O.1 rfl (hb O.2.1 hd) rfl q) k
theorem w_lshr (O : Ok K l Z a0 ts B ml rt own nm R n0 Q) {x : Int64} {y : Int32} (hd : decode B pc = .ok (.lshr, 1)) (hp : pc + 1 = pc') (k : W K h cl sl pc' L (.long (x >>> (y &&& 0x3f).toInt64) :: st)) : W K h cl sl pc L (.int y :: .long x :: st) := by
  subst hp; exact W.step (fun T locs X e t q => XS.lshr X.here O.1 rfl (hb O.2.1 hd) rfl q) k
theorem w_lushr (O : Ok K l Z a0 ts B ml rt own nm R n0 Q) {x : Int64} {y : Int32} (hd : decode B pc = .ok (.lushr, 1)) (hp : pc + 1 = pc') (k : W K h cl sl pc' L (.long ((x.toUInt64 >>> (y &&& 0x3f).toInt64.toUInt64).toInt64) :: st)) : W K h cl sl pc L (.int y :: .long x :: st) := by
  subst hp; exact W.step (fun T locs X e t q => XS.lushr X.here O.1 rfl (hb O.2.1 hd) rfl q) k
theorem w_idiv (O : Ok K l Z a0 ts B ml rt own nm R n0 Q) {x y : Int32} (hd : decode B pc = .ok (.idiv, 1)) (hp : pc + 1 = pc') (hy : y ≠ 0) (k : W K h cl sl pc' L (.int (x / y) :: st)) : W K h cl sl pc L (.int y :: .int x :: st) := by
  subst hp; exact W.step (fun T locs X e t q => XS.idiv X.here O.1 rfl (hb O.2.1 hd) rfl hy q) k
theorem w_irem (O : Ok K l Z a0 ts B ml rt own nm R n0 Q) {x y : Int32} (hd : decode B pc = .ok (.irem, 1)) (hp : pc + 1 = pc') (hy : y ≠ 0) (k : W K h cl sl pc' L (.int (x % y) :: st)) : W K h cl sl pc L (.int y :: .int x :: st) := by
  subst hp; exact W.step (fun T locs X e t q => iremM X O.1 rfl (hb O.2.1 hd) rfl hy q) k
theorem w_ldiv (O : Ok K l Z a0 ts B ml rt own nm R n0 Q) {x y : Int64} (hd : decode B pc = .ok (.ldiv, 1)) (hp : pc + 1 = pc') (hy : y ≠ 0) (k : W K h cl sl pc' L (.long (x / y) :: st)) : W K h cl sl pc L (.long y :: .long x :: st) := by
  subst hp; exact W.step (fun T locs X e t q => XS.ldiv X.here O.1 rfl (hb O.2.1 hd) rfl hy q) k
theorem w_lrem (O : Ok K l Z a0 ts B ml rt own nm R n0 Q) {x y : Int64} (hd : decode B pc = .ok (.lrem, 1)) (hp : pc + 1 = pc') (hy : y ≠ 0) (k : W K h cl sl pc' L (.long (x % y) :: st)) : W K h cl sl pc L (.long y :: .long x :: st) := by
  subst hp; exact W.step (fun T locs X e t q => XS.lrem X.here O.1 rfl (hb O.2.1 hd) rfl hy (by rw [lrem_mod]; exact q)) k
theorem w_ineg (O : Ok K l Z a0 ts B ml rt own nm R n0 Q) {x : Int32} (hd : decode B pc = .ok (.ineg, 1)) (hp : pc + 1 = pc') (k : W K h cl sl pc' L (.int (-x) :: st)) : W K h cl sl pc L (.int x :: st) := by
  subst hp; exact W.step (fun T locs X e t q => XS.ineg X.here O.1 rfl (hb O.2.1 hd) rfl q) k
theorem w_lneg (O : Ok K l Z a0 ts B ml rt own nm R n0 Q) {x : Int64} (hd : decode B pc = .ok (.lneg, 1)) (hp : pc + 1 = pc') (k : W K h cl sl pc' L (.long (-x) :: st)) : W K h cl sl pc L (.long x :: st) := by
  subst hp; exact W.step (fun T locs X e t q => XS.lneg X.here O.1 rfl (hb O.2.1 hd) rfl q) k
theorem w_i2l (O : Ok K l Z a0 ts B ml rt own nm R n0 Q) {x : Int32} (hd : decode B pc = .ok (.i2l, 1)) (hp : pc + 1 = pc') (k : W K h cl sl pc' L (.long (x.toInt64) :: st)) : W K h cl sl pc L (.int x :: st) := by
  subst hp; exact W.step (fun T locs X e t q => XS.i2l X.here O.1 rfl (hb O.2.1 hd) rfl q) k
theorem w_l2i (O : Ok K l Z a0 ts B ml rt own nm R n0 Q) {x : Int64} (hd : decode B pc = .ok (.l2i, 1)) (hp : pc + 1 = pc') (k : W K h cl sl pc' L (.int (x.toInt32) :: st)) : W K h cl sl pc L (.long x :: st) := by
  subst hp; exact W.step (fun T locs X e t q => XS.l2i X.here O.1 rfl (hb O.2.1 hd) rfl q) k
theorem w_i2b (O : Ok K l Z a0 ts B ml rt own nm R n0 Q) {x : Int32} (hd : decode B pc = .ok (.i2b, 1)) (hp : pc + 1 = pc') (k : W K h cl sl pc' L (.int (x.toInt8.toInt32) :: st)) : W K h cl sl pc L (.int x :: st) := by
  subst hp; exact W.step (fun T locs X e t q => XS.i2b X.here O.1 rfl (hb O.2.1 hd) rfl q) k
theorem w_i2s (O : Ok K l Z a0 ts B ml rt own nm R n0 Q) {x : Int32} (hd : decode B pc = .ok (.i2s, 1)) (hp : pc + 1 = pc') (k : W K h cl sl pc' L (.int (x.toInt16.toInt32) :: st)) : W K h cl sl pc L (.int x :: st) := by
  subst hp; exact W.step (fun T locs X e t q => XS.i2s X.here O.1 rfl (hb O.2.1 hd) rfl q) k
theorem w_i2c (O : Ok K l Z a0 ts B ml rt own nm R n0 Q) {x : Int32} (hd : decode B pc = .ok (.i2c, 1)) (hp : pc + 1 = pc') (k : W K h cl sl pc' L (.int (x.toUInt32.toUInt16.toUInt32.toInt32) :: st)) : W K h cl sl pc L (.int x :: st) := by
  subst hp; exact W.step (fun T locs X e t q => XS.i2c X.here O.1 rfl (hb O.2.1 hd) rfl q) k
theorem w_dup (O : Ok K l Z a0 ts B ml rt own nm R n0 Q) {x : Value} (hd : decode B pc = .ok (.dup, 1)) (hp : pc + 1 = pc') (hc : x.category = 1) (k : W K h cl sl pc' L (x :: x :: st)) : W K h cl sl pc L (x :: st) := by
  subst hp; exact W.step (fun T locs X e t q => XS.dup X.here O.1 rfl (hb O.2.1 hd) rfl hc q) k
theorem w_pop (O : Ok K l Z a0 ts B ml rt own nm R n0 Q) {x : Value} (hd : decode B pc = .ok (.pop, 1)) (hp : pc + 1 = pc') (hc : x.category = 1) (k : W K h cl sl pc' L (st)) : W K h cl sl pc L (x :: st) := by
  subst hp; exact W.step (fun T locs X e t q => XS.pop X.here O.1 rfl (hb O.2.1 hd) rfl hc q) k
theorem w_dupX1 (O : Ok K l Z a0 ts B ml rt own nm R n0 Q) {x y : Value} (hd : decode B pc = .ok (.dup_x1, 1)) (hp : pc + 1 = pc') (hc : x.category = 1) (hc2 : y.category = 1) (k : W K h cl sl pc' L (x :: y :: x :: st)) : W K h cl sl pc L (x :: y :: st) := by
  subst hp; exact W.step (fun T locs X e t q => XS.dupX1 X.here O.1 rfl (hb O.2.1 hd) rfl hc hc2 q) k
theorem w_goto (O : Ok K l Z a0 ts B ml rt own nm R n0 Q) {o : Int} (hd : decode B pc = .ok (.goto o, 3)) (ho : 0 ≤ (pc : Int) + o) (hp : ((pc : Int) + o).toNat = pc') (k : W K h cl sl pc' L st) : W K h cl sl pc L st := W.step (fun T locs X e t q => XS.goto X.here O.1 rfl rfl (hb O.2.1 hd) ho hp q) k
theorem w_icmp_eq (O : Ok K l Z a0 ts B ml rt own nm R n0 Q) {o : Int} {x y : Int32} {pt pn : Nat} (hd : decode B pc = .ok (.if_icmp .eq o, 3)) (hn : pc + 3 = pn) (ho : 0 ≤ (pc : Int) + o) (ht : ((pc : Int) + o).toNat = pt) (ky : x.toInt = y.toInt → W K h cl sl pt L st) (kn : ¬ x.toInt = y.toInt → W K h cl sl pn L st) : W K h cl sl pc L (.int y :: .int x :: st) := by
  by_cases q : x = y
  · exact W.step (fun T locs X e t z => XS.icmpYes X.here O.1 rfl rfl (hb O.2.1 hd) rfl (teq q).1 ho ht z) (ky (Int32.toInt_inj.mpr q))
  · exact W.step (fun T locs X e t z => XS.icmpNo X.here O.1 rfl (hb O.2.1 hd) rfl (feq q).1 (by rw [← hn] at z; exact z)) (kn fun w => q (Int32.toInt_inj.mp w))
theorem w_if_eq (O : Ok K l Z a0 ts B ml rt own nm R n0 Q) {o : Int} {x : Int32} {pt pn : Nat} (hd : decode B pc = .ok (.ifCond .eq o, 3)) (hn : pc + 3 = pn) (ho : 0 ≤ (pc : Int) + o) (ht : ((pc : Int) + o).toNat = pt) (ky : x.toInt = 0 → W K h cl sl pt L st) (kn : ¬ x.toInt = 0 → W K h cl sl pn L st) : W K h cl sl pc L (.int x :: st) := by
  have e0 : (0 : Int32).toInt = 0 := by decide
  by_cases q : x = 0
  · exact W.step (fun T locs X e t z => XS.ifYes X.here O.1 rfl rfl (hb O.2.1 hd) rfl ((if0 _ _).trans (teq q).1) ho ht z) (ky (by rw [← e0]; exact (Int32.toInt_inj.mpr q)))
  · exact W.step (fun T locs X e t z => XS.ifNo X.here O.1 rfl (hb O.2.1 hd) rfl ((if0 _ _).trans (feq q).1) (by rw [← hn] at z; exact z)) (kn fun w => q (by rw [← e0] at w; exact (Int32.toInt_inj.mp w)))
theorem lcb_eq {x y : Int64} : (lcmpW x y).toInt = 0 ↔ x.toInt = y.toInt := by
  have e0 : (0 : Int32).toInt = 0 := by decide
  rw [← e0]
  exact Int32.toInt_inj.trans ((lw_eq x y).trans Int64.toInt_inj.symm)
theorem w_lcmp_eq (O : Ok K l Z a0 ts B ml rt own nm R n0 Q) {o : Int} {x y : Int64} {pi pt pn : Nat} (hd : decode B pc = .ok (.lcmp, 1)) (hi : pc + 1 = pi) (hd2 : decode B pi = .ok (.ifCond .eq o, 3)) (hn : pi + 3 = pn) (ho : 0 ≤ (pi : Int) + o) (ht : ((pi : Int) + o).toNat = pt) (ky : x.toInt = y.toInt → W K h cl sl pt L st) (kn : ¬ x.toInt = y.toInt → W K h cl sl pn L st) : W K h cl sl pc L (.long y :: .long x :: st) := by
  subst hi
  exact W.step (fun T locs X e t q => XS.lcmp X.here O.1 rfl (hb O.2.1 hd) rfl q) (w_if_eq O hd2 hn ho ht (fun q => ky (lcb_eq.mp q)) (fun q => kn fun w => q (lcb_eq.mpr w)))
theorem w_icmp_ne (O : Ok K l Z a0 ts B ml rt own nm R n0 Q) {o : Int} {x y : Int32} {pt pn : Nat} (hd : decode B pc = .ok (.if_icmp .ne o, 3)) (hn : pc + 3 = pn) (ho : 0 ≤ (pc : Int) + o) (ht : ((pc : Int) + o).toNat = pt) (ky : ¬ x.toInt = y.toInt → W K h cl sl pt L st) (kn : x.toInt = y.toInt → W K h cl sl pn L st) : W K h cl sl pc L (.int y :: .int x :: st) := by
  by_cases q : x = y
  · exact W.step (fun T locs X e t z => XS.icmpNo X.here O.1 rfl (hb O.2.1 hd) rfl (teq q).2 (by rw [← hn] at z; exact z)) (kn (Int32.toInt_inj.mpr q))
  · exact W.step (fun T locs X e t z => XS.icmpYes X.here O.1 rfl rfl (hb O.2.1 hd) rfl (feq q).2 ho ht z) (ky fun w => q (Int32.toInt_inj.mp w))
theorem w_if_ne (O : Ok K l Z a0 ts B ml rt own nm R n0 Q) {o : Int} {x : Int32} {pt pn : Nat} (hd : decode B pc = .ok (.ifCond .ne o, 3)) (hn : pc + 3 = pn) (ho : 0 ≤ (pc : Int) + o) (ht : ((pc : Int) + o).toNat = pt) (ky : ¬ x.toInt = 0 → W K h cl sl pt L st) (kn : x.toInt = 0 → W K h cl sl pn L st) : W K h cl sl pc L (.int x :: st) := by
  have e0 : (0 : Int32).toInt = 0 := by decide
  by_cases q : x = 0
  · exact W.step (fun T locs X e t z => XS.ifNo X.here O.1 rfl (hb O.2.1 hd) rfl ((if0 _ _).trans (teq q).2) (by rw [← hn] at z; exact z)) (kn (by rw [← e0]; exact (Int32.toInt_inj.mpr q)))
  · exact W.step (fun T locs X e t z => XS.ifYes X.here O.1 rfl rfl (hb O.2.1 hd) rfl ((if0 _ _).trans (feq q).2) ho ht z) (ky fun w => q (by rw [← e0] at w; exact (Int32.toInt_inj.mp w)))
theorem lcb_ne {x y : Int64} : (lcmpW x y).toInt = 0 ↔ x.toInt = y.toInt := by
  have e0 : (0 : Int32).toInt = 0 := by decide
  rw [← e0]
  exact Int32.toInt_inj.trans ((lw_eq x y).trans Int64.toInt_inj.symm)
theorem w_lcmp_ne (O : Ok K l Z a0 ts B ml rt own nm R n0 Q) {o : Int} {x y : Int64} {pi pt pn : Nat} (hd : decode B pc = .ok (.lcmp, 1)) (hi : pc + 1 = pi) (hd2 : decode B pi = .ok (.ifCond .ne o, 3)) (hn : pi + 3 = pn) (ho : 0 ≤ (pi : Int) + o) (ht : ((pi : Int) + o).toNat = pt) (ky : ¬ x.toInt = y.toInt → W K h cl sl pt L st) (kn : x.toInt = y.toInt → W K h cl sl pn L st) : W K h cl sl pc L (.long y :: .long x :: st) := by
  subst hi
  exact W.step (fun T locs X e t q => XS.lcmp X.here O.1 rfl (hb O.2.1 hd) rfl q) (w_if_ne O hd2 hn ho ht (fun q => ky fun w => q (lcb_ne.mpr w)) (fun q => kn (lcb_ne.mp q)))
theorem w_icmp_lt (O : Ok K l Z a0 ts B ml rt own nm R n0 Q) {o : Int} {x y : Int32} {pt pn : Nat} (hd : decode B pc = .ok (.if_icmp .lt o, 3)) (hn : pc + 3 = pn) (ho : 0 ≤ (pc : Int) + o) (ht : ((pc : Int) + o).toNat = pt) (ky : x.toInt < y.toInt → W K h cl sl pt L st) (kn : ¬ x.toInt < y.toInt → W K h cl sl pn L st) : W K h cl sl pc L (.int y :: .int x :: st) := by
  by_cases q : x < y
  · exact W.step (fun T locs X e t z => XS.icmpYes X.here O.1 rfl rfl (hb O.2.1 hd) rfl (tlt q).1 ho ht z) (ky (Int32.lt_iff_toInt_lt.mp q))
  · exact W.step (fun T locs X e t z => XS.icmpNo X.here O.1 rfl (hb O.2.1 hd) rfl (flt q).1 (by rw [← hn] at z; exact z)) (kn fun w => q (Int32.lt_iff_toInt_lt.mpr w))
theorem w_if_lt (O : Ok K l Z a0 ts B ml rt own nm R n0 Q) {o : Int} {x : Int32} {pt pn : Nat} (hd : decode B pc = .ok (.ifCond .lt o, 3)) (hn : pc + 3 = pn) (ho : 0 ≤ (pc : Int) + o) (ht : ((pc : Int) + o).toNat = pt) (ky : x.toInt < 0 → W K h cl sl pt L st) (kn : ¬ x.toInt < 0 → W K h cl sl pn L st) : W K h cl sl pc L (.int x :: st) := by
  have e0 : (0 : Int32).toInt = 0 := by decide
  by_cases q : x < 0
  · exact W.step (fun T locs X e t z => XS.ifYes X.here O.1 rfl rfl (hb O.2.1 hd) rfl ((if0 _ _).trans (tlt q).1) ho ht z) (ky (by rw [← e0]; exact (Int32.lt_iff_toInt_lt.mp q)))
  · exact W.step (fun T locs X e t z => XS.ifNo X.here O.1 rfl (hb O.2.1 hd) rfl ((if0 _ _).trans (flt q).1) (by rw [← hn] at z; exact z)) (kn fun w => q (by rw [← e0] at w; exact (Int32.lt_iff_toInt_lt.mpr w)))
theorem lcb_lt {x y : Int64} : (lcmpW x y).toInt < 0 ↔ x.toInt < y.toInt := by
  have e0 : (0 : Int32).toInt = 0 := by decide
  rw [← e0]
  exact (Int32.lt_iff_toInt_lt.symm).trans ((lw_lt x y).trans Int64.lt_iff_toInt_lt)
theorem w_lcmp_lt (O : Ok K l Z a0 ts B ml rt own nm R n0 Q) {o : Int} {x y : Int64} {pi pt pn : Nat} (hd : decode B pc = .ok (.lcmp, 1)) (hi : pc + 1 = pi) (hd2 : decode B pi = .ok (.ifCond .lt o, 3)) (hn : pi + 3 = pn) (ho : 0 ≤ (pi : Int) + o) (ht : ((pi : Int) + o).toNat = pt) (ky : x.toInt < y.toInt → W K h cl sl pt L st) (kn : ¬ x.toInt < y.toInt → W K h cl sl pn L st) : W K h cl sl pc L (.long y :: .long x :: st) := by
  subst hi
  exact W.step (fun T locs X e t q => XS.lcmp X.here O.1 rfl (hb O.2.1 hd) rfl q) (w_if_lt O hd2 hn ho ht (fun q => ky (lcb_lt.mp q)) (fun q => kn fun w => q (lcb_lt.mpr w)))
theorem w_icmp_ge (O : Ok K l Z a0 ts B ml rt own nm R n0 Q) {o : Int} {x y : Int32} {pt pn : Nat} (hd : decode B pc = .ok (.if_icmp .ge o, 3)) (hn : pc + 3 = pn) (ho : 0 ≤ (pc : Int) + o) (ht : ((pc : Int) + o).toNat = pt) (ky : ¬ x.toInt < y.toInt → W K h cl sl pt L st) (kn : x.toInt < y.toInt → W K h cl sl pn L st) : W K h cl sl pc L (.int y :: .int x :: st) := by
  by_cases q : x < y
  · exact W.step (fun T locs X e t z => XS.icmpNo X.here O.1 rfl (hb O.2.1 hd) rfl (tlt q).2.1 (by rw [← hn] at z; exact z)) (kn (Int32.lt_iff_toInt_lt.mp q))
  · exact W.step (fun T locs X e t z => XS.icmpYes X.here O.1 rfl rfl (hb O.2.1 hd) rfl (flt q).2.1 ho ht z) (ky fun w => q (Int32.lt_iff_toInt_lt.mpr w))
theorem w_if_ge (O : Ok K l Z a0 ts B ml rt own nm R n0 Q) {o : Int} {x : Int32} {pt pn : Nat} (hd : decode B pc = .ok (.ifCond .ge o, 3)) (hn : pc + 3 = pn) (ho : 0 ≤ (pc : Int) + o) (ht : ((pc : Int) + o).toNat = pt) (ky : ¬ x.toInt < 0 → W K h cl sl pt L st) (kn : x.toInt < 0 → W K h cl sl pn L st) : W K h cl sl pc L (.int x :: st) := by
  have e0 : (0 : Int32).toInt = 0 := by decide
  by_cases q : x < 0
  · exact W.step (fun T locs X e t z => XS.ifNo X.here O.1 rfl (hb O.2.1 hd) rfl ((if0 _ _).trans (tlt q).2.1) (by rw [← hn] at z; exact z)) (kn (by rw [← e0]; exact (Int32.lt_iff_toInt_lt.mp q)))
  · exact W.step (fun T locs X e t z => XS.ifYes X.here O.1 rfl rfl (hb O.2.1 hd) rfl ((if0 _ _).trans (flt q).2.1) ho ht z) (ky fun w => q (by rw [← e0] at w; exact (Int32.lt_iff_toInt_lt.mpr w)))
theorem lcb_ge {x y : Int64} : (lcmpW x y).toInt < 0 ↔ x.toInt < y.toInt := by
  have e0 : (0 : Int32).toInt = 0 := by decide
  rw [← e0]
  exact (Int32.lt_iff_toInt_lt.symm).trans ((lw_lt x y).trans Int64.lt_iff_toInt_lt)
theorem w_lcmp_ge (O : Ok K l Z a0 ts B ml rt own nm R n0 Q) {o : Int} {x y : Int64} {pi pt pn : Nat} (hd : decode B pc = .ok (.lcmp, 1)) (hi : pc + 1 = pi) (hd2 : decode B pi = .ok (.ifCond .ge o, 3)) (hn : pi + 3 = pn) (ho : 0 ≤ (pi : Int) + o) (ht : ((pi : Int) + o).toNat = pt) (ky : ¬ x.toInt < y.toInt → W K h cl sl pt L st) (kn : x.toInt < y.toInt → W K h cl sl pn L st) : W K h cl sl pc L (.long y :: .long x :: st) := by
  subst hi
  exact W.step (fun T locs X e t q => XS.lcmp X.here O.1 rfl (hb O.2.1 hd) rfl q) (w_if_ge O hd2 hn ho ht (fun q => ky fun w => q (lcb_ge.mpr w)) (fun q => kn (lcb_ge.mp q)))
theorem w_icmp_gt (O : Ok K l Z a0 ts B ml rt own nm R n0 Q) {o : Int} {x y : Int32} {pt pn : Nat} (hd : decode B pc = .ok (.if_icmp .gt o, 3)) (hn : pc + 3 = pn) (ho : 0 ≤ (pc : Int) + o) (ht : ((pc : Int) + o).toNat = pt) (ky : y.toInt < x.toInt → W K h cl sl pt L st) (kn : ¬ y.toInt < x.toInt → W K h cl sl pn L st) : W K h cl sl pc L (.int y :: .int x :: st) := by
  by_cases q : y < x
  · exact W.step (fun T locs X e t z => XS.icmpYes X.here O.1 rfl rfl (hb O.2.1 hd) rfl (tlt q).2.2.1 ho ht z) (ky (Int32.lt_iff_toInt_lt.mp q))
  · exact W.step (fun T locs X e t z => XS.icmpNo X.here O.1 rfl (hb O.2.1 hd) rfl (flt q).2.2.1 (by rw [← hn] at z; exact z)) (kn fun w => q (Int32.lt_iff_toInt_lt.mpr w))
theorem w_if_gt (O : Ok K l Z a0 ts B ml rt own nm R n0 Q) {o : Int} {x : Int32} {pt pn : Nat} (hd : decode B pc = .ok (.ifCond .gt o, 3)) (hn : pc + 3 = pn) (ho : 0 ≤ (pc : Int) + o) (ht : ((pc : Int) + o).toNat = pt) (ky : 0 < x.toInt → W K h cl sl pt L st) (kn : ¬ 0 < x.toInt → W K h cl sl pn L st) : W K h cl sl pc L (.int x :: st) := by
  have e0 : (0 : Int32).toInt = 0 := by decide
  by_cases q : 0 < x
  · exact W.step (fun T locs X e t z => XS.ifYes X.here O.1 rfl rfl (hb O.2.1 hd) rfl ((if0 _ _).trans (tlt q).2.2.1) ho ht z) (ky (by rw [← e0]; exact (Int32.lt_iff_toInt_lt.mp q)))
  · exact W.step (fun T locs X e t z => XS.ifNo X.here O.1 rfl (hb O.2.1 hd) rfl ((if0 _ _).trans (flt q).2.2.1) (by rw [← hn] at z; exact z)) (kn fun w => q (by rw [← e0] at w; exact (Int32.lt_iff_toInt_lt.mpr w)))
theorem lcb_gt {x y : Int64} : 0 < (lcmpW x y).toInt ↔ y.toInt < x.toInt := by
  have e0 : (0 : Int32).toInt = 0 := by decide
  rw [← e0]
  exact (Int32.lt_iff_toInt_lt.symm).trans ((lw_gt x y).trans Int64.lt_iff_toInt_lt)
theorem w_lcmp_gt (O : Ok K l Z a0 ts B ml rt own nm R n0 Q) {o : Int} {x y : Int64} {pi pt pn : Nat} (hd : decode B pc = .ok (.lcmp, 1)) (hi : pc + 1 = pi) (hd2 : decode B pi = .ok (.ifCond .gt o, 3)) (hn : pi + 3 = pn) (ho : 0 ≤ (pi : Int) + o) (ht : ((pi : Int) + o).toNat = pt) (ky : y.toInt < x.toInt → W K h cl sl pt L st) (kn : ¬ y.toInt < x.toInt → W K h cl sl pn L st) : W K h cl sl pc L (.long y :: .long x :: st) := by
  subst hi
  exact W.step (fun T locs X e t q => XS.lcmp X.here O.1 rfl (hb O.2.1 hd) rfl q) (w_if_gt O hd2 hn ho ht (fun q => ky (lcb_gt.mp q)) (fun q => kn fun w => q (lcb_gt.mpr w)))
theorem w_icmp_le (O : Ok K l Z a0 ts B ml rt own nm R n0 Q) {o : Int} {x y : Int32} {pt pn : Nat} (hd : decode B pc = .ok (.if_icmp .le o, 3)) (hn : pc + 3 = pn) (ho : 0 ≤ (pc : Int) + o) (ht : ((pc : Int) + o).toNat = pt) (ky : ¬ y.toInt < x.toInt → W K h cl sl pt L st) (kn : y.toInt < x.toInt → W K h cl sl pn L st) : W K h cl sl pc L (.int y :: .int x :: st) := by
  by_cases q : y < x
  · exact W.step (fun T locs X e t z => XS.icmpNo X.here O.1 rfl (hb O.2.1 hd) rfl (tlt q).2.2.2 (by rw [← hn] at z; exact z)) (kn (Int32.lt_iff_toInt_lt.mp q))
  · exact W.step (fun T locs X e t z => XS.icmpYes X.here O.1 rfl rfl (hb O.2.1 hd) rfl (flt q).2.2.2 ho ht z) (ky fun w => q (Int32.lt_iff_toInt_lt.mpr w))
theorem w_if_le (O : Ok K l Z a0 ts B ml rt own nm R n0 Q) {o : Int} {x : Int32} {pt pn : Nat} (hd : decode B pc = .ok (.ifCond .le o, 3)) (hn : pc + 3 = pn) (ho : 0 ≤ (pc : Int) + o) (ht : ((pc : Int) + o).toNat = pt) (ky : ¬ 0 < x.toInt → W K h cl sl pt L st) (kn : 0 < x.toInt → W K h cl sl pn L st) : W K h cl sl pc L (.int x :: st) := by
  have e0 : (0 : Int32).toInt = 0 := by decide
  by_cases q : 0 < x
  · exact W.step (fun T locs X e t z => XS.ifNo X.here O.1 rfl (hb O.2.1 hd) rfl ((if0 _ _).trans (tlt q).2.2.2) (by rw [← hn] at z; exact z)) (kn (by rw [← e0]; exact (Int32.lt_iff_toInt_lt.mp q)))
  · exact W.step (fun T locs X e t z => XS.ifYes X.here O.1 rfl rfl (hb O.2.1 hd) rfl ((if0 _ _).trans (flt q).2.2.2) ho ht z) (ky fun w => q (by rw [← e0] at w; exact (Int32.lt_iff_toInt_lt.mpr w)))
theorem lcb_le {x y : Int64} : 0 < (lcmpW x y).toInt ↔ y.toInt < x.toInt := by
  have e0 : (0 : Int32).toInt = 0 := by decide
  rw [← e0]
  exact (Int32.lt_iff_toInt_lt.symm).trans ((lw_gt x y).trans Int64.lt_iff_toInt_lt)
theorem w_lcmp_le (O : Ok K l Z a0 ts B ml rt own nm R n0 Q) {o : Int} {x y : Int64} {pi pt pn : Nat} (hd : decode B pc = .ok (.lcmp, 1)) (hi : pc + 1 = pi) (hd2 : decode B pi = .ok (.ifCond .le o, 3)) (hn : pi + 3 = pn) (ho : 0 ≤ (pi : Int) + o) (ht : ((pi : Int) + o).toNat = pt) (ky : ¬ y.toInt < x.toInt → W K h cl sl pt L st) (kn : y.toInt < x.toInt → W K h cl sl pn L st) : W K h cl sl pc L (.long y :: .long x :: st) := by
  subst hi
  exact W.step (fun T locs X e t q => XS.lcmp X.here O.1 rfl (hb O.2.1 hd) rfl q) (w_if_le O hd2 hn ho ht (fun q => ky fun w => q (lcb_le.mpr w)) (fun q => kn (lcb_le.mp q)))
theorem w_ifnullY (O : Ok K l Z a0 ts B ml rt own nm R n0 Q) {o : Int} (hd : decode B pc = .ok (.ifnull o, 3)) (ho : 0 ≤ (pc : Int) + o) (ht : ((pc : Int) + o).toNat = pc') (k : W K h cl sl pc' L st) : W K h cl sl pc L (.null :: st) := W.step (fun T locs X e t q => XS.ifnullYes X.here O.1 rfl rfl (hb O.2.1 hd) rfl ho ht q) k
theorem w_ifnullN (O : Ok K l Z a0 ts B ml rt own nm R n0 Q) {o : Int} {b : Addr} (hd : decode B pc = .ok (.ifnull o, 3)) (hp : pc + 3 = pc') (k : W K h cl sl pc' L st) : W K h cl sl pc L (.ref b :: st) := by
  subst hp; exact W.step (fun T locs X e t q => XS.ifnullNo X.here O.1 rfl (hb O.2.1 hd) rfl q) k
theorem w_ifnonnullY (O : Ok K l Z a0 ts B ml rt own nm R n0 Q) {o : Int} {b : Addr} (hd : decode B pc = .ok (.ifnonnull o, 3)) (ho : 0 ≤ (pc : Int) + o) (ht : ((pc : Int) + o).toNat = pc') (k : W K h cl sl pc' L st) : W K h cl sl pc L (.ref b :: st) := W.step (fun T locs X e t q => XS.ifnonnullYes X.here O.1 rfl rfl (hb O.2.1 hd) rfl ho ht q) k
theorem w_ifnonnullN (O : Ok K l Z a0 ts B ml rt own nm R n0 Q) {o : Int} (hd : decode B pc = .ok (.ifnonnull o, 3)) (hp : pc + 3 = pc') (k : W K h cl sl pc' L st) : W K h cl sl pc L (.null :: st) := by
  subst hp; exact W.step (fun T locs X e t q => XS.ifnonnullNo X.here O.1 rfl (hb O.2.1 hd) rfl q) k
theorem w_acmp_eq (O : Ok K l Z a0 ts B ml rt own nm R n0 Q) {o : Int} {x y : Value} {pt pn : Nat} (hd : decode B pc = .ok (.if_acmp .eq o, 3)) (hx' : x.isRef = true) (hy' : y.isRef = true) (hn : pc + 3 = pn) (ho : 0 ≤ (pc : Int) + o) (ht : ((pc : Int) + o).toNat = pt) (ky : x = y → W K h cl sl pt L st) (kn : ¬ x = y → W K h cl sl pn L st) : W K h cl sl pc L (y :: x :: st) := by
  by_cases q : x = y
  · exact W.step (fun T locs X e t z => Jvm.RoadKit.acmp (g := mkF K.2.1.2.1 pc L (y :: x :: st)) X O.1 rfl hx' hy' (pc0 := pc) (pc' := pt) (same := true) rfl (hb O.2.1 hd) rfl (decide_eq_true q) ho (by simp [acV, ht, hn]) z) (ky q)
  · exact W.step (fun T locs X e t z => Jvm.RoadKit.acmp (g := mkF K.2.1.2.1 pc L (y :: x :: st)) X O.1 rfl hx' hy' (pc0 := pc) (pc' := pn) (same := false) rfl (hb O.2.1 hd) rfl (decide_eq_false q) ho (by simp [acV, ht, hn]) z) (kn q)
theorem w_acmp_ne (O : Ok K l Z a0 ts B ml rt own nm R n0 Q) {o : Int} {x y : Value} {pt pn : Nat} (hd : decode B pc = .ok (.if_acmp .ne o, 3)) (hx' : x.isRef = true) (hy' : y.isRef = true) (hn : pc + 3 = pn) (ho : 0 ≤ (pc : Int) + o) (ht : ((pc : Int) + o).toNat = pt) (ky : ¬ x = y → W K h cl sl pt L st) (kn : x = y → W K h cl sl pn L st) : W K h cl sl pc L (y :: x :: st) := by
  by_cases q : x = y
  · exact W.step (fun T locs X e t z => Jvm.RoadKit.acmp (g := mkF K.2.1.2.1 pc L (y :: x :: st)) X O.1 rfl hx' hy' (pc0 := pc) (pc' := pn) (same := true) rfl (hb O.2.1 hd) rfl (decide_eq_true q) ho (by simp [acV, ht, hn]) z) (kn q)
  · exact W.step (fun T locs X e t z => Jvm.RoadKit.acmp (g := mkF K.2.1.2.1 pc L (y :: x :: st)) X O.1 rfl hx' hy' (pc0 := pc) (pc' := pt) (same := false) rfl (hb O.2.1 hd) rfl (decide_eq_false q) ho (by simp [acV, ht, hn]) z) (ky q)
theorem w_getf (O : Ok K l Z a0 ts B ml rt own nm R n0 Q) {i : Nat} {C f d : String} {a : Addr} {v : Value} (hd : decode B pc = .ok (.getfield i, 3)) (hp : pc + 3 = pc') (w : Jvm.Cond.fieldLink own i C f d ∈ ts) (F : Fld Z h a C f d v) (k : W K h cl sl pc' L (v :: st)) : W K h cl sl pc L (.ref a :: st) := by
  subst hp
  exact W.stepT (fun T locs X e => getF X O.1 O.2.2.2.2.2.2.2.1 O.2.2.2.1 (host := "") (Or.inl (O.2.2.2.2.2.2.2.2.1 _ w)) Via.refl e F (g := mkF K.2.1.2.1 pc L (.ref a :: st)) rfl rfl (hb O.2.1 hd)) k
theorem w_gets (O : Ok K l Z a0 ts B ml rt own nm R n0 Q) {i : Nat} {C f d : String} {v : Value} (hd : decode B pc = .ok (.getstatic i, 3)) (hp : pc + 3 = pc') (w : Jvm.Cond.fieldLink own i C f d ∈ ts) (F : Sta Z h C f d v) (k : W K h cl sl pc' L (v :: st)) : W K h cl sl pc L st := by
  subst hp
  exact W.stepT (fun T locs X e => getS2 X O.1 O.2.2.2.2.2.2.2.1 O.2.2.2.1 (host := "") (Or.inl (O.2.2.2.2.2.2.2.2.1 _ w)) Via.refl e F (g := mkF K.2.1.2.1 pc L st) rfl (hb O.2.1 hd)) k
theorem w_putf (O : Ok K l Z a0 ts B ml rt own nm R n0 Q) {i kk : Nat} {C f d : String} {a : Addr} {v old : Value} {ty : FieldType} (hd : decode B pc = .ok (.putfield i, 3)) (hp : pc + 3 = pc') (w : Jvm.Cond.fieldLink own i C f d ∈ ts) (wi : Jvm.Cond.instantiable C kk ∈ ts) (Ly : Jvm.Cond.lays C C f d ∈ ts ∨ (Jvm.Cond.laysFinal C C f d ∈ ts ∧ own = C ∧ nm = "<init>")) (F : Fld Z h a C f d old) (E : Exa Z h a C) (ha : n0 ≤ a) (hty : parseFieldDescriptor d = some ty) (hn : narrow ty v = v) (hf : fits ty v = true)
    (k : ∀ h', Wr h h' a (Jvm.RoadKit.slotOf Z C f d) v → W K h' cl sl pc' L st) : W K h cl sl pc L (v :: .ref a :: st) := by
  subst hp
  have hw := O.2.2.2.2.2.2.2.2.1
  exact W.stepW (fun T locs X e => putF X O.1 O.2.2.2.2.2.2.2.1 O.2.2.2.1 (host := "") (Or.inl (hw _ w)) Via.refl e F E (Ly.imp (fun q => hw _ q) fun q => ⟨hw _ q.1, q.2.1, O.2.2.2.2.1.trans q.2.2⟩) (hw _ wi) hty hn hf (g := mkF K.2.1.2.1 pc L (v :: .ref a :: st)) rfl rfl (hb O.2.1 hd)) (by rw [O.2.2.2.2.2.2.2.2.2.2.2.2.1]; exact ha) k
theorem w_new (O : Ok K l Z a0 ts B ml rt own nm R n0 Q) {i n cl' sl' : Nat} {C : String} (hd : decode B pc = .ok (.new i, 3)) (hp : pc + 3 = pc') (w1 : Jvm.Cond.classLink own i C ∈ ts) (w2 : Jvm.Cond.instantiable C n ∈ ts) (w3 : Jvm.Cond.initialized C ∈ ts) (hc : cl + 1 = cl') (hs : sl + n = sl') (hc' : cl' ≤ R.cells) (hs' : sl' ≤ R.slots)
    (k : ∀ h' b, b = h.size → n0 ≤ b → Ext h h' → Exa Z h' b C → (∀ {Ow nf d : String} {ty : FieldType}, Laid Z a0 C Ow nf d → parseFieldDescriptor d = some ty → Fld Z h' b Ow nf d (defaultValue ty)) → W K h' cl' sl' pc' L (.ref b :: st)) : W K h cl sl pc L st := by
  obtain ⟨⟨p, l', e', R'⟩, ⟨s, m, args, below⟩, ⟨meth, c⟩, Q', n0'⟩ := K
  obtain ⟨hx, hby, hml, hown, hnm, hrt, hlk, hZ, hw, hn0, hl', hR', hn', hQ'⟩ := O
  dsimp only at hx hby hml hown hnm hrt hlk hZ hn0 hl' hR' hn' hQ'
  subst hl' hR' hn' hQ'
  subst hp hc hs
  intro T locs X eT N
  obtain ⟨T2, h2, X2, e2, E2, A2, D2, -, st2⟩ := newO X hx hZ hown (hw _ w1) (hw _ w2) (hw _ w3) eT (g := mkF m pc L st) rfl (hb hby hd) hc' hs'
  obtain ⟨s2, o, h1, r⟩ := k h2 h.size rfl (Nat.le_trans hn0 (by rw [← eT]; exact X.same.2.1)) E2 A2 D2 T2 _ X2 e2 N
  exact ⟨s2, o, st2 _ h1, r⟩
theorem w_objinit (O : Ok K l Z a0 ts B ml rt own nm R n0 Q) {i wt : Nat} {a : Addr} (hd : decode B pc = .ok (.invokespecial i, 3)) (hp : pc + 3 = pc') (w1 : Jvm.Cond.methodLink own i Lib.objectInit ∈ ts) (w2 : Jvm.Cond.instanceMethod Lib.objectInit ∈ ts) (w3 : Jvm.Cond.code Lib.objectInit ⟨#[0xb1]⟩ 1 none ∈ ts) (hsz : L.size = ml) (hwt : (st.map fun v => v.category).sum = wt) (hf : 1 ≤ R.frames) (hl : wt + 12 ≤ R.locals) (k : W K h cl sl pc' L st) : W K h cl sl pc L (.ref a :: st) := by
  obtain ⟨⟨p, l', e', R'⟩, ⟨s, m, args, below⟩, ⟨meth, c⟩, Q', n0'⟩ := K
  obtain ⟨hx, hby, hml, hown, hnm, hrt, hlk, hZ, hw, hn0, hl', hR', hn', hQ'⟩ := O
  dsimp only at hx hby hml hown hnm hrt hlk hZ hn0 hl' hR' hn' hQ'
  subst hl' hR' hn' hQ'
  subst hp hml
  exact W.stepT (fun T locs X e => initO X hx hZ hown (hw _ w1) (hw _ w2) (hw _ w3) e (g := mkF m pc L (.ref a :: st)) rfl hsz rfl (hb hby hd) hf (W := wt) (by show 2 * 0 + _ ≤ _; omega) hl) k
/-- an array of n places, the i-th holds f i -/
def Afn (Z : State) (h : Heap) (a : Addr) (ty : FieldType) (n : Nat) (f : Nat → Value) : Prop := ∃ c : Cell, Arr Z h a c ty ∧ c.slots.size = n ∧ n < 2147483648 ∧ ∀ i, i < n → c.slots[i]? = some (f i)
def upd (f : Nat → Value) (i : Nat) (v : Value) : Nat → Value := fun j => if j = i then v else f j
theorem Afn.lt {a : Addr} {ty : FieldType} {n : Nat} {f : Nat → Value} (A : Afn Z h a ty n f) : a < h.size := by obtain ⟨c, A, -⟩ := A; exact A.lt
theorem Afn.bound {a : Addr} {ty : FieldType} {n : Nat} {f : Nat → Value} (A : Afn Z h a ty n f) : n < 2147483648 := by obtain ⟨c, -, -, q, -⟩ := A; exact q
theorem upd_same (f : Nat → Value) (i : Nat) (v : Value) : upd f i v i = v := if_pos rfl
theorem upd_ne (f : Nat → Value) {i j : Nat} (v : Value) (q : ¬ j = i) : upd f i v j = f j := if_neg q
theorem Afn.ext {h' : Heap} {a : Addr} {ty : FieldType} {n : Nat} {f : Nat → Value} (A : Afn Z h a ty n f) (E : Ext h h') : Afn Z h' a ty n f := by obtain ⟨c, A, r⟩ := A; exact ⟨c, A.ext E, r⟩
theorem Afn.other {h' : Heap} {a b : Addr} {i : Nat} {v : Value} {ty : FieldType} {n : Nat} {f : Nat → Value} (A : Afn Z h b ty n f) (Wq : Wr h h' a i v) (q : b ≠ a) : Afn Z h' b ty n f := by obtain ⟨c, A, r⟩ := A; exact ⟨c, A.other Wq q, r⟩
theorem Afn.keep {h' : Heap} {a : Addr} {ws : List Addr} {ty : FieldType} {n : Nat} {f : Nat → Value} (A : Afn Z h a ty n f) (Kp : Keep h h' ws) (q : a ∉ ws) : Afn Z h' a ty n f := by obtain ⟨c, A, r⟩ := A; exact ⟨c, ⟨Kp.2.1 a c A.1 q, A.2⟩, r⟩
theorem Afn.congr {a : Addr} {ty : FieldType} {n : Nat} {f g : Nat → Value} (A : Afn Z h a ty n f) (q : ∀ i, i < n → f i = g i) : Afn Z h a ty n g := by obtain ⟨c, A, h1, h2, h3⟩ := A; exact ⟨c, A, h1, h2, fun i hi => by rw [← q i hi]; exact h3 i hi⟩
theorem Afn.set {h' : Heap} {a : Addr} {i : Nat} {v : Value} {ty : FieldType} {n : Nat} {f : Nat → Value} (A : Afn Z h a ty n f) (Wq : Wr h h' a i v) : Afn Z h' a ty n (upd f i v) := by
  obtain ⟨c, A, h1, h2, h3⟩ := A
  refine ⟨_, A.same Wq, by simp [Cell.setSlot, h1], h2, fun j hj => ?_⟩
  by_cases q : j = i
  · subst q
    simp [Cell.setSlot, upd, h1, hj]
  · simp only [upd, if_neg q]
    show (c.slots.setIfInBounds i v)[j]? = _
    rw [Array.getElem?_setIfInBounds_ne (fun z => q z.symm)]; exact h3 j hj
theorem tnc {j : Int32} {i : Nat} (hj : j.toInt = (i : Int)) : j.toNatClampNeg = i ∧ ¬ j < 0 := by
  have e0 : (0 : Int32).toInt = 0 := by decide
  have q : ¬ j < 0 := by rw [Int32.lt_iff_toInt_lt, e0]; omega
  have := nat_of q
  exact ⟨by omega, q⟩
theorem idxOk {c : Cell} {n : Nat} {j : Int32} {i : Nat} (hs : c.slots.size = n) (hj : j.toInt = (i : Int)) (hi : i < n) : ¬ (j < 0 ∨ c.slots.size ≤ j.toNatClampNeg) := by
  obtain ⟨q1, q2⟩ := tnc hj
  rintro (z | z)
  · exact q2 z
  · omega

theorem w_iaload (O : Ok K l Z a0 ts B ml rt own nm R n0 Q) {a : Addr} {n i : Nat} {f : Nat → Value} {j : Int32} {x : Int32} (hd : decode B pc = .ok (.iaload, 1)) (hp : pc + 1 = pc') (A : Afn Z h a .int n f) (hj : j.toInt = (i : Int)) (hi : i < n) (hv : f i = .int x) (k : W K h cl sl pc' L (.int x :: st)) : W K h cl sl pc L (.int j :: .ref a :: st) := by
  subst hp
  obtain ⟨c, A, h1, h2, h3⟩ := A
  refine W.step (fun T locs X e t q => X.iaload O.1 (j := j) (v := .int x) (by rw [e]; exact A.1) (State.isArrayOf_alike O.2.2.2.2.2.2.2.1.alike A.2.1) A.2.2 (idxOk h1 hj hi) (by rw [(tnc hj).1, h3 i hi, hv]) (g := mkF K.2.1.2.1 pc L (.int j :: .ref a :: st)) rfl rfl (hb O.2.1 hd) _ q) k
theorem w_laload (O : Ok K l Z a0 ts B ml rt own nm R n0 Q) {a : Addr} {n i : Nat} {f : Nat → Value} {j : Int32} {x : Int64} (hd : decode B pc = .ok (.laload, 1)) (hp : pc + 1 = pc') (A : Afn Z h a .long n f) (hj : j.toInt = (i : Int)) (hi : i < n) (hv : f i = .long x) (k : W K h cl sl pc' L (.long x :: st)) : W K h cl sl pc L (.int j :: .ref a :: st) := by
  subst hp
  obtain ⟨c, A, h1, h2, h3⟩ := A
  refine W.step (fun T locs X e t q => X.laload O.1 (j := j) (v := .long x) (by rw [e]; exact A.1) (State.isArrayOf_alike O.2.2.2.2.2.2.2.1.alike A.2.1) A.2.2 (idxOk h1 hj hi) (by rw [(tnc hj).1, h3 i hi, hv]) (g := mkF K.2.1.2.1 pc L (.int j :: .ref a :: st)) rfl rfl (hb O.2.1 hd) _ q) k
theorem w_baload (O : Ok K l Z a0 ts B ml rt own nm R n0 Q) {a : Addr} {n i : Nat} {f : Nat → Value} {j : Int32} {x : Int32} (hd : decode B pc = .ok (.baload, 1)) (hp : pc + 1 = pc') (A : Afn Z h a .byte n f) (hj : j.toInt = (i : Int)) (hi : i < n) (hv : f i = .int x) (k : W K h cl sl pc' L (.int x :: st)) : W K h cl sl pc L (.int j :: .ref a :: st) := by
  subst hp
  obtain ⟨c, A, h1, h2, h3⟩ := A
  refine W.step (fun T locs X e t q => X.baloadBytes O.1 (j := j) (v := .int x) (by rw [e]; exact A.1) (State.isArrayOf_alike O.2.2.2.2.2.2.2.1.alike A.2.1) A.2.2 (idxOk h1 hj hi) (by rw [(tnc hj).1, h3 i hi, hv]) (g := mkF K.2.1.2.1 pc L (.int j :: .ref a :: st)) rfl rfl (hb O.2.1 hd) _ q) k
theorem w_caload (O : Ok K l Z a0 ts B ml rt own nm R n0 Q) {a : Addr} {n i : Nat} {f : Nat → Value} {j : Int32} {x : Int32} (hd : decode B pc = .ok (.caload, 1)) (hp : pc + 1 = pc') (A : Afn Z h a .char n f) (hj : j.toInt = (i : Int)) (hi : i < n) (hv : f i = .int x) (k : W K h cl sl pc' L (.int x :: st)) : W K h cl sl pc L (.int j :: .ref a :: st) := by
  subst hp
  obtain ⟨c, A, h1, h2, h3⟩ := A
  refine W.step (fun T locs X e t q => X.caload O.1 (j := j) (v := .int x) (by rw [e]; exact A.1) (State.isArrayOf_alike O.2.2.2.2.2.2.2.1.alike A.2.1) A.2.2 (idxOk h1 hj hi) (by rw [(tnc hj).1, h3 i hi, hv]) (g := mkF K.2.1.2.1 pc L (.int j :: .ref a :: st)) rfl rfl (hb O.2.1 hd) _ q) k
theorem w_aaload (O : Ok K l Z a0 ts B ml rt own nm R n0 Q) {a : Addr} {n i : Nat} {f : Nat → Value} {j : Int32} {x : Value} {ty : FieldType} (hd : decode B pc = .ok (.aaload, 1)) (hp : pc + 1 = pc') (A : Afn Z h a ty n f) (hty : ty.isReference = true) (hj : j.toInt = (i : Int)) (hi : i < n) (hv : f i = x) (k : W K h cl sl pc' L (x :: st)) : W K h cl sl pc L (.int j :: .ref a :: st) := by
  subst hp
  obtain ⟨c, A, h1, h2, h3⟩ := A
  refine W.step (fun T locs X e t q => X.aaload O.1 (j := j) (v := x) (by rw [e]; exact A.1) (State.isArrayOf_alike O.2.2.2.2.2.2.2.1.alike A.2.1) hty A.2.2 (idxOk h1 hj hi) (by rw [(tnc hj).1, h3 i hi, hv]) (g := mkF K.2.1.2.1 pc L (.int j :: .ref a :: st)) rfl rfl (hb O.2.1 hd) _ q) k
theorem w_iastore (O : Ok K l Z a0 ts B ml rt own nm R n0 Q) {a : Addr} {n i : Nat} {f : Nat → Value} {j : Int32} {x : Int32} (hd : decode B pc = .ok (.iastore, 1)) (hp : pc + 1 = pc') (A : Afn Z h a .int n f) (hj : j.toInt = (i : Int)) (hi : i < n) (ha : n0 ≤ a) (k : ∀ h', Wr h h' a i (.int x) → W K h' cl sl pc' L st) : W K h cl sl pc L (.int x :: .int j :: .ref a :: st) := by
  subst hp
  obtain ⟨c, A, h1, h2, h3⟩ := A
  rw [← (tnc hj).1] at k
  exact W.stepW (fun T locs X e => stI X O.1 O.2.2.2.2.2.2.2.1 e A (j := j) (idxOk h1 hj hi) (g := mkF K.2.1.2.1 pc L (.int x :: .int j :: .ref a :: st)) rfl rfl (hb O.2.1 hd)) (by rw [O.2.2.2.2.2.2.2.2.2.2.2.2.1]; exact ha) k
theorem w_lastore (O : Ok K l Z a0 ts B ml rt own nm R n0 Q) {a : Addr} {n i : Nat} {f : Nat → Value} {j : Int32} {x : Int64} (hd : decode B pc = .ok (.lastore, 1)) (hp : pc + 1 = pc') (A : Afn Z h a .long n f) (hj : j.toInt = (i : Int)) (hi : i < n) (ha : n0 ≤ a) (k : ∀ h', Wr h h' a i (.long x) → W K h' cl sl pc' L st) : W K h cl sl pc L (.long x :: .int j :: .ref a :: st) := by
  subst hp
  obtain ⟨c, A, h1, h2, h3⟩ := A
  rw [← (tnc hj).1] at k
  exact W.stepW (fun T locs X e => stJ X O.1 O.2.2.2.2.2.2.2.1 e A (j := j) (idxOk h1 hj hi) (g := mkF K.2.1.2.1 pc L (.long x :: .int j :: .ref a :: st)) rfl rfl (hb O.2.1 hd)) (by rw [O.2.2.2.2.2.2.2.2.2.2.2.2.1]; exact ha) k
theorem w_bastore (O : Ok K l Z a0 ts B ml rt own nm R n0 Q) {a : Addr} {n i : Nat} {f : Nat → Value} {j : Int32} {x : Int32} (hd : decode B pc = .ok (.bastore, 1)) (hp : pc + 1 = pc') (A : Afn Z h a .byte n f) (hj : j.toInt = (i : Int)) (hi : i < n) (ha : n0 ≤ a) (k : ∀ h', Wr h h' a i (.int (nar .byte x)) → W K h' cl sl pc' L st) : W K h cl sl pc L (.int x :: .int j :: .ref a :: st) := by
  subst hp
  obtain ⟨c, A, h1, h2, h3⟩ := A
  rw [← (tnc hj).1] at k
  exact W.stepW (fun T locs X e => stB X O.1 O.2.2.2.2.2.2.2.1 e A (j := j) (idxOk h1 hj hi) (g := mkF K.2.1.2.1 pc L (.int x :: .int j :: .ref a :: st)) rfl rfl (hb O.2.1 hd)) (by rw [O.2.2.2.2.2.2.2.2.2.2.2.2.1]; exact ha) k
theorem w_castore (O : Ok K l Z a0 ts B ml rt own nm R n0 Q) {a : Addr} {n i : Nat} {f : Nat → Value} {j : Int32} {x : Int32} (hd : decode B pc = .ok (.castore, 1)) (hp : pc + 1 = pc') (A : Afn Z h a .char n f) (hj : j.toInt = (i : Int)) (hi : i < n) (ha : n0 ≤ a) (k : ∀ h', Wr h h' a i (.int (nar .char x)) → W K h' cl sl pc' L st) : W K h cl sl pc L (.int x :: .int j :: .ref a :: st) := by
  subst hp
  obtain ⟨c, A, h1, h2, h3⟩ := A
  rw [← (tnc hj).1] at k
  exact W.stepW (fun T locs X e => stC X O.1 O.2.2.2.2.2.2.2.1 e A (j := j) (idxOk h1 hj hi) (g := mkF K.2.1.2.1 pc L (.int x :: .int j :: .ref a :: st)) rfl rfl (hb O.2.1 hd)) (by rw [O.2.2.2.2.2.2.2.2.2.2.2.2.1]; exact ha) k
theorem w_alen (O : Ok K l Z a0 ts B ml rt own nm R n0 Q) {a : Addr} {n : Nat} {f : Nat → Value} {z : Int32} {ty : FieldType} (hd : decode B pc = .ok (.arraylength, 1)) (hp : pc + 1 = pc') (A : Afn Z h a ty n f) (hz : z.toInt = (n : Int)) (k : W K h cl sl pc' L (.int z :: st)) : W K h cl sl pc L (.ref a :: st) := by
  subst hp
  obtain ⟨c, A, h1, h2, h3⟩ := A
  have ez : c.slots.size.toInt32 = z := by
    have := (back32 (tnc hz).2).1
    rw [(tnc hz).1, ← h1] at this; exact this
  refine W.step (fun T locs X e t q => X.arraylength O.1 (by rw [e]; exact A.1) (State.isArrayOf_alike O.2.2.2.2.2.2.2.1.alike A.2.1) (g := mkF K.2.1.2.1 pc L (.ref a :: st)) rfl rfl (hb O.2.1 hd) _ (by rw [ez]; exact q)) k
theorem w_newarr (O : Ok K l Z a0 ts B ml rt own nm R n0 Q) {aty : ArrayType} {ty : FieldType} {dv : Value} {z : Int32} {n cap cl' sl' : Nat} (hd : decode B pc = .ok (.newarray aty, 2)) (hp : pc + 2 = pc') (hty : newarray.typeOf aty = ty) (hdv : defaultValue ty = dv) (w : Jvm.Cond.arrayClass ty ∈ ts) (hz : z.toInt = (n : Int)) (hcap : n ≤ cap) (hb8 : cap * 8 ≤ 536870912) (hc : cl + 1 = cl') (hs : sl + cap = sl') (hc' : cl' ≤ R.cells) (hs' : sl' ≤ R.slots)
    (k : ∀ h' b, b = h.size → n0 ≤ b → Ext h h' → Afn Z h' b ty n (fun _ => dv) → W K h' cl' sl' pc' L (.ref b :: st)) : W K h cl sl pc L (.int z :: st) := by
  obtain ⟨⟨p, l', e', R'⟩, ⟨s, m, args, below⟩, ⟨meth, c⟩, Q', n0'⟩ := K
  obtain ⟨hx, hby, hml, hown, hnm, hrt, hlk, hZ, hw, hn0, hl', hR', hn', hQ'⟩ := O
  dsimp only at hx hby hml hown hnm hrt hlk hZ hn0 hl' hR' hn' hQ'
  subst hl' hR' hn' hQ'
  subst hp hc hs hty hdv
  intro T locs X eT N
  obtain ⟨T2, h2, kA, X2, e2, E2, A2, st2⟩ := newP X hx hZ (hw _ w) eT (g := mkF m pc L (.int z :: st)) rfl (hb hby hd) rfl (tnc hz).2 (cap := cap) (by rw [(tnc hz).1]; exact hcap) hb8 hc' hs'
  have hsz : (newA kA (newarray.typeOf aty) z).slots.size = n := by rw [sz_new, (tnc hz).1]
  have hr := (rng32 z).2
  obtain ⟨s2, o, h1, r⟩ := k h2 h.size rfl (Nat.le_trans hn0 (by rw [← eT]; exact X.same.2.1)) E2 ⟨_, A2, hsz, by omega, fun i hi => by show (Array.replicate z.toNatClampNeg (defaultValue (newarray.typeOf aty)))[i]? = _; rw [Array.getElem?_replicate, if_pos (by rw [(tnc hz).1]; exact hi)]⟩ T2 _ X2 e2 N
  exact ⟨s2, o, st2 _ h1, r⟩
theorem w_newarrE (O : Ok K l Z a0 ts B ml rt own nm R n0 Q) {aty : ArrayType} {ty : FieldType} {ad : String} {dv : Value} {z : Int32} {n cap cl' sl' : Nat} (hd : decode B pc = .ok (.newarray aty, 2)) (hp : pc + 2 = pc') (hty : newarray.typeOf aty = ty) (hdv : defaultValue ty = dv) (had : "[" ++ (newarray.typeOf aty).toString = ad) (w : Jvm.Cond.arrayClass ty ∈ ts) (hz : z.toInt = (n : Int)) (hcap : n ≤ cap) (hb8 : cap * 8 ≤ 536870912) (hc : cl + 1 = cl') (hs : sl + cap = sl') (hc' : cl' ≤ R.cells) (hs' : sl' ≤ R.slots)
    (k : ∀ h' b, b = h.size → n0 ≤ b → Ext h h' → Afn Z h' b ty n (fun _ => dv) → Exa Z h' b ad → W K h' cl' sl' pc' L (.ref b :: st)) : W K h cl sl pc L (.int z :: st) := by
  obtain ⟨⟨p, l', e', R'⟩, ⟨s, m, args, below⟩, ⟨meth, c⟩, Q', n0'⟩ := K
  obtain ⟨hx, hby, hml, hown, hnm, hrt, hlk, hZ, hw, hn0, hl', hR', hn', hQ'⟩ := O
  dsimp only at hx hby hml hown hnm hrt hlk hZ hn0 hl' hR' hn' hQ'
  subst hl' hR' hn' hQ'
  subst hp hc hs hty hdv
  intro T locs X eT N
  obtain ⟨T2, h2, kA, X2, e2, E2, A2, Ex2, st2⟩ := newPE X hx hZ (hw _ w) eT (g := mkF m pc L (.int z :: st)) rfl (hb hby hd) rfl (tnc hz).2 (cap := cap) (by rw [(tnc hz).1]; exact hcap) hb8 hc' hs' had
  have hsz : (newA kA (newarray.typeOf aty) z).slots.size = n := by rw [sz_new, (tnc hz).1]
  have hr := (rng32 z).2
  obtain ⟨s2, o, h1, r⟩ := k h2 h.size rfl (Nat.le_trans hn0 (by rw [← eT]; exact X.same.2.1)) E2 ⟨_, A2, hsz, by omega, fun i hi => by show (Array.replicate z.toNatClampNeg (defaultValue (newarray.typeOf aty)))[i]? = _; rw [Array.getElem?_replicate, if_pos (by rw [(tnc hz).1]; exact hi)]⟩ Ex2 T2 _ X2 e2 N
  exact ⟨s2, o, st2 _ h1, r⟩
theorem w_clone (O : Ok K l Z a0 ts B ml rt own nm R n0 Q) {i wt n cap cl' sl' : Nat} {ad : String} {a : Addr} {ty : FieldType} {f : Nat → Value} (hd : decode B pc = .ok (.invokevirtual i, 3)) (hp : pc + 3 = pc') (w1 : Jvm.Cond.methodLink own i ⟨ad, "clone", "()Ljava/lang/Object;"⟩ ∈ ts) (w2 : Jvm.Cond.sameMethod ad "java/lang/Object" "clone" "()Ljava/lang/Object;" ∈ ts) (w3 : Jvm.Cond.native ⟨"java/lang/Object", "clone", "()Ljava/lang/Object;"⟩ ∈ ts) (w4 : Jvm.Cond.instanceMethod ⟨"java/lang/Object", "clone", "()Ljava/lang/Object;"⟩ ∈ ts) (w5 : Jvm.Cond.selects ad ⟨ad, "clone", "()Ljava/lang/Object;"⟩ ⟨"java/lang/Object", "clone", "()Ljava/lang/Object;"⟩ ∈ ts) (w6 : Jvm.Cond.castable ad "java/lang/Cloneable" ∈ ts)
    (A : Afn Z h a ty n f) (E : Exa Z h a ad) (hfit : ∀ i, i < n → fits ty (f i) = true) (hsz : L.size = ml) (hwt : (st.map fun v => v.category).sum = wt) (hf : 1 ≤ R.frames) (hl : wt + 14 ≤ R.locals) (hcap : n ≤ cap) (hc : cl + 1 = cl') (hs : sl + cap = sl') (hc' : cl' ≤ R.cells) (hs' : sl' ≤ R.slots)
    (k : ∀ h' b, b = h.size → n0 ≤ b → Ext h h' → Afn Z h' b ty n f → Exa Z h' b ad → W K h' cl' sl' pc' L (.ref b :: st)) : W K h cl sl pc L (.ref a :: st) := by
  obtain ⟨⟨p, l', e', R'⟩, ⟨s, m, args, below⟩, ⟨meth, c⟩, Q', n0'⟩ := K
  obtain ⟨hx, hby, hml, hown, hnm, hrt, hlk, hZ, hw, hn0, hl', hR', hn', hQ'⟩ := O
  dsimp only at hx hby hml hown hnm hrt hlk hZ hn0 hl' hR' hn' hQ'
  subst hl' hR' hn' hQ'
  subst hp hc hs hml
  intro T locs X eT N
  obtain ⟨cx, A1, h1, h2, h3⟩ := A
  have FC : FitC Z cx := fitC_of A1 fun i hi v hv => by rw [h1] at hi; rw [h3 i hi] at hv; cases hv; exact hfit i hi
  obtain ⟨T2, h4, X2, e2, E2, A2, Ex2, st2⟩ := cloneA X hx hZ hown (hw _ w1) (hw _ w2) (hw _ w3) (hw _ w4) (hw _ w5) (hw _ w6) eT A1 E FC (g := mkF m pc L (.ref a :: st)) rfl hsz rfl (hb hby hd) hf (W := wt) (cap := cap) (by show 2 * 0 + _ ≤ _; omega) hl (by rw [h1]; exact hcap) hc' hs'
  obtain ⟨s2, o, g1, r⟩ := k h4 h.size rfl (Nat.le_trans hn0 (by rw [← eT]; exact X.same.2.1)) E2 ⟨_, A2, h1, h2, h3⟩ Ex2 T2 _ X2 e2 N
  exact ⟨s2, o, st2 _ g1, r⟩
theorem w_cast (O : Ok K l Z a0 ts B ml rt own nm R n0 Q) {i : Nat} {C : String} {a : Addr} (hd : decode B pc = .ok (.checkcast i, 3)) (hp : pc + 3 = pc') (w : Jvm.Cond.classLink own i C ∈ ts) (I : Ins Z h a C true) (k : W K h cl sl pc' L (.ref a :: st)) : W K h cl sl pc L (.ref a :: st) := by
  subst hp
  exact W.stepT (fun T locs X e => castY X O.1 O.2.2.2.2.2.2.2.1 O.2.2.2.1 (O.2.2.2.2.2.2.2.2.1 _ w) e I (g := mkF K.2.1.2.1 pc L (.ref a :: st)) rfl rfl (hb O.2.1 hd)) k
/-- the array at a takes every C -/
def Tk (Z : State) (h : Heap) (a : Addr) (C : String) : Prop := ∃ (c : Cell) (k : Class) (comp : ClassId) (t : FieldType), h[a]? = some c ∧ Z.vm.classes[c.cls]? = some k ∧ k.kind = .array comp t ∧ Z.vm.findClass C = some comp
theorem Tk.lt {a : Addr} {C : String} (F : Tk Z h a C) : a < h.size := by obtain ⟨_, _, _, _, h1, -⟩ := F; exact (Array.getElem?_eq_some_iff.mp h1).1
theorem Tk.ext {h' : Heap} {a : Addr} {C : String} (F : Tk Z h a C) (E : Ext h h') : Tk Z h' a C := by obtain ⟨c, k, cp, t, h1, r⟩ := F; exact ⟨c, k, cp, t, E.2 _ _ h1, r⟩
theorem Tk.wr {h' : Heap} {a b : Addr} {C : String} {i : Nat} {v : Value} (F : Tk Z h a C) (Wq : Wr h h' b i v) : Tk Z h' a C := by
  obtain ⟨c, k, cp, t, h1, h2, r⟩ := F
  obtain ⟨d1, a1, a2, -⟩ := wr_at Wq h1
  exact ⟨d1, k, cp, t, a1, by rw [a2]; exact h2, r⟩
theorem Tk.keep {h' : Heap} {a : Addr} {C : String} {ws : List Addr} (F : Tk Z h a C) (Kp : Keep h h' ws) : Tk Z h' a C := by
  obtain ⟨c, k, cp, t, h1, h2, r⟩ := F
  obtain ⟨d1, a1, a2, -⟩ := Kp.2.2 a c h1
  exact ⟨d1, k, cp, t, a1, by rw [a2]; exact h2, r⟩
theorem Tk.sto {a y : Addr} {C : String} (F : Tk Z h a C) (I : Ins Z h y C true) : Sto Z h a (.ref y) := by
  obtain ⟨cl, k, comp, t, o0, o1, o2, o3⟩ := F
  obtain ⟨cv, cT, i1, i2, i3⟩ := I
  cases o3.symm.trans i2
  simp only [Bool.and_eq_true, Bool.not_eq_true'] at i3
  obtain ⟨kc, q⟩ := Vm.classAt_of_findClass o3
  obtain ⟨kv, q2⟩ := Vm.classAt_of_assignable i3.2 ⟨kc, q⟩
  exact Or.inr ⟨cl, cv, k, kv, kc, _, _, y, o0, o1, o2, q, rfl, i1, i3.1, q2, i3.2⟩
theorem w_anewarrA (O : Ok K l Z a0 ts B ml rt own nm R n0 Q) {i : Nat} {C ad : String} {ty : FieldType} {z : Int32} {n cap cl' sl' : Nat} (hd : decode B pc = .ok (.anewarray i, 3)) (hp : pc + 3 = pc') (hC : (FieldType.array ty).toString = C) (had : "[" ++ C = ad) (w1 : Jvm.Cond.classLink own i C ∈ ts) (w2 : Jvm.Cond.arrayOver (.array ty) ∈ ts) (hz : z.toInt = (n : Int)) (hcap : n ≤ cap) (hb8 : cap * 8 ≤ 536870912) (hc : cl + 1 = cl') (hs : sl + cap = sl') (hc' : cl' ≤ R.cells) (hs' : sl' ≤ R.slots)
    (k : ∀ h' b, b = h.size → n0 ≤ b → Ext h h' → Afn Z h' b (.array ty) n (fun _ => .null) → Exa Z h' b ad → Tk Z h' b C → W K h' cl' sl' pc' L (.ref b :: st)) : W K h cl sl pc L (.int z :: st) := by
  obtain ⟨⟨p, l', e', R'⟩, ⟨s, m, args, below⟩, ⟨meth, c⟩, Q', n0'⟩ := K
  obtain ⟨hx, hby, hml, hown, hnm, hrt, hlk, hZ, hw, hn0, hl', hR', hn', hQ'⟩ := O
  dsimp only at hx hby hml hown hnm hrt hlk hZ hn0 hl' hR' hn' hQ'
  subst hl' hR' hn' hQ'
  subst hp hc hs
  intro T locs X eT N
  obtain ⟨T2, h2, kA, X2, e2, E2, A2, Ex2, Ov2, st2⟩ := newRA X hx hZ hown hC (hw _ w1) (hw _ w2) eT (g := mkF m pc L (.int z :: st)) rfl (hb hby hd) rfl (tnc hz).2 (cap := cap) (by rw [(tnc hz).1]; exact hcap) hb8 hc' hs' had
  have hsz : (newA kA (.array ty) z).slots.size = n := by rw [sz_new, (tnc hz).1]
  have hr := (rng32 z).2
  obtain ⟨ko, cpo, o1, o2, o3⟩ := Ov2
  obtain ⟨s2, o, h1, r⟩ := k h2 h.size rfl (Nat.le_trans hn0 (by rw [← eT]; exact X.same.2.1)) E2 ⟨_, A2, hsz, by omega, fun i hi => by show (Array.replicate z.toNatClampNeg (defaultValue (.array ty)))[i]? = _; rw [Array.getElem?_replicate, if_pos (by rw [(tnc hz).1]; exact hi)]; rfl⟩ Ex2 ⟨_, ko, cpo, _, A2.1, o1, o2, o3⟩ T2 _ X2 e2 N
  exact ⟨s2, o, st2 _ h1, r⟩
theorem w_aastore (O : Ok K l Z a0 ts B ml rt own nm R n0 Q) {a : Addr} {n i : Nat} {f : Nat → Value} {j : Int32} {x : Value} {ty : FieldType} (hd : decode B pc = .ok (.aastore, 1)) (hp : pc + 1 = pc') (A : Afn Z h a ty n f) (hty : ty.isReference = true) (hj : j.toInt = (i : Int)) (hi : i < n) (ha : n0 ≤ a) (St : Sto Z h a x) (k : ∀ h', Wr h h' a i x → W K h' cl sl pc' L st) : W K h cl sl pc L (x :: .int j :: .ref a :: st) := by
  subst hp
  obtain ⟨c, A, h1, h2, h3⟩ := A
  rw [← (tnc hj).1] at k
  exact W.stepW (fun T locs X e => stR X O.1 O.2.2.2.2.2.2.2.1 e A (j := j) (idxOk h1 hj hi) hty St (g := mkF K.2.1.2.1 pc L (x :: .int j :: .ref a :: st)) rfl rfl (hb O.2.1 hd)) (by rw [O.2.2.2.2.2.2.2.2.2.2.2.2.1]; exact ha) k
theorem w_static (O : Ok K l Z a0 ts B ml rt own nm R n0 Q) {i ml' wt cl' sl' : Nat} {y : MethodName} {B' : ByteArray} {rt' : Option FieldType} {rm : Room} {as S : List Value} {Qc : Option Value → Heap → Prop} {sg : MethodDescriptor} (hd : decode B pc = .ok (.invokestatic i, 3)) (hp : pc + 3 = pc') (w1 : Jvm.Cond.methodLink own i y ∈ ts) (w2 : Jvm.Cond.static y ∈ ts) (w3 : Jvm.Cond.initialized y.cls ∈ ts) (w4 : Jvm.Cond.code y B' ml' rt' ∈ ts) (hy : y.cls ≠ "java/lang/invoke/MethodHandle" ∧ y.cls ≠ "java/lang/invoke/VarHandle")
    (con : Con l Z y B' ml' rt' rm as h n0 Qc) (hS : S = as.reverse ++ st) (hsg : parseMethodDescriptor y.desc = some sg) (hlen : as.length = sg.parameters.length) (hwt : (st.map fun v => v.category).sum = wt) (hsz : L.size = ml) (hf : rm.frames + 1 ≤ R.frames) (hl : wt + (ml' + 11) + rm.locals ≤ R.locals) (hc : cl + rm.cells = cl') (hs : sl + rm.slots = sl') (hc' : cl' ≤ R.cells) (hs' : sl' ≤ R.slots) (k : ∀ v h', Qc v h' → W K h' cl' sl' pc' L (v.toList ++ st)) : W K h cl sl pc L S := by
  obtain ⟨⟨p, l', e', R'⟩, ⟨s, m, args, below⟩, ⟨meth, c⟩, Q', n0'⟩ := K
  obtain ⟨hx, hby, hml, hown, hnm, hrt, hlk, hZ, hw, hn0, hl', hR', hn', hQ'⟩ := O
  dsimp only at hx hby hml hown hnm hrt hlk hZ hn0 hl' hR' hn' hQ'
  subst hl' hR' hn' hQ'
  subst hp hc hs hS hml
  intro T locs X eT N
  have hn1 : n0' ≤ h.size := Nat.le_trans hn0 (by rw [← eT]; exact X.same.2.1)
  obtain ⟨_, _, ⟨T', L', k', n'⟩, -, X', ⟨Lc, ⟨hQ, hFr⟩, l1, y1, z1⟩, st1⟩ := Jvm.LawKit.callS X hx (y := y) hown (mvT hZ (hw _ w1)) (mvT hZ (hw _ w2)) (mvT hZ (hw _ w3)) (mvT hZ (hw _ w4)) hy (backOf (W := wt) (Q := fun v h L => Qc v h ∧ Fr n0' L) (con hn1 []) hZ (hw _ w4) (hw _ w3) hf hl) (g := mkF m pc L (as.reverse ++ st)) rfl hsz (argsL := as) (rest := st) (lenOf hsg hlen) rfl (by show 2 * 0 + _ ≤ _; omega) (hb hby hd) (fun _ _ => ⟨rfl, eT, hc', hs'⟩)
  dsimp only [Pt.U, Pt.locs, Pt.cells, Pt.slots] at X' l1 y1 z1 st1 hQ
  subst l1 y1 z1
  obtain ⟨s2, o, h1, r⟩ := k _ T'.heap hQ T' _ X' rfl (Fr.app N hFr)
  exact ⟨s2, o, st1 _ h1, r⟩
theorem w_virtual (O : Ok K l Z a0 ts B ml rt own nm R n0 Q) {i ml' wt cl' sl' : Nat} {y : MethodName} {B' : ByteArray} {rt' : Option FieldType} {rm : Room} {as S : List Value} {Qc : Option Value → Heap → Prop} {sg : MethodDescriptor} {a : Addr} {C : String} (hd : decode B pc = .ok (.invokevirtual i, 3)) (hp : pc + 3 = pc') (w1 : Jvm.Cond.methodLink own i y ∈ ts) (w2 : Jvm.Cond.declares y ∈ ts) (w3 : Jvm.Cond.selects C y y ∈ ts) (w4 : Jvm.Cond.instanceMethod y ∈ ts) (w5 : Jvm.Cond.code y B' ml' rt' ∈ ts) (w6 : Jvm.Cond.initialized y.cls ∈ ts) (hy : y.cls ≠ "java/lang/invoke/MethodHandle" ∧ y.cls ≠ "java/lang/invoke/VarHandle") (E : Exa Z h a C)
    (con : Con l Z y B' ml' rt' rm (.ref a :: as) h n0 Qc) (hS : S = as.reverse ++ .ref a :: st) (hsg : parseMethodDescriptor y.desc = some sg) (hlen : as.length = sg.parameters.length) (hwt : (st.map fun v => v.category).sum = wt) (hsz : L.size = ml) (hf : rm.frames + 1 ≤ R.frames) (hl : wt + (ml' + 11) + rm.locals ≤ R.locals) (hc : cl + rm.cells = cl') (hs : sl + rm.slots = sl') (hc' : cl' ≤ R.cells) (hs' : sl' ≤ R.slots) (k : ∀ v h', Qc v h' → W K h' cl' sl' pc' L (v.toList ++ st)) : W K h cl sl pc L S := by
  obtain ⟨⟨p, l', e', R'⟩, ⟨s, m, args, below⟩, ⟨meth, c⟩, Q', n0'⟩ := K
  obtain ⟨hx, hby, hml, hown, hnm, hrt, hlk, hZ, hw, hn0, hl', hR', hn', hQ'⟩ := O
  dsimp only at hx hby hml hown hnm hrt hlk hZ hn0 hl' hR' hn' hQ'
  subst hl' hR' hn' hQ'
  subst hp hc hs hS hml
  intro T locs X eT N
  have hn1 : n0' ≤ h.size := Nat.le_trans hn0 (by rw [← eT]; exact X.same.2.1)
  obtain ⟨cq, kq, qa, qb, qc⟩ := isOf hZ eT E
  obtain ⟨_, _, ⟨T', L', k', n'⟩, -, X', ⟨Lc, ⟨hQ, hFr⟩, l1, y1, z1⟩, st1⟩ := X.virtualBack hx (y := y) (z := y) hown (mvT hZ (hw _ w1)) (mvT hZ (hw _ w2)) (notFace_of_selects (args := #[]) (mvT hZ (hw _ w3))) (mvT hZ (hw _ w3)) (mvT hZ (hw _ w4)) hy (backOf (W := wt) (Q := fun v h L => Qc v h ∧ Fr n0' L) (con hn1 []) hZ (hw _ w5) (hw _ w6) hf hl) qa qc (g := mkF m pc L (as.reverse ++ .ref a :: st)) rfl hsz (Steps.refl _) (argsL := as) (rest := st) (lenOf hsg hlen) rfl (by show 2 * 0 + _ ≤ _; omega) (hb hby hd) (fun _ _ => ⟨rfl, eT, hc', hs'⟩)
  dsimp only [Pt.U, Pt.locs, Pt.cells, Pt.slots] at X' l1 y1 z1 st1 hQ
  subst l1 y1 z1
  obtain ⟨s2, o, h1, r⟩ := k _ T'.heap hQ T' _ X' rfl (Fr.app N hFr)
  exact ⟨s2, o, st1.trans h1, r⟩
theorem w_private (O : Ok K l Z a0 ts B ml rt own nm R n0 Q) {i ml' wt cl' sl' : Nat} {y : MethodName} {B' : ByteArray} {rt' : Option FieldType} {rm : Room} {as S : List Value} {Qc : Option Value → Heap → Prop} {sg : MethodDescriptor} {kk : Nat} {a : Addr} {C : String} (hd : decode B pc = .ok (.invokevirtual i, 3)) (hp : pc + 3 = pc') (w1 : Jvm.Cond.methodLink own i y ∈ ts) (w2 : Jvm.Cond.instanceMethod y ∈ ts) (w3 : Jvm.Cond.privateMethod y ∈ ts) (w4 : Jvm.Cond.instantiable y.cls kk ∈ ts) (w5 : Jvm.Cond.code y B' ml' rt' ∈ ts) (w6 : Jvm.Cond.initialized y.cls ∈ ts) (hy : y.cls ≠ "java/lang/invoke/MethodHandle" ∧ y.cls ≠ "java/lang/invoke/VarHandle") (E : Exa Z h a C)
    (con : Con l Z y B' ml' rt' rm (.ref a :: as) h n0 Qc) (hS : S = as.reverse ++ .ref a :: st) (hsg : parseMethodDescriptor y.desc = some sg) (hlen : as.length = sg.parameters.length) (hwt : (st.map fun v => v.category).sum = wt) (hsz : L.size = ml) (hf : rm.frames + 1 ≤ R.frames) (hl : wt + (ml' + 11) + rm.locals ≤ R.locals) (hc : cl + rm.cells = cl') (hs : sl + rm.slots = sl') (hc' : cl' ≤ R.cells) (hs' : sl' ≤ R.slots) (k : ∀ v h', Qc v h' → W K h' cl' sl' pc' L (v.toList ++ st)) : W K h cl sl pc L S := by
  obtain ⟨⟨p, l', e', R'⟩, ⟨s, m, args, below⟩, ⟨meth, c⟩, Q', n0'⟩ := K
  obtain ⟨hx, hby, hml, hown, hnm, hrt, hlk, hZ, hw, hn0, hl', hR', hn', hQ'⟩ := O
  dsimp only at hx hby hml hown hnm hrt hlk hZ hn0 hl' hR' hn' hQ'
  subst hl' hR' hn' hQ'
  subst hp hc hs hS hml
  intro T locs X eT N
  have hn1 : n0' ≤ h.size := Nat.le_trans hn0 (by rw [← eT]; exact X.same.2.1)
  obtain ⟨cq, q1, q2⟩ := E.cell
  have hpr : s.PrivateAt y := Cond.privateMethod_at (mvP hZ (hw _ w3) (args := #[]))
  have hsel : (Jvm.Cond.selects y.cls y y).before args s = true := by
    obtain ⟨c1, k1, g1, g2, -, g3, -⟩ := Cond.instantiable_spec (mvT (args := args) hZ (hw _ w4))
    exact selects_self_of_private g1 g2 (by simp at g3; exact g3.1) hpr (mvT hZ (hw _ w2)) hy
  obtain ⟨_, _, ⟨T', L', k', n'⟩, -, X', ⟨Lc, ⟨hQ, hFr⟩, l1, y1, z1⟩, st1⟩ := X.privateBack hx (y := y) hown (mvT hZ (hw _ w1)) (mvT hZ (hw _ w2)) hsel hpr (mvT hZ (hw _ w5)) hy (backOf (W := wt) (Q := fun v h L => Qc v h ∧ Fr n0' L) (con hn1 []) hZ (hw _ w5) (hw _ w6) hf hl) (g := mkF m pc L (as.reverse ++ .ref a :: st)) rfl hsz (Steps.refl _) (a := a) (by rw [eT]; exact q1) q2 (argsL := as) (rest := st) (lenOf hsg hlen) rfl (by show 2 * 0 + _ ≤ _; omega) (hb hby hd) (fun _ _ => ⟨rfl, eT, hc', hs'⟩)
  dsimp only [Pt.U, Pt.locs, Pt.cells, Pt.slots] at X' l1 y1 z1 st1 hQ
  subst l1 y1 z1
  obtain ⟨s2, o, h1, r⟩ := k _ T'.heap hQ T' _ X' rfl (Fr.app N hFr)
  exact ⟨s2, o, st1.trans h1, r⟩
theorem w_init (O : Ok K l Z a0 ts B ml rt own nm R n0 Q) {i ml' wt cl' sl' : Nat} {y : MethodName} {B' : ByteArray} {rm : Room} {as S : List Value} {Qc : Option Value → Heap → Prop} {sg : MethodDescriptor} {a : Addr} (hd : decode B pc = .ok (.invokespecial i, 3)) (hp : pc + 3 = pc') (hin : y.name = "<init>") (w1 : Jvm.Cond.methodLink own i y ∈ ts) (w2 : Jvm.Cond.instanceMethod y ∈ ts) (w3 : Jvm.Cond.initialized y.cls ∈ ts) (w4 : Jvm.Cond.code y B' ml' none ∈ ts) (hy : y.cls ≠ "java/lang/invoke/MethodHandle" ∧ y.cls ≠ "java/lang/invoke/VarHandle")
    (con : Con l Z y B' ml' none rm (.ref a :: as) h n0 Qc) (hS : S = as.reverse ++ .ref a :: st) (hsg : parseMethodDescriptor y.desc = some sg) (hlen : as.length = sg.parameters.length) (hwt : (st.map fun v => v.category).sum = wt) (hsz : L.size = ml) (hf : rm.frames + 1 ≤ R.frames) (hl : wt + (ml' + 11) + rm.locals ≤ R.locals) (hc : cl + rm.cells = cl') (hs : sl + rm.slots = sl') (hc' : cl' ≤ R.cells) (hs' : sl' ≤ R.slots) (k : ∀ v h', Qc v h' → W K h' cl' sl' pc' L (v.toList ++ st)) : W K h cl sl pc L S := by
  obtain ⟨⟨p, l', e', R'⟩, ⟨s, m, args, below⟩, ⟨meth, c⟩, Q', n0'⟩ := K
  obtain ⟨hx, hby, hml, hown, hnm, hrt, hlk, hZ, hw, hn0, hl', hR', hn', hQ'⟩ := O
  dsimp only at hx hby hml hown hnm hrt hlk hZ hn0 hl' hR' hn' hQ'
  subst hl' hR' hn' hQ'
  subst hp hc hs hS hml
  intro T locs X eT N
  have hn1 : n0' ≤ h.size := Nat.le_trans hn0 (by rw [← eT]; exact X.same.2.1)
  obtain ⟨_, _, ⟨T', L', k', n'⟩, -, X', ⟨Lc, ⟨hQ, hFr⟩, l1, y1, z1⟩, st1⟩ := X.specialBack hx (y := y) hin hown (mvT hZ (hw _ w1)) (mvT hZ (hw _ w2)) (mvT hZ (hw _ w4)) hy (backOf (W := wt) (Q := fun v h L => Qc v h ∧ Fr n0' L) (con hn1 []) hZ (hw _ w4) (hw _ w3) hf hl) (g := mkF m pc L (as.reverse ++ .ref a :: st)) rfl hsz (Steps.refl _) (a := a) (argsL := as) (rest := st) (lenOf hsg hlen) rfl (by show 2 * 0 + _ ≤ _; omega) (hb hby hd) (fun _ _ => ⟨rfl, eT, hc', hs'⟩)
  dsimp only [Pt.U, Pt.locs, Pt.cells, Pt.slots] at X' l1 y1 z1 st1 hQ
  subst l1 y1 z1
  obtain ⟨s2, o, h1, r⟩ := k _ T'.heap hQ T' _ X' rfl (Fr.app N hFr)
  exact ⟨s2, o, st1.trans h1, r⟩
theorem w_initB (O : Ok K l Z a0 ts B ml rt own nm R n0 Q) {i ml' wt cl' sl' rc rs : Nat} {y : MethodName} {B' : ByteArray} {as S : List Value} {Qc : Option Value → Heap → List Loc → Prop} {sg : MethodDescriptor} {a : Addr} (hd : decode B pc = .ok (.invokespecial i, 3)) (hp : pc + 3 = pc') (hin : y.name = "<init>") (w1 : Jvm.Cond.methodLink own i y ∈ ts) (w2 : Jvm.Cond.instanceMethod y ∈ ts) (w4 : Jvm.Cond.code y B' ml' none ∈ ts) (hy : y.cls ≠ "java/lang/invoke/MethodHandle" ∧ y.cls ≠ "java/lang/invoke/VarHandle")
    (bk : n0 ≤ h.size → ∀ (p : Program) (e : Env) (below : List Frame) (s : State) (args : Array Value), Z.Warmed39 s.vm → Back l R p e below s args y 3 wt (fun P a' => a' = (Value.ref a :: as).toArray ∧ P.U.heap = h ∧ P.cells + rc ≤ R.cells ∧ P.slots + rs ≤ R.slots) (fun P _ v B => ∃ L, Qc v B.U.heap L ∧ B.locs = P.locs ++ L ∧ B.cells = P.cells + rc ∧ B.slots = P.slots + rs)) (hfr : ∀ v h' L, Qc v h' L → Fr n0 L)
    (hS : S = as.reverse ++ .ref a :: st) (hsg : parseMethodDescriptor y.desc = some sg) (hlen : as.length = sg.parameters.length) (hwt : (st.map fun v => v.category).sum = wt) (hsz : L.size = ml) (hc : cl + rc = cl') (hs : sl + rs = sl') (hc' : cl' ≤ R.cells) (hs' : sl' ≤ R.slots) (k : ∀ v h' Ls, Qc v h' Ls → W K h' cl' sl' pc' L (v.toList ++ st)) : W K h cl sl pc L S := by
  obtain ⟨⟨p, l', e', R'⟩, ⟨s, m, args, below⟩, ⟨meth, c⟩, Q', n0'⟩ := K
  obtain ⟨hx, hby, hml, hown, hnm, hrt, hlk, hZ, hw, hn0, hl', hR', hn', hQ'⟩ := O
  dsimp only at hx hby hml hown hnm hrt hlk hZ hn0 hl' hR' hn' hQ'
  subst hl' hR' hn' hQ'
  subst hp hc hs hS hml
  intro T locs X eT N
  have hn1 : n0' ≤ h.size := Nat.le_trans hn0 (by rw [← eT]; exact X.same.2.1)
  obtain ⟨_, _, ⟨T', L', k', n'⟩, -, X', ⟨Lc, hQ, l1, y1, z1⟩, st1⟩ := X.specialBack hx (y := y) hin hown (mvT hZ (hw _ w1)) (mvT hZ (hw _ w2)) (mvT hZ (hw _ w4)) hy (bk hn1 p e' below s args hZ) (g := mkF m pc L (as.reverse ++ .ref a :: st)) rfl hsz (Steps.refl _) (a := a) (argsL := as) (rest := st) (lenOf hsg hlen) rfl (by show 2 * 0 + _ ≤ _; omega) (hb hby hd) (fun _ _ => ⟨rfl, eT, hc', hs'⟩)
  dsimp only [Pt.U, Pt.locs, Pt.cells, Pt.slots] at X' l1 y1 z1 st1 hQ
  subst l1 y1 z1
  obtain ⟨s2, o, h1, r⟩ := k _ T'.heap _ hQ T' _ X' rfl (Fr.app N (hfr _ _ _ hQ))
  exact ⟨s2, o, st1.trans h1, r⟩
theorem Afn.arv {a : Addr} {ty : FieldType} {n : Nat} {f : Nat → Value} {N : Int32} {vs : List Value} {d : Value} (A : Afn Z h a ty n f) (hN : N.toInt = (n : Int)) (hv : ∀ i, i < n → vs.getD i d = f i) (hf : ∀ i, i < n → fits ty (f i) = true) : ∃ k, Arv Z h a k ty N vs d := by
  obtain ⟨c, A, h1, h2, h3⟩ := A
  refine ⟨c.cls, c, A, rfl, by rw [h1, (tnc hN).1], (tnc hN).2, fun i hi => ?_, fun i hi => ?_⟩
  · rw [h1] at hi; rw [hv i hi]; exact h3 i hi
  · rw [h1] at hi; rw [hv i hi]; exact hf i hi
theorem w_reti {x : Int32} (O : Ok K l Z a0 ts B ml (some .int) own nm R n0 Q) (hd : decode B pc = .ok (.ireturn, 1)) (hc : cl ≤ R.cells) (hs : sl ≤ R.slots) (hq : Q (some (.int x)) h) : W K h cl sl pc L (.int x :: st) := by
  obtain ⟨⟨p, l', e', R'⟩, ⟨s, m, args, below⟩, ⟨meth, c⟩, Q', n0'⟩ := K
  obtain ⟨hx, hby, hml, hown, hnm, hrt, hlk, hZ, hw, hn0, hl', hR', hn', hQ'⟩ := O
  dsimp only at hx hby hml hown hnm hrt hlk hZ hn0 hl' hR' hn' hQ'
  subst hl' hR' hn' hQ'
  intro T locs X eT N
  obtain ⟨fs, hr, hrun, hended, hW, hsame⟩ := X.leave (v := some (.int x)) (fun q => by rw [hrt] at q; cases q) hlk
  refine ⟨_, _, retOut X hx hrt rfl (Or.inl ⟨rfl, Or.inl rfl, _, rfl⟩) (hb hby hd) hr, hrun, hended, _, _, rfl, ⟨?_, N⟩, ⟨_, rfl⟩, hW, hsame.mono hc hs⟩
  show Q' _ T.heap
  rw [eT]; exact hq
theorem w_retz {x : Int32} (O : Ok K l Z a0 ts B ml (some .boolean) own nm R n0 Q) (hd : decode B pc = .ok (.ireturn, 1)) (hc : cl ≤ R.cells) (hs : sl ≤ R.slots) (hz : x = 0 ∨ x = 1) (hq : Q (some (.int x)) h) : W K h cl sl pc L (.int x :: st) := by
  have hna : narrow .boolean (.int x) = .int x := by rcases hz with rfl | rfl <;> rfl
  obtain ⟨⟨p, l', e', R'⟩, ⟨s, m, args, below⟩, ⟨meth, c⟩, Q', n0'⟩ := K
  obtain ⟨hx, hby, hml, hown, hnm, hrt, hlk, hZ, hw, hn0, hl', hR', hn', hQ'⟩ := O
  dsimp only at hx hby hml hown hnm hrt hlk hZ hn0 hl' hR' hn' hQ'
  subst hl' hR' hn' hQ'
  intro T locs X eT N
  obtain ⟨fs, hr, hrun, hended, hW, hsame⟩ := X.leave (v := some (.int x)) (fun q => by rw [hrt] at q; cases q) hlk
  refine ⟨_, _, retOut X hx hrt hna (Or.inl ⟨rfl, Or.inr (Or.inl rfl), _, rfl⟩) (hb hby hd) hr, hrun, hended, _, _, rfl, ⟨?_, N⟩, ⟨_, rfl⟩, hW, hsame.mono hc hs⟩
  show Q' _ T.heap
  rw [eT]; exact hq
theorem w_retl {x : Int64} (O : Ok K l Z a0 ts B ml (some .long) own nm R n0 Q) (hd : decode B pc = .ok (.lreturn, 1)) (hc : cl ≤ R.cells) (hs : sl ≤ R.slots) (hq : Q (some (.long x)) h) : W K h cl sl pc L (.long x :: st) := by
  obtain ⟨⟨p, l', e', R'⟩, ⟨s, m, args, below⟩, ⟨meth, c⟩, Q', n0'⟩ := K
  obtain ⟨hx, hby, hml, hown, hnm, hrt, hlk, hZ, hw, hn0, hl', hR', hn', hQ'⟩ := O
  dsimp only at hx hby hml hown hnm hrt hlk hZ hn0 hl' hR' hn' hQ'
  subst hl' hR' hn' hQ'
  intro T locs X eT N
  obtain ⟨fs, hr, hrun, hended, hW, hsame⟩ := X.leave (v := some (.long x)) (fun q => by rw [hrt] at q; cases q) hlk
  refine ⟨_, _, retOut X hx hrt rfl (Or.inr (Or.inl ⟨rfl, rfl, _, rfl⟩)) (hb hby hd) hr, hrun, hended, _, _, rfl, ⟨?_, N⟩, ⟨_, rfl⟩, hW, hsame.mono hc hs⟩
  show Q' _ T.heap
  rw [eT]; exact hq
theorem w_reta {x : Value} {t : FieldType} (O : Ok K l Z a0 ts B ml (some t) own nm R n0 Q) (hd : decode B pc = .ok (.areturn, 1)) (ht : t.isReference = true) (hna : narrow t x = x) (hx' : x.isRef = true) (hc : cl ≤ R.cells) (hs : sl ≤ R.slots) (hq : Q (some x) h) : W K h cl sl pc L (x :: st) := by
  obtain ⟨⟨p, l', e', R'⟩, ⟨s, m, args, below⟩, ⟨meth, c⟩, Q', n0'⟩ := K
  obtain ⟨hx, hby, hml, hown, hnm, hrt, hlk, hZ, hw, hn0, hl', hR', hn', hQ'⟩ := O
  dsimp only at hx hby hml hown hnm hrt hlk hZ hn0 hl' hR' hn' hQ'
  subst hl' hR' hn' hQ'
  intro T locs X eT N
  obtain ⟨fs, hr, hrun, hended, hW, hsame⟩ := X.leave (v := some x) (fun q => by rw [hrt] at q; cases q) hlk
  refine ⟨_, _, retOut X hx hrt hna (Or.inr (Or.inr (Or.inr (Or.inr ⟨rfl, ht, hx'⟩)))) (hb hby hd) hr, hrun, hended, _, _, rfl, ⟨?_, N⟩, ⟨_, rfl⟩, hW, hsame.mono hc hs⟩
  show Q' _ T.heap
  rw [eT]; exact hq
theorem w_retv (O : Ok K l Z a0 ts B ml none own nm R n0 Q) (hd : decode B pc = .ok (.return_, 1)) (hc : cl ≤ R.cells) (hs : sl ≤ R.slots) (hq : Q none h) : W K h cl sl pc L [] := by
  obtain ⟨⟨p, l', e', R'⟩, ⟨s, m, args, below⟩, ⟨meth, c⟩, Q', n0'⟩ := K
  obtain ⟨hx, hby, hml, hown, hnm, hrt, hlk, hZ, hw, hn0, hl', hR', hn', hQ'⟩ := O
  dsimp only at hx hby hml hown hnm hrt hlk hZ hn0 hl' hR' hn' hQ'
  subst hl' hR' hn' hQ'
  intro T locs X eT N
  obtain ⟨fs, hr, hrun, hended, hW, hsame⟩ := X.leave (v := none) (fun _ => rfl) hlk
  refine ⟨_, _, X.returnOut hx hrt (hb hby hd) hr, hrun, hended, _, _, rfl, ⟨?_, N⟩, ⟨_, rfl⟩, hW, hsame.mono hc hs⟩
  show Q' _ T.heap
  rw [eT]; exact hq
theorem nz32 {y : Int32} (q : ¬ y.toInt = 0) : y ≠ 0 := by rintro rfl; exact q (by decide)
theorem nz64 {y : Int64} (q : ¬ y.toInt = 0) : y ≠ 0 := by rintro rfl; exact q (by decide)
theorem of_nat32 {q : Int32} {n : Nat} (hn : q.toInt = (n : Int)) : q = Int32.ofNat n := by
  have h1 := rng32 q
  apply Int32.toInt_inj.mp
  rw [hn, Int32.toInt_ofNat_of_lt (by omega)]
theorem c_lremP (x y : Int64) (d : Int) (hy : y.toInt = d) : (0 ≤ x.toInt → (x % y).toInt = x.toInt % d) ∧ (x.toInt < 0 → (x % y).toInt = -((-x.toInt) % d)) := by rw [← lrem_mod]; exact c_lrem x y d hy
end OwnW

theorem mw {d : Jvm.Cond} (k : Nat) (q : tables_1[k]? = some d) : d ∈ tables_1 := List.mem_of_getElem? q
def updL (g : Nat → Int64) (i : Nat) (v : Int64) : Nat → Int64 := fun j => if j = i then v else g j
theorem updL_eq (g : Nat → Int64) (i : Nat) (v : Int64) (j : Nat) : upd (fun j => .long (g j)) i (.long v) j = .long (updL g i v j) := by unfold upd updL; split <;> rfl
def cntp (g : Nat → Int64) : Nat → Nat
  | 0 => 0
  | k + 1 => cntp g k + if (g k).toInt < 0 then 0 else 1
def Two (s t : Slot) : Prop := (s = .unset ∧ t = .unset) ∨ ∃ y, s = .val (.long y) ∧ t = .second
def Bt (Z : State) (h : Heap) (n0 : Nat) (a p q : Addr) (n : Nat) (f g : Nat → Int64) : Prop := Exa Z h a "com/example/ledgerline/ledgerline/service/BenchTimes" ∧ Fld Z h a "com/example/ledgerline/ledgerline/service/BenchTimes" "handed" "[J" (.ref p) ∧ Fld Z h a "com/example/ledgerline/ledgerline/service/BenchTimes" "latencies" "[J" (.ref q) ∧ Afn Z h p .long n (fun j => .long (f j)) ∧ Afn Z h q .long n (fun j => .long (g j)) ∧ a ≠ p ∧ a ≠ q ∧ p ≠ q ∧ n0 ≤ a ∧ n0 ≤ p ∧ n0 ≤ q
theorem d3_0 : decode jdk_65_method_101_code 0 = .ok (.iconst 0, 1) := by decide +kernel
theorem d3_1 : decode jdk_65_method_101_code 1 = .ok (.istore_n 3, 1) := by decide +kernel
theorem d3_2 : decode jdk_65_method_101_code 2 = .ok (.aload_n 0, 1) := by decide +kernel
theorem d3_3 : decode jdk_65_method_101_code 3 = .ok (.arraylength, 1) := by decide +kernel
theorem d3_4 : decode jdk_65_method_101_code 4 = .ok (.istore 4, 2) := by decide +kernel
theorem d3_6 : decode jdk_65_method_101_code 6 = .ok (.iload_n 3, 1) := by decide +kernel
theorem d3_7 : decode jdk_65_method_101_code 7 = .ok (.iload 4, 2) := by decide +kernel
theorem d3_9 : decode jdk_65_method_101_code 9 = .ok (.if_icmp .ge 13, 3) := by decide +kernel
theorem d3_12 : decode jdk_65_method_101_code 12 = .ok (.aload_n 0, 1) := by decide +kernel
theorem d3_13 : decode jdk_65_method_101_code 13 = .ok (.iload_n 3, 1) := by decide +kernel
theorem d3_14 : decode jdk_65_method_101_code 14 = .ok (.lload_n 1, 1) := by decide +kernel
theorem d3_15 : decode jdk_65_method_101_code 15 = .ok (.lastore, 1) := by decide +kernel
theorem d3_16 : decode jdk_65_method_101_code 16 = .ok (.iinc 3 1, 3) := by decide +kernel
theorem d3_19 : decode jdk_65_method_101_code 19 = .ok (.goto (-13), 3) := by decide +kernel
theorem d3_22 : decode jdk_65_method_101_code 22 = .ok (.return_, 1) := by decide +kernel
theorem pn_3 : plainFor (⟨"java/util/Arrays", "fill", "([JJ)V"⟩ : MethodName) = true := plainFor_of_name (by first | (simp [plainName, overriddenIn]; done) | decide +kernel)
set_option maxRecDepth 65536 in
set_option maxHeartbeats 40000000 in
theorem con_fill (l : Launch) (Z : State) (a0 : Array Value) (hw : ∀ d ∈ tables_1, d.before a0 Z = true) (w : Addr) (v : Int64) (h0 : Heap) (n0 : Nat) (n : Nat) (f : Nat → Value) (A0 : Afn Z h0 w .long n f) (gw : n0 ≤ w) (z : Int32) (hz : z.toInt = (n : Int)) :
    Con l Z (⟨"java/util/Arrays", "fill", "([JJ)V"⟩ : MethodName) jdk_65_method_101_code 5 none ⟨0, 0, 0, 0⟩ [(.ref w), (.long v)] h0 n0 (RetV fun h => Afn Z h w .long n (fun _ => .long v) ∧ Keep h0 h [w]) := by
  refine Con.body (L0 := #[.val (.ref w), .val (.long v), .second, .unset, .unset]) hw pn_3 (fun m => by first | (simp [entryFrame, mkF, argsToLocals, Value.category]; done) | rfl) (fun K O => ?_)
  have hb := A0.bound
  have loop : ∀ (d k : Nat) (i : Int32) (h : Heap), i.toInt = (k : Int) → k + d = n → Afn Z h w .long n (fun j => if j < k then .long v else f j) → Keep h0 h [w] → W K h 0 0 6 #[.val (.ref w), .val (.long v), .second, .val (.int i), .val (.int z)] [] := by
    intro d
    induction d with
    | zero =>
      intro k i h hi hk A Kp
      refine w_iloadN O d3_6 (pc' := 7) rfl rfl ?_
      refine w_iload O d3_7 (pc' := 9) rfl rfl ?_
      refine w_icmp_ge O d3_9 (pn := 12) (pt := 22) rfl (by decide) rfl (fun c9 => ?_) (fun c9 => absurd (show i.toInt < z.toInt from c9) (by omega))
      refine w_retv O d3_22 (by decide) (by decide) ?_
      exact ⟨rfl, A.congr (fun j hj => if_pos (by omega)), Kp⟩
    | succ d ih =>
      intro k i h hi hk A Kp
      refine w_iloadN O d3_6 (pc' := 7) rfl rfl ?_
      refine w_iload O d3_7 (pc' := 9) rfl rfl ?_
      refine w_icmp_ge O d3_9 (pn := 12) (pt := 22) rfl (by decide) rfl (fun c9 => absurd (show ¬ i.toInt < z.toInt from c9) (by omega)) (fun c9 => ?_)
      refine w_aloadN O d3_12 (pc' := 13) rfl rfl rfl ?_
      refine w_iloadN O d3_13 (pc' := 14) rfl rfl ?_
      refine w_lloadN O d3_14 (pc' := 15) rfl rfl ?_
      refine w_lastore O d3_15 (i := k) (pc' := 16) rfl A hi (by omega) gw (fun h1 Wh1 => ?_)
      have A_h1 := A.set Wh1
      refine w_iincG O d3_16 (y := (1 : Int32)) (L' := fun zq => #[.val (.ref w), .val (.long v), .second, .val (.int zq), .val (.int z)]) (pc' := 19) rfl rfl rfl (fun _ => rfl) (fun t2 e_t2 => ?_)
      have i3 : ((i + (1 : Int32)).toInt - (i.toInt + 1)) % 4294967296 = 0 := c_iadd i (1 : Int32)
      have i4 := rng32 (i + (1 : Int32))
      have j_t2 := congrArg Int32.toInt e_t2
      refine w_goto O d3_19 (pc' := 6) (by decide) rfl ?_
      refine ih (k + 1) t2 h1 (by omega) (by omega) (A_h1.congr fun j hj => ?_) (Kp.wr Wh1 (Or.inl (by simp)))
      unfold upd
      by_cases q1 : j = k
      · simp [q1]
      · rw [if_neg q1]
        try dsimp only
        by_cases q2 : j < k
        · rw [if_pos q2, if_pos (by omega)]
        · rw [if_neg q2, if_neg (by omega)]
  refine w_iconst O d3_0 (z := (0 : Int32)) (pc' := 1) rfl rfl ?_
  refine w_istoreN O d3_1 (L' := #[.val (.ref w), .val (.long v), .second, .val (.int (0 : Int32)), .unset]) (pc' := 2) rfl rfl ?_
  refine w_aloadN O d3_2 (pc' := 3) rfl rfl rfl ?_
  refine w_alen O d3_3 (z := z) (pc' := 4) rfl A0 hz ?_
  refine w_istore O d3_4 (L' := #[.val (.ref w), .val (.long v), .second, .val (.int (0 : Int32)), .val (.int z)]) (pc' := 6) rfl rfl ?_
  exact loop n 0 _ h0 (by decide) (by omega) (A0.congr fun j hj => (if_neg (by omega)).symm) (Keep.refl _ _)
theorem d1_0 : decode prog_55_method_1_code 0 = .ok (.aload_n 0, 1) := by decide +kernel
theorem d1_1 : decode prog_55_method_1_code 1 = .ok (.invokespecial 1, 3) := by decide +kernel
theorem d1_4 : decode prog_55_method_1_code 4 = .ok (.aload_n 0, 1) := by decide +kernel
theorem d1_5 : decode prog_55_method_1_code 5 = .ok (.iload_n 1, 1) := by decide +kernel
theorem d1_6 : decode prog_55_method_1_code 6 = .ok (.newarray .long, 2) := by decide +kernel
theorem d1_8 : decode prog_55_method_1_code 8 = .ok (.putfield 7, 3) := by decide +kernel
theorem d1_11 : decode prog_55_method_1_code 11 = .ok (.aload_n 0, 1) := by decide +kernel
theorem d1_12 : decode prog_55_method_1_code 12 = .ok (.iload_n 1, 1) := by decide +kernel
theorem d1_13 : decode prog_55_method_1_code 13 = .ok (.newarray .long, 2) := by decide +kernel
theorem d1_15 : decode prog_55_method_1_code 15 = .ok (.putfield 13, 3) := by decide +kernel
theorem d1_18 : decode prog_55_method_1_code 18 = .ok (.aload_n 0, 1) := by decide +kernel
theorem d1_19 : decode prog_55_method_1_code 19 = .ok (.getfield 13, 3) := by decide +kernel
theorem d1_22 : decode prog_55_method_1_code 22 = .ok (.ldc2_w 16, 3) := by decide +kernel
theorem d1_25 : decode prog_55_method_1_code 25 = .ok (.invokestatic 18, 3) := by decide +kernel
theorem d1_28 : decode prog_55_method_1_code 28 = .ok (.return_, 1) := by decide +kernel
theorem pn_1 : plainFor (⟨"com/example/ledgerline/ledgerline/service/BenchTimes", "<init>", "(I)V"⟩ : MethodName) = true := plainFor_of_name (by first | (simp [plainName, overriddenIn]; done) | decide +kernel)
theorem pd_0 : parseMethodDescriptor "([JJ)V" = some ⟨[(.array .long), .long], none⟩ := by decide +kernel
set_option maxRecDepth 65536 in
set_option maxHeartbeats 40000000 in
theorem con_init (l : Launch) (Z : State) (a0 : Array Value) (hw : ∀ d ∈ tables_1, d.before a0 Z = true) (a : Addr) (z : Int32) (h0 : Heap) (n0 : Nat) (n : Nat) (hz : z.toInt = (n : Int)) (h4 : n ≤ 4) (hE : Exa Z h0 a "com/example/ledgerline/ledgerline/service/BenchTimes") (hH : Fld Z h0 a "com/example/ledgerline/ledgerline/service/BenchTimes" "handed" "[J" .null) (hL : Fld Z h0 a "com/example/ledgerline/ledgerline/service/BenchTimes" "latencies" "[J" .null) (ga : n0 ≤ a) :
    Con l Z (⟨"com/example/ledgerline/ledgerline/service/BenchTimes", "<init>", "(I)V"⟩ : MethodName) prog_55_method_1_code 2 none ⟨1, 2, 8, 16⟩ [(.ref a), (.int z)] h0 n0 (RetV fun h => ∃ p q, Bt Z h n0 a p q n (fun _ => 0) (fun _ => -1)) := by
  refine Con.body (L0 := #[.val (.ref a), .val (.int z)]) hw pn_1 (fun m => by first | (simp [entryFrame, mkF, argsToLocals, Value.category]; done) | rfl) (fun K O => ?_)
  refine w_aloadN O d1_0 (pc' := 1) rfl rfl rfl ?_
  refine w_objinit O d1_1 (wt := 0) (pc' := 4) rfl (mw 6 rfl) (mw 7 rfl) (mw 8 rfl) rfl rfl (by decide) (by decide) ?_
  refine w_aloadN O d1_4 (pc' := 5) rfl rfl rfl ?_
  refine w_iloadN O d1_5 (pc' := 6) rfl rfl ?_
  refine w_newarr O d1_6 (ty := .long) (dv := (.long (0 : Int64))) (n := n) (cap := 4) (cl' := 1) (sl' := 4) (pc' := 8) rfl rfl rfl (mw 9 rfl) hz h4 (by decide) rfl rfl (by decide) (by decide) (fun h1 p qp g_p Eh1 A_p => ?_)
  have ne_a_p : a ≠ p := Nat.ne_of_lt (by rw [qp]; exact hE.lt)
  have hE_h1 := Exa.ext Eh1 hE
  have hH_h1 := Fld.ext Eh1 hH
  have hL_h1 := Fld.ext Eh1 hL
  refine w_putf O d1_8 (pc' := 11) rfl (mw 10 rfl) (mw 1 rfl) (Or.inr ⟨(mw 11 rfl), rfl, rfl⟩) hH_h1 hE_h1 ga (ty := (.array .long)) (by decide) rfl rfl (fun h3 Wh3 => ?_)
  have hE_h3 := hE_h1.wr Wh3
  have hH_h3 := Fld.same Wh3 hH_h1
  have hL_h3 := Fld.other Wh3 hL_h1 (Or.inr (Jvm.RoadKit.slot_ne (Or.inr (O.2.2.2.2.2.2.2.2.1 _ (mw 13 rfl))) (Or.inr (O.2.2.2.2.2.2.2.2.1 _ (mw 11 rfl))) (by decide) (t := (.array .long)) (t' := (.array .long)) (by decide) (by decide)))
  have A_p_h3 := A_p.other Wh3 (Ne.symm ne_a_p)
  refine w_aloadN O d1_11 (pc' := 12) rfl rfl rfl ?_
  refine w_iloadN O d1_12 (pc' := 13) rfl rfl ?_
  refine w_newarr O d1_13 (ty := .long) (dv := (.long (0 : Int64))) (n := n) (cap := 4) (cl' := 2) (sl' := 8) (pc' := 15) rfl rfl rfl (mw 9 rfl) hz h4 (by decide) rfl rfl (by decide) (by decide) (fun h4 q qq g_q Eh4 A_q => ?_)
  have ne_a_q : a ≠ q := Nat.ne_of_lt (by rw [qq]; exact hE_h3.lt)
  have ne_p_q : p ≠ q := Nat.ne_of_lt (by rw [qq]; exact A_p_h3.lt)
  have hE_h4 := Exa.ext Eh4 hE_h3
  have hH_h4 := Fld.ext Eh4 hH_h3
  have hL_h4 := Fld.ext Eh4 hL_h3
  have A_p_h4 := A_p_h3.ext Eh4
  refine w_putf O d1_15 (pc' := 18) rfl (mw 12 rfl) (mw 1 rfl) (Or.inr ⟨(mw 13 rfl), rfl, rfl⟩) hL_h4 hE_h4 ga (ty := (.array .long)) (by decide) rfl rfl (fun h6 Wh6 => ?_)
  have hE_h6 := hE_h4.wr Wh6
  have hH_h6 := Fld.other Wh6 hH_h4 (Or.inr (Jvm.RoadKit.slot_ne (Or.inr (O.2.2.2.2.2.2.2.2.1 _ (mw 11 rfl))) (Or.inr (O.2.2.2.2.2.2.2.2.1 _ (mw 13 rfl))) (by decide) (t := (.array .long)) (t' := (.array .long)) (by decide) (by decide)))
  have hL_h6 := Fld.same Wh6 hL_h4
  have A_p_h6 := A_p_h4.other Wh6 (Ne.symm ne_a_p)
  have A_q_h6 := A_q.other Wh6 (Ne.symm ne_a_q)
  refine w_aloadN O d1_18 (pc' := 19) rfl rfl rfl ?_
  refine w_getf O d1_19 (pc' := 22) rfl (mw 12 rfl) hL_h6 ?_
  refine w_ldc2 O d1_22 (pc' := 25) rfl (mw 14 rfl) ?_
  refine w_static O d1_25 (as := [(.ref q), (.long (-1 : Int64))]) (st := []) (wt := 0) (cl' := 2) (sl' := 8) (pc' := 28) rfl (mw 15 rfl) (mw 16 rfl) (mw 17 rfl) (mw 18 rfl) (by decide) (con_fill l Z a0 hw q (-1 : Int64) h6 n0 n _ A_q_h6 g_q z hz) rfl pd_0 rfl rfl rfl (by decide) (by decide) rfl rfl (by decide) (by decide) (cV fun h7 ⟨Ah7, Kh7⟩ => ?_)
  have hE_h7 := hE_h6.keep Kh7
  have hH_h7 := hH_h6.keep Kh7 (ninS ne_a_q nin0)
  have hL_h7 := hL_h6.keep Kh7 (ninS ne_a_q nin0)
  have A_p_h7 := A_p_h6.keep Kh7 (ninS ne_p_q nin0)
  refine w_retv O d1_28 (by decide) (by decide) ?_
  exact ⟨rfl, p, q, hE_h7, hH_h7, hL_h7, A_p_h7, Ah7, ne_a_p, ne_a_q, ne_p_q, ga, g_p, g_q⟩
theorem d5_0 : decode prog_55_method_2_code 0 = .ok (.aload_n 0, 1) := by decide +kernel
theorem d5_1 : decode prog_55_method_2_code 1 = .ok (.getfield 7, 3) := by decide +kernel
theorem d5_4 : decode prog_55_method_2_code 4 = .ok (.iload_n 1, 1) := by decide +kernel
theorem d5_5 : decode prog_55_method_2_code 5 = .ok (.lload_n 2, 1) := by decide +kernel
theorem d5_6 : decode prog_55_method_2_code 6 = .ok (.lastore, 1) := by decide +kernel
theorem d5_7 : decode prog_55_method_2_code 7 = .ok (.return_, 1) := by decide +kernel
theorem pn_5 : plainFor (⟨"com/example/ledgerline/ledgerline/service/BenchTimes", "handed", "(IJ)V"⟩ : MethodName) = true := plainFor_of_name (by first | (simp [plainName, overriddenIn]; done) | decide +kernel)
set_option maxRecDepth 65536 in
set_option maxHeartbeats 40000000 in
theorem con_handed (l : Launch) (Z : State) (a0 : Array Value) (hw : ∀ d ∈ tables_1, d.before a0 Z = true) (a p q : Addr) (n : Nat) (f g : Nat → Int64) (i : Int32) (v : Int64) (h0 : Heap) (n0 : Nat) (S : Bt Z h0 n0 a p q n f g) (k : Nat) (hi : i.toInt = (k : Int)) (hk : k < n) :
    Con l Z (⟨"com/example/ledgerline/ledgerline/service/BenchTimes", "handed", "(IJ)V"⟩ : MethodName) prog_55_method_2_code 4 none ⟨0, 0, 0, 0⟩ [(.ref a), (.int i), (.long v)] h0 n0 (RetV fun h => Bt Z h n0 a p q n (updL f k v) g) := by
  refine Con.body (L0 := #[.val (.ref a), .val (.int i), .val (.long v), .second]) hw pn_5 (fun m => by first | (simp [entryFrame, mkF, argsToLocals, Value.category]; done) | rfl) (fun K O => ?_)
  obtain ⟨hE, hH, hL, hP, hQ, ne1, ne2, ne3, ga, gp, gq⟩ := S
  have hb := hP.bound
  refine w_aloadN O d5_0 (pc' := 1) rfl rfl rfl ?_
  refine w_getf O d5_1 (pc' := 4) rfl (mw 10 rfl) hH ?_
  refine w_iloadN O d5_4 (pc' := 5) rfl rfl ?_
  refine w_lloadN O d5_5 (pc' := 6) rfl rfl ?_
  refine w_lastore O d5_6 (i := k) (pc' := 7) rfl hP hi hk gp (fun h1 Wh1 => ?_)
  have hE_h1 := hE.wr Wh1
  have hH_h1 := Fld.other Wh1 hH (Or.inl ne1)
  have hL_h1 := Fld.other Wh1 hL (Or.inl ne1)
  have hP_h1 := hP.set Wh1
  have hQ_h1 := hQ.other Wh1 (Ne.symm ne3)
  refine w_retv O d5_7 (by decide) (by decide) ?_
  exact ⟨rfl, ⟨hE_h1, hH_h1, hL_h1, (hP_h1.congr fun j _ => updL_eq _ _ _ j), hQ_h1, ne1, ne2, ne3, ga, gp, gq⟩⟩
theorem d7_0 : decode prog_55_method_3_code 0 = .ok (.aload_n 0, 1) := by decide +kernel
theorem d7_1 : decode prog_55_method_3_code 1 = .ok (.getfield 13, 3) := by decide +kernel
theorem d7_4 : decode prog_55_method_3_code 4 = .ok (.iload_n 1, 1) := by decide +kernel
theorem d7_5 : decode prog_55_method_3_code 5 = .ok (.lload_n 2, 1) := by decide +kernel
theorem d7_6 : decode prog_55_method_3_code 6 = .ok (.aload_n 0, 1) := by decide +kernel
theorem d7_7 : decode prog_55_method_3_code 7 = .ok (.getfield 7, 3) := by decide +kernel
theorem d7_10 : decode prog_55_method_3_code 10 = .ok (.iload_n 1, 1) := by decide +kernel
theorem d7_11 : decode prog_55_method_3_code 11 = .ok (.laload, 1) := by decide +kernel
theorem d7_12 : decode prog_55_method_3_code 12 = .ok (.lsub, 1) := by decide +kernel
theorem d7_13 : decode prog_55_method_3_code 13 = .ok (.lastore, 1) := by decide +kernel
theorem d7_14 : decode prog_55_method_3_code 14 = .ok (.return_, 1) := by decide +kernel
theorem pn_7 : plainFor (⟨"com/example/ledgerline/ledgerline/service/BenchTimes", "acknowledged", "(IJ)V"⟩ : MethodName) = true := plainFor_of_name (by first | (simp [plainName, overriddenIn]; done) | decide +kernel)
set_option maxRecDepth 65536 in
set_option maxHeartbeats 40000000 in
theorem con_acked (l : Launch) (Z : State) (a0 : Array Value) (hw : ∀ d ∈ tables_1, d.before a0 Z = true) (a p q : Addr) (n : Nat) (f g : Nat → Int64) (i : Int32) (v : Int64) (h0 : Heap) (n0 : Nat) (S : Bt Z h0 n0 a p q n f g) (k : Nat) (hi : i.toInt = (k : Int)) (hk : k < n) :
    Con l Z (⟨"com/example/ledgerline/ledgerline/service/BenchTimes", "acknowledged", "(IJ)V"⟩ : MethodName) prog_55_method_3_code 4 none ⟨0, 0, 0, 0⟩ [(.ref a), (.int i), (.long v)] h0 n0 (RetV fun h => Bt Z h n0 a p q n f (updL g k (v - f k))) := by
  refine Con.body (L0 := #[.val (.ref a), .val (.int i), .val (.long v), .second]) hw pn_7 (fun m => by first | (simp [entryFrame, mkF, argsToLocals, Value.category]; done) | rfl) (fun K O => ?_)
  obtain ⟨hE, hH, hL, hP, hQ, ne1, ne2, ne3, ga, gp, gq⟩ := S
  have hb := hP.bound
  refine w_aloadN O d7_0 (pc' := 1) rfl rfl rfl ?_
  refine w_getf O d7_1 (pc' := 4) rfl (mw 12 rfl) hL ?_
  refine w_iloadN O d7_4 (pc' := 5) rfl rfl ?_
  refine w_lloadN O d7_5 (pc' := 6) rfl rfl ?_
  refine w_aloadN O d7_6 (pc' := 7) rfl rfl rfl ?_
  refine w_getf O d7_7 (pc' := 10) rfl (mw 10 rfl) hH ?_
  refine w_iloadN O d7_10 (pc' := 11) rfl rfl ?_
  refine w_laload O d7_11 (i := k) (x := (f k)) (pc' := 12) rfl hP hi hk rfl ?_
  refine w_lsub O d7_12 (pc' := 13) rfl ?_
  refine w_lastore O d7_13 (i := k) (pc' := 14) rfl hQ hi hk gq (fun h1 Wh1 => ?_)
  have hE_h1 := hE.wr Wh1
  have hH_h1 := Fld.other Wh1 hH (Or.inl ne2)
  have hL_h1 := Fld.other Wh1 hL (Or.inl ne2)
  have hP_h1 := hP.other Wh1 ne3
  have hQ_h1 := hQ.set Wh1
  refine w_retv O d7_14 (by decide) (by decide) ?_
  exact ⟨rfl, ⟨hE_h1, hH_h1, hL_h1, hP_h1, (hQ_h1.congr fun j _ => updL_eq _ _ _ j), ne1, ne2, ne3, ga, gp, gq⟩⟩
theorem d4_0 : decode prog_55_method_5_code 0 = .ok (.iconst 0, 1) := by decide +kernel
theorem d4_1 : decode prog_55_method_5_code 1 = .ok (.istore_n 1, 1) := by decide +kernel
theorem d4_2 : decode prog_55_method_5_code 2 = .ok (.aload_n 0, 1) := by decide +kernel
theorem d4_3 : decode prog_55_method_5_code 3 = .ok (.getfield 13, 3) := by decide +kernel
theorem d4_6 : decode prog_55_method_5_code 6 = .ok (.astore_n 2, 1) := by decide +kernel
theorem d4_7 : decode prog_55_method_5_code 7 = .ok (.aload_n 2, 1) := by decide +kernel
theorem d4_8 : decode prog_55_method_5_code 8 = .ok (.arraylength, 1) := by decide +kernel
theorem d4_9 : decode prog_55_method_5_code 9 = .ok (.istore_n 3, 1) := by decide +kernel
theorem d4_10 : decode prog_55_method_5_code 10 = .ok (.iconst 0, 1) := by decide +kernel
theorem d4_11 : decode prog_55_method_5_code 11 = .ok (.istore 4, 2) := by decide +kernel
theorem d4_13 : decode prog_55_method_5_code 13 = .ok (.iload 4, 2) := by decide +kernel
theorem d4_15 : decode prog_55_method_5_code 15 = .ok (.iload_n 3, 1) := by decide +kernel
theorem d4_16 : decode prog_55_method_5_code 16 = .ok (.if_icmp .ge 30, 3) := by decide +kernel
theorem d4_19 : decode prog_55_method_5_code 19 = .ok (.aload_n 2, 1) := by decide +kernel
theorem d4_20 : decode prog_55_method_5_code 20 = .ok (.iload 4, 2) := by decide +kernel
theorem d4_22 : decode prog_55_method_5_code 22 = .ok (.laload, 1) := by decide +kernel
theorem d4_23 : decode prog_55_method_5_code 23 = .ok (.lstore 5, 2) := by decide +kernel
theorem d4_25 : decode prog_55_method_5_code 25 = .ok (.iload_n 1, 1) := by decide +kernel
theorem d4_26 : decode prog_55_method_5_code 26 = .ok (.lload 5, 2) := by decide +kernel
theorem d4_28 : decode prog_55_method_5_code 28 = .ok (.lconst 0, 1) := by decide +kernel
theorem d4_29 : decode prog_55_method_5_code 29 = .ok (.lcmp, 1) := by decide +kernel
theorem d4_30 : decode prog_55_method_5_code 30 = .ok (.ifCond .ge 7, 3) := by decide +kernel
theorem d4_33 : decode prog_55_method_5_code 33 = .ok (.iconst 0, 1) := by decide +kernel
theorem d4_34 : decode prog_55_method_5_code 34 = .ok (.goto 4, 3) := by decide +kernel
theorem d4_37 : decode prog_55_method_5_code 37 = .ok (.iconst 1, 1) := by decide +kernel
theorem d4_38 : decode prog_55_method_5_code 38 = .ok (.iadd, 1) := by decide +kernel
theorem d4_39 : decode prog_55_method_5_code 39 = .ok (.istore_n 1, 1) := by decide +kernel
theorem d4_40 : decode prog_55_method_5_code 40 = .ok (.iinc 4 1, 3) := by decide +kernel
theorem d4_43 : decode prog_55_method_5_code 43 = .ok (.goto (-30), 3) := by decide +kernel
theorem d4_46 : decode prog_55_method_5_code 46 = .ok (.iload_n 1, 1) := by decide +kernel
theorem d4_47 : decode prog_55_method_5_code 47 = .ok (.ireturn, 1) := by decide +kernel
theorem pn_4 : plainFor (⟨"com/example/ledgerline/ledgerline/service/BenchTimes", "acknowledged", "()I"⟩ : MethodName) = true := plainFor_of_name (by first | (simp [plainName, overriddenIn]; done) | decide +kernel)
set_option maxRecDepth 65536 in
set_option maxHeartbeats 40000000 in
theorem con_cnt (l : Launch) (Z : State) (a0 : Array Value) (hw : ∀ d ∈ tables_1, d.before a0 Z = true) (a p q : Addr) (n : Nat) (f g : Nat → Int64) (h0 : Heap) (n0 : Nat) (S : Bt Z h0 n0 a p q n f g) (z : Int32) (hz : z.toInt = (n : Int)) :
    Con l Z (⟨"com/example/ledgerline/ledgerline/service/BenchTimes", "acknowledged", "()I"⟩ : MethodName) prog_55_method_5_code 7 (some .int) ⟨0, 0, 0, 0⟩ [(.ref a)] h0 n0 (RetI fun r h => h = h0 ∧ r.toInt = (cntp g n : Int)) := by
  refine Con.body (L0 := #[.val (.ref a), .unset, .unset, .unset, .unset, .unset, .unset]) hw pn_4 (fun m => by first | (simp [entryFrame, mkF, argsToLocals, Value.category]; done) | rfl) (fun K O => ?_)
  obtain ⟨hE, hH, hL, hP, hQ, ne1, ne2, ne3, ga, gp, gq⟩ := S
  have hb := hP.bound
  have loop : ∀ (d k : Nat) (i t : Int32) (s5 s6 : Slot), i.toInt = (k : Int) → k + d = n → t.toInt = (cntp g k : Int) → cntp g k ≤ k → Two s5 s6 → W K h0 0 0 13 #[.val (.ref a), .val (.int t), .val (.ref q), .val (.int z), .val (.int i), s5, s6] [] := by
    intro d
    induction d with
    | zero =>
      intro k i t s5 s6 hi hk ht hc h2
      refine w_iload O d4_13 (pc' := 15) rfl rfl ?_
      refine w_iloadN O d4_15 (pc' := 16) rfl rfl ?_
      refine w_icmp_ge O d4_16 (pn := 19) (pt := 46) rfl (by decide) rfl (fun c16 => ?_) (fun c16 => absurd (show i.toInt < z.toInt from c16) (by omega))
      refine w_iloadN O d4_46 (pc' := 47) rfl rfl ?_
      refine w_reti O d4_47 (by decide) (by decide) ?_
      have hkn : k = n := by omega
      subst hkn
      exact ⟨_, rfl, rfl, ht⟩
    | succ d ih =>
      intro k i t s5 s6 hi hk ht hc h2
      have hc' : cntp g (k + 1) ≤ k + 1 := by rw [cntp]; split <;> omega
      refine w_iload O d4_13 (pc' := 15) rfl rfl ?_
      refine w_iloadN O d4_15 (pc' := 16) rfl rfl ?_
      refine w_icmp_ge O d4_16 (pn := 19) (pt := 46) rfl (by decide) rfl (fun c16 => absurd (show ¬ i.toInt < z.toInt from c16) (by omega)) (fun c16 => ?_)
      refine w_aloadN O d4_19 (pc' := 20) rfl rfl rfl ?_
      refine w_iload O d4_20 (pc' := 22) rfl rfl ?_
      refine w_laload O d4_22 (i := k) (x := (g k)) (pc' := 23) rfl hQ hi (by omega) rfl ?_
      refine w_lstoreG O d4_23 (L' := fun zq => #[.val (.ref a), .val (.int t), .val (.ref q), .val (.int z), .val (.int i), .val (.long zq), .second]) (pc' := 25) rfl (fun _ => by rcases h2 with ⟨rfl, rfl⟩ | ⟨y, rfl, rfl⟩ <;> rfl) (fun y e_y => ?_)
      refine w_iloadN O d4_25 (pc' := 26) rfl rfl ?_
      refine w_lload O d4_26 (pc' := 28) rfl rfl ?_
      refine w_lconst O d4_28 (z := (0 : Int64)) (pc' := 29) rfl rfl ?_
      refine w_lcmp_ge O d4_29 (pi := 30) rfl d4_30 (pn := 33) (pt := 37) rfl (by decide) rfl (fun c29 => ?_) (fun c29 => ?_)
      · replace c29 : ¬ y.toInt < 0 := c29
        refine w_iconst O d4_37 (z := (1 : Int32)) (pc' := 38) rfl rfl ?_
        refine w_iadd O d4_38 (pc' := 39) rfl ?_
        refine w_istoreNG O d4_39 (L' := fun zq => #[.val (.ref a), .val (.int zq), .val (.ref q), .val (.int z), .val (.int i), .val (.long y), .second]) (pc' := 40) rfl (fun _ => rfl) (fun t' e_t' => ?_)
        have i3 : ((t + (1 : Int32)).toInt - (t.toInt + 1)) % 4294967296 = 0 := c_iadd t (1 : Int32)
        have i4 := rng32 (t + (1 : Int32))
        have j_t' := congrArg Int32.toInt e_t'
        have r_t' := rng32 t'
        refine w_iincG O d4_40 (y := (1 : Int32)) (L' := fun zq => #[.val (.ref a), .val (.int t'), .val (.ref q), .val (.int z), .val (.int zq), .val (.long y), .second]) (pc' := 43) rfl rfl rfl (fun _ => rfl) (fun i' e_i' => ?_)
        have i6 : ((i + (1 : Int32)).toInt - (i.toInt + 1)) % 4294967296 = 0 := c_iadd i (1 : Int32)
        have i7 := rng32 (i + (1 : Int32))
        have j_i' := congrArg Int32.toInt e_i'
        refine w_goto O d4_43 (pc' := 13) (by decide) rfl ?_
        refine ih (k + 1) i' t' _ _ (by omega) (by omega) ?_ (by omega) (Or.inr ⟨_, rfl, rfl⟩)
        rw [cntp, ← e_y]
        split <;> omega
      · replace c29 : y.toInt < 0 := c29
        refine w_iconst O d4_33 (z := (0 : Int32)) (pc' := 34) rfl rfl ?_
        refine w_goto O d4_34 (pc' := 38) (by decide) rfl ?_
        refine w_iadd O d4_38 (pc' := 39) rfl ?_
        refine w_istoreNG O d4_39 (L' := fun zq => #[.val (.ref a), .val (.int zq), .val (.ref q), .val (.int z), .val (.int i), .val (.long y), .second]) (pc' := 40) rfl (fun _ => rfl) (fun t' e_t' => ?_)
        have i9 : ((t + (0 : Int32)).toInt - (t.toInt + 0)) % 4294967296 = 0 := c_iadd t (0 : Int32)
        have i10 := rng32 (t + (0 : Int32))
        have j_t' := congrArg Int32.toInt e_t'
        have r_t' := rng32 t'
        refine w_iincG O d4_40 (y := (1 : Int32)) (L' := fun zq => #[.val (.ref a), .val (.int t'), .val (.ref q), .val (.int z), .val (.int zq), .val (.long y), .second]) (pc' := 43) rfl rfl rfl (fun _ => rfl) (fun i' e_i' => ?_)
        have i12 : ((i + (1 : Int32)).toInt - (i.toInt + 1)) % 4294967296 = 0 := c_iadd i (1 : Int32)
        have i13 := rng32 (i + (1 : Int32))
        have j_i' := congrArg Int32.toInt e_i'
        refine w_goto O d4_43 (pc' := 13) (by decide) rfl ?_
        refine ih (k + 1) i' t' _ _ (by omega) (by omega) ?_ (by omega) (Or.inr ⟨_, rfl, rfl⟩)
        rw [cntp, ← e_y]
        split <;> omega
  refine w_iconst O d4_0 (z := (0 : Int32)) (pc' := 1) rfl rfl ?_
  refine w_istoreN O d4_1 (L' := #[.val (.ref a), .val (.int (0 : Int32)), .unset, .unset, .unset, .unset, .unset]) (pc' := 2) rfl rfl ?_
  refine w_aloadN O d4_2 (pc' := 3) rfl rfl rfl ?_
  refine w_getf O d4_3 (pc' := 6) rfl (mw 12 rfl) hL ?_
  refine w_astoreN O d4_6 (L' := #[.val (.ref a), .val (.int (0 : Int32)), .val (.ref q), .unset, .unset, .unset, .unset]) (pc' := 7) rfl rfl rfl ?_
  refine w_aloadN O d4_7 (pc' := 8) rfl rfl rfl ?_
  refine w_alen O d4_8 (z := z) (pc' := 9) rfl hQ hz ?_
  refine w_istoreN O d4_9 (L' := #[.val (.ref a), .val (.int (0 : Int32)), .val (.ref q), .val (.int z), .unset, .unset, .unset]) (pc' := 10) rfl rfl ?_
  refine w_iconst O d4_10 (z := (0 : Int32)) (pc' := 11) rfl rfl ?_
  refine w_istore O d4_11 (L' := #[.val (.ref a), .val (.int (0 : Int32)), .val (.ref q), .val (.int z), .val (.int (0 : Int32)), .unset, .unset]) (pc' := 13) rfl rfl ?_
  exact loop n 0 _ _ _ _ (by decide) (by omega) rfl (Nat.le_refl _) (Or.inl ⟨rfl, rfl⟩)
def HitB (r : Int32) (k : Int) (f1 r1 f2 r2 f3 r3 : Int32) : Prop := r.toInt = if (¬ f1.toInt = 0 ∧ r1.toInt = k) ∨ (¬ f2.toInt = 0 ∧ r2.toInt = k) ∨ (¬ f3.toInt = 0 ∧ r3.toInt = k) then 1 else 0
theorem d6_0 : decode method_2_code 0 = .ok (.iload_n 1, 1) := by decide +kernel
theorem d6_1 : decode method_2_code 1 = .ok (.ifCond .eq 8, 3) := by decide +kernel
theorem d6_4 : decode method_2_code 4 = .ok (.iload_n 2, 1) := by decide +kernel
theorem d6_5 : decode method_2_code 5 = .ok (.iload_n 0, 1) := by decide +kernel
theorem d6_6 : decode method_2_code 6 = .ok (.if_icmp .eq 24, 3) := by decide +kernel
theorem d6_9 : decode method_2_code 9 = .ok (.iload_n 3, 1) := by decide +kernel
theorem d6_10 : decode method_2_code 10 = .ok (.ifCond .eq 9, 3) := by decide +kernel
theorem d6_13 : decode method_2_code 13 = .ok (.iload 4, 2) := by decide +kernel
theorem d6_15 : decode method_2_code 15 = .ok (.iload_n 0, 1) := by decide +kernel
theorem d6_16 : decode method_2_code 16 = .ok (.if_icmp .eq 14, 3) := by decide +kernel
theorem d6_19 : decode method_2_code 19 = .ok (.iload 5, 2) := by decide +kernel
theorem d6_21 : decode method_2_code 21 = .ok (.ifCond .eq 13, 3) := by decide +kernel
theorem d6_24 : decode method_2_code 24 = .ok (.iload 6, 2) := by decide +kernel
theorem d6_26 : decode method_2_code 26 = .ok (.iload_n 0, 1) := by decide +kernel
theorem d6_27 : decode method_2_code 27 = .ok (.if_icmp .ne 7, 3) := by decide +kernel
theorem d6_30 : decode method_2_code 30 = .ok (.iconst 1, 1) := by decide +kernel
theorem d6_31 : decode method_2_code 31 = .ok (.goto 4, 3) := by decide +kernel
theorem d6_34 : decode method_2_code 34 = .ok (.iconst 0, 1) := by decide +kernel
theorem d6_35 : decode method_2_code 35 = .ok (.ireturn, 1) := by decide +kernel
theorem pn_6 : plainFor (⟨"com/example/ledgerline/ledgerline/service/BenchTimesAcknowledgedPinLaw", "hit", "(IZIZIZI)I"⟩ : MethodName) = true := plainFor_of_name (by first | (simp [plainName, overriddenIn]; done) | decide +kernel)
set_option maxRecDepth 65536 in
set_option maxHeartbeats 40000000 in
theorem con_hit (l : Launch) (Z : State) (a0 : Array Value) (hw : ∀ d ∈ tables_1, d.before a0 Z = true) (k f1 r1 f2 r2 f3 r3 : Int32) (h0 : Heap) (n0 : Nat)  :
    Con l Z (⟨"com/example/ledgerline/ledgerline/service/BenchTimesAcknowledgedPinLaw", "hit", "(IZIZIZI)I"⟩ : MethodName) method_2_code 7 (some .int) ⟨0, 0, 0, 0⟩ [(.int k), (.int f1), (.int r1), (.int f2), (.int r2), (.int f3), (.int r3)] h0 n0 (RetI fun r h => h = h0 ∧ HitB r k.toInt f1 r1 f2 r2 f3 r3) := by
  refine Con.body (L0 := #[.val (.int k), .val (.int f1), .val (.int r1), .val (.int f2), .val (.int r2), .val (.int f3), .val (.int r3)]) hw pn_6 (fun m => by first | (simp [entryFrame, mkF, argsToLocals, Value.category]; done) | rfl) (fun K O => ?_)
  refine w_iloadN O d6_0 (pc' := 1) rfl rfl ?_
  refine w_if_eq O d6_1 (pn := 4) (pt := 9) rfl (by decide) rfl (fun c1 => ?_) (fun c1 => ?_)
  · replace c1 : f1.toInt = 0 := c1
    refine w_iloadN O d6_9 (pc' := 10) rfl rfl ?_
    refine w_if_eq O d6_10 (pn := 13) (pt := 19) rfl (by decide) rfl (fun c10 => ?_) (fun c10 => ?_)
    · replace c10 : f2.toInt = 0 := c10
      refine w_iload O d6_19 (pc' := 21) rfl rfl ?_
      refine w_if_eq O d6_21 (pn := 24) (pt := 34) rfl (by decide) rfl (fun c21 => ?_) (fun c21 => ?_)
      · replace c21 : f3.toInt = 0 := c21
        refine w_iconst O d6_34 (z := (0 : Int32)) (pc' := 35) rfl rfl ?_
        refine w_reti O d6_35 (by decide) (by decide) ?_
        refine ⟨_, rfl, rfl, ?_⟩
        unfold HitB
        show (0 : Int) = _
        split <;> omega
      · replace c21 : ¬ f3.toInt = 0 := c21
        refine w_iload O d6_24 (pc' := 26) rfl rfl ?_
        refine w_iloadN O d6_26 (pc' := 27) rfl rfl ?_
        refine w_icmp_ne O d6_27 (pn := 30) (pt := 34) rfl (by decide) rfl (fun c27 => ?_) (fun c27 => ?_)
        · refine w_iconst O d6_34 (z := (0 : Int32)) (pc' := 35) rfl rfl ?_
          refine w_reti O d6_35 (by decide) (by decide) ?_
          refine ⟨_, rfl, rfl, ?_⟩
          unfold HitB
          show (0 : Int) = _
          split <;> omega
        · refine w_iconst O d6_30 (z := (1 : Int32)) (pc' := 31) rfl rfl ?_
          refine w_goto O d6_31 (pc' := 35) (by decide) rfl ?_
          refine w_reti O d6_35 (by decide) (by decide) ?_
          refine ⟨_, rfl, rfl, ?_⟩
          unfold HitB
          show (1 : Int) = _
          split <;> omega
    · replace c10 : ¬ f2.toInt = 0 := c10
      refine w_iload O d6_13 (pc' := 15) rfl rfl ?_
      refine w_iloadN O d6_15 (pc' := 16) rfl rfl ?_
      refine w_icmp_eq O d6_16 (pn := 19) (pt := 30) rfl (by decide) rfl (fun c16 => ?_) (fun c16 => ?_)
      · refine w_iconst O d6_30 (z := (1 : Int32)) (pc' := 31) rfl rfl ?_
        refine w_goto O d6_31 (pc' := 35) (by decide) rfl ?_
        refine w_reti O d6_35 (by decide) (by decide) ?_
        refine ⟨_, rfl, rfl, ?_⟩
        unfold HitB
        show (1 : Int) = _
        split <;> omega
      · refine w_iload O d6_19 (pc' := 21) rfl rfl ?_
        refine w_if_eq O d6_21 (pn := 24) (pt := 34) rfl (by decide) rfl (fun c21 => ?_) (fun c21 => ?_)
        · replace c21 : f3.toInt = 0 := c21
          refine w_iconst O d6_34 (z := (0 : Int32)) (pc' := 35) rfl rfl ?_
          refine w_reti O d6_35 (by decide) (by decide) ?_
          refine ⟨_, rfl, rfl, ?_⟩
          unfold HitB
          show (0 : Int) = _
          split <;> omega
        · replace c21 : ¬ f3.toInt = 0 := c21
          refine w_iload O d6_24 (pc' := 26) rfl rfl ?_
          refine w_iloadN O d6_26 (pc' := 27) rfl rfl ?_
          refine w_icmp_ne O d6_27 (pn := 30) (pt := 34) rfl (by decide) rfl (fun c27 => ?_) (fun c27 => ?_)
          · refine w_iconst O d6_34 (z := (0 : Int32)) (pc' := 35) rfl rfl ?_
            refine w_reti O d6_35 (by decide) (by decide) ?_
            refine ⟨_, rfl, rfl, ?_⟩
            unfold HitB
            show (0 : Int) = _
            split <;> omega
          · refine w_iconst O d6_30 (z := (1 : Int32)) (pc' := 31) rfl rfl ?_
            refine w_goto O d6_31 (pc' := 35) (by decide) rfl ?_
            refine w_reti O d6_35 (by decide) (by decide) ?_
            refine ⟨_, rfl, rfl, ?_⟩
            unfold HitB
            show (1 : Int) = _
            split <;> omega
  · replace c1 : ¬ f1.toInt = 0 := c1
    refine w_iloadN O d6_4 (pc' := 5) rfl rfl ?_
    refine w_iloadN O d6_5 (pc' := 6) rfl rfl ?_
    refine w_icmp_eq O d6_6 (pn := 9) (pt := 30) rfl (by decide) rfl (fun c6 => ?_) (fun c6 => ?_)
    · refine w_iconst O d6_30 (z := (1 : Int32)) (pc' := 31) rfl rfl ?_
      refine w_goto O d6_31 (pc' := 35) (by decide) rfl ?_
      refine w_reti O d6_35 (by decide) (by decide) ?_
      refine ⟨_, rfl, rfl, ?_⟩
      unfold HitB
      show (1 : Int) = _
      split <;> omega
    · refine w_iloadN O d6_9 (pc' := 10) rfl rfl ?_
      refine w_if_eq O d6_10 (pn := 13) (pt := 19) rfl (by decide) rfl (fun c10 => ?_) (fun c10 => ?_)
      · replace c10 : f2.toInt = 0 := c10
        refine w_iload O d6_19 (pc' := 21) rfl rfl ?_
        refine w_if_eq O d6_21 (pn := 24) (pt := 34) rfl (by decide) rfl (fun c21 => ?_) (fun c21 => ?_)
        · replace c21 : f3.toInt = 0 := c21
          refine w_iconst O d6_34 (z := (0 : Int32)) (pc' := 35) rfl rfl ?_
          refine w_reti O d6_35 (by decide) (by decide) ?_
          refine ⟨_, rfl, rfl, ?_⟩
          unfold HitB
          show (0 : Int) = _
          split <;> omega
        · replace c21 : ¬ f3.toInt = 0 := c21
          refine w_iload O d6_24 (pc' := 26) rfl rfl ?_
          refine w_iloadN O d6_26 (pc' := 27) rfl rfl ?_
          refine w_icmp_ne O d6_27 (pn := 30) (pt := 34) rfl (by decide) rfl (fun c27 => ?_) (fun c27 => ?_)
          · refine w_iconst O d6_34 (z := (0 : Int32)) (pc' := 35) rfl rfl ?_
            refine w_reti O d6_35 (by decide) (by decide) ?_
            refine ⟨_, rfl, rfl, ?_⟩
            unfold HitB
            show (0 : Int) = _
            split <;> omega
          · refine w_iconst O d6_30 (z := (1 : Int32)) (pc' := 31) rfl rfl ?_
            refine w_goto O d6_31 (pc' := 35) (by decide) rfl ?_
            refine w_reti O d6_35 (by decide) (by decide) ?_
            refine ⟨_, rfl, rfl, ?_⟩
            unfold HitB
            show (1 : Int) = _
            split <;> omega
      · replace c10 : ¬ f2.toInt = 0 := c10
        refine w_iload O d6_13 (pc' := 15) rfl rfl ?_
        refine w_iloadN O d6_15 (pc' := 16) rfl rfl ?_
        refine w_icmp_eq O d6_16 (pn := 19) (pt := 30) rfl (by decide) rfl (fun c16 => ?_) (fun c16 => ?_)
        · refine w_iconst O d6_30 (z := (1 : Int32)) (pc' := 31) rfl rfl ?_
          refine w_goto O d6_31 (pc' := 35) (by decide) rfl ?_
          refine w_reti O d6_35 (by decide) (by decide) ?_
          refine ⟨_, rfl, rfl, ?_⟩
          unfold HitB
          show (1 : Int) = _
          split <;> omega
        · refine w_iload O d6_19 (pc' := 21) rfl rfl ?_
          refine w_if_eq O d6_21 (pn := 24) (pt := 34) rfl (by decide) rfl (fun c21 => ?_) (fun c21 => ?_)
          · replace c21 : f3.toInt = 0 := c21
            refine w_iconst O d6_34 (z := (0 : Int32)) (pc' := 35) rfl rfl ?_
            refine w_reti O d6_35 (by decide) (by decide) ?_
            refine ⟨_, rfl, rfl, ?_⟩
            unfold HitB
            show (0 : Int) = _
            split <;> omega
          · replace c21 : ¬ f3.toInt = 0 := c21
            refine w_iload O d6_24 (pc' := 26) rfl rfl ?_
            refine w_iloadN O d6_26 (pc' := 27) rfl rfl ?_
            refine w_icmp_ne O d6_27 (pn := 30) (pt := 34) rfl (by decide) rfl (fun c27 => ?_) (fun c27 => ?_)
            · refine w_iconst O d6_34 (z := (0 : Int32)) (pc' := 35) rfl rfl ?_
              refine w_reti O d6_35 (by decide) (by decide) ?_
              refine ⟨_, rfl, rfl, ?_⟩
              unfold HitB
              show (0 : Int) = _
              split <;> omega
            · refine w_iconst O d6_30 (z := (1 : Int32)) (pc' := 31) rfl rfl ?_
              refine w_goto O d6_31 (pc' := 35) (by decide) rfl ?_
              refine w_reti O d6_35 (by decide) (by decide) ?_
              refine ⟨_, rfl, rfl, ?_⟩
              unfold HitB
              show (1 : Int) = _
              split <;> omega
def Acc (g : Nat → Int64) (P : Nat → Prop) : Prop := ∀ j, 0 ≤ (g j).toInt ↔ P j
theorem acc_base : Acc (fun _ => -1) (fun _ => False) := fun j => ⟨fun q => absurd q (show ¬ 0 ≤ (-1 : Int64).toInt by decide), fun q => q.elim⟩
theorem acc_upd {g : Nat → Int64} {P : Nat → Prop} (k : Nat) {v : Int64} (hv : 0 ≤ v.toInt) (hg : Acc g P) : Acc (updL g k v) (fun j => P j ∨ j = k) := fun j => by
  unfold updL
  by_cases q : j = k
  · rw [if_pos q]; exact ⟨fun _ => Or.inr q, fun _ => hv⟩
  · rw [if_neg q]; exact (hg j).trans ⟨Or.inl, fun z => z.elim id fun z => absurd z q⟩
theorem own_back (v m : Int64) : (v + m) - v = m := by
  apply Int64.toInt_inj.mp
  have a := c_ladd v m
  have b := c_lsub (v + m) v
  have r1 := rng64 (v + m)
  have r2 := rng64 ((v + m) - v)
  have r3 := rng64 m
  have r4 := rng64 v
  omega
theorem cnt_neg : ∀ n, cntp (fun _ => -1) n = 0
  | 0 => rfl
  | n + 1 => by rw [cntp, cnt_neg n]; decide
theorem own_cnt (n : Nat) (g : Nat → Int64) (P : Nat → Prop) [DecidablePred P] (hg : Acc g P) (hP : ∀ j, P j → j < n) (h4 : n ≤ 4) : cntp g n = (if P 0 then 1 else 0) + (if P 1 then 1 else 0) + (if P 2 then 1 else 0) + (if P 3 then 1 else 0) := by
  have e : ∀ j, (if (g j).toInt < 0 then 0 else 1) = if P j then 1 else 0 := fun j => by
    have := hg j
    by_cases q : P j
    · rw [if_pos q, if_neg (by have := this.mpr q; omega)]
    · rw [if_neg q, if_pos (by have := mt this.mp q; omega)]
  have p : ∀ j, ¬ j < n → ¬ P j := fun j q z => q (hP j z)
  have hn : n = 0 ∨ n = 1 ∨ n = 2 ∨ n = 3 ∨ n = 4 := by omega
  rcases hn with rfl | rfl | rfl | rfl | rfl <;> simp only [cntp, e]
  · simp [p 0 (by omega), p 1 (by omega), p 2 (by omega), p 3 (by omega)]
  · simp [p 1 (by omega), p 2 (by omega), p 3 (by omega)]
  · simp [p 2 (by omega), p 3 (by omega)]
  · simp [p 3 (by omega)]
  · simp
theorem pn_0 : plainFor x = true := plainFor_of_name (by first | (simp [plainName, overriddenIn]; done) | decide +kernel)
theorem pd_1 : parseMethodDescriptor "(I)V" = some ⟨[.int], none⟩ := by decide +kernel
theorem pd_2 : parseMethodDescriptor "()I" = some ⟨[], some .int⟩ := by decide +kernel
theorem pd_3 : parseMethodDescriptor "(IJ)V" = some ⟨[.int, .long], none⟩ := by decide +kernel
theorem pd_4 : parseMethodDescriptor "(IZIZIZI)I" = some ⟨[.int, .boolean, .int, .boolean, .int, .boolean, .int], some .int⟩ := by decide +kernel
set_option maxRecDepth 65536 in
set_option maxHeartbeats 40000000 in
theorem law_con (l : Launch) (Z : State) (a0 : Array Value) (hw : ∀ d ∈ tables_1, d.before a0 Z = true) (u0 : Int32) (v1 v2 v3 v4 v5 : Int64) (h0 : Heap) (n0 : Nat)  :
    Con l Z x code maxLocals ret room_1 [(.int u0), (.long v1), (.long v2), (.long v3), (.long v4), (.long v5)] h0 n0 (RetI fun r _ => r = 1) := by
  refine Con.body (L0 := #[.val (.int u0), .val (.long v1), .second, .val (.long v2), .second, .val (.long v3), .second, .val (.long v4), .second, .val (.long v5), .second, .unset, .unset, .unset, .unset, .unset, .unset, .unset, .unset, .unset, .unset, .unset, .unset, .unset, .unset, .unset, .unset, .unset]) hw pn_0 (fun m => by first | (simp [entryFrame, mkF, argsToLocals, Value.category, maxLocals]; done) | rfl) (fun K O => ?_)
  replace O : Ok K l Z a0 tables_1 code 28 (some .boolean) "com/example/ledgerline/ledgerline/service/BenchTimesAcknowledgedPinLaw" "law" room_1 n0 _ := O
  refine w_iloadN O at_0 (pc' := 1) rfl rfl ?_
  refine w_bipush O at_1 (z := (7 : Int32)) (pc' := 3) rfl rfl ?_
  refine w_iand O at_3 (pc' := 4) rfl ?_
  refine w_iconst O at_4 (z := (5 : Int32)) (pc' := 5) rfl rfl ?_
  refine w_irem O at_5 (pc' := 6) rfl (by decide) ?_
  refine w_istoreG O at_6 (L' := fun zq => #[.val (.int u0), .val (.long v1), .second, .val (.long v2), .second, .val (.long v3), .second, .val (.long v4), .second, .val (.long v5), .second, .val (.int zq), .unset, .unset, .unset, .unset, .unset, .unset, .unset, .unset, .unset, .unset, .unset, .unset, .unset, .unset, .unset, .unset]) (pc' := 8) rfl (fun _ => rfl) (fun z e_z => ?_)
  have i2 : (u0 &&& (7 : Int32)).toInt = u0.toInt % 8 := c_mask u0 (7 : Int32) 3 (by decide) (by decide)
  have i3 : (0 ≤ (u0 &&& (7 : Int32)).toInt → ((u0 &&& (7 : Int32)) % (5 : Int32)).toInt = (u0 &&& (7 : Int32)).toInt % 5) ∧ ((u0 &&& (7 : Int32)).toInt < 0 → ((u0 &&& (7 : Int32)) % (5 : Int32)).toInt = -((-(u0 &&& (7 : Int32)).toInt) % 5)) := c_irem (u0 &&& (7 : Int32)) (5 : Int32) 5 (by decide)
  have j_z := congrArg Int32.toInt e_z
  have r_z := rng32 z
  have hz4 : 0 ≤ z.toInt ∧ z.toInt ≤ 4 := by omega
  obtain ⟨n, hn⟩ : ∃ n : Nat, z.toInt = (n : Int) := ⟨z.toInt.toNat, by omega⟩
  clear i2 i3 j_z
  refine w_new O at_8 (cl' := 1) (sl' := 2) (pc' := 11) rfl (mw 0 rfl) (mw 1 rfl) (mw 2 rfl) rfl rfl (by decide) (by decide) (fun h4 b5 qb5 g_b5 Eh4 E_b5 Db5 => ?_)
  have F_handed_b5 : Fld Z h4 b5 "com/example/ledgerline/ledgerline/service/BenchTimes" "handed" "[J" .null := Db5 (Or.inr (O.2.2.2.2.2.2.2.2.1 _ (mw 11 rfl))) (ty := (.array .long)) (by decide)
  have F_latencies_b5 : Fld Z h4 b5 "com/example/ledgerline/ledgerline/service/BenchTimes" "latencies" "[J" .null := Db5 (Or.inr (O.2.2.2.2.2.2.2.2.1 _ (mw 13 rfl))) (ty := (.array .long)) (by decide)
  refine w_dup O at_11 (pc' := 12) rfl rfl ?_
  refine w_iload O at_12 (pc' := 14) rfl rfl ?_
  refine w_init O at_14 (as := [(.int z)]) (st := [(.ref b5)]) (wt := 1) (cl' := 3) (sl' := 10) (pc' := 17) rfl rfl (mw 3 rfl) (mw 4 rfl) (mw 2 rfl) (mw 5 rfl) (by decide) (con_init l Z a0 hw b5 z h4 n0 n (hn) (by omega) E_b5 F_handed_b5 F_latencies_b5 g_b5) rfl pd_1 rfl rfl rfl (by decide) (by decide) rfl rfl (by decide) (by decide) (cV fun h6 ⟨p, q, Bh6⟩ => ?_)
  refine w_astore O at_17 (L' := #[.val (.int u0), .val (.long v1), .second, .val (.long v2), .second, .val (.long v3), .second, .val (.long v4), .second, .val (.long v5), .second, .val (.int z), .val (.ref b5), .unset, .unset, .unset, .unset, .unset, .unset, .unset, .unset, .unset, .unset, .unset, .unset, .unset, .unset, .unset]) (pc' := 19) rfl rfl rfl ?_
  refine w_aload O at_19 (pc' := 21) rfl rfl rfl ?_
  refine w_virtual O at_21 (as := []) (st := []) (wt := 0) (cl' := 3) (sl' := 10) (pc' := 24) rfl (mw 19 rfl) (mw 20 rfl) (mw 22 rfl) (mw 21 rfl) (mw 23 rfl) (mw 2 rfl) (by decide) Bh6.1 (con_cnt l Z a0 hw b5 p q n (fun _ => 0) (fun _ => -1) h6 n0 Bh6 z hn) rfl pd_2 rfl rfl rfl (by decide) (by decide) rfl rfl (by decide) (by decide) (cI fun r7 _ ⟨qr7, sr7⟩ => ?_)
  rw [qr7]
  have hr0 : r7.toInt = 0 := by rw [sr7, cnt_neg]; rfl
  refine w_if_eq O at_24 (pn := 27) (pt := 29) rfl (by decide) rfl (fun _ => ?_) (fun q => absurd hr0 q)
  refine w_iload O at_29 (pc' := 31) rfl rfl ?_
  refine w_if_ne O at_31 (pn := 34) (pt := 36) rfl (by decide) rfl (fun c31 => ?_) (fun c31 => ?_)
  · replace c31 : ¬ z.toInt = 0 := c31
    refine w_iloadN O at_36 (pc' := 37) rfl rfl ?_
    refine w_iconst O at_37 (z := (3 : Int32)) (pc' := 38) rfl rfl ?_
    refine w_iushr O at_38 (pc' := 39) rfl ?_
    refine w_iconst O at_39 (z := (3 : Int32)) (pc' := 40) rfl rfl ?_
    refine w_iand O at_40 (pc' := 41) rfl ?_
    refine w_iload O at_41 (pc' := 43) rfl rfl ?_
    refine w_irem O at_43 (pc' := 44) rfl (nz32 (by omega)) ?_
    refine w_istoreG O at_44 (L' := fun zq => #[.val (.int u0), .val (.long v1), .second, .val (.long v2), .second, .val (.long v3), .second, .val (.long v4), .second, .val (.long v5), .second, .val (.int z), .val (.ref b5), .val (.int zq), .unset, .unset, .unset, .unset, .unset, .unset, .unset, .unset, .unset, .unset, .unset, .unset, .unset, .unset]) (pc' := 46) rfl (fun _ => rfl) (fun r1 e_r1 => ?_)
    have i9 : ((u0.toUInt32 >>> ((3 : Int32) &&& 31).toUInt32).toInt32).toInt = (u0.toInt % 4294967296) / 8 := c_iushr u0 (3 : Int32) 3 (by decide) (by decide)
    have i10 : (((u0.toUInt32 >>> ((3 : Int32) &&& 31).toUInt32).toInt32) &&& (3 : Int32)).toInt = ((u0.toUInt32 >>> ((3 : Int32) &&& 31).toUInt32).toInt32).toInt % 4 := c_mask ((u0.toUInt32 >>> ((3 : Int32) &&& 31).toUInt32).toInt32) (3 : Int32) 2 (by decide) (by decide)
    have i11 := c_iremV (((u0.toUInt32 >>> ((3 : Int32) &&& 31).toUInt32).toInt32) &&& (3 : Int32)) z
    have j_r1 := congrArg Int32.toInt e_r1
    have r_r1 := rng32 r1
    obtain ⟨k1, hk1⟩ : ∃ k1 : Nat, r1.toInt = (k1 : Int) := ⟨r1.toInt.toNat, by omega⟩
    have hc1 : k1 < n := by omega
    clear i9 i10 i11 j_r1
    refine w_iloadN O at_46 (pc' := 47) rfl rfl ?_
    refine w_iconst O at_47 (z := (5 : Int32)) (pc' := 48) rfl rfl ?_
    refine w_iushr O at_48 (pc' := 49) rfl ?_
    refine w_iconst O at_49 (z := (3 : Int32)) (pc' := 50) rfl rfl ?_
    refine w_iand O at_50 (pc' := 51) rfl ?_
    refine w_iload O at_51 (pc' := 53) rfl rfl ?_
    refine w_irem O at_53 (pc' := 54) rfl (nz32 (by omega)) ?_
    refine w_istoreG O at_54 (L' := fun zq => #[.val (.int u0), .val (.long v1), .second, .val (.long v2), .second, .val (.long v3), .second, .val (.long v4), .second, .val (.long v5), .second, .val (.int z), .val (.ref b5), .val (.int r1), .val (.int zq), .unset, .unset, .unset, .unset, .unset, .unset, .unset, .unset, .unset, .unset, .unset, .unset, .unset]) (pc' := 56) rfl (fun _ => rfl) (fun r2 e_r2 => ?_)
    have i13 : ((u0.toUInt32 >>> ((5 : Int32) &&& 31).toUInt32).toInt32).toInt = (u0.toInt % 4294967296) / 32 := c_iushr u0 (5 : Int32) 5 (by decide) (by decide)
    have i14 : (((u0.toUInt32 >>> ((5 : Int32) &&& 31).toUInt32).toInt32) &&& (3 : Int32)).toInt = ((u0.toUInt32 >>> ((5 : Int32) &&& 31).toUInt32).toInt32).toInt % 4 := c_mask ((u0.toUInt32 >>> ((5 : Int32) &&& 31).toUInt32).toInt32) (3 : Int32) 2 (by decide) (by decide)
    have i15 := c_iremV (((u0.toUInt32 >>> ((5 : Int32) &&& 31).toUInt32).toInt32) &&& (3 : Int32)) z
    have j_r2 := congrArg Int32.toInt e_r2
    have r_r2 := rng32 r2
    obtain ⟨k2, hk2⟩ : ∃ k2 : Nat, r2.toInt = (k2 : Int) := ⟨r2.toInt.toNat, by omega⟩
    have hc2 : k2 < n := by omega
    clear i13 i14 i15 j_r2
    refine w_iloadN O at_56 (pc' := 57) rfl rfl ?_
    refine w_bipush O at_57 (z := (7 : Int32)) (pc' := 59) rfl rfl ?_
    refine w_iushr O at_59 (pc' := 60) rfl ?_
    refine w_iconst O at_60 (z := (3 : Int32)) (pc' := 61) rfl rfl ?_
    refine w_iand O at_61 (pc' := 62) rfl ?_
    refine w_iload O at_62 (pc' := 64) rfl rfl ?_
    refine w_irem O at_64 (pc' := 65) rfl (nz32 (by omega)) ?_
    refine w_istoreG O at_65 (L' := fun zq => #[.val (.int u0), .val (.long v1), .second, .val (.long v2), .second, .val (.long v3), .second, .val (.long v4), .second, .val (.long v5), .second, .val (.int z), .val (.ref b5), .val (.int r1), .val (.int r2), .val (.int zq), .unset, .unset, .unset, .unset, .unset, .unset, .unset, .unset, .unset, .unset, .unset, .unset]) (pc' := 67) rfl (fun _ => rfl) (fun r3 e_r3 => ?_)
    have i17 : ((u0.toUInt32 >>> ((7 : Int32) &&& 31).toUInt32).toInt32).toInt = (u0.toInt % 4294967296) / 128 := c_iushr u0 (7 : Int32) 7 (by decide) (by decide)
    have i18 : (((u0.toUInt32 >>> ((7 : Int32) &&& 31).toUInt32).toInt32) &&& (3 : Int32)).toInt = ((u0.toUInt32 >>> ((7 : Int32) &&& 31).toUInt32).toInt32).toInt % 4 := c_mask ((u0.toUInt32 >>> ((7 : Int32) &&& 31).toUInt32).toInt32) (3 : Int32) 2 (by decide) (by decide)
    have i19 := c_iremV (((u0.toUInt32 >>> ((7 : Int32) &&& 31).toUInt32).toInt32) &&& (3 : Int32)) z
    have j_r3 := congrArg Int32.toInt e_r3
    have r_r3 := rng32 r3
    obtain ⟨k3, hk3⟩ : ∃ k3 : Nat, r3.toInt = (k3 : Int) := ⟨r3.toInt.toNat, by omega⟩
    have hc3 : k3 < n := by omega
    clear i17 i18 i19 j_r3
    refine w_iloadN O at_67 (pc' := 68) rfl rfl ?_
    refine w_bipush O at_68 (z := (9 : Int32)) (pc' := 70) rfl rfl ?_
    refine w_iushr O at_70 (pc' := 71) rfl ?_
    refine w_iconst O at_71 (z := (1 : Int32)) (pc' := 72) rfl rfl ?_
    refine w_iand O at_72 (pc' := 73) rfl ?_
    have i20 : ((u0.toUInt32 >>> ((9 : Int32) &&& 31).toUInt32).toInt32).toInt = (u0.toInt % 4294967296) / 512 := c_iushr u0 (9 : Int32) 9 (by decide) (by decide)
    have i21 : (((u0.toUInt32 >>> ((9 : Int32) &&& 31).toUInt32).toInt32) &&& (1 : Int32)).toInt = ((u0.toUInt32 >>> ((9 : Int32) &&& 31).toUInt32).toInt32).toInt % 2 := c_mask ((u0.toUInt32 >>> ((9 : Int32) &&& 31).toUInt32).toInt32) (1 : Int32) 1 (by decide) (by decide)
    have J81 : ∀ (f1 : Int32), f1 = 0 ∨ f1 = 1 → W K h6 3 10 81 #[.val (.int u0), .val (.long v1), .second, .val (.long v2), .second, .val (.long v3), .second, .val (.long v4), .second, .val (.long v5), .second, .val (.int z), .val (.ref b5), .val (.int r1), .val (.int r2), .val (.int r3), .unset, .unset, .unset, .unset, .unset, .unset, .unset, .unset, .unset, .unset, .unset, .unset] [(.int f1)] := by
      intro f1 hJ81
      clear i20 i21
      refine w_istore O at_81 (L' := #[.val (.int u0), .val (.long v1), .second, .val (.long v2), .second, .val (.long v3), .second, .val (.long v4), .second, .val (.long v5), .second, .val (.int z), .val (.ref b5), .val (.int r1), .val (.int r2), .val (.int r3), .val (.int f1), .unset, .unset, .unset, .unset, .unset, .unset, .unset, .unset, .unset, .unset, .unset]) (pc' := 83) rfl rfl ?_
      refine w_iloadN O at_83 (pc' := 84) rfl rfl ?_
      refine w_bipush O at_84 (z := (10 : Int32)) (pc' := 86) rfl rfl ?_
      refine w_iushr O at_86 (pc' := 87) rfl ?_
      refine w_iconst O at_87 (z := (1 : Int32)) (pc' := 88) rfl rfl ?_
      refine w_iand O at_88 (pc' := 89) rfl ?_
      have i22 : ((u0.toUInt32 >>> ((10 : Int32) &&& 31).toUInt32).toInt32).toInt = (u0.toInt % 4294967296) / 1024 := c_iushr u0 (10 : Int32) 10 (by decide) (by decide)
      have i23 : (((u0.toUInt32 >>> ((10 : Int32) &&& 31).toUInt32).toInt32) &&& (1 : Int32)).toInt = ((u0.toUInt32 >>> ((10 : Int32) &&& 31).toUInt32).toInt32).toInt % 2 := c_mask ((u0.toUInt32 >>> ((10 : Int32) &&& 31).toUInt32).toInt32) (1 : Int32) 1 (by decide) (by decide)
      have J97 : ∀ (f2 : Int32), f2 = 0 ∨ f2 = 1 → W K h6 3 10 97 #[.val (.int u0), .val (.long v1), .second, .val (.long v2), .second, .val (.long v3), .second, .val (.long v4), .second, .val (.long v5), .second, .val (.int z), .val (.ref b5), .val (.int r1), .val (.int r2), .val (.int r3), .val (.int f1), .unset, .unset, .unset, .unset, .unset, .unset, .unset, .unset, .unset, .unset, .unset] [(.int f2)] := by
        intro f2 hJ97
        clear i22 i23
        refine w_istore O at_97 (L' := #[.val (.int u0), .val (.long v1), .second, .val (.long v2), .second, .val (.long v3), .second, .val (.long v4), .second, .val (.long v5), .second, .val (.int z), .val (.ref b5), .val (.int r1), .val (.int r2), .val (.int r3), .val (.int f1), .val (.int f2), .unset, .unset, .unset, .unset, .unset, .unset, .unset, .unset, .unset, .unset]) (pc' := 99) rfl rfl ?_
        refine w_iloadN O at_99 (pc' := 100) rfl rfl ?_
        refine w_bipush O at_100 (z := (11 : Int32)) (pc' := 102) rfl rfl ?_
        refine w_iushr O at_102 (pc' := 103) rfl ?_
        refine w_iconst O at_103 (z := (1 : Int32)) (pc' := 104) rfl rfl ?_
        refine w_iand O at_104 (pc' := 105) rfl ?_
        have i24 : ((u0.toUInt32 >>> ((11 : Int32) &&& 31).toUInt32).toInt32).toInt = (u0.toInt % 4294967296) / 2048 := c_iushr u0 (11 : Int32) 11 (by decide) (by decide)
        have i25 : (((u0.toUInt32 >>> ((11 : Int32) &&& 31).toUInt32).toInt32) &&& (1 : Int32)).toInt = ((u0.toUInt32 >>> ((11 : Int32) &&& 31).toUInt32).toInt32).toInt % 2 := c_mask ((u0.toUInt32 >>> ((11 : Int32) &&& 31).toUInt32).toInt32) (1 : Int32) 1 (by decide) (by decide)
        have J113 : ∀ (f3 : Int32), f3 = 0 ∨ f3 = 1 → W K h6 3 10 113 #[.val (.int u0), .val (.long v1), .second, .val (.long v2), .second, .val (.long v3), .second, .val (.long v4), .second, .val (.long v5), .second, .val (.int z), .val (.ref b5), .val (.int r1), .val (.int r2), .val (.int r3), .val (.int f1), .val (.int f2), .unset, .unset, .unset, .unset, .unset, .unset, .unset, .unset, .unset, .unset] [(.int f3)] := by
          intro f3 hJ113
          clear i24 i25
          refine w_istore O at_113 (L' := #[.val (.int u0), .val (.long v1), .second, .val (.long v2), .second, .val (.long v3), .second, .val (.long v4), .second, .val (.long v5), .second, .val (.int z), .val (.ref b5), .val (.int r1), .val (.int r2), .val (.int r3), .val (.int f1), .val (.int f2), .val (.int f3), .unset, .unset, .unset, .unset, .unset, .unset, .unset, .unset, .unset]) (pc' := 115) rfl rfl ?_
          refine w_lloadN O at_115 (pc' := 116) rfl rfl ?_
          refine w_ldc2 O at_116 (pc' := 119) rfl (mw 24 rfl) ?_
          refine w_land O at_119 (pc' := 120) rfl ?_
          refine w_lstoreG O at_120 (L' := fun zq => #[.val (.int u0), .val (.long v1), .second, .val (.long v2), .second, .val (.long v3), .second, .val (.long v4), .second, .val (.long v5), .second, .val (.int z), .val (.ref b5), .val (.int r1), .val (.int r2), .val (.int r3), .val (.int f1), .val (.int f2), .val (.int f3), .val (.long zq), .second, .unset, .unset, .unset, .unset, .unset, .unset, .unset]) (pc' := 122) rfl (fun _ => rfl) (fun l1 e_l1 => ?_)
          have i27 : (v2 &&& (9223372036854775807 : Int64)).toInt = v2.toInt % 9223372036854775808 := c_maskL v2 (9223372036854775807 : Int64) 63 (by decide) (by decide)
          have j_l1 := congrArg Int64.toInt e_l1
          have r_l1 := rng64 l1
          have hl1 : 0 ≤ l1.toInt := by omega
          clear i27 j_l1
          refine w_lload O at_122 (pc' := 124) rfl rfl ?_
          refine w_ldc2 O at_124 (pc' := 127) rfl (mw 24 rfl) ?_
          refine w_land O at_127 (pc' := 128) rfl ?_
          refine w_lstoreG O at_128 (L' := fun zq => #[.val (.int u0), .val (.long v1), .second, .val (.long v2), .second, .val (.long v3), .second, .val (.long v4), .second, .val (.long v5), .second, .val (.int z), .val (.ref b5), .val (.int r1), .val (.int r2), .val (.int r3), .val (.int f1), .val (.int f2), .val (.int f3), .val (.long l1), .second, .val (.long zq), .second, .unset, .unset, .unset, .unset, .unset]) (pc' := 130) rfl (fun _ => rfl) (fun l2 e_l2 => ?_)
          have i29 : (v4 &&& (9223372036854775807 : Int64)).toInt = v4.toInt % 9223372036854775808 := c_maskL v4 (9223372036854775807 : Int64) 63 (by decide) (by decide)
          have j_l2 := congrArg Int64.toInt e_l2
          have r_l2 := rng64 l2
          have hl2 : 0 ≤ l2.toInt := by omega
          clear i29 j_l2
          refine w_lload O at_130 (pc' := 132) rfl rfl ?_
          refine w_ldc2 O at_132 (pc' := 135) rfl (mw 24 rfl) ?_
          refine w_land O at_135 (pc' := 136) rfl ?_
          refine w_lstoreG O at_136 (L' := fun zq => #[.val (.int u0), .val (.long v1), .second, .val (.long v2), .second, .val (.long v3), .second, .val (.long v4), .second, .val (.long v5), .second, .val (.int z), .val (.ref b5), .val (.int r1), .val (.int r2), .val (.int r3), .val (.int f1), .val (.int f2), .val (.int f3), .val (.long l1), .second, .val (.long l2), .second, .val (.long zq), .second, .unset, .unset, .unset]) (pc' := 138) rfl (fun _ => rfl) (fun l3 e_l3 => ?_)
          have i31 : (v5 &&& (9223372036854775807 : Int64)).toInt = v5.toInt % 9223372036854775808 := c_maskL v5 (9223372036854775807 : Int64) 63 (by decide) (by decide)
          have j_l3 := congrArg Int64.toInt e_l3
          have r_l3 := rng64 l3
          have hl3 : 0 ≤ l3.toInt := by omega
          clear i31 j_l3
          refine w_aload O at_138 (pc' := 140) rfl rfl rfl ?_
          refine w_iload O at_140 (pc' := 142) rfl rfl ?_
          refine w_lloadN O at_142 (pc' := 143) rfl rfl ?_
          refine w_virtual O at_143 (as := [(.int r1), (.long v1)]) (st := []) (wt := 0) (cl' := 3) (sl' := 10) (pc' := 146) rfl (mw 25 rfl) (mw 26 rfl) (mw 28 rfl) (mw 27 rfl) (mw 29 rfl) (mw 2 rfl) (by decide) Bh6.1 (con_handed l Z a0 hw b5 p q n (fun _ => 0) (fun _ => -1) r1 v1 h6 n0 Bh6 k1 hk1 hc1) rfl pd_3 rfl rfl rfl (by decide) (by decide) rfl rfl (by decide) (by decide) (cV fun h32 Bh32 => ?_)
          refine w_iload O at_146 (pc' := 148) rfl rfl ?_
          have J162 : ∀ (h : Heap) (g : Nat → Int64), Bt Z h n0 b5 p q n (updL (fun _ => 0) k1 v1) g → Acc g (fun j => (¬ f1.toInt = 0 ∧ j = k1)) → W K h 3 10 162 #[.val (.int u0), .val (.long v1), .second, .val (.long v2), .second, .val (.long v3), .second, .val (.long v4), .second, .val (.long v5), .second, .val (.int z), .val (.ref b5), .val (.int r1), .val (.int r2), .val (.int r3), .val (.int f1), .val (.int f2), .val (.int f3), .val (.long l1), .second, .val (.long l2), .second, .val (.long l3), .second, .unset, .unset, .unset] [] := by
            intro h g B hA
            refine w_aload O at_162 (pc' := 164) rfl rfl rfl ?_
            refine w_iload O at_164 (pc' := 166) rfl rfl ?_
            refine w_lload O at_166 (pc' := 168) rfl rfl ?_
            refine w_virtual O at_168 (as := [(.int r2), (.long v3)]) (st := []) (wt := 0) (cl' := 3) (sl' := 10) (pc' := 171) rfl (mw 25 rfl) (mw 26 rfl) (mw 28 rfl) (mw 27 rfl) (mw 29 rfl) (mw 2 rfl) (by decide) B.1 (con_handed l Z a0 hw b5 p q n (updL (fun _ => 0) k1 v1) g r2 v3 h n0 B k2 hk2 hc2) rfl pd_3 rfl rfl rfl (by decide) (by decide) rfl rfl (by decide) (by decide) (cV fun h33 Bh33 => ?_)
            refine w_iload O at_171 (pc' := 173) rfl rfl ?_
            have J188 : ∀ (h : Heap) (g : Nat → Int64), Bt Z h n0 b5 p q n (updL (updL (fun _ => 0) k1 v1) k2 v3) g → Acc g (fun j => (¬ f1.toInt = 0 ∧ j = k1) ∨ (¬ f2.toInt = 0 ∧ j = k2)) → W K h 3 10 188 #[.val (.int u0), .val (.long v1), .second, .val (.long v2), .second, .val (.long v3), .second, .val (.long v4), .second, .val (.long v5), .second, .val (.int z), .val (.ref b5), .val (.int r1), .val (.int r2), .val (.int r3), .val (.int f1), .val (.int f2), .val (.int f3), .val (.long l1), .second, .val (.long l2), .second, .val (.long l3), .second, .unset, .unset, .unset] [] := by
              intro h g B hA
              refine w_iload O at_188 (pc' := 190) rfl rfl ?_
              refine w_iload O at_190 (pc' := 192) rfl rfl ?_
              have J212 : ∀ (b3 : Int64), (updL (updL (fun _ => 0) k1 v1) k2 v3) k3 = b3 → W K h 3 10 212 #[.val (.int u0), .val (.long v1), .second, .val (.long v2), .second, .val (.long v3), .second, .val (.long v4), .second, .val (.long v5), .second, .val (.int z), .val (.ref b5), .val (.int r1), .val (.int r2), .val (.int r3), .val (.int f1), .val (.int f2), .val (.int f3), .val (.long l1), .second, .val (.long l2), .second, .val (.long l3), .second, .unset, .unset, .unset] [(.long b3)] := by
                intro b3 hJ212
                refine w_lstore O at_212 (L' := #[.val (.int u0), .val (.long v1), .second, .val (.long v2), .second, .val (.long v3), .second, .val (.long v4), .second, .val (.long v5), .second, .val (.int z), .val (.ref b5), .val (.int r1), .val (.int r2), .val (.int r3), .val (.int f1), .val (.int f2), .val (.int f3), .val (.long l1), .second, .val (.long l2), .second, .val (.long l3), .second, .val (.long b3), .second, .unset]) (pc' := 214) rfl rfl ?_
                refine w_iload O at_214 (pc' := 216) rfl rfl ?_
                have J231 : ∀ (h : Heap) (g : Nat → Int64), Bt Z h n0 b5 p q n (updL (updL (fun _ => 0) k1 v1) k2 v3) g → Acc g (fun j => (¬ f1.toInt = 0 ∧ j = k1) ∨ (¬ f2.toInt = 0 ∧ j = k2) ∨ (¬ f3.toInt = 0 ∧ j = k3)) → W K h 3 10 231 #[.val (.int u0), .val (.long v1), .second, .val (.long v2), .second, .val (.long v3), .second, .val (.long v4), .second, .val (.long v5), .second, .val (.int z), .val (.ref b5), .val (.int r1), .val (.int r2), .val (.int r3), .val (.int f1), .val (.int f2), .val (.int f3), .val (.long l1), .second, .val (.long l2), .second, .val (.long l3), .second, .val (.long b3), .second, .unset] [] := by
                  intro h g B hA
                  refine w_iconst O at_231 (z := (0 : Int32)) (pc' := 232) rfl rfl ?_
                  refine w_iload O at_232 (pc' := 234) rfl rfl ?_
                  refine w_iload O at_234 (pc' := 236) rfl rfl ?_
                  refine w_iload O at_236 (pc' := 238) rfl rfl ?_
                  refine w_iload O at_238 (pc' := 240) rfl rfl ?_
                  refine w_iload O at_240 (pc' := 242) rfl rfl ?_
                  refine w_iload O at_242 (pc' := 244) rfl rfl ?_
                  refine w_static O at_244 (as := [(.int (0 : Int32)), (.int f1), (.int r1), (.int f2), (.int r2), (.int f3), (.int r3)]) (st := []) (wt := 0) (cl' := 3) (sl' := 10) (pc' := 247) rfl (mw 30 rfl) (mw 31 rfl) (mw 32 rfl) (mw 33 rfl) (by decide) (con_hit l Z a0 hw (0 : Int32) f1 r1 f2 r2 f3 r3 h n0) rfl pd_4 rfl rfl rfl (by decide) (by decide) rfl rfl (by decide) (by decide) (cI fun t0 _ ⟨qt0, st0⟩ => ?_)
                  rw [qt0]
                  replace st0 : HitB t0 0 f1 r1 f2 r2 f3 r3 := st0
                  refine w_iconst O at_247 (z := (1 : Int32)) (pc' := 248) rfl rfl ?_
                  refine w_iload O at_248 (pc' := 250) rfl rfl ?_
                  refine w_iload O at_250 (pc' := 252) rfl rfl ?_
                  refine w_iload O at_252 (pc' := 254) rfl rfl ?_
                  refine w_iload O at_254 (pc' := 256) rfl rfl ?_
                  refine w_iload O at_256 (pc' := 258) rfl rfl ?_
                  refine w_iload O at_258 (pc' := 260) rfl rfl ?_
                  refine w_static O at_260 (as := [(.int (1 : Int32)), (.int f1), (.int r1), (.int f2), (.int r2), (.int f3), (.int r3)]) (st := [(.int t0)]) (wt := 1) (cl' := 3) (sl' := 10) (pc' := 263) rfl (mw 30 rfl) (mw 31 rfl) (mw 32 rfl) (mw 33 rfl) (by decide) (con_hit l Z a0 hw (1 : Int32) f1 r1 f2 r2 f3 r3 h n0) rfl pd_4 rfl rfl rfl (by decide) (by decide) rfl rfl (by decide) (by decide) (cI fun t1 _ ⟨qt1, st1⟩ => ?_)
                  rw [qt1]
                  replace st1 : HitB t1 1 f1 r1 f2 r2 f3 r3 := st1
                  refine w_iadd O at_263 (pc' := 264) rfl ?_
                  refine w_iconst O at_264 (z := (2 : Int32)) (pc' := 265) rfl rfl ?_
                  refine w_iload O at_265 (pc' := 267) rfl rfl ?_
                  refine w_iload O at_267 (pc' := 269) rfl rfl ?_
                  refine w_iload O at_269 (pc' := 271) rfl rfl ?_
                  refine w_iload O at_271 (pc' := 273) rfl rfl ?_
                  refine w_iload O at_273 (pc' := 275) rfl rfl ?_
                  refine w_iload O at_275 (pc' := 277) rfl rfl ?_
                  refine w_static O at_277 (as := [(.int (2 : Int32)), (.int f1), (.int r1), (.int f2), (.int r2), (.int f3), (.int r3)]) (st := [(.int (t0 + t1))]) (wt := 1) (cl' := 3) (sl' := 10) (pc' := 280) rfl (mw 30 rfl) (mw 31 rfl) (mw 32 rfl) (mw 33 rfl) (by decide) (con_hit l Z a0 hw (2 : Int32) f1 r1 f2 r2 f3 r3 h n0) rfl pd_4 rfl rfl rfl (by decide) (by decide) rfl rfl (by decide) (by decide) (cI fun t2 _ ⟨qt2, st2⟩ => ?_)
                  rw [qt2]
                  replace st2 : HitB t2 2 f1 r1 f2 r2 f3 r3 := st2
                  refine w_iadd O at_280 (pc' := 281) rfl ?_
                  refine w_iconst O at_281 (z := (3 : Int32)) (pc' := 282) rfl rfl ?_
                  refine w_iload O at_282 (pc' := 284) rfl rfl ?_
                  refine w_iload O at_284 (pc' := 286) rfl rfl ?_
                  refine w_iload O at_286 (pc' := 288) rfl rfl ?_
                  refine w_iload O at_288 (pc' := 290) rfl rfl ?_
                  refine w_iload O at_290 (pc' := 292) rfl rfl ?_
                  refine w_iload O at_292 (pc' := 294) rfl rfl ?_
                  refine w_static O at_294 (as := [(.int (3 : Int32)), (.int f1), (.int r1), (.int f2), (.int r2), (.int f3), (.int r3)]) (st := [(.int ((t0 + t1) + t2))]) (wt := 1) (cl' := 3) (sl' := 10) (pc' := 297) rfl (mw 30 rfl) (mw 31 rfl) (mw 32 rfl) (mw 33 rfl) (by decide) (con_hit l Z a0 hw (3 : Int32) f1 r1 f2 r2 f3 r3 h n0) rfl pd_4 rfl rfl rfl (by decide) (by decide) rfl rfl (by decide) (by decide) (cI fun t3 _ ⟨qt3, st3⟩ => ?_)
                  rw [qt3]
                  replace st3 : HitB t3 3 f1 r1 f2 r2 f3 r3 := st3
                  refine w_iadd O at_297 (pc' := 298) rfl ?_
                  refine w_istoreG O at_298 (L' := fun zq => #[.val (.int u0), .val (.long v1), .second, .val (.long v2), .second, .val (.long v3), .second, .val (.long v4), .second, .val (.long v5), .second, .val (.int z), .val (.ref b5), .val (.int r1), .val (.int r2), .val (.int r3), .val (.int f1), .val (.int f2), .val (.int f3), .val (.long l1), .second, .val (.long l2), .second, .val (.long l3), .second, .val (.long b3), .second, .val (.int zq)]) (pc' := 300) rfl (fun _ => rfl) (fun ex e_ex => ?_)
                  have i35 : ((t0 + t1).toInt - (t0.toInt + t1.toInt)) % 4294967296 = 0 := c_iadd t0 t1
                  have i36 := rng32 (t0 + t1)
                  have i37 : (((t0 + t1) + t2).toInt - ((t0 + t1).toInt + t2.toInt)) % 4294967296 = 0 := c_iadd (t0 + t1) t2
                  have i38 := rng32 ((t0 + t1) + t2)
                  have i39 : ((((t0 + t1) + t2) + t3).toInt - (((t0 + t1) + t2).toInt + t3.toInt)) % 4294967296 = 0 := c_iadd ((t0 + t1) + t2) t3
                  have i40 := rng32 (((t0 + t1) + t2) + t3)
                  have j_ex := congrArg Int32.toInt e_ex
                  have r_ex := rng32 ex
                  refine w_aload O at_300 (pc' := 302) rfl rfl rfl ?_
                  refine w_virtual O at_302 (as := []) (st := []) (wt := 0) (cl' := 3) (sl' := 10) (pc' := 305) rfl (mw 19 rfl) (mw 20 rfl) (mw 22 rfl) (mw 21 rfl) (mw 23 rfl) (mw 2 rfl) (by decide) B.1 (con_cnt l Z a0 hw b5 p q n (updL (updL (fun _ => 0) k1 v1) k2 v3) g h n0 B z hn) rfl pd_2 rfl rfl rfl (by decide) (by decide) rfl rfl (by decide) (by decide) (cI fun r41 _ ⟨qr41, sr41⟩ => ?_)
                  rw [qr41]
                  refine w_iload O at_305 (pc' := 307) rfl rfl ?_
                  have hcn := own_cnt n g (fun j => (¬ f1.toInt = 0 ∧ j = k1) ∨ (¬ f2.toInt = 0 ∧ j = k2) ∨ (¬ f3.toInt = 0 ∧ j = k3)) hA (fun j q => by (try dsimp only at q); omega) (by omega)
                  have hne : r41.toInt = ex.toInt := by
                    rw [sr41, hcn]
                    have a0 : (if ¬ f1.toInt = 0 ∧ 0 = k1 ∨ ¬ f2.toInt = 0 ∧ 0 = k2 ∨ ¬ f3.toInt = 0 ∧ 0 = k3 then 1 else 0 : Nat) = t0.toInt := by unfold HitB at st0; rw [st0]; split <;> split <;> omega
                    have a1 : ((if ¬ f1.toInt = 0 ∧ 1 = k1 ∨ ¬ f2.toInt = 0 ∧ 1 = k2 ∨ ¬ f3.toInt = 0 ∧ 1 = k3 then 1 else 0 : Nat) : Int) = t1.toInt := by unfold HitB at st1; rw [st1]; split <;> split <;> omega
                    have a2 : ((if ¬ f1.toInt = 0 ∧ 2 = k1 ∨ ¬ f2.toInt = 0 ∧ 2 = k2 ∨ ¬ f3.toInt = 0 ∧ 2 = k3 then 1 else 0 : Nat) : Int) = t2.toInt := by unfold HitB at st2; rw [st2]; split <;> split <;> omega
                    have a3 : ((if ¬ f1.toInt = 0 ∧ 3 = k1 ∨ ¬ f2.toInt = 0 ∧ 3 = k2 ∨ ¬ f3.toInt = 0 ∧ 3 = k3 then 1 else 0 : Nat) : Int) = t3.toInt := by unfold HitB at st3; rw [st3]; split <;> split <;> omega
                    have b0 : 0 ≤ t0.toInt ∧ t0.toInt ≤ 1 := by unfold HitB at st0; rw [st0]; split <;> omega
                    have b1 : 0 ≤ t1.toInt ∧ t1.toInt ≤ 1 := by unfold HitB at st1; rw [st1]; split <;> omega
                    have b2 : 0 ≤ t2.toInt ∧ t2.toInt ≤ 1 := by unfold HitB at st2; rw [st2]; split <;> omega
                    have b3' : 0 ≤ t3.toInt ∧ t3.toInt ≤ 1 := by unfold HitB at st3; rw [st3]; split <;> omega
                    simp only [Int.natCast_add, a0, a1, a2, a3]
                    omega
                  refine w_icmp_ne O at_307 (pn := 310) (pt := 314) rfl (by decide) rfl (fun q => absurd hne q) (fun _ => ?_)
                  refine w_iconst O at_310 (z := (1 : Int32)) (pc' := 311) rfl rfl ?_
                  refine w_goto O at_311 (pc' := 315) (by decide) rfl ?_
                  refine w_retz O at_315 (by decide) (by decide) (Or.inr rfl) ?_
                  exact ⟨_, rfl, rfl⟩
                refine w_if_eq O at_216 (pn := 219) (pt := 231) rfl (by decide) rfl (fun c216 => ?_) (fun c216 => ?_)
                · replace c216 : f3.toInt = 0 := c216
                  exact J231 _ _ B (fun j => (hA j).trans (by (try dsimp only); constructor <;> intro q <;> first | exact False.elim q | omega | (rcases q with q | q <;> first | exact False.elim q | omega)))
                · replace c216 : ¬ f3.toInt = 0 := c216
                  have hv : 0 ≤ ((b3 + l3) - (updL (updL (fun _ => 0) k1 v1) k2 v3) k3).toInt := by
                    rw [hJ212, own_back]; omega
                  refine w_aload O at_219 (pc' := 221) rfl rfl rfl ?_
                  refine w_iload O at_221 (pc' := 223) rfl rfl ?_
                  refine w_lload O at_223 (pc' := 225) rfl rfl ?_
                  refine w_lload O at_225 (pc' := 227) rfl rfl ?_
                  refine w_ladd O at_227 (pc' := 228) rfl ?_
                  have i42 : ((b3 + l3).toInt - (b3.toInt + l3.toInt)) % 18446744073709551616 = 0 := c_ladd b3 l3
                  have i43 := rng64 (b3 + l3)
                  refine w_virtual O at_228 (as := [(.int r3), (.long (b3 + l3))]) (st := []) (wt := 0) (cl' := 3) (sl' := 10) (pc' := 231) rfl (mw 34 rfl) (mw 35 rfl) (mw 37 rfl) (mw 36 rfl) (mw 38 rfl) (mw 2 rfl) (by decide) B.1 (con_acked l Z a0 hw b5 p q n (updL (updL (fun _ => 0) k1 v1) k2 v3) g r3 (b3 + l3) h n0 B k3 hk3 hc3) rfl pd_3 rfl rfl rfl (by decide) (by decide) rfl rfl (by decide) (by decide) (cV fun h44 Bh44 => ?_)
                  exact J231 _ _ Bh44 (fun j => (acc_upd k3 hv hA j).trans (by (try dsimp only); constructor <;> intro q <;> first | exact False.elim q | omega | (rcases q with q | q <;> first | exact False.elim q | omega)))
              refine w_icmp_ne O at_192 (pn := 195) (pt := 200) rfl (by decide) rfl (fun c192 => ?_) (fun c192 => ?_)
              · refine w_iload O at_200 (pc' := 202) rfl rfl ?_
                refine w_iload O at_202 (pc' := 204) rfl rfl ?_
                refine w_icmp_ne O at_204 (pn := 207) (pt := 211) rfl (by decide) rfl (fun c204 => ?_) (fun c204 => ?_)
                · refine w_lconst O at_211 (z := (0 : Int64)) (pc' := 212) rfl rfl ?_
                  exact J212 (0 : Int64) (by first | exact (if_pos (by omega)) | exact (if_neg (by omega)).trans (if_pos (by omega)) | exact (if_neg (by omega)).trans (if_neg (by omega)))
                · refine w_lloadN O at_207 (pc' := 208) rfl rfl ?_
                  refine w_goto O at_208 (pc' := 212) (by decide) rfl ?_
                  exact J212 v1 (by first | exact (if_pos (by omega)) | exact (if_neg (by omega)).trans (if_pos (by omega)) | exact (if_neg (by omega)).trans (if_neg (by omega)))
              · refine w_lload O at_195 (pc' := 197) rfl rfl ?_
                refine w_goto O at_197 (pc' := 212) (by decide) rfl ?_
                exact J212 v3 (by first | exact (if_pos (by omega)) | exact (if_neg (by omega)).trans (if_pos (by omega)) | exact (if_neg (by omega)).trans (if_neg (by omega)))
            refine w_if_eq O at_173 (pn := 176) (pt := 188) rfl (by decide) rfl (fun c173 => ?_) (fun c173 => ?_)
            · replace c173 : f2.toInt = 0 := c173
              exact J188 _ _ Bh33 (fun j => (hA j).trans (by (try dsimp only); constructor <;> intro q <;> first | exact False.elim q | omega | (rcases q with q | q <;> first | exact False.elim q | omega)))
            · replace c173 : ¬ f2.toInt = 0 := c173
              have hv : 0 ≤ ((v3 + l2) - (updL (updL (fun _ => 0) k1 v1) k2 v3) k2).toInt := by
                rw [show (updL (updL (fun _ => 0) k1 v1) k2 v3) k2 = v3 from if_pos rfl, own_back]; omega
              refine w_aload O at_176 (pc' := 178) rfl rfl rfl ?_
              refine w_iload O at_178 (pc' := 180) rfl rfl ?_
              refine w_lload O at_180 (pc' := 182) rfl rfl ?_
              refine w_lload O at_182 (pc' := 184) rfl rfl ?_
              refine w_ladd O at_184 (pc' := 185) rfl ?_
              have i45 : ((v3 + l2).toInt - (v3.toInt + l2.toInt)) % 18446744073709551616 = 0 := c_ladd v3 l2
              have i46 := rng64 (v3 + l2)
              refine w_virtual O at_185 (as := [(.int r2), (.long (v3 + l2))]) (st := []) (wt := 0) (cl' := 3) (sl' := 10) (pc' := 188) rfl (mw 34 rfl) (mw 35 rfl) (mw 37 rfl) (mw 36 rfl) (mw 38 rfl) (mw 2 rfl) (by decide) Bh33.1 (con_acked l Z a0 hw b5 p q n (updL (updL (fun _ => 0) k1 v1) k2 v3) g r2 (v3 + l2) h33 n0 Bh33 k2 hk2 hc2) rfl pd_3 rfl rfl rfl (by decide) (by decide) rfl rfl (by decide) (by decide) (cV fun h47 Bh47 => ?_)
              exact J188 _ _ Bh47 (fun j => (acc_upd k2 hv hA j).trans (by (try dsimp only); constructor <;> intro q <;> first | exact False.elim q | omega | (rcases q with q | q <;> first | exact False.elim q | omega)))
          refine w_if_eq O at_148 (pn := 151) (pt := 162) rfl (by decide) rfl (fun c148 => ?_) (fun c148 => ?_)
          · replace c148 : f1.toInt = 0 := c148
            exact J162 _ _ Bh32 (fun j => (acc_base j).trans (by (try dsimp only); constructor <;> intro q <;> first | exact False.elim q | omega | (rcases q with q | q <;> first | exact False.elim q | omega)))
          · replace c148 : ¬ f1.toInt = 0 := c148
            have hv : 0 ≤ ((v1 + l1) - (updL (fun _ => 0) k1 v1) k1).toInt := by
              rw [show (updL (fun _ => 0) k1 v1) k1 = v1 from if_pos rfl, own_back]; omega
            refine w_aload O at_151 (pc' := 153) rfl rfl rfl ?_
            refine w_iload O at_153 (pc' := 155) rfl rfl ?_
            refine w_lloadN O at_155 (pc' := 156) rfl rfl ?_
            refine w_lload O at_156 (pc' := 158) rfl rfl ?_
            refine w_ladd O at_158 (pc' := 159) rfl ?_
            have i48 : ((v1 + l1).toInt - (v1.toInt + l1.toInt)) % 18446744073709551616 = 0 := c_ladd v1 l1
            have i49 := rng64 (v1 + l1)
            refine w_virtual O at_159 (as := [(.int r1), (.long (v1 + l1))]) (st := []) (wt := 0) (cl' := 3) (sl' := 10) (pc' := 162) rfl (mw 34 rfl) (mw 35 rfl) (mw 37 rfl) (mw 36 rfl) (mw 38 rfl) (mw 2 rfl) (by decide) Bh32.1 (con_acked l Z a0 hw b5 p q n (updL (fun _ => 0) k1 v1) (fun _ => -1) r1 (v1 + l1) h32 n0 Bh32 k1 hk1 hc1) rfl pd_3 rfl rfl rfl (by decide) (by decide) rfl rfl (by decide) (by decide) (cV fun h50 Bh50 => ?_)
            exact J162 _ _ Bh50 (fun j => (acc_upd k1 hv acc_base j).trans (by (try dsimp only); constructor <;> intro q <;> first | exact False.elim q | omega | (rcases q with q | q <;> first | exact False.elim q | omega)))
        refine w_if_eq O at_105 (pn := 108) (pt := 112) rfl (by decide) rfl (fun c105 => ?_) (fun c105 => ?_)
        · replace c105 : (((u0.toUInt32 >>> ((11 : Int32) &&& 31).toUInt32).toInt32) &&& (1 : Int32)).toInt = 0 := c105
          refine w_iconst O at_112 (z := (0 : Int32)) (pc' := 113) rfl rfl ?_
          exact J113 (0 : Int32) (by first | exact Or.inl rfl | exact Or.inr rfl)
        · replace c105 : ¬ (((u0.toUInt32 >>> ((11 : Int32) &&& 31).toUInt32).toInt32) &&& (1 : Int32)).toInt = 0 := c105
          refine w_iconst O at_108 (z := (1 : Int32)) (pc' := 109) rfl rfl ?_
          refine w_goto O at_109 (pc' := 113) (by decide) rfl ?_
          exact J113 (1 : Int32) (by first | exact Or.inl rfl | exact Or.inr rfl)
      refine w_if_eq O at_89 (pn := 92) (pt := 96) rfl (by decide) rfl (fun c89 => ?_) (fun c89 => ?_)
      · replace c89 : (((u0.toUInt32 >>> ((10 : Int32) &&& 31).toUInt32).toInt32) &&& (1 : Int32)).toInt = 0 := c89
        refine w_iconst O at_96 (z := (0 : Int32)) (pc' := 97) rfl rfl ?_
        exact J97 (0 : Int32) (by first | exact Or.inl rfl | exact Or.inr rfl)
      · replace c89 : ¬ (((u0.toUInt32 >>> ((10 : Int32) &&& 31).toUInt32).toInt32) &&& (1 : Int32)).toInt = 0 := c89
        refine w_iconst O at_92 (z := (1 : Int32)) (pc' := 93) rfl rfl ?_
        refine w_goto O at_93 (pc' := 97) (by decide) rfl ?_
        exact J97 (1 : Int32) (by first | exact Or.inl rfl | exact Or.inr rfl)
    refine w_if_eq O at_73 (pn := 76) (pt := 80) rfl (by decide) rfl (fun c73 => ?_) (fun c73 => ?_)
    · replace c73 : (((u0.toUInt32 >>> ((9 : Int32) &&& 31).toUInt32).toInt32) &&& (1 : Int32)).toInt = 0 := c73
      refine w_iconst O at_80 (z := (0 : Int32)) (pc' := 81) rfl rfl ?_
      exact J81 (0 : Int32) (by first | exact Or.inl rfl | exact Or.inr rfl)
    · replace c73 : ¬ (((u0.toUInt32 >>> ((9 : Int32) &&& 31).toUInt32).toInt32) &&& (1 : Int32)).toInt = 0 := c73
      refine w_iconst O at_76 (z := (1 : Int32)) (pc' := 77) rfl rfl ?_
      refine w_goto O at_77 (pc' := 81) (by decide) rfl ?_
      exact J81 (1 : Int32) (by first | exact Or.inl rfl | exact Or.inr rfl)
  · replace c31 : z.toInt = 0 := c31
    refine w_iconst O at_34 (z := (1 : Int32)) (pc' := 35) rfl rfl ?_
    refine w_retz O at_35 (by decide) (by decide) (Or.inr rfl) ?_
    exact ⟨_, rfl, rfl⟩
set_option maxRecDepth 65536 in
set_option maxHeartbeats 40000000 in
theorem comes_1 {Post : Tables → Env → Array Value → State → Outcome → State → Prop} (hpost : ∀ tb e args s v u, (limb_1_1.after args s (.returned v) u = true ∧ limb_1_2.after args s (.returned v) u = true ∧ True) → FrameEnd s (.returned v) u (Jvm.fieldLocs frame_1_writes args s ++ Jvm.arrayLocs frame_1_arrays args s ++ Jvm.staticLocs frame_1_statics s) 16 128 → Post tb e args s (.returned v) u) :
    ArmFor flags0 classFile x code maxLocals ret World_1 tables_1 room_1 Calls_1 rest_1 Pre_1 Post := by
  intro l hfl _ _ p e ha hc hk s m args below hf hA hF happ hP
  obtain ⟨hcalls, hrest, hpre⟩ := hP
  obtain ⟨-, -, -, hnamed, -, -, -, hat⟩ := (Spec.applies_iff hf).mp happ
  obtain ⟨hg, hn⟩ := and_e (Cond.before_iff.mp (show (Jvm.Cond.and given_1 narrow_1).before args s = true from hpre))
  obtain ⟨g1, g2⟩ := and_e hg
  obtain ⟨g3, g4⟩ := and_e g2
  obtain ⟨g5, g6⟩ := and_e g4
  obtain ⟨g7, g8⟩ := and_e g6
  obtain ⟨g9, g10⟩ := and_e g8
  obtain ⟨g11, g12⟩ := and_e g10
  obtain ⟨w0, w1, w2, w3, w4, w5, rfl⟩ : ∃ w0 w1 w2 w3 w4 w5 : Value, args = #[w0, w1, w2, w3, w4, w5] := by
    have hs : args.size = 6 := by simpa [Cond.value, given_1] using g1
    obtain ⟨L⟩ := args
    match L, hs with
    | [w0, w1, w2, w3, w4, w5], _ => exact ⟨w0, w1, w2, w3, w4, w5, rfl⟩
  have hw := fun d (hd : d ∈ tables_1) => atoms_spec (ws := Jvm.Cond.code x code maxLocals ret :: tables_1) hat d (List.mem_cons_of_mem _ hd)
  have hfit : Fit s := fun {y c} hc i hi => by
    obtain ⟨ha, rfl⟩ := Array.getElem?_eq_some_iff.mp hc
    have q := List.all_eq_true.mp ((Array.all_eq_true_iff_forall_mem.mp hF) _ (Array.getElem_mem ha)) i (List.mem_range.mpr hi)
    simpa [Array.getElem?_eq_getElem hi] using q
  obtain ⟨i0, ei0⟩ := is_v g3
  obtain rfl : w0 = (.int i0) := Option.some.inj ei0
  obtain ⟨i1, ei1⟩ := isL_v g5
  obtain rfl : w1 = (.long i1) := Option.some.inj ei1
  obtain ⟨i2, ei2⟩ := isL_v g7
  obtain rfl : w2 = (.long i2) := Option.some.inj ei2
  obtain ⟨i3, ei3⟩ := isL_v g9
  obtain rfl : w3 = (.long i3) := Option.some.inj ei3
  obtain ⟨i4, ei4⟩ := isL_v g11
  obtain rfl : w4 = (.long i4) := Option.some.inj ei4
  obtain ⟨i5, ei5⟩ := isL_v g12
  obtain rfl : w5 = (.long i5) := Option.some.inj ei5
  obtain ⟨n, o, h1, h2, h3, _, L, rfl, ⟨⟨r, rfl, rfl⟩, N⟩, hq⟩ := (law_con l s _ hw i0 i1 i2 i3 i4 i5 s.heap s.heap.size) (Nat.le_refl _) tables_1 p e ha hc hk s m _ below hf ((Spec.applies_iff_loose hf).mp happ).1 ⟨rfl, State.Warmed39.refl s, rfl⟩ trivial
  refine ⟨n, _, h1, h2, h3, hpost _ _ _ _ _ _ ⟨Cond.after_iff.mpr rfl, Cond.after_iff.mpr (eq_i res_at (Term.int_eval (1)) rfl), trivial⟩ ⟨hq.1, hq.2.1, (hq.2.2.sift fun y hy => Or.inr (N y hy)).mono (by decide) (by decide)⟩⟩
theorem main_1_1 : Claimed_1_1 := comes_1 fun _ _ _ _ _ _ h hF => ⟨h.1, hF⟩
theorem main_1_2 : Claimed_1_2 := comes_1 fun _ _ _ _ _ _ h hF => ⟨h.2.1, hF⟩
end Jvm.Pilot.@@N@@
namespace Jvm.Pilot.@@N@@
open Jvm Jvm.ClassFile Sem Op Lib Jvm.Free Jvm.Stand Jvm.Pilot.@@N@@.Jvm.D
/-! MADE BY PROGRAM (witnessworld.py) out of the Statement's table words and the real class files: 12 classes; the members and pool entries that the words name. The judged class is class 1, her method 2. -/
namespace start1
open Jvm.ClassFile
def u (s : String) : CpInfo := .utf8 (stringToUtf16 s)
/-- a pool by its gaps: so many unusable entries, then the entry; so many at the end -/
def gap : Nat → List CpInfo → List CpInfo
  | 0, r => r
  | n + 1, r => .unusable :: gap n r
def poolList (es : List (Nat × CpInfo)) (last : Nat) : List CpInfo := es.foldr (fun e r => gap e.1 (e.2 :: r)) (gap last [])
def pool (es : List (Nat × CpInfo)) (last : Nat) : Array CpInfo := ⟨poolList es last⟩
def fileOf (pool : Array CpInfo) (this : Nat) (attrs : Array Attribute := #[]) (ms : Array MethodInfo := #[]) (fl : Nat := 33) (sup : Nat := 0) (ifs : Array Nat := #[]) (fds : Array FieldInfo := #[]) : ClassFile where
  minorVersion := 0
  majorVersion := 65
  constantPool := pool
  accessFlags := fl
  thisClass := this
  superClass := sup
  interfaces := ifs
  fields := fds
  methods := ms
  attributes := attrs
def plain (name : String) (sup : Option ClassId) : Class where
  name := name
  kind := .ordinary
  loader := none
  accessFlags := 33
  super := sup
  interfaces := #[]
  cf := none
  fields := #[]
  methods := #[]
  instanceTypes := #[]
  staticTypes := #[]
  resolved := #[]
  callSites := []
  init := .initialized
  statics := none
  mirror := none

def pool0 : Array CpInfo := pool [(5, u "<init>"), (0, u "()V"), (1, .class_ 10), (1, u "java/lang/Object")] 113

def k0c0 : Code := { maxStack := 0, maxLocals := 1, code := object_method_1_code, exceptionTable := #[], attributes := #[] }
def k0m0 : Method := { name := "<init>", desc := "()V", sig := { parameters := [], returnType := none }, accessFlags := 1, code := some k0c0 }
/-- java/lang/Object -/
def k0 : Class := { plain "java/lang/Object" none with
  accessFlags := 33
  interfaces := #[]
  cf := some (fileOf pool0 8 #[] #[{ accessFlags := 1, nameIndex := 5, descriptorIndex := 6, attributes := #[] }] 33 0 #[] #[])
  fields := #[]
  methods := #[k0m0]
  instanceTypes := #[]
  staticTypes := #[]
  resolved := Array.replicate 124 none
  statics := none }

def pool1 : Array CpInfo := pool [(2, .class_ 4), (1, u "java/lang/Object"), (0, u "<init>"), (0, u "()V"), (0, .class_ 8), (0, u "com/example/ledgerline/ledgerline/service/BenchTimes"), (0, .methodref 7 10), (0, .nameAndType 5 11), (0, u "(I)V"), (0, .methodref 7 13), (0, .nameAndType 14 15), (0, u "acknowledged"), (0, u "()I"), (2, .long 9223372036854775807), (1, .methodref 7 21), (0, .nameAndType 22 23), (0, u "handed"), (0, u "(IJ)V"), (0, .methodref 7 25), (0, .nameAndType 14 23), (0, .methodref 27 28), (0, .class_ 29), (0, .nameAndType 30 31), (0, u "com/example/ledgerline/ledgerline/service/BenchTimesAcknowledgedPinLaw"), (0, u "hit"), (0, u "(IZIZIZI)I"), (3, u "law"), (0, u "(IJJJJJ)Z")] 2

def k1m0 : Method := { name := "<init>", desc := "()V", sig := { parameters := [], returnType := none }, accessFlags := 1, code := none }
def k1c1 : Code := { maxStack := 2, maxLocals := 7, code := method_2_code, exceptionTable := #[], attributes := #[] }
def k1m1 : Method := { name := "hit", desc := "(IZIZIZI)I", sig := { parameters := [.int, .boolean, .int, .boolean, .int, .boolean, .int], returnType := some .int }, accessFlags := 10, code := some k1c1 }
def k1c2 : Code := { maxStack := 8, maxLocals := 28, code := code, exceptionTable := #[], attributes := #[] }
def k1m2 : Method := { name := "law", desc := "(IJJJJJ)Z", sig := { parameters := [.int, .long, .long, .long, .long, .long], returnType := some .boolean }, accessFlags := 9, code := some k1c2 }
/-- com/example/ledgerline/ledgerline/service/BenchTimesAcknowledgedPinLaw -/
def k1 : Class := { plain "com/example/ledgerline/ledgerline/service/BenchTimesAcknowledgedPinLaw" (some 0) with
  accessFlags := 49
  interfaces := #[]
  cf := some (fileOf pool1 27 #[] #[{ accessFlags := 1, nameIndex := 5, descriptorIndex := 6, attributes := #[] }, { accessFlags := 10, nameIndex := 30, descriptorIndex := 31, attributes := #[] }, { accessFlags := 9, nameIndex := 35, descriptorIndex := 36, attributes := #[] }] 49 2 #[] #[])
  fields := #[]
  methods := #[k1m0, k1m1, k1m2]
  instanceTypes := #[]
  staticTypes := #[]
  resolved := Array.replicate 39 none
  statics := none }

def pool2 : Array CpInfo := pool [(1, .methodref 2 3), (0, .class_ 4), (0, .nameAndType 5 6), (0, u "java/lang/Object"), (0, u "<init>"), (0, u "()V"), (0, .fieldref 8 9), (0, .class_ 10), (0, .nameAndType 11 12), (0, u "com/example/ledgerline/ledgerline/service/BenchTimes"), (0, u "handed"), (0, u "[J"), (0, .fieldref 8 14), (0, .nameAndType 15 12), (0, u "latencies"), (0, .long 18446744073709551615), (1, .methodref 19 20), (0, .class_ 21), (0, .nameAndType 22 23), (0, u "java/util/Arrays"), (0, u "fill"), (0, u "([JJ)V"), (2, u "acknowledged"), (0, u "()I"), (67, u "NANOS_PER_MS"), (0, u "D"), (1, u "NANOS_PER_S"), (0, u "MS_PER_S"), (0, u "(I)V"), (2, u "(IJ)V")] 22

def k2c0 : Code := { maxStack := 3, maxLocals := 2, code := prog_55_method_1_code, exceptionTable := #[], attributes := #[] }
def k2m0 : Method := { name := "<init>", desc := "(I)V", sig := { parameters := [.int], returnType := none }, accessFlags := 0, code := some k2c0 }
def k2c1 : Code := { maxStack := 4, maxLocals := 4, code := prog_55_method_2_code, exceptionTable := #[], attributes := #[] }
def k2m1 : Method := { name := "handed", desc := "(IJ)V", sig := { parameters := [.int, .long], returnType := none }, accessFlags := 0, code := some k2c1 }
def k2c2 : Code := { maxStack := 6, maxLocals := 4, code := prog_55_method_3_code, exceptionTable := #[], attributes := #[] }
def k2m2 : Method := { name := "acknowledged", desc := "(IJ)V", sig := { parameters := [.int, .long], returnType := none }, accessFlags := 0, code := some k2c2 }
def k2c3 : Code := { maxStack := 5, maxLocals := 7, code := prog_55_method_5_code, exceptionTable := #[], attributes := #[] }
def k2m3 : Method := { name := "acknowledged", desc := "()I", sig := { parameters := [], returnType := some .int }, accessFlags := 0, code := some k2c3 }
/-- com/example/ledgerline/ledgerline/service/BenchTimes -/
def k2 : Class := { plain "com/example/ledgerline/ledgerline/service/BenchTimes" (some 0) with
  accessFlags := 48
  interfaces := #[]
  cf := some (fileOf pool2 8 #[] #[{ accessFlags := 0, nameIndex := 5, descriptorIndex := 100, attributes := #[] }, { accessFlags := 0, nameIndex := 11, descriptorIndex := 103, attributes := #[] }, { accessFlags := 0, nameIndex := 26, descriptorIndex := 103, attributes := #[] }, { accessFlags := 0, nameIndex := 26, descriptorIndex := 27, attributes := #[] }] 48 2 #[] #[{ accessFlags := 26, nameIndex := 95, descriptorIndex := 96, attributes := #[] }, { accessFlags := 26, nameIndex := 98, descriptorIndex := 96, attributes := #[] }, { accessFlags := 26, nameIndex := 99, descriptorIndex := 96, attributes := #[] }, { accessFlags := 18, nameIndex := 11, descriptorIndex := 12, attributes := #[] }, { accessFlags := 18, nameIndex := 15, descriptorIndex := 12, attributes := #[] }])
  fields := #[{ name := "NANOS_PER_MS", type := .double, accessFlags := 26, slot := 0, constantValue := 0 }, { name := "NANOS_PER_S", type := .double, accessFlags := 26, slot := 1, constantValue := 0 }, { name := "MS_PER_S", type := .double, accessFlags := 26, slot := 2, constantValue := 0 }, { name := "handed", type := (.array .long), accessFlags := 18, slot := 0, constantValue := 0 }, { name := "latencies", type := (.array .long), accessFlags := 18, slot := 1, constantValue := 0 }]
  methods := #[k2m0, k2m1, k2m2, k2m3]
  instanceTypes := #[(.array .long), (.array .long)]
  staticTypes := #[.double, .double, .double]
  resolved := Array.replicate 126 none
  statics := none }

def pool3 : Array CpInfo := pool [(2, .class_ 4), (1, u "java/lang/Object"), (0, u "<init>"), (0, u "()V"), (7, .class_ 16), (1, u "java/util/Arrays"), (57, .class_ 76), (1, u "java/util/Arrays$NaturalOrder"), (36, .class_ 115), (1, u "java/util/Arrays$LegacyMergeSort"), (1, u "Z"), (257, .class_ 376), (0, u "java/util/Arrays$ArrayList"), (68, u "$assertionsDisabled"), (269, u "MIN_ARRAY_SORT_GRAN"), (0, u "I"), (2, u "INSERTIONSORT_THRESHOLD"), (120, u "fill"), (0, u "([JJ)V"), (133, .class_ 976), (0, u "java/util/Arrays$ArrayItr")] 52

def k3m0 : Method := { name := "<init>", desc := "()V", sig := { parameters := [], returnType := none }, accessFlags := 2, code := none }
def k3c1 : Code := { maxStack := 4, maxLocals := 5, code := jdk_65_method_101_code, exceptionTable := #[], attributes := #[] }
def k3m1 : Method := { name := "fill", desc := "([JJ)V", sig := { parameters := [(.array .long), .long], returnType := none }, accessFlags := 9, code := some k3c1 }
/-- java/util/Arrays -/
def k3 : Class := { plain "java/util/Arrays" (some 0) with
  accessFlags := 49
  interfaces := #[]
  cf := some (fileOf pool3 14 #[.nestMembers #[975, 375, 113, 74]] #[{ accessFlags := 2, nameIndex := 5, descriptorIndex := 6, attributes := #[] }, { accessFlags := 9, nameIndex := 840, descriptorIndex := 841, attributes := #[] }] 49 2 #[] #[{ accessFlags := 26, nameIndex := 715, descriptorIndex := 716, attributes := #[] }, { accessFlags := 26, nameIndex := 719, descriptorIndex := 716, attributes := #[] }, { accessFlags := 4120, nameIndex := 445, descriptorIndex := 117, attributes := #[] }])
  fields := #[{ name := "MIN_ARRAY_SORT_GRAN", type := .int, accessFlags := 26, slot := 0, constantValue := 0 }, { name := "INSERTIONSORT_THRESHOLD", type := .int, accessFlags := 26, slot := 1, constantValue := 0 }, { name := "$assertionsDisabled", type := .boolean, accessFlags := 4120, slot := 2, constantValue := 0 }]
  methods := #[k3m0, k3m1]
  instanceTypes := #[]
  staticTypes := #[.int, .int, .boolean]
  resolved := Array.replicate 1029 none
  statics := none }

def pool4 : Array CpInfo := pool [(1, u "java/lang/Cloneable"), (0, .class_ 1), (0, u "java/lang/Object"), (0, .class_ 3)] 3

/-- java/lang/Cloneable -/
def k4 : Class := { plain "java/lang/Cloneable" (some 0) with
  accessFlags := 1537
  interfaces := #[]
  cf := some (fileOf pool4 2 #[] #[] 1537 4 #[] #[])
  fields := #[]
  methods := #[]
  instanceTypes := #[]
  staticTypes := #[]
  resolved := Array.replicate 8 none
  statics := none }

def pool5 : Array CpInfo := pool [(1, u "java/io/Serializable"), (0, .class_ 1), (0, u "java/lang/Object"), (0, .class_ 3)] 3

/-- java/io/Serializable -/
def k5 : Class := { plain "java/io/Serializable" (some 0) with
  accessFlags := 1537
  interfaces := #[]
  cf := some (fileOf pool5 2 #[] #[] 1537 4 #[] #[])
  fields := #[]
  methods := #[]
  instanceTypes := #[]
  staticTypes := #[]
  resolved := Array.replicate 8 none
  statics := none }

/-- the primitive byte -/
def k6 : Class := { plain "byte" none with kind := .primitive 'B', accessFlags := 0x411 }
/-- [B -/
def k7 : Class := { plain "[B" (some 0) with kind := .array 6 .byte, interfaces := #[4, 5], accessFlags := 1041 }

/-- the primitive int -/
def k8 : Class := { plain "int" none with kind := .primitive 'I', accessFlags := 0x411 }
/-- [I -/
def k9 : Class := { plain "[I" (some 0) with kind := .array 8 .int, interfaces := #[4, 5], accessFlags := 1041 }

/-- the primitive long -/
def k10 : Class := { plain "long" none with kind := .primitive 'J', accessFlags := 0x411 }
/-- [J -/
def k11 : Class := { plain "[J" (some 0) with kind := .array 10 .long, interfaces := #[4, 5], accessFlags := 1041 }

def heap : Heap := #[]
def classes : Array Class := #[k0, k1, k2, k3, k4, k5, k6, k7, k8, k9, k10, k11]
def interned : List (Array UInt16 × Addr) := []
def slotsUsed : Nat := 0
def theMethod : MethodId := ⟨1, 2⟩
def args0 : Array Value := #[.int 7, .long 1, .long 2, .long 3, .long 5, .long 6]
def aboutOver (below : List Frame) : State where
  vm := { classes := classes, interned := interned.toArray }
  heap := heap
  slotsUsed := slotsUsed
  threads := #[{ frames := .invoking theMethod args0 :: below }]
def below0 : List Frame := [.native { method := ⟨0, 0⟩, args := #[] }]
def about1 : State := aboutOver below0
def p0 : Program := .bare "" "" ""
def e0 : Env := launch0.env 0 0 0
theorem w_frames : about1.frames = Frame.invoking theMethod args0 :: below0 := rfl
set_option maxRecDepth 65536 in
theorem w_args : argsFit about1.vm theMethod args0 = true := by decide +kernel
set_option maxRecDepth 65536 in
theorem w_heap : heapFits about1 = true := by decide +kernel
set_option maxRecDepth 65536 in
theorem w_runnable : about1.curStatus? = some .runnable := by decide +kernel
set_option maxRecDepth 65536 in
theorem w_alone : about1.alone = true := by decide +kernel
set_option maxRecDepth 65536 in
theorem w_named : about1.methodNamed? x = some theMethod := by decide +kernel
set_option maxRecDepth 65536 in
theorem w_hears : about1.hears theMethod below0 = true := by decide +kernel
set_option maxRecDepth 65536 in
theorem w_ripe : about1.ripe theMethod args0 below0 = true := by decide +kernel
theorem w_running : about1.status = .running := rfl
set_option maxRecDepth 65536 in
theorem w_room : about1.hasRoom e0.platform room_1 = true :=
  launch0.hasRoom_least _ room_1 (by decide +kernel) (by decide +kernel) (by decide +kernel) (by decide +kernel) (by decide +kernel) (by decide +kernel)
theorem allAtoms_all (ts : List Jvm.Cond) (a : Array Jvm.Value) (st : Jvm.State) : (allAtoms ts).before a st = ts.all (fun c => c.before a st) := by
  induction ts with
  | nil => rfl
  | cons c t ih =>
    show (Jvm.Cond.and c (allAtoms t)).before a st = _
    rw [Jvm.Cond.before_and, ih, List.all_cons]
def words1 : List Jvm.Cond := Jvm.Cond.code x code maxLocals ret :: tables_1
/-- a 'code' word, met by the world's own term for the bytes: nothing is compared byte by byte -/
theorem code_word {y : MethodName} {bytes : ByteArray} {mx : Nat} {rt : Option FieldType} {a : Array Value} {s : State} {m : MethodId} {meth : Method} {c : Code} (h1 : s.methodNamed? y = some m) (h2 : s.vm.method? m = some meth) (h3 : meth.code = some c) (h4 : c.code = bytes)
    (h5 : (c.maxLocals == mx && c.exceptionTable.isEmpty && decide (c.maxStack ≤ mostOperands) && decide (meth.sig.returnType = rt) && !meth.locks && decide (parseMethodDescriptor y.desc = some meth.sig)) = true) : (Jvm.Cond.code y bytes mx rt).before a s = true := by
  simp only [Bool.and_eq_true, beq_iff_eq, Bool.not_eq_true', decide_eq_true_eq] at h5
  obtain ⟨⟨⟨⟨⟨g1, g2⟩, g3⟩, g4⟩, g5⟩, g6⟩ := h5
  simp [Cond.before, Cond.holds, Cond.value, h1, h2, h3, h4, g1, g2, g3, g4, g5, g6]
def isCode : Jvm.Cond → Bool
  | .code _ _ _ _ => true
  | _ => false
theorem all_split {L : List Jvm.Cond} {P : Jvm.Cond → Bool} (h1 : L.all (fun c => isCode c || P c) = true) (h2 : ∀ c ∈ L.filter isCode, P c = true) : L.all P = true := by
  refine List.all_eq_true.mpr fun c hc => ?_
  have h := List.all_eq_true.mp h1 c hc
  rcases Bool.eq_false_or_eq_true (isCode c) with hi | hi
  · exact h2 c (List.mem_filter.mpr ⟨hc, hi⟩)
  · simpa [hi] using h
set_option maxRecDepth 65536 in
theorem w_c0 : (Jvm.Cond.code x code maxLocals ret).before args0 about1 = true := code_word (m := ⟨1, 2⟩) (meth := k1m2) (c := k1c2) (by decide +kernel) rfl rfl rfl (by decide +kernel)
set_option maxRecDepth 65536 in
theorem w_c1 : (Jvm.Cond.code ({ cls := "com/example/ledgerline/ledgerline/service/BenchTimes", name := "<init>", desc := "(I)V" } : Jvm.MethodName) prog_55_method_1_code (2 : Nat) (Option.none : Option Jvm.ClassFile.FieldType)).before args0 about1 = true := code_word (m := ⟨2, 0⟩) (meth := k2m0) (c := k2c0) (by decide +kernel) rfl rfl rfl (by decide +kernel)
set_option maxRecDepth 65536 in
theorem w_c2 : (Jvm.Cond.code ({ cls := "java/lang/Object", name := "<init>", desc := "()V" } : Jvm.MethodName) object_method_1_code (1 : Nat) (Option.none : Option Jvm.ClassFile.FieldType)).before args0 about1 = true := code_word (m := ⟨0, 0⟩) (meth := k0m0) (c := k0c0) (by decide +kernel) rfl rfl rfl (by decide +kernel)
set_option maxRecDepth 65536 in
theorem w_c3 : (Jvm.Cond.code ({ cls := "java/util/Arrays", name := "fill", desc := "([JJ)V" } : Jvm.MethodName) jdk_65_method_101_code (5 : Nat) (Option.none : Option Jvm.ClassFile.FieldType)).before args0 about1 = true := code_word (m := ⟨3, 1⟩) (meth := k3m1) (c := k3c1) (by decide +kernel) rfl rfl rfl (by decide +kernel)
set_option maxRecDepth 65536 in
theorem w_c4 : (Jvm.Cond.code ({ cls := "com/example/ledgerline/ledgerline/service/BenchTimes", name := "acknowledged", desc := "()I" } : Jvm.MethodName) prog_55_method_5_code (7 : Nat) (Option.some Jvm.ClassFile.FieldType.int)).before args0 about1 = true := code_word (m := ⟨2, 3⟩) (meth := k2m3) (c := k2c3) (by decide +kernel) rfl rfl rfl (by decide +kernel)
set_option maxRecDepth 65536 in
theorem w_c5 : (Jvm.Cond.code ({ cls := "com/example/ledgerline/ledgerline/service/BenchTimes", name := "handed", desc := "(IJ)V" } : Jvm.MethodName) prog_55_method_2_code (4 : Nat) (Option.none : Option Jvm.ClassFile.FieldType)).before args0 about1 = true := code_word (m := ⟨2, 1⟩) (meth := k2m1) (c := k2c1) (by decide +kernel) rfl rfl rfl (by decide +kernel)
set_option maxRecDepth 65536 in
theorem w_c6 : (Jvm.Cond.code ({ cls := "com/example/ledgerline/ledgerline/service/BenchTimesAcknowledgedPinLaw", name := "hit", desc := "(IZIZIZI)I" } : Jvm.MethodName) method_2_code (7 : Nat) (Option.some Jvm.ClassFile.FieldType.int)).before args0 about1 = true := code_word (m := ⟨1, 1⟩) (meth := k1m1) (c := k1c1) (by decide +kernel) rfl rfl rfl (by decide +kernel)
set_option maxRecDepth 65536 in
theorem w_c7 : (Jvm.Cond.code ({ cls := "com/example/ledgerline/ledgerline/service/BenchTimes", name := "acknowledged", desc := "(IJ)V" } : Jvm.MethodName) prog_55_method_3_code (4 : Nat) (Option.none : Option Jvm.ClassFile.FieldType)).before args0 about1 = true := code_word (m := ⟨2, 2⟩) (meth := k2m2) (c := k2c2) (by decide +kernel) rfl rfl rfl (by decide +kernel)
def codes1 : List Jvm.Cond := [Jvm.Cond.code x code maxLocals ret, Jvm.Cond.code ({ cls := "com/example/ledgerline/ledgerline/service/BenchTimes", name := "<init>", desc := "(I)V" } : Jvm.MethodName) prog_55_method_1_code (2 : Nat) (Option.none : Option Jvm.ClassFile.FieldType), Jvm.Cond.code ({ cls := "java/lang/Object", name := "<init>", desc := "()V" } : Jvm.MethodName) object_method_1_code (1 : Nat) (Option.none : Option Jvm.ClassFile.FieldType), Jvm.Cond.code ({ cls := "java/util/Arrays", name := "fill", desc := "([JJ)V" } : Jvm.MethodName) jdk_65_method_101_code (5 : Nat) (Option.none : Option Jvm.ClassFile.FieldType), Jvm.Cond.code ({ cls := "com/example/ledgerline/ledgerline/service/BenchTimes", name := "acknowledged", desc := "()I" } : Jvm.MethodName) prog_55_method_5_code (7 : Nat) (Option.some Jvm.ClassFile.FieldType.int), Jvm.Cond.code ({ cls := "com/example/ledgerline/ledgerline/service/BenchTimes", name := "handed", desc := "(IJ)V" } : Jvm.MethodName) prog_55_method_2_code (4 : Nat) (Option.none : Option Jvm.ClassFile.FieldType), Jvm.Cond.code ({ cls := "com/example/ledgerline/ledgerline/service/BenchTimesAcknowledgedPinLaw", name := "hit", desc := "(IZIZIZI)I" } : Jvm.MethodName) method_2_code (7 : Nat) (Option.some Jvm.ClassFile.FieldType.int), Jvm.Cond.code ({ cls := "com/example/ledgerline/ledgerline/service/BenchTimes", name := "acknowledged", desc := "(IJ)V" } : Jvm.MethodName) prog_55_method_3_code (4 : Nat) (Option.none : Option Jvm.ClassFile.FieldType)]
set_option maxRecDepth 65536 in
theorem codes_eq : words1.filter isCode = codes1 := rfl
theorem w_codes : ∀ c ∈ words1.filter isCode, c.before args0 about1 = true := by
  rw [codes_eq]
  intro c hc
  simp only [codes1, List.mem_cons, List.not_mem_nil, or_false] at hc
  rcases hc with rfl | rfl | rfl | rfl | rfl | rfl | rfl | rfl
  · exact w_c0
  · exact w_c1
  · exact w_c2
  · exact w_c3
  · exact w_c4
  · exact w_c5
  · exact w_c6
  · exact w_c7
set_option maxRecDepth 65536 in
theorem w_t1 : (words1.take 24).all (fun c => isCode c || c.before args0 about1) = true := by decide +kernel
set_option maxRecDepth 65536 in
theorem w_t2 : (words1.drop 24).all (fun c => isCode c || c.before args0 about1) = true := by decide +kernel
theorem w_tables : (allAtoms (Jvm.Cond.code x code maxLocals ret :: tables_1)).before args0 about1 = true := by
  rw [allAtoms_all]
  show words1.all (fun c => c.before args0 about1) = true
  refine all_split ?_ w_codes
  rw [← List.take_append_drop 24 words1, List.all_append, w_t1, w_t2]
  rfl
set_option maxRecDepth 65536 in
theorem w_case : (Jvm.Cond.and given_1 narrow_1).before args0 about1 = true := by decide +kernel
theorem w_applies : (headSpec (Jvm.Cond.code x code maxLocals ret :: tables_1) room_1).applies x e0.platform about1 = true :=
  (Spec.applies_iff w_frames).mpr ⟨w_running, w_runnable, w_alone, w_named, w_hears, w_ripe, w_room, w_tables⟩
theorem atStart : AtStart classFile x code maxLocals ret World_1 tables_1 room_1 Calls_1 rest_1 Pre_1 launch0 p0 e0 about1 theMethod args0 below0 :=
  ⟨lists_1, trivial, launch0.admits_env _ _ _, launch0.least_env, fairChoices_fair.cas, fairChoices_fair.clock, w_frames, w_args, w_heap, w_applies, trivial, trivial, w_case⟩
end start1
theorem witness_1 : WitnessClaimed_1 := ⟨start1.p0, start1.e0, start1.about1, start1.theMethod, start1.args0, start1.below0, start1.atStart⟩
end Jvm.Pilot.@@N@@
