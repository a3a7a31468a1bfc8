import JvmDerived
import JvmDerived.Pilot.@@N@@Statement
import JvmDerived.Pilot.@@N@@Code
set_option linter.unusedVariables false
set_option linter.unusedSimpArgs false
namespace Jvm.Pilot.@@N@@
open Jvm Jvm.ClassFile Sem Op Lib Jvm.Free Jvm.Stand Jvm.LawKit Jvm.RoadKit Bundle Jvm.Pilot.@@N@@.Jvm.D

/-! ## OWN LAYER: weakest preconditions over the walk -/
abbrev Cx : Type := (Program × Launch × Env × Room) × (State × MethodId × Array Value × List Frame) × (Method × Code) × (Option Value → Heap → Prop) × Nat
abbrev Sd (K : Cx) (T : State) (locs : List Loc) (cells slots : Nat) : Prop := Stand K.1.1 K.1.2.1 K.1.2.2.1 K.1.2.2.2 K.2.1.1 K.2.1.2.1 K.2.1.2.2.1 K.2.1.2.2.2 K.2.2.1.1 K.2.2.1.2 T locs cells slots
abbrev Stp (K : Cx) (A B : State) : Prop := Steps K.1.1.tables K.1.2.2.1 K.2.1.2.2.2 A B
abbrev Tp (K : Cx) (T : State) (pc : Nat) (L : Array Slot) (st : List Value) : State := T.setTop (mkF K.2.1.2.1 pc L st)
/-- from every state that stands at pc with these locals, this stack and this heap the run ends as K says -/
def W (K : Cx) (h : Heap) (cells slots pc : Nat) (L : Array Slot) (st : List Value) : Prop :=
  ∀ T locs, Sd K T locs cells slots → T.heap = h → Fr K.2.2.2.2 locs →
    ∃ s₂ o, Stp K (Tp K T pc L st) s₂ ∧ s₂.status = .running ∧ Ended s₂ K.2.1.2.2.2 o ∧ ∃ v Ls, o = .returned v ∧ (K.2.2.2.1 v s₂.heap ∧ Fr K.2.2.2.2 Ls) ∧ FrameEnd K.2.1.1 o s₂ Ls K.1.2.2.2.cells K.1.2.2.2.slots
def Ok (K : Cx) (l : Launch) (Z : State) (a0 : Array Value) (ts : List Jvm.Cond) (B : ByteArray) (ml : Nat) (rt : Option FieldType) (own nm : String) (R : Room) (n0 : Nat) (Q : Option Value → Heap → Prop) : Prop :=
  K.1.1.tables.exec = Jvm.exec ∧ K.2.2.1.2.code = B ∧ K.2.2.1.2.maxLocals = ml ∧ K.2.1.1.vm.findClass own = some K.2.1.2.1.cls ∧ K.2.2.1.1.name = nm ∧ K.2.2.1.1.sig.returnType = rt ∧ K.2.2.1.1.locks = false ∧ Z.Warmed39 K.2.1.1.vm ∧ (∀ d ∈ ts, d.before a0 Z = true) ∧ n0 ≤ K.2.1.1.heap.size ∧ K.1.2.1 = l ∧ K.1.2.2.2 = R ∧ K.2.2.2.2 = n0 ∧ K.2.2.2.1 = Q
/-- a body's contract -/
def Con (l : Launch) (Z : State) (y : MethodName) (B : ByteArray) (ml : Nat) (rt : Option FieldType) (rm : Room) (as : List Value) (h : Heap) (n0 : Nat) (Q : Option Value → Heap → Prop) : Prop :=
  n0 ≤ h.size → ∀ ws, MetFree l y (head1 (Jvm.Cond.code y B ml rt :: ws) rm) (fun a U => a = as.toArray ∧ Z.Warmed39 U.vm ∧ U.heap = h) (fun _ _ _ _ _ => True) (fun _ U o U' => ∃ v L, o = .returned v ∧ (Q v U'.heap ∧ Fr n0 L) ∧ FrameEnd U o U' L rm.cells rm.slots)
def RetI (P : Int32 → Heap → Prop) (v : Option Value) (h : Heap) : Prop := ∃ r, v = some (.int r) ∧ P r h
def RetL (P : Int64 → Heap → Prop) (v : Option Value) (h : Heap) : Prop := ∃ r, v = some (.long r) ∧ P r h
def RetA (P : Value → Heap → Prop) (v : Option Value) (h : Heap) : Prop := ∃ r, v = some r ∧ r.isRef = true ∧ P r h
def RetV (P : Heap → Prop) (v : Option Value) (h : Heap) : Prop := v = none ∧ P h
section OwnW
variable {K : Cx} {l : Launch} {Z : State} {a0 : Array Value} {ts : List Jvm.Cond} {B : ByteArray} {ml : Nat} {rt : Option FieldType} {own nm : String} {R : Room} {n0 : Nat} {Q : Option Value → Heap → Prop} {h : Heap} {cl sl pc pc' : Nat} {L L' : Array Slot} {st st' : List Value}
theorem W.step (f : ∀ T locs, Sd K T locs cl sl → T.heap = h → ∀ t, Stp K (Tp K T pc' L' st') t → Stp K (Tp K T pc L st) t) (k : W K h cl sl pc' L' st') : W K h cl sl pc L st := fun T locs X e N => by
  obtain ⟨s2, o, h1, r⟩ := k T locs X e N
  exact ⟨s2, o, f T locs X e _ h1, r⟩
theorem W.stepT (f : ∀ T locs, Sd K T locs cl sl → T.heap = h → ∃ T', Sd K T' locs cl sl ∧ T'.heap = h ∧ ∀ t, Stp K (Tp K T' pc' L' st') t → Stp K (Tp K T pc L st) t) (k : W K h cl sl pc' L' st') : W K h cl sl pc L st := fun T locs X e N => by
  obtain ⟨T', X', e', g⟩ := f T locs X e
  obtain ⟨s2, o, h1, r⟩ := k T' locs X' e' N
  exact ⟨s2, o, g _ h1, r⟩
theorem W.stepW {a : Addr} {i : Nat} {v : Value} (f : ∀ T locs, Sd K T locs cl sl → T.heap = h → ∃ T' h', Sd K T' (locs ++ [⟨a, i⟩]) cl sl ∧ T'.heap = h' ∧ Wr h h' a i v ∧ ∀ t, Stp K (Tp K T' pc' L' st') t → Stp K (Tp K T pc L st) t) (ha : K.2.2.2.2 ≤ a) (k : ∀ h', Wr h h' a i v → W K h' cl sl pc' L' st') : W K h cl sl pc L st := fun T locs X e N => by
  obtain ⟨T', h', X', e', w, g⟩ := f T locs X e
  obtain ⟨s2, o, h1, r⟩ := k h' w T' _ X' e' (Fr.snoc X' N ha)
  exact ⟨s2, o, g _ h1, r⟩
theorem W.mono {cl' sl' : Nat} (hc : cl ≤ cl') (hs : sl ≤ sl') (k : W K h cl' sl' pc L st) : W K h cl sl pc L st := fun T locs X e N => k T locs (X.mono hc hs) e N
theorem Sd.size {T : State} {locs : List Loc} (X : Sd K T locs cl sl) : K.2.1.1.heap.size ≤ T.heap.size := X.same.2.1
theorem cI {cl' sl' : Nat} {P : Int32 → Heap → Prop} (k : ∀ r h', P r h' → W K h' cl' sl' pc' L (.int r :: st)) : ∀ v h', RetI P v h' → W K h' cl' sl' pc' L (v.toList ++ st) := by
  rintro _ h' ⟨r, rfl, hp⟩; exact k r h' hp
theorem cL {cl' sl' : Nat} {P : Int64 → Heap → Prop} (k : ∀ r h', P r h' → W K h' cl' sl' pc' L (.long r :: st)) : ∀ v h', RetL P v h' → W K h' cl' sl' pc' L (v.toList ++ st) := by
  rintro _ h' ⟨r, rfl, hp⟩; exact k r h' hp
theorem cA {cl' sl' : Nat} {P : Value → Heap → Prop} (k : ∀ r h', r.isRef = true → P r h' → W K h' cl' sl' pc' L (r :: st)) : ∀ v h', RetA P v h' → W K h' cl' sl' pc' L (v.toList ++ st) := by
  rintro _ h' ⟨r, rfl, hr, hp⟩; exact k r h' hr hp
theorem cV {cl' sl' : Nat} {P : Heap → Prop} (k : ∀ h', P h' → W K h' cl' sl' pc' L st) : ∀ v h', RetV P v h' → W K h' cl' sl' pc' L (v.toList ++ st) := by
  rintro _ h' ⟨rfl, hp⟩; exact k h' hp
theorem Con.weak {y : MethodName} {rm : Room} {as : List Value} {Q' : Option Value → Heap → Prop} (c : Con l Z y B ml rt rm as h n0 Q) (q : ∀ v h', Q v h' → Q' v h') : Con l Z y B ml rt rm as h n0 Q' := fun hn ws p e ha hc hk s m args below hf happ hP hK => by
  obtain ⟨n, o, h1, h2, h3, v, L, e1, ⟨h4, h5⟩, h6⟩ := c hn ws p e ha hc hk s m args below hf happ hP hK
  exact ⟨n, o, h1, h2, h3, v, L, e1, ⟨q _ _ h4, h5⟩, h6⟩
theorem Con.body {y : MethodName} {rm : Room} {as : List Value} {L0 : Array Slot} (hw : ∀ d ∈ ts, d.before a0 Z = true) (pn : plainFor y = true) (ef : ∀ m, entryFrame m as.toArray ml = mkF m 0 L0 [])
    (b : ∀ K, Ok K l Z a0 ts B ml rt y.cls y.name rm n0 Q → W K h 0 0 0 L0 []) : Con l Z y B ml rt rm as h n0 Q := by
  intro hn ws
  refine MetFree.of_bodySF pn hisR ?_
  intro p e s m args below meth c s₁ Bd hml0 hP hK
  obtain ⟨rfl, hZ, hh⟩ := hP
  have hown : s.vm.findClass y.cls = some m.cls := findClass_of_methodNamed Bd.named
  have hnm := (name_of_methodNamed Bd.named Bd.method).1
  have X0 : Stand p l e rm s m as.toArray below meth c s₁ [] 0 0 := Stand.of_body Bd
  have e0 : s₁.heap = h := by rw [← hh, Bd.state]; rfl
  have q := b ((p, l, e, rm), (s, m, as.toArray, below), (meth, c), Q, n0) ⟨Bd.exec, Bd.bytes, hml0, hown, hnm, Bd.returns, Bd.notSynchronized, hZ, hw, by rw [← hh] at hn; exact hn, rfl, rfl, rfl, rfl⟩ s₁ [] X0 e0 (Fr.nil _)
  obtain ⟨s2, o, h1, h2, h3, h4⟩ := q
  exact ⟨s2, o, castTop (ef m) h1, h2, h3, h4⟩

theorem w_iloadN (O : Ok K l Z a0 ts B ml rt own nm R n0 Q) {i : Fin 4} {v : Int32} (hd : decode B pc = .ok (.iload_n i, 1)) (hp : pc + 1 = pc') (hl : L[i.val]? = some (.val (.int v))) (k : W K h cl sl pc' L (.int v :: st)) : W K h cl sl pc L (st) := by
  subst hp; exact W.step (fun T locs X e t q => XS.iloadN X.here O.1 rfl (hb O.2.1 hd) hl q) k
theorem w_iload (O : Ok K l Z a0 ts B ml rt own nm R n0 Q) {i : Nat} {v : Int32} (hd : decode B pc = .ok (.iload i, 2)) (hp : pc + 2 = pc') (hl : L[i]? = some (.val (.int v))) (k : W K h cl sl pc' L (.int v :: st)) : W K h cl sl pc L (st) := by
  subst hp; exact W.step (fun T locs X e t q => XS.iload X.here O.1 rfl (hb O.2.1 hd) hl q) k
theorem w_lloadN (O : Ok K l Z a0 ts B ml rt own nm R n0 Q) {i : Fin 4} {v : Int64} (hd : decode B pc = .ok (.lload_n i, 1)) (hp : pc + 1 = pc') (hl : L[i.val]? = some (.val (.long v))) (k : W K h cl sl pc' L (.long v :: st)) : W K h cl sl pc L (st) := by
  subst hp; exact W.step (fun T locs X e t q => XS.lloadN X.here O.1 rfl (hb O.2.1 hd) hl q) k
theorem w_lload (O : Ok K l Z a0 ts B ml rt own nm R n0 Q) {i : Nat} {v : Int64} (hd : decode B pc = .ok (.lload i, 2)) (hp : pc + 2 = pc') (hl : L[i]? = some (.val (.long v))) (k : W K h cl sl pc' L (.long v :: st)) : W K h cl sl pc L (st) := by
  subst hp; exact W.step (fun T locs X e t q => XS.lload X.here O.1 rfl (hb O.2.1 hd) hl q) k
theorem w_aloadN (O : Ok K l Z a0 ts B ml rt own nm R n0 Q) {i : Fin 4} {v : Value} (hd : decode B pc = .ok (.aload_n i, 1)) (hp : pc + 1 = pc') (hl : L[i.val]? = some (.val v)) (hv : v.isRef = true) (k : W K h cl sl pc' L (v :: st)) : W K h cl sl pc L (st) := by
  subst hp; exact W.step (fun T locs X e t q => XS.aloadN X.here O.1 rfl (hb O.2.1 hd) hl hv q) k
theorem w_aload (O : Ok K l Z a0 ts B ml rt own nm R n0 Q) {i : Nat} {v : Value} (hd : decode B pc = .ok (.aload i, 2)) (hp : pc + 2 = pc') (hl : L[i]? = some (.val v)) (hv : v.isRef = true) (k : W K h cl sl pc' L (v :: st)) : W K h cl sl pc L (st) := by
  subst hp; exact W.step (fun T locs X e t q => XS.aload X.here O.1 rfl (hb O.2.1 hd) hl hv q) k
theorem w_istoreN (O : Ok K l Z a0 ts B ml rt own nm R n0 Q) {i : Fin 4} {v : Int32} (hd : decode B pc = .ok (.istore_n i, 1)) (hp : pc + 1 = pc') (hl : storeLocals L i.val (.int v) = some L') (k : W K h cl sl pc' L' st) : W K h cl sl pc L (.int v :: st) := by
  subst hp; exact W.step (fun T locs X e t q => XS.istoreN X.here O.1 rfl (hb O.2.1 hd) rfl hl q) k
theorem w_istoreNG (O : Ok K l Z a0 ts B ml rt own nm R n0 Q) {i : Fin 4} {v : Int32} {L' : Int32 → Array Slot} (hd : decode B pc = .ok (.istore_n i, 1)) (hp : pc + 1 = pc') (hl : ∀ z, storeLocals L i.val (.int z) = some (L' z)) (k : ∀ z, z = v → W K h cl sl pc' (L' z) st) : W K h cl sl pc L (.int v :: st) := w_istoreN O hd hp (hl v) (k v rfl)
theorem w_istore (O : Ok K l Z a0 ts B ml rt own nm R n0 Q) {i : Nat} {v : Int32} (hd : decode B pc = .ok (.istore i, 2)) (hp : pc + 2 = pc') (hl : storeLocals L i (.int v) = some L') (k : W K h cl sl pc' L' st) : W K h cl sl pc L (.int v :: st) := by
  subst hp; exact W.step (fun T locs X e t q => XS.istore X.here O.1 rfl (hb O.2.1 hd) rfl hl q) k
theorem w_istoreG (O : Ok K l Z a0 ts B ml rt own nm R n0 Q) {i : Nat} {v : Int32} {L' : Int32 → Array Slot} (hd : decode B pc = .ok (.istore i, 2)) (hp : pc + 2 = pc') (hl : ∀ z, storeLocals L i (.int z) = some (L' z)) (k : ∀ z, z = v → W K h cl sl pc' (L' z) st) : W K h cl sl pc L (.int v :: st) := w_istore O hd hp (hl v) (k v rfl)
theorem w_lstoreN (O : Ok K l Z a0 ts B ml rt own nm R n0 Q) {i : Fin 4} {v : Int64} (hd : decode B pc = .ok (.lstore_n i, 1)) (hp : pc + 1 = pc') (hl : storeLocals L i.val (.long v) = some L') (k : W K h cl sl pc' L' st) : W K h cl sl pc L (.long v :: st) := by
  subst hp; exact W.step (fun T locs X e t q => XS.lstoreN X.here O.1 rfl (hb O.2.1 hd) rfl hl q) k
theorem w_lstoreNG (O : Ok K l Z a0 ts B ml rt own nm R n0 Q) {i : Fin 4} {v : Int64} {L' : Int64 → Array Slot} (hd : decode B pc = .ok (.lstore_n i, 1)) (hp : pc + 1 = pc') (hl : ∀ z, storeLocals L i.val (.long z) = some (L' z)) (k : ∀ z, z = v → W K h cl sl pc' (L' z) st) : W K h cl sl pc L (.long v :: st) := w_lstoreN O hd hp (hl v) (k v rfl)
theorem w_lstore (O : Ok K l Z a0 ts B ml rt own nm R n0 Q) {i : Nat} {v : Int64} (hd : decode B pc = .ok (.lstore i, 2)) (hp : pc + 2 = pc') (hl : storeLocals L i (.long v) = some L') (k : W K h cl sl pc' L' st) : W K h cl sl pc L (.long v :: st) := by
  subst hp; exact W.step (fun T locs X e t q => XS.lstore X.here O.1 rfl (hb O.2.1 hd) rfl hl q) k
theorem w_lstoreG (O : Ok K l Z a0 ts B ml rt own nm R n0 Q) {i : Nat} {v : Int64} {L' : Int64 → Array Slot} (hd : decode B pc = .ok (.lstore i, 2)) (hp : pc + 2 = pc') (hl : ∀ z, storeLocals L i (.long z) = some (L' z)) (k : ∀ z, z = v → W K h cl sl pc' (L' z) st) : W K h cl sl pc L (.long v :: st) := w_lstore O hd hp (hl v) (k v rfl)
theorem w_astoreN (O : Ok K l Z a0 ts B ml rt own nm R n0 Q) {i : Fin 4} {v : Value} (hd : decode B pc = .ok (.astore_n i, 1)) (hp : pc + 1 = pc') (hv : v.isRef = true) (hl : storeLocals L i.val v = some L') (k : W K h cl sl pc' L' st) : W K h cl sl pc L (v :: st) := by
  subst hp; exact W.step (fun T locs X e t q => XS.astoreN X.here O.1 rfl (hb O.2.1 hd) rfl hv hl q) k
theorem w_astore (O : Ok K l Z a0 ts B ml rt own nm R n0 Q) {i : Nat} {v : Value} (hd : decode B pc = .ok (.astore i, 2)) (hp : pc + 2 = pc') (hv : v.isRef = true) (hl : storeLocals L i v = some L') (k : W K h cl sl pc' L' st) : W K h cl sl pc L (v :: st) := by
  subst hp; exact W.step (fun T locs X e t q => XS.astore X.here O.1 rfl (hb O.2.1 hd) rfl hv hl q) k
theorem w_iinc (O : Ok K l Z a0 ts B ml rt own nm R n0 Q) {i : Nat} {cst : Int} {x z : Int32} (hd : decode B pc = .ok (.iinc i cst, 3)) (hp : pc + 3 = pc') (hl : L[i]? = some (.val (.int x))) (hz : x + Int32.ofInt cst = z) (hl' : storeLocals L i (.int z) = some L') (k : W K h cl sl pc' L' st) : W K h cl sl pc L st := by
  subst hp; subst hz; exact W.step (fun T locs X e t q => XS.iinc X.here O.1 rfl (hb O.2.1 hd) hl hl' q) k
theorem w_iincG (O : Ok K l Z a0 ts B ml rt own nm R n0 Q) {i : Nat} {cst : Int} {x y : Int32} {L' : Int32 → Array Slot} (hd : decode B pc = .ok (.iinc i cst, 3)) (hp : pc + 3 = pc') (hl : L[i]? = some (.val (.int x))) (hz : Int32.ofInt cst = y) (hl' : ∀ z, storeLocals L i (.int z) = some (L' z)) (k : ∀ z, z = x + y → W K h cl sl pc' (L' z) st) : W K h cl sl pc L st := by
  subst hz; exact w_iinc O hd hp hl rfl (hl' _) (k _ rfl)
theorem w_iconst (O : Ok K l Z a0 ts B ml rt own nm R n0 Q) {i : Int} {z : Int32} (hd : decode B pc = .ok (.iconst i, 1)) (hp : pc + 1 = pc') (hz : Int32.ofInt i = z) (k : W K h cl sl pc' L (.int z :: st)) : W K h cl sl pc L (st) := by
  subst hp; exact W.step (fun T locs X e t q => XS.iconst X.here O.1 rfl (hb O.2.1 hd) (by rw [hz]; exact q)) k
theorem w_bipush (O : Ok K l Z a0 ts B ml rt own nm R n0 Q) {i : Int} {z : Int32} (hd : decode B pc = .ok (.bipush i, 2)) (hp : pc + 2 = pc') (hz : (Int8.ofInt i).toInt32 = z) (k : W K h cl sl pc' L (.int z :: st)) : W K h cl sl pc L (st) := by
  subst hp; exact W.step (fun T locs X e t q => XS.bipush X.here O.1 rfl (hb O.2.1 hd) (by rw [hz]; exact q)) k
theorem w_sipush (O : Ok K l Z a0 ts B ml rt own nm R n0 Q) {i : Int} {z : Int32} (hd : decode B pc = .ok (.sipush i, 3)) (hp : pc + 3 = pc') (hz : (Int16.ofInt i).toInt32 = z) (k : W K h cl sl pc' L (.int z :: st)) : W K h cl sl pc L (st) := by
  subst hp; exact W.step (fun T locs X e t q => XS.sipush X.here O.1 rfl (hb O.2.1 hd) (by rw [hz]; exact q)) k
theorem w_lconst (O : Ok K l Z a0 ts B ml rt own nm R n0 Q) {i : Fin 2} {z : Int64} (hd : decode B pc = .ok (.lconst i, 1)) (hp : pc + 1 = pc') (hz : Int64.ofNat i = z) (k : W K h cl sl pc' L (.long z :: st)) : W K h cl sl pc L (st) := by
  subst hp; exact W.step (fun T locs X e t q => XS.lconst X.here O.1 rfl (hb O.2.1 hd) (by rw [hz]; exact q)) k
theorem w_anull (O : Ok K l Z a0 ts B ml rt own nm R n0 Q)  (hd : decode B pc = .ok (.aconst_null, 1)) (hp : pc + 1 = pc') (k : W K h cl sl pc' L (.null :: st)) : W K h cl sl pc L (st) := by
  subst hp; exact W.step (fun T locs X e t q => XS.aconstNull X.here O.1 rfl (hb O.2.1 hd) q) k
theorem w_ldc (O : Ok K l Z a0 ts B ml rt own nm R n0 Q) {i : Nat} {v : Int32} (hd : decode B pc = .ok (.ldc i, 2)) (hp : pc + 2 = pc') (w : Jvm.Cond.constant own i v ∈ ts) (k : W K h cl sl pc' L (.int v :: st)) : W K h cl sl pc L (st) := by
  subst hp; exact W.step (fun T locs X e t q => X.ldcInt O.1 O.2.2.2.1 (mvT O.2.2.2.2.2.2.2.1 (O.2.2.2.2.2.2.2.2.1 _ w)) (g := mkF K.2.1.2.1 pc L st) rfl (hb O.2.1 hd) _ q) k
theorem w_ldc2 (O : Ok K l Z a0 ts B ml rt own nm R n0 Q) {i : Nat} {v : Int64} (hd : decode B pc = .ok (.ldc2_w i, 3)) (hp : pc + 3 = pc') (w : Jvm.Cond.constantLong own i v ∈ ts) (k : W K h cl sl pc' L (.long v :: st)) : W K h cl sl pc L (st) := by
  subst hp; exact W.step (fun T locs X e t q => X.ldc2Long O.1 O.2.2.2.1 (mvT O.2.2.2.2.2.2.2.1 (O.2.2.2.2.2.2.2.2.1 _ w)) (g := mkF K.2.1.2.1 pc L st) rfl (hb O.2.1 hd) _ q) k
theorem w_iadd (O : Ok K l Z a0 ts B ml rt own nm R n0 Q) {x y : Int32} (hd : decode B pc = .ok (.iadd, 1)) (hp : pc + 1 = pc') (k : W K h cl sl pc' L (.int (x + y) :: st)) : W K h cl sl pc L (.int y :: .int x :: st) := by
  subst hp; exact W.step (fun T locs X e t q => XS.iadd X.here O.1 rfl (hb O.2.1 hd) rfl q) k
theorem w_isub (O : Ok K l Z a0 ts B ml rt own nm R n0 Q) {x y : Int32} (hd : decode B pc = .ok (.isub, 1)) (hp : pc + 1 = pc') (k : W K h cl sl pc' L (.int (x - y) :: st)) : W K h cl sl pc L (.int y :: .int x :: st) := by
  subst hp; exact W.step (fun T locs X e t q => XS.isub X.here O.1 rfl (hb O.2.1 hd) rfl q) k
theorem w_imul (O : Ok K l Z a0 ts B ml rt own nm R n0 Q) {x y : Int32} (hd : decode B pc = .ok (.imul, 1)) (hp : pc + 1 = pc') (k : W K h cl sl pc' L (.int (x * y) :: st)) : W K h cl sl pc L (.int y :: .int x :: st) := by
  subst hp; exact W.step (fun T locs X e t q => XS.imul X.here O.1 rfl (hb O.2.1 hd) rfl q) k
theorem w_iand (O : Ok K l Z a0 ts B ml rt own nm R n0 Q) {x y : Int32} (hd : decode B pc = .ok (.iand, 1)) (hp : pc + 1 = pc') (k : W K h cl sl pc' L (.int (x &&& y) :: st)) : W K h cl sl pc L (.int y :: .int x :: st) := by
  subst hp; exact W.step (fun T locs X e t q => XS.iand X.here O.1 rfl (hb O.2.1 hd) rfl q) k
theorem w_ior (O : Ok K l Z a0 ts B ml rt own nm R n0 Q) {x y : Int32} (hd : decode B pc = .ok (.ior, 1)) (hp : pc + 1 = pc') (k : W K h cl sl pc' L (.int (x ||| y) :: st)) : W K h cl sl pc L (.int y :: .int x :: st) := by
  subst hp; exact W.step (fun T locs X e t q => XS.ior X.here O.1 rfl (hb O.2.1 hd) rfl q) k
theorem w_ixor (O : Ok K l Z a0 ts B ml rt own nm R n0 Q) {x y : Int32} (hd : decode B pc = .ok (.ixor, 1)) (hp : pc + 1 = pc') (k : W K h cl sl pc' L (.int (x ^^^ y) :: st)) : W K h cl sl pc L (.int y :: .int x :: st) := by
  subst hp; exact W.step (fun T locs X e t q => XS.ixor X.here O.1 rfl (hb O.2.1 hd) rfl q) k
theorem w_ishl (O : Ok K l Z a0 ts B ml rt own nm R n0 Q) {x y : Int32} (hd : decode B pc = .ok (.ishl, 1)) (hp : pc + 1 = pc') (k : W K h cl sl pc' L (.int (x <<< (y &&& 31)) :: st)) : W K h cl sl pc L (.int y :: .int x :: st) := by
  subst hp; exact W.step (fun T locs X e t q => XS.ishl X.here O.1 rfl (hb O.2.1 hd) rfl q) k
theorem w_ishr (O : Ok K l Z a0 ts B ml rt own nm R n0 Q) {x y : Int32} (hd : decode B pc = .ok (.ishr, 1)) (hp : pc + 1 = pc') (k : W K h cl sl pc' L (.int (x >>> (y &&& 31)) :: st)) : W K h cl sl pc L (.int y :: .int x :: st) := by
  subst hp; exact W.step (fun T locs X e t q => XS.ishr X.here O.1 rfl (hb O.2.1 hd) rfl q) k
theorem w_iushr (O : Ok K l Z a0 ts B ml rt own nm R n0 Q) {x y : Int32} (hd : decode B pc = .ok (.iushr, 1)) (hp : pc + 1 = pc') (k : W K h cl sl pc' L (.int ((x.toUInt32 >>> (y &&& 31).toUInt32).toInt32) :: st)) : W K h cl sl pc L (.int y :: .int x :: st) := by
  subst hp; exact W.step (fun T locs X e t q => XS.iushr X.here O.1 rfl (hb O.2.1 hd) rfl q) k
theorem w_ladd (O : Ok K l Z a0 ts B ml rt own nm R n0 Q) {x y : Int64} (hd : decode B pc = .ok (.ladd, 1)) (hp : pc + 1 = pc') (k : W K h cl sl pc' L (.long (x + y) :: st)) : W K h cl sl pc L (.long y :: .long x :: st) := by
  subst hp; exact W.step (fun T locs X e t q => XS.ladd X.here O.1 rfl (hb O.2.1 hd) rfl q) k
theorem w_lsub (O : Ok K l Z a0 ts B ml rt own nm R n0 Q) {x y : Int64} (hd : decode B pc = .ok (.lsub, 1)) (hp : pc + 1 = pc') (k : W K h cl sl pc' L (.long (x - y) :: st)) : W K h cl sl pc L (.long y :: .long x :: st) := by
  subst hp; exact W.step (fun T locs X e t q => XS.lsub X.here O.1 rfl (hb O.2.1 hd) rfl q) k
theorem w_lmul (O : Ok K l Z a0 ts B ml rt own nm R n0 Q) {x y : Int64} (hd : decode B pc = .ok (.lmul, 1)) (hp : pc + 1 = pc') (k : W K h cl sl pc' L (.long (x * y) :: st)) : W K h cl sl pc L (.long y :: .long x :: st) := by
  subst hp; exact W.step (fun T locs X e t q => XS.lmul X.here O.1 rfl (hb O.2.1 hd) rfl q) k
theorem w_land (O : Ok K l Z a0 ts B ml rt own nm R n0 Q) {x y : Int64} (hd : decode B pc = .ok (.land, 1)) (hp : pc + 1 = pc') (k : W K h cl sl pc' L (.long (x &&& y) :: st)) : W K h cl sl pc L (.long y :: .long x :: st) := by
  subst hp; exact W.step (fun T locs X e t q => XS.land X.here O.1 rfl (hb O.2.1 hd) rfl q) k
theorem w_lor (O : Ok K l Z a0 ts B ml rt own nm R n0 Q) {x y : Int64} (hd : decode B pc = .ok (.lor, 1)) (hp : pc + 1 = pc') (k : W K h cl sl pc' L (.long (x ||| y) :: st)) : W K h cl sl pc L (.long y :: .long x :: st) := by
  subst hp; exact W.step (fun T locs X e t q => XS.lor X.here O.1 rfl (hb O.2.1 hd) rfl q) k
theorem w_lxor (O : Ok K l Z a0 ts B ml rt own nm R n0 Q) {x y : Int64} (hd : decode B pc = .ok (.lxor, 1)) (hp : pc + 1 = pc') (k : W K h cl sl pc' L (.long (x ^^^ y) :: st)) : W K h cl sl pc L (.long y :: .long x :: st) := by
  subst hp; exact W.step (fun T locs X e t q => XS.lxor X.here O.1 rfl (hb O.2.1 hd) rfl q) k
theorem w_lshl (O : Ok K l Z a0 ts B ml rt own nm R n0 Q) {x : Int64} {y : Int32} (hd : decode B pc = .ok (.lshl, 1)) (hp : pc + 1 = pc') (k : W K h cl sl pc' L (.long (x <<< (y &&& 0x3f).toInt64) :: st)) : W K h cl sl pc L (.int y :: .long x :: st) := by
  subst hp; exact W.step (fun T locs X e t q => XS.lshl X.here O.1 rfl (hb O.2.1 hd) rfl q) k
theorem w_lshr (O : Ok K l Z a0 ts B ml rt own nm R n0 Q) {x : Int64} {y : Int32} (hd : decode B pc = .ok (.lshr, 1)) (hp : pc + 1 = pc') (k : W K h cl sl pc' L (.long (x >>> (y &&& 0x3f).toInt64) :: st)) : W K h cl sl pc L (.int y :: .long x :: st) := by
  subst hp; exact W.step (fun T locs X e t q => XS.lshr X.here O.1 rfl (hb O.2.1 hd) rfl q) k
theorem w_lushr (O : Ok K l Z a0 ts B ml rt own nm R n0 Q) {x : Int64} {y : Int32} (hd : decode B pc = .ok (.lushr, 1)) (hp : pc + 1 = pc') (k : W K h cl sl pc' L (.long ((x.toUInt64 >>> (y &&& 0x3f).toInt64.toUInt64).toInt64) :: st)) : W K h cl sl pc L (.int y :: .long x :: st) := by
  subst hp; exact W.step (fun T locs X e t q => XS.lushr X.here O.1 rfl (hb O.2.1 hd) rfl q) k
theorem w_idiv (O : Ok K l Z a0 ts B ml rt own nm R n0 Q) {x y : Int32} (hd : decode B pc = .ok (.idiv, 1)) (hp : pc + 1 = pc') (hy : y ≠ 0) (k : W K h cl sl pc' L (.int (x / y) :: st)) : W K h cl sl pc L (.int y :: .int x :: st) := by
  subst hp; exact W.step (fun T locs X e t q => XS.idiv X.here O.1 rfl (hb O.2.1 hd) rfl hy q) k
theorem w_irem (O : Ok K l Z a0 ts B ml rt own nm R n0 Q) {x y : Int32} (hd : decode B pc = .ok (.irem, 1)) (hp : pc + 1 = pc') (hy : y ≠ 0) (k : W K h cl sl pc' L (.int (x % y) :: st)) : W K h cl sl pc L (.int y :: .int x :: st) := by
  subst hp; exact W.step (fun T locs X e t q => iremM X O.1 rfl (hb O.2.1 hd) rfl hy q) k
theorem w_ldiv (O : Ok K l Z a0 ts B ml rt own nm R n0 Q) {x y : Int64} (hd : decode B pc = .ok (.ldiv, 1)) (hp : pc + 1 = pc') (hy : y ≠ 0) (k : W K h cl sl pc' L (.long (x / y) :: st)) : W K h cl sl pc L (.long y :: .long x :: st) := by
  subst hp; exact W.step (fun T locs X e t q => XS.ldiv X.here O.1 rfl (hb O.2.1 hd) rfl hy q) k
theorem w_lrem (O : Ok K l Z a0 ts B ml rt own nm R n0 Q) {x y : Int64} (hd : decode B pc = .ok (.lrem, 1)) (hp : pc + 1 = pc') (hy : y ≠ 0) (k : W K h cl sl pc' L (.long (x % y) :: st)) : W K h cl sl pc L (.long y :: .long x :: st) := by
  subst hp; exact W.step (fun T locs X e t q => XS.lrem X.here O.1 rfl (hb O.2.1 hd) rfl hy (by rw [lrem_mod]; exact q)) k
theorem w_ineg (O : Ok K l Z a0 ts B ml rt own nm R n0 Q) {x : Int32} (hd : decode B pc = .ok (.ineg, 1)) (hp : pc + 1 = pc') (k : W K h cl sl pc' L (.int (-x) :: st)) : W K h cl sl pc L (.int x :: st) := by
  subst hp; exact W.step (fun T locs X e t q => XS.ineg X.here O.1 rfl (hb O.2.1 hd) rfl q) k
theorem w_lneg (O : Ok K l Z a0 ts B ml rt own nm R n0 Q) {x : Int64} (hd : decode B pc = .ok (.lneg, 1)) (hp : pc + 1 = pc') (k : W K h cl sl pc' L (.long (-x) :: st)) : W K h cl sl pc L (.long x :: st) := by
  subst hp; exact W.step (fun T locs X e t q => XS.lneg X.here O.1 rfl (hb O.2.1 hd) rfl q) k
theorem w_i2l (O : Ok K l Z a0 ts B ml rt own nm R n0 Q) {x : Int32} (hd : decode B pc = .ok (.i2l, 1)) (hp : pc + 1 = pc') (k : W K h cl sl pc' L (.long (x.toInt64) :: st)) : W K h cl sl pc L (.int x :: st) := by
  subst hp; exact W.step (fun T locs X e t q => XS.i2l X.here O.1 rfl (hb O.2.1 hd) rfl q) k
theorem w_l2i (O : Ok K l Z a0 ts B ml rt own nm R n0 Q) {x : Int64} (hd : decode B pc = .ok (.l2i, 1)) (hp : pc + 1 = pc') (k : W K h cl sl pc' L (.int (x.toInt32) :: st)) : W K h cl sl pc L (.long x :: st) := by
  subst hp; exact W.step (fun T locs X e t q => XS.l2i X.here O.1 rfl (hb O.2.1 hd) rfl q) k
theorem w_i2b (O : Ok K l Z a0 ts B ml rt own nm R n0 Q) {x : Int32} (hd : decode B pc = .ok (.i2b, 1)) (hp : pc + 1 = pc') (k : W K h cl sl pc' L (.int (x.toInt8.toInt32) :: st)) : W K h cl sl pc L (.int x :: st) := by
  subst hp; exact W.step (fun T locs X e t q => XS.i2b X.here O.1 rfl (hb O.2.1 hd) rfl q) k
theorem w_i2s (O : Ok K l Z a0 ts B ml rt own nm R n0 Q) {x : Int32} (hd : decode B pc = .ok (.i2s, 1)) (hp : pc + 1 = pc') (k : W K h cl sl pc' L (.int (x.toInt16.toInt32) :: st)) : W K h cl sl pc L (.int x :: st) := by
  subst hp; exact W.step (fun T locs X e t q => XS.i2s X.here O.1 rfl (hb O.2.1 hd) rfl q) k
theorem w_i2c (O : Ok K l Z a0 ts B ml rt own nm R n0 Q) {x : Int32} (hd : decode B pc = .ok (.i2c, 1)) (hp : pc + 1 = pc') (k : W K h cl sl pc' L (.int (x.toUInt32.toUInt16.toUInt32.toInt32) :: st)) : W K h cl sl pc L (.int x :: st) := by
  subst hp; exact W.step (fun T locs X e t q => XS.i2c X.here O.1 rfl (hb O.2.1 hd) rfl q) k
theorem w_dup (O : Ok K l Z a0 ts B ml rt own nm R n0 Q) {x : Value} (hd : decode B pc = .ok (.dup, 1)) (hp : pc + 1 = pc') (hc : x.category = 1) (k : W K h cl sl pc' L (x :: x :: st)) : W K h cl sl pc L (x :: st) := by
  subst hp; exact W.step (fun T locs X e t q => XS.dup X.here O.1 rfl (hb O.2.1 hd) rfl hc q) k
theorem w_pop (O : Ok K l Z a0 ts B ml rt own nm R n0 Q) {x : Value} (hd : decode B pc = .ok (.pop, 1)) (hp : pc + 1 = pc') (hc : x.category = 1) (k : W K h cl sl pc' L (st)) : W K h cl sl pc L (x :: st) := by
  subst hp; exact W.step (fun T locs X e t q => XS.pop X.here O.1 rfl (hb O.2.1 hd) rfl hc q) k
theorem w_dupX1 (O : Ok K l Z a0 ts B ml rt own nm R n0 Q) {x y : Value} (hd : decode B pc = .ok (.dup_x1, 1)) (hp : pc + 1 = pc') (hc : x.category = 1) (hc2 : y.category = 1) (k : W K h cl sl pc' L (x :: y :: x :: st)) : W K h cl sl pc L (x :: y :: st) := by
  subst hp; exact W.step (fun T locs X e t q => XS.dupX1 X.here O.1 rfl (hb O.2.1 hd) rfl hc hc2 q) k
theorem w_goto (O : Ok K l Z a0 ts B ml rt own nm R n0 Q) {o : Int} (hd : decode B pc = .ok (.goto o, 3)) (ho : 0 ≤ (pc : Int) + o) (hp : ((pc : Int) + o).toNat = pc') (k : W K h cl sl pc' L st) : W K h cl sl pc L st := W.step (fun T locs X e t q => XS.goto X.here O.1 rfl rfl (hb O.2.1 hd) ho hp q) k
theorem w_icmp_eq (O : Ok K l Z a0 ts B ml rt own nm R n0 Q) {o : Int} {x y : Int32} {pt pn : Nat} (hd : decode B pc = .ok (.if_icmp .eq o, 3)) (hn : pc + 3 = pn) (ho : 0 ≤ (pc : Int) + o) (ht : ((pc : Int) + o).toNat = pt) (ky : x.toInt = y.toInt → W K h cl sl pt L st) (kn : ¬ x.toInt = y.toInt → W K h cl sl pn L st) : W K h cl sl pc L (.int y :: .int x :: st) := by
  by_cases q : x = y
  · exact W.step (fun T locs X e t z => XS.icmpYes X.here O.1 rfl rfl (hb O.2.1 hd) rfl (teq q).1 ho ht z) (ky (Int32.toInt_inj.mpr q))
  · exact W.step (fun T locs X e t z => XS.icmpNo X.here O.1 rfl (hb O.2.1 hd) rfl (feq q).1 (by rw [← hn] at z; exact z)) (kn fun w => q (Int32.toInt_inj.mp w))
theorem w_if_eq (O : Ok K l Z a0 ts B ml rt own nm R n0 Q) {o : Int} {x : Int32} {pt pn : Nat} (hd : decode B pc = .ok (.ifCond .eq o, 3)) (hn : pc + 3 = pn) (ho : 0 ≤ (pc : Int) + o) (ht : ((pc : Int) + o).toNat = pt) (ky : x.toInt = 0 → W K h cl sl pt L st) (kn : ¬ x.toInt = 0 → W K h cl sl pn L st) : W K h cl sl pc L (.int x :: st) := by
  have e0 : (0 : Int32).toInt = 0 := by decide
  by_cases q : x = 0
  · exact W.step (fun T locs X e t z => XS.ifYes X.here O.1 rfl rfl (hb O.2.1 hd) rfl ((if0 _ _).trans (teq q).1) ho ht z) (ky (by rw [← e0]; exact (Int32.toInt_inj.mpr q)))
  · exact W.step (fun T locs X e t z => XS.ifNo X.here O.1 rfl (hb O.2.1 hd) rfl ((if0 _ _).trans (feq q).1) (by rw [← hn] at z; exact z)) (kn fun w => q (by rw [← e0] at w; exact (Int32.toInt_inj.mp w)))
theorem lcb_eq {x y : Int64} : (lcmpW x y).toInt = 0 ↔ x.toInt = y.toInt := by
  have e0 : (0 : Int32).toInt = 0 := by decide
  rw [← e0]
  exact Int32.toInt_inj.trans ((lw_eq x y).trans Int64.toInt_inj.symm)
theorem w_lcmp_eq (O : Ok K l Z a0 ts B ml rt own nm R n0 Q) {o : Int} {x y : Int64} {pi pt pn : Nat} (hd : decode B pc = .ok (.lcmp, 1)) (hi : pc + 1 = pi) (hd2 : decode B pi = .ok (.ifCond .eq o, 3)) (hn : pi + 3 = pn) (ho : 0 ≤ (pi : Int) + o) (ht : ((pi : Int) + o).toNat = pt) (ky : x.toInt = y.toInt → W K h cl sl pt L st) (kn : ¬ x.toInt = y.toInt → W K h cl sl pn L st) : W K h cl sl pc L (.long y :: .long x :: st) := by
  subst hi
  exact W.step (fun T locs X e t q => XS.lcmp X.here O.1 rfl (hb O.2.1 hd) rfl q) (w_if_eq O hd2 hn ho ht (fun q => ky (lcb_eq.mp q)) (fun q => kn fun w => q (lcb_eq.mpr w)))
theorem w_icmp_ne (O : Ok K l Z a0 ts B ml rt own nm R n0 Q) {o : Int} {x y : Int32} {pt pn : Nat} (hd : decode B pc = .ok (.if_icmp .ne o, 3)) (hn : pc + 3 = pn) (ho : 0 ≤ (pc : Int) + o) (ht : ((pc : Int) + o).toNat = pt) (ky : ¬ x.toInt = y.toInt → W K h cl sl pt L st) (kn : x.toInt = y.toInt → W K h cl sl pn L st) : W K h cl sl pc L (.int y :: .int x :: st) := by
  by_cases q : x = y
  · exact W.step (fun T locs X e t z => XS.icmpNo X.here O.1 rfl (hb O.2.1 hd) rfl (teq q).2 (by rw [← hn] at z; exact z)) (kn (Int32.toInt_inj.mpr q))
  · exact W.step (fun T locs X e t z => XS.icmpYes X.here O.1 rfl rfl (hb O.2.1 hd) rfl (feq q).2 ho ht z) (ky fun w => q (Int32.toInt_inj.mp w))
theorem w_if_ne (O : Ok K l Z a0 ts B ml rt own nm R n0 Q) {o : Int} {x : Int32} {pt pn : Nat} (hd : decode B pc = .ok (.ifCond .ne o, 3)) (hn : pc + 3 = pn) (ho : 0 ≤ (pc : Int) + o) (ht : ((pc : Int) + o).toNat = pt) (ky : ¬ x.toInt = 0 → W K h cl sl pt L st) (kn : x.toInt = 0 → W K h cl sl pn L st) : W K h cl sl pc L (.int x :: st) := by
  have e0 : (0 : Int32).toInt = 0 := by decide
  by_cases q : x = 0
  · exact W.step (fun T locs X e t z => XS.ifNo X.here O.1 rfl (hb O.2.1 hd) rfl ((if0 _ _).trans (teq q).2) (by rw [← hn] at z; exact z)) (kn (by rw [← e0]; exact (Int32.toInt_inj.mpr q)))
  · exact W.step (fun T locs X e t z => XS.ifYes X.here O.1 rfl rfl (hb O.2.1 hd) rfl ((if0 _ _).trans (feq q).2) ho ht z) (ky fun w => q (by rw [← e0] at w; exact (Int32.toInt_inj.mp w)))
theorem lcb_ne {x y : Int64} : (lcmpW x y).toInt = 0 ↔ x.toInt = y.toInt := by
  have e0 : (0 : Int32).toInt = 0 := by decide
  rw [← e0]
  exact Int32.toInt_inj.trans ((lw_eq x y).trans Int64.toInt_inj.symm)
theorem w_lcmp_ne (O : Ok K l Z a0 ts B ml rt own nm R n0 Q) {o : Int} {x y : Int64} {pi pt pn : Nat} (hd : decode B pc = .ok (.lcmp, 1)) (hi : pc + 1 = pi) (hd2 : decode B pi = .ok (.ifCond .ne o, 3)) (hn : pi + 3 = pn) (ho : 0 ≤ (pi : Int) + o) (ht : ((pi : Int) + o).toNat = pt) (ky : ¬ x.toInt = y.toInt → W K h cl sl pt L st) (kn : x.toInt = y.toInt → W K h cl sl pn L st) : W K h cl sl pc L (.long y :: .long x :: st) := by
  subst hi
  exact W.step (fun T locs X e t q => XS.lcmp X.here O.1 rfl (hb O.2.1 hd) rfl q) (w_if_ne O hd2 hn ho ht (fun q => ky fun w => q (lcb_ne.mpr w)) (fun q => kn (lcb_ne.mp q)))
theorem w_icmp_lt (O : Ok K l Z a0 ts B ml rt own nm R n0 Q) {o : Int} {x y : Int32} {pt pn : Nat} (hd : decode B pc = .ok (.if_icmp .lt o, 3)) (hn : pc + 3 = pn) (ho : 0 ≤ (pc : Int) + o) (ht : ((pc : Int) + o).toNat = pt) (ky : x.toInt < y.toInt → W K h cl sl pt L st) (kn : ¬ x.toInt < y.toInt → W K h cl sl pn L st) : W K h cl sl pc L (.int y :: .int x :: st) := by
  by_cases q : x < y
  · exact W.step (fun T locs X e t z => XS.icmpYes X.here O.1 rfl rfl (hb O.2.1 hd) rfl (tlt q).1 ho ht z) (ky (Int32.lt_iff_toInt_lt.mp q))
  · exact W.step (fun T locs X e t z => XS.icmpNo X.here O.1 rfl (hb O.2.1 hd) rfl (flt q).1 (by rw [← hn] at z; exact z)) (kn fun w => q (Int32.lt_iff_toInt_lt.mpr w))
theorem w_if_lt (O : Ok K l Z a0 ts B ml rt own nm R n0 Q) {o : Int} {x : Int32} {pt pn : Nat} (hd : decode B pc = .ok (.ifCond .lt o, 3)) (hn : pc + 3 = pn) (ho : 0 ≤ (pc : Int) + o) (ht : ((pc : Int) + o).toNat = pt) (ky : x.toInt < 0 → W K h cl sl pt L st) (kn : ¬ x.toInt < 0 → W K h cl sl pn L st) : W K h cl sl pc L (.int x :: st) := by
  have e0 : (0 : Int32).toInt = 0 := by decide
  by_cases q : x < 0
  · exact W.step (fun T locs X e t z => XS.ifYes X.here O.1 rfl rfl (hb O.2.1 hd) rfl ((if0 _ _).trans (tlt q).1) ho ht z) (ky (by rw [← e0]; exact (Int32.lt_iff_toInt_lt.mp q)))
  · exact W.step (fun T locs X e t z => XS.ifNo X.here O.1 rfl (hb O.2.1 hd) rfl ((if0 _ _).trans (flt q).1) (by rw [← hn] at z; exact z)) (kn fun w => q (by rw [← e0] at w; exact (Int32.lt_iff_toInt_lt.mpr w)))
theorem lcb_lt {x y : Int64} : (lcmpW x y).toInt < 0 ↔ x.toInt < y.toInt := by
  have e0 : (0 : Int32).toInt = 0 := by decide
  rw [← e0]
  exact (Int32.lt_iff_toInt_lt.symm).trans ((lw_lt x y).trans Int64.lt_iff_toInt_lt)
theorem w_lcmp_lt (O : Ok K l Z a0 ts B ml rt own nm R n0 Q) {o : Int} {x y : Int64} {pi pt pn : Nat} (hd : decode B pc = .ok (.lcmp, 1)) (hi : pc + 1 = pi) (hd2 : decode B pi = .ok (.ifCond .lt o, 3)) (hn : pi + 3 = pn) (ho : 0 ≤ (pi : Int) + o) (ht : ((pi : Int) + o).toNat = pt) (ky : x.toInt < y.toInt → W K h cl sl pt L st) (kn : ¬ x.toInt < y.toInt → W K h cl sl pn L st) : W K h cl sl pc L (.long y :: .long x :: st) := by
  subst hi
  exact W.step (fun T locs X e t q => XS.lcmp X.here O.1 rfl (hb O.2.1 hd) rfl q) (w_if_lt O hd2 hn ho ht (fun q => ky (lcb_lt.mp q)) (fun q => kn fun w => q (lcb_lt.mpr w)))
theorem w_icmp_ge (O : Ok K l Z a0 ts B ml rt own nm R n0 Q) {o : Int} {x y : Int32} {pt pn : Nat} (hd : decode B pc = .ok (.if_icmp .ge o, 3)) (hn : pc + 3 = pn) (ho : 0 ≤ (pc : Int) + o) (ht : ((pc : Int) + o).toNat = pt) (ky : ¬ x.toInt < y.toInt → W K h cl sl pt L st) (kn : x.toInt < y.toInt → W K h cl sl pn L st) : W K h cl sl pc L (.int y :: .int x :: st) := by
  by_cases q : x < y
  · exact W.step (fun T locs X e t z => XS.icmpNo X.here O.1 rfl (hb O.2.1 hd) rfl (tlt q).2.1 (by rw [← hn] at z; exact z)) (kn (Int32.lt_iff_toInt_lt.mp q))
  · exact W.step (fun T locs X e t z => XS.icmpYes X.here O.1 rfl rfl (hb O.2.1 hd) rfl (flt q).2.1 ho ht z) (ky fun w => q (Int32.lt_iff_toInt_lt.mpr w))
theorem w_if_ge (O : Ok K l Z a0 ts B ml rt own nm R n0 Q) {o : Int} {x : Int32} {pt pn : Nat} (hd : decode B pc = .ok (.ifCond .ge o, 3)) (hn : pc + 3 = pn) (ho : 0 ≤ (pc : Int) + o) (ht : ((pc : Int) + o).toNat = pt) (ky : ¬ x.toInt < 0 → W K h cl sl pt L st) (kn : x.toInt < 0 → W K h cl sl pn L st) : W K h cl sl pc L (.int x :: st) := by
  have e0 : (0 : Int32).toInt = 0 := by decide
  by_cases q : x < 0
  · exact W.step (fun T locs X e t z => XS.ifNo X.here O.1 rfl (hb O.2.1 hd) rfl ((if0 _ _).trans (tlt q).2.1) (by rw [← hn] at z; exact z)) (kn (by rw [← e0]; exact (Int32.lt_iff_toInt_lt.mp q)))
  · exact W.step (fun T locs X e t z => XS.ifYes X.here O.1 rfl rfl (hb O.2.1 hd) rfl ((if0 _ _).trans (flt q).2.1) ho ht z) (ky fun w => q (by rw [← e0] at w; exact (Int32.lt_iff_toInt_lt.mpr w)))
theorem lcb_ge {x y : Int64} : (lcmpW x y).toInt < 0 ↔ x.toInt < y.toInt := by
  have e0 : (0 : Int32).toInt = 0 := by decide
  rw [← e0]
  exact (Int32.lt_iff_toInt_lt.symm).trans ((lw_lt x y).trans Int64.lt_iff_toInt_lt)
theorem w_lcmp_ge (O : Ok K l Z a0 ts B ml rt own nm R n0 Q) {o : Int} {x y : Int64} {pi pt pn : Nat} (hd : decode B pc = .ok (.lcmp, 1)) (hi : pc + 1 = pi) (hd2 : decode B pi = .ok (.ifCond .ge o, 3)) (hn : pi + 3 = pn) (ho : 0 ≤ (pi : Int) + o) (ht : ((pi : Int) + o).toNat = pt) (ky : ¬ x.toInt < y.toInt → W K h cl sl pt L st) (kn : x.toInt < y.toInt → W K h cl sl pn L st) : W K h cl sl pc L (.long y :: .long x :: st) := by
  subst hi
  exact W.step (fun T locs X e t q => XS.lcmp X.here O.1 rfl (hb O.2.1 hd) rfl q) (w_if_ge O hd2 hn ho ht (fun q => ky fun w => q (lcb_ge.mpr w)) (fun q => kn (lcb_ge.mp q)))
theorem w_icmp_gt (O : Ok K l Z a0 ts B ml rt own nm R n0 Q) {o : Int} {x y : Int32} {pt pn : Nat} (hd : decode B pc = .ok (.if_icmp .gt o, 3)) (hn : pc + 3 = pn) (ho : 0 ≤ (pc : Int) + o) (ht : ((pc : Int) + o).toNat = pt) (ky : y.toInt < x.toInt → W K h cl sl pt L st) (kn : ¬ y.toInt < x.toInt → W K h cl sl pn L st) : W K h cl sl pc L (.int y :: .int x :: st) := by
  by_cases q : y < x
  · exact W.step (fun T locs X e t z => XS.icmpYes X.here O.1 rfl rfl (hb O.2.1 hd) rfl (tlt q).2.2.1 ho ht z) (ky (Int32.lt_iff_toInt_lt.mp q))
  · exact W.step (fun T locs X e t z => XS.icmpNo X.here O.1 rfl (hb O.2.1 hd) rfl (flt q).2.2.1 (by rw [← hn] at z; exact z)) (kn fun w => q (Int32.lt_iff_toInt_lt.mpr w))
theorem w_if_gt (O : Ok K l Z a0 ts B ml rt own nm R n0 Q) {o : Int} {x : Int32} {pt pn : Nat} (hd : decode B pc = .ok (.ifCond .gt o, 3)) (hn : pc + 3 = pn) (ho : 0 ≤ (pc : Int) + o) (ht : ((pc : Int) + o).toNat = pt) (ky : 0 < x.toInt → W K h cl sl pt L st) (kn : ¬ 0 < x.toInt → W K h cl sl pn L st) : W K h cl sl pc L (.int x :: st) := by
  have e0 : (0 : Int32).toInt = 0 := by decide
  by_cases q : 0 < x
  · exact W.step (fun T locs X e t z => XS.ifYes X.here O.1 rfl rfl (hb O.2.1 hd) rfl ((if0 _ _).trans (tlt q).2.2.1) ho ht z) (ky (by rw [← e0]; exact (Int32.lt_iff_toInt_lt.mp q)))
  · exact W.step (fun T locs X e t z => XS.ifNo X.here O.1 rfl (hb O.2.1 hd) rfl ((if0 _ _).trans (flt q).2.2.1) (by rw [← hn] at z; exact z)) (kn fun w => q (by rw [← e0] at w; exact (Int32.lt_iff_toInt_lt.mpr w)))
theorem lcb_gt {x y : Int64} : 0 < (lcmpW x y).toInt ↔ y.toInt < x.toInt := by
  have e0 : (0 : Int32).toInt = 0 := by decide
  rw [← e0]
  exact (Int32.lt_iff_toInt_lt.symm).trans ((lw_gt x y).trans Int64.lt_iff_toInt_lt)
theorem w_lcmp_gt (O : Ok K l Z a0 ts B ml rt own nm R n0 Q) {o : Int} {x y : Int64} {pi pt pn : Nat} (hd : decode B pc = .ok (.lcmp, 1)) (hi : pc + 1 = pi) (hd2 : decode B pi = .ok (.ifCond .gt o, 3)) (hn : pi + 3 = pn) (ho : 0 ≤ (pi : Int) + o) (ht : ((pi : Int) + o).toNat = pt) (ky : y.toInt < x.toInt → W K h cl sl pt L st) (kn : ¬ y.toInt < x.toInt → W K h cl sl pn L st) : W K h cl sl pc L (.long y :: .long x :: st) := by
  subst hi
  exact W.step (fun T locs X e t q => XS.lcmp X.here O.1 rfl (hb O.2.1 hd) rfl q) (w_if_gt O hd2 hn ho ht (fun q => ky (lcb_gt.mp q)) (fun q => kn fun w => q (lcb_gt.mpr w)))
theorem w_icmp_le (O : Ok K l Z a0 ts B ml rt own nm R n0 Q) {o : Int} {x y : Int32} {pt pn : Nat} (hd : decode B pc = .ok (.if_icmp .le o, 3)) (hn : pc + 3 = pn) (ho : 0 ≤ (pc : Int) + o) (ht : ((pc : Int) + o).toNat = pt) (ky : ¬ y.toInt < x.toInt → W K h cl sl pt L st) (kn : y.toInt < x.toInt → W K h cl sl pn L st) : W K h cl sl pc L (.int y :: .int x :: st) := by
  by_cases q : y < x
  · exact W.step (fun T locs X e t z => XS.icmpNo X.here O.1 rfl (hb O.2.1 hd) rfl (tlt q).2.2.2 (by rw [← hn] at z; exact z)) (kn (Int32.lt_iff_toInt_lt.mp q))
  · exact W.step (fun T locs X e t z => XS.icmpYes X.here O.1 rfl rfl (hb O.2.1 hd) rfl (flt q).2.2.2 ho ht z) (ky fun w => q (Int32.lt_iff_toInt_lt.mpr w))
theorem w_if_le (O : Ok K l Z a0 ts B ml rt own nm R n0 Q) {o : Int} {x : Int32} {pt pn : Nat} (hd : decode B pc = .ok (.ifCond .le o, 3)) (hn : pc + 3 = pn) (ho : 0 ≤ (pc : Int) + o) (ht : ((pc : Int) + o).toNat = pt) (ky : ¬ 0 < x.toInt → W K h cl sl pt L st) (kn : 0 < x.toInt → W K h cl sl pn L st) : W K h cl sl pc L (.int x :: st) := by
  have e0 : (0 : Int32).toInt = 0 := by decide
  by_cases q : 0 < x
  · exact W.step (fun T locs X e t z => XS.ifNo X.here O.1 rfl (hb O.2.1 hd) rfl ((if0 _ _).trans (tlt q).2.2.2) (by rw [← hn] at z; exact z)) (kn (by rw [← e0]; exact (Int32.lt_iff_toInt_lt.mp q)))
  · exact W.step (fun T locs X e t z => XS.ifYes X.here O.1 rfl rfl (hb O.2.1 hd) rfl ((if0 _ _).trans (flt q).2.2.2) ho ht z) (ky fun w => q (by rw [← e0] at w; exact (Int32.lt_iff_toInt_lt.mpr w)))
theorem lcb_le {x y : Int64} : 0 < (lcmpW x y).toInt ↔ y.toInt < x.toInt := by
  have e0 : (0 : Int32).toInt = 0 := by decide
  rw [← e0]
  exact (Int32.lt_iff_toInt_lt.symm).trans ((lw_gt x y).trans Int64.lt_iff_toInt_lt)
theorem w_lcmp_le (O : Ok K l Z a0 ts B ml rt own nm R n0 Q) {o : Int} {x y : Int64} {pi pt pn : Nat} (hd : decode B pc = .ok (.lcmp, 1)) (hi : pc + 1 = pi) (hd2 : decode B pi = .ok (.ifCond .le o, 3)) (hn : pi + 3 = pn) (ho : 0 ≤ (pi : Int) + o) (ht : ((pi : Int) + o).toNat = pt) (ky : ¬ y.toInt < x.toInt → W K h cl sl pt L st) (kn : y.toInt < x.toInt → W K h cl sl pn L st) : W K h cl sl pc L (.long y :: .long x :: st) := by
  subst hi
  exact W.step (fun T locs X e t q => XS.lcmp X.here O.1 rfl (hb O.2.1 hd) rfl q) (w_if_le O hd2 hn ho ht (fun q => ky fun w => q (lcb_le.mpr w)) (fun q => kn (lcb_le.mp q)))
theorem w_ifnullY (O : Ok K l Z a0 ts B ml rt own nm R n0 Q) {o : Int} (hd : decode B pc = .ok (.ifnull o, 3)) (ho : 0 ≤ (pc : Int) + o) (ht : ((pc : Int) + o).toNat = pc') (k : W K h cl sl pc' L st) : W K h cl sl pc L (.null :: st) := W.step (fun T locs X e t q => XS.ifnullYes X.here O.1 rfl rfl (hb O.2.1 hd) rfl ho ht q) k
theorem w_ifnullN (O : Ok K l Z a0 ts B ml rt own nm R n0 Q) {o : Int} {b : Addr} (hd : decode B pc = .ok (.ifnull o, 3)) (hp : pc + 3 = pc') (k : W K h cl sl pc' L st) : W K h cl sl pc L (.ref b :: st) := by
  subst hp; exact W.step (fun T locs X e t q => XS.ifnullNo X.here O.1 rfl (hb O.2.1 hd) rfl q) k
theorem w_ifnonnullY (O : Ok K l Z a0 ts B ml rt own nm R n0 Q) {o : Int} {b : Addr} (hd : decode B pc = .ok (.ifnonnull o, 3)) (ho : 0 ≤ (pc : Int) + o) (ht : ((pc : Int) + o).toNat = pc') (k : W K h cl sl pc' L st) : W K h cl sl pc L (.ref b :: st) := W.step (fun T locs X e t q => XS.ifnonnullYes X.here O.1 rfl rfl (hb O.2.1 hd) rfl ho ht q) k
theorem w_ifnonnullN (O : Ok K l Z a0 ts B ml rt own nm R n0 Q) {o : Int} (hd : decode B pc = .ok (.ifnonnull o, 3)) (hp : pc + 3 = pc') (k : W K h cl sl pc' L st) : W K h cl sl pc L (.null :: st) := by
  subst hp; exact W.step (fun T locs X e t q => XS.ifnonnullNo X.here O.1 rfl (hb O.2.1 hd) rfl q) k
theorem w_acmp_eq (O : Ok K l Z a0 ts B ml rt own nm R n0 Q) {o : Int} {x y : Value} {pt pn : Nat} (hd : decode B pc = .ok (.if_acmp .eq o, 3)) (hx' : x.isRef = true) (hy' : y.isRef = true) (hn : pc + 3 = pn) (ho : 0 ≤ (pc : Int) + o) (ht : ((pc : Int) + o).toNat = pt) (ky : x = y → W K h cl sl pt L st) (kn : ¬ x = y → W K h cl sl pn L st) : W K h cl sl pc L (y :: x :: st) := by
  by_cases q : x = y
  · exact W.step (fun T locs X e t z => Jvm.RoadKit.acmp (g := mkF K.2.1.2.1 pc L (y :: x :: st)) X O.1 rfl hx' hy' (pc0 := pc) (pc' := pt) (same := true) rfl (hb O.2.1 hd) rfl (decide_eq_true q) ho (by simp [acV, ht, hn]) z) (ky q)
  · exact W.step (fun T locs X e t z => Jvm.RoadKit.acmp (g := mkF K.2.1.2.1 pc L (y :: x :: st)) X O.1 rfl hx' hy' (pc0 := pc) (pc' := pn) (same := false) rfl (hb O.2.1 hd) rfl (decide_eq_false q) ho (by simp [acV, ht, hn]) z) (kn q)
theorem w_acmp_ne (O : Ok K l Z a0 ts B ml rt own nm R n0 Q) {o : Int} {x y : Value} {pt pn : Nat} (hd : decode B pc = .ok (.if_acmp .ne o, 3)) (hx' : x.isRef = true) (hy' : y.isRef = true) (hn : pc + 3 = pn) (ho : 0 ≤ (pc : Int) + o) (ht : ((pc : Int) + o).toNat = pt) (ky : ¬ x = y → W K h cl sl pt L st) (kn : x = y → W K h cl sl pn L st) : W K h cl sl pc L (y :: x :: st) := by
  by_cases q : x = y
  · exact W.step (fun T locs X e t z => Jvm.RoadKit.acmp (g := mkF K.2.1.2.1 pc L (y :: x :: st)) X O.1 rfl hx' hy' (pc0 := pc) (pc' := pn) (same := true) rfl (hb O.2.1 hd) rfl (decide_eq_true q) ho (by simp [acV, ht, hn]) z) (kn q)
  · exact W.step (fun T locs X e t z => Jvm.RoadKit.acmp (g := mkF K.2.1.2.1 pc L (y :: x :: st)) X O.1 rfl hx' hy' (pc0 := pc) (pc' := pt) (same := false) rfl (hb O.2.1 hd) rfl (decide_eq_false q) ho (by simp [acV, ht, hn]) z) (ky q)
theorem w_getf (O : Ok K l Z a0 ts B ml rt own nm R n0 Q) {i : Nat} {C f d : String} {a : Addr} {v : Value} (hd : decode B pc = .ok (.getfield i, 3)) (hp : pc + 3 = pc') (w : Jvm.Cond.fieldLink own i C f d ∈ ts) (F : Fld Z h a C f d v) (k : W K h cl sl pc' L (v :: st)) : W K h cl sl pc L (.ref a :: st) := by
  subst hp
  exact W.stepT (fun T locs X e => getF X O.1 O.2.2.2.2.2.2.2.1 O.2.2.2.1 (host := "") (Or.inl (O.2.2.2.2.2.2.2.2.1 _ w)) Via.refl e F (g := mkF K.2.1.2.1 pc L (.ref a :: st)) rfl rfl (hb O.2.1 hd)) k
theorem w_gets (O : Ok K l Z a0 ts B ml rt own nm R n0 Q) {i : Nat} {C f d : String} {v : Value} (hd : decode B pc = .ok (.getstatic i, 3)) (hp : pc + 3 = pc') (w : Jvm.Cond.fieldLink own i C f d ∈ ts) (F : Sta Z h C f d v) (k : W K h cl sl pc' L (v :: st)) : W K h cl sl pc L st := by
  subst hp
  exact W.stepT (fun T locs X e => getS2 X O.1 O.2.2.2.2.2.2.2.1 O.2.2.2.1 (host := "") (Or.inl (O.2.2.2.2.2.2.2.2.1 _ w)) Via.refl e F (g := mkF K.2.1.2.1 pc L st) rfl (hb O.2.1 hd)) k
theorem w_putf (O : Ok K l Z a0 ts B ml rt own nm R n0 Q) {i kk : Nat} {C f d : String} {a : Addr} {v old : Value} {ty : FieldType} (hd : decode B pc = .ok (.putfield i, 3)) (hp : pc + 3 = pc') (w : Jvm.Cond.fieldLink own i C f d ∈ ts) (wi : Jvm.Cond.instantiable C kk ∈ ts) (Ly : Jvm.Cond.lays C C f d ∈ ts ∨ (Jvm.Cond.laysFinal C C f d ∈ ts ∧ own = C ∧ nm = "<init>")) (F : Fld Z h a C f d old) (E : Exa Z h a C) (ha : n0 ≤ a) (hty : parseFieldDescriptor d = some ty) (hn : narrow ty v = v) (hf : fits ty v = true)
    (k : ∀ h', Wr h h' a (Jvm.RoadKit.slotOf Z C f d) v → W K h' cl sl pc' L st) : W K h cl sl pc L (v :: .ref a :: st) := by
  subst hp
  have hw := O.2.2.2.2.2.2.2.2.1
  exact W.stepW (fun T locs X e => putF X O.1 O.2.2.2.2.2.2.2.1 O.2.2.2.1 (host := "") (Or.inl (hw _ w)) Via.refl e F E (Ly.imp (fun q => hw _ q) fun q => ⟨hw _ q.1, q.2.1, O.2.2.2.2.1.trans q.2.2⟩) (hw _ wi) hty hn hf (g := mkF K.2.1.2.1 pc L (v :: .ref a :: st)) rfl rfl (hb O.2.1 hd)) (by rw [O.2.2.2.2.2.2.2.2.2.2.2.2.1]; exact ha) k
theorem w_new (O : Ok K l Z a0 ts B ml rt own nm R n0 Q) {i n cl' sl' : Nat} {C : String} (hd : decode B pc = .ok (.new i, 3)) (hp : pc + 3 = pc') (w1 : Jvm.Cond.classLink own i C ∈ ts) (w2 : Jvm.Cond.instantiable C n ∈ ts) (w3 : Jvm.Cond.initialized C ∈ ts) (hc : cl + 1 = cl') (hs : sl + n = sl') (hc' : cl' ≤ R.cells) (hs' : sl' ≤ R.slots)
    (k : ∀ h' b, b = h.size → n0 ≤ b → Ext h h' → Exa Z h' b C → (∀ {Ow nf d : String} {ty : FieldType}, Laid Z a0 C Ow nf d → parseFieldDescriptor d = some ty → Fld Z h' b Ow nf d (defaultValue ty)) → W K h' cl' sl' pc' L (.ref b :: st)) : W K h cl sl pc L st := by
  obtain ⟨⟨p, l', e', R'⟩, ⟨s, m, args, below⟩, ⟨meth, c⟩, Q', n0'⟩ := K
  obtain ⟨hx, hby, hml, hown, hnm, hrt, hlk, hZ, hw, hn0, hl', hR', hn', hQ'⟩ := O
  dsimp only at hx hby hml hown hnm hrt hlk hZ hn0 hl' hR' hn' hQ'
  subst hl' hR' hn' hQ'
  subst hp hc hs
  intro T locs X eT N
  obtain ⟨T2, h2, X2, e2, E2, A2, D2, -, st2⟩ := newO X hx hZ hown (hw _ w1) (hw _ w2) (hw _ w3) eT (g := mkF m pc L st) rfl (hb hby hd) hc' hs'
  obtain ⟨s2, o, h1, r⟩ := k h2 h.size rfl (Nat.le_trans hn0 (by rw [← eT]; exact X.same.2.1)) E2 A2 D2 T2 _ X2 e2 N
  exact ⟨s2, o, st2 _ h1, r⟩
theorem w_objinit (O : Ok K l Z a0 ts B ml rt own nm R n0 Q) {i wt : Nat} {a : Addr} (hd : decode B pc = .ok (.invokespecial i, 3)) (hp : pc + 3 = pc') (w1 : Jvm.Cond.methodLink own i Lib.objectInit ∈ ts) (w2 : Jvm.Cond.instanceMethod Lib.objectInit ∈ ts) (w3 : Jvm.Cond.code Lib.objectInit ⟨#[0xb1]⟩ 1 none ∈ ts) (hsz : L.size = ml) (hwt : (st.map fun v => v.category).sum = wt) (hf : 1 ≤ R.frames) (hl : wt + 12 ≤ R.locals) (k : W K h cl sl pc' L st) : W K h cl sl pc L (.ref a :: st) := by
  obtain ⟨⟨p, l', e', R'⟩, ⟨s, m, args, below⟩, ⟨meth, c⟩, Q', n0'⟩ := K
  obtain ⟨hx, hby, hml, hown, hnm, hrt, hlk, hZ, hw, hn0, hl', hR', hn', hQ'⟩ := O
  dsimp only at hx hby hml hown hnm hrt hlk hZ hn0 hl' hR' hn' hQ'
  subst hl' hR' hn' hQ'
  subst hp hml
  exact W.stepT (fun T locs X e => initO X hx hZ hown (hw _ w1) (hw _ w2) (hw _ w3) e (g := mkF m pc L (.ref a :: st)) rfl hsz rfl (hb hby hd) hf (W := wt) (by show 2 * 0 + _ ≤ _; omega) hl) k
/-- an array of n places, the i-th holds f i -/
def Afn (Z : State) (h : Heap) (a : Addr) (ty : FieldType) (n : Nat) (f : Nat → Value) : Prop := ∃ c : Cell, Arr Z h a c ty ∧ c.slots.size = n ∧ n < 2147483648 ∧ ∀ i, i < n → c.slots[i]? = some (f i)
def upd (f : Nat → Value) (i : Nat) (v : Value) : Nat → Value := fun j => if j = i then v else f j
theorem Afn.lt {a : Addr} {ty : FieldType} {n : Nat} {f : Nat → Value} (A : Afn Z h a ty n f) : a < h.size := by obtain ⟨c, A, -⟩ := A; exact A.lt
theorem Afn.bound {a : Addr} {ty : FieldType} {n : Nat} {f : Nat → Value} (A : Afn Z h a ty n f) : n < 2147483648 := by obtain ⟨c, -, -, q, -⟩ := A; exact q
theorem upd_same (f : Nat → Value) (i : Nat) (v : Value) : upd f i v i = v := if_pos rfl
theorem upd_ne (f : Nat → Value) {i j : Nat} (v : Value) (q : ¬ j = i) : upd f i v j = f j := if_neg q
theorem Afn.ext {h' : Heap} {a : Addr} {ty : FieldType} {n : Nat} {f : Nat → Value} (A : Afn Z h a ty n f) (E : Ext h h') : Afn Z h' a ty n f := by obtain ⟨c, A, r⟩ := A; exact ⟨c, A.ext E, r⟩
theorem Afn.other {h' : Heap} {a b : Addr} {i : Nat} {v : Value} {ty : FieldType} {n : Nat} {f : Nat → Value} (A : Afn Z h b ty n f) (Wq : Wr h h' a i v) (q : b ≠ a) : Afn Z h' b ty n f := by obtain ⟨c, A, r⟩ := A; exact ⟨c, A.other Wq q, r⟩
theorem Afn.keep {h' : Heap} {a : Addr} {ws : List Addr} {ty : FieldType} {n : Nat} {f : Nat → Value} (A : Afn Z h a ty n f) (Kp : Keep h h' ws) (q : a ∉ ws) : Afn Z h' a ty n f := by obtain ⟨c, A, r⟩ := A; exact ⟨c, ⟨Kp.2.1 a c A.1 q, A.2⟩, r⟩
theorem Afn.congr {a : Addr} {ty : FieldType} {n : Nat} {f g : Nat → Value} (A : Afn Z h a ty n f) (q : ∀ i, i < n → f i = g i) : Afn Z h a ty n g := by obtain ⟨c, A, h1, h2, h3⟩ := A; exact ⟨c, A, h1, h2, fun i hi => by rw [← q i hi]; exact h3 i hi⟩
theorem Afn.set {h' : Heap} {a : Addr} {i : Nat} {v : Value} {ty : FieldType} {n : Nat} {f : Nat → Value} (A : Afn Z h a ty n f) (Wq : Wr h h' a i v) : Afn Z h' a ty n (upd f i v) := by
  obtain ⟨c, A, h1, h2, h3⟩ := A
  refine ⟨_, A.same Wq, by simp [Cell.setSlot, h1], h2, fun j hj => ?_⟩
  by_cases q : j = i
  · subst q
    simp [Cell.setSlot, upd, h1, hj]
  · simp only [upd, if_neg q]
    show (c.slots.setIfInBounds i v)[j]? = _
    rw [Array.getElem?_setIfInBounds_ne (fun z => q z.symm)]; exact h3 j hj
theorem tnc {j : Int32} {i : Nat} (hj : j.toInt = (i : Int)) : j.toNatClampNeg = i ∧ ¬ j < 0 := by
  have e0 : (0 : Int32).toInt = 0 := by decide
  have q : ¬ j < 0 := by rw [Int32.lt_iff_toInt_lt, e0]; omega
  have := nat_of q
  exact ⟨by omega, q⟩
theorem idxOk {c : Cell} {n : Nat} {j : Int32} {i : Nat} (hs : c.slots.size = n) (hj : j.toInt = (i : Int)) (hi : i < n) : ¬ (j < 0 ∨ c.slots.size ≤ j.toNatClampNeg) := by
  obtain ⟨q1, q2⟩ := tnc hj
  rintro (z | z)
  · exact q2 z
  · omega

theorem w_iaload (O : Ok K l Z a0 ts B ml rt own nm R n0 Q) {a : Addr} {n i : Nat} {f : Nat → Value} {j : Int32} {x : Int32} (hd : decode B pc = .ok (.iaload, 1)) (hp : pc + 1 = pc') (A : Afn Z h a .int n f) (hj : j.toInt = (i : Int)) (hi : i < n) (hv : f i = .int x) (k : W K h cl sl pc' L (.int x :: st)) : W K h cl sl pc L (.int j :: .ref a :: st) := by
  subst hp
  obtain ⟨c, A, h1, h2, h3⟩ := A
  refine W.step (fun T locs X e t q => X.iaload O.1 (j := j) (v := .int x) (by rw [e]; exact A.1) (State.isArrayOf_alike O.2.2.2.2.2.2.2.1.alike A.2.1) A.2.2 (idxOk h1 hj hi) (by rw [(tnc hj).1, h3 i hi, hv]) (g := mkF K.2.1.2.1 pc L (.int j :: .ref a :: st)) rfl rfl (hb O.2.1 hd) _ q) k
theorem w_laload (O : Ok K l Z a0 ts B ml rt own nm R n0 Q) {a : Addr} {n i : Nat} {f : Nat → Value} {j : Int32} {x : Int64} (hd : decode B pc = .ok (.laload, 1)) (hp : pc + 1 = pc') (A : Afn Z h a .long n f) (hj : j.toInt = (i : Int)) (hi : i < n) (hv : f i = .long x) (k : W K h cl sl pc' L (.long x :: st)) : W K h cl sl pc L (.int j :: .ref a :: st) := by
  subst hp
  obtain ⟨c, A, h1, h2, h3⟩ := A
  refine W.step (fun T locs X e t q => X.laload O.1 (j := j) (v := .long x) (by rw [e]; exact A.1) (State.isArrayOf_alike O.2.2.2.2.2.2.2.1.alike A.2.1) A.2.2 (idxOk h1 hj hi) (by rw [(tnc hj).1, h3 i hi, hv]) (g := mkF K.2.1.2.1 pc L (.int j :: .ref a :: st)) rfl rfl (hb O.2.1 hd) _ q) k
theorem w_baload (O : Ok K l Z a0 ts B ml rt own nm R n0 Q) {a : Addr} {n i : Nat} {f : Nat → Value} {j : Int32} {x : Int32} (hd : decode B pc = .ok (.baload, 1)) (hp : pc + 1 = pc') (A : Afn Z h a .byte n f) (hj : j.toInt = (i : Int)) (hi : i < n) (hv : f i = .int x) (k : W K h cl sl pc' L (.int x :: st)) : W K h cl sl pc L (.int j :: .ref a :: st) := by
  subst hp
  obtain ⟨c, A, h1, h2, h3⟩ := A
  refine W.step (fun T locs X e t q => X.baloadBytes O.1 (j := j) (v := .int x) (by rw [e]; exact A.1) (State.isArrayOf_alike O.2.2.2.2.2.2.2.1.alike A.2.1) A.2.2 (idxOk h1 hj hi) (by rw [(tnc hj).1, h3 i hi, hv]) (g := mkF K.2.1.2.1 pc L (.int j :: .ref a :: st)) rfl rfl (hb O.2.1 hd) _ q) k
theorem w_caload (O : Ok K l Z a0 ts B ml rt own nm R n0 Q) {a : Addr} {n i : Nat} {f : Nat → Value} {j : Int32} {x : Int32} (hd : decode B pc = .ok (.caload, 1)) (hp : pc + 1 = pc') (A : Afn Z h a .char n f) (hj : j.toInt = (i : Int)) (hi : i < n) (hv : f i = .int x) (k : W K h cl sl pc' L (.int x :: st)) : W K h cl sl pc L (.int j :: .ref a :: st) := by
  subst hp
  obtain ⟨c, A, h1, h2, h3⟩ := A
  refine W.step (fun T locs X e t q => X.caload O.1 (j := j) (v := .int x) (by rw [e]; exact A.1) (State.isArrayOf_alike O.2.2.2.2.2.2.2.1.alike A.2.1) A.2.2 (idxOk h1 hj hi) (by rw [(tnc hj).1, h3 i hi, hv]) (g := mkF K.2.1.2.1 pc L (.int j :: .ref a :: st)) rfl rfl (hb O.2.1 hd) _ q) k
theorem w_aaload (O : Ok K l Z a0 ts B ml rt own nm R n0 Q) {a : Addr} {n i : Nat} {f : Nat → Value} {j : Int32} {x : Value} {ty : FieldType} (hd : decode B pc = .ok (.aaload, 1)) (hp : pc + 1 = pc') (A : Afn Z h a ty n f) (hty : ty.isReference = true) (hj : j.toInt = (i : Int)) (hi : i < n) (hv : f i = x) (k : W K h cl sl pc' L (x :: st)) : W K h cl sl pc L (.int j :: .ref a :: st) := by
  subst hp
  obtain ⟨c, A, h1, h2, h3⟩ := A
  refine W.step (fun T locs X e t q => X.aaload O.1 (j := j) (v := x) (by rw [e]; exact A.1) (State.isArrayOf_alike O.2.2.2.2.2.2.2.1.alike A.2.1) hty A.2.2 (idxOk h1 hj hi) (by rw [(tnc hj).1, h3 i hi, hv]) (g := mkF K.2.1.2.1 pc L (.int j :: .ref a :: st)) rfl rfl (hb O.2.1 hd) _ q) k
theorem w_iastore (O : Ok K l Z a0 ts B ml rt own nm R n0 Q) {a : Addr} {n i : Nat} {f : Nat → Value} {j : Int32} {x : Int32} (hd : decode B pc = .ok (.iastore, 1)) (hp : pc + 1 = pc') (A : Afn Z h a .int n f) (hj : j.toInt = (i : Int)) (hi : i < n) (ha : n0 ≤ a) (k : ∀ h', Wr h h' a i (.int x) → W K h' cl sl pc' L st) : W K h cl sl pc L (.int x :: .int j :: .ref a :: st) := by
  subst hp
  obtain ⟨c, A, h1, h2, h3⟩ := A
  rw [← (tnc hj).1] at k
  exact W.stepW (fun T locs X e => stI X O.1 O.2.2.2.2.2.2.2.1 e A (j := j) (idxOk h1 hj hi) (g := mkF K.2.1.2.1 pc L (.int x :: .int j :: .ref a :: st)) rfl rfl (hb O.2.1 hd)) (by rw [O.2.2.2.2.2.2.2.2.2.2.2.2.1]; exact ha) k
theorem w_lastore (O : Ok K l Z a0 ts B ml rt own nm R n0 Q) {a : Addr} {n i : Nat} {f : Nat → Value} {j : Int32} {x : Int64} (hd : decode B pc = .ok (.lastore, 1)) (hp : pc + 1 = pc') (A : Afn Z h a .long n f) (hj : j.toInt = (i : Int)) (hi : i < n) (ha : n0 ≤ a) (k : ∀ h', Wr h h' a i (.long x) → W K h' cl sl pc' L st) : W K h cl sl pc L (.long x :: .int j :: .ref a :: st) := by
  subst hp
  obtain ⟨c, A, h1, h2, h3⟩ := A
  rw [← (tnc hj).1] at k
  exact W.stepW (fun T locs X e => stJ X O.1 O.2.2.2.2.2.2.2.1 e A (j := j) (idxOk h1 hj hi) (g := mkF K.2.1.2.1 pc L (.long x :: .int j :: .ref a :: st)) rfl rfl (hb O.2.1 hd)) (by rw [O.2.2.2.2.2.2.2.2.2.2.2.2.1]; exact ha) k
theorem w_bastore (O : Ok K l Z a0 ts B ml rt own nm R n0 Q) {a : Addr} {n i : Nat} {f : Nat → Value} {j : Int32} {x : Int32} (hd : decode B pc = .ok (.bastore, 1)) (hp : pc + 1 = pc') (A : Afn Z h a .byte n f) (hj : j.toInt = (i : Int)) (hi : i < n) (ha : n0 ≤ a) (k : ∀ h', Wr h h' a i (.int (nar .byte x)) → W K h' cl sl pc' L st) : W K h cl sl pc L (.int x :: .int j :: .ref a :: st) := by
  subst hp
  obtain ⟨c, A, h1, h2, h3⟩ := A
  rw [← (tnc hj).1] at k
  exact W.stepW (fun T locs X e => stB X O.1 O.2.2.2.2.2.2.2.1 e A (j := j) (idxOk h1 hj hi) (g := mkF K.2.1.2.1 pc L (.int x :: .int j :: .ref a :: st)) rfl rfl (hb O.2.1 hd)) (by rw [O.2.2.2.2.2.2.2.2.2.2.2.2.1]; exact ha) k
theorem w_castore (O : Ok K l Z a0 ts B ml rt own nm R n0 Q) {a : Addr} {n i : Nat} {f : Nat → Value} {j : Int32} {x : Int32} (hd : decode B pc = .ok (.castore, 1)) (hp : pc + 1 = pc') (A : Afn Z h a .char n f) (hj : j.toInt = (i : Int)) (hi : i < n) (ha : n0 ≤ a) (k : ∀ h', Wr h h' a i (.int (nar .char x)) → W K h' cl sl pc' L st) : W K h cl sl pc L (.int x :: .int j :: .ref a :: st) := by
  subst hp
  obtain ⟨c, A, h1, h2, h3⟩ := A
  rw [← (tnc hj).1] at k
  exact W.stepW (fun T locs X e => stC X O.1 O.2.2.2.2.2.2.2.1 e A (j := j) (idxOk h1 hj hi) (g := mkF K.2.1.2.1 pc L (.int x :: .int j :: .ref a :: st)) rfl rfl (hb O.2.1 hd)) (by rw [O.2.2.2.2.2.2.2.2.2.2.2.2.1]; exact ha) k
theorem w_alen (O : Ok K l Z a0 ts B ml rt own nm R n0 Q) {a : Addr} {n : Nat} {f : Nat → Value} {z : Int32} {ty : FieldType} (hd : decode B pc = .ok (.arraylength, 1)) (hp : pc + 1 = pc') (A : Afn Z h a ty n f) (hz : z.toInt = (n : Int)) (k : W K h cl sl pc' L (.int z :: st)) : W K h cl sl pc L (.ref a :: st) := by
  subst hp
  obtain ⟨c, A, h1, h2, h3⟩ := A
  have ez : c.slots.size.toInt32 = z := by
    have := (back32 (tnc hz).2).1
    rw [(tnc hz).1, ← h1] at this; exact this
  refine W.step (fun T locs X e t q => X.arraylength O.1 (by rw [e]; exact A.1) (State.isArrayOf_alike O.2.2.2.2.2.2.2.1.alike A.2.1) (g := mkF K.2.1.2.1 pc L (.ref a :: st)) rfl rfl (hb O.2.1 hd) _ (by rw [ez]; exact q)) k
theorem w_newarr (O : Ok K l Z a0 ts B ml rt own nm R n0 Q) {aty : ArrayType} {ty : FieldType} {dv : Value} {z : Int32} {n cap cl' sl' : Nat} (hd : decode B pc = .ok (.newarray aty, 2)) (hp : pc + 2 = pc') (hty : newarray.typeOf aty = ty) (hdv : defaultValue ty = dv) (w : Jvm.Cond.arrayClass ty ∈ ts) (hz : z.toInt = (n : Int)) (hcap : n ≤ cap) (hb8 : cap * 8 ≤ 536870912) (hc : cl + 1 = cl') (hs : sl + cap = sl') (hc' : cl' ≤ R.cells) (hs' : sl' ≤ R.slots)
    (k : ∀ h' b, b = h.size → n0 ≤ b → Ext h h' → Afn Z h' b ty n (fun _ => dv) → W K h' cl' sl' pc' L (.ref b :: st)) : W K h cl sl pc L (.int z :: st) := by
  obtain ⟨⟨p, l', e', R'⟩, ⟨s, m, args, below⟩, ⟨meth, c⟩, Q', n0'⟩ := K
  obtain ⟨hx, hby, hml, hown, hnm, hrt, hlk, hZ, hw, hn0, hl', hR', hn', hQ'⟩ := O
  dsimp only at hx hby hml hown hnm hrt hlk hZ hn0 hl' hR' hn' hQ'
  subst hl' hR' hn' hQ'
  subst hp hc hs hty hdv
  intro T locs X eT N
  obtain ⟨T2, h2, kA, X2, e2, E2, A2, st2⟩ := newP X hx hZ (hw _ w) eT (g := mkF m pc L (.int z :: st)) rfl (hb hby hd) rfl (tnc hz).2 (cap := cap) (by rw [(tnc hz).1]; exact hcap) hb8 hc' hs'
  have hsz : (newA kA (newarray.typeOf aty) z).slots.size = n := by rw [sz_new, (tnc hz).1]
  have hr := (rng32 z).2
  obtain ⟨s2, o, h1, r⟩ := k h2 h.size rfl (Nat.le_trans hn0 (by rw [← eT]; exact X.same.2.1)) E2 ⟨_, A2, hsz, by omega, fun i hi => by show (Array.replicate z.toNatClampNeg (defaultValue (newarray.typeOf aty)))[i]? = _; rw [Array.getElem?_replicate, if_pos (by rw [(tnc hz).1]; exact hi)]⟩ T2 _ X2 e2 N
  exact ⟨s2, o, st2 _ h1, r⟩
theorem w_newarrE (O : Ok K l Z a0 ts B ml rt own nm R n0 Q) {aty : ArrayType} {ty : FieldType} {ad : String} {dv : Value} {z : Int32} {n cap cl' sl' : Nat} (hd : decode B pc = .ok (.newarray aty, 2)) (hp : pc + 2 = pc') (hty : newarray.typeOf aty = ty) (hdv : defaultValue ty = dv) (had : "[" ++ (newarray.typeOf aty).toString = ad) (w : Jvm.Cond.arrayClass ty ∈ ts) (hz : z.toInt = (n : Int)) (hcap : n ≤ cap) (hb8 : cap * 8 ≤ 536870912) (hc : cl + 1 = cl') (hs : sl + cap = sl') (hc' : cl' ≤ R.cells) (hs' : sl' ≤ R.slots)
    (k : ∀ h' b, b = h.size → n0 ≤ b → Ext h h' → Afn Z h' b ty n (fun _ => dv) → Exa Z h' b ad → W K h' cl' sl' pc' L (.ref b :: st)) : W K h cl sl pc L (.int z :: st) := by
  obtain ⟨⟨p, l', e', R'⟩, ⟨s, m, args, below⟩, ⟨meth, c⟩, Q', n0'⟩ := K
  obtain ⟨hx, hby, hml, hown, hnm, hrt, hlk, hZ, hw, hn0, hl', hR', hn', hQ'⟩ := O
  dsimp only at hx hby hml hown hnm hrt hlk hZ hn0 hl' hR' hn' hQ'
  subst hl' hR' hn' hQ'
  subst hp hc hs hty hdv
  intro T locs X eT N
  obtain ⟨T2, h2, kA, X2, e2, E2, A2, Ex2, st2⟩ := newPE X hx hZ (hw _ w) eT (g := mkF m pc L (.int z :: st)) rfl (hb hby hd) rfl (tnc hz).2 (cap := cap) (by rw [(tnc hz).1]; exact hcap) hb8 hc' hs' had
  have hsz : (newA kA (newarray.typeOf aty) z).slots.size = n := by rw [sz_new, (tnc hz).1]
  have hr := (rng32 z).2
  obtain ⟨s2, o, h1, r⟩ := k h2 h.size rfl (Nat.le_trans hn0 (by rw [← eT]; exact X.same.2.1)) E2 ⟨_, A2, hsz, by omega, fun i hi => by show (Array.replicate z.toNatClampNeg (defaultValue (newarray.typeOf aty)))[i]? = _; rw [Array.getElem?_replicate, if_pos (by rw [(tnc hz).1]; exact hi)]⟩ Ex2 T2 _ X2 e2 N
  exact ⟨s2, o, st2 _ h1, r⟩
theorem w_clone (O : Ok K l Z a0 ts B ml rt own nm R n0 Q) {i wt n cap cl' sl' : Nat} {ad : String} {a : Addr} {ty : FieldType} {f : Nat → Value} (hd : decode B pc = .ok (.invokevirtual i, 3)) (hp : pc + 3 = pc') (w1 : Jvm.Cond.methodLink own i ⟨ad, "clone", "()Ljava/lang/Object;"⟩ ∈ ts) (w2 : Jvm.Cond.sameMethod ad "java/lang/Object" "clone" "()Ljava/lang/Object;" ∈ ts) (w3 : Jvm.Cond.native ⟨"java/lang/Object", "clone", "()Ljava/lang/Object;"⟩ ∈ ts) (w4 : Jvm.Cond.instanceMethod ⟨"java/lang/Object", "clone", "()Ljava/lang/Object;"⟩ ∈ ts) (w5 : Jvm.Cond.selects ad ⟨ad, "clone", "()Ljava/lang/Object;"⟩ ⟨"java/lang/Object", "clone", "()Ljava/lang/Object;"⟩ ∈ ts) (w6 : Jvm.Cond.castable ad "java/lang/Cloneable" ∈ ts)
    (A : Afn Z h a ty n f) (E : Exa Z h a ad) (hfit : ∀ i, i < n → fits ty (f i) = true) (hsz : L.size = ml) (hwt : (st.map fun v => v.category).sum = wt) (hf : 1 ≤ R.frames) (hl : wt + 14 ≤ R.locals) (hcap : n ≤ cap) (hc : cl + 1 = cl') (hs : sl + cap = sl') (hc' : cl' ≤ R.cells) (hs' : sl' ≤ R.slots)
    (k : ∀ h' b, b = h.size → n0 ≤ b → Ext h h' → Afn Z h' b ty n f → Exa Z h' b ad → W K h' cl' sl' pc' L (.ref b :: st)) : W K h cl sl pc L (.ref a :: st) := by
  obtain ⟨⟨p, l', e', R'⟩, ⟨s, m, args, below⟩, ⟨meth, c⟩, Q', n0'⟩ := K
  obtain ⟨hx, hby, hml, hown, hnm, hrt, hlk, hZ, hw, hn0, hl', hR', hn', hQ'⟩ := O
  dsimp only at hx hby hml hown hnm hrt hlk hZ hn0 hl' hR' hn' hQ'
  subst hl' hR' hn' hQ'
  subst hp hc hs hml
  intro T locs X eT N
  obtain ⟨cx, A1, h1, h2, h3⟩ := A
  have FC : FitC Z cx := fitC_of A1 fun i hi v hv => by rw [h1] at hi; rw [h3 i hi] at hv; cases hv; exact hfit i hi
  obtain ⟨T2, h4, X2, e2, E2, A2, Ex2, st2⟩ := cloneA X hx hZ hown (hw _ w1) (hw _ w2) (hw _ w3) (hw _ w4) (hw _ w5) (hw _ w6) eT A1 E FC (g := mkF m pc L (.ref a :: st)) rfl hsz rfl (hb hby hd) hf (W := wt) (cap := cap) (by show 2 * 0 + _ ≤ _; omega) hl (by rw [h1]; exact hcap) hc' hs'
  obtain ⟨s2, o, g1, r⟩ := k h4 h.size rfl (Nat.le_trans hn0 (by rw [← eT]; exact X.same.2.1)) E2 ⟨_, A2, h1, h2, h3⟩ Ex2 T2 _ X2 e2 N
  exact ⟨s2, o, st2 _ g1, r⟩
theorem w_cast (O : Ok K l Z a0 ts B ml rt own nm R n0 Q) {i : Nat} {C : String} {a : Addr} (hd : decode B pc = .ok (.checkcast i, 3)) (hp : pc + 3 = pc') (w : Jvm.Cond.classLink own i C ∈ ts) (I : Ins Z h a C true) (k : W K h cl sl pc' L (.ref a :: st)) : W K h cl sl pc L (.ref a :: st) := by
  subst hp
  exact W.stepT (fun T locs X e => castY X O.1 O.2.2.2.2.2.2.2.1 O.2.2.2.1 (O.2.2.2.2.2.2.2.2.1 _ w) e I (g := mkF K.2.1.2.1 pc L (.ref a :: st)) rfl rfl (hb O.2.1 hd)) k
/-- the array at a takes every C -/
def Tk (Z : State) (h : Heap) (a : Addr) (C : String) : Prop := ∃ (c : Cell) (k : Class) (comp : ClassId) (t : FieldType), h[a]? = some c ∧ Z.vm.classes[c.cls]? = some k ∧ k.kind = .array comp t ∧ Z.vm.findClass C = some comp
theorem Tk.lt {a : Addr} {C : String} (F : Tk Z h a C) : a < h.size := by obtain ⟨_, _, _, _, h1, -⟩ := F; exact (Array.getElem?_eq_some_iff.mp h1).1
theorem Tk.ext {h' : Heap} {a : Addr} {C : String} (F : Tk Z h a C) (E : Ext h h') : Tk Z h' a C := by obtain ⟨c, k, cp, t, h1, r⟩ := F; exact ⟨c, k, cp, t, E.2 _ _ h1, r⟩
theorem Tk.wr {h' : Heap} {a b : Addr} {C : String} {i : Nat} {v : Value} (F : Tk Z h a C) (Wq : Wr h h' b i v) : Tk Z h' a C := by
  obtain ⟨c, k, cp, t, h1, h2, r⟩ := F
  obtain ⟨d1, a1, a2, -⟩ := wr_at Wq h1
  exact ⟨d1, k, cp, t, a1, by rw [a2]; exact h2, r⟩
theorem Tk.keep {h' : Heap} {a : Addr} {C : String} {ws : List Addr} (F : Tk Z h a C) (Kp : Keep h h' ws) : Tk Z h' a C := by
  obtain ⟨c, k, cp, t, h1, h2, r⟩ := F
  obtain ⟨d1, a1, a2, -⟩ := Kp.2.2 a c h1
  exact ⟨d1, k, cp, t, a1, by rw [a2]; exact h2, r⟩
theorem Tk.sto {a y : Addr} {C : String} (F : Tk Z h a C) (I : Ins Z h y C true) : Sto Z h a (.ref y) := by
  obtain ⟨cl, k, comp, t, o0, o1, o2, o3⟩ := F
  obtain ⟨cv, cT, i1, i2, i3⟩ := I
  cases o3.symm.trans i2
  simp only [Bool.and_eq_true, Bool.not_eq_true'] at i3
  obtain ⟨kc, q⟩ := Vm.classAt_of_findClass o3
  obtain ⟨kv, q2⟩ := Vm.classAt_of_assignable i3.2 ⟨kc, q⟩
  exact Or.inr ⟨cl, cv, k, kv, kc, _, _, y, o0, o1, o2, q, rfl, i1, i3.1, q2, i3.2⟩
theorem w_anewarrA (O : Ok K l Z a0 ts B ml rt own nm R n0 Q) {i : Nat} {C ad : String} {ty : FieldType} {z : Int32} {n cap cl' sl' : Nat} (hd : decode B pc = .ok (.anewarray i, 3)) (hp : pc + 3 = pc') (hC : (FieldType.array ty).toString = C) (had : "[" ++ C = ad) (w1 : Jvm.Cond.classLink own i C ∈ ts) (w2 : Jvm.Cond.arrayOver (.array ty) ∈ ts) (hz : z.toInt = (n : Int)) (hcap : n ≤ cap) (hb8 : cap * 8 ≤ 536870912) (hc : cl + 1 = cl') (hs : sl + cap = sl') (hc' : cl' ≤ R.cells) (hs' : sl' ≤ R.slots)
    (k : ∀ h' b, b = h.size → n0 ≤ b → Ext h h' → Afn Z h' b (.array ty) n (fun _ => .null) → Exa Z h' b ad → Tk Z h' b C → W K h' cl' sl' pc' L (.ref b :: st)) : W K h cl sl pc L (.int z :: st) := by
  obtain ⟨⟨p, l', e', R'⟩, ⟨s, m, args, below⟩, ⟨meth, c⟩, Q', n0'⟩ := K
  obtain ⟨hx, hby, hml, hown, hnm, hrt, hlk, hZ, hw, hn0, hl', hR', hn', hQ'⟩ := O
  dsimp only at hx hby hml hown hnm hrt hlk hZ hn0 hl' hR' hn' hQ'
  subst hl' hR' hn' hQ'
  subst hp hc hs
  intro T locs X eT N
  obtain ⟨T2, h2, kA, X2, e2, E2, A2, Ex2, Ov2, st2⟩ := newRA X hx hZ hown hC (hw _ w1) (hw _ w2) eT (g := mkF m pc L (.int z :: st)) rfl (hb hby hd) rfl (tnc hz).2 (cap := cap) (by rw [(tnc hz).1]; exact hcap) hb8 hc' hs' had
  have hsz : (newA kA (.array ty) z).slots.size = n := by rw [sz_new, (tnc hz).1]
  have hr := (rng32 z).2
  obtain ⟨ko, cpo, o1, o2, o3⟩ := Ov2
  obtain ⟨s2, o, h1, r⟩ := k h2 h.size rfl (Nat.le_trans hn0 (by rw [← eT]; exact X.same.2.1)) E2 ⟨_, A2, hsz, by omega, fun i hi => by show (Array.replicate z.toNatClampNeg (defaultValue (.array ty)))[i]? = _; rw [Array.getElem?_replicate, if_pos (by rw [(tnc hz).1]; exact hi)]; rfl⟩ Ex2 ⟨_, ko, cpo, _, A2.1, o1, o2, o3⟩ T2 _ X2 e2 N
  exact ⟨s2, o, st2 _ h1, r⟩
theorem w_aastore (O : Ok K l Z a0 ts B ml rt own nm R n0 Q) {a : Addr} {n i : Nat} {f : Nat → Value} {j : Int32} {x : Value} {ty : FieldType} (hd : decode B pc = .ok (.aastore, 1)) (hp : pc + 1 = pc') (A : Afn Z h a ty n f) (hty : ty.isReference = true) (hj : j.toInt = (i : Int)) (hi : i < n) (ha : n0 ≤ a) (St : Sto Z h a x) (k : ∀ h', Wr h h' a i x → W K h' cl sl pc' L st) : W K h cl sl pc L (x :: .int j :: .ref a :: st) := by
  subst hp
  obtain ⟨c, A, h1, h2, h3⟩ := A
  rw [← (tnc hj).1] at k
  exact W.stepW (fun T locs X e => stR X O.1 O.2.2.2.2.2.2.2.1 e A (j := j) (idxOk h1 hj hi) hty St (g := mkF K.2.1.2.1 pc L (x :: .int j :: .ref a :: st)) rfl rfl (hb O.2.1 hd)) (by rw [O.2.2.2.2.2.2.2.2.2.2.2.2.1]; exact ha) k
theorem w_static (O : Ok K l Z a0 ts B ml rt own nm R n0 Q) {i ml' wt cl' sl' : Nat} {y : MethodName} {B' : ByteArray} {rt' : Option FieldType} {rm : Room} {as S : List Value} {Qc : Option Value → Heap → Prop} {sg : MethodDescriptor} (hd : decode B pc = .ok (.invokestatic i, 3)) (hp : pc + 3 = pc') (w1 : Jvm.Cond.methodLink own i y ∈ ts) (w2 : Jvm.Cond.static y ∈ ts) (w3 : Jvm.Cond.initialized y.cls ∈ ts) (w4 : Jvm.Cond.code y B' ml' rt' ∈ ts) (hy : y.cls ≠ "java/lang/invoke/MethodHandle" ∧ y.cls ≠ "java/lang/invoke/VarHandle")
    (con : Con l Z y B' ml' rt' rm as h n0 Qc) (hS : S = as.reverse ++ st) (hsg : parseMethodDescriptor y.desc = some sg) (hlen : as.length = sg.parameters.length) (hwt : (st.map fun v => v.category).sum = wt) (hsz : L.size = ml) (hf : rm.frames + 1 ≤ R.frames) (hl : wt + (ml' + 11) + rm.locals ≤ R.locals) (hc : cl + rm.cells = cl') (hs : sl + rm.slots = sl') (hc' : cl' ≤ R.cells) (hs' : sl' ≤ R.slots) (k : ∀ v h', Qc v h' → W K h' cl' sl' pc' L (v.toList ++ st)) : W K h cl sl pc L S := by
  obtain ⟨⟨p, l', e', R'⟩, ⟨s, m, args, below⟩, ⟨meth, c⟩, Q', n0'⟩ := K
  obtain ⟨hx, hby, hml, hown, hnm, hrt, hlk, hZ, hw, hn0, hl', hR', hn', hQ'⟩ := O
  dsimp only at hx hby hml hown hnm hrt hlk hZ hn0 hl' hR' hn' hQ'
  subst hl' hR' hn' hQ'
  subst hp hc hs hS hml
  intro T locs X eT N
  have hn1 : n0' ≤ h.size := Nat.le_trans hn0 (by rw [← eT]; exact X.same.2.1)
  obtain ⟨_, _, ⟨T', L', k', n'⟩, -, X', ⟨Lc, ⟨hQ, hFr⟩, l1, y1, z1⟩, st1⟩ := Jvm.LawKit.callS X hx (y := y) hown (mvT hZ (hw _ w1)) (mvT hZ (hw _ w2)) (mvT hZ (hw _ w3)) (mvT hZ (hw _ w4)) hy (backOf (W := wt) (Q := fun v h L => Qc v h ∧ Fr n0' L) (con hn1 []) hZ (hw _ w4) (hw _ w3) hf hl) (g := mkF m pc L (as.reverse ++ st)) rfl hsz (argsL := as) (rest := st) (lenOf hsg hlen) rfl (by show 2 * 0 + _ ≤ _; omega) (hb hby hd) (fun _ _ => ⟨rfl, eT, hc', hs'⟩)
  dsimp only [Pt.U, Pt.locs, Pt.cells, Pt.slots] at X' l1 y1 z1 st1 hQ
  subst l1 y1 z1
  obtain ⟨s2, o, h1, r⟩ := k _ T'.heap hQ T' _ X' rfl (Fr.app N hFr)
  exact ⟨s2, o, st1 _ h1, r⟩
theorem w_virtual (O : Ok K l Z a0 ts B ml rt own nm R n0 Q) {i ml' wt cl' sl' : Nat} {y : MethodName} {B' : ByteArray} {rt' : Option FieldType} {rm : Room} {as S : List Value} {Qc : Option Value → Heap → Prop} {sg : MethodDescriptor} {a : Addr} {C : String} (hd : decode B pc = .ok (.invokevirtual i, 3)) (hp : pc + 3 = pc') (w1 : Jvm.Cond.methodLink own i y ∈ ts) (w2 : Jvm.Cond.declares y ∈ ts) (w3 : Jvm.Cond.selects C y y ∈ ts) (w4 : Jvm.Cond.instanceMethod y ∈ ts) (w5 : Jvm.Cond.code y B' ml' rt' ∈ ts) (w6 : Jvm.Cond.initialized y.cls ∈ ts) (hy : y.cls ≠ "java/lang/invoke/MethodHandle" ∧ y.cls ≠ "java/lang/invoke/VarHandle") (E : Exa Z h a C)
    (con : Con l Z y B' ml' rt' rm (.ref a :: as) h n0 Qc) (hS : S = as.reverse ++ .ref a :: st) (hsg : parseMethodDescriptor y.desc = some sg) (hlen : as.length = sg.parameters.length) (hwt : (st.map fun v => v.category).sum = wt) (hsz : L.size = ml) (hf : rm.frames + 1 ≤ R.frames) (hl : wt + (ml' + 11) + rm.locals ≤ R.locals) (hc : cl + rm.cells = cl') (hs : sl + rm.slots = sl') (hc' : cl' ≤ R.cells) (hs' : sl' ≤ R.slots) (k : ∀ v h', Qc v h' → W K h' cl' sl' pc' L (v.toList ++ st)) : W K h cl sl pc L S := by
  obtain ⟨⟨p, l', e', R'⟩, ⟨s, m, args, below⟩, ⟨meth, c⟩, Q', n0'⟩ := K
  obtain ⟨hx, hby, hml, hown, hnm, hrt, hlk, hZ, hw, hn0, hl', hR', hn', hQ'⟩ := O
  dsimp only at hx hby hml hown hnm hrt hlk hZ hn0 hl' hR' hn' hQ'
  subst hl' hR' hn' hQ'
  subst hp hc hs hS hml
  intro T locs X eT N
  have hn1 : n0' ≤ h.size := Nat.le_trans hn0 (by rw [← eT]; exact X.same.2.1)
  obtain ⟨cq, kq, qa, qb, qc⟩ := isOf hZ eT E
  obtain ⟨_, _, ⟨T', L', k', n'⟩, -, X', ⟨Lc, ⟨hQ, hFr⟩, l1, y1, z1⟩, st1⟩ := X.virtualBack hx (y := y) (z := y) hown (mvT hZ (hw _ w1)) (mvT hZ (hw _ w2)) (notFace_of_selects (args := #[]) (mvT hZ (hw _ w3))) (mvT hZ (hw _ w3)) (mvT hZ (hw _ w4)) hy (backOf (W := wt) (Q := fun v h L => Qc v h ∧ Fr n0' L) (con hn1 []) hZ (hw _ w5) (hw _ w6) hf hl) qa qc (g := mkF m pc L (as.reverse ++ .ref a :: st)) rfl hsz (Steps.refl _) (argsL := as) (rest := st) (lenOf hsg hlen) rfl (by show 2 * 0 + _ ≤ _; omega) (hb hby hd) (fun _ _ => ⟨rfl, eT, hc', hs'⟩)
  dsimp only [Pt.U, Pt.locs, Pt.cells, Pt.slots] at X' l1 y1 z1 st1 hQ
  subst l1 y1 z1
  obtain ⟨s2, o, h1, r⟩ := k _ T'.heap hQ T' _ X' rfl (Fr.app N hFr)
  exact ⟨s2, o, st1.trans h1, r⟩
theorem w_private (O : Ok K l Z a0 ts B ml rt own nm R n0 Q) {i ml' wt cl' sl' : Nat} {y : MethodName} {B' : ByteArray} {rt' : Option FieldType} {rm : Room} {as S : List Value} {Qc : Option Value → Heap → Prop} {sg : MethodDescriptor} {kk : Nat} {a : Addr} {C : String} (hd : decode B pc = .ok (.invokevirtual i, 3)) (hp : pc + 3 = pc') (w1 : Jvm.Cond.methodLink own i y ∈ ts) (w2 : Jvm.Cond.instanceMethod y ∈ ts) (w3 : Jvm.Cond.privateMethod y ∈ ts) (w4 : Jvm.Cond.instantiable y.cls kk ∈ ts) (w5 : Jvm.Cond.code y B' ml' rt' ∈ ts) (w6 : Jvm.Cond.initialized y.cls ∈ ts) (hy : y.cls ≠ "java/lang/invoke/MethodHandle" ∧ y.cls ≠ "java/lang/invoke/VarHandle") (E : Exa Z h a C)
    (con : Con l Z y B' ml' rt' rm (.ref a :: as) h n0 Qc) (hS : S = as.reverse ++ .ref a :: st) (hsg : parseMethodDescriptor y.desc = some sg) (hlen : as.length = sg.parameters.length) (hwt : (st.map fun v => v.category).sum = wt) (hsz : L.size = ml) (hf : rm.frames + 1 ≤ R.frames) (hl : wt + (ml' + 11) + rm.locals ≤ R.locals) (hc : cl + rm.cells = cl') (hs : sl + rm.slots = sl') (hc' : cl' ≤ R.cells) (hs' : sl' ≤ R.slots) (k : ∀ v h', Qc v h' → W K h' cl' sl' pc' L (v.toList ++ st)) : W K h cl sl pc L S := by
  obtain ⟨⟨p, l', e', R'⟩, ⟨s, m, args, below⟩, ⟨meth, c⟩, Q', n0'⟩ := K
  obtain ⟨hx, hby, hml, hown, hnm, hrt, hlk, hZ, hw, hn0, hl', hR', hn', hQ'⟩ := O
  dsimp only at hx hby hml hown hnm hrt hlk hZ hn0 hl' hR' hn' hQ'
  subst hl' hR' hn' hQ'
  subst hp hc hs hS hml
  intro T locs X eT N
  have hn1 : n0' ≤ h.size := Nat.le_trans hn0 (by rw [← eT]; exact X.same.2.1)
  obtain ⟨cq, q1, q2⟩ := E.cell
  have hpr : s.PrivateAt y := Cond.privateMethod_at (mvP hZ (hw _ w3) (args := #[]))
  have hsel : (Jvm.Cond.selects y.cls y y).before args s = true := by
    obtain ⟨c1, k1, g1, g2, -, g3, -⟩ := Cond.instantiable_spec (mvT (args := args) hZ (hw _ w4))
    exact selects_self_of_private g1 g2 (by simp at g3; exact g3.1) hpr (mvT hZ (hw _ w2)) hy
  obtain ⟨_, _, ⟨T', L', k', n'⟩, -, X', ⟨Lc, ⟨hQ, hFr⟩, l1, y1, z1⟩, st1⟩ := X.privateBack hx (y := y) hown (mvT hZ (hw _ w1)) (mvT hZ (hw _ w2)) hsel hpr (mvT hZ (hw _ w5)) hy (backOf (W := wt) (Q := fun v h L => Qc v h ∧ Fr n0' L) (con hn1 []) hZ (hw _ w5) (hw _ w6) hf hl) (g := mkF m pc L (as.reverse ++ .ref a :: st)) rfl hsz (Steps.refl _) (a := a) (by rw [eT]; exact q1) q2 (argsL := as) (rest := st) (lenOf hsg hlen) rfl (by show 2 * 0 + _ ≤ _; omega) (hb hby hd) (fun _ _ => ⟨rfl, eT, hc', hs'⟩)
  dsimp only [Pt.U, Pt.locs, Pt.cells, Pt.slots] at X' l1 y1 z1 st1 hQ
  subst l1 y1 z1
  obtain ⟨s2, o, h1, r⟩ := k _ T'.heap hQ T' _ X' rfl (Fr.app N hFr)
  exact ⟨s2, o, st1.trans h1, r⟩
theorem w_init (O : Ok K l Z a0 ts B ml rt own nm R n0 Q) {i ml' wt cl' sl' : Nat} {y : MethodName} {B' : ByteArray} {rm : Room} {as S : List Value} {Qc : Option Value → Heap → Prop} {sg : MethodDescriptor} {a : Addr} (hd : decode B pc = .ok (.invokespecial i, 3)) (hp : pc + 3 = pc') (hin : y.name = "<init>") (w1 : Jvm.Cond.methodLink own i y ∈ ts) (w2 : Jvm.Cond.instanceMethod y ∈ ts) (w3 : Jvm.Cond.initialized y.cls ∈ ts) (w4 : Jvm.Cond.code y B' ml' none ∈ ts) (hy : y.cls ≠ "java/lang/invoke/MethodHandle" ∧ y.cls ≠ "java/lang/invoke/VarHandle")
    (con : Con l Z y B' ml' none rm (.ref a :: as) h n0 Qc) (hS : S = as.reverse ++ .ref a :: st) (hsg : parseMethodDescriptor y.desc = some sg) (hlen : as.length = sg.parameters.length) (hwt : (st.map fun v => v.category).sum = wt) (hsz : L.size = ml) (hf : rm.frames + 1 ≤ R.frames) (hl : wt + (ml' + 11) + rm.locals ≤ R.locals) (hc : cl + rm.cells = cl') (hs : sl + rm.slots = sl') (hc' : cl' ≤ R.cells) (hs' : sl' ≤ R.slots) (k : ∀ v h', Qc v h' → W K h' cl' sl' pc' L (v.toList ++ st)) : W K h cl sl pc L S := by
  obtain ⟨⟨p, l', e', R'⟩, ⟨s, m, args, below⟩, ⟨meth, c⟩, Q', n0'⟩ := K
  obtain ⟨hx, hby, hml, hown, hnm, hrt, hlk, hZ, hw, hn0, hl', hR', hn', hQ'⟩ := O
  dsimp only at hx hby hml hown hnm hrt hlk hZ hn0 hl' hR' hn' hQ'
  subst hl' hR' hn' hQ'
  subst hp hc hs hS hml
  intro T locs X eT N
  have hn1 : n0' ≤ h.size := Nat.le_trans hn0 (by rw [← eT]; exact X.same.2.1)
  obtain ⟨_, _, ⟨T', L', k', n'⟩, -, X', ⟨Lc, ⟨hQ, hFr⟩, l1, y1, z1⟩, st1⟩ := X.specialBack hx (y := y) hin hown (mvT hZ (hw _ w1)) (mvT hZ (hw _ w2)) (mvT hZ (hw _ w4)) hy (backOf (W := wt) (Q := fun v h L => Qc v h ∧ Fr n0' L) (con hn1 []) hZ (hw _ w4) (hw _ w3) hf hl) (g := mkF m pc L (as.reverse ++ .ref a :: st)) rfl hsz (Steps.refl _) (a := a) (argsL := as) (rest := st) (lenOf hsg hlen) rfl (by show 2 * 0 + _ ≤ _; omega) (hb hby hd) (fun _ _ => ⟨rfl, eT, hc', hs'⟩)
  dsimp only [Pt.U, Pt.locs, Pt.cells, Pt.slots] at X' l1 y1 z1 st1 hQ
  subst l1 y1 z1
  obtain ⟨s2, o, h1, r⟩ := k _ T'.heap hQ T' _ X' rfl (Fr.app N hFr)
  exact ⟨s2, o, st1.trans h1, r⟩
theorem w_initB (O : Ok K l Z a0 ts B ml rt own nm R n0 Q) {i ml' wt cl' sl' rc rs : Nat} {y : MethodName} {B' : ByteArray} {as S : List Value} {Qc : Option Value → Heap → List Loc → Prop} {sg : MethodDescriptor} {a : Addr} (hd : decode B pc = .ok (.invokespecial i, 3)) (hp : pc + 3 = pc') (hin : y.name = "<init>") (w1 : Jvm.Cond.methodLink own i y ∈ ts) (w2 : Jvm.Cond.instanceMethod y ∈ ts) (w4 : Jvm.Cond.code y B' ml' none ∈ ts) (hy : y.cls ≠ "java/lang/invoke/MethodHandle" ∧ y.cls ≠ "java/lang/invoke/VarHandle")
    (bk : n0 ≤ h.size → ∀ (p : Program) (e : Env) (below : List Frame) (s : State) (args : Array Value), Z.Warmed39 s.vm → Back l R p e below s args y 3 wt (fun P a' => a' = (Value.ref a :: as).toArray ∧ P.U.heap = h ∧ P.cells + rc ≤ R.cells ∧ P.slots + rs ≤ R.slots) (fun P _ v B => ∃ L, Qc v B.U.heap L ∧ B.locs = P.locs ++ L ∧ B.cells = P.cells + rc ∧ B.slots = P.slots + rs)) (hfr : ∀ v h' L, Qc v h' L → Fr n0 L)
    (hS : S = as.reverse ++ .ref a :: st) (hsg : parseMethodDescriptor y.desc = some sg) (hlen : as.length = sg.parameters.length) (hwt : (st.map fun v => v.category).sum = wt) (hsz : L.size = ml) (hc : cl + rc = cl') (hs : sl + rs = sl') (hc' : cl' ≤ R.cells) (hs' : sl' ≤ R.slots) (k : ∀ v h' Ls, Qc v h' Ls → W K h' cl' sl' pc' L (v.toList ++ st)) : W K h cl sl pc L S := by
  obtain ⟨⟨p, l', e', R'⟩, ⟨s, m, args, below⟩, ⟨meth, c⟩, Q', n0'⟩ := K
  obtain ⟨hx, hby, hml, hown, hnm, hrt, hlk, hZ, hw, hn0, hl', hR', hn', hQ'⟩ := O
  dsimp only at hx hby hml hown hnm hrt hlk hZ hn0 hl' hR' hn' hQ'
  subst hl' hR' hn' hQ'
  subst hp hc hs hS hml
  intro T locs X eT N
  have hn1 : n0' ≤ h.size := Nat.le_trans hn0 (by rw [← eT]; exact X.same.2.1)
  obtain ⟨_, _, ⟨T', L', k', n'⟩, -, X', ⟨Lc, hQ, l1, y1, z1⟩, st1⟩ := X.specialBack hx (y := y) hin hown (mvT hZ (hw _ w1)) (mvT hZ (hw _ w2)) (mvT hZ (hw _ w4)) hy (bk hn1 p e' below s args hZ) (g := mkF m pc L (as.reverse ++ .ref a :: st)) rfl hsz (Steps.refl _) (a := a) (argsL := as) (rest := st) (lenOf hsg hlen) rfl (by show 2 * 0 + _ ≤ _; omega) (hb hby hd) (fun _ _ => ⟨rfl, eT, hc', hs'⟩)
  dsimp only [Pt.U, Pt.locs, Pt.cells, Pt.slots] at X' l1 y1 z1 st1 hQ
  subst l1 y1 z1
  obtain ⟨s2, o, h1, r⟩ := k _ T'.heap _ hQ T' _ X' rfl (Fr.app N (hfr _ _ _ hQ))
  exact ⟨s2, o, st1.trans h1, r⟩
theorem Afn.arv {a : Addr} {ty : FieldType} {n : Nat} {f : Nat → Value} {N : Int32} {vs : List Value} {d : Value} (A : Afn Z h a ty n f) (hN : N.toInt = (n : Int)) (hv : ∀ i, i < n → vs.getD i d = f i) (hf : ∀ i, i < n → fits ty (f i) = true) : ∃ k, Arv Z h a k ty N vs d := by
  obtain ⟨c, A, h1, h2, h3⟩ := A
  refine ⟨c.cls, c, A, rfl, by rw [h1, (tnc hN).1], (tnc hN).2, fun i hi => ?_, fun i hi => ?_⟩
  · rw [h1] at hi; rw [hv i hi]; exact h3 i hi
  · rw [h1] at hi; rw [hv i hi]; exact hf i hi
theorem w_reti {x : Int32} (O : Ok K l Z a0 ts B ml (some .int) own nm R n0 Q) (hd : decode B pc = .ok (.ireturn, 1)) (hc : cl ≤ R.cells) (hs : sl ≤ R.slots) (hq : Q (some (.int x)) h) : W K h cl sl pc L (.int x :: st) := by
  obtain ⟨⟨p, l', e', R'⟩, ⟨s, m, args, below⟩, ⟨meth, c⟩, Q', n0'⟩ := K
  obtain ⟨hx, hby, hml, hown, hnm, hrt, hlk, hZ, hw, hn0, hl', hR', hn', hQ'⟩ := O
  dsimp only at hx hby hml hown hnm hrt hlk hZ hn0 hl' hR' hn' hQ'
  subst hl' hR' hn' hQ'
  intro T locs X eT N
  obtain ⟨fs, hr, hrun, hended, hW, hsame⟩ := X.leave (v := some (.int x)) (fun q => by rw [hrt] at q; cases q) hlk
  refine ⟨_, _, retOut X hx hrt rfl (Or.inl ⟨rfl, Or.inl rfl, _, rfl⟩) (hb hby hd) hr, hrun, hended, _, _, rfl, ⟨?_, N⟩, ⟨_, rfl⟩, hW, hsame.mono hc hs⟩
  show Q' _ T.heap
  rw [eT]; exact hq
theorem w_retz {x : Int32} (O : Ok K l Z a0 ts B ml (some .boolean) own nm R n0 Q) (hd : decode B pc = .ok (.ireturn, 1)) (hc : cl ≤ R.cells) (hs : sl ≤ R.slots) (hz : x = 0 ∨ x = 1) (hq : Q (some (.int x)) h) : W K h cl sl pc L (.int x :: st) := by
  have hna : narrow .boolean (.int x) = .int x := by rcases hz with rfl | rfl <;> rfl
  obtain ⟨⟨p, l', e', R'⟩, ⟨s, m, args, below⟩, ⟨meth, c⟩, Q', n0'⟩ := K
  obtain ⟨hx, hby, hml, hown, hnm, hrt, hlk, hZ, hw, hn0, hl', hR', hn', hQ'⟩ := O
  dsimp only at hx hby hml hown hnm hrt hlk hZ hn0 hl' hR' hn' hQ'
  subst hl' hR' hn' hQ'
  intro T locs X eT N
  obtain ⟨fs, hr, hrun, hended, hW, hsame⟩ := X.leave (v := some (.int x)) (fun q => by rw [hrt] at q; cases q) hlk
  refine ⟨_, _, retOut X hx hrt hna (Or.inl ⟨rfl, Or.inr (Or.inl rfl), _, rfl⟩) (hb hby hd) hr, hrun, hended, _, _, rfl, ⟨?_, N⟩, ⟨_, rfl⟩, hW, hsame.mono hc hs⟩
  show Q' _ T.heap
  rw [eT]; exact hq
theorem w_retl {x : Int64} (O : Ok K l Z a0 ts B ml (some .long) own nm R n0 Q) (hd : decode B pc = .ok (.lreturn, 1)) (hc : cl ≤ R.cells) (hs : sl ≤ R.slots) (hq : Q (some (.long x)) h) : W K h cl sl pc L (.long x :: st) := by
  obtain ⟨⟨p, l', e', R'⟩, ⟨s, m, args, below⟩, ⟨meth, c⟩, Q', n0'⟩ := K
  obtain ⟨hx, hby, hml, hown, hnm, hrt, hlk, hZ, hw, hn0, hl', hR', hn', hQ'⟩ := O
  dsimp only at hx hby hml hown hnm hrt hlk hZ hn0 hl' hR' hn' hQ'
  subst hl' hR' hn' hQ'
  intro T locs X eT N
  obtain ⟨fs, hr, hrun, hended, hW, hsame⟩ := X.leave (v := some (.long x)) (fun q => by rw [hrt] at q; cases q) hlk
  refine ⟨_, _, retOut X hx hrt rfl (Or.inr (Or.inl ⟨rfl, rfl, _, rfl⟩)) (hb hby hd) hr, hrun, hended, _, _, rfl, ⟨?_, N⟩, ⟨_, rfl⟩, hW, hsame.mono hc hs⟩
  show Q' _ T.heap
  rw [eT]; exact hq
theorem w_reta {x : Value} {t : FieldType} (O : Ok K l Z a0 ts B ml (some t) own nm R n0 Q) (hd : decode B pc = .ok (.areturn, 1)) (ht : t.isReference = true) (hna : narrow t x = x) (hx' : x.isRef = true) (hc : cl ≤ R.cells) (hs : sl ≤ R.slots) (hq : Q (some x) h) : W K h cl sl pc L (x :: st) := by
  obtain ⟨⟨p, l', e', R'⟩, ⟨s, m, args, below⟩, ⟨meth, c⟩, Q', n0'⟩ := K
  obtain ⟨hx, hby, hml, hown, hnm, hrt, hlk, hZ, hw, hn0, hl', hR', hn', hQ'⟩ := O
  dsimp only at hx hby hml hown hnm hrt hlk hZ hn0 hl' hR' hn' hQ'
  subst hl' hR' hn' hQ'
  intro T locs X eT N
  obtain ⟨fs, hr, hrun, hended, hW, hsame⟩ := X.leave (v := some x) (fun q => by rw [hrt] at q; cases q) hlk
  refine ⟨_, _, retOut X hx hrt hna (Or.inr (Or.inr (Or.inr (Or.inr ⟨rfl, ht, hx'⟩)))) (hb hby hd) hr, hrun, hended, _, _, rfl, ⟨?_, N⟩, ⟨_, rfl⟩, hW, hsame.mono hc hs⟩
  show Q' _ T.heap
  rw [eT]; exact hq
theorem w_retv (O : Ok K l Z a0 ts B ml none own nm R n0 Q) (hd : decode B pc = .ok (.return_, 1)) (hc : cl ≤ R.cells) (hs : sl ≤ R.slots) (hq : Q none h) : W K h cl sl pc L [] := by
  obtain ⟨⟨p, l', e', R'⟩, ⟨s, m, args, below⟩, ⟨meth, c⟩, Q', n0'⟩ := K
  obtain ⟨hx, hby, hml, hown, hnm, hrt, hlk, hZ, hw, hn0, hl', hR', hn', hQ'⟩ := O
  dsimp only at hx hby hml hown hnm hrt hlk hZ hn0 hl' hR' hn' hQ'
  subst hl' hR' hn' hQ'
  intro T locs X eT N
  obtain ⟨fs, hr, hrun, hended, hW, hsame⟩ := X.leave (v := none) (fun _ => rfl) hlk
  refine ⟨_, _, X.returnOut hx hrt (hb hby hd) hr, hrun, hended, _, _, rfl, ⟨?_, N⟩, ⟨_, rfl⟩, hW, hsame.mono hc hs⟩
  show Q' _ T.heap
  rw [eT]; exact hq
theorem nz32 {y : Int32} (q : ¬ y.toInt = 0) : y ≠ 0 := by rintro rfl; exact q (by decide)
theorem nz64 {y : Int64} (q : ¬ y.toInt = 0) : y ≠ 0 := by rintro rfl; exact q (by decide)
theorem of_nat32 {q : Int32} {n : Nat} (hn : q.toInt = (n : Int)) : q = Int32.ofNat n := by
  have h1 := rng32 q
  apply Int32.toInt_inj.mp
  rw [hn, Int32.toInt_ofNat_of_lt (by omega)]
theorem c_lremP (x y : Int64) (d : Int) (hy : y.toInt = d) : (0 ≤ x.toInt → (x % y).toInt = x.toInt % d) ∧ (x.toInt < 0 → (x % y).toInt = -((-x.toInt) % d)) := by rw [← lrem_mod]; exact c_lrem x y d hy
end OwnW

theorem mw {d : Jvm.Cond} (k : Nat) (q : tables_1[k]? = some d) : d ∈ tables_1 := List.mem_of_getElem? q
theorem own_exact {Z : State} {args : Array Value} {t : Term} {C : String} (hx : (Jvm.Cond.exactly t C).value args Z none Z [] = some true) : ∃ a, t.eval args Z none [] Z = some (.ref a) ∧ Exa Z Z.heap a C := by
  obtain ⟨a', c', cell, k, e1, -⟩ := Cond.exactly_spec (Cond.before_iff.mpr hx)
  exact ⟨a', e1, Exa.start e1 hx⟩
theorem own_ord {Z : State} {args : Array Value} {t : Term} {K n d : String} {a : Addr} {y : Int32} (ev : t.eval args Z none [] Z = some (.ref a)) (h : (Jvm.Cond.eq (Term.field t K n d) (.int y)).value args Z none Z [] = some true) : Z.fieldOf? a K n d = some (.int y) := by
  have q := eqv_i (F := .int y) rfl h
  simpa [Term.eval, ev] using q
theorem ord_ne {o : Addr → Option Value} {a b : Addr} {i j : Int32} (h1 : o a = some (.int i)) (h2 : o b = some (.int j)) (q : i ≠ j) : a ≠ b := fun e => by
  rw [e, h2] at h1; exact q (Value.int.inj (Option.some.inj h1)).symm
theorem d2_0 : decode prog_52_method_1_code 0 = .ok (.getstatic 25, 3) := by decide +kernel
theorem d2_3 : decode prog_52_method_1_code 3 = .ok (.invokevirtual 29, 3) := by decide +kernel
theorem d2_6 : decode prog_52_method_1_code 6 = .ok (.checkcast 30, 3) := by decide +kernel
theorem d2_9 : decode prog_52_method_1_code 9 = .ok (.areturn, 1) := by decide +kernel
theorem pn_2 : plainFor (⟨"com/example/ledgerline/ledgerline/protocol/Refusal", "values", "()[Lcom/example/ledgerline/ledgerline/protocol/Refusal;"⟩ : MethodName) = true := plainFor_of_name (by first | (simp [plainName, overriddenIn]; done) | decide +kernel)
set_option maxRecDepth 65536 in
set_option maxHeartbeats 40000000 in
theorem con_vals (l : Launch) (Z : State) (a0 : Array Value) (hw : ∀ d ∈ tables_1, d.before a0 Z = true) (q : Addr) (b0 b1 b2 b3 b4 b5 b6 : Addr) (h0 : Heap) (n0 : Nat) (SV : Sta Z h0 "com/example/ledgerline/ledgerline/protocol/Refusal" "$VALUES" "[Lcom/example/ledgerline/ledgerline/protocol/Refusal;" (.ref q)) (AV : Afn Z h0 q (.object "com/example/ledgerline/ledgerline/protocol/Refusal") 7 (fun j => .ref ([b0, b1, b2, b3, b4, b5, b6].getD j 0))) (EV : Exa Z h0 q "[Lcom/example/ledgerline/ledgerline/protocol/Refusal;") :
    Con l Z (⟨"com/example/ledgerline/ledgerline/protocol/Refusal", "values", "()[Lcom/example/ledgerline/ledgerline/protocol/Refusal;"⟩ : MethodName) prog_52_method_1_code 0 (some (.array (.object "com/example/ledgerline/ledgerline/protocol/Refusal"))) ⟨1, 1, 7, 14⟩ [] h0 n0 (RetA fun v h => ∃ b, v = .ref b ∧ Ext h0 h ∧ Afn Z h b (.object "com/example/ledgerline/ledgerline/protocol/Refusal") 7 (fun j => .ref ([b0, b1, b2, b3, b4, b5, b6].getD j 0))) := by
  refine Con.body (L0 := #[]) hw pn_2 (fun m => by first | (simp [entryFrame, mkF, argsToLocals, Value.category]; done) | rfl) (fun K O => ?_)
  refine w_gets O d2_0 (pc' := 3) rfl (mw 7 rfl) SV ?_
  refine w_clone O d2_3 (st := []) (wt := 0) (cap := 7) (cl' := 1) (sl' := 7) (pc' := 6) rfl (mw 9 rfl) (mw 10 rfl) (mw 14 rfl) (mw 12 rfl) (mw 13 rfl) (mw 15 rfl) AV EV (fun i _ => rfl) rfl rfl (by decide) (by decide) (by decide) rfl rfl (by decide) (by decide) (fun h1 b qb g_b Eh1 A_b E_b => ?_)
  have ne_q_b : q ≠ b := Nat.ne_of_lt (by rw [qb]; exact AV.lt)
  have SV_h1 := Sta.ext Eh1 SV
  have AV_h1 := AV.ext Eh1
  have EV_h1 := Exa.ext Eh1 EV
  refine w_cast O d2_6 (pc' := 9) rfl (mw 24 rfl) (Ins.self E_b) ?_
  refine w_reta O d2_9 rfl rfl rfl (by decide) (by decide) ?_
  exact ⟨_, rfl, rfl, b, rfl, Eh1, A_b⟩
def Rf (p : Int32) (v : Value) (b0 b1 b2 b3 b4 b5 b6 : Addr) : Prop := (p.toInt = 1 ∧ v = .ref b0) ∨ (p.toInt = 2 ∧ v = .ref b1) ∨ (p.toInt = 3 ∧ v = .ref b2) ∨ (p.toInt = 4 ∧ v = .ref b3) ∨ (p.toInt = 5 ∧ v = .ref b4) ∨ (p.toInt = 6 ∧ v = .ref b5) ∨ (p.toInt = 7 ∧ v = .ref b6) ∨ ((p.toInt < 1 ∨ 7 < p.toInt) ∧ v = .null)
theorem d1_0 : decode prog_52_method_5_code 0 = .ok (.invokestatic 48, 3) := by decide +kernel
theorem d1_3 : decode prog_52_method_5_code 3 = .ok (.astore_n 1, 1) := by decide +kernel
theorem d1_4 : decode prog_52_method_5_code 4 = .ok (.aload_n 1, 1) := by decide +kernel
theorem d1_5 : decode prog_52_method_5_code 5 = .ok (.arraylength, 1) := by decide +kernel
theorem d1_6 : decode prog_52_method_5_code 6 = .ok (.istore_n 2, 1) := by decide +kernel
theorem d1_7 : decode prog_52_method_5_code 7 = .ok (.iconst 0, 1) := by decide +kernel
theorem d1_8 : decode prog_52_method_5_code 8 = .ok (.istore_n 3, 1) := by decide +kernel
theorem d1_9 : decode prog_52_method_5_code 9 = .ok (.iload_n 3, 1) := by decide +kernel
theorem d1_10 : decode prog_52_method_5_code 10 = .ok (.iload_n 2, 1) := by decide +kernel
theorem d1_11 : decode prog_52_method_5_code 11 = .ok (.if_icmp .ge 26, 3) := by decide +kernel
theorem d1_14 : decode prog_52_method_5_code 14 = .ok (.aload_n 1, 1) := by decide +kernel
theorem d1_15 : decode prog_52_method_5_code 15 = .ok (.iload_n 3, 1) := by decide +kernel
theorem d1_16 : decode prog_52_method_5_code 16 = .ok (.aaload, 1) := by decide +kernel
theorem d1_17 : decode prog_52_method_5_code 17 = .ok (.astore 4, 2) := by decide +kernel
theorem d1_19 : decode prog_52_method_5_code 19 = .ok (.aload 4, 2) := by decide +kernel
theorem d1_21 : decode prog_52_method_5_code 21 = .ok (.getfield 44, 3) := by decide +kernel
theorem d1_24 : decode prog_52_method_5_code 24 = .ok (.iload_n 0, 1) := by decide +kernel
theorem d1_25 : decode prog_52_method_5_code 25 = .ok (.if_icmp .ne 6, 3) := by decide +kernel
theorem d1_28 : decode prog_52_method_5_code 28 = .ok (.aload 4, 2) := by decide +kernel
theorem d1_30 : decode prog_52_method_5_code 30 = .ok (.areturn, 1) := by decide +kernel
theorem d1_31 : decode prog_52_method_5_code 31 = .ok (.iinc 3 1, 3) := by decide +kernel
theorem d1_34 : decode prog_52_method_5_code 34 = .ok (.goto (-25), 3) := by decide +kernel
theorem d1_37 : decode prog_52_method_5_code 37 = .ok (.aconst_null, 1) := by decide +kernel
theorem d1_38 : decode prog_52_method_5_code 38 = .ok (.areturn, 1) := by decide +kernel
theorem pn_1 : plainFor (⟨"com/example/ledgerline/ledgerline/protocol/Refusal", "of", "(I)Lcom/example/ledgerline/ledgerline/protocol/Refusal;"⟩ : MethodName) = true := plainFor_of_name (by first | (simp [plainName, overriddenIn]; done) | decide +kernel)
theorem pd_0 : parseMethodDescriptor "()[Lcom/example/ledgerline/ledgerline/protocol/Refusal;" = some ⟨[], some (.array (.object "com/example/ledgerline/ledgerline/protocol/Refusal"))⟩ := by decide +kernel
set_option maxRecDepth 65536 in
set_option maxHeartbeats 40000000 in
theorem con_of (l : Launch) (Z : State) (a0 : Array Value) (hw : ∀ d ∈ tables_1, d.before a0 Z = true) (p : Int32) (q : Addr) (b0 b1 b2 b3 b4 b5 b6 : Addr) (h0 : Heap) (n0 : Nat) (SV : Sta Z h0 "com/example/ledgerline/ledgerline/protocol/Refusal" "$VALUES" "[Lcom/example/ledgerline/ledgerline/protocol/Refusal;" (.ref q)) (AV : Afn Z h0 q (.object "com/example/ledgerline/ledgerline/protocol/Refusal") 7 (fun j => .ref ([b0, b1, b2, b3, b4, b5, b6].getD j 0))) (EV : Exa Z h0 q "[Lcom/example/ledgerline/ledgerline/protocol/Refusal;") (F0 : Fld Z h0 b0 "com/example/ledgerline/ledgerline/protocol/Refusal" "code" "I" (.int (1 : Int32))) (F1 : Fld Z h0 b1 "com/example/ledgerline/ledgerline/protocol/Refusal" "code" "I" (.int (2 : Int32))) (F2 : Fld Z h0 b2 "com/example/ledgerline/ledgerline/protocol/Refusal" "code" "I" (.int (3 : Int32))) (F3 : Fld Z h0 b3 "com/example/ledgerline/ledgerline/protocol/Refusal" "code" "I" (.int (4 : Int32))) (F4 : Fld Z h0 b4 "com/example/ledgerline/ledgerline/protocol/Refusal" "code" "I" (.int (5 : Int32))) (F5 : Fld Z h0 b5 "com/example/ledgerline/ledgerline/protocol/Refusal" "code" "I" (.int (6 : Int32))) (F6 : Fld Z h0 b6 "com/example/ledgerline/ledgerline/protocol/Refusal" "code" "I" (.int (7 : Int32))) :
    Con l Z (⟨"com/example/ledgerline/ledgerline/protocol/Refusal", "of", "(I)Lcom/example/ledgerline/ledgerline/protocol/Refusal;"⟩ : MethodName) prog_52_method_5_code 5 (some (.object "com/example/ledgerline/ledgerline/protocol/Refusal")) ⟨2, 1, 7, 25⟩ [(.int p)] h0 n0 (RetA fun v h => Ext h0 h ∧ Rf p v b0 b1 b2 b3 b4 b5 b6) := by
  refine Con.body (L0 := #[.val (.int p), .unset, .unset, .unset, .unset]) hw pn_1 (fun m => by first | (simp [entryFrame, mkF, argsToLocals, Value.category]; done) | rfl) (fun K O => ?_)
  refine w_static O d1_0 (as := []) (st := []) (wt := 0) (cl' := 1) (sl' := 7) (pc' := 3) rfl (mw 4 rfl) (mw 5 rfl) (mw 2 rfl) (mw 6 rfl) (by decide) (con_vals l Z a0 hw q b0 b1 b2 b3 b4 b5 b6 h0 n0 SV AV EV) rfl pd_0 rfl rfl rfl (by decide) (by decide) rfl rfl (by decide) (by decide) (cA fun v h1 hv ⟨b, ev, Ex, Ab⟩ => ?_)
  subst ev
  have F0_h1 := Fld.ext Ex F0
  have F1_h1 := Fld.ext Ex F1
  have F2_h1 := Fld.ext Ex F2
  have F3_h1 := Fld.ext Ex F3
  have F4_h1 := Fld.ext Ex F4
  have F5_h1 := Fld.ext Ex F5
  have F6_h1 := Fld.ext Ex F6
  refine w_astoreN O d1_3 (L' := #[.val (.int p), .val (.ref b), .unset, .unset, .unset]) (pc' := 4) rfl rfl rfl ?_
  refine w_aloadN O d1_4 (pc' := 5) rfl rfl rfl ?_
  refine w_alen O d1_5 (z := (7 : Int32)) (pc' := 6) rfl Ab (by decide) ?_
  refine w_istoreN O d1_6 (L' := #[.val (.int p), .val (.ref b), .val (.int (7 : Int32)), .unset, .unset]) (pc' := 7) rfl rfl ?_
  refine w_iconst O d1_7 (z := (0 : Int32)) (pc' := 8) rfl rfl ?_
  refine w_istoreN O d1_8 (L' := #[.val (.int p), .val (.ref b), .val (.int (7 : Int32)), .val (.int (0 : Int32)), .unset]) (pc' := 9) rfl rfl ?_
  refine w_iloadN O d1_9 (pc' := 10) rfl rfl ?_
  refine w_iloadN O d1_10 (pc' := 11) rfl rfl ?_
  refine w_icmp_ge O d1_11 (pn := 14) (pt := 37) rfl (by decide) rfl (fun q => absurd q (by decide)) (fun c11 => ?_)
  refine w_aloadN O d1_14 (pc' := 15) rfl rfl rfl ?_
  refine w_iloadN O d1_15 (pc' := 16) rfl rfl ?_
  refine w_aaload O d1_16 (i := 0) (x := (.ref b0)) (pc' := 17) rfl Ab rfl (by decide) (by decide) rfl ?_
  refine w_astore O d1_17 (L' := #[.val (.int p), .val (.ref b), .val (.int (7 : Int32)), .val (.int (0 : Int32)), .val (.ref b0)]) (pc' := 19) rfl rfl rfl ?_
  refine w_aload O d1_19 (pc' := 21) rfl rfl rfl ?_
  refine w_getf O d1_21 (pc' := 24) rfl (mw 26 rfl) F0_h1 ?_
  refine w_iloadN O d1_24 (pc' := 25) rfl rfl ?_
  refine w_icmp_ne O d1_25 (pn := 28) (pt := 31) rfl (by decide) rfl (fun c25 => ?_) (fun c25 => ?_)
  · replace c25 : ¬ 1 = p.toInt := c25
    refine w_iinc O d1_31 (z := (1 : Int32)) (L' := #[.val (.int p), .val (.ref b), .val (.int (7 : Int32)), .val (.int (1 : Int32)), .val (.ref b0)]) (pc' := 34) rfl rfl rfl rfl ?_
    refine w_goto O d1_34 (pc' := 9) (by decide) rfl ?_
    refine w_iloadN O d1_9 (pc' := 10) rfl rfl ?_
    refine w_iloadN O d1_10 (pc' := 11) rfl rfl ?_
    refine w_icmp_ge O d1_11 (pn := 14) (pt := 37) rfl (by decide) rfl (fun q => absurd q (by decide)) (fun c11 => ?_)
    refine w_aloadN O d1_14 (pc' := 15) rfl rfl rfl ?_
    refine w_iloadN O d1_15 (pc' := 16) rfl rfl ?_
    refine w_aaload O d1_16 (i := 1) (x := (.ref b1)) (pc' := 17) rfl Ab rfl (by decide) (by decide) rfl ?_
    refine w_astore O d1_17 (L' := #[.val (.int p), .val (.ref b), .val (.int (7 : Int32)), .val (.int (1 : Int32)), .val (.ref b1)]) (pc' := 19) rfl rfl rfl ?_
    refine w_aload O d1_19 (pc' := 21) rfl rfl rfl ?_
    refine w_getf O d1_21 (pc' := 24) rfl (mw 26 rfl) F1_h1 ?_
    refine w_iloadN O d1_24 (pc' := 25) rfl rfl ?_
    refine w_icmp_ne O d1_25 (pn := 28) (pt := 31) rfl (by decide) rfl (fun c25 => ?_) (fun c25 => ?_)
    · replace c25 : ¬ 2 = p.toInt := c25
      refine w_iinc O d1_31 (z := (2 : Int32)) (L' := #[.val (.int p), .val (.ref b), .val (.int (7 : Int32)), .val (.int (2 : Int32)), .val (.ref b1)]) (pc' := 34) rfl rfl rfl rfl ?_
      refine w_goto O d1_34 (pc' := 9) (by decide) rfl ?_
      refine w_iloadN O d1_9 (pc' := 10) rfl rfl ?_
      refine w_iloadN O d1_10 (pc' := 11) rfl rfl ?_
      refine w_icmp_ge O d1_11 (pn := 14) (pt := 37) rfl (by decide) rfl (fun q => absurd q (by decide)) (fun c11 => ?_)
      refine w_aloadN O d1_14 (pc' := 15) rfl rfl rfl ?_
      refine w_iloadN O d1_15 (pc' := 16) rfl rfl ?_
      refine w_aaload O d1_16 (i := 2) (x := (.ref b2)) (pc' := 17) rfl Ab rfl (by decide) (by decide) rfl ?_
      refine w_astore O d1_17 (L' := #[.val (.int p), .val (.ref b), .val (.int (7 : Int32)), .val (.int (2 : Int32)), .val (.ref b2)]) (pc' := 19) rfl rfl rfl ?_
      refine w_aload O d1_19 (pc' := 21) rfl rfl rfl ?_
      refine w_getf O d1_21 (pc' := 24) rfl (mw 26 rfl) F2_h1 ?_
      refine w_iloadN O d1_24 (pc' := 25) rfl rfl ?_
      refine w_icmp_ne O d1_25 (pn := 28) (pt := 31) rfl (by decide) rfl (fun c25 => ?_) (fun c25 => ?_)
      · replace c25 : ¬ 3 = p.toInt := c25
        refine w_iinc O d1_31 (z := (3 : Int32)) (L' := #[.val (.int p), .val (.ref b), .val (.int (7 : Int32)), .val (.int (3 : Int32)), .val (.ref b2)]) (pc' := 34) rfl rfl rfl rfl ?_
        refine w_goto O d1_34 (pc' := 9) (by decide) rfl ?_
        refine w_iloadN O d1_9 (pc' := 10) rfl rfl ?_
        refine w_iloadN O d1_10 (pc' := 11) rfl rfl ?_
        refine w_icmp_ge O d1_11 (pn := 14) (pt := 37) rfl (by decide) rfl (fun q => absurd q (by decide)) (fun c11 => ?_)
        refine w_aloadN O d1_14 (pc' := 15) rfl rfl rfl ?_
        refine w_iloadN O d1_15 (pc' := 16) rfl rfl ?_
        refine w_aaload O d1_16 (i := 3) (x := (.ref b3)) (pc' := 17) rfl Ab rfl (by decide) (by decide) rfl ?_
        refine w_astore O d1_17 (L' := #[.val (.int p), .val (.ref b), .val (.int (7 : Int32)), .val (.int (3 : Int32)), .val (.ref b3)]) (pc' := 19) rfl rfl rfl ?_
        refine w_aload O d1_19 (pc' := 21) rfl rfl rfl ?_
        refine w_getf O d1_21 (pc' := 24) rfl (mw 26 rfl) F3_h1 ?_
        refine w_iloadN O d1_24 (pc' := 25) rfl rfl ?_
        refine w_icmp_ne O d1_25 (pn := 28) (pt := 31) rfl (by decide) rfl (fun c25 => ?_) (fun c25 => ?_)
        · replace c25 : ¬ 4 = p.toInt := c25
          refine w_iinc O d1_31 (z := (4 : Int32)) (L' := #[.val (.int p), .val (.ref b), .val (.int (7 : Int32)), .val (.int (4 : Int32)), .val (.ref b3)]) (pc' := 34) rfl rfl rfl rfl ?_
          refine w_goto O d1_34 (pc' := 9) (by decide) rfl ?_
          refine w_iloadN O d1_9 (pc' := 10) rfl rfl ?_
          refine w_iloadN O d1_10 (pc' := 11) rfl rfl ?_
          refine w_icmp_ge O d1_11 (pn := 14) (pt := 37) rfl (by decide) rfl (fun q => absurd q (by decide)) (fun c11 => ?_)
          refine w_aloadN O d1_14 (pc' := 15) rfl rfl rfl ?_
          refine w_iloadN O d1_15 (pc' := 16) rfl rfl ?_
          refine w_aaload O d1_16 (i := 4) (x := (.ref b4)) (pc' := 17) rfl Ab rfl (by decide) (by decide) rfl ?_
          refine w_astore O d1_17 (L' := #[.val (.int p), .val (.ref b), .val (.int (7 : Int32)), .val (.int (4 : Int32)), .val (.ref b4)]) (pc' := 19) rfl rfl rfl ?_
          refine w_aload O d1_19 (pc' := 21) rfl rfl rfl ?_
          refine w_getf O d1_21 (pc' := 24) rfl (mw 26 rfl) F4_h1 ?_
          refine w_iloadN O d1_24 (pc' := 25) rfl rfl ?_
          refine w_icmp_ne O d1_25 (pn := 28) (pt := 31) rfl (by decide) rfl (fun c25 => ?_) (fun c25 => ?_)
          · replace c25 : ¬ 5 = p.toInt := c25
            refine w_iinc O d1_31 (z := (5 : Int32)) (L' := #[.val (.int p), .val (.ref b), .val (.int (7 : Int32)), .val (.int (5 : Int32)), .val (.ref b4)]) (pc' := 34) rfl rfl rfl rfl ?_
            refine w_goto O d1_34 (pc' := 9) (by decide) rfl ?_
            refine w_iloadN O d1_9 (pc' := 10) rfl rfl ?_
            refine w_iloadN O d1_10 (pc' := 11) rfl rfl ?_
            refine w_icmp_ge O d1_11 (pn := 14) (pt := 37) rfl (by decide) rfl (fun q => absurd q (by decide)) (fun c11 => ?_)
            refine w_aloadN O d1_14 (pc' := 15) rfl rfl rfl ?_
            refine w_iloadN O d1_15 (pc' := 16) rfl rfl ?_
            refine w_aaload O d1_16 (i := 5) (x := (.ref b5)) (pc' := 17) rfl Ab rfl (by decide) (by decide) rfl ?_
            refine w_astore O d1_17 (L' := #[.val (.int p), .val (.ref b), .val (.int (7 : Int32)), .val (.int (5 : Int32)), .val (.ref b5)]) (pc' := 19) rfl rfl rfl ?_
            refine w_aload O d1_19 (pc' := 21) rfl rfl rfl ?_
            refine w_getf O d1_21 (pc' := 24) rfl (mw 26 rfl) F5_h1 ?_
            refine w_iloadN O d1_24 (pc' := 25) rfl rfl ?_
            refine w_icmp_ne O d1_25 (pn := 28) (pt := 31) rfl (by decide) rfl (fun c25 => ?_) (fun c25 => ?_)
            · replace c25 : ¬ 6 = p.toInt := c25
              refine w_iinc O d1_31 (z := (6 : Int32)) (L' := #[.val (.int p), .val (.ref b), .val (.int (7 : Int32)), .val (.int (6 : Int32)), .val (.ref b5)]) (pc' := 34) rfl rfl rfl rfl ?_
              refine w_goto O d1_34 (pc' := 9) (by decide) rfl ?_
              refine w_iloadN O d1_9 (pc' := 10) rfl rfl ?_
              refine w_iloadN O d1_10 (pc' := 11) rfl rfl ?_
              refine w_icmp_ge O d1_11 (pn := 14) (pt := 37) rfl (by decide) rfl (fun q => absurd q (by decide)) (fun c11 => ?_)
              refine w_aloadN O d1_14 (pc' := 15) rfl rfl rfl ?_
              refine w_iloadN O d1_15 (pc' := 16) rfl rfl ?_
              refine w_aaload O d1_16 (i := 6) (x := (.ref b6)) (pc' := 17) rfl Ab rfl (by decide) (by decide) rfl ?_
              refine w_astore O d1_17 (L' := #[.val (.int p), .val (.ref b), .val (.int (7 : Int32)), .val (.int (6 : Int32)), .val (.ref b6)]) (pc' := 19) rfl rfl rfl ?_
              refine w_aload O d1_19 (pc' := 21) rfl rfl rfl ?_
              refine w_getf O d1_21 (pc' := 24) rfl (mw 26 rfl) F6_h1 ?_
              refine w_iloadN O d1_24 (pc' := 25) rfl rfl ?_
              refine w_icmp_ne O d1_25 (pn := 28) (pt := 31) rfl (by decide) rfl (fun c25 => ?_) (fun c25 => ?_)
              · replace c25 : ¬ 7 = p.toInt := c25
                refine w_iinc O d1_31 (z := (7 : Int32)) (L' := #[.val (.int p), .val (.ref b), .val (.int (7 : Int32)), .val (.int (7 : Int32)), .val (.ref b6)]) (pc' := 34) rfl rfl rfl rfl ?_
                refine w_goto O d1_34 (pc' := 9) (by decide) rfl ?_
                refine w_iloadN O d1_9 (pc' := 10) rfl rfl ?_
                refine w_iloadN O d1_10 (pc' := 11) rfl rfl ?_
                refine w_icmp_ge O d1_11 (pn := 14) (pt := 37) rfl (by decide) rfl (fun c11 => ?_) (fun q => absurd q (by decide))
                refine w_anull O d1_37 (pc' := 38) rfl ?_
                refine w_reta O d1_38 rfl rfl rfl (by decide) (by decide) ?_
                exact ⟨_, rfl, rfl, Ex, Or.inr (Or.inr (Or.inr (Or.inr (Or.inr (Or.inr (Or.inr (⟨by omega, rfl⟩)))))))⟩
              · replace c25 : 7 = p.toInt := c25
                refine w_aload O d1_28 (pc' := 30) rfl rfl rfl ?_
                refine w_reta O d1_30 rfl rfl rfl (by decide) (by decide) ?_
                exact ⟨_, rfl, rfl, Ex, Or.inr (Or.inr (Or.inr (Or.inr (Or.inr (Or.inr (Or.inl ⟨by omega, rfl⟩))))))⟩
            · replace c25 : 6 = p.toInt := c25
              refine w_aload O d1_28 (pc' := 30) rfl rfl rfl ?_
              refine w_reta O d1_30 rfl rfl rfl (by decide) (by decide) ?_
              exact ⟨_, rfl, rfl, Ex, Or.inr (Or.inr (Or.inr (Or.inr (Or.inr (Or.inl ⟨by omega, rfl⟩)))))⟩
          · replace c25 : 5 = p.toInt := c25
            refine w_aload O d1_28 (pc' := 30) rfl rfl rfl ?_
            refine w_reta O d1_30 rfl rfl rfl (by decide) (by decide) ?_
            exact ⟨_, rfl, rfl, Ex, Or.inr (Or.inr (Or.inr (Or.inr (Or.inl ⟨by omega, rfl⟩))))⟩
        · replace c25 : 4 = p.toInt := c25
          refine w_aload O d1_28 (pc' := 30) rfl rfl rfl ?_
          refine w_reta O d1_30 rfl rfl rfl (by decide) (by decide) ?_
          exact ⟨_, rfl, rfl, Ex, Or.inr (Or.inr (Or.inr (Or.inl ⟨by omega, rfl⟩)))⟩
      · replace c25 : 3 = p.toInt := c25
        refine w_aload O d1_28 (pc' := 30) rfl rfl rfl ?_
        refine w_reta O d1_30 rfl rfl rfl (by decide) (by decide) ?_
        exact ⟨_, rfl, rfl, Ex, Or.inr (Or.inr (Or.inl ⟨by omega, rfl⟩))⟩
    · replace c25 : 2 = p.toInt := c25
      refine w_aload O d1_28 (pc' := 30) rfl rfl rfl ?_
      refine w_reta O d1_30 rfl rfl rfl (by decide) (by decide) ?_
      exact ⟨_, rfl, rfl, Ex, Or.inr (Or.inl ⟨by omega, rfl⟩)⟩
  · replace c25 : 1 = p.toInt := c25
    refine w_aload O d1_28 (pc' := 30) rfl rfl rfl ?_
    refine w_reta O d1_30 rfl rfl rfl (by decide) (by decide) ?_
    exact ⟨_, rfl, rfl, Ex, Or.inl ⟨by omega, rfl⟩⟩
theorem d3_0 : decode method_2_code 0 = .ok (.iload_n 0, 1) := by decide +kernel
theorem d3_1 : decode method_2_code 1 = .ok (.iconst 1, 1) := by decide +kernel
theorem d3_2 : decode method_2_code 2 = .ok (.if_icmp .ne 7, 3) := by decide +kernel
theorem d3_5 : decode method_2_code 5 = .ok (.getstatic 7, 3) := by decide +kernel
theorem d3_8 : decode method_2_code 8 = .ok (.areturn, 1) := by decide +kernel
theorem d3_9 : decode method_2_code 9 = .ok (.iload_n 0, 1) := by decide +kernel
theorem d3_10 : decode method_2_code 10 = .ok (.iconst 2, 1) := by decide +kernel
theorem d3_11 : decode method_2_code 11 = .ok (.if_icmp .ne 7, 3) := by decide +kernel
theorem d3_14 : decode method_2_code 14 = .ok (.getstatic 13, 3) := by decide +kernel
theorem d3_17 : decode method_2_code 17 = .ok (.areturn, 1) := by decide +kernel
theorem d3_18 : decode method_2_code 18 = .ok (.iload_n 0, 1) := by decide +kernel
theorem d3_19 : decode method_2_code 19 = .ok (.iconst 3, 1) := by decide +kernel
theorem d3_20 : decode method_2_code 20 = .ok (.if_icmp .ne 7, 3) := by decide +kernel
theorem d3_23 : decode method_2_code 23 = .ok (.getstatic 16, 3) := by decide +kernel
theorem d3_26 : decode method_2_code 26 = .ok (.areturn, 1) := by decide +kernel
theorem d3_27 : decode method_2_code 27 = .ok (.iload_n 0, 1) := by decide +kernel
theorem d3_28 : decode method_2_code 28 = .ok (.iconst 4, 1) := by decide +kernel
theorem d3_29 : decode method_2_code 29 = .ok (.if_icmp .ne 7, 3) := by decide +kernel
theorem d3_32 : decode method_2_code 32 = .ok (.getstatic 19, 3) := by decide +kernel
theorem d3_35 : decode method_2_code 35 = .ok (.areturn, 1) := by decide +kernel
theorem d3_36 : decode method_2_code 36 = .ok (.iload_n 0, 1) := by decide +kernel
theorem d3_37 : decode method_2_code 37 = .ok (.iconst 5, 1) := by decide +kernel
theorem d3_38 : decode method_2_code 38 = .ok (.if_icmp .ne 7, 3) := by decide +kernel
theorem d3_41 : decode method_2_code 41 = .ok (.getstatic 22, 3) := by decide +kernel
theorem d3_44 : decode method_2_code 44 = .ok (.areturn, 1) := by decide +kernel
theorem d3_45 : decode method_2_code 45 = .ok (.iload_n 0, 1) := by decide +kernel
theorem d3_46 : decode method_2_code 46 = .ok (.bipush 6, 2) := by decide +kernel
theorem d3_48 : decode method_2_code 48 = .ok (.if_icmp .ne 7, 3) := by decide +kernel
theorem d3_51 : decode method_2_code 51 = .ok (.getstatic 25, 3) := by decide +kernel
theorem d3_54 : decode method_2_code 54 = .ok (.areturn, 1) := by decide +kernel
theorem d3_55 : decode method_2_code 55 = .ok (.iload_n 0, 1) := by decide +kernel
theorem d3_56 : decode method_2_code 56 = .ok (.bipush 7, 2) := by decide +kernel
theorem d3_58 : decode method_2_code 58 = .ok (.if_icmp .ne 7, 3) := by decide +kernel
theorem d3_61 : decode method_2_code 61 = .ok (.getstatic 28, 3) := by decide +kernel
theorem d3_64 : decode method_2_code 64 = .ok (.areturn, 1) := by decide +kernel
theorem d3_65 : decode method_2_code 65 = .ok (.aconst_null, 1) := by decide +kernel
theorem d3_66 : decode method_2_code 66 = .ok (.areturn, 1) := by decide +kernel
theorem pn_3 : plainFor (⟨"com/example/ledgerline/ledgerline/protocol/RefusalOfPinLaw", "expected", "(I)Lcom/example/ledgerline/ledgerline/protocol/Refusal;"⟩ : MethodName) = true := plainFor_of_name (by first | (simp [plainName, overriddenIn]; done) | decide +kernel)
set_option maxRecDepth 65536 in
set_option maxHeartbeats 40000000 in
theorem con_exp (l : Launch) (Z : State) (a0 : Array Value) (hw : ∀ d ∈ tables_1, d.before a0 Z = true) (p : Int32) (b0 b1 b2 b3 b4 b5 b6 : Addr) (h0 : Heap) (n0 : Nat) (S0 : Sta Z h0 "com/example/ledgerline/ledgerline/protocol/Refusal" "MALFORMED" "Lcom/example/ledgerline/ledgerline/protocol/Refusal;" (.ref b0)) (S1 : Sta Z h0 "com/example/ledgerline/ledgerline/protocol/Refusal" "NO_SUCH_SEGMENT" "Lcom/example/ledgerline/ledgerline/protocol/Refusal;" (.ref b1)) (S2 : Sta Z h0 "com/example/ledgerline/ledgerline/protocol/Refusal" "SEGMENT_EXISTS" "Lcom/example/ledgerline/ledgerline/protocol/Refusal;" (.ref b2)) (S3 : Sta Z h0 "com/example/ledgerline/ledgerline/protocol/Refusal" "SEGMENT_CLOSED" "Lcom/example/ledgerline/ledgerline/protocol/Refusal;" (.ref b3)) (S4 : Sta Z h0 "com/example/ledgerline/ledgerline/protocol/Refusal" "POSITION_MISMATCH" "Lcom/example/ledgerline/ledgerline/protocol/Refusal;" (.ref b4)) (S5 : Sta Z h0 "com/example/ledgerline/ledgerline/protocol/Refusal" "STORAGE_FAILED" "Lcom/example/ledgerline/ledgerline/protocol/Refusal;" (.ref b5)) (S6 : Sta Z h0 "com/example/ledgerline/ledgerline/protocol/Refusal" "FENCED" "Lcom/example/ledgerline/ledgerline/protocol/Refusal;" (.ref b6)) :
    Con l Z (⟨"com/example/ledgerline/ledgerline/protocol/RefusalOfPinLaw", "expected", "(I)Lcom/example/ledgerline/ledgerline/protocol/Refusal;"⟩ : MethodName) method_2_code 1 (some (.object "com/example/ledgerline/ledgerline/protocol/Refusal")) ⟨0, 0, 0, 0⟩ [(.int p)] h0 n0 (RetA fun v h => h = h0 ∧ Rf p v b0 b1 b2 b3 b4 b5 b6) := by
  refine Con.body (L0 := #[.val (.int p)]) hw pn_3 (fun m => by first | (simp [entryFrame, mkF, argsToLocals, Value.category]; done) | rfl) (fun K O => ?_)
  refine w_iloadN O d3_0 (pc' := 1) rfl rfl ?_
  refine w_iconst O d3_1 (z := (1 : Int32)) (pc' := 2) rfl rfl ?_
  refine w_icmp_ne O d3_2 (pn := 5) (pt := 9) rfl (by decide) rfl (fun c2 => ?_) (fun c2 => ?_)
  · replace c2 : ¬ p.toInt = 1 := c2
    refine w_iloadN O d3_9 (pc' := 10) rfl rfl ?_
    refine w_iconst O d3_10 (z := (2 : Int32)) (pc' := 11) rfl rfl ?_
    refine w_icmp_ne O d3_11 (pn := 14) (pt := 18) rfl (by decide) rfl (fun c11 => ?_) (fun c11 => ?_)
    · replace c11 : ¬ p.toInt = 2 := c11
      refine w_iloadN O d3_18 (pc' := 19) rfl rfl ?_
      refine w_iconst O d3_19 (z := (3 : Int32)) (pc' := 20) rfl rfl ?_
      refine w_icmp_ne O d3_20 (pn := 23) (pt := 27) rfl (by decide) rfl (fun c20 => ?_) (fun c20 => ?_)
      · replace c20 : ¬ p.toInt = 3 := c20
        refine w_iloadN O d3_27 (pc' := 28) rfl rfl ?_
        refine w_iconst O d3_28 (z := (4 : Int32)) (pc' := 29) rfl rfl ?_
        refine w_icmp_ne O d3_29 (pn := 32) (pt := 36) rfl (by decide) rfl (fun c29 => ?_) (fun c29 => ?_)
        · replace c29 : ¬ p.toInt = 4 := c29
          refine w_iloadN O d3_36 (pc' := 37) rfl rfl ?_
          refine w_iconst O d3_37 (z := (5 : Int32)) (pc' := 38) rfl rfl ?_
          refine w_icmp_ne O d3_38 (pn := 41) (pt := 45) rfl (by decide) rfl (fun c38 => ?_) (fun c38 => ?_)
          · replace c38 : ¬ p.toInt = 5 := c38
            refine w_iloadN O d3_45 (pc' := 46) rfl rfl ?_
            refine w_bipush O d3_46 (z := (6 : Int32)) (pc' := 48) rfl rfl ?_
            refine w_icmp_ne O d3_48 (pn := 51) (pt := 55) rfl (by decide) rfl (fun c48 => ?_) (fun c48 => ?_)
            · replace c48 : ¬ p.toInt = 6 := c48
              refine w_iloadN O d3_55 (pc' := 56) rfl rfl ?_
              refine w_bipush O d3_56 (z := (7 : Int32)) (pc' := 58) rfl rfl ?_
              refine w_icmp_ne O d3_58 (pn := 61) (pt := 65) rfl (by decide) rfl (fun c58 => ?_) (fun c58 => ?_)
              · replace c58 : ¬ p.toInt = 7 := c58
                refine w_anull O d3_65 (pc' := 66) rfl ?_
                refine w_reta O d3_66 rfl rfl rfl (by decide) (by decide) ?_
                exact ⟨_, rfl, rfl, rfl, Or.inr (Or.inr (Or.inr (Or.inr (Or.inr (Or.inr (Or.inr (⟨by omega, rfl⟩)))))))⟩
              · replace c58 : p.toInt = 7 := c58
                refine w_gets O d3_61 (pc' := 64) rfl (mw 43 rfl) S6 ?_
                refine w_reta O d3_64 rfl rfl rfl (by decide) (by decide) ?_
                exact ⟨_, rfl, rfl, rfl, Or.inr (Or.inr (Or.inr (Or.inr (Or.inr (Or.inr (Or.inl ⟨by omega, rfl⟩))))))⟩
            · replace c48 : p.toInt = 6 := c48
              refine w_gets O d3_51 (pc' := 54) rfl (mw 32 rfl) S5 ?_
              refine w_reta O d3_54 rfl rfl rfl (by decide) (by decide) ?_
              exact ⟨_, rfl, rfl, rfl, Or.inr (Or.inr (Or.inr (Or.inr (Or.inr (Or.inl ⟨by omega, rfl⟩)))))⟩
          · replace c38 : p.toInt = 5 := c38
            refine w_gets O d3_41 (pc' := 44) rfl (mw 41 rfl) S4 ?_
            refine w_reta O d3_44 rfl rfl rfl (by decide) (by decide) ?_
            exact ⟨_, rfl, rfl, rfl, Or.inr (Or.inr (Or.inr (Or.inr (Or.inl ⟨by omega, rfl⟩))))⟩
        · replace c29 : p.toInt = 4 := c29
          refine w_gets O d3_32 (pc' := 35) rfl (mw 38 rfl) S3 ?_
          refine w_reta O d3_35 rfl rfl rfl (by decide) (by decide) ?_
          exact ⟨_, rfl, rfl, rfl, Or.inr (Or.inr (Or.inr (Or.inl ⟨by omega, rfl⟩)))⟩
      · replace c20 : p.toInt = 3 := c20
        refine w_gets O d3_23 (pc' := 26) rfl (mw 42 rfl) S2 ?_
        refine w_reta O d3_26 rfl rfl rfl (by decide) (by decide) ?_
        exact ⟨_, rfl, rfl, rfl, Or.inr (Or.inr (Or.inl ⟨by omega, rfl⟩))⟩
    · replace c11 : p.toInt = 2 := c11
      refine w_gets O d3_14 (pc' := 17) rfl (mw 40 rfl) S1 ?_
      refine w_reta O d3_17 rfl rfl rfl (by decide) (by decide) ?_
      exact ⟨_, rfl, rfl, rfl, Or.inr (Or.inl ⟨by omega, rfl⟩)⟩
  · replace c2 : p.toInt = 1 := c2
    refine w_gets O d3_5 (pc' := 8) rfl (mw 39 rfl) S0 ?_
    refine w_reta O d3_8 rfl rfl rfl (by decide) (by decide) ?_
    exact ⟨_, rfl, rfl, rfl, Or.inl ⟨by omega, rfl⟩⟩
theorem d4_0 : decode prog_52_method_4_code 0 = .ok (.aload_n 0, 1) := by decide +kernel
theorem d4_1 : decode prog_52_method_4_code 1 = .ok (.getfield 44, 3) := by decide +kernel
theorem d4_4 : decode prog_52_method_4_code 4 = .ok (.ireturn, 1) := by decide +kernel
theorem pn_4 : plainFor (⟨"com/example/ledgerline/ledgerline/protocol/Refusal", "code", "()I"⟩ : MethodName) = true := plainFor_of_name (by first | (simp [plainName, overriddenIn]; done) | decide +kernel)
set_option maxRecDepth 65536 in
set_option maxHeartbeats 40000000 in
theorem con_code (l : Launch) (Z : State) (a0 : Array Value) (hw : ∀ d ∈ tables_1, d.before a0 Z = true) (a : Addr) (k : Int32) (h0 : Heap) (n0 : Nat) (F : Fld Z h0 a "com/example/ledgerline/ledgerline/protocol/Refusal" "code" "I" (.int k)) :
    Con l Z (⟨"com/example/ledgerline/ledgerline/protocol/Refusal", "code", "()I"⟩ : MethodName) prog_52_method_4_code 1 (some .int) ⟨0, 0, 0, 0⟩ [(.ref a)] h0 n0 (RetI fun r h => h = h0 ∧ r = k) := by
  refine Con.body (L0 := #[.val (.ref a)]) hw pn_4 (fun m => by first | (simp [entryFrame, mkF, argsToLocals, Value.category]; done) | rfl) (fun K O => ?_)
  refine w_aloadN O d4_0 (pc' := 1) rfl rfl rfl ?_
  refine w_getf O d4_1 (pc' := 4) rfl (mw 26 rfl) F ?_
  refine w_reti O d4_4 (by decide) (by decide) ?_
  exact ⟨_, rfl, rfl, rfl⟩
theorem rf_same {p : Int32} {v u : Value} {b0 b1 b2 b3 b4 b5 b6 : Addr} (h1 : Rf p v b0 b1 b2 b3 b4 b5 b6) (h2 : Rf p u b0 b1 b2 b3 b4 b5 b6) : u = v := by
  unfold Rf at h1 h2
  rcases h1 with ⟨x, rfl⟩ | ⟨x, rfl⟩ | ⟨x, rfl⟩ | ⟨x, rfl⟩ | ⟨x, rfl⟩ | ⟨x, rfl⟩ | ⟨x, rfl⟩ | ⟨x, rfl⟩ <;> rcases h2 with ⟨y, rfl⟩ | ⟨y, rfl⟩ | ⟨y, rfl⟩ | ⟨y, rfl⟩ | ⟨y, rfl⟩ | ⟨y, rfl⟩ | ⟨y, rfl⟩ | ⟨y, rfl⟩ <;> first | rfl | omega
theorem pn_0 : plainFor x = true := plainFor_of_name (by first | (simp [plainName, overriddenIn]; done) | decide +kernel)
theorem pd_1 : parseMethodDescriptor "(I)Lcom/example/ledgerline/ledgerline/protocol/Refusal;" = some ⟨[.int], some (.object "com/example/ledgerline/ledgerline/protocol/Refusal")⟩ := by decide +kernel
theorem pd_2 : parseMethodDescriptor "()I" = some ⟨[], some .int⟩ := by decide +kernel
set_option maxRecDepth 65536 in
set_option maxHeartbeats 40000000 in
theorem law_con (l : Launch) (Z : State) (a0 : Array Value) (hw : ∀ d ∈ tables_1, d.before a0 Z = true) (u0 u1 : Int32) (q : Addr) (b0 b1 b2 b3 b4 b5 b6 : Addr) (h0 : Heap) (n0 : Nat) (SV : Sta Z h0 "com/example/ledgerline/ledgerline/protocol/Refusal" "$VALUES" "[Lcom/example/ledgerline/ledgerline/protocol/Refusal;" (.ref q)) (AV : Afn Z h0 q (.object "com/example/ledgerline/ledgerline/protocol/Refusal") 7 (fun j => .ref ([b0, b1, b2, b3, b4, b5, b6].getD j 0))) (EV : Exa Z h0 q "[Lcom/example/ledgerline/ledgerline/protocol/Refusal;") (S0 : Sta Z h0 "com/example/ledgerline/ledgerline/protocol/Refusal" "MALFORMED" "Lcom/example/ledgerline/ledgerline/protocol/Refusal;" (.ref b0)) (S1 : Sta Z h0 "com/example/ledgerline/ledgerline/protocol/Refusal" "NO_SUCH_SEGMENT" "Lcom/example/ledgerline/ledgerline/protocol/Refusal;" (.ref b1)) (S2 : Sta Z h0 "com/example/ledgerline/ledgerline/protocol/Refusal" "SEGMENT_EXISTS" "Lcom/example/ledgerline/ledgerline/protocol/Refusal;" (.ref b2)) (S3 : Sta Z h0 "com/example/ledgerline/ledgerline/protocol/Refusal" "SEGMENT_CLOSED" "Lcom/example/ledgerline/ledgerline/protocol/Refusal;" (.ref b3)) (S4 : Sta Z h0 "com/example/ledgerline/ledgerline/protocol/Refusal" "POSITION_MISMATCH" "Lcom/example/ledgerline/ledgerline/protocol/Refusal;" (.ref b4)) (S5 : Sta Z h0 "com/example/ledgerline/ledgerline/protocol/Refusal" "STORAGE_FAILED" "Lcom/example/ledgerline/ledgerline/protocol/Refusal;" (.ref b5)) (S6 : Sta Z h0 "com/example/ledgerline/ledgerline/protocol/Refusal" "FENCED" "Lcom/example/ledgerline/ledgerline/protocol/Refusal;" (.ref b6)) (F0 : Fld Z h0 b0 "com/example/ledgerline/ledgerline/protocol/Refusal" "code" "I" (.int (1 : Int32))) (F1 : Fld Z h0 b1 "com/example/ledgerline/ledgerline/protocol/Refusal" "code" "I" (.int (2 : Int32))) (F2 : Fld Z h0 b2 "com/example/ledgerline/ledgerline/protocol/Refusal" "code" "I" (.int (3 : Int32))) (F3 : Fld Z h0 b3 "com/example/ledgerline/ledgerline/protocol/Refusal" "code" "I" (.int (4 : Int32))) (F4 : Fld Z h0 b4 "com/example/ledgerline/ledgerline/protocol/Refusal" "code" "I" (.int (5 : Int32))) (F5 : Fld Z h0 b5 "com/example/ledgerline/ledgerline/protocol/Refusal" "code" "I" (.int (6 : Int32))) (F6 : Fld Z h0 b6 "com/example/ledgerline/ledgerline/protocol/Refusal" "code" "I" (.int (7 : Int32))) (E0 : Exa Z h0 b0 "com/example/ledgerline/ledgerline/protocol/Refusal") (E1 : Exa Z h0 b1 "com/example/ledgerline/ledgerline/protocol/Refusal") (E2 : Exa Z h0 b2 "com/example/ledgerline/ledgerline/protocol/Refusal") (E3 : Exa Z h0 b3 "com/example/ledgerline/ledgerline/protocol/Refusal") (E4 : Exa Z h0 b4 "com/example/ledgerline/ledgerline/protocol/Refusal") (E5 : Exa Z h0 b5 "com/example/ledgerline/ledgerline/protocol/Refusal") (E6 : Exa Z h0 b6 "com/example/ledgerline/ledgerline/protocol/Refusal") :
    Con l Z x code maxLocals ret room_1 [(.int u0), (.int u1)] h0 n0 (RetI fun r _ => r = 1) := by
  refine Con.body (L0 := #[.val (.int u0), .val (.int u1), .unset, .unset, .unset, .unset]) hw pn_0 (fun m => by first | (simp [entryFrame, mkF, argsToLocals, Value.category, maxLocals]; done) | rfl) (fun K O => ?_)
  replace O : Ok K l Z a0 tables_1 code 6 (some .boolean) "com/example/ledgerline/ledgerline/protocol/RefusalOfPinLaw" "law" room_1 n0 _ := O
  refine w_iloadN O at_0 (pc' := 1) rfl rfl ?_
  refine w_iconst O at_1 (z := (1 : Int32)) (pc' := 2) rfl rfl ?_
  refine w_iand O at_2 (pc' := 3) rfl ?_
  have i1 : (u1 &&& (1 : Int32)).toInt = u1.toInt % 2 := c_mask u1 (1 : Int32) 1 (by decide) (by decide)
  refine w_if_eq O at_3 (pn := 6) (pt := 10) rfl (by decide) rfl (fun c3 => ?_) (fun c3 => ?_)
  · replace c3 : (u1 &&& (1 : Int32)).toInt = 0 := c3
    refine w_iconst O at_10 (z := (0 : Int32)) (pc' := 11) rfl rfl ?_
    refine w_istoreN O at_11 (L' := #[.val (.int u0), .val (.int u1), .val (.int (0 : Int32)), .unset, .unset, .unset]) (pc' := 12) rfl rfl ?_
    refine w_iloadN O at_12 (pc' := 13) rfl rfl ?_
    refine w_if_eq O at_13 (pn := 16) (pt := 25) rfl (by decide) rfl (fun c13 => ?_) (fun q => absurd q (by decide))
    refine w_iloadN O at_25 (pc' := 26) rfl rfl ?_
    refine w_istoreNG O at_26 (L' := fun zq => #[.val (.int u0), .val (.int u1), .val (.int (0 : Int32)), .val (.int zq), .unset, .unset]) (pc' := 27) rfl (fun _ => rfl) (fun p e_p => ?_)
    have j_p := congrArg Int32.toInt e_p
    have r_p := rng32 p
    refine w_iloadN O at_27 (pc' := 28) rfl rfl ?_
    refine w_static O at_28 (as := [(.int p)]) (st := []) (wt := 0) (cl' := 1) (sl' := 7) (pc' := 31) rfl (mw 0 rfl) (mw 1 rfl) (mw 2 rfl) (mw 3 rfl) (by decide) (con_of l Z a0 hw p q b0 b1 b2 b3 b4 b5 b6 h0 n0 SV AV EV F0 F1 F2 F3 F4 F5 F6) rfl pd_1 rfl rfl rfl (by decide) (by decide) rfl rfl (by decide) (by decide) (cA fun v h3 hv ⟨Ex, sv⟩ => ?_)
    have S0' := Sta.ext Ex S0
    have S1' := Sta.ext Ex S1
    have S2' := Sta.ext Ex S2
    have S3' := Sta.ext Ex S3
    have S4' := Sta.ext Ex S4
    have S5' := Sta.ext Ex S5
    have S6' := Sta.ext Ex S6
    have F0' := Fld.ext Ex F0
    have F1' := Fld.ext Ex F1
    have F2' := Fld.ext Ex F2
    have F3' := Fld.ext Ex F3
    have F4' := Fld.ext Ex F4
    have F5' := Fld.ext Ex F5
    have F6' := Fld.ext Ex F6
    have E0' := Exa.ext Ex E0
    have E1' := Exa.ext Ex E1
    have E2' := Exa.ext Ex E2
    have E3' := Exa.ext Ex E3
    have E4' := Exa.ext Ex E4
    have E5' := Exa.ext Ex E5
    have E6' := Exa.ext Ex E6
    refine w_astore O at_31 (L' := #[.val (.int u0), .val (.int u1), .val (.int (0 : Int32)), .val (.int p), .val v, .unset]) (pc' := 33) rfl hv (by cases v <;> first | rfl | cases hv) ?_
    refine w_iloadN O at_33 (pc' := 34) rfl rfl ?_
    refine w_static O at_34 (as := [(.int p)]) (st := []) (wt := 0) (cl' := 1) (sl' := 7) (pc' := 37) rfl (mw 28 rfl) (mw 29 rfl) (mw 30 rfl) (mw 31 rfl) (by decide) (con_exp l Z a0 hw p b0 b1 b2 b3 b4 b5 b6 h3 n0 S0' S1' S2' S3' S4' S5' S6') rfl pd_1 rfl rfl rfl (by decide) (by decide) rfl rfl (by decide) (by decide) (cA fun u _ hu ⟨qu, su⟩ => ?_)
    rw [qu]
    refine w_astore O at_37 (L' := #[.val (.int u0), .val (.int u1), .val (.int (0 : Int32)), .val (.int p), .val v, .val u]) (pc' := 39) rfl hu (by cases u <;> first | rfl | cases hu) ?_
    obtain rfl : u = v := rf_same sv su
    unfold Rf at sv
    rcases sv with ⟨hp, rfl⟩ | ⟨hp, rfl⟩ | ⟨hp, rfl⟩ | ⟨hp, rfl⟩ | ⟨hp, rfl⟩ | ⟨hp, rfl⟩ | ⟨hp, rfl⟩ | ⟨hp, rfl⟩
    · refine w_aload O at_39 (pc' := 41) rfl rfl rfl ?_
      refine w_aload O at_41 (pc' := 43) rfl rfl rfl ?_
      refine w_acmp_eq O at_43 rfl rfl (pn := 46) (pt := 48) rfl (by decide) rfl (fun _ => ?_) (fun q => absurd rfl q)
      refine w_aload O at_48 (pc' := 50) rfl rfl rfl ?_
      refine w_ifnullN O at_50 (pc' := 53) rfl ?_
      refine w_aload O at_53 (pc' := 55) rfl rfl rfl ?_
      refine w_virtual O at_55 (as := []) (st := []) (wt := 0) (cl' := 1) (sl' := 7) (pc' := 58) rfl (mw 33 rfl) (mw 34 rfl) (mw 36 rfl) (mw 35 rfl) (mw 37 rfl) (mw 2 rfl) (by decide) E0' (con_code l Z a0 hw b0 (1 : Int32) h3 n0 F0') rfl pd_2 rfl rfl rfl (by decide) (by decide) rfl rfl (by decide) (by decide) (cI fun r _ ⟨qr, er⟩ => ?_)
      rw [qr]
      rw [er]
      refine w_iloadN O at_58 (pc' := 59) rfl rfl ?_
      refine w_icmp_eq O at_59 (pn := 62) (pt := 64) rfl (by decide) rfl (fun c59 => ?_) (fun c59 => absurd (show ¬ 1 = p.toInt from c59) (by omega))
      replace c59 : 1 = p.toInt := c59
      refine w_iconst O at_64 (z := (1 : Int32)) (pc' := 65) rfl rfl ?_
      refine w_retz O at_65 (by decide) (by decide) (Or.inr rfl) ?_
      exact ⟨_, rfl, rfl⟩
    · refine w_aload O at_39 (pc' := 41) rfl rfl rfl ?_
      refine w_aload O at_41 (pc' := 43) rfl rfl rfl ?_
      refine w_acmp_eq O at_43 rfl rfl (pn := 46) (pt := 48) rfl (by decide) rfl (fun _ => ?_) (fun q => absurd rfl q)
      refine w_aload O at_48 (pc' := 50) rfl rfl rfl ?_
      refine w_ifnullN O at_50 (pc' := 53) rfl ?_
      refine w_aload O at_53 (pc' := 55) rfl rfl rfl ?_
      refine w_virtual O at_55 (as := []) (st := []) (wt := 0) (cl' := 1) (sl' := 7) (pc' := 58) rfl (mw 33 rfl) (mw 34 rfl) (mw 36 rfl) (mw 35 rfl) (mw 37 rfl) (mw 2 rfl) (by decide) E1' (con_code l Z a0 hw b1 (2 : Int32) h3 n0 F1') rfl pd_2 rfl rfl rfl (by decide) (by decide) rfl rfl (by decide) (by decide) (cI fun r _ ⟨qr, er⟩ => ?_)
      rw [qr]
      rw [er]
      refine w_iloadN O at_58 (pc' := 59) rfl rfl ?_
      refine w_icmp_eq O at_59 (pn := 62) (pt := 64) rfl (by decide) rfl (fun c59 => ?_) (fun c59 => absurd (show ¬ 2 = p.toInt from c59) (by omega))
      replace c59 : 2 = p.toInt := c59
      refine w_iconst O at_64 (z := (1 : Int32)) (pc' := 65) rfl rfl ?_
      refine w_retz O at_65 (by decide) (by decide) (Or.inr rfl) ?_
      exact ⟨_, rfl, rfl⟩
    · refine w_aload O at_39 (pc' := 41) rfl rfl rfl ?_
      refine w_aload O at_41 (pc' := 43) rfl rfl rfl ?_
      refine w_acmp_eq O at_43 rfl rfl (pn := 46) (pt := 48) rfl (by decide) rfl (fun _ => ?_) (fun q => absurd rfl q)
      refine w_aload O at_48 (pc' := 50) rfl rfl rfl ?_
      refine w_ifnullN O at_50 (pc' := 53) rfl ?_
      refine w_aload O at_53 (pc' := 55) rfl rfl rfl ?_
      refine w_virtual O at_55 (as := []) (st := []) (wt := 0) (cl' := 1) (sl' := 7) (pc' := 58) rfl (mw 33 rfl) (mw 34 rfl) (mw 36 rfl) (mw 35 rfl) (mw 37 rfl) (mw 2 rfl) (by decide) E2' (con_code l Z a0 hw b2 (3 : Int32) h3 n0 F2') rfl pd_2 rfl rfl rfl (by decide) (by decide) rfl rfl (by decide) (by decide) (cI fun r _ ⟨qr, er⟩ => ?_)
      rw [qr]
      rw [er]
      refine w_iloadN O at_58 (pc' := 59) rfl rfl ?_
      refine w_icmp_eq O at_59 (pn := 62) (pt := 64) rfl (by decide) rfl (fun c59 => ?_) (fun c59 => absurd (show ¬ 3 = p.toInt from c59) (by omega))
      replace c59 : 3 = p.toInt := c59
      refine w_iconst O at_64 (z := (1 : Int32)) (pc' := 65) rfl rfl ?_
      refine w_retz O at_65 (by decide) (by decide) (Or.inr rfl) ?_
      exact ⟨_, rfl, rfl⟩
    · refine w_aload O at_39 (pc' := 41) rfl rfl rfl ?_
      refine w_aload O at_41 (pc' := 43) rfl rfl rfl ?_
      refine w_acmp_eq O at_43 rfl rfl (pn := 46) (pt := 48) rfl (by decide) rfl (fun _ => ?_) (fun q => absurd rfl q)
      refine w_aload O at_48 (pc' := 50) rfl rfl rfl ?_
      refine w_ifnullN O at_50 (pc' := 53) rfl ?_
      refine w_aload O at_53 (pc' := 55) rfl rfl rfl ?_
      refine w_virtual O at_55 (as := []) (st := []) (wt := 0) (cl' := 1) (sl' := 7) (pc' := 58) rfl (mw 33 rfl) (mw 34 rfl) (mw 36 rfl) (mw 35 rfl) (mw 37 rfl) (mw 2 rfl) (by decide) E3' (con_code l Z a0 hw b3 (4 : Int32) h3 n0 F3') rfl pd_2 rfl rfl rfl (by decide) (by decide) rfl rfl (by decide) (by decide) (cI fun r _ ⟨qr, er⟩ => ?_)
      rw [qr]
      rw [er]
      refine w_iloadN O at_58 (pc' := 59) rfl rfl ?_
      refine w_icmp_eq O at_59 (pn := 62) (pt := 64) rfl (by decide) rfl (fun c59 => ?_) (fun c59 => absurd (show ¬ 4 = p.toInt from c59) (by omega))
      replace c59 : 4 = p.toInt := c59
      refine w_iconst O at_64 (z := (1 : Int32)) (pc' := 65) rfl rfl ?_
      refine w_retz O at_65 (by decide) (by decide) (Or.inr rfl) ?_
      exact ⟨_, rfl, rfl⟩
    · refine w_aload O at_39 (pc' := 41) rfl rfl rfl ?_
      refine w_aload O at_41 (pc' := 43) rfl rfl rfl ?_
      refine w_acmp_eq O at_43 rfl rfl (pn := 46) (pt := 48) rfl (by decide) rfl (fun _ => ?_) (fun q => absurd rfl q)
      refine w_aload O at_48 (pc' := 50) rfl rfl rfl ?_
      refine w_ifnullN O at_50 (pc' := 53) rfl ?_
      refine w_aload O at_53 (pc' := 55) rfl rfl rfl ?_
      refine w_virtual O at_55 (as := []) (st := []) (wt := 0) (cl' := 1) (sl' := 7) (pc' := 58) rfl (mw 33 rfl) (mw 34 rfl) (mw 36 rfl) (mw 35 rfl) (mw 37 rfl) (mw 2 rfl) (by decide) E4' (con_code l Z a0 hw b4 (5 : Int32) h3 n0 F4') rfl pd_2 rfl rfl rfl (by decide) (by decide) rfl rfl (by decide) (by decide) (cI fun r _ ⟨qr, er⟩ => ?_)
      rw [qr]
      rw [er]
      refine w_iloadN O at_58 (pc' := 59) rfl rfl ?_
      refine w_icmp_eq O at_59 (pn := 62) (pt := 64) rfl (by decide) rfl (fun c59 => ?_) (fun c59 => absurd (show ¬ 5 = p.toInt from c59) (by omega))
      replace c59 : 5 = p.toInt := c59
      refine w_iconst O at_64 (z := (1 : Int32)) (pc' := 65) rfl rfl ?_
      refine w_retz O at_65 (by decide) (by decide) (Or.inr rfl) ?_
      exact ⟨_, rfl, rfl⟩
    · refine w_aload O at_39 (pc' := 41) rfl rfl rfl ?_
      refine w_aload O at_41 (pc' := 43) rfl rfl rfl ?_
      refine w_acmp_eq O at_43 rfl rfl (pn := 46) (pt := 48) rfl (by decide) rfl (fun _ => ?_) (fun q => absurd rfl q)
      refine w_aload O at_48 (pc' := 50) rfl rfl rfl ?_
      refine w_ifnullN O at_50 (pc' := 53) rfl ?_
      refine w_aload O at_53 (pc' := 55) rfl rfl rfl ?_
      refine w_virtual O at_55 (as := []) (st := []) (wt := 0) (cl' := 1) (sl' := 7) (pc' := 58) rfl (mw 33 rfl) (mw 34 rfl) (mw 36 rfl) (mw 35 rfl) (mw 37 rfl) (mw 2 rfl) (by decide) E5' (con_code l Z a0 hw b5 (6 : Int32) h3 n0 F5') rfl pd_2 rfl rfl rfl (by decide) (by decide) rfl rfl (by decide) (by decide) (cI fun r _ ⟨qr, er⟩ => ?_)
      rw [qr]
      rw [er]
      refine w_iloadN O at_58 (pc' := 59) rfl rfl ?_
      refine w_icmp_eq O at_59 (pn := 62) (pt := 64) rfl (by decide) rfl (fun c59 => ?_) (fun c59 => absurd (show ¬ 6 = p.toInt from c59) (by omega))
      replace c59 : 6 = p.toInt := c59
      refine w_iconst O at_64 (z := (1 : Int32)) (pc' := 65) rfl rfl ?_
      refine w_retz O at_65 (by decide) (by decide) (Or.inr rfl) ?_
      exact ⟨_, rfl, rfl⟩
    · refine w_aload O at_39 (pc' := 41) rfl rfl rfl ?_
      refine w_aload O at_41 (pc' := 43) rfl rfl rfl ?_
      refine w_acmp_eq O at_43 rfl rfl (pn := 46) (pt := 48) rfl (by decide) rfl (fun _ => ?_) (fun q => absurd rfl q)
      refine w_aload O at_48 (pc' := 50) rfl rfl rfl ?_
      refine w_ifnullN O at_50 (pc' := 53) rfl ?_
      refine w_aload O at_53 (pc' := 55) rfl rfl rfl ?_
      refine w_virtual O at_55 (as := []) (st := []) (wt := 0) (cl' := 1) (sl' := 7) (pc' := 58) rfl (mw 33 rfl) (mw 34 rfl) (mw 36 rfl) (mw 35 rfl) (mw 37 rfl) (mw 2 rfl) (by decide) E6' (con_code l Z a0 hw b6 (7 : Int32) h3 n0 F6') rfl pd_2 rfl rfl rfl (by decide) (by decide) rfl rfl (by decide) (by decide) (cI fun r _ ⟨qr, er⟩ => ?_)
      rw [qr]
      rw [er]
      refine w_iloadN O at_58 (pc' := 59) rfl rfl ?_
      refine w_icmp_eq O at_59 (pn := 62) (pt := 64) rfl (by decide) rfl (fun c59 => ?_) (fun c59 => absurd (show ¬ 7 = p.toInt from c59) (by omega))
      replace c59 : 7 = p.toInt := c59
      refine w_iconst O at_64 (z := (1 : Int32)) (pc' := 65) rfl rfl ?_
      refine w_retz O at_65 (by decide) (by decide) (Or.inr rfl) ?_
      exact ⟨_, rfl, rfl⟩
    · refine w_aload O at_39 (pc' := 41) rfl rfl rfl ?_
      refine w_aload O at_41 (pc' := 43) rfl rfl rfl ?_
      refine w_acmp_eq O at_43 rfl rfl (pn := 46) (pt := 48) rfl (by decide) rfl (fun _ => ?_) (fun q => absurd rfl q)
      refine w_aload O at_48 (pc' := 50) rfl rfl rfl ?_
      refine w_ifnullY O at_50 (pc' := 64) (by decide) rfl ?_
      refine w_iconst O at_64 (z := (1 : Int32)) (pc' := 65) rfl rfl ?_
      refine w_retz O at_65 (by decide) (by decide) (Or.inr rfl) ?_
      exact ⟨_, rfl, rfl⟩
  · replace c3 : ¬ (u1 &&& (1 : Int32)).toInt = 0 := c3
    refine w_iconst O at_6 (z := (1 : Int32)) (pc' := 7) rfl rfl ?_
    refine w_goto O at_7 (pc' := 11) (by decide) rfl ?_
    refine w_istoreN O at_11 (L' := #[.val (.int u0), .val (.int u1), .val (.int (1 : Int32)), .unset, .unset, .unset]) (pc' := 12) rfl rfl ?_
    refine w_iloadN O at_12 (pc' := 13) rfl rfl ?_
    refine w_if_eq O at_13 (pn := 16) (pt := 25) rfl (by decide) rfl (fun q => absurd q (by decide)) (fun c13 => ?_)
    refine w_iloadN O at_16 (pc' := 17) rfl rfl ?_
    refine w_bipush O at_17 (z := (15 : Int32)) (pc' := 19) rfl rfl ?_
    refine w_iand O at_19 (pc' := 20) rfl ?_
    refine w_iconst O at_20 (z := (4 : Int32)) (pc' := 21) rfl rfl ?_
    refine w_isub O at_21 (pc' := 22) rfl ?_
    refine w_goto O at_22 (pc' := 26) (by decide) rfl ?_
    refine w_istoreNG O at_26 (L' := fun zq => #[.val (.int u0), .val (.int u1), .val (.int (1 : Int32)), .val (.int zq), .unset, .unset]) (pc' := 27) rfl (fun _ => rfl) (fun p e_p => ?_)
    have i5 : (u0 &&& (15 : Int32)).toInt = u0.toInt % 16 := c_mask u0 (15 : Int32) 4 (by decide) (by decide)
    have i6 : (((u0 &&& (15 : Int32)) - (4 : Int32)).toInt - ((u0 &&& (15 : Int32)).toInt - 4)) % 4294967296 = 0 := c_isub (u0 &&& (15 : Int32)) (4 : Int32)
    have i7 := rng32 ((u0 &&& (15 : Int32)) - (4 : Int32))
    have j_p := congrArg Int32.toInt e_p
    have r_p := rng32 p
    refine w_iloadN O at_27 (pc' := 28) rfl rfl ?_
    refine w_static O at_28 (as := [(.int p)]) (st := []) (wt := 0) (cl' := 1) (sl' := 7) (pc' := 31) rfl (mw 0 rfl) (mw 1 rfl) (mw 2 rfl) (mw 3 rfl) (by decide) (con_of l Z a0 hw p q b0 b1 b2 b3 b4 b5 b6 h0 n0 SV AV EV F0 F1 F2 F3 F4 F5 F6) rfl pd_1 rfl rfl rfl (by decide) (by decide) rfl rfl (by decide) (by decide) (cA fun v h8 hv ⟨Ex, sv⟩ => ?_)
    have S0' := Sta.ext Ex S0
    have S1' := Sta.ext Ex S1
    have S2' := Sta.ext Ex S2
    have S3' := Sta.ext Ex S3
    have S4' := Sta.ext Ex S4
    have S5' := Sta.ext Ex S5
    have S6' := Sta.ext Ex S6
    have F0' := Fld.ext Ex F0
    have F1' := Fld.ext Ex F1
    have F2' := Fld.ext Ex F2
    have F3' := Fld.ext Ex F3
    have F4' := Fld.ext Ex F4
    have F5' := Fld.ext Ex F5
    have F6' := Fld.ext Ex F6
    have E0' := Exa.ext Ex E0
    have E1' := Exa.ext Ex E1
    have E2' := Exa.ext Ex E2
    have E3' := Exa.ext Ex E3
    have E4' := Exa.ext Ex E4
    have E5' := Exa.ext Ex E5
    have E6' := Exa.ext Ex E6
    refine w_astore O at_31 (L' := #[.val (.int u0), .val (.int u1), .val (.int (1 : Int32)), .val (.int p), .val v, .unset]) (pc' := 33) rfl hv (by cases v <;> first | rfl | cases hv) ?_
    refine w_iloadN O at_33 (pc' := 34) rfl rfl ?_
    refine w_static O at_34 (as := [(.int p)]) (st := []) (wt := 0) (cl' := 1) (sl' := 7) (pc' := 37) rfl (mw 28 rfl) (mw 29 rfl) (mw 30 rfl) (mw 31 rfl) (by decide) (con_exp l Z a0 hw p b0 b1 b2 b3 b4 b5 b6 h8 n0 S0' S1' S2' S3' S4' S5' S6') rfl pd_1 rfl rfl rfl (by decide) (by decide) rfl rfl (by decide) (by decide) (cA fun u _ hu ⟨qu, su⟩ => ?_)
    rw [qu]
    refine w_astore O at_37 (L' := #[.val (.int u0), .val (.int u1), .val (.int (1 : Int32)), .val (.int p), .val v, .val u]) (pc' := 39) rfl hu (by cases u <;> first | rfl | cases hu) ?_
    obtain rfl : u = v := rf_same sv su
    unfold Rf at sv
    rcases sv with ⟨hp, rfl⟩ | ⟨hp, rfl⟩ | ⟨hp, rfl⟩ | ⟨hp, rfl⟩ | ⟨hp, rfl⟩ | ⟨hp, rfl⟩ | ⟨hp, rfl⟩ | ⟨hp, rfl⟩
    · refine w_aload O at_39 (pc' := 41) rfl rfl rfl ?_
      refine w_aload O at_41 (pc' := 43) rfl rfl rfl ?_
      refine w_acmp_eq O at_43 rfl rfl (pn := 46) (pt := 48) rfl (by decide) rfl (fun _ => ?_) (fun q => absurd rfl q)
      refine w_aload O at_48 (pc' := 50) rfl rfl rfl ?_
      refine w_ifnullN O at_50 (pc' := 53) rfl ?_
      refine w_aload O at_53 (pc' := 55) rfl rfl rfl ?_
      refine w_virtual O at_55 (as := []) (st := []) (wt := 0) (cl' := 1) (sl' := 7) (pc' := 58) rfl (mw 33 rfl) (mw 34 rfl) (mw 36 rfl) (mw 35 rfl) (mw 37 rfl) (mw 2 rfl) (by decide) E0' (con_code l Z a0 hw b0 (1 : Int32) h8 n0 F0') rfl pd_2 rfl rfl rfl (by decide) (by decide) rfl rfl (by decide) (by decide) (cI fun r _ ⟨qr, er⟩ => ?_)
      rw [qr]
      rw [er]
      refine w_iloadN O at_58 (pc' := 59) rfl rfl ?_
      refine w_icmp_eq O at_59 (pn := 62) (pt := 64) rfl (by decide) rfl (fun c59 => ?_) (fun c59 => absurd (show ¬ 1 = p.toInt from c59) (by omega))
      replace c59 : 1 = p.toInt := c59
      refine w_iconst O at_64 (z := (1 : Int32)) (pc' := 65) rfl rfl ?_
      refine w_retz O at_65 (by decide) (by decide) (Or.inr rfl) ?_
      exact ⟨_, rfl, rfl⟩
    · refine w_aload O at_39 (pc' := 41) rfl rfl rfl ?_
      refine w_aload O at_41 (pc' := 43) rfl rfl rfl ?_
      refine w_acmp_eq O at_43 rfl rfl (pn := 46) (pt := 48) rfl (by decide) rfl (fun _ => ?_) (fun q => absurd rfl q)
      refine w_aload O at_48 (pc' := 50) rfl rfl rfl ?_
      refine w_ifnullN O at_50 (pc' := 53) rfl ?_
      refine w_aload O at_53 (pc' := 55) rfl rfl rfl ?_
      refine w_virtual O at_55 (as := []) (st := []) (wt := 0) (cl' := 1) (sl' := 7) (pc' := 58) rfl (mw 33 rfl) (mw 34 rfl) (mw 36 rfl) (mw 35 rfl) (mw 37 rfl) (mw 2 rfl) (by decide) E1' (con_code l Z a0 hw b1 (2 : Int32) h8 n0 F1') rfl pd_2 rfl rfl rfl (by decide) (by decide) rfl rfl (by decide) (by decide) (cI fun r _ ⟨qr, er⟩ => ?_)
      rw [qr]
      rw [er]
      refine w_iloadN O at_58 (pc' := 59) rfl rfl ?_
      refine w_icmp_eq O at_59 (pn := 62) (pt := 64) rfl (by decide) rfl (fun c59 => ?_) (fun c59 => absurd (show ¬ 2 = p.toInt from c59) (by omega))
      replace c59 : 2 = p.toInt := c59
      refine w_iconst O at_64 (z := (1 : Int32)) (pc' := 65) rfl rfl ?_
      refine w_retz O at_65 (by decide) (by decide) (Or.inr rfl) ?_
      exact ⟨_, rfl, rfl⟩
    · refine w_aload O at_39 (pc' := 41) rfl rfl rfl ?_
      refine w_aload O at_41 (pc' := 43) rfl rfl rfl ?_
      refine w_acmp_eq O at_43 rfl rfl (pn := 46) (pt := 48) rfl (by decide) rfl (fun _ => ?_) (fun q => absurd rfl q)
      refine w_aload O at_48 (pc' := 50) rfl rfl rfl ?_
      refine w_ifnullN O at_50 (pc' := 53) rfl ?_
      refine w_aload O at_53 (pc' := 55) rfl rfl rfl ?_
      refine w_virtual O at_55 (as := []) (st := []) (wt := 0) (cl' := 1) (sl' := 7) (pc' := 58) rfl (mw 33 rfl) (mw 34 rfl) (mw 36 rfl) (mw 35 rfl) (mw 37 rfl) (mw 2 rfl) (by decide) E2' (con_code l Z a0 hw b2 (3 : Int32) h8 n0 F2') rfl pd_2 rfl rfl rfl (by decide) (by decide) rfl rfl (by decide) (by decide) (cI fun r _ ⟨qr, er⟩ => ?_)
      rw [qr]
      rw [er]
      refine w_iloadN O at_58 (pc' := 59) rfl rfl ?_
      refine w_icmp_eq O at_59 (pn := 62) (pt := 64) rfl (by decide) rfl (fun c59 => ?_) (fun c59 => absurd (show ¬ 3 = p.toInt from c59) (by omega))
      replace c59 : 3 = p.toInt := c59
      refine w_iconst O at_64 (z := (1 : Int32)) (pc' := 65) rfl rfl ?_
      refine w_retz O at_65 (by decide) (by decide) (Or.inr rfl) ?_
      exact ⟨_, rfl, rfl⟩
    · refine w_aload O at_39 (pc' := 41) rfl rfl rfl ?_
      refine w_aload O at_41 (pc' := 43) rfl rfl rfl ?_
      refine w_acmp_eq O at_43 rfl rfl (pn := 46) (pt := 48) rfl (by decide) rfl (fun _ => ?_) (fun q => absurd rfl q)
      refine w_aload O at_48 (pc' := 50) rfl rfl rfl ?_
      refine w_ifnullN O at_50 (pc' := 53) rfl ?_
      refine w_aload O at_53 (pc' := 55) rfl rfl rfl ?_
      refine w_virtual O at_55 (as := []) (st := []) (wt := 0) (cl' := 1) (sl' := 7) (pc' := 58) rfl (mw 33 rfl) (mw 34 rfl) (mw 36 rfl) (mw 35 rfl) (mw 37 rfl) (mw 2 rfl) (by decide) E3' (con_code l Z a0 hw b3 (4 : Int32) h8 n0 F3') rfl pd_2 rfl rfl rfl (by decide) (by decide) rfl rfl (by decide) (by decide) (cI fun r _ ⟨qr, er⟩ => ?_)
      rw [qr]
      rw [er]
      refine w_iloadN O at_58 (pc' := 59) rfl rfl ?_
      refine w_icmp_eq O at_59 (pn := 62) (pt := 64) rfl (by decide) rfl (fun c59 => ?_) (fun c59 => absurd (show ¬ 4 = p.toInt from c59) (by omega))
      replace c59 : 4 = p.toInt := c59
      refine w_iconst O at_64 (z := (1 : Int32)) (pc' := 65) rfl rfl ?_
      refine w_retz O at_65 (by decide) (by decide) (Or.inr rfl) ?_
      exact ⟨_, rfl, rfl⟩
    · refine w_aload O at_39 (pc' := 41) rfl rfl rfl ?_
      refine w_aload O at_41 (pc' := 43) rfl rfl rfl ?_
      refine w_acmp_eq O at_43 rfl rfl (pn := 46) (pt := 48) rfl (by decide) rfl (fun _ => ?_) (fun q => absurd rfl q)
      refine w_aload O at_48 (pc' := 50) rfl rfl rfl ?_
      refine w_ifnullN O at_50 (pc' := 53) rfl ?_
      refine w_aload O at_53 (pc' := 55) rfl rfl rfl ?_
      refine w_virtual O at_55 (as := []) (st := []) (wt := 0) (cl' := 1) (sl' := 7) (pc' := 58) rfl (mw 33 rfl) (mw 34 rfl) (mw 36 rfl) (mw 35 rfl) (mw 37 rfl) (mw 2 rfl) (by decide) E4' (con_code l Z a0 hw b4 (5 : Int32) h8 n0 F4') rfl pd_2 rfl rfl rfl (by decide) (by decide) rfl rfl (by decide) (by decide) (cI fun r _ ⟨qr, er⟩ => ?_)
      rw [qr]
      rw [er]
      refine w_iloadN O at_58 (pc' := 59) rfl rfl ?_
      refine w_icmp_eq O at_59 (pn := 62) (pt := 64) rfl (by decide) rfl (fun c59 => ?_) (fun c59 => absurd (show ¬ 5 = p.toInt from c59) (by omega))
      replace c59 : 5 = p.toInt := c59
      refine w_iconst O at_64 (z := (1 : Int32)) (pc' := 65) rfl rfl ?_
      refine w_retz O at_65 (by decide) (by decide) (Or.inr rfl) ?_
      exact ⟨_, rfl, rfl⟩
    · refine w_aload O at_39 (pc' := 41) rfl rfl rfl ?_
      refine w_aload O at_41 (pc' := 43) rfl rfl rfl ?_
      refine w_acmp_eq O at_43 rfl rfl (pn := 46) (pt := 48) rfl (by decide) rfl (fun _ => ?_) (fun q => absurd rfl q)
      refine w_aload O at_48 (pc' := 50) rfl rfl rfl ?_
      refine w_ifnullN O at_50 (pc' := 53) rfl ?_
      refine w_aload O at_53 (pc' := 55) rfl rfl rfl ?_
      refine w_virtual O at_55 (as := []) (st := []) (wt := 0) (cl' := 1) (sl' := 7) (pc' := 58) rfl (mw 33 rfl) (mw 34 rfl) (mw 36 rfl) (mw 35 rfl) (mw 37 rfl) (mw 2 rfl) (by decide) E5' (con_code l Z a0 hw b5 (6 : Int32) h8 n0 F5') rfl pd_2 rfl rfl rfl (by decide) (by decide) rfl rfl (by decide) (by decide) (cI fun r _ ⟨qr, er⟩ => ?_)
      rw [qr]
      rw [er]
      refine w_iloadN O at_58 (pc' := 59) rfl rfl ?_
      refine w_icmp_eq O at_59 (pn := 62) (pt := 64) rfl (by decide) rfl (fun c59 => ?_) (fun c59 => absurd (show ¬ 6 = p.toInt from c59) (by omega))
      replace c59 : 6 = p.toInt := c59
      refine w_iconst O at_64 (z := (1 : Int32)) (pc' := 65) rfl rfl ?_
      refine w_retz O at_65 (by decide) (by decide) (Or.inr rfl) ?_
      exact ⟨_, rfl, rfl⟩
    · refine w_aload O at_39 (pc' := 41) rfl rfl rfl ?_
      refine w_aload O at_41 (pc' := 43) rfl rfl rfl ?_
      refine w_acmp_eq O at_43 rfl rfl (pn := 46) (pt := 48) rfl (by decide) rfl (fun _ => ?_) (fun q => absurd rfl q)
      refine w_aload O at_48 (pc' := 50) rfl rfl rfl ?_
      refine w_ifnullN O at_50 (pc' := 53) rfl ?_
      refine w_aload O at_53 (pc' := 55) rfl rfl rfl ?_
      refine w_virtual O at_55 (as := []) (st := []) (wt := 0) (cl' := 1) (sl' := 7) (pc' := 58) rfl (mw 33 rfl) (mw 34 rfl) (mw 36 rfl) (mw 35 rfl) (mw 37 rfl) (mw 2 rfl) (by decide) E6' (con_code l Z a0 hw b6 (7 : Int32) h8 n0 F6') rfl pd_2 rfl rfl rfl (by decide) (by decide) rfl rfl (by decide) (by decide) (cI fun r _ ⟨qr, er⟩ => ?_)
      rw [qr]
      rw [er]
      refine w_iloadN O at_58 (pc' := 59) rfl rfl ?_
      refine w_icmp_eq O at_59 (pn := 62) (pt := 64) rfl (by decide) rfl (fun c59 => ?_) (fun c59 => absurd (show ¬ 7 = p.toInt from c59) (by omega))
      replace c59 : 7 = p.toInt := c59
      refine w_iconst O at_64 (z := (1 : Int32)) (pc' := 65) rfl rfl ?_
      refine w_retz O at_65 (by decide) (by decide) (Or.inr rfl) ?_
      exact ⟨_, rfl, rfl⟩
    · refine w_aload O at_39 (pc' := 41) rfl rfl rfl ?_
      refine w_aload O at_41 (pc' := 43) rfl rfl rfl ?_
      refine w_acmp_eq O at_43 rfl rfl (pn := 46) (pt := 48) rfl (by decide) rfl (fun _ => ?_) (fun q => absurd rfl q)
      refine w_aload O at_48 (pc' := 50) rfl rfl rfl ?_
      refine w_ifnullY O at_50 (pc' := 64) (by decide) rfl ?_
      refine w_iconst O at_64 (z := (1 : Int32)) (pc' := 65) rfl rfl ?_
      refine w_retz O at_65 (by decide) (by decide) (Or.inr rfl) ?_
      exact ⟨_, rfl, rfl⟩
theorem own_len {Z : State} {args : Array Value} {t : Term} {a : Addr} {cA : Cell} {ty : FieldType} {y : Int32} (ev : t.eval args Z none [] Z = some (.ref a)) (A : Arr Z Z.heap a cA ty) (h : (Jvm.Cond.eq (Term.length t) (.int y)).value args Z none Z [] = some true) (hy : 0 ≤ y.toInt := by decide) : cA.slots.size = y.toInt.toNat := by
  have q := eqv_i (F := .int y) rfl h
  obtain ⟨b, cell, e1, e2, e3⟩ := Term.length_spec q
  cases ev.symm.trans e1
  simp only [Term.eval, ev] at q
  simp only [State.arrayAt?, A.1, Option.bind_eq_bind, Option.bind_some] at e2
  obtain ⟨-, k, hk, comp, hkind⟩ := A.2.1
  simp only [hk, Option.bind_some] at e2
  split at e2
  · cases e2
  · rw [hkind] at e2
    cases e2
    simp only [Option.bind_eq_bind, Option.bind_some, State.arrayAt?, A.1, hk] at q
    rw [if_neg (by assumption), hkind] at q
    simp only [Option.bind_some] at q
    split at q
    · rename_i hlt
      have e := Value.int.inj (Option.some.inj q)
      have := congrArg Int32.toInt e
      rw [show cA.slots.size.toInt32 = Int32.ofNat cA.slots.size from rfl, Int32.toInt_ofNat_of_lt hlt] at this
      omega
    · cases q
theorem own_elem {Z : State} {args : Array Value} {t u : Term} {a b : Addr} {cA : Cell} {ty : FieldType} {i : Int32} {j : Nat} (ev : t.eval args Z none [] Z = some (.ref a)) (eu : u.eval args Z none [] Z = some (.ref b)) (A : Arr Z Z.heap a cA ty) (h : (Jvm.Cond.eq (Term.elem t (.int i)) u).value args Z none Z [] = some true) (hi : i.toInt = (j : Int)) : cA.slots[j]? = some (.ref b) := by
  have q : (Term.elem t (.int i)).eval args Z none [] Z = some (.ref b) := by
    cases hx : (Term.elem t (.int i)).eval args Z none [] Z with
    | none => simp [Cond.value, hx] at h
    | some x => cases x <;> simp [Cond.value, hx, eu] at h ⊢ <;> exact h
  have := (elem_in q ev rfl A.1).2
  rw [(tnc hi).1] at this; exact this
set_option maxRecDepth 65536 in
set_option maxHeartbeats 40000000 in
theorem comes_1 {Post : Tables → Env → Array Value → State → Outcome → State → Prop} (hpost : ∀ tb e args s v u, (limb_1_1.after args s (.returned v) u = true ∧ limb_1_2.after args s (.returned v) u = true ∧ True) → FrameEnd s (.returned v) u (Jvm.fieldLocs frame_1_writes args s ++ Jvm.arrayLocs frame_1_arrays args s ++ Jvm.staticLocs frame_1_statics s) 16 128 → Post tb e args s (.returned v) u) :
    ArmFor flags0 classFile x code maxLocals ret World_1 tables_1 room_1 Calls_1 rest_1 Pre_1 Post := by
  intro l hfl _ _ p e ha hc hk s m args below hf hA hF happ hP
  obtain ⟨hcalls, hrest, hpre⟩ := hP
  obtain ⟨-, -, -, hnamed, -, -, -, hat⟩ := (Spec.applies_iff hf).mp happ
  obtain ⟨hg, hn⟩ := and_e (Cond.before_iff.mp (show (Jvm.Cond.and given_1 narrow_1).before args s = true from hpre))
  obtain ⟨g1, g2⟩ := and_e hg
  obtain ⟨g3, g4⟩ := and_e g2
  obtain ⟨w0, w1, rfl⟩ : ∃ w0 w1 : Value, args = #[w0, w1] := by
    have hs : args.size = 2 := by simpa [Cond.value, given_1] using g1
    obtain ⟨L⟩ := args
    match L, hs with
    | [w0, w1], _ => exact ⟨w0, w1, rfl⟩
  have hw := fun d (hd : d ∈ tables_1) => atoms_spec (ws := Jvm.Cond.code x code maxLocals ret :: tables_1) hat d (List.mem_cons_of_mem _ hd)
  have hfit : Fit s := fun {y c} hc i hi => by
    obtain ⟨ha, rfl⟩ := Array.getElem?_eq_some_iff.mp hc
    have q := List.all_eq_true.mp ((Array.all_eq_true_iff_forall_mem.mp hF) _ (Array.getElem_mem ha)) i (List.mem_range.mpr hi)
    simpa [Array.getElem?_eq_getElem hi] using q
  obtain ⟨i0, ei0⟩ := is_v g3
  obtain rfl : w0 = (.int i0) := Option.some.inj ei0
  obtain ⟨i1, ei1⟩ := is_v g4
  obtain rfl : w1 = (.int i1) := Option.some.inj ei1
  obtain ⟨nn1, nn2⟩ := and_e hn
  obtain ⟨nn3, nn4⟩ := and_e nn2
  obtain ⟨nn5, nn6⟩ := and_e nn4
  obtain ⟨nn7, nn8⟩ := and_e nn6
  obtain ⟨nn9, nn10⟩ := and_e nn8
  obtain ⟨nn11, nn12⟩ := and_e nn10
  obtain ⟨nn13, nn14⟩ := and_e nn12
  obtain ⟨nn15, nn16⟩ := and_e nn14
  obtain ⟨nn17, nn18⟩ := and_e nn16
  obtain ⟨nn19, nn20⟩ := and_e nn18
  obtain ⟨nn21, nn22⟩ := and_e nn20
  obtain ⟨nn23, nn24⟩ := and_e nn22
  obtain ⟨nn25, nn26⟩ := and_e nn24
  obtain ⟨nn27, nn28⟩ := and_e nn26
  obtain ⟨nn29, nn30⟩ := and_e nn28
  obtain ⟨nn31, nn32⟩ := and_e nn30
  obtain ⟨nn33, nn34⟩ := and_e nn32
  obtain ⟨nn35, nn36⟩ := and_e nn34
  obtain ⟨nn37, nn38⟩ := and_e nn36
  obtain ⟨nn39, nn40⟩ := and_e nn38
  obtain ⟨nn41, nn42⟩ := and_e nn40
  obtain ⟨nn43, nn44⟩ := and_e nn42
  obtain ⟨nn45, nn46⟩ := and_e nn44
  obtain ⟨a_MALFORMED, ev_MALFORMED, E_MALFORMED⟩ := own_exact nn7
  have S_MALFORMED := Sta.start ev_MALFORMED (Or.inr ⟨hw _ (mw 2 rfl), hw _ (mw 16 rfl)⟩)
  have o_MALFORMED_code := own_ord ev_MALFORMED nn35
  obtain ⟨a_NO_SUCH_SEGMENT, ev_NO_SUCH_SEGMENT, E_NO_SUCH_SEGMENT⟩ := own_exact nn11
  have S_NO_SUCH_SEGMENT := Sta.start ev_NO_SUCH_SEGMENT (Or.inr ⟨hw _ (mw 2 rfl), hw _ (mw 17 rfl)⟩)
  have o_NO_SUCH_SEGMENT_code := own_ord ev_NO_SUCH_SEGMENT nn37
  obtain ⟨a_SEGMENT_EXISTS, ev_SEGMENT_EXISTS, E_SEGMENT_EXISTS⟩ := own_exact nn15
  have S_SEGMENT_EXISTS := Sta.start ev_SEGMENT_EXISTS (Or.inr ⟨hw _ (mw 2 rfl), hw _ (mw 18 rfl)⟩)
  have o_SEGMENT_EXISTS_code := own_ord ev_SEGMENT_EXISTS nn39
  obtain ⟨a_SEGMENT_CLOSED, ev_SEGMENT_CLOSED, E_SEGMENT_CLOSED⟩ := own_exact nn19
  have S_SEGMENT_CLOSED := Sta.start ev_SEGMENT_CLOSED (Or.inr ⟨hw _ (mw 2 rfl), hw _ (mw 19 rfl)⟩)
  have o_SEGMENT_CLOSED_code := own_ord ev_SEGMENT_CLOSED nn41
  obtain ⟨a_POSITION_MISMATCH, ev_POSITION_MISMATCH, E_POSITION_MISMATCH⟩ := own_exact nn23
  have S_POSITION_MISMATCH := Sta.start ev_POSITION_MISMATCH (Or.inr ⟨hw _ (mw 2 rfl), hw _ (mw 20 rfl)⟩)
  have o_POSITION_MISMATCH_code := own_ord ev_POSITION_MISMATCH nn43
  obtain ⟨a_STORAGE_FAILED, ev_STORAGE_FAILED, E_STORAGE_FAILED⟩ := own_exact nn27
  have S_STORAGE_FAILED := Sta.start ev_STORAGE_FAILED (Or.inr ⟨hw _ (mw 2 rfl), hw _ (mw 21 rfl)⟩)
  have o_STORAGE_FAILED_code := own_ord ev_STORAGE_FAILED nn45
  obtain ⟨a_FENCED, ev_FENCED, E_FENCED⟩ := own_exact nn31
  have S_FENCED := Sta.start ev_FENCED (Or.inr ⟨hw _ (mw 2 rfl), hw _ (mw 22 rfl)⟩)
  have o_FENCED_code := own_ord ev_FENCED nn46
  obtain ⟨q, ev_q, EV⟩ := own_exact nn3
  have SV := Sta.start ev_q (Or.inr ⟨hw _ (mw 2 rfl), hw _ (mw 8 rfl)⟩)
  obtain ⟨cA, AA⟩ := Arr.start ev_q nn1
  have hsz : cA.slots.size = 7 := own_len ev_q AA nn5
  have e0 : cA.slots[0]? = some (.ref a_MALFORMED) := own_elem (j := 0) ev_q ev_MALFORMED AA nn9 (by decide)
  have e1 : cA.slots[1]? = some (.ref a_NO_SUCH_SEGMENT) := own_elem (j := 1) ev_q ev_NO_SUCH_SEGMENT AA nn13 (by decide)
  have e2 : cA.slots[2]? = some (.ref a_SEGMENT_EXISTS) := own_elem (j := 2) ev_q ev_SEGMENT_EXISTS AA nn17 (by decide)
  have e3 : cA.slots[3]? = some (.ref a_SEGMENT_CLOSED) := own_elem (j := 3) ev_q ev_SEGMENT_CLOSED AA nn21 (by decide)
  have e4 : cA.slots[4]? = some (.ref a_POSITION_MISMATCH) := own_elem (j := 4) ev_q ev_POSITION_MISMATCH AA nn25 (by decide)
  have e5 : cA.slots[5]? = some (.ref a_STORAGE_FAILED) := own_elem (j := 5) ev_q ev_STORAGE_FAILED AA nn29 (by decide)
  have e6 : cA.slots[6]? = some (.ref a_FENCED) := own_elem (j := 6) ev_q ev_FENCED AA nn33 (by decide)
  have AV : Afn s s.heap q (.object "com/example/ledgerline/ledgerline/protocol/Refusal") 7 (fun j => .ref ([a_MALFORMED, a_NO_SUCH_SEGMENT, a_SEGMENT_EXISTS, a_SEGMENT_CLOSED, a_POSITION_MISMATCH, a_STORAGE_FAILED, a_FENCED].getD j 0)) := ⟨cA, AA, hsz, by decide, fun i hi => by
    have : i = 0 ∨ i = 1 ∨ i = 2 ∨ i = 3 ∨ i = 4 ∨ i = 5 ∨ i = 6 := by omega
    rcases this with rfl | rfl | rfl | rfl | rfl | rfl | rfl <;> assumption⟩
  obtain ⟨n, o, h1, h2, h3, _, L, rfl, ⟨⟨r, rfl, rfl⟩, N⟩, hq⟩ := (law_con l s _ hw i0 i1 q a_MALFORMED a_NO_SUCH_SEGMENT a_SEGMENT_EXISTS a_SEGMENT_CLOSED a_POSITION_MISMATCH a_STORAGE_FAILED a_FENCED s.heap s.heap.size SV AV EV S_MALFORMED S_NO_SUCH_SEGMENT S_SEGMENT_EXISTS S_SEGMENT_CLOSED S_POSITION_MISMATCH S_STORAGE_FAILED S_FENCED (Fld.start o_MALFORMED_code) (Fld.start o_NO_SUCH_SEGMENT_code) (Fld.start o_SEGMENT_EXISTS_code) (Fld.start o_SEGMENT_CLOSED_code) (Fld.start o_POSITION_MISMATCH_code) (Fld.start o_STORAGE_FAILED_code) (Fld.start o_FENCED_code) E_MALFORMED E_NO_SUCH_SEGMENT E_SEGMENT_EXISTS E_SEGMENT_CLOSED E_POSITION_MISMATCH E_STORAGE_FAILED E_FENCED) (Nat.le_refl _) tables_1 p e ha hc hk s m _ below hf ((Spec.applies_iff_loose hf).mp happ).1 ⟨rfl, State.Warmed39.refl s, rfl⟩ trivial
  refine ⟨n, _, h1, h2, h3, hpost _ _ _ _ _ _ ⟨Cond.after_iff.mpr rfl, Cond.after_iff.mpr (eq_i res_at (Term.int_eval (1)) rfl), trivial⟩ ⟨hq.1, hq.2.1, (hq.2.2.sift fun y hy => Or.inr (N y hy)).mono (by decide) (by decide)⟩⟩
theorem main_1_1 : Claimed_1_1 := comes_1 fun _ _ _ _ _ _ h hF => ⟨h.1, hF⟩
theorem main_1_2 : Claimed_1_2 := comes_1 fun _ _ _ _ _ _ h hF => ⟨h.2.1, hF⟩
end Jvm.Pilot.@@N@@
namespace Jvm.Pilot.@@N@@
open Jvm Jvm.ClassFile Sem Op Lib Jvm.Free Jvm.Stand Jvm.Pilot.@@N@@.Jvm.D
/-! MADE BY PROGRAM (witnessworld.py) out of the Statement's table words and the real class files: 13 classes; the members and pool entries that the words name. The judged class is class 1, her method 2. -/
namespace start1
open Jvm.ClassFile
def u (s : String) : CpInfo := .utf8 (stringToUtf16 s)
/-- a pool by its gaps: so many unusable entries, then the entry; so many at the end -/
def gap : Nat → List CpInfo → List CpInfo
  | 0, r => r
  | n + 1, r => .unusable :: gap n r
def poolList (es : List (Nat × CpInfo)) (last : Nat) : List CpInfo := es.foldr (fun e r => gap e.1 (e.2 :: r)) (gap last [])
def pool (es : List (Nat × CpInfo)) (last : Nat) : Array CpInfo := ⟨poolList es last⟩
def fileOf (pool : Array CpInfo) (this : Nat) (attrs : Array Attribute := #[]) (ms : Array MethodInfo := #[]) (fl : Nat := 33) (sup : Nat := 0) (ifs : Array Nat := #[]) (fds : Array FieldInfo := #[]) : ClassFile where
  minorVersion := 0
  majorVersion := 65
  constantPool := pool
  accessFlags := fl
  thisClass := this
  superClass := sup
  interfaces := ifs
  fields := fds
  methods := ms
  attributes := attrs
def plain (name : String) (sup : Option ClassId) : Class where
  name := name
  kind := .ordinary
  loader := none
  accessFlags := 33
  super := sup
  interfaces := #[]
  cf := none
  fields := #[]
  methods := #[]
  instanceTypes := #[]
  staticTypes := #[]
  resolved := #[]
  callSites := []
  init := .initialized
  statics := none
  mirror := none

def pool0 : Array CpInfo := pool [(5, u "<init>"), (0, u "()V"), (1, .class_ 10), (1, u "java/lang/Object"), (85, u "clone"), (0, u "()Ljava/lang/Object;")] 26

def k0m0 : Method := { name := "<init>", desc := "()V", sig := { parameters := [], returnType := none }, accessFlags := 1, code := none }
def k0m1 : Method := { name := "clone", desc := "()Ljava/lang/Object;", sig := { parameters := [], returnType := some (.object "java/lang/Object") }, accessFlags := 260, code := none }
/-- java/lang/Object -/
def k0 : Class := { plain "java/lang/Object" none with
  accessFlags := 33
  interfaces := #[]
  cf := some (fileOf pool0 8 #[] #[{ accessFlags := 1, nameIndex := 5, descriptorIndex := 6, attributes := #[] }, { accessFlags := 260, nameIndex := 96, descriptorIndex := 97, attributes := #[] }] 33 0 #[] #[])
  fields := #[]
  methods := #[k0m0, k0m1]
  instanceTypes := #[]
  staticTypes := #[]
  resolved := Array.replicate 124 none
  statics := none }

def pool1 : Array CpInfo := pool [(2, .class_ 4), (1, u "java/lang/Object"), (0, u "<init>"), (0, u "()V"), (0, .fieldref 8 9), (0, .class_ 10), (0, .nameAndType 11 12), (0, u "com/example/ledgerline/ledgerline/protocol/Refusal"), (0, u "MALFORMED"), (0, u "Lcom/example/ledgerline/ledgerline/protocol/Refusal;"), (0, .fieldref 8 14), (0, .nameAndType 15 12), (0, u "NO_SUCH_SEGMENT"), (0, .fieldref 8 17), (0, .nameAndType 18 12), (0, u "SEGMENT_EXISTS"), (0, .fieldref 8 20), (0, .nameAndType 21 12), (0, u "SEGMENT_CLOSED"), (0, .fieldref 8 23), (0, .nameAndType 24 12), (0, u "POSITION_MISMATCH"), (0, .fieldref 8 26), (0, .nameAndType 27 12), (0, u "STORAGE_FAILED"), (0, .fieldref 8 29), (0, .nameAndType 30 12), (0, u "FENCED"), (0, .methodref 8 32), (0, .nameAndType 33 34), (0, u "of"), (0, u "(I)Lcom/example/ledgerline/ledgerline/protocol/Refusal;"), (0, .methodref 36 37), (0, .class_ 38), (0, .nameAndType 39 34), (0, u "com/example/ledgerline/ledgerline/protocol/RefusalOfPinLaw"), (0, u "expected"), (0, .methodref 8 41), (0, .nameAndType 42 43), (0, u "code"), (0, u "()I"), (3, u "law"), (0, u "(II)Z")] 2

def k1m0 : Method := { name := "<init>", desc := "()V", sig := { parameters := [], returnType := none }, accessFlags := 2, code := none }
def k1c1 : Code := { maxStack := 2, maxLocals := 1, code := method_2_code, exceptionTable := #[], attributes := #[] }
def k1m1 : Method := { name := "expected", desc := "(I)Lcom/example/ledgerline/ledgerline/protocol/Refusal;", sig := { parameters := [.int], returnType := some (.object "com/example/ledgerline/ledgerline/protocol/Refusal") }, accessFlags := 10, code := some k1c1 }
def k1c2 : Code := { maxStack := 2, maxLocals := 6, code := code, exceptionTable := #[], attributes := #[] }
def k1m2 : Method := { name := "law", desc := "(II)Z", sig := { parameters := [.int, .int], returnType := some .boolean }, accessFlags := 9, code := some k1c2 }
/-- com/example/ledgerline/ledgerline/protocol/RefusalOfPinLaw -/
def k1 : Class := { plain "com/example/ledgerline/ledgerline/protocol/RefusalOfPinLaw" (some 0) with
  accessFlags := 49
  interfaces := #[]
  cf := some (fileOf pool1 36 #[] #[{ accessFlags := 2, nameIndex := 5, descriptorIndex := 6, attributes := #[] }, { accessFlags := 10, nameIndex := 39, descriptorIndex := 34, attributes := #[] }, { accessFlags := 9, nameIndex := 47, descriptorIndex := 48, attributes := #[] }] 49 2 #[] #[])
  fields := #[]
  methods := #[k1m0, k1m1, k1m2]
  instanceTypes := #[]
  staticTypes := #[]
  resolved := Array.replicate 51 none
  statics := none }

def pool2 : Array CpInfo := pool [(1, .class_ 2), (0, u "java/lang/constant/Constable"), (0, .class_ 4), (0, u "java/lang/Object")] 6

/-- java/lang/constant/Constable -/
def k2 : Class := { plain "java/lang/constant/Constable" (some 0) with
  accessFlags := 1537
  interfaces := #[]
  cf := some (fileOf pool2 1 #[] #[] 1537 3 #[] #[])
  fields := #[]
  methods := #[]
  instanceTypes := #[]
  staticTypes := #[]
  resolved := Array.replicate 11 none
  statics := none }

def pool3 : Array CpInfo := pool [(1, .class_ 2), (0, u "java/lang/Comparable"), (0, .class_ 4), (0, u "java/lang/Object")] 7

/-- java/lang/Comparable -/
def k3 : Class := { plain "java/lang/Comparable" (some 0) with
  accessFlags := 1537
  interfaces := #[]
  cf := some (fileOf pool3 1 #[] #[] 1537 3 #[] #[])
  fields := #[]
  methods := #[]
  instanceTypes := #[]
  staticTypes := #[]
  resolved := Array.replicate 12 none
  statics := none }

def pool4 : Array CpInfo := pool [(1, .class_ 2), (0, u "java/io/Serializable"), (0, .class_ 4), (0, u "java/lang/Object")] 2

/-- java/io/Serializable -/
def k4 : Class := { plain "java/io/Serializable" (some 0) with
  accessFlags := 1537
  interfaces := #[]
  cf := some (fileOf pool4 1 #[] #[] 1537 3 #[] #[])
  fields := #[]
  methods := #[]
  instanceTypes := #[]
  staticTypes := #[]
  resolved := Array.replicate 7 none
  statics := none }

def pool5 : Array CpInfo := pool [(2, .class_ 4), (1, u "java/lang/Enum"), (0, u "name"), (0, u "Ljava/lang/String;"), (2, u "ordinal"), (0, u "I"), (1, .class_ 14), (1, u "java/lang/Object"), (4, u "hash"), (86, .class_ 108), (1, u "java/lang/Enum$EnumDesc"), (2, .class_ 112), (0, u "java/lang/constant/Constable"), (0, .class_ 114), (0, u "java/lang/Comparable"), (0, .class_ 116), (0, u "java/io/Serializable")] 87

/-- java/lang/Enum -/
def k5 : Class := { plain "java/lang/Enum" (some 0) with
  accessFlags := 1057
  interfaces := #[2, 3, 4]
  cf := some (fileOf pool5 2 #[.nestMembers #[106]] #[] 1057 12 #[111, 113, 115] #[{ accessFlags := 18, nameIndex := 5, descriptorIndex := 6, attributes := #[] }, { accessFlags := 18, nameIndex := 9, descriptorIndex := 10, attributes := #[] }, { accessFlags := 2, nameIndex := 19, descriptorIndex := 10, attributes := #[] }])
  fields := #[{ name := "name", type := (.object "java/lang/String"), accessFlags := 18, slot := 0, constantValue := 0 }, { name := "ordinal", type := .int, accessFlags := 18, slot := 1, constantValue := 0 }, { name := "hash", type := .int, accessFlags := 2, slot := 2, constantValue := 0 }]
  methods := #[]
  instanceTypes := #[(.object "java/lang/String"), .int, .int]
  staticTypes := #[]
  resolved := Array.replicate 204 none
  statics := none }

def pool6 : Array CpInfo := pool [(1, .class_ 2), (0, u "com/example/ledgerline/ledgerline/protocol/Refusal"), (2, u "MALFORMED"), (0, u "Lcom/example/ledgerline/ledgerline/protocol/Refusal;"), (2, u "NO_SUCH_SEGMENT"), (2, u "SEGMENT_EXISTS"), (2, u "SEGMENT_CLOSED"), (2, u "POSITION_MISMATCH"), (2, u "STORAGE_FAILED"), (2, u "FENCED"), (0, .fieldref 1 26), (0, .nameAndType 27 28), (0, u "$VALUES"), (0, u "[Lcom/example/ledgerline/ledgerline/protocol/Refusal;"), (0, .methodref 30 31), (0, .class_ 28), (0, .nameAndType 32 33), (0, u "clone"), (0, u "()Ljava/lang/Object;"), (1, .class_ 37), (1, u "java/lang/Enum"), (6, .fieldref 1 45), (0, .nameAndType 46 47), (0, u "code"), (0, u "I"), (0, .methodref 1 49), (0, .nameAndType 50 51), (0, u "values"), (0, u "()[Lcom/example/ledgerline/ledgerline/protocol/Refusal;"), (19, u "()I"), (0, u "of"), (0, u "(I)Lcom/example/ledgerline/ledgerline/protocol/Refusal;")] 6

def k6c0 : Code := { maxStack := 1, maxLocals := 0, code := prog_52_method_1_code, exceptionTable := #[], attributes := #[] }
def k6m0 : Method := { name := "values", desc := "()[Lcom/example/ledgerline/ledgerline/protocol/Refusal;", sig := { parameters := [], returnType := some (.array (.object "com/example/ledgerline/ledgerline/protocol/Refusal")) }, accessFlags := 9, code := some k6c0 }
def k6c1 : Code := { maxStack := 1, maxLocals := 1, code := prog_52_method_4_code, exceptionTable := #[], attributes := #[] }
def k6m1 : Method := { name := "code", desc := "()I", sig := { parameters := [], returnType := some .int }, accessFlags := 1, code := some k6c1 }
def k6c2 : Code := { maxStack := 2, maxLocals := 5, code := prog_52_method_5_code, exceptionTable := #[], attributes := #[] }
def k6m2 : Method := { name := "of", desc := "(I)Lcom/example/ledgerline/ledgerline/protocol/Refusal;", sig := { parameters := [.int], returnType := some (.object "com/example/ledgerline/ledgerline/protocol/Refusal") }, accessFlags := 9, code := some k6c2 }
/-- com/example/ledgerline/ledgerline/protocol/Refusal -/
def k6 : Class := { plain "com/example/ledgerline/ledgerline/protocol/Refusal" (some 5) with
  accessFlags := 16433
  interfaces := #[]
  cf := some (fileOf pool6 1 #[] #[{ accessFlags := 9, nameIndex := 50, descriptorIndex := 51, attributes := #[] }, { accessFlags := 1, nameIndex := 46, descriptorIndex := 71, attributes := #[] }, { accessFlags := 9, nameIndex := 72, descriptorIndex := 73, attributes := #[] }] 16433 35 #[] #[{ accessFlags := 16409, nameIndex := 5, descriptorIndex := 6, attributes := #[] }, { accessFlags := 16409, nameIndex := 9, descriptorIndex := 6, attributes := #[] }, { accessFlags := 16409, nameIndex := 12, descriptorIndex := 6, attributes := #[] }, { accessFlags := 16409, nameIndex := 15, descriptorIndex := 6, attributes := #[] }, { accessFlags := 16409, nameIndex := 18, descriptorIndex := 6, attributes := #[] }, { accessFlags := 16409, nameIndex := 21, descriptorIndex := 6, attributes := #[] }, { accessFlags := 16409, nameIndex := 24, descriptorIndex := 6, attributes := #[] }, { accessFlags := 18, nameIndex := 46, descriptorIndex := 47, attributes := #[] }, { accessFlags := 4122, nameIndex := 27, descriptorIndex := 28, attributes := #[] }])
  fields := #[{ name := "MALFORMED", type := (.object "com/example/ledgerline/ledgerline/protocol/Refusal"), accessFlags := 16409, slot := 0, constantValue := 0 }, { name := "NO_SUCH_SEGMENT", type := (.object "com/example/ledgerline/ledgerline/protocol/Refusal"), accessFlags := 16409, slot := 1, constantValue := 0 }, { name := "SEGMENT_EXISTS", type := (.object "com/example/ledgerline/ledgerline/protocol/Refusal"), accessFlags := 16409, slot := 2, constantValue := 0 }, { name := "SEGMENT_CLOSED", type := (.object "com/example/ledgerline/ledgerline/protocol/Refusal"), accessFlags := 16409, slot := 3, constantValue := 0 }, { name := "POSITION_MISMATCH", type := (.object "com/example/ledgerline/ledgerline/protocol/Refusal"), accessFlags := 16409, slot := 4, constantValue := 0 }, { name := "STORAGE_FAILED", type := (.object "com/example/ledgerline/ledgerline/protocol/Refusal"), accessFlags := 16409, slot := 5, constantValue := 0 }, { name := "FENCED", type := (.object "com/example/ledgerline/ledgerline/protocol/Refusal"), accessFlags := 16409, slot := 6, constantValue := 0 }, { name := "code", type := .int, accessFlags := 18, slot := 3, constantValue := 0 }, { name := "$VALUES", type := (.array (.object "com/example/ledgerline/ledgerline/protocol/Refusal")), accessFlags := 4122, slot := 7, constantValue := 0 }]
  methods := #[k6m0, k6m1, k6m2]
  instanceTypes := #[(.object "java/lang/String"), .int, .int, .int]
  staticTypes := #[(.object "com/example/ledgerline/ledgerline/protocol/Refusal"), (.object "com/example/ledgerline/ledgerline/protocol/Refusal"), (.object "com/example/ledgerline/ledgerline/protocol/Refusal"), (.object "com/example/ledgerline/ledgerline/protocol/Refusal"), (.object "com/example/ledgerline/ledgerline/protocol/Refusal"), (.object "com/example/ledgerline/ledgerline/protocol/Refusal"), (.object "com/example/ledgerline/ledgerline/protocol/Refusal"), (.array (.object "com/example/ledgerline/ledgerline/protocol/Refusal"))]
  resolved := Array.replicate 80 none
  statics := some 0 }

def pool7 : Array CpInfo := pool [(1, .class_ 2), (0, u "java/lang/Cloneable"), (0, .class_ 4), (0, u "java/lang/Object")] 2

/-- java/lang/Cloneable -/
def k7 : Class := { plain "java/lang/Cloneable" (some 0) with
  accessFlags := 1537
  interfaces := #[]
  cf := some (fileOf pool7 1 #[] #[] 1537 3 #[] #[])
  fields := #[]
  methods := #[]
  instanceTypes := #[]
  staticTypes := #[]
  resolved := Array.replicate 7 none
  statics := none }

/-- the primitive byte -/
def k8 : Class := { plain "byte" none with kind := .primitive 'B', accessFlags := 0x411 }
/-- [B -/
def k9 : Class := { plain "[B" (some 0) with kind := .array 8 .byte, interfaces := #[7, 4], accessFlags := 1041 }

/-- the primitive int -/
def k10 : Class := { plain "int" none with kind := .primitive 'I', accessFlags := 0x411 }
/-- [I -/
def k11 : Class := { plain "[I" (some 0) with kind := .array 10 .int, interfaces := #[7, 4], accessFlags := 1041 }

/-- [Lcom/example/ledgerline/ledgerline/protocol/Refusal; -/
def k12 : Class := { plain "[Lcom/example/ledgerline/ledgerline/protocol/Refusal;" (some 0) with kind := .array 6 (.object "com/example/ledgerline/ledgerline/protocol/Refusal"), interfaces := #[7, 4], accessFlags := 1041 }

def heap : Heap := #[{ cls := 6, slots := #[.ref 2, .ref 3, .ref 4, .ref 5, .ref 6, .ref 7, .ref 8, .ref 1], vm := .statics 6 },
  { cls := 12, slots := #[.ref 2, .ref 3, .ref 4, .ref 5, .ref 6, .ref 7, .ref 8], vm := .none },
  { cls := 6, slots := #[.null, .int 0, .int 0, .int 1], vm := .none },
  { cls := 6, slots := #[.null, .int 1, .int 0, .int 2], vm := .none },
  { cls := 6, slots := #[.null, .int 2, .int 0, .int 3], vm := .none },
  { cls := 6, slots := #[.null, .int 3, .int 0, .int 4], vm := .none },
  { cls := 6, slots := #[.null, .int 4, .int 0, .int 5], vm := .none },
  { cls := 6, slots := #[.null, .int 5, .int 0, .int 6], vm := .none },
  { cls := 6, slots := #[.null, .int 6, .int 0, .int 7], vm := .none }]
def classes : Array Class := #[k0, k1, k2, k3, k4, k5, k6, k7, k8, k9, k10, k11, k12]
def interned : List (Array UInt16 × Addr) := []
def slotsUsed : Nat := 43
def theMethod : MethodId := ⟨1, 2⟩
def args0 : Array Value := #[.int 7, .int 1]
def aboutOver (below : List Frame) : State where
  vm := { classes := classes, interned := interned.toArray }
  heap := heap
  slotsUsed := slotsUsed
  threads := #[{ frames := .invoking theMethod args0 :: below }]
def below0 : List Frame := [.native { method := ⟨0, 0⟩, args := #[] }]
def about1 : State := aboutOver below0
def p0 : Program := .bare "" "" ""
def e0 : Env := launch0.env 0 0 0
theorem w_frames : about1.frames = Frame.invoking theMethod args0 :: below0 := rfl
set_option maxRecDepth 65536 in
theorem w_args : argsFit about1.vm theMethod args0 = true := by decide +kernel
set_option maxRecDepth 65536 in
theorem w_heap : heapFits about1 = true := by decide +kernel
set_option maxRecDepth 65536 in
theorem w_runnable : about1.curStatus? = some .runnable := by decide +kernel
set_option maxRecDepth 65536 in
theorem w_alone : about1.alone = true := by decide +kernel
set_option maxRecDepth 65536 in
theorem w_named : about1.methodNamed? x = some theMethod := by decide +kernel
set_option maxRecDepth 65536 in
theorem w_hears : about1.hears theMethod below0 = true := by decide +kernel
set_option maxRecDepth 65536 in
theorem w_ripe : about1.ripe theMethod args0 below0 = true := by decide +kernel
theorem w_running : about1.status = .running := rfl
set_option maxRecDepth 65536 in
theorem w_room : about1.hasRoom e0.platform room_1 = true :=
  launch0.hasRoom_least _ room_1 (by decide +kernel) (by decide +kernel) (by decide +kernel) (by decide +kernel) (by decide +kernel) (by decide +kernel)
theorem allAtoms_all (ts : List Jvm.Cond) (a : Array Jvm.Value) (st : Jvm.State) : (allAtoms ts).before a st = ts.all (fun c => c.before a st) := by
  induction ts with
  | nil => rfl
  | cons c t ih =>
    show (Jvm.Cond.and c (allAtoms t)).before a st = _
    rw [Jvm.Cond.before_and, ih, List.all_cons]
def words1 : List Jvm.Cond := Jvm.Cond.code x code maxLocals ret :: tables_1
/-- a 'code' word, met by the world's own term for the bytes: nothing is compared byte by byte -/
theorem code_word {y : MethodName} {bytes : ByteArray} {mx : Nat} {rt : Option FieldType} {a : Array Value} {s : State} {m : MethodId} {meth : Method} {c : Code} (h1 : s.methodNamed? y = some m) (h2 : s.vm.method? m = some meth) (h3 : meth.code = some c) (h4 : c.code = bytes)
    (h5 : (c.maxLocals == mx && c.exceptionTable.isEmpty && decide (c.maxStack ≤ mostOperands) && decide (meth.sig.returnType = rt) && !meth.locks && decide (parseMethodDescriptor y.desc = some meth.sig)) = true) : (Jvm.Cond.code y bytes mx rt).before a s = true := by
  simp only [Bool.and_eq_true, beq_iff_eq, Bool.not_eq_true', decide_eq_true_eq] at h5
  obtain ⟨⟨⟨⟨⟨g1, g2⟩, g3⟩, g4⟩, g5⟩, g6⟩ := h5
  simp [Cond.before, Cond.holds, Cond.value, h1, h2, h3, h4, g1, g2, g3, g4, g5, g6]
def isCode : Jvm.Cond → Bool
  | .code _ _ _ _ => true
  | _ => false
theorem all_split {L : List Jvm.Cond} {P : Jvm.Cond → Bool} (h1 : L.all (fun c => isCode c || P c) = true) (h2 : ∀ c ∈ L.filter isCode, P c = true) : L.all P = true := by
  refine List.all_eq_true.mpr fun c hc => ?_
  have h := List.all_eq_true.mp h1 c hc
  rcases Bool.eq_false_or_eq_true (isCode c) with hi | hi
  · exact h2 c (List.mem_filter.mpr ⟨hc, hi⟩)
  · simpa [hi] using h
set_option maxRecDepth 65536 in
theorem w_c0 : (Jvm.Cond.code x code maxLocals ret).before args0 about1 = true := code_word (m := ⟨1, 2⟩) (meth := k1m2) (c := k1c2) (by decide +kernel) rfl rfl rfl (by decide +kernel)
set_option maxRecDepth 65536 in
theorem w_c1 : (Jvm.Cond.code ({ cls := "com/example/ledgerline/ledgerline/protocol/Refusal", name := "of", desc := "(I)Lcom/example/ledgerline/ledgerline/protocol/Refusal;" } : Jvm.MethodName) prog_52_method_5_code (5 : Nat) (Option.some (Jvm.ClassFile.FieldType.object "com/example/ledgerline/ledgerline/protocol/Refusal"))).before args0 about1 = true := code_word (m := ⟨6, 2⟩) (meth := k6m2) (c := k6c2) (by decide +kernel) rfl rfl rfl (by decide +kernel)
set_option maxRecDepth 65536 in
theorem w_c2 : (Jvm.Cond.code ({ cls := "com/example/ledgerline/ledgerline/protocol/Refusal", name := "values", desc := "()[Lcom/example/ledgerline/ledgerline/protocol/Refusal;" } : Jvm.MethodName) prog_52_method_1_code (0 : Nat) (Option.some (Jvm.ClassFile.FieldType.array (Jvm.ClassFile.FieldType.object "com/example/ledgerline/ledgerline/protocol/Refusal")))).before args0 about1 = true := code_word (m := ⟨6, 0⟩) (meth := k6m0) (c := k6c0) (by decide +kernel) rfl rfl rfl (by decide +kernel)
set_option maxRecDepth 65536 in
theorem w_c3 : (Jvm.Cond.code ({ cls := "com/example/ledgerline/ledgerline/protocol/RefusalOfPinLaw", name := "expected", desc := "(I)Lcom/example/ledgerline/ledgerline/protocol/Refusal;" } : Jvm.MethodName) method_2_code (1 : Nat) (Option.some (Jvm.ClassFile.FieldType.object "com/example/ledgerline/ledgerline/protocol/Refusal"))).before args0 about1 = true := code_word (m := ⟨1, 1⟩) (meth := k1m1) (c := k1c1) (by decide +kernel) rfl rfl rfl (by decide +kernel)
set_option maxRecDepth 65536 in
theorem w_c4 : (Jvm.Cond.code ({ cls := "com/example/ledgerline/ledgerline/protocol/Refusal", name := "code", desc := "()I" } : Jvm.MethodName) prog_52_method_4_code (1 : Nat) (Option.some Jvm.ClassFile.FieldType.int)).before args0 about1 = true := code_word (m := ⟨6, 1⟩) (meth := k6m1) (c := k6c1) (by decide +kernel) rfl rfl rfl (by decide +kernel)
def codes1 : List Jvm.Cond := [Jvm.Cond.code x code maxLocals ret, Jvm.Cond.code ({ cls := "com/example/ledgerline/ledgerline/protocol/Refusal", name := "of", desc := "(I)Lcom/example/ledgerline/ledgerline/protocol/Refusal;" } : Jvm.MethodName) prog_52_method_5_code (5 : Nat) (Option.some (Jvm.ClassFile.FieldType.object "com/example/ledgerline/ledgerline/protocol/Refusal")), Jvm.Cond.code ({ cls := "com/example/ledgerline/ledgerline/protocol/Refusal", name := "values", desc := "()[Lcom/example/ledgerline/ledgerline/protocol/Refusal;" } : Jvm.MethodName) prog_52_method_1_code (0 : Nat) (Option.some (Jvm.ClassFile.FieldType.array (Jvm.ClassFile.FieldType.object "com/example/ledgerline/ledgerline/protocol/Refusal"))), Jvm.Cond.code ({ cls := "com/example/ledgerline/ledgerline/protocol/RefusalOfPinLaw", name := "expected", desc := "(I)Lcom/example/ledgerline/ledgerline/protocol/Refusal;" } : Jvm.MethodName) method_2_code (1 : Nat) (Option.some (Jvm.ClassFile.FieldType.object "com/example/ledgerline/ledgerline/protocol/Refusal")), Jvm.Cond.code ({ cls := "com/example/ledgerline/ledgerline/protocol/Refusal", name := "code", desc := "()I" } : Jvm.MethodName) prog_52_method_4_code (1 : Nat) (Option.some Jvm.ClassFile.FieldType.int)]
set_option maxRecDepth 65536 in
theorem codes_eq : words1.filter isCode = codes1 := rfl
theorem w_codes : ∀ c ∈ words1.filter isCode, c.before args0 about1 = true := by
  rw [codes_eq]
  intro c hc
  simp only [codes1, List.mem_cons, List.not_mem_nil, or_false] at hc
  rcases hc with rfl | rfl | rfl | rfl | rfl
  · exact w_c0
  · exact w_c1
  · exact w_c2
  · exact w_c3
  · exact w_c4
set_option maxRecDepth 65536 in
theorem w_t1 : (words1.take 24).all (fun c => isCode c || c.before args0 about1) = true := by decide +kernel
set_option maxRecDepth 65536 in
theorem w_t2 : (words1.drop 24).all (fun c => isCode c || c.before args0 about1) = true := by decide +kernel
theorem w_tables : (allAtoms (Jvm.Cond.code x code maxLocals ret :: tables_1)).before args0 about1 = true := by
  rw [allAtoms_all]
  show words1.all (fun c => c.before args0 about1) = true
  refine all_split ?_ w_codes
  rw [← List.take_append_drop 24 words1, List.all_append, w_t1, w_t2]
  rfl
set_option maxRecDepth 65536 in
theorem w_case : (Jvm.Cond.and given_1 narrow_1).before args0 about1 = true := by decide +kernel
theorem w_applies : (headSpec (Jvm.Cond.code x code maxLocals ret :: tables_1) room_1).applies x e0.platform about1 = true :=
  (Spec.applies_iff w_frames).mpr ⟨w_running, w_runnable, w_alone, w_named, w_hears, w_ripe, w_room, w_tables⟩
theorem atStart : AtStart classFile x code maxLocals ret World_1 tables_1 room_1 Calls_1 rest_1 Pre_1 launch0 p0 e0 about1 theMethod args0 below0 :=
  ⟨lists_1, trivial, launch0.admits_env _ _ _, launch0.least_env, fairChoices_fair.cas, fairChoices_fair.clock, w_frames, w_args, w_heap, w_applies, trivial, trivial, w_case⟩
end start1
theorem witness_1 : WitnessClaimed_1 := ⟨start1.p0, start1.e0, start1.about1, start1.theMethod, start1.args0, start1.below0, start1.atStart⟩
end Jvm.Pilot.@@N@@
