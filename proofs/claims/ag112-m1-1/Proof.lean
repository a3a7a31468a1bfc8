import JvmDerived
import JvmDerived.Pilot.@@N@@Statement
import JvmDerived.Pilot.@@N@@Code
set_option linter.unusedVariables false
set_option linter.unusedSimpArgs false
namespace Jvm.Pilot.@@N@@
open Jvm Jvm.ClassFile Sem Op Lib Jvm.Free Jvm.Stand Jvm.LawKit Jvm.RoadKit Bundle Jvm.Pilot.@@N@@.Jvm.D

/-! ## OWN LAYER: weakest preconditions over the walk -/
abbrev Cx : Type := (Program × Launch × Env × Room) × (State × MethodId × Array Value × List Frame) × (Method × Code) × (Option Value → Heap → Prop) × Nat
abbrev Sd (K : Cx) (T : State) (locs : List Loc) (cells slots : Nat) : Prop := Stand K.1.1 K.1.2.1 K.1.2.2.1 K.1.2.2.2 K.2.1.1 K.2.1.2.1 K.2.1.2.2.1 K.2.1.2.2.2 K.2.2.1.1 K.2.2.1.2 T locs cells slots
abbrev Stp (K : Cx) (A B : State) : Prop := Steps K.1.1.tables K.1.2.2.1 K.2.1.2.2.2 A B
abbrev Tp (K : Cx) (T : State) (pc : Nat) (L : Array Slot) (st : List Value) : State := T.setTop (mkF K.2.1.2.1 pc L st)
/-- from every state that stands at pc with these locals, this stack and this heap the run ends as K says -/
def W (K : Cx) (h : Heap) (cells slots pc : Nat) (L : Array Slot) (st : List Value) : Prop :=
  ∀ T locs, Sd K T locs cells slots → T.heap = h → Fr K.2.2.2.2 locs →
    ∃ s₂ o, Stp K (Tp K T pc L st) s₂ ∧ s₂.status = .running ∧ Ended s₂ K.2.1.2.2.2 o ∧ ∃ v Ls, o = .returned v ∧ (K.2.2.2.1 v s₂.heap ∧ Fr K.2.2.2.2 Ls) ∧ FrameEnd K.2.1.1 o s₂ Ls K.1.2.2.2.cells K.1.2.2.2.slots
def Ok (K : Cx) (l : Launch) (Z : State) (a0 : Array Value) (ts : List Jvm.Cond) (B : ByteArray) (ml : Nat) (rt : Option FieldType) (own nm : String) (R : Room) (n0 : Nat) (Q : Option Value → Heap → Prop) : Prop :=
  K.1.1.tables.exec = Jvm.exec ∧ K.2.2.1.2.code = B ∧ K.2.2.1.2.maxLocals = ml ∧ K.2.1.1.vm.findClass own = some K.2.1.2.1.cls ∧ K.2.2.1.1.name = nm ∧ K.2.2.1.1.sig.returnType = rt ∧ K.2.2.1.1.locks = false ∧ Z.Warmed39 K.2.1.1.vm ∧ (∀ d ∈ ts, d.before a0 Z = true) ∧ n0 ≤ K.2.1.1.heap.size ∧ K.1.2.1 = l ∧ K.1.2.2.2 = R ∧ K.2.2.2.2 = n0 ∧ K.2.2.2.1 = Q
/-- a body's contract -/
def Con (l : Launch) (Z : State) (y : MethodName) (B : ByteArray) (ml : Nat) (rt : Option FieldType) (rm : Room) (as : List Value) (h : Heap) (n0 : Nat) (Q : Option Value → Heap → Prop) : Prop :=
  n0 ≤ h.size → ∀ ws, MetFree l y (head1 (Jvm.Cond.code y B ml rt :: ws) rm) (fun a U => a = as.toArray ∧ Z.Warmed39 U.vm ∧ U.heap = h) (fun _ _ _ _ _ => True) (fun _ U o U' => ∃ v L, o = .returned v ∧ (Q v U'.heap ∧ Fr n0 L) ∧ FrameEnd U o U' L rm.cells rm.slots)
def RetI (P : Int32 → Heap → Prop) (v : Option Value) (h : Heap) : Prop := ∃ r, v = some (.int r) ∧ P r h
def RetL (P : Int64 → Heap → Prop) (v : Option Value) (h : Heap) : Prop := ∃ r, v = some (.long r) ∧ P r h
def RetA (P : Value → Heap → Prop) (v : Option Value) (h : Heap) : Prop := ∃ r, v = some r ∧ r.isRef = true ∧ P r h
def RetV (P : Heap → Prop) (v : Option Value) (h : Heap) : Prop := v = none ∧ P h
section OwnW
variable {K : Cx} {l : Launch} {Z : State} {a0 : Array Value} {ts : List Jvm.Cond} {B : ByteArray} {ml : Nat} {rt : Option FieldType} {own nm : String} {R : Room} {n0 : Nat} {Q : Option Value → Heap → Prop} {h : Heap} {cl sl pc pc' : Nat} {L L' : Array Slot} {st st' : List Value}
theorem W.step (f : ∀ T locs, Sd K T locs cl sl → T.heap = h → ∀ t, Stp K (Tp K T pc' L' st') t → Stp K (Tp K T pc L st) t) (k : W K h cl sl pc' L' st') : W K h cl sl pc L st := fun T locs X e N => by
  obtain ⟨s2, o, h1, r⟩ := k T locs X e N
  exact ⟨s2, o, f T locs X e _ h1, r⟩
theorem W.stepT (f : ∀ T locs, Sd K T locs cl sl → T.heap = h → ∃ T', Sd K T' locs cl sl ∧ T'.heap = h ∧ ∀ t, Stp K (Tp K T' pc' L' st') t → Stp K (Tp K T pc L st) t) (k : W K h cl sl pc' L' st') : W K h cl sl pc L st := fun T locs X e N => by
  obtain ⟨T', X', e', g⟩ := f T locs X e
  obtain ⟨s2, o, h1, r⟩ := k T' locs X' e' N
  exact ⟨s2, o, g _ h1, r⟩
theorem W.stepW {a : Addr} {i : Nat} {v : Value} (f : ∀ T locs, Sd K T locs cl sl → T.heap = h → ∃ T' h', Sd K T' (locs ++ [⟨a, i⟩]) cl sl ∧ T'.heap = h' ∧ Wr h h' a i v ∧ ∀ t, Stp K (Tp K T' pc' L' st') t → Stp K (Tp K T pc L st) t) (ha : K.2.2.2.2 ≤ a) (k : ∀ h', Wr h h' a i v → W K h' cl sl pc' L' st') : W K h cl sl pc L st := fun T locs X e N => by
  obtain ⟨T', h', X', e', w, g⟩ := f T locs X e
  obtain ⟨s2, o, h1, r⟩ := k h' w T' _ X' e' (Fr.snoc X' N ha)
  exact ⟨s2, o, g _ h1, r⟩
theorem W.mono {cl' sl' : Nat} (hc : cl ≤ cl') (hs : sl ≤ sl') (k : W K h cl' sl' pc L st) : W K h cl sl pc L st := fun T locs X e N => k T locs (X.mono hc hs) e N
theorem Sd.size {T : State} {locs : List Loc} (X : Sd K T locs cl sl) : K.2.1.1.heap.size ≤ T.heap.size := X.same.2.1
theorem cI {cl' sl' : Nat} {P : Int32 → Heap → Prop} (k : ∀ r h', P r h' → W K h' cl' sl' pc' L (.int r :: st)) : ∀ v h', RetI P v h' → W K h' cl' sl' pc' L (v.toList ++ st) := by
  rintro _ h' ⟨r, rfl, hp⟩; exact k r h' hp
theorem cL {cl' sl' : Nat} {P : Int64 → Heap → Prop} (k : ∀ r h', P r h' → W K h' cl' sl' pc' L (.long r :: st)) : ∀ v h', RetL P v h' → W K h' cl' sl' pc' L (v.toList ++ st) := by
  rintro _ h' ⟨r, rfl, hp⟩; exact k r h' hp
theorem cA {cl' sl' : Nat} {P : Value → Heap → Prop} (k : ∀ r h', r.isRef = true → P r h' → W K h' cl' sl' pc' L (r :: st)) : ∀ v h', RetA P v h' → W K h' cl' sl' pc' L (v.toList ++ st) := by
  rintro _ h' ⟨r, rfl, hr, hp⟩; exact k r h' hr hp
theorem cV {cl' sl' : Nat} {P : Heap → Prop} (k : ∀ h', P h' → W K h' cl' sl' pc' L st) : ∀ v h', RetV P v h' → W K h' cl' sl' pc' L (v.toList ++ st) := by
  rintro _ h' ⟨rfl, hp⟩; exact k h' hp
theorem Con.weak {y : MethodName} {rm : Room} {as : List Value} {Q' : Option Value → Heap → Prop} (c : Con l Z y B ml rt rm as h n0 Q) (q : ∀ v h', Q v h' → Q' v h') : Con l Z y B ml rt rm as h n0 Q' := fun hn ws p e ha hc hk s m args below hf happ hP hK => by
  obtain ⟨n, o, h1, h2, h3, v, L, e1, ⟨h4, h5⟩, h6⟩ := c hn ws p e ha hc hk s m args below hf happ hP hK
  exact ⟨n, o, h1, h2, h3, v, L, e1, ⟨q _ _ h4, h5⟩, h6⟩
theorem Con.body {y : MethodName} {rm : Room} {as : List Value} {L0 : Array Slot} (hw : ∀ d ∈ ts, d.before a0 Z = true) (pn : plainFor y = true) (ef : ∀ m, entryFrame m as.toArray ml = mkF m 0 L0 [])
    (b : ∀ K, Ok K l Z a0 ts B ml rt y.cls y.name rm n0 Q → W K h 0 0 0 L0 []) : Con l Z y B ml rt rm as h n0 Q := by
  intro hn ws
  refine MetFree.of_bodySF pn hisR ?_
  intro p e s m args below meth c s₁ Bd hml0 hP hK
  obtain ⟨rfl, hZ, hh⟩ := hP
  have hown : s.vm.findClass y.cls = some m.cls := findClass_of_methodNamed Bd.named
  have hnm := (name_of_methodNamed Bd.named Bd.method).1
  have X0 : Stand p l e rm s m as.toArray below meth c s₁ [] 0 0 := Stand.of_body Bd
  have e0 : s₁.heap = h := by rw [← hh, Bd.state]; rfl
  have q := b ((p, l, e, rm), (s, m, as.toArray, below), (meth, c), Q, n0) ⟨Bd.exec, Bd.bytes, hml0, hown, hnm, Bd.returns, Bd.notSynchronized, hZ, hw, by rw [← hh] at hn; exact hn, rfl, rfl, rfl, rfl⟩ s₁ [] X0 e0 (Fr.nil _)
  obtain ⟨s2, o, h1, h2, h3, h4⟩ := q
  exact ⟨s2, o, castTop (ef m) h1, h2, h3, h4⟩

theorem w_iloadN (O : Ok K l Z a0 ts B ml rt own nm R n0 Q) {i : Fin 4} {v : Int32} (hd : decode B pc = .ok (.iload_n i, 1)) (hp : pc + 1 = pc') (hl : L[i.val]? = some (.val (.int v))) (k : W K h cl sl pc' L (.int v :: st)) : W K h cl sl pc L (st) := by
  subst hp; exact W.step (fun T locs X e t q => XS.iloadN X.here O.1 rfl (hb O.2.1 hd) hl q) k
theorem w_iload (O : Ok K l Z a0 ts B ml rt own nm R n0 Q) {i : Nat} {v : Int32} (hd : decode B pc = .ok (.iload i, 2)) (hp : pc + 2 = pc') (hl : L[i]? = some (.val (.int v))) (k : W K h cl sl pc' L (.int v :: st)) : W K h cl sl pc L (st) := by
  subst hp; exact W.step (fun T locs X e t q => XS.iload X.here O.1 rfl (hb O.2.1 hd) hl q) k
theorem w_lloadN (O : Ok K l Z a0 ts B ml rt own nm R n0 Q) {i : Fin 4} {v : Int64} (hd : decode B pc = .ok (.lload_n i, 1)) (hp : pc + 1 = pc') (hl : L[i.val]? = some (.val (.long v))) (k : W K h cl sl pc' L (.long v :: st)) : W K h cl sl pc L (st) := by
  subst hp; exact W.step (fun T locs X e t q => XS.lloadN X.here O.1 rfl (hb O.2.1 hd) hl q) k
theorem w_lload (O : Ok K l Z a0 ts B ml rt own nm R n0 Q) {i : Nat} {v : Int64} (hd : decode B pc = .ok (.lload i, 2)) (hp : pc + 2 = pc') (hl : L[i]? = some (.val (.long v))) (k : W K h cl sl pc' L (.long v :: st)) : W K h cl sl pc L (st) := by
  subst hp; exact W.step (fun T locs X e t q => XS.lload X.here O.1 rfl (hb O.2.1 hd) hl q) k
theorem w_aloadN (O : Ok K l Z a0 ts B ml rt own nm R n0 Q) {i : Fin 4} {v : Value} (hd : decode B pc = .ok (.aload_n i, 1)) (hp : pc + 1 = pc') (hl : L[i.val]? = some (.val v)) (hv : v.isRef = true) (k : W K h cl sl pc' L (v :: st)) : W K h cl sl pc L (st) := by
  subst hp; exact W.step (fun T locs X e t q => XS.aloadN X.here O.1 rfl (hb O.2.1 hd) hl hv q) k
theorem w_aload (O : Ok K l Z a0 ts B ml rt own nm R n0 Q) {i : Nat} {v : Value} (hd : decode B pc = .ok (.aload i, 2)) (hp : pc + 2 = pc') (hl : L[i]? = some (.val v)) (hv : v.isRef = true) (k : W K h cl sl pc' L (v :: st)) : W K h cl sl pc L (st) := by
  subst hp; exact W.step (fun T locs X e t q => XS.aload X.here O.1 rfl (hb O.2.1 hd) hl hv q) k
theorem w_istoreN (O : Ok K l Z a0 ts B ml rt own nm R n0 Q) {i : Fin 4} {v : Int32} (hd : decode B pc = .ok (.istore_n i, 1)) (hp : pc + 1 = pc') (hl : storeLocals L i.val (.int v) = some L') (k : W K h cl sl pc' L' st) : W K h cl sl pc L (.int v :: st) := by
  subst hp; exact W.step (fun T locs X e t q => XS.istoreN X.here O.1 rfl (hb O.2.1 hd) rfl hl q) k
theorem w_istoreNG (O : Ok K l Z a0 ts B ml rt own nm R n0 Q) {i : Fin 4} {v : Int32} {L' : Int32 → Array Slot} (hd : decode B pc = .ok (.istore_n i, 1)) (hp : pc + 1 = pc') (hl : ∀ z, storeLocals L i.val (.int z) = some (L' z)) (k : ∀ z, z = v → W K h cl sl pc' (L' z) st) : W K h cl sl pc L (.int v :: st) := w_istoreN O hd hp (hl v) (k v rfl)
theorem w_istore (O : Ok K l Z a0 ts B ml rt own nm R n0 Q) {i : Nat} {v : Int32} (hd : decode B pc = .ok (.istore i, 2)) (hp : pc + 2 = pc') (hl : storeLocals L i (.int v) = some L') (k : W K h cl sl pc' L' st) : W K h cl sl pc L (.int v :: st) := by
  subst hp; exact W.step (fun T locs X e t q => XS.istore X.here O.1 rfl (hb O.2.1 hd) rfl hl q) k
theorem w_istoreG (O : Ok K l Z a0 ts B ml rt own nm R n0 Q) {i : Nat} {v : Int32} {L' : Int32 → Array Slot} (hd : decode B pc = .ok (.istore i, 2)) (hp : pc + 2 = pc') (hl : ∀ z, storeLocals L i (.int z) = some (L' z)) (k : ∀ z, z = v → W K h cl sl pc' (L' z) st) : W K h cl sl pc L (.int v :: st) := w_istore O hd hp (hl v) (k v rfl)
theorem w_lstoreN (O : Ok K l Z a0 ts B ml rt own nm R n0 Q) {i : Fin 4} {v : Int64} (hd : decode B pc = .ok (.lstore_n i, 1)) (hp : pc + 1 = pc') (hl : storeLocals L i.val (.long v) = some L') (k : W K h cl sl pc' L' st) : W K h cl sl pc L (.long v :: st) := by
  subst hp; exact W.step (fun T locs X e t q => XS.lstoreN X.here O.1 rfl (hb O.2.1 hd) rfl hl q) k
theorem w_lstoreNG (O : Ok K l Z a0 ts B ml rt own nm R n0 Q) {i : Fin 4} {v : Int64} {L' : Int64 → Array Slot} (hd : decode B pc = .ok (.lstore_n i, 1)) (hp : pc + 1 = pc') (hl : ∀ z, storeLocals L i.val (.long z) = some (L' z)) (k : ∀ z, z = v → W K h cl sl pc' (L' z) st) : W K h cl sl pc L (.long v :: st) := w_lstoreN O hd hp (hl v) (k v rfl)
theorem w_lstore (O : Ok K l Z a0 ts B ml rt own nm R n0 Q) {i : Nat} {v : Int64} (hd : decode B pc = .ok (.lstore i, 2)) (hp : pc + 2 = pc') (hl : storeLocals L i (.long v) = some L') (k : W K h cl sl pc' L' st) : W K h cl sl pc L (.long v :: st) := by
  subst hp; exact W.step (fun T locs X e t q => XS.lstore X.here O.1 rfl (hb O.2.1 hd) rfl hl q) k
theorem w_lstoreG (O : Ok K l Z a0 ts B ml rt own nm R n0 Q) {i : Nat} {v : Int64} {L' : Int64 → Array Slot} (hd : decode B pc = .ok (.lstore i, 2)) (hp : pc + 2 = pc') (hl : ∀ z, storeLocals L i (.long z) = some (L' z)) (k : ∀ z, z = v → W K h cl sl pc' (L' z) st) : W K h cl sl pc L (.long v :: st) := w_lstore O hd hp (hl v) (k v rfl)
theorem w_astoreN (O : Ok K l Z a0 ts B ml rt own nm R n0 Q) {i : Fin 4} {v : Value} (hd : decode B pc = .ok (.astore_n i, 1)) (hp : pc + 1 = pc') (hv : v.isRef = true) (hl : storeLocals L i.val v = some L') (k : W K h cl sl pc' L' st) : W K h cl sl pc L (v :: st) := by
  subst hp; exact W.step (fun T locs X e t q => XS.astoreN X.here O.1 rfl (hb O.2.1 hd) rfl hv hl q) k
theorem w_astore (O : Ok K l Z a0 ts B ml rt own nm R n0 Q) {i : Nat} {v : Value} (hd : decode B pc = .ok (.astore i, 2)) (hp : pc + 2 = pc') (hv : v.isRef = true) (hl : storeLocals L i v = some L') (k : W K h cl sl pc' L' st) : W K h cl sl pc L (v :: st) := by
  subst hp; exact W.step (fun T locs X e t q => XS.astore X.here O.1 rfl (hb O.2.1 hd) rfl hv hl q) k
theorem w_iinc (O : Ok K l Z a0 ts B ml rt own nm R n0 Q) {i : Nat} {cst : Int} {x z : Int32} (hd : decode B pc = .ok (.iinc i cst, 3)) (hp : pc + 3 = pc') (hl : L[i]? = some (.val (.int x))) (hz : x + Int32.ofInt cst = z) (hl' : storeLocals L i (.int z) = some L') (k : W K h cl sl pc' L' st) : W K h cl sl pc L st := by
  subst hp; subst hz; exact W.step (fun T locs X e t q => XS.iinc X.here O.1 rfl (hb O.2.1 hd) hl hl' q) k
theorem w_iincG (O : Ok K l Z a0 ts B ml rt own nm R n0 Q) {i : Nat} {cst : Int} {x y : Int32} {L' : Int32 → Array Slot} (hd : decode B pc = .ok (.iinc i cst, 3)) (hp : pc + 3 = pc') (hl : L[i]? = some (.val (.int x))) (hz : Int32.ofInt cst = y) (hl' : ∀ z, storeLocals L i (.int z) = some (L' z)) (k : ∀ z, z = x + y → W K h cl sl pc' (L' z) st) : W K h cl sl pc L st := by
  subst hz; exact w_iinc O hd hp hl rfl (hl' _) (k _ rfl)
theorem w_iconst (O : Ok K l Z a0 ts B ml rt own nm R n0 Q) {i : Int} {z : Int32} (hd : decode B pc = .ok (.iconst i, 1)) (hp : pc + 1 = pc') (hz : Int32.ofInt i = z) (k : W K h cl sl pc' L (.int z :: st)) : W K h cl sl pc L (st) := by
  subst hp; exact W.step (fun T locs X e t q => XS.iconst X.here O.1 rfl (hb O.2.1 hd) (by rw [hz]; exact q)) k
theorem w_bipush (O : Ok K l Z a0 ts B ml rt own nm R n0 Q) {i : Int} {z : Int32} (hd : decode B pc = .ok (.bipush i, 2)) (hp : pc + 2 = pc') (hz : (Int8.ofInt i).toInt32 = z) (k : W K h cl sl pc' L (.int z :: st)) : W K h cl sl pc L (st) := by
  subst hp; exact W.step (fun T locs X e t q => XS.bipush X.here O.1 rfl (hb O.2.1 hd) (by rw [hz]; exact q)) k
theorem w_sipush (O : Ok K l Z a0 ts B ml rt own nm R n0 Q) {i : Int} {z : Int32} (hd : decode B pc = .ok (.sipush i, 3)) (hp : pc + 3 = pc') (hz : (Int16.ofInt i).toInt32 = z) (k : W K h cl sl pc' L (.int z :: st)) : W K h cl sl pc L (st) := by
  subst hp; exact W.step (fun T locs X e t q => XS.sipush X.here O.1 rfl (hb O.2.1 hd) (by rw [hz]; exact q)) k
theorem w_lconst (O : Ok K l Z a0 ts B ml rt own nm R n0 Q) {i : Fin 2} {z : Int64} (hd : decode B pc = .ok (.lconst i, 1)) (hp : pc + 1 = pc') (hz : Int64.ofNat i = z) (k : W K h cl sl pc' L (.long z :: st)) : W K h cl sl pc L (st) := by
  subst hp; exact W.step (fun T locs X e t q => XS.lconst X.here O.1 rfl (hb O.2.1 hd) (by rw [hz]; exact q)) k
theorem w_anull (O : Ok K l Z a0 ts B ml rt own nm R n0 Q)  (hd : decode B pc = .ok (.aconst_null, 1)) (hp : pc + 1 = pc') (k : W K h cl sl pc' L (.null :: st)) : W K h cl sl pc L (st) := by
  subst hp; exact W.step (fun T locs X e t q => XS.aconstNull X.here O.1 rfl (hb O.2.1 hd) q) k
theorem w_ldc (O : Ok K l Z a0 ts B ml rt own nm R n0 Q) {i : Nat} {v : Int32} (hd : decode B pc = .ok (.ldc i, 2)) (hp : pc + 2 = pc') (w : Jvm.Cond.constant own i v ∈ ts) (k : W K h cl sl pc' L (.int v :: st)) : W K h cl sl pc L (st) := by
  subst hp; exact W.step (fun T locs X e t q => X.ldcInt O.1 O.2.2.2.1 (mvT O.2.2.2.2.2.2.2.1 (O.2.2.2.2.2.2.2.2.1 _ w)) (g := mkF K.2.1.2.1 pc L st) rfl (hb O.2.1 hd) _ q) k
theorem w_ldc2 (O : Ok K l Z a0 ts B ml rt own nm R n0 Q) {i : Nat} {v : Int64} (hd : decode B pc = .ok (.ldc2_w i, 3)) (hp : pc + 3 = pc') (w : Jvm.Cond.constantLong own i v ∈ ts) (k : W K h cl sl pc' L (.long v :: st)) : W K h cl sl pc L (st) := by
  subst hp; exact W.step (fun T locs X e t q => X.ldc2Long O.1 O.2.2.2.1 (mvT O.2.2.2.2.2.2.2.1 (O.2.2.2.2.2.2.2.2.1 _ w)) (g := mkF K.2.1.2.1 pc L st) rfl (hb O.2.1 hd) _ q) k
theorem w_iadd (O : Ok K l Z a0 ts B ml rt own nm R n0 Q) {x y : Int32} (hd : decode B pc = .ok (.iadd, 1)) (hp : pc + 1 = pc') (k : W K h cl sl pc' L (.int (x + y) :: st)) : W K h cl sl pc L (.int y :: .int x :: st) := by
  subst hp; exact W.step (fun T locs X e t q => XS.iadd X.here O.1 rfl (hb O.2.1 hd) rfl q) k
theorem w_isub (O : Ok K l Z a0 ts B ml rt own nm R n0 Q) {x y : Int32} (hd : decode B pc = .ok (.isub, 1)) (hp : pc + 1 = pc') (k : W K h cl sl pc' L (.int (x - y) :: st)) : W K h cl sl pc L (.int y :: .int x :: st) := by
  subst hp; exact W.step (fun T locs X e t q => XS.isub X.here O.1 rfl (hb O.2.1 hd) rfl q) k
theorem w_imul (O : Ok K l Z a0 ts B ml rt own nm R n0 Q) {x y : Int32} (hd : decode B pc = .ok (.imul, 1)) (hp : pc + 1 = pc') (k : W K h cl sl pc' L (.int (x * y) :: st)) : W K h cl sl pc L (.int y :: .int x :: st) := by
  subst hp; exact W.step (fun T locs X e t q => XS.imul X.here O.1 rfl (hb O.2.1 hd) rfl q) k
theorem w_iand (O : Ok K l Z a0 ts B ml rt own nm R n0 Q) {x y : Int32} (hd : decode B pc = .ok (.iand, 1)) (hp : pc + 1 = pc') (k : W K h cl sl pc' L (.int (x &&& y) :: st)) : W K h cl sl pc L (.int y :: .int x :: st) := by
  subst hp; exact W.step (fun T locs X e t q => XS.iand X.here O.1 rfl (hb O.2.1 hd) rfl q) k
theorem w_ior (O : Ok K l Z a0 ts B ml rt own nm R n0 Q) {x y : Int32} (hd : decode B pc = .ok (.ior, 1)) (hp : pc + 1 = pc') (k : W K h cl sl pc' L (.int (x ||| y) :: st)) : W K h cl sl pc L (.int y :: .int x :: st) := by
  subst hp; exact W.step (fun T locs X e t q => XS.ior X.here O.1 rfl (hb O.2.1 hd) rfl q) k
theorem w_ixor (O : Ok K l Z a0 ts B ml rt own nm R n0 Q) {x y : Int32} (hd : decode B pc = .ok (.ixor, 1)) (hp : pc + 1 = pc') (k : W K h cl sl pc' L (.int (x ^^^ y) :: st)) : W K h cl sl pc L (.int y :: .int x :: st) := by
  subst hp; exact W.step (fun T locs X e t q => XS.ixor X.here O.1 rfl (hb O.2.1 hd) rfl q) k
theorem w_ishl (O : Ok K l Z a0 ts B ml rt own nm R n0 Q) {x y : Int32} (hd : decode B pc = .ok (.ishl, 1)) (hp : pc + 1 = pc') (k : W K h cl sl pc' L (.int (x <<< (y &&& 31)) :: st)) : W K h cl sl pc L (.int y :: .int x :: st) := by
  subst hp; exact W.step (fun T locs X e t q => XS.ishl X.here O.1 rfl (hb O.2.1 hd) rfl q) k
theorem w_ishr (O : Ok K l Z a0 ts B ml rt own nm R n0 Q) {x y : Int32} (hd : decode B pc = .ok (.ishr, 1)) (hp : pc + 1 = pc') (k : W K h cl sl pc' L (.int (x >>> (y &&& 31)) :: st)) : W K h cl sl pc L (.int y :: .int x :: st) := by
  subst hp; exact W.step (fun T locs X e t q => XS.ishr X.here O.1 rfl (hb O.2.1 hd) rfl q) k
theorem w_iushr (O : Ok K l Z a0 ts B ml rt own nm R n0 Q) {x y : Int32} (hd : decode B pc = .ok (.iushr, 1)) (hp : pc + 1 = pc') (k : W K h cl sl pc' L (.int ((x.toUInt32 >>> (y &&& 31).toUInt32).toInt32) :: st)) : W K h cl sl pc L (.int y :: .int x :: st) := by
  subst hp; exact W.step (fun T locs X e t q => XS.iushr X.here O.1 rfl (hb O.2.1 hd) rfl q) k
theorem w_ladd (O : Ok K l Z a0 ts B ml rt own nm R n0 Q) {x y : Int64} (hd : decode B pc = .ok (.ladd, 1)) (hp : pc + 1 = pc') (k : W K h cl sl pc' L (.long (x + y) :: st)) : W K h cl sl pc L (.long y :: .long x :: st) := by
  subst hp; exact W.step (fun T locs X e t q => XS.ladd X.here O.1 rfl (hb O.2.1 hd) rfl q) k
theorem w_lsub (O : Ok K l Z a0 ts B ml rt own nm R n0 Q) {x y : Int64} (hd : decode B pc = .ok (.lsub, 1)) (hp : pc + 1 = pc') (k : W K h cl sl pc' L (.long (x - y) :: st)) : W K h cl sl pc L (.long y :: .long x :: st) := by
  subst hp; exact W.step (fun T locs X e t q => XS.lsub X.here O.1 rfl (hb O.2.1 hd) rfl q) k
theorem w_lmul (O : Ok K l Z a0 ts B ml rt own nm R n0 Q) {x y : Int64} (hd : decode B pc = .ok (.lmul, 1)) (hp : pc + 1 = pc') (k : W K h cl sl pc' L (.long (x * y) :: st)) : W K h cl sl pc L (.long y :: .long x :: st) := by
  subst hp; exact W.step (fun T locs X e t q => XS.lmul X.here O.1 rfl (hb O.2.1 hd) rfl q) k
theorem w_land (O : Ok K l Z a0 ts B ml rt own nm R n0 Q) {x y : Int64} (hd : decode B pc = .ok (.land, 1)) (hp : pc + 1 = pc') (k : W K h cl sl pc' L (.long (x &&& y) :: st)) : W K h cl sl pc L (.long y :: .long x :: st) := by
  subst hp; exact W.step (fun T locs X e t q => XS.land X.here O.1 rfl (hb O.2.1 hd) rfl q) k
theorem w_lor (O : Ok K l Z a0 ts B ml rt own nm R n0 Q) {x y : Int64} (hd : decode B pc = .ok (.lor, 1)) (hp : pc + 1 = pc') (k : W K h cl sl pc' L (.long (x ||| y) :: st)) : W K h cl sl pc L (.long y :: .long x :: st) := by
  subst hp; exact W.step (fun T locs X e t q => XS.lor X.here O.1 rfl (hb O.2.1 hd) rfl q) k
theorem w_lxor (O : Ok K l Z a0 ts B ml rt own nm R n0 Q) {x y : Int64} (hd : decode B pc = .ok (.lxor, 1)) (hp : pc + 1 = pc') (k : W K h cl sl pc' L (.long (x ^^^ y) :: st)) : W K h cl sl pc L (.long y :: .long x :: st) := by
  subst hp; exact W.step (fun T locs X e t q => XS.lxor X.here O.1 rfl (hb O.2.1 hd) rfl q) k
theorem w_lshl (O : Ok K l Z a0 ts B ml rt own nm R n0 Q) {x : Int64} {y : Int32} (hd : decode B pc = .ok (.lshl, 1)) (hp : pc + 1 = pc') (k : W K h cl sl pc' L (.long (x <<< (y &&& 0x3f).toInt64) :: st)) : W K h cl sl pc L (.int y :: .long x :: st) := by
  subst hp; exact W.step (fun T locs X e t q => XS.lshl X.here O.1 rfl (hb O.2.1 hd) rfl q) k
theorem w_lshr (O : Ok K l Z a0 ts B ml rt own nm R n0 Q) {x : Int64} {y : Int32} (hd : decode B pc = .ok (.lshr, 1)) (hp : pc + 1 = pc') (k : W K h cl sl pc' L (.long (x >>> (y &&& 0x3f).toInt64) :: st)) : W K h cl sl pc L (.int y :: .long x :: st) := by
  subst hp; exact W.step (fun T locs X e t q => XS.lshr X.here O.1 rfl (hb O.2.1 hd) rfl q) k
theorem w_lushr (O : Ok K l Z a0 ts B ml rt own nm R n0 Q) {x : Int64} {y : Int32} (hd : decode B pc = .ok (.lushr, 1)) (hp : pc + 1 = pc') (k : W K h cl sl pc' L (.long ((x.toUInt64 >>> (y &&& 0x3f).toInt64.toUInt64).toInt64) :: st)) : W K h cl sl pc L (.int y :: .long x :: st) := by
  subst hp; exact W.step (fun T locs X e t q => XS.lushr X.here O.1 rfl (hb O.2.1 hd) rfl q) k
theorem w_idiv (O : Ok K l Z a0 ts B ml rt own nm R n0 Q) {x y : Int32} (hd : decode B pc = .ok (.idiv, 1)) (hp : pc + 1 = pc') (hy : y ≠ 0) (k : W K h cl sl pc' L (.int (x / y) :: st)) : W K h cl sl pc L (.int y :: .int x :: st) := by
  subst hp; exact W.step (fun T locs X e t q => XS.idiv X.here O.1 rfl (hb O.2.1 hd) rfl hy q) k
theorem w_irem (O : Ok K l Z a0 ts B ml rt own nm R n0 Q) {x y : Int32} (hd : decode B pc = .ok (.irem, 1)) (hp : pc + 1 = pc') (hy : y ≠ 0) (k : W K h cl sl pc' L (.int (x % y) :: st)) : W K h cl sl pc L (.int y :: .int x :: st) := by
  subst hp; exact W.step (fun T locs X e t q => iremM X O.1 rfl (hb O.2.1 hd) rfl hy q) k
theorem w_ldiv (O : Ok K l Z a0 ts B ml rt own nm R n0 Q) {x y : Int64} (hd : decode B pc = .ok (.ldiv, 1)) (hp : pc + 1 = pc') (hy : y ≠ 0) (k : W K h cl sl pc' L (.long (x / y) :: st)) : W K h cl sl pc L (.long y :: .long x :: st) := by
  subst hp; exact W.step (fun T locs X e t q => XS.ldiv X.here O.1 rfl (hb O.2.1 hd) rfl hy q) k
theorem w_lrem (O : Ok K l Z a0 ts B ml rt own nm R n0 Q) {x y : Int64} (hd : decode B pc = .ok (.lrem, 1)) (hp : pc + 1 = pc') (hy : y ≠ 0) (k : W K h cl sl pc' L (.long (x % y) :: st)) : W K h cl sl pc L (.long y :: .long x :: st) := by
  subst hp; exact W.step (fun T locs X e t q => XS.lrem X.here O.1 rfl (hb O.2.1 hd) rfl hy (by rw [lrem_mod]; exact q)) k
theorem w_ineg (O : Ok K l Z a0 ts B ml rt own nm R n0 Q) {x : Int32} (hd : decode B pc = .ok (.ineg, 1)) (hp : pc + 1 = pc') (k : W K h cl sl pc' L (.int (-x) :: st)) : W K h cl sl pc L (.int x :: st) := by
  subst hp; exact W.step (fun T locs X e t q => XS.ineg X.here O.1 rfl (hb O.2.1 hd) rfl q) k
theorem w_lneg (O : Ok K l Z a0 ts B ml rt own nm R n0 Q) {x : Int64} (hd : decode B pc = .ok (.lneg, 1)) (hp : pc + 1 = pc') (k : W K h cl sl pc' L (.long (-x) :: st)) : W K h cl sl pc L (.long x :: st) := by
  subst hp; exact W.step (fun T locs X e t q => XS.lneg X.here O.1 rfl (hb O.2.1 hd) rfl q) k
theorem w_i2l (O : Ok K l Z a0 ts B ml rt own nm R n0 Q) {x : Int32} (hd : decode B pc = .ok (.i2l, 1)) (hp : pc + 1 = pc') (k : W K h cl sl pc' L (.long (x.toInt64) :: st)) : W K h cl sl pc L (.int x :: st) := by
  subst hp; exact W.step (fun T locs X e t q => XS.i2l X.here O.1 rfl (hb O.2.1 hd) rfl q) k
theorem w_l2i (O : Ok K l Z a0 ts B ml rt own nm R n0 Q) {x : Int64} (hd : decode B pc = .ok (.l2i, 1)) (hp : pc + 1 = pc') (k : W K h cl sl pc' L (.int (x.toInt32) :: st)) : W K h cl sl pc L (.long x :: st) := by
  subst hp; exact W.step (fun T locs X e t q => XS.l2i X.here O.1 rfl (hb O.2.1 hd) rfl q) k
theorem w_i2b (O : Ok K l Z a0 ts B ml rt own nm R n0 Q) {x : Int32} (hd : decode B pc = .ok (.i2b, 1)) (hp : pc + 1 = pc') (k : W K h cl sl pc' L (.int (x.toInt8.toInt32) :: st)) : W K h cl sl pc L (.int x :: st) := by
  subst hp; exact W.step (fun T locs X e t q => XS.i2b X.here O.1 rfl (hb O.2.1 hd) rfl q) k
theorem w_i2s (O : Ok K l Z a0 ts B ml rt own nm R n0 Q) {x : Int32} (hd : decode B pc = .ok (.i2s, 1)) (hp : pc + 1 = pc') (k : W K h cl sl pc' L (.int (x.toInt16.toInt32) :: st)) : W K h cl sl pc L (.int x :: st) := by
  subst hp; exact W.step (fun T locs X e t q => XS.i2s X.here O.1 rfl (hb O.2.1 hd) rfl q) k
theorem w_i2c (O : Ok K l Z a0 ts B ml rt own nm R n0 Q) {x : Int32} (hd : decode B pc = .ok (.i2c, 1)) (hp : pc + 1 = pc') (k : W K h cl sl pc' L (.int (x.toUInt32.toUInt16.toUInt32.toInt32) :: st)) : W K h cl sl pc L (.int x :: st) := by
  subst hp; exact W.step (fun T locs X e t q => XS.i2c X.here O.1 rfl (hb O.2.1 hd) rfl q) k
theorem w_dup (O : Ok K l Z a0 ts B ml rt own nm R n0 Q) {x : Value} (hd : decode B pc = .ok (.dup, 1)) (hp : pc + 1 = pc') (hc : x.category = 1) (k : W K h cl sl pc' L (x :: x :: st)) : W K h cl sl pc L (x :: st) := by
  subst hp; exact W.step (fun T locs X e t q => XS.dup X.here O.1 rfl (hb O.2.1 hd) rfl hc q) k
theorem w_pop (O : Ok K l Z a0 ts B ml rt own nm R n0 Q) {x : Value} (hd : decode B pc = .ok (.pop, 1)) (hp : pc + 1 = pc') (hc : x.category = 1) (k : W K h cl sl pc' L (st)) : W K h cl sl pc L (x :: st) := by
  subst hp; exact W.step (fun T locs X e t q => XS.pop X.here O.1 rfl (hb O.2.1 hd) rfl hc q) k
theorem w_dupX1 (O : Ok K l Z a0 ts B ml rt own nm R n0 Q) {x y : Value} (hd : decode B pc = .ok (.dup_x1, 1)) (hp : pc + 1 = pc') (hc : x.category = 1) (hc2 : y.category = 1) (k : W K h cl sl pc' L (x :: y :: x :: st)) : W K h cl sl pc L (x :: y :: st) := by
  subst hp; exact W.step (fun T locs X e t q => XS.dupX1 X.here O.1 rfl (hb O.2.1 hd) rfl hc hc2 q) k
theorem w_goto (O : Ok K l Z a0 ts B ml rt own nm R n0 Q) {o : Int} (hd : decode B pc = .ok (.goto o, 3)) (ho : 0 ≤ (pc : Int) + o) (hp : ((pc : Int) + o).toNat = pc') (k : W K h cl sl pc' L st) : W K h cl sl pc L st := W.step (fun T locs X e t q => XS.goto X.here O.1 rfl rfl (hb O.2.1 hd) ho hp q) k
theorem w_icmp_eq (O : Ok K l Z a0 ts B ml rt own nm R n0 Q) {o : Int} {x y : Int32} {pt pn : Nat} (hd : decode B pc = .ok (.if_icmp .eq o, 3)) (hn : pc + 3 = pn) (ho : 0 ≤ (pc : Int) + o) (ht : ((pc : Int) + o).toNat = pt) (ky : x.toInt = y.toInt → W K h cl sl pt L st) (kn : ¬ x.toInt = y.toInt → W K h cl sl pn L st) : W K h cl sl pc L (.int y :: .int x :: st) := by
  by_cases q : x = y
  · exact W.step (fun T locs X e t z => XS.icmpYes X.here O.1 rfl rfl (hb O.2.1 hd) rfl (teq q).1 ho ht z) (ky (Int32.toInt_inj.mpr q))
  · exact W.step (fun T locs X e t z => XS.icmpNo X.here O.1 rfl (hb O.2.1 hd) rfl (feq q).1 (by rw [← hn] at z; exact z)) (kn fun w => q (Int32.toInt_inj.mp w))
theorem w_if_eq (O : Ok K l Z a0 ts B ml rt own nm R n0 Q) {o : Int} {x : Int32} {pt pn : Nat} (hd : decode B pc = .ok (.ifCond .eq o, 3)) (hn : pc + 3 = pn) (ho : 0 ≤ (pc : Int) + o) (ht : ((pc : Int) + o).toNat = pt) (ky : x.toInt = 0 → W K h cl sl pt L st) (kn : ¬ x.toInt = 0 → W K h cl sl pn L st) : W K h cl sl pc L (.int x :: st) := by
  have e0 : (0 : Int32).toInt = 0 := by decide
  by_cases q : x = 0
  · exact W.step (fun T locs X e t z => XS.ifYes X.here O.1 rfl rfl (hb O.2.1 hd) rfl ((if0 _ _).trans (teq q).1) ho ht z) (ky (by rw [← e0]; exact (Int32.toInt_inj.mpr q)))
  · exact W.step (fun T locs X e t z => XS.ifNo X.here O.1 rfl (hb O.2.1 hd) rfl ((if0 _ _).trans (feq q).1) (by rw [← hn] at z; exact z)) (kn fun w => q (by rw [← e0] at w; exact (Int32.toInt_inj.mp w)))
theorem lcb_eq {x y : Int64} : (lcmpW x y).toInt = 0 ↔ x.toInt = y.toInt := by
  have e0 : (0 : Int32).toInt = 0 := by decide
  rw [← e0]
  exact Int32.toInt_inj.trans ((lw_eq x y).trans Int64.toInt_inj.symm)
theorem w_lcmp_eq (O : Ok K l Z a0 ts B ml rt own nm R n0 Q) {o : Int} {x y : Int64} {pi pt pn : Nat} (hd : decode B pc = .ok (.lcmp, 1)) (hi : pc + 1 = pi) (hd2 : decode B pi = .ok (.ifCond .eq o, 3)) (hn : pi + 3 = pn) (ho : 0 ≤ (pi : Int) + o) (ht : ((pi : Int) + o).toNat = pt) (ky : x.toInt = y.toInt → W K h cl sl pt L st) (kn : ¬ x.toInt = y.toInt → W K h cl sl pn L st) : W K h cl sl pc L (.long y :: .long x :: st) := by
  subst hi
  exact W.step (fun T locs X e t q => XS.lcmp X.here O.1 rfl (hb O.2.1 hd) rfl q) (w_if_eq O hd2 hn ho ht (fun q => ky (lcb_eq.mp q)) (fun q => kn fun w => q (lcb_eq.mpr w)))
theorem w_icmp_ne (O : Ok K l Z a0 ts B ml rt own nm R n0 Q) {o : Int} {x y : Int32} {pt pn : Nat} (hd : decode B pc = .ok (.if_icmp .ne o, 3)) (hn : pc + 3 = pn) (ho : 0 ≤ (pc : Int) + o) (ht : ((pc : Int) + o).toNat = pt) (ky : ¬ x.toInt = y.toInt → W K h cl sl pt L st) (kn : x.toInt = y.toInt → W K h cl sl pn L st) : W K h cl sl pc L (.int y :: .int x :: st) := by
  by_cases q : x = y
  · exact W.step (fun T locs X e t z => XS.icmpNo X.here O.1 rfl (hb O.2.1 hd) rfl (teq q).2 (by rw [← hn] at z; exact z)) (kn (Int32.toInt_inj.mpr q))
  · exact W.step (fun T locs X e t z => XS.icmpYes X.here O.1 rfl rfl (hb O.2.1 hd) rfl (feq q).2 ho ht z) (ky fun w => q (Int32.toInt_inj.mp w))
theorem w_if_ne (O : Ok K l Z a0 ts B ml rt own nm R n0 Q) {o : Int} {x : Int32} {pt pn : Nat} (hd : decode B pc = .ok (.ifCond .ne o, 3)) (hn : pc + 3 = pn) (ho : 0 ≤ (pc : Int) + o) (ht : ((pc : Int) + o).toNat = pt) (ky : ¬ x.toInt = 0 → W K h cl sl pt L st) (kn : x.toInt = 0 → W K h cl sl pn L st) : W K h cl sl pc L (.int x :: st) := by
  have e0 : (0 : Int32).toInt = 0 := by decide
  by_cases q : x = 0
  · exact W.step (fun T locs X e t z => XS.ifNo X.here O.1 rfl (hb O.2.1 hd) rfl ((if0 _ _).trans (teq q).2) (by rw [← hn] at z; exact z)) (kn (by rw [← e0]; exact (Int32.toInt_inj.mpr q)))
  · exact W.step (fun T locs X e t z => XS.ifYes X.here O.1 rfl rfl (hb O.2.1 hd) rfl ((if0 _ _).trans (feq q).2) ho ht z) (ky fun w => q (by rw [← e0] at w; exact (Int32.toInt_inj.mp w)))
theorem lcb_ne {x y : Int64} : (lcmpW x y).toInt = 0 ↔ x.toInt = y.toInt := by
  have e0 : (0 : Int32).toInt = 0 := by decide
  rw [← e0]
  exact Int32.toInt_inj.trans ((lw_eq x y).trans Int64.toInt_inj.symm)
theorem w_lcmp_ne (O : Ok K l Z a0 ts B ml rt own nm R n0 Q) {o : Int} {x y : Int64} {pi pt pn : Nat} (hd : decode B pc = .ok (.lcmp, 1)) (hi : pc + 1 = pi) (hd2 : decode B pi = .ok (.ifCond .ne o, 3)) (hn : pi + 3 = pn) (ho : 0 ≤ (pi : Int) + o) (ht : ((pi : Int) + o).toNat = pt) (ky : ¬ x.toInt = y.toInt → W K h cl sl pt L st) (kn : x.toInt = y.toInt → W K h cl sl pn L st) : W K h cl sl pc L (.long y :: .long x :: st) := by
  subst hi
  exact W.step (fun T locs X e t q => XS.lcmp X.here O.1 rfl (hb O.2.1 hd) rfl q) (w_if_ne O hd2 hn ho ht (fun q => ky fun w => q (lcb_ne.mpr w)) (fun q => kn (lcb_ne.mp q)))
theorem w_icmp_lt (O : Ok K l Z a0 ts B ml rt own nm R n0 Q) {o : Int} {x y : Int32} {pt pn : Nat} (hd : decode B pc = .ok (.if_icmp .lt o, 3)) (hn : pc + 3 = pn) (ho : 0 ≤ (pc : Int) + o) (ht : ((pc : Int) + o).toNat = pt) (ky : x.toInt < y.toInt → W K h cl sl pt L st) (kn : ¬ x.toInt < y.toInt → W K h cl sl pn L st) : W K h cl sl pc L (.int y :: .int x :: st) := by
  by_cases q : x < y
  · exact W.step (fun T locs X e t z => XS.icmpYes X.here O.1 rfl rfl (hb O.2.1 hd) rfl (tlt q).1 ho ht z) (ky (Int32.lt_iff_toInt_lt.mp q))
  · exact W.step (fun T locs X e t z => XS.icmpNo X.here O.1 rfl (hb O.2.1 hd) rfl (flt q).1 (by rw [← hn] at z; exact z)) (kn fun w => q (Int32.lt_iff_toInt_lt.mpr w))
theorem w_if_lt (O : Ok K l Z a0 ts B ml rt own nm R n0 Q) {o : Int} {x : Int32} {pt pn : Nat} (hd : decode B pc = .ok (.ifCond .lt o, 3)) (hn : pc + 3 = pn) (ho : 0 ≤ (pc : Int) + o) (ht : ((pc : Int) + o).toNat = pt) (ky : x.toInt < 0 → W K h cl sl pt L st) (kn : ¬ x.toInt < 0 → W K h cl sl pn L st) : W K h cl sl pc L (.int x :: st) := by
  have e0 : (0 : Int32).toInt = 0 := by decide
  by_cases q : x < 0
  · exact W.step (fun T locs X e t z => XS.ifYes X.here O.1 rfl rfl (hb O.2.1 hd) rfl ((if0 _ _).trans (tlt q).1) ho ht z) (ky (by rw [← e0]; exact (Int32.lt_iff_toInt_lt.mp q)))
  · exact W.step (fun T locs X e t z => XS.ifNo X.here O.1 rfl (hb O.2.1 hd) rfl ((if0 _ _).trans (flt q).1) (by rw [← hn] at z; exact z)) (kn fun w => q (by rw [← e0] at w; exact (Int32.lt_iff_toInt_lt.mpr w)))
theorem lcb_lt {x y : Int64} : (lcmpW x y).toInt < 0 ↔ x.toInt < y.toInt := by
  have e0 : (0 : Int32).toInt = 0 := by decide
  rw [← e0]
  exact (Int32.lt_iff_toInt_lt.symm).trans ((lw_lt x y).trans Int64.lt_iff_toInt_lt)
theorem w_lcmp_lt (O : Ok K l Z a0 ts B ml rt own nm R n0 Q) {o : Int} {x y : Int64} {pi pt pn : Nat} (hd : decode B pc = .ok (.lcmp, 1)) (hi : pc + 1 = pi) (hd2 : decode B pi = .ok (.ifCond .lt o, 3)) (hn : pi + 3 = pn) (ho : 0 ≤ (pi : Int) + o) (ht : ((pi : Int) + o).toNat = pt) (ky : x.toInt < y.toInt → W K h cl sl pt L st) (kn : ¬ x.toInt < y.toInt → W K h cl sl pn L st) : W K h cl sl pc L (.long y :: .long x :: st) := by
  subst hi
  exact W.step (fun T locs X e t q => XS.lcmp X.here O.1 rfl (hb O.2.1 hd) rfl q) (w_if_lt O hd2 hn ho ht (fun q => ky (lcb_lt.mp q)) (fun q => kn fun w => q (lcb_lt.mpr w)))
theorem w_icmp_ge (O : Ok K l Z a0 ts B ml rt own nm R n0 Q) {o : Int} {x y : Int32} {pt pn : Nat} (hd : decode B pc = .ok (.if_icmp .ge o, 3)) (hn : pc + 3 = pn) (ho : 0 ≤ (pc : Int) + o) (ht : ((pc : Int) + o).toNat = pt) (ky : ¬ x.toInt < y.toInt → W K h cl sl pt L st) (kn : x.toInt < y.toInt → W K h cl sl pn L st) : W K h cl sl pc L (.int y :: .int x :: st) := by
  by_cases q : x < y
  · exact W.step (fun T locs X e t z => XS.icmpNo X.here O.1 rfl (hb O.2.1 hd) rfl (tlt q).2.1 (by rw [← hn] at z; exact z)) (kn (Int32.lt_iff_toInt_lt.mp q))
  · exact W.step (fun T locs X e t z => XS.icmpYes X.here O.1 rfl rfl (hb O.2.1 hd) rfl (flt q).2.1 ho ht z) (ky fun w => q (Int32.lt_iff_toInt_lt.mpr w))
theorem w_if_ge (O : Ok K l Z a0 ts B ml rt own nm R n0 Q) {o : Int} {x : Int32} {pt pn : Nat} (hd : decode B pc = .ok (.ifCond .ge o, 3)) (hn : pc + 3 = pn) (ho : 0 ≤ (pc : Int) + o) (ht : ((pc : Int) + o).toNat = pt) (ky : ¬ x.toInt < 0 → W K h cl sl pt L st) (kn : x.toInt < 0 → W K h cl sl pn L st) : W K h cl sl pc L (.int x :: st) := by
  have e0 : (0 : Int32).toInt = 0 := by decide
  by_cases q : x < 0
  · exact W.step (fun T locs X e t z => XS.ifNo X.here O.1 rfl (hb O.2.1 hd) rfl ((if0 _ _).trans (tlt q).2.1) (by rw [← hn] at z; exact z)) (kn (by rw [← e0]; exact (Int32.lt_iff_toInt_lt.mp q)))
  · exact W.step (fun T locs X e t z => XS.ifYes X.here O.1 rfl rfl (hb O.2.1 hd) rfl ((if0 _ _).trans (flt q).2.1) ho ht z) (ky fun w => q (by rw [← e0] at w; exact (Int32.lt_iff_toInt_lt.mpr w)))
theorem lcb_ge {x y : Int64} : (lcmpW x y).toInt < 0 ↔ x.toInt < y.toInt := by
  have e0 : (0 : Int32).toInt = 0 := by decide
  rw [← e0]
  exact (Int32.lt_iff_toInt_lt.symm).trans ((lw_lt x y).trans Int64.lt_iff_toInt_lt)
theorem w_lcmp_ge (O : Ok K l Z a0 ts B ml rt own nm R n0 Q) {o : Int} {x y : Int64} {pi pt pn : Nat} (hd : decode B pc = .ok (.lcmp, 1)) (hi : pc + 1 = pi) (hd2 : decode B pi = .ok (.ifCond .ge o, 3)) (hn : pi + 3 = pn) (ho : 0 ≤ (pi : Int) + o) (ht : ((pi : Int) + o).toNat = pt) (ky : ¬ x.toInt < y.toInt → W K h cl sl pt L st) (kn : x.toInt < y.toInt → W K h cl sl pn L st) : W K h cl sl pc L (.long y :: .long x :: st) := by
  subst hi
  exact W.step (fun T locs X e t q => XS.lcmp X.here O.1 rfl (hb O.2.1 hd) rfl q) (w_if_ge O hd2 hn ho ht (fun q => ky fun w => q (lcb_ge.mpr w)) (fun q => kn (lcb_ge.mp q)))
theorem w_icmp_gt (O : Ok K l Z a0 ts B ml rt own nm R n0 Q) {o : Int} {x y : Int32} {pt pn : Nat} (hd : decode B pc = .ok (.if_icmp .gt o, 3)) (hn : pc + 3 = pn) (ho : 0 ≤ (pc : Int) + o) (ht : ((pc : Int) + o).toNat = pt) (ky : y.toInt < x.toInt → W K h cl sl pt L st) (kn : ¬ y.toInt < x.toInt → W K h cl sl pn L st) : W K h cl sl pc L (.int y :: .int x :: st) := by
  by_cases q : y < x
  · exact W.step (fun T locs X e t z => XS.icmpYes X.here O.1 rfl rfl (hb O.2.1 hd) rfl (tlt q).2.2.1 ho ht z) (ky (Int32.lt_iff_toInt_lt.mp q))
  · exact W.step (fun T locs X e t z => XS.icmpNo X.here O.1 rfl (hb O.2.1 hd) rfl (flt q).2.2.1 (by rw [← hn] at z; exact z)) (kn fun w => q (Int32.lt_iff_toInt_lt.mpr w))
theorem w_if_gt (O : Ok K l Z a0 ts B ml rt own nm R n0 Q) {o : Int} {x : Int32} {pt pn : Nat} (hd : decode B pc = .ok (.ifCond .gt o, 3)) (hn : pc + 3 = pn) (ho : 0 ≤ (pc : Int) + o) (ht : ((pc : Int) + o).toNat = pt) (ky : 0 < x.toInt → W K h cl sl pt L st) (kn : ¬ 0 < x.toInt → W K h cl sl pn L st) : W K h cl sl pc L (.int x :: st) := by
  have e0 : (0 : Int32).toInt = 0 := by decide
  by_cases q : 0 < x
  · exact W.step (fun T locs X e t z => XS.ifYes X.here O.1 rfl rfl (hb O.2.1 hd) rfl ((if0 _ _).trans (tlt q).2.2.1) ho ht z) (ky (by rw [← e0]; exact (Int32.lt_iff_toInt_lt.mp q)))
  · exact W.step (fun T locs X e t z => XS.ifNo X.here O.1 rfl (hb O.2.1 hd) rfl ((if0 _ _).trans (flt q).2.2.1) (by rw [← hn] at z; exact z)) (kn fun w => q (by rw [← e0] at w; exact (Int32.lt_iff_toInt_lt.mpr w)))
theorem lcb_gt {x y : Int64} : 0 < (lcmpW x y).toInt ↔ y.toInt < x.toInt := by
  have e0 : (0 : Int32).toInt = 0 := by decide
  rw [← e0]
  exact (Int32.lt_iff_toInt_lt.symm).trans ((lw_gt x y).trans Int64.lt_iff_toInt_lt)
theorem w_lcmp_gt (O : Ok K l Z a0 ts B ml rt own nm R n0 Q) {o : Int} {x y : Int64} {pi pt pn : Nat} (hd : decode B pc = .ok (.lcmp, 1)) (hi : pc + 1 = pi) (hd2 : decode B pi = .ok (.ifCond .gt o, 3)) (hn : pi + 3 = pn) (ho : 0 ≤ (pi : Int) + o) (ht : ((pi : Int) + o).toNat = pt) (ky : y.toInt < x.toInt → W K h cl sl pt L st) (kn : ¬ y.toInt < x.toInt → W K h cl sl pn L st) : W K h cl sl pc L (.long y :: .long x :: st) := by
  subst hi
  exact W.step (fun T locs X e t q => XS.lcmp X.here O.1 rfl (hb O.2.1 hd) rfl q) (w_if_gt O hd2 hn ho ht (fun q => ky (lcb_gt.mp q)) (fun q => kn fun w => q (lcb_gt.mpr w)))
theorem w_icmp_le (O : Ok K l Z a0 ts B ml rt own nm R n0 Q) {o : Int} {x y : Int32} {pt pn : Nat} (hd : decode B pc = .ok (.if_icmp .le o, 3)) (hn : pc + 3 = pn) (ho : 0 ≤ (pc : Int) + o) (ht : ((pc : Int) + o).toNat = pt) (ky : ¬ y.toInt < x.toInt → W K h cl sl pt L st) (kn : y.toInt < x.toInt → W K h cl sl pn L st) : W K h cl sl pc L (.int y :: .int x :: st) := by
  by_cases q : y < x
  · exact W.step (fun T locs X e t z => XS.icmpNo X.here O.1 rfl (hb O.2.1 hd) rfl (tlt q).2.2.2 (by rw [← hn] at z; exact z)) (kn (Int32.lt_iff_toInt_lt.mp q))
  · exact W.step (fun T locs X e t z => XS.icmpYes X.here O.1 rfl rfl (hb O.2.1 hd) rfl (flt q).2.2.2 ho ht z) (ky fun w => q (Int32.lt_iff_toInt_lt.mpr w))
theorem w_if_le (O : Ok K l Z a0 ts B ml rt own nm R n0 Q) {o : Int} {x : Int32} {pt pn : Nat} (hd : decode B pc = .ok (.ifCond .le o, 3)) (hn : pc + 3 = pn) (ho : 0 ≤ (pc : Int) + o) (ht : ((pc : Int) + o).toNat = pt) (ky : ¬ 0 < x.toInt → W K h cl sl pt L st) (kn : 0 < x.toInt → W K h cl sl pn L st) : W K h cl sl pc L (.int x :: st) := by
  have e0 : (0 : Int32).toInt = 0 := by decide
  by_cases q : 0 < x
  · exact W.step (fun T locs X e t z => XS.ifNo X.here O.1 rfl (hb O.2.1 hd) rfl ((if0 _ _).trans (tlt q).2.2.2) (by rw [← hn] at z; exact z)) (kn (by rw [← e0]; exact (Int32.lt_iff_toInt_lt.mp q)))
  · exact W.step (fun T locs X e t z => XS.ifYes X.here O.1 rfl rfl (hb O.2.1 hd) rfl ((if0 _ _).trans (flt q).2.2.2) ho ht z) (ky fun w => q (by rw [← e0] at w; exact (Int32.lt_iff_toInt_lt.mpr w)))
theorem lcb_le {x y : Int64} : 0 < (lcmpW x y).toInt ↔ y.toInt < x.toInt := by
  have e0 : (0 : Int32).toInt = 0 := by decide
  rw [← e0]
  exact (Int32.lt_iff_toInt_lt.symm).trans ((lw_gt x y).trans Int64.lt_iff_toInt_lt)
theorem w_lcmp_le (O : Ok K l Z a0 ts B ml rt own nm R n0 Q) {o : Int} {x y : Int64} {pi pt pn : Nat} (hd : decode B pc = .ok (.lcmp, 1)) (hi : pc + 1 = pi) (hd2 : decode B pi = .ok (.ifCond .le o, 3)) (hn : pi + 3 = pn) (ho : 0 ≤ (pi : Int) + o) (ht : ((pi : Int) + o).toNat = pt) (ky : ¬ y.toInt < x.toInt → W K h cl sl pt L st) (kn : y.toInt < x.toInt → W K h cl sl pn L st) : W K h cl sl pc L (.long y :: .long x :: st) := by
  subst hi
  exact W.step (fun T locs X e t q => XS.lcmp X.here O.1 rfl (hb O.2.1 hd) rfl q) (w_if_le O hd2 hn ho ht (fun q => ky fun w => q (lcb_le.mpr w)) (fun q => kn (lcb_le.mp q)))
theorem w_ifnullY (O : Ok K l Z a0 ts B ml rt own nm R n0 Q) {o : Int} (hd : decode B pc = .ok (.ifnull o, 3)) (ho : 0 ≤ (pc : Int) + o) (ht : ((pc : Int) + o).toNat = pc') (k : W K h cl sl pc' L st) : W K h cl sl pc L (.null :: st) := W.step (fun T locs X e t q => XS.ifnullYes X.here O.1 rfl rfl (hb O.2.1 hd) rfl ho ht q) k
theorem w_ifnullN (O : Ok K l Z a0 ts B ml rt own nm R n0 Q) {o : Int} {b : Addr} (hd : decode B pc = .ok (.ifnull o, 3)) (hp : pc + 3 = pc') (k : W K h cl sl pc' L st) : W K h cl sl pc L (.ref b :: st) := by
  subst hp; exact W.step (fun T locs X e t q => XS.ifnullNo X.here O.1 rfl (hb O.2.1 hd) rfl q) k
theorem w_ifnonnullY (O : Ok K l Z a0 ts B ml rt own nm R n0 Q) {o : Int} {b : Addr} (hd : decode B pc = .ok (.ifnonnull o, 3)) (ho : 0 ≤ (pc : Int) + o) (ht : ((pc : Int) + o).toNat = pc') (k : W K h cl sl pc' L st) : W K h cl sl pc L (.ref b :: st) := W.step (fun T locs X e t q => XS.ifnonnullYes X.here O.1 rfl rfl (hb O.2.1 hd) rfl ho ht q) k
theorem w_ifnonnullN (O : Ok K l Z a0 ts B ml rt own nm R n0 Q) {o : Int} (hd : decode B pc = .ok (.ifnonnull o, 3)) (hp : pc + 3 = pc') (k : W K h cl sl pc' L st) : W K h cl sl pc L (.null :: st) := by
  subst hp; exact W.step (fun T locs X e t q => XS.ifnonnullNo X.here O.1 rfl (hb O.2.1 hd) rfl q) k
theorem w_acmp_eq (O : Ok K l Z a0 ts B ml rt own nm R n0 Q) {o : Int} {x y : Value} {pt pn : Nat} (hd : decode B pc = .ok (.if_acmp .eq o, 3)) (hx' : x.isRef = true) (hy' : y.isRef = true) (hn : pc + 3 = pn) (ho : 0 ≤ (pc : Int) + o) (ht : ((pc : Int) + o).toNat = pt) (ky : x = y → W K h cl sl pt L st) (kn : ¬ x = y → W K h cl sl pn L st) : W K h cl sl pc L (y :: x :: st) := by
  by_cases q : x = y
  · exact W.step (fun T locs X e t z => Jvm.RoadKit.acmp (g := mkF K.2.1.2.1 pc L (y :: x :: st)) X O.1 rfl hx' hy' (pc0 := pc) (pc' := pt) (same := true) rfl (hb O.2.1 hd) rfl (decide_eq_true q) ho (by simp [acV, ht, hn]) z) (ky q)
  · exact W.step (fun T locs X e t z => Jvm.RoadKit.acmp (g := mkF K.2.1.2.1 pc L (y :: x :: st)) X O.1 rfl hx' hy' (pc0 := pc) (pc' := pn) (same := false) rfl (hb O.2.1 hd) rfl (decide_eq_false q) ho (by simp [acV, ht, hn]) z) (kn q)
theorem w_acmp_ne (O : Ok K l Z a0 ts B ml rt own nm R n0 Q) {o : Int} {x y : Value} {pt pn : Nat} (hd : decode B pc = .ok (.if_acmp .ne o, 3)) (hx' : x.isRef = true) (hy' : y.isRef = true) (hn : pc + 3 = pn) (ho : 0 ≤ (pc : Int) + o) (ht : ((pc : Int) + o).toNat = pt) (ky : ¬ x = y → W K h cl sl pt L st) (kn : x = y → W K h cl sl pn L st) : W K h cl sl pc L (y :: x :: st) := by
  by_cases q : x = y
  · exact W.step (fun T locs X e t z => Jvm.RoadKit.acmp (g := mkF K.2.1.2.1 pc L (y :: x :: st)) X O.1 rfl hx' hy' (pc0 := pc) (pc' := pn) (same := true) rfl (hb O.2.1 hd) rfl (decide_eq_true q) ho (by simp [acV, ht, hn]) z) (kn q)
  · exact W.step (fun T locs X e t z => Jvm.RoadKit.acmp (g := mkF K.2.1.2.1 pc L (y :: x :: st)) X O.1 rfl hx' hy' (pc0 := pc) (pc' := pt) (same := false) rfl (hb O.2.1 hd) rfl (decide_eq_false q) ho (by simp [acV, ht, hn]) z) (ky q)
theorem w_getf (O : Ok K l Z a0 ts B ml rt own nm R n0 Q) {i : Nat} {C f d : String} {a : Addr} {v : Value} (hd : decode B pc = .ok (.getfield i, 3)) (hp : pc + 3 = pc') (w : Jvm.Cond.fieldLink own i C f d ∈ ts) (F : Fld Z h a C f d v) (k : W K h cl sl pc' L (v :: st)) : W K h cl sl pc L (.ref a :: st) := by
  subst hp
  exact W.stepT (fun T locs X e => getF X O.1 O.2.2.2.2.2.2.2.1 O.2.2.2.1 (host := "") (Or.inl (O.2.2.2.2.2.2.2.2.1 _ w)) Via.refl e F (g := mkF K.2.1.2.1 pc L (.ref a :: st)) rfl rfl (hb O.2.1 hd)) k
theorem w_gets (O : Ok K l Z a0 ts B ml rt own nm R n0 Q) {i : Nat} {C f d : String} {v : Value} (hd : decode B pc = .ok (.getstatic i, 3)) (hp : pc + 3 = pc') (w : Jvm.Cond.fieldLink own i C f d ∈ ts) (F : Sta Z h C f d v) (k : W K h cl sl pc' L (v :: st)) : W K h cl sl pc L st := by
  subst hp
  exact W.stepT (fun T locs X e => getS2 X O.1 O.2.2.2.2.2.2.2.1 O.2.2.2.1 (host := "") (Or.inl (O.2.2.2.2.2.2.2.2.1 _ w)) Via.refl e F (g := mkF K.2.1.2.1 pc L st) rfl (hb O.2.1 hd)) k
theorem w_putf (O : Ok K l Z a0 ts B ml rt own nm R n0 Q) {i kk : Nat} {C f d : String} {a : Addr} {v old : Value} {ty : FieldType} (hd : decode B pc = .ok (.putfield i, 3)) (hp : pc + 3 = pc') (w : Jvm.Cond.fieldLink own i C f d ∈ ts) (wi : Jvm.Cond.instantiable C kk ∈ ts) (Ly : Jvm.Cond.lays C C f d ∈ ts ∨ (Jvm.Cond.laysFinal C C f d ∈ ts ∧ own = C ∧ nm = "<init>")) (F : Fld Z h a C f d old) (E : Exa Z h a C) (ha : n0 ≤ a) (hty : parseFieldDescriptor d = some ty) (hn : narrow ty v = v) (hf : fits ty v = true)
    (k : ∀ h', Wr h h' a (Jvm.RoadKit.slotOf Z C f d) v → W K h' cl sl pc' L st) : W K h cl sl pc L (v :: .ref a :: st) := by
  subst hp
  have hw := O.2.2.2.2.2.2.2.2.1
  exact W.stepW (fun T locs X e => putF X O.1 O.2.2.2.2.2.2.2.1 O.2.2.2.1 (host := "") (Or.inl (hw _ w)) Via.refl e F E (Ly.imp (fun q => hw _ q) fun q => ⟨hw _ q.1, q.2.1, O.2.2.2.2.1.trans q.2.2⟩) (hw _ wi) hty hn hf (g := mkF K.2.1.2.1 pc L (v :: .ref a :: st)) rfl rfl (hb O.2.1 hd)) (by rw [O.2.2.2.2.2.2.2.2.2.2.2.2.1]; exact ha) k
theorem w_new (O : Ok K l Z a0 ts B ml rt own nm R n0 Q) {i n cl' sl' : Nat} {C : String} (hd : decode B pc = .ok (.new i, 3)) (hp : pc + 3 = pc') (w1 : Jvm.Cond.classLink own i C ∈ ts) (w2 : Jvm.Cond.instantiable C n ∈ ts) (w3 : Jvm.Cond.initialized C ∈ ts) (hc : cl + 1 = cl') (hs : sl + n = sl') (hc' : cl' ≤ R.cells) (hs' : sl' ≤ R.slots)
    (k : ∀ h' b, b = h.size → n0 ≤ b → Ext h h' → Exa Z h' b C → (∀ {Ow nf d : String} {ty : FieldType}, Laid Z a0 C Ow nf d → parseFieldDescriptor d = some ty → Fld Z h' b Ow nf d (defaultValue ty)) → W K h' cl' sl' pc' L (.ref b :: st)) : W K h cl sl pc L st := by
  obtain ⟨⟨p, l', e', R'⟩, ⟨s, m, args, below⟩, ⟨meth, c⟩, Q', n0'⟩ := K
  obtain ⟨hx, hby, hml, hown, hnm, hrt, hlk, hZ, hw, hn0, hl', hR', hn', hQ'⟩ := O
  dsimp only at hx hby hml hown hnm hrt hlk hZ hn0 hl' hR' hn' hQ'
  subst hl' hR' hn' hQ'
  subst hp hc hs
  intro T locs X eT N
  obtain ⟨T2, h2, X2, e2, E2, A2, D2, -, st2⟩ := newO X hx hZ hown (hw _ w1) (hw _ w2) (hw _ w3) eT (g := mkF m pc L st) rfl (hb hby hd) hc' hs'
  obtain ⟨s2, o, h1, r⟩ := k h2 h.size rfl (Nat.le_trans hn0 (by rw [← eT]; exact X.same.2.1)) E2 A2 D2 T2 _ X2 e2 N
  exact ⟨s2, o, st2 _ h1, r⟩
theorem w_objinit (O : Ok K l Z a0 ts B ml rt own nm R n0 Q) {i wt : Nat} {a : Addr} (hd : decode B pc = .ok (.invokespecial i, 3)) (hp : pc + 3 = pc') (w1 : Jvm.Cond.methodLink own i Lib.objectInit ∈ ts) (w2 : Jvm.Cond.instanceMethod Lib.objectInit ∈ ts) (w3 : Jvm.Cond.code Lib.objectInit ⟨#[0xb1]⟩ 1 none ∈ ts) (hsz : L.size = ml) (hwt : (st.map fun v => v.category).sum = wt) (hf : 1 ≤ R.frames) (hl : wt + 12 ≤ R.locals) (k : W K h cl sl pc' L st) : W K h cl sl pc L (.ref a :: st) := by
  obtain ⟨⟨p, l', e', R'⟩, ⟨s, m, args, below⟩, ⟨meth, c⟩, Q', n0'⟩ := K
  obtain ⟨hx, hby, hml, hown, hnm, hrt, hlk, hZ, hw, hn0, hl', hR', hn', hQ'⟩ := O
  dsimp only at hx hby hml hown hnm hrt hlk hZ hn0 hl' hR' hn' hQ'
  subst hl' hR' hn' hQ'
  subst hp hml
  exact W.stepT (fun T locs X e => initO X hx hZ hown (hw _ w1) (hw _ w2) (hw _ w3) e (g := mkF m pc L (.ref a :: st)) rfl hsz rfl (hb hby hd) hf (W := wt) (by show 2 * 0 + _ ≤ _; omega) hl) k
/-- an array of n places, the i-th holds f i -/
def Afn (Z : State) (h : Heap) (a : Addr) (ty : FieldType) (n : Nat) (f : Nat → Value) : Prop := ∃ c : Cell, Arr Z h a c ty ∧ c.slots.size = n ∧ n < 2147483648 ∧ ∀ i, i < n → c.slots[i]? = some (f i)
def upd (f : Nat → Value) (i : Nat) (v : Value) : Nat → Value := fun j => if j = i then v else f j
theorem Afn.lt {a : Addr} {ty : FieldType} {n : Nat} {f : Nat → Value} (A : Afn Z h a ty n f) : a < h.size := by obtain ⟨c, A, -⟩ := A; exact A.lt
theorem Afn.bound {a : Addr} {ty : FieldType} {n : Nat} {f : Nat → Value} (A : Afn Z h a ty n f) : n < 2147483648 := by obtain ⟨c, -, -, q, -⟩ := A; exact q
theorem upd_same (f : Nat → Value) (i : Nat) (v : Value) : upd f i v i = v := if_pos rfl
theorem upd_ne (f : Nat → Value) {i j : Nat} (v : Value) (q : ¬ j = i) : upd f i v j = f j := if_neg q
theorem Afn.ext {h' : Heap} {a : Addr} {ty : FieldType} {n : Nat} {f : Nat → Value} (A : Afn Z h a ty n f) (E : Ext h h') : Afn Z h' a ty n f := by obtain ⟨c, A, r⟩ := A; exact ⟨c, A.ext E, r⟩
theorem Afn.other {h' : Heap} {a b : Addr} {i : Nat} {v : Value} {ty : FieldType} {n : Nat} {f : Nat → Value} (A : Afn Z h b ty n f) (Wq : Wr h h' a i v) (q : b ≠ a) : Afn Z h' b ty n f := by obtain ⟨c, A, r⟩ := A; exact ⟨c, A.other Wq q, r⟩
theorem Afn.keep {h' : Heap} {a : Addr} {ws : List Addr} {ty : FieldType} {n : Nat} {f : Nat → Value} (A : Afn Z h a ty n f) (Kp : Keep h h' ws) (q : a ∉ ws) : Afn Z h' a ty n f := by obtain ⟨c, A, r⟩ := A; exact ⟨c, ⟨Kp.2.1 a c A.1 q, A.2⟩, r⟩
theorem Afn.congr {a : Addr} {ty : FieldType} {n : Nat} {f g : Nat → Value} (A : Afn Z h a ty n f) (q : ∀ i, i < n → f i = g i) : Afn Z h a ty n g := by obtain ⟨c, A, h1, h2, h3⟩ := A; exact ⟨c, A, h1, h2, fun i hi => by rw [← q i hi]; exact h3 i hi⟩
theorem Afn.set {h' : Heap} {a : Addr} {i : Nat} {v : Value} {ty : FieldType} {n : Nat} {f : Nat → Value} (A : Afn Z h a ty n f) (Wq : Wr h h' a i v) : Afn Z h' a ty n (upd f i v) := by
  obtain ⟨c, A, h1, h2, h3⟩ := A
  refine ⟨_, A.same Wq, by simp [Cell.setSlot, h1], h2, fun j hj => ?_⟩
  by_cases q : j = i
  · subst q
    simp [Cell.setSlot, upd, h1, hj]
  · simp only [upd, if_neg q]
    show (c.slots.setIfInBounds i v)[j]? = _
    rw [Array.getElem?_setIfInBounds_ne (fun z => q z.symm)]; exact h3 j hj
theorem tnc {j : Int32} {i : Nat} (hj : j.toInt = (i : Int)) : j.toNatClampNeg = i ∧ ¬ j < 0 := by
  have e0 : (0 : Int32).toInt = 0 := by decide
  have q : ¬ j < 0 := by rw [Int32.lt_iff_toInt_lt, e0]; omega
  have := nat_of q
  exact ⟨by omega, q⟩
theorem idxOk {c : Cell} {n : Nat} {j : Int32} {i : Nat} (hs : c.slots.size = n) (hj : j.toInt = (i : Int)) (hi : i < n) : ¬ (j < 0 ∨ c.slots.size ≤ j.toNatClampNeg) := by
  obtain ⟨q1, q2⟩ := tnc hj
  rintro (z | z)
  · exact q2 z
  · omega

theorem w_iaload (O : Ok K l Z a0 ts B ml rt own nm R n0 Q) {a : Addr} {n i : Nat} {f : Nat → Value} {j : Int32} {x : Int32} (hd : decode B pc = .ok (.iaload, 1)) (hp : pc + 1 = pc') (A : Afn Z h a .int n f) (hj : j.toInt = (i : Int)) (hi : i < n) (hv : f i = .int x) (k : W K h cl sl pc' L (.int x :: st)) : W K h cl sl pc L (.int j :: .ref a :: st) := by
  subst hp
  obtain ⟨c, A, h1, h2, h3⟩ := A
  refine W.step (fun T locs X e t q => X.iaload O.1 (j := j) (v := .int x) (by rw [e]; exact A.1) (State.isArrayOf_alike O.2.2.2.2.2.2.2.1.alike A.2.1) A.2.2 (idxOk h1 hj hi) (by rw [(tnc hj).1, h3 i hi, hv]) (g := mkF K.2.1.2.1 pc L (.int j :: .ref a :: st)) rfl rfl (hb O.2.1 hd) _ q) k
theorem w_laload (O : Ok K l Z a0 ts B ml rt own nm R n0 Q) {a : Addr} {n i : Nat} {f : Nat → Value} {j : Int32} {x : Int64} (hd : decode B pc = .ok (.laload, 1)) (hp : pc + 1 = pc') (A : Afn Z h a .long n f) (hj : j.toInt = (i : Int)) (hi : i < n) (hv : f i = .long x) (k : W K h cl sl pc' L (.long x :: st)) : W K h cl sl pc L (.int j :: .ref a :: st) := by
  subst hp
  obtain ⟨c, A, h1, h2, h3⟩ := A
  refine W.step (fun T locs X e t q => X.laload O.1 (j := j) (v := .long x) (by rw [e]; exact A.1) (State.isArrayOf_alike O.2.2.2.2.2.2.2.1.alike A.2.1) A.2.2 (idxOk h1 hj hi) (by rw [(tnc hj).1, h3 i hi, hv]) (g := mkF K.2.1.2.1 pc L (.int j :: .ref a :: st)) rfl rfl (hb O.2.1 hd) _ q) k
theorem w_baload (O : Ok K l Z a0 ts B ml rt own nm R n0 Q) {a : Addr} {n i : Nat} {f : Nat → Value} {j : Int32} {x : Int32} (hd : decode B pc = .ok (.baload, 1)) (hp : pc + 1 = pc') (A : Afn Z h a .byte n f) (hj : j.toInt = (i : Int)) (hi : i < n) (hv : f i = .int x) (k : W K h cl sl pc' L (.int x :: st)) : W K h cl sl pc L (.int j :: .ref a :: st) := by
  subst hp
  obtain ⟨c, A, h1, h2, h3⟩ := A
  refine W.step (fun T locs X e t q => X.baloadBytes O.1 (j := j) (v := .int x) (by rw [e]; exact A.1) (State.isArrayOf_alike O.2.2.2.2.2.2.2.1.alike A.2.1) A.2.2 (idxOk h1 hj hi) (by rw [(tnc hj).1, h3 i hi, hv]) (g := mkF K.2.1.2.1 pc L (.int j :: .ref a :: st)) rfl rfl (hb O.2.1 hd) _ q) k
theorem w_caload (O : Ok K l Z a0 ts B ml rt own nm R n0 Q) {a : Addr} {n i : Nat} {f : Nat → Value} {j : Int32} {x : Int32} (hd : decode B pc = .ok (.caload, 1)) (hp : pc + 1 = pc') (A : Afn Z h a .char n f) (hj : j.toInt = (i : Int)) (hi : i < n) (hv : f i = .int x) (k : W K h cl sl pc' L (.int x :: st)) : W K h cl sl pc L (.int j :: .ref a :: st) := by
  subst hp
  obtain ⟨c, A, h1, h2, h3⟩ := A
  refine W.step (fun T locs X e t q => X.caload O.1 (j := j) (v := .int x) (by rw [e]; exact A.1) (State.isArrayOf_alike O.2.2.2.2.2.2.2.1.alike A.2.1) A.2.2 (idxOk h1 hj hi) (by rw [(tnc hj).1, h3 i hi, hv]) (g := mkF K.2.1.2.1 pc L (.int j :: .ref a :: st)) rfl rfl (hb O.2.1 hd) _ q) k
theorem w_aaload (O : Ok K l Z a0 ts B ml rt own nm R n0 Q) {a : Addr} {n i : Nat} {f : Nat → Value} {j : Int32} {x : Value} {ty : FieldType} (hd : decode B pc = .ok (.aaload, 1)) (hp : pc + 1 = pc') (A : Afn Z h a ty n f) (hty : ty.isReference = true) (hj : j.toInt = (i : Int)) (hi : i < n) (hv : f i = x) (k : W K h cl sl pc' L (x :: st)) : W K h cl sl pc L (.int j :: .ref a :: st) := by
  subst hp
  obtain ⟨c, A, h1, h2, h3⟩ := A
  refine W.step (fun T locs X e t q => X.aaload O.1 (j := j) (v := x) (by rw [e]; exact A.1) (State.isArrayOf_alike O.2.2.2.2.2.2.2.1.alike A.2.1) hty A.2.2 (idxOk h1 hj hi) (by rw [(tnc hj).1, h3 i hi, hv]) (g := mkF K.2.1.2.1 pc L (.int j :: .ref a :: st)) rfl rfl (hb O.2.1 hd) _ q) k
theorem w_iastore (O : Ok K l Z a0 ts B ml rt own nm R n0 Q) {a : Addr} {n i : Nat} {f : Nat → Value} {j : Int32} {x : Int32} (hd : decode B pc = .ok (.iastore, 1)) (hp : pc + 1 = pc') (A : Afn Z h a .int n f) (hj : j.toInt = (i : Int)) (hi : i < n) (ha : n0 ≤ a) (k : ∀ h', Wr h h' a i (.int x) → W K h' cl sl pc' L st) : W K h cl sl pc L (.int x :: .int j :: .ref a :: st) := by
  subst hp
  obtain ⟨c, A, h1, h2, h3⟩ := A
  rw [← (tnc hj).1] at k
  exact W.stepW (fun T locs X e => stI X O.1 O.2.2.2.2.2.2.2.1 e A (j := j) (idxOk h1 hj hi) (g := mkF K.2.1.2.1 pc L (.int x :: .int j :: .ref a :: st)) rfl rfl (hb O.2.1 hd)) (by rw [O.2.2.2.2.2.2.2.2.2.2.2.2.1]; exact ha) k
theorem w_lastore (O : Ok K l Z a0 ts B ml rt own nm R n0 Q) {a : Addr} {n i : Nat} {f : Nat → Value} {j : Int32} {x : Int64} (hd : decode B pc = .ok (.lastore, 1)) (hp : pc + 1 = pc') (A : Afn Z h a .long n f) (hj : j.toInt = (i : Int)) (hi : i < n) (ha : n0 ≤ a) (k : ∀ h', Wr h h' a i (.long x) → W K h' cl sl pc' L st) : W K h cl sl pc L (.long x :: .int j :: .ref a :: st) := by
  subst hp
  obtain ⟨c, A, h1, h2, h3⟩ := A
  rw [← (tnc hj).1] at k
  exact W.stepW (fun T locs X e => stJ X O.1 O.2.2.2.2.2.2.2.1 e A (j := j) (idxOk h1 hj hi) (g := mkF K.2.1.2.1 pc L (.long x :: .int j :: .ref a :: st)) rfl rfl (hb O.2.1 hd)) (by rw [O.2.2.2.2.2.2.2.2.2.2.2.2.1]; exact ha) k
theorem w_bastore (O : Ok K l Z a0 ts B ml rt own nm R n0 Q) {a : Addr} {n i : Nat} {f : Nat → Value} {j : Int32} {x : Int32} (hd : decode B pc = .ok (.bastore, 1)) (hp : pc + 1 = pc') (A : Afn Z h a .byte n f) (hj : j.toInt = (i : Int)) (hi : i < n) (ha : n0 ≤ a) (k : ∀ h', Wr h h' a i (.int (nar .byte x)) → W K h' cl sl pc' L st) : W K h cl sl pc L (.int x :: .int j :: .ref a :: st) := by
  subst hp
  obtain ⟨c, A, h1, h2, h3⟩ := A
  rw [← (tnc hj).1] at k
  exact W.stepW (fun T locs X e => stB X O.1 O.2.2.2.2.2.2.2.1 e A (j := j) (idxOk h1 hj hi) (g := mkF K.2.1.2.1 pc L (.int x :: .int j :: .ref a :: st)) rfl rfl (hb O.2.1 hd)) (by rw [O.2.2.2.2.2.2.2.2.2.2.2.2.1]; exact ha) k
theorem w_castore (O : Ok K l Z a0 ts B ml rt own nm R n0 Q) {a : Addr} {n i : Nat} {f : Nat → Value} {j : Int32} {x : Int32} (hd : decode B pc = .ok (.castore, 1)) (hp : pc + 1 = pc') (A : Afn Z h a .char n f) (hj : j.toInt = (i : Int)) (hi : i < n) (ha : n0 ≤ a) (k : ∀ h', Wr h h' a i (.int (nar .char x)) → W K h' cl sl pc' L st) : W K h cl sl pc L (.int x :: .int j :: .ref a :: st) := by
  subst hp
  obtain ⟨c, A, h1, h2, h3⟩ := A
  rw [← (tnc hj).1] at k
  exact W.stepW (fun T locs X e => stC X O.1 O.2.2.2.2.2.2.2.1 e A (j := j) (idxOk h1 hj hi) (g := mkF K.2.1.2.1 pc L (.int x :: .int j :: .ref a :: st)) rfl rfl (hb O.2.1 hd)) (by rw [O.2.2.2.2.2.2.2.2.2.2.2.2.1]; exact ha) k
theorem w_alen (O : Ok K l Z a0 ts B ml rt own nm R n0 Q) {a : Addr} {n : Nat} {f : Nat → Value} {z : Int32} {ty : FieldType} (hd : decode B pc = .ok (.arraylength, 1)) (hp : pc + 1 = pc') (A : Afn Z h a ty n f) (hz : z.toInt = (n : Int)) (k : W K h cl sl pc' L (.int z :: st)) : W K h cl sl pc L (.ref a :: st) := by
  subst hp
  obtain ⟨c, A, h1, h2, h3⟩ := A
  have ez : c.slots.size.toInt32 = z := by
    have := (back32 (tnc hz).2).1
    rw [(tnc hz).1, ← h1] at this; exact this
  refine W.step (fun T locs X e t q => X.arraylength O.1 (by rw [e]; exact A.1) (State.isArrayOf_alike O.2.2.2.2.2.2.2.1.alike A.2.1) (g := mkF K.2.1.2.1 pc L (.ref a :: st)) rfl rfl (hb O.2.1 hd) _ (by rw [ez]; exact q)) k
theorem w_newarr (O : Ok K l Z a0 ts B ml rt own nm R n0 Q) {aty : ArrayType} {ty : FieldType} {dv : Value} {z : Int32} {n cap cl' sl' : Nat} (hd : decode B pc = .ok (.newarray aty, 2)) (hp : pc + 2 = pc') (hty : newarray.typeOf aty = ty) (hdv : defaultValue ty = dv) (w : Jvm.Cond.arrayClass ty ∈ ts) (hz : z.toInt = (n : Int)) (hcap : n ≤ cap) (hb8 : cap * 8 ≤ 536870912) (hc : cl + 1 = cl') (hs : sl + cap = sl') (hc' : cl' ≤ R.cells) (hs' : sl' ≤ R.slots)
    (k : ∀ h' b, b = h.size → n0 ≤ b → Ext h h' → Afn Z h' b ty n (fun _ => dv) → W K h' cl' sl' pc' L (.ref b :: st)) : W K h cl sl pc L (.int z :: st) := by
  obtain ⟨⟨p, l', e', R'⟩, ⟨s, m, args, below⟩, ⟨meth, c⟩, Q', n0'⟩ := K
  obtain ⟨hx, hby, hml, hown, hnm, hrt, hlk, hZ, hw, hn0, hl', hR', hn', hQ'⟩ := O
  dsimp only at hx hby hml hown hnm hrt hlk hZ hn0 hl' hR' hn' hQ'
  subst hl' hR' hn' hQ'
  subst hp hc hs hty hdv
  intro T locs X eT N
  obtain ⟨T2, h2, kA, X2, e2, E2, A2, st2⟩ := newP X hx hZ (hw _ w) eT (g := mkF m pc L (.int z :: st)) rfl (hb hby hd) rfl (tnc hz).2 (cap := cap) (by rw [(tnc hz).1]; exact hcap) hb8 hc' hs'
  have hsz : (newA kA (newarray.typeOf aty) z).slots.size = n := by rw [sz_new, (tnc hz).1]
  have hr := (rng32 z).2
  obtain ⟨s2, o, h1, r⟩ := k h2 h.size rfl (Nat.le_trans hn0 (by rw [← eT]; exact X.same.2.1)) E2 ⟨_, A2, hsz, by omega, fun i hi => by show (Array.replicate z.toNatClampNeg (defaultValue (newarray.typeOf aty)))[i]? = _; rw [Array.getElem?_replicate, if_pos (by rw [(tnc hz).1]; exact hi)]⟩ T2 _ X2 e2 N
  exact ⟨s2, o, st2 _ h1, r⟩
theorem w_newarrE (O : Ok K l Z a0 ts B ml rt own nm R n0 Q) {aty : ArrayType} {ty : FieldType} {ad : String} {dv : Value} {z : Int32} {n cap cl' sl' : Nat} (hd : decode B pc = .ok (.newarray aty, 2)) (hp : pc + 2 = pc') (hty : newarray.typeOf aty = ty) (hdv : defaultValue ty = dv) (had : "[" ++ (newarray.typeOf aty).toString = ad) (w : Jvm.Cond.arrayClass ty ∈ ts) (hz : z.toInt = (n : Int)) (hcap : n ≤ cap) (hb8 : cap * 8 ≤ 536870912) (hc : cl + 1 = cl') (hs : sl + cap = sl') (hc' : cl' ≤ R.cells) (hs' : sl' ≤ R.slots)
    (k : ∀ h' b, b = h.size → n0 ≤ b → Ext h h' → Afn Z h' b ty n (fun _ => dv) → Exa Z h' b ad → W K h' cl' sl' pc' L (.ref b :: st)) : W K h cl sl pc L (.int z :: st) := by
  obtain ⟨⟨p, l', e', R'⟩, ⟨s, m, args, below⟩, ⟨meth, c⟩, Q', n0'⟩ := K
  obtain ⟨hx, hby, hml, hown, hnm, hrt, hlk, hZ, hw, hn0, hl', hR', hn', hQ'⟩ := O
  dsimp only at hx hby hml hown hnm hrt hlk hZ hn0 hl' hR' hn' hQ'
  subst hl' hR' hn' hQ'
  subst hp hc hs hty hdv
  intro T locs X eT N
  obtain ⟨T2, h2, kA, X2, e2, E2, A2, Ex2, st2⟩ := newPE X hx hZ (hw _ w) eT (g := mkF m pc L (.int z :: st)) rfl (hb hby hd) rfl (tnc hz).2 (cap := cap) (by rw [(tnc hz).1]; exact hcap) hb8 hc' hs' had
  have hsz : (newA kA (newarray.typeOf aty) z).slots.size = n := by rw [sz_new, (tnc hz).1]
  have hr := (rng32 z).2
  obtain ⟨s2, o, h1, r⟩ := k h2 h.size rfl (Nat.le_trans hn0 (by rw [← eT]; exact X.same.2.1)) E2 ⟨_, A2, hsz, by omega, fun i hi => by show (Array.replicate z.toNatClampNeg (defaultValue (newarray.typeOf aty)))[i]? = _; rw [Array.getElem?_replicate, if_pos (by rw [(tnc hz).1]; exact hi)]⟩ Ex2 T2 _ X2 e2 N
  exact ⟨s2, o, st2 _ h1, r⟩
theorem w_clone (O : Ok K l Z a0 ts B ml rt own nm R n0 Q) {i wt n cap cl' sl' : Nat} {ad : String} {a : Addr} {ty : FieldType} {f : Nat → Value} (hd : decode B pc = .ok (.invokevirtual i, 3)) (hp : pc + 3 = pc') (w1 : Jvm.Cond.methodLink own i ⟨ad, "clone", "()Ljava/lang/Object;"⟩ ∈ ts) (w2 : Jvm.Cond.sameMethod ad "java/lang/Object" "clone" "()Ljava/lang/Object;" ∈ ts) (w3 : Jvm.Cond.native ⟨"java/lang/Object", "clone", "()Ljava/lang/Object;"⟩ ∈ ts) (w4 : Jvm.Cond.instanceMethod ⟨"java/lang/Object", "clone", "()Ljava/lang/Object;"⟩ ∈ ts) (w5 : Jvm.Cond.selects ad ⟨ad, "clone", "()Ljava/lang/Object;"⟩ ⟨"java/lang/Object", "clone", "()Ljava/lang/Object;"⟩ ∈ ts) (w6 : Jvm.Cond.castable ad "java/lang/Cloneable" ∈ ts)
    (A : Afn Z h a ty n f) (E : Exa Z h a ad) (hfit : ∀ i, i < n → fits ty (f i) = true) (hsz : L.size = ml) (hwt : (st.map fun v => v.category).sum = wt) (hf : 1 ≤ R.frames) (hl : wt + 14 ≤ R.locals) (hcap : n ≤ cap) (hc : cl + 1 = cl') (hs : sl + cap = sl') (hc' : cl' ≤ R.cells) (hs' : sl' ≤ R.slots)
    (k : ∀ h' b, b = h.size → n0 ≤ b → Ext h h' → Afn Z h' b ty n f → Exa Z h' b ad → W K h' cl' sl' pc' L (.ref b :: st)) : W K h cl sl pc L (.ref a :: st) := by
  obtain ⟨⟨p, l', e', R'⟩, ⟨s, m, args, below⟩, ⟨meth, c⟩, Q', n0'⟩ := K
  obtain ⟨hx, hby, hml, hown, hnm, hrt, hlk, hZ, hw, hn0, hl', hR', hn', hQ'⟩ := O
  dsimp only at hx hby hml hown hnm hrt hlk hZ hn0 hl' hR' hn' hQ'
  subst hl' hR' hn' hQ'
  subst hp hc hs hml
  intro T locs X eT N
  obtain ⟨cx, A1, h1, h2, h3⟩ := A
  have FC : FitC Z cx := fitC_of A1 fun i hi v hv => by rw [h1] at hi; rw [h3 i hi] at hv; cases hv; exact hfit i hi
  obtain ⟨T2, h4, X2, e2, E2, A2, Ex2, st2⟩ := cloneA X hx hZ hown (hw _ w1) (hw _ w2) (hw _ w3) (hw _ w4) (hw _ w5) (hw _ w6) eT A1 E FC (g := mkF m pc L (.ref a :: st)) rfl hsz rfl (hb hby hd) hf (W := wt) (cap := cap) (by show 2 * 0 + _ ≤ _; omega) hl (by rw [h1]; exact hcap) hc' hs'
  obtain ⟨s2, o, g1, r⟩ := k h4 h.size rfl (Nat.le_trans hn0 (by rw [← eT]; exact X.same.2.1)) E2 ⟨_, A2, h1, h2, h3⟩ Ex2 T2 _ X2 e2 N
  exact ⟨s2, o, st2 _ g1, r⟩
theorem w_cast (O : Ok K l Z a0 ts B ml rt own nm R n0 Q) {i : Nat} {C : String} {a : Addr} (hd : decode B pc = .ok (.checkcast i, 3)) (hp : pc + 3 = pc') (w : Jvm.Cond.classLink own i C ∈ ts) (I : Ins Z h a C true) (k : W K h cl sl pc' L (.ref a :: st)) : W K h cl sl pc L (.ref a :: st) := by
  subst hp
  exact W.stepT (fun T locs X e => castY X O.1 O.2.2.2.2.2.2.2.1 O.2.2.2.1 (O.2.2.2.2.2.2.2.2.1 _ w) e I (g := mkF K.2.1.2.1 pc L (.ref a :: st)) rfl rfl (hb O.2.1 hd)) k
/-- the array at a takes every C -/
def Tk (Z : State) (h : Heap) (a : Addr) (C : String) : Prop := ∃ (c : Cell) (k : Class) (comp : ClassId) (t : FieldType), h[a]? = some c ∧ Z.vm.classes[c.cls]? = some k ∧ k.kind = .array comp t ∧ Z.vm.findClass C = some comp
theorem Tk.lt {a : Addr} {C : String} (F : Tk Z h a C) : a < h.size := by obtain ⟨_, _, _, _, h1, -⟩ := F; exact (Array.getElem?_eq_some_iff.mp h1).1
theorem Tk.ext {h' : Heap} {a : Addr} {C : String} (F : Tk Z h a C) (E : Ext h h') : Tk Z h' a C := by obtain ⟨c, k, cp, t, h1, r⟩ := F; exact ⟨c, k, cp, t, E.2 _ _ h1, r⟩
theorem Tk.wr {h' : Heap} {a b : Addr} {C : String} {i : Nat} {v : Value} (F : Tk Z h a C) (Wq : Wr h h' b i v) : Tk Z h' a C := by
  obtain ⟨c, k, cp, t, h1, h2, r⟩ := F
  obtain ⟨d1, a1, a2, -⟩ := wr_at Wq h1
  exact ⟨d1, k, cp, t, a1, by rw [a2]; exact h2, r⟩
theorem Tk.keep {h' : Heap} {a : Addr} {C : String} {ws : List Addr} (F : Tk Z h a C) (Kp : Keep h h' ws) : Tk Z h' a C := by
  obtain ⟨c, k, cp, t, h1, h2, r⟩ := F
  obtain ⟨d1, a1, a2, -⟩ := Kp.2.2 a c h1
  exact ⟨d1, k, cp, t, a1, by rw [a2]; exact h2, r⟩
theorem Tk.sto {a y : Addr} {C : String} (F : Tk Z h a C) (I : Ins Z h y C true) : Sto Z h a (.ref y) := by
  obtain ⟨cl, k, comp, t, o0, o1, o2, o3⟩ := F
  obtain ⟨cv, cT, i1, i2, i3⟩ := I
  cases o3.symm.trans i2
  simp only [Bool.and_eq_true, Bool.not_eq_true'] at i3
  obtain ⟨kc, q⟩ := Vm.classAt_of_findClass o3
  obtain ⟨kv, q2⟩ := Vm.classAt_of_assignable i3.2 ⟨kc, q⟩
  exact Or.inr ⟨cl, cv, k, kv, kc, _, _, y, o0, o1, o2, q, rfl, i1, i3.1, q2, i3.2⟩
theorem w_anewarrA (O : Ok K l Z a0 ts B ml rt own nm R n0 Q) {i : Nat} {C ad : String} {ty : FieldType} {z : Int32} {n cap cl' sl' : Nat} (hd : decode B pc = .ok (.anewarray i, 3)) (hp : pc + 3 = pc') (hC : (FieldType.array ty).toString = C) (had : "[" ++ C = ad) (w1 : Jvm.Cond.classLink own i C ∈ ts) (w2 : Jvm.Cond.arrayOver (.array ty) ∈ ts) (hz : z.toInt = (n : Int)) (hcap : n ≤ cap) (hb8 : cap * 8 ≤ 536870912) (hc : cl + 1 = cl') (hs : sl + cap = sl') (hc' : cl' ≤ R.cells) (hs' : sl' ≤ R.slots)
    (k : ∀ h' b, b = h.size → n0 ≤ b → Ext h h' → Afn Z h' b (.array ty) n (fun _ => .null) → Exa Z h' b ad → Tk Z h' b C → W K h' cl' sl' pc' L (.ref b :: st)) : W K h cl sl pc L (.int z :: st) := by
  obtain ⟨⟨p, l', e', R'⟩, ⟨s, m, args, below⟩, ⟨meth, c⟩, Q', n0'⟩ := K
  obtain ⟨hx, hby, hml, hown, hnm, hrt, hlk, hZ, hw, hn0, hl', hR', hn', hQ'⟩ := O
  dsimp only at hx hby hml hown hnm hrt hlk hZ hn0 hl' hR' hn' hQ'
  subst hl' hR' hn' hQ'
  subst hp hc hs
  intro T locs X eT N
  obtain ⟨T2, h2, kA, X2, e2, E2, A2, Ex2, Ov2, st2⟩ := newRA X hx hZ hown hC (hw _ w1) (hw _ w2) eT (g := mkF m pc L (.int z :: st)) rfl (hb hby hd) rfl (tnc hz).2 (cap := cap) (by rw [(tnc hz).1]; exact hcap) hb8 hc' hs' had
  have hsz : (newA kA (.array ty) z).slots.size = n := by rw [sz_new, (tnc hz).1]
  have hr := (rng32 z).2
  obtain ⟨ko, cpo, o1, o2, o3⟩ := Ov2
  obtain ⟨s2, o, h1, r⟩ := k h2 h.size rfl (Nat.le_trans hn0 (by rw [← eT]; exact X.same.2.1)) E2 ⟨_, A2, hsz, by omega, fun i hi => by show (Array.replicate z.toNatClampNeg (defaultValue (.array ty)))[i]? = _; rw [Array.getElem?_replicate, if_pos (by rw [(tnc hz).1]; exact hi)]; rfl⟩ Ex2 ⟨_, ko, cpo, _, A2.1, o1, o2, o3⟩ T2 _ X2 e2 N
  exact ⟨s2, o, st2 _ h1, r⟩
theorem w_aastore (O : Ok K l Z a0 ts B ml rt own nm R n0 Q) {a : Addr} {n i : Nat} {f : Nat → Value} {j : Int32} {x : Value} {ty : FieldType} (hd : decode B pc = .ok (.aastore, 1)) (hp : pc + 1 = pc') (A : Afn Z h a ty n f) (hty : ty.isReference = true) (hj : j.toInt = (i : Int)) (hi : i < n) (ha : n0 ≤ a) (St : Sto Z h a x) (k : ∀ h', Wr h h' a i x → W K h' cl sl pc' L st) : W K h cl sl pc L (x :: .int j :: .ref a :: st) := by
  subst hp
  obtain ⟨c, A, h1, h2, h3⟩ := A
  rw [← (tnc hj).1] at k
  exact W.stepW (fun T locs X e => stR X O.1 O.2.2.2.2.2.2.2.1 e A (j := j) (idxOk h1 hj hi) hty St (g := mkF K.2.1.2.1 pc L (x :: .int j :: .ref a :: st)) rfl rfl (hb O.2.1 hd)) (by rw [O.2.2.2.2.2.2.2.2.2.2.2.2.1]; exact ha) k
theorem w_static (O : Ok K l Z a0 ts B ml rt own nm R n0 Q) {i ml' wt cl' sl' : Nat} {y : MethodName} {B' : ByteArray} {rt' : Option FieldType} {rm : Room} {as S : List Value} {Qc : Option Value → Heap → Prop} {sg : MethodDescriptor} (hd : decode B pc = .ok (.invokestatic i, 3)) (hp : pc + 3 = pc') (w1 : Jvm.Cond.methodLink own i y ∈ ts) (w2 : Jvm.Cond.static y ∈ ts) (w3 : Jvm.Cond.initialized y.cls ∈ ts) (w4 : Jvm.Cond.code y B' ml' rt' ∈ ts) (hy : y.cls ≠ "java/lang/invoke/MethodHandle" ∧ y.cls ≠ "java/lang/invoke/VarHandle")
    (con : Con l Z y B' ml' rt' rm as h n0 Qc) (hS : S = as.reverse ++ st) (hsg : parseMethodDescriptor y.desc = some sg) (hlen : as.length = sg.parameters.length) (hwt : (st.map fun v => v.category).sum = wt) (hsz : L.size = ml) (hf : rm.frames + 1 ≤ R.frames) (hl : wt + (ml' + 11) + rm.locals ≤ R.locals) (hc : cl + rm.cells = cl') (hs : sl + rm.slots = sl') (hc' : cl' ≤ R.cells) (hs' : sl' ≤ R.slots) (k : ∀ v h', Qc v h' → W K h' cl' sl' pc' L (v.toList ++ st)) : W K h cl sl pc L S := by
  obtain ⟨⟨p, l', e', R'⟩, ⟨s, m, args, below⟩, ⟨meth, c⟩, Q', n0'⟩ := K
  obtain ⟨hx, hby, hml, hown, hnm, hrt, hlk, hZ, hw, hn0, hl', hR', hn', hQ'⟩ := O
  dsimp only at hx hby hml hown hnm hrt hlk hZ hn0 hl' hR' hn' hQ'
  subst hl' hR' hn' hQ'
  subst hp hc hs hS hml
  intro T locs X eT N
  have hn1 : n0' ≤ h.size := Nat.le_trans hn0 (by rw [← eT]; exact X.same.2.1)
  obtain ⟨_, _, ⟨T', L', k', n'⟩, -, X', ⟨Lc, ⟨hQ, hFr⟩, l1, y1, z1⟩, st1⟩ := Jvm.LawKit.callS X hx (y := y) hown (mvT hZ (hw _ w1)) (mvT hZ (hw _ w2)) (mvT hZ (hw _ w3)) (mvT hZ (hw _ w4)) hy (backOf (W := wt) (Q := fun v h L => Qc v h ∧ Fr n0' L) (con hn1 []) hZ (hw _ w4) (hw _ w3) hf hl) (g := mkF m pc L (as.reverse ++ st)) rfl hsz (argsL := as) (rest := st) (lenOf hsg hlen) rfl (by show 2 * 0 + _ ≤ _; omega) (hb hby hd) (fun _ _ => ⟨rfl, eT, hc', hs'⟩)
  dsimp only [Pt.U, Pt.locs, Pt.cells, Pt.slots] at X' l1 y1 z1 st1 hQ
  subst l1 y1 z1
  obtain ⟨s2, o, h1, r⟩ := k _ T'.heap hQ T' _ X' rfl (Fr.app N hFr)
  exact ⟨s2, o, st1 _ h1, r⟩
theorem w_virtual (O : Ok K l Z a0 ts B ml rt own nm R n0 Q) {i ml' wt cl' sl' : Nat} {y : MethodName} {B' : ByteArray} {rt' : Option FieldType} {rm : Room} {as S : List Value} {Qc : Option Value → Heap → Prop} {sg : MethodDescriptor} {a : Addr} {C : String} (hd : decode B pc = .ok (.invokevirtual i, 3)) (hp : pc + 3 = pc') (w1 : Jvm.Cond.methodLink own i y ∈ ts) (w2 : Jvm.Cond.declares y ∈ ts) (w3 : Jvm.Cond.selects C y y ∈ ts) (w4 : Jvm.Cond.instanceMethod y ∈ ts) (w5 : Jvm.Cond.code y B' ml' rt' ∈ ts) (w6 : Jvm.Cond.initialized y.cls ∈ ts) (hy : y.cls ≠ "java/lang/invoke/MethodHandle" ∧ y.cls ≠ "java/lang/invoke/VarHandle") (E : Exa Z h a C)
    (con : Con l Z y B' ml' rt' rm (.ref a :: as) h n0 Qc) (hS : S = as.reverse ++ .ref a :: st) (hsg : parseMethodDescriptor y.desc = some sg) (hlen : as.length = sg.parameters.length) (hwt : (st.map fun v => v.category).sum = wt) (hsz : L.size = ml) (hf : rm.frames + 1 ≤ R.frames) (hl : wt + (ml' + 11) + rm.locals ≤ R.locals) (hc : cl + rm.cells = cl') (hs : sl + rm.slots = sl') (hc' : cl' ≤ R.cells) (hs' : sl' ≤ R.slots) (k : ∀ v h', Qc v h' → W K h' cl' sl' pc' L (v.toList ++ st)) : W K h cl sl pc L S := by
  obtain ⟨⟨p, l', e', R'⟩, ⟨s, m, args, below⟩, ⟨meth, c⟩, Q', n0'⟩ := K
  obtain ⟨hx, hby, hml, hown, hnm, hrt, hlk, hZ, hw, hn0, hl', hR', hn', hQ'⟩ := O
  dsimp only at hx hby hml hown hnm hrt hlk hZ hn0 hl' hR' hn' hQ'
  subst hl' hR' hn' hQ'
  subst hp hc hs hS hml
  intro T locs X eT N
  have hn1 : n0' ≤ h.size := Nat.le_trans hn0 (by rw [← eT]; exact X.same.2.1)
  obtain ⟨cq, kq, qa, qb, qc⟩ := isOf hZ eT E
  obtain ⟨_, _, ⟨T', L', k', n'⟩, -, X', ⟨Lc, ⟨hQ, hFr⟩, l1, y1, z1⟩, st1⟩ := X.virtualBack hx (y := y) (z := y) hown (mvT hZ (hw _ w1)) (mvT hZ (hw _ w2)) (notFace_of_selects (args := #[]) (mvT hZ (hw _ w3))) (mvT hZ (hw _ w3)) (mvT hZ (hw _ w4)) hy (backOf (W := wt) (Q := fun v h L => Qc v h ∧ Fr n0' L) (con hn1 []) hZ (hw _ w5) (hw _ w6) hf hl) qa qc (g := mkF m pc L (as.reverse ++ .ref a :: st)) rfl hsz (Steps.refl _) (argsL := as) (rest := st) (lenOf hsg hlen) rfl (by show 2 * 0 + _ ≤ _; omega) (hb hby hd) (fun _ _ => ⟨rfl, eT, hc', hs'⟩)
  dsimp only [Pt.U, Pt.locs, Pt.cells, Pt.slots] at X' l1 y1 z1 st1 hQ
  subst l1 y1 z1
  obtain ⟨s2, o, h1, r⟩ := k _ T'.heap hQ T' _ X' rfl (Fr.app N hFr)
  exact ⟨s2, o, st1.trans h1, r⟩
theorem w_private (O : Ok K l Z a0 ts B ml rt own nm R n0 Q) {i ml' wt cl' sl' : Nat} {y : MethodName} {B' : ByteArray} {rt' : Option FieldType} {rm : Room} {as S : List Value} {Qc : Option Value → Heap → Prop} {sg : MethodDescriptor} {kk : Nat} {a : Addr} {C : String} (hd : decode B pc = .ok (.invokevirtual i, 3)) (hp : pc + 3 = pc') (w1 : Jvm.Cond.methodLink own i y ∈ ts) (w2 : Jvm.Cond.instanceMethod y ∈ ts) (w3 : Jvm.Cond.privateMethod y ∈ ts) (w4 : Jvm.Cond.instantiable y.cls kk ∈ ts) (w5 : Jvm.Cond.code y B' ml' rt' ∈ ts) (w6 : Jvm.Cond.initialized y.cls ∈ ts) (hy : y.cls ≠ "java/lang/invoke/MethodHandle" ∧ y.cls ≠ "java/lang/invoke/VarHandle") (E : Exa Z h a C)
    (con : Con l Z y B' ml' rt' rm (.ref a :: as) h n0 Qc) (hS : S = as.reverse ++ .ref a :: st) (hsg : parseMethodDescriptor y.desc = some sg) (hlen : as.length = sg.parameters.length) (hwt : (st.map fun v => v.category).sum = wt) (hsz : L.size = ml) (hf : rm.frames + 1 ≤ R.frames) (hl : wt + (ml' + 11) + rm.locals ≤ R.locals) (hc : cl + rm.cells = cl') (hs : sl + rm.slots = sl') (hc' : cl' ≤ R.cells) (hs' : sl' ≤ R.slots) (k : ∀ v h', Qc v h' → W K h' cl' sl' pc' L (v.toList ++ st)) : W K h cl sl pc L S := by
  obtain ⟨⟨p, l', e', R'⟩, ⟨s, m, args, below⟩, ⟨meth, c⟩, Q', n0'⟩ := K
  obtain ⟨hx, hby, hml, hown, hnm, hrt, hlk, hZ, hw, hn0, hl', hR', hn', hQ'⟩ := O
  dsimp only at hx hby hml hown hnm hrt hlk hZ hn0 hl' hR' hn' hQ'
  subst hl' hR' hn' hQ'
  subst hp hc hs hS hml
  intro T locs X eT N
  have hn1 : n0' ≤ h.size := Nat.le_trans hn0 (by rw [← eT]; exact X.same.2.1)
  obtain ⟨cq, q1, q2⟩ := E.cell
  have hpr : s.PrivateAt y := Cond.privateMethod_at (mvP hZ (hw _ w3) (args := #[]))
  have hsel : (Jvm.Cond.selects y.cls y y).before args s = true := by
    obtain ⟨c1, k1, g1, g2, -, g3, -⟩ := Cond.instantiable_spec (mvT (args := args) hZ (hw _ w4))
    exact selects_self_of_private g1 g2 (by simp at g3; exact g3.1) hpr (mvT hZ (hw _ w2)) hy
  obtain ⟨_, _, ⟨T', L', k', n'⟩, -, X', ⟨Lc, ⟨hQ, hFr⟩, l1, y1, z1⟩, st1⟩ := X.privateBack hx (y := y) hown (mvT hZ (hw _ w1)) (mvT hZ (hw _ w2)) hsel hpr (mvT hZ (hw _ w5)) hy (backOf (W := wt) (Q := fun v h L => Qc v h ∧ Fr n0' L) (con hn1 []) hZ (hw _ w5) (hw _ w6) hf hl) (g := mkF m pc L (as.reverse ++ .ref a :: st)) rfl hsz (Steps.refl _) (a := a) (by rw [eT]; exact q1) q2 (argsL := as) (rest := st) (lenOf hsg hlen) rfl (by show 2 * 0 + _ ≤ _; omega) (hb hby hd) (fun _ _ => ⟨rfl, eT, hc', hs'⟩)
  dsimp only [Pt.U, Pt.locs, Pt.cells, Pt.slots] at X' l1 y1 z1 st1 hQ
  subst l1 y1 z1
  obtain ⟨s2, o, h1, r⟩ := k _ T'.heap hQ T' _ X' rfl (Fr.app N hFr)
  exact ⟨s2, o, st1.trans h1, r⟩
theorem w_init (O : Ok K l Z a0 ts B ml rt own nm R n0 Q) {i ml' wt cl' sl' : Nat} {y : MethodName} {B' : ByteArray} {rm : Room} {as S : List Value} {Qc : Option Value → Heap → Prop} {sg : MethodDescriptor} {a : Addr} (hd : decode B pc = .ok (.invokespecial i, 3)) (hp : pc + 3 = pc') (hin : y.name = "<init>") (w1 : Jvm.Cond.methodLink own i y ∈ ts) (w2 : Jvm.Cond.instanceMethod y ∈ ts) (w3 : Jvm.Cond.initialized y.cls ∈ ts) (w4 : Jvm.Cond.code y B' ml' none ∈ ts) (hy : y.cls ≠ "java/lang/invoke/MethodHandle" ∧ y.cls ≠ "java/lang/invoke/VarHandle")
    (con : Con l Z y B' ml' none rm (.ref a :: as) h n0 Qc) (hS : S = as.reverse ++ .ref a :: st) (hsg : parseMethodDescriptor y.desc = some sg) (hlen : as.length = sg.parameters.length) (hwt : (st.map fun v => v.category).sum = wt) (hsz : L.size = ml) (hf : rm.frames + 1 ≤ R.frames) (hl : wt + (ml' + 11) + rm.locals ≤ R.locals) (hc : cl + rm.cells = cl') (hs : sl + rm.slots = sl') (hc' : cl' ≤ R.cells) (hs' : sl' ≤ R.slots) (k : ∀ v h', Qc v h' → W K h' cl' sl' pc' L (v.toList ++ st)) : W K h cl sl pc L S := by
  obtain ⟨⟨p, l', e', R'⟩, ⟨s, m, args, below⟩, ⟨meth, c⟩, Q', n0'⟩ := K
  obtain ⟨hx, hby, hml, hown, hnm, hrt, hlk, hZ, hw, hn0, hl', hR', hn', hQ'⟩ := O
  dsimp only at hx hby hml hown hnm hrt hlk hZ hn0 hl' hR' hn' hQ'
  subst hl' hR' hn' hQ'
  subst hp hc hs hS hml
  intro T locs X eT N
  have hn1 : n0' ≤ h.size := Nat.le_trans hn0 (by rw [← eT]; exact X.same.2.1)
  obtain ⟨_, _, ⟨T', L', k', n'⟩, -, X', ⟨Lc, ⟨hQ, hFr⟩, l1, y1, z1⟩, st1⟩ := X.specialBack hx (y := y) hin hown (mvT hZ (hw _ w1)) (mvT hZ (hw _ w2)) (mvT hZ (hw _ w4)) hy (backOf (W := wt) (Q := fun v h L => Qc v h ∧ Fr n0' L) (con hn1 []) hZ (hw _ w4) (hw _ w3) hf hl) (g := mkF m pc L (as.reverse ++ .ref a :: st)) rfl hsz (Steps.refl _) (a := a) (argsL := as) (rest := st) (lenOf hsg hlen) rfl (by show 2 * 0 + _ ≤ _; omega) (hb hby hd) (fun _ _ => ⟨rfl, eT, hc', hs'⟩)
  dsimp only [Pt.U, Pt.locs, Pt.cells, Pt.slots] at X' l1 y1 z1 st1 hQ
  subst l1 y1 z1
  obtain ⟨s2, o, h1, r⟩ := k _ T'.heap hQ T' _ X' rfl (Fr.app N hFr)
  exact ⟨s2, o, st1.trans h1, r⟩
theorem w_initB (O : Ok K l Z a0 ts B ml rt own nm R n0 Q) {i ml' wt cl' sl' rc rs : Nat} {y : MethodName} {B' : ByteArray} {as S : List Value} {Qc : Option Value → Heap → List Loc → Prop} {sg : MethodDescriptor} {a : Addr} (hd : decode B pc = .ok (.invokespecial i, 3)) (hp : pc + 3 = pc') (hin : y.name = "<init>") (w1 : Jvm.Cond.methodLink own i y ∈ ts) (w2 : Jvm.Cond.instanceMethod y ∈ ts) (w4 : Jvm.Cond.code y B' ml' none ∈ ts) (hy : y.cls ≠ "java/lang/invoke/MethodHandle" ∧ y.cls ≠ "java/lang/invoke/VarHandle")
    (bk : n0 ≤ h.size → ∀ (p : Program) (e : Env) (below : List Frame) (s : State) (args : Array Value), Z.Warmed39 s.vm → Back l R p e below s args y 3 wt (fun P a' => a' = (Value.ref a :: as).toArray ∧ P.U.heap = h ∧ P.cells + rc ≤ R.cells ∧ P.slots + rs ≤ R.slots) (fun P _ v B => ∃ L, Qc v B.U.heap L ∧ B.locs = P.locs ++ L ∧ B.cells = P.cells + rc ∧ B.slots = P.slots + rs)) (hfr : ∀ v h' L, Qc v h' L → Fr n0 L)
    (hS : S = as.reverse ++ .ref a :: st) (hsg : parseMethodDescriptor y.desc = some sg) (hlen : as.length = sg.parameters.length) (hwt : (st.map fun v => v.category).sum = wt) (hsz : L.size = ml) (hc : cl + rc = cl') (hs : sl + rs = sl') (hc' : cl' ≤ R.cells) (hs' : sl' ≤ R.slots) (k : ∀ v h' Ls, Qc v h' Ls → W K h' cl' sl' pc' L (v.toList ++ st)) : W K h cl sl pc L S := by
  obtain ⟨⟨p, l', e', R'⟩, ⟨s, m, args, below⟩, ⟨meth, c⟩, Q', n0'⟩ := K
  obtain ⟨hx, hby, hml, hown, hnm, hrt, hlk, hZ, hw, hn0, hl', hR', hn', hQ'⟩ := O
  dsimp only at hx hby hml hown hnm hrt hlk hZ hn0 hl' hR' hn' hQ'
  subst hl' hR' hn' hQ'
  subst hp hc hs hS hml
  intro T locs X eT N
  have hn1 : n0' ≤ h.size := Nat.le_trans hn0 (by rw [← eT]; exact X.same.2.1)
  obtain ⟨_, _, ⟨T', L', k', n'⟩, -, X', ⟨Lc, hQ, l1, y1, z1⟩, st1⟩ := X.specialBack hx (y := y) hin hown (mvT hZ (hw _ w1)) (mvT hZ (hw _ w2)) (mvT hZ (hw _ w4)) hy (bk hn1 p e' below s args hZ) (g := mkF m pc L (as.reverse ++ .ref a :: st)) rfl hsz (Steps.refl _) (a := a) (argsL := as) (rest := st) (lenOf hsg hlen) rfl (by show 2 * 0 + _ ≤ _; omega) (hb hby hd) (fun _ _ => ⟨rfl, eT, hc', hs'⟩)
  dsimp only [Pt.U, Pt.locs, Pt.cells, Pt.slots] at X' l1 y1 z1 st1 hQ
  subst l1 y1 z1
  obtain ⟨s2, o, h1, r⟩ := k _ T'.heap _ hQ T' _ X' rfl (Fr.app N (hfr _ _ _ hQ))
  exact ⟨s2, o, st1.trans h1, r⟩
theorem Afn.arv {a : Addr} {ty : FieldType} {n : Nat} {f : Nat → Value} {N : Int32} {vs : List Value} {d : Value} (A : Afn Z h a ty n f) (hN : N.toInt = (n : Int)) (hv : ∀ i, i < n → vs.getD i d = f i) (hf : ∀ i, i < n → fits ty (f i) = true) : ∃ k, Arv Z h a k ty N vs d := by
  obtain ⟨c, A, h1, h2, h3⟩ := A
  refine ⟨c.cls, c, A, rfl, by rw [h1, (tnc hN).1], (tnc hN).2, fun i hi => ?_, fun i hi => ?_⟩
  · rw [h1] at hi; rw [hv i hi]; exact h3 i hi
  · rw [h1] at hi; rw [hv i hi]; exact hf i hi
theorem w_reti {x : Int32} (O : Ok K l Z a0 ts B ml (some .int) own nm R n0 Q) (hd : decode B pc = .ok (.ireturn, 1)) (hc : cl ≤ R.cells) (hs : sl ≤ R.slots) (hq : Q (some (.int x)) h) : W K h cl sl pc L (.int x :: st) := by
  obtain ⟨⟨p, l', e', R'⟩, ⟨s, m, args, below⟩, ⟨meth, c⟩, Q', n0'⟩ := K
  obtain ⟨hx, hby, hml, hown, hnm, hrt, hlk, hZ, hw, hn0, hl', hR', hn', hQ'⟩ := O
  dsimp only at hx hby hml hown hnm hrt hlk hZ hn0 hl' hR' hn' hQ'
  subst hl' hR' hn' hQ'
  intro T locs X eT N
  obtain ⟨fs, hr, hrun, hended, hW, hsame⟩ := X.leave (v := some (.int x)) (fun q => by rw [hrt] at q; cases q) hlk
  refine ⟨_, _, retOut X hx hrt rfl (Or.inl ⟨rfl, Or.inl rfl, _, rfl⟩) (hb hby hd) hr, hrun, hended, _, _, rfl, ⟨?_, N⟩, ⟨_, rfl⟩, hW, hsame.mono hc hs⟩
  show Q' _ T.heap
  rw [eT]; exact hq
theorem w_retz {x : Int32} (O : Ok K l Z a0 ts B ml (some .boolean) own nm R n0 Q) (hd : decode B pc = .ok (.ireturn, 1)) (hc : cl ≤ R.cells) (hs : sl ≤ R.slots) (hz : x = 0 ∨ x = 1) (hq : Q (some (.int x)) h) : W K h cl sl pc L (.int x :: st) := by
  have hna : narrow .boolean (.int x) = .int x := by rcases hz with rfl | rfl <;> rfl
  obtain ⟨⟨p, l', e', R'⟩, ⟨s, m, args, below⟩, ⟨meth, c⟩, Q', n0'⟩ := K
  obtain ⟨hx, hby, hml, hown, hnm, hrt, hlk, hZ, hw, hn0, hl', hR', hn', hQ'⟩ := O
  dsimp only at hx hby hml hown hnm hrt hlk hZ hn0 hl' hR' hn' hQ'
  subst hl' hR' hn' hQ'
  intro T locs X eT N
  obtain ⟨fs, hr, hrun, hended, hW, hsame⟩ := X.leave (v := some (.int x)) (fun q => by rw [hrt] at q; cases q) hlk
  refine ⟨_, _, retOut X hx hrt hna (Or.inl ⟨rfl, Or.inr (Or.inl rfl), _, rfl⟩) (hb hby hd) hr, hrun, hended, _, _, rfl, ⟨?_, N⟩, ⟨_, rfl⟩, hW, hsame.mono hc hs⟩
  show Q' _ T.heap
  rw [eT]; exact hq
theorem w_retl {x : Int64} (O : Ok K l Z a0 ts B ml (some .long) own nm R n0 Q) (hd : decode B pc = .ok (.lreturn, 1)) (hc : cl ≤ R.cells) (hs : sl ≤ R.slots) (hq : Q (some (.long x)) h) : W K h cl sl pc L (.long x :: st) := by
  obtain ⟨⟨p, l', e', R'⟩, ⟨s, m, args, below⟩, ⟨meth, c⟩, Q', n0'⟩ := K
  obtain ⟨hx, hby, hml, hown, hnm, hrt, hlk, hZ, hw, hn0, hl', hR', hn', hQ'⟩ := O
  dsimp only at hx hby hml hown hnm hrt hlk hZ hn0 hl' hR' hn' hQ'
  subst hl' hR' hn' hQ'
  intro T locs X eT N
  obtain ⟨fs, hr, hrun, hended, hW, hsame⟩ := X.leave (v := some (.long x)) (fun q => by rw [hrt] at q; cases q) hlk
  refine ⟨_, _, retOut X hx hrt rfl (Or.inr (Or.inl ⟨rfl, rfl, _, rfl⟩)) (hb hby hd) hr, hrun, hended, _, _, rfl, ⟨?_, N⟩, ⟨_, rfl⟩, hW, hsame.mono hc hs⟩
  show Q' _ T.heap
  rw [eT]; exact hq
theorem w_reta {x : Value} {t : FieldType} (O : Ok K l Z a0 ts B ml (some t) own nm R n0 Q) (hd : decode B pc = .ok (.areturn, 1)) (ht : t.isReference = true) (hna : narrow t x = x) (hx' : x.isRef = true) (hc : cl ≤ R.cells) (hs : sl ≤ R.slots) (hq : Q (some x) h) : W K h cl sl pc L (x :: st) := by
  obtain ⟨⟨p, l', e', R'⟩, ⟨s, m, args, below⟩, ⟨meth, c⟩, Q', n0'⟩ := K
  obtain ⟨hx, hby, hml, hown, hnm, hrt, hlk, hZ, hw, hn0, hl', hR', hn', hQ'⟩ := O
  dsimp only at hx hby hml hown hnm hrt hlk hZ hn0 hl' hR' hn' hQ'
  subst hl' hR' hn' hQ'
  intro T locs X eT N
  obtain ⟨fs, hr, hrun, hended, hW, hsame⟩ := X.leave (v := some x) (fun q => by rw [hrt] at q; cases q) hlk
  refine ⟨_, _, retOut X hx hrt hna (Or.inr (Or.inr (Or.inr (Or.inr ⟨rfl, ht, hx'⟩)))) (hb hby hd) hr, hrun, hended, _, _, rfl, ⟨?_, N⟩, ⟨_, rfl⟩, hW, hsame.mono hc hs⟩
  show Q' _ T.heap
  rw [eT]; exact hq
theorem w_retv (O : Ok K l Z a0 ts B ml none own nm R n0 Q) (hd : decode B pc = .ok (.return_, 1)) (hc : cl ≤ R.cells) (hs : sl ≤ R.slots) (hq : Q none h) : W K h cl sl pc L [] := by
  obtain ⟨⟨p, l', e', R'⟩, ⟨s, m, args, below⟩, ⟨meth, c⟩, Q', n0'⟩ := K
  obtain ⟨hx, hby, hml, hown, hnm, hrt, hlk, hZ, hw, hn0, hl', hR', hn', hQ'⟩ := O
  dsimp only at hx hby hml hown hnm hrt hlk hZ hn0 hl' hR' hn' hQ'
  subst hl' hR' hn' hQ'
  intro T locs X eT N
  obtain ⟨fs, hr, hrun, hended, hW, hsame⟩ := X.leave (v := none) (fun _ => rfl) hlk
  refine ⟨_, _, X.returnOut hx hrt (hb hby hd) hr, hrun, hended, _, _, rfl, ⟨?_, N⟩, ⟨_, rfl⟩, hW, hsame.mono hc hs⟩
  show Q' _ T.heap
  rw [eT]; exact hq
theorem nz32 {y : Int32} (q : ¬ y.toInt = 0) : y ≠ 0 := by rintro rfl; exact q (by decide)
theorem nz64 {y : Int64} (q : ¬ y.toInt = 0) : y ≠ 0 := by rintro rfl; exact q (by decide)
theorem of_nat32 {q : Int32} {n : Nat} (hn : q.toInt = (n : Int)) : q = Int32.ofNat n := by
  have h1 := rng32 q
  apply Int32.toInt_inj.mp
  rw [hn, Int32.toInt_ofNat_of_lt (by omega)]
theorem c_lremP (x y : Int64) (d : Int) (hy : y.toInt = d) : (0 ≤ x.toInt → (x % y).toInt = x.toInt % d) ∧ (x.toInt < 0 → (x % y).toInt = -((-x.toInt) % d)) := by rw [← lrem_mod]; exact c_lrem x y d hy
end OwnW

theorem mw {d : Jvm.Cond} (k : Nat) (q : tables_1[k]? = some d) : d ∈ tables_1 := List.mem_of_getElem? q
def updI (g : Nat → Int32) (i : Nat) (v : Int32) : Nat → Int32 := fun j => if j = i then v else g j
theorem updI_eq (g : Nat → Int32) (i : Nat) (v : Int32) (j : Nat) : upd (fun j => .int (g j)) i (.int v) j = .int (updI g i v j) := by unfold upd updI; split <;> rfl
def cntB (g : Nat → Int32) : Nat → Nat
  | 0 => 0
  | k + 1 => cntB g k + if (g k).toInt < 0 then 0 else 1
theorem cntB_le (g : Nat → Int32) : ∀ k, cntB g k ≤ k
  | 0 => Nat.le_refl _
  | k + 1 => by have := cntB_le g k; rw [cntB]; split <;> omega
theorem cntB_mono (g : Nat → Int32) (k : Nat) : ∀ d, cntB g k ≤ cntB g (k + d)
  | 0 => Nat.le_refl _
  | d + 1 => by have := cntB_mono g k d; rw [show k + (d + 1) = (k + d) + 1 by omega, cntB]; split <;> omega
theorem cntB_lt (g : Nat → Int32) {k n : Nat} (h : k < n) (q : ¬ (g k).toInt < 0) : cntB g k < cntB g n := by
  have h1 := cntB_mono g (k + 1) (n - (k + 1))
  rw [show k + 1 + (n - (k + 1)) = n by omega] at h1
  have h2 : cntB g (k + 1) = cntB g k + 1 := by rw [cntB, if_neg q]
  omega
/-- (position, gap, shift) behind the first k bytes -/
def dsB (g : Nat → Int32) : Nat → Int32 × Int32 × Int32
  | 0 => (-1, 0, 0)
  | k + 1 => if (g k).toInt < 0 then ((dsB g k).1, (dsB g k).2.1 ||| ((g k &&& 127) <<< ((dsB g k).2.2 &&& 31)), (dsB g k).2.2 + 7) else ((dsB g k).1 + (((dsB g k).2.1 ||| ((g k &&& 127) <<< ((dsB g k).2.2 &&& 31))) + 1), 0, 0)
/-- what is decoded behind the first k bytes -/
def outB (g : Nat → Int32) : Nat → Nat → Int32
  | 0 => fun _ => 0
  | k + 1 => if (g k).toInt < 0 then outB g k else updI (outB g k) (cntB g k) (dsB g (k + 1)).1
theorem d14_0 : decode prog_23_method_8_code 0 = .ok (.iconst 0, 1) := by decide +kernel
theorem d14_1 : decode prog_23_method_8_code 1 = .ok (.istore_n 1, 1) := by decide +kernel
theorem d14_2 : decode prog_23_method_8_code 2 = .ok (.aload_n 0, 1) := by decide +kernel
theorem d14_3 : decode prog_23_method_8_code 3 = .ok (.astore_n 2, 1) := by decide +kernel
theorem d14_4 : decode prog_23_method_8_code 4 = .ok (.aload_n 2, 1) := by decide +kernel
theorem d14_5 : decode prog_23_method_8_code 5 = .ok (.arraylength, 1) := by decide +kernel
theorem d14_6 : decode prog_23_method_8_code 6 = .ok (.istore_n 3, 1) := by decide +kernel
theorem d14_7 : decode prog_23_method_8_code 7 = .ok (.iconst 0, 1) := by decide +kernel
theorem d14_8 : decode prog_23_method_8_code 8 = .ok (.istore 4, 2) := by decide +kernel
theorem d14_10 : decode prog_23_method_8_code 10 = .ok (.iload 4, 2) := by decide +kernel
theorem d14_12 : decode prog_23_method_8_code 12 = .ok (.iload_n 3, 1) := by decide +kernel
theorem d14_13 : decode prog_23_method_8_code 13 = .ok (.if_icmp .ge 23, 3) := by decide +kernel
theorem d14_16 : decode prog_23_method_8_code 16 = .ok (.aload_n 2, 1) := by decide +kernel
theorem d14_17 : decode prog_23_method_8_code 17 = .ok (.iload 4, 2) := by decide +kernel
theorem d14_19 : decode prog_23_method_8_code 19 = .ok (.baload, 1) := by decide +kernel
theorem d14_20 : decode prog_23_method_8_code 20 = .ok (.istore 5, 2) := by decide +kernel
theorem d14_22 : decode prog_23_method_8_code 22 = .ok (.iload 5, 2) := by decide +kernel
theorem d14_24 : decode prog_23_method_8_code 24 = .ok (.ifCond .lt 6, 3) := by decide +kernel
theorem d14_27 : decode prog_23_method_8_code 27 = .ok (.iinc 1 1, 3) := by decide +kernel
theorem d14_30 : decode prog_23_method_8_code 30 = .ok (.iinc 4 1, 3) := by decide +kernel
theorem d14_33 : decode prog_23_method_8_code 33 = .ok (.goto (-23), 3) := by decide +kernel
theorem d14_36 : decode prog_23_method_8_code 36 = .ok (.iload_n 1, 1) := by decide +kernel
theorem d14_37 : decode prog_23_method_8_code 37 = .ok (.ireturn, 1) := by decide +kernel
theorem pn_14 : plainFor (⟨"com/example/acrawl/acrawl/store/Records", "countPositions", "([B)I"⟩ : MethodName) = true := plainFor_of_name (by first | (simp [plainName, overriddenIn]; done) | decide +kernel)
set_option maxRecDepth 65536 in
set_option maxHeartbeats 40000000 in
theorem con_count (l : Launch) (Z : State) (a0 : Array Value) (hw : ∀ d ∈ tables_1, d.before a0 Z = true) (w : Addr) (h0 : Heap) (n0 : Nat) (n : Nat) (g : Nat → Int32) (A0 : Afn Z h0 w .byte n (fun j => .int (g j))) (z : Int32) (hz : z.toInt = (n : Int)) :
    Con l Z (⟨"com/example/acrawl/acrawl/store/Records", "countPositions", "([B)I"⟩ : MethodName) prog_23_method_8_code 6 (some .int) ⟨0, 0, 0, 0⟩ [(.ref w)] h0 n0 (RetI fun r h => h = h0 ∧ r.toInt = (cntB g n : Int)) := by
  refine Con.body (L0 := #[.val (.ref w), .unset, .unset, .unset, .unset, .unset]) hw pn_14 (fun m => by first | (simp [entryFrame, mkF, argsToLocals, Value.category]; done) | rfl) (fun K O => ?_)
  have hb := A0.bound
  have loop : ∀ (d k : Nat) (i t : Int32) (s5 : Slot), i.toInt = (k : Int) → k + d = n → t.toInt = (cntB g k : Int) → (s5 = .unset ∨ ∃ y, s5 = .val (.int y)) → W K h0 0 0 10 #[.val (.ref w), .val (.int t), .val (.ref w), .val (.int z), .val (.int i), s5] [] := by
    intro d
    induction d with
    | zero =>
      intro k i t s5 hi hk ht h5
      have hck := cntB_le g k
      refine w_iload O d14_10 (pc' := 12) rfl rfl ?_
      refine w_iloadN O d14_12 (pc' := 13) rfl rfl ?_
      refine w_icmp_ge O d14_13 (pn := 16) (pt := 36) rfl (by decide) rfl (fun c13 => ?_) (fun c13 => absurd (show i.toInt < z.toInt from c13) (by omega))
      refine w_iloadN O d14_36 (pc' := 37) rfl rfl ?_
      refine w_reti O d14_37 (by decide) (by decide) ?_
      have hkn : k = n := by omega
      subst hkn
      exact ⟨_, rfl, rfl, ht⟩
    | succ d ih =>
      intro k i t s5 hi hk ht h5
      have hck := cntB_le g k
      refine w_iload O d14_10 (pc' := 12) rfl rfl ?_
      refine w_iloadN O d14_12 (pc' := 13) rfl rfl ?_
      refine w_icmp_ge O d14_13 (pn := 16) (pt := 36) rfl (by decide) rfl (fun c13 => absurd (show ¬ i.toInt < z.toInt from c13) (by omega)) (fun c13 => ?_)
      refine w_aloadN O d14_16 (pc' := 17) rfl rfl rfl ?_
      refine w_iload O d14_17 (pc' := 19) rfl rfl ?_
      refine w_baload O d14_19 (i := k) (x := (g k)) (pc' := 20) rfl A0 hi (by omega) rfl ?_
      refine w_istoreG O d14_20 (L' := fun zq => #[.val (.ref w), .val (.int t), .val (.ref w), .val (.int z), .val (.int i), .val (.int zq)]) (pc' := 22) rfl (fun _ => by rcases h5 with rfl | ⟨y, rfl⟩ <;> rfl) (fun y e_y => ?_)
      refine w_iload O d14_22 (pc' := 24) rfl rfl ?_
      refine w_if_lt O d14_24 (pn := 27) (pt := 30) rfl (by decide) rfl (fun c24 => ?_) (fun c24 => ?_)
      · replace c24 : y.toInt < 0 := c24
        refine w_iincG O d14_30 (y := (1 : Int32)) (L' := fun zq => #[.val (.ref w), .val (.int t), .val (.ref w), .val (.int z), .val (.int zq), .val (.int y)]) (pc' := 33) rfl rfl rfl (fun _ => rfl) (fun i' e_i' => ?_)
        have i3 : ((i + (1 : Int32)).toInt - (i.toInt + 1)) % 4294967296 = 0 := c_iadd i (1 : Int32)
        have i4 := rng32 (i + (1 : Int32))
        have j_i' := congrArg Int32.toInt e_i'
        refine w_goto O d14_33 (pc' := 10) (by decide) rfl ?_
        refine ih (k + 1) i' t _ (by omega) (by omega) ?_ (Or.inr ⟨_, rfl⟩)
        rw [cntB, ← e_y]
        split <;> omega
      · replace c24 : ¬ y.toInt < 0 := c24
        refine w_iincG O d14_27 (y := (1 : Int32)) (L' := fun zq => #[.val (.ref w), .val (.int zq), .val (.ref w), .val (.int z), .val (.int i), .val (.int y)]) (pc' := 30) rfl rfl rfl (fun _ => rfl) (fun t' e_t' => ?_)
        have i6 : ((t + (1 : Int32)).toInt - (t.toInt + 1)) % 4294967296 = 0 := c_iadd t (1 : Int32)
        have i7 := rng32 (t + (1 : Int32))
        have j_t' := congrArg Int32.toInt e_t'
        refine w_iincG O d14_30 (y := (1 : Int32)) (L' := fun zq => #[.val (.ref w), .val (.int t'), .val (.ref w), .val (.int z), .val (.int zq), .val (.int y)]) (pc' := 33) rfl rfl rfl (fun _ => rfl) (fun i' e_i' => ?_)
        have i9 : ((i + (1 : Int32)).toInt - (i.toInt + 1)) % 4294967296 = 0 := c_iadd i (1 : Int32)
        have i10 := rng32 (i + (1 : Int32))
        have j_i' := congrArg Int32.toInt e_i'
        refine w_goto O d14_33 (pc' := 10) (by decide) rfl ?_
        refine ih (k + 1) i' t' _ (by omega) (by omega) ?_ (Or.inr ⟨_, rfl⟩)
        rw [cntB, ← e_y]
        split <;> omega
  refine w_iconst O d14_0 (z := (0 : Int32)) (pc' := 1) rfl rfl ?_
  refine w_istoreN O d14_1 (L' := #[.val (.ref w), .val (.int (0 : Int32)), .unset, .unset, .unset, .unset]) (pc' := 2) rfl rfl ?_
  refine w_aloadN O d14_2 (pc' := 3) rfl rfl rfl ?_
  refine w_astoreN O d14_3 (L' := #[.val (.ref w), .val (.int (0 : Int32)), .val (.ref w), .unset, .unset, .unset]) (pc' := 4) rfl rfl rfl ?_
  refine w_aloadN O d14_4 (pc' := 5) rfl rfl rfl ?_
  refine w_alen O d14_5 (z := z) (pc' := 6) rfl A0 hz ?_
  refine w_istoreN O d14_6 (L' := #[.val (.ref w), .val (.int (0 : Int32)), .val (.ref w), .val (.int z), .unset, .unset]) (pc' := 7) rfl rfl ?_
  refine w_iconst O d14_7 (z := (0 : Int32)) (pc' := 8) rfl rfl ?_
  refine w_istore O d14_8 (L' := #[.val (.ref w), .val (.int (0 : Int32)), .val (.ref w), .val (.int z), .val (.int (0 : Int32)), .unset]) (pc' := 10) rfl rfl ?_
  exact loop n 0 _ _ _ (by decide) (by omega) rfl (Or.inl rfl)
theorem own_exact {Z : State} {args : Array Value} {t : Term} {C : String} (hx : (Jvm.Cond.exactly t C).value args Z none Z [] = some true) : ∃ a, t.eval args Z none [] Z = some (.ref a) ∧ Exa Z Z.heap a C := by
  obtain ⟨a', c', cell, k, e1, -⟩ := Cond.exactly_spec (Cond.before_iff.mpr hx)
  exact ⟨a', e1, Exa.start e1 hx⟩
theorem own_ord {Z : State} {args : Array Value} {t : Term} {K n d : String} {a : Addr} {y : Int32} (ev : t.eval args Z none [] Z = some (.ref a)) (h : (Jvm.Cond.eq (Term.field t K n d) (.int y)).value args Z none Z [] = some true) : Z.fieldOf? a K n d = some (.int y) := by
  have q := eqv_i (F := .int y) rfl h
  simpa [Term.eval, ev] using q
theorem ord_ne {o : Addr → Option Value} {a b : Addr} {i j : Int32} (h1 : o a = some (.int i)) (h2 : o b = some (.int j)) (q : i ≠ j) : a ≠ b := fun e => by
  rw [e, h2] at h1; exact q (Value.int.inj (Option.some.inj h1)).symm

section OwnJdk
variable {K : Cx} {l : Launch} {Z : State} {a0 : Array Value} {B : ByteArray} {ml : Nat} {rt : Option FieldType} {own nm : String} {R : Room} {n0 : Nat} {Q : Option Value → Heap → Prop} {h h' : Heap} {cl sl pc pc' : Nat} {L L' : Array Slot} {st st' : List Value} {ns : List String}
theorem own_rB : tables_1.all XT.rB = true := by decide +kernel
theorem own_ws {s : State} {args : Array Value} (hZ : Z.Warmed39 s.vm) (hw : ∀ d ∈ tables_1, d.before a0 Z = true) : ∀ d ∈ tables_1, d.before args s = true := fun d hd => XT.wide_of hZ d (List.all_eq_true.mp own_rB d hd) (hw d hd)
/-- every atom of these words stands in the claim's tables -/
def Inn (Ls : List Jvm.Cond) : Prop := (Ls.all fun c => (XT.flat c).all fun d => decide (d ∈ tables_1)) = true
theorem own_list {s : State} {args : Array Value} {Ls : List Jvm.Cond} (hs : ∀ d ∈ tables_1, d.before args s = true) (h : Inn Ls) : ∀ w ∈ Ls, w.before args s = true := fun w q => XT.of_flat w fun d hd => hs d (of_decide_eq_true (List.all_eq_true.mp (List.all_eq_true.mp h w q) d hd))
theorem own_one {s : State} {args : Array Value} {w : Jvm.Cond} (hs : ∀ d ∈ tables_1, d.before args s = true) (h : Inn [w]) : w.before args s = true := own_list hs h w (List.mem_singleton.mpr rfl)
/-- P holds of every state with this heap whose tables are Z's -/
def Hold (Z : State) (h : Heap) (P : State → Prop) : Prop := ∀ U : State, Z.vm.Alike U.vm → U.heap = h → P U
theorem Hold.base {P : State → Prop} (A : Hold Z h P) : P ({ Z with heap := h } : State) := A _ (Vm.Alike.refl _) rfl
theorem fc_ne {vm : Vm} {n m : String} {c : ClassId} (h : vm.findClass n = some c) (q : n ≠ m) : vm.findClass m ≠ some c := fun e => by
  obtain ⟨k1, a1, b1⟩ := Vm.findClass_spec h
  obtain ⟨k2, a2, b2⟩ := Vm.findClass_spec e
  cases a1.symm.trans a2
  exact q (b1.symm.trans b2)
/-- every cell of h but those of the classes ns stands in h' as it stood -/
def Kpt (Z : State) (h h' : Heap) (ns : List String) : Prop := ∀ (y : Addr) (c : Cell), h[y]? = some c → (c.vm.isStatics = true ∨ ∀ n ∈ ns, Z.vm.findClass n ≠ some c.cls) → h'[y]? = some c
theorem Kpt.cls {y : Addr} {c : Cell} {n : String} (Kq : Kpt Z h h' ns) (hy : h[y]? = some c) (hc : Z.vm.findClass n = some c.cls) (q : ∀ m ∈ ns, n ≠ m) : h'[y]? = some c := Kq y c hy (Or.inr fun m hm => fc_ne hc (q m hm))
theorem own_st {v : VmData} (h : v.isStatics = true) (q : ∀ k, v ≠ .statics k) : False := by
  cases v <;> first | exact q _ rfl | cases h | (simp [VmData.isStatics] at h)
theorem own_out {c D : Cell} {n : String} (e : c = D) (hn : n ∈ ns) (hD : Z.vm.findClass n = some D.cls) (ob : ∀ k, D.vm ≠ .statics k) (q : c.vm.isStatics = true ∨ ∀ m ∈ ns, Z.vm.findClass m ≠ some c.cls) : False := by
  subst e
  rcases q with q | q
  · exact own_st q ob
  · exact q n hn hD
/-- an Integer that holds v -/
def Box (Z : State) (h : Heap) (r : Addr) (v : Int32) : Prop := Exa Z h r "java/lang/Integer" ∧ Fld Z h r "java/lang/Integer" "value" "I" (.int v)
theorem Box.keep {r : Addr} {v : Int32} (F : Box Z h r v) (Kq : Kpt Z h h' ns) (q : ∀ m ∈ ns, "java/lang/Integer" ≠ m) : Box Z h' r v := by
  obtain ⟨⟨cell, k, h1, h2, h3, h4, h5⟩, cell', cf, k', i, f, g1, g2⟩ := F
  have e := Kq.cls h1 h2 q
  cases h1.symm.trans g1
  exact ⟨⟨cell, k, e, h2, h3, h4, h5⟩, cell, cf, k', i, f, e, g2⟩
theorem sta_keep {C n d : String} {v : Value} (F : Sta Z h C n d v) (Kq : Kpt Z h h' ns) : Sta Z h' C n d v := by
  obtain ⟨cf, i, k, f, s, cell, h1, h2, h3, h4, h5, h6, h7⟩ := F
  exact ⟨cf, i, k, f, s, cell, h1, h2, h3, h4, Kq s cell h5 (Or.inl h6), h6, h7⟩
/-- Integer's table of boxes -/
def Cch (Z : State) (h : Heap) : Prop := ∃ (ca : Addr) (r : Nat → Addr), Sta Z h "java/lang/Integer$IntegerCache" "high" "I" (.int 127) ∧ Sta Z h "java/lang/Integer$IntegerCache" "cache" "[Ljava/lang/Integer;" (.ref ca) ∧ Exa Z h ca "[Ljava/lang/Integer;" ∧ Afn Z h ca (.object "java/lang/Integer") 256 (fun i => .ref (r i)) ∧ ∀ i, i < 256 → Box Z h (r i) (Int32.ofNat i - 128)
theorem Cch.keep (F : Cch Z h) (Kq : Kpt Z h h' ns) (q1 : ∀ m ∈ ns, "[Ljava/lang/Integer;" ≠ m) (q2 : ∀ m ∈ ns, "java/lang/Integer" ≠ m) : Cch Z h' := by
  obtain ⟨ca, r, S1, S2, ⟨cell, k, h1, h2, h3⟩, ⟨c, A1, A2⟩, Bx⟩ := F
  have e := Kq.cls h1 h2 q1
  cases h1.symm.trans A1.1
  exact ⟨ca, r, sta_keep S1 Kq, sta_keep S2 Kq, ⟨cell, k, e, h2, h3⟩, ⟨cell, ⟨e, A1.2⟩, A2⟩, fun i hi => (Bx i hi).keep Kq q2⟩
section Lists
variable {x : ALB.Fix} {C : Cell} {ea : Addr} {E : Cell} {n : Nat} {mc : Int32} {g : ALB.G} {T : State} {dc : Addr} {Edc : Cell} {q : ALB.IG}
theorem Hold.al (A : ALB.Al x C ea E n mc T) (a : Z.vm.Alike T.vm) : Hold Z T.heap (ALB.Al x C ea E n mc) := fun U b e => A.carry (a.symm.trans b) (by rw [e]; exact A.hC) (by rw [e]; exact A.hE)
theorem Hold.alKeep (A : Hold Z h (ALB.Al x C ea E n mc)) (Kq : Kpt Z h h' ns) (q1 : ∀ m ∈ ns, AList.AL ≠ m) (q2 : ∀ m ∈ ns, AList.OAD ≠ m) : Hold Z h' (ALB.Al x C ea E n mc) := fun U b e => by
  have A0 := A.base
  have e1 := Kq.cls A0.hC (n := AList.AL) (by rw [A0.cl]; exact A0.fc) q1
  have e2 := Kq.cls A0.hE (n := AList.OAD) (by rw [A0.clE]; exact A0.fcO) q2
  exact A0.carry b (by rw [e]; exact e1) (by rw [e]; exact e2)
theorem Hold.ready (A : ALB.Ready g T) (a : Z.vm.Alike T.vm) : Hold Z T.heap (ALB.Ready g) := fun U b e => A.imp id fun q => ⟨q.1, q.2.move (a.symm.trans b) fun y cy hy _ => by rw [e]; exact hy⟩
theorem Hold.readyKeep (A : Hold Z h (ALB.Ready g)) (Kq : Kpt Z h h' ns) : Hold Z h' (ALB.Ready g) := fun U b e => A.base.imp id fun q => ⟨q.1, q.2.move b fun y cy hy hs => by rw [e]; exact Kq y cy hy (Or.inl hs)⟩
theorem Hold.dfKeep (A : Hold Z h (ALB.DfArr dc Edc)) (Kq : Kpt Z h h' ns) (q : ∀ m ∈ ns, AList.OAD ≠ m) : Hold Z h' (ALB.DfArr dc Edc) := fun U b e => A.base.move b (fun y cy hy hs => by rw [e]; exact Kq y cy hy (Or.inl hs)) (by rw [e]; exact Kq.cls A.base.2.1 A.base.2.2.2.2.1 q)
theorem Hold.both (A : ALB.Both q T) (a : Z.vm.Alike T.vm) : Hold Z T.heap (ALB.Both q) := fun U b e => ALB.Both.move (a.symm.trans b) e A
theorem Hold.bothKeep (A : Hold Z h (ALB.Both q)) (Kq : Kpt Z h h' ns) (q1 : ∀ m ∈ ns, AList.AL ≠ m) (q2 : ∀ m ∈ ns, AList.OAD ≠ m) (q3 : ∀ m ∈ ns, ALB.ITR ≠ m) : Hold Z h' (ALB.Both q) := fun U b e =>
  ⟨A.base.1.carry b (by rw [e]; exact Kq.cls A.base.1.hD (n := ALB.ITR) (by rw [A.base.1.cl]; exact A.base.1.fc) q3), Hold.alKeep (fun U b e => (A U b e).2) Kq q1 q2 U b e⟩
theorem own_df (S : Sta Z h "java/util/ArrayList" "DEFAULTCAPACITY_EMPTY_ELEMENTDATA" "[Ljava/lang/Object;" (.ref dc)) (X : Exa Z h dc "[Ljava/lang/Object;") (A : Arr Z h dc Edc (.object "java/lang/Object")) (hz : Edc.slots.size = 0) : Hold Z h (ALB.DfArr dc Edc) := by
  obtain ⟨cf, i, k, f, s, cell, h1, h2, h3, h4, h5, h6, h7⟩ := S
  obtain ⟨c2, k2, g1, g2, g3, g4, g5⟩ := X
  have e0 := Option.some.inj (g1.symm.trans A.1)
  rw [e0] at g1 g2 g4
  have D0 : ALB.DfArr dc Edc ({ Z with heap := h } : State) := ⟨⟨cf, i, k, f, s, cell, h1, h2, h3, h4, h5, (fun e => by rw [e] at h6; cases h6), h7, h6⟩, g1, A.2.2, g4, g2, hz⟩
  exact fun U b e => D0.move b (fun y cy hy _ => by rw [e]; exact hy) (by rw [e]; exact g1)
/-- a list of the k Integers vs -/
def Lk (Z : State) (h : Heap) (n0 : Nat) (x : ALB.Fix) (k : Nat) (vs : List Int32) : Prop := ∃ (C : Cell) (ea : Addr) (E : Cell) (mc : Int32), Hold Z h (ALB.Al x C ea E k mc) ∧ Hold Z h (ALB.Ready ⟨x, C, ea, E, k, mc⟩) ∧ n0 ≤ x.a ∧ Z.vm.findClass "java/lang/Object" = some x.comp ∧ ((k = 0 ∧ E.slots.size = 0) ∨ (n0 ≤ ea ∧ E.slots.size = 10)) ∧ vs.length = k ∧ ∀ (i : Nat) (v : Int32), vs[i]? = some v → ∃ r, E.slots[i]? = some (.ref r) ∧ Box Z h r v
theorem Lk.keep {k : Nat} {vs : List Int32} (F : Lk Z h n0 x k vs) (Kq : Kpt Z h h' ns) (q1 : ∀ m ∈ ns, AList.AL ≠ m) (q2 : ∀ m ∈ ns, AList.OAD ≠ m) (q3 : ∀ m ∈ ns, "java/lang/Integer" ≠ m) : Lk Z h' n0 x k vs := by
  obtain ⟨C, ea, E, mc, A, Rd, ga, hO, he, hl, Bx⟩ := F
  exact ⟨C, ea, E, mc, A.alKeep Kq q1 q2, Rd.readyKeep Kq, ga, hO, he, hl, fun i v e => by obtain ⟨r, e1, e2⟩ := Bx i v e; exact ⟨r, e1, e2.keep Kq q3⟩⟩
theorem own_elt {r : Addr} {v : Int32} (F : Box Z h r v) (hO : Z.vm.findClass "java/lang/Object" = some x.comp) (wc : (Jvm.Cond.castable "java/lang/Integer" "java/lang/Object").before a0 Z = true) : Hold Z h (ALB.Elt x (.ref r)) := by
  obtain ⟨cell, cT, i1, i2, i3⟩ := Ins.of_exa F.1 wc
  obtain ⟨c2, k, g1, g2, g3, g4, -⟩ := F.1
  cases i1.symm.trans g1
  cases i2.symm.trans hO
  simp only [Bool.and_eq_true, Bool.not_eq_true'] at i3
  have D0 : ALB.Elt x (.ref r) ({ Z with heap := h } : State) := Or.inr ⟨r, cell, k, rfl, i1, VmData.noStatics_of g4, g3, i3.2⟩
  exact fun U b e => D0.carry b (fun r' cv hr => ⟨cv, by rw [e]; exact hr, rfl, rfl⟩)
end Lists
section Streams
variable {a b : Addr} {fB fC : Field} {D Bc : Cell} {n : Nat} {T : State}
theorem Hold.bo (A : JY.Bo a fB fC D b Bc n T) (al : Z.vm.Alike T.vm) : Hold Z T.heap (JY.Bo a fB fC D b Bc n) := fun U c e => A.mv (al.symm.trans c) e
theorem Hold.boKeep (A : Hold Z h (JY.Bo a fB fC D b Bc n)) (Kq : Kpt Z h h' ns) (q1 : ∀ m ∈ ns, "java/io/ByteArrayOutputStream" ≠ m) (q2 : ∀ m ∈ ns, "[B" ≠ m) : Hold Z h' (JY.Bo a fB fC D b Bc n) := fun U c e => by
  have A0 := A.base
  have e1 := Kq.cls A0.1.1 A0.1.2.2.1 q1
  have e2 := Kq.cls A0.2.2.2.1.1 A0.2.2.2.2.1 q2
  exact A0.to c (A0.1.keep c (by rw [e]; exact e1)) rfl (by rw [e]; exact e2)
/-- a stream at a: the N bytes bs are written; its buffer has cp places -/
def BoS (Z : State) (h : Heap) (n0 : Nat) (a : Addr) (cp N : Nat) (bs : List Int32) : Prop := ∃ (fB fC : Field) (D : Cell) (b : Addr) (Bc : Cell), Hold Z h (JY.Bo a fB fC D b Bc N) ∧ XT.Unheld D ∧ Bc.slots.size = cp ∧ ALB.lst Bc N = bs.map Value.int ∧ n0 ≤ b
theorem BoS.keep {cp N : Nat} {bs : List Int32} (F : BoS Z h n0 a cp N bs) (Kq : Kpt Z h h' ns) (q1 : ∀ m ∈ ns, "java/io/ByteArrayOutputStream" ≠ m) (q2 : ∀ m ∈ ns, "[B" ≠ m) : BoS Z h' n0 a cp N bs := by
  obtain ⟨fB, fC, D, b, Bc, A, r⟩ := F
  exact ⟨fB, fC, D, b, Bc, A.boKeep Kq q1 q2, r⟩
theorem own_lst {N : Nat} {bs : List Int32} (hl : ALB.lst Bc N = bs.map Value.int) (hN : N ≤ Bc.slots.size) : bs.length = N ∧ ∀ j, j < N → ∀ d, Bc.slots.getD j d = .int (bs.getD j 0) := by
  have hlen : bs.length = N := by
    have q := congrArg List.length hl
    simp [ALB.lst] at q
    omega
  refine ⟨hlen, fun j hj d => ?_⟩
  have e := ALB.lst_get Bc N j
  have hj' : j < bs.length := by omega
  rw [hl, if_pos hj, List.getElem?_map, List.getElem?_eq_getElem hj'] at e
  rw [Array.getD_eq_getD_getElem?, ← e]
  simp [List.getElem?_eq_getElem hj']
end Streams

theorem w_newC (O : Ok K l Z a0 tables_1 B ml rt own nm R n0 Q) {i n cl' sl' : Nat} {C : String} (hd : decode B pc = .ok (.new i, 3)) (hp : pc + 3 = pc') (w1 : Jvm.Cond.classLink own i C ∈ tables_1) (w2 : Jvm.Cond.instantiable C n ∈ tables_1) (w3 : Jvm.Cond.initialized C ∈ tables_1) (hc : cl + 1 = cl') (hs : sl + n = sl') (hc' : cl' ≤ R.cells) (hs' : sl' ≤ R.slots)
    (k : ∀ (h' : Heap) (b : Addr) (cC : ClassId) (kC : Class), b = h.size → n0 ≤ b → Kpt Z h h' [] → K.2.1.1.vm.findClass C = some cC → K.2.1.1.vm.classes[cC]? = some kC → kC.kind = .ordinary → h'[b]? = some { cls := cC, slots := kC.instanceTypes.map defaultValue, vm := .none } → W K h' cl' sl' pc' L (.ref b :: st)) : W K h cl sl pc L st := by
  obtain ⟨⟨p, l', e', R'⟩, ⟨s, m, args, below⟩, ⟨meth, c⟩, Q', n0'⟩ := K
  obtain ⟨hx, hby, hml, hown, hnm, hrt, hlk, hZ, hw, hn0, hl', hR', hn', hQ'⟩ := O
  dsimp only at hx hby hml hown hnm hrt hlk hZ hn0 hl' hR' hn' hQ'
  subst hl' hR' hn' hQ'
  subst hp hc hs
  intro T locs X eT N
  subst eT
  obtain ⟨vm', cC, kC, h1, h2, h3, h4, X', st2⟩ := X.newCold hx hown (mvT hZ (hw _ w1)) (mvT hZ (hw _ w2)) (mvT hZ (hw _ w3)) (g := mkF m pc L st) rfl (hb hby hd) hc' hs'
  obtain ⟨s2, o, r1, r⟩ := k (T.heap.push { cls := cC, slots := kC.instanceTypes.map defaultValue, vm := .none }) T.heap.size cC kC rfl (Nat.le_trans hn0 X.same.2.1) (fun y c q _ => by
    rw [Array.getElem?_push_lt (Array.getElem?_eq_some_iff.mp q).1]; exact (Array.getElem?_eq_getElem _).symm.trans q) h1 h2 h3 (by simp) _ _ X' rfl N
  exact ⟨s2, o, st2 _ r1, r⟩
theorem w_newM (O : Ok K l Z a0 tables_1 B ml rt own nm R n0 Q) {i n cl' sl' : Nat} {C : String} (hd : decode B pc = .ok (.new i, 3)) (hp : pc + 3 = pc') (w1 : Jvm.Cond.classLink own i C ∈ tables_1) (w2 : Jvm.Cond.instantiable C n ∈ tables_1) (w3 : Jvm.Cond.initialized C ∈ tables_1) (hc : cl + 1 = cl') (hs : sl + n = sl') (hc' : cl' ≤ R.cells) (hs' : sl' ≤ R.slots)
    (k : ∀ (h' : Heap) (b : Addr), b = h.size → n0 ≤ b → Kpt Z h h' [] → Exa Z h' b C → (∀ {Ow nf d : String} {ty : FieldType}, Laid Z a0 C Ow nf d → parseFieldDescriptor d = some ty → Fld Z h' b Ow nf d (defaultValue ty)) → (∃ cell : Cell, h'[b]? = some cell ∧ cell.vm = .none ∧ cell.monitor = {}) → W K h' cl' sl' pc' L (.ref b :: st)) : W K h cl sl pc L st := by
  obtain ⟨⟨p, l', e', R'⟩, ⟨s, m, args, below⟩, ⟨meth, c⟩, Q', n0'⟩ := K
  obtain ⟨hx, hby, hml, hown, hnm, hrt, hlk, hZ, hw, hn0, hl', hR', hn', hQ'⟩ := O
  dsimp only at hx hby hml hown hnm hrt hlk hZ hn0 hl' hR' hn' hQ'
  subst hl' hR' hn' hQ'
  subst hp hc hs
  intro T locs X eT N
  obtain ⟨T2, h2, X2, e2, E2, A2, D2, M2, st2⟩ := newO X hx hZ hown (hw _ w1) (hw _ w2) (hw _ w3) eT (g := mkF m pc L st) rfl (hb hby hd) hc' hs'
  obtain ⟨s2, o, h1, r⟩ := k h2 h.size rfl (Nat.le_trans hn0 (by rw [← eT]; exact X.same.2.1)) (fun y c q _ => E2.2 y c q) A2 D2 M2 T2 _ X2 e2 N
  exact ⟨s2, o, st2 _ h1, r⟩
theorem w_listInit (O : Ok K l Z a0 tables_1 B ml rt own nm R n0 Q) {i wt : Nat} {dc : Addr} {Edc : Cell} {b : Addr} {cC : ClassId} {kC : Class} (hd : decode B pc = .ok (.invokespecial i, 3)) (hp : pc + 3 = pc') (w1 : Inn (ALB.initW own i)) (w2 : Inn ALB.rawW) (D : Hold Z h (ALB.DfArr dc Edc)) (hfc : K.2.1.1.vm.findClass AList.AL = some cC) (hkC : K.2.1.1.vm.classes[cC]? = some kC) (hkind : kC.kind = .ordinary)
    (hcell : h[b]? = some { cls := cC, slots := kC.instanceTypes.map defaultValue, vm := .none }) (gb : n0 ≤ b) (hwt : (st.map fun v => v.category).sum = wt) (hsz : L.size = ml) (hf : 4 ≤ R.frames) (hl : wt + 62 ≤ R.locals) (hc' : cl ≤ R.cells) (hs' : sl ≤ R.slots)
    (k : ∀ (h' : Heap) (x : ALB.Fix), x.a = b → Lk Z h' n0 x 0 [] → Kpt Z h h' [AList.AL] → W K h' cl sl pc' L st) : W K h cl sl pc L (.ref b :: st) := by
  obtain ⟨⟨p, l', e', R'⟩, ⟨s, m, args, below⟩, ⟨meth, c⟩, Q', n0'⟩ := K
  obtain ⟨hx, hby, hml, hown, hnm, hrt, hlk, hZ, hw, hn0, hl', hR', hn', hQ'⟩ := O
  dsimp only at hx hby hml hown hnm hrt hlk hZ hn0 hl' hR' hn' hQ'
  subst hl' hR' hn' hQ'
  dsimp only at hfc hkC
  subst hp hml
  intro T locs X eT N
  have hws := own_ws (args := args) hZ hw
  have aT := hZ.alike.trans X.warmed.alike
  obtain ⟨T', L', x, C', hxa, X', hL, hA, hR, hO, hCv, hk, st1⟩ := X.alInit hx hown (own_list hws w1) (own_list hws w2) (D T aT eT) hfc hkC hkind (by rw [eT]; exact hcell) (W := wt) (g := mkF m pc L (.ref b :: st)) rfl hsz (Steps.refl _) (rest := st) rfl (by show 2 * 0 + _ ≤ _; omega) (hb hby hd) hf hl hc' hs'
  have aT' := hZ.alike.trans X'.warmed.alike
  have hO' : Z.vm.findClass "java/lang/Object" = some x.comp := by rw [← hZ.alike.findClass]; exact hO
  have hcZ : Z.vm.findClass AList.AL = some cC := by rw [← hZ.alike.findClass]; exact hfc
  subst hxa
  obtain ⟨s2, o, h1, r⟩ := k T'.heap x rfl ⟨C', dc, Edc, 0, Hold.al hA aT', Hold.ready hR aT', gb, hO', Or.inl ⟨rfl, D.base.2.2.2.2.2⟩, rfl, fun i v q => by simp at q⟩ (fun y c hy hq => hk y c (fun e => by
    subst e
    exact own_out (Option.some.inj (hy.symm.trans hcell)) (List.mem_singleton.mpr rfl) hcZ (fun k => by simp) hq) (by rw [eT]; exact hy)) T' _ X' rfl (Fr.app N (fun y hy => by rw [hL y hy]; exact gb))
  exact ⟨s2, o, st1.trans h1, r⟩
theorem own_cast : Jvm.Cond.castable "java/lang/Integer" "java/lang/Object" ∈ tables_1 := by decide +kernel
theorem own_addW : Inn ALB.addW := by unfold Inn; decide +kernel
theorem w_listAdd (O : Ok K l Z a0 tables_1 B ml rt own nm R n0 Q) {i wt cl' sl' k : Nat} {x : ALB.Fix} {vs : List Int32} {r : Addr} {v : Int32} (hd : decode B pc = .ok (.invokevirtual i, 3)) (hp : pc + 3 = pc') (w1 : Inn (ALB.addVW own i)) (S : Lk Z h n0 x k vs) (Bx : Box Z h r v) (hk9 : k + 1 < 10) (hwt : (st.map fun v => v.category).sum = wt) (hsz : L.size = ml) (hf : 6 ≤ R.frames) (hl : wt + 133 ≤ R.locals) (hc : cl + 1 = cl') (hs : sl + 10 = sl') (hc' : cl' ≤ R.cells) (hs' : sl' ≤ R.slots)
    (kk : ∀ h' : Heap, Lk Z h' n0 x (k + 1) (vs ++ [v]) → Kpt Z h h' [AList.AL, AList.OAD] → W K h' cl' sl' pc' L (.int 1 :: st)) : W K h cl sl pc L (.ref r :: .ref x.a :: st) := by
  obtain ⟨⟨p, l', e', R'⟩, ⟨s, m, args, below⟩, ⟨meth, c⟩, Q', n0'⟩ := K
  obtain ⟨hx, hby, hml, hown, hnm, hrt, hlk, hZ, hw, hn0, hl', hR', hn', hQ'⟩ := O
  dsimp only at hx hby hml hown hnm hrt hlk hZ hn0 hl' hR' hn' hQ'
  subst hl' hR' hn' hQ'
  subst hp hc hs hml
  obtain ⟨C, ea, E, mc, A, Rd, ga, hO, he, hlen, Bxs⟩ := S
  intro T locs X eT N
  have hws := own_ws (args := args) hZ hw
  have aT := hZ.alike.trans X.warmed.alike
  obtain ⟨T', L', C', ea', E', X', hL, hA, -, -, -, hv, hold, hea, hk, -, st1⟩ := X.alAddV hx hown (own_list hws w1) (own_list hws own_addW) (A T aT eT) (Rd T aT eT) (own_elt Bx hO (hw _ own_cast) T aT eT) (W := wt) (g := mkF m pc L (.ref r :: .ref x.a :: st)) rfl hsz (Steps.refl _) (rest := st) rfl (by show 2 * 0 + _ ≤ _; omega) (hb hby hd) hf hl hc' hs'
  have aT' := hZ.alike.trans X'.warmed.alike
  have A0 := A.base
  have hn1 : n0' ≤ T.heap.size := Nat.le_trans hn0 X.same.2.1
  have kp : Kpt Z h T'.heap [AList.AL, AList.OAD] := fun y c hy hq => hk y c (fun e => by
      subst e
      exact own_out (Option.some.inj (hy.symm.trans A0.hC)) (n := AList.AL) (by simp) (by rw [A0.cl]; exact A0.fc) A0.ob hq) (fun e => by
      subst e
      exact own_out (Option.some.inj (hy.symm.trans A0.hE)) (n := AList.OAD) (by simp) (by rw [A0.clE]; exact A0.fcO) A0.obE hq) (by rw [eT]; exact hy)
  have hnew : n0' ≤ ea' ∧ E'.slots.size = 10 ∧ Fr n0' L' := by
    rcases hea with ⟨e1, e2, -⟩ | ⟨e1, e2, e3, -⟩
    · rcases he with ⟨e4, e5⟩ | ⟨e4, e5⟩
      · have := (Array.getElem?_eq_some_iff.mp hv).1
        exfalso; omega
      · exact ⟨by rw [e1]; exact e4, by omega, fun y hy => (hL y hy).elim (fun q => by rw [q]; exact ga) (fun q => by rw [q]; exact e4)⟩
    · exact ⟨by rw [e1]; exact hn1, e2, fun y hy => by rw [e3 y hy]; exact ga⟩
  obtain ⟨g1, g2, g3⟩ := hnew
  obtain ⟨s2, o, h1, r⟩ := kk T'.heap ⟨C', ea', E', mc + 1, Hold.al hA aT', (fun U b e => Or.inl (by show k + 1 < E'.slots.size; omega)), ga, hO, Or.inr ⟨g1, g2⟩, by simp [hlen], fun i w q => by
    rw [List.getElem?_append] at q
    split at q
    · rename_i hi
      obtain ⟨r', e1, e2⟩ := Bxs i w q
      exact ⟨r', by rw [hold i (by omega)]; exact e1, e2.keep kp (by decide)⟩
    · rename_i hi
      have hi' : i = k := by
        rcases Nat.lt_or_ge (i - vs.length) 1 with z | z
        · omega
        · rw [List.getElem?_eq_none (by simpa using z)] at q; cases q
      subst hi'
      rw [hlen, Nat.sub_self] at q
      have q' : v = w := by simpa using q
      subst q'
      exact ⟨r, hv, Bx.keep kp (by decide)⟩⟩ kp T' _ X' rfl (Fr.app N g3)
  exact ⟨s2, o, st1.trans h1, r⟩
theorem own_sizeT : Inn [AList.Size.tab, .initialized AList.AL] := by unfold Inn; decide +kernel
theorem w_alSize (O : Ok K l Z a0 tables_1 B ml rt own nm R n0 Q) {i cnt wt n : Nat} {x : ALB.Fix} {C : Cell} {ea : Addr} {E : Cell} {mc : Int32} (hd : decode B pc = .ok (.invokeinterface i cnt, 5)) (hp : pc + 5 = pc') (w1 : Inn (ALB.sizeIW own i)) (A : Hold Z h (ALB.Al x C ea E n mc)) (hwt : (st.map fun v => v.category).sum = wt) (hsz : L.size = ml) (hf : 2 ≤ R.frames) (hl : wt + 52 ≤ R.locals) (hc' : cl ≤ R.cells) (hs' : sl ≤ R.slots) (k : W K h cl sl pc' L (.int (Int32.ofNat n) :: st)) : W K h cl sl pc L (.ref x.a :: st) := by
  obtain ⟨⟨p, l', e', R'⟩, ⟨s, m, args, below⟩, ⟨meth, c⟩, Q', n0'⟩ := K
  obtain ⟨hx, hby, hml, hown, hnm, hrt, hlk, hZ, hw, hn0, hl', hR', hn', hQ'⟩ := O
  dsimp only at hx hby hml hown hnm hrt hlk hZ hn0 hl' hR' hn' hQ'
  subst hl' hR' hn' hQ'
  subst hp hml
  intro T locs X eT N
  have hws := own_ws (args := args) hZ hw
  have aT := hZ.alike.trans X.warmed.alike
  obtain ⟨T', X', hh, -, -, st1⟩ := X.alSizeI hx hown (own_list hws w1) (own_list hws own_sizeT _ (by simp)) (own_list hws own_sizeT _ (by simp)) (A T aT eT) (W := wt) (g := mkF m pc L (.ref x.a :: st)) rfl hsz (Steps.refl _) (rest := st) rfl (by show 2 * 0 + _ ≤ _; omega) (hb hby hd) (by show 1 + 1 ≤ _; omega) (by show wt + (1 + 11) + 40 ≤ _; omega) hc' hs'
  obtain ⟨s2, o, h1, r⟩ := k T' _ X' (hh.trans eT) N
  exact ⟨s2, o, st1.trans h1, r⟩
theorem own_iterT : Inn [ALB.IterM.tab] := by unfold Inn; decide +kernel
theorem w_iter (O : Ok K l Z a0 tables_1 B ml rt own nm R n0 Q) {i cnt wt cl' sl' : Nat} {z : ALB.G} (hd : decode B pc = .ok (.invokeinterface i cnt, 5)) (hp : pc + 5 = pc') (w1 : Inn (ALB.iterIW own i)) (A : Hold Z h (ALB.Al z.x z.C z.ea z.E z.n z.mc)) (hwt : (st.map fun v => v.category).sum = wt) (hsz : L.size = ml) (hf : 3 ≤ R.frames) (hl : wt + 72 ≤ R.locals) (hc : cl + 1 = cl') (hs : sl + 4 = sl') (hc' : cl' ≤ R.cells) (hs' : sl' ≤ R.slots)
    (k : ∀ (h' : Heap) (y : ALB.IFix) (D : Cell), n0 ≤ y.it → Hold Z h' (ALB.Both ⟨y, D, 0, -1, z⟩) → Kpt Z h h' [] → W K h' cl' sl' pc' L (.ref y.it :: st)) : W K h cl sl pc L (.ref z.x.a :: st) := by
  obtain ⟨⟨p, l', e', R'⟩, ⟨s, m, args, below⟩, ⟨meth, c⟩, Q', n0'⟩ := K
  obtain ⟨hx, hby, hml, hown, hnm, hrt, hlk, hZ, hw, hn0, hl', hR', hn', hQ'⟩ := O
  dsimp only at hx hby hml hown hnm hrt hlk hZ hn0 hl' hR' hn' hQ'
  subst hl' hR' hn' hQ'
  subst hp hc hs hml
  intro T locs X eT N
  have hws := own_ws (args := args) hZ hw
  have aT := hZ.alike.trans X.warmed.alike
  obtain ⟨T', y, D, X', hy, hB, -, hk, st1⟩ := X.alIteratorI hx hown (own_list hws w1) (own_one hws own_iterT) (A T aT eT) (W := wt) (g := mkF m pc L (.ref z.x.a :: st)) rfl hsz (Steps.refl _) (rest := st) rfl (by show 2 * 0 + _ ≤ _; omega) (hb hby hd) hf hl hc' hs'
  have aT' := hZ.alike.trans X'.warmed.alike
  obtain ⟨s2, o, h1, r⟩ := k T'.heap y D (by rw [hy]; exact Nat.le_trans hn0 X.same.2.1) (Hold.both hB aT') (fun a c q _ => hk a c (by rw [eT]; exact q)) T' _ X' rfl N
  exact ⟨s2, o, st1.trans h1, r⟩
theorem own_hasT : Inn [ALB.HasNext.tab, .initialized ALB.ITR] := by unfold Inn; decide +kernel
theorem w_hasNext (O : Ok K l Z a0 tables_1 B ml rt own nm R n0 Q) {i cnt wt : Nat} {q : ALB.IG} {z : Int32} (hd : decode B pc = .ok (.invokeinterface i cnt, 5)) (hp : pc + 5 = pc') (w1 : Inn (ALB.hasIW own i)) (A : Hold Z h (ALB.Both q)) (hkn : q.k ≤ q.g.n) (hz : ALB.HasNext.more q = z) (hwt : (st.map fun v => v.category).sum = wt) (hsz : L.size = ml) (hf : 2 ≤ R.frames) (hl : wt + 32 ≤ R.locals) (hc' : cl ≤ R.cells) (hs' : sl ≤ R.slots) (k : W K h cl sl pc' L (.int z :: st)) : W K h cl sl pc L (.ref q.y.it :: st) := by
  obtain ⟨⟨p, l', e', R'⟩, ⟨s, m, args, below⟩, ⟨meth, c⟩, Q', n0'⟩ := K
  obtain ⟨hx, hby, hml, hown, hnm, hrt, hlk, hZ, hw, hn0, hl', hR', hn', hQ'⟩ := O
  dsimp only at hx hby hml hown hnm hrt hlk hZ hn0 hl' hR' hn' hQ'
  subst hl' hR' hn' hQ'
  subst hp hml hz
  intro T locs X eT N
  have hws := own_ws (args := args) hZ hw
  have aT := hZ.alike.trans X.warmed.alike
  obtain ⟨T', X', hh, -, -, st1⟩ := X.itHasNextI hx hown (own_list hws w1) (own_list hws own_hasT _ (by simp)) (own_list hws own_hasT _ (by simp)) (A T aT eT) hkn (W := wt) (g := mkF m pc L (.ref q.y.it :: st)) rfl hsz (Steps.refl _) (rest := st) rfl (by show 2 * 0 + _ ≤ _; omega) (hb hby hd) hf hl hc' hs'
  obtain ⟨s2, o, h1, r⟩ := k T' _ X' (hh.trans eT) N
  exact ⟨s2, o, st1.trans h1, r⟩
theorem own_nextT : Inn [ALB.Next.tab] := by unfold Inn; decide +kernel
theorem w_next (O : Ok K l Z a0 tables_1 B ml rt own nm R n0 Q) {i cnt wt : Nat} {q : ALB.IG} {v : Value} (hd : decode B pc = .ok (.invokeinterface i cnt, 5)) (hp : pc + 5 = pc') (w1 : Inn (ALB.nextIW own i)) (A : Hold Z h (ALB.Both q)) (hkn : q.k < q.g.n) (hv : q.g.E.slots[q.k]? = some v) (hr : v.isRef = true) (gi : n0 ≤ q.y.it) (hwt : (st.map fun v => v.category).sum = wt) (hsz : L.size = ml) (hf : 3 ≤ R.frames) (hl : wt + 74 ≤ R.locals) (hc' : cl ≤ R.cells) (hs' : sl ≤ R.slots)
    (k : ∀ h' : Heap, Hold Z h' (ALB.Both q.step) → Kpt Z h h' [ALB.ITR] → W K h' cl sl pc' L (v :: st)) : W K h cl sl pc L (.ref q.y.it :: st) := by
  obtain ⟨⟨p, l', e', R'⟩, ⟨s, m, args, below⟩, ⟨meth, c⟩, Q', n0'⟩ := K
  obtain ⟨hx, hby, hml, hown, hnm, hrt, hlk, hZ, hw, hn0, hl', hR', hn', hQ'⟩ := O
  dsimp only at hx hby hml hown hnm hrt hlk hZ hn0 hl' hR' hn' hQ'
  subst hl' hR' hn' hQ'
  subst hp hml
  intro T locs X eT N
  have hws := own_ws (args := args) hZ hw
  have aT := hZ.alike.trans X.warmed.alike
  obtain ⟨T', X', hB, hk, st1⟩ := X.itNextI hx hown (own_list hws w1) (own_one hws own_nextT) (A T aT eT) hkn hv hr (W := wt) (g := mkF m pc L (.ref q.y.it :: st)) rfl hsz (Steps.refl _) (rest := st) rfl (by show 2 * 0 + _ ≤ _; omega) (hb hby hd) hf hl hc' hs'
  have aT' := hZ.alike.trans X'.warmed.alike
  have A0 := A.base.1
  obtain ⟨s2, o, h1, r⟩ := k T'.heap (Hold.both hB aT') (fun y c hy hq => hk y c (fun e => by
    subst e
    exact own_out (Option.some.inj (hy.symm.trans A0.hD)) (n := ALB.ITR) (by simp) (by rw [A0.cl]; exact A0.fc) A0.ob hq) (by rw [eT]; exact hy)) T' _ X' rfl (Fr.app N (fun y hy => by
    simp only [List.mem_cons, List.not_mem_nil, or_false] at hy
    rcases hy with rfl | rfl <;> exact gi))
  exact ⟨s2, o, st1.trans h1, r⟩
theorem pd_iv : parseMethodDescriptor "(I)V" = some ⟨[.int], none⟩ := by decide +kernel
theorem pd_ba : parseMethodDescriptor "()[B" = some ⟨[], some (.array .byte)⟩ := by decide +kernel
theorem own_initT : Inn [.instanceMethod JY.InitN.yN, .code JY.InitN.yN JY.InitN.yB 2 none, JY.InitN.tab] := by unfold Inn; decide +kernel
theorem w_boInit (O : Ok K l Z a0 tables_1 B ml rt own nm R n0 Q) {i wt n cl' sl' : Nat} {a : Addr} (hd : decode B pc = .ok (.invokespecial i, 3)) (hp : pc + 3 = pc') (w1 : Inn [.methodLink own i JY.InitN.yN]) (wi : Jvm.Cond.instantiable "java/io/ByteArrayOutputStream" 2 ∈ tables_1) (E : Exa Z h a "java/io/ByteArrayOutputStream") (Fc : Fld Z h a "java/io/ByteArrayOutputStream" "count" "I" (.int 0)) (Fb : Fld Z h a "java/io/ByteArrayOutputStream" "buf" "[B" .null) (Mo : ∃ cell : Cell, h[a]? = some cell ∧ cell.vm = .none ∧ cell.monitor = {}) (ga : n0 ≤ a) (hn : n ≤ 200000000) (hwt : (st.map fun v => v.category).sum = wt) (hsz : L.size = ml) (hf : 3 ≤ R.frames) (hl : wt + 37 ≤ R.locals) (hc : cl + 1 = cl') (hs : sl + n = sl') (hc' : cl' ≤ R.cells) (hs' : sl' ≤ R.slots)
    (k : ∀ h' : Heap, BoS Z h' n0 a n 0 [] → Kpt Z h h' ["java/io/ByteArrayOutputStream"] → W K h' cl' sl' pc' L st) : W K h cl sl pc L (.int (Int32.ofNat n) :: .ref a :: st) := by
  obtain ⟨⟨p, l', e', R'⟩, ⟨s, m, args, below⟩, ⟨meth, c⟩, Q', n0'⟩ := K
  obtain ⟨hx, hby, hml, hown, hnm, hrt, hlk, hZ, hw, hn0, hl', hR', hn', hQ'⟩ := O
  dsimp only at hx hby hml hown hnm hrt hlk hZ hn0 hl' hR' hn' hQ'
  subst hl' hR' hn' hQ'
  subst hp hc hs hml
  obtain ⟨D, k0, h1, h2, h3, h4, h5⟩ := E
  obtain ⟨D1, cf1, k1, i1, fC, a1, a2, a3, a4, a5, a6, a7⟩ := Fc
  obtain ⟨D2, cf2, k2, i2, fB, b1, b2, b3, b4, b5, b6, b7⟩ := Fb
  obtain ⟨D3, m1, m2, m3⟩ := Mo
  cases h1.symm.trans a1
  cases h1.symm.trans b1
  cases h1.symm.trans m1
  have hko : k0.kind = .ordinary := by
    obtain ⟨c9, k9, g1, g2, g3, -⟩ := Cond.instantiable_spec (hw _ wi)
    cases h2.symm.trans g1
    cases h3.symm.trans g2
    exact g3
  have B0 : XT.Blank "java/io/ByteArrayOutputStream" a D ({ Z with heap := h } : State) := ⟨h1, ⟨a4, VmData.noStatics_of h4⟩, h2, k0, h3, hko, h5 hko⟩
  have F1 : XT.Found "java/io/ByteArrayOutputStream" "buf" "[B" fB ({ Z with heap := h } : State) := ⟨⟨cf2, k2, i2, b2⟩, b3⟩
  have F2 : XT.Found "java/io/ByteArrayOutputStream" "count" "I" fC ({ Z with heap := h } : State) := ⟨⟨cf1, k1, i1, a2⟩, a3⟩
  intro T locs X eT N
  have hws := own_ws (args := args) hZ hw
  have aT := hZ.alike.trans X.warmed.alike
  obtain ⟨v, vm1, ⟨T', L', k', n'⟩, hW1, X', ⟨hE, l1, y1, z1⟩, st1⟩ := X.specialBack hx (y := JY.InitN.yN) rfl hown (own_one hws w1) (own_list hws own_initT _ (by simp)) (own_list hws own_initT (.code JY.InitN.yN JY.InitN.yB 2 none) (by simp)) (by decide) (JY.InitN.pays (W := wt) a fB fC D n (own_list hws own_initT _ (by simp)) hf hl) (g := mkF m pc L (.int (Int32.ofNat n) :: .ref a :: st)) rfl hsz (Steps.refl _) (a := a) (argsL := [.int (Int32.ofNat n)]) (rest := st) (lenOf pd_iv rfl) rfl (by show 2 * 0 + _ ≤ _; omega) (hb hby hd) (fun vmx hWx => ⟨hc', hs', rfl, B0.mv (U' := T.setVm vmx) (hZ.alike.trans hWx.alike) eT, F1.al (U' := T.setVm vmx) (hZ.alike.trans hWx.alike), F2.al (U' := T.setVm vmx) (hZ.alike.trans hWx.alike), a7, hn⟩)
  dsimp only [Pt.U, Pt.locs, Pt.cells, Pt.slots] at X' l1 y1 z1 st1 hE
  subst l1 y1 z1
  obtain ⟨rfl, D', b, Bc, q1, q2, q3, q4, q5⟩ := hE
  have aT' := hZ.alike.trans X'.warmed.alike
  obtain ⟨s2, o, g1, r⟩ := k T'.heap ⟨fB, fC, D', b, Bc, Hold.bo q1 aT', by show D'.monitor.owner = none ∧ D'.monitor.count = 0; rw [q2, m3]; exact ⟨rfl, rfl⟩, q3, rfl, Nat.le_trans (Nat.le_trans hn0 X.same.2.1) q4⟩ (fun y c hy hq => q5 y c (fun e => by
    subst e
    exact own_out (Option.some.inj (hy.symm.trans h1)) (List.mem_singleton.mpr rfl) h2 (VmData.noStatics_of h4) hq) (fun e => by
    subst e
    exact own_out (Option.some.inj (hy.symm.trans h1)) (List.mem_singleton.mpr rfl) h2 (VmData.noStatics_of h4) hq) (by show T.heap[y]? = _; rw [eT]; exact hy)) T' _ X' rfl (Fr.app N (fun y hy => by cases List.mem_singleton.mp hy; exact ga))
  exact ⟨s2, o, st1.trans g1, r⟩
theorem own_writeT : Inn [JY.Write1.tab, .declares JY.Write1.yN, .selects "java/io/ByteArrayOutputStream" JY.Write1.yN JY.Write1.yN, .instanceMethod JY.Write1.yN] := by unfold Inn; decide +kernel
theorem own_bytesT : Inn [JY.ToBytes.tab, .declares JY.ToBytes.yN, .selects "java/io/ByteArrayOutputStream" JY.ToBytes.yN JY.ToBytes.yN, .instanceMethod JY.ToBytes.yN] := by unfold Inn; decide +kernel
theorem w_boWrite (O : Ok K l Z a0 tables_1 B ml rt own nm R n0 Q) {i wt cp M cl' sl' : Nat} {bs : List Int32} {a : Addr} {x : Int32} (hd : decode B pc = .ok (.invokevirtual i, 3)) (hp : pc + 3 = pc') (w1 : Inn [.methodLink own i JY.Write1.yN]) (S : BoS Z h n0 a cp M bs) (ga : n0 ≤ a) (hcp : cp ≤ 200000000) (hwt : (st.map fun v => v.category).sum = wt) (hsz : L.size = ml) (hf : 4 ≤ R.frames) (hl : wt + 85 ≤ R.locals) (hc : cl + 1 = cl') (hs : sl + JY.cap cp (M + 1) = sl') (hc' : cl' ≤ R.cells) (hs' : sl' ≤ R.slots)
    (k : ∀ h' : Heap, BoS Z h' n0 a (JY.cap cp (M + 1)) (M + 1) (bs ++ [x.toInt8.toInt32]) → Kpt Z h h' ["java/io/ByteArrayOutputStream", "[B"] → W K h' cl' sl' pc' L st) : W K h cl sl pc L (.int x :: .ref a :: st) := by
  obtain ⟨⟨p, l', e', R'⟩, ⟨s, m, args, below⟩, ⟨meth, c⟩, Q', n0'⟩ := K
  obtain ⟨hx, hby, hml, hown, hnm, hrt, hlk, hZ, hw, hn0, hl', hR', hn', hQ'⟩ := O
  dsimp only at hx hby hml hown hnm hrt hlk hZ hn0 hl' hR' hn' hQ'
  subst hl' hR' hn' hQ'
  obtain ⟨fB, fC, D, b, Bc, A, hu, hz, hls, gb⟩ := S
  subst hp hc hs hml hz
  intro T locs X eT N
  have hws := own_ws (args := args) hZ hw
  have aT := hZ.alike.trans X.warmed.alike
  have AT := A T aT eT
  have A0 := A.base
  have hcB : s.vm.findClass "java/io/ByteArrayOutputStream" = some D.cls := by rw [← X.warmed.alike.findClass]; exact AT.1.2.2.1
  obtain ⟨v, vm1, ⟨T', L', k', n'⟩, hW1, X', ⟨hE, l1, y1, z1⟩, st1⟩ := X.virtualBack hx (C := "java/io/ByteArrayOutputStream") (y := JY.Write1.yN) (z := JY.Write1.yN) hown (own_one hws w1) (own_list hws own_writeT (.declares JY.Write1.yN) (by simp)) (notFace_of_selects (own_list hws own_writeT (.selects "java/io/ByteArrayOutputStream" JY.Write1.yN JY.Write1.yN) (by simp))) (own_list hws own_writeT (.selects "java/io/ByteArrayOutputStream" JY.Write1.yN JY.Write1.yN) (by simp)) (own_list hws own_writeT (.instanceMethod JY.Write1.yN) (by simp)) (by decide) (JY.Write1.pays (W := wt) a fB fC D b Bc M x (own_list hws own_writeT _ (by simp)) hf hl) hcB AT.1.isOf (g := mkF m pc L (.int x :: .ref a :: st)) rfl hsz (Steps.refl _) (argsL := [.int x]) (rest := st) (lenOf pd_iv rfl) rfl (by show 2 * 0 + _ ≤ _; omega) (hb hby hd) (fun vmx hWx => ⟨hc', hs', ⟨rfl, A (T.setVm vmx) (hZ.alike.trans hWx.alike) eT, hcp⟩, hu⟩)
  dsimp only [Pt.U, Pt.locs, Pt.cells, Pt.slots] at X' l1 y1 z1 st1 hE
  subst l1 y1 z1
  obtain ⟨rfl, D', b', B', q1, q2, q3, q4, q5, q6⟩ := hE
  have aT' := hZ.alike.trans X'.warmed.alike
  have hn1 : n0' ≤ T.heap.size := Nat.le_trans hn0 X.same.2.1
  obtain ⟨s2, o, g1, r⟩ := k T'.heap ⟨fB, fC, D', b', B', Hold.bo q1 aT', by show D'.monitor.owner = none ∧ D'.monitor.count = 0; rw [q2]; exact hu, q4, by rw [q3, hls]; simp, q5.elim (fun e => by rw [e]; exact gb) (fun q => Nat.le_trans hn1 q)⟩ (fun y c hy hq => q6 y c (fun e => by
    subst e
    exact own_out (Option.some.inj (hy.symm.trans A0.1.1)) (n := "java/io/ByteArrayOutputStream") (by simp) A0.1.2.2.1 A0.1.ob hq) (fun e => by
    subst e
    exact own_out (Option.some.inj (hy.symm.trans A0.2.2.2.1.1)) (n := "[B") (by simp) A0.2.2.2.2.1 A0.2.2.2.1.2.1.1 hq) (by show T.heap[y]? = _; rw [eT]; exact hy)) T' _ X' rfl (Fr.app N (fun y hy => by
    simp only [List.mem_append, List.mem_cons, List.not_mem_nil, or_false] at hy
    rcases hy with (rfl | rfl) | rfl
    · exact ga
    · exact gb
    · exact ga))
  exact ⟨s2, o, st1.trans g1, r⟩
theorem w_boBytes (O : Ok K l Z a0 tables_1 B ml rt own nm R n0 Q) {i wt cp M cl' sl' : Nat} {bs : List Int32} {a : Addr} (hd : decode B pc = .ok (.invokevirtual i, 3)) (hp : pc + 3 = pc') (w1 : Inn [.methodLink own i JY.ToBytes.yN]) (S : BoS Z h n0 a cp M bs) (hM : M ≤ 536870912) (hwt : (st.map fun v => v.category).sum = wt) (hsz : L.size = ml) (hf : 3 ≤ R.frames) (hl : wt + 68 ≤ R.locals) (hc : cl + 1 = cl') (hs : sl + M = sl') (hc' : cl' ≤ R.cells) (hs' : sl' ≤ R.slots)
    (k : ∀ (h' : Heap) (b : Addr), Afn Z h' b .byte M (fun j => .int (bs.getD j 0)) → bs.length = M → W K h' cl' sl' pc' L (.ref b :: st)) : W K h cl sl pc L (.ref a :: st) := by
  obtain ⟨⟨p, l', e', R'⟩, ⟨s, m, args, below⟩, ⟨meth, c⟩, Q', n0'⟩ := K
  obtain ⟨hx, hby, hml, hown, hnm, hrt, hlk, hZ, hw, hn0, hl', hR', hn', hQ'⟩ := O
  dsimp only at hx hby hml hown hnm hrt hlk hZ hn0 hl' hR' hn' hQ'
  subst hl' hR' hn' hQ'
  obtain ⟨fB, fC, D, b, Bc, A, hu, hz, hls, gb⟩ := S
  subst hp hc hs hml hz
  intro T locs X eT N
  have hws := own_ws (args := args) hZ hw
  have aT := hZ.alike.trans X.warmed.alike
  have AT := A T aT eT
  have hcB : s.vm.findClass "java/io/ByteArrayOutputStream" = some D.cls := by rw [← X.warmed.alike.findClass]; exact AT.1.2.2.1
  obtain ⟨v, vm1, ⟨T', L', k', n'⟩, hW1, X', ⟨hE, l1, y1, z1⟩, st1⟩ := X.virtualBack hx (C := "java/io/ByteArrayOutputStream") (y := JY.ToBytes.yN) (z := JY.ToBytes.yN) hown (own_one hws w1) (own_list hws own_bytesT (.declares JY.ToBytes.yN) (by simp)) (notFace_of_selects (own_list hws own_bytesT (.selects "java/io/ByteArrayOutputStream" JY.ToBytes.yN JY.ToBytes.yN) (by simp))) (own_list hws own_bytesT (.selects "java/io/ByteArrayOutputStream" JY.ToBytes.yN JY.ToBytes.yN) (by simp)) (own_list hws own_bytesT (.instanceMethod JY.ToBytes.yN) (by simp)) (by decide) (JY.ToBytes.pays (W := wt) a fB fC D b Bc M (own_list hws own_bytesT _ (by simp)) hf hl) hcB AT.1.isOf (g := mkF m pc L (.ref a :: st)) rfl hsz (Steps.refl _) (argsL := []) (rest := st) (lenOf pd_ba rfl) rfl (by show 2 * 0 + _ ≤ _; omega) (hb hby hd) (fun vmx hWx => ⟨hc', hs', ⟨rfl, A (T.setVm vmx) (hZ.alike.trans hWx.alike) eT, hM⟩, hu⟩)
  dsimp only [Pt.U, Pt.locs, Pt.cells, Pt.slots] at X' l1 y1 z1 st1 hE
  subst l1 y1 z1
  obtain ⟨rfl, N', q1, q2, q3, q4, q5, q6⟩ := hE
  have aT' := hZ.alike.trans X'.warmed.alike
  obtain ⟨e1, e2⟩ := own_lst hls AT.le
  obtain ⟨s2, o, g1, r⟩ := k T'.heap T.heap.size ⟨N', ⟨q1.1, State.isArrayOf_alike aT'.symm q1.2.1, q1.2.2.1⟩, q4, by omega, fun i hi => by rw [q5 i hi]; exact congrArg some (e2 i hi _)⟩ e1 T' _ X' rfl (Fr.app N (Fr.nil _))
  exact ⟨s2, o, st1.trans g1, r⟩
end OwnJdk
theorem d17_0 : decode jdk_18_method_1_code 0 = .ok (.aload_n 0, 1) := by decide +kernel
theorem d17_1 : decode jdk_18_method_1_code 1 = .ok (.invokespecial 1, 3) := by decide +kernel
theorem d17_4 : decode jdk_18_method_1_code 4 = .ok (.return_, 1) := by decide +kernel
theorem pn_17 : plainFor (⟨"java/lang/Number", "<init>", "()V"⟩ : MethodName) = true := plainFor_of_name (by first | (simp [plainName, overriddenIn]; done) | decide +kernel)
set_option maxRecDepth 65536 in
set_option maxHeartbeats 40000000 in
theorem con_num (l : Launch) (Z : State) (a0 : Array Value) (hw : ∀ d ∈ tables_1, d.before a0 Z = true) (a : Addr) (h0 : Heap) (n0 : Nat)  :
    Con l Z (⟨"java/lang/Number", "<init>", "()V"⟩ : MethodName) jdk_18_method_1_code 1 none ⟨1, 0, 0, 12⟩ [(.ref a)] h0 n0 (RetV fun h => h = h0) := by
  refine Con.body (L0 := #[.val (.ref a)]) hw pn_17 (fun m => by first | (simp [entryFrame, mkF, argsToLocals, Value.category]; done) | rfl) (fun K O => ?_)
  refine w_aloadN O d17_0 (pc' := 1) rfl rfl rfl ?_
  refine w_objinit O d17_1 (wt := 0) (pc' := 4) rfl (mw 135 rfl) (mw 20 rfl) (mw 21 rfl) rfl rfl (by decide) (by decide) ?_
  refine w_retv O d17_4 (by decide) (by decide) ?_
  exact ⟨rfl, rfl⟩
theorem d16_0 : decode jdk_33_method_23_code 0 = .ok (.aload_n 0, 1) := by decide +kernel
theorem d16_1 : decode jdk_33_method_23_code 1 = .ok (.invokespecial 202, 3) := by decide +kernel
theorem d16_4 : decode jdk_33_method_23_code 4 = .ok (.aload_n 0, 1) := by decide +kernel
theorem d16_5 : decode jdk_33_method_23_code 5 = .ok (.iload_n 1, 1) := by decide +kernel
theorem d16_6 : decode jdk_33_method_23_code 6 = .ok (.putfield 205, 3) := by decide +kernel
theorem d16_9 : decode jdk_33_method_23_code 9 = .ok (.return_, 1) := by decide +kernel
theorem pn_16 : plainFor (⟨"java/lang/Integer", "<init>", "(I)V"⟩ : MethodName) = true := plainFor_of_name (by first | (simp [plainName, overriddenIn]; done) | decide +kernel)
theorem pd_0 : parseMethodDescriptor "()V" = some ⟨[], none⟩ := by decide +kernel
set_option maxRecDepth 65536 in
set_option maxHeartbeats 40000000 in
theorem con_ini (l : Launch) (Z : State) (a0 : Array Value) (hw : ∀ d ∈ tables_1, d.before a0 Z = true) (a : Addr) (v : Int32) (h0 : Heap) (n0 : Nat) (hE : Exa Z h0 a "java/lang/Integer") (hF : Fld Z h0 a "java/lang/Integer" "value" "I" (.int (0 : Int32))) (ga : n0 ≤ a) :
    Con l Z (⟨"java/lang/Integer", "<init>", "(I)V"⟩ : MethodName) jdk_33_method_23_code 2 none ⟨2, 0, 0, 24⟩ [(.ref a), (.int v)] h0 n0 (RetV fun h => Box Z h a v ∧ Keep h0 h [a]) := by
  refine Con.body (L0 := #[.val (.ref a), .val (.int v)]) hw pn_16 (fun m => by first | (simp [entryFrame, mkF, argsToLocals, Value.category]; done) | rfl) (fun K O => ?_)
  have hK := Keep.refl h0 [a]
  refine w_aloadN O d16_0 (pc' := 1) rfl rfl rfl ?_
  refine w_init O d16_1 (as := []) (st := []) (wt := 0) (cl' := 0) (sl' := 0) (pc' := 4) rfl rfl (mw 129 rfl) (mw 130 rfl) (mw 133 rfl) (mw 134 rfl) (by decide) (con_num l Z a0 hw a h0 n0) rfl pd_0 rfl rfl rfl (by decide) (by decide) rfl rfl (by decide) (by decide) (cV fun _ qh => ?_)
  rw [qh]
  refine w_aloadN O d16_4 (pc' := 5) rfl rfl rfl ?_
  refine w_iloadN O d16_5 (pc' := 6) rfl rfl ?_
  refine w_putf O d16_6 (pc' := 9) rfl (mw 136 rfl) (mw 124 rfl) (Or.inr ⟨(mw 137 rfl), rfl, rfl⟩) hF hE ga (ty := .int) (by decide) rfl rfl (fun h1 Wh1 => ?_)
  have hE_h1 := hE.wr Wh1
  have hK_h1 := hK.wr Wh1 (Or.inl (by simp))
  have hF_h1 := Fld.same Wh1 hF
  refine w_retv O d16_9 (by decide) (by decide) ?_
  exact ⟨rfl, ⟨hE_h1, hF_h1⟩, hK_h1⟩
theorem own_v128 (v : Int32) (h0 : 0 ≤ v.toInt) (h1 : v.toInt ≤ 127) : Int32.ofNat (v.toInt + 128).toNat - 128 = v := by
  apply Int32.toInt_inj.mp
  have a : ((Int32.ofNat (v.toInt + 128).toNat - (128 : Int32)).toInt - ((Int32.ofNat (v.toInt + 128).toNat).toInt - 128)) % 4294967296 = 0 := c_isub _ (128 : Int32)
  have b := rng32 (Int32.ofNat (v.toInt + 128).toNat - (128 : Int32))
  rw [Int32.toInt_ofNat_of_lt (by omega)] at a
  omega
theorem d15_0 : decode jdk_33_method_22_code 0 = .ok (.iload_n 0, 1) := by decide +kernel
theorem d15_1 : decode jdk_33_method_22_code 1 = .ok (.bipush (-128), 2) := by decide +kernel
theorem d15_3 : decode jdk_33_method_22_code 3 = .ok (.if_icmp .lt 20, 3) := by decide +kernel
theorem d15_6 : decode jdk_33_method_22_code 6 = .ok (.iload_n 0, 1) := by decide +kernel
theorem d15_7 : decode jdk_33_method_22_code 7 = .ok (.getstatic 191, 3) := by decide +kernel
theorem d15_10 : decode jdk_33_method_22_code 10 = .ok (.if_icmp .gt 13, 3) := by decide +kernel
theorem d15_13 : decode jdk_33_method_22_code 13 = .ok (.getstatic 195, 3) := by decide +kernel
theorem d15_16 : decode jdk_33_method_22_code 16 = .ok (.iload_n 0, 1) := by decide +kernel
theorem d15_17 : decode jdk_33_method_22_code 17 = .ok (.sipush 128, 3) := by decide +kernel
theorem d15_20 : decode jdk_33_method_22_code 20 = .ok (.iadd, 1) := by decide +kernel
theorem d15_21 : decode jdk_33_method_22_code 21 = .ok (.aaload, 1) := by decide +kernel
theorem d15_22 : decode jdk_33_method_22_code 22 = .ok (.areturn, 1) := by decide +kernel
theorem d15_23 : decode jdk_33_method_22_code 23 = .ok (.new 1, 3) := by decide +kernel
theorem d15_26 : decode jdk_33_method_22_code 26 = .ok (.dup, 1) := by decide +kernel
theorem d15_27 : decode jdk_33_method_22_code 27 = .ok (.iload_n 0, 1) := by decide +kernel
theorem d15_28 : decode jdk_33_method_22_code 28 = .ok (.invokespecial 199, 3) := by decide +kernel
theorem d15_31 : decode jdk_33_method_22_code 31 = .ok (.areturn, 1) := by decide +kernel
theorem pn_15 : plainFor (⟨"java/lang/Integer", "valueOf", "(I)Ljava/lang/Integer;"⟩ : MethodName) = true := plainFor_of_name (by first | (simp [plainName, overriddenIn]; done) | decide +kernel)
theorem pd_1 : parseMethodDescriptor "(I)V" = some ⟨[.int], none⟩ := by decide +kernel
set_option maxRecDepth 65536 in
set_option maxHeartbeats 40000000 in
theorem con_vof (l : Launch) (Z : State) (a0 : Array Value) (hw : ∀ d ∈ tables_1, d.before a0 Z = true) (v : Int32) (h0 : Heap) (n0 : Nat) (hv : 0 ≤ v.toInt) (Cc : Cch Z h0) :
    Con l Z (⟨"java/lang/Integer", "valueOf", "(I)Ljava/lang/Integer;"⟩ : MethodName) jdk_33_method_22_code 1 (some (.object "java/lang/Integer")) ⟨3, 1, 1, 38⟩ [(.int v)] h0 n0 (RetA fun u h => ∃ b, u = .ref b ∧ Box Z h b v ∧ Kpt Z h0 h []) := by
  refine Con.body (L0 := #[.val (.int v)]) hw pn_15 (fun m => by first | (simp [entryFrame, mkF, argsToLocals, Value.category]; done) | rfl) (fun K O => ?_)
  obtain ⟨ca, r, SH, SC, EC, AC, BC⟩ := Cc
  refine w_iloadN O d15_0 (pc' := 1) rfl rfl ?_
  refine w_bipush O d15_1 (z := (-128 : Int32)) (pc' := 3) rfl rfl ?_
  refine w_icmp_lt O d15_3 (pn := 6) (pt := 23) rfl (by decide) rfl (fun c3 => absurd (show v.toInt < -128 from c3) (by omega)) (fun c3 => ?_)
  replace c3 : ¬ v.toInt < -128 := c3
  refine w_iloadN O d15_6 (pc' := 7) rfl rfl ?_
  refine w_gets O d15_7 (pc' := 10) rfl (mw 121 rfl) SH ?_
  refine w_icmp_gt O d15_10 (pn := 13) (pt := 23) rfl (by decide) rfl (fun c10 => ?_) (fun c10 => ?_)
  · replace c10 : 127 < v.toInt := c10
    refine w_new O d15_23 (cl' := 1) (sl' := 1) (pc' := 26) rfl (mw 123 rfl) (mw 124 rfl) (mw 119 rfl) rfl rfl (by decide) (by decide) (fun h1 b qb g_b Eh1 E_b Db => ?_)
    have ne_ca_b : ca ≠ b := Nat.ne_of_lt (by rw [qb]; exact AC.lt)
    have SH_h1 := Sta.ext Eh1 SH
    have SC_h1 := Sta.ext Eh1 SC
    have AC_h1 := AC.ext Eh1
    have F_value_b : Fld Z h1 b "java/lang/Integer" "value" "I" (.int (0 : Int32)) := Db (Or.inr (O.2.2.2.2.2.2.2.2.1 _ (mw 137 rfl))) (ty := .int) (by decide)
    have Eb := Eh1
    refine w_dup O d15_26 (pc' := 27) rfl rfl ?_
    refine w_iloadN O d15_27 (pc' := 28) rfl rfl ?_
    refine w_init O d15_28 (as := [(.int v)]) (st := [(.ref b)]) (wt := 1) (cl' := 1) (sl' := 1) (pc' := 31) rfl rfl (mw 125 rfl) (mw 126 rfl) (mw 119 rfl) (mw 128 rfl) (by decide) (con_ini l Z a0 hw b v h1 n0 E_b F_value_b g_b) rfl pd_1 rfl rfl rfl (by decide) (by decide) rfl rfl (by decide) (by decide) (cV fun h3 ⟨Bx, Ki⟩ => ?_)
    refine w_reta O d15_31 rfl rfl rfl (by decide) (by decide) ?_
    exact ⟨_, rfl, rfl, b, rfl, Bx, fun y c q _ => Ki.2.1 y c (Eb.2 y c q) (fun z => by cases List.mem_singleton.mp z; have := (Array.getElem?_eq_some_iff.mp q).1; omega)⟩
  · replace c10 : ¬ 127 < v.toInt := c10
    refine w_gets O d15_13 (pc' := 16) rfl (mw 209 rfl) SC ?_
    refine w_iloadN O d15_16 (pc' := 17) rfl rfl ?_
    refine w_sipush O d15_17 (z := (128 : Int32)) (pc' := 20) rfl rfl ?_
    refine w_iadd O d15_20 (pc' := 21) rfl ?_
    have i4 : ((v + (128 : Int32)).toInt - (v.toInt + 128)) % 4294967296 = 0 := c_iadd v (128 : Int32)
    have i5 := rng32 (v + (128 : Int32))
    refine w_aaload O d15_21 (i := (v.toInt + 128).toNat) (x := (.ref (r (v.toInt + 128).toNat))) (pc' := 22) rfl AC rfl (by omega) (by omega) rfl ?_
    refine w_reta O d15_22 rfl rfl rfl (by decide) (by decide) ?_
    exact ⟨_, rfl, rfl, _, rfl, by have q := BC (v.toInt + 128).toNat (by omega); rw [own_v128 v hv (by omega)] at q; exact q, fun _ _ q _ => q⟩
theorem d25_0 : decode jdk_33_method_27_code 0 = .ok (.aload_n 0, 1) := by decide +kernel
theorem d25_1 : decode jdk_33_method_27_code 1 = .ok (.getfield 205, 3) := by decide +kernel
theorem d25_4 : decode jdk_33_method_27_code 4 = .ok (.ireturn, 1) := by decide +kernel
theorem pn_25 : plainFor (⟨"java/lang/Integer", "intValue", "()I"⟩ : MethodName) = true := plainFor_of_name (by first | (simp [plainName, overriddenIn]; done) | decide +kernel)
set_option maxRecDepth 65536 in
set_option maxHeartbeats 40000000 in
theorem con_inv (l : Launch) (Z : State) (a0 : Array Value) (hw : ∀ d ∈ tables_1, d.before a0 Z = true) (a : Addr) (v : Int32) (h0 : Heap) (n0 : Nat) (F : Fld Z h0 a "java/lang/Integer" "value" "I" (.int v)) :
    Con l Z (⟨"java/lang/Integer", "intValue", "()I"⟩ : MethodName) jdk_33_method_27_code 1 (some .int) ⟨0, 0, 0, 0⟩ [(.ref a)] h0 n0 (RetI fun r h => h = h0 ∧ r = v) := by
  refine Con.body (L0 := #[.val (.ref a)]) hw pn_25 (fun m => by first | (simp [entryFrame, mkF, argsToLocals, Value.category]; done) | rfl) (fun K O => ?_)
  refine w_aloadN O d25_0 (pc' := 1) rfl rfl rfl ?_
  refine w_getf O d25_1 (pc' := 4) rfl (mw 136 rfl) F ?_
  refine w_reti O d25_4 (by decide) (by decide) ?_
  exact ⟨_, rfl, rfl, rfl⟩
/-- how many of these bytes end a number -/
def cntL (bs : List Int32) : Nat := cntB (fun j => bs.getD j 0) bs.length
theorem cntB_congr {f g : Nat → Int32} : ∀ k, (∀ i, i < k → f i = g i) → cntB f k = cntB g k
  | 0, _ => rfl
  | k + 1, q => by rw [cntB, cntB, cntB_congr k (fun i hi => q i (by omega)), q k (by omega)]
theorem cntL_snoc (bs : List Int32) (x : Int32) : cntL (bs ++ [x]) = cntL bs + if x.toInt < 0 then 0 else 1 := by
  unfold cntL
  rw [List.length_append, show bs.length + [x].length = bs.length + 1 from rfl, cntB]
  rw [cntB_congr (f := fun j => (bs ++ [x]).getD j 0) (g := fun j => bs.getD j 0) bs.length (fun i hi => by simp [List.getElem?_append_left hi])]
  simp
def bnd : Nat → Int
  | 0 => 128
  | m + 1 => 128 * bnd m
def capF (n : Nat) : Nat → Nat
  | 0 => n
  | k + 1 => JY.cap (capF n k) (k + 1)
def sumF (n : Nat) : Nat → Nat
  | 0 => 0
  | k + 1 => sumF n k + JY.cap (capF n k) (k + 1)
theorem sum_all : ∀ n : Fin 4, ∀ k : Fin 16, sumF n.1 k.1 ≤ 171 ∧ capF n.1 k.1 ≤ 24 := by decide +kernel
theorem own_sum {n k : Nat} (hn : n ≤ 3) (hk : k ≤ 15) : sumF n k ≤ 171 ∧ capF n k ≤ 24 := sum_all ⟨n, by omega⟩ ⟨k, by omega⟩
theorem dig128 : ∀ n : Fin 128, ((Int32.ofNat n.1 ||| 128).toInt8.toInt32).toInt < 0 ∧ ¬ ((Int32.ofNat n.1).toInt8.toInt32).toInt < 0 := by decide +kernel
theorem dig (d : Int32) (h0 : 0 ≤ d.toInt) (h1 : d.toInt < 128) : ((d ||| 128).toInt8.toInt32).toInt < 0 ∧ ¬ (d.toInt8.toInt32).toInt < 0 := by
  obtain ⟨n, hn⟩ : ∃ n : Nat, d.toInt = n := ⟨d.toInt.toNat, by omega⟩
  have e := of_nat32 hn
  have h := dig128 ⟨n, by omega⟩
  dsimp only at h
  rw [← e] at h; exact h
theorem own_hi (g : Int32) : (((g &&& 127) ||| 128).toInt8.toInt32).toInt < 0 := by
  have a : (g &&& (127 : Int32)).toInt = g.toInt % 128 := c_mask g (127 : Int32) 7 (by decide) (by decide)
  exact (dig _ (by omega) (by omega)).1
theorem d5_0 : decode prog_23_method_6_code 0 = .ok (.new 45, 3) := by decide +kernel
theorem d5_3 : decode prog_23_method_6_code 3 = .ok (.dup, 1) := by decide +kernel
theorem d5_4 : decode prog_23_method_6_code 4 = .ok (.aload_n 0, 1) := by decide +kernel
theorem d5_5 : decode prog_23_method_6_code 5 = .ok (.invokeinterface 47 1, 5) := by decide +kernel
theorem d5_10 : decode prog_23_method_6_code 10 = .ok (.invokespecial 52, 3) := by decide +kernel
theorem d5_13 : decode prog_23_method_6_code 13 = .ok (.astore_n 1, 1) := by decide +kernel
theorem d5_14 : decode prog_23_method_6_code 14 = .ok (.iconst (-1), 1) := by decide +kernel
theorem d5_15 : decode prog_23_method_6_code 15 = .ok (.istore_n 2, 1) := by decide +kernel
theorem d5_16 : decode prog_23_method_6_code 16 = .ok (.aload_n 0, 1) := by decide +kernel
theorem d5_17 : decode prog_23_method_6_code 17 = .ok (.invokeinterface 55 1, 5) := by decide +kernel
theorem d5_22 : decode prog_23_method_6_code 22 = .ok (.astore_n 3, 1) := by decide +kernel
theorem d5_23 : decode prog_23_method_6_code 23 = .ok (.aload_n 3, 1) := by decide +kernel
theorem d5_24 : decode prog_23_method_6_code 24 = .ok (.invokeinterface 59 1, 5) := by decide +kernel
theorem d5_29 : decode prog_23_method_6_code 29 = .ok (.ifCond .eq 91, 3) := by decide +kernel
theorem d5_32 : decode prog_23_method_6_code 32 = .ok (.aload_n 3, 1) := by decide +kernel
theorem d5_33 : decode prog_23_method_6_code 33 = .ok (.invokeinterface 65 1, 5) := by decide +kernel
theorem d5_38 : decode prog_23_method_6_code 38 = .ok (.checkcast 7, 3) := by decide +kernel
theorem d5_41 : decode prog_23_method_6_code 41 = .ok (.invokevirtual 69, 3) := by decide +kernel
theorem d5_44 : decode prog_23_method_6_code 44 = .ok (.istore 4, 2) := by decide +kernel
theorem d5_46 : decode prog_23_method_6_code 46 = .ok (.iload 4, 2) := by decide +kernel
theorem d5_48 : decode prog_23_method_6_code 48 = .ok (.iload_n 2, 1) := by decide +kernel
theorem d5_49 : decode prog_23_method_6_code 49 = .ok (.if_icmp .gt 20, 3) := by decide +kernel
theorem d5_52 : decode prog_23_method_6_code 52 = .ok (.new 72, 3) := by decide +kernel
theorem d5_55 : decode prog_23_method_6_code 55 = .ok (.dup, 1) := by decide +kernel
theorem d5_56 : decode prog_23_method_6_code 56 = .ok (.aload_n 0, 1) := by decide +kernel
theorem d5_57 : decode prog_23_method_6_code 57 = .ok (.invokestatic 74, 3) := by decide +kernel
theorem d5_60 : decode prog_23_method_6_code 60 = .ok (.invokedynamic 78, 5) := by decide +kernel
theorem d5_65 : decode prog_23_method_6_code 65 = .ok (.invokespecial 82, 3) := by decide +kernel
theorem d5_68 : decode prog_23_method_6_code 68 = .ok (.athrow, 1) := by decide +kernel
theorem d5_69 : decode prog_23_method_6_code 69 = .ok (.iload 4, 2) := by decide +kernel
theorem d5_71 : decode prog_23_method_6_code 71 = .ok (.iload_n 2, 1) := by decide +kernel
theorem d5_72 : decode prog_23_method_6_code 72 = .ok (.isub, 1) := by decide +kernel
theorem d5_73 : decode prog_23_method_6_code 73 = .ok (.iconst 1, 1) := by decide +kernel
theorem d5_74 : decode prog_23_method_6_code 74 = .ok (.isub, 1) := by decide +kernel
theorem d5_75 : decode prog_23_method_6_code 75 = .ok (.istore 5, 2) := by decide +kernel
theorem d5_77 : decode prog_23_method_6_code 77 = .ok (.iload 5, 2) := by decide +kernel
theorem d5_79 : decode prog_23_method_6_code 79 = .ok (.sipush 128, 3) := by decide +kernel
theorem d5_82 : decode prog_23_method_6_code 82 = .ok (.if_icmp .lt 26, 3) := by decide +kernel
theorem d5_85 : decode prog_23_method_6_code 85 = .ok (.aload_n 1, 1) := by decide +kernel
theorem d5_86 : decode prog_23_method_6_code 86 = .ok (.iload 5, 2) := by decide +kernel
theorem d5_88 : decode prog_23_method_6_code 88 = .ok (.bipush 127, 2) := by decide +kernel
theorem d5_90 : decode prog_23_method_6_code 90 = .ok (.iand, 1) := by decide +kernel
theorem d5_91 : decode prog_23_method_6_code 91 = .ok (.sipush 128, 3) := by decide +kernel
theorem d5_94 : decode prog_23_method_6_code 94 = .ok (.ior, 1) := by decide +kernel
theorem d5_95 : decode prog_23_method_6_code 95 = .ok (.invokevirtual 85, 3) := by decide +kernel
theorem d5_98 : decode prog_23_method_6_code 98 = .ok (.iload 5, 2) := by decide +kernel
theorem d5_100 : decode prog_23_method_6_code 100 = .ok (.bipush 7, 2) := by decide +kernel
theorem d5_102 : decode prog_23_method_6_code 102 = .ok (.iushr, 1) := by decide +kernel
theorem d5_103 : decode prog_23_method_6_code 103 = .ok (.istore 5, 2) := by decide +kernel
theorem d5_105 : decode prog_23_method_6_code 105 = .ok (.goto (-28), 3) := by decide +kernel
theorem d5_108 : decode prog_23_method_6_code 108 = .ok (.aload_n 1, 1) := by decide +kernel
theorem d5_109 : decode prog_23_method_6_code 109 = .ok (.iload 5, 2) := by decide +kernel
theorem d5_111 : decode prog_23_method_6_code 111 = .ok (.invokevirtual 85, 3) := by decide +kernel
theorem d5_114 : decode prog_23_method_6_code 114 = .ok (.iload 4, 2) := by decide +kernel
theorem d5_116 : decode prog_23_method_6_code 116 = .ok (.istore_n 2, 1) := by decide +kernel
theorem d5_117 : decode prog_23_method_6_code 117 = .ok (.goto (-94), 3) := by decide +kernel
theorem d5_120 : decode prog_23_method_6_code 120 = .ok (.aload_n 1, 1) := by decide +kernel
theorem d5_121 : decode prog_23_method_6_code 121 = .ok (.invokevirtual 88, 3) := by decide +kernel
theorem d5_124 : decode prog_23_method_6_code 124 = .ok (.areturn, 1) := by decide +kernel
theorem pn_5 : plainFor (⟨"com/example/acrawl/acrawl/store/Records", "encodePositions", "(Ljava/util/List;)[B"⟩ : MethodName) = true := plainFor_of_name (by first | (simp [plainName, overriddenIn]; done) | decide +kernel)
theorem pd_2 : parseMethodDescriptor "()I" = some ⟨[], some .int⟩ := by decide +kernel
set_option maxRecDepth 65536 in
set_option maxHeartbeats 40000000 in
theorem con_enc (l : Launch) (Z : State) (a0 : Array Value) (hw : ∀ d ∈ tables_1, d.before a0 Z = true) (x : ALB.Fix) (h0 : Heap) (n0 : Nat) (n1 k : Nat) (vs : List Int32) (Ls : Lk Z h0 n1 x k vs) (hk3 : k ≤ 3) (hpos : ∀ (i : Nat) (v : Int32), vs[i]? = some v → 0 ≤ v.toInt) (hinc : ∀ (i : Nat) (v w : Int32), vs[i]? = some v → vs[i + 1]? = some w → v.toInt < w.toInt) :
    Con l Z (⟨"com/example/acrawl/acrawl/store/Records", "encodePositions", "(Ljava/util/List;)[B"⟩ : MethodName) prog_23_method_6_code 6 (some (.array .byte)) ⟨4, 19, 195, 85⟩ [(.ref x.a)] h0 n0 (RetA fun u h => ∃ (b : Addr) (N : Nat) (g : Nat → Int32), u = .ref b ∧ Afn Z h b .byte N (fun j => .int (g j)) ∧ N ≤ 15 ∧ cntB g N = k) := by
  refine Con.body (L0 := #[.val (.ref x.a), .unset, .unset, .unset, .unset, .unset]) hw pn_5 (fun m => by first | (simp [entryFrame, mkF, argsToLocals, Value.category]; done) | rfl) (fun K O => ?_)
  obtain ⟨C, ea, E, mc, A, -, -, -, -, hlen, Bs0⟩ := Ls
  have hb4 : bnd 4 = 34359738368 := by decide
  have loop : ∀ (a : Addr) (y : ALB.IFix), n0 ≤ a → n0 ≤ y.it → ∀ (d j N : Nat) (bs : List Int32) (prev : Int32) (D : Cell) (lr : Int32) (s4 s5 : Slot) (h : Heap), j + d = k → N ≤ 5 * j → cntL bs = j → Hold Z h (ALB.Both (⟨y, D, j, lr, (⟨x, C, ea, E, k, mc⟩ : ALB.G)⟩ : ALB.IG)) → BoS Z h n0 a (capF k N) N bs → (∀ (i : Nat) (v : Int32), vs[i]? = some v → ∃ r, E.slots[i]? = some (.ref r) ∧ Box Z h r v) → -1 ≤ prev.toInt → (∀ v, vs[j]? = some v → prev.toInt < v.toInt) → (s4 = .unset ∨ ∃ q, s4 = .val (.int q)) → (s5 = .unset ∨ ∃ q, s5 = .val (.int q)) → W K h (3 + N) (6 + k + sumF k N) 23 #[.val (.ref x.a), .val (.ref a), .val (.int prev), .val (.ref y.it), s4, s5] [] := by
    intro a y ga gi d
    induction d with
    | zero =>
      intro j N bs prev D lr s4 s5 h hj hN hcn Bt S Bs hp1 hpv h4 h5
      have hs00 := own_sum (k := N) hk3 (by omega)
      refine w_aloadN O d5_23 (pc' := 24) rfl rfl rfl ?_
      refine w_hasNext O d5_24 (wt := 0) (q := (⟨y, D, j, lr, (⟨x, C, ea, E, k, mc⟩ : ALB.G)⟩ : ALB.IG)) (z := (0 : Int32)) (pc' := 29) rfl (by unfold Inn; decide +kernel) Bt (by show j ≤ k; omega) (by show (if j = k then (0 : Int32) else 1) = 0; rw [if_pos (by omega)]) rfl rfl (by decide) (by decide) (by show _ ≤ 19; omega) (by show _ ≤ 195; omega) ?_
      refine w_if_eq O d5_29 (pn := 32) (pt := 120) rfl (by decide) rfl (fun c29 => ?_) (fun q => absurd q (by decide))
      refine w_aloadN O d5_120 (pc' := 121) rfl rfl rfl ?_
      have hs15 := own_sum (k := N) hk3 (by omega)
      refine w_boBytes O d5_121 (wt := 0) (cl' := 3 + N + 1) (sl' := 6 + k + sumF k N + N) (pc' := 124) rfl (by unfold Inn; decide +kernel) S (by omega) rfl rfl (by decide) (by decide) rfl rfl (by show _ ≤ 19; omega) (by show _ ≤ 195; omega) (fun h2 b Ab hbl => ?_)
      refine w_reta O d5_124 rfl rfl rfl (by show _ ≤ 19; omega) (by show _ ≤ 195; omega) ?_
      exact ⟨_, rfl, rfl, b, N, fun i => bs.getD i 0, rfl, Ab, by omega, by rw [← hbl]; exact hcn.trans (by omega)⟩
    | succ d ih =>
      intro j N bs prev D lr s4 s5 h hj hN hcn Bt S Bs hp1 hpv h4 h5
      have hs00 := own_sum (k := N) hk3 (by omega)
      obtain ⟨v, hv⟩ : ∃ v, vs[j]? = some v := ⟨_, List.getElem?_eq_getElem (by omega)⟩
      obtain ⟨r, hr, Bx⟩ := Bs j v hv
      have hpv' := hpv v hv
      have rv := rng32 v
      have inner : ∀ (m N : Nat) (bs : List Int32) (gap : Int32) (D : Cell) (lr : Int32) (h : Heap), 0 ≤ gap.toInt → gap.toInt < bnd m → N + m + 1 ≤ 5 * (j + 1) → cntL bs = j → Hold Z h (ALB.Both (⟨y, D, (j + 1), lr, (⟨x, C, ea, E, k, mc⟩ : ALB.G)⟩ : ALB.IG)) → BoS Z h n0 a (capF k N) N bs → (∀ (i : Nat) (v : Int32), vs[i]? = some v → ∃ r, E.slots[i]? = some (.ref r) ∧ Box Z h r v) → W K h (3 + N) (6 + k + sumF k N) 77 #[.val (.ref x.a), .val (.ref a), .val (.int prev), .val (.ref y.it), .val (.int v), .val (.int gap)] [] := by
        intro m
        induction m with
        | zero =>
          intro N bs gap D lr h hg0 hgb hNm hcn Bt S Bs
          have hb0 : bnd 0 = 128 := rfl
          refine w_iload O d5_77 (pc' := 79) rfl rfl ?_
          refine w_sipush O d5_79 (z := (128 : Int32)) (pc' := 82) rfl rfl ?_
          refine w_icmp_lt O d5_82 (pn := 85) (pt := 108) rfl (by decide) rfl (fun c82 => ?_) (fun c82 => absurd (show ¬ gap.toInt < 128 from c82) (by omega))
          replace c82 : gap.toInt < 128 := c82
          refine w_aloadN O d5_108 (pc' := 109) rfl rfl rfl ?_
          refine w_iload O d5_109 (pc' := 111) rfl rfl ?_
          have hs15 := own_sum (k := N + 1) hk3 (by omega)
          have hcp := own_sum (k := N) hk3 (by omega)
          refine w_boWrite O d5_111 (x := gap) (wt := 0) (cl' := 3 + (N + 1)) (sl' := 6 + k + sumF k (N + 1)) (pc' := 114) rfl (by unfold Inn; decide +kernel) S ga (by omega) rfl rfl (by decide) (by decide) rfl (by show 6 + k + sumF k N + JY.cap (capF k N) (N + 1) = 6 + k + (sumF k N + JY.cap (capF k N) (N + 1)); omega) (by show _ ≤ 19; omega) (by show _ ≤ 195; omega) (fun h3 S_h3 K3 => ?_)
          have Bt_h3 := Hold.bothKeep Bt K3 (by decide) (by decide) (by decide)
          have Bs_h3 : (∀ (i : Nat) (v : Int32), vs[i]? = some v → ∃ r, E.slots[i]? = some (.ref r) ∧ Box Z h3 r v) := fun i v e => by obtain ⟨r, e1, e2⟩ := Bs i v e; exact ⟨r, e1, e2.keep K3 (by decide)⟩
          refine w_iload O d5_114 (pc' := 116) rfl rfl ?_
          refine w_istoreN O d5_116 (L' := #[.val (.ref x.a), .val (.ref a), .val (.int v), .val (.ref y.it), .val (.int v), .val (.int gap)]) (pc' := 117) rfl rfl ?_
          refine w_goto O d5_117 (pc' := 23) (by decide) rfl ?_
          exact ih (j + 1) (N + 1) _ v D lr _ _ h3 (by omega) (by omega) (by rw [cntL_snoc, hcn, if_neg (dig gap (by omega) (by omega)).2]) Bt_h3 S_h3 Bs_h3 (by omega) (fun w hw' => hinc j v w hv hw') (Or.inr ⟨_, rfl⟩) (Or.inr ⟨_, rfl⟩)
        | succ m ihm =>
          intro N bs gap D lr h hg0 hgb hNm hcn Bt S Bs
          have hb1 : bnd (m + 1) = 128 * bnd m := rfl
          refine w_iload O d5_77 (pc' := 79) rfl rfl ?_
          refine w_sipush O d5_79 (z := (128 : Int32)) (pc' := 82) rfl rfl ?_
          refine w_icmp_lt O d5_82 (pn := 85) (pt := 108) rfl (by decide) rfl (fun c82 => ?_) (fun c82 => ?_)
          · replace c82 : gap.toInt < 128 := c82
            refine w_aloadN O d5_108 (pc' := 109) rfl rfl rfl ?_
            refine w_iload O d5_109 (pc' := 111) rfl rfl ?_
            have hs15 := own_sum (k := N + 1) hk3 (by omega)
            have hcp := own_sum (k := N) hk3 (by omega)
            refine w_boWrite O d5_111 (x := gap) (wt := 0) (cl' := 3 + (N + 1)) (sl' := 6 + k + sumF k (N + 1)) (pc' := 114) rfl (by unfold Inn; decide +kernel) S ga (by omega) rfl rfl (by decide) (by decide) rfl (by show 6 + k + sumF k N + JY.cap (capF k N) (N + 1) = 6 + k + (sumF k N + JY.cap (capF k N) (N + 1)); omega) (by show _ ≤ 19; omega) (by show _ ≤ 195; omega) (fun h3 S_h3 K3 => ?_)
            have Bt_h3 := Hold.bothKeep Bt K3 (by decide) (by decide) (by decide)
            have Bs_h3 : (∀ (i : Nat) (v : Int32), vs[i]? = some v → ∃ r, E.slots[i]? = some (.ref r) ∧ Box Z h3 r v) := fun i v e => by obtain ⟨r, e1, e2⟩ := Bs i v e; exact ⟨r, e1, e2.keep K3 (by decide)⟩
            refine w_iload O d5_114 (pc' := 116) rfl rfl ?_
            refine w_istoreN O d5_116 (L' := #[.val (.ref x.a), .val (.ref a), .val (.int v), .val (.ref y.it), .val (.int v), .val (.int gap)]) (pc' := 117) rfl rfl ?_
            refine w_goto O d5_117 (pc' := 23) (by decide) rfl ?_
            exact ih (j + 1) (N + 1) _ v D lr _ _ h3 (by omega) (by omega) (by rw [cntL_snoc, hcn, if_neg (dig gap (by omega) (by omega)).2]) Bt_h3 S_h3 Bs_h3 (by omega) (fun w hw' => hinc j v w hv hw') (Or.inr ⟨_, rfl⟩) (Or.inr ⟨_, rfl⟩)
          · replace c82 : ¬ gap.toInt < 128 := c82
            refine w_aloadN O d5_85 (pc' := 86) rfl rfl rfl ?_
            refine w_iload O d5_86 (pc' := 88) rfl rfl ?_
            refine w_bipush O d5_88 (z := (127 : Int32)) (pc' := 90) rfl rfl ?_
            refine w_iand O d5_90 (pc' := 91) rfl ?_
            refine w_sipush O d5_91 (z := (128 : Int32)) (pc' := 94) rfl rfl ?_
            refine w_ior O d5_94 (pc' := 95) rfl ?_
            have hs15 := own_sum (k := N + 1) hk3 (by omega)
            have hcp := own_sum (k := N) hk3 (by omega)
            refine w_boWrite O d5_95 (x := ((gap &&& (127 : Int32)) ||| (128 : Int32))) (wt := 0) (cl' := 3 + (N + 1)) (sl' := 6 + k + sumF k (N + 1)) (pc' := 98) rfl (by unfold Inn; decide +kernel) S ga (by omega) rfl rfl (by decide) (by decide) rfl (by show 6 + k + sumF k N + JY.cap (capF k N) (N + 1) = 6 + k + (sumF k N + JY.cap (capF k N) (N + 1)); omega) (by show _ ≤ 19; omega) (by show _ ≤ 195; omega) (fun h3 S_h3 K3 => ?_)
            have Bt_h3 := Hold.bothKeep Bt K3 (by decide) (by decide) (by decide)
            have Bs_h3 : (∀ (i : Nat) (v : Int32), vs[i]? = some v → ∃ r, E.slots[i]? = some (.ref r) ∧ Box Z h3 r v) := fun i v e => by obtain ⟨r, e1, e2⟩ := Bs i v e; exact ⟨r, e1, e2.keep K3 (by decide)⟩
            refine w_iload O d5_98 (pc' := 100) rfl rfl ?_
            refine w_bipush O d5_100 (z := (7 : Int32)) (pc' := 102) rfl rfl ?_
            refine w_iushr O d5_102 (pc' := 103) rfl ?_
            refine w_istoreG O d5_103 (L' := fun zq => #[.val (.ref x.a), .val (.ref a), .val (.int prev), .val (.ref y.it), .val (.int v), .val (.int zq)]) (pc' := 105) rfl (fun _ => rfl) (fun gap' e_gap' => ?_)
            have i2 : ((gap.toUInt32 >>> ((7 : Int32) &&& 31).toUInt32).toInt32).toInt = (gap.toInt % 4294967296) / 128 := c_iushr gap (7 : Int32) 7 (by decide) (by decide)
            have j_gap' := congrArg Int32.toInt e_gap'
            have r_gap' := rng32 gap'
            refine w_goto O d5_105 (pc' := 77) (by decide) rfl ?_
            exact ihm (N + 1) _ gap' D lr h3 (by omega) (by omega) (by omega) (by rw [cntL_snoc, hcn, if_pos (own_hi gap), Nat.add_zero]) Bt_h3 S_h3 Bs_h3
      refine w_aloadN O d5_23 (pc' := 24) rfl rfl rfl ?_
      refine w_hasNext O d5_24 (wt := 0) (q := (⟨y, D, j, lr, (⟨x, C, ea, E, k, mc⟩ : ALB.G)⟩ : ALB.IG)) (z := (1 : Int32)) (pc' := 29) rfl (by unfold Inn; decide +kernel) Bt (by show j ≤ k; omega) (by show (if j = k then (0 : Int32) else 1) = 1; rw [if_neg (by omega)]) rfl rfl (by decide) (by decide) (by show _ ≤ 19; omega) (by show _ ≤ 195; omega) ?_
      refine w_if_eq O d5_29 (pn := 32) (pt := 120) rfl (by decide) rfl (fun q => absurd q (by decide)) (fun c29 => ?_)
      refine w_aloadN O d5_32 (pc' := 33) rfl rfl rfl ?_
      refine w_next O d5_33 (wt := 0) (q := (⟨y, D, j, lr, (⟨x, C, ea, E, k, mc⟩ : ALB.G)⟩ : ALB.IG)) (v := .ref r) (pc' := 38) rfl (by unfold Inn; decide +kernel) Bt (by show j < k; omega) hr rfl gi rfl rfl (by decide) (by decide) (by show _ ≤ 19; omega) (by show _ ≤ 195; omega) (fun h2 Bt_h2 Kn => ?_)
      have Bx_h2 := Bx.keep Kn (by decide)
      have S_h2 := BoS.keep S Kn (by decide) (by decide)
      have Bs_h2 : (∀ (i : Nat) (v : Int32), vs[i]? = some v → ∃ r, E.slots[i]? = some (.ref r) ∧ Box Z h2 r v) := fun i v e => by obtain ⟨r, e1, e2⟩ := Bs i v e; exact ⟨r, e1, e2.keep Kn (by decide)⟩
      refine w_cast O d5_38 (pc' := 41) rfl (mw 180 rfl) (Ins.self Bx_h2.1) ?_
      refine w_virtual O d5_41 (as := []) (st := []) (wt := 0) (cl' := 3 + N) (sl' := 6 + k + sumF k N) (pc' := 44) rfl (mw 181 rfl) (mw 182 rfl) (mw 184 rfl) (mw 183 rfl) (mw 185 rfl) (mw 119 rfl) (by decide) Bx_h2.1 (con_inv l Z a0 hw r v h2 n0 Bx_h2.2) rfl pd_2 rfl rfl rfl (by decide) (by decide) rfl rfl (by show _ ≤ 19; omega) (by show _ ≤ 195; omega) (cI fun rq _ ⟨qr, er⟩ => ?_)
      rw [qr]
      rw [er]
      refine w_istore O d5_44 (L' := #[.val (.ref x.a), .val (.ref a), .val (.int prev), .val (.ref y.it), .val (.int v), s5]) (pc' := 46) rfl (by rcases h4 with rfl | ⟨q, rfl⟩ <;> rfl) ?_
      refine w_iload O d5_46 (pc' := 48) rfl rfl ?_
      refine w_iloadN O d5_48 (pc' := 49) rfl rfl ?_
      refine w_icmp_gt O d5_49 (pn := 52) (pt := 69) rfl (by decide) rfl (fun c49 => ?_) (fun c49 => absurd (show ¬ prev.toInt < v.toInt from c49) (by omega))
      refine w_iload O d5_69 (pc' := 71) rfl rfl ?_
      refine w_iloadN O d5_71 (pc' := 72) rfl rfl ?_
      refine w_isub O d5_72 (pc' := 73) rfl ?_
      refine w_iconst O d5_73 (z := (1 : Int32)) (pc' := 74) rfl rfl ?_
      refine w_isub O d5_74 (pc' := 75) rfl ?_
      refine w_istoreG O d5_75 (L' := fun zq => #[.val (.ref x.a), .val (.ref a), .val (.int prev), .val (.ref y.it), .val (.int v), .val (.int zq)]) (pc' := 77) rfl (fun _ => by rcases h5 with rfl | ⟨q, rfl⟩ <;> rfl) (fun gap e_gap => ?_)
      have i2 : ((v - prev).toInt - (v.toInt - prev.toInt)) % 4294967296 = 0 := c_isub v prev
      have i3 := rng32 (v - prev)
      have i4 : (((v - prev) - (1 : Int32)).toInt - ((v - prev).toInt - 1)) % 4294967296 = 0 := c_isub (v - prev) (1 : Int32)
      have i5 := rng32 ((v - prev) - (1 : Int32))
      have j_gap := congrArg Int32.toInt e_gap
      have r_gap := rng32 gap
      exact inner 4 N bs gap _ _ h2 (by omega) (by rw [hb4]; omega) (by omega) hcn Bt_h2 S_h2 Bs_h2
  refine w_newM O d5_0 (cl' := 1) (sl' := 2) (pc' := 3) rfl (mw 31 rfl) (mw 32 rfl) (mw 33 rfl) rfl rfl (by decide) (by decide) (fun h1 a qa ga K1 Ea Da Ma => ?_)
  have Fc : Fld Z h1 a "java/io/ByteArrayOutputStream" "count" "I" (.int 0) := Da (Or.inl (hw _ (mw 100 rfl))) (ty := .int) (by decide)
  have Fb : Fld Z h1 a "java/io/ByteArrayOutputStream" "buf" "[B" .null := Da (Or.inl (hw _ (mw 57 rfl))) (ty := .array .byte) (by decide)
  have A1 := A.alKeep K1 (by simp) (by simp)
  have Bs1 : (∀ (i : Nat) (v : Int32), vs[i]? = some v → ∃ r, E.slots[i]? = some (.ref r) ∧ Box Z h1 r v) := fun i v e => by obtain ⟨r, e1, e2⟩ := Bs0 i v e; exact ⟨r, e1, e2.keep K1 (by simp)⟩
  refine w_dup O d5_3 (pc' := 4) rfl rfl ?_
  refine w_aloadN O d5_4 (pc' := 5) rfl rfl rfl ?_
  refine w_alSize O d5_5 (wt := 2) (pc' := 10) rfl (by unfold Inn; decide +kernel) A1 rfl rfl (by decide) (by decide) (by decide) (by decide) ?_
  refine w_boInit O d5_10 (wt := 1) (n := k) (cl' := 2) (sl' := 2 + k) (pc' := 13) rfl (by unfold Inn; decide +kernel) (mw 32 rfl) Ea Fc Fb Ma ga (by omega) rfl rfl (by decide) (by decide) rfl rfl (by show _ ≤ 19; omega) (by show _ ≤ 195; omega) (fun h2 S2 K2 => ?_)
  have A2 := A1.alKeep K2 (by decide) (by decide)
  have Bs2 : (∀ (i : Nat) (v : Int32), vs[i]? = some v → ∃ r, E.slots[i]? = some (.ref r) ∧ Box Z h2 r v) := fun i v e => by obtain ⟨r, e1, e2⟩ := Bs1 i v e; exact ⟨r, e1, e2.keep K2 (by decide)⟩
  refine w_astoreN O d5_13 (L' := #[.val (.ref x.a), .val (.ref a), .unset, .unset, .unset, .unset]) (pc' := 14) rfl rfl rfl ?_
  refine w_iconst O d5_14 (z := (-1 : Int32)) (pc' := 15) rfl rfl ?_
  refine w_istoreN O d5_15 (L' := #[.val (.ref x.a), .val (.ref a), .val (.int (-1 : Int32)), .unset, .unset, .unset]) (pc' := 16) rfl rfl ?_
  refine w_aloadN O d5_16 (pc' := 17) rfl rfl rfl ?_
  refine w_iter O d5_17 (wt := 0) (z := (⟨x, C, ea, E, k, mc⟩ : ALB.G)) (cl' := 3) (sl' := 2 + k + 4) (pc' := 22) rfl (by unfold Inn; decide +kernel) A2 rfl rfl (by decide) (by decide) rfl rfl (by show _ ≤ 19; omega) (by show _ ≤ 195; omega) (fun h3 y D gi Bt K3 => ?_)
  have S3 := S2.keep K3 (by simp) (by simp)
  have Bs3 : (∀ (i : Nat) (v : Int32), vs[i]? = some v → ∃ r, E.slots[i]? = some (.ref r) ∧ Box Z h3 r v) := fun i v e => by obtain ⟨r, e1, e2⟩ := Bs2 i v e; exact ⟨r, e1, e2.keep K3 (by simp)⟩
  refine w_astoreN O d5_22 (L' := #[.val (.ref x.a), .val (.ref a), .val (.int (-1 : Int32)), .val (.ref y.it), .unset, .unset]) (pc' := 23) rfl rfl rfl ?_
  refine W.mono (cl' := 3 + 0) (sl' := 6 + k + sumF k 0) (by omega) (by show _ ≤ 6 + k + 0; omega) ?_
  exact loop a y ga gi k 0 0 [] (-1 : Int32) D (-1) _ _ h3 (by omega) (by omega) rfl Bt S3 Bs3 (by decide) (fun v e => by have := hpos 0 v e; have : (-1 : Int32).toInt = -1 := (by decide); omega) (Or.inl rfl) (Or.inl rfl)
theorem pn_0 : plainFor x = true := plainFor_of_name (by first | (simp [plainName, overriddenIn]; done) | decide +kernel)
theorem pd_3 : parseMethodDescriptor "(Ljava/util/List;)[B" = some ⟨[(.object "java/util/List")], some (.array .byte)⟩ := by decide +kernel
theorem pd_4 : parseMethodDescriptor "([B)I" = some ⟨[(.array .byte)], some .int⟩ := by decide +kernel
theorem pd_5 : parseMethodDescriptor "(I)Ljava/lang/Integer;" = some ⟨[.int], some (.object "java/lang/Integer")⟩ := by decide +kernel
set_option maxRecDepth 65536 in
set_option maxHeartbeats 40000000 in
theorem law_con (l : Launch) (Z : State) (a0 : Array Value) (hw : ∀ d ∈ tables_1, d.before a0 Z = true) (u0 u1 u2 u3 : Int32) (dc : Addr) (Edc : Cell) (h0 : Heap) (n0 : Nat) (Df : Hold Z h0 (ALB.DfArr dc Edc)) (Cc : Cch Z h0) :
    Con l Z x code maxLocals ret room_1 [(.int u0), (.int u1), (.int u2), (.int u3)] h0 n0 (RetI fun r _ => r = 1) := by
  refine Con.body (L0 := #[.val (.int u0), .val (.int u1), .val (.int u2), .val (.int u3), .unset, .unset, .unset, .unset, .unset, .unset, .unset, .unset, .unset]) hw pn_0 (fun m => by first | (simp [entryFrame, mkF, argsToLocals, Value.category, maxLocals]; done) | rfl) (fun K O => ?_)
  replace O : Ok K l Z a0 tables_1 code 13 (some .boolean) "com/example/acrawl/acrawl/store/RecordsCountPositionsPinLaw" "law" room_1 n0 _ := O
  refine w_iloadN O at_0 (pc' := 1) rfl rfl ?_
  refine w_iconst O at_1 (z := (3 : Int32)) (pc' := 2) rfl rfl ?_
  refine w_iand O at_2 (pc' := 3) rfl ?_
  refine w_istoreG O at_3 (L' := fun zq => #[.val (.int u0), .val (.int u1), .val (.int u2), .val (.int u3), .val (.int zq), .unset, .unset, .unset, .unset, .unset, .unset, .unset, .unset]) (pc' := 5) rfl (fun _ => rfl) (fun nn e_nn => ?_)
  have i2 : (u0 &&& (3 : Int32)).toInt = u0.toInt % 4 := c_mask u0 (3 : Int32) 2 (by decide) (by decide)
  have j_nn := congrArg Int32.toInt e_nn
  have r_nn := rng32 nn
  have f_nn : 0 ≤ nn.toInt ∧ nn.toInt ≤ 3 := by omega
  clear i2 j_nn
  refine w_iloadN O at_5 (pc' := 6) rfl rfl ?_
  refine w_ldc O at_6 (pc' := 8) rfl (mw 0 rfl) ?_
  refine w_iand O at_8 (pc' := 9) rfl ?_
  refine w_istoreG O at_9 (L' := fun zq => #[.val (.int u0), .val (.int u1), .val (.int u2), .val (.int u3), .val (.int nn), .val (.int zq), .unset, .unset, .unset, .unset, .unset, .unset, .unset]) (pc' := 11) rfl (fun _ => rfl) (fun g0 e_g0 => ?_)
  have i4 : (u1 &&& (536870911 : Int32)).toInt = u1.toInt % 536870912 := c_mask u1 (536870911 : Int32) 29 (by decide) (by decide)
  have j_g0 := congrArg Int32.toInt e_g0
  have r_g0 := rng32 g0
  have f_g0 : 0 ≤ g0.toInt ∧ g0.toInt < 536870912 := by omega
  clear i4 j_g0
  refine w_iloadN O at_11 (pc' := 12) rfl rfl ?_
  refine w_ldc O at_12 (pc' := 14) rfl (mw 0 rfl) ?_
  refine w_iand O at_14 (pc' := 15) rfl ?_
  refine w_istoreG O at_15 (L' := fun zq => #[.val (.int u0), .val (.int u1), .val (.int u2), .val (.int u3), .val (.int nn), .val (.int g0), .val (.int zq), .unset, .unset, .unset, .unset, .unset, .unset]) (pc' := 17) rfl (fun _ => rfl) (fun g1 e_g1 => ?_)
  have i6 : (u2 &&& (536870911 : Int32)).toInt = u2.toInt % 536870912 := c_mask u2 (536870911 : Int32) 29 (by decide) (by decide)
  have j_g1 := congrArg Int32.toInt e_g1
  have r_g1 := rng32 g1
  have f_g1 : 0 ≤ g1.toInt ∧ g1.toInt < 536870912 := by omega
  clear i6 j_g1
  refine w_iloadN O at_17 (pc' := 18) rfl rfl ?_
  refine w_ldc O at_18 (pc' := 20) rfl (mw 0 rfl) ?_
  refine w_iand O at_20 (pc' := 21) rfl ?_
  refine w_istoreG O at_21 (L' := fun zq => #[.val (.int u0), .val (.int u1), .val (.int u2), .val (.int u3), .val (.int nn), .val (.int g0), .val (.int g1), .val (.int zq), .unset, .unset, .unset, .unset, .unset]) (pc' := 23) rfl (fun _ => rfl) (fun g2 e_g2 => ?_)
  have i8 : (u3 &&& (536870911 : Int32)).toInt = u3.toInt % 536870912 := c_mask u3 (536870911 : Int32) 29 (by decide) (by decide)
  have j_g2 := congrArg Int32.toInt e_g2
  have r_g2 := rng32 g2
  have f_g2 : 0 ≤ g2.toInt ∧ g2.toInt < 536870912 := by omega
  clear i8 j_g2
  refine w_iload O at_23 (pc' := 25) rfl rfl ?_
  refine w_istore O at_25 (L' := #[.val (.int u0), .val (.int u1), .val (.int u2), .val (.int u3), .val (.int nn), .val (.int g0), .val (.int g1), .val (.int g2), .val (.int g0), .unset, .unset, .unset, .unset]) (pc' := 27) rfl rfl ?_
  refine w_iload O at_27 (pc' := 29) rfl rfl ?_
  refine w_iconst O at_29 (z := (1 : Int32)) (pc' := 30) rfl rfl ?_
  refine w_iadd O at_30 (pc' := 31) rfl ?_
  refine w_iload O at_31 (pc' := 33) rfl rfl ?_
  refine w_iadd O at_33 (pc' := 34) rfl ?_
  refine w_istoreG O at_34 (L' := fun zq => #[.val (.int u0), .val (.int u1), .val (.int u2), .val (.int u3), .val (.int nn), .val (.int g0), .val (.int g1), .val (.int g2), .val (.int g0), .val (.int zq), .unset, .unset, .unset]) (pc' := 36) rfl (fun _ => rfl) (fun p1 e_p1 => ?_)
  have i10 : ((g0 + (1 : Int32)).toInt - (g0.toInt + 1)) % 4294967296 = 0 := c_iadd g0 (1 : Int32)
  have i11 := rng32 (g0 + (1 : Int32))
  have i12 : (((g0 + (1 : Int32)) + g1).toInt - ((g0 + (1 : Int32)).toInt + g1.toInt)) % 4294967296 = 0 := c_iadd (g0 + (1 : Int32)) g1
  have i13 := rng32 ((g0 + (1 : Int32)) + g1)
  have j_p1 := congrArg Int32.toInt e_p1
  have r_p1 := rng32 p1
  have f_p1 : p1.toInt = g0.toInt + 1 + g1.toInt := by omega
  clear i10 i11 i12 i13 j_p1
  refine w_iload O at_36 (pc' := 38) rfl rfl ?_
  refine w_iconst O at_38 (z := (1 : Int32)) (pc' := 39) rfl rfl ?_
  refine w_iadd O at_39 (pc' := 40) rfl ?_
  refine w_iload O at_40 (pc' := 42) rfl rfl ?_
  refine w_iadd O at_42 (pc' := 43) rfl ?_
  refine w_istoreG O at_43 (L' := fun zq => #[.val (.int u0), .val (.int u1), .val (.int u2), .val (.int u3), .val (.int nn), .val (.int g0), .val (.int g1), .val (.int g2), .val (.int g0), .val (.int p1), .val (.int zq), .unset, .unset]) (pc' := 45) rfl (fun _ => rfl) (fun p2 e_p2 => ?_)
  have i15 : ((p1 + (1 : Int32)).toInt - (p1.toInt + 1)) % 4294967296 = 0 := c_iadd p1 (1 : Int32)
  have i16 := rng32 (p1 + (1 : Int32))
  have i17 : (((p1 + (1 : Int32)) + g2).toInt - ((p1 + (1 : Int32)).toInt + g2.toInt)) % 4294967296 = 0 := c_iadd (p1 + (1 : Int32)) g2
  have i18 := rng32 ((p1 + (1 : Int32)) + g2)
  have j_p2 := congrArg Int32.toInt e_p2
  have r_p2 := rng32 p2
  have f_p2 : p2.toInt = p1.toInt + 1 + g2.toInt := by omega
  clear i15 i16 i17 i18 j_p2
  have J105 : ∀ (h : Heap) (x : ALB.Fix) (k : Nat) (vs : List Int32), Lk Z h n0 x k vs → nn.toInt = (k : Int) → k ≤ 3 → (∀ (i : Nat) (v : Int32), vs[i]? = some v → 0 ≤ v.toInt) → (∀ (i : Nat) (v w : Int32), vs[i]? = some v → vs[i + 1]? = some w → v.toInt < w.toInt) → W K h 7 36 105 #[.val (.int u0), .val (.int u1), .val (.int u2), .val (.int u3), .val (.int nn), .val (.int g0), .val (.int g1), .val (.int g2), .val (.int g0), .val (.int p1), .val (.int p2), .val (.ref x.a), .unset] [] := by
    intro h x k vs Ls hnk hk3 hpos hinc
    refine w_aload O at_105 (pc' := 107) rfl rfl rfl ?_
    refine w_static O at_107 (as := [(.ref x.a)]) (st := []) (wt := 0) (cl' := 26) (sl' := 231) (pc' := 110) rfl (mw 27 rfl) (mw 28 rfl) (mw 29 rfl) (mw 30 rfl) (by decide) (con_enc l Z a0 hw x h n0 n0 k vs Ls hk3 hpos hinc) rfl pd_3 rfl rfl rfl (by decide) (by decide) rfl rfl (by decide) (by decide) (cA fun u h2 hu ⟨b, N, g, eu, Ab, hN, hcn⟩ => ?_)
    subst eu
    refine w_astore O at_110 (L' := #[.val (.int u0), .val (.int u1), .val (.int u2), .val (.int u3), .val (.int nn), .val (.int g0), .val (.int g1), .val (.int g2), .val (.int g0), .val (.int p1), .val (.int p2), .val (.ref x.a), .val (.ref b)]) (pc' := 112) rfl rfl rfl ?_
    refine w_aload O at_112 (pc' := 114) rfl rfl rfl ?_
    refine w_static O at_114 (as := [(.ref b)]) (st := []) (wt := 0) (cl' := 26) (sl' := 231) (pc' := 117) rfl (mw 114 rfl) (mw 115 rfl) (mw 29 rfl) (mw 116 rfl) (by decide) (con_count l Z a0 hw b h2 n0 N g Ab (Int32.ofNat N) (Int32.toInt_ofNat_of_lt (by omega))) rfl pd_4 rfl rfl rfl (by decide) (by decide) rfl rfl (by decide) (by decide) (cI fun rc _ ⟨qrc, src⟩ => ?_)
    rw [qrc]
    refine w_iload O at_117 (pc' := 119) rfl rfl ?_
    refine w_icmp_ne O at_119 (pn := 122) (pt := 126) rfl (by decide) rfl (fun c119 => absurd (show ¬ rc.toInt = nn.toInt from c119) (by omega)) (fun c119 => ?_)
    refine w_iconst O at_122 (z := (1 : Int32)) (pc' := 123) rfl rfl ?_
    refine w_goto O at_123 (pc' := 127) (by decide) rfl ?_
    refine w_retz O at_127 (by decide) (by decide) (Or.inr rfl) ?_
    exact ⟨_, rfl, rfl⟩
  refine w_newC O at_45 (cl' := 1) (sl' := 3) (pc' := 48) rfl (mw 1 rfl) (mw 2 rfl) (mw 3 rfl) rfl rfl (by decide) (by decide) (fun h1 b cC kC qb gb K1 hfc hkC hkd hce => ?_)
  have Df1 := Df.dfKeep K1 (by simp)
  have C1 := Cc.keep K1 (by simp) (by simp)
  refine w_dup O at_48 (pc' := 49) rfl rfl ?_
  refine w_listInit O at_49 (wt := 1) (pc' := 52) rfl (by unfold Inn; decide +kernel) (by unfold Inn; decide +kernel) Df1 hfc hkC hkd hce gb rfl rfl (by decide) (by decide) (by decide) (by decide) (fun h2 x hxa L2 K2 => ?_)
  subst hxa
  have C2 := C1.keep K2 (by decide) (by decide)
  refine w_astore O at_52 (L' := #[.val (.int u0), .val (.int u1), .val (.int u2), .val (.int u3), .val (.int nn), .val (.int g0), .val (.int g1), .val (.int g2), .val (.int g0), .val (.int p1), .val (.int p2), .val (.ref x.a), .unset]) (pc' := 54) rfl rfl rfl ?_
  refine w_iload O at_54 (pc' := 56) rfl rfl ?_
  refine w_iconst O at_56 (z := (1 : Int32)) (pc' := 57) rfl rfl ?_
  refine w_icmp_lt O at_57 (pn := 60) (pt := 71) rfl (by decide) rfl (fun c57 => ?_) (fun c57 => ?_)
  · replace c57 : nn.toInt < 1 := c57
    refine w_iload O at_71 (pc' := 73) rfl rfl ?_
    refine w_iconst O at_73 (z := (2 : Int32)) (pc' := 74) rfl rfl ?_
    refine w_icmp_lt O at_74 (pn := 77) (pt := 88) rfl (by decide) rfl (fun c74 => ?_) (fun c74 => absurd (show ¬ nn.toInt < 2 from c74) (by omega))
    replace c74 : nn.toInt < 2 := c74
    refine w_iload O at_88 (pc' := 90) rfl rfl ?_
    refine w_iconst O at_90 (z := (3 : Int32)) (pc' := 91) rfl rfl ?_
    refine w_icmp_lt O at_91 (pn := 94) (pt := 105) rfl (by decide) rfl (fun c91 => ?_) (fun c91 => absurd (show ¬ nn.toInt < 3 from c91) (by omega))
    replace c91 : nn.toInt < 3 := c91
    refine W.mono (cl' := 7) (sl' := 36) (by decide) (by decide) (J105 h2 x 0 [] L2 (by omega) (by omega) ?_ ?_)
    · intro i v e
      rcases i with _ | _ | _ | i <;> simp at e <;> (try subst e) <;> omega
    · intro i v w e e'
      rcases i with _ | _ | _ | i <;> simp at e e' <;> (try subst e) <;> (try subst e') <;> omega
  · replace c57 : ¬ nn.toInt < 1 := c57
    refine w_aload O at_60 (pc' := 62) rfl rfl rfl ?_
    refine w_iload O at_62 (pc' := 64) rfl rfl ?_
    refine w_static O at_64 (as := [(.int g0)]) (st := [(.ref x.a)]) (wt := 1) (cl' := 2) (sl' := 4) (pc' := 67) rfl (mw 117 rfl) (mw 118 rfl) (mw 119 rfl) (mw 120 rfl) (by decide) (con_vof l Z a0 hw g0 h2 n0 (by omega) C2) rfl pd_5 rfl rfl rfl (by decide) (by decide) rfl rfl (by decide) (by decide) (cA fun ub20 h19 hub20 ⟨b20, eb20, Bb20, Kb20⟩ => ?_)
    subst eb20
    have Ch19 := C2.keep Kb20 (by simp) (by simp)
    have Lh19 := L2.keep Kb20 (by simp) (by simp) (by simp)
    refine w_listAdd O at_67 (wt := 0) (cl' := 3) (sl' := 14) (pc' := 70) rfl (by unfold Inn; decide +kernel) Lh19 Bb20 (by decide) rfl rfl (by decide) (by decide) rfl rfl (by decide) (by decide) (fun h21 Lh21 Kh21 => ?_)
    have Ch21 := Ch19.keep Kh21 (by decide) (by decide)
    refine w_pop O at_70 (pc' := 71) rfl rfl ?_
    refine w_iload O at_71 (pc' := 73) rfl rfl ?_
    refine w_iconst O at_73 (z := (2 : Int32)) (pc' := 74) rfl rfl ?_
    refine w_icmp_lt O at_74 (pn := 77) (pt := 88) rfl (by decide) rfl (fun c74 => ?_) (fun c74 => ?_)
    · replace c74 : nn.toInt < 2 := c74
      refine w_iload O at_88 (pc' := 90) rfl rfl ?_
      refine w_iconst O at_90 (z := (3 : Int32)) (pc' := 91) rfl rfl ?_
      refine w_icmp_lt O at_91 (pn := 94) (pt := 105) rfl (by decide) rfl (fun c91 => ?_) (fun c91 => absurd (show ¬ nn.toInt < 3 from c91) (by omega))
      replace c91 : nn.toInt < 3 := c91
      refine W.mono (cl' := 7) (sl' := 36) (by decide) (by decide) (J105 h21 x 1 ([] ++ [g0]) Lh21 (by omega) (by omega) ?_ ?_)
      · intro i v e
        rcases i with _ | _ | _ | i <;> simp at e <;> (try subst e) <;> omega
      · intro i v w e e'
        rcases i with _ | _ | _ | i <;> simp at e e' <;> (try subst e) <;> (try subst e') <;> omega
    · replace c74 : ¬ nn.toInt < 2 := c74
      refine w_aload O at_77 (pc' := 79) rfl rfl rfl ?_
      refine w_iload O at_79 (pc' := 81) rfl rfl ?_
      refine w_static O at_81 (as := [(.int p1)]) (st := [(.ref x.a)]) (wt := 1) (cl' := 4) (sl' := 15) (pc' := 84) rfl (mw 117 rfl) (mw 118 rfl) (mw 119 rfl) (mw 120 rfl) (by decide) (con_vof l Z a0 hw p1 h21 n0 (by omega) Ch21) rfl pd_5 rfl rfl rfl (by decide) (by decide) rfl rfl (by decide) (by decide) (cA fun ub23 h22 hub23 ⟨b23, eb23, Bb23, Kb23⟩ => ?_)
      subst eb23
      have Ch22 := Ch21.keep Kb23 (by simp) (by simp)
      have Lh22 := Lh21.keep Kb23 (by simp) (by simp) (by simp)
      refine w_listAdd O at_84 (wt := 0) (cl' := 5) (sl' := 25) (pc' := 87) rfl (by unfold Inn; decide +kernel) Lh22 Bb23 (by decide) rfl rfl (by decide) (by decide) rfl rfl (by decide) (by decide) (fun h24 Lh24 Kh24 => ?_)
      have Ch24 := Ch22.keep Kh24 (by decide) (by decide)
      refine w_pop O at_87 (pc' := 88) rfl rfl ?_
      refine w_iload O at_88 (pc' := 90) rfl rfl ?_
      refine w_iconst O at_90 (z := (3 : Int32)) (pc' := 91) rfl rfl ?_
      refine w_icmp_lt O at_91 (pn := 94) (pt := 105) rfl (by decide) rfl (fun c91 => ?_) (fun c91 => ?_)
      · replace c91 : nn.toInt < 3 := c91
        refine W.mono (cl' := 7) (sl' := 36) (by decide) (by decide) (J105 h24 x 2 (([] ++ [g0]) ++ [p1]) Lh24 (by omega) (by omega) ?_ ?_)
        · intro i v e
          rcases i with _ | _ | _ | i <;> simp at e <;> (try subst e) <;> omega
        · intro i v w e e'
          rcases i with _ | _ | _ | i <;> simp at e e' <;> (try subst e) <;> (try subst e') <;> omega
      · replace c91 : ¬ nn.toInt < 3 := c91
        refine w_aload O at_94 (pc' := 96) rfl rfl rfl ?_
        refine w_iload O at_96 (pc' := 98) rfl rfl ?_
        refine w_static O at_98 (as := [(.int p2)]) (st := [(.ref x.a)]) (wt := 1) (cl' := 6) (sl' := 26) (pc' := 101) rfl (mw 117 rfl) (mw 118 rfl) (mw 119 rfl) (mw 120 rfl) (by decide) (con_vof l Z a0 hw p2 h24 n0 (by omega) Ch24) rfl pd_5 rfl rfl rfl (by decide) (by decide) rfl rfl (by decide) (by decide) (cA fun ub26 h25 hub26 ⟨b26, eb26, Bb26, Kb26⟩ => ?_)
        subst eb26
        have Ch25 := Ch24.keep Kb26 (by simp) (by simp)
        have Lh25 := Lh24.keep Kb26 (by simp) (by simp) (by simp)
        refine w_listAdd O at_101 (wt := 0) (cl' := 7) (sl' := 36) (pc' := 104) rfl (by unfold Inn; decide +kernel) Lh25 Bb26 (by decide) rfl rfl (by decide) (by decide) rfl rfl (by decide) (by decide) (fun h27 Lh27 Kh27 => ?_)
        have Ch27 := Ch25.keep Kh27 (by decide) (by decide)
        refine w_pop O at_104 (pc' := 105) rfl rfl ?_
        refine W.mono (cl' := 7) (sl' := 36) (by decide) (by decide) (J105 h27 x 3 ((([] ++ [g0]) ++ [p1]) ++ [p2]) Lh27 (by omega) (by omega) ?_ ?_)
        · intro i v e
          rcases i with _ | _ | _ | i <;> simp at e <;> (try subst e) <;> omega
        · intro i v w e e'
          rcases i with _ | _ | _ | i <;> simp at e e' <;> (try subst e) <;> (try subst e') <;> omega
theorem own_len {Z : State} {args : Array Value} {t : Term} {a : Addr} {cA : Cell} {ty : FieldType} {y : Int32} (ev : t.eval args Z none [] Z = some (.ref a)) (A : Arr Z Z.heap a cA ty) (h : (Jvm.Cond.eq (Term.length t) (.int y)).value args Z none Z [] = some true) (hy : 0 ≤ y.toInt := by decide) : cA.slots.size = y.toInt.toNat := by
  have q := eqv_i (F := .int y) rfl h
  obtain ⟨b, cell, e1, e2, e3⟩ := Term.length_spec q
  cases ev.symm.trans e1
  simp only [Term.eval, ev] at q
  simp only [State.arrayAt?, A.1, Option.bind_eq_bind, Option.bind_some] at e2
  obtain ⟨-, k, hk, comp, hkind⟩ := A.2.1
  simp only [hk, Option.bind_some] at e2
  split at e2
  · cases e2
  · rw [hkind] at e2
    cases e2
    simp only [Option.bind_eq_bind, Option.bind_some, State.arrayAt?, A.1, hk] at q
    rw [if_neg (by assumption), hkind] at q
    simp only [Option.bind_some] at q
    split at q
    · rename_i hlt
      have e := Value.int.inj (Option.some.inj q)
      have := congrArg Int32.toInt e
      rw [show cA.slots.size.toInt32 = Int32.ofNat cA.slots.size from rfl, Int32.toInt_ofNat_of_lt hlt] at this
      omega
    · cases q
theorem own_bxs {Z : State} {args : Array Value} {C n d : String} {a : Addr} {cA : Cell} (ev : (Term.static C n d).eval args Z none [] Z = some (.ref a)) (A : Arr Z Z.heap a cA (.object "java/lang/Integer")) (hz : cA.slots.size = 256)
    (h : (Jvm.Cond.all (Term.static C n d) (.and (.exactly (.elem (Term.static C n d) (.index 0)) "java/lang/Integer") (.eq (.field (.elem (Term.static C n d) (.index 0)) "java/lang/Integer" "value" "I") (.sub (.index 0) (.int 128))))).value args Z none Z [] = some true) : Bxs Z a cA "java/lang/Integer" "I" 256 (fun j => .int (j - 128)) :=
  Bxs.start (fun idx => by first | exact ev | simpa [Term.eval] using ev) A (by omega) (by rw [hz]; rfl) (by decide) h (fun X j nn q => eqv_i (Term.sub_int (idx_at nn) rfl) q)
theorem own_cch {Z : State} {ca : Addr} {cC : Cell} (SH : Sta Z Z.heap "java/lang/Integer$IntegerCache" "high" "I" (.int 127)) (SC : Sta Z Z.heap "java/lang/Integer$IntegerCache" "cache" "[Ljava/lang/Integer;" (.ref ca)) (EC : Exa Z Z.heap ca "[Ljava/lang/Integer;") (AC : Arr Z Z.heap ca cC (.object "java/lang/Integer")) (hz : cC.slots.size = 256)
    (Bx : Bxs Z ca cC "java/lang/Integer" "I" 256 (fun j => .int (j - 128))) : Cch Z Z.heap := by
  have key : ∀ i : Nat, ∃ b : Addr, i < 256 → cC.slots[i]? = some (.ref b) ∧ Box Z Z.heap b (Int32.ofNat i - 128) := fun i => by
    by_cases hi : i < 256
    · have e1 : (Int32.ofNat i).toInt = (i : Int) := Int32.toInt_ofNat_of_lt (by omega)
      obtain ⟨q1, q2⟩ := tnc e1
      obtain ⟨b, g1, g2, g3⟩ := Bx.2.2.2 (Int32.ofNat i) (by rw [q1, hz]; rintro (z | z); exact q2 z; omega)
      rw [q1] at g1
      exact ⟨b, fun _ => ⟨g1, g2, g3⟩⟩
    · exact ⟨0, fun q => absurd q hi⟩
  exact ⟨ca, fun i => (key i).choose, SH, SC, EC, ⟨cC, AC, hz, by decide, fun i hi => ((key i).choose_spec hi).1⟩, fun i hi => ((key i).choose_spec hi).2⟩
set_option maxRecDepth 65536 in
set_option maxHeartbeats 40000000 in
theorem comes_1 {Post : Tables → Env → Array Value → State → Outcome → State → Prop} (hpost : ∀ tb e args s v u, (limb_1_1.after args s (.returned v) u = true ∧ limb_1_2.after args s (.returned v) u = true ∧ True) → FrameEnd s (.returned v) u (Jvm.fieldLocs frame_1_writes args s ++ Jvm.arrayLocs frame_1_arrays args s ++ Jvm.staticLocs frame_1_statics s) 32 256 → Post tb e args s (.returned v) u) :
    ArmFor flags0 classFile x code maxLocals ret World_1 tables_1 room_1 Calls_1 rest_1 Pre_1 Post := by
  intro l hfl _ _ p e ha hc hk s m args below hf hA hF happ hP
  obtain ⟨hcalls, hrest, hpre⟩ := hP
  obtain ⟨-, -, -, hnamed, -, -, -, hat⟩ := (Spec.applies_iff hf).mp happ
  obtain ⟨hg, hn⟩ := and_e (Cond.before_iff.mp (show (Jvm.Cond.and given_1 narrow_1).before args s = true from hpre))
  obtain ⟨g1, g2⟩ := and_e hg
  obtain ⟨g3, g4⟩ := and_e g2
  obtain ⟨g5, g6⟩ := and_e g4
  obtain ⟨g7, g8⟩ := and_e g6
  obtain ⟨w0, w1, w2, w3, rfl⟩ : ∃ w0 w1 w2 w3 : Value, args = #[w0, w1, w2, w3] := by
    have hs : args.size = 4 := by simpa [Cond.value, given_1] using g1
    obtain ⟨L⟩ := args
    match L, hs with
    | [w0, w1, w2, w3], _ => exact ⟨w0, w1, w2, w3, rfl⟩
  have hw := fun d (hd : d ∈ tables_1) => atoms_spec (ws := Jvm.Cond.code x code maxLocals ret :: tables_1) hat d (List.mem_cons_of_mem _ hd)
  have hfit : Fit s := fun {y c} hc i hi => by
    obtain ⟨ha, rfl⟩ := Array.getElem?_eq_some_iff.mp hc
    have q := List.all_eq_true.mp ((Array.all_eq_true_iff_forall_mem.mp hF) _ (Array.getElem_mem ha)) i (List.mem_range.mpr hi)
    simpa [Array.getElem?_eq_getElem hi] using q
  obtain ⟨hsets, hown0⟩ := atoms_of _ (rest_1_c_eq ▸ (show rest_1_c.before _ s = true from hrest))
  have hr0 := Cond.before_iff.mp hown0
  obtain ⟨i0, ei0⟩ := is_v g3
  obtain rfl : w0 = (.int i0) := Option.some.inj ei0
  obtain ⟨i1, ei1⟩ := is_v g5
  obtain rfl : w1 = (.int i1) := Option.some.inj ei1
  obtain ⟨i2, ei2⟩ := is_v g7
  obtain rfl : w2 = (.int i2) := Option.some.inj ei2
  obtain ⟨i3, ei3⟩ := is_v g8
  obtain rfl : w3 = (.int i3) := Option.some.inj ei3
  have s2 := hsets _ (List.mem_of_getElem? (i := 2) rfl)
  have s6 := hsets _ (List.mem_of_getElem? (i := 6) rfl)
  have s7 := hsets _ (List.mem_of_getElem? (i := 7) rfl)
  have s8 := hsets _ (List.mem_of_getElem? (i := 8) rfl)
  have s10 := hsets _ (List.mem_of_getElem? (i := 10) rfl)
  have s11 := hsets _ (List.mem_of_getElem? (i := 11) rfl)
  have s12 := hsets _ (List.mem_of_getElem? (i := 12) rfl)
  have s13 := hsets _ (List.mem_of_getElem? (i := 13) rfl)
  have s14 := hsets _ (List.mem_of_getElem? (i := 14) rfl)
  have s15 := hsets _ (List.mem_of_getElem? (i := 15) rfl)
  have s16 := hsets _ (List.mem_of_getElem? (i := 16) rfl)
  have v6 := Cond.before_iff.mp s6
  have v7 := Cond.before_iff.mp s7
  have v8 := Cond.before_iff.mp s8
  have v12 := Cond.before_iff.mp s12
  have v13 := Cond.before_iff.mp s13
  have v14 := Cond.before_iff.mp s14
  have v15 := Cond.before_iff.mp s15
  have v16 := Cond.before_iff.mp s16
  obtain ⟨dc, ev_d, ED⟩ := own_exact v7
  have SD := Sta.start ev_d (Or.inr ⟨hw _ (mw 3 rfl), s2⟩)
  obtain ⟨cD, AD⟩ := Arr.start ev_d v6
  have zD : cD.slots.size = 0 := own_len ev_d AD v8
  have Df := own_df SD ED AD zD
  have eh := eqv_i (F := .int 127) rfl v12
  have SH := Sta.start eh (Or.inl s10)
  obtain ⟨ca, ev_c, EC⟩ := own_exact v14
  have SC := Sta.start ev_c (Or.inr ⟨hw _ (mw 122 rfl), s11⟩)
  obtain ⟨cC, AC⟩ := Arr.start ev_c v13
  have zC : cC.slots.size = 256 := own_len ev_c AC v15
  have Cc := own_cch SH SC EC AC zC (own_bxs ev_c AC zC v16)
  obtain ⟨n, o, h1, h2, h3, _, L, rfl, ⟨⟨r, rfl, rfl⟩, N⟩, hq⟩ := (law_con l s _ hw i0 i1 i2 i3 dc cD s.heap s.heap.size Df Cc) (Nat.le_refl _) tables_1 p e ha hc hk s m _ below hf ((Spec.applies_iff_loose hf).mp happ).1 ⟨rfl, State.Warmed39.refl s, rfl⟩ trivial
  refine ⟨n, _, h1, h2, h3, hpost _ _ _ _ _ _ ⟨Cond.after_iff.mpr rfl, Cond.after_iff.mpr (eq_i res_at (Term.int_eval (1)) rfl), trivial⟩ ⟨hq.1, hq.2.1, (hq.2.2.sift fun y hy => Or.inr (N y hy)).mono (by decide) (by decide)⟩⟩
theorem main_1_1 : Claimed_1_1 := comes_1 fun _ _ _ _ _ _ h hF => ⟨h.1, hF⟩
theorem main_1_2 : Claimed_1_2 := comes_1 fun _ _ _ _ _ _ h hF => ⟨h.2.1, hF⟩
end Jvm.Pilot.@@N@@
namespace Jvm.Pilot.@@N@@
open Jvm Jvm.ClassFile Sem Op Lib Jvm.Free Jvm.Stand Jvm.Pilot.@@N@@.Jvm.D
/-! MADE BY PROGRAM (witnessworld.py) out of the Statement's table words and the real class files: 36 classes; the members and pool entries that the words name. The judged class is class 1, her method 1. -/
namespace start1
open Jvm.ClassFile
def u (s : String) : CpInfo := .utf8 (stringToUtf16 s)
/-- a pool by its gaps: so many unusable entries, then the entry; so many at the end -/
def gap : Nat → List CpInfo → List CpInfo
  | 0, r => r
  | n + 1, r => .unusable :: gap n r
def poolList (es : List (Nat × CpInfo)) (last : Nat) : List CpInfo := es.foldr (fun e r => gap e.1 (e.2 :: r)) (gap last [])
def pool (es : List (Nat × CpInfo)) (last : Nat) : Array CpInfo := ⟨poolList es last⟩
def fileOf (pool : Array CpInfo) (this : Nat) (attrs : Array Attribute := #[]) (ms : Array MethodInfo := #[]) (fl : Nat := 33) (sup : Nat := 0) (ifs : Array Nat := #[]) (fds : Array FieldInfo := #[]) : ClassFile where
  minorVersion := 0
  majorVersion := 65
  constantPool := pool
  accessFlags := fl
  thisClass := this
  superClass := sup
  interfaces := ifs
  fields := fds
  methods := ms
  attributes := attrs
def plain (name : String) (sup : Option ClassId) : Class where
  name := name
  kind := .ordinary
  loader := none
  accessFlags := 33
  super := sup
  interfaces := #[]
  cf := none
  fields := #[]
  methods := #[]
  instanceTypes := #[]
  staticTypes := #[]
  resolved := #[]
  callSites := []
  init := .initialized
  statics := none
  mirror := none

def pool0 : Array CpInfo := pool [(5, u "<init>"), (0, u "()V"), (1, .class_ 10), (1, u "java/lang/Object"), (85, u "clone"), (0, u "()Ljava/lang/Object;")] 26

def k0c0 : Code := { maxStack := 0, maxLocals := 1, code := object_method_1_code, exceptionTable := #[], attributes := #[] }
def k0m0 : Method := { name := "<init>", desc := "()V", sig := { parameters := [], returnType := none }, accessFlags := 1, code := some k0c0 }
def k0m1 : Method := { name := "clone", desc := "()Ljava/lang/Object;", sig := { parameters := [], returnType := some (.object "java/lang/Object") }, accessFlags := 260, code := none }
/-- java/lang/Object -/
def k0 : Class := { plain "java/lang/Object" none with
  accessFlags := 33
  interfaces := #[]
  cf := some (fileOf pool0 8 #[] #[{ accessFlags := 1, nameIndex := 5, descriptorIndex := 6, attributes := #[] }, { accessFlags := 260, nameIndex := 96, descriptorIndex := 97, attributes := #[] }] 33 0 #[] #[])
  fields := #[]
  methods := #[k0m0, k0m1]
  instanceTypes := #[]
  staticTypes := #[]
  resolved := Array.replicate 124 none
  statics := none }

def pool1 : Array CpInfo := pool [(2, .class_ 4), (0, .nameAndType 5 6), (0, u "java/lang/Object"), (0, u "<init>"), (0, u "()V"), (0, .integer 536870911), (0, .class_ 9), (0, u "java/util/ArrayList"), (0, .methodref 8 3), (0, .methodref 12 13), (0, .class_ 14), (0, .nameAndType 15 16), (0, u "java/lang/Integer"), (0, u "valueOf"), (0, u "(I)Ljava/lang/Integer;"), (0, .methodref 8 18), (0, .nameAndType 19 20), (0, u "add"), (0, u "(Ljava/lang/Object;)Z"), (0, .methodref 22 23), (0, .class_ 24), (0, .nameAndType 25 26), (0, u "com/example/acrawl/acrawl/store/Records"), (0, u "encodePositions"), (0, u "(Ljava/util/List;)[B"), (0, .methodref 22 28), (0, .nameAndType 29 30), (0, u "countPositions"), (0, u "([B)I"), (0, .class_ 32), (0, u "com/example/acrawl/acrawl/store/RecordsCountPositionsPinLaw"), (2, u "law"), (0, u "(IIII)Z")] 5

def k1m0 : Method := { name := "<init>", desc := "()V", sig := { parameters := [], returnType := none }, accessFlags := 2, code := none }
def k1c1 : Code := { maxStack := 2, maxLocals := 13, code := code, exceptionTable := #[], attributes := #[] }
def k1m1 : Method := { name := "law", desc := "(IIII)Z", sig := { parameters := [.int, .int, .int, .int], returnType := some .boolean }, accessFlags := 9, code := some k1c1 }
/-- com/example/acrawl/acrawl/store/RecordsCountPositionsPinLaw -/
def k1 : Class := { plain "com/example/acrawl/acrawl/store/RecordsCountPositionsPinLaw" (some 0) with
  accessFlags := 49
  interfaces := #[]
  cf := some (fileOf pool1 31 #[] #[{ accessFlags := 2, nameIndex := 5, descriptorIndex := 6, attributes := #[] }, { accessFlags := 9, nameIndex := 35, descriptorIndex := 36, attributes := #[] }] 49 2 #[] #[])
  fields := #[]
  methods := #[k1m0, k1m1]
  instanceTypes := #[]
  staticTypes := #[]
  resolved := Array.replicate 42 none
  statics := none }

def pool2 : Array CpInfo := pool [(8, .class_ 10), (1, u "java/lang/Iterable"), (24, .class_ 36), (0, u "java/lang/Object")] 25

/-- java/lang/Iterable -/
def k2 : Class := { plain "java/lang/Iterable" (some 0) with
  accessFlags := 1537
  interfaces := #[]
  cf := some (fileOf pool2 8 #[] #[] 1537 35 #[] #[])
  fields := #[]
  methods := #[]
  instanceTypes := #[]
  staticTypes := #[]
  resolved := Array.replicate 62 none
  statics := none }

def pool3 : Array CpInfo := pool [(10, .class_ 12), (1, u "java/util/Collection"), (47, .class_ 61), (0, u "java/lang/Object"), (0, .class_ 63), (0, u "java/lang/Iterable")] 51

/-- java/util/Collection -/
def k3 : Class := { plain "java/util/Collection" (some 0) with
  accessFlags := 1537
  interfaces := #[2]
  cf := some (fileOf pool3 10 #[] #[] 1537 60 #[62] #[])
  fields := #[]
  methods := #[]
  instanceTypes := #[]
  staticTypes := #[]
  resolved := Array.replicate 115 none
  statics := none }

def pool4 : Array CpInfo := pool [(1, .methodref 2 3), (0, .class_ 4), (0, .nameAndType 5 6), (0, u "java/lang/Object"), (0, u "<init>"), (0, u "()V"), (1, .class_ 10), (1, u "java/util/AbstractCollection"), (66, .class_ 78), (0, u "java/util/Collection")] 81

def k4c0 : Code := { maxStack := 1, maxLocals := 1, code := jdk_22_method_1_code, exceptionTable := #[], attributes := #[] }
def k4m0 : Method := { name := "<init>", desc := "()V", sig := { parameters := [], returnType := none }, accessFlags := 4, code := some k4c0 }
/-- java/util/AbstractCollection -/
def k4 : Class := { plain "java/util/AbstractCollection" (some 0) with
  accessFlags := 1057
  interfaces := #[3]
  cf := some (fileOf pool4 8 #[] #[{ accessFlags := 4, nameIndex := 5, descriptorIndex := 6, attributes := #[] }] 1057 2 #[77] #[])
  fields := #[]
  methods := #[k4m0]
  instanceTypes := #[]
  staticTypes := #[]
  resolved := Array.replicate 160 none
  statics := none }

def pool5 : Array CpInfo := pool [(8, .class_ 10), (1, u "java/util/SequencedCollection"), (15, .class_ 27), (0, u "java/lang/Object"), (0, .class_ 29), (0, u "java/util/Collection")] 27

/-- java/util/SequencedCollection -/
def k5 : Class := { plain "java/util/SequencedCollection" (some 0) with
  accessFlags := 1537
  interfaces := #[3]
  cf := some (fileOf pool5 8 #[] #[] 1537 26 #[28] #[])
  fields := #[]
  methods := #[]
  instanceTypes := #[]
  staticTypes := #[]
  resolved := Array.replicate 57 none
  statics := none }

def pool6 : Array CpInfo := pool [(8, .class_ 10), (1, u "java/util/List"), (68, u "size"), (0, u "()I"), (22, .class_ 104), (0, u "java/lang/Object"), (15, .class_ 121), (0, u "java/util/SequencedCollection"), (1, u "iterator"), (0, u "()Ljava/util/Iterator;")] 126

def k6m0 : Method := { name := "size", desc := "()I", sig := { parameters := [], returnType := some .int }, accessFlags := 1025, code := none }
def k6m1 : Method := { name := "iterator", desc := "()Ljava/util/Iterator;", sig := { parameters := [], returnType := some (.object "java/util/Iterator") }, accessFlags := 1025, code := none }
/-- java/util/List -/
def k6 : Class := { plain "java/util/List" (some 0) with
  accessFlags := 1537
  interfaces := #[5]
  cf := some (fileOf pool6 8 #[] #[{ accessFlags := 1025, nameIndex := 79, descriptorIndex := 80, attributes := #[] }, { accessFlags := 1025, nameIndex := 123, descriptorIndex := 124, attributes := #[] }] 1537 103 #[120] #[])
  fields := #[]
  methods := #[k6m0, k6m1]
  instanceTypes := #[]
  staticTypes := #[]
  resolved := Array.replicate 251 none
  statics := none }

def pool7 : Array CpInfo := pool [(1, .methodref 2 3), (0, .class_ 4), (0, .nameAndType 5 6), (0, u "java/util/AbstractCollection"), (0, u "<init>"), (0, u "()V"), (0, .fieldref 8 9), (0, .class_ 10), (0, .nameAndType 11 12), (0, u "java/util/AbstractList"), (0, u "modCount"), (0, u "I"), (64, .class_ 78), (0, u "java/util/AbstractList$Itr"), (3, .class_ 83), (0, u "java/util/AbstractList$ListItr"), (9, .class_ 94), (0, u "java/util/AbstractList$RandomAccessSubList"), (3, .class_ 99), (0, u "java/util/AbstractList$SubList"), (33, .class_ 134), (0, u "java/util/List"), (73, .class_ 209), (0, u "java/util/AbstractList$SubList$1"), (0, .class_ 211), (0, u "java/util/AbstractList$RandomAccessSpliterator")] 6

def k7c0 : Code := { maxStack := 2, maxLocals := 1, code := jdk_39_method_1_code, exceptionTable := #[], attributes := #[] }
def k7m0 : Method := { name := "<init>", desc := "()V", sig := { parameters := [], returnType := none }, accessFlags := 4, code := some k7c0 }
/-- java/util/AbstractList -/
def k7 : Class := { plain "java/util/AbstractList" (some 4) with
  accessFlags := 1057
  interfaces := #[6]
  cf := some (fileOf pool7 8 #[.nestMembers #[93, 98, 208, 210, 82, 77]] #[{ accessFlags := 4, nameIndex := 5, descriptorIndex := 6, attributes := #[] }] 1057 2 #[133] #[{ accessFlags := 132, nameIndex := 11, descriptorIndex := 12, attributes := #[] }])
  fields := #[{ name := "modCount", type := .int, accessFlags := 132, slot := 0, constantValue := 0 }]
  methods := #[k7m0]
  instanceTypes := #[.int]
  staticTypes := #[]
  resolved := Array.replicate 218 none
  statics := none }

def pool8 : Array CpInfo := pool [(1, .class_ 2), (0, u "java/util/RandomAccess"), (0, .class_ 4), (0, u "java/lang/Object")] 2

/-- java/util/RandomAccess -/
def k8 : Class := { plain "java/util/RandomAccess" (some 0) with
  accessFlags := 1537
  interfaces := #[]
  cf := some (fileOf pool8 1 #[] #[] 1537 3 #[] #[])
  fields := #[]
  methods := #[]
  instanceTypes := #[]
  staticTypes := #[]
  resolved := Array.replicate 7 none
  statics := none }

def pool9 : Array CpInfo := pool [(1, .class_ 2), (0, u "java/lang/Cloneable"), (0, .class_ 4), (0, u "java/lang/Object")] 2

/-- java/lang/Cloneable -/
def k9 : Class := { plain "java/lang/Cloneable" (some 0) with
  accessFlags := 1537
  interfaces := #[]
  cf := some (fileOf pool9 1 #[] #[] 1537 3 #[] #[])
  fields := #[]
  methods := #[]
  instanceTypes := #[]
  staticTypes := #[]
  resolved := Array.replicate 7 none
  statics := none }

def pool10 : Array CpInfo := pool [(1, .class_ 2), (0, u "java/io/Serializable"), (0, .class_ 4), (0, u "java/lang/Object")] 2

/-- java/io/Serializable -/
def k10 : Class := { plain "java/io/Serializable" (some 0) with
  accessFlags := 1537
  interfaces := #[]
  cf := some (fileOf pool10 1 #[] #[] 1537 3 #[] #[])
  fields := #[]
  methods := #[]
  instanceTypes := #[]
  staticTypes := #[]
  resolved := Array.replicate 7 none
  statics := none }

def pool11 : Array CpInfo := pool [(1, .methodref 2 3), (0, .class_ 4), (0, .nameAndType 5 6), (0, u "java/util/AbstractList"), (0, u "<init>"), (0, u "()V"), (0, .class_ 8), (0, u "java/lang/Object"), (0, .fieldref 10 11), (0, .class_ 12), (0, .nameAndType 13 14), (0, u "java/util/ArrayList"), (0, u "elementData"), (0, u "[Ljava/lang/Object;"), (2, u "EMPTY_ELEMENTDATA"), (21, .fieldref 10 40), (0, .nameAndType 41 14), (0, u "DEFAULTCAPACITY_EMPTY_ELEMENTDATA"), (5, u "()[Ljava/lang/Object;"), (0, .fieldref 10 49), (0, .nameAndType 50 51), (0, u "size"), (0, u "I"), (11, .fieldref 10 64), (0, .nameAndType 65 51), (0, u "modCount"), (3, .methodref 10 70), (0, .nameAndType 71 72), (0, u "grow"), (0, u "(I)[Ljava/lang/Object;"), (6, .methodref 80 81), (0, .class_ 82), (0, .nameAndType 83 84), (0, u "java/lang/Math"), (0, u "max"), (0, u "(II)I"), (11, u "(Ljava/lang/Object;)Z"), (32, .methodref 10 130), (0, .nameAndType 71 47), (0, .methodref 10 132), (0, .nameAndType 133 134), (0, u "add"), (0, u "(Ljava/lang/Object;[Ljava/lang/Object;I)V"), (13, .class_ 149), (0, u "java/util/List"), (16, u "iterator"), (0, u "()Ljava/util/Iterator;"), (18, u "()I"), (75, .class_ 263), (0, u "java/util/ArrayList$ListItr"), (3, .class_ 268), (0, u "java/util/ArrayList$Itr"), (0, .methodref 267 270), (0, .nameAndType 5 271), (0, u "(Ljava/util/ArrayList;)V"), (4, .class_ 277), (0, u "java/util/ArrayList$SubList"), (12, .class_ 291), (0, u "java/util/ArrayList$ArrayListSpliterator"), (37, .class_ 330), (0, u "java/util/RandomAccess"), (0, .class_ 332), (0, u "java/lang/Cloneable"), (0, .class_ 334), (0, u "java/io/Serializable"), (0, u "serialVersionUID"), (0, u "J"), (3, u "DEFAULT_CAPACITY"), (159, .class_ 501), (0, u "java/util/ArrayList$SubList$2"), (0, .class_ 503), (0, u "java/util/ArrayList$SubList$1")] 5

def k11c0 : Code := { maxStack := 2, maxLocals := 1, code := jdk_38_method_2_code, exceptionTable := #[], attributes := #[] }
def k11m0 : Method := { name := "<init>", desc := "()V", sig := { parameters := [], returnType := none }, accessFlags := 1, code := some k11c0 }
def k11c1 : Code := { maxStack := 4, maxLocals := 4, code := jdk_38_method_6_code, exceptionTable := #[], attributes := #[] }
def k11m1 : Method := { name := "grow", desc := "(I)[Ljava/lang/Object;", sig := { parameters := [.int], returnType := some (.array (.object "java/lang/Object")) }, accessFlags := 2, code := some k11c1 }
def k11c2 : Code := { maxStack := 3, maxLocals := 1, code := jdk_38_method_7_code, exceptionTable := #[], attributes := #[] }
def k11m2 : Method := { name := "grow", desc := "()[Ljava/lang/Object;", sig := { parameters := [], returnType := some (.array (.object "java/lang/Object")) }, accessFlags := 2, code := some k11c2 }
def k11c3 : Code := { maxStack := 1, maxLocals := 1, code := jdk_38_method_8_code, exceptionTable := #[], attributes := #[] }
def k11m3 : Method := { name := "size", desc := "()I", sig := { parameters := [], returnType := some .int }, accessFlags := 1, code := some k11c3 }
def k11c4 : Code := { maxStack := 3, maxLocals := 4, code := jdk_38_method_24_code, exceptionTable := #[], attributes := #[] }
def k11m4 : Method := { name := "add", desc := "(Ljava/lang/Object;[Ljava/lang/Object;I)V", sig := { parameters := [(.object "java/lang/Object"), (.array (.object "java/lang/Object")), .int], returnType := none }, accessFlags := 2, code := some k11c4 }
def k11c5 : Code := { maxStack := 4, maxLocals := 2, code := jdk_38_method_25_code, exceptionTable := #[], attributes := #[] }
def k11m5 : Method := { name := "add", desc := "(Ljava/lang/Object;)Z", sig := { parameters := [(.object "java/lang/Object")], returnType := some .boolean }, accessFlags := 1, code := some k11c5 }
def k11c6 : Code := { maxStack := 3, maxLocals := 1, code := jdk_38_method_55_code, exceptionTable := #[], attributes := #[] }
def k11m6 : Method := { name := "iterator", desc := "()Ljava/util/Iterator;", sig := { parameters := [], returnType := some (.object "java/util/Iterator") }, accessFlags := 1, code := some k11c6 }
/-- java/util/ArrayList -/
def k11 : Class := { plain "java/util/ArrayList" (some 7) with
  accessFlags := 33
  interfaces := #[6, 8, 9, 10]
  cf := some (fileOf pool11 10 #[.nestMembers #[290, 276, 500, 502, 262, 267]] #[{ accessFlags := 1, nameIndex := 5, descriptorIndex := 6, attributes := #[] }, { accessFlags := 2, nameIndex := 71, descriptorIndex := 72, attributes := #[] }, { accessFlags := 2, nameIndex := 71, descriptorIndex := 47, attributes := #[] }, { accessFlags := 1, nameIndex := 50, descriptorIndex := 186, attributes := #[] }, { accessFlags := 2, nameIndex := 133, descriptorIndex := 134, attributes := #[] }, { accessFlags := 1, nameIndex := 133, descriptorIndex := 96, attributes := #[] }, { accessFlags := 1, nameIndex := 166, descriptorIndex := 167, attributes := #[] }] 33 2 #[148, 329, 331, 333] #[{ accessFlags := 26, nameIndex := 335, descriptorIndex := 336, attributes := #[] }, { accessFlags := 26, nameIndex := 340, descriptorIndex := 51, attributes := #[] }, { accessFlags := 26, nameIndex := 17, descriptorIndex := 14, attributes := #[] }, { accessFlags := 26, nameIndex := 41, descriptorIndex := 14, attributes := #[] }, { accessFlags := 128, nameIndex := 13, descriptorIndex := 14, attributes := #[] }, { accessFlags := 2, nameIndex := 50, descriptorIndex := 51, attributes := #[] }])
  fields := #[{ name := "serialVersionUID", type := .long, accessFlags := 26, slot := 0, constantValue := 0 }, { name := "DEFAULT_CAPACITY", type := .int, accessFlags := 26, slot := 1, constantValue := 0 }, { name := "EMPTY_ELEMENTDATA", type := (.array (.object "java/lang/Object")), accessFlags := 26, slot := 2, constantValue := 0 }, { name := "DEFAULTCAPACITY_EMPTY_ELEMENTDATA", type := (.array (.object "java/lang/Object")), accessFlags := 26, slot := 3, constantValue := 0 }, { name := "elementData", type := (.array (.object "java/lang/Object")), accessFlags := 128, slot := 1, constantValue := 0 }, { name := "size", type := .int, accessFlags := 2, slot := 2, constantValue := 0 }]
  methods := #[k11m0, k11m1, k11m2, k11m3, k11m4, k11m5, k11m6]
  instanceTypes := #[.int, (.array (.object "java/lang/Object")), .int]
  staticTypes := #[.long, .int, (.array (.object "java/lang/Object")), (.array (.object "java/lang/Object"))]
  resolved := Array.replicate 509 none
  statics := some 0 }

def pool12 : Array CpInfo := pool [(2, .class_ 4), (1, u "java/lang/Object"), (0, u "<init>"), (0, u "()V"), (0, .class_ 8), (0, u "java/lang/Integer"), (12, u "()[B"), (7, u "()I"), (15, .class_ 46), (0, u "java/io/ByteArrayOutputStream"), (0, .interfaceMethodref 48 49), (0, .class_ 50), (0, .nameAndType 51 29), (0, u "java/util/List"), (0, u "size"), (0, .methodref 45 53), (0, .nameAndType 5 54), (0, u "(I)V"), (0, .interfaceMethodref 48 56), (0, .nameAndType 57 58), (0, u "iterator"), (0, u "()Ljava/util/Iterator;"), (0, .interfaceMethodref 60 61), (0, .class_ 62), (0, .nameAndType 63 64), (0, u "java/util/Iterator"), (0, u "hasNext"), (0, u "()Z"), (0, .interfaceMethodref 60 66), (0, .nameAndType 67 68), (0, u "next"), (0, u "()Ljava/lang/Object;"), (0, .methodref 7 70), (0, .nameAndType 71 29), (0, u "intValue"), (13, .methodref 45 86), (0, .nameAndType 87 54), (0, u "write"), (0, .methodref 45 89), (0, .nameAndType 90 21), (0, u "toByteArray"), (1, .class_ 94), (1, u "com/example/acrawl/acrawl/store/Records"), (0, u "countPositions"), (0, u "([B)I"), (0, .class_ 98), (0, u "com/example/acrawl/acrawl/store/Records$Writer"), (36, .class_ 136), (0, u "com/example/acrawl/acrawl/store/Records$Reader"), (124, u "encodePositions"), (0, u "(Ljava/util/List;)[B")] 49

def k12m0 : Method := { name := "<init>", desc := "()V", sig := { parameters := [], returnType := none }, accessFlags := 2, code := none }
def k12c1 : Code := { maxStack := 3, maxLocals := 6, code := prog_23_method_6_code, exceptionTable := #[], attributes := #[] }
def k12m1 : Method := { name := "encodePositions", desc := "(Ljava/util/List;)[B", sig := { parameters := [(.object "java/util/List")], returnType := some (.array .byte) }, accessFlags := 8, code := some k12c1 }
def k12c2 : Code := { maxStack := 2, maxLocals := 6, code := prog_23_method_8_code, exceptionTable := #[], attributes := #[] }
def k12m2 : Method := { name := "countPositions", desc := "([B)I", sig := { parameters := [(.array .byte)], returnType := some .int }, accessFlags := 8, code := some k12c2 }
/-- com/example/acrawl/acrawl/store/Records -/
def k12 : Class := { plain "com/example/acrawl/acrawl/store/Records" (some 0) with
  accessFlags := 32
  interfaces := #[]
  cf := some (fileOf pool12 92 #[.nestMembers #[135, 97]] #[{ accessFlags := 2, nameIndex := 5, descriptorIndex := 6, attributes := #[] }, { accessFlags := 8, nameIndex := 261, descriptorIndex := 262, attributes := #[] }, { accessFlags := 8, nameIndex := 95, descriptorIndex := 96, attributes := #[] }] 32 2 #[] #[])
  fields := #[]
  methods := #[k12m0, k12m1, k12m2]
  instanceTypes := #[]
  staticTypes := #[]
  resolved := Array.replicate 312 none
  statics := none }

def pool13 : Array CpInfo := pool [(1, .class_ 2), (0, u "java/lang/AutoCloseable"), (0, .class_ 4), (0, u "java/lang/Object")] 7

/-- java/lang/AutoCloseable -/
def k13 : Class := { plain "java/lang/AutoCloseable" (some 0) with
  accessFlags := 1537
  interfaces := #[]
  cf := some (fileOf pool13 1 #[] #[] 1537 3 #[] #[])
  fields := #[]
  methods := #[]
  instanceTypes := #[]
  staticTypes := #[]
  resolved := Array.replicate 12 none
  statics := none }

def pool14 : Array CpInfo := pool [(1, .class_ 2), (0, u "java/io/Closeable"), (0, .class_ 4), (0, u "java/lang/Object"), (0, .class_ 6), (0, u "java/lang/AutoCloseable")] 7

/-- java/io/Closeable -/
def k14 : Class := { plain "java/io/Closeable" (some 0) with
  accessFlags := 1537
  interfaces := #[13]
  cf := some (fileOf pool14 1 #[] #[] 1537 3 #[5] #[])
  fields := #[]
  methods := #[]
  instanceTypes := #[]
  staticTypes := #[]
  resolved := Array.replicate 14 none
  statics := none }

def pool15 : Array CpInfo := pool [(1, .class_ 2), (0, u "java/io/Flushable"), (0, .class_ 4), (0, u "java/lang/Object")] 7

/-- java/io/Flushable -/
def k15 : Class := { plain "java/io/Flushable" (some 0) with
  accessFlags := 1537
  interfaces := #[]
  cf := some (fileOf pool15 1 #[] #[] 1537 3 #[] #[])
  fields := #[]
  methods := #[]
  instanceTypes := #[]
  staticTypes := #[]
  resolved := Array.replicate 12 none
  statics := none }

def pool16 : Array CpInfo := pool [(1, .methodref 2 3), (0, .class_ 4), (0, .nameAndType 5 6), (0, u "java/lang/Object"), (0, u "<init>"), (0, u "()V"), (0, .class_ 8), (0, u "java/io/OutputStream$1"), (2, .class_ 13), (1, u "java/io/OutputStream"), (11, .class_ 26), (0, u "java/io/Closeable"), (0, .class_ 28), (0, u "java/io/Flushable")] 24

def k16c0 : Code := { maxStack := 1, maxLocals := 1, code := jdk_2038_method_1_code, exceptionTable := #[], attributes := #[] }
def k16m0 : Method := { name := "<init>", desc := "()V", sig := { parameters := [], returnType := none }, accessFlags := 1, code := some k16c0 }
/-- java/io/OutputStream -/
def k16 : Class := { plain "java/io/OutputStream" (some 0) with
  accessFlags := 1057
  interfaces := #[14, 15]
  cf := some (fileOf pool16 11 #[.nestMembers #[7]] #[{ accessFlags := 1, nameIndex := 5, descriptorIndex := 6, attributes := #[] }] 1057 2 #[25, 27] #[])
  fields := #[]
  methods := #[k16m0]
  instanceTypes := #[]
  staticTypes := #[]
  resolved := Array.replicate 53 none
  statics := none }

def pool17 : Array CpInfo := pool [(2, .class_ 4), (1, u "java/io/ByteArrayOutputStream"), (0, u "<init>"), (0, u "(I)V"), (0, .methodref 8 9), (0, .class_ 10), (0, .nameAndType 5 11), (0, u "java/io/OutputStream"), (0, u "()V"), (21, .fieldref 2 34), (0, .nameAndType 35 36), (0, u "buf"), (0, u "[B"), (0, .methodref 38 39), (0, .class_ 40), (0, .nameAndType 41 42), (0, u "jdk/internal/util/ArraysSupport"), (0, u "newLength"), (0, u "(III)I"), (0, .methodref 44 45), (0, .class_ 46), (0, .nameAndType 47 48), (0, u "java/util/Arrays"), (0, u "copyOf"), (0, u "([BI)[B"), (0, .fieldref 2 50), (0, .nameAndType 51 52), (0, u "count"), (0, u "I"), (0, .methodref 2 54), (0, .nameAndType 55 6), (0, u "ensureCapacity"), (13, u "write"), (56, u "toByteArray"), (0, u "()[B")] 17

def k17m0 : Method := { name := "<init>", desc := "()V", sig := { parameters := [], returnType := none }, accessFlags := 1, code := none }
def k17c1 : Code := { maxStack := 4, maxLocals := 2, code := jdk_2005_method_2_code, exceptionTable := #[], attributes := #[] }
def k17m1 : Method := { name := "<init>", desc := "(I)V", sig := { parameters := [.int], returnType := none }, accessFlags := 1, code := some k17c1 }
def k17c2 : Code := { maxStack := 5, maxLocals := 4, code := jdk_2005_method_3_code, exceptionTable := #[], attributes := #[] }
def k17m2 : Method := { name := "ensureCapacity", desc := "(I)V", sig := { parameters := [.int], returnType := none }, accessFlags := 2, code := some k17c2 }
def k17c3 : Code := { maxStack := 3, maxLocals := 2, code := ⟨#[0x2a, 0x2a, 0xb4, 0x00, 0x31, 0x04, 0x60, 0xb6, 0x00, 0x35, 0x2a, 0xb4, 0x00, 0x21, 0x2a, 0xb4, 0x00, 0x31, 0x1b, 0x91, 0x54, 0x2a, 0x59, 0xb4, 0x00, 0x31, 0x04, 0x60, 0xb5, 0x00, 0x31, 0xb1]⟩, exceptionTable := #[], attributes := #[] }
def k17m3 : Method := { name := "write", desc := "(I)V", sig := { parameters := [.int], returnType := none }, accessFlags := 33, code := some k17c3 }
def k17c4 : Code := { maxStack := 2, maxLocals := 1, code := ⟨#[0x2a, 0xb4, 0x00, 0x21, 0x2a, 0xb4, 0x00, 0x31, 0xb8, 0x00, 0x2b, 0xb0]⟩, exceptionTable := #[], attributes := #[] }
def k17m4 : Method := { name := "toByteArray", desc := "()[B", sig := { parameters := [], returnType := some (.array .byte) }, accessFlags := 33, code := some k17c4 }
/-- java/io/ByteArrayOutputStream -/
def k17 : Class := { plain "java/io/ByteArrayOutputStream" (some 16) with
  accessFlags := 33
  interfaces := #[]
  cf := some (fileOf pool17 2 #[] #[{ accessFlags := 1, nameIndex := 5, descriptorIndex := 11, attributes := #[] }, { accessFlags := 1, nameIndex := 5, descriptorIndex := 6, attributes := #[] }, { accessFlags := 2, nameIndex := 55, descriptorIndex := 6, attributes := #[] }, { accessFlags := 33, nameIndex := 69, descriptorIndex := 6, attributes := #[] }, { accessFlags := 33, nameIndex := 126, descriptorIndex := 127, attributes := #[] }] 33 8 #[] #[{ accessFlags := 4, nameIndex := 35, descriptorIndex := 36, attributes := #[] }, { accessFlags := 4, nameIndex := 51, descriptorIndex := 52, attributes := #[] }])
  fields := #[{ name := "buf", type := (.array .byte), accessFlags := 4, slot := 0, constantValue := 0 }, { name := "count", type := .int, accessFlags := 4, slot := 1, constantValue := 0 }]
  methods := #[k17m0, k17m1, k17m2, k17m3, k17m4]
  instanceTypes := #[(.array .byte), .int]
  staticTypes := #[]
  resolved := Array.replicate 145 none
  statics := none }

def pool18 : Array CpInfo := pool [(16, .class_ 18), (1, u "java/util/Iterator"), (0, u "hasNext"), (0, u "()Z"), (2, u "next"), (0, u "()Ljava/lang/Object;"), (6, .class_ 32), (0, u "java/lang/Object")] 20

def k18m0 : Method := { name := "hasNext", desc := "()Z", sig := { parameters := [], returnType := some .boolean }, accessFlags := 1025, code := none }
def k18m1 : Method := { name := "next", desc := "()Ljava/lang/Object;", sig := { parameters := [], returnType := some (.object "java/lang/Object") }, accessFlags := 1025, code := none }
/-- java/util/Iterator -/
def k18 : Class := { plain "java/util/Iterator" (some 0) with
  accessFlags := 1537
  interfaces := #[]
  cf := some (fileOf pool18 16 #[] #[{ accessFlags := 1025, nameIndex := 19, descriptorIndex := 20, attributes := #[] }, { accessFlags := 1025, nameIndex := 23, descriptorIndex := 24, attributes := #[] }] 1537 31 #[] #[])
  fields := #[]
  methods := #[k18m0, k18m1]
  instanceTypes := #[]
  staticTypes := #[]
  resolved := Array.replicate 53 none
  statics := none }

def pool19 : Array CpInfo := pool [(1, .fieldref 2 3), (0, .class_ 4), (0, .nameAndType 5 6), (0, u "java/util/ArrayList$Itr"), (0, u "this$0"), (0, u "Ljava/util/ArrayList;"), (0, .methodref 8 9), (0, .class_ 10), (0, .nameAndType 11 12), (0, u "java/lang/Object"), (0, u "<init>"), (0, u "()V"), (0, .fieldref 2 14), (0, .nameAndType 15 16), (0, u "lastRet"), (0, u "I"), (0, .fieldref 18 19), (0, .class_ 20), (0, .nameAndType 21 16), (0, u "java/util/ArrayList"), (0, u "modCount"), (0, .fieldref 2 23), (0, .nameAndType 24 16), (0, u "expectedModCount"), (0, .fieldref 2 26), (0, .nameAndType 27 16), (0, u "cursor"), (0, .fieldref 18 29), (0, .nameAndType 30 16), (0, u "size"), (0, .methodref 2 32), (0, .nameAndType 33 12), (0, u "checkForComodification"), (3, .fieldref 18 38), (0, .nameAndType 39 40), (0, u "elementData"), (0, u "[Ljava/lang/Object;"), (28, .class_ 70), (0, u "java/util/Iterator"), (0, u "(Ljava/util/ArrayList;)V"), (8, u "hasNext"), (0, u "()Z"), (1, u "next"), (0, u "()Ljava/lang/Object;")] 19

def k19c0 : Code := { maxStack := 2, maxLocals := 2, code := jdk_49_method_1_code, exceptionTable := #[], attributes := #[] }
def k19m0 : Method := { name := "<init>", desc := "(Ljava/util/ArrayList;)V", sig := { parameters := [(.object "java/util/ArrayList")], returnType := none }, accessFlags := 0, code := some k19c0 }
def k19c1 : Code := { maxStack := 2, maxLocals := 1, code := jdk_49_method_2_code, exceptionTable := #[], attributes := #[] }
def k19m1 : Method := { name := "hasNext", desc := "()Z", sig := { parameters := [], returnType := some .boolean }, accessFlags := 1, code := some k19c1 }
def k19c2 : Code := { maxStack := 4, maxLocals := 3, code := jdk_49_method_3_code, exceptionTable := #[], attributes := #[] }
def k19m2 : Method := { name := "next", desc := "()Ljava/lang/Object;", sig := { parameters := [], returnType := some (.object "java/lang/Object") }, accessFlags := 1, code := some k19c2 }
def k19c3 : Code := { maxStack := 2, maxLocals := 1, code := jdk_49_method_6_code, exceptionTable := #[], attributes := #[] }
def k19m3 : Method := { name := "checkForComodification", desc := "()V", sig := { parameters := [], returnType := none }, accessFlags := 16, code := some k19c3 }
/-- java/util/ArrayList$Itr -/
def k19 : Class := { plain "java/util/ArrayList$Itr" (some 0) with
  accessFlags := 32
  interfaces := #[18]
  cf := some (fileOf pool19 2 #[.nestHost 18] #[{ accessFlags := 0, nameIndex := 11, descriptorIndex := 71, attributes := #[] }, { accessFlags := 1, nameIndex := 80, descriptorIndex := 81, attributes := #[] }, { accessFlags := 1, nameIndex := 83, descriptorIndex := 84, attributes := #[] }, { accessFlags := 16, nameIndex := 33, descriptorIndex := 12, attributes := #[] }] 32 8 #[69] #[{ accessFlags := 0, nameIndex := 27, descriptorIndex := 16, attributes := #[] }, { accessFlags := 0, nameIndex := 15, descriptorIndex := 16, attributes := #[] }, { accessFlags := 0, nameIndex := 24, descriptorIndex := 16, attributes := #[] }, { accessFlags := 4112, nameIndex := 5, descriptorIndex := 6, attributes := #[] }])
  fields := #[{ name := "cursor", type := .int, accessFlags := 0, slot := 0, constantValue := 0 }, { name := "lastRet", type := .int, accessFlags := 0, slot := 1, constantValue := 0 }, { name := "expectedModCount", type := .int, accessFlags := 0, slot := 2, constantValue := 0 }, { name := "this$0", type := (.object "java/util/ArrayList"), accessFlags := 4112, slot := 3, constantValue := 0 }]
  methods := #[k19m0, k19m1, k19m2, k19m3]
  instanceTypes := #[.int, .int, .int, (.object "java/util/ArrayList")]
  staticTypes := #[]
  resolved := Array.replicate 104 none
  statics := none }

def pool20 : Array CpInfo := pool [(2, .class_ 4), (1, u "java/lang/Object"), (0, u "<init>"), (0, u "()V"), (7, .class_ 16), (1, u "java/util/Arrays"), (57, .class_ 76), (1, u "java/util/Arrays$NaturalOrder"), (32, u "()Ljava/lang/Object;"), (3, .class_ 115), (1, u "java/util/Arrays$LegacyMergeSort"), (1, u "Z"), (10, .nameAndType 129 109), (0, u "clone"), (20, .methodref 151 152), (0, .class_ 153), (0, .nameAndType 154 155), (0, u "java/lang/System"), (0, u "arraycopy"), (0, u "(Ljava/lang/Object;ILjava/lang/Object;II)V"), (146, u "copyOf"), (1, .methodref 305 306), (0, .class_ 307), (0, .nameAndType 308 309), (0, u "java/lang/Math"), (0, u "min"), (0, u "(II)I"), (0, .methodref 311 128), (0, .class_ 312), (0, u "[B"), (62, .class_ 376), (0, u "java/util/Arrays$ArrayList"), (68, u "$assertionsDisabled"), (269, u "MIN_ARRAY_SORT_GRAN"), (0, u "I"), (2, u "INSERTIONSORT_THRESHOLD"), (149, u "([BI)[B"), (105, .class_ 976), (0, u "java/util/Arrays$ArrayItr")] 52

def k20m0 : Method := { name := "<init>", desc := "()V", sig := { parameters := [], returnType := none }, accessFlags := 2, code := none }
def k20c1 : Code := { maxStack := 6, maxLocals := 3, code := jdk_65_method_121_code, exceptionTable := #[], attributes := #[] }
def k20m1 : Method := { name := "copyOf", desc := "([BI)[B", sig := { parameters := [(.array .byte), .int], returnType := some (.array .byte) }, accessFlags := 9, code := some k20c1 }
/-- java/util/Arrays -/
def k20 : Class := { plain "java/util/Arrays" (some 0) with
  accessFlags := 49
  interfaces := #[]
  cf := some (fileOf pool20 14 #[.nestMembers #[975, 375, 113, 74]] #[{ accessFlags := 2, nameIndex := 5, descriptorIndex := 6, attributes := #[] }, { accessFlags := 9, nameIndex := 302, descriptorIndex := 869, attributes := #[] }] 49 2 #[] #[{ accessFlags := 26, nameIndex := 715, descriptorIndex := 716, attributes := #[] }, { accessFlags := 26, nameIndex := 719, descriptorIndex := 716, attributes := #[] }, { accessFlags := 4120, nameIndex := 445, descriptorIndex := 117, attributes := #[] }])
  fields := #[{ name := "MIN_ARRAY_SORT_GRAN", type := .int, accessFlags := 26, slot := 0, constantValue := 0 }, { name := "INSERTIONSORT_THRESHOLD", type := .int, accessFlags := 26, slot := 1, constantValue := 0 }, { name := "$assertionsDisabled", type := .boolean, accessFlags := 4120, slot := 2, constantValue := 0 }]
  methods := #[k20m0, k20m1]
  instanceTypes := #[]
  staticTypes := #[.int, .int, .boolean]
  resolved := Array.replicate 1029 none
  statics := none }

def pool21 : Array CpInfo := pool [(1, .methodref 2 3), (0, .class_ 4), (0, .nameAndType 5 6), (0, u "java/lang/Object"), (0, u "<init>"), (0, u "()V"), (1, .class_ 10), (1, u "java/lang/Number"), (2, .class_ 14), (0, u "java/io/Serializable"), (0, u "serialVersionUID"), (0, u "J")] 20

def k21c0 : Code := { maxStack := 1, maxLocals := 1, code := jdk_18_method_1_code, exceptionTable := #[], attributes := #[] }
def k21m0 : Method := { name := "<init>", desc := "()V", sig := { parameters := [], returnType := none }, accessFlags := 1, code := some k21c0 }
/-- java/lang/Number -/
def k21 : Class := { plain "java/lang/Number" (some 0) with
  accessFlags := 1057
  interfaces := #[10]
  cf := some (fileOf pool21 8 #[] #[{ accessFlags := 1, nameIndex := 5, descriptorIndex := 6, attributes := #[] }] 1057 2 #[13] #[{ accessFlags := 26, nameIndex := 15, descriptorIndex := 16, attributes := #[] }])
  fields := #[{ name := "serialVersionUID", type := .long, accessFlags := 26, slot := 0, constantValue := 0 }]
  methods := #[k21m0]
  instanceTypes := #[]
  staticTypes := #[.long]
  resolved := Array.replicate 37 none
  statics := none }

def pool22 : Array CpInfo := pool [(1, .class_ 2), (0, u "java/lang/Comparable"), (0, .class_ 4), (0, u "java/lang/Object")] 7

/-- java/lang/Comparable -/
def k22 : Class := { plain "java/lang/Comparable" (some 0) with
  accessFlags := 1537
  interfaces := #[]
  cf := some (fileOf pool22 1 #[] #[] 1537 3 #[] #[])
  fields := #[]
  methods := #[]
  instanceTypes := #[]
  staticTypes := #[]
  resolved := Array.replicate 12 none
  statics := none }

def pool23 : Array CpInfo := pool [(1, .class_ 2), (0, u "java/lang/constant/Constable"), (0, .class_ 4), (0, u "java/lang/Object")] 6

/-- java/lang/constant/Constable -/
def k23 : Class := { plain "java/lang/constant/Constable" (some 0) with
  accessFlags := 1537
  interfaces := #[]
  cf := some (fileOf pool23 1 #[] #[] 1537 3 #[] #[])
  fields := #[]
  methods := #[]
  instanceTypes := #[]
  staticTypes := #[]
  resolved := Array.replicate 11 none
  statics := none }

def pool24 : Array CpInfo := pool [(1, .class_ 2), (0, u "java/lang/constant/ConstantDesc"), (0, .class_ 4), (0, u "java/lang/Object")] 32

/-- java/lang/constant/ConstantDesc -/
def k24 : Class := { plain "java/lang/constant/ConstantDesc" (some 0) with
  accessFlags := 1537
  interfaces := #[]
  cf := some (fileOf pool24 1 #[] #[] 1537 3 #[] #[])
  fields := #[]
  methods := #[]
  instanceTypes := #[]
  staticTypes := #[]
  resolved := Array.replicate 37 none
  statics := none }

def pool25 : Array CpInfo := pool [(1, .class_ 2), (0, u "java/lang/Integer"), (16, u "digits"), (0, u "[C"), (46, u "<init>"), (17, u "DigitOnes"), (0, u "[B"), (2, u "DigitTens"), (10, .nameAndType 67 101), (0, u "()V"), (19, u "()I"), (65, u "valueOf"), (0, u "(I)Ljava/lang/Integer;"), (0, .class_ 190), (0, u "java/lang/Integer$IntegerCache"), (0, .fieldref 189 192), (0, .nameAndType 193 194), (0, u "high"), (0, u "I"), (0, .fieldref 189 196), (0, .nameAndType 197 198), (0, u "cache"), (0, u "[Ljava/lang/Integer;"), (0, .methodref 1 200), (0, .nameAndType 67 201), (0, u "(I)V"), (0, .methodref 203 100), (0, .class_ 204), (0, u "java/lang/Number"), (0, .fieldref 1 206), (0, .nameAndType 207 194), (0, u "value"), (5, u "intValue"), (88, u "TYPE"), (0, u "Ljava/lang/Class;"), (0, .class_ 305), (0, u "java/lang/Comparable"), (0, .class_ 307), (0, u "java/lang/constant/Constable"), (0, .class_ 309), (0, u "java/lang/constant/ConstantDesc"), (0, u "MIN_VALUE"), (1, u "MAX_VALUE"), (3, u "SIZE"), (1, u "BYTES"), (1, u "serialVersionUID"), (0, u "J")] 131

def k25c0 : Code := { maxStack := 3, maxLocals := 1, code := jdk_33_method_22_code, exceptionTable := #[], attributes := #[] }
def k25m0 : Method := { name := "valueOf", desc := "(I)Ljava/lang/Integer;", sig := { parameters := [.int], returnType := some (.object "java/lang/Integer") }, accessFlags := 9, code := some k25c0 }
def k25c1 : Code := { maxStack := 2, maxLocals := 2, code := jdk_33_method_23_code, exceptionTable := #[], attributes := #[] }
def k25m1 : Method := { name := "<init>", desc := "(I)V", sig := { parameters := [.int], returnType := none }, accessFlags := 1, code := some k25c1 }
def k25c2 : Code := { maxStack := 1, maxLocals := 1, code := jdk_33_method_27_code, exceptionTable := #[], attributes := #[] }
def k25m2 : Method := { name := "intValue", desc := "()I", sig := { parameters := [], returnType := some .int }, accessFlags := 1, code := some k25c2 }
/-- java/lang/Integer -/
def k25 : Class := { plain "java/lang/Integer" (some 21) with
  accessFlags := 49
  interfaces := #[22, 23, 24]
  cf := some (fileOf pool25 1 #[.nestMembers #[189]] #[{ accessFlags := 9, nameIndex := 187, descriptorIndex := 188, attributes := #[] }, { accessFlags := 1, nameIndex := 67, descriptorIndex := 201, attributes := #[] }, { accessFlags := 1, nameIndex := 213, descriptorIndex := 121, attributes := #[] }] 49 203 #[304, 306, 308] #[{ accessFlags := 25, nameIndex := 310, descriptorIndex := 194, attributes := #[] }, { accessFlags := 25, nameIndex := 312, descriptorIndex := 194, attributes := #[] }, { accessFlags := 25, nameIndex := 302, descriptorIndex := 303, attributes := #[] }, { accessFlags := 24, nameIndex := 19, descriptorIndex := 20, attributes := #[] }, { accessFlags := 24, nameIndex := 89, descriptorIndex := 86, attributes := #[] }, { accessFlags := 24, nameIndex := 85, descriptorIndex := 86, attributes := #[] }, { accessFlags := 18, nameIndex := 207, descriptorIndex := 194, attributes := #[] }, { accessFlags := 25, nameIndex := 316, descriptorIndex := 194, attributes := #[] }, { accessFlags := 25, nameIndex := 318, descriptorIndex := 194, attributes := #[] }, { accessFlags := 26, nameIndex := 320, descriptorIndex := 321, attributes := #[] }])
  fields := #[{ name := "MIN_VALUE", type := .int, accessFlags := 25, slot := 0, constantValue := 0 }, { name := "MAX_VALUE", type := .int, accessFlags := 25, slot := 1, constantValue := 0 }, { name := "TYPE", type := (.object "java/lang/Class"), accessFlags := 25, slot := 2, constantValue := 0 }, { name := "digits", type := (.array .char), accessFlags := 24, slot := 3, constantValue := 0 }, { name := "DigitTens", type := (.array .byte), accessFlags := 24, slot := 4, constantValue := 0 }, { name := "DigitOnes", type := (.array .byte), accessFlags := 24, slot := 5, constantValue := 0 }, { name := "value", type := .int, accessFlags := 18, slot := 0, constantValue := 0 }, { name := "SIZE", type := .int, accessFlags := 25, slot := 6, constantValue := 0 }, { name := "BYTES", type := .int, accessFlags := 25, slot := 7, constantValue := 0 }, { name := "serialVersionUID", type := .long, accessFlags := 26, slot := 8, constantValue := 0 }]
  methods := #[k25m0, k25m1, k25m2]
  instanceTypes := #[.int]
  staticTypes := #[.int, .int, (.object "java/lang/Class"), (.array .char), (.array .byte), (.array .byte), .int, .int, .long]
  resolved := Array.replicate 453 none
  statics := none }

def pool26 : Array CpInfo := pool [(2, .class_ 4), (1, u "java/lang/Object"), (0, u "<init>"), (0, u "()V"), (0, .class_ 8), (0, u "java/lang/Integer"), (7, .class_ 18), (1, u "java/lang/Integer$IntegerCache"), (0, u "$assertionsDisabled"), (0, u "Z"), (26, u "high"), (0, u "I"), (8, u "archivedCache"), (0, u "[Ljava/lang/Integer;"), (12, u "cache"), (0, u "low")] 27

def k26m0 : Method := { name := "<init>", desc := "()V", sig := { parameters := [], returnType := none }, accessFlags := 2, code := none }
/-- java/lang/Integer$IntegerCache -/
def k26 : Class := { plain "java/lang/Integer$IntegerCache" (some 0) with
  accessFlags := 48
  interfaces := #[]
  cf := some (fileOf pool26 16 #[.nestHost 7] #[{ accessFlags := 2, nameIndex := 5, descriptorIndex := 6, attributes := #[] }] 48 2 #[] #[{ accessFlags := 24, nameIndex := 72, descriptorIndex := 48, attributes := #[] }, { accessFlags := 24, nameIndex := 47, descriptorIndex := 48, attributes := #[] }, { accessFlags := 24, nameIndex := 71, descriptorIndex := 58, attributes := #[] }, { accessFlags := 8, nameIndex := 57, descriptorIndex := 58, attributes := #[] }, { accessFlags := 4120, nameIndex := 19, descriptorIndex := 20, attributes := #[] }])
  fields := #[{ name := "low", type := .int, accessFlags := 24, slot := 0, constantValue := 0 }, { name := "high", type := .int, accessFlags := 24, slot := 1, constantValue := 0 }, { name := "cache", type := (.array (.object "java/lang/Integer")), accessFlags := 24, slot := 2, constantValue := 0 }, { name := "archivedCache", type := (.array (.object "java/lang/Integer")), accessFlags := 8, slot := 3, constantValue := 0 }, { name := "$assertionsDisabled", type := .boolean, accessFlags := 4120, slot := 4, constantValue := 0 }]
  methods := #[k26m0]
  instanceTypes := #[]
  staticTypes := #[.int, .int, (.array (.object "java/lang/Integer")), (.array (.object "java/lang/Integer")), .boolean]
  resolved := Array.replicate 100 none
  statics := some 1 }

def pool27 : Array CpInfo := pool [(1, .class_ 2), (0, u "java/lang/Math"), (1, .class_ 6), (1, u "java/lang/Object"), (0, u "<init>"), (0, u "()V"), (89, .class_ 100), (1, u "java/lang/Math$RandomNumberGeneratorHolder"), (71, u "negativeZeroFloatBits"), (0, u "J"), (2, u "negativeZeroDoubleBits"), (21, u "max"), (2, u "min"), (43, u "$assertionsDisabled"), (0, u "Z"), (88, u "(II)I"), (2, u "twoToTheDoubleScaleDown"), (0, u "D"), (4, u "twoToTheDoubleScaleUp"), (9, u "E"), (3, u "PI"), (2, u "TAU"), (2, u "DEGREES_TO_RADIANS"), (0, u "RADIANS_TO_DEGREES")] 94

def k27m0 : Method := { name := "<init>", desc := "()V", sig := { parameters := [], returnType := none }, accessFlags := 2, code := none }
def k27c1 : Code := { maxStack := 2, maxLocals := 2, code := jdk_29_method_65_code, exceptionTable := #[], attributes := #[] }
def k27m1 : Method := { name := "max", desc := "(II)I", sig := { parameters := [.int, .int], returnType := some .int }, accessFlags := 9, code := some k27c1 }
def k27c2 : Code := { maxStack := 2, maxLocals := 2, code := jdk_29_method_69_code, exceptionTable := #[], attributes := #[] }
def k27m2 : Method := { name := "min", desc := "(II)I", sig := { parameters := [.int, .int], returnType := some .int }, accessFlags := 9, code := some k27c2 }
/-- java/lang/Math -/
def k27 : Class := { plain "java/lang/Math" (some 0) with
  accessFlags := 49
  interfaces := #[]
  cf := some (fileOf pool27 1 #[.nestMembers #[98]] #[{ accessFlags := 2, nameIndex := 7, descriptorIndex := 8, attributes := #[] }, { accessFlags := 9, nameIndex := 198, descriptorIndex := 335, attributes := #[] }, { accessFlags := 9, nameIndex := 201, descriptorIndex := 335, attributes := #[] }] 49 4 #[] #[{ accessFlags := 25, nameIndex := 354, descriptorIndex := 339, attributes := #[] }, { accessFlags := 25, nameIndex := 358, descriptorIndex := 339, attributes := #[] }, { accessFlags := 25, nameIndex := 361, descriptorIndex := 339, attributes := #[] }, { accessFlags := 26, nameIndex := 364, descriptorIndex := 339, attributes := #[] }, { accessFlags := 26, nameIndex := 365, descriptorIndex := 339, attributes := #[] }, { accessFlags := 26, nameIndex := 172, descriptorIndex := 173, attributes := #[] }, { accessFlags := 26, nameIndex := 176, descriptorIndex := 173, attributes := #[] }, { accessFlags := 8, nameIndex := 344, descriptorIndex := 339, attributes := #[] }, { accessFlags := 8, nameIndex := 338, descriptorIndex := 339, attributes := #[] }, { accessFlags := 4120, nameIndex := 245, descriptorIndex := 246, attributes := #[] }])
  fields := #[{ name := "E", type := .double, accessFlags := 25, slot := 0, constantValue := 0 }, { name := "PI", type := .double, accessFlags := 25, slot := 1, constantValue := 0 }, { name := "TAU", type := .double, accessFlags := 25, slot := 2, constantValue := 0 }, { name := "DEGREES_TO_RADIANS", type := .double, accessFlags := 26, slot := 3, constantValue := 0 }, { name := "RADIANS_TO_DEGREES", type := .double, accessFlags := 26, slot := 4, constantValue := 0 }, { name := "negativeZeroFloatBits", type := .long, accessFlags := 26, slot := 5, constantValue := 0 }, { name := "negativeZeroDoubleBits", type := .long, accessFlags := 26, slot := 6, constantValue := 0 }, { name := "twoToTheDoubleScaleUp", type := .double, accessFlags := 8, slot := 7, constantValue := 0 }, { name := "twoToTheDoubleScaleDown", type := .double, accessFlags := 8, slot := 8, constantValue := 0 }, { name := "$assertionsDisabled", type := .boolean, accessFlags := 4120, slot := 9, constantValue := 0 }]
  methods := #[k27m0, k27m1, k27m2]
  instanceTypes := #[]
  staticTypes := #[.double, .double, .double, .double, .double, .long, .long, .double, .double, .boolean]
  resolved := Array.replicate 460 none
  statics := none }

def pool28 : Array CpInfo := pool [(9, u "<init>"), (6, .class_ 18), (1, u "java/lang/Object"), (0, u "()V"), (1, .class_ 23), (1, u "jdk/internal/util/ArraysSupport"), (0, u "LOG2_ARRAY_LONG_INDEX_SCALE"), (0, u "I"), (2, u "U"), (0, u "Ljdk/internal/misc/Unsafe;"), (8, u "BIG_ENDIAN"), (0, u "Z"), (8, u "LOG2_BYTE_BIT_SIZE"), (4, u "LOG2_ARRAY_INT_INDEX_SCALE"), (54, u "JLA"), (0, u "Ljdk/internal/access/JavaLangAccess;"), (11, u "LOG2_ARRAY_BOOLEAN_INDEX_SCALE"), (9, u "LOG2_ARRAY_BYTE_INDEX_SCALE"), (5, u "LOG2_ARRAY_CHAR_INDEX_SCALE"), (5, u "LOG2_ARRAY_SHORT_INDEX_SCALE"), (18, u "LOG2_ARRAY_FLOAT_INDEX_SCALE"), (24, u "LOG2_ARRAY_DOUBLE_INDEX_SCALE"), (6, .methodref 195 196), (0, .class_ 197), (0, .nameAndType 198 199), (0, u "java/lang/Math"), (0, u "max"), (0, u "(II)I"), (0, .integer 2147483639), (76, u "T_BOOLEAN"), (2, u "T_CHAR"), (1, u "T_FLOAT"), (1, u "T_DOUBLE"), (1, u "T_BYTE"), (1, u "T_SHORT"), (1, u "T_INT"), (1, u "T_LONG"), (1, u "SOFT_MAX_ARRAY_LENGTH"), (56, u "newLength"), (0, u "(III)I")] 25

def k28m0 : Method := { name := "<init>", desc := "()V", sig := { parameters := [], returnType := none }, accessFlags := 2, code := none }
def k28c1 : Code := { maxStack := 3, maxLocals := 4, code := jdk_48_method_27_code, exceptionTable := #[], attributes := #[] }
def k28m1 : Method := { name := "newLength", desc := "(III)I", sig := { parameters := [.int, .int, .int], returnType := some .int }, accessFlags := 9, code := some k28c1 }
/-- jdk/internal/util/ArraysSupport -/
def k28 : Class := { plain "jdk/internal/util/ArraysSupport" (some 0) with
  accessFlags := 33
  interfaces := #[]
  cf := some (fileOf pool28 21 #[] #[{ accessFlags := 2, nameIndex := 9, descriptorIndex := 19, attributes := #[] }, { accessFlags := 9, nameIndex := 351, descriptorIndex := 352, attributes := #[] }] 33 16 #[] #[{ accessFlags := 24, nameIndex := 28, descriptorIndex := 29, attributes := #[] }, { accessFlags := 26, nameIndex := 38, descriptorIndex := 39, attributes := #[] }, { accessFlags := 25, nameIndex := 121, descriptorIndex := 25, attributes := #[] }, { accessFlags := 25, nameIndex := 131, descriptorIndex := 25, attributes := #[] }, { accessFlags := 25, nameIndex := 137, descriptorIndex := 25, attributes := #[] }, { accessFlags := 25, nameIndex := 143, descriptorIndex := 25, attributes := #[] }, { accessFlags := 25, nameIndex := 53, descriptorIndex := 25, attributes := #[] }, { accessFlags := 25, nameIndex := 24, descriptorIndex := 25, attributes := #[] }, { accessFlags := 25, nameIndex := 162, descriptorIndex := 25, attributes := #[] }, { accessFlags := 25, nameIndex := 187, descriptorIndex := 25, attributes := #[] }, { accessFlags := 26, nameIndex := 48, descriptorIndex := 25, attributes := #[] }, { accessFlags := 25, nameIndex := 277, descriptorIndex := 25, attributes := #[] }, { accessFlags := 25, nameIndex := 280, descriptorIndex := 25, attributes := #[] }, { accessFlags := 25, nameIndex := 282, descriptorIndex := 25, attributes := #[] }, { accessFlags := 25, nameIndex := 284, descriptorIndex := 25, attributes := #[] }, { accessFlags := 25, nameIndex := 286, descriptorIndex := 25, attributes := #[] }, { accessFlags := 25, nameIndex := 288, descriptorIndex := 25, attributes := #[] }, { accessFlags := 25, nameIndex := 290, descriptorIndex := 25, attributes := #[] }, { accessFlags := 25, nameIndex := 292, descriptorIndex := 25, attributes := #[] }, { accessFlags := 26, nameIndex := 108, descriptorIndex := 109, attributes := #[] }, { accessFlags := 25, nameIndex := 294, descriptorIndex := 25, attributes := #[] }])
  fields := #[{ name := "U", type := (.object "jdk/internal/misc/Unsafe"), accessFlags := 24, slot := 0, constantValue := 0 }, { name := "BIG_ENDIAN", type := .boolean, accessFlags := 26, slot := 1, constantValue := 0 }, { name := "LOG2_ARRAY_BOOLEAN_INDEX_SCALE", type := .int, accessFlags := 25, slot := 2, constantValue := 0 }, { name := "LOG2_ARRAY_BYTE_INDEX_SCALE", type := .int, accessFlags := 25, slot := 3, constantValue := 0 }, { name := "LOG2_ARRAY_CHAR_INDEX_SCALE", type := .int, accessFlags := 25, slot := 4, constantValue := 0 }, { name := "LOG2_ARRAY_SHORT_INDEX_SCALE", type := .int, accessFlags := 25, slot := 5, constantValue := 0 }, { name := "LOG2_ARRAY_INT_INDEX_SCALE", type := .int, accessFlags := 25, slot := 6, constantValue := 0 }, { name := "LOG2_ARRAY_LONG_INDEX_SCALE", type := .int, accessFlags := 25, slot := 7, constantValue := 0 }, { name := "LOG2_ARRAY_FLOAT_INDEX_SCALE", type := .int, accessFlags := 25, slot := 8, constantValue := 0 }, { name := "LOG2_ARRAY_DOUBLE_INDEX_SCALE", type := .int, accessFlags := 25, slot := 9, constantValue := 0 }, { name := "LOG2_BYTE_BIT_SIZE", type := .int, accessFlags := 26, slot := 10, constantValue := 0 }, { name := "T_BOOLEAN", type := .int, accessFlags := 25, slot := 11, constantValue := 0 }, { name := "T_CHAR", type := .int, accessFlags := 25, slot := 12, constantValue := 0 }, { name := "T_FLOAT", type := .int, accessFlags := 25, slot := 13, constantValue := 0 }, { name := "T_DOUBLE", type := .int, accessFlags := 25, slot := 14, constantValue := 0 }, { name := "T_BYTE", type := .int, accessFlags := 25, slot := 15, constantValue := 0 }, { name := "T_SHORT", type := .int, accessFlags := 25, slot := 16, constantValue := 0 }, { name := "T_INT", type := .int, accessFlags := 25, slot := 17, constantValue := 0 }, { name := "T_LONG", type := .int, accessFlags := 25, slot := 18, constantValue := 0 }, { name := "JLA", type := (.object "jdk/internal/access/JavaLangAccess"), accessFlags := 26, slot := 19, constantValue := 0 }, { name := "SOFT_MAX_ARRAY_LENGTH", type := .int, accessFlags := 25, slot := 20, constantValue := 0 }]
  methods := #[k28m0, k28m1]
  instanceTypes := #[]
  staticTypes := #[(.object "jdk/internal/misc/Unsafe"), .boolean, .int, .int, .int, .int, .int, .int, .int, .int, .int, .int, .int, .int, .int, .int, .int, .int, .int, (.object "jdk/internal/access/JavaLangAccess"), .int]
  resolved := Array.replicate 378 none
  statics := none }

def pool29 : Array CpInfo := pool [(2, .class_ 4), (1, u "java/lang/Object"), (0, u "<init>"), (0, u "()V"), (1, .class_ 10), (1, u "java/lang/System"), (0, u "allowSecurityManager"), (0, u "I"), (16, u "cons"), (0, u "Ljava/io/Console;"), (77, .class_ 110), (1, u "java/lang/System$CallersHolder"), (43, u "initialErrStream"), (0, u "Ljava/io/PrintStream;"), (19, u "security"), (0, u "Ljava/lang/SecurityManager;"), (31, .class_ 209), (0, u "java/lang/System$1"), (7, u "props"), (0, u "Ljava/util/Properties;"), (2, u "lineSeparator"), (0, u "Ljava/lang/String;"), (96, .class_ 321), (1, u "java/lang/System$LoggerFinder"), (5, .class_ 328), (0, u "java/lang/System$Logger"), (67, u "err"), (2, u "out"), (91, u "notSupportedJnuEncoding"), (15, u "in"), (17, u "initialIn"), (0, u "Ljava/io/InputStream;"), (35, u "bootLayer"), (0, u "Ljava/lang/ModuleLayer;"), (99, .class_ 664), (0, u "java/lang/System$2"), (9, u "NEVER"), (2, u "MAYBE"), (49, u "arraycopy"), (0, u "(Ljava/lang/Object;ILjava/lang/Object;II)V"), (72, .class_ 802), (0, u "java/lang/System$Logger$Level")] 31

def k29m0 : Method := { name := "<init>", desc := "()V", sig := { parameters := [], returnType := none }, accessFlags := 2, code := none }
def k29m1 : Method := { name := "arraycopy", desc := "(Ljava/lang/Object;ILjava/lang/Object;II)V", sig := { parameters := [(.object "java/lang/Object"), .int, (.object "java/lang/Object"), .int, .int], returnType := none }, accessFlags := 265, code := none }
/-- java/lang/System -/
def k29 : Class := { plain "java/lang/System" (some 0) with
  accessFlags := 49
  interfaces := #[]
  cf := some (fileOf pool29 8 #[.nestMembers #[319, 327, 801, 108, 663, 208]] #[{ accessFlags := 2, nameIndex := 5, descriptorIndex := 6, attributes := #[] }, { accessFlags := 265, nameIndex := 727, descriptorIndex := 728, attributes := #[] }] 49 2 #[] #[{ accessFlags := 25, nameIndex := 507, descriptorIndex := 526, attributes := #[] }, { accessFlags := 25, nameIndex := 399, descriptorIndex := 155, attributes := #[] }, { accessFlags := 25, nameIndex := 396, descriptorIndex := 155, attributes := #[] }, { accessFlags := 10, nameIndex := 525, descriptorIndex := 526, attributes := #[] }, { accessFlags := 26, nameIndex := 674, descriptorIndex := 12, attributes := #[] }, { accessFlags := 26, nameIndex := 677, descriptorIndex := 12, attributes := #[] }, { accessFlags := 10, nameIndex := 11, descriptorIndex := 12, attributes := #[] }, { accessFlags := 74, nameIndex := 175, descriptorIndex := 176, attributes := #[] }, { accessFlags := 10, nameIndex := 491, descriptorIndex := 222, attributes := #[] }, { accessFlags := 74, nameIndex := 29, descriptorIndex := 30, attributes := #[] }, { accessFlags := 74, nameIndex := 154, descriptorIndex := 155, attributes := #[] }, { accessFlags := 10, nameIndex := 217, descriptorIndex := 218, attributes := #[] }, { accessFlags := 10, nameIndex := 221, descriptorIndex := 222, attributes := #[] }, { accessFlags := 8, nameIndex := 562, descriptorIndex := 563, attributes := #[] }])
  fields := #[{ name := "in", type := (.object "java/io/InputStream"), accessFlags := 25, slot := 0, constantValue := 0 }, { name := "out", type := (.object "java/io/PrintStream"), accessFlags := 25, slot := 1, constantValue := 0 }, { name := "err", type := (.object "java/io/PrintStream"), accessFlags := 25, slot := 2, constantValue := 0 }, { name := "initialIn", type := (.object "java/io/InputStream"), accessFlags := 10, slot := 3, constantValue := 0 }, { name := "NEVER", type := .int, accessFlags := 26, slot := 4, constantValue := 0 }, { name := "MAYBE", type := .int, accessFlags := 26, slot := 5, constantValue := 0 }, { name := "allowSecurityManager", type := .int, accessFlags := 10, slot := 6, constantValue := 0 }, { name := "security", type := (.object "java/lang/SecurityManager"), accessFlags := 74, slot := 7, constantValue := 0 }, { name := "notSupportedJnuEncoding", type := (.object "java/lang/String"), accessFlags := 10, slot := 8, constantValue := 0 }, { name := "cons", type := (.object "java/io/Console"), accessFlags := 74, slot := 9, constantValue := 0 }, { name := "initialErrStream", type := (.object "java/io/PrintStream"), accessFlags := 74, slot := 10, constantValue := 0 }, { name := "props", type := (.object "java/util/Properties"), accessFlags := 10, slot := 11, constantValue := 0 }, { name := "lineSeparator", type := (.object "java/lang/String"), accessFlags := 10, slot := 12, constantValue := 0 }, { name := "bootLayer", type := (.object "java/lang/ModuleLayer"), accessFlags := 8, slot := 13, constantValue := 0 }]
  methods := #[k29m0, k29m1]
  instanceTypes := #[]
  staticTypes := #[(.object "java/io/InputStream"), (.object "java/io/PrintStream"), (.object "java/io/PrintStream"), (.object "java/io/InputStream"), .int, .int, .int, (.object "java/lang/SecurityManager"), (.object "java/lang/String"), (.object "java/io/Console"), (.object "java/io/PrintStream"), (.object "java/util/Properties"), (.object "java/lang/String"), (.object "java/lang/ModuleLayer")]
  resolved := Array.replicate 834 none
  statics := none }

/-- the primitive byte -/
def k30 : Class := { plain "byte" none with kind := .primitive 'B', accessFlags := 0x411 }
/-- [B -/
def k31 : Class := { plain "[B" (some 0) with kind := .array 30 .byte, interfaces := #[9, 10], accessFlags := 1041 }

/-- the primitive int -/
def k32 : Class := { plain "int" none with kind := .primitive 'I', accessFlags := 0x411 }
/-- [I -/
def k33 : Class := { plain "[I" (some 0) with kind := .array 32 .int, interfaces := #[9, 10], accessFlags := 1041 }

/-- [Ljava/lang/Integer; -/
def k34 : Class := { plain "[Ljava/lang/Integer;" (some 0) with kind := .array 25 (.object "java/lang/Integer"), interfaces := #[9, 10], accessFlags := 1041 }

/-- [Ljava/lang/Object; -/
def k35 : Class := { plain "[Ljava/lang/Object;" (some 0) with kind := .array 0 (.object "java/lang/Object"), interfaces := #[9, 10], accessFlags := 1041 }

def heap : Heap := #[{ cls := 11, slots := #[.long 0, .int 0, .ref 259, .ref 260], vm := .statics 11 },
  { cls := 26, slots := #[.int 0, .int 127, .ref 2, .null, .int 0], vm := .statics 26 },
  { cls := 34, slots := #[.ref 3, .ref 4, .ref 5, .ref 6, .ref 7, .ref 8, .ref 9, .ref 10, .ref 11, .ref 12, .ref 13, .ref 14, .ref 15, .ref 16, .ref 17, .ref 18, .ref 19, .ref 20, .ref 21, .ref 22, .ref 23, .ref 24, .ref 25, .ref 26, .ref 27, .ref 28, .ref 29, .ref 30, .ref 31, .ref 32, .ref 33, .ref 34, .ref 35, .ref 36, .ref 37, .ref 38, .ref 39, .ref 40, .ref 41, .ref 42, .ref 43, .ref 44, .ref 45, .ref 46, .ref 47, .ref 48, .ref 49, .ref 50, .ref 51, .ref 52, .ref 53, .ref 54, .ref 55, .ref 56, .ref 57, .ref 58, .ref 59, .ref 60, .ref 61, .ref 62, .ref 63, .ref 64, .ref 65, .ref 66, .ref 67, .ref 68, .ref 69, .ref 70, .ref 71, .ref 72, .ref 73, .ref 74, .ref 75, .ref 76, .ref 77, .ref 78, .ref 79, .ref 80, .ref 81, .ref 82, .ref 83, .ref 84, .ref 85, .ref 86, .ref 87, .ref 88, .ref 89, .ref 90, .ref 91, .ref 92, .ref 93, .ref 94, .ref 95, .ref 96, .ref 97, .ref 98, .ref 99, .ref 100, .ref 101, .ref 102, .ref 103, .ref 104, .ref 105, .ref 106, .ref 107, .ref 108, .ref 109, .ref 110, .ref 111, .ref 112, .ref 113, .ref 114, .ref 115, .ref 116, .ref 117, .ref 118, .ref 119, .ref 120, .ref 121, .ref 122, .ref 123, .ref 124, .ref 125, .ref 126, .ref 127, .ref 128, .ref 129, .ref 130, .ref 131, .ref 132, .ref 133, .ref 134, .ref 135, .ref 136, .ref 137, .ref 138, .ref 139, .ref 140, .ref 141, .ref 142, .ref 143, .ref 144, .ref 145, .ref 146, .ref 147, .ref 148, .ref 149, .ref 150, .ref 151, .ref 152, .ref 153, .ref 154, .ref 155, .ref 156, .ref 157, .ref 158, .ref 159, .ref 160, .ref 161, .ref 162, .ref 163, .ref 164, .ref 165, .ref 166, .ref 167, .ref 168, .ref 169, .ref 170, .ref 171, .ref 172, .ref 173, .ref 174, .ref 175, .ref 176, .ref 177, .ref 178, .ref 179, .ref 180, .ref 181, .ref 182, .ref 183, .ref 184, .ref 185, .ref 186, .ref 187, .ref 188, .ref 189, .ref 190, .ref 191, .ref 192, .ref 193, .ref 194, .ref 195, .ref 196, .ref 197, .ref 198, .ref 199, .ref 200, .ref 201, .ref 202, .ref 203, .ref 204, .ref 205, .ref 206, .ref 207, .ref 208, .ref 209, .ref 210, .ref 211, .ref 212, .ref 213, .ref 214, .ref 215, .ref 216, .ref 217, .ref 218, .ref 219, .ref 220, .ref 221, .ref 222, .ref 223, .ref 224, .ref 225, .ref 226, .ref 227, .ref 228, .ref 229, .ref 230, .ref 231, .ref 232, .ref 233, .ref 234, .ref 235, .ref 236, .ref 237, .ref 238, .ref 239, .ref 240, .ref 241, .ref 242, .ref 243, .ref 244, .ref 245, .ref 246, .ref 247, .ref 248, .ref 249, .ref 250, .ref 251, .ref 252, .ref 253, .ref 254, .ref 255, .ref 256, .ref 257, .ref 258], vm := .none },
  { cls := 25, slots := #[.int (-128)], vm := .none },
  { cls := 25, slots := #[.int (-127)], vm := .none },
  { cls := 25, slots := #[.int (-126)], vm := .none },
  { cls := 25, slots := #[.int (-125)], vm := .none },
  { cls := 25, slots := #[.int (-124)], vm := .none },
  { cls := 25, slots := #[.int (-123)], vm := .none },
  { cls := 25, slots := #[.int (-122)], vm := .none },
  { cls := 25, slots := #[.int (-121)], vm := .none },
  { cls := 25, slots := #[.int (-120)], vm := .none },
  { cls := 25, slots := #[.int (-119)], vm := .none },
  { cls := 25, slots := #[.int (-118)], vm := .none },
  { cls := 25, slots := #[.int (-117)], vm := .none },
  { cls := 25, slots := #[.int (-116)], vm := .none },
  { cls := 25, slots := #[.int (-115)], vm := .none },
  { cls := 25, slots := #[.int (-114)], vm := .none },
  { cls := 25, slots := #[.int (-113)], vm := .none },
  { cls := 25, slots := #[.int (-112)], vm := .none },
  { cls := 25, slots := #[.int (-111)], vm := .none },
  { cls := 25, slots := #[.int (-110)], vm := .none },
  { cls := 25, slots := #[.int (-109)], vm := .none },
  { cls := 25, slots := #[.int (-108)], vm := .none },
  { cls := 25, slots := #[.int (-107)], vm := .none },
  { cls := 25, slots := #[.int (-106)], vm := .none },
  { cls := 25, slots := #[.int (-105)], vm := .none },
  { cls := 25, slots := #[.int (-104)], vm := .none },
  { cls := 25, slots := #[.int (-103)], vm := .none },
  { cls := 25, slots := #[.int (-102)], vm := .none },
  { cls := 25, slots := #[.int (-101)], vm := .none },
  { cls := 25, slots := #[.int (-100)], vm := .none },
  { cls := 25, slots := #[.int (-99)], vm := .none },
  { cls := 25, slots := #[.int (-98)], vm := .none },
  { cls := 25, slots := #[.int (-97)], vm := .none },
  { cls := 25, slots := #[.int (-96)], vm := .none },
  { cls := 25, slots := #[.int (-95)], vm := .none },
  { cls := 25, slots := #[.int (-94)], vm := .none },
  { cls := 25, slots := #[.int (-93)], vm := .none },
  { cls := 25, slots := #[.int (-92)], vm := .none },
  { cls := 25, slots := #[.int (-91)], vm := .none },
  { cls := 25, slots := #[.int (-90)], vm := .none },
  { cls := 25, slots := #[.int (-89)], vm := .none },
  { cls := 25, slots := #[.int (-88)], vm := .none },
  { cls := 25, slots := #[.int (-87)], vm := .none },
  { cls := 25, slots := #[.int (-86)], vm := .none },
  { cls := 25, slots := #[.int (-85)], vm := .none },
  { cls := 25, slots := #[.int (-84)], vm := .none },
  { cls := 25, slots := #[.int (-83)], vm := .none },
  { cls := 25, slots := #[.int (-82)], vm := .none },
  { cls := 25, slots := #[.int (-81)], vm := .none },
  { cls := 25, slots := #[.int (-80)], vm := .none },
  { cls := 25, slots := #[.int (-79)], vm := .none },
  { cls := 25, slots := #[.int (-78)], vm := .none },
  { cls := 25, slots := #[.int (-77)], vm := .none },
  { cls := 25, slots := #[.int (-76)], vm := .none },
  { cls := 25, slots := #[.int (-75)], vm := .none },
  { cls := 25, slots := #[.int (-74)], vm := .none },
  { cls := 25, slots := #[.int (-73)], vm := .none },
  { cls := 25, slots := #[.int (-72)], vm := .none },
  { cls := 25, slots := #[.int (-71)], vm := .none },
  { cls := 25, slots := #[.int (-70)], vm := .none },
  { cls := 25, slots := #[.int (-69)], vm := .none },
  { cls := 25, slots := #[.int (-68)], vm := .none },
  { cls := 25, slots := #[.int (-67)], vm := .none },
  { cls := 25, slots := #[.int (-66)], vm := .none },
  { cls := 25, slots := #[.int (-65)], vm := .none },
  { cls := 25, slots := #[.int (-64)], vm := .none },
  { cls := 25, slots := #[.int (-63)], vm := .none },
  { cls := 25, slots := #[.int (-62)], vm := .none },
  { cls := 25, slots := #[.int (-61)], vm := .none },
  { cls := 25, slots := #[.int (-60)], vm := .none },
  { cls := 25, slots := #[.int (-59)], vm := .none },
  { cls := 25, slots := #[.int (-58)], vm := .none },
  { cls := 25, slots := #[.int (-57)], vm := .none },
  { cls := 25, slots := #[.int (-56)], vm := .none },
  { cls := 25, slots := #[.int (-55)], vm := .none },
  { cls := 25, slots := #[.int (-54)], vm := .none },
  { cls := 25, slots := #[.int (-53)], vm := .none },
  { cls := 25, slots := #[.int (-52)], vm := .none },
  { cls := 25, slots := #[.int (-51)], vm := .none },
  { cls := 25, slots := #[.int (-50)], vm := .none },
  { cls := 25, slots := #[.int (-49)], vm := .none },
  { cls := 25, slots := #[.int (-48)], vm := .none },
  { cls := 25, slots := #[.int (-47)], vm := .none },
  { cls := 25, slots := #[.int (-46)], vm := .none },
  { cls := 25, slots := #[.int (-45)], vm := .none },
  { cls := 25, slots := #[.int (-44)], vm := .none },
  { cls := 25, slots := #[.int (-43)], vm := .none },
  { cls := 25, slots := #[.int (-42)], vm := .none },
  { cls := 25, slots := #[.int (-41)], vm := .none },
  { cls := 25, slots := #[.int (-40)], vm := .none },
  { cls := 25, slots := #[.int (-39)], vm := .none },
  { cls := 25, slots := #[.int (-38)], vm := .none },
  { cls := 25, slots := #[.int (-37)], vm := .none },
  { cls := 25, slots := #[.int (-36)], vm := .none },
  { cls := 25, slots := #[.int (-35)], vm := .none },
  { cls := 25, slots := #[.int (-34)], vm := .none },
  { cls := 25, slots := #[.int (-33)], vm := .none },
  { cls := 25, slots := #[.int (-32)], vm := .none },
  { cls := 25, slots := #[.int (-31)], vm := .none },
  { cls := 25, slots := #[.int (-30)], vm := .none },
  { cls := 25, slots := #[.int (-29)], vm := .none },
  { cls := 25, slots := #[.int (-28)], vm := .none },
  { cls := 25, slots := #[.int (-27)], vm := .none },
  { cls := 25, slots := #[.int (-26)], vm := .none },
  { cls := 25, slots := #[.int (-25)], vm := .none },
  { cls := 25, slots := #[.int (-24)], vm := .none },
  { cls := 25, slots := #[.int (-23)], vm := .none },
  { cls := 25, slots := #[.int (-22)], vm := .none },
  { cls := 25, slots := #[.int (-21)], vm := .none },
  { cls := 25, slots := #[.int (-20)], vm := .none },
  { cls := 25, slots := #[.int (-19)], vm := .none },
  { cls := 25, slots := #[.int (-18)], vm := .none },
  { cls := 25, slots := #[.int (-17)], vm := .none },
  { cls := 25, slots := #[.int (-16)], vm := .none },
  { cls := 25, slots := #[.int (-15)], vm := .none },
  { cls := 25, slots := #[.int (-14)], vm := .none },
  { cls := 25, slots := #[.int (-13)], vm := .none },
  { cls := 25, slots := #[.int (-12)], vm := .none },
  { cls := 25, slots := #[.int (-11)], vm := .none },
  { cls := 25, slots := #[.int (-10)], vm := .none },
  { cls := 25, slots := #[.int (-9)], vm := .none },
  { cls := 25, slots := #[.int (-8)], vm := .none },
  { cls := 25, slots := #[.int (-7)], vm := .none },
  { cls := 25, slots := #[.int (-6)], vm := .none },
  { cls := 25, slots := #[.int (-5)], vm := .none },
  { cls := 25, slots := #[.int (-4)], vm := .none },
  { cls := 25, slots := #[.int (-3)], vm := .none },
  { cls := 25, slots := #[.int (-2)], vm := .none },
  { cls := 25, slots := #[.int (-1)], vm := .none },
  { cls := 25, slots := #[.int 0], vm := .none },
  { cls := 25, slots := #[.int 1], vm := .none },
  { cls := 25, slots := #[.int 2], vm := .none },
  { cls := 25, slots := #[.int 3], vm := .none },
  { cls := 25, slots := #[.int 4], vm := .none },
  { cls := 25, slots := #[.int 5], vm := .none },
  { cls := 25, slots := #[.int 6], vm := .none },
  { cls := 25, slots := #[.int 7], vm := .none },
  { cls := 25, slots := #[.int 8], vm := .none },
  { cls := 25, slots := #[.int 9], vm := .none },
  { cls := 25, slots := #[.int 10], vm := .none },
  { cls := 25, slots := #[.int 11], vm := .none },
  { cls := 25, slots := #[.int 12], vm := .none },
  { cls := 25, slots := #[.int 13], vm := .none },
  { cls := 25, slots := #[.int 14], vm := .none },
  { cls := 25, slots := #[.int 15], vm := .none },
  { cls := 25, slots := #[.int 16], vm := .none },
  { cls := 25, slots := #[.int 17], vm := .none },
  { cls := 25, slots := #[.int 18], vm := .none },
  { cls := 25, slots := #[.int 19], vm := .none },
  { cls := 25, slots := #[.int 20], vm := .none },
  { cls := 25, slots := #[.int 21], vm := .none },
  { cls := 25, slots := #[.int 22], vm := .none },
  { cls := 25, slots := #[.int 23], vm := .none },
  { cls := 25, slots := #[.int 24], vm := .none },
  { cls := 25, slots := #[.int 25], vm := .none },
  { cls := 25, slots := #[.int 26], vm := .none },
  { cls := 25, slots := #[.int 27], vm := .none },
  { cls := 25, slots := #[.int 28], vm := .none },
  { cls := 25, slots := #[.int 29], vm := .none },
  { cls := 25, slots := #[.int 30], vm := .none },
  { cls := 25, slots := #[.int 31], vm := .none },
  { cls := 25, slots := #[.int 32], vm := .none },
  { cls := 25, slots := #[.int 33], vm := .none },
  { cls := 25, slots := #[.int 34], vm := .none },
  { cls := 25, slots := #[.int 35], vm := .none },
  { cls := 25, slots := #[.int 36], vm := .none },
  { cls := 25, slots := #[.int 37], vm := .none },
  { cls := 25, slots := #[.int 38], vm := .none },
  { cls := 25, slots := #[.int 39], vm := .none },
  { cls := 25, slots := #[.int 40], vm := .none },
  { cls := 25, slots := #[.int 41], vm := .none },
  { cls := 25, slots := #[.int 42], vm := .none },
  { cls := 25, slots := #[.int 43], vm := .none },
  { cls := 25, slots := #[.int 44], vm := .none },
  { cls := 25, slots := #[.int 45], vm := .none },
  { cls := 25, slots := #[.int 46], vm := .none },
  { cls := 25, slots := #[.int 47], vm := .none },
  { cls := 25, slots := #[.int 48], vm := .none },
  { cls := 25, slots := #[.int 49], vm := .none },
  { cls := 25, slots := #[.int 50], vm := .none },
  { cls := 25, slots := #[.int 51], vm := .none },
  { cls := 25, slots := #[.int 52], vm := .none },
  { cls := 25, slots := #[.int 53], vm := .none },
  { cls := 25, slots := #[.int 54], vm := .none },
  { cls := 25, slots := #[.int 55], vm := .none },
  { cls := 25, slots := #[.int 56], vm := .none },
  { cls := 25, slots := #[.int 57], vm := .none },
  { cls := 25, slots := #[.int 58], vm := .none },
  { cls := 25, slots := #[.int 59], vm := .none },
  { cls := 25, slots := #[.int 60], vm := .none },
  { cls := 25, slots := #[.int 61], vm := .none },
  { cls := 25, slots := #[.int 62], vm := .none },
  { cls := 25, slots := #[.int 63], vm := .none },
  { cls := 25, slots := #[.int 64], vm := .none },
  { cls := 25, slots := #[.int 65], vm := .none },
  { cls := 25, slots := #[.int 66], vm := .none },
  { cls := 25, slots := #[.int 67], vm := .none },
  { cls := 25, slots := #[.int 68], vm := .none },
  { cls := 25, slots := #[.int 69], vm := .none },
  { cls := 25, slots := #[.int 70], vm := .none },
  { cls := 25, slots := #[.int 71], vm := .none },
  { cls := 25, slots := #[.int 72], vm := .none },
  { cls := 25, slots := #[.int 73], vm := .none },
  { cls := 25, slots := #[.int 74], vm := .none },
  { cls := 25, slots := #[.int 75], vm := .none },
  { cls := 25, slots := #[.int 76], vm := .none },
  { cls := 25, slots := #[.int 77], vm := .none },
  { cls := 25, slots := #[.int 78], vm := .none },
  { cls := 25, slots := #[.int 79], vm := .none },
  { cls := 25, slots := #[.int 80], vm := .none },
  { cls := 25, slots := #[.int 81], vm := .none },
  { cls := 25, slots := #[.int 82], vm := .none },
  { cls := 25, slots := #[.int 83], vm := .none },
  { cls := 25, slots := #[.int 84], vm := .none },
  { cls := 25, slots := #[.int 85], vm := .none },
  { cls := 25, slots := #[.int 86], vm := .none },
  { cls := 25, slots := #[.int 87], vm := .none },
  { cls := 25, slots := #[.int 88], vm := .none },
  { cls := 25, slots := #[.int 89], vm := .none },
  { cls := 25, slots := #[.int 90], vm := .none },
  { cls := 25, slots := #[.int 91], vm := .none },
  { cls := 25, slots := #[.int 92], vm := .none },
  { cls := 25, slots := #[.int 93], vm := .none },
  { cls := 25, slots := #[.int 94], vm := .none },
  { cls := 25, slots := #[.int 95], vm := .none },
  { cls := 25, slots := #[.int 96], vm := .none },
  { cls := 25, slots := #[.int 97], vm := .none },
  { cls := 25, slots := #[.int 98], vm := .none },
  { cls := 25, slots := #[.int 99], vm := .none },
  { cls := 25, slots := #[.int 100], vm := .none },
  { cls := 25, slots := #[.int 101], vm := .none },
  { cls := 25, slots := #[.int 102], vm := .none },
  { cls := 25, slots := #[.int 103], vm := .none },
  { cls := 25, slots := #[.int 104], vm := .none },
  { cls := 25, slots := #[.int 105], vm := .none },
  { cls := 25, slots := #[.int 106], vm := .none },
  { cls := 25, slots := #[.int 107], vm := .none },
  { cls := 25, slots := #[.int 108], vm := .none },
  { cls := 25, slots := #[.int 109], vm := .none },
  { cls := 25, slots := #[.int 110], vm := .none },
  { cls := 25, slots := #[.int 111], vm := .none },
  { cls := 25, slots := #[.int 112], vm := .none },
  { cls := 25, slots := #[.int 113], vm := .none },
  { cls := 25, slots := #[.int 114], vm := .none },
  { cls := 25, slots := #[.int 115], vm := .none },
  { cls := 25, slots := #[.int 116], vm := .none },
  { cls := 25, slots := #[.int 117], vm := .none },
  { cls := 25, slots := #[.int 118], vm := .none },
  { cls := 25, slots := #[.int 119], vm := .none },
  { cls := 25, slots := #[.int 120], vm := .none },
  { cls := 25, slots := #[.int 121], vm := .none },
  { cls := 25, slots := #[.int 122], vm := .none },
  { cls := 25, slots := #[.int 123], vm := .none },
  { cls := 25, slots := #[.int 124], vm := .none },
  { cls := 25, slots := #[.int 125], vm := .none },
  { cls := 25, slots := #[.int 126], vm := .none },
  { cls := 25, slots := #[.int 127], vm := .none },
  { cls := 35, slots := #[], vm := .none },
  { cls := 35, slots := #[], vm := .none }]
def classes : Array Class := #[k0, k1, k2, k3, k4, k5, k6, k7, k8, k9, k10, k11, k12, k13, k14, k15, k16, k17, k18, k19, k20, k21, k22, k23, k24, k25, k26, k27, k28, k29, k30, k31, k32, k33, k34, k35]
def interned : List (Array UInt16 × Addr) := []
def slotsUsed : Nat := 521
def theMethod : MethodId := ⟨1, 1⟩
def args0 : Array Value := #[.int 1, .int 5, .int 6, .int 7]
def aboutOver (below : List Frame) : State where
  vm := { classes := classes, interned := interned.toArray }
  heap := heap
  slotsUsed := slotsUsed
  threads := #[{ frames := .invoking theMethod args0 :: below }]
def below0 : List Frame := [.native { method := ⟨0, 0⟩, args := #[] }]
def about1 : State := aboutOver below0
def p0 : Program := .bare "" "" ""
def e0 : Env := launch0.env 0 0 0
theorem w_frames : about1.frames = Frame.invoking theMethod args0 :: below0 := rfl
set_option maxRecDepth 65536 in
theorem w_args : argsFit about1.vm theMethod args0 = true := by decide +kernel
set_option maxRecDepth 65536 in
theorem w_heap : heapFits about1 = true := by decide +kernel
set_option maxRecDepth 65536 in
theorem w_runnable : about1.curStatus? = some .runnable := by decide +kernel
set_option maxRecDepth 65536 in
theorem w_alone : about1.alone = true := by decide +kernel
set_option maxRecDepth 65536 in
theorem w_named : about1.methodNamed? x = some theMethod := by decide +kernel
set_option maxRecDepth 65536 in
theorem w_hears : about1.hears theMethod below0 = true := by decide +kernel
set_option maxRecDepth 65536 in
theorem w_ripe : about1.ripe theMethod args0 below0 = true := by decide +kernel
theorem w_running : about1.status = .running := rfl
set_option maxRecDepth 65536 in
theorem w_room : about1.hasRoom e0.platform room_1 = true :=
  launch0.hasRoom_least _ room_1 (by decide +kernel) (by decide +kernel) (by decide +kernel) (by decide +kernel) (by decide +kernel) (by decide +kernel)
theorem allAtoms_all (ts : List Jvm.Cond) (a : Array Jvm.Value) (st : Jvm.State) : (allAtoms ts).before a st = ts.all (fun c => c.before a st) := by
  induction ts with
  | nil => rfl
  | cons c t ih =>
    show (Jvm.Cond.and c (allAtoms t)).before a st = _
    rw [Jvm.Cond.before_and, ih, List.all_cons]
def words1 : List Jvm.Cond := Jvm.Cond.code x code maxLocals ret :: tables_1
/-- a 'code' word, met by the world's own term for the bytes: nothing is compared byte by byte -/
theorem code_word {y : MethodName} {bytes : ByteArray} {mx : Nat} {rt : Option FieldType} {a : Array Value} {s : State} {m : MethodId} {meth : Method} {c : Code} (h1 : s.methodNamed? y = some m) (h2 : s.vm.method? m = some meth) (h3 : meth.code = some c) (h4 : c.code = bytes)
    (h5 : (c.maxLocals == mx && c.exceptionTable.isEmpty && decide (c.maxStack ≤ mostOperands) && decide (meth.sig.returnType = rt) && !meth.locks && decide (parseMethodDescriptor y.desc = some meth.sig)) = true) : (Jvm.Cond.code y bytes mx rt).before a s = true := by
  simp only [Bool.and_eq_true, beq_iff_eq, Bool.not_eq_true', decide_eq_true_eq] at h5
  obtain ⟨⟨⟨⟨⟨g1, g2⟩, g3⟩, g4⟩, g5⟩, g6⟩ := h5
  simp [Cond.before, Cond.holds, Cond.value, h1, h2, h3, h4, g1, g2, g3, g4, g5, g6]
def isCode : Jvm.Cond → Bool
  | .code _ _ _ _ => true
  | _ => false
theorem all_split {L : List Jvm.Cond} {P : Jvm.Cond → Bool} (h1 : L.all (fun c => isCode c || P c) = true) (h2 : ∀ c ∈ L.filter isCode, P c = true) : L.all P = true := by
  refine List.all_eq_true.mpr fun c hc => ?_
  have h := List.all_eq_true.mp h1 c hc
  rcases Bool.eq_false_or_eq_true (isCode c) with hi | hi
  · exact h2 c (List.mem_filter.mpr ⟨hc, hi⟩)
  · simpa [hi] using h
set_option maxRecDepth 65536 in
theorem w_c0 : (Jvm.Cond.code x code maxLocals ret).before args0 about1 = true := code_word (m := ⟨1, 1⟩) (meth := k1m1) (c := k1c1) (by decide +kernel) rfl rfl rfl (by decide +kernel)
set_option maxRecDepth 65536 in
theorem w_c1 : (Jvm.Cond.code ({ cls := "java/util/ArrayList", name := "<init>", desc := "()V" } : Jvm.MethodName) jdk_38_method_2_code (1 : Nat) (Option.none : Option Jvm.ClassFile.FieldType)).before args0 about1 = true := code_word (m := ⟨11, 0⟩) (meth := k11m0) (c := k11c0) (by decide +kernel) rfl rfl rfl (by decide +kernel)
set_option maxRecDepth 65536 in
theorem w_c2 : (Jvm.Cond.code ({ cls := "java/util/AbstractList", name := "<init>", desc := "()V" } : Jvm.MethodName) jdk_39_method_1_code (1 : Nat) (Option.none : Option Jvm.ClassFile.FieldType)).before args0 about1 = true := code_word (m := ⟨7, 0⟩) (meth := k7m0) (c := k7c0) (by decide +kernel) rfl rfl rfl (by decide +kernel)
set_option maxRecDepth 65536 in
theorem w_c3 : (Jvm.Cond.code ({ cls := "java/util/AbstractCollection", name := "<init>", desc := "()V" } : Jvm.MethodName) jdk_22_method_1_code (1 : Nat) (Option.none : Option Jvm.ClassFile.FieldType)).before args0 about1 = true := code_word (m := ⟨4, 0⟩) (meth := k4m0) (c := k4c0) (by decide +kernel) rfl rfl rfl (by decide +kernel)
set_option maxRecDepth 65536 in
theorem w_c4 : (Jvm.Cond.code ({ cls := "java/lang/Object", name := "<init>", desc := "()V" } : Jvm.MethodName) object_method_1_code (1 : Nat) (Option.none : Option Jvm.ClassFile.FieldType)).before args0 about1 = true := code_word (m := ⟨0, 0⟩) (meth := k0m0) (c := k0c0) (by decide +kernel) rfl rfl rfl (by decide +kernel)
set_option maxRecDepth 65536 in
theorem w_c5 : (Jvm.Cond.code ({ cls := "com/example/acrawl/acrawl/store/Records", name := "encodePositions", desc := "(Ljava/util/List;)[B" } : Jvm.MethodName) prog_23_method_6_code (6 : Nat) (Option.some (Jvm.ClassFile.FieldType.array Jvm.ClassFile.FieldType.byte))).before args0 about1 = true := code_word (m := ⟨12, 1⟩) (meth := k12m1) (c := k12c1) (by decide +kernel) rfl rfl rfl (by decide +kernel)
set_option maxRecDepth 65536 in
theorem w_c6 : (Jvm.Cond.code ({ cls := "java/util/ArrayList", name := "size", desc := "()I" } : Jvm.MethodName) jdk_38_method_8_code (1 : Nat) (Option.some Jvm.ClassFile.FieldType.int)).before args0 about1 = true := code_word (m := ⟨11, 3⟩) (meth := k11m3) (c := k11c3) (by decide +kernel) rfl rfl rfl (by decide +kernel)
set_option maxRecDepth 65536 in
theorem w_c7 : (Jvm.Cond.code ({ cls := "java/io/ByteArrayOutputStream", name := "<init>", desc := "(I)V" } : Jvm.MethodName) jdk_2005_method_2_code (2 : Nat) (Option.none : Option Jvm.ClassFile.FieldType)).before args0 about1 = true := code_word (m := ⟨17, 1⟩) (meth := k17m1) (c := k17c1) (by decide +kernel) rfl rfl rfl (by decide +kernel)
set_option maxRecDepth 65536 in
theorem w_c8 : (Jvm.Cond.code ({ cls := "java/io/OutputStream", name := "<init>", desc := "()V" } : Jvm.MethodName) jdk_2038_method_1_code (1 : Nat) (Option.none : Option Jvm.ClassFile.FieldType)).before args0 about1 = true := code_word (m := ⟨16, 0⟩) (meth := k16m0) (c := k16c0) (by decide +kernel) rfl rfl rfl (by decide +kernel)
set_option maxRecDepth 65536 in
theorem w_c9 : (Jvm.Cond.code ({ cls := "java/util/ArrayList", name := "iterator", desc := "()Ljava/util/Iterator;" } : Jvm.MethodName) jdk_38_method_55_code (1 : Nat) (Option.some (Jvm.ClassFile.FieldType.object "java/util/Iterator"))).before args0 about1 = true := code_word (m := ⟨11, 6⟩) (meth := k11m6) (c := k11c6) (by decide +kernel) rfl rfl rfl (by decide +kernel)
set_option maxRecDepth 65536 in
theorem w_c10 : (Jvm.Cond.code ({ cls := "java/util/ArrayList$Itr", name := "<init>", desc := "(Ljava/util/ArrayList;)V" } : Jvm.MethodName) jdk_49_method_1_code (2 : Nat) (Option.none : Option Jvm.ClassFile.FieldType)).before args0 about1 = true := code_word (m := ⟨19, 0⟩) (meth := k19m0) (c := k19c0) (by decide +kernel) rfl rfl rfl (by decide +kernel)
set_option maxRecDepth 65536 in
theorem w_c11 : (Jvm.Cond.code ({ cls := "java/util/ArrayList$Itr", name := "hasNext", desc := "()Z" } : Jvm.MethodName) jdk_49_method_2_code (1 : Nat) (Option.some Jvm.ClassFile.FieldType.boolean)).before args0 about1 = true := code_word (m := ⟨19, 1⟩) (meth := k19m1) (c := k19c1) (by decide +kernel) rfl rfl rfl (by decide +kernel)
set_option maxRecDepth 65536 in
theorem w_c12 : (Jvm.Cond.code ({ cls := "java/util/Arrays", name := "copyOf", desc := "([BI)[B" } : Jvm.MethodName) jdk_65_method_121_code (3 : Nat) (Option.some (Jvm.ClassFile.FieldType.array Jvm.ClassFile.FieldType.byte))).before args0 about1 = true := code_word (m := ⟨20, 1⟩) (meth := k20m1) (c := k20c1) (by decide +kernel) rfl rfl rfl (by decide +kernel)
set_option maxRecDepth 65536 in
theorem w_c13 : (Jvm.Cond.code ({ cls := "com/example/acrawl/acrawl/store/Records", name := "countPositions", desc := "([B)I" } : Jvm.MethodName) prog_23_method_8_code (6 : Nat) (Option.some Jvm.ClassFile.FieldType.int)).before args0 about1 = true := code_word (m := ⟨12, 2⟩) (meth := k12m2) (c := k12c2) (by decide +kernel) rfl rfl rfl (by decide +kernel)
set_option maxRecDepth 65536 in
theorem w_c14 : (Jvm.Cond.code ({ cls := "java/lang/Integer", name := "valueOf", desc := "(I)Ljava/lang/Integer;" } : Jvm.MethodName) jdk_33_method_22_code (1 : Nat) (Option.some (Jvm.ClassFile.FieldType.object "java/lang/Integer"))).before args0 about1 = true := code_word (m := ⟨25, 0⟩) (meth := k25m0) (c := k25c0) (by decide +kernel) rfl rfl rfl (by decide +kernel)
set_option maxRecDepth 65536 in
theorem w_c15 : (Jvm.Cond.code ({ cls := "java/lang/Integer", name := "<init>", desc := "(I)V" } : Jvm.MethodName) jdk_33_method_23_code (2 : Nat) (Option.none : Option Jvm.ClassFile.FieldType)).before args0 about1 = true := code_word (m := ⟨25, 1⟩) (meth := k25m1) (c := k25c1) (by decide +kernel) rfl rfl rfl (by decide +kernel)
set_option maxRecDepth 65536 in
theorem w_c16 : (Jvm.Cond.code ({ cls := "java/lang/Number", name := "<init>", desc := "()V" } : Jvm.MethodName) jdk_18_method_1_code (1 : Nat) (Option.none : Option Jvm.ClassFile.FieldType)).before args0 about1 = true := code_word (m := ⟨21, 0⟩) (meth := k21m0) (c := k21c0) (by decide +kernel) rfl rfl rfl (by decide +kernel)
set_option maxRecDepth 65536 in
theorem w_c17 : (Jvm.Cond.code ({ cls := "java/util/ArrayList", name := "add", desc := "(Ljava/lang/Object;)Z" } : Jvm.MethodName) jdk_38_method_25_code (2 : Nat) (Option.some Jvm.ClassFile.FieldType.boolean)).before args0 about1 = true := code_word (m := ⟨11, 5⟩) (meth := k11m5) (c := k11c5) (by decide +kernel) rfl rfl rfl (by decide +kernel)
set_option maxRecDepth 65536 in
theorem w_c18 : (Jvm.Cond.code ({ cls := "java/util/ArrayList", name := "add", desc := "(Ljava/lang/Object;[Ljava/lang/Object;I)V" } : Jvm.MethodName) jdk_38_method_24_code (4 : Nat) (Option.none : Option Jvm.ClassFile.FieldType)).before args0 about1 = true := code_word (m := ⟨11, 4⟩) (meth := k11m4) (c := k11c4) (by decide +kernel) rfl rfl rfl (by decide +kernel)
set_option maxRecDepth 65536 in
theorem w_c19 : (Jvm.Cond.code ({ cls := "java/util/ArrayList", name := "grow", desc := "()[Ljava/lang/Object;" } : Jvm.MethodName) jdk_38_method_7_code (1 : Nat) (Option.some (Jvm.ClassFile.FieldType.array (Jvm.ClassFile.FieldType.object "java/lang/Object")))).before args0 about1 = true := code_word (m := ⟨11, 2⟩) (meth := k11m2) (c := k11c2) (by decide +kernel) rfl rfl rfl (by decide +kernel)
set_option maxRecDepth 65536 in
theorem w_c20 : (Jvm.Cond.code ({ cls := "java/util/ArrayList", name := "grow", desc := "(I)[Ljava/lang/Object;" } : Jvm.MethodName) jdk_38_method_6_code (4 : Nat) (Option.some (Jvm.ClassFile.FieldType.array (Jvm.ClassFile.FieldType.object "java/lang/Object")))).before args0 about1 = true := code_word (m := ⟨11, 1⟩) (meth := k11m1) (c := k11c1) (by decide +kernel) rfl rfl rfl (by decide +kernel)
set_option maxRecDepth 65536 in
theorem w_c21 : (Jvm.Cond.code ({ cls := "java/lang/Math", name := "max", desc := "(II)I" } : Jvm.MethodName) jdk_29_method_65_code (2 : Nat) (Option.some Jvm.ClassFile.FieldType.int)).before args0 about1 = true := code_word (m := ⟨27, 1⟩) (meth := k27m1) (c := k27c1) (by decide +kernel) rfl rfl rfl (by decide +kernel)
set_option maxRecDepth 65536 in
theorem w_c22 : (Jvm.Cond.code ({ cls := "java/util/ArrayList$Itr", name := "next", desc := "()Ljava/lang/Object;" } : Jvm.MethodName) jdk_49_method_3_code (3 : Nat) (Option.some (Jvm.ClassFile.FieldType.object "java/lang/Object"))).before args0 about1 = true := code_word (m := ⟨19, 2⟩) (meth := k19m2) (c := k19c2) (by decide +kernel) rfl rfl rfl (by decide +kernel)
set_option maxRecDepth 65536 in
theorem w_c23 : (Jvm.Cond.code ({ cls := "java/util/ArrayList$Itr", name := "checkForComodification", desc := "()V" } : Jvm.MethodName) jdk_49_method_6_code (1 : Nat) (Option.none : Option Jvm.ClassFile.FieldType)).before args0 about1 = true := code_word (m := ⟨19, 3⟩) (meth := k19m3) (c := k19c3) (by decide +kernel) rfl rfl rfl (by decide +kernel)
set_option maxRecDepth 65536 in
theorem w_c24 : (Jvm.Cond.code ({ cls := "java/lang/Integer", name := "intValue", desc := "()I" } : Jvm.MethodName) jdk_33_method_27_code (1 : Nat) (Option.some Jvm.ClassFile.FieldType.int)).before args0 about1 = true := code_word (m := ⟨25, 2⟩) (meth := k25m2) (c := k25c2) (by decide +kernel) rfl rfl rfl (by decide +kernel)
set_option maxRecDepth 65536 in
theorem w_c25 : (Jvm.Cond.code ({ cls := "java/io/ByteArrayOutputStream", name := "ensureCapacity", desc := "(I)V" } : Jvm.MethodName) jdk_2005_method_3_code (4 : Nat) (Option.none : Option Jvm.ClassFile.FieldType)).before args0 about1 = true := code_word (m := ⟨17, 2⟩) (meth := k17m2) (c := k17c2) (by decide +kernel) rfl rfl rfl (by decide +kernel)
set_option maxRecDepth 65536 in
theorem w_c26 : (Jvm.Cond.code ({ cls := "jdk/internal/util/ArraysSupport", name := "newLength", desc := "(III)I" } : Jvm.MethodName) jdk_48_method_27_code (4 : Nat) (Option.some Jvm.ClassFile.FieldType.int)).before args0 about1 = true := code_word (m := ⟨28, 1⟩) (meth := k28m1) (c := k28c1) (by decide +kernel) rfl rfl rfl (by decide +kernel)
set_option maxRecDepth 65536 in
theorem w_c27 : (Jvm.Cond.code ({ cls := "java/lang/Math", name := "min", desc := "(II)I" } : Jvm.MethodName) jdk_29_method_69_code (2 : Nat) (Option.some Jvm.ClassFile.FieldType.int)).before args0 about1 = true := code_word (m := ⟨27, 2⟩) (meth := k27m2) (c := k27c2) (by decide +kernel) rfl rfl rfl (by decide +kernel)
def codes1 : List Jvm.Cond := [Jvm.Cond.code x code maxLocals ret, Jvm.Cond.code ({ cls := "java/util/ArrayList", name := "<init>", desc := "()V" } : Jvm.MethodName) jdk_38_method_2_code (1 : Nat) (Option.none : Option Jvm.ClassFile.FieldType), Jvm.Cond.code ({ cls := "java/util/AbstractList", name := "<init>", desc := "()V" } : Jvm.MethodName) jdk_39_method_1_code (1 : Nat) (Option.none : Option Jvm.ClassFile.FieldType), Jvm.Cond.code ({ cls := "java/util/AbstractCollection", name := "<init>", desc := "()V" } : Jvm.MethodName) jdk_22_method_1_code (1 : Nat) (Option.none : Option Jvm.ClassFile.FieldType), Jvm.Cond.code ({ cls := "java/lang/Object", name := "<init>", desc := "()V" } : Jvm.MethodName) object_method_1_code (1 : Nat) (Option.none : Option Jvm.ClassFile.FieldType), Jvm.Cond.code ({ cls := "com/example/acrawl/acrawl/store/Records", name := "encodePositions", desc := "(Ljava/util/List;)[B" } : Jvm.MethodName) prog_23_method_6_code (6 : Nat) (Option.some (Jvm.ClassFile.FieldType.array Jvm.ClassFile.FieldType.byte)), Jvm.Cond.code ({ cls := "java/util/ArrayList", name := "size", desc := "()I" } : Jvm.MethodName) jdk_38_method_8_code (1 : Nat) (Option.some Jvm.ClassFile.FieldType.int), Jvm.Cond.code ({ cls := "java/io/ByteArrayOutputStream", name := "<init>", desc := "(I)V" } : Jvm.MethodName) jdk_2005_method_2_code (2 : Nat) (Option.none : Option Jvm.ClassFile.FieldType), Jvm.Cond.code ({ cls := "java/io/OutputStream", name := "<init>", desc := "()V" } : Jvm.MethodName) jdk_2038_method_1_code (1 : Nat) (Option.none : Option Jvm.ClassFile.FieldType), Jvm.Cond.code ({ cls := "java/util/ArrayList", name := "iterator", desc := "()Ljava/util/Iterator;" } : Jvm.MethodName) jdk_38_method_55_code (1 : Nat) (Option.some (Jvm.ClassFile.FieldType.object "java/util/Iterator")), Jvm.Cond.code ({ cls := "java/util/ArrayList$Itr", name := "<init>", desc := "(Ljava/util/ArrayList;)V" } : Jvm.MethodName) jdk_49_method_1_code (2 : Nat) (Option.none : Option Jvm.ClassFile.FieldType), Jvm.Cond.code ({ cls := "java/util/ArrayList$Itr", name := "hasNext", desc := "()Z" } : Jvm.MethodName) jdk_49_method_2_code (1 : Nat) (Option.some Jvm.ClassFile.FieldType.boolean), Jvm.Cond.code ({ cls := "java/util/Arrays", name := "copyOf", desc := "([BI)[B" } : Jvm.MethodName) jdk_65_method_121_code (3 : Nat) (Option.some (Jvm.ClassFile.FieldType.array Jvm.ClassFile.FieldType.byte)), Jvm.Cond.code ({ cls := "com/example/acrawl/acrawl/store/Records", name := "countPositions", desc := "([B)I" } : Jvm.MethodName) prog_23_method_8_code (6 : Nat) (Option.some Jvm.ClassFile.FieldType.int), Jvm.Cond.code ({ cls := "java/lang/Integer", name := "valueOf", desc := "(I)Ljava/lang/Integer;" } : Jvm.MethodName) jdk_33_method_22_code (1 : Nat) (Option.some (Jvm.ClassFile.FieldType.object "java/lang/Integer")), Jvm.Cond.code ({ cls := "java/lang/Integer", name := "<init>", desc := "(I)V" } : Jvm.MethodName) jdk_33_method_23_code (2 : Nat) (Option.none : Option Jvm.ClassFile.FieldType), Jvm.Cond.code ({ cls := "java/lang/Number", name := "<init>", desc := "()V" } : Jvm.MethodName) jdk_18_method_1_code (1 : Nat) (Option.none : Option Jvm.ClassFile.FieldType), Jvm.Cond.code ({ cls := "java/util/ArrayList", name := "add", desc := "(Ljava/lang/Object;)Z" } : Jvm.MethodName) jdk_38_method_25_code (2 : Nat) (Option.some Jvm.ClassFile.FieldType.boolean), Jvm.Cond.code ({ cls := "java/util/ArrayList", name := "add", desc := "(Ljava/lang/Object;[Ljava/lang/Object;I)V" } : Jvm.MethodName) jdk_38_method_24_code (4 : Nat) (Option.none : Option Jvm.ClassFile.FieldType), Jvm.Cond.code ({ cls := "java/util/ArrayList", name := "grow", desc := "()[Ljava/lang/Object;" } : Jvm.MethodName) jdk_38_method_7_code (1 : Nat) (Option.some (Jvm.ClassFile.FieldType.array (Jvm.ClassFile.FieldType.object "java/lang/Object"))), Jvm.Cond.code ({ cls := "java/util/ArrayList", name := "grow", desc := "(I)[Ljava/lang/Object;" } : Jvm.MethodName) jdk_38_method_6_code (4 : Nat) (Option.some (Jvm.ClassFile.FieldType.array (Jvm.ClassFile.FieldType.object "java/lang/Object"))), Jvm.Cond.code ({ cls := "java/lang/Math", name := "max", desc := "(II)I" } : Jvm.MethodName) jdk_29_method_65_code (2 : Nat) (Option.some Jvm.ClassFile.FieldType.int), Jvm.Cond.code ({ cls := "java/util/ArrayList$Itr", name := "next", desc := "()Ljava/lang/Object;" } : Jvm.MethodName) jdk_49_method_3_code (3 : Nat) (Option.some (Jvm.ClassFile.FieldType.object "java/lang/Object")), Jvm.Cond.code ({ cls := "java/util/ArrayList$Itr", name := "checkForComodification", desc := "()V" } : Jvm.MethodName) jdk_49_method_6_code (1 : Nat) (Option.none : Option Jvm.ClassFile.FieldType), Jvm.Cond.code ({ cls := "java/lang/Integer", name := "intValue", desc := "()I" } : Jvm.MethodName) jdk_33_method_27_code (1 : Nat) (Option.some Jvm.ClassFile.FieldType.int), Jvm.Cond.code ({ cls := "java/io/ByteArrayOutputStream", name := "ensureCapacity", desc := "(I)V" } : Jvm.MethodName) jdk_2005_method_3_code (4 : Nat) (Option.none : Option Jvm.ClassFile.FieldType), Jvm.Cond.code ({ cls := "jdk/internal/util/ArraysSupport", name := "newLength", desc := "(III)I" } : Jvm.MethodName) jdk_48_method_27_code (4 : Nat) (Option.some Jvm.ClassFile.FieldType.int), Jvm.Cond.code ({ cls := "java/lang/Math", name := "min", desc := "(II)I" } : Jvm.MethodName) jdk_29_method_69_code (2 : Nat) (Option.some Jvm.ClassFile.FieldType.int)]
set_option maxRecDepth 65536 in
theorem codes_eq : words1.filter isCode = codes1 := rfl
theorem w_codes : ∀ c ∈ words1.filter isCode, c.before args0 about1 = true := by
  rw [codes_eq]
  intro c hc
  simp only [codes1, List.mem_cons, List.not_mem_nil, or_false] at hc
  rcases hc with rfl | rfl | rfl | rfl | rfl | rfl | rfl | rfl | rfl | rfl | rfl | rfl | rfl | rfl | rfl | rfl | rfl | rfl | rfl | rfl | rfl | rfl | rfl | rfl | rfl | rfl | rfl | rfl
  · exact w_c0
  · exact w_c1
  · exact w_c2
  · exact w_c3
  · exact w_c4
  · exact w_c5
  · exact w_c6
  · exact w_c7
  · exact w_c8
  · exact w_c9
  · exact w_c10
  · exact w_c11
  · exact w_c12
  · exact w_c13
  · exact w_c14
  · exact w_c15
  · exact w_c16
  · exact w_c17
  · exact w_c18
  · exact w_c19
  · exact w_c20
  · exact w_c21
  · exact w_c22
  · exact w_c23
  · exact w_c24
  · exact w_c25
  · exact w_c26
  · exact w_c27
set_option maxRecDepth 65536 in
theorem w_t1 : (words1.take 24).all (fun c => isCode c || c.before args0 about1) = true := by decide +kernel
set_option maxRecDepth 65536 in
theorem w_t2 : ((words1.drop 24).take 24).all (fun c => isCode c || c.before args0 about1) = true := by decide +kernel
set_option maxRecDepth 65536 in
theorem w_t3 : (((words1.drop 24).drop 24).take 24).all (fun c => isCode c || c.before args0 about1) = true := by decide +kernel
set_option maxRecDepth 65536 in
theorem w_t4 : ((((words1.drop 24).drop 24).drop 24).take 24).all (fun c => isCode c || c.before args0 about1) = true := by decide +kernel
set_option maxRecDepth 65536 in
theorem w_t5 : (((((words1.drop 24).drop 24).drop 24).drop 24).take 24).all (fun c => isCode c || c.before args0 about1) = true := by decide +kernel
set_option maxRecDepth 65536 in
theorem w_t6 : ((((((words1.drop 24).drop 24).drop 24).drop 24).drop 24).take 24).all (fun c => isCode c || c.before args0 about1) = true := by decide +kernel
set_option maxRecDepth 65536 in
theorem w_t7 : (((((((words1.drop 24).drop 24).drop 24).drop 24).drop 24).drop 24).take 24).all (fun c => isCode c || c.before args0 about1) = true := by decide +kernel
set_option maxRecDepth 65536 in
theorem w_t8 : ((((((((words1.drop 24).drop 24).drop 24).drop 24).drop 24).drop 24).drop 24).take 24).all (fun c => isCode c || c.before args0 about1) = true := by decide +kernel
set_option maxRecDepth 65536 in
theorem w_t9 : ((((((((words1.drop 24).drop 24).drop 24).drop 24).drop 24).drop 24).drop 24).drop 24).all (fun c => isCode c || c.before args0 about1) = true := by decide +kernel
theorem w_tables : (allAtoms (Jvm.Cond.code x code maxLocals ret :: tables_1)).before args0 about1 = true := by
  rw [allAtoms_all]
  show words1.all (fun c => c.before args0 about1) = true
  refine all_split ?_ w_codes
  rw [← List.take_append_drop 24 words1, List.all_append, w_t1, ← List.take_append_drop 24 (words1.drop 24), List.all_append, w_t2, ← List.take_append_drop 24 ((words1.drop 24).drop 24), List.all_append, w_t3, ← List.take_append_drop 24 (((words1.drop 24).drop 24).drop 24), List.all_append, w_t4, ← List.take_append_drop 24 ((((words1.drop 24).drop 24).drop 24).drop 24), List.all_append, w_t5, ← List.take_append_drop 24 (((((words1.drop 24).drop 24).drop 24).drop 24).drop 24), List.all_append, w_t6, ← List.take_append_drop 24 ((((((words1.drop 24).drop 24).drop 24).drop 24).drop 24).drop 24), List.all_append, w_t7, ← List.take_append_drop 24 (((((((words1.drop 24).drop 24).drop 24).drop 24).drop 24).drop 24).drop 24), List.all_append, w_t8, w_t9]
  rfl
set_option maxRecDepth 65536 in
theorem w_rest : rest_1_c.before args0 about1 = true := by decide +kernel
set_option maxRecDepth 65536 in
theorem w_case : (Jvm.Cond.and given_1 narrow_1).before args0 about1 = true := by decide +kernel
theorem w_applies : (headSpec (Jvm.Cond.code x code maxLocals ret :: tables_1) room_1).applies x e0.platform about1 = true :=
  (Spec.applies_iff w_frames).mpr ⟨w_running, w_runnable, w_alone, w_named, w_hears, w_ripe, w_room, w_tables⟩
theorem atStart : AtStart classFile x code maxLocals ret World_1 tables_1 room_1 Calls_1 rest_1 Pre_1 launch0 p0 e0 about1 theMethod args0 below0 :=
  ⟨lists_1, trivial, launch0.admits_env _ _ _, launch0.least_env, fairChoices_fair.cas, fairChoices_fair.clock, w_frames, w_args, w_heap, w_applies, trivial, w_rest, w_case⟩
end start1
theorem witness_1 : WitnessClaimed_1 := ⟨start1.p0, start1.e0, start1.about1, start1.theMethod, start1.args0, start1.below0, start1.atStart⟩
end Jvm.Pilot.@@N@@
