import JvmDerived
import JvmDerived.Pilot.@@N@@Statement
import JvmDerived.Pilot.@@N@@Code
set_option linter.unusedVariables false
set_option linter.unusedSimpArgs false
namespace Jvm.Pilot.@@N@@
open Jvm Jvm.ClassFile Sem Op Lib Jvm.Free Jvm.Stand Jvm.LawKit Jvm.RoadKit Bundle Jvm.Pilot.@@N@@.Jvm.D

/-! ## OWN LAYER: weakest preconditions over the walk -/
abbrev Cx : Type := (Program × Launch × Env × Room) × (State × MethodId × Array Value × List Frame) × (Method × Code) × (Option Value → Heap → Prop) × Nat
abbrev Sd (K : Cx) (T : State) (locs : List Loc) (cells slots : Nat) : Prop := Stand K.1.1 K.1.2.1 K.1.2.2.1 K.1.2.2.2 K.2.1.1 K.2.1.2.1 K.2.1.2.2.1 K.2.1.2.2.2 K.2.2.1.1 K.2.2.1.2 T locs cells slots
abbrev Stp (K : Cx) (A B : State) : Prop := Steps K.1.1.tables K.1.2.2.1 K.2.1.2.2.2 A B
abbrev Tp (K : Cx) (T : State) (pc : Nat) (L : Array Slot) (st : List Value) : State := T.setTop (mkF K.2.1.2.1 pc L st)
/-- from every state that stands at pc with these locals, this stack and this heap the run ends as K says -/
def W (K : Cx) (h : Heap) (cells slots pc : Nat) (L : Array Slot) (st : List Value) : Prop :=
  ∀ T locs, Sd K T locs cells slots → T.heap = h → Fr K.2.2.2.2 locs →
    ∃ s₂ o, Stp K (Tp K T pc L st) s₂ ∧ s₂.status = .running ∧ Ended s₂ K.2.1.2.2.2 o ∧ ∃ v Ls, o = .returned v ∧ (K.2.2.2.1 v s₂.heap ∧ Fr K.2.2.2.2 Ls) ∧ FrameEnd K.2.1.1 o s₂ Ls K.1.2.2.2.cells K.1.2.2.2.slots
def Ok (K : Cx) (l : Launch) (Z : State) (a0 : Array Value) (ts : List Jvm.Cond) (B : ByteArray) (ml : Nat) (rt : Option FieldType) (own nm : String) (R : Room) (n0 : Nat) (Q : Option Value → Heap → Prop) : Prop :=
  K.1.1.tables.exec = Jvm.exec ∧ K.2.2.1.2.code = B ∧ K.2.2.1.2.maxLocals = ml ∧ K.2.1.1.vm.findClass own = some K.2.1.2.1.cls ∧ K.2.2.1.1.name = nm ∧ K.2.2.1.1.sig.returnType = rt ∧ K.2.2.1.1.locks = false ∧ Z.Warmed39 K.2.1.1.vm ∧ (∀ d ∈ ts, d.before a0 Z = true) ∧ n0 ≤ K.2.1.1.heap.size ∧ K.1.2.1 = l ∧ K.1.2.2.2 = R ∧ K.2.2.2.2 = n0 ∧ K.2.2.2.1 = Q
/-- a body's contract -/
def Con (l : Launch) (Z : State) (y : MethodName) (B : ByteArray) (ml : Nat) (rt : Option FieldType) (rm : Room) (as : List Value) (h : Heap) (n0 : Nat) (Q : Option Value → Heap → Prop) : Prop :=
  n0 ≤ h.size → ∀ ws, MetFree l y (head1 (Jvm.Cond.code y B ml rt :: ws) rm) (fun a U => a = as.toArray ∧ Z.Warmed39 U.vm ∧ U.heap = h) (fun _ _ _ _ _ => True) (fun _ U o U' => ∃ v L, o = .returned v ∧ (Q v U'.heap ∧ Fr n0 L) ∧ FrameEnd U o U' L rm.cells rm.slots)
def RetI (P : Int32 → Heap → Prop) (v : Option Value) (h : Heap) : Prop := ∃ r, v = some (.int r) ∧ P r h
def RetL (P : Int64 → Heap → Prop) (v : Option Value) (h : Heap) : Prop := ∃ r, v = some (.long r) ∧ P r h
def RetA (P : Value → Heap → Prop) (v : Option Value) (h : Heap) : Prop := ∃ r, v = some r ∧ r.isRef = true ∧ P r h
def RetV (P : Heap → Prop) (v : Option Value) (h : Heap) : Prop := v = none ∧ P h
section OwnW
variable {K : Cx} {l : Launch} {Z : State} {a0 : Array Value} {ts : List Jvm.Cond} {B : ByteArray} {ml : Nat} {rt : Option FieldType} {own nm : String} {R : Room} {n0 : Nat} {Q : Option Value → Heap → Prop} {h : Heap} {cl sl pc pc' : Nat} {L L' : Array Slot} {st st' : List Value}
theorem W.step (f : ∀ T locs, Sd K T locs cl sl → T.heap = h → ∀ t, Stp K (Tp K T pc' L' st') t → Stp K (Tp K T pc L st) t) (k : W K h cl sl pc' L' st') : W K h cl sl pc L st := fun T locs X e N => by
  obtain ⟨s2, o, h1, r⟩ := k T locs X e N
  exact ⟨s2, o, f T locs X e _ h1, r⟩
theorem W.stepT (f : ∀ T locs, Sd K T locs cl sl → T.heap = h → ∃ T', Sd K T' locs cl sl ∧ T'.heap = h ∧ ∀ t, Stp K (Tp K T' pc' L' st') t → Stp K (Tp K T pc L st) t) (k : W K h cl sl pc' L' st') : W K h cl sl pc L st := fun T locs X e N => by
  obtain ⟨T', X', e', g⟩ := f T locs X e
  obtain ⟨s2, o, h1, r⟩ := k T' locs X' e' N
  exact ⟨s2, o, g _ h1, r⟩
theorem W.stepW {a : Addr} {i : Nat} {v : Value} (f : ∀ T locs, Sd K T locs cl sl → T.heap = h → ∃ T' h', Sd K T' (locs ++ [⟨a, i⟩]) cl sl ∧ T'.heap = h' ∧ Wr h h' a i v ∧ ∀ t, Stp K (Tp K T' pc' L' st') t → Stp K (Tp K T pc L st) t) (ha : K.2.2.2.2 ≤ a) (k : ∀ h', Wr h h' a i v → W K h' cl sl pc' L' st') : W K h cl sl pc L st := fun T locs X e N => by
  obtain ⟨T', h', X', e', w, g⟩ := f T locs X e
  obtain ⟨s2, o, h1, r⟩ := k h' w T' _ X' e' (Fr.snoc X' N ha)
  exact ⟨s2, o, g _ h1, r⟩
theorem W.mono {cl' sl' : Nat} (hc : cl ≤ cl') (hs : sl ≤ sl') (k : W K h cl' sl' pc L st) : W K h cl sl pc L st := fun T locs X e N => k T locs (X.mono hc hs) e N
theorem Sd.size {T : State} {locs : List Loc} (X : Sd K T locs cl sl) : K.2.1.1.heap.size ≤ T.heap.size := X.same.2.1
theorem cI {cl' sl' : Nat} {P : Int32 → Heap → Prop} (k : ∀ r h', P r h' → W K h' cl' sl' pc' L (.int r :: st)) : ∀ v h', RetI P v h' → W K h' cl' sl' pc' L (v.toList ++ st) := by
  rintro _ h' ⟨r, rfl, hp⟩; exact k r h' hp
theorem cL {cl' sl' : Nat} {P : Int64 → Heap → Prop} (k : ∀ r h', P r h' → W K h' cl' sl' pc' L (.long r :: st)) : ∀ v h', RetL P v h' → W K h' cl' sl' pc' L (v.toList ++ st) := by
  rintro _ h' ⟨r, rfl, hp⟩; exact k r h' hp
theorem cA {cl' sl' : Nat} {P : Value → Heap → Prop} (k : ∀ r h', r.isRef = true → P r h' → W K h' cl' sl' pc' L (r :: st)) : ∀ v h', RetA P v h' → W K h' cl' sl' pc' L (v.toList ++ st) := by
  rintro _ h' ⟨r, rfl, hr, hp⟩; exact k r h' hr hp
theorem cV {cl' sl' : Nat} {P : Heap → Prop} (k : ∀ h', P h' → W K h' cl' sl' pc' L st) : ∀ v h', RetV P v h' → W K h' cl' sl' pc' L (v.toList ++ st) := by
  rintro _ h' ⟨rfl, hp⟩; exact k h' hp
theorem Con.weak {y : MethodName} {rm : Room} {as : List Value} {Q' : Option Value → Heap → Prop} (c : Con l Z y B ml rt rm as h n0 Q) (q : ∀ v h', Q v h' → Q' v h') : Con l Z y B ml rt rm as h n0 Q' := fun hn ws p e ha hc hk s m args below hf happ hP hK => by
  obtain ⟨n, o, h1, h2, h3, v, L, e1, ⟨h4, h5⟩, h6⟩ := c hn ws p e ha hc hk s m args below hf happ hP hK
  exact ⟨n, o, h1, h2, h3, v, L, e1, ⟨q _ _ h4, h5⟩, h6⟩
theorem Con.body {y : MethodName} {rm : Room} {as : List Value} {L0 : Array Slot} (hw : ∀ d ∈ ts, d.before a0 Z = true) (pn : plainFor y = true) (ef : ∀ m, entryFrame m as.toArray ml = mkF m 0 L0 [])
    (b : ∀ K, Ok K l Z a0 ts B ml rt y.cls y.name rm n0 Q → W K h 0 0 0 L0 []) : Con l Z y B ml rt rm as h n0 Q := by
  intro hn ws
  refine MetFree.of_bodySF pn hisR ?_
  intro p e s m args below meth c s₁ Bd hml0 hP hK
  obtain ⟨rfl, hZ, hh⟩ := hP
  have hown : s.vm.findClass y.cls = some m.cls := findClass_of_methodNamed Bd.named
  have hnm := (name_of_methodNamed Bd.named Bd.method).1
  have X0 : Stand p l e rm s m as.toArray below meth c s₁ [] 0 0 := Stand.of_body Bd
  have e0 : s₁.heap = h := by rw [← hh, Bd.state]; rfl
  have q := b ((p, l, e, rm), (s, m, as.toArray, below), (meth, c), Q, n0) ⟨Bd.exec, Bd.bytes, hml0, hown, hnm, Bd.returns, Bd.notSynchronized, hZ, hw, by rw [← hh] at hn; exact hn, rfl, rfl, rfl, rfl⟩ s₁ [] X0 e0 (Fr.nil _)
  obtain ⟨s2, o, h1, h2, h3, h4⟩ := q
  exact ⟨s2, o, castTop (ef m) h1, h2, h3, h4⟩

theorem w_iloadN (O : Ok K l Z a0 ts B ml rt own nm R n0 Q) {i : Fin 4} {v : Int32} (hd : decode B pc = .ok (.iload_n i, 1)) (hp : pc + 1 = pc') (hl : L[i.val]? = some (.val (.int v))) (k : W K h cl sl pc' L (.int v :: st)) : W K h cl sl pc L (st) := by
  subst hp; exact W.step (fun T locs X e t q => XS.iloadN X.here O.1 rfl (hb O.2.1 hd) hl q) k
theorem w_iload (O : Ok K l Z a0 ts B ml rt own nm R n0 Q) {i : Nat} {v : Int32} (hd : decode B pc = .ok (.iload i, 2)) (hp : pc + 2 = pc') (hl : L[i]? = some (.val (.int v))) (k : W K h cl sl pc' L (.int v :: st)) : W K h cl sl pc L (st) := by
  subst hp; exact W.step (fun T locs X e t q => XS.iload X.here O.1 rfl (hb O.2.1 hd) hl q) k
theorem w_lloadN (O : Ok K l Z a0 ts B ml rt own nm R n0 Q) {i : Fin 4} {v : Int64} (hd : decode B pc = .ok (.lload_n i, 1)) (hp : pc + 1 = pc') (hl : L[i.val]? = some (.val (.long v))) (k : W K h cl sl pc' L (.long v :: st)) : W K h cl sl pc L (st) := by
  subst hp; exact W.step (fun T locs X e t q => XS.lloadN X.here O.1 rfl (hb O.2.1 hd) hl q) k
theorem w_lload (O : Ok K l Z a0 ts B ml rt own nm R n0 Q) {i : Nat} {v : Int64} (hd : decode B pc = .ok (.lload i, 2)) (hp : pc + 2 = pc') (hl : L[i]? = some (.val (.long v))) (k : W K h cl sl pc' L (.long v :: st)) : W K h cl sl pc L (st) := by
  subst hp; exact W.step (fun T locs X e t q => XS.lload X.here O.1 rfl (hb O.2.1 hd) hl q) k
theorem w_aloadN (O : Ok K l Z a0 ts B ml rt own nm R n0 Q) {i : Fin 4} {v : Value} (hd : decode B pc = .ok (.aload_n i, 1)) (hp : pc + 1 = pc') (hl : L[i.val]? = some (.val v)) (hv : v.isRef = true) (k : W K h cl sl pc' L (v :: st)) : W K h cl sl pc L (st) := by
  subst hp; exact W.step (fun T locs X e t q => XS.aloadN X.here O.1 rfl (hb O.2.1 hd) hl hv q) k
theorem w_aload (O : Ok K l Z a0 ts B ml rt own nm R n0 Q) {i : Nat} {v : Value} (hd : decode B pc = .ok (.aload i, 2)) (hp : pc + 2 = pc') (hl : L[i]? = some (.val v)) (hv : v.isRef = true) (k : W K h cl sl pc' L (v :: st)) : W K h cl sl pc L (st) := by
  subst hp; exact W.step (fun T locs X e t q => XS.aload X.here O.1 rfl (hb O.2.1 hd) hl hv q) k
theorem w_istoreN (O : Ok K l Z a0 ts B ml rt own nm R n0 Q) {i : Fin 4} {v : Int32} (hd : decode B pc = .ok (.istore_n i, 1)) (hp : pc + 1 = pc') (hl : storeLocals L i.val (.int v) = some L') (k : W K h cl sl pc' L' st) : W K h cl sl pc L (.int v :: st) := by
  subst hp; exact W.step (fun T locs X e t q => XS.istoreN X.here O.1 rfl (hb O.2.1 hd) rfl hl q) k
theorem w_istoreNG (O : Ok K l Z a0 ts B ml rt own nm R n0 Q) {i : Fin 4} {v : Int32} {L' : Int32 → Array Slot} (hd : decode B pc = .ok (.istore_n i, 1)) (hp : pc + 1 = pc') (hl : ∀ z, storeLocals L i.val (.int z) = some (L' z)) (k : ∀ z, z = v → W K h cl sl pc' (L' z) st) : W K h cl sl pc L (.int v :: st) := w_istoreN O hd hp (hl v) (k v rfl)
theorem w_istore (O : Ok K l Z a0 ts B ml rt own nm R n0 Q) {i : Nat} {v : Int32} (hd : decode B pc = .ok (.istore i, 2)) (hp : pc + 2 = pc') (hl : storeLocals L i (.int v) = some L') (k : W K h cl sl pc' L' st) : W K h cl sl pc L (.int v :: st) := by
  subst hp; exact W.step (fun T locs X e t q => XS.istore X.here O.1 rfl (hb O.2.1 hd) rfl hl q) k
theorem w_istoreG (O : Ok K l Z a0 ts B ml rt own nm R n0 Q) {i : Nat} {v : Int32} {L' : Int32 → Array Slot} (hd : decode B pc = .ok (.istore i, 2)) (hp : pc + 2 = pc') (hl : ∀ z, storeLocals L i (.int z) = some (L' z)) (k : ∀ z, z = v → W K h cl sl pc' (L' z) st) : W K h cl sl pc L (.int v :: st) := w_istore O hd hp (hl v) (k v rfl)
theorem w_lstoreN (O : Ok K l Z a0 ts B ml rt own nm R n0 Q) {i : Fin 4} {v : Int64} (hd : decode B pc = .ok (.lstore_n i, 1)) (hp : pc + 1 = pc') (hl : storeLocals L i.val (.long v) = some L') (k : W K h cl sl pc' L' st) : W K h cl sl pc L (.long v :: st) := by
  subst hp; exact W.step (fun T locs X e t q => XS.lstoreN X.here O.1 rfl (hb O.2.1 hd) rfl hl q) k
theorem w_lstoreNG (O : Ok K l Z a0 ts B ml rt own nm R n0 Q) {i : Fin 4} {v : Int64} {L' : Int64 → Array Slot} (hd : decode B pc = .ok (.lstore_n i, 1)) (hp : pc + 1 = pc') (hl : ∀ z, storeLocals L i.val (.long z) = some (L' z)) (k : ∀ z, z = v → W K h cl sl pc' (L' z) st) : W K h cl sl pc L (.long v :: st) := w_lstoreN O hd hp (hl v) (k v rfl)
theorem w_lstore (O : Ok K l Z a0 ts B ml rt own nm R n0 Q) {i : Nat} {v : Int64} (hd : decode B pc = .ok (.lstore i, 2)) (hp : pc + 2 = pc') (hl : storeLocals L i (.long v) = some L') (k : W K h cl sl pc' L' st) : W K h cl sl pc L (.long v :: st) := by
  subst hp; exact W.step (fun T locs X e t q => XS.lstore X.here O.1 rfl (hb O.2.1 hd) rfl hl q) k
theorem w_lstoreG (O : Ok K l Z a0 ts B ml rt own nm R n0 Q) {i : Nat} {v : Int64} {L' : Int64 → Array Slot} (hd : decode B pc = .ok (.lstore i, 2)) (hp : pc + 2 = pc') (hl : ∀ z, storeLocals L i (.long z) = some (L' z)) (k : ∀ z, z = v → W K h cl sl pc' (L' z) st) : W K h cl sl pc L (.long v :: st) := w_lstore O hd hp (hl v) (k v rfl)
theorem w_astoreN (O : Ok K l Z a0 ts B ml rt own nm R n0 Q) {i : Fin 4} {v : Value} (hd : decode B pc = .ok (.astore_n i, 1)) (hp : pc + 1 = pc') (hv : v.isRef = true) (hl : storeLocals L i.val v = some L') (k : W K h cl sl pc' L' st) : W K h cl sl pc L (v :: st) := by
  subst hp; exact W.step (fun T locs X e t q => XS.astoreN X.here O.1 rfl (hb O.2.1 hd) rfl hv hl q) k
theorem w_astore (O : Ok K l Z a0 ts B ml rt own nm R n0 Q) {i : Nat} {v : Value} (hd : decode B pc = .ok (.astore i, 2)) (hp : pc + 2 = pc') (hv : v.isRef = true) (hl : storeLocals L i v = some L') (k : W K h cl sl pc' L' st) : W K h cl sl pc L (v :: st) := by
  subst hp; exact W.step (fun T locs X e t q => XS.astore X.here O.1 rfl (hb O.2.1 hd) rfl hv hl q) k
theorem w_iinc (O : Ok K l Z a0 ts B ml rt own nm R n0 Q) {i : Nat} {cst : Int} {x z : Int32} (hd : decode B pc = .ok (.iinc i cst, 3)) (hp : pc + 3 = pc') (hl : L[i]? = some (.val (.int x))) (hz : x + Int32.ofInt cst = z) (hl' : storeLocals L i (.int z) = some L') (k : W K h cl sl pc' L' st) : W K h cl sl pc L st := by
  subst hp; subst hz; exact W.step (fun T locs X e t q => XS.iinc X.here O.1 rfl (hb O.2.1 hd) hl hl' q) k
theorem w_iincG (O : Ok K l Z a0 ts B ml rt own nm R n0 Q) {i : Nat} {cst : Int} {x y : Int32} {L' : Int32 → Array Slot} (hd : decode B pc = .ok (.iinc i cst, 3)) (hp : pc + 3 = pc') (hl : L[i]? = some (.val (.int x))) (hz : Int32.ofInt cst = y) (hl' : ∀ z, storeLocals L i (.int z) = some (L' z)) (k : ∀ z, z = x + y → W K h cl sl pc' (L' z) st) : W K h cl sl pc L st := by
  subst hz; exact w_iinc O hd hp hl rfl (hl' _) (k _ rfl)
theorem w_iconst (O : Ok K l Z a0 ts B ml rt own nm R n0 Q) {i : Int} {z : Int32} (hd : decode B pc = .ok (.iconst i, 1)) (hp : pc + 1 = pc') (hz : Int32.ofInt i = z) (k : W K h cl sl pc' L (.int z :: st)) : W K h cl sl pc L (st) := by
  subst hp; exact W.step (fun T locs X e t q => XS.iconst X.here O.1 rfl (hb O.2.1 hd) (by rw [hz]; exact q)) k
theorem w_bipush (O : Ok K l Z a0 ts B ml rt own nm R n0 Q) {i : Int} {z : Int32} (hd : decode B pc = .ok (.bipush i, 2)) (hp : pc + 2 = pc') (hz : (Int8.ofInt i).toInt32 = z) (k : W K h cl sl pc' L (.int z :: st)) : W K h cl sl pc L (st) := by
  subst hp; exact W.step (fun T locs X e t q => XS.bipush X.here O.1 rfl (hb O.2.1 hd) (by rw [hz]; exact q)) k
theorem w_sipush (O : Ok K l Z a0 ts B ml rt own nm R n0 Q) {i : Int} {z : Int32} (hd : decode B pc = .ok (.sipush i, 3)) (hp : pc + 3 = pc') (hz : (Int16.ofInt i).toInt32 = z) (k : W K h cl sl pc' L (.int z :: st)) : W K h cl sl pc L (st) := by
  subst hp; exact W.step (fun T locs X e t q => XS.sipush X.here O.1 rfl (hb O.2.1 hd) (by rw [hz]; exact q)) k
theorem w_lconst (O : Ok K l Z a0 ts B ml rt own nm R n0 Q) {i : Fin 2} {z : Int64} (hd : decode B pc = .ok (.lconst i, 1)) (hp : pc + 1 = pc') (hz : Int64.ofNat i = z) (k : W K h cl sl pc' L (.long z :: st)) : W K h cl sl pc L (st) := by
  subst hp; exact W.step (fun T locs X e t q => XS.lconst X.here O.1 rfl (hb O.2.1 hd) (by rw [hz]; exact q)) k
theorem w_anull (O : Ok K l Z a0 ts B ml rt own nm R n0 Q)  (hd : decode B pc = .ok (.aconst_null, 1)) (hp : pc + 1 = pc') (k : W K h cl sl pc' L (.null :: st)) : W K h cl sl pc L (st) := by
  subst hp; exact W.step (fun T locs X e t q => XS.aconstNull X.here O.1 rfl (hb O.2.1 hd) q) k
theorem w_ldc (O : Ok K l Z a0 ts B ml rt own nm R n0 Q) {i : Nat} {v : Int32} (hd : decode B pc = .ok (.ldc i, 2)) (hp : pc + 2 = pc') (w : Jvm.Cond.constant own i v ∈ ts) (k : W K h cl sl pc' L (.int v :: st)) : W K h cl sl pc L (st) := by
  subst hp; exact W.step (fun T locs X e t q => X.ldcInt O.1 O.2.2.2.1 (mvT O.2.2.2.2.2.2.2.1 (O.2.2.2.2.2.2.2.2.1 _ w)) (g := mkF K.2.1.2.1 pc L st) rfl (hb O.2.1 hd) _ q) k
theorem w_ldc2 (O : Ok K l Z a0 ts B ml rt own nm R n0 Q) {i : Nat} {v : Int64} (hd : decode B pc = .ok (.ldc2_w i, 3)) (hp : pc + 3 = pc') (w : Jvm.Cond.constantLong own i v ∈ ts) (k : W K h cl sl pc' L (.long v :: st)) : W K h cl sl pc L (st) := by
  subst hp; exact W.step (fun T locs X e t q => X.ldc2Long O.1 O.2.2.2.1 (mvT O.2.2.2.2.2.2.2.1 (O.2.2.2.2.2.2.2.2.1 _ w)) (g := mkF K.2.1.2.1 pc L st) rfl (hb O.2.1 hd) _ q) k
theorem w_iadd (O : Ok K l Z a0 ts B ml rt own nm R n0 Q) {x y : Int32} (hd : decode B pc = .ok (.iadd, 1)) (hp : pc + 1 = pc') (k : W K h cl sl pc' L (.int (x + y) :: st)) : W K h cl sl pc L (.int y :: .int x :: st) := by
  subst hp; exact W.step (fun T locs X e t q => XS.iadd X.here O.1 rfl (hb O.2.1 hd) rfl q) k
theorem w_isub (O : Ok K l Z a0 ts B ml rt own nm R n0 Q) {x y : Int32} (hd : decode B pc = .ok (.isub, 1)) (hp : pc + 1 = pc') (k : W K h cl sl pc' L (.int (x - y) :: st)) : W K h cl sl pc L (.int y :: .int x :: st) := by
  subst hp; exact W.step (fun T locs X e t q => XS.isub X.here O.1 rfl (hb O.2.1 hd) rfl q) k
theorem w_imul (O : Ok K l Z a0 ts B ml rt own nm R n0 Q) {x y : Int32} (hd : decode B pc = .ok (.imul, 1)) (hp : pc + 1 = pc') (k : W K h cl sl pc' L (.int (x * y) :: st)) : W K h cl sl pc L (.int y :: .int x :: st) := by
  subst hp; exact W.step (fun T locs X e t q => XS.imul X.here O.1 rfl (hb O.2.1 hd) rfl q) k
theorem w_iand (O : Ok K l Z a0 ts B ml rt own nm R n0 Q) {x y : Int32} (hd : decode B pc = .ok (.iand, 1)) (hp : pc + 1 = pc') (k : W K h cl sl pc' L (.int (x &&& y) :: st)) : W K h cl sl pc L (.int y :: .int x :: st) := by
  subst hp; exact W.step (fun T locs X e t q => XS.iand X.here O.1 rfl (hb O.2.1 hd) rfl q) k
theorem w_ior (O : Ok K l Z a0 ts B ml rt own nm R n0 Q) {x y : Int32} (hd : decode B pc = .ok (.ior, 1)) (hp : pc + 1 = pc') (k : W K h cl sl pc' L (.int (x ||| y) :: st)) : W K h cl sl pc L (.int y :: .int x :: st) := by
  subst hp; exact W.step (fun T locs X e t q => XS.ior X.here O.1 rfl (hb O.2.1 hd) rfl q) k
theorem w_ixor (O : Ok K l Z a0 ts B ml rt own nm R n0 Q) {x y : Int32} (hd : decode B pc = .ok (.ixor, 1)) (hp : pc + 1 = pc') (k : W K h cl sl pc' L (.int (x ^^^ y) :: st)) : W K h cl sl pc L (.int y :: .int x :: st) := by
  subst hp; exact W.step (fun T locs X e t q => XS.ixor X.here O.1 rfl (hb O.2.1 hd) rfl q) k
theorem w_ishl (O : Ok K l Z a0 ts B ml rt own nm R n0 Q) {x y : Int32} (hd : decode B pc = .ok (.ishl, 1)) (hp : pc + 1 = pc') (k : W K h cl sl pc' L (.int (x <<< (y &&& 31)) :: st)) : W K h cl sl pc L (.int y :: .int x :: st) := by
  subst hp; exact W.step (fun T locs X e t q => XS.ishl X.here O.1 rfl (hb O.2.1 hd) rfl q) k
theorem w_ishr (O : Ok K l Z a0 ts B ml rt own nm R n0 Q) {x y : Int32} (hd : decode B pc = .ok (.ishr, 1)) (hp : pc + 1 = pc') (k : W K h cl sl pc' L (.int (x >>> (y &&& 31)) :: st)) : W K h cl sl pc L (.int y :: .int x :: st) := by
  subst hp; exact W.step (fun T locs X e t q => XS.ishr X.here O.1 rfl (hb O.2.1 hd) rfl q) k
theorem w_iushr (O : Ok K l Z a0 ts B ml rt own nm R n0 Q) {x y : Int32} (hd : decode B pc = .ok (.iushr, 1)) (hp : pc + 1 = pc') (k : W K h cl sl pc' L (.int ((x.toUInt32 >>> (y &&& 31).toUInt32).toInt32) :: st)) : W K h cl sl pc L (.int y :: .int x :: st) := by
  subst hp; exact W.step (fun T locs X e t q => XS.iushr X.here O.1 rfl (hb O.2.1 hd) rfl q) k
theorem w_ladd (O : Ok K l Z a0 ts B ml rt own nm R n0 Q) {x y : Int64} (hd : decode B pc = .ok (.ladd, 1)) (hp : pc + 1 = pc') (k : W K h cl sl pc' L (.long (x + y) :: st)) : W K h cl sl pc L (.long y :: .long x :: st) := by
  subst hp; exact W.step (fun T locs X e t q => XS.ladd X.here O.1 rfl (hb O.2.1 hd) rfl q) k
theorem w_lsub (O : Ok K l Z a0 ts B ml rt own nm R n0 Q) {x y : Int64} (hd : decode B pc = .ok (.lsub, 1)) (hp : pc + 1 = pc') (k : W K h cl sl pc' L (.long (x - y) :: st)) : W K h cl sl pc L (.long y :: .long x :: st) := by
  subst hp; exact W.step (fun T locs X e t q => XS.lsub X.here O.1 rfl (hb O.2.1 hd) rfl q) k
theorem w_lmul (O : Ok K l Z a0 ts B ml rt own nm R n0 Q) {x y : Int64} (hd : decode B pc = .ok (.lmul, 1)) (hp : pc + 1 = pc') (k : W K h cl sl pc' L (.long (x * y) :: st)) : W K h cl sl pc L (.long y :: .long x :: st) := by
  subst hp; exact W.step (fun T locs X e t q => XS.lmul X.here O.1 rfl (hb O.2.1 hd) rfl q) k
theorem w_land (O : Ok K l Z a0 ts B ml rt own nm R n0 Q) {x y : Int64} (hd : decode B pc = .ok (.land, 1)) (hp : pc + 1 = pc') (k : W K h cl sl pc' L (.long (x &&& y) :: st)) : W K h cl sl pc L (.long y :: .long x :: st) := by
  subst hp; exact W.step (fun T locs X e t q => XS.land X.here O.1 rfl (hb O.2.1 hd) rfl q) k
theorem w_lor (O : Ok K l Z a0 ts B ml rt own nm R n0 Q) {x y : Int64} (hd : decode B pc = .ok (.lor, 1)) (hp : pc + 1 = pc') (k : W K h cl sl pc' L (.long (x ||| y) :: st)) : W K h cl sl pc L (.long y :: .long x :: st) := by
  subst hp; exact W.step (fun T locs X e t q => XS.lor X.here O.1 rfl (hb O.2.1 hd) rfl q) k
theorem w_lxor (O : Ok K l Z a0 ts B ml rt own nm R n0 Q) {x y : Int64} (hd : decode B pc = .ok (.lxor, 1)) (hp : pc + 1 = pc') (k : W K h cl sl pc' L (.long (x ^^^ y) :: st)) : W K h cl sl pc L (.long y :: .long x :: st) := by
  subst hp; exact W.step (fun T locs X e t q => XS.lxor X.here O.1 rfl (hb O.2.1 hd) rfl q) k
theorem w_lshl (O : Ok K l Z a0 ts B ml rt own nm R n0 Q) {x : Int64} {y : Int32} (hd : decode B pc = .ok (.lshl, 1)) (hp : pc + 1 = pc') (k : W K h cl sl pc' L (.long (x <<< (y &&& 0x3f).toInt64) :: st)) : W K h cl sl pc L (.int y :: .long x :: st) := by
  subst hp; exact W.step (fun T locs X e t q => XS.lshl X.here O.1 rfl (hb O.2.1 hd) rfl q) k
theorem w_lshr (O : Ok K l Z a0 ts B ml rt own nm R n0 Q) {x : Int64} {y : Int32} (hd : decode B pc = .ok (.lshr, 1)) (hp : pc + 1 = pc') (k : W K h cl sl pc' L (.long (x >>> (y &&& 0x3f).toInt64) :: st)) : W K h cl sl pc L (.int y :: .long x :: st) := by
  subst hp; exact W.step (fun T locs X e t q => XS.lshr X.here O.1 rfl (hb O.2.1 hd) rfl q) k
theorem w_lushr (O : Ok K l Z a0 ts B ml rt own nm R n0 Q) {x : Int64} {y : Int32} (hd : decode B pc = .ok (.lushr, 1)) (hp : pc + 1 = pc') (k : W K h cl sl pc' L (.long ((x.toUInt64 >>> (y &&& 0x3f).toInt64.toUInt64).toInt64) :: st)) : W K h cl sl pc L (.int y :: .long x :: st) := by
  subst hp; exact W.step (fun T locs X e t q => XS.lushr X.here O.1 rfl (hb O.2.1 hd) rfl q) k
theorem w_idiv (O : Ok K l Z a0 ts B ml rt own nm R n0 Q) {x y : Int32} (hd : decode B pc = .ok (.idiv, 1)) (hp : pc + 1 = pc') (hy : y ≠ 0) (k : W K h cl sl pc' L (.int (x / y) :: st)) : W K h cl sl pc L (.int y :: .int x :: st) := by
  subst hp; exact W.step (fun T locs X e t q => XS.idiv X.here O.1 rfl (hb O.2.1 hd) rfl hy q) k
theorem w_irem (O : Ok K l Z a0 ts B ml rt own nm R n0 Q) {x y : Int32} (hd : decode B pc = .ok (.irem, 1)) (hp : pc + 1 = pc') (hy : y ≠ 0) (k : W K h cl sl pc' L (.int (x % y) :: st)) : W K h cl sl pc L (.int y :: .int x :: st) := by
  subst hp; exact W.step (fun T locs X e t q => iremM X O.1 rfl (hb O.2.1 hd) rfl hy q) k
theorem w_ldiv (O : Ok K l Z a0 ts B ml rt own nm R n0 Q) {x y : Int64} (hd : decode B pc = .ok (.ldiv, 1)) (hp : pc + 1 = pc') (hy : y ≠ 0) (k : W K h cl sl pc' L (.long (x / y) :: st)) : W K h cl sl pc L (.long y :: .long x :: st) := by
  subst hp; exact W.step (fun T locs X e t q => XS.ldiv X.here O.1 rfl (hb O.2.1 hd) rfl hy q) k
theorem w_lrem (O : Ok K l Z a0 ts B ml rt own nm R n0 Q) {x y : Int64} (hd : decode B pc = .ok (.lrem, 1)) (hp : pc + 1 = pc') (hy : y ≠ 0) (k : W K h cl sl pc' L (.long (x % y) :: st)) : W K h cl sl pc L (.long y :: .long x :: st) := by
  subst hp; exact W.step (fun T locs X e t q => XS.lrem X.here O.1 rfl (hb O.2.1 hd) rfl hy (by rw [lrem_mod]; exact q)) k
theorem w_ineg (O : Ok K l Z a0 ts B ml rt own nm R n0 Q) {x : Int32} (hd : decode B pc = .ok (.ineg, 1)) (hp : pc + 1 = pc') (k : W K h cl sl pc' L (.int (-x) :: st)) : W K h cl sl pc L (.int x :: st) := by
  subst hp; exact W.step (fun T locs X e t q => XS.ineg X.here O.1 rfl (hb O.2.1 hd) rfl q) k
theorem w_lneg (O : Ok K l Z a0 ts B ml rt own nm R n0 Q) {x : Int64} (hd : decode B pc = .ok (.lneg, 1)) (hp : pc + 1 = pc') (k : W K h cl sl pc' L (.long (-x) :: st)) : W K h cl sl pc L (.long x :: st) := by
  subst hp; exact W.step (fun T locs X e t q => XS.lneg X.here O.1 rfl (hb O.2.1 hd) rfl q) k
theorem w_i2l (O : Ok K l Z a0 ts B ml rt own nm R n0 Q) {x : Int32} (hd : decode B pc = .ok (.i2l, 1)) (hp : pc + 1 = pc') (k : W K h cl sl pc' L (.long (x.toInt64) :: st)) : W K h cl sl pc L (.int x :: st) := by
  subst hp; exact W.step (fun T locs X e t q => XS.i2l X.here O.1 rfl (hb O.2.1 hd) rfl q) k
theorem w_l2i (O : Ok K l Z a0 ts B ml rt own nm R n0 Q) {x : Int64} (hd : decode B pc = .ok (.l2i, 1)) (hp : pc + 1 = pc') (k : W K h cl sl pc' L (.int (x.toInt32) :: st)) : W K h cl sl pc L (.long x :: st) := by
  subst hp; exact W.step (fun T locs X e t q => XS.l2i X.here O.1 rfl (hb O.2.1 hd) rfl q) k
theorem w_i2b (O : Ok K l Z a0 ts B ml rt own nm R n0 Q) {x : Int32} (hd : decode B pc = .ok (.i2b, 1)) (hp : pc + 1 = pc') (k : W K h cl sl pc' L (.int (x.toInt8.toInt32) :: st)) : W K h cl sl pc L (.int x :: st) := by
  subst hp; exact W.step (fun T locs X e t q => XS.i2b X.here O.1 rfl (hb O.2.1 hd) rfl q) k
theorem w_i2s (O : Ok K l Z a0 ts B ml rt own nm R n0 Q) {x : Int32} (hd : decode B pc = .ok (.i2s, 1)) (hp : pc + 1 = pc') (k : W K h cl sl pc' L (.int (x.toInt16.toInt32) :: st)) : W K h cl sl pc L (.int x :: st) := by
  subst hp; exact W.step (fun T locs X e t q => XS.i2s X.here O.1 rfl (hb O.2.1 hd) rfl q) k
theorem w_i2c (O : Ok K l Z a0 ts B ml rt own nm R n0 Q) {x : Int32} (hd : decode B pc = .ok (.i2c, 1)) (hp : pc + 1 = pc') (k : W K h cl sl pc' L (.int (x.toUInt32.toUInt16.toUInt32.toInt32) :: st)) : W K h cl sl pc L (.int x :: st) := by
  subst hp; exact W.step (fun T locs X e t q => XS.i2c X.here O.1 rfl (hb O.2.1 hd) rfl q) k
theorem w_dup (O : Ok K l Z a0 ts B ml rt own nm R n0 Q) {x : Value} (hd : decode B pc = .ok (.dup, 1)) (hp : pc + 1 = pc') (hc : x.category = 1) (k : W K h cl sl pc' L (x :: x :: st)) : W K h cl sl pc L (x :: st) := by
  subst hp; exact W.step (fun T locs X e t q => XS.dup X.here O.1 rfl (hb O.2.1 hd) rfl hc q) k
theorem w_pop (O : Ok K l Z a0 ts B ml rt own nm R n0 Q) {x : Value} (hd : decode B pc = .ok (.pop, 1)) (hp : pc + 1 = pc') (hc : x.category = 1) (k : W K h cl sl pc' L (st)) : W K h cl sl pc L (x :: st) := by
  subst hp; exact W.step (fun T locs X e t q => XS.pop X.here O.1 rfl (hb O.2.1 hd) rfl hc q) k
theorem w_dupX1 (O : Ok K l Z a0 ts B ml rt own nm R n0 Q) {x y : Value} (hd : decode B pc = .ok (.dup_x1, 1)) (hp : pc + 1 = pc') (hc : x.category = 1) (hc2 : y.category = 1) (k : W K h cl sl pc' L (x :: y :: x :: st)) : W K h cl sl pc L (x :: y :: st) := by
  subst hp; exact W.step (fun T locs X e t q => XS.dupX1 X.here O.1 rfl (hb O.2.1 hd) rfl hc hc2 q) k
theorem w_goto (O : Ok K l Z a0 ts B ml rt own nm R n0 Q) {o : Int} (hd : decode B pc = .ok (.goto o, 3)) (ho : 0 ≤ (pc : Int) + o) (hp : ((pc : Int) + o).toNat = pc') (k : W K h cl sl pc' L st) : W K h cl sl pc L st := W.step (fun T locs X e t q => XS.goto X.here O.1 rfl rfl (hb O.2.1 hd) ho hp q) k
theorem w_icmp_eq (O : Ok K l Z a0 ts B ml rt own nm R n0 Q) {o : Int} {x y : Int32} {pt pn : Nat} (hd : decode B pc = .ok (.if_icmp .eq o, 3)) (hn : pc + 3 = pn) (ho : 0 ≤ (pc : Int) + o) (ht : ((pc : Int) + o).toNat = pt) (ky : x.toInt = y.toInt → W K h cl sl pt L st) (kn : ¬ x.toInt = y.toInt → W K h cl sl pn L st) : W K h cl sl pc L (.int y :: .int x :: st) := by
  by_cases q : x = y
  · exact W.step (fun T locs X e t z => XS.icmpYes X.here O.1 rfl rfl (hb O.2.1 hd) rfl (teq q).1 ho ht z) (ky (Int32.toInt_inj.mpr q))
  · exact W.step (fun T locs X e t z => XS.icmpNo X.here O.1 rfl (hb O.2.1 hd) rfl (feq q).1 (by rw [← hn] at z; exact z)) (kn fun w => q (Int32.toInt_inj.mp w))
theorem w_if_eq (O : Ok K l Z a0 ts B ml rt own nm R n0 Q) {o : Int} {x : Int32} {pt pn : Nat} (hd : decode B pc = .ok (.ifCond .eq o, 3)) (hn : pc + 3 = pn) (ho : 0 ≤ (pc : Int) + o) (ht : ((pc : Int) + o).toNat = pt) (ky : x.toInt = 0 → W K h cl sl pt L st) (kn : ¬ x.toInt = 0 → W K h cl sl pn L st) : W K h cl sl pc L (.int x :: st) := by
  have e0 : (0 : Int32).toInt = 0 := by decide
  by_cases q : x = 0
  · exact W.step (fun T locs X e t z => XS.ifYes X.here O.1 rfl rfl (hb O.2.1 hd) rfl ((if0 _ _).trans (teq q).1) ho ht z) (ky (by rw [← e0]; exact (Int32.toInt_inj.mpr q)))
  · exact W.step (fun T locs X e t z => XS.ifNo X.here O.1 rfl (hb O.2.1 hd) rfl ((if0 _ _).trans (feq q).1) (by rw [← hn] at z; exact z)) (kn fun w => q (by rw [← e0] at w; exact (Int32.toInt_inj.mp w)))
theorem lcb_eq {x y : Int64} : (lcmpW x y).toInt = 0 ↔ x.toInt = y.toInt := by
  have e0 : (0 : Int32).toInt = 0 := by decide
  rw [← e0]
  exact Int32.toInt_inj.trans ((lw_eq x y).trans Int64.toInt_inj.symm)
theorem w_lcmp_eq (O : Ok K l Z a0 ts B ml rt own nm R n0 Q) {o : Int} {x y : Int64} {pi pt pn : Nat} (hd : decode B pc = .ok (.lcmp, 1)) (hi : pc + 1 = pi) (hd2 : decode B pi = .ok (.ifCond .eq o, 3)) (hn : pi + 3 = pn) (ho : 0 ≤ (pi : Int) + o) (ht : ((pi : Int) + o).toNat = pt) (ky : x.toInt = y.toInt → W K h cl sl pt L st) (kn : ¬ x.toInt = y.toInt → W K h cl sl pn L st) : W K h cl sl pc L (.long y :: .long x :: st) := by
  subst hi
  exact W.step (fun T locs X e t q => XS.lcmp X.here O.1 rfl (hb O.2.1 hd) rfl q) (w_if_eq O hd2 hn ho ht (fun q => ky (lcb_eq.mp q)) (fun q => kn fun w => q (lcb_eq.mpr w)))
theorem w_icmp_ne (O : Ok K l Z a0 ts B ml rt own nm R n0 Q) {o : Int} {x y : Int32} {pt pn : Nat} (hd : decode B pc = .ok (.if_icmp .ne o, 3)) (hn : pc + 3 = pn) (ho : 0 ≤ (pc : Int) + o) (ht : ((pc : Int) + o).toNat = pt) (ky : ¬ x.toInt = y.toInt → W K h cl sl pt L st) (kn : x.toInt = y.toInt → W K h cl sl pn L st) : W K h cl sl pc L (.int y :: .int x :: st) := by
  by_cases q : x = y
  · exact W.step (fun T locs X e t z => XS.icmpNo X.here O.1 rfl (hb O.2.1 hd) rfl (teq q).2 (by rw [← hn] at z; exact z)) (kn (Int32.toInt_inj.mpr q))
  · exact W.step (fun T locs X e t z => XS.icmpYes X.here O.1 rfl rfl (hb O.2.1 hd) rfl (feq q).2 ho ht z) (ky fun w => q (Int32.toInt_inj.mp w))
theorem w_if_ne (O : Ok K l Z a0 ts B ml rt own nm R n0 Q) {o : Int} {x : Int32} {pt pn : Nat} (hd : decode B pc = .ok (.ifCond .ne o, 3)) (hn : pc + 3 = pn) (ho : 0 ≤ (pc : Int) + o) (ht : ((pc : Int) + o).toNat = pt) (ky : ¬ x.toInt = 0 → W K h cl sl pt L st) (kn : x.toInt = 0 → W K h cl sl pn L st) : W K h cl sl pc L (.int x :: st) := by
  have e0 : (0 : Int32).toInt = 0 := by decide
  by_cases q : x = 0
  · exact W.step (fun T locs X e t z => XS.ifNo X.here O.1 rfl (hb O.2.1 hd) rfl ((if0 _ _).trans (teq q).2) (by rw [← hn] at z; exact z)) (kn (by rw [← e0]; exact (Int32.toInt_inj.mpr q)))
  · exact W.step (fun T locs X e t z => XS.ifYes X.here O.1 rfl rfl (hb O.2.1 hd) rfl ((if0 _ _).trans (feq q).2) ho ht z) (ky fun w => q (by rw [← e0] at w; exact (Int32.toInt_inj.mp w)))
theorem lcb_ne {x y : Int64} : (lcmpW x y).toInt = 0 ↔ x.toInt = y.toInt := by
  have e0 : (0 : Int32).toInt = 0 := by decide
  rw [← e0]
  exact Int32.toInt_inj.trans ((lw_eq x y).trans Int64.toInt_inj.symm)
theorem w_lcmp_ne (O : Ok K l Z a0 ts B ml rt own nm R n0 Q) {o : Int} {x y : Int64} {pi pt pn : Nat} (hd : decode B pc = .ok (.lcmp, 1)) (hi : pc + 1 = pi) (hd2 : decode B pi = .ok (.ifCond .ne o, 3)) (hn : pi + 3 = pn) (ho : 0 ≤ (pi : Int) + o) (ht : ((pi : Int) + o).toNat = pt) (ky : ¬ x.toInt = y.toInt → W K h cl sl pt L st) (kn : x.toInt = y.toInt → W K h cl sl pn L st) : W K h cl sl pc L (.long y :: .long x :: st) := by
  subst hi
  exact W.step (fun T locs X e t q => XS.lcmp X.here O.1 rfl (hb O.2.1 hd) rfl q) (w_if_ne O hd2 hn ho ht (fun q => ky fun w => q (lcb_ne.mpr w)) (fun q => kn (lcb_ne.mp q)))
theorem w_icmp_lt (O : Ok K l Z a0 ts B ml rt own nm R n0 Q) {o : Int} {x y : Int32} {pt pn : Nat} (hd : decode B pc = .ok (.if_icmp .lt o, 3)) (hn : pc + 3 = pn) (ho : 0 ≤ (pc : Int) + o) (ht : ((pc : Int) + o).toNat = pt) (ky : x.toInt < y.toInt → W K h cl sl pt L st) (kn : ¬ x.toInt < y.toInt → W K h cl sl pn L st) : W K h cl sl pc L (.int y :: .int x :: st) := by
  by_cases q : x < y
  · exact W.step (fun T locs X e t z => XS.icmpYes X.here O.1 rfl rfl (hb O.2.1 hd) rfl (tlt q).1 ho ht z) (ky (Int32.lt_iff_toInt_lt.mp q))
  · exact W.step (fun T locs X e t z => XS.icmpNo X.here O.1 rfl (hb O.2.1 hd) rfl (flt q).1 (by rw [← hn] at z; exact z)) (kn fun w => q (Int32.lt_iff_toInt_lt.mpr w))
theorem w_if_lt (O : Ok K l Z a0 ts B ml rt own nm R n0 Q) {o : Int} {x : Int32} {pt pn : Nat} (hd : decode B pc = .ok (.ifCond .lt o, 3)) (hn : pc + 3 = pn) (ho : 0 ≤ (pc : Int) + o) (ht : ((pc : Int) + o).toNat = pt) (ky : x.toInt < 0 → W K h cl sl pt L st) (kn : ¬ x.toInt < 0 → W K h cl sl pn L st) : W K h cl sl pc L (.int x :: st) := by
  have e0 : (0 : Int32).toInt = 0 := by decide
  by_cases q : x < 0
  · exact W.step (fun T locs X e t z => XS.ifYes X.here O.1 rfl rfl (hb O.2.1 hd) rfl ((if0 _ _).trans (tlt q).1) ho ht z) (ky (by rw [← e0]; exact (Int32.lt_iff_toInt_lt.mp q)))
  · exact W.step (fun T locs X e t z => XS.ifNo X.here O.1 rfl (hb O.2.1 hd) rfl ((if0 _ _).trans (flt q).1) (by rw [← hn] at z; exact z)) (kn fun w => q (by rw [← e0] at w; exact (Int32.lt_iff_toInt_lt.mpr w)))
theorem lcb_lt {x y : Int64} : (lcmpW x y).toInt < 0 ↔ x.toInt < y.toInt := by
  have e0 : (0 : Int32).toInt = 0 := by decide
  rw [← e0]
  exact (Int32.lt_iff_toInt_lt.symm).trans ((lw_lt x y).trans Int64.lt_iff_toInt_lt)
theorem w_lcmp_lt (O : Ok K l Z a0 ts B ml rt own nm R n0 Q) {o : Int} {x y : Int64} {pi pt pn : Nat} (hd : decode B pc = .ok (.lcmp, 1)) (hi : pc + 1 = pi) (hd2 : decode B pi = .ok (.ifCond .lt o, 3)) (hn : pi + 3 = pn) (ho : 0 ≤ (pi : Int) + o) (ht : ((pi : Int) + o).toNat = pt) (ky : x.toInt < y.toInt → W K h cl sl pt L st) (kn : ¬ x.toInt < y.toInt → W K h cl sl pn L st) : W K h cl sl pc L (.long y :: .long x :: st) := by
  subst hi
  exact W.step (fun T locs X e t q => XS.lcmp X.here O.1 rfl (hb O.2.1 hd) rfl q) (w_if_lt O hd2 hn ho ht (fun q => ky (lcb_lt.mp q)) (fun q => kn fun w => q (lcb_lt.mpr w)))
theorem w_icmp_ge (O : Ok K l Z a0 ts B ml rt own nm R n0 Q) {o : Int} {x y : Int32} {pt pn : Nat} (hd : decode B pc = .ok (.if_icmp .ge o, 3)) (hn : pc + 3 = pn) (ho : 0 ≤ (pc : Int) + o) (ht : ((pc : Int) + o).toNat = pt) (ky : ¬ x.toInt < y.toInt → W K h cl sl pt L st) (kn : x.toInt < y.toInt → W K h cl sl pn L st) : W K h cl sl pc L (.int y :: .int x :: st) := by
  by_cases q : x < y
  · exact W.step (fun T locs X e t z => XS.icmpNo X.here O.1 rfl (hb O.2.1 hd) rfl (tlt q).2.1 (by rw [← hn] at z; exact z)) (kn (Int32.lt_iff_toInt_lt.mp q))
  · exact W.step (fun T locs X e t z => XS.icmpYes X.here O.1 rfl rfl (hb O.2.1 hd) rfl (flt q).2.1 ho ht z) (ky fun w => q (Int32.lt_iff_toInt_lt.mpr w))
theorem w_if_ge (O : Ok K l Z a0 ts B ml rt own nm R n0 Q) {o : Int} {x : Int32} {pt pn : Nat} (hd : decode B pc = .ok (.ifCond .ge o, 3)) (hn : pc + 3 = pn) (ho : 0 ≤ (pc : Int) + o) (ht : ((pc : Int) + o).toNat = pt) (ky : ¬ x.toInt < 0 → W K h cl sl pt L st) (kn : x.toInt < 0 → W K h cl sl pn L st) : W K h cl sl pc L (.int x :: st) := by
  have e0 : (0 : Int32).toInt = 0 := by decide
  by_cases q : x < 0
  · exact W.step (fun T locs X e t z => XS.ifNo X.here O.1 rfl (hb O.2.1 hd) rfl ((if0 _ _).trans (tlt q).2.1) (by rw [← hn] at z; exact z)) (kn (by rw [← e0]; exact (Int32.lt_iff_toInt_lt.mp q)))
  · exact W.step (fun T locs X e t z => XS.ifYes X.here O.1 rfl rfl (hb O.2.1 hd) rfl ((if0 _ _).trans (flt q).2.1) ho ht z) (ky fun w => q (by rw [← e0] at w; exact (Int32.lt_iff_toInt_lt.mpr w)))
theorem lcb_ge {x y : Int64} : (lcmpW x y).toInt < 0 ↔ x.toInt < y.toInt := by
  have e0 : (0 : Int32).toInt = 0 := by decide
  rw [← e0]
  exact (Int32.lt_iff_toInt_lt.symm).trans ((lw_lt x y).trans Int64.lt_iff_toInt_lt)
theorem w_lcmp_ge (O : Ok K l Z a0 ts B ml rt own nm R n0 Q) {o : Int} {x y : Int64} {pi pt pn : Nat} (hd : decode B pc = .ok (.lcmp, 1)) (hi : pc + 1 = pi) (hd2 : decode B pi = .ok (.ifCond .ge o, 3)) (hn : pi + 3 = pn) (ho : 0 ≤ (pi : Int) + o) (ht : ((pi : Int) + o).toNat = pt) (ky : ¬ x.toInt < y.toInt → W K h cl sl pt L st) (kn : x.toInt < y.toInt → W K h cl sl pn L st) : W K h cl sl pc L (.long y :: .long x :: st) := by
  subst hi
  exact W.step (fun T locs X e t q => XS.lcmp X.here O.1 rfl (hb O.2.1 hd) rfl q) (w_if_ge O hd2 hn ho ht (fun q => ky fun w => q (lcb_ge.mpr w)) (fun q => kn (lcb_ge.mp q)))
theorem w_icmp_gt (O : Ok K l Z a0 ts B ml rt own nm R n0 Q) {o : Int} {x y : Int32} {pt pn : Nat} (hd : decode B pc = .ok (.if_icmp .gt o, 3)) (hn : pc + 3 = pn) (ho : 0 ≤ (pc : Int) + o) (ht : ((pc : Int) + o).toNat = pt) (ky : y.toInt < x.toInt → W K h cl sl pt L st) (kn : ¬ y.toInt < x.toInt → W K h cl sl pn L st) : W K h cl sl pc L (.int y :: .int x :: st) := by
  by_cases q : y < x
  · exact W.step (fun T locs X e t z => XS.icmpYes X.here O.1 rfl rfl (hb O.2.1 hd) rfl (tlt q).2.2.1 ho ht z) (ky (Int32.lt_iff_toInt_lt.mp q))
  · exact W.step (fun T locs X e t z => XS.icmpNo X.here O.1 rfl (hb O.2.1 hd) rfl (flt q).2.2.1 (by rw [← hn] at z; exact z)) (kn fun w => q (Int32.lt_iff_toInt_lt.mpr w))
theorem w_if_gt (O : Ok K l Z a0 ts B ml rt own nm R n0 Q) {o : Int} {x : Int32} {pt pn : Nat} (hd : decode B pc = .ok (.ifCond .gt o, 3)) (hn : pc + 3 = pn) (ho : 0 ≤ (pc : Int) + o) (ht : ((pc : Int) + o).toNat = pt) (ky : 0 < x.toInt → W K h cl sl pt L st) (kn : ¬ 0 < x.toInt → W K h cl sl pn L st) : W K h cl sl pc L (.int x :: st) := by
  have e0 : (0 : Int32).toInt = 0 := by decide
  by_cases q : 0 < x
  · exact W.step (fun T locs X e t z => XS.ifYes X.here O.1 rfl rfl (hb O.2.1 hd) rfl ((if0 _ _).trans (tlt q).2.2.1) ho ht z) (ky (by rw [← e0]; exact (Int32.lt_iff_toInt_lt.mp q)))
  · exact W.step (fun T locs X e t z => XS.ifNo X.here O.1 rfl (hb O.2.1 hd) rfl ((if0 _ _).trans (flt q).2.2.1) (by rw [← hn] at z; exact z)) (kn fun w => q (by rw [← e0] at w; exact (Int32.lt_iff_toInt_lt.mpr w)))
theorem lcb_gt {x y : Int64} : 0 < (lcmpW x y).toInt ↔ y.toInt < x.toInt := by
  have e0 : (0 : Int32).toInt = 0 := by decide
  rw [← e0]
  exact (Int32.lt_iff_toInt_lt.symm).trans ((lw_gt x y).trans Int64.lt_iff_toInt_lt)
theorem w_lcmp_gt (O : Ok K l Z a0 ts B ml rt own nm R n0 Q) {o : Int} {x y : Int64} {pi pt pn : Nat} (hd : decode B pc = .ok (.lcmp, 1)) (hi : pc + 1 = pi) (hd2 : decode B pi = .ok (.ifCond .gt o, 3)) (hn : pi + 3 = pn) (ho : 0 ≤ (pi : Int) + o) (ht : ((pi : Int) + o).toNat = pt) (ky : y.toInt < x.toInt → W K h cl sl pt L st) (kn : ¬ y.toInt < x.toInt → W K h cl sl pn L st) : W K h cl sl pc L (.long y :: .long x :: st) := by
  subst hi
  exact W.step (fun T locs X e t q => XS.lcmp X.here O.1 rfl (hb O.2.1 hd) rfl q) (w_if_gt O hd2 hn ho ht (fun q => ky (lcb_gt.mp q)) (fun q => kn fun w => q (lcb_gt.mpr w)))
theorem w_icmp_le (O : Ok K l Z a0 ts B ml rt own nm R n0 Q) {o : Int} {x y : Int32} {pt pn : Nat} (hd : decode B pc = .ok (.if_icmp .le o, 3)) (hn : pc + 3 = pn) (ho : 0 ≤ (pc : Int) + o) (ht : ((pc : Int) + o).toNat = pt) (ky : ¬ y.toInt < x.toInt → W K h cl sl pt L st) (kn : y.toInt < x.toInt → W K h cl sl pn L st) : W K h cl sl pc L (.int y :: .int x :: st) := by
  by_cases q : y < x
  · exact W.step (fun T locs X e t z => XS.icmpNo X.here O.1 rfl (hb O.2.1 hd) rfl (tlt q).2.2.2 (by rw [← hn] at z; exact z)) (kn (Int32.lt_iff_toInt_lt.mp q))
  · exact W.step (fun T locs X e t z => XS.icmpYes X.here O.1 rfl rfl (hb O.2.1 hd) rfl (flt q).2.2.2 ho ht z) (ky fun w => q (Int32.lt_iff_toInt_lt.mpr w))
theorem w_if_le (O : Ok K l Z a0 ts B ml rt own nm R n0 Q) {o : Int} {x : Int32} {pt pn : Nat} (hd : decode B pc = .ok (.ifCond .le o, 3)) (hn : pc + 3 = pn) (ho : 0 ≤ (pc : Int) + o) (ht : ((pc : Int) + o).toNat = pt) (ky : ¬ 0 < x.toInt → W K h cl sl pt L st) (kn : 0 < x.toInt → W K h cl sl pn L st) : W K h cl sl pc L (.int x :: st) := by
  have e0 : (0 : Int32).toInt = 0 := by decide
  by_cases q : 0 < x
  · exact W.step (fun T locs X e t z => XS.ifNo X.here O.1 rfl (hb O.2.1 hd) rfl ((if0 _ _).trans (tlt q).2.2.2) (by rw [← hn] at z; exact z)) (kn (by rw [← e0]; exact (Int32.lt_iff_toInt_lt.mp q)))
  · exact W.step (fun T locs X e t z => XS.ifYes X.here O.1 rfl rfl (hb O.2.1 hd) rfl ((if0 _ _).trans (flt q).2.2.2) ho ht z) (ky fun w => q (by rw [← e0] at w; exact (Int32.lt_iff_toInt_lt.mpr w)))
theorem lcb_le {x y : Int64} : 0 < (lcmpW x y).toInt ↔ y.toInt < x.toInt := by
  have e0 : (0 : Int32).toInt = 0 := by decide
  rw [← e0]
  exact (Int32.lt_iff_toInt_lt.symm).trans ((lw_gt x y).trans Int64.lt_iff_toInt_lt)
theorem w_lcmp_le (O : Ok K l Z a0 ts B ml rt own nm R n0 Q) {o : Int} {x y : Int64} {pi pt pn : Nat} (hd : decode B pc = .ok (.lcmp, 1)) (hi : pc + 1 = pi) (hd2 : decode B pi = .ok (.ifCond .le o, 3)) (hn : pi + 3 = pn) (ho : 0 ≤ (pi : Int) + o) (ht : ((pi : Int) + o).toNat = pt) (ky : ¬ y.toInt < x.toInt → W K h cl sl pt L st) (kn : y.toInt < x.toInt → W K h cl sl pn L st) : W K h cl sl pc L (.long y :: .long x :: st) := by
  subst hi
  exact W.step (fun T locs X e t q => XS.lcmp X.here O.1 rfl (hb O.2.1 hd) rfl q) (w_if_le O hd2 hn ho ht (fun q => ky fun w => q (lcb_le.mpr w)) (fun q => kn (lcb_le.mp q)))
theorem w_ifnullY (O : Ok K l Z a0 ts B ml rt own nm R n0 Q) {o : Int} (hd : decode B pc = .ok (.ifnull o, 3)) (ho : 0 ≤ (pc : Int) + o) (ht : ((pc : Int) + o).toNat = pc') (k : W K h cl sl pc' L st) : W K h cl sl pc L (.null :: st) := W.step (fun T locs X e t q => XS.ifnullYes X.here O.1 rfl rfl (hb O.2.1 hd) rfl ho ht q) k
theorem w_ifnullN (O : Ok K l Z a0 ts B ml rt own nm R n0 Q) {o : Int} {b : Addr} (hd : decode B pc = .ok (.ifnull o, 3)) (hp : pc + 3 = pc') (k : W K h cl sl pc' L st) : W K h cl sl pc L (.ref b :: st) := by
  subst hp; exact W.step (fun T locs X e t q => XS.ifnullNo X.here O.1 rfl (hb O.2.1 hd) rfl q) k
theorem w_ifnonnullY (O : Ok K l Z a0 ts B ml rt own nm R n0 Q) {o : Int} {b : Addr} (hd : decode B pc = .ok (.ifnonnull o, 3)) (ho : 0 ≤ (pc : Int) + o) (ht : ((pc : Int) + o).toNat = pc') (k : W K h cl sl pc' L st) : W K h cl sl pc L (.ref b :: st) := W.step (fun T locs X e t q => XS.ifnonnullYes X.here O.1 rfl rfl (hb O.2.1 hd) rfl ho ht q) k
theorem w_ifnonnullN (O : Ok K l Z a0 ts B ml rt own nm R n0 Q) {o : Int} (hd : decode B pc = .ok (.ifnonnull o, 3)) (hp : pc + 3 = pc') (k : W K h cl sl pc' L st) : W K h cl sl pc L (.null :: st) := by
  subst hp; exact W.step (fun T locs X e t q => XS.ifnonnullNo X.here O.1 rfl (hb O.2.1 hd) rfl q) k
theorem w_acmp_eq (O : Ok K l Z a0 ts B ml rt own nm R n0 Q) {o : Int} {x y : Value} {pt pn : Nat} (hd : decode B pc = .ok (.if_acmp .eq o, 3)) (hx' : x.isRef = true) (hy' : y.isRef = true) (hn : pc + 3 = pn) (ho : 0 ≤ (pc : Int) + o) (ht : ((pc : Int) + o).toNat = pt) (ky : x = y → W K h cl sl pt L st) (kn : ¬ x = y → W K h cl sl pn L st) : W K h cl sl pc L (y :: x :: st) := by
  by_cases q : x = y
  · exact W.step (fun T locs X e t z => Jvm.RoadKit.acmp (g := mkF K.2.1.2.1 pc L (y :: x :: st)) X O.1 rfl hx' hy' (pc0 := pc) (pc' := pt) (same := true) rfl (hb O.2.1 hd) rfl (decide_eq_true q) ho (by simp [acV, ht, hn]) z) (ky q)
  · exact W.step (fun T locs X e t z => Jvm.RoadKit.acmp (g := mkF K.2.1.2.1 pc L (y :: x :: st)) X O.1 rfl hx' hy' (pc0 := pc) (pc' := pn) (same := false) rfl (hb O.2.1 hd) rfl (decide_eq_false q) ho (by simp [acV, ht, hn]) z) (kn q)
theorem w_acmp_ne (O : Ok K l Z a0 ts B ml rt own nm R n0 Q) {o : Int} {x y : Value} {pt pn : Nat} (hd : decode B pc = .ok (.if_acmp .ne o, 3)) (hx' : x.isRef = true) (hy' : y.isRef = true) (hn : pc + 3 = pn) (ho : 0 ≤ (pc : Int) + o) (ht : ((pc : Int) + o).toNat = pt) (ky : ¬ x = y → W K h cl sl pt L st) (kn : x = y → W K h cl sl pn L st) : W K h cl sl pc L (y :: x :: st) := by
  by_cases q : x = y
  · exact W.step (fun T locs X e t z => Jvm.RoadKit.acmp (g := mkF K.2.1.2.1 pc L (y :: x :: st)) X O.1 rfl hx' hy' (pc0 := pc) (pc' := pn) (same := true) rfl (hb O.2.1 hd) rfl (decide_eq_true q) ho (by simp [acV, ht, hn]) z) (kn q)
  · exact W.step (fun T locs X e t z => Jvm.RoadKit.acmp (g := mkF K.2.1.2.1 pc L (y :: x :: st)) X O.1 rfl hx' hy' (pc0 := pc) (pc' := pt) (same := false) rfl (hb O.2.1 hd) rfl (decide_eq_false q) ho (by simp [acV, ht, hn]) z) (ky q)
theorem w_getf (O : Ok K l Z a0 ts B ml rt own nm R n0 Q) {i : Nat} {C f d : String} {a : Addr} {v : Value} (hd : decode B pc = .ok (.getfield i, 3)) (hp : pc + 3 = pc') (w : Jvm.Cond.fieldLink own i C f d ∈ ts) (F : Fld Z h a C f d v) (k : W K h cl sl pc' L (v :: st)) : W K h cl sl pc L (.ref a :: st) := by
  subst hp
  exact W.stepT (fun T locs X e => getF X O.1 O.2.2.2.2.2.2.2.1 O.2.2.2.1 (host := "") (Or.inl (O.2.2.2.2.2.2.2.2.1 _ w)) Via.refl e F (g := mkF K.2.1.2.1 pc L (.ref a :: st)) rfl rfl (hb O.2.1 hd)) k
theorem w_gets (O : Ok K l Z a0 ts B ml rt own nm R n0 Q) {i : Nat} {C f d : String} {v : Value} (hd : decode B pc = .ok (.getstatic i, 3)) (hp : pc + 3 = pc') (w : Jvm.Cond.fieldLink own i C f d ∈ ts) (F : Sta Z h C f d v) (k : W K h cl sl pc' L (v :: st)) : W K h cl sl pc L st := by
  subst hp
  exact W.stepT (fun T locs X e => getS2 X O.1 O.2.2.2.2.2.2.2.1 O.2.2.2.1 (host := "") (Or.inl (O.2.2.2.2.2.2.2.2.1 _ w)) Via.refl e F (g := mkF K.2.1.2.1 pc L st) rfl (hb O.2.1 hd)) k
theorem w_putf (O : Ok K l Z a0 ts B ml rt own nm R n0 Q) {i kk : Nat} {C f d : String} {a : Addr} {v old : Value} {ty : FieldType} (hd : decode B pc = .ok (.putfield i, 3)) (hp : pc + 3 = pc') (w : Jvm.Cond.fieldLink own i C f d ∈ ts) (wi : Jvm.Cond.instantiable C kk ∈ ts) (Ly : Jvm.Cond.lays C C f d ∈ ts ∨ (Jvm.Cond.laysFinal C C f d ∈ ts ∧ own = C ∧ nm = "<init>")) (F : Fld Z h a C f d old) (E : Exa Z h a C) (ha : n0 ≤ a) (hty : parseFieldDescriptor d = some ty) (hn : narrow ty v = v) (hf : fits ty v = true)
    (k : ∀ h', Wr h h' a (Jvm.RoadKit.slotOf Z C f d) v → W K h' cl sl pc' L st) : W K h cl sl pc L (v :: .ref a :: st) := by
  subst hp
  have hw := O.2.2.2.2.2.2.2.2.1
  exact W.stepW (fun T locs X e => putF X O.1 O.2.2.2.2.2.2.2.1 O.2.2.2.1 (host := "") (Or.inl (hw _ w)) Via.refl e F E (Ly.imp (fun q => hw _ q) fun q => ⟨hw _ q.1, q.2.1, O.2.2.2.2.1.trans q.2.2⟩) (hw _ wi) hty hn hf (g := mkF K.2.1.2.1 pc L (v :: .ref a :: st)) rfl rfl (hb O.2.1 hd)) (by rw [O.2.2.2.2.2.2.2.2.2.2.2.2.1]; exact ha) k
theorem w_new (O : Ok K l Z a0 ts B ml rt own nm R n0 Q) {i n cl' sl' : Nat} {C : String} (hd : decode B pc = .ok (.new i, 3)) (hp : pc + 3 = pc') (w1 : Jvm.Cond.classLink own i C ∈ ts) (w2 : Jvm.Cond.instantiable C n ∈ ts) (w3 : Jvm.Cond.initialized C ∈ ts) (hc : cl + 1 = cl') (hs : sl + n = sl') (hc' : cl' ≤ R.cells) (hs' : sl' ≤ R.slots)
    (k : ∀ h' b, b = h.size → n0 ≤ b → Ext h h' → Exa Z h' b C → (∀ {Ow nf d : String} {ty : FieldType}, Laid Z a0 C Ow nf d → parseFieldDescriptor d = some ty → Fld Z h' b Ow nf d (defaultValue ty)) → W K h' cl' sl' pc' L (.ref b :: st)) : W K h cl sl pc L st := by
  obtain ⟨⟨p, l', e', R'⟩, ⟨s, m, args, below⟩, ⟨meth, c⟩, Q', n0'⟩ := K
  obtain ⟨hx, hby, hml, hown, hnm, hrt, hlk, hZ, hw, hn0, hl', hR', hn', hQ'⟩ := O
  dsimp only at hx hby hml hown hnm hrt hlk hZ hn0 hl' hR' hn' hQ'
  subst hl' hR' hn' hQ'
  subst hp hc hs
  intro T locs X eT N
  obtain ⟨T2, h2, X2, e2, E2, A2, D2, -, st2⟩ := newO X hx hZ hown (hw _ w1) (hw _ w2) (hw _ w3) eT (g := mkF m pc L st) rfl (hb hby hd) hc' hs'
  obtain ⟨s2, o, h1, r⟩ := k h2 h.size rfl (Nat.le_trans hn0 (by rw [← eT]; exact X.same.2.1)) E2 A2 D2 T2 _ X2 e2 N
  exact ⟨s2, o, st2 _ h1, r⟩
theorem w_objinit (O : Ok K l Z a0 ts B ml rt own nm R n0 Q) {i wt : Nat} {a : Addr} (hd : decode B pc = .ok (.invokespecial i, 3)) (hp : pc + 3 = pc') (w1 : Jvm.Cond.methodLink own i Lib.objectInit ∈ ts) (w2 : Jvm.Cond.instanceMethod Lib.objectInit ∈ ts) (w3 : Jvm.Cond.code Lib.objectInit ⟨#[0xb1]⟩ 1 none ∈ ts) (hsz : L.size = ml) (hwt : (st.map fun v => v.category).sum = wt) (hf : 1 ≤ R.frames) (hl : wt + 12 ≤ R.locals) (k : W K h cl sl pc' L st) : W K h cl sl pc L (.ref a :: st) := by
  obtain ⟨⟨p, l', e', R'⟩, ⟨s, m, args, below⟩, ⟨meth, c⟩, Q', n0'⟩ := K
  obtain ⟨hx, hby, hml, hown, hnm, hrt, hlk, hZ, hw, hn0, hl', hR', hn', hQ'⟩ := O
  dsimp only at hx hby hml hown hnm hrt hlk hZ hn0 hl' hR' hn' hQ'
  subst hl' hR' hn' hQ'
  subst hp hml
  exact W.stepT (fun T locs X e => initO X hx hZ hown (hw _ w1) (hw _ w2) (hw _ w3) e (g := mkF m pc L (.ref a :: st)) rfl hsz rfl (hb hby hd) hf (W := wt) (by show 2 * 0 + _ ≤ _; omega) hl) k
/-- an array of n places, the i-th holds f i -/
def Afn (Z : State) (h : Heap) (a : Addr) (ty : FieldType) (n : Nat) (f : Nat → Value) : Prop := ∃ c : Cell, Arr Z h a c ty ∧ c.slots.size = n ∧ n < 2147483648 ∧ ∀ i, i < n → c.slots[i]? = some (f i)
def upd (f : Nat → Value) (i : Nat) (v : Value) : Nat → Value := fun j => if j = i then v else f j
theorem Afn.lt {a : Addr} {ty : FieldType} {n : Nat} {f : Nat → Value} (A : Afn Z h a ty n f) : a < h.size := by obtain ⟨c, A, -⟩ := A; exact A.lt
theorem Afn.bound {a : Addr} {ty : FieldType} {n : Nat} {f : Nat → Value} (A : Afn Z h a ty n f) : n < 2147483648 := by obtain ⟨c, -, -, q, -⟩ := A; exact q
theorem upd_same (f : Nat → Value) (i : Nat) (v : Value) : upd f i v i = v := if_pos rfl
theorem upd_ne (f : Nat → Value) {i j : Nat} (v : Value) (q : ¬ j = i) : upd f i v j = f j := if_neg q
theorem Afn.ext {h' : Heap} {a : Addr} {ty : FieldType} {n : Nat} {f : Nat → Value} (A : Afn Z h a ty n f) (E : Ext h h') : Afn Z h' a ty n f := by obtain ⟨c, A, r⟩ := A; exact ⟨c, A.ext E, r⟩
theorem Afn.other {h' : Heap} {a b : Addr} {i : Nat} {v : Value} {ty : FieldType} {n : Nat} {f : Nat → Value} (A : Afn Z h b ty n f) (Wq : Wr h h' a i v) (q : b ≠ a) : Afn Z h' b ty n f := by obtain ⟨c, A, r⟩ := A; exact ⟨c, A.other Wq q, r⟩
theorem Afn.keep {h' : Heap} {a : Addr} {ws : List Addr} {ty : FieldType} {n : Nat} {f : Nat → Value} (A : Afn Z h a ty n f) (Kp : Keep h h' ws) (q : a ∉ ws) : Afn Z h' a ty n f := by obtain ⟨c, A, r⟩ := A; exact ⟨c, ⟨Kp.2.1 a c A.1 q, A.2⟩, r⟩
theorem Afn.congr {a : Addr} {ty : FieldType} {n : Nat} {f g : Nat → Value} (A : Afn Z h a ty n f) (q : ∀ i, i < n → f i = g i) : Afn Z h a ty n g := by obtain ⟨c, A, h1, h2, h3⟩ := A; exact ⟨c, A, h1, h2, fun i hi => by rw [← q i hi]; exact h3 i hi⟩
theorem Afn.set {h' : Heap} {a : Addr} {i : Nat} {v : Value} {ty : FieldType} {n : Nat} {f : Nat → Value} (A : Afn Z h a ty n f) (Wq : Wr h h' a i v) : Afn Z h' a ty n (upd f i v) := by
  obtain ⟨c, A, h1, h2, h3⟩ := A
  refine ⟨_, A.same Wq, by simp [Cell.setSlot, h1], h2, fun j hj => ?_⟩
  by_cases q : j = i
  · subst q
    simp [Cell.setSlot, upd, h1, hj]
  · simp only [upd, if_neg q]
    show (c.slots.setIfInBounds i v)[j]? = _
    rw [Array.getElem?_setIfInBounds_ne (fun z => q z.symm)]; exact h3 j hj
theorem tnc {j : Int32} {i : Nat} (hj : j.toInt = (i : Int)) : j.toNatClampNeg = i ∧ ¬ j < 0 := by
  have e0 : (0 : Int32).toInt = 0 := by decide
  have q : ¬ j < 0 := by rw [Int32.lt_iff_toInt_lt, e0]; omega
  have := nat_of q
  exact ⟨by omega, q⟩
theorem idxOk {c : Cell} {n : Nat} {j : Int32} {i : Nat} (hs : c.slots.size = n) (hj : j.toInt = (i : Int)) (hi : i < n) : ¬ (j < 0 ∨ c.slots.size ≤ j.toNatClampNeg) := by
  obtain ⟨q1, q2⟩ := tnc hj
  rintro (z | z)
  · exact q2 z
  · omega

theorem w_iaload (O : Ok K l Z a0 ts B ml rt own nm R n0 Q) {a : Addr} {n i : Nat} {f : Nat → Value} {j : Int32} {x : Int32} (hd : decode B pc = .ok (.iaload, 1)) (hp : pc + 1 = pc') (A : Afn Z h a .int n f) (hj : j.toInt = (i : Int)) (hi : i < n) (hv : f i = .int x) (k : W K h cl sl pc' L (.int x :: st)) : W K h cl sl pc L (.int j :: .ref a :: st) := by
  subst hp
  obtain ⟨c, A, h1, h2, h3⟩ := A
  refine W.step (fun T locs X e t q => X.iaload O.1 (j := j) (v := .int x) (by rw [e]; exact A.1) (State.isArrayOf_alike O.2.2.2.2.2.2.2.1.alike A.2.1) A.2.2 (idxOk h1 hj hi) (by rw [(tnc hj).1, h3 i hi, hv]) (g := mkF K.2.1.2.1 pc L (.int j :: .ref a :: st)) rfl rfl (hb O.2.1 hd) _ q) k
theorem w_laload (O : Ok K l Z a0 ts B ml rt own nm R n0 Q) {a : Addr} {n i : Nat} {f : Nat → Value} {j : Int32} {x : Int64} (hd : decode B pc = .ok (.laload, 1)) (hp : pc + 1 = pc') (A : Afn Z h a .long n f) (hj : j.toInt = (i : Int)) (hi : i < n) (hv : f i = .long x) (k : W K h cl sl pc' L (.long x :: st)) : W K h cl sl pc L (.int j :: .ref a :: st) := by
  subst hp
  obtain ⟨c, A, h1, h2, h3⟩ := A
  refine W.step (fun T locs X e t q => X.laload O.1 (j := j) (v := .long x) (by rw [e]; exact A.1) (State.isArrayOf_alike O.2.2.2.2.2.2.2.1.alike A.2.1) A.2.2 (idxOk h1 hj hi) (by rw [(tnc hj).1, h3 i hi, hv]) (g := mkF K.2.1.2.1 pc L (.int j :: .ref a :: st)) rfl rfl (hb O.2.1 hd) _ q) k
theorem w_baload (O : Ok K l Z a0 ts B ml rt own nm R n0 Q) {a : Addr} {n i : Nat} {f : Nat → Value} {j : Int32} {x : Int32} (hd : decode B pc = .ok (.baload, 1)) (hp : pc + 1 = pc') (A : Afn Z h a .byte n f) (hj : j.toInt = (i : Int)) (hi : i < n) (hv : f i = .int x) (k : W K h cl sl pc' L (.int x :: st)) : W K h cl sl pc L (.int j :: .ref a :: st) := by
  subst hp
  obtain ⟨c, A, h1, h2, h3⟩ := A
  refine W.step (fun T locs X e t q => X.baloadBytes O.1 (j := j) (v := .int x) (by rw [e]; exact A.1) (State.isArrayOf_alike O.2.2.2.2.2.2.2.1.alike A.2.1) A.2.2 (idxOk h1 hj hi) (by rw [(tnc hj).1, h3 i hi, hv]) (g := mkF K.2.1.2.1 pc L (.int j :: .ref a :: st)) rfl rfl (hb O.2.1 hd) _ q) k
theorem w_caload (O : Ok K l Z a0 ts B ml rt own nm R n0 Q) {a : Addr} {n i : Nat} {f : Nat → Value} {j : Int32} {x : Int32} (hd : decode B pc = .ok (.caload, 1)) (hp : pc + 1 = pc') (A : Afn Z h a .char n f) (hj : j.toInt = (i : Int)) (hi : i < n) (hv : f i = .int x) (k : W K h cl sl pc' L (.int x :: st)) : W K h cl sl pc L (.int j :: .ref a :: st) := by
  subst hp
  obtain ⟨c, A, h1, h2, h3⟩ := A
  refine W.step (fun T locs X e t q => X.caload O.1 (j := j) (v := .int x) (by rw [e]; exact A.1) (State.isArrayOf_alike O.2.2.2.2.2.2.2.1.alike A.2.1) A.2.2 (idxOk h1 hj hi) (by rw [(tnc hj).1, h3 i hi, hv]) (g := mkF K.2.1.2.1 pc L (.int j :: .ref a :: st)) rfl rfl (hb O.2.1 hd) _ q) k
theorem w_aaload (O : Ok K l Z a0 ts B ml rt own nm R n0 Q) {a : Addr} {n i : Nat} {f : Nat → Value} {j : Int32} {x : Value} {ty : FieldType} (hd : decode B pc = .ok (.aaload, 1)) (hp : pc + 1 = pc') (A : Afn Z h a ty n f) (hty : ty.isReference = true) (hj : j.toInt = (i : Int)) (hi : i < n) (hv : f i = x) (k : W K h cl sl pc' L (x :: st)) : W K h cl sl pc L (.int j :: .ref a :: st) := by
  subst hp
  obtain ⟨c, A, h1, h2, h3⟩ := A
  refine W.step (fun T locs X e t q => X.aaload O.1 (j := j) (v := x) (by rw [e]; exact A.1) (State.isArrayOf_alike O.2.2.2.2.2.2.2.1.alike A.2.1) hty A.2.2 (idxOk h1 hj hi) (by rw [(tnc hj).1, h3 i hi, hv]) (g := mkF K.2.1.2.1 pc L (.int j :: .ref a :: st)) rfl rfl (hb O.2.1 hd) _ q) k
theorem w_iastore (O : Ok K l Z a0 ts B ml rt own nm R n0 Q) {a : Addr} {n i : Nat} {f : Nat → Value} {j : Int32} {x : Int32} (hd : decode B pc = .ok (.iastore, 1)) (hp : pc + 1 = pc') (A : Afn Z h a .int n f) (hj : j.toInt = (i : Int)) (hi : i < n) (ha : n0 ≤ a) (k : ∀ h', Wr h h' a i (.int x) → W K h' cl sl pc' L st) : W K h cl sl pc L (.int x :: .int j :: .ref a :: st) := by
  subst hp
  obtain ⟨c, A, h1, h2, h3⟩ := A
  rw [← (tnc hj).1] at k
  exact W.stepW (fun T locs X e => stI X O.1 O.2.2.2.2.2.2.2.1 e A (j := j) (idxOk h1 hj hi) (g := mkF K.2.1.2.1 pc L (.int x :: .int j :: .ref a :: st)) rfl rfl (hb O.2.1 hd)) (by rw [O.2.2.2.2.2.2.2.2.2.2.2.2.1]; exact ha) k
theorem w_lastore (O : Ok K l Z a0 ts B ml rt own nm R n0 Q) {a : Addr} {n i : Nat} {f : Nat → Value} {j : Int32} {x : Int64} (hd : decode B pc = .ok (.lastore, 1)) (hp : pc + 1 = pc') (A : Afn Z h a .long n f) (hj : j.toInt = (i : Int)) (hi : i < n) (ha : n0 ≤ a) (k : ∀ h', Wr h h' a i (.long x) → W K h' cl sl pc' L st) : W K h cl sl pc L (.long x :: .int j :: .ref a :: st) := by
  subst hp
  obtain ⟨c, A, h1, h2, h3⟩ := A
  rw [← (tnc hj).1] at k
  exact W.stepW (fun T locs X e => stJ X O.1 O.2.2.2.2.2.2.2.1 e A (j := j) (idxOk h1 hj hi) (g := mkF K.2.1.2.1 pc L (.long x :: .int j :: .ref a :: st)) rfl rfl (hb O.2.1 hd)) (by rw [O.2.2.2.2.2.2.2.2.2.2.2.2.1]; exact ha) k
theorem w_bastore (O : Ok K l Z a0 ts B ml rt own nm R n0 Q) {a : Addr} {n i : Nat} {f : Nat → Value} {j : Int32} {x : Int32} (hd : decode B pc = .ok (.bastore, 1)) (hp : pc + 1 = pc') (A : Afn Z h a .byte n f) (hj : j.toInt = (i : Int)) (hi : i < n) (ha : n0 ≤ a) (k : ∀ h', Wr h h' a i (.int (nar .byte x)) → W K h' cl sl pc' L st) : W K h cl sl pc L (.int x :: .int j :: .ref a :: st) := by
  subst hp
  obtain ⟨c, A, h1, h2, h3⟩ := A
  rw [← (tnc hj).1] at k
  exact W.stepW (fun T locs X e => stB X O.1 O.2.2.2.2.2.2.2.1 e A (j := j) (idxOk h1 hj hi) (g := mkF K.2.1.2.1 pc L (.int x :: .int j :: .ref a :: st)) rfl rfl (hb O.2.1 hd)) (by rw [O.2.2.2.2.2.2.2.2.2.2.2.2.1]; exact ha) k
theorem w_castore (O : Ok K l Z a0 ts B ml rt own nm R n0 Q) {a : Addr} {n i : Nat} {f : Nat → Value} {j : Int32} {x : Int32} (hd : decode B pc = .ok (.castore, 1)) (hp : pc + 1 = pc') (A : Afn Z h a .char n f) (hj : j.toInt = (i : Int)) (hi : i < n) (ha : n0 ≤ a) (k : ∀ h', Wr h h' a i (.int (nar .char x)) → W K h' cl sl pc' L st) : W K h cl sl pc L (.int x :: .int j :: .ref a :: st) := by
  subst hp
  obtain ⟨c, A, h1, h2, h3⟩ := A
  rw [← (tnc hj).1] at k
  exact W.stepW (fun T locs X e => stC X O.1 O.2.2.2.2.2.2.2.1 e A (j := j) (idxOk h1 hj hi) (g := mkF K.2.1.2.1 pc L (.int x :: .int j :: .ref a :: st)) rfl rfl (hb O.2.1 hd)) (by rw [O.2.2.2.2.2.2.2.2.2.2.2.2.1]; exact ha) k
theorem w_alen (O : Ok K l Z a0 ts B ml rt own nm R n0 Q) {a : Addr} {n : Nat} {f : Nat → Value} {z : Int32} {ty : FieldType} (hd : decode B pc = .ok (.arraylength, 1)) (hp : pc + 1 = pc') (A : Afn Z h a ty n f) (hz : z.toInt = (n : Int)) (k : W K h cl sl pc' L (.int z :: st)) : W K h cl sl pc L (.ref a :: st) := by
  subst hp
  obtain ⟨c, A, h1, h2, h3⟩ := A
  have ez : c.slots.size.toInt32 = z := by
    have := (back32 (tnc hz).2).1
    rw [(tnc hz).1, ← h1] at this; exact this
  refine W.step (fun T locs X e t q => X.arraylength O.1 (by rw [e]; exact A.1) (State.isArrayOf_alike O.2.2.2.2.2.2.2.1.alike A.2.1) (g := mkF K.2.1.2.1 pc L (.ref a :: st)) rfl rfl (hb O.2.1 hd) _ (by rw [ez]; exact q)) k
theorem w_newarr (O : Ok K l Z a0 ts B ml rt own nm R n0 Q) {aty : ArrayType} {ty : FieldType} {dv : Value} {z : Int32} {n cap cl' sl' : Nat} (hd : decode B pc = .ok (.newarray aty, 2)) (hp : pc + 2 = pc') (hty : newarray.typeOf aty = ty) (hdv : defaultValue ty = dv) (w : Jvm.Cond.arrayClass ty ∈ ts) (hz : z.toInt = (n : Int)) (hcap : n ≤ cap) (hb8 : cap * 8 ≤ 536870912) (hc : cl + 1 = cl') (hs : sl + cap = sl') (hc' : cl' ≤ R.cells) (hs' : sl' ≤ R.slots)
    (k : ∀ h' b, b = h.size → n0 ≤ b → Ext h h' → Afn Z h' b ty n (fun _ => dv) → W K h' cl' sl' pc' L (.ref b :: st)) : W K h cl sl pc L (.int z :: st) := by
  obtain ⟨⟨p, l', e', R'⟩, ⟨s, m, args, below⟩, ⟨meth, c⟩, Q', n0'⟩ := K
  obtain ⟨hx, hby, hml, hown, hnm, hrt, hlk, hZ, hw, hn0, hl', hR', hn', hQ'⟩ := O
  dsimp only at hx hby hml hown hnm hrt hlk hZ hn0 hl' hR' hn' hQ'
  subst hl' hR' hn' hQ'
  subst hp hc hs hty hdv
  intro T locs X eT N
  obtain ⟨T2, h2, kA, X2, e2, E2, A2, st2⟩ := newP X hx hZ (hw _ w) eT (g := mkF m pc L (.int z :: st)) rfl (hb hby hd) rfl (tnc hz).2 (cap := cap) (by rw [(tnc hz).1]; exact hcap) hb8 hc' hs'
  have hsz : (newA kA (newarray.typeOf aty) z).slots.size = n := by rw [sz_new, (tnc hz).1]
  have hr := (rng32 z).2
  obtain ⟨s2, o, h1, r⟩ := k h2 h.size rfl (Nat.le_trans hn0 (by rw [← eT]; exact X.same.2.1)) E2 ⟨_, A2, hsz, by omega, fun i hi => by show (Array.replicate z.toNatClampNeg (defaultValue (newarray.typeOf aty)))[i]? = _; rw [Array.getElem?_replicate, if_pos (by rw [(tnc hz).1]; exact hi)]⟩ T2 _ X2 e2 N
  exact ⟨s2, o, st2 _ h1, r⟩
theorem w_newarrE (O : Ok K l Z a0 ts B ml rt own nm R n0 Q) {aty : ArrayType} {ty : FieldType} {ad : String} {dv : Value} {z : Int32} {n cap cl' sl' : Nat} (hd : decode B pc = .ok (.newarray aty, 2)) (hp : pc + 2 = pc') (hty : newarray.typeOf aty = ty) (hdv : defaultValue ty = dv) (had : "[" ++ (newarray.typeOf aty).toString = ad) (w : Jvm.Cond.arrayClass ty ∈ ts) (hz : z.toInt = (n : Int)) (hcap : n ≤ cap) (hb8 : cap * 8 ≤ 536870912) (hc : cl + 1 = cl') (hs : sl + cap = sl') (hc' : cl' ≤ R.cells) (hs' : sl' ≤ R.slots)
    (k : ∀ h' b, b = h.size → n0 ≤ b → Ext h h' → Afn Z h' b ty n (fun _ => dv) → Exa Z h' b ad → W K h' cl' sl' pc' L (.ref b :: st)) : W K h cl sl pc L (.int z :: st) := by
  obtain ⟨⟨p, l', e', R'⟩, ⟨s, m, args, below⟩, ⟨meth, c⟩, Q', n0'⟩ := K
  obtain ⟨hx, hby, hml, hown, hnm, hrt, hlk, hZ, hw, hn0, hl', hR', hn', hQ'⟩ := O
  dsimp only at hx hby hml hown hnm hrt hlk hZ hn0 hl' hR' hn' hQ'
  subst hl' hR' hn' hQ'
  subst hp hc hs hty hdv
  intro T locs X eT N
  obtain ⟨T2, h2, kA, X2, e2, E2, A2, Ex2, st2⟩ := newPE X hx hZ (hw _ w) eT (g := mkF m pc L (.int z :: st)) rfl (hb hby hd) rfl (tnc hz).2 (cap := cap) (by rw [(tnc hz).1]; exact hcap) hb8 hc' hs' had
  have hsz : (newA kA (newarray.typeOf aty) z).slots.size = n := by rw [sz_new, (tnc hz).1]
  have hr := (rng32 z).2
  obtain ⟨s2, o, h1, r⟩ := k h2 h.size rfl (Nat.le_trans hn0 (by rw [← eT]; exact X.same.2.1)) E2 ⟨_, A2, hsz, by omega, fun i hi => by show (Array.replicate z.toNatClampNeg (defaultValue (newarray.typeOf aty)))[i]? = _; rw [Array.getElem?_replicate, if_pos (by rw [(tnc hz).1]; exact hi)]⟩ Ex2 T2 _ X2 e2 N
  exact ⟨s2, o, st2 _ h1, r⟩
theorem w_clone (O : Ok K l Z a0 ts B ml rt own nm R n0 Q) {i wt n cap cl' sl' : Nat} {ad : String} {a : Addr} {ty : FieldType} {f : Nat → Value} (hd : decode B pc = .ok (.invokevirtual i, 3)) (hp : pc + 3 = pc') (w1 : Jvm.Cond.methodLink own i ⟨ad, "clone", "()Ljava/lang/Object;"⟩ ∈ ts) (w2 : Jvm.Cond.sameMethod ad "java/lang/Object" "clone" "()Ljava/lang/Object;" ∈ ts) (w3 : Jvm.Cond.native ⟨"java/lang/Object", "clone", "()Ljava/lang/Object;"⟩ ∈ ts) (w4 : Jvm.Cond.instanceMethod ⟨"java/lang/Object", "clone", "()Ljava/lang/Object;"⟩ ∈ ts) (w5 : Jvm.Cond.selects ad ⟨ad, "clone", "()Ljava/lang/Object;"⟩ ⟨"java/lang/Object", "clone", "()Ljava/lang/Object;"⟩ ∈ ts) (w6 : Jvm.Cond.castable ad "java/lang/Cloneable" ∈ ts)
    (A : Afn Z h a ty n f) (E : Exa Z h a ad) (hfit : ∀ i, i < n → fits ty (f i) = true) (hsz : L.size = ml) (hwt : (st.map fun v => v.category).sum = wt) (hf : 1 ≤ R.frames) (hl : wt + 14 ≤ R.locals) (hcap : n ≤ cap) (hc : cl + 1 = cl') (hs : sl + cap = sl') (hc' : cl' ≤ R.cells) (hs' : sl' ≤ R.slots)
    (k : ∀ h' b, b = h.size → n0 ≤ b → Ext h h' → Afn Z h' b ty n f → Exa Z h' b ad → W K h' cl' sl' pc' L (.ref b :: st)) : W K h cl sl pc L (.ref a :: st) := by
  obtain ⟨⟨p, l', e', R'⟩, ⟨s, m, args, below⟩, ⟨meth, c⟩, Q', n0'⟩ := K
  obtain ⟨hx, hby, hml, hown, hnm, hrt, hlk, hZ, hw, hn0, hl', hR', hn', hQ'⟩ := O
  dsimp only at hx hby hml hown hnm hrt hlk hZ hn0 hl' hR' hn' hQ'
  subst hl' hR' hn' hQ'
  subst hp hc hs hml
  intro T locs X eT N
  obtain ⟨cx, A1, h1, h2, h3⟩ := A
  have FC : FitC Z cx := fitC_of A1 fun i hi v hv => by rw [h1] at hi; rw [h3 i hi] at hv; cases hv; exact hfit i hi
  obtain ⟨T2, h4, X2, e2, E2, A2, Ex2, st2⟩ := cloneA X hx hZ hown (hw _ w1) (hw _ w2) (hw _ w3) (hw _ w4) (hw _ w5) (hw _ w6) eT A1 E FC (g := mkF m pc L (.ref a :: st)) rfl hsz rfl (hb hby hd) hf (W := wt) (cap := cap) (by show 2 * 0 + _ ≤ _; omega) hl (by rw [h1]; exact hcap) hc' hs'
  obtain ⟨s2, o, g1, r⟩ := k h4 h.size rfl (Nat.le_trans hn0 (by rw [← eT]; exact X.same.2.1)) E2 ⟨_, A2, h1, h2, h3⟩ Ex2 T2 _ X2 e2 N
  exact ⟨s2, o, st2 _ g1, r⟩
theorem w_cast (O : Ok K l Z a0 ts B ml rt own nm R n0 Q) {i : Nat} {C : String} {a : Addr} (hd : decode B pc = .ok (.checkcast i, 3)) (hp : pc + 3 = pc') (w : Jvm.Cond.classLink own i C ∈ ts) (I : Ins Z h a C true) (k : W K h cl sl pc' L (.ref a :: st)) : W K h cl sl pc L (.ref a :: st) := by
  subst hp
  exact W.stepT (fun T locs X e => castY X O.1 O.2.2.2.2.2.2.2.1 O.2.2.2.1 (O.2.2.2.2.2.2.2.2.1 _ w) e I (g := mkF K.2.1.2.1 pc L (.ref a :: st)) rfl rfl (hb O.2.1 hd)) k
/-- the array at a takes every C -/
def Tk (Z : State) (h : Heap) (a : Addr) (C : String) : Prop := ∃ (c : Cell) (k : Class) (comp : ClassId) (t : FieldType), h[a]? = some c ∧ Z.vm.classes[c.cls]? = some k ∧ k.kind = .array comp t ∧ Z.vm.findClass C = some comp
theorem Tk.lt {a : Addr} {C : String} (F : Tk Z h a C) : a < h.size := by obtain ⟨_, _, _, _, h1, -⟩ := F; exact (Array.getElem?_eq_some_iff.mp h1).1
theorem Tk.ext {h' : Heap} {a : Addr} {C : String} (F : Tk Z h a C) (E : Ext h h') : Tk Z h' a C := by obtain ⟨c, k, cp, t, h1, r⟩ := F; exact ⟨c, k, cp, t, E.2 _ _ h1, r⟩
theorem Tk.wr {h' : Heap} {a b : Addr} {C : String} {i : Nat} {v : Value} (F : Tk Z h a C) (Wq : Wr h h' b i v) : Tk Z h' a C := by
  obtain ⟨c, k, cp, t, h1, h2, r⟩ := F
  obtain ⟨d1, a1, a2, -⟩ := wr_at Wq h1
  exact ⟨d1, k, cp, t, a1, by rw [a2]; exact h2, r⟩
theorem Tk.keep {h' : Heap} {a : Addr} {C : String} {ws : List Addr} (F : Tk Z h a C) (Kp : Keep h h' ws) : Tk Z h' a C := by
  obtain ⟨c, k, cp, t, h1, h2, r⟩ := F
  obtain ⟨d1, a1, a2, -⟩ := Kp.2.2 a c h1
  exact ⟨d1, k, cp, t, a1, by rw [a2]; exact h2, r⟩
theorem Tk.sto {a y : Addr} {C : String} (F : Tk Z h a C) (I : Ins Z h y C true) : Sto Z h a (.ref y) := by
  obtain ⟨cl, k, comp, t, o0, o1, o2, o3⟩ := F
  obtain ⟨cv, cT, i1, i2, i3⟩ := I
  cases o3.symm.trans i2
  simp only [Bool.and_eq_true, Bool.not_eq_true'] at i3
  obtain ⟨kc, q⟩ := Vm.classAt_of_findClass o3
  obtain ⟨kv, q2⟩ := Vm.classAt_of_assignable i3.2 ⟨kc, q⟩
  exact Or.inr ⟨cl, cv, k, kv, kc, _, _, y, o0, o1, o2, q, rfl, i1, i3.1, q2, i3.2⟩
theorem w_anewarrA (O : Ok K l Z a0 ts B ml rt own nm R n0 Q) {i : Nat} {C ad : String} {ty : FieldType} {z : Int32} {n cap cl' sl' : Nat} (hd : decode B pc = .ok (.anewarray i, 3)) (hp : pc + 3 = pc') (hC : (FieldType.array ty).toString = C) (had : "[" ++ C = ad) (w1 : Jvm.Cond.classLink own i C ∈ ts) (w2 : Jvm.Cond.arrayOver (.array ty) ∈ ts) (hz : z.toInt = (n : Int)) (hcap : n ≤ cap) (hb8 : cap * 8 ≤ 536870912) (hc : cl + 1 = cl') (hs : sl + cap = sl') (hc' : cl' ≤ R.cells) (hs' : sl' ≤ R.slots)
    (k : ∀ h' b, b = h.size → n0 ≤ b → Ext h h' → Afn Z h' b (.array ty) n (fun _ => .null) → Exa Z h' b ad → Tk Z h' b C → W K h' cl' sl' pc' L (.ref b :: st)) : W K h cl sl pc L (.int z :: st) := by
  obtain ⟨⟨p, l', e', R'⟩, ⟨s, m, args, below⟩, ⟨meth, c⟩, Q', n0'⟩ := K
  obtain ⟨hx, hby, hml, hown, hnm, hrt, hlk, hZ, hw, hn0, hl', hR', hn', hQ'⟩ := O
  dsimp only at hx hby hml hown hnm hrt hlk hZ hn0 hl' hR' hn' hQ'
  subst hl' hR' hn' hQ'
  subst hp hc hs
  intro T locs X eT N
  obtain ⟨T2, h2, kA, X2, e2, E2, A2, Ex2, Ov2, st2⟩ := newRA X hx hZ hown hC (hw _ w1) (hw _ w2) eT (g := mkF m pc L (.int z :: st)) rfl (hb hby hd) rfl (tnc hz).2 (cap := cap) (by rw [(tnc hz).1]; exact hcap) hb8 hc' hs' had
  have hsz : (newA kA (.array ty) z).slots.size = n := by rw [sz_new, (tnc hz).1]
  have hr := (rng32 z).2
  obtain ⟨ko, cpo, o1, o2, o3⟩ := Ov2
  obtain ⟨s2, o, h1, r⟩ := k h2 h.size rfl (Nat.le_trans hn0 (by rw [← eT]; exact X.same.2.1)) E2 ⟨_, A2, hsz, by omega, fun i hi => by show (Array.replicate z.toNatClampNeg (defaultValue (.array ty)))[i]? = _; rw [Array.getElem?_replicate, if_pos (by rw [(tnc hz).1]; exact hi)]; rfl⟩ Ex2 ⟨_, ko, cpo, _, A2.1, o1, o2, o3⟩ T2 _ X2 e2 N
  exact ⟨s2, o, st2 _ h1, r⟩
theorem w_aastore (O : Ok K l Z a0 ts B ml rt own nm R n0 Q) {a : Addr} {n i : Nat} {f : Nat → Value} {j : Int32} {x : Value} {ty : FieldType} (hd : decode B pc = .ok (.aastore, 1)) (hp : pc + 1 = pc') (A : Afn Z h a ty n f) (hty : ty.isReference = true) (hj : j.toInt = (i : Int)) (hi : i < n) (ha : n0 ≤ a) (St : Sto Z h a x) (k : ∀ h', Wr h h' a i x → W K h' cl sl pc' L st) : W K h cl sl pc L (x :: .int j :: .ref a :: st) := by
  subst hp
  obtain ⟨c, A, h1, h2, h3⟩ := A
  rw [← (tnc hj).1] at k
  exact W.stepW (fun T locs X e => stR X O.1 O.2.2.2.2.2.2.2.1 e A (j := j) (idxOk h1 hj hi) hty St (g := mkF K.2.1.2.1 pc L (x :: .int j :: .ref a :: st)) rfl rfl (hb O.2.1 hd)) (by rw [O.2.2.2.2.2.2.2.2.2.2.2.2.1]; exact ha) k
theorem w_static (O : Ok K l Z a0 ts B ml rt own nm R n0 Q) {i ml' wt cl' sl' : Nat} {y : MethodName} {B' : ByteArray} {rt' : Option FieldType} {rm : Room} {as S : List Value} {Qc : Option Value → Heap → Prop} {sg : MethodDescriptor} (hd : decode B pc = .ok (.invokestatic i, 3)) (hp : pc + 3 = pc') (w1 : Jvm.Cond.methodLink own i y ∈ ts) (w2 : Jvm.Cond.static y ∈ ts) (w3 : Jvm.Cond.initialized y.cls ∈ ts) (w4 : Jvm.Cond.code y B' ml' rt' ∈ ts) (hy : y.cls ≠ "java/lang/invoke/MethodHandle" ∧ y.cls ≠ "java/lang/invoke/VarHandle")
    (con : Con l Z y B' ml' rt' rm as h n0 Qc) (hS : S = as.reverse ++ st) (hsg : parseMethodDescriptor y.desc = some sg) (hlen : as.length = sg.parameters.length) (hwt : (st.map fun v => v.category).sum = wt) (hsz : L.size = ml) (hf : rm.frames + 1 ≤ R.frames) (hl : wt + (ml' + 11) + rm.locals ≤ R.locals) (hc : cl + rm.cells = cl') (hs : sl + rm.slots = sl') (hc' : cl' ≤ R.cells) (hs' : sl' ≤ R.slots) (k : ∀ v h', Qc v h' → W K h' cl' sl' pc' L (v.toList ++ st)) : W K h cl sl pc L S := by
  obtain ⟨⟨p, l', e', R'⟩, ⟨s, m, args, below⟩, ⟨meth, c⟩, Q', n0'⟩ := K
  obtain ⟨hx, hby, hml, hown, hnm, hrt, hlk, hZ, hw, hn0, hl', hR', hn', hQ'⟩ := O
  dsimp only at hx hby hml hown hnm hrt hlk hZ hn0 hl' hR' hn' hQ'
  subst hl' hR' hn' hQ'
  subst hp hc hs hS hml
  intro T locs X eT N
  have hn1 : n0' ≤ h.size := Nat.le_trans hn0 (by rw [← eT]; exact X.same.2.1)
  obtain ⟨_, _, ⟨T', L', k', n'⟩, -, X', ⟨Lc, ⟨hQ, hFr⟩, l1, y1, z1⟩, st1⟩ := Jvm.LawKit.callS X hx (y := y) hown (mvT hZ (hw _ w1)) (mvT hZ (hw _ w2)) (mvT hZ (hw _ w3)) (mvT hZ (hw _ w4)) hy (backOf (W := wt) (Q := fun v h L => Qc v h ∧ Fr n0' L) (con hn1 []) hZ (hw _ w4) (hw _ w3) hf hl) (g := mkF m pc L (as.reverse ++ st)) rfl hsz (argsL := as) (rest := st) (lenOf hsg hlen) rfl (by show 2 * 0 + _ ≤ _; omega) (hb hby hd) (fun _ _ => ⟨rfl, eT, hc', hs'⟩)
  dsimp only [Pt.U, Pt.locs, Pt.cells, Pt.slots] at X' l1 y1 z1 st1 hQ
  subst l1 y1 z1
  obtain ⟨s2, o, h1, r⟩ := k _ T'.heap hQ T' _ X' rfl (Fr.app N hFr)
  exact ⟨s2, o, st1 _ h1, r⟩
theorem w_virtual (O : Ok K l Z a0 ts B ml rt own nm R n0 Q) {i ml' wt cl' sl' : Nat} {y : MethodName} {B' : ByteArray} {rt' : Option FieldType} {rm : Room} {as S : List Value} {Qc : Option Value → Heap → Prop} {sg : MethodDescriptor} {a : Addr} {C : String} (hd : decode B pc = .ok (.invokevirtual i, 3)) (hp : pc + 3 = pc') (w1 : Jvm.Cond.methodLink own i y ∈ ts) (w2 : Jvm.Cond.declares y ∈ ts) (w3 : Jvm.Cond.selects C y y ∈ ts) (w4 : Jvm.Cond.instanceMethod y ∈ ts) (w5 : Jvm.Cond.code y B' ml' rt' ∈ ts) (w6 : Jvm.Cond.initialized y.cls ∈ ts) (hy : y.cls ≠ "java/lang/invoke/MethodHandle" ∧ y.cls ≠ "java/lang/invoke/VarHandle") (E : Exa Z h a C)
    (con : Con l Z y B' ml' rt' rm (.ref a :: as) h n0 Qc) (hS : S = as.reverse ++ .ref a :: st) (hsg : parseMethodDescriptor y.desc = some sg) (hlen : as.length = sg.parameters.length) (hwt : (st.map fun v => v.category).sum = wt) (hsz : L.size = ml) (hf : rm.frames + 1 ≤ R.frames) (hl : wt + (ml' + 11) + rm.locals ≤ R.locals) (hc : cl + rm.cells = cl') (hs : sl + rm.slots = sl') (hc' : cl' ≤ R.cells) (hs' : sl' ≤ R.slots) (k : ∀ v h', Qc v h' → W K h' cl' sl' pc' L (v.toList ++ st)) : W K h cl sl pc L S := by
  obtain ⟨⟨p, l', e', R'⟩, ⟨s, m, args, below⟩, ⟨meth, c⟩, Q', n0'⟩ := K
  obtain ⟨hx, hby, hml, hown, hnm, hrt, hlk, hZ, hw, hn0, hl', hR', hn', hQ'⟩ := O
  dsimp only at hx hby hml hown hnm hrt hlk hZ hn0 hl' hR' hn' hQ'
  subst hl' hR' hn' hQ'
  subst hp hc hs hS hml
  intro T locs X eT N
  have hn1 : n0' ≤ h.size := Nat.le_trans hn0 (by rw [← eT]; exact X.same.2.1)
  obtain ⟨cq, kq, qa, qb, qc⟩ := isOf hZ eT E
  obtain ⟨_, _, ⟨T', L', k', n'⟩, -, X', ⟨Lc, ⟨hQ, hFr⟩, l1, y1, z1⟩, st1⟩ := X.virtualBack hx (y := y) (z := y) hown (mvT hZ (hw _ w1)) (mvT hZ (hw _ w2)) (notFace_of_selects (args := #[]) (mvT hZ (hw _ w3))) (mvT hZ (hw _ w3)) (mvT hZ (hw _ w4)) hy (backOf (W := wt) (Q := fun v h L => Qc v h ∧ Fr n0' L) (con hn1 []) hZ (hw _ w5) (hw _ w6) hf hl) qa qc (g := mkF m pc L (as.reverse ++ .ref a :: st)) rfl hsz (Steps.refl _) (argsL := as) (rest := st) (lenOf hsg hlen) rfl (by show 2 * 0 + _ ≤ _; omega) (hb hby hd) (fun _ _ => ⟨rfl, eT, hc', hs'⟩)
  dsimp only [Pt.U, Pt.locs, Pt.cells, Pt.slots] at X' l1 y1 z1 st1 hQ
  subst l1 y1 z1
  obtain ⟨s2, o, h1, r⟩ := k _ T'.heap hQ T' _ X' rfl (Fr.app N hFr)
  exact ⟨s2, o, st1.trans h1, r⟩
theorem w_private (O : Ok K l Z a0 ts B ml rt own nm R n0 Q) {i ml' wt cl' sl' : Nat} {y : MethodName} {B' : ByteArray} {rt' : Option FieldType} {rm : Room} {as S : List Value} {Qc : Option Value → Heap → Prop} {sg : MethodDescriptor} {kk : Nat} {a : Addr} {C : String} (hd : decode B pc = .ok (.invokevirtual i, 3)) (hp : pc + 3 = pc') (w1 : Jvm.Cond.methodLink own i y ∈ ts) (w2 : Jvm.Cond.instanceMethod y ∈ ts) (w3 : Jvm.Cond.privateMethod y ∈ ts) (w4 : Jvm.Cond.instantiable y.cls kk ∈ ts) (w5 : Jvm.Cond.code y B' ml' rt' ∈ ts) (w6 : Jvm.Cond.initialized y.cls ∈ ts) (hy : y.cls ≠ "java/lang/invoke/MethodHandle" ∧ y.cls ≠ "java/lang/invoke/VarHandle") (E : Exa Z h a C)
    (con : Con l Z y B' ml' rt' rm (.ref a :: as) h n0 Qc) (hS : S = as.reverse ++ .ref a :: st) (hsg : parseMethodDescriptor y.desc = some sg) (hlen : as.length = sg.parameters.length) (hwt : (st.map fun v => v.category).sum = wt) (hsz : L.size = ml) (hf : rm.frames + 1 ≤ R.frames) (hl : wt + (ml' + 11) + rm.locals ≤ R.locals) (hc : cl + rm.cells = cl') (hs : sl + rm.slots = sl') (hc' : cl' ≤ R.cells) (hs' : sl' ≤ R.slots) (k : ∀ v h', Qc v h' → W K h' cl' sl' pc' L (v.toList ++ st)) : W K h cl sl pc L S := by
  obtain ⟨⟨p, l', e', R'⟩, ⟨s, m, args, below⟩, ⟨meth, c⟩, Q', n0'⟩ := K
  obtain ⟨hx, hby, hml, hown, hnm, hrt, hlk, hZ, hw, hn0, hl', hR', hn', hQ'⟩ := O
  dsimp only at hx hby hml hown hnm hrt hlk hZ hn0 hl' hR' hn' hQ'
  subst hl' hR' hn' hQ'
  subst hp hc hs hS hml
  intro T locs X eT N
  have hn1 : n0' ≤ h.size := Nat.le_trans hn0 (by rw [← eT]; exact X.same.2.1)
  obtain ⟨cq, q1, q2⟩ := E.cell
  have hpr : s.PrivateAt y := Cond.privateMethod_at (mvP hZ (hw _ w3) (args := #[]))
  have hsel : (Jvm.Cond.selects y.cls y y).before args s = true := by
    obtain ⟨c1, k1, g1, g2, -, g3, -⟩ := Cond.instantiable_spec (mvT (args := args) hZ (hw _ w4))
    exact selects_self_of_private g1 g2 (by simp at g3; exact g3.1) hpr (mvT hZ (hw _ w2)) hy
  obtain ⟨_, _, ⟨T', L', k', n'⟩, -, X', ⟨Lc, ⟨hQ, hFr⟩, l1, y1, z1⟩, st1⟩ := X.privateBack hx (y := y) hown (mvT hZ (hw _ w1)) (mvT hZ (hw _ w2)) hsel hpr (mvT hZ (hw _ w5)) hy (backOf (W := wt) (Q := fun v h L => Qc v h ∧ Fr n0' L) (con hn1 []) hZ (hw _ w5) (hw _ w6) hf hl) (g := mkF m pc L (as.reverse ++ .ref a :: st)) rfl hsz (Steps.refl _) (a := a) (by rw [eT]; exact q1) q2 (argsL := as) (rest := st) (lenOf hsg hlen) rfl (by show 2 * 0 + _ ≤ _; omega) (hb hby hd) (fun _ _ => ⟨rfl, eT, hc', hs'⟩)
  dsimp only [Pt.U, Pt.locs, Pt.cells, Pt.slots] at X' l1 y1 z1 st1 hQ
  subst l1 y1 z1
  obtain ⟨s2, o, h1, r⟩ := k _ T'.heap hQ T' _ X' rfl (Fr.app N hFr)
  exact ⟨s2, o, st1.trans h1, r⟩
theorem w_init (O : Ok K l Z a0 ts B ml rt own nm R n0 Q) {i ml' wt cl' sl' : Nat} {y : MethodName} {B' : ByteArray} {rm : Room} {as S : List Value} {Qc : Option Value → Heap → Prop} {sg : MethodDescriptor} {a : Addr} (hd : decode B pc = .ok (.invokespecial i, 3)) (hp : pc + 3 = pc') (hin : y.name = "<init>") (w1 : Jvm.Cond.methodLink own i y ∈ ts) (w2 : Jvm.Cond.instanceMethod y ∈ ts) (w3 : Jvm.Cond.initialized y.cls ∈ ts) (w4 : Jvm.Cond.code y B' ml' none ∈ ts) (hy : y.cls ≠ "java/lang/invoke/MethodHandle" ∧ y.cls ≠ "java/lang/invoke/VarHandle")
    (con : Con l Z y B' ml' none rm (.ref a :: as) h n0 Qc) (hS : S = as.reverse ++ .ref a :: st) (hsg : parseMethodDescriptor y.desc = some sg) (hlen : as.length = sg.parameters.length) (hwt : (st.map fun v => v.category).sum = wt) (hsz : L.size = ml) (hf : rm.frames + 1 ≤ R.frames) (hl : wt + (ml' + 11) + rm.locals ≤ R.locals) (hc : cl + rm.cells = cl') (hs : sl + rm.slots = sl') (hc' : cl' ≤ R.cells) (hs' : sl' ≤ R.slots) (k : ∀ v h', Qc v h' → W K h' cl' sl' pc' L (v.toList ++ st)) : W K h cl sl pc L S := by
  obtain ⟨⟨p, l', e', R'⟩, ⟨s, m, args, below⟩, ⟨meth, c⟩, Q', n0'⟩ := K
  obtain ⟨hx, hby, hml, hown, hnm, hrt, hlk, hZ, hw, hn0, hl', hR', hn', hQ'⟩ := O
  dsimp only at hx hby hml hown hnm hrt hlk hZ hn0 hl' hR' hn' hQ'
  subst hl' hR' hn' hQ'
  subst hp hc hs hS hml
  intro T locs X eT N
  have hn1 : n0' ≤ h.size := Nat.le_trans hn0 (by rw [← eT]; exact X.same.2.1)
  obtain ⟨_, _, ⟨T', L', k', n'⟩, -, X', ⟨Lc, ⟨hQ, hFr⟩, l1, y1, z1⟩, st1⟩ := X.specialBack hx (y := y) hin hown (mvT hZ (hw _ w1)) (mvT hZ (hw _ w2)) (mvT hZ (hw _ w4)) hy (backOf (W := wt) (Q := fun v h L => Qc v h ∧ Fr n0' L) (con hn1 []) hZ (hw _ w4) (hw _ w3) hf hl) (g := mkF m pc L (as.reverse ++ .ref a :: st)) rfl hsz (Steps.refl _) (a := a) (argsL := as) (rest := st) (lenOf hsg hlen) rfl (by show 2 * 0 + _ ≤ _; omega) (hb hby hd) (fun _ _ => ⟨rfl, eT, hc', hs'⟩)
  dsimp only [Pt.U, Pt.locs, Pt.cells, Pt.slots] at X' l1 y1 z1 st1 hQ
  subst l1 y1 z1
  obtain ⟨s2, o, h1, r⟩ := k _ T'.heap hQ T' _ X' rfl (Fr.app N hFr)
  exact ⟨s2, o, st1.trans h1, r⟩
theorem w_initB (O : Ok K l Z a0 ts B ml rt own nm R n0 Q) {i ml' wt cl' sl' rc rs : Nat} {y : MethodName} {B' : ByteArray} {as S : List Value} {Qc : Option Value → Heap → List Loc → Prop} {sg : MethodDescriptor} {a : Addr} (hd : decode B pc = .ok (.invokespecial i, 3)) (hp : pc + 3 = pc') (hin : y.name = "<init>") (w1 : Jvm.Cond.methodLink own i y ∈ ts) (w2 : Jvm.Cond.instanceMethod y ∈ ts) (w4 : Jvm.Cond.code y B' ml' none ∈ ts) (hy : y.cls ≠ "java/lang/invoke/MethodHandle" ∧ y.cls ≠ "java/lang/invoke/VarHandle")
    (bk : n0 ≤ h.size → ∀ (p : Program) (e : Env) (below : List Frame) (s : State) (args : Array Value), Z.Warmed39 s.vm → Back l R p e below s args y 3 wt (fun P a' => a' = (Value.ref a :: as).toArray ∧ P.U.heap = h ∧ P.cells + rc ≤ R.cells ∧ P.slots + rs ≤ R.slots) (fun P _ v B => ∃ L, Qc v B.U.heap L ∧ B.locs = P.locs ++ L ∧ B.cells = P.cells + rc ∧ B.slots = P.slots + rs)) (hfr : ∀ v h' L, Qc v h' L → Fr n0 L)
    (hS : S = as.reverse ++ .ref a :: st) (hsg : parseMethodDescriptor y.desc = some sg) (hlen : as.length = sg.parameters.length) (hwt : (st.map fun v => v.category).sum = wt) (hsz : L.size = ml) (hc : cl + rc = cl') (hs : sl + rs = sl') (hc' : cl' ≤ R.cells) (hs' : sl' ≤ R.slots) (k : ∀ v h' Ls, Qc v h' Ls → W K h' cl' sl' pc' L (v.toList ++ st)) : W K h cl sl pc L S := by
  obtain ⟨⟨p, l', e', R'⟩, ⟨s, m, args, below⟩, ⟨meth, c⟩, Q', n0'⟩ := K
  obtain ⟨hx, hby, hml, hown, hnm, hrt, hlk, hZ, hw, hn0, hl', hR', hn', hQ'⟩ := O
  dsimp only at hx hby hml hown hnm hrt hlk hZ hn0 hl' hR' hn' hQ'
  subst hl' hR' hn' hQ'
  subst hp hc hs hS hml
  intro T locs X eT N
  have hn1 : n0' ≤ h.size := Nat.le_trans hn0 (by rw [← eT]; exact X.same.2.1)
  obtain ⟨_, _, ⟨T', L', k', n'⟩, -, X', ⟨Lc, hQ, l1, y1, z1⟩, st1⟩ := X.specialBack hx (y := y) hin hown (mvT hZ (hw _ w1)) (mvT hZ (hw _ w2)) (mvT hZ (hw _ w4)) hy (bk hn1 p e' below s args hZ) (g := mkF m pc L (as.reverse ++ .ref a :: st)) rfl hsz (Steps.refl _) (a := a) (argsL := as) (rest := st) (lenOf hsg hlen) rfl (by show 2 * 0 + _ ≤ _; omega) (hb hby hd) (fun _ _ => ⟨rfl, eT, hc', hs'⟩)
  dsimp only [Pt.U, Pt.locs, Pt.cells, Pt.slots] at X' l1 y1 z1 st1 hQ
  subst l1 y1 z1
  obtain ⟨s2, o, h1, r⟩ := k _ T'.heap _ hQ T' _ X' rfl (Fr.app N (hfr _ _ _ hQ))
  exact ⟨s2, o, st1.trans h1, r⟩
theorem Afn.arv {a : Addr} {ty : FieldType} {n : Nat} {f : Nat → Value} {N : Int32} {vs : List Value} {d : Value} (A : Afn Z h a ty n f) (hN : N.toInt = (n : Int)) (hv : ∀ i, i < n → vs.getD i d = f i) (hf : ∀ i, i < n → fits ty (f i) = true) : ∃ k, Arv Z h a k ty N vs d := by
  obtain ⟨c, A, h1, h2, h3⟩ := A
  refine ⟨c.cls, c, A, rfl, by rw [h1, (tnc hN).1], (tnc hN).2, fun i hi => ?_, fun i hi => ?_⟩
  · rw [h1] at hi; rw [hv i hi]; exact h3 i hi
  · rw [h1] at hi; rw [hv i hi]; exact hf i hi
theorem w_reti {x : Int32} (O : Ok K l Z a0 ts B ml (some .int) own nm R n0 Q) (hd : decode B pc = .ok (.ireturn, 1)) (hc : cl ≤ R.cells) (hs : sl ≤ R.slots) (hq : Q (some (.int x)) h) : W K h cl sl pc L (.int x :: st) := by
  obtain ⟨⟨p, l', e', R'⟩, ⟨s, m, args, below⟩, ⟨meth, c⟩, Q', n0'⟩ := K
  obtain ⟨hx, hby, hml, hown, hnm, hrt, hlk, hZ, hw, hn0, hl', hR', hn', hQ'⟩ := O
  dsimp only at hx hby hml hown hnm hrt hlk hZ hn0 hl' hR' hn' hQ'
  subst hl' hR' hn' hQ'
  intro T locs X eT N
  obtain ⟨fs, hr, hrun, hended, hW, hsame⟩ := X.leave (v := some (.int x)) (fun q => by rw [hrt] at q; cases q) hlk
  refine ⟨_, _, retOut X hx hrt rfl (Or.inl ⟨rfl, Or.inl rfl, _, rfl⟩) (hb hby hd) hr, hrun, hended, _, _, rfl, ⟨?_, N⟩, ⟨_, rfl⟩, hW, hsame.mono hc hs⟩
  show Q' _ T.heap
  rw [eT]; exact hq
theorem w_retz {x : Int32} (O : Ok K l Z a0 ts B ml (some .boolean) own nm R n0 Q) (hd : decode B pc = .ok (.ireturn, 1)) (hc : cl ≤ R.cells) (hs : sl ≤ R.slots) (hz : x = 0 ∨ x = 1) (hq : Q (some (.int x)) h) : W K h cl sl pc L (.int x :: st) := by
  have hna : narrow .boolean (.int x) = .int x := by rcases hz with rfl | rfl <;> rfl
  obtain ⟨⟨p, l', e', R'⟩, ⟨s, m, args, below⟩, ⟨meth, c⟩, Q', n0'⟩ := K
  obtain ⟨hx, hby, hml, hown, hnm, hrt, hlk, hZ, hw, hn0, hl', hR', hn', hQ'⟩ := O
  dsimp only at hx hby hml hown hnm hrt hlk hZ hn0 hl' hR' hn' hQ'
  subst hl' hR' hn' hQ'
  intro T locs X eT N
  obtain ⟨fs, hr, hrun, hended, hW, hsame⟩ := X.leave (v := some (.int x)) (fun q => by rw [hrt] at q; cases q) hlk
  refine ⟨_, _, retOut X hx hrt hna (Or.inl ⟨rfl, Or.inr (Or.inl rfl), _, rfl⟩) (hb hby hd) hr, hrun, hended, _, _, rfl, ⟨?_, N⟩, ⟨_, rfl⟩, hW, hsame.mono hc hs⟩
  show Q' _ T.heap
  rw [eT]; exact hq
theorem w_retl {x : Int64} (O : Ok K l Z a0 ts B ml (some .long) own nm R n0 Q) (hd : decode B pc = .ok (.lreturn, 1)) (hc : cl ≤ R.cells) (hs : sl ≤ R.slots) (hq : Q (some (.long x)) h) : W K h cl sl pc L (.long x :: st) := by
  obtain ⟨⟨p, l', e', R'⟩, ⟨s, m, args, below⟩, ⟨meth, c⟩, Q', n0'⟩ := K
  obtain ⟨hx, hby, hml, hown, hnm, hrt, hlk, hZ, hw, hn0, hl', hR', hn', hQ'⟩ := O
  dsimp only at hx hby hml hown hnm hrt hlk hZ hn0 hl' hR' hn' hQ'
  subst hl' hR' hn' hQ'
  intro T locs X eT N
  obtain ⟨fs, hr, hrun, hended, hW, hsame⟩ := X.leave (v := some (.long x)) (fun q => by rw [hrt] at q; cases q) hlk
  refine ⟨_, _, retOut X hx hrt rfl (Or.inr (Or.inl ⟨rfl, rfl, _, rfl⟩)) (hb hby hd) hr, hrun, hended, _, _, rfl, ⟨?_, N⟩, ⟨_, rfl⟩, hW, hsame.mono hc hs⟩
  show Q' _ T.heap
  rw [eT]; exact hq
theorem w_reta {x : Value} {t : FieldType} (O : Ok K l Z a0 ts B ml (some t) own nm R n0 Q) (hd : decode B pc = .ok (.areturn, 1)) (ht : t.isReference = true) (hna : narrow t x = x) (hx' : x.isRef = true) (hc : cl ≤ R.cells) (hs : sl ≤ R.slots) (hq : Q (some x) h) : W K h cl sl pc L (x :: st) := by
  obtain ⟨⟨p, l', e', R'⟩, ⟨s, m, args, below⟩, ⟨meth, c⟩, Q', n0'⟩ := K
  obtain ⟨hx, hby, hml, hown, hnm, hrt, hlk, hZ, hw, hn0, hl', hR', hn', hQ'⟩ := O
  dsimp only at hx hby hml hown hnm hrt hlk hZ hn0 hl' hR' hn' hQ'
  subst hl' hR' hn' hQ'
  intro T locs X eT N
  obtain ⟨fs, hr, hrun, hended, hW, hsame⟩ := X.leave (v := some x) (fun q => by rw [hrt] at q; cases q) hlk
  refine ⟨_, _, retOut X hx hrt hna (Or.inr (Or.inr (Or.inr (Or.inr ⟨rfl, ht, hx'⟩)))) (hb hby hd) hr, hrun, hended, _, _, rfl, ⟨?_, N⟩, ⟨_, rfl⟩, hW, hsame.mono hc hs⟩
  show Q' _ T.heap
  rw [eT]; exact hq
theorem w_retv (O : Ok K l Z a0 ts B ml none own nm R n0 Q) (hd : decode B pc = .ok (.return_, 1)) (hc : cl ≤ R.cells) (hs : sl ≤ R.slots) (hq : Q none h) : W K h cl sl pc L [] := by
  obtain ⟨⟨p, l', e', R'⟩, ⟨s, m, args, below⟩, ⟨meth, c⟩, Q', n0'⟩ := K
  obtain ⟨hx, hby, hml, hown, hnm, hrt, hlk, hZ, hw, hn0, hl', hR', hn', hQ'⟩ := O
  dsimp only at hx hby hml hown hnm hrt hlk hZ hn0 hl' hR' hn' hQ'
  subst hl' hR' hn' hQ'
  intro T locs X eT N
  obtain ⟨fs, hr, hrun, hended, hW, hsame⟩ := X.leave (v := none) (fun _ => rfl) hlk
  refine ⟨_, _, X.returnOut hx hrt (hb hby hd) hr, hrun, hended, _, _, rfl, ⟨?_, N⟩, ⟨_, rfl⟩, hW, hsame.mono hc hs⟩
  show Q' _ T.heap
  rw [eT]; exact hq
theorem nz32 {y : Int32} (q : ¬ y.toInt = 0) : y ≠ 0 := by rintro rfl; exact q (by decide)
theorem nz64 {y : Int64} (q : ¬ y.toInt = 0) : y ≠ 0 := by rintro rfl; exact q (by decide)
theorem of_nat32 {q : Int32} {n : Nat} (hn : q.toInt = (n : Int)) : q = Int32.ofNat n := by
  have h1 := rng32 q
  apply Int32.toInt_inj.mp
  rw [hn, Int32.toInt_ofNat_of_lt (by omega)]
theorem c_lremP (x y : Int64) (d : Int) (hy : y.toInt = d) : (0 ≤ x.toInt → (x % y).toInt = x.toInt % d) ∧ (x.toInt < 0 → (x % y).toInt = -((-x.toInt) % d)) := by rw [← lrem_mod]; exact c_lrem x y d hy
end OwnW

theorem mw {d : Jvm.Cond} (k : Nat) (q : tables_1[k]? = some d) : d ∈ tables_1 := List.mem_of_getElem? q
def updI (g : Nat → Int32) (i : Nat) (v : Int32) : Nat → Int32 := fun j => if j = i then v else g j
theorem updI_eq (g : Nat → Int32) (i : Nat) (v : Int32) (j : Nat) : upd (fun j => .int (g j)) i (.int v) j = .int (updI g i v j) := by unfold upd updI; split <;> rfl
def cntB (g : Nat → Int32) : Nat → Nat
  | 0 => 0
  | k + 1 => cntB g k + if (g k).toInt < 0 then 0 else 1
theorem cntB_le (g : Nat → Int32) : ∀ k, cntB g k ≤ k
  | 0 => Nat.le_refl _
  | k + 1 => by have := cntB_le g k; rw [cntB]; split <;> omega
theorem cntB_mono (g : Nat → Int32) (k : Nat) : ∀ d, cntB g k ≤ cntB g (k + d)
  | 0 => Nat.le_refl _
  | d + 1 => by have := cntB_mono g k d; rw [show k + (d + 1) = (k + d) + 1 by omega, cntB]; split <;> omega
theorem cntB_lt (g : Nat → Int32) {k n : Nat} (h : k < n) (q : ¬ (g k).toInt < 0) : cntB g k < cntB g n := by
  have h1 := cntB_mono g (k + 1) (n - (k + 1))
  rw [show k + 1 + (n - (k + 1)) = n by omega] at h1
  have h2 : cntB g (k + 1) = cntB g k + 1 := by rw [cntB, if_neg q]
  omega
/-- (position, gap, shift) behind the first k bytes -/
def dsB (g : Nat → Int32) : Nat → Int32 × Int32 × Int32
  | 0 => (-1, 0, 0)
  | k + 1 => if (g k).toInt < 0 then ((dsB g k).1, (dsB g k).2.1 ||| ((g k &&& 127) <<< ((dsB g k).2.2 &&& 31)), (dsB g k).2.2 + 7) else ((dsB g k).1 + (((dsB g k).2.1 ||| ((g k &&& 127) <<< ((dsB g k).2.2 &&& 31))) + 1), 0, 0)
/-- what is decoded behind the first k bytes -/
def outB (g : Nat → Int32) : Nat → Nat → Int32
  | 0 => fun _ => 0
  | k + 1 => if (g k).toInt < 0 then outB g k else updI (outB g k) (cntB g k) (dsB g (k + 1)).1
theorem d5_0 : decode prog_23_method_8_code 0 = .ok (.iconst 0, 1) := by decide +kernel
theorem d5_1 : decode prog_23_method_8_code 1 = .ok (.istore_n 1, 1) := by decide +kernel
theorem d5_2 : decode prog_23_method_8_code 2 = .ok (.aload_n 0, 1) := by decide +kernel
theorem d5_3 : decode prog_23_method_8_code 3 = .ok (.astore_n 2, 1) := by decide +kernel
theorem d5_4 : decode prog_23_method_8_code 4 = .ok (.aload_n 2, 1) := by decide +kernel
theorem d5_5 : decode prog_23_method_8_code 5 = .ok (.arraylength, 1) := by decide +kernel
theorem d5_6 : decode prog_23_method_8_code 6 = .ok (.istore_n 3, 1) := by decide +kernel
theorem d5_7 : decode prog_23_method_8_code 7 = .ok (.iconst 0, 1) := by decide +kernel
theorem d5_8 : decode prog_23_method_8_code 8 = .ok (.istore 4, 2) := by decide +kernel
theorem d5_10 : decode prog_23_method_8_code 10 = .ok (.iload 4, 2) := by decide +kernel
theorem d5_12 : decode prog_23_method_8_code 12 = .ok (.iload_n 3, 1) := by decide +kernel
theorem d5_13 : decode prog_23_method_8_code 13 = .ok (.if_icmp .ge 23, 3) := by decide +kernel
theorem d5_16 : decode prog_23_method_8_code 16 = .ok (.aload_n 2, 1) := by decide +kernel
theorem d5_17 : decode prog_23_method_8_code 17 = .ok (.iload 4, 2) := by decide +kernel
theorem d5_19 : decode prog_23_method_8_code 19 = .ok (.baload, 1) := by decide +kernel
theorem d5_20 : decode prog_23_method_8_code 20 = .ok (.istore 5, 2) := by decide +kernel
theorem d5_22 : decode prog_23_method_8_code 22 = .ok (.iload 5, 2) := by decide +kernel
theorem d5_24 : decode prog_23_method_8_code 24 = .ok (.ifCond .lt 6, 3) := by decide +kernel
theorem d5_27 : decode prog_23_method_8_code 27 = .ok (.iinc 1 1, 3) := by decide +kernel
theorem d5_30 : decode prog_23_method_8_code 30 = .ok (.iinc 4 1, 3) := by decide +kernel
theorem d5_33 : decode prog_23_method_8_code 33 = .ok (.goto (-23), 3) := by decide +kernel
theorem d5_36 : decode prog_23_method_8_code 36 = .ok (.iload_n 1, 1) := by decide +kernel
theorem d5_37 : decode prog_23_method_8_code 37 = .ok (.ireturn, 1) := by decide +kernel
theorem pn_5 : plainFor (⟨"com/example/acrawl/acrawl/store/Records", "countPositions", "([B)I"⟩ : MethodName) = true := plainFor_of_name (by first | (simp [plainName, overriddenIn]; done) | decide +kernel)
set_option maxRecDepth 65536 in
set_option maxHeartbeats 40000000 in
theorem con_count (l : Launch) (Z : State) (a0 : Array Value) (hw : ∀ d ∈ tables_1, d.before a0 Z = true) (w : Addr) (h0 : Heap) (n0 : Nat) (n : Nat) (g : Nat → Int32) (A0 : Afn Z h0 w .byte n (fun j => .int (g j))) (z : Int32) (hz : z.toInt = (n : Int)) :
    Con l Z (⟨"com/example/acrawl/acrawl/store/Records", "countPositions", "([B)I"⟩ : MethodName) prog_23_method_8_code 6 (some .int) ⟨0, 0, 0, 0⟩ [(.ref w)] h0 n0 (RetI fun r h => h = h0 ∧ r.toInt = (cntB g n : Int)) := by
  refine Con.body (L0 := #[.val (.ref w), .unset, .unset, .unset, .unset, .unset]) hw pn_5 (fun m => by first | (simp [entryFrame, mkF, argsToLocals, Value.category]; done) | rfl) (fun K O => ?_)
  have hb := A0.bound
  have loop : ∀ (d k : Nat) (i t : Int32) (s5 : Slot), i.toInt = (k : Int) → k + d = n → t.toInt = (cntB g k : Int) → (s5 = .unset ∨ ∃ y, s5 = .val (.int y)) → W K h0 0 0 10 #[.val (.ref w), .val (.int t), .val (.ref w), .val (.int z), .val (.int i), s5] [] := by
    intro d
    induction d with
    | zero =>
      intro k i t s5 hi hk ht h5
      have hck := cntB_le g k
      refine w_iload O d5_10 (pc' := 12) rfl rfl ?_
      refine w_iloadN O d5_12 (pc' := 13) rfl rfl ?_
      refine w_icmp_ge O d5_13 (pn := 16) (pt := 36) rfl (by decide) rfl (fun c13 => ?_) (fun c13 => absurd (show i.toInt < z.toInt from c13) (by omega))
      refine w_iloadN O d5_36 (pc' := 37) rfl rfl ?_
      refine w_reti O d5_37 (by decide) (by decide) ?_
      have hkn : k = n := by omega
      subst hkn
      exact ⟨_, rfl, rfl, ht⟩
    | succ d ih =>
      intro k i t s5 hi hk ht h5
      have hck := cntB_le g k
      refine w_iload O d5_10 (pc' := 12) rfl rfl ?_
      refine w_iloadN O d5_12 (pc' := 13) rfl rfl ?_
      refine w_icmp_ge O d5_13 (pn := 16) (pt := 36) rfl (by decide) rfl (fun c13 => absurd (show ¬ i.toInt < z.toInt from c13) (by omega)) (fun c13 => ?_)
      refine w_aloadN O d5_16 (pc' := 17) rfl rfl rfl ?_
      refine w_iload O d5_17 (pc' := 19) rfl rfl ?_
      refine w_baload O d5_19 (i := k) (x := (g k)) (pc' := 20) rfl A0 hi (by omega) rfl ?_
      refine w_istoreG O d5_20 (L' := fun zq => #[.val (.ref w), .val (.int t), .val (.ref w), .val (.int z), .val (.int i), .val (.int zq)]) (pc' := 22) rfl (fun _ => by rcases h5 with rfl | ⟨y, rfl⟩ <;> rfl) (fun y e_y => ?_)
      refine w_iload O d5_22 (pc' := 24) rfl rfl ?_
      refine w_if_lt O d5_24 (pn := 27) (pt := 30) rfl (by decide) rfl (fun c24 => ?_) (fun c24 => ?_)
      · replace c24 : y.toInt < 0 := c24
        refine w_iincG O d5_30 (y := (1 : Int32)) (L' := fun zq => #[.val (.ref w), .val (.int t), .val (.ref w), .val (.int z), .val (.int zq), .val (.int y)]) (pc' := 33) rfl rfl rfl (fun _ => rfl) (fun i' e_i' => ?_)
        have i3 : ((i + (1 : Int32)).toInt - (i.toInt + 1)) % 4294967296 = 0 := c_iadd i (1 : Int32)
        have i4 := rng32 (i + (1 : Int32))
        have j_i' := congrArg Int32.toInt e_i'
        refine w_goto O d5_33 (pc' := 10) (by decide) rfl ?_
        refine ih (k + 1) i' t _ (by omega) (by omega) ?_ (Or.inr ⟨_, rfl⟩)
        rw [cntB, ← e_y]
        split <;> omega
      · replace c24 : ¬ y.toInt < 0 := c24
        refine w_iincG O d5_27 (y := (1 : Int32)) (L' := fun zq => #[.val (.ref w), .val (.int zq), .val (.ref w), .val (.int z), .val (.int i), .val (.int y)]) (pc' := 30) rfl rfl rfl (fun _ => rfl) (fun t' e_t' => ?_)
        have i6 : ((t + (1 : Int32)).toInt - (t.toInt + 1)) % 4294967296 = 0 := c_iadd t (1 : Int32)
        have i7 := rng32 (t + (1 : Int32))
        have j_t' := congrArg Int32.toInt e_t'
        refine w_iincG O d5_30 (y := (1 : Int32)) (L' := fun zq => #[.val (.ref w), .val (.int t'), .val (.ref w), .val (.int z), .val (.int zq), .val (.int y)]) (pc' := 33) rfl rfl rfl (fun _ => rfl) (fun i' e_i' => ?_)
        have i9 : ((i + (1 : Int32)).toInt - (i.toInt + 1)) % 4294967296 = 0 := c_iadd i (1 : Int32)
        have i10 := rng32 (i + (1 : Int32))
        have j_i' := congrArg Int32.toInt e_i'
        refine w_goto O d5_33 (pc' := 10) (by decide) rfl ?_
        refine ih (k + 1) i' t' _ (by omega) (by omega) ?_ (Or.inr ⟨_, rfl⟩)
        rw [cntB, ← e_y]
        split <;> omega
  refine w_iconst O d5_0 (z := (0 : Int32)) (pc' := 1) rfl rfl ?_
  refine w_istoreN O d5_1 (L' := #[.val (.ref w), .val (.int (0 : Int32)), .unset, .unset, .unset, .unset]) (pc' := 2) rfl rfl ?_
  refine w_aloadN O d5_2 (pc' := 3) rfl rfl rfl ?_
  refine w_astoreN O d5_3 (L' := #[.val (.ref w), .val (.int (0 : Int32)), .val (.ref w), .unset, .unset, .unset]) (pc' := 4) rfl rfl rfl ?_
  refine w_aloadN O d5_4 (pc' := 5) rfl rfl rfl ?_
  refine w_alen O d5_5 (z := z) (pc' := 6) rfl A0 hz ?_
  refine w_istoreN O d5_6 (L' := #[.val (.ref w), .val (.int (0 : Int32)), .val (.ref w), .val (.int z), .unset, .unset]) (pc' := 7) rfl rfl ?_
  refine w_iconst O d5_7 (z := (0 : Int32)) (pc' := 8) rfl rfl ?_
  refine w_istore O d5_8 (L' := #[.val (.ref w), .val (.int (0 : Int32)), .val (.ref w), .val (.int z), .val (.int (0 : Int32)), .unset]) (pc' := 10) rfl rfl ?_
  exact loop n 0 _ _ _ (by decide) (by omega) rfl (Or.inl rfl)
theorem d4_0 : decode prog_23_method_7_code 0 = .ok (.aload_n 0, 1) := by decide +kernel
theorem d4_1 : decode prog_23_method_7_code 1 = .ok (.invokestatic 91, 3) := by decide +kernel
theorem d4_4 : decode prog_23_method_7_code 4 = .ok (.newarray .int, 2) := by decide +kernel
theorem d4_6 : decode prog_23_method_7_code 6 = .ok (.astore_n 1, 1) := by decide +kernel
theorem d4_7 : decode prog_23_method_7_code 7 = .ok (.iconst (-1), 1) := by decide +kernel
theorem d4_8 : decode prog_23_method_7_code 8 = .ok (.istore_n 2, 1) := by decide +kernel
theorem d4_9 : decode prog_23_method_7_code 9 = .ok (.iconst 0, 1) := by decide +kernel
theorem d4_10 : decode prog_23_method_7_code 10 = .ok (.istore_n 3, 1) := by decide +kernel
theorem d4_11 : decode prog_23_method_7_code 11 = .ok (.iconst 0, 1) := by decide +kernel
theorem d4_12 : decode prog_23_method_7_code 12 = .ok (.istore 4, 2) := by decide +kernel
theorem d4_14 : decode prog_23_method_7_code 14 = .ok (.iconst 0, 1) := by decide +kernel
theorem d4_15 : decode prog_23_method_7_code 15 = .ok (.istore 5, 2) := by decide +kernel
theorem d4_17 : decode prog_23_method_7_code 17 = .ok (.aload_n 0, 1) := by decide +kernel
theorem d4_18 : decode prog_23_method_7_code 18 = .ok (.astore 6, 2) := by decide +kernel
theorem d4_20 : decode prog_23_method_7_code 20 = .ok (.aload 6, 2) := by decide +kernel
theorem d4_22 : decode prog_23_method_7_code 22 = .ok (.arraylength, 1) := by decide +kernel
theorem d4_23 : decode prog_23_method_7_code 23 = .ok (.istore 7, 2) := by decide +kernel
theorem d4_25 : decode prog_23_method_7_code 25 = .ok (.iconst 0, 1) := by decide +kernel
theorem d4_26 : decode prog_23_method_7_code 26 = .ok (.istore 8, 2) := by decide +kernel
theorem d4_28 : decode prog_23_method_7_code 28 = .ok (.iload 8, 2) := by decide +kernel
theorem d4_30 : decode prog_23_method_7_code 30 = .ok (.iload 7, 2) := by decide +kernel
theorem d4_32 : decode prog_23_method_7_code 32 = .ok (.if_icmp .ge 57, 3) := by decide +kernel
theorem d4_35 : decode prog_23_method_7_code 35 = .ok (.aload 6, 2) := by decide +kernel
theorem d4_37 : decode prog_23_method_7_code 37 = .ok (.iload 8, 2) := by decide +kernel
theorem d4_39 : decode prog_23_method_7_code 39 = .ok (.baload, 1) := by decide +kernel
theorem d4_40 : decode prog_23_method_7_code 40 = .ok (.istore 9, 2) := by decide +kernel
theorem d4_42 : decode prog_23_method_7_code 42 = .ok (.iload_n 3, 1) := by decide +kernel
theorem d4_43 : decode prog_23_method_7_code 43 = .ok (.iload 9, 2) := by decide +kernel
theorem d4_45 : decode prog_23_method_7_code 45 = .ok (.bipush 127, 2) := by decide +kernel
theorem d4_47 : decode prog_23_method_7_code 47 = .ok (.iand, 1) := by decide +kernel
theorem d4_48 : decode prog_23_method_7_code 48 = .ok (.iload 4, 2) := by decide +kernel
theorem d4_50 : decode prog_23_method_7_code 50 = .ok (.ishl, 1) := by decide +kernel
theorem d4_51 : decode prog_23_method_7_code 51 = .ok (.ior, 1) := by decide +kernel
theorem d4_52 : decode prog_23_method_7_code 52 = .ok (.istore_n 3, 1) := by decide +kernel
theorem d4_53 : decode prog_23_method_7_code 53 = .ok (.iload 9, 2) := by decide +kernel
theorem d4_55 : decode prog_23_method_7_code 55 = .ok (.ifCond .ge 9, 3) := by decide +kernel
theorem d4_58 : decode prog_23_method_7_code 58 = .ok (.iinc 4 7, 3) := by decide +kernel
theorem d4_61 : decode prog_23_method_7_code 61 = .ok (.goto 22, 3) := by decide +kernel
theorem d4_64 : decode prog_23_method_7_code 64 = .ok (.iload_n 2, 1) := by decide +kernel
theorem d4_65 : decode prog_23_method_7_code 65 = .ok (.iload_n 3, 1) := by decide +kernel
theorem d4_66 : decode prog_23_method_7_code 66 = .ok (.iconst 1, 1) := by decide +kernel
theorem d4_67 : decode prog_23_method_7_code 67 = .ok (.iadd, 1) := by decide +kernel
theorem d4_68 : decode prog_23_method_7_code 68 = .ok (.iadd, 1) := by decide +kernel
theorem d4_69 : decode prog_23_method_7_code 69 = .ok (.istore_n 2, 1) := by decide +kernel
theorem d4_70 : decode prog_23_method_7_code 70 = .ok (.aload_n 1, 1) := by decide +kernel
theorem d4_71 : decode prog_23_method_7_code 71 = .ok (.iload 5, 2) := by decide +kernel
theorem d4_73 : decode prog_23_method_7_code 73 = .ok (.iinc 5 1, 3) := by decide +kernel
theorem d4_76 : decode prog_23_method_7_code 76 = .ok (.iload_n 2, 1) := by decide +kernel
theorem d4_77 : decode prog_23_method_7_code 77 = .ok (.iastore, 1) := by decide +kernel
theorem d4_78 : decode prog_23_method_7_code 78 = .ok (.iconst 0, 1) := by decide +kernel
theorem d4_79 : decode prog_23_method_7_code 79 = .ok (.istore_n 3, 1) := by decide +kernel
theorem d4_80 : decode prog_23_method_7_code 80 = .ok (.iconst 0, 1) := by decide +kernel
theorem d4_81 : decode prog_23_method_7_code 81 = .ok (.istore 4, 2) := by decide +kernel
theorem d4_83 : decode prog_23_method_7_code 83 = .ok (.iinc 8 1, 3) := by decide +kernel
theorem d4_86 : decode prog_23_method_7_code 86 = .ok (.goto (-58), 3) := by decide +kernel
theorem d4_89 : decode prog_23_method_7_code 89 = .ok (.aload_n 1, 1) := by decide +kernel
theorem d4_90 : decode prog_23_method_7_code 90 = .ok (.areturn, 1) := by decide +kernel
theorem pn_4 : plainFor (⟨"com/example/acrawl/acrawl/store/Records", "decodePositions", "([B)[I"⟩ : MethodName) = true := plainFor_of_name (by first | (simp [plainName, overriddenIn]; done) | decide +kernel)
theorem pd_0 : parseMethodDescriptor "([B)I" = some ⟨[(.array .byte)], some .int⟩ := by decide +kernel
set_option maxRecDepth 65536 in
set_option maxHeartbeats 40000000 in
theorem con_dec (l : Launch) (Z : State) (a0 : Array Value) (hw : ∀ d ∈ tables_1, d.before a0 Z = true) (w : Addr) (h0 : Heap) (n0 : Nat) (n : Nat) (g : Nat → Int32) (A0 : Afn Z h0 w .byte n (fun j => .int (g j))) (z : Int32) (hz : z.toInt = (n : Int)) (hcap : n ≤ 5) :
    Con l Z (⟨"com/example/acrawl/acrawl/store/Records", "decodePositions", "([B)[I"⟩ : MethodName) prog_23_method_7_code 10 (some (.array .int)) ⟨1, 1, 5, 17⟩ [(.ref w)] h0 n0 (RetA fun v h => ∃ b, v = .ref b ∧ Keep h0 h [] ∧ h0.size ≤ b ∧ n0 ≤ b ∧ Afn Z h b .int (cntB g n) (fun j => .int (outB g n j)) ∧ Exa Z h b "[I") := by
  refine Con.body (L0 := #[.val (.ref w), .unset, .unset, .unset, .unset, .unset, .unset, .unset, .unset, .unset]) hw pn_4 (fun m => by first | (simp [entryFrame, mkF, argsToLocals, Value.category]; done) | rfl) (fun K O => ?_)
  have hb := A0.bound
  have hcn := cntB_le g n
  have loop : ∀ (b : Addr), w ≠ b → n0 ≤ b → h0.size ≤ b → ∀ (d k : Nat) (i ps gp sh ct : Int32) (s9 : Slot) (h : Heap), i.toInt = (k : Int) → k + d = n → (ps, gp, sh) = dsB g k → ct.toInt = (cntB g k : Int) → Afn Z h b .int (cntB g n) (fun j => .int (outB g k j)) → Exa Z h b "[I" → Afn Z h w .byte n (fun j => .int (g j)) → Keep h0 h [] → (s9 = .unset ∨ ∃ y, s9 = .val (.int y)) → W K h 1 5 28 #[.val (.ref w), .val (.ref b), .val (.int ps), .val (.int gp), .val (.int sh), .val (.int ct), .val (.ref w), .val (.int z), .val (.int i), s9] [] := by
    intro b nwb gb hbz d
    induction d with
    | zero =>
      intro k i ps gp sh ct s9 h hi hk hds hct Ab Eb A Kp h9
      have hck := cntB_le g k
      refine w_iload O d4_28 (pc' := 30) rfl rfl ?_
      refine w_iload O d4_30 (pc' := 32) rfl rfl ?_
      refine w_icmp_ge O d4_32 (pn := 35) (pt := 89) rfl (by decide) rfl (fun c32 => ?_) (fun c32 => absurd (show i.toInt < z.toInt from c32) (by omega))
      refine w_aloadN O d4_89 (pc' := 90) rfl rfl rfl ?_
      refine w_reta O d4_90 rfl rfl rfl (by decide) (by decide) ?_
      have hkn : k = n := by omega
      subst hkn
      exact ⟨_, rfl, rfl, b, rfl, Kp, hbz, gb, Ab, Eb⟩
    | succ d ih =>
      intro k i ps gp sh ct s9 h hi hk hds hct Ab Eb A Kp h9
      have hck := cntB_le g k
      refine w_iload O d4_28 (pc' := 30) rfl rfl ?_
      refine w_iload O d4_30 (pc' := 32) rfl rfl ?_
      refine w_icmp_ge O d4_32 (pn := 35) (pt := 89) rfl (by decide) rfl (fun c32 => absurd (show ¬ i.toInt < z.toInt from c32) (by omega)) (fun c32 => ?_)
      refine w_aload O d4_35 (pc' := 37) rfl rfl rfl ?_
      refine w_iload O d4_37 (pc' := 39) rfl rfl ?_
      refine w_baload O d4_39 (i := k) (x := (g k)) (pc' := 40) rfl A hi (by omega) rfl ?_
      refine w_istoreG O d4_40 (L' := fun zq => #[.val (.ref w), .val (.ref b), .val (.int ps), .val (.int gp), .val (.int sh), .val (.int ct), .val (.ref w), .val (.int z), .val (.int i), .val (.int zq)]) (pc' := 42) rfl (fun _ => by rcases h9 with rfl | ⟨y, rfl⟩ <;> rfl) (fun y e_y => ?_)
      refine w_iloadN O d4_42 (pc' := 43) rfl rfl ?_
      refine w_iload O d4_43 (pc' := 45) rfl rfl ?_
      refine w_bipush O d4_45 (z := (127 : Int32)) (pc' := 47) rfl rfl ?_
      refine w_iand O d4_47 (pc' := 48) rfl ?_
      refine w_iload O d4_48 (pc' := 50) rfl rfl ?_
      refine w_ishl O d4_50 (pc' := 51) rfl ?_
      refine w_ior O d4_51 (pc' := 52) rfl ?_
      refine w_istoreNG O d4_52 (L' := fun zq => #[.val (.ref w), .val (.ref b), .val (.int ps), .val (.int zq), .val (.int sh), .val (.int ct), .val (.ref w), .val (.int z), .val (.int i), .val (.int y)]) (pc' := 53) rfl (fun _ => rfl) (fun gp' e_gp' => ?_)
      refine w_iload O d4_53 (pc' := 55) rfl rfl ?_
      refine w_if_ge O d4_55 (pn := 58) (pt := 64) rfl (by decide) rfl (fun c55 => ?_) (fun c55 => ?_)
      · replace c55 : ¬ y.toInt < 0 := c55
        refine w_iloadN O d4_64 (pc' := 65) rfl rfl ?_
        refine w_iloadN O d4_65 (pc' := 66) rfl rfl ?_
        refine w_iconst O d4_66 (z := (1 : Int32)) (pc' := 67) rfl rfl ?_
        refine w_iadd O d4_67 (pc' := 68) rfl ?_
        refine w_iadd O d4_68 (pc' := 69) rfl ?_
        refine w_istoreNG O d4_69 (L' := fun zq => #[.val (.ref w), .val (.ref b), .val (.int zq), .val (.int gp'), .val (.int sh), .val (.int ct), .val (.ref w), .val (.int z), .val (.int i), .val (.int y)]) (pc' := 70) rfl (fun _ => rfl) (fun ps' e_ps' => ?_)
        refine w_aloadN O d4_70 (pc' := 71) rfl rfl rfl ?_
        refine w_iload O d4_71 (pc' := 73) rfl rfl ?_
        refine w_iincG O d4_73 (y := (1 : Int32)) (L' := fun zq => #[.val (.ref w), .val (.ref b), .val (.int ps'), .val (.int gp'), .val (.int sh), .val (.int zq), .val (.ref w), .val (.int z), .val (.int i), .val (.int y)]) (pc' := 76) rfl rfl rfl (fun _ => rfl) (fun ct' e_ct' => ?_)
        have i5 : ((ct + (1 : Int32)).toInt - (ct.toInt + 1)) % 4294967296 = 0 := c_iadd ct (1 : Int32)
        have i6 := rng32 (ct + (1 : Int32))
        have j_ct' := congrArg Int32.toInt e_ct'
        refine w_iloadN O d4_76 (pc' := 77) rfl rfl ?_
        have hlt := cntB_lt g (show k < n by omega) (by rw [← e_y]; exact c55)
        have hcn := cntB_le g n
        refine w_iastore O d4_77 (i := (cntB g k)) (pc' := 78) rfl Ab hct hlt gb (fun h7 Wh7 => ?_)
        have A_h7 := A.other Wh7 nwb
        have Ab_h7 := Ab.set Wh7
        have Eb_h7 := Eb.wr Wh7
        refine w_iconst O d4_78 (z := (0 : Int32)) (pc' := 79) rfl rfl ?_
        refine w_istoreN O d4_79 (L' := #[.val (.ref w), .val (.ref b), .val (.int ps'), .val (.int (0 : Int32)), .val (.int sh), .val (.int ct'), .val (.ref w), .val (.int z), .val (.int i), .val (.int y)]) (pc' := 80) rfl rfl ?_
        refine w_iconst O d4_80 (z := (0 : Int32)) (pc' := 81) rfl rfl ?_
        refine w_istore O d4_81 (L' := #[.val (.ref w), .val (.ref b), .val (.int ps'), .val (.int (0 : Int32)), .val (.int (0 : Int32)), .val (.int ct'), .val (.ref w), .val (.int z), .val (.int i), .val (.int y)]) (pc' := 83) rfl rfl ?_
        refine w_iincG O d4_83 (y := (1 : Int32)) (L' := fun zq => #[.val (.ref w), .val (.ref b), .val (.int ps'), .val (.int (0 : Int32)), .val (.int (0 : Int32)), .val (.int ct'), .val (.ref w), .val (.int z), .val (.int zq), .val (.int y)]) (pc' := 86) rfl rfl rfl (fun _ => rfl) (fun i' e_i' => ?_)
        have i9 : ((i + (1 : Int32)).toInt - (i.toInt + 1)) % 4294967296 = 0 := c_iadd i (1 : Int32)
        have i10 := rng32 (i + (1 : Int32))
        have j_i' := congrArg Int32.toInt e_i'
        refine w_goto O d4_86 (pc' := 28) (by decide) rfl ?_
        have eq1 : ¬ (g k).toInt < 0 := by rw [← e_y]; omega
        have hds' : dsB g (k + 1) = (ps', 0, 0) := by rw [dsB, if_neg eq1, ← hds, e_ps', e_gp', e_y]
        refine ih (k + 1) i' _ _ _ _ _ _ (by omega) (by omega) hds'.symm ?_ (Ab_h7.congr fun j hj => ?_) Eb_h7 A_h7 (Kp.wr Wh7 (Or.inr hbz)) (Or.inr ⟨_, rfl⟩)
        · rw [cntB, if_neg eq1]; omega
        · rw [outB, if_neg eq1, hds']; exact updI_eq _ _ _ _
      · replace c55 : y.toInt < 0 := c55
        refine w_iincG O d4_58 (y := (7 : Int32)) (L' := fun zq => #[.val (.ref w), .val (.ref b), .val (.int ps), .val (.int gp'), .val (.int zq), .val (.int ct), .val (.ref w), .val (.int z), .val (.int i), .val (.int y)]) (pc' := 61) rfl rfl rfl (fun _ => rfl) (fun sh' e_sh' => ?_)
        have i12 : ((sh + (7 : Int32)).toInt - (sh.toInt + 7)) % 4294967296 = 0 := c_iadd sh (7 : Int32)
        have i13 := rng32 (sh + (7 : Int32))
        have j_sh' := congrArg Int32.toInt e_sh'
        refine w_goto O d4_61 (pc' := 83) (by decide) rfl ?_
        refine w_iincG O d4_83 (y := (1 : Int32)) (L' := fun zq => #[.val (.ref w), .val (.ref b), .val (.int ps), .val (.int gp'), .val (.int sh'), .val (.int ct), .val (.ref w), .val (.int z), .val (.int zq), .val (.int y)]) (pc' := 86) rfl rfl rfl (fun _ => rfl) (fun i' e_i' => ?_)
        have i15 : ((i + (1 : Int32)).toInt - (i.toInt + 1)) % 4294967296 = 0 := c_iadd i (1 : Int32)
        have i16 := rng32 (i + (1 : Int32))
        have j_i' := congrArg Int32.toInt e_i'
        refine w_goto O d4_86 (pc' := 28) (by decide) rfl ?_
        have eq1 : (g k).toInt < 0 := by rw [← e_y]; omega
        refine ih (k + 1) i' _ _ _ _ _ _ (by omega) (by omega) ?_ ?_ (Ab.congr fun j hj => ?_) Eb A Kp (Or.inr ⟨_, rfl⟩)
        · rw [dsB, if_pos eq1, ← hds, e_gp', e_sh', e_y]
        · rw [cntB, if_pos eq1]; exact hct
        · rw [outB, if_pos eq1]
  refine w_aloadN O d4_0 (pc' := 1) rfl rfl rfl ?_
  refine w_static O d4_1 (as := [(.ref w)]) (st := []) (wt := 0) (cl' := 0) (sl' := 0) (pc' := 4) rfl (mw 16 rfl) (mw 17 rfl) (mw 14 rfl) (mw 18 rfl) (by decide) (con_count l Z a0 hw w h0 n0 n g A0 z hz) rfl pd_0 rfl rfl rfl (by decide) (by decide) rfl rfl (by decide) (by decide) (cI fun rc _ ⟨qrc, src⟩ => ?_)
  rw [qrc]
  refine w_newarrE O d4_4 (ty := .int) (ad := "[I") (dv := (.int (0 : Int32))) (n := (cntB g n)) (cap := 5) (cl' := 1) (sl' := 5) (pc' := 6) rfl rfl rfl rfl (mw 19 rfl) src (by omega) (by decide) rfl rfl (by decide) (by decide) (fun h1 b qb g_b Eh1 A_b E_b => ?_)
  have ne_w_b : w ≠ b := Nat.ne_of_lt (by rw [qb]; exact A0.lt)
  have A0_h1 := A0.ext Eh1
  refine w_astoreN O d4_6 (L' := #[.val (.ref w), .val (.ref b), .unset, .unset, .unset, .unset, .unset, .unset, .unset, .unset]) (pc' := 7) rfl rfl rfl ?_
  refine w_iconst O d4_7 (z := (-1 : Int32)) (pc' := 8) rfl rfl ?_
  refine w_istoreN O d4_8 (L' := #[.val (.ref w), .val (.ref b), .val (.int (-1 : Int32)), .unset, .unset, .unset, .unset, .unset, .unset, .unset]) (pc' := 9) rfl rfl ?_
  refine w_iconst O d4_9 (z := (0 : Int32)) (pc' := 10) rfl rfl ?_
  refine w_istoreN O d4_10 (L' := #[.val (.ref w), .val (.ref b), .val (.int (-1 : Int32)), .val (.int (0 : Int32)), .unset, .unset, .unset, .unset, .unset, .unset]) (pc' := 11) rfl rfl ?_
  refine w_iconst O d4_11 (z := (0 : Int32)) (pc' := 12) rfl rfl ?_
  refine w_istore O d4_12 (L' := #[.val (.ref w), .val (.ref b), .val (.int (-1 : Int32)), .val (.int (0 : Int32)), .val (.int (0 : Int32)), .unset, .unset, .unset, .unset, .unset]) (pc' := 14) rfl rfl ?_
  refine w_iconst O d4_14 (z := (0 : Int32)) (pc' := 15) rfl rfl ?_
  refine w_istore O d4_15 (L' := #[.val (.ref w), .val (.ref b), .val (.int (-1 : Int32)), .val (.int (0 : Int32)), .val (.int (0 : Int32)), .val (.int (0 : Int32)), .unset, .unset, .unset, .unset]) (pc' := 17) rfl rfl ?_
  refine w_aloadN O d4_17 (pc' := 18) rfl rfl rfl ?_
  refine w_astore O d4_18 (L' := #[.val (.ref w), .val (.ref b), .val (.int (-1 : Int32)), .val (.int (0 : Int32)), .val (.int (0 : Int32)), .val (.int (0 : Int32)), .val (.ref w), .unset, .unset, .unset]) (pc' := 20) rfl rfl rfl ?_
  refine w_aload O d4_20 (pc' := 22) rfl rfl rfl ?_
  refine w_alen O d4_22 (z := z) (pc' := 23) rfl A0_h1 hz ?_
  refine w_istore O d4_23 (L' := #[.val (.ref w), .val (.ref b), .val (.int (-1 : Int32)), .val (.int (0 : Int32)), .val (.int (0 : Int32)), .val (.int (0 : Int32)), .val (.ref w), .val (.int z), .unset, .unset]) (pc' := 25) rfl rfl ?_
  refine w_iconst O d4_25 (z := (0 : Int32)) (pc' := 26) rfl rfl ?_
  refine w_istore O d4_26 (L' := #[.val (.ref w), .val (.ref b), .val (.int (-1 : Int32)), .val (.int (0 : Int32)), .val (.int (0 : Int32)), .val (.int (0 : Int32)), .val (.ref w), .val (.int z), .val (.int (0 : Int32)), .unset]) (pc' := 28) rfl rfl ?_
  exact loop b ne_w_b g_b (by omega) n 0 _ _ _ _ _ _ _ (by decide) (by omega) rfl rfl (A_b.congr fun j hj => rfl) E_b A0_h1 ((Keep.refl h0 []).ext Eh1) (Or.inl rfl)
theorem d1_0 : decode method_3_code 0 = .ok (.iload_n 0, 1) := by decide +kernel
theorem d1_1 : decode method_3_code 1 = .ok (.ifCond .le 14, 3) := by decide +kernel
theorem d1_4 : decode method_3_code 4 = .ok (.iconst 1, 1) := by decide +kernel
theorem d1_5 : decode method_3_code 5 = .ok (.iload_n 1, 1) := by decide +kernel
theorem d1_6 : decode method_3_code 6 = .ok (.bipush 7, 2) := by decide +kernel
theorem d1_8 : decode method_3_code 8 = .ok (.iand, 1) := by decide +kernel
theorem d1_9 : decode method_3_code 9 = .ok (.iload_n 0, 1) := by decide +kernel
theorem d1_10 : decode method_3_code 10 = .ok (.irem, 1) := by decide +kernel
theorem d1_11 : decode method_3_code 11 = .ok (.iadd, 1) := by decide +kernel
theorem d1_12 : decode method_3_code 12 = .ok (.goto 4, 3) := by decide +kernel
theorem d1_15 : decode method_3_code 15 = .ok (.iconst 0, 1) := by decide +kernel
theorem d1_16 : decode method_3_code 16 = .ok (.ireturn, 1) := by decide +kernel
theorem pn_1 : plainFor (⟨"com/example/acrawl/acrawl/store/RecordsDecodePositionsPinLaw", "part", "(II)I"⟩ : MethodName) = true := plainFor_of_name (by first | (simp [plainName, overriddenIn]; done) | decide +kernel)
set_option maxRecDepth 65536 in
set_option maxHeartbeats 40000000 in
theorem con_part (l : Launch) (Z : State) (a0 : Array Value) (hw : ∀ d ∈ tables_1, d.before a0 Z = true) (r b : Int32) (h0 : Heap) (n0 : Nat) (h5 : r.toInt ≤ 5) :
    Con l Z (⟨"com/example/acrawl/acrawl/store/RecordsDecodePositionsPinLaw", "part", "(II)I"⟩ : MethodName) method_3_code 2 (some .int) ⟨0, 0, 0, 0⟩ [(.int r), (.int b)] h0 n0 (RetI fun q h => h = h0 ∧ ((0 < r.toInt ∧ 1 ≤ q.toInt ∧ q.toInt ≤ r.toInt) ∨ (¬ 0 < r.toInt ∧ q.toInt = 0))) := by
  refine Con.body (L0 := #[.val (.int r), .val (.int b)]) hw pn_1 (fun m => by first | (simp [entryFrame, mkF, argsToLocals, Value.category]; done) | rfl) (fun K O => ?_)
  refine w_iloadN O d1_0 (pc' := 1) rfl rfl ?_
  refine w_if_le O d1_1 (pn := 4) (pt := 15) rfl (by decide) rfl (fun c1 => ?_) (fun c1 => ?_)
  · replace c1 : ¬ 0 < r.toInt := c1
    refine w_iconst O d1_15 (z := (0 : Int32)) (pc' := 16) rfl rfl ?_
    refine w_reti O d1_16 (by decide) (by decide) ?_
    refine ⟨_, rfl, rfl, ?_⟩
    exact Or.inr ⟨c1, by decide⟩
  · replace c1 : 0 < r.toInt := c1
    refine w_iconst O d1_4 (z := (1 : Int32)) (pc' := 5) rfl rfl ?_
    refine w_iloadN O d1_5 (pc' := 6) rfl rfl ?_
    refine w_bipush O d1_6 (z := (7 : Int32)) (pc' := 8) rfl rfl ?_
    refine w_iand O d1_8 (pc' := 9) rfl ?_
    refine w_iloadN O d1_9 (pc' := 10) rfl rfl ?_
    refine w_irem O d1_10 (pc' := 11) rfl (nz32 (by omega)) ?_
    refine w_iadd O d1_11 (pc' := 12) rfl ?_
    refine w_goto O d1_12 (pc' := 16) (by decide) rfl ?_
    refine w_reti O d1_16 (by decide) (by decide) ?_
    refine ⟨_, rfl, rfl, ?_⟩
    have y1 : (b &&& (7 : Int32)).toInt = b.toInt % 8 := c_mask b (7 : Int32) 3 (by decide) (by decide)
    have y2 := c_iremV (b &&& (7 : Int32)) r
    have y3 : (((1 : Int32) + ((b &&& (7 : Int32)) % r)).toInt - (1 + ((b &&& (7 : Int32)) % r).toInt)) % 4294967296 = 0 := c_iadd (1 : Int32) _
    have y4 := rng32 ((1 : Int32) + ((b &&& (7 : Int32)) % r))
    refine Or.inl ⟨by omega, by omega, by omega⟩
def Gb (m g : Int) : Prop := (m = 1 → 0 ≤ g ∧ g < 128) ∧ (m = 2 → 128 ≤ g ∧ g < 16384) ∧ (m = 3 → 16384 ≤ g ∧ g < 2097152) ∧ (m = 4 → 2097152 ≤ g ∧ g < 268435456) ∧ (m = 5 → 268435456 ≤ g ∧ g ≤ 2147483647)
theorem d2_0 : decode method_4_code 0 = .ok (.iload_n 1, 1) := by decide +kernel
theorem d2_1 : decode method_4_code 1 = .ok (.ldc 26, 2) := by decide +kernel
theorem d2_3 : decode method_4_code 3 = .ok (.iand, 1) := by decide +kernel
theorem d2_4 : decode method_4_code 4 = .ok (.istore_n 2, 1) := by decide +kernel
theorem d2_5 : decode method_4_code 5 = .ok (.iload_n 0, 1) := by decide +kernel
theorem d2_6 : decode method_4_code 6 = .ok (.iconst 1, 1) := by decide +kernel
theorem d2_7 : decode method_4_code 7 = .ok (.if_icmp .ne 9, 3) := by decide +kernel
theorem d2_10 : decode method_4_code 10 = .ok (.iload_n 2, 1) := by decide +kernel
theorem d2_11 : decode method_4_code 11 = .ok (.sipush 128, 3) := by decide +kernel
theorem d2_14 : decode method_4_code 14 = .ok (.irem, 1) := by decide +kernel
theorem d2_15 : decode method_4_code 15 = .ok (.ireturn, 1) := by decide +kernel
theorem d2_16 : decode method_4_code 16 = .ok (.iload_n 0, 1) := by decide +kernel
theorem d2_17 : decode method_4_code 17 = .ok (.iconst 2, 1) := by decide +kernel
theorem d2_18 : decode method_4_code 18 = .ok (.if_icmp .ne 13, 3) := by decide +kernel
theorem d2_21 : decode method_4_code 21 = .ok (.sipush 128, 3) := by decide +kernel
theorem d2_24 : decode method_4_code 24 = .ok (.iload_n 2, 1) := by decide +kernel
theorem d2_25 : decode method_4_code 25 = .ok (.sipush 16256, 3) := by decide +kernel
theorem d2_28 : decode method_4_code 28 = .ok (.irem, 1) := by decide +kernel
theorem d2_29 : decode method_4_code 29 = .ok (.iadd, 1) := by decide +kernel
theorem d2_30 : decode method_4_code 30 = .ok (.ireturn, 1) := by decide +kernel
theorem d2_31 : decode method_4_code 31 = .ok (.iload_n 0, 1) := by decide +kernel
theorem d2_32 : decode method_4_code 32 = .ok (.iconst 3, 1) := by decide +kernel
theorem d2_33 : decode method_4_code 33 = .ok (.if_icmp .ne 12, 3) := by decide +kernel
theorem d2_36 : decode method_4_code 36 = .ok (.sipush 16384, 3) := by decide +kernel
theorem d2_39 : decode method_4_code 39 = .ok (.iload_n 2, 1) := by decide +kernel
theorem d2_40 : decode method_4_code 40 = .ok (.ldc 27, 2) := by decide +kernel
theorem d2_42 : decode method_4_code 42 = .ok (.irem, 1) := by decide +kernel
theorem d2_43 : decode method_4_code 43 = .ok (.iadd, 1) := by decide +kernel
theorem d2_44 : decode method_4_code 44 = .ok (.ireturn, 1) := by decide +kernel
theorem d2_45 : decode method_4_code 45 = .ok (.iload_n 0, 1) := by decide +kernel
theorem d2_46 : decode method_4_code 46 = .ok (.iconst 4, 1) := by decide +kernel
theorem d2_47 : decode method_4_code 47 = .ok (.if_icmp .ne 11, 3) := by decide +kernel
theorem d2_50 : decode method_4_code 50 = .ok (.ldc 28, 2) := by decide +kernel
theorem d2_52 : decode method_4_code 52 = .ok (.iload_n 2, 1) := by decide +kernel
theorem d2_53 : decode method_4_code 53 = .ok (.ldc 29, 2) := by decide +kernel
theorem d2_55 : decode method_4_code 55 = .ok (.irem, 1) := by decide +kernel
theorem d2_56 : decode method_4_code 56 = .ok (.iadd, 1) := by decide +kernel
theorem d2_57 : decode method_4_code 57 = .ok (.ireturn, 1) := by decide +kernel
theorem d2_58 : decode method_4_code 58 = .ok (.iload_n 0, 1) := by decide +kernel
theorem d2_59 : decode method_4_code 59 = .ok (.iconst 5, 1) := by decide +kernel
theorem d2_60 : decode method_4_code 60 = .ok (.if_icmp .ne 11, 3) := by decide +kernel
theorem d2_63 : decode method_4_code 63 = .ok (.ldc 30, 2) := by decide +kernel
theorem d2_65 : decode method_4_code 65 = .ok (.iload_n 2, 1) := by decide +kernel
theorem d2_66 : decode method_4_code 66 = .ok (.ldc 31, 2) := by decide +kernel
theorem d2_68 : decode method_4_code 68 = .ok (.irem, 1) := by decide +kernel
theorem d2_69 : decode method_4_code 69 = .ok (.iadd, 1) := by decide +kernel
theorem d2_70 : decode method_4_code 70 = .ok (.ireturn, 1) := by decide +kernel
theorem d2_71 : decode method_4_code 71 = .ok (.iconst 0, 1) := by decide +kernel
theorem d2_72 : decode method_4_code 72 = .ok (.ireturn, 1) := by decide +kernel
theorem pn_2 : plainFor (⟨"com/example/acrawl/acrawl/store/RecordsDecodePositionsPinLaw", "gapOf", "(II)I"⟩ : MethodName) = true := plainFor_of_name (by first | (simp [plainName, overriddenIn]; done) | decide +kernel)
set_option maxRecDepth 65536 in
set_option maxHeartbeats 40000000 in
theorem con_gap (l : Launch) (Z : State) (a0 : Array Value) (hw : ∀ d ∈ tables_1, d.before a0 Z = true) (k x : Int32) (h0 : Heap) (n0 : Nat)  :
    Con l Z (⟨"com/example/acrawl/acrawl/store/RecordsDecodePositionsPinLaw", "gapOf", "(II)I"⟩ : MethodName) method_4_code 3 (some .int) ⟨0, 0, 0, 0⟩ [(.int k), (.int x)] h0 n0 (RetI fun q h => h = h0 ∧ Gb k.toInt q.toInt) := by
  refine Con.body (L0 := #[.val (.int k), .val (.int x), .unset]) hw pn_2 (fun m => by first | (simp [entryFrame, mkF, argsToLocals, Value.category]; done) | rfl) (fun K O => ?_)
  refine w_iloadN O d2_0 (pc' := 1) rfl rfl ?_
  refine w_ldc O d2_1 (pc' := 3) rfl (mw 7 rfl) ?_
  refine w_iand O d2_3 (pc' := 4) rfl ?_
  refine w_istoreNG O d2_4 (L' := fun zq => #[.val (.int k), .val (.int x), .val (.int zq)]) (pc' := 5) rfl (fun _ => rfl) (fun m e_m => ?_)
  have i2 : (x &&& (2147483647 : Int32)).toInt = x.toInt % 2147483648 := c_mask x (2147483647 : Int32) 31 (by decide) (by decide)
  have j_m := congrArg Int32.toInt e_m
  have r_m := rng32 m
  refine w_iloadN O d2_5 (pc' := 6) rfl rfl ?_
  refine w_iconst O d2_6 (z := (1 : Int32)) (pc' := 7) rfl rfl ?_
  refine w_icmp_ne O d2_7 (pn := 10) (pt := 16) rfl (by decide) rfl (fun c7 => ?_) (fun c7 => ?_)
  · replace c7 : ¬ k.toInt = 1 := c7
    refine w_iloadN O d2_16 (pc' := 17) rfl rfl ?_
    refine w_iconst O d2_17 (z := (2 : Int32)) (pc' := 18) rfl rfl ?_
    refine w_icmp_ne O d2_18 (pn := 21) (pt := 31) rfl (by decide) rfl (fun c18 => ?_) (fun c18 => ?_)
    · replace c18 : ¬ k.toInt = 2 := c18
      refine w_iloadN O d2_31 (pc' := 32) rfl rfl ?_
      refine w_iconst O d2_32 (z := (3 : Int32)) (pc' := 33) rfl rfl ?_
      refine w_icmp_ne O d2_33 (pn := 36) (pt := 45) rfl (by decide) rfl (fun c33 => ?_) (fun c33 => ?_)
      · replace c33 : ¬ k.toInt = 3 := c33
        refine w_iloadN O d2_45 (pc' := 46) rfl rfl ?_
        refine w_iconst O d2_46 (z := (4 : Int32)) (pc' := 47) rfl rfl ?_
        refine w_icmp_ne O d2_47 (pn := 50) (pt := 58) rfl (by decide) rfl (fun c47 => ?_) (fun c47 => ?_)
        · replace c47 : ¬ k.toInt = 4 := c47
          refine w_iloadN O d2_58 (pc' := 59) rfl rfl ?_
          refine w_iconst O d2_59 (z := (5 : Int32)) (pc' := 60) rfl rfl ?_
          refine w_icmp_ne O d2_60 (pn := 63) (pt := 71) rfl (by decide) rfl (fun c60 => ?_) (fun c60 => ?_)
          · replace c60 : ¬ k.toInt = 5 := c60
            refine w_iconst O d2_71 (z := (0 : Int32)) (pc' := 72) rfl rfl ?_
            refine w_reti O d2_72 (by decide) (by decide) ?_
            refine ⟨_, rfl, rfl, ?_⟩
            have y0 : (0 : Int32).toInt = 0 := by decide
            unfold Gb
            refine ⟨?_, ?_, ?_, ?_, ?_⟩ <;> intro q <;> omega
          · replace c60 : k.toInt = 5 := c60
            refine w_ldc O d2_63 (pc' := 65) rfl (mw 20 rfl) ?_
            refine w_iloadN O d2_65 (pc' := 66) rfl rfl ?_
            refine w_ldc O d2_66 (pc' := 68) rfl (mw 21 rfl) ?_
            refine w_irem O d2_68 (pc' := 69) rfl (by decide) ?_
            refine w_iadd O d2_69 (pc' := 70) rfl ?_
            refine w_reti O d2_70 (by decide) (by decide) ?_
            refine ⟨_, rfl, rfl, ?_⟩
            have i3 : (0 ≤ m.toInt → (m % (1879048192 : Int32)).toInt = m.toInt % 1879048192) ∧ (m.toInt < 0 → (m % (1879048192 : Int32)).toInt = -((-m.toInt) % 1879048192)) := c_irem m (1879048192 : Int32) 1879048192 (by decide)
            have i4 : (((268435456 : Int32) + (m % (1879048192 : Int32))).toInt - (268435456 + (m % (1879048192 : Int32)).toInt)) % 4294967296 = 0 := c_iadd (268435456 : Int32) (m % (1879048192 : Int32))
            have i5 := rng32 ((268435456 : Int32) + (m % (1879048192 : Int32)))
            unfold Gb
            refine ⟨?_, ?_, ?_, ?_, ?_⟩ <;> intro q <;> omega
        · replace c47 : k.toInt = 4 := c47
          refine w_ldc O d2_50 (pc' := 52) rfl (mw 22 rfl) ?_
          refine w_iloadN O d2_52 (pc' := 53) rfl rfl ?_
          refine w_ldc O d2_53 (pc' := 55) rfl (mw 23 rfl) ?_
          refine w_irem O d2_55 (pc' := 56) rfl (by decide) ?_
          refine w_iadd O d2_56 (pc' := 57) rfl ?_
          refine w_reti O d2_57 (by decide) (by decide) ?_
          refine ⟨_, rfl, rfl, ?_⟩
          have i6 : (0 ≤ m.toInt → (m % (266338304 : Int32)).toInt = m.toInt % 266338304) ∧ (m.toInt < 0 → (m % (266338304 : Int32)).toInt = -((-m.toInt) % 266338304)) := c_irem m (266338304 : Int32) 266338304 (by decide)
          have i7 : (((2097152 : Int32) + (m % (266338304 : Int32))).toInt - (2097152 + (m % (266338304 : Int32)).toInt)) % 4294967296 = 0 := c_iadd (2097152 : Int32) (m % (266338304 : Int32))
          have i8 := rng32 ((2097152 : Int32) + (m % (266338304 : Int32)))
          unfold Gb
          refine ⟨?_, ?_, ?_, ?_, ?_⟩ <;> intro q <;> omega
      · replace c33 : k.toInt = 3 := c33
        refine w_sipush O d2_36 (z := (16384 : Int32)) (pc' := 39) rfl rfl ?_
        refine w_iloadN O d2_39 (pc' := 40) rfl rfl ?_
        refine w_ldc O d2_40 (pc' := 42) rfl (mw 24 rfl) ?_
        refine w_irem O d2_42 (pc' := 43) rfl (by decide) ?_
        refine w_iadd O d2_43 (pc' := 44) rfl ?_
        refine w_reti O d2_44 (by decide) (by decide) ?_
        refine ⟨_, rfl, rfl, ?_⟩
        have i9 : (0 ≤ m.toInt → (m % (2080768 : Int32)).toInt = m.toInt % 2080768) ∧ (m.toInt < 0 → (m % (2080768 : Int32)).toInt = -((-m.toInt) % 2080768)) := c_irem m (2080768 : Int32) 2080768 (by decide)
        have i10 : (((16384 : Int32) + (m % (2080768 : Int32))).toInt - (16384 + (m % (2080768 : Int32)).toInt)) % 4294967296 = 0 := c_iadd (16384 : Int32) (m % (2080768 : Int32))
        have i11 := rng32 ((16384 : Int32) + (m % (2080768 : Int32)))
        unfold Gb
        refine ⟨?_, ?_, ?_, ?_, ?_⟩ <;> intro q <;> omega
    · replace c18 : k.toInt = 2 := c18
      refine w_sipush O d2_21 (z := (128 : Int32)) (pc' := 24) rfl rfl ?_
      refine w_iloadN O d2_24 (pc' := 25) rfl rfl ?_
      refine w_sipush O d2_25 (z := (16256 : Int32)) (pc' := 28) rfl rfl ?_
      refine w_irem O d2_28 (pc' := 29) rfl (by decide) ?_
      refine w_iadd O d2_29 (pc' := 30) rfl ?_
      refine w_reti O d2_30 (by decide) (by decide) ?_
      refine ⟨_, rfl, rfl, ?_⟩
      have i12 : (0 ≤ m.toInt → (m % (16256 : Int32)).toInt = m.toInt % 16256) ∧ (m.toInt < 0 → (m % (16256 : Int32)).toInt = -((-m.toInt) % 16256)) := c_irem m (16256 : Int32) 16256 (by decide)
      have i13 : (((128 : Int32) + (m % (16256 : Int32))).toInt - (128 + (m % (16256 : Int32)).toInt)) % 4294967296 = 0 := c_iadd (128 : Int32) (m % (16256 : Int32))
      have i14 := rng32 ((128 : Int32) + (m % (16256 : Int32)))
      unfold Gb
      refine ⟨?_, ?_, ?_, ?_, ?_⟩ <;> intro q <;> omega
  · replace c7 : k.toInt = 1 := c7
    refine w_iloadN O d2_10 (pc' := 11) rfl rfl ?_
    refine w_sipush O d2_11 (z := (128 : Int32)) (pc' := 14) rfl rfl ?_
    refine w_irem O d2_14 (pc' := 15) rfl (by decide) ?_
    refine w_reti O d2_15 (by decide) (by decide) ?_
    refine ⟨_, rfl, rfl, ?_⟩
    have i15 : (0 ≤ m.toInt → (m % (128 : Int32)).toInt = m.toInt % 128) ∧ (m.toInt < 0 → (m % (128 : Int32)).toInt = -((-m.toInt) % 128)) := c_irem m (128 : Int32) 128 (by decide)
    unfold Gb
    refine ⟨?_, ?_, ?_, ?_, ?_⟩ <;> intro q <;> omega
def dg (g : Int32) : Nat → Int32
  | 0 => g &&& 127
  | 1 => ((g.toUInt32 >>> ((7 : Int32) &&& 31).toUInt32).toInt32) &&& 127
  | 2 => ((g.toUInt32 >>> ((14 : Int32) &&& 31).toUInt32).toInt32) &&& 127
  | 3 => ((g.toUInt32 >>> ((21 : Int32) &&& 31).toUInt32).toInt32) &&& 127
  | _ => ((g.toUInt32 >>> ((28 : Int32) &&& 31).toUInt32).toInt32) &&& 127
def enc (g : Int32) (m i : Nat) : Int32 := if i + 1 < m then (dg g i ||| 128).toInt8.toInt32 else (dg g i).toInt8.toInt32
def pokeF (f : Nat → Int32) (a m : Nat) (g : Int32) : Nat → Int32 := fun j => if a ≤ j ∧ j < a + m then enc g m (j - a) else f j
theorem nar_b (y : Int32) : nar .byte (y.toInt8.toInt32) = y.toInt8.toInt32 := by
  show (y.toInt8.toInt32).toInt8.toInt32 = _
  simp
theorem d3_0 : decode method_5_code 0 = .ok (.iload_n 2, 1) := by decide +kernel
theorem d3_1 : decode method_5_code 1 = .ok (.iconst 1, 1) := by decide +kernel
theorem d3_2 : decode method_5_code 2 = .ok (.if_icmp .lt 24, 3) := by decide +kernel
theorem d3_5 : decode method_5_code 5 = .ok (.aload_n 0, 1) := by decide +kernel
theorem d3_6 : decode method_5_code 6 = .ok (.iload_n 1, 1) := by decide +kernel
theorem d3_7 : decode method_5_code 7 = .ok (.iload_n 3, 1) := by decide +kernel
theorem d3_8 : decode method_5_code 8 = .ok (.bipush 127, 2) := by decide +kernel
theorem d3_10 : decode method_5_code 10 = .ok (.iand, 1) := by decide +kernel
theorem d3_11 : decode method_5_code 11 = .ok (.iload_n 2, 1) := by decide +kernel
theorem d3_12 : decode method_5_code 12 = .ok (.iconst 1, 1) := by decide +kernel
theorem d3_13 : decode method_5_code 13 = .ok (.if_icmp .le 9, 3) := by decide +kernel
theorem d3_16 : decode method_5_code 16 = .ok (.sipush 128, 3) := by decide +kernel
theorem d3_19 : decode method_5_code 19 = .ok (.goto 4, 3) := by decide +kernel
theorem d3_22 : decode method_5_code 22 = .ok (.iconst 0, 1) := by decide +kernel
theorem d3_23 : decode method_5_code 23 = .ok (.ior, 1) := by decide +kernel
theorem d3_24 : decode method_5_code 24 = .ok (.i2b, 1) := by decide +kernel
theorem d3_25 : decode method_5_code 25 = .ok (.bastore, 1) := by decide +kernel
theorem d3_26 : decode method_5_code 26 = .ok (.iload_n 2, 1) := by decide +kernel
theorem d3_27 : decode method_5_code 27 = .ok (.iconst 2, 1) := by decide +kernel
theorem d3_28 : decode method_5_code 28 = .ok (.if_icmp .lt 29, 3) := by decide +kernel
theorem d3_31 : decode method_5_code 31 = .ok (.aload_n 0, 1) := by decide +kernel
theorem d3_32 : decode method_5_code 32 = .ok (.iload_n 1, 1) := by decide +kernel
theorem d3_33 : decode method_5_code 33 = .ok (.iconst 1, 1) := by decide +kernel
theorem d3_34 : decode method_5_code 34 = .ok (.iadd, 1) := by decide +kernel
theorem d3_35 : decode method_5_code 35 = .ok (.iload_n 3, 1) := by decide +kernel
theorem d3_36 : decode method_5_code 36 = .ok (.bipush 7, 2) := by decide +kernel
theorem d3_38 : decode method_5_code 38 = .ok (.iushr, 1) := by decide +kernel
theorem d3_39 : decode method_5_code 39 = .ok (.bipush 127, 2) := by decide +kernel
theorem d3_41 : decode method_5_code 41 = .ok (.iand, 1) := by decide +kernel
theorem d3_42 : decode method_5_code 42 = .ok (.iload_n 2, 1) := by decide +kernel
theorem d3_43 : decode method_5_code 43 = .ok (.iconst 2, 1) := by decide +kernel
theorem d3_44 : decode method_5_code 44 = .ok (.if_icmp .le 9, 3) := by decide +kernel
theorem d3_47 : decode method_5_code 47 = .ok (.sipush 128, 3) := by decide +kernel
theorem d3_50 : decode method_5_code 50 = .ok (.goto 4, 3) := by decide +kernel
theorem d3_53 : decode method_5_code 53 = .ok (.iconst 0, 1) := by decide +kernel
theorem d3_54 : decode method_5_code 54 = .ok (.ior, 1) := by decide +kernel
theorem d3_55 : decode method_5_code 55 = .ok (.i2b, 1) := by decide +kernel
theorem d3_56 : decode method_5_code 56 = .ok (.bastore, 1) := by decide +kernel
theorem d3_57 : decode method_5_code 57 = .ok (.iload_n 2, 1) := by decide +kernel
theorem d3_58 : decode method_5_code 58 = .ok (.iconst 3, 1) := by decide +kernel
theorem d3_59 : decode method_5_code 59 = .ok (.if_icmp .lt 29, 3) := by decide +kernel
theorem d3_62 : decode method_5_code 62 = .ok (.aload_n 0, 1) := by decide +kernel
theorem d3_63 : decode method_5_code 63 = .ok (.iload_n 1, 1) := by decide +kernel
theorem d3_64 : decode method_5_code 64 = .ok (.iconst 2, 1) := by decide +kernel
theorem d3_65 : decode method_5_code 65 = .ok (.iadd, 1) := by decide +kernel
theorem d3_66 : decode method_5_code 66 = .ok (.iload_n 3, 1) := by decide +kernel
theorem d3_67 : decode method_5_code 67 = .ok (.bipush 14, 2) := by decide +kernel
theorem d3_69 : decode method_5_code 69 = .ok (.iushr, 1) := by decide +kernel
theorem d3_70 : decode method_5_code 70 = .ok (.bipush 127, 2) := by decide +kernel
theorem d3_72 : decode method_5_code 72 = .ok (.iand, 1) := by decide +kernel
theorem d3_73 : decode method_5_code 73 = .ok (.iload_n 2, 1) := by decide +kernel
theorem d3_74 : decode method_5_code 74 = .ok (.iconst 3, 1) := by decide +kernel
theorem d3_75 : decode method_5_code 75 = .ok (.if_icmp .le 9, 3) := by decide +kernel
theorem d3_78 : decode method_5_code 78 = .ok (.sipush 128, 3) := by decide +kernel
theorem d3_81 : decode method_5_code 81 = .ok (.goto 4, 3) := by decide +kernel
theorem d3_84 : decode method_5_code 84 = .ok (.iconst 0, 1) := by decide +kernel
theorem d3_85 : decode method_5_code 85 = .ok (.ior, 1) := by decide +kernel
theorem d3_86 : decode method_5_code 86 = .ok (.i2b, 1) := by decide +kernel
theorem d3_87 : decode method_5_code 87 = .ok (.bastore, 1) := by decide +kernel
theorem d3_88 : decode method_5_code 88 = .ok (.iload_n 2, 1) := by decide +kernel
theorem d3_89 : decode method_5_code 89 = .ok (.iconst 4, 1) := by decide +kernel
theorem d3_90 : decode method_5_code 90 = .ok (.if_icmp .lt 29, 3) := by decide +kernel
theorem d3_93 : decode method_5_code 93 = .ok (.aload_n 0, 1) := by decide +kernel
theorem d3_94 : decode method_5_code 94 = .ok (.iload_n 1, 1) := by decide +kernel
theorem d3_95 : decode method_5_code 95 = .ok (.iconst 3, 1) := by decide +kernel
theorem d3_96 : decode method_5_code 96 = .ok (.iadd, 1) := by decide +kernel
theorem d3_97 : decode method_5_code 97 = .ok (.iload_n 3, 1) := by decide +kernel
theorem d3_98 : decode method_5_code 98 = .ok (.bipush 21, 2) := by decide +kernel
theorem d3_100 : decode method_5_code 100 = .ok (.iushr, 1) := by decide +kernel
theorem d3_101 : decode method_5_code 101 = .ok (.bipush 127, 2) := by decide +kernel
theorem d3_103 : decode method_5_code 103 = .ok (.iand, 1) := by decide +kernel
theorem d3_104 : decode method_5_code 104 = .ok (.iload_n 2, 1) := by decide +kernel
theorem d3_105 : decode method_5_code 105 = .ok (.iconst 4, 1) := by decide +kernel
theorem d3_106 : decode method_5_code 106 = .ok (.if_icmp .le 9, 3) := by decide +kernel
theorem d3_109 : decode method_5_code 109 = .ok (.sipush 128, 3) := by decide +kernel
theorem d3_112 : decode method_5_code 112 = .ok (.goto 4, 3) := by decide +kernel
theorem d3_115 : decode method_5_code 115 = .ok (.iconst 0, 1) := by decide +kernel
theorem d3_116 : decode method_5_code 116 = .ok (.ior, 1) := by decide +kernel
theorem d3_117 : decode method_5_code 117 = .ok (.i2b, 1) := by decide +kernel
theorem d3_118 : decode method_5_code 118 = .ok (.bastore, 1) := by decide +kernel
theorem d3_119 : decode method_5_code 119 = .ok (.iload_n 2, 1) := by decide +kernel
theorem d3_120 : decode method_5_code 120 = .ok (.iconst 5, 1) := by decide +kernel
theorem d3_121 : decode method_5_code 121 = .ok (.if_icmp .lt 16, 3) := by decide +kernel
theorem d3_124 : decode method_5_code 124 = .ok (.aload_n 0, 1) := by decide +kernel
theorem d3_125 : decode method_5_code 125 = .ok (.iload_n 1, 1) := by decide +kernel
theorem d3_126 : decode method_5_code 126 = .ok (.iconst 4, 1) := by decide +kernel
theorem d3_127 : decode method_5_code 127 = .ok (.iadd, 1) := by decide +kernel
theorem d3_128 : decode method_5_code 128 = .ok (.iload_n 3, 1) := by decide +kernel
theorem d3_129 : decode method_5_code 129 = .ok (.bipush 28, 2) := by decide +kernel
theorem d3_131 : decode method_5_code 131 = .ok (.iushr, 1) := by decide +kernel
theorem d3_132 : decode method_5_code 132 = .ok (.bipush 127, 2) := by decide +kernel
theorem d3_134 : decode method_5_code 134 = .ok (.iand, 1) := by decide +kernel
theorem d3_135 : decode method_5_code 135 = .ok (.i2b, 1) := by decide +kernel
theorem d3_136 : decode method_5_code 136 = .ok (.bastore, 1) := by decide +kernel
theorem d3_137 : decode method_5_code 137 = .ok (.return_, 1) := by decide +kernel
theorem pn_3 : plainFor (⟨"com/example/acrawl/acrawl/store/RecordsDecodePositionsPinLaw", "put", "([BIII)V"⟩ : MethodName) = true := plainFor_of_name (by first | (simp [plainName, overriddenIn]; done) | decide +kernel)
set_option maxRecDepth 65536 in
set_option maxHeartbeats 40000000 in
theorem con_put (l : Launch) (Z : State) (a0 : Array Value) (hw : ∀ d ∈ tables_1, d.before a0 Z = true) (b : Addr) (s k g : Int32) (h0 : Heap) (n0 : Nat) (f : Nat → Int32) (a m : Nat) (A0 : Afn Z h0 b .byte 5 (fun j => .int (f j))) (hs : s.toInt = (a : Int)) (hk : k.toInt = (m : Int)) (ham : a + m ≤ 5) (gb : n0 ≤ b) :
    Con l Z (⟨"com/example/acrawl/acrawl/store/RecordsDecodePositionsPinLaw", "put", "([BIII)V"⟩ : MethodName) method_5_code 4 none ⟨0, 0, 0, 0⟩ [(.ref b), (.int s), (.int k), (.int g)] h0 n0 (RetV fun h => Afn Z h b .byte 5 (fun j => .int (pokeF f a m g j))) := by
  refine Con.body (L0 := #[.val (.ref b), .val (.int s), .val (.int k), .val (.int g)]) hw pn_3 (fun m => by first | (simp [entryFrame, mkF, argsToLocals, Value.category]; done) | rfl) (fun K O => ?_)
  refine w_iloadN O d3_0 (pc' := 1) rfl rfl ?_
  refine w_iconst O d3_1 (z := (1 : Int32)) (pc' := 2) rfl rfl ?_
  have J26 : ∀ (h901 : Heap), Afn Z h901 b .byte 5 (fun j => .int (if a ≤ j ∧ j < a + 1 ∧ j < a + m then enc g m (j - a) else f j)) → W K h901 0 0 26 #[.val (.ref b), .val (.int s), .val (.int k), .val (.int g)] [] := by
    intro h901 A1
    refine w_iloadN O d3_26 (pc' := 27) rfl rfl ?_
    refine w_iconst O d3_27 (z := (2 : Int32)) (pc' := 28) rfl rfl ?_
    have J57 : ∀ (h902 : Heap), Afn Z h902 b .byte 5 (fun j => .int (if a ≤ j ∧ j < a + 2 ∧ j < a + m then enc g m (j - a) else f j)) → W K h902 0 0 57 #[.val (.ref b), .val (.int s), .val (.int k), .val (.int g)] [] := by
      intro h902 A2
      refine w_iloadN O d3_57 (pc' := 58) rfl rfl ?_
      refine w_iconst O d3_58 (z := (3 : Int32)) (pc' := 59) rfl rfl ?_
      have J88 : ∀ (h903 : Heap), Afn Z h903 b .byte 5 (fun j => .int (if a ≤ j ∧ j < a + 3 ∧ j < a + m then enc g m (j - a) else f j)) → W K h903 0 0 88 #[.val (.ref b), .val (.int s), .val (.int k), .val (.int g)] [] := by
        intro h903 A3
        refine w_iloadN O d3_88 (pc' := 89) rfl rfl ?_
        refine w_iconst O d3_89 (z := (4 : Int32)) (pc' := 90) rfl rfl ?_
        have J119 : ∀ (h904 : Heap), Afn Z h904 b .byte 5 (fun j => .int (if a ≤ j ∧ j < a + 4 ∧ j < a + m then enc g m (j - a) else f j)) → W K h904 0 0 119 #[.val (.ref b), .val (.int s), .val (.int k), .val (.int g)] [] := by
          intro h904 A4
          refine w_iloadN O d3_119 (pc' := 120) rfl rfl ?_
          refine w_iconst O d3_120 (z := (5 : Int32)) (pc' := 121) rfl rfl ?_
          have J137 : ∀ (h905 : Heap), Afn Z h905 b .byte 5 (fun j => .int (if a ≤ j ∧ j < a + 5 ∧ j < a + m then enc g m (j - a) else f j)) → W K h905 0 0 137 #[.val (.ref b), .val (.int s), .val (.int k), .val (.int g)] [] := by
            intro h905 A5
            refine w_retv O d3_137 (by decide) (by decide) ?_
            refine ⟨rfl, A5.congr fun j hj => ?_⟩
            unfold pokeF
            try dsimp only
            by_cases q1 : a ≤ j ∧ j < a + m
            · rw [if_pos q1, if_pos (by omega)]
            · rw [if_neg q1, if_neg (by omega)]
          refine w_icmp_lt O d3_121 (pn := 124) (pt := 137) rfl (by decide) rfl (fun c121 => ?_) (fun c121 => ?_)
          · replace c121 : k.toInt < 5 := c121
            refine J137 _ (A4.congr fun j hj => ?_)
            try dsimp only
            by_cases q1 : a ≤ j ∧ j < a + 4 ∧ j < a + m
            · rw [if_pos q1, if_pos (by omega)]
            · rw [if_neg q1, if_neg (by omega)]
          · replace c121 : ¬ k.toInt < 5 := c121
            refine w_aloadN O d3_124 (pc' := 125) rfl rfl rfl ?_
            refine w_iloadN O d3_125 (pc' := 126) rfl rfl ?_
            refine w_iconst O d3_126 (z := (4 : Int32)) (pc' := 127) rfl rfl ?_
            refine w_iadd O d3_127 (pc' := 128) rfl ?_
            refine w_iloadN O d3_128 (pc' := 129) rfl rfl ?_
            refine w_bipush O d3_129 (z := (28 : Int32)) (pc' := 131) rfl rfl ?_
            refine w_iushr O d3_131 (pc' := 132) rfl ?_
            refine w_bipush O d3_132 (z := (127 : Int32)) (pc' := 134) rfl rfl ?_
            refine w_iand O d3_134 (pc' := 135) rfl ?_
            refine w_i2b O d3_135 (pc' := 136) rfl ?_
            have i2 : ((s + (4 : Int32)).toInt - (s.toInt + 4)) % 4294967296 = 0 := c_iadd s (4 : Int32)
            have i3 := rng32 (s + (4 : Int32))
            refine w_bastore O d3_136 (i := (a + 4)) (pc' := 137) rfl A4 (by omega) (by omega) gb (fun h1 Wh1 => ?_)
            have A4_h1 := A4.set Wh1
            refine J137 _ (A4_h1.congr fun j hj => ?_)
            unfold upd
            by_cases q1 : j = a + 4
            · rw [if_pos q1, if_pos (by omega), nar_b, show j - a = 4 by omega]
              unfold enc
              first | (rw [if_pos (by omega)]; rfl) | (rw [if_neg (by omega)]; simp [dg])
            · rw [if_neg q1]
              try dsimp only
              by_cases q2 : a ≤ j ∧ j < a + 4 ∧ j < a + m
              · rw [if_pos q2, if_pos (by omega)]
              · rw [if_neg q2, if_neg (by omega)]
        refine w_icmp_lt O d3_90 (pn := 93) (pt := 119) rfl (by decide) rfl (fun c90 => ?_) (fun c90 => ?_)
        · replace c90 : k.toInt < 4 := c90
          refine J119 _ (A3.congr fun j hj => ?_)
          try dsimp only
          by_cases q1 : a ≤ j ∧ j < a + 3 ∧ j < a + m
          · rw [if_pos q1, if_pos (by omega)]
          · rw [if_neg q1, if_neg (by omega)]
        · replace c90 : ¬ k.toInt < 4 := c90
          refine w_aloadN O d3_93 (pc' := 94) rfl rfl rfl ?_
          refine w_iloadN O d3_94 (pc' := 95) rfl rfl ?_
          refine w_iconst O d3_95 (z := (3 : Int32)) (pc' := 96) rfl rfl ?_
          refine w_iadd O d3_96 (pc' := 97) rfl ?_
          refine w_iloadN O d3_97 (pc' := 98) rfl rfl ?_
          refine w_bipush O d3_98 (z := (21 : Int32)) (pc' := 100) rfl rfl ?_
          refine w_iushr O d3_100 (pc' := 101) rfl ?_
          refine w_bipush O d3_101 (z := (127 : Int32)) (pc' := 103) rfl rfl ?_
          refine w_iand O d3_103 (pc' := 104) rfl ?_
          refine w_iloadN O d3_104 (pc' := 105) rfl rfl ?_
          refine w_iconst O d3_105 (z := (4 : Int32)) (pc' := 106) rfl rfl ?_
          refine w_icmp_le O d3_106 (pn := 109) (pt := 115) rfl (by decide) rfl (fun c106 => ?_) (fun c106 => ?_)
          · replace c106 : ¬ 4 < k.toInt := c106
            refine w_iconst O d3_115 (z := (0 : Int32)) (pc' := 116) rfl rfl ?_
            refine w_ior O d3_116 (pc' := 117) rfl ?_
            refine w_i2b O d3_117 (pc' := 118) rfl ?_
            have i5 : ((s + (3 : Int32)).toInt - (s.toInt + 3)) % 4294967296 = 0 := c_iadd s (3 : Int32)
            have i6 := rng32 (s + (3 : Int32))
            refine w_bastore O d3_118 (i := (a + 3)) (pc' := 119) rfl A3 (by omega) (by omega) gb (fun h4 Wh4 => ?_)
            have A3_h4 := A3.set Wh4
            refine J119 _ (A3_h4.congr fun j hj => ?_)
            unfold upd
            by_cases q1 : j = a + 3
            · rw [if_pos q1, if_pos (by omega), nar_b, show j - a = 3 by omega]
              unfold enc
              first | (rw [if_pos (by omega)]; rfl) | (rw [if_neg (by omega)]; simp [dg])
            · rw [if_neg q1]
              try dsimp only
              by_cases q2 : a ≤ j ∧ j < a + 3 ∧ j < a + m
              · rw [if_pos q2, if_pos (by omega)]
              · rw [if_neg q2, if_neg (by omega)]
          · replace c106 : 4 < k.toInt := c106
            refine w_sipush O d3_109 (z := (128 : Int32)) (pc' := 112) rfl rfl ?_
            refine w_goto O d3_112 (pc' := 116) (by decide) rfl ?_
            refine w_ior O d3_116 (pc' := 117) rfl ?_
            refine w_i2b O d3_117 (pc' := 118) rfl ?_
            have i8 : ((s + (3 : Int32)).toInt - (s.toInt + 3)) % 4294967296 = 0 := c_iadd s (3 : Int32)
            have i9 := rng32 (s + (3 : Int32))
            refine w_bastore O d3_118 (i := (a + 3)) (pc' := 119) rfl A3 (by omega) (by omega) gb (fun h7 Wh7 => ?_)
            have A3_h7 := A3.set Wh7
            refine J119 _ (A3_h7.congr fun j hj => ?_)
            unfold upd
            by_cases q1 : j = a + 3
            · rw [if_pos q1, if_pos (by omega), nar_b, show j - a = 3 by omega]
              unfold enc
              first | (rw [if_pos (by omega)]; rfl) | (rw [if_neg (by omega)]; simp [dg])
            · rw [if_neg q1]
              try dsimp only
              by_cases q2 : a ≤ j ∧ j < a + 3 ∧ j < a + m
              · rw [if_pos q2, if_pos (by omega)]
              · rw [if_neg q2, if_neg (by omega)]
      refine w_icmp_lt O d3_59 (pn := 62) (pt := 88) rfl (by decide) rfl (fun c59 => ?_) (fun c59 => ?_)
      · replace c59 : k.toInt < 3 := c59
        refine J88 _ (A2.congr fun j hj => ?_)
        try dsimp only
        by_cases q1 : a ≤ j ∧ j < a + 2 ∧ j < a + m
        · rw [if_pos q1, if_pos (by omega)]
        · rw [if_neg q1, if_neg (by omega)]
      · replace c59 : ¬ k.toInt < 3 := c59
        refine w_aloadN O d3_62 (pc' := 63) rfl rfl rfl ?_
        refine w_iloadN O d3_63 (pc' := 64) rfl rfl ?_
        refine w_iconst O d3_64 (z := (2 : Int32)) (pc' := 65) rfl rfl ?_
        refine w_iadd O d3_65 (pc' := 66) rfl ?_
        refine w_iloadN O d3_66 (pc' := 67) rfl rfl ?_
        refine w_bipush O d3_67 (z := (14 : Int32)) (pc' := 69) rfl rfl ?_
        refine w_iushr O d3_69 (pc' := 70) rfl ?_
        refine w_bipush O d3_70 (z := (127 : Int32)) (pc' := 72) rfl rfl ?_
        refine w_iand O d3_72 (pc' := 73) rfl ?_
        refine w_iloadN O d3_73 (pc' := 74) rfl rfl ?_
        refine w_iconst O d3_74 (z := (3 : Int32)) (pc' := 75) rfl rfl ?_
        refine w_icmp_le O d3_75 (pn := 78) (pt := 84) rfl (by decide) rfl (fun c75 => ?_) (fun c75 => ?_)
        · replace c75 : ¬ 3 < k.toInt := c75
          refine w_iconst O d3_84 (z := (0 : Int32)) (pc' := 85) rfl rfl ?_
          refine w_ior O d3_85 (pc' := 86) rfl ?_
          refine w_i2b O d3_86 (pc' := 87) rfl ?_
          have i11 : ((s + (2 : Int32)).toInt - (s.toInt + 2)) % 4294967296 = 0 := c_iadd s (2 : Int32)
          have i12 := rng32 (s + (2 : Int32))
          refine w_bastore O d3_87 (i := (a + 2)) (pc' := 88) rfl A2 (by omega) (by omega) gb (fun h10 Wh10 => ?_)
          have A2_h10 := A2.set Wh10
          refine J88 _ (A2_h10.congr fun j hj => ?_)
          unfold upd
          by_cases q1 : j = a + 2
          · rw [if_pos q1, if_pos (by omega), nar_b, show j - a = 2 by omega]
            unfold enc
            first | (rw [if_pos (by omega)]; rfl) | (rw [if_neg (by omega)]; simp [dg])
          · rw [if_neg q1]
            try dsimp only
            by_cases q2 : a ≤ j ∧ j < a + 2 ∧ j < a + m
            · rw [if_pos q2, if_pos (by omega)]
            · rw [if_neg q2, if_neg (by omega)]
        · replace c75 : 3 < k.toInt := c75
          refine w_sipush O d3_78 (z := (128 : Int32)) (pc' := 81) rfl rfl ?_
          refine w_goto O d3_81 (pc' := 85) (by decide) rfl ?_
          refine w_ior O d3_85 (pc' := 86) rfl ?_
          refine w_i2b O d3_86 (pc' := 87) rfl ?_
          have i14 : ((s + (2 : Int32)).toInt - (s.toInt + 2)) % 4294967296 = 0 := c_iadd s (2 : Int32)
          have i15 := rng32 (s + (2 : Int32))
          refine w_bastore O d3_87 (i := (a + 2)) (pc' := 88) rfl A2 (by omega) (by omega) gb (fun h13 Wh13 => ?_)
          have A2_h13 := A2.set Wh13
          refine J88 _ (A2_h13.congr fun j hj => ?_)
          unfold upd
          by_cases q1 : j = a + 2
          · rw [if_pos q1, if_pos (by omega), nar_b, show j - a = 2 by omega]
            unfold enc
            first | (rw [if_pos (by omega)]; rfl) | (rw [if_neg (by omega)]; simp [dg])
          · rw [if_neg q1]
            try dsimp only
            by_cases q2 : a ≤ j ∧ j < a + 2 ∧ j < a + m
            · rw [if_pos q2, if_pos (by omega)]
            · rw [if_neg q2, if_neg (by omega)]
    refine w_icmp_lt O d3_28 (pn := 31) (pt := 57) rfl (by decide) rfl (fun c28 => ?_) (fun c28 => ?_)
    · replace c28 : k.toInt < 2 := c28
      refine J57 _ (A1.congr fun j hj => ?_)
      try dsimp only
      by_cases q1 : a ≤ j ∧ j < a + 1 ∧ j < a + m
      · rw [if_pos q1, if_pos (by omega)]
      · rw [if_neg q1, if_neg (by omega)]
    · replace c28 : ¬ k.toInt < 2 := c28
      refine w_aloadN O d3_31 (pc' := 32) rfl rfl rfl ?_
      refine w_iloadN O d3_32 (pc' := 33) rfl rfl ?_
      refine w_iconst O d3_33 (z := (1 : Int32)) (pc' := 34) rfl rfl ?_
      refine w_iadd O d3_34 (pc' := 35) rfl ?_
      refine w_iloadN O d3_35 (pc' := 36) rfl rfl ?_
      refine w_bipush O d3_36 (z := (7 : Int32)) (pc' := 38) rfl rfl ?_
      refine w_iushr O d3_38 (pc' := 39) rfl ?_
      refine w_bipush O d3_39 (z := (127 : Int32)) (pc' := 41) rfl rfl ?_
      refine w_iand O d3_41 (pc' := 42) rfl ?_
      refine w_iloadN O d3_42 (pc' := 43) rfl rfl ?_
      refine w_iconst O d3_43 (z := (2 : Int32)) (pc' := 44) rfl rfl ?_
      refine w_icmp_le O d3_44 (pn := 47) (pt := 53) rfl (by decide) rfl (fun c44 => ?_) (fun c44 => ?_)
      · replace c44 : ¬ 2 < k.toInt := c44
        refine w_iconst O d3_53 (z := (0 : Int32)) (pc' := 54) rfl rfl ?_
        refine w_ior O d3_54 (pc' := 55) rfl ?_
        refine w_i2b O d3_55 (pc' := 56) rfl ?_
        have i17 : ((s + (1 : Int32)).toInt - (s.toInt + 1)) % 4294967296 = 0 := c_iadd s (1 : Int32)
        have i18 := rng32 (s + (1 : Int32))
        refine w_bastore O d3_56 (i := (a + 1)) (pc' := 57) rfl A1 (by omega) (by omega) gb (fun h16 Wh16 => ?_)
        have A1_h16 := A1.set Wh16
        refine J57 _ (A1_h16.congr fun j hj => ?_)
        unfold upd
        by_cases q1 : j = a + 1
        · rw [if_pos q1, if_pos (by omega), nar_b, show j - a = 1 by omega]
          unfold enc
          first | (rw [if_pos (by omega)]; rfl) | (rw [if_neg (by omega)]; simp [dg])
        · rw [if_neg q1]
          try dsimp only
          by_cases q2 : a ≤ j ∧ j < a + 1 ∧ j < a + m
          · rw [if_pos q2, if_pos (by omega)]
          · rw [if_neg q2, if_neg (by omega)]
      · replace c44 : 2 < k.toInt := c44
        refine w_sipush O d3_47 (z := (128 : Int32)) (pc' := 50) rfl rfl ?_
        refine w_goto O d3_50 (pc' := 54) (by decide) rfl ?_
        refine w_ior O d3_54 (pc' := 55) rfl ?_
        refine w_i2b O d3_55 (pc' := 56) rfl ?_
        have i20 : ((s + (1 : Int32)).toInt - (s.toInt + 1)) % 4294967296 = 0 := c_iadd s (1 : Int32)
        have i21 := rng32 (s + (1 : Int32))
        refine w_bastore O d3_56 (i := (a + 1)) (pc' := 57) rfl A1 (by omega) (by omega) gb (fun h19 Wh19 => ?_)
        have A1_h19 := A1.set Wh19
        refine J57 _ (A1_h19.congr fun j hj => ?_)
        unfold upd
        by_cases q1 : j = a + 1
        · rw [if_pos q1, if_pos (by omega), nar_b, show j - a = 1 by omega]
          unfold enc
          first | (rw [if_pos (by omega)]; rfl) | (rw [if_neg (by omega)]; simp [dg])
        · rw [if_neg q1]
          try dsimp only
          by_cases q2 : a ≤ j ∧ j < a + 1 ∧ j < a + m
          · rw [if_pos q2, if_pos (by omega)]
          · rw [if_neg q2, if_neg (by omega)]
  refine w_icmp_lt O d3_2 (pn := 5) (pt := 26) rfl (by decide) rfl (fun c2 => ?_) (fun c2 => ?_)
  · replace c2 : k.toInt < 1 := c2
    refine J26 _ (A0.congr fun j hj => ?_)
    try dsimp only
    rw [if_neg (by omega)]
  · replace c2 : ¬ k.toInt < 1 := c2
    refine w_aloadN O d3_5 (pc' := 6) rfl rfl rfl ?_
    refine w_iloadN O d3_6 (pc' := 7) rfl rfl ?_
    refine w_iloadN O d3_7 (pc' := 8) rfl rfl ?_
    refine w_bipush O d3_8 (z := (127 : Int32)) (pc' := 10) rfl rfl ?_
    refine w_iand O d3_10 (pc' := 11) rfl ?_
    refine w_iloadN O d3_11 (pc' := 12) rfl rfl ?_
    refine w_iconst O d3_12 (z := (1 : Int32)) (pc' := 13) rfl rfl ?_
    refine w_icmp_le O d3_13 (pn := 16) (pt := 22) rfl (by decide) rfl (fun c13 => ?_) (fun c13 => ?_)
    · replace c13 : ¬ 1 < k.toInt := c13
      refine w_iconst O d3_22 (z := (0 : Int32)) (pc' := 23) rfl rfl ?_
      refine w_ior O d3_23 (pc' := 24) rfl ?_
      refine w_i2b O d3_24 (pc' := 25) rfl ?_
      refine w_bastore O d3_25 (i := (a + 0)) (pc' := 26) rfl A0 (by omega) (by omega) gb (fun h22 Wh22 => ?_)
      have A0_h22 := A0.set Wh22
      refine J26 _ (A0_h22.congr fun j hj => ?_)
      unfold upd
      by_cases q1 : j = a + 0
      · rw [if_pos q1, if_pos (by omega), nar_b, show j - a = 0 by omega]
        unfold enc
        first | (rw [if_pos (by omega)]; rfl) | (rw [if_neg (by omega)]; simp [dg])
      · rw [if_neg q1]
        try dsimp only
        rw [if_neg (by omega)]
    · replace c13 : 1 < k.toInt := c13
      refine w_sipush O d3_16 (z := (128 : Int32)) (pc' := 19) rfl rfl ?_
      refine w_goto O d3_19 (pc' := 23) (by decide) rfl ?_
      refine w_ior O d3_23 (pc' := 24) rfl ?_
      refine w_i2b O d3_24 (pc' := 25) rfl ?_
      refine w_bastore O d3_25 (i := (a + 0)) (pc' := 26) rfl A0 (by omega) (by omega) gb (fun h23 Wh23 => ?_)
      have A0_h23 := A0.set Wh23
      refine J26 _ (A0_h23.congr fun j hj => ?_)
      unfold upd
      by_cases q1 : j = a + 0
      · rw [if_pos q1, if_pos (by omega), nar_b, show j - a = 0 by omega]
        unfold enc
        first | (rw [if_pos (by omega)]; rfl) | (rw [if_neg (by omega)]; simp [dg])
      · rw [if_neg q1]
        try dsimp only
        rw [if_neg (by omega)]
theorem dig128 : ∀ n : Fin 128, ((Int32.ofNat n.1 ||| 128).toInt8.toInt32).toInt < 0 ∧ ((Int32.ofNat n.1 ||| 128).toInt8.toInt32 &&& 127) = Int32.ofNat n.1 ∧ ¬ ((Int32.ofNat n.1).toInt8.toInt32).toInt < 0 ∧ ((Int32.ofNat n.1).toInt8.toInt32 &&& 127) = Int32.ofNat n.1 := by decide +kernel
theorem dig (d : Int32) (h0 : 0 ≤ d.toInt) (h1 : d.toInt < 128) : ((d ||| 128).toInt8.toInt32).toInt < 0 ∧ ((d ||| 128).toInt8.toInt32 &&& 127) = d ∧ ¬ (d.toInt8.toInt32).toInt < 0 ∧ (d.toInt8.toInt32 &&& 127) = d := by
  obtain ⟨n, hn⟩ : ∃ n : Nat, d.toInt = n := ⟨d.toInt.toNat, by omega⟩
  have e := of_nat32 hn
  have h := dig128 ⟨n, by omega⟩
  dsimp only at h
  rw [← e] at h; exact h
theorem dgv (g : Int32) (hg : 0 ≤ g.toInt) : (dg g 0).toInt = g.toInt % 128 ∧ (dg g 1).toInt = g.toInt / 128 % 128 ∧ (dg g 2).toInt = g.toInt / 16384 % 128 ∧ (dg g 3).toInt = g.toInt / 2097152 % 128 ∧ (dg g 4).toInt = g.toInt / 268435456 % 128 := by
  have r := rng32 g
  have a1 : ((g.toUInt32 >>> ((7 : Int32) &&& 31).toUInt32).toInt32).toInt = (g.toInt % 4294967296) / 128 := c_iushr g 7 7 (by decide) (by decide)
  have a2 : ((g.toUInt32 >>> ((14 : Int32) &&& 31).toUInt32).toInt32).toInt = (g.toInt % 4294967296) / 16384 := c_iushr g 14 14 (by decide) (by decide)
  have a3 : ((g.toUInt32 >>> ((21 : Int32) &&& 31).toUInt32).toInt32).toInt = (g.toInt % 4294967296) / 2097152 := c_iushr g 21 21 (by decide) (by decide)
  have a4 : ((g.toUInt32 >>> ((28 : Int32) &&& 31).toUInt32).toInt32).toInt = (g.toInt % 4294967296) / 268435456 := c_iushr g 28 28 (by decide) (by decide)
  have mk : ∀ x : Int32, (x &&& 127).toInt = x.toInt % 128 := fun x => c_mask x 127 7 (by decide) (by decide)
  refine ⟨mk g, ?_, ?_, ?_, ?_⟩
  · show (_ &&& (127 : Int32)).toInt = _; rw [mk, a1]; omega
  · show (_ &&& (127 : Int32)).toInt = _; rw [mk, a2]; omega
  · show (_ &&& (127 : Int32)).toInt = _; rw [mk, a3]; omega
  · show (_ &&& (127 : Int32)).toInt = _; rw [mk, a4]; omega
theorem acc0 (d : Int32) : (0 : Int32) ||| (d <<< ((0 : Int32) &&& 31)) = d := by
  have e : ((0 : Int32) &&& 31) = 0 := by decide
  rw [e]; simp
theorem neg1_add (g : Int32) : (-1 : Int32) + (g + 1) = g := by
  apply Int32.toInt_inj.mp
  have a : (((g + (1 : Int32))).toInt - (g.toInt + 1)) % 4294967296 = 0 := c_iadd g 1
  have b : (((-1 : Int32) + (g + 1)).toInt - ((-1) + (g + 1).toInt)) % 4294967296 = 0 := c_iadd (-1) (g + 1)
  have r1 := rng32 (g + 1)
  have r2 := rng32 ((-1 : Int32) + (g + 1))
  have r3 := rng32 g
  omega
theorem acc7 (x d : Int32) (h1 : 0 ≤ x.toInt) (h2 : x.toInt < 128) (h3 : 0 ≤ d.toInt) (h4 : x.toInt + d.toInt * 128 < 2147483648) : (x ||| (d <<< ((7 : Int32) &&& 31))).toInt = x.toInt + d.toInt * 128 := by
  have a : ((d <<< ((7 : Int32) &&& 31)).toInt - d.toInt * 128) % 4294967296 = 0 := c_ishl d 7 7 (by decide)
  have r := rng32 (d <<< ((7 : Int32) &&& 31))
  have o := c_or' x (d <<< ((7 : Int32) &&& 31)) 7 (by decide) 128 (by decide) (by omega) h1 h2
  have r2 := rng32 (x ||| (d <<< ((7 : Int32) &&& 31)))
  omega
theorem acc14 (x d : Int32) (h1 : 0 ≤ x.toInt) (h2 : x.toInt < 16384) (h3 : 0 ≤ d.toInt) (h4 : x.toInt + d.toInt * 16384 < 2147483648) : (x ||| (d <<< ((14 : Int32) &&& 31))).toInt = x.toInt + d.toInt * 16384 := by
  have a : ((d <<< ((14 : Int32) &&& 31)).toInt - d.toInt * 16384) % 4294967296 = 0 := c_ishl d 14 14 (by decide)
  have r := rng32 (d <<< ((14 : Int32) &&& 31))
  have o := c_or' x (d <<< ((14 : Int32) &&& 31)) 14 (by decide) 16384 (by decide) (by omega) h1 h2
  have r2 := rng32 (x ||| (d <<< ((14 : Int32) &&& 31)))
  omega
theorem acc21 (x d : Int32) (h1 : 0 ≤ x.toInt) (h2 : x.toInt < 2097152) (h3 : 0 ≤ d.toInt) (h4 : x.toInt + d.toInt * 2097152 < 2147483648) : (x ||| (d <<< ((21 : Int32) &&& 31))).toInt = x.toInt + d.toInt * 2097152 := by
  have a : ((d <<< ((21 : Int32) &&& 31)).toInt - d.toInt * 2097152) % 4294967296 = 0 := c_ishl d 21 21 (by decide)
  have r := rng32 (d <<< ((21 : Int32) &&& 31))
  have o := c_or' x (d <<< ((21 : Int32) &&& 31)) 21 (by decide) 2097152 (by decide) (by omega) h1 h2
  have r2 := rng32 (x ||| (d <<< ((21 : Int32) &&& 31)))
  omega
theorem acc28 (x d : Int32) (h1 : 0 ≤ x.toInt) (h2 : x.toInt < 268435456) (h3 : 0 ≤ d.toInt) (h4 : x.toInt + d.toInt * 268435456 < 2147483648) : (x ||| (d <<< ((28 : Int32) &&& 31))).toInt = x.toInt + d.toInt * 268435456 := by
  have a : ((d <<< ((28 : Int32) &&& 31)).toInt - d.toInt * 268435456) % 4294967296 = 0 := c_ishl d 28 28 (by decide)
  have r := rng32 (d <<< ((28 : Int32) &&& 31))
  have o := c_or' x (d <<< ((28 : Int32) &&& 31)) 28 (by decide) 268435456 (by decide) (by omega) h1 h2
  have r2 := rng32 (x ||| (d <<< ((28 : Int32) &&& 31)))
  omega
theorem stN {F : Nat → Int32} {k : Nat} {p q s d q' s' : Int32} (hs : dsB F k = (p, q, s)) (hn : (F k).toInt < 0) (hd : (F k &&& 127) = d) (hq : q ||| (d <<< (s &&& 31)) = q') (h7 : s + 7 = s') : dsB F (k + 1) = (p, q', s') ∧ cntB F (k + 1) = cntB F k ∧ outB F (k + 1) = outB F k := by
  refine ⟨?_, ?_, ?_⟩
  · rw [dsB, if_pos hn, hs, hd, hq, h7]
  · rw [cntB, if_pos hn]; rfl
  · rw [outB, if_pos hn]
theorem stP {F : Nat → Int32} {k : Nat} {p q s d q' : Int32} (hs : dsB F k = (p, q, s)) (hn : ¬ (F k).toInt < 0) (hd : (F k &&& 127) = d) (hq : q ||| (d <<< (s &&& 31)) = q') : dsB F (k + 1) = (p + (q' + 1), 0, 0) ∧ cntB F (k + 1) = cntB F k + 1 ∧ outB F (k + 1) = updI (outB F k) (cntB F k) (p + (q' + 1)) := by
  have e : dsB F (k + 1) = (p + (q' + 1), 0, 0) := by rw [dsB, if_neg hn, hs, hd, hq]
  refine ⟨e, ?_, ?_⟩
  · rw [cntB, if_neg hn]
  · rw [outB, if_neg hn, e]
set_option maxRecDepth 65536 in
set_option maxHeartbeats 4000000 in
theorem seg (F : Nat → Int32) (a m : Nat) (g p : Int32) (hs : dsB F a = (p, 0, 0)) (hb : Gb m g.toInt) (h1 : 1 ≤ m) (h5 : m ≤ 5) (hF : ∀ i, i < m → F (a + i) = enc g m i) : dsB F (a + m) = (p + (g + 1), 0, 0) ∧ cntB F (a + m) = cntB F a + 1 ∧ outB F (a + m) = updI (outB F a) (cntB F a) (p + (g + 1)) := by
  unfold Gb at hb
  have hg : 0 ≤ g.toInt := by omega
  have v := dgv g hg
  have hm : m = 1 ∨ m = 2 ∨ m = 3 ∨ m = 4 ∨ m = 5 := by omega
  rcases hm with rfl | rfl | rfl | rfl | rfl
  · have f0 : F (a + 0) = (dg g 0).toInt8.toInt32 := hF 0 (by omega)
    have t0 := dig (dg g 0) (by omega) (by omega)
    rw [Nat.add_zero] at f0
    have hq : (dg g 0) = g := Int32.toInt_inj.mp (by omega)
    obtain ⟨e1, e2, e3⟩ := stP (d := (dg g 0)) (q' := g) hs (by rw [f0]; exact t0.2.2.1) (by rw [f0]; exact t0.2.2.2) ((acc0 _).trans hq)
    exact ⟨e1, e2, e3⟩
  · have f0 : F (a + 0) = ((dg g 0) ||| 128).toInt8.toInt32 := hF 0 (by omega)
    have t0 := dig (dg g 0) (by omega) (by omega)
    rw [Nat.add_zero] at f0
    obtain ⟨s0, c0, o0⟩ := stN (d := (dg g 0)) (q' := (dg g 0)) (s' := (7 : Int32)) hs (by rw [f0]; exact t0.1) (by rw [f0]; exact t0.2.1) (acc0 _) rfl
    have f1 : F (a + 1) = (dg g 1).toInt8.toInt32 := hF 1 (by omega)
    have t1 := dig (dg g 1) (by omega) (by omega)
    have w1 := acc7 (dg g 0) (dg g 1) (by omega) (by omega) (by omega) (by omega)
    have hq : ((dg g 0) ||| ((dg g 1) <<< ((7 : Int32) &&& 31))) = g := Int32.toInt_inj.mp (by omega)
    obtain ⟨e1, e2, e3⟩ := stP (d := (dg g 1)) (q' := g) s0 (by rw [f1]; exact t1.2.2.1) (by rw [f1]; exact t1.2.2.2) hq
    exact ⟨e1, by rw [e2, c0], by rw [e3, o0, c0]⟩
  · have f0 : F (a + 0) = ((dg g 0) ||| 128).toInt8.toInt32 := hF 0 (by omega)
    have t0 := dig (dg g 0) (by omega) (by omega)
    rw [Nat.add_zero] at f0
    obtain ⟨s0, c0, o0⟩ := stN (d := (dg g 0)) (q' := (dg g 0)) (s' := (7 : Int32)) hs (by rw [f0]; exact t0.1) (by rw [f0]; exact t0.2.1) (acc0 _) rfl
    have f1 : F (a + 1) = ((dg g 1) ||| 128).toInt8.toInt32 := hF 1 (by omega)
    have t1 := dig (dg g 1) (by omega) (by omega)
    have w1 := acc7 (dg g 0) (dg g 1) (by omega) (by omega) (by omega) (by omega)
    obtain ⟨s1, c1, o1⟩ := stN (d := (dg g 1)) (q' := ((dg g 0) ||| ((dg g 1) <<< ((7 : Int32) &&& 31)))) (s' := (14 : Int32)) s0 (by rw [f1]; exact t1.1) (by rw [f1]; exact t1.2.1) rfl rfl
    have f2 : F (a + 2) = (dg g 2).toInt8.toInt32 := hF 2 (by omega)
    have t2 := dig (dg g 2) (by omega) (by omega)
    have w2 := acc14 ((dg g 0) ||| ((dg g 1) <<< ((7 : Int32) &&& 31))) (dg g 2) (by omega) (by omega) (by omega) (by omega)
    have hq : (((dg g 0) ||| ((dg g 1) <<< ((7 : Int32) &&& 31))) ||| ((dg g 2) <<< ((14 : Int32) &&& 31))) = g := Int32.toInt_inj.mp (by omega)
    obtain ⟨e1, e2, e3⟩ := stP (d := (dg g 2)) (q' := g) s1 (by rw [f2]; exact t2.2.2.1) (by rw [f2]; exact t2.2.2.2) hq
    exact ⟨e1, by rw [e2, c1, c0], by rw [e3, o1, c1, o0, c0]⟩
  · have f0 : F (a + 0) = ((dg g 0) ||| 128).toInt8.toInt32 := hF 0 (by omega)
    have t0 := dig (dg g 0) (by omega) (by omega)
    rw [Nat.add_zero] at f0
    obtain ⟨s0, c0, o0⟩ := stN (d := (dg g 0)) (q' := (dg g 0)) (s' := (7 : Int32)) hs (by rw [f0]; exact t0.1) (by rw [f0]; exact t0.2.1) (acc0 _) rfl
    have f1 : F (a + 1) = ((dg g 1) ||| 128).toInt8.toInt32 := hF 1 (by omega)
    have t1 := dig (dg g 1) (by omega) (by omega)
    have w1 := acc7 (dg g 0) (dg g 1) (by omega) (by omega) (by omega) (by omega)
    obtain ⟨s1, c1, o1⟩ := stN (d := (dg g 1)) (q' := ((dg g 0) ||| ((dg g 1) <<< ((7 : Int32) &&& 31)))) (s' := (14 : Int32)) s0 (by rw [f1]; exact t1.1) (by rw [f1]; exact t1.2.1) rfl rfl
    have f2 : F (a + 2) = ((dg g 2) ||| 128).toInt8.toInt32 := hF 2 (by omega)
    have t2 := dig (dg g 2) (by omega) (by omega)
    have w2 := acc14 ((dg g 0) ||| ((dg g 1) <<< ((7 : Int32) &&& 31))) (dg g 2) (by omega) (by omega) (by omega) (by omega)
    obtain ⟨s2, c2, o2⟩ := stN (d := (dg g 2)) (q' := (((dg g 0) ||| ((dg g 1) <<< ((7 : Int32) &&& 31))) ||| ((dg g 2) <<< ((14 : Int32) &&& 31)))) (s' := (21 : Int32)) s1 (by rw [f2]; exact t2.1) (by rw [f2]; exact t2.2.1) rfl rfl
    have f3 : F (a + 3) = (dg g 3).toInt8.toInt32 := hF 3 (by omega)
    have t3 := dig (dg g 3) (by omega) (by omega)
    have w3 := acc21 (((dg g 0) ||| ((dg g 1) <<< ((7 : Int32) &&& 31))) ||| ((dg g 2) <<< ((14 : Int32) &&& 31))) (dg g 3) (by omega) (by omega) (by omega) (by omega)
    have hq : ((((dg g 0) ||| ((dg g 1) <<< ((7 : Int32) &&& 31))) ||| ((dg g 2) <<< ((14 : Int32) &&& 31))) ||| ((dg g 3) <<< ((21 : Int32) &&& 31))) = g := Int32.toInt_inj.mp (by omega)
    obtain ⟨e1, e2, e3⟩ := stP (d := (dg g 3)) (q' := g) s2 (by rw [f3]; exact t3.2.2.1) (by rw [f3]; exact t3.2.2.2) hq
    exact ⟨e1, by rw [e2, c2, c1, c0], by rw [e3, o2, c2, o1, c1, o0, c0]⟩
  · have f0 : F (a + 0) = ((dg g 0) ||| 128).toInt8.toInt32 := hF 0 (by omega)
    have t0 := dig (dg g 0) (by omega) (by omega)
    rw [Nat.add_zero] at f0
    obtain ⟨s0, c0, o0⟩ := stN (d := (dg g 0)) (q' := (dg g 0)) (s' := (7 : Int32)) hs (by rw [f0]; exact t0.1) (by rw [f0]; exact t0.2.1) (acc0 _) rfl
    have f1 : F (a + 1) = ((dg g 1) ||| 128).toInt8.toInt32 := hF 1 (by omega)
    have t1 := dig (dg g 1) (by omega) (by omega)
    have w1 := acc7 (dg g 0) (dg g 1) (by omega) (by omega) (by omega) (by omega)
    obtain ⟨s1, c1, o1⟩ := stN (d := (dg g 1)) (q' := ((dg g 0) ||| ((dg g 1) <<< ((7 : Int32) &&& 31)))) (s' := (14 : Int32)) s0 (by rw [f1]; exact t1.1) (by rw [f1]; exact t1.2.1) rfl rfl
    have f2 : F (a + 2) = ((dg g 2) ||| 128).toInt8.toInt32 := hF 2 (by omega)
    have t2 := dig (dg g 2) (by omega) (by omega)
    have w2 := acc14 ((dg g 0) ||| ((dg g 1) <<< ((7 : Int32) &&& 31))) (dg g 2) (by omega) (by omega) (by omega) (by omega)
    obtain ⟨s2, c2, o2⟩ := stN (d := (dg g 2)) (q' := (((dg g 0) ||| ((dg g 1) <<< ((7 : Int32) &&& 31))) ||| ((dg g 2) <<< ((14 : Int32) &&& 31)))) (s' := (21 : Int32)) s1 (by rw [f2]; exact t2.1) (by rw [f2]; exact t2.2.1) rfl rfl
    have f3 : F (a + 3) = ((dg g 3) ||| 128).toInt8.toInt32 := hF 3 (by omega)
    have t3 := dig (dg g 3) (by omega) (by omega)
    have w3 := acc21 (((dg g 0) ||| ((dg g 1) <<< ((7 : Int32) &&& 31))) ||| ((dg g 2) <<< ((14 : Int32) &&& 31))) (dg g 3) (by omega) (by omega) (by omega) (by omega)
    obtain ⟨s3, c3, o3⟩ := stN (d := (dg g 3)) (q' := ((((dg g 0) ||| ((dg g 1) <<< ((7 : Int32) &&& 31))) ||| ((dg g 2) <<< ((14 : Int32) &&& 31))) ||| ((dg g 3) <<< ((21 : Int32) &&& 31)))) (s' := (28 : Int32)) s2 (by rw [f3]; exact t3.1) (by rw [f3]; exact t3.2.1) rfl rfl
    have f4 : F (a + 4) = (dg g 4).toInt8.toInt32 := hF 4 (by omega)
    have t4 := dig (dg g 4) (by omega) (by omega)
    have w4 := acc28 ((((dg g 0) ||| ((dg g 1) <<< ((7 : Int32) &&& 31))) ||| ((dg g 2) <<< ((14 : Int32) &&& 31))) ||| ((dg g 3) <<< ((21 : Int32) &&& 31))) (dg g 4) (by omega) (by omega) (by omega) (by omega)
    have hq : (((((dg g 0) ||| ((dg g 1) <<< ((7 : Int32) &&& 31))) ||| ((dg g 2) <<< ((14 : Int32) &&& 31))) ||| ((dg g 3) <<< ((21 : Int32) &&& 31))) ||| ((dg g 4) <<< ((28 : Int32) &&& 31))) = g := Int32.toInt_inj.mp (by omega)
    obtain ⟨e1, e2, e3⟩ := stP (d := (dg g 4)) (q' := g) s3 (by rw [f4]; exact t4.2.2.1) (by rw [f4]; exact t4.2.2.2) hq
    exact ⟨e1, by rw [e2, c3, c2, c1, c0], by rw [e3, o3, c3, o2, c2, o1, c1, o0, c0]⟩
theorem pn_0 : plainFor x = true := plainFor_of_name (by first | (simp [plainName, overriddenIn]; done) | decide +kernel)
theorem pd_1 : parseMethodDescriptor "(II)I" = some ⟨[.int, .int], some .int⟩ := by decide +kernel
theorem pd_2 : parseMethodDescriptor "([BIII)V" = some ⟨[(.array .byte), .int, .int, .int], none⟩ := by decide +kernel
theorem pd_3 : parseMethodDescriptor "([B)[I" = some ⟨[(.array .byte)], some (.array .int)⟩ := by decide +kernel
set_option maxRecDepth 65536 in
set_option maxHeartbeats 40000000 in
theorem law_con (l : Launch) (Z : State) (a0 : Array Value) (hw : ∀ d ∈ tables_1, d.before a0 Z = true) (u0 u1 u2 u3 u4 u5 : Int32) (h0 : Heap) (n0 : Nat)  :
    Con l Z x code maxLocals ret room_1 [(.int u0), (.int u1), (.int u2), (.int u3), (.int u4), (.int u5)] h0 n0 (RetI fun r _ => r = 1) := by
  refine Con.body (L0 := #[.val (.int u0), .val (.int u1), .val (.int u2), .val (.int u3), .val (.int u4), .val (.int u5), .unset, .unset, .unset, .unset, .unset, .unset, .unset, .unset, .unset, .unset, .unset, .unset, .unset, .unset, .unset, .unset, .unset, .unset, .unset, .unset, .unset]) hw pn_0 (fun m => by first | (simp [entryFrame, mkF, argsToLocals, Value.category, maxLocals]; done) | rfl) (fun K O => ?_)
  replace O : Ok K l Z a0 tables_1 code 27 (some .boolean) "com/example/acrawl/acrawl/store/RecordsDecodePositionsPinLaw" "law" room_1 n0 _ := O
  refine w_iconst O at_0 (z := (1 : Int32)) (pc' := 1) rfl rfl ?_
  refine w_iloadN O at_1 (pc' := 2) rfl rfl ?_
  refine w_bipush O at_2 (z := (7 : Int32)) (pc' := 4) rfl rfl ?_
  refine w_iand O at_4 (pc' := 5) rfl ?_
  refine w_iconst O at_5 (z := (5 : Int32)) (pc' := 6) rfl rfl ?_
  refine w_irem O at_6 (pc' := 7) rfl (by decide) ?_
  refine w_iadd O at_7 (pc' := 8) rfl ?_
  refine w_istoreG O at_8 (L' := fun zq => #[.val (.int u0), .val (.int u1), .val (.int u2), .val (.int u3), .val (.int u4), .val (.int u5), .val (.int zq), .unset, .unset, .unset, .unset, .unset, .unset, .unset, .unset, .unset, .unset, .unset, .unset, .unset, .unset, .unset, .unset, .unset, .unset, .unset, .unset]) (pc' := 10) rfl (fun _ => rfl) (fun k1 e_k1 => ?_)
  have i2 : (u0 &&& (7 : Int32)).toInt = u0.toInt % 8 := c_mask u0 (7 : Int32) 3 (by decide) (by decide)
  have i3 : (0 ≤ (u0 &&& (7 : Int32)).toInt → ((u0 &&& (7 : Int32)) % (5 : Int32)).toInt = (u0 &&& (7 : Int32)).toInt % 5) ∧ ((u0 &&& (7 : Int32)).toInt < 0 → ((u0 &&& (7 : Int32)) % (5 : Int32)).toInt = -((-(u0 &&& (7 : Int32)).toInt) % 5)) := c_irem (u0 &&& (7 : Int32)) (5 : Int32) 5 (by decide)
  have i4 : (((1 : Int32) + ((u0 &&& (7 : Int32)) % (5 : Int32))).toInt - (1 + ((u0 &&& (7 : Int32)) % (5 : Int32)).toInt)) % 4294967296 = 0 := c_iadd (1 : Int32) ((u0 &&& (7 : Int32)) % (5 : Int32))
  have i5 := rng32 ((1 : Int32) + ((u0 &&& (7 : Int32)) % (5 : Int32)))
  have j_k1 := congrArg Int32.toInt e_k1
  have r_k1 := rng32 k1
  obtain ⟨m1, hm1⟩ : ∃ m1 : Nat, k1.toInt = (m1 : Int) := ⟨k1.toInt.toNat, by omega⟩
  have hq1 : 1 ≤ m1 ∧ m1 ≤ 5 := by omega
  clear i2 i3 i4 i5 j_k1
  refine w_iconst O at_10 (z := (5 : Int32)) (pc' := 11) rfl rfl ?_
  refine w_iload O at_11 (pc' := 13) rfl rfl ?_
  refine w_isub O at_13 (pc' := 14) rfl ?_
  refine w_istoreG O at_14 (L' := fun zq => #[.val (.int u0), .val (.int u1), .val (.int u2), .val (.int u3), .val (.int u4), .val (.int u5), .val (.int k1), .val (.int zq), .unset, .unset, .unset, .unset, .unset, .unset, .unset, .unset, .unset, .unset, .unset, .unset, .unset, .unset, .unset, .unset, .unset, .unset, .unset]) (pc' := 16) rfl (fun _ => rfl) (fun ra e_ra => ?_)
  have i7 : (((5 : Int32) - k1).toInt - (5 - k1.toInt)) % 4294967296 = 0 := c_isub (5 : Int32) k1
  have i8 := rng32 ((5 : Int32) - k1)
  have j_ra := congrArg Int32.toInt e_ra
  have r_ra := rng32 ra
  have hra : ra.toInt = 5 - (m1 : Int) := by omega
  clear i7 i8 j_ra
  refine w_iload O at_16 (pc' := 18) rfl rfl ?_
  refine w_iloadN O at_18 (pc' := 19) rfl rfl ?_
  refine w_iconst O at_19 (z := (3 : Int32)) (pc' := 20) rfl rfl ?_
  refine w_iushr O at_20 (pc' := 21) rfl ?_
  have i9 : ((u0.toUInt32 >>> ((3 : Int32) &&& 31).toUInt32).toInt32).toInt = (u0.toInt % 4294967296) / 8 := c_iushr u0 (3 : Int32) 3 (by decide) (by decide)
  refine w_static O at_21 (as := [(.int ra), (.int ((u0.toUInt32 >>> ((3 : Int32) &&& 31).toUInt32).toInt32))]) (st := []) (wt := 0) (cl' := 0) (sl' := 0) (pc' := 24) rfl (mw 0 rfl) (mw 1 rfl) (mw 2 rfl) (mw 3 rfl) (by decide) (con_part l Z a0 hw ra ((u0.toUInt32 >>> ((3 : Int32) &&& 31).toUInt32).toInt32) h0 n0 (by omega)) rfl pd_1 rfl rfl rfl (by decide) (by decide) rfl rfl (by decide) (by decide) (cI fun k2 _ ⟨qk2, sk2⟩ => ?_)
  rw [qk2]
  clear i9
  refine w_istore O at_24 (L' := #[.val (.int u0), .val (.int u1), .val (.int u2), .val (.int u3), .val (.int u4), .val (.int u5), .val (.int k1), .val (.int ra), .val (.int k2), .unset, .unset, .unset, .unset, .unset, .unset, .unset, .unset, .unset, .unset, .unset, .unset, .unset, .unset, .unset, .unset, .unset, .unset]) (pc' := 26) rfl rfl ?_
  obtain ⟨m2, hm2⟩ : ∃ m2 : Nat, k2.toInt = (m2 : Int) := ⟨k2.toInt.toNat, by omega⟩
  have hq2 : m1 + m2 ≤ 5 ∧ (m2 = 0 → m1 = 5) := by omega
  clear sk2
  refine w_iload O at_26 (pc' := 28) rfl rfl ?_
  refine w_iload O at_28 (pc' := 30) rfl rfl ?_
  refine w_isub O at_30 (pc' := 31) rfl ?_
  refine w_istoreG O at_31 (L' := fun zq => #[.val (.int u0), .val (.int u1), .val (.int u2), .val (.int u3), .val (.int u4), .val (.int u5), .val (.int k1), .val (.int zq), .val (.int k2), .unset, .unset, .unset, .unset, .unset, .unset, .unset, .unset, .unset, .unset, .unset, .unset, .unset, .unset, .unset, .unset, .unset, .unset]) (pc' := 33) rfl (fun _ => rfl) (fun rb e_rb => ?_)
  have i11 : ((ra - k2).toInt - (ra.toInt - k2.toInt)) % 4294967296 = 0 := c_isub ra k2
  have i12 := rng32 (ra - k2)
  have j_rb := congrArg Int32.toInt e_rb
  have r_rb := rng32 rb
  have hrb : rb.toInt = 5 - (m1 : Int) - m2 := by omega
  clear hra
  clear i11 i12 j_rb
  refine w_iload O at_33 (pc' := 35) rfl rfl ?_
  refine w_iloadN O at_35 (pc' := 36) rfl rfl ?_
  refine w_bipush O at_36 (z := (6 : Int32)) (pc' := 38) rfl rfl ?_
  refine w_iushr O at_38 (pc' := 39) rfl ?_
  have i13 : ((u0.toUInt32 >>> ((6 : Int32) &&& 31).toUInt32).toInt32).toInt = (u0.toInt % 4294967296) / 64 := c_iushr u0 (6 : Int32) 6 (by decide) (by decide)
  refine w_static O at_39 (as := [(.int rb), (.int ((u0.toUInt32 >>> ((6 : Int32) &&& 31).toUInt32).toInt32))]) (st := []) (wt := 0) (cl' := 0) (sl' := 0) (pc' := 42) rfl (mw 0 rfl) (mw 1 rfl) (mw 2 rfl) (mw 3 rfl) (by decide) (con_part l Z a0 hw rb ((u0.toUInt32 >>> ((6 : Int32) &&& 31).toUInt32).toInt32) h0 n0 (by omega)) rfl pd_1 rfl rfl rfl (by decide) (by decide) rfl rfl (by decide) (by decide) (cI fun k3 _ ⟨qk3, sk3⟩ => ?_)
  rw [qk3]
  clear i13
  refine w_istore O at_42 (L' := #[.val (.int u0), .val (.int u1), .val (.int u2), .val (.int u3), .val (.int u4), .val (.int u5), .val (.int k1), .val (.int rb), .val (.int k2), .val (.int k3), .unset, .unset, .unset, .unset, .unset, .unset, .unset, .unset, .unset, .unset, .unset, .unset, .unset, .unset, .unset, .unset, .unset]) (pc' := 44) rfl rfl ?_
  obtain ⟨m3, hm3⟩ : ∃ m3 : Nat, k3.toInt = (m3 : Int) := ⟨k3.toInt.toNat, by omega⟩
  have hq3 : m1 + m2 + m3 ≤ 5 ∧ (m3 = 0 → m1 + m2 = 5) := by omega
  clear sk3
  refine w_iload O at_44 (pc' := 46) rfl rfl ?_
  refine w_iload O at_46 (pc' := 48) rfl rfl ?_
  refine w_isub O at_48 (pc' := 49) rfl ?_
  refine w_istoreG O at_49 (L' := fun zq => #[.val (.int u0), .val (.int u1), .val (.int u2), .val (.int u3), .val (.int u4), .val (.int u5), .val (.int k1), .val (.int zq), .val (.int k2), .val (.int k3), .unset, .unset, .unset, .unset, .unset, .unset, .unset, .unset, .unset, .unset, .unset, .unset, .unset, .unset, .unset, .unset, .unset]) (pc' := 51) rfl (fun _ => rfl) (fun rc e_rc => ?_)
  have i15 : ((rb - k3).toInt - (rb.toInt - k3.toInt)) % 4294967296 = 0 := c_isub rb k3
  have i16 := rng32 (rb - k3)
  have j_rc := congrArg Int32.toInt e_rc
  have r_rc := rng32 rc
  have hrc : rc.toInt = 5 - (m1 : Int) - m2 - m3 := by omega
  clear hrb
  clear i15 i16 j_rc
  refine w_iload O at_51 (pc' := 53) rfl rfl ?_
  refine w_iloadN O at_53 (pc' := 54) rfl rfl ?_
  refine w_bipush O at_54 (z := (9 : Int32)) (pc' := 56) rfl rfl ?_
  refine w_iushr O at_56 (pc' := 57) rfl ?_
  have i17 : ((u0.toUInt32 >>> ((9 : Int32) &&& 31).toUInt32).toInt32).toInt = (u0.toInt % 4294967296) / 512 := c_iushr u0 (9 : Int32) 9 (by decide) (by decide)
  refine w_static O at_57 (as := [(.int rc), (.int ((u0.toUInt32 >>> ((9 : Int32) &&& 31).toUInt32).toInt32))]) (st := []) (wt := 0) (cl' := 0) (sl' := 0) (pc' := 60) rfl (mw 0 rfl) (mw 1 rfl) (mw 2 rfl) (mw 3 rfl) (by decide) (con_part l Z a0 hw rc ((u0.toUInt32 >>> ((9 : Int32) &&& 31).toUInt32).toInt32) h0 n0 (by omega)) rfl pd_1 rfl rfl rfl (by decide) (by decide) rfl rfl (by decide) (by decide) (cI fun k4 _ ⟨qk4, sk4⟩ => ?_)
  rw [qk4]
  clear i17
  refine w_istore O at_60 (L' := #[.val (.int u0), .val (.int u1), .val (.int u2), .val (.int u3), .val (.int u4), .val (.int u5), .val (.int k1), .val (.int rc), .val (.int k2), .val (.int k3), .val (.int k4), .unset, .unset, .unset, .unset, .unset, .unset, .unset, .unset, .unset, .unset, .unset, .unset, .unset, .unset, .unset, .unset]) (pc' := 62) rfl rfl ?_
  obtain ⟨m4, hm4⟩ : ∃ m4 : Nat, k4.toInt = (m4 : Int) := ⟨k4.toInt.toNat, by omega⟩
  have hq4 : m1 + m2 + m3 + m4 ≤ 5 ∧ (m4 = 0 → m1 + m2 + m3 = 5) := by omega
  clear sk4
  refine w_iload O at_62 (pc' := 64) rfl rfl ?_
  refine w_iload O at_64 (pc' := 66) rfl rfl ?_
  refine w_isub O at_66 (pc' := 67) rfl ?_
  refine w_istoreG O at_67 (L' := fun zq => #[.val (.int u0), .val (.int u1), .val (.int u2), .val (.int u3), .val (.int u4), .val (.int u5), .val (.int k1), .val (.int zq), .val (.int k2), .val (.int k3), .val (.int k4), .unset, .unset, .unset, .unset, .unset, .unset, .unset, .unset, .unset, .unset, .unset, .unset, .unset, .unset, .unset, .unset]) (pc' := 69) rfl (fun _ => rfl) (fun rd e_rd => ?_)
  have i19 : ((rc - k4).toInt - (rc.toInt - k4.toInt)) % 4294967296 = 0 := c_isub rc k4
  have i20 := rng32 (rc - k4)
  have j_rd := congrArg Int32.toInt e_rd
  have r_rd := rng32 rd
  have hrd : rd.toInt = 5 - (m1 : Int) - m2 - m3 - m4 := by omega
  clear hrc
  clear i19 i20 j_rd
  refine w_iload O at_69 (pc' := 71) rfl rfl ?_
  refine w_iloadN O at_71 (pc' := 72) rfl rfl ?_
  refine w_bipush O at_72 (z := (12 : Int32)) (pc' := 74) rfl rfl ?_
  refine w_iushr O at_74 (pc' := 75) rfl ?_
  have i21 : ((u0.toUInt32 >>> ((12 : Int32) &&& 31).toUInt32).toInt32).toInt = (u0.toInt % 4294967296) / 4096 := c_iushr u0 (12 : Int32) 12 (by decide) (by decide)
  refine w_static O at_75 (as := [(.int rd), (.int ((u0.toUInt32 >>> ((12 : Int32) &&& 31).toUInt32).toInt32))]) (st := []) (wt := 0) (cl' := 0) (sl' := 0) (pc' := 78) rfl (mw 0 rfl) (mw 1 rfl) (mw 2 rfl) (mw 3 rfl) (by decide) (con_part l Z a0 hw rd ((u0.toUInt32 >>> ((12 : Int32) &&& 31).toUInt32).toInt32) h0 n0 (by omega)) rfl pd_1 rfl rfl rfl (by decide) (by decide) rfl rfl (by decide) (by decide) (cI fun k5 _ ⟨qk5, sk5⟩ => ?_)
  rw [qk5]
  clear i21
  refine w_istore O at_78 (L' := #[.val (.int u0), .val (.int u1), .val (.int u2), .val (.int u3), .val (.int u4), .val (.int u5), .val (.int k1), .val (.int rd), .val (.int k2), .val (.int k3), .val (.int k4), .val (.int k5), .unset, .unset, .unset, .unset, .unset, .unset, .unset, .unset, .unset, .unset, .unset, .unset, .unset, .unset, .unset]) (pc' := 80) rfl rfl ?_
  obtain ⟨m5, hm5⟩ : ∃ m5 : Nat, k5.toInt = (m5 : Int) := ⟨k5.toInt.toNat, by omega⟩
  have hq5 : m1 + m2 + m3 + m4 + m5 ≤ 5 ∧ (m5 = 0 → m1 + m2 + m3 + m4 = 5) := by omega
  clear sk5 hrd
  have hsum : m1 + m2 + m3 + m4 + m5 = 5 := by omega
  refine w_iload O at_80 (pc' := 82) rfl rfl ?_
  refine w_iloadN O at_82 (pc' := 83) rfl rfl ?_
  refine w_static O at_83 (as := [(.int k1), (.int u1)]) (st := []) (wt := 0) (cl' := 0) (sl' := 0) (pc' := 86) rfl (mw 4 rfl) (mw 5 rfl) (mw 2 rfl) (mw 6 rfl) (by decide) (con_gap l Z a0 hw k1 u1 h0 n0) rfl pd_1 rfl rfl rfl (by decide) (by decide) rfl rfl (by decide) (by decide) (cI fun g1 _ ⟨qg1, sg1⟩ => ?_)
  rw [qg1]
  refine w_istore O at_86 (L' := #[.val (.int u0), .val (.int u1), .val (.int u2), .val (.int u3), .val (.int u4), .val (.int u5), .val (.int k1), .val (.int rd), .val (.int k2), .val (.int k3), .val (.int k4), .val (.int k5), .val (.int g1), .unset, .unset, .unset, .unset, .unset, .unset, .unset, .unset, .unset, .unset, .unset, .unset, .unset, .unset]) (pc' := 88) rfl rfl ?_
  refine w_iload O at_88 (pc' := 90) rfl rfl ?_
  refine w_iloadN O at_90 (pc' := 91) rfl rfl ?_
  refine w_static O at_91 (as := [(.int k2), (.int u2)]) (st := []) (wt := 0) (cl' := 0) (sl' := 0) (pc' := 94) rfl (mw 4 rfl) (mw 5 rfl) (mw 2 rfl) (mw 6 rfl) (by decide) (con_gap l Z a0 hw k2 u2 h0 n0) rfl pd_1 rfl rfl rfl (by decide) (by decide) rfl rfl (by decide) (by decide) (cI fun g2 _ ⟨qg2, sg2⟩ => ?_)
  rw [qg2]
  refine w_istore O at_94 (L' := #[.val (.int u0), .val (.int u1), .val (.int u2), .val (.int u3), .val (.int u4), .val (.int u5), .val (.int k1), .val (.int rd), .val (.int k2), .val (.int k3), .val (.int k4), .val (.int k5), .val (.int g1), .val (.int g2), .unset, .unset, .unset, .unset, .unset, .unset, .unset, .unset, .unset, .unset, .unset, .unset, .unset]) (pc' := 96) rfl rfl ?_
  refine w_iload O at_96 (pc' := 98) rfl rfl ?_
  refine w_iloadN O at_98 (pc' := 99) rfl rfl ?_
  refine w_static O at_99 (as := [(.int k3), (.int u3)]) (st := []) (wt := 0) (cl' := 0) (sl' := 0) (pc' := 102) rfl (mw 4 rfl) (mw 5 rfl) (mw 2 rfl) (mw 6 rfl) (by decide) (con_gap l Z a0 hw k3 u3 h0 n0) rfl pd_1 rfl rfl rfl (by decide) (by decide) rfl rfl (by decide) (by decide) (cI fun g3 _ ⟨qg3, sg3⟩ => ?_)
  rw [qg3]
  refine w_istore O at_102 (L' := #[.val (.int u0), .val (.int u1), .val (.int u2), .val (.int u3), .val (.int u4), .val (.int u5), .val (.int k1), .val (.int rd), .val (.int k2), .val (.int k3), .val (.int k4), .val (.int k5), .val (.int g1), .val (.int g2), .val (.int g3), .unset, .unset, .unset, .unset, .unset, .unset, .unset, .unset, .unset, .unset, .unset, .unset]) (pc' := 104) rfl rfl ?_
  refine w_iload O at_104 (pc' := 106) rfl rfl ?_
  refine w_iload O at_106 (pc' := 108) rfl rfl ?_
  refine w_static O at_108 (as := [(.int k4), (.int u4)]) (st := []) (wt := 0) (cl' := 0) (sl' := 0) (pc' := 111) rfl (mw 4 rfl) (mw 5 rfl) (mw 2 rfl) (mw 6 rfl) (by decide) (con_gap l Z a0 hw k4 u4 h0 n0) rfl pd_1 rfl rfl rfl (by decide) (by decide) rfl rfl (by decide) (by decide) (cI fun g4 _ ⟨qg4, sg4⟩ => ?_)
  rw [qg4]
  refine w_istore O at_111 (L' := #[.val (.int u0), .val (.int u1), .val (.int u2), .val (.int u3), .val (.int u4), .val (.int u5), .val (.int k1), .val (.int rd), .val (.int k2), .val (.int k3), .val (.int k4), .val (.int k5), .val (.int g1), .val (.int g2), .val (.int g3), .val (.int g4), .unset, .unset, .unset, .unset, .unset, .unset, .unset, .unset, .unset, .unset, .unset]) (pc' := 113) rfl rfl ?_
  refine w_iload O at_113 (pc' := 115) rfl rfl ?_
  refine w_iload O at_115 (pc' := 117) rfl rfl ?_
  refine w_static O at_117 (as := [(.int k5), (.int u5)]) (st := []) (wt := 0) (cl' := 0) (sl' := 0) (pc' := 120) rfl (mw 4 rfl) (mw 5 rfl) (mw 2 rfl) (mw 6 rfl) (by decide) (con_gap l Z a0 hw k5 u5 h0 n0) rfl pd_1 rfl rfl rfl (by decide) (by decide) rfl rfl (by decide) (by decide) (cI fun g5 _ ⟨qg5, sg5⟩ => ?_)
  rw [qg5]
  refine w_istore O at_120 (L' := #[.val (.int u0), .val (.int u1), .val (.int u2), .val (.int u3), .val (.int u4), .val (.int u5), .val (.int k1), .val (.int rd), .val (.int k2), .val (.int k3), .val (.int k4), .val (.int k5), .val (.int g1), .val (.int g2), .val (.int g3), .val (.int g4), .val (.int g5), .unset, .unset, .unset, .unset, .unset, .unset, .unset, .unset, .unset, .unset]) (pc' := 122) rfl rfl ?_
  refine w_iconst O at_122 (z := (5 : Int32)) (pc' := 123) rfl rfl ?_
  refine w_newarr O at_123 (ty := .byte) (dv := (.int (0 : Int32))) (n := 5) (cap := 5) (cl' := 1) (sl' := 5) (pc' := 125) rfl rfl rfl (mw 8 rfl) (by decide) (by decide) (by decide) rfl rfl (by decide) (by decide) (fun h22 b qb g_b Eh22 A_b => ?_)
  refine w_astore O at_125 (L' := #[.val (.int u0), .val (.int u1), .val (.int u2), .val (.int u3), .val (.int u4), .val (.int u5), .val (.int k1), .val (.int rd), .val (.int k2), .val (.int k3), .val (.int k4), .val (.int k5), .val (.int g1), .val (.int g2), .val (.int g3), .val (.int g4), .val (.int g5), .val (.ref b), .unset, .unset, .unset, .unset, .unset, .unset, .unset, .unset, .unset]) (pc' := 127) rfl rfl rfl ?_
  refine w_aload O at_127 (pc' := 129) rfl rfl rfl ?_
  refine w_iconst O at_129 (z := (0 : Int32)) (pc' := 130) rfl rfl ?_
  refine w_iload O at_130 (pc' := 132) rfl rfl ?_
  refine w_iload O at_132 (pc' := 134) rfl rfl ?_
  refine w_static O at_134 (as := [(.ref b), (.int (0 : Int32)), (.int k1), (.int g1)]) (st := []) (wt := 0) (cl' := 1) (sl' := 5) (pc' := 137) rfl (mw 9 rfl) (mw 10 rfl) (mw 2 rfl) (mw 11 rfl) (by decide) (con_put l Z a0 hw b (0 : Int32) k1 g1 h22 n0 (fun _ => 0) 0 m1 A_b (by first | omega | decide) (by omega) (by omega) g_b) rfl pd_2 rfl rfl rfl (by decide) (by decide) rfl rfl (by decide) (by decide) (cV fun h24 Ah24 => ?_)
  refine w_aload O at_137 (pc' := 139) rfl rfl rfl ?_
  refine w_iload O at_139 (pc' := 141) rfl rfl ?_
  refine w_iload O at_141 (pc' := 143) rfl rfl ?_
  refine w_iload O at_143 (pc' := 145) rfl rfl ?_
  refine w_static O at_145 (as := [(.ref b), (.int k1), (.int k2), (.int g2)]) (st := []) (wt := 0) (cl' := 1) (sl' := 5) (pc' := 148) rfl (mw 9 rfl) (mw 10 rfl) (mw 2 rfl) (mw 11 rfl) (by decide) (con_put l Z a0 hw b k1 k2 g2 h24 n0 (pokeF (fun _ => 0) 0 m1 g1) m1 m2 Ah24 (by first | omega | decide) (by omega) (by omega) g_b) rfl pd_2 rfl rfl rfl (by decide) (by decide) rfl rfl (by decide) (by decide) (cV fun h25 Ah25 => ?_)
  refine w_aload O at_148 (pc' := 150) rfl rfl rfl ?_
  refine w_iload O at_150 (pc' := 152) rfl rfl ?_
  refine w_iload O at_152 (pc' := 154) rfl rfl ?_
  refine w_iadd O at_154 (pc' := 155) rfl ?_
  refine w_iload O at_155 (pc' := 157) rfl rfl ?_
  refine w_iload O at_157 (pc' := 159) rfl rfl ?_
  have i26 : ((k1 + k2).toInt - (k1.toInt + k2.toInt)) % 4294967296 = 0 := c_iadd k1 k2
  have i27 := rng32 (k1 + k2)
  refine w_static O at_159 (as := [(.ref b), (.int (k1 + k2)), (.int k3), (.int g3)]) (st := []) (wt := 0) (cl' := 1) (sl' := 5) (pc' := 162) rfl (mw 9 rfl) (mw 10 rfl) (mw 2 rfl) (mw 11 rfl) (by decide) (con_put l Z a0 hw b (k1 + k2) k3 g3 h25 n0 (pokeF (pokeF (fun _ => 0) 0 m1 g1) m1 m2 g2) (m1 + m2) m3 Ah25 (by first | omega | decide) (by omega) (by omega) g_b) rfl pd_2 rfl rfl rfl (by decide) (by decide) rfl rfl (by decide) (by decide) (cV fun h28 Ah28 => ?_)
  clear i26 i27
  refine w_aload O at_162 (pc' := 164) rfl rfl rfl ?_
  refine w_iload O at_164 (pc' := 166) rfl rfl ?_
  refine w_iload O at_166 (pc' := 168) rfl rfl ?_
  refine w_iadd O at_168 (pc' := 169) rfl ?_
  refine w_iload O at_169 (pc' := 171) rfl rfl ?_
  refine w_iadd O at_171 (pc' := 172) rfl ?_
  refine w_iload O at_172 (pc' := 174) rfl rfl ?_
  refine w_iload O at_174 (pc' := 176) rfl rfl ?_
  have i29 : ((k1 + k2).toInt - (k1.toInt + k2.toInt)) % 4294967296 = 0 := c_iadd k1 k2
  have i30 := rng32 (k1 + k2)
  have i31 : (((k1 + k2) + k3).toInt - ((k1 + k2).toInt + k3.toInt)) % 4294967296 = 0 := c_iadd (k1 + k2) k3
  have i32 := rng32 ((k1 + k2) + k3)
  refine w_static O at_176 (as := [(.ref b), (.int ((k1 + k2) + k3)), (.int k4), (.int g4)]) (st := []) (wt := 0) (cl' := 1) (sl' := 5) (pc' := 179) rfl (mw 9 rfl) (mw 10 rfl) (mw 2 rfl) (mw 11 rfl) (by decide) (con_put l Z a0 hw b ((k1 + k2) + k3) k4 g4 h28 n0 (pokeF (pokeF (pokeF (fun _ => 0) 0 m1 g1) m1 m2 g2) (m1 + m2) m3 g3) (m1 + m2 + m3) m4 Ah28 (by first | omega | decide) (by omega) (by omega) g_b) rfl pd_2 rfl rfl rfl (by decide) (by decide) rfl rfl (by decide) (by decide) (cV fun h33 Ah33 => ?_)
  clear i29 i30 i31 i32
  refine w_aload O at_179 (pc' := 181) rfl rfl rfl ?_
  refine w_iload O at_181 (pc' := 183) rfl rfl ?_
  refine w_iload O at_183 (pc' := 185) rfl rfl ?_
  refine w_iadd O at_185 (pc' := 186) rfl ?_
  refine w_iload O at_186 (pc' := 188) rfl rfl ?_
  refine w_iadd O at_188 (pc' := 189) rfl ?_
  refine w_iload O at_189 (pc' := 191) rfl rfl ?_
  refine w_iadd O at_191 (pc' := 192) rfl ?_
  refine w_iload O at_192 (pc' := 194) rfl rfl ?_
  refine w_iload O at_194 (pc' := 196) rfl rfl ?_
  have i34 : ((k1 + k2).toInt - (k1.toInt + k2.toInt)) % 4294967296 = 0 := c_iadd k1 k2
  have i35 := rng32 (k1 + k2)
  have i36 : (((k1 + k2) + k3).toInt - ((k1 + k2).toInt + k3.toInt)) % 4294967296 = 0 := c_iadd (k1 + k2) k3
  have i37 := rng32 ((k1 + k2) + k3)
  have i38 : ((((k1 + k2) + k3) + k4).toInt - (((k1 + k2) + k3).toInt + k4.toInt)) % 4294967296 = 0 := c_iadd ((k1 + k2) + k3) k4
  have i39 := rng32 (((k1 + k2) + k3) + k4)
  refine w_static O at_196 (as := [(.ref b), (.int (((k1 + k2) + k3) + k4)), (.int k5), (.int g5)]) (st := []) (wt := 0) (cl' := 1) (sl' := 5) (pc' := 199) rfl (mw 9 rfl) (mw 10 rfl) (mw 2 rfl) (mw 11 rfl) (by decide) (con_put l Z a0 hw b (((k1 + k2) + k3) + k4) k5 g5 h33 n0 (pokeF (pokeF (pokeF (pokeF (fun _ => 0) 0 m1 g1) m1 m2 g2) (m1 + m2) m3 g3) (m1 + m2 + m3) m4 g4) (m1 + m2 + m3 + m4) m5 Ah33 (by first | omega | decide) (by omega) (by omega) g_b) rfl pd_2 rfl rfl rfl (by decide) (by decide) rfl rfl (by decide) (by decide) (cV fun h40 Ah40 => ?_)
  clear i34 i35 i36 i37 i38 i39
  obtain ⟨F, hFd⟩ : ∃ F : Nat → Int32, F = (pokeF (pokeF (pokeF (pokeF (pokeF (fun _ => 0) 0 m1 g1) m1 m2 g2) (m1 + m2) m3 g3) (m1 + m2 + m3) m4 g4) (m1 + m2 + m3 + m4) m5 g5) := ⟨_, rfl⟩
  rw [← hFd] at Ah40
  have hf1 : ∀ i, i < m1 → F (0 + i) = enc g1 m1 i := by
    intro i hi
    subst hFd
    unfold pokeF
    rw [if_neg (by omega), if_neg (by omega), if_neg (by omega), if_neg (by omega), if_pos (by omega)]
    congr 1; omega
  have hf2 : ∀ i, i < m2 → F (0 + m1 + i) = enc g2 m2 i := by
    intro i hi
    subst hFd
    unfold pokeF
    rw [if_neg (by omega), if_neg (by omega), if_neg (by omega), if_pos (by omega)]
    congr 1; omega
  have hf3 : ∀ i, i < m3 → F (0 + m1 + m2 + i) = enc g3 m3 i := by
    intro i hi
    subst hFd
    unfold pokeF
    rw [if_neg (by omega), if_neg (by omega), if_pos (by omega)]
    congr 1; omega
  have hf4 : ∀ i, i < m4 → F (0 + m1 + m2 + m3 + i) = enc g4 m4 i := by
    intro i hi
    subst hFd
    unfold pokeF
    rw [if_neg (by omega), if_pos (by omega)]
    congr 1; omega
  have hf5 : ∀ i, i < m5 → F (0 + m1 + m2 + m3 + m4 + i) = enc g5 m5 i := by
    intro i hi
    subst hFd
    unfold pokeF
    rw [if_pos (by omega)]
    congr 1; omega
  rw [hm1] at sg1
  rw [hm2] at sg2
  rw [hm3] at sg3
  rw [hm4] at sg4
  rw [hm5] at sg5
  have hcase : (m2 = 0 ∧ m3 = 0 ∧ m4 = 0 ∧ m5 = 0) ∨ (1 ≤ m2 ∧ m3 = 0 ∧ m4 = 0 ∧ m5 = 0) ∨ (1 ≤ m2 ∧ 1 ≤ m3 ∧ m4 = 0 ∧ m5 = 0) ∨ (1 ≤ m2 ∧ 1 ≤ m3 ∧ 1 ≤ m4 ∧ m5 = 0) ∨ (1 ≤ m2 ∧ 1 ≤ m3 ∧ 1 ≤ m4 ∧ 1 ≤ m5) := by omega
  rcases hcase with hN | hN | hN | hN | hN
  · obtain ⟨hN2, hN3, hN4, hN5⟩ := hN
    refine w_iconst O at_199 (z := (1 : Int32)) (pc' := 200) rfl rfl ?_
    refine w_iload O at_200 (pc' := 202) rfl rfl ?_
    refine w_if_le O at_202 (pn := 205) (pt := 209) rfl (by decide) rfl (fun c202 => ?_) (fun c202 => absurd (show 0 < k2.toInt from c202) (by omega))
    replace c202 : ¬ 0 < k2.toInt := c202
    refine w_iconst O at_209 (z := (0 : Int32)) (pc' := 210) rfl rfl ?_
    refine w_iadd O at_210 (pc' := 211) rfl ?_
    refine w_iload O at_211 (pc' := 213) rfl rfl ?_
    refine w_if_le O at_213 (pn := 216) (pt := 220) rfl (by decide) rfl (fun c213 => ?_) (fun c213 => absurd (show 0 < k3.toInt from c213) (by omega))
    replace c213 : ¬ 0 < k3.toInt := c213
    refine w_iconst O at_220 (z := (0 : Int32)) (pc' := 221) rfl rfl ?_
    refine w_iadd O at_221 (pc' := 222) rfl ?_
    refine w_iload O at_222 (pc' := 224) rfl rfl ?_
    refine w_if_le O at_224 (pn := 227) (pt := 231) rfl (by decide) rfl (fun c224 => ?_) (fun c224 => absurd (show 0 < k4.toInt from c224) (by omega))
    replace c224 : ¬ 0 < k4.toInt := c224
    refine w_iconst O at_231 (z := (0 : Int32)) (pc' := 232) rfl rfl ?_
    refine w_iadd O at_232 (pc' := 233) rfl ?_
    refine w_iload O at_233 (pc' := 235) rfl rfl ?_
    refine w_if_le O at_235 (pn := 238) (pt := 242) rfl (by decide) rfl (fun c235 => ?_) (fun c235 => absurd (show 0 < k5.toInt from c235) (by omega))
    replace c235 : ¬ 0 < k5.toInt := c235
    refine w_iconst O at_242 (z := (0 : Int32)) (pc' := 243) rfl rfl ?_
    refine w_iadd O at_243 (pc' := 244) rfl ?_
    refine w_istore O at_244 (L' := #[.val (.int u0), .val (.int u1), .val (.int u2), .val (.int u3), .val (.int u4), .val (.int u5), .val (.int k1), .val (.int rd), .val (.int k2), .val (.int k3), .val (.int k4), .val (.int k5), .val (.int g1), .val (.int g2), .val (.int g3), .val (.int g4), .val (.int g5), .val (.ref b), .val (.int (1 : Int32)), .unset, .unset, .unset, .unset, .unset, .unset, .unset, .unset]) (pc' := 246) rfl rfl ?_
    refine w_iload O at_246 (pc' := 248) rfl rfl ?_
    refine w_istore O at_248 (L' := #[.val (.int u0), .val (.int u1), .val (.int u2), .val (.int u3), .val (.int u4), .val (.int u5), .val (.int k1), .val (.int rd), .val (.int k2), .val (.int k3), .val (.int k4), .val (.int k5), .val (.int g1), .val (.int g2), .val (.int g3), .val (.int g4), .val (.int g5), .val (.ref b), .val (.int (1 : Int32)), .val (.int g1), .unset, .unset, .unset, .unset, .unset, .unset, .unset]) (pc' := 250) rfl rfl ?_
    refine w_iload O at_250 (pc' := 252) rfl rfl ?_
    refine w_iload O at_252 (pc' := 254) rfl rfl ?_
    refine w_iadd O at_254 (pc' := 255) rfl ?_
    refine w_iconst O at_255 (z := (1 : Int32)) (pc' := 256) rfl rfl ?_
    refine w_iadd O at_256 (pc' := 257) rfl ?_
    refine w_istoreG O at_257 (L' := fun zq => #[.val (.int u0), .val (.int u1), .val (.int u2), .val (.int u3), .val (.int u4), .val (.int u5), .val (.int k1), .val (.int rd), .val (.int k2), .val (.int k3), .val (.int k4), .val (.int k5), .val (.int g1), .val (.int g2), .val (.int g3), .val (.int g4), .val (.int g5), .val (.ref b), .val (.int (1 : Int32)), .val (.int g1), .val (.int zq), .unset, .unset, .unset, .unset, .unset, .unset]) (pc' := 259) rfl (fun _ => rfl) (fun p2 e_p2 => ?_)
    refine w_iload O at_259 (pc' := 261) rfl rfl ?_
    refine w_iload O at_261 (pc' := 263) rfl rfl ?_
    refine w_iadd O at_263 (pc' := 264) rfl ?_
    refine w_iconst O at_264 (z := (1 : Int32)) (pc' := 265) rfl rfl ?_
    refine w_iadd O at_265 (pc' := 266) rfl ?_
    refine w_istoreG O at_266 (L' := fun zq => #[.val (.int u0), .val (.int u1), .val (.int u2), .val (.int u3), .val (.int u4), .val (.int u5), .val (.int k1), .val (.int rd), .val (.int k2), .val (.int k3), .val (.int k4), .val (.int k5), .val (.int g1), .val (.int g2), .val (.int g3), .val (.int g4), .val (.int g5), .val (.ref b), .val (.int (1 : Int32)), .val (.int g1), .val (.int p2), .val (.int zq), .unset, .unset, .unset, .unset, .unset]) (pc' := 268) rfl (fun _ => rfl) (fun p3 e_p3 => ?_)
    refine w_iload O at_268 (pc' := 270) rfl rfl ?_
    refine w_iload O at_270 (pc' := 272) rfl rfl ?_
    refine w_iadd O at_272 (pc' := 273) rfl ?_
    refine w_iconst O at_273 (z := (1 : Int32)) (pc' := 274) rfl rfl ?_
    refine w_iadd O at_274 (pc' := 275) rfl ?_
    refine w_istoreG O at_275 (L' := fun zq => #[.val (.int u0), .val (.int u1), .val (.int u2), .val (.int u3), .val (.int u4), .val (.int u5), .val (.int k1), .val (.int rd), .val (.int k2), .val (.int k3), .val (.int k4), .val (.int k5), .val (.int g1), .val (.int g2), .val (.int g3), .val (.int g4), .val (.int g5), .val (.ref b), .val (.int (1 : Int32)), .val (.int g1), .val (.int p2), .val (.int p3), .val (.int zq), .unset, .unset, .unset, .unset]) (pc' := 277) rfl (fun _ => rfl) (fun p4 e_p4 => ?_)
    refine w_iload O at_277 (pc' := 279) rfl rfl ?_
    refine w_iload O at_279 (pc' := 281) rfl rfl ?_
    refine w_iadd O at_281 (pc' := 282) rfl ?_
    refine w_iconst O at_282 (z := (1 : Int32)) (pc' := 283) rfl rfl ?_
    refine w_iadd O at_283 (pc' := 284) rfl ?_
    refine w_istoreG O at_284 (L' := fun zq => #[.val (.int u0), .val (.int u1), .val (.int u2), .val (.int u3), .val (.int u4), .val (.int u5), .val (.int k1), .val (.int rd), .val (.int k2), .val (.int k3), .val (.int k4), .val (.int k5), .val (.int g1), .val (.int g2), .val (.int g3), .val (.int g4), .val (.int g5), .val (.ref b), .val (.int (1 : Int32)), .val (.int g1), .val (.int p2), .val (.int p3), .val (.int p4), .val (.int zq), .unset, .unset, .unset]) (pc' := 286) rfl (fun _ => rfl) (fun p5 e_p5 => ?_)
    refine w_iconst O at_286 (z := (0 : Int32)) (pc' := 287) rfl rfl ?_
    refine w_newarr O at_287 (ty := .byte) (dv := (.int (0 : Int32))) (n := 0) (cap := 0) (cl' := 2) (sl' := 5) (pc' := 289) rfl rfl rfl (mw 8 rfl) (by decide) (by decide) (by decide) rfl rfl (by decide) (by decide) (fun h45 b0 qb0 g_b0 Eh45 A_b0 => ?_)
    have ne_b_b0 : b ≠ b0 := Nat.ne_of_lt (by rw [qb0]; exact Ah40.lt)
    have Ah40_h45 := Ah40.ext Eh45
    refine w_astore O at_289 (L' := #[.val (.int u0), .val (.int u1), .val (.int u2), .val (.int u3), .val (.int u4), .val (.int u5), .val (.int k1), .val (.int rd), .val (.int k2), .val (.int k3), .val (.int k4), .val (.int k5), .val (.int g1), .val (.int g2), .val (.int g3), .val (.int g4), .val (.int g5), .val (.ref b), .val (.int (1 : Int32)), .val (.int g1), .val (.int p2), .val (.int p3), .val (.int p4), .val (.int p5), .val (.ref b0), .unset, .unset]) (pc' := 291) rfl rfl rfl ?_
    refine w_aload O at_291 (pc' := 293) rfl rfl rfl ?_
    refine w_static O at_293 (as := [(.ref b0)]) (st := []) (wt := 0) (cl' := 3) (sl' := 10) (pc' := 296) rfl (mw 12 rfl) (mw 13 rfl) (mw 14 rfl) (mw 15 rfl) (by decide) (con_dec l Z a0 hw b0 h45 n0 0 (fun _ => 0) A_b0 (0 : Int32) (by decide) (by decide)) rfl pd_3 rfl rfl rfl (by decide) (by decide) rfl rfl (by decide) (by decide) (cA fun ve0 h47 hve0 ⟨e0, eve0, Ke0, hze0, ge0, Ae0, Ee0⟩ => ?_)
    subst eve0
    have Ah40_h47 := Ah40_h45.keep Ke0 nin0
    have A_b0_h47 := A_b0.keep Ke0 nin0
    refine w_astore O at_296 (L' := #[.val (.int u0), .val (.int u1), .val (.int u2), .val (.int u3), .val (.int u4), .val (.int u5), .val (.int k1), .val (.int rd), .val (.int k2), .val (.int k3), .val (.int k4), .val (.int k5), .val (.int g1), .val (.int g2), .val (.int g3), .val (.int g4), .val (.int g5), .val (.ref b), .val (.int (1 : Int32)), .val (.int g1), .val (.int p2), .val (.int p3), .val (.int p4), .val (.int p5), .val (.ref b0), .val (.ref e0), .unset]) (pc' := 298) rfl rfl rfl ?_
    refine w_aload O at_298 (pc' := 300) rfl rfl rfl ?_
    refine w_static O at_300 (as := [(.ref b)]) (st := []) (wt := 0) (cl' := 4) (sl' := 15) (pc' := 303) rfl (mw 12 rfl) (mw 13 rfl) (mw 14 rfl) (mw 15 rfl) (by decide) (con_dec l Z a0 hw b h47 n0 5 F Ah40_h47 (5 : Int32) (by decide) (by decide)) rfl pd_3 rfl rfl rfl (by decide) (by decide) rfl rfl (by decide) (by decide) (cA fun vgt h48 hvgt ⟨gt, evgt, Kgt, hzgt, ggt, Agt, Egt⟩ => ?_)
    subst evgt
    have Ah40_h48 := Ah40_h47.keep Kgt nin0
    have A_b0_h48 := A_b0_h47.keep Kgt nin0
    have Ae0_h48 := Ae0.keep Kgt nin0
    obtain ⟨d1, n1, o1⟩ := seg F 0 m1 g1 (-1) rfl sg1 (by omega) (by omega) hf1
    rw [neg1_add] at d1 o1
    have h5 : 0 + m1 = 5 := by omega
    rw [h5] at n1 o1
    have z0 : cntB F 0 = 0 := rfl
    have y1 : cntB F (5) = 1 := by omega
    have x0 : outB F 5 0 = g1 := by
      rw [o1, z0]
      simp [updI]
    refine w_astore O at_303 (L' := #[.val (.int u0), .val (.int u1), .val (.int u2), .val (.int u3), .val (.int u4), .val (.int u5), .val (.int k1), .val (.int rd), .val (.int k2), .val (.int k3), .val (.int k4), .val (.int k5), .val (.int g1), .val (.int g2), .val (.int g3), .val (.int g4), .val (.int g5), .val (.ref b), .val (.int (1 : Int32)), .val (.int g1), .val (.int p2), .val (.int p3), .val (.int p4), .val (.int p5), .val (.ref b0), .val (.ref e0), .val (.ref gt)]) (pc' := 305) rfl rfl rfl ?_
    refine w_aload O at_305 (pc' := 307) rfl rfl rfl ?_
    refine w_alen O at_307 (z := (0 : Int32)) (pc' := 308) rfl Ae0_h48 rfl ?_
    refine w_if_ne O at_308 (pn := 311) (pt := 392) rfl (by decide) rfl (fun q => absurd q (by decide)) (fun c308 => ?_)
    refine w_aload O at_311 (pc' := 313) rfl rfl rfl ?_
    refine w_alen O at_313 (z := (1 : Int32)) (pc' := 314) rfl Agt (by rw [y1]; decide) ?_
    refine w_iload O at_314 (pc' := 316) rfl rfl ?_
    refine w_icmp_ne O at_316 (pn := 319) (pt := 392) rfl (by decide) rfl (fun q => absurd q (by decide)) (fun c316 => ?_)
    refine w_aload O at_319 (pc' := 321) rfl rfl rfl ?_
    refine w_iconst O at_321 (z := (0 : Int32)) (pc' := 322) rfl rfl ?_
    refine w_iaload O at_322 (i := 0) (x := g1) (pc' := 323) rfl Agt (by decide) (by rw [y1]; decide) (congrArg Value.int x0) ?_
    refine w_iload O at_323 (pc' := 325) rfl rfl ?_
    refine w_icmp_ne O at_325 (pn := 328) (pt := 392) rfl (by decide) rfl (fun q => absurd q (by omega)) (fun c325 => ?_)
    refine w_iload O at_328 (pc' := 330) rfl rfl ?_
    refine w_iconst O at_330 (z := (2 : Int32)) (pc' := 331) rfl rfl ?_
    refine w_icmp_lt O at_331 (pn := 334) (pt := 343) rfl (by decide) rfl (fun c331 => ?_) (fun q => absurd q (by decide))
    refine w_iload O at_343 (pc' := 345) rfl rfl ?_
    refine w_iconst O at_345 (z := (3 : Int32)) (pc' := 346) rfl rfl ?_
    refine w_icmp_lt O at_346 (pn := 349) (pt := 358) rfl (by decide) rfl (fun c346 => ?_) (fun q => absurd q (by decide))
    refine w_iload O at_358 (pc' := 360) rfl rfl ?_
    refine w_iconst O at_360 (z := (4 : Int32)) (pc' := 361) rfl rfl ?_
    refine w_icmp_lt O at_361 (pn := 364) (pt := 373) rfl (by decide) rfl (fun c361 => ?_) (fun q => absurd q (by decide))
    refine w_iload O at_373 (pc' := 375) rfl rfl ?_
    refine w_iconst O at_375 (z := (5 : Int32)) (pc' := 376) rfl rfl ?_
    refine w_icmp_lt O at_376 (pn := 379) (pt := 388) rfl (by decide) rfl (fun c376 => ?_) (fun q => absurd q (by decide))
    refine w_iconst O at_388 (z := (1 : Int32)) (pc' := 389) rfl rfl ?_
    refine w_goto O at_389 (pc' := 393) (by decide) rfl ?_
    refine w_retz O at_393 (by decide) (by decide) (Or.inr rfl) ?_
    exact ⟨_, rfl, rfl⟩
  · obtain ⟨hN2, hN3, hN4, hN5⟩ := hN
    refine w_iconst O at_199 (z := (1 : Int32)) (pc' := 200) rfl rfl ?_
    refine w_iload O at_200 (pc' := 202) rfl rfl ?_
    refine w_if_le O at_202 (pn := 205) (pt := 209) rfl (by decide) rfl (fun c202 => absurd (show ¬ 0 < k2.toInt from c202) (by omega)) (fun c202 => ?_)
    replace c202 : 0 < k2.toInt := c202
    refine w_iconst O at_205 (z := (1 : Int32)) (pc' := 206) rfl rfl ?_
    refine w_goto O at_206 (pc' := 210) (by decide) rfl ?_
    refine w_iadd O at_210 (pc' := 211) rfl ?_
    refine w_iload O at_211 (pc' := 213) rfl rfl ?_
    refine w_if_le O at_213 (pn := 216) (pt := 220) rfl (by decide) rfl (fun c213 => ?_) (fun c213 => absurd (show 0 < k3.toInt from c213) (by omega))
    replace c213 : ¬ 0 < k3.toInt := c213
    refine w_iconst O at_220 (z := (0 : Int32)) (pc' := 221) rfl rfl ?_
    refine w_iadd O at_221 (pc' := 222) rfl ?_
    refine w_iload O at_222 (pc' := 224) rfl rfl ?_
    refine w_if_le O at_224 (pn := 227) (pt := 231) rfl (by decide) rfl (fun c224 => ?_) (fun c224 => absurd (show 0 < k4.toInt from c224) (by omega))
    replace c224 : ¬ 0 < k4.toInt := c224
    refine w_iconst O at_231 (z := (0 : Int32)) (pc' := 232) rfl rfl ?_
    refine w_iadd O at_232 (pc' := 233) rfl ?_
    refine w_iload O at_233 (pc' := 235) rfl rfl ?_
    refine w_if_le O at_235 (pn := 238) (pt := 242) rfl (by decide) rfl (fun c235 => ?_) (fun c235 => absurd (show 0 < k5.toInt from c235) (by omega))
    replace c235 : ¬ 0 < k5.toInt := c235
    refine w_iconst O at_242 (z := (0 : Int32)) (pc' := 243) rfl rfl ?_
    refine w_iadd O at_243 (pc' := 244) rfl ?_
    refine w_istore O at_244 (L' := #[.val (.int u0), .val (.int u1), .val (.int u2), .val (.int u3), .val (.int u4), .val (.int u5), .val (.int k1), .val (.int rd), .val (.int k2), .val (.int k3), .val (.int k4), .val (.int k5), .val (.int g1), .val (.int g2), .val (.int g3), .val (.int g4), .val (.int g5), .val (.ref b), .val (.int (2 : Int32)), .unset, .unset, .unset, .unset, .unset, .unset, .unset, .unset]) (pc' := 246) rfl rfl ?_
    refine w_iload O at_246 (pc' := 248) rfl rfl ?_
    refine w_istore O at_248 (L' := #[.val (.int u0), .val (.int u1), .val (.int u2), .val (.int u3), .val (.int u4), .val (.int u5), .val (.int k1), .val (.int rd), .val (.int k2), .val (.int k3), .val (.int k4), .val (.int k5), .val (.int g1), .val (.int g2), .val (.int g3), .val (.int g4), .val (.int g5), .val (.ref b), .val (.int (2 : Int32)), .val (.int g1), .unset, .unset, .unset, .unset, .unset, .unset, .unset]) (pc' := 250) rfl rfl ?_
    refine w_iload O at_250 (pc' := 252) rfl rfl ?_
    refine w_iload O at_252 (pc' := 254) rfl rfl ?_
    refine w_iadd O at_254 (pc' := 255) rfl ?_
    refine w_iconst O at_255 (z := (1 : Int32)) (pc' := 256) rfl rfl ?_
    refine w_iadd O at_256 (pc' := 257) rfl ?_
    refine w_istoreG O at_257 (L' := fun zq => #[.val (.int u0), .val (.int u1), .val (.int u2), .val (.int u3), .val (.int u4), .val (.int u5), .val (.int k1), .val (.int rd), .val (.int k2), .val (.int k3), .val (.int k4), .val (.int k5), .val (.int g1), .val (.int g2), .val (.int g3), .val (.int g4), .val (.int g5), .val (.ref b), .val (.int (2 : Int32)), .val (.int g1), .val (.int zq), .unset, .unset, .unset, .unset, .unset, .unset]) (pc' := 259) rfl (fun _ => rfl) (fun p2 e_p2 => ?_)
    refine w_iload O at_259 (pc' := 261) rfl rfl ?_
    refine w_iload O at_261 (pc' := 263) rfl rfl ?_
    refine w_iadd O at_263 (pc' := 264) rfl ?_
    refine w_iconst O at_264 (z := (1 : Int32)) (pc' := 265) rfl rfl ?_
    refine w_iadd O at_265 (pc' := 266) rfl ?_
    refine w_istoreG O at_266 (L' := fun zq => #[.val (.int u0), .val (.int u1), .val (.int u2), .val (.int u3), .val (.int u4), .val (.int u5), .val (.int k1), .val (.int rd), .val (.int k2), .val (.int k3), .val (.int k4), .val (.int k5), .val (.int g1), .val (.int g2), .val (.int g3), .val (.int g4), .val (.int g5), .val (.ref b), .val (.int (2 : Int32)), .val (.int g1), .val (.int p2), .val (.int zq), .unset, .unset, .unset, .unset, .unset]) (pc' := 268) rfl (fun _ => rfl) (fun p3 e_p3 => ?_)
    refine w_iload O at_268 (pc' := 270) rfl rfl ?_
    refine w_iload O at_270 (pc' := 272) rfl rfl ?_
    refine w_iadd O at_272 (pc' := 273) rfl ?_
    refine w_iconst O at_273 (z := (1 : Int32)) (pc' := 274) rfl rfl ?_
    refine w_iadd O at_274 (pc' := 275) rfl ?_
    refine w_istoreG O at_275 (L' := fun zq => #[.val (.int u0), .val (.int u1), .val (.int u2), .val (.int u3), .val (.int u4), .val (.int u5), .val (.int k1), .val (.int rd), .val (.int k2), .val (.int k3), .val (.int k4), .val (.int k5), .val (.int g1), .val (.int g2), .val (.int g3), .val (.int g4), .val (.int g5), .val (.ref b), .val (.int (2 : Int32)), .val (.int g1), .val (.int p2), .val (.int p3), .val (.int zq), .unset, .unset, .unset, .unset]) (pc' := 277) rfl (fun _ => rfl) (fun p4 e_p4 => ?_)
    refine w_iload O at_277 (pc' := 279) rfl rfl ?_
    refine w_iload O at_279 (pc' := 281) rfl rfl ?_
    refine w_iadd O at_281 (pc' := 282) rfl ?_
    refine w_iconst O at_282 (z := (1 : Int32)) (pc' := 283) rfl rfl ?_
    refine w_iadd O at_283 (pc' := 284) rfl ?_
    refine w_istoreG O at_284 (L' := fun zq => #[.val (.int u0), .val (.int u1), .val (.int u2), .val (.int u3), .val (.int u4), .val (.int u5), .val (.int k1), .val (.int rd), .val (.int k2), .val (.int k3), .val (.int k4), .val (.int k5), .val (.int g1), .val (.int g2), .val (.int g3), .val (.int g4), .val (.int g5), .val (.ref b), .val (.int (2 : Int32)), .val (.int g1), .val (.int p2), .val (.int p3), .val (.int p4), .val (.int zq), .unset, .unset, .unset]) (pc' := 286) rfl (fun _ => rfl) (fun p5 e_p5 => ?_)
    refine w_iconst O at_286 (z := (0 : Int32)) (pc' := 287) rfl rfl ?_
    refine w_newarr O at_287 (ty := .byte) (dv := (.int (0 : Int32))) (n := 0) (cap := 0) (cl' := 2) (sl' := 5) (pc' := 289) rfl rfl rfl (mw 8 rfl) (by decide) (by decide) (by decide) rfl rfl (by decide) (by decide) (fun h45 b0 qb0 g_b0 Eh45 A_b0 => ?_)
    have ne_b_b0 : b ≠ b0 := Nat.ne_of_lt (by rw [qb0]; exact Ah40.lt)
    have Ah40_h45 := Ah40.ext Eh45
    refine w_astore O at_289 (L' := #[.val (.int u0), .val (.int u1), .val (.int u2), .val (.int u3), .val (.int u4), .val (.int u5), .val (.int k1), .val (.int rd), .val (.int k2), .val (.int k3), .val (.int k4), .val (.int k5), .val (.int g1), .val (.int g2), .val (.int g3), .val (.int g4), .val (.int g5), .val (.ref b), .val (.int (2 : Int32)), .val (.int g1), .val (.int p2), .val (.int p3), .val (.int p4), .val (.int p5), .val (.ref b0), .unset, .unset]) (pc' := 291) rfl rfl rfl ?_
    refine w_aload O at_291 (pc' := 293) rfl rfl rfl ?_
    refine w_static O at_293 (as := [(.ref b0)]) (st := []) (wt := 0) (cl' := 3) (sl' := 10) (pc' := 296) rfl (mw 12 rfl) (mw 13 rfl) (mw 14 rfl) (mw 15 rfl) (by decide) (con_dec l Z a0 hw b0 h45 n0 0 (fun _ => 0) A_b0 (0 : Int32) (by decide) (by decide)) rfl pd_3 rfl rfl rfl (by decide) (by decide) rfl rfl (by decide) (by decide) (cA fun ve0 h47 hve0 ⟨e0, eve0, Ke0, hze0, ge0, Ae0, Ee0⟩ => ?_)
    subst eve0
    have Ah40_h47 := Ah40_h45.keep Ke0 nin0
    have A_b0_h47 := A_b0.keep Ke0 nin0
    refine w_astore O at_296 (L' := #[.val (.int u0), .val (.int u1), .val (.int u2), .val (.int u3), .val (.int u4), .val (.int u5), .val (.int k1), .val (.int rd), .val (.int k2), .val (.int k3), .val (.int k4), .val (.int k5), .val (.int g1), .val (.int g2), .val (.int g3), .val (.int g4), .val (.int g5), .val (.ref b), .val (.int (2 : Int32)), .val (.int g1), .val (.int p2), .val (.int p3), .val (.int p4), .val (.int p5), .val (.ref b0), .val (.ref e0), .unset]) (pc' := 298) rfl rfl rfl ?_
    refine w_aload O at_298 (pc' := 300) rfl rfl rfl ?_
    refine w_static O at_300 (as := [(.ref b)]) (st := []) (wt := 0) (cl' := 4) (sl' := 15) (pc' := 303) rfl (mw 12 rfl) (mw 13 rfl) (mw 14 rfl) (mw 15 rfl) (by decide) (con_dec l Z a0 hw b h47 n0 5 F Ah40_h47 (5 : Int32) (by decide) (by decide)) rfl pd_3 rfl rfl rfl (by decide) (by decide) rfl rfl (by decide) (by decide) (cA fun vgt h48 hvgt ⟨gt, evgt, Kgt, hzgt, ggt, Agt, Egt⟩ => ?_)
    subst evgt
    have Ah40_h48 := Ah40_h47.keep Kgt nin0
    have A_b0_h48 := A_b0_h47.keep Kgt nin0
    have Ae0_h48 := Ae0.keep Kgt nin0
    obtain ⟨d1, n1, o1⟩ := seg F 0 m1 g1 (-1) rfl sg1 (by omega) (by omega) hf1
    rw [neg1_add] at d1 o1
    obtain ⟨d2, n2, o2⟩ := seg F (0 + m1) m2 g2 g1 d1 sg2 (by omega) (by omega) hf2
    rw [show g1 + (g2 + 1) = p2 by rw [e_p2, Int32.add_assoc]] at d2 o2
    have h5 : 0 + m1 + m2 = 5 := by omega
    rw [h5] at n2 o2
    have z0 : cntB F 0 = 0 := rfl
    have y1 : cntB F (0 + m1) = 1 := by omega
    have y2 : cntB F (5) = 2 := by omega
    have x0 : outB F 5 0 = g1 := by
      rw [o2, y1, o1, z0]
      simp [updI]
    have x1 : outB F 5 1 = p2 := by
      rw [o2, y1, o1, z0]
      simp [updI]
    refine w_astore O at_303 (L' := #[.val (.int u0), .val (.int u1), .val (.int u2), .val (.int u3), .val (.int u4), .val (.int u5), .val (.int k1), .val (.int rd), .val (.int k2), .val (.int k3), .val (.int k4), .val (.int k5), .val (.int g1), .val (.int g2), .val (.int g3), .val (.int g4), .val (.int g5), .val (.ref b), .val (.int (2 : Int32)), .val (.int g1), .val (.int p2), .val (.int p3), .val (.int p4), .val (.int p5), .val (.ref b0), .val (.ref e0), .val (.ref gt)]) (pc' := 305) rfl rfl rfl ?_
    refine w_aload O at_305 (pc' := 307) rfl rfl rfl ?_
    refine w_alen O at_307 (z := (0 : Int32)) (pc' := 308) rfl Ae0_h48 rfl ?_
    refine w_if_ne O at_308 (pn := 311) (pt := 392) rfl (by decide) rfl (fun q => absurd q (by decide)) (fun c308 => ?_)
    refine w_aload O at_311 (pc' := 313) rfl rfl rfl ?_
    refine w_alen O at_313 (z := (2 : Int32)) (pc' := 314) rfl Agt (by rw [y2]; decide) ?_
    refine w_iload O at_314 (pc' := 316) rfl rfl ?_
    refine w_icmp_ne O at_316 (pn := 319) (pt := 392) rfl (by decide) rfl (fun q => absurd q (by decide)) (fun c316 => ?_)
    refine w_aload O at_319 (pc' := 321) rfl rfl rfl ?_
    refine w_iconst O at_321 (z := (0 : Int32)) (pc' := 322) rfl rfl ?_
    refine w_iaload O at_322 (i := 0) (x := g1) (pc' := 323) rfl Agt (by decide) (by rw [y2]; decide) (congrArg Value.int x0) ?_
    refine w_iload O at_323 (pc' := 325) rfl rfl ?_
    refine w_icmp_ne O at_325 (pn := 328) (pt := 392) rfl (by decide) rfl (fun q => absurd q (by omega)) (fun c325 => ?_)
    refine w_iload O at_328 (pc' := 330) rfl rfl ?_
    refine w_iconst O at_330 (z := (2 : Int32)) (pc' := 331) rfl rfl ?_
    refine w_icmp_lt O at_331 (pn := 334) (pt := 343) rfl (by decide) rfl (fun q => absurd q (by decide)) (fun c331 => ?_)
    refine w_aload O at_334 (pc' := 336) rfl rfl rfl ?_
    refine w_iconst O at_336 (z := (1 : Int32)) (pc' := 337) rfl rfl ?_
    refine w_iaload O at_337 (i := 1) (x := p2) (pc' := 338) rfl Agt (by decide) (by rw [y2]; decide) (congrArg Value.int x1) ?_
    refine w_iload O at_338 (pc' := 340) rfl rfl ?_
    refine w_icmp_ne O at_340 (pn := 343) (pt := 392) rfl (by decide) rfl (fun q => absurd q (by omega)) (fun c340 => ?_)
    refine w_iload O at_343 (pc' := 345) rfl rfl ?_
    refine w_iconst O at_345 (z := (3 : Int32)) (pc' := 346) rfl rfl ?_
    refine w_icmp_lt O at_346 (pn := 349) (pt := 358) rfl (by decide) rfl (fun c346 => ?_) (fun q => absurd q (by decide))
    refine w_iload O at_358 (pc' := 360) rfl rfl ?_
    refine w_iconst O at_360 (z := (4 : Int32)) (pc' := 361) rfl rfl ?_
    refine w_icmp_lt O at_361 (pn := 364) (pt := 373) rfl (by decide) rfl (fun c361 => ?_) (fun q => absurd q (by decide))
    refine w_iload O at_373 (pc' := 375) rfl rfl ?_
    refine w_iconst O at_375 (z := (5 : Int32)) (pc' := 376) rfl rfl ?_
    refine w_icmp_lt O at_376 (pn := 379) (pt := 388) rfl (by decide) rfl (fun c376 => ?_) (fun q => absurd q (by decide))
    refine w_iconst O at_388 (z := (1 : Int32)) (pc' := 389) rfl rfl ?_
    refine w_goto O at_389 (pc' := 393) (by decide) rfl ?_
    refine w_retz O at_393 (by decide) (by decide) (Or.inr rfl) ?_
    exact ⟨_, rfl, rfl⟩
  · obtain ⟨hN2, hN3, hN4, hN5⟩ := hN
    refine w_iconst O at_199 (z := (1 : Int32)) (pc' := 200) rfl rfl ?_
    refine w_iload O at_200 (pc' := 202) rfl rfl ?_
    refine w_if_le O at_202 (pn := 205) (pt := 209) rfl (by decide) rfl (fun c202 => absurd (show ¬ 0 < k2.toInt from c202) (by omega)) (fun c202 => ?_)
    replace c202 : 0 < k2.toInt := c202
    refine w_iconst O at_205 (z := (1 : Int32)) (pc' := 206) rfl rfl ?_
    refine w_goto O at_206 (pc' := 210) (by decide) rfl ?_
    refine w_iadd O at_210 (pc' := 211) rfl ?_
    refine w_iload O at_211 (pc' := 213) rfl rfl ?_
    refine w_if_le O at_213 (pn := 216) (pt := 220) rfl (by decide) rfl (fun c213 => absurd (show ¬ 0 < k3.toInt from c213) (by omega)) (fun c213 => ?_)
    replace c213 : 0 < k3.toInt := c213
    refine w_iconst O at_216 (z := (1 : Int32)) (pc' := 217) rfl rfl ?_
    refine w_goto O at_217 (pc' := 221) (by decide) rfl ?_
    refine w_iadd O at_221 (pc' := 222) rfl ?_
    refine w_iload O at_222 (pc' := 224) rfl rfl ?_
    refine w_if_le O at_224 (pn := 227) (pt := 231) rfl (by decide) rfl (fun c224 => ?_) (fun c224 => absurd (show 0 < k4.toInt from c224) (by omega))
    replace c224 : ¬ 0 < k4.toInt := c224
    refine w_iconst O at_231 (z := (0 : Int32)) (pc' := 232) rfl rfl ?_
    refine w_iadd O at_232 (pc' := 233) rfl ?_
    refine w_iload O at_233 (pc' := 235) rfl rfl ?_
    refine w_if_le O at_235 (pn := 238) (pt := 242) rfl (by decide) rfl (fun c235 => ?_) (fun c235 => absurd (show 0 < k5.toInt from c235) (by omega))
    replace c235 : ¬ 0 < k5.toInt := c235
    refine w_iconst O at_242 (z := (0 : Int32)) (pc' := 243) rfl rfl ?_
    refine w_iadd O at_243 (pc' := 244) rfl ?_
    refine w_istore O at_244 (L' := #[.val (.int u0), .val (.int u1), .val (.int u2), .val (.int u3), .val (.int u4), .val (.int u5), .val (.int k1), .val (.int rd), .val (.int k2), .val (.int k3), .val (.int k4), .val (.int k5), .val (.int g1), .val (.int g2), .val (.int g3), .val (.int g4), .val (.int g5), .val (.ref b), .val (.int (3 : Int32)), .unset, .unset, .unset, .unset, .unset, .unset, .unset, .unset]) (pc' := 246) rfl rfl ?_
    refine w_iload O at_246 (pc' := 248) rfl rfl ?_
    refine w_istore O at_248 (L' := #[.val (.int u0), .val (.int u1), .val (.int u2), .val (.int u3), .val (.int u4), .val (.int u5), .val (.int k1), .val (.int rd), .val (.int k2), .val (.int k3), .val (.int k4), .val (.int k5), .val (.int g1), .val (.int g2), .val (.int g3), .val (.int g4), .val (.int g5), .val (.ref b), .val (.int (3 : Int32)), .val (.int g1), .unset, .unset, .unset, .unset, .unset, .unset, .unset]) (pc' := 250) rfl rfl ?_
    refine w_iload O at_250 (pc' := 252) rfl rfl ?_
    refine w_iload O at_252 (pc' := 254) rfl rfl ?_
    refine w_iadd O at_254 (pc' := 255) rfl ?_
    refine w_iconst O at_255 (z := (1 : Int32)) (pc' := 256) rfl rfl ?_
    refine w_iadd O at_256 (pc' := 257) rfl ?_
    refine w_istoreG O at_257 (L' := fun zq => #[.val (.int u0), .val (.int u1), .val (.int u2), .val (.int u3), .val (.int u4), .val (.int u5), .val (.int k1), .val (.int rd), .val (.int k2), .val (.int k3), .val (.int k4), .val (.int k5), .val (.int g1), .val (.int g2), .val (.int g3), .val (.int g4), .val (.int g5), .val (.ref b), .val (.int (3 : Int32)), .val (.int g1), .val (.int zq), .unset, .unset, .unset, .unset, .unset, .unset]) (pc' := 259) rfl (fun _ => rfl) (fun p2 e_p2 => ?_)
    refine w_iload O at_259 (pc' := 261) rfl rfl ?_
    refine w_iload O at_261 (pc' := 263) rfl rfl ?_
    refine w_iadd O at_263 (pc' := 264) rfl ?_
    refine w_iconst O at_264 (z := (1 : Int32)) (pc' := 265) rfl rfl ?_
    refine w_iadd O at_265 (pc' := 266) rfl ?_
    refine w_istoreG O at_266 (L' := fun zq => #[.val (.int u0), .val (.int u1), .val (.int u2), .val (.int u3), .val (.int u4), .val (.int u5), .val (.int k1), .val (.int rd), .val (.int k2), .val (.int k3), .val (.int k4), .val (.int k5), .val (.int g1), .val (.int g2), .val (.int g3), .val (.int g4), .val (.int g5), .val (.ref b), .val (.int (3 : Int32)), .val (.int g1), .val (.int p2), .val (.int zq), .unset, .unset, .unset, .unset, .unset]) (pc' := 268) rfl (fun _ => rfl) (fun p3 e_p3 => ?_)
    refine w_iload O at_268 (pc' := 270) rfl rfl ?_
    refine w_iload O at_270 (pc' := 272) rfl rfl ?_
    refine w_iadd O at_272 (pc' := 273) rfl ?_
    refine w_iconst O at_273 (z := (1 : Int32)) (pc' := 274) rfl rfl ?_
    refine w_iadd O at_274 (pc' := 275) rfl ?_
    refine w_istoreG O at_275 (L' := fun zq => #[.val (.int u0), .val (.int u1), .val (.int u2), .val (.int u3), .val (.int u4), .val (.int u5), .val (.int k1), .val (.int rd), .val (.int k2), .val (.int k3), .val (.int k4), .val (.int k5), .val (.int g1), .val (.int g2), .val (.int g3), .val (.int g4), .val (.int g5), .val (.ref b), .val (.int (3 : Int32)), .val (.int g1), .val (.int p2), .val (.int p3), .val (.int zq), .unset, .unset, .unset, .unset]) (pc' := 277) rfl (fun _ => rfl) (fun p4 e_p4 => ?_)
    refine w_iload O at_277 (pc' := 279) rfl rfl ?_
    refine w_iload O at_279 (pc' := 281) rfl rfl ?_
    refine w_iadd O at_281 (pc' := 282) rfl ?_
    refine w_iconst O at_282 (z := (1 : Int32)) (pc' := 283) rfl rfl ?_
    refine w_iadd O at_283 (pc' := 284) rfl ?_
    refine w_istoreG O at_284 (L' := fun zq => #[.val (.int u0), .val (.int u1), .val (.int u2), .val (.int u3), .val (.int u4), .val (.int u5), .val (.int k1), .val (.int rd), .val (.int k2), .val (.int k3), .val (.int k4), .val (.int k5), .val (.int g1), .val (.int g2), .val (.int g3), .val (.int g4), .val (.int g5), .val (.ref b), .val (.int (3 : Int32)), .val (.int g1), .val (.int p2), .val (.int p3), .val (.int p4), .val (.int zq), .unset, .unset, .unset]) (pc' := 286) rfl (fun _ => rfl) (fun p5 e_p5 => ?_)
    refine w_iconst O at_286 (z := (0 : Int32)) (pc' := 287) rfl rfl ?_
    refine w_newarr O at_287 (ty := .byte) (dv := (.int (0 : Int32))) (n := 0) (cap := 0) (cl' := 2) (sl' := 5) (pc' := 289) rfl rfl rfl (mw 8 rfl) (by decide) (by decide) (by decide) rfl rfl (by decide) (by decide) (fun h45 b0 qb0 g_b0 Eh45 A_b0 => ?_)
    have ne_b_b0 : b ≠ b0 := Nat.ne_of_lt (by rw [qb0]; exact Ah40.lt)
    have Ah40_h45 := Ah40.ext Eh45
    refine w_astore O at_289 (L' := #[.val (.int u0), .val (.int u1), .val (.int u2), .val (.int u3), .val (.int u4), .val (.int u5), .val (.int k1), .val (.int rd), .val (.int k2), .val (.int k3), .val (.int k4), .val (.int k5), .val (.int g1), .val (.int g2), .val (.int g3), .val (.int g4), .val (.int g5), .val (.ref b), .val (.int (3 : Int32)), .val (.int g1), .val (.int p2), .val (.int p3), .val (.int p4), .val (.int p5), .val (.ref b0), .unset, .unset]) (pc' := 291) rfl rfl rfl ?_
    refine w_aload O at_291 (pc' := 293) rfl rfl rfl ?_
    refine w_static O at_293 (as := [(.ref b0)]) (st := []) (wt := 0) (cl' := 3) (sl' := 10) (pc' := 296) rfl (mw 12 rfl) (mw 13 rfl) (mw 14 rfl) (mw 15 rfl) (by decide) (con_dec l Z a0 hw b0 h45 n0 0 (fun _ => 0) A_b0 (0 : Int32) (by decide) (by decide)) rfl pd_3 rfl rfl rfl (by decide) (by decide) rfl rfl (by decide) (by decide) (cA fun ve0 h47 hve0 ⟨e0, eve0, Ke0, hze0, ge0, Ae0, Ee0⟩ => ?_)
    subst eve0
    have Ah40_h47 := Ah40_h45.keep Ke0 nin0
    have A_b0_h47 := A_b0.keep Ke0 nin0
    refine w_astore O at_296 (L' := #[.val (.int u0), .val (.int u1), .val (.int u2), .val (.int u3), .val (.int u4), .val (.int u5), .val (.int k1), .val (.int rd), .val (.int k2), .val (.int k3), .val (.int k4), .val (.int k5), .val (.int g1), .val (.int g2), .val (.int g3), .val (.int g4), .val (.int g5), .val (.ref b), .val (.int (3 : Int32)), .val (.int g1), .val (.int p2), .val (.int p3), .val (.int p4), .val (.int p5), .val (.ref b0), .val (.ref e0), .unset]) (pc' := 298) rfl rfl rfl ?_
    refine w_aload O at_298 (pc' := 300) rfl rfl rfl ?_
    refine w_static O at_300 (as := [(.ref b)]) (st := []) (wt := 0) (cl' := 4) (sl' := 15) (pc' := 303) rfl (mw 12 rfl) (mw 13 rfl) (mw 14 rfl) (mw 15 rfl) (by decide) (con_dec l Z a0 hw b h47 n0 5 F Ah40_h47 (5 : Int32) (by decide) (by decide)) rfl pd_3 rfl rfl rfl (by decide) (by decide) rfl rfl (by decide) (by decide) (cA fun vgt h48 hvgt ⟨gt, evgt, Kgt, hzgt, ggt, Agt, Egt⟩ => ?_)
    subst evgt
    have Ah40_h48 := Ah40_h47.keep Kgt nin0
    have A_b0_h48 := A_b0_h47.keep Kgt nin0
    have Ae0_h48 := Ae0.keep Kgt nin0
    obtain ⟨d1, n1, o1⟩ := seg F 0 m1 g1 (-1) rfl sg1 (by omega) (by omega) hf1
    rw [neg1_add] at d1 o1
    obtain ⟨d2, n2, o2⟩ := seg F (0 + m1) m2 g2 g1 d1 sg2 (by omega) (by omega) hf2
    rw [show g1 + (g2 + 1) = p2 by rw [e_p2, Int32.add_assoc]] at d2 o2
    obtain ⟨d3, n3, o3⟩ := seg F (0 + m1 + m2) m3 g3 p2 d2 sg3 (by omega) (by omega) hf3
    rw [show p2 + (g3 + 1) = p3 by rw [e_p3, Int32.add_assoc]] at d3 o3
    have h5 : 0 + m1 + m2 + m3 = 5 := by omega
    rw [h5] at n3 o3
    have z0 : cntB F 0 = 0 := rfl
    have y1 : cntB F (0 + m1) = 1 := by omega
    have y2 : cntB F (0 + m1 + m2) = 2 := by omega
    have y3 : cntB F (5) = 3 := by omega
    have x0 : outB F 5 0 = g1 := by
      rw [o3, y2, o2, y1, o1, z0]
      simp [updI]
    have x1 : outB F 5 1 = p2 := by
      rw [o3, y2, o2, y1, o1, z0]
      simp [updI]
    have x2 : outB F 5 2 = p3 := by
      rw [o3, y2, o2, y1, o1, z0]
      simp [updI]
    refine w_astore O at_303 (L' := #[.val (.int u0), .val (.int u1), .val (.int u2), .val (.int u3), .val (.int u4), .val (.int u5), .val (.int k1), .val (.int rd), .val (.int k2), .val (.int k3), .val (.int k4), .val (.int k5), .val (.int g1), .val (.int g2), .val (.int g3), .val (.int g4), .val (.int g5), .val (.ref b), .val (.int (3 : Int32)), .val (.int g1), .val (.int p2), .val (.int p3), .val (.int p4), .val (.int p5), .val (.ref b0), .val (.ref e0), .val (.ref gt)]) (pc' := 305) rfl rfl rfl ?_
    refine w_aload O at_305 (pc' := 307) rfl rfl rfl ?_
    refine w_alen O at_307 (z := (0 : Int32)) (pc' := 308) rfl Ae0_h48 rfl ?_
    refine w_if_ne O at_308 (pn := 311) (pt := 392) rfl (by decide) rfl (fun q => absurd q (by decide)) (fun c308 => ?_)
    refine w_aload O at_311 (pc' := 313) rfl rfl rfl ?_
    refine w_alen O at_313 (z := (3 : Int32)) (pc' := 314) rfl Agt (by rw [y3]; decide) ?_
    refine w_iload O at_314 (pc' := 316) rfl rfl ?_
    refine w_icmp_ne O at_316 (pn := 319) (pt := 392) rfl (by decide) rfl (fun q => absurd q (by decide)) (fun c316 => ?_)
    refine w_aload O at_319 (pc' := 321) rfl rfl rfl ?_
    refine w_iconst O at_321 (z := (0 : Int32)) (pc' := 322) rfl rfl ?_
    refine w_iaload O at_322 (i := 0) (x := g1) (pc' := 323) rfl Agt (by decide) (by rw [y3]; decide) (congrArg Value.int x0) ?_
    refine w_iload O at_323 (pc' := 325) rfl rfl ?_
    refine w_icmp_ne O at_325 (pn := 328) (pt := 392) rfl (by decide) rfl (fun q => absurd q (by omega)) (fun c325 => ?_)
    refine w_iload O at_328 (pc' := 330) rfl rfl ?_
    refine w_iconst O at_330 (z := (2 : Int32)) (pc' := 331) rfl rfl ?_
    refine w_icmp_lt O at_331 (pn := 334) (pt := 343) rfl (by decide) rfl (fun q => absurd q (by decide)) (fun c331 => ?_)
    refine w_aload O at_334 (pc' := 336) rfl rfl rfl ?_
    refine w_iconst O at_336 (z := (1 : Int32)) (pc' := 337) rfl rfl ?_
    refine w_iaload O at_337 (i := 1) (x := p2) (pc' := 338) rfl Agt (by decide) (by rw [y3]; decide) (congrArg Value.int x1) ?_
    refine w_iload O at_338 (pc' := 340) rfl rfl ?_
    refine w_icmp_ne O at_340 (pn := 343) (pt := 392) rfl (by decide) rfl (fun q => absurd q (by omega)) (fun c340 => ?_)
    refine w_iload O at_343 (pc' := 345) rfl rfl ?_
    refine w_iconst O at_345 (z := (3 : Int32)) (pc' := 346) rfl rfl ?_
    refine w_icmp_lt O at_346 (pn := 349) (pt := 358) rfl (by decide) rfl (fun q => absurd q (by decide)) (fun c346 => ?_)
    refine w_aload O at_349 (pc' := 351) rfl rfl rfl ?_
    refine w_iconst O at_351 (z := (2 : Int32)) (pc' := 352) rfl rfl ?_
    refine w_iaload O at_352 (i := 2) (x := p3) (pc' := 353) rfl Agt (by decide) (by rw [y3]; decide) (congrArg Value.int x2) ?_
    refine w_iload O at_353 (pc' := 355) rfl rfl ?_
    refine w_icmp_ne O at_355 (pn := 358) (pt := 392) rfl (by decide) rfl (fun q => absurd q (by omega)) (fun c355 => ?_)
    refine w_iload O at_358 (pc' := 360) rfl rfl ?_
    refine w_iconst O at_360 (z := (4 : Int32)) (pc' := 361) rfl rfl ?_
    refine w_icmp_lt O at_361 (pn := 364) (pt := 373) rfl (by decide) rfl (fun c361 => ?_) (fun q => absurd q (by decide))
    refine w_iload O at_373 (pc' := 375) rfl rfl ?_
    refine w_iconst O at_375 (z := (5 : Int32)) (pc' := 376) rfl rfl ?_
    refine w_icmp_lt O at_376 (pn := 379) (pt := 388) rfl (by decide) rfl (fun c376 => ?_) (fun q => absurd q (by decide))
    refine w_iconst O at_388 (z := (1 : Int32)) (pc' := 389) rfl rfl ?_
    refine w_goto O at_389 (pc' := 393) (by decide) rfl ?_
    refine w_retz O at_393 (by decide) (by decide) (Or.inr rfl) ?_
    exact ⟨_, rfl, rfl⟩
  · obtain ⟨hN2, hN3, hN4, hN5⟩ := hN
    refine w_iconst O at_199 (z := (1 : Int32)) (pc' := 200) rfl rfl ?_
    refine w_iload O at_200 (pc' := 202) rfl rfl ?_
    refine w_if_le O at_202 (pn := 205) (pt := 209) rfl (by decide) rfl (fun c202 => absurd (show ¬ 0 < k2.toInt from c202) (by omega)) (fun c202 => ?_)
    replace c202 : 0 < k2.toInt := c202
    refine w_iconst O at_205 (z := (1 : Int32)) (pc' := 206) rfl rfl ?_
    refine w_goto O at_206 (pc' := 210) (by decide) rfl ?_
    refine w_iadd O at_210 (pc' := 211) rfl ?_
    refine w_iload O at_211 (pc' := 213) rfl rfl ?_
    refine w_if_le O at_213 (pn := 216) (pt := 220) rfl (by decide) rfl (fun c213 => absurd (show ¬ 0 < k3.toInt from c213) (by omega)) (fun c213 => ?_)
    replace c213 : 0 < k3.toInt := c213
    refine w_iconst O at_216 (z := (1 : Int32)) (pc' := 217) rfl rfl ?_
    refine w_goto O at_217 (pc' := 221) (by decide) rfl ?_
    refine w_iadd O at_221 (pc' := 222) rfl ?_
    refine w_iload O at_222 (pc' := 224) rfl rfl ?_
    refine w_if_le O at_224 (pn := 227) (pt := 231) rfl (by decide) rfl (fun c224 => absurd (show ¬ 0 < k4.toInt from c224) (by omega)) (fun c224 => ?_)
    replace c224 : 0 < k4.toInt := c224
    refine w_iconst O at_227 (z := (1 : Int32)) (pc' := 228) rfl rfl ?_
    refine w_goto O at_228 (pc' := 232) (by decide) rfl ?_
    refine w_iadd O at_232 (pc' := 233) rfl ?_
    refine w_iload O at_233 (pc' := 235) rfl rfl ?_
    refine w_if_le O at_235 (pn := 238) (pt := 242) rfl (by decide) rfl (fun c235 => ?_) (fun c235 => absurd (show 0 < k5.toInt from c235) (by omega))
    replace c235 : ¬ 0 < k5.toInt := c235
    refine w_iconst O at_242 (z := (0 : Int32)) (pc' := 243) rfl rfl ?_
    refine w_iadd O at_243 (pc' := 244) rfl ?_
    refine w_istore O at_244 (L' := #[.val (.int u0), .val (.int u1), .val (.int u2), .val (.int u3), .val (.int u4), .val (.int u5), .val (.int k1), .val (.int rd), .val (.int k2), .val (.int k3), .val (.int k4), .val (.int k5), .val (.int g1), .val (.int g2), .val (.int g3), .val (.int g4), .val (.int g5), .val (.ref b), .val (.int (4 : Int32)), .unset, .unset, .unset, .unset, .unset, .unset, .unset, .unset]) (pc' := 246) rfl rfl ?_
    refine w_iload O at_246 (pc' := 248) rfl rfl ?_
    refine w_istore O at_248 (L' := #[.val (.int u0), .val (.int u1), .val (.int u2), .val (.int u3), .val (.int u4), .val (.int u5), .val (.int k1), .val (.int rd), .val (.int k2), .val (.int k3), .val (.int k4), .val (.int k5), .val (.int g1), .val (.int g2), .val (.int g3), .val (.int g4), .val (.int g5), .val (.ref b), .val (.int (4 : Int32)), .val (.int g1), .unset, .unset, .unset, .unset, .unset, .unset, .unset]) (pc' := 250) rfl rfl ?_
    refine w_iload O at_250 (pc' := 252) rfl rfl ?_
    refine w_iload O at_252 (pc' := 254) rfl rfl ?_
    refine w_iadd O at_254 (pc' := 255) rfl ?_
    refine w_iconst O at_255 (z := (1 : Int32)) (pc' := 256) rfl rfl ?_
    refine w_iadd O at_256 (pc' := 257) rfl ?_
    refine w_istoreG O at_257 (L' := fun zq => #[.val (.int u0), .val (.int u1), .val (.int u2), .val (.int u3), .val (.int u4), .val (.int u5), .val (.int k1), .val (.int rd), .val (.int k2), .val (.int k3), .val (.int k4), .val (.int k5), .val (.int g1), .val (.int g2), .val (.int g3), .val (.int g4), .val (.int g5), .val (.ref b), .val (.int (4 : Int32)), .val (.int g1), .val (.int zq), .unset, .unset, .unset, .unset, .unset, .unset]) (pc' := 259) rfl (fun _ => rfl) (fun p2 e_p2 => ?_)
    refine w_iload O at_259 (pc' := 261) rfl rfl ?_
    refine w_iload O at_261 (pc' := 263) rfl rfl ?_
    refine w_iadd O at_263 (pc' := 264) rfl ?_
    refine w_iconst O at_264 (z := (1 : Int32)) (pc' := 265) rfl rfl ?_
    refine w_iadd O at_265 (pc' := 266) rfl ?_
    refine w_istoreG O at_266 (L' := fun zq => #[.val (.int u0), .val (.int u1), .val (.int u2), .val (.int u3), .val (.int u4), .val (.int u5), .val (.int k1), .val (.int rd), .val (.int k2), .val (.int k3), .val (.int k4), .val (.int k5), .val (.int g1), .val (.int g2), .val (.int g3), .val (.int g4), .val (.int g5), .val (.ref b), .val (.int (4 : Int32)), .val (.int g1), .val (.int p2), .val (.int zq), .unset, .unset, .unset, .unset, .unset]) (pc' := 268) rfl (fun _ => rfl) (fun p3 e_p3 => ?_)
    refine w_iload O at_268 (pc' := 270) rfl rfl ?_
    refine w_iload O at_270 (pc' := 272) rfl rfl ?_
    refine w_iadd O at_272 (pc' := 273) rfl ?_
    refine w_iconst O at_273 (z := (1 : Int32)) (pc' := 274) rfl rfl ?_
    refine w_iadd O at_274 (pc' := 275) rfl ?_
    refine w_istoreG O at_275 (L' := fun zq => #[.val (.int u0), .val (.int u1), .val (.int u2), .val (.int u3), .val (.int u4), .val (.int u5), .val (.int k1), .val (.int rd), .val (.int k2), .val (.int k3), .val (.int k4), .val (.int k5), .val (.int g1), .val (.int g2), .val (.int g3), .val (.int g4), .val (.int g5), .val (.ref b), .val (.int (4 : Int32)), .val (.int g1), .val (.int p2), .val (.int p3), .val (.int zq), .unset, .unset, .unset, .unset]) (pc' := 277) rfl (fun _ => rfl) (fun p4 e_p4 => ?_)
    refine w_iload O at_277 (pc' := 279) rfl rfl ?_
    refine w_iload O at_279 (pc' := 281) rfl rfl ?_
    refine w_iadd O at_281 (pc' := 282) rfl ?_
    refine w_iconst O at_282 (z := (1 : Int32)) (pc' := 283) rfl rfl ?_
    refine w_iadd O at_283 (pc' := 284) rfl ?_
    refine w_istoreG O at_284 (L' := fun zq => #[.val (.int u0), .val (.int u1), .val (.int u2), .val (.int u3), .val (.int u4), .val (.int u5), .val (.int k1), .val (.int rd), .val (.int k2), .val (.int k3), .val (.int k4), .val (.int k5), .val (.int g1), .val (.int g2), .val (.int g3), .val (.int g4), .val (.int g5), .val (.ref b), .val (.int (4 : Int32)), .val (.int g1), .val (.int p2), .val (.int p3), .val (.int p4), .val (.int zq), .unset, .unset, .unset]) (pc' := 286) rfl (fun _ => rfl) (fun p5 e_p5 => ?_)
    refine w_iconst O at_286 (z := (0 : Int32)) (pc' := 287) rfl rfl ?_
    refine w_newarr O at_287 (ty := .byte) (dv := (.int (0 : Int32))) (n := 0) (cap := 0) (cl' := 2) (sl' := 5) (pc' := 289) rfl rfl rfl (mw 8 rfl) (by decide) (by decide) (by decide) rfl rfl (by decide) (by decide) (fun h45 b0 qb0 g_b0 Eh45 A_b0 => ?_)
    have ne_b_b0 : b ≠ b0 := Nat.ne_of_lt (by rw [qb0]; exact Ah40.lt)
    have Ah40_h45 := Ah40.ext Eh45
    refine w_astore O at_289 (L' := #[.val (.int u0), .val (.int u1), .val (.int u2), .val (.int u3), .val (.int u4), .val (.int u5), .val (.int k1), .val (.int rd), .val (.int k2), .val (.int k3), .val (.int k4), .val (.int k5), .val (.int g1), .val (.int g2), .val (.int g3), .val (.int g4), .val (.int g5), .val (.ref b), .val (.int (4 : Int32)), .val (.int g1), .val (.int p2), .val (.int p3), .val (.int p4), .val (.int p5), .val (.ref b0), .unset, .unset]) (pc' := 291) rfl rfl rfl ?_
    refine w_aload O at_291 (pc' := 293) rfl rfl rfl ?_
    refine w_static O at_293 (as := [(.ref b0)]) (st := []) (wt := 0) (cl' := 3) (sl' := 10) (pc' := 296) rfl (mw 12 rfl) (mw 13 rfl) (mw 14 rfl) (mw 15 rfl) (by decide) (con_dec l Z a0 hw b0 h45 n0 0 (fun _ => 0) A_b0 (0 : Int32) (by decide) (by decide)) rfl pd_3 rfl rfl rfl (by decide) (by decide) rfl rfl (by decide) (by decide) (cA fun ve0 h47 hve0 ⟨e0, eve0, Ke0, hze0, ge0, Ae0, Ee0⟩ => ?_)
    subst eve0
    have Ah40_h47 := Ah40_h45.keep Ke0 nin0
    have A_b0_h47 := A_b0.keep Ke0 nin0
    refine w_astore O at_296 (L' := #[.val (.int u0), .val (.int u1), .val (.int u2), .val (.int u3), .val (.int u4), .val (.int u5), .val (.int k1), .val (.int rd), .val (.int k2), .val (.int k3), .val (.int k4), .val (.int k5), .val (.int g1), .val (.int g2), .val (.int g3), .val (.int g4), .val (.int g5), .val (.ref b), .val (.int (4 : Int32)), .val (.int g1), .val (.int p2), .val (.int p3), .val (.int p4), .val (.int p5), .val (.ref b0), .val (.ref e0), .unset]) (pc' := 298) rfl rfl rfl ?_
    refine w_aload O at_298 (pc' := 300) rfl rfl rfl ?_
    refine w_static O at_300 (as := [(.ref b)]) (st := []) (wt := 0) (cl' := 4) (sl' := 15) (pc' := 303) rfl (mw 12 rfl) (mw 13 rfl) (mw 14 rfl) (mw 15 rfl) (by decide) (con_dec l Z a0 hw b h47 n0 5 F Ah40_h47 (5 : Int32) (by decide) (by decide)) rfl pd_3 rfl rfl rfl (by decide) (by decide) rfl rfl (by decide) (by decide) (cA fun vgt h48 hvgt ⟨gt, evgt, Kgt, hzgt, ggt, Agt, Egt⟩ => ?_)
    subst evgt
    have Ah40_h48 := Ah40_h47.keep Kgt nin0
    have A_b0_h48 := A_b0_h47.keep Kgt nin0
    have Ae0_h48 := Ae0.keep Kgt nin0
    obtain ⟨d1, n1, o1⟩ := seg F 0 m1 g1 (-1) rfl sg1 (by omega) (by omega) hf1
    rw [neg1_add] at d1 o1
    obtain ⟨d2, n2, o2⟩ := seg F (0 + m1) m2 g2 g1 d1 sg2 (by omega) (by omega) hf2
    rw [show g1 + (g2 + 1) = p2 by rw [e_p2, Int32.add_assoc]] at d2 o2
    obtain ⟨d3, n3, o3⟩ := seg F (0 + m1 + m2) m3 g3 p2 d2 sg3 (by omega) (by omega) hf3
    rw [show p2 + (g3 + 1) = p3 by rw [e_p3, Int32.add_assoc]] at d3 o3
    obtain ⟨d4, n4, o4⟩ := seg F (0 + m1 + m2 + m3) m4 g4 p3 d3 sg4 (by omega) (by omega) hf4
    rw [show p3 + (g4 + 1) = p4 by rw [e_p4, Int32.add_assoc]] at d4 o4
    have h5 : 0 + m1 + m2 + m3 + m4 = 5 := by omega
    rw [h5] at n4 o4
    have z0 : cntB F 0 = 0 := rfl
    have y1 : cntB F (0 + m1) = 1 := by omega
    have y2 : cntB F (0 + m1 + m2) = 2 := by omega
    have y3 : cntB F (0 + m1 + m2 + m3) = 3 := by omega
    have y4 : cntB F (5) = 4 := by omega
    have x0 : outB F 5 0 = g1 := by
      rw [o4, y3, o3, y2, o2, y1, o1, z0]
      simp [updI]
    have x1 : outB F 5 1 = p2 := by
      rw [o4, y3, o3, y2, o2, y1, o1, z0]
      simp [updI]
    have x2 : outB F 5 2 = p3 := by
      rw [o4, y3, o3, y2, o2, y1, o1, z0]
      simp [updI]
    have x3 : outB F 5 3 = p4 := by
      rw [o4, y3, o3, y2, o2, y1, o1, z0]
      simp [updI]
    refine w_astore O at_303 (L' := #[.val (.int u0), .val (.int u1), .val (.int u2), .val (.int u3), .val (.int u4), .val (.int u5), .val (.int k1), .val (.int rd), .val (.int k2), .val (.int k3), .val (.int k4), .val (.int k5), .val (.int g1), .val (.int g2), .val (.int g3), .val (.int g4), .val (.int g5), .val (.ref b), .val (.int (4 : Int32)), .val (.int g1), .val (.int p2), .val (.int p3), .val (.int p4), .val (.int p5), .val (.ref b0), .val (.ref e0), .val (.ref gt)]) (pc' := 305) rfl rfl rfl ?_
    refine w_aload O at_305 (pc' := 307) rfl rfl rfl ?_
    refine w_alen O at_307 (z := (0 : Int32)) (pc' := 308) rfl Ae0_h48 rfl ?_
    refine w_if_ne O at_308 (pn := 311) (pt := 392) rfl (by decide) rfl (fun q => absurd q (by decide)) (fun c308 => ?_)
    refine w_aload O at_311 (pc' := 313) rfl rfl rfl ?_
    refine w_alen O at_313 (z := (4 : Int32)) (pc' := 314) rfl Agt (by rw [y4]; decide) ?_
    refine w_iload O at_314 (pc' := 316) rfl rfl ?_
    refine w_icmp_ne O at_316 (pn := 319) (pt := 392) rfl (by decide) rfl (fun q => absurd q (by decide)) (fun c316 => ?_)
    refine w_aload O at_319 (pc' := 321) rfl rfl rfl ?_
    refine w_iconst O at_321 (z := (0 : Int32)) (pc' := 322) rfl rfl ?_
    refine w_iaload O at_322 (i := 0) (x := g1) (pc' := 323) rfl Agt (by decide) (by rw [y4]; decide) (congrArg Value.int x0) ?_
    refine w_iload O at_323 (pc' := 325) rfl rfl ?_
    refine w_icmp_ne O at_325 (pn := 328) (pt := 392) rfl (by decide) rfl (fun q => absurd q (by omega)) (fun c325 => ?_)
    refine w_iload O at_328 (pc' := 330) rfl rfl ?_
    refine w_iconst O at_330 (z := (2 : Int32)) (pc' := 331) rfl rfl ?_
    refine w_icmp_lt O at_331 (pn := 334) (pt := 343) rfl (by decide) rfl (fun q => absurd q (by decide)) (fun c331 => ?_)
    refine w_aload O at_334 (pc' := 336) rfl rfl rfl ?_
    refine w_iconst O at_336 (z := (1 : Int32)) (pc' := 337) rfl rfl ?_
    refine w_iaload O at_337 (i := 1) (x := p2) (pc' := 338) rfl Agt (by decide) (by rw [y4]; decide) (congrArg Value.int x1) ?_
    refine w_iload O at_338 (pc' := 340) rfl rfl ?_
    refine w_icmp_ne O at_340 (pn := 343) (pt := 392) rfl (by decide) rfl (fun q => absurd q (by omega)) (fun c340 => ?_)
    refine w_iload O at_343 (pc' := 345) rfl rfl ?_
    refine w_iconst O at_345 (z := (3 : Int32)) (pc' := 346) rfl rfl ?_
    refine w_icmp_lt O at_346 (pn := 349) (pt := 358) rfl (by decide) rfl (fun q => absurd q (by decide)) (fun c346 => ?_)
    refine w_aload O at_349 (pc' := 351) rfl rfl rfl ?_
    refine w_iconst O at_351 (z := (2 : Int32)) (pc' := 352) rfl rfl ?_
    refine w_iaload O at_352 (i := 2) (x := p3) (pc' := 353) rfl Agt (by decide) (by rw [y4]; decide) (congrArg Value.int x2) ?_
    refine w_iload O at_353 (pc' := 355) rfl rfl ?_
    refine w_icmp_ne O at_355 (pn := 358) (pt := 392) rfl (by decide) rfl (fun q => absurd q (by omega)) (fun c355 => ?_)
    refine w_iload O at_358 (pc' := 360) rfl rfl ?_
    refine w_iconst O at_360 (z := (4 : Int32)) (pc' := 361) rfl rfl ?_
    refine w_icmp_lt O at_361 (pn := 364) (pt := 373) rfl (by decide) rfl (fun q => absurd q (by decide)) (fun c361 => ?_)
    refine w_aload O at_364 (pc' := 366) rfl rfl rfl ?_
    refine w_iconst O at_366 (z := (3 : Int32)) (pc' := 367) rfl rfl ?_
    refine w_iaload O at_367 (i := 3) (x := p4) (pc' := 368) rfl Agt (by decide) (by rw [y4]; decide) (congrArg Value.int x3) ?_
    refine w_iload O at_368 (pc' := 370) rfl rfl ?_
    refine w_icmp_ne O at_370 (pn := 373) (pt := 392) rfl (by decide) rfl (fun q => absurd q (by omega)) (fun c370 => ?_)
    refine w_iload O at_373 (pc' := 375) rfl rfl ?_
    refine w_iconst O at_375 (z := (5 : Int32)) (pc' := 376) rfl rfl ?_
    refine w_icmp_lt O at_376 (pn := 379) (pt := 388) rfl (by decide) rfl (fun c376 => ?_) (fun q => absurd q (by decide))
    refine w_iconst O at_388 (z := (1 : Int32)) (pc' := 389) rfl rfl ?_
    refine w_goto O at_389 (pc' := 393) (by decide) rfl ?_
    refine w_retz O at_393 (by decide) (by decide) (Or.inr rfl) ?_
    exact ⟨_, rfl, rfl⟩
  · obtain ⟨hN2, hN3, hN4, hN5⟩ := hN
    refine w_iconst O at_199 (z := (1 : Int32)) (pc' := 200) rfl rfl ?_
    refine w_iload O at_200 (pc' := 202) rfl rfl ?_
    refine w_if_le O at_202 (pn := 205) (pt := 209) rfl (by decide) rfl (fun c202 => absurd (show ¬ 0 < k2.toInt from c202) (by omega)) (fun c202 => ?_)
    replace c202 : 0 < k2.toInt := c202
    refine w_iconst O at_205 (z := (1 : Int32)) (pc' := 206) rfl rfl ?_
    refine w_goto O at_206 (pc' := 210) (by decide) rfl ?_
    refine w_iadd O at_210 (pc' := 211) rfl ?_
    refine w_iload O at_211 (pc' := 213) rfl rfl ?_
    refine w_if_le O at_213 (pn := 216) (pt := 220) rfl (by decide) rfl (fun c213 => absurd (show ¬ 0 < k3.toInt from c213) (by omega)) (fun c213 => ?_)
    replace c213 : 0 < k3.toInt := c213
    refine w_iconst O at_216 (z := (1 : Int32)) (pc' := 217) rfl rfl ?_
    refine w_goto O at_217 (pc' := 221) (by decide) rfl ?_
    refine w_iadd O at_221 (pc' := 222) rfl ?_
    refine w_iload O at_222 (pc' := 224) rfl rfl ?_
    refine w_if_le O at_224 (pn := 227) (pt := 231) rfl (by decide) rfl (fun c224 => absurd (show ¬ 0 < k4.toInt from c224) (by omega)) (fun c224 => ?_)
    replace c224 : 0 < k4.toInt := c224
    refine w_iconst O at_227 (z := (1 : Int32)) (pc' := 228) rfl rfl ?_
    refine w_goto O at_228 (pc' := 232) (by decide) rfl ?_
    refine w_iadd O at_232 (pc' := 233) rfl ?_
    refine w_iload O at_233 (pc' := 235) rfl rfl ?_
    refine w_if_le O at_235 (pn := 238) (pt := 242) rfl (by decide) rfl (fun c235 => absurd (show ¬ 0 < k5.toInt from c235) (by omega)) (fun c235 => ?_)
    replace c235 : 0 < k5.toInt := c235
    refine w_iconst O at_238 (z := (1 : Int32)) (pc' := 239) rfl rfl ?_
    refine w_goto O at_239 (pc' := 243) (by decide) rfl ?_
    refine w_iadd O at_243 (pc' := 244) rfl ?_
    refine w_istore O at_244 (L' := #[.val (.int u0), .val (.int u1), .val (.int u2), .val (.int u3), .val (.int u4), .val (.int u5), .val (.int k1), .val (.int rd), .val (.int k2), .val (.int k3), .val (.int k4), .val (.int k5), .val (.int g1), .val (.int g2), .val (.int g3), .val (.int g4), .val (.int g5), .val (.ref b), .val (.int (5 : Int32)), .unset, .unset, .unset, .unset, .unset, .unset, .unset, .unset]) (pc' := 246) rfl rfl ?_
    refine w_iload O at_246 (pc' := 248) rfl rfl ?_
    refine w_istore O at_248 (L' := #[.val (.int u0), .val (.int u1), .val (.int u2), .val (.int u3), .val (.int u4), .val (.int u5), .val (.int k1), .val (.int rd), .val (.int k2), .val (.int k3), .val (.int k4), .val (.int k5), .val (.int g1), .val (.int g2), .val (.int g3), .val (.int g4), .val (.int g5), .val (.ref b), .val (.int (5 : Int32)), .val (.int g1), .unset, .unset, .unset, .unset, .unset, .unset, .unset]) (pc' := 250) rfl rfl ?_
    refine w_iload O at_250 (pc' := 252) rfl rfl ?_
    refine w_iload O at_252 (pc' := 254) rfl rfl ?_
    refine w_iadd O at_254 (pc' := 255) rfl ?_
    refine w_iconst O at_255 (z := (1 : Int32)) (pc' := 256) rfl rfl ?_
    refine w_iadd O at_256 (pc' := 257) rfl ?_
    refine w_istoreG O at_257 (L' := fun zq => #[.val (.int u0), .val (.int u1), .val (.int u2), .val (.int u3), .val (.int u4), .val (.int u5), .val (.int k1), .val (.int rd), .val (.int k2), .val (.int k3), .val (.int k4), .val (.int k5), .val (.int g1), .val (.int g2), .val (.int g3), .val (.int g4), .val (.int g5), .val (.ref b), .val (.int (5 : Int32)), .val (.int g1), .val (.int zq), .unset, .unset, .unset, .unset, .unset, .unset]) (pc' := 259) rfl (fun _ => rfl) (fun p2 e_p2 => ?_)
    refine w_iload O at_259 (pc' := 261) rfl rfl ?_
    refine w_iload O at_261 (pc' := 263) rfl rfl ?_
    refine w_iadd O at_263 (pc' := 264) rfl ?_
    refine w_iconst O at_264 (z := (1 : Int32)) (pc' := 265) rfl rfl ?_
    refine w_iadd O at_265 (pc' := 266) rfl ?_
    refine w_istoreG O at_266 (L' := fun zq => #[.val (.int u0), .val (.int u1), .val (.int u2), .val (.int u3), .val (.int u4), .val (.int u5), .val (.int k1), .val (.int rd), .val (.int k2), .val (.int k3), .val (.int k4), .val (.int k5), .val (.int g1), .val (.int g2), .val (.int g3), .val (.int g4), .val (.int g5), .val (.ref b), .val (.int (5 : Int32)), .val (.int g1), .val (.int p2), .val (.int zq), .unset, .unset, .unset, .unset, .unset]) (pc' := 268) rfl (fun _ => rfl) (fun p3 e_p3 => ?_)
    refine w_iload O at_268 (pc' := 270) rfl rfl ?_
    refine w_iload O at_270 (pc' := 272) rfl rfl ?_
    refine w_iadd O at_272 (pc' := 273) rfl ?_
    refine w_iconst O at_273 (z := (1 : Int32)) (pc' := 274) rfl rfl ?_
    refine w_iadd O at_274 (pc' := 275) rfl ?_
    refine w_istoreG O at_275 (L' := fun zq => #[.val (.int u0), .val (.int u1), .val (.int u2), .val (.int u3), .val (.int u4), .val (.int u5), .val (.int k1), .val (.int rd), .val (.int k2), .val (.int k3), .val (.int k4), .val (.int k5), .val (.int g1), .val (.int g2), .val (.int g3), .val (.int g4), .val (.int g5), .val (.ref b), .val (.int (5 : Int32)), .val (.int g1), .val (.int p2), .val (.int p3), .val (.int zq), .unset, .unset, .unset, .unset]) (pc' := 277) rfl (fun _ => rfl) (fun p4 e_p4 => ?_)
    refine w_iload O at_277 (pc' := 279) rfl rfl ?_
    refine w_iload O at_279 (pc' := 281) rfl rfl ?_
    refine w_iadd O at_281 (pc' := 282) rfl ?_
    refine w_iconst O at_282 (z := (1 : Int32)) (pc' := 283) rfl rfl ?_
    refine w_iadd O at_283 (pc' := 284) rfl ?_
    refine w_istoreG O at_284 (L' := fun zq => #[.val (.int u0), .val (.int u1), .val (.int u2), .val (.int u3), .val (.int u4), .val (.int u5), .val (.int k1), .val (.int rd), .val (.int k2), .val (.int k3), .val (.int k4), .val (.int k5), .val (.int g1), .val (.int g2), .val (.int g3), .val (.int g4), .val (.int g5), .val (.ref b), .val (.int (5 : Int32)), .val (.int g1), .val (.int p2), .val (.int p3), .val (.int p4), .val (.int zq), .unset, .unset, .unset]) (pc' := 286) rfl (fun _ => rfl) (fun p5 e_p5 => ?_)
    refine w_iconst O at_286 (z := (0 : Int32)) (pc' := 287) rfl rfl ?_
    refine w_newarr O at_287 (ty := .byte) (dv := (.int (0 : Int32))) (n := 0) (cap := 0) (cl' := 2) (sl' := 5) (pc' := 289) rfl rfl rfl (mw 8 rfl) (by decide) (by decide) (by decide) rfl rfl (by decide) (by decide) (fun h45 b0 qb0 g_b0 Eh45 A_b0 => ?_)
    have ne_b_b0 : b ≠ b0 := Nat.ne_of_lt (by rw [qb0]; exact Ah40.lt)
    have Ah40_h45 := Ah40.ext Eh45
    refine w_astore O at_289 (L' := #[.val (.int u0), .val (.int u1), .val (.int u2), .val (.int u3), .val (.int u4), .val (.int u5), .val (.int k1), .val (.int rd), .val (.int k2), .val (.int k3), .val (.int k4), .val (.int k5), .val (.int g1), .val (.int g2), .val (.int g3), .val (.int g4), .val (.int g5), .val (.ref b), .val (.int (5 : Int32)), .val (.int g1), .val (.int p2), .val (.int p3), .val (.int p4), .val (.int p5), .val (.ref b0), .unset, .unset]) (pc' := 291) rfl rfl rfl ?_
    refine w_aload O at_291 (pc' := 293) rfl rfl rfl ?_
    refine w_static O at_293 (as := [(.ref b0)]) (st := []) (wt := 0) (cl' := 3) (sl' := 10) (pc' := 296) rfl (mw 12 rfl) (mw 13 rfl) (mw 14 rfl) (mw 15 rfl) (by decide) (con_dec l Z a0 hw b0 h45 n0 0 (fun _ => 0) A_b0 (0 : Int32) (by decide) (by decide)) rfl pd_3 rfl rfl rfl (by decide) (by decide) rfl rfl (by decide) (by decide) (cA fun ve0 h47 hve0 ⟨e0, eve0, Ke0, hze0, ge0, Ae0, Ee0⟩ => ?_)
    subst eve0
    have Ah40_h47 := Ah40_h45.keep Ke0 nin0
    have A_b0_h47 := A_b0.keep Ke0 nin0
    refine w_astore O at_296 (L' := #[.val (.int u0), .val (.int u1), .val (.int u2), .val (.int u3), .val (.int u4), .val (.int u5), .val (.int k1), .val (.int rd), .val (.int k2), .val (.int k3), .val (.int k4), .val (.int k5), .val (.int g1), .val (.int g2), .val (.int g3), .val (.int g4), .val (.int g5), .val (.ref b), .val (.int (5 : Int32)), .val (.int g1), .val (.int p2), .val (.int p3), .val (.int p4), .val (.int p5), .val (.ref b0), .val (.ref e0), .unset]) (pc' := 298) rfl rfl rfl ?_
    refine w_aload O at_298 (pc' := 300) rfl rfl rfl ?_
    refine w_static O at_300 (as := [(.ref b)]) (st := []) (wt := 0) (cl' := 4) (sl' := 15) (pc' := 303) rfl (mw 12 rfl) (mw 13 rfl) (mw 14 rfl) (mw 15 rfl) (by decide) (con_dec l Z a0 hw b h47 n0 5 F Ah40_h47 (5 : Int32) (by decide) (by decide)) rfl pd_3 rfl rfl rfl (by decide) (by decide) rfl rfl (by decide) (by decide) (cA fun vgt h48 hvgt ⟨gt, evgt, Kgt, hzgt, ggt, Agt, Egt⟩ => ?_)
    subst evgt
    have Ah40_h48 := Ah40_h47.keep Kgt nin0
    have A_b0_h48 := A_b0_h47.keep Kgt nin0
    have Ae0_h48 := Ae0.keep Kgt nin0
    obtain ⟨d1, n1, o1⟩ := seg F 0 m1 g1 (-1) rfl sg1 (by omega) (by omega) hf1
    rw [neg1_add] at d1 o1
    obtain ⟨d2, n2, o2⟩ := seg F (0 + m1) m2 g2 g1 d1 sg2 (by omega) (by omega) hf2
    rw [show g1 + (g2 + 1) = p2 by rw [e_p2, Int32.add_assoc]] at d2 o2
    obtain ⟨d3, n3, o3⟩ := seg F (0 + m1 + m2) m3 g3 p2 d2 sg3 (by omega) (by omega) hf3
    rw [show p2 + (g3 + 1) = p3 by rw [e_p3, Int32.add_assoc]] at d3 o3
    obtain ⟨d4, n4, o4⟩ := seg F (0 + m1 + m2 + m3) m4 g4 p3 d3 sg4 (by omega) (by omega) hf4
    rw [show p3 + (g4 + 1) = p4 by rw [e_p4, Int32.add_assoc]] at d4 o4
    obtain ⟨d5, n5, o5⟩ := seg F (0 + m1 + m2 + m3 + m4) m5 g5 p4 d4 sg5 (by omega) (by omega) hf5
    rw [show p4 + (g5 + 1) = p5 by rw [e_p5, Int32.add_assoc]] at d5 o5
    have h5 : 0 + m1 + m2 + m3 + m4 + m5 = 5 := by omega
    rw [h5] at n5 o5
    have z0 : cntB F 0 = 0 := rfl
    have y1 : cntB F (0 + m1) = 1 := by omega
    have y2 : cntB F (0 + m1 + m2) = 2 := by omega
    have y3 : cntB F (0 + m1 + m2 + m3) = 3 := by omega
    have y4 : cntB F (0 + m1 + m2 + m3 + m4) = 4 := by omega
    have y5 : cntB F (5) = 5 := by omega
    have x0 : outB F 5 0 = g1 := by
      rw [o5, y4, o4, y3, o3, y2, o2, y1, o1, z0]
      simp [updI]
    have x1 : outB F 5 1 = p2 := by
      rw [o5, y4, o4, y3, o3, y2, o2, y1, o1, z0]
      simp [updI]
    have x2 : outB F 5 2 = p3 := by
      rw [o5, y4, o4, y3, o3, y2, o2, y1, o1, z0]
      simp [updI]
    have x3 : outB F 5 3 = p4 := by
      rw [o5, y4, o4, y3, o3, y2, o2, y1, o1, z0]
      simp [updI]
    have x4 : outB F 5 4 = p5 := by
      rw [o5, y4, o4, y3, o3, y2, o2, y1, o1, z0]
      simp [updI]
    refine w_astore O at_303 (L' := #[.val (.int u0), .val (.int u1), .val (.int u2), .val (.int u3), .val (.int u4), .val (.int u5), .val (.int k1), .val (.int rd), .val (.int k2), .val (.int k3), .val (.int k4), .val (.int k5), .val (.int g1), .val (.int g2), .val (.int g3), .val (.int g4), .val (.int g5), .val (.ref b), .val (.int (5 : Int32)), .val (.int g1), .val (.int p2), .val (.int p3), .val (.int p4), .val (.int p5), .val (.ref b0), .val (.ref e0), .val (.ref gt)]) (pc' := 305) rfl rfl rfl ?_
    refine w_aload O at_305 (pc' := 307) rfl rfl rfl ?_
    refine w_alen O at_307 (z := (0 : Int32)) (pc' := 308) rfl Ae0_h48 rfl ?_
    refine w_if_ne O at_308 (pn := 311) (pt := 392) rfl (by decide) rfl (fun q => absurd q (by decide)) (fun c308 => ?_)
    refine w_aload O at_311 (pc' := 313) rfl rfl rfl ?_
    refine w_alen O at_313 (z := (5 : Int32)) (pc' := 314) rfl Agt (by rw [y5]; decide) ?_
    refine w_iload O at_314 (pc' := 316) rfl rfl ?_
    refine w_icmp_ne O at_316 (pn := 319) (pt := 392) rfl (by decide) rfl (fun q => absurd q (by decide)) (fun c316 => ?_)
    refine w_aload O at_319 (pc' := 321) rfl rfl rfl ?_
    refine w_iconst O at_321 (z := (0 : Int32)) (pc' := 322) rfl rfl ?_
    refine w_iaload O at_322 (i := 0) (x := g1) (pc' := 323) rfl Agt (by decide) (by rw [y5]; decide) (congrArg Value.int x0) ?_
    refine w_iload O at_323 (pc' := 325) rfl rfl ?_
    refine w_icmp_ne O at_325 (pn := 328) (pt := 392) rfl (by decide) rfl (fun q => absurd q (by omega)) (fun c325 => ?_)
    refine w_iload O at_328 (pc' := 330) rfl rfl ?_
    refine w_iconst O at_330 (z := (2 : Int32)) (pc' := 331) rfl rfl ?_
    refine w_icmp_lt O at_331 (pn := 334) (pt := 343) rfl (by decide) rfl (fun q => absurd q (by decide)) (fun c331 => ?_)
    refine w_aload O at_334 (pc' := 336) rfl rfl rfl ?_
    refine w_iconst O at_336 (z := (1 : Int32)) (pc' := 337) rfl rfl ?_
    refine w_iaload O at_337 (i := 1) (x := p2) (pc' := 338) rfl Agt (by decide) (by rw [y5]; decide) (congrArg Value.int x1) ?_
    refine w_iload O at_338 (pc' := 340) rfl rfl ?_
    refine w_icmp_ne O at_340 (pn := 343) (pt := 392) rfl (by decide) rfl (fun q => absurd q (by omega)) (fun c340 => ?_)
    refine w_iload O at_343 (pc' := 345) rfl rfl ?_
    refine w_iconst O at_345 (z := (3 : Int32)) (pc' := 346) rfl rfl ?_
    refine w_icmp_lt O at_346 (pn := 349) (pt := 358) rfl (by decide) rfl (fun q => absurd q (by decide)) (fun c346 => ?_)
    refine w_aload O at_349 (pc' := 351) rfl rfl rfl ?_
    refine w_iconst O at_351 (z := (2 : Int32)) (pc' := 352) rfl rfl ?_
    refine w_iaload O at_352 (i := 2) (x := p3) (pc' := 353) rfl Agt (by decide) (by rw [y5]; decide) (congrArg Value.int x2) ?_
    refine w_iload O at_353 (pc' := 355) rfl rfl ?_
    refine w_icmp_ne O at_355 (pn := 358) (pt := 392) rfl (by decide) rfl (fun q => absurd q (by omega)) (fun c355 => ?_)
    refine w_iload O at_358 (pc' := 360) rfl rfl ?_
    refine w_iconst O at_360 (z := (4 : Int32)) (pc' := 361) rfl rfl ?_
    refine w_icmp_lt O at_361 (pn := 364) (pt := 373) rfl (by decide) rfl (fun q => absurd q (by decide)) (fun c361 => ?_)
    refine w_aload O at_364 (pc' := 366) rfl rfl rfl ?_
    refine w_iconst O at_366 (z := (3 : Int32)) (pc' := 367) rfl rfl ?_
    refine w_iaload O at_367 (i := 3) (x := p4) (pc' := 368) rfl Agt (by decide) (by rw [y5]; decide) (congrArg Value.int x3) ?_
    refine w_iload O at_368 (pc' := 370) rfl rfl ?_
    refine w_icmp_ne O at_370 (pn := 373) (pt := 392) rfl (by decide) rfl (fun q => absurd q (by omega)) (fun c370 => ?_)
    refine w_iload O at_373 (pc' := 375) rfl rfl ?_
    refine w_iconst O at_375 (z := (5 : Int32)) (pc' := 376) rfl rfl ?_
    refine w_icmp_lt O at_376 (pn := 379) (pt := 388) rfl (by decide) rfl (fun q => absurd q (by decide)) (fun c376 => ?_)
    refine w_aload O at_379 (pc' := 381) rfl rfl rfl ?_
    refine w_iconst O at_381 (z := (4 : Int32)) (pc' := 382) rfl rfl ?_
    refine w_iaload O at_382 (i := 4) (x := p5) (pc' := 383) rfl Agt (by decide) (by rw [y5]; decide) (congrArg Value.int x4) ?_
    refine w_iload O at_383 (pc' := 385) rfl rfl ?_
    refine w_icmp_ne O at_385 (pn := 388) (pt := 392) rfl (by decide) rfl (fun q => absurd q (by omega)) (fun c385 => ?_)
    refine w_iconst O at_388 (z := (1 : Int32)) (pc' := 389) rfl rfl ?_
    refine w_goto O at_389 (pc' := 393) (by decide) rfl ?_
    refine w_retz O at_393 (by decide) (by decide) (Or.inr rfl) ?_
    exact ⟨_, rfl, rfl⟩
set_option maxRecDepth 65536 in
set_option maxHeartbeats 40000000 in
theorem comes_1 {Post : Tables → Env → Array Value → State → Outcome → State → Prop} (hpost : ∀ tb e args s v u, (limb_1_1.after args s (.returned v) u = true ∧ limb_1_2.after args s (.returned v) u = true ∧ True) → FrameEnd s (.returned v) u (Jvm.fieldLocs frame_1_writes args s ++ Jvm.arrayLocs frame_1_arrays args s ++ Jvm.staticLocs frame_1_statics s) 16 128 → Post tb e args s (.returned v) u) :
    ArmFor flags0 classFile x code maxLocals ret World_1 tables_1 room_1 Calls_1 rest_1 Pre_1 Post := by
  intro l hfl _ _ p e ha hc hk s m args below hf hA hF happ hP
  obtain ⟨hcalls, hrest, hpre⟩ := hP
  obtain ⟨-, -, -, hnamed, -, -, -, hat⟩ := (Spec.applies_iff hf).mp happ
  obtain ⟨hg, hn⟩ := and_e (Cond.before_iff.mp (show (Jvm.Cond.and given_1 narrow_1).before args s = true from hpre))
  obtain ⟨g1, g2⟩ := and_e hg
  obtain ⟨g3, g4⟩ := and_e g2
  obtain ⟨g5, g6⟩ := and_e g4
  obtain ⟨g7, g8⟩ := and_e g6
  obtain ⟨g9, g10⟩ := and_e g8
  obtain ⟨g11, g12⟩ := and_e g10
  obtain ⟨w0, w1, w2, w3, w4, w5, rfl⟩ : ∃ w0 w1 w2 w3 w4 w5 : Value, args = #[w0, w1, w2, w3, w4, w5] := by
    have hs : args.size = 6 := by simpa [Cond.value, given_1] using g1
    obtain ⟨L⟩ := args
    match L, hs with
    | [w0, w1, w2, w3, w4, w5], _ => exact ⟨w0, w1, w2, w3, w4, w5, rfl⟩
  have hw := fun d (hd : d ∈ tables_1) => atoms_spec (ws := Jvm.Cond.code x code maxLocals ret :: tables_1) hat d (List.mem_cons_of_mem _ hd)
  have hfit : Fit s := fun {y c} hc i hi => by
    obtain ⟨ha, rfl⟩ := Array.getElem?_eq_some_iff.mp hc
    have q := List.all_eq_true.mp ((Array.all_eq_true_iff_forall_mem.mp hF) _ (Array.getElem_mem ha)) i (List.mem_range.mpr hi)
    simpa [Array.getElem?_eq_getElem hi] using q
  obtain ⟨i0, ei0⟩ := is_v g3
  obtain rfl : w0 = (.int i0) := Option.some.inj ei0
  obtain ⟨i1, ei1⟩ := is_v g5
  obtain rfl : w1 = (.int i1) := Option.some.inj ei1
  obtain ⟨i2, ei2⟩ := is_v g7
  obtain rfl : w2 = (.int i2) := Option.some.inj ei2
  obtain ⟨i3, ei3⟩ := is_v g9
  obtain rfl : w3 = (.int i3) := Option.some.inj ei3
  obtain ⟨i4, ei4⟩ := is_v g11
  obtain rfl : w4 = (.int i4) := Option.some.inj ei4
  obtain ⟨i5, ei5⟩ := is_v g12
  obtain rfl : w5 = (.int i5) := Option.some.inj ei5
  obtain ⟨n, o, h1, h2, h3, _, L, rfl, ⟨⟨r, rfl, rfl⟩, N⟩, hq⟩ := (law_con l s _ hw i0 i1 i2 i3 i4 i5 s.heap s.heap.size) (Nat.le_refl _) tables_1 p e ha hc hk s m _ below hf ((Spec.applies_iff_loose hf).mp happ).1 ⟨rfl, State.Warmed39.refl s, rfl⟩ trivial
  refine ⟨n, _, h1, h2, h3, hpost _ _ _ _ _ _ ⟨Cond.after_iff.mpr rfl, Cond.after_iff.mpr (eq_i res_at (Term.int_eval (1)) rfl), trivial⟩ ⟨hq.1, hq.2.1, (hq.2.2.sift fun y hy => Or.inr (N y hy)).mono (by decide) (by decide)⟩⟩
theorem main_1_1 : Claimed_1_1 := comes_1 fun _ _ _ _ _ _ h hF => ⟨h.1, hF⟩
theorem main_1_2 : Claimed_1_2 := comes_1 fun _ _ _ _ _ _ h hF => ⟨h.2.1, hF⟩
end Jvm.Pilot.@@N@@
namespace Jvm.Pilot.@@N@@
open Jvm Jvm.ClassFile Sem Op Lib Jvm.Free Jvm.Stand Jvm.Pilot.@@N@@.Jvm.D
/-! MADE BY PROGRAM (witnessworld.py) out of the Statement's table words and the real class files: 9 classes; the members and pool entries that the words name. The judged class is class 1, her method 1. -/
namespace start1
open Jvm.ClassFile
def u (s : String) : CpInfo := .utf8 (stringToUtf16 s)
/-- a pool by its gaps: so many unusable entries, then the entry; so many at the end -/
def gap : Nat → List CpInfo → List CpInfo
  | 0, r => r
  | n + 1, r => .unusable :: gap n r
def poolList (es : List (Nat × CpInfo)) (last : Nat) : List CpInfo := es.foldr (fun e r => gap e.1 (e.2 :: r)) (gap last [])
def pool (es : List (Nat × CpInfo)) (last : Nat) : Array CpInfo := ⟨poolList es last⟩
def fileOf (pool : Array CpInfo) (this : Nat) (attrs : Array Attribute := #[]) (ms : Array MethodInfo := #[]) (fl : Nat := 33) (sup : Nat := 0) (ifs : Array Nat := #[]) (fds : Array FieldInfo := #[]) : ClassFile where
  minorVersion := 0
  majorVersion := 65
  constantPool := pool
  accessFlags := fl
  thisClass := this
  superClass := sup
  interfaces := ifs
  fields := fds
  methods := ms
  attributes := attrs
def plain (name : String) (sup : Option ClassId) : Class where
  name := name
  kind := .ordinary
  loader := none
  accessFlags := 33
  super := sup
  interfaces := #[]
  cf := none
  fields := #[]
  methods := #[]
  instanceTypes := #[]
  staticTypes := #[]
  resolved := #[]
  callSites := []
  init := .initialized
  statics := none
  mirror := none

def pool0 : Array CpInfo := pool [(5, u "<init>"), (0, u "()V"), (1, .class_ 10), (1, u "java/lang/Object")] 113

def k0m0 : Method := { name := "<init>", desc := "()V", sig := { parameters := [], returnType := none }, accessFlags := 1, code := none }
/-- java/lang/Object -/
def k0 : Class := { plain "java/lang/Object" none with
  accessFlags := 33
  interfaces := #[]
  cf := some (fileOf pool0 8 #[] #[{ accessFlags := 1, nameIndex := 5, descriptorIndex := 6, attributes := #[] }] 33 0 #[] #[])
  fields := #[]
  methods := #[k0m0]
  instanceTypes := #[]
  staticTypes := #[]
  resolved := Array.replicate 124 none
  statics := none }

def pool1 : Array CpInfo := pool [(2, .class_ 4), (1, u "java/lang/Object"), (0, u "<init>"), (0, u "()V"), (0, .methodref 8 9), (0, .class_ 10), (0, .nameAndType 11 12), (0, u "com/example/acrawl/acrawl/store/RecordsDecodePositionsPinLaw"), (0, u "part"), (0, u "(II)I"), (0, .methodref 8 14), (0, .nameAndType 15 12), (0, u "gapOf"), (0, .methodref 8 17), (0, .nameAndType 18 19), (0, u "put"), (0, u "([BIII)V"), (0, .methodref 21 22), (0, .class_ 23), (0, .nameAndType 24 25), (0, u "com/example/acrawl/acrawl/store/Records"), (0, u "decodePositions"), (0, u "([B)[I"), (0, .integer 2147483647), (0, .integer 2080768), (0, .integer 2097152), (0, .integer 266338304), (0, .integer 268435456), (0, .integer 1879048192), (2, u "law"), (0, u "(IIIIII)Z")] 7

def k1m0 : Method := { name := "<init>", desc := "()V", sig := { parameters := [], returnType := none }, accessFlags := 2, code := none }
def k1c1 : Code := { maxStack := 4, maxLocals := 27, code := code, exceptionTable := #[], attributes := #[] }
def k1m1 : Method := { name := "law", desc := "(IIIIII)Z", sig := { parameters := [.int, .int, .int, .int, .int, .int], returnType := some .boolean }, accessFlags := 9, code := some k1c1 }
def k1c2 : Code := { maxStack := 3, maxLocals := 2, code := method_3_code, exceptionTable := #[], attributes := #[] }
def k1m2 : Method := { name := "part", desc := "(II)I", sig := { parameters := [.int, .int], returnType := some .int }, accessFlags := 10, code := some k1c2 }
def k1c3 : Code := { maxStack := 3, maxLocals := 3, code := method_4_code, exceptionTable := #[], attributes := #[] }
def k1m3 : Method := { name := "gapOf", desc := "(II)I", sig := { parameters := [.int, .int], returnType := some .int }, accessFlags := 10, code := some k1c3 }
def k1c4 : Code := { maxStack := 5, maxLocals := 4, code := method_5_code, exceptionTable := #[], attributes := #[] }
def k1m4 : Method := { name := "put", desc := "([BIII)V", sig := { parameters := [(.array .byte), .int, .int, .int], returnType := none }, accessFlags := 10, code := some k1c4 }
/-- com/example/acrawl/acrawl/store/RecordsDecodePositionsPinLaw -/
def k1 : Class := { plain "com/example/acrawl/acrawl/store/RecordsDecodePositionsPinLaw" (some 0) with
  accessFlags := 49
  interfaces := #[]
  cf := some (fileOf pool1 8 #[] #[{ accessFlags := 2, nameIndex := 5, descriptorIndex := 6, attributes := #[] }, { accessFlags := 9, nameIndex := 34, descriptorIndex := 35, attributes := #[] }, { accessFlags := 10, nameIndex := 11, descriptorIndex := 12, attributes := #[] }, { accessFlags := 10, nameIndex := 15, descriptorIndex := 12, attributes := #[] }, { accessFlags := 10, nameIndex := 18, descriptorIndex := 19, attributes := #[] }] 49 2 #[] #[])
  fields := #[]
  methods := #[k1m0, k1m1, k1m2, k1m3, k1m4]
  instanceTypes := #[]
  staticTypes := #[]
  resolved := Array.replicate 43 none
  statics := none }

def pool2 : Array CpInfo := pool [(2, .class_ 4), (1, u "java/lang/Object"), (0, u "<init>"), (0, u "()V"), (84, .methodref 92 93), (0, .class_ 94), (0, .nameAndType 95 96), (0, u "com/example/acrawl/acrawl/store/Records"), (0, u "countPositions"), (0, u "([B)I"), (0, .class_ 98), (0, u "com/example/acrawl/acrawl/store/Records$Writer"), (36, .class_ 136), (0, u "com/example/acrawl/acrawl/store/Records$Reader"), (129, u "decodePositions"), (0, u "([B)[I")] 44

def k2m0 : Method := { name := "<init>", desc := "()V", sig := { parameters := [], returnType := none }, accessFlags := 2, code := none }
def k2c1 : Code := { maxStack := 3, maxLocals := 10, code := prog_23_method_7_code, exceptionTable := #[], attributes := #[] }
def k2m1 : Method := { name := "decodePositions", desc := "([B)[I", sig := { parameters := [(.array .byte)], returnType := some (.array .int) }, accessFlags := 8, code := some k2c1 }
def k2c2 : Code := { maxStack := 2, maxLocals := 6, code := prog_23_method_8_code, exceptionTable := #[], attributes := #[] }
def k2m2 : Method := { name := "countPositions", desc := "([B)I", sig := { parameters := [(.array .byte)], returnType := some .int }, accessFlags := 8, code := some k2c2 }
/-- com/example/acrawl/acrawl/store/Records -/
def k2 : Class := { plain "com/example/acrawl/acrawl/store/Records" (some 0) with
  accessFlags := 32
  interfaces := #[]
  cf := some (fileOf pool2 92 #[.nestMembers #[135, 97]] #[{ accessFlags := 2, nameIndex := 5, descriptorIndex := 6, attributes := #[] }, { accessFlags := 8, nameIndex := 266, descriptorIndex := 267, attributes := #[] }, { accessFlags := 8, nameIndex := 95, descriptorIndex := 96, attributes := #[] }] 32 2 #[] #[])
  fields := #[]
  methods := #[k2m0, k2m1, k2m2]
  instanceTypes := #[]
  staticTypes := #[]
  resolved := Array.replicate 312 none
  statics := none }

def pool3 : Array CpInfo := pool [(1, u "java/lang/Cloneable"), (0, .class_ 1), (0, u "java/lang/Object"), (0, .class_ 3)] 3

/-- java/lang/Cloneable -/
def k3 : Class := { plain "java/lang/Cloneable" (some 0) with
  accessFlags := 1537
  interfaces := #[]
  cf := some (fileOf pool3 2 #[] #[] 1537 4 #[] #[])
  fields := #[]
  methods := #[]
  instanceTypes := #[]
  staticTypes := #[]
  resolved := Array.replicate 8 none
  statics := none }

def pool4 : Array CpInfo := pool [(1, u "java/io/Serializable"), (0, .class_ 1), (0, u "java/lang/Object"), (0, .class_ 3)] 3

/-- java/io/Serializable -/
def k4 : Class := { plain "java/io/Serializable" (some 0) with
  accessFlags := 1537
  interfaces := #[]
  cf := some (fileOf pool4 2 #[] #[] 1537 4 #[] #[])
  fields := #[]
  methods := #[]
  instanceTypes := #[]
  staticTypes := #[]
  resolved := Array.replicate 8 none
  statics := none }

/-- the primitive byte -/
def k5 : Class := { plain "byte" none with kind := .primitive 'B', accessFlags := 0x411 }
/-- [B -/
def k6 : Class := { plain "[B" (some 0) with kind := .array 5 .byte, interfaces := #[3, 4], accessFlags := 1041 }

/-- the primitive int -/
def k7 : Class := { plain "int" none with kind := .primitive 'I', accessFlags := 0x411 }
/-- [I -/
def k8 : Class := { plain "[I" (some 0) with kind := .array 7 .int, interfaces := #[3, 4], accessFlags := 1041 }

def heap : Heap := #[]
def classes : Array Class := #[k0, k1, k2, k3, k4, k5, k6, k7, k8]
def interned : List (Array UInt16 × Addr) := []
def slotsUsed : Nat := 0
def theMethod : MethodId := ⟨1, 1⟩
def args0 : Array Value := #[.int 7, .int 1, .int 2, .int 3, .int 4, .int 5]
def aboutOver (below : List Frame) : State where
  vm := { classes := classes, interned := interned.toArray }
  heap := heap
  slotsUsed := slotsUsed
  threads := #[{ frames := .invoking theMethod args0 :: below }]
def below0 : List Frame := [.native { method := ⟨0, 0⟩, args := #[] }]
def about1 : State := aboutOver below0
def p0 : Program := .bare "" "" ""
def e0 : Env := launch0.env 0 0 0
theorem w_frames : about1.frames = Frame.invoking theMethod args0 :: below0 := rfl
set_option maxRecDepth 65536 in
theorem w_args : argsFit about1.vm theMethod args0 = true := by decide +kernel
set_option maxRecDepth 65536 in
theorem w_heap : heapFits about1 = true := by decide +kernel
set_option maxRecDepth 65536 in
theorem w_runnable : about1.curStatus? = some .runnable := by decide +kernel
set_option maxRecDepth 65536 in
theorem w_alone : about1.alone = true := by decide +kernel
set_option maxRecDepth 65536 in
theorem w_named : about1.methodNamed? x = some theMethod := by decide +kernel
set_option maxRecDepth 65536 in
theorem w_hears : about1.hears theMethod below0 = true := by decide +kernel
set_option maxRecDepth 65536 in
theorem w_ripe : about1.ripe theMethod args0 below0 = true := by decide +kernel
theorem w_running : about1.status = .running := rfl
set_option maxRecDepth 65536 in
theorem w_room : about1.hasRoom e0.platform room_1 = true :=
  launch0.hasRoom_least _ room_1 (by decide +kernel) (by decide +kernel) (by decide +kernel) (by decide +kernel) (by decide +kernel) (by decide +kernel)
theorem allAtoms_all (ts : List Jvm.Cond) (a : Array Jvm.Value) (st : Jvm.State) : (allAtoms ts).before a st = ts.all (fun c => c.before a st) := by
  induction ts with
  | nil => rfl
  | cons c t ih =>
    show (Jvm.Cond.and c (allAtoms t)).before a st = _
    rw [Jvm.Cond.before_and, ih, List.all_cons]
def words1 : List Jvm.Cond := Jvm.Cond.code x code maxLocals ret :: tables_1
/-- a 'code' word, met by the world's own term for the bytes: nothing is compared byte by byte -/
theorem code_word {y : MethodName} {bytes : ByteArray} {mx : Nat} {rt : Option FieldType} {a : Array Value} {s : State} {m : MethodId} {meth : Method} {c : Code} (h1 : s.methodNamed? y = some m) (h2 : s.vm.method? m = some meth) (h3 : meth.code = some c) (h4 : c.code = bytes)
    (h5 : (c.maxLocals == mx && c.exceptionTable.isEmpty && decide (c.maxStack ≤ mostOperands) && decide (meth.sig.returnType = rt) && !meth.locks && decide (parseMethodDescriptor y.desc = some meth.sig)) = true) : (Jvm.Cond.code y bytes mx rt).before a s = true := by
  simp only [Bool.and_eq_true, beq_iff_eq, Bool.not_eq_true', decide_eq_true_eq] at h5
  obtain ⟨⟨⟨⟨⟨g1, g2⟩, g3⟩, g4⟩, g5⟩, g6⟩ := h5
  simp [Cond.before, Cond.holds, Cond.value, h1, h2, h3, h4, g1, g2, g3, g4, g5, g6]
def isCode : Jvm.Cond → Bool
  | .code _ _ _ _ => true
  | _ => false
theorem all_split {L : List Jvm.Cond} {P : Jvm.Cond → Bool} (h1 : L.all (fun c => isCode c || P c) = true) (h2 : ∀ c ∈ L.filter isCode, P c = true) : L.all P = true := by
  refine List.all_eq_true.mpr fun c hc => ?_
  have h := List.all_eq_true.mp h1 c hc
  rcases Bool.eq_false_or_eq_true (isCode c) with hi | hi
  · exact h2 c (List.mem_filter.mpr ⟨hc, hi⟩)
  · simpa [hi] using h
set_option maxRecDepth 65536 in
theorem w_c0 : (Jvm.Cond.code x code maxLocals ret).before args0 about1 = true := code_word (m := ⟨1, 1⟩) (meth := k1m1) (c := k1c1) (by decide +kernel) rfl rfl rfl (by decide +kernel)
set_option maxRecDepth 65536 in
theorem w_c1 : (Jvm.Cond.code ({ cls := "com/example/acrawl/acrawl/store/RecordsDecodePositionsPinLaw", name := "part", desc := "(II)I" } : Jvm.MethodName) method_3_code (2 : Nat) (Option.some Jvm.ClassFile.FieldType.int)).before args0 about1 = true := code_word (m := ⟨1, 2⟩) (meth := k1m2) (c := k1c2) (by decide +kernel) rfl rfl rfl (by decide +kernel)
set_option maxRecDepth 65536 in
theorem w_c2 : (Jvm.Cond.code ({ cls := "com/example/acrawl/acrawl/store/RecordsDecodePositionsPinLaw", name := "gapOf", desc := "(II)I" } : Jvm.MethodName) method_4_code (3 : Nat) (Option.some Jvm.ClassFile.FieldType.int)).before args0 about1 = true := code_word (m := ⟨1, 3⟩) (meth := k1m3) (c := k1c3) (by decide +kernel) rfl rfl rfl (by decide +kernel)
set_option maxRecDepth 65536 in
theorem w_c3 : (Jvm.Cond.code ({ cls := "com/example/acrawl/acrawl/store/RecordsDecodePositionsPinLaw", name := "put", desc := "([BIII)V" } : Jvm.MethodName) method_5_code (4 : Nat) (Option.none : Option Jvm.ClassFile.FieldType)).before args0 about1 = true := code_word (m := ⟨1, 4⟩) (meth := k1m4) (c := k1c4) (by decide +kernel) rfl rfl rfl (by decide +kernel)
set_option maxRecDepth 65536 in
theorem w_c4 : (Jvm.Cond.code ({ cls := "com/example/acrawl/acrawl/store/Records", name := "decodePositions", desc := "([B)[I" } : Jvm.MethodName) prog_23_method_7_code (10 : Nat) (Option.some (Jvm.ClassFile.FieldType.array Jvm.ClassFile.FieldType.int))).before args0 about1 = true := code_word (m := ⟨2, 1⟩) (meth := k2m1) (c := k2c1) (by decide +kernel) rfl rfl rfl (by decide +kernel)
set_option maxRecDepth 65536 in
theorem w_c5 : (Jvm.Cond.code ({ cls := "com/example/acrawl/acrawl/store/Records", name := "countPositions", desc := "([B)I" } : Jvm.MethodName) prog_23_method_8_code (6 : Nat) (Option.some Jvm.ClassFile.FieldType.int)).before args0 about1 = true := code_word (m := ⟨2, 2⟩) (meth := k2m2) (c := k2c2) (by decide +kernel) rfl rfl rfl (by decide +kernel)
def codes1 : List Jvm.Cond := [Jvm.Cond.code x code maxLocals ret, Jvm.Cond.code ({ cls := "com/example/acrawl/acrawl/store/RecordsDecodePositionsPinLaw", name := "part", desc := "(II)I" } : Jvm.MethodName) method_3_code (2 : Nat) (Option.some Jvm.ClassFile.FieldType.int), Jvm.Cond.code ({ cls := "com/example/acrawl/acrawl/store/RecordsDecodePositionsPinLaw", name := "gapOf", desc := "(II)I" } : Jvm.MethodName) method_4_code (3 : Nat) (Option.some Jvm.ClassFile.FieldType.int), Jvm.Cond.code ({ cls := "com/example/acrawl/acrawl/store/RecordsDecodePositionsPinLaw", name := "put", desc := "([BIII)V" } : Jvm.MethodName) method_5_code (4 : Nat) (Option.none : Option Jvm.ClassFile.FieldType), Jvm.Cond.code ({ cls := "com/example/acrawl/acrawl/store/Records", name := "decodePositions", desc := "([B)[I" } : Jvm.MethodName) prog_23_method_7_code (10 : Nat) (Option.some (Jvm.ClassFile.FieldType.array Jvm.ClassFile.FieldType.int)), Jvm.Cond.code ({ cls := "com/example/acrawl/acrawl/store/Records", name := "countPositions", desc := "([B)I" } : Jvm.MethodName) prog_23_method_8_code (6 : Nat) (Option.some Jvm.ClassFile.FieldType.int)]
set_option maxRecDepth 65536 in
theorem codes_eq : words1.filter isCode = codes1 := rfl
theorem w_codes : ∀ c ∈ words1.filter isCode, c.before args0 about1 = true := by
  rw [codes_eq]
  intro c hc
  simp only [codes1, List.mem_cons, List.not_mem_nil, or_false] at hc
  rcases hc with rfl | rfl | rfl | rfl | rfl | rfl
  · exact w_c0
  · exact w_c1
  · exact w_c2
  · exact w_c3
  · exact w_c4
  · exact w_c5
set_option maxRecDepth 65536 in
theorem w_t1 : (words1.take 24).all (fun c => isCode c || c.before args0 about1) = true := by decide +kernel
set_option maxRecDepth 65536 in
theorem w_t2 : (words1.drop 24).all (fun c => isCode c || c.before args0 about1) = true := by decide +kernel
theorem w_tables : (allAtoms (Jvm.Cond.code x code maxLocals ret :: tables_1)).before args0 about1 = true := by
  rw [allAtoms_all]
  show words1.all (fun c => c.before args0 about1) = true
  refine all_split ?_ w_codes
  rw [← List.take_append_drop 24 words1, List.all_append, w_t1, w_t2]
  rfl
set_option maxRecDepth 65536 in
theorem w_case : (Jvm.Cond.and given_1 narrow_1).before args0 about1 = true := by decide +kernel
theorem w_applies : (headSpec (Jvm.Cond.code x code maxLocals ret :: tables_1) room_1).applies x e0.platform about1 = true :=
  (Spec.applies_iff w_frames).mpr ⟨w_running, w_runnable, w_alone, w_named, w_hears, w_ripe, w_room, w_tables⟩
theorem atStart : AtStart classFile x code maxLocals ret World_1 tables_1 room_1 Calls_1 rest_1 Pre_1 launch0 p0 e0 about1 theMethod args0 below0 :=
  ⟨lists_1, trivial, launch0.admits_env _ _ _, launch0.least_env, fairChoices_fair.cas, fairChoices_fair.clock, w_frames, w_args, w_heap, w_applies, trivial, trivial, w_case⟩
end start1
theorem witness_1 : WitnessClaimed_1 := ⟨start1.p0, start1.e0, start1.about1, start1.theMethod, start1.args0, start1.below0, start1.atStart⟩
end Jvm.Pilot.@@N@@
