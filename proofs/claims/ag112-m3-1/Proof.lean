import JvmDerived
import JvmDerived.Pilot.@@N@@Statement
import JvmDerived.Pilot.@@N@@Code
set_option linter.unusedVariables false
set_option linter.unusedSimpArgs false
namespace Jvm.Pilot.@@N@@
open Jvm Jvm.ClassFile Sem Op Lib Jvm.Free Jvm.Stand Jvm.LawKit Jvm.RoadKit Bundle Jvm.Pilot.@@N@@.Jvm.D

/-! ## OWN LAYER: weakest preconditions over the walk -/
abbrev Cx : Type := (Program × Launch × Env × Room) × (State × MethodId × Array Value × List Frame) × (Method × Code) × (Option Value → Heap → Prop) × Nat
abbrev Sd (K : Cx) (T : State) (locs : List Loc) (cells slots : Nat) : Prop := Stand K.1.1 K.1.2.1 K.1.2.2.1 K.1.2.2.2 K.2.1.1 K.2.1.2.1 K.2.1.2.2.1 K.2.1.2.2.2 K.2.2.1.1 K.2.2.1.2 T locs cells slots
abbrev Stp (K : Cx) (A B : State) : Prop := Steps K.1.1.tables K.1.2.2.1 K.2.1.2.2.2 A B
abbrev Tp (K : Cx) (T : State) (pc : Nat) (L : Array Slot) (st : List Value) : State := T.setTop (mkF K.2.1.2.1 pc L st)
/-- from every state that stands at pc with these locals, this stack and this heap the run ends as K says -/
def W (K : Cx) (h : Heap) (cells slots pc : Nat) (L : Array Slot) (st : List Value) : Prop :=
  ∀ T locs, Sd K T locs cells slots → T.heap = h → Fr K.2.2.2.2 locs →
    ∃ s₂ o, Stp K (Tp K T pc L st) s₂ ∧ s₂.status = .running ∧ Ended s₂ K.2.1.2.2.2 o ∧ ∃ v Ls, o = .returned v ∧ (K.2.2.2.1 v s₂.heap ∧ Fr K.2.2.2.2 Ls) ∧ FrameEnd K.2.1.1 o s₂ Ls K.1.2.2.2.cells K.1.2.2.2.slots
def Ok (K : Cx) (l : Launch) (Z : State) (a0 : Array Value) (ts : List Jvm.Cond) (B : ByteArray) (ml : Nat) (rt : Option FieldType) (own nm : String) (R : Room) (n0 : Nat) (Q : Option Value → Heap → Prop) : Prop :=
  K.1.1.tables.exec = Jvm.exec ∧ K.2.2.1.2.code = B ∧ K.2.2.1.2.maxLocals = ml ∧ K.2.1.1.vm.findClass own = some K.2.1.2.1.cls ∧ K.2.2.1.1.name = nm ∧ K.2.2.1.1.sig.returnType = rt ∧ K.2.2.1.1.locks = false ∧ Z.Warmed39 K.2.1.1.vm ∧ (∀ d ∈ ts, d.before a0 Z = true) ∧ n0 ≤ K.2.1.1.heap.size ∧ K.1.2.1 = l ∧ K.1.2.2.2 = R ∧ K.2.2.2.2 = n0 ∧ K.2.2.2.1 = Q
/-- a body's contract -/
def Con (l : Launch) (Z : State) (y : MethodName) (B : ByteArray) (ml : Nat) (rt : Option FieldType) (rm : Room) (as : List Value) (h : Heap) (n0 : Nat) (Q : Option Value → Heap → Prop) : Prop :=
  n0 ≤ h.size → ∀ ws, MetFree l y (head1 (Jvm.Cond.code y B ml rt :: ws) rm) (fun a U => a = as.toArray ∧ Z.Warmed39 U.vm ∧ U.heap = h) (fun _ _ _ _ _ => True) (fun _ U o U' => ∃ v L, o = .returned v ∧ (Q v U'.heap ∧ Fr n0 L) ∧ FrameEnd U o U' L rm.cells rm.slots)
def RetI (P : Int32 → Heap → Prop) (v : Option Value) (h : Heap) : Prop := ∃ r, v = some (.int r) ∧ P r h
def RetL (P : Int64 → Heap → Prop) (v : Option Value) (h : Heap) : Prop := ∃ r, v = some (.long r) ∧ P r h
def RetA (P : Value → Heap → Prop) (v : Option Value) (h : Heap) : Prop := ∃ r, v = some r ∧ r.isRef = true ∧ P r h
def RetV (P : Heap → Prop) (v : Option Value) (h : Heap) : Prop := v = none ∧ P h
section OwnW
variable {K : Cx} {l : Launch} {Z : State} {a0 : Array Value} {ts : List Jvm.Cond} {B : ByteArray} {ml : Nat} {rt : Option FieldType} {own nm : String} {R : Room} {n0 : Nat} {Q : Option Value → Heap → Prop} {h : Heap} {cl sl pc pc' : Nat} {L L' : Array Slot} {st st' : List Value}
theorem W.step (f : ∀ T locs, Sd K T locs cl sl → T.heap = h → ∀ t, Stp K (Tp K T pc' L' st') t → Stp K (Tp K T pc L st) t) (k : W K h cl sl pc' L' st') : W K h cl sl pc L st := fun T locs X e N => by
  obtain ⟨s2, o, h1, r⟩ := k T locs X e N
  exact ⟨s2, o, f T locs X e _ h1, r⟩
theorem W.stepT (f : ∀ T locs, Sd K T locs cl sl → T.heap = h → ∃ T', Sd K T' locs cl sl ∧ T'.heap = h ∧ ∀ t, Stp K (Tp K T' pc' L' st') t → Stp K (Tp K T pc L st) t) (k : W K h cl sl pc' L' st') : W K h cl sl pc L st := fun T locs X e N => by
  obtain ⟨T', X', e', g⟩ := f T locs X e
  obtain ⟨s2, o, h1, r⟩ := k T' locs X' e' N
  exact ⟨s2, o, g _ h1, r⟩
theorem W.stepW {a : Addr} {i : Nat} {v : Value} (f : ∀ T locs, Sd K T locs cl sl → T.heap = h → ∃ T' h', Sd K T' (locs ++ [⟨a, i⟩]) cl sl ∧ T'.heap = h' ∧ Wr h h' a i v ∧ ∀ t, Stp K (Tp K T' pc' L' st') t → Stp K (Tp K T pc L st) t) (ha : K.2.2.2.2 ≤ a) (k : ∀ h', Wr h h' a i v → W K h' cl sl pc' L' st') : W K h cl sl pc L st := fun T locs X e N => by
  obtain ⟨T', h', X', e', w, g⟩ := f T locs X e
  obtain ⟨s2, o, h1, r⟩ := k h' w T' _ X' e' (Fr.snoc X' N ha)
  exact ⟨s2, o, g _ h1, r⟩
theorem W.mono {cl' sl' : Nat} (hc : cl ≤ cl') (hs : sl ≤ sl') (k : W K h cl' sl' pc L st) : W K h cl sl pc L st := fun T locs X e N => k T locs (X.mono hc hs) e N
theorem Sd.size {T : State} {locs : List Loc} (X : Sd K T locs cl sl) : K.2.1.1.heap.size ≤ T.heap.size := X.same.2.1
theorem cI {cl' sl' : Nat} {P : Int32 → Heap → Prop} (k : ∀ r h', P r h' → W K h' cl' sl' pc' L (.int r :: st)) : ∀ v h', RetI P v h' → W K h' cl' sl' pc' L (v.toList ++ st) := by
  rintro _ h' ⟨r, rfl, hp⟩; exact k r h' hp
theorem cL {cl' sl' : Nat} {P : Int64 → Heap → Prop} (k : ∀ r h', P r h' → W K h' cl' sl' pc' L (.long r :: st)) : ∀ v h', RetL P v h' → W K h' cl' sl' pc' L (v.toList ++ st) := by
  rintro _ h' ⟨r, rfl, hp⟩; exact k r h' hp
theorem cA {cl' sl' : Nat} {P : Value → Heap → Prop} (k : ∀ r h', r.isRef = true → P r h' → W K h' cl' sl' pc' L (r :: st)) : ∀ v h', RetA P v h' → W K h' cl' sl' pc' L (v.toList ++ st) := by
  rintro _ h' ⟨r, rfl, hr, hp⟩; exact k r h' hr hp
theorem cV {cl' sl' : Nat} {P : Heap → Prop} (k : ∀ h', P h' → W K h' cl' sl' pc' L st) : ∀ v h', RetV P v h' → W K h' cl' sl' pc' L (v.toList ++ st) := by
  rintro _ h' ⟨rfl, hp⟩; exact k h' hp
theorem Con.weak {y : MethodName} {rm : Room} {as : List Value} {Q' : Option Value → Heap → Prop} (c : Con l Z y B ml rt rm as h n0 Q) (q : ∀ v h', Q v h' → Q' v h') : Con l Z y B ml rt rm as h n0 Q' := fun hn ws p e ha hc hk s m args below hf happ hP hK => by
  obtain ⟨n, o, h1, h2, h3, v, L, e1, ⟨h4, h5⟩, h6⟩ := c hn ws p e ha hc hk s m args below hf happ hP hK
  exact ⟨n, o, h1, h2, h3, v, L, e1, ⟨q _ _ h4, h5⟩, h6⟩
theorem Con.body {y : MethodName} {rm : Room} {as : List Value} {L0 : Array Slot} (hw : ∀ d ∈ ts, d.before a0 Z = true) (pn : plainFor y = true) (ef : ∀ m, entryFrame m as.toArray ml = mkF m 0 L0 [])
    (b : ∀ K, Ok K l Z a0 ts B ml rt y.cls y.name rm n0 Q → W K h 0 0 0 L0 []) : Con l Z y B ml rt rm as h n0 Q := by
  intro hn ws
  refine MetFree.of_bodySF pn hisR ?_
  intro p e s m args below meth c s₁ Bd hml0 hP hK
  obtain ⟨rfl, hZ, hh⟩ := hP
  have hown : s.vm.findClass y.cls = some m.cls := findClass_of_methodNamed Bd.named
  have hnm := (name_of_methodNamed Bd.named Bd.method).1
  have X0 : Stand p l e rm s m as.toArray below meth c s₁ [] 0 0 := Stand.of_body Bd
  have e0 : s₁.heap = h := by rw [← hh, Bd.state]; rfl
  have q := b ((p, l, e, rm), (s, m, as.toArray, below), (meth, c), Q, n0) ⟨Bd.exec, Bd.bytes, hml0, hown, hnm, Bd.returns, Bd.notSynchronized, hZ, hw, by rw [← hh] at hn; exact hn, rfl, rfl, rfl, rfl⟩ s₁ [] X0 e0 (Fr.nil _)
  obtain ⟨s2, o, h1, h2, h3, h4⟩ := q
  exact ⟨s2, o, castTop (ef m) h1, h2, h3, h4⟩

theorem w_iloadN (O : Ok K l Z a0 ts B ml rt own nm R n0 Q) {i : Fin 4} {v : Int32} (hd : decode B pc = .ok (.iload_n i, 1)) (hp : pc + 1 = pc') (hl : L[i.val]? = some (.val (.int v))) (k : W K h cl sl pc' L (.int v :: st)) : W K h cl sl pc L (st) := by
  subst hp; exact W.step (fun T locs X e t q => XS.iloadN X.here O.1 rfl (hb O.2.1 hd) hl q) k
theorem w_iload (O : Ok K l Z a0 ts B ml rt own nm R n0 Q) {i : Nat} {v : Int32} (hd : decode B pc = .ok (.iload i, 2)) (hp : pc + 2 = pc') (hl : L[i]? = some (.val (.int v))) (k : W K h cl sl pc' L (.int v :: st)) : W K h cl sl pc L (st) := by
  subst hp; exact W.step (fun T locs X e t q => XS.iload X.here O.1 rfl (hb O.2.1 hd) hl q) k
theorem w_lloadN (O : Ok K l Z a0 ts B ml rt own nm R n0 Q) {i : Fin 4} {v : Int64} (hd : decode B pc = .ok (.lload_n i, 1)) (hp : pc + 1 = pc') (hl : L[i.val]? = some (.val (.long v))) (k : W K h cl sl pc' L (.long v :: st)) : W K h cl sl pc L (st) := by
  subst hp; exact W.step (fun T locs X e t q => XS.lloadN X.here O.1 rfl (hb O.2.1 hd) hl q) k
theorem w_lload (O : Ok K l Z a0 ts B ml rt own nm R n0 Q) {i : Nat} {v : Int64} (hd : decode B pc = .ok (.lload i, 2)) (hp : pc + 2 = pc') (hl : L[i]? = some (.val (.long v))) (k : W K h cl sl pc' L (.long v :: st)) : W K h cl sl pc L (st) := by
  subst hp; exact W.step (fun T locs X e t q => XS.lload X.here O.1 rfl (hb O.2.1 hd) hl q) k
theorem w_aloadN (O : Ok K l Z a0 ts B ml rt own nm R n0 Q) {i : Fin 4} {v : Value} (hd : decode B pc = .ok (.aload_n i, 1)) (hp : pc + 1 = pc') (hl : L[i.val]? = some (.val v)) (hv : v.isRef = true) (k : W K h cl sl pc' L (v :: st)) : W K h cl sl pc L (st) := by
  subst hp; exact W.step (fun T locs X e t q => XS.aloadN X.here O.1 rfl (hb O.2.1 hd) hl hv q) k
theorem w_aload (O : Ok K l Z a0 ts B ml rt own nm R n0 Q) {i : Nat} {v : Value} (hd : decode B pc = .ok (.aload i, 2)) (hp : pc + 2 = pc') (hl : L[i]? = some (.val v)) (hv : v.isRef = true) (k : W K h cl sl pc' L (v :: st)) : W K h cl sl pc L (st) := by
  subst hp; exact W.step (fun T locs X e t q => XS.aload X.here O.1 rfl (hb O.2.1 hd) hl hv q) k
theorem w_istoreN (O : Ok K l Z a0 ts B ml rt own nm R n0 Q) {i : Fin 4} {v : Int32} (hd : decode B pc = .ok (.istore_n i, 1)) (hp : pc + 1 = pc') (hl : storeLocals L i.val (.int v) = some L') (k : W K h cl sl pc' L' st) : W K h cl sl pc L (.int v :: st) := by
  subst hp; exact W.step (fun T locs X e t q => XS.istoreN X.here O.1 rfl (hb O.2.1 hd) rfl hl q) k
theorem w_istoreNG (O : Ok K l Z a0 ts B ml rt own nm R n0 Q) {i : Fin 4} {v : Int32} {L' : Int32 → Array Slot} (hd : decode B pc = .ok (.istore_n i, 1)) (hp : pc + 1 = pc') (hl : ∀ z, storeLocals L i.val (.int z) = some (L' z)) (k : ∀ z, z = v → W K h cl sl pc' (L' z) st) : W K h cl sl pc L (.int v :: st) := w_istoreN O hd hp (hl v) (k v rfl)
theorem w_istore (O : Ok K l Z a0 ts B ml rt own nm R n0 Q) {i : Nat} {v : Int32} (hd : decode B pc = .ok (.istore i, 2)) (hp : pc + 2 = pc') (hl : storeLocals L i (.int v) = some L') (k : W K h cl sl pc' L' st) : W K h cl sl pc L (.int v :: st) := by
  subst hp; exact W.step (fun T locs X e t q => XS.istore X.here O.1 rfl (hb O.2.1 hd) rfl hl q) k
theorem w_istoreG (O : Ok K l Z a0 ts B ml rt own nm R n0 Q) {i : Nat} {v : Int32} {L' : Int32 → Array Slot} (hd : decode B pc = .ok (.istore i, 2)) (hp : pc + 2 = pc') (hl : ∀ z, storeLocals L i (.int z) = some (L' z)) (k : ∀ z, z = v → W K h cl sl pc' (L' z) st) : W K h cl sl pc L (.int v :: st) := w_istore O hd hp (hl v) (k v rfl)
theorem w_lstoreN (O : Ok K l Z a0 ts B ml rt own nm R n0 Q) {i : Fin 4} {v : Int64} (hd : decode B pc = .ok (.lstore_n i, 1)) (hp : pc + 1 = pc') (hl : storeLocals L i.val (.long v) = some L') (k : W K h cl sl pc' L' st) : W K h cl sl pc L (.long v :: st) := by
  subst hp; exact W.step (fun T locs X e t q => XS.lstoreN X.here O.1 rfl (hb O.2.1 hd) rfl hl q) k
theorem w_lstoreNG (O : Ok K l Z a0 ts B ml rt own nm R n0 Q) {i : Fin 4} {v : Int64} {L' : Int64 → Array Slot} (hd : decode B pc = .ok (.lstore_n i, 1)) (hp : pc + 1 = pc') (hl : ∀ z, storeLocals L i.val (.long z) = some (L' z)) (k : ∀ z, z = v → W K h cl sl pc' (L' z) st) : W K h cl sl pc L (.long v :: st) := w_lstoreN O hd hp (hl v) (k v rfl)
theorem w_lstore (O : Ok K l Z a0 ts B ml rt own nm R n0 Q) {i : Nat} {v : Int64} (hd : decode B pc = .ok (.lstore i, 2)) (hp : pc + 2 = pc') (hl : storeLocals L i (.long v) = some L') (k : W K h cl sl pc' L' st) : W K h cl sl pc L (.long v :: st) := by
  subst hp; exact W.step (fun T locs X e t q => XS.lstore X.here O.1 rfl (hb O.2.1 hd) rfl hl q) k
theorem w_lstoreG (O : Ok K l Z a0 ts B ml rt own nm R n0 Q) {i : Nat} {v : Int64} {L' : Int64 → Array Slot} (hd : decode B pc = .ok (.lstore i, 2)) (hp : pc + 2 = pc') (hl : ∀ z, storeLocals L i (.long z) = some (L' z)) (k : ∀ z, z = v → W K h cl sl pc' (L' z) st) : W K h cl sl pc L (.long v :: st) := w_lstore O hd hp (hl v) (k v rfl)
theorem w_astoreN (O : Ok K l Z a0 ts B ml rt own nm R n0 Q) {i : Fin 4} {v : Value} (hd : decode B pc = .ok (.astore_n i, 1)) (hp : pc + 1 = pc') (hv : v.isRef = true) (hl : storeLocals L i.val v = some L') (k : W K h cl sl pc' L' st) : W K h cl sl pc L (v :: st) := by
  subst hp; exact W.step (fun T locs X e t q => XS.astoreN X.here O.1 rfl (hb O.2.1 hd) rfl hv hl q) k
theorem w_astore (O : Ok K l Z a0 ts B ml rt own nm R n0 Q) {i : Nat} {v : Value} (hd : decode B pc = .ok (.astore i, 2)) (hp : pc + 2 = pc') (hv : v.isRef = true) (hl : storeLocals L i v = some L') (k : W K h cl sl pc' L' st) : W K h cl sl pc L (v :: st) := by
  subst hp; exact W.step (fun T locs X e t q => XS.astore X.here O.1 rfl (hb O.2.1 hd) rfl hv hl q) k
theorem w_iinc (O : Ok K l Z a0 ts B ml rt own nm R n0 Q) {i : Nat} {cst : Int} {x z : Int32} (hd : decode B pc = .ok (.iinc i cst, 3)) (hp : pc + 3 = pc') (hl : L[i]? = some (.val (.int x))) (hz : x + Int32.ofInt cst = z) (hl' : storeLocals L i (.int z) = some L') (k : W K h cl sl pc' L' st) : W K h cl sl pc L st := by
  subst hp; subst hz; exact W.step (fun T locs X e t q => XS.iinc X.here O.1 rfl (hb O.2.1 hd) hl hl' q) k
theorem w_iincG (O : Ok K l Z a0 ts B ml rt own nm R n0 Q) {i : Nat} {cst : Int} {x y : Int32} {L' : Int32 → Array Slot} (hd : decode B pc = .ok (.iinc i cst, 3)) (hp : pc + 3 = pc') (hl : L[i]? = some (.val (.int x))) (hz : Int32.ofInt cst = y) (hl' : ∀ z, storeLocals L i (.int z) = some (L' z)) (k : ∀ z, z = x + y → W K h cl sl pc' (L' z) st) : W K h cl sl pc L st := by
  subst hz; exact w_iinc O hd hp hl rfl (hl' _) (k _ rfl)
theorem w_iconst (O : Ok K l Z a0 ts B ml rt own nm R n0 Q) {i : Int} {z : Int32} (hd : decode B pc = .ok (.iconst i, 1)) (hp : pc + 1 = pc') (hz : Int32.ofInt i = z) (k : W K h cl sl pc' L (.int z :: st)) : W K h cl sl pc L (st) := by
  subst hp; exact W.step (fun T locs X e t q => XS.iconst X.here O.1 rfl (hb O.2.1 hd) (by rw [hz]; exact q)) k
theorem w_bipush (O : Ok K l Z a0 ts B ml rt own nm R n0 Q) {i : Int} {z : Int32} (hd : decode B pc = .ok (.bipush i, 2)) (hp : pc + 2 = pc') (hz : (Int8.ofInt i).toInt32 = z) (k : W K h cl sl pc' L (.int z :: st)) : W K h cl sl pc L (st) := by
  subst hp; exact W.step (fun T locs X e t q => XS.bipush X.here O.1 rfl (hb O.2.1 hd) (by rw [hz]; exact q)) k
theorem w_sipush (O : Ok K l Z a0 ts B ml rt own nm R n0 Q) {i : Int} {z : Int32} (hd : decode B pc = .ok (.sipush i, 3)) (hp : pc + 3 = pc') (hz : (Int16.ofInt i).toInt32 = z) (k : W K h cl sl pc' L (.int z :: st)) : W K h cl sl pc L (st) := by
  subst hp; exact W.step (fun T locs X e t q => XS.sipush X.here O.1 rfl (hb O.2.1 hd) (by rw [hz]; exact q)) k
theorem w_lconst (O : Ok K l Z a0 ts B ml rt own nm R n0 Q) {i : Fin 2} {z : Int64} (hd : decode B pc = .ok (.lconst i, 1)) (hp : pc + 1 = pc') (hz : Int64.ofNat i = z) (k : W K h cl sl pc' L (.long z :: st)) : W K h cl sl pc L (st) := by
  subst hp; exact W.step (fun T locs X e t q => XS.lconst X.here O.1 rfl (hb O.2.1 hd) (by rw [hz]; exact q)) k
theorem w_anull (O : Ok K l Z a0 ts B ml rt own nm R n0 Q)  (hd : decode B pc = .ok (.aconst_null, 1)) (hp : pc + 1 = pc') (k : W K h cl sl pc' L (.null :: st)) : W K h cl sl pc L (st) := by
  subst hp; exact W.step (fun T locs X e t q => XS.aconstNull X.here O.1 rfl (hb O.2.1 hd) q) k
theorem w_ldc (O : Ok K l Z a0 ts B ml rt own nm R n0 Q) {i : Nat} {v : Int32} (hd : decode B pc = .ok (.ldc i, 2)) (hp : pc + 2 = pc') (w : Jvm.Cond.constant own i v ∈ ts) (k : W K h cl sl pc' L (.int v :: st)) : W K h cl sl pc L (st) := by
  subst hp; exact W.step (fun T locs X e t q => X.ldcInt O.1 O.2.2.2.1 (mvT O.2.2.2.2.2.2.2.1 (O.2.2.2.2.2.2.2.2.1 _ w)) (g := mkF K.2.1.2.1 pc L st) rfl (hb O.2.1 hd) _ q) k
theorem w_ldc2 (O : Ok K l Z a0 ts B ml rt own nm R n0 Q) {i : Nat} {v : Int64} (hd : decode B pc = .ok (.ldc2_w i, 3)) (hp : pc + 3 = pc') (w : Jvm.Cond.constantLong own i v ∈ ts) (k : W K h cl sl pc' L (.long v :: st)) : W K h cl sl pc L (st) := by
  subst hp; exact W.step (fun T locs X e t q => X.ldc2Long O.1 O.2.2.2.1 (mvT O.2.2.2.2.2.2.2.1 (O.2.2.2.2.2.2.2.2.1 _ w)) (g := mkF K.2.1.2.1 pc L st) rfl (hb O.2.1 hd) _ q) k
theorem w_iadd (O : Ok K l Z a0 ts B ml rt own nm R n0 Q) {x y : Int32} (hd : decode B pc = .ok (.iadd, 1)) (hp : pc + 1 = pc') (k : W K h cl sl pc' L (.int (x + y) :: st)) : W K h cl sl pc L (.int y :: .int x :: st) := by
  subst hp; exact W.step (fun T locs X e t q => XS.iadd X.here O.1 rfl (hb O.2.1 hd) rfl q) k
theorem w_isub (O : Ok K l Z a0 ts B ml rt own nm R n0 Q) {x y : Int32} (hd : decode B pc = .ok (.isub, 1)) (hp : pc + 1 = pc') (k : W K h cl sl pc' L (.int (x - y) :: st)) : W K h cl sl pc L (.int y :: .int x :: st) := by
  subst hp; exact W.step (fun T locs X e t q => XS.isub X.here O.1 rfl (hb O.2.1 hd) rfl q) k
theorem w_imul (O : Ok K l Z a0 ts B ml rt own nm R n0 Q) {x y : Int32} (hd : decode B pc = .ok (.imul, 1)) (hp : pc + 1 = pc') (k : W K h cl sl pc' L (.int (x * y) :: st)) : W K h cl sl pc L (.int y :: .int x :: st) := by
  subst hp; exact W.step (fun T locs X e t q => XS.imul X.here O.1 rfl (hb O.2.1 hd) rfl q) k
theorem w_iand (O : Ok K l Z a0 ts B ml rt own nm R n0 Q) {x y : Int32} (hd : decode B pc = .ok (.iand, 1)) (hp : pc + 1 = pc') (k : W K h cl sl pc' L (.int (x &&& y) :: st)) : W K h cl sl pc L (.int y :: .int x :: st) := by
  subst hp; exact W.step (fun T locs X e t q => XS.iand X.here O.1 rfl (hb O.2.1 hd) rfl q) k
theorem w_ior (O : Ok K l Z a0 ts B ml rt own nm R n0 Q) {x y : Int32} (hd : decode B pc = .ok (.ior, 1)) (hp : pc + 1 = pc') (k : W K h cl sl pc' L (.int (x ||| y) :: st)) : W K h cl sl pc L (.int y :: .int x :: st) := by
  subst hp; exact W.step (fun T locs X e t q => XS.ior X.here O.1 rfl (hb O.2.1 hd) rfl q) k
theorem w_ixor (O : Ok K l Z a0 ts B ml rt own nm R n0 Q) {x y : Int32} (hd : decode B pc = .ok (.ixor, 1)) (hp : pc + 1 = pc') (k : W K h cl sl pc' L (.int (x ^^^ y) :: st)) : W K h cl sl pc L (.int y :: .int x :: st) := by
  subst hp; exact W.step (fun T locs X e t q => XS.ixor X.here O.1 rfl (hb O.2.1 hd) rfl q) k
theorem w_ishl (O : Ok K l Z a0 ts B ml rt own nm R n0 Q) {x y : Int32} (hd : decode B pc = .ok (.ishl, 1)) (hp : pc + 1 = pc') (k : W K h cl sl pc' L (.int (x <<< (y &&& 31)) :: st)) : W K h cl sl pc L (.int y :: .int x :: st) := by
  subst hp; exact W.step (fun T locs X e t q => XS.ishl X.here O.1 rfl (hb O.2.1 hd) rfl q) k
theorem w_ishr (O : Ok K l Z a0 ts B ml rt own nm R n0 Q) {x y : Int32} (hd : decode B pc = .ok (.ishr, 1)) (hp : pc + 1 = pc') (k : W K h cl sl pc' L (.int (x >>> (y &&& 31)) :: st)) : W K h cl sl pc L (.int y :: .int x :: st) := by
  subst hp; exact W.step (fun T locs X e t q => XS.ishr X.here O.1 rfl (hb O.2.1 hd) rfl q) k
theorem w_iushr (O : Ok K l Z a0 ts B ml rt own nm R n0 Q) {x y : Int32} (hd : decode B pc = .ok (.iushr, 1)) (hp : pc + 1 = pc') (k : W K h cl sl pc' L (.int ((x.toUInt32 >>> (y &&& 31).toUInt32).toInt32) :: st)) : W K h cl sl pc L (.int y :: .int x :: st) := by
  subst hp; exact W.step (fun T locs X e t q => XS.iushr X.here O.1 rfl (hb O.2.1 hd) rfl q) k
theorem w_ladd (O : Ok K l Z a0 ts B ml rt own nm R n0 Q) {x y : Int64} (hd : decode B pc = .ok (.ladd, 1)) (hp : pc + 1 = pc') (k : W K h cl sl pc' L (.long (x + y) :: st)) : W K h cl sl pc L (.long y :: .long x :: st) := by
  subst hp; exact W.step (fun T locs X e t q => XS.ladd X.here O.1 rfl (hb O.2.1 hd) rfl q) k
theorem w_lsub (O : Ok K l Z a0 ts B ml rt own nm R n0 Q) {x y : Int64} (hd : decode B pc = .ok (.lsub, 1)) (hp : pc + 1 = pc') (k : W K h cl sl pc' L (.long (x - y) :: st)) : W K h cl sl pc L (.long y :: .long x :: st) := by
  subst hp; exact W.step (fun T locs X e t q => XS.lsub X.here O.1 rfl (hb O.2.1 hd) rfl q) k
theorem w_lmul (O : Ok K l Z a0 ts B ml rt own nm R n0 Q) {x y : Int64} (hd : decode B pc = .ok (.lmul, 1)) (hp : pc + 1 = pc') (k : W K h cl sl pc' L (.long (x * y) :: st)) : W K h cl sl pc L (.long y :: .long x :: st) := by
  subst hp; exact W.step (fun T locs X e t q => XS.lmul X.here O.1 rfl (hb O.2.1 hd) rfl q) k
theorem w_land (O : Ok K l Z a0 ts B ml rt own nm R n0 Q) {x y : Int64} (hd : decode B pc = .ok (.land, 1)) (hp : pc + 1 = pc') (k : W K h cl sl pc' L (.long (x &&& y) :: st)) : W K h cl sl pc L (.long y :: .long x :: st) := by
  subst hp; exact W.step (fun T locs X e t q => XS.land X.here O.1 rfl (hb O.2.1 hd) rfl q) k
theorem w_lor (O : Ok K l Z a0 ts B ml rt own nm R n0 Q) {x y : Int64} (hd : decode B pc = .ok (.lor, 1)) (hp : pc + 1 = pc') (k : W K h cl sl pc' L (.long (x ||| y) :: st)) : W K h cl sl pc L (.long y :: .long x :: st) := by
  subst hp; exact W.step (fun T locs X e t q => XS.lor X.here O.1 rfl (hb O.2.1 hd) rfl q) k
theorem w_lxor (O : Ok K l Z a0 ts B ml rt own nm R n0 Q) {x y : Int64} (hd : decode B pc = .ok (.lxor, 1)) (hp : pc + 1 = pc') (k : W K h cl sl pc' L (.long (x ^^^ y) :: st)) : W K h cl sl pc L (.long y :: .long x :: st) := by
  subst hp; exact W.step (fun T locs X e t q => XS.lxor X.here O.1 rfl (hb O.2.1 hd) rfl q) k
theorem w_lshl (O : Ok K l Z a0 ts B ml rt own nm R n0 Q) {x : Int64} {y : Int32} (hd : decode B pc = .ok (.lshl, 1)) (hp : pc + 1 = pc') (k : W K h cl sl pc' L (.long (x <<< (y &&& 0x3f).toInt64) :: st)) : W K h cl sl pc L (.int y :: .long x :: st) := by
  subst hp; exact W.step (fun T locs X e t q => XS.lshl X.here O.1 rfl (hb O.2.1 hd) rfl q) k
theorem w_lshr (O : Ok K l Z a0 ts B ml rt own nm R n0 Q) {x : Int64} {y : Int32} (hd : decode B pc = .ok (.lshr, 1)) (hp : pc + 1 = pc') (k : W K h cl sl pc' L (.long (x >>> (y &&& 0x3f).toInt64) :: st)) : W K h cl sl pc L (.int y :: .long x :: st) := by
  subst hp; exact W.step (fun T locs X e t q => XS.lshr X.here O.1 rfl (hb O.2.1 hd) rfl q) k
theorem w_lushr (O : Ok K l Z a0 ts B ml rt own nm R n0 Q) {x : Int64} {y : Int32} (hd : decode B pc = .ok (.lushr, 1)) (hp : pc + 1 = pc') (k : W K h cl sl pc' L (.long ((x.toUInt64 >>> (y &&& 0x3f).toInt64.toUInt64).toInt64) :: st)) : W K h cl sl pc L (.int y :: .long x :: st) := by
  subst hp; exact W.step (fun T locs X e t q => XS.lushr X.here O.1 rfl (hb O.2.1 hd) rfl q) k
theorem w_idiv (O : Ok K l Z a0 ts B ml rt own nm R n0 Q) {x y : Int32} (hd : decode B pc = .ok (.idiv, 1)) (hp : pc + 1 = pc') (hy : y ≠ 0) (k : W K h cl sl pc' L (.int (x / y) :: st)) : W K h cl sl pc L (.int y :: .int x :: st) := by
  subst hp; exact W.step (fun T locs X e t q => XS.idiv X.here O.1 rfl (hb O.2.1 hd) rfl hy q) k
theorem w_irem (O : Ok K l Z a0 ts B ml rt own nm R n0 Q) {x y : Int32} (hd : decode B pc = .ok (.irem, 1)) (hp : pc + 1 = pc') (hy : y ≠ 0) (k : W K h cl sl pc' L (.int (x % y) :: st)) : W K h cl sl pc L (.int y :: .int x :: st) := by
  subst hp; exact W.step (fun T locs X e t q => iremM X O.1 rfl (hb O.2.1 hd) rfl hy q) k
theorem w_ldiv (O : Ok K l Z a0 ts B ml rt own nm R n0 Q) {x y : Int64} (hd : decode B pc = .ok (.ldiv, 1)) (hp : pc + 1 = pc') (hy : y ≠ 0) (k : W K h cl sl pc' L (.long (x / y) :: st)) : W K h cl sl pc L (.long y :: .long x :: st) := by
  subst hp; exact W.step (fun T locs X e t q => XS.ldiv X.here O.1 rfl (hb O.2.1 hd) rfl hy q) k
theorem w_lrem (O : Ok K l Z a0 ts B ml rt own nm R n0 Q) {x y : Int64} (hd : decode B pc = .ok (.lrem, 1)) (hp : pc + 1 = pc') (hy : y ≠ 0) (k : W K h cl sl pc' L (.long (x % y) :: st)) : W K h cl sl pc L (.long y :: .long x :: st) := by
  subst hp; exact W.step (fun T locs X e t q => XS.lrem X.here O.1 rfl (hb O.2.1 hd) rfl hy (by rw [lrem_mod]; exact q)) k
theorem w_ineg (O : Ok K l Z a0 ts B ml rt own nm R n0 Q) {x : Int32} (hd : decode B pc = .ok (.ineg, 1)) (hp : pc + 1 = pc') (k : W K h cl sl pc' L (.int (-x) :: st)) : W K h cl sl pc L (.int x :: st) := by
  subst hp; exact W.step (fun T locs X e t q => XS.ineg X.here O.1 rfl (hb O.2.1 hd) rfl q) k
theorem w_lneg (O : Ok K l Z a0 ts B ml rt own nm R n0 Q) {x : Int64} (hd : decode B pc = .ok (.lneg, 1)) (hp : pc + 1 = pc') (k : W K h cl sl pc' L (.long (-x) :: st)) : W K h cl sl pc L (.long x :: st) := by
  subst hp; exact W.step (fun T locs X e t q => XS.lneg X.here O.1 rfl (hb O.2.1 hd) rfl q) k
theorem w_i2l (O : Ok K l Z a0 ts B ml rt own nm R n0 Q) {x : Int32} (hd : decode B pc = .ok (.i2l, 1)) (hp : pc + 1 = pc') (k : W K h cl sl pc' L (.long (x.toInt64) :: st)) : W K h cl sl pc L (.int x :: st) := by
  subst hp; exact W.step (fun T locs X e t q => XS.i2l X.here O.1 rfl (hb O.2.1 hd) rfl q) k
theorem w_l2i (O : Ok K l Z a0 ts B ml rt own nm R n0 Q) {x : Int64} (hd : decode B pc = .ok (.l2i, 1)) (hp : pc + 1 = pc') (k : W K h cl sl pc' L (.int (x.toInt32) :: st)) : W K h cl sl pc L (.long x :: st) := by
  subst hp; exact W.step (fun T locs X e t q => XS.l2i X.here O.1 rfl (hb O.2.1 hd) rfl q) k
theorem w_i2b (O : Ok K l Z a0 ts B ml rt own nm R n0 Q) {x : Int32} (hd : decode B pc = .ok (.i2b, 1)) (hp : pc + 1 = pc') (k : W K h cl sl pc' L (.int (x.toInt8.toInt32) :: st)) : W K h cl sl pc L (.int x :: st) := by
  subst hp; exact W.step (fun T locs X e t q => XS.i2b X.here O.1 rfl (hb O.2.1 hd) rfl q) k
theorem w_i2s (O : Ok K l Z a0 ts B ml rt own nm R n0 Q) {x : Int32} (hd : decode B pc = .ok (.i2s, 1)) (hp : pc + 1 = pc') (k : W K h cl sl pc' L (.int (x.toInt16.toInt32) :: st)) : W K h cl sl pc L (.int x :: st) := by
  subst hp; exact W.step (fun T locs X e t q => XS.i2s X.here O.1 rfl (hb O.2.1 hd) rfl q) k
theorem w_i2c (O : Ok K l Z a0 ts B ml rt own nm R n0 Q) {x : Int32} (hd : decode B pc = .ok (.i2c, 1)) (hp : pc + 1 = pc') (k : W K h cl sl pc' L (.int (x.toUInt32.toUInt16.toUInt32.toInt32) :: st)) : W K h cl sl pc L (.int x :: st) := by
  subst hp; exact W.step (fun T locs X e t q => XS.i2c X.here O.1 rfl (hb O.2.1 hd) rfl q) k
theorem w_dup (O : Ok K l Z a0 ts B ml rt own nm R n0 Q) {x : Value} (hd : decode B pc = .ok (.dup, 1)) (hp : pc + 1 = pc') (hc : x.category = 1) (k : W K h cl sl pc' L (x :: x :: st)) : W K h cl sl pc L (x :: st) := by
  subst hp; exact W.step (fun T locs X e t q => XS.dup X.here O.1 rfl (hb O.2.1 hd) rfl hc q) k
theorem w_pop (O : Ok K l Z a0 ts B ml rt own nm R n0 Q) {x : Value} (hd : decode B pc = .ok (.pop, 1)) (hp : pc + 1 = pc') (hc : x.category = 1) (k : W K h cl sl pc' L (st)) : W K h cl sl pc L (x :: st) := by
  subst hp; exact W.step (fun T locs X e t q => XS.pop X.here O.1 rfl (hb O.2.1 hd) rfl hc q) k
theorem w_dupX1 (O : Ok K l Z a0 ts B ml rt own nm R n0 Q) {x y : Value} (hd : decode B pc = .ok (.dup_x1, 1)) (hp : pc + 1 = pc') (hc : x.category = 1) (hc2 : y.category = 1) (k : W K h cl sl pc' L (x :: y :: x :: st)) : W K h cl sl pc L (x :: y :: st) := by
  subst hp; exact W.step (fun T locs X e t q => XS.dupX1 X.here O.1 rfl (hb O.2.1 hd) rfl hc hc2 q) k
theorem w_goto (O : Ok K l Z a0 ts B ml rt own nm R n0 Q) {o : Int} (hd : decode B pc = .ok (.goto o, 3)) (ho : 0 ≤ (pc : Int) + o) (hp : ((pc : Int) + o).toNat = pc') (k : W K h cl sl pc' L st) : W K h cl sl pc L st := W.step (fun T locs X e t q => XS.goto X.here O.1 rfl rfl (hb O.2.1 hd) ho hp q) k
theorem w_icmp_eq (O : Ok K l Z a0 ts B ml rt own nm R n0 Q) {o : Int} {x y : Int32} {pt pn : Nat} (hd : decode B pc = .ok (.if_icmp .eq o, 3)) (hn : pc + 3 = pn) (ho : 0 ≤ (pc : Int) + o) (ht : ((pc : Int) + o).toNat = pt) (ky : x.toInt = y.toInt → W K h cl sl pt L st) (kn : ¬ x.toInt = y.toInt → W K h cl sl pn L st) : W K h cl sl pc L (.int y :: .int x :: st) := by
  by_cases q : x = y
  · exact W.step (fun T locs X e t z => XS.icmpYes X.here O.1 rfl rfl (hb O.2.1 hd) rfl (teq q).1 ho ht z) (ky (Int32.toInt_inj.mpr q))
  · exact W.step (fun T locs X e t z => XS.icmpNo X.here O.1 rfl (hb O.2.1 hd) rfl (feq q).1 (by rw [← hn] at z; exact z)) (kn fun w => q (Int32.toInt_inj.mp w))
theorem w_if_eq (O : Ok K l Z a0 ts B ml rt own nm R n0 Q) {o : Int} {x : Int32} {pt pn : Nat} (hd : decode B pc = .ok (.ifCond .eq o, 3)) (hn : pc + 3 = pn) (ho : 0 ≤ (pc : Int) + o) (ht : ((pc : Int) + o).toNat = pt) (ky : x.toInt = 0 → W K h cl sl pt L st) (kn : ¬ x.toInt = 0 → W K h cl sl pn L st) : W K h cl sl pc L (.int x :: st) := by
  have e0 : (0 : Int32).toInt = 0 := by decide
  by_cases q : x = 0
  · exact W.step (fun T locs X e t z => XS.ifYes X.here O.1 rfl rfl (hb O.2.1 hd) rfl ((if0 _ _).trans (teq q).1) ho ht z) (ky (by rw [← e0]; exact (Int32.toInt_inj.mpr q)))
  · exact W.step (fun T locs X e t z => XS.ifNo X.here O.1 rfl (hb O.2.1 hd) rfl ((if0 _ _).trans (feq q).1) (by rw [← hn] at z; exact z)) (kn fun w => q (by rw [← e0] at w; exact (Int32.toInt_inj.mp w)))
theorem lcb_eq {x y : Int64} : (lcmpW x y).toInt = 0 ↔ x.toInt = y.toInt := by
  have e0 : (0 : Int32).toInt = 0 := by decide
  rw [← e0]
  exact Int32.toInt_inj.trans ((lw_eq x y).trans Int64.toInt_inj.symm)
theorem w_lcmp_eq (O : Ok K l Z a0 ts B ml rt own nm R n0 Q) {o : Int} {x y : Int64} {pi pt pn : Nat} (hd : decode B pc = .ok (.lcmp, 1)) (hi : pc + 1 = pi) (hd2 : decode B pi = .ok (.ifCond .eq o, 3)) (hn : pi + 3 = pn) (ho : 0 ≤ (pi : Int) + o) (ht : ((pi : Int) + o).toNat = pt) (ky : x.toInt = y.toInt → W K h cl sl pt L st) (kn : ¬ x.toInt = y.toInt → W K h cl sl pn L st) : W K h cl sl pc L (.long y :: .long x :: st) := by
  subst hi
  exact W.step (fun T locs X e t q => XS.lcmp X.here O.1 rfl (hb O.2.1 hd) rfl q) (w_if_eq O hd2 hn ho ht (fun q => ky (lcb_eq.mp q)) (fun q => kn fun w => q (lcb_eq.mpr w)))
theorem w_icmp_ne (O : Ok K l Z a0 ts B ml rt own nm R n0 Q) {o : Int} {x y : Int32} {pt pn : Nat} (hd : decode B pc = .ok (.if_icmp .ne o, 3)) (hn : pc + 3 = pn) (ho : 0 ≤ (pc : Int) + o) (ht : ((pc : Int) + o).toNat = pt) (ky : ¬ x.toInt = y.toInt → W K h cl sl pt L st) (kn : x.toInt = y.toInt → W K h cl sl pn L st) : W K h cl sl pc L (.int y :: .int x :: st) := by
  by_cases q : x = y
  · exact W.step (fun T locs X e t z => XS.icmpNo X.here O.1 rfl (hb O.2.1 hd) rfl (teq q).2 (by rw [← hn] at z; exact z)) (kn (Int32.toInt_inj.mpr q))
  · exact W.step (fun T locs X e t z => XS.icmpYes X.here O.1 rfl rfl (hb O.2.1 hd) rfl (feq q).2 ho ht z) (ky fun w => q (Int32.toInt_inj.mp w))
theorem w_if_ne (O : Ok K l Z a0 ts B ml rt own nm R n0 Q) {o : Int} {x : Int32} {pt pn : Nat} (hd : decode B pc = .ok (.ifCond .ne o, 3)) (hn : pc + 3 = pn) (ho : 0 ≤ (pc : Int) + o) (ht : ((pc : Int) + o).toNat = pt) (ky : ¬ x.toInt = 0 → W K h cl sl pt L st) (kn : x.toInt = 0 → W K h cl sl pn L st) : W K h cl sl pc L (.int x :: st) := by
  have e0 : (0 : Int32).toInt = 0 := by decide
  by_cases q : x = 0
  · exact W.step (fun T locs X e t z => XS.ifNo X.here O.1 rfl (hb O.2.1 hd) rfl ((if0 _ _).trans (teq q).2) (by rw [← hn] at z; exact z)) (kn (by rw [← e0]; exact (Int32.toInt_inj.mpr q)))
  · exact W.step (fun T locs X e t z => XS.ifYes X.here O.1 rfl rfl (hb O.2.1 hd) rfl ((if0 _ _).trans (feq q).2) ho ht z) (ky fun w => q (by rw [← e0] at w; exact (Int32.toInt_inj.mp w)))
theorem lcb_ne {x y : Int64} : (lcmpW x y).toInt = 0 ↔ x.toInt = y.toInt := by
  have e0 : (0 : Int32).toInt = 0 := by decide
  rw [← e0]
  exact Int32.toInt_inj.trans ((lw_eq x y).trans Int64.toInt_inj.symm)
theorem w_lcmp_ne (O : Ok K l Z a0 ts B ml rt own nm R n0 Q) {o : Int} {x y : Int64} {pi pt pn : Nat} (hd : decode B pc = .ok (.lcmp, 1)) (hi : pc + 1 = pi) (hd2 : decode B pi = .ok (.ifCond .ne o, 3)) (hn : pi + 3 = pn) (ho : 0 ≤ (pi : Int) + o) (ht : ((pi : Int) + o).toNat = pt) (ky : ¬ x.toInt = y.toInt → W K h cl sl pt L st) (kn : x.toInt = y.toInt → W K h cl sl pn L st) : W K h cl sl pc L (.long y :: .long x :: st) := by
  subst hi
  exact W.step (fun T locs X e t q => XS.lcmp X.here O.1 rfl (hb O.2.1 hd) rfl q) (w_if_ne O hd2 hn ho ht (fun q => ky fun w => q (lcb_ne.mpr w)) (fun q => kn (lcb_ne.mp q)))
theorem w_icmp_lt (O : Ok K l Z a0 ts B ml rt own nm R n0 Q) {o : Int} {x y : Int32} {pt pn : Nat} (hd : decode B pc = .ok (.if_icmp .lt o, 3)) (hn : pc + 3 = pn) (ho : 0 ≤ (pc : Int) + o) (ht : ((pc : Int) + o).toNat = pt) (ky : x.toInt < y.toInt → W K h cl sl pt L st) (kn : ¬ x.toInt < y.toInt → W K h cl sl pn L st) : W K h cl sl pc L (.int y :: .int x :: st) := by
  by_cases q : x < y
  · exact W.step (fun T locs X e t z => XS.icmpYes X.here O.1 rfl rfl (hb O.2.1 hd) rfl (tlt q).1 ho ht z) (ky (Int32.lt_iff_toInt_lt.mp q))
  · exact W.step (fun T locs X e t z => XS.icmpNo X.here O.1 rfl (hb O.2.1 hd) rfl (flt q).1 (by rw [← hn] at z; exact z)) (kn fun w => q (Int32.lt_iff_toInt_lt.mpr w))
theorem w_if_lt (O : Ok K l Z a0 ts B ml rt own nm R n0 Q) {o : Int} {x : Int32} {pt pn : Nat} (hd : decode B pc = .ok (.ifCond .lt o, 3)) (hn : pc + 3 = pn) (ho : 0 ≤ (pc : Int) + o) (ht : ((pc : Int) + o).toNat = pt) (ky : x.toInt < 0 → W K h cl sl pt L st) (kn : ¬ x.toInt < 0 → W K h cl sl pn L st) : W K h cl sl pc L (.int x :: st) := by
  have e0 : (0 : Int32).toInt = 0 := by decide
  by_cases q : x < 0
  · exact W.step (fun T locs X e t z => XS.ifYes X.here O.1 rfl rfl (hb O.2.1 hd) rfl ((if0 _ _).trans (tlt q).1) ho ht z) (ky (by rw [← e0]; exact (Int32.lt_iff_toInt_lt.mp q)))
  · exact W.step (fun T locs X e t z => XS.ifNo X.here O.1 rfl (hb O.2.1 hd) rfl ((if0 _ _).trans (flt q).1) (by rw [← hn] at z; exact z)) (kn fun w => q (by rw [← e0] at w; exact (Int32.lt_iff_toInt_lt.mpr w)))
theorem lcb_lt {x y : Int64} : (lcmpW x y).toInt < 0 ↔ x.toInt < y.toInt := by
  have e0 : (0 : Int32).toInt = 0 := by decide
  rw [← e0]
  exact (Int32.lt_iff_toInt_lt.symm).trans ((lw_lt x y).trans Int64.lt_iff_toInt_lt)
theorem w_lcmp_lt (O : Ok K l Z a0 ts B ml rt own nm R n0 Q) {o : Int} {x y : Int64} {pi pt pn : Nat} (hd : decode B pc = .ok (.lcmp, 1)) (hi : pc + 1 = pi) (hd2 : decode B pi = .ok (.ifCond .lt o, 3)) (hn : pi + 3 = pn) (ho : 0 ≤ (pi : Int) + o) (ht : ((pi : Int) + o).toNat = pt) (ky : x.toInt < y.toInt → W K h cl sl pt L st) (kn : ¬ x.toInt < y.toInt → W K h cl sl pn L st) : W K h cl sl pc L (.long y :: .long x :: st) := by
  subst hi
  exact W.step (fun T locs X e t q => XS.lcmp X.here O.1 rfl (hb O.2.1 hd) rfl q) (w_if_lt O hd2 hn ho ht (fun q => ky (lcb_lt.mp q)) (fun q => kn fun w => q (lcb_lt.mpr w)))
theorem w_icmp_ge (O : Ok K l Z a0 ts B ml rt own nm R n0 Q) {o : Int} {x y : Int32} {pt pn : Nat} (hd : decode B pc = .ok (.if_icmp .ge o, 3)) (hn : pc + 3 = pn) (ho : 0 ≤ (pc : Int) + o) (ht : ((pc : Int) + o).toNat = pt) (ky : ¬ x.toInt < y.toInt → W K h cl sl pt L st) (kn : x.toInt < y.toInt → W K h cl sl pn L st) : W K h cl sl pc L (.int y :: .int x :: st) := by
  by_cases q : x < y
  · exact W.step (fun T locs X e t z => XS.icmpNo X.here O.1 rfl (hb O.2.1 hd) rfl (tlt q).2.1 (by rw [← hn] at z; exact z)) (kn (Int32.lt_iff_toInt_lt.mp q))
  · exact W.step (fun T locs X e t z => XS.icmpYes X.here O.1 rfl rfl (hb O.2.1 hd) rfl (flt q).2.1 ho ht z) (ky fun w => q (Int32.lt_iff_toInt_lt.mpr w))
theorem w_if_ge (O : Ok K l Z a0 ts B ml rt own nm R n0 Q) {o : Int} {x : Int32} {pt pn : Nat} (hd : decode B pc = .ok (.ifCond .ge o, 3)) (hn : pc + 3 = pn) (ho : 0 ≤ (pc : Int) + o) (ht : ((pc : Int) + o).toNat = pt) (ky : ¬ x.toInt < 0 → W K h cl sl pt L st) (kn : x.toInt < 0 → W K h cl sl pn L st) : W K h cl sl pc L (.int x :: st) := by
  have e0 : (0 : Int32).toInt = 0 := by decide
  by_cases q : x < 0
  · exact W.step (fun T locs X e t z => XS.ifNo X.here O.1 rfl (hb O.2.1 hd) rfl ((if0 _ _).trans (tlt q).2.1) (by rw [← hn] at z; exact z)) (kn (by rw [← e0]; exact (Int32.lt_iff_toInt_lt.mp q)))
  · exact W.step (fun T locs X e t z => XS.ifYes X.here O.1 rfl rfl (hb O.2.1 hd) rfl ((if0 _ _).trans (flt q).2.1) ho ht z) (ky fun w => q (by rw [← e0] at w; exact (Int32.lt_iff_toInt_lt.mpr w)))
theorem lcb_ge {x y : Int64} : (lcmpW x y).toInt < 0 ↔ x.toInt < y.toInt := by
  have e0 : (0 : Int32).toInt = 0 := by decide
  rw [← e0]
  exact (Int32.lt_iff_toInt_lt.symm).trans ((lw_lt x y).trans Int64.lt_iff_toInt_lt)
theorem w_lcmp_ge (O : Ok K l Z a0 ts B ml rt own nm R n0 Q) {o : Int} {x y : Int64} {pi pt pn : Nat} (hd : decode B pc = .ok (.lcmp, 1)) (hi : pc + 1 = pi) (hd2 : decode B pi = .ok (.ifCond .ge o, 3)) (hn : pi + 3 = pn) (ho : 0 ≤ (pi : Int) + o) (ht : ((pi : Int) + o).toNat = pt) (ky : ¬ x.toInt < y.toInt → W K h cl sl pt L st) (kn : x.toInt < y.toInt → W K h cl sl pn L st) : W K h cl sl pc L (.long y :: .long x :: st) := by
  subst hi
  exact W.step (fun T locs X e t q => XS.lcmp X.here O.1 rfl (hb O.2.1 hd) rfl q) (w_if_ge O hd2 hn ho ht (fun q => ky fun w => q (lcb_ge.mpr w)) (fun q => kn (lcb_ge.mp q)))
theorem w_icmp_gt (O : Ok K l Z a0 ts B ml rt own nm R n0 Q) {o : Int} {x y : Int32} {pt pn : Nat} (hd : decode B pc = .ok (.if_icmp .gt o, 3)) (hn : pc + 3 = pn) (ho : 0 ≤ (pc : Int) + o) (ht : ((pc : Int) + o).toNat = pt) (ky : y.toInt < x.toInt → W K h cl sl pt L st) (kn : ¬ y.toInt < x.toInt → W K h cl sl pn L st) : W K h cl sl pc L (.int y :: .int x :: st) := by
  by_cases q : y < x
  · exact W.step (fun T locs X e t z => XS.icmpYes X.here O.1 rfl rfl (hb O.2.1 hd) rfl (tlt q).2.2.1 ho ht z) (ky (Int32.lt_iff_toInt_lt.mp q))
  · exact W.step (fun T locs X e t z => XS.icmpNo X.here O.1 rfl (hb O.2.1 hd) rfl (flt q).2.2.1 (by rw [← hn] at z; exact z)) (kn fun w => q (Int32.lt_iff_toInt_lt.mpr w))
theorem w_if_gt (O : Ok K l Z a0 ts B ml rt own nm R n0 Q) {o : Int} {x : Int32} {pt pn : Nat} (hd : decode B pc = .ok (.ifCond .gt o, 3)) (hn : pc + 3 = pn) (ho : 0 ≤ (pc : Int) + o) (ht : ((pc : Int) + o).toNat = pt) (ky : 0 < x.toInt → W K h cl sl pt L st) (kn : ¬ 0 < x.toInt → W K h cl sl pn L st) : W K h cl sl pc L (.int x :: st) := by
  have e0 : (0 : Int32).toInt = 0 := by decide
  by_cases q : 0 < x
  · exact W.step (fun T locs X e t z => XS.ifYes X.here O.1 rfl rfl (hb O.2.1 hd) rfl ((if0 _ _).trans (tlt q).2.2.1) ho ht z) (ky (by rw [← e0]; exact (Int32.lt_iff_toInt_lt.mp q)))
  · exact W.step (fun T locs X e t z => XS.ifNo X.here O.1 rfl (hb O.2.1 hd) rfl ((if0 _ _).trans (flt q).2.2.1) (by rw [← hn] at z; exact z)) (kn fun w => q (by rw [← e0] at w; exact (Int32.lt_iff_toInt_lt.mpr w)))
theorem lcb_gt {x y : Int64} : 0 < (lcmpW x y).toInt ↔ y.toInt < x.toInt := by
  have e0 : (0 : Int32).toInt = 0 := by decide
  rw [← e0]
  exact (Int32.lt_iff_toInt_lt.symm).trans ((lw_gt x y).trans Int64.lt_iff_toInt_lt)
theorem w_lcmp_gt (O : Ok K l Z a0 ts B ml rt own nm R n0 Q) {o : Int} {x y : Int64} {pi pt pn : Nat} (hd : decode B pc = .ok (.lcmp, 1)) (hi : pc + 1 = pi) (hd2 : decode B pi = .ok (.ifCond .gt o, 3)) (hn : pi + 3 = pn) (ho : 0 ≤ (pi : Int) + o) (ht : ((pi : Int) + o).toNat = pt) (ky : y.toInt < x.toInt → W K h cl sl pt L st) (kn : ¬ y.toInt < x.toInt → W K h cl sl pn L st) : W K h cl sl pc L (.long y :: .long x :: st) := by
  subst hi
  exact W.step (fun T locs X e t q => XS.lcmp X.here O.1 rfl (hb O.2.1 hd) rfl q) (w_if_gt O hd2 hn ho ht (fun q => ky (lcb_gt.mp q)) (fun q => kn fun w => q (lcb_gt.mpr w)))
theorem w_icmp_le (O : Ok K l Z a0 ts B ml rt own nm R n0 Q) {o : Int} {x y : Int32} {pt pn : Nat} (hd : decode B pc = .ok (.if_icmp .le o, 3)) (hn : pc + 3 = pn) (ho : 0 ≤ (pc : Int) + o) (ht : ((pc : Int) + o).toNat = pt) (ky : ¬ y.toInt < x.toInt → W K h cl sl pt L st) (kn : y.toInt < x.toInt → W K h cl sl pn L st) : W K h cl sl pc L (.int y :: .int x :: st) := by
  by_cases q : y < x
  · exact W.step (fun T locs X e t z => XS.icmpNo X.here O.1 rfl (hb O.2.1 hd) rfl (tlt q).2.2.2 (by rw [← hn] at z; exact z)) (kn (Int32.lt_iff_toInt_lt.mp q))
  · exact W.step (fun T locs X e t z => XS.icmpYes X.here O.1 rfl rfl (hb O.2.1 hd) rfl (flt q).2.2.2 ho ht z) (ky fun w => q (Int32.lt_iff_toInt_lt.mpr w))
theorem w_if_le (O : Ok K l Z a0 ts B ml rt own nm R n0 Q) {o : Int} {x : Int32} {pt pn : Nat} (hd : decode B pc = .ok (.ifCond .le o, 3)) (hn : pc + 3 = pn) (ho : 0 ≤ (pc : Int) + o) (ht : ((pc : Int) + o).toNat = pt) (ky : ¬ 0 < x.toInt → W K h cl sl pt L st) (kn : 0 < x.toInt → W K h cl sl pn L st) : W K h cl sl pc L (.int x :: st) := by
  have e0 : (0 : Int32).toInt = 0 := by decide
  by_cases q : 0 < x
  · exact W.step (fun T locs X e t z => XS.ifNo X.here O.1 rfl (hb O.2.1 hd) rfl ((if0 _ _).trans (tlt q).2.2.2) (by rw [← hn] at z; exact z)) (kn (by rw [← e0]; exact (Int32.lt_iff_toInt_lt.mp q)))
  · exact W.step (fun T locs X e t z => XS.ifYes X.here O.1 rfl rfl (hb O.2.1 hd) rfl ((if0 _ _).trans (flt q).2.2.2) ho ht z) (ky fun w => q (by rw [← e0] at w; exact (Int32.lt_iff_toInt_lt.mpr w)))
theorem lcb_le {x y : Int64} : 0 < (lcmpW x y).toInt ↔ y.toInt < x.toInt := by
  have e0 : (0 : Int32).toInt = 0 := by decide
  rw [← e0]
  exact (Int32.lt_iff_toInt_lt.symm).trans ((lw_gt x y).trans Int64.lt_iff_toInt_lt)
theorem w_lcmp_le (O : Ok K l Z a0 ts B ml rt own nm R n0 Q) {o : Int} {x y : Int64} {pi pt pn : Nat} (hd : decode B pc = .ok (.lcmp, 1)) (hi : pc + 1 = pi) (hd2 : decode B pi = .ok (.ifCond .le o, 3)) (hn : pi + 3 = pn) (ho : 0 ≤ (pi : Int) + o) (ht : ((pi : Int) + o).toNat = pt) (ky : ¬ y.toInt < x.toInt → W K h cl sl pt L st) (kn : y.toInt < x.toInt → W K h cl sl pn L st) : W K h cl sl pc L (.long y :: .long x :: st) := by
  subst hi
  exact W.step (fun T locs X e t q => XS.lcmp X.here O.1 rfl (hb O.2.1 hd) rfl q) (w_if_le O hd2 hn ho ht (fun q => ky fun w => q (lcb_le.mpr w)) (fun q => kn (lcb_le.mp q)))
theorem w_ifnullY (O : Ok K l Z a0 ts B ml rt own nm R n0 Q) {o : Int} (hd : decode B pc = .ok (.ifnull o, 3)) (ho : 0 ≤ (pc : Int) + o) (ht : ((pc : Int) + o).toNat = pc') (k : W K h cl sl pc' L st) : W K h cl sl pc L (.null :: st) := W.step (fun T locs X e t q => XS.ifnullYes X.here O.1 rfl rfl (hb O.2.1 hd) rfl ho ht q) k
theorem w_ifnullN (O : Ok K l Z a0 ts B ml rt own nm R n0 Q) {o : Int} {b : Addr} (hd : decode B pc = .ok (.ifnull o, 3)) (hp : pc + 3 = pc') (k : W K h cl sl pc' L st) : W K h cl sl pc L (.ref b :: st) := by
  subst hp; exact W.step (fun T locs X e t q => XS.ifnullNo X.here O.1 rfl (hb O.2.1 hd) rfl q) k
theorem w_ifnonnullY (O : Ok K l Z a0 ts B ml rt own nm R n0 Q) {o : Int} {b : Addr} (hd : decode B pc = .ok (.ifnonnull o, 3)) (ho : 0 ≤ (pc : Int) + o) (ht : ((pc : Int) + o).toNat = pc') (k : W K h cl sl pc' L st) : W K h cl sl pc L (.ref b :: st) := W.step (fun T locs X e t q => XS.ifnonnullYes X.here O.1 rfl rfl (hb O.2.1 hd) rfl ho ht q) k
theorem w_ifnonnullN (O : Ok K l Z a0 ts B ml rt own nm R n0 Q) {o : Int} (hd : decode B pc = .ok (.ifnonnull o, 3)) (hp : pc + 3 = pc') (k : W K h cl sl pc' L st) : W K h cl sl pc L (.null :: st) := by
  subst hp; exact W.step (fun T locs X e t q => XS.ifnonnullNo X.here O.1 rfl (hb O.2.1 hd) rfl q) k
theorem w_acmp_eq (O : Ok K l Z a0 ts B ml rt own nm R n0 Q) {o : Int} {x y : Value} {pt pn : Nat} (hd : decode B pc = .ok (.if_acmp .eq o, 3)) (hx' : x.isRef = true) (hy' : y.isRef = true) (hn : pc + 3 = pn) (ho : 0 ≤ (pc : Int) + o) (ht : ((pc : Int) + o).toNat = pt) (ky : x = y → W K h cl sl pt L st) (kn : ¬ x = y → W K h cl sl pn L st) : W K h cl sl pc L (y :: x :: st) := by
  by_cases q : x = y
  · exact W.step (fun T locs X e t z => Jvm.RoadKit.acmp (g := mkF K.2.1.2.1 pc L (y :: x :: st)) X O.1 rfl hx' hy' (pc0 := pc) (pc' := pt) (same := true) rfl (hb O.2.1 hd) rfl (decide_eq_true q) ho (by simp [acV, ht, hn]) z) (ky q)
  · exact W.step (fun T locs X e t z => Jvm.RoadKit.acmp (g := mkF K.2.1.2.1 pc L (y :: x :: st)) X O.1 rfl hx' hy' (pc0 := pc) (pc' := pn) (same := false) rfl (hb O.2.1 hd) rfl (decide_eq_false q) ho (by simp [acV, ht, hn]) z) (kn q)
theorem w_acmp_ne (O : Ok K l Z a0 ts B ml rt own nm R n0 Q) {o : Int} {x y : Value} {pt pn : Nat} (hd : decode B pc = .ok (.if_acmp .ne o, 3)) (hx' : x.isRef = true) (hy' : y.isRef = true) (hn : pc + 3 = pn) (ho : 0 ≤ (pc : Int) + o) (ht : ((pc : Int) + o).toNat = pt) (ky : ¬ x = y → W K h cl sl pt L st) (kn : x = y → W K h cl sl pn L st) : W K h cl sl pc L (y :: x :: st) := by
  by_cases q : x = y
  · exact W.step (fun T locs X e t z => Jvm.RoadKit.acmp (g := mkF K.2.1.2.1 pc L (y :: x :: st)) X O.1 rfl hx' hy' (pc0 := pc) (pc' := pn) (same := true) rfl (hb O.2.1 hd) rfl (decide_eq_true q) ho (by simp [acV, ht, hn]) z) (kn q)
  · exact W.step (fun T locs X e t z => Jvm.RoadKit.acmp (g := mkF K.2.1.2.1 pc L (y :: x :: st)) X O.1 rfl hx' hy' (pc0 := pc) (pc' := pt) (same := false) rfl (hb O.2.1 hd) rfl (decide_eq_false q) ho (by simp [acV, ht, hn]) z) (ky q)
theorem w_getf (O : Ok K l Z a0 ts B ml rt own nm R n0 Q) {i : Nat} {C f d : String} {a : Addr} {v : Value} (hd : decode B pc = .ok (.getfield i, 3)) (hp : pc + 3 = pc') (w : Jvm.Cond.fieldLink own i C f d ∈ ts) (F : Fld Z h a C f d v) (k : W K h cl sl pc' L (v :: st)) : W K h cl sl pc L (.ref a :: st) := by
  subst hp
  exact W.stepT (fun T locs X e => getF X O.1 O.2.2.2.2.2.2.2.1 O.2.2.2.1 (host := "") (Or.inl (O.2.2.2.2.2.2.2.2.1 _ w)) Via.refl e F (g := mkF K.2.1.2.1 pc L (.ref a :: st)) rfl rfl (hb O.2.1 hd)) k
theorem w_gets (O : Ok K l Z a0 ts B ml rt own nm R n0 Q) {i : Nat} {C f d : String} {v : Value} (hd : decode B pc = .ok (.getstatic i, 3)) (hp : pc + 3 = pc') (w : Jvm.Cond.fieldLink own i C f d ∈ ts) (F : Sta Z h C f d v) (k : W K h cl sl pc' L (v :: st)) : W K h cl sl pc L st := by
  subst hp
  exact W.stepT (fun T locs X e => getS2 X O.1 O.2.2.2.2.2.2.2.1 O.2.2.2.1 (host := "") (Or.inl (O.2.2.2.2.2.2.2.2.1 _ w)) Via.refl e F (g := mkF K.2.1.2.1 pc L st) rfl (hb O.2.1 hd)) k
theorem w_putf (O : Ok K l Z a0 ts B ml rt own nm R n0 Q) {i kk : Nat} {C f d : String} {a : Addr} {v old : Value} {ty : FieldType} (hd : decode B pc = .ok (.putfield i, 3)) (hp : pc + 3 = pc') (w : Jvm.Cond.fieldLink own i C f d ∈ ts) (wi : Jvm.Cond.instantiable C kk ∈ ts) (Ly : Jvm.Cond.lays C C f d ∈ ts ∨ (Jvm.Cond.laysFinal C C f d ∈ ts ∧ own = C ∧ nm = "<init>")) (F : Fld Z h a C f d old) (E : Exa Z h a C) (ha : n0 ≤ a) (hty : parseFieldDescriptor d = some ty) (hn : narrow ty v = v) (hf : fits ty v = true)
    (k : ∀ h', Wr h h' a (Jvm.RoadKit.slotOf Z C f d) v → W K h' cl sl pc' L st) : W K h cl sl pc L (v :: .ref a :: st) := by
  subst hp
  have hw := O.2.2.2.2.2.2.2.2.1
  exact W.stepW (fun T locs X e => putF X O.1 O.2.2.2.2.2.2.2.1 O.2.2.2.1 (host := "") (Or.inl (hw _ w)) Via.refl e F E (Ly.imp (fun q => hw _ q) fun q => ⟨hw _ q.1, q.2.1, O.2.2.2.2.1.trans q.2.2⟩) (hw _ wi) hty hn hf (g := mkF K.2.1.2.1 pc L (v :: .ref a :: st)) rfl rfl (hb O.2.1 hd)) (by rw [O.2.2.2.2.2.2.2.2.2.2.2.2.1]; exact ha) k
theorem w_new (O : Ok K l Z a0 ts B ml rt own nm R n0 Q) {i n cl' sl' : Nat} {C : String} (hd : decode B pc = .ok (.new i, 3)) (hp : pc + 3 = pc') (w1 : Jvm.Cond.classLink own i C ∈ ts) (w2 : Jvm.Cond.instantiable C n ∈ ts) (w3 : Jvm.Cond.initialized C ∈ ts) (hc : cl + 1 = cl') (hs : sl + n = sl') (hc' : cl' ≤ R.cells) (hs' : sl' ≤ R.slots)
    (k : ∀ h' b, b = h.size → n0 ≤ b → Ext h h' → Exa Z h' b C → (∀ {Ow nf d : String} {ty : FieldType}, Laid Z a0 C Ow nf d → parseFieldDescriptor d = some ty → Fld Z h' b Ow nf d (defaultValue ty)) → W K h' cl' sl' pc' L (.ref b :: st)) : W K h cl sl pc L st := by
  obtain ⟨⟨p, l', e', R'⟩, ⟨s, m, args, below⟩, ⟨meth, c⟩, Q', n0'⟩ := K
  obtain ⟨hx, hby, hml, hown, hnm, hrt, hlk, hZ, hw, hn0, hl', hR', hn', hQ'⟩ := O
  dsimp only at hx hby hml hown hnm hrt hlk hZ hn0 hl' hR' hn' hQ'
  subst hl' hR' hn' hQ'
  subst hp hc hs
  intro T locs X eT N
  obtain ⟨T2, h2, X2, e2, E2, A2, D2, -, st2⟩ := newO X hx hZ hown (hw _ w1) (hw _ w2) (hw _ w3) eT (g := mkF m pc L st) rfl (hb hby hd) hc' hs'
  obtain ⟨s2, o, h1, r⟩ := k h2 h.size rfl (Nat.le_trans hn0 (by rw [← eT]; exact X.same.2.1)) E2 A2 D2 T2 _ X2 e2 N
  exact ⟨s2, o, st2 _ h1, r⟩
theorem w_objinit (O : Ok K l Z a0 ts B ml rt own nm R n0 Q) {i wt : Nat} {a : Addr} (hd : decode B pc = .ok (.invokespecial i, 3)) (hp : pc + 3 = pc') (w1 : Jvm.Cond.methodLink own i Lib.objectInit ∈ ts) (w2 : Jvm.Cond.instanceMethod Lib.objectInit ∈ ts) (w3 : Jvm.Cond.code Lib.objectInit ⟨#[0xb1]⟩ 1 none ∈ ts) (hsz : L.size = ml) (hwt : (st.map fun v => v.category).sum = wt) (hf : 1 ≤ R.frames) (hl : wt + 12 ≤ R.locals) (k : W K h cl sl pc' L st) : W K h cl sl pc L (.ref a :: st) := by
  obtain ⟨⟨p, l', e', R'⟩, ⟨s, m, args, below⟩, ⟨meth, c⟩, Q', n0'⟩ := K
  obtain ⟨hx, hby, hml, hown, hnm, hrt, hlk, hZ, hw, hn0, hl', hR', hn', hQ'⟩ := O
  dsimp only at hx hby hml hown hnm hrt hlk hZ hn0 hl' hR' hn' hQ'
  subst hl' hR' hn' hQ'
  subst hp hml
  exact W.stepT (fun T locs X e => initO X hx hZ hown (hw _ w1) (hw _ w2) (hw _ w3) e (g := mkF m pc L (.ref a :: st)) rfl hsz rfl (hb hby hd) hf (W := wt) (by show 2 * 0 + _ ≤ _; omega) hl) k
/-- an array of n places, the i-th holds f i -/
def Afn (Z : State) (h : Heap) (a : Addr) (ty : FieldType) (n : Nat) (f : Nat → Value) : Prop := ∃ c : Cell, Arr Z h a c ty ∧ c.slots.size = n ∧ n < 2147483648 ∧ ∀ i, i < n → c.slots[i]? = some (f i)
def upd (f : Nat → Value) (i : Nat) (v : Value) : Nat → Value := fun j => if j = i then v else f j
theorem Afn.lt {a : Addr} {ty : FieldType} {n : Nat} {f : Nat → Value} (A : Afn Z h a ty n f) : a < h.size := by obtain ⟨c, A, -⟩ := A; exact A.lt
theorem Afn.bound {a : Addr} {ty : FieldType} {n : Nat} {f : Nat → Value} (A : Afn Z h a ty n f) : n < 2147483648 := by obtain ⟨c, -, -, q, -⟩ := A; exact q
theorem upd_same (f : Nat → Value) (i : Nat) (v : Value) : upd f i v i = v := if_pos rfl
theorem upd_ne (f : Nat → Value) {i j : Nat} (v : Value) (q : ¬ j = i) : upd f i v j = f j := if_neg q
theorem Afn.ext {h' : Heap} {a : Addr} {ty : FieldType} {n : Nat} {f : Nat → Value} (A : Afn Z h a ty n f) (E : Ext h h') : Afn Z h' a ty n f := by obtain ⟨c, A, r⟩ := A; exact ⟨c, A.ext E, r⟩
theorem Afn.other {h' : Heap} {a b : Addr} {i : Nat} {v : Value} {ty : FieldType} {n : Nat} {f : Nat → Value} (A : Afn Z h b ty n f) (Wq : Wr h h' a i v) (q : b ≠ a) : Afn Z h' b ty n f := by obtain ⟨c, A, r⟩ := A; exact ⟨c, A.other Wq q, r⟩
theorem Afn.keep {h' : Heap} {a : Addr} {ws : List Addr} {ty : FieldType} {n : Nat} {f : Nat → Value} (A : Afn Z h a ty n f) (Kp : Keep h h' ws) (q : a ∉ ws) : Afn Z h' a ty n f := by obtain ⟨c, A, r⟩ := A; exact ⟨c, ⟨Kp.2.1 a c A.1 q, A.2⟩, r⟩
theorem Afn.congr {a : Addr} {ty : FieldType} {n : Nat} {f g : Nat → Value} (A : Afn Z h a ty n f) (q : ∀ i, i < n → f i = g i) : Afn Z h a ty n g := by obtain ⟨c, A, h1, h2, h3⟩ := A; exact ⟨c, A, h1, h2, fun i hi => by rw [← q i hi]; exact h3 i hi⟩
theorem Afn.set {h' : Heap} {a : Addr} {i : Nat} {v : Value} {ty : FieldType} {n : Nat} {f : Nat → Value} (A : Afn Z h a ty n f) (Wq : Wr h h' a i v) : Afn Z h' a ty n (upd f i v) := by
  obtain ⟨c, A, h1, h2, h3⟩ := A
  refine ⟨_, A.same Wq, by simp [Cell.setSlot, h1], h2, fun j hj => ?_⟩
  by_cases q : j = i
  · subst q
    simp [Cell.setSlot, upd, h1, hj]
  · simp only [upd, if_neg q]
    show (c.slots.setIfInBounds i v)[j]? = _
    rw [Array.getElem?_setIfInBounds_ne (fun z => q z.symm)]; exact h3 j hj
theorem tnc {j : Int32} {i : Nat} (hj : j.toInt = (i : Int)) : j.toNatClampNeg = i ∧ ¬ j < 0 := by
  have e0 : (0 : Int32).toInt = 0 := by decide
  have q : ¬ j < 0 := by rw [Int32.lt_iff_toInt_lt, e0]; omega
  have := nat_of q
  exact ⟨by omega, q⟩
theorem idxOk {c : Cell} {n : Nat} {j : Int32} {i : Nat} (hs : c.slots.size = n) (hj : j.toInt = (i : Int)) (hi : i < n) : ¬ (j < 0 ∨ c.slots.size ≤ j.toNatClampNeg) := by
  obtain ⟨q1, q2⟩ := tnc hj
  rintro (z | z)
  · exact q2 z
  · omega

theorem w_iaload (O : Ok K l Z a0 ts B ml rt own nm R n0 Q) {a : Addr} {n i : Nat} {f : Nat → Value} {j : Int32} {x : Int32} (hd : decode B pc = .ok (.iaload, 1)) (hp : pc + 1 = pc') (A : Afn Z h a .int n f) (hj : j.toInt = (i : Int)) (hi : i < n) (hv : f i = .int x) (k : W K h cl sl pc' L (.int x :: st)) : W K h cl sl pc L (.int j :: .ref a :: st) := by
  subst hp
  obtain ⟨c, A, h1, h2, h3⟩ := A
  refine W.step (fun T locs X e t q => X.iaload O.1 (j := j) (v := .int x) (by rw [e]; exact A.1) (State.isArrayOf_alike O.2.2.2.2.2.2.2.1.alike A.2.1) A.2.2 (idxOk h1 hj hi) (by rw [(tnc hj).1, h3 i hi, hv]) (g := mkF K.2.1.2.1 pc L (.int j :: .ref a :: st)) rfl rfl (hb O.2.1 hd) _ q) k
theorem w_laload (O : Ok K l Z a0 ts B ml rt own nm R n0 Q) {a : Addr} {n i : Nat} {f : Nat → Value} {j : Int32} {x : Int64} (hd : decode B pc = .ok (.laload, 1)) (hp : pc + 1 = pc') (A : Afn Z h a .long n f) (hj : j.toInt = (i : Int)) (hi : i < n) (hv : f i = .long x) (k : W K h cl sl pc' L (.long x :: st)) : W K h cl sl pc L (.int j :: .ref a :: st) := by
  subst hp
  obtain ⟨c, A, h1, h2, h3⟩ := A
  refine W.step (fun T locs X e t q => X.laload O.1 (j := j) (v := .long x) (by rw [e]; exact A.1) (State.isArrayOf_alike O.2.2.2.2.2.2.2.1.alike A.2.1) A.2.2 (idxOk h1 hj hi) (by rw [(tnc hj).1, h3 i hi, hv]) (g := mkF K.2.1.2.1 pc L (.int j :: .ref a :: st)) rfl rfl (hb O.2.1 hd) _ q) k
theorem w_baload (O : Ok K l Z a0 ts B ml rt own nm R n0 Q) {a : Addr} {n i : Nat} {f : Nat → Value} {j : Int32} {x : Int32} (hd : decode B pc = .ok (.baload, 1)) (hp : pc + 1 = pc') (A : Afn Z h a .byte n f) (hj : j.toInt = (i : Int)) (hi : i < n) (hv : f i = .int x) (k : W K h cl sl pc' L (.int x :: st)) : W K h cl sl pc L (.int j :: .ref a :: st) := by
  subst hp
  obtain ⟨c, A, h1, h2, h3⟩ := A
  refine W.step (fun T locs X e t q => X.baloadBytes O.1 (j := j) (v := .int x) (by rw [e]; exact A.1) (State.isArrayOf_alike O.2.2.2.2.2.2.2.1.alike A.2.1) A.2.2 (idxOk h1 hj hi) (by rw [(tnc hj).1, h3 i hi, hv]) (g := mkF K.2.1.2.1 pc L (.int j :: .ref a :: st)) rfl rfl (hb O.2.1 hd) _ q) k
theorem w_caload (O : Ok K l Z a0 ts B ml rt own nm R n0 Q) {a : Addr} {n i : Nat} {f : Nat → Value} {j : Int32} {x : Int32} (hd : decode B pc = .ok (.caload, 1)) (hp : pc + 1 = pc') (A : Afn Z h a .char n f) (hj : j.toInt = (i : Int)) (hi : i < n) (hv : f i = .int x) (k : W K h cl sl pc' L (.int x :: st)) : W K h cl sl pc L (.int j :: .ref a :: st) := by
  subst hp
  obtain ⟨c, A, h1, h2, h3⟩ := A
  refine W.step (fun T locs X e t q => X.caload O.1 (j := j) (v := .int x) (by rw [e]; exact A.1) (State.isArrayOf_alike O.2.2.2.2.2.2.2.1.alike A.2.1) A.2.2 (idxOk h1 hj hi) (by rw [(tnc hj).1, h3 i hi, hv]) (g := mkF K.2.1.2.1 pc L (.int j :: .ref a :: st)) rfl rfl (hb O.2.1 hd) _ q) k
theorem w_aaload (O : Ok K l Z a0 ts B ml rt own nm R n0 Q) {a : Addr} {n i : Nat} {f : Nat → Value} {j : Int32} {x : Value} {ty : FieldType} (hd : decode B pc = .ok (.aaload, 1)) (hp : pc + 1 = pc') (A : Afn Z h a ty n f) (hty : ty.isReference = true) (hj : j.toInt = (i : Int)) (hi : i < n) (hv : f i = x) (k : W K h cl sl pc' L (x :: st)) : W K h cl sl pc L (.int j :: .ref a :: st) := by
  subst hp
  obtain ⟨c, A, h1, h2, h3⟩ := A
  refine W.step (fun T locs X e t q => X.aaload O.1 (j := j) (v := x) (by rw [e]; exact A.1) (State.isArrayOf_alike O.2.2.2.2.2.2.2.1.alike A.2.1) hty A.2.2 (idxOk h1 hj hi) (by rw [(tnc hj).1, h3 i hi, hv]) (g := mkF K.2.1.2.1 pc L (.int j :: .ref a :: st)) rfl rfl (hb O.2.1 hd) _ q) k
theorem w_iastore (O : Ok K l Z a0 ts B ml rt own nm R n0 Q) {a : Addr} {n i : Nat} {f : Nat → Value} {j : Int32} {x : Int32} (hd : decode B pc = .ok (.iastore, 1)) (hp : pc + 1 = pc') (A : Afn Z h a .int n f) (hj : j.toInt = (i : Int)) (hi : i < n) (ha : n0 ≤ a) (k : ∀ h', Wr h h' a i (.int x) → W K h' cl sl pc' L st) : W K h cl sl pc L (.int x :: .int j :: .ref a :: st) := by
  subst hp
  obtain ⟨c, A, h1, h2, h3⟩ := A
  rw [← (tnc hj).1] at k
  exact W.stepW (fun T locs X e => stI X O.1 O.2.2.2.2.2.2.2.1 e A (j := j) (idxOk h1 hj hi) (g := mkF K.2.1.2.1 pc L (.int x :: .int j :: .ref a :: st)) rfl rfl (hb O.2.1 hd)) (by rw [O.2.2.2.2.2.2.2.2.2.2.2.2.1]; exact ha) k
theorem w_lastore (O : Ok K l Z a0 ts B ml rt own nm R n0 Q) {a : Addr} {n i : Nat} {f : Nat → Value} {j : Int32} {x : Int64} (hd : decode B pc = .ok (.lastore, 1)) (hp : pc + 1 = pc') (A : Afn Z h a .long n f) (hj : j.toInt = (i : Int)) (hi : i < n) (ha : n0 ≤ a) (k : ∀ h', Wr h h' a i (.long x) → W K h' cl sl pc' L st) : W K h cl sl pc L (.long x :: .int j :: .ref a :: st) := by
  subst hp
  obtain ⟨c, A, h1, h2, h3⟩ := A
  rw [← (tnc hj).1] at k
  exact W.stepW (fun T locs X e => stJ X O.1 O.2.2.2.2.2.2.2.1 e A (j := j) (idxOk h1 hj hi) (g := mkF K.2.1.2.1 pc L (.long x :: .int j :: .ref a :: st)) rfl rfl (hb O.2.1 hd)) (by rw [O.2.2.2.2.2.2.2.2.2.2.2.2.1]; exact ha) k
theorem w_bastore (O : Ok K l Z a0 ts B ml rt own nm R n0 Q) {a : Addr} {n i : Nat} {f : Nat → Value} {j : Int32} {x : Int32} (hd : decode B pc = .ok (.bastore, 1)) (hp : pc + 1 = pc') (A : Afn Z h a .byte n f) (hj : j.toInt = (i : Int)) (hi : i < n) (ha : n0 ≤ a) (k : ∀ h', Wr h h' a i (.int (nar .byte x)) → W K h' cl sl pc' L st) : W K h cl sl pc L (.int x :: .int j :: .ref a :: st) := by
  subst hp
  obtain ⟨c, A, h1, h2, h3⟩ := A
  rw [← (tnc hj).1] at k
  exact W.stepW (fun T locs X e => stB X O.1 O.2.2.2.2.2.2.2.1 e A (j := j) (idxOk h1 hj hi) (g := mkF K.2.1.2.1 pc L (.int x :: .int j :: .ref a :: st)) rfl rfl (hb O.2.1 hd)) (by rw [O.2.2.2.2.2.2.2.2.2.2.2.2.1]; exact ha) k
theorem w_castore (O : Ok K l Z a0 ts B ml rt own nm R n0 Q) {a : Addr} {n i : Nat} {f : Nat → Value} {j : Int32} {x : Int32} (hd : decode B pc = .ok (.castore, 1)) (hp : pc + 1 = pc') (A : Afn Z h a .char n f) (hj : j.toInt = (i : Int)) (hi : i < n) (ha : n0 ≤ a) (k : ∀ h', Wr h h' a i (.int (nar .char x)) → W K h' cl sl pc' L st) : W K h cl sl pc L (.int x :: .int j :: .ref a :: st) := by
  subst hp
  obtain ⟨c, A, h1, h2, h3⟩ := A
  rw [← (tnc hj).1] at k
  exact W.stepW (fun T locs X e => stC X O.1 O.2.2.2.2.2.2.2.1 e A (j := j) (idxOk h1 hj hi) (g := mkF K.2.1.2.1 pc L (.int x :: .int j :: .ref a :: st)) rfl rfl (hb O.2.1 hd)) (by rw [O.2.2.2.2.2.2.2.2.2.2.2.2.1]; exact ha) k
theorem w_alen (O : Ok K l Z a0 ts B ml rt own nm R n0 Q) {a : Addr} {n : Nat} {f : Nat → Value} {z : Int32} {ty : FieldType} (hd : decode B pc = .ok (.arraylength, 1)) (hp : pc + 1 = pc') (A : Afn Z h a ty n f) (hz : z.toInt = (n : Int)) (k : W K h cl sl pc' L (.int z :: st)) : W K h cl sl pc L (.ref a :: st) := by
  subst hp
  obtain ⟨c, A, h1, h2, h3⟩ := A
  have ez : c.slots.size.toInt32 = z := by
    have := (back32 (tnc hz).2).1
    rw [(tnc hz).1, ← h1] at this; exact this
  refine W.step (fun T locs X e t q => X.arraylength O.1 (by rw [e]; exact A.1) (State.isArrayOf_alike O.2.2.2.2.2.2.2.1.alike A.2.1) (g := mkF K.2.1.2.1 pc L (.ref a :: st)) rfl rfl (hb O.2.1 hd) _ (by rw [ez]; exact q)) k
theorem w_newarr (O : Ok K l Z a0 ts B ml rt own nm R n0 Q) {aty : ArrayType} {ty : FieldType} {dv : Value} {z : Int32} {n cap cl' sl' : Nat} (hd : decode B pc = .ok (.newarray aty, 2)) (hp : pc + 2 = pc') (hty : newarray.typeOf aty = ty) (hdv : defaultValue ty = dv) (w : Jvm.Cond.arrayClass ty ∈ ts) (hz : z.toInt = (n : Int)) (hcap : n ≤ cap) (hb8 : cap * 8 ≤ 536870912) (hc : cl + 1 = cl') (hs : sl + cap = sl') (hc' : cl' ≤ R.cells) (hs' : sl' ≤ R.slots)
    (k : ∀ h' b, b = h.size → n0 ≤ b → Ext h h' → Afn Z h' b ty n (fun _ => dv) → W K h' cl' sl' pc' L (.ref b :: st)) : W K h cl sl pc L (.int z :: st) := by
  obtain ⟨⟨p, l', e', R'⟩, ⟨s, m, args, below⟩, ⟨meth, c⟩, Q', n0'⟩ := K
  obtain ⟨hx, hby, hml, hown, hnm, hrt, hlk, hZ, hw, hn0, hl', hR', hn', hQ'⟩ := O
  dsimp only at hx hby hml hown hnm hrt hlk hZ hn0 hl' hR' hn' hQ'
  subst hl' hR' hn' hQ'
  subst hp hc hs hty hdv
  intro T locs X eT N
  obtain ⟨T2, h2, kA, X2, e2, E2, A2, st2⟩ := newP X hx hZ (hw _ w) eT (g := mkF m pc L (.int z :: st)) rfl (hb hby hd) rfl (tnc hz).2 (cap := cap) (by rw [(tnc hz).1]; exact hcap) hb8 hc' hs'
  have hsz : (newA kA (newarray.typeOf aty) z).slots.size = n := by rw [sz_new, (tnc hz).1]
  have hr := (rng32 z).2
  obtain ⟨s2, o, h1, r⟩ := k h2 h.size rfl (Nat.le_trans hn0 (by rw [← eT]; exact X.same.2.1)) E2 ⟨_, A2, hsz, by omega, fun i hi => by show (Array.replicate z.toNatClampNeg (defaultValue (newarray.typeOf aty)))[i]? = _; rw [Array.getElem?_replicate, if_pos (by rw [(tnc hz).1]; exact hi)]⟩ T2 _ X2 e2 N
  exact ⟨s2, o, st2 _ h1, r⟩
theorem w_newarrE (O : Ok K l Z a0 ts B ml rt own nm R n0 Q) {aty : ArrayType} {ty : FieldType} {ad : String} {dv : Value} {z : Int32} {n cap cl' sl' : Nat} (hd : decode B pc = .ok (.newarray aty, 2)) (hp : pc + 2 = pc') (hty : newarray.typeOf aty = ty) (hdv : defaultValue ty = dv) (had : "[" ++ (newarray.typeOf aty).toString = ad) (w : Jvm.Cond.arrayClass ty ∈ ts) (hz : z.toInt = (n : Int)) (hcap : n ≤ cap) (hb8 : cap * 8 ≤ 536870912) (hc : cl + 1 = cl') (hs : sl + cap = sl') (hc' : cl' ≤ R.cells) (hs' : sl' ≤ R.slots)
    (k : ∀ h' b, b = h.size → n0 ≤ b → Ext h h' → Afn Z h' b ty n (fun _ => dv) → Exa Z h' b ad → W K h' cl' sl' pc' L (.ref b :: st)) : W K h cl sl pc L (.int z :: st) := by
  obtain ⟨⟨p, l', e', R'⟩, ⟨s, m, args, below⟩, ⟨meth, c⟩, Q', n0'⟩ := K
  obtain ⟨hx, hby, hml, hown, hnm, hrt, hlk, hZ, hw, hn0, hl', hR', hn', hQ'⟩ := O
  dsimp only at hx hby hml hown hnm hrt hlk hZ hn0 hl' hR' hn' hQ'
  subst hl' hR' hn' hQ'
  subst hp hc hs hty hdv
  intro T locs X eT N
  obtain ⟨T2, h2, kA, X2, e2, E2, A2, Ex2, st2⟩ := newPE X hx hZ (hw _ w) eT (g := mkF m pc L (.int z :: st)) rfl (hb hby hd) rfl (tnc hz).2 (cap := cap) (by rw [(tnc hz).1]; exact hcap) hb8 hc' hs' had
  have hsz : (newA kA (newarray.typeOf aty) z).slots.size = n := by rw [sz_new, (tnc hz).1]
  have hr := (rng32 z).2
  obtain ⟨s2, o, h1, r⟩ := k h2 h.size rfl (Nat.le_trans hn0 (by rw [← eT]; exact X.same.2.1)) E2 ⟨_, A2, hsz, by omega, fun i hi => by show (Array.replicate z.toNatClampNeg (defaultValue (newarray.typeOf aty)))[i]? = _; rw [Array.getElem?_replicate, if_pos (by rw [(tnc hz).1]; exact hi)]⟩ Ex2 T2 _ X2 e2 N
  exact ⟨s2, o, st2 _ h1, r⟩
theorem w_clone (O : Ok K l Z a0 ts B ml rt own nm R n0 Q) {i wt n cap cl' sl' : Nat} {ad : String} {a : Addr} {ty : FieldType} {f : Nat → Value} (hd : decode B pc = .ok (.invokevirtual i, 3)) (hp : pc + 3 = pc') (w1 : Jvm.Cond.methodLink own i ⟨ad, "clone", "()Ljava/lang/Object;"⟩ ∈ ts) (w2 : Jvm.Cond.sameMethod ad "java/lang/Object" "clone" "()Ljava/lang/Object;" ∈ ts) (w3 : Jvm.Cond.native ⟨"java/lang/Object", "clone", "()Ljava/lang/Object;"⟩ ∈ ts) (w4 : Jvm.Cond.instanceMethod ⟨"java/lang/Object", "clone", "()Ljava/lang/Object;"⟩ ∈ ts) (w5 : Jvm.Cond.selects ad ⟨ad, "clone", "()Ljava/lang/Object;"⟩ ⟨"java/lang/Object", "clone", "()Ljava/lang/Object;"⟩ ∈ ts) (w6 : Jvm.Cond.castable ad "java/lang/Cloneable" ∈ ts)
    (A : Afn Z h a ty n f) (E : Exa Z h a ad) (hfit : ∀ i, i < n → fits ty (f i) = true) (hsz : L.size = ml) (hwt : (st.map fun v => v.category).sum = wt) (hf : 1 ≤ R.frames) (hl : wt + 14 ≤ R.locals) (hcap : n ≤ cap) (hc : cl + 1 = cl') (hs : sl + cap = sl') (hc' : cl' ≤ R.cells) (hs' : sl' ≤ R.slots)
    (k : ∀ h' b, b = h.size → n0 ≤ b → Ext h h' → Afn Z h' b ty n f → Exa Z h' b ad → W K h' cl' sl' pc' L (.ref b :: st)) : W K h cl sl pc L (.ref a :: st) := by
  obtain ⟨⟨p, l', e', R'⟩, ⟨s, m, args, below⟩, ⟨meth, c⟩, Q', n0'⟩ := K
  obtain ⟨hx, hby, hml, hown, hnm, hrt, hlk, hZ, hw, hn0, hl', hR', hn', hQ'⟩ := O
  dsimp only at hx hby hml hown hnm hrt hlk hZ hn0 hl' hR' hn' hQ'
  subst hl' hR' hn' hQ'
  subst hp hc hs hml
  intro T locs X eT N
  obtain ⟨cx, A1, h1, h2, h3⟩ := A
  have FC : FitC Z cx := fitC_of A1 fun i hi v hv => by rw [h1] at hi; rw [h3 i hi] at hv; cases hv; exact hfit i hi
  obtain ⟨T2, h4, X2, e2, E2, A2, Ex2, st2⟩ := cloneA X hx hZ hown (hw _ w1) (hw _ w2) (hw _ w3) (hw _ w4) (hw _ w5) (hw _ w6) eT A1 E FC (g := mkF m pc L (.ref a :: st)) rfl hsz rfl (hb hby hd) hf (W := wt) (cap := cap) (by show 2 * 0 + _ ≤ _; omega) hl (by rw [h1]; exact hcap) hc' hs'
  obtain ⟨s2, o, g1, r⟩ := k h4 h.size rfl (Nat.le_trans hn0 (by rw [← eT]; exact X.same.2.1)) E2 ⟨_, A2, h1, h2, h3⟩ Ex2 T2 _ X2 e2 N
  exact ⟨s2, o, st2 _ g1, r⟩
theorem w_cast (O : Ok K l Z a0 ts B ml rt own nm R n0 Q) {i : Nat} {C : String} {a : Addr} (hd : decode B pc = .ok (.checkcast i, 3)) (hp : pc + 3 = pc') (w : Jvm.Cond.classLink own i C ∈ ts) (I : Ins Z h a C true) (k : W K h cl sl pc' L (.ref a :: st)) : W K h cl sl pc L (.ref a :: st) := by
  subst hp
  exact W.stepT (fun T locs X e => castY X O.1 O.2.2.2.2.2.2.2.1 O.2.2.2.1 (O.2.2.2.2.2.2.2.2.1 _ w) e I (g := mkF K.2.1.2.1 pc L (.ref a :: st)) rfl rfl (hb O.2.1 hd)) k
/-- the array at a takes every C -/
def Tk (Z : State) (h : Heap) (a : Addr) (C : String) : Prop := ∃ (c : Cell) (k : Class) (comp : ClassId) (t : FieldType), h[a]? = some c ∧ Z.vm.classes[c.cls]? = some k ∧ k.kind = .array comp t ∧ Z.vm.findClass C = some comp
theorem Tk.lt {a : Addr} {C : String} (F : Tk Z h a C) : a < h.size := by obtain ⟨_, _, _, _, h1, -⟩ := F; exact (Array.getElem?_eq_some_iff.mp h1).1
theorem Tk.ext {h' : Heap} {a : Addr} {C : String} (F : Tk Z h a C) (E : Ext h h') : Tk Z h' a C := by obtain ⟨c, k, cp, t, h1, r⟩ := F; exact ⟨c, k, cp, t, E.2 _ _ h1, r⟩
theorem Tk.wr {h' : Heap} {a b : Addr} {C : String} {i : Nat} {v : Value} (F : Tk Z h a C) (Wq : Wr h h' b i v) : Tk Z h' a C := by
  obtain ⟨c, k, cp, t, h1, h2, r⟩ := F
  obtain ⟨d1, a1, a2, -⟩ := wr_at Wq h1
  exact ⟨d1, k, cp, t, a1, by rw [a2]; exact h2, r⟩
theorem Tk.keep {h' : Heap} {a : Addr} {C : String} {ws : List Addr} (F : Tk Z h a C) (Kp : Keep h h' ws) : Tk Z h' a C := by
  obtain ⟨c, k, cp, t, h1, h2, r⟩ := F
  obtain ⟨d1, a1, a2, -⟩ := Kp.2.2 a c h1
  exact ⟨d1, k, cp, t, a1, by rw [a2]; exact h2, r⟩
theorem Tk.sto {a y : Addr} {C : String} (F : Tk Z h a C) (I : Ins Z h y C true) : Sto Z h a (.ref y) := by
  obtain ⟨cl, k, comp, t, o0, o1, o2, o3⟩ := F
  obtain ⟨cv, cT, i1, i2, i3⟩ := I
  cases o3.symm.trans i2
  simp only [Bool.and_eq_true, Bool.not_eq_true'] at i3
  obtain ⟨kc, q⟩ := Vm.classAt_of_findClass o3
  obtain ⟨kv, q2⟩ := Vm.classAt_of_assignable i3.2 ⟨kc, q⟩
  exact Or.inr ⟨cl, cv, k, kv, kc, _, _, y, o0, o1, o2, q, rfl, i1, i3.1, q2, i3.2⟩
theorem w_anewarrA (O : Ok K l Z a0 ts B ml rt own nm R n0 Q) {i : Nat} {C ad : String} {ty : FieldType} {z : Int32} {n cap cl' sl' : Nat} (hd : decode B pc = .ok (.anewarray i, 3)) (hp : pc + 3 = pc') (hC : (FieldType.array ty).toString = C) (had : "[" ++ C = ad) (w1 : Jvm.Cond.classLink own i C ∈ ts) (w2 : Jvm.Cond.arrayOver (.array ty) ∈ ts) (hz : z.toInt = (n : Int)) (hcap : n ≤ cap) (hb8 : cap * 8 ≤ 536870912) (hc : cl + 1 = cl') (hs : sl + cap = sl') (hc' : cl' ≤ R.cells) (hs' : sl' ≤ R.slots)
    (k : ∀ h' b, b = h.size → n0 ≤ b → Ext h h' → Afn Z h' b (.array ty) n (fun _ => .null) → Exa Z h' b ad → Tk Z h' b C → W K h' cl' sl' pc' L (.ref b :: st)) : W K h cl sl pc L (.int z :: st) := by
  obtain ⟨⟨p, l', e', R'⟩, ⟨s, m, args, below⟩, ⟨meth, c⟩, Q', n0'⟩ := K
  obtain ⟨hx, hby, hml, hown, hnm, hrt, hlk, hZ, hw, hn0, hl', hR', hn', hQ'⟩ := O
  dsimp only at hx hby hml hown hnm hrt hlk hZ hn0 hl' hR' hn' hQ'
  subst hl' hR' hn' hQ'
  subst hp hc hs
  intro T locs X eT N
  obtain ⟨T2, h2, kA, X2, e2, E2, A2, Ex2, Ov2, st2⟩ := newRA X hx hZ hown hC (hw _ w1) (hw _ w2) eT (g := mkF m pc L (.int z :: st)) rfl (hb hby hd) rfl (tnc hz).2 (cap := cap) (by rw [(tnc hz).1]; exact hcap) hb8 hc' hs' had
  have hsz : (newA kA (.array ty) z).slots.size = n := by rw [sz_new, (tnc hz).1]
  have hr := (rng32 z).2
  obtain ⟨ko, cpo, o1, o2, o3⟩ := Ov2
  obtain ⟨s2, o, h1, r⟩ := k h2 h.size rfl (Nat.le_trans hn0 (by rw [← eT]; exact X.same.2.1)) E2 ⟨_, A2, hsz, by omega, fun i hi => by show (Array.replicate z.toNatClampNeg (defaultValue (.array ty)))[i]? = _; rw [Array.getElem?_replicate, if_pos (by rw [(tnc hz).1]; exact hi)]; rfl⟩ Ex2 ⟨_, ko, cpo, _, A2.1, o1, o2, o3⟩ T2 _ X2 e2 N
  exact ⟨s2, o, st2 _ h1, r⟩
theorem w_aastore (O : Ok K l Z a0 ts B ml rt own nm R n0 Q) {a : Addr} {n i : Nat} {f : Nat → Value} {j : Int32} {x : Value} {ty : FieldType} (hd : decode B pc = .ok (.aastore, 1)) (hp : pc + 1 = pc') (A : Afn Z h a ty n f) (hty : ty.isReference = true) (hj : j.toInt = (i : Int)) (hi : i < n) (ha : n0 ≤ a) (St : Sto Z h a x) (k : ∀ h', Wr h h' a i x → W K h' cl sl pc' L st) : W K h cl sl pc L (x :: .int j :: .ref a :: st) := by
  subst hp
  obtain ⟨c, A, h1, h2, h3⟩ := A
  rw [← (tnc hj).1] at k
  exact W.stepW (fun T locs X e => stR X O.1 O.2.2.2.2.2.2.2.1 e A (j := j) (idxOk h1 hj hi) hty St (g := mkF K.2.1.2.1 pc L (x :: .int j :: .ref a :: st)) rfl rfl (hb O.2.1 hd)) (by rw [O.2.2.2.2.2.2.2.2.2.2.2.2.1]; exact ha) k
theorem w_static (O : Ok K l Z a0 ts B ml rt own nm R n0 Q) {i ml' wt cl' sl' : Nat} {y : MethodName} {B' : ByteArray} {rt' : Option FieldType} {rm : Room} {as S : List Value} {Qc : Option Value → Heap → Prop} {sg : MethodDescriptor} (hd : decode B pc = .ok (.invokestatic i, 3)) (hp : pc + 3 = pc') (w1 : Jvm.Cond.methodLink own i y ∈ ts) (w2 : Jvm.Cond.static y ∈ ts) (w3 : Jvm.Cond.initialized y.cls ∈ ts) (w4 : Jvm.Cond.code y B' ml' rt' ∈ ts) (hy : y.cls ≠ "java/lang/invoke/MethodHandle" ∧ y.cls ≠ "java/lang/invoke/VarHandle")
    (con : Con l Z y B' ml' rt' rm as h n0 Qc) (hS : S = as.reverse ++ st) (hsg : parseMethodDescriptor y.desc = some sg) (hlen : as.length = sg.parameters.length) (hwt : (st.map fun v => v.category).sum = wt) (hsz : L.size = ml) (hf : rm.frames + 1 ≤ R.frames) (hl : wt + (ml' + 11) + rm.locals ≤ R.locals) (hc : cl + rm.cells = cl') (hs : sl + rm.slots = sl') (hc' : cl' ≤ R.cells) (hs' : sl' ≤ R.slots) (k : ∀ v h', Qc v h' → W K h' cl' sl' pc' L (v.toList ++ st)) : W K h cl sl pc L S := by
  obtain ⟨⟨p, l', e', R'⟩, ⟨s, m, args, below⟩, ⟨meth, c⟩, Q', n0'⟩ := K
  obtain ⟨hx, hby, hml, hown, hnm, hrt, hlk, hZ, hw, hn0, hl', hR', hn', hQ'⟩ := O
  dsimp only at hx hby hml hown hnm hrt hlk hZ hn0 hl' hR' hn' hQ'
  subst hl' hR' hn' hQ'
  subst hp hc hs hS hml
  intro T locs X eT N
  have hn1 : n0' ≤ h.size := Nat.le_trans hn0 (by rw [← eT]; exact X.same.2.1)
  obtain ⟨_, _, ⟨T', L', k', n'⟩, -, X', ⟨Lc, ⟨hQ, hFr⟩, l1, y1, z1⟩, st1⟩ := Jvm.LawKit.callS X hx (y := y) hown (mvT hZ (hw _ w1)) (mvT hZ (hw _ w2)) (mvT hZ (hw _ w3)) (mvT hZ (hw _ w4)) hy (backOf (W := wt) (Q := fun v h L => Qc v h ∧ Fr n0' L) (con hn1 []) hZ (hw _ w4) (hw _ w3) hf hl) (g := mkF m pc L (as.reverse ++ st)) rfl hsz (argsL := as) (rest := st) (lenOf hsg hlen) rfl (by show 2 * 0 + _ ≤ _; omega) (hb hby hd) (fun _ _ => ⟨rfl, eT, hc', hs'⟩)
  dsimp only [Pt.U, Pt.locs, Pt.cells, Pt.slots] at X' l1 y1 z1 st1 hQ
  subst l1 y1 z1
  obtain ⟨s2, o, h1, r⟩ := k _ T'.heap hQ T' _ X' rfl (Fr.app N hFr)
  exact ⟨s2, o, st1 _ h1, r⟩
theorem w_virtual (O : Ok K l Z a0 ts B ml rt own nm R n0 Q) {i ml' wt cl' sl' : Nat} {y : MethodName} {B' : ByteArray} {rt' : Option FieldType} {rm : Room} {as S : List Value} {Qc : Option Value → Heap → Prop} {sg : MethodDescriptor} {a : Addr} {C : String} (hd : decode B pc = .ok (.invokevirtual i, 3)) (hp : pc + 3 = pc') (w1 : Jvm.Cond.methodLink own i y ∈ ts) (w2 : Jvm.Cond.declares y ∈ ts) (w3 : Jvm.Cond.selects C y y ∈ ts) (w4 : Jvm.Cond.instanceMethod y ∈ ts) (w5 : Jvm.Cond.code y B' ml' rt' ∈ ts) (w6 : Jvm.Cond.initialized y.cls ∈ ts) (hy : y.cls ≠ "java/lang/invoke/MethodHandle" ∧ y.cls ≠ "java/lang/invoke/VarHandle") (E : Exa Z h a C)
    (con : Con l Z y B' ml' rt' rm (.ref a :: as) h n0 Qc) (hS : S = as.reverse ++ .ref a :: st) (hsg : parseMethodDescriptor y.desc = some sg) (hlen : as.length = sg.parameters.length) (hwt : (st.map fun v => v.category).sum = wt) (hsz : L.size = ml) (hf : rm.frames + 1 ≤ R.frames) (hl : wt + (ml' + 11) + rm.locals ≤ R.locals) (hc : cl + rm.cells = cl') (hs : sl + rm.slots = sl') (hc' : cl' ≤ R.cells) (hs' : sl' ≤ R.slots) (k : ∀ v h', Qc v h' → W K h' cl' sl' pc' L (v.toList ++ st)) : W K h cl sl pc L S := by
  obtain ⟨⟨p, l', e', R'⟩, ⟨s, m, args, below⟩, ⟨meth, c⟩, Q', n0'⟩ := K
  obtain ⟨hx, hby, hml, hown, hnm, hrt, hlk, hZ, hw, hn0, hl', hR', hn', hQ'⟩ := O
  dsimp only at hx hby hml hown hnm hrt hlk hZ hn0 hl' hR' hn' hQ'
  subst hl' hR' hn' hQ'
  subst hp hc hs hS hml
  intro T locs X eT N
  have hn1 : n0' ≤ h.size := Nat.le_trans hn0 (by rw [← eT]; exact X.same.2.1)
  obtain ⟨cq, kq, qa, qb, qc⟩ := isOf hZ eT E
  obtain ⟨_, _, ⟨T', L', k', n'⟩, -, X', ⟨Lc, ⟨hQ, hFr⟩, l1, y1, z1⟩, st1⟩ := X.virtualBack hx (y := y) (z := y) hown (mvT hZ (hw _ w1)) (mvT hZ (hw _ w2)) (notFace_of_selects (args := #[]) (mvT hZ (hw _ w3))) (mvT hZ (hw _ w3)) (mvT hZ (hw _ w4)) hy (backOf (W := wt) (Q := fun v h L => Qc v h ∧ Fr n0' L) (con hn1 []) hZ (hw _ w5) (hw _ w6) hf hl) qa qc (g := mkF m pc L (as.reverse ++ .ref a :: st)) rfl hsz (Steps.refl _) (argsL := as) (rest := st) (lenOf hsg hlen) rfl (by show 2 * 0 + _ ≤ _; omega) (hb hby hd) (fun _ _ => ⟨rfl, eT, hc', hs'⟩)
  dsimp only [Pt.U, Pt.locs, Pt.cells, Pt.slots] at X' l1 y1 z1 st1 hQ
  subst l1 y1 z1
  obtain ⟨s2, o, h1, r⟩ := k _ T'.heap hQ T' _ X' rfl (Fr.app N hFr)
  exact ⟨s2, o, st1.trans h1, r⟩
theorem w_private (O : Ok K l Z a0 ts B ml rt own nm R n0 Q) {i ml' wt cl' sl' : Nat} {y : MethodName} {B' : ByteArray} {rt' : Option FieldType} {rm : Room} {as S : List Value} {Qc : Option Value → Heap → Prop} {sg : MethodDescriptor} {kk : Nat} {a : Addr} {C : String} (hd : decode B pc = .ok (.invokevirtual i, 3)) (hp : pc + 3 = pc') (w1 : Jvm.Cond.methodLink own i y ∈ ts) (w2 : Jvm.Cond.instanceMethod y ∈ ts) (w3 : Jvm.Cond.privateMethod y ∈ ts) (w4 : Jvm.Cond.instantiable y.cls kk ∈ ts) (w5 : Jvm.Cond.code y B' ml' rt' ∈ ts) (w6 : Jvm.Cond.initialized y.cls ∈ ts) (hy : y.cls ≠ "java/lang/invoke/MethodHandle" ∧ y.cls ≠ "java/lang/invoke/VarHandle") (E : Exa Z h a C)
    (con : Con l Z y B' ml' rt' rm (.ref a :: as) h n0 Qc) (hS : S = as.reverse ++ .ref a :: st) (hsg : parseMethodDescriptor y.desc = some sg) (hlen : as.length = sg.parameters.length) (hwt : (st.map fun v => v.category).sum = wt) (hsz : L.size = ml) (hf : rm.frames + 1 ≤ R.frames) (hl : wt + (ml' + 11) + rm.locals ≤ R.locals) (hc : cl + rm.cells = cl') (hs : sl + rm.slots = sl') (hc' : cl' ≤ R.cells) (hs' : sl' ≤ R.slots) (k : ∀ v h', Qc v h' → W K h' cl' sl' pc' L (v.toList ++ st)) : W K h cl sl pc L S := by
  obtain ⟨⟨p, l', e', R'⟩, ⟨s, m, args, below⟩, ⟨meth, c⟩, Q', n0'⟩ := K
  obtain ⟨hx, hby, hml, hown, hnm, hrt, hlk, hZ, hw, hn0, hl', hR', hn', hQ'⟩ := O
  dsimp only at hx hby hml hown hnm hrt hlk hZ hn0 hl' hR' hn' hQ'
  subst hl' hR' hn' hQ'
  subst hp hc hs hS hml
  intro T locs X eT N
  have hn1 : n0' ≤ h.size := Nat.le_trans hn0 (by rw [← eT]; exact X.same.2.1)
  obtain ⟨cq, q1, q2⟩ := E.cell
  have hpr : s.PrivateAt y := Cond.privateMethod_at (mvP hZ (hw _ w3) (args := #[]))
  have hsel : (Jvm.Cond.selects y.cls y y).before args s = true := by
    obtain ⟨c1, k1, g1, g2, -, g3, -⟩ := Cond.instantiable_spec (mvT (args := args) hZ (hw _ w4))
    exact selects_self_of_private g1 g2 (by simp at g3; exact g3.1) hpr (mvT hZ (hw _ w2)) hy
  obtain ⟨_, _, ⟨T', L', k', n'⟩, -, X', ⟨Lc, ⟨hQ, hFr⟩, l1, y1, z1⟩, st1⟩ := X.privateBack hx (y := y) hown (mvT hZ (hw _ w1)) (mvT hZ (hw _ w2)) hsel hpr (mvT hZ (hw _ w5)) hy (backOf (W := wt) (Q := fun v h L => Qc v h ∧ Fr n0' L) (con hn1 []) hZ (hw _ w5) (hw _ w6) hf hl) (g := mkF m pc L (as.reverse ++ .ref a :: st)) rfl hsz (Steps.refl _) (a := a) (by rw [eT]; exact q1) q2 (argsL := as) (rest := st) (lenOf hsg hlen) rfl (by show 2 * 0 + _ ≤ _; omega) (hb hby hd) (fun _ _ => ⟨rfl, eT, hc', hs'⟩)
  dsimp only [Pt.U, Pt.locs, Pt.cells, Pt.slots] at X' l1 y1 z1 st1 hQ
  subst l1 y1 z1
  obtain ⟨s2, o, h1, r⟩ := k _ T'.heap hQ T' _ X' rfl (Fr.app N hFr)
  exact ⟨s2, o, st1.trans h1, r⟩
theorem w_init (O : Ok K l Z a0 ts B ml rt own nm R n0 Q) {i ml' wt cl' sl' : Nat} {y : MethodName} {B' : ByteArray} {rm : Room} {as S : List Value} {Qc : Option Value → Heap → Prop} {sg : MethodDescriptor} {a : Addr} (hd : decode B pc = .ok (.invokespecial i, 3)) (hp : pc + 3 = pc') (hin : y.name = "<init>") (w1 : Jvm.Cond.methodLink own i y ∈ ts) (w2 : Jvm.Cond.instanceMethod y ∈ ts) (w3 : Jvm.Cond.initialized y.cls ∈ ts) (w4 : Jvm.Cond.code y B' ml' none ∈ ts) (hy : y.cls ≠ "java/lang/invoke/MethodHandle" ∧ y.cls ≠ "java/lang/invoke/VarHandle")
    (con : Con l Z y B' ml' none rm (.ref a :: as) h n0 Qc) (hS : S = as.reverse ++ .ref a :: st) (hsg : parseMethodDescriptor y.desc = some sg) (hlen : as.length = sg.parameters.length) (hwt : (st.map fun v => v.category).sum = wt) (hsz : L.size = ml) (hf : rm.frames + 1 ≤ R.frames) (hl : wt + (ml' + 11) + rm.locals ≤ R.locals) (hc : cl + rm.cells = cl') (hs : sl + rm.slots = sl') (hc' : cl' ≤ R.cells) (hs' : sl' ≤ R.slots) (k : ∀ v h', Qc v h' → W K h' cl' sl' pc' L (v.toList ++ st)) : W K h cl sl pc L S := by
  obtain ⟨⟨p, l', e', R'⟩, ⟨s, m, args, below⟩, ⟨meth, c⟩, Q', n0'⟩ := K
  obtain ⟨hx, hby, hml, hown, hnm, hrt, hlk, hZ, hw, hn0, hl', hR', hn', hQ'⟩ := O
  dsimp only at hx hby hml hown hnm hrt hlk hZ hn0 hl' hR' hn' hQ'
  subst hl' hR' hn' hQ'
  subst hp hc hs hS hml
  intro T locs X eT N
  have hn1 : n0' ≤ h.size := Nat.le_trans hn0 (by rw [← eT]; exact X.same.2.1)
  obtain ⟨_, _, ⟨T', L', k', n'⟩, -, X', ⟨Lc, ⟨hQ, hFr⟩, l1, y1, z1⟩, st1⟩ := X.specialBack hx (y := y) hin hown (mvT hZ (hw _ w1)) (mvT hZ (hw _ w2)) (mvT hZ (hw _ w4)) hy (backOf (W := wt) (Q := fun v h L => Qc v h ∧ Fr n0' L) (con hn1 []) hZ (hw _ w4) (hw _ w3) hf hl) (g := mkF m pc L (as.reverse ++ .ref a :: st)) rfl hsz (Steps.refl _) (a := a) (argsL := as) (rest := st) (lenOf hsg hlen) rfl (by show 2 * 0 + _ ≤ _; omega) (hb hby hd) (fun _ _ => ⟨rfl, eT, hc', hs'⟩)
  dsimp only [Pt.U, Pt.locs, Pt.cells, Pt.slots] at X' l1 y1 z1 st1 hQ
  subst l1 y1 z1
  obtain ⟨s2, o, h1, r⟩ := k _ T'.heap hQ T' _ X' rfl (Fr.app N hFr)
  exact ⟨s2, o, st1.trans h1, r⟩
theorem w_initB (O : Ok K l Z a0 ts B ml rt own nm R n0 Q) {i ml' wt cl' sl' rc rs : Nat} {y : MethodName} {B' : ByteArray} {as S : List Value} {Qc : Option Value → Heap → List Loc → Prop} {sg : MethodDescriptor} {a : Addr} (hd : decode B pc = .ok (.invokespecial i, 3)) (hp : pc + 3 = pc') (hin : y.name = "<init>") (w1 : Jvm.Cond.methodLink own i y ∈ ts) (w2 : Jvm.Cond.instanceMethod y ∈ ts) (w4 : Jvm.Cond.code y B' ml' none ∈ ts) (hy : y.cls ≠ "java/lang/invoke/MethodHandle" ∧ y.cls ≠ "java/lang/invoke/VarHandle")
    (bk : n0 ≤ h.size → ∀ (p : Program) (e : Env) (below : List Frame) (s : State) (args : Array Value), Z.Warmed39 s.vm → Back l R p e below s args y 3 wt (fun P a' => a' = (Value.ref a :: as).toArray ∧ P.U.heap = h ∧ P.cells + rc ≤ R.cells ∧ P.slots + rs ≤ R.slots) (fun P _ v B => ∃ L, Qc v B.U.heap L ∧ B.locs = P.locs ++ L ∧ B.cells = P.cells + rc ∧ B.slots = P.slots + rs)) (hfr : ∀ v h' L, Qc v h' L → Fr n0 L)
    (hS : S = as.reverse ++ .ref a :: st) (hsg : parseMethodDescriptor y.desc = some sg) (hlen : as.length = sg.parameters.length) (hwt : (st.map fun v => v.category).sum = wt) (hsz : L.size = ml) (hc : cl + rc = cl') (hs : sl + rs = sl') (hc' : cl' ≤ R.cells) (hs' : sl' ≤ R.slots) (k : ∀ v h' Ls, Qc v h' Ls → W K h' cl' sl' pc' L (v.toList ++ st)) : W K h cl sl pc L S := by
  obtain ⟨⟨p, l', e', R'⟩, ⟨s, m, args, below⟩, ⟨meth, c⟩, Q', n0'⟩ := K
  obtain ⟨hx, hby, hml, hown, hnm, hrt, hlk, hZ, hw, hn0, hl', hR', hn', hQ'⟩ := O
  dsimp only at hx hby hml hown hnm hrt hlk hZ hn0 hl' hR' hn' hQ'
  subst hl' hR' hn' hQ'
  subst hp hc hs hS hml
  intro T locs X eT N
  have hn1 : n0' ≤ h.size := Nat.le_trans hn0 (by rw [← eT]; exact X.same.2.1)
  obtain ⟨_, _, ⟨T', L', k', n'⟩, -, X', ⟨Lc, hQ, l1, y1, z1⟩, st1⟩ := X.specialBack hx (y := y) hin hown (mvT hZ (hw _ w1)) (mvT hZ (hw _ w2)) (mvT hZ (hw _ w4)) hy (bk hn1 p e' below s args hZ) (g := mkF m pc L (as.reverse ++ .ref a :: st)) rfl hsz (Steps.refl _) (a := a) (argsL := as) (rest := st) (lenOf hsg hlen) rfl (by show 2 * 0 + _ ≤ _; omega) (hb hby hd) (fun _ _ => ⟨rfl, eT, hc', hs'⟩)
  dsimp only [Pt.U, Pt.locs, Pt.cells, Pt.slots] at X' l1 y1 z1 st1 hQ
  subst l1 y1 z1
  obtain ⟨s2, o, h1, r⟩ := k _ T'.heap _ hQ T' _ X' rfl (Fr.app N (hfr _ _ _ hQ))
  exact ⟨s2, o, st1.trans h1, r⟩
theorem Afn.arv {a : Addr} {ty : FieldType} {n : Nat} {f : Nat → Value} {N : Int32} {vs : List Value} {d : Value} (A : Afn Z h a ty n f) (hN : N.toInt = (n : Int)) (hv : ∀ i, i < n → vs.getD i d = f i) (hf : ∀ i, i < n → fits ty (f i) = true) : ∃ k, Arv Z h a k ty N vs d := by
  obtain ⟨c, A, h1, h2, h3⟩ := A
  refine ⟨c.cls, c, A, rfl, by rw [h1, (tnc hN).1], (tnc hN).2, fun i hi => ?_, fun i hi => ?_⟩
  · rw [h1] at hi; rw [hv i hi]; exact h3 i hi
  · rw [h1] at hi; rw [hv i hi]; exact hf i hi
theorem w_reti {x : Int32} (O : Ok K l Z a0 ts B ml (some .int) own nm R n0 Q) (hd : decode B pc = .ok (.ireturn, 1)) (hc : cl ≤ R.cells) (hs : sl ≤ R.slots) (hq : Q (some (.int x)) h) : W K h cl sl pc L (.int x :: st) := by
  obtain ⟨⟨p, l', e', R'⟩, ⟨s, m, args, below⟩, ⟨meth, c⟩, Q', n0'⟩ := K
  obtain ⟨hx, hby, hml, hown, hnm, hrt, hlk, hZ, hw, hn0, hl', hR', hn', hQ'⟩ := O
  dsimp only at hx hby hml hown hnm hrt hlk hZ hn0 hl' hR' hn' hQ'
  subst hl' hR' hn' hQ'
  intro T locs X eT N
  obtain ⟨fs, hr, hrun, hended, hW, hsame⟩ := X.leave (v := some (.int x)) (fun q => by rw [hrt] at q; cases q) hlk
  refine ⟨_, _, retOut X hx hrt rfl (Or.inl ⟨rfl, Or.inl rfl, _, rfl⟩) (hb hby hd) hr, hrun, hended, _, _, rfl, ⟨?_, N⟩, ⟨_, rfl⟩, hW, hsame.mono hc hs⟩
  show Q' _ T.heap
  rw [eT]; exact hq
theorem w_retz {x : Int32} (O : Ok K l Z a0 ts B ml (some .boolean) own nm R n0 Q) (hd : decode B pc = .ok (.ireturn, 1)) (hc : cl ≤ R.cells) (hs : sl ≤ R.slots) (hz : x = 0 ∨ x = 1) (hq : Q (some (.int x)) h) : W K h cl sl pc L (.int x :: st) := by
  have hna : narrow .boolean (.int x) = .int x := by rcases hz with rfl | rfl <;> rfl
  obtain ⟨⟨p, l', e', R'⟩, ⟨s, m, args, below⟩, ⟨meth, c⟩, Q', n0'⟩ := K
  obtain ⟨hx, hby, hml, hown, hnm, hrt, hlk, hZ, hw, hn0, hl', hR', hn', hQ'⟩ := O
  dsimp only at hx hby hml hown hnm hrt hlk hZ hn0 hl' hR' hn' hQ'
  subst hl' hR' hn' hQ'
  intro T locs X eT N
  obtain ⟨fs, hr, hrun, hended, hW, hsame⟩ := X.leave (v := some (.int x)) (fun q => by rw [hrt] at q; cases q) hlk
  refine ⟨_, _, retOut X hx hrt hna (Or.inl ⟨rfl, Or.inr (Or.inl rfl), _, rfl⟩) (hb hby hd) hr, hrun, hended, _, _, rfl, ⟨?_, N⟩, ⟨_, rfl⟩, hW, hsame.mono hc hs⟩
  show Q' _ T.heap
  rw [eT]; exact hq
theorem w_retl {x : Int64} (O : Ok K l Z a0 ts B ml (some .long) own nm R n0 Q) (hd : decode B pc = .ok (.lreturn, 1)) (hc : cl ≤ R.cells) (hs : sl ≤ R.slots) (hq : Q (some (.long x)) h) : W K h cl sl pc L (.long x :: st) := by
  obtain ⟨⟨p, l', e', R'⟩, ⟨s, m, args, below⟩, ⟨meth, c⟩, Q', n0'⟩ := K
  obtain ⟨hx, hby, hml, hown, hnm, hrt, hlk, hZ, hw, hn0, hl', hR', hn', hQ'⟩ := O
  dsimp only at hx hby hml hown hnm hrt hlk hZ hn0 hl' hR' hn' hQ'
  subst hl' hR' hn' hQ'
  intro T locs X eT N
  obtain ⟨fs, hr, hrun, hended, hW, hsame⟩ := X.leave (v := some (.long x)) (fun q => by rw [hrt] at q; cases q) hlk
  refine ⟨_, _, retOut X hx hrt rfl (Or.inr (Or.inl ⟨rfl, rfl, _, rfl⟩)) (hb hby hd) hr, hrun, hended, _, _, rfl, ⟨?_, N⟩, ⟨_, rfl⟩, hW, hsame.mono hc hs⟩
  show Q' _ T.heap
  rw [eT]; exact hq
theorem w_reta {x : Value} {t : FieldType} (O : Ok K l Z a0 ts B ml (some t) own nm R n0 Q) (hd : decode B pc = .ok (.areturn, 1)) (ht : t.isReference = true) (hna : narrow t x = x) (hx' : x.isRef = true) (hc : cl ≤ R.cells) (hs : sl ≤ R.slots) (hq : Q (some x) h) : W K h cl sl pc L (x :: st) := by
  obtain ⟨⟨p, l', e', R'⟩, ⟨s, m, args, below⟩, ⟨meth, c⟩, Q', n0'⟩ := K
  obtain ⟨hx, hby, hml, hown, hnm, hrt, hlk, hZ, hw, hn0, hl', hR', hn', hQ'⟩ := O
  dsimp only at hx hby hml hown hnm hrt hlk hZ hn0 hl' hR' hn' hQ'
  subst hl' hR' hn' hQ'
  intro T locs X eT N
  obtain ⟨fs, hr, hrun, hended, hW, hsame⟩ := X.leave (v := some x) (fun q => by rw [hrt] at q; cases q) hlk
  refine ⟨_, _, retOut X hx hrt hna (Or.inr (Or.inr (Or.inr (Or.inr ⟨rfl, ht, hx'⟩)))) (hb hby hd) hr, hrun, hended, _, _, rfl, ⟨?_, N⟩, ⟨_, rfl⟩, hW, hsame.mono hc hs⟩
  show Q' _ T.heap
  rw [eT]; exact hq
theorem w_retv (O : Ok K l Z a0 ts B ml none own nm R n0 Q) (hd : decode B pc = .ok (.return_, 1)) (hc : cl ≤ R.cells) (hs : sl ≤ R.slots) (hq : Q none h) : W K h cl sl pc L [] := by
  obtain ⟨⟨p, l', e', R'⟩, ⟨s, m, args, below⟩, ⟨meth, c⟩, Q', n0'⟩ := K
  obtain ⟨hx, hby, hml, hown, hnm, hrt, hlk, hZ, hw, hn0, hl', hR', hn', hQ'⟩ := O
  dsimp only at hx hby hml hown hnm hrt hlk hZ hn0 hl' hR' hn' hQ'
  subst hl' hR' hn' hQ'
  intro T locs X eT N
  obtain ⟨fs, hr, hrun, hended, hW, hsame⟩ := X.leave (v := none) (fun _ => rfl) hlk
  refine ⟨_, _, X.returnOut hx hrt (hb hby hd) hr, hrun, hended, _, _, rfl, ⟨?_, N⟩, ⟨_, rfl⟩, hW, hsame.mono hc hs⟩
  show Q' _ T.heap
  rw [eT]; exact hq
theorem nz32 {y : Int32} (q : ¬ y.toInt = 0) : y ≠ 0 := by rintro rfl; exact q (by decide)
theorem nz64 {y : Int64} (q : ¬ y.toInt = 0) : y ≠ 0 := by rintro rfl; exact q (by decide)
theorem of_nat32 {q : Int32} {n : Nat} (hn : q.toInt = (n : Int)) : q = Int32.ofNat n := by
  have h1 := rng32 q
  apply Int32.toInt_inj.mp
  rw [hn, Int32.toInt_ofNat_of_lt (by omega)]
theorem c_lremP (x y : Int64) (d : Int) (hy : y.toInt = d) : (0 ≤ x.toInt → (x % y).toInt = x.toInt % d) ∧ (x.toInt < 0 → (x % y).toInt = -((-x.toInt) % d)) := by rw [← lrem_mod]; exact c_lrem x y d hy
end OwnW

theorem mw {d : Jvm.Cond} (k : Nat) (q : tables_1[k]? = some d) : d ∈ tables_1 := List.mem_of_getElem? q
def updI (g : Nat → Int32) (i : Nat) (v : Int32) : Nat → Int32 := fun j => if j = i then v else g j
theorem updI_eq (g : Nat → Int32) (i : Nat) (v : Int32) (j : Nat) : upd (fun j => .int (g j)) i (.int v) j = .int (updI g i v j) := by unfold upd updI; split <;> rfl
def cntB (g : Nat → Int32) : Nat → Nat
  | 0 => 0
  | k + 1 => cntB g k + if (g k).toInt < 0 then 0 else 1
theorem cntB_le (g : Nat → Int32) : ∀ k, cntB g k ≤ k
  | 0 => Nat.le_refl _
  | k + 1 => by have := cntB_le g k; rw [cntB]; split <;> omega
theorem cntB_mono (g : Nat → Int32) (k : Nat) : ∀ d, cntB g k ≤ cntB g (k + d)
  | 0 => Nat.le_refl _
  | d + 1 => by have := cntB_mono g k d; rw [show k + (d + 1) = (k + d) + 1 by omega, cntB]; split <;> omega
theorem cntB_lt (g : Nat → Int32) {k n : Nat} (h : k < n) (q : ¬ (g k).toInt < 0) : cntB g k < cntB g n := by
  have h1 := cntB_mono g (k + 1) (n - (k + 1))
  rw [show k + 1 + (n - (k + 1)) = n by omega] at h1
  have h2 : cntB g (k + 1) = cntB g k + 1 := by rw [cntB, if_neg q]
  omega
/-- (position, gap, shift) behind the first k bytes -/
def dsB (g : Nat → Int32) : Nat → Int32 × Int32 × Int32
  | 0 => (-1, 0, 0)
  | k + 1 => if (g k).toInt < 0 then ((dsB g k).1, (dsB g k).2.1 ||| ((g k &&& 127) <<< ((dsB g k).2.2 &&& 31)), (dsB g k).2.2 + 7) else ((dsB g k).1 + (((dsB g k).2.1 ||| ((g k &&& 127) <<< ((dsB g k).2.2 &&& 31))) + 1), 0, 0)
/-- what is decoded behind the first k bytes -/
def outB (g : Nat → Int32) : Nat → Nat → Int32
  | 0 => fun _ => 0
  | k + 1 => if (g k).toInt < 0 then outB g k else updI (outB g k) (cntB g k) (dsB g (k + 1)).1
theorem d5_0 : decode prog_24_method_8_code 0 = .ok (.iconst 0, 1) := by decide +kernel
theorem d5_1 : decode prog_24_method_8_code 1 = .ok (.istore_n 1, 1) := by decide +kernel
theorem d5_2 : decode prog_24_method_8_code 2 = .ok (.aload_n 0, 1) := by decide +kernel
theorem d5_3 : decode prog_24_method_8_code 3 = .ok (.astore_n 2, 1) := by decide +kernel
theorem d5_4 : decode prog_24_method_8_code 4 = .ok (.aload_n 2, 1) := by decide +kernel
theorem d5_5 : decode prog_24_method_8_code 5 = .ok (.arraylength, 1) := by decide +kernel
theorem d5_6 : decode prog_24_method_8_code 6 = .ok (.istore_n 3, 1) := by decide +kernel
theorem d5_7 : decode prog_24_method_8_code 7 = .ok (.iconst 0, 1) := by decide +kernel
theorem d5_8 : decode prog_24_method_8_code 8 = .ok (.istore 4, 2) := by decide +kernel
theorem d5_10 : decode prog_24_method_8_code 10 = .ok (.iload 4, 2) := by decide +kernel
theorem d5_12 : decode prog_24_method_8_code 12 = .ok (.iload_n 3, 1) := by decide +kernel
theorem d5_13 : decode prog_24_method_8_code 13 = .ok (.if_icmp .ge 23, 3) := by decide +kernel
theorem d5_16 : decode prog_24_method_8_code 16 = .ok (.aload_n 2, 1) := by decide +kernel
theorem d5_17 : decode prog_24_method_8_code 17 = .ok (.iload 4, 2) := by decide +kernel
theorem d5_19 : decode prog_24_method_8_code 19 = .ok (.baload, 1) := by decide +kernel
theorem d5_20 : decode prog_24_method_8_code 20 = .ok (.istore 5, 2) := by decide +kernel
theorem d5_22 : decode prog_24_method_8_code 22 = .ok (.iload 5, 2) := by decide +kernel
theorem d5_24 : decode prog_24_method_8_code 24 = .ok (.ifCond .lt 6, 3) := by decide +kernel
theorem d5_27 : decode prog_24_method_8_code 27 = .ok (.iinc 1 1, 3) := by decide +kernel
theorem d5_30 : decode prog_24_method_8_code 30 = .ok (.iinc 4 1, 3) := by decide +kernel
theorem d5_33 : decode prog_24_method_8_code 33 = .ok (.goto (-23), 3) := by decide +kernel
theorem d5_36 : decode prog_24_method_8_code 36 = .ok (.iload_n 1, 1) := by decide +kernel
theorem d5_37 : decode prog_24_method_8_code 37 = .ok (.ireturn, 1) := by decide +kernel
theorem pn_5 : plainFor (⟨"com/example/acrawl/acrawl/store/Records", "countPositions", "([B)I"⟩ : MethodName) = true := plainFor_of_name (by first | (simp [plainName, overriddenIn]; done) | decide +kernel)
set_option maxRecDepth 65536 in
set_option maxHeartbeats 40000000 in
theorem con_count (l : Launch) (Z : State) (a0 : Array Value) (hw : ∀ d ∈ tables_1, d.before a0 Z = true) (w : Addr) (h0 : Heap) (n0 : Nat) (n : Nat) (g : Nat → Int32) (A0 : Afn Z h0 w .byte n (fun j => .int (g j))) (z : Int32) (hz : z.toInt = (n : Int)) :
    Con l Z (⟨"com/example/acrawl/acrawl/store/Records", "countPositions", "([B)I"⟩ : MethodName) prog_24_method_8_code 6 (some .int) ⟨0, 0, 0, 0⟩ [(.ref w)] h0 n0 (RetI fun r h => h = h0 ∧ r.toInt = (cntB g n : Int)) := by
  refine Con.body (L0 := #[.val (.ref w), .unset, .unset, .unset, .unset, .unset]) hw pn_5 (fun m => by first | (simp [entryFrame, mkF, argsToLocals, Value.category]; done) | rfl) (fun K O => ?_)
  have hb := A0.bound
  have loop : ∀ (d k : Nat) (i t : Int32) (s5 : Slot), i.toInt = (k : Int) → k + d = n → t.toInt = (cntB g k : Int) → (s5 = .unset ∨ ∃ y, s5 = .val (.int y)) → W K h0 0 0 10 #[.val (.ref w), .val (.int t), .val (.ref w), .val (.int z), .val (.int i), s5] [] := by
    intro d
    induction d with
    | zero =>
      intro k i t s5 hi hk ht h5
      have hck := cntB_le g k
      refine w_iload O d5_10 (pc' := 12) rfl rfl ?_
      refine w_iloadN O d5_12 (pc' := 13) rfl rfl ?_
      refine w_icmp_ge O d5_13 (pn := 16) (pt := 36) rfl (by decide) rfl (fun c13 => ?_) (fun c13 => absurd (show i.toInt < z.toInt from c13) (by omega))
      refine w_iloadN O d5_36 (pc' := 37) rfl rfl ?_
      refine w_reti O d5_37 (by decide) (by decide) ?_
      have hkn : k = n := by omega
      subst hkn
      exact ⟨_, rfl, rfl, ht⟩
    | succ d ih =>
      intro k i t s5 hi hk ht h5
      have hck := cntB_le g k
      refine w_iload O d5_10 (pc' := 12) rfl rfl ?_
      refine w_iloadN O d5_12 (pc' := 13) rfl rfl ?_
      refine w_icmp_ge O d5_13 (pn := 16) (pt := 36) rfl (by decide) rfl (fun c13 => absurd (show ¬ i.toInt < z.toInt from c13) (by omega)) (fun c13 => ?_)
      refine w_aloadN O d5_16 (pc' := 17) rfl rfl rfl ?_
      refine w_iload O d5_17 (pc' := 19) rfl rfl ?_
      refine w_baload O d5_19 (i := k) (x := (g k)) (pc' := 20) rfl A0 hi (by omega) rfl ?_
      refine w_istoreG O d5_20 (L' := fun zq => #[.val (.ref w), .val (.int t), .val (.ref w), .val (.int z), .val (.int i), .val (.int zq)]) (pc' := 22) rfl (fun _ => by rcases h5 with rfl | ⟨y, rfl⟩ <;> rfl) (fun y e_y => ?_)
      refine w_iload O d5_22 (pc' := 24) rfl rfl ?_
      refine w_if_lt O d5_24 (pn := 27) (pt := 30) rfl (by decide) rfl (fun c24 => ?_) (fun c24 => ?_)
      · replace c24 : y.toInt < 0 := c24
        refine w_iincG O d5_30 (y := (1 : Int32)) (L' := fun zq => #[.val (.ref w), .val (.int t), .val (.ref w), .val (.int z), .val (.int zq), .val (.int y)]) (pc' := 33) rfl rfl rfl (fun _ => rfl) (fun i' e_i' => ?_)
        have i3 : ((i + (1 : Int32)).toInt - (i.toInt + 1)) % 4294967296 = 0 := c_iadd i (1 : Int32)
        have i4 := rng32 (i + (1 : Int32))
        have j_i' := congrArg Int32.toInt e_i'
        refine w_goto O d5_33 (pc' := 10) (by decide) rfl ?_
        refine ih (k + 1) i' t _ (by omega) (by omega) ?_ (Or.inr ⟨_, rfl⟩)
        rw [cntB, ← e_y]
        split <;> omega
      · replace c24 : ¬ y.toInt < 0 := c24
        refine w_iincG O d5_27 (y := (1 : Int32)) (L' := fun zq => #[.val (.ref w), .val (.int zq), .val (.ref w), .val (.int z), .val (.int i), .val (.int y)]) (pc' := 30) rfl rfl rfl (fun _ => rfl) (fun t' e_t' => ?_)
        have i6 : ((t + (1 : Int32)).toInt - (t.toInt + 1)) % 4294967296 = 0 := c_iadd t (1 : Int32)
        have i7 := rng32 (t + (1 : Int32))
        have j_t' := congrArg Int32.toInt e_t'
        refine w_iincG O d5_30 (y := (1 : Int32)) (L' := fun zq => #[.val (.ref w), .val (.int t'), .val (.ref w), .val (.int z), .val (.int zq), .val (.int y)]) (pc' := 33) rfl rfl rfl (fun _ => rfl) (fun i' e_i' => ?_)
        have i9 : ((i + (1 : Int32)).toInt - (i.toInt + 1)) % 4294967296 = 0 := c_iadd i (1 : Int32)
        have i10 := rng32 (i + (1 : Int32))
        have j_i' := congrArg Int32.toInt e_i'
        refine w_goto O d5_33 (pc' := 10) (by decide) rfl ?_
        refine ih (k + 1) i' t' _ (by omega) (by omega) ?_ (Or.inr ⟨_, rfl⟩)
        rw [cntB, ← e_y]
        split <;> omega
  refine w_iconst O d5_0 (z := (0 : Int32)) (pc' := 1) rfl rfl ?_
  refine w_istoreN O d5_1 (L' := #[.val (.ref w), .val (.int (0 : Int32)), .unset, .unset, .unset, .unset]) (pc' := 2) rfl rfl ?_
  refine w_aloadN O d5_2 (pc' := 3) rfl rfl rfl ?_
  refine w_astoreN O d5_3 (L' := #[.val (.ref w), .val (.int (0 : Int32)), .val (.ref w), .unset, .unset, .unset]) (pc' := 4) rfl rfl rfl ?_
  refine w_aloadN O d5_4 (pc' := 5) rfl rfl rfl ?_
  refine w_alen O d5_5 (z := z) (pc' := 6) rfl A0 hz ?_
  refine w_istoreN O d5_6 (L' := #[.val (.ref w), .val (.int (0 : Int32)), .val (.ref w), .val (.int z), .unset, .unset]) (pc' := 7) rfl rfl ?_
  refine w_iconst O d5_7 (z := (0 : Int32)) (pc' := 8) rfl rfl ?_
  refine w_istore O d5_8 (L' := #[.val (.ref w), .val (.int (0 : Int32)), .val (.ref w), .val (.int z), .val (.int (0 : Int32)), .unset]) (pc' := 10) rfl rfl ?_
  exact loop n 0 _ _ _ (by decide) (by omega) rfl (Or.inl rfl)
theorem d8_0 : decode prog_24_method_7_code 0 = .ok (.aload_n 0, 1) := by decide +kernel
theorem d8_1 : decode prog_24_method_7_code 1 = .ok (.invokestatic 91, 3) := by decide +kernel
theorem d8_4 : decode prog_24_method_7_code 4 = .ok (.newarray .int, 2) := by decide +kernel
theorem d8_6 : decode prog_24_method_7_code 6 = .ok (.astore_n 1, 1) := by decide +kernel
theorem d8_7 : decode prog_24_method_7_code 7 = .ok (.iconst (-1), 1) := by decide +kernel
theorem d8_8 : decode prog_24_method_7_code 8 = .ok (.istore_n 2, 1) := by decide +kernel
theorem d8_9 : decode prog_24_method_7_code 9 = .ok (.iconst 0, 1) := by decide +kernel
theorem d8_10 : decode prog_24_method_7_code 10 = .ok (.istore_n 3, 1) := by decide +kernel
theorem d8_11 : decode prog_24_method_7_code 11 = .ok (.iconst 0, 1) := by decide +kernel
theorem d8_12 : decode prog_24_method_7_code 12 = .ok (.istore 4, 2) := by decide +kernel
theorem d8_14 : decode prog_24_method_7_code 14 = .ok (.iconst 0, 1) := by decide +kernel
theorem d8_15 : decode prog_24_method_7_code 15 = .ok (.istore 5, 2) := by decide +kernel
theorem d8_17 : decode prog_24_method_7_code 17 = .ok (.aload_n 0, 1) := by decide +kernel
theorem d8_18 : decode prog_24_method_7_code 18 = .ok (.astore 6, 2) := by decide +kernel
theorem d8_20 : decode prog_24_method_7_code 20 = .ok (.aload 6, 2) := by decide +kernel
theorem d8_22 : decode prog_24_method_7_code 22 = .ok (.arraylength, 1) := by decide +kernel
theorem d8_23 : decode prog_24_method_7_code 23 = .ok (.istore 7, 2) := by decide +kernel
theorem d8_25 : decode prog_24_method_7_code 25 = .ok (.iconst 0, 1) := by decide +kernel
theorem d8_26 : decode prog_24_method_7_code 26 = .ok (.istore 8, 2) := by decide +kernel
theorem d8_28 : decode prog_24_method_7_code 28 = .ok (.iload 8, 2) := by decide +kernel
theorem d8_30 : decode prog_24_method_7_code 30 = .ok (.iload 7, 2) := by decide +kernel
theorem d8_32 : decode prog_24_method_7_code 32 = .ok (.if_icmp .ge 57, 3) := by decide +kernel
theorem d8_35 : decode prog_24_method_7_code 35 = .ok (.aload 6, 2) := by decide +kernel
theorem d8_37 : decode prog_24_method_7_code 37 = .ok (.iload 8, 2) := by decide +kernel
theorem d8_39 : decode prog_24_method_7_code 39 = .ok (.baload, 1) := by decide +kernel
theorem d8_40 : decode prog_24_method_7_code 40 = .ok (.istore 9, 2) := by decide +kernel
theorem d8_42 : decode prog_24_method_7_code 42 = .ok (.iload_n 3, 1) := by decide +kernel
theorem d8_43 : decode prog_24_method_7_code 43 = .ok (.iload 9, 2) := by decide +kernel
theorem d8_45 : decode prog_24_method_7_code 45 = .ok (.bipush 127, 2) := by decide +kernel
theorem d8_47 : decode prog_24_method_7_code 47 = .ok (.iand, 1) := by decide +kernel
theorem d8_48 : decode prog_24_method_7_code 48 = .ok (.iload 4, 2) := by decide +kernel
theorem d8_50 : decode prog_24_method_7_code 50 = .ok (.ishl, 1) := by decide +kernel
theorem d8_51 : decode prog_24_method_7_code 51 = .ok (.ior, 1) := by decide +kernel
theorem d8_52 : decode prog_24_method_7_code 52 = .ok (.istore_n 3, 1) := by decide +kernel
theorem d8_53 : decode prog_24_method_7_code 53 = .ok (.iload 9, 2) := by decide +kernel
theorem d8_55 : decode prog_24_method_7_code 55 = .ok (.ifCond .ge 9, 3) := by decide +kernel
theorem d8_58 : decode prog_24_method_7_code 58 = .ok (.iinc 4 7, 3) := by decide +kernel
theorem d8_61 : decode prog_24_method_7_code 61 = .ok (.goto 22, 3) := by decide +kernel
theorem d8_64 : decode prog_24_method_7_code 64 = .ok (.iload_n 2, 1) := by decide +kernel
theorem d8_65 : decode prog_24_method_7_code 65 = .ok (.iload_n 3, 1) := by decide +kernel
theorem d8_66 : decode prog_24_method_7_code 66 = .ok (.iconst 1, 1) := by decide +kernel
theorem d8_67 : decode prog_24_method_7_code 67 = .ok (.iadd, 1) := by decide +kernel
theorem d8_68 : decode prog_24_method_7_code 68 = .ok (.iadd, 1) := by decide +kernel
theorem d8_69 : decode prog_24_method_7_code 69 = .ok (.istore_n 2, 1) := by decide +kernel
theorem d8_70 : decode prog_24_method_7_code 70 = .ok (.aload_n 1, 1) := by decide +kernel
theorem d8_71 : decode prog_24_method_7_code 71 = .ok (.iload 5, 2) := by decide +kernel
theorem d8_73 : decode prog_24_method_7_code 73 = .ok (.iinc 5 1, 3) := by decide +kernel
theorem d8_76 : decode prog_24_method_7_code 76 = .ok (.iload_n 2, 1) := by decide +kernel
theorem d8_77 : decode prog_24_method_7_code 77 = .ok (.iastore, 1) := by decide +kernel
theorem d8_78 : decode prog_24_method_7_code 78 = .ok (.iconst 0, 1) := by decide +kernel
theorem d8_79 : decode prog_24_method_7_code 79 = .ok (.istore_n 3, 1) := by decide +kernel
theorem d8_80 : decode prog_24_method_7_code 80 = .ok (.iconst 0, 1) := by decide +kernel
theorem d8_81 : decode prog_24_method_7_code 81 = .ok (.istore 4, 2) := by decide +kernel
theorem d8_83 : decode prog_24_method_7_code 83 = .ok (.iinc 8 1, 3) := by decide +kernel
theorem d8_86 : decode prog_24_method_7_code 86 = .ok (.goto (-58), 3) := by decide +kernel
theorem d8_89 : decode prog_24_method_7_code 89 = .ok (.aload_n 1, 1) := by decide +kernel
theorem d8_90 : decode prog_24_method_7_code 90 = .ok (.areturn, 1) := by decide +kernel
theorem pn_8 : plainFor (⟨"com/example/acrawl/acrawl/store/Records", "decodePositions", "([B)[I"⟩ : MethodName) = true := plainFor_of_name (by first | (simp [plainName, overriddenIn]; done) | decide +kernel)
theorem pd_0 : parseMethodDescriptor "([B)I" = some ⟨[(.array .byte)], some .int⟩ := by decide +kernel
set_option maxRecDepth 65536 in
set_option maxHeartbeats 40000000 in
theorem con_dec (l : Launch) (Z : State) (a0 : Array Value) (hw : ∀ d ∈ tables_1, d.before a0 Z = true) (w : Addr) (h0 : Heap) (n0 : Nat) (n : Nat) (g : Nat → Int32) (A0 : Afn Z h0 w .byte n (fun j => .int (g j))) (z : Int32) (hz : z.toInt = (n : Int)) (hcap : n ≤ 7) :
    Con l Z (⟨"com/example/acrawl/acrawl/store/Records", "decodePositions", "([B)[I"⟩ : MethodName) prog_24_method_7_code 10 (some (.array .int)) ⟨1, 1, 7, 17⟩ [(.ref w)] h0 n0 (RetA fun v h => ∃ b, v = .ref b ∧ Keep h0 h [] ∧ h0.size ≤ b ∧ n0 ≤ b ∧ Afn Z h b .int (cntB g n) (fun j => .int (outB g n j)) ∧ Exa Z h b "[I") := by
  refine Con.body (L0 := #[.val (.ref w), .unset, .unset, .unset, .unset, .unset, .unset, .unset, .unset, .unset]) hw pn_8 (fun m => by first | (simp [entryFrame, mkF, argsToLocals, Value.category]; done) | rfl) (fun K O => ?_)
  have hb := A0.bound
  have hcn := cntB_le g n
  have loop : ∀ (b : Addr), w ≠ b → n0 ≤ b → h0.size ≤ b → ∀ (d k : Nat) (i ps gp sh ct : Int32) (s9 : Slot) (h : Heap), i.toInt = (k : Int) → k + d = n → (ps, gp, sh) = dsB g k → ct.toInt = (cntB g k : Int) → Afn Z h b .int (cntB g n) (fun j => .int (outB g k j)) → Exa Z h b "[I" → Afn Z h w .byte n (fun j => .int (g j)) → Keep h0 h [] → (s9 = .unset ∨ ∃ y, s9 = .val (.int y)) → W K h 1 7 28 #[.val (.ref w), .val (.ref b), .val (.int ps), .val (.int gp), .val (.int sh), .val (.int ct), .val (.ref w), .val (.int z), .val (.int i), s9] [] := by
    intro b nwb gb hbz d
    induction d with
    | zero =>
      intro k i ps gp sh ct s9 h hi hk hds hct Ab Eb A Kp h9
      have hck := cntB_le g k
      refine w_iload O d8_28 (pc' := 30) rfl rfl ?_
      refine w_iload O d8_30 (pc' := 32) rfl rfl ?_
      refine w_icmp_ge O d8_32 (pn := 35) (pt := 89) rfl (by decide) rfl (fun c32 => ?_) (fun c32 => absurd (show i.toInt < z.toInt from c32) (by omega))
      refine w_aloadN O d8_89 (pc' := 90) rfl rfl rfl ?_
      refine w_reta O d8_90 rfl rfl rfl (by decide) (by decide) ?_
      have hkn : k = n := by omega
      subst hkn
      exact ⟨_, rfl, rfl, b, rfl, Kp, hbz, gb, Ab, Eb⟩
    | succ d ih =>
      intro k i ps gp sh ct s9 h hi hk hds hct Ab Eb A Kp h9
      have hck := cntB_le g k
      refine w_iload O d8_28 (pc' := 30) rfl rfl ?_
      refine w_iload O d8_30 (pc' := 32) rfl rfl ?_
      refine w_icmp_ge O d8_32 (pn := 35) (pt := 89) rfl (by decide) rfl (fun c32 => absurd (show ¬ i.toInt < z.toInt from c32) (by omega)) (fun c32 => ?_)
      refine w_aload O d8_35 (pc' := 37) rfl rfl rfl ?_
      refine w_iload O d8_37 (pc' := 39) rfl rfl ?_
      refine w_baload O d8_39 (i := k) (x := (g k)) (pc' := 40) rfl A hi (by omega) rfl ?_
      refine w_istoreG O d8_40 (L' := fun zq => #[.val (.ref w), .val (.ref b), .val (.int ps), .val (.int gp), .val (.int sh), .val (.int ct), .val (.ref w), .val (.int z), .val (.int i), .val (.int zq)]) (pc' := 42) rfl (fun _ => by rcases h9 with rfl | ⟨y, rfl⟩ <;> rfl) (fun y e_y => ?_)
      refine w_iloadN O d8_42 (pc' := 43) rfl rfl ?_
      refine w_iload O d8_43 (pc' := 45) rfl rfl ?_
      refine w_bipush O d8_45 (z := (127 : Int32)) (pc' := 47) rfl rfl ?_
      refine w_iand O d8_47 (pc' := 48) rfl ?_
      refine w_iload O d8_48 (pc' := 50) rfl rfl ?_
      refine w_ishl O d8_50 (pc' := 51) rfl ?_
      refine w_ior O d8_51 (pc' := 52) rfl ?_
      refine w_istoreNG O d8_52 (L' := fun zq => #[.val (.ref w), .val (.ref b), .val (.int ps), .val (.int zq), .val (.int sh), .val (.int ct), .val (.ref w), .val (.int z), .val (.int i), .val (.int y)]) (pc' := 53) rfl (fun _ => rfl) (fun gp' e_gp' => ?_)
      refine w_iload O d8_53 (pc' := 55) rfl rfl ?_
      refine w_if_ge O d8_55 (pn := 58) (pt := 64) rfl (by decide) rfl (fun c55 => ?_) (fun c55 => ?_)
      · replace c55 : ¬ y.toInt < 0 := c55
        refine w_iloadN O d8_64 (pc' := 65) rfl rfl ?_
        refine w_iloadN O d8_65 (pc' := 66) rfl rfl ?_
        refine w_iconst O d8_66 (z := (1 : Int32)) (pc' := 67) rfl rfl ?_
        refine w_iadd O d8_67 (pc' := 68) rfl ?_
        refine w_iadd O d8_68 (pc' := 69) rfl ?_
        refine w_istoreNG O d8_69 (L' := fun zq => #[.val (.ref w), .val (.ref b), .val (.int zq), .val (.int gp'), .val (.int sh), .val (.int ct), .val (.ref w), .val (.int z), .val (.int i), .val (.int y)]) (pc' := 70) rfl (fun _ => rfl) (fun ps' e_ps' => ?_)
        refine w_aloadN O d8_70 (pc' := 71) rfl rfl rfl ?_
        refine w_iload O d8_71 (pc' := 73) rfl rfl ?_
        refine w_iincG O d8_73 (y := (1 : Int32)) (L' := fun zq => #[.val (.ref w), .val (.ref b), .val (.int ps'), .val (.int gp'), .val (.int sh), .val (.int zq), .val (.ref w), .val (.int z), .val (.int i), .val (.int y)]) (pc' := 76) rfl rfl rfl (fun _ => rfl) (fun ct' e_ct' => ?_)
        have i5 : ((ct + (1 : Int32)).toInt - (ct.toInt + 1)) % 4294967296 = 0 := c_iadd ct (1 : Int32)
        have i6 := rng32 (ct + (1 : Int32))
        have j_ct' := congrArg Int32.toInt e_ct'
        refine w_iloadN O d8_76 (pc' := 77) rfl rfl ?_
        have hlt := cntB_lt g (show k < n by omega) (by rw [← e_y]; exact c55)
        have hcn := cntB_le g n
        refine w_iastore O d8_77 (i := (cntB g k)) (pc' := 78) rfl Ab hct hlt gb (fun h7 Wh7 => ?_)
        have A_h7 := A.other Wh7 nwb
        have Ab_h7 := Ab.set Wh7
        have Eb_h7 := Eb.wr Wh7
        refine w_iconst O d8_78 (z := (0 : Int32)) (pc' := 79) rfl rfl ?_
        refine w_istoreN O d8_79 (L' := #[.val (.ref w), .val (.ref b), .val (.int ps'), .val (.int (0 : Int32)), .val (.int sh), .val (.int ct'), .val (.ref w), .val (.int z), .val (.int i), .val (.int y)]) (pc' := 80) rfl rfl ?_
        refine w_iconst O d8_80 (z := (0 : Int32)) (pc' := 81) rfl rfl ?_
        refine w_istore O d8_81 (L' := #[.val (.ref w), .val (.ref b), .val (.int ps'), .val (.int (0 : Int32)), .val (.int (0 : Int32)), .val (.int ct'), .val (.ref w), .val (.int z), .val (.int i), .val (.int y)]) (pc' := 83) rfl rfl ?_
        refine w_iincG O d8_83 (y := (1 : Int32)) (L' := fun zq => #[.val (.ref w), .val (.ref b), .val (.int ps'), .val (.int (0 : Int32)), .val (.int (0 : Int32)), .val (.int ct'), .val (.ref w), .val (.int z), .val (.int zq), .val (.int y)]) (pc' := 86) rfl rfl rfl (fun _ => rfl) (fun i' e_i' => ?_)
        have i9 : ((i + (1 : Int32)).toInt - (i.toInt + 1)) % 4294967296 = 0 := c_iadd i (1 : Int32)
        have i10 := rng32 (i + (1 : Int32))
        have j_i' := congrArg Int32.toInt e_i'
        refine w_goto O d8_86 (pc' := 28) (by decide) rfl ?_
        have eq1 : ¬ (g k).toInt < 0 := by rw [← e_y]; omega
        have hds' : dsB g (k + 1) = (ps', 0, 0) := by rw [dsB, if_neg eq1, ← hds, e_ps', e_gp', e_y]
        refine ih (k + 1) i' _ _ _ _ _ _ (by omega) (by omega) hds'.symm ?_ (Ab_h7.congr fun j hj => ?_) Eb_h7 A_h7 (Kp.wr Wh7 (Or.inr hbz)) (Or.inr ⟨_, rfl⟩)
        · rw [cntB, if_neg eq1]; omega
        · rw [outB, if_neg eq1, hds']; exact updI_eq _ _ _ _
      · replace c55 : y.toInt < 0 := c55
        refine w_iincG O d8_58 (y := (7 : Int32)) (L' := fun zq => #[.val (.ref w), .val (.ref b), .val (.int ps), .val (.int gp'), .val (.int zq), .val (.int ct), .val (.ref w), .val (.int z), .val (.int i), .val (.int y)]) (pc' := 61) rfl rfl rfl (fun _ => rfl) (fun sh' e_sh' => ?_)
        have i12 : ((sh + (7 : Int32)).toInt - (sh.toInt + 7)) % 4294967296 = 0 := c_iadd sh (7 : Int32)
        have i13 := rng32 (sh + (7 : Int32))
        have j_sh' := congrArg Int32.toInt e_sh'
        refine w_goto O d8_61 (pc' := 83) (by decide) rfl ?_
        refine w_iincG O d8_83 (y := (1 : Int32)) (L' := fun zq => #[.val (.ref w), .val (.ref b), .val (.int ps), .val (.int gp'), .val (.int sh'), .val (.int ct), .val (.ref w), .val (.int z), .val (.int zq), .val (.int y)]) (pc' := 86) rfl rfl rfl (fun _ => rfl) (fun i' e_i' => ?_)
        have i15 : ((i + (1 : Int32)).toInt - (i.toInt + 1)) % 4294967296 = 0 := c_iadd i (1 : Int32)
        have i16 := rng32 (i + (1 : Int32))
        have j_i' := congrArg Int32.toInt e_i'
        refine w_goto O d8_86 (pc' := 28) (by decide) rfl ?_
        have eq1 : (g k).toInt < 0 := by rw [← e_y]; omega
        refine ih (k + 1) i' _ _ _ _ _ _ (by omega) (by omega) ?_ ?_ (Ab.congr fun j hj => ?_) Eb A Kp (Or.inr ⟨_, rfl⟩)
        · rw [dsB, if_pos eq1, ← hds, e_gp', e_sh', e_y]
        · rw [cntB, if_pos eq1]; exact hct
        · rw [outB, if_pos eq1]
  refine w_aloadN O d8_0 (pc' := 1) rfl rfl rfl ?_
  refine w_static O d8_1 (as := [(.ref w)]) (st := []) (wt := 0) (cl' := 0) (sl' := 0) (pc' := 4) rfl (mw 41 rfl) (mw 26 rfl) (mw 27 rfl) (mw 28 rfl) (by decide) (con_count l Z a0 hw w h0 n0 n g A0 z hz) rfl pd_0 rfl rfl rfl (by decide) (by decide) rfl rfl (by decide) (by decide) (cI fun rc _ ⟨qrc, src⟩ => ?_)
  rw [qrc]
  refine w_newarrE O d8_4 (ty := .int) (ad := "[I") (dv := (.int (0 : Int32))) (n := (cntB g n)) (cap := 7) (cl' := 1) (sl' := 7) (pc' := 6) rfl rfl rfl rfl (mw 42 rfl) src (by omega) (by decide) rfl rfl (by decide) (by decide) (fun h1 b qb g_b Eh1 A_b E_b => ?_)
  have ne_w_b : w ≠ b := Nat.ne_of_lt (by rw [qb]; exact A0.lt)
  have A0_h1 := A0.ext Eh1
  refine w_astoreN O d8_6 (L' := #[.val (.ref w), .val (.ref b), .unset, .unset, .unset, .unset, .unset, .unset, .unset, .unset]) (pc' := 7) rfl rfl rfl ?_
  refine w_iconst O d8_7 (z := (-1 : Int32)) (pc' := 8) rfl rfl ?_
  refine w_istoreN O d8_8 (L' := #[.val (.ref w), .val (.ref b), .val (.int (-1 : Int32)), .unset, .unset, .unset, .unset, .unset, .unset, .unset]) (pc' := 9) rfl rfl ?_
  refine w_iconst O d8_9 (z := (0 : Int32)) (pc' := 10) rfl rfl ?_
  refine w_istoreN O d8_10 (L' := #[.val (.ref w), .val (.ref b), .val (.int (-1 : Int32)), .val (.int (0 : Int32)), .unset, .unset, .unset, .unset, .unset, .unset]) (pc' := 11) rfl rfl ?_
  refine w_iconst O d8_11 (z := (0 : Int32)) (pc' := 12) rfl rfl ?_
  refine w_istore O d8_12 (L' := #[.val (.ref w), .val (.ref b), .val (.int (-1 : Int32)), .val (.int (0 : Int32)), .val (.int (0 : Int32)), .unset, .unset, .unset, .unset, .unset]) (pc' := 14) rfl rfl ?_
  refine w_iconst O d8_14 (z := (0 : Int32)) (pc' := 15) rfl rfl ?_
  refine w_istore O d8_15 (L' := #[.val (.ref w), .val (.ref b), .val (.int (-1 : Int32)), .val (.int (0 : Int32)), .val (.int (0 : Int32)), .val (.int (0 : Int32)), .unset, .unset, .unset, .unset]) (pc' := 17) rfl rfl ?_
  refine w_aloadN O d8_17 (pc' := 18) rfl rfl rfl ?_
  refine w_astore O d8_18 (L' := #[.val (.ref w), .val (.ref b), .val (.int (-1 : Int32)), .val (.int (0 : Int32)), .val (.int (0 : Int32)), .val (.int (0 : Int32)), .val (.ref w), .unset, .unset, .unset]) (pc' := 20) rfl rfl rfl ?_
  refine w_aload O d8_20 (pc' := 22) rfl rfl rfl ?_
  refine w_alen O d8_22 (z := z) (pc' := 23) rfl A0_h1 hz ?_
  refine w_istore O d8_23 (L' := #[.val (.ref w), .val (.ref b), .val (.int (-1 : Int32)), .val (.int (0 : Int32)), .val (.int (0 : Int32)), .val (.int (0 : Int32)), .val (.ref w), .val (.int z), .unset, .unset]) (pc' := 25) rfl rfl ?_
  refine w_iconst O d8_25 (z := (0 : Int32)) (pc' := 26) rfl rfl ?_
  refine w_istore O d8_26 (L' := #[.val (.ref w), .val (.ref b), .val (.int (-1 : Int32)), .val (.int (0 : Int32)), .val (.int (0 : Int32)), .val (.int (0 : Int32)), .val (.ref w), .val (.int z), .val (.int (0 : Int32)), .unset]) (pc' := 28) rfl rfl ?_
  exact loop b ne_w_b g_b (by omega) n 0 _ _ _ _ _ _ _ (by decide) (by omega) rfl rfl (A_b.congr fun j hj => rfl) E_b A0_h1 ((Keep.refl h0 []).ext Eh1) (Or.inl rfl)
def Ps0 (Z : State) (h : Heap) (n0 : Nat) (a b : Addr) (n : Nat) (g : Nat → Int32) : Prop := Exa Z h a "com/example/acrawl/acrawl/store/Posting" ∧ Fld Z h a "com/example/acrawl/acrawl/store/Posting" "stored" "[B" (.ref b) ∧ Fld Z h a "com/example/acrawl/acrawl/store/Posting" "positions" "[I" .null ∧ Afn Z h b .byte n (fun j => .int (g j)) ∧ a ≠ b ∧ n0 ≤ a
def Ps1 (Z : State) (h : Heap) (n0 : Nat) (a q : Addr) (n : Nat) (g : Nat → Int32) : Prop := Exa Z h a "com/example/acrawl/acrawl/store/Posting" ∧ Fld Z h a "com/example/acrawl/acrawl/store/Posting" "positions" "[I" (.ref q) ∧ Afn Z h q .int (cntB g n) (fun j => .int (outB g n j)) ∧ Exa Z h q "[I" ∧ a ≠ q ∧ n0 ≤ a
theorem d2_0 : decode prog_22_method_1_code 0 = .ok (.aload_n 0, 1) := by decide +kernel
theorem d2_1 : decode prog_22_method_1_code 1 = .ok (.invokespecial 1, 3) := by decide +kernel
theorem d2_4 : decode prog_22_method_1_code 4 = .ok (.aload_n 0, 1) := by decide +kernel
theorem d2_5 : decode prog_22_method_1_code 5 = .ok (.iload_n 1, 1) := by decide +kernel
theorem d2_6 : decode prog_22_method_1_code 6 = .ok (.putfield 7, 3) := by decide +kernel
theorem d2_9 : decode prog_22_method_1_code 9 = .ok (.aload_n 0, 1) := by decide +kernel
theorem d2_10 : decode prog_22_method_1_code 10 = .ok (.aload_n 2, 1) := by decide +kernel
theorem d2_11 : decode prog_22_method_1_code 11 = .ok (.putfield 13, 3) := by decide +kernel
theorem d2_14 : decode prog_22_method_1_code 14 = .ok (.return_, 1) := by decide +kernel
theorem pn_2 : plainFor (⟨"com/example/acrawl/acrawl/store/Posting", "<init>", "(I[B)V"⟩ : MethodName) = true := plainFor_of_name (by first | (simp [plainName, overriddenIn]; done) | decide +kernel)
set_option maxRecDepth 65536 in
set_option maxHeartbeats 40000000 in
theorem con_init (l : Launch) (Z : State) (a0 : Array Value) (hw : ∀ d ∈ tables_1, d.before a0 Z = true) (a : Addr) (i : Int32) (b : Addr) (h0 : Heap) (n0 : Nat) (n : Nat) (g : Nat → Int32) (hE : Exa Z h0 a "com/example/acrawl/acrawl/store/Posting") (hI : Fld Z h0 a "com/example/acrawl/acrawl/store/Posting" "pageId" "I" (.int (0 : Int32))) (hS : Fld Z h0 a "com/example/acrawl/acrawl/store/Posting" "stored" "[B" .null) (hP : Fld Z h0 a "com/example/acrawl/acrawl/store/Posting" "positions" "[I" .null) (hB : Afn Z h0 b .byte n (fun j => .int (g j))) (nab : a ≠ b) (ga : n0 ≤ a) :
    Con l Z (⟨"com/example/acrawl/acrawl/store/Posting", "<init>", "(I[B)V"⟩ : MethodName) prog_22_method_1_code 3 none ⟨1, 0, 0, 12⟩ [(.ref a), (.int i), (.ref b)] h0 n0 (RetV fun h => Ps0 Z h n0 a b n g) := by
  refine Con.body (L0 := #[.val (.ref a), .val (.int i), .val (.ref b)]) hw pn_2 (fun m => by first | (simp [entryFrame, mkF, argsToLocals, Value.category]; done) | rfl) (fun K O => ?_)
  refine w_aloadN O d2_0 (pc' := 1) rfl rfl rfl ?_
  refine w_objinit O d2_1 (wt := 0) (pc' := 4) rfl (mw 11 rfl) (mw 12 rfl) (mw 13 rfl) rfl rfl (by decide) (by decide) ?_
  refine w_aloadN O d2_4 (pc' := 5) rfl rfl rfl ?_
  refine w_iloadN O d2_5 (pc' := 6) rfl rfl ?_
  refine w_putf O d2_6 (pc' := 9) rfl (mw 14 rfl) (mw 6 rfl) (Or.inr ⟨(mw 15 rfl), rfl, rfl⟩) hI hE ga (ty := .int) (by decide) rfl rfl (fun h1 Wh1 => ?_)
  have hE_h1 := hE.wr Wh1
  have hI_h1 := Fld.same Wh1 hI
  have hS_h1 := Fld.other Wh1 hS (Or.inr (Jvm.RoadKit.slot_ne (Or.inr (O.2.2.2.2.2.2.2.2.1 _ (mw 17 rfl))) (Or.inr (O.2.2.2.2.2.2.2.2.1 _ (mw 15 rfl))) (by decide) (t := (.array .byte)) (t' := .int) (by decide) (by decide)))
  have hP_h1 := Fld.other Wh1 hP (Or.inr (Jvm.RoadKit.slot_ne (Or.inl (O.2.2.2.2.2.2.2.2.1 _ (mw 24 rfl))) (Or.inr (O.2.2.2.2.2.2.2.2.1 _ (mw 15 rfl))) (by decide) (t := (.array .int)) (t' := .int) (by decide) (by decide)))
  have hB_h1 := hB.other Wh1 (Ne.symm nab)
  refine w_aloadN O d2_9 (pc' := 10) rfl rfl rfl ?_
  refine w_aloadN O d2_10 (pc' := 11) rfl rfl rfl ?_
  refine w_putf O d2_11 (pc' := 14) rfl (mw 16 rfl) (mw 6 rfl) (Or.inr ⟨(mw 17 rfl), rfl, rfl⟩) hS_h1 hE_h1 ga (ty := (.array .byte)) (by decide) rfl rfl (fun h2 Wh2 => ?_)
  have hE_h2 := hE_h1.wr Wh2
  have hI_h2 := Fld.other Wh2 hI_h1 (Or.inr (Jvm.RoadKit.slot_ne (Or.inr (O.2.2.2.2.2.2.2.2.1 _ (mw 15 rfl))) (Or.inr (O.2.2.2.2.2.2.2.2.1 _ (mw 17 rfl))) (by decide) (t := .int) (t' := (.array .byte)) (by decide) (by decide)))
  have hS_h2 := Fld.same Wh2 hS_h1
  have hP_h2 := Fld.other Wh2 hP_h1 (Or.inr (Jvm.RoadKit.slot_ne (Or.inl (O.2.2.2.2.2.2.2.2.1 _ (mw 24 rfl))) (Or.inr (O.2.2.2.2.2.2.2.2.1 _ (mw 17 rfl))) (by decide) (t := (.array .int)) (t' := (.array .byte)) (by decide) (by decide)))
  have hB_h2 := hB_h1.other Wh2 (Ne.symm nab)
  refine w_retv O d2_14 (by decide) (by decide) ?_
  exact ⟨rfl, ⟨hE_h2, hS_h2, hP_h2, hB_h2, nab, ga⟩⟩
theorem d4_0 : decode prog_22_method_3_code 0 = .ok (.aload_n 0, 1) := by decide +kernel
theorem d4_1 : decode prog_22_method_3_code 1 = .ok (.getfield 17, 3) := by decide +kernel
theorem d4_4 : decode prog_22_method_3_code 4 = .ok (.ifnonnull 13, 3) := by decide +kernel
theorem d4_7 : decode prog_22_method_3_code 7 = .ok (.aload_n 0, 1) := by decide +kernel
theorem d4_8 : decode prog_22_method_3_code 8 = .ok (.getfield 13, 3) := by decide +kernel
theorem d4_11 : decode prog_22_method_3_code 11 = .ok (.invokestatic 21, 3) := by decide +kernel
theorem d4_14 : decode prog_22_method_3_code 14 = .ok (.goto 8, 3) := by decide +kernel
theorem d4_17 : decode prog_22_method_3_code 17 = .ok (.aload_n 0, 1) := by decide +kernel
theorem d4_18 : decode prog_22_method_3_code 18 = .ok (.getfield 17, 3) := by decide +kernel
theorem d4_21 : decode prog_22_method_3_code 21 = .ok (.arraylength, 1) := by decide +kernel
theorem d4_22 : decode prog_22_method_3_code 22 = .ok (.ireturn, 1) := by decide +kernel
theorem pn_4 : plainFor (⟨"com/example/acrawl/acrawl/store/Posting", "termFrequency", "()I"⟩ : MethodName) = true := plainFor_of_name (by first | (simp [plainName, overriddenIn]; done) | decide +kernel)
set_option maxRecDepth 65536 in
set_option maxHeartbeats 40000000 in
theorem con_tf0 (l : Launch) (Z : State) (a0 : Array Value) (hw : ∀ d ∈ tables_1, d.before a0 Z = true) (a : Addr) (h0 : Heap) (n0 : Nat) (b : Addr) (n : Nat) (g : Nat → Int32) (S : Ps0 Z h0 n0 a b n g) (z : Int32) (hz : z.toInt = (n : Int)) :
    Con l Z (⟨"com/example/acrawl/acrawl/store/Posting", "termFrequency", "()I"⟩ : MethodName) prog_22_method_3_code 1 (some .int) ⟨1, 0, 0, 17⟩ [(.ref a)] h0 n0 (RetI fun r h => h = h0 ∧ r.toInt = (cntB g n : Int)) := by
  refine Con.body (L0 := #[.val (.ref a)]) hw pn_4 (fun m => by first | (simp [entryFrame, mkF, argsToLocals, Value.category]; done) | rfl) (fun K O => ?_)
  obtain ⟨hE, hS, hP, hB, nab, ga⟩ := S
  refine w_aloadN O d4_0 (pc' := 1) rfl rfl rfl ?_
  refine w_getf O d4_1 (pc' := 4) rfl (mw 23 rfl) hP ?_
  refine w_ifnonnullN O d4_4 (pc' := 7) rfl ?_
  refine w_aloadN O d4_7 (pc' := 8) rfl rfl rfl ?_
  refine w_getf O d4_8 (pc' := 11) rfl (mw 16 rfl) hS ?_
  refine w_static O d4_11 (as := [(.ref b)]) (st := []) (wt := 0) (cl' := 0) (sl' := 0) (pc' := 14) rfl (mw 25 rfl) (mw 26 rfl) (mw 27 rfl) (mw 28 rfl) (by decide) (con_count l Z a0 hw b h0 n0 n g hB z hz) rfl pd_0 rfl rfl rfl (by decide) (by decide) rfl rfl (by decide) (by decide) (cI fun rc _ ⟨qrc, src⟩ => ?_)
  rw [qrc]
  refine w_goto O d4_14 (pc' := 22) (by decide) rfl ?_
  refine w_reti O d4_22 (by decide) (by decide) ?_
  exact ⟨_, rfl, rfl, src⟩
set_option maxRecDepth 65536 in
set_option maxHeartbeats 40000000 in
theorem con_tf1 (l : Launch) (Z : State) (a0 : Array Value) (hw : ∀ d ∈ tables_1, d.before a0 Z = true) (a : Addr) (h0 : Heap) (n0 : Nat) (q : Addr) (n : Nat) (g : Nat → Int32) (S : Ps1 Z h0 n0 a q n g) (z : Int32) (hz : z.toInt = (cntB g n : Int)) :
    Con l Z (⟨"com/example/acrawl/acrawl/store/Posting", "termFrequency", "()I"⟩ : MethodName) prog_22_method_3_code 1 (some .int) ⟨1, 0, 0, 17⟩ [(.ref a)] h0 n0 (RetI fun r h => h = h0 ∧ r.toInt = (cntB g n : Int)) := by
  refine Con.body (L0 := #[.val (.ref a)]) hw pn_4 (fun m => by first | (simp [entryFrame, mkF, argsToLocals, Value.category]; done) | rfl) (fun K O => ?_)
  obtain ⟨hE, hP, hQ, hEq, naq, ga⟩ := S
  refine w_aloadN O d4_0 (pc' := 1) rfl rfl rfl ?_
  refine w_getf O d4_1 (pc' := 4) rfl (mw 23 rfl) hP ?_
  refine w_ifnonnullY O d4_4 (pc' := 17) (by decide) rfl ?_
  refine w_aloadN O d4_17 (pc' := 18) rfl rfl rfl ?_
  refine w_getf O d4_18 (pc' := 21) rfl (mw 23 rfl) hP ?_
  refine w_alen O d4_21 (z := z) (pc' := 22) rfl hQ hz ?_
  refine w_reti O d4_22 (by decide) (by decide) ?_
  exact ⟨_, rfl, rfl, hz⟩
theorem d7_0 : decode prog_22_method_6_code 0 = .ok (.aload_n 0, 1) := by decide +kernel
theorem d7_1 : decode prog_22_method_6_code 1 = .ok (.getfield 17, 3) := by decide +kernel
theorem d7_4 : decode prog_22_method_6_code 4 = .ok (.ifnonnull 14, 3) := by decide +kernel
theorem d7_7 : decode prog_22_method_6_code 7 = .ok (.aload_n 0, 1) := by decide +kernel
theorem d7_8 : decode prog_22_method_6_code 8 = .ok (.aload_n 0, 1) := by decide +kernel
theorem d7_9 : decode prog_22_method_6_code 9 = .ok (.getfield 13, 3) := by decide +kernel
theorem d7_12 : decode prog_22_method_6_code 12 = .ok (.invokestatic 42, 3) := by decide +kernel
theorem d7_15 : decode prog_22_method_6_code 15 = .ok (.putfield 17, 3) := by decide +kernel
theorem d7_18 : decode prog_22_method_6_code 18 = .ok (.aload_n 0, 1) := by decide +kernel
theorem d7_19 : decode prog_22_method_6_code 19 = .ok (.getfield 17, 3) := by decide +kernel
theorem d7_22 : decode prog_22_method_6_code 22 = .ok (.areturn, 1) := by decide +kernel
theorem pn_7 : plainFor (⟨"com/example/acrawl/acrawl/store/Posting", "decoded", "()[I"⟩ : MethodName) = true := plainFor_of_name (by first | (simp [plainName, overriddenIn]; done) | decide +kernel)
theorem pd_1 : parseMethodDescriptor "([B)[I" = some ⟨[(.array .byte)], some (.array .int)⟩ := by decide +kernel
set_option maxRecDepth 65536 in
set_option maxHeartbeats 40000000 in
theorem con_decd (l : Launch) (Z : State) (a0 : Array Value) (hw : ∀ d ∈ tables_1, d.before a0 Z = true) (a : Addr) (h0 : Heap) (n0 : Nat) (b : Addr) (n : Nat) (g : Nat → Int32) (S : Ps0 Z h0 n0 a b n g) (z : Int32) (hz : z.toInt = (n : Int)) (h7 : n ≤ 7) :
    Con l Z (⟨"com/example/acrawl/acrawl/store/Posting", "decoded", "()[I"⟩ : MethodName) prog_22_method_6_code 1 (some (.array .int)) ⟨2, 1, 7, 39⟩ [(.ref a)] h0 n0 (RetA fun v h => ∃ q, v = .ref q ∧ Ps1 Z h n0 a q n g) := by
  refine Con.body (L0 := #[.val (.ref a)]) hw pn_7 (fun m => by first | (simp [entryFrame, mkF, argsToLocals, Value.category]; done) | rfl) (fun K O => ?_)
  obtain ⟨hE, hS, hP, hB, nab, ga⟩ := S
  refine w_aloadN O d7_0 (pc' := 1) rfl rfl rfl ?_
  refine w_getf O d7_1 (pc' := 4) rfl (mw 23 rfl) hP ?_
  refine w_ifnonnullN O d7_4 (pc' := 7) rfl ?_
  refine w_aloadN O d7_7 (pc' := 8) rfl rfl rfl ?_
  refine w_aloadN O d7_8 (pc' := 9) rfl rfl rfl ?_
  refine w_getf O d7_9 (pc' := 12) rfl (mw 16 rfl) hS ?_
  refine w_static O d7_12 (as := [(.ref b)]) (st := [(.ref a)]) (wt := 1) (cl' := 1) (sl' := 7) (pc' := 15) rfl (mw 38 rfl) (mw 39 rfl) (mw 27 rfl) (mw 40 rfl) (by decide) (con_dec l Z a0 hw b h0 n0 n g hB z hz h7) rfl pd_1 rfl rfl rfl (by decide) (by decide) rfl rfl (by decide) (by decide) (cA fun v h1 hv ⟨q, ev, Kp, hq0, gq, Aq, Eq⟩ => ?_)
  subst ev
  have ne_a_q : a ≠ q := Nat.ne_of_lt (Nat.lt_of_lt_of_le hE.lt hq0)
  have ne_b_q : b ≠ q := Nat.ne_of_lt (Nat.lt_of_lt_of_le hB.lt hq0)
  have hE_h1 := hE.keep Kp
  have hS_h1 := hS.keep Kp nin0
  have hP_h1 := hP.keep Kp nin0
  have hB_h1 := hB.keep Kp nin0
  refine w_putf O d7_15 (pc' := 18) rfl (mw 23 rfl) (mw 6 rfl) (Or.inl (mw 24 rfl)) hP_h1 hE_h1 ga (ty := (.array .int)) (by decide) rfl rfl (fun h2 Wh2 => ?_)
  have hE_h2 := hE_h1.wr Wh2
  have hS_h2 := Fld.other Wh2 hS_h1 (Or.inr (Jvm.RoadKit.slot_ne (Or.inr (O.2.2.2.2.2.2.2.2.1 _ (mw 17 rfl))) (Or.inl (O.2.2.2.2.2.2.2.2.1 _ (mw 24 rfl))) (by decide) (t := (.array .byte)) (t' := (.array .int)) (by decide) (by decide)))
  have hP_h2 := Fld.same Wh2 hP_h1
  have hB_h2 := hB_h1.other Wh2 (Ne.symm nab)
  have Aq_h2 := Aq.other Wh2 (Ne.symm ne_a_q)
  have Eq_h2 := Eq.wr Wh2
  refine w_aloadN O d7_18 (pc' := 19) rfl rfl rfl ?_
  refine w_getf O d7_19 (pc' := 22) rfl (mw 23 rfl) hP_h2 ?_
  refine w_reta O d7_22 rfl rfl rfl (by decide) (by decide) ?_
  exact ⟨_, rfl, rfl, q, rfl, hE_h2, hP_h2, Aq_h2, Eq_h2, ne_a_q, ga⟩
theorem Ps1.ext {Z : State} {h h' : Heap} {n0 : Nat} {a q : Addr} {n : Nat} {g : Nat → Int32} (S : Ps1 Z h n0 a q n g) (E : Ext h h') : Ps1 Z h' n0 a q n g := ⟨Exa.ext E S.1, Fld.ext E S.2.1, S.2.2.1.ext E, Exa.ext E S.2.2.2.1, S.2.2.2.2⟩
theorem d6_0 : decode prog_22_method_4_code 0 = .ok (.aload_n 0, 1) := by decide +kernel
theorem d6_1 : decode prog_22_method_4_code 1 = .ok (.invokevirtual 27, 3) := by decide +kernel
theorem d6_4 : decode prog_22_method_4_code 4 = .ok (.invokevirtual 31, 3) := by decide +kernel
theorem d6_7 : decode prog_22_method_4_code 7 = .ok (.checkcast 32, 3) := by decide +kernel
theorem d6_10 : decode prog_22_method_4_code 10 = .ok (.areturn, 1) := by decide +kernel
theorem pn_6 : plainFor (⟨"com/example/acrawl/acrawl/store/Posting", "positions", "()[I"⟩ : MethodName) = true := plainFor_of_name (by first | (simp [plainName, overriddenIn]; done) | decide +kernel)
theorem pd_2 : parseMethodDescriptor "()[I" = some ⟨[], some (.array .int)⟩ := by decide +kernel
set_option maxRecDepth 65536 in
set_option maxHeartbeats 40000000 in
theorem con_pos (l : Launch) (Z : State) (a0 : Array Value) (hw : ∀ d ∈ tables_1, d.before a0 Z = true) (a : Addr) (h0 : Heap) (n0 : Nat) (b : Addr) (n : Nat) (g : Nat → Int32) (S : Ps0 Z h0 n0 a b n g) (z : Int32) (hz : z.toInt = (n : Int)) (h7 : n ≤ 7) :
    Con l Z (⟨"com/example/acrawl/acrawl/store/Posting", "positions", "()[I"⟩ : MethodName) prog_22_method_4_code 1 (some (.array .int)) ⟨3, 2, 14, 51⟩ [(.ref a)] h0 n0 (RetA fun v h => ∃ r q, v = .ref r ∧ Ps1 Z h n0 a q n g ∧ Afn Z h r .int (cntB g n) (fun j => .int (outB g n j))) := by
  refine Con.body (L0 := #[.val (.ref a)]) hw pn_6 (fun m => by first | (simp [entryFrame, mkF, argsToLocals, Value.category]; done) | rfl) (fun K O => ?_)
  refine w_aloadN O d6_0 (pc' := 1) rfl rfl rfl ?_
  refine w_private O d6_1 (as := []) (st := []) (wt := 0) (cl' := 1) (sl' := 7) (pc' := 4) rfl (mw 34 rfl) (mw 35 rfl) (mw 36 rfl) (mw 6 rfl) (mw 37 rfl) (mw 7 rfl) (by decide) S.1 (con_decd l Z a0 hw a h0 n0 b n g S z hz h7) rfl pd_2 rfl rfl rfl (by decide) (by decide) rfl rfl (by decide) (by decide) (cA fun v h1 hv ⟨q, ev, P1⟩ => ?_)
  subst ev
  refine w_clone O d6_4 (st := []) (wt := 0) (cap := 7) (cl' := 2) (sl' := 14) (pc' := 7) rfl (mw 43 rfl) (mw 44 rfl) (mw 48 rfl) (mw 46 rfl) (mw 47 rfl) (mw 49 rfl) P1.2.2.1 P1.2.2.2.1 (fun _ _ => rfl) rfl rfl (by decide) (by decide) (Nat.le_trans (cntB_le g n) h7) rfl rfl (by decide) (by decide) (fun h2 r qr g_r Eh2 A_r E_r => ?_)
  have ne_a_r : a ≠ r := Nat.ne_of_lt (by rw [qr]; exact P1.1.lt)
  have ne_q_r : q ≠ r := Nat.ne_of_lt (by rw [qr]; exact P1.2.2.1.lt)
  have F4_h2 := Exa.ext Eh2 P1.1
  have F5_h2 := P1.2.2.1.ext Eh2
  have F6_h2 := Exa.ext Eh2 P1.2.2.2.1
  have P1_h2 := Ps1.ext P1 Eh2
  refine w_cast O d6_7 (pc' := 10) rfl (mw 50 rfl) (Ins.self E_r) ?_
  refine w_reta O d6_10 rfl rfl rfl (by decide) (by decide) ?_
  exact ⟨_, rfl, rfl, r, q, rfl, P1_h2, A_r⟩
def bt (q : Int64) (i : Int32) : Int32 := ((q.toUInt64 >>> (((8 : Int32) * i) &&& 0x3f).toInt64.toUInt64).toInt64).toInt32.toInt8.toInt32
theorem bt0 (q : Int64) : bt q 0 = q.toInt32.toInt8.toInt32 := by
  have e : ((((8 : Int32) * 0) &&& 0x3f).toInt64.toUInt64) = 0 := by decide
  unfold bt; rw [e]; simp
theorem nar_b (y : Int32) : nar .byte (y.toInt8.toInt32) = y.toInt8.toInt32 := by
  show (y.toInt8.toInt32).toInt8.toInt32 = _
  simp
def EndN (n i : Nat) (b r : Int32) : Prop := r.toInt = if i < n ∧ ¬ b.toInt < 0 then 1 else 0
def EndB (q : Int64) (n i : Int) (b r : Int32) : Prop := r.toInt = if i < n ∧ ¬ b.toInt < 0 then 1 else 0
theorem own_seven (g : Nat → Int32) (n : Nat) (hn : n ≤ 7) (x0 x1 x2 x3 x4 x5 x6 : Int) (h0 : x0 = if 0 < n ∧ ¬ (g 0).toInt < 0 then 1 else 0) (h1 : x1 = if 1 < n ∧ ¬ (g 1).toInt < 0 then 1 else 0) (h2 : x2 = if 2 < n ∧ ¬ (g 2).toInt < 0 then 1 else 0) (h3 : x3 = if 3 < n ∧ ¬ (g 3).toInt < 0 then 1 else 0) (h4 : x4 = if 4 < n ∧ ¬ (g 4).toInt < 0 then 1 else 0) (h5 : x5 = if 5 < n ∧ ¬ (g 5).toInt < 0 then 1 else 0) (h6 : x6 = if 6 < n ∧ ¬ (g 6).toInt < 0 then 1 else 0) :
    (cntB g n : Int) = x0 + x1 + x2 + x3 + x4 + x5 + x6 ∧ (0 ≤ x0 ∧ x0 ≤ 1) ∧ (0 ≤ x1 ∧ x1 ≤ 1) ∧ (0 ≤ x2 ∧ x2 ≤ 1) ∧ (0 ≤ x3 ∧ x3 ≤ 1) ∧ (0 ≤ x4 ∧ x4 ≤ 1) ∧ (0 ≤ x5 ∧ x5 ≤ 1) ∧ (0 ≤ x6 ∧ x6 ≤ 1) := by
  obtain ⟨x, hx⟩ : ∃ x : Nat → Nat, x = fun i => if (g i).toInt < 0 then 0 else 1 := ⟨_, rfl⟩
  have hc : ∀ k, cntB g (k + 1) = cntB g k + x k := fun k => by rw [hx]; rfl
  have hb : ∀ k, x k ≤ 1 := fun k => by rw [hx]; dsimp only; split <;> omega
  have one : ∀ (i : Nat) (y : Int), (y = if i < n ∧ ¬ (g i).toInt < 0 then 1 else 0) → (i < n → y = (x i : Int)) ∧ (¬ i < n → y = 0) := fun i y h => by
    refine ⟨fun q => ?_, fun q => ?_⟩
    · rw [h, hx]
      dsimp only
      by_cases z : (g i).toInt < 0
      · rw [if_neg (fun w => w.2 z), if_pos z]; rfl
      · rw [if_pos ⟨q, z⟩, if_neg z]; rfl
    · rw [h, if_neg (fun w => q w.1)]
  have a0 := one 0 x0 h0
  have a1 := one 1 x1 h1
  have a2 := one 2 x2 h2
  have a3 := one 3 x3 h3
  have a4 := one 4 x4 h4
  have a5 := one 5 x5 h5
  have a6 := one 6 x6 h6
  have c0 : cntB g 0 = 0 := rfl
  have c1 := hc 0
  have c2 := hc 1
  have c3 := hc 2
  have c4 := hc 3
  have c5 := hc 4
  have c6 := hc 5
  have c7 := hc 6
  have b0 := hb 0
  have b1 := hb 1
  have b2 := hb 2
  have b3 := hb 3
  have b4 := hb 4
  have b5 := hb 5
  have b6 := hb 6
  clear h0 h1 h2 h3 h4 h5 h6 one hc hb hx
  have hn7 : n = 0 ∨ n = 1 ∨ n = 2 ∨ n = 3 ∨ n = 4 ∨ n = 5 ∨ n = 6 ∨ n = 7 := by clear a0 a1 a2 a3 a4 a5 a6; omega
  rcases hn7 with rfl | rfl | rfl | rfl | rfl | rfl | rfl | rfl
  · replace a0 := a0.2 (by decide)
    replace a1 := a1.2 (by decide)
    replace a2 := a2.2 (by decide)
    replace a3 := a3.2 (by decide)
    replace a4 := a4.2 (by decide)
    replace a5 := a5.2 (by decide)
    replace a6 := a6.2 (by decide)
    simp only [Nat.zero_add, Nat.reduceAdd] at c1 c2 c3 c4 c5 c6 c7
    omega
  · replace a0 := a0.1 (by decide)
    replace a1 := a1.2 (by decide)
    replace a2 := a2.2 (by decide)
    replace a3 := a3.2 (by decide)
    replace a4 := a4.2 (by decide)
    replace a5 := a5.2 (by decide)
    replace a6 := a6.2 (by decide)
    simp only [Nat.zero_add, Nat.reduceAdd] at c1 c2 c3 c4 c5 c6 c7
    omega
  · replace a0 := a0.1 (by decide)
    replace a1 := a1.1 (by decide)
    replace a2 := a2.2 (by decide)
    replace a3 := a3.2 (by decide)
    replace a4 := a4.2 (by decide)
    replace a5 := a5.2 (by decide)
    replace a6 := a6.2 (by decide)
    simp only [Nat.zero_add, Nat.reduceAdd] at c1 c2 c3 c4 c5 c6 c7
    omega
  · replace a0 := a0.1 (by decide)
    replace a1 := a1.1 (by decide)
    replace a2 := a2.1 (by decide)
    replace a3 := a3.2 (by decide)
    replace a4 := a4.2 (by decide)
    replace a5 := a5.2 (by decide)
    replace a6 := a6.2 (by decide)
    simp only [Nat.zero_add, Nat.reduceAdd] at c1 c2 c3 c4 c5 c6 c7
    omega
  · replace a0 := a0.1 (by decide)
    replace a1 := a1.1 (by decide)
    replace a2 := a2.1 (by decide)
    replace a3 := a3.1 (by decide)
    replace a4 := a4.2 (by decide)
    replace a5 := a5.2 (by decide)
    replace a6 := a6.2 (by decide)
    simp only [Nat.zero_add, Nat.reduceAdd] at c1 c2 c3 c4 c5 c6 c7
    omega
  · replace a0 := a0.1 (by decide)
    replace a1 := a1.1 (by decide)
    replace a2 := a2.1 (by decide)
    replace a3 := a3.1 (by decide)
    replace a4 := a4.1 (by decide)
    replace a5 := a5.2 (by decide)
    replace a6 := a6.2 (by decide)
    simp only [Nat.zero_add, Nat.reduceAdd] at c1 c2 c3 c4 c5 c6 c7
    omega
  · replace a0 := a0.1 (by decide)
    replace a1 := a1.1 (by decide)
    replace a2 := a2.1 (by decide)
    replace a3 := a3.1 (by decide)
    replace a4 := a4.1 (by decide)
    replace a5 := a5.1 (by decide)
    replace a6 := a6.2 (by decide)
    simp only [Nat.zero_add, Nat.reduceAdd] at c1 c2 c3 c4 c5 c6 c7
    omega
  · replace a0 := a0.1 (by decide)
    replace a1 := a1.1 (by decide)
    replace a2 := a2.1 (by decide)
    replace a3 := a3.1 (by decide)
    replace a4 := a4.1 (by decide)
    replace a5 := a5.1 (by decide)
    replace a6 := a6.1 (by decide)
    simp only [Nat.zero_add, Nat.reduceAdd] at c1 c2 c3 c4 c5 c6 c7
    omega
theorem d1_0 : decode method_2_code 0 = .ok (.iload_n 1, 1) := by decide +kernel
theorem d1_1 : decode method_2_code 1 = .ok (.iload_n 0, 1) := by decide +kernel
theorem d1_2 : decode method_2_code 2 = .ok (.if_icmp .lt 5, 3) := by decide +kernel
theorem d1_5 : decode method_2_code 5 = .ok (.iconst 0, 1) := by decide +kernel
theorem d1_6 : decode method_2_code 6 = .ok (.ireturn, 1) := by decide +kernel
theorem d1_7 : decode method_2_code 7 = .ok (.lload_n 2, 1) := by decide +kernel
theorem d1_8 : decode method_2_code 8 = .ok (.bipush 8, 2) := by decide +kernel
theorem d1_10 : decode method_2_code 10 = .ok (.iload_n 1, 1) := by decide +kernel
theorem d1_11 : decode method_2_code 11 = .ok (.imul, 1) := by decide +kernel
theorem d1_12 : decode method_2_code 12 = .ok (.lushr, 1) := by decide +kernel
theorem d1_13 : decode method_2_code 13 = .ok (.l2i, 1) := by decide +kernel
theorem d1_14 : decode method_2_code 14 = .ok (.i2b, 1) := by decide +kernel
theorem d1_15 : decode method_2_code 15 = .ok (.istore 4, 2) := by decide +kernel
theorem d1_17 : decode method_2_code 17 = .ok (.iload 4, 2) := by decide +kernel
theorem d1_19 : decode method_2_code 19 = .ok (.ifCond .lt 7, 3) := by decide +kernel
theorem d1_22 : decode method_2_code 22 = .ok (.iconst 1, 1) := by decide +kernel
theorem d1_23 : decode method_2_code 23 = .ok (.goto 4, 3) := by decide +kernel
theorem d1_26 : decode method_2_code 26 = .ok (.iconst 0, 1) := by decide +kernel
theorem d1_27 : decode method_2_code 27 = .ok (.ireturn, 1) := by decide +kernel
theorem pn_1 : plainFor (⟨"com/example/acrawl/acrawl/store/PostingTermFrequencyPinLaw", "ends", "(IIJ)I"⟩ : MethodName) = true := plainFor_of_name (by first | (simp [plainName, overriddenIn]; done) | decide +kernel)
set_option maxRecDepth 65536 in
set_option maxHeartbeats 40000000 in
theorem con_ends (l : Launch) (Z : State) (a0 : Array Value) (hw : ∀ d ∈ tables_1, d.before a0 Z = true) (n i : Int32) (q : Int64) (h0 : Heap) (n0 : Nat)  :
    Con l Z (⟨"com/example/acrawl/acrawl/store/PostingTermFrequencyPinLaw", "ends", "(IIJ)I"⟩ : MethodName) method_2_code 5 (some .int) ⟨0, 0, 0, 0⟩ [(.int n), (.int i), (.long q)] h0 n0 (RetI fun r h => h = h0 ∧ EndB q n.toInt i.toInt (bt q i) r) := by
  refine Con.body (L0 := #[.val (.int n), .val (.int i), .val (.long q), .second, .unset]) hw pn_1 (fun m => by first | (simp [entryFrame, mkF, argsToLocals, Value.category]; done) | rfl) (fun K O => ?_)
  refine w_iloadN O d1_0 (pc' := 1) rfl rfl ?_
  refine w_iloadN O d1_1 (pc' := 2) rfl rfl ?_
  refine w_icmp_lt O d1_2 (pn := 5) (pt := 7) rfl (by decide) rfl (fun c2 => ?_) (fun c2 => ?_)
  · refine w_lloadN O d1_7 (pc' := 8) rfl rfl ?_
    refine w_bipush O d1_8 (z := (8 : Int32)) (pc' := 10) rfl rfl ?_
    refine w_iloadN O d1_10 (pc' := 11) rfl rfl ?_
    refine w_imul O d1_11 (pc' := 12) rfl ?_
    refine w_lushr O d1_12 (pc' := 13) rfl ?_
    refine w_l2i O d1_13 (pc' := 14) rfl ?_
    refine w_i2b O d1_14 (pc' := 15) rfl ?_
    refine w_istoreG O d1_15 (L' := fun zq => #[.val (.int n), .val (.int i), .val (.long q), .second, .val (.int zq)]) (pc' := 17) rfl (fun _ => rfl) (fun y e_y => ?_)
    replace e_y : y = bt q i := e_y
    have j_y := congrArg Int32.toInt e_y
    refine w_iload O d1_17 (pc' := 19) rfl rfl ?_
    refine w_if_lt O d1_19 (pn := 22) (pt := 26) rfl (by decide) rfl (fun c19 => ?_) (fun c19 => ?_)
    · replace c19 : y.toInt < 0 := c19
      refine w_iconst O d1_26 (z := (0 : Int32)) (pc' := 27) rfl rfl ?_
      refine w_reti O d1_27 (by decide) (by decide) ?_
      refine ⟨_, rfl, rfl, ?_⟩
      unfold EndB
      show (0 : Int) = _
      split <;> omega
    · replace c19 : ¬ y.toInt < 0 := c19
      refine w_iconst O d1_22 (z := (1 : Int32)) (pc' := 23) rfl rfl ?_
      refine w_goto O d1_23 (pc' := 27) (by decide) rfl ?_
      refine w_reti O d1_27 (by decide) (by decide) ?_
      refine ⟨_, rfl, rfl, ?_⟩
      unfold EndB
      show (1 : Int) = _
      split <;> omega
  · refine w_iconst O d1_5 (z := (0 : Int32)) (pc' := 6) rfl rfl ?_
    refine w_reti O d1_6 (by decide) (by decide) ?_
    refine ⟨_, rfl, rfl, ?_⟩
    unfold EndB
    show (0 : Int) = _
    rw [if_neg (fun q => c2 q.1)]

theorem pn_0 : plainFor x = true := plainFor_of_name (by first | (simp [plainName, overriddenIn]; done) | decide +kernel)
theorem pd_3 : parseMethodDescriptor "(IIJ)I" = some ⟨[.int, .int, .long], some .int⟩ := by decide +kernel
theorem pd_4 : parseMethodDescriptor "(I[B)V" = some ⟨[.int, (.array .byte)], none⟩ := by decide +kernel
theorem pd_5 : parseMethodDescriptor "()I" = some ⟨[], some .int⟩ := by decide +kernel
set_option maxRecDepth 65536 in
set_option maxHeartbeats 40000000 in
theorem law_con (l : Launch) (Z : State) (a0 : Array Value) (hw : ∀ d ∈ tables_1, d.before a0 Z = true) (u0 : Int32) (u1 : Int64) (u2 u3 : Int32) (h0 : Heap) (n0 : Nat)  :
    Con l Z x code maxLocals ret room_1 [(.int u0), (.long u1), (.int u2), (.int u3)] h0 n0 (RetI fun r _ => r = 1) := by
  refine Con.body (L0 := #[.val (.int u0), .val (.long u1), .second, .val (.int u2), .val (.int u3), .unset, .unset, .unset, .unset, .unset]) hw pn_0 (fun m => by first | (simp [entryFrame, mkF, argsToLocals, Value.category, maxLocals]; done) | rfl) (fun K O => ?_)
  replace O : Ok K l Z a0 tables_1 code 10 (some .boolean) "com/example/acrawl/acrawl/store/PostingTermFrequencyPinLaw" "law" room_1 n0 _ := O
  refine w_iloadN O at_0 (pc' := 1) rfl rfl ?_
  refine w_bipush O at_1 (z := (7 : Int32)) (pc' := 3) rfl rfl ?_
  refine w_iand O at_3 (pc' := 4) rfl ?_
  refine w_istoreG O at_4 (L' := fun zq => #[.val (.int u0), .val (.long u1), .second, .val (.int u2), .val (.int u3), .val (.int zq), .unset, .unset, .unset, .unset]) (pc' := 6) rfl (fun _ => rfl) (fun z e_z => ?_)
  have i2 : (u2 &&& (7 : Int32)).toInt = u2.toInt % 8 := c_mask u2 (7 : Int32) 3 (by decide) (by decide)
  have j_z := congrArg Int32.toInt e_z
  have r_z := rng32 z
  have hz7 : 0 ≤ z.toInt ∧ z.toInt ≤ 7 := by omega
  obtain ⟨n, hn⟩ : ∃ n : Nat, z.toInt = (n : Int) := ⟨z.toInt.toNat, by omega⟩
  obtain ⟨g, hg⟩ : ∃ g : Nat → Int32, g = fun j => bt u1 (Int32.ofNat j) := ⟨_, rfl⟩
  clear i2 j_z
  refine w_iload O at_6 (pc' := 8) rfl rfl ?_
  refine w_newarr O at_8 (ty := .byte) (dv := (.int (0 : Int32))) (n := n) (cap := 7) (cl' := 1) (sl' := 7) (pc' := 10) rfl rfl rfl (mw 0 rfl) hn (by omega) (by decide) rfl rfl (by decide) (by decide) (fun h3 b qb g_b Eh3 A_b => ?_)
  refine w_astore O at_10 (L' := #[.val (.int u0), .val (.long u1), .second, .val (.int u2), .val (.int u3), .val (.int z), .val (.ref b), .unset, .unset, .unset]) (pc' := 12) rfl rfl rfl ?_
  refine w_iload O at_12 (pc' := 14) rfl rfl ?_
  have J24 : ∀ (h901 : Heap), Afn Z h901 b .byte n (fun j => .int (if j < 1 then g j else 0)) → W K h901 1 7 24 #[.val (.int u0), .val (.long u1), .second, .val (.int u2), .val (.int u3), .val (.int z), .val (.ref b), .unset, .unset, .unset] [] := by
    intro h901 A1
    refine w_iload O at_24 (pc' := 26) rfl rfl ?_
    refine w_iconst O at_26 (z := (1 : Int32)) (pc' := 27) rfl rfl ?_
    have J40 : ∀ (h902 : Heap), Afn Z h902 b .byte n (fun j => .int (if j < 2 then g j else 0)) → W K h902 1 7 40 #[.val (.int u0), .val (.long u1), .second, .val (.int u2), .val (.int u3), .val (.int z), .val (.ref b), .unset, .unset, .unset] [] := by
      intro h902 A2
      refine w_iload O at_40 (pc' := 42) rfl rfl ?_
      refine w_iconst O at_42 (z := (2 : Int32)) (pc' := 43) rfl rfl ?_
      have J56 : ∀ (h903 : Heap), Afn Z h903 b .byte n (fun j => .int (if j < 3 then g j else 0)) → W K h903 1 7 56 #[.val (.int u0), .val (.long u1), .second, .val (.int u2), .val (.int u3), .val (.int z), .val (.ref b), .unset, .unset, .unset] [] := by
        intro h903 A3
        refine w_iload O at_56 (pc' := 58) rfl rfl ?_
        refine w_iconst O at_58 (z := (3 : Int32)) (pc' := 59) rfl rfl ?_
        have J72 : ∀ (h904 : Heap), Afn Z h904 b .byte n (fun j => .int (if j < 4 then g j else 0)) → W K h904 1 7 72 #[.val (.int u0), .val (.long u1), .second, .val (.int u2), .val (.int u3), .val (.int z), .val (.ref b), .unset, .unset, .unset] [] := by
          intro h904 A4
          refine w_iload O at_72 (pc' := 74) rfl rfl ?_
          refine w_iconst O at_74 (z := (4 : Int32)) (pc' := 75) rfl rfl ?_
          have J88 : ∀ (h905 : Heap), Afn Z h905 b .byte n (fun j => .int (if j < 5 then g j else 0)) → W K h905 1 7 88 #[.val (.int u0), .val (.long u1), .second, .val (.int u2), .val (.int u3), .val (.int z), .val (.ref b), .unset, .unset, .unset] [] := by
            intro h905 A5
            refine w_iload O at_88 (pc' := 90) rfl rfl ?_
            refine w_iconst O at_90 (z := (5 : Int32)) (pc' := 91) rfl rfl ?_
            have J104 : ∀ (h906 : Heap), Afn Z h906 b .byte n (fun j => .int (if j < 6 then g j else 0)) → W K h906 1 7 104 #[.val (.int u0), .val (.long u1), .second, .val (.int u2), .val (.int u3), .val (.int z), .val (.ref b), .unset, .unset, .unset] [] := by
              intro h906 A6
              refine w_iload O at_104 (pc' := 106) rfl rfl ?_
              refine w_bipush O at_106 (z := (6 : Int32)) (pc' := 108) rfl rfl ?_
              have J122 : ∀ (h907 : Heap), Afn Z h907 b .byte n (fun j => .int (if j < 7 then g j else 0)) → W K h907 1 7 122 #[.val (.int u0), .val (.long u1), .second, .val (.int u2), .val (.int u3), .val (.int z), .val (.ref b), .unset, .unset, .unset] [] := by
                intro h907 A7
                replace A7 : Afn Z h907 b .byte n (fun j => .int (g j)) := A7.congr fun j hj => by rw [if_pos (by omega)]
                refine w_iload O at_122 (pc' := 124) rfl rfl ?_
                refine w_iconst O at_124 (z := (0 : Int32)) (pc' := 125) rfl rfl ?_
                refine w_lloadN O at_125 (pc' := 126) rfl rfl ?_
                refine w_static O at_126 (as := [(.int z), (.int (0 : Int32)), (.long u1)]) (st := []) (wt := 0) (cl' := 1) (sl' := 7) (pc' := 129) rfl (mw 1 rfl) (mw 2 rfl) (mw 3 rfl) (mw 4 rfl) (by decide) (con_ends l Z a0 hw z (0 : Int32) u1 h907 n0) rfl pd_3 rfl rfl rfl (by decide) (by decide) rfl rfl (by decide) (by decide) (cI fun t0 _ ⟨qt0, st0⟩ => ?_)
                rw [qt0]
                replace st0 : EndB u1 z.toInt 0 (bt u1 0) t0 := st0
                have et0 : t0.toInt = if 0 < n ∧ ¬ (g 0).toInt < 0 then 1 else 0 := by
                  have gi : g 0 = bt u1 (0 : Int32) := by rw [hg]; rfl
                  unfold EndB at st0
                  rw [st0, gi]
                  by_cases q : ((0 : Int) < z.toInt ∧ ¬ (bt u1 (0 : Int32)).toInt < 0)
                  · rw [if_pos q, if_pos ⟨by omega, q.2⟩]
                  · rw [if_neg q, if_neg (fun y => q ⟨by omega, y.2⟩)]
                clear st0
                replace et0 : EndN n 0 (g 0) t0 := et0
                refine w_iload O at_129 (pc' := 131) rfl rfl ?_
                refine w_iconst O at_131 (z := (1 : Int32)) (pc' := 132) rfl rfl ?_
                refine w_lloadN O at_132 (pc' := 133) rfl rfl ?_
                refine w_static O at_133 (as := [(.int z), (.int (1 : Int32)), (.long u1)]) (st := [(.int t0)]) (wt := 1) (cl' := 1) (sl' := 7) (pc' := 136) rfl (mw 1 rfl) (mw 2 rfl) (mw 3 rfl) (mw 4 rfl) (by decide) (con_ends l Z a0 hw z (1 : Int32) u1 h907 n0) rfl pd_3 rfl rfl rfl (by decide) (by decide) rfl rfl (by decide) (by decide) (cI fun t1 _ ⟨qt1, st1⟩ => ?_)
                rw [qt1]
                replace st1 : EndB u1 z.toInt 1 (bt u1 1) t1 := st1
                have et1 : t1.toInt = if 1 < n ∧ ¬ (g 1).toInt < 0 then 1 else 0 := by
                  have gi : g 1 = bt u1 (1 : Int32) := by rw [hg]; rfl
                  unfold EndB at st1
                  rw [st1, gi]
                  by_cases q : ((1 : Int) < z.toInt ∧ ¬ (bt u1 (1 : Int32)).toInt < 0)
                  · rw [if_pos q, if_pos ⟨by omega, q.2⟩]
                  · rw [if_neg q, if_neg (fun y => q ⟨by omega, y.2⟩)]
                clear st1
                replace et1 : EndN n 1 (g 1) t1 := et1
                refine w_iadd O at_136 (pc' := 137) rfl ?_
                refine w_iload O at_137 (pc' := 139) rfl rfl ?_
                refine w_iconst O at_139 (z := (2 : Int32)) (pc' := 140) rfl rfl ?_
                refine w_lloadN O at_140 (pc' := 141) rfl rfl ?_
                refine w_static O at_141 (as := [(.int z), (.int (2 : Int32)), (.long u1)]) (st := [(.int (t0 + t1))]) (wt := 1) (cl' := 1) (sl' := 7) (pc' := 144) rfl (mw 1 rfl) (mw 2 rfl) (mw 3 rfl) (mw 4 rfl) (by decide) (con_ends l Z a0 hw z (2 : Int32) u1 h907 n0) rfl pd_3 rfl rfl rfl (by decide) (by decide) rfl rfl (by decide) (by decide) (cI fun t2 _ ⟨qt2, st2⟩ => ?_)
                rw [qt2]
                replace st2 : EndB u1 z.toInt 2 (bt u1 2) t2 := st2
                have et2 : t2.toInt = if 2 < n ∧ ¬ (g 2).toInt < 0 then 1 else 0 := by
                  have gi : g 2 = bt u1 (2 : Int32) := by rw [hg]; rfl
                  unfold EndB at st2
                  rw [st2, gi]
                  by_cases q : ((2 : Int) < z.toInt ∧ ¬ (bt u1 (2 : Int32)).toInt < 0)
                  · rw [if_pos q, if_pos ⟨by omega, q.2⟩]
                  · rw [if_neg q, if_neg (fun y => q ⟨by omega, y.2⟩)]
                clear st2
                replace et2 : EndN n 2 (g 2) t2 := et2
                refine w_iadd O at_144 (pc' := 145) rfl ?_
                refine w_iload O at_145 (pc' := 147) rfl rfl ?_
                refine w_iconst O at_147 (z := (3 : Int32)) (pc' := 148) rfl rfl ?_
                refine w_lloadN O at_148 (pc' := 149) rfl rfl ?_
                refine w_static O at_149 (as := [(.int z), (.int (3 : Int32)), (.long u1)]) (st := [(.int ((t0 + t1) + t2))]) (wt := 1) (cl' := 1) (sl' := 7) (pc' := 152) rfl (mw 1 rfl) (mw 2 rfl) (mw 3 rfl) (mw 4 rfl) (by decide) (con_ends l Z a0 hw z (3 : Int32) u1 h907 n0) rfl pd_3 rfl rfl rfl (by decide) (by decide) rfl rfl (by decide) (by decide) (cI fun t3 _ ⟨qt3, st3⟩ => ?_)
                rw [qt3]
                replace st3 : EndB u1 z.toInt 3 (bt u1 3) t3 := st3
                have et3 : t3.toInt = if 3 < n ∧ ¬ (g 3).toInt < 0 then 1 else 0 := by
                  have gi : g 3 = bt u1 (3 : Int32) := by rw [hg]; rfl
                  unfold EndB at st3
                  rw [st3, gi]
                  by_cases q : ((3 : Int) < z.toInt ∧ ¬ (bt u1 (3 : Int32)).toInt < 0)
                  · rw [if_pos q, if_pos ⟨by omega, q.2⟩]
                  · rw [if_neg q, if_neg (fun y => q ⟨by omega, y.2⟩)]
                clear st3
                replace et3 : EndN n 3 (g 3) t3 := et3
                refine w_iadd O at_152 (pc' := 153) rfl ?_
                refine w_iload O at_153 (pc' := 155) rfl rfl ?_
                refine w_iconst O at_155 (z := (4 : Int32)) (pc' := 156) rfl rfl ?_
                refine w_lloadN O at_156 (pc' := 157) rfl rfl ?_
                refine w_static O at_157 (as := [(.int z), (.int (4 : Int32)), (.long u1)]) (st := [(.int (((t0 + t1) + t2) + t3))]) (wt := 1) (cl' := 1) (sl' := 7) (pc' := 160) rfl (mw 1 rfl) (mw 2 rfl) (mw 3 rfl) (mw 4 rfl) (by decide) (con_ends l Z a0 hw z (4 : Int32) u1 h907 n0) rfl pd_3 rfl rfl rfl (by decide) (by decide) rfl rfl (by decide) (by decide) (cI fun t4 _ ⟨qt4, st4⟩ => ?_)
                rw [qt4]
                replace st4 : EndB u1 z.toInt 4 (bt u1 4) t4 := st4
                have et4 : t4.toInt = if 4 < n ∧ ¬ (g 4).toInt < 0 then 1 else 0 := by
                  have gi : g 4 = bt u1 (4 : Int32) := by rw [hg]; rfl
                  unfold EndB at st4
                  rw [st4, gi]
                  by_cases q : ((4 : Int) < z.toInt ∧ ¬ (bt u1 (4 : Int32)).toInt < 0)
                  · rw [if_pos q, if_pos ⟨by omega, q.2⟩]
                  · rw [if_neg q, if_neg (fun y => q ⟨by omega, y.2⟩)]
                clear st4
                replace et4 : EndN n 4 (g 4) t4 := et4
                refine w_iadd O at_160 (pc' := 161) rfl ?_
                refine w_iload O at_161 (pc' := 163) rfl rfl ?_
                refine w_iconst O at_163 (z := (5 : Int32)) (pc' := 164) rfl rfl ?_
                refine w_lloadN O at_164 (pc' := 165) rfl rfl ?_
                refine w_static O at_165 (as := [(.int z), (.int (5 : Int32)), (.long u1)]) (st := [(.int ((((t0 + t1) + t2) + t3) + t4))]) (wt := 1) (cl' := 1) (sl' := 7) (pc' := 168) rfl (mw 1 rfl) (mw 2 rfl) (mw 3 rfl) (mw 4 rfl) (by decide) (con_ends l Z a0 hw z (5 : Int32) u1 h907 n0) rfl pd_3 rfl rfl rfl (by decide) (by decide) rfl rfl (by decide) (by decide) (cI fun t5 _ ⟨qt5, st5⟩ => ?_)
                rw [qt5]
                replace st5 : EndB u1 z.toInt 5 (bt u1 5) t5 := st5
                have et5 : t5.toInt = if 5 < n ∧ ¬ (g 5).toInt < 0 then 1 else 0 := by
                  have gi : g 5 = bt u1 (5 : Int32) := by rw [hg]; rfl
                  unfold EndB at st5
                  rw [st5, gi]
                  by_cases q : ((5 : Int) < z.toInt ∧ ¬ (bt u1 (5 : Int32)).toInt < 0)
                  · rw [if_pos q, if_pos ⟨by omega, q.2⟩]
                  · rw [if_neg q, if_neg (fun y => q ⟨by omega, y.2⟩)]
                clear st5
                replace et5 : EndN n 5 (g 5) t5 := et5
                refine w_iadd O at_168 (pc' := 169) rfl ?_
                refine w_iload O at_169 (pc' := 171) rfl rfl ?_
                refine w_bipush O at_171 (z := (6 : Int32)) (pc' := 173) rfl rfl ?_
                refine w_lloadN O at_173 (pc' := 174) rfl rfl ?_
                refine w_static O at_174 (as := [(.int z), (.int (6 : Int32)), (.long u1)]) (st := [(.int (((((t0 + t1) + t2) + t3) + t4) + t5))]) (wt := 1) (cl' := 1) (sl' := 7) (pc' := 177) rfl (mw 1 rfl) (mw 2 rfl) (mw 3 rfl) (mw 4 rfl) (by decide) (con_ends l Z a0 hw z (6 : Int32) u1 h907 n0) rfl pd_3 rfl rfl rfl (by decide) (by decide) rfl rfl (by decide) (by decide) (cI fun t6 _ ⟨qt6, st6⟩ => ?_)
                rw [qt6]
                replace st6 : EndB u1 z.toInt 6 (bt u1 6) t6 := st6
                have et6 : t6.toInt = if 6 < n ∧ ¬ (g 6).toInt < 0 then 1 else 0 := by
                  have gi : g 6 = bt u1 (6 : Int32) := by rw [hg]; rfl
                  unfold EndB at st6
                  rw [st6, gi]
                  by_cases q : ((6 : Int) < z.toInt ∧ ¬ (bt u1 (6 : Int32)).toInt < 0)
                  · rw [if_pos q, if_pos ⟨by omega, q.2⟩]
                  · rw [if_neg q, if_neg (fun y => q ⟨by omega, y.2⟩)]
                clear st6
                replace et6 : EndN n 6 (g 6) t6 := et6
                refine w_iadd O at_177 (pc' := 178) rfl ?_
                refine w_istoreG O at_178 (L' := fun zq => #[.val (.int u0), .val (.long u1), .second, .val (.int u2), .val (.int u3), .val (.int z), .val (.ref b), .val (.int zq), .unset, .unset]) (pc' := 180) rfl (fun _ => rfl) (fun ex e_ex => ?_)
                have i6 : ((t0 + t1).toInt - (t0.toInt + t1.toInt)) % 4294967296 = 0 := c_iadd t0 t1
                have i7 := rng32 (t0 + t1)
                have i8 : (((t0 + t1) + t2).toInt - ((t0 + t1).toInt + t2.toInt)) % 4294967296 = 0 := c_iadd (t0 + t1) t2
                have i9 := rng32 ((t0 + t1) + t2)
                have i10 : ((((t0 + t1) + t2) + t3).toInt - (((t0 + t1) + t2).toInt + t3.toInt)) % 4294967296 = 0 := c_iadd ((t0 + t1) + t2) t3
                have i11 := rng32 (((t0 + t1) + t2) + t3)
                have i12 : (((((t0 + t1) + t2) + t3) + t4).toInt - ((((t0 + t1) + t2) + t3).toInt + t4.toInt)) % 4294967296 = 0 := c_iadd (((t0 + t1) + t2) + t3) t4
                have i13 := rng32 ((((t0 + t1) + t2) + t3) + t4)
                have i14 : ((((((t0 + t1) + t2) + t3) + t4) + t5).toInt - (((((t0 + t1) + t2) + t3) + t4).toInt + t5.toInt)) % 4294967296 = 0 := c_iadd ((((t0 + t1) + t2) + t3) + t4) t5
                have i15 := rng32 (((((t0 + t1) + t2) + t3) + t4) + t5)
                have i16 : (((((((t0 + t1) + t2) + t3) + t4) + t5) + t6).toInt - ((((((t0 + t1) + t2) + t3) + t4) + t5).toInt + t6.toInt)) % 4294967296 = 0 := c_iadd (((((t0 + t1) + t2) + t3) + t4) + t5) t6
                have i17 := rng32 ((((((t0 + t1) + t2) + t3) + t4) + t5) + t6)
                have j_ex := congrArg Int32.toInt e_ex
                have r_ex := rng32 ex
                have hex : (cntB g n : Int) = ex.toInt := by
                  have key := own_seven g n (by omega) t0.toInt t1.toInt t2.toInt t3.toInt t4.toInt t5.toInt t6.toInt et0 et1 et2 et3 et4 et5 et6
                  clear et0 et1 et2 et3 et4 et5 et6
                  omega
                clear i6 i7 i8 i9 i10 i11 i12 i13 i14 i15 i16 i17 j_ex
                refine w_new O at_180 (cl' := 2) (sl' := 10) (pc' := 183) rfl (mw 5 rfl) (mw 6 rfl) (mw 7 rfl) rfl rfl (by decide) (by decide) (fun h18 b19 qb19 g_b19 Eh18 E_b19 Db19 => ?_)
                have ne_b_b19 : b ≠ b19 := Nat.ne_of_lt (by rw [qb19]; exact A7.lt)
                have A7_h18 := A7.ext Eh18
                have F_pageId_b19 : Fld Z h18 b19 "com/example/acrawl/acrawl/store/Posting" "pageId" "I" (.int (0 : Int32)) := Db19 (Or.inr (O.2.2.2.2.2.2.2.2.1 _ (mw 15 rfl))) (ty := .int) (by decide)
                have F_stored_b19 : Fld Z h18 b19 "com/example/acrawl/acrawl/store/Posting" "stored" "[B" .null := Db19 (Or.inr (O.2.2.2.2.2.2.2.2.1 _ (mw 17 rfl))) (ty := (.array .byte)) (by decide)
                have F_positions_b19 : Fld Z h18 b19 "com/example/acrawl/acrawl/store/Posting" "positions" "[I" .null := Db19 (Or.inl (O.2.2.2.2.2.2.2.2.1 _ (mw 24 rfl))) (ty := (.array .int)) (by decide)
                refine w_dup O at_183 (pc' := 184) rfl rfl ?_
                refine w_iloadN O at_184 (pc' := 185) rfl rfl ?_
                refine w_aload O at_185 (pc' := 187) rfl rfl rfl ?_
                refine w_init O at_187 (as := [(.int u0), (.ref b)]) (st := [(.ref b19)]) (wt := 1) (cl' := 2) (sl' := 10) (pc' := 190) rfl rfl (mw 8 rfl) (mw 9 rfl) (mw 7 rfl) (mw 10 rfl) (by decide) (con_init l Z a0 hw b19 u0 b h18 n0 n g E_b19 F_pageId_b19 F_stored_b19 F_positions_b19 A7_h18 (Ne.symm ne_b_b19) g_b19) rfl pd_4 rfl rfl rfl (by decide) (by decide) rfl rfl (by decide) (by decide) (cV fun h20 P0 => ?_)
                refine w_astore O at_190 (L' := #[.val (.int u0), .val (.long u1), .second, .val (.int u2), .val (.int u3), .val (.int z), .val (.ref b), .val (.int ex), .val (.ref b19), .unset]) (pc' := 192) rfl rfl rfl ?_
                refine w_iload O at_192 (pc' := 194) rfl rfl ?_
                refine w_iconst O at_194 (z := (2 : Int32)) (pc' := 195) rfl rfl ?_
                refine w_iand O at_195 (pc' := 196) rfl ?_
                have i21 : 0 ≤ (u3 &&& (2 : Int32)).toInt ∧ (u3 &&& (2 : Int32)).toInt ≤ 2 := c_and u3 (2 : Int32) (by decide)
                refine w_if_eq O at_196 (pn := 199) (pt := 211) rfl (by decide) rfl (fun c196 => ?_) (fun c196 => ?_)
                · replace c196 : (u3 &&& (2 : Int32)).toInt = 0 := c196
                  refine w_iload O at_211 (pc' := 213) rfl rfl ?_
                  refine w_iconst O at_213 (z := (1 : Int32)) (pc' := 214) rfl rfl ?_
                  refine w_iand O at_214 (pc' := 215) rfl ?_
                  have i22 : (u3 &&& (1 : Int32)).toInt = u3.toInt % 2 := c_mask u3 (1 : Int32) 1 (by decide) (by decide)
                  obtain ⟨zc, hzc⟩ : ∃ zc : Int32, zc.toInt = (cntB g n : Int) := ⟨ex, hex.symm⟩
                  refine w_if_eq O at_215 (pn := 218) (pt := 235) rfl (by decide) rfl (fun c215 => ?_) (fun c215 => ?_)
                  · replace c215 : (u3 &&& (1 : Int32)).toInt = 0 := c215
                    refine w_aload O at_235 (pc' := 237) rfl rfl rfl ?_
                    refine w_virtual O at_237 (as := []) (st := []) (wt := 0) (cl' := 2) (sl' := 10) (pc' := 240) rfl (mw 18 rfl) (mw 19 rfl) (mw 21 rfl) (mw 20 rfl) (mw 22 rfl) (mw 7 rfl) (by decide) P0.1 (con_tf0 l Z a0 hw b19 h20 n0 b n g P0 z hn) rfl pd_5 rfl rfl rfl (by decide) (by decide) rfl rfl (by decide) (by decide) (cI fun r23 _ ⟨qr23, sr23⟩ => ?_)
                    rw [qr23]
                    refine w_iload O at_240 (pc' := 242) rfl rfl ?_
                    have hne : r23.toInt = ex.toInt := by rw [sr23]; exact hex
                    refine w_icmp_ne O at_242 (pn := 245) (pt := 249) rfl (by decide) rfl (fun q => absurd hne q) (fun _ => ?_)
                    refine w_iconst O at_245 (z := (1 : Int32)) (pc' := 246) rfl rfl ?_
                    refine w_goto O at_246 (pc' := 250) (by decide) rfl ?_
                    refine w_retz O at_250 (by decide) (by decide) (Or.inr rfl) ?_
                    exact ⟨_, rfl, rfl⟩
                  · replace c215 : ¬ (u3 &&& (1 : Int32)).toInt = 0 := c215
                    refine w_aload O at_218 (pc' := 220) rfl rfl rfl ?_
                    refine w_virtual O at_220 (as := []) (st := []) (wt := 0) (cl' := 4) (sl' := 24) (pc' := 223) rfl (mw 29 rfl) (mw 30 rfl) (mw 32 rfl) (mw 31 rfl) (mw 33 rfl) (mw 7 rfl) (by decide) P0.1 (con_pos l Z a0 hw b19 h20 n0 b n g P0 z hn (by omega)) rfl pd_2 rfl rfl rfl (by decide) (by decide) rfl rfl (by decide) (by decide) (cA fun v h24 hv ⟨r, q, ev, P1, Ar⟩ => ?_)
                    subst ev
                    refine w_astore O at_223 (L' := #[.val (.int u0), .val (.long u1), .second, .val (.int u2), .val (.int u3), .val (.int z), .val (.ref b), .val (.int ex), .val (.ref b19), .val (.ref r)]) (pc' := 225) rfl rfl rfl ?_
                    refine w_aload O at_225 (pc' := 227) rfl rfl rfl ?_
                    refine w_alen O at_227 (z := zc) (pc' := 228) rfl Ar hzc ?_
                    refine w_iload O at_228 (pc' := 230) rfl rfl ?_
                    have hne : zc.toInt = ex.toInt := by rw [hzc]; exact hex
                    refine w_icmp_eq O at_230 (pn := 233) (pt := 235) rfl (by decide) rfl (fun _ => ?_) (fun q => absurd hne q)
                    refine w_aload O at_235 (pc' := 237) rfl rfl rfl ?_
                    refine w_virtual O at_237 (as := []) (st := []) (wt := 0) (cl' := 4) (sl' := 24) (pc' := 240) rfl (mw 18 rfl) (mw 19 rfl) (mw 21 rfl) (mw 20 rfl) (mw 22 rfl) (mw 7 rfl) (by decide) P1.1 (con_tf1 l Z a0 hw b19 h24 n0 q n g P1 zc hzc) rfl pd_5 rfl rfl rfl (by decide) (by decide) rfl rfl (by decide) (by decide) (cI fun r25 _ ⟨qr25, sr25⟩ => ?_)
                    rw [qr25]
                    refine w_iload O at_240 (pc' := 242) rfl rfl ?_
                    have hne : r25.toInt = ex.toInt := by rw [sr25]; exact hex
                    refine w_icmp_ne O at_242 (pn := 245) (pt := 249) rfl (by decide) rfl (fun q => absurd hne q) (fun _ => ?_)
                    refine w_iconst O at_245 (z := (1 : Int32)) (pc' := 246) rfl rfl ?_
                    refine w_goto O at_246 (pc' := 250) (by decide) rfl ?_
                    refine w_retz O at_250 (by decide) (by decide) (Or.inr rfl) ?_
                    exact ⟨_, rfl, rfl⟩
                · replace c196 : ¬ (u3 &&& (2 : Int32)).toInt = 0 := c196
                  refine w_aload O at_199 (pc' := 201) rfl rfl rfl ?_
                  refine w_virtual O at_201 (as := []) (st := []) (wt := 0) (cl' := 2) (sl' := 10) (pc' := 204) rfl (mw 18 rfl) (mw 19 rfl) (mw 21 rfl) (mw 20 rfl) (mw 22 rfl) (mw 7 rfl) (by decide) P0.1 (con_tf0 l Z a0 hw b19 h20 n0 b n g P0 z hn) rfl pd_5 rfl rfl rfl (by decide) (by decide) rfl rfl (by decide) (by decide) (cI fun r26 _ ⟨qr26, sr26⟩ => ?_)
                  rw [qr26]
                  refine w_iload O at_204 (pc' := 206) rfl rfl ?_
                  have hne : r26.toInt = ex.toInt := by rw [sr26]; exact hex
                  refine w_icmp_eq O at_206 (pn := 209) (pt := 211) rfl (by decide) rfl (fun _ => ?_) (fun q => absurd hne q)
                  refine w_iload O at_211 (pc' := 213) rfl rfl ?_
                  refine w_iconst O at_213 (z := (1 : Int32)) (pc' := 214) rfl rfl ?_
                  refine w_iand O at_214 (pc' := 215) rfl ?_
                  have i27 : (u3 &&& (1 : Int32)).toInt = u3.toInt % 2 := c_mask u3 (1 : Int32) 1 (by decide) (by decide)
                  obtain ⟨zc, hzc⟩ : ∃ zc : Int32, zc.toInt = (cntB g n : Int) := ⟨ex, hex.symm⟩
                  refine w_if_eq O at_215 (pn := 218) (pt := 235) rfl (by decide) rfl (fun c215 => ?_) (fun c215 => ?_)
                  · replace c215 : (u3 &&& (1 : Int32)).toInt = 0 := c215
                    refine w_aload O at_235 (pc' := 237) rfl rfl rfl ?_
                    refine w_virtual O at_237 (as := []) (st := []) (wt := 0) (cl' := 2) (sl' := 10) (pc' := 240) rfl (mw 18 rfl) (mw 19 rfl) (mw 21 rfl) (mw 20 rfl) (mw 22 rfl) (mw 7 rfl) (by decide) P0.1 (con_tf0 l Z a0 hw b19 h20 n0 b n g P0 z hn) rfl pd_5 rfl rfl rfl (by decide) (by decide) rfl rfl (by decide) (by decide) (cI fun r28 _ ⟨qr28, sr28⟩ => ?_)
                    rw [qr28]
                    refine w_iload O at_240 (pc' := 242) rfl rfl ?_
                    have hne : r28.toInt = ex.toInt := by rw [sr28]; exact hex
                    refine w_icmp_ne O at_242 (pn := 245) (pt := 249) rfl (by decide) rfl (fun q => absurd hne q) (fun _ => ?_)
                    refine w_iconst O at_245 (z := (1 : Int32)) (pc' := 246) rfl rfl ?_
                    refine w_goto O at_246 (pc' := 250) (by decide) rfl ?_
                    refine w_retz O at_250 (by decide) (by decide) (Or.inr rfl) ?_
                    exact ⟨_, rfl, rfl⟩
                  · replace c215 : ¬ (u3 &&& (1 : Int32)).toInt = 0 := c215
                    refine w_aload O at_218 (pc' := 220) rfl rfl rfl ?_
                    refine w_virtual O at_220 (as := []) (st := []) (wt := 0) (cl' := 4) (sl' := 24) (pc' := 223) rfl (mw 29 rfl) (mw 30 rfl) (mw 32 rfl) (mw 31 rfl) (mw 33 rfl) (mw 7 rfl) (by decide) P0.1 (con_pos l Z a0 hw b19 h20 n0 b n g P0 z hn (by omega)) rfl pd_2 rfl rfl rfl (by decide) (by decide) rfl rfl (by decide) (by decide) (cA fun v h29 hv ⟨r, q, ev, P1, Ar⟩ => ?_)
                    subst ev
                    refine w_astore O at_223 (L' := #[.val (.int u0), .val (.long u1), .second, .val (.int u2), .val (.int u3), .val (.int z), .val (.ref b), .val (.int ex), .val (.ref b19), .val (.ref r)]) (pc' := 225) rfl rfl rfl ?_
                    refine w_aload O at_225 (pc' := 227) rfl rfl rfl ?_
                    refine w_alen O at_227 (z := zc) (pc' := 228) rfl Ar hzc ?_
                    refine w_iload O at_228 (pc' := 230) rfl rfl ?_
                    have hne : zc.toInt = ex.toInt := by rw [hzc]; exact hex
                    refine w_icmp_eq O at_230 (pn := 233) (pt := 235) rfl (by decide) rfl (fun _ => ?_) (fun q => absurd hne q)
                    refine w_aload O at_235 (pc' := 237) rfl rfl rfl ?_
                    refine w_virtual O at_237 (as := []) (st := []) (wt := 0) (cl' := 4) (sl' := 24) (pc' := 240) rfl (mw 18 rfl) (mw 19 rfl) (mw 21 rfl) (mw 20 rfl) (mw 22 rfl) (mw 7 rfl) (by decide) P1.1 (con_tf1 l Z a0 hw b19 h29 n0 q n g P1 zc hzc) rfl pd_5 rfl rfl rfl (by decide) (by decide) rfl rfl (by decide) (by decide) (cI fun r30 _ ⟨qr30, sr30⟩ => ?_)
                    rw [qr30]
                    refine w_iload O at_240 (pc' := 242) rfl rfl ?_
                    have hne : r30.toInt = ex.toInt := by rw [sr30]; exact hex
                    refine w_icmp_ne O at_242 (pn := 245) (pt := 249) rfl (by decide) rfl (fun q => absurd hne q) (fun _ => ?_)
                    refine w_iconst O at_245 (z := (1 : Int32)) (pc' := 246) rfl rfl ?_
                    refine w_goto O at_246 (pc' := 250) (by decide) rfl ?_
                    refine w_retz O at_250 (by decide) (by decide) (Or.inr rfl) ?_
                    exact ⟨_, rfl, rfl⟩
              refine w_icmp_le O at_108 (pn := 111) (pt := 122) rfl (by decide) rfl (fun c108 => ?_) (fun c108 => ?_)
              · replace c108 : ¬ 6 < z.toInt := c108
                exact J122 _ (A6.congr fun j hj => by first | omega | (rw [if_pos (show j < 6 by omega), if_pos (show j < 7 by omega)]))
              · replace c108 : 6 < z.toInt := c108
                refine w_aload O at_111 (pc' := 113) rfl rfl rfl ?_
                refine w_bipush O at_113 (z := (6 : Int32)) (pc' := 115) rfl rfl ?_
                refine w_lloadN O at_115 (pc' := 116) rfl rfl ?_
                refine w_bipush O at_116 (z := (48 : Int32)) (pc' := 118) rfl rfl ?_
                refine w_lushr O at_118 (pc' := 119) rfl ?_
                refine w_l2i O at_119 (pc' := 120) rfl ?_
                refine w_i2b O at_120 (pc' := 121) rfl ?_
                refine w_bastore O at_121 (i := 6) (pc' := 122) rfl A6 (by decide) (by omega) g_b (fun h31 Wh31 => ?_)
                have A6_h31 := A6.set Wh31
                refine J122 _ (A6_h31.congr fun j hj => ?_)
                unfold upd
                by_cases q1 : j = 6
                · rw [if_pos q1, nar_b, q1, if_pos (by omega), hg]; rfl
                · rw [if_neg q1]
                  try dsimp only
                  by_cases q2 : j < 6
                  · rw [if_pos q2, if_pos (by omega)]
                  · rw [if_neg q2, if_neg (by omega)]
            refine w_icmp_le O at_91 (pn := 94) (pt := 104) rfl (by decide) rfl (fun c91 => ?_) (fun c91 => ?_)
            · replace c91 : ¬ 5 < z.toInt := c91
              exact J104 _ (A5.congr fun j hj => by first | omega | (rw [if_pos (show j < 5 by omega), if_pos (show j < 6 by omega)]))
            · replace c91 : 5 < z.toInt := c91
              refine w_aload O at_94 (pc' := 96) rfl rfl rfl ?_
              refine w_iconst O at_96 (z := (5 : Int32)) (pc' := 97) rfl rfl ?_
              refine w_lloadN O at_97 (pc' := 98) rfl rfl ?_
              refine w_bipush O at_98 (z := (40 : Int32)) (pc' := 100) rfl rfl ?_
              refine w_lushr O at_100 (pc' := 101) rfl ?_
              refine w_l2i O at_101 (pc' := 102) rfl ?_
              refine w_i2b O at_102 (pc' := 103) rfl ?_
              refine w_bastore O at_103 (i := 5) (pc' := 104) rfl A5 (by decide) (by omega) g_b (fun h32 Wh32 => ?_)
              have A5_h32 := A5.set Wh32
              refine J104 _ (A5_h32.congr fun j hj => ?_)
              unfold upd
              by_cases q1 : j = 5
              · rw [if_pos q1, nar_b, q1, if_pos (by omega), hg]; rfl
              · rw [if_neg q1]
                try dsimp only
                by_cases q2 : j < 5
                · rw [if_pos q2, if_pos (by omega)]
                · rw [if_neg q2, if_neg (by omega)]
          refine w_icmp_le O at_75 (pn := 78) (pt := 88) rfl (by decide) rfl (fun c75 => ?_) (fun c75 => ?_)
          · replace c75 : ¬ 4 < z.toInt := c75
            exact J88 _ (A4.congr fun j hj => by first | omega | (rw [if_pos (show j < 4 by omega), if_pos (show j < 5 by omega)]))
          · replace c75 : 4 < z.toInt := c75
            refine w_aload O at_78 (pc' := 80) rfl rfl rfl ?_
            refine w_iconst O at_80 (z := (4 : Int32)) (pc' := 81) rfl rfl ?_
            refine w_lloadN O at_81 (pc' := 82) rfl rfl ?_
            refine w_bipush O at_82 (z := (32 : Int32)) (pc' := 84) rfl rfl ?_
            refine w_lushr O at_84 (pc' := 85) rfl ?_
            refine w_l2i O at_85 (pc' := 86) rfl ?_
            refine w_i2b O at_86 (pc' := 87) rfl ?_
            refine w_bastore O at_87 (i := 4) (pc' := 88) rfl A4 (by decide) (by omega) g_b (fun h33 Wh33 => ?_)
            have A4_h33 := A4.set Wh33
            refine J88 _ (A4_h33.congr fun j hj => ?_)
            unfold upd
            by_cases q1 : j = 4
            · rw [if_pos q1, nar_b, q1, if_pos (by omega), hg]; rfl
            · rw [if_neg q1]
              try dsimp only
              by_cases q2 : j < 4
              · rw [if_pos q2, if_pos (by omega)]
              · rw [if_neg q2, if_neg (by omega)]
        refine w_icmp_le O at_59 (pn := 62) (pt := 72) rfl (by decide) rfl (fun c59 => ?_) (fun c59 => ?_)
        · replace c59 : ¬ 3 < z.toInt := c59
          exact J72 _ (A3.congr fun j hj => by first | omega | (rw [if_pos (show j < 3 by omega), if_pos (show j < 4 by omega)]))
        · replace c59 : 3 < z.toInt := c59
          refine w_aload O at_62 (pc' := 64) rfl rfl rfl ?_
          refine w_iconst O at_64 (z := (3 : Int32)) (pc' := 65) rfl rfl ?_
          refine w_lloadN O at_65 (pc' := 66) rfl rfl ?_
          refine w_bipush O at_66 (z := (24 : Int32)) (pc' := 68) rfl rfl ?_
          refine w_lushr O at_68 (pc' := 69) rfl ?_
          refine w_l2i O at_69 (pc' := 70) rfl ?_
          refine w_i2b O at_70 (pc' := 71) rfl ?_
          refine w_bastore O at_71 (i := 3) (pc' := 72) rfl A3 (by decide) (by omega) g_b (fun h34 Wh34 => ?_)
          have A3_h34 := A3.set Wh34
          refine J72 _ (A3_h34.congr fun j hj => ?_)
          unfold upd
          by_cases q1 : j = 3
          · rw [if_pos q1, nar_b, q1, if_pos (by omega), hg]; rfl
          · rw [if_neg q1]
            try dsimp only
            by_cases q2 : j < 3
            · rw [if_pos q2, if_pos (by omega)]
            · rw [if_neg q2, if_neg (by omega)]
      refine w_icmp_le O at_43 (pn := 46) (pt := 56) rfl (by decide) rfl (fun c43 => ?_) (fun c43 => ?_)
      · replace c43 : ¬ 2 < z.toInt := c43
        exact J56 _ (A2.congr fun j hj => by first | omega | (rw [if_pos (show j < 2 by omega), if_pos (show j < 3 by omega)]))
      · replace c43 : 2 < z.toInt := c43
        refine w_aload O at_46 (pc' := 48) rfl rfl rfl ?_
        refine w_iconst O at_48 (z := (2 : Int32)) (pc' := 49) rfl rfl ?_
        refine w_lloadN O at_49 (pc' := 50) rfl rfl ?_
        refine w_bipush O at_50 (z := (16 : Int32)) (pc' := 52) rfl rfl ?_
        refine w_lushr O at_52 (pc' := 53) rfl ?_
        refine w_l2i O at_53 (pc' := 54) rfl ?_
        refine w_i2b O at_54 (pc' := 55) rfl ?_
        refine w_bastore O at_55 (i := 2) (pc' := 56) rfl A2 (by decide) (by omega) g_b (fun h35 Wh35 => ?_)
        have A2_h35 := A2.set Wh35
        refine J56 _ (A2_h35.congr fun j hj => ?_)
        unfold upd
        by_cases q1 : j = 2
        · rw [if_pos q1, nar_b, q1, if_pos (by omega), hg]; rfl
        · rw [if_neg q1]
          try dsimp only
          by_cases q2 : j < 2
          · rw [if_pos q2, if_pos (by omega)]
          · rw [if_neg q2, if_neg (by omega)]
    refine w_icmp_le O at_27 (pn := 30) (pt := 40) rfl (by decide) rfl (fun c27 => ?_) (fun c27 => ?_)
    · replace c27 : ¬ 1 < z.toInt := c27
      exact J40 _ (A1.congr fun j hj => by first | omega | (rw [if_pos (show j < 1 by omega), if_pos (show j < 2 by omega)]))
    · replace c27 : 1 < z.toInt := c27
      refine w_aload O at_30 (pc' := 32) rfl rfl rfl ?_
      refine w_iconst O at_32 (z := (1 : Int32)) (pc' := 33) rfl rfl ?_
      refine w_lloadN O at_33 (pc' := 34) rfl rfl ?_
      refine w_bipush O at_34 (z := (8 : Int32)) (pc' := 36) rfl rfl ?_
      refine w_lushr O at_36 (pc' := 37) rfl ?_
      refine w_l2i O at_37 (pc' := 38) rfl ?_
      refine w_i2b O at_38 (pc' := 39) rfl ?_
      refine w_bastore O at_39 (i := 1) (pc' := 40) rfl A1 (by decide) (by omega) g_b (fun h36 Wh36 => ?_)
      have A1_h36 := A1.set Wh36
      refine J40 _ (A1_h36.congr fun j hj => ?_)
      unfold upd
      by_cases q1 : j = 1
      · rw [if_pos q1, nar_b, q1, if_pos (by omega), hg]; rfl
      · rw [if_neg q1]
        try dsimp only
        by_cases q2 : j < 1
        · rw [if_pos q2, if_pos (by omega)]
        · rw [if_neg q2, if_neg (by omega)]
  refine w_if_le O at_14 (pn := 17) (pt := 24) rfl (by decide) rfl (fun c14 => ?_) (fun c14 => ?_)
  · replace c14 : ¬ 0 < z.toInt := c14
    exact J24 _ (A_b.congr fun j hj => by omega)
  · replace c14 : 0 < z.toInt := c14
    refine w_aload O at_17 (pc' := 19) rfl rfl rfl ?_
    refine w_iconst O at_19 (z := (0 : Int32)) (pc' := 20) rfl rfl ?_
    refine w_lloadN O at_20 (pc' := 21) rfl rfl ?_
    refine w_l2i O at_21 (pc' := 22) rfl ?_
    refine w_i2b O at_22 (pc' := 23) rfl ?_
    refine w_bastore O at_23 (i := 0) (pc' := 24) rfl A_b (by decide) (by omega) g_b (fun h37 Wh37 => ?_)
    have A_b_h37 := A_b.set Wh37
    refine J24 _ (A_b_h37.congr fun j hj => ?_)
    unfold upd
    by_cases q1 : j = 0
    · rw [if_pos q1, nar_b, q1, if_pos (by omega), hg]; exact congrArg Value.int (bt0 u1).symm
    · rw [if_neg q1]
      try dsimp only
      by_cases q2 : j < 0
      · omega
      · rw [if_neg (by omega)]
set_option maxRecDepth 65536 in
set_option maxHeartbeats 40000000 in
theorem comes_1 {Post : Tables → Env → Array Value → State → Outcome → State → Prop} (hpost : ∀ tb e args s v u, (limb_1_1.after args s (.returned v) u = true ∧ limb_1_2.after args s (.returned v) u = true ∧ True) → FrameEnd s (.returned v) u (Jvm.fieldLocs frame_1_writes args s ++ Jvm.arrayLocs frame_1_arrays args s ++ Jvm.staticLocs frame_1_statics s) 16 128 → Post tb e args s (.returned v) u) :
    ArmFor flags0 classFile x code maxLocals ret World_1 tables_1 room_1 Calls_1 rest_1 Pre_1 Post := by
  intro l hfl _ _ p e ha hc hk s m args below hf hA hF happ hP
  obtain ⟨hcalls, hrest, hpre⟩ := hP
  obtain ⟨-, -, -, hnamed, -, -, -, hat⟩ := (Spec.applies_iff hf).mp happ
  obtain ⟨hg, hn⟩ := and_e (Cond.before_iff.mp (show (Jvm.Cond.and given_1 narrow_1).before args s = true from hpre))
  obtain ⟨g1, g2⟩ := and_e hg
  obtain ⟨g3, g4⟩ := and_e g2
  obtain ⟨g5, g6⟩ := and_e g4
  obtain ⟨g7, g8⟩ := and_e g6
  obtain ⟨w0, w1, w2, w3, rfl⟩ : ∃ w0 w1 w2 w3 : Value, args = #[w0, w1, w2, w3] := by
    have hs : args.size = 4 := by simpa [Cond.value, given_1] using g1
    obtain ⟨L⟩ := args
    match L, hs with
    | [w0, w1, w2, w3], _ => exact ⟨w0, w1, w2, w3, rfl⟩
  have hw := fun d (hd : d ∈ tables_1) => atoms_spec (ws := Jvm.Cond.code x code maxLocals ret :: tables_1) hat d (List.mem_cons_of_mem _ hd)
  have hfit : Fit s := fun {y c} hc i hi => by
    obtain ⟨ha, rfl⟩ := Array.getElem?_eq_some_iff.mp hc
    have q := List.all_eq_true.mp ((Array.all_eq_true_iff_forall_mem.mp hF) _ (Array.getElem_mem ha)) i (List.mem_range.mpr hi)
    simpa [Array.getElem?_eq_getElem hi] using q
  obtain ⟨i0, ei0⟩ := is_v g3
  obtain rfl : w0 = (.int i0) := Option.some.inj ei0
  obtain ⟨i1, ei1⟩ := isL_v g5
  obtain rfl : w1 = (.long i1) := Option.some.inj ei1
  obtain ⟨i2, ei2⟩ := is_v g7
  obtain rfl : w2 = (.int i2) := Option.some.inj ei2
  obtain ⟨i3, ei3⟩ := is_v g8
  obtain rfl : w3 = (.int i3) := Option.some.inj ei3
  obtain ⟨n, o, h1, h2, h3, _, L, rfl, ⟨⟨r, rfl, rfl⟩, N⟩, hq⟩ := (law_con l s _ hw i0 i1 i2 i3 s.heap s.heap.size) (Nat.le_refl _) tables_1 p e ha hc hk s m _ below hf ((Spec.applies_iff_loose hf).mp happ).1 ⟨rfl, State.Warmed39.refl s, rfl⟩ trivial
  refine ⟨n, _, h1, h2, h3, hpost _ _ _ _ _ _ ⟨Cond.after_iff.mpr rfl, Cond.after_iff.mpr (eq_i res_at (Term.int_eval (1)) rfl), trivial⟩ ⟨hq.1, hq.2.1, (hq.2.2.sift fun y hy => Or.inr (N y hy)).mono (by decide) (by decide)⟩⟩
theorem main_1_1 : Claimed_1_1 := comes_1 fun _ _ _ _ _ _ h hF => ⟨h.1, hF⟩
theorem main_1_2 : Claimed_1_2 := comes_1 fun _ _ _ _ _ _ h hF => ⟨h.2.1, hF⟩
end Jvm.Pilot.@@N@@
namespace Jvm.Pilot.@@N@@
open Jvm Jvm.ClassFile Sem Op Lib Jvm.Free Jvm.Stand Jvm.Pilot.@@N@@.Jvm.D
/-! MADE BY PROGRAM (witnessworld.py) out of the Statement's table words and the real class files: 10 classes; the members and pool entries that the words name. The judged class is class 1, her method 2. -/
namespace start1
open Jvm.ClassFile
def u (s : String) : CpInfo := .utf8 (stringToUtf16 s)
/-- a pool by its gaps: so many unusable entries, then the entry; so many at the end -/
def gap : Nat → List CpInfo → List CpInfo
  | 0, r => r
  | n + 1, r => .unusable :: gap n r
def poolList (es : List (Nat × CpInfo)) (last : Nat) : List CpInfo := es.foldr (fun e r => gap e.1 (e.2 :: r)) (gap last [])
def pool (es : List (Nat × CpInfo)) (last : Nat) : Array CpInfo := ⟨poolList es last⟩
def fileOf (pool : Array CpInfo) (this : Nat) (attrs : Array Attribute := #[]) (ms : Array MethodInfo := #[]) (fl : Nat := 33) (sup : Nat := 0) (ifs : Array Nat := #[]) (fds : Array FieldInfo := #[]) : ClassFile where
  minorVersion := 0
  majorVersion := 65
  constantPool := pool
  accessFlags := fl
  thisClass := this
  superClass := sup
  interfaces := ifs
  fields := fds
  methods := ms
  attributes := attrs
def plain (name : String) (sup : Option ClassId) : Class where
  name := name
  kind := .ordinary
  loader := none
  accessFlags := 33
  super := sup
  interfaces := #[]
  cf := none
  fields := #[]
  methods := #[]
  instanceTypes := #[]
  staticTypes := #[]
  resolved := #[]
  callSites := []
  init := .initialized
  statics := none
  mirror := none

def pool0 : Array CpInfo := pool [(5, u "<init>"), (0, u "()V"), (1, .class_ 10), (1, u "java/lang/Object"), (85, u "clone"), (0, u "()Ljava/lang/Object;")] 26

def k0c0 : Code := { maxStack := 0, maxLocals := 1, code := object_method_1_code, exceptionTable := #[], attributes := #[] }
def k0m0 : Method := { name := "<init>", desc := "()V", sig := { parameters := [], returnType := none }, accessFlags := 1, code := some k0c0 }
def k0m1 : Method := { name := "clone", desc := "()Ljava/lang/Object;", sig := { parameters := [], returnType := some (.object "java/lang/Object") }, accessFlags := 260, code := none }
/-- java/lang/Object -/
def k0 : Class := { plain "java/lang/Object" none with
  accessFlags := 33
  interfaces := #[]
  cf := some (fileOf pool0 8 #[] #[{ accessFlags := 1, nameIndex := 5, descriptorIndex := 6, attributes := #[] }, { accessFlags := 260, nameIndex := 96, descriptorIndex := 97, attributes := #[] }] 33 0 #[] #[])
  fields := #[]
  methods := #[k0m0, k0m1]
  instanceTypes := #[]
  staticTypes := #[]
  resolved := Array.replicate 124 none
  statics := none }

def pool1 : Array CpInfo := pool [(2, .class_ 4), (1, u "java/lang/Object"), (0, u "<init>"), (0, u "()V"), (0, .methodref 8 9), (0, .class_ 10), (0, .nameAndType 11 12), (0, u "com/example/acrawl/acrawl/store/PostingTermFrequencyPinLaw"), (0, u "ends"), (0, u "(IIJ)I"), (0, .class_ 14), (0, u "com/example/acrawl/acrawl/store/Posting"), (0, .methodref 13 16), (0, .nameAndType 5 17), (0, u "(I[B)V"), (0, .methodref 13 19), (0, .nameAndType 20 21), (0, u "termFrequency"), (0, u "()I"), (0, .methodref 13 23), (0, .nameAndType 24 25), (0, u "positions"), (0, u "()[I"), (3, u "law"), (0, u "(IJII)Z")] 4

def k1m0 : Method := { name := "<init>", desc := "()V", sig := { parameters := [], returnType := none }, accessFlags := 2, code := none }
def k1c1 : Code := { maxStack := 4, maxLocals := 5, code := method_2_code, exceptionTable := #[], attributes := #[] }
def k1m1 : Method := { name := "ends", desc := "(IIJ)I", sig := { parameters := [.int, .int, .long], returnType := some .int }, accessFlags := 10, code := some k1c1 }
def k1c2 : Code := { maxStack := 5, maxLocals := 10, code := code, exceptionTable := #[], attributes := #[] }
def k1m2 : Method := { name := "law", desc := "(IJII)Z", sig := { parameters := [.int, .long, .int, .int], returnType := some .boolean }, accessFlags := 9, code := some k1c2 }
/-- com/example/acrawl/acrawl/store/PostingTermFrequencyPinLaw -/
def k1 : Class := { plain "com/example/acrawl/acrawl/store/PostingTermFrequencyPinLaw" (some 0) with
  accessFlags := 49
  interfaces := #[]
  cf := some (fileOf pool1 8 #[] #[{ accessFlags := 2, nameIndex := 5, descriptorIndex := 6, attributes := #[] }, { accessFlags := 10, nameIndex := 11, descriptorIndex := 12, attributes := #[] }, { accessFlags := 9, nameIndex := 29, descriptorIndex := 30, attributes := #[] }] 49 2 #[] #[])
  fields := #[]
  methods := #[k1m0, k1m1, k1m2]
  instanceTypes := #[]
  staticTypes := #[]
  resolved := Array.replicate 35 none
  statics := none }

def pool2 : Array CpInfo := pool [(1, .methodref 2 3), (0, .class_ 4), (0, .nameAndType 5 6), (0, u "java/lang/Object"), (0, u "<init>"), (0, u "()V"), (0, .fieldref 8 9), (0, .class_ 10), (0, .nameAndType 11 12), (0, u "com/example/acrawl/acrawl/store/Posting"), (0, u "pageId"), (0, u "I"), (0, .fieldref 8 14), (0, .nameAndType 15 16), (0, u "stored"), (0, u "[B"), (0, .fieldref 8 18), (0, .nameAndType 19 20), (0, u "positions"), (0, u "[I"), (0, .methodref 22 23), (0, .class_ 24), (0, .nameAndType 25 26), (0, u "com/example/acrawl/acrawl/store/Records"), (0, u "countPositions"), (0, u "([B)I"), (0, .methodref 8 28), (0, .nameAndType 29 30), (0, u "decoded"), (0, u "()[I"), (0, .methodref 32 33), (0, .class_ 20), (0, .nameAndType 34 35), (0, u "clone"), (0, u "()Ljava/lang/Object;"), (6, .methodref 22 43), (0, .nameAndType 44 45), (0, u "decodePositions"), (0, u "([B)[I"), (0, u "(I[B)V"), (2, u "()I"), (0, u "termFrequency")] 5

def k2c0 : Code := { maxStack := 2, maxLocals := 3, code := prog_22_method_1_code, exceptionTable := #[], attributes := #[] }
def k2m0 : Method := { name := "<init>", desc := "(I[B)V", sig := { parameters := [.int, (.array .byte)], returnType := none }, accessFlags := 0, code := some k2c0 }
def k2c1 : Code := { maxStack := 1, maxLocals := 1, code := prog_22_method_3_code, exceptionTable := #[], attributes := #[] }
def k2m1 : Method := { name := "termFrequency", desc := "()I", sig := { parameters := [], returnType := some .int }, accessFlags := 1, code := some k2c1 }
def k2c2 : Code := { maxStack := 1, maxLocals := 1, code := prog_22_method_4_code, exceptionTable := #[], attributes := #[] }
def k2m2 : Method := { name := "positions", desc := "()[I", sig := { parameters := [], returnType := some (.array .int) }, accessFlags := 1, code := some k2c2 }
def k2c3 : Code := { maxStack := 2, maxLocals := 1, code := prog_22_method_6_code, exceptionTable := #[], attributes := #[] }
def k2m3 : Method := { name := "decoded", desc := "()[I", sig := { parameters := [], returnType := some (.array .int) }, accessFlags := 2, code := some k2c3 }
/-- com/example/acrawl/acrawl/store/Posting -/
def k2 : Class := { plain "com/example/acrawl/acrawl/store/Posting" (some 0) with
  accessFlags := 33
  interfaces := #[]
  cf := some (fileOf pool2 8 #[] #[{ accessFlags := 0, nameIndex := 5, descriptorIndex := 46, attributes := #[] }, { accessFlags := 1, nameIndex := 50, descriptorIndex := 49, attributes := #[] }, { accessFlags := 1, nameIndex := 19, descriptorIndex := 30, attributes := #[] }, { accessFlags := 2, nameIndex := 29, descriptorIndex := 30, attributes := #[] }] 33 2 #[] #[{ accessFlags := 18, nameIndex := 11, descriptorIndex := 12, attributes := #[] }, { accessFlags := 18, nameIndex := 15, descriptorIndex := 16, attributes := #[] }, { accessFlags := 2, nameIndex := 19, descriptorIndex := 20, attributes := #[] }])
  fields := #[{ name := "pageId", type := .int, accessFlags := 18, slot := 0, constantValue := 0 }, { name := "stored", type := (.array .byte), accessFlags := 18, slot := 1, constantValue := 0 }, { name := "positions", type := (.array .int), accessFlags := 2, slot := 2, constantValue := 0 }]
  methods := #[k2m0, k2m1, k2m2, k2m3]
  instanceTypes := #[.int, (.array .byte), (.array .int)]
  staticTypes := #[]
  resolved := Array.replicate 56 none
  statics := none }

def pool3 : Array CpInfo := pool [(2, .class_ 4), (1, u "java/lang/Object"), (0, u "<init>"), (0, u "()V"), (84, .methodref 92 93), (0, .class_ 94), (0, .nameAndType 95 96), (0, u "com/example/acrawl/acrawl/store/Records"), (0, u "countPositions"), (0, u "([B)I"), (0, .class_ 98), (0, u "com/example/acrawl/acrawl/store/Records$Writer"), (36, .class_ 136), (0, u "com/example/acrawl/acrawl/store/Records$Reader"), (129, u "decodePositions"), (0, u "([B)[I")] 44

def k3m0 : Method := { name := "<init>", desc := "()V", sig := { parameters := [], returnType := none }, accessFlags := 2, code := none }
def k3c1 : Code := { maxStack := 3, maxLocals := 10, code := prog_24_method_7_code, exceptionTable := #[], attributes := #[] }
def k3m1 : Method := { name := "decodePositions", desc := "([B)[I", sig := { parameters := [(.array .byte)], returnType := some (.array .int) }, accessFlags := 8, code := some k3c1 }
def k3c2 : Code := { maxStack := 2, maxLocals := 6, code := prog_24_method_8_code, exceptionTable := #[], attributes := #[] }
def k3m2 : Method := { name := "countPositions", desc := "([B)I", sig := { parameters := [(.array .byte)], returnType := some .int }, accessFlags := 8, code := some k3c2 }
/-- com/example/acrawl/acrawl/store/Records -/
def k3 : Class := { plain "com/example/acrawl/acrawl/store/Records" (some 0) with
  accessFlags := 32
  interfaces := #[]
  cf := some (fileOf pool3 92 #[.nestMembers #[135, 97]] #[{ accessFlags := 2, nameIndex := 5, descriptorIndex := 6, attributes := #[] }, { accessFlags := 8, nameIndex := 266, descriptorIndex := 267, attributes := #[] }, { accessFlags := 8, nameIndex := 95, descriptorIndex := 96, attributes := #[] }] 32 2 #[] #[])
  fields := #[]
  methods := #[k3m0, k3m1, k3m2]
  instanceTypes := #[]
  staticTypes := #[]
  resolved := Array.replicate 312 none
  statics := none }

def pool4 : Array CpInfo := pool [(1, .class_ 2), (0, u "java/lang/Cloneable"), (0, .class_ 4), (0, u "java/lang/Object")] 2

/-- java/lang/Cloneable -/
def k4 : Class := { plain "java/lang/Cloneable" (some 0) with
  accessFlags := 1537
  interfaces := #[]
  cf := some (fileOf pool4 1 #[] #[] 1537 3 #[] #[])
  fields := #[]
  methods := #[]
  instanceTypes := #[]
  staticTypes := #[]
  resolved := Array.replicate 7 none
  statics := none }

def pool5 : Array CpInfo := pool [(1, u "java/io/Serializable"), (0, .class_ 1), (0, u "java/lang/Object"), (0, .class_ 3)] 3

/-- java/io/Serializable -/
def k5 : Class := { plain "java/io/Serializable" (some 0) with
  accessFlags := 1537
  interfaces := #[]
  cf := some (fileOf pool5 2 #[] #[] 1537 4 #[] #[])
  fields := #[]
  methods := #[]
  instanceTypes := #[]
  staticTypes := #[]
  resolved := Array.replicate 8 none
  statics := none }

/-- the primitive byte -/
def k6 : Class := { plain "byte" none with kind := .primitive 'B', accessFlags := 0x411 }
/-- [B -/
def k7 : Class := { plain "[B" (some 0) with kind := .array 6 .byte, interfaces := #[4, 5], accessFlags := 1041 }

/-- the primitive int -/
def k8 : Class := { plain "int" none with kind := .primitive 'I', accessFlags := 0x411 }
/-- [I -/
def k9 : Class := { plain "[I" (some 0) with kind := .array 8 .int, interfaces := #[4, 5], accessFlags := 1041 }

def heap : Heap := #[]
def classes : Array Class := #[k0, k1, k2, k3, k4, k5, k6, k7, k8, k9]
def interned : List (Array UInt16 × Addr) := []
def slotsUsed : Nat := 0
def theMethod : MethodId := ⟨1, 2⟩
def args0 : Array Value := #[.int 7, .long 1, .int 2, .int 3]
def aboutOver (below : List Frame) : State where
  vm := { classes := classes, interned := interned.toArray }
  heap := heap
  slotsUsed := slotsUsed
  threads := #[{ frames := .invoking theMethod args0 :: below }]
def below0 : List Frame := [.native { method := ⟨0, 0⟩, args := #[] }]
def about1 : State := aboutOver below0
def p0 : Program := .bare "" "" ""
def e0 : Env := launch0.env 0 0 0
theorem w_frames : about1.frames = Frame.invoking theMethod args0 :: below0 := rfl
set_option maxRecDepth 65536 in
theorem w_args : argsFit about1.vm theMethod args0 = true := by decide +kernel
set_option maxRecDepth 65536 in
theorem w_heap : heapFits about1 = true := by decide +kernel
set_option maxRecDepth 65536 in
theorem w_runnable : about1.curStatus? = some .runnable := by decide +kernel
set_option maxRecDepth 65536 in
theorem w_alone : about1.alone = true := by decide +kernel
set_option maxRecDepth 65536 in
theorem w_named : about1.methodNamed? x = some theMethod := by decide +kernel
set_option maxRecDepth 65536 in
theorem w_hears : about1.hears theMethod below0 = true := by decide +kernel
set_option maxRecDepth 65536 in
theorem w_ripe : about1.ripe theMethod args0 below0 = true := by decide +kernel
theorem w_running : about1.status = .running := rfl
set_option maxRecDepth 65536 in
theorem w_room : about1.hasRoom e0.platform room_1 = true :=
  launch0.hasRoom_least _ room_1 (by decide +kernel) (by decide +kernel) (by decide +kernel) (by decide +kernel) (by decide +kernel) (by decide +kernel)
theorem allAtoms_all (ts : List Jvm.Cond) (a : Array Jvm.Value) (st : Jvm.State) : (allAtoms ts).before a st = ts.all (fun c => c.before a st) := by
  induction ts with
  | nil => rfl
  | cons c t ih =>
    show (Jvm.Cond.and c (allAtoms t)).before a st = _
    rw [Jvm.Cond.before_and, ih, List.all_cons]
def words1 : List Jvm.Cond := Jvm.Cond.code x code maxLocals ret :: tables_1
/-- a 'code' word, met by the world's own term for the bytes: nothing is compared byte by byte -/
theorem code_word {y : MethodName} {bytes : ByteArray} {mx : Nat} {rt : Option FieldType} {a : Array Value} {s : State} {m : MethodId} {meth : Method} {c : Code} (h1 : s.methodNamed? y = some m) (h2 : s.vm.method? m = some meth) (h3 : meth.code = some c) (h4 : c.code = bytes)
    (h5 : (c.maxLocals == mx && c.exceptionTable.isEmpty && decide (c.maxStack ≤ mostOperands) && decide (meth.sig.returnType = rt) && !meth.locks && decide (parseMethodDescriptor y.desc = some meth.sig)) = true) : (Jvm.Cond.code y bytes mx rt).before a s = true := by
  simp only [Bool.and_eq_true, beq_iff_eq, Bool.not_eq_true', decide_eq_true_eq] at h5
  obtain ⟨⟨⟨⟨⟨g1, g2⟩, g3⟩, g4⟩, g5⟩, g6⟩ := h5
  simp [Cond.before, Cond.holds, Cond.value, h1, h2, h3, h4, g1, g2, g3, g4, g5, g6]
def isCode : Jvm.Cond → Bool
  | .code _ _ _ _ => true
  | _ => false
theorem all_split {L : List Jvm.Cond} {P : Jvm.Cond → Bool} (h1 : L.all (fun c => isCode c || P c) = true) (h2 : ∀ c ∈ L.filter isCode, P c = true) : L.all P = true := by
  refine List.all_eq_true.mpr fun c hc => ?_
  have h := List.all_eq_true.mp h1 c hc
  rcases Bool.eq_false_or_eq_true (isCode c) with hi | hi
  · exact h2 c (List.mem_filter.mpr ⟨hc, hi⟩)
  · simpa [hi] using h
set_option maxRecDepth 65536 in
theorem w_c0 : (Jvm.Cond.code x code maxLocals ret).before args0 about1 = true := code_word (m := ⟨1, 2⟩) (meth := k1m2) (c := k1c2) (by decide +kernel) rfl rfl rfl (by decide +kernel)
set_option maxRecDepth 65536 in
theorem w_c1 : (Jvm.Cond.code ({ cls := "com/example/acrawl/acrawl/store/PostingTermFrequencyPinLaw", name := "ends", desc := "(IIJ)I" } : Jvm.MethodName) method_2_code (5 : Nat) (Option.some Jvm.ClassFile.FieldType.int)).before args0 about1 = true := code_word (m := ⟨1, 1⟩) (meth := k1m1) (c := k1c1) (by decide +kernel) rfl rfl rfl (by decide +kernel)
set_option maxRecDepth 65536 in
theorem w_c2 : (Jvm.Cond.code ({ cls := "com/example/acrawl/acrawl/store/Posting", name := "<init>", desc := "(I[B)V" } : Jvm.MethodName) prog_22_method_1_code (3 : Nat) (Option.none : Option Jvm.ClassFile.FieldType)).before args0 about1 = true := code_word (m := ⟨2, 0⟩) (meth := k2m0) (c := k2c0) (by decide +kernel) rfl rfl rfl (by decide +kernel)
set_option maxRecDepth 65536 in
theorem w_c3 : (Jvm.Cond.code ({ cls := "java/lang/Object", name := "<init>", desc := "()V" } : Jvm.MethodName) object_method_1_code (1 : Nat) (Option.none : Option Jvm.ClassFile.FieldType)).before args0 about1 = true := code_word (m := ⟨0, 0⟩) (meth := k0m0) (c := k0c0) (by decide +kernel) rfl rfl rfl (by decide +kernel)
set_option maxRecDepth 65536 in
theorem w_c4 : (Jvm.Cond.code ({ cls := "com/example/acrawl/acrawl/store/Posting", name := "termFrequency", desc := "()I" } : Jvm.MethodName) prog_22_method_3_code (1 : Nat) (Option.some Jvm.ClassFile.FieldType.int)).before args0 about1 = true := code_word (m := ⟨2, 1⟩) (meth := k2m1) (c := k2c1) (by decide +kernel) rfl rfl rfl (by decide +kernel)
set_option maxRecDepth 65536 in
theorem w_c5 : (Jvm.Cond.code ({ cls := "com/example/acrawl/acrawl/store/Records", name := "countPositions", desc := "([B)I" } : Jvm.MethodName) prog_24_method_8_code (6 : Nat) (Option.some Jvm.ClassFile.FieldType.int)).before args0 about1 = true := code_word (m := ⟨3, 2⟩) (meth := k3m2) (c := k3c2) (by decide +kernel) rfl rfl rfl (by decide +kernel)
set_option maxRecDepth 65536 in
theorem w_c6 : (Jvm.Cond.code ({ cls := "com/example/acrawl/acrawl/store/Posting", name := "positions", desc := "()[I" } : Jvm.MethodName) prog_22_method_4_code (1 : Nat) (Option.some (Jvm.ClassFile.FieldType.array Jvm.ClassFile.FieldType.int))).before args0 about1 = true := code_word (m := ⟨2, 2⟩) (meth := k2m2) (c := k2c2) (by decide +kernel) rfl rfl rfl (by decide +kernel)
set_option maxRecDepth 65536 in
theorem w_c7 : (Jvm.Cond.code ({ cls := "com/example/acrawl/acrawl/store/Posting", name := "decoded", desc := "()[I" } : Jvm.MethodName) prog_22_method_6_code (1 : Nat) (Option.some (Jvm.ClassFile.FieldType.array Jvm.ClassFile.FieldType.int))).before args0 about1 = true := code_word (m := ⟨2, 3⟩) (meth := k2m3) (c := k2c3) (by decide +kernel) rfl rfl rfl (by decide +kernel)
set_option maxRecDepth 65536 in
theorem w_c8 : (Jvm.Cond.code ({ cls := "com/example/acrawl/acrawl/store/Records", name := "decodePositions", desc := "([B)[I" } : Jvm.MethodName) prog_24_method_7_code (10 : Nat) (Option.some (Jvm.ClassFile.FieldType.array Jvm.ClassFile.FieldType.int))).before args0 about1 = true := code_word (m := ⟨3, 1⟩) (meth := k3m1) (c := k3c1) (by decide +kernel) rfl rfl rfl (by decide +kernel)
def codes1 : List Jvm.Cond := [Jvm.Cond.code x code maxLocals ret, Jvm.Cond.code ({ cls := "com/example/acrawl/acrawl/store/PostingTermFrequencyPinLaw", name := "ends", desc := "(IIJ)I" } : Jvm.MethodName) method_2_code (5 : Nat) (Option.some Jvm.ClassFile.FieldType.int), Jvm.Cond.code ({ cls := "com/example/acrawl/acrawl/store/Posting", name := "<init>", desc := "(I[B)V" } : Jvm.MethodName) prog_22_method_1_code (3 : Nat) (Option.none : Option Jvm.ClassFile.FieldType), Jvm.Cond.code ({ cls := "java/lang/Object", name := "<init>", desc := "()V" } : Jvm.MethodName) object_method_1_code (1 : Nat) (Option.none : Option Jvm.ClassFile.FieldType), Jvm.Cond.code ({ cls := "com/example/acrawl/acrawl/store/Posting", name := "termFrequency", desc := "()I" } : Jvm.MethodName) prog_22_method_3_code (1 : Nat) (Option.some Jvm.ClassFile.FieldType.int), Jvm.Cond.code ({ cls := "com/example/acrawl/acrawl/store/Records", name := "countPositions", desc := "([B)I" } : Jvm.MethodName) prog_24_method_8_code (6 : Nat) (Option.some Jvm.ClassFile.FieldType.int), Jvm.Cond.code ({ cls := "com/example/acrawl/acrawl/store/Posting", name := "positions", desc := "()[I" } : Jvm.MethodName) prog_22_method_4_code (1 : Nat) (Option.some (Jvm.ClassFile.FieldType.array Jvm.ClassFile.FieldType.int)), Jvm.Cond.code ({ cls := "com/example/acrawl/acrawl/store/Posting", name := "decoded", desc := "()[I" } : Jvm.MethodName) prog_22_method_6_code (1 : Nat) (Option.some (Jvm.ClassFile.FieldType.array Jvm.ClassFile.FieldType.int)), Jvm.Cond.code ({ cls := "com/example/acrawl/acrawl/store/Records", name := "decodePositions", desc := "([B)[I" } : Jvm.MethodName) prog_24_method_7_code (10 : Nat) (Option.some (Jvm.ClassFile.FieldType.array Jvm.ClassFile.FieldType.int))]
set_option maxRecDepth 65536 in
theorem codes_eq : words1.filter isCode = codes1 := rfl
theorem w_codes : ∀ c ∈ words1.filter isCode, c.before args0 about1 = true := by
  rw [codes_eq]
  intro c hc
  simp only [codes1, List.mem_cons, List.not_mem_nil, or_false] at hc
  rcases hc with rfl | rfl | rfl | rfl | rfl | rfl | rfl | rfl | rfl
  · exact w_c0
  · exact w_c1
  · exact w_c2
  · exact w_c3
  · exact w_c4
  · exact w_c5
  · exact w_c6
  · exact w_c7
  · exact w_c8
set_option maxRecDepth 65536 in
theorem w_t1 : (words1.take 24).all (fun c => isCode c || c.before args0 about1) = true := by decide +kernel
set_option maxRecDepth 65536 in
theorem w_t2 : ((words1.drop 24).take 24).all (fun c => isCode c || c.before args0 about1) = true := by decide +kernel
set_option maxRecDepth 65536 in
theorem w_t3 : ((words1.drop 24).drop 24).all (fun c => isCode c || c.before args0 about1) = true := by decide +kernel
theorem w_tables : (allAtoms (Jvm.Cond.code x code maxLocals ret :: tables_1)).before args0 about1 = true := by
  rw [allAtoms_all]
  show words1.all (fun c => c.before args0 about1) = true
  refine all_split ?_ w_codes
  rw [← List.take_append_drop 24 words1, List.all_append, w_t1, ← List.take_append_drop 24 (words1.drop 24), List.all_append, w_t2, w_t3]
  rfl
set_option maxRecDepth 65536 in
theorem w_case : (Jvm.Cond.and given_1 narrow_1).before args0 about1 = true := by decide +kernel
theorem w_applies : (headSpec (Jvm.Cond.code x code maxLocals ret :: tables_1) room_1).applies x e0.platform about1 = true :=
  (Spec.applies_iff w_frames).mpr ⟨w_running, w_runnable, w_alone, w_named, w_hears, w_ripe, w_room, w_tables⟩
theorem atStart : AtStart classFile x code maxLocals ret World_1 tables_1 room_1 Calls_1 rest_1 Pre_1 launch0 p0 e0 about1 theMethod args0 below0 :=
  ⟨lists_1, trivial, launch0.admits_env _ _ _, launch0.least_env, fairChoices_fair.cas, fairChoices_fair.clock, w_frames, w_args, w_heap, w_applies, trivial, trivial, w_case⟩
end start1
theorem witness_1 : WitnessClaimed_1 := ⟨start1.p0, start1.e0, start1.about1, start1.theMethod, start1.args0, start1.below0, start1.atStart⟩
end Jvm.Pilot.@@N@@
