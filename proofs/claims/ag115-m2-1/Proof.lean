import JvmDerived
import JvmDerived.Pilot.@@N@@Statement
import JvmDerived.Pilot.@@N@@Code
set_option linter.unusedVariables false
set_option linter.unusedSimpArgs false
namespace Jvm.Pilot.@@N@@
open Jvm Jvm.ClassFile Sem Op Lib Jvm.Free Jvm.Stand Jvm.LawKit Jvm.RoadKit Bundle Jvm.Pilot.@@N@@.Jvm.D

/-! ## OWN LAYER: weakest preconditions over the walk -/
abbrev Cx : Type := (Program × Launch × Env × Room) × (State × MethodId × Array Value × List Frame) × (Method × Code) × (Option Value → Heap → Prop) × Nat
abbrev Sd (K : Cx) (T : State) (locs : List Loc) (cells slots : Nat) : Prop := Stand K.1.1 K.1.2.1 K.1.2.2.1 K.1.2.2.2 K.2.1.1 K.2.1.2.1 K.2.1.2.2.1 K.2.1.2.2.2 K.2.2.1.1 K.2.2.1.2 T locs cells slots
abbrev Stp (K : Cx) (A B : State) : Prop := Steps K.1.1.tables K.1.2.2.1 K.2.1.2.2.2 A B
abbrev Tp (K : Cx) (T : State) (pc : Nat) (L : Array Slot) (st : List Value) : State := T.setTop (mkF K.2.1.2.1 pc L st)
/-- from every state that stands at pc with these locals, this stack and this heap the run ends as K says -/
def W (K : Cx) (h : Heap) (cells slots pc : Nat) (L : Array Slot) (st : List Value) : Prop :=
  ∀ T locs, Sd K T locs cells slots → T.heap = h → Fr K.2.2.2.2 locs →
    ∃ s₂ o, Stp K (Tp K T pc L st) s₂ ∧ s₂.status = .running ∧ Ended s₂ K.2.1.2.2.2 o ∧ ∃ v Ls, o = .returned v ∧ (K.2.2.2.1 v s₂.heap ∧ Fr K.2.2.2.2 Ls) ∧ FrameEnd K.2.1.1 o s₂ Ls K.1.2.2.2.cells K.1.2.2.2.slots
def Ok (K : Cx) (l : Launch) (Z : State) (a0 : Array Value) (ts : List Jvm.Cond) (B : ByteArray) (ml : Nat) (rt : Option FieldType) (own nm : String) (R : Room) (n0 : Nat) (Q : Option Value → Heap → Prop) : Prop :=
  K.1.1.tables.exec = Jvm.exec ∧ K.2.2.1.2.code = B ∧ K.2.2.1.2.maxLocals = ml ∧ K.2.1.1.vm.findClass own = some K.2.1.2.1.cls ∧ K.2.2.1.1.name = nm ∧ K.2.2.1.1.sig.returnType = rt ∧ K.2.2.1.1.locks = false ∧ Z.Warmed39 K.2.1.1.vm ∧ (∀ d ∈ ts, d.before a0 Z = true) ∧ n0 ≤ K.2.1.1.heap.size ∧ K.1.2.1 = l ∧ K.1.2.2.2 = R ∧ K.2.2.2.2 = n0 ∧ K.2.2.2.1 = Q
/-- a body's contract -/
def Con (l : Launch) (Z : State) (y : MethodName) (B : ByteArray) (ml : Nat) (rt : Option FieldType) (rm : Room) (as : List Value) (h : Heap) (n0 : Nat) (Q : Option Value → Heap → Prop) : Prop :=
  n0 ≤ h.size → ∀ ws, MetFree l y (head1 (Jvm.Cond.code y B ml rt :: ws) rm) (fun a U => a = as.toArray ∧ Z.Warmed39 U.vm ∧ U.heap = h) (fun _ _ _ _ _ => True) (fun _ U o U' => ∃ v L, o = .returned v ∧ (Q v U'.heap ∧ Fr n0 L) ∧ FrameEnd U o U' L rm.cells rm.slots)
def RetI (P : Int32 → Heap → Prop) (v : Option Value) (h : Heap) : Prop := ∃ r, v = some (.int r) ∧ P r h
def RetL (P : Int64 → Heap → Prop) (v : Option Value) (h : Heap) : Prop := ∃ r, v = some (.long r) ∧ P r h
def RetA (P : Value → Heap → Prop) (v : Option Value) (h : Heap) : Prop := ∃ r, v = some r ∧ r.isRef = true ∧ P r h
def RetV (P : Heap → Prop) (v : Option Value) (h : Heap) : Prop := v = none ∧ P h
section OwnW
variable {K : Cx} {l : Launch} {Z : State} {a0 : Array Value} {ts : List Jvm.Cond} {B : ByteArray} {ml : Nat} {rt : Option FieldType} {own nm : String} {R : Room} {n0 : Nat} {Q : Option Value → Heap → Prop} {h : Heap} {cl sl pc pc' : Nat} {L L' : Array Slot} {st st' : List Value}
theorem W.step (f : ∀ T locs, Sd K T locs cl sl → T.heap = h → ∀ t, Stp K (Tp K T pc' L' st') t → Stp K (Tp K T pc L st) t) (k : W K h cl sl pc' L' st') : W K h cl sl pc L st := fun T locs X e N => by
  obtain ⟨s2, o, h1, r⟩ := k T locs X e N
  exact ⟨s2, o, f T locs X e _ h1, r⟩
theorem W.stepT (f : ∀ T locs, Sd K T locs cl sl → T.heap = h → ∃ T', Sd K T' locs cl sl ∧ T'.heap = h ∧ ∀ t, Stp K (Tp K T' pc' L' st') t → Stp K (Tp K T pc L st) t) (k : W K h cl sl pc' L' st') : W K h cl sl pc L st := fun T locs X e N => by
  obtain ⟨T', X', e', g⟩ := f T locs X e
  obtain ⟨s2, o, h1, r⟩ := k T' locs X' e' N
  exact ⟨s2, o, g _ h1, r⟩
theorem W.stepW {a : Addr} {i : Nat} {v : Value} (f : ∀ T locs, Sd K T locs cl sl → T.heap = h → ∃ T' h', Sd K T' (locs ++ [⟨a, i⟩]) cl sl ∧ T'.heap = h' ∧ Wr h h' a i v ∧ ∀ t, Stp K (Tp K T' pc' L' st') t → Stp K (Tp K T pc L st) t) (ha : K.2.2.2.2 ≤ a) (k : ∀ h', Wr h h' a i v → W K h' cl sl pc' L' st') : W K h cl sl pc L st := fun T locs X e N => by
  obtain ⟨T', h', X', e', w, g⟩ := f T locs X e
  obtain ⟨s2, o, h1, r⟩ := k h' w T' _ X' e' (Fr.snoc X' N ha)
  exact ⟨s2, o, g _ h1, r⟩
theorem W.mono {cl' sl' : Nat} (hc : cl ≤ cl') (hs : sl ≤ sl') (k : W K h cl' sl' pc L st) : W K h cl sl pc L st := fun T locs X e N => k T locs (X.mono hc hs) e N
theorem Sd.size {T : State} {locs : List Loc} (X : Sd K T locs cl sl) : K.2.1.1.heap.size ≤ T.heap.size := X.same.2.1
theorem cI {cl' sl' : Nat} {P : Int32 → Heap → Prop} (k : ∀ r h', P r h' → W K h' cl' sl' pc' L (.int r :: st)) : ∀ v h', RetI P v h' → W K h' cl' sl' pc' L (v.toList ++ st) := by
  rintro _ h' ⟨r, rfl, hp⟩; exact k r h' hp
theorem cL {cl' sl' : Nat} {P : Int64 → Heap → Prop} (k : ∀ r h', P r h' → W K h' cl' sl' pc' L (.long r :: st)) : ∀ v h', RetL P v h' → W K h' cl' sl' pc' L (v.toList ++ st) := by
  rintro _ h' ⟨r, rfl, hp⟩; exact k r h' hp
theorem cA {cl' sl' : Nat} {P : Value → Heap → Prop} (k : ∀ r h', r.isRef = true → P r h' → W K h' cl' sl' pc' L (r :: st)) : ∀ v h', RetA P v h' → W K h' cl' sl' pc' L (v.toList ++ st) := by
  rintro _ h' ⟨r, rfl, hr, hp⟩; exact k r h' hr hp
theorem cV {cl' sl' : Nat} {P : Heap → Prop} (k : ∀ h', P h' → W K h' cl' sl' pc' L st) : ∀ v h', RetV P v h' → W K h' cl' sl' pc' L (v.toList ++ st) := by
  rintro _ h' ⟨rfl, hp⟩; exact k h' hp
theorem Con.weak {y : MethodName} {rm : Room} {as : List Value} {Q' : Option Value → Heap → Prop} (c : Con l Z y B ml rt rm as h n0 Q) (q : ∀ v h', Q v h' → Q' v h') : Con l Z y B ml rt rm as h n0 Q' := fun hn ws p e ha hc hk s m args below hf happ hP hK => by
  obtain ⟨n, o, h1, h2, h3, v, L, e1, ⟨h4, h5⟩, h6⟩ := c hn ws p e ha hc hk s m args below hf happ hP hK
  exact ⟨n, o, h1, h2, h3, v, L, e1, ⟨q _ _ h4, h5⟩, h6⟩
theorem Con.body {y : MethodName} {rm : Room} {as : List Value} {L0 : Array Slot} (hw : ∀ d ∈ ts, d.before a0 Z = true) (pn : plainFor y = true) (ef : ∀ m, entryFrame m as.toArray ml = mkF m 0 L0 [])
    (b : ∀ K, Ok K l Z a0 ts B ml rt y.cls y.name rm n0 Q → W K h 0 0 0 L0 []) : Con l Z y B ml rt rm as h n0 Q := by
  intro hn ws
  refine MetFree.of_bodySF pn hisR ?_
  intro p e s m args below meth c s₁ Bd hml0 hP hK
  obtain ⟨rfl, hZ, hh⟩ := hP
  have hown : s.vm.findClass y.cls = some m.cls := findClass_of_methodNamed Bd.named
  have hnm := (name_of_methodNamed Bd.named Bd.method).1
  have X0 : Stand p l e rm s m as.toArray below meth c s₁ [] 0 0 := Stand.of_body Bd
  have e0 : s₁.heap = h := by rw [← hh, Bd.state]; rfl
  have q := b ((p, l, e, rm), (s, m, as.toArray, below), (meth, c), Q, n0) ⟨Bd.exec, Bd.bytes, hml0, hown, hnm, Bd.returns, Bd.notSynchronized, hZ, hw, by rw [← hh] at hn; exact hn, rfl, rfl, rfl, rfl⟩ s₁ [] X0 e0 (Fr.nil _)
  obtain ⟨s2, o, h1, h2, h3, h4⟩ := q
  exact ⟨s2, o, castTop (ef m) h1, h2, h3, h4⟩

theorem w_iloadN (O : Ok K l Z a0 ts B ml rt own nm R n0 Q) {i : Fin 4} {v : Int32} (hd : decode B pc = .ok (.iload_n i, 1)) (hp : pc + 1 = pc') (hl : L[i.val]? = some (.val (.int v))) (k : W K h cl sl pc' L (.int v :: st)) : W K h cl sl pc L (st) := by
  subst hp; exact W.step (fun T locs X e t q => XS.iloadN X.here O.1 rfl (hb O.2.1 hd) hl q) k
theorem w_iload (O : Ok K l Z a0 ts B ml rt own nm R n0 Q) {i : Nat} {v : Int32} (hd : decode B pc = .ok (.iload i, 2)) (hp : pc + 2 = pc') (hl : L[i]? = some (.val (.int v))) (k : W K h cl sl pc' L (.int v :: st)) : W K h cl sl pc L (st) := by
  subst hp; exact W.step (fun T locs X e t q => XS.iload X.here O.1 rfl (hb O.2.1 hd) hl q) k
theorem w_lloadN (O : Ok K l Z a0 ts B ml rt own nm R n0 Q) {i : Fin 4} {v : Int64} (hd : decode B pc = .ok (.lload_n i, 1)) (hp : pc + 1 = pc') (hl : L[i.val]? = some (.val (.long v))) (k : W K h cl sl pc' L (.long v :: st)) : W K h cl sl pc L (st) := by
  subst hp; exact W.step (fun T locs X e t q => XS.lloadN X.here O.1 rfl (hb O.2.1 hd) hl q) k
theorem w_lload (O : Ok K l Z a0 ts B ml rt own nm R n0 Q) {i : Nat} {v : Int64} (hd : decode B pc = .ok (.lload i, 2)) (hp : pc + 2 = pc') (hl : L[i]? = some (.val (.long v))) (k : W K h cl sl pc' L (.long v :: st)) : W K h cl sl pc L (st) := by
  subst hp; exact W.step (fun T locs X e t q => XS.lload X.here O.1 rfl (hb O.2.1 hd) hl q) k
theorem w_aloadN (O : Ok K l Z a0 ts B ml rt own nm R n0 Q) {i : Fin 4} {v : Value} (hd : decode B pc = .ok (.aload_n i, 1)) (hp : pc + 1 = pc') (hl : L[i.val]? = some (.val v)) (hv : v.isRef = true) (k : W K h cl sl pc' L (v :: st)) : W K h cl sl pc L (st) := by
  subst hp; exact W.step (fun T locs X e t q => XS.aloadN X.here O.1 rfl (hb O.2.1 hd) hl hv q) k
theorem w_aload (O : Ok K l Z a0 ts B ml rt own nm R n0 Q) {i : Nat} {v : Value} (hd : decode B pc = .ok (.aload i, 2)) (hp : pc + 2 = pc') (hl : L[i]? = some (.val v)) (hv : v.isRef = true) (k : W K h cl sl pc' L (v :: st)) : W K h cl sl pc L (st) := by
  subst hp; exact W.step (fun T locs X e t q => XS.aload X.here O.1 rfl (hb O.2.1 hd) hl hv q) k
theorem w_istoreN (O : Ok K l Z a0 ts B ml rt own nm R n0 Q) {i : Fin 4} {v : Int32} (hd : decode B pc = .ok (.istore_n i, 1)) (hp : pc + 1 = pc') (hl : storeLocals L i.val (.int v) = some L') (k : W K h cl sl pc' L' st) : W K h cl sl pc L (.int v :: st) := by
  subst hp; exact W.step (fun T locs X e t q => XS.istoreN X.here O.1 rfl (hb O.2.1 hd) rfl hl q) k
theorem w_istoreNG (O : Ok K l Z a0 ts B ml rt own nm R n0 Q) {i : Fin 4} {v : Int32} {L' : Int32 → Array Slot} (hd : decode B pc = .ok (.istore_n i, 1)) (hp : pc + 1 = pc') (hl : ∀ z, storeLocals L i.val (.int z) = some (L' z)) (k : ∀ z, z = v → W K h cl sl pc' (L' z) st) : W K h cl sl pc L (.int v :: st) := w_istoreN O hd hp (hl v) (k v rfl)
theorem w_istore (O : Ok K l Z a0 ts B ml rt own nm R n0 Q) {i : Nat} {v : Int32} (hd : decode B pc = .ok (.istore i, 2)) (hp : pc + 2 = pc') (hl : storeLocals L i (.int v) = some L') (k : W K h cl sl pc' L' st) : W K h cl sl pc L (.int v :: st) := by
  subst hp; exact W.step (fun T locs X e t q => XS.istore X.here O.1 rfl (hb O.2.1 hd) rfl hl q) k
theorem w_istoreG (O : Ok K l Z a0 ts B ml rt own nm R n0 Q) {i : Nat} {v : Int32} {L' : Int32 → Array Slot} (hd : decode B pc = .ok (.istore i, 2)) (hp : pc + 2 = pc') (hl : ∀ z, storeLocals L i (.int z) = some (L' z)) (k : ∀ z, z = v → W K h cl sl pc' (L' z) st) : W K h cl sl pc L (.int v :: st) := w_istore O hd hp (hl v) (k v rfl)
theorem w_lstoreN (O : Ok K l Z a0 ts B ml rt own nm R n0 Q) {i : Fin 4} {v : Int64} (hd : decode B pc = .ok (.lstore_n i, 1)) (hp : pc + 1 = pc') (hl : storeLocals L i.val (.long v) = some L') (k : W K h cl sl pc' L' st) : W K h cl sl pc L (.long v :: st) := by
  subst hp; exact W.step (fun T locs X e t q => XS.lstoreN X.here O.1 rfl (hb O.2.1 hd) rfl hl q) k
theorem w_lstoreNG (O : Ok K l Z a0 ts B ml rt own nm R n0 Q) {i : Fin 4} {v : Int64} {L' : Int64 → Array Slot} (hd : decode B pc = .ok (.lstore_n i, 1)) (hp : pc + 1 = pc') (hl : ∀ z, storeLocals L i.val (.long z) = some (L' z)) (k : ∀ z, z = v → W K h cl sl pc' (L' z) st) : W K h cl sl pc L (.long v :: st) := w_lstoreN O hd hp (hl v) (k v rfl)
theorem w_lstore (O : Ok K l Z a0 ts B ml rt own nm R n0 Q) {i : Nat} {v : Int64} (hd : decode B pc = .ok (.lstore i, 2)) (hp : pc + 2 = pc') (hl : storeLocals L i (.long v) = some L') (k : W K h cl sl pc' L' st) : W K h cl sl pc L (.long v :: st) := by
  subst hp; exact W.step (fun T locs X e t q => XS.lstore X.here O.1 rfl (hb O.2.1 hd) rfl hl q) k
theorem w_lstoreG (O : Ok K l Z a0 ts B ml rt own nm R n0 Q) {i : Nat} {v : Int64} {L' : Int64 → Array Slot} (hd : decode B pc = .ok (.lstore i, 2)) (hp : pc + 2 = pc') (hl : ∀ z, storeLocals L i (.long z) = some (L' z)) (k : ∀ z, z = v → W K h cl sl pc' (L' z) st) : W K h cl sl pc L (.long v :: st) := w_lstore O hd hp (hl v) (k v rfl)
theorem w_astoreN (O : Ok K l Z a0 ts B ml rt own nm R n0 Q) {i : Fin 4} {v : Value} (hd : decode B pc = .ok (.astore_n i, 1)) (hp : pc + 1 = pc') (hv : v.isRef = true) (hl : storeLocals L i.val v = some L') (k : W K h cl sl pc' L' st) : W K h cl sl pc L (v :: st) := by
  subst hp; exact W.step (fun T locs X e t q => XS.astoreN X.here O.1 rfl (hb O.2.1 hd) rfl hv hl q) k
theorem w_astore (O : Ok K l Z a0 ts B ml rt own nm R n0 Q) {i : Nat} {v : Value} (hd : decode B pc = .ok (.astore i, 2)) (hp : pc + 2 = pc') (hv : v.isRef = true) (hl : storeLocals L i v = some L') (k : W K h cl sl pc' L' st) : W K h cl sl pc L (v :: st) := by
  subst hp; exact W.step (fun T locs X e t q => XS.astore X.here O.1 rfl (hb O.2.1 hd) rfl hv hl q) k
theorem w_iinc (O : Ok K l Z a0 ts B ml rt own nm R n0 Q) {i : Nat} {cst : Int} {x z : Int32} (hd : decode B pc = .ok (.iinc i cst, 3)) (hp : pc + 3 = pc') (hl : L[i]? = some (.val (.int x))) (hz : x + Int32.ofInt cst = z) (hl' : storeLocals L i (.int z) = some L') (k : W K h cl sl pc' L' st) : W K h cl sl pc L st := by
  subst hp; subst hz; exact W.step (fun T locs X e t q => XS.iinc X.here O.1 rfl (hb O.2.1 hd) hl hl' q) k
theorem w_iincG (O : Ok K l Z a0 ts B ml rt own nm R n0 Q) {i : Nat} {cst : Int} {x y : Int32} {L' : Int32 → Array Slot} (hd : decode B pc = .ok (.iinc i cst, 3)) (hp : pc + 3 = pc') (hl : L[i]? = some (.val (.int x))) (hz : Int32.ofInt cst = y) (hl' : ∀ z, storeLocals L i (.int z) = some (L' z)) (k : ∀ z, z = x + y → W K h cl sl pc' (L' z) st) : W K h cl sl pc L st := by
  subst hz; exact w_iinc O hd hp hl rfl (hl' _) (k _ rfl)
theorem w_iconst (O : Ok K l Z a0 ts B ml rt own nm R n0 Q) {i : Int} {z : Int32} (hd : decode B pc = .ok (.iconst i, 1)) (hp : pc + 1 = pc') (hz : Int32.ofInt i = z) (k : W K h cl sl pc' L (.int z :: st)) : W K h cl sl pc L (st) := by
  subst hp; exact W.step (fun T locs X e t q => XS.iconst X.here O.1 rfl (hb O.2.1 hd) (by rw [hz]; exact q)) k
theorem w_bipush (O : Ok K l Z a0 ts B ml rt own nm R n0 Q) {i : Int} {z : Int32} (hd : decode B pc = .ok (.bipush i, 2)) (hp : pc + 2 = pc') (hz : (Int8.ofInt i).toInt32 = z) (k : W K h cl sl pc' L (.int z :: st)) : W K h cl sl pc L (st) := by
  subst hp; exact W.step (fun T locs X e t q => XS.bipush X.here O.1 rfl (hb O.2.1 hd) (by rw [hz]; exact q)) k
theorem w_sipush (O : Ok K l Z a0 ts B ml rt own nm R n0 Q) {i : Int} {z : Int32} (hd : decode B pc = .ok (.sipush i, 3)) (hp : pc + 3 = pc') (hz : (Int16.ofInt i).toInt32 = z) (k : W K h cl sl pc' L (.int z :: st)) : W K h cl sl pc L (st) := by
  subst hp; exact W.step (fun T locs X e t q => XS.sipush X.here O.1 rfl (hb O.2.1 hd) (by rw [hz]; exact q)) k
theorem w_lconst (O : Ok K l Z a0 ts B ml rt own nm R n0 Q) {i : Fin 2} {z : Int64} (hd : decode B pc = .ok (.lconst i, 1)) (hp : pc + 1 = pc') (hz : Int64.ofNat i = z) (k : W K h cl sl pc' L (.long z :: st)) : W K h cl sl pc L (st) := by
  subst hp; exact W.step (fun T locs X e t q => XS.lconst X.here O.1 rfl (hb O.2.1 hd) (by rw [hz]; exact q)) k
theorem w_anull (O : Ok K l Z a0 ts B ml rt own nm R n0 Q)  (hd : decode B pc = .ok (.aconst_null, 1)) (hp : pc + 1 = pc') (k : W K h cl sl pc' L (.null :: st)) : W K h cl sl pc L (st) := by
  subst hp; exact W.step (fun T locs X e t q => XS.aconstNull X.here O.1 rfl (hb O.2.1 hd) q) k
theorem w_ldc (O : Ok K l Z a0 ts B ml rt own nm R n0 Q) {i : Nat} {v : Int32} (hd : decode B pc = .ok (.ldc i, 2)) (hp : pc + 2 = pc') (w : Jvm.Cond.constant own i v ∈ ts) (k : W K h cl sl pc' L (.int v :: st)) : W K h cl sl pc L (st) := by
  subst hp; exact W.step (fun T locs X e t q => X.ldcInt O.1 O.2.2.2.1 (mvT O.2.2.2.2.2.2.2.1 (O.2.2.2.2.2.2.2.2.1 _ w)) (g := mkF K.2.1.2.1 pc L st) rfl (hb O.2.1 hd) _ q) k
theorem w_ldc2 (O : Ok K l Z a0 ts B ml rt own nm R n0 Q) {i : Nat} {v : Int64} (hd : decode B pc = .ok (.ldc2_w i, 3)) (hp : pc + 3 = pc') (w : Jvm.Cond.constantLong own i v ∈ ts) (k : W K h cl sl pc' L (.long v :: st)) : W K h cl sl pc L (st) := by
  subst hp; exact W.step (fun T locs X e t q => X.ldc2Long O.1 O.2.2.2.1 (mvT O.2.2.2.2.2.2.2.1 (O.2.2.2.2.2.2.2.2.1 _ w)) (g := mkF K.2.1.2.1 pc L st) rfl (hb O.2.1 hd) _ q) k
theorem w_iadd (O : Ok K l Z a0 ts B ml rt own nm R n0 Q) {x y : Int32} (hd : decode B pc = .ok (.iadd, 1)) (hp : pc + 1 = pc') (k : W K h cl sl pc' L (.int (x + y) :: st)) : W K h cl sl pc L (.int y :: .int x :: st) := by
  subst hp; exact W.step (fun T locs X e t q => XS.iadd X.here O.1 rfl (hb O.2.1 hd) rfl q) k
theorem w_isub (O : Ok K l Z a0 ts B ml rt own nm R n0 Q) {x y : Int32} (hd : decode B pc = .ok (.isub, 1)) (hp : pc + 1 = pc') (k : W K h cl sl pc' L (.int (x - y) :: st)) : W K h cl sl pc L (.int y :: .int x :: st) := by
  subst hp; exact W.step (fun T locs X e t q => XS.isub X.here O.1 rfl (hb O.2.1 hd) rfl q) k
theorem w_imul (O : Ok K l Z a0 ts B ml rt own nm R n0 Q) {x y : Int32} (hd : decode B pc = .ok (.imul, 1)) (hp : pc + 1 = pc') (k : W K h cl sl pc' L (.int (x * y) :: st)) : W K h cl sl pc L (.int y :: .int x :: st) := by
  subst hp; exact W.step (fun T locs X e t q => XS.imul X.here O.1 rfl (hb O.2.1 hd) rfl q) k
theorem w_iand (O : Ok K l Z a0 ts B ml rt own nm R n0 Q) {x y : Int32} (hd : decode B pc = .ok (.iand, 1)) (hp : pc + 1 = pc') (k : W K h cl sl pc' L (.int (x &&& y) :: st)) : W K h cl sl pc L (.int y :: .int x :: st) := by
  subst hp; exact W.step (fun T locs X e t q => XS.iand X.here O.1 rfl (hb O.2.1 hd) rfl q) k
theorem w_ior (O : Ok K l Z a0 ts B ml rt own nm R n0 Q) {x y : Int32} (hd : decode B pc = .ok (.ior, 1)) (hp : pc + 1 = pc') (k : W K h cl sl pc' L (.int (x ||| y) :: st)) : W K h cl sl pc L (.int y :: .int x :: st) := by
  subst hp; exact W.step (fun T locs X e t q => XS.ior X.here O.1 rfl (hb O.2.1 hd) rfl q) k
theorem w_ixor (O : Ok K l Z a0 ts B ml rt own nm R n0 Q) {x y : Int32} (hd : decode B pc = .ok (.ixor, 1)) (hp : pc + 1 = pc') (k : W K h cl sl pc' L (.int (x ^^^ y) :: st)) : W K h cl sl pc L (.int y :: .int x :: st) := by
  subst hp; exact W.step (fun T locs X e t q => XS.ixor X.here O.1 rfl (hb O.2.1 hd) rfl q) k
theorem w_ishl (O : Ok K l Z a0 ts B ml rt own nm R n0 Q) {x y : Int32} (hd : decode B pc = .ok (.ishl, 1)) (hp : pc + 1 = pc') (k : W K h cl sl pc' L (.int (x <<< (y &&& 31)) :: st)) : W K h cl sl pc L (.int y :: .int x :: st) := by
  subst hp; exact W.step (fun T locs X e t q => XS.ishl X.here O.1 rfl (hb O.2.1 hd) rfl q) k
theorem w_ishr (O : Ok K l Z a0 ts B ml rt own nm R n0 Q) {x y : Int32} (hd : decode B pc = .ok (.ishr, 1)) (hp : pc + 1 = pc') (k : W K h cl sl pc' L (.int (x >>> (y &&& 31)) :: st)) : W K h cl sl pc L (.int y :: .int x :: st) := by
  subst hp; exact W.step (fun T locs X e t q => XS.ishr X.here O.1 rfl (hb O.2.1 hd) rfl q) k
theorem w_iushr (O : Ok K l Z a0 ts B ml rt own nm R n0 Q) {x y : Int32} (hd : decode B pc = .ok (.iushr, 1)) (hp : pc + 1 = pc') (k : W K h cl sl pc' L (.int ((x.toUInt32 >>> (y &&& 31).toUInt32).toInt32) :: st)) : W K h cl sl pc L (.int y :: .int x :: st) := by
  subst hp; exact W.step (fun T locs X e t q => XS.iushr X.here O.1 rfl (hb O.2.1 hd) rfl q) k
theorem w_ladd (O : Ok K l Z a0 ts B ml rt own nm R n0 Q) {x y : Int64} (hd : decode B pc = .ok (.ladd, 1)) (hp : pc + 1 = pc') (k : W K h cl sl pc' L (.long (x + y) :: st)) : W K h cl sl pc L (.long y :: .long x :: st) := by
  subst hp; exact W.step (fun T locs X e t q => XS.ladd X.here O.1 rfl (hb O.2.1 hd) rfl q) k
theorem w_lsub (O : Ok K l Z a0 ts B ml rt own nm R n0 Q) {x y : Int64} (hd : decode B pc = .ok (.lsub, 1)) (hp : pc + 1 = pc') (k : W K h cl sl pc' L (.long (x - y) :: st)) : W K h cl sl pc L (.long y :: .long x :: st) := by
  subst hp; exact W.step (fun T locs X e t q => XS.lsub X.here O.1 rfl (hb O.2.1 hd) rfl q) k
theorem w_lmul (O : Ok K l Z a0 ts B ml rt own nm R n0 Q) {x y : Int64} (hd : decode B pc = .ok (.lmul, 1)) (hp : pc + 1 = pc') (k : W K h cl sl pc' L (.long (x * y) :: st)) : W K h cl sl pc L (.long y :: .long x :: st) := by
  subst hp; exact W.step (fun T locs X e t q => XS.lmul X.here O.1 rfl (hb O.2.1 hd) rfl q) k
theorem w_land (O : Ok K l Z a0 ts B ml rt own nm R n0 Q) {x y : Int64} (hd : decode B pc = .ok (.land, 1)) (hp : pc + 1 = pc') (k : W K h cl sl pc' L (.long (x &&& y) :: st)) : W K h cl sl pc L (.long y :: .long x :: st) := by
  subst hp; exact W.step (fun T locs X e t q => XS.land X.here O.1 rfl (hb O.2.1 hd) rfl q) k
theorem w_lor (O : Ok K l Z a0 ts B ml rt own nm R n0 Q) {x y : Int64} (hd : decode B pc = .ok (.lor, 1)) (hp : pc + 1 = pc') (k : W K h cl sl pc' L (.long (x ||| y) :: st)) : W K h cl sl pc L (.long y :: .long x :: st) := by
  subst hp; exact W.step (fun T locs X e t q => XS.lor X.here O.1 rfl (hb O.2.1 hd) rfl q) k
theorem w_lxor (O : Ok K l Z a0 ts B ml rt own nm R n0 Q) {x y : Int64} (hd : decode B pc = .ok (.lxor, 1)) (hp : pc + 1 = pc') (k : W K h cl sl pc' L (.long (x ^^^ y) :: st)) : W K h cl sl pc L (.long y :: .long x :: st) := by
  subst hp; exact W.step (fun T locs X e t q => XS.lxor X.here O.1 rfl (hb O.2.1 hd) rfl q) k
theorem w_lshl (O : Ok K l Z a0 ts B ml rt own nm R n0 Q) {x : Int64} {y : Int32} (hd : decode B pc = .ok (.lshl, 1)) (hp : pc + 1 = pc') (k : W K h cl sl pc' L (.long (x <<< (y &&& 0x3f).toInt64) :: st)) : W K h cl sl pc L (.int y :: .long x :: st) := by
  subst hp; exact W.step (fun T locs X e t q => XS.lshl X.here O.1 rfl (hb O.2.1 hd) rfl q) k
theorem w_lshr (O : Ok K l Z a0 ts B ml rt own nm R n0 Q) {x : Int64} {y : Int32} (hd : decode B pc = .ok (.lshr, 1)) (hp : pc + 1 = pc') (k : W K h cl sl pc' L (.long (x >>> (y &&& 0x3f).toInt64) :: st)) : W K h cl sl pc L (.int y :: .long x :: st) := by
  subst hp; exact W.step (fun T locs X e t q => XS.lshr X.here O.1 rfl (hb O.2.1 hd) rfl q) k
theorem w_lushr (O : Ok K l Z a0 ts B ml rt own nm R n0 Q) {x : Int64} {y : Int32} (hd : decode B pc = .ok (.lushr, 1)) (hp : pc + 1 = pc') (k : W K h cl sl pc' L (.long ((x.toUInt64 >>> (y &&& 0x3f).toInt64.toUInt64).toInt64) :: st)) : W K h cl sl pc L (.int y :: .long x :: st) := by
  subst hp; exact W.step (fun T locs X e t q => XS.lushr X.here O.1 rfl (hb O.2.1 hd) rfl q) k
theorem w_idiv (O : Ok K l Z a0 ts B ml rt own nm R n0 Q) {x y : Int32} (hd : decode B pc = .ok (.idiv, 1)) (hp : pc + 1 = pc') (hy : y ≠ 0) (k : W K h cl sl pc' L (.int (x / y) :: st)) : W K h cl sl pc L (.int y :: .int x :: st) := by
  subst hp; exact W.step (fun T locs X e t q => XS.idiv X.here O.1 rfl (hb O.2.1 hd) rfl hy q) k
theorem w_irem (O : Ok K l Z a0 ts B ml rt own nm R n0 Q) {x y : Int32} (hd : decode B pc = .ok (.irem, 1)) (hp : pc + 1 = pc') (hy : y ≠ 0) (k : W K h cl sl pc' L (.int (x % y) :: st)) : W K h cl sl pc L (.int y :: .int x :: st) := by
  subst hp; exact W.step (fun T locs X e t q => iremM X O.1 rfl (hb O.2.1 hd) rfl hy q) k
theorem w_ldiv (O : Ok K l Z a0 ts B ml rt own nm R n0 Q) {x y : Int64} (hd : decode B pc = .ok (.ldiv, 1)) (hp : pc + 1 = pc') (hy : y ≠ 0) (k : W K h cl sl pc' L (.long (x / y) :: st)) : W K h cl sl pc L (.long y :: .long x :: st) := by
  subst hp; exact W.step (fun T locs X e t q => XS.ldiv X.here O.1 rfl (hb O.2.1 hd) rfl hy q) k
theorem w_lrem (O : Ok K l Z a0 ts B ml rt own nm R n0 Q) {x y : Int64} (hd : decode B pc = .ok (.lrem, 1)) (hp : pc + 1 = pc') (hy : y ≠ 0) (k : W K h cl sl pc' L (.long (x % y) :: st)) : W K h cl sl pc L (.long y :: .long x :: st) := by
  subst hp; exact W.step (fun T locs X e t q => XS.lrem X.here O.1 rfl (hb O.2.1 hd) rfl hy (by rw [lrem_mod]; exact q)) k
theorem w_ineg (O : Ok K l Z a0 ts B ml rt own nm R n0 Q) {x : Int32} (hd : decode B pc = .ok (.ineg, 1)) (hp : pc + 1 = pc') (k : W K h cl sl pc' L (.int (-x) :: st)) : W K h cl sl pc L (.int x :: st) := by
  subst hp; exact W.step (fun T locs X e t q => XS.ineg X.here O.1 rfl (hb O.2.1 hd) rfl q) k
theorem w_lneg (O : Ok K l Z a0 ts B ml rt own nm R n0 Q) {x : Int64} (hd : decode B pc = .ok (.lneg, 1)) (hp : pc + 1 = pc') (k : W K h cl sl pc' L (.long (-x) :: st)) : W K h cl sl pc L (.long x :: st) := by
  subst hp; exact W.step (fun T locs X e t q => XS.lneg X.here O.1 rfl (hb O.2.1 hd) rfl q) k
theorem w_i2l (O : Ok K l Z a0 ts B ml rt own nm R n0 Q) {x : Int32} (hd : decode B pc = .ok (.i2l, 1)) (hp : pc + 1 = pc') (k : W K h cl sl pc' L (.long (x.toInt64) :: st)) : W K h cl sl pc L (.int x :: st) := by
  subst hp; exact W.step (fun T locs X e t q => XS.i2l X.here O.1 rfl (hb O.2.1 hd) rfl q) k
theorem w_l2i (O : Ok K l Z a0 ts B ml rt own nm R n0 Q) {x : Int64} (hd : decode B pc = .ok (.l2i, 1)) (hp : pc + 1 = pc') (k : W K h cl sl pc' L (.int (x.toInt32) :: st)) : W K h cl sl pc L (.long x :: st) := by
  subst hp; exact W.step (fun T locs X e t q => XS.l2i X.here O.1 rfl (hb O.2.1 hd) rfl q) k
theorem w_i2b (O : Ok K l Z a0 ts B ml rt own nm R n0 Q) {x : Int32} (hd : decode B pc = .ok (.i2b, 1)) (hp : pc + 1 = pc') (k : W K h cl sl pc' L (.int (x.toInt8.toInt32) :: st)) : W K h cl sl pc L (.int x :: st) := by
  subst hp; exact W.step (fun T locs X e t q => XS.i2b X.here O.1 rfl (hb O.2.1 hd) rfl q) k
theorem w_i2s (O : Ok K l Z a0 ts B ml rt own nm R n0 Q) {x : Int32} (hd : decode B pc = .ok (.i2s, 1)) (hp : pc + 1 = pc') (k : W K h cl sl pc' L (.int (x.toInt16.toInt32) :: st)) : W K h cl sl pc L (.int x :: st) := by
  subst hp; exact W.step (fun T locs X e t q => XS.i2s X.here O.1 rfl (hb O.2.1 hd) rfl q) k
theorem w_i2c (O : Ok K l Z a0 ts B ml rt own nm R n0 Q) {x : Int32} (hd : decode B pc = .ok (.i2c, 1)) (hp : pc + 1 = pc') (k : W K h cl sl pc' L (.int (x.toUInt32.toUInt16.toUInt32.toInt32) :: st)) : W K h cl sl pc L (.int x :: st) := by
  subst hp; exact W.step (fun T locs X e t q => XS.i2c X.here O.1 rfl (hb O.2.1 hd) rfl q) k
theorem w_dup (O : Ok K l Z a0 ts B ml rt own nm R n0 Q) {x : Value} (hd : decode B pc = .ok (.dup, 1)) (hp : pc + 1 = pc') (hc : x.category = 1) (k : W K h cl sl pc' L (x :: x :: st)) : W K h cl sl pc L (x :: st) := by
  subst hp; exact W.step (fun T locs X e t q => XS.dup X.here O.1 rfl (hb O.2.1 hd) rfl hc q) k
theorem w_pop (O : Ok K l Z a0 ts B ml rt own nm R n0 Q) {x : Value} (hd : decode B pc = .ok (.pop, 1)) (hp : pc + 1 = pc') (hc : x.category = 1) (k : W K h cl sl pc' L (st)) : W K h cl sl pc L (x :: st) := by
  subst hp; exact W.step (fun T locs X e t q => XS.pop X.here O.1 rfl (hb O.2.1 hd) rfl hc q) k
theorem w_dupX1 (O : Ok K l Z a0 ts B ml rt own nm R n0 Q) {x y : Value} (hd : decode B pc = .ok (.dup_x1, 1)) (hp : pc + 1 = pc') (hc : x.category = 1) (hc2 : y.category = 1) (k : W K h cl sl pc' L (x :: y :: x :: st)) : W K h cl sl pc L (x :: y :: st) := by
  subst hp; exact W.step (fun T locs X e t q => XS.dupX1 X.here O.1 rfl (hb O.2.1 hd) rfl hc hc2 q) k
theorem w_goto (O : Ok K l Z a0 ts B ml rt own nm R n0 Q) {o : Int} (hd : decode B pc = .ok (.goto o, 3)) (ho : 0 ≤ (pc : Int) + o) (hp : ((pc : Int) + o).toNat = pc') (k : W K h cl sl pc' L st) : W K h cl sl pc L st := W.step (fun T locs X e t q => XS.goto X.here O.1 rfl rfl (hb O.2.1 hd) ho hp q) k
theorem w_icmp_eq (O : Ok K l Z a0 ts B ml rt own nm R n0 Q) {o : Int} {x y : Int32} {pt pn : Nat} (hd : decode B pc = .ok (.if_icmp .eq o, 3)) (hn : pc + 3 = pn) (ho : 0 ≤ (pc : Int) + o) (ht : ((pc : Int) + o).toNat = pt) (ky : x.toInt = y.toInt → W K h cl sl pt L st) (kn : ¬ x.toInt = y.toInt → W K h cl sl pn L st) : W K h cl sl pc L (.int y :: .int x :: st) := by
  by_cases q : x = y
  · exact W.step (fun T locs X e t z => XS.icmpYes X.here O.1 rfl rfl (hb O.2.1 hd) rfl (teq q).1 ho ht z) (ky (Int32.toInt_inj.mpr q))
  · exact W.step (fun T locs X e t z => XS.icmpNo X.here O.1 rfl (hb O.2.1 hd) rfl (feq q).1 (by rw [← hn] at z; exact z)) (kn fun w => q (Int32.toInt_inj.mp w))
theorem w_if_eq (O : Ok K l Z a0 ts B ml rt own nm R n0 Q) {o : Int} {x : Int32} {pt pn : Nat} (hd : decode B pc = .ok (.ifCond .eq o, 3)) (hn : pc + 3 = pn) (ho : 0 ≤ (pc : Int) + o) (ht : ((pc : Int) + o).toNat = pt) (ky : x.toInt = 0 → W K h cl sl pt L st) (kn : ¬ x.toInt = 0 → W K h cl sl pn L st) : W K h cl sl pc L (.int x :: st) := by
  have e0 : (0 : Int32).toInt = 0 := by decide
  by_cases q : x = 0
  · exact W.step (fun T locs X e t z => XS.ifYes X.here O.1 rfl rfl (hb O.2.1 hd) rfl ((if0 _ _).trans (teq q).1) ho ht z) (ky (by rw [← e0]; exact (Int32.toInt_inj.mpr q)))
  · exact W.step (fun T locs X e t z => XS.ifNo X.here O.1 rfl (hb O.2.1 hd) rfl ((if0 _ _).trans (feq q).1) (by rw [← hn] at z; exact z)) (kn fun w => q (by rw [← e0] at w; exact (Int32.toInt_inj.mp w)))
theorem lcb_eq {x y : Int64} : (lcmpW x y).toInt = 0 ↔ x.toInt = y.toInt := by
  have e0 : (0 : Int32).toInt = 0 := by decide
  rw [← e0]
  exact Int32.toInt_inj.trans ((lw_eq x y).trans Int64.toInt_inj.symm)
theorem w_lcmp_eq (O : Ok K l Z a0 ts B ml rt own nm R n0 Q) {o : Int} {x y : Int64} {pi pt pn : Nat} (hd : decode B pc = .ok (.lcmp, 1)) (hi : pc + 1 = pi) (hd2 : decode B pi = .ok (.ifCond .eq o, 3)) (hn : pi + 3 = pn) (ho : 0 ≤ (pi : Int) + o) (ht : ((pi : Int) + o).toNat = pt) (ky : x.toInt = y.toInt → W K h cl sl pt L st) (kn : ¬ x.toInt = y.toInt → W K h cl sl pn L st) : W K h cl sl pc L (.long y :: .long x :: st) := by
  subst hi
  exact W.step (fun T locs X e t q => XS.lcmp X.here O.1 rfl (hb O.2.1 hd) rfl q) (w_if_eq O hd2 hn ho ht (fun q => ky (lcb_eq.mp q)) (fun q => kn fun w => q (lcb_eq.mpr w)))
theorem w_icmp_ne (O : Ok K l Z a0 ts B ml rt own nm R n0 Q) {o : Int} {x y : Int32} {pt pn : Nat} (hd : decode B pc = .ok (.if_icmp .ne o, 3)) (hn : pc + 3 = pn) (ho : 0 ≤ (pc : Int) + o) (ht : ((pc : Int) + o).toNat = pt) (ky : ¬ x.toInt = y.toInt → W K h cl sl pt L st) (kn : x.toInt = y.toInt → W K h cl sl pn L st) : W K h cl sl pc L (.int y :: .int x :: st) := by
  by_cases q : x = y
  · exact W.step (fun T locs X e t z => XS.icmpNo X.here O.1 rfl (hb O.2.1 hd) rfl (teq q).2 (by rw [← hn] at z; exact z)) (kn (Int32.toInt_inj.mpr q))
  · exact W.step (fun T locs X e t z => XS.icmpYes X.here O.1 rfl rfl (hb O.2.1 hd) rfl (feq q).2 ho ht z) (ky fun w => q (Int32.toInt_inj.mp w))
theorem w_if_ne (O : Ok K l Z a0 ts B ml rt own nm R n0 Q) {o : Int} {x : Int32} {pt pn : Nat} (hd : decode B pc = .ok (.ifCond .ne o, 3)) (hn : pc + 3 = pn) (ho : 0 ≤ (pc : Int) + o) (ht : ((pc : Int) + o).toNat = pt) (ky : ¬ x.toInt = 0 → W K h cl sl pt L st) (kn : x.toInt = 0 → W K h cl sl pn L st) : W K h cl sl pc L (.int x :: st) := by
  have e0 : (0 : Int32).toInt = 0 := by decide
  by_cases q : x = 0
  · exact W.step (fun T locs X e t z => XS.ifNo X.here O.1 rfl (hb O.2.1 hd) rfl ((if0 _ _).trans (teq q).2) (by rw [← hn] at z; exact z)) (kn (by rw [← e0]; exact (Int32.toInt_inj.mpr q)))
  · exact W.step (fun T locs X e t z => XS.ifYes X.here O.1 rfl rfl (hb O.2.1 hd) rfl ((if0 _ _).trans (feq q).2) ho ht z) (ky fun w => q (by rw [← e0] at w; exact (Int32.toInt_inj.mp w)))
theorem lcb_ne {x y : Int64} : (lcmpW x y).toInt = 0 ↔ x.toInt = y.toInt := by
  have e0 : (0 : Int32).toInt = 0 := by decide
  rw [← e0]
  exact Int32.toInt_inj.trans ((lw_eq x y).trans Int64.toInt_inj.symm)
theorem w_lcmp_ne (O : Ok K l Z a0 ts B ml rt own nm R n0 Q) {o : Int} {x y : Int64} {pi pt pn : Nat} (hd : decode B pc = .ok (.lcmp, 1)) (hi : pc + 1 = pi) (hd2 : decode B pi = .ok (.ifCond .ne o, 3)) (hn : pi + 3 = pn) (ho : 0 ≤ (pi : Int) + o) (ht : ((pi : Int) + o).toNat = pt) (ky : ¬ x.toInt = y.toInt → W K h cl sl pt L st) (kn : x.toInt = y.toInt → W K h cl sl pn L st) : W K h cl sl pc L (.long y :: .long x :: st) := by
  subst hi
  exact W.step (fun T locs X e t q => XS.lcmp X.here O.1 rfl (hb O.2.1 hd) rfl q) (w_if_ne O hd2 hn ho ht (fun q => ky fun w => q (lcb_ne.mpr w)) (fun q => kn (lcb_ne.mp q)))
theorem w_icmp_lt (O : Ok K l Z a0 ts B ml rt own nm R n0 Q) {o : Int} {x y : Int32} {pt pn : Nat} (hd : decode B pc = .ok (.if_icmp .lt o, 3)) (hn : pc + 3 = pn) (ho : 0 ≤ (pc : Int) + o) (ht : ((pc : Int) + o).toNat = pt) (ky : x.toInt < y.toInt → W K h cl sl pt L st) (kn : ¬ x.toInt < y.toInt → W K h cl sl pn L st) : W K h cl sl pc L (.int y :: .int x :: st) := by
  by_cases q : x < y
  · exact W.step (fun T locs X e t z => XS.icmpYes X.here O.1 rfl rfl (hb O.2.1 hd) rfl (tlt q).1 ho ht z) (ky (Int32.lt_iff_toInt_lt.mp q))
  · exact W.step (fun T locs X e t z => XS.icmpNo X.here O.1 rfl (hb O.2.1 hd) rfl (flt q).1 (by rw [← hn] at z; exact z)) (kn fun w => q (Int32.lt_iff_toInt_lt.mpr w))
theorem w_if_lt (O : Ok K l Z a0 ts B ml rt own nm R n0 Q) {o : Int} {x : Int32} {pt pn : Nat} (hd : decode B pc = .ok (.ifCond .lt o, 3)) (hn : pc + 3 = pn) (ho : 0 ≤ (pc : Int) + o) (ht : ((pc : Int) + o).toNat = pt) (ky : x.toInt < 0 → W K h cl sl pt L st) (kn : ¬ x.toInt < 0 → W K h cl sl pn L st) : W K h cl sl pc L (.int x :: st) := by
  have e0 : (0 : Int32).toInt = 0 := by decide
  by_cases q : x < 0
  · exact W.step (fun T locs X e t z => XS.ifYes X.here O.1 rfl rfl (hb O.2.1 hd) rfl ((if0 _ _).trans (tlt q).1) ho ht z) (ky (by rw [← e0]; exact (Int32.lt_iff_toInt_lt.mp q)))
  · exact W.step (fun T locs X e t z => XS.ifNo X.here O.1 rfl (hb O.2.1 hd) rfl ((if0 _ _).trans (flt q).1) (by rw [← hn] at z; exact z)) (kn fun w => q (by rw [← e0] at w; exact (Int32.lt_iff_toInt_lt.mpr w)))
theorem lcb_lt {x y : Int64} : (lcmpW x y).toInt < 0 ↔ x.toInt < y.toInt := by
  have e0 : (0 : Int32).toInt = 0 := by decide
  rw [← e0]
  exact (Int32.lt_iff_toInt_lt.symm).trans ((lw_lt x y).trans Int64.lt_iff_toInt_lt)
theorem w_lcmp_lt (O : Ok K l Z a0 ts B ml rt own nm R n0 Q) {o : Int} {x y : Int64} {pi pt pn : Nat} (hd : decode B pc = .ok (.lcmp, 1)) (hi : pc + 1 = pi) (hd2 : decode B pi = .ok (.ifCond .lt o, 3)) (hn : pi + 3 = pn) (ho : 0 ≤ (pi : Int) + o) (ht : ((pi : Int) + o).toNat = pt) (ky : x.toInt < y.toInt → W K h cl sl pt L st) (kn : ¬ x.toInt < y.toInt → W K h cl sl pn L st) : W K h cl sl pc L (.long y :: .long x :: st) := by
  subst hi
  exact W.step (fun T locs X e t q => XS.lcmp X.here O.1 rfl (hb O.2.1 hd) rfl q) (w_if_lt O hd2 hn ho ht (fun q => ky (lcb_lt.mp q)) (fun q => kn fun w => q (lcb_lt.mpr w)))
theorem w_icmp_ge (O : Ok K l Z a0 ts B ml rt own nm R n0 Q) {o : Int} {x y : Int32} {pt pn : Nat} (hd : decode B pc = .ok (.if_icmp .ge o, 3)) (hn : pc + 3 = pn) (ho : 0 ≤ (pc : Int) + o) (ht : ((pc : Int) + o).toNat = pt) (ky : ¬ x.toInt < y.toInt → W K h cl sl pt L st) (kn : x.toInt < y.toInt → W K h cl sl pn L st) : W K h cl sl pc L (.int y :: .int x :: st) := by
  by_cases q : x < y
  · exact W.step (fun T locs X e t z => XS.icmpNo X.here O.1 rfl (hb O.2.1 hd) rfl (tlt q).2.1 (by rw [← hn] at z; exact z)) (kn (Int32.lt_iff_toInt_lt.mp q))
  · exact W.step (fun T locs X e t z => XS.icmpYes X.here O.1 rfl rfl (hb O.2.1 hd) rfl (flt q).2.1 ho ht z) (ky fun w => q (Int32.lt_iff_toInt_lt.mpr w))
theorem w_if_ge (O : Ok K l Z a0 ts B ml rt own nm R n0 Q) {o : Int} {x : Int32} {pt pn : Nat} (hd : decode B pc = .ok (.ifCond .ge o, 3)) (hn : pc + 3 = pn) (ho : 0 ≤ (pc : Int) + o) (ht : ((pc : Int) + o).toNat = pt) (ky : ¬ x.toInt < 0 → W K h cl sl pt L st) (kn : x.toInt < 0 → W K h cl sl pn L st) : W K h cl sl pc L (.int x :: st) := by
  have e0 : (0 : Int32).toInt = 0 := by decide
  by_cases q : x < 0
  · exact W.step (fun T locs X e t z => XS.ifNo X.here O.1 rfl (hb O.2.1 hd) rfl ((if0 _ _).trans (tlt q).2.1) (by rw [← hn] at z; exact z)) (kn (by rw [← e0]; exact (Int32.lt_iff_toInt_lt.mp q)))
  · exact W.step (fun T locs X e t z => XS.ifYes X.here O.1 rfl rfl (hb O.2.1 hd) rfl ((if0 _ _).trans (flt q).2.1) ho ht z) (ky fun w => q (by rw [← e0] at w; exact (Int32.lt_iff_toInt_lt.mpr w)))
theorem lcb_ge {x y : Int64} : (lcmpW x y).toInt < 0 ↔ x.toInt < y.toInt := by
  have e0 : (0 : Int32).toInt = 0 := by decide
  rw [← e0]
  exact (Int32.lt_iff_toInt_lt.symm).trans ((lw_lt x y).trans Int64.lt_iff_toInt_lt)
theorem w_lcmp_ge (O : Ok K l Z a0 ts B ml rt own nm R n0 Q) {o : Int} {x y : Int64} {pi pt pn : Nat} (hd : decode B pc = .ok (.lcmp, 1)) (hi : pc + 1 = pi) (hd2 : decode B pi = .ok (.ifCond .ge o, 3)) (hn : pi + 3 = pn) (ho : 0 ≤ (pi : Int) + o) (ht : ((pi : Int) + o).toNat = pt) (ky : ¬ x.toInt < y.toInt → W K h cl sl pt L st) (kn : x.toInt < y.toInt → W K h cl sl pn L st) : W K h cl sl pc L (.long y :: .long x :: st) := by
  subst hi
  exact W.step (fun T locs X e t q => XS.lcmp X.here O.1 rfl (hb O.2.1 hd) rfl q) (w_if_ge O hd2 hn ho ht (fun q => ky fun w => q (lcb_ge.mpr w)) (fun q => kn (lcb_ge.mp q)))
theorem w_icmp_gt (O : Ok K l Z a0 ts B ml rt own nm R n0 Q) {o : Int} {x y : Int32} {pt pn : Nat} (hd : decode B pc = .ok (.if_icmp .gt o, 3)) (hn : pc + 3 = pn) (ho : 0 ≤ (pc : Int) + o) (ht : ((pc : Int) + o).toNat = pt) (ky : y.toInt < x.toInt → W K h cl sl pt L st) (kn : ¬ y.toInt < x.toInt → W K h cl sl pn L st) : W K h cl sl pc L (.int y :: .int x :: st) := by
  by_cases q : y < x
  · exact W.step (fun T locs X e t z => XS.icmpYes X.here O.1 rfl rfl (hb O.2.1 hd) rfl (tlt q).2.2.1 ho ht z) (ky (Int32.lt_iff_toInt_lt.mp q))
  · exact W.step (fun T locs X e t z => XS.icmpNo X.here O.1 rfl (hb O.2.1 hd) rfl (flt q).2.2.1 (by rw [← hn] at z; exact z)) (kn fun w => q (Int32.lt_iff_toInt_lt.mpr w))
theorem w_if_gt (O : Ok K l Z a0 ts B ml rt own nm R n0 Q) {o : Int} {x : Int32} {pt pn : Nat} (hd : decode B pc = .ok (.ifCond .gt o, 3)) (hn : pc + 3 = pn) (ho : 0 ≤ (pc : Int) + o) (ht : ((pc : Int) + o).toNat = pt) (ky : 0 < x.toInt → W K h cl sl pt L st) (kn : ¬ 0 < x.toInt → W K h cl sl pn L st) : W K h cl sl pc L (.int x :: st) := by
  have e0 : (0 : Int32).toInt = 0 := by decide
  by_cases q : 0 < x
  · exact W.step (fun T locs X e t z => XS.ifYes X.here O.1 rfl rfl (hb O.2.1 hd) rfl ((if0 _ _).trans (tlt q).2.2.1) ho ht z) (ky (by rw [← e0]; exact (Int32.lt_iff_toInt_lt.mp q)))
  · exact W.step (fun T locs X e t z => XS.ifNo X.here O.1 rfl (hb O.2.1 hd) rfl ((if0 _ _).trans (flt q).2.2.1) (by rw [← hn] at z; exact z)) (kn fun w => q (by rw [← e0] at w; exact (Int32.lt_iff_toInt_lt.mpr w)))
theorem lcb_gt {x y : Int64} : 0 < (lcmpW x y).toInt ↔ y.toInt < x.toInt := by
  have e0 : (0 : Int32).toInt = 0 := by decide
  rw [← e0]
  exact (Int32.lt_iff_toInt_lt.symm).trans ((lw_gt x y).trans Int64.lt_iff_toInt_lt)
theorem w_lcmp_gt (O : Ok K l Z a0 ts B ml rt own nm R n0 Q) {o : Int} {x y : Int64} {pi pt pn : Nat} (hd : decode B pc = .ok (.lcmp, 1)) (hi : pc + 1 = pi) (hd2 : decode B pi = .ok (.ifCond .gt o, 3)) (hn : pi + 3 = pn) (ho : 0 ≤ (pi : Int) + o) (ht : ((pi : Int) + o).toNat = pt) (ky : y.toInt < x.toInt → W K h cl sl pt L st) (kn : ¬ y.toInt < x.toInt → W K h cl sl pn L st) : W K h cl sl pc L (.long y :: .long x :: st) := by
  subst hi
  exact W.step (fun T locs X e t q => XS.lcmp X.here O.1 rfl (hb O.2.1 hd) rfl q) (w_if_gt O hd2 hn ho ht (fun q => ky (lcb_gt.mp q)) (fun q => kn fun w => q (lcb_gt.mpr w)))
theorem w_icmp_le (O : Ok K l Z a0 ts B ml rt own nm R n0 Q) {o : Int} {x y : Int32} {pt pn : Nat} (hd : decode B pc = .ok (.if_icmp .le o, 3)) (hn : pc + 3 = pn) (ho : 0 ≤ (pc : Int) + o) (ht : ((pc : Int) + o).toNat = pt) (ky : ¬ y.toInt < x.toInt → W K h cl sl pt L st) (kn : y.toInt < x.toInt → W K h cl sl pn L st) : W K h cl sl pc L (.int y :: .int x :: st) := by
  by_cases q : y < x
  · exact W.step (fun T locs X e t z => XS.icmpNo X.here O.1 rfl (hb O.2.1 hd) rfl (tlt q).2.2.2 (by rw [← hn] at z; exact z)) (kn (Int32.lt_iff_toInt_lt.mp q))
  · exact W.step (fun T locs X e t z => XS.icmpYes X.here O.1 rfl rfl (hb O.2.1 hd) rfl (flt q).2.2.2 ho ht z) (ky fun w => q (Int32.lt_iff_toInt_lt.mpr w))
theorem w_if_le (O : Ok K l Z a0 ts B ml rt own nm R n0 Q) {o : Int} {x : Int32} {pt pn : Nat} (hd : decode B pc = .ok (.ifCond .le o, 3)) (hn : pc + 3 = pn) (ho : 0 ≤ (pc : Int) + o) (ht : ((pc : Int) + o).toNat = pt) (ky : ¬ 0 < x.toInt → W K h cl sl pt L st) (kn : 0 < x.toInt → W K h cl sl pn L st) : W K h cl sl pc L (.int x :: st) := by
  have e0 : (0 : Int32).toInt = 0 := by decide
  by_cases q : 0 < x
  · exact W.step (fun T locs X e t z => XS.ifNo X.here O.1 rfl (hb O.2.1 hd) rfl ((if0 _ _).trans (tlt q).2.2.2) (by rw [← hn] at z; exact z)) (kn (by rw [← e0]; exact (Int32.lt_iff_toInt_lt.mp q)))
  · exact W.step (fun T locs X e t z => XS.ifYes X.here O.1 rfl rfl (hb O.2.1 hd) rfl ((if0 _ _).trans (flt q).2.2.2) ho ht z) (ky fun w => q (by rw [← e0] at w; exact (Int32.lt_iff_toInt_lt.mpr w)))
theorem lcb_le {x y : Int64} : 0 < (lcmpW x y).toInt ↔ y.toInt < x.toInt := by
  have e0 : (0 : Int32).toInt = 0 := by decide
  rw [← e0]
  exact (Int32.lt_iff_toInt_lt.symm).trans ((lw_gt x y).trans Int64.lt_iff_toInt_lt)
theorem w_lcmp_le (O : Ok K l Z a0 ts B ml rt own nm R n0 Q) {o : Int} {x y : Int64} {pi pt pn : Nat} (hd : decode B pc = .ok (.lcmp, 1)) (hi : pc + 1 = pi) (hd2 : decode B pi = .ok (.ifCond .le o, 3)) (hn : pi + 3 = pn) (ho : 0 ≤ (pi : Int) + o) (ht : ((pi : Int) + o).toNat = pt) (ky : ¬ y.toInt < x.toInt → W K h cl sl pt L st) (kn : y.toInt < x.toInt → W K h cl sl pn L st) : W K h cl sl pc L (.long y :: .long x :: st) := by
  subst hi
  exact W.step (fun T locs X e t q => XS.lcmp X.here O.1 rfl (hb O.2.1 hd) rfl q) (w_if_le O hd2 hn ho ht (fun q => ky fun w => q (lcb_le.mpr w)) (fun q => kn (lcb_le.mp q)))
theorem w_ifnullY (O : Ok K l Z a0 ts B ml rt own nm R n0 Q) {o : Int} (hd : decode B pc = .ok (.ifnull o, 3)) (ho : 0 ≤ (pc : Int) + o) (ht : ((pc : Int) + o).toNat = pc') (k : W K h cl sl pc' L st) : W K h cl sl pc L (.null :: st) := W.step (fun T locs X e t q => XS.ifnullYes X.here O.1 rfl rfl (hb O.2.1 hd) rfl ho ht q) k
theorem w_ifnullN (O : Ok K l Z a0 ts B ml rt own nm R n0 Q) {o : Int} {b : Addr} (hd : decode B pc = .ok (.ifnull o, 3)) (hp : pc + 3 = pc') (k : W K h cl sl pc' L st) : W K h cl sl pc L (.ref b :: st) := by
  subst hp; exact W.step (fun T locs X e t q => XS.ifnullNo X.here O.1 rfl (hb O.2.1 hd) rfl q) k
theorem w_ifnonnullY (O : Ok K l Z a0 ts B ml rt own nm R n0 Q) {o : Int} {b : Addr} (hd : decode B pc = .ok (.ifnonnull o, 3)) (ho : 0 ≤ (pc : Int) + o) (ht : ((pc : Int) + o).toNat = pc') (k : W K h cl sl pc' L st) : W K h cl sl pc L (.ref b :: st) := W.step (fun T locs X e t q => XS.ifnonnullYes X.here O.1 rfl rfl (hb O.2.1 hd) rfl ho ht q) k
theorem w_ifnonnullN (O : Ok K l Z a0 ts B ml rt own nm R n0 Q) {o : Int} (hd : decode B pc = .ok (.ifnonnull o, 3)) (hp : pc + 3 = pc') (k : W K h cl sl pc' L st) : W K h cl sl pc L (.null :: st) := by
  subst hp; exact W.step (fun T locs X e t q => XS.ifnonnullNo X.here O.1 rfl (hb O.2.1 hd) rfl q) k
theorem w_acmp_eq (O : Ok K l Z a0 ts B ml rt own nm R n0 Q) {o : Int} {x y : Value} {pt pn : Nat} (hd : decode B pc = .ok (.if_acmp .eq o, 3)) (hx' : x.isRef = true) (hy' : y.isRef = true) (hn : pc + 3 = pn) (ho : 0 ≤ (pc : Int) + o) (ht : ((pc : Int) + o).toNat = pt) (ky : x = y → W K h cl sl pt L st) (kn : ¬ x = y → W K h cl sl pn L st) : W K h cl sl pc L (y :: x :: st) := by
  by_cases q : x = y
  · exact W.step (fun T locs X e t z => Jvm.RoadKit.acmp (g := mkF K.2.1.2.1 pc L (y :: x :: st)) X O.1 rfl hx' hy' (pc0 := pc) (pc' := pt) (same := true) rfl (hb O.2.1 hd) rfl (decide_eq_true q) ho (by simp [acV, ht, hn]) z) (ky q)
  · exact W.step (fun T locs X e t z => Jvm.RoadKit.acmp (g := mkF K.2.1.2.1 pc L (y :: x :: st)) X O.1 rfl hx' hy' (pc0 := pc) (pc' := pn) (same := false) rfl (hb O.2.1 hd) rfl (decide_eq_false q) ho (by simp [acV, ht, hn]) z) (kn q)
theorem w_acmp_ne (O : Ok K l Z a0 ts B ml rt own nm R n0 Q) {o : Int} {x y : Value} {pt pn : Nat} (hd : decode B pc = .ok (.if_acmp .ne o, 3)) (hx' : x.isRef = true) (hy' : y.isRef = true) (hn : pc + 3 = pn) (ho : 0 ≤ (pc : Int) + o) (ht : ((pc : Int) + o).toNat = pt) (ky : ¬ x = y → W K h cl sl pt L st) (kn : x = y → W K h cl sl pn L st) : W K h cl sl pc L (y :: x :: st) := by
  by_cases q : x = y
  · exact W.step (fun T locs X e t z => Jvm.RoadKit.acmp (g := mkF K.2.1.2.1 pc L (y :: x :: st)) X O.1 rfl hx' hy' (pc0 := pc) (pc' := pn) (same := true) rfl (hb O.2.1 hd) rfl (decide_eq_true q) ho (by simp [acV, ht, hn]) z) (kn q)
  · exact W.step (fun T locs X e t z => Jvm.RoadKit.acmp (g := mkF K.2.1.2.1 pc L (y :: x :: st)) X O.1 rfl hx' hy' (pc0 := pc) (pc' := pt) (same := false) rfl (hb O.2.1 hd) rfl (decide_eq_false q) ho (by simp [acV, ht, hn]) z) (ky q)
theorem w_getf (O : Ok K l Z a0 ts B ml rt own nm R n0 Q) {i : Nat} {C f d : String} {a : Addr} {v : Value} (hd : decode B pc = .ok (.getfield i, 3)) (hp : pc + 3 = pc') (w : Jvm.Cond.fieldLink own i C f d ∈ ts) (F : Fld Z h a C f d v) (k : W K h cl sl pc' L (v :: st)) : W K h cl sl pc L (.ref a :: st) := by
  subst hp
  exact W.stepT (fun T locs X e => getF X O.1 O.2.2.2.2.2.2.2.1 O.2.2.2.1 (host := "") (Or.inl (O.2.2.2.2.2.2.2.2.1 _ w)) Via.refl e F (g := mkF K.2.1.2.1 pc L (.ref a :: st)) rfl rfl (hb O.2.1 hd)) k
theorem w_gets (O : Ok K l Z a0 ts B ml rt own nm R n0 Q) {i : Nat} {C f d : String} {v : Value} (hd : decode B pc = .ok (.getstatic i, 3)) (hp : pc + 3 = pc') (w : Jvm.Cond.fieldLink own i C f d ∈ ts) (F : Sta Z h C f d v) (k : W K h cl sl pc' L (v :: st)) : W K h cl sl pc L st := by
  subst hp
  exact W.stepT (fun T locs X e => getS2 X O.1 O.2.2.2.2.2.2.2.1 O.2.2.2.1 (host := "") (Or.inl (O.2.2.2.2.2.2.2.2.1 _ w)) Via.refl e F (g := mkF K.2.1.2.1 pc L st) rfl (hb O.2.1 hd)) k
theorem w_putf (O : Ok K l Z a0 ts B ml rt own nm R n0 Q) {i kk : Nat} {C f d : String} {a : Addr} {v old : Value} {ty : FieldType} (hd : decode B pc = .ok (.putfield i, 3)) (hp : pc + 3 = pc') (w : Jvm.Cond.fieldLink own i C f d ∈ ts) (wi : Jvm.Cond.instantiable C kk ∈ ts) (Ly : Jvm.Cond.lays C C f d ∈ ts ∨ (Jvm.Cond.laysFinal C C f d ∈ ts ∧ own = C ∧ nm = "<init>")) (F : Fld Z h a C f d old) (E : Exa Z h a C) (ha : n0 ≤ a) (hty : parseFieldDescriptor d = some ty) (hn : narrow ty v = v) (hf : fits ty v = true)
    (k : ∀ h', Wr h h' a (Jvm.RoadKit.slotOf Z C f d) v → W K h' cl sl pc' L st) : W K h cl sl pc L (v :: .ref a :: st) := by
  subst hp
  have hw := O.2.2.2.2.2.2.2.2.1
  exact W.stepW (fun T locs X e => putF X O.1 O.2.2.2.2.2.2.2.1 O.2.2.2.1 (host := "") (Or.inl (hw _ w)) Via.refl e F E (Ly.imp (fun q => hw _ q) fun q => ⟨hw _ q.1, q.2.1, O.2.2.2.2.1.trans q.2.2⟩) (hw _ wi) hty hn hf (g := mkF K.2.1.2.1 pc L (v :: .ref a :: st)) rfl rfl (hb O.2.1 hd)) (by rw [O.2.2.2.2.2.2.2.2.2.2.2.2.1]; exact ha) k
theorem w_new (O : Ok K l Z a0 ts B ml rt own nm R n0 Q) {i n cl' sl' : Nat} {C : String} (hd : decode B pc = .ok (.new i, 3)) (hp : pc + 3 = pc') (w1 : Jvm.Cond.classLink own i C ∈ ts) (w2 : Jvm.Cond.instantiable C n ∈ ts) (w3 : Jvm.Cond.initialized C ∈ ts) (hc : cl + 1 = cl') (hs : sl + n = sl') (hc' : cl' ≤ R.cells) (hs' : sl' ≤ R.slots)
    (k : ∀ h' b, b = h.size → n0 ≤ b → Ext h h' → Exa Z h' b C → (∀ {Ow nf d : String} {ty : FieldType}, Laid Z a0 C Ow nf d → parseFieldDescriptor d = some ty → Fld Z h' b Ow nf d (defaultValue ty)) → W K h' cl' sl' pc' L (.ref b :: st)) : W K h cl sl pc L st := by
  obtain ⟨⟨p, l', e', R'⟩, ⟨s, m, args, below⟩, ⟨meth, c⟩, Q', n0'⟩ := K
  obtain ⟨hx, hby, hml, hown, hnm, hrt, hlk, hZ, hw, hn0, hl', hR', hn', hQ'⟩ := O
  dsimp only at hx hby hml hown hnm hrt hlk hZ hn0 hl' hR' hn' hQ'
  subst hl' hR' hn' hQ'
  subst hp hc hs
  intro T locs X eT N
  obtain ⟨T2, h2, X2, e2, E2, A2, D2, -, st2⟩ := newO X hx hZ hown (hw _ w1) (hw _ w2) (hw _ w3) eT (g := mkF m pc L st) rfl (hb hby hd) hc' hs'
  obtain ⟨s2, o, h1, r⟩ := k h2 h.size rfl (Nat.le_trans hn0 (by rw [← eT]; exact X.same.2.1)) E2 A2 D2 T2 _ X2 e2 N
  exact ⟨s2, o, st2 _ h1, r⟩
theorem w_objinit (O : Ok K l Z a0 ts B ml rt own nm R n0 Q) {i wt : Nat} {a : Addr} (hd : decode B pc = .ok (.invokespecial i, 3)) (hp : pc + 3 = pc') (w1 : Jvm.Cond.methodLink own i Lib.objectInit ∈ ts) (w2 : Jvm.Cond.instanceMethod Lib.objectInit ∈ ts) (w3 : Jvm.Cond.code Lib.objectInit ⟨#[0xb1]⟩ 1 none ∈ ts) (hsz : L.size = ml) (hwt : (st.map fun v => v.category).sum = wt) (hf : 1 ≤ R.frames) (hl : wt + 12 ≤ R.locals) (k : W K h cl sl pc' L st) : W K h cl sl pc L (.ref a :: st) := by
  obtain ⟨⟨p, l', e', R'⟩, ⟨s, m, args, below⟩, ⟨meth, c⟩, Q', n0'⟩ := K
  obtain ⟨hx, hby, hml, hown, hnm, hrt, hlk, hZ, hw, hn0, hl', hR', hn', hQ'⟩ := O
  dsimp only at hx hby hml hown hnm hrt hlk hZ hn0 hl' hR' hn' hQ'
  subst hl' hR' hn' hQ'
  subst hp hml
  exact W.stepT (fun T locs X e => initO X hx hZ hown (hw _ w1) (hw _ w2) (hw _ w3) e (g := mkF m pc L (.ref a :: st)) rfl hsz rfl (hb hby hd) hf (W := wt) (by show 2 * 0 + _ ≤ _; omega) hl) k
/-- an array of n places, the i-th holds f i -/
def Afn (Z : State) (h : Heap) (a : Addr) (ty : FieldType) (n : Nat) (f : Nat → Value) : Prop := ∃ c : Cell, Arr Z h a c ty ∧ c.slots.size = n ∧ n < 2147483648 ∧ ∀ i, i < n → c.slots[i]? = some (f i)
def upd (f : Nat → Value) (i : Nat) (v : Value) : Nat → Value := fun j => if j = i then v else f j
theorem Afn.lt {a : Addr} {ty : FieldType} {n : Nat} {f : Nat → Value} (A : Afn Z h a ty n f) : a < h.size := by obtain ⟨c, A, -⟩ := A; exact A.lt
theorem Afn.bound {a : Addr} {ty : FieldType} {n : Nat} {f : Nat → Value} (A : Afn Z h a ty n f) : n < 2147483648 := by obtain ⟨c, -, -, q, -⟩ := A; exact q
theorem upd_same (f : Nat → Value) (i : Nat) (v : Value) : upd f i v i = v := if_pos rfl
theorem upd_ne (f : Nat → Value) {i j : Nat} (v : Value) (q : ¬ j = i) : upd f i v j = f j := if_neg q
theorem Afn.ext {h' : Heap} {a : Addr} {ty : FieldType} {n : Nat} {f : Nat → Value} (A : Afn Z h a ty n f) (E : Ext h h') : Afn Z h' a ty n f := by obtain ⟨c, A, r⟩ := A; exact ⟨c, A.ext E, r⟩
theorem Afn.other {h' : Heap} {a b : Addr} {i : Nat} {v : Value} {ty : FieldType} {n : Nat} {f : Nat → Value} (A : Afn Z h b ty n f) (Wq : Wr h h' a i v) (q : b ≠ a) : Afn Z h' b ty n f := by obtain ⟨c, A, r⟩ := A; exact ⟨c, A.other Wq q, r⟩
theorem Afn.keep {h' : Heap} {a : Addr} {ws : List Addr} {ty : FieldType} {n : Nat} {f : Nat → Value} (A : Afn Z h a ty n f) (Kp : Keep h h' ws) (q : a ∉ ws) : Afn Z h' a ty n f := by obtain ⟨c, A, r⟩ := A; exact ⟨c, ⟨Kp.2.1 a c A.1 q, A.2⟩, r⟩
theorem Afn.congr {a : Addr} {ty : FieldType} {n : Nat} {f g : Nat → Value} (A : Afn Z h a ty n f) (q : ∀ i, i < n → f i = g i) : Afn Z h a ty n g := by obtain ⟨c, A, h1, h2, h3⟩ := A; exact ⟨c, A, h1, h2, fun i hi => by rw [← q i hi]; exact h3 i hi⟩
theorem Afn.set {h' : Heap} {a : Addr} {i : Nat} {v : Value} {ty : FieldType} {n : Nat} {f : Nat → Value} (A : Afn Z h a ty n f) (Wq : Wr h h' a i v) : Afn Z h' a ty n (upd f i v) := by
  obtain ⟨c, A, h1, h2, h3⟩ := A
  refine ⟨_, A.same Wq, by simp [Cell.setSlot, h1], h2, fun j hj => ?_⟩
  by_cases q : j = i
  · subst q
    simp [Cell.setSlot, upd, h1, hj]
  · simp only [upd, if_neg q]
    show (c.slots.setIfInBounds i v)[j]? = _
    rw [Array.getElem?_setIfInBounds_ne (fun z => q z.symm)]; exact h3 j hj
theorem tnc {j : Int32} {i : Nat} (hj : j.toInt = (i : Int)) : j.toNatClampNeg = i ∧ ¬ j < 0 := by
  have e0 : (0 : Int32).toInt = 0 := by decide
  have q : ¬ j < 0 := by rw [Int32.lt_iff_toInt_lt, e0]; omega
  have := nat_of q
  exact ⟨by omega, q⟩
theorem idxOk {c : Cell} {n : Nat} {j : Int32} {i : Nat} (hs : c.slots.size = n) (hj : j.toInt = (i : Int)) (hi : i < n) : ¬ (j < 0 ∨ c.slots.size ≤ j.toNatClampNeg) := by
  obtain ⟨q1, q2⟩ := tnc hj
  rintro (z | z)
  · exact q2 z
  · omega

theorem w_iaload (O : Ok K l Z a0 ts B ml rt own nm R n0 Q) {a : Addr} {n i : Nat} {f : Nat → Value} {j : Int32} {x : Int32} (hd : decode B pc = .ok (.iaload, 1)) (hp : pc + 1 = pc') (A : Afn Z h a .int n f) (hj : j.toInt = (i : Int)) (hi : i < n) (hv : f i = .int x) (k : W K h cl sl pc' L (.int x :: st)) : W K h cl sl pc L (.int j :: .ref a :: st) := by
  subst hp
  obtain ⟨c, A, h1, h2, h3⟩ := A
  refine W.step (fun T locs X e t q => X.iaload O.1 (j := j) (v := .int x) (by rw [e]; exact A.1) (State.isArrayOf_alike O.2.2.2.2.2.2.2.1.alike A.2.1) A.2.2 (idxOk h1 hj hi) (by rw [(tnc hj).1, h3 i hi, hv]) (g := mkF K.2.1.2.1 pc L (.int j :: .ref a :: st)) rfl rfl (hb O.2.1 hd) _ q) k
theorem w_laload (O : Ok K l Z a0 ts B ml rt own nm R n0 Q) {a : Addr} {n i : Nat} {f : Nat → Value} {j : Int32} {x : Int64} (hd : decode B pc = .ok (.laload, 1)) (hp : pc + 1 = pc') (A : Afn Z h a .long n f) (hj : j.toInt = (i : Int)) (hi : i < n) (hv : f i = .long x) (k : W K h cl sl pc' L (.long x :: st)) : W K h cl sl pc L (.int j :: .ref a :: st) := by
  subst hp
  obtain ⟨c, A, h1, h2, h3⟩ := A
  refine W.step (fun T locs X e t q => X.laload O.1 (j := j) (v := .long x) (by rw [e]; exact A.1) (State.isArrayOf_alike O.2.2.2.2.2.2.2.1.alike A.2.1) A.2.2 (idxOk h1 hj hi) (by rw [(tnc hj).1, h3 i hi, hv]) (g := mkF K.2.1.2.1 pc L (.int j :: .ref a :: st)) rfl rfl (hb O.2.1 hd) _ q) k
theorem w_baload (O : Ok K l Z a0 ts B ml rt own nm R n0 Q) {a : Addr} {n i : Nat} {f : Nat → Value} {j : Int32} {x : Int32} (hd : decode B pc = .ok (.baload, 1)) (hp : pc + 1 = pc') (A : Afn Z h a .byte n f) (hj : j.toInt = (i : Int)) (hi : i < n) (hv : f i = .int x) (k : W K h cl sl pc' L (.int x :: st)) : W K h cl sl pc L (.int j :: .ref a :: st) := by
  subst hp
  obtain ⟨c, A, h1, h2, h3⟩ := A
  refine W.step (fun T locs X e t q => X.baloadBytes O.1 (j := j) (v := .int x) (by rw [e]; exact A.1) (State.isArrayOf_alike O.2.2.2.2.2.2.2.1.alike A.2.1) A.2.2 (idxOk h1 hj hi) (by rw [(tnc hj).1, h3 i hi, hv]) (g := mkF K.2.1.2.1 pc L (.int j :: .ref a :: st)) rfl rfl (hb O.2.1 hd) _ q) k
theorem w_caload (O : Ok K l Z a0 ts B ml rt own nm R n0 Q) {a : Addr} {n i : Nat} {f : Nat → Value} {j : Int32} {x : Int32} (hd : decode B pc = .ok (.caload, 1)) (hp : pc + 1 = pc') (A : Afn Z h a .char n f) (hj : j.toInt = (i : Int)) (hi : i < n) (hv : f i = .int x) (k : W K h cl sl pc' L (.int x :: st)) : W K h cl sl pc L (.int j :: .ref a :: st) := by
  subst hp
  obtain ⟨c, A, h1, h2, h3⟩ := A
  refine W.step (fun T locs X e t q => X.caload O.1 (j := j) (v := .int x) (by rw [e]; exact A.1) (State.isArrayOf_alike O.2.2.2.2.2.2.2.1.alike A.2.1) A.2.2 (idxOk h1 hj hi) (by rw [(tnc hj).1, h3 i hi, hv]) (g := mkF K.2.1.2.1 pc L (.int j :: .ref a :: st)) rfl rfl (hb O.2.1 hd) _ q) k
theorem w_aaload (O : Ok K l Z a0 ts B ml rt own nm R n0 Q) {a : Addr} {n i : Nat} {f : Nat → Value} {j : Int32} {x : Value} {ty : FieldType} (hd : decode B pc = .ok (.aaload, 1)) (hp : pc + 1 = pc') (A : Afn Z h a ty n f) (hty : ty.isReference = true) (hj : j.toInt = (i : Int)) (hi : i < n) (hv : f i = x) (k : W K h cl sl pc' L (x :: st)) : W K h cl sl pc L (.int j :: .ref a :: st) := by
  subst hp
  obtain ⟨c, A, h1, h2, h3⟩ := A
  refine W.step (fun T locs X e t q => X.aaload O.1 (j := j) (v := x) (by rw [e]; exact A.1) (State.isArrayOf_alike O.2.2.2.2.2.2.2.1.alike A.2.1) hty A.2.2 (idxOk h1 hj hi) (by rw [(tnc hj).1, h3 i hi, hv]) (g := mkF K.2.1.2.1 pc L (.int j :: .ref a :: st)) rfl rfl (hb O.2.1 hd) _ q) k
theorem w_iastore (O : Ok K l Z a0 ts B ml rt own nm R n0 Q) {a : Addr} {n i : Nat} {f : Nat → Value} {j : Int32} {x : Int32} (hd : decode B pc = .ok (.iastore, 1)) (hp : pc + 1 = pc') (A : Afn Z h a .int n f) (hj : j.toInt = (i : Int)) (hi : i < n) (ha : n0 ≤ a) (k : ∀ h', Wr h h' a i (.int x) → W K h' cl sl pc' L st) : W K h cl sl pc L (.int x :: .int j :: .ref a :: st) := by
  subst hp
  obtain ⟨c, A, h1, h2, h3⟩ := A
  rw [← (tnc hj).1] at k
  exact W.stepW (fun T locs X e => stI X O.1 O.2.2.2.2.2.2.2.1 e A (j := j) (idxOk h1 hj hi) (g := mkF K.2.1.2.1 pc L (.int x :: .int j :: .ref a :: st)) rfl rfl (hb O.2.1 hd)) (by rw [O.2.2.2.2.2.2.2.2.2.2.2.2.1]; exact ha) k
theorem w_lastore (O : Ok K l Z a0 ts B ml rt own nm R n0 Q) {a : Addr} {n i : Nat} {f : Nat → Value} {j : Int32} {x : Int64} (hd : decode B pc = .ok (.lastore, 1)) (hp : pc + 1 = pc') (A : Afn Z h a .long n f) (hj : j.toInt = (i : Int)) (hi : i < n) (ha : n0 ≤ a) (k : ∀ h', Wr h h' a i (.long x) → W K h' cl sl pc' L st) : W K h cl sl pc L (.long x :: .int j :: .ref a :: st) := by
  subst hp
  obtain ⟨c, A, h1, h2, h3⟩ := A
  rw [← (tnc hj).1] at k
  exact W.stepW (fun T locs X e => stJ X O.1 O.2.2.2.2.2.2.2.1 e A (j := j) (idxOk h1 hj hi) (g := mkF K.2.1.2.1 pc L (.long x :: .int j :: .ref a :: st)) rfl rfl (hb O.2.1 hd)) (by rw [O.2.2.2.2.2.2.2.2.2.2.2.2.1]; exact ha) k
theorem w_bastore (O : Ok K l Z a0 ts B ml rt own nm R n0 Q) {a : Addr} {n i : Nat} {f : Nat → Value} {j : Int32} {x : Int32} (hd : decode B pc = .ok (.bastore, 1)) (hp : pc + 1 = pc') (A : Afn Z h a .byte n f) (hj : j.toInt = (i : Int)) (hi : i < n) (ha : n0 ≤ a) (k : ∀ h', Wr h h' a i (.int (nar .byte x)) → W K h' cl sl pc' L st) : W K h cl sl pc L (.int x :: .int j :: .ref a :: st) := by
  subst hp
  obtain ⟨c, A, h1, h2, h3⟩ := A
  rw [← (tnc hj).1] at k
  exact W.stepW (fun T locs X e => stB X O.1 O.2.2.2.2.2.2.2.1 e A (j := j) (idxOk h1 hj hi) (g := mkF K.2.1.2.1 pc L (.int x :: .int j :: .ref a :: st)) rfl rfl (hb O.2.1 hd)) (by rw [O.2.2.2.2.2.2.2.2.2.2.2.2.1]; exact ha) k
theorem w_castore (O : Ok K l Z a0 ts B ml rt own nm R n0 Q) {a : Addr} {n i : Nat} {f : Nat → Value} {j : Int32} {x : Int32} (hd : decode B pc = .ok (.castore, 1)) (hp : pc + 1 = pc') (A : Afn Z h a .char n f) (hj : j.toInt = (i : Int)) (hi : i < n) (ha : n0 ≤ a) (k : ∀ h', Wr h h' a i (.int (nar .char x)) → W K h' cl sl pc' L st) : W K h cl sl pc L (.int x :: .int j :: .ref a :: st) := by
  subst hp
  obtain ⟨c, A, h1, h2, h3⟩ := A
  rw [← (tnc hj).1] at k
  exact W.stepW (fun T locs X e => stC X O.1 O.2.2.2.2.2.2.2.1 e A (j := j) (idxOk h1 hj hi) (g := mkF K.2.1.2.1 pc L (.int x :: .int j :: .ref a :: st)) rfl rfl (hb O.2.1 hd)) (by rw [O.2.2.2.2.2.2.2.2.2.2.2.2.1]; exact ha) k
theorem w_alen (O : Ok K l Z a0 ts B ml rt own nm R n0 Q) {a : Addr} {n : Nat} {f : Nat → Value} {z : Int32} {ty : FieldType} (hd : decode B pc = .ok (.arraylength, 1)) (hp : pc + 1 = pc') (A : Afn Z h a ty n f) (hz : z.toInt = (n : Int)) (k : W K h cl sl pc' L (.int z :: st)) : W K h cl sl pc L (.ref a :: st) := by
  subst hp
  obtain ⟨c, A, h1, h2, h3⟩ := A
  have ez : c.slots.size.toInt32 = z := by
    have := (back32 (tnc hz).2).1
    rw [(tnc hz).1, ← h1] at this; exact this
  refine W.step (fun T locs X e t q => X.arraylength O.1 (by rw [e]; exact A.1) (State.isArrayOf_alike O.2.2.2.2.2.2.2.1.alike A.2.1) (g := mkF K.2.1.2.1 pc L (.ref a :: st)) rfl rfl (hb O.2.1 hd) _ (by rw [ez]; exact q)) k
theorem w_newarr (O : Ok K l Z a0 ts B ml rt own nm R n0 Q) {aty : ArrayType} {ty : FieldType} {dv : Value} {z : Int32} {n cap cl' sl' : Nat} (hd : decode B pc = .ok (.newarray aty, 2)) (hp : pc + 2 = pc') (hty : newarray.typeOf aty = ty) (hdv : defaultValue ty = dv) (w : Jvm.Cond.arrayClass ty ∈ ts) (hz : z.toInt = (n : Int)) (hcap : n ≤ cap) (hb8 : cap * 8 ≤ 536870912) (hc : cl + 1 = cl') (hs : sl + cap = sl') (hc' : cl' ≤ R.cells) (hs' : sl' ≤ R.slots)
    (k : ∀ h' b, b = h.size → n0 ≤ b → Ext h h' → Afn Z h' b ty n (fun _ => dv) → W K h' cl' sl' pc' L (.ref b :: st)) : W K h cl sl pc L (.int z :: st) := by
  obtain ⟨⟨p, l', e', R'⟩, ⟨s, m, args, below⟩, ⟨meth, c⟩, Q', n0'⟩ := K
  obtain ⟨hx, hby, hml, hown, hnm, hrt, hlk, hZ, hw, hn0, hl', hR', hn', hQ'⟩ := O
  dsimp only at hx hby hml hown hnm hrt hlk hZ hn0 hl' hR' hn' hQ'
  subst hl' hR' hn' hQ'
  subst hp hc hs hty hdv
  intro T locs X eT N
  obtain ⟨T2, h2, kA, X2, e2, E2, A2, st2⟩ := newP X hx hZ (hw _ w) eT (g := mkF m pc L (.int z :: st)) rfl (hb hby hd) rfl (tnc hz).2 (cap := cap) (by rw [(tnc hz).1]; exact hcap) hb8 hc' hs'
  have hsz : (newA kA (newarray.typeOf aty) z).slots.size = n := by rw [sz_new, (tnc hz).1]
  have hr := (rng32 z).2
  obtain ⟨s2, o, h1, r⟩ := k h2 h.size rfl (Nat.le_trans hn0 (by rw [← eT]; exact X.same.2.1)) E2 ⟨_, A2, hsz, by omega, fun i hi => by show (Array.replicate z.toNatClampNeg (defaultValue (newarray.typeOf aty)))[i]? = _; rw [Array.getElem?_replicate, if_pos (by rw [(tnc hz).1]; exact hi)]⟩ T2 _ X2 e2 N
  exact ⟨s2, o, st2 _ h1, r⟩
theorem w_newarrE (O : Ok K l Z a0 ts B ml rt own nm R n0 Q) {aty : ArrayType} {ty : FieldType} {ad : String} {dv : Value} {z : Int32} {n cap cl' sl' : Nat} (hd : decode B pc = .ok (.newarray aty, 2)) (hp : pc + 2 = pc') (hty : newarray.typeOf aty = ty) (hdv : defaultValue ty = dv) (had : "[" ++ (newarray.typeOf aty).toString = ad) (w : Jvm.Cond.arrayClass ty ∈ ts) (hz : z.toInt = (n : Int)) (hcap : n ≤ cap) (hb8 : cap * 8 ≤ 536870912) (hc : cl + 1 = cl') (hs : sl + cap = sl') (hc' : cl' ≤ R.cells) (hs' : sl' ≤ R.slots)
    (k : ∀ h' b, b = h.size → n0 ≤ b → Ext h h' → Afn Z h' b ty n (fun _ => dv) → Exa Z h' b ad → W K h' cl' sl' pc' L (.ref b :: st)) : W K h cl sl pc L (.int z :: st) := by
  obtain ⟨⟨p, l', e', R'⟩, ⟨s, m, args, below⟩, ⟨meth, c⟩, Q', n0'⟩ := K
  obtain ⟨hx, hby, hml, hown, hnm, hrt, hlk, hZ, hw, hn0, hl', hR', hn', hQ'⟩ := O
  dsimp only at hx hby hml hown hnm hrt hlk hZ hn0 hl' hR' hn' hQ'
  subst hl' hR' hn' hQ'
  subst hp hc hs hty hdv
  intro T locs X eT N
  obtain ⟨T2, h2, kA, X2, e2, E2, A2, Ex2, st2⟩ := newPE X hx hZ (hw _ w) eT (g := mkF m pc L (.int z :: st)) rfl (hb hby hd) rfl (tnc hz).2 (cap := cap) (by rw [(tnc hz).1]; exact hcap) hb8 hc' hs' had
  have hsz : (newA kA (newarray.typeOf aty) z).slots.size = n := by rw [sz_new, (tnc hz).1]
  have hr := (rng32 z).2
  obtain ⟨s2, o, h1, r⟩ := k h2 h.size rfl (Nat.le_trans hn0 (by rw [← eT]; exact X.same.2.1)) E2 ⟨_, A2, hsz, by omega, fun i hi => by show (Array.replicate z.toNatClampNeg (defaultValue (newarray.typeOf aty)))[i]? = _; rw [Array.getElem?_replicate, if_pos (by rw [(tnc hz).1]; exact hi)]⟩ Ex2 T2 _ X2 e2 N
  exact ⟨s2, o, st2 _ h1, r⟩
theorem w_clone (O : Ok K l Z a0 ts B ml rt own nm R n0 Q) {i wt n cap cl' sl' : Nat} {ad : String} {a : Addr} {ty : FieldType} {f : Nat → Value} (hd : decode B pc = .ok (.invokevirtual i, 3)) (hp : pc + 3 = pc') (w1 : Jvm.Cond.methodLink own i ⟨ad, "clone", "()Ljava/lang/Object;"⟩ ∈ ts) (w2 : Jvm.Cond.sameMethod ad "java/lang/Object" "clone" "()Ljava/lang/Object;" ∈ ts) (w3 : Jvm.Cond.native ⟨"java/lang/Object", "clone", "()Ljava/lang/Object;"⟩ ∈ ts) (w4 : Jvm.Cond.instanceMethod ⟨"java/lang/Object", "clone", "()Ljava/lang/Object;"⟩ ∈ ts) (w5 : Jvm.Cond.selects ad ⟨ad, "clone", "()Ljava/lang/Object;"⟩ ⟨"java/lang/Object", "clone", "()Ljava/lang/Object;"⟩ ∈ ts) (w6 : Jvm.Cond.castable ad "java/lang/Cloneable" ∈ ts)
    (A : Afn Z h a ty n f) (E : Exa Z h a ad) (hfit : ∀ i, i < n → fits ty (f i) = true) (hsz : L.size = ml) (hwt : (st.map fun v => v.category).sum = wt) (hf : 1 ≤ R.frames) (hl : wt + 14 ≤ R.locals) (hcap : n ≤ cap) (hc : cl + 1 = cl') (hs : sl + cap = sl') (hc' : cl' ≤ R.cells) (hs' : sl' ≤ R.slots)
    (k : ∀ h' b, b = h.size → n0 ≤ b → Ext h h' → Afn Z h' b ty n f → Exa Z h' b ad → W K h' cl' sl' pc' L (.ref b :: st)) : W K h cl sl pc L (.ref a :: st) := by
  obtain ⟨⟨p, l', e', R'⟩, ⟨s, m, args, below⟩, ⟨meth, c⟩, Q', n0'⟩ := K
  obtain ⟨hx, hby, hml, hown, hnm, hrt, hlk, hZ, hw, hn0, hl', hR', hn', hQ'⟩ := O
  dsimp only at hx hby hml hown hnm hrt hlk hZ hn0 hl' hR' hn' hQ'
  subst hl' hR' hn' hQ'
  subst hp hc hs hml
  intro T locs X eT N
  obtain ⟨cx, A1, h1, h2, h3⟩ := A
  have FC : FitC Z cx := fitC_of A1 fun i hi v hv => by rw [h1] at hi; rw [h3 i hi] at hv; cases hv; exact hfit i hi
  obtain ⟨T2, h4, X2, e2, E2, A2, Ex2, st2⟩ := cloneA X hx hZ hown (hw _ w1) (hw _ w2) (hw _ w3) (hw _ w4) (hw _ w5) (hw _ w6) eT A1 E FC (g := mkF m pc L (.ref a :: st)) rfl hsz rfl (hb hby hd) hf (W := wt) (cap := cap) (by show 2 * 0 + _ ≤ _; omega) hl (by rw [h1]; exact hcap) hc' hs'
  obtain ⟨s2, o, g1, r⟩ := k h4 h.size rfl (Nat.le_trans hn0 (by rw [← eT]; exact X.same.2.1)) E2 ⟨_, A2, h1, h2, h3⟩ Ex2 T2 _ X2 e2 N
  exact ⟨s2, o, st2 _ g1, r⟩
theorem w_cast (O : Ok K l Z a0 ts B ml rt own nm R n0 Q) {i : Nat} {C : String} {a : Addr} (hd : decode B pc = .ok (.checkcast i, 3)) (hp : pc + 3 = pc') (w : Jvm.Cond.classLink own i C ∈ ts) (I : Ins Z h a C true) (k : W K h cl sl pc' L (.ref a :: st)) : W K h cl sl pc L (.ref a :: st) := by
  subst hp
  exact W.stepT (fun T locs X e => castY X O.1 O.2.2.2.2.2.2.2.1 O.2.2.2.1 (O.2.2.2.2.2.2.2.2.1 _ w) e I (g := mkF K.2.1.2.1 pc L (.ref a :: st)) rfl rfl (hb O.2.1 hd)) k
/-- the array at a takes every C -/
def Tk (Z : State) (h : Heap) (a : Addr) (C : String) : Prop := ∃ (c : Cell) (k : Class) (comp : ClassId) (t : FieldType), h[a]? = some c ∧ Z.vm.classes[c.cls]? = some k ∧ k.kind = .array comp t ∧ Z.vm.findClass C = some comp
theorem Tk.lt {a : Addr} {C : String} (F : Tk Z h a C) : a < h.size := by obtain ⟨_, _, _, _, h1, -⟩ := F; exact (Array.getElem?_eq_some_iff.mp h1).1
theorem Tk.ext {h' : Heap} {a : Addr} {C : String} (F : Tk Z h a C) (E : Ext h h') : Tk Z h' a C := by obtain ⟨c, k, cp, t, h1, r⟩ := F; exact ⟨c, k, cp, t, E.2 _ _ h1, r⟩
theorem Tk.wr {h' : Heap} {a b : Addr} {C : String} {i : Nat} {v : Value} (F : Tk Z h a C) (Wq : Wr h h' b i v) : Tk Z h' a C := by
  obtain ⟨c, k, cp, t, h1, h2, r⟩ := F
  obtain ⟨d1, a1, a2, -⟩ := wr_at Wq h1
  exact ⟨d1, k, cp, t, a1, by rw [a2]; exact h2, r⟩
theorem Tk.keep {h' : Heap} {a : Addr} {C : String} {ws : List Addr} (F : Tk Z h a C) (Kp : Keep h h' ws) : Tk Z h' a C := by
  obtain ⟨c, k, cp, t, h1, h2, r⟩ := F
  obtain ⟨d1, a1, a2, -⟩ := Kp.2.2 a c h1
  exact ⟨d1, k, cp, t, a1, by rw [a2]; exact h2, r⟩
theorem Tk.sto {a y : Addr} {C : String} (F : Tk Z h a C) (I : Ins Z h y C true) : Sto Z h a (.ref y) := by
  obtain ⟨cl, k, comp, t, o0, o1, o2, o3⟩ := F
  obtain ⟨cv, cT, i1, i2, i3⟩ := I
  cases o3.symm.trans i2
  simp only [Bool.and_eq_true, Bool.not_eq_true'] at i3
  obtain ⟨kc, q⟩ := Vm.classAt_of_findClass o3
  obtain ⟨kv, q2⟩ := Vm.classAt_of_assignable i3.2 ⟨kc, q⟩
  exact Or.inr ⟨cl, cv, k, kv, kc, _, _, y, o0, o1, o2, q, rfl, i1, i3.1, q2, i3.2⟩
theorem w_anewarrA (O : Ok K l Z a0 ts B ml rt own nm R n0 Q) {i : Nat} {C ad : String} {ty : FieldType} {z : Int32} {n cap cl' sl' : Nat} (hd : decode B pc = .ok (.anewarray i, 3)) (hp : pc + 3 = pc') (hC : (FieldType.array ty).toString = C) (had : "[" ++ C = ad) (w1 : Jvm.Cond.classLink own i C ∈ ts) (w2 : Jvm.Cond.arrayOver (.array ty) ∈ ts) (hz : z.toInt = (n : Int)) (hcap : n ≤ cap) (hb8 : cap * 8 ≤ 536870912) (hc : cl + 1 = cl') (hs : sl + cap = sl') (hc' : cl' ≤ R.cells) (hs' : sl' ≤ R.slots)
    (k : ∀ h' b, b = h.size → n0 ≤ b → Ext h h' → Afn Z h' b (.array ty) n (fun _ => .null) → Exa Z h' b ad → Tk Z h' b C → W K h' cl' sl' pc' L (.ref b :: st)) : W K h cl sl pc L (.int z :: st) := by
  obtain ⟨⟨p, l', e', R'⟩, ⟨s, m, args, below⟩, ⟨meth, c⟩, Q', n0'⟩ := K
  obtain ⟨hx, hby, hml, hown, hnm, hrt, hlk, hZ, hw, hn0, hl', hR', hn', hQ'⟩ := O
  dsimp only at hx hby hml hown hnm hrt hlk hZ hn0 hl' hR' hn' hQ'
  subst hl' hR' hn' hQ'
  subst hp hc hs
  intro T locs X eT N
  obtain ⟨T2, h2, kA, X2, e2, E2, A2, Ex2, Ov2, st2⟩ := newRA X hx hZ hown hC (hw _ w1) (hw _ w2) eT (g := mkF m pc L (.int z :: st)) rfl (hb hby hd) rfl (tnc hz).2 (cap := cap) (by rw [(tnc hz).1]; exact hcap) hb8 hc' hs' had
  have hsz : (newA kA (.array ty) z).slots.size = n := by rw [sz_new, (tnc hz).1]
  have hr := (rng32 z).2
  obtain ⟨ko, cpo, o1, o2, o3⟩ := Ov2
  obtain ⟨s2, o, h1, r⟩ := k h2 h.size rfl (Nat.le_trans hn0 (by rw [← eT]; exact X.same.2.1)) E2 ⟨_, A2, hsz, by omega, fun i hi => by show (Array.replicate z.toNatClampNeg (defaultValue (.array ty)))[i]? = _; rw [Array.getElem?_replicate, if_pos (by rw [(tnc hz).1]; exact hi)]; rfl⟩ Ex2 ⟨_, ko, cpo, _, A2.1, o1, o2, o3⟩ T2 _ X2 e2 N
  exact ⟨s2, o, st2 _ h1, r⟩
theorem w_aastore (O : Ok K l Z a0 ts B ml rt own nm R n0 Q) {a : Addr} {n i : Nat} {f : Nat → Value} {j : Int32} {x : Value} {ty : FieldType} (hd : decode B pc = .ok (.aastore, 1)) (hp : pc + 1 = pc') (A : Afn Z h a ty n f) (hty : ty.isReference = true) (hj : j.toInt = (i : Int)) (hi : i < n) (ha : n0 ≤ a) (St : Sto Z h a x) (k : ∀ h', Wr h h' a i x → W K h' cl sl pc' L st) : W K h cl sl pc L (x :: .int j :: .ref a :: st) := by
  subst hp
  obtain ⟨c, A, h1, h2, h3⟩ := A
  rw [← (tnc hj).1] at k
  exact W.stepW (fun T locs X e => stR X O.1 O.2.2.2.2.2.2.2.1 e A (j := j) (idxOk h1 hj hi) hty St (g := mkF K.2.1.2.1 pc L (x :: .int j :: .ref a :: st)) rfl rfl (hb O.2.1 hd)) (by rw [O.2.2.2.2.2.2.2.2.2.2.2.2.1]; exact ha) k
theorem w_static (O : Ok K l Z a0 ts B ml rt own nm R n0 Q) {i ml' wt cl' sl' : Nat} {y : MethodName} {B' : ByteArray} {rt' : Option FieldType} {rm : Room} {as S : List Value} {Qc : Option Value → Heap → Prop} {sg : MethodDescriptor} (hd : decode B pc = .ok (.invokestatic i, 3)) (hp : pc + 3 = pc') (w1 : Jvm.Cond.methodLink own i y ∈ ts) (w2 : Jvm.Cond.static y ∈ ts) (w3 : Jvm.Cond.initialized y.cls ∈ ts) (w4 : Jvm.Cond.code y B' ml' rt' ∈ ts) (hy : y.cls ≠ "java/lang/invoke/MethodHandle" ∧ y.cls ≠ "java/lang/invoke/VarHandle")
    (con : Con l Z y B' ml' rt' rm as h n0 Qc) (hS : S = as.reverse ++ st) (hsg : parseMethodDescriptor y.desc = some sg) (hlen : as.length = sg.parameters.length) (hwt : (st.map fun v => v.category).sum = wt) (hsz : L.size = ml) (hf : rm.frames + 1 ≤ R.frames) (hl : wt + (ml' + 11) + rm.locals ≤ R.locals) (hc : cl + rm.cells = cl') (hs : sl + rm.slots = sl') (hc' : cl' ≤ R.cells) (hs' : sl' ≤ R.slots) (k : ∀ v h', Qc v h' → W K h' cl' sl' pc' L (v.toList ++ st)) : W K h cl sl pc L S := by
  obtain ⟨⟨p, l', e', R'⟩, ⟨s, m, args, below⟩, ⟨meth, c⟩, Q', n0'⟩ := K
  obtain ⟨hx, hby, hml, hown, hnm, hrt, hlk, hZ, hw, hn0, hl', hR', hn', hQ'⟩ := O
  dsimp only at hx hby hml hown hnm hrt hlk hZ hn0 hl' hR' hn' hQ'
  subst hl' hR' hn' hQ'
  subst hp hc hs hS hml
  intro T locs X eT N
  have hn1 : n0' ≤ h.size := Nat.le_trans hn0 (by rw [← eT]; exact X.same.2.1)
  obtain ⟨_, _, ⟨T', L', k', n'⟩, -, X', ⟨Lc, ⟨hQ, hFr⟩, l1, y1, z1⟩, st1⟩ := Jvm.LawKit.callS X hx (y := y) hown (mvT hZ (hw _ w1)) (mvT hZ (hw _ w2)) (mvT hZ (hw _ w3)) (mvT hZ (hw _ w4)) hy (backOf (W := wt) (Q := fun v h L => Qc v h ∧ Fr n0' L) (con hn1 []) hZ (hw _ w4) (hw _ w3) hf hl) (g := mkF m pc L (as.reverse ++ st)) rfl hsz (argsL := as) (rest := st) (lenOf hsg hlen) rfl (by show 2 * 0 + _ ≤ _; omega) (hb hby hd) (fun _ _ => ⟨rfl, eT, hc', hs'⟩)
  dsimp only [Pt.U, Pt.locs, Pt.cells, Pt.slots] at X' l1 y1 z1 st1 hQ
  subst l1 y1 z1
  obtain ⟨s2, o, h1, r⟩ := k _ T'.heap hQ T' _ X' rfl (Fr.app N hFr)
  exact ⟨s2, o, st1 _ h1, r⟩
theorem w_virtual (O : Ok K l Z a0 ts B ml rt own nm R n0 Q) {i ml' wt cl' sl' : Nat} {y : MethodName} {B' : ByteArray} {rt' : Option FieldType} {rm : Room} {as S : List Value} {Qc : Option Value → Heap → Prop} {sg : MethodDescriptor} {a : Addr} {C : String} (hd : decode B pc = .ok (.invokevirtual i, 3)) (hp : pc + 3 = pc') (w1 : Jvm.Cond.methodLink own i y ∈ ts) (w2 : Jvm.Cond.declares y ∈ ts) (w3 : Jvm.Cond.selects C y y ∈ ts) (w4 : Jvm.Cond.instanceMethod y ∈ ts) (w5 : Jvm.Cond.code y B' ml' rt' ∈ ts) (w6 : Jvm.Cond.initialized y.cls ∈ ts) (hy : y.cls ≠ "java/lang/invoke/MethodHandle" ∧ y.cls ≠ "java/lang/invoke/VarHandle") (E : Exa Z h a C)
    (con : Con l Z y B' ml' rt' rm (.ref a :: as) h n0 Qc) (hS : S = as.reverse ++ .ref a :: st) (hsg : parseMethodDescriptor y.desc = some sg) (hlen : as.length = sg.parameters.length) (hwt : (st.map fun v => v.category).sum = wt) (hsz : L.size = ml) (hf : rm.frames + 1 ≤ R.frames) (hl : wt + (ml' + 11) + rm.locals ≤ R.locals) (hc : cl + rm.cells = cl') (hs : sl + rm.slots = sl') (hc' : cl' ≤ R.cells) (hs' : sl' ≤ R.slots) (k : ∀ v h', Qc v h' → W K h' cl' sl' pc' L (v.toList ++ st)) : W K h cl sl pc L S := by
  obtain ⟨⟨p, l', e', R'⟩, ⟨s, m, args, below⟩, ⟨meth, c⟩, Q', n0'⟩ := K
  obtain ⟨hx, hby, hml, hown, hnm, hrt, hlk, hZ, hw, hn0, hl', hR', hn', hQ'⟩ := O
  dsimp only at hx hby hml hown hnm hrt hlk hZ hn0 hl' hR' hn' hQ'
  subst hl' hR' hn' hQ'
  subst hp hc hs hS hml
  intro T locs X eT N
  have hn1 : n0' ≤ h.size := Nat.le_trans hn0 (by rw [← eT]; exact X.same.2.1)
  obtain ⟨cq, kq, qa, qb, qc⟩ := isOf hZ eT E
  obtain ⟨_, _, ⟨T', L', k', n'⟩, -, X', ⟨Lc, ⟨hQ, hFr⟩, l1, y1, z1⟩, st1⟩ := X.virtualBack hx (y := y) (z := y) hown (mvT hZ (hw _ w1)) (mvT hZ (hw _ w2)) (notFace_of_selects (args := #[]) (mvT hZ (hw _ w3))) (mvT hZ (hw _ w3)) (mvT hZ (hw _ w4)) hy (backOf (W := wt) (Q := fun v h L => Qc v h ∧ Fr n0' L) (con hn1 []) hZ (hw _ w5) (hw _ w6) hf hl) qa qc (g := mkF m pc L (as.reverse ++ .ref a :: st)) rfl hsz (Steps.refl _) (argsL := as) (rest := st) (lenOf hsg hlen) rfl (by show 2 * 0 + _ ≤ _; omega) (hb hby hd) (fun _ _ => ⟨rfl, eT, hc', hs'⟩)
  dsimp only [Pt.U, Pt.locs, Pt.cells, Pt.slots] at X' l1 y1 z1 st1 hQ
  subst l1 y1 z1
  obtain ⟨s2, o, h1, r⟩ := k _ T'.heap hQ T' _ X' rfl (Fr.app N hFr)
  exact ⟨s2, o, st1.trans h1, r⟩
theorem w_private (O : Ok K l Z a0 ts B ml rt own nm R n0 Q) {i ml' wt cl' sl' : Nat} {y : MethodName} {B' : ByteArray} {rt' : Option FieldType} {rm : Room} {as S : List Value} {Qc : Option Value → Heap → Prop} {sg : MethodDescriptor} {kk : Nat} {a : Addr} {C : String} (hd : decode B pc = .ok (.invokevirtual i, 3)) (hp : pc + 3 = pc') (w1 : Jvm.Cond.methodLink own i y ∈ ts) (w2 : Jvm.Cond.instanceMethod y ∈ ts) (w3 : Jvm.Cond.privateMethod y ∈ ts) (w4 : Jvm.Cond.instantiable y.cls kk ∈ ts) (w5 : Jvm.Cond.code y B' ml' rt' ∈ ts) (w6 : Jvm.Cond.initialized y.cls ∈ ts) (hy : y.cls ≠ "java/lang/invoke/MethodHandle" ∧ y.cls ≠ "java/lang/invoke/VarHandle") (E : Exa Z h a C)
    (con : Con l Z y B' ml' rt' rm (.ref a :: as) h n0 Qc) (hS : S = as.reverse ++ .ref a :: st) (hsg : parseMethodDescriptor y.desc = some sg) (hlen : as.length = sg.parameters.length) (hwt : (st.map fun v => v.category).sum = wt) (hsz : L.size = ml) (hf : rm.frames + 1 ≤ R.frames) (hl : wt + (ml' + 11) + rm.locals ≤ R.locals) (hc : cl + rm.cells = cl') (hs : sl + rm.slots = sl') (hc' : cl' ≤ R.cells) (hs' : sl' ≤ R.slots) (k : ∀ v h', Qc v h' → W K h' cl' sl' pc' L (v.toList ++ st)) : W K h cl sl pc L S := by
  obtain ⟨⟨p, l', e', R'⟩, ⟨s, m, args, below⟩, ⟨meth, c⟩, Q', n0'⟩ := K
  obtain ⟨hx, hby, hml, hown, hnm, hrt, hlk, hZ, hw, hn0, hl', hR', hn', hQ'⟩ := O
  dsimp only at hx hby hml hown hnm hrt hlk hZ hn0 hl' hR' hn' hQ'
  subst hl' hR' hn' hQ'
  subst hp hc hs hS hml
  intro T locs X eT N
  have hn1 : n0' ≤ h.size := Nat.le_trans hn0 (by rw [← eT]; exact X.same.2.1)
  obtain ⟨cq, q1, q2⟩ := E.cell
  have hpr : s.PrivateAt y := Cond.privateMethod_at (mvP hZ (hw _ w3) (args := #[]))
  have hsel : (Jvm.Cond.selects y.cls y y).before args s = true := by
    obtain ⟨c1, k1, g1, g2, -, g3, -⟩ := Cond.instantiable_spec (mvT (args := args) hZ (hw _ w4))
    exact selects_self_of_private g1 g2 (by simp at g3; exact g3.1) hpr (mvT hZ (hw _ w2)) hy
  obtain ⟨_, _, ⟨T', L', k', n'⟩, -, X', ⟨Lc, ⟨hQ, hFr⟩, l1, y1, z1⟩, st1⟩ := X.privateBack hx (y := y) hown (mvT hZ (hw _ w1)) (mvT hZ (hw _ w2)) hsel hpr (mvT hZ (hw _ w5)) hy (backOf (W := wt) (Q := fun v h L => Qc v h ∧ Fr n0' L) (con hn1 []) hZ (hw _ w5) (hw _ w6) hf hl) (g := mkF m pc L (as.reverse ++ .ref a :: st)) rfl hsz (Steps.refl _) (a := a) (by rw [eT]; exact q1) q2 (argsL := as) (rest := st) (lenOf hsg hlen) rfl (by show 2 * 0 + _ ≤ _; omega) (hb hby hd) (fun _ _ => ⟨rfl, eT, hc', hs'⟩)
  dsimp only [Pt.U, Pt.locs, Pt.cells, Pt.slots] at X' l1 y1 z1 st1 hQ
  subst l1 y1 z1
  obtain ⟨s2, o, h1, r⟩ := k _ T'.heap hQ T' _ X' rfl (Fr.app N hFr)
  exact ⟨s2, o, st1.trans h1, r⟩
theorem w_init (O : Ok K l Z a0 ts B ml rt own nm R n0 Q) {i ml' wt cl' sl' : Nat} {y : MethodName} {B' : ByteArray} {rm : Room} {as S : List Value} {Qc : Option Value → Heap → Prop} {sg : MethodDescriptor} {a : Addr} (hd : decode B pc = .ok (.invokespecial i, 3)) (hp : pc + 3 = pc') (hin : y.name = "<init>") (w1 : Jvm.Cond.methodLink own i y ∈ ts) (w2 : Jvm.Cond.instanceMethod y ∈ ts) (w3 : Jvm.Cond.initialized y.cls ∈ ts) (w4 : Jvm.Cond.code y B' ml' none ∈ ts) (hy : y.cls ≠ "java/lang/invoke/MethodHandle" ∧ y.cls ≠ "java/lang/invoke/VarHandle")
    (con : Con l Z y B' ml' none rm (.ref a :: as) h n0 Qc) (hS : S = as.reverse ++ .ref a :: st) (hsg : parseMethodDescriptor y.desc = some sg) (hlen : as.length = sg.parameters.length) (hwt : (st.map fun v => v.category).sum = wt) (hsz : L.size = ml) (hf : rm.frames + 1 ≤ R.frames) (hl : wt + (ml' + 11) + rm.locals ≤ R.locals) (hc : cl + rm.cells = cl') (hs : sl + rm.slots = sl') (hc' : cl' ≤ R.cells) (hs' : sl' ≤ R.slots) (k : ∀ v h', Qc v h' → W K h' cl' sl' pc' L (v.toList ++ st)) : W K h cl sl pc L S := by
  obtain ⟨⟨p, l', e', R'⟩, ⟨s, m, args, below⟩, ⟨meth, c⟩, Q', n0'⟩ := K
  obtain ⟨hx, hby, hml, hown, hnm, hrt, hlk, hZ, hw, hn0, hl', hR', hn', hQ'⟩ := O
  dsimp only at hx hby hml hown hnm hrt hlk hZ hn0 hl' hR' hn' hQ'
  subst hl' hR' hn' hQ'
  subst hp hc hs hS hml
  intro T locs X eT N
  have hn1 : n0' ≤ h.size := Nat.le_trans hn0 (by rw [← eT]; exact X.same.2.1)
  obtain ⟨_, _, ⟨T', L', k', n'⟩, -, X', ⟨Lc, ⟨hQ, hFr⟩, l1, y1, z1⟩, st1⟩ := X.specialBack hx (y := y) hin hown (mvT hZ (hw _ w1)) (mvT hZ (hw _ w2)) (mvT hZ (hw _ w4)) hy (backOf (W := wt) (Q := fun v h L => Qc v h ∧ Fr n0' L) (con hn1 []) hZ (hw _ w4) (hw _ w3) hf hl) (g := mkF m pc L (as.reverse ++ .ref a :: st)) rfl hsz (Steps.refl _) (a := a) (argsL := as) (rest := st) (lenOf hsg hlen) rfl (by show 2 * 0 + _ ≤ _; omega) (hb hby hd) (fun _ _ => ⟨rfl, eT, hc', hs'⟩)
  dsimp only [Pt.U, Pt.locs, Pt.cells, Pt.slots] at X' l1 y1 z1 st1 hQ
  subst l1 y1 z1
  obtain ⟨s2, o, h1, r⟩ := k _ T'.heap hQ T' _ X' rfl (Fr.app N hFr)
  exact ⟨s2, o, st1.trans h1, r⟩
theorem w_initB (O : Ok K l Z a0 ts B ml rt own nm R n0 Q) {i ml' wt cl' sl' rc rs : Nat} {y : MethodName} {B' : ByteArray} {as S : List Value} {Qc : Option Value → Heap → List Loc → Prop} {sg : MethodDescriptor} {a : Addr} (hd : decode B pc = .ok (.invokespecial i, 3)) (hp : pc + 3 = pc') (hin : y.name = "<init>") (w1 : Jvm.Cond.methodLink own i y ∈ ts) (w2 : Jvm.Cond.instanceMethod y ∈ ts) (w4 : Jvm.Cond.code y B' ml' none ∈ ts) (hy : y.cls ≠ "java/lang/invoke/MethodHandle" ∧ y.cls ≠ "java/lang/invoke/VarHandle")
    (bk : n0 ≤ h.size → ∀ (p : Program) (e : Env) (below : List Frame) (s : State) (args : Array Value), Z.Warmed39 s.vm → Back l R p e below s args y 3 wt (fun P a' => a' = (Value.ref a :: as).toArray ∧ P.U.heap = h ∧ P.cells + rc ≤ R.cells ∧ P.slots + rs ≤ R.slots) (fun P _ v B => ∃ L, Qc v B.U.heap L ∧ B.locs = P.locs ++ L ∧ B.cells = P.cells + rc ∧ B.slots = P.slots + rs)) (hfr : ∀ v h' L, Qc v h' L → Fr n0 L)
    (hS : S = as.reverse ++ .ref a :: st) (hsg : parseMethodDescriptor y.desc = some sg) (hlen : as.length = sg.parameters.length) (hwt : (st.map fun v => v.category).sum = wt) (hsz : L.size = ml) (hc : cl + rc = cl') (hs : sl + rs = sl') (hc' : cl' ≤ R.cells) (hs' : sl' ≤ R.slots) (k : ∀ v h' Ls, Qc v h' Ls → W K h' cl' sl' pc' L (v.toList ++ st)) : W K h cl sl pc L S := by
  obtain ⟨⟨p, l', e', R'⟩, ⟨s, m, args, below⟩, ⟨meth, c⟩, Q', n0'⟩ := K
  obtain ⟨hx, hby, hml, hown, hnm, hrt, hlk, hZ, hw, hn0, hl', hR', hn', hQ'⟩ := O
  dsimp only at hx hby hml hown hnm hrt hlk hZ hn0 hl' hR' hn' hQ'
  subst hl' hR' hn' hQ'
  subst hp hc hs hS hml
  intro T locs X eT N
  have hn1 : n0' ≤ h.size := Nat.le_trans hn0 (by rw [← eT]; exact X.same.2.1)
  obtain ⟨_, _, ⟨T', L', k', n'⟩, -, X', ⟨Lc, hQ, l1, y1, z1⟩, st1⟩ := X.specialBack hx (y := y) hin hown (mvT hZ (hw _ w1)) (mvT hZ (hw _ w2)) (mvT hZ (hw _ w4)) hy (bk hn1 p e' below s args hZ) (g := mkF m pc L (as.reverse ++ .ref a :: st)) rfl hsz (Steps.refl _) (a := a) (argsL := as) (rest := st) (lenOf hsg hlen) rfl (by show 2 * 0 + _ ≤ _; omega) (hb hby hd) (fun _ _ => ⟨rfl, eT, hc', hs'⟩)
  dsimp only [Pt.U, Pt.locs, Pt.cells, Pt.slots] at X' l1 y1 z1 st1 hQ
  subst l1 y1 z1
  obtain ⟨s2, o, h1, r⟩ := k _ T'.heap _ hQ T' _ X' rfl (Fr.app N (hfr _ _ _ hQ))
  exact ⟨s2, o, st1.trans h1, r⟩
theorem Afn.arv {a : Addr} {ty : FieldType} {n : Nat} {f : Nat → Value} {N : Int32} {vs : List Value} {d : Value} (A : Afn Z h a ty n f) (hN : N.toInt = (n : Int)) (hv : ∀ i, i < n → vs.getD i d = f i) (hf : ∀ i, i < n → fits ty (f i) = true) : ∃ k, Arv Z h a k ty N vs d := by
  obtain ⟨c, A, h1, h2, h3⟩ := A
  refine ⟨c.cls, c, A, rfl, by rw [h1, (tnc hN).1], (tnc hN).2, fun i hi => ?_, fun i hi => ?_⟩
  · rw [h1] at hi; rw [hv i hi]; exact h3 i hi
  · rw [h1] at hi; rw [hv i hi]; exact hf i hi
theorem w_reti {x : Int32} (O : Ok K l Z a0 ts B ml (some .int) own nm R n0 Q) (hd : decode B pc = .ok (.ireturn, 1)) (hc : cl ≤ R.cells) (hs : sl ≤ R.slots) (hq : Q (some (.int x)) h) : W K h cl sl pc L (.int x :: st) := by
  obtain ⟨⟨p, l', e', R'⟩, ⟨s, m, args, below⟩, ⟨meth, c⟩, Q', n0'⟩ := K
  obtain ⟨hx, hby, hml, hown, hnm, hrt, hlk, hZ, hw, hn0, hl', hR', hn', hQ'⟩ := O
  dsimp only at hx hby hml hown hnm hrt hlk hZ hn0 hl' hR' hn' hQ'
  subst hl' hR' hn' hQ'
  intro T locs X eT N
  obtain ⟨fs, hr, hrun, hended, hW, hsame⟩ := X.leave (v := some (.int x)) (fun q => by rw [hrt] at q; cases q) hlk
  refine ⟨_, _, retOut X hx hrt rfl (Or.inl ⟨rfl, Or.inl rfl, _, rfl⟩) (hb hby hd) hr, hrun, hended, _, _, rfl, ⟨?_, N⟩, ⟨_, rfl⟩, hW, hsame.mono hc hs⟩
  show Q' _ T.heap
  rw [eT]; exact hq
theorem w_retz {x : Int32} (O : Ok K l Z a0 ts B ml (some .boolean) own nm R n0 Q) (hd : decode B pc = .ok (.ireturn, 1)) (hc : cl ≤ R.cells) (hs : sl ≤ R.slots) (hz : x = 0 ∨ x = 1) (hq : Q (some (.int x)) h) : W K h cl sl pc L (.int x :: st) := by
  have hna : narrow .boolean (.int x) = .int x := by rcases hz with rfl | rfl <;> rfl
  obtain ⟨⟨p, l', e', R'⟩, ⟨s, m, args, below⟩, ⟨meth, c⟩, Q', n0'⟩ := K
  obtain ⟨hx, hby, hml, hown, hnm, hrt, hlk, hZ, hw, hn0, hl', hR', hn', hQ'⟩ := O
  dsimp only at hx hby hml hown hnm hrt hlk hZ hn0 hl' hR' hn' hQ'
  subst hl' hR' hn' hQ'
  intro T locs X eT N
  obtain ⟨fs, hr, hrun, hended, hW, hsame⟩ := X.leave (v := some (.int x)) (fun q => by rw [hrt] at q; cases q) hlk
  refine ⟨_, _, retOut X hx hrt hna (Or.inl ⟨rfl, Or.inr (Or.inl rfl), _, rfl⟩) (hb hby hd) hr, hrun, hended, _, _, rfl, ⟨?_, N⟩, ⟨_, rfl⟩, hW, hsame.mono hc hs⟩
  show Q' _ T.heap
  rw [eT]; exact hq
theorem w_retl {x : Int64} (O : Ok K l Z a0 ts B ml (some .long) own nm R n0 Q) (hd : decode B pc = .ok (.lreturn, 1)) (hc : cl ≤ R.cells) (hs : sl ≤ R.slots) (hq : Q (some (.long x)) h) : W K h cl sl pc L (.long x :: st) := by
  obtain ⟨⟨p, l', e', R'⟩, ⟨s, m, args, below⟩, ⟨meth, c⟩, Q', n0'⟩ := K
  obtain ⟨hx, hby, hml, hown, hnm, hrt, hlk, hZ, hw, hn0, hl', hR', hn', hQ'⟩ := O
  dsimp only at hx hby hml hown hnm hrt hlk hZ hn0 hl' hR' hn' hQ'
  subst hl' hR' hn' hQ'
  intro T locs X eT N
  obtain ⟨fs, hr, hrun, hended, hW, hsame⟩ := X.leave (v := some (.long x)) (fun q => by rw [hrt] at q; cases q) hlk
  refine ⟨_, _, retOut X hx hrt rfl (Or.inr (Or.inl ⟨rfl, rfl, _, rfl⟩)) (hb hby hd) hr, hrun, hended, _, _, rfl, ⟨?_, N⟩, ⟨_, rfl⟩, hW, hsame.mono hc hs⟩
  show Q' _ T.heap
  rw [eT]; exact hq
theorem w_reta {x : Value} {t : FieldType} (O : Ok K l Z a0 ts B ml (some t) own nm R n0 Q) (hd : decode B pc = .ok (.areturn, 1)) (ht : t.isReference = true) (hna : narrow t x = x) (hx' : x.isRef = true) (hc : cl ≤ R.cells) (hs : sl ≤ R.slots) (hq : Q (some x) h) : W K h cl sl pc L (x :: st) := by
  obtain ⟨⟨p, l', e', R'⟩, ⟨s, m, args, below⟩, ⟨meth, c⟩, Q', n0'⟩ := K
  obtain ⟨hx, hby, hml, hown, hnm, hrt, hlk, hZ, hw, hn0, hl', hR', hn', hQ'⟩ := O
  dsimp only at hx hby hml hown hnm hrt hlk hZ hn0 hl' hR' hn' hQ'
  subst hl' hR' hn' hQ'
  intro T locs X eT N
  obtain ⟨fs, hr, hrun, hended, hW, hsame⟩ := X.leave (v := some x) (fun q => by rw [hrt] at q; cases q) hlk
  refine ⟨_, _, retOut X hx hrt hna (Or.inr (Or.inr (Or.inr (Or.inr ⟨rfl, ht, hx'⟩)))) (hb hby hd) hr, hrun, hended, _, _, rfl, ⟨?_, N⟩, ⟨_, rfl⟩, hW, hsame.mono hc hs⟩
  show Q' _ T.heap
  rw [eT]; exact hq
theorem w_retv (O : Ok K l Z a0 ts B ml none own nm R n0 Q) (hd : decode B pc = .ok (.return_, 1)) (hc : cl ≤ R.cells) (hs : sl ≤ R.slots) (hq : Q none h) : W K h cl sl pc L [] := by
  obtain ⟨⟨p, l', e', R'⟩, ⟨s, m, args, below⟩, ⟨meth, c⟩, Q', n0'⟩ := K
  obtain ⟨hx, hby, hml, hown, hnm, hrt, hlk, hZ, hw, hn0, hl', hR', hn', hQ'⟩ := O
  dsimp only at hx hby hml hown hnm hrt hlk hZ hn0 hl' hR' hn' hQ'
  subst hl' hR' hn' hQ'
  intro T locs X eT N
  obtain ⟨fs, hr, hrun, hended, hW, hsame⟩ := X.leave (v := none) (fun _ => rfl) hlk
  refine ⟨_, _, X.returnOut hx hrt (hb hby hd) hr, hrun, hended, _, _, rfl, ⟨?_, N⟩, ⟨_, rfl⟩, hW, hsame.mono hc hs⟩
  show Q' _ T.heap
  rw [eT]; exact hq
theorem nz32 {y : Int32} (q : ¬ y.toInt = 0) : y ≠ 0 := by rintro rfl; exact q (by decide)
theorem nz64 {y : Int64} (q : ¬ y.toInt = 0) : y ≠ 0 := by rintro rfl; exact q (by decide)
theorem of_nat32 {q : Int32} {n : Nat} (hn : q.toInt = (n : Int)) : q = Int32.ofNat n := by
  have h1 := rng32 q
  apply Int32.toInt_inj.mp
  rw [hn, Int32.toInt_ofNat_of_lt (by omega)]
theorem c_lremP (x y : Int64) (d : Int) (hy : y.toInt = d) : (0 ≤ x.toInt → (x % y).toInt = x.toInt % d) ∧ (x.toInt < 0 → (x % y).toInt = -((-x.toInt) % d)) := by rw [← lrem_mod]; exact c_lrem x y d hy
end OwnW

theorem mw {d : Jvm.Cond} (k : Nat) (q : tables_1[k]? = some d) : d ∈ tables_1 := List.mem_of_getElem? q
def Mn (x y r : Int64) : Prop := (¬ y.toInt < x.toInt ∧ r = x) ∨ (y.toInt < x.toInt ∧ r = y)
theorem d2_0 : decode jdk_29_method_70_code 0 = .ok (.lload_n 0, 1) := by decide +kernel
theorem d2_1 : decode jdk_29_method_70_code 1 = .ok (.lload_n 2, 1) := by decide +kernel
theorem d2_2 : decode jdk_29_method_70_code 2 = .ok (.lcmp, 1) := by decide +kernel
theorem d2_3 : decode jdk_29_method_70_code 3 = .ok (.ifCond .gt 7, 3) := by decide +kernel
theorem d2_6 : decode jdk_29_method_70_code 6 = .ok (.lload_n 0, 1) := by decide +kernel
theorem d2_7 : decode jdk_29_method_70_code 7 = .ok (.goto 4, 3) := by decide +kernel
theorem d2_10 : decode jdk_29_method_70_code 10 = .ok (.lload_n 2, 1) := by decide +kernel
theorem d2_11 : decode jdk_29_method_70_code 11 = .ok (.lreturn, 1) := by decide +kernel
theorem pn_2 : plainFor (⟨"java/lang/Math", "min", "(JJ)J"⟩ : MethodName) = true := Jvm.Free.JP.mathPlain rfl (by decide +kernel)
set_option maxRecDepth 65536 in
set_option maxHeartbeats 40000000 in
theorem con_min (l : Launch) (Z : State) (a0 : Array Value) (hw : ∀ d ∈ tables_1, d.before a0 Z = true) (a b : Int64) (h0 : Heap) (n0 : Nat)  :
    Con l Z (⟨"java/lang/Math", "min", "(JJ)J"⟩ : MethodName) jdk_29_method_70_code 4 (some .long) ⟨0, 0, 0, 0⟩ [(.long a), (.long b)] h0 n0 (RetL fun r h => h = h0 ∧ Mn a b r) := by
  refine Con.body (L0 := #[.val (.long a), .second, .val (.long b), .second]) hw pn_2 (fun m => by first | (simp [entryFrame, mkF, argsToLocals, Value.category]; done) | rfl) (fun K O => ?_)
  refine w_lloadN O d2_0 (pc' := 1) rfl rfl ?_
  refine w_lloadN O d2_1 (pc' := 2) rfl rfl ?_
  refine w_lcmp_gt O d2_2 (pi := 3) rfl d2_3 (pn := 6) (pt := 10) rfl (by decide) rfl (fun c2 => ?_) (fun c2 => ?_)
  · refine w_lloadN O d2_10 (pc' := 11) rfl rfl ?_
    refine w_retl O d2_11 (by decide) (by decide) ?_
    exact ⟨_, rfl, rfl, Or.inr ⟨c2, rfl⟩⟩
  · refine w_lloadN O d2_6 (pc' := 7) rfl rfl ?_
    refine w_goto O d2_7 (pc' := 11) (by decide) rfl ?_
    refine w_retl O d2_11 (by decide) (by decide) ?_
    exact ⟨_, rfl, rfl, Or.inl ⟨c2, rfl⟩⟩
theorem d3_0 : decode prog_6_method_17_code 0 = .ok (.lload_n 0, 1) := by decide +kernel
theorem d3_1 : decode prog_6_method_17_code 1 = .ok (.ldc2_w 228, 3) := by decide +kernel
theorem d3_4 : decode prog_6_method_17_code 4 = .ok (.lmul, 1) := by decide +kernel
theorem d3_5 : decode prog_6_method_17_code 5 = .ok (.lreturn, 1) := by decide +kernel
theorem pn_3 : plainFor (⟨"com/example/rulewright/rulewright/dice/Distribution", "sizeAsWork", "(J)J"⟩ : MethodName) = true := plainFor_of_name (by first | (simp [plainName, overriddenIn]; done) | decide +kernel)
set_option maxRecDepth 65536 in
set_option maxHeartbeats 40000000 in
theorem con_sz (l : Launch) (Z : State) (a0 : Array Value) (hw : ∀ d ∈ tables_1, d.before a0 Z = true) (a : Int64) (h0 : Heap) (n0 : Nat)  :
    Con l Z (⟨"com/example/rulewright/rulewright/dice/Distribution", "sizeAsWork", "(J)J"⟩ : MethodName) prog_6_method_17_code 2 (some .long) ⟨0, 0, 0, 0⟩ [(.long a)] h0 n0 (RetL fun r h => h = h0 ∧ r = a * 128) := by
  refine Con.body (L0 := #[.val (.long a), .second]) hw pn_3 (fun m => by first | (simp [entryFrame, mkF, argsToLocals, Value.category]; done) | rfl) (fun K O => ?_)
  refine w_lloadN O d3_0 (pc' := 1) rfl rfl ?_
  refine w_ldc2 O d3_1 (pc' := 4) rfl (mw 17 rfl) ?_
  refine w_lmul O d3_4 (pc' := 5) rfl ?_
  refine w_retl O d3_5 (by decide) (by decide) ?_
  exact ⟨_, rfl, rfl, rfl⟩
theorem d1_0 : decode prog_6_method_19_code 0 = .ok (.lload_n 0, 1) := by decide +kernel
theorem d1_1 : decode prog_6_method_19_code 1 = .ok (.ldc2_w 237, 3) := by decide +kernel
theorem d1_4 : decode prog_6_method_19_code 4 = .ok (.invokestatic 239, 3) := by decide +kernel
theorem d1_7 : decode prog_6_method_19_code 7 = .ok (.lload_n 2, 1) := by decide +kernel
theorem d1_8 : decode prog_6_method_19_code 8 = .ok (.ldc2_w 237, 3) := by decide +kernel
theorem d1_11 : decode prog_6_method_19_code 11 = .ok (.invokestatic 239, 3) := by decide +kernel
theorem d1_14 : decode prog_6_method_19_code 14 = .ok (.lmul, 1) := by decide +kernel
theorem d1_15 : decode prog_6_method_19_code 15 = .ok (.lstore 6, 2) := by decide +kernel
theorem d1_17 : decode prog_6_method_19_code 17 = .ok (.lload 6, 2) := by decide +kernel
theorem d1_19 : decode prog_6_method_19_code 19 = .ok (.ldc2_w 237, 3) := by decide +kernel
theorem d1_22 : decode prog_6_method_19_code 22 = .ok (.invokestatic 239, 3) := by decide +kernel
theorem d1_25 : decode prog_6_method_19_code 25 = .ok (.invokestatic 224, 3) := by decide +kernel
theorem d1_28 : decode prog_6_method_19_code 28 = .ok (.lload 4, 2) := by decide +kernel
theorem d1_30 : decode prog_6_method_19_code 30 = .ok (.ldc2_w 242, 3) := by decide +kernel
theorem d1_33 : decode prog_6_method_19_code 33 = .ok (.invokestatic 239, 3) := by decide +kernel
theorem d1_36 : decode prog_6_method_19_code 36 = .ok (.ladd, 1) := by decide +kernel
theorem d1_37 : decode prog_6_method_19_code 37 = .ok (.lreturn, 1) := by decide +kernel
theorem pn_1 : plainFor (⟨"com/example/rulewright/rulewright/dice/Distribution", "leastWorkBehind", "(JJJ)J"⟩ : MethodName) = true := plainFor_of_name (by first | (simp [plainName, overriddenIn]; done) | decide +kernel)
theorem pd_0 : parseMethodDescriptor "(JJ)J" = some ⟨[.long, .long], some .long⟩ := by decide +kernel
theorem pd_1 : parseMethodDescriptor "(J)J" = some ⟨[.long], some .long⟩ := by decide +kernel
set_option maxRecDepth 65536 in
set_option maxHeartbeats 40000000 in
theorem con_lw (l : Launch) (Z : State) (a0 : Array Value) (hw : ∀ d ∈ tables_1, d.before a0 Z = true) (o t k : Int64) (h0 : Heap) (n0 : Nat)  :
    Con l Z (⟨"com/example/rulewright/rulewright/dice/Distribution", "leastWorkBehind", "(JJJ)J"⟩ : MethodName) prog_6_method_19_code 8 (some .long) ⟨1, 0, 0, 19⟩ [(.long o), (.long t), (.long k)] h0 n0 (RetL fun r h => h = h0 ∧ ∃ m1 m2 m3 m4, Mn o 16777216 m1 ∧ Mn t 16777216 m2 ∧ Mn (m1 * m2) 16777216 m3 ∧ Mn k 2147483648 m4 ∧ r = m3 * 128 + m4) := by
  refine Con.body (L0 := #[.val (.long o), .second, .val (.long t), .second, .val (.long k), .second, .unset, .unset]) hw pn_1 (fun m => by first | (simp [entryFrame, mkF, argsToLocals, Value.category]; done) | rfl) (fun K O => ?_)
  refine w_lloadN O d1_0 (pc' := 1) rfl rfl ?_
  refine w_ldc2 O d1_1 (pc' := 4) rfl (mw 9 rfl) ?_
  refine w_static O d1_4 (as := [(.long o), (.long (16777216 : Int64))]) (st := []) (wt := 0) (cl' := 0) (sl' := 0) (pc' := 7) rfl (mw 10 rfl) (mw 11 rfl) (mw 12 rfl) (mw 13 rfl) (by decide) (con_min l Z a0 hw o (16777216 : Int64) h0 n0) rfl pd_0 rfl rfl rfl (by decide) (by decide) rfl rfl (by decide) (by decide) (cL fun m1 _ ⟨qm1, sm1⟩ => ?_)
  rw [qm1]
  refine w_lloadN O d1_7 (pc' := 8) rfl rfl ?_
  refine w_ldc2 O d1_8 (pc' := 11) rfl (mw 9 rfl) ?_
  refine w_static O d1_11 (as := [(.long t), (.long (16777216 : Int64))]) (st := [(.long m1)]) (wt := 2) (cl' := 0) (sl' := 0) (pc' := 14) rfl (mw 10 rfl) (mw 11 rfl) (mw 12 rfl) (mw 13 rfl) (by decide) (con_min l Z a0 hw t (16777216 : Int64) h0 n0) rfl pd_0 rfl rfl rfl (by decide) (by decide) rfl rfl (by decide) (by decide) (cL fun m2 _ ⟨qm2, sm2⟩ => ?_)
  rw [qm2]
  refine w_lmul O d1_14 (pc' := 15) rfl ?_
  refine w_lstoreG O d1_15 (L' := fun zq => #[.val (.long o), .second, .val (.long t), .second, .val (.long k), .second, .val (.long zq), .second]) (pc' := 17) rfl (fun _ => rfl) (fun t3 e_t3 => ?_)
  refine w_lload O d1_17 (pc' := 19) rfl rfl ?_
  refine w_ldc2 O d1_19 (pc' := 22) rfl (mw 9 rfl) ?_
  refine w_static O d1_22 (as := [(.long t3), (.long (16777216 : Int64))]) (st := []) (wt := 0) (cl' := 0) (sl' := 0) (pc' := 25) rfl (mw 10 rfl) (mw 11 rfl) (mw 12 rfl) (mw 13 rfl) (by decide) (con_min l Z a0 hw t3 (16777216 : Int64) h0 n0) rfl pd_0 rfl rfl rfl (by decide) (by decide) rfl rfl (by decide) (by decide) (cL fun m4 _ ⟨qm4, sm4⟩ => ?_)
  rw [qm4]
  refine w_static O d1_25 (as := [(.long m4)]) (st := []) (wt := 0) (cl' := 0) (sl' := 0) (pc' := 28) rfl (mw 14 rfl) (mw 15 rfl) (mw 7 rfl) (mw 16 rfl) (by decide) (con_sz l Z a0 hw m4 h0 n0) rfl pd_1 rfl rfl rfl (by decide) (by decide) rfl rfl (by decide) (by decide) (cL fun sz _ ⟨qsz, esz⟩ => ?_)
  rw [qsz, esz]
  refine w_lload O d1_28 (pc' := 30) rfl rfl ?_
  refine w_ldc2 O d1_30 (pc' := 33) rfl (mw 18 rfl) ?_
  refine w_static O d1_33 (as := [(.long k), (.long (2147483648 : Int64))]) (st := [(.long (m4 * (128 : Int64)))]) (wt := 2) (cl' := 0) (sl' := 0) (pc' := 36) rfl (mw 10 rfl) (mw 11 rfl) (mw 12 rfl) (mw 13 rfl) (by decide) (con_min l Z a0 hw k (2147483648 : Int64) h0 n0) rfl pd_0 rfl rfl rfl (by decide) (by decide) rfl rfl (by decide) (by decide) (cL fun m5 _ ⟨qm5, sm5⟩ => ?_)
  rw [qm5]
  refine w_ladd O d1_36 (pc' := 37) rfl ?_
  refine w_retl O d1_37 (by decide) (by decide) ?_
  exact ⟨_, rfl, rfl, m1, m2, m4, m5, sm1, sm2, by rw [e_t3] at sm4; exact sm4, sm5, rfl⟩
def SzOf (o t sz : Int64) : Prop := ((o.toInt = 0 ∨ t.toInt = 0) ∧ sz = 0) ∨ (¬ o.toInt = 0 ∧ ¬ t.toInt = 0 ∧ (16777216 < o.toInt ∨ 16777216 < t.toInt) ∧ sz = 16777216) ∨ (¬ 16777216 < o.toInt ∧ ¬ 16777216 < t.toInt ∧ Mn (o * t) 16777216 sz)
theorem lit24 : (16777216 : Int64).toInt = 16777216 := by decide
theorem own_fin (o t k m1 m2 m3 m4 sz hd : Int64) (ho : 0 ≤ o.toInt) (ht : 0 ≤ t.toInt) (hk : 0 ≤ k.toInt) (s1 : Mn o 16777216 m1) (s2 : Mn t 16777216 m2) (s3 : Mn (m1 * m2) 16777216 m3) (s4 : Mn k 2147483648 m4) (hS : SzOf o t sz) (hH : Mn k 2147483648 hd) : m3 * 128 + m4 = sz * 128 + hd := by
  have e4 : m4 = hd := by
    rcases s4 with ⟨z, rfl⟩ | ⟨z, rfl⟩ <;> rcases hH with ⟨y, rfl⟩ | ⟨y, rfl⟩ <;> first | rfl | exact absurd z y | exact absurd y z
  have e3 : m3 = sz := by
    have l24 := lit24
    unfold Mn at s1 s2 s3
    rcases hS with ⟨z, rfl⟩ | ⟨z1, z2, z3, rfl⟩ | ⟨z1, z2, z3⟩
    · have hz : m1 * m2 = 0 := by
        rcases z with z | z
        · have e : o = 0 := Int64.toInt_inj.mp (z.trans (by decide))
          rcases s1 with ⟨_, rfl⟩ | ⟨y, rfl⟩
          · rw [e]; simp
          · omega
        · have e : t = 0 := Int64.toInt_inj.mp (z.trans (by decide))
          rcases s2 with ⟨_, rfl⟩ | ⟨y, rfl⟩
          · rw [e]; simp
          · omega
      rw [hz] at s3
      rcases s3 with ⟨_, rfl⟩ | ⟨y, rfl⟩
      · rfl
      · exact absurd y (by decide)
    · have r12 : 16777216 ≤ (m1 * m2).toInt := by
        have c := c_lmul m1 m2
        have r := rng64 (m1 * m2)
        rcases z3 with z3 | z3
        · have e : m1 = 16777216 := by rcases s1 with ⟨y, rfl⟩ | ⟨y, rfl⟩; · omega
                                       · rfl
          subst e
          rw [l24] at c
          have b : 1 ≤ m2.toInt ∧ m2.toInt ≤ 16777216 := by rcases s2 with ⟨y, rfl⟩ | ⟨y, rfl⟩ <;> omega
          omega
        · have e : m2 = 16777216 := by rcases s2 with ⟨y, rfl⟩ | ⟨y, rfl⟩; · omega
                                       · rfl
          subst e
          rw [l24] at c
          have b : 1 ≤ m1.toInt ∧ m1.toInt ≤ 16777216 := by rcases s1 with ⟨y, rfl⟩ | ⟨y, rfl⟩ <;> omega
          omega
      rcases s3 with ⟨y, rfl⟩ | ⟨y, rfl⟩
      · apply Int64.toInt_inj.mp; omega
      · rfl
    · have e1 : m1 = o := by rcases s1 with ⟨y, rfl⟩ | ⟨y, rfl⟩; · rfl
                             · omega
      have e2 : m2 = t := by rcases s2 with ⟨y, rfl⟩ | ⟨y, rfl⟩; · rfl
                             · omega
      subst e1 e2
      unfold Mn at z3
      rcases s3 with ⟨y, rfl⟩ | ⟨y, rfl⟩ <;> rcases z3 with ⟨w, rfl⟩ | ⟨w, rfl⟩ <;> first | rfl | exact absurd y w | exact absurd w y
  rw [e3, e4]
theorem pn_0 : plainFor x = true := plainFor_of_name (by first | (simp [plainName, overriddenIn]; done) | decide +kernel)
theorem pd_2 : parseMethodDescriptor "(JJJ)J" = some ⟨[.long, .long, .long], some .long⟩ := by decide +kernel
set_option maxRecDepth 65536 in
set_option maxHeartbeats 40000000 in
theorem law_con (l : Launch) (Z : State) (a0 : Array Value) (hw : ∀ d ∈ tables_1, d.before a0 Z = true) (p q u : Int64) (g : Int32) (h0 : Heap) (n0 : Nat)  :
    Con l Z x code maxLocals ret room_1 [(.long p), (.long q), (.long u), (.int g)] h0 n0 (RetI fun r _ => r = 1) := by
  refine Con.body (L0 := #[.val (.long p), .second, .val (.long q), .second, .val (.long u), .second, .val (.int g), .unset, .unset, .unset, .unset, .unset, .unset, .unset, .unset, .unset, .unset, .unset, .unset, .unset, .unset, .unset, .unset]) hw pn_0 (fun m => by first | (simp [entryFrame, mkF, argsToLocals, Value.category, maxLocals]; done) | rfl) (fun K O => ?_)
  replace O : Ok K l Z a0 tables_1 code 23 (some .boolean) "com/example/rulewright/rulewright/dice/DistributionLeastWorkBehindPinLaw" "law" room_1 n0 _ := O
  refine w_iload O at_0 (pc' := 2) rfl rfl ?_
  refine w_iconst O at_2 (z := (1 : Int32)) (pc' := 3) rfl rfl ?_
  refine w_iand O at_3 (pc' := 4) rfl ?_
  have i1 : (g &&& (1 : Int32)).toInt = g.toInt % 2 := c_mask g (1 : Int32) 1 (by decide) (by decide)
  have J20 : ∀ (o1 : Int64), 0 ≤ o1.toInt → W K h0 0 0 20 #[.val (.long p), .second, .val (.long q), .second, .val (.long u), .second, .val (.int g), .unset, .unset, .unset, .unset, .unset, .unset, .unset, .unset, .unset, .unset, .unset, .unset, .unset, .unset, .unset, .unset] [(.long o1)] := by
    intro o1 hJ20
    refine w_lstore O at_20 (L' := #[.val (.long p), .second, .val (.long q), .second, .val (.long u), .second, .val (.int g), .val (.long o1), .second, .unset, .unset, .unset, .unset, .unset, .unset, .unset, .unset, .unset, .unset, .unset, .unset, .unset, .unset]) (pc' := 22) rfl rfl ?_
    refine w_iload O at_22 (pc' := 24) rfl rfl ?_
    refine w_iconst O at_24 (z := (2 : Int32)) (pc' := 25) rfl rfl ?_
    refine w_iand O at_25 (pc' := 26) rfl ?_
    have i2 : 0 ≤ (g &&& (2 : Int32)).toInt ∧ (g &&& (2 : Int32)).toInt ≤ 2 := c_and g (2 : Int32) (by decide)
    have J42 : ∀ (t1 : Int64), 0 ≤ t1.toInt → W K h0 0 0 42 #[.val (.long p), .second, .val (.long q), .second, .val (.long u), .second, .val (.int g), .val (.long o1), .second, .unset, .unset, .unset, .unset, .unset, .unset, .unset, .unset, .unset, .unset, .unset, .unset, .unset, .unset] [(.long t1)] := by
      intro t1 hJ42
      refine w_lstore O at_42 (L' := #[.val (.long p), .second, .val (.long q), .second, .val (.long u), .second, .val (.int g), .val (.long o1), .second, .val (.long t1), .second, .unset, .unset, .unset, .unset, .unset, .unset, .unset, .unset, .unset, .unset, .unset, .unset]) (pc' := 44) rfl rfl ?_
      refine w_iload O at_44 (pc' := 46) rfl rfl ?_
      refine w_iconst O at_46 (z := (4 : Int32)) (pc' := 47) rfl rfl ?_
      refine w_iand O at_47 (pc' := 48) rfl ?_
      have i3 : 0 ≤ (g &&& (4 : Int32)).toInt ∧ (g &&& (4 : Int32)).toInt ≤ 4 := c_and g (4 : Int32) (by decide)
      have J66 : ∀ (k1 : Int64), 0 ≤ k1.toInt → W K h0 0 0 66 #[.val (.long p), .second, .val (.long q), .second, .val (.long u), .second, .val (.int g), .val (.long o1), .second, .val (.long t1), .second, .unset, .unset, .unset, .unset, .unset, .unset, .unset, .unset, .unset, .unset, .unset, .unset] [(.long k1)] := by
        intro k1 hJ66
        refine w_lstore O at_66 (L' := #[.val (.long p), .second, .val (.long q), .second, .val (.long u), .second, .val (.int g), .val (.long o1), .second, .val (.long t1), .second, .val (.long k1), .second, .unset, .unset, .unset, .unset, .unset, .unset, .unset, .unset, .unset, .unset]) (pc' := 68) rfl rfl ?_
        refine w_ldc2 O at_68 (pc' := 71) rfl (mw 2 rfl) ?_
        refine w_lstore O at_71 (L' := #[.val (.long p), .second, .val (.long q), .second, .val (.long u), .second, .val (.int g), .val (.long o1), .second, .val (.long t1), .second, .val (.long k1), .second, .val (.long (16777216 : Int64)), .second, .unset, .unset, .unset, .unset, .unset, .unset, .unset, .unset]) (pc' := 73) rfl rfl ?_
        refine w_lload O at_73 (pc' := 75) rfl rfl ?_
        refine w_lconst O at_75 (z := (0 : Int64)) (pc' := 76) rfl rfl ?_
        have J140a : ∀ (sz : Int64), SzOf o1 t1 sz → W K h0 0 0 140 #[.val (.long p), .second, .val (.long q), .second, .val (.long u), .second, .val (.int g), .val (.long o1), .second, .val (.long t1), .second, .val (.long k1), .second, .val (.long (16777216 : Int64)), .second, .val (.long sz), .second, .unset, .unset, .unset, .unset, .unset, .unset] [] := by
          intro sz hS
          refine w_ldc2 O at_140 (pc' := 143) rfl (mw 3 rfl) ?_
          refine w_lstore O at_143 (L' := #[.val (.long p), .second, .val (.long q), .second, .val (.long u), .second, .val (.int g), .val (.long o1), .second, .val (.long t1), .second, .val (.long k1), .second, .val (.long (16777216 : Int64)), .second, .val (.long sz), .second, .val (.long (2147483648 : Int64)), .second, .unset, .unset, .unset, .unset]) (pc' := 145) rfl rfl ?_
          refine w_lload O at_145 (pc' := 147) rfl rfl ?_
          refine w_lload O at_147 (pc' := 149) rfl rfl ?_
          have J160 : ∀ (hd : Int64), Mn k1 2147483648 hd → W K h0 0 0 160 #[.val (.long p), .second, .val (.long q), .second, .val (.long u), .second, .val (.int g), .val (.long o1), .second, .val (.long t1), .second, .val (.long k1), .second, .val (.long (16777216 : Int64)), .second, .val (.long sz), .second, .val (.long (2147483648 : Int64)), .second, .unset, .unset, .unset, .unset] [(.long hd)] := by
            intro hd hJ160
            have hH := hJ160
            refine w_lstore O at_160 (L' := #[.val (.long p), .second, .val (.long q), .second, .val (.long u), .second, .val (.int g), .val (.long o1), .second, .val (.long t1), .second, .val (.long k1), .second, .val (.long (16777216 : Int64)), .second, .val (.long sz), .second, .val (.long (2147483648 : Int64)), .second, .val (.long hd), .second, .unset, .unset]) (pc' := 162) rfl rfl ?_
            refine w_lload O at_162 (pc' := 164) rfl rfl ?_
            refine w_ldc2 O at_164 (pc' := 167) rfl (mw 4 rfl) ?_
            refine w_lmul O at_167 (pc' := 168) rfl ?_
            refine w_lload O at_168 (pc' := 170) rfl rfl ?_
            refine w_ladd O at_170 (pc' := 171) rfl ?_
            refine w_lstoreG O at_171 (L' := fun zq => #[.val (.long p), .second, .val (.long q), .second, .val (.long u), .second, .val (.int g), .val (.long o1), .second, .val (.long t1), .second, .val (.long k1), .second, .val (.long (16777216 : Int64)), .second, .val (.long sz), .second, .val (.long (2147483648 : Int64)), .second, .val (.long hd), .second, .val (.long zq), .second]) (pc' := 173) rfl (fun _ => rfl) (fun ex e_ex => ?_)
            refine w_lload O at_173 (pc' := 175) rfl rfl ?_
            refine w_lload O at_175 (pc' := 177) rfl rfl ?_
            refine w_lload O at_177 (pc' := 179) rfl rfl ?_
            refine w_static O at_179 (as := [(.long o1), (.long t1), (.long k1)]) (st := []) (wt := 0) (cl' := 0) (sl' := 0) (pc' := 182) rfl (mw 5 rfl) (mw 6 rfl) (mw 7 rfl) (mw 8 rfl) (by decide) (con_lw l Z a0 hw o1 t1 k1 h0 n0) rfl pd_2 rfl rfl rfl (by decide) (by decide) rfl rfl (by decide) (by decide) (cL fun r _ ⟨qr, m1, m2, m3, m4, s1, s2, s3, s4, er⟩ => ?_)
            rw [qr]
            refine w_lload O at_182 (pc' := 184) rfl rfl ?_
            have hne : r.toInt = ex.toInt := by rw [er, e_ex]; exact congrArg Int64.toInt (own_fin o1 t1 k1 m1 m2 m3 m4 sz hd hJ20 hJ42 hJ66 s1 s2 s3 s4 hS hH)
            refine w_lcmp_ne O at_184 (pi := 185) rfl at_185 (pn := 188) (pt := 192) rfl (by decide) rfl (fun q => absurd hne q) (fun _ => ?_)
            refine w_iconst O at_188 (z := (1 : Int32)) (pc' := 189) rfl rfl ?_
            refine w_goto O at_189 (pc' := 193) (by decide) rfl ?_
            refine w_retz O at_193 (by decide) (by decide) (Or.inr rfl) ?_
            exact ⟨_, rfl, rfl⟩
          refine w_lcmp_le O at_149 (pi := 150) rfl at_150 (pn := 153) (pt := 158) rfl (by decide) rfl (fun c149 => ?_) (fun c149 => ?_)
          · replace c149 : ¬ 2147483648 < k1.toInt := c149
            refine w_lload O at_158 (pc' := 160) rfl rfl ?_
            exact J160 k1 (by first | exact Or.inr ⟨c149, rfl⟩ | exact Or.inl ⟨c149, rfl⟩)
          · replace c149 : 2147483648 < k1.toInt := c149
            refine w_lload O at_153 (pc' := 155) rfl rfl ?_
            refine w_goto O at_155 (pc' := 160) (by decide) rfl ?_
            exact J160 (2147483648 : Int64) (by first | exact Or.inr ⟨c149, rfl⟩ | exact Or.inl ⟨c149, rfl⟩)
        have J140b : ∀ (pp sz : Int64), SzOf o1 t1 sz → W K h0 0 0 140 #[.val (.long p), .second, .val (.long q), .second, .val (.long u), .second, .val (.int g), .val (.long o1), .second, .val (.long t1), .second, .val (.long k1), .second, .val (.long (16777216 : Int64)), .second, .val (.long sz), .second, .val (.long pp), .second, .unset, .unset, .unset, .unset] [] := by
          intro pp sz hS
          refine w_ldc2 O at_140 (pc' := 143) rfl (mw 3 rfl) ?_
          refine w_lstore O at_143 (L' := #[.val (.long p), .second, .val (.long q), .second, .val (.long u), .second, .val (.int g), .val (.long o1), .second, .val (.long t1), .second, .val (.long k1), .second, .val (.long (16777216 : Int64)), .second, .val (.long sz), .second, .val (.long (2147483648 : Int64)), .second, .unset, .unset, .unset, .unset]) (pc' := 145) rfl rfl ?_
          refine w_lload O at_145 (pc' := 147) rfl rfl ?_
          refine w_lload O at_147 (pc' := 149) rfl rfl ?_
          have J160 : ∀ (hd : Int64), Mn k1 2147483648 hd → W K h0 0 0 160 #[.val (.long p), .second, .val (.long q), .second, .val (.long u), .second, .val (.int g), .val (.long o1), .second, .val (.long t1), .second, .val (.long k1), .second, .val (.long (16777216 : Int64)), .second, .val (.long sz), .second, .val (.long (2147483648 : Int64)), .second, .unset, .unset, .unset, .unset] [(.long hd)] := by
            intro hd hJ160
            have hH := hJ160
            refine w_lstore O at_160 (L' := #[.val (.long p), .second, .val (.long q), .second, .val (.long u), .second, .val (.int g), .val (.long o1), .second, .val (.long t1), .second, .val (.long k1), .second, .val (.long (16777216 : Int64)), .second, .val (.long sz), .second, .val (.long (2147483648 : Int64)), .second, .val (.long hd), .second, .unset, .unset]) (pc' := 162) rfl rfl ?_
            refine w_lload O at_162 (pc' := 164) rfl rfl ?_
            refine w_ldc2 O at_164 (pc' := 167) rfl (mw 4 rfl) ?_
            refine w_lmul O at_167 (pc' := 168) rfl ?_
            refine w_lload O at_168 (pc' := 170) rfl rfl ?_
            refine w_ladd O at_170 (pc' := 171) rfl ?_
            refine w_lstoreG O at_171 (L' := fun zq => #[.val (.long p), .second, .val (.long q), .second, .val (.long u), .second, .val (.int g), .val (.long o1), .second, .val (.long t1), .second, .val (.long k1), .second, .val (.long (16777216 : Int64)), .second, .val (.long sz), .second, .val (.long (2147483648 : Int64)), .second, .val (.long hd), .second, .val (.long zq), .second]) (pc' := 173) rfl (fun _ => rfl) (fun ex e_ex => ?_)
            refine w_lload O at_173 (pc' := 175) rfl rfl ?_
            refine w_lload O at_175 (pc' := 177) rfl rfl ?_
            refine w_lload O at_177 (pc' := 179) rfl rfl ?_
            refine w_static O at_179 (as := [(.long o1), (.long t1), (.long k1)]) (st := []) (wt := 0) (cl' := 0) (sl' := 0) (pc' := 182) rfl (mw 5 rfl) (mw 6 rfl) (mw 7 rfl) (mw 8 rfl) (by decide) (con_lw l Z a0 hw o1 t1 k1 h0 n0) rfl pd_2 rfl rfl rfl (by decide) (by decide) rfl rfl (by decide) (by decide) (cL fun r _ ⟨qr, m1, m2, m3, m4, s1, s2, s3, s4, er⟩ => ?_)
            rw [qr]
            refine w_lload O at_182 (pc' := 184) rfl rfl ?_
            have hne : r.toInt = ex.toInt := by rw [er, e_ex]; exact congrArg Int64.toInt (own_fin o1 t1 k1 m1 m2 m3 m4 sz hd hJ20 hJ42 hJ66 s1 s2 s3 s4 hS hH)
            refine w_lcmp_ne O at_184 (pi := 185) rfl at_185 (pn := 188) (pt := 192) rfl (by decide) rfl (fun q => absurd hne q) (fun _ => ?_)
            refine w_iconst O at_188 (z := (1 : Int32)) (pc' := 189) rfl rfl ?_
            refine w_goto O at_189 (pc' := 193) (by decide) rfl ?_
            refine w_retz O at_193 (by decide) (by decide) (Or.inr rfl) ?_
            exact ⟨_, rfl, rfl⟩
          refine w_lcmp_le O at_149 (pi := 150) rfl at_150 (pn := 153) (pt := 158) rfl (by decide) rfl (fun c149 => ?_) (fun c149 => ?_)
          · replace c149 : ¬ 2147483648 < k1.toInt := c149
            refine w_lload O at_158 (pc' := 160) rfl rfl ?_
            exact J160 k1 (by first | exact Or.inr ⟨c149, rfl⟩ | exact Or.inl ⟨c149, rfl⟩)
          · replace c149 : 2147483648 < k1.toInt := c149
            refine w_lload O at_153 (pc' := 155) rfl rfl ?_
            refine w_goto O at_155 (pc' := 160) (by decide) rfl ?_
            exact J160 (2147483648 : Int64) (by first | exact Or.inr ⟨c149, rfl⟩ | exact Or.inl ⟨c149, rfl⟩)
        refine w_lcmp_eq O at_76 (pi := 77) rfl at_77 (pn := 80) (pt := 87) rfl (by decide) rfl (fun c76 => ?_) (fun c76 => ?_)
        · replace c76 : o1.toInt = 0 := c76
          refine w_lconst O at_87 (z := (0 : Int64)) (pc' := 88) rfl rfl ?_
          refine w_lstore O at_88 (L' := #[.val (.long p), .second, .val (.long q), .second, .val (.long u), .second, .val (.int g), .val (.long o1), .second, .val (.long t1), .second, .val (.long k1), .second, .val (.long (16777216 : Int64)), .second, .val (.long (0 : Int64)), .second, .unset, .unset, .unset, .unset, .unset, .unset]) (pc' := 90) rfl rfl ?_
          refine w_goto O at_90 (pc' := 140) (by decide) rfl ?_
          exact J140a (0 : Int64) (Or.inl ⟨by omega, rfl⟩)
        · replace c76 : ¬ o1.toInt = 0 := c76
          refine w_lload O at_80 (pc' := 82) rfl rfl ?_
          refine w_lconst O at_82 (z := (0 : Int64)) (pc' := 83) rfl rfl ?_
          refine w_lcmp_ne O at_83 (pi := 84) rfl at_84 (pn := 87) (pt := 93) rfl (by decide) rfl (fun c83 => ?_) (fun c83 => ?_)
          · replace c83 : ¬ t1.toInt = 0 := c83
            refine w_lload O at_93 (pc' := 95) rfl rfl ?_
            refine w_lload O at_95 (pc' := 97) rfl rfl ?_
            refine w_lcmp_gt O at_97 (pi := 98) rfl at_98 (pn := 101) (pt := 109) rfl (by decide) rfl (fun c97 => ?_) (fun c97 => ?_)
            · replace c97 : 16777216 < o1.toInt := c97
              refine w_lload O at_109 (pc' := 111) rfl rfl ?_
              refine w_lstore O at_111 (L' := #[.val (.long p), .second, .val (.long q), .second, .val (.long u), .second, .val (.int g), .val (.long o1), .second, .val (.long t1), .second, .val (.long k1), .second, .val (.long (16777216 : Int64)), .second, .val (.long (16777216 : Int64)), .second, .unset, .unset, .unset, .unset, .unset, .unset]) (pc' := 113) rfl rfl ?_
              refine w_goto O at_113 (pc' := 140) (by decide) rfl ?_
              exact J140a (16777216 : Int64) (Or.inr (Or.inl ⟨by omega, by omega, by omega, rfl⟩))
            · replace c97 : ¬ 16777216 < o1.toInt := c97
              refine w_lload O at_101 (pc' := 103) rfl rfl ?_
              refine w_lload O at_103 (pc' := 105) rfl rfl ?_
              refine w_lcmp_le O at_105 (pi := 106) rfl at_106 (pn := 109) (pt := 116) rfl (by decide) rfl (fun c105 => ?_) (fun c105 => ?_)
              · replace c105 : ¬ 16777216 < t1.toInt := c105
                refine w_lload O at_116 (pc' := 118) rfl rfl ?_
                refine w_lload O at_118 (pc' := 120) rfl rfl ?_
                refine w_lmul O at_120 (pc' := 121) rfl ?_
                refine w_lstoreG O at_121 (L' := fun zq => #[.val (.long p), .second, .val (.long q), .second, .val (.long u), .second, .val (.int g), .val (.long o1), .second, .val (.long t1), .second, .val (.long k1), .second, .val (.long (16777216 : Int64)), .second, .unset, .unset, .val (.long zq), .second, .unset, .unset, .unset, .unset]) (pc' := 123) rfl (fun _ => rfl) (fun pp e_pp => ?_)
                refine w_lload O at_123 (pc' := 125) rfl rfl ?_
                refine w_lload O at_125 (pc' := 127) rfl rfl ?_
                refine w_lcmp_le O at_127 (pi := 128) rfl at_128 (pn := 131) (pt := 136) rfl (by decide) rfl (fun c127 => ?_) (fun c127 => ?_)
                · replace c127 : ¬ 16777216 < pp.toInt := c127
                  refine w_lload O at_136 (pc' := 138) rfl rfl ?_
                  refine w_lstore O at_138 (L' := #[.val (.long p), .second, .val (.long q), .second, .val (.long u), .second, .val (.int g), .val (.long o1), .second, .val (.long t1), .second, .val (.long k1), .second, .val (.long (16777216 : Int64)), .second, .val (.long pp), .second, .val (.long pp), .second, .unset, .unset, .unset, .unset]) (pc' := 140) rfl rfl ?_
                  exact J140b pp pp (Or.inr (Or.inr ⟨by omega, by omega, Or.inl ⟨by rw [← e_pp]; exact c127, e_pp⟩⟩))
                · replace c127 : 16777216 < pp.toInt := c127
                  refine w_lload O at_131 (pc' := 133) rfl rfl ?_
                  refine w_goto O at_133 (pc' := 138) (by decide) rfl ?_
                  refine w_lstore O at_138 (L' := #[.val (.long p), .second, .val (.long q), .second, .val (.long u), .second, .val (.int g), .val (.long o1), .second, .val (.long t1), .second, .val (.long k1), .second, .val (.long (16777216 : Int64)), .second, .val (.long (16777216 : Int64)), .second, .val (.long pp), .second, .unset, .unset, .unset, .unset]) (pc' := 140) rfl rfl ?_
                  exact J140b pp (16777216 : Int64) (Or.inr (Or.inr ⟨by omega, by omega, Or.inr ⟨by rw [← e_pp]; exact c127, rfl⟩⟩))
              · replace c105 : 16777216 < t1.toInt := c105
                refine w_lload O at_109 (pc' := 111) rfl rfl ?_
                refine w_lstore O at_111 (L' := #[.val (.long p), .second, .val (.long q), .second, .val (.long u), .second, .val (.int g), .val (.long o1), .second, .val (.long t1), .second, .val (.long k1), .second, .val (.long (16777216 : Int64)), .second, .val (.long (16777216 : Int64)), .second, .unset, .unset, .unset, .unset, .unset, .unset]) (pc' := 113) rfl rfl ?_
                refine w_goto O at_113 (pc' := 140) (by decide) rfl ?_
                exact J140a (16777216 : Int64) (Or.inr (Or.inl ⟨by omega, by omega, by omega, rfl⟩))
          · replace c83 : t1.toInt = 0 := c83
            refine w_lconst O at_87 (z := (0 : Int64)) (pc' := 88) rfl rfl ?_
            refine w_lstore O at_88 (L' := #[.val (.long p), .second, .val (.long q), .second, .val (.long u), .second, .val (.int g), .val (.long o1), .second, .val (.long t1), .second, .val (.long k1), .second, .val (.long (16777216 : Int64)), .second, .val (.long (0 : Int64)), .second, .unset, .unset, .unset, .unset, .unset, .unset]) (pc' := 90) rfl rfl ?_
            refine w_goto O at_90 (pc' := 140) (by decide) rfl ?_
            exact J140a (0 : Int64) (Or.inl ⟨by omega, rfl⟩)
      refine w_if_eq O at_48 (pn := 51) (pt := 60) rfl (by decide) rfl (fun c48 => ?_) (fun c48 => ?_)
      · replace c48 : (g &&& (4 : Int32)).toInt = 0 := c48
        refine w_lload O at_60 (pc' := 62) rfl rfl ?_
        refine w_ldc2 O at_62 (pc' := 65) rfl (mw 0 rfl) ?_
        refine w_land O at_65 (pc' := 66) rfl ?_
        have i7 : (u &&& (9223372036854775807 : Int64)).toInt = u.toInt % 9223372036854775808 := c_maskL u (9223372036854775807 : Int64) 63 (by decide) (by decide)
        exact J66 (u &&& (9223372036854775807 : Int64)) (by omega)
      · replace c48 : ¬ (g &&& (4 : Int32)).toInt = 0 := c48
        refine w_lload O at_51 (pc' := 53) rfl rfl ?_
        refine w_ldc2 O at_53 (pc' := 56) rfl (mw 19 rfl) ?_
        refine w_land O at_56 (pc' := 57) rfl ?_
        refine w_goto O at_57 (pc' := 66) (by decide) rfl ?_
        have i8 : (u &&& (4294967295 : Int64)).toInt = u.toInt % 4294967296 := c_maskL u (4294967295 : Int64) 32 (by decide) (by decide)
        exact J66 (u &&& (4294967295 : Int64)) (by omega)
    refine w_if_eq O at_26 (pn := 29) (pt := 37) rfl (by decide) rfl (fun c26 => ?_) (fun c26 => ?_)
    · replace c26 : (g &&& (2 : Int32)).toInt = 0 := c26
      refine w_lloadN O at_37 (pc' := 38) rfl rfl ?_
      refine w_ldc2 O at_38 (pc' := 41) rfl (mw 0 rfl) ?_
      refine w_land O at_41 (pc' := 42) rfl ?_
      have i9 : (q &&& (9223372036854775807 : Int64)).toInt = q.toInt % 9223372036854775808 := c_maskL q (9223372036854775807 : Int64) 63 (by decide) (by decide)
      exact J42 (q &&& (9223372036854775807 : Int64)) (by omega)
    · replace c26 : ¬ (g &&& (2 : Int32)).toInt = 0 := c26
      refine w_lloadN O at_29 (pc' := 30) rfl rfl ?_
      refine w_ldc2 O at_30 (pc' := 33) rfl (mw 1 rfl) ?_
      refine w_land O at_33 (pc' := 34) rfl ?_
      refine w_goto O at_34 (pc' := 42) (by decide) rfl ?_
      have i10 : (q &&& (33554431 : Int64)).toInt = q.toInt % 33554432 := c_maskL q (33554431 : Int64) 25 (by decide) (by decide)
      exact J42 (q &&& (33554431 : Int64)) (by omega)
  refine w_if_eq O at_4 (pn := 7) (pt := 15) rfl (by decide) rfl (fun c4 => ?_) (fun c4 => ?_)
  · replace c4 : (g &&& (1 : Int32)).toInt = 0 := c4
    refine w_lloadN O at_15 (pc' := 16) rfl rfl ?_
    refine w_ldc2 O at_16 (pc' := 19) rfl (mw 0 rfl) ?_
    refine w_land O at_19 (pc' := 20) rfl ?_
    have i11 : (p &&& (9223372036854775807 : Int64)).toInt = p.toInt % 9223372036854775808 := c_maskL p (9223372036854775807 : Int64) 63 (by decide) (by decide)
    exact J20 (p &&& (9223372036854775807 : Int64)) (by omega)
  · replace c4 : ¬ (g &&& (1 : Int32)).toInt = 0 := c4
    refine w_lloadN O at_7 (pc' := 8) rfl rfl ?_
    refine w_ldc2 O at_8 (pc' := 11) rfl (mw 1 rfl) ?_
    refine w_land O at_11 (pc' := 12) rfl ?_
    refine w_goto O at_12 (pc' := 20) (by decide) rfl ?_
    have i12 : (p &&& (33554431 : Int64)).toInt = p.toInt % 33554432 := c_maskL p (33554431 : Int64) 25 (by decide) (by decide)
    exact J20 (p &&& (33554431 : Int64)) (by omega)
set_option maxRecDepth 65536 in
set_option maxHeartbeats 40000000 in
theorem comes_1 {Post : Tables → Env → Array Value → State → Outcome → State → Prop} (hpost : ∀ tb e args s v u, (limb_1_1.after args s (.returned v) u = true ∧ limb_1_2.after args s (.returned v) u = true ∧ True) → FrameEnd s (.returned v) u (Jvm.fieldLocs frame_1_writes args s ++ Jvm.arrayLocs frame_1_arrays args s ++ Jvm.staticLocs frame_1_statics s) 0 0 → Post tb e args s (.returned v) u) :
    ArmFor flags0 classFile x code maxLocals ret World_1 tables_1 room_1 Calls_1 rest_1 Pre_1 Post := by
  intro l hfl _ _ p e ha hc hk s m args below hf hA hF happ hP
  obtain ⟨hcalls, hrest, hpre⟩ := hP
  obtain ⟨-, -, -, hnamed, -, -, -, hat⟩ := (Spec.applies_iff hf).mp happ
  obtain ⟨hg, hn⟩ := and_e (Cond.before_iff.mp (show (Jvm.Cond.and given_1 narrow_1).before args s = true from hpre))
  obtain ⟨g1, g2⟩ := and_e hg
  obtain ⟨g3, g4⟩ := and_e g2
  obtain ⟨g5, g6⟩ := and_e g4
  obtain ⟨g7, g8⟩ := and_e g6
  obtain ⟨w0, w1, w2, w3, rfl⟩ : ∃ w0 w1 w2 w3 : Value, args = #[w0, w1, w2, w3] := by
    have hs : args.size = 4 := by simpa [Cond.value, given_1] using g1
    obtain ⟨L⟩ := args
    match L, hs with
    | [w0, w1, w2, w3], _ => exact ⟨w0, w1, w2, w3, rfl⟩
  have hw := fun d (hd : d ∈ tables_1) => atoms_spec (ws := Jvm.Cond.code x code maxLocals ret :: tables_1) hat d (List.mem_cons_of_mem _ hd)
  have hfit : Fit s := fun {y c} hc i hi => by
    obtain ⟨ha, rfl⟩ := Array.getElem?_eq_some_iff.mp hc
    have q := List.all_eq_true.mp ((Array.all_eq_true_iff_forall_mem.mp hF) _ (Array.getElem_mem ha)) i (List.mem_range.mpr hi)
    simpa [Array.getElem?_eq_getElem hi] using q
  obtain ⟨i0, ei0⟩ := isL_v g3
  obtain rfl : w0 = (.long i0) := Option.some.inj ei0
  obtain ⟨i1, ei1⟩ := isL_v g5
  obtain rfl : w1 = (.long i1) := Option.some.inj ei1
  obtain ⟨i2, ei2⟩ := isL_v g7
  obtain rfl : w2 = (.long i2) := Option.some.inj ei2
  obtain ⟨i3, ei3⟩ := is_v g8
  obtain rfl : w3 = (.int i3) := Option.some.inj ei3
  obtain ⟨n, o, h1, h2, h3, _, L, rfl, ⟨⟨r, rfl, rfl⟩, N⟩, hq⟩ := (law_con l s _ hw i0 i1 i2 i3 s.heap s.heap.size) (Nat.le_refl _) tables_1 p e ha hc hk s m _ below hf ((Spec.applies_iff_loose hf).mp happ).1 ⟨rfl, State.Warmed39.refl s, rfl⟩ trivial
  refine ⟨n, _, h1, h2, h3, hpost _ _ _ _ _ _ ⟨Cond.after_iff.mpr rfl, Cond.after_iff.mpr (eq_i res_at (Term.int_eval (1)) rfl), trivial⟩ ⟨hq.1, hq.2.1, (hq.2.2.sift fun y hy => Or.inr (N y hy)).mono (by decide) (by decide)⟩⟩
theorem main_1_1 : Claimed_1_1 := comes_1 fun _ _ _ _ _ _ h hF => ⟨h.1, hF⟩
theorem main_1_2 : Claimed_1_2 := comes_1 fun _ _ _ _ _ _ h hF => ⟨h.2.1, hF⟩
end Jvm.Pilot.@@N@@
namespace Jvm.Pilot.@@N@@
open Jvm Jvm.ClassFile Sem Op Lib Jvm.Free Jvm.Stand Jvm.Pilot.@@N@@.Jvm.D
/-! MADE BY PROGRAM (witnessworld.py) out of the Statement's table words and the real class files: 10 classes; the members and pool entries that the words name. The judged class is class 1, her method 1. -/
namespace start1
open Jvm.ClassFile
def u (s : String) : CpInfo := .utf8 (stringToUtf16 s)
/-- a pool by its gaps: so many unusable entries, then the entry; so many at the end -/
def gap : Nat → List CpInfo → List CpInfo
  | 0, r => r
  | n + 1, r => .unusable :: gap n r
def poolList (es : List (Nat × CpInfo)) (last : Nat) : List CpInfo := es.foldr (fun e r => gap e.1 (e.2 :: r)) (gap last [])
def pool (es : List (Nat × CpInfo)) (last : Nat) : Array CpInfo := ⟨poolList es last⟩
def fileOf (pool : Array CpInfo) (this : Nat) (attrs : Array Attribute := #[]) (ms : Array MethodInfo := #[]) (fl : Nat := 33) (sup : Nat := 0) (ifs : Array Nat := #[]) (fds : Array FieldInfo := #[]) : ClassFile where
  minorVersion := 0
  majorVersion := 65
  constantPool := pool
  accessFlags := fl
  thisClass := this
  superClass := sup
  interfaces := ifs
  fields := fds
  methods := ms
  attributes := attrs
def plain (name : String) (sup : Option ClassId) : Class where
  name := name
  kind := .ordinary
  loader := none
  accessFlags := 33
  super := sup
  interfaces := #[]
  cf := none
  fields := #[]
  methods := #[]
  instanceTypes := #[]
  staticTypes := #[]
  resolved := #[]
  callSites := []
  init := .initialized
  statics := none
  mirror := none

def pool0 : Array CpInfo := pool [(5, u "<init>"), (0, u "()V"), (1, .class_ 10), (1, u "java/lang/Object")] 113

def k0m0 : Method := { name := "<init>", desc := "()V", sig := { parameters := [], returnType := none }, accessFlags := 1, code := none }
/-- java/lang/Object -/
def k0 : Class := { plain "java/lang/Object" none with
  accessFlags := 33
  interfaces := #[]
  cf := some (fileOf pool0 8 #[] #[{ accessFlags := 1, nameIndex := 5, descriptorIndex := 6, attributes := #[] }] 33 0 #[] #[])
  fields := #[]
  methods := #[k0m0]
  instanceTypes := #[]
  staticTypes := #[]
  resolved := Array.replicate 124 none
  statics := none }

def pool1 : Array CpInfo := pool [(2, .class_ 4), (1, u "java/lang/Object"), (0, u "<init>"), (0, u "()V"), (0, .long 33554431), (3, .long 9223372036854775807), (1, .long 4294967295), (1, .long 16777216), (1, .long 2147483648), (1, .long 128), (1, .methodref 22 23), (0, .class_ 24), (0, .nameAndType 25 26), (0, u "com/example/rulewright/rulewright/dice/Distribution"), (0, u "leastWorkBehind"), (0, u "(JJJ)J"), (0, .class_ 28), (0, u "com/example/rulewright/rulewright/dice/DistributionLeastWorkBehindPinLaw"), (2, u "law"), (0, u "(JJJI)Z")] 3

def k1m0 : Method := { name := "<init>", desc := "()V", sig := { parameters := [], returnType := none }, accessFlags := 2, code := none }
def k1c1 : Code := { maxStack := 6, maxLocals := 23, code := code, exceptionTable := #[], attributes := #[] }
def k1m1 : Method := { name := "law", desc := "(JJJI)Z", sig := { parameters := [.long, .long, .long, .int], returnType := some .boolean }, accessFlags := 9, code := some k1c1 }
/-- com/example/rulewright/rulewright/dice/DistributionLeastWorkBehindPinLaw -/
def k1 : Class := { plain "com/example/rulewright/rulewright/dice/DistributionLeastWorkBehindPinLaw" (some 0) with
  accessFlags := 49
  interfaces := #[]
  cf := some (fileOf pool1 27 #[] #[{ accessFlags := 2, nameIndex := 5, descriptorIndex := 6, attributes := #[] }, { accessFlags := 9, nameIndex := 31, descriptorIndex := 32, attributes := #[] }] 49 2 #[] #[])
  fields := #[]
  methods := #[k1m0, k1m1]
  instanceTypes := #[]
  staticTypes := #[]
  resolved := Array.replicate 36 none
  statics := none }

def pool2 : Array CpInfo := pool [(4, .class_ 6), (1, u "com/example/rulewright/rulewright/dice/Distribution"), (3, .class_ 12), (1, u "java/lang/Object"), (17, u "lowest"), (0, u "Ljava/math/BigInteger;"), (7, u "[Ljava/math/BigInteger;"), (2, u "ways"), (2, u "total"), (2, u "totalPrimes"), (0, u "[I"), (2, u "hiddenWork"), (0, u "J"), (86, u "(JJ)J"), (83, .methodref 4 225), (0, .nameAndType 226 227), (0, u "sizeAsWork"), (0, u "(J)J"), (0, .long 128), (4, .class_ 235), (1, u "java/lang/Math"), (1, .long 16777216), (1, .methodref 233 240), (0, .nameAndType 241 140), (0, u "min"), (0, .long 2147483648), (187, .class_ 431), (0, u "com/example/rulewright/rulewright/dice/Distribution$1"), (3, u "MAX_SIZE_BITS"), (1, u "UNCOUNTED_VALUE_BITS"), (0, u "I"), (1, u "MAX_FRACTION_BITS"), (0, u "MAX_HIDDEN_WORK_BITS"), (0, u "SHORT_CONVOLUTION"), (13, u "leastWorkBehind"), (0, u "(JJJ)J"), (28, .class_ 487), (0, u "com/example/rulewright/rulewright/dice/Distribution$Ranked"), (0, .class_ 489), (0, u "com/example/rulewright/rulewright/dice/Distribution$Ranked$Cumulative"), (0, .class_ 491), (0, u "com/example/rulewright/rulewright/dice/Distribution$Sum"), (0, .class_ 493), (0, u "com/example/rulewright/rulewright/dice/Distribution$Outcome")] 52

def k2c0 : Code := { maxStack := 4, maxLocals := 2, code := prog_6_method_17_code, exceptionTable := #[], attributes := #[] }
def k2m0 : Method := { name := "sizeAsWork", desc := "(J)J", sig := { parameters := [.long], returnType := some .long }, accessFlags := 10, code := some k2c0 }
def k2c1 : Code := { maxStack := 6, maxLocals := 8, code := prog_6_method_19_code, exceptionTable := #[], attributes := #[] }
def k2m1 : Method := { name := "leastWorkBehind", desc := "(JJJ)J", sig := { parameters := [.long, .long, .long], returnType := some .long }, accessFlags := 8, code := some k2c1 }
/-- com/example/rulewright/rulewright/dice/Distribution -/
def k2 : Class := { plain "com/example/rulewright/rulewright/dice/Distribution" (some 0) with
  accessFlags := 49
  interfaces := #[]
  cf := some (fileOf pool2 4 #[.nestMembers #[486, 488, 490, 492, 430]] #[{ accessFlags := 10, nameIndex := 226, descriptorIndex := 227, attributes := #[] }, { accessFlags := 8, nameIndex := 456, descriptorIndex := 457, attributes := #[] }] 49 10 #[] #[{ accessFlags := 26, nameIndex := 435, descriptorIndex := 53, attributes := #[] }, { accessFlags := 26, nameIndex := 437, descriptorIndex := 438, attributes := #[] }, { accessFlags := 26, nameIndex := 440, descriptorIndex := 53, attributes := #[] }, { accessFlags := 26, nameIndex := 441, descriptorIndex := 53, attributes := #[] }, { accessFlags := 26, nameIndex := 442, descriptorIndex := 438, attributes := #[] }, { accessFlags := 18, nameIndex := 30, descriptorIndex := 31, attributes := #[] }, { accessFlags := 18, nameIndex := 42, descriptorIndex := 39, attributes := #[] }, { accessFlags := 18, nameIndex := 45, descriptorIndex := 31, attributes := #[] }, { accessFlags := 18, nameIndex := 48, descriptorIndex := 49, attributes := #[] }, { accessFlags := 18, nameIndex := 52, descriptorIndex := 53, attributes := #[] }])
  fields := #[{ name := "MAX_SIZE_BITS", type := .long, accessFlags := 26, slot := 0, constantValue := 0 }, { name := "UNCOUNTED_VALUE_BITS", type := .int, accessFlags := 26, slot := 1, constantValue := 0 }, { name := "MAX_FRACTION_BITS", type := .long, accessFlags := 26, slot := 2, constantValue := 0 }, { name := "MAX_HIDDEN_WORK_BITS", type := .long, accessFlags := 26, slot := 3, constantValue := 0 }, { name := "SHORT_CONVOLUTION", type := .int, accessFlags := 26, slot := 4, constantValue := 0 }, { name := "lowest", type := (.object "java/math/BigInteger"), accessFlags := 18, slot := 0, constantValue := 0 }, { name := "ways", type := (.array (.object "java/math/BigInteger")), accessFlags := 18, slot := 1, constantValue := 0 }, { name := "total", type := (.object "java/math/BigInteger"), accessFlags := 18, slot := 2, constantValue := 0 }, { name := "totalPrimes", type := (.array .int), accessFlags := 18, slot := 3, constantValue := 0 }, { name := "hiddenWork", type := .long, accessFlags := 18, slot := 4, constantValue := 0 }]
  methods := #[k2m0, k2m1]
  instanceTypes := #[(.object "java/math/BigInteger"), (.array (.object "java/math/BigInteger")), (.object "java/math/BigInteger"), (.array .int), .long]
  staticTypes := #[.long, .int, .long, .long, .int]
  resolved := Array.replicate 546 none
  statics := none }

def pool3 : Array CpInfo := pool [(1, .class_ 2), (0, u "java/lang/Math"), (1, .class_ 6), (1, u "java/lang/Object"), (0, u "<init>"), (0, u "()V"), (89, .class_ 100), (1, u "java/lang/Math$RandomNumberGeneratorHolder"), (20, u "(JJ)J"), (50, u "negativeZeroFloatBits"), (0, u "J"), (2, u "negativeZeroDoubleBits"), (24, u "min"), (43, u "$assertionsDisabled"), (0, u "Z"), (91, u "twoToTheDoubleScaleDown"), (0, u "D"), (4, u "twoToTheDoubleScaleUp"), (9, u "E"), (3, u "PI"), (2, u "TAU"), (2, u "DEGREES_TO_RADIANS"), (0, u "RADIANS_TO_DEGREES")] 94

def k3m0 : Method := { name := "<init>", desc := "()V", sig := { parameters := [], returnType := none }, accessFlags := 2, code := none }
def k3c1 : Code := { maxStack := 4, maxLocals := 4, code := jdk_29_method_70_code, exceptionTable := #[], attributes := #[] }
def k3m1 : Method := { name := "min", desc := "(JJ)J", sig := { parameters := [.long, .long], returnType := some .long }, accessFlags := 9, code := some k3c1 }
/-- java/lang/Math -/
def k3 : Class := { plain "java/lang/Math" (some 0) with
  accessFlags := 49
  interfaces := #[]
  cf := some (fileOf pool3 1 #[.nestMembers #[98]] #[{ accessFlags := 2, nameIndex := 7, descriptorIndex := 8, attributes := #[] }, { accessFlags := 9, nameIndex := 201, descriptorIndex := 121, attributes := #[] }] 49 4 #[] #[{ accessFlags := 25, nameIndex := 354, descriptorIndex := 339, attributes := #[] }, { accessFlags := 25, nameIndex := 358, descriptorIndex := 339, attributes := #[] }, { accessFlags := 25, nameIndex := 361, descriptorIndex := 339, attributes := #[] }, { accessFlags := 26, nameIndex := 364, descriptorIndex := 339, attributes := #[] }, { accessFlags := 26, nameIndex := 365, descriptorIndex := 339, attributes := #[] }, { accessFlags := 26, nameIndex := 172, descriptorIndex := 173, attributes := #[] }, { accessFlags := 26, nameIndex := 176, descriptorIndex := 173, attributes := #[] }, { accessFlags := 8, nameIndex := 344, descriptorIndex := 339, attributes := #[] }, { accessFlags := 8, nameIndex := 338, descriptorIndex := 339, attributes := #[] }, { accessFlags := 4120, nameIndex := 245, descriptorIndex := 246, attributes := #[] }])
  fields := #[{ name := "E", type := .double, accessFlags := 25, slot := 0, constantValue := 0 }, { name := "PI", type := .double, accessFlags := 25, slot := 1, constantValue := 0 }, { name := "TAU", type := .double, accessFlags := 25, slot := 2, constantValue := 0 }, { name := "DEGREES_TO_RADIANS", type := .double, accessFlags := 26, slot := 3, constantValue := 0 }, { name := "RADIANS_TO_DEGREES", type := .double, accessFlags := 26, slot := 4, constantValue := 0 }, { name := "negativeZeroFloatBits", type := .long, accessFlags := 26, slot := 5, constantValue := 0 }, { name := "negativeZeroDoubleBits", type := .long, accessFlags := 26, slot := 6, constantValue := 0 }, { name := "twoToTheDoubleScaleUp", type := .double, accessFlags := 8, slot := 7, constantValue := 0 }, { name := "twoToTheDoubleScaleDown", type := .double, accessFlags := 8, slot := 8, constantValue := 0 }, { name := "$assertionsDisabled", type := .boolean, accessFlags := 4120, slot := 9, constantValue := 0 }]
  methods := #[k3m0, k3m1]
  instanceTypes := #[]
  staticTypes := #[.double, .double, .double, .double, .double, .long, .long, .double, .double, .boolean]
  resolved := Array.replicate 460 none
  statics := none }

def pool4 : Array CpInfo := pool [(1, u "java/lang/Cloneable"), (0, .class_ 1), (0, u "java/lang/Object"), (0, .class_ 3)] 3

/-- java/lang/Cloneable -/
def k4 : Class := { plain "java/lang/Cloneable" (some 0) with
  accessFlags := 1537
  interfaces := #[]
  cf := some (fileOf pool4 2 #[] #[] 1537 4 #[] #[])
  fields := #[]
  methods := #[]
  instanceTypes := #[]
  staticTypes := #[]
  resolved := Array.replicate 8 none
  statics := none }

def pool5 : Array CpInfo := pool [(1, u "java/io/Serializable"), (0, .class_ 1), (0, u "java/lang/Object"), (0, .class_ 3)] 3

/-- java/io/Serializable -/
def k5 : Class := { plain "java/io/Serializable" (some 0) with
  accessFlags := 1537
  interfaces := #[]
  cf := some (fileOf pool5 2 #[] #[] 1537 4 #[] #[])
  fields := #[]
  methods := #[]
  instanceTypes := #[]
  staticTypes := #[]
  resolved := Array.replicate 8 none
  statics := none }

/-- the primitive byte -/
def k6 : Class := { plain "byte" none with kind := .primitive 'B', accessFlags := 0x411 }
/-- [B -/
def k7 : Class := { plain "[B" (some 0) with kind := .array 6 .byte, interfaces := #[4, 5], accessFlags := 1041 }

/-- the primitive int -/
def k8 : Class := { plain "int" none with kind := .primitive 'I', accessFlags := 0x411 }
/-- [I -/
def k9 : Class := { plain "[I" (some 0) with kind := .array 8 .int, interfaces := #[4, 5], accessFlags := 1041 }

def heap : Heap := #[]
def classes : Array Class := #[k0, k1, k2, k3, k4, k5, k6, k7, k8, k9]
def interned : List (Array UInt16 × Addr) := []
def slotsUsed : Nat := 0
def theMethod : MethodId := ⟨1, 1⟩
def args0 : Array Value := #[.long 7, .long 100, .long 3, .int 5]
def aboutOver (below : List Frame) : State where
  vm := { classes := classes, interned := interned.toArray }
  heap := heap
  slotsUsed := slotsUsed
  threads := #[{ frames := .invoking theMethod args0 :: below }]
def below0 : List Frame := [.native { method := ⟨0, 0⟩, args := #[] }]
def about1 : State := aboutOver below0
def p0 : Program := .bare "" "" ""
def e0 : Env := launch0.env 0 0 0
theorem w_frames : about1.frames = Frame.invoking theMethod args0 :: below0 := rfl
set_option maxRecDepth 65536 in
theorem w_args : argsFit about1.vm theMethod args0 = true := by decide +kernel
set_option maxRecDepth 65536 in
theorem w_heap : heapFits about1 = true := by decide +kernel
set_option maxRecDepth 65536 in
theorem w_runnable : about1.curStatus? = some .runnable := by decide +kernel
set_option maxRecDepth 65536 in
theorem w_alone : about1.alone = true := by decide +kernel
set_option maxRecDepth 65536 in
theorem w_named : about1.methodNamed? x = some theMethod := by decide +kernel
set_option maxRecDepth 65536 in
theorem w_hears : about1.hears theMethod below0 = true := by decide +kernel
set_option maxRecDepth 65536 in
theorem w_ripe : about1.ripe theMethod args0 below0 = true := by decide +kernel
theorem w_running : about1.status = .running := rfl
set_option maxRecDepth 65536 in
theorem w_room : about1.hasRoom e0.platform room_1 = true :=
  launch0.hasRoom_least _ room_1 (by decide +kernel) (by decide +kernel) (by decide +kernel) (by decide +kernel) (by decide +kernel) (by decide +kernel)
theorem allAtoms_all (ts : List Jvm.Cond) (a : Array Jvm.Value) (st : Jvm.State) : (allAtoms ts).before a st = ts.all (fun c => c.before a st) := by
  induction ts with
  | nil => rfl
  | cons c t ih =>
    show (Jvm.Cond.and c (allAtoms t)).before a st = _
    rw [Jvm.Cond.before_and, ih, List.all_cons]
def words1 : List Jvm.Cond := Jvm.Cond.code x code maxLocals ret :: tables_1
/-- a 'code' word, met by the world's own term for the bytes: nothing is compared byte by byte -/
theorem code_word {y : MethodName} {bytes : ByteArray} {mx : Nat} {rt : Option FieldType} {a : Array Value} {s : State} {m : MethodId} {meth : Method} {c : Code} (h1 : s.methodNamed? y = some m) (h2 : s.vm.method? m = some meth) (h3 : meth.code = some c) (h4 : c.code = bytes)
    (h5 : (c.maxLocals == mx && c.exceptionTable.isEmpty && decide (c.maxStack ≤ mostOperands) && decide (meth.sig.returnType = rt) && !meth.locks && decide (parseMethodDescriptor y.desc = some meth.sig)) = true) : (Jvm.Cond.code y bytes mx rt).before a s = true := by
  simp only [Bool.and_eq_true, beq_iff_eq, Bool.not_eq_true', decide_eq_true_eq] at h5
  obtain ⟨⟨⟨⟨⟨g1, g2⟩, g3⟩, g4⟩, g5⟩, g6⟩ := h5
  simp [Cond.before, Cond.holds, Cond.value, h1, h2, h3, h4, g1, g2, g3, g4, g5, g6]
def isCode : Jvm.Cond → Bool
  | .code _ _ _ _ => true
  | _ => false
theorem all_split {L : List Jvm.Cond} {P : Jvm.Cond → Bool} (h1 : L.all (fun c => isCode c || P c) = true) (h2 : ∀ c ∈ L.filter isCode, P c = true) : L.all P = true := by
  refine List.all_eq_true.mpr fun c hc => ?_
  have h := List.all_eq_true.mp h1 c hc
  rcases Bool.eq_false_or_eq_true (isCode c) with hi | hi
  · exact h2 c (List.mem_filter.mpr ⟨hc, hi⟩)
  · simpa [hi] using h
set_option maxRecDepth 65536 in
theorem w_c0 : (Jvm.Cond.code x code maxLocals ret).before args0 about1 = true := code_word (m := ⟨1, 1⟩) (meth := k1m1) (c := k1c1) (by decide +kernel) rfl rfl rfl (by decide +kernel)
set_option maxRecDepth 65536 in
theorem w_c1 : (Jvm.Cond.code ({ cls := "com/example/rulewright/rulewright/dice/Distribution", name := "leastWorkBehind", desc := "(JJJ)J" } : Jvm.MethodName) prog_6_method_19_code (8 : Nat) (Option.some Jvm.ClassFile.FieldType.long)).before args0 about1 = true := code_word (m := ⟨2, 1⟩) (meth := k2m1) (c := k2c1) (by decide +kernel) rfl rfl rfl (by decide +kernel)
set_option maxRecDepth 65536 in
theorem w_c2 : (Jvm.Cond.code ({ cls := "java/lang/Math", name := "min", desc := "(JJ)J" } : Jvm.MethodName) jdk_29_method_70_code (4 : Nat) (Option.some Jvm.ClassFile.FieldType.long)).before args0 about1 = true := code_word (m := ⟨3, 1⟩) (meth := k3m1) (c := k3c1) (by decide +kernel) rfl rfl rfl (by decide +kernel)
set_option maxRecDepth 65536 in
theorem w_c3 : (Jvm.Cond.code ({ cls := "com/example/rulewright/rulewright/dice/Distribution", name := "sizeAsWork", desc := "(J)J" } : Jvm.MethodName) prog_6_method_17_code (2 : Nat) (Option.some Jvm.ClassFile.FieldType.long)).before args0 about1 = true := code_word (m := ⟨2, 0⟩) (meth := k2m0) (c := k2c0) (by decide +kernel) rfl rfl rfl (by decide +kernel)
def codes1 : List Jvm.Cond := [Jvm.Cond.code x code maxLocals ret, Jvm.Cond.code ({ cls := "com/example/rulewright/rulewright/dice/Distribution", name := "leastWorkBehind", desc := "(JJJ)J" } : Jvm.MethodName) prog_6_method_19_code (8 : Nat) (Option.some Jvm.ClassFile.FieldType.long), Jvm.Cond.code ({ cls := "java/lang/Math", name := "min", desc := "(JJ)J" } : Jvm.MethodName) jdk_29_method_70_code (4 : Nat) (Option.some Jvm.ClassFile.FieldType.long), Jvm.Cond.code ({ cls := "com/example/rulewright/rulewright/dice/Distribution", name := "sizeAsWork", desc := "(J)J" } : Jvm.MethodName) prog_6_method_17_code (2 : Nat) (Option.some Jvm.ClassFile.FieldType.long)]
set_option maxRecDepth 65536 in
theorem codes_eq : words1.filter isCode = codes1 := rfl
theorem w_codes : ∀ c ∈ words1.filter isCode, c.before args0 about1 = true := by
  rw [codes_eq]
  intro c hc
  simp only [codes1, List.mem_cons, List.not_mem_nil, or_false] at hc
  rcases hc with rfl | rfl | rfl | rfl
  · exact w_c0
  · exact w_c1
  · exact w_c2
  · exact w_c3
set_option maxRecDepth 65536 in
theorem w_t1 : words1.all (fun c => isCode c || c.before args0 about1) = true := by decide +kernel
theorem w_tables : (allAtoms (Jvm.Cond.code x code maxLocals ret :: tables_1)).before args0 about1 = true := by
  rw [allAtoms_all]
  show words1.all (fun c => c.before args0 about1) = true
  refine all_split ?_ w_codes
  rw [w_t1]
set_option maxRecDepth 65536 in
theorem w_case : (Jvm.Cond.and given_1 narrow_1).before args0 about1 = true := by decide +kernel
theorem w_applies : (headSpec (Jvm.Cond.code x code maxLocals ret :: tables_1) room_1).applies x e0.platform about1 = true :=
  (Spec.applies_iff w_frames).mpr ⟨w_running, w_runnable, w_alone, w_named, w_hears, w_ripe, w_room, w_tables⟩
theorem atStart : AtStart classFile x code maxLocals ret World_1 tables_1 room_1 Calls_1 rest_1 Pre_1 launch0 p0 e0 about1 theMethod args0 below0 :=
  ⟨lists_1, trivial, launch0.admits_env _ _ _, launch0.least_env, fairChoices_fair.cas, fairChoices_fair.clock, w_frames, w_args, w_heap, w_applies, trivial, trivial, w_case⟩
end start1
theorem witness_1 : WitnessClaimed_1 := ⟨start1.p0, start1.e0, start1.about1, start1.theMethod, start1.args0, start1.below0, start1.atStart⟩
end Jvm.Pilot.@@N@@
