import JvmDerived
import JvmDerived.Pilot.@@N@@Statement
import JvmDerived.Pilot.@@N@@Code
set_option linter.unusedVariables false
set_option linter.unusedSimpArgs false
namespace Jvm.Pilot.@@N@@
open Jvm Jvm.ClassFile Sem Op Lib Jvm.Free Jvm.Stand Jvm.LawKit Jvm.RoadKit Bundle Jvm.Pilot.@@N@@.Jvm.D

/-! ## OWN LAYER: weakest preconditions over the walk -/
abbrev Cx : Type := (Program × Launch × Env × Room) × (State × MethodId × Array Value × List Frame) × (Method × Code) × (Option Value → Heap → Prop) × Nat
abbrev Sd (K : Cx) (T : State) (locs : List Loc) (cells slots : Nat) : Prop := Stand K.1.1 K.1.2.1 K.1.2.2.1 K.1.2.2.2 K.2.1.1 K.2.1.2.1 K.2.1.2.2.1 K.2.1.2.2.2 K.2.2.1.1 K.2.2.1.2 T locs cells slots
abbrev Stp (K : Cx) (A B : State) : Prop := Steps K.1.1.tables K.1.2.2.1 K.2.1.2.2.2 A B
abbrev Tp (K : Cx) (T : State) (pc : Nat) (L : Array Slot) (st : List Value) : State := T.setTop (mkF K.2.1.2.1 pc L st)
/-- from every state that stands at pc with these locals, this stack and this heap the run ends as K says -/
def W (K : Cx) (h : Heap) (cells slots pc : Nat) (L : Array Slot) (st : List Value) : Prop :=
  ∀ T locs, Sd K T locs cells slots → T.heap = h → Fr K.2.2.2.2 locs →
    ∃ s₂ o, Stp K (Tp K T pc L st) s₂ ∧ s₂.status = .running ∧ Ended s₂ K.2.1.2.2.2 o ∧ ∃ v Ls, o = .returned v ∧ (K.2.2.2.1 v s₂.heap ∧ Fr K.2.2.2.2 Ls) ∧ FrameEnd K.2.1.1 o s₂ Ls K.1.2.2.2.cells K.1.2.2.2.slots
def Ok (K : Cx) (l : Launch) (Z : State) (a0 : Array Value) (ts : List Jvm.Cond) (B : ByteArray) (ml : Nat) (rt : Option FieldType) (own nm : String) (R : Room) (n0 : Nat) (Q : Option Value → Heap → Prop) : Prop :=
  K.1.1.tables.exec = Jvm.exec ∧ K.2.2.1.2.code = B ∧ K.2.2.1.2.maxLocals = ml ∧ K.2.1.1.vm.findClass own = some K.2.1.2.1.cls ∧ K.2.2.1.1.name = nm ∧ K.2.2.1.1.sig.returnType = rt ∧ K.2.2.1.1.locks = false ∧ Z.Warmed39 K.2.1.1.vm ∧ (∀ d ∈ ts, d.before a0 Z = true) ∧ n0 ≤ K.2.1.1.heap.size ∧ K.1.2.1 = l ∧ K.1.2.2.2 = R ∧ K.2.2.2.2 = n0 ∧ K.2.2.2.1 = Q
/-- a body's contract -/
def Con (l : Launch) (Z : State) (y : MethodName) (B : ByteArray) (ml : Nat) (rt : Option FieldType) (rm : Room) (as : List Value) (h : Heap) (n0 : Nat) (Q : Option Value → Heap → Prop) : Prop :=
  n0 ≤ h.size → ∀ ws, MetFree l y (head1 (Jvm.Cond.code y B ml rt :: ws) rm) (fun a U => a = as.toArray ∧ Z.Warmed39 U.vm ∧ U.heap = h) (fun _ _ _ _ _ => True) (fun _ U o U' => ∃ v L, o = .returned v ∧ (Q v U'.heap ∧ Fr n0 L) ∧ FrameEnd U o U' L rm.cells rm.slots)
def RetI (P : Int32 → Heap → Prop) (v : Option Value) (h : Heap) : Prop := ∃ r, v = some (.int r) ∧ P r h
def RetL (P : Int64 → Heap → Prop) (v : Option Value) (h : Heap) : Prop := ∃ r, v = some (.long r) ∧ P r h
def RetA (P : Value → Heap → Prop) (v : Option Value) (h : Heap) : Prop := ∃ r, v = some r ∧ r.isRef = true ∧ P r h
def RetV (P : Heap → Prop) (v : Option Value) (h : Heap) : Prop := v = none ∧ P h
section OwnW
variable {K : Cx} {l : Launch} {Z : State} {a0 : Array Value} {ts : List Jvm.Cond} {B : ByteArray} {ml : Nat} {rt : Option FieldType} {own nm : String} {R : Room} {n0 : Nat} {Q : Option Value → Heap → Prop} {h : Heap} {cl sl pc pc' : Nat} {L L' : Array Slot} {st st' : List Value}
theorem W.step (f : ∀ T locs, Sd K T locs cl sl → T.heap = h → ∀ t, Stp K (Tp K T pc' L' st') t → Stp K (Tp K T pc L st) t) (k : W K h cl sl pc' L' st') : W K h cl sl pc L st := fun T locs X e N => by
  obtain ⟨s2, o, h1, r⟩ := k T locs X e N
  exact ⟨s2, o, f T locs X e _ h1, r⟩
theorem W.stepT (f : ∀ T locs, Sd K T locs cl sl → T.heap = h → ∃ T', Sd K T' locs cl sl ∧ T'.heap = h ∧ ∀ t, Stp K (Tp K T' pc' L' st') t → Stp K (Tp K T pc L st) t) (k : W K h cl sl pc' L' st') : W K h cl sl pc L st := fun T locs X e N => by
  obtain ⟨T', X', e', g⟩ := f T locs X e
  obtain ⟨s2, o, h1, r⟩ := k T' locs X' e' N
  exact ⟨s2, o, g _ h1, r⟩
theorem W.stepW {a : Addr} {i : Nat} {v : Value} (f : ∀ T locs, Sd K T locs cl sl → T.heap = h → ∃ T' h', Sd K T' (locs ++ [⟨a, i⟩]) cl sl ∧ T'.heap = h' ∧ Wr h h' a i v ∧ ∀ t, Stp K (Tp K T' pc' L' st') t → Stp K (Tp K T pc L st) t) (ha : K.2.2.2.2 ≤ a) (k : ∀ h', Wr h h' a i v → W K h' cl sl pc' L' st') : W K h cl sl pc L st := fun T locs X e N => by
  obtain ⟨T', h', X', e', w, g⟩ := f T locs X e
  obtain ⟨s2, o, h1, r⟩ := k h' w T' _ X' e' (Fr.snoc X' N ha)
  exact ⟨s2, o, g _ h1, r⟩
theorem W.mono {cl' sl' : Nat} (hc : cl ≤ cl') (hs : sl ≤ sl') (k : W K h cl' sl' pc L st) : W K h cl sl pc L st := fun T locs X e N => k T locs (X.mono hc hs) e N
theorem Sd.size {T : State} {locs : List Loc} (X : Sd K T locs cl sl) : K.2.1.1.heap.size ≤ T.heap.size := X.same.2.1
theorem cI {cl' sl' : Nat} {P : Int32 → Heap → Prop} (k : ∀ r h', P r h' → W K h' cl' sl' pc' L (.int r :: st)) : ∀ v h', RetI P v h' → W K h' cl' sl' pc' L (v.toList ++ st) := by
  rintro _ h' ⟨r, rfl, hp⟩; exact k r h' hp
theorem cL {cl' sl' : Nat} {P : Int64 → Heap → Prop} (k : ∀ r h', P r h' → W K h' cl' sl' pc' L (.long r :: st)) : ∀ v h', RetL P v h' → W K h' cl' sl' pc' L (v.toList ++ st) := by
  rintro _ h' ⟨r, rfl, hp⟩; exact k r h' hp
theorem cA {cl' sl' : Nat} {P : Value → Heap → Prop} (k : ∀ r h', r.isRef = true → P r h' → W K h' cl' sl' pc' L (r :: st)) : ∀ v h', RetA P v h' → W K h' cl' sl' pc' L (v.toList ++ st) := by
  rintro _ h' ⟨r, rfl, hr, hp⟩; exact k r h' hr hp
theorem cV {cl' sl' : Nat} {P : Heap → Prop} (k : ∀ h', P h' → W K h' cl' sl' pc' L st) : ∀ v h', RetV P v h' → W K h' cl' sl' pc' L (v.toList ++ st) := by
  rintro _ h' ⟨rfl, hp⟩; exact k h' hp
theorem Con.weak {y : MethodName} {rm : Room} {as : List Value} {Q' : Option Value → Heap → Prop} (c : Con l Z y B ml rt rm as h n0 Q) (q : ∀ v h', Q v h' → Q' v h') : Con l Z y B ml rt rm as h n0 Q' := fun hn ws p e ha hc hk s m args below hf happ hP hK => by
  obtain ⟨n, o, h1, h2, h3, v, L, e1, ⟨h4, h5⟩, h6⟩ := c hn ws p e ha hc hk s m args below hf happ hP hK
  exact ⟨n, o, h1, h2, h3, v, L, e1, ⟨q _ _ h4, h5⟩, h6⟩
theorem Con.body {y : MethodName} {rm : Room} {as : List Value} {L0 : Array Slot} (hw : ∀ d ∈ ts, d.before a0 Z = true) (pn : plainFor y = true) (ef : ∀ m, entryFrame m as.toArray ml = mkF m 0 L0 [])
    (b : ∀ K, Ok K l Z a0 ts B ml rt y.cls y.name rm n0 Q → W K h 0 0 0 L0 []) : Con l Z y B ml rt rm as h n0 Q := by
  intro hn ws
  refine MetFree.of_bodySF pn hisR ?_
  intro p e s m args below meth c s₁ Bd hml0 hP hK
  obtain ⟨rfl, hZ, hh⟩ := hP
  have hown : s.vm.findClass y.cls = some m.cls := findClass_of_methodNamed Bd.named
  have hnm := (name_of_methodNamed Bd.named Bd.method).1
  have X0 : Stand p l e rm s m as.toArray below meth c s₁ [] 0 0 := Stand.of_body Bd
  have e0 : s₁.heap = h := by rw [← hh, Bd.state]; rfl
  have q := b ((p, l, e, rm), (s, m, as.toArray, below), (meth, c), Q, n0) ⟨Bd.exec, Bd.bytes, hml0, hown, hnm, Bd.returns, Bd.notSynchronized, hZ, hw, by rw [← hh] at hn; exact hn, rfl, rfl, rfl, rfl⟩ s₁ [] X0 e0 (Fr.nil _)
  obtain ⟨s2, o, h1, h2, h3, h4⟩ := q
  exact ⟨s2, o, castTop (ef m) h1, h2, h3, h4⟩

theorem w_iloadN (O : Ok K l Z a0 ts B ml rt own nm R n0 Q) {i : Fin 4} {v : Int32} (hd : decode B pc = .ok (.iload_n i, 1)) (hp : pc + 1 = pc') (hl : L[i.val]? = some (.val (.int v))) (k : W K h cl sl pc' L (.int v :: st)) : W K h cl sl pc L (st) := by
  subst hp; exact W.step (fun T locs X e t q => XS.iloadN X.here O.1 rfl (hb O.2.1 hd) hl q) k
theorem w_iload (O : Ok K l Z a0 ts B ml rt own nm R n0 Q) {i : Nat} {v : Int32} (hd : decode B pc = .ok (.iload i, 2)) (hp : pc + 2 = pc') (hl : L[i]? = some (.val (.int v))) (k : W K h cl sl pc' L (.int v :: st)) : W K h cl sl pc L (st) := by
  subst hp; exact W.step (fun T locs X e t q => XS.iload X.here O.1 rfl (hb O.2.1 hd) hl q) k
theorem w_lloadN (O : Ok K l Z a0 ts B ml rt own nm R n0 Q) {i : Fin 4} {v : Int64} (hd : decode B pc = .ok (.lload_n i, 1)) (hp : pc + 1 = pc') (hl : L[i.val]? = some (.val (.long v))) (k : W K h cl sl pc' L (.long v :: st)) : W K h cl sl pc L (st) := by
  subst hp; exact W.step (fun T locs X e t q => XS.lloadN X.here O.1 rfl (hb O.2.1 hd) hl q) k
theorem w_lload (O : Ok K l Z a0 ts B ml rt own nm R n0 Q) {i : Nat} {v : Int64} (hd : decode B pc = .ok (.lload i, 2)) (hp : pc + 2 = pc') (hl : L[i]? = some (.val (.long v))) (k : W K h cl sl pc' L (.long v :: st)) : W K h cl sl pc L (st) := by
  subst hp; exact W.step (fun T locs X e t q => XS.lload X.here O.1 rfl (hb O.2.1 hd) hl q) k
theorem w_aloadN (O : Ok K l Z a0 ts B ml rt own nm R n0 Q) {i : Fin 4} {v : Value} (hd : decode B pc = .ok (.aload_n i, 1)) (hp : pc + 1 = pc') (hl : L[i.val]? = some (.val v)) (hv : v.isRef = true) (k : W K h cl sl pc' L (v :: st)) : W K h cl sl pc L (st) := by
  subst hp; exact W.step (fun T locs X e t q => XS.aloadN X.here O.1 rfl (hb O.2.1 hd) hl hv q) k
theorem w_aload (O : Ok K l Z a0 ts B ml rt own nm R n0 Q) {i : Nat} {v : Value} (hd : decode B pc = .ok (.aload i, 2)) (hp : pc + 2 = pc') (hl : L[i]? = some (.val v)) (hv : v.isRef = true) (k : W K h cl sl pc' L (v :: st)) : W K h cl sl pc L (st) := by
  subst hp; exact W.step (fun T locs X e t q => XS.aload X.here O.1 rfl (hb O.2.1 hd) hl hv q) k
theorem w_istoreN (O : Ok K l Z a0 ts B ml rt own nm R n0 Q) {i : Fin 4} {v : Int32} (hd : decode B pc = .ok (.istore_n i, 1)) (hp : pc + 1 = pc') (hl : storeLocals L i.val (.int v) = some L') (k : W K h cl sl pc' L' st) : W K h cl sl pc L (.int v :: st) := by
  subst hp; exact W.step (fun T locs X e t q => XS.istoreN X.here O.1 rfl (hb O.2.1 hd) rfl hl q) k
theorem w_istoreNG (O : Ok K l Z a0 ts B ml rt own nm R n0 Q) {i : Fin 4} {v : Int32} {L' : Int32 → Array Slot} (hd : decode B pc = .ok (.istore_n i, 1)) (hp : pc + 1 = pc') (hl : ∀ z, storeLocals L i.val (.int z) = some (L' z)) (k : ∀ z, z = v → W K h cl sl pc' (L' z) st) : W K h cl sl pc L (.int v :: st) := w_istoreN O hd hp (hl v) (k v rfl)
theorem w_istore (O : Ok K l Z a0 ts B ml rt own nm R n0 Q) {i : Nat} {v : Int32} (hd : decode B pc = .ok (.istore i, 2)) (hp : pc + 2 = pc') (hl : storeLocals L i (.int v) = some L') (k : W K h cl sl pc' L' st) : W K h cl sl pc L (.int v :: st) := by
  subst hp; exact W.step (fun T locs X e t q => XS.istore X.here O.1 rfl (hb O.2.1 hd) rfl hl q) k
theorem w_istoreG (O : Ok K l Z a0 ts B ml rt own nm R n0 Q) {i : Nat} {v : Int32} {L' : Int32 → Array Slot} (hd : decode B pc = .ok (.istore i, 2)) (hp : pc + 2 = pc') (hl : ∀ z, storeLocals L i (.int z) = some (L' z)) (k : ∀ z, z = v → W K h cl sl pc' (L' z) st) : W K h cl sl pc L (.int v :: st) := w_istore O hd hp (hl v) (k v rfl)
theorem w_lstoreN (O : Ok K l Z a0 ts B ml rt own nm R n0 Q) {i : Fin 4} {v : Int64} (hd : decode B pc = .ok (.lstore_n i, 1)) (hp : pc + 1 = pc') (hl : storeLocals L i.val (.long v) = some L') (k : W K h cl sl pc' L' st) : W K h cl sl pc L (.long v :: st) := by
  subst hp; exact W.step (fun T locs X e t q => XS.lstoreN X.here O.1 rfl (hb O.2.1 hd) rfl hl q) k
theorem w_lstoreNG (O : Ok K l Z a0 ts B ml rt own nm R n0 Q) {i : Fin 4} {v : Int64} {L' : Int64 → Array Slot} (hd : decode B pc = .ok (.lstore_n i, 1)) (hp : pc + 1 = pc') (hl : ∀ z, storeLocals L i.val (.long z) = some (L' z)) (k : ∀ z, z = v → W K h cl sl pc' (L' z) st) : W K h cl sl pc L (.long v :: st) := w_lstoreN O hd hp (hl v) (k v rfl)
theorem w_lstore (O : Ok K l Z a0 ts B ml rt own nm R n0 Q) {i : Nat} {v : Int64} (hd : decode B pc = .ok (.lstore i, 2)) (hp : pc + 2 = pc') (hl : storeLocals L i (.long v) = some L') (k : W K h cl sl pc' L' st) : W K h cl sl pc L (.long v :: st) := by
  subst hp; exact W.step (fun T locs X e t q => XS.lstore X.here O.1 rfl (hb O.2.1 hd) rfl hl q) k
theorem w_lstoreG (O : Ok K l Z a0 ts B ml rt own nm R n0 Q) {i : Nat} {v : Int64} {L' : Int64 → Array Slot} (hd : decode B pc = .ok (.lstore i, 2)) (hp : pc + 2 = pc') (hl : ∀ z, storeLocals L i (.long z) = some (L' z)) (k : ∀ z, z = v → W K h cl sl pc' (L' z) st) : W K h cl sl pc L (.long v :: st) := w_lstore O hd hp (hl v) (k v rfl)
theorem w_astoreN (O : Ok K l Z a0 ts B ml rt own nm R n0 Q) {i : Fin 4} {v : Value} (hd : decode B pc = .ok (.astore_n i, 1)) (hp : pc + 1 = pc') (hv : v.isRef = true) (hl : storeLocals L i.val v = some L') (k : W K h cl sl pc' L' st) : W K h cl sl pc L (v :: st) := by
  subst hp; exact W.step (fun T locs X e t q => XS.astoreN X.here O.1 rfl (hb O.2.1 hd) rfl hv hl q) k
theorem w_astore (O : Ok K l Z a0 ts B ml rt own nm R n0 Q) {i : Nat} {v : Value} (hd : decode B pc = .ok (.astore i, 2)) (hp : pc + 2 = pc') (hv : v.isRef = true) (hl : storeLocals L i v = some L') (k : W K h cl sl pc' L' st) : W K h cl sl pc L (v :: st) := by
  subst hp; exact W.step (fun T locs X e t q => XS.astore X.here O.1 rfl (hb O.2.1 hd) rfl hv hl q) k
theorem w_iinc (O : Ok K l Z a0 ts B ml rt own nm R n0 Q) {i : Nat} {cst : Int} {x z : Int32} (hd : decode B pc = .ok (.iinc i cst, 3)) (hp : pc + 3 = pc') (hl : L[i]? = some (.val (.int x))) (hz : x + Int32.ofInt cst = z) (hl' : storeLocals L i (.int z) = some L') (k : W K h cl sl pc' L' st) : W K h cl sl pc L st := by
  subst hp; subst hz; exact W.step (fun T locs X e t q => XS.iinc X.here O.1 rfl (hb O.2.1 hd) hl hl' q) k
theorem w_iincG (O : Ok K l Z a0 ts B ml rt own nm R n0 Q) {i : Nat} {cst : Int} {x y : Int32} {L' : Int32 → Array Slot} (hd : decode B pc = .ok (.iinc i cst, 3)) (hp : pc + 3 = pc') (hl : L[i]? = some (.val (.int x))) (hz : Int32.ofInt cst = y) (hl' : ∀ z, storeLocals L i (.int z) = some (L' z)) (k : ∀ z, z = x + y → W K h cl sl pc' (L' z) st) : W K h cl sl pc L st := by
  subst hz; exact w_iinc O hd hp hl rfl (hl' _) (k _ rfl)
theorem w_iconst (O : Ok K l Z a0 ts B ml rt own nm R n0 Q) {i : Int} {z : Int32} (hd : decode B pc = .ok (.iconst i, 1)) (hp : pc + 1 = pc') (hz : Int32.ofInt i = z) (k : W K h cl sl pc' L (.int z :: st)) : W K h cl sl pc L (st) := by
  subst hp; exact W.step (fun T locs X e t q => XS.iconst X.here O.1 rfl (hb O.2.1 hd) (by rw [hz]; exact q)) k
theorem w_bipush (O : Ok K l Z a0 ts B ml rt own nm R n0 Q) {i : Int} {z : Int32} (hd : decode B pc = .ok (.bipush i, 2)) (hp : pc + 2 = pc') (hz : (Int8.ofInt i).toInt32 = z) (k : W K h cl sl pc' L (.int z :: st)) : W K h cl sl pc L (st) := by
  subst hp; exact W.step (fun T locs X e t q => XS.bipush X.here O.1 rfl (hb O.2.1 hd) (by rw [hz]; exact q)) k
theorem w_sipush (O : Ok K l Z a0 ts B ml rt own nm R n0 Q) {i : Int} {z : Int32} (hd : decode B pc = .ok (.sipush i, 3)) (hp : pc + 3 = pc') (hz : (Int16.ofInt i).toInt32 = z) (k : W K h cl sl pc' L (.int z :: st)) : W K h cl sl pc L (st) := by
  subst hp; exact W.step (fun T locs X e t q => XS.sipush X.here O.1 rfl (hb O.2.1 hd) (by rw [hz]; exact q)) k
theorem w_lconst (O : Ok K l Z a0 ts B ml rt own nm R n0 Q) {i : Fin 2} {z : Int64} (hd : decode B pc = .ok (.lconst i, 1)) (hp : pc + 1 = pc') (hz : Int64.ofNat i = z) (k : W K h cl sl pc' L (.long z :: st)) : W K h cl sl pc L (st) := by
  subst hp; exact W.step (fun T locs X e t q => XS.lconst X.here O.1 rfl (hb O.2.1 hd) (by rw [hz]; exact q)) k
theorem w_anull (O : Ok K l Z a0 ts B ml rt own nm R n0 Q)  (hd : decode B pc = .ok (.aconst_null, 1)) (hp : pc + 1 = pc') (k : W K h cl sl pc' L (.null :: st)) : W K h cl sl pc L (st) := by
  subst hp; exact W.step (fun T locs X e t q => XS.aconstNull X.here O.1 rfl (hb O.2.1 hd) q) k
theorem w_ldc (O : Ok K l Z a0 ts B ml rt own nm R n0 Q) {i : Nat} {v : Int32} (hd : decode B pc = .ok (.ldc i, 2)) (hp : pc + 2 = pc') (w : Jvm.Cond.constant own i v ∈ ts) (k : W K h cl sl pc' L (.int v :: st)) : W K h cl sl pc L (st) := by
  subst hp; exact W.step (fun T locs X e t q => X.ldcInt O.1 O.2.2.2.1 (mvT O.2.2.2.2.2.2.2.1 (O.2.2.2.2.2.2.2.2.1 _ w)) (g := mkF K.2.1.2.1 pc L st) rfl (hb O.2.1 hd) _ q) k
theorem w_ldc2 (O : Ok K l Z a0 ts B ml rt own nm R n0 Q) {i : Nat} {v : Int64} (hd : decode B pc = .ok (.ldc2_w i, 3)) (hp : pc + 3 = pc') (w : Jvm.Cond.constantLong own i v ∈ ts) (k : W K h cl sl pc' L (.long v :: st)) : W K h cl sl pc L (st) := by
  subst hp; exact W.step (fun T locs X e t q => X.ldc2Long O.1 O.2.2.2.1 (mvT O.2.2.2.2.2.2.2.1 (O.2.2.2.2.2.2.2.2.1 _ w)) (g := mkF K.2.1.2.1 pc L st) rfl (hb O.2.1 hd) _ q) k
theorem w_iadd (O : Ok K l Z a0 ts B ml rt own nm R n0 Q) {x y : Int32} (hd : decode B pc = .ok (.iadd, 1)) (hp : pc + 1 = pc') (k : W K h cl sl pc' L (.int (x + y) :: st)) : W K h cl sl pc L (.int y :: .int x :: st) := by
  subst hp; exact W.step (fun T locs X e t q => XS.iadd X.here O.1 rfl (hb O.2.1 hd) rfl q) k
theorem w_isub (O : Ok K l Z a0 ts B ml rt own nm R n0 Q) {x y : Int32} (hd : decode B pc = .ok (.isub, 1)) (hp : pc + 1 = pc') (k : W K h cl sl pc' L (.int (x - y) :: st)) : W K h cl sl pc L (.int y :: .int x :: st) := by
  subst hp; exact W.step (fun T locs X e t q => XS.isub X.here O.1 rfl (hb O.2.1 hd) rfl q) k
theorem w_imul (O : Ok K l Z a0 ts B ml rt own nm R n0 Q) {x y : Int32} (hd : decode B pc = .ok (.imul, 1)) (hp : pc + 1 = pc') (k : W K h cl sl pc' L (.int (x * y) :: st)) : W K h cl sl pc L (.int y :: .int x :: st) := by
  subst hp; exact W.step (fun T locs X e t q => XS.imul X.here O.1 rfl (hb O.2.1 hd) rfl q) k
theorem w_iand (O : Ok K l Z a0 ts B ml rt own nm R n0 Q) {x y : Int32} (hd : decode B pc = .ok (.iand, 1)) (hp : pc + 1 = pc') (k : W K h cl sl pc' L (.int (x &&& y) :: st)) : W K h cl sl pc L (.int y :: .int x :: st) := by
  subst hp; exact W.step (fun T locs X e t q => XS.iand X.here O.1 rfl (hb O.2.1 hd) rfl q) k
theorem w_ior (O : Ok K l Z a0 ts B ml rt own nm R n0 Q) {x y : Int32} (hd : decode B pc = .ok (.ior, 1)) (hp : pc + 1 = pc') (k : W K h cl sl pc' L (.int (x ||| y) :: st)) : W K h cl sl pc L (.int y :: .int x :: st) := by
  subst hp; exact W.step (fun T locs X e t q => XS.ior X.here O.1 rfl (hb O.2.1 hd) rfl q) k
theorem w_ixor (O : Ok K l Z a0 ts B ml rt own nm R n0 Q) {x y : Int32} (hd : decode B pc = .ok (.ixor, 1)) (hp : pc + 1 = pc') (k : W K h cl sl pc' L (.int (x ^^^ y) :: st)) : W K h cl sl pc L (.int y :: .int x :: st) := by
  subst hp; exact W.step (fun T locs X e t q => XS.ixor X.here O.1 rfl (hb O.2.1 hd) rfl q) k
theorem w_ishl (O : Ok K l Z a0 ts B ml rt own nm R n0 Q) {x y : Int32} (hd : decode B pc = .ok (.ishl, 1)) (hp : pc + 1 = pc') (k : W K h cl sl pc' L (.int (x <<< (y &&& 31)) :: st)) : W K h cl sl pc L (.int y :: .int x :: st) := by
  subst hp; exact W.step (fun T locs X e t q => XS.ishl X.here O.1 rfl (hb O.2.1 hd) rfl q) k
theorem w_ishr (O : Ok K l Z a0 ts B ml rt own nm R n0 Q) {x y : Int32} (hd : decode B pc = .ok (.ishr, 1)) (hp : pc + 1 = pc') (k : W K h cl sl pc' L (.int (x >>> (y &&& 31)) :: st)) : W K h cl sl pc L (.int y :: .int x :: st) := by
  subst hp; exact W.step (fun T locs X e t q => XS.ishr X.here O.1 rfl (hb O.2.1 hd) rfl q) k
theorem w_iushr (O : Ok K l Z a0 ts B ml rt own nm R n0 Q) {x y : Int32} (hd : decode B pc = .ok (.iushr, 1)) (hp : pc + 1 = pc') (k : W K h cl sl pc' L (.int ((x.toUInt32 >>> (y &&& 31).toUInt32).toInt32) :: st)) : W K h cl sl pc L (.int y :: .int x :: st) := by
  subst hp; exact W.step (fun T locs X e t q => XS.iushr X.here O.1 rfl (hb O.2.1 hd) rfl q) k
theorem w_ladd (O : Ok K l Z a0 ts B ml rt own nm R n0 Q) {x y : Int64} (hd : decode B pc = .ok (.ladd, 1)) (hp : pc + 1 = pc') (k : W K h cl sl pc' L (.long (x + y) :: st)) : W K h cl sl pc L (.long y :: .long x :: st) := by
  subst hp; exact W.step (fun T locs X e t q => XS.ladd X.here O.1 rfl (hb O.2.1 hd) rfl q) k
theorem w_lsub (O : Ok K l Z a0 ts B ml rt own nm R n0 Q) {x y : Int64} (hd : decode B pc = .ok (.lsub, 1)) (hp : pc + 1 = pc') (k : W K h cl sl pc' L (.long (x - y) :: st)) : W K h cl sl pc L (.long y :: .long x :: st) := by
  subst hp; exact W.step (fun T locs X e t q => XS.lsub X.here O.1 rfl (hb O.2.1 hd) rfl q) k
theorem w_lmul (O : Ok K l Z a0 ts B ml rt own nm R n0 Q) {x y : Int64} (hd : decode B pc = .ok (.lmul, 1)) (hp : pc + 1 = pc') (k : W K h cl sl pc' L (.long (x * y) :: st)) : W K h cl sl pc L (.long y :: .long x :: st) := by
  subst hp; exact W.step (fun T locs X e t q => XS.lmul X.here O.1 rfl (hb O.2.1 hd) rfl q) k
theorem w_land (O : Ok K l Z a0 ts B ml rt own nm R n0 Q) {x y : Int64} (hd : decode B pc = .ok (.land, 1)) (hp : pc + 1 = pc') (k : W K h cl sl pc' L (.long (x &&& y) :: st)) : W K h cl sl pc L (.long y :: .long x :: st) := by
  subst hp; exact W.step (fun T locs X e t q => XS.land X.here O.1 rfl (hb O.2.1 hd) rfl q) k
theorem w_lor (O : Ok K l Z a0 ts B ml rt own nm R n0 Q) {x y : Int64} (hd : decode B pc = .ok (.lor, 1)) (hp : pc + 1 = pc') (k : W K h cl sl pc' L (.long (x ||| y) :: st)) : W K h cl sl pc L (.long y :: .long x :: st) := by
  subst hp; exact W.step (fun T locs X e t q => XS.lor X.here O.1 rfl (hb O.2.1 hd) rfl q) k
theorem w_lxor (O : Ok K l Z a0 ts B ml rt own nm R n0 Q) {x y : Int64} (hd : decode B pc = .ok (.lxor, 1)) (hp : pc + 1 = pc') (k : W K h cl sl pc' L (.long (x ^^^ y) :: st)) : W K h cl sl pc L (.long y :: .long x :: st) := by
  subst hp; exact W.step (fun T locs X e t q => XS.lxor X.here O.1 rfl (hb O.2.1 hd) rfl q) k
theorem w_lshl (O : Ok K l Z a0 ts B ml rt own nm R n0 Q) {x : Int64} {y : Int32} (hd : decode B pc = .ok (.lshl, 1)) (hp : pc + 1 = pc') (k : W K h cl sl pc' L (.long (x <<< (y &&& 0x3f).toInt64) :: st)) : W K h cl sl pc L (.int y :: .long x :: st) := by
  subst hp; exact W.step (fun T locs X e t q => XS.lshl X.here O.1 rfl (hb O.2.1 hd) rfl q) k
theorem w_lshr (O : Ok K l Z a0 ts B ml rt own nm R n0 Q) {x : Int64} {y : Int32} (hd : decode B pc = .ok (.lshr, 1)) (hp : pc + 1 = pc') (k : W K h cl sl pc' L (.long (x >>> (y &&& 0x3f).toInt64) :: st)) : W K h cl sl pc L (.int y :: .long x :: st) := by
  subst hp; exact W.step (fun T locs X e t q => XS.lshr X.here O.1 rfl (hb O.2.1 hd) rfl q) k
theorem w_lushr (O : Ok K l Z a0 ts B ml rt own nm R n0 Q) {x : Int64} {y : Int32} (hd : decode B pc = .ok (.lushr, 1)) (hp : pc + 1 = pc') (k : W K h cl sl pc' L (.long ((x.toUInt64 >>> (y &&& 0x3f).toInt64.toUInt64).toInt64) :: st)) : W K h cl sl pc L (.int y :: .long x :: st) := by
  subst hp; exact W.step (fun T locs X e t q => XS.lushr X.here O.1 rfl (hb O.2.1 hd) rfl q) k
theorem w_idiv (O : Ok K l Z a0 ts B ml rt own nm R n0 Q) {x y : Int32} (hd : decode B pc = .ok (.idiv, 1)) (hp : pc + 1 = pc') (hy : y ≠ 0) (k : W K h cl sl pc' L (.int (x / y) :: st)) : W K h cl sl pc L (.int y :: .int x :: st) := by
  subst hp; exact W.step (fun T locs X e t q => XS.idiv X.here O.1 rfl (hb O.2.1 hd) rfl hy q) k
theorem w_irem (O : Ok K l Z a0 ts B ml rt own nm R n0 Q) {x y : Int32} (hd : decode B pc = .ok (.irem, 1)) (hp : pc + 1 = pc') (hy : y ≠ 0) (k : W K h cl sl pc' L (.int (x % y) :: st)) : W K h cl sl pc L (.int y :: .int x :: st) := by
  subst hp; exact W.step (fun T locs X e t q => iremM X O.1 rfl (hb O.2.1 hd) rfl hy q) k
theorem w_ldiv (O : Ok K l Z a0 ts B ml rt own nm R n0 Q) {x y : Int64} (hd : decode B pc = .ok (.ldiv, 1)) (hp : pc + 1 = pc') (hy : y ≠ 0) (k : W K h cl sl pc' L (.long (x / y) :: st)) : W K h cl sl pc L (.long y :: .long x :: st) := by
  subst hp; exact W.step (fun T locs X e t q => XS.ldiv X.here O.1 rfl (hb O.2.1 hd) rfl hy q) k
theorem w_lrem (O : Ok K l Z a0 ts B ml rt own nm R n0 Q) {x y : Int64} (hd : decode B pc = .ok (.lrem, 1)) (hp : pc + 1 = pc') (hy : y ≠ 0) (k : W K h cl sl pc' L (.long (x % y) :: st)) : W K h cl sl pc L (.long y :: .long x :: st) := by
  subst hp; exact W.step (fun T locs X e t q => XS.lrem X.here O.1 rfl (hb O.2.1 hd) rfl hy (by rw [lrem_mod]; exact q)) k
theorem w_ineg (O : Ok K l Z a0 ts B ml rt own nm R n0 Q) {x : Int32} (hd : decode B pc = .ok (.ineg, 1)) (hp : pc + 1 = pc') (k : W K h cl sl pc' L (.int (-x) :: st)) : W K h cl sl pc L (.int x :: st) := by
  subst hp; exact W.step (fun T locs X e t q => XS.ineg X.here O.1 rfl (hb O.2.1 hd) rfl q) k
theorem w_lneg (O : Ok K l Z a0 ts B ml rt own nm R n0 Q) {x : Int64} (hd : decode B pc = .ok (.lneg, 1)) (hp : pc + 1 = pc') (k : W K h cl sl pc' L (.long (-x) :: st)) : W K h cl sl pc L (.long x :: st) := by
  subst hp; exact W.step (fun T locs X e t q => XS.lneg X.here O.1 rfl (hb O.2.1 hd) rfl q) k
theorem w_i2l (O : Ok K l Z a0 ts B ml rt own nm R n0 Q) {x : Int32} (hd : decode B pc = .ok (.i2l, 1)) (hp : pc + 1 = pc') (k : W K h cl sl pc' L (.long (x.toInt64) :: st)) : W K h cl sl pc L (.int x :: st) := by
  subst hp; exact W.step (fun T locs X e t q => XS.i2l X.here O.1 rfl (hb O.2.1 hd) rfl q) k
theorem w_l2i (O : Ok K l Z a0 ts B ml rt own nm R n0 Q) {x : Int64} (hd : decode B pc = .ok (.l2i, 1)) (hp : pc + 1 = pc') (k : W K h cl sl pc' L (.int (x.toInt32) :: st)) : W K h cl sl pc L (.long x :: st) := by
  subst hp; exact W.step (fun T locs X e t q => XS.l2i X.here O.1 rfl (hb O.2.1 hd) rfl q) k
theorem w_i2b (O : Ok K l Z a0 ts B ml rt own nm R n0 Q) {x : Int32} (hd : decode B pc = .ok (.i2b, 1)) (hp : pc + 1 = pc') (k : W K h cl sl pc' L (.int (x.toInt8.toInt32) :: st)) : W K h cl sl pc L (.int x :: st) := by
  subst hp; exact W.step (fun T locs X e t q => XS.i2b X.here O.1 rfl (hb O.2.1 hd) rfl q) k
theorem w_i2s (O : Ok K l Z a0 ts B ml rt own nm R n0 Q) {x : Int32} (hd : decode B pc = .ok (.i2s, 1)) (hp : pc + 1 = pc') (k : W K h cl sl pc' L (.int (x.toInt16.toInt32) :: st)) : W K h cl sl pc L (.int x :: st) := by
  subst hp; exact W.step (fun T locs X e t q => XS.i2s X.here O.1 rfl (hb O.2.1 hd) rfl q) k
theorem w_i2c (O : Ok K l Z a0 ts B ml rt own nm R n0 Q) {x : Int32} (hd : decode B pc = .ok (.i2c, 1)) (hp : pc + 1 = pc') (k : W K h cl sl pc' L (.int (x.toUInt32.toUInt16.toUInt32.toInt32) :: st)) : W K h cl sl pc L (.int x :: st) := by
  subst hp; exact W.step (fun T locs X e t q => XS.i2c X.here O.1 rfl (hb O.2.1 hd) rfl q) k
theorem w_dup (O : Ok K l Z a0 ts B ml rt own nm R n0 Q) {x : Value} (hd : decode B pc = .ok (.dup, 1)) (hp : pc + 1 = pc') (hc : x.category = 1) (k : W K h cl sl pc' L (x :: x :: st)) : W K h cl sl pc L (x :: st) := by
  subst hp; exact W.step (fun T locs X e t q => XS.dup X.here O.1 rfl (hb O.2.1 hd) rfl hc q) k
theorem w_pop (O : Ok K l Z a0 ts B ml rt own nm R n0 Q) {x : Value} (hd : decode B pc = .ok (.pop, 1)) (hp : pc + 1 = pc') (hc : x.category = 1) (k : W K h cl sl pc' L (st)) : W K h cl sl pc L (x :: st) := by
  subst hp; exact W.step (fun T locs X e t q => XS.pop X.here O.1 rfl (hb O.2.1 hd) rfl hc q) k
theorem w_dupX1 (O : Ok K l Z a0 ts B ml rt own nm R n0 Q) {x y : Value} (hd : decode B pc = .ok (.dup_x1, 1)) (hp : pc + 1 = pc') (hc : x.category = 1) (hc2 : y.category = 1) (k : W K h cl sl pc' L (x :: y :: x :: st)) : W K h cl sl pc L (x :: y :: st) := by
  subst hp; exact W.step (fun T locs X e t q => XS.dupX1 X.here O.1 rfl (hb O.2.1 hd) rfl hc hc2 q) k
theorem w_goto (O : Ok K l Z a0 ts B ml rt own nm R n0 Q) {o : Int} (hd : decode B pc = .ok (.goto o, 3)) (ho : 0 ≤ (pc : Int) + o) (hp : ((pc : Int) + o).toNat = pc') (k : W K h cl sl pc' L st) : W K h cl sl pc L st := W.step (fun T locs X e t q => XS.goto X.here O.1 rfl rfl (hb O.2.1 hd) ho hp q) k
theorem w_icmp_eq (O : Ok K l Z a0 ts B ml rt own nm R n0 Q) {o : Int} {x y : Int32} {pt pn : Nat} (hd : decode B pc = .ok (.if_icmp .eq o, 3)) (hn : pc + 3 = pn) (ho : 0 ≤ (pc : Int) + o) (ht : ((pc : Int) + o).toNat = pt) (ky : x.toInt = y.toInt → W K h cl sl pt L st) (kn : ¬ x.toInt = y.toInt → W K h cl sl pn L st) : W K h cl sl pc L (.int y :: .int x :: st) := by
  by_cases q : x = y
  · exact W.step (fun T locs X e t z => XS.icmpYes X.here O.1 rfl rfl (hb O.2.1 hd) rfl (teq q).1 ho ht z) (ky (Int32.toInt_inj.mpr q))
  · exact W.step (fun T locs X e t z => XS.icmpNo X.here O.1 rfl (hb O.2.1 hd) rfl (feq q).1 (by rw [← hn] at z; exact z)) (kn fun w => q (Int32.toInt_inj.mp w))
theorem w_if_eq (O : Ok K l Z a0 ts B ml rt own nm R n0 Q) {o : Int} {x : Int32} {pt pn : Nat} (hd : decode B pc = .ok (.ifCond .eq o, 3)) (hn : pc + 3 = pn) (ho : 0 ≤ (pc : Int) + o) (ht : ((pc : Int) + o).toNat = pt) (ky : x.toInt = 0 → W K h cl sl pt L st) (kn : ¬ x.toInt = 0 → W K h cl sl pn L st) : W K h cl sl pc L (.int x :: st) := by
  have e0 : (0 : Int32).toInt = 0 := by decide
  by_cases q : x = 0
  · exact W.step (fun T locs X e t z => XS.ifYes X.here O.1 rfl rfl (hb O.2.1 hd) rfl ((if0 _ _).trans (teq q).1) ho ht z) (ky (by rw [← e0]; exact (Int32.toInt_inj.mpr q)))
  · exact W.step (fun T locs X e t z => XS.ifNo X.here O.1 rfl (hb O.2.1 hd) rfl ((if0 _ _).trans (feq q).1) (by rw [← hn] at z; exact z)) (kn fun w => q (by rw [← e0] at w; exact (Int32.toInt_inj.mp w)))
theorem lcb_eq {x y : Int64} : (lcmpW x y).toInt = 0 ↔ x.toInt = y.toInt := by
  have e0 : (0 : Int32).toInt = 0 := by decide
  rw [← e0]
  exact Int32.toInt_inj.trans ((lw_eq x y).trans Int64.toInt_inj.symm)
theorem w_lcmp_eq (O : Ok K l Z a0 ts B ml rt own nm R n0 Q) {o : Int} {x y : Int64} {pi pt pn : Nat} (hd : decode B pc = .ok (.lcmp, 1)) (hi : pc + 1 = pi) (hd2 : decode B pi = .ok (.ifCond .eq o, 3)) (hn : pi + 3 = pn) (ho : 0 ≤ (pi : Int) + o) (ht : ((pi : Int) + o).toNat = pt) (ky : x.toInt = y.toInt → W K h cl sl pt L st) (kn : ¬ x.toInt = y.toInt → W K h cl sl pn L st) : W K h cl sl pc L (.long y :: .long x :: st) := by
  subst hi
  exact W.step (fun T locs X e t q => XS.lcmp X.here O.1 rfl (hb O.2.1 hd) rfl q) (w_if_eq O hd2 hn ho ht (fun q => ky (lcb_eq.mp q)) (fun q => kn fun w => q (lcb_eq.mpr w)))
theorem w_icmp_ne (O : Ok K l Z a0 ts B ml rt own nm R n0 Q) {o : Int} {x y : Int32} {pt pn : Nat} (hd : decode B pc = .ok (.if_icmp .ne o, 3)) (hn : pc + 3 = pn) (ho : 0 ≤ (pc : Int) + o) (ht : ((pc : Int) + o).toNat = pt) (ky : ¬ x.toInt = y.toInt → W K h cl sl pt L st) (kn : x.toInt = y.toInt → W K h cl sl pn L st) : W K h cl sl pc L (.int y :: .int x :: st) := by
  by_cases q : x = y
  · exact W.step (fun T locs X e t z => XS.icmpNo X.here O.1 rfl (hb O.2.1 hd) rfl (teq q).2 (by rw [← hn] at z; exact z)) (kn (Int32.toInt_inj.mpr q))
  · exact W.step (fun T locs X e t z => XS.icmpYes X.here O.1 rfl rfl (hb O.2.1 hd) rfl (feq q).2 ho ht z) (ky fun w => q (Int32.toInt_inj.mp w))
theorem w_if_ne (O : Ok K l Z a0 ts B ml rt own nm R n0 Q) {o : Int} {x : Int32} {pt pn : Nat} (hd : decode B pc = .ok (.ifCond .ne o, 3)) (hn : pc + 3 = pn) (ho : 0 ≤ (pc : Int) + o) (ht : ((pc : Int) + o).toNat = pt) (ky : ¬ x.toInt = 0 → W K h cl sl pt L st) (kn : x.toInt = 0 → W K h cl sl pn L st) : W K h cl sl pc L (.int x :: st) := by
  have e0 : (0 : Int32).toInt = 0 := by decide
  by_cases q : x = 0
  · exact W.step (fun T locs X e t z => XS.ifNo X.here O.1 rfl (hb O.2.1 hd) rfl ((if0 _ _).trans (teq q).2) (by rw [← hn] at z; exact z)) (kn (by rw [← e0]; exact (Int32.toInt_inj.mpr q)))
  · exact W.step (fun T locs X e t z => XS.ifYes X.here O.1 rfl rfl (hb O.2.1 hd) rfl ((if0 _ _).trans (feq q).2) ho ht z) (ky fun w => q (by rw [← e0] at w; exact (Int32.toInt_inj.mp w)))
theorem lcb_ne {x y : Int64} : (lcmpW x y).toInt = 0 ↔ x.toInt = y.toInt := by
  have e0 : (0 : Int32).toInt = 0 := by decide
  rw [← e0]
  exact Int32.toInt_inj.trans ((lw_eq x y).trans Int64.toInt_inj.symm)
theorem w_lcmp_ne (O : Ok K l Z a0 ts B ml rt own nm R n0 Q) {o : Int} {x y : Int64} {pi pt pn : Nat} (hd : decode B pc = .ok (.lcmp, 1)) (hi : pc + 1 = pi) (hd2 : decode B pi = .ok (.ifCond .ne o, 3)) (hn : pi + 3 = pn) (ho : 0 ≤ (pi : Int) + o) (ht : ((pi : Int) + o).toNat = pt) (ky : ¬ x.toInt = y.toInt → W K h cl sl pt L st) (kn : x.toInt = y.toInt → W K h cl sl pn L st) : W K h cl sl pc L (.long y :: .long x :: st) := by
  subst hi
  exact W.step (fun T locs X e t q => XS.lcmp X.here O.1 rfl (hb O.2.1 hd) rfl q) (w_if_ne O hd2 hn ho ht (fun q => ky fun w => q (lcb_ne.mpr w)) (fun q => kn (lcb_ne.mp q)))
theorem w_icmp_lt (O : Ok K l Z a0 ts B ml rt own nm R n0 Q) {o : Int} {x y : Int32} {pt pn : Nat} (hd : decode B pc = .ok (.if_icmp .lt o, 3)) (hn : pc + 3 = pn) (ho : 0 ≤ (pc : Int) + o) (ht : ((pc : Int) + o).toNat = pt) (ky : x.toInt < y.toInt → W K h cl sl pt L st) (kn : ¬ x.toInt < y.toInt → W K h cl sl pn L st) : W K h cl sl pc L (.int y :: .int x :: st) := by
  by_cases q : x < y
  · exact W.step (fun T locs X e t z => XS.icmpYes X.here O.1 rfl rfl (hb O.2.1 hd) rfl (tlt q).1 ho ht z) (ky (Int32.lt_iff_toInt_lt.mp q))
  · exact W.step (fun T locs X e t z => XS.icmpNo X.here O.1 rfl (hb O.2.1 hd) rfl (flt q).1 (by rw [← hn] at z; exact z)) (kn fun w => q (Int32.lt_iff_toInt_lt.mpr w))
theorem w_if_lt (O : Ok K l Z a0 ts B ml rt own nm R n0 Q) {o : Int} {x : Int32} {pt pn : Nat} (hd : decode B pc = .ok (.ifCond .lt o, 3)) (hn : pc + 3 = pn) (ho : 0 ≤ (pc : Int) + o) (ht : ((pc : Int) + o).toNat = pt) (ky : x.toInt < 0 → W K h cl sl pt L st) (kn : ¬ x.toInt < 0 → W K h cl sl pn L st) : W K h cl sl pc L (.int x :: st) := by
  have e0 : (0 : Int32).toInt = 0 := by decide
  by_cases q : x < 0
  · exact W.step (fun T locs X e t z => XS.ifYes X.here O.1 rfl rfl (hb O.2.1 hd) rfl ((if0 _ _).trans (tlt q).1) ho ht z) (ky (by rw [← e0]; exact (Int32.lt_iff_toInt_lt.mp q)))
  · exact W.step (fun T locs X e t z => XS.ifNo X.here O.1 rfl (hb O.2.1 hd) rfl ((if0 _ _).trans (flt q).1) (by rw [← hn] at z; exact z)) (kn fun w => q (by rw [← e0] at w; exact (Int32.lt_iff_toInt_lt.mpr w)))
theorem lcb_lt {x y : Int64} : (lcmpW x y).toInt < 0 ↔ x.toInt < y.toInt := by
  have e0 : (0 : Int32).toInt = 0 := by decide
  rw [← e0]
  exact (Int32.lt_iff_toInt_lt.symm).trans ((lw_lt x y).trans Int64.lt_iff_toInt_lt)
theorem w_lcmp_lt (O : Ok K l Z a0 ts B ml rt own nm R n0 Q) {o : Int} {x y : Int64} {pi pt pn : Nat} (hd : decode B pc = .ok (.lcmp, 1)) (hi : pc + 1 = pi) (hd2 : decode B pi = .ok (.ifCond .lt o, 3)) (hn : pi + 3 = pn) (ho : 0 ≤ (pi : Int) + o) (ht : ((pi : Int) + o).toNat = pt) (ky : x.toInt < y.toInt → W K h cl sl pt L st) (kn : ¬ x.toInt < y.toInt → W K h cl sl pn L st) : W K h cl sl pc L (.long y :: .long x :: st) := by
  subst hi
  exact W.step (fun T locs X e t q => XS.lcmp X.here O.1 rfl (hb O.2.1 hd) rfl q) (w_if_lt O hd2 hn ho ht (fun q => ky (lcb_lt.mp q)) (fun q => kn fun w => q (lcb_lt.mpr w)))
theorem w_icmp_ge (O : Ok K l Z a0 ts B ml rt own nm R n0 Q) {o : Int} {x y : Int32} {pt pn : Nat} (hd : decode B pc = .ok (.if_icmp .ge o, 3)) (hn : pc + 3 = pn) (ho : 0 ≤ (pc : Int) + o) (ht : ((pc : Int) + o).toNat = pt) (ky : ¬ x.toInt < y.toInt → W K h cl sl pt L st) (kn : x.toInt < y.toInt → W K h cl sl pn L st) : W K h cl sl pc L (.int y :: .int x :: st) := by
  by_cases q : x < y
  · exact W.step (fun T locs X e t z => XS.icmpNo X.here O.1 rfl (hb O.2.1 hd) rfl (tlt q).2.1 (by rw [← hn] at z; exact z)) (kn (Int32.lt_iff_toInt_lt.mp q))
  · exact W.step (fun T locs X e t z => XS.icmpYes X.here O.1 rfl rfl (hb O.2.1 hd) rfl (flt q).2.1 ho ht z) (ky fun w => q (Int32.lt_iff_toInt_lt.mpr w))
theorem w_if_ge (O : Ok K l Z a0 ts B ml rt own nm R n0 Q) {o : Int} {x : Int32} {pt pn : Nat} (hd : decode B pc = .ok (.ifCond .ge o, 3)) (hn : pc + 3 = pn) (ho : 0 ≤ (pc : Int) + o) (ht : ((pc : Int) + o).toNat = pt) (ky : ¬ x.toInt < 0 → W K h cl sl pt L st) (kn : x.toInt < 0 → W K h cl sl pn L st) : W K h cl sl pc L (.int x :: st) := by
  have e0 : (0 : Int32).toInt = 0 := by decide
  by_cases q : x < 0
  · exact W.step (fun T locs X e t z => XS.ifNo X.here O.1 rfl (hb O.2.1 hd) rfl ((if0 _ _).trans (tlt q).2.1) (by rw [← hn] at z; exact z)) (kn (by rw [← e0]; exact (Int32.lt_iff_toInt_lt.mp q)))
  · exact W.step (fun T locs X e t z => XS.ifYes X.here O.1 rfl rfl (hb O.2.1 hd) rfl ((if0 _ _).trans (flt q).2.1) ho ht z) (ky fun w => q (by rw [← e0] at w; exact (Int32.lt_iff_toInt_lt.mpr w)))
theorem lcb_ge {x y : Int64} : (lcmpW x y).toInt < 0 ↔ x.toInt < y.toInt := by
  have e0 : (0 : Int32).toInt = 0 := by decide
  rw [← e0]
  exact (Int32.lt_iff_toInt_lt.symm).trans ((lw_lt x y).trans Int64.lt_iff_toInt_lt)
theorem w_lcmp_ge (O : Ok K l Z a0 ts B ml rt own nm R n0 Q) {o : Int} {x y : Int64} {pi pt pn : Nat} (hd : decode B pc = .ok (.lcmp, 1)) (hi : pc + 1 = pi) (hd2 : decode B pi = .ok (.ifCond .ge o, 3)) (hn : pi + 3 = pn) (ho : 0 ≤ (pi : Int) + o) (ht : ((pi : Int) + o).toNat = pt) (ky : ¬ x.toInt < y.toInt → W K h cl sl pt L st) (kn : x.toInt < y.toInt → W K h cl sl pn L st) : W K h cl sl pc L (.long y :: .long x :: st) := by
  subst hi
  exact W.step (fun T locs X e t q => XS.lcmp X.here O.1 rfl (hb O.2.1 hd) rfl q) (w_if_ge O hd2 hn ho ht (fun q => ky fun w => q (lcb_ge.mpr w)) (fun q => kn (lcb_ge.mp q)))
theorem w_icmp_gt (O : Ok K l Z a0 ts B ml rt own nm R n0 Q) {o : Int} {x y : Int32} {pt pn : Nat} (hd : decode B pc = .ok (.if_icmp .gt o, 3)) (hn : pc + 3 = pn) (ho : 0 ≤ (pc : Int) + o) (ht : ((pc : Int) + o).toNat = pt) (ky : y.toInt < x.toInt → W K h cl sl pt L st) (kn : ¬ y.toInt < x.toInt → W K h cl sl pn L st) : W K h cl sl pc L (.int y :: .int x :: st) := by
  by_cases q : y < x
  · exact W.step (fun T locs X e t z => XS.icmpYes X.here O.1 rfl rfl (hb O.2.1 hd) rfl (tlt q).2.2.1 ho ht z) (ky (Int32.lt_iff_toInt_lt.mp q))
  · exact W.step (fun T locs X e t z => XS.icmpNo X.here O.1 rfl (hb O.2.1 hd) rfl (flt q).2.2.1 (by rw [← hn] at z; exact z)) (kn fun w => q (Int32.lt_iff_toInt_lt.mpr w))
theorem w_if_gt (O : Ok K l Z a0 ts B ml rt own nm R n0 Q) {o : Int} {x : Int32} {pt pn : Nat} (hd : decode B pc = .ok (.ifCond .gt o, 3)) (hn : pc + 3 = pn) (ho : 0 ≤ (pc : Int) + o) (ht : ((pc : Int) + o).toNat = pt) (ky : 0 < x.toInt → W K h cl sl pt L st) (kn : ¬ 0 < x.toInt → W K h cl sl pn L st) : W K h cl sl pc L (.int x :: st) := by
  have e0 : (0 : Int32).toInt = 0 := by decide
  by_cases q : 0 < x
  · exact W.step (fun T locs X e t z => XS.ifYes X.here O.1 rfl rfl (hb O.2.1 hd) rfl ((if0 _ _).trans (tlt q).2.2.1) ho ht z) (ky (by rw [← e0]; exact (Int32.lt_iff_toInt_lt.mp q)))
  · exact W.step (fun T locs X e t z => XS.ifNo X.here O.1 rfl (hb O.2.1 hd) rfl ((if0 _ _).trans (flt q).2.2.1) (by rw [← hn] at z; exact z)) (kn fun w => q (by rw [← e0] at w; exact (Int32.lt_iff_toInt_lt.mpr w)))
theorem lcb_gt {x y : Int64} : 0 < (lcmpW x y).toInt ↔ y.toInt < x.toInt := by
  have e0 : (0 : Int32).toInt = 0 := by decide
  rw [← e0]
  exact (Int32.lt_iff_toInt_lt.symm).trans ((lw_gt x y).trans Int64.lt_iff_toInt_lt)
theorem w_lcmp_gt (O : Ok K l Z a0 ts B ml rt own nm R n0 Q) {o : Int} {x y : Int64} {pi pt pn : Nat} (hd : decode B pc = .ok (.lcmp, 1)) (hi : pc + 1 = pi) (hd2 : decode B pi = .ok (.ifCond .gt o, 3)) (hn : pi + 3 = pn) (ho : 0 ≤ (pi : Int) + o) (ht : ((pi : Int) + o).toNat = pt) (ky : y.toInt < x.toInt → W K h cl sl pt L st) (kn : ¬ y.toInt < x.toInt → W K h cl sl pn L st) : W K h cl sl pc L (.long y :: .long x :: st) := by
  subst hi
  exact W.step (fun T locs X e t q => XS.lcmp X.here O.1 rfl (hb O.2.1 hd) rfl q) (w_if_gt O hd2 hn ho ht (fun q => ky (lcb_gt.mp q)) (fun q => kn fun w => q (lcb_gt.mpr w)))
theorem w_icmp_le (O : Ok K l Z a0 ts B ml rt own nm R n0 Q) {o : Int} {x y : Int32} {pt pn : Nat} (hd : decode B pc = .ok (.if_icmp .le o, 3)) (hn : pc + 3 = pn) (ho : 0 ≤ (pc : Int) + o) (ht : ((pc : Int) + o).toNat = pt) (ky : ¬ y.toInt < x.toInt → W K h cl sl pt L st) (kn : y.toInt < x.toInt → W K h cl sl pn L st) : W K h cl sl pc L (.int y :: .int x :: st) := by
  by_cases q : y < x
  · exact W.step (fun T locs X e t z => XS.icmpNo X.here O.1 rfl (hb O.2.1 hd) rfl (tlt q).2.2.2 (by rw [← hn] at z; exact z)) (kn (Int32.lt_iff_toInt_lt.mp q))
  · exact W.step (fun T locs X e t z => XS.icmpYes X.here O.1 rfl rfl (hb O.2.1 hd) rfl (flt q).2.2.2 ho ht z) (ky fun w => q (Int32.lt_iff_toInt_lt.mpr w))
theorem w_if_le (O : Ok K l Z a0 ts B ml rt own nm R n0 Q) {o : Int} {x : Int32} {pt pn : Nat} (hd : decode B pc = .ok (.ifCond .le o, 3)) (hn : pc + 3 = pn) (ho : 0 ≤ (pc : Int) + o) (ht : ((pc : Int) + o).toNat = pt) (ky : ¬ 0 < x.toInt → W K h cl sl pt L st) (kn : 0 < x.toInt → W K h cl sl pn L st) : W K h cl sl pc L (.int x :: st) := by
  have e0 : (0 : Int32).toInt = 0 := by decide
  by_cases q : 0 < x
  · exact W.step (fun T locs X e t z => XS.ifNo X.here O.1 rfl (hb O.2.1 hd) rfl ((if0 _ _).trans (tlt q).2.2.2) (by rw [← hn] at z; exact z)) (kn (by rw [← e0]; exact (Int32.lt_iff_toInt_lt.mp q)))
  · exact W.step (fun T locs X e t z => XS.ifYes X.here O.1 rfl rfl (hb O.2.1 hd) rfl ((if0 _ _).trans (flt q).2.2.2) ho ht z) (ky fun w => q (by rw [← e0] at w; exact (Int32.lt_iff_toInt_lt.mpr w)))
theorem lcb_le {x y : Int64} : 0 < (lcmpW x y).toInt ↔ y.toInt < x.toInt := by
  have e0 : (0 : Int32).toInt = 0 := by decide
  rw [← e0]
  exact (Int32.lt_iff_toInt_lt.symm).trans ((lw_gt x y).trans Int64.lt_iff_toInt_lt)
theorem w_lcmp_le (O : Ok K l Z a0 ts B ml rt own nm R n0 Q) {o : Int} {x y : Int64} {pi pt pn : Nat} (hd : decode B pc = .ok (.lcmp, 1)) (hi : pc + 1 = pi) (hd2 : decode B pi = .ok (.ifCond .le o, 3)) (hn : pi + 3 = pn) (ho : 0 ≤ (pi : Int) + o) (ht : ((pi : Int) + o).toNat = pt) (ky : ¬ y.toInt < x.toInt → W K h cl sl pt L st) (kn : y.toInt < x.toInt → W K h cl sl pn L st) : W K h cl sl pc L (.long y :: .long x :: st) := by
  subst hi
  exact W.step (fun T locs X e t q => XS.lcmp X.here O.1 rfl (hb O.2.1 hd) rfl q) (w_if_le O hd2 hn ho ht (fun q => ky fun w => q (lcb_le.mpr w)) (fun q => kn (lcb_le.mp q)))
theorem w_ifnullY (O : Ok K l Z a0 ts B ml rt own nm R n0 Q) {o : Int} (hd : decode B pc = .ok (.ifnull o, 3)) (ho : 0 ≤ (pc : Int) + o) (ht : ((pc : Int) + o).toNat = pc') (k : W K h cl sl pc' L st) : W K h cl sl pc L (.null :: st) := W.step (fun T locs X e t q => XS.ifnullYes X.here O.1 rfl rfl (hb O.2.1 hd) rfl ho ht q) k
theorem w_ifnullN (O : Ok K l Z a0 ts B ml rt own nm R n0 Q) {o : Int} {b : Addr} (hd : decode B pc = .ok (.ifnull o, 3)) (hp : pc + 3 = pc') (k : W K h cl sl pc' L st) : W K h cl sl pc L (.ref b :: st) := by
  subst hp; exact W.step (fun T locs X e t q => XS.ifnullNo X.here O.1 rfl (hb O.2.1 hd) rfl q) k
theorem w_ifnonnullY (O : Ok K l Z a0 ts B ml rt own nm R n0 Q) {o : Int} {b : Addr} (hd : decode B pc = .ok (.ifnonnull o, 3)) (ho : 0 ≤ (pc : Int) + o) (ht : ((pc : Int) + o).toNat = pc') (k : W K h cl sl pc' L st) : W K h cl sl pc L (.ref b :: st) := W.step (fun T locs X e t q => XS.ifnonnullYes X.here O.1 rfl rfl (hb O.2.1 hd) rfl ho ht q) k
theorem w_ifnonnullN (O : Ok K l Z a0 ts B ml rt own nm R n0 Q) {o : Int} (hd : decode B pc = .ok (.ifnonnull o, 3)) (hp : pc + 3 = pc') (k : W K h cl sl pc' L st) : W K h cl sl pc L (.null :: st) := by
  subst hp; exact W.step (fun T locs X e t q => XS.ifnonnullNo X.here O.1 rfl (hb O.2.1 hd) rfl q) k
theorem w_acmp_eq (O : Ok K l Z a0 ts B ml rt own nm R n0 Q) {o : Int} {x y : Value} {pt pn : Nat} (hd : decode B pc = .ok (.if_acmp .eq o, 3)) (hx' : x.isRef = true) (hy' : y.isRef = true) (hn : pc + 3 = pn) (ho : 0 ≤ (pc : Int) + o) (ht : ((pc : Int) + o).toNat = pt) (ky : x = y → W K h cl sl pt L st) (kn : ¬ x = y → W K h cl sl pn L st) : W K h cl sl pc L (y :: x :: st) := by
  by_cases q : x = y
  · exact W.step (fun T locs X e t z => Jvm.RoadKit.acmp (g := mkF K.2.1.2.1 pc L (y :: x :: st)) X O.1 rfl hx' hy' (pc0 := pc) (pc' := pt) (same := true) rfl (hb O.2.1 hd) rfl (decide_eq_true q) ho (by simp [acV, ht, hn]) z) (ky q)
  · exact W.step (fun T locs X e t z => Jvm.RoadKit.acmp (g := mkF K.2.1.2.1 pc L (y :: x :: st)) X O.1 rfl hx' hy' (pc0 := pc) (pc' := pn) (same := false) rfl (hb O.2.1 hd) rfl (decide_eq_false q) ho (by simp [acV, ht, hn]) z) (kn q)
theorem w_acmp_ne (O : Ok K l Z a0 ts B ml rt own nm R n0 Q) {o : Int} {x y : Value} {pt pn : Nat} (hd : decode B pc = .ok (.if_acmp .ne o, 3)) (hx' : x.isRef = true) (hy' : y.isRef = true) (hn : pc + 3 = pn) (ho : 0 ≤ (pc : Int) + o) (ht : ((pc : Int) + o).toNat = pt) (ky : ¬ x = y → W K h cl sl pt L st) (kn : x = y → W K h cl sl pn L st) : W K h cl sl pc L (y :: x :: st) := by
  by_cases q : x = y
  · exact W.step (fun T locs X e t z => Jvm.RoadKit.acmp (g := mkF K.2.1.2.1 pc L (y :: x :: st)) X O.1 rfl hx' hy' (pc0 := pc) (pc' := pn) (same := true) rfl (hb O.2.1 hd) rfl (decide_eq_true q) ho (by simp [acV, ht, hn]) z) (kn q)
  · exact W.step (fun T locs X e t z => Jvm.RoadKit.acmp (g := mkF K.2.1.2.1 pc L (y :: x :: st)) X O.1 rfl hx' hy' (pc0 := pc) (pc' := pt) (same := false) rfl (hb O.2.1 hd) rfl (decide_eq_false q) ho (by simp [acV, ht, hn]) z) (ky q)
theorem w_getf (O : Ok K l Z a0 ts B ml rt own nm R n0 Q) {i : Nat} {C f d : String} {a : Addr} {v : Value} (hd : decode B pc = .ok (.getfield i, 3)) (hp : pc + 3 = pc') (w : Jvm.Cond.fieldLink own i C f d ∈ ts) (F : Fld Z h a C f d v) (k : W K h cl sl pc' L (v :: st)) : W K h cl sl pc L (.ref a :: st) := by
  subst hp
  exact W.stepT (fun T locs X e => getF X O.1 O.2.2.2.2.2.2.2.1 O.2.2.2.1 (host := "") (Or.inl (O.2.2.2.2.2.2.2.2.1 _ w)) Via.refl e F (g := mkF K.2.1.2.1 pc L (.ref a :: st)) rfl rfl (hb O.2.1 hd)) k
theorem w_gets (O : Ok K l Z a0 ts B ml rt own nm R n0 Q) {i : Nat} {C f d : String} {v : Value} (hd : decode B pc = .ok (.getstatic i, 3)) (hp : pc + 3 = pc') (w : Jvm.Cond.fieldLink own i C f d ∈ ts) (F : Sta Z h C f d v) (k : W K h cl sl pc' L (v :: st)) : W K h cl sl pc L st := by
  subst hp
  exact W.stepT (fun T locs X e => getS2 X O.1 O.2.2.2.2.2.2.2.1 O.2.2.2.1 (host := "") (Or.inl (O.2.2.2.2.2.2.2.2.1 _ w)) Via.refl e F (g := mkF K.2.1.2.1 pc L st) rfl (hb O.2.1 hd)) k
theorem w_putf (O : Ok K l Z a0 ts B ml rt own nm R n0 Q) {i kk : Nat} {C f d : String} {a : Addr} {v old : Value} {ty : FieldType} (hd : decode B pc = .ok (.putfield i, 3)) (hp : pc + 3 = pc') (w : Jvm.Cond.fieldLink own i C f d ∈ ts) (wi : Jvm.Cond.instantiable C kk ∈ ts) (Ly : Jvm.Cond.lays C C f d ∈ ts ∨ (Jvm.Cond.laysFinal C C f d ∈ ts ∧ own = C ∧ nm = "<init>")) (F : Fld Z h a C f d old) (E : Exa Z h a C) (ha : n0 ≤ a) (hty : parseFieldDescriptor d = some ty) (hn : narrow ty v = v) (hf : fits ty v = true)
    (k : ∀ h', Wr h h' a (Jvm.RoadKit.slotOf Z C f d) v → W K h' cl sl pc' L st) : W K h cl sl pc L (v :: .ref a :: st) := by
  subst hp
  have hw := O.2.2.2.2.2.2.2.2.1
  exact W.stepW (fun T locs X e => putF X O.1 O.2.2.2.2.2.2.2.1 O.2.2.2.1 (host := "") (Or.inl (hw _ w)) Via.refl e F E (Ly.imp (fun q => hw _ q) fun q => ⟨hw _ q.1, q.2.1, O.2.2.2.2.1.trans q.2.2⟩) (hw _ wi) hty hn hf (g := mkF K.2.1.2.1 pc L (v :: .ref a :: st)) rfl rfl (hb O.2.1 hd)) (by rw [O.2.2.2.2.2.2.2.2.2.2.2.2.1]; exact ha) k
theorem w_new (O : Ok K l Z a0 ts B ml rt own nm R n0 Q) {i n cl' sl' : Nat} {C : String} (hd : decode B pc = .ok (.new i, 3)) (hp : pc + 3 = pc') (w1 : Jvm.Cond.classLink own i C ∈ ts) (w2 : Jvm.Cond.instantiable C n ∈ ts) (w3 : Jvm.Cond.initialized C ∈ ts) (hc : cl + 1 = cl') (hs : sl + n = sl') (hc' : cl' ≤ R.cells) (hs' : sl' ≤ R.slots)
    (k : ∀ h' b, b = h.size → n0 ≤ b → Ext h h' → Exa Z h' b C → (∀ {Ow nf d : String} {ty : FieldType}, Laid Z a0 C Ow nf d → parseFieldDescriptor d = some ty → Fld Z h' b Ow nf d (defaultValue ty)) → W K h' cl' sl' pc' L (.ref b :: st)) : W K h cl sl pc L st := by
  obtain ⟨⟨p, l', e', R'⟩, ⟨s, m, args, below⟩, ⟨meth, c⟩, Q', n0'⟩ := K
  obtain ⟨hx, hby, hml, hown, hnm, hrt, hlk, hZ, hw, hn0, hl', hR', hn', hQ'⟩ := O
  dsimp only at hx hby hml hown hnm hrt hlk hZ hn0 hl' hR' hn' hQ'
  subst hl' hR' hn' hQ'
  subst hp hc hs
  intro T locs X eT N
  obtain ⟨T2, h2, X2, e2, E2, A2, D2, -, st2⟩ := newO X hx hZ hown (hw _ w1) (hw _ w2) (hw _ w3) eT (g := mkF m pc L st) rfl (hb hby hd) hc' hs'
  obtain ⟨s2, o, h1, r⟩ := k h2 h.size rfl (Nat.le_trans hn0 (by rw [← eT]; exact X.same.2.1)) E2 A2 D2 T2 _ X2 e2 N
  exact ⟨s2, o, st2 _ h1, r⟩
theorem w_objinit (O : Ok K l Z a0 ts B ml rt own nm R n0 Q) {i wt : Nat} {a : Addr} (hd : decode B pc = .ok (.invokespecial i, 3)) (hp : pc + 3 = pc') (w1 : Jvm.Cond.methodLink own i Lib.objectInit ∈ ts) (w2 : Jvm.Cond.instanceMethod Lib.objectInit ∈ ts) (w3 : Jvm.Cond.code Lib.objectInit ⟨#[0xb1]⟩ 1 none ∈ ts) (hsz : L.size = ml) (hwt : (st.map fun v => v.category).sum = wt) (hf : 1 ≤ R.frames) (hl : wt + 12 ≤ R.locals) (k : W K h cl sl pc' L st) : W K h cl sl pc L (.ref a :: st) := by
  obtain ⟨⟨p, l', e', R'⟩, ⟨s, m, args, below⟩, ⟨meth, c⟩, Q', n0'⟩ := K
  obtain ⟨hx, hby, hml, hown, hnm, hrt, hlk, hZ, hw, hn0, hl', hR', hn', hQ'⟩ := O
  dsimp only at hx hby hml hown hnm hrt hlk hZ hn0 hl' hR' hn' hQ'
  subst hl' hR' hn' hQ'
  subst hp hml
  exact W.stepT (fun T locs X e => initO X hx hZ hown (hw _ w1) (hw _ w2) (hw _ w3) e (g := mkF m pc L (.ref a :: st)) rfl hsz rfl (hb hby hd) hf (W := wt) (by show 2 * 0 + _ ≤ _; omega) hl) k
/-- an array of n places, the i-th holds f i -/
def Afn (Z : State) (h : Heap) (a : Addr) (ty : FieldType) (n : Nat) (f : Nat → Value) : Prop := ∃ c : Cell, Arr Z h a c ty ∧ c.slots.size = n ∧ n < 2147483648 ∧ ∀ i, i < n → c.slots[i]? = some (f i)
def upd (f : Nat → Value) (i : Nat) (v : Value) : Nat → Value := fun j => if j = i then v else f j
theorem Afn.lt {a : Addr} {ty : FieldType} {n : Nat} {f : Nat → Value} (A : Afn Z h a ty n f) : a < h.size := by obtain ⟨c, A, -⟩ := A; exact A.lt
theorem Afn.bound {a : Addr} {ty : FieldType} {n : Nat} {f : Nat → Value} (A : Afn Z h a ty n f) : n < 2147483648 := by obtain ⟨c, -, -, q, -⟩ := A; exact q
theorem upd_same (f : Nat → Value) (i : Nat) (v : Value) : upd f i v i = v := if_pos rfl
theorem upd_ne (f : Nat → Value) {i j : Nat} (v : Value) (q : ¬ j = i) : upd f i v j = f j := if_neg q
theorem Afn.ext {h' : Heap} {a : Addr} {ty : FieldType} {n : Nat} {f : Nat → Value} (A : Afn Z h a ty n f) (E : Ext h h') : Afn Z h' a ty n f := by obtain ⟨c, A, r⟩ := A; exact ⟨c, A.ext E, r⟩
theorem Afn.other {h' : Heap} {a b : Addr} {i : Nat} {v : Value} {ty : FieldType} {n : Nat} {f : Nat → Value} (A : Afn Z h b ty n f) (Wq : Wr h h' a i v) (q : b ≠ a) : Afn Z h' b ty n f := by obtain ⟨c, A, r⟩ := A; exact ⟨c, A.other Wq q, r⟩
theorem Afn.keep {h' : Heap} {a : Addr} {ws : List Addr} {ty : FieldType} {n : Nat} {f : Nat → Value} (A : Afn Z h a ty n f) (Kp : Keep h h' ws) (q : a ∉ ws) : Afn Z h' a ty n f := by obtain ⟨c, A, r⟩ := A; exact ⟨c, ⟨Kp.2.1 a c A.1 q, A.2⟩, r⟩
theorem Afn.congr {a : Addr} {ty : FieldType} {n : Nat} {f g : Nat → Value} (A : Afn Z h a ty n f) (q : ∀ i, i < n → f i = g i) : Afn Z h a ty n g := by obtain ⟨c, A, h1, h2, h3⟩ := A; exact ⟨c, A, h1, h2, fun i hi => by rw [← q i hi]; exact h3 i hi⟩
theorem Afn.set {h' : Heap} {a : Addr} {i : Nat} {v : Value} {ty : FieldType} {n : Nat} {f : Nat → Value} (A : Afn Z h a ty n f) (Wq : Wr h h' a i v) : Afn Z h' a ty n (upd f i v) := by
  obtain ⟨c, A, h1, h2, h3⟩ := A
  refine ⟨_, A.same Wq, by simp [Cell.setSlot, h1], h2, fun j hj => ?_⟩
  by_cases q : j = i
  · subst q
    simp [Cell.setSlot, upd, h1, hj]
  · simp only [upd, if_neg q]
    show (c.slots.setIfInBounds i v)[j]? = _
    rw [Array.getElem?_setIfInBounds_ne (fun z => q z.symm)]; exact h3 j hj
theorem tnc {j : Int32} {i : Nat} (hj : j.toInt = (i : Int)) : j.toNatClampNeg = i ∧ ¬ j < 0 := by
  have e0 : (0 : Int32).toInt = 0 := by decide
  have q : ¬ j < 0 := by rw [Int32.lt_iff_toInt_lt, e0]; omega
  have := nat_of q
  exact ⟨by omega, q⟩
theorem idxOk {c : Cell} {n : Nat} {j : Int32} {i : Nat} (hs : c.slots.size = n) (hj : j.toInt = (i : Int)) (hi : i < n) : ¬ (j < 0 ∨ c.slots.size ≤ j.toNatClampNeg) := by
  obtain ⟨q1, q2⟩ := tnc hj
  rintro (z | z)
  · exact q2 z
  · omega

theorem w_iaload (O : Ok K l Z a0 ts B ml rt own nm R n0 Q) {a : Addr} {n i : Nat} {f : Nat → Value} {j : Int32} {x : Int32} (hd : decode B pc = .ok (.iaload, 1)) (hp : pc + 1 = pc') (A : Afn Z h a .int n f) (hj : j.toInt = (i : Int)) (hi : i < n) (hv : f i = .int x) (k : W K h cl sl pc' L (.int x :: st)) : W K h cl sl pc L (.int j :: .ref a :: st) := by
  subst hp
  obtain ⟨c, A, h1, h2, h3⟩ := A
  refine W.step (fun T locs X e t q => X.iaload O.1 (j := j) (v := .int x) (by rw [e]; exact A.1) (State.isArrayOf_alike O.2.2.2.2.2.2.2.1.alike A.2.1) A.2.2 (idxOk h1 hj hi) (by rw [(tnc hj).1, h3 i hi, hv]) (g := mkF K.2.1.2.1 pc L (.int j :: .ref a :: st)) rfl rfl (hb O.2.1 hd) _ q) k
theorem w_laload (O : Ok K l Z a0 ts B ml rt own nm R n0 Q) {a : Addr} {n i : Nat} {f : Nat → Value} {j : Int32} {x : Int64} (hd : decode B pc = .ok (.laload, 1)) (hp : pc + 1 = pc') (A : Afn Z h a .long n f) (hj : j.toInt = (i : Int)) (hi : i < n) (hv : f i = .long x) (k : W K h cl sl pc' L (.long x :: st)) : W K h cl sl pc L (.int j :: .ref a :: st) := by
  subst hp
  obtain ⟨c, A, h1, h2, h3⟩ := A
  refine W.step (fun T locs X e t q => X.laload O.1 (j := j) (v := .long x) (by rw [e]; exact A.1) (State.isArrayOf_alike O.2.2.2.2.2.2.2.1.alike A.2.1) A.2.2 (idxOk h1 hj hi) (by rw [(tnc hj).1, h3 i hi, hv]) (g := mkF K.2.1.2.1 pc L (.int j :: .ref a :: st)) rfl rfl (hb O.2.1 hd) _ q) k
theorem w_baload (O : Ok K l Z a0 ts B ml rt own nm R n0 Q) {a : Addr} {n i : Nat} {f : Nat → Value} {j : Int32} {x : Int32} (hd : decode B pc = .ok (.baload, 1)) (hp : pc + 1 = pc') (A : Afn Z h a .byte n f) (hj : j.toInt = (i : Int)) (hi : i < n) (hv : f i = .int x) (k : W K h cl sl pc' L (.int x :: st)) : W K h cl sl pc L (.int j :: .ref a :: st) := by
  subst hp
  obtain ⟨c, A, h1, h2, h3⟩ := A
  refine W.step (fun T locs X e t q => X.baloadBytes O.1 (j := j) (v := .int x) (by rw [e]; exact A.1) (State.isArrayOf_alike O.2.2.2.2.2.2.2.1.alike A.2.1) A.2.2 (idxOk h1 hj hi) (by rw [(tnc hj).1, h3 i hi, hv]) (g := mkF K.2.1.2.1 pc L (.int j :: .ref a :: st)) rfl rfl (hb O.2.1 hd) _ q) k
theorem w_caload (O : Ok K l Z a0 ts B ml rt own nm R n0 Q) {a : Addr} {n i : Nat} {f : Nat → Value} {j : Int32} {x : Int32} (hd : decode B pc = .ok (.caload, 1)) (hp : pc + 1 = pc') (A : Afn Z h a .char n f) (hj : j.toInt = (i : Int)) (hi : i < n) (hv : f i = .int x) (k : W K h cl sl pc' L (.int x :: st)) : W K h cl sl pc L (.int j :: .ref a :: st) := by
  subst hp
  obtain ⟨c, A, h1, h2, h3⟩ := A
  refine W.step (fun T locs X e t q => X.caload O.1 (j := j) (v := .int x) (by rw [e]; exact A.1) (State.isArrayOf_alike O.2.2.2.2.2.2.2.1.alike A.2.1) A.2.2 (idxOk h1 hj hi) (by rw [(tnc hj).1, h3 i hi, hv]) (g := mkF K.2.1.2.1 pc L (.int j :: .ref a :: st)) rfl rfl (hb O.2.1 hd) _ q) k
theorem w_aaload (O : Ok K l Z a0 ts B ml rt own nm R n0 Q) {a : Addr} {n i : Nat} {f : Nat → Value} {j : Int32} {x : Value} {ty : FieldType} (hd : decode B pc = .ok (.aaload, 1)) (hp : pc + 1 = pc') (A : Afn Z h a ty n f) (hty : ty.isReference = true) (hj : j.toInt = (i : Int)) (hi : i < n) (hv : f i = x) (k : W K h cl sl pc' L (x :: st)) : W K h cl sl pc L (.int j :: .ref a :: st) := by
  subst hp
  obtain ⟨c, A, h1, h2, h3⟩ := A
  refine W.step (fun T locs X e t q => X.aaload O.1 (j := j) (v := x) (by rw [e]; exact A.1) (State.isArrayOf_alike O.2.2.2.2.2.2.2.1.alike A.2.1) hty A.2.2 (idxOk h1 hj hi) (by rw [(tnc hj).1, h3 i hi, hv]) (g := mkF K.2.1.2.1 pc L (.int j :: .ref a :: st)) rfl rfl (hb O.2.1 hd) _ q) k
theorem w_iastore (O : Ok K l Z a0 ts B ml rt own nm R n0 Q) {a : Addr} {n i : Nat} {f : Nat → Value} {j : Int32} {x : Int32} (hd : decode B pc = .ok (.iastore, 1)) (hp : pc + 1 = pc') (A : Afn Z h a .int n f) (hj : j.toInt = (i : Int)) (hi : i < n) (ha : n0 ≤ a) (k : ∀ h', Wr h h' a i (.int x) → W K h' cl sl pc' L st) : W K h cl sl pc L (.int x :: .int j :: .ref a :: st) := by
  subst hp
  obtain ⟨c, A, h1, h2, h3⟩ := A
  rw [← (tnc hj).1] at k
  exact W.stepW (fun T locs X e => stI X O.1 O.2.2.2.2.2.2.2.1 e A (j := j) (idxOk h1 hj hi) (g := mkF K.2.1.2.1 pc L (.int x :: .int j :: .ref a :: st)) rfl rfl (hb O.2.1 hd)) (by rw [O.2.2.2.2.2.2.2.2.2.2.2.2.1]; exact ha) k
theorem w_lastore (O : Ok K l Z a0 ts B ml rt own nm R n0 Q) {a : Addr} {n i : Nat} {f : Nat → Value} {j : Int32} {x : Int64} (hd : decode B pc = .ok (.lastore, 1)) (hp : pc + 1 = pc') (A : Afn Z h a .long n f) (hj : j.toInt = (i : Int)) (hi : i < n) (ha : n0 ≤ a) (k : ∀ h', Wr h h' a i (.long x) → W K h' cl sl pc' L st) : W K h cl sl pc L (.long x :: .int j :: .ref a :: st) := by
  subst hp
  obtain ⟨c, A, h1, h2, h3⟩ := A
  rw [← (tnc hj).1] at k
  exact W.stepW (fun T locs X e => stJ X O.1 O.2.2.2.2.2.2.2.1 e A (j := j) (idxOk h1 hj hi) (g := mkF K.2.1.2.1 pc L (.long x :: .int j :: .ref a :: st)) rfl rfl (hb O.2.1 hd)) (by rw [O.2.2.2.2.2.2.2.2.2.2.2.2.1]; exact ha) k
theorem w_bastore (O : Ok K l Z a0 ts B ml rt own nm R n0 Q) {a : Addr} {n i : Nat} {f : Nat → Value} {j : Int32} {x : Int32} (hd : decode B pc = .ok (.bastore, 1)) (hp : pc + 1 = pc') (A : Afn Z h a .byte n f) (hj : j.toInt = (i : Int)) (hi : i < n) (ha : n0 ≤ a) (k : ∀ h', Wr h h' a i (.int (nar .byte x)) → W K h' cl sl pc' L st) : W K h cl sl pc L (.int x :: .int j :: .ref a :: st) := by
  subst hp
  obtain ⟨c, A, h1, h2, h3⟩ := A
  rw [← (tnc hj).1] at k
  exact W.stepW (fun T locs X e => stB X O.1 O.2.2.2.2.2.2.2.1 e A (j := j) (idxOk h1 hj hi) (g := mkF K.2.1.2.1 pc L (.int x :: .int j :: .ref a :: st)) rfl rfl (hb O.2.1 hd)) (by rw [O.2.2.2.2.2.2.2.2.2.2.2.2.1]; exact ha) k
theorem w_castore (O : Ok K l Z a0 ts B ml rt own nm R n0 Q) {a : Addr} {n i : Nat} {f : Nat → Value} {j : Int32} {x : Int32} (hd : decode B pc = .ok (.castore, 1)) (hp : pc + 1 = pc') (A : Afn Z h a .char n f) (hj : j.toInt = (i : Int)) (hi : i < n) (ha : n0 ≤ a) (k : ∀ h', Wr h h' a i (.int (nar .char x)) → W K h' cl sl pc' L st) : W K h cl sl pc L (.int x :: .int j :: .ref a :: st) := by
  subst hp
  obtain ⟨c, A, h1, h2, h3⟩ := A
  rw [← (tnc hj).1] at k
  exact W.stepW (fun T locs X e => stC X O.1 O.2.2.2.2.2.2.2.1 e A (j := j) (idxOk h1 hj hi) (g := mkF K.2.1.2.1 pc L (.int x :: .int j :: .ref a :: st)) rfl rfl (hb O.2.1 hd)) (by rw [O.2.2.2.2.2.2.2.2.2.2.2.2.1]; exact ha) k
theorem w_alen (O : Ok K l Z a0 ts B ml rt own nm R n0 Q) {a : Addr} {n : Nat} {f : Nat → Value} {z : Int32} {ty : FieldType} (hd : decode B pc = .ok (.arraylength, 1)) (hp : pc + 1 = pc') (A : Afn Z h a ty n f) (hz : z.toInt = (n : Int)) (k : W K h cl sl pc' L (.int z :: st)) : W K h cl sl pc L (.ref a :: st) := by
  subst hp
  obtain ⟨c, A, h1, h2, h3⟩ := A
  have ez : c.slots.size.toInt32 = z := by
    have := (back32 (tnc hz).2).1
    rw [(tnc hz).1, ← h1] at this; exact this
  refine W.step (fun T locs X e t q => X.arraylength O.1 (by rw [e]; exact A.1) (State.isArrayOf_alike O.2.2.2.2.2.2.2.1.alike A.2.1) (g := mkF K.2.1.2.1 pc L (.ref a :: st)) rfl rfl (hb O.2.1 hd) _ (by rw [ez]; exact q)) k
theorem w_newarr (O : Ok K l Z a0 ts B ml rt own nm R n0 Q) {aty : ArrayType} {ty : FieldType} {dv : Value} {z : Int32} {n cap cl' sl' : Nat} (hd : decode B pc = .ok (.newarray aty, 2)) (hp : pc + 2 = pc') (hty : newarray.typeOf aty = ty) (hdv : defaultValue ty = dv) (w : Jvm.Cond.arrayClass ty ∈ ts) (hz : z.toInt = (n : Int)) (hcap : n ≤ cap) (hb8 : cap * 8 ≤ 536870912) (hc : cl + 1 = cl') (hs : sl + cap = sl') (hc' : cl' ≤ R.cells) (hs' : sl' ≤ R.slots)
    (k : ∀ h' b, b = h.size → n0 ≤ b → Ext h h' → Afn Z h' b ty n (fun _ => dv) → W K h' cl' sl' pc' L (.ref b :: st)) : W K h cl sl pc L (.int z :: st) := by
  obtain ⟨⟨p, l', e', R'⟩, ⟨s, m, args, below⟩, ⟨meth, c⟩, Q', n0'⟩ := K
  obtain ⟨hx, hby, hml, hown, hnm, hrt, hlk, hZ, hw, hn0, hl', hR', hn', hQ'⟩ := O
  dsimp only at hx hby hml hown hnm hrt hlk hZ hn0 hl' hR' hn' hQ'
  subst hl' hR' hn' hQ'
  subst hp hc hs hty hdv
  intro T locs X eT N
  obtain ⟨T2, h2, kA, X2, e2, E2, A2, st2⟩ := newP X hx hZ (hw _ w) eT (g := mkF m pc L (.int z :: st)) rfl (hb hby hd) rfl (tnc hz).2 (cap := cap) (by rw [(tnc hz).1]; exact hcap) hb8 hc' hs'
  have hsz : (newA kA (newarray.typeOf aty) z).slots.size = n := by rw [sz_new, (tnc hz).1]
  have hr := (rng32 z).2
  obtain ⟨s2, o, h1, r⟩ := k h2 h.size rfl (Nat.le_trans hn0 (by rw [← eT]; exact X.same.2.1)) E2 ⟨_, A2, hsz, by omega, fun i hi => by show (Array.replicate z.toNatClampNeg (defaultValue (newarray.typeOf aty)))[i]? = _; rw [Array.getElem?_replicate, if_pos (by rw [(tnc hz).1]; exact hi)]⟩ T2 _ X2 e2 N
  exact ⟨s2, o, st2 _ h1, r⟩
theorem w_newarrE (O : Ok K l Z a0 ts B ml rt own nm R n0 Q) {aty : ArrayType} {ty : FieldType} {ad : String} {dv : Value} {z : Int32} {n cap cl' sl' : Nat} (hd : decode B pc = .ok (.newarray aty, 2)) (hp : pc + 2 = pc') (hty : newarray.typeOf aty = ty) (hdv : defaultValue ty = dv) (had : "[" ++ (newarray.typeOf aty).toString = ad) (w : Jvm.Cond.arrayClass ty ∈ ts) (hz : z.toInt = (n : Int)) (hcap : n ≤ cap) (hb8 : cap * 8 ≤ 536870912) (hc : cl + 1 = cl') (hs : sl + cap = sl') (hc' : cl' ≤ R.cells) (hs' : sl' ≤ R.slots)
    (k : ∀ h' b, b = h.size → n0 ≤ b → Ext h h' → Afn Z h' b ty n (fun _ => dv) → Exa Z h' b ad → W K h' cl' sl' pc' L (.ref b :: st)) : W K h cl sl pc L (.int z :: st) := by
  obtain ⟨⟨p, l', e', R'⟩, ⟨s, m, args, below⟩, ⟨meth, c⟩, Q', n0'⟩ := K
  obtain ⟨hx, hby, hml, hown, hnm, hrt, hlk, hZ, hw, hn0, hl', hR', hn', hQ'⟩ := O
  dsimp only at hx hby hml hown hnm hrt hlk hZ hn0 hl' hR' hn' hQ'
  subst hl' hR' hn' hQ'
  subst hp hc hs hty hdv
  intro T locs X eT N
  obtain ⟨T2, h2, kA, X2, e2, E2, A2, Ex2, st2⟩ := newPE X hx hZ (hw _ w) eT (g := mkF m pc L (.int z :: st)) rfl (hb hby hd) rfl (tnc hz).2 (cap := cap) (by rw [(tnc hz).1]; exact hcap) hb8 hc' hs' had
  have hsz : (newA kA (newarray.typeOf aty) z).slots.size = n := by rw [sz_new, (tnc hz).1]
  have hr := (rng32 z).2
  obtain ⟨s2, o, h1, r⟩ := k h2 h.size rfl (Nat.le_trans hn0 (by rw [← eT]; exact X.same.2.1)) E2 ⟨_, A2, hsz, by omega, fun i hi => by show (Array.replicate z.toNatClampNeg (defaultValue (newarray.typeOf aty)))[i]? = _; rw [Array.getElem?_replicate, if_pos (by rw [(tnc hz).1]; exact hi)]⟩ Ex2 T2 _ X2 e2 N
  exact ⟨s2, o, st2 _ h1, r⟩
theorem w_clone (O : Ok K l Z a0 ts B ml rt own nm R n0 Q) {i wt n cap cl' sl' : Nat} {ad : String} {a : Addr} {ty : FieldType} {f : Nat → Value} (hd : decode B pc = .ok (.invokevirtual i, 3)) (hp : pc + 3 = pc') (w1 : Jvm.Cond.methodLink own i ⟨ad, "clone", "()Ljava/lang/Object;"⟩ ∈ ts) (w2 : Jvm.Cond.sameMethod ad "java/lang/Object" "clone" "()Ljava/lang/Object;" ∈ ts) (w3 : Jvm.Cond.native ⟨"java/lang/Object", "clone", "()Ljava/lang/Object;"⟩ ∈ ts) (w4 : Jvm.Cond.instanceMethod ⟨"java/lang/Object", "clone", "()Ljava/lang/Object;"⟩ ∈ ts) (w5 : Jvm.Cond.selects ad ⟨ad, "clone", "()Ljava/lang/Object;"⟩ ⟨"java/lang/Object", "clone", "()Ljava/lang/Object;"⟩ ∈ ts) (w6 : Jvm.Cond.castable ad "java/lang/Cloneable" ∈ ts)
    (A : Afn Z h a ty n f) (E : Exa Z h a ad) (hfit : ∀ i, i < n → fits ty (f i) = true) (hsz : L.size = ml) (hwt : (st.map fun v => v.category).sum = wt) (hf : 1 ≤ R.frames) (hl : wt + 14 ≤ R.locals) (hcap : n ≤ cap) (hc : cl + 1 = cl') (hs : sl + cap = sl') (hc' : cl' ≤ R.cells) (hs' : sl' ≤ R.slots)
    (k : ∀ h' b, b = h.size → n0 ≤ b → Ext h h' → Afn Z h' b ty n f → Exa Z h' b ad → W K h' cl' sl' pc' L (.ref b :: st)) : W K h cl sl pc L (.ref a :: st) := by
  obtain ⟨⟨p, l', e', R'⟩, ⟨s, m, args, below⟩, ⟨meth, c⟩, Q', n0'⟩ := K
  obtain ⟨hx, hby, hml, hown, hnm, hrt, hlk, hZ, hw, hn0, hl', hR', hn', hQ'⟩ := O
  dsimp only at hx hby hml hown hnm hrt hlk hZ hn0 hl' hR' hn' hQ'
  subst hl' hR' hn' hQ'
  subst hp hc hs hml
  intro T locs X eT N
  obtain ⟨cx, A1, h1, h2, h3⟩ := A
  have FC : FitC Z cx := fitC_of A1 fun i hi v hv => by rw [h1] at hi; rw [h3 i hi] at hv; cases hv; exact hfit i hi
  obtain ⟨T2, h4, X2, e2, E2, A2, Ex2, st2⟩ := cloneA X hx hZ hown (hw _ w1) (hw _ w2) (hw _ w3) (hw _ w4) (hw _ w5) (hw _ w6) eT A1 E FC (g := mkF m pc L (.ref a :: st)) rfl hsz rfl (hb hby hd) hf (W := wt) (cap := cap) (by show 2 * 0 + _ ≤ _; omega) hl (by rw [h1]; exact hcap) hc' hs'
  obtain ⟨s2, o, g1, r⟩ := k h4 h.size rfl (Nat.le_trans hn0 (by rw [← eT]; exact X.same.2.1)) E2 ⟨_, A2, h1, h2, h3⟩ Ex2 T2 _ X2 e2 N
  exact ⟨s2, o, st2 _ g1, r⟩
theorem w_cast (O : Ok K l Z a0 ts B ml rt own nm R n0 Q) {i : Nat} {C : String} {a : Addr} (hd : decode B pc = .ok (.checkcast i, 3)) (hp : pc + 3 = pc') (w : Jvm.Cond.classLink own i C ∈ ts) (I : Ins Z h a C true) (k : W K h cl sl pc' L (.ref a :: st)) : W K h cl sl pc L (.ref a :: st) := by
  subst hp
  exact W.stepT (fun T locs X e => castY X O.1 O.2.2.2.2.2.2.2.1 O.2.2.2.1 (O.2.2.2.2.2.2.2.2.1 _ w) e I (g := mkF K.2.1.2.1 pc L (.ref a :: st)) rfl rfl (hb O.2.1 hd)) k
/-- the array at a takes every C -/
def Tk (Z : State) (h : Heap) (a : Addr) (C : String) : Prop := ∃ (c : Cell) (k : Class) (comp : ClassId) (t : FieldType), h[a]? = some c ∧ Z.vm.classes[c.cls]? = some k ∧ k.kind = .array comp t ∧ Z.vm.findClass C = some comp
theorem Tk.lt {a : Addr} {C : String} (F : Tk Z h a C) : a < h.size := by obtain ⟨_, _, _, _, h1, -⟩ := F; exact (Array.getElem?_eq_some_iff.mp h1).1
theorem Tk.ext {h' : Heap} {a : Addr} {C : String} (F : Tk Z h a C) (E : Ext h h') : Tk Z h' a C := by obtain ⟨c, k, cp, t, h1, r⟩ := F; exact ⟨c, k, cp, t, E.2 _ _ h1, r⟩
theorem Tk.wr {h' : Heap} {a b : Addr} {C : String} {i : Nat} {v : Value} (F : Tk Z h a C) (Wq : Wr h h' b i v) : Tk Z h' a C := by
  obtain ⟨c, k, cp, t, h1, h2, r⟩ := F
  obtain ⟨d1, a1, a2, -⟩ := wr_at Wq h1
  exact ⟨d1, k, cp, t, a1, by rw [a2]; exact h2, r⟩
theorem Tk.keep {h' : Heap} {a : Addr} {C : String} {ws : List Addr} (F : Tk Z h a C) (Kp : Keep h h' ws) : Tk Z h' a C := by
  obtain ⟨c, k, cp, t, h1, h2, r⟩ := F
  obtain ⟨d1, a1, a2, -⟩ := Kp.2.2 a c h1
  exact ⟨d1, k, cp, t, a1, by rw [a2]; exact h2, r⟩
theorem Tk.sto {a y : Addr} {C : String} (F : Tk Z h a C) (I : Ins Z h y C true) : Sto Z h a (.ref y) := by
  obtain ⟨cl, k, comp, t, o0, o1, o2, o3⟩ := F
  obtain ⟨cv, cT, i1, i2, i3⟩ := I
  cases o3.symm.trans i2
  simp only [Bool.and_eq_true, Bool.not_eq_true'] at i3
  obtain ⟨kc, q⟩ := Vm.classAt_of_findClass o3
  obtain ⟨kv, q2⟩ := Vm.classAt_of_assignable i3.2 ⟨kc, q⟩
  exact Or.inr ⟨cl, cv, k, kv, kc, _, _, y, o0, o1, o2, q, rfl, i1, i3.1, q2, i3.2⟩
theorem w_anewarrA (O : Ok K l Z a0 ts B ml rt own nm R n0 Q) {i : Nat} {C ad : String} {ty : FieldType} {z : Int32} {n cap cl' sl' : Nat} (hd : decode B pc = .ok (.anewarray i, 3)) (hp : pc + 3 = pc') (hC : (FieldType.array ty).toString = C) (had : "[" ++ C = ad) (w1 : Jvm.Cond.classLink own i C ∈ ts) (w2 : Jvm.Cond.arrayOver (.array ty) ∈ ts) (hz : z.toInt = (n : Int)) (hcap : n ≤ cap) (hb8 : cap * 8 ≤ 536870912) (hc : cl + 1 = cl') (hs : sl + cap = sl') (hc' : cl' ≤ R.cells) (hs' : sl' ≤ R.slots)
    (k : ∀ h' b, b = h.size → n0 ≤ b → Ext h h' → Afn Z h' b (.array ty) n (fun _ => .null) → Exa Z h' b ad → Tk Z h' b C → W K h' cl' sl' pc' L (.ref b :: st)) : W K h cl sl pc L (.int z :: st) := by
  obtain ⟨⟨p, l', e', R'⟩, ⟨s, m, args, below⟩, ⟨meth, c⟩, Q', n0'⟩ := K
  obtain ⟨hx, hby, hml, hown, hnm, hrt, hlk, hZ, hw, hn0, hl', hR', hn', hQ'⟩ := O
  dsimp only at hx hby hml hown hnm hrt hlk hZ hn0 hl' hR' hn' hQ'
  subst hl' hR' hn' hQ'
  subst hp hc hs
  intro T locs X eT N
  obtain ⟨T2, h2, kA, X2, e2, E2, A2, Ex2, Ov2, st2⟩ := newRA X hx hZ hown hC (hw _ w1) (hw _ w2) eT (g := mkF m pc L (.int z :: st)) rfl (hb hby hd) rfl (tnc hz).2 (cap := cap) (by rw [(tnc hz).1]; exact hcap) hb8 hc' hs' had
  have hsz : (newA kA (.array ty) z).slots.size = n := by rw [sz_new, (tnc hz).1]
  have hr := (rng32 z).2
  obtain ⟨ko, cpo, o1, o2, o3⟩ := Ov2
  obtain ⟨s2, o, h1, r⟩ := k h2 h.size rfl (Nat.le_trans hn0 (by rw [← eT]; exact X.same.2.1)) E2 ⟨_, A2, hsz, by omega, fun i hi => by show (Array.replicate z.toNatClampNeg (defaultValue (.array ty)))[i]? = _; rw [Array.getElem?_replicate, if_pos (by rw [(tnc hz).1]; exact hi)]; rfl⟩ Ex2 ⟨_, ko, cpo, _, A2.1, o1, o2, o3⟩ T2 _ X2 e2 N
  exact ⟨s2, o, st2 _ h1, r⟩
theorem w_aastore (O : Ok K l Z a0 ts B ml rt own nm R n0 Q) {a : Addr} {n i : Nat} {f : Nat → Value} {j : Int32} {x : Value} {ty : FieldType} (hd : decode B pc = .ok (.aastore, 1)) (hp : pc + 1 = pc') (A : Afn Z h a ty n f) (hty : ty.isReference = true) (hj : j.toInt = (i : Int)) (hi : i < n) (ha : n0 ≤ a) (St : Sto Z h a x) (k : ∀ h', Wr h h' a i x → W K h' cl sl pc' L st) : W K h cl sl pc L (x :: .int j :: .ref a :: st) := by
  subst hp
  obtain ⟨c, A, h1, h2, h3⟩ := A
  rw [← (tnc hj).1] at k
  exact W.stepW (fun T locs X e => stR X O.1 O.2.2.2.2.2.2.2.1 e A (j := j) (idxOk h1 hj hi) hty St (g := mkF K.2.1.2.1 pc L (x :: .int j :: .ref a :: st)) rfl rfl (hb O.2.1 hd)) (by rw [O.2.2.2.2.2.2.2.2.2.2.2.2.1]; exact ha) k
theorem w_static (O : Ok K l Z a0 ts B ml rt own nm R n0 Q) {i ml' wt cl' sl' : Nat} {y : MethodName} {B' : ByteArray} {rt' : Option FieldType} {rm : Room} {as S : List Value} {Qc : Option Value → Heap → Prop} {sg : MethodDescriptor} (hd : decode B pc = .ok (.invokestatic i, 3)) (hp : pc + 3 = pc') (w1 : Jvm.Cond.methodLink own i y ∈ ts) (w2 : Jvm.Cond.static y ∈ ts) (w3 : Jvm.Cond.initialized y.cls ∈ ts) (w4 : Jvm.Cond.code y B' ml' rt' ∈ ts) (hy : y.cls ≠ "java/lang/invoke/MethodHandle" ∧ y.cls ≠ "java/lang/invoke/VarHandle")
    (con : Con l Z y B' ml' rt' rm as h n0 Qc) (hS : S = as.reverse ++ st) (hsg : parseMethodDescriptor y.desc = some sg) (hlen : as.length = sg.parameters.length) (hwt : (st.map fun v => v.category).sum = wt) (hsz : L.size = ml) (hf : rm.frames + 1 ≤ R.frames) (hl : wt + (ml' + 11) + rm.locals ≤ R.locals) (hc : cl + rm.cells = cl') (hs : sl + rm.slots = sl') (hc' : cl' ≤ R.cells) (hs' : sl' ≤ R.slots) (k : ∀ v h', Qc v h' → W K h' cl' sl' pc' L (v.toList ++ st)) : W K h cl sl pc L S := by
  obtain ⟨⟨p, l', e', R'⟩, ⟨s, m, args, below⟩, ⟨meth, c⟩, Q', n0'⟩ := K
  obtain ⟨hx, hby, hml, hown, hnm, hrt, hlk, hZ, hw, hn0, hl', hR', hn', hQ'⟩ := O
  dsimp only at hx hby hml hown hnm hrt hlk hZ hn0 hl' hR' hn' hQ'
  subst hl' hR' hn' hQ'
  subst hp hc hs hS hml
  intro T locs X eT N
  have hn1 : n0' ≤ h.size := Nat.le_trans hn0 (by rw [← eT]; exact X.same.2.1)
  obtain ⟨_, _, ⟨T', L', k', n'⟩, -, X', ⟨Lc, ⟨hQ, hFr⟩, l1, y1, z1⟩, st1⟩ := Jvm.LawKit.callS X hx (y := y) hown (mvT hZ (hw _ w1)) (mvT hZ (hw _ w2)) (mvT hZ (hw _ w3)) (mvT hZ (hw _ w4)) hy (backOf (W := wt) (Q := fun v h L => Qc v h ∧ Fr n0' L) (con hn1 []) hZ (hw _ w4) (hw _ w3) hf hl) (g := mkF m pc L (as.reverse ++ st)) rfl hsz (argsL := as) (rest := st) (lenOf hsg hlen) rfl (by show 2 * 0 + _ ≤ _; omega) (hb hby hd) (fun _ _ => ⟨rfl, eT, hc', hs'⟩)
  dsimp only [Pt.U, Pt.locs, Pt.cells, Pt.slots] at X' l1 y1 z1 st1 hQ
  subst l1 y1 z1
  obtain ⟨s2, o, h1, r⟩ := k _ T'.heap hQ T' _ X' rfl (Fr.app N hFr)
  exact ⟨s2, o, st1 _ h1, r⟩
theorem w_virtual (O : Ok K l Z a0 ts B ml rt own nm R n0 Q) {i ml' wt cl' sl' : Nat} {y : MethodName} {B' : ByteArray} {rt' : Option FieldType} {rm : Room} {as S : List Value} {Qc : Option Value → Heap → Prop} {sg : MethodDescriptor} {a : Addr} {C : String} (hd : decode B pc = .ok (.invokevirtual i, 3)) (hp : pc + 3 = pc') (w1 : Jvm.Cond.methodLink own i y ∈ ts) (w2 : Jvm.Cond.declares y ∈ ts) (w3 : Jvm.Cond.selects C y y ∈ ts) (w4 : Jvm.Cond.instanceMethod y ∈ ts) (w5 : Jvm.Cond.code y B' ml' rt' ∈ ts) (w6 : Jvm.Cond.initialized y.cls ∈ ts) (hy : y.cls ≠ "java/lang/invoke/MethodHandle" ∧ y.cls ≠ "java/lang/invoke/VarHandle") (E : Exa Z h a C)
    (con : Con l Z y B' ml' rt' rm (.ref a :: as) h n0 Qc) (hS : S = as.reverse ++ .ref a :: st) (hsg : parseMethodDescriptor y.desc = some sg) (hlen : as.length = sg.parameters.length) (hwt : (st.map fun v => v.category).sum = wt) (hsz : L.size = ml) (hf : rm.frames + 1 ≤ R.frames) (hl : wt + (ml' + 11) + rm.locals ≤ R.locals) (hc : cl + rm.cells = cl') (hs : sl + rm.slots = sl') (hc' : cl' ≤ R.cells) (hs' : sl' ≤ R.slots) (k : ∀ v h', Qc v h' → W K h' cl' sl' pc' L (v.toList ++ st)) : W K h cl sl pc L S := by
  obtain ⟨⟨p, l', e', R'⟩, ⟨s, m, args, below⟩, ⟨meth, c⟩, Q', n0'⟩ := K
  obtain ⟨hx, hby, hml, hown, hnm, hrt, hlk, hZ, hw, hn0, hl', hR', hn', hQ'⟩ := O
  dsimp only at hx hby hml hown hnm hrt hlk hZ hn0 hl' hR' hn' hQ'
  subst hl' hR' hn' hQ'
  subst hp hc hs hS hml
  intro T locs X eT N
  have hn1 : n0' ≤ h.size := Nat.le_trans hn0 (by rw [← eT]; exact X.same.2.1)
  obtain ⟨cq, kq, qa, qb, qc⟩ := isOf hZ eT E
  obtain ⟨_, _, ⟨T', L', k', n'⟩, -, X', ⟨Lc, ⟨hQ, hFr⟩, l1, y1, z1⟩, st1⟩ := X.virtualBack hx (y := y) (z := y) hown (mvT hZ (hw _ w1)) (mvT hZ (hw _ w2)) (notFace_of_selects (args := #[]) (mvT hZ (hw _ w3))) (mvT hZ (hw _ w3)) (mvT hZ (hw _ w4)) hy (backOf (W := wt) (Q := fun v h L => Qc v h ∧ Fr n0' L) (con hn1 []) hZ (hw _ w5) (hw _ w6) hf hl) qa qc (g := mkF m pc L (as.reverse ++ .ref a :: st)) rfl hsz (Steps.refl _) (argsL := as) (rest := st) (lenOf hsg hlen) rfl (by show 2 * 0 + _ ≤ _; omega) (hb hby hd) (fun _ _ => ⟨rfl, eT, hc', hs'⟩)
  dsimp only [Pt.U, Pt.locs, Pt.cells, Pt.slots] at X' l1 y1 z1 st1 hQ
  subst l1 y1 z1
  obtain ⟨s2, o, h1, r⟩ := k _ T'.heap hQ T' _ X' rfl (Fr.app N hFr)
  exact ⟨s2, o, st1.trans h1, r⟩
theorem w_private (O : Ok K l Z a0 ts B ml rt own nm R n0 Q) {i ml' wt cl' sl' : Nat} {y : MethodName} {B' : ByteArray} {rt' : Option FieldType} {rm : Room} {as S : List Value} {Qc : Option Value → Heap → Prop} {sg : MethodDescriptor} {kk : Nat} {a : Addr} {C : String} (hd : decode B pc = .ok (.invokevirtual i, 3)) (hp : pc + 3 = pc') (w1 : Jvm.Cond.methodLink own i y ∈ ts) (w2 : Jvm.Cond.instanceMethod y ∈ ts) (w3 : Jvm.Cond.privateMethod y ∈ ts) (w4 : Jvm.Cond.instantiable y.cls kk ∈ ts) (w5 : Jvm.Cond.code y B' ml' rt' ∈ ts) (w6 : Jvm.Cond.initialized y.cls ∈ ts) (hy : y.cls ≠ "java/lang/invoke/MethodHandle" ∧ y.cls ≠ "java/lang/invoke/VarHandle") (E : Exa Z h a C)
    (con : Con l Z y B' ml' rt' rm (.ref a :: as) h n0 Qc) (hS : S = as.reverse ++ .ref a :: st) (hsg : parseMethodDescriptor y.desc = some sg) (hlen : as.length = sg.parameters.length) (hwt : (st.map fun v => v.category).sum = wt) (hsz : L.size = ml) (hf : rm.frames + 1 ≤ R.frames) (hl : wt + (ml' + 11) + rm.locals ≤ R.locals) (hc : cl + rm.cells = cl') (hs : sl + rm.slots = sl') (hc' : cl' ≤ R.cells) (hs' : sl' ≤ R.slots) (k : ∀ v h', Qc v h' → W K h' cl' sl' pc' L (v.toList ++ st)) : W K h cl sl pc L S := by
  obtain ⟨⟨p, l', e', R'⟩, ⟨s, m, args, below⟩, ⟨meth, c⟩, Q', n0'⟩ := K
  obtain ⟨hx, hby, hml, hown, hnm, hrt, hlk, hZ, hw, hn0, hl', hR', hn', hQ'⟩ := O
  dsimp only at hx hby hml hown hnm hrt hlk hZ hn0 hl' hR' hn' hQ'
  subst hl' hR' hn' hQ'
  subst hp hc hs hS hml
  intro T locs X eT N
  have hn1 : n0' ≤ h.size := Nat.le_trans hn0 (by rw [← eT]; exact X.same.2.1)
  obtain ⟨cq, q1, q2⟩ := E.cell
  have hpr : s.PrivateAt y := Cond.privateMethod_at (mvP hZ (hw _ w3) (args := #[]))
  have hsel : (Jvm.Cond.selects y.cls y y).before args s = true := by
    obtain ⟨c1, k1, g1, g2, -, g3, -⟩ := Cond.instantiable_spec (mvT (args := args) hZ (hw _ w4))
    exact selects_self_of_private g1 g2 (by simp at g3; exact g3.1) hpr (mvT hZ (hw _ w2)) hy
  obtain ⟨_, _, ⟨T', L', k', n'⟩, -, X', ⟨Lc, ⟨hQ, hFr⟩, l1, y1, z1⟩, st1⟩ := X.privateBack hx (y := y) hown (mvT hZ (hw _ w1)) (mvT hZ (hw _ w2)) hsel hpr (mvT hZ (hw _ w5)) hy (backOf (W := wt) (Q := fun v h L => Qc v h ∧ Fr n0' L) (con hn1 []) hZ (hw _ w5) (hw _ w6) hf hl) (g := mkF m pc L (as.reverse ++ .ref a :: st)) rfl hsz (Steps.refl _) (a := a) (by rw [eT]; exact q1) q2 (argsL := as) (rest := st) (lenOf hsg hlen) rfl (by show 2 * 0 + _ ≤ _; omega) (hb hby hd) (fun _ _ => ⟨rfl, eT, hc', hs'⟩)
  dsimp only [Pt.U, Pt.locs, Pt.cells, Pt.slots] at X' l1 y1 z1 st1 hQ
  subst l1 y1 z1
  obtain ⟨s2, o, h1, r⟩ := k _ T'.heap hQ T' _ X' rfl (Fr.app N hFr)
  exact ⟨s2, o, st1.trans h1, r⟩
theorem w_init (O : Ok K l Z a0 ts B ml rt own nm R n0 Q) {i ml' wt cl' sl' : Nat} {y : MethodName} {B' : ByteArray} {rm : Room} {as S : List Value} {Qc : Option Value → Heap → Prop} {sg : MethodDescriptor} {a : Addr} (hd : decode B pc = .ok (.invokespecial i, 3)) (hp : pc + 3 = pc') (hin : y.name = "<init>") (w1 : Jvm.Cond.methodLink own i y ∈ ts) (w2 : Jvm.Cond.instanceMethod y ∈ ts) (w3 : Jvm.Cond.initialized y.cls ∈ ts) (w4 : Jvm.Cond.code y B' ml' none ∈ ts) (hy : y.cls ≠ "java/lang/invoke/MethodHandle" ∧ y.cls ≠ "java/lang/invoke/VarHandle")
    (con : Con l Z y B' ml' none rm (.ref a :: as) h n0 Qc) (hS : S = as.reverse ++ .ref a :: st) (hsg : parseMethodDescriptor y.desc = some sg) (hlen : as.length = sg.parameters.length) (hwt : (st.map fun v => v.category).sum = wt) (hsz : L.size = ml) (hf : rm.frames + 1 ≤ R.frames) (hl : wt + (ml' + 11) + rm.locals ≤ R.locals) (hc : cl + rm.cells = cl') (hs : sl + rm.slots = sl') (hc' : cl' ≤ R.cells) (hs' : sl' ≤ R.slots) (k : ∀ v h', Qc v h' → W K h' cl' sl' pc' L (v.toList ++ st)) : W K h cl sl pc L S := by
  obtain ⟨⟨p, l', e', R'⟩, ⟨s, m, args, below⟩, ⟨meth, c⟩, Q', n0'⟩ := K
  obtain ⟨hx, hby, hml, hown, hnm, hrt, hlk, hZ, hw, hn0, hl', hR', hn', hQ'⟩ := O
  dsimp only at hx hby hml hown hnm hrt hlk hZ hn0 hl' hR' hn' hQ'
  subst hl' hR' hn' hQ'
  subst hp hc hs hS hml
  intro T locs X eT N
  have hn1 : n0' ≤ h.size := Nat.le_trans hn0 (by rw [← eT]; exact X.same.2.1)
  obtain ⟨_, _, ⟨T', L', k', n'⟩, -, X', ⟨Lc, ⟨hQ, hFr⟩, l1, y1, z1⟩, st1⟩ := X.specialBack hx (y := y) hin hown (mvT hZ (hw _ w1)) (mvT hZ (hw _ w2)) (mvT hZ (hw _ w4)) hy (backOf (W := wt) (Q := fun v h L => Qc v h ∧ Fr n0' L) (con hn1 []) hZ (hw _ w4) (hw _ w3) hf hl) (g := mkF m pc L (as.reverse ++ .ref a :: st)) rfl hsz (Steps.refl _) (a := a) (argsL := as) (rest := st) (lenOf hsg hlen) rfl (by show 2 * 0 + _ ≤ _; omega) (hb hby hd) (fun _ _ => ⟨rfl, eT, hc', hs'⟩)
  dsimp only [Pt.U, Pt.locs, Pt.cells, Pt.slots] at X' l1 y1 z1 st1 hQ
  subst l1 y1 z1
  obtain ⟨s2, o, h1, r⟩ := k _ T'.heap hQ T' _ X' rfl (Fr.app N hFr)
  exact ⟨s2, o, st1.trans h1, r⟩
theorem w_initB (O : Ok K l Z a0 ts B ml rt own nm R n0 Q) {i ml' wt cl' sl' rc rs : Nat} {y : MethodName} {B' : ByteArray} {as S : List Value} {Qc : Option Value → Heap → List Loc → Prop} {sg : MethodDescriptor} {a : Addr} (hd : decode B pc = .ok (.invokespecial i, 3)) (hp : pc + 3 = pc') (hin : y.name = "<init>") (w1 : Jvm.Cond.methodLink own i y ∈ ts) (w2 : Jvm.Cond.instanceMethod y ∈ ts) (w4 : Jvm.Cond.code y B' ml' none ∈ ts) (hy : y.cls ≠ "java/lang/invoke/MethodHandle" ∧ y.cls ≠ "java/lang/invoke/VarHandle")
    (bk : n0 ≤ h.size → ∀ (p : Program) (e : Env) (below : List Frame) (s : State) (args : Array Value), Z.Warmed39 s.vm → Back l R p e below s args y 3 wt (fun P a' => a' = (Value.ref a :: as).toArray ∧ P.U.heap = h ∧ P.cells + rc ≤ R.cells ∧ P.slots + rs ≤ R.slots) (fun P _ v B => ∃ L, Qc v B.U.heap L ∧ B.locs = P.locs ++ L ∧ B.cells = P.cells + rc ∧ B.slots = P.slots + rs)) (hfr : ∀ v h' L, Qc v h' L → Fr n0 L)
    (hS : S = as.reverse ++ .ref a :: st) (hsg : parseMethodDescriptor y.desc = some sg) (hlen : as.length = sg.parameters.length) (hwt : (st.map fun v => v.category).sum = wt) (hsz : L.size = ml) (hc : cl + rc = cl') (hs : sl + rs = sl') (hc' : cl' ≤ R.cells) (hs' : sl' ≤ R.slots) (k : ∀ v h' Ls, Qc v h' Ls → W K h' cl' sl' pc' L (v.toList ++ st)) : W K h cl sl pc L S := by
  obtain ⟨⟨p, l', e', R'⟩, ⟨s, m, args, below⟩, ⟨meth, c⟩, Q', n0'⟩ := K
  obtain ⟨hx, hby, hml, hown, hnm, hrt, hlk, hZ, hw, hn0, hl', hR', hn', hQ'⟩ := O
  dsimp only at hx hby hml hown hnm hrt hlk hZ hn0 hl' hR' hn' hQ'
  subst hl' hR' hn' hQ'
  subst hp hc hs hS hml
  intro T locs X eT N
  have hn1 : n0' ≤ h.size := Nat.le_trans hn0 (by rw [← eT]; exact X.same.2.1)
  obtain ⟨_, _, ⟨T', L', k', n'⟩, -, X', ⟨Lc, hQ, l1, y1, z1⟩, st1⟩ := X.specialBack hx (y := y) hin hown (mvT hZ (hw _ w1)) (mvT hZ (hw _ w2)) (mvT hZ (hw _ w4)) hy (bk hn1 p e' below s args hZ) (g := mkF m pc L (as.reverse ++ .ref a :: st)) rfl hsz (Steps.refl _) (a := a) (argsL := as) (rest := st) (lenOf hsg hlen) rfl (by show 2 * 0 + _ ≤ _; omega) (hb hby hd) (fun _ _ => ⟨rfl, eT, hc', hs'⟩)
  dsimp only [Pt.U, Pt.locs, Pt.cells, Pt.slots] at X' l1 y1 z1 st1 hQ
  subst l1 y1 z1
  obtain ⟨s2, o, h1, r⟩ := k _ T'.heap _ hQ T' _ X' rfl (Fr.app N (hfr _ _ _ hQ))
  exact ⟨s2, o, st1.trans h1, r⟩
theorem Afn.arv {a : Addr} {ty : FieldType} {n : Nat} {f : Nat → Value} {N : Int32} {vs : List Value} {d : Value} (A : Afn Z h a ty n f) (hN : N.toInt = (n : Int)) (hv : ∀ i, i < n → vs.getD i d = f i) (hf : ∀ i, i < n → fits ty (f i) = true) : ∃ k, Arv Z h a k ty N vs d := by
  obtain ⟨c, A, h1, h2, h3⟩ := A
  refine ⟨c.cls, c, A, rfl, by rw [h1, (tnc hN).1], (tnc hN).2, fun i hi => ?_, fun i hi => ?_⟩
  · rw [h1] at hi; rw [hv i hi]; exact h3 i hi
  · rw [h1] at hi; rw [hv i hi]; exact hf i hi
theorem w_reti {x : Int32} (O : Ok K l Z a0 ts B ml (some .int) own nm R n0 Q) (hd : decode B pc = .ok (.ireturn, 1)) (hc : cl ≤ R.cells) (hs : sl ≤ R.slots) (hq : Q (some (.int x)) h) : W K h cl sl pc L (.int x :: st) := by
  obtain ⟨⟨p, l', e', R'⟩, ⟨s, m, args, below⟩, ⟨meth, c⟩, Q', n0'⟩ := K
  obtain ⟨hx, hby, hml, hown, hnm, hrt, hlk, hZ, hw, hn0, hl', hR', hn', hQ'⟩ := O
  dsimp only at hx hby hml hown hnm hrt hlk hZ hn0 hl' hR' hn' hQ'
  subst hl' hR' hn' hQ'
  intro T locs X eT N
  obtain ⟨fs, hr, hrun, hended, hW, hsame⟩ := X.leave (v := some (.int x)) (fun q => by rw [hrt] at q; cases q) hlk
  refine ⟨_, _, retOut X hx hrt rfl (Or.inl ⟨rfl, Or.inl rfl, _, rfl⟩) (hb hby hd) hr, hrun, hended, _, _, rfl, ⟨?_, N⟩, ⟨_, rfl⟩, hW, hsame.mono hc hs⟩
  show Q' _ T.heap
  rw [eT]; exact hq
theorem w_retz {x : Int32} (O : Ok K l Z a0 ts B ml (some .boolean) own nm R n0 Q) (hd : decode B pc = .ok (.ireturn, 1)) (hc : cl ≤ R.cells) (hs : sl ≤ R.slots) (hz : x = 0 ∨ x = 1) (hq : Q (some (.int x)) h) : W K h cl sl pc L (.int x :: st) := by
  have hna : narrow .boolean (.int x) = .int x := by rcases hz with rfl | rfl <;> rfl
  obtain ⟨⟨p, l', e', R'⟩, ⟨s, m, args, below⟩, ⟨meth, c⟩, Q', n0'⟩ := K
  obtain ⟨hx, hby, hml, hown, hnm, hrt, hlk, hZ, hw, hn0, hl', hR', hn', hQ'⟩ := O
  dsimp only at hx hby hml hown hnm hrt hlk hZ hn0 hl' hR' hn' hQ'
  subst hl' hR' hn' hQ'
  intro T locs X eT N
  obtain ⟨fs, hr, hrun, hended, hW, hsame⟩ := X.leave (v := some (.int x)) (fun q => by rw [hrt] at q; cases q) hlk
  refine ⟨_, _, retOut X hx hrt hna (Or.inl ⟨rfl, Or.inr (Or.inl rfl), _, rfl⟩) (hb hby hd) hr, hrun, hended, _, _, rfl, ⟨?_, N⟩, ⟨_, rfl⟩, hW, hsame.mono hc hs⟩
  show Q' _ T.heap
  rw [eT]; exact hq
theorem w_retl {x : Int64} (O : Ok K l Z a0 ts B ml (some .long) own nm R n0 Q) (hd : decode B pc = .ok (.lreturn, 1)) (hc : cl ≤ R.cells) (hs : sl ≤ R.slots) (hq : Q (some (.long x)) h) : W K h cl sl pc L (.long x :: st) := by
  obtain ⟨⟨p, l', e', R'⟩, ⟨s, m, args, below⟩, ⟨meth, c⟩, Q', n0'⟩ := K
  obtain ⟨hx, hby, hml, hown, hnm, hrt, hlk, hZ, hw, hn0, hl', hR', hn', hQ'⟩ := O
  dsimp only at hx hby hml hown hnm hrt hlk hZ hn0 hl' hR' hn' hQ'
  subst hl' hR' hn' hQ'
  intro T locs X eT N
  obtain ⟨fs, hr, hrun, hended, hW, hsame⟩ := X.leave (v := some (.long x)) (fun q => by rw [hrt] at q; cases q) hlk
  refine ⟨_, _, retOut X hx hrt rfl (Or.inr (Or.inl ⟨rfl, rfl, _, rfl⟩)) (hb hby hd) hr, hrun, hended, _, _, rfl, ⟨?_, N⟩, ⟨_, rfl⟩, hW, hsame.mono hc hs⟩
  show Q' _ T.heap
  rw [eT]; exact hq
theorem w_reta {x : Value} {t : FieldType} (O : Ok K l Z a0 ts B ml (some t) own nm R n0 Q) (hd : decode B pc = .ok (.areturn, 1)) (ht : t.isReference = true) (hna : narrow t x = x) (hx' : x.isRef = true) (hc : cl ≤ R.cells) (hs : sl ≤ R.slots) (hq : Q (some x) h) : W K h cl sl pc L (x :: st) := by
  obtain ⟨⟨p, l', e', R'⟩, ⟨s, m, args, below⟩, ⟨meth, c⟩, Q', n0'⟩ := K
  obtain ⟨hx, hby, hml, hown, hnm, hrt, hlk, hZ, hw, hn0, hl', hR', hn', hQ'⟩ := O
  dsimp only at hx hby hml hown hnm hrt hlk hZ hn0 hl' hR' hn' hQ'
  subst hl' hR' hn' hQ'
  intro T locs X eT N
  obtain ⟨fs, hr, hrun, hended, hW, hsame⟩ := X.leave (v := some x) (fun q => by rw [hrt] at q; cases q) hlk
  refine ⟨_, _, retOut X hx hrt hna (Or.inr (Or.inr (Or.inr (Or.inr ⟨rfl, ht, hx'⟩)))) (hb hby hd) hr, hrun, hended, _, _, rfl, ⟨?_, N⟩, ⟨_, rfl⟩, hW, hsame.mono hc hs⟩
  show Q' _ T.heap
  rw [eT]; exact hq
theorem w_retv (O : Ok K l Z a0 ts B ml none own nm R n0 Q) (hd : decode B pc = .ok (.return_, 1)) (hc : cl ≤ R.cells) (hs : sl ≤ R.slots) (hq : Q none h) : W K h cl sl pc L [] := by
  obtain ⟨⟨p, l', e', R'⟩, ⟨s, m, args, below⟩, ⟨meth, c⟩, Q', n0'⟩ := K
  obtain ⟨hx, hby, hml, hown, hnm, hrt, hlk, hZ, hw, hn0, hl', hR', hn', hQ'⟩ := O
  dsimp only at hx hby hml hown hnm hrt hlk hZ hn0 hl' hR' hn' hQ'
  subst hl' hR' hn' hQ'
  intro T locs X eT N
  obtain ⟨fs, hr, hrun, hended, hW, hsame⟩ := X.leave (v := none) (fun _ => rfl) hlk
  refine ⟨_, _, X.returnOut hx hrt (hb hby hd) hr, hrun, hended, _, _, rfl, ⟨?_, N⟩, ⟨_, rfl⟩, hW, hsame.mono hc hs⟩
  show Q' _ T.heap
  rw [eT]; exact hq
theorem nz32 {y : Int32} (q : ¬ y.toInt = 0) : y ≠ 0 := by rintro rfl; exact q (by decide)
theorem nz64 {y : Int64} (q : ¬ y.toInt = 0) : y ≠ 0 := by rintro rfl; exact q (by decide)
theorem of_nat32 {q : Int32} {n : Nat} (hn : q.toInt = (n : Int)) : q = Int32.ofNat n := by
  have h1 := rng32 q
  apply Int32.toInt_inj.mp
  rw [hn, Int32.toInt_ofNat_of_lt (by omega)]
theorem c_lremP (x y : Int64) (d : Int) (hy : y.toInt = d) : (0 ≤ x.toInt → (x % y).toInt = x.toInt % d) ∧ (x.toInt < 0 → (x % y).toInt = -((-x.toInt) % d)) := by rw [← lrem_mod]; exact c_lrem x y d hy
end OwnW

theorem mw {d : Jvm.Cond} (k : Nat) (q : tables_1[k]? = some d) : d ∈ tables_1 := List.mem_of_getElem? q
def Ch (Z : State) (h : Heap) (c : Nat) (N D : Nat → Addr) (sz : Nat → Nat) (vN : Nat → Nat → Int32) (vD : Nat → Nat → Int64) : Prop := ∀ j, j < c → Afn Z h (N j) .int (sz j) (fun i => .int (vN j i)) ∧ Afn Z h (D j) .long (sz j) (fun i => .long (vD j i))
def Off (c : Nat) (N D : Nat → Addr) (o : Addr) : Prop := ∀ j, j < c → N j ≠ o ∧ D j ≠ o
theorem Ch.ext {Z : State} {h h' : Heap} {c : Nat} {N D : Nat → Addr} {sz : Nat → Nat} {vN : Nat → Nat → Int32} {vD : Nat → Nat → Int64} (H : Ch Z h c N D sz vN vD) (E : Ext h h') : Ch Z h' c N D sz vN vD := fun j hj => ⟨(H j hj).1.ext E, (H j hj).2.ext E⟩
theorem Ch.wr {Z : State} {h h' : Heap} {c : Nat} {N D : Nat → Addr} {sz : Nat → Nat} {vN : Nat → Nat → Int32} {vD : Nat → Nat → Int64} {o : Addr} {i : Nat} {v : Value} (H : Ch Z h c N D sz vN vD) (Wq : Wr h h' o i v) (q : Off c N D o) : Ch Z h' c N D sz vN vD := fun j hj => ⟨(H j hj).1.other Wq (q j hj).1, (H j hj).2.other Wq (q j hj).2⟩
/-- the runs lie apart: chunks are unlike one another -/
def Apart (c : Nat) (N D : Nat → Addr) : Prop := (∀ i j, i < c → j < c → N i ≠ D j) ∧ ∀ i j, i < c → j < c → i ≠ j → N i ≠ N j ∧ D i ≠ D j
def Pr (Z : State) (h : Heap) (n0 : Nat) (a p q : Addr) (c : Nat) (zc fr : Int32) (N D : Nat → Addr) (sz : Nat → Nat) (vN : Nat → Nat → Int32) (vD : Nat → Nat → Int64) : Prop := (Exa Z h a "com/example/wending/wending/search/PairRuns" ∧ Fld Z h a "com/example/wending/wending/search/PairRuns" "nodes" "[[I" (.ref p) ∧ Fld Z h a "com/example/wending/wending/search/PairRuns" "distances" "[[J" (.ref q) ∧ Fld Z h a "com/example/wending/wending/search/PairRuns" "free" "I" (.int fr) ∧ Fld Z h a "com/example/wending/wending/search/PairRuns" "chunks" "I" (.int zc)) ∧ (Afn Z h p (.array .int) 4 (fun j => if j < c then .ref (N j) else .null) ∧ Afn Z h q (.array .long) 4 (fun j => if j < c then .ref (D j) else .null) ∧ Tk Z h p "[I" ∧ Tk Z h q "[J") ∧ (a ≠ p ∧ a ≠ q ∧ p ≠ q ∧ n0 ≤ a ∧ n0 ≤ p ∧ n0 ≤ q) ∧ Ch Z h c N D sz vN vD ∧ (Off c N D a ∧ Off c N D p ∧ Off c N D q) ∧ Apart c N D ∧ (∀ j, j < c → n0 ≤ N j ∧ n0 ≤ D j) ∧ zc.toInt = (c : Int)
theorem own_run (x f : Int32) (ci fo : Nat) (hx : x.toInt = (ci : Int)) (hc : ci ≤ 3) (hf : f.toInt = (fo : Int)) (h : fo ≤ 255) : ((x <<< ((8 : Int32) &&& 31)) ||| f).toInt = 256 * (ci : Int) + fo := by
  have a : ((x <<< ((8 : Int32) &&& 31)).toInt - x.toInt * 256) % 4294967296 = 0 := c_ishl x 8 8 (by decide)
  have r := rng32 (x <<< ((8 : Int32) &&& 31))
  have o := c_or (x <<< ((8 : Int32) &&& 31)) f 8 (by decide) 256 (by decide) (by omega) (by omega) (by omega)
  have r2 := rng32 ((x <<< ((8 : Int32) &&& 31)) ||| f)
  omega
theorem d4_0 : decode jdk_29_method_65_code 0 = .ok (.iload_n 0, 1) := by decide +kernel
theorem d4_1 : decode jdk_29_method_65_code 1 = .ok (.iload_n 1, 1) := by decide +kernel
theorem d4_2 : decode jdk_29_method_65_code 2 = .ok (.if_icmp .lt 7, 3) := by decide +kernel
theorem d4_5 : decode jdk_29_method_65_code 5 = .ok (.iload_n 0, 1) := by decide +kernel
theorem d4_6 : decode jdk_29_method_65_code 6 = .ok (.goto 4, 3) := by decide +kernel
theorem d4_9 : decode jdk_29_method_65_code 9 = .ok (.iload_n 1, 1) := by decide +kernel
theorem d4_10 : decode jdk_29_method_65_code 10 = .ok (.ireturn, 1) := by decide +kernel
theorem pn_4 : plainFor (⟨"java/lang/Math", "max", "(II)I"⟩ : MethodName) = true := Jvm.Free.JP.mathPlain rfl (by decide +kernel)
set_option maxRecDepth 65536 in
set_option maxHeartbeats 40000000 in
theorem con_max (l : Launch) (Z : State) (a0 : Array Value) (hw : ∀ d ∈ tables_1, d.before a0 Z = true) (x y : Int32) (h0 : Heap) (n0 : Nat)  :
    Con l Z (⟨"java/lang/Math", "max", "(II)I"⟩ : MethodName) jdk_29_method_65_code 2 (some .int) ⟨0, 0, 0, 0⟩ [(.int x), (.int y)] h0 n0 (RetI fun r h => h = h0 ∧ ((x.toInt < y.toInt ∧ r = y) ∨ (¬ x.toInt < y.toInt ∧ r = x))) := by
  refine Con.body (L0 := #[.val (.int x), .val (.int y)]) hw pn_4 (fun m => by first | (simp [entryFrame, mkF, argsToLocals, Value.category]; done) | rfl) (fun K O => ?_)
  refine w_iloadN O d4_0 (pc' := 1) rfl rfl ?_
  refine w_iloadN O d4_1 (pc' := 2) rfl rfl ?_
  refine w_icmp_lt O d4_2 (pn := 5) (pt := 9) rfl (by decide) rfl (fun c2 => ?_) (fun c2 => ?_)
  · refine w_iloadN O d4_9 (pc' := 10) rfl rfl ?_
    refine w_reti O d4_10 (by decide) (by decide) ?_
    exact ⟨_, rfl, rfl, Or.inl ⟨c2, rfl⟩⟩
  · refine w_iloadN O d4_5 (pc' := 6) rfl rfl ?_
    refine w_goto O d4_6 (pc' := 10) (by decide) rfl ?_
    refine w_reti O d4_10 (by decide) (by decide) ?_
    exact ⟨_, rfl, rfl, Or.inr ⟨c2, rfl⟩⟩
theorem d1_0 : decode prog_70_method_1_code 0 = .ok (.aload_n 0, 1) := by decide +kernel
theorem d1_1 : decode prog_70_method_1_code 1 = .ok (.invokespecial 3, 3) := by decide +kernel
theorem d1_4 : decode prog_70_method_1_code 4 = .ok (.aload_n 0, 1) := by decide +kernel
theorem d1_5 : decode prog_70_method_1_code 5 = .ok (.iconst 4, 1) := by decide +kernel
theorem d1_6 : decode prog_70_method_1_code 6 = .ok (.anewarray 9, 3) := by decide +kernel
theorem d1_9 : decode prog_70_method_1_code 9 = .ok (.putfield 11, 3) := by decide +kernel
theorem d1_12 : decode prog_70_method_1_code 12 = .ok (.aload_n 0, 1) := by decide +kernel
theorem d1_13 : decode prog_70_method_1_code 13 = .ok (.iconst 4, 1) := by decide +kernel
theorem d1_14 : decode prog_70_method_1_code 14 = .ok (.anewarray 15, 3) := by decide +kernel
theorem d1_17 : decode prog_70_method_1_code 17 = .ok (.putfield 17, 3) := by decide +kernel
theorem d1_20 : decode prog_70_method_1_code 20 = .ok (.aload_n 0, 1) := by decide +kernel
theorem d1_21 : decode prog_70_method_1_code 21 = .ok (.sipush 256, 3) := by decide +kernel
theorem d1_24 : decode prog_70_method_1_code 24 = .ok (.putfield 21, 3) := by decide +kernel
theorem d1_27 : decode prog_70_method_1_code 27 = .ok (.return_, 1) := by decide +kernel
theorem pn_1 : plainFor (⟨"com/example/wending/wending/search/PairRuns", "<init>", "()V"⟩ : MethodName) = true := plainFor_of_name (by first | (simp [plainName, overriddenIn]; done) | decide +kernel)
set_option maxRecDepth 65536 in
set_option maxHeartbeats 40000000 in
theorem con_init (l : Launch) (Z : State) (a0 : Array Value) (hw : ∀ d ∈ tables_1, d.before a0 Z = true) (a : Addr) (h0 : Heap) (n0 : Nat) (hE : Exa Z h0 a "com/example/wending/wending/search/PairRuns") (fq1 : Fld Z h0 a "com/example/wending/wending/search/PairRuns" "nodes" "[[I" .null) (fq2 : Fld Z h0 a "com/example/wending/wending/search/PairRuns" "distances" "[[J" .null) (fq3 : Fld Z h0 a "com/example/wending/wending/search/PairRuns" "free" "I" (.int (0 : Int32))) (fq4 : Fld Z h0 a "com/example/wending/wending/search/PairRuns" "chunks" "I" (.int (0 : Int32))) (ga : n0 ≤ a) :
    Con l Z (⟨"com/example/wending/wending/search/PairRuns", "<init>", "()V"⟩ : MethodName) prog_70_method_1_code 1 none ⟨1, 2, 8, 13⟩ [(.ref a)] h0 n0 (RetV fun h => ∃ p q, Pr Z h n0 a p q 0 0 256 (fun _ => 0) (fun _ => 0) (fun _ => 0) (fun _ _ => 0) (fun _ _ => 0)) := by
  refine Con.body (L0 := #[.val (.ref a)]) hw pn_1 (fun m => by first | (simp [entryFrame, mkF, argsToLocals, Value.category]; done) | rfl) (fun K O => ?_)
  refine w_aloadN O d1_0 (pc' := 1) rfl rfl rfl ?_
  refine w_objinit O d1_1 (wt := 0) (pc' := 4) rfl (mw 6 rfl) (mw 7 rfl) (mw 8 rfl) rfl rfl (by decide) (by decide) ?_
  refine w_aloadN O d1_4 (pc' := 5) rfl rfl rfl ?_
  refine w_iconst O d1_5 (z := (4 : Int32)) (pc' := 6) rfl rfl ?_
  refine w_anewarrA O d1_6 (ty := .int) (n := 4) (cap := 4) (cl' := 1) (sl' := 4) (pc' := 9) rfl rfl rfl (mw 9 rfl) (mw 10 rfl) (by decide) (by decide) (by decide) rfl rfl (by decide) (by decide) (fun h1 p qp g_p Eh1 A_p E_p T_p => ?_)
  have ne_a_p : a ≠ p := Nat.ne_of_lt (by rw [qp]; exact hE.lt)
  have hE_h1 := Exa.ext Eh1 hE
  have fq1_h1 := Fld.ext Eh1 fq1
  have fq2_h1 := Fld.ext Eh1 fq2
  have fq3_h1 := Fld.ext Eh1 fq3
  have fq4_h1 := Fld.ext Eh1 fq4
  refine w_putf O d1_9 (pc' := 12) rfl (mw 11 rfl) (mw 1 rfl) (Or.inl (mw 12 rfl)) fq1_h1 hE_h1 ga (ty := (.array (.array .int))) (by decide) rfl rfl (fun h3 Wh3 => ?_)
  have hE_h3 := hE_h1.wr Wh3
  have fq1_h3 := Fld.same Wh3 fq1_h1
  have fq2_h3 := Fld.other Wh3 fq2_h1 (Or.inr (Jvm.RoadKit.slot_ne (Or.inl (O.2.2.2.2.2.2.2.2.1 _ (mw 16 rfl))) (Or.inl (O.2.2.2.2.2.2.2.2.1 _ (mw 12 rfl))) (by decide) (t := (.array (.array .long))) (t' := (.array (.array .int))) (by decide) (by decide)))
  have fq3_h3 := Fld.other Wh3 fq3_h1 (Or.inr (Jvm.RoadKit.slot_ne (Or.inl (O.2.2.2.2.2.2.2.2.1 _ (mw 18 rfl))) (Or.inl (O.2.2.2.2.2.2.2.2.1 _ (mw 12 rfl))) (by decide) (t := .int) (t' := (.array (.array .int))) (by decide) (by decide)))
  have fq4_h3 := Fld.other Wh3 fq4_h1 (Or.inr (Jvm.RoadKit.slot_ne (Or.inl (O.2.2.2.2.2.2.2.2.1 _ (mw 25 rfl))) (Or.inl (O.2.2.2.2.2.2.2.2.1 _ (mw 12 rfl))) (by decide) (t := .int) (t' := (.array (.array .int))) (by decide) (by decide)))
  have A_p_h3 := A_p.other Wh3 (Ne.symm ne_a_p)
  have E_p_h3 := E_p.wr Wh3
  have T_p_h3 := T_p.wr Wh3
  refine w_aloadN O d1_12 (pc' := 13) rfl rfl rfl ?_
  refine w_iconst O d1_13 (z := (4 : Int32)) (pc' := 14) rfl rfl ?_
  refine w_anewarrA O d1_14 (ty := .long) (n := 4) (cap := 4) (cl' := 2) (sl' := 8) (pc' := 17) rfl rfl rfl (mw 13 rfl) (mw 14 rfl) (by decide) (by decide) (by decide) rfl rfl (by decide) (by decide) (fun h4 q qq g_q Eh4 A_q E_q T_q => ?_)
  have ne_a_q : a ≠ q := Nat.ne_of_lt (by rw [qq]; exact hE_h3.lt)
  have ne_p_q : p ≠ q := Nat.ne_of_lt (by rw [qq]; exact A_p_h3.lt)
  have hE_h4 := Exa.ext Eh4 hE_h3
  have fq1_h4 := Fld.ext Eh4 fq1_h3
  have fq2_h4 := Fld.ext Eh4 fq2_h3
  have fq3_h4 := Fld.ext Eh4 fq3_h3
  have fq4_h4 := Fld.ext Eh4 fq4_h3
  have A_p_h4 := A_p_h3.ext Eh4
  have E_p_h4 := Exa.ext Eh4 E_p_h3
  have T_p_h4 := T_p_h3.ext Eh4
  refine w_putf O d1_17 (pc' := 20) rfl (mw 15 rfl) (mw 1 rfl) (Or.inl (mw 16 rfl)) fq2_h4 hE_h4 ga (ty := (.array (.array .long))) (by decide) rfl rfl (fun h6 Wh6 => ?_)
  have hE_h6 := hE_h4.wr Wh6
  have fq1_h6 := Fld.other Wh6 fq1_h4 (Or.inr (Jvm.RoadKit.slot_ne (Or.inl (O.2.2.2.2.2.2.2.2.1 _ (mw 12 rfl))) (Or.inl (O.2.2.2.2.2.2.2.2.1 _ (mw 16 rfl))) (by decide) (t := (.array (.array .int))) (t' := (.array (.array .long))) (by decide) (by decide)))
  have fq2_h6 := Fld.same Wh6 fq2_h4
  have fq3_h6 := Fld.other Wh6 fq3_h4 (Or.inr (Jvm.RoadKit.slot_ne (Or.inl (O.2.2.2.2.2.2.2.2.1 _ (mw 18 rfl))) (Or.inl (O.2.2.2.2.2.2.2.2.1 _ (mw 16 rfl))) (by decide) (t := .int) (t' := (.array (.array .long))) (by decide) (by decide)))
  have fq4_h6 := Fld.other Wh6 fq4_h4 (Or.inr (Jvm.RoadKit.slot_ne (Or.inl (O.2.2.2.2.2.2.2.2.1 _ (mw 25 rfl))) (Or.inl (O.2.2.2.2.2.2.2.2.1 _ (mw 16 rfl))) (by decide) (t := .int) (t' := (.array (.array .long))) (by decide) (by decide)))
  have A_p_h6 := A_p_h4.other Wh6 (Ne.symm ne_a_p)
  have E_p_h6 := E_p_h4.wr Wh6
  have T_p_h6 := T_p_h4.wr Wh6
  have A_q_h6 := A_q.other Wh6 (Ne.symm ne_a_q)
  have E_q_h6 := E_q.wr Wh6
  have T_q_h6 := T_q.wr Wh6
  refine w_aloadN O d1_20 (pc' := 21) rfl rfl rfl ?_
  refine w_sipush O d1_21 (z := (256 : Int32)) (pc' := 24) rfl rfl ?_
  refine w_putf O d1_24 (pc' := 27) rfl (mw 17 rfl) (mw 1 rfl) (Or.inl (mw 18 rfl)) fq3_h6 hE_h6 ga (ty := .int) (by decide) rfl rfl (fun h7 Wh7 => ?_)
  have hE_h7 := hE_h6.wr Wh7
  have fq1_h7 := Fld.other Wh7 fq1_h6 (Or.inr (Jvm.RoadKit.slot_ne (Or.inl (O.2.2.2.2.2.2.2.2.1 _ (mw 12 rfl))) (Or.inl (O.2.2.2.2.2.2.2.2.1 _ (mw 18 rfl))) (by decide) (t := (.array (.array .int))) (t' := .int) (by decide) (by decide)))
  have fq2_h7 := Fld.other Wh7 fq2_h6 (Or.inr (Jvm.RoadKit.slot_ne (Or.inl (O.2.2.2.2.2.2.2.2.1 _ (mw 16 rfl))) (Or.inl (O.2.2.2.2.2.2.2.2.1 _ (mw 18 rfl))) (by decide) (t := (.array (.array .long))) (t' := .int) (by decide) (by decide)))
  have fq3_h7 := Fld.same Wh7 fq3_h6
  have fq4_h7 := Fld.other Wh7 fq4_h6 (Or.inr (Jvm.RoadKit.slot_ne (Or.inl (O.2.2.2.2.2.2.2.2.1 _ (mw 25 rfl))) (Or.inl (O.2.2.2.2.2.2.2.2.1 _ (mw 18 rfl))) (by decide) (t := .int) (t' := .int) (by decide) (by decide)))
  have A_p_h7 := A_p_h6.other Wh7 (Ne.symm ne_a_p)
  have E_p_h7 := E_p_h6.wr Wh7
  have T_p_h7 := T_p_h6.wr Wh7
  have A_q_h7 := A_q_h6.other Wh7 (Ne.symm ne_a_q)
  have E_q_h7 := E_q_h6.wr Wh7
  have T_q_h7 := T_q_h6.wr Wh7
  refine w_retv O d1_27 (by decide) (by decide) ?_
  refine ⟨rfl, p, q, ⟨hE_h7, fq1_h7, fq2_h7, fq3_h7, fq4_h7⟩, ⟨A_p_h7.congr fun j hj => (if_neg (Nat.not_lt_zero j)).symm, A_q_h7.congr fun j hj => (if_neg (Nat.not_lt_zero j)).symm, T_p_h7, T_q_h7⟩, ⟨ne_a_p, ne_a_q, ne_p_q, ga, g_p, g_q⟩, fun j hj => absurd hj (Nat.not_lt_zero j), ⟨fun j hj => absurd hj (Nat.not_lt_zero j), fun j hj => absurd hj (Nat.not_lt_zero j), fun j hj => absurd hj (Nat.not_lt_zero j)⟩, ⟨fun i j hi => absurd hi (Nat.not_lt_zero i), fun i j hi => absurd hi (Nat.not_lt_zero i)⟩, fun j hj => absurd hj (Nat.not_lt_zero j), by decide⟩
theorem own_cg {c : Nat} {N : Nat → Addr} {b : Addr} (j : Nat) (hj : j < 4) : upd (fun j => if j < c then Value.ref (N j) else .null) c (.ref b) j = (fun j => if j < c + 1 then Value.ref ((fun j => if j = c then b else N j) j) else .null) j := by
  unfold upd
  dsimp only
  by_cases z1 : j = c
  · rw [if_pos z1, if_pos (by omega), if_pos z1]
  · rw [if_neg z1]
    by_cases z2 : j < c
    · rw [if_pos z2, if_pos (by omega), if_neg z1]
    · rw [if_neg z2, if_neg (by omega)]
theorem own_off {c : Nat} {N D : Nat → Addr} {o b d : Addr} (h : Off c N D o) (q : b ≠ o ∧ d ≠ o) : Off (c + 1) (fun j => if j = c then b else N j) (fun j => if j = c then d else D j) o := fun j hj => by
  by_cases z1 : j = c
  · simp only [z1, if_true]; exact q
  · simp only [z1, if_false]; exact h j (by omega)
theorem d3_0 : decode prog_70_method_2_code 0 = .ok (.iload_n 1, 1) := by decide +kernel
theorem d3_1 : decode prog_70_method_2_code 1 = .ok (.sipush 256, 3) := by decide +kernel
theorem d3_4 : decode prog_70_method_2_code 4 = .ok (.aload_n 0, 1) := by decide +kernel
theorem d3_5 : decode prog_70_method_2_code 5 = .ok (.getfield 21, 3) := by decide +kernel
theorem d3_8 : decode prog_70_method_2_code 8 = .ok (.isub, 1) := by decide +kernel
theorem d3_9 : decode prog_70_method_2_code 9 = .ok (.if_icmp .le 102, 3) := by decide +kernel
theorem d3_12 : decode prog_70_method_2_code 12 = .ok (.aload_n 0, 1) := by decide +kernel
theorem d3_13 : decode prog_70_method_2_code 13 = .ok (.getfield 25, 3) := by decide +kernel
theorem d3_16 : decode prog_70_method_2_code 16 = .ok (.aload_n 0, 1) := by decide +kernel
theorem d3_17 : decode prog_70_method_2_code 17 = .ok (.getfield 11, 3) := by decide +kernel
theorem d3_20 : decode prog_70_method_2_code 20 = .ok (.arraylength, 1) := by decide +kernel
theorem d3_21 : decode prog_70_method_2_code 21 = .ok (.if_icmp .ne 43, 3) := by decide +kernel
theorem d3_24 : decode prog_70_method_2_code 24 = .ok (.aload_n 0, 1) := by decide +kernel
theorem d3_25 : decode prog_70_method_2_code 25 = .ok (.aload_n 0, 1) := by decide +kernel
theorem d3_26 : decode prog_70_method_2_code 26 = .ok (.getfield 11, 3) := by decide +kernel
theorem d3_29 : decode prog_70_method_2_code 29 = .ok (.iconst 2, 1) := by decide +kernel
theorem d3_30 : decode prog_70_method_2_code 30 = .ok (.aload_n 0, 1) := by decide +kernel
theorem d3_31 : decode prog_70_method_2_code 31 = .ok (.getfield 25, 3) := by decide +kernel
theorem d3_34 : decode prog_70_method_2_code 34 = .ok (.imul, 1) := by decide +kernel
theorem d3_35 : decode prog_70_method_2_code 35 = .ok (.invokestatic 28, 3) := by decide +kernel
theorem d3_38 : decode prog_70_method_2_code 38 = .ok (.checkcast 34, 3) := by decide +kernel
theorem d3_41 : decode prog_70_method_2_code 41 = .ok (.putfield 11, 3) := by decide +kernel
theorem d3_44 : decode prog_70_method_2_code 44 = .ok (.aload_n 0, 1) := by decide +kernel
theorem d3_45 : decode prog_70_method_2_code 45 = .ok (.aload_n 0, 1) := by decide +kernel
theorem d3_46 : decode prog_70_method_2_code 46 = .ok (.getfield 17, 3) := by decide +kernel
theorem d3_49 : decode prog_70_method_2_code 49 = .ok (.iconst 2, 1) := by decide +kernel
theorem d3_50 : decode prog_70_method_2_code 50 = .ok (.aload_n 0, 1) := by decide +kernel
theorem d3_51 : decode prog_70_method_2_code 51 = .ok (.getfield 25, 3) := by decide +kernel
theorem d3_54 : decode prog_70_method_2_code 54 = .ok (.imul, 1) := by decide +kernel
theorem d3_55 : decode prog_70_method_2_code 55 = .ok (.invokestatic 28, 3) := by decide +kernel
theorem d3_58 : decode prog_70_method_2_code 58 = .ok (.checkcast 35, 3) := by decide +kernel
theorem d3_61 : decode prog_70_method_2_code 61 = .ok (.putfield 17, 3) := by decide +kernel
theorem d3_64 : decode prog_70_method_2_code 64 = .ok (.sipush 256, 3) := by decide +kernel
theorem d3_67 : decode prog_70_method_2_code 67 = .ok (.iload_n 1, 1) := by decide +kernel
theorem d3_68 : decode prog_70_method_2_code 68 = .ok (.invokestatic 36, 3) := by decide +kernel
theorem d3_71 : decode prog_70_method_2_code 71 = .ok (.istore_n 2, 1) := by decide +kernel
theorem d3_72 : decode prog_70_method_2_code 72 = .ok (.aload_n 0, 1) := by decide +kernel
theorem d3_73 : decode prog_70_method_2_code 73 = .ok (.getfield 11, 3) := by decide +kernel
theorem d3_76 : decode prog_70_method_2_code 76 = .ok (.aload_n 0, 1) := by decide +kernel
theorem d3_77 : decode prog_70_method_2_code 77 = .ok (.getfield 25, 3) := by decide +kernel
theorem d3_80 : decode prog_70_method_2_code 80 = .ok (.iload_n 2, 1) := by decide +kernel
theorem d3_81 : decode prog_70_method_2_code 81 = .ok (.newarray .int, 2) := by decide +kernel
theorem d3_83 : decode prog_70_method_2_code 83 = .ok (.aastore, 1) := by decide +kernel
theorem d3_84 : decode prog_70_method_2_code 84 = .ok (.aload_n 0, 1) := by decide +kernel
theorem d3_85 : decode prog_70_method_2_code 85 = .ok (.getfield 17, 3) := by decide +kernel
theorem d3_88 : decode prog_70_method_2_code 88 = .ok (.aload_n 0, 1) := by decide +kernel
theorem d3_89 : decode prog_70_method_2_code 89 = .ok (.getfield 25, 3) := by decide +kernel
theorem d3_92 : decode prog_70_method_2_code 92 = .ok (.iload_n 2, 1) := by decide +kernel
theorem d3_93 : decode prog_70_method_2_code 93 = .ok (.newarray .long, 2) := by decide +kernel
theorem d3_95 : decode prog_70_method_2_code 95 = .ok (.aastore, 1) := by decide +kernel
theorem d3_96 : decode prog_70_method_2_code 96 = .ok (.aload_n 0, 1) := by decide +kernel
theorem d3_97 : decode prog_70_method_2_code 97 = .ok (.dup, 1) := by decide +kernel
theorem d3_98 : decode prog_70_method_2_code 98 = .ok (.getfield 25, 3) := by decide +kernel
theorem d3_101 : decode prog_70_method_2_code 101 = .ok (.iconst 1, 1) := by decide +kernel
theorem d3_102 : decode prog_70_method_2_code 102 = .ok (.iadd, 1) := by decide +kernel
theorem d3_103 : decode prog_70_method_2_code 103 = .ok (.putfield 25, 3) := by decide +kernel
theorem d3_106 : decode prog_70_method_2_code 106 = .ok (.aload_n 0, 1) := by decide +kernel
theorem d3_107 : decode prog_70_method_2_code 107 = .ok (.iconst 0, 1) := by decide +kernel
theorem d3_108 : decode prog_70_method_2_code 108 = .ok (.putfield 21, 3) := by decide +kernel
theorem d3_111 : decode prog_70_method_2_code 111 = .ok (.aload_n 0, 1) := by decide +kernel
theorem d3_112 : decode prog_70_method_2_code 112 = .ok (.getfield 25, 3) := by decide +kernel
theorem d3_115 : decode prog_70_method_2_code 115 = .ok (.iconst 1, 1) := by decide +kernel
theorem d3_116 : decode prog_70_method_2_code 116 = .ok (.isub, 1) := by decide +kernel
theorem d3_117 : decode prog_70_method_2_code 117 = .ok (.bipush 8, 2) := by decide +kernel
theorem d3_119 : decode prog_70_method_2_code 119 = .ok (.ishl, 1) := by decide +kernel
theorem d3_120 : decode prog_70_method_2_code 120 = .ok (.aload_n 0, 1) := by decide +kernel
theorem d3_121 : decode prog_70_method_2_code 121 = .ok (.getfield 21, 3) := by decide +kernel
theorem d3_124 : decode prog_70_method_2_code 124 = .ok (.ior, 1) := by decide +kernel
theorem d3_125 : decode prog_70_method_2_code 125 = .ok (.istore_n 2, 1) := by decide +kernel
theorem d3_126 : decode prog_70_method_2_code 126 = .ok (.aload_n 0, 1) := by decide +kernel
theorem d3_127 : decode prog_70_method_2_code 127 = .ok (.iload_n 1, 1) := by decide +kernel
theorem d3_128 : decode prog_70_method_2_code 128 = .ok (.sipush 256, 3) := by decide +kernel
theorem d3_131 : decode prog_70_method_2_code 131 = .ok (.if_icmp .lt 9, 3) := by decide +kernel
theorem d3_134 : decode prog_70_method_2_code 134 = .ok (.sipush 256, 3) := by decide +kernel
theorem d3_137 : decode prog_70_method_2_code 137 = .ok (.goto 9, 3) := by decide +kernel
theorem d3_140 : decode prog_70_method_2_code 140 = .ok (.aload_n 0, 1) := by decide +kernel
theorem d3_141 : decode prog_70_method_2_code 141 = .ok (.getfield 21, 3) := by decide +kernel
theorem d3_144 : decode prog_70_method_2_code 144 = .ok (.iload_n 1, 1) := by decide +kernel
theorem d3_145 : decode prog_70_method_2_code 145 = .ok (.iadd, 1) := by decide +kernel
theorem d3_146 : decode prog_70_method_2_code 146 = .ok (.putfield 21, 3) := by decide +kernel
theorem d3_149 : decode prog_70_method_2_code 149 = .ok (.iload_n 2, 1) := by decide +kernel
theorem d3_150 : decode prog_70_method_2_code 150 = .ok (.ireturn, 1) := by decide +kernel
theorem pn_3 : plainFor (⟨"com/example/wending/wending/search/PairRuns", "add", "(I)I"⟩ : MethodName) = true := plainFor_of_name (by first | (simp [plainName, overriddenIn]; done) | decide +kernel)
theorem pd_0 : parseMethodDescriptor "(II)I" = some ⟨[.int, .int], some .int⟩ := by decide +kernel
set_option maxRecDepth 65536 in
set_option maxHeartbeats 40000000 in
theorem con_add (l : Launch) (Z : State) (a0 : Array Value) (hw : ∀ d ∈ tables_1, d.before a0 Z = true) (a : Addr) (len : Int32) (p q : Addr) (c : Nat) (zc fr : Int32) (N D : Nat → Addr) (sz : Nat → Nat) (fo : Nat) (h0 : Heap) (n0 : Nat) (S : Pr Z h0 n0 a p q c zc fr N D sz (fun _ _ => 0) (fun _ _ => 0)) (hfo : fr.toInt = (fo : Int)) (hfr : fo ≤ 256) (hc2 : c ≤ 2) (hc0 : c = 0 → fo = 256) (hsz : ∀ j, j < c → 256 ≤ sz j) (hl1 : 1 ≤ len.toInt) (hl2 : len.toInt ≤ 512) :
    Con l Z (⟨"com/example/wending/wending/search/PairRuns", "add", "(I)I"⟩ : MethodName) prog_70_method_2_code 3 (some .int) ⟨1, 2, 1024, 15⟩ [(.ref a), (.int len)] h0 n0 (RetI fun r h => ∃ (c' : Nat) (zc' fr' : Int32) (N' D' : Nat → Addr) (sz' : Nat → Nat) (ci fo' : Nat), Pr Z h n0 a p q c' zc' fr' N' D' sz' (fun _ _ => 0) (fun _ _ => 0) ∧ r.toInt = 256 * (ci : Int) + fo' ∧ c ≤ c' ∧ c' ≤ c + 1 ∧ (∀ j, j < c → N' j = N j ∧ D' j = D j ∧ sz' j = sz j) ∧ (∀ j, j < c' → 256 ≤ sz' j) ∧ ci < c' ∧ fo' ≤ 255 ∧ fo' + len.toInt ≤ sz' ci ∧ ((ci = c ∧ c' = c + 1 ∧ fo' = 0) ∨ (ci = c - 1 ∧ fo' = fo ∧ 1 ≤ c)) ∧ ((fr'.toInt = fo' + len.toInt ∧ fr'.toInt ≤ 256) ∨ fr'.toInt = 256)) := by
  refine Con.body (L0 := #[.val (.ref a), .val (.int len), .unset]) hw pn_3 (fun m => by first | (simp [entryFrame, mkF, argsToLocals, Value.category]; done) | rfl) (fun K O => ?_)
  obtain ⟨⟨hE, fq1, fq2, fq3, fq4⟩, ⟨hAp, hAq, hTp, hTq⟩, ⟨nap, naq, npq, ga, gp, gq⟩, hCh, ⟨oA, oP, oQ⟩, hAp2, hG, hzc⟩ := id S
  refine w_iloadN O d3_0 (pc' := 1) rfl rfl ?_
  refine w_sipush O d3_1 (z := (256 : Int32)) (pc' := 4) rfl rfl ?_
  refine w_aloadN O d3_4 (pc' := 5) rfl rfl rfl ?_
  refine w_getf O d3_5 (pc' := 8) rfl (mw 17 rfl) fq3 ?_
  refine w_isub O d3_8 (pc' := 9) rfl ?_
  have i1 : (((256 : Int32) - fr).toInt - (256 - fr.toInt)) % 4294967296 = 0 := c_isub (256 : Int32) fr
  have i2 := rng32 ((256 : Int32) - fr)
  refine w_icmp_le O d3_9 (pn := 12) (pt := 111) rfl (by decide) rfl (fun c9 => ?_) (fun c9 => ?_)
  · refine w_aloadN O d3_111 (pc' := 112) rfl rfl rfl ?_
    refine w_getf O d3_112 (pc' := 115) rfl (mw 24 rfl) fq4 ?_
    refine w_iconst O d3_115 (z := (1 : Int32)) (pc' := 116) rfl rfl ?_
    refine w_isub O d3_116 (pc' := 117) rfl ?_
    refine w_bipush O d3_117 (z := (8 : Int32)) (pc' := 119) rfl rfl ?_
    refine w_ishl O d3_119 (pc' := 120) rfl ?_
    refine w_aloadN O d3_120 (pc' := 121) rfl rfl rfl ?_
    refine w_getf O d3_121 (pc' := 124) rfl (mw 17 rfl) fq3 ?_
    refine w_ior O d3_124 (pc' := 125) rfl ?_
    refine w_istoreNG O d3_125 (L' := fun zq => #[.val (.ref a), .val (.int len), .val (.int zq)]) (pc' := 126) rfl (fun _ => rfl) (fun run e_run => ?_)
    have i3 : ((zc - (1 : Int32)).toInt - (zc.toInt - 1)) % 4294967296 = 0 := c_isub zc (1 : Int32)
    have i4 := rng32 (zc - (1 : Int32))
    have hrun : run.toInt = 256 * ((c - 1 : Nat) : Int) + (fo : Nat) := by rw [e_run]; exact own_run (zc - (1 : Int32)) fr (c - 1) (fo) (by omega) (by omega) hfo (by omega)
    refine w_aloadN O d3_126 (pc' := 127) rfl rfl rfl ?_
    refine w_iloadN O d3_127 (pc' := 128) rfl rfl ?_
    refine w_sipush O d3_128 (z := (256 : Int32)) (pc' := 131) rfl rfl ?_
    refine w_icmp_lt O d3_131 (pn := 134) (pt := 140) rfl (by decide) rfl (fun c131 => ?_) (fun c131 => ?_)
    · replace c131 : len.toInt < 256 := c131
      refine w_aloadN O d3_140 (pc' := 141) rfl rfl rfl ?_
      refine w_getf O d3_141 (pc' := 144) rfl (mw 17 rfl) fq3 ?_
      refine w_iloadN O d3_144 (pc' := 145) rfl rfl ?_
      refine w_iadd O d3_145 (pc' := 146) rfl ?_
      refine w_putf O d3_146 (pc' := 149) rfl (mw 17 rfl) (mw 1 rfl) (Or.inl (mw 18 rfl)) fq3 hE ga (ty := .int) (by decide) rfl rfl (fun h5 Wh5 => ?_)
      have hE_h5 := hE.wr Wh5
      have fq1_h5 := Fld.other Wh5 fq1 (Or.inr (Jvm.RoadKit.slot_ne (Or.inl (O.2.2.2.2.2.2.2.2.1 _ (mw 12 rfl))) (Or.inl (O.2.2.2.2.2.2.2.2.1 _ (mw 18 rfl))) (by decide) (t := (.array (.array .int))) (t' := .int) (by decide) (by decide)))
      have fq2_h5 := Fld.other Wh5 fq2 (Or.inr (Jvm.RoadKit.slot_ne (Or.inl (O.2.2.2.2.2.2.2.2.1 _ (mw 16 rfl))) (Or.inl (O.2.2.2.2.2.2.2.2.1 _ (mw 18 rfl))) (by decide) (t := (.array (.array .long))) (t' := .int) (by decide) (by decide)))
      have fq3_h5 := Fld.same Wh5 fq3
      have fq4_h5 := Fld.other Wh5 fq4 (Or.inr (Jvm.RoadKit.slot_ne (Or.inl (O.2.2.2.2.2.2.2.2.1 _ (mw 25 rfl))) (Or.inl (O.2.2.2.2.2.2.2.2.1 _ (mw 18 rfl))) (by decide) (t := .int) (t' := .int) (by decide) (by decide)))
      have hAp_h5 := hAp.other Wh5 (Ne.symm nap)
      have hAq_h5 := hAq.other Wh5 (Ne.symm naq)
      have hTp_h5 := hTp.wr Wh5
      have hTq_h5 := hTq.wr Wh5
      have hCh_h5 := Ch.wr hCh Wh5 oA
      refine w_iloadN O d3_149 (pc' := 150) rfl rfl ?_
      refine w_reti O d3_150 (by decide) (by decide) ?_
      have y1 := c_iadd fr len
      have y2 := rng32 (fr + len)
      have e256 : (256 : Int32).toInt = 256 := by decide
      refine ⟨_, rfl, c, zc, _, N, D, sz, c - 1, fo, ⟨⟨hE_h5, fq1_h5, fq2_h5, fq3_h5, fq4_h5⟩, ⟨hAp_h5, hAq_h5, hTp_h5, hTq_h5⟩, ⟨nap, naq, npq, ga, gp, gq⟩, hCh_h5, ⟨oA, oP, oQ⟩, hAp2, hG, hzc⟩, hrun, Nat.le_refl _, Nat.le_succ _, fun j _ => ⟨rfl, rfl, rfl⟩, hsz, by omega, by omega, ?_, Or.inr ⟨rfl, rfl, by omega⟩, ?_⟩
      · have := hsz (c - 1) (by omega); omega
      · omega
    · replace c131 : ¬ len.toInt < 256 := c131
      refine w_sipush O d3_134 (z := (256 : Int32)) (pc' := 137) rfl rfl ?_
      refine w_goto O d3_137 (pc' := 146) (by decide) rfl ?_
      refine w_putf O d3_146 (pc' := 149) rfl (mw 17 rfl) (mw 1 rfl) (Or.inl (mw 18 rfl)) fq3 hE ga (ty := .int) (by decide) rfl rfl (fun h6 Wh6 => ?_)
      have hE_h6 := hE.wr Wh6
      have fq1_h6 := Fld.other Wh6 fq1 (Or.inr (Jvm.RoadKit.slot_ne (Or.inl (O.2.2.2.2.2.2.2.2.1 _ (mw 12 rfl))) (Or.inl (O.2.2.2.2.2.2.2.2.1 _ (mw 18 rfl))) (by decide) (t := (.array (.array .int))) (t' := .int) (by decide) (by decide)))
      have fq2_h6 := Fld.other Wh6 fq2 (Or.inr (Jvm.RoadKit.slot_ne (Or.inl (O.2.2.2.2.2.2.2.2.1 _ (mw 16 rfl))) (Or.inl (O.2.2.2.2.2.2.2.2.1 _ (mw 18 rfl))) (by decide) (t := (.array (.array .long))) (t' := .int) (by decide) (by decide)))
      have fq3_h6 := Fld.same Wh6 fq3
      have fq4_h6 := Fld.other Wh6 fq4 (Or.inr (Jvm.RoadKit.slot_ne (Or.inl (O.2.2.2.2.2.2.2.2.1 _ (mw 25 rfl))) (Or.inl (O.2.2.2.2.2.2.2.2.1 _ (mw 18 rfl))) (by decide) (t := .int) (t' := .int) (by decide) (by decide)))
      have hAp_h6 := hAp.other Wh6 (Ne.symm nap)
      have hAq_h6 := hAq.other Wh6 (Ne.symm naq)
      have hTp_h6 := hTp.wr Wh6
      have hTq_h6 := hTq.wr Wh6
      have hCh_h6 := Ch.wr hCh Wh6 oA
      refine w_iloadN O d3_149 (pc' := 150) rfl rfl ?_
      refine w_reti O d3_150 (by decide) (by decide) ?_
      have e256 : (256 : Int32).toInt = 256 := by decide
      refine ⟨_, rfl, c, zc, _, N, D, sz, c - 1, fo, ⟨⟨hE_h6, fq1_h6, fq2_h6, fq3_h6, fq4_h6⟩, ⟨hAp_h6, hAq_h6, hTp_h6, hTq_h6⟩, ⟨nap, naq, npq, ga, gp, gq⟩, hCh_h6, ⟨oA, oP, oQ⟩, hAp2, hG, hzc⟩, hrun, Nat.le_refl _, Nat.le_succ _, fun j _ => ⟨rfl, rfl, rfl⟩, hsz, by omega, by omega, ?_, Or.inr ⟨rfl, rfl, by omega⟩, ?_⟩
      · have := hsz (c - 1) (by omega); omega
      · omega
  · refine w_aloadN O d3_12 (pc' := 13) rfl rfl rfl ?_
    refine w_getf O d3_13 (pc' := 16) rfl (mw 24 rfl) fq4 ?_
    refine w_aloadN O d3_16 (pc' := 17) rfl rfl rfl ?_
    refine w_getf O d3_17 (pc' := 20) rfl (mw 11 rfl) fq1 ?_
    refine w_alen O d3_20 (z := (4 : Int32)) (pc' := 21) rfl hAp (by decide) ?_
    refine w_icmp_ne O d3_21 (pn := 24) (pt := 64) rfl (by decide) rfl (fun c21 => ?_) (fun c21 => absurd (show zc.toInt = 4 from c21) (by omega))
    replace c21 : ¬ zc.toInt = 4 := c21
    refine w_sipush O d3_64 (z := (256 : Int32)) (pc' := 67) rfl rfl ?_
    refine w_iloadN O d3_67 (pc' := 68) rfl rfl ?_
    refine w_static O d3_68 (as := [(.int (256 : Int32)), (.int len)]) (st := []) (wt := 0) (cl' := 0) (sl' := 0) (pc' := 71) rfl (mw 26 rfl) (mw 27 rfl) (mw 28 rfl) (mw 29 rfl) (by decide) (con_max l Z a0 hw (256 : Int32) len h0 n0) rfl pd_0 rfl rfl rfl (by decide) (by decide) rfl rfl (by decide) (by decide) (cI fun mx _ ⟨qm, sm⟩ => ?_)
    rw [qm]
    obtain ⟨m, hm⟩ : ∃ m : Nat, mx.toInt = (m : Int) := ⟨mx.toInt.toNat, by rcases sm with ⟨z1, rfl⟩ | ⟨z1, rfl⟩ <;> (try have e256 : (256 : Int32).toInt = 256 := by decide) <;> omega⟩
    have hm2 : 256 ≤ m ∧ m ≤ 512 ∧ len.toInt ≤ m := by
      have e256 : (256 : Int32).toInt = 256 := by decide
      rcases sm with ⟨z1, rfl⟩ | ⟨z1, rfl⟩ <;> omega
    refine w_istoreN O d3_71 (L' := #[.val (.ref a), .val (.int len), .val (.int mx)]) (pc' := 72) rfl rfl ?_
    refine w_aloadN O d3_72 (pc' := 73) rfl rfl rfl ?_
    refine w_getf O d3_73 (pc' := 76) rfl (mw 11 rfl) fq1 ?_
    refine w_aloadN O d3_76 (pc' := 77) rfl rfl rfl ?_
    refine w_getf O d3_77 (pc' := 80) rfl (mw 24 rfl) fq4 ?_
    refine w_iloadN O d3_80 (pc' := 81) rfl rfl ?_
    have lt0b : ∀ j, j < c → N j < h0.size ∧ D j < h0.size := fun j hj => ⟨(hCh j hj).1.lt, (hCh j hj).2.lt⟩
    refine w_newarrE O d3_81 (ty := .int) (ad := "[I") (dv := (.int (0 : Int32))) (n := m) (cap := 512) (cl' := 1) (sl' := 512) (pc' := 83) rfl rfl rfl rfl (mw 30 rfl) hm (by omega) (by decide) rfl rfl (by decide) (by decide) (fun h7 b qb g_b Eh7 A_b E_b => ?_)
    have ne_a_b : a ≠ b := Nat.ne_of_lt (by rw [qb]; exact hE.lt)
    have ne_p_b : p ≠ b := Nat.ne_of_lt (by rw [qb]; exact hAp.lt)
    have ne_q_b : q ≠ b := Nat.ne_of_lt (by rw [qb]; exact hAq.lt)
    have hE_h7 := Exa.ext Eh7 hE
    have fq1_h7 := Fld.ext Eh7 fq1
    have fq2_h7 := Fld.ext Eh7 fq2
    have fq3_h7 := Fld.ext Eh7 fq3
    have fq4_h7 := Fld.ext Eh7 fq4
    have hAp_h7 := hAp.ext Eh7
    have hAq_h7 := hAq.ext Eh7
    have hTp_h7 := hTp.ext Eh7
    have hTq_h7 := hTq.ext Eh7
    have hCh_h7 := Ch.ext hCh Eh7
    have ltB : ∀ j, j < c → N j ≠ b ∧ D j ≠ b := fun j hj => ⟨Nat.ne_of_lt (by rw [qb]; exact (lt0b j hj).1), Nat.ne_of_lt (by rw [qb]; exact (lt0b j hj).2)⟩
    refine w_aastore O d3_83 (i := c) (pc' := 84) rfl hAp_h7 rfl hzc (by omega) gp (Tk.sto hTp_h7 (Ins.self E_b)) (fun h9 Wh9 => ?_)
    have hE_h9 := hE_h7.wr Wh9
    have fq1_h9 := Fld.other Wh9 fq1_h7 (Or.inl nap)
    have fq2_h9 := Fld.other Wh9 fq2_h7 (Or.inl nap)
    have fq3_h9 := Fld.other Wh9 fq3_h7 (Or.inl nap)
    have fq4_h9 := Fld.other Wh9 fq4_h7 (Or.inl nap)
    have hAp_h9 := hAp_h7.set Wh9
    have hAq_h9 := hAq_h7.other Wh9 (Ne.symm npq)
    have hTp_h9 := hTp_h7.wr Wh9
    have hTq_h9 := hTq_h7.wr Wh9
    have hCh_h9 := Ch.wr hCh_h7 Wh9 oP
    have A_b_h9 := A_b.other Wh9 (Ne.symm ne_p_b)
    have E_b_h9 := E_b.wr Wh9
    refine w_aloadN O d3_84 (pc' := 85) rfl rfl rfl ?_
    refine w_getf O d3_85 (pc' := 88) rfl (mw 15 rfl) fq2_h9 ?_
    refine w_aloadN O d3_88 (pc' := 89) rfl rfl rfl ?_
    refine w_getf O d3_89 (pc' := 92) rfl (mw 24 rfl) fq4_h9 ?_
    refine w_iloadN O d3_92 (pc' := 93) rfl rfl ?_
    have lt0d : ∀ j, j < c → N j < h9.size ∧ D j < h9.size := fun j hj => ⟨(hCh_h9 j hj).1.lt, (hCh_h9 j hj).2.lt⟩
    refine w_newarrE O d3_93 (ty := .long) (ad := "[J") (dv := (.long (0 : Int64))) (n := m) (cap := 512) (cl' := 2) (sl' := 1024) (pc' := 95) rfl rfl rfl rfl (mw 32 rfl) hm (by omega) (by decide) rfl rfl (by decide) (by decide) (fun h10 d qd g_d Eh10 A_d E_d => ?_)
    have ne_a_d : a ≠ d := Nat.ne_of_lt (by rw [qd]; exact hE_h9.lt)
    have ne_p_d : p ≠ d := Nat.ne_of_lt (by rw [qd]; exact hAp_h9.lt)
    have ne_q_d : q ≠ d := Nat.ne_of_lt (by rw [qd]; exact hAq_h9.lt)
    have ne_b_d : b ≠ d := Nat.ne_of_lt (by rw [qd]; exact A_b_h9.lt)
    have hE_h10 := Exa.ext Eh10 hE_h9
    have fq1_h10 := Fld.ext Eh10 fq1_h9
    have fq2_h10 := Fld.ext Eh10 fq2_h9
    have fq3_h10 := Fld.ext Eh10 fq3_h9
    have fq4_h10 := Fld.ext Eh10 fq4_h9
    have hAp_h10 := hAp_h9.ext Eh10
    have hAq_h10 := hAq_h9.ext Eh10
    have hTp_h10 := hTp_h9.ext Eh10
    have hTq_h10 := hTq_h9.ext Eh10
    have hCh_h10 := Ch.ext hCh_h9 Eh10
    have A_b_h10 := A_b_h9.ext Eh10
    have E_b_h10 := Exa.ext Eh10 E_b_h9
    have ltD : ∀ j, j < c → N j ≠ d ∧ D j ≠ d := fun j hj => ⟨Nat.ne_of_lt (by rw [qd]; exact (lt0d j hj).1), Nat.ne_of_lt (by rw [qd]; exact (lt0d j hj).2)⟩
    refine w_aastore O d3_95 (i := c) (pc' := 96) rfl hAq_h10 rfl hzc (by omega) gq (Tk.sto hTq_h10 (Ins.self E_d)) (fun h12 Wh12 => ?_)
    have hE_h12 := hE_h10.wr Wh12
    have fq1_h12 := Fld.other Wh12 fq1_h10 (Or.inl naq)
    have fq2_h12 := Fld.other Wh12 fq2_h10 (Or.inl naq)
    have fq3_h12 := Fld.other Wh12 fq3_h10 (Or.inl naq)
    have fq4_h12 := Fld.other Wh12 fq4_h10 (Or.inl naq)
    have hAp_h12 := hAp_h10.other Wh12 npq
    have hAq_h12 := hAq_h10.set Wh12
    have hTp_h12 := hTp_h10.wr Wh12
    have hTq_h12 := hTq_h10.wr Wh12
    have hCh_h12 := Ch.wr hCh_h10 Wh12 oQ
    have A_b_h12 := A_b_h10.other Wh12 (Ne.symm ne_q_b)
    have E_b_h12 := E_b_h10.wr Wh12
    have A_d_h12 := A_d.other Wh12 (Ne.symm ne_q_d)
    have E_d_h12 := E_d.wr Wh12
    refine w_aloadN O d3_96 (pc' := 97) rfl rfl rfl ?_
    refine w_dup O d3_97 (pc' := 98) rfl rfl ?_
    refine w_getf O d3_98 (pc' := 101) rfl (mw 24 rfl) fq4_h12 ?_
    refine w_iconst O d3_101 (z := (1 : Int32)) (pc' := 102) rfl rfl ?_
    refine w_iadd O d3_102 (pc' := 103) rfl ?_
    refine w_putf O d3_103 (pc' := 106) rfl (mw 24 rfl) (mw 1 rfl) (Or.inl (mw 25 rfl)) fq4_h12 hE_h12 ga (ty := .int) (by decide) rfl rfl (fun h13 Wh13 => ?_)
    have hE_h13 := hE_h12.wr Wh13
    have fq1_h13 := Fld.other Wh13 fq1_h12 (Or.inr (Jvm.RoadKit.slot_ne (Or.inl (O.2.2.2.2.2.2.2.2.1 _ (mw 12 rfl))) (Or.inl (O.2.2.2.2.2.2.2.2.1 _ (mw 25 rfl))) (by decide) (t := (.array (.array .int))) (t' := .int) (by decide) (by decide)))
    have fq2_h13 := Fld.other Wh13 fq2_h12 (Or.inr (Jvm.RoadKit.slot_ne (Or.inl (O.2.2.2.2.2.2.2.2.1 _ (mw 16 rfl))) (Or.inl (O.2.2.2.2.2.2.2.2.1 _ (mw 25 rfl))) (by decide) (t := (.array (.array .long))) (t' := .int) (by decide) (by decide)))
    have fq3_h13 := Fld.other Wh13 fq3_h12 (Or.inr (Jvm.RoadKit.slot_ne (Or.inl (O.2.2.2.2.2.2.2.2.1 _ (mw 18 rfl))) (Or.inl (O.2.2.2.2.2.2.2.2.1 _ (mw 25 rfl))) (by decide) (t := .int) (t' := .int) (by decide) (by decide)))
    have fq4_h13 := Fld.same Wh13 fq4_h12
    have hAp_h13 := hAp_h12.other Wh13 (Ne.symm nap)
    have hAq_h13 := hAq_h12.other Wh13 (Ne.symm naq)
    have hTp_h13 := hTp_h12.wr Wh13
    have hTq_h13 := hTq_h12.wr Wh13
    have hCh_h13 := Ch.wr hCh_h12 Wh13 oA
    have A_b_h13 := A_b_h12.other Wh13 (Ne.symm ne_a_b)
    have E_b_h13 := E_b_h12.wr Wh13
    have A_d_h13 := A_d_h12.other Wh13 (Ne.symm ne_a_d)
    have E_d_h13 := E_d_h12.wr Wh13
    refine w_aloadN O d3_106 (pc' := 107) rfl rfl rfl ?_
    refine w_iconst O d3_107 (z := (0 : Int32)) (pc' := 108) rfl rfl ?_
    refine w_putf O d3_108 (pc' := 111) rfl (mw 17 rfl) (mw 1 rfl) (Or.inl (mw 18 rfl)) fq3_h13 hE_h13 ga (ty := .int) (by decide) rfl rfl (fun h14 Wh14 => ?_)
    have hE_h14 := hE_h13.wr Wh14
    have fq1_h14 := Fld.other Wh14 fq1_h13 (Or.inr (Jvm.RoadKit.slot_ne (Or.inl (O.2.2.2.2.2.2.2.2.1 _ (mw 12 rfl))) (Or.inl (O.2.2.2.2.2.2.2.2.1 _ (mw 18 rfl))) (by decide) (t := (.array (.array .int))) (t' := .int) (by decide) (by decide)))
    have fq2_h14 := Fld.other Wh14 fq2_h13 (Or.inr (Jvm.RoadKit.slot_ne (Or.inl (O.2.2.2.2.2.2.2.2.1 _ (mw 16 rfl))) (Or.inl (O.2.2.2.2.2.2.2.2.1 _ (mw 18 rfl))) (by decide) (t := (.array (.array .long))) (t' := .int) (by decide) (by decide)))
    have fq3_h14 := Fld.same Wh14 fq3_h13
    have fq4_h14 := Fld.other Wh14 fq4_h13 (Or.inr (Jvm.RoadKit.slot_ne (Or.inl (O.2.2.2.2.2.2.2.2.1 _ (mw 25 rfl))) (Or.inl (O.2.2.2.2.2.2.2.2.1 _ (mw 18 rfl))) (by decide) (t := .int) (t' := .int) (by decide) (by decide)))
    have hAp_h14 := hAp_h13.other Wh14 (Ne.symm nap)
    have hAq_h14 := hAq_h13.other Wh14 (Ne.symm naq)
    have hTp_h14 := hTp_h13.wr Wh14
    have hTq_h14 := hTq_h13.wr Wh14
    have hCh_h14 := Ch.wr hCh_h13 Wh14 oA
    have A_b_h14 := A_b_h13.other Wh14 (Ne.symm ne_a_b)
    have E_b_h14 := E_b_h13.wr Wh14
    have A_d_h14 := A_d_h13.other Wh14 (Ne.symm ne_a_d)
    have E_d_h14 := E_d_h13.wr Wh14
    refine w_aloadN O d3_111 (pc' := 112) rfl rfl rfl ?_
    refine w_getf O d3_112 (pc' := 115) rfl (mw 24 rfl) fq4_h14 ?_
    refine w_iconst O d3_115 (z := (1 : Int32)) (pc' := 116) rfl rfl ?_
    refine w_isub O d3_116 (pc' := 117) rfl ?_
    refine w_bipush O d3_117 (z := (8 : Int32)) (pc' := 119) rfl rfl ?_
    refine w_ishl O d3_119 (pc' := 120) rfl ?_
    refine w_aloadN O d3_120 (pc' := 121) rfl rfl rfl ?_
    refine w_getf O d3_121 (pc' := 124) rfl (mw 17 rfl) fq3_h14 ?_
    refine w_ior O d3_124 (pc' := 125) rfl ?_
    refine w_istoreNG O d3_125 (L' := fun zq => #[.val (.ref a), .val (.int len), .val (.int zq)]) (pc' := 126) rfl (fun _ => rfl) (fun run e_run => ?_)
    have i15 : ((zc + (1 : Int32)).toInt - (zc.toInt + 1)) % 4294967296 = 0 := c_iadd zc (1 : Int32)
    have i16 := rng32 (zc + (1 : Int32))
    have i17 : (((zc + (1 : Int32)) - (1 : Int32)).toInt - ((zc + (1 : Int32)).toInt - 1)) % 4294967296 = 0 := c_isub (zc + (1 : Int32)) (1 : Int32)
    have i18 := rng32 ((zc + (1 : Int32)) - (1 : Int32))
    have hrun : run.toInt = 256 * ((c : Nat) : Int) + (0 : Nat) := by rw [e_run]; exact own_run ((zc + (1 : Int32)) - (1 : Int32)) (0 : Int32) (c) (0) (by omega) (by omega) (by decide) (by omega)
    refine w_aloadN O d3_126 (pc' := 127) rfl rfl rfl ?_
    refine w_iloadN O d3_127 (pc' := 128) rfl rfl ?_
    refine w_sipush O d3_128 (z := (256 : Int32)) (pc' := 131) rfl rfl ?_
    refine w_icmp_lt O d3_131 (pn := 134) (pt := 140) rfl (by decide) rfl (fun c131 => ?_) (fun c131 => ?_)
    · replace c131 : len.toInt < 256 := c131
      refine w_aloadN O d3_140 (pc' := 141) rfl rfl rfl ?_
      refine w_getf O d3_141 (pc' := 144) rfl (mw 17 rfl) fq3_h14 ?_
      refine w_iloadN O d3_144 (pc' := 145) rfl rfl ?_
      refine w_iadd O d3_145 (pc' := 146) rfl ?_
      refine w_putf O d3_146 (pc' := 149) rfl (mw 17 rfl) (mw 1 rfl) (Or.inl (mw 18 rfl)) fq3_h14 hE_h14 ga (ty := .int) (by decide) rfl rfl (fun h19 Wh19 => ?_)
      have hE_h19 := hE_h14.wr Wh19
      have fq1_h19 := Fld.other Wh19 fq1_h14 (Or.inr (Jvm.RoadKit.slot_ne (Or.inl (O.2.2.2.2.2.2.2.2.1 _ (mw 12 rfl))) (Or.inl (O.2.2.2.2.2.2.2.2.1 _ (mw 18 rfl))) (by decide) (t := (.array (.array .int))) (t' := .int) (by decide) (by decide)))
      have fq2_h19 := Fld.other Wh19 fq2_h14 (Or.inr (Jvm.RoadKit.slot_ne (Or.inl (O.2.2.2.2.2.2.2.2.1 _ (mw 16 rfl))) (Or.inl (O.2.2.2.2.2.2.2.2.1 _ (mw 18 rfl))) (by decide) (t := (.array (.array .long))) (t' := .int) (by decide) (by decide)))
      have fq3_h19 := Fld.same Wh19 fq3_h14
      have fq4_h19 := Fld.other Wh19 fq4_h14 (Or.inr (Jvm.RoadKit.slot_ne (Or.inl (O.2.2.2.2.2.2.2.2.1 _ (mw 25 rfl))) (Or.inl (O.2.2.2.2.2.2.2.2.1 _ (mw 18 rfl))) (by decide) (t := .int) (t' := .int) (by decide) (by decide)))
      have hAp_h19 := hAp_h14.other Wh19 (Ne.symm nap)
      have hAq_h19 := hAq_h14.other Wh19 (Ne.symm naq)
      have hTp_h19 := hTp_h14.wr Wh19
      have hTq_h19 := hTq_h14.wr Wh19
      have hCh_h19 := Ch.wr hCh_h14 Wh19 oA
      have A_b_h19 := A_b_h14.other Wh19 (Ne.symm ne_a_b)
      have E_b_h19 := E_b_h14.wr Wh19
      have A_d_h19 := A_d_h14.other Wh19 (Ne.symm ne_a_d)
      have E_d_h19 := E_d_h14.wr Wh19
      refine w_iloadN O d3_149 (pc' := 150) rfl rfl ?_
      refine w_reti O d3_150 (by decide) (by decide) ?_
      have y0 : (0 : Int32).toInt = 0 := by decide
      have y1 := c_iadd (0 : Int32) len
      have y2 := rng32 ((0 : Int32) + len)
      have e256 : (256 : Int32).toInt = 256 := by decide
      have hN1 : Ch Z h19 (c + 1) (fun j => if j = c then b else N j) (fun j => if j = c then d else D j) (fun j => if j = c then m else sz j) (fun _ _ => 0) (fun _ _ => 0) := fun j hj => by
        by_cases z1 : j = c
        · simp only [z1, if_true]; exact ⟨A_b_h19, A_d_h19⟩
        · simp only [z1, if_false]; exact hCh_h19 j (by omega)
      refine ⟨_, rfl, c + 1, _, _, (fun j => if j = c then b else N j), (fun j => if j = c then d else D j), (fun j => if j = c then m else sz j), c, 0, ⟨⟨hE_h19, fq1_h19, fq2_h19, fq3_h19, fq4_h19⟩, ⟨(hAp_h19.congr own_cg), (hAq_h19.congr own_cg), hTp_h19, hTq_h19⟩, ⟨nap, naq, npq, ga, gp, gq⟩, hN1, ⟨?_, ?_, ?_⟩, ⟨?_, ?_⟩, ?_, ?_⟩, hrun, Nat.le_succ _, Nat.le_refl _, ?_, ?_, by omega, by omega, ?_, Or.inl ⟨rfl, rfl, rfl⟩, ?_⟩
      · exact own_off oA ⟨Ne.symm ne_a_b, Ne.symm ne_a_d⟩
      · exact own_off oP ⟨Ne.symm ne_p_b, Ne.symm ne_p_d⟩
      · exact own_off oQ ⟨Ne.symm ne_q_b, Ne.symm ne_q_d⟩
      · intro i j hi hj
        by_cases z1 : i = c <;> by_cases z2 : j = c <;> simp only [z1, z2, if_true, if_false]
        · exact ne_b_d
        · exact Ne.symm (ltB j (by omega)).2
        · exact (ltD i (by omega)).1
        · exact hAp2.1 i j (by omega) (by omega)
      · intro i j hi hj hij
        by_cases z1 : i = c <;> by_cases z2 : j = c <;> simp only [z1, z2, if_true, if_false]
        · omega
        · exact ⟨Ne.symm (ltB j (by omega)).1, Ne.symm (ltD j (by omega)).2⟩
        · exact ⟨(ltB i (by omega)).1, (ltD i (by omega)).2⟩
        · exact hAp2.2 i j (by omega) (by omega) hij
      · intro j hj
        by_cases z1 : j = c
        · simp only [z1, if_true]; exact ⟨g_b, g_d⟩
        · simp only [z1, if_false]; exact hG j (by omega)
      · omega
      · intro j hj
        have z1 : ¬ j = c := by omega
        exact ⟨if_neg z1, if_neg z1, if_neg z1⟩
      · intro j hj
        by_cases z1 : j = c
        · simp only [z1, if_true]; omega
        · simp only [z1, if_false]; exact hsz j (by omega)
      · simp only [if_true]; omega
      · omega
    · replace c131 : ¬ len.toInt < 256 := c131
      refine w_sipush O d3_134 (z := (256 : Int32)) (pc' := 137) rfl rfl ?_
      refine w_goto O d3_137 (pc' := 146) (by decide) rfl ?_
      refine w_putf O d3_146 (pc' := 149) rfl (mw 17 rfl) (mw 1 rfl) (Or.inl (mw 18 rfl)) fq3_h14 hE_h14 ga (ty := .int) (by decide) rfl rfl (fun h20 Wh20 => ?_)
      have hE_h20 := hE_h14.wr Wh20
      have fq1_h20 := Fld.other Wh20 fq1_h14 (Or.inr (Jvm.RoadKit.slot_ne (Or.inl (O.2.2.2.2.2.2.2.2.1 _ (mw 12 rfl))) (Or.inl (O.2.2.2.2.2.2.2.2.1 _ (mw 18 rfl))) (by decide) (t := (.array (.array .int))) (t' := .int) (by decide) (by decide)))
      have fq2_h20 := Fld.other Wh20 fq2_h14 (Or.inr (Jvm.RoadKit.slot_ne (Or.inl (O.2.2.2.2.2.2.2.2.1 _ (mw 16 rfl))) (Or.inl (O.2.2.2.2.2.2.2.2.1 _ (mw 18 rfl))) (by decide) (t := (.array (.array .long))) (t' := .int) (by decide) (by decide)))
      have fq3_h20 := Fld.same Wh20 fq3_h14
      have fq4_h20 := Fld.other Wh20 fq4_h14 (Or.inr (Jvm.RoadKit.slot_ne (Or.inl (O.2.2.2.2.2.2.2.2.1 _ (mw 25 rfl))) (Or.inl (O.2.2.2.2.2.2.2.2.1 _ (mw 18 rfl))) (by decide) (t := .int) (t' := .int) (by decide) (by decide)))
      have hAp_h20 := hAp_h14.other Wh20 (Ne.symm nap)
      have hAq_h20 := hAq_h14.other Wh20 (Ne.symm naq)
      have hTp_h20 := hTp_h14.wr Wh20
      have hTq_h20 := hTq_h14.wr Wh20
      have hCh_h20 := Ch.wr hCh_h14 Wh20 oA
      have A_b_h20 := A_b_h14.other Wh20 (Ne.symm ne_a_b)
      have E_b_h20 := E_b_h14.wr Wh20
      have A_d_h20 := A_d_h14.other Wh20 (Ne.symm ne_a_d)
      have E_d_h20 := E_d_h14.wr Wh20
      refine w_iloadN O d3_149 (pc' := 150) rfl rfl ?_
      refine w_reti O d3_150 (by decide) (by decide) ?_
      have e256 : (256 : Int32).toInt = 256 := by decide
      have hN1 : Ch Z h20 (c + 1) (fun j => if j = c then b else N j) (fun j => if j = c then d else D j) (fun j => if j = c then m else sz j) (fun _ _ => 0) (fun _ _ => 0) := fun j hj => by
        by_cases z1 : j = c
        · simp only [z1, if_true]; exact ⟨A_b_h20, A_d_h20⟩
        · simp only [z1, if_false]; exact hCh_h20 j (by omega)
      refine ⟨_, rfl, c + 1, _, _, (fun j => if j = c then b else N j), (fun j => if j = c then d else D j), (fun j => if j = c then m else sz j), c, 0, ⟨⟨hE_h20, fq1_h20, fq2_h20, fq3_h20, fq4_h20⟩, ⟨(hAp_h20.congr own_cg), (hAq_h20.congr own_cg), hTp_h20, hTq_h20⟩, ⟨nap, naq, npq, ga, gp, gq⟩, hN1, ⟨?_, ?_, ?_⟩, ⟨?_, ?_⟩, ?_, ?_⟩, hrun, Nat.le_succ _, Nat.le_refl _, ?_, ?_, by omega, by omega, ?_, Or.inl ⟨rfl, rfl, rfl⟩, ?_⟩
      · exact own_off oA ⟨Ne.symm ne_a_b, Ne.symm ne_a_d⟩
      · exact own_off oP ⟨Ne.symm ne_p_b, Ne.symm ne_p_d⟩
      · exact own_off oQ ⟨Ne.symm ne_q_b, Ne.symm ne_q_d⟩
      · intro i j hi hj
        by_cases z1 : i = c <;> by_cases z2 : j = c <;> simp only [z1, z2, if_true, if_false]
        · exact ne_b_d
        · exact Ne.symm (ltB j (by omega)).2
        · exact (ltD i (by omega)).1
        · exact hAp2.1 i j (by omega) (by omega)
      · intro i j hi hj hij
        by_cases z1 : i = c <;> by_cases z2 : j = c <;> simp only [z1, z2, if_true, if_false]
        · omega
        · exact ⟨Ne.symm (ltB j (by omega)).1, Ne.symm (ltD j (by omega)).2⟩
        · exact ⟨(ltB i (by omega)).1, (ltD i (by omega)).2⟩
        · exact hAp2.2 i j (by omega) (by omega) hij
      · intro j hj
        by_cases z1 : j = c
        · simp only [z1, if_true]; exact ⟨g_b, g_d⟩
        · simp only [z1, if_false]; exact hG j (by omega)
      · omega
      · intro j hj
        have z1 : ¬ j = c := by omega
        exact ⟨if_neg z1, if_neg z1, if_neg z1⟩
      · intro j hj
        by_cases z1 : j = c
        · simp only [z1, if_true]; omega
        · simp only [z1, if_false]; exact hsz j (by omega)
      · simp only [if_true]; omega
      · omega
theorem d6_0 : decode prog_70_method_3_code 0 = .ok (.aload_n 0, 1) := by decide +kernel
theorem d6_1 : decode prog_70_method_3_code 1 = .ok (.getfield 11, 3) := by decide +kernel
theorem d6_4 : decode prog_70_method_3_code 4 = .ok (.iload_n 1, 1) := by decide +kernel
theorem d6_5 : decode prog_70_method_3_code 5 = .ok (.bipush 8, 2) := by decide +kernel
theorem d6_7 : decode prog_70_method_3_code 7 = .ok (.iushr, 1) := by decide +kernel
theorem d6_8 : decode prog_70_method_3_code 8 = .ok (.aaload, 1) := by decide +kernel
theorem d6_9 : decode prog_70_method_3_code 9 = .ok (.iload_n 1, 1) := by decide +kernel
theorem d6_10 : decode prog_70_method_3_code 10 = .ok (.sipush 255, 3) := by decide +kernel
theorem d6_13 : decode prog_70_method_3_code 13 = .ok (.iand, 1) := by decide +kernel
theorem d6_14 : decode prog_70_method_3_code 14 = .ok (.iload_n 2, 1) := by decide +kernel
theorem d6_15 : decode prog_70_method_3_code 15 = .ok (.iadd, 1) := by decide +kernel
theorem d6_16 : decode prog_70_method_3_code 16 = .ok (.iaload, 1) := by decide +kernel
theorem d6_17 : decode prog_70_method_3_code 17 = .ok (.ireturn, 1) := by decide +kernel
theorem pn_6 : plainFor (⟨"com/example/wending/wending/search/PairRuns", "node", "(II)I"⟩ : MethodName) = true := plainFor_of_name (by first | (simp [plainName, overriddenIn]; done) | decide +kernel)
set_option maxRecDepth 65536 in
set_option maxHeartbeats 40000000 in
theorem con_node (l : Launch) (Z : State) (a0 : Array Value) (hw : ∀ d ∈ tables_1, d.before a0 Z = true) (a : Addr) (run i : Int32) (p q : Addr) (c : Nat) (zc fr : Int32) (N D : Nat → Addr) (sz : Nat → Nat) (vN : Nat → Nat → Int32) (vD : Nat → Nat → Int64) (ci fo k : Nat) (h0 : Heap) (n0 : Nat) (S : Pr Z h0 n0 a p q c zc fr N D sz vN vD) (hr : run.toInt = 256 * (ci : Int) + fo) (hci : ci < c) (hc4 : c ≤ 4) (hfo : fo ≤ 255) (hi : i.toInt = (k : Int)) (hk : fo + k < sz ci) :
    Con l Z (⟨"com/example/wending/wending/search/PairRuns", "node", "(II)I"⟩ : MethodName) prog_70_method_3_code 3 (some .int) ⟨0, 0, 0, 0⟩ [(.ref a), (.int run), (.int i)] h0 n0 (RetI fun r h => h = h0 ∧ r = vN ci (fo + k)) := by
  refine Con.body (L0 := #[.val (.ref a), .val (.int run), .val (.int i)]) hw pn_6 (fun m => by first | (simp [entryFrame, mkF, argsToLocals, Value.category]; done) | rfl) (fun K O => ?_)
  obtain ⟨⟨hE, fq1, fq2, fq3, fq4⟩, ⟨hAp, hAq, hTp, hTq⟩, ⟨nap, naq, npq, ga, gp, gq⟩, hCh, ⟨oA, oP, oQ⟩, hAp2, hG, hzc⟩ := id S
  have hbN := (hCh ci hci).1.bound
  have hrr := rng32 run
  refine w_aloadN O d6_0 (pc' := 1) rfl rfl rfl ?_
  refine w_getf O d6_1 (pc' := 4) rfl (mw 11 rfl) fq1 ?_
  refine w_iloadN O d6_4 (pc' := 5) rfl rfl ?_
  refine w_bipush O d6_5 (z := (8 : Int32)) (pc' := 7) rfl rfl ?_
  refine w_iushr O d6_7 (pc' := 8) rfl ?_
  have i1 : ((run.toUInt32 >>> ((8 : Int32) &&& 31).toUInt32).toInt32).toInt = (run.toInt % 4294967296) / 256 := c_iushr run (8 : Int32) 8 (by decide) (by decide)
  refine w_aaload O d6_8 (i := ci) (x := (.ref (N ci))) (pc' := 9) rfl hAp rfl (by omega) (by omega) (if_pos hci) ?_
  refine w_iloadN O d6_9 (pc' := 10) rfl rfl ?_
  refine w_sipush O d6_10 (z := (255 : Int32)) (pc' := 13) rfl rfl ?_
  refine w_iand O d6_13 (pc' := 14) rfl ?_
  refine w_iloadN O d6_14 (pc' := 15) rfl rfl ?_
  refine w_iadd O d6_15 (pc' := 16) rfl ?_
  have i2 : (run &&& (255 : Int32)).toInt = run.toInt % 256 := c_mask run (255 : Int32) 8 (by decide) (by decide)
  have i3 : (((run &&& (255 : Int32)) + i).toInt - ((run &&& (255 : Int32)).toInt + i.toInt)) % 4294967296 = 0 := c_iadd (run &&& (255 : Int32)) i
  have i4 := rng32 ((run &&& (255 : Int32)) + i)
  refine w_iaload O d6_16 (i := (fo + k)) (x := (vN ci (fo + k))) (pc' := 17) rfl (hCh ci hci).1 (by omega) hk rfl ?_
  refine w_reti O d6_17 (by decide) (by decide) ?_
  exact ⟨_, rfl, rfl, rfl⟩
theorem d7_0 : decode prog_70_method_4_code 0 = .ok (.aload_n 0, 1) := by decide +kernel
theorem d7_1 : decode prog_70_method_4_code 1 = .ok (.getfield 17, 3) := by decide +kernel
theorem d7_4 : decode prog_70_method_4_code 4 = .ok (.iload_n 1, 1) := by decide +kernel
theorem d7_5 : decode prog_70_method_4_code 5 = .ok (.bipush 8, 2) := by decide +kernel
theorem d7_7 : decode prog_70_method_4_code 7 = .ok (.iushr, 1) := by decide +kernel
theorem d7_8 : decode prog_70_method_4_code 8 = .ok (.aaload, 1) := by decide +kernel
theorem d7_9 : decode prog_70_method_4_code 9 = .ok (.iload_n 1, 1) := by decide +kernel
theorem d7_10 : decode prog_70_method_4_code 10 = .ok (.sipush 255, 3) := by decide +kernel
theorem d7_13 : decode prog_70_method_4_code 13 = .ok (.iand, 1) := by decide +kernel
theorem d7_14 : decode prog_70_method_4_code 14 = .ok (.iload_n 2, 1) := by decide +kernel
theorem d7_15 : decode prog_70_method_4_code 15 = .ok (.iadd, 1) := by decide +kernel
theorem d7_16 : decode prog_70_method_4_code 16 = .ok (.laload, 1) := by decide +kernel
theorem d7_17 : decode prog_70_method_4_code 17 = .ok (.lreturn, 1) := by decide +kernel
theorem pn_7 : plainFor (⟨"com/example/wending/wending/search/PairRuns", "distance", "(II)J"⟩ : MethodName) = true := plainFor_of_name (by first | (simp [plainName, overriddenIn]; done) | decide +kernel)
set_option maxRecDepth 65536 in
set_option maxHeartbeats 40000000 in
theorem con_distance (l : Launch) (Z : State) (a0 : Array Value) (hw : ∀ d ∈ tables_1, d.before a0 Z = true) (a : Addr) (run i : Int32) (p q : Addr) (c : Nat) (zc fr : Int32) (N D : Nat → Addr) (sz : Nat → Nat) (vN : Nat → Nat → Int32) (vD : Nat → Nat → Int64) (ci fo k : Nat) (h0 : Heap) (n0 : Nat) (S : Pr Z h0 n0 a p q c zc fr N D sz vN vD) (hr : run.toInt = 256 * (ci : Int) + fo) (hci : ci < c) (hc4 : c ≤ 4) (hfo : fo ≤ 255) (hi : i.toInt = (k : Int)) (hk : fo + k < sz ci) :
    Con l Z (⟨"com/example/wending/wending/search/PairRuns", "distance", "(II)J"⟩ : MethodName) prog_70_method_4_code 3 (some .long) ⟨0, 0, 0, 0⟩ [(.ref a), (.int run), (.int i)] h0 n0 (RetL fun r h => h = h0 ∧ r = vD ci (fo + k)) := by
  refine Con.body (L0 := #[.val (.ref a), .val (.int run), .val (.int i)]) hw pn_7 (fun m => by first | (simp [entryFrame, mkF, argsToLocals, Value.category]; done) | rfl) (fun K O => ?_)
  obtain ⟨⟨hE, fq1, fq2, fq3, fq4⟩, ⟨hAp, hAq, hTp, hTq⟩, ⟨nap, naq, npq, ga, gp, gq⟩, hCh, ⟨oA, oP, oQ⟩, hAp2, hG, hzc⟩ := id S
  have hbN := (hCh ci hci).1.bound
  have hrr := rng32 run
  refine w_aloadN O d7_0 (pc' := 1) rfl rfl rfl ?_
  refine w_getf O d7_1 (pc' := 4) rfl (mw 15 rfl) fq2 ?_
  refine w_iloadN O d7_4 (pc' := 5) rfl rfl ?_
  refine w_bipush O d7_5 (z := (8 : Int32)) (pc' := 7) rfl rfl ?_
  refine w_iushr O d7_7 (pc' := 8) rfl ?_
  have i1 : ((run.toUInt32 >>> ((8 : Int32) &&& 31).toUInt32).toInt32).toInt = (run.toInt % 4294967296) / 256 := c_iushr run (8 : Int32) 8 (by decide) (by decide)
  refine w_aaload O d7_8 (i := ci) (x := (.ref (D ci))) (pc' := 9) rfl hAq rfl (by omega) (by omega) (if_pos hci) ?_
  refine w_iloadN O d7_9 (pc' := 10) rfl rfl ?_
  refine w_sipush O d7_10 (z := (255 : Int32)) (pc' := 13) rfl rfl ?_
  refine w_iand O d7_13 (pc' := 14) rfl ?_
  refine w_iloadN O d7_14 (pc' := 15) rfl rfl ?_
  refine w_iadd O d7_15 (pc' := 16) rfl ?_
  have i2 : (run &&& (255 : Int32)).toInt = run.toInt % 256 := c_mask run (255 : Int32) 8 (by decide) (by decide)
  have i3 : (((run &&& (255 : Int32)) + i).toInt - ((run &&& (255 : Int32)).toInt + i.toInt)) % 4294967296 = 0 := c_iadd (run &&& (255 : Int32)) i
  have i4 := rng32 ((run &&& (255 : Int32)) + i)
  refine w_laload O d7_16 (i := (fo + k)) (x := (vD ci (fo + k))) (pc' := 17) rfl (hCh ci hci).2 (by omega) hk rfl ?_
  refine w_retl O d7_17 (by decide) (by decide) ?_
  exact ⟨_, rfl, rfl, rfl⟩
def updC {α : Type} (f : Nat → Nat → α) (ci k : Nat) (v : α) : Nat → Nat → α := fun j i => if j = ci ∧ i = k then v else f j i
theorem own_setN {Z : State} {h h' : Heap} {c ci k : Nat} {N D : Nat → Addr} {sz : Nat → Nat} {vN : Nat → Nat → Int32} {vD : Nat → Nat → Int64} {x : Int32} (H : Ch Z h c N D sz vN vD) (ap : Apart c N D) (hci : ci < c) (Wq : Wr h h' (N ci) k (.int x)) : Ch Z h' c N D sz (updC vN ci k x) vD := fun j hj => by
  refine ⟨?_, (H j hj).2.other Wq (fun e => ap.1 ci j hci hj e.symm)⟩
  by_cases z : j = ci
  · subst z
    refine ((H j hj).1.set Wq).congr fun i _ => ?_
    unfold upd updC
    by_cases z2 : i = k
    · rw [if_pos z2, if_pos ⟨rfl, z2⟩]
    · rw [if_neg z2, if_neg (fun q => z2 q.2)]
  · refine ((H j hj).1.other Wq (ap.2 j ci hj hci z).1).congr fun i _ => ?_
    unfold updC
    rw [if_neg (fun q => z q.1)]
theorem own_setD {Z : State} {h h' : Heap} {c ci k : Nat} {N D : Nat → Addr} {sz : Nat → Nat} {vN : Nat → Nat → Int32} {vD : Nat → Nat → Int64} {x : Int64} (H : Ch Z h c N D sz vN vD) (ap : Apart c N D) (hci : ci < c) (Wq : Wr h h' (D ci) k (.long x)) : Ch Z h' c N D sz vN (updC vD ci k x) := fun j hj => by
  refine ⟨(H j hj).1.other Wq (ap.1 j ci hj hci), ?_⟩
  by_cases z : j = ci
  · subst z
    refine ((H j hj).2.set Wq).congr fun i _ => ?_
    unfold upd updC
    by_cases z2 : i = k
    · rw [if_pos z2, if_pos ⟨rfl, z2⟩]
    · rw [if_neg z2, if_neg (fun q => z2 q.2)]
  · refine ((H j hj).2.other Wq (ap.2 j ci hj hci z).2).congr fun i _ => ?_
    unfold updC
    rw [if_neg (fun q => z q.1)]
theorem d5_0 : decode prog_70_method_5_code 0 = .ok (.aload_n 0, 1) := by decide +kernel
theorem d5_1 : decode prog_70_method_5_code 1 = .ok (.getfield 11, 3) := by decide +kernel
theorem d5_4 : decode prog_70_method_5_code 4 = .ok (.iload_n 1, 1) := by decide +kernel
theorem d5_5 : decode prog_70_method_5_code 5 = .ok (.bipush 8, 2) := by decide +kernel
theorem d5_7 : decode prog_70_method_5_code 7 = .ok (.iushr, 1) := by decide +kernel
theorem d5_8 : decode prog_70_method_5_code 8 = .ok (.aaload, 1) := by decide +kernel
theorem d5_9 : decode prog_70_method_5_code 9 = .ok (.iload_n 1, 1) := by decide +kernel
theorem d5_10 : decode prog_70_method_5_code 10 = .ok (.sipush 255, 3) := by decide +kernel
theorem d5_13 : decode prog_70_method_5_code 13 = .ok (.iand, 1) := by decide +kernel
theorem d5_14 : decode prog_70_method_5_code 14 = .ok (.iload_n 2, 1) := by decide +kernel
theorem d5_15 : decode prog_70_method_5_code 15 = .ok (.iadd, 1) := by decide +kernel
theorem d5_16 : decode prog_70_method_5_code 16 = .ok (.iload_n 3, 1) := by decide +kernel
theorem d5_17 : decode prog_70_method_5_code 17 = .ok (.iastore, 1) := by decide +kernel
theorem d5_18 : decode prog_70_method_5_code 18 = .ok (.aload_n 0, 1) := by decide +kernel
theorem d5_19 : decode prog_70_method_5_code 19 = .ok (.getfield 17, 3) := by decide +kernel
theorem d5_22 : decode prog_70_method_5_code 22 = .ok (.iload_n 1, 1) := by decide +kernel
theorem d5_23 : decode prog_70_method_5_code 23 = .ok (.bipush 8, 2) := by decide +kernel
theorem d5_25 : decode prog_70_method_5_code 25 = .ok (.iushr, 1) := by decide +kernel
theorem d5_26 : decode prog_70_method_5_code 26 = .ok (.aaload, 1) := by decide +kernel
theorem d5_27 : decode prog_70_method_5_code 27 = .ok (.iload_n 1, 1) := by decide +kernel
theorem d5_28 : decode prog_70_method_5_code 28 = .ok (.sipush 255, 3) := by decide +kernel
theorem d5_31 : decode prog_70_method_5_code 31 = .ok (.iand, 1) := by decide +kernel
theorem d5_32 : decode prog_70_method_5_code 32 = .ok (.iload_n 2, 1) := by decide +kernel
theorem d5_33 : decode prog_70_method_5_code 33 = .ok (.iadd, 1) := by decide +kernel
theorem d5_34 : decode prog_70_method_5_code 34 = .ok (.lload 4, 2) := by decide +kernel
theorem d5_36 : decode prog_70_method_5_code 36 = .ok (.lastore, 1) := by decide +kernel
theorem d5_37 : decode prog_70_method_5_code 37 = .ok (.return_, 1) := by decide +kernel
theorem pn_5 : plainFor (⟨"com/example/wending/wending/search/PairRuns", "set", "(IIIJ)V"⟩ : MethodName) = true := plainFor_of_name (by first | (simp [plainName, overriddenIn]; done) | decide +kernel)
set_option maxRecDepth 65536 in
set_option maxHeartbeats 40000000 in
theorem con_set (l : Launch) (Z : State) (a0 : Array Value) (hw : ∀ d ∈ tables_1, d.before a0 Z = true) (a : Addr) (run i : Int32) (x : Int32) (y : Int64) (p q : Addr) (c : Nat) (zc fr : Int32) (N D : Nat → Addr) (sz : Nat → Nat) (vN : Nat → Nat → Int32) (vD : Nat → Nat → Int64) (ci fo k : Nat) (h0 : Heap) (n0 : Nat) (S : Pr Z h0 n0 a p q c zc fr N D sz vN vD) (hr : run.toInt = 256 * (ci : Int) + fo) (hci : ci < c) (hc4 : c ≤ 4) (hfo : fo ≤ 255) (hi : i.toInt = (k : Int)) (hk : fo + k < sz ci) :
    Con l Z (⟨"com/example/wending/wending/search/PairRuns", "set", "(IIIJ)V"⟩ : MethodName) prog_70_method_5_code 6 none ⟨0, 0, 0, 0⟩ [(.ref a), (.int run), (.int i), (.int x), (.long y)] h0 n0 (RetV fun h => Pr Z h n0 a p q c zc fr N D sz (updC vN ci (fo + k) x) (updC vD ci (fo + k) y)) := by
  refine Con.body (L0 := #[.val (.ref a), .val (.int run), .val (.int i), .val (.int x), .val (.long y), .second]) hw pn_5 (fun m => by first | (simp [entryFrame, mkF, argsToLocals, Value.category]; done) | rfl) (fun K O => ?_)
  obtain ⟨⟨hE, fq1, fq2, fq3, fq4⟩, ⟨hAp, hAq, hTp, hTq⟩, ⟨nap, naq, npq, ga, gp, gq⟩, hCh, ⟨oA, oP, oQ⟩, hAp2, hG, hzc⟩ := id S
  have hbN := (hCh ci hci).1.bound
  have hrr := rng32 run
  refine w_aloadN O d5_0 (pc' := 1) rfl rfl rfl ?_
  refine w_getf O d5_1 (pc' := 4) rfl (mw 11 rfl) fq1 ?_
  refine w_iloadN O d5_4 (pc' := 5) rfl rfl ?_
  refine w_bipush O d5_5 (z := (8 : Int32)) (pc' := 7) rfl rfl ?_
  refine w_iushr O d5_7 (pc' := 8) rfl ?_
  have i1 : ((run.toUInt32 >>> ((8 : Int32) &&& 31).toUInt32).toInt32).toInt = (run.toInt % 4294967296) / 256 := c_iushr run (8 : Int32) 8 (by decide) (by decide)
  refine w_aaload O d5_8 (i := ci) (x := (.ref (N ci))) (pc' := 9) rfl hAp rfl (by omega) (by omega) (if_pos hci) ?_
  refine w_iloadN O d5_9 (pc' := 10) rfl rfl ?_
  refine w_sipush O d5_10 (z := (255 : Int32)) (pc' := 13) rfl rfl ?_
  refine w_iand O d5_13 (pc' := 14) rfl ?_
  refine w_iloadN O d5_14 (pc' := 15) rfl rfl ?_
  refine w_iadd O d5_15 (pc' := 16) rfl ?_
  refine w_iloadN O d5_16 (pc' := 17) rfl rfl ?_
  have i3 : (run &&& (255 : Int32)).toInt = run.toInt % 256 := c_mask run (255 : Int32) 8 (by decide) (by decide)
  have i4 : (((run &&& (255 : Int32)) + i).toInt - ((run &&& (255 : Int32)).toInt + i.toInt)) % 4294967296 = 0 := c_iadd (run &&& (255 : Int32)) i
  have i5 := rng32 ((run &&& (255 : Int32)) + i)
  refine w_iastore O d5_17 (i := (fo + k)) (pc' := 18) rfl (hCh ci hci).1 (by omega) hk (hG ci hci).1 (fun h2 Wh2 => ?_)
  have hE_h2 := hE.wr Wh2
  have fq1_h2 := Fld.other Wh2 fq1 (Or.inl (Ne.symm (oA ci hci).1))
  have fq2_h2 := Fld.other Wh2 fq2 (Or.inl (Ne.symm (oA ci hci).1))
  have fq3_h2 := Fld.other Wh2 fq3 (Or.inl (Ne.symm (oA ci hci).1))
  have fq4_h2 := Fld.other Wh2 fq4 (Or.inl (Ne.symm (oA ci hci).1))
  have hAp_h2 := hAp.other Wh2 (Ne.symm (oP ci hci).1)
  have hAq_h2 := hAq.other Wh2 (Ne.symm (oQ ci hci).1)
  have hTp_h2 := hTp.wr Wh2
  have hTq_h2 := hTq.wr Wh2
  have F6_h2 := (hCh ci hci).1.set Wh2
  have F7_h2 := (hCh ci hci).2.other Wh2 (Ne.symm (hAp2.1 ci ci hci hci))
  refine w_aloadN O d5_18 (pc' := 19) rfl rfl rfl ?_
  refine w_getf O d5_19 (pc' := 22) rfl (mw 15 rfl) fq2_h2 ?_
  refine w_iloadN O d5_22 (pc' := 23) rfl rfl ?_
  refine w_bipush O d5_23 (z := (8 : Int32)) (pc' := 25) rfl rfl ?_
  refine w_iushr O d5_25 (pc' := 26) rfl ?_
  refine w_aaload O d5_26 (i := ci) (x := (.ref (D ci))) (pc' := 27) rfl hAq_h2 rfl (by omega) (by omega) (if_pos hci) ?_
  refine w_iloadN O d5_27 (pc' := 28) rfl rfl ?_
  refine w_sipush O d5_28 (z := (255 : Int32)) (pc' := 31) rfl rfl ?_
  refine w_iand O d5_31 (pc' := 32) rfl ?_
  refine w_iloadN O d5_32 (pc' := 33) rfl rfl ?_
  refine w_iadd O d5_33 (pc' := 34) rfl ?_
  refine w_lload O d5_34 (pc' := 36) rfl rfl ?_
  refine w_lastore O d5_36 (i := (fo + k)) (pc' := 37) rfl F7_h2 (by omega) hk (hG ci hci).2 (fun h8 Wh8 => ?_)
  have hE_h8 := hE_h2.wr Wh8
  have fq1_h8 := Fld.other Wh8 fq1_h2 (Or.inl (Ne.symm (oA ci hci).2))
  have fq2_h8 := Fld.other Wh8 fq2_h2 (Or.inl (Ne.symm (oA ci hci).2))
  have fq3_h8 := Fld.other Wh8 fq3_h2 (Or.inl (Ne.symm (oA ci hci).2))
  have fq4_h8 := Fld.other Wh8 fq4_h2 (Or.inl (Ne.symm (oA ci hci).2))
  have hAp_h8 := hAp_h2.other Wh8 (Ne.symm (oP ci hci).2)
  have hAq_h8 := hAq_h2.other Wh8 (Ne.symm (oQ ci hci).2)
  have hTp_h8 := hTp_h2.wr Wh8
  have hTq_h8 := hTq_h2.wr Wh8
  have F6_h8 := F6_h2.other Wh8 (hAp2.1 ci ci hci hci)
  have F7_h8 := F7_h2.set Wh8
  refine w_retv O d5_37 (by decide) (by decide) ?_
  exact ⟨rfl, ⟨hE_h8, fq1_h8, fq2_h8, fq3_h8, fq4_h8⟩, ⟨hAp_h8, hAq_h8, hTp_h8, hTq_h8⟩, ⟨nap, naq, npq, ga, gp, gq⟩, own_setD (own_setN hCh hAp2 hci Wh2) hAp2 hci Wh8, ⟨oA, oP, oQ⟩, hAp2, hG, hzc⟩
theorem pn_0 : plainFor x = true := plainFor_of_name (by first | (simp [plainName, overriddenIn]; done) | decide +kernel)
theorem pd_1 : parseMethodDescriptor "()V" = some ⟨[], none⟩ := by decide +kernel
theorem pd_2 : parseMethodDescriptor "(I)I" = some ⟨[.int], some .int⟩ := by decide +kernel
theorem pd_3 : parseMethodDescriptor "(IIIJ)V" = some ⟨[.int, .int, .int, .long], none⟩ := by decide +kernel
theorem pd_4 : parseMethodDescriptor "(II)J" = some ⟨[.int, .int], some .long⟩ := by decide +kernel
set_option maxRecDepth 65536 in
set_option maxHeartbeats 40000000 in
theorem law_con (l : Launch) (Z : State) (a0 : Array Value) (hw : ∀ d ∈ tables_1, d.before a0 Z = true) (u0 u1 u2 u3 u4 : Int32) (u5 : Int64) (h0 : Heap) (n0 : Nat)  :
    Con l Z x code maxLocals ret room_1 [(.int u0), (.int u1), (.int u2), (.int u3), (.int u4), (.long u5)] h0 n0 (RetI fun r _ => r = 1) := by
  refine Con.body (L0 := #[.val (.int u0), .val (.int u1), .val (.int u2), .val (.int u3), .val (.int u4), .val (.long u5), .second, .unset, .unset, .unset, .unset, .unset, .unset, .unset, .unset, .unset, .unset, .unset, .unset, .unset, .unset, .unset, .unset, .unset]) hw pn_0 (fun m => by first | (simp [entryFrame, mkF, argsToLocals, Value.category, maxLocals]; done) | rfl) (fun K O => ?_)
  replace O : Ok K l Z a0 tables_1 code 24 (some .boolean) "com/example/wending/wending/search/PairRunsSetPinLaw" "law" room_1 n0 _ := O
  refine w_iloadN O at_0 (pc' := 1) rfl rfl ?_
  refine w_sipush O at_1 (z := (511 : Int32)) (pc' := 4) rfl rfl ?_
  refine w_iand O at_4 (pc' := 5) rfl ?_
  refine w_iconst O at_5 (z := (1 : Int32)) (pc' := 6) rfl rfl ?_
  refine w_iadd O at_6 (pc' := 7) rfl ?_
  refine w_istoreG O at_7 (L' := fun zq => #[.val (.int u0), .val (.int u1), .val (.int u2), .val (.int u3), .val (.int u4), .val (.long u5), .second, .val (.int zq), .unset, .unset, .unset, .unset, .unset, .unset, .unset, .unset, .unset, .unset, .unset, .unset, .unset, .unset, .unset, .unset]) (pc' := 9) rfl (fun _ => rfl) (fun la e_la => ?_)
  have i2 : (u0 &&& (511 : Int32)).toInt = u0.toInt % 512 := c_mask u0 (511 : Int32) 9 (by decide) (by decide)
  have i3 : (((u0 &&& (511 : Int32)) + (1 : Int32)).toInt - ((u0 &&& (511 : Int32)).toInt + 1)) % 4294967296 = 0 := c_iadd (u0 &&& (511 : Int32)) (1 : Int32)
  have i4 := rng32 ((u0 &&& (511 : Int32)) + (1 : Int32))
  have j_la := congrArg Int32.toInt e_la
  have r_la := rng32 la
  have hla : 1 ≤ la.toInt ∧ la.toInt ≤ 512 := by omega
  clear i2 i3 i4 j_la
  refine w_iloadN O at_9 (pc' := 10) rfl rfl ?_
  refine w_bipush O at_10 (z := (9 : Int32)) (pc' := 12) rfl rfl ?_
  refine w_iushr O at_12 (pc' := 13) rfl ?_
  refine w_sipush O at_13 (z := (511 : Int32)) (pc' := 16) rfl rfl ?_
  refine w_iand O at_16 (pc' := 17) rfl ?_
  refine w_iconst O at_17 (z := (1 : Int32)) (pc' := 18) rfl rfl ?_
  refine w_iadd O at_18 (pc' := 19) rfl ?_
  refine w_istoreG O at_19 (L' := fun zq => #[.val (.int u0), .val (.int u1), .val (.int u2), .val (.int u3), .val (.int u4), .val (.long u5), .second, .val (.int la), .val (.int zq), .unset, .unset, .unset, .unset, .unset, .unset, .unset, .unset, .unset, .unset, .unset, .unset, .unset, .unset, .unset]) (pc' := 21) rfl (fun _ => rfl) (fun lb e_lb => ?_)
  have i6 : ((u0.toUInt32 >>> ((9 : Int32) &&& 31).toUInt32).toInt32).toInt = (u0.toInt % 4294967296) / 512 := c_iushr u0 (9 : Int32) 9 (by decide) (by decide)
  have i7 : (((u0.toUInt32 >>> ((9 : Int32) &&& 31).toUInt32).toInt32) &&& (511 : Int32)).toInt = ((u0.toUInt32 >>> ((9 : Int32) &&& 31).toUInt32).toInt32).toInt % 512 := c_mask ((u0.toUInt32 >>> ((9 : Int32) &&& 31).toUInt32).toInt32) (511 : Int32) 9 (by decide) (by decide)
  have i8 : (((((u0.toUInt32 >>> ((9 : Int32) &&& 31).toUInt32).toInt32) &&& (511 : Int32)) + (1 : Int32)).toInt - ((((u0.toUInt32 >>> ((9 : Int32) &&& 31).toUInt32).toInt32) &&& (511 : Int32)).toInt + 1)) % 4294967296 = 0 := c_iadd (((u0.toUInt32 >>> ((9 : Int32) &&& 31).toUInt32).toInt32) &&& (511 : Int32)) (1 : Int32)
  have i9 := rng32 ((((u0.toUInt32 >>> ((9 : Int32) &&& 31).toUInt32).toInt32) &&& (511 : Int32)) + (1 : Int32))
  have j_lb := congrArg Int32.toInt e_lb
  have r_lb := rng32 lb
  have hlb : 1 ≤ lb.toInt ∧ lb.toInt ≤ 512 := by omega
  clear i6 i7 i8 i9 j_lb
  refine w_iloadN O at_21 (pc' := 22) rfl rfl ?_
  refine w_bipush O at_22 (z := (18 : Int32)) (pc' := 24) rfl rfl ?_
  refine w_iushr O at_24 (pc' := 25) rfl ?_
  refine w_sipush O at_25 (z := (511 : Int32)) (pc' := 28) rfl rfl ?_
  refine w_iand O at_28 (pc' := 29) rfl ?_
  refine w_iconst O at_29 (z := (1 : Int32)) (pc' := 30) rfl rfl ?_
  refine w_iadd O at_30 (pc' := 31) rfl ?_
  refine w_istoreG O at_31 (L' := fun zq => #[.val (.int u0), .val (.int u1), .val (.int u2), .val (.int u3), .val (.int u4), .val (.long u5), .second, .val (.int la), .val (.int lb), .val (.int zq), .unset, .unset, .unset, .unset, .unset, .unset, .unset, .unset, .unset, .unset, .unset, .unset, .unset, .unset]) (pc' := 33) rfl (fun _ => rfl) (fun lc e_lc => ?_)
  have i11 : ((u0.toUInt32 >>> ((18 : Int32) &&& 31).toUInt32).toInt32).toInt = (u0.toInt % 4294967296) / 262144 := c_iushr u0 (18 : Int32) 18 (by decide) (by decide)
  have i12 : (((u0.toUInt32 >>> ((18 : Int32) &&& 31).toUInt32).toInt32) &&& (511 : Int32)).toInt = ((u0.toUInt32 >>> ((18 : Int32) &&& 31).toUInt32).toInt32).toInt % 512 := c_mask ((u0.toUInt32 >>> ((18 : Int32) &&& 31).toUInt32).toInt32) (511 : Int32) 9 (by decide) (by decide)
  have i13 : (((((u0.toUInt32 >>> ((18 : Int32) &&& 31).toUInt32).toInt32) &&& (511 : Int32)) + (1 : Int32)).toInt - ((((u0.toUInt32 >>> ((18 : Int32) &&& 31).toUInt32).toInt32) &&& (511 : Int32)).toInt + 1)) % 4294967296 = 0 := c_iadd (((u0.toUInt32 >>> ((18 : Int32) &&& 31).toUInt32).toInt32) &&& (511 : Int32)) (1 : Int32)
  have i14 := rng32 ((((u0.toUInt32 >>> ((18 : Int32) &&& 31).toUInt32).toInt32) &&& (511 : Int32)) + (1 : Int32))
  have j_lc := congrArg Int32.toInt e_lc
  have r_lc := rng32 lc
  have hlc : 1 ≤ lc.toInt ∧ lc.toInt ≤ 512 := by omega
  clear i11 i12 i13 i14 j_lc
  refine w_new O at_33 (cl' := 1) (sl' := 4) (pc' := 36) rfl (mw 0 rfl) (mw 1 rfl) (mw 2 rfl) rfl rfl (by decide) (by decide) (fun h15 b16 qb16 g_b16 Eh15 E_b16 Db16 => ?_)
  have F_nodes_b16 : Fld Z h15 b16 "com/example/wending/wending/search/PairRuns" "nodes" "[[I" .null := Db16 (Or.inl (O.2.2.2.2.2.2.2.2.1 _ (mw 12 rfl))) (ty := (.array (.array .int))) (by decide)
  have F_distances_b16 : Fld Z h15 b16 "com/example/wending/wending/search/PairRuns" "distances" "[[J" .null := Db16 (Or.inl (O.2.2.2.2.2.2.2.2.1 _ (mw 16 rfl))) (ty := (.array (.array .long))) (by decide)
  have F_free_b16 : Fld Z h15 b16 "com/example/wending/wending/search/PairRuns" "free" "I" (.int (0 : Int32)) := Db16 (Or.inl (O.2.2.2.2.2.2.2.2.1 _ (mw 18 rfl))) (ty := .int) (by decide)
  have F_chunks_b16 : Fld Z h15 b16 "com/example/wending/wending/search/PairRuns" "chunks" "I" (.int (0 : Int32)) := Db16 (Or.inl (O.2.2.2.2.2.2.2.2.1 _ (mw 25 rfl))) (ty := .int) (by decide)
  refine w_dup O at_36 (pc' := 37) rfl rfl ?_
  refine w_init O at_37 (as := []) (st := [(.ref b16)]) (wt := 1) (cl' := 3) (sl' := 12) (pc' := 40) rfl rfl (mw 3 rfl) (mw 4 rfl) (mw 2 rfl) (mw 5 rfl) (by decide) (con_init l Z a0 hw b16 h15 n0 E_b16 F_nodes_b16 F_distances_b16 F_free_b16 F_chunks_b16 g_b16) rfl pd_1 rfl rfl rfl (by decide) (by decide) rfl rfl (by decide) (by decide) (cV fun h17 ⟨p, q, P0⟩ => ?_)
  refine w_astore O at_40 (L' := #[.val (.int u0), .val (.int u1), .val (.int u2), .val (.int u3), .val (.int u4), .val (.long u5), .second, .val (.int la), .val (.int lb), .val (.int lc), .val (.ref b16), .unset, .unset, .unset, .unset, .unset, .unset, .unset, .unset, .unset, .unset, .unset, .unset, .unset]) (pc' := 42) rfl rfl rfl ?_
  refine w_aload O at_42 (pc' := 44) rfl rfl rfl ?_
  refine w_iload O at_44 (pc' := 46) rfl rfl ?_
  refine w_virtual O at_46 (as := [(.int la)]) (st := []) (wt := 0) (cl' := 5) (sl' := 1036) (pc' := 49) rfl (mw 19 rfl) (mw 20 rfl) (mw 22 rfl) (mw 21 rfl) (mw 23 rfl) (mw 2 rfl) (by decide) P0.1.1 (con_add l Z a0 hw b16 la p q 0 _ _ _ _ _ 256 h17 n0 P0 (by decide) (by decide) (by decide) (fun _ => rfl) (fun j hj => absurd hj (Nat.not_lt_zero j)) (by omega) (by omega)) rfl pd_2 rfl rfl rfl (by decide) (by decide) rfl rfl (by decide) (by decide) (cI fun r1 h18 ⟨c1, z1, f1, N1, D1, s1, i1, o1, P1, hr1, la1, lb1, ke1, hs1, hi1, ho1, hq1, hd1, hf1⟩ => ?_)
  obtain ⟨e1, he1⟩ : ∃ e1 : Nat, f1.toInt = (e1 : Int) := ⟨f1.toInt.toNat, by omega⟩
  refine w_istore O at_49 (L' := #[.val (.int u0), .val (.int u1), .val (.int u2), .val (.int u3), .val (.int u4), .val (.long u5), .second, .val (.int la), .val (.int lb), .val (.int lc), .val (.ref b16), .val (.int r1), .unset, .unset, .unset, .unset, .unset, .unset, .unset, .unset, .unset, .unset, .unset, .unset]) (pc' := 51) rfl rfl ?_
  refine w_aload O at_51 (pc' := 53) rfl rfl rfl ?_
  refine w_iload O at_53 (pc' := 55) rfl rfl ?_
  refine w_virtual O at_55 (as := [(.int lb)]) (st := []) (wt := 0) (cl' := 7) (sl' := 2060) (pc' := 58) rfl (mw 19 rfl) (mw 20 rfl) (mw 22 rfl) (mw 21 rfl) (mw 23 rfl) (mw 2 rfl) (by decide) P1.1.1 (con_add l Z a0 hw b16 lb p q c1 z1 f1 N1 D1 s1 e1 h18 n0 P1 he1 (by omega) (by omega) (by omega) hs1 (by omega) (by omega)) rfl pd_2 rfl rfl rfl (by decide) (by decide) rfl rfl (by decide) (by decide) (cI fun r2 h19 ⟨c2, z2, f2, N2, D2, s2, i2, o2, P2, hr2, la2, lb2, ke2, hs2, hi2, ho2, hq2, hd2, hf2⟩ => ?_)
  obtain ⟨e2, he2⟩ : ∃ e2 : Nat, f2.toInt = (e2 : Int) := ⟨f2.toInt.toNat, by omega⟩
  have k22 : ∀ j, j < c1 → N2 j = N1 j ∧ D2 j = D1 j ∧ s2 j = s1 j := ke2
  refine w_istore O at_58 (L' := #[.val (.int u0), .val (.int u1), .val (.int u2), .val (.int u3), .val (.int u4), .val (.long u5), .second, .val (.int la), .val (.int lb), .val (.int lc), .val (.ref b16), .val (.int r1), .val (.int r2), .unset, .unset, .unset, .unset, .unset, .unset, .unset, .unset, .unset, .unset, .unset]) (pc' := 60) rfl rfl ?_
  refine w_aload O at_60 (pc' := 62) rfl rfl rfl ?_
  refine w_iload O at_62 (pc' := 64) rfl rfl ?_
  refine w_virtual O at_64 (as := [(.int lc)]) (st := []) (wt := 0) (cl' := 9) (sl' := 3084) (pc' := 67) rfl (mw 19 rfl) (mw 20 rfl) (mw 22 rfl) (mw 21 rfl) (mw 23 rfl) (mw 2 rfl) (by decide) P2.1.1 (con_add l Z a0 hw b16 lc p q c2 z2 f2 N2 D2 s2 e2 h19 n0 P2 he2 (by omega) (by omega) (by omega) hs2 (by omega) (by omega)) rfl pd_2 rfl rfl rfl (by decide) (by decide) rfl rfl (by decide) (by decide) (cI fun r3 h20 ⟨c3, z3, f3, N3, D3, s3, i3, o3, P3, hr3, la3, lb3, ke3, hs3, hi3, ho3, hq3, hd3, hf3⟩ => ?_)
  obtain ⟨e3, he3⟩ : ∃ e3 : Nat, f3.toInt = (e3 : Int) := ⟨f3.toInt.toNat, by omega⟩
  have k33 : ∀ j, j < c2 → N3 j = N2 j ∧ D3 j = D2 j ∧ s3 j = s2 j := ke3
  refine w_istore O at_67 (L' := #[.val (.int u0), .val (.int u1), .val (.int u2), .val (.int u3), .val (.int u4), .val (.long u5), .second, .val (.int la), .val (.int lb), .val (.int lc), .val (.ref b16), .val (.int r1), .val (.int r2), .val (.int r3), .unset, .unset, .unset, .unset, .unset, .unset, .unset, .unset, .unset, .unset]) (pc' := 69) rfl rfl ?_
  have hI1 : i1 < c3 := by omega
  have hI2 : i2 < c3 := by omega
  have hI3 : i3 < c3 := hi3
  have hL1 : (o1 : Int) + la.toInt ≤ s3 i1 := by have x1 := (ke2 i1 (by omega)).2.2; have x2 := (ke3 i1 (by omega)).2.2; rw [x2, x1]; exact hq1
  have hL2 : (o2 : Int) + lb.toInt ≤ s3 i2 := by have x2 := (ke3 i2 (by omega)).2.2; rw [x2]; exact hq2
  have hL3 : (o3 : Int) + lc.toInt ≤ s3 i3 := hq3
  have d12 : i1 = i2 → (o1 : Int) + la.toInt ≤ o2 := by intro q; omega
  have d23 : i2 = i3 → (o2 : Int) + lb.toInt ≤ o3 := by intro q; omega
  have d13 : i1 = i3 → (o1 : Int) + la.toInt ≤ o3 := by intro q; omega
  have hc3 : c3 ≤ 4 := by omega
  clear hd1 hd2 hd3 hf1 hf2 hf3
  refine w_iloadN O at_69 (pc' := 70) rfl rfl ?_
  refine w_ldc O at_70 (pc' := 72) rfl (mw 34 rfl) ?_
  refine w_iand O at_72 (pc' := 73) rfl ?_
  refine w_iconst O at_73 (z := (3 : Int32)) (pc' := 74) rfl rfl ?_
  refine w_irem O at_74 (pc' := 75) rfl (by decide) ?_
  have i21 : (u1 &&& (2147483647 : Int32)).toInt = u1.toInt % 2147483648 := c_mask u1 (2147483647 : Int32) 31 (by decide) (by decide)
  have i22 : (0 ≤ (u1 &&& (2147483647 : Int32)).toInt → ((u1 &&& (2147483647 : Int32)) % (3 : Int32)).toInt = (u1 &&& (2147483647 : Int32)).toInt % 3) ∧ ((u1 &&& (2147483647 : Int32)).toInt < 0 → ((u1 &&& (2147483647 : Int32)) % (3 : Int32)).toInt = -((-(u1 &&& (2147483647 : Int32)).toInt) % 3)) := c_irem (u1 &&& (2147483647 : Int32)) (3 : Int32) 3 (by decide)
  have ht3 : ((u1 &&& (2147483647 : Int32)) % (3 : Int32)) = 0 ∨ ((u1 &&& (2147483647 : Int32)) % (3 : Int32)) = 1 ∨ ((u1 &&& (2147483647 : Int32)) % (3 : Int32)) = 2 := by
    have : ((u1 &&& (2147483647 : Int32)) % (3 : Int32)).toInt = 0 ∨ ((u1 &&& (2147483647 : Int32)) % (3 : Int32)).toInt = 1 ∨ ((u1 &&& (2147483647 : Int32)) % (3 : Int32)).toInt = 2 := by omega
    rcases this with q | q | q
    · exact Or.inl (Int32.toInt_inj.mp (q.trans (by decide)))
    · exact Or.inr (Or.inl (Int32.toInt_inj.mp (q.trans (by decide))))
    · exact Or.inr (Or.inr (Int32.toInt_inj.mp (q.trans (by decide))))
  rcases ht3 with et | et | et
  · rw [et]
    clear i21 i22
    refine w_istore O at_75 (L' := #[.val (.int u0), .val (.int u1), .val (.int u2), .val (.int u3), .val (.int u4), .val (.long u5), .second, .val (.int la), .val (.int lb), .val (.int lc), .val (.ref b16), .val (.int r1), .val (.int r2), .val (.int r3), .val (.int (0 : Int32)), .unset, .unset, .unset, .unset, .unset, .unset, .unset, .unset, .unset]) (pc' := 77) rfl rfl ?_
    refine w_iload O at_77 (pc' := 79) rfl rfl ?_
    refine w_if_ne O at_79 (pn := 82) (pt := 87) rfl (by decide) rfl (fun q => absurd q (by decide)) (fun c79 => ?_)
    refine w_iload O at_82 (pc' := 84) rfl rfl ?_
    refine w_goto O at_84 (pc' := 100) (by decide) rfl ?_
    refine w_istore O at_100 (L' := #[.val (.int u0), .val (.int u1), .val (.int u2), .val (.int u3), .val (.int u4), .val (.long u5), .second, .val (.int la), .val (.int lb), .val (.int lc), .val (.ref b16), .val (.int r1), .val (.int r2), .val (.int r3), .val (.int (0 : Int32)), .val (.int r1), .unset, .unset, .unset, .unset, .unset, .unset, .unset, .unset]) (pc' := 102) rfl rfl ?_
    refine w_iload O at_102 (pc' := 104) rfl rfl ?_
    refine w_if_ne O at_104 (pn := 107) (pt := 112) rfl (by decide) rfl (fun q => absurd q (by decide)) (fun c104 => ?_)
    refine w_iload O at_107 (pc' := 109) rfl rfl ?_
    refine w_goto O at_109 (pc' := 125) (by decide) rfl ?_
    refine w_istore O at_125 (L' := #[.val (.int u0), .val (.int u1), .val (.int u2), .val (.int u3), .val (.int u4), .val (.long u5), .second, .val (.int la), .val (.int lb), .val (.int lc), .val (.ref b16), .val (.int r1), .val (.int r2), .val (.int r3), .val (.int (0 : Int32)), .val (.int r1), .val (.int la), .unset, .unset, .unset, .unset, .unset, .unset, .unset]) (pc' := 127) rfl rfl ?_
    refine w_iload O at_127 (pc' := 129) rfl rfl ?_
    refine w_iconst O at_129 (z := (1 : Int32)) (pc' := 130) rfl rfl ?_
    refine w_iadd O at_130 (pc' := 131) rfl ?_
    refine w_iloadN O at_131 (pc' := 132) rfl rfl ?_
    refine w_bipush O at_132 (z := (31 : Int32)) (pc' := 134) rfl rfl ?_
    refine w_iushr O at_134 (pc' := 135) rfl ?_
    refine w_iconst O at_135 (z := (1 : Int32)) (pc' := 136) rfl rfl ?_
    refine w_iand O at_136 (pc' := 137) rfl ?_
    refine w_iadd O at_137 (pc' := 138) rfl ?_
    refine w_iconst O at_138 (z := (3 : Int32)) (pc' := 139) rfl rfl ?_
    refine w_irem O at_139 (pc' := 140) rfl (by decide) ?_
    have i23 : ((u1.toUInt32 >>> ((31 : Int32) &&& 31).toUInt32).toInt32).toInt = (u1.toInt % 4294967296) / 2147483648 := c_iushr u1 (31 : Int32) 31 (by decide) (by decide)
    have i24 : (((u1.toUInt32 >>> ((31 : Int32) &&& 31).toUInt32).toInt32) &&& (1 : Int32)).toInt = ((u1.toUInt32 >>> ((31 : Int32) &&& 31).toUInt32).toInt32).toInt % 2 := c_mask ((u1.toUInt32 >>> ((31 : Int32) &&& 31).toUInt32).toInt32) (1 : Int32) 1 (by decide) (by decide)
    have i25 : (((1 : Int32) + (((u1.toUInt32 >>> ((31 : Int32) &&& 31).toUInt32).toInt32) &&& (1 : Int32))).toInt - (1 + (((u1.toUInt32 >>> ((31 : Int32) &&& 31).toUInt32).toInt32) &&& (1 : Int32)).toInt)) % 4294967296 = 0 := c_iadd (1 : Int32) (((u1.toUInt32 >>> ((31 : Int32) &&& 31).toUInt32).toInt32) &&& (1 : Int32))
    have i26 := rng32 ((1 : Int32) + (((u1.toUInt32 >>> ((31 : Int32) &&& 31).toUInt32).toInt32) &&& (1 : Int32)))
    have i27 : (0 ≤ ((1 : Int32) + (((u1.toUInt32 >>> ((31 : Int32) &&& 31).toUInt32).toInt32) &&& (1 : Int32))).toInt → (((1 : Int32) + (((u1.toUInt32 >>> ((31 : Int32) &&& 31).toUInt32).toInt32) &&& (1 : Int32))) % (3 : Int32)).toInt = ((1 : Int32) + (((u1.toUInt32 >>> ((31 : Int32) &&& 31).toUInt32).toInt32) &&& (1 : Int32))).toInt % 3) ∧ (((1 : Int32) + (((u1.toUInt32 >>> ((31 : Int32) &&& 31).toUInt32).toInt32) &&& (1 : Int32))).toInt < 0 → (((1 : Int32) + (((u1.toUInt32 >>> ((31 : Int32) &&& 31).toUInt32).toInt32) &&& (1 : Int32))) % (3 : Int32)).toInt = -((-((1 : Int32) + (((u1.toUInt32 >>> ((31 : Int32) &&& 31).toUInt32).toInt32) &&& (1 : Int32))).toInt) % 3)) := c_irem ((1 : Int32) + (((u1.toUInt32 >>> ((31 : Int32) &&& 31).toUInt32).toInt32) &&& (1 : Int32))) (3 : Int32) 3 (by decide)
    have ho3 : (((1 : Int32) + (((u1.toUInt32 >>> ((31 : Int32) &&& 31).toUInt32).toInt32) &&& (1 : Int32))) % (3 : Int32)) = 1 ∨ (((1 : Int32) + (((u1.toUInt32 >>> ((31 : Int32) &&& 31).toUInt32).toInt32) &&& (1 : Int32))) % (3 : Int32)) = 2 := by
      have hb3 : (((u1.toUInt32 >>> ((31 : Int32) &&& 31).toUInt32).toInt32) &&& (1 : Int32)).toInt = 0 ∨ (((u1.toUInt32 >>> ((31 : Int32) &&& 31).toUInt32).toInt32) &&& (1 : Int32)).toInt = 1 := by omega
      have hs3 : ((1 : Int32) + (((u1.toUInt32 >>> ((31 : Int32) &&& 31).toUInt32).toInt32) &&& (1 : Int32))).toInt = 1 + (((u1.toUInt32 >>> ((31 : Int32) &&& 31).toUInt32).toInt32) &&& (1 : Int32)).toInt := by omega
      have : (((1 : Int32) + (((u1.toUInt32 >>> ((31 : Int32) &&& 31).toUInt32).toInt32) &&& (1 : Int32))) % (3 : Int32)).toInt = 1 ∨ (((1 : Int32) + (((u1.toUInt32 >>> ((31 : Int32) &&& 31).toUInt32).toInt32) &&& (1 : Int32))) % (3 : Int32)).toInt = 2 := by omega
      rcases this with q | q
      · exact Or.inl (Int32.toInt_inj.mp (q.trans (by decide)))
      · exact Or.inr (Int32.toInt_inj.mp (q.trans (by decide)))
    rcases ho3 with eo | eo
    · first | rw [eo] | rw [show (0 : Int32) + 1 = 1 from by decide, eo]
      clear i23 i24 i25 i26 i27
      refine w_istore O at_140 (L' := #[.val (.int u0), .val (.int u1), .val (.int u2), .val (.int u3), .val (.int u4), .val (.long u5), .second, .val (.int la), .val (.int lb), .val (.int lc), .val (.ref b16), .val (.int r1), .val (.int r2), .val (.int r3), .val (.int (0 : Int32)), .val (.int r1), .val (.int la), .val (.int (1 : Int32)), .unset, .unset, .unset, .unset, .unset, .unset]) (pc' := 142) rfl rfl ?_
      refine w_iload O at_142 (pc' := 144) rfl rfl ?_
      refine w_if_ne O at_144 (pn := 147) (pt := 152) rfl (by decide) rfl (fun c144 => ?_) (fun q => absurd q (by decide))
      refine w_iload O at_152 (pc' := 154) rfl rfl ?_
      refine w_iconst O at_154 (z := (1 : Int32)) (pc' := 155) rfl rfl ?_
      refine w_icmp_ne O at_155 (pn := 158) (pt := 163) rfl (by decide) rfl (fun q => absurd q (by decide)) (fun c155 => ?_)
      refine w_iload O at_158 (pc' := 160) rfl rfl ?_
      refine w_goto O at_160 (pc' := 165) (by decide) rfl ?_
      refine w_istore O at_165 (L' := #[.val (.int u0), .val (.int u1), .val (.int u2), .val (.int u3), .val (.int u4), .val (.long u5), .second, .val (.int la), .val (.int lb), .val (.int lc), .val (.ref b16), .val (.int r1), .val (.int r2), .val (.int r3), .val (.int (0 : Int32)), .val (.int r1), .val (.int la), .val (.int (1 : Int32)), .val (.int r2), .unset, .unset, .unset, .unset, .unset]) (pc' := 167) rfl rfl ?_
      refine w_iload O at_167 (pc' := 169) rfl rfl ?_
      refine w_if_ne O at_169 (pn := 172) (pt := 177) rfl (by decide) rfl (fun c169 => ?_) (fun q => absurd q (by decide))
      refine w_iload O at_177 (pc' := 179) rfl rfl ?_
      refine w_iconst O at_179 (z := (1 : Int32)) (pc' := 180) rfl rfl ?_
      refine w_icmp_ne O at_180 (pn := 183) (pt := 188) rfl (by decide) rfl (fun q => absurd q (by decide)) (fun c180 => ?_)
      refine w_iload O at_183 (pc' := 185) rfl rfl ?_
      refine w_goto O at_185 (pc' := 190) (by decide) rfl ?_
      refine w_istore O at_190 (L' := #[.val (.int u0), .val (.int u1), .val (.int u2), .val (.int u3), .val (.int u4), .val (.long u5), .second, .val (.int la), .val (.int lb), .val (.int lc), .val (.ref b16), .val (.int r1), .val (.int r2), .val (.int r3), .val (.int (0 : Int32)), .val (.int r1), .val (.int la), .val (.int (1 : Int32)), .val (.int r2), .val (.int lb), .unset, .unset, .unset, .unset]) (pc' := 192) rfl rfl ?_
      refine w_iloadN O at_192 (pc' := 193) rfl rfl ?_
      refine w_ldc O at_193 (pc' := 195) rfl (mw 34 rfl) ?_
      refine w_iand O at_195 (pc' := 196) rfl ?_
      refine w_iload O at_196 (pc' := 198) rfl rfl ?_
      refine w_irem O at_198 (pc' := 199) rfl (nz32 (by omega)) ?_
      refine w_istoreG O at_199 (L' := fun zq => #[.val (.int u0), .val (.int u1), .val (.int u2), .val (.int u3), .val (.int u4), .val (.long u5), .second, .val (.int la), .val (.int lb), .val (.int lc), .val (.ref b16), .val (.int r1), .val (.int r2), .val (.int r3), .val (.int (0 : Int32)), .val (.int r1), .val (.int la), .val (.int (1 : Int32)), .val (.int r2), .val (.int lb), .val (.int zq), .unset, .unset, .unset]) (pc' := 201) rfl (fun _ => rfl) (fun ii e_ii => ?_)
      have i29 : (u2 &&& (2147483647 : Int32)).toInt = u2.toInt % 2147483648 := c_mask u2 (2147483647 : Int32) 31 (by decide) (by decide)
      have i30 := c_iremV (u2 &&& (2147483647 : Int32)) la
      have j_ii := congrArg Int32.toInt e_ii
      have r_ii := rng32 ii
      obtain ⟨ki, hki⟩ : ∃ ki : Nat, ii.toInt = (ki : Int) := ⟨ii.toInt.toNat, by omega⟩
      have hlti : (ki : Int) < la.toInt := by omega
      have hKki1 : o1 + ki < s3 i1 := by omega
      clear i29 i30 j_ii
      refine w_iloadN O at_201 (pc' := 202) rfl rfl ?_
      refine w_ldc O at_202 (pc' := 204) rfl (mw 34 rfl) ?_
      refine w_iand O at_204 (pc' := 205) rfl ?_
      refine w_iload O at_205 (pc' := 207) rfl rfl ?_
      refine w_irem O at_207 (pc' := 208) rfl (nz32 (by omega)) ?_
      refine w_istoreG O at_208 (L' := fun zq => #[.val (.int u0), .val (.int u1), .val (.int u2), .val (.int u3), .val (.int u4), .val (.long u5), .second, .val (.int la), .val (.int lb), .val (.int lc), .val (.ref b16), .val (.int r1), .val (.int r2), .val (.int r3), .val (.int (0 : Int32)), .val (.int r1), .val (.int la), .val (.int (1 : Int32)), .val (.int r2), .val (.int lb), .val (.int ii), .val (.int zq), .unset, .unset]) (pc' := 210) rfl (fun _ => rfl) (fun kk e_kk => ?_)
      have i32 : (u3 &&& (2147483647 : Int32)).toInt = u3.toInt % 2147483648 := c_mask u3 (2147483647 : Int32) 31 (by decide) (by decide)
      have i33 := c_iremV (u3 &&& (2147483647 : Int32)) lb
      have j_kk := congrArg Int32.toInt e_kk
      have r_kk := rng32 kk
      obtain ⟨kk_, hkk_⟩ : ∃ kk_ : Nat, kk.toInt = (kk_ : Int) := ⟨kk.toInt.toNat, by omega⟩
      have hltk : (kk_ : Int) < lb.toInt := by omega
      have hKkk_2 : o2 + kk_ < s3 i2 := by omega
      clear i32 i33 j_kk
      refine w_aload O at_210 (pc' := 212) rfl rfl rfl ?_
      refine w_iload O at_212 (pc' := 214) rfl rfl ?_
      refine w_iload O at_214 (pc' := 216) rfl rfl ?_
      refine w_iload O at_216 (pc' := 218) rfl rfl ?_
      refine w_lload O at_218 (pc' := 220) rfl rfl ?_
      refine w_virtual O at_220 (as := [(.int r1), (.int ii), (.int u4), (.long u5)]) (st := []) (wt := 0) (cl' := 9) (sl' := 3084) (pc' := 223) rfl (mw 35 rfl) (mw 36 rfl) (mw 38 rfl) (mw 37 rfl) (mw 39 rfl) (mw 2 rfl) (by decide) P3.1.1 (con_set l Z a0 hw b16 r1 ii u4 u5 p q c3 z3 f3 N3 D3 s3 (fun _ _ => 0) (fun _ _ => 0) i1 o1 ki h20 n0 P3 hr1 hI1 (by omega) ho1 hki hKki1) rfl pd_3 rfl rfl rfl (by decide) (by decide) rfl rfl (by decide) (by decide) (cV fun h34 PS => ?_)
      refine w_aload O at_223 (pc' := 225) rfl rfl rfl ?_
      refine w_iload O at_225 (pc' := 227) rfl rfl ?_
      refine w_iload O at_227 (pc' := 229) rfl rfl ?_
      refine w_virtual O at_229 (as := [(.int r1), (.int ii)]) (st := []) (wt := 0) (cl' := 9) (sl' := 3084) (pc' := 232) rfl (mw 40 rfl) (mw 41 rfl) (mw 43 rfl) (mw 42 rfl) (mw 44 rfl) (mw 2 rfl) (by decide) PS.1.1 (con_node l Z a0 hw b16 r1 ii p q c3 z3 f3 N3 D3 s3 (updC (fun _ _ => 0) i1 (o1 + ki) u4) (updC (fun _ _ => 0) i1 (o1 + ki) u5) i1 o1 ki h34 n0 PS hr1 hI1 (by omega) ho1 hki hKki1) rfl pd_0 rfl rfl rfl (by decide) (by decide) rfl rfl (by decide) (by decide) (cI fun r_35 _ ⟨qr_35, er_35⟩ => ?_)
      rw [qr_35]
      have vr_35 : r_35 = u4 := er_35.trans (if_pos ⟨rfl, rfl⟩)
      rw [vr_35]
      refine w_iload O at_232 (pc' := 234) rfl rfl ?_
      refine w_icmp_ne O at_234 (pn := 237) (pt := 256) rfl (by decide) rfl (fun q => absurd q (by omega)) (fun c234 => ?_)
      refine w_aload O at_237 (pc' := 239) rfl rfl rfl ?_
      refine w_iload O at_239 (pc' := 241) rfl rfl ?_
      refine w_iload O at_241 (pc' := 243) rfl rfl ?_
      refine w_virtual O at_243 (as := [(.int r1), (.int ii)]) (st := []) (wt := 0) (cl' := 9) (sl' := 3084) (pc' := 246) rfl (mw 45 rfl) (mw 46 rfl) (mw 48 rfl) (mw 47 rfl) (mw 49 rfl) (mw 2 rfl) (by decide) PS.1.1 (con_distance l Z a0 hw b16 r1 ii p q c3 z3 f3 N3 D3 s3 (updC (fun _ _ => 0) i1 (o1 + ki) u4) (updC (fun _ _ => 0) i1 (o1 + ki) u5) i1 o1 ki h34 n0 PS hr1 hI1 (by omega) ho1 hki hKki1) rfl pd_4 rfl rfl rfl (by decide) (by decide) rfl rfl (by decide) (by decide) (cL fun r_36 _ ⟨qr_36, er_36⟩ => ?_)
      rw [qr_36]
      have vr_36 : r_36 = u5 := er_36.trans (if_pos ⟨rfl, rfl⟩)
      rw [vr_36]
      refine w_lload O at_246 (pc' := 248) rfl rfl ?_
      refine w_lcmp_ne O at_248 (pi := 249) rfl at_249 (pn := 252) (pt := 256) rfl (by decide) rfl (fun q => absurd q (by omega)) (fun c248 => ?_)
      refine w_iconst O at_252 (z := (1 : Int32)) (pc' := 253) rfl rfl ?_
      refine w_goto O at_253 (pc' := 257) (by decide) rfl ?_
      refine w_istore O at_257 (L' := #[.val (.int u0), .val (.int u1), .val (.int u2), .val (.int u3), .val (.int u4), .val (.long u5), .second, .val (.int la), .val (.int lb), .val (.int lc), .val (.ref b16), .val (.int r1), .val (.int r2), .val (.int r3), .val (.int (0 : Int32)), .val (.int r1), .val (.int la), .val (.int (1 : Int32)), .val (.int r2), .val (.int lb), .val (.int ii), .val (.int kk), .val (.int (1 : Int32)), .unset]) (pc' := 259) rfl rfl ?_
      refine w_iload O at_259 (pc' := 261) rfl rfl ?_
      refine w_iconst O at_261 (z := (1 : Int32)) (pc' := 262) rfl rfl ?_
      refine w_icmp_le O at_262 (pn := 265) (pt := 312) rfl (by decide) rfl (fun c262 => ?_) (fun c262 => ?_)
      · replace c262 : ¬ 1 < la.toInt := c262
        refine w_iload O at_312 (pc' := 314) rfl rfl ?_
        refine w_if_eq O at_314 (pn := 317) (pt := 347) rfl (by decide) rfl (fun q => absurd q (by decide)) (fun c314 => ?_)
        refine w_aload O at_317 (pc' := 319) rfl rfl rfl ?_
        refine w_iload O at_319 (pc' := 321) rfl rfl ?_
        refine w_iload O at_321 (pc' := 323) rfl rfl ?_
        refine w_virtual O at_323 (as := [(.int r2), (.int kk)]) (st := []) (wt := 0) (cl' := 9) (sl' := 3084) (pc' := 326) rfl (mw 40 rfl) (mw 41 rfl) (mw 43 rfl) (mw 42 rfl) (mw 44 rfl) (mw 2 rfl) (by decide) PS.1.1 (con_node l Z a0 hw b16 r2 kk p q c3 z3 f3 N3 D3 s3 (updC (fun _ _ => 0) i1 (o1 + ki) u4) (updC (fun _ _ => 0) i1 (o1 + ki) u5) i2 o2 kk_ h34 n0 PS hr2 hI2 (by omega) ho2 hkk_ hKkk_2) rfl pd_0 rfl rfl rfl (by decide) (by decide) rfl rfl (by decide) (by decide) (cI fun r_37 _ ⟨qr_37, er_37⟩ => ?_)
        rw [qr_37]
        have vr_37 : r_37 = (0 : Int32) := er_37.trans (if_neg (by omega))
        rw [vr_37]
        refine w_if_ne O at_326 (pn := 329) (pt := 347) rfl (by decide) rfl (fun q => absurd q (by decide)) (fun c326 => ?_)
        refine w_aload O at_329 (pc' := 331) rfl rfl rfl ?_
        refine w_iload O at_331 (pc' := 333) rfl rfl ?_
        refine w_iload O at_333 (pc' := 335) rfl rfl ?_
        refine w_virtual O at_335 (as := [(.int r2), (.int kk)]) (st := []) (wt := 0) (cl' := 9) (sl' := 3084) (pc' := 338) rfl (mw 45 rfl) (mw 46 rfl) (mw 48 rfl) (mw 47 rfl) (mw 49 rfl) (mw 2 rfl) (by decide) PS.1.1 (con_distance l Z a0 hw b16 r2 kk p q c3 z3 f3 N3 D3 s3 (updC (fun _ _ => 0) i1 (o1 + ki) u4) (updC (fun _ _ => 0) i1 (o1 + ki) u5) i2 o2 kk_ h34 n0 PS hr2 hI2 (by omega) ho2 hkk_ hKkk_2) rfl pd_4 rfl rfl rfl (by decide) (by decide) rfl rfl (by decide) (by decide) (cL fun r_38 _ ⟨qr_38, er_38⟩ => ?_)
        rw [qr_38]
        have vr_38 : r_38 = (0 : Int64) := er_38.trans (if_neg (by omega))
        rw [vr_38]
        refine w_lconst O at_338 (z := (0 : Int64)) (pc' := 339) rfl rfl ?_
        refine w_lcmp_ne O at_339 (pi := 340) rfl at_340 (pn := 343) (pt := 347) rfl (by decide) rfl (fun q => absurd q (by decide)) (fun c339 => ?_)
        refine w_iconst O at_343 (z := (1 : Int32)) (pc' := 344) rfl rfl ?_
        refine w_goto O at_344 (pc' := 348) (by decide) rfl ?_
        refine w_istore O at_348 (L' := #[.val (.int u0), .val (.int u1), .val (.int u2), .val (.int u3), .val (.int u4), .val (.long u5), .second, .val (.int la), .val (.int lb), .val (.int lc), .val (.ref b16), .val (.int r1), .val (.int r2), .val (.int r3), .val (.int (0 : Int32)), .val (.int r1), .val (.int la), .val (.int (1 : Int32)), .val (.int r2), .val (.int lb), .val (.int ii), .val (.int kk), .val (.int (1 : Int32)), .unset]) (pc' := 350) rfl rfl ?_
        refine w_iload O at_350 (pc' := 352) rfl rfl ?_
        refine w_retz O at_352 (by decide) (by decide) (Or.inr rfl) ?_
        exact ⟨_, rfl, rfl⟩
      · replace c262 : 1 < la.toInt := c262
        refine w_iload O at_265 (pc' := 267) rfl rfl ?_
        refine w_iconst O at_267 (z := (1 : Int32)) (pc' := 268) rfl rfl ?_
        refine w_iadd O at_268 (pc' := 269) rfl ?_
        refine w_iload O at_269 (pc' := 271) rfl rfl ?_
        refine w_irem O at_271 (pc' := 272) rfl (nz32 (by omega)) ?_
        refine w_istoreG O at_272 (L' := fun zq => #[.val (.int u0), .val (.int u1), .val (.int u2), .val (.int u3), .val (.int u4), .val (.long u5), .second, .val (.int la), .val (.int lb), .val (.int lc), .val (.ref b16), .val (.int r1), .val (.int r2), .val (.int r3), .val (.int (0 : Int32)), .val (.int r1), .val (.int la), .val (.int (1 : Int32)), .val (.int r2), .val (.int lb), .val (.int ii), .val (.int kk), .val (.int (1 : Int32)), .val (.int zq)]) (pc' := 274) rfl (fun _ => rfl) (fun jj e_jj => ?_)
        have i40 : ((ii + (1 : Int32)).toInt - (ii.toInt + 1)) % 4294967296 = 0 := c_iadd ii (1 : Int32)
        have i41 := rng32 (ii + (1 : Int32))
        have i42 := c_iremV (ii + (1 : Int32)) la
        have j_jj := congrArg Int32.toInt e_jj
        have r_jj := rng32 jj
        obtain ⟨kj, hkj⟩ : ∃ kj : Nat, jj.toInt = (kj : Int) := ⟨jj.toInt.toNat, by omega⟩
        have hltj : (kj : Int) < la.toInt := by omega
        have hKkj1 : o1 + kj < s3 i1 := by omega
        have hji : ¬ kj = ki := by omega
        clear i40 i41 i42 j_jj
        refine w_iload O at_274 (pc' := 276) rfl rfl ?_
        refine w_if_eq O at_276 (pn := 279) (pt := 309) rfl (by decide) rfl (fun q => absurd q (by decide)) (fun c276 => ?_)
        refine w_aload O at_279 (pc' := 281) rfl rfl rfl ?_
        refine w_iload O at_281 (pc' := 283) rfl rfl ?_
        refine w_iload O at_283 (pc' := 285) rfl rfl ?_
        refine w_virtual O at_285 (as := [(.int r1), (.int jj)]) (st := []) (wt := 0) (cl' := 9) (sl' := 3084) (pc' := 288) rfl (mw 40 rfl) (mw 41 rfl) (mw 43 rfl) (mw 42 rfl) (mw 44 rfl) (mw 2 rfl) (by decide) PS.1.1 (con_node l Z a0 hw b16 r1 jj p q c3 z3 f3 N3 D3 s3 (updC (fun _ _ => 0) i1 (o1 + ki) u4) (updC (fun _ _ => 0) i1 (o1 + ki) u5) i1 o1 kj h34 n0 PS hr1 hI1 (by omega) ho1 hkj hKkj1) rfl pd_0 rfl rfl rfl (by decide) (by decide) rfl rfl (by decide) (by decide) (cI fun r_43 _ ⟨qr_43, er_43⟩ => ?_)
        rw [qr_43]
        have vr_43 : r_43 = (0 : Int32) := er_43.trans (if_neg (by omega))
        rw [vr_43]
        refine w_if_ne O at_288 (pn := 291) (pt := 309) rfl (by decide) rfl (fun q => absurd q (by decide)) (fun c288 => ?_)
        refine w_aload O at_291 (pc' := 293) rfl rfl rfl ?_
        refine w_iload O at_293 (pc' := 295) rfl rfl ?_
        refine w_iload O at_295 (pc' := 297) rfl rfl ?_
        refine w_virtual O at_297 (as := [(.int r1), (.int jj)]) (st := []) (wt := 0) (cl' := 9) (sl' := 3084) (pc' := 300) rfl (mw 45 rfl) (mw 46 rfl) (mw 48 rfl) (mw 47 rfl) (mw 49 rfl) (mw 2 rfl) (by decide) PS.1.1 (con_distance l Z a0 hw b16 r1 jj p q c3 z3 f3 N3 D3 s3 (updC (fun _ _ => 0) i1 (o1 + ki) u4) (updC (fun _ _ => 0) i1 (o1 + ki) u5) i1 o1 kj h34 n0 PS hr1 hI1 (by omega) ho1 hkj hKkj1) rfl pd_4 rfl rfl rfl (by decide) (by decide) rfl rfl (by decide) (by decide) (cL fun r_44 _ ⟨qr_44, er_44⟩ => ?_)
        rw [qr_44]
        have vr_44 : r_44 = (0 : Int64) := er_44.trans (if_neg (by omega))
        rw [vr_44]
        refine w_lconst O at_300 (z := (0 : Int64)) (pc' := 301) rfl rfl ?_
        refine w_lcmp_ne O at_301 (pi := 302) rfl at_302 (pn := 305) (pt := 309) rfl (by decide) rfl (fun q => absurd q (by decide)) (fun c301 => ?_)
        refine w_iconst O at_305 (z := (1 : Int32)) (pc' := 306) rfl rfl ?_
        refine w_goto O at_306 (pc' := 310) (by decide) rfl ?_
        refine w_istore O at_310 (L' := #[.val (.int u0), .val (.int u1), .val (.int u2), .val (.int u3), .val (.int u4), .val (.long u5), .second, .val (.int la), .val (.int lb), .val (.int lc), .val (.ref b16), .val (.int r1), .val (.int r2), .val (.int r3), .val (.int (0 : Int32)), .val (.int r1), .val (.int la), .val (.int (1 : Int32)), .val (.int r2), .val (.int lb), .val (.int ii), .val (.int kk), .val (.int (1 : Int32)), .val (.int jj)]) (pc' := 312) rfl rfl ?_
        refine w_iload O at_312 (pc' := 314) rfl rfl ?_
        refine w_if_eq O at_314 (pn := 317) (pt := 347) rfl (by decide) rfl (fun q => absurd q (by decide)) (fun c314 => ?_)
        refine w_aload O at_317 (pc' := 319) rfl rfl rfl ?_
        refine w_iload O at_319 (pc' := 321) rfl rfl ?_
        refine w_iload O at_321 (pc' := 323) rfl rfl ?_
        refine w_virtual O at_323 (as := [(.int r2), (.int kk)]) (st := []) (wt := 0) (cl' := 9) (sl' := 3084) (pc' := 326) rfl (mw 40 rfl) (mw 41 rfl) (mw 43 rfl) (mw 42 rfl) (mw 44 rfl) (mw 2 rfl) (by decide) PS.1.1 (con_node l Z a0 hw b16 r2 kk p q c3 z3 f3 N3 D3 s3 (updC (fun _ _ => 0) i1 (o1 + ki) u4) (updC (fun _ _ => 0) i1 (o1 + ki) u5) i2 o2 kk_ h34 n0 PS hr2 hI2 (by omega) ho2 hkk_ hKkk_2) rfl pd_0 rfl rfl rfl (by decide) (by decide) rfl rfl (by decide) (by decide) (cI fun r_45 _ ⟨qr_45, er_45⟩ => ?_)
        rw [qr_45]
        have vr_45 : r_45 = (0 : Int32) := er_45.trans (if_neg (by omega))
        rw [vr_45]
        refine w_if_ne O at_326 (pn := 329) (pt := 347) rfl (by decide) rfl (fun q => absurd q (by decide)) (fun c326 => ?_)
        refine w_aload O at_329 (pc' := 331) rfl rfl rfl ?_
        refine w_iload O at_331 (pc' := 333) rfl rfl ?_
        refine w_iload O at_333 (pc' := 335) rfl rfl ?_
        refine w_virtual O at_335 (as := [(.int r2), (.int kk)]) (st := []) (wt := 0) (cl' := 9) (sl' := 3084) (pc' := 338) rfl (mw 45 rfl) (mw 46 rfl) (mw 48 rfl) (mw 47 rfl) (mw 49 rfl) (mw 2 rfl) (by decide) PS.1.1 (con_distance l Z a0 hw b16 r2 kk p q c3 z3 f3 N3 D3 s3 (updC (fun _ _ => 0) i1 (o1 + ki) u4) (updC (fun _ _ => 0) i1 (o1 + ki) u5) i2 o2 kk_ h34 n0 PS hr2 hI2 (by omega) ho2 hkk_ hKkk_2) rfl pd_4 rfl rfl rfl (by decide) (by decide) rfl rfl (by decide) (by decide) (cL fun r_46 _ ⟨qr_46, er_46⟩ => ?_)
        rw [qr_46]
        have vr_46 : r_46 = (0 : Int64) := er_46.trans (if_neg (by omega))
        rw [vr_46]
        refine w_lconst O at_338 (z := (0 : Int64)) (pc' := 339) rfl rfl ?_
        refine w_lcmp_ne O at_339 (pi := 340) rfl at_340 (pn := 343) (pt := 347) rfl (by decide) rfl (fun q => absurd q (by decide)) (fun c339 => ?_)
        refine w_iconst O at_343 (z := (1 : Int32)) (pc' := 344) rfl rfl ?_
        refine w_goto O at_344 (pc' := 348) (by decide) rfl ?_
        refine w_istore O at_348 (L' := #[.val (.int u0), .val (.int u1), .val (.int u2), .val (.int u3), .val (.int u4), .val (.long u5), .second, .val (.int la), .val (.int lb), .val (.int lc), .val (.ref b16), .val (.int r1), .val (.int r2), .val (.int r3), .val (.int (0 : Int32)), .val (.int r1), .val (.int la), .val (.int (1 : Int32)), .val (.int r2), .val (.int lb), .val (.int ii), .val (.int kk), .val (.int (1 : Int32)), .val (.int jj)]) (pc' := 350) rfl rfl ?_
        refine w_iload O at_350 (pc' := 352) rfl rfl ?_
        refine w_retz O at_352 (by decide) (by decide) (Or.inr rfl) ?_
        exact ⟨_, rfl, rfl⟩
    · first | rw [eo] | rw [show (0 : Int32) + 1 = 1 from by decide, eo]
      clear i23 i24 i25 i26 i27
      refine w_istore O at_140 (L' := #[.val (.int u0), .val (.int u1), .val (.int u2), .val (.int u3), .val (.int u4), .val (.long u5), .second, .val (.int la), .val (.int lb), .val (.int lc), .val (.ref b16), .val (.int r1), .val (.int r2), .val (.int r3), .val (.int (0 : Int32)), .val (.int r1), .val (.int la), .val (.int (2 : Int32)), .unset, .unset, .unset, .unset, .unset, .unset]) (pc' := 142) rfl rfl ?_
      refine w_iload O at_142 (pc' := 144) rfl rfl ?_
      refine w_if_ne O at_144 (pn := 147) (pt := 152) rfl (by decide) rfl (fun c144 => ?_) (fun q => absurd q (by decide))
      refine w_iload O at_152 (pc' := 154) rfl rfl ?_
      refine w_iconst O at_154 (z := (1 : Int32)) (pc' := 155) rfl rfl ?_
      refine w_icmp_ne O at_155 (pn := 158) (pt := 163) rfl (by decide) rfl (fun c155 => ?_) (fun q => absurd q (by decide))
      refine w_iload O at_163 (pc' := 165) rfl rfl ?_
      refine w_istore O at_165 (L' := #[.val (.int u0), .val (.int u1), .val (.int u2), .val (.int u3), .val (.int u4), .val (.long u5), .second, .val (.int la), .val (.int lb), .val (.int lc), .val (.ref b16), .val (.int r1), .val (.int r2), .val (.int r3), .val (.int (0 : Int32)), .val (.int r1), .val (.int la), .val (.int (2 : Int32)), .val (.int r3), .unset, .unset, .unset, .unset, .unset]) (pc' := 167) rfl rfl ?_
      refine w_iload O at_167 (pc' := 169) rfl rfl ?_
      refine w_if_ne O at_169 (pn := 172) (pt := 177) rfl (by decide) rfl (fun c169 => ?_) (fun q => absurd q (by decide))
      refine w_iload O at_177 (pc' := 179) rfl rfl ?_
      refine w_iconst O at_179 (z := (1 : Int32)) (pc' := 180) rfl rfl ?_
      refine w_icmp_ne O at_180 (pn := 183) (pt := 188) rfl (by decide) rfl (fun c180 => ?_) (fun q => absurd q (by decide))
      refine w_iload O at_188 (pc' := 190) rfl rfl ?_
      refine w_istore O at_190 (L' := #[.val (.int u0), .val (.int u1), .val (.int u2), .val (.int u3), .val (.int u4), .val (.long u5), .second, .val (.int la), .val (.int lb), .val (.int lc), .val (.ref b16), .val (.int r1), .val (.int r2), .val (.int r3), .val (.int (0 : Int32)), .val (.int r1), .val (.int la), .val (.int (2 : Int32)), .val (.int r3), .val (.int lc), .unset, .unset, .unset, .unset]) (pc' := 192) rfl rfl ?_
      refine w_iloadN O at_192 (pc' := 193) rfl rfl ?_
      refine w_ldc O at_193 (pc' := 195) rfl (mw 34 rfl) ?_
      refine w_iand O at_195 (pc' := 196) rfl ?_
      refine w_iload O at_196 (pc' := 198) rfl rfl ?_
      refine w_irem O at_198 (pc' := 199) rfl (nz32 (by omega)) ?_
      refine w_istoreG O at_199 (L' := fun zq => #[.val (.int u0), .val (.int u1), .val (.int u2), .val (.int u3), .val (.int u4), .val (.long u5), .second, .val (.int la), .val (.int lb), .val (.int lc), .val (.ref b16), .val (.int r1), .val (.int r2), .val (.int r3), .val (.int (0 : Int32)), .val (.int r1), .val (.int la), .val (.int (2 : Int32)), .val (.int r3), .val (.int lc), .val (.int zq), .unset, .unset, .unset]) (pc' := 201) rfl (fun _ => rfl) (fun ii e_ii => ?_)
      have i29 : (u2 &&& (2147483647 : Int32)).toInt = u2.toInt % 2147483648 := c_mask u2 (2147483647 : Int32) 31 (by decide) (by decide)
      have i30 := c_iremV (u2 &&& (2147483647 : Int32)) la
      have j_ii := congrArg Int32.toInt e_ii
      have r_ii := rng32 ii
      obtain ⟨ki, hki⟩ : ∃ ki : Nat, ii.toInt = (ki : Int) := ⟨ii.toInt.toNat, by omega⟩
      have hlti : (ki : Int) < la.toInt := by omega
      have hKki1 : o1 + ki < s3 i1 := by omega
      clear i29 i30 j_ii
      refine w_iloadN O at_201 (pc' := 202) rfl rfl ?_
      refine w_ldc O at_202 (pc' := 204) rfl (mw 34 rfl) ?_
      refine w_iand O at_204 (pc' := 205) rfl ?_
      refine w_iload O at_205 (pc' := 207) rfl rfl ?_
      refine w_irem O at_207 (pc' := 208) rfl (nz32 (by omega)) ?_
      refine w_istoreG O at_208 (L' := fun zq => #[.val (.int u0), .val (.int u1), .val (.int u2), .val (.int u3), .val (.int u4), .val (.long u5), .second, .val (.int la), .val (.int lb), .val (.int lc), .val (.ref b16), .val (.int r1), .val (.int r2), .val (.int r3), .val (.int (0 : Int32)), .val (.int r1), .val (.int la), .val (.int (2 : Int32)), .val (.int r3), .val (.int lc), .val (.int ii), .val (.int zq), .unset, .unset]) (pc' := 210) rfl (fun _ => rfl) (fun kk e_kk => ?_)
      have i32 : (u3 &&& (2147483647 : Int32)).toInt = u3.toInt % 2147483648 := c_mask u3 (2147483647 : Int32) 31 (by decide) (by decide)
      have i33 := c_iremV (u3 &&& (2147483647 : Int32)) lc
      have j_kk := congrArg Int32.toInt e_kk
      have r_kk := rng32 kk
      obtain ⟨kk_, hkk_⟩ : ∃ kk_ : Nat, kk.toInt = (kk_ : Int) := ⟨kk.toInt.toNat, by omega⟩
      have hltk : (kk_ : Int) < lc.toInt := by omega
      have hKkk_3 : o3 + kk_ < s3 i3 := by omega
      clear i32 i33 j_kk
      refine w_aload O at_210 (pc' := 212) rfl rfl rfl ?_
      refine w_iload O at_212 (pc' := 214) rfl rfl ?_
      refine w_iload O at_214 (pc' := 216) rfl rfl ?_
      refine w_iload O at_216 (pc' := 218) rfl rfl ?_
      refine w_lload O at_218 (pc' := 220) rfl rfl ?_
      refine w_virtual O at_220 (as := [(.int r1), (.int ii), (.int u4), (.long u5)]) (st := []) (wt := 0) (cl' := 9) (sl' := 3084) (pc' := 223) rfl (mw 35 rfl) (mw 36 rfl) (mw 38 rfl) (mw 37 rfl) (mw 39 rfl) (mw 2 rfl) (by decide) P3.1.1 (con_set l Z a0 hw b16 r1 ii u4 u5 p q c3 z3 f3 N3 D3 s3 (fun _ _ => 0) (fun _ _ => 0) i1 o1 ki h20 n0 P3 hr1 hI1 (by omega) ho1 hki hKki1) rfl pd_3 rfl rfl rfl (by decide) (by decide) rfl rfl (by decide) (by decide) (cV fun h34 PS => ?_)
      refine w_aload O at_223 (pc' := 225) rfl rfl rfl ?_
      refine w_iload O at_225 (pc' := 227) rfl rfl ?_
      refine w_iload O at_227 (pc' := 229) rfl rfl ?_
      refine w_virtual O at_229 (as := [(.int r1), (.int ii)]) (st := []) (wt := 0) (cl' := 9) (sl' := 3084) (pc' := 232) rfl (mw 40 rfl) (mw 41 rfl) (mw 43 rfl) (mw 42 rfl) (mw 44 rfl) (mw 2 rfl) (by decide) PS.1.1 (con_node l Z a0 hw b16 r1 ii p q c3 z3 f3 N3 D3 s3 (updC (fun _ _ => 0) i1 (o1 + ki) u4) (updC (fun _ _ => 0) i1 (o1 + ki) u5) i1 o1 ki h34 n0 PS hr1 hI1 (by omega) ho1 hki hKki1) rfl pd_0 rfl rfl rfl (by decide) (by decide) rfl rfl (by decide) (by decide) (cI fun r_35 _ ⟨qr_35, er_35⟩ => ?_)
      rw [qr_35]
      have vr_35 : r_35 = u4 := er_35.trans (if_pos ⟨rfl, rfl⟩)
      rw [vr_35]
      refine w_iload O at_232 (pc' := 234) rfl rfl ?_
      refine w_icmp_ne O at_234 (pn := 237) (pt := 256) rfl (by decide) rfl (fun q => absurd q (by omega)) (fun c234 => ?_)
      refine w_aload O at_237 (pc' := 239) rfl rfl rfl ?_
      refine w_iload O at_239 (pc' := 241) rfl rfl ?_
      refine w_iload O at_241 (pc' := 243) rfl rfl ?_
      refine w_virtual O at_243 (as := [(.int r1), (.int ii)]) (st := []) (wt := 0) (cl' := 9) (sl' := 3084) (pc' := 246) rfl (mw 45 rfl) (mw 46 rfl) (mw 48 rfl) (mw 47 rfl) (mw 49 rfl) (mw 2 rfl) (by decide) PS.1.1 (con_distance l Z a0 hw b16 r1 ii p q c3 z3 f3 N3 D3 s3 (updC (fun _ _ => 0) i1 (o1 + ki) u4) (updC (fun _ _ => 0) i1 (o1 + ki) u5) i1 o1 ki h34 n0 PS hr1 hI1 (by omega) ho1 hki hKki1) rfl pd_4 rfl rfl rfl (by decide) (by decide) rfl rfl (by decide) (by decide) (cL fun r_36 _ ⟨qr_36, er_36⟩ => ?_)
      rw [qr_36]
      have vr_36 : r_36 = u5 := er_36.trans (if_pos ⟨rfl, rfl⟩)
      rw [vr_36]
      refine w_lload O at_246 (pc' := 248) rfl rfl ?_
      refine w_lcmp_ne O at_248 (pi := 249) rfl at_249 (pn := 252) (pt := 256) rfl (by decide) rfl (fun q => absurd q (by omega)) (fun c248 => ?_)
      refine w_iconst O at_252 (z := (1 : Int32)) (pc' := 253) rfl rfl ?_
      refine w_goto O at_253 (pc' := 257) (by decide) rfl ?_
      refine w_istore O at_257 (L' := #[.val (.int u0), .val (.int u1), .val (.int u2), .val (.int u3), .val (.int u4), .val (.long u5), .second, .val (.int la), .val (.int lb), .val (.int lc), .val (.ref b16), .val (.int r1), .val (.int r2), .val (.int r3), .val (.int (0 : Int32)), .val (.int r1), .val (.int la), .val (.int (2 : Int32)), .val (.int r3), .val (.int lc), .val (.int ii), .val (.int kk), .val (.int (1 : Int32)), .unset]) (pc' := 259) rfl rfl ?_
      refine w_iload O at_259 (pc' := 261) rfl rfl ?_
      refine w_iconst O at_261 (z := (1 : Int32)) (pc' := 262) rfl rfl ?_
      refine w_icmp_le O at_262 (pn := 265) (pt := 312) rfl (by decide) rfl (fun c262 => ?_) (fun c262 => ?_)
      · replace c262 : ¬ 1 < la.toInt := c262
        refine w_iload O at_312 (pc' := 314) rfl rfl ?_
        refine w_if_eq O at_314 (pn := 317) (pt := 347) rfl (by decide) rfl (fun q => absurd q (by decide)) (fun c314 => ?_)
        refine w_aload O at_317 (pc' := 319) rfl rfl rfl ?_
        refine w_iload O at_319 (pc' := 321) rfl rfl ?_
        refine w_iload O at_321 (pc' := 323) rfl rfl ?_
        refine w_virtual O at_323 (as := [(.int r3), (.int kk)]) (st := []) (wt := 0) (cl' := 9) (sl' := 3084) (pc' := 326) rfl (mw 40 rfl) (mw 41 rfl) (mw 43 rfl) (mw 42 rfl) (mw 44 rfl) (mw 2 rfl) (by decide) PS.1.1 (con_node l Z a0 hw b16 r3 kk p q c3 z3 f3 N3 D3 s3 (updC (fun _ _ => 0) i1 (o1 + ki) u4) (updC (fun _ _ => 0) i1 (o1 + ki) u5) i3 o3 kk_ h34 n0 PS hr3 hI3 (by omega) ho3 hkk_ hKkk_3) rfl pd_0 rfl rfl rfl (by decide) (by decide) rfl rfl (by decide) (by decide) (cI fun r_37 _ ⟨qr_37, er_37⟩ => ?_)
        rw [qr_37]
        have vr_37 : r_37 = (0 : Int32) := er_37.trans (if_neg (by omega))
        rw [vr_37]
        refine w_if_ne O at_326 (pn := 329) (pt := 347) rfl (by decide) rfl (fun q => absurd q (by decide)) (fun c326 => ?_)
        refine w_aload O at_329 (pc' := 331) rfl rfl rfl ?_
        refine w_iload O at_331 (pc' := 333) rfl rfl ?_
        refine w_iload O at_333 (pc' := 335) rfl rfl ?_
        refine w_virtual O at_335 (as := [(.int r3), (.int kk)]) (st := []) (wt := 0) (cl' := 9) (sl' := 3084) (pc' := 338) rfl (mw 45 rfl) (mw 46 rfl) (mw 48 rfl) (mw 47 rfl) (mw 49 rfl) (mw 2 rfl) (by decide) PS.1.1 (con_distance l Z a0 hw b16 r3 kk p q c3 z3 f3 N3 D3 s3 (updC (fun _ _ => 0) i1 (o1 + ki) u4) (updC (fun _ _ => 0) i1 (o1 + ki) u5) i3 o3 kk_ h34 n0 PS hr3 hI3 (by omega) ho3 hkk_ hKkk_3) rfl pd_4 rfl rfl rfl (by decide) (by decide) rfl rfl (by decide) (by decide) (cL fun r_38 _ ⟨qr_38, er_38⟩ => ?_)
        rw [qr_38]
        have vr_38 : r_38 = (0 : Int64) := er_38.trans (if_neg (by omega))
        rw [vr_38]
        refine w_lconst O at_338 (z := (0 : Int64)) (pc' := 339) rfl rfl ?_
        refine w_lcmp_ne O at_339 (pi := 340) rfl at_340 (pn := 343) (pt := 347) rfl (by decide) rfl (fun q => absurd q (by decide)) (fun c339 => ?_)
        refine w_iconst O at_343 (z := (1 : Int32)) (pc' := 344) rfl rfl ?_
        refine w_goto O at_344 (pc' := 348) (by decide) rfl ?_
        refine w_istore O at_348 (L' := #[.val (.int u0), .val (.int u1), .val (.int u2), .val (.int u3), .val (.int u4), .val (.long u5), .second, .val (.int la), .val (.int lb), .val (.int lc), .val (.ref b16), .val (.int r1), .val (.int r2), .val (.int r3), .val (.int (0 : Int32)), .val (.int r1), .val (.int la), .val (.int (2 : Int32)), .val (.int r3), .val (.int lc), .val (.int ii), .val (.int kk), .val (.int (1 : Int32)), .unset]) (pc' := 350) rfl rfl ?_
        refine w_iload O at_350 (pc' := 352) rfl rfl ?_
        refine w_retz O at_352 (by decide) (by decide) (Or.inr rfl) ?_
        exact ⟨_, rfl, rfl⟩
      · replace c262 : 1 < la.toInt := c262
        refine w_iload O at_265 (pc' := 267) rfl rfl ?_
        refine w_iconst O at_267 (z := (1 : Int32)) (pc' := 268) rfl rfl ?_
        refine w_iadd O at_268 (pc' := 269) rfl ?_
        refine w_iload O at_269 (pc' := 271) rfl rfl ?_
        refine w_irem O at_271 (pc' := 272) rfl (nz32 (by omega)) ?_
        refine w_istoreG O at_272 (L' := fun zq => #[.val (.int u0), .val (.int u1), .val (.int u2), .val (.int u3), .val (.int u4), .val (.long u5), .second, .val (.int la), .val (.int lb), .val (.int lc), .val (.ref b16), .val (.int r1), .val (.int r2), .val (.int r3), .val (.int (0 : Int32)), .val (.int r1), .val (.int la), .val (.int (2 : Int32)), .val (.int r3), .val (.int lc), .val (.int ii), .val (.int kk), .val (.int (1 : Int32)), .val (.int zq)]) (pc' := 274) rfl (fun _ => rfl) (fun jj e_jj => ?_)
        have i40 : ((ii + (1 : Int32)).toInt - (ii.toInt + 1)) % 4294967296 = 0 := c_iadd ii (1 : Int32)
        have i41 := rng32 (ii + (1 : Int32))
        have i42 := c_iremV (ii + (1 : Int32)) la
        have j_jj := congrArg Int32.toInt e_jj
        have r_jj := rng32 jj
        obtain ⟨kj, hkj⟩ : ∃ kj : Nat, jj.toInt = (kj : Int) := ⟨jj.toInt.toNat, by omega⟩
        have hltj : (kj : Int) < la.toInt := by omega
        have hKkj1 : o1 + kj < s3 i1 := by omega
        have hji : ¬ kj = ki := by omega
        clear i40 i41 i42 j_jj
        refine w_iload O at_274 (pc' := 276) rfl rfl ?_
        refine w_if_eq O at_276 (pn := 279) (pt := 309) rfl (by decide) rfl (fun q => absurd q (by decide)) (fun c276 => ?_)
        refine w_aload O at_279 (pc' := 281) rfl rfl rfl ?_
        refine w_iload O at_281 (pc' := 283) rfl rfl ?_
        refine w_iload O at_283 (pc' := 285) rfl rfl ?_
        refine w_virtual O at_285 (as := [(.int r1), (.int jj)]) (st := []) (wt := 0) (cl' := 9) (sl' := 3084) (pc' := 288) rfl (mw 40 rfl) (mw 41 rfl) (mw 43 rfl) (mw 42 rfl) (mw 44 rfl) (mw 2 rfl) (by decide) PS.1.1 (con_node l Z a0 hw b16 r1 jj p q c3 z3 f3 N3 D3 s3 (updC (fun _ _ => 0) i1 (o1 + ki) u4) (updC (fun _ _ => 0) i1 (o1 + ki) u5) i1 o1 kj h34 n0 PS hr1 hI1 (by omega) ho1 hkj hKkj1) rfl pd_0 rfl rfl rfl (by decide) (by decide) rfl rfl (by decide) (by decide) (cI fun r_43 _ ⟨qr_43, er_43⟩ => ?_)
        rw [qr_43]
        have vr_43 : r_43 = (0 : Int32) := er_43.trans (if_neg (by omega))
        rw [vr_43]
        refine w_if_ne O at_288 (pn := 291) (pt := 309) rfl (by decide) rfl (fun q => absurd q (by decide)) (fun c288 => ?_)
        refine w_aload O at_291 (pc' := 293) rfl rfl rfl ?_
        refine w_iload O at_293 (pc' := 295) rfl rfl ?_
        refine w_iload O at_295 (pc' := 297) rfl rfl ?_
        refine w_virtual O at_297 (as := [(.int r1), (.int jj)]) (st := []) (wt := 0) (cl' := 9) (sl' := 3084) (pc' := 300) rfl (mw 45 rfl) (mw 46 rfl) (mw 48 rfl) (mw 47 rfl) (mw 49 rfl) (mw 2 rfl) (by decide) PS.1.1 (con_distance l Z a0 hw b16 r1 jj p q c3 z3 f3 N3 D3 s3 (updC (fun _ _ => 0) i1 (o1 + ki) u4) (updC (fun _ _ => 0) i1 (o1 + ki) u5) i1 o1 kj h34 n0 PS hr1 hI1 (by omega) ho1 hkj hKkj1) rfl pd_4 rfl rfl rfl (by decide) (by decide) rfl rfl (by decide) (by decide) (cL fun r_44 _ ⟨qr_44, er_44⟩ => ?_)
        rw [qr_44]
        have vr_44 : r_44 = (0 : Int64) := er_44.trans (if_neg (by omega))
        rw [vr_44]
        refine w_lconst O at_300 (z := (0 : Int64)) (pc' := 301) rfl rfl ?_
        refine w_lcmp_ne O at_301 (pi := 302) rfl at_302 (pn := 305) (pt := 309) rfl (by decide) rfl (fun q => absurd q (by decide)) (fun c301 => ?_)
        refine w_iconst O at_305 (z := (1 : Int32)) (pc' := 306) rfl rfl ?_
        refine w_goto O at_306 (pc' := 310) (by decide) rfl ?_
        refine w_istore O at_310 (L' := #[.val (.int u0), .val (.int u1), .val (.int u2), .val (.int u3), .val (.int u4), .val (.long u5), .second, .val (.int la), .val (.int lb), .val (.int lc), .val (.ref b16), .val (.int r1), .val (.int r2), .val (.int r3), .val (.int (0 : Int32)), .val (.int r1), .val (.int la), .val (.int (2 : Int32)), .val (.int r3), .val (.int lc), .val (.int ii), .val (.int kk), .val (.int (1 : Int32)), .val (.int jj)]) (pc' := 312) rfl rfl ?_
        refine w_iload O at_312 (pc' := 314) rfl rfl ?_
        refine w_if_eq O at_314 (pn := 317) (pt := 347) rfl (by decide) rfl (fun q => absurd q (by decide)) (fun c314 => ?_)
        refine w_aload O at_317 (pc' := 319) rfl rfl rfl ?_
        refine w_iload O at_319 (pc' := 321) rfl rfl ?_
        refine w_iload O at_321 (pc' := 323) rfl rfl ?_
        refine w_virtual O at_323 (as := [(.int r3), (.int kk)]) (st := []) (wt := 0) (cl' := 9) (sl' := 3084) (pc' := 326) rfl (mw 40 rfl) (mw 41 rfl) (mw 43 rfl) (mw 42 rfl) (mw 44 rfl) (mw 2 rfl) (by decide) PS.1.1 (con_node l Z a0 hw b16 r3 kk p q c3 z3 f3 N3 D3 s3 (updC (fun _ _ => 0) i1 (o1 + ki) u4) (updC (fun _ _ => 0) i1 (o1 + ki) u5) i3 o3 kk_ h34 n0 PS hr3 hI3 (by omega) ho3 hkk_ hKkk_3) rfl pd_0 rfl rfl rfl (by decide) (by decide) rfl rfl (by decide) (by decide) (cI fun r_45 _ ⟨qr_45, er_45⟩ => ?_)
        rw [qr_45]
        have vr_45 : r_45 = (0 : Int32) := er_45.trans (if_neg (by omega))
        rw [vr_45]
        refine w_if_ne O at_326 (pn := 329) (pt := 347) rfl (by decide) rfl (fun q => absurd q (by decide)) (fun c326 => ?_)
        refine w_aload O at_329 (pc' := 331) rfl rfl rfl ?_
        refine w_iload O at_331 (pc' := 333) rfl rfl ?_
        refine w_iload O at_333 (pc' := 335) rfl rfl ?_
        refine w_virtual O at_335 (as := [(.int r3), (.int kk)]) (st := []) (wt := 0) (cl' := 9) (sl' := 3084) (pc' := 338) rfl (mw 45 rfl) (mw 46 rfl) (mw 48 rfl) (mw 47 rfl) (mw 49 rfl) (mw 2 rfl) (by decide) PS.1.1 (con_distance l Z a0 hw b16 r3 kk p q c3 z3 f3 N3 D3 s3 (updC (fun _ _ => 0) i1 (o1 + ki) u4) (updC (fun _ _ => 0) i1 (o1 + ki) u5) i3 o3 kk_ h34 n0 PS hr3 hI3 (by omega) ho3 hkk_ hKkk_3) rfl pd_4 rfl rfl rfl (by decide) (by decide) rfl rfl (by decide) (by decide) (cL fun r_46 _ ⟨qr_46, er_46⟩ => ?_)
        rw [qr_46]
        have vr_46 : r_46 = (0 : Int64) := er_46.trans (if_neg (by omega))
        rw [vr_46]
        refine w_lconst O at_338 (z := (0 : Int64)) (pc' := 339) rfl rfl ?_
        refine w_lcmp_ne O at_339 (pi := 340) rfl at_340 (pn := 343) (pt := 347) rfl (by decide) rfl (fun q => absurd q (by decide)) (fun c339 => ?_)
        refine w_iconst O at_343 (z := (1 : Int32)) (pc' := 344) rfl rfl ?_
        refine w_goto O at_344 (pc' := 348) (by decide) rfl ?_
        refine w_istore O at_348 (L' := #[.val (.int u0), .val (.int u1), .val (.int u2), .val (.int u3), .val (.int u4), .val (.long u5), .second, .val (.int la), .val (.int lb), .val (.int lc), .val (.ref b16), .val (.int r1), .val (.int r2), .val (.int r3), .val (.int (0 : Int32)), .val (.int r1), .val (.int la), .val (.int (2 : Int32)), .val (.int r3), .val (.int lc), .val (.int ii), .val (.int kk), .val (.int (1 : Int32)), .val (.int jj)]) (pc' := 350) rfl rfl ?_
        refine w_iload O at_350 (pc' := 352) rfl rfl ?_
        refine w_retz O at_352 (by decide) (by decide) (Or.inr rfl) ?_
        exact ⟨_, rfl, rfl⟩
  · rw [et]
    clear i21 i22
    refine w_istore O at_75 (L' := #[.val (.int u0), .val (.int u1), .val (.int u2), .val (.int u3), .val (.int u4), .val (.long u5), .second, .val (.int la), .val (.int lb), .val (.int lc), .val (.ref b16), .val (.int r1), .val (.int r2), .val (.int r3), .val (.int (1 : Int32)), .unset, .unset, .unset, .unset, .unset, .unset, .unset, .unset, .unset]) (pc' := 77) rfl rfl ?_
    refine w_iload O at_77 (pc' := 79) rfl rfl ?_
    refine w_if_ne O at_79 (pn := 82) (pt := 87) rfl (by decide) rfl (fun c79 => ?_) (fun q => absurd q (by decide))
    refine w_iload O at_87 (pc' := 89) rfl rfl ?_
    refine w_iconst O at_89 (z := (1 : Int32)) (pc' := 90) rfl rfl ?_
    refine w_icmp_ne O at_90 (pn := 93) (pt := 98) rfl (by decide) rfl (fun q => absurd q (by decide)) (fun c90 => ?_)
    refine w_iload O at_93 (pc' := 95) rfl rfl ?_
    refine w_goto O at_95 (pc' := 100) (by decide) rfl ?_
    refine w_istore O at_100 (L' := #[.val (.int u0), .val (.int u1), .val (.int u2), .val (.int u3), .val (.int u4), .val (.long u5), .second, .val (.int la), .val (.int lb), .val (.int lc), .val (.ref b16), .val (.int r1), .val (.int r2), .val (.int r3), .val (.int (1 : Int32)), .val (.int r2), .unset, .unset, .unset, .unset, .unset, .unset, .unset, .unset]) (pc' := 102) rfl rfl ?_
    refine w_iload O at_102 (pc' := 104) rfl rfl ?_
    refine w_if_ne O at_104 (pn := 107) (pt := 112) rfl (by decide) rfl (fun c104 => ?_) (fun q => absurd q (by decide))
    refine w_iload O at_112 (pc' := 114) rfl rfl ?_
    refine w_iconst O at_114 (z := (1 : Int32)) (pc' := 115) rfl rfl ?_
    refine w_icmp_ne O at_115 (pn := 118) (pt := 123) rfl (by decide) rfl (fun q => absurd q (by decide)) (fun c115 => ?_)
    refine w_iload O at_118 (pc' := 120) rfl rfl ?_
    refine w_goto O at_120 (pc' := 125) (by decide) rfl ?_
    refine w_istore O at_125 (L' := #[.val (.int u0), .val (.int u1), .val (.int u2), .val (.int u3), .val (.int u4), .val (.long u5), .second, .val (.int la), .val (.int lb), .val (.int lc), .val (.ref b16), .val (.int r1), .val (.int r2), .val (.int r3), .val (.int (1 : Int32)), .val (.int r2), .val (.int lb), .unset, .unset, .unset, .unset, .unset, .unset, .unset]) (pc' := 127) rfl rfl ?_
    refine w_iload O at_127 (pc' := 129) rfl rfl ?_
    refine w_iconst O at_129 (z := (1 : Int32)) (pc' := 130) rfl rfl ?_
    refine w_iadd O at_130 (pc' := 131) rfl ?_
    refine w_iloadN O at_131 (pc' := 132) rfl rfl ?_
    refine w_bipush O at_132 (z := (31 : Int32)) (pc' := 134) rfl rfl ?_
    refine w_iushr O at_134 (pc' := 135) rfl ?_
    refine w_iconst O at_135 (z := (1 : Int32)) (pc' := 136) rfl rfl ?_
    refine w_iand O at_136 (pc' := 137) rfl ?_
    refine w_iadd O at_137 (pc' := 138) rfl ?_
    refine w_iconst O at_138 (z := (3 : Int32)) (pc' := 139) rfl rfl ?_
    refine w_irem O at_139 (pc' := 140) rfl (by decide) ?_
    have i23 : ((u1.toUInt32 >>> ((31 : Int32) &&& 31).toUInt32).toInt32).toInt = (u1.toInt % 4294967296) / 2147483648 := c_iushr u1 (31 : Int32) 31 (by decide) (by decide)
    have i24 : (((u1.toUInt32 >>> ((31 : Int32) &&& 31).toUInt32).toInt32) &&& (1 : Int32)).toInt = ((u1.toUInt32 >>> ((31 : Int32) &&& 31).toUInt32).toInt32).toInt % 2 := c_mask ((u1.toUInt32 >>> ((31 : Int32) &&& 31).toUInt32).toInt32) (1 : Int32) 1 (by decide) (by decide)
    have i25 : (((2 : Int32) + (((u1.toUInt32 >>> ((31 : Int32) &&& 31).toUInt32).toInt32) &&& (1 : Int32))).toInt - (2 + (((u1.toUInt32 >>> ((31 : Int32) &&& 31).toUInt32).toInt32) &&& (1 : Int32)).toInt)) % 4294967296 = 0 := c_iadd (2 : Int32) (((u1.toUInt32 >>> ((31 : Int32) &&& 31).toUInt32).toInt32) &&& (1 : Int32))
    have i26 := rng32 ((2 : Int32) + (((u1.toUInt32 >>> ((31 : Int32) &&& 31).toUInt32).toInt32) &&& (1 : Int32)))
    have i27 : (0 ≤ ((2 : Int32) + (((u1.toUInt32 >>> ((31 : Int32) &&& 31).toUInt32).toInt32) &&& (1 : Int32))).toInt → (((2 : Int32) + (((u1.toUInt32 >>> ((31 : Int32) &&& 31).toUInt32).toInt32) &&& (1 : Int32))) % (3 : Int32)).toInt = ((2 : Int32) + (((u1.toUInt32 >>> ((31 : Int32) &&& 31).toUInt32).toInt32) &&& (1 : Int32))).toInt % 3) ∧ (((2 : Int32) + (((u1.toUInt32 >>> ((31 : Int32) &&& 31).toUInt32).toInt32) &&& (1 : Int32))).toInt < 0 → (((2 : Int32) + (((u1.toUInt32 >>> ((31 : Int32) &&& 31).toUInt32).toInt32) &&& (1 : Int32))) % (3 : Int32)).toInt = -((-((2 : Int32) + (((u1.toUInt32 >>> ((31 : Int32) &&& 31).toUInt32).toInt32) &&& (1 : Int32))).toInt) % 3)) := c_irem ((2 : Int32) + (((u1.toUInt32 >>> ((31 : Int32) &&& 31).toUInt32).toInt32) &&& (1 : Int32))) (3 : Int32) 3 (by decide)
    have ho3 : (((2 : Int32) + (((u1.toUInt32 >>> ((31 : Int32) &&& 31).toUInt32).toInt32) &&& (1 : Int32))) % (3 : Int32)) = 2 ∨ (((2 : Int32) + (((u1.toUInt32 >>> ((31 : Int32) &&& 31).toUInt32).toInt32) &&& (1 : Int32))) % (3 : Int32)) = 0 := by
      have hb3 : (((u1.toUInt32 >>> ((31 : Int32) &&& 31).toUInt32).toInt32) &&& (1 : Int32)).toInt = 0 ∨ (((u1.toUInt32 >>> ((31 : Int32) &&& 31).toUInt32).toInt32) &&& (1 : Int32)).toInt = 1 := by omega
      have hs3 : ((2 : Int32) + (((u1.toUInt32 >>> ((31 : Int32) &&& 31).toUInt32).toInt32) &&& (1 : Int32))).toInt = 2 + (((u1.toUInt32 >>> ((31 : Int32) &&& 31).toUInt32).toInt32) &&& (1 : Int32)).toInt := by omega
      have : (((2 : Int32) + (((u1.toUInt32 >>> ((31 : Int32) &&& 31).toUInt32).toInt32) &&& (1 : Int32))) % (3 : Int32)).toInt = 2 ∨ (((2 : Int32) + (((u1.toUInt32 >>> ((31 : Int32) &&& 31).toUInt32).toInt32) &&& (1 : Int32))) % (3 : Int32)).toInt = 0 := by omega
      rcases this with q | q
      · exact Or.inl (Int32.toInt_inj.mp (q.trans (by decide)))
      · exact Or.inr (Int32.toInt_inj.mp (q.trans (by decide)))
    rcases ho3 with eo | eo
    · first | rw [eo] | rw [show (1 : Int32) + 1 = 2 from by decide, eo]
      clear i23 i24 i25 i26 i27
      refine w_istore O at_140 (L' := #[.val (.int u0), .val (.int u1), .val (.int u2), .val (.int u3), .val (.int u4), .val (.long u5), .second, .val (.int la), .val (.int lb), .val (.int lc), .val (.ref b16), .val (.int r1), .val (.int r2), .val (.int r3), .val (.int (1 : Int32)), .val (.int r2), .val (.int lb), .val (.int (2 : Int32)), .unset, .unset, .unset, .unset, .unset, .unset]) (pc' := 142) rfl rfl ?_
      refine w_iload O at_142 (pc' := 144) rfl rfl ?_
      refine w_if_ne O at_144 (pn := 147) (pt := 152) rfl (by decide) rfl (fun c144 => ?_) (fun q => absurd q (by decide))
      refine w_iload O at_152 (pc' := 154) rfl rfl ?_
      refine w_iconst O at_154 (z := (1 : Int32)) (pc' := 155) rfl rfl ?_
      refine w_icmp_ne O at_155 (pn := 158) (pt := 163) rfl (by decide) rfl (fun c155 => ?_) (fun q => absurd q (by decide))
      refine w_iload O at_163 (pc' := 165) rfl rfl ?_
      refine w_istore O at_165 (L' := #[.val (.int u0), .val (.int u1), .val (.int u2), .val (.int u3), .val (.int u4), .val (.long u5), .second, .val (.int la), .val (.int lb), .val (.int lc), .val (.ref b16), .val (.int r1), .val (.int r2), .val (.int r3), .val (.int (1 : Int32)), .val (.int r2), .val (.int lb), .val (.int (2 : Int32)), .val (.int r3), .unset, .unset, .unset, .unset, .unset]) (pc' := 167) rfl rfl ?_
      refine w_iload O at_167 (pc' := 169) rfl rfl ?_
      refine w_if_ne O at_169 (pn := 172) (pt := 177) rfl (by decide) rfl (fun c169 => ?_) (fun q => absurd q (by decide))
      refine w_iload O at_177 (pc' := 179) rfl rfl ?_
      refine w_iconst O at_179 (z := (1 : Int32)) (pc' := 180) rfl rfl ?_
      refine w_icmp_ne O at_180 (pn := 183) (pt := 188) rfl (by decide) rfl (fun c180 => ?_) (fun q => absurd q (by decide))
      refine w_iload O at_188 (pc' := 190) rfl rfl ?_
      refine w_istore O at_190 (L' := #[.val (.int u0), .val (.int u1), .val (.int u2), .val (.int u3), .val (.int u4), .val (.long u5), .second, .val (.int la), .val (.int lb), .val (.int lc), .val (.ref b16), .val (.int r1), .val (.int r2), .val (.int r3), .val (.int (1 : Int32)), .val (.int r2), .val (.int lb), .val (.int (2 : Int32)), .val (.int r3), .val (.int lc), .unset, .unset, .unset, .unset]) (pc' := 192) rfl rfl ?_
      refine w_iloadN O at_192 (pc' := 193) rfl rfl ?_
      refine w_ldc O at_193 (pc' := 195) rfl (mw 34 rfl) ?_
      refine w_iand O at_195 (pc' := 196) rfl ?_
      refine w_iload O at_196 (pc' := 198) rfl rfl ?_
      refine w_irem O at_198 (pc' := 199) rfl (nz32 (by omega)) ?_
      refine w_istoreG O at_199 (L' := fun zq => #[.val (.int u0), .val (.int u1), .val (.int u2), .val (.int u3), .val (.int u4), .val (.long u5), .second, .val (.int la), .val (.int lb), .val (.int lc), .val (.ref b16), .val (.int r1), .val (.int r2), .val (.int r3), .val (.int (1 : Int32)), .val (.int r2), .val (.int lb), .val (.int (2 : Int32)), .val (.int r3), .val (.int lc), .val (.int zq), .unset, .unset, .unset]) (pc' := 201) rfl (fun _ => rfl) (fun ii e_ii => ?_)
      have i29 : (u2 &&& (2147483647 : Int32)).toInt = u2.toInt % 2147483648 := c_mask u2 (2147483647 : Int32) 31 (by decide) (by decide)
      have i30 := c_iremV (u2 &&& (2147483647 : Int32)) lb
      have j_ii := congrArg Int32.toInt e_ii
      have r_ii := rng32 ii
      obtain ⟨ki, hki⟩ : ∃ ki : Nat, ii.toInt = (ki : Int) := ⟨ii.toInt.toNat, by omega⟩
      have hlti : (ki : Int) < lb.toInt := by omega
      have hKki2 : o2 + ki < s3 i2 := by omega
      clear i29 i30 j_ii
      refine w_iloadN O at_201 (pc' := 202) rfl rfl ?_
      refine w_ldc O at_202 (pc' := 204) rfl (mw 34 rfl) ?_
      refine w_iand O at_204 (pc' := 205) rfl ?_
      refine w_iload O at_205 (pc' := 207) rfl rfl ?_
      refine w_irem O at_207 (pc' := 208) rfl (nz32 (by omega)) ?_
      refine w_istoreG O at_208 (L' := fun zq => #[.val (.int u0), .val (.int u1), .val (.int u2), .val (.int u3), .val (.int u4), .val (.long u5), .second, .val (.int la), .val (.int lb), .val (.int lc), .val (.ref b16), .val (.int r1), .val (.int r2), .val (.int r3), .val (.int (1 : Int32)), .val (.int r2), .val (.int lb), .val (.int (2 : Int32)), .val (.int r3), .val (.int lc), .val (.int ii), .val (.int zq), .unset, .unset]) (pc' := 210) rfl (fun _ => rfl) (fun kk e_kk => ?_)
      have i32 : (u3 &&& (2147483647 : Int32)).toInt = u3.toInt % 2147483648 := c_mask u3 (2147483647 : Int32) 31 (by decide) (by decide)
      have i33 := c_iremV (u3 &&& (2147483647 : Int32)) lc
      have j_kk := congrArg Int32.toInt e_kk
      have r_kk := rng32 kk
      obtain ⟨kk_, hkk_⟩ : ∃ kk_ : Nat, kk.toInt = (kk_ : Int) := ⟨kk.toInt.toNat, by omega⟩
      have hltk : (kk_ : Int) < lc.toInt := by omega
      have hKkk_3 : o3 + kk_ < s3 i3 := by omega
      clear i32 i33 j_kk
      refine w_aload O at_210 (pc' := 212) rfl rfl rfl ?_
      refine w_iload O at_212 (pc' := 214) rfl rfl ?_
      refine w_iload O at_214 (pc' := 216) rfl rfl ?_
      refine w_iload O at_216 (pc' := 218) rfl rfl ?_
      refine w_lload O at_218 (pc' := 220) rfl rfl ?_
      refine w_virtual O at_220 (as := [(.int r2), (.int ii), (.int u4), (.long u5)]) (st := []) (wt := 0) (cl' := 9) (sl' := 3084) (pc' := 223) rfl (mw 35 rfl) (mw 36 rfl) (mw 38 rfl) (mw 37 rfl) (mw 39 rfl) (mw 2 rfl) (by decide) P3.1.1 (con_set l Z a0 hw b16 r2 ii u4 u5 p q c3 z3 f3 N3 D3 s3 (fun _ _ => 0) (fun _ _ => 0) i2 o2 ki h20 n0 P3 hr2 hI2 (by omega) ho2 hki hKki2) rfl pd_3 rfl rfl rfl (by decide) (by decide) rfl rfl (by decide) (by decide) (cV fun h34 PS => ?_)
      refine w_aload O at_223 (pc' := 225) rfl rfl rfl ?_
      refine w_iload O at_225 (pc' := 227) rfl rfl ?_
      refine w_iload O at_227 (pc' := 229) rfl rfl ?_
      refine w_virtual O at_229 (as := [(.int r2), (.int ii)]) (st := []) (wt := 0) (cl' := 9) (sl' := 3084) (pc' := 232) rfl (mw 40 rfl) (mw 41 rfl) (mw 43 rfl) (mw 42 rfl) (mw 44 rfl) (mw 2 rfl) (by decide) PS.1.1 (con_node l Z a0 hw b16 r2 ii p q c3 z3 f3 N3 D3 s3 (updC (fun _ _ => 0) i2 (o2 + ki) u4) (updC (fun _ _ => 0) i2 (o2 + ki) u5) i2 o2 ki h34 n0 PS hr2 hI2 (by omega) ho2 hki hKki2) rfl pd_0 rfl rfl rfl (by decide) (by decide) rfl rfl (by decide) (by decide) (cI fun r_35 _ ⟨qr_35, er_35⟩ => ?_)
      rw [qr_35]
      have vr_35 : r_35 = u4 := er_35.trans (if_pos ⟨rfl, rfl⟩)
      rw [vr_35]
      refine w_iload O at_232 (pc' := 234) rfl rfl ?_
      refine w_icmp_ne O at_234 (pn := 237) (pt := 256) rfl (by decide) rfl (fun q => absurd q (by omega)) (fun c234 => ?_)
      refine w_aload O at_237 (pc' := 239) rfl rfl rfl ?_
      refine w_iload O at_239 (pc' := 241) rfl rfl ?_
      refine w_iload O at_241 (pc' := 243) rfl rfl ?_
      refine w_virtual O at_243 (as := [(.int r2), (.int ii)]) (st := []) (wt := 0) (cl' := 9) (sl' := 3084) (pc' := 246) rfl (mw 45 rfl) (mw 46 rfl) (mw 48 rfl) (mw 47 rfl) (mw 49 rfl) (mw 2 rfl) (by decide) PS.1.1 (con_distance l Z a0 hw b16 r2 ii p q c3 z3 f3 N3 D3 s3 (updC (fun _ _ => 0) i2 (o2 + ki) u4) (updC (fun _ _ => 0) i2 (o2 + ki) u5) i2 o2 ki h34 n0 PS hr2 hI2 (by omega) ho2 hki hKki2) rfl pd_4 rfl rfl rfl (by decide) (by decide) rfl rfl (by decide) (by decide) (cL fun r_36 _ ⟨qr_36, er_36⟩ => ?_)
      rw [qr_36]
      have vr_36 : r_36 = u5 := er_36.trans (if_pos ⟨rfl, rfl⟩)
      rw [vr_36]
      refine w_lload O at_246 (pc' := 248) rfl rfl ?_
      refine w_lcmp_ne O at_248 (pi := 249) rfl at_249 (pn := 252) (pt := 256) rfl (by decide) rfl (fun q => absurd q (by omega)) (fun c248 => ?_)
      refine w_iconst O at_252 (z := (1 : Int32)) (pc' := 253) rfl rfl ?_
      refine w_goto O at_253 (pc' := 257) (by decide) rfl ?_
      refine w_istore O at_257 (L' := #[.val (.int u0), .val (.int u1), .val (.int u2), .val (.int u3), .val (.int u4), .val (.long u5), .second, .val (.int la), .val (.int lb), .val (.int lc), .val (.ref b16), .val (.int r1), .val (.int r2), .val (.int r3), .val (.int (1 : Int32)), .val (.int r2), .val (.int lb), .val (.int (2 : Int32)), .val (.int r3), .val (.int lc), .val (.int ii), .val (.int kk), .val (.int (1 : Int32)), .unset]) (pc' := 259) rfl rfl ?_
      refine w_iload O at_259 (pc' := 261) rfl rfl ?_
      refine w_iconst O at_261 (z := (1 : Int32)) (pc' := 262) rfl rfl ?_
      refine w_icmp_le O at_262 (pn := 265) (pt := 312) rfl (by decide) rfl (fun c262 => ?_) (fun c262 => ?_)
      · replace c262 : ¬ 1 < lb.toInt := c262
        refine w_iload O at_312 (pc' := 314) rfl rfl ?_
        refine w_if_eq O at_314 (pn := 317) (pt := 347) rfl (by decide) rfl (fun q => absurd q (by decide)) (fun c314 => ?_)
        refine w_aload O at_317 (pc' := 319) rfl rfl rfl ?_
        refine w_iload O at_319 (pc' := 321) rfl rfl ?_
        refine w_iload O at_321 (pc' := 323) rfl rfl ?_
        refine w_virtual O at_323 (as := [(.int r3), (.int kk)]) (st := []) (wt := 0) (cl' := 9) (sl' := 3084) (pc' := 326) rfl (mw 40 rfl) (mw 41 rfl) (mw 43 rfl) (mw 42 rfl) (mw 44 rfl) (mw 2 rfl) (by decide) PS.1.1 (con_node l Z a0 hw b16 r3 kk p q c3 z3 f3 N3 D3 s3 (updC (fun _ _ => 0) i2 (o2 + ki) u4) (updC (fun _ _ => 0) i2 (o2 + ki) u5) i3 o3 kk_ h34 n0 PS hr3 hI3 (by omega) ho3 hkk_ hKkk_3) rfl pd_0 rfl rfl rfl (by decide) (by decide) rfl rfl (by decide) (by decide) (cI fun r_37 _ ⟨qr_37, er_37⟩ => ?_)
        rw [qr_37]
        have vr_37 : r_37 = (0 : Int32) := er_37.trans (if_neg (by omega))
        rw [vr_37]
        refine w_if_ne O at_326 (pn := 329) (pt := 347) rfl (by decide) rfl (fun q => absurd q (by decide)) (fun c326 => ?_)
        refine w_aload O at_329 (pc' := 331) rfl rfl rfl ?_
        refine w_iload O at_331 (pc' := 333) rfl rfl ?_
        refine w_iload O at_333 (pc' := 335) rfl rfl ?_
        refine w_virtual O at_335 (as := [(.int r3), (.int kk)]) (st := []) (wt := 0) (cl' := 9) (sl' := 3084) (pc' := 338) rfl (mw 45 rfl) (mw 46 rfl) (mw 48 rfl) (mw 47 rfl) (mw 49 rfl) (mw 2 rfl) (by decide) PS.1.1 (con_distance l Z a0 hw b16 r3 kk p q c3 z3 f3 N3 D3 s3 (updC (fun _ _ => 0) i2 (o2 + ki) u4) (updC (fun _ _ => 0) i2 (o2 + ki) u5) i3 o3 kk_ h34 n0 PS hr3 hI3 (by omega) ho3 hkk_ hKkk_3) rfl pd_4 rfl rfl rfl (by decide) (by decide) rfl rfl (by decide) (by decide) (cL fun r_38 _ ⟨qr_38, er_38⟩ => ?_)
        rw [qr_38]
        have vr_38 : r_38 = (0 : Int64) := er_38.trans (if_neg (by omega))
        rw [vr_38]
        refine w_lconst O at_338 (z := (0 : Int64)) (pc' := 339) rfl rfl ?_
        refine w_lcmp_ne O at_339 (pi := 340) rfl at_340 (pn := 343) (pt := 347) rfl (by decide) rfl (fun q => absurd q (by decide)) (fun c339 => ?_)
        refine w_iconst O at_343 (z := (1 : Int32)) (pc' := 344) rfl rfl ?_
        refine w_goto O at_344 (pc' := 348) (by decide) rfl ?_
        refine w_istore O at_348 (L' := #[.val (.int u0), .val (.int u1), .val (.int u2), .val (.int u3), .val (.int u4), .val (.long u5), .second, .val (.int la), .val (.int lb), .val (.int lc), .val (.ref b16), .val (.int r1), .val (.int r2), .val (.int r3), .val (.int (1 : Int32)), .val (.int r2), .val (.int lb), .val (.int (2 : Int32)), .val (.int r3), .val (.int lc), .val (.int ii), .val (.int kk), .val (.int (1 : Int32)), .unset]) (pc' := 350) rfl rfl ?_
        refine w_iload O at_350 (pc' := 352) rfl rfl ?_
        refine w_retz O at_352 (by decide) (by decide) (Or.inr rfl) ?_
        exact ⟨_, rfl, rfl⟩
      · replace c262 : 1 < lb.toInt := c262
        refine w_iload O at_265 (pc' := 267) rfl rfl ?_
        refine w_iconst O at_267 (z := (1 : Int32)) (pc' := 268) rfl rfl ?_
        refine w_iadd O at_268 (pc' := 269) rfl ?_
        refine w_iload O at_269 (pc' := 271) rfl rfl ?_
        refine w_irem O at_271 (pc' := 272) rfl (nz32 (by omega)) ?_
        refine w_istoreG O at_272 (L' := fun zq => #[.val (.int u0), .val (.int u1), .val (.int u2), .val (.int u3), .val (.int u4), .val (.long u5), .second, .val (.int la), .val (.int lb), .val (.int lc), .val (.ref b16), .val (.int r1), .val (.int r2), .val (.int r3), .val (.int (1 : Int32)), .val (.int r2), .val (.int lb), .val (.int (2 : Int32)), .val (.int r3), .val (.int lc), .val (.int ii), .val (.int kk), .val (.int (1 : Int32)), .val (.int zq)]) (pc' := 274) rfl (fun _ => rfl) (fun jj e_jj => ?_)
        have i40 : ((ii + (1 : Int32)).toInt - (ii.toInt + 1)) % 4294967296 = 0 := c_iadd ii (1 : Int32)
        have i41 := rng32 (ii + (1 : Int32))
        have i42 := c_iremV (ii + (1 : Int32)) lb
        have j_jj := congrArg Int32.toInt e_jj
        have r_jj := rng32 jj
        obtain ⟨kj, hkj⟩ : ∃ kj : Nat, jj.toInt = (kj : Int) := ⟨jj.toInt.toNat, by omega⟩
        have hltj : (kj : Int) < lb.toInt := by omega
        have hKkj2 : o2 + kj < s3 i2 := by omega
        have hji : ¬ kj = ki := by omega
        clear i40 i41 i42 j_jj
        refine w_iload O at_274 (pc' := 276) rfl rfl ?_
        refine w_if_eq O at_276 (pn := 279) (pt := 309) rfl (by decide) rfl (fun q => absurd q (by decide)) (fun c276 => ?_)
        refine w_aload O at_279 (pc' := 281) rfl rfl rfl ?_
        refine w_iload O at_281 (pc' := 283) rfl rfl ?_
        refine w_iload O at_283 (pc' := 285) rfl rfl ?_
        refine w_virtual O at_285 (as := [(.int r2), (.int jj)]) (st := []) (wt := 0) (cl' := 9) (sl' := 3084) (pc' := 288) rfl (mw 40 rfl) (mw 41 rfl) (mw 43 rfl) (mw 42 rfl) (mw 44 rfl) (mw 2 rfl) (by decide) PS.1.1 (con_node l Z a0 hw b16 r2 jj p q c3 z3 f3 N3 D3 s3 (updC (fun _ _ => 0) i2 (o2 + ki) u4) (updC (fun _ _ => 0) i2 (o2 + ki) u5) i2 o2 kj h34 n0 PS hr2 hI2 (by omega) ho2 hkj hKkj2) rfl pd_0 rfl rfl rfl (by decide) (by decide) rfl rfl (by decide) (by decide) (cI fun r_43 _ ⟨qr_43, er_43⟩ => ?_)
        rw [qr_43]
        have vr_43 : r_43 = (0 : Int32) := er_43.trans (if_neg (by omega))
        rw [vr_43]
        refine w_if_ne O at_288 (pn := 291) (pt := 309) rfl (by decide) rfl (fun q => absurd q (by decide)) (fun c288 => ?_)
        refine w_aload O at_291 (pc' := 293) rfl rfl rfl ?_
        refine w_iload O at_293 (pc' := 295) rfl rfl ?_
        refine w_iload O at_295 (pc' := 297) rfl rfl ?_
        refine w_virtual O at_297 (as := [(.int r2), (.int jj)]) (st := []) (wt := 0) (cl' := 9) (sl' := 3084) (pc' := 300) rfl (mw 45 rfl) (mw 46 rfl) (mw 48 rfl) (mw 47 rfl) (mw 49 rfl) (mw 2 rfl) (by decide) PS.1.1 (con_distance l Z a0 hw b16 r2 jj p q c3 z3 f3 N3 D3 s3 (updC (fun _ _ => 0) i2 (o2 + ki) u4) (updC (fun _ _ => 0) i2 (o2 + ki) u5) i2 o2 kj h34 n0 PS hr2 hI2 (by omega) ho2 hkj hKkj2) rfl pd_4 rfl rfl rfl (by decide) (by decide) rfl rfl (by decide) (by decide) (cL fun r_44 _ ⟨qr_44, er_44⟩ => ?_)
        rw [qr_44]
        have vr_44 : r_44 = (0 : Int64) := er_44.trans (if_neg (by omega))
        rw [vr_44]
        refine w_lconst O at_300 (z := (0 : Int64)) (pc' := 301) rfl rfl ?_
        refine w_lcmp_ne O at_301 (pi := 302) rfl at_302 (pn := 305) (pt := 309) rfl (by decide) rfl (fun q => absurd q (by decide)) (fun c301 => ?_)
        refine w_iconst O at_305 (z := (1 : Int32)) (pc' := 306) rfl rfl ?_
        refine w_goto O at_306 (pc' := 310) (by decide) rfl ?_
        refine w_istore O at_310 (L' := #[.val (.int u0), .val (.int u1), .val (.int u2), .val (.int u3), .val (.int u4), .val (.long u5), .second, .val (.int la), .val (.int lb), .val (.int lc), .val (.ref b16), .val (.int r1), .val (.int r2), .val (.int r3), .val (.int (1 : Int32)), .val (.int r2), .val (.int lb), .val (.int (2 : Int32)), .val (.int r3), .val (.int lc), .val (.int ii), .val (.int kk), .val (.int (1 : Int32)), .val (.int jj)]) (pc' := 312) rfl rfl ?_
        refine w_iload O at_312 (pc' := 314) rfl rfl ?_
        refine w_if_eq O at_314 (pn := 317) (pt := 347) rfl (by decide) rfl (fun q => absurd q (by decide)) (fun c314 => ?_)
        refine w_aload O at_317 (pc' := 319) rfl rfl rfl ?_
        refine w_iload O at_319 (pc' := 321) rfl rfl ?_
        refine w_iload O at_321 (pc' := 323) rfl rfl ?_
        refine w_virtual O at_323 (as := [(.int r3), (.int kk)]) (st := []) (wt := 0) (cl' := 9) (sl' := 3084) (pc' := 326) rfl (mw 40 rfl) (mw 41 rfl) (mw 43 rfl) (mw 42 rfl) (mw 44 rfl) (mw 2 rfl) (by decide) PS.1.1 (con_node l Z a0 hw b16 r3 kk p q c3 z3 f3 N3 D3 s3 (updC (fun _ _ => 0) i2 (o2 + ki) u4) (updC (fun _ _ => 0) i2 (o2 + ki) u5) i3 o3 kk_ h34 n0 PS hr3 hI3 (by omega) ho3 hkk_ hKkk_3) rfl pd_0 rfl rfl rfl (by decide) (by decide) rfl rfl (by decide) (by decide) (cI fun r_45 _ ⟨qr_45, er_45⟩ => ?_)
        rw [qr_45]
        have vr_45 : r_45 = (0 : Int32) := er_45.trans (if_neg (by omega))
        rw [vr_45]
        refine w_if_ne O at_326 (pn := 329) (pt := 347) rfl (by decide) rfl (fun q => absurd q (by decide)) (fun c326 => ?_)
        refine w_aload O at_329 (pc' := 331) rfl rfl rfl ?_
        refine w_iload O at_331 (pc' := 333) rfl rfl ?_
        refine w_iload O at_333 (pc' := 335) rfl rfl ?_
        refine w_virtual O at_335 (as := [(.int r3), (.int kk)]) (st := []) (wt := 0) (cl' := 9) (sl' := 3084) (pc' := 338) rfl (mw 45 rfl) (mw 46 rfl) (mw 48 rfl) (mw 47 rfl) (mw 49 rfl) (mw 2 rfl) (by decide) PS.1.1 (con_distance l Z a0 hw b16 r3 kk p q c3 z3 f3 N3 D3 s3 (updC (fun _ _ => 0) i2 (o2 + ki) u4) (updC (fun _ _ => 0) i2 (o2 + ki) u5) i3 o3 kk_ h34 n0 PS hr3 hI3 (by omega) ho3 hkk_ hKkk_3) rfl pd_4 rfl rfl rfl (by decide) (by decide) rfl rfl (by decide) (by decide) (cL fun r_46 _ ⟨qr_46, er_46⟩ => ?_)
        rw [qr_46]
        have vr_46 : r_46 = (0 : Int64) := er_46.trans (if_neg (by omega))
        rw [vr_46]
        refine w_lconst O at_338 (z := (0 : Int64)) (pc' := 339) rfl rfl ?_
        refine w_lcmp_ne O at_339 (pi := 340) rfl at_340 (pn := 343) (pt := 347) rfl (by decide) rfl (fun q => absurd q (by decide)) (fun c339 => ?_)
        refine w_iconst O at_343 (z := (1 : Int32)) (pc' := 344) rfl rfl ?_
        refine w_goto O at_344 (pc' := 348) (by decide) rfl ?_
        refine w_istore O at_348 (L' := #[.val (.int u0), .val (.int u1), .val (.int u2), .val (.int u3), .val (.int u4), .val (.long u5), .second, .val (.int la), .val (.int lb), .val (.int lc), .val (.ref b16), .val (.int r1), .val (.int r2), .val (.int r3), .val (.int (1 : Int32)), .val (.int r2), .val (.int lb), .val (.int (2 : Int32)), .val (.int r3), .val (.int lc), .val (.int ii), .val (.int kk), .val (.int (1 : Int32)), .val (.int jj)]) (pc' := 350) rfl rfl ?_
        refine w_iload O at_350 (pc' := 352) rfl rfl ?_
        refine w_retz O at_352 (by decide) (by decide) (Or.inr rfl) ?_
        exact ⟨_, rfl, rfl⟩
    · first | rw [eo] | rw [show (1 : Int32) + 1 = 2 from by decide, eo]
      clear i23 i24 i25 i26 i27
      refine w_istore O at_140 (L' := #[.val (.int u0), .val (.int u1), .val (.int u2), .val (.int u3), .val (.int u4), .val (.long u5), .second, .val (.int la), .val (.int lb), .val (.int lc), .val (.ref b16), .val (.int r1), .val (.int r2), .val (.int r3), .val (.int (1 : Int32)), .val (.int r2), .val (.int lb), .val (.int (0 : Int32)), .unset, .unset, .unset, .unset, .unset, .unset]) (pc' := 142) rfl rfl ?_
      refine w_iload O at_142 (pc' := 144) rfl rfl ?_
      refine w_if_ne O at_144 (pn := 147) (pt := 152) rfl (by decide) rfl (fun q => absurd q (by decide)) (fun c144 => ?_)
      refine w_iload O at_147 (pc' := 149) rfl rfl ?_
      refine w_goto O at_149 (pc' := 165) (by decide) rfl ?_
      refine w_istore O at_165 (L' := #[.val (.int u0), .val (.int u1), .val (.int u2), .val (.int u3), .val (.int u4), .val (.long u5), .second, .val (.int la), .val (.int lb), .val (.int lc), .val (.ref b16), .val (.int r1), .val (.int r2), .val (.int r3), .val (.int (1 : Int32)), .val (.int r2), .val (.int lb), .val (.int (0 : Int32)), .val (.int r1), .unset, .unset, .unset, .unset, .unset]) (pc' := 167) rfl rfl ?_
      refine w_iload O at_167 (pc' := 169) rfl rfl ?_
      refine w_if_ne O at_169 (pn := 172) (pt := 177) rfl (by decide) rfl (fun q => absurd q (by decide)) (fun c169 => ?_)
      refine w_iload O at_172 (pc' := 174) rfl rfl ?_
      refine w_goto O at_174 (pc' := 190) (by decide) rfl ?_
      refine w_istore O at_190 (L' := #[.val (.int u0), .val (.int u1), .val (.int u2), .val (.int u3), .val (.int u4), .val (.long u5), .second, .val (.int la), .val (.int lb), .val (.int lc), .val (.ref b16), .val (.int r1), .val (.int r2), .val (.int r3), .val (.int (1 : Int32)), .val (.int r2), .val (.int lb), .val (.int (0 : Int32)), .val (.int r1), .val (.int la), .unset, .unset, .unset, .unset]) (pc' := 192) rfl rfl ?_
      refine w_iloadN O at_192 (pc' := 193) rfl rfl ?_
      refine w_ldc O at_193 (pc' := 195) rfl (mw 34 rfl) ?_
      refine w_iand O at_195 (pc' := 196) rfl ?_
      refine w_iload O at_196 (pc' := 198) rfl rfl ?_
      refine w_irem O at_198 (pc' := 199) rfl (nz32 (by omega)) ?_
      refine w_istoreG O at_199 (L' := fun zq => #[.val (.int u0), .val (.int u1), .val (.int u2), .val (.int u3), .val (.int u4), .val (.long u5), .second, .val (.int la), .val (.int lb), .val (.int lc), .val (.ref b16), .val (.int r1), .val (.int r2), .val (.int r3), .val (.int (1 : Int32)), .val (.int r2), .val (.int lb), .val (.int (0 : Int32)), .val (.int r1), .val (.int la), .val (.int zq), .unset, .unset, .unset]) (pc' := 201) rfl (fun _ => rfl) (fun ii e_ii => ?_)
      have i29 : (u2 &&& (2147483647 : Int32)).toInt = u2.toInt % 2147483648 := c_mask u2 (2147483647 : Int32) 31 (by decide) (by decide)
      have i30 := c_iremV (u2 &&& (2147483647 : Int32)) lb
      have j_ii := congrArg Int32.toInt e_ii
      have r_ii := rng32 ii
      obtain ⟨ki, hki⟩ : ∃ ki : Nat, ii.toInt = (ki : Int) := ⟨ii.toInt.toNat, by omega⟩
      have hlti : (ki : Int) < lb.toInt := by omega
      have hKki2 : o2 + ki < s3 i2 := by omega
      clear i29 i30 j_ii
      refine w_iloadN O at_201 (pc' := 202) rfl rfl ?_
      refine w_ldc O at_202 (pc' := 204) rfl (mw 34 rfl) ?_
      refine w_iand O at_204 (pc' := 205) rfl ?_
      refine w_iload O at_205 (pc' := 207) rfl rfl ?_
      refine w_irem O at_207 (pc' := 208) rfl (nz32 (by omega)) ?_
      refine w_istoreG O at_208 (L' := fun zq => #[.val (.int u0), .val (.int u1), .val (.int u2), .val (.int u3), .val (.int u4), .val (.long u5), .second, .val (.int la), .val (.int lb), .val (.int lc), .val (.ref b16), .val (.int r1), .val (.int r2), .val (.int r3), .val (.int (1 : Int32)), .val (.int r2), .val (.int lb), .val (.int (0 : Int32)), .val (.int r1), .val (.int la), .val (.int ii), .val (.int zq), .unset, .unset]) (pc' := 210) rfl (fun _ => rfl) (fun kk e_kk => ?_)
      have i32 : (u3 &&& (2147483647 : Int32)).toInt = u3.toInt % 2147483648 := c_mask u3 (2147483647 : Int32) 31 (by decide) (by decide)
      have i33 := c_iremV (u3 &&& (2147483647 : Int32)) la
      have j_kk := congrArg Int32.toInt e_kk
      have r_kk := rng32 kk
      obtain ⟨kk_, hkk_⟩ : ∃ kk_ : Nat, kk.toInt = (kk_ : Int) := ⟨kk.toInt.toNat, by omega⟩
      have hltk : (kk_ : Int) < la.toInt := by omega
      have hKkk_1 : o1 + kk_ < s3 i1 := by omega
      clear i32 i33 j_kk
      refine w_aload O at_210 (pc' := 212) rfl rfl rfl ?_
      refine w_iload O at_212 (pc' := 214) rfl rfl ?_
      refine w_iload O at_214 (pc' := 216) rfl rfl ?_
      refine w_iload O at_216 (pc' := 218) rfl rfl ?_
      refine w_lload O at_218 (pc' := 220) rfl rfl ?_
      refine w_virtual O at_220 (as := [(.int r2), (.int ii), (.int u4), (.long u5)]) (st := []) (wt := 0) (cl' := 9) (sl' := 3084) (pc' := 223) rfl (mw 35 rfl) (mw 36 rfl) (mw 38 rfl) (mw 37 rfl) (mw 39 rfl) (mw 2 rfl) (by decide) P3.1.1 (con_set l Z a0 hw b16 r2 ii u4 u5 p q c3 z3 f3 N3 D3 s3 (fun _ _ => 0) (fun _ _ => 0) i2 o2 ki h20 n0 P3 hr2 hI2 (by omega) ho2 hki hKki2) rfl pd_3 rfl rfl rfl (by decide) (by decide) rfl rfl (by decide) (by decide) (cV fun h34 PS => ?_)
      refine w_aload O at_223 (pc' := 225) rfl rfl rfl ?_
      refine w_iload O at_225 (pc' := 227) rfl rfl ?_
      refine w_iload O at_227 (pc' := 229) rfl rfl ?_
      refine w_virtual O at_229 (as := [(.int r2), (.int ii)]) (st := []) (wt := 0) (cl' := 9) (sl' := 3084) (pc' := 232) rfl (mw 40 rfl) (mw 41 rfl) (mw 43 rfl) (mw 42 rfl) (mw 44 rfl) (mw 2 rfl) (by decide) PS.1.1 (con_node l Z a0 hw b16 r2 ii p q c3 z3 f3 N3 D3 s3 (updC (fun _ _ => 0) i2 (o2 + ki) u4) (updC (fun _ _ => 0) i2 (o2 + ki) u5) i2 o2 ki h34 n0 PS hr2 hI2 (by omega) ho2 hki hKki2) rfl pd_0 rfl rfl rfl (by decide) (by decide) rfl rfl (by decide) (by decide) (cI fun r_35 _ ⟨qr_35, er_35⟩ => ?_)
      rw [qr_35]
      have vr_35 : r_35 = u4 := er_35.trans (if_pos ⟨rfl, rfl⟩)
      rw [vr_35]
      refine w_iload O at_232 (pc' := 234) rfl rfl ?_
      refine w_icmp_ne O at_234 (pn := 237) (pt := 256) rfl (by decide) rfl (fun q => absurd q (by omega)) (fun c234 => ?_)
      refine w_aload O at_237 (pc' := 239) rfl rfl rfl ?_
      refine w_iload O at_239 (pc' := 241) rfl rfl ?_
      refine w_iload O at_241 (pc' := 243) rfl rfl ?_
      refine w_virtual O at_243 (as := [(.int r2), (.int ii)]) (st := []) (wt := 0) (cl' := 9) (sl' := 3084) (pc' := 246) rfl (mw 45 rfl) (mw 46 rfl) (mw 48 rfl) (mw 47 rfl) (mw 49 rfl) (mw 2 rfl) (by decide) PS.1.1 (con_distance l Z a0 hw b16 r2 ii p q c3 z3 f3 N3 D3 s3 (updC (fun _ _ => 0) i2 (o2 + ki) u4) (updC (fun _ _ => 0) i2 (o2 + ki) u5) i2 o2 ki h34 n0 PS hr2 hI2 (by omega) ho2 hki hKki2) rfl pd_4 rfl rfl rfl (by decide) (by decide) rfl rfl (by decide) (by decide) (cL fun r_36 _ ⟨qr_36, er_36⟩ => ?_)
      rw [qr_36]
      have vr_36 : r_36 = u5 := er_36.trans (if_pos ⟨rfl, rfl⟩)
      rw [vr_36]
      refine w_lload O at_246 (pc' := 248) rfl rfl ?_
      refine w_lcmp_ne O at_248 (pi := 249) rfl at_249 (pn := 252) (pt := 256) rfl (by decide) rfl (fun q => absurd q (by omega)) (fun c248 => ?_)
      refine w_iconst O at_252 (z := (1 : Int32)) (pc' := 253) rfl rfl ?_
      refine w_goto O at_253 (pc' := 257) (by decide) rfl ?_
      refine w_istore O at_257 (L' := #[.val (.int u0), .val (.int u1), .val (.int u2), .val (.int u3), .val (.int u4), .val (.long u5), .second, .val (.int la), .val (.int lb), .val (.int lc), .val (.ref b16), .val (.int r1), .val (.int r2), .val (.int r3), .val (.int (1 : Int32)), .val (.int r2), .val (.int lb), .val (.int (0 : Int32)), .val (.int r1), .val (.int la), .val (.int ii), .val (.int kk), .val (.int (1 : Int32)), .unset]) (pc' := 259) rfl rfl ?_
      refine w_iload O at_259 (pc' := 261) rfl rfl ?_
      refine w_iconst O at_261 (z := (1 : Int32)) (pc' := 262) rfl rfl ?_
      refine w_icmp_le O at_262 (pn := 265) (pt := 312) rfl (by decide) rfl (fun c262 => ?_) (fun c262 => ?_)
      · replace c262 : ¬ 1 < lb.toInt := c262
        refine w_iload O at_312 (pc' := 314) rfl rfl ?_
        refine w_if_eq O at_314 (pn := 317) (pt := 347) rfl (by decide) rfl (fun q => absurd q (by decide)) (fun c314 => ?_)
        refine w_aload O at_317 (pc' := 319) rfl rfl rfl ?_
        refine w_iload O at_319 (pc' := 321) rfl rfl ?_
        refine w_iload O at_321 (pc' := 323) rfl rfl ?_
        refine w_virtual O at_323 (as := [(.int r1), (.int kk)]) (st := []) (wt := 0) (cl' := 9) (sl' := 3084) (pc' := 326) rfl (mw 40 rfl) (mw 41 rfl) (mw 43 rfl) (mw 42 rfl) (mw 44 rfl) (mw 2 rfl) (by decide) PS.1.1 (con_node l Z a0 hw b16 r1 kk p q c3 z3 f3 N3 D3 s3 (updC (fun _ _ => 0) i2 (o2 + ki) u4) (updC (fun _ _ => 0) i2 (o2 + ki) u5) i1 o1 kk_ h34 n0 PS hr1 hI1 (by omega) ho1 hkk_ hKkk_1) rfl pd_0 rfl rfl rfl (by decide) (by decide) rfl rfl (by decide) (by decide) (cI fun r_37 _ ⟨qr_37, er_37⟩ => ?_)
        rw [qr_37]
        have vr_37 : r_37 = (0 : Int32) := er_37.trans (if_neg (by omega))
        rw [vr_37]
        refine w_if_ne O at_326 (pn := 329) (pt := 347) rfl (by decide) rfl (fun q => absurd q (by decide)) (fun c326 => ?_)
        refine w_aload O at_329 (pc' := 331) rfl rfl rfl ?_
        refine w_iload O at_331 (pc' := 333) rfl rfl ?_
        refine w_iload O at_333 (pc' := 335) rfl rfl ?_
        refine w_virtual O at_335 (as := [(.int r1), (.int kk)]) (st := []) (wt := 0) (cl' := 9) (sl' := 3084) (pc' := 338) rfl (mw 45 rfl) (mw 46 rfl) (mw 48 rfl) (mw 47 rfl) (mw 49 rfl) (mw 2 rfl) (by decide) PS.1.1 (con_distance l Z a0 hw b16 r1 kk p q c3 z3 f3 N3 D3 s3 (updC (fun _ _ => 0) i2 (o2 + ki) u4) (updC (fun _ _ => 0) i2 (o2 + ki) u5) i1 o1 kk_ h34 n0 PS hr1 hI1 (by omega) ho1 hkk_ hKkk_1) rfl pd_4 rfl rfl rfl (by decide) (by decide) rfl rfl (by decide) (by decide) (cL fun r_38 _ ⟨qr_38, er_38⟩ => ?_)
        rw [qr_38]
        have vr_38 : r_38 = (0 : Int64) := er_38.trans (if_neg (by omega))
        rw [vr_38]
        refine w_lconst O at_338 (z := (0 : Int64)) (pc' := 339) rfl rfl ?_
        refine w_lcmp_ne O at_339 (pi := 340) rfl at_340 (pn := 343) (pt := 347) rfl (by decide) rfl (fun q => absurd q (by decide)) (fun c339 => ?_)
        refine w_iconst O at_343 (z := (1 : Int32)) (pc' := 344) rfl rfl ?_
        refine w_goto O at_344 (pc' := 348) (by decide) rfl ?_
        refine w_istore O at_348 (L' := #[.val (.int u0), .val (.int u1), .val (.int u2), .val (.int u3), .val (.int u4), .val (.long u5), .second, .val (.int la), .val (.int lb), .val (.int lc), .val (.ref b16), .val (.int r1), .val (.int r2), .val (.int r3), .val (.int (1 : Int32)), .val (.int r2), .val (.int lb), .val (.int (0 : Int32)), .val (.int r1), .val (.int la), .val (.int ii), .val (.int kk), .val (.int (1 : Int32)), .unset]) (pc' := 350) rfl rfl ?_
        refine w_iload O at_350 (pc' := 352) rfl rfl ?_
        refine w_retz O at_352 (by decide) (by decide) (Or.inr rfl) ?_
        exact ⟨_, rfl, rfl⟩
      · replace c262 : 1 < lb.toInt := c262
        refine w_iload O at_265 (pc' := 267) rfl rfl ?_
        refine w_iconst O at_267 (z := (1 : Int32)) (pc' := 268) rfl rfl ?_
        refine w_iadd O at_268 (pc' := 269) rfl ?_
        refine w_iload O at_269 (pc' := 271) rfl rfl ?_
        refine w_irem O at_271 (pc' := 272) rfl (nz32 (by omega)) ?_
        refine w_istoreG O at_272 (L' := fun zq => #[.val (.int u0), .val (.int u1), .val (.int u2), .val (.int u3), .val (.int u4), .val (.long u5), .second, .val (.int la), .val (.int lb), .val (.int lc), .val (.ref b16), .val (.int r1), .val (.int r2), .val (.int r3), .val (.int (1 : Int32)), .val (.int r2), .val (.int lb), .val (.int (0 : Int32)), .val (.int r1), .val (.int la), .val (.int ii), .val (.int kk), .val (.int (1 : Int32)), .val (.int zq)]) (pc' := 274) rfl (fun _ => rfl) (fun jj e_jj => ?_)
        have i40 : ((ii + (1 : Int32)).toInt - (ii.toInt + 1)) % 4294967296 = 0 := c_iadd ii (1 : Int32)
        have i41 := rng32 (ii + (1 : Int32))
        have i42 := c_iremV (ii + (1 : Int32)) lb
        have j_jj := congrArg Int32.toInt e_jj
        have r_jj := rng32 jj
        obtain ⟨kj, hkj⟩ : ∃ kj : Nat, jj.toInt = (kj : Int) := ⟨jj.toInt.toNat, by omega⟩
        have hltj : (kj : Int) < lb.toInt := by omega
        have hKkj2 : o2 + kj < s3 i2 := by omega
        have hji : ¬ kj = ki := by omega
        clear i40 i41 i42 j_jj
        refine w_iload O at_274 (pc' := 276) rfl rfl ?_
        refine w_if_eq O at_276 (pn := 279) (pt := 309) rfl (by decide) rfl (fun q => absurd q (by decide)) (fun c276 => ?_)
        refine w_aload O at_279 (pc' := 281) rfl rfl rfl ?_
        refine w_iload O at_281 (pc' := 283) rfl rfl ?_
        refine w_iload O at_283 (pc' := 285) rfl rfl ?_
        refine w_virtual O at_285 (as := [(.int r2), (.int jj)]) (st := []) (wt := 0) (cl' := 9) (sl' := 3084) (pc' := 288) rfl (mw 40 rfl) (mw 41 rfl) (mw 43 rfl) (mw 42 rfl) (mw 44 rfl) (mw 2 rfl) (by decide) PS.1.1 (con_node l Z a0 hw b16 r2 jj p q c3 z3 f3 N3 D3 s3 (updC (fun _ _ => 0) i2 (o2 + ki) u4) (updC (fun _ _ => 0) i2 (o2 + ki) u5) i2 o2 kj h34 n0 PS hr2 hI2 (by omega) ho2 hkj hKkj2) rfl pd_0 rfl rfl rfl (by decide) (by decide) rfl rfl (by decide) (by decide) (cI fun r_43 _ ⟨qr_43, er_43⟩ => ?_)
        rw [qr_43]
        have vr_43 : r_43 = (0 : Int32) := er_43.trans (if_neg (by omega))
        rw [vr_43]
        refine w_if_ne O at_288 (pn := 291) (pt := 309) rfl (by decide) rfl (fun q => absurd q (by decide)) (fun c288 => ?_)
        refine w_aload O at_291 (pc' := 293) rfl rfl rfl ?_
        refine w_iload O at_293 (pc' := 295) rfl rfl ?_
        refine w_iload O at_295 (pc' := 297) rfl rfl ?_
        refine w_virtual O at_297 (as := [(.int r2), (.int jj)]) (st := []) (wt := 0) (cl' := 9) (sl' := 3084) (pc' := 300) rfl (mw 45 rfl) (mw 46 rfl) (mw 48 rfl) (mw 47 rfl) (mw 49 rfl) (mw 2 rfl) (by decide) PS.1.1 (con_distance l Z a0 hw b16 r2 jj p q c3 z3 f3 N3 D3 s3 (updC (fun _ _ => 0) i2 (o2 + ki) u4) (updC (fun _ _ => 0) i2 (o2 + ki) u5) i2 o2 kj h34 n0 PS hr2 hI2 (by omega) ho2 hkj hKkj2) rfl pd_4 rfl rfl rfl (by decide) (by decide) rfl rfl (by decide) (by decide) (cL fun r_44 _ ⟨qr_44, er_44⟩ => ?_)
        rw [qr_44]
        have vr_44 : r_44 = (0 : Int64) := er_44.trans (if_neg (by omega))
        rw [vr_44]
        refine w_lconst O at_300 (z := (0 : Int64)) (pc' := 301) rfl rfl ?_
        refine w_lcmp_ne O at_301 (pi := 302) rfl at_302 (pn := 305) (pt := 309) rfl (by decide) rfl (fun q => absurd q (by decide)) (fun c301 => ?_)
        refine w_iconst O at_305 (z := (1 : Int32)) (pc' := 306) rfl rfl ?_
        refine w_goto O at_306 (pc' := 310) (by decide) rfl ?_
        refine w_istore O at_310 (L' := #[.val (.int u0), .val (.int u1), .val (.int u2), .val (.int u3), .val (.int u4), .val (.long u5), .second, .val (.int la), .val (.int lb), .val (.int lc), .val (.ref b16), .val (.int r1), .val (.int r2), .val (.int r3), .val (.int (1 : Int32)), .val (.int r2), .val (.int lb), .val (.int (0 : Int32)), .val (.int r1), .val (.int la), .val (.int ii), .val (.int kk), .val (.int (1 : Int32)), .val (.int jj)]) (pc' := 312) rfl rfl ?_
        refine w_iload O at_312 (pc' := 314) rfl rfl ?_
        refine w_if_eq O at_314 (pn := 317) (pt := 347) rfl (by decide) rfl (fun q => absurd q (by decide)) (fun c314 => ?_)
        refine w_aload O at_317 (pc' := 319) rfl rfl rfl ?_
        refine w_iload O at_319 (pc' := 321) rfl rfl ?_
        refine w_iload O at_321 (pc' := 323) rfl rfl ?_
        refine w_virtual O at_323 (as := [(.int r1), (.int kk)]) (st := []) (wt := 0) (cl' := 9) (sl' := 3084) (pc' := 326) rfl (mw 40 rfl) (mw 41 rfl) (mw 43 rfl) (mw 42 rfl) (mw 44 rfl) (mw 2 rfl) (by decide) PS.1.1 (con_node l Z a0 hw b16 r1 kk p q c3 z3 f3 N3 D3 s3 (updC (fun _ _ => 0) i2 (o2 + ki) u4) (updC (fun _ _ => 0) i2 (o2 + ki) u5) i1 o1 kk_ h34 n0 PS hr1 hI1 (by omega) ho1 hkk_ hKkk_1) rfl pd_0 rfl rfl rfl (by decide) (by decide) rfl rfl (by decide) (by decide) (cI fun r_45 _ ⟨qr_45, er_45⟩ => ?_)
        rw [qr_45]
        have vr_45 : r_45 = (0 : Int32) := er_45.trans (if_neg (by omega))
        rw [vr_45]
        refine w_if_ne O at_326 (pn := 329) (pt := 347) rfl (by decide) rfl (fun q => absurd q (by decide)) (fun c326 => ?_)
        refine w_aload O at_329 (pc' := 331) rfl rfl rfl ?_
        refine w_iload O at_331 (pc' := 333) rfl rfl ?_
        refine w_iload O at_333 (pc' := 335) rfl rfl ?_
        refine w_virtual O at_335 (as := [(.int r1), (.int kk)]) (st := []) (wt := 0) (cl' := 9) (sl' := 3084) (pc' := 338) rfl (mw 45 rfl) (mw 46 rfl) (mw 48 rfl) (mw 47 rfl) (mw 49 rfl) (mw 2 rfl) (by decide) PS.1.1 (con_distance l Z a0 hw b16 r1 kk p q c3 z3 f3 N3 D3 s3 (updC (fun _ _ => 0) i2 (o2 + ki) u4) (updC (fun _ _ => 0) i2 (o2 + ki) u5) i1 o1 kk_ h34 n0 PS hr1 hI1 (by omega) ho1 hkk_ hKkk_1) rfl pd_4 rfl rfl rfl (by decide) (by decide) rfl rfl (by decide) (by decide) (cL fun r_46 _ ⟨qr_46, er_46⟩ => ?_)
        rw [qr_46]
        have vr_46 : r_46 = (0 : Int64) := er_46.trans (if_neg (by omega))
        rw [vr_46]
        refine w_lconst O at_338 (z := (0 : Int64)) (pc' := 339) rfl rfl ?_
        refine w_lcmp_ne O at_339 (pi := 340) rfl at_340 (pn := 343) (pt := 347) rfl (by decide) rfl (fun q => absurd q (by decide)) (fun c339 => ?_)
        refine w_iconst O at_343 (z := (1 : Int32)) (pc' := 344) rfl rfl ?_
        refine w_goto O at_344 (pc' := 348) (by decide) rfl ?_
        refine w_istore O at_348 (L' := #[.val (.int u0), .val (.int u1), .val (.int u2), .val (.int u3), .val (.int u4), .val (.long u5), .second, .val (.int la), .val (.int lb), .val (.int lc), .val (.ref b16), .val (.int r1), .val (.int r2), .val (.int r3), .val (.int (1 : Int32)), .val (.int r2), .val (.int lb), .val (.int (0 : Int32)), .val (.int r1), .val (.int la), .val (.int ii), .val (.int kk), .val (.int (1 : Int32)), .val (.int jj)]) (pc' := 350) rfl rfl ?_
        refine w_iload O at_350 (pc' := 352) rfl rfl ?_
        refine w_retz O at_352 (by decide) (by decide) (Or.inr rfl) ?_
        exact ⟨_, rfl, rfl⟩
  · rw [et]
    clear i21 i22
    refine w_istore O at_75 (L' := #[.val (.int u0), .val (.int u1), .val (.int u2), .val (.int u3), .val (.int u4), .val (.long u5), .second, .val (.int la), .val (.int lb), .val (.int lc), .val (.ref b16), .val (.int r1), .val (.int r2), .val (.int r3), .val (.int (2 : Int32)), .unset, .unset, .unset, .unset, .unset, .unset, .unset, .unset, .unset]) (pc' := 77) rfl rfl ?_
    refine w_iload O at_77 (pc' := 79) rfl rfl ?_
    refine w_if_ne O at_79 (pn := 82) (pt := 87) rfl (by decide) rfl (fun c79 => ?_) (fun q => absurd q (by decide))
    refine w_iload O at_87 (pc' := 89) rfl rfl ?_
    refine w_iconst O at_89 (z := (1 : Int32)) (pc' := 90) rfl rfl ?_
    refine w_icmp_ne O at_90 (pn := 93) (pt := 98) rfl (by decide) rfl (fun c90 => ?_) (fun q => absurd q (by decide))
    refine w_iload O at_98 (pc' := 100) rfl rfl ?_
    refine w_istore O at_100 (L' := #[.val (.int u0), .val (.int u1), .val (.int u2), .val (.int u3), .val (.int u4), .val (.long u5), .second, .val (.int la), .val (.int lb), .val (.int lc), .val (.ref b16), .val (.int r1), .val (.int r2), .val (.int r3), .val (.int (2 : Int32)), .val (.int r3), .unset, .unset, .unset, .unset, .unset, .unset, .unset, .unset]) (pc' := 102) rfl rfl ?_
    refine w_iload O at_102 (pc' := 104) rfl rfl ?_
    refine w_if_ne O at_104 (pn := 107) (pt := 112) rfl (by decide) rfl (fun c104 => ?_) (fun q => absurd q (by decide))
    refine w_iload O at_112 (pc' := 114) rfl rfl ?_
    refine w_iconst O at_114 (z := (1 : Int32)) (pc' := 115) rfl rfl ?_
    refine w_icmp_ne O at_115 (pn := 118) (pt := 123) rfl (by decide) rfl (fun c115 => ?_) (fun q => absurd q (by decide))
    refine w_iload O at_123 (pc' := 125) rfl rfl ?_
    refine w_istore O at_125 (L' := #[.val (.int u0), .val (.int u1), .val (.int u2), .val (.int u3), .val (.int u4), .val (.long u5), .second, .val (.int la), .val (.int lb), .val (.int lc), .val (.ref b16), .val (.int r1), .val (.int r2), .val (.int r3), .val (.int (2 : Int32)), .val (.int r3), .val (.int lc), .unset, .unset, .unset, .unset, .unset, .unset, .unset]) (pc' := 127) rfl rfl ?_
    refine w_iload O at_127 (pc' := 129) rfl rfl ?_
    refine w_iconst O at_129 (z := (1 : Int32)) (pc' := 130) rfl rfl ?_
    refine w_iadd O at_130 (pc' := 131) rfl ?_
    refine w_iloadN O at_131 (pc' := 132) rfl rfl ?_
    refine w_bipush O at_132 (z := (31 : Int32)) (pc' := 134) rfl rfl ?_
    refine w_iushr O at_134 (pc' := 135) rfl ?_
    refine w_iconst O at_135 (z := (1 : Int32)) (pc' := 136) rfl rfl ?_
    refine w_iand O at_136 (pc' := 137) rfl ?_
    refine w_iadd O at_137 (pc' := 138) rfl ?_
    refine w_iconst O at_138 (z := (3 : Int32)) (pc' := 139) rfl rfl ?_
    refine w_irem O at_139 (pc' := 140) rfl (by decide) ?_
    have i23 : ((u1.toUInt32 >>> ((31 : Int32) &&& 31).toUInt32).toInt32).toInt = (u1.toInt % 4294967296) / 2147483648 := c_iushr u1 (31 : Int32) 31 (by decide) (by decide)
    have i24 : (((u1.toUInt32 >>> ((31 : Int32) &&& 31).toUInt32).toInt32) &&& (1 : Int32)).toInt = ((u1.toUInt32 >>> ((31 : Int32) &&& 31).toUInt32).toInt32).toInt % 2 := c_mask ((u1.toUInt32 >>> ((31 : Int32) &&& 31).toUInt32).toInt32) (1 : Int32) 1 (by decide) (by decide)
    have i25 : (((3 : Int32) + (((u1.toUInt32 >>> ((31 : Int32) &&& 31).toUInt32).toInt32) &&& (1 : Int32))).toInt - (3 + (((u1.toUInt32 >>> ((31 : Int32) &&& 31).toUInt32).toInt32) &&& (1 : Int32)).toInt)) % 4294967296 = 0 := c_iadd (3 : Int32) (((u1.toUInt32 >>> ((31 : Int32) &&& 31).toUInt32).toInt32) &&& (1 : Int32))
    have i26 := rng32 ((3 : Int32) + (((u1.toUInt32 >>> ((31 : Int32) &&& 31).toUInt32).toInt32) &&& (1 : Int32)))
    have i27 : (0 ≤ ((3 : Int32) + (((u1.toUInt32 >>> ((31 : Int32) &&& 31).toUInt32).toInt32) &&& (1 : Int32))).toInt → (((3 : Int32) + (((u1.toUInt32 >>> ((31 : Int32) &&& 31).toUInt32).toInt32) &&& (1 : Int32))) % (3 : Int32)).toInt = ((3 : Int32) + (((u1.toUInt32 >>> ((31 : Int32) &&& 31).toUInt32).toInt32) &&& (1 : Int32))).toInt % 3) ∧ (((3 : Int32) + (((u1.toUInt32 >>> ((31 : Int32) &&& 31).toUInt32).toInt32) &&& (1 : Int32))).toInt < 0 → (((3 : Int32) + (((u1.toUInt32 >>> ((31 : Int32) &&& 31).toUInt32).toInt32) &&& (1 : Int32))) % (3 : Int32)).toInt = -((-((3 : Int32) + (((u1.toUInt32 >>> ((31 : Int32) &&& 31).toUInt32).toInt32) &&& (1 : Int32))).toInt) % 3)) := c_irem ((3 : Int32) + (((u1.toUInt32 >>> ((31 : Int32) &&& 31).toUInt32).toInt32) &&& (1 : Int32))) (3 : Int32) 3 (by decide)
    have ho3 : (((3 : Int32) + (((u1.toUInt32 >>> ((31 : Int32) &&& 31).toUInt32).toInt32) &&& (1 : Int32))) % (3 : Int32)) = 0 ∨ (((3 : Int32) + (((u1.toUInt32 >>> ((31 : Int32) &&& 31).toUInt32).toInt32) &&& (1 : Int32))) % (3 : Int32)) = 1 := by
      have hb3 : (((u1.toUInt32 >>> ((31 : Int32) &&& 31).toUInt32).toInt32) &&& (1 : Int32)).toInt = 0 ∨ (((u1.toUInt32 >>> ((31 : Int32) &&& 31).toUInt32).toInt32) &&& (1 : Int32)).toInt = 1 := by omega
      have hs3 : ((3 : Int32) + (((u1.toUInt32 >>> ((31 : Int32) &&& 31).toUInt32).toInt32) &&& (1 : Int32))).toInt = 3 + (((u1.toUInt32 >>> ((31 : Int32) &&& 31).toUInt32).toInt32) &&& (1 : Int32)).toInt := by omega
      have : (((3 : Int32) + (((u1.toUInt32 >>> ((31 : Int32) &&& 31).toUInt32).toInt32) &&& (1 : Int32))) % (3 : Int32)).toInt = 0 ∨ (((3 : Int32) + (((u1.toUInt32 >>> ((31 : Int32) &&& 31).toUInt32).toInt32) &&& (1 : Int32))) % (3 : Int32)).toInt = 1 := by omega
      rcases this with q | q
      · exact Or.inl (Int32.toInt_inj.mp (q.trans (by decide)))
      · exact Or.inr (Int32.toInt_inj.mp (q.trans (by decide)))
    rcases ho3 with eo | eo
    · first | rw [eo] | rw [show (2 : Int32) + 1 = 3 from by decide, eo]
      clear i23 i24 i25 i26 i27
      refine w_istore O at_140 (L' := #[.val (.int u0), .val (.int u1), .val (.int u2), .val (.int u3), .val (.int u4), .val (.long u5), .second, .val (.int la), .val (.int lb), .val (.int lc), .val (.ref b16), .val (.int r1), .val (.int r2), .val (.int r3), .val (.int (2 : Int32)), .val (.int r3), .val (.int lc), .val (.int (0 : Int32)), .unset, .unset, .unset, .unset, .unset, .unset]) (pc' := 142) rfl rfl ?_
      refine w_iload O at_142 (pc' := 144) rfl rfl ?_
      refine w_if_ne O at_144 (pn := 147) (pt := 152) rfl (by decide) rfl (fun q => absurd q (by decide)) (fun c144 => ?_)
      refine w_iload O at_147 (pc' := 149) rfl rfl ?_
      refine w_goto O at_149 (pc' := 165) (by decide) rfl ?_
      refine w_istore O at_165 (L' := #[.val (.int u0), .val (.int u1), .val (.int u2), .val (.int u3), .val (.int u4), .val (.long u5), .second, .val (.int la), .val (.int lb), .val (.int lc), .val (.ref b16), .val (.int r1), .val (.int r2), .val (.int r3), .val (.int (2 : Int32)), .val (.int r3), .val (.int lc), .val (.int (0 : Int32)), .val (.int r1), .unset, .unset, .unset, .unset, .unset]) (pc' := 167) rfl rfl ?_
      refine w_iload O at_167 (pc' := 169) rfl rfl ?_
      refine w_if_ne O at_169 (pn := 172) (pt := 177) rfl (by decide) rfl (fun q => absurd q (by decide)) (fun c169 => ?_)
      refine w_iload O at_172 (pc' := 174) rfl rfl ?_
      refine w_goto O at_174 (pc' := 190) (by decide) rfl ?_
      refine w_istore O at_190 (L' := #[.val (.int u0), .val (.int u1), .val (.int u2), .val (.int u3), .val (.int u4), .val (.long u5), .second, .val (.int la), .val (.int lb), .val (.int lc), .val (.ref b16), .val (.int r1), .val (.int r2), .val (.int r3), .val (.int (2 : Int32)), .val (.int r3), .val (.int lc), .val (.int (0 : Int32)), .val (.int r1), .val (.int la), .unset, .unset, .unset, .unset]) (pc' := 192) rfl rfl ?_
      refine w_iloadN O at_192 (pc' := 193) rfl rfl ?_
      refine w_ldc O at_193 (pc' := 195) rfl (mw 34 rfl) ?_
      refine w_iand O at_195 (pc' := 196) rfl ?_
      refine w_iload O at_196 (pc' := 198) rfl rfl ?_
      refine w_irem O at_198 (pc' := 199) rfl (nz32 (by omega)) ?_
      refine w_istoreG O at_199 (L' := fun zq => #[.val (.int u0), .val (.int u1), .val (.int u2), .val (.int u3), .val (.int u4), .val (.long u5), .second, .val (.int la), .val (.int lb), .val (.int lc), .val (.ref b16), .val (.int r1), .val (.int r2), .val (.int r3), .val (.int (2 : Int32)), .val (.int r3), .val (.int lc), .val (.int (0 : Int32)), .val (.int r1), .val (.int la), .val (.int zq), .unset, .unset, .unset]) (pc' := 201) rfl (fun _ => rfl) (fun ii e_ii => ?_)
      have i29 : (u2 &&& (2147483647 : Int32)).toInt = u2.toInt % 2147483648 := c_mask u2 (2147483647 : Int32) 31 (by decide) (by decide)
      have i30 := c_iremV (u2 &&& (2147483647 : Int32)) lc
      have j_ii := congrArg Int32.toInt e_ii
      have r_ii := rng32 ii
      obtain ⟨ki, hki⟩ : ∃ ki : Nat, ii.toInt = (ki : Int) := ⟨ii.toInt.toNat, by omega⟩
      have hlti : (ki : Int) < lc.toInt := by omega
      have hKki3 : o3 + ki < s3 i3 := by omega
      clear i29 i30 j_ii
      refine w_iloadN O at_201 (pc' := 202) rfl rfl ?_
      refine w_ldc O at_202 (pc' := 204) rfl (mw 34 rfl) ?_
      refine w_iand O at_204 (pc' := 205) rfl ?_
      refine w_iload O at_205 (pc' := 207) rfl rfl ?_
      refine w_irem O at_207 (pc' := 208) rfl (nz32 (by omega)) ?_
      refine w_istoreG O at_208 (L' := fun zq => #[.val (.int u0), .val (.int u1), .val (.int u2), .val (.int u3), .val (.int u4), .val (.long u5), .second, .val (.int la), .val (.int lb), .val (.int lc), .val (.ref b16), .val (.int r1), .val (.int r2), .val (.int r3), .val (.int (2 : Int32)), .val (.int r3), .val (.int lc), .val (.int (0 : Int32)), .val (.int r1), .val (.int la), .val (.int ii), .val (.int zq), .unset, .unset]) (pc' := 210) rfl (fun _ => rfl) (fun kk e_kk => ?_)
      have i32 : (u3 &&& (2147483647 : Int32)).toInt = u3.toInt % 2147483648 := c_mask u3 (2147483647 : Int32) 31 (by decide) (by decide)
      have i33 := c_iremV (u3 &&& (2147483647 : Int32)) la
      have j_kk := congrArg Int32.toInt e_kk
      have r_kk := rng32 kk
      obtain ⟨kk_, hkk_⟩ : ∃ kk_ : Nat, kk.toInt = (kk_ : Int) := ⟨kk.toInt.toNat, by omega⟩
      have hltk : (kk_ : Int) < la.toInt := by omega
      have hKkk_1 : o1 + kk_ < s3 i1 := by omega
      clear i32 i33 j_kk
      refine w_aload O at_210 (pc' := 212) rfl rfl rfl ?_
      refine w_iload O at_212 (pc' := 214) rfl rfl ?_
      refine w_iload O at_214 (pc' := 216) rfl rfl ?_
      refine w_iload O at_216 (pc' := 218) rfl rfl ?_
      refine w_lload O at_218 (pc' := 220) rfl rfl ?_
      refine w_virtual O at_220 (as := [(.int r3), (.int ii), (.int u4), (.long u5)]) (st := []) (wt := 0) (cl' := 9) (sl' := 3084) (pc' := 223) rfl (mw 35 rfl) (mw 36 rfl) (mw 38 rfl) (mw 37 rfl) (mw 39 rfl) (mw 2 rfl) (by decide) P3.1.1 (con_set l Z a0 hw b16 r3 ii u4 u5 p q c3 z3 f3 N3 D3 s3 (fun _ _ => 0) (fun _ _ => 0) i3 o3 ki h20 n0 P3 hr3 hI3 (by omega) ho3 hki hKki3) rfl pd_3 rfl rfl rfl (by decide) (by decide) rfl rfl (by decide) (by decide) (cV fun h34 PS => ?_)
      refine w_aload O at_223 (pc' := 225) rfl rfl rfl ?_
      refine w_iload O at_225 (pc' := 227) rfl rfl ?_
      refine w_iload O at_227 (pc' := 229) rfl rfl ?_
      refine w_virtual O at_229 (as := [(.int r3), (.int ii)]) (st := []) (wt := 0) (cl' := 9) (sl' := 3084) (pc' := 232) rfl (mw 40 rfl) (mw 41 rfl) (mw 43 rfl) (mw 42 rfl) (mw 44 rfl) (mw 2 rfl) (by decide) PS.1.1 (con_node l Z a0 hw b16 r3 ii p q c3 z3 f3 N3 D3 s3 (updC (fun _ _ => 0) i3 (o3 + ki) u4) (updC (fun _ _ => 0) i3 (o3 + ki) u5) i3 o3 ki h34 n0 PS hr3 hI3 (by omega) ho3 hki hKki3) rfl pd_0 rfl rfl rfl (by decide) (by decide) rfl rfl (by decide) (by decide) (cI fun r_35 _ ⟨qr_35, er_35⟩ => ?_)
      rw [qr_35]
      have vr_35 : r_35 = u4 := er_35.trans (if_pos ⟨rfl, rfl⟩)
      rw [vr_35]
      refine w_iload O at_232 (pc' := 234) rfl rfl ?_
      refine w_icmp_ne O at_234 (pn := 237) (pt := 256) rfl (by decide) rfl (fun q => absurd q (by omega)) (fun c234 => ?_)
      refine w_aload O at_237 (pc' := 239) rfl rfl rfl ?_
      refine w_iload O at_239 (pc' := 241) rfl rfl ?_
      refine w_iload O at_241 (pc' := 243) rfl rfl ?_
      refine w_virtual O at_243 (as := [(.int r3), (.int ii)]) (st := []) (wt := 0) (cl' := 9) (sl' := 3084) (pc' := 246) rfl (mw 45 rfl) (mw 46 rfl) (mw 48 rfl) (mw 47 rfl) (mw 49 rfl) (mw 2 rfl) (by decide) PS.1.1 (con_distance l Z a0 hw b16 r3 ii p q c3 z3 f3 N3 D3 s3 (updC (fun _ _ => 0) i3 (o3 + ki) u4) (updC (fun _ _ => 0) i3 (o3 + ki) u5) i3 o3 ki h34 n0 PS hr3 hI3 (by omega) ho3 hki hKki3) rfl pd_4 rfl rfl rfl (by decide) (by decide) rfl rfl (by decide) (by decide) (cL fun r_36 _ ⟨qr_36, er_36⟩ => ?_)
      rw [qr_36]
      have vr_36 : r_36 = u5 := er_36.trans (if_pos ⟨rfl, rfl⟩)
      rw [vr_36]
      refine w_lload O at_246 (pc' := 248) rfl rfl ?_
      refine w_lcmp_ne O at_248 (pi := 249) rfl at_249 (pn := 252) (pt := 256) rfl (by decide) rfl (fun q => absurd q (by omega)) (fun c248 => ?_)
      refine w_iconst O at_252 (z := (1 : Int32)) (pc' := 253) rfl rfl ?_
      refine w_goto O at_253 (pc' := 257) (by decide) rfl ?_
      refine w_istore O at_257 (L' := #[.val (.int u0), .val (.int u1), .val (.int u2), .val (.int u3), .val (.int u4), .val (.long u5), .second, .val (.int la), .val (.int lb), .val (.int lc), .val (.ref b16), .val (.int r1), .val (.int r2), .val (.int r3), .val (.int (2 : Int32)), .val (.int r3), .val (.int lc), .val (.int (0 : Int32)), .val (.int r1), .val (.int la), .val (.int ii), .val (.int kk), .val (.int (1 : Int32)), .unset]) (pc' := 259) rfl rfl ?_
      refine w_iload O at_259 (pc' := 261) rfl rfl ?_
      refine w_iconst O at_261 (z := (1 : Int32)) (pc' := 262) rfl rfl ?_
      refine w_icmp_le O at_262 (pn := 265) (pt := 312) rfl (by decide) rfl (fun c262 => ?_) (fun c262 => ?_)
      · replace c262 : ¬ 1 < lc.toInt := c262
        refine w_iload O at_312 (pc' := 314) rfl rfl ?_
        refine w_if_eq O at_314 (pn := 317) (pt := 347) rfl (by decide) rfl (fun q => absurd q (by decide)) (fun c314 => ?_)
        refine w_aload O at_317 (pc' := 319) rfl rfl rfl ?_
        refine w_iload O at_319 (pc' := 321) rfl rfl ?_
        refine w_iload O at_321 (pc' := 323) rfl rfl ?_
        refine w_virtual O at_323 (as := [(.int r1), (.int kk)]) (st := []) (wt := 0) (cl' := 9) (sl' := 3084) (pc' := 326) rfl (mw 40 rfl) (mw 41 rfl) (mw 43 rfl) (mw 42 rfl) (mw 44 rfl) (mw 2 rfl) (by decide) PS.1.1 (con_node l Z a0 hw b16 r1 kk p q c3 z3 f3 N3 D3 s3 (updC (fun _ _ => 0) i3 (o3 + ki) u4) (updC (fun _ _ => 0) i3 (o3 + ki) u5) i1 o1 kk_ h34 n0 PS hr1 hI1 (by omega) ho1 hkk_ hKkk_1) rfl pd_0 rfl rfl rfl (by decide) (by decide) rfl rfl (by decide) (by decide) (cI fun r_37 _ ⟨qr_37, er_37⟩ => ?_)
        rw [qr_37]
        have vr_37 : r_37 = (0 : Int32) := er_37.trans (if_neg (by omega))
        rw [vr_37]
        refine w_if_ne O at_326 (pn := 329) (pt := 347) rfl (by decide) rfl (fun q => absurd q (by decide)) (fun c326 => ?_)
        refine w_aload O at_329 (pc' := 331) rfl rfl rfl ?_
        refine w_iload O at_331 (pc' := 333) rfl rfl ?_
        refine w_iload O at_333 (pc' := 335) rfl rfl ?_
        refine w_virtual O at_335 (as := [(.int r1), (.int kk)]) (st := []) (wt := 0) (cl' := 9) (sl' := 3084) (pc' := 338) rfl (mw 45 rfl) (mw 46 rfl) (mw 48 rfl) (mw 47 rfl) (mw 49 rfl) (mw 2 rfl) (by decide) PS.1.1 (con_distance l Z a0 hw b16 r1 kk p q c3 z3 f3 N3 D3 s3 (updC (fun _ _ => 0) i3 (o3 + ki) u4) (updC (fun _ _ => 0) i3 (o3 + ki) u5) i1 o1 kk_ h34 n0 PS hr1 hI1 (by omega) ho1 hkk_ hKkk_1) rfl pd_4 rfl rfl rfl (by decide) (by decide) rfl rfl (by decide) (by decide) (cL fun r_38 _ ⟨qr_38, er_38⟩ => ?_)
        rw [qr_38]
        have vr_38 : r_38 = (0 : Int64) := er_38.trans (if_neg (by omega))
        rw [vr_38]
        refine w_lconst O at_338 (z := (0 : Int64)) (pc' := 339) rfl rfl ?_
        refine w_lcmp_ne O at_339 (pi := 340) rfl at_340 (pn := 343) (pt := 347) rfl (by decide) rfl (fun q => absurd q (by decide)) (fun c339 => ?_)
        refine w_iconst O at_343 (z := (1 : Int32)) (pc' := 344) rfl rfl ?_
        refine w_goto O at_344 (pc' := 348) (by decide) rfl ?_
        refine w_istore O at_348 (L' := #[.val (.int u0), .val (.int u1), .val (.int u2), .val (.int u3), .val (.int u4), .val (.long u5), .second, .val (.int la), .val (.int lb), .val (.int lc), .val (.ref b16), .val (.int r1), .val (.int r2), .val (.int r3), .val (.int (2 : Int32)), .val (.int r3), .val (.int lc), .val (.int (0 : Int32)), .val (.int r1), .val (.int la), .val (.int ii), .val (.int kk), .val (.int (1 : Int32)), .unset]) (pc' := 350) rfl rfl ?_
        refine w_iload O at_350 (pc' := 352) rfl rfl ?_
        refine w_retz O at_352 (by decide) (by decide) (Or.inr rfl) ?_
        exact ⟨_, rfl, rfl⟩
      · replace c262 : 1 < lc.toInt := c262
        refine w_iload O at_265 (pc' := 267) rfl rfl ?_
        refine w_iconst O at_267 (z := (1 : Int32)) (pc' := 268) rfl rfl ?_
        refine w_iadd O at_268 (pc' := 269) rfl ?_
        refine w_iload O at_269 (pc' := 271) rfl rfl ?_
        refine w_irem O at_271 (pc' := 272) rfl (nz32 (by omega)) ?_
        refine w_istoreG O at_272 (L' := fun zq => #[.val (.int u0), .val (.int u1), .val (.int u2), .val (.int u3), .val (.int u4), .val (.long u5), .second, .val (.int la), .val (.int lb), .val (.int lc), .val (.ref b16), .val (.int r1), .val (.int r2), .val (.int r3), .val (.int (2 : Int32)), .val (.int r3), .val (.int lc), .val (.int (0 : Int32)), .val (.int r1), .val (.int la), .val (.int ii), .val (.int kk), .val (.int (1 : Int32)), .val (.int zq)]) (pc' := 274) rfl (fun _ => rfl) (fun jj e_jj => ?_)
        have i40 : ((ii + (1 : Int32)).toInt - (ii.toInt + 1)) % 4294967296 = 0 := c_iadd ii (1 : Int32)
        have i41 := rng32 (ii + (1 : Int32))
        have i42 := c_iremV (ii + (1 : Int32)) lc
        have j_jj := congrArg Int32.toInt e_jj
        have r_jj := rng32 jj
        obtain ⟨kj, hkj⟩ : ∃ kj : Nat, jj.toInt = (kj : Int) := ⟨jj.toInt.toNat, by omega⟩
        have hltj : (kj : Int) < lc.toInt := by omega
        have hKkj3 : o3 + kj < s3 i3 := by omega
        have hji : ¬ kj = ki := by omega
        clear i40 i41 i42 j_jj
        refine w_iload O at_274 (pc' := 276) rfl rfl ?_
        refine w_if_eq O at_276 (pn := 279) (pt := 309) rfl (by decide) rfl (fun q => absurd q (by decide)) (fun c276 => ?_)
        refine w_aload O at_279 (pc' := 281) rfl rfl rfl ?_
        refine w_iload O at_281 (pc' := 283) rfl rfl ?_
        refine w_iload O at_283 (pc' := 285) rfl rfl ?_
        refine w_virtual O at_285 (as := [(.int r3), (.int jj)]) (st := []) (wt := 0) (cl' := 9) (sl' := 3084) (pc' := 288) rfl (mw 40 rfl) (mw 41 rfl) (mw 43 rfl) (mw 42 rfl) (mw 44 rfl) (mw 2 rfl) (by decide) PS.1.1 (con_node l Z a0 hw b16 r3 jj p q c3 z3 f3 N3 D3 s3 (updC (fun _ _ => 0) i3 (o3 + ki) u4) (updC (fun _ _ => 0) i3 (o3 + ki) u5) i3 o3 kj h34 n0 PS hr3 hI3 (by omega) ho3 hkj hKkj3) rfl pd_0 rfl rfl rfl (by decide) (by decide) rfl rfl (by decide) (by decide) (cI fun r_43 _ ⟨qr_43, er_43⟩ => ?_)
        rw [qr_43]
        have vr_43 : r_43 = (0 : Int32) := er_43.trans (if_neg (by omega))
        rw [vr_43]
        refine w_if_ne O at_288 (pn := 291) (pt := 309) rfl (by decide) rfl (fun q => absurd q (by decide)) (fun c288 => ?_)
        refine w_aload O at_291 (pc' := 293) rfl rfl rfl ?_
        refine w_iload O at_293 (pc' := 295) rfl rfl ?_
        refine w_iload O at_295 (pc' := 297) rfl rfl ?_
        refine w_virtual O at_297 (as := [(.int r3), (.int jj)]) (st := []) (wt := 0) (cl' := 9) (sl' := 3084) (pc' := 300) rfl (mw 45 rfl) (mw 46 rfl) (mw 48 rfl) (mw 47 rfl) (mw 49 rfl) (mw 2 rfl) (by decide) PS.1.1 (con_distance l Z a0 hw b16 r3 jj p q c3 z3 f3 N3 D3 s3 (updC (fun _ _ => 0) i3 (o3 + ki) u4) (updC (fun _ _ => 0) i3 (o3 + ki) u5) i3 o3 kj h34 n0 PS hr3 hI3 (by omega) ho3 hkj hKkj3) rfl pd_4 rfl rfl rfl (by decide) (by decide) rfl rfl (by decide) (by decide) (cL fun r_44 _ ⟨qr_44, er_44⟩ => ?_)
        rw [qr_44]
        have vr_44 : r_44 = (0 : Int64) := er_44.trans (if_neg (by omega))
        rw [vr_44]
        refine w_lconst O at_300 (z := (0 : Int64)) (pc' := 301) rfl rfl ?_
        refine w_lcmp_ne O at_301 (pi := 302) rfl at_302 (pn := 305) (pt := 309) rfl (by decide) rfl (fun q => absurd q (by decide)) (fun c301 => ?_)
        refine w_iconst O at_305 (z := (1 : Int32)) (pc' := 306) rfl rfl ?_
        refine w_goto O at_306 (pc' := 310) (by decide) rfl ?_
        refine w_istore O at_310 (L' := #[.val (.int u0), .val (.int u1), .val (.int u2), .val (.int u3), .val (.int u4), .val (.long u5), .second, .val (.int la), .val (.int lb), .val (.int lc), .val (.ref b16), .val (.int r1), .val (.int r2), .val (.int r3), .val (.int (2 : Int32)), .val (.int r3), .val (.int lc), .val (.int (0 : Int32)), .val (.int r1), .val (.int la), .val (.int ii), .val (.int kk), .val (.int (1 : Int32)), .val (.int jj)]) (pc' := 312) rfl rfl ?_
        refine w_iload O at_312 (pc' := 314) rfl rfl ?_
        refine w_if_eq O at_314 (pn := 317) (pt := 347) rfl (by decide) rfl (fun q => absurd q (by decide)) (fun c314 => ?_)
        refine w_aload O at_317 (pc' := 319) rfl rfl rfl ?_
        refine w_iload O at_319 (pc' := 321) rfl rfl ?_
        refine w_iload O at_321 (pc' := 323) rfl rfl ?_
        refine w_virtual O at_323 (as := [(.int r1), (.int kk)]) (st := []) (wt := 0) (cl' := 9) (sl' := 3084) (pc' := 326) rfl (mw 40 rfl) (mw 41 rfl) (mw 43 rfl) (mw 42 rfl) (mw 44 rfl) (mw 2 rfl) (by decide) PS.1.1 (con_node l Z a0 hw b16 r1 kk p q c3 z3 f3 N3 D3 s3 (updC (fun _ _ => 0) i3 (o3 + ki) u4) (updC (fun _ _ => 0) i3 (o3 + ki) u5) i1 o1 kk_ h34 n0 PS hr1 hI1 (by omega) ho1 hkk_ hKkk_1) rfl pd_0 rfl rfl rfl (by decide) (by decide) rfl rfl (by decide) (by decide) (cI fun r_45 _ ⟨qr_45, er_45⟩ => ?_)
        rw [qr_45]
        have vr_45 : r_45 = (0 : Int32) := er_45.trans (if_neg (by omega))
        rw [vr_45]
        refine w_if_ne O at_326 (pn := 329) (pt := 347) rfl (by decide) rfl (fun q => absurd q (by decide)) (fun c326 => ?_)
        refine w_aload O at_329 (pc' := 331) rfl rfl rfl ?_
        refine w_iload O at_331 (pc' := 333) rfl rfl ?_
        refine w_iload O at_333 (pc' := 335) rfl rfl ?_
        refine w_virtual O at_335 (as := [(.int r1), (.int kk)]) (st := []) (wt := 0) (cl' := 9) (sl' := 3084) (pc' := 338) rfl (mw 45 rfl) (mw 46 rfl) (mw 48 rfl) (mw 47 rfl) (mw 49 rfl) (mw 2 rfl) (by decide) PS.1.1 (con_distance l Z a0 hw b16 r1 kk p q c3 z3 f3 N3 D3 s3 (updC (fun _ _ => 0) i3 (o3 + ki) u4) (updC (fun _ _ => 0) i3 (o3 + ki) u5) i1 o1 kk_ h34 n0 PS hr1 hI1 (by omega) ho1 hkk_ hKkk_1) rfl pd_4 rfl rfl rfl (by decide) (by decide) rfl rfl (by decide) (by decide) (cL fun r_46 _ ⟨qr_46, er_46⟩ => ?_)
        rw [qr_46]
        have vr_46 : r_46 = (0 : Int64) := er_46.trans (if_neg (by omega))
        rw [vr_46]
        refine w_lconst O at_338 (z := (0 : Int64)) (pc' := 339) rfl rfl ?_
        refine w_lcmp_ne O at_339 (pi := 340) rfl at_340 (pn := 343) (pt := 347) rfl (by decide) rfl (fun q => absurd q (by decide)) (fun c339 => ?_)
        refine w_iconst O at_343 (z := (1 : Int32)) (pc' := 344) rfl rfl ?_
        refine w_goto O at_344 (pc' := 348) (by decide) rfl ?_
        refine w_istore O at_348 (L' := #[.val (.int u0), .val (.int u1), .val (.int u2), .val (.int u3), .val (.int u4), .val (.long u5), .second, .val (.int la), .val (.int lb), .val (.int lc), .val (.ref b16), .val (.int r1), .val (.int r2), .val (.int r3), .val (.int (2 : Int32)), .val (.int r3), .val (.int lc), .val (.int (0 : Int32)), .val (.int r1), .val (.int la), .val (.int ii), .val (.int kk), .val (.int (1 : Int32)), .val (.int jj)]) (pc' := 350) rfl rfl ?_
        refine w_iload O at_350 (pc' := 352) rfl rfl ?_
        refine w_retz O at_352 (by decide) (by decide) (Or.inr rfl) ?_
        exact ⟨_, rfl, rfl⟩
    · first | rw [eo] | rw [show (2 : Int32) + 1 = 3 from by decide, eo]
      clear i23 i24 i25 i26 i27
      refine w_istore O at_140 (L' := #[.val (.int u0), .val (.int u1), .val (.int u2), .val (.int u3), .val (.int u4), .val (.long u5), .second, .val (.int la), .val (.int lb), .val (.int lc), .val (.ref b16), .val (.int r1), .val (.int r2), .val (.int r3), .val (.int (2 : Int32)), .val (.int r3), .val (.int lc), .val (.int (1 : Int32)), .unset, .unset, .unset, .unset, .unset, .unset]) (pc' := 142) rfl rfl ?_
      refine w_iload O at_142 (pc' := 144) rfl rfl ?_
      refine w_if_ne O at_144 (pn := 147) (pt := 152) rfl (by decide) rfl (fun c144 => ?_) (fun q => absurd q (by decide))
      refine w_iload O at_152 (pc' := 154) rfl rfl ?_
      refine w_iconst O at_154 (z := (1 : Int32)) (pc' := 155) rfl rfl ?_
      refine w_icmp_ne O at_155 (pn := 158) (pt := 163) rfl (by decide) rfl (fun q => absurd q (by decide)) (fun c155 => ?_)
      refine w_iload O at_158 (pc' := 160) rfl rfl ?_
      refine w_goto O at_160 (pc' := 165) (by decide) rfl ?_
      refine w_istore O at_165 (L' := #[.val (.int u0), .val (.int u1), .val (.int u2), .val (.int u3), .val (.int u4), .val (.long u5), .second, .val (.int la), .val (.int lb), .val (.int lc), .val (.ref b16), .val (.int r1), .val (.int r2), .val (.int r3), .val (.int (2 : Int32)), .val (.int r3), .val (.int lc), .val (.int (1 : Int32)), .val (.int r2), .unset, .unset, .unset, .unset, .unset]) (pc' := 167) rfl rfl ?_
      refine w_iload O at_167 (pc' := 169) rfl rfl ?_
      refine w_if_ne O at_169 (pn := 172) (pt := 177) rfl (by decide) rfl (fun c169 => ?_) (fun q => absurd q (by decide))
      refine w_iload O at_177 (pc' := 179) rfl rfl ?_
      refine w_iconst O at_179 (z := (1 : Int32)) (pc' := 180) rfl rfl ?_
      refine w_icmp_ne O at_180 (pn := 183) (pt := 188) rfl (by decide) rfl (fun q => absurd q (by decide)) (fun c180 => ?_)
      refine w_iload O at_183 (pc' := 185) rfl rfl ?_
      refine w_goto O at_185 (pc' := 190) (by decide) rfl ?_
      refine w_istore O at_190 (L' := #[.val (.int u0), .val (.int u1), .val (.int u2), .val (.int u3), .val (.int u4), .val (.long u5), .second, .val (.int la), .val (.int lb), .val (.int lc), .val (.ref b16), .val (.int r1), .val (.int r2), .val (.int r3), .val (.int (2 : Int32)), .val (.int r3), .val (.int lc), .val (.int (1 : Int32)), .val (.int r2), .val (.int lb), .unset, .unset, .unset, .unset]) (pc' := 192) rfl rfl ?_
      refine w_iloadN O at_192 (pc' := 193) rfl rfl ?_
      refine w_ldc O at_193 (pc' := 195) rfl (mw 34 rfl) ?_
      refine w_iand O at_195 (pc' := 196) rfl ?_
      refine w_iload O at_196 (pc' := 198) rfl rfl ?_
      refine w_irem O at_198 (pc' := 199) rfl (nz32 (by omega)) ?_
      refine w_istoreG O at_199 (L' := fun zq => #[.val (.int u0), .val (.int u1), .val (.int u2), .val (.int u3), .val (.int u4), .val (.long u5), .second, .val (.int la), .val (.int lb), .val (.int lc), .val (.ref b16), .val (.int r1), .val (.int r2), .val (.int r3), .val (.int (2 : Int32)), .val (.int r3), .val (.int lc), .val (.int (1 : Int32)), .val (.int r2), .val (.int lb), .val (.int zq), .unset, .unset, .unset]) (pc' := 201) rfl (fun _ => rfl) (fun ii e_ii => ?_)
      have i29 : (u2 &&& (2147483647 : Int32)).toInt = u2.toInt % 2147483648 := c_mask u2 (2147483647 : Int32) 31 (by decide) (by decide)
      have i30 := c_iremV (u2 &&& (2147483647 : Int32)) lc
      have j_ii := congrArg Int32.toInt e_ii
      have r_ii := rng32 ii
      obtain ⟨ki, hki⟩ : ∃ ki : Nat, ii.toInt = (ki : Int) := ⟨ii.toInt.toNat, by omega⟩
      have hlti : (ki : Int) < lc.toInt := by omega
      have hKki3 : o3 + ki < s3 i3 := by omega
      clear i29 i30 j_ii
      refine w_iloadN O at_201 (pc' := 202) rfl rfl ?_
      refine w_ldc O at_202 (pc' := 204) rfl (mw 34 rfl) ?_
      refine w_iand O at_204 (pc' := 205) rfl ?_
      refine w_iload O at_205 (pc' := 207) rfl rfl ?_
      refine w_irem O at_207 (pc' := 208) rfl (nz32 (by omega)) ?_
      refine w_istoreG O at_208 (L' := fun zq => #[.val (.int u0), .val (.int u1), .val (.int u2), .val (.int u3), .val (.int u4), .val (.long u5), .second, .val (.int la), .val (.int lb), .val (.int lc), .val (.ref b16), .val (.int r1), .val (.int r2), .val (.int r3), .val (.int (2 : Int32)), .val (.int r3), .val (.int lc), .val (.int (1 : Int32)), .val (.int r2), .val (.int lb), .val (.int ii), .val (.int zq), .unset, .unset]) (pc' := 210) rfl (fun _ => rfl) (fun kk e_kk => ?_)
      have i32 : (u3 &&& (2147483647 : Int32)).toInt = u3.toInt % 2147483648 := c_mask u3 (2147483647 : Int32) 31 (by decide) (by decide)
      have i33 := c_iremV (u3 &&& (2147483647 : Int32)) lb
      have j_kk := congrArg Int32.toInt e_kk
      have r_kk := rng32 kk
      obtain ⟨kk_, hkk_⟩ : ∃ kk_ : Nat, kk.toInt = (kk_ : Int) := ⟨kk.toInt.toNat, by omega⟩
      have hltk : (kk_ : Int) < lb.toInt := by omega
      have hKkk_2 : o2 + kk_ < s3 i2 := by omega
      clear i32 i33 j_kk
      refine w_aload O at_210 (pc' := 212) rfl rfl rfl ?_
      refine w_iload O at_212 (pc' := 214) rfl rfl ?_
      refine w_iload O at_214 (pc' := 216) rfl rfl ?_
      refine w_iload O at_216 (pc' := 218) rfl rfl ?_
      refine w_lload O at_218 (pc' := 220) rfl rfl ?_
      refine w_virtual O at_220 (as := [(.int r3), (.int ii), (.int u4), (.long u5)]) (st := []) (wt := 0) (cl' := 9) (sl' := 3084) (pc' := 223) rfl (mw 35 rfl) (mw 36 rfl) (mw 38 rfl) (mw 37 rfl) (mw 39 rfl) (mw 2 rfl) (by decide) P3.1.1 (con_set l Z a0 hw b16 r3 ii u4 u5 p q c3 z3 f3 N3 D3 s3 (fun _ _ => 0) (fun _ _ => 0) i3 o3 ki h20 n0 P3 hr3 hI3 (by omega) ho3 hki hKki3) rfl pd_3 rfl rfl rfl (by decide) (by decide) rfl rfl (by decide) (by decide) (cV fun h34 PS => ?_)
      refine w_aload O at_223 (pc' := 225) rfl rfl rfl ?_
      refine w_iload O at_225 (pc' := 227) rfl rfl ?_
      refine w_iload O at_227 (pc' := 229) rfl rfl ?_
      refine w_virtual O at_229 (as := [(.int r3), (.int ii)]) (st := []) (wt := 0) (cl' := 9) (sl' := 3084) (pc' := 232) rfl (mw 40 rfl) (mw 41 rfl) (mw 43 rfl) (mw 42 rfl) (mw 44 rfl) (mw 2 rfl) (by decide) PS.1.1 (con_node l Z a0 hw b16 r3 ii p q c3 z3 f3 N3 D3 s3 (updC (fun _ _ => 0) i3 (o3 + ki) u4) (updC (fun _ _ => 0) i3 (o3 + ki) u5) i3 o3 ki h34 n0 PS hr3 hI3 (by omega) ho3 hki hKki3) rfl pd_0 rfl rfl rfl (by decide) (by decide) rfl rfl (by decide) (by decide) (cI fun r_35 _ ⟨qr_35, er_35⟩ => ?_)
      rw [qr_35]
      have vr_35 : r_35 = u4 := er_35.trans (if_pos ⟨rfl, rfl⟩)
      rw [vr_35]
      refine w_iload O at_232 (pc' := 234) rfl rfl ?_
      refine w_icmp_ne O at_234 (pn := 237) (pt := 256) rfl (by decide) rfl (fun q => absurd q (by omega)) (fun c234 => ?_)
      refine w_aload O at_237 (pc' := 239) rfl rfl rfl ?_
      refine w_iload O at_239 (pc' := 241) rfl rfl ?_
      refine w_iload O at_241 (pc' := 243) rfl rfl ?_
      refine w_virtual O at_243 (as := [(.int r3), (.int ii)]) (st := []) (wt := 0) (cl' := 9) (sl' := 3084) (pc' := 246) rfl (mw 45 rfl) (mw 46 rfl) (mw 48 rfl) (mw 47 rfl) (mw 49 rfl) (mw 2 rfl) (by decide) PS.1.1 (con_distance l Z a0 hw b16 r3 ii p q c3 z3 f3 N3 D3 s3 (updC (fun _ _ => 0) i3 (o3 + ki) u4) (updC (fun _ _ => 0) i3 (o3 + ki) u5) i3 o3 ki h34 n0 PS hr3 hI3 (by omega) ho3 hki hKki3) rfl pd_4 rfl rfl rfl (by decide) (by decide) rfl rfl (by decide) (by decide) (cL fun r_36 _ ⟨qr_36, er_36⟩ => ?_)
      rw [qr_36]
      have vr_36 : r_36 = u5 := er_36.trans (if_pos ⟨rfl, rfl⟩)
      rw [vr_36]
      refine w_lload O at_246 (pc' := 248) rfl rfl ?_
      refine w_lcmp_ne O at_248 (pi := 249) rfl at_249 (pn := 252) (pt := 256) rfl (by decide) rfl (fun q => absurd q (by omega)) (fun c248 => ?_)
      refine w_iconst O at_252 (z := (1 : Int32)) (pc' := 253) rfl rfl ?_
      refine w_goto O at_253 (pc' := 257) (by decide) rfl ?_
      refine w_istore O at_257 (L' := #[.val (.int u0), .val (.int u1), .val (.int u2), .val (.int u3), .val (.int u4), .val (.long u5), .second, .val (.int la), .val (.int lb), .val (.int lc), .val (.ref b16), .val (.int r1), .val (.int r2), .val (.int r3), .val (.int (2 : Int32)), .val (.int r3), .val (.int lc), .val (.int (1 : Int32)), .val (.int r2), .val (.int lb), .val (.int ii), .val (.int kk), .val (.int (1 : Int32)), .unset]) (pc' := 259) rfl rfl ?_
      refine w_iload O at_259 (pc' := 261) rfl rfl ?_
      refine w_iconst O at_261 (z := (1 : Int32)) (pc' := 262) rfl rfl ?_
      refine w_icmp_le O at_262 (pn := 265) (pt := 312) rfl (by decide) rfl (fun c262 => ?_) (fun c262 => ?_)
      · replace c262 : ¬ 1 < lc.toInt := c262
        refine w_iload O at_312 (pc' := 314) rfl rfl ?_
        refine w_if_eq O at_314 (pn := 317) (pt := 347) rfl (by decide) rfl (fun q => absurd q (by decide)) (fun c314 => ?_)
        refine w_aload O at_317 (pc' := 319) rfl rfl rfl ?_
        refine w_iload O at_319 (pc' := 321) rfl rfl ?_
        refine w_iload O at_321 (pc' := 323) rfl rfl ?_
        refine w_virtual O at_323 (as := [(.int r2), (.int kk)]) (st := []) (wt := 0) (cl' := 9) (sl' := 3084) (pc' := 326) rfl (mw 40 rfl) (mw 41 rfl) (mw 43 rfl) (mw 42 rfl) (mw 44 rfl) (mw 2 rfl) (by decide) PS.1.1 (con_node l Z a0 hw b16 r2 kk p q c3 z3 f3 N3 D3 s3 (updC (fun _ _ => 0) i3 (o3 + ki) u4) (updC (fun _ _ => 0) i3 (o3 + ki) u5) i2 o2 kk_ h34 n0 PS hr2 hI2 (by omega) ho2 hkk_ hKkk_2) rfl pd_0 rfl rfl rfl (by decide) (by decide) rfl rfl (by decide) (by decide) (cI fun r_37 _ ⟨qr_37, er_37⟩ => ?_)
        rw [qr_37]
        have vr_37 : r_37 = (0 : Int32) := er_37.trans (if_neg (by omega))
        rw [vr_37]
        refine w_if_ne O at_326 (pn := 329) (pt := 347) rfl (by decide) rfl (fun q => absurd q (by decide)) (fun c326 => ?_)
        refine w_aload O at_329 (pc' := 331) rfl rfl rfl ?_
        refine w_iload O at_331 (pc' := 333) rfl rfl ?_
        refine w_iload O at_333 (pc' := 335) rfl rfl ?_
        refine w_virtual O at_335 (as := [(.int r2), (.int kk)]) (st := []) (wt := 0) (cl' := 9) (sl' := 3084) (pc' := 338) rfl (mw 45 rfl) (mw 46 rfl) (mw 48 rfl) (mw 47 rfl) (mw 49 rfl) (mw 2 rfl) (by decide) PS.1.1 (con_distance l Z a0 hw b16 r2 kk p q c3 z3 f3 N3 D3 s3 (updC (fun _ _ => 0) i3 (o3 + ki) u4) (updC (fun _ _ => 0) i3 (o3 + ki) u5) i2 o2 kk_ h34 n0 PS hr2 hI2 (by omega) ho2 hkk_ hKkk_2) rfl pd_4 rfl rfl rfl (by decide) (by decide) rfl rfl (by decide) (by decide) (cL fun r_38 _ ⟨qr_38, er_38⟩ => ?_)
        rw [qr_38]
        have vr_38 : r_38 = (0 : Int64) := er_38.trans (if_neg (by omega))
        rw [vr_38]
        refine w_lconst O at_338 (z := (0 : Int64)) (pc' := 339) rfl rfl ?_
        refine w_lcmp_ne O at_339 (pi := 340) rfl at_340 (pn := 343) (pt := 347) rfl (by decide) rfl (fun q => absurd q (by decide)) (fun c339 => ?_)
        refine w_iconst O at_343 (z := (1 : Int32)) (pc' := 344) rfl rfl ?_
        refine w_goto O at_344 (pc' := 348) (by decide) rfl ?_
        refine w_istore O at_348 (L' := #[.val (.int u0), .val (.int u1), .val (.int u2), .val (.int u3), .val (.int u4), .val (.long u5), .second, .val (.int la), .val (.int lb), .val (.int lc), .val (.ref b16), .val (.int r1), .val (.int r2), .val (.int r3), .val (.int (2 : Int32)), .val (.int r3), .val (.int lc), .val (.int (1 : Int32)), .val (.int r2), .val (.int lb), .val (.int ii), .val (.int kk), .val (.int (1 : Int32)), .unset]) (pc' := 350) rfl rfl ?_
        refine w_iload O at_350 (pc' := 352) rfl rfl ?_
        refine w_retz O at_352 (by decide) (by decide) (Or.inr rfl) ?_
        exact ⟨_, rfl, rfl⟩
      · replace c262 : 1 < lc.toInt := c262
        refine w_iload O at_265 (pc' := 267) rfl rfl ?_
        refine w_iconst O at_267 (z := (1 : Int32)) (pc' := 268) rfl rfl ?_
        refine w_iadd O at_268 (pc' := 269) rfl ?_
        refine w_iload O at_269 (pc' := 271) rfl rfl ?_
        refine w_irem O at_271 (pc' := 272) rfl (nz32 (by omega)) ?_
        refine w_istoreG O at_272 (L' := fun zq => #[.val (.int u0), .val (.int u1), .val (.int u2), .val (.int u3), .val (.int u4), .val (.long u5), .second, .val (.int la), .val (.int lb), .val (.int lc), .val (.ref b16), .val (.int r1), .val (.int r2), .val (.int r3), .val (.int (2 : Int32)), .val (.int r3), .val (.int lc), .val (.int (1 : Int32)), .val (.int r2), .val (.int lb), .val (.int ii), .val (.int kk), .val (.int (1 : Int32)), .val (.int zq)]) (pc' := 274) rfl (fun _ => rfl) (fun jj e_jj => ?_)
        have i40 : ((ii + (1 : Int32)).toInt - (ii.toInt + 1)) % 4294967296 = 0 := c_iadd ii (1 : Int32)
        have i41 := rng32 (ii + (1 : Int32))
        have i42 := c_iremV (ii + (1 : Int32)) lc
        have j_jj := congrArg Int32.toInt e_jj
        have r_jj := rng32 jj
        obtain ⟨kj, hkj⟩ : ∃ kj : Nat, jj.toInt = (kj : Int) := ⟨jj.toInt.toNat, by omega⟩
        have hltj : (kj : Int) < lc.toInt := by omega
        have hKkj3 : o3 + kj < s3 i3 := by omega
        have hji : ¬ kj = ki := by omega
        clear i40 i41 i42 j_jj
        refine w_iload O at_274 (pc' := 276) rfl rfl ?_
        refine w_if_eq O at_276 (pn := 279) (pt := 309) rfl (by decide) rfl (fun q => absurd q (by decide)) (fun c276 => ?_)
        refine w_aload O at_279 (pc' := 281) rfl rfl rfl ?_
        refine w_iload O at_281 (pc' := 283) rfl rfl ?_
        refine w_iload O at_283 (pc' := 285) rfl rfl ?_
        refine w_virtual O at_285 (as := [(.int r3), (.int jj)]) (st := []) (wt := 0) (cl' := 9) (sl' := 3084) (pc' := 288) rfl (mw 40 rfl) (mw 41 rfl) (mw 43 rfl) (mw 42 rfl) (mw 44 rfl) (mw 2 rfl) (by decide) PS.1.1 (con_node l Z a0 hw b16 r3 jj p q c3 z3 f3 N3 D3 s3 (updC (fun _ _ => 0) i3 (o3 + ki) u4) (updC (fun _ _ => 0) i3 (o3 + ki) u5) i3 o3 kj h34 n0 PS hr3 hI3 (by omega) ho3 hkj hKkj3) rfl pd_0 rfl rfl rfl (by decide) (by decide) rfl rfl (by decide) (by decide) (cI fun r_43 _ ⟨qr_43, er_43⟩ => ?_)
        rw [qr_43]
        have vr_43 : r_43 = (0 : Int32) := er_43.trans (if_neg (by omega))
        rw [vr_43]
        refine w_if_ne O at_288 (pn := 291) (pt := 309) rfl (by decide) rfl (fun q => absurd q (by decide)) (fun c288 => ?_)
        refine w_aload O at_291 (pc' := 293) rfl rfl rfl ?_
        refine w_iload O at_293 (pc' := 295) rfl rfl ?_
        refine w_iload O at_295 (pc' := 297) rfl rfl ?_
        refine w_virtual O at_297 (as := [(.int r3), (.int jj)]) (st := []) (wt := 0) (cl' := 9) (sl' := 3084) (pc' := 300) rfl (mw 45 rfl) (mw 46 rfl) (mw 48 rfl) (mw 47 rfl) (mw 49 rfl) (mw 2 rfl) (by decide) PS.1.1 (con_distance l Z a0 hw b16 r3 jj p q c3 z3 f3 N3 D3 s3 (updC (fun _ _ => 0) i3 (o3 + ki) u4) (updC (fun _ _ => 0) i3 (o3 + ki) u5) i3 o3 kj h34 n0 PS hr3 hI3 (by omega) ho3 hkj hKkj3) rfl pd_4 rfl rfl rfl (by decide) (by decide) rfl rfl (by decide) (by decide) (cL fun r_44 _ ⟨qr_44, er_44⟩ => ?_)
        rw [qr_44]
        have vr_44 : r_44 = (0 : Int64) := er_44.trans (if_neg (by omega))
        rw [vr_44]
        refine w_lconst O at_300 (z := (0 : Int64)) (pc' := 301) rfl rfl ?_
        refine w_lcmp_ne O at_301 (pi := 302) rfl at_302 (pn := 305) (pt := 309) rfl (by decide) rfl (fun q => absurd q (by decide)) (fun c301 => ?_)
        refine w_iconst O at_305 (z := (1 : Int32)) (pc' := 306) rfl rfl ?_
        refine w_goto O at_306 (pc' := 310) (by decide) rfl ?_
        refine w_istore O at_310 (L' := #[.val (.int u0), .val (.int u1), .val (.int u2), .val (.int u3), .val (.int u4), .val (.long u5), .second, .val (.int la), .val (.int lb), .val (.int lc), .val (.ref b16), .val (.int r1), .val (.int r2), .val (.int r3), .val (.int (2 : Int32)), .val (.int r3), .val (.int lc), .val (.int (1 : Int32)), .val (.int r2), .val (.int lb), .val (.int ii), .val (.int kk), .val (.int (1 : Int32)), .val (.int jj)]) (pc' := 312) rfl rfl ?_
        refine w_iload O at_312 (pc' := 314) rfl rfl ?_
        refine w_if_eq O at_314 (pn := 317) (pt := 347) rfl (by decide) rfl (fun q => absurd q (by decide)) (fun c314 => ?_)
        refine w_aload O at_317 (pc' := 319) rfl rfl rfl ?_
        refine w_iload O at_319 (pc' := 321) rfl rfl ?_
        refine w_iload O at_321 (pc' := 323) rfl rfl ?_
        refine w_virtual O at_323 (as := [(.int r2), (.int kk)]) (st := []) (wt := 0) (cl' := 9) (sl' := 3084) (pc' := 326) rfl (mw 40 rfl) (mw 41 rfl) (mw 43 rfl) (mw 42 rfl) (mw 44 rfl) (mw 2 rfl) (by decide) PS.1.1 (con_node l Z a0 hw b16 r2 kk p q c3 z3 f3 N3 D3 s3 (updC (fun _ _ => 0) i3 (o3 + ki) u4) (updC (fun _ _ => 0) i3 (o3 + ki) u5) i2 o2 kk_ h34 n0 PS hr2 hI2 (by omega) ho2 hkk_ hKkk_2) rfl pd_0 rfl rfl rfl (by decide) (by decide) rfl rfl (by decide) (by decide) (cI fun r_45 _ ⟨qr_45, er_45⟩ => ?_)
        rw [qr_45]
        have vr_45 : r_45 = (0 : Int32) := er_45.trans (if_neg (by omega))
        rw [vr_45]
        refine w_if_ne O at_326 (pn := 329) (pt := 347) rfl (by decide) rfl (fun q => absurd q (by decide)) (fun c326 => ?_)
        refine w_aload O at_329 (pc' := 331) rfl rfl rfl ?_
        refine w_iload O at_331 (pc' := 333) rfl rfl ?_
        refine w_iload O at_333 (pc' := 335) rfl rfl ?_
        refine w_virtual O at_335 (as := [(.int r2), (.int kk)]) (st := []) (wt := 0) (cl' := 9) (sl' := 3084) (pc' := 338) rfl (mw 45 rfl) (mw 46 rfl) (mw 48 rfl) (mw 47 rfl) (mw 49 rfl) (mw 2 rfl) (by decide) PS.1.1 (con_distance l Z a0 hw b16 r2 kk p q c3 z3 f3 N3 D3 s3 (updC (fun _ _ => 0) i3 (o3 + ki) u4) (updC (fun _ _ => 0) i3 (o3 + ki) u5) i2 o2 kk_ h34 n0 PS hr2 hI2 (by omega) ho2 hkk_ hKkk_2) rfl pd_4 rfl rfl rfl (by decide) (by decide) rfl rfl (by decide) (by decide) (cL fun r_46 _ ⟨qr_46, er_46⟩ => ?_)
        rw [qr_46]
        have vr_46 : r_46 = (0 : Int64) := er_46.trans (if_neg (by omega))
        rw [vr_46]
        refine w_lconst O at_338 (z := (0 : Int64)) (pc' := 339) rfl rfl ?_
        refine w_lcmp_ne O at_339 (pi := 340) rfl at_340 (pn := 343) (pt := 347) rfl (by decide) rfl (fun q => absurd q (by decide)) (fun c339 => ?_)
        refine w_iconst O at_343 (z := (1 : Int32)) (pc' := 344) rfl rfl ?_
        refine w_goto O at_344 (pc' := 348) (by decide) rfl ?_
        refine w_istore O at_348 (L' := #[.val (.int u0), .val (.int u1), .val (.int u2), .val (.int u3), .val (.int u4), .val (.long u5), .second, .val (.int la), .val (.int lb), .val (.int lc), .val (.ref b16), .val (.int r1), .val (.int r2), .val (.int r3), .val (.int (2 : Int32)), .val (.int r3), .val (.int lc), .val (.int (1 : Int32)), .val (.int r2), .val (.int lb), .val (.int ii), .val (.int kk), .val (.int (1 : Int32)), .val (.int jj)]) (pc' := 350) rfl rfl ?_
        refine w_iload O at_350 (pc' := 352) rfl rfl ?_
        refine w_retz O at_352 (by decide) (by decide) (Or.inr rfl) ?_
        exact ⟨_, rfl, rfl⟩
set_option maxRecDepth 65536 in
set_option maxHeartbeats 40000000 in
theorem comes_1 {Post : Tables → Env → Array Value → State → Outcome → State → Prop} (hpost : ∀ tb e args s v u, (limb_1_1.after args s (.returned v) u = true ∧ limb_1_2.after args s (.returned v) u = true ∧ True) → FrameEnd s (.returned v) u (Jvm.fieldLocs frame_1_writes args s ++ Jvm.arrayLocs frame_1_arrays args s ++ Jvm.staticLocs frame_1_statics s) 32 6272 → Post tb e args s (.returned v) u) :
    ArmFor flags0 classFile x code maxLocals ret World_1 tables_1 room_1 Calls_1 rest_1 Pre_1 Post := by
  intro l hfl _ _ p e ha hc hk s m args below hf hA hF happ hP
  obtain ⟨hcalls, hrest, hpre⟩ := hP
  obtain ⟨-, -, -, hnamed, -, -, -, hat⟩ := (Spec.applies_iff hf).mp happ
  obtain ⟨hg, hn⟩ := and_e (Cond.before_iff.mp (show (Jvm.Cond.and given_1 narrow_1).before args s = true from hpre))
  obtain ⟨g1, g2⟩ := and_e hg
  obtain ⟨g3, g4⟩ := and_e g2
  obtain ⟨g5, g6⟩ := and_e g4
  obtain ⟨g7, g8⟩ := and_e g6
  obtain ⟨g9, g10⟩ := and_e g8
  obtain ⟨g11, g12⟩ := and_e g10
  obtain ⟨w0, w1, w2, w3, w4, w5, rfl⟩ : ∃ w0 w1 w2 w3 w4 w5 : Value, args = #[w0, w1, w2, w3, w4, w5] := by
    have hs : args.size = 6 := by simpa [Cond.value, given_1] using g1
    obtain ⟨L⟩ := args
    match L, hs with
    | [w0, w1, w2, w3, w4, w5], _ => exact ⟨w0, w1, w2, w3, w4, w5, rfl⟩
  have hw := fun d (hd : d ∈ tables_1) => atoms_spec (ws := Jvm.Cond.code x code maxLocals ret :: tables_1) hat d (List.mem_cons_of_mem _ hd)
  have hfit : Fit s := fun {y c} hc i hi => by
    obtain ⟨ha, rfl⟩ := Array.getElem?_eq_some_iff.mp hc
    have q := List.all_eq_true.mp ((Array.all_eq_true_iff_forall_mem.mp hF) _ (Array.getElem_mem ha)) i (List.mem_range.mpr hi)
    simpa [Array.getElem?_eq_getElem hi] using q
  obtain ⟨i0, ei0⟩ := is_v g3
  obtain rfl : w0 = (.int i0) := Option.some.inj ei0
  obtain ⟨i1, ei1⟩ := is_v g5
  obtain rfl : w1 = (.int i1) := Option.some.inj ei1
  obtain ⟨i2, ei2⟩ := is_v g7
  obtain rfl : w2 = (.int i2) := Option.some.inj ei2
  obtain ⟨i3, ei3⟩ := is_v g9
  obtain rfl : w3 = (.int i3) := Option.some.inj ei3
  obtain ⟨i4, ei4⟩ := is_v g11
  obtain rfl : w4 = (.int i4) := Option.some.inj ei4
  obtain ⟨i5, ei5⟩ := isL_v g12
  obtain rfl : w5 = (.long i5) := Option.some.inj ei5
  obtain ⟨n, o, h1, h2, h3, _, L, rfl, ⟨⟨r, rfl, rfl⟩, N⟩, hq⟩ := (law_con l s _ hw i0 i1 i2 i3 i4 i5 s.heap s.heap.size) (Nat.le_refl _) tables_1 p e ha hc hk s m _ below hf ((Spec.applies_iff_loose hf).mp happ).1 ⟨rfl, State.Warmed39.refl s, rfl⟩ trivial
  refine ⟨n, _, h1, h2, h3, hpost _ _ _ _ _ _ ⟨Cond.after_iff.mpr rfl, Cond.after_iff.mpr (eq_i res_at (Term.int_eval (1)) rfl), trivial⟩ ⟨hq.1, hq.2.1, (hq.2.2.sift fun y hy => Or.inr (N y hy)).mono (by decide) (by decide)⟩⟩
theorem main_1_1 : Claimed_1_1 := comes_1 fun _ _ _ _ _ _ h hF => ⟨h.1, hF⟩
theorem main_1_2 : Claimed_1_2 := comes_1 fun _ _ _ _ _ _ h hF => ⟨h.2.1, hF⟩
end Jvm.Pilot.@@N@@
namespace Jvm.Pilot.@@N@@
open Jvm Jvm.ClassFile Sem Op Lib Jvm.Free Jvm.Stand Jvm.Pilot.@@N@@.Jvm.D
/-! MADE BY PROGRAM (witnessworld.py) out of the Statement's table words and the real class files: 12 classes; the members and pool entries that the words name. The judged class is class 1, her method 1. -/
namespace start1
open Jvm.ClassFile
def u (s : String) : CpInfo := .utf8 (stringToUtf16 s)
/-- a pool by its gaps: so many unusable entries, then the entry; so many at the end -/
def gap : Nat → List CpInfo → List CpInfo
  | 0, r => r
  | n + 1, r => .unusable :: gap n r
def poolList (es : List (Nat × CpInfo)) (last : Nat) : List CpInfo := es.foldr (fun e r => gap e.1 (e.2 :: r)) (gap last [])
def pool (es : List (Nat × CpInfo)) (last : Nat) : Array CpInfo := ⟨poolList es last⟩
def fileOf (pool : Array CpInfo) (this : Nat) (attrs : Array Attribute := #[]) (ms : Array MethodInfo := #[]) (fl : Nat := 33) (sup : Nat := 0) (ifs : Array Nat := #[]) (fds : Array FieldInfo := #[]) : ClassFile where
  minorVersion := 0
  majorVersion := 65
  constantPool := pool
  accessFlags := fl
  thisClass := this
  superClass := sup
  interfaces := ifs
  fields := fds
  methods := ms
  attributes := attrs
def plain (name : String) (sup : Option ClassId) : Class where
  name := name
  kind := .ordinary
  loader := none
  accessFlags := 33
  super := sup
  interfaces := #[]
  cf := none
  fields := #[]
  methods := #[]
  instanceTypes := #[]
  staticTypes := #[]
  resolved := #[]
  callSites := []
  init := .initialized
  statics := none
  mirror := none

def pool0 : Array CpInfo := pool [(5, u "<init>"), (0, u "()V"), (1, .class_ 10), (1, u "java/lang/Object")] 113

def k0c0 : Code := { maxStack := 0, maxLocals := 1, code := object_method_1_code, exceptionTable := #[], attributes := #[] }
def k0m0 : Method := { name := "<init>", desc := "()V", sig := { parameters := [], returnType := none }, accessFlags := 1, code := some k0c0 }
/-- java/lang/Object -/
def k0 : Class := { plain "java/lang/Object" none with
  accessFlags := 33
  interfaces := #[]
  cf := some (fileOf pool0 8 #[] #[{ accessFlags := 1, nameIndex := 5, descriptorIndex := 6, attributes := #[] }] 33 0 #[] #[])
  fields := #[]
  methods := #[k0m0]
  instanceTypes := #[]
  staticTypes := #[]
  resolved := Array.replicate 124 none
  statics := none }

def pool1 : Array CpInfo := pool [(2, .class_ 4), (0, .nameAndType 5 6), (0, u "java/lang/Object"), (0, u "<init>"), (0, u "()V"), (0, .class_ 8), (0, u "com/example/wending/wending/search/PairRuns"), (0, .methodref 7 3), (0, .methodref 7 11), (0, .nameAndType 12 13), (0, u "add"), (0, u "(I)I"), (0, .integer 2147483647), (0, .methodref 7 16), (0, .nameAndType 17 18), (0, u "set"), (0, u "(IIIJ)V"), (0, .methodref 7 20), (0, .nameAndType 21 22), (0, u "node"), (0, u "(II)I"), (0, .methodref 7 24), (0, .nameAndType 25 26), (0, u "distance"), (0, u "(II)J"), (0, .class_ 28), (0, u "com/example/wending/wending/search/PairRunsSetPinLaw"), (2, u "law"), (0, u "(IIIIIJ)Z")] 3

def k1m0 : Method := { name := "<init>", desc := "()V", sig := { parameters := [], returnType := none }, accessFlags := 1, code := none }
def k1c1 : Code := { maxStack := 6, maxLocals := 24, code := code, exceptionTable := #[], attributes := #[] }
def k1m1 : Method := { name := "law", desc := "(IIIIIJ)Z", sig := { parameters := [.int, .int, .int, .int, .int, .long], returnType := some .boolean }, accessFlags := 9, code := some k1c1 }
/-- com/example/wending/wending/search/PairRunsSetPinLaw -/
def k1 : Class := { plain "com/example/wending/wending/search/PairRunsSetPinLaw" (some 0) with
  accessFlags := 49
  interfaces := #[]
  cf := some (fileOf pool1 27 #[] #[{ accessFlags := 1, nameIndex := 5, descriptorIndex := 6, attributes := #[] }, { accessFlags := 9, nameIndex := 31, descriptorIndex := 32, attributes := #[] }] 49 2 #[] #[])
  fields := #[]
  methods := #[k1m0, k1m1]
  instanceTypes := #[]
  staticTypes := #[]
  resolved := Array.replicate 36 none
  statics := none }

def pool2 : Array CpInfo := pool [(1, .class_ 2), (0, u "com/example/wending/wending/search/PairRuns"), (0, .methodref 4 5), (0, .class_ 6), (0, .nameAndType 7 8), (0, u "java/lang/Object"), (0, u "<init>"), (0, u "()V"), (0, .class_ 10), (0, u "[I"), (0, .fieldref 1 12), (0, .nameAndType 13 14), (0, u "nodes"), (0, u "[[I"), (0, .class_ 16), (0, u "[J"), (0, .fieldref 1 18), (0, .nameAndType 19 20), (0, u "distances"), (0, u "[[J"), (0, .fieldref 1 22), (0, .nameAndType 23 24), (0, u "free"), (0, u "I"), (0, .fieldref 1 26), (0, .nameAndType 27 24), (0, u "chunks"), (8, .methodref 37 38), (0, .class_ 39), (0, .nameAndType 40 41), (0, u "java/lang/Math"), (0, u "max"), (0, u "(II)I"), (0, u "CHUNK_ORDER"), (2, u "CHUNK"), (3, u "add"), (0, u "(I)I"), (1, u "node"), (0, u "distance"), (0, u "(II)J"), (0, u "set"), (0, u "(IIIJ)V")] 2

def k2c0 : Code := { maxStack := 2, maxLocals := 1, code := prog_70_method_1_code, exceptionTable := #[], attributes := #[] }
def k2m0 : Method := { name := "<init>", desc := "()V", sig := { parameters := [], returnType := none }, accessFlags := 0, code := some k2c0 }
def k2c1 : Code := { maxStack := 4, maxLocals := 3, code := prog_70_method_2_code, exceptionTable := #[], attributes := #[] }
def k2m1 : Method := { name := "add", desc := "(I)I", sig := { parameters := [.int], returnType := some .int }, accessFlags := 0, code := some k2c1 }
def k2c2 : Code := { maxStack := 3, maxLocals := 3, code := prog_70_method_3_code, exceptionTable := #[], attributes := #[] }
def k2m2 : Method := { name := "node", desc := "(II)I", sig := { parameters := [.int, .int], returnType := some .int }, accessFlags := 0, code := some k2c2 }
def k2c3 : Code := { maxStack := 3, maxLocals := 3, code := prog_70_method_4_code, exceptionTable := #[], attributes := #[] }
def k2m3 : Method := { name := "distance", desc := "(II)J", sig := { parameters := [.int, .int], returnType := some .long }, accessFlags := 0, code := some k2c3 }
def k2c4 : Code := { maxStack := 4, maxLocals := 6, code := prog_70_method_5_code, exceptionTable := #[], attributes := #[] }
def k2m4 : Method := { name := "set", desc := "(IIIJ)V", sig := { parameters := [.int, .int, .int, .long], returnType := none }, accessFlags := 0, code := some k2c4 }
/-- com/example/wending/wending/search/PairRuns -/
def k2 : Class := { plain "com/example/wending/wending/search/PairRuns" (some 0) with
  accessFlags := 48
  interfaces := #[]
  cf := some (fileOf pool2 1 #[] #[{ accessFlags := 0, nameIndex := 7, descriptorIndex := 8, attributes := #[] }, { accessFlags := 0, nameIndex := 49, descriptorIndex := 50, attributes := #[] }, { accessFlags := 0, nameIndex := 52, descriptorIndex := 41, attributes := #[] }, { accessFlags := 0, nameIndex := 53, descriptorIndex := 54, attributes := #[] }, { accessFlags := 0, nameIndex := 55, descriptorIndex := 56, attributes := #[] }] 48 4 #[] #[{ accessFlags := 26, nameIndex := 42, descriptorIndex := 24, attributes := #[] }, { accessFlags := 26, nameIndex := 45, descriptorIndex := 24, attributes := #[] }, { accessFlags := 2, nameIndex := 13, descriptorIndex := 14, attributes := #[] }, { accessFlags := 2, nameIndex := 19, descriptorIndex := 20, attributes := #[] }, { accessFlags := 2, nameIndex := 27, descriptorIndex := 24, attributes := #[] }, { accessFlags := 2, nameIndex := 23, descriptorIndex := 24, attributes := #[] }])
  fields := #[{ name := "CHUNK_ORDER", type := .int, accessFlags := 26, slot := 0, constantValue := 0 }, { name := "CHUNK", type := .int, accessFlags := 26, slot := 1, constantValue := 0 }, { name := "nodes", type := (.array (.array .int)), accessFlags := 2, slot := 0, constantValue := 0 }, { name := "distances", type := (.array (.array .long)), accessFlags := 2, slot := 1, constantValue := 0 }, { name := "chunks", type := .int, accessFlags := 2, slot := 2, constantValue := 0 }, { name := "free", type := .int, accessFlags := 2, slot := 3, constantValue := 0 }]
  methods := #[k2m0, k2m1, k2m2, k2m3, k2m4]
  instanceTypes := #[(.array (.array .int)), (.array (.array .long)), .int, .int]
  staticTypes := #[.int, .int]
  resolved := Array.replicate 59 none
  statics := none }

def pool3 : Array CpInfo := pool [(1, .class_ 2), (0, u "java/lang/Math"), (1, .class_ 6), (1, u "java/lang/Object"), (0, u "<init>"), (0, u "()V"), (89, .class_ 100), (1, u "java/lang/Math$RandomNumberGeneratorHolder"), (71, u "negativeZeroFloatBits"), (0, u "J"), (2, u "negativeZeroDoubleBits"), (21, u "max"), (46, u "$assertionsDisabled"), (0, u "Z"), (88, u "(II)I"), (2, u "twoToTheDoubleScaleDown"), (0, u "D"), (4, u "twoToTheDoubleScaleUp"), (9, u "E"), (3, u "PI"), (2, u "TAU"), (2, u "DEGREES_TO_RADIANS"), (0, u "RADIANS_TO_DEGREES")] 94

def k3m0 : Method := { name := "<init>", desc := "()V", sig := { parameters := [], returnType := none }, accessFlags := 2, code := none }
def k3c1 : Code := { maxStack := 2, maxLocals := 2, code := jdk_29_method_65_code, exceptionTable := #[], attributes := #[] }
def k3m1 : Method := { name := "max", desc := "(II)I", sig := { parameters := [.int, .int], returnType := some .int }, accessFlags := 9, code := some k3c1 }
/-- java/lang/Math -/
def k3 : Class := { plain "java/lang/Math" (some 0) with
  accessFlags := 49
  interfaces := #[]
  cf := some (fileOf pool3 1 #[.nestMembers #[98]] #[{ accessFlags := 2, nameIndex := 7, descriptorIndex := 8, attributes := #[] }, { accessFlags := 9, nameIndex := 198, descriptorIndex := 335, attributes := #[] }] 49 4 #[] #[{ accessFlags := 25, nameIndex := 354, descriptorIndex := 339, attributes := #[] }, { accessFlags := 25, nameIndex := 358, descriptorIndex := 339, attributes := #[] }, { accessFlags := 25, nameIndex := 361, descriptorIndex := 339, attributes := #[] }, { accessFlags := 26, nameIndex := 364, descriptorIndex := 339, attributes := #[] }, { accessFlags := 26, nameIndex := 365, descriptorIndex := 339, attributes := #[] }, { accessFlags := 26, nameIndex := 172, descriptorIndex := 173, attributes := #[] }, { accessFlags := 26, nameIndex := 176, descriptorIndex := 173, attributes := #[] }, { accessFlags := 8, nameIndex := 344, descriptorIndex := 339, attributes := #[] }, { accessFlags := 8, nameIndex := 338, descriptorIndex := 339, attributes := #[] }, { accessFlags := 4120, nameIndex := 245, descriptorIndex := 246, attributes := #[] }])
  fields := #[{ name := "E", type := .double, accessFlags := 25, slot := 0, constantValue := 0 }, { name := "PI", type := .double, accessFlags := 25, slot := 1, constantValue := 0 }, { name := "TAU", type := .double, accessFlags := 25, slot := 2, constantValue := 0 }, { name := "DEGREES_TO_RADIANS", type := .double, accessFlags := 26, slot := 3, constantValue := 0 }, { name := "RADIANS_TO_DEGREES", type := .double, accessFlags := 26, slot := 4, constantValue := 0 }, { name := "negativeZeroFloatBits", type := .long, accessFlags := 26, slot := 5, constantValue := 0 }, { name := "negativeZeroDoubleBits", type := .long, accessFlags := 26, slot := 6, constantValue := 0 }, { name := "twoToTheDoubleScaleUp", type := .double, accessFlags := 8, slot := 7, constantValue := 0 }, { name := "twoToTheDoubleScaleDown", type := .double, accessFlags := 8, slot := 8, constantValue := 0 }, { name := "$assertionsDisabled", type := .boolean, accessFlags := 4120, slot := 9, constantValue := 0 }]
  methods := #[k3m0, k3m1]
  instanceTypes := #[]
  staticTypes := #[.double, .double, .double, .double, .double, .long, .long, .double, .double, .boolean]
  resolved := Array.replicate 460 none
  statics := none }

def pool4 : Array CpInfo := pool [(1, u "java/lang/Cloneable"), (0, .class_ 1), (0, u "java/lang/Object"), (0, .class_ 3)] 3

/-- java/lang/Cloneable -/
def k4 : Class := { plain "java/lang/Cloneable" (some 0) with
  accessFlags := 1537
  interfaces := #[]
  cf := some (fileOf pool4 2 #[] #[] 1537 4 #[] #[])
  fields := #[]
  methods := #[]
  instanceTypes := #[]
  staticTypes := #[]
  resolved := Array.replicate 8 none
  statics := none }

def pool5 : Array CpInfo := pool [(1, u "java/io/Serializable"), (0, .class_ 1), (0, u "java/lang/Object"), (0, .class_ 3)] 3

/-- java/io/Serializable -/
def k5 : Class := { plain "java/io/Serializable" (some 0) with
  accessFlags := 1537
  interfaces := #[]
  cf := some (fileOf pool5 2 #[] #[] 1537 4 #[] #[])
  fields := #[]
  methods := #[]
  instanceTypes := #[]
  staticTypes := #[]
  resolved := Array.replicate 8 none
  statics := none }

/-- the primitive byte -/
def k6 : Class := { plain "byte" none with kind := .primitive 'B', accessFlags := 0x411 }
/-- [B -/
def k7 : Class := { plain "[B" (some 0) with kind := .array 6 .byte, interfaces := #[4, 5], accessFlags := 1041 }

/-- the primitive int -/
def k8 : Class := { plain "int" none with kind := .primitive 'I', accessFlags := 0x411 }
/-- [I -/
def k9 : Class := { plain "[I" (some 0) with kind := .array 8 .int, interfaces := #[4, 5], accessFlags := 1041 }

/-- the primitive long -/
def k10 : Class := { plain "long" none with kind := .primitive 'J', accessFlags := 0x411 }
/-- [J -/
def k11 : Class := { plain "[J" (some 0) with kind := .array 10 .long, interfaces := #[4, 5], accessFlags := 1041 }

/-- [[I -/
def k12 : Class := { plain "[[I" (some 0) with kind := .array 9 (.array .int), interfaces := #[4, 5], accessFlags := 1041 }

/-- [[J -/
def k13 : Class := { plain "[[J" (some 0) with kind := .array 11 (.array .long), interfaces := #[4, 5], accessFlags := 1041 }

def heap : Heap := #[]
def classes : Array Class := #[k0, k1, k2, k3, k4, k5, k6, k7, k8, k9, k10, k11, k12, k13]
def interned : List (Array UInt16 × Addr) := []
def slotsUsed : Nat := 0
def theMethod : MethodId := ⟨1, 1⟩
def args0 : Array Value := #[.int 7, .int 1, .int 2, .int 3, .int 4, .long 5]
def aboutOver (below : List Frame) : State where
  vm := { classes := classes, interned := interned.toArray }
  heap := heap
  slotsUsed := slotsUsed
  threads := #[{ frames := .invoking theMethod args0 :: below }]
def below0 : List Frame := [.native { method := ⟨0, 0⟩, args := #[] }]
def about1 : State := aboutOver below0
def p0 : Program := .bare "" "" ""
def e0 : Env := launch0.env 0 0 0
theorem w_frames : about1.frames = Frame.invoking theMethod args0 :: below0 := rfl
set_option maxRecDepth 65536 in
theorem w_args : argsFit about1.vm theMethod args0 = true := by decide +kernel
set_option maxRecDepth 65536 in
theorem w_heap : heapFits about1 = true := by decide +kernel
set_option maxRecDepth 65536 in
theorem w_runnable : about1.curStatus? = some .runnable := by decide +kernel
set_option maxRecDepth 65536 in
theorem w_alone : about1.alone = true := by decide +kernel
set_option maxRecDepth 65536 in
theorem w_named : about1.methodNamed? x = some theMethod := by decide +kernel
set_option maxRecDepth 65536 in
theorem w_hears : about1.hears theMethod below0 = true := by decide +kernel
set_option maxRecDepth 65536 in
theorem w_ripe : about1.ripe theMethod args0 below0 = true := by decide +kernel
theorem w_running : about1.status = .running := rfl
set_option maxRecDepth 65536 in
theorem w_room : about1.hasRoom e0.platform room_1 = true :=
  launch0.hasRoom_least _ room_1 (by decide +kernel) (by decide +kernel) (by decide +kernel) (by decide +kernel) (by decide +kernel) (by decide +kernel)
theorem allAtoms_all (ts : List Jvm.Cond) (a : Array Jvm.Value) (st : Jvm.State) : (allAtoms ts).before a st = ts.all (fun c => c.before a st) := by
  induction ts with
  | nil => rfl
  | cons c t ih =>
    show (Jvm.Cond.and c (allAtoms t)).before a st = _
    rw [Jvm.Cond.before_and, ih, List.all_cons]
def words1 : List Jvm.Cond := Jvm.Cond.code x code maxLocals ret :: tables_1
/-- a 'code' word, met by the world's own term for the bytes: nothing is compared byte by byte -/
theorem code_word {y : MethodName} {bytes : ByteArray} {mx : Nat} {rt : Option FieldType} {a : Array Value} {s : State} {m : MethodId} {meth : Method} {c : Code} (h1 : s.methodNamed? y = some m) (h2 : s.vm.method? m = some meth) (h3 : meth.code = some c) (h4 : c.code = bytes)
    (h5 : (c.maxLocals == mx && c.exceptionTable.isEmpty && decide (c.maxStack ≤ mostOperands) && decide (meth.sig.returnType = rt) && !meth.locks && decide (parseMethodDescriptor y.desc = some meth.sig)) = true) : (Jvm.Cond.code y bytes mx rt).before a s = true := by
  simp only [Bool.and_eq_true, beq_iff_eq, Bool.not_eq_true', decide_eq_true_eq] at h5
  obtain ⟨⟨⟨⟨⟨g1, g2⟩, g3⟩, g4⟩, g5⟩, g6⟩ := h5
  simp [Cond.before, Cond.holds, Cond.value, h1, h2, h3, h4, g1, g2, g3, g4, g5, g6]
def isCode : Jvm.Cond → Bool
  | .code _ _ _ _ => true
  | _ => false
theorem all_split {L : List Jvm.Cond} {P : Jvm.Cond → Bool} (h1 : L.all (fun c => isCode c || P c) = true) (h2 : ∀ c ∈ L.filter isCode, P c = true) : L.all P = true := by
  refine List.all_eq_true.mpr fun c hc => ?_
  have h := List.all_eq_true.mp h1 c hc
  rcases Bool.eq_false_or_eq_true (isCode c) with hi | hi
  · exact h2 c (List.mem_filter.mpr ⟨hc, hi⟩)
  · simpa [hi] using h
set_option maxRecDepth 65536 in
theorem w_c0 : (Jvm.Cond.code x code maxLocals ret).before args0 about1 = true := code_word (m := ⟨1, 1⟩) (meth := k1m1) (c := k1c1) (by decide +kernel) rfl rfl rfl (by decide +kernel)
set_option maxRecDepth 65536 in
theorem w_c1 : (Jvm.Cond.code ({ cls := "com/example/wending/wending/search/PairRuns", name := "<init>", desc := "()V" } : Jvm.MethodName) prog_70_method_1_code (1 : Nat) (Option.none : Option Jvm.ClassFile.FieldType)).before args0 about1 = true := code_word (m := ⟨2, 0⟩) (meth := k2m0) (c := k2c0) (by decide +kernel) rfl rfl rfl (by decide +kernel)
set_option maxRecDepth 65536 in
theorem w_c2 : (Jvm.Cond.code ({ cls := "java/lang/Object", name := "<init>", desc := "()V" } : Jvm.MethodName) object_method_1_code (1 : Nat) (Option.none : Option Jvm.ClassFile.FieldType)).before args0 about1 = true := code_word (m := ⟨0, 0⟩) (meth := k0m0) (c := k0c0) (by decide +kernel) rfl rfl rfl (by decide +kernel)
set_option maxRecDepth 65536 in
theorem w_c3 : (Jvm.Cond.code ({ cls := "com/example/wending/wending/search/PairRuns", name := "add", desc := "(I)I" } : Jvm.MethodName) prog_70_method_2_code (3 : Nat) (Option.some Jvm.ClassFile.FieldType.int)).before args0 about1 = true := code_word (m := ⟨2, 1⟩) (meth := k2m1) (c := k2c1) (by decide +kernel) rfl rfl rfl (by decide +kernel)
set_option maxRecDepth 65536 in
theorem w_c4 : (Jvm.Cond.code ({ cls := "java/lang/Math", name := "max", desc := "(II)I" } : Jvm.MethodName) jdk_29_method_65_code (2 : Nat) (Option.some Jvm.ClassFile.FieldType.int)).before args0 about1 = true := code_word (m := ⟨3, 1⟩) (meth := k3m1) (c := k3c1) (by decide +kernel) rfl rfl rfl (by decide +kernel)
set_option maxRecDepth 65536 in
theorem w_c5 : (Jvm.Cond.code ({ cls := "com/example/wending/wending/search/PairRuns", name := "set", desc := "(IIIJ)V" } : Jvm.MethodName) prog_70_method_5_code (6 : Nat) (Option.none : Option Jvm.ClassFile.FieldType)).before args0 about1 = true := code_word (m := ⟨2, 4⟩) (meth := k2m4) (c := k2c4) (by decide +kernel) rfl rfl rfl (by decide +kernel)
set_option maxRecDepth 65536 in
theorem w_c6 : (Jvm.Cond.code ({ cls := "com/example/wending/wending/search/PairRuns", name := "node", desc := "(II)I" } : Jvm.MethodName) prog_70_method_3_code (3 : Nat) (Option.some Jvm.ClassFile.FieldType.int)).before args0 about1 = true := code_word (m := ⟨2, 2⟩) (meth := k2m2) (c := k2c2) (by decide +kernel) rfl rfl rfl (by decide +kernel)
set_option maxRecDepth 65536 in
theorem w_c7 : (Jvm.Cond.code ({ cls := "com/example/wending/wending/search/PairRuns", name := "distance", desc := "(II)J" } : Jvm.MethodName) prog_70_method_4_code (3 : Nat) (Option.some Jvm.ClassFile.FieldType.long)).before args0 about1 = true := code_word (m := ⟨2, 3⟩) (meth := k2m3) (c := k2c3) (by decide +kernel) rfl rfl rfl (by decide +kernel)
def codes1 : List Jvm.Cond := [Jvm.Cond.code x code maxLocals ret, Jvm.Cond.code ({ cls := "com/example/wending/wending/search/PairRuns", name := "<init>", desc := "()V" } : Jvm.MethodName) prog_70_method_1_code (1 : Nat) (Option.none : Option Jvm.ClassFile.FieldType), Jvm.Cond.code ({ cls := "java/lang/Object", name := "<init>", desc := "()V" } : Jvm.MethodName) object_method_1_code (1 : Nat) (Option.none : Option Jvm.ClassFile.FieldType), Jvm.Cond.code ({ cls := "com/example/wending/wending/search/PairRuns", name := "add", desc := "(I)I" } : Jvm.MethodName) prog_70_method_2_code (3 : Nat) (Option.some Jvm.ClassFile.FieldType.int), Jvm.Cond.code ({ cls := "java/lang/Math", name := "max", desc := "(II)I" } : Jvm.MethodName) jdk_29_method_65_code (2 : Nat) (Option.some Jvm.ClassFile.FieldType.int), Jvm.Cond.code ({ cls := "com/example/wending/wending/search/PairRuns", name := "set", desc := "(IIIJ)V" } : Jvm.MethodName) prog_70_method_5_code (6 : Nat) (Option.none : Option Jvm.ClassFile.FieldType), Jvm.Cond.code ({ cls := "com/example/wending/wending/search/PairRuns", name := "node", desc := "(II)I" } : Jvm.MethodName) prog_70_method_3_code (3 : Nat) (Option.some Jvm.ClassFile.FieldType.int), Jvm.Cond.code ({ cls := "com/example/wending/wending/search/PairRuns", name := "distance", desc := "(II)J" } : Jvm.MethodName) prog_70_method_4_code (3 : Nat) (Option.some Jvm.ClassFile.FieldType.long)]
set_option maxRecDepth 65536 in
theorem codes_eq : words1.filter isCode = codes1 := rfl
theorem w_codes : ∀ c ∈ words1.filter isCode, c.before args0 about1 = true := by
  rw [codes_eq]
  intro c hc
  simp only [codes1, List.mem_cons, List.not_mem_nil, or_false] at hc
  rcases hc with rfl | rfl | rfl | rfl | rfl | rfl | rfl | rfl
  · exact w_c0
  · exact w_c1
  · exact w_c2
  · exact w_c3
  · exact w_c4
  · exact w_c5
  · exact w_c6
  · exact w_c7
set_option maxRecDepth 65536 in
theorem w_t1 : (words1.take 24).all (fun c => isCode c || c.before args0 about1) = true := by decide +kernel
set_option maxRecDepth 65536 in
theorem w_t2 : ((words1.drop 24).take 24).all (fun c => isCode c || c.before args0 about1) = true := by decide +kernel
set_option maxRecDepth 65536 in
theorem w_t3 : ((words1.drop 24).drop 24).all (fun c => isCode c || c.before args0 about1) = true := by decide +kernel
theorem w_tables : (allAtoms (Jvm.Cond.code x code maxLocals ret :: tables_1)).before args0 about1 = true := by
  rw [allAtoms_all]
  show words1.all (fun c => c.before args0 about1) = true
  refine all_split ?_ w_codes
  rw [← List.take_append_drop 24 words1, List.all_append, w_t1, ← List.take_append_drop 24 (words1.drop 24), List.all_append, w_t2, w_t3]
  rfl
set_option maxRecDepth 65536 in
theorem w_case : (Jvm.Cond.and given_1 narrow_1).before args0 about1 = true := by decide +kernel
theorem w_applies : (headSpec (Jvm.Cond.code x code maxLocals ret :: tables_1) room_1).applies x e0.platform about1 = true :=
  (Spec.applies_iff w_frames).mpr ⟨w_running, w_runnable, w_alone, w_named, w_hears, w_ripe, w_room, w_tables⟩
theorem atStart : AtStart classFile x code maxLocals ret World_1 tables_1 room_1 Calls_1 rest_1 Pre_1 launch0 p0 e0 about1 theMethod args0 below0 :=
  ⟨lists_1, trivial, launch0.admits_env _ _ _, launch0.least_env, fairChoices_fair.cas, fairChoices_fair.clock, w_frames, w_args, w_heap, w_applies, trivial, trivial, w_case⟩
end start1
theorem witness_1 : WitnessClaimed_1 := ⟨start1.p0, start1.e0, start1.about1, start1.theMethod, start1.args0, start1.below0, start1.atStart⟩
end Jvm.Pilot.@@N@@
