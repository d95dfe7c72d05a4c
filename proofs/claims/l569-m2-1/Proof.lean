import JvmDerived
import JvmDerived.Pilot.@@N@@Statement
import JvmDerived.Pilot.@@N@@Code
set_option linter.unusedVariables false
set_option linter.unusedSimpArgs false
namespace Jvm.OwnK
open Sem ClassFile Op Lib Jvm.Stand Jvm.Free Jvm.LawKit Jvm.RoadKit
section A
variable {p : Program} {l : Launch} {e : Env} {R : Room} {s : State} {m : MethodId} {args : Array Value} {below : List Frame} {meth : Method} {c : Code} {T : State} {Z : State} {a0 : Array Value} {h : Heap} {n0 kc ks fc fs : Nat} {Q : Option Value → Heap → Prop} {y : MethodName} {bytes : ByteArray} {maxL : Nat} {ret : Option FieldType}
/-- where the walk stands -/
def Sd (Z : State) (y : MethodName) (bytes : ByteArray) (maxL : Nat) (ret : Option FieldType) (p : Program) (l : Launch) (e : Env) (R : Room) (s : State) (m : MethodId) (args : Array Value) (below : List Frame) (meth : Method) (c : Code) (n0 : Nat) (h : Heap) (kc ks : Nat) (T : State) : Prop :=
  (p.tables.exec = Jvm.exec ∧ Z.Warmed39 s.vm ∧ c.code = bytes ∧ c.maxLocals = maxL ∧ meth.sig.returnType = ret ∧ meth.locks = false ∧ s.vm.findClass y.cls = some m.cls ∧ meth.name = y.name) ∧
  ∃ locs cells slots, Stand p l e R s m args below meth c T locs cells slots ∧ T.heap = h ∧ Fr n0 locs ∧ cells ≤ kc ∧ slots ≤ ks
/-- from t on the walk ends as Q says -/
def Run (p : Program) (e : Env) (below : List Frame) (s : State) (n0 fc fs : Nat) (Q : Option Value → Heap → Prop) (t : State) : Prop :=
  ∃ s₂ o, Steps p.tables e below t s₂ ∧ s₂.status = .running ∧ Ended s₂ below o ∧ ∃ v L, o = .returned v ∧ Q v s₂.heap ∧ Fr n0 L ∧ FrameEnd s o s₂ L fc fs
def Ctr (l : Launch) (Z : State) (y : MethodName) (bytes : ByteArray) (maxL : Nat) (ret : Option FieldType) (ws : List Cond) (rm : Room) (n0 : Nat) (as : Array Value) (h : Heap) (Q : Option Value → Heap → Prop) : Prop :=
  MetFree l y (head1 (Cond.code y bytes maxL ret :: ws) rm) (fun a U => a = as ∧ Z.Warmed39 U.vm ∧ U.heap = h) (fun _ _ _ _ _ => True) (fun _ U o U' => ∃ v L, o = .returned v ∧ (Q v U'.heap ∧ Fr n0 L) ∧ FrameEnd U o U' L rm.cells rm.slots)
/-- a value comes back -/
def Rt (Qv : Value → Heap → Prop) : Option Value → Heap → Prop := fun v h => ∃ w, v = some w ∧ Qv w h
/-- nothing comes back -/
def Rn (Qn : Heap → Prop) : Option Value → Heap → Prop := fun v h => v = none ∧ Qn h
theorem Run.st {t t' : State} (k : Run p e below s n0 fc fs Q t') (f : ∀ z, Steps p.tables e below t' z → Steps p.tables e below t z) : Run p e below s n0 fc fs Q t := by
  obtain ⟨s2, o, h1, r⟩ := k; exact ⟨s2, o, f _ h1, r⟩
theorem Run.mono {Q' : Option Value → Heap → Prop} {t : State} (k : Run p e below s n0 fc fs Q t) (f : ∀ v h, Q v h → Q' v h) : Run p e below s n0 fc fs Q' t := by
  obtain ⟨s2, o, h1, h2, h3, v, L, h4, h5, r⟩ := k; exact ⟨s2, o, h1, h2, h3, v, L, h4, f _ _ h5, r⟩
theorem Sd.hr (X : Sd Z y bytes maxL ret p l e R s m args below meth c n0 h kc ks T) : At T m c below := by obtain ⟨-, _, _, _, Y, -⟩ := X; exact Y.here
theorem Sd.d (X : Sd Z y bytes maxL ret p l e R s m args below meth c n0 h kc ks T) {pc : Nat} {r : Except DecodeError (Instr × Nat)} (q : decode bytes pc = r) : decode c.code pc = r := X.1.2.2.1 ▸ q
theorem Sd.more {kc' ks' : Nat} (X : Sd Z y bytes maxL ret p l e R s m args below meth c n0 h kc ks T) (h1 : kc ≤ kc') (h2 : ks ≤ ks') : Sd Z y bytes maxL ret p l e R s m args below meth c n0 h kc' ks' T := by
  obtain ⟨q, L, a, b, Y, r1, r2, r3, r4⟩ := X; exact ⟨q, L, a, b, Y, r1, r2, Nat.le_trans r3 h1, Nat.le_trans r4 h2⟩
theorem Ctr.of {rm : Room} {ws : List Cond} {as : Array Value} {ls0 : Array Slot} (hn : plainName y.cls = true) (hf : ∀ m, entryFrame m as maxL = mkF m 0 ls0 [])
    (body : ∀ (p : Program) (e : Env) (s : State) (m : MethodId) (below : List Frame) (meth : Method) (c : Code) (T : State), Sd Z y bytes maxL ret p l e rm s m as below meth c n0 h 0 0 T → Run p e below s n0 rm.cells rm.slots Q (T.setTop (mkF m 0 ls0 []))) : Ctr l Z y bytes maxL ret ws rm n0 as h Q := by
  refine MetFree.of_bodySF (plainFor_of_name hn) hisR ?_
  intro p e s m args below meth c s₁ Bd hml0 hP hK
  obtain ⟨rfl, hZ, hh⟩ := hP
  have X0 : Stand p l e rm s m args below meth c s₁ [] 0 0 := Stand.of_body Bd
  have e0 : s₁.heap = h := by rw [← hh, Bd.state]; rfl
  obtain ⟨s2, o, h1, h2, h3, v, L, h4, h5, h6, h7⟩ := body p e s m below meth c s₁ ⟨⟨Bd.exec, hZ, Bd.bytes, hml0, Bd.returns, Bd.notSynchronized, findClass_of_methodNamed Bd.named, (name_of_methodNamed Bd.named Bd.method).1⟩, [], 0, 0, X0, e0, Fr.nil _, Nat.le_refl _, Nat.le_refl _⟩
  exact ⟨s2, o, castTop (hf m) h1, h2, h3, v, L, h4, ⟨h5, h6⟩, h7⟩
theorem leaveQ (X : Sd Z y bytes maxL ret p l e R s m args below meth c n0 h kc ks T) {v : Option Value} (hv : ret = none → v = none) (hq : Q v h) (h1 : kc ≤ fc) (h2 : ks ≤ fs) {t : State}
    (st : ∀ {locs cells slots}, Stand p l e R s m args below meth c T locs cells slots → ∀ {ff : List Frame}, (∀ (f : JFrame) (acts : List Action), f.method = m → f.locked = none → f.entered = [] → (doReturn e (T.setTop f) acts v).1 = T.setFrames ff) → Steps p.tables e below t (T.setFrames ff)) : Run p e below s n0 fc fs Q t := by
  obtain ⟨⟨hx, hZ, hby, hml, hr, hlk, -⟩, L, a, b, Y, r1, r2, r3, r4⟩ := X
  obtain ⟨ff, g1, hrun, hended, hW, hsame⟩ := Y.leave (v := v) (fun q => hv (hr ▸ q)) hlk
  exact ⟨_, _, st Y g1, hrun, hended, v, L, rfl, by show Q v T.heap; rw [r1]; exact hq, r2, ⟨_, rfl⟩, hW, hsame.mono (Nat.le_trans r3 h1) (Nat.le_trans r4 h2)⟩
theorem areturn (X : Sd Z y bytes maxL ret p l e R s m args below meth c n0 h kc ks T) {t : FieldType} (hr : ret = some t) (ht : t.isReference = true) {pc : Nat} {ls : Array Slot} {w : Value} {st : List Value} (hw : w.isRef = true) (hd : decode bytes pc = .ok (.areturn, 1)) {Qv : Value → Heap → Prop} (hq : Qv w h) (h1 : kc ≤ fc) (h2 : ks ≤ fs) : Run p e below s n0 fc fs (Rt Qv) (T.setTop (mkF m pc ls (w :: st))) := by
  subst hr
  have hn : narrow t w = w := by cases w <;> cases t <;> first | rfl | exact absurd hw Bool.noConfusion | exact absurd ht Bool.noConfusion
  exact leaveQ X (v := some w) (fun q => by cases q) ⟨w, rfl, hq⟩ h1 h2 fun Y _ g => retOut Y X.1.1 X.1.2.2.2.2.1 hn (Or.inr (Or.inr (Or.inr (Or.inr ⟨rfl, ht, hw⟩)))) (X.d hd) g
theorem ireturn (X : Sd Z y bytes maxL ret p l e R s m args below meth c n0 h kc ks T) {t : FieldType} (hr : ret = some t) (ht : t = .int ∨ t = .boolean ∨ t = .byte ∨ t = .char ∨ t = .short) {pc : Nat} {ls : Array Slot} {z : Int32} {st : List Value} (hn : narrow t (.int z) = .int z) (hd : decode bytes pc = .ok (.ireturn, 1)) {Qv : Value → Heap → Prop} (hq : Qv (.int z) h) (h1 : kc ≤ fc) (h2 : ks ≤ fs) : Run p e below s n0 fc fs (Rt Qv) (T.setTop (mkF m pc ls (.int z :: st))) := by
  subst hr
  exact leaveQ X (v := some (.int z)) (fun q => by cases q) ⟨_, rfl, hq⟩ h1 h2 fun Y _ g => retOut Y X.1.1 X.1.2.2.2.2.1 hn (Or.inl ⟨rfl, ht, z, rfl⟩) (X.d hd) g
theorem lreturn (X : Sd Z y bytes maxL ret p l e R s m args below meth c n0 h kc ks T) (hr : ret = some .long) {pc : Nat} {ls : Array Slot} {z : Int64} {st : List Value} (hd : decode bytes pc = .ok (.lreturn, 1)) {Qv : Value → Heap → Prop} (hq : Qv (.long z) h) (h1 : kc ≤ fc) (h2 : ks ≤ fs) : Run p e below s n0 fc fs (Rt Qv) (T.setTop (mkF m pc ls (.long z :: st))) := by
  subst hr
  exact leaveQ X (v := some (.long z)) (fun q => by cases q) ⟨_, rfl, hq⟩ h1 h2 fun Y _ g => retOut Y X.1.1 X.1.2.2.2.2.1 rfl (Or.inr (Or.inl ⟨rfl, rfl, z, rfl⟩)) (X.d hd) g
theorem vreturn (X : Sd Z y bytes maxL ret p l e R s m args below meth c n0 h kc ks T) (hr : ret = none) {pc : Nat} {ls : Array Slot} (hd : decode bytes pc = .ok (.return_, 1)) {Qn : Heap → Prop} (hq : Qn h) (h1 : kc ≤ fc) (h2 : ks ≤ fs) : Run p e below s n0 fc fs (Rn Qn) (T.setTop (mkF m pc ls [])) := by
  subst hr
  exact leaveQ X (v := none) (fun _ => rfl) ⟨rfl, hq⟩ h1 h2 fun Y _ g => Y.returnOut X.1.1 X.1.2.2.2.2.1 (X.d hd) g
theorem narB {b : Bool} : narrow .boolean (.int (if b then 1 else 0)) = .int (if b then 1 else 0) := by cases b <;> rfl

theorem iloadN (X : Sd Z y bytes maxL ret p l e R s m args below meth c n0 h kc ks T) {pc n : Nat} {ls : Array Slot} {st : List Value} {k : Fin 4} {v : Int32} (hd : decode bytes pc = .ok (.iload_n k, 1)) (hl : ls[k.val]? = some (.val (.int v))) (hn : pc + 1 = n) (K : Run p e below s n0 fc fs Q (T.setTop (mkF m n ls (.int v :: st)))) : Run p e below s n0 fc fs Q (T.setTop (mkF m pc ls st)) := by
  subst hn; exact K.st fun _ k => XS.iloadN X.hr X.1.1 rfl (X.d hd) hl k
theorem iload (X : Sd Z y bytes maxL ret p l e R s m args below meth c n0 h kc ks T) {pc n : Nat} {ls : Array Slot} {st : List Value} {j : Nat} {v : Int32} (hd : decode bytes pc = .ok (.iload j, 2)) (hl : ls[j]? = some (.val (.int v))) (hn : pc + 2 = n) (K : Run p e below s n0 fc fs Q (T.setTop (mkF m n ls (.int v :: st)))) : Run p e below s n0 fc fs Q (T.setTop (mkF m pc ls st)) := by
  subst hn; exact K.st fun _ k => XS.iload X.hr X.1.1 rfl (X.d hd) hl k
theorem istoreN (X : Sd Z y bytes maxL ret p l e R s m args below meth c n0 h kc ks T) {pc n : Nat} {ls : Array Slot} {st : List Value} {k : Fin 4} {v : Int32} {l' : Array Slot} (hd : decode bytes pc = .ok (.istore_n k, 1)) (hl : storeLocals ls k.val (.int v) = some l') (hn : pc + 1 = n) (K : Run p e below s n0 fc fs Q (T.setTop (mkF m n l' st))) : Run p e below s n0 fc fs Q (T.setTop (mkF m pc ls (.int v :: st))) := by
  subst hn; exact K.st fun _ k => XS.istoreN X.hr X.1.1 rfl (X.d hd) rfl hl k
theorem istore (X : Sd Z y bytes maxL ret p l e R s m args below meth c n0 h kc ks T) {pc n : Nat} {ls : Array Slot} {st : List Value} {j : Nat} {v : Int32} {l' : Array Slot} (hd : decode bytes pc = .ok (.istore j, 2)) (hl : storeLocals ls j (.int v) = some l') (hn : pc + 2 = n) (K : Run p e below s n0 fc fs Q (T.setTop (mkF m n l' st))) : Run p e below s n0 fc fs Q (T.setTop (mkF m pc ls (.int v :: st))) := by
  subst hn; exact K.st fun _ k => XS.istore X.hr X.1.1 rfl (X.d hd) rfl hl k
theorem lloadN (X : Sd Z y bytes maxL ret p l e R s m args below meth c n0 h kc ks T) {pc n : Nat} {ls : Array Slot} {st : List Value} {k : Fin 4} {v : Int64} (hd : decode bytes pc = .ok (.lload_n k, 1)) (hl : ls[k.val]? = some (.val (.long v))) (hn : pc + 1 = n) (K : Run p e below s n0 fc fs Q (T.setTop (mkF m n ls (.long v :: st)))) : Run p e below s n0 fc fs Q (T.setTop (mkF m pc ls st)) := by
  subst hn; exact K.st fun _ k => XS.lloadN X.hr X.1.1 rfl (X.d hd) hl k
theorem lload (X : Sd Z y bytes maxL ret p l e R s m args below meth c n0 h kc ks T) {pc n : Nat} {ls : Array Slot} {st : List Value} {j : Nat} {v : Int64} (hd : decode bytes pc = .ok (.lload j, 2)) (hl : ls[j]? = some (.val (.long v))) (hn : pc + 2 = n) (K : Run p e below s n0 fc fs Q (T.setTop (mkF m n ls (.long v :: st)))) : Run p e below s n0 fc fs Q (T.setTop (mkF m pc ls st)) := by
  subst hn; exact K.st fun _ k => XS.lload X.hr X.1.1 rfl (X.d hd) hl k
theorem lstoreN (X : Sd Z y bytes maxL ret p l e R s m args below meth c n0 h kc ks T) {pc n : Nat} {ls : Array Slot} {st : List Value} {k : Fin 4} {v : Int64} {l' : Array Slot} (hd : decode bytes pc = .ok (.lstore_n k, 1)) (hl : storeLocals ls k.val (.long v) = some l') (hn : pc + 1 = n) (K : Run p e below s n0 fc fs Q (T.setTop (mkF m n l' st))) : Run p e below s n0 fc fs Q (T.setTop (mkF m pc ls (.long v :: st))) := by
  subst hn; exact K.st fun _ k => XS.lstoreN X.hr X.1.1 rfl (X.d hd) rfl hl k
theorem lstore (X : Sd Z y bytes maxL ret p l e R s m args below meth c n0 h kc ks T) {pc n : Nat} {ls : Array Slot} {st : List Value} {j : Nat} {v : Int64} {l' : Array Slot} (hd : decode bytes pc = .ok (.lstore j, 2)) (hl : storeLocals ls j (.long v) = some l') (hn : pc + 2 = n) (K : Run p e below s n0 fc fs Q (T.setTop (mkF m n l' st))) : Run p e below s n0 fc fs Q (T.setTop (mkF m pc ls (.long v :: st))) := by
  subst hn; exact K.st fun _ k => XS.lstore X.hr X.1.1 rfl (X.d hd) rfl hl k
theorem aloadN (X : Sd Z y bytes maxL ret p l e R s m args below meth c n0 h kc ks T) {pc n : Nat} {ls : Array Slot} {st : List Value} {k : Fin 4} {v : Value} (hd : decode bytes pc = .ok (.aload_n k, 1)) (hl : ls[k.val]? = some (.val v)) (hv : v.isRef = true) (hn : pc + 1 = n) (K : Run p e below s n0 fc fs Q (T.setTop (mkF m n ls (v :: st)))) : Run p e below s n0 fc fs Q (T.setTop (mkF m pc ls st)) := by
  subst hn; exact K.st fun _ k => XS.aloadN X.hr X.1.1 rfl (X.d hd) hl hv k
theorem aload (X : Sd Z y bytes maxL ret p l e R s m args below meth c n0 h kc ks T) {pc n : Nat} {ls : Array Slot} {st : List Value} {j : Nat} {v : Value} (hd : decode bytes pc = .ok (.aload j, 2)) (hl : ls[j]? = some (.val v)) (hv : v.isRef = true) (hn : pc + 2 = n) (K : Run p e below s n0 fc fs Q (T.setTop (mkF m n ls (v :: st)))) : Run p e below s n0 fc fs Q (T.setTop (mkF m pc ls st)) := by
  subst hn; exact K.st fun _ k => XS.aload X.hr X.1.1 rfl (X.d hd) hl hv k
theorem astoreN (X : Sd Z y bytes maxL ret p l e R s m args below meth c n0 h kc ks T) {pc n : Nat} {ls : Array Slot} {st : List Value} {k : Fin 4} {v : Value} {l' : Array Slot} (hd : decode bytes pc = .ok (.astore_n k, 1)) (hv : v.isRef = true) (hl : storeLocals ls k.val v = some l') (hn : pc + 1 = n) (K : Run p e below s n0 fc fs Q (T.setTop (mkF m n l' st))) : Run p e below s n0 fc fs Q (T.setTop (mkF m pc ls (v :: st))) := by
  subst hn; exact K.st fun _ k => XS.astoreN X.hr X.1.1 rfl (X.d hd) rfl hv hl k
theorem astore (X : Sd Z y bytes maxL ret p l e R s m args below meth c n0 h kc ks T) {pc n : Nat} {ls : Array Slot} {st : List Value} {j : Nat} {v : Value} {l' : Array Slot} (hd : decode bytes pc = .ok (.astore j, 2)) (hv : v.isRef = true) (hl : storeLocals ls j v = some l') (hn : pc + 2 = n) (K : Run p e below s n0 fc fs Q (T.setTop (mkF m n l' st))) : Run p e below s n0 fc fs Q (T.setTop (mkF m pc ls (v :: st))) := by
  subst hn; exact K.st fun _ k => XS.astore X.hr X.1.1 rfl (X.d hd) rfl hv hl k
theorem iconst (X : Sd Z y bytes maxL ret p l e R s m args below meth c n0 h kc ks T) {pc n : Nat} {ls : Array Slot} {st : List Value} {i : Int} {z : Int32} (hd : decode bytes pc = .ok (.iconst i, 1)) (hz : Int32.ofInt i = z) (hn : pc + 1 = n) (K : Run p e below s n0 fc fs Q (T.setTop (mkF m n ls (.int z :: st)))) : Run p e below s n0 fc fs Q (T.setTop (mkF m pc ls st)) := by
  subst hn hz; exact K.st fun _ k => XS.iconst X.hr X.1.1 rfl (X.d hd) k
theorem bipush (X : Sd Z y bytes maxL ret p l e R s m args below meth c n0 h kc ks T) {pc n : Nat} {ls : Array Slot} {st : List Value} {i : Int} {z : Int32} (hd : decode bytes pc = .ok (.bipush i, 2)) (hz : (Int8.ofInt i).toInt32 = z) (hn : pc + 2 = n) (K : Run p e below s n0 fc fs Q (T.setTop (mkF m n ls (.int z :: st)))) : Run p e below s n0 fc fs Q (T.setTop (mkF m pc ls st)) := by
  subst hn hz; exact K.st fun _ k => XS.bipush X.hr X.1.1 rfl (X.d hd) k
theorem sipush (X : Sd Z y bytes maxL ret p l e R s m args below meth c n0 h kc ks T) {pc n : Nat} {ls : Array Slot} {st : List Value} {i : Int} {z : Int32} (hd : decode bytes pc = .ok (.sipush i, 3)) (hz : (Int16.ofInt i).toInt32 = z) (hn : pc + 3 = n) (K : Run p e below s n0 fc fs Q (T.setTop (mkF m n ls (.int z :: st)))) : Run p e below s n0 fc fs Q (T.setTop (mkF m pc ls st)) := by
  subst hn hz; exact K.st fun _ k => XS.sipush X.hr X.1.1 rfl (X.d hd) k
theorem anull (X : Sd Z y bytes maxL ret p l e R s m args below meth c n0 h kc ks T) {pc n : Nat} {ls : Array Slot} {st : List Value}  (hd : decode bytes pc = .ok (.aconst_null, 1)) (hn : pc + 1 = n) (K : Run p e below s n0 fc fs Q (T.setTop (mkF m n ls (.null :: st)))) : Run p e below s n0 fc fs Q (T.setTop (mkF m pc ls st)) := by
  subst hn; exact K.st fun _ k => XS.aconstNull X.hr X.1.1 rfl (X.d hd) k
theorem iadd (X : Sd Z y bytes maxL ret p l e R s m args below meth c n0 h kc ks T) {pc n : Nat} {ls : Array Slot} {st : List Value} {u v : Int32} (hd : decode bytes pc = .ok (.iadd, 1)) (hn : pc + 1 = n) (K : Run p e below s n0 fc fs Q (T.setTop (mkF m n ls (.int (u + v) :: st)))) : Run p e below s n0 fc fs Q (T.setTop (mkF m pc ls (.int v :: .int u :: st))) := by
  subst hn; exact K.st fun _ k => XS.iadd X.hr X.1.1 rfl (X.d hd) rfl k
theorem ladd (X : Sd Z y bytes maxL ret p l e R s m args below meth c n0 h kc ks T) {pc n : Nat} {ls : Array Slot} {st : List Value} {u v : Int64} (hd : decode bytes pc = .ok (.ladd, 1)) (hn : pc + 1 = n) (K : Run p e below s n0 fc fs Q (T.setTop (mkF m n ls (.long (u + v) :: st)))) : Run p e below s n0 fc fs Q (T.setTop (mkF m pc ls (.long v :: .long u :: st))) := by
  subst hn; exact K.st fun _ k => XS.ladd X.hr X.1.1 rfl (X.d hd) rfl k
theorem isub (X : Sd Z y bytes maxL ret p l e R s m args below meth c n0 h kc ks T) {pc n : Nat} {ls : Array Slot} {st : List Value} {u v : Int32} (hd : decode bytes pc = .ok (.isub, 1)) (hn : pc + 1 = n) (K : Run p e below s n0 fc fs Q (T.setTop (mkF m n ls (.int (u - v) :: st)))) : Run p e below s n0 fc fs Q (T.setTop (mkF m pc ls (.int v :: .int u :: st))) := by
  subst hn; exact K.st fun _ k => XS.isub X.hr X.1.1 rfl (X.d hd) rfl k
theorem lsub (X : Sd Z y bytes maxL ret p l e R s m args below meth c n0 h kc ks T) {pc n : Nat} {ls : Array Slot} {st : List Value} {u v : Int64} (hd : decode bytes pc = .ok (.lsub, 1)) (hn : pc + 1 = n) (K : Run p e below s n0 fc fs Q (T.setTop (mkF m n ls (.long (u - v) :: st)))) : Run p e below s n0 fc fs Q (T.setTop (mkF m pc ls (.long v :: .long u :: st))) := by
  subst hn; exact K.st fun _ k => XS.lsub X.hr X.1.1 rfl (X.d hd) rfl k
theorem imul (X : Sd Z y bytes maxL ret p l e R s m args below meth c n0 h kc ks T) {pc n : Nat} {ls : Array Slot} {st : List Value} {u v : Int32} (hd : decode bytes pc = .ok (.imul, 1)) (hn : pc + 1 = n) (K : Run p e below s n0 fc fs Q (T.setTop (mkF m n ls (.int (u * v) :: st)))) : Run p e below s n0 fc fs Q (T.setTop (mkF m pc ls (.int v :: .int u :: st))) := by
  subst hn; exact K.st fun _ k => XS.imul X.hr X.1.1 rfl (X.d hd) rfl k
theorem lmul (X : Sd Z y bytes maxL ret p l e R s m args below meth c n0 h kc ks T) {pc n : Nat} {ls : Array Slot} {st : List Value} {u v : Int64} (hd : decode bytes pc = .ok (.lmul, 1)) (hn : pc + 1 = n) (K : Run p e below s n0 fc fs Q (T.setTop (mkF m n ls (.long (u * v) :: st)))) : Run p e below s n0 fc fs Q (T.setTop (mkF m pc ls (.long v :: .long u :: st))) := by
  subst hn; exact K.st fun _ k => XS.lmul X.hr X.1.1 rfl (X.d hd) rfl k
theorem iand (X : Sd Z y bytes maxL ret p l e R s m args below meth c n0 h kc ks T) {pc n : Nat} {ls : Array Slot} {st : List Value} {u v : Int32} (hd : decode bytes pc = .ok (.iand, 1)) (hn : pc + 1 = n) (K : Run p e below s n0 fc fs Q (T.setTop (mkF m n ls (.int (u &&& v) :: st)))) : Run p e below s n0 fc fs Q (T.setTop (mkF m pc ls (.int v :: .int u :: st))) := by
  subst hn; exact K.st fun _ k => XS.iand X.hr X.1.1 rfl (X.d hd) rfl k
theorem land (X : Sd Z y bytes maxL ret p l e R s m args below meth c n0 h kc ks T) {pc n : Nat} {ls : Array Slot} {st : List Value} {u v : Int64} (hd : decode bytes pc = .ok (.land, 1)) (hn : pc + 1 = n) (K : Run p e below s n0 fc fs Q (T.setTop (mkF m n ls (.long (u &&& v) :: st)))) : Run p e below s n0 fc fs Q (T.setTop (mkF m pc ls (.long v :: .long u :: st))) := by
  subst hn; exact K.st fun _ k => XS.land X.hr X.1.1 rfl (X.d hd) rfl k
theorem ior (X : Sd Z y bytes maxL ret p l e R s m args below meth c n0 h kc ks T) {pc n : Nat} {ls : Array Slot} {st : List Value} {u v : Int32} (hd : decode bytes pc = .ok (.ior, 1)) (hn : pc + 1 = n) (K : Run p e below s n0 fc fs Q (T.setTop (mkF m n ls (.int (u ||| v) :: st)))) : Run p e below s n0 fc fs Q (T.setTop (mkF m pc ls (.int v :: .int u :: st))) := by
  subst hn; exact K.st fun _ k => XS.ior X.hr X.1.1 rfl (X.d hd) rfl k
theorem lor (X : Sd Z y bytes maxL ret p l e R s m args below meth c n0 h kc ks T) {pc n : Nat} {ls : Array Slot} {st : List Value} {u v : Int64} (hd : decode bytes pc = .ok (.lor, 1)) (hn : pc + 1 = n) (K : Run p e below s n0 fc fs Q (T.setTop (mkF m n ls (.long (u ||| v) :: st)))) : Run p e below s n0 fc fs Q (T.setTop (mkF m pc ls (.long v :: .long u :: st))) := by
  subst hn; exact K.st fun _ k => XS.lor X.hr X.1.1 rfl (X.d hd) rfl k
theorem ixor (X : Sd Z y bytes maxL ret p l e R s m args below meth c n0 h kc ks T) {pc n : Nat} {ls : Array Slot} {st : List Value} {u v : Int32} (hd : decode bytes pc = .ok (.ixor, 1)) (hn : pc + 1 = n) (K : Run p e below s n0 fc fs Q (T.setTop (mkF m n ls (.int (u ^^^ v) :: st)))) : Run p e below s n0 fc fs Q (T.setTop (mkF m pc ls (.int v :: .int u :: st))) := by
  subst hn; exact K.st fun _ k => XS.ixor X.hr X.1.1 rfl (X.d hd) rfl k
theorem lxor (X : Sd Z y bytes maxL ret p l e R s m args below meth c n0 h kc ks T) {pc n : Nat} {ls : Array Slot} {st : List Value} {u v : Int64} (hd : decode bytes pc = .ok (.lxor, 1)) (hn : pc + 1 = n) (K : Run p e below s n0 fc fs Q (T.setTop (mkF m n ls (.long (u ^^^ v) :: st)))) : Run p e below s n0 fc fs Q (T.setTop (mkF m pc ls (.long v :: .long u :: st))) := by
  subst hn; exact K.st fun _ k => XS.lxor X.hr X.1.1 rfl (X.d hd) rfl k
theorem ishl (X : Sd Z y bytes maxL ret p l e R s m args below meth c n0 h kc ks T) {pc n : Nat} {ls : Array Slot} {st : List Value} {u v : Int32} (hd : decode bytes pc = .ok (.ishl, 1)) (hn : pc + 1 = n) (K : Run p e below s n0 fc fs Q (T.setTop (mkF m n ls (.int (u <<< (v &&& 31)) :: st)))) : Run p e below s n0 fc fs Q (T.setTop (mkF m pc ls (.int v :: .int u :: st))) := by
  subst hn; exact K.st fun _ k => XS.ishl X.hr X.1.1 rfl (X.d hd) rfl k
theorem ishr (X : Sd Z y bytes maxL ret p l e R s m args below meth c n0 h kc ks T) {pc n : Nat} {ls : Array Slot} {st : List Value} {u v : Int32} (hd : decode bytes pc = .ok (.ishr, 1)) (hn : pc + 1 = n) (K : Run p e below s n0 fc fs Q (T.setTop (mkF m n ls (.int (u >>> (v &&& 31)) :: st)))) : Run p e below s n0 fc fs Q (T.setTop (mkF m pc ls (.int v :: .int u :: st))) := by
  subst hn; exact K.st fun _ k => XS.ishr X.hr X.1.1 rfl (X.d hd) rfl k
theorem iushr (X : Sd Z y bytes maxL ret p l e R s m args below meth c n0 h kc ks T) {pc n : Nat} {ls : Array Slot} {st : List Value} {u v : Int32} (hd : decode bytes pc = .ok (.iushr, 1)) (hn : pc + 1 = n) (K : Run p e below s n0 fc fs Q (T.setTop (mkF m n ls (.int ((u.toUInt32 >>> (v &&& 31).toUInt32).toInt32) :: st)))) : Run p e below s n0 fc fs Q (T.setTop (mkF m pc ls (.int v :: .int u :: st))) := by
  subst hn; exact K.st fun _ k => XS.iushr X.hr X.1.1 rfl (X.d hd) rfl k
theorem lshl (X : Sd Z y bytes maxL ret p l e R s m args below meth c n0 h kc ks T) {pc n : Nat} {ls : Array Slot} {st : List Value} {u : Int64} {v : Int32} (hd : decode bytes pc = .ok (.lshl, 1)) (hn : pc + 1 = n) (K : Run p e below s n0 fc fs Q (T.setTop (mkF m n ls (.long (u <<< (v &&& 0x3f).toInt64) :: st)))) : Run p e below s n0 fc fs Q (T.setTop (mkF m pc ls (.int v :: .long u :: st))) := by
  subst hn; exact K.st fun _ k => XS.lshl X.hr X.1.1 rfl (X.d hd) rfl k
theorem lshr (X : Sd Z y bytes maxL ret p l e R s m args below meth c n0 h kc ks T) {pc n : Nat} {ls : Array Slot} {st : List Value} {u : Int64} {v : Int32} (hd : decode bytes pc = .ok (.lshr, 1)) (hn : pc + 1 = n) (K : Run p e below s n0 fc fs Q (T.setTop (mkF m n ls (.long (u >>> (v &&& 0x3f).toInt64) :: st)))) : Run p e below s n0 fc fs Q (T.setTop (mkF m pc ls (.int v :: .long u :: st))) := by
  subst hn; exact K.st fun _ k => XS.lshr X.hr X.1.1 rfl (X.d hd) rfl k
theorem lushr (X : Sd Z y bytes maxL ret p l e R s m args below meth c n0 h kc ks T) {pc n : Nat} {ls : Array Slot} {st : List Value} {u : Int64} {v : Int32} (hd : decode bytes pc = .ok (.lushr, 1)) (hn : pc + 1 = n) (K : Run p e below s n0 fc fs Q (T.setTop (mkF m n ls (.long ((u.toUInt64 >>> (v &&& 0x3f).toInt64.toUInt64).toInt64) :: st)))) : Run p e below s n0 fc fs Q (T.setTop (mkF m pc ls (.int v :: .long u :: st))) := by
  subst hn; exact K.st fun _ k => XS.lushr X.hr X.1.1 rfl (X.d hd) rfl k
theorem ineg (X : Sd Z y bytes maxL ret p l e R s m args below meth c n0 h kc ks T) {pc n : Nat} {ls : Array Slot} {st : List Value} {u : Int32} (hd : decode bytes pc = .ok (.ineg, 1)) (hn : pc + 1 = n) (K : Run p e below s n0 fc fs Q (T.setTop (mkF m n ls (.int (-u) :: st)))) : Run p e below s n0 fc fs Q (T.setTop (mkF m pc ls (.int u :: st))) := by
  subst hn; exact K.st fun _ k => XS.ineg X.hr X.1.1 rfl (X.d hd) rfl k
theorem i2l (X : Sd Z y bytes maxL ret p l e R s m args below meth c n0 h kc ks T) {pc n : Nat} {ls : Array Slot} {st : List Value} {u : Int32} (hd : decode bytes pc = .ok (.i2l, 1)) (hn : pc + 1 = n) (K : Run p e below s n0 fc fs Q (T.setTop (mkF m n ls (.long u.toInt64 :: st)))) : Run p e below s n0 fc fs Q (T.setTop (mkF m pc ls (.int u :: st))) := by
  subst hn; exact K.st fun _ k => XS.i2l X.hr X.1.1 rfl (X.d hd) rfl k
theorem l2i (X : Sd Z y bytes maxL ret p l e R s m args below meth c n0 h kc ks T) {pc n : Nat} {ls : Array Slot} {st : List Value} {u : Int64} (hd : decode bytes pc = .ok (.l2i, 1)) (hn : pc + 1 = n) (K : Run p e below s n0 fc fs Q (T.setTop (mkF m n ls (.int u.toInt32 :: st)))) : Run p e below s n0 fc fs Q (T.setTop (mkF m pc ls (.long u :: st))) := by
  subst hn; exact K.st fun _ k => XS.l2i X.hr X.1.1 rfl (X.d hd) rfl k
theorem i2b (X : Sd Z y bytes maxL ret p l e R s m args below meth c n0 h kc ks T) {pc n : Nat} {ls : Array Slot} {st : List Value} {u : Int32} (hd : decode bytes pc = .ok (.i2b, 1)) (hn : pc + 1 = n) (K : Run p e below s n0 fc fs Q (T.setTop (mkF m n ls (.int u.toInt8.toInt32 :: st)))) : Run p e below s n0 fc fs Q (T.setTop (mkF m pc ls (.int u :: st))) := by
  subst hn; exact K.st fun _ k => XS.i2b X.hr X.1.1 rfl (X.d hd) rfl k
theorem i2s (X : Sd Z y bytes maxL ret p l e R s m args below meth c n0 h kc ks T) {pc n : Nat} {ls : Array Slot} {st : List Value} {u : Int32} (hd : decode bytes pc = .ok (.i2s, 1)) (hn : pc + 1 = n) (K : Run p e below s n0 fc fs Q (T.setTop (mkF m n ls (.int u.toInt16.toInt32 :: st)))) : Run p e below s n0 fc fs Q (T.setTop (mkF m pc ls (.int u :: st))) := by
  subst hn; exact K.st fun _ k => XS.i2s X.hr X.1.1 rfl (X.d hd) rfl k
theorem i2c (X : Sd Z y bytes maxL ret p l e R s m args below meth c n0 h kc ks T) {pc n : Nat} {ls : Array Slot} {st : List Value} {u : Int32} (hd : decode bytes pc = .ok (.i2c, 1)) (hn : pc + 1 = n) (K : Run p e below s n0 fc fs Q (T.setTop (mkF m n ls (.int u.toUInt32.toUInt16.toUInt32.toInt32 :: st)))) : Run p e below s n0 fc fs Q (T.setTop (mkF m pc ls (.int u :: st))) := by
  subst hn; exact K.st fun _ k => XS.i2c X.hr X.1.1 rfl (X.d hd) rfl k
theorem lcmp (X : Sd Z y bytes maxL ret p l e R s m args below meth c n0 h kc ks T) {pc n : Nat} {ls : Array Slot} {st : List Value} {u v : Int64} (hd : decode bytes pc = .ok (.lcmp, 1)) (hn : pc + 1 = n) (K : Run p e below s n0 fc fs Q (T.setTop (mkF m n ls (.int (lcmpW u v) :: st)))) : Run p e below s n0 fc fs Q (T.setTop (mkF m pc ls (.long v :: .long u :: st))) := by
  subst hn; exact K.st fun _ k => XS.lcmp X.hr X.1.1 rfl (X.d hd) rfl k
theorem lconst (X : Sd Z y bytes maxL ret p l e R s m args below meth c n0 h kc ks T) {pc n : Nat} {ls : Array Slot} {st : List Value} {k : Fin 2} {z : Int64} (hd : decode bytes pc = .ok (.lconst k, 1)) (hz : Int64.ofNat k.val = z) (hn : pc + 1 = n) (K : Run p e below s n0 fc fs Q (T.setTop (mkF m n ls (.long z :: st)))) : Run p e below s n0 fc fs Q (T.setTop (mkF m pc ls st)) := by
  subst hn hz; exact K.st fun _ k => XS.lconst X.hr X.1.1 rfl (X.d hd) k
theorem irem (X : Sd Z y bytes maxL ret p l e R s m args below meth c n0 h kc ks T) {pc n : Nat} {ls : Array Slot} {st : List Value} {u v : Int32} (hd : decode bytes pc = .ok (.irem, 1)) (hv : v ≠ 0) (hn : pc + 1 = n) (K : Run p e below s n0 fc fs Q (T.setTop (mkF m n ls (.int (u % v) :: st)))) : Run p e below s n0 fc fs Q (T.setTop (mkF m pc ls (.int v :: .int u :: st))) := by
  subst hn; obtain ⟨q, L, a, b, Y, -⟩ := X; exact K.st fun _ k => iremM Y q.1 rfl (q.2.2.1 ▸ hd) rfl hv k
theorem idiv (X : Sd Z y bytes maxL ret p l e R s m args below meth c n0 h kc ks T) {pc n : Nat} {ls : Array Slot} {st : List Value} {u v : Int32} (hd : decode bytes pc = .ok (.idiv, 1)) (hv : v ≠ 0) (hn : pc + 1 = n) (K : Run p e below s n0 fc fs Q (T.setTop (mkF m n ls (.int (u / v) :: st)))) : Run p e below s n0 fc fs Q (T.setTop (mkF m pc ls (.int v :: .int u :: st))) := by
  subst hn; exact K.st fun _ k => XS.idiv X.hr X.1.1 rfl (X.d hd) rfl hv k
theorem dup (X : Sd Z y bytes maxL ret p l e R s m args below meth c n0 h kc ks T) {pc n : Nat} {ls : Array Slot} {st : List Value} {v : Value} (hd : decode bytes pc = .ok (.dup, 1)) (hc : v.category = 1) (hn : pc + 1 = n) (K : Run p e below s n0 fc fs Q (T.setTop (mkF m n ls (v :: v :: st)))) : Run p e below s n0 fc fs Q (T.setTop (mkF m pc ls (v :: st))) := by
  subst hn; exact K.st fun _ k => XS.dup X.hr X.1.1 rfl (X.d hd) rfl hc k
theorem pop (X : Sd Z y bytes maxL ret p l e R s m args below meth c n0 h kc ks T) {pc n : Nat} {ls : Array Slot} {st : List Value} {v : Value} (hd : decode bytes pc = .ok (.pop, 1)) (hc : v.category = 1) (hn : pc + 1 = n) (K : Run p e below s n0 fc fs Q (T.setTop (mkF m n ls st))) : Run p e below s n0 fc fs Q (T.setTop (mkF m pc ls (v :: st))) := by
  subst hn; exact K.st fun _ k => XS.pop X.hr X.1.1 rfl (X.d hd) rfl hc k
theorem dupX1 (X : Sd Z y bytes maxL ret p l e R s m args below meth c n0 h kc ks T) {pc n : Nat} {ls : Array Slot} {st : List Value} {u v : Value} (hd : decode bytes pc = .ok (.dup_x1, 1)) (hc : u.category = 1) (hc' : v.category = 1) (hn : pc + 1 = n) (K : Run p e below s n0 fc fs Q (T.setTop (mkF m n ls (u :: v :: u :: st)))) : Run p e below s n0 fc fs Q (T.setTop (mkF m pc ls (u :: v :: st))) := by
  subst hn; exact K.st fun _ k => XS.dupX1 X.hr X.1.1 rfl (X.d hd) rfl hc hc' k
theorem iinc (X : Sd Z y bytes maxL ret p l e R s m args below meth c n0 h kc ks T) {pc n j : Nat} {ls l' : Array Slot} {st : List Value} {i : Int} {z v : Int32} (hd : decode bytes pc = .ok (.iinc j i, 3)) (hz : Int32.ofInt i = z) (hl : ls[j]? = some (.val (.int v))) (hl' : storeLocals ls j (.int (v + z)) = some l') (hn : pc + 3 = n) (K : Run p e below s n0 fc fs Q (T.setTop (mkF m n l' st))) : Run p e below s n0 fc fs Q (T.setTop (mkF m pc ls st)) := by
  subst hn hz; exact K.st fun _ k => XS.iinc X.hr X.1.1 rfl (X.d hd) hl hl' k
theorem goto (X : Sd Z y bytes maxL ret p l e R s m args below meth c n0 h kc ks T) {pc n : Nat} {ls : Array Slot} {st : List Value} {o : Int} (hd : decode bytes pc = .ok (.goto o, 3)) (ho : 0 ≤ (pc : Int) + o) (hn : ((pc : Int) + o).toNat = n) (K : Run p e below s n0 fc fs Q (T.setTop (mkF m n ls st))) : Run p e below s n0 fc fs Q (T.setTop (mkF m pc ls st)) := K.st fun _ k => XS.goto X.hr X.1.1 rfl rfl (X.d hd) ho hn k
theorem ldc (X : Sd Z y bytes maxL ret p l e R s m args below meth c n0 h kc ks T) {pc n index : Nat} {ls : Array Slot} {st : List Value} {v : Int32} (hd : decode bytes pc = .ok (.ldc index, 2)) (w : (Cond.constant y.cls index v).before a0 Z = true) (hn : pc + 2 = n) (K : Run p e below s n0 fc fs Q (T.setTop (mkF m n ls (.int v :: st)))) : Run p e below s n0 fc fs Q (T.setTop (mkF m pc ls st)) := by
  subst hn; obtain ⟨q, L, i, j, Y, -⟩ := X; exact K.st fun _ k => Y.ldcInt q.1 q.2.2.2.2.2.2.1 (mvT q.2.1 w) (g := mkF m pc ls st) rfl (q.2.2.1 ▸ hd) _ k
theorem ldc2 (X : Sd Z y bytes maxL ret p l e R s m args below meth c n0 h kc ks T) {pc n index : Nat} {ls : Array Slot} {st : List Value} {v : Int64} (hd : decode bytes pc = .ok (.ldc2_w index, 3)) (w : (Cond.constantLong y.cls index v).before a0 Z = true) (hn : pc + 3 = n) (K : Run p e below s n0 fc fs Q (T.setTop (mkF m n ls (.long v :: st)))) : Run p e below s n0 fc fs Q (T.setTop (mkF m pc ls st)) := by
  subst hn; obtain ⟨q, L, i, j, Y, -⟩ := X; exact K.st fun _ k => Y.ldc2Long q.1 q.2.2.2.2.2.2.1 (mvT q.2.1 w) (g := mkF m pc ls st) rfl (q.2.2.1 ▸ hd) _ k
theorem ifc (X : Sd Z y bytes maxL ret p l e R s m args below meth c n0 h kc ks T) {pc n1 n2 : Nat} {ls : Array Slot} {st : List Value} {cd : ClassFile.Cond} {x : Int32} {o : Int} (hd : decode bytes pc = .ok (.ifCond cd o, 3)) (ho : 0 ≤ (pc : Int) + o) (h1 : ((pc : Int) + o).toNat = n1) (h2 : pc + 3 = n2) (K1 : ifCond.holds cd x = true → Run p e below s n0 fc fs Q (T.setTop (mkF m n1 ls st))) (K2 : ifCond.holds cd x = false → Run p e below s n0 fc fs Q (T.setTop (mkF m n2 ls st))) : Run p e below s n0 fc fs Q (T.setTop (mkF m pc ls (.int x :: st))) := by
  cases hq : ifCond.holds cd x with
  | true => exact (K1 hq).st fun _ k => XS.ifYes X.hr X.1.1 rfl rfl (X.d hd) rfl hq ho h1 k
  | false => subst h2; exact (K2 hq).st fun _ k => XS.ifNo X.hr X.1.1 rfl (X.d hd) rfl hq k
theorem icc (X : Sd Z y bytes maxL ret p l e R s m args below meth c n0 h kc ks T) {pc n1 n2 : Nat} {ls : Array Slot} {st : List Value} {cd : ClassFile.Cond} {x v : Int32} {o : Int} (hd : decode bytes pc = .ok (.if_icmp cd o, 3)) (ho : 0 ≤ (pc : Int) + o) (h1 : ((pc : Int) + o).toNat = n1) (h2 : pc + 3 = n2) (K1 : if_icmp.holds cd x v = true → Run p e below s n0 fc fs Q (T.setTop (mkF m n1 ls st))) (K2 : if_icmp.holds cd x v = false → Run p e below s n0 fc fs Q (T.setTop (mkF m n2 ls st))) : Run p e below s n0 fc fs Q (T.setTop (mkF m pc ls (.int v :: .int x :: st))) := by
  cases hq : if_icmp.holds cd x v with
  | true => exact (K1 hq).st fun _ k => XS.icmpYes X.hr X.1.1 rfl rfl (X.d hd) rfl hq ho h1 k
  | false => subst h2; exact (K2 hq).st fun _ k => XS.icmpNo X.hr X.1.1 rfl (X.d hd) rfl hq k
theorem ic_eq (X : Sd Z y bytes maxL ret p l e R s m args below meth c n0 h kc ks T) {pc n1 n2 : Nat} {ls : Array Slot} {st : List Value} {x v : Int32} {o : Int} (hd : decode bytes pc = .ok (.if_icmp .eq o, 3)) (ho : 0 ≤ (pc : Int) + o) (h1 : ((pc : Int) + o).toNat = n1) (h2 : pc + 3 = n2) (K1 : x = v → Run p e below s n0 fc fs Q (T.setTop (mkF m n1 ls st))) (K2 : ¬ x = v → Run p e below s n0 fc fs Q (T.setTop (mkF m n2 ls st))) : Run p e below s n0 fc fs Q (T.setTop (mkF m pc ls (.int v :: .int x :: st))) := by
  exact icc X hd ho h1 h2 (fun hq => K1 (Classical.byContradiction fun w => by rw [(feq w).1] at hq; cases hq)) (fun hq => K2 (fun w => by rw [(teq w).1] at hq; cases hq))
theorem if_eq (X : Sd Z y bytes maxL ret p l e R s m args below meth c n0 h kc ks T) {pc n1 n2 : Nat} {ls : Array Slot} {st : List Value} {x : Int32} {o : Int} (hd : decode bytes pc = .ok (.ifCond .eq o, 3)) (ho : 0 ≤ (pc : Int) + o) (h1 : ((pc : Int) + o).toNat = n1) (h2 : pc + 3 = n2) (K1 : x = 0 → Run p e below s n0 fc fs Q (T.setTop (mkF m n1 ls st))) (K2 : ¬ x = 0 → Run p e below s n0 fc fs Q (T.setTop (mkF m n2 ls st))) : Run p e below s n0 fc fs Q (T.setTop (mkF m pc ls (.int x :: st))) := by
  exact ifc X hd ho h1 h2 (fun hq => by rw [if0] at hq; exact K1 (Classical.byContradiction fun w => by rw [(feq w).1] at hq; cases hq)) (fun hq => by rw [if0] at hq; exact K2 (fun w => by rw [(teq w).1] at hq; cases hq))
theorem ic_ne (X : Sd Z y bytes maxL ret p l e R s m args below meth c n0 h kc ks T) {pc n1 n2 : Nat} {ls : Array Slot} {st : List Value} {x v : Int32} {o : Int} (hd : decode bytes pc = .ok (.if_icmp .ne o, 3)) (ho : 0 ≤ (pc : Int) + o) (h1 : ((pc : Int) + o).toNat = n1) (h2 : pc + 3 = n2) (K1 : ¬ x = v → Run p e below s n0 fc fs Q (T.setTop (mkF m n1 ls st))) (K2 : x = v → Run p e below s n0 fc fs Q (T.setTop (mkF m n2 ls st))) : Run p e below s n0 fc fs Q (T.setTop (mkF m pc ls (.int v :: .int x :: st))) := by
  exact icc X hd ho h1 h2 (fun hq => K1 (fun w => by rw [(teq w).2] at hq; cases hq)) (fun hq => K2 (Classical.byContradiction fun w => by rw [(feq w).2] at hq; cases hq))
theorem if_ne (X : Sd Z y bytes maxL ret p l e R s m args below meth c n0 h kc ks T) {pc n1 n2 : Nat} {ls : Array Slot} {st : List Value} {x : Int32} {o : Int} (hd : decode bytes pc = .ok (.ifCond .ne o, 3)) (ho : 0 ≤ (pc : Int) + o) (h1 : ((pc : Int) + o).toNat = n1) (h2 : pc + 3 = n2) (K1 : ¬ x = 0 → Run p e below s n0 fc fs Q (T.setTop (mkF m n1 ls st))) (K2 : x = 0 → Run p e below s n0 fc fs Q (T.setTop (mkF m n2 ls st))) : Run p e below s n0 fc fs Q (T.setTop (mkF m pc ls (.int x :: st))) := by
  exact ifc X hd ho h1 h2 (fun hq => by rw [if0] at hq; exact K1 (fun w => by rw [(teq w).2] at hq; cases hq)) (fun hq => by rw [if0] at hq; exact K2 (Classical.byContradiction fun w => by rw [(feq w).2] at hq; cases hq))
theorem ic_lt (X : Sd Z y bytes maxL ret p l e R s m args below meth c n0 h kc ks T) {pc n1 n2 : Nat} {ls : Array Slot} {st : List Value} {x v : Int32} {o : Int} (hd : decode bytes pc = .ok (.if_icmp .lt o, 3)) (ho : 0 ≤ (pc : Int) + o) (h1 : ((pc : Int) + o).toNat = n1) (h2 : pc + 3 = n2) (K1 : x < v → Run p e below s n0 fc fs Q (T.setTop (mkF m n1 ls st))) (K2 : ¬ x < v → Run p e below s n0 fc fs Q (T.setTop (mkF m n2 ls st))) : Run p e below s n0 fc fs Q (T.setTop (mkF m pc ls (.int v :: .int x :: st))) := by
  exact icc X hd ho h1 h2 (fun hq => K1 (Classical.byContradiction fun w => by rw [(flt w).1] at hq; cases hq)) (fun hq => K2 (fun w => by rw [(tlt w).1] at hq; cases hq))
theorem if_lt (X : Sd Z y bytes maxL ret p l e R s m args below meth c n0 h kc ks T) {pc n1 n2 : Nat} {ls : Array Slot} {st : List Value} {x : Int32} {o : Int} (hd : decode bytes pc = .ok (.ifCond .lt o, 3)) (ho : 0 ≤ (pc : Int) + o) (h1 : ((pc : Int) + o).toNat = n1) (h2 : pc + 3 = n2) (K1 : x < 0 → Run p e below s n0 fc fs Q (T.setTop (mkF m n1 ls st))) (K2 : ¬ x < 0 → Run p e below s n0 fc fs Q (T.setTop (mkF m n2 ls st))) : Run p e below s n0 fc fs Q (T.setTop (mkF m pc ls (.int x :: st))) := by
  exact ifc X hd ho h1 h2 (fun hq => by rw [if0] at hq; exact K1 (Classical.byContradiction fun w => by rw [(flt w).1] at hq; cases hq)) (fun hq => by rw [if0] at hq; exact K2 (fun w => by rw [(tlt w).1] at hq; cases hq))
theorem ic_ge (X : Sd Z y bytes maxL ret p l e R s m args below meth c n0 h kc ks T) {pc n1 n2 : Nat} {ls : Array Slot} {st : List Value} {x v : Int32} {o : Int} (hd : decode bytes pc = .ok (.if_icmp .ge o, 3)) (ho : 0 ≤ (pc : Int) + o) (h1 : ((pc : Int) + o).toNat = n1) (h2 : pc + 3 = n2) (K1 : ¬ x < v → Run p e below s n0 fc fs Q (T.setTop (mkF m n1 ls st))) (K2 : x < v → Run p e below s n0 fc fs Q (T.setTop (mkF m n2 ls st))) : Run p e below s n0 fc fs Q (T.setTop (mkF m pc ls (.int v :: .int x :: st))) := by
  exact icc X hd ho h1 h2 (fun hq => K1 (fun w => by rw [(tlt w).2.1] at hq; cases hq)) (fun hq => K2 (Classical.byContradiction fun w => by rw [(flt w).2.1] at hq; cases hq))
theorem if_ge (X : Sd Z y bytes maxL ret p l e R s m args below meth c n0 h kc ks T) {pc n1 n2 : Nat} {ls : Array Slot} {st : List Value} {x : Int32} {o : Int} (hd : decode bytes pc = .ok (.ifCond .ge o, 3)) (ho : 0 ≤ (pc : Int) + o) (h1 : ((pc : Int) + o).toNat = n1) (h2 : pc + 3 = n2) (K1 : ¬ x < 0 → Run p e below s n0 fc fs Q (T.setTop (mkF m n1 ls st))) (K2 : x < 0 → Run p e below s n0 fc fs Q (T.setTop (mkF m n2 ls st))) : Run p e below s n0 fc fs Q (T.setTop (mkF m pc ls (.int x :: st))) := by
  exact ifc X hd ho h1 h2 (fun hq => by rw [if0] at hq; exact K1 (fun w => by rw [(tlt w).2.1] at hq; cases hq)) (fun hq => by rw [if0] at hq; exact K2 (Classical.byContradiction fun w => by rw [(flt w).2.1] at hq; cases hq))
theorem ic_gt (X : Sd Z y bytes maxL ret p l e R s m args below meth c n0 h kc ks T) {pc n1 n2 : Nat} {ls : Array Slot} {st : List Value} {x v : Int32} {o : Int} (hd : decode bytes pc = .ok (.if_icmp .gt o, 3)) (ho : 0 ≤ (pc : Int) + o) (h1 : ((pc : Int) + o).toNat = n1) (h2 : pc + 3 = n2) (K1 : v < x → Run p e below s n0 fc fs Q (T.setTop (mkF m n1 ls st))) (K2 : ¬ v < x → Run p e below s n0 fc fs Q (T.setTop (mkF m n2 ls st))) : Run p e below s n0 fc fs Q (T.setTop (mkF m pc ls (.int v :: .int x :: st))) := by
  exact icc X hd ho h1 h2 (fun hq => K1 (Classical.byContradiction fun w => by rw [(flt w).2.2.1] at hq; cases hq)) (fun hq => K2 (fun w => by rw [(tlt w).2.2.1] at hq; cases hq))
theorem if_gt (X : Sd Z y bytes maxL ret p l e R s m args below meth c n0 h kc ks T) {pc n1 n2 : Nat} {ls : Array Slot} {st : List Value} {x : Int32} {o : Int} (hd : decode bytes pc = .ok (.ifCond .gt o, 3)) (ho : 0 ≤ (pc : Int) + o) (h1 : ((pc : Int) + o).toNat = n1) (h2 : pc + 3 = n2) (K1 : 0 < x → Run p e below s n0 fc fs Q (T.setTop (mkF m n1 ls st))) (K2 : ¬ 0 < x → Run p e below s n0 fc fs Q (T.setTop (mkF m n2 ls st))) : Run p e below s n0 fc fs Q (T.setTop (mkF m pc ls (.int x :: st))) := by
  exact ifc X hd ho h1 h2 (fun hq => by rw [if0] at hq; exact K1 (Classical.byContradiction fun w => by rw [(flt w).2.2.1] at hq; cases hq)) (fun hq => by rw [if0] at hq; exact K2 (fun w => by rw [(tlt w).2.2.1] at hq; cases hq))
theorem ic_le (X : Sd Z y bytes maxL ret p l e R s m args below meth c n0 h kc ks T) {pc n1 n2 : Nat} {ls : Array Slot} {st : List Value} {x v : Int32} {o : Int} (hd : decode bytes pc = .ok (.if_icmp .le o, 3)) (ho : 0 ≤ (pc : Int) + o) (h1 : ((pc : Int) + o).toNat = n1) (h2 : pc + 3 = n2) (K1 : ¬ v < x → Run p e below s n0 fc fs Q (T.setTop (mkF m n1 ls st))) (K2 : v < x → Run p e below s n0 fc fs Q (T.setTop (mkF m n2 ls st))) : Run p e below s n0 fc fs Q (T.setTop (mkF m pc ls (.int v :: .int x :: st))) := by
  exact icc X hd ho h1 h2 (fun hq => K1 (fun w => by rw [(tlt w).2.2.2] at hq; cases hq)) (fun hq => K2 (Classical.byContradiction fun w => by rw [(flt w).2.2.2] at hq; cases hq))
theorem if_le (X : Sd Z y bytes maxL ret p l e R s m args below meth c n0 h kc ks T) {pc n1 n2 : Nat} {ls : Array Slot} {st : List Value} {x : Int32} {o : Int} (hd : decode bytes pc = .ok (.ifCond .le o, 3)) (ho : 0 ≤ (pc : Int) + o) (h1 : ((pc : Int) + o).toNat = n1) (h2 : pc + 3 = n2) (K1 : ¬ 0 < x → Run p e below s n0 fc fs Q (T.setTop (mkF m n1 ls st))) (K2 : 0 < x → Run p e below s n0 fc fs Q (T.setTop (mkF m n2 ls st))) : Run p e below s n0 fc fs Q (T.setTop (mkF m pc ls (.int x :: st))) := by
  exact ifc X hd ho h1 h2 (fun hq => by rw [if0] at hq; exact K1 (fun w => by rw [(tlt w).2.2.2] at hq; cases hq)) (fun hq => by rw [if0] at hq; exact K2 (Classical.byContradiction fun w => by rw [(flt w).2.2.2] at hq; cases hq))
theorem ifnull_y (X : Sd Z y bytes maxL ret p l e R s m args below meth c n0 h kc ks T) {pc n1 : Nat} {ls : Array Slot} {st : List Value} {o : Int} (hd : decode bytes pc = .ok (.ifnull o, 3)) (ho : 0 ≤ (pc : Int) + o) (h1 : ((pc : Int) + o).toNat = n1) (K : Run p e below s n0 fc fs Q (T.setTop (mkF m n1 ls st))) : Run p e below s n0 fc fs Q (T.setTop (mkF m pc ls (.null :: st))) := K.st fun _ k => XS.ifnullYes X.hr X.1.1 rfl rfl (X.d hd) rfl ho h1 k
theorem ifnull_n (X : Sd Z y bytes maxL ret p l e R s m args below meth c n0 h kc ks T) {pc n2 : Nat} {ls : Array Slot} {st : List Value} {o : Int} {a : Addr} (hd : decode bytes pc = .ok (.ifnull o, 3)) (h2 : pc + 3 = n2) (K : Run p e below s n0 fc fs Q (T.setTop (mkF m n2 ls st))) : Run p e below s n0 fc fs Q (T.setTop (mkF m pc ls (.ref a :: st))) := by
  subst h2; exact K.st fun _ k => XS.ifnullNo X.hr X.1.1 rfl (X.d hd) rfl k
theorem ifnonnull_y (X : Sd Z y bytes maxL ret p l e R s m args below meth c n0 h kc ks T) {pc n1 : Nat} {ls : Array Slot} {st : List Value} {o : Int} {a : Addr} (hd : decode bytes pc = .ok (.ifnonnull o, 3)) (ho : 0 ≤ (pc : Int) + o) (h1 : ((pc : Int) + o).toNat = n1) (K : Run p e below s n0 fc fs Q (T.setTop (mkF m n1 ls st))) : Run p e below s n0 fc fs Q (T.setTop (mkF m pc ls (.ref a :: st))) := K.st fun _ k => XS.ifnonnullYes X.hr X.1.1 rfl rfl (X.d hd) rfl ho h1 k
theorem ifnonnull_n (X : Sd Z y bytes maxL ret p l e R s m args below meth c n0 h kc ks T) {pc n2 : Nat} {ls : Array Slot} {st : List Value} {o : Int} (hd : decode bytes pc = .ok (.ifnonnull o, 3)) (h2 : pc + 3 = n2) (K : Run p e below s n0 fc fs Q (T.setTop (mkF m n2 ls st))) : Run p e below s n0 fc fs Q (T.setTop (mkF m pc ls (.null :: st))) := by
  subst h2; exact K.st fun _ k => XS.ifnonnullNo X.hr X.1.1 rfl (X.d hd) rfl k
theorem ac_eq (X : Sd Z y bytes maxL ret p l e R s m args below meth c n0 h kc ks T) {pc n1 n2 : Nat} {ls : Array Slot} {st : List Value} {x v : Value} {o : Int} (hd : decode bytes pc = .ok (.if_acmp .eq o, 3)) (hx : x.isRef = true) (hv : v.isRef = true) (ho : 0 ≤ (pc : Int) + o) (h1 : ((pc : Int) + o).toNat = n1) (h2 : pc + 3 = n2) (K1 : x = v → Run p e below s n0 fc fs Q (T.setTop (mkF m n1 ls st))) (K2 : ¬ x = v → Run p e below s n0 fc fs Q (T.setTop (mkF m n2 ls st))) : Run p e below s n0 fc fs Q (T.setTop (mkF m pc ls (v :: x :: st))) := by
  obtain ⟨q, L, i, j, Y, -⟩ := X
  by_cases hq : x = v
  · exact (K1 hq).st fun _ k => acmp Y q.1 rfl hx hv rfl (q.2.2.1 ▸ hd) rfl (decide_eq_true hq) ho (by simp [acV, ← h1, ← h2]) k
  · exact (K2 hq).st fun _ k => acmp Y q.1 rfl hx hv rfl (q.2.2.1 ▸ hd) rfl (decide_eq_false hq) ho (by simp [acV, ← h1, ← h2]) k
theorem ac_ne (X : Sd Z y bytes maxL ret p l e R s m args below meth c n0 h kc ks T) {pc n1 n2 : Nat} {ls : Array Slot} {st : List Value} {x v : Value} {o : Int} (hd : decode bytes pc = .ok (.if_acmp .ne o, 3)) (hx : x.isRef = true) (hv : v.isRef = true) (ho : 0 ≤ (pc : Int) + o) (h1 : ((pc : Int) + o).toNat = n1) (h2 : pc + 3 = n2) (K1 : ¬ x = v → Run p e below s n0 fc fs Q (T.setTop (mkF m n1 ls st))) (K2 : x = v → Run p e below s n0 fc fs Q (T.setTop (mkF m n2 ls st))) : Run p e below s n0 fc fs Q (T.setTop (mkF m pc ls (v :: x :: st))) := by
  obtain ⟨q, L, i, j, Y, -⟩ := X
  by_cases hq : x = v
  · exact (K2 hq).st fun _ k => acmp Y q.1 rfl hx hv rfl (q.2.2.1 ▸ hd) rfl (decide_eq_true hq) ho (by simp [acV, ← h1, ← h2]) k
  · exact (K1 hq).st fun _ k => acmp Y q.1 rfl hx hv rfl (q.2.2.1 ▸ hd) rfl (decide_eq_false hq) ho (by simp [acV, ← h1, ← h2]) k
theorem Sd.re {T' : State} {L : List Loc} {i j : Nat} (X : Sd Z y bytes maxL ret p l e R s m args below meth c n0 h kc ks T) (Y : Stand p l e R s m args below meth c T' L i j) (h1 : T'.heap = h) (h2 : Fr n0 L) (h3 : i ≤ kc) (h4 : j ≤ ks) : Sd Z y bytes maxL ret p l e R s m args below meth c n0 h kc ks T' := ⟨X.1, L, i, j, Y, h1, h2, h3, h4⟩
theorem getstatic (X : Sd Z y bytes maxL ret p l e R s m args below meth c n0 h kc ks T) {pc n index : Nat} {ls : Array Slot} {st : List Value} {R0 O f d : String} {v : Value} (hd : decode bytes pc = .ok (.getstatic index, 3)) (w : (Cond.fieldLink y.cls index R0 f d).before a0 Z = true) (via : Via Z R0 O f d) (F : Sta Z h O f d v) (hn : pc + 3 = n) (K : ∀ T', Sd Z y bytes maxL ret p l e R s m args below meth c n0 h kc ks T' → Run p e below s n0 fc fs Q (T'.setTop (mkF m n ls (v :: st)))) : Run p e below s n0 fc fs Q (T.setTop (mkF m pc ls st)) := by
  subst hn; obtain ⟨q, L, i, j, Y, r1, r2, r3, r4⟩ := X
  obtain ⟨T', Y', e', stp⟩ := getS (host := "") Y q.1 q.2.1 q.2.2.2.2.2.2.1 w via r1 F (g := mkF m pc ls st) rfl (q.2.2.1 ▸ hd)
  exact (K T' ⟨q, L, i, j, Y', e', r2, r3, r4⟩).st stp
theorem getstaticN (X : Sd Z y bytes maxL ret p l e R s m args below meth c n0 h kc ks T) {pc n index : Nat} {ls : Array Slot} {st : List Value} {R0 O f d host : String} {v : Value} (hd : decode bytes pc = .ok (.getstatic index, 3)) (w : (Cond.fieldLinkNest y.cls index R0 f d host).before a0 Z = true) (via : Via Z R0 O f d) (F : Sta Z h O f d v) (hn : pc + 3 = n) (K : ∀ T', Sd Z y bytes maxL ret p l e R s m args below meth c n0 h kc ks T' → Run p e below s n0 fc fs Q (T'.setTop (mkF m n ls (v :: st)))) : Run p e below s n0 fc fs Q (T.setTop (mkF m pc ls st)) := by
  subst hn; obtain ⟨q, L, i, j, Y, r1, r2, r3, r4⟩ := X
  obtain ⟨T', Y', e', stp⟩ := getS2 Y q.1 q.2.1 q.2.2.2.2.2.2.1 (Or.inr w) via r1 F (g := mkF m pc ls st) rfl (q.2.2.1 ▸ hd)
  exact (K T' ⟨q, L, i, j, Y', e', r2, r3, r4⟩).st stp
theorem getfield (X : Sd Z y bytes maxL ret p l e R s m args below meth c n0 h kc ks T) {pc n index : Nat} {ls : Array Slot} {st : List Value} {R0 O f d : String} {a : Addr} {v : Value} (hd : decode bytes pc = .ok (.getfield index, 3)) (w : (Cond.fieldLink y.cls index R0 f d).before a0 Z = true) (via : Via Z R0 O f d) (F : Fld Z h a O f d v) (hn : pc + 3 = n) (K : ∀ T', Sd Z y bytes maxL ret p l e R s m args below meth c n0 h kc ks T' → Run p e below s n0 fc fs Q (T'.setTop (mkF m n ls (v :: st)))) : Run p e below s n0 fc fs Q (T.setTop (mkF m pc ls (.ref a :: st))) := by
  subst hn; obtain ⟨q, L, i, j, Y, r1, r2, r3, r4⟩ := X
  obtain ⟨T', Y', e', stp⟩ := getF (host := "") Y q.1 q.2.1 q.2.2.2.2.2.2.1 (Or.inl w) via r1 F (g := mkF m pc ls (.ref a :: st)) rfl rfl (q.2.2.1 ▸ hd)
  exact (K T' ⟨q, L, i, j, Y', e', r2, r3, r4⟩).st stp
theorem lenA {d : String} {ps : List FieldType} {r : Option FieldType} (hd : parseMethodDescriptor d = some ⟨ps, r⟩) {L : List Value} (hl : L.length = ps.length) : ∀ sig, parseMethodDescriptor d = some sig → L.length = sig.parameters.length := lenOf hd hl
theorem call_static (X : Sd Z y bytes maxL ret p l e R s m args below meth c n0 h kc ks T) {rm : Room} {ybytes : ByteArray} {yL : Nat} {yret : Option FieldType} {z : MethodName} {Qc : Option Value → Heap → Prop} {pc n index W : Nat} {ls : Array Slot} {st rest argsL : List Value} (hd : decode bytes pc = .ok (.invokestatic index, 3)) (w1 : (Cond.methodLink y.cls index z).before a0 Z = true) (w2 : (Cond.static z).before a0 Z = true) (wc : (Cond.code z ybytes yL yret).before a0 Z = true) (wi : (Cond.initialized z.cls).before a0 Z = true) (hy : z.cls ≠ "java/lang/invoke/MethodHandle" ∧ z.cls ≠ "java/lang/invoke/VarHandle") (hC : Ctr l Z z ybytes yL yret [] rm n0 argsL.toArray h Qc) (hst : st = argsL.reverse ++ rest) (hsize : ls.size = maxL) (hlen : ∀ sig, parseMethodDescriptor z.desc = some sig → argsL.length = sig.parameters.length) (hW : (rest.map fun v => v.category).sum ≤ W) (hfr : rm.frames + 1 ≤ R.frames) (hlo : W + (yL + 11) + rm.locals ≤ R.locals) (hce : kc + rm.cells ≤ R.cells) (hsl : ks + rm.slots ≤ R.slots) (hn : pc + 3 = n) (K : ∀ T' h' v, Sd Z y bytes maxL ret p l e R s m args below meth c n0 h' (kc + rm.cells) (ks + rm.slots) T' → Qc v h' → Run p e below s n0 fc fs Q (T'.setTop (mkF m n ls (v.toList ++ rest)))) : Run p e below s n0 fc fs Q (T.setTop (mkF m pc ls st)) := by
  subst hn hst; obtain ⟨q, L, i, j, Y, r1, r2, r3, r4⟩ := X
  have hC' : MetFree l z (head1 [Cond.code z ybytes yL yret] rm) (fun a' U => a' = argsL.toArray ∧ Z.Warmed39 U.vm ∧ U.heap = h) (fun _ _ _ _ _ => True) (fun _ U o U' => ∃ v L, o = .returned v ∧ (Qc v U'.heap ∧ Fr n0 L) ∧ FrameEnd U o U' L rm.cells rm.slots) := hC
  have hB := backOf (W := W) (R := R) (p := p) (e := e) (below := below) (args := args) (len := 3) (Q := fun v hh L => Qc v hh ∧ Fr n0 L) hC' q.2.1 wc wi hfr hlo
  obtain ⟨v, vm₁, ⟨T', L', k', n'⟩, -, Y', ⟨Lc, hQ, l', y', z'⟩, stp⟩ := Jvm.LawKit.callS Y q.1 (y := z) q.2.2.2.2.2.2.1 (mvT q.2.1 w1) (mvT q.2.1 w2) (mvT q.2.1 wi) (mvT q.2.1 wc) hy hB (g := mkF m pc ls (argsL.reverse ++ rest)) rfl (by rw [q.2.2.2.1]; exact hsize) (argsL := argsL) (rest := rest) hlen rfl (by simpa using hW) (q.2.2.1 ▸ hd) (fun _ _ => ⟨rfl, r1, by dsimp only [Pt.cells]; omega, by dsimp only [Pt.slots]; omega⟩)
  dsimp only [Pt.U, Pt.locs, Pt.cells, Pt.slots] at Y' l' y' z' stp hQ
  obtain ⟨hQ1, hQ2⟩ := hQ
  subst l' y' z'
  exact (K T' T'.heap v ⟨q, _, _, _, Y', rfl, Fr.app r2 hQ2, by omega, by omega⟩ hQ1).st fun t k => stp t k
theorem call_static_v (X : Sd Z y bytes maxL ret p l e R s m args below meth c n0 h kc ks T) {rm : Room} {ybytes : ByteArray} {yL : Nat} {yret : Option FieldType} {z : MethodName} {Qv : Value → Heap → Prop} {pc n index W : Nat} {ls : Array Slot} {st rest argsL : List Value} (hd : decode bytes pc = .ok (.invokestatic index, 3)) (w1 : (Cond.methodLink y.cls index z).before a0 Z = true) (w2 : (Cond.static z).before a0 Z = true) (wc : (Cond.code z ybytes yL yret).before a0 Z = true) (wi : (Cond.initialized z.cls).before a0 Z = true) (hy : z.cls ≠ "java/lang/invoke/MethodHandle" ∧ z.cls ≠ "java/lang/invoke/VarHandle") (hC : Ctr l Z z ybytes yL yret [] rm n0 argsL.toArray h (Rt Qv)) (hst : st = argsL.reverse ++ rest) (hsize : ls.size = maxL) (hlen : ∀ sig, parseMethodDescriptor z.desc = some sig → argsL.length = sig.parameters.length) (hW : (rest.map fun v => v.category).sum ≤ W) (hfr : rm.frames + 1 ≤ R.frames) (hlo : W + (yL + 11) + rm.locals ≤ R.locals) (hce : kc + rm.cells ≤ R.cells) (hsl : ks + rm.slots ≤ R.slots) (hn : pc + 3 = n) (K : ∀ T' h' w, Sd Z y bytes maxL ret p l e R s m args below meth c n0 h' (kc + rm.cells) (ks + rm.slots) T' → Qv w h' → Run p e below s n0 fc fs Q (T'.setTop (mkF m n ls (w :: rest)))) : Run p e below s n0 fc fs Q (T.setTop (mkF m pc ls st)) :=
  call_static X hd w1 w2 wc wi hy hC hst hsize hlen hW hfr hlo hce hsl hn fun T' h' v X' q => by obtain ⟨w, rfl, q⟩ := q; exact K T' h' w X' q
theorem call_static_n (X : Sd Z y bytes maxL ret p l e R s m args below meth c n0 h kc ks T) {rm : Room} {ybytes : ByteArray} {yL : Nat} {yret : Option FieldType} {z : MethodName} {Qn : Heap → Prop} {pc n index W : Nat} {ls : Array Slot} {st rest argsL : List Value} (hd : decode bytes pc = .ok (.invokestatic index, 3)) (w1 : (Cond.methodLink y.cls index z).before a0 Z = true) (w2 : (Cond.static z).before a0 Z = true) (wc : (Cond.code z ybytes yL yret).before a0 Z = true) (wi : (Cond.initialized z.cls).before a0 Z = true) (hy : z.cls ≠ "java/lang/invoke/MethodHandle" ∧ z.cls ≠ "java/lang/invoke/VarHandle") (hC : Ctr l Z z ybytes yL yret [] rm n0 argsL.toArray h (Rn Qn)) (hst : st = argsL.reverse ++ rest) (hsize : ls.size = maxL) (hlen : ∀ sig, parseMethodDescriptor z.desc = some sig → argsL.length = sig.parameters.length) (hW : (rest.map fun v => v.category).sum ≤ W) (hfr : rm.frames + 1 ≤ R.frames) (hlo : W + (yL + 11) + rm.locals ≤ R.locals) (hce : kc + rm.cells ≤ R.cells) (hsl : ks + rm.slots ≤ R.slots) (hn : pc + 3 = n) (K : ∀ T' h', Sd Z y bytes maxL ret p l e R s m args below meth c n0 h' (kc + rm.cells) (ks + rm.slots) T' → Qn h' → Run p e below s n0 fc fs Q (T'.setTop (mkF m n ls rest))) : Run p e below s n0 fc fs Q (T.setTop (mkF m pc ls st)) :=
  call_static X hd w1 w2 wc wi hy hC hst hsize hlen hW hfr hlo hce hsl hn fun T' h' v X' q => by obtain ⟨rfl, q⟩ := q; exact K T' h' X' q
theorem call_virtual (X : Sd Z y bytes maxL ret p l e R s m args below meth c n0 h kc ks T) {rm : Room} {ybytes : ByteArray} {yL : Nat} {yret : Option FieldType} {z : MethodName} {Qc : Option Value → Heap → Prop} {pc n index W : Nat} {ls : Array Slot} {st rest argsL : List Value} {a : Addr} {C : String} {yv : MethodName} (hd : decode bytes pc = .ok (.invokevirtual index, 3)) (w1 : (Cond.methodLink y.cls index yv).before a0 Z = true) (w2 : (Cond.declares yv).before a0 Z = true) (w3 : (Cond.instanceMethod z).before a0 Z = true) (w4 : (Cond.selects C yv z).before a0 Z = true) (hnf : ∀ {s' : State}, Z.Warmed39 s'.vm → NotFace s' yv) (wc : (Cond.code z ybytes yL yret).before a0 Z = true) (wi : (Cond.initialized z.cls).before a0 Z = true) (hy : yv.cls ≠ "java/lang/invoke/MethodHandle" ∧ yv.cls ≠ "java/lang/invoke/VarHandle") (E : Exa Z h a C) (hC : Ctr l Z z ybytes yL yret [] rm n0 (.ref a :: argsL).toArray h Qc) (hst : st = argsL.reverse ++ .ref a :: rest) (hsize : ls.size = maxL) (hlen : ∀ sig, parseMethodDescriptor yv.desc = some sig → argsL.length = sig.parameters.length) (hW : (rest.map fun v => v.category).sum ≤ W) (hfr : rm.frames + 1 ≤ R.frames) (hlo : W + (yL + 11) + rm.locals ≤ R.locals) (hce : kc + rm.cells ≤ R.cells) (hsl : ks + rm.slots ≤ R.slots) (hn : pc + 3 = n) (K : ∀ T' h' v, Sd Z y bytes maxL ret p l e R s m args below meth c n0 h' (kc + rm.cells) (ks + rm.slots) T' → Qc v h' → Run p e below s n0 fc fs Q (T'.setTop (mkF m n ls (v.toList ++ rest)))) : Run p e below s n0 fc fs Q (T.setTop (mkF m pc ls st)) := by
  subst hn hst; obtain ⟨q, L, i, j, Y, r1, r2, r3, r4⟩ := X
  have hC' : MetFree l z (head1 [Cond.code z ybytes yL yret] rm) (fun a' U => a' = (.ref a :: argsL).toArray ∧ Z.Warmed39 U.vm ∧ U.heap = h) (fun _ _ _ _ _ => True) (fun _ U o U' => ∃ v L, o = .returned v ∧ (Qc v U'.heap ∧ Fr n0 L) ∧ FrameEnd U o U' L rm.cells rm.slots) := hC
  have hB := backOf (W := W) (R := R) (p := p) (e := e) (below := below) (args := args) (len := 3) (Q := fun v hh L => Qc v hh ∧ Fr n0 L) hC' q.2.1 wc wi hfr hlo
  obtain ⟨cq, kq, qa, qb, qc⟩ := isOf (T := T) q.2.1 r1 E
  obtain ⟨v, vm₁, ⟨T', L', k', n'⟩, -, Y', ⟨Lc, hQ, l', y', z'⟩, stp⟩ := Y.virtualBack q.1 (y := yv) (z := z) q.2.2.2.2.2.2.1 (mvT q.2.1 w1) (mvT q.2.1 w2) (hnf q.2.1) (mvT q.2.1 w4) (mvT q.2.1 w3) hy hB qa qc (g := mkF m pc ls (argsL.reverse ++ .ref a :: rest)) rfl (by rw [q.2.2.2.1]; exact hsize) (Steps.refl _) (argsL := argsL) (rest := rest) hlen rfl (by simpa using hW) (q.2.2.1 ▸ hd) (fun _ _ => ⟨rfl, r1, by dsimp only [Pt.cells]; omega, by dsimp only [Pt.slots]; omega⟩)
  dsimp only [Pt.U, Pt.locs, Pt.cells, Pt.slots] at Y' l' y' z' stp hQ
  obtain ⟨hQ1, hQ2⟩ := hQ
  subst l' y' z'
  exact (K T' T'.heap v ⟨q, _, _, _, Y', rfl, Fr.app r2 hQ2, by omega, by omega⟩ hQ1).st fun t k => stp.trans k
theorem call_virtual_v (X : Sd Z y bytes maxL ret p l e R s m args below meth c n0 h kc ks T) {rm : Room} {ybytes : ByteArray} {yL : Nat} {yret : Option FieldType} {z : MethodName} {Qv : Value → Heap → Prop} {pc n index W : Nat} {ls : Array Slot} {st rest argsL : List Value} {a : Addr} {C : String} {yv : MethodName} (hd : decode bytes pc = .ok (.invokevirtual index, 3)) (w1 : (Cond.methodLink y.cls index yv).before a0 Z = true) (w2 : (Cond.declares yv).before a0 Z = true) (w3 : (Cond.instanceMethod z).before a0 Z = true) (w4 : (Cond.selects C yv z).before a0 Z = true) (hnf : ∀ {s' : State}, Z.Warmed39 s'.vm → NotFace s' yv) (wc : (Cond.code z ybytes yL yret).before a0 Z = true) (wi : (Cond.initialized z.cls).before a0 Z = true) (hy : yv.cls ≠ "java/lang/invoke/MethodHandle" ∧ yv.cls ≠ "java/lang/invoke/VarHandle") (E : Exa Z h a C) (hC : Ctr l Z z ybytes yL yret [] rm n0 (.ref a :: argsL).toArray h (Rt Qv)) (hst : st = argsL.reverse ++ .ref a :: rest) (hsize : ls.size = maxL) (hlen : ∀ sig, parseMethodDescriptor yv.desc = some sig → argsL.length = sig.parameters.length) (hW : (rest.map fun v => v.category).sum ≤ W) (hfr : rm.frames + 1 ≤ R.frames) (hlo : W + (yL + 11) + rm.locals ≤ R.locals) (hce : kc + rm.cells ≤ R.cells) (hsl : ks + rm.slots ≤ R.slots) (hn : pc + 3 = n) (K : ∀ T' h' w, Sd Z y bytes maxL ret p l e R s m args below meth c n0 h' (kc + rm.cells) (ks + rm.slots) T' → Qv w h' → Run p e below s n0 fc fs Q (T'.setTop (mkF m n ls (w :: rest)))) : Run p e below s n0 fc fs Q (T.setTop (mkF m pc ls st)) :=
  call_virtual X hd w1 w2 w3 w4 hnf wc wi hy E hC hst hsize hlen hW hfr hlo hce hsl hn fun T' h' v X' q => by obtain ⟨w, rfl, q⟩ := q; exact K T' h' w X' q
theorem call_virtual_n (X : Sd Z y bytes maxL ret p l e R s m args below meth c n0 h kc ks T) {rm : Room} {ybytes : ByteArray} {yL : Nat} {yret : Option FieldType} {z : MethodName} {Qn : Heap → Prop} {pc n index W : Nat} {ls : Array Slot} {st rest argsL : List Value} {a : Addr} {C : String} {yv : MethodName} (hd : decode bytes pc = .ok (.invokevirtual index, 3)) (w1 : (Cond.methodLink y.cls index yv).before a0 Z = true) (w2 : (Cond.declares yv).before a0 Z = true) (w3 : (Cond.instanceMethod z).before a0 Z = true) (w4 : (Cond.selects C yv z).before a0 Z = true) (hnf : ∀ {s' : State}, Z.Warmed39 s'.vm → NotFace s' yv) (wc : (Cond.code z ybytes yL yret).before a0 Z = true) (wi : (Cond.initialized z.cls).before a0 Z = true) (hy : yv.cls ≠ "java/lang/invoke/MethodHandle" ∧ yv.cls ≠ "java/lang/invoke/VarHandle") (E : Exa Z h a C) (hC : Ctr l Z z ybytes yL yret [] rm n0 (.ref a :: argsL).toArray h (Rn Qn)) (hst : st = argsL.reverse ++ .ref a :: rest) (hsize : ls.size = maxL) (hlen : ∀ sig, parseMethodDescriptor yv.desc = some sig → argsL.length = sig.parameters.length) (hW : (rest.map fun v => v.category).sum ≤ W) (hfr : rm.frames + 1 ≤ R.frames) (hlo : W + (yL + 11) + rm.locals ≤ R.locals) (hce : kc + rm.cells ≤ R.cells) (hsl : ks + rm.slots ≤ R.slots) (hn : pc + 3 = n) (K : ∀ T' h', Sd Z y bytes maxL ret p l e R s m args below meth c n0 h' (kc + rm.cells) (ks + rm.slots) T' → Qn h' → Run p e below s n0 fc fs Q (T'.setTop (mkF m n ls rest))) : Run p e below s n0 fc fs Q (T.setTop (mkF m pc ls st)) :=
  call_virtual X hd w1 w2 w3 w4 hnf wc wi hy E hC hst hsize hlen hW hfr hlo hce hsl hn fun T' h' v X' q => by obtain ⟨rfl, q⟩ := q; exact K T' h' X' q
theorem joinT (X : Sd Z y bytes maxL ret p l e R s m args below meth c n0 h kc ks T) {α : Type} (P : α → Prop) (f : α → JFrame) {t : State} (J : ∀ T' v, Sd Z y bytes maxL ret p l e R s m args below meth c n0 h kc ks T' → P v → Run p e below s n0 fc fs Q (T'.setTop (f v))) (K : (∀ T' v, Sd Z y bytes maxL ret p l e R s m args below meth c n0 h kc ks T' → P v → Run p e below s n0 fc fs Q (T'.setTop (f v))) → Run p e below s n0 fc fs Q t) : Run p e below s n0 fc fs Q t := K J
theorem eqI_v {args : Array Value} {first s : State} {o : Option Outcome} {idx : List Nat} {t : Term} {z : Int32} (h : (Jvm.Cond.eq t (Term.int z)).value args first o s idx = some true) : t.eval args first o idx s = some (.int z) := by
  simp only [Jvm.Cond.value, Term.eval] at h
  cases ht : t.eval args first o idx s with
  | none => simp [ht] at h
  | some x => cases x <;> simp [ht] at h ⊢; exact h
end A
end Jvm.OwnK
namespace Jvm.Pilot.@@N@@
open Jvm Jvm.ClassFile Sem Op Lib Jvm.Free Jvm.Stand Jvm.LawKit Jvm.RoadKit Jvm.OwnK Bundle Jvm.Pilot.@@N@@.Jvm.D
def own_sel (x0 x1 x2 x3 x4 x5 x6 x7 : Addr) (p : Int32) : Addr := if p = 0 then x0 else if p = 1 then x1 else if p = 2 then x2 else if p = 3 then x3 else if p = 4 then x4 else if p = 5 then x5 else if p = 6 then x6 else x7
theorem own_cases (x : Int32) : x &&& 7 = 0 ∨ x &&& 7 = 1 ∨ x &&& 7 = 2 ∨ x &&& 7 = 3 ∨ x &&& 7 = 4 ∨ x &&& 7 = 5 ∨ x &&& 7 = 6 ∨ x &&& 7 = 7 := by
  have h1 := c_mask x 7 3 (by decide) (by decide)
  have h3 : (x &&& 7).toInt = 0 ∨ (x &&& 7).toInt = 1 ∨ (x &&& 7).toInt = 2 ∨ (x &&& 7).toInt = 3 ∨ (x &&& 7).toInt = 4 ∨ (x &&& 7).toInt = 5 ∨ (x &&& 7).toInt = 6 ∨ (x &&& 7).toInt = 7 := by omega
  rcases h3 with h | h | h | h | h | h | h | h
  · exact Or.inl (Int32.toInt_inj.mp h)
  · exact Or.inr (Or.inl (Int32.toInt_inj.mp h))
  · exact Or.inr (Or.inr (Or.inl (Int32.toInt_inj.mp h)))
  · exact Or.inr (Or.inr (Or.inr (Or.inl (Int32.toInt_inj.mp h))))
  · exact Or.inr (Or.inr (Or.inr (Or.inr (Or.inl (Int32.toInt_inj.mp h)))))
  · exact Or.inr (Or.inr (Or.inr (Or.inr (Or.inr (Or.inl (Int32.toInt_inj.mp h))))))
  · exact Or.inr (Or.inr (Or.inr (Or.inr (Or.inr (Or.inr (Or.inl (Int32.toInt_inj.mp h)))))))
  · exact Or.inr (Or.inr (Or.inr (Or.inr (Or.inr (Or.inr (Or.inr ((Int32.toInt_inj.mp h))))))))
theorem pn_com_example_formal_model_translator_formalmodeltranslator_classicalb_BinderHasEventBFormPinLaw : plainName "com/example/formal_model_translator/formalmodeltranslator/classicalb/BinderHasEventBFormPinLaw" = true := by first | (simp [plainName, overriddenIn]; done) | decide +kernel
theorem d1_0 : decode method_2_code 0 = .ok (.iload_n 0, 1) := by decide +kernel
theorem d1_1 : decode method_2_code 1 = .ok (.ifCond .ne 7, 3) := by decide +kernel
theorem d1_4 : decode method_2_code 4 = .ok (.getstatic 7, 3) := by decide +kernel
theorem d1_7 : decode method_2_code 7 = .ok (.areturn, 1) := by decide +kernel
theorem d1_8 : decode method_2_code 8 = .ok (.iload_n 0, 1) := by decide +kernel
theorem d1_9 : decode method_2_code 9 = .ok (.iconst 1, 1) := by decide +kernel
theorem d1_10 : decode method_2_code 10 = .ok (.if_icmp .ne 7, 3) := by decide +kernel
theorem d1_13 : decode method_2_code 13 = .ok (.getstatic 13, 3) := by decide +kernel
theorem d1_16 : decode method_2_code 16 = .ok (.areturn, 1) := by decide +kernel
theorem d1_17 : decode method_2_code 17 = .ok (.iload_n 0, 1) := by decide +kernel
theorem d1_18 : decode method_2_code 18 = .ok (.iconst 2, 1) := by decide +kernel
theorem d1_19 : decode method_2_code 19 = .ok (.if_icmp .ne 7, 3) := by decide +kernel
theorem d1_22 : decode method_2_code 22 = .ok (.getstatic 16, 3) := by decide +kernel
theorem d1_25 : decode method_2_code 25 = .ok (.areturn, 1) := by decide +kernel
theorem d1_26 : decode method_2_code 26 = .ok (.iload_n 0, 1) := by decide +kernel
theorem d1_27 : decode method_2_code 27 = .ok (.iconst 3, 1) := by decide +kernel
theorem d1_28 : decode method_2_code 28 = .ok (.if_icmp .ne 7, 3) := by decide +kernel
theorem d1_31 : decode method_2_code 31 = .ok (.getstatic 19, 3) := by decide +kernel
theorem d1_34 : decode method_2_code 34 = .ok (.areturn, 1) := by decide +kernel
theorem d1_35 : decode method_2_code 35 = .ok (.iload_n 0, 1) := by decide +kernel
theorem d1_36 : decode method_2_code 36 = .ok (.iconst 4, 1) := by decide +kernel
theorem d1_37 : decode method_2_code 37 = .ok (.if_icmp .ne 7, 3) := by decide +kernel
theorem d1_40 : decode method_2_code 40 = .ok (.getstatic 22, 3) := by decide +kernel
theorem d1_43 : decode method_2_code 43 = .ok (.areturn, 1) := by decide +kernel
theorem d1_44 : decode method_2_code 44 = .ok (.iload_n 0, 1) := by decide +kernel
theorem d1_45 : decode method_2_code 45 = .ok (.iconst 5, 1) := by decide +kernel
theorem d1_46 : decode method_2_code 46 = .ok (.if_icmp .ne 7, 3) := by decide +kernel
theorem d1_49 : decode method_2_code 49 = .ok (.getstatic 25, 3) := by decide +kernel
theorem d1_52 : decode method_2_code 52 = .ok (.areturn, 1) := by decide +kernel
theorem d1_53 : decode method_2_code 53 = .ok (.iload_n 0, 1) := by decide +kernel
theorem d1_54 : decode method_2_code 54 = .ok (.bipush 6, 2) := by decide +kernel
theorem d1_56 : decode method_2_code 56 = .ok (.if_icmp .ne 7, 3) := by decide +kernel
theorem d1_59 : decode method_2_code 59 = .ok (.getstatic 28, 3) := by decide +kernel
theorem d1_62 : decode method_2_code 62 = .ok (.areturn, 1) := by decide +kernel
theorem d1_63 : decode method_2_code 63 = .ok (.getstatic 31, 3) := by decide +kernel
theorem d1_66 : decode method_2_code 66 = .ok (.areturn, 1) := by decide +kernel
theorem ef_rm1 (m : MethodId) (p0 : Int32) : entryFrame m #[(.int p0)] 1 = mkF m 0 #[.val (.int p0)] [] := by first | (simp [entryFrame, mkF, argsToLocals, Value.category]; done) | rfl
set_option maxRecDepth 65536 in
set_option maxHeartbeats 40000000 in
theorem rm1 (l : Launch) (Z : State) (a0 : Array Value) (hw : ∀ d ∈ tables_1, d.before a0 Z = true) (ws : List Jvm.Cond) (p0 : Int32) (h0 : Heap) (n0 : Nat) (a_FORALL : Addr) (S_FORALL : Sta Z h0 "com/example/formal_model_translator/formalmodeltranslator/classicalb/Binder" "FORALL" "Lcom/example/formal_model_translator/formalmodeltranslator/classicalb/Binder;" (.ref a_FORALL)) (E_FORALL : Exa Z h0 a_FORALL "com/example/formal_model_translator/formalmodeltranslator/classicalb/Binder") (a_FORALL_opening : Addr) (F_FORALL_opening : Fld Z h0 a_FORALL "com/example/formal_model_translator/formalmodeltranslator/classicalb/Binder" "opening" "Ljava/lang/String;" (.ref a_FORALL_opening)) (E_FORALL_opening : Exa Z h0 a_FORALL_opening "java/lang/String") (a_LAMBDA : Addr) (S_LAMBDA : Sta Z h0 "com/example/formal_model_translator/formalmodeltranslator/classicalb/Binder" "LAMBDA" "Lcom/example/formal_model_translator/formalmodeltranslator/classicalb/Binder;" (.ref a_LAMBDA)) (E_LAMBDA : Exa Z h0 a_LAMBDA "com/example/formal_model_translator/formalmodeltranslator/classicalb/Binder") (a_LAMBDA_opening : Addr) (F_LAMBDA_opening : Fld Z h0 a_LAMBDA "com/example/formal_model_translator/formalmodeltranslator/classicalb/Binder" "opening" "Ljava/lang/String;" (.ref a_LAMBDA_opening)) (E_LAMBDA_opening : Exa Z h0 a_LAMBDA_opening "java/lang/String") (a_SUM : Addr) (S_SUM : Sta Z h0 "com/example/formal_model_translator/formalmodeltranslator/classicalb/Binder" "SUM" "Lcom/example/formal_model_translator/formalmodeltranslator/classicalb/Binder;" (.ref a_SUM)) (E_SUM : Exa Z h0 a_SUM "com/example/formal_model_translator/formalmodeltranslator/classicalb/Binder") (F_SUM_opening : Fld Z h0 a_SUM "com/example/formal_model_translator/formalmodeltranslator/classicalb/Binder" "opening" "Ljava/lang/String;" .null) (a_PRODUCT : Addr) (S_PRODUCT : Sta Z h0 "com/example/formal_model_translator/formalmodeltranslator/classicalb/Binder" "PRODUCT" "Lcom/example/formal_model_translator/formalmodeltranslator/classicalb/Binder;" (.ref a_PRODUCT)) (E_PRODUCT : Exa Z h0 a_PRODUCT "com/example/formal_model_translator/formalmodeltranslator/classicalb/Binder") (F_PRODUCT_opening : Fld Z h0 a_PRODUCT "com/example/formal_model_translator/formalmodeltranslator/classicalb/Binder" "opening" "Ljava/lang/String;" .null) (a_COMPREHENSION : Addr) (S_COMPREHENSION : Sta Z h0 "com/example/formal_model_translator/formalmodeltranslator/classicalb/Binder" "COMPREHENSION" "Lcom/example/formal_model_translator/formalmodeltranslator/classicalb/Binder;" (.ref a_COMPREHENSION)) (E_COMPREHENSION : Exa Z h0 a_COMPREHENSION "com/example/formal_model_translator/formalmodeltranslator/classicalb/Binder") (a_COMPREHENSION_opening : Addr) (F_COMPREHENSION_opening : Fld Z h0 a_COMPREHENSION "com/example/formal_model_translator/formalmodeltranslator/classicalb/Binder" "opening" "Ljava/lang/String;" (.ref a_COMPREHENSION_opening)) (E_COMPREHENSION_opening : Exa Z h0 a_COMPREHENSION_opening "java/lang/String") (a_EXISTS : Addr) (S_EXISTS : Sta Z h0 "com/example/formal_model_translator/formalmodeltranslator/classicalb/Binder" "EXISTS" "Lcom/example/formal_model_translator/formalmodeltranslator/classicalb/Binder;" (.ref a_EXISTS)) (E_EXISTS : Exa Z h0 a_EXISTS "com/example/formal_model_translator/formalmodeltranslator/classicalb/Binder") (a_EXISTS_opening : Addr) (F_EXISTS_opening : Fld Z h0 a_EXISTS "com/example/formal_model_translator/formalmodeltranslator/classicalb/Binder" "opening" "Ljava/lang/String;" (.ref a_EXISTS_opening)) (E_EXISTS_opening : Exa Z h0 a_EXISTS_opening "java/lang/String") (a_QUANTIFIED_UNION : Addr) (S_QUANTIFIED_UNION : Sta Z h0 "com/example/formal_model_translator/formalmodeltranslator/classicalb/Binder" "QUANTIFIED_UNION" "Lcom/example/formal_model_translator/formalmodeltranslator/classicalb/Binder;" (.ref a_QUANTIFIED_UNION)) (E_QUANTIFIED_UNION : Exa Z h0 a_QUANTIFIED_UNION "com/example/formal_model_translator/formalmodeltranslator/classicalb/Binder") (a_QUANTIFIED_UNION_opening : Addr) (F_QUANTIFIED_UNION_opening : Fld Z h0 a_QUANTIFIED_UNION "com/example/formal_model_translator/formalmodeltranslator/classicalb/Binder" "opening" "Ljava/lang/String;" (.ref a_QUANTIFIED_UNION_opening)) (E_QUANTIFIED_UNION_opening : Exa Z h0 a_QUANTIFIED_UNION_opening "java/lang/String") (a_QUANTIFIED_INTERSECTION : Addr) (S_QUANTIFIED_INTERSECTION : Sta Z h0 "com/example/formal_model_translator/formalmodeltranslator/classicalb/Binder" "QUANTIFIED_INTERSECTION" "Lcom/example/formal_model_translator/formalmodeltranslator/classicalb/Binder;" (.ref a_QUANTIFIED_INTERSECTION)) (E_QUANTIFIED_INTERSECTION : Exa Z h0 a_QUANTIFIED_INTERSECTION "com/example/formal_model_translator/formalmodeltranslator/classicalb/Binder") (a_QUANTIFIED_INTERSECTION_opening : Addr) (F_QUANTIFIED_INTERSECTION_opening : Fld Z h0 a_QUANTIFIED_INTERSECTION "com/example/formal_model_translator/formalmodeltranslator/classicalb/Binder" "opening" "Ljava/lang/String;" (.ref a_QUANTIFIED_INTERSECTION_opening)) (E_QUANTIFIED_INTERSECTION_opening : Exa Z h0 a_QUANTIFIED_INTERSECTION_opening "java/lang/String") :
    Ctr l Z (⟨"com/example/formal_model_translator/formalmodeltranslator/classicalb/BinderHasEventBFormPinLaw", "pick", "(I)Lcom/example/formal_model_translator/formalmodeltranslator/classicalb/Binder;"⟩ : MethodName) method_2_code 1 (some (.object "com/example/formal_model_translator/formalmodeltranslator/classicalb/Binder")) ws ({ frames := 0, cells := 0, slots := 0, locals := 0 } : Room) n0 #[(.int p0)] h0 (Rt (fun w h => w = .ref (own_sel a_FORALL a_EXISTS a_COMPREHENSION a_LAMBDA a_QUANTIFIED_UNION a_QUANTIFIED_INTERSECTION a_SUM a_PRODUCT p0) ∧ h0 = h)) := by
  refine Ctr.of pn_com_example_formal_model_translator_formalmodeltranslator_classicalb_BinderHasEventBFormPinLaw (fun m => ef_rm1 m p0) ?_
  intro p e s m below meth c T0 X0
  refine OwnK.iloadN X0 (n := 1) d1_0 rfl rfl ?_
  refine OwnK.if_ne X0  (n1 := 8) (n2 := 4) d1_1 (by decide) rfl rfl (fun hc1 => ?_) (fun hc1 => ?_)
  · refine OwnK.iloadN X0 (n := 9) d1_8 rfl rfl ?_
    refine OwnK.iconst X0 (z := (1 : Int32)) (n := 10) d1_9 rfl rfl ?_
    refine OwnK.ic_ne X0  (n1 := 17) (n2 := 13) d1_10 (by decide) rfl rfl (fun hc10 => ?_) (fun hc10 => ?_)
    · refine OwnK.iloadN X0 (n := 18) d1_17 rfl rfl ?_
      refine OwnK.iconst X0 (z := (2 : Int32)) (n := 19) d1_18 rfl rfl ?_
      refine OwnK.ic_ne X0  (n1 := 26) (n2 := 22) d1_19 (by decide) rfl rfl (fun hc19 => ?_) (fun hc19 => ?_)
      · refine OwnK.iloadN X0 (n := 27) d1_26 rfl rfl ?_
        refine OwnK.iconst X0 (z := (3 : Int32)) (n := 28) d1_27 rfl rfl ?_
        refine OwnK.ic_ne X0  (n1 := 35) (n2 := 31) d1_28 (by decide) rfl rfl (fun hc28 => ?_) (fun hc28 => ?_)
        · refine OwnK.iloadN X0 (n := 36) d1_35 rfl rfl ?_
          refine OwnK.iconst X0 (z := (4 : Int32)) (n := 37) d1_36 rfl rfl ?_
          refine OwnK.ic_ne X0  (n1 := 44) (n2 := 40) d1_37 (by decide) rfl rfl (fun hc37 => ?_) (fun hc37 => ?_)
          · refine OwnK.iloadN X0 (n := 45) d1_44 rfl rfl ?_
            refine OwnK.iconst X0 (z := (5 : Int32)) (n := 46) d1_45 rfl rfl ?_
            refine OwnK.ic_ne X0  (n1 := 53) (n2 := 49) d1_46 (by decide) rfl rfl (fun hc46 => ?_) (fun hc46 => ?_)
            · refine OwnK.iloadN X0 (n := 54) d1_53 rfl rfl ?_
              refine OwnK.bipush X0 (z := (6 : Int32)) (n := 56) d1_54 rfl rfl ?_
              refine OwnK.ic_ne X0  (n1 := 63) (n2 := 59) d1_56 (by decide) rfl rfl (fun hc56 => ?_) (fun hc56 => ?_)
              · refine OwnK.getstatic X0 (n := 66) d1_63 (hw _ (List.mem_of_getElem? (i := 18) rfl)) Via.refl S_PRODUCT rfl ?_
                intro T1 X1
                exact OwnK.areturn X1 rfl rfl rfl d1_66 ⟨by simp [own_sel, hc1, hc10, hc19, hc28, hc37, hc46, hc56], rfl⟩ (by decide) (by decide)
              · refine OwnK.getstatic X0 (n := 62) d1_59 (hw _ (List.mem_of_getElem? (i := 16) rfl)) Via.refl S_SUM rfl ?_
                intro T2 X2
                exact OwnK.areturn X2 rfl rfl rfl d1_62 ⟨by simp [own_sel, hc1, hc10, hc19, hc28, hc37, hc46, hc56], rfl⟩ (by decide) (by decide)
            · refine OwnK.getstatic X0 (n := 52) d1_49 (hw _ (List.mem_of_getElem? (i := 26) rfl)) Via.refl S_QUANTIFIED_INTERSECTION rfl ?_
              intro T3 X3
              exact OwnK.areturn X3 rfl rfl rfl d1_52 ⟨by simp [own_sel, hc1, hc10, hc19, hc28, hc37, hc46], rfl⟩ (by decide) (by decide)
          · refine OwnK.getstatic X0 (n := 43) d1_40 (hw _ (List.mem_of_getElem? (i := 24) rfl)) Via.refl S_QUANTIFIED_UNION rfl ?_
            intro T4 X4
            exact OwnK.areturn X4 rfl rfl rfl d1_43 ⟨by simp [own_sel, hc1, hc10, hc19, hc28, hc37], rfl⟩ (by decide) (by decide)
        · refine OwnK.getstatic X0 (n := 34) d1_31 (hw _ (List.mem_of_getElem? (i := 14) rfl)) Via.refl S_LAMBDA rfl ?_
          intro T5 X5
          exact OwnK.areturn X5 rfl rfl rfl d1_34 ⟨by simp [own_sel, hc1, hc10, hc19, hc28], rfl⟩ (by decide) (by decide)
      · refine OwnK.getstatic X0 (n := 25) d1_22 (hw _ (List.mem_of_getElem? (i := 20) rfl)) Via.refl S_COMPREHENSION rfl ?_
        intro T6 X6
        exact OwnK.areturn X6 rfl rfl rfl d1_25 ⟨by simp [own_sel, hc1, hc10, hc19], rfl⟩ (by decide) (by decide)
    · refine OwnK.getstatic X0 (n := 16) d1_13 (hw _ (List.mem_of_getElem? (i := 22) rfl)) Via.refl S_EXISTS rfl ?_
      intro T7 X7
      exact OwnK.areturn X7 rfl rfl rfl d1_16 ⟨by simp [own_sel, hc1, hc10], rfl⟩ (by decide) (by decide)
  · refine OwnK.getstatic X0 (n := 7) d1_4 (hw _ (List.mem_of_getElem? (i := 4) rfl)) Via.refl S_FORALL rfl ?_
    intro T8 X8
    exact OwnK.areturn X8 rfl rfl rfl d1_7 ⟨by simp [own_sel, hc1], rfl⟩ (by decide) (by decide)
theorem pn_com_example_formal_model_translator_formalmodeltranslator_classicalb_Binder : plainName "com/example/formal_model_translator/formalmodeltranslator/classicalb/Binder" = true := by first | (simp [plainName, overriddenIn]; done) | decide +kernel
theorem d2_0 : decode prog_4_method_5_code 0 = .ok (.aload_n 0, 1) := by decide +kernel
theorem d2_1 : decode prog_4_method_5_code 1 = .ok (.getfield 51, 3) := by decide +kernel
theorem d2_4 : decode prog_4_method_5_code 4 = .ok (.ifnull 7, 3) := by decide +kernel
theorem d2_11 : decode prog_4_method_5_code 11 = .ok (.iconst 0, 1) := by decide +kernel
theorem d2_12 : decode prog_4_method_5_code 12 = .ok (.ireturn, 1) := by decide +kernel
theorem ef_rm2n (m : MethodId) (r0 : Addr) : entryFrame m #[(.ref r0)] 1 = mkF m 0 #[.val (.ref r0)] [] := by first | (simp [entryFrame, mkF, argsToLocals, Value.category]; done) | rfl
set_option maxRecDepth 65536 in
set_option maxHeartbeats 40000000 in
theorem rm2n (l : Launch) (Z : State) (a0 : Array Value) (hw : ∀ d ∈ tables_1, d.before a0 Z = true) (ws : List Jvm.Cond) (r0 : Addr) (h0 : Heap) (n0 : Nat) (Fo : Fld Z h0 r0 "com/example/formal_model_translator/formalmodeltranslator/classicalb/Binder" "opening" "Ljava/lang/String;" .null) :
    Ctr l Z (⟨"com/example/formal_model_translator/formalmodeltranslator/classicalb/Binder", "hasEventBForm", "()Z"⟩ : MethodName) prog_4_method_5_code 1 (some .boolean) ws ({ frames := 0, cells := 0, slots := 0, locals := 0 } : Room) n0 #[(.ref r0)] h0 (Rt (fun w h => w = .int 0 ∧ h0 = h)) := by
  refine Ctr.of pn_com_example_formal_model_translator_formalmodeltranslator_classicalb_Binder (fun m => ef_rm2n m r0) ?_
  intro p e s m below meth c T0 X0
  refine OwnK.aloadN X0 (n := 1) d2_0 rfl rfl rfl ?_
  refine OwnK.getfield X0 (n := 4) d2_1 (hw _ (List.mem_of_getElem? (i := 12) rfl)) Via.refl Fo rfl ?_
  intro T1 X1
  refine OwnK.ifnull_y X1 (n1 := 11) d2_4 (by decide) rfl ?_
  refine OwnK.iconst X1 (z := (0 : Int32)) (n := 12) d2_11 rfl rfl ?_
  exact OwnK.ireturn X1 rfl (Or.inr (Or.inl rfl)) rfl d2_12 ⟨rfl, rfl⟩ (by decide) (by decide)
theorem d2_7 : decode prog_4_method_5_code 7 = .ok (.iconst 1, 1) := by decide +kernel
theorem d2_8 : decode prog_4_method_5_code 8 = .ok (.goto 4, 3) := by decide +kernel
theorem ef_rm2r (m : MethodId) (r0 : Addr) : entryFrame m #[(.ref r0)] 1 = mkF m 0 #[.val (.ref r0)] [] := by first | (simp [entryFrame, mkF, argsToLocals, Value.category]; done) | rfl
set_option maxRecDepth 65536 in
set_option maxHeartbeats 40000000 in
theorem rm2r (l : Launch) (Z : State) (a0 : Array Value) (hw : ∀ d ∈ tables_1, d.before a0 Z = true) (ws : List Jvm.Cond) (r0 : Addr) (h0 : Heap) (n0 : Nat) (so : Addr) (Fo : Fld Z h0 r0 "com/example/formal_model_translator/formalmodeltranslator/classicalb/Binder" "opening" "Ljava/lang/String;" (.ref so)) :
    Ctr l Z (⟨"com/example/formal_model_translator/formalmodeltranslator/classicalb/Binder", "hasEventBForm", "()Z"⟩ : MethodName) prog_4_method_5_code 1 (some .boolean) ws ({ frames := 0, cells := 0, slots := 0, locals := 0 } : Room) n0 #[(.ref r0)] h0 (Rt (fun w h => w = .int 1 ∧ h0 = h)) := by
  refine Ctr.of pn_com_example_formal_model_translator_formalmodeltranslator_classicalb_Binder (fun m => ef_rm2r m r0) ?_
  intro p e s m below meth c T0 X0
  refine OwnK.aloadN X0 (n := 1) d2_0 rfl rfl rfl ?_
  refine OwnK.getfield X0 (n := 4) d2_1 (hw _ (List.mem_of_getElem? (i := 12) rfl)) Via.refl Fo rfl ?_
  intro T1 X1
  refine OwnK.ifnull_n X1 (n2 := 7) d2_4 rfl ?_
  refine OwnK.iconst X1 (z := (1 : Int32)) (n := 8) d2_7 rfl rfl ?_
  refine OwnK.goto X1 (n := 12) d2_8 (by decide) rfl ?_
  exact OwnK.ireturn X1 rfl (Or.inr (Or.inl rfl)) rfl d2_12 ⟨rfl, rfl⟩ (by decide) (by decide)
theorem pd__I_Lcom_example_formal_model_translator_formalmodeltranslator_classicalb_Binder_ : parseMethodDescriptor "(I)Lcom/example/formal_model_translator/formalmodeltranslator/classicalb/Binder;" = some ⟨[.int], some (.object "com/example/formal_model_translator/formalmodeltranslator/classicalb/Binder")⟩ := by decide +kernel
theorem pd___Z : parseMethodDescriptor "()Z" = some ⟨[], some .boolean⟩ := by decide +kernel
theorem ef_rm0 (m : MethodId) (p0 : Int32) : entryFrame m #[(.int p0)] maxLocals = mkF m 0 #[.val (.int p0), .unset, .unset, .unset] [] := by first | (simp [entryFrame, mkF, argsToLocals, Value.category, maxLocals]; done) | rfl
set_option maxRecDepth 65536 in
set_option maxHeartbeats 40000000 in
theorem rm0 (l : Launch) (Z : State) (a0 : Array Value) (hw : ∀ d ∈ tables_1, d.before a0 Z = true) (ws : List Jvm.Cond) (p0 : Int32) (h0 : Heap) (n0 : Nat) (a_FORALL : Addr) (S_FORALL : Sta Z h0 "com/example/formal_model_translator/formalmodeltranslator/classicalb/Binder" "FORALL" "Lcom/example/formal_model_translator/formalmodeltranslator/classicalb/Binder;" (.ref a_FORALL)) (E_FORALL : Exa Z h0 a_FORALL "com/example/formal_model_translator/formalmodeltranslator/classicalb/Binder") (a_FORALL_opening : Addr) (F_FORALL_opening : Fld Z h0 a_FORALL "com/example/formal_model_translator/formalmodeltranslator/classicalb/Binder" "opening" "Ljava/lang/String;" (.ref a_FORALL_opening)) (E_FORALL_opening : Exa Z h0 a_FORALL_opening "java/lang/String") (a_LAMBDA : Addr) (S_LAMBDA : Sta Z h0 "com/example/formal_model_translator/formalmodeltranslator/classicalb/Binder" "LAMBDA" "Lcom/example/formal_model_translator/formalmodeltranslator/classicalb/Binder;" (.ref a_LAMBDA)) (E_LAMBDA : Exa Z h0 a_LAMBDA "com/example/formal_model_translator/formalmodeltranslator/classicalb/Binder") (a_LAMBDA_opening : Addr) (F_LAMBDA_opening : Fld Z h0 a_LAMBDA "com/example/formal_model_translator/formalmodeltranslator/classicalb/Binder" "opening" "Ljava/lang/String;" (.ref a_LAMBDA_opening)) (E_LAMBDA_opening : Exa Z h0 a_LAMBDA_opening "java/lang/String") (a_SUM : Addr) (S_SUM : Sta Z h0 "com/example/formal_model_translator/formalmodeltranslator/classicalb/Binder" "SUM" "Lcom/example/formal_model_translator/formalmodeltranslator/classicalb/Binder;" (.ref a_SUM)) (E_SUM : Exa Z h0 a_SUM "com/example/formal_model_translator/formalmodeltranslator/classicalb/Binder") (F_SUM_opening : Fld Z h0 a_SUM "com/example/formal_model_translator/formalmodeltranslator/classicalb/Binder" "opening" "Ljava/lang/String;" .null) (a_PRODUCT : Addr) (S_PRODUCT : Sta Z h0 "com/example/formal_model_translator/formalmodeltranslator/classicalb/Binder" "PRODUCT" "Lcom/example/formal_model_translator/formalmodeltranslator/classicalb/Binder;" (.ref a_PRODUCT)) (E_PRODUCT : Exa Z h0 a_PRODUCT "com/example/formal_model_translator/formalmodeltranslator/classicalb/Binder") (F_PRODUCT_opening : Fld Z h0 a_PRODUCT "com/example/formal_model_translator/formalmodeltranslator/classicalb/Binder" "opening" "Ljava/lang/String;" .null) (a_COMPREHENSION : Addr) (S_COMPREHENSION : Sta Z h0 "com/example/formal_model_translator/formalmodeltranslator/classicalb/Binder" "COMPREHENSION" "Lcom/example/formal_model_translator/formalmodeltranslator/classicalb/Binder;" (.ref a_COMPREHENSION)) (E_COMPREHENSION : Exa Z h0 a_COMPREHENSION "com/example/formal_model_translator/formalmodeltranslator/classicalb/Binder") (a_COMPREHENSION_opening : Addr) (F_COMPREHENSION_opening : Fld Z h0 a_COMPREHENSION "com/example/formal_model_translator/formalmodeltranslator/classicalb/Binder" "opening" "Ljava/lang/String;" (.ref a_COMPREHENSION_opening)) (E_COMPREHENSION_opening : Exa Z h0 a_COMPREHENSION_opening "java/lang/String") (a_EXISTS : Addr) (S_EXISTS : Sta Z h0 "com/example/formal_model_translator/formalmodeltranslator/classicalb/Binder" "EXISTS" "Lcom/example/formal_model_translator/formalmodeltranslator/classicalb/Binder;" (.ref a_EXISTS)) (E_EXISTS : Exa Z h0 a_EXISTS "com/example/formal_model_translator/formalmodeltranslator/classicalb/Binder") (a_EXISTS_opening : Addr) (F_EXISTS_opening : Fld Z h0 a_EXISTS "com/example/formal_model_translator/formalmodeltranslator/classicalb/Binder" "opening" "Ljava/lang/String;" (.ref a_EXISTS_opening)) (E_EXISTS_opening : Exa Z h0 a_EXISTS_opening "java/lang/String") (a_QUANTIFIED_UNION : Addr) (S_QUANTIFIED_UNION : Sta Z h0 "com/example/formal_model_translator/formalmodeltranslator/classicalb/Binder" "QUANTIFIED_UNION" "Lcom/example/formal_model_translator/formalmodeltranslator/classicalb/Binder;" (.ref a_QUANTIFIED_UNION)) (E_QUANTIFIED_UNION : Exa Z h0 a_QUANTIFIED_UNION "com/example/formal_model_translator/formalmodeltranslator/classicalb/Binder") (a_QUANTIFIED_UNION_opening : Addr) (F_QUANTIFIED_UNION_opening : Fld Z h0 a_QUANTIFIED_UNION "com/example/formal_model_translator/formalmodeltranslator/classicalb/Binder" "opening" "Ljava/lang/String;" (.ref a_QUANTIFIED_UNION_opening)) (E_QUANTIFIED_UNION_opening : Exa Z h0 a_QUANTIFIED_UNION_opening "java/lang/String") (a_QUANTIFIED_INTERSECTION : Addr) (S_QUANTIFIED_INTERSECTION : Sta Z h0 "com/example/formal_model_translator/formalmodeltranslator/classicalb/Binder" "QUANTIFIED_INTERSECTION" "Lcom/example/formal_model_translator/formalmodeltranslator/classicalb/Binder;" (.ref a_QUANTIFIED_INTERSECTION)) (E_QUANTIFIED_INTERSECTION : Exa Z h0 a_QUANTIFIED_INTERSECTION "com/example/formal_model_translator/formalmodeltranslator/classicalb/Binder") (a_QUANTIFIED_INTERSECTION_opening : Addr) (F_QUANTIFIED_INTERSECTION_opening : Fld Z h0 a_QUANTIFIED_INTERSECTION "com/example/formal_model_translator/formalmodeltranslator/classicalb/Binder" "opening" "Ljava/lang/String;" (.ref a_QUANTIFIED_INTERSECTION_opening)) (E_QUANTIFIED_INTERSECTION_opening : Exa Z h0 a_QUANTIFIED_INTERSECTION_opening "java/lang/String") :
    Ctr l Z x code maxLocals ret ws room_1 n0 #[(.int p0)] h0 (Rt (fun w h => w = .int 1)) := by
  refine Ctr.of pn_com_example_formal_model_translator_formalmodeltranslator_classicalb_BinderHasEventBFormPinLaw (fun m => ef_rm0 m p0) ?_
  intro p e s m below meth c T0 X0
  refine OwnK.iloadN X0 (n := 1) at_0 rfl rfl ?_
  refine OwnK.bipush X0 (z := (7 : Int32)) (n := 3) at_1 rfl rfl ?_
  refine OwnK.iand X0 (n := 4) at_3 rfl ?_
  refine OwnK.istoreN X0 (l' := #[.val (.int p0), .val (.int (p0 &&& (7 : Int32))), .unset, .unset]) (n := 5) at_4 rfl rfl ?_
  refine OwnK.iloadN X0 (n := 6) at_5 rfl rfl ?_
  refine OwnK.call_static_v X0 (z := (⟨"com/example/formal_model_translator/formalmodeltranslator/classicalb/BinderHasEventBFormPinLaw", "pick", "(I)Lcom/example/formal_model_translator/formalmodeltranslator/classicalb/Binder;"⟩ : MethodName)) (n := 9) at_6 (hw _ (List.mem_of_getElem? (i := 0) rfl)) (hw _ (List.mem_of_getElem? (i := 1) rfl)) (hw _ (List.mem_of_getElem? (i := 3) rfl)) (hw _ (List.mem_of_getElem? (i := 2) rfl)) (by decide) (rm1 l Z a0 hw [] (p0 &&& (7 : Int32)) h0 n0 a_FORALL S_FORALL E_FORALL a_FORALL_opening F_FORALL_opening E_FORALL_opening a_LAMBDA S_LAMBDA E_LAMBDA a_LAMBDA_opening F_LAMBDA_opening E_LAMBDA_opening a_SUM S_SUM E_SUM F_SUM_opening a_PRODUCT S_PRODUCT E_PRODUCT F_PRODUCT_opening a_COMPREHENSION S_COMPREHENSION E_COMPREHENSION a_COMPREHENSION_opening F_COMPREHENSION_opening E_COMPREHENSION_opening a_EXISTS S_EXISTS E_EXISTS a_EXISTS_opening F_EXISTS_opening E_EXISTS_opening a_QUANTIFIED_UNION S_QUANTIFIED_UNION E_QUANTIFIED_UNION a_QUANTIFIED_UNION_opening F_QUANTIFIED_UNION_opening E_QUANTIFIED_UNION_opening a_QUANTIFIED_INTERSECTION S_QUANTIFIED_INTERSECTION E_QUANTIFIED_INTERSECTION a_QUANTIFIED_INTERSECTION_opening F_QUANTIFIED_INTERSECTION_opening E_QUANTIFIED_INTERSECTION_opening) (argsL := [(.int (p0 &&& (7 : Int32)))]) (rest := []) rfl rfl (OwnK.lenA pd__I_Lcom_example_formal_model_translator_formalmodeltranslator_classicalb_Binder_ rfl) (W := 0) (Nat.le_of_eq rfl) (by decide) (by decide) (by decide) (by decide) rfl ?_
  intro T1 h1 w1 X1 ⟨q1, q2⟩
  subst q1 q2
  have Esel : Exa Z h0 (own_sel a_FORALL a_EXISTS a_COMPREHENSION a_LAMBDA a_QUANTIFIED_UNION a_QUANTIFIED_INTERSECTION a_SUM a_PRODUCT (p0 &&& (7 : Int32))) "com/example/formal_model_translator/formalmodeltranslator/classicalb/Binder" := by rcases own_cases p0 with q | q | q | q | q | q | q | q <;> rw [q] <;> simp only [own_sel] <;> first | exact E_FORALL | exact E_EXISTS | exact E_COMPREHENSION | exact E_LAMBDA | exact E_QUANTIFIED_UNION | exact E_QUANTIFIED_INTERSECTION | exact E_SUM | exact E_PRODUCT
  refine OwnK.astoreN X1 (l' := #[.val (.int p0), .val (.int (p0 &&& (7 : Int32))), .val (.ref (own_sel a_FORALL a_EXISTS a_COMPREHENSION a_LAMBDA a_QUANTIFIED_UNION a_QUANTIFIED_INTERSECTION a_SUM a_PRODUCT (p0 &&& (7 : Int32)))), .unset]) (n := 10) at_9 rfl rfl rfl ?_
  refine OwnK.iloadN X1 (n := 11) at_10 rfl rfl ?_
  refine OwnK.bipush X1 (z := (6 : Int32)) (n := 13) at_11 rfl rfl ?_
  refine OwnK.ic_ge X1  (n1 := 20) (n2 := 16) at_13 (by decide) rfl rfl (fun hc13 => ?_) (fun hc13 => ?_)
  · refine OwnK.iconst X1 (z := (0 : Int32)) (n := 21) at_20 rfl rfl ?_
    refine OwnK.istoreN X1 (l' := #[.val (.int p0), .val (.int (p0 &&& (7 : Int32))), .val (.ref (own_sel a_FORALL a_EXISTS a_COMPREHENSION a_LAMBDA a_QUANTIFIED_UNION a_QUANTIFIED_INTERSECTION a_SUM a_PRODUCT (p0 &&& (7 : Int32)))), .val (.int (0 : Int32))]) (n := 22) at_21 rfl rfl ?_
    refine OwnK.aloadN X1 (n := 23) at_22 rfl rfl rfl ?_
    have Fo : Fld Z h0 (own_sel a_FORALL a_EXISTS a_COMPREHENSION a_LAMBDA a_QUANTIFIED_UNION a_QUANTIFIED_INTERSECTION a_SUM a_PRODUCT (p0 &&& (7 : Int32))) "com/example/formal_model_translator/formalmodeltranslator/classicalb/Binder" "opening" "Ljava/lang/String;" .null := by rcases own_cases p0 with q | q | q | q | q | q | q | q <;> rw [q] at hc13 ⊢ <;> first | (exact absurd (by decide) hc13) | (simp only [own_sel]; first | exact F_SUM_opening | exact F_PRODUCT_opening)
    refine OwnK.call_virtual_v X1 (z := (⟨"com/example/formal_model_translator/formalmodeltranslator/classicalb/Binder", "hasEventBForm", "()Z"⟩ : MethodName)) (yv := (⟨"com/example/formal_model_translator/formalmodeltranslator/classicalb/Binder", "hasEventBForm", "()Z"⟩ : MethodName)) (a := (own_sel a_FORALL a_EXISTS a_COMPREHENSION a_LAMBDA a_QUANTIFIED_UNION a_QUANTIFIED_INTERSECTION a_SUM a_PRODUCT (p0 &&& (7 : Int32)))) (C := "com/example/formal_model_translator/formalmodeltranslator/classicalb/Binder") (n := 26) at_23 (hw _ (List.mem_of_getElem? (i := 7) rfl)) (hw _ (List.mem_of_getElem? (i := 8) rfl)) (hw _ (List.mem_of_getElem? (i := 9) rfl)) (hw _ (List.mem_of_getElem? (i := 10) rfl)) (fun hz => notFace_of_selects (args := #[]) (mvT hz (hw _ (List.mem_of_getElem? (i := 10) rfl)))) (hw _ (List.mem_of_getElem? (i := 11) rfl)) (hw _ (List.mem_of_getElem? (i := 5) rfl)) (by decide) Esel (rm2n l Z a0 hw [] (own_sel a_FORALL a_EXISTS a_COMPREHENSION a_LAMBDA a_QUANTIFIED_UNION a_QUANTIFIED_INTERSECTION a_SUM a_PRODUCT (p0 &&& (7 : Int32))) h0 n0 Fo) (argsL := []) (rest := []) rfl rfl (OwnK.lenA pd___Z rfl) (W := 0) (Nat.le_of_eq rfl) (by decide) (by decide) (by decide) (by decide) rfl ?_
    intro T2 h2 w2 X2 ⟨q1, q2⟩
    subst q1 q2
    refine OwnK.iloadN X2 (n := 27) at_26 rfl rfl ?_
    refine OwnK.ic_ne X2  (n1 := 34) (n2 := 30) at_27 (by decide) rfl rfl (fun q => absurd ((by decide) : (0 : Int32) = (0 : Int32)) q) (fun _ => ?_)
    refine OwnK.iconst X2 (z := (1 : Int32)) (n := 31) at_30 rfl rfl ?_
    refine OwnK.goto X2 (n := 35) at_31 (by decide) rfl ?_
    exact OwnK.ireturn X2 rfl (Or.inr (Or.inl rfl)) rfl at_35 rfl (by decide) (by decide)
  · refine OwnK.iconst X1 (z := (1 : Int32)) (n := 17) at_16 rfl rfl ?_
    refine OwnK.goto X1 (n := 21) at_17 (by decide) rfl ?_
    refine OwnK.istoreN X1 (l' := #[.val (.int p0), .val (.int (p0 &&& (7 : Int32))), .val (.ref (own_sel a_FORALL a_EXISTS a_COMPREHENSION a_LAMBDA a_QUANTIFIED_UNION a_QUANTIFIED_INTERSECTION a_SUM a_PRODUCT (p0 &&& (7 : Int32)))), .val (.int (1 : Int32))]) (n := 22) at_21 rfl rfl ?_
    refine OwnK.aloadN X1 (n := 23) at_22 rfl rfl rfl ?_
    have Fo : ∃ o, Fld Z h0 (own_sel a_FORALL a_EXISTS a_COMPREHENSION a_LAMBDA a_QUANTIFIED_UNION a_QUANTIFIED_INTERSECTION a_SUM a_PRODUCT (p0 &&& (7 : Int32))) "com/example/formal_model_translator/formalmodeltranslator/classicalb/Binder" "opening" "Ljava/lang/String;" (.ref o) := by rcases own_cases p0 with q | q | q | q | q | q | q | q <;> rw [q] at hc13 ⊢ <;> first | (exact absurd hc13 (by decide)) | (simp only [own_sel]; first | exact ⟨_, F_FORALL_opening⟩ | exact ⟨_, F_EXISTS_opening⟩ | exact ⟨_, F_COMPREHENSION_opening⟩ | exact ⟨_, F_LAMBDA_opening⟩ | exact ⟨_, F_QUANTIFIED_UNION_opening⟩ | exact ⟨_, F_QUANTIFIED_INTERSECTION_opening⟩)
    obtain ⟨so, Fo⟩ := Fo
    refine OwnK.call_virtual_v X1 (z := (⟨"com/example/formal_model_translator/formalmodeltranslator/classicalb/Binder", "hasEventBForm", "()Z"⟩ : MethodName)) (yv := (⟨"com/example/formal_model_translator/formalmodeltranslator/classicalb/Binder", "hasEventBForm", "()Z"⟩ : MethodName)) (a := (own_sel a_FORALL a_EXISTS a_COMPREHENSION a_LAMBDA a_QUANTIFIED_UNION a_QUANTIFIED_INTERSECTION a_SUM a_PRODUCT (p0 &&& (7 : Int32)))) (C := "com/example/formal_model_translator/formalmodeltranslator/classicalb/Binder") (n := 26) at_23 (hw _ (List.mem_of_getElem? (i := 7) rfl)) (hw _ (List.mem_of_getElem? (i := 8) rfl)) (hw _ (List.mem_of_getElem? (i := 9) rfl)) (hw _ (List.mem_of_getElem? (i := 10) rfl)) (fun hz => notFace_of_selects (args := #[]) (mvT hz (hw _ (List.mem_of_getElem? (i := 10) rfl)))) (hw _ (List.mem_of_getElem? (i := 11) rfl)) (hw _ (List.mem_of_getElem? (i := 5) rfl)) (by decide) Esel (rm2r l Z a0 hw [] (own_sel a_FORALL a_EXISTS a_COMPREHENSION a_LAMBDA a_QUANTIFIED_UNION a_QUANTIFIED_INTERSECTION a_SUM a_PRODUCT (p0 &&& (7 : Int32))) h0 n0 so Fo) (argsL := []) (rest := []) rfl rfl (OwnK.lenA pd___Z rfl) (W := 0) (Nat.le_of_eq rfl) (by decide) (by decide) (by decide) (by decide) rfl ?_
    intro T3 h3 w3 X3 ⟨q1, q2⟩
    subst q1 q2
    refine OwnK.iloadN X3 (n := 27) at_26 rfl rfl ?_
    refine OwnK.ic_ne X3  (n1 := 34) (n2 := 30) at_27 (by decide) rfl rfl (fun q => absurd ((by decide) : (1 : Int32) = (1 : Int32)) q) (fun _ => ?_)
    refine OwnK.iconst X3 (z := (1 : Int32)) (n := 31) at_30 rfl rfl ?_
    refine OwnK.goto X3 (n := 35) at_31 (by decide) rfl ?_
    exact OwnK.ireturn X3 rfl (Or.inr (Or.inl rfl)) rfl at_35 rfl (by decide) (by decide)
set_option maxRecDepth 65536 in
set_option maxHeartbeats 40000000 in
theorem comes_1 {Post : Tables → Env → Array Value → State → Outcome → State → Prop} (hpost : ∀ tb e args s v u, (limb_1_1.after args s (.returned v) u = true ∧ limb_1_2.after args s (.returned v) u = true ∧ True) → FrameEnd s (.returned v) u (Jvm.fieldLocs frame_1_writes args s ++ Jvm.arrayLocs frame_1_arrays args s ++ Jvm.staticLocs frame_1_statics s) 0 0 → Post tb e args s (.returned v) u) :
    ArmFor flags0 classFile x code maxLocals ret World_1 tables_1 room_1 Calls_1 rest_1 Pre_1 Post := by
  intro l hfl _ _ p e ha hc hk s m args below hf hA hF happ hP
  obtain ⟨hcalls, hrest, hpre⟩ := hP
  obtain ⟨-, -, -, hnamed, -, -, -, hat⟩ := (Spec.applies_iff hf).mp happ
  obtain ⟨hg, hn⟩ := and_e (Cond.before_iff.mp (show (Jvm.Cond.and given_1 narrow_1).before args s = true from hpre))
  obtain ⟨g0, g1⟩ := and_e hg
  obtain ⟨w0, rfl⟩ : ∃ w0 : Value, args = #[w0] := by
    have hs : args.size = 1 := by simpa [Cond.value, given_1] using g0
    obtain ⟨L⟩ := args
    match L, hs with
    | [w0], _ => exact ⟨w0, rfl⟩
  have hw := fun d (hd : d ∈ tables_1) => atoms_spec (ws := Jvm.Cond.code x code maxLocals ret :: tables_1) hat d (List.mem_cons_of_mem _ hd)
  have hfit : Fit s := fun {y c} hc i hi => by
    obtain ⟨ha, rfl⟩ := Array.getElem?_eq_some_iff.mp hc
    have q := List.all_eq_true.mp ((Array.all_eq_true_iff_forall_mem.mp hF) _ (Array.getElem_mem ha)) i (List.mem_range.mpr hi)
    simpa [Array.getElem?_eq_getElem hi] using q
  obtain ⟨i0, e0⟩ := is_v g1
  obtain rfl : w0 = (.int i0) := Option.some.inj e0
  obtain ⟨c0, cc0⟩ := and_e hn
  obtain ⟨c1, cc1⟩ := and_e cc0
  obtain ⟨c2, cc2⟩ := and_e cc1
  obtain ⟨c3, cc3⟩ := and_e cc2
  obtain ⟨c4, cc4⟩ := and_e cc3
  obtain ⟨c5, cc5⟩ := and_e cc4
  obtain ⟨c6, cc6⟩ := and_e cc5
  obtain ⟨c7, cc7⟩ := and_e cc6
  obtain ⟨c8, cc8⟩ := and_e cc7
  obtain ⟨c9, cc9⟩ := and_e cc8
  obtain ⟨c10, cc10⟩ := and_e cc9
  obtain ⟨c11, cc11⟩ := and_e cc10
  obtain ⟨c12, cc12⟩ := and_e cc11
  obtain ⟨c13, cc13⟩ := and_e cc12
  obtain ⟨c14, c15⟩ := and_e cc13
  obtain ⟨a_FORALL, ev_FORALL⟩ := exa_v c0
  have S_FORALL := Sta.start ev_FORALL (Or.inr ⟨(hw _ (List.mem_of_getElem? (i := 5) rfl)), (hw _ (List.mem_of_getElem? (i := 6) rfl))⟩)
  have E_FORALL := Exa.start ev_FORALL c0
  obtain ⟨a_FORALL_opening, ev_FORALL_opening⟩ := exa_v c1
  have F_FORALL_opening := Fld.start (by rw [← fld_at ev_FORALL]; exact ev_FORALL_opening)
  have E_FORALL_opening := Exa.start ev_FORALL_opening c1
  obtain ⟨a_LAMBDA, ev_LAMBDA⟩ := exa_v c2
  have S_LAMBDA := Sta.start ev_LAMBDA (Or.inr ⟨(hw _ (List.mem_of_getElem? (i := 5) rfl)), (hw _ (List.mem_of_getElem? (i := 15) rfl))⟩)
  have E_LAMBDA := Exa.start ev_LAMBDA c2
  obtain ⟨a_LAMBDA_opening, ev_LAMBDA_opening⟩ := exa_v c3
  have F_LAMBDA_opening := Fld.start (by rw [← fld_at ev_LAMBDA]; exact ev_LAMBDA_opening)
  have E_LAMBDA_opening := Exa.start ev_LAMBDA_opening c3
  obtain ⟨a_SUM, ev_SUM⟩ := exa_v c4
  have S_SUM := Sta.start ev_SUM (Or.inr ⟨(hw _ (List.mem_of_getElem? (i := 5) rfl)), (hw _ (List.mem_of_getElem? (i := 17) rfl))⟩)
  have E_SUM := Exa.start ev_SUM c4
  have ev_SUM_opening := null_v c5
  have F_SUM_opening := Fld.start (by rw [← fld_at ev_SUM]; exact ev_SUM_opening)
  obtain ⟨a_PRODUCT, ev_PRODUCT⟩ := exa_v c6
  have S_PRODUCT := Sta.start ev_PRODUCT (Or.inr ⟨(hw _ (List.mem_of_getElem? (i := 5) rfl)), (hw _ (List.mem_of_getElem? (i := 19) rfl))⟩)
  have E_PRODUCT := Exa.start ev_PRODUCT c6
  have ev_PRODUCT_opening := null_v c7
  have F_PRODUCT_opening := Fld.start (by rw [← fld_at ev_PRODUCT]; exact ev_PRODUCT_opening)
  obtain ⟨a_COMPREHENSION, ev_COMPREHENSION⟩ := exa_v c8
  have S_COMPREHENSION := Sta.start ev_COMPREHENSION (Or.inr ⟨(hw _ (List.mem_of_getElem? (i := 5) rfl)), (hw _ (List.mem_of_getElem? (i := 21) rfl))⟩)
  have E_COMPREHENSION := Exa.start ev_COMPREHENSION c8
  obtain ⟨a_COMPREHENSION_opening, ev_COMPREHENSION_opening⟩ := exa_v c9
  have F_COMPREHENSION_opening := Fld.start (by rw [← fld_at ev_COMPREHENSION]; exact ev_COMPREHENSION_opening)
  have E_COMPREHENSION_opening := Exa.start ev_COMPREHENSION_opening c9
  obtain ⟨a_EXISTS, ev_EXISTS⟩ := exa_v c10
  have S_EXISTS := Sta.start ev_EXISTS (Or.inr ⟨(hw _ (List.mem_of_getElem? (i := 5) rfl)), (hw _ (List.mem_of_getElem? (i := 23) rfl))⟩)
  have E_EXISTS := Exa.start ev_EXISTS c10
  obtain ⟨a_EXISTS_opening, ev_EXISTS_opening⟩ := exa_v c11
  have F_EXISTS_opening := Fld.start (by rw [← fld_at ev_EXISTS]; exact ev_EXISTS_opening)
  have E_EXISTS_opening := Exa.start ev_EXISTS_opening c11
  obtain ⟨a_QUANTIFIED_UNION, ev_QUANTIFIED_UNION⟩ := exa_v c12
  have S_QUANTIFIED_UNION := Sta.start ev_QUANTIFIED_UNION (Or.inr ⟨(hw _ (List.mem_of_getElem? (i := 5) rfl)), (hw _ (List.mem_of_getElem? (i := 25) rfl))⟩)
  have E_QUANTIFIED_UNION := Exa.start ev_QUANTIFIED_UNION c12
  obtain ⟨a_QUANTIFIED_UNION_opening, ev_QUANTIFIED_UNION_opening⟩ := exa_v c13
  have F_QUANTIFIED_UNION_opening := Fld.start (by rw [← fld_at ev_QUANTIFIED_UNION]; exact ev_QUANTIFIED_UNION_opening)
  have E_QUANTIFIED_UNION_opening := Exa.start ev_QUANTIFIED_UNION_opening c13
  obtain ⟨a_QUANTIFIED_INTERSECTION, ev_QUANTIFIED_INTERSECTION⟩ := exa_v c14
  have S_QUANTIFIED_INTERSECTION := Sta.start ev_QUANTIFIED_INTERSECTION (Or.inr ⟨(hw _ (List.mem_of_getElem? (i := 5) rfl)), (hw _ (List.mem_of_getElem? (i := 27) rfl))⟩)
  have E_QUANTIFIED_INTERSECTION := Exa.start ev_QUANTIFIED_INTERSECTION c14
  obtain ⟨a_QUANTIFIED_INTERSECTION_opening, ev_QUANTIFIED_INTERSECTION_opening⟩ := exa_v c15
  have F_QUANTIFIED_INTERSECTION_opening := Fld.start (by rw [← fld_at ev_QUANTIFIED_INTERSECTION]; exact ev_QUANTIFIED_INTERSECTION_opening)
  have E_QUANTIFIED_INTERSECTION_opening := Exa.start ev_QUANTIFIED_INTERSECTION_opening c15
  obtain ⟨n, o, h1, h2, h3, v, L, rfl, ⟨⟨w, rfl, rfl⟩, N⟩, hq⟩ := rm0 l s _ hw tables_1 i0 s.heap s.heap.size a_FORALL S_FORALL E_FORALL a_FORALL_opening F_FORALL_opening E_FORALL_opening a_LAMBDA S_LAMBDA E_LAMBDA a_LAMBDA_opening F_LAMBDA_opening E_LAMBDA_opening a_SUM S_SUM E_SUM F_SUM_opening a_PRODUCT S_PRODUCT E_PRODUCT F_PRODUCT_opening a_COMPREHENSION S_COMPREHENSION E_COMPREHENSION a_COMPREHENSION_opening F_COMPREHENSION_opening E_COMPREHENSION_opening a_EXISTS S_EXISTS E_EXISTS a_EXISTS_opening F_EXISTS_opening E_EXISTS_opening a_QUANTIFIED_UNION S_QUANTIFIED_UNION E_QUANTIFIED_UNION a_QUANTIFIED_UNION_opening F_QUANTIFIED_UNION_opening E_QUANTIFIED_UNION_opening a_QUANTIFIED_INTERSECTION S_QUANTIFIED_INTERSECTION E_QUANTIFIED_INTERSECTION a_QUANTIFIED_INTERSECTION_opening F_QUANTIFIED_INTERSECTION_opening E_QUANTIFIED_INTERSECTION_opening p e ha hc hk s m _ below hf ((Spec.applies_iff_loose hf).mp happ).1 ⟨rfl, State.Warmed39.refl s, rfl⟩ trivial
  refine ⟨n, _, h1, h2, h3, hpost _ _ _ _ _ _ ⟨Cond.after_iff.mpr rfl, Cond.after_iff.mpr (eq_i res_at (Term.int_eval (1)) rfl), trivial⟩ ⟨hq.1, hq.2.1, (hq.2.2.sift fun y hy => Or.inr (N y hy)).mono (by decide) (by decide)⟩⟩
theorem main_1_1 : Claimed_1_1 := comes_1 fun _ _ _ _ _ _ h hF => ⟨h.1, hF⟩
theorem main_1_2 : Claimed_1_2 := comes_1 fun _ _ _ _ _ _ h hF => ⟨h.2.1, hF⟩
end Jvm.Pilot.@@N@@
namespace Jvm.Pilot.@@N@@
open Jvm Jvm.ClassFile Sem Op Lib Jvm.Free Jvm.Stand Jvm.Pilot.@@N@@.Jvm.D
/-! MADE BY PROGRAM (witnessworld.py) out of the Statement's table words and the real class files: 15 classes; the members and pool entries that the words name. The judged class is class 1, her method 2. -/
namespace start1
open Jvm.ClassFile
def u (s : String) : CpInfo := .utf8 (stringToUtf16 s)
/-- a pool by its gaps: so many unusable entries, then the entry; so many at the end -/
def gap : Nat → List CpInfo → List CpInfo
  | 0, r => r
  | n + 1, r => .unusable :: gap n r
def poolList (es : List (Nat × CpInfo)) (last : Nat) : List CpInfo := es.foldr (fun e r => gap e.1 (e.2 :: r)) (gap last [])
def pool (es : List (Nat × CpInfo)) (last : Nat) : Array CpInfo := ⟨poolList es last⟩
def fileOf (pool : Array CpInfo) (this : Nat) (attrs : Array Attribute := #[]) (ms : Array MethodInfo := #[]) (fl : Nat := 33) (sup : Nat := 0) (ifs : Array Nat := #[]) (fds : Array FieldInfo := #[]) : ClassFile where
  minorVersion := 0
  majorVersion := 65
  constantPool := pool
  accessFlags := fl
  thisClass := this
  superClass := sup
  interfaces := ifs
  fields := fds
  methods := ms
  attributes := attrs
def plain (name : String) (sup : Option ClassId) : Class where
  name := name
  kind := .ordinary
  loader := none
  accessFlags := 33
  super := sup
  interfaces := #[]
  cf := none
  fields := #[]
  methods := #[]
  instanceTypes := #[]
  staticTypes := #[]
  resolved := #[]
  callSites := []
  init := .initialized
  statics := none
  mirror := none

def pool0 : Array CpInfo := pool [(5, u "<init>"), (0, u "()V"), (1, .class_ 10), (1, u "java/lang/Object")] 113

def k0m0 : Method := { name := "<init>", desc := "()V", sig := { parameters := [], returnType := none }, accessFlags := 1, code := none }
/-- java/lang/Object -/
def k0 : Class := { plain "java/lang/Object" none with
  accessFlags := 33
  interfaces := #[]
  cf := some (fileOf pool0 8 #[] #[{ accessFlags := 1, nameIndex := 5, descriptorIndex := 6, attributes := #[] }] 33 0 #[] #[])
  fields := #[]
  methods := #[k0m0]
  instanceTypes := #[]
  staticTypes := #[]
  resolved := Array.replicate 124 none
  statics := none }

def pool1 : Array CpInfo := pool [(2, .class_ 4), (1, u "java/lang/Object"), (0, u "<init>"), (0, u "()V"), (0, .fieldref 8 9), (0, .class_ 10), (0, .nameAndType 11 12), (0, u "com/example/formal_model_translator/formalmodeltranslator/classicalb/Binder"), (0, u "FORALL"), (0, u "Lcom/example/formal_model_translator/formalmodeltranslator/classicalb/Binder;"), (0, .fieldref 8 14), (0, .nameAndType 15 12), (0, u "EXISTS"), (0, .fieldref 8 17), (0, .nameAndType 18 12), (0, u "COMPREHENSION"), (0, .fieldref 8 20), (0, .nameAndType 21 12), (0, u "LAMBDA"), (0, .fieldref 8 23), (0, .nameAndType 24 12), (0, u "QUANTIFIED_UNION"), (0, .fieldref 8 26), (0, .nameAndType 27 12), (0, u "QUANTIFIED_INTERSECTION"), (0, .fieldref 8 29), (0, .nameAndType 30 12), (0, u "SUM"), (0, .fieldref 8 32), (0, .nameAndType 33 12), (0, u "PRODUCT"), (0, .methodref 35 36), (0, .class_ 37), (0, .nameAndType 38 39), (0, u "com/example/formal_model_translator/formalmodeltranslator/classicalb/BinderHasEventBFormPinLaw"), (0, u "pick"), (0, u "(I)Lcom/example/formal_model_translator/formalmodeltranslator/classicalb/Binder;"), (0, .methodref 8 41), (0, .nameAndType 42 43), (0, u "hasEventBForm"), (0, u "()Z"), (3, u "law"), (0, u "(I)Z")] 2

def k1m0 : Method := { name := "<init>", desc := "()V", sig := { parameters := [], returnType := none }, accessFlags := 2, code := none }
def k1c1 : Code := { maxStack := 2, maxLocals := 1, code := method_2_code, exceptionTable := #[], attributes := #[] }
def k1m1 : Method := { name := "pick", desc := "(I)Lcom/example/formal_model_translator/formalmodeltranslator/classicalb/Binder;", sig := { parameters := [.int], returnType := some (.object "com/example/formal_model_translator/formalmodeltranslator/classicalb/Binder") }, accessFlags := 10, code := some k1c1 }
def k1c2 : Code := { maxStack := 2, maxLocals := 4, code := code, exceptionTable := #[], attributes := #[] }
def k1m2 : Method := { name := "law", desc := "(I)Z", sig := { parameters := [.int], returnType := some .boolean }, accessFlags := 9, code := some k1c2 }
/-- com/example/formal_model_translator/formalmodeltranslator/classicalb/BinderHasEventBFormPinLaw -/
def k1 : Class := { plain "com/example/formal_model_translator/formalmodeltranslator/classicalb/BinderHasEventBFormPinLaw" (some 0) with
  accessFlags := 49
  interfaces := #[]
  cf := some (fileOf pool1 35 #[] #[{ accessFlags := 2, nameIndex := 5, descriptorIndex := 6, attributes := #[] }, { accessFlags := 10, nameIndex := 38, descriptorIndex := 39, attributes := #[] }, { accessFlags := 9, nameIndex := 47, descriptorIndex := 48, attributes := #[] }] 49 2 #[] #[])
  fields := #[]
  methods := #[k1m0, k1m1, k1m2]
  instanceTypes := #[]
  staticTypes := #[]
  resolved := Array.replicate 51 none
  statics := none }

def pool2 : Array CpInfo := pool [(1, .class_ 2), (0, u "java/lang/constant/Constable"), (0, .class_ 4), (0, u "java/lang/Object")] 6

/-- java/lang/constant/Constable -/
def k2 : Class := { plain "java/lang/constant/Constable" (some 0) with
  accessFlags := 1537
  interfaces := #[]
  cf := some (fileOf pool2 1 #[] #[] 1537 3 #[] #[])
  fields := #[]
  methods := #[]
  instanceTypes := #[]
  staticTypes := #[]
  resolved := Array.replicate 11 none
  statics := none }

def pool3 : Array CpInfo := pool [(1, .class_ 2), (0, u "java/lang/Comparable"), (0, .class_ 4), (0, u "java/lang/Object")] 7

/-- java/lang/Comparable -/
def k3 : Class := { plain "java/lang/Comparable" (some 0) with
  accessFlags := 1537
  interfaces := #[]
  cf := some (fileOf pool3 1 #[] #[] 1537 3 #[] #[])
  fields := #[]
  methods := #[]
  instanceTypes := #[]
  staticTypes := #[]
  resolved := Array.replicate 12 none
  statics := none }

def pool4 : Array CpInfo := pool [(1, .class_ 2), (0, u "java/io/Serializable"), (0, .class_ 4), (0, u "java/lang/Object")] 2

/-- java/io/Serializable -/
def k4 : Class := { plain "java/io/Serializable" (some 0) with
  accessFlags := 1537
  interfaces := #[]
  cf := some (fileOf pool4 1 #[] #[] 1537 3 #[] #[])
  fields := #[]
  methods := #[]
  instanceTypes := #[]
  staticTypes := #[]
  resolved := Array.replicate 7 none
  statics := none }

def pool5 : Array CpInfo := pool [(2, .class_ 4), (1, u "java/lang/Enum"), (0, u "name"), (0, u "Ljava/lang/String;"), (2, u "ordinal"), (0, u "I"), (1, .class_ 14), (1, u "java/lang/Object"), (4, u "hash"), (86, .class_ 108), (1, u "java/lang/Enum$EnumDesc"), (2, .class_ 112), (0, u "java/lang/constant/Constable"), (0, .class_ 114), (0, u "java/lang/Comparable"), (0, .class_ 116), (0, u "java/io/Serializable")] 87

/-- java/lang/Enum -/
def k5 : Class := { plain "java/lang/Enum" (some 0) with
  accessFlags := 1057
  interfaces := #[2, 3, 4]
  cf := some (fileOf pool5 2 #[.nestMembers #[106]] #[] 1057 12 #[111, 113, 115] #[{ accessFlags := 18, nameIndex := 5, descriptorIndex := 6, attributes := #[] }, { accessFlags := 18, nameIndex := 9, descriptorIndex := 10, attributes := #[] }, { accessFlags := 2, nameIndex := 19, descriptorIndex := 10, attributes := #[] }])
  fields := #[{ name := "name", type := (.object "java/lang/String"), accessFlags := 18, slot := 0, constantValue := 0 }, { name := "ordinal", type := .int, accessFlags := 18, slot := 1, constantValue := 0 }, { name := "hash", type := .int, accessFlags := 2, slot := 2, constantValue := 0 }]
  methods := #[]
  instanceTypes := #[(.object "java/lang/String"), .int, .int]
  staticTypes := #[]
  resolved := Array.replicate 204 none
  statics := none }

def pool6 : Array CpInfo := pool [(1, .class_ 2), (0, u "com/example/formal_model_translator/formalmodeltranslator/classicalb/Binder"), (2, u "FORALL"), (0, u "Lcom/example/formal_model_translator/formalmodeltranslator/classicalb/Binder;"), (2, u "EXISTS"), (2, u "COMPREHENSION"), (2, u "LAMBDA"), (2, u "QUANTIFIED_UNION"), (2, u "QUANTIFIED_INTERSECTION"), (2, u "SUM"), (2, u "PRODUCT"), (2, u "$VALUES"), (0, u "[Lcom/example/formal_model_translator/formalmodeltranslator/classicalb/Binder;"), (6, .class_ 40), (1, u "java/lang/Enum"), (8, u "spelling"), (0, u "Ljava/lang/String;"), (0, .fieldref 1 52), (0, .nameAndType 53 50), (0, u "opening"), (2, u "closing"), (2, u "separator"), (2, u "takesExpression"), (0, u "Z"), (2, u "gives"), (0, u "Lcom/example/formal_model_translator/formalmodeltranslator/classicalb/Sort;"), (35, u "()Z"), (56, u "BY_SPELLING"), (0, u "Ljava/util/Map;"), (101, u "hasEventBForm")] 70

def k6c0 : Code := { maxStack := 1, maxLocals := 1, code := prog_4_method_5_code, exceptionTable := #[], attributes := #[] }
def k6m0 : Method := { name := "hasEventBForm", desc := "()Z", sig := { parameters := [], returnType := some .boolean }, accessFlags := 0, code := some k6c0 }
/-- com/example/formal_model_translator/formalmodeltranslator/classicalb/Binder -/
def k6 : Class := { plain "com/example/formal_model_translator/formalmodeltranslator/classicalb/Binder" (some 5) with
  accessFlags := 16432
  interfaces := #[]
  cf := some (fileOf pool6 1 #[] #[{ accessFlags := 0, nameIndex := 263, descriptorIndex := 103, attributes := #[] }] 16432 38 #[] #[{ accessFlags := 16409, nameIndex := 5, descriptorIndex := 6, attributes := #[] }, { accessFlags := 16409, nameIndex := 9, descriptorIndex := 6, attributes := #[] }, { accessFlags := 16409, nameIndex := 12, descriptorIndex := 6, attributes := #[] }, { accessFlags := 16409, nameIndex := 15, descriptorIndex := 6, attributes := #[] }, { accessFlags := 16409, nameIndex := 18, descriptorIndex := 6, attributes := #[] }, { accessFlags := 16409, nameIndex := 21, descriptorIndex := 6, attributes := #[] }, { accessFlags := 16409, nameIndex := 24, descriptorIndex := 6, attributes := #[] }, { accessFlags := 16409, nameIndex := 27, descriptorIndex := 6, attributes := #[] }, { accessFlags := 26, nameIndex := 160, descriptorIndex := 161, attributes := #[] }, { accessFlags := 18, nameIndex := 49, descriptorIndex := 50, attributes := #[] }, { accessFlags := 18, nameIndex := 53, descriptorIndex := 50, attributes := #[] }, { accessFlags := 18, nameIndex := 56, descriptorIndex := 50, attributes := #[] }, { accessFlags := 18, nameIndex := 59, descriptorIndex := 50, attributes := #[] }, { accessFlags := 18, nameIndex := 62, descriptorIndex := 63, attributes := #[] }, { accessFlags := 18, nameIndex := 66, descriptorIndex := 67, attributes := #[] }, { accessFlags := 4122, nameIndex := 30, descriptorIndex := 31, attributes := #[] }])
  fields := #[{ name := "FORALL", type := (.object "com/example/formal_model_translator/formalmodeltranslator/classicalb/Binder"), accessFlags := 16409, slot := 0, constantValue := 0 }, { name := "EXISTS", type := (.object "com/example/formal_model_translator/formalmodeltranslator/classicalb/Binder"), accessFlags := 16409, slot := 1, constantValue := 0 }, { name := "COMPREHENSION", type := (.object "com/example/formal_model_translator/formalmodeltranslator/classicalb/Binder"), accessFlags := 16409, slot := 2, constantValue := 0 }, { name := "LAMBDA", type := (.object "com/example/formal_model_translator/formalmodeltranslator/classicalb/Binder"), accessFlags := 16409, slot := 3, constantValue := 0 }, { name := "QUANTIFIED_UNION", type := (.object "com/example/formal_model_translator/formalmodeltranslator/classicalb/Binder"), accessFlags := 16409, slot := 4, constantValue := 0 }, { name := "QUANTIFIED_INTERSECTION", type := (.object "com/example/formal_model_translator/formalmodeltranslator/classicalb/Binder"), accessFlags := 16409, slot := 5, constantValue := 0 }, { name := "SUM", type := (.object "com/example/formal_model_translator/formalmodeltranslator/classicalb/Binder"), accessFlags := 16409, slot := 6, constantValue := 0 }, { name := "PRODUCT", type := (.object "com/example/formal_model_translator/formalmodeltranslator/classicalb/Binder"), accessFlags := 16409, slot := 7, constantValue := 0 }, { name := "BY_SPELLING", type := (.object "java/util/Map"), accessFlags := 26, slot := 8, constantValue := 0 }, { name := "spelling", type := (.object "java/lang/String"), accessFlags := 18, slot := 3, constantValue := 0 }, { name := "opening", type := (.object "java/lang/String"), accessFlags := 18, slot := 4, constantValue := 0 }, { name := "closing", type := (.object "java/lang/String"), accessFlags := 18, slot := 5, constantValue := 0 }, { name := "separator", type := (.object "java/lang/String"), accessFlags := 18, slot := 6, constantValue := 0 }, { name := "takesExpression", type := .boolean, accessFlags := 18, slot := 7, constantValue := 0 }, { name := "gives", type := (.object "com/example/formal_model_translator/formalmodeltranslator/classicalb/Sort"), accessFlags := 18, slot := 8, constantValue := 0 }, { name := "$VALUES", type := (.array (.object "com/example/formal_model_translator/formalmodeltranslator/classicalb/Binder")), accessFlags := 4122, slot := 9, constantValue := 0 }]
  methods := #[k6m0]
  instanceTypes := #[(.object "java/lang/String"), .int, .int, (.object "java/lang/String"), (.object "java/lang/String"), (.object "java/lang/String"), (.object "java/lang/String"), .boolean, (.object "com/example/formal_model_translator/formalmodeltranslator/classicalb/Sort")]
  staticTypes := #[(.object "com/example/formal_model_translator/formalmodeltranslator/classicalb/Binder"), (.object "com/example/formal_model_translator/formalmodeltranslator/classicalb/Binder"), (.object "com/example/formal_model_translator/formalmodeltranslator/classicalb/Binder"), (.object "com/example/formal_model_translator/formalmodeltranslator/classicalb/Binder"), (.object "com/example/formal_model_translator/formalmodeltranslator/classicalb/Binder"), (.object "com/example/formal_model_translator/formalmodeltranslator/classicalb/Binder"), (.object "com/example/formal_model_translator/formalmodeltranslator/classicalb/Binder"), (.object "com/example/formal_model_translator/formalmodeltranslator/classicalb/Binder"), (.object "java/util/Map"), (.array (.object "com/example/formal_model_translator/formalmodeltranslator/classicalb/Binder"))]
  resolved := Array.replicate 334 none
  statics := some 0 }

def pool7 : Array CpInfo := pool [(2, .class_ 4), (1, u "java/lang/CharSequence"), (42, .class_ 48), (0, u "java/lang/CharSequence$1CodePointIterator"), (10, .class_ 60), (0, u "java/lang/CharSequence$1CharIterator"), (5, .class_ 67), (0, u "java/lang/Object")] 63

/-- java/lang/CharSequence -/
def k7 : Class := { plain "java/lang/CharSequence" (some 0) with
  accessFlags := 1537
  interfaces := #[]
  cf := some (fileOf pool7 2 #[.nestMembers #[47, 59]] #[] 1537 66 #[] #[])
  fields := #[]
  methods := #[]
  instanceTypes := #[]
  staticTypes := #[]
  resolved := Array.replicate 131 none
  statics := none }

def pool8 : Array CpInfo := pool [(1, .class_ 2), (0, u "java/lang/constant/ConstantDesc"), (0, .class_ 4), (0, u "java/lang/Object")] 32

/-- java/lang/constant/ConstantDesc -/
def k8 : Class := { plain "java/lang/constant/ConstantDesc" (some 0) with
  accessFlags := 1537
  interfaces := #[]
  cf := some (fileOf pool8 1 #[] #[] 1537 3 #[] #[])
  fields := #[]
  methods := #[]
  instanceTypes := #[]
  staticTypes := #[]
  resolved := Array.replicate 37 none
  statics := none }

def pool9 : Array CpInfo := pool [(2, .class_ 4), (1, u "java/lang/Object"), (0, u "<init>"), (0, u "()V"), (3, .class_ 12), (1, u "java/lang/String"), (0, u "value"), (0, u "[B"), (2, u "coder"), (0, u "B"), (2, u "hash"), (0, u "I"), (2, u "hashIsZero"), (0, u "Z"), (13, u "COMPACT_STRINGS"), (534, .class_ 576), (0, u "java/lang/CharSequence"), (22, u "CASE_INSENSITIVE_ORDER"), (0, u "Ljava/util/Comparator;"), (500, u "serialPersistentFields"), (0, u "[Ljava/io/ObjectStreamField;"), (0, .class_ 1104), (0, u "java/lang/String$CaseInsensitiveComparator"), (1, .class_ 1107), (0, u "java/io/Serializable"), (0, .class_ 1109), (0, u "java/lang/Comparable"), (0, .class_ 1111), (0, u "java/lang/constant/Constable"), (0, .class_ 1113), (0, u "java/lang/constant/ConstantDesc"), (2, u "serialVersionUID"), (0, u "J"), (3, u "REPL"), (0, u "C"), (2, u "LATIN1"), (1, u "UTF16")] 323

def k9m0 : Method := { name := "<init>", desc := "()V", sig := { parameters := [], returnType := none }, accessFlags := 1, code := none }
/-- java/lang/String -/
def k9 : Class := { plain "java/lang/String" (some 0) with
  accessFlags := 49
  interfaces := #[4, 3, 7, 2, 8]
  cf := some (fileOf pool9 10 #[.nestMembers #[1103]] #[{ accessFlags := 1, nameIndex := 5, descriptorIndex := 6, attributes := #[] }] 49 2 #[1106, 1108, 575, 1110, 1112] #[{ accessFlags := 18, nameIndex := 13, descriptorIndex := 14, attributes := #[] }, { accessFlags := 18, nameIndex := 17, descriptorIndex := 18, attributes := #[] }, { accessFlags := 2, nameIndex := 21, descriptorIndex := 22, attributes := #[] }, { accessFlags := 2, nameIndex := 25, descriptorIndex := 26, attributes := #[] }, { accessFlags := 26, nameIndex := 1116, descriptorIndex := 1117, attributes := #[] }, { accessFlags := 24, nameIndex := 40, descriptorIndex := 26, attributes := #[] }, { accessFlags := 26, nameIndex := 1101, descriptorIndex := 1102, attributes := #[] }, { accessFlags := 26, nameIndex := 1121, descriptorIndex := 1122, attributes := #[] }, { accessFlags := 25, nameIndex := 599, descriptorIndex := 600, attributes := #[] }, { accessFlags := 24, nameIndex := 1125, descriptorIndex := 18, attributes := #[] }, { accessFlags := 24, nameIndex := 1127, descriptorIndex := 18, attributes := #[] }])
  fields := #[{ name := "value", type := (.array .byte), accessFlags := 18, slot := 0, constantValue := 0 }, { name := "coder", type := .byte, accessFlags := 18, slot := 1, constantValue := 0 }, { name := "hash", type := .int, accessFlags := 2, slot := 2, constantValue := 0 }, { name := "hashIsZero", type := .boolean, accessFlags := 2, slot := 3, constantValue := 0 }, { name := "serialVersionUID", type := .long, accessFlags := 26, slot := 0, constantValue := 0 }, { name := "COMPACT_STRINGS", type := .boolean, accessFlags := 24, slot := 1, constantValue := 0 }, { name := "serialPersistentFields", type := (.array (.object "java/io/ObjectStreamField")), accessFlags := 26, slot := 2, constantValue := 0 }, { name := "REPL", type := .char, accessFlags := 26, slot := 3, constantValue := 0 }, { name := "CASE_INSENSITIVE_ORDER", type := (.object "java/util/Comparator"), accessFlags := 25, slot := 4, constantValue := 0 }, { name := "LATIN1", type := .byte, accessFlags := 24, slot := 5, constantValue := 0 }, { name := "UTF16", type := .byte, accessFlags := 24, slot := 6, constantValue := 0 }]
  methods := #[k9m0]
  instanceTypes := #[(.array .byte), .byte, .int, .boolean]
  staticTypes := #[.long, .boolean, (.array (.object "java/io/ObjectStreamField")), .char, (.object "java/util/Comparator"), .byte, .byte]
  resolved := Array.replicate 1451 none
  statics := none }

def pool10 : Array CpInfo := pool [(1, u "java/lang/Cloneable"), (0, .class_ 1), (0, u "java/lang/Object"), (0, .class_ 3)] 3

/-- java/lang/Cloneable -/
def k10 : Class := { plain "java/lang/Cloneable" (some 0) with
  accessFlags := 1537
  interfaces := #[]
  cf := some (fileOf pool10 2 #[] #[] 1537 4 #[] #[])
  fields := #[]
  methods := #[]
  instanceTypes := #[]
  staticTypes := #[]
  resolved := Array.replicate 8 none
  statics := none }

/-- the primitive byte -/
def k11 : Class := { plain "byte" none with kind := .primitive 'B', accessFlags := 0x411 }
/-- [B -/
def k12 : Class := { plain "[B" (some 0) with kind := .array 11 .byte, interfaces := #[10, 4], accessFlags := 1041 }

/-- the primitive int -/
def k13 : Class := { plain "int" none with kind := .primitive 'I', accessFlags := 0x411 }
/-- [I -/
def k14 : Class := { plain "[I" (some 0) with kind := .array 13 .int, interfaces := #[10, 4], accessFlags := 1041 }

def heap : Heap := #[{ cls := 6, slots := #[.ref 1, .ref 9, .ref 7, .ref 3, .ref 11, .ref 13, .ref 5, .ref 6, .null, .null], vm := .statics 6 },
  { cls := 6, slots := #[.null, .int 0, .int 0, .null, .ref 2, .null, .null, .int 0, .null], vm := .none },
  { cls := 9, slots := #[.null, .int 0, .int 0, .int 0], vm := .none },
  { cls := 6, slots := #[.null, .int 0, .int 0, .null, .ref 4, .null, .null, .int 0, .null], vm := .none },
  { cls := 9, slots := #[.null, .int 0, .int 0, .int 0], vm := .none },
  { cls := 6, slots := #[.null, .int 0, .int 0, .null, .null, .null, .null, .int 0, .null], vm := .none },
  { cls := 6, slots := #[.null, .int 0, .int 0, .null, .null, .null, .null, .int 0, .null], vm := .none },
  { cls := 6, slots := #[.null, .int 0, .int 0, .null, .ref 8, .null, .null, .int 0, .null], vm := .none },
  { cls := 9, slots := #[.null, .int 0, .int 0, .int 0], vm := .none },
  { cls := 6, slots := #[.null, .int 0, .int 0, .null, .ref 10, .null, .null, .int 0, .null], vm := .none },
  { cls := 9, slots := #[.null, .int 0, .int 0, .int 0], vm := .none },
  { cls := 6, slots := #[.null, .int 0, .int 0, .null, .ref 12, .null, .null, .int 0, .null], vm := .none },
  { cls := 9, slots := #[.null, .int 0, .int 0, .int 0], vm := .none },
  { cls := 6, slots := #[.null, .int 0, .int 0, .null, .ref 14, .null, .null, .int 0, .null], vm := .none },
  { cls := 9, slots := #[.null, .int 0, .int 0, .int 0], vm := .none }]
def classes : Array Class := #[k0, k1, k2, k3, k4, k5, k6, k7, k8, k9, k10, k11, k12, k13, k14]
def interned : List (Array UInt16 × Addr) := []
def slotsUsed : Nat := 106
def theMethod : MethodId := ⟨1, 2⟩
def args0 : Array Value := #[.int 5]
def aboutOver (below : List Frame) : State where
  vm := { classes := classes, interned := interned.toArray }
  heap := heap
  slotsUsed := slotsUsed
  threads := #[{ frames := .invoking theMethod args0 :: below }]
def below0 : List Frame := [.native { method := ⟨0, 0⟩, args := #[] }]
def about1 : State := aboutOver below0
def p0 : Program := .bare "" "" ""
def e0 : Env := launch0.env 0 0 0
theorem w_frames : about1.frames = Frame.invoking theMethod args0 :: below0 := rfl
set_option maxRecDepth 65536 in
theorem w_args : argsFit about1.vm theMethod args0 = true := by decide +kernel
set_option maxRecDepth 65536 in
theorem w_heap : heapFits about1 = true := by decide +kernel
set_option maxRecDepth 65536 in
theorem w_runnable : about1.curStatus? = some .runnable := by decide +kernel
set_option maxRecDepth 65536 in
theorem w_alone : about1.alone = true := by decide +kernel
set_option maxRecDepth 65536 in
theorem w_named : about1.methodNamed? x = some theMethod := by decide +kernel
set_option maxRecDepth 65536 in
theorem w_hears : about1.hears theMethod below0 = true := by decide +kernel
set_option maxRecDepth 65536 in
theorem w_ripe : about1.ripe theMethod args0 below0 = true := by decide +kernel
theorem w_running : about1.status = .running := rfl
set_option maxRecDepth 65536 in
theorem w_room : about1.hasRoom e0.platform room_1 = true :=
  launch0.hasRoom_least _ room_1 (by decide +kernel) (by decide +kernel) (by decide +kernel) (by decide +kernel) (by decide +kernel) (by decide +kernel)
theorem allAtoms_all (ts : List Jvm.Cond) (a : Array Jvm.Value) (st : Jvm.State) : (allAtoms ts).before a st = ts.all (fun c => c.before a st) := by
  induction ts with
  | nil => rfl
  | cons c t ih =>
    show (Jvm.Cond.and c (allAtoms t)).before a st = _
    rw [Jvm.Cond.before_and, ih, List.all_cons]
def words1 : List Jvm.Cond := Jvm.Cond.code x code maxLocals ret :: tables_1
/-- a 'code' word, met by the world's own term for the bytes: nothing is compared byte by byte -/
theorem code_word {y : MethodName} {bytes : ByteArray} {mx : Nat} {rt : Option FieldType} {a : Array Value} {s : State} {m : MethodId} {meth : Method} {c : Code} (h1 : s.methodNamed? y = some m) (h2 : s.vm.method? m = some meth) (h3 : meth.code = some c) (h4 : c.code = bytes)
    (h5 : (c.maxLocals == mx && c.exceptionTable.isEmpty && decide (c.maxStack ≤ mostOperands) && decide (meth.sig.returnType = rt) && !meth.locks && decide (parseMethodDescriptor y.desc = some meth.sig)) = true) : (Jvm.Cond.code y bytes mx rt).before a s = true := by
  simp only [Bool.and_eq_true, beq_iff_eq, Bool.not_eq_true', decide_eq_true_eq] at h5
  obtain ⟨⟨⟨⟨⟨g1, g2⟩, g3⟩, g4⟩, g5⟩, g6⟩ := h5
  simp [Cond.before, Cond.holds, Cond.value, h1, h2, h3, h4, g1, g2, g3, g4, g5, g6]
def isCode : Jvm.Cond → Bool
  | .code _ _ _ _ => true
  | _ => false
theorem all_split {L : List Jvm.Cond} {P : Jvm.Cond → Bool} (h1 : L.all (fun c => isCode c || P c) = true) (h2 : ∀ c ∈ L.filter isCode, P c = true) : L.all P = true := by
  refine List.all_eq_true.mpr fun c hc => ?_
  have h := List.all_eq_true.mp h1 c hc
  rcases Bool.eq_false_or_eq_true (isCode c) with hi | hi
  · exact h2 c (List.mem_filter.mpr ⟨hc, hi⟩)
  · simpa [hi] using h
set_option maxRecDepth 65536 in
theorem w_c0 : (Jvm.Cond.code x code maxLocals ret).before args0 about1 = true := code_word (m := ⟨1, 2⟩) (meth := k1m2) (c := k1c2) (by decide +kernel) rfl rfl rfl (by decide +kernel)
set_option maxRecDepth 65536 in
theorem w_c1 : (Jvm.Cond.code ({ cls := "com/example/formal_model_translator/formalmodeltranslator/classicalb/BinderHasEventBFormPinLaw", name := "pick", desc := "(I)Lcom/example/formal_model_translator/formalmodeltranslator/classicalb/Binder;" } : Jvm.MethodName) method_2_code (1 : Nat) (Option.some (Jvm.ClassFile.FieldType.object "com/example/formal_model_translator/formalmodeltranslator/classicalb/Binder"))).before args0 about1 = true := code_word (m := ⟨1, 1⟩) (meth := k1m1) (c := k1c1) (by decide +kernel) rfl rfl rfl (by decide +kernel)
set_option maxRecDepth 65536 in
theorem w_c2 : (Jvm.Cond.code ({ cls := "com/example/formal_model_translator/formalmodeltranslator/classicalb/Binder", name := "hasEventBForm", desc := "()Z" } : Jvm.MethodName) prog_4_method_5_code (1 : Nat) (Option.some Jvm.ClassFile.FieldType.boolean)).before args0 about1 = true := code_word (m := ⟨6, 0⟩) (meth := k6m0) (c := k6c0) (by decide +kernel) rfl rfl rfl (by decide +kernel)
def codes1 : List Jvm.Cond := [Jvm.Cond.code x code maxLocals ret, Jvm.Cond.code ({ cls := "com/example/formal_model_translator/formalmodeltranslator/classicalb/BinderHasEventBFormPinLaw", name := "pick", desc := "(I)Lcom/example/formal_model_translator/formalmodeltranslator/classicalb/Binder;" } : Jvm.MethodName) method_2_code (1 : Nat) (Option.some (Jvm.ClassFile.FieldType.object "com/example/formal_model_translator/formalmodeltranslator/classicalb/Binder")), Jvm.Cond.code ({ cls := "com/example/formal_model_translator/formalmodeltranslator/classicalb/Binder", name := "hasEventBForm", desc := "()Z" } : Jvm.MethodName) prog_4_method_5_code (1 : Nat) (Option.some Jvm.ClassFile.FieldType.boolean)]
set_option maxRecDepth 65536 in
theorem codes_eq : words1.filter isCode = codes1 := rfl
theorem w_codes : ∀ c ∈ words1.filter isCode, c.before args0 about1 = true := by
  rw [codes_eq]
  intro c hc
  simp only [codes1, List.mem_cons, List.not_mem_nil, or_false] at hc
  rcases hc with rfl | rfl | rfl
  · exact w_c0
  · exact w_c1
  · exact w_c2
set_option maxRecDepth 65536 in
theorem w_t1 : (words1.take 24).all (fun c => isCode c || c.before args0 about1) = true := by decide +kernel
set_option maxRecDepth 65536 in
theorem w_t2 : (words1.drop 24).all (fun c => isCode c || c.before args0 about1) = true := by decide +kernel
theorem w_tables : (allAtoms (Jvm.Cond.code x code maxLocals ret :: tables_1)).before args0 about1 = true := by
  rw [allAtoms_all]
  show words1.all (fun c => c.before args0 about1) = true
  refine all_split ?_ w_codes
  rw [← List.take_append_drop 24 words1, List.all_append, w_t1, w_t2]
  rfl
set_option maxRecDepth 65536 in
theorem w_case : (Jvm.Cond.and given_1 narrow_1).before args0 about1 = true := by decide +kernel
theorem w_applies : (headSpec (Jvm.Cond.code x code maxLocals ret :: tables_1) room_1).applies x e0.platform about1 = true :=
  (Spec.applies_iff w_frames).mpr ⟨w_running, w_runnable, w_alone, w_named, w_hears, w_ripe, w_room, w_tables⟩
theorem atStart : AtStart classFile x code maxLocals ret World_1 tables_1 room_1 Calls_1 rest_1 Pre_1 launch0 p0 e0 about1 theMethod args0 below0 :=
  ⟨lists_1, trivial, launch0.admits_env _ _ _, launch0.least_env, fairChoices_fair.cas, fairChoices_fair.clock, w_frames, w_args, w_heap, w_applies, trivial, trivial, w_case⟩
end start1
theorem witness_1 : WitnessClaimed_1 := ⟨start1.p0, start1.e0, start1.about1, start1.theMethod, start1.args0, start1.below0, start1.atStart⟩
end Jvm.Pilot.@@N@@
