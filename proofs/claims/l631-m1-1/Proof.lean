import JvmDerived
import JvmDerived.Pilot.@@N@@Statement
import JvmDerived.Pilot.@@N@@Code
set_option linter.unusedVariables false
set_option linter.unusedSimpArgs false
namespace Jvm.OwnK
open Sem ClassFile Op Lib Jvm.Stand Jvm.Free Jvm.LawKit Jvm.RoadKit
section A
variable {p : Program} {l : Launch} {e : Env} {R : Room} {s : State} {m : MethodId} {args : Array Value} {below : List Frame} {meth : Method} {c : Code} {T : State} {Z : State} {a0 : Array Value} {h : Heap} {n0 kc ks fc fs : Nat} {Q : Option Value → Heap → Prop} {y : MethodName} {bytes : ByteArray} {maxL : Nat} {ret : Option FieldType}
/-- where the walk stands -/
def Sd (Z : State) (y : MethodName) (bytes : ByteArray) (maxL : Nat) (ret : Option FieldType) (p : Program) (l : Launch) (e : Env) (R : Room) (s : State) (m : MethodId) (args : Array Value) (below : List Frame) (meth : Method) (c : Code) (n0 : Nat) (h : Heap) (kc ks : Nat) (T : State) : Prop :=
  (p.tables.exec = Jvm.exec ∧ Z.Warmed39 s.vm ∧ c.code = bytes ∧ c.maxLocals = maxL ∧ meth.sig.returnType = ret ∧ meth.locks = false ∧ s.vm.findClass y.cls = some m.cls ∧ meth.name = y.name) ∧
  ∃ locs cells slots, Stand p l e R s m args below meth c T locs cells slots ∧ T.heap = h ∧ Fr n0 locs ∧ cells ≤ kc ∧ slots ≤ ks
/-- from t on the walk ends as Q says -/
def Run (p : Program) (e : Env) (below : List Frame) (s : State) (n0 fc fs : Nat) (Q : Option Value → Heap → Prop) (t : State) : Prop :=
  ∃ s₂ o, Steps p.tables e below t s₂ ∧ s₂.status = .running ∧ Ended s₂ below o ∧ ∃ v L, o = .returned v ∧ Q v s₂.heap ∧ Fr n0 L ∧ FrameEnd s o s₂ L fc fs
def Ctr (l : Launch) (Z : State) (y : MethodName) (bytes : ByteArray) (maxL : Nat) (ret : Option FieldType) (ws : List Cond) (rm : Room) (n0 : Nat) (as : Array Value) (h : Heap) (Q : Option Value → Heap → Prop) : Prop :=
  MetFree l y (head1 (Cond.code y bytes maxL ret :: ws) rm) (fun a U => a = as ∧ Z.Warmed39 U.vm ∧ U.heap = h) (fun _ _ _ _ _ => True) (fun _ U o U' => ∃ v L, o = .returned v ∧ (Q v U'.heap ∧ Fr n0 L) ∧ FrameEnd U o U' L rm.cells rm.slots)
/-- a value comes back -/
def Rt (Qv : Value → Heap → Prop) : Option Value → Heap → Prop := fun v h => ∃ w, v = some w ∧ Qv w h
/-- nothing comes back -/
def Rn (Qn : Heap → Prop) : Option Value → Heap → Prop := fun v h => v = none ∧ Qn h
theorem Run.st {t t' : State} (k : Run p e below s n0 fc fs Q t') (f : ∀ z, Steps p.tables e below t' z → Steps p.tables e below t z) : Run p e below s n0 fc fs Q t := by
  obtain ⟨s2, o, h1, r⟩ := k; exact ⟨s2, o, f _ h1, r⟩
theorem Run.mono {Q' : Option Value → Heap → Prop} {t : State} (k : Run p e below s n0 fc fs Q t) (f : ∀ v h, Q v h → Q' v h) : Run p e below s n0 fc fs Q' t := by
  obtain ⟨s2, o, h1, h2, h3, v, L, h4, h5, r⟩ := k; exact ⟨s2, o, h1, h2, h3, v, L, h4, f _ _ h5, r⟩
theorem Sd.hr (X : Sd Z y bytes maxL ret p l e R s m args below meth c n0 h kc ks T) : At T m c below := by obtain ⟨-, _, _, _, Y, -⟩ := X; exact Y.here
theorem Sd.d (X : Sd Z y bytes maxL ret p l e R s m args below meth c n0 h kc ks T) {pc : Nat} {r : Except DecodeError (Instr × Nat)} (q : decode bytes pc = r) : decode c.code pc = r := X.1.2.2.1 ▸ q
theorem Sd.more {kc' ks' : Nat} (X : Sd Z y bytes maxL ret p l e R s m args below meth c n0 h kc ks T) (h1 : kc ≤ kc') (h2 : ks ≤ ks') : Sd Z y bytes maxL ret p l e R s m args below meth c n0 h kc' ks' T := by
  obtain ⟨q, L, a, b, Y, r1, r2, r3, r4⟩ := X; exact ⟨q, L, a, b, Y, r1, r2, Nat.le_trans r3 h1, Nat.le_trans r4 h2⟩
theorem Ctr.of {rm : Room} {ws : List Cond} {as : Array Value} {ls0 : Array Slot} (hn : plainName y.cls = true) (hf : ∀ m, entryFrame m as maxL = mkF m 0 ls0 [])
    (body : ∀ (p : Program) (e : Env) (s : State) (m : MethodId) (below : List Frame) (meth : Method) (c : Code) (T : State), Sd Z y bytes maxL ret p l e rm s m as below meth c n0 h 0 0 T → Run p e below s n0 rm.cells rm.slots Q (T.setTop (mkF m 0 ls0 []))) : Ctr l Z y bytes maxL ret ws rm n0 as h Q := by
  refine MetFree.of_bodySF (plainFor_of_name hn) hisR ?_
  intro p e s m args below meth c s₁ Bd hml0 hP hK
  obtain ⟨rfl, hZ, hh⟩ := hP
  have X0 : Stand p l e rm s m args below meth c s₁ [] 0 0 := Stand.of_body Bd
  have e0 : s₁.heap = h := by rw [← hh, Bd.state]; rfl
  obtain ⟨s2, o, h1, h2, h3, v, L, h4, h5, h6, h7⟩ := body p e s m below meth c s₁ ⟨⟨Bd.exec, hZ, Bd.bytes, hml0, Bd.returns, Bd.notSynchronized, findClass_of_methodNamed Bd.named, (name_of_methodNamed Bd.named Bd.method).1⟩, [], 0, 0, X0, e0, Fr.nil _, Nat.le_refl _, Nat.le_refl _⟩
  exact ⟨s2, o, castTop (hf m) h1, h2, h3, v, L, h4, ⟨h5, h6⟩, h7⟩
theorem leaveQ (X : Sd Z y bytes maxL ret p l e R s m args below meth c n0 h kc ks T) {v : Option Value} (hv : ret = none → v = none) (hq : Q v h) (h1 : kc ≤ fc) (h2 : ks ≤ fs) {t : State}
    (st : ∀ {locs cells slots}, Stand p l e R s m args below meth c T locs cells slots → ∀ {ff : List Frame}, (∀ (f : JFrame) (acts : List Action), f.method = m → f.locked = none → f.entered = [] → (doReturn e (T.setTop f) acts v).1 = T.setFrames ff) → Steps p.tables e below t (T.setFrames ff)) : Run p e below s n0 fc fs Q t := by
  obtain ⟨⟨hx, hZ, hby, hml, hr, hlk, -⟩, L, a, b, Y, r1, r2, r3, r4⟩ := X
  obtain ⟨ff, g1, hrun, hended, hW, hsame⟩ := Y.leave (v := v) (fun q => hv (hr ▸ q)) hlk
  exact ⟨_, _, st Y g1, hrun, hended, v, L, rfl, by show Q v T.heap; rw [r1]; exact hq, r2, ⟨_, rfl⟩, hW, hsame.mono (Nat.le_trans r3 h1) (Nat.le_trans r4 h2)⟩
theorem areturn (X : Sd Z y bytes maxL ret p l e R s m args below meth c n0 h kc ks T) {t : FieldType} (hr : ret = some t) (ht : t.isReference = true) {pc : Nat} {ls : Array Slot} {w : Value} {st : List Value} (hw : w.isRef = true) (hd : decode bytes pc = .ok (.areturn, 1)) {Qv : Value → Heap → Prop} (hq : Qv w h) (h1 : kc ≤ fc) (h2 : ks ≤ fs) : Run p e below s n0 fc fs (Rt Qv) (T.setTop (mkF m pc ls (w :: st))) := by
  subst hr
  have hn : narrow t w = w := by cases w <;> cases t <;> first | rfl | exact absurd hw Bool.noConfusion | exact absurd ht Bool.noConfusion
  exact leaveQ X (v := some w) (fun q => by cases q) ⟨w, rfl, hq⟩ h1 h2 fun Y _ g => retOut Y X.1.1 X.1.2.2.2.2.1 hn (Or.inr (Or.inr (Or.inr (Or.inr ⟨rfl, ht, hw⟩)))) (X.d hd) g
theorem ireturn (X : Sd Z y bytes maxL ret p l e R s m args below meth c n0 h kc ks T) {t : FieldType} (hr : ret = some t) (ht : t = .int ∨ t = .boolean ∨ t = .byte ∨ t = .char ∨ t = .short) {pc : Nat} {ls : Array Slot} {z : Int32} {st : List Value} (hn : narrow t (.int z) = .int z) (hd : decode bytes pc = .ok (.ireturn, 1)) {Qv : Value → Heap → Prop} (hq : Qv (.int z) h) (h1 : kc ≤ fc) (h2 : ks ≤ fs) : Run p e below s n0 fc fs (Rt Qv) (T.setTop (mkF m pc ls (.int z :: st))) := by
  subst hr
  exact leaveQ X (v := some (.int z)) (fun q => by cases q) ⟨_, rfl, hq⟩ h1 h2 fun Y _ g => retOut Y X.1.1 X.1.2.2.2.2.1 hn (Or.inl ⟨rfl, ht, z, rfl⟩) (X.d hd) g
theorem lreturn (X : Sd Z y bytes maxL ret p l e R s m args below meth c n0 h kc ks T) (hr : ret = some .long) {pc : Nat} {ls : Array Slot} {z : Int64} {st : List Value} (hd : decode bytes pc = .ok (.lreturn, 1)) {Qv : Value → Heap → Prop} (hq : Qv (.long z) h) (h1 : kc ≤ fc) (h2 : ks ≤ fs) : Run p e below s n0 fc fs (Rt Qv) (T.setTop (mkF m pc ls (.long z :: st))) := by
  subst hr
  exact leaveQ X (v := some (.long z)) (fun q => by cases q) ⟨_, rfl, hq⟩ h1 h2 fun Y _ g => retOut Y X.1.1 X.1.2.2.2.2.1 rfl (Or.inr (Or.inl ⟨rfl, rfl, z, rfl⟩)) (X.d hd) g
theorem vreturn (X : Sd Z y bytes maxL ret p l e R s m args below meth c n0 h kc ks T) (hr : ret = none) {pc : Nat} {ls : Array Slot} (hd : decode bytes pc = .ok (.return_, 1)) {Qn : Heap → Prop} (hq : Qn h) (h1 : kc ≤ fc) (h2 : ks ≤ fs) : Run p e below s n0 fc fs (Rn Qn) (T.setTop (mkF m pc ls [])) := by
  subst hr
  exact leaveQ X (v := none) (fun _ => rfl) ⟨rfl, hq⟩ h1 h2 fun Y _ g => Y.returnOut X.1.1 X.1.2.2.2.2.1 (X.d hd) g
theorem narB {b : Bool} : narrow .boolean (.int (if b then 1 else 0)) = .int (if b then 1 else 0) := by cases b <;> rfl

theorem iloadN (X : Sd Z y bytes maxL ret p l e R s m args below meth c n0 h kc ks T) {pc n : Nat} {ls : Array Slot} {st : List Value} {k : Fin 4} {v : Int32} (hd : decode bytes pc = .ok (.iload_n k, 1)) (hl : ls[k.val]? = some (.val (.int v))) (hn : pc + 1 = n) (K : Run p e below s n0 fc fs Q (T.setTop (mkF m n ls (.int v :: st)))) : Run p e below s n0 fc fs Q (T.setTop (mkF m pc ls st)) := by
  subst hn; exact K.st fun _ k => XS.iloadN X.hr X.1.1 rfl (X.d hd) hl k
theorem iload (X : Sd Z y bytes maxL ret p l e R s m args below meth c n0 h kc ks T) {pc n : Nat} {ls : Array Slot} {st : List Value} {j : Nat} {v : Int32} (hd : decode bytes pc = .ok (.iload j, 2)) (hl : ls[j]? = some (.val (.int v))) (hn : pc + 2 = n) (K : Run p e below s n0 fc fs Q (T.setTop (mkF m n ls (.int v :: st)))) : Run p e below s n0 fc fs Q (T.setTop (mkF m pc ls st)) := by
  subst hn; exact K.st fun _ k => XS.iload X.hr X.1.1 rfl (X.d hd) hl k
theorem istoreN (X : Sd Z y bytes maxL ret p l e R s m args below meth c n0 h kc ks T) {pc n : Nat} {ls : Array Slot} {st : List Value} {k : Fin 4} {v : Int32} {l' : Array Slot} (hd : decode bytes pc = .ok (.istore_n k, 1)) (hl : storeLocals ls k.val (.int v) = some l') (hn : pc + 1 = n) (K : Run p e below s n0 fc fs Q (T.setTop (mkF m n l' st))) : Run p e below s n0 fc fs Q (T.setTop (mkF m pc ls (.int v :: st))) := by
  subst hn; exact K.st fun _ k => XS.istoreN X.hr X.1.1 rfl (X.d hd) rfl hl k
theorem istore (X : Sd Z y bytes maxL ret p l e R s m args below meth c n0 h kc ks T) {pc n : Nat} {ls : Array Slot} {st : List Value} {j : Nat} {v : Int32} {l' : Array Slot} (hd : decode bytes pc = .ok (.istore j, 2)) (hl : storeLocals ls j (.int v) = some l') (hn : pc + 2 = n) (K : Run p e below s n0 fc fs Q (T.setTop (mkF m n l' st))) : Run p e below s n0 fc fs Q (T.setTop (mkF m pc ls (.int v :: st))) := by
  subst hn; exact K.st fun _ k => XS.istore X.hr X.1.1 rfl (X.d hd) rfl hl k
theorem lloadN (X : Sd Z y bytes maxL ret p l e R s m args below meth c n0 h kc ks T) {pc n : Nat} {ls : Array Slot} {st : List Value} {k : Fin 4} {v : Int64} (hd : decode bytes pc = .ok (.lload_n k, 1)) (hl : ls[k.val]? = some (.val (.long v))) (hn : pc + 1 = n) (K : Run p e below s n0 fc fs Q (T.setTop (mkF m n ls (.long v :: st)))) : Run p e below s n0 fc fs Q (T.setTop (mkF m pc ls st)) := by
  subst hn; exact K.st fun _ k => XS.lloadN X.hr X.1.1 rfl (X.d hd) hl k
theorem lload (X : Sd Z y bytes maxL ret p l e R s m args below meth c n0 h kc ks T) {pc n : Nat} {ls : Array Slot} {st : List Value} {j : Nat} {v : Int64} (hd : decode bytes pc = .ok (.lload j, 2)) (hl : ls[j]? = some (.val (.long v))) (hn : pc + 2 = n) (K : Run p e below s n0 fc fs Q (T.setTop (mkF m n ls (.long v :: st)))) : Run p e below s n0 fc fs Q (T.setTop (mkF m pc ls st)) := by
  subst hn; exact K.st fun _ k => XS.lload X.hr X.1.1 rfl (X.d hd) hl k
theorem lstoreN (X : Sd Z y bytes maxL ret p l e R s m args below meth c n0 h kc ks T) {pc n : Nat} {ls : Array Slot} {st : List Value} {k : Fin 4} {v : Int64} {l' : Array Slot} (hd : decode bytes pc = .ok (.lstore_n k, 1)) (hl : storeLocals ls k.val (.long v) = some l') (hn : pc + 1 = n) (K : Run p e below s n0 fc fs Q (T.setTop (mkF m n l' st))) : Run p e below s n0 fc fs Q (T.setTop (mkF m pc ls (.long v :: st))) := by
  subst hn; exact K.st fun _ k => XS.lstoreN X.hr X.1.1 rfl (X.d hd) rfl hl k
theorem lstore (X : Sd Z y bytes maxL ret p l e R s m args below meth c n0 h kc ks T) {pc n : Nat} {ls : Array Slot} {st : List Value} {j : Nat} {v : Int64} {l' : Array Slot} (hd : decode bytes pc = .ok (.lstore j, 2)) (hl : storeLocals ls j (.long v) = some l') (hn : pc + 2 = n) (K : Run p e below s n0 fc fs Q (T.setTop (mkF m n l' st))) : Run p e below s n0 fc fs Q (T.setTop (mkF m pc ls (.long v :: st))) := by
  subst hn; exact K.st fun _ k => XS.lstore X.hr X.1.1 rfl (X.d hd) rfl hl k
theorem aloadN (X : Sd Z y bytes maxL ret p l e R s m args below meth c n0 h kc ks T) {pc n : Nat} {ls : Array Slot} {st : List Value} {k : Fin 4} {v : Value} (hd : decode bytes pc = .ok (.aload_n k, 1)) (hl : ls[k.val]? = some (.val v)) (hv : v.isRef = true) (hn : pc + 1 = n) (K : Run p e below s n0 fc fs Q (T.setTop (mkF m n ls (v :: st)))) : Run p e below s n0 fc fs Q (T.setTop (mkF m pc ls st)) := by
  subst hn; exact K.st fun _ k => XS.aloadN X.hr X.1.1 rfl (X.d hd) hl hv k
theorem aload (X : Sd Z y bytes maxL ret p l e R s m args below meth c n0 h kc ks T) {pc n : Nat} {ls : Array Slot} {st : List Value} {j : Nat} {v : Value} (hd : decode bytes pc = .ok (.aload j, 2)) (hl : ls[j]? = some (.val v)) (hv : v.isRef = true) (hn : pc + 2 = n) (K : Run p e below s n0 fc fs Q (T.setTop (mkF m n ls (v :: st)))) : Run p e below s n0 fc fs Q (T.setTop (mkF m pc ls st)) := by
  subst hn; exact K.st fun _ k => XS.aload X.hr X.1.1 rfl (X.d hd) hl hv k
theorem astoreN (X : Sd Z y bytes maxL ret p l e R s m args below meth c n0 h kc ks T) {pc n : Nat} {ls : Array Slot} {st : List Value} {k : Fin 4} {v : Value} {l' : Array Slot} (hd : decode bytes pc = .ok (.astore_n k, 1)) (hv : v.isRef = true) (hl : storeLocals ls k.val v = some l') (hn : pc + 1 = n) (K : Run p e below s n0 fc fs Q (T.setTop (mkF m n l' st))) : Run p e below s n0 fc fs Q (T.setTop (mkF m pc ls (v :: st))) := by
  subst hn; exact K.st fun _ k => XS.astoreN X.hr X.1.1 rfl (X.d hd) rfl hv hl k
theorem astore (X : Sd Z y bytes maxL ret p l e R s m args below meth c n0 h kc ks T) {pc n : Nat} {ls : Array Slot} {st : List Value} {j : Nat} {v : Value} {l' : Array Slot} (hd : decode bytes pc = .ok (.astore j, 2)) (hv : v.isRef = true) (hl : storeLocals ls j v = some l') (hn : pc + 2 = n) (K : Run p e below s n0 fc fs Q (T.setTop (mkF m n l' st))) : Run p e below s n0 fc fs Q (T.setTop (mkF m pc ls (v :: st))) := by
  subst hn; exact K.st fun _ k => XS.astore X.hr X.1.1 rfl (X.d hd) rfl hv hl k
theorem iconst (X : Sd Z y bytes maxL ret p l e R s m args below meth c n0 h kc ks T) {pc n : Nat} {ls : Array Slot} {st : List Value} {i : Int} {z : Int32} (hd : decode bytes pc = .ok (.iconst i, 1)) (hz : Int32.ofInt i = z) (hn : pc + 1 = n) (K : Run p e below s n0 fc fs Q (T.setTop (mkF m n ls (.int z :: st)))) : Run p e below s n0 fc fs Q (T.setTop (mkF m pc ls st)) := by
  subst hn hz; exact K.st fun _ k => XS.iconst X.hr X.1.1 rfl (X.d hd) k
theorem bipush (X : Sd Z y bytes maxL ret p l e R s m args below meth c n0 h kc ks T) {pc n : Nat} {ls : Array Slot} {st : List Value} {i : Int} {z : Int32} (hd : decode bytes pc = .ok (.bipush i, 2)) (hz : (Int8.ofInt i).toInt32 = z) (hn : pc + 2 = n) (K : Run p e below s n0 fc fs Q (T.setTop (mkF m n ls (.int z :: st)))) : Run p e below s n0 fc fs Q (T.setTop (mkF m pc ls st)) := by
  subst hn hz; exact K.st fun _ k => XS.bipush X.hr X.1.1 rfl (X.d hd) k
theorem sipush (X : Sd Z y bytes maxL ret p l e R s m args below meth c n0 h kc ks T) {pc n : Nat} {ls : Array Slot} {st : List Value} {i : Int} {z : Int32} (hd : decode bytes pc = .ok (.sipush i, 3)) (hz : (Int16.ofInt i).toInt32 = z) (hn : pc + 3 = n) (K : Run p e below s n0 fc fs Q (T.setTop (mkF m n ls (.int z :: st)))) : Run p e below s n0 fc fs Q (T.setTop (mkF m pc ls st)) := by
  subst hn hz; exact K.st fun _ k => XS.sipush X.hr X.1.1 rfl (X.d hd) k
theorem anull (X : Sd Z y bytes maxL ret p l e R s m args below meth c n0 h kc ks T) {pc n : Nat} {ls : Array Slot} {st : List Value}  (hd : decode bytes pc = .ok (.aconst_null, 1)) (hn : pc + 1 = n) (K : Run p e below s n0 fc fs Q (T.setTop (mkF m n ls (.null :: st)))) : Run p e below s n0 fc fs Q (T.setTop (mkF m pc ls st)) := by
  subst hn; exact K.st fun _ k => XS.aconstNull X.hr X.1.1 rfl (X.d hd) k
theorem iadd (X : Sd Z y bytes maxL ret p l e R s m args below meth c n0 h kc ks T) {pc n : Nat} {ls : Array Slot} {st : List Value} {u v : Int32} (hd : decode bytes pc = .ok (.iadd, 1)) (hn : pc + 1 = n) (K : Run p e below s n0 fc fs Q (T.setTop (mkF m n ls (.int (u + v) :: st)))) : Run p e below s n0 fc fs Q (T.setTop (mkF m pc ls (.int v :: .int u :: st))) := by
  subst hn; exact K.st fun _ k => XS.iadd X.hr X.1.1 rfl (X.d hd) rfl k
theorem ladd (X : Sd Z y bytes maxL ret p l e R s m args below meth c n0 h kc ks T) {pc n : Nat} {ls : Array Slot} {st : List Value} {u v : Int64} (hd : decode bytes pc = .ok (.ladd, 1)) (hn : pc + 1 = n) (K : Run p e below s n0 fc fs Q (T.setTop (mkF m n ls (.long (u + v) :: st)))) : Run p e below s n0 fc fs Q (T.setTop (mkF m pc ls (.long v :: .long u :: st))) := by
  subst hn; exact K.st fun _ k => XS.ladd X.hr X.1.1 rfl (X.d hd) rfl k
theorem isub (X : Sd Z y bytes maxL ret p l e R s m args below meth c n0 h kc ks T) {pc n : Nat} {ls : Array Slot} {st : List Value} {u v : Int32} (hd : decode bytes pc = .ok (.isub, 1)) (hn : pc + 1 = n) (K : Run p e below s n0 fc fs Q (T.setTop (mkF m n ls (.int (u - v) :: st)))) : Run p e below s n0 fc fs Q (T.setTop (mkF m pc ls (.int v :: .int u :: st))) := by
  subst hn; exact K.st fun _ k => XS.isub X.hr X.1.1 rfl (X.d hd) rfl k
theorem lsub (X : Sd Z y bytes maxL ret p l e R s m args below meth c n0 h kc ks T) {pc n : Nat} {ls : Array Slot} {st : List Value} {u v : Int64} (hd : decode bytes pc = .ok (.lsub, 1)) (hn : pc + 1 = n) (K : Run p e below s n0 fc fs Q (T.setTop (mkF m n ls (.long (u - v) :: st)))) : Run p e below s n0 fc fs Q (T.setTop (mkF m pc ls (.long v :: .long u :: st))) := by
  subst hn; exact K.st fun _ k => XS.lsub X.hr X.1.1 rfl (X.d hd) rfl k
theorem imul (X : Sd Z y bytes maxL ret p l e R s m args below meth c n0 h kc ks T) {pc n : Nat} {ls : Array Slot} {st : List Value} {u v : Int32} (hd : decode bytes pc = .ok (.imul, 1)) (hn : pc + 1 = n) (K : Run p e below s n0 fc fs Q (T.setTop (mkF m n ls (.int (u * v) :: st)))) : Run p e below s n0 fc fs Q (T.setTop (mkF m pc ls (.int v :: .int u :: st))) := by
  subst hn; exact K.st fun _ k => XS.imul X.hr X.1.1 rfl (X.d hd) rfl k
theorem lmul (X : Sd Z y bytes maxL ret p l e R s m args below meth c n0 h kc ks T) {pc n : Nat} {ls : Array Slot} {st : List Value} {u v : Int64} (hd : decode bytes pc = .ok (.lmul, 1)) (hn : pc + 1 = n) (K : Run p e below s n0 fc fs Q (T.setTop (mkF m n ls (.long (u * v) :: st)))) : Run p e below s n0 fc fs Q (T.setTop (mkF m pc ls (.long v :: .long u :: st))) := by
  subst hn; exact K.st fun _ k => XS.lmul X.hr X.1.1 rfl (X.d hd) rfl k
theorem iand (X : Sd Z y bytes maxL ret p l e R s m args below meth c n0 h kc ks T) {pc n : Nat} {ls : Array Slot} {st : List Value} {u v : Int32} (hd : decode bytes pc = .ok (.iand, 1)) (hn : pc + 1 = n) (K : Run p e below s n0 fc fs Q (T.setTop (mkF m n ls (.int (u &&& v) :: st)))) : Run p e below s n0 fc fs Q (T.setTop (mkF m pc ls (.int v :: .int u :: st))) := by
  subst hn; exact K.st fun _ k => XS.iand X.hr X.1.1 rfl (X.d hd) rfl k
theorem land (X : Sd Z y bytes maxL ret p l e R s m args below meth c n0 h kc ks T) {pc n : Nat} {ls : Array Slot} {st : List Value} {u v : Int64} (hd : decode bytes pc = .ok (.land, 1)) (hn : pc + 1 = n) (K : Run p e below s n0 fc fs Q (T.setTop (mkF m n ls (.long (u &&& v) :: st)))) : Run p e below s n0 fc fs Q (T.setTop (mkF m pc ls (.long v :: .long u :: st))) := by
  subst hn; exact K.st fun _ k => XS.land X.hr X.1.1 rfl (X.d hd) rfl k
theorem ior (X : Sd Z y bytes maxL ret p l e R s m args below meth c n0 h kc ks T) {pc n : Nat} {ls : Array Slot} {st : List Value} {u v : Int32} (hd : decode bytes pc = .ok (.ior, 1)) (hn : pc + 1 = n) (K : Run p e below s n0 fc fs Q (T.setTop (mkF m n ls (.int (u ||| v) :: st)))) : Run p e below s n0 fc fs Q (T.setTop (mkF m pc ls (.int v :: .int u :: st))) := by
  subst hn; exact K.st fun _ k => XS.ior X.hr X.1.1 rfl (X.d hd) rfl k
theorem lor (X : Sd Z y bytes maxL ret p l e R s m args below meth c n0 h kc ks T) {pc n : Nat} {ls : Array Slot} {st : List Value} {u v : Int64} (hd : decode bytes pc = .ok (.lor, 1)) (hn : pc + 1 = n) (K : Run p e below s n0 fc fs Q (T.setTop (mkF m n ls (.long (u ||| v) :: st)))) : Run p e below s n0 fc fs Q (T.setTop (mkF m pc ls (.long v :: .long u :: st))) := by
  subst hn; exact K.st fun _ k => XS.lor X.hr X.1.1 rfl (X.d hd) rfl k
theorem ixor (X : Sd Z y bytes maxL ret p l e R s m args below meth c n0 h kc ks T) {pc n : Nat} {ls : Array Slot} {st : List Value} {u v : Int32} (hd : decode bytes pc = .ok (.ixor, 1)) (hn : pc + 1 = n) (K : Run p e below s n0 fc fs Q (T.setTop (mkF m n ls (.int (u ^^^ v) :: st)))) : Run p e below s n0 fc fs Q (T.setTop (mkF m pc ls (.int v :: .int u :: st))) := by
  subst hn; exact K.st fun _ k => XS.ixor X.hr X.1.1 rfl (X.d hd) rfl k
theorem lxor (X : Sd Z y bytes maxL ret p l e R s m args below meth c n0 h kc ks T) {pc n : Nat} {ls : Array Slot} {st : List Value} {u v : Int64} (hd : decode bytes pc = .ok (.lxor, 1)) (hn : pc + 1 = n) (K : Run p e below s n0 fc fs Q (T.setTop (mkF m n ls (.long (u ^^^ v) :: st)))) : Run p e below s n0 fc fs Q (T.setTop (mkF m pc ls (.long v :: .long u :: st))) := by
  subst hn; exact K.st fun _ k => XS.lxor X.hr X.1.1 rfl (X.d hd) rfl k
theorem ishl (X : Sd Z y bytes maxL ret p l e R s m args below meth c n0 h kc ks T) {pc n : Nat} {ls : Array Slot} {st : List Value} {u v : Int32} (hd : decode bytes pc = .ok (.ishl, 1)) (hn : pc + 1 = n) (K : Run p e below s n0 fc fs Q (T.setTop (mkF m n ls (.int (u <<< (v &&& 31)) :: st)))) : Run p e below s n0 fc fs Q (T.setTop (mkF m pc ls (.int v :: .int u :: st))) := by
  subst hn; exact K.st fun _ k => XS.ishl X.hr X.1.1 rfl (X.d hd) rfl k
theorem ishr (X : Sd Z y bytes maxL ret p l e R s m args below meth c n0 h kc ks T) {pc n : Nat} {ls : Array Slot} {st : List Value} {u v : Int32} (hd : decode bytes pc = .ok (.ishr, 1)) (hn : pc + 1 = n) (K : Run p e below s n0 fc fs Q (T.setTop (mkF m n ls (.int (u >>> (v &&& 31)) :: st)))) : Run p e below s n0 fc fs Q (T.setTop (mkF m pc ls (.int v :: .int u :: st))) := by
  subst hn; exact K.st fun _ k => XS.ishr X.hr X.1.1 rfl (X.d hd) rfl k
theorem iushr (X : Sd Z y bytes maxL ret p l e R s m args below meth c n0 h kc ks T) {pc n : Nat} {ls : Array Slot} {st : List Value} {u v : Int32} (hd : decode bytes pc = .ok (.iushr, 1)) (hn : pc + 1 = n) (K : Run p e below s n0 fc fs Q (T.setTop (mkF m n ls (.int ((u.toUInt32 >>> (v &&& 31).toUInt32).toInt32) :: st)))) : Run p e below s n0 fc fs Q (T.setTop (mkF m pc ls (.int v :: .int u :: st))) := by
  subst hn; exact K.st fun _ k => XS.iushr X.hr X.1.1 rfl (X.d hd) rfl k
theorem lshl (X : Sd Z y bytes maxL ret p l e R s m args below meth c n0 h kc ks T) {pc n : Nat} {ls : Array Slot} {st : List Value} {u : Int64} {v : Int32} (hd : decode bytes pc = .ok (.lshl, 1)) (hn : pc + 1 = n) (K : Run p e below s n0 fc fs Q (T.setTop (mkF m n ls (.long (u <<< (v &&& 0x3f).toInt64) :: st)))) : Run p e below s n0 fc fs Q (T.setTop (mkF m pc ls (.int v :: .long u :: st))) := by
  subst hn; exact K.st fun _ k => XS.lshl X.hr X.1.1 rfl (X.d hd) rfl k
theorem lshr (X : Sd Z y bytes maxL ret p l e R s m args below meth c n0 h kc ks T) {pc n : Nat} {ls : Array Slot} {st : List Value} {u : Int64} {v : Int32} (hd : decode bytes pc = .ok (.lshr, 1)) (hn : pc + 1 = n) (K : Run p e below s n0 fc fs Q (T.setTop (mkF m n ls (.long (u >>> (v &&& 0x3f).toInt64) :: st)))) : Run p e below s n0 fc fs Q (T.setTop (mkF m pc ls (.int v :: .long u :: st))) := by
  subst hn; exact K.st fun _ k => XS.lshr X.hr X.1.1 rfl (X.d hd) rfl k
theorem lushr (X : Sd Z y bytes maxL ret p l e R s m args below meth c n0 h kc ks T) {pc n : Nat} {ls : Array Slot} {st : List Value} {u : Int64} {v : Int32} (hd : decode bytes pc = .ok (.lushr, 1)) (hn : pc + 1 = n) (K : Run p e below s n0 fc fs Q (T.setTop (mkF m n ls (.long ((u.toUInt64 >>> (v &&& 0x3f).toInt64.toUInt64).toInt64) :: st)))) : Run p e below s n0 fc fs Q (T.setTop (mkF m pc ls (.int v :: .long u :: st))) := by
  subst hn; exact K.st fun _ k => XS.lushr X.hr X.1.1 rfl (X.d hd) rfl k
theorem ineg (X : Sd Z y bytes maxL ret p l e R s m args below meth c n0 h kc ks T) {pc n : Nat} {ls : Array Slot} {st : List Value} {u : Int32} (hd : decode bytes pc = .ok (.ineg, 1)) (hn : pc + 1 = n) (K : Run p e below s n0 fc fs Q (T.setTop (mkF m n ls (.int (-u) :: st)))) : Run p e below s n0 fc fs Q (T.setTop (mkF m pc ls (.int u :: st))) := by
  subst hn; exact K.st fun _ k => XS.ineg X.hr X.1.1 rfl (X.d hd) rfl k
theorem i2l (X : Sd Z y bytes maxL ret p l e R s m args below meth c n0 h kc ks T) {pc n : Nat} {ls : Array Slot} {st : List Value} {u : Int32} (hd : decode bytes pc = .ok (.i2l, 1)) (hn : pc + 1 = n) (K : Run p e below s n0 fc fs Q (T.setTop (mkF m n ls (.long u.toInt64 :: st)))) : Run p e below s n0 fc fs Q (T.setTop (mkF m pc ls (.int u :: st))) := by
  subst hn; exact K.st fun _ k => XS.i2l X.hr X.1.1 rfl (X.d hd) rfl k
theorem l2i (X : Sd Z y bytes maxL ret p l e R s m args below meth c n0 h kc ks T) {pc n : Nat} {ls : Array Slot} {st : List Value} {u : Int64} (hd : decode bytes pc = .ok (.l2i, 1)) (hn : pc + 1 = n) (K : Run p e below s n0 fc fs Q (T.setTop (mkF m n ls (.int u.toInt32 :: st)))) : Run p e below s n0 fc fs Q (T.setTop (mkF m pc ls (.long u :: st))) := by
  subst hn; exact K.st fun _ k => XS.l2i X.hr X.1.1 rfl (X.d hd) rfl k
theorem i2b (X : Sd Z y bytes maxL ret p l e R s m args below meth c n0 h kc ks T) {pc n : Nat} {ls : Array Slot} {st : List Value} {u : Int32} (hd : decode bytes pc = .ok (.i2b, 1)) (hn : pc + 1 = n) (K : Run p e below s n0 fc fs Q (T.setTop (mkF m n ls (.int u.toInt8.toInt32 :: st)))) : Run p e below s n0 fc fs Q (T.setTop (mkF m pc ls (.int u :: st))) := by
  subst hn; exact K.st fun _ k => XS.i2b X.hr X.1.1 rfl (X.d hd) rfl k
theorem i2s (X : Sd Z y bytes maxL ret p l e R s m args below meth c n0 h kc ks T) {pc n : Nat} {ls : Array Slot} {st : List Value} {u : Int32} (hd : decode bytes pc = .ok (.i2s, 1)) (hn : pc + 1 = n) (K : Run p e below s n0 fc fs Q (T.setTop (mkF m n ls (.int u.toInt16.toInt32 :: st)))) : Run p e below s n0 fc fs Q (T.setTop (mkF m pc ls (.int u :: st))) := by
  subst hn; exact K.st fun _ k => XS.i2s X.hr X.1.1 rfl (X.d hd) rfl k
theorem i2c (X : Sd Z y bytes maxL ret p l e R s m args below meth c n0 h kc ks T) {pc n : Nat} {ls : Array Slot} {st : List Value} {u : Int32} (hd : decode bytes pc = .ok (.i2c, 1)) (hn : pc + 1 = n) (K : Run p e below s n0 fc fs Q (T.setTop (mkF m n ls (.int u.toUInt32.toUInt16.toUInt32.toInt32 :: st)))) : Run p e below s n0 fc fs Q (T.setTop (mkF m pc ls (.int u :: st))) := by
  subst hn; exact K.st fun _ k => XS.i2c X.hr X.1.1 rfl (X.d hd) rfl k
theorem lcmp (X : Sd Z y bytes maxL ret p l e R s m args below meth c n0 h kc ks T) {pc n : Nat} {ls : Array Slot} {st : List Value} {u v : Int64} (hd : decode bytes pc = .ok (.lcmp, 1)) (hn : pc + 1 = n) (K : Run p e below s n0 fc fs Q (T.setTop (mkF m n ls (.int (lcmpW u v) :: st)))) : Run p e below s n0 fc fs Q (T.setTop (mkF m pc ls (.long v :: .long u :: st))) := by
  subst hn; exact K.st fun _ k => XS.lcmp X.hr X.1.1 rfl (X.d hd) rfl k
theorem lconst (X : Sd Z y bytes maxL ret p l e R s m args below meth c n0 h kc ks T) {pc n : Nat} {ls : Array Slot} {st : List Value} {k : Fin 2} {z : Int64} (hd : decode bytes pc = .ok (.lconst k, 1)) (hz : Int64.ofNat k.val = z) (hn : pc + 1 = n) (K : Run p e below s n0 fc fs Q (T.setTop (mkF m n ls (.long z :: st)))) : Run p e below s n0 fc fs Q (T.setTop (mkF m pc ls st)) := by
  subst hn hz; exact K.st fun _ k => XS.lconst X.hr X.1.1 rfl (X.d hd) k
theorem irem (X : Sd Z y bytes maxL ret p l e R s m args below meth c n0 h kc ks T) {pc n : Nat} {ls : Array Slot} {st : List Value} {u v : Int32} (hd : decode bytes pc = .ok (.irem, 1)) (hv : v ≠ 0) (hn : pc + 1 = n) (K : Run p e below s n0 fc fs Q (T.setTop (mkF m n ls (.int (u % v) :: st)))) : Run p e below s n0 fc fs Q (T.setTop (mkF m pc ls (.int v :: .int u :: st))) := by
  subst hn; obtain ⟨q, L, a, b, Y, -⟩ := X; exact K.st fun _ k => iremM Y q.1 rfl (q.2.2.1 ▸ hd) rfl hv k
theorem idiv (X : Sd Z y bytes maxL ret p l e R s m args below meth c n0 h kc ks T) {pc n : Nat} {ls : Array Slot} {st : List Value} {u v : Int32} (hd : decode bytes pc = .ok (.idiv, 1)) (hv : v ≠ 0) (hn : pc + 1 = n) (K : Run p e below s n0 fc fs Q (T.setTop (mkF m n ls (.int (u / v) :: st)))) : Run p e below s n0 fc fs Q (T.setTop (mkF m pc ls (.int v :: .int u :: st))) := by
  subst hn; exact K.st fun _ k => XS.idiv X.hr X.1.1 rfl (X.d hd) rfl hv k
theorem dup (X : Sd Z y bytes maxL ret p l e R s m args below meth c n0 h kc ks T) {pc n : Nat} {ls : Array Slot} {st : List Value} {v : Value} (hd : decode bytes pc = .ok (.dup, 1)) (hc : v.category = 1) (hn : pc + 1 = n) (K : Run p e below s n0 fc fs Q (T.setTop (mkF m n ls (v :: v :: st)))) : Run p e below s n0 fc fs Q (T.setTop (mkF m pc ls (v :: st))) := by
  subst hn; exact K.st fun _ k => XS.dup X.hr X.1.1 rfl (X.d hd) rfl hc k
theorem pop (X : Sd Z y bytes maxL ret p l e R s m args below meth c n0 h kc ks T) {pc n : Nat} {ls : Array Slot} {st : List Value} {v : Value} (hd : decode bytes pc = .ok (.pop, 1)) (hc : v.category = 1) (hn : pc + 1 = n) (K : Run p e below s n0 fc fs Q (T.setTop (mkF m n ls st))) : Run p e below s n0 fc fs Q (T.setTop (mkF m pc ls (v :: st))) := by
  subst hn; exact K.st fun _ k => XS.pop X.hr X.1.1 rfl (X.d hd) rfl hc k
theorem dupX1 (X : Sd Z y bytes maxL ret p l e R s m args below meth c n0 h kc ks T) {pc n : Nat} {ls : Array Slot} {st : List Value} {u v : Value} (hd : decode bytes pc = .ok (.dup_x1, 1)) (hc : u.category = 1) (hc' : v.category = 1) (hn : pc + 1 = n) (K : Run p e below s n0 fc fs Q (T.setTop (mkF m n ls (u :: v :: u :: st)))) : Run p e below s n0 fc fs Q (T.setTop (mkF m pc ls (u :: v :: st))) := by
  subst hn; exact K.st fun _ k => XS.dupX1 X.hr X.1.1 rfl (X.d hd) rfl hc hc' k
theorem iinc (X : Sd Z y bytes maxL ret p l e R s m args below meth c n0 h kc ks T) {pc n j : Nat} {ls l' : Array Slot} {st : List Value} {i : Int} {z v : Int32} (hd : decode bytes pc = .ok (.iinc j i, 3)) (hz : Int32.ofInt i = z) (hl : ls[j]? = some (.val (.int v))) (hl' : storeLocals ls j (.int (v + z)) = some l') (hn : pc + 3 = n) (K : Run p e below s n0 fc fs Q (T.setTop (mkF m n l' st))) : Run p e below s n0 fc fs Q (T.setTop (mkF m pc ls st)) := by
  subst hn hz; exact K.st fun _ k => XS.iinc X.hr X.1.1 rfl (X.d hd) hl hl' k
theorem goto (X : Sd Z y bytes maxL ret p l e R s m args below meth c n0 h kc ks T) {pc n : Nat} {ls : Array Slot} {st : List Value} {o : Int} (hd : decode bytes pc = .ok (.goto o, 3)) (ho : 0 ≤ (pc : Int) + o) (hn : ((pc : Int) + o).toNat = n) (K : Run p e below s n0 fc fs Q (T.setTop (mkF m n ls st))) : Run p e below s n0 fc fs Q (T.setTop (mkF m pc ls st)) := K.st fun _ k => XS.goto X.hr X.1.1 rfl rfl (X.d hd) ho hn k
theorem ldc (X : Sd Z y bytes maxL ret p l e R s m args below meth c n0 h kc ks T) {pc n index : Nat} {ls : Array Slot} {st : List Value} {v : Int32} (hd : decode bytes pc = .ok (.ldc index, 2)) (w : (Cond.constant y.cls index v).before a0 Z = true) (hn : pc + 2 = n) (K : Run p e below s n0 fc fs Q (T.setTop (mkF m n ls (.int v :: st)))) : Run p e below s n0 fc fs Q (T.setTop (mkF m pc ls st)) := by
  subst hn; obtain ⟨q, L, i, j, Y, -⟩ := X; exact K.st fun _ k => Y.ldcInt q.1 q.2.2.2.2.2.2.1 (mvT q.2.1 w) (g := mkF m pc ls st) rfl (q.2.2.1 ▸ hd) _ k
theorem ldc2 (X : Sd Z y bytes maxL ret p l e R s m args below meth c n0 h kc ks T) {pc n index : Nat} {ls : Array Slot} {st : List Value} {v : Int64} (hd : decode bytes pc = .ok (.ldc2_w index, 3)) (w : (Cond.constantLong y.cls index v).before a0 Z = true) (hn : pc + 3 = n) (K : Run p e below s n0 fc fs Q (T.setTop (mkF m n ls (.long v :: st)))) : Run p e below s n0 fc fs Q (T.setTop (mkF m pc ls st)) := by
  subst hn; obtain ⟨q, L, i, j, Y, -⟩ := X; exact K.st fun _ k => Y.ldc2Long q.1 q.2.2.2.2.2.2.1 (mvT q.2.1 w) (g := mkF m pc ls st) rfl (q.2.2.1 ▸ hd) _ k
theorem ifc (X : Sd Z y bytes maxL ret p l e R s m args below meth c n0 h kc ks T) {pc n1 n2 : Nat} {ls : Array Slot} {st : List Value} {cd : ClassFile.Cond} {x : Int32} {o : Int} (hd : decode bytes pc = .ok (.ifCond cd o, 3)) (ho : 0 ≤ (pc : Int) + o) (h1 : ((pc : Int) + o).toNat = n1) (h2 : pc + 3 = n2) (K1 : ifCond.holds cd x = true → Run p e below s n0 fc fs Q (T.setTop (mkF m n1 ls st))) (K2 : ifCond.holds cd x = false → Run p e below s n0 fc fs Q (T.setTop (mkF m n2 ls st))) : Run p e below s n0 fc fs Q (T.setTop (mkF m pc ls (.int x :: st))) := by
  cases hq : ifCond.holds cd x with
  | true => exact (K1 hq).st fun _ k => XS.ifYes X.hr X.1.1 rfl rfl (X.d hd) rfl hq ho h1 k
  | false => subst h2; exact (K2 hq).st fun _ k => XS.ifNo X.hr X.1.1 rfl (X.d hd) rfl hq k
theorem icc (X : Sd Z y bytes maxL ret p l e R s m args below meth c n0 h kc ks T) {pc n1 n2 : Nat} {ls : Array Slot} {st : List Value} {cd : ClassFile.Cond} {x v : Int32} {o : Int} (hd : decode bytes pc = .ok (.if_icmp cd o, 3)) (ho : 0 ≤ (pc : Int) + o) (h1 : ((pc : Int) + o).toNat = n1) (h2 : pc + 3 = n2) (K1 : if_icmp.holds cd x v = true → Run p e below s n0 fc fs Q (T.setTop (mkF m n1 ls st))) (K2 : if_icmp.holds cd x v = false → Run p e below s n0 fc fs Q (T.setTop (mkF m n2 ls st))) : Run p e below s n0 fc fs Q (T.setTop (mkF m pc ls (.int v :: .int x :: st))) := by
  cases hq : if_icmp.holds cd x v with
  | true => exact (K1 hq).st fun _ k => XS.icmpYes X.hr X.1.1 rfl rfl (X.d hd) rfl hq ho h1 k
  | false => subst h2; exact (K2 hq).st fun _ k => XS.icmpNo X.hr X.1.1 rfl (X.d hd) rfl hq k
theorem ic_eq (X : Sd Z y bytes maxL ret p l e R s m args below meth c n0 h kc ks T) {pc n1 n2 : Nat} {ls : Array Slot} {st : List Value} {x v : Int32} {o : Int} (hd : decode bytes pc = .ok (.if_icmp .eq o, 3)) (ho : 0 ≤ (pc : Int) + o) (h1 : ((pc : Int) + o).toNat = n1) (h2 : pc + 3 = n2) (K1 : x = v → Run p e below s n0 fc fs Q (T.setTop (mkF m n1 ls st))) (K2 : ¬ x = v → Run p e below s n0 fc fs Q (T.setTop (mkF m n2 ls st))) : Run p e below s n0 fc fs Q (T.setTop (mkF m pc ls (.int v :: .int x :: st))) := by
  exact icc X hd ho h1 h2 (fun hq => K1 (Classical.byContradiction fun w => by rw [(feq w).1] at hq; cases hq)) (fun hq => K2 (fun w => by rw [(teq w).1] at hq; cases hq))
theorem if_eq (X : Sd Z y bytes maxL ret p l e R s m args below meth c n0 h kc ks T) {pc n1 n2 : Nat} {ls : Array Slot} {st : List Value} {x : Int32} {o : Int} (hd : decode bytes pc = .ok (.ifCond .eq o, 3)) (ho : 0 ≤ (pc : Int) + o) (h1 : ((pc : Int) + o).toNat = n1) (h2 : pc + 3 = n2) (K1 : x = 0 → Run p e below s n0 fc fs Q (T.setTop (mkF m n1 ls st))) (K2 : ¬ x = 0 → Run p e below s n0 fc fs Q (T.setTop (mkF m n2 ls st))) : Run p e below s n0 fc fs Q (T.setTop (mkF m pc ls (.int x :: st))) := by
  exact ifc X hd ho h1 h2 (fun hq => by rw [if0] at hq; exact K1 (Classical.byContradiction fun w => by rw [(feq w).1] at hq; cases hq)) (fun hq => by rw [if0] at hq; exact K2 (fun w => by rw [(teq w).1] at hq; cases hq))
theorem ic_ne (X : Sd Z y bytes maxL ret p l e R s m args below meth c n0 h kc ks T) {pc n1 n2 : Nat} {ls : Array Slot} {st : List Value} {x v : Int32} {o : Int} (hd : decode bytes pc = .ok (.if_icmp .ne o, 3)) (ho : 0 ≤ (pc : Int) + o) (h1 : ((pc : Int) + o).toNat = n1) (h2 : pc + 3 = n2) (K1 : ¬ x = v → Run p e below s n0 fc fs Q (T.setTop (mkF m n1 ls st))) (K2 : x = v → Run p e below s n0 fc fs Q (T.setTop (mkF m n2 ls st))) : Run p e below s n0 fc fs Q (T.setTop (mkF m pc ls (.int v :: .int x :: st))) := by
  exact icc X hd ho h1 h2 (fun hq => K1 (fun w => by rw [(teq w).2] at hq; cases hq)) (fun hq => K2 (Classical.byContradiction fun w => by rw [(feq w).2] at hq; cases hq))
theorem if_ne (X : Sd Z y bytes maxL ret p l e R s m args below meth c n0 h kc ks T) {pc n1 n2 : Nat} {ls : Array Slot} {st : List Value} {x : Int32} {o : Int} (hd : decode bytes pc = .ok (.ifCond .ne o, 3)) (ho : 0 ≤ (pc : Int) + o) (h1 : ((pc : Int) + o).toNat = n1) (h2 : pc + 3 = n2) (K1 : ¬ x = 0 → Run p e below s n0 fc fs Q (T.setTop (mkF m n1 ls st))) (K2 : x = 0 → Run p e below s n0 fc fs Q (T.setTop (mkF m n2 ls st))) : Run p e below s n0 fc fs Q (T.setTop (mkF m pc ls (.int x :: st))) := by
  exact ifc X hd ho h1 h2 (fun hq => by rw [if0] at hq; exact K1 (fun w => by rw [(teq w).2] at hq; cases hq)) (fun hq => by rw [if0] at hq; exact K2 (Classical.byContradiction fun w => by rw [(feq w).2] at hq; cases hq))
theorem ic_lt (X : Sd Z y bytes maxL ret p l e R s m args below meth c n0 h kc ks T) {pc n1 n2 : Nat} {ls : Array Slot} {st : List Value} {x v : Int32} {o : Int} (hd : decode bytes pc = .ok (.if_icmp .lt o, 3)) (ho : 0 ≤ (pc : Int) + o) (h1 : ((pc : Int) + o).toNat = n1) (h2 : pc + 3 = n2) (K1 : x < v → Run p e below s n0 fc fs Q (T.setTop (mkF m n1 ls st))) (K2 : ¬ x < v → Run p e below s n0 fc fs Q (T.setTop (mkF m n2 ls st))) : Run p e below s n0 fc fs Q (T.setTop (mkF m pc ls (.int v :: .int x :: st))) := by
  exact icc X hd ho h1 h2 (fun hq => K1 (Classical.byContradiction fun w => by rw [(flt w).1] at hq; cases hq)) (fun hq => K2 (fun w => by rw [(tlt w).1] at hq; cases hq))
theorem if_lt (X : Sd Z y bytes maxL ret p l e R s m args below meth c n0 h kc ks T) {pc n1 n2 : Nat} {ls : Array Slot} {st : List Value} {x : Int32} {o : Int} (hd : decode bytes pc = .ok (.ifCond .lt o, 3)) (ho : 0 ≤ (pc : Int) + o) (h1 : ((pc : Int) + o).toNat = n1) (h2 : pc + 3 = n2) (K1 : x < 0 → Run p e below s n0 fc fs Q (T.setTop (mkF m n1 ls st))) (K2 : ¬ x < 0 → Run p e below s n0 fc fs Q (T.setTop (mkF m n2 ls st))) : Run p e below s n0 fc fs Q (T.setTop (mkF m pc ls (.int x :: st))) := by
  exact ifc X hd ho h1 h2 (fun hq => by rw [if0] at hq; exact K1 (Classical.byContradiction fun w => by rw [(flt w).1] at hq; cases hq)) (fun hq => by rw [if0] at hq; exact K2 (fun w => by rw [(tlt w).1] at hq; cases hq))
theorem ic_ge (X : Sd Z y bytes maxL ret p l e R s m args below meth c n0 h kc ks T) {pc n1 n2 : Nat} {ls : Array Slot} {st : List Value} {x v : Int32} {o : Int} (hd : decode bytes pc = .ok (.if_icmp .ge o, 3)) (ho : 0 ≤ (pc : Int) + o) (h1 : ((pc : Int) + o).toNat = n1) (h2 : pc + 3 = n2) (K1 : ¬ x < v → Run p e below s n0 fc fs Q (T.setTop (mkF m n1 ls st))) (K2 : x < v → Run p e below s n0 fc fs Q (T.setTop (mkF m n2 ls st))) : Run p e below s n0 fc fs Q (T.setTop (mkF m pc ls (.int v :: .int x :: st))) := by
  exact icc X hd ho h1 h2 (fun hq => K1 (fun w => by rw [(tlt w).2.1] at hq; cases hq)) (fun hq => K2 (Classical.byContradiction fun w => by rw [(flt w).2.1] at hq; cases hq))
theorem if_ge (X : Sd Z y bytes maxL ret p l e R s m args below meth c n0 h kc ks T) {pc n1 n2 : Nat} {ls : Array Slot} {st : List Value} {x : Int32} {o : Int} (hd : decode bytes pc = .ok (.ifCond .ge o, 3)) (ho : 0 ≤ (pc : Int) + o) (h1 : ((pc : Int) + o).toNat = n1) (h2 : pc + 3 = n2) (K1 : ¬ x < 0 → Run p e below s n0 fc fs Q (T.setTop (mkF m n1 ls st))) (K2 : x < 0 → Run p e below s n0 fc fs Q (T.setTop (mkF m n2 ls st))) : Run p e below s n0 fc fs Q (T.setTop (mkF m pc ls (.int x :: st))) := by
  exact ifc X hd ho h1 h2 (fun hq => by rw [if0] at hq; exact K1 (fun w => by rw [(tlt w).2.1] at hq; cases hq)) (fun hq => by rw [if0] at hq; exact K2 (Classical.byContradiction fun w => by rw [(flt w).2.1] at hq; cases hq))
theorem ic_gt (X : Sd Z y bytes maxL ret p l e R s m args below meth c n0 h kc ks T) {pc n1 n2 : Nat} {ls : Array Slot} {st : List Value} {x v : Int32} {o : Int} (hd : decode bytes pc = .ok (.if_icmp .gt o, 3)) (ho : 0 ≤ (pc : Int) + o) (h1 : ((pc : Int) + o).toNat = n1) (h2 : pc + 3 = n2) (K1 : v < x → Run p e below s n0 fc fs Q (T.setTop (mkF m n1 ls st))) (K2 : ¬ v < x → Run p e below s n0 fc fs Q (T.setTop (mkF m n2 ls st))) : Run p e below s n0 fc fs Q (T.setTop (mkF m pc ls (.int v :: .int x :: st))) := by
  exact icc X hd ho h1 h2 (fun hq => K1 (Classical.byContradiction fun w => by rw [(flt w).2.2.1] at hq; cases hq)) (fun hq => K2 (fun w => by rw [(tlt w).2.2.1] at hq; cases hq))
theorem if_gt (X : Sd Z y bytes maxL ret p l e R s m args below meth c n0 h kc ks T) {pc n1 n2 : Nat} {ls : Array Slot} {st : List Value} {x : Int32} {o : Int} (hd : decode bytes pc = .ok (.ifCond .gt o, 3)) (ho : 0 ≤ (pc : Int) + o) (h1 : ((pc : Int) + o).toNat = n1) (h2 : pc + 3 = n2) (K1 : 0 < x → Run p e below s n0 fc fs Q (T.setTop (mkF m n1 ls st))) (K2 : ¬ 0 < x → Run p e below s n0 fc fs Q (T.setTop (mkF m n2 ls st))) : Run p e below s n0 fc fs Q (T.setTop (mkF m pc ls (.int x :: st))) := by
  exact ifc X hd ho h1 h2 (fun hq => by rw [if0] at hq; exact K1 (Classical.byContradiction fun w => by rw [(flt w).2.2.1] at hq; cases hq)) (fun hq => by rw [if0] at hq; exact K2 (fun w => by rw [(tlt w).2.2.1] at hq; cases hq))
theorem ic_le (X : Sd Z y bytes maxL ret p l e R s m args below meth c n0 h kc ks T) {pc n1 n2 : Nat} {ls : Array Slot} {st : List Value} {x v : Int32} {o : Int} (hd : decode bytes pc = .ok (.if_icmp .le o, 3)) (ho : 0 ≤ (pc : Int) + o) (h1 : ((pc : Int) + o).toNat = n1) (h2 : pc + 3 = n2) (K1 : ¬ v < x → Run p e below s n0 fc fs Q (T.setTop (mkF m n1 ls st))) (K2 : v < x → Run p e below s n0 fc fs Q (T.setTop (mkF m n2 ls st))) : Run p e below s n0 fc fs Q (T.setTop (mkF m pc ls (.int v :: .int x :: st))) := by
  exact icc X hd ho h1 h2 (fun hq => K1 (fun w => by rw [(tlt w).2.2.2] at hq; cases hq)) (fun hq => K2 (Classical.byContradiction fun w => by rw [(flt w).2.2.2] at hq; cases hq))
theorem if_le (X : Sd Z y bytes maxL ret p l e R s m args below meth c n0 h kc ks T) {pc n1 n2 : Nat} {ls : Array Slot} {st : List Value} {x : Int32} {o : Int} (hd : decode bytes pc = .ok (.ifCond .le o, 3)) (ho : 0 ≤ (pc : Int) + o) (h1 : ((pc : Int) + o).toNat = n1) (h2 : pc + 3 = n2) (K1 : ¬ 0 < x → Run p e below s n0 fc fs Q (T.setTop (mkF m n1 ls st))) (K2 : 0 < x → Run p e below s n0 fc fs Q (T.setTop (mkF m n2 ls st))) : Run p e below s n0 fc fs Q (T.setTop (mkF m pc ls (.int x :: st))) := by
  exact ifc X hd ho h1 h2 (fun hq => by rw [if0] at hq; exact K1 (fun w => by rw [(tlt w).2.2.2] at hq; cases hq)) (fun hq => by rw [if0] at hq; exact K2 (Classical.byContradiction fun w => by rw [(flt w).2.2.2] at hq; cases hq))
theorem ifnull_y (X : Sd Z y bytes maxL ret p l e R s m args below meth c n0 h kc ks T) {pc n1 : Nat} {ls : Array Slot} {st : List Value} {o : Int} (hd : decode bytes pc = .ok (.ifnull o, 3)) (ho : 0 ≤ (pc : Int) + o) (h1 : ((pc : Int) + o).toNat = n1) (K : Run p e below s n0 fc fs Q (T.setTop (mkF m n1 ls st))) : Run p e below s n0 fc fs Q (T.setTop (mkF m pc ls (.null :: st))) := K.st fun _ k => XS.ifnullYes X.hr X.1.1 rfl rfl (X.d hd) rfl ho h1 k
theorem ifnull_n (X : Sd Z y bytes maxL ret p l e R s m args below meth c n0 h kc ks T) {pc n2 : Nat} {ls : Array Slot} {st : List Value} {o : Int} {a : Addr} (hd : decode bytes pc = .ok (.ifnull o, 3)) (h2 : pc + 3 = n2) (K : Run p e below s n0 fc fs Q (T.setTop (mkF m n2 ls st))) : Run p e below s n0 fc fs Q (T.setTop (mkF m pc ls (.ref a :: st))) := by
  subst h2; exact K.st fun _ k => XS.ifnullNo X.hr X.1.1 rfl (X.d hd) rfl k
theorem ifnonnull_y (X : Sd Z y bytes maxL ret p l e R s m args below meth c n0 h kc ks T) {pc n1 : Nat} {ls : Array Slot} {st : List Value} {o : Int} {a : Addr} (hd : decode bytes pc = .ok (.ifnonnull o, 3)) (ho : 0 ≤ (pc : Int) + o) (h1 : ((pc : Int) + o).toNat = n1) (K : Run p e below s n0 fc fs Q (T.setTop (mkF m n1 ls st))) : Run p e below s n0 fc fs Q (T.setTop (mkF m pc ls (.ref a :: st))) := K.st fun _ k => XS.ifnonnullYes X.hr X.1.1 rfl rfl (X.d hd) rfl ho h1 k
theorem ifnonnull_n (X : Sd Z y bytes maxL ret p l e R s m args below meth c n0 h kc ks T) {pc n2 : Nat} {ls : Array Slot} {st : List Value} {o : Int} (hd : decode bytes pc = .ok (.ifnonnull o, 3)) (h2 : pc + 3 = n2) (K : Run p e below s n0 fc fs Q (T.setTop (mkF m n2 ls st))) : Run p e below s n0 fc fs Q (T.setTop (mkF m pc ls (.null :: st))) := by
  subst h2; exact K.st fun _ k => XS.ifnonnullNo X.hr X.1.1 rfl (X.d hd) rfl k
theorem ac_eq (X : Sd Z y bytes maxL ret p l e R s m args below meth c n0 h kc ks T) {pc n1 n2 : Nat} {ls : Array Slot} {st : List Value} {x v : Value} {o : Int} (hd : decode bytes pc = .ok (.if_acmp .eq o, 3)) (hx : x.isRef = true) (hv : v.isRef = true) (ho : 0 ≤ (pc : Int) + o) (h1 : ((pc : Int) + o).toNat = n1) (h2 : pc + 3 = n2) (K1 : x = v → Run p e below s n0 fc fs Q (T.setTop (mkF m n1 ls st))) (K2 : ¬ x = v → Run p e below s n0 fc fs Q (T.setTop (mkF m n2 ls st))) : Run p e below s n0 fc fs Q (T.setTop (mkF m pc ls (v :: x :: st))) := by
  obtain ⟨q, L, i, j, Y, -⟩ := X
  by_cases hq : x = v
  · exact (K1 hq).st fun _ k => acmp Y q.1 rfl hx hv rfl (q.2.2.1 ▸ hd) rfl (decide_eq_true hq) ho (by simp [acV, ← h1, ← h2]) k
  · exact (K2 hq).st fun _ k => acmp Y q.1 rfl hx hv rfl (q.2.2.1 ▸ hd) rfl (decide_eq_false hq) ho (by simp [acV, ← h1, ← h2]) k
theorem ac_ne (X : Sd Z y bytes maxL ret p l e R s m args below meth c n0 h kc ks T) {pc n1 n2 : Nat} {ls : Array Slot} {st : List Value} {x v : Value} {o : Int} (hd : decode bytes pc = .ok (.if_acmp .ne o, 3)) (hx : x.isRef = true) (hv : v.isRef = true) (ho : 0 ≤ (pc : Int) + o) (h1 : ((pc : Int) + o).toNat = n1) (h2 : pc + 3 = n2) (K1 : ¬ x = v → Run p e below s n0 fc fs Q (T.setTop (mkF m n1 ls st))) (K2 : x = v → Run p e below s n0 fc fs Q (T.setTop (mkF m n2 ls st))) : Run p e below s n0 fc fs Q (T.setTop (mkF m pc ls (v :: x :: st))) := by
  obtain ⟨q, L, i, j, Y, -⟩ := X
  by_cases hq : x = v
  · exact (K2 hq).st fun _ k => acmp Y q.1 rfl hx hv rfl (q.2.2.1 ▸ hd) rfl (decide_eq_true hq) ho (by simp [acV, ← h1, ← h2]) k
  · exact (K1 hq).st fun _ k => acmp Y q.1 rfl hx hv rfl (q.2.2.1 ▸ hd) rfl (decide_eq_false hq) ho (by simp [acV, ← h1, ← h2]) k
theorem Sd.re {T' : State} {L : List Loc} {i j : Nat} (X : Sd Z y bytes maxL ret p l e R s m args below meth c n0 h kc ks T) (Y : Stand p l e R s m args below meth c T' L i j) (h1 : T'.heap = h) (h2 : Fr n0 L) (h3 : i ≤ kc) (h4 : j ≤ ks) : Sd Z y bytes maxL ret p l e R s m args below meth c n0 h kc ks T' := ⟨X.1, L, i, j, Y, h1, h2, h3, h4⟩
theorem getstatic (X : Sd Z y bytes maxL ret p l e R s m args below meth c n0 h kc ks T) {pc n index : Nat} {ls : Array Slot} {st : List Value} {R0 O f d : String} {v : Value} (hd : decode bytes pc = .ok (.getstatic index, 3)) (w : (Cond.fieldLink y.cls index R0 f d).before a0 Z = true) (via : Via Z R0 O f d) (F : Sta Z h O f d v) (hn : pc + 3 = n) (K : ∀ T', Sd Z y bytes maxL ret p l e R s m args below meth c n0 h kc ks T' → Run p e below s n0 fc fs Q (T'.setTop (mkF m n ls (v :: st)))) : Run p e below s n0 fc fs Q (T.setTop (mkF m pc ls st)) := by
  subst hn; obtain ⟨q, L, i, j, Y, r1, r2, r3, r4⟩ := X
  obtain ⟨T', Y', e', stp⟩ := getS (host := "") Y q.1 q.2.1 q.2.2.2.2.2.2.1 w via r1 F (g := mkF m pc ls st) rfl (q.2.2.1 ▸ hd)
  exact (K T' ⟨q, L, i, j, Y', e', r2, r3, r4⟩).st stp
theorem getstaticN (X : Sd Z y bytes maxL ret p l e R s m args below meth c n0 h kc ks T) {pc n index : Nat} {ls : Array Slot} {st : List Value} {R0 O f d host : String} {v : Value} (hd : decode bytes pc = .ok (.getstatic index, 3)) (w : (Cond.fieldLinkNest y.cls index R0 f d host).before a0 Z = true) (via : Via Z R0 O f d) (F : Sta Z h O f d v) (hn : pc + 3 = n) (K : ∀ T', Sd Z y bytes maxL ret p l e R s m args below meth c n0 h kc ks T' → Run p e below s n0 fc fs Q (T'.setTop (mkF m n ls (v :: st)))) : Run p e below s n0 fc fs Q (T.setTop (mkF m pc ls st)) := by
  subst hn; obtain ⟨q, L, i, j, Y, r1, r2, r3, r4⟩ := X
  obtain ⟨T', Y', e', stp⟩ := getS2 Y q.1 q.2.1 q.2.2.2.2.2.2.1 (Or.inr w) via r1 F (g := mkF m pc ls st) rfl (q.2.2.1 ▸ hd)
  exact (K T' ⟨q, L, i, j, Y', e', r2, r3, r4⟩).st stp
theorem getfield (X : Sd Z y bytes maxL ret p l e R s m args below meth c n0 h kc ks T) {pc n index : Nat} {ls : Array Slot} {st : List Value} {R0 O f d : String} {a : Addr} {v : Value} (hd : decode bytes pc = .ok (.getfield index, 3)) (w : (Cond.fieldLink y.cls index R0 f d).before a0 Z = true) (via : Via Z R0 O f d) (F : Fld Z h a O f d v) (hn : pc + 3 = n) (K : ∀ T', Sd Z y bytes maxL ret p l e R s m args below meth c n0 h kc ks T' → Run p e below s n0 fc fs Q (T'.setTop (mkF m n ls (v :: st)))) : Run p e below s n0 fc fs Q (T.setTop (mkF m pc ls (.ref a :: st))) := by
  subst hn; obtain ⟨q, L, i, j, Y, r1, r2, r3, r4⟩ := X
  obtain ⟨T', Y', e', stp⟩ := getF (host := "") Y q.1 q.2.1 q.2.2.2.2.2.2.1 (Or.inl w) via r1 F (g := mkF m pc ls (.ref a :: st)) rfl rfl (q.2.2.1 ▸ hd)
  exact (K T' ⟨q, L, i, j, Y', e', r2, r3, r4⟩).st stp
theorem lenA {d : String} {ps : List FieldType} {r : Option FieldType} (hd : parseMethodDescriptor d = some ⟨ps, r⟩) {L : List Value} (hl : L.length = ps.length) : ∀ sig, parseMethodDescriptor d = some sig → L.length = sig.parameters.length := lenOf hd hl
theorem call_static (X : Sd Z y bytes maxL ret p l e R s m args below meth c n0 h kc ks T) {rm : Room} {ybytes : ByteArray} {yL : Nat} {yret : Option FieldType} {z : MethodName} {Qc : Option Value → Heap → Prop} {pc n index W : Nat} {ls : Array Slot} {st rest argsL : List Value} (hd : decode bytes pc = .ok (.invokestatic index, 3)) (w1 : (Cond.methodLink y.cls index z).before a0 Z = true) (w2 : (Cond.static z).before a0 Z = true) (wc : (Cond.code z ybytes yL yret).before a0 Z = true) (wi : (Cond.initialized z.cls).before a0 Z = true) (hy : z.cls ≠ "java/lang/invoke/MethodHandle" ∧ z.cls ≠ "java/lang/invoke/VarHandle") (hC : Ctr l Z z ybytes yL yret [] rm n0 argsL.toArray h Qc) (hst : st = argsL.reverse ++ rest) (hsize : ls.size = maxL) (hlen : ∀ sig, parseMethodDescriptor z.desc = some sig → argsL.length = sig.parameters.length) (hW : (rest.map fun v => v.category).sum ≤ W) (hfr : rm.frames + 1 ≤ R.frames) (hlo : W + (yL + 11) + rm.locals ≤ R.locals) (hce : kc + rm.cells ≤ R.cells) (hsl : ks + rm.slots ≤ R.slots) (hn : pc + 3 = n) (K : ∀ T' h' v, Sd Z y bytes maxL ret p l e R s m args below meth c n0 h' (kc + rm.cells) (ks + rm.slots) T' → Qc v h' → Run p e below s n0 fc fs Q (T'.setTop (mkF m n ls (v.toList ++ rest)))) : Run p e below s n0 fc fs Q (T.setTop (mkF m pc ls st)) := by
  subst hn hst; obtain ⟨q, L, i, j, Y, r1, r2, r3, r4⟩ := X
  have hC' : MetFree l z (head1 [Cond.code z ybytes yL yret] rm) (fun a' U => a' = argsL.toArray ∧ Z.Warmed39 U.vm ∧ U.heap = h) (fun _ _ _ _ _ => True) (fun _ U o U' => ∃ v L, o = .returned v ∧ (Qc v U'.heap ∧ Fr n0 L) ∧ FrameEnd U o U' L rm.cells rm.slots) := hC
  have hB := backOf (W := W) (R := R) (p := p) (e := e) (below := below) (args := args) (len := 3) (Q := fun v hh L => Qc v hh ∧ Fr n0 L) hC' q.2.1 wc wi hfr hlo
  obtain ⟨v, vm₁, ⟨T', L', k', n'⟩, -, Y', ⟨Lc, hQ, l', y', z'⟩, stp⟩ := Jvm.LawKit.callS Y q.1 (y := z) q.2.2.2.2.2.2.1 (mvT q.2.1 w1) (mvT q.2.1 w2) (mvT q.2.1 wi) (mvT q.2.1 wc) hy hB (g := mkF m pc ls (argsL.reverse ++ rest)) rfl (by rw [q.2.2.2.1]; exact hsize) (argsL := argsL) (rest := rest) hlen rfl (by simpa using hW) (q.2.2.1 ▸ hd) (fun _ _ => ⟨rfl, r1, by dsimp only [Pt.cells]; omega, by dsimp only [Pt.slots]; omega⟩)
  dsimp only [Pt.U, Pt.locs, Pt.cells, Pt.slots] at Y' l' y' z' stp hQ
  obtain ⟨hQ1, hQ2⟩ := hQ
  subst l' y' z'
  exact (K T' T'.heap v ⟨q, _, _, _, Y', rfl, Fr.app r2 hQ2, by omega, by omega⟩ hQ1).st fun t k => stp t k
theorem call_static_v (X : Sd Z y bytes maxL ret p l e R s m args below meth c n0 h kc ks T) {rm : Room} {ybytes : ByteArray} {yL : Nat} {yret : Option FieldType} {z : MethodName} {Qv : Value → Heap → Prop} {pc n index W : Nat} {ls : Array Slot} {st rest argsL : List Value} (hd : decode bytes pc = .ok (.invokestatic index, 3)) (w1 : (Cond.methodLink y.cls index z).before a0 Z = true) (w2 : (Cond.static z).before a0 Z = true) (wc : (Cond.code z ybytes yL yret).before a0 Z = true) (wi : (Cond.initialized z.cls).before a0 Z = true) (hy : z.cls ≠ "java/lang/invoke/MethodHandle" ∧ z.cls ≠ "java/lang/invoke/VarHandle") (hC : Ctr l Z z ybytes yL yret [] rm n0 argsL.toArray h (Rt Qv)) (hst : st = argsL.reverse ++ rest) (hsize : ls.size = maxL) (hlen : ∀ sig, parseMethodDescriptor z.desc = some sig → argsL.length = sig.parameters.length) (hW : (rest.map fun v => v.category).sum ≤ W) (hfr : rm.frames + 1 ≤ R.frames) (hlo : W + (yL + 11) + rm.locals ≤ R.locals) (hce : kc + rm.cells ≤ R.cells) (hsl : ks + rm.slots ≤ R.slots) (hn : pc + 3 = n) (K : ∀ T' h' w, Sd Z y bytes maxL ret p l e R s m args below meth c n0 h' (kc + rm.cells) (ks + rm.slots) T' → Qv w h' → Run p e below s n0 fc fs Q (T'.setTop (mkF m n ls (w :: rest)))) : Run p e below s n0 fc fs Q (T.setTop (mkF m pc ls st)) :=
  call_static X hd w1 w2 wc wi hy hC hst hsize hlen hW hfr hlo hce hsl hn fun T' h' v X' q => by obtain ⟨w, rfl, q⟩ := q; exact K T' h' w X' q
theorem call_static_n (X : Sd Z y bytes maxL ret p l e R s m args below meth c n0 h kc ks T) {rm : Room} {ybytes : ByteArray} {yL : Nat} {yret : Option FieldType} {z : MethodName} {Qn : Heap → Prop} {pc n index W : Nat} {ls : Array Slot} {st rest argsL : List Value} (hd : decode bytes pc = .ok (.invokestatic index, 3)) (w1 : (Cond.methodLink y.cls index z).before a0 Z = true) (w2 : (Cond.static z).before a0 Z = true) (wc : (Cond.code z ybytes yL yret).before a0 Z = true) (wi : (Cond.initialized z.cls).before a0 Z = true) (hy : z.cls ≠ "java/lang/invoke/MethodHandle" ∧ z.cls ≠ "java/lang/invoke/VarHandle") (hC : Ctr l Z z ybytes yL yret [] rm n0 argsL.toArray h (Rn Qn)) (hst : st = argsL.reverse ++ rest) (hsize : ls.size = maxL) (hlen : ∀ sig, parseMethodDescriptor z.desc = some sig → argsL.length = sig.parameters.length) (hW : (rest.map fun v => v.category).sum ≤ W) (hfr : rm.frames + 1 ≤ R.frames) (hlo : W + (yL + 11) + rm.locals ≤ R.locals) (hce : kc + rm.cells ≤ R.cells) (hsl : ks + rm.slots ≤ R.slots) (hn : pc + 3 = n) (K : ∀ T' h', Sd Z y bytes maxL ret p l e R s m args below meth c n0 h' (kc + rm.cells) (ks + rm.slots) T' → Qn h' → Run p e below s n0 fc fs Q (T'.setTop (mkF m n ls rest))) : Run p e below s n0 fc fs Q (T.setTop (mkF m pc ls st)) :=
  call_static X hd w1 w2 wc wi hy hC hst hsize hlen hW hfr hlo hce hsl hn fun T' h' v X' q => by obtain ⟨rfl, q⟩ := q; exact K T' h' X' q
theorem call_virtual (X : Sd Z y bytes maxL ret p l e R s m args below meth c n0 h kc ks T) {rm : Room} {ybytes : ByteArray} {yL : Nat} {yret : Option FieldType} {z : MethodName} {Qc : Option Value → Heap → Prop} {pc n index W : Nat} {ls : Array Slot} {st rest argsL : List Value} {a : Addr} {C : String} {yv : MethodName} (hd : decode bytes pc = .ok (.invokevirtual index, 3)) (w1 : (Cond.methodLink y.cls index yv).before a0 Z = true) (w2 : (Cond.declares yv).before a0 Z = true) (w3 : (Cond.instanceMethod z).before a0 Z = true) (w4 : (Cond.selects C yv z).before a0 Z = true) (hnf : ∀ {s' : State}, Z.Warmed39 s'.vm → NotFace s' yv) (wc : (Cond.code z ybytes yL yret).before a0 Z = true) (wi : (Cond.initialized z.cls).before a0 Z = true) (hy : yv.cls ≠ "java/lang/invoke/MethodHandle" ∧ yv.cls ≠ "java/lang/invoke/VarHandle") (E : Exa Z h a C) (hC : Ctr l Z z ybytes yL yret [] rm n0 (.ref a :: argsL).toArray h Qc) (hst : st = argsL.reverse ++ .ref a :: rest) (hsize : ls.size = maxL) (hlen : ∀ sig, parseMethodDescriptor yv.desc = some sig → argsL.length = sig.parameters.length) (hW : (rest.map fun v => v.category).sum ≤ W) (hfr : rm.frames + 1 ≤ R.frames) (hlo : W + (yL + 11) + rm.locals ≤ R.locals) (hce : kc + rm.cells ≤ R.cells) (hsl : ks + rm.slots ≤ R.slots) (hn : pc + 3 = n) (K : ∀ T' h' v, Sd Z y bytes maxL ret p l e R s m args below meth c n0 h' (kc + rm.cells) (ks + rm.slots) T' → Qc v h' → Run p e below s n0 fc fs Q (T'.setTop (mkF m n ls (v.toList ++ rest)))) : Run p e below s n0 fc fs Q (T.setTop (mkF m pc ls st)) := by
  subst hn hst; obtain ⟨q, L, i, j, Y, r1, r2, r3, r4⟩ := X
  have hC' : MetFree l z (head1 [Cond.code z ybytes yL yret] rm) (fun a' U => a' = (.ref a :: argsL).toArray ∧ Z.Warmed39 U.vm ∧ U.heap = h) (fun _ _ _ _ _ => True) (fun _ U o U' => ∃ v L, o = .returned v ∧ (Qc v U'.heap ∧ Fr n0 L) ∧ FrameEnd U o U' L rm.cells rm.slots) := hC
  have hB := backOf (W := W) (R := R) (p := p) (e := e) (below := below) (args := args) (len := 3) (Q := fun v hh L => Qc v hh ∧ Fr n0 L) hC' q.2.1 wc wi hfr hlo
  obtain ⟨cq, kq, qa, qb, qc⟩ := isOf (T := T) q.2.1 r1 E
  obtain ⟨v, vm₁, ⟨T', L', k', n'⟩, -, Y', ⟨Lc, hQ, l', y', z'⟩, stp⟩ := Y.virtualBack q.1 (y := yv) (z := z) q.2.2.2.2.2.2.1 (mvT q.2.1 w1) (mvT q.2.1 w2) (hnf q.2.1) (mvT q.2.1 w4) (mvT q.2.1 w3) hy hB qa qc (g := mkF m pc ls (argsL.reverse ++ .ref a :: rest)) rfl (by rw [q.2.2.2.1]; exact hsize) (Steps.refl _) (argsL := argsL) (rest := rest) hlen rfl (by simpa using hW) (q.2.2.1 ▸ hd) (fun _ _ => ⟨rfl, r1, by dsimp only [Pt.cells]; omega, by dsimp only [Pt.slots]; omega⟩)
  dsimp only [Pt.U, Pt.locs, Pt.cells, Pt.slots] at Y' l' y' z' stp hQ
  obtain ⟨hQ1, hQ2⟩ := hQ
  subst l' y' z'
  exact (K T' T'.heap v ⟨q, _, _, _, Y', rfl, Fr.app r2 hQ2, by omega, by omega⟩ hQ1).st fun t k => stp.trans k
theorem call_virtual_v (X : Sd Z y bytes maxL ret p l e R s m args below meth c n0 h kc ks T) {rm : Room} {ybytes : ByteArray} {yL : Nat} {yret : Option FieldType} {z : MethodName} {Qv : Value → Heap → Prop} {pc n index W : Nat} {ls : Array Slot} {st rest argsL : List Value} {a : Addr} {C : String} {yv : MethodName} (hd : decode bytes pc = .ok (.invokevirtual index, 3)) (w1 : (Cond.methodLink y.cls index yv).before a0 Z = true) (w2 : (Cond.declares yv).before a0 Z = true) (w3 : (Cond.instanceMethod z).before a0 Z = true) (w4 : (Cond.selects C yv z).before a0 Z = true) (hnf : ∀ {s' : State}, Z.Warmed39 s'.vm → NotFace s' yv) (wc : (Cond.code z ybytes yL yret).before a0 Z = true) (wi : (Cond.initialized z.cls).before a0 Z = true) (hy : yv.cls ≠ "java/lang/invoke/MethodHandle" ∧ yv.cls ≠ "java/lang/invoke/VarHandle") (E : Exa Z h a C) (hC : Ctr l Z z ybytes yL yret [] rm n0 (.ref a :: argsL).toArray h (Rt Qv)) (hst : st = argsL.reverse ++ .ref a :: rest) (hsize : ls.size = maxL) (hlen : ∀ sig, parseMethodDescriptor yv.desc = some sig → argsL.length = sig.parameters.length) (hW : (rest.map fun v => v.category).sum ≤ W) (hfr : rm.frames + 1 ≤ R.frames) (hlo : W + (yL + 11) + rm.locals ≤ R.locals) (hce : kc + rm.cells ≤ R.cells) (hsl : ks + rm.slots ≤ R.slots) (hn : pc + 3 = n) (K : ∀ T' h' w, Sd Z y bytes maxL ret p l e R s m args below meth c n0 h' (kc + rm.cells) (ks + rm.slots) T' → Qv w h' → Run p e below s n0 fc fs Q (T'.setTop (mkF m n ls (w :: rest)))) : Run p e below s n0 fc fs Q (T.setTop (mkF m pc ls st)) :=
  call_virtual X hd w1 w2 w3 w4 hnf wc wi hy E hC hst hsize hlen hW hfr hlo hce hsl hn fun T' h' v X' q => by obtain ⟨w, rfl, q⟩ := q; exact K T' h' w X' q
theorem call_virtual_n (X : Sd Z y bytes maxL ret p l e R s m args below meth c n0 h kc ks T) {rm : Room} {ybytes : ByteArray} {yL : Nat} {yret : Option FieldType} {z : MethodName} {Qn : Heap → Prop} {pc n index W : Nat} {ls : Array Slot} {st rest argsL : List Value} {a : Addr} {C : String} {yv : MethodName} (hd : decode bytes pc = .ok (.invokevirtual index, 3)) (w1 : (Cond.methodLink y.cls index yv).before a0 Z = true) (w2 : (Cond.declares yv).before a0 Z = true) (w3 : (Cond.instanceMethod z).before a0 Z = true) (w4 : (Cond.selects C yv z).before a0 Z = true) (hnf : ∀ {s' : State}, Z.Warmed39 s'.vm → NotFace s' yv) (wc : (Cond.code z ybytes yL yret).before a0 Z = true) (wi : (Cond.initialized z.cls).before a0 Z = true) (hy : yv.cls ≠ "java/lang/invoke/MethodHandle" ∧ yv.cls ≠ "java/lang/invoke/VarHandle") (E : Exa Z h a C) (hC : Ctr l Z z ybytes yL yret [] rm n0 (.ref a :: argsL).toArray h (Rn Qn)) (hst : st = argsL.reverse ++ .ref a :: rest) (hsize : ls.size = maxL) (hlen : ∀ sig, parseMethodDescriptor yv.desc = some sig → argsL.length = sig.parameters.length) (hW : (rest.map fun v => v.category).sum ≤ W) (hfr : rm.frames + 1 ≤ R.frames) (hlo : W + (yL + 11) + rm.locals ≤ R.locals) (hce : kc + rm.cells ≤ R.cells) (hsl : ks + rm.slots ≤ R.slots) (hn : pc + 3 = n) (K : ∀ T' h', Sd Z y bytes maxL ret p l e R s m args below meth c n0 h' (kc + rm.cells) (ks + rm.slots) T' → Qn h' → Run p e below s n0 fc fs Q (T'.setTop (mkF m n ls rest))) : Run p e below s n0 fc fs Q (T.setTop (mkF m pc ls st)) :=
  call_virtual X hd w1 w2 w3 w4 hnf wc wi hy E hC hst hsize hlen hW hfr hlo hce hsl hn fun T' h' v X' q => by obtain ⟨rfl, q⟩ := q; exact K T' h' X' q
theorem joinT (X : Sd Z y bytes maxL ret p l e R s m args below meth c n0 h kc ks T) {α : Type} (P : α → Prop) (f : α → JFrame) {t : State} (J : ∀ T' v, Sd Z y bytes maxL ret p l e R s m args below meth c n0 h kc ks T' → P v → Run p e below s n0 fc fs Q (T'.setTop (f v))) (K : (∀ T' v, Sd Z y bytes maxL ret p l e R s m args below meth c n0 h kc ks T' → P v → Run p e below s n0 fc fs Q (T'.setTop (f v))) → Run p e below s n0 fc fs Q t) : Run p e below s n0 fc fs Q t := K J
theorem eqI_v {args : Array Value} {first s : State} {o : Option Outcome} {idx : List Nat} {t : Term} {z : Int32} (h : (Jvm.Cond.eq t (Term.int z)).value args first o s idx = some true) : t.eval args first o idx s = some (.int z) := by
  simp only [Jvm.Cond.value, Term.eval] at h
  cases ht : t.eval args first o idx s with
  | none => simp [ht] at h
  | some x => cases x <;> simp [ht] at h ⊢; exact h
end A
end Jvm.OwnK
namespace Jvm.Pilot.@@N@@
open Jvm Jvm.ClassFile Sem Op Lib Jvm.Free Jvm.Stand Jvm.LawKit Jvm.RoadKit Jvm.OwnK Bundle Jvm.Pilot.@@N@@.Jvm.D
theorem pn_com_example_beholden_beholden_proof_Rule_Argument : plainName "com/example/beholden/beholden/proof/Rule$Argument" = true := by first | (simp [plainName, overriddenIn]; done) | decide +kernel
theorem d1_0 : decode prog_93_method_7_code 0 = .ok (.iload_n 1, 1) := by decide +kernel
theorem d1_1 : decode prog_93_method_7_code 1 = .ok (.aload_n 0, 1) := by decide +kernel
theorem d1_2 : decode prog_93_method_7_code 2 = .ok (.getfield 41, 3) := by decide +kernel
theorem d1_5 : decode prog_93_method_7_code 5 = .ok (.if_icmp .ne 31, 3) := by decide +kernel
theorem d1_8 : decode prog_93_method_7_code 8 = .ok (.iload_n 2, 1) := by decide +kernel
theorem d1_9 : decode prog_93_method_7_code 9 = .ok (.aload_n 0, 1) := by decide +kernel
theorem d1_10 : decode prog_93_method_7_code 10 = .ok (.getfield 45, 3) := by decide +kernel
theorem d1_13 : decode prog_93_method_7_code 13 = .ok (.if_icmp .ne 23, 3) := by decide +kernel
theorem d1_16 : decode prog_93_method_7_code 16 = .ok (.iload_n 3, 1) := by decide +kernel
theorem d1_17 : decode prog_93_method_7_code 17 = .ok (.aload_n 0, 1) := by decide +kernel
theorem d1_18 : decode prog_93_method_7_code 18 = .ok (.getfield 48, 3) := by decide +kernel
theorem d1_21 : decode prog_93_method_7_code 21 = .ok (.if_icmp .lt 15, 3) := by decide +kernel
theorem d1_24 : decode prog_93_method_7_code 24 = .ok (.iload_n 3, 1) := by decide +kernel
theorem d1_25 : decode prog_93_method_7_code 25 = .ok (.aload_n 0, 1) := by decide +kernel
theorem d1_26 : decode prog_93_method_7_code 26 = .ok (.getfield 51, 3) := by decide +kernel
theorem d1_29 : decode prog_93_method_7_code 29 = .ok (.if_icmp .gt 7, 3) := by decide +kernel
theorem d1_32 : decode prog_93_method_7_code 32 = .ok (.iconst 1, 1) := by decide +kernel
theorem d1_33 : decode prog_93_method_7_code 33 = .ok (.goto 4, 3) := by decide +kernel
theorem d1_36 : decode prog_93_method_7_code 36 = .ok (.iconst 0, 1) := by decide +kernel
theorem d1_37 : decode prog_93_method_7_code 37 = .ok (.ireturn, 1) := by decide +kernel
theorem ef_rm1 (m : MethodId) (r0 : Addr) (p1 : Int32) (p2 : Int32) (p3 : Int32) : entryFrame m #[(.ref r0), (.int p1), (.int p2), (.int p3)] 4 = mkF m 0 #[.val (.ref r0), .val (.int p1), .val (.int p2), .val (.int p3)] [] := by first | (simp [entryFrame, mkF, argsToLocals, Value.category]; done) | rfl
set_option maxRecDepth 65536 in
set_option maxHeartbeats 40000000 in
theorem rm1 (l : Launch) (Z : State) (a0 : Array Value) (hw : ∀ d ∈ tables_1, d.before a0 Z = true) (ws : List Jvm.Cond) (r0 : Addr) (p1 : Int32) (p2 : Int32) (p3 : Int32) (h0 : Heap) (n0 : Nat) (en : Int32) (F_entries : Fld Z h0 r0 "com/example/beholden/beholden/proof/Rule$Argument" "entries" "I" (.int en)) (co : Int32) (F_constants : Fld Z h0 r0 "com/example/beholden/beholden/proof/Rule$Argument" "constants" "I" (.int co)) (mi : Int32) (F_minPolicies : Fld Z h0 r0 "com/example/beholden/beholden/proof/Rule$Argument" "minPolicies" "I" (.int mi)) (ma : Int32) (F_maxPolicies : Fld Z h0 r0 "com/example/beholden/beholden/proof/Rule$Argument" "maxPolicies" "I" (.int ma)) :
    Ctr l Z (⟨"com/example/beholden/beholden/proof/Rule$Argument", "fits", "(III)Z"⟩ : MethodName) prog_93_method_7_code 4 (some .boolean) ws ({ frames := 0, cells := 0, slots := 0, locals := 0 } : Room) n0 #[(.ref r0), (.int p1), (.int p2), (.int p3)] h0 (Rt (fun w h => w = .int (if p1 = en then if p2 = co then if p3 < mi then 0 else if ma < p3 then 0 else 1 else 0 else 0) ∧ h0 = h)) := by
  refine Ctr.of pn_com_example_beholden_beholden_proof_Rule_Argument (fun m => ef_rm1 m r0 p1 p2 p3) ?_
  intro p e s m below meth c T0 X0
  refine OwnK.iloadN X0 (n := 1) d1_0 rfl rfl ?_
  refine OwnK.aloadN X0 (n := 2) d1_1 rfl rfl rfl ?_
  refine OwnK.getfield X0 (n := 5) d1_2 (hw _ (List.mem_of_getElem? (i := 9) rfl)) Via.refl F_entries rfl ?_
  intro T1 X1
  refine OwnK.ic_ne X1  (n1 := 36) (n2 := 8) d1_5 (by decide) rfl rfl (fun hc5 => ?_) (fun hc5 => ?_)
  · refine OwnK.iconst X1 (z := (0 : Int32)) (n := 37) d1_36 rfl rfl ?_
    exact OwnK.ireturn X1 rfl (Or.inr (Or.inl rfl)) rfl d1_37 ⟨by simp [hc5], rfl⟩ (by decide) (by decide)
  · refine OwnK.iloadN X1 (n := 9) d1_8 rfl rfl ?_
    refine OwnK.aloadN X1 (n := 10) d1_9 rfl rfl rfl ?_
    refine OwnK.getfield X1 (n := 13) d1_10 (hw _ (List.mem_of_getElem? (i := 17) rfl)) Via.refl F_constants rfl ?_
    intro T2 X2
    refine OwnK.ic_ne X2  (n1 := 36) (n2 := 16) d1_13 (by decide) rfl rfl (fun hc13 => ?_) (fun hc13 => ?_)
    · refine OwnK.iconst X2 (z := (0 : Int32)) (n := 37) d1_36 rfl rfl ?_
      exact OwnK.ireturn X2 rfl (Or.inr (Or.inl rfl)) rfl d1_37 ⟨by simp [hc5, hc13], rfl⟩ (by decide) (by decide)
    · refine OwnK.iloadN X2 (n := 17) d1_16 rfl rfl ?_
      refine OwnK.aloadN X2 (n := 18) d1_17 rfl rfl rfl ?_
      refine OwnK.getfield X2 (n := 21) d1_18 (hw _ (List.mem_of_getElem? (i := 23) rfl)) Via.refl F_minPolicies rfl ?_
      intro T3 X3
      refine OwnK.ic_lt X3  (n1 := 36) (n2 := 24) d1_21 (by decide) rfl rfl (fun hc21 => ?_) (fun hc21 => ?_)
      · refine OwnK.iconst X3 (z := (0 : Int32)) (n := 37) d1_36 rfl rfl ?_
        exact OwnK.ireturn X3 rfl (Or.inr (Or.inl rfl)) rfl d1_37 ⟨by simp [hc5, hc13, hc21], rfl⟩ (by decide) (by decide)
      · refine OwnK.iloadN X3 (n := 25) d1_24 rfl rfl ?_
        refine OwnK.aloadN X3 (n := 26) d1_25 rfl rfl rfl ?_
        refine OwnK.getfield X3 (n := 29) d1_26 (hw _ (List.mem_of_getElem? (i := 25) rfl)) Via.refl F_maxPolicies rfl ?_
        intro T4 X4
        refine OwnK.ic_gt X4  (n1 := 36) (n2 := 32) d1_29 (by decide) rfl rfl (fun hc29 => ?_) (fun hc29 => ?_)
        · refine OwnK.iconst X4 (z := (0 : Int32)) (n := 37) d1_36 rfl rfl ?_
          exact OwnK.ireturn X4 rfl (Or.inr (Or.inl rfl)) rfl d1_37 ⟨by simp [hc5, hc13, hc21, hc29], rfl⟩ (by decide) (by decide)
        · refine OwnK.iconst X4 (z := (1 : Int32)) (n := 33) d1_32 rfl rfl ?_
          refine OwnK.goto X4 (n := 37) d1_33 (by decide) rfl ?_
          exact OwnK.ireturn X4 rfl (Or.inr (Or.inl rfl)) rfl d1_37 ⟨by simp [hc5, hc13, hc21, hc29], rfl⟩ (by decide) (by decide)
theorem own_ge1 (v : Int32) : (if v < 1 then (0 : Int32) else if 2147483647 < v then 0 else 1) = if 0 < v then 1 else 0 := by
  have h1 : (v < 1) ↔ v.toInt < 1 := Int32.lt_iff_toInt_lt
  have h2 : ((2147483647 : Int32) < v) ↔ (2147483647 : Int) < v.toInt := Int32.lt_iff_toInt_lt
  have h3 : ((0 : Int32) < v) ↔ (0 : Int) < v.toInt := Int32.lt_iff_toInt_lt
  have h4 := rng32 v
  simp only [h1, h2, h3]
  by_cases q : 0 < v.toInt
  · have e1 : ¬ v.toInt < 1 := by omega
    have e2 : ¬ (2147483647 : Int) < v.toInt := by omega
    simp [q, e1, e2]
  · have e1 : v.toInt < 1 := by omega
    simp [q, e1]
theorem own_eq0 (v : Int32) : (if v < 0 then (0 : Int32) else if 0 < v then 0 else 1) = if v = 0 then 1 else 0 := by
  have h1 : (v < 0) ↔ v.toInt < 0 := Int32.lt_iff_toInt_lt
  have h3 : ((0 : Int32) < v) ↔ (0 : Int) < v.toInt := Int32.lt_iff_toInt_lt
  have h5 : (v = 0) ↔ v.toInt = 0 := Int32.toInt_inj.symm
  simp only [h1, h3, h5]
  by_cases q : v.toInt = 0
  · simp [q]
  · by_cases r : v.toInt < 0
    · simp [q, r]
    · have e1 : (0 : Int) < v.toInt := by omega
      simp [q, r, e1]
theorem own_eq1 (v : Int32) : (if v < 1 then (0 : Int32) else if 1 < v then 0 else 1) = if v = 1 then 1 else 0 := by
  have h1 : (v < 1) ↔ v.toInt < 1 := Int32.lt_iff_toInt_lt
  have h3 : ((1 : Int32) < v) ↔ (1 : Int) < v.toInt := Int32.lt_iff_toInt_lt
  have h5 : (v = 1) ↔ v.toInt = 1 := Int32.toInt_inj.symm
  simp only [h1, h3, h5]
  by_cases q : v.toInt = 1
  · simp [q]
  · by_cases r : v.toInt < 1
    · simp [q, r]
    · have e1 : (1 : Int) < v.toInt := by omega
      simp [q, r, e1]
theorem pd__III_Z : parseMethodDescriptor "(III)Z" = some ⟨[.int, .int, .int], some .boolean⟩ := by decide +kernel
theorem pn_com_example_beholden_beholden_proof_ArgumentFitsPinLaw : plainName "com/example/beholden/beholden/proof/ArgumentFitsPinLaw" = true := by first | (simp [plainName, overriddenIn]; done) | decide +kernel
theorem ef_rm0 (m : MethodId) (p0 : Int32) (p1 : Int32) (p2 : Int32) (p3 : Int32) (p4 : Int32) : entryFrame m #[(.int p0), (.int p1), (.int p2), (.int p3), (.int p4)] maxLocals = mkF m 0 #[.val (.int p0), .val (.int p1), .val (.int p2), .val (.int p3), .val (.int p4), .unset, .unset, .unset, .unset, .unset, .unset] [] := by first | (simp [entryFrame, mkF, argsToLocals, Value.category, maxLocals]; done) | rfl
set_option maxRecDepth 65536 in
set_option maxHeartbeats 40000000 in
theorem rm0 (l : Launch) (Z : State) (a0 : Array Value) (hw : ∀ d ∈ tables_1, d.before a0 Z = true) (ws : List Jvm.Cond) (p0 : Int32) (p1 : Int32) (p2 : Int32) (p3 : Int32) (p4 : Int32) (h0 : Heap) (n0 : Nat) (a_NONE : Addr) (S_NONE : Sta Z h0 "com/example/beholden/beholden/proof/Rule$Argument" "NONE" "Lcom/example/beholden/beholden/proof/Rule$Argument;" (.ref a_NONE)) (E_NONE : Exa Z h0 a_NONE "com/example/beholden/beholden/proof/Rule$Argument") (F_NONE_entries : Fld Z h0 a_NONE "com/example/beholden/beholden/proof/Rule$Argument" "entries" "I" (.int (0 : Int32))) (a_POLICIES : Addr) (S_POLICIES : Sta Z h0 "com/example/beholden/beholden/proof/Rule$Argument" "POLICIES" "Lcom/example/beholden/beholden/proof/Rule$Argument;" (.ref a_POLICIES)) (E_POLICIES : Exa Z h0 a_POLICIES "com/example/beholden/beholden/proof/Rule$Argument") (F_POLICIES_entries : Fld Z h0 a_POLICIES "com/example/beholden/beholden/proof/Rule$Argument" "entries" "I" (.int (0 : Int32))) (a_POLICY : Addr) (S_POLICY : Sta Z h0 "com/example/beholden/beholden/proof/Rule$Argument" "POLICY" "Lcom/example/beholden/beholden/proof/Rule$Argument;" (.ref a_POLICY)) (E_POLICY : Exa Z h0 a_POLICY "com/example/beholden/beholden/proof/Rule$Argument") (F_POLICY_entries : Fld Z h0 a_POLICY "com/example/beholden/beholden/proof/Rule$Argument" "entries" "I" (.int (0 : Int32))) (a_CONSTANT : Addr) (S_CONSTANT : Sta Z h0 "com/example/beholden/beholden/proof/Rule$Argument" "CONSTANT" "Lcom/example/beholden/beholden/proof/Rule$Argument;" (.ref a_CONSTANT)) (E_CONSTANT : Exa Z h0 a_CONSTANT "com/example/beholden/beholden/proof/Rule$Argument") (F_CONSTANT_entries : Fld Z h0 a_CONSTANT "com/example/beholden/beholden/proof/Rule$Argument" "entries" "I" (.int (0 : Int32))) (F_POLICIES_constants : Fld Z h0 a_POLICIES "com/example/beholden/beholden/proof/Rule$Argument" "constants" "I" (.int (0 : Int32))) (a_ENTRY : Addr) (S_ENTRY : Sta Z h0 "com/example/beholden/beholden/proof/Rule$Argument" "ENTRY" "Lcom/example/beholden/beholden/proof/Rule$Argument;" (.ref a_ENTRY)) (E_ENTRY : Exa Z h0 a_ENTRY "com/example/beholden/beholden/proof/Rule$Argument") (F_ENTRY_entries : Fld Z h0 a_ENTRY "com/example/beholden/beholden/proof/Rule$Argument" "entries" "I" (.int (1 : Int32))) (F_NONE_constants : Fld Z h0 a_NONE "com/example/beholden/beholden/proof/Rule$Argument" "constants" "I" (.int (0 : Int32))) (F_POLICY_constants : Fld Z h0 a_POLICY "com/example/beholden/beholden/proof/Rule$Argument" "constants" "I" (.int (0 : Int32))) (a_CONSTANT_AND_POLICY : Addr) (S_CONSTANT_AND_POLICY : Sta Z h0 "com/example/beholden/beholden/proof/Rule$Argument" "CONSTANT_AND_POLICY" "Lcom/example/beholden/beholden/proof/Rule$Argument;" (.ref a_CONSTANT_AND_POLICY)) (E_CONSTANT_AND_POLICY : Exa Z h0 a_CONSTANT_AND_POLICY "com/example/beholden/beholden/proof/Rule$Argument") (F_CONSTANT_AND_POLICY_entries : Fld Z h0 a_CONSTANT_AND_POLICY "com/example/beholden/beholden/proof/Rule$Argument" "entries" "I" (.int (0 : Int32))) (F_ENTRY_constants : Fld Z h0 a_ENTRY "com/example/beholden/beholden/proof/Rule$Argument" "constants" "I" (.int (0 : Int32))) (F_CONSTANT_constants : Fld Z h0 a_CONSTANT "com/example/beholden/beholden/proof/Rule$Argument" "constants" "I" (.int (1 : Int32))) (F_POLICIES_minPolicies : Fld Z h0 a_POLICIES "com/example/beholden/beholden/proof/Rule$Argument" "minPolicies" "I" (.int (1 : Int32))) (F_POLICIES_maxPolicies : Fld Z h0 a_POLICIES "com/example/beholden/beholden/proof/Rule$Argument" "maxPolicies" "I" (.int (2147483647 : Int32))) (F_CONSTANT_AND_POLICY_constants : Fld Z h0 a_CONSTANT_AND_POLICY "com/example/beholden/beholden/proof/Rule$Argument" "constants" "I" (.int (1 : Int32))) (F_NONE_minPolicies : Fld Z h0 a_NONE "com/example/beholden/beholden/proof/Rule$Argument" "minPolicies" "I" (.int (0 : Int32))) (F_NONE_maxPolicies : Fld Z h0 a_NONE "com/example/beholden/beholden/proof/Rule$Argument" "maxPolicies" "I" (.int (0 : Int32))) (F_POLICY_minPolicies : Fld Z h0 a_POLICY "com/example/beholden/beholden/proof/Rule$Argument" "minPolicies" "I" (.int (1 : Int32))) (F_POLICY_maxPolicies : Fld Z h0 a_POLICY "com/example/beholden/beholden/proof/Rule$Argument" "maxPolicies" "I" (.int (1 : Int32))) (F_ENTRY_minPolicies : Fld Z h0 a_ENTRY "com/example/beholden/beholden/proof/Rule$Argument" "minPolicies" "I" (.int (0 : Int32))) (F_ENTRY_maxPolicies : Fld Z h0 a_ENTRY "com/example/beholden/beholden/proof/Rule$Argument" "maxPolicies" "I" (.int (0 : Int32))) (F_CONSTANT_minPolicies : Fld Z h0 a_CONSTANT "com/example/beholden/beholden/proof/Rule$Argument" "minPolicies" "I" (.int (0 : Int32))) (F_CONSTANT_maxPolicies : Fld Z h0 a_CONSTANT "com/example/beholden/beholden/proof/Rule$Argument" "maxPolicies" "I" (.int (0 : Int32))) (F_CONSTANT_AND_POLICY_minPolicies : Fld Z h0 a_CONSTANT_AND_POLICY "com/example/beholden/beholden/proof/Rule$Argument" "minPolicies" "I" (.int (1 : Int32))) (F_CONSTANT_AND_POLICY_maxPolicies : Fld Z h0 a_CONSTANT_AND_POLICY "com/example/beholden/beholden/proof/Rule$Argument" "maxPolicies" "I" (.int (1 : Int32))) :
    Ctr l Z x code maxLocals ret ws room_1 n0 #[(.int p0), (.int p1), (.int p2), (.int p3), (.int p4)] h0 (Rt (fun w h => w = .int 1)) := by
  refine Ctr.of pn_com_example_beholden_beholden_proof_ArgumentFitsPinLaw (fun m => ef_rm0 m p0 p1 p2 p3 p4) ?_
  intro p e s m below meth c T0 X0
  refine OwnK.iloadN X0 (n := 1) at_0 rfl rfl ?_
  refine OwnK.iconst X0 (z := (1 : Int32)) (n := 2) at_1 rfl rfl ?_
  refine OwnK.iand X0 (n := 3) at_2 rfl ?_
  refine OwnK.joinT X0 (fun (e' : Int32) => True) (fun (e' : Int32) => mkF m 13 #[.val (.int p0), .val (.int p1), .val (.int p2), .val (.int p3), .val (.int p4), .unset, .unset, .unset, .unset, .unset, .unset] [(.int e')]) ?_ ?_
  · intro T1 e' X1 hj13
    refine OwnK.istore X1 (l' := #[.val (.int p0), .val (.int p1), .val (.int p2), .val (.int p3), .val (.int p4), .val (.int e'), .unset, .unset, .unset, .unset, .unset]) (n := 15) at_13 rfl rfl ?_
    refine OwnK.iloadN X1 (n := 16) at_15 rfl rfl ?_
    refine OwnK.iconst X1 (z := (2 : Int32)) (n := 17) at_16 rfl rfl ?_
    refine OwnK.iand X1 (n := 18) at_17 rfl ?_
    refine OwnK.joinT X1 (fun (c' : Int32) => True) (fun (c' : Int32) => mkF m 28 #[.val (.int p0), .val (.int p1), .val (.int p2), .val (.int p3), .val (.int p4), .val (.int e'), .unset, .unset, .unset, .unset, .unset] [(.int c')]) ?_ ?_
    · intro T2 c' X2 hj28
      refine OwnK.istore X2 (l' := #[.val (.int p0), .val (.int p1), .val (.int p2), .val (.int p3), .val (.int p4), .val (.int e'), .val (.int c'), .unset, .unset, .unset, .unset]) (n := 30) at_28 rfl rfl ?_
      refine OwnK.iloadN X2 (n := 31) at_30 rfl rfl ?_
      refine OwnK.iconst X2 (z := (4 : Int32)) (n := 32) at_31 rfl rfl ?_
      refine OwnK.iand X2 (n := 33) at_32 rfl ?_
      refine OwnK.joinT X2 (fun (p' : Int32) => True) (fun (p' : Int32) => mkF m 45 #[.val (.int p0), .val (.int p1), .val (.int p2), .val (.int p3), .val (.int p4), .val (.int e'), .val (.int c'), .unset, .unset, .unset, .unset] [(.int p')]) ?_ ?_
      · intro T3 p' X3 hj45
        refine OwnK.istore X3 (l' := #[.val (.int p0), .val (.int p1), .val (.int p2), .val (.int p3), .val (.int p4), .val (.int e'), .val (.int c'), .val (.int p'), .unset, .unset, .unset]) (n := 47) at_45 rfl rfl ?_
        refine OwnK.iloadN X3 (n := 48) at_47 rfl rfl ?_
        refine OwnK.ldc X3 (n := 50) at_48 (hw _ (List.mem_of_getElem? (i := 0) rfl)) rfl ?_
        refine OwnK.iand X3 (n := 51) at_50 rfl ?_
        refine OwnK.bipush X3 (z := (6 : Int32)) (n := 53) at_51 rfl rfl ?_
        refine OwnK.irem X3 (n := 54) at_53 (by decide) rfl ?_
        refine OwnK.istore X3 (l' := #[.val (.int p0), .val (.int p1), .val (.int p2), .val (.int p3), .val (.int p4), .val (.int e'), .val (.int c'), .val (.int p'), .val (.int ((p0 &&& (2147483647 : Int32)) % (6 : Int32))), .unset, .unset]) (n := 56) at_54 rfl rfl ?_
        refine OwnK.iload X3 (n := 58) at_56 rfl rfl ?_
        refine OwnK.if_ne X3  (n1 := 91) (n2 := 61) at_58 (by decide) rfl rfl (fun hc58 => ?_) (fun hc58 => ?_)
        · refine OwnK.iload X3 (n := 93) at_91 rfl rfl ?_
          refine OwnK.iconst X3 (z := (1 : Int32)) (n := 94) at_93 rfl rfl ?_
          refine OwnK.ic_ne X3  (n1 := 128) (n2 := 97) at_94 (by decide) rfl rfl (fun hc94 => ?_) (fun hc94 => ?_)
          · refine OwnK.iload X3 (n := 130) at_128 rfl rfl ?_
            refine OwnK.iconst X3 (z := (2 : Int32)) (n := 131) at_130 rfl rfl ?_
            refine OwnK.ic_ne X3  (n1 := 165) (n2 := 134) at_131 (by decide) rfl rfl (fun hc131 => ?_) (fun hc131 => ?_)
            · refine OwnK.iload X3 (n := 167) at_165 rfl rfl ?_
              refine OwnK.iconst X3 (z := (3 : Int32)) (n := 168) at_167 rfl rfl ?_
              refine OwnK.ic_ne X3  (n1 := 201) (n2 := 171) at_168 (by decide) rfl rfl (fun hc168 => ?_) (fun hc168 => ?_)
              · refine OwnK.iload X3 (n := 203) at_201 rfl rfl ?_
                refine OwnK.iconst X3 (z := (4 : Int32)) (n := 204) at_203 rfl rfl ?_
                refine OwnK.ic_ne X3  (n1 := 238) (n2 := 207) at_204 (by decide) rfl rfl (fun hc204 => ?_) (fun hc204 => ?_)
                · refine OwnK.getstatic X3 (n := 241) at_238 (hw _ (List.mem_of_getElem? (i := 21) rfl)) Via.refl S_CONSTANT_AND_POLICY rfl ?_
                  intro T4 X4
                  refine OwnK.astore X4 (l' := #[.val (.int p0), .val (.int p1), .val (.int p2), .val (.int p3), .val (.int p4), .val (.int e'), .val (.int c'), .val (.int p'), .val (.int ((p0 &&& (2147483647 : Int32)) % (6 : Int32))), .val (.ref a_CONSTANT_AND_POLICY), .unset]) (n := 243) at_241 rfl rfl rfl ?_
                  refine OwnK.iload X4 (n := 245) at_243 rfl rfl ?_
                  refine OwnK.if_ne X4  (n1 := 264) (n2 := 248) at_245 (by decide) rfl rfl (fun hc245 => ?_) (fun hc245 => ?_)
                  · refine OwnK.iconst X4 (z := (0 : Int32)) (n := 265) at_264 rfl rfl ?_
                    refine OwnK.istore X4 (l' := #[.val (.int p0), .val (.int p1), .val (.int p2), .val (.int p3), .val (.int p4), .val (.int e'), .val (.int c'), .val (.int p'), .val (.int ((p0 &&& (2147483647 : Int32)) % (6 : Int32))), .val (.ref a_CONSTANT_AND_POLICY), .val (.int (0 : Int32))]) (n := 267) at_265 rfl rfl ?_
                    refine OwnK.aload X4 (n := 269) at_267 rfl rfl rfl ?_
                    refine OwnK.iload X4 (n := 271) at_269 rfl rfl ?_
                    refine OwnK.iload X4 (n := 273) at_271 rfl rfl ?_
                    refine OwnK.iload X4 (n := 275) at_273 rfl rfl ?_
                    refine OwnK.call_virtual_v X4 (z := (⟨"com/example/beholden/beholden/proof/Rule$Argument", "fits", "(III)Z"⟩ : MethodName)) (yv := (⟨"com/example/beholden/beholden/proof/Rule$Argument", "fits", "(III)Z"⟩ : MethodName)) (a := a_CONSTANT_AND_POLICY) (C := "com/example/beholden/beholden/proof/Rule$Argument") (n := 278) at_275 (hw _ (List.mem_of_getElem? (i := 4) rfl)) (hw _ (List.mem_of_getElem? (i := 5) rfl)) (hw _ (List.mem_of_getElem? (i := 6) rfl)) (hw _ (List.mem_of_getElem? (i := 7) rfl)) (fun hz => notFace_of_selects (args := #[]) (mvT hz (hw _ (List.mem_of_getElem? (i := 7) rfl)))) (hw _ (List.mem_of_getElem? (i := 8) rfl)) (hw _ (List.mem_of_getElem? (i := 2) rfl)) (by decide) E_CONSTANT_AND_POLICY (rm1 l Z a0 hw [] a_CONSTANT_AND_POLICY e' c' p' h0 n0 _ F_CONSTANT_AND_POLICY_entries _ F_CONSTANT_AND_POLICY_constants _ F_CONSTANT_AND_POLICY_minPolicies _ F_CONSTANT_AND_POLICY_maxPolicies) (argsL := [(.int e'), (.int c'), (.int p')]) (rest := []) rfl rfl (OwnK.lenA pd__III_Z rfl) (W := 0) (Nat.le_of_eq rfl) (by decide) (by decide) (by decide) (by decide) rfl ?_
                    intro T5 h5 w5 X5 ⟨q1, q2⟩
                    subst q1 q2
                    have heq : (if e' = (0 : Int32) then if c' = (1 : Int32) then if p' < (1 : Int32) then 0 else if (1 : Int32) < p' then 0 else 1 else 0 else 0) = (0 : Int32) := by simp only [own_ge1, own_eq0, own_eq1]; simp [hc245]
                    refine OwnK.iload X5 (n := 280) at_278 rfl rfl ?_
                    refine OwnK.ic_ne X5  (n1 := 287) (n2 := 283) at_280 (by decide) rfl rfl (fun q => absurd (heq : (if e' = (0 : Int32) then if c' = (1 : Int32) then if p' < (1 : Int32) then 0 else if (1 : Int32) < p' then 0 else 1 else 0 else 0) = (0 : Int32)) q) (fun _ => ?_)
                    refine OwnK.iconst X5 (z := (1 : Int32)) (n := 284) at_283 rfl rfl ?_
                    refine OwnK.goto X5 (n := 288) at_284 (by decide) rfl ?_
                    exact OwnK.ireturn X5 rfl (Or.inr (Or.inl rfl)) rfl at_288 rfl (by decide) (by decide)
                  · refine OwnK.iload X4 (n := 250) at_248 rfl rfl ?_
                    refine OwnK.iconst X4 (z := (1 : Int32)) (n := 251) at_250 rfl rfl ?_
                    refine OwnK.ic_ne X4  (n1 := 264) (n2 := 254) at_251 (by decide) rfl rfl (fun hc251 => ?_) (fun hc251 => ?_)
                    · refine OwnK.iconst X4 (z := (0 : Int32)) (n := 265) at_264 rfl rfl ?_
                      refine OwnK.istore X4 (l' := #[.val (.int p0), .val (.int p1), .val (.int p2), .val (.int p3), .val (.int p4), .val (.int e'), .val (.int c'), .val (.int p'), .val (.int ((p0 &&& (2147483647 : Int32)) % (6 : Int32))), .val (.ref a_CONSTANT_AND_POLICY), .val (.int (0 : Int32))]) (n := 267) at_265 rfl rfl ?_
                      refine OwnK.aload X4 (n := 269) at_267 rfl rfl rfl ?_
                      refine OwnK.iload X4 (n := 271) at_269 rfl rfl ?_
                      refine OwnK.iload X4 (n := 273) at_271 rfl rfl ?_
                      refine OwnK.iload X4 (n := 275) at_273 rfl rfl ?_
                      refine OwnK.call_virtual_v X4 (z := (⟨"com/example/beholden/beholden/proof/Rule$Argument", "fits", "(III)Z"⟩ : MethodName)) (yv := (⟨"com/example/beholden/beholden/proof/Rule$Argument", "fits", "(III)Z"⟩ : MethodName)) (a := a_CONSTANT_AND_POLICY) (C := "com/example/beholden/beholden/proof/Rule$Argument") (n := 278) at_275 (hw _ (List.mem_of_getElem? (i := 4) rfl)) (hw _ (List.mem_of_getElem? (i := 5) rfl)) (hw _ (List.mem_of_getElem? (i := 6) rfl)) (hw _ (List.mem_of_getElem? (i := 7) rfl)) (fun hz => notFace_of_selects (args := #[]) (mvT hz (hw _ (List.mem_of_getElem? (i := 7) rfl)))) (hw _ (List.mem_of_getElem? (i := 8) rfl)) (hw _ (List.mem_of_getElem? (i := 2) rfl)) (by decide) E_CONSTANT_AND_POLICY (rm1 l Z a0 hw [] a_CONSTANT_AND_POLICY e' c' p' h0 n0 _ F_CONSTANT_AND_POLICY_entries _ F_CONSTANT_AND_POLICY_constants _ F_CONSTANT_AND_POLICY_minPolicies _ F_CONSTANT_AND_POLICY_maxPolicies) (argsL := [(.int e'), (.int c'), (.int p')]) (rest := []) rfl rfl (OwnK.lenA pd__III_Z rfl) (W := 0) (Nat.le_of_eq rfl) (by decide) (by decide) (by decide) (by decide) rfl ?_
                      intro T6 h6 w6 X6 ⟨q1, q2⟩
                      subst q1 q2
                      have heq : (if e' = (0 : Int32) then if c' = (1 : Int32) then if p' < (1 : Int32) then 0 else if (1 : Int32) < p' then 0 else 1 else 0 else 0) = (0 : Int32) := by simp only [own_ge1, own_eq0, own_eq1]; simp [hc245, hc251]
                      refine OwnK.iload X6 (n := 280) at_278 rfl rfl ?_
                      refine OwnK.ic_ne X6  (n1 := 287) (n2 := 283) at_280 (by decide) rfl rfl (fun q => absurd (heq : (if e' = (0 : Int32) then if c' = (1 : Int32) then if p' < (1 : Int32) then 0 else if (1 : Int32) < p' then 0 else 1 else 0 else 0) = (0 : Int32)) q) (fun _ => ?_)
                      refine OwnK.iconst X6 (z := (1 : Int32)) (n := 284) at_283 rfl rfl ?_
                      refine OwnK.goto X6 (n := 288) at_284 (by decide) rfl ?_
                      exact OwnK.ireturn X6 rfl (Or.inr (Or.inl rfl)) rfl at_288 rfl (by decide) (by decide)
                    · refine OwnK.iload X4 (n := 256) at_254 rfl rfl ?_
                      refine OwnK.iconst X4 (z := (1 : Int32)) (n := 257) at_256 rfl rfl ?_
                      refine OwnK.ic_ne X4  (n1 := 264) (n2 := 260) at_257 (by decide) rfl rfl (fun hc257 => ?_) (fun hc257 => ?_)
                      · refine OwnK.iconst X4 (z := (0 : Int32)) (n := 265) at_264 rfl rfl ?_
                        refine OwnK.istore X4 (l' := #[.val (.int p0), .val (.int p1), .val (.int p2), .val (.int p3), .val (.int p4), .val (.int e'), .val (.int c'), .val (.int p'), .val (.int ((p0 &&& (2147483647 : Int32)) % (6 : Int32))), .val (.ref a_CONSTANT_AND_POLICY), .val (.int (0 : Int32))]) (n := 267) at_265 rfl rfl ?_
                        refine OwnK.aload X4 (n := 269) at_267 rfl rfl rfl ?_
                        refine OwnK.iload X4 (n := 271) at_269 rfl rfl ?_
                        refine OwnK.iload X4 (n := 273) at_271 rfl rfl ?_
                        refine OwnK.iload X4 (n := 275) at_273 rfl rfl ?_
                        refine OwnK.call_virtual_v X4 (z := (⟨"com/example/beholden/beholden/proof/Rule$Argument", "fits", "(III)Z"⟩ : MethodName)) (yv := (⟨"com/example/beholden/beholden/proof/Rule$Argument", "fits", "(III)Z"⟩ : MethodName)) (a := a_CONSTANT_AND_POLICY) (C := "com/example/beholden/beholden/proof/Rule$Argument") (n := 278) at_275 (hw _ (List.mem_of_getElem? (i := 4) rfl)) (hw _ (List.mem_of_getElem? (i := 5) rfl)) (hw _ (List.mem_of_getElem? (i := 6) rfl)) (hw _ (List.mem_of_getElem? (i := 7) rfl)) (fun hz => notFace_of_selects (args := #[]) (mvT hz (hw _ (List.mem_of_getElem? (i := 7) rfl)))) (hw _ (List.mem_of_getElem? (i := 8) rfl)) (hw _ (List.mem_of_getElem? (i := 2) rfl)) (by decide) E_CONSTANT_AND_POLICY (rm1 l Z a0 hw [] a_CONSTANT_AND_POLICY e' c' p' h0 n0 _ F_CONSTANT_AND_POLICY_entries _ F_CONSTANT_AND_POLICY_constants _ F_CONSTANT_AND_POLICY_minPolicies _ F_CONSTANT_AND_POLICY_maxPolicies) (argsL := [(.int e'), (.int c'), (.int p')]) (rest := []) rfl rfl (OwnK.lenA pd__III_Z rfl) (W := 0) (Nat.le_of_eq rfl) (by decide) (by decide) (by decide) (by decide) rfl ?_
                        intro T7 h7 w7 X7 ⟨q1, q2⟩
                        subst q1 q2
                        have heq : (if e' = (0 : Int32) then if c' = (1 : Int32) then if p' < (1 : Int32) then 0 else if (1 : Int32) < p' then 0 else 1 else 0 else 0) = (0 : Int32) := by simp only [own_ge1, own_eq0, own_eq1]; simp [hc245, hc251, hc257]
                        refine OwnK.iload X7 (n := 280) at_278 rfl rfl ?_
                        refine OwnK.ic_ne X7  (n1 := 287) (n2 := 283) at_280 (by decide) rfl rfl (fun q => absurd (heq : (if e' = (0 : Int32) then if c' = (1 : Int32) then if p' < (1 : Int32) then 0 else if (1 : Int32) < p' then 0 else 1 else 0 else 0) = (0 : Int32)) q) (fun _ => ?_)
                        refine OwnK.iconst X7 (z := (1 : Int32)) (n := 284) at_283 rfl rfl ?_
                        refine OwnK.goto X7 (n := 288) at_284 (by decide) rfl ?_
                        exact OwnK.ireturn X7 rfl (Or.inr (Or.inl rfl)) rfl at_288 rfl (by decide) (by decide)
                      · refine OwnK.iconst X4 (z := (1 : Int32)) (n := 261) at_260 rfl rfl ?_
                        refine OwnK.goto X4 (n := 265) at_261 (by decide) rfl ?_
                        refine OwnK.istore X4 (l' := #[.val (.int p0), .val (.int p1), .val (.int p2), .val (.int p3), .val (.int p4), .val (.int e'), .val (.int c'), .val (.int p'), .val (.int ((p0 &&& (2147483647 : Int32)) % (6 : Int32))), .val (.ref a_CONSTANT_AND_POLICY), .val (.int (1 : Int32))]) (n := 267) at_265 rfl rfl ?_
                        refine OwnK.aload X4 (n := 269) at_267 rfl rfl rfl ?_
                        refine OwnK.iload X4 (n := 271) at_269 rfl rfl ?_
                        refine OwnK.iload X4 (n := 273) at_271 rfl rfl ?_
                        refine OwnK.iload X4 (n := 275) at_273 rfl rfl ?_
                        refine OwnK.call_virtual_v X4 (z := (⟨"com/example/beholden/beholden/proof/Rule$Argument", "fits", "(III)Z"⟩ : MethodName)) (yv := (⟨"com/example/beholden/beholden/proof/Rule$Argument", "fits", "(III)Z"⟩ : MethodName)) (a := a_CONSTANT_AND_POLICY) (C := "com/example/beholden/beholden/proof/Rule$Argument") (n := 278) at_275 (hw _ (List.mem_of_getElem? (i := 4) rfl)) (hw _ (List.mem_of_getElem? (i := 5) rfl)) (hw _ (List.mem_of_getElem? (i := 6) rfl)) (hw _ (List.mem_of_getElem? (i := 7) rfl)) (fun hz => notFace_of_selects (args := #[]) (mvT hz (hw _ (List.mem_of_getElem? (i := 7) rfl)))) (hw _ (List.mem_of_getElem? (i := 8) rfl)) (hw _ (List.mem_of_getElem? (i := 2) rfl)) (by decide) E_CONSTANT_AND_POLICY (rm1 l Z a0 hw [] a_CONSTANT_AND_POLICY e' c' p' h0 n0 _ F_CONSTANT_AND_POLICY_entries _ F_CONSTANT_AND_POLICY_constants _ F_CONSTANT_AND_POLICY_minPolicies _ F_CONSTANT_AND_POLICY_maxPolicies) (argsL := [(.int e'), (.int c'), (.int p')]) (rest := []) rfl rfl (OwnK.lenA pd__III_Z rfl) (W := 0) (Nat.le_of_eq rfl) (by decide) (by decide) (by decide) (by decide) rfl ?_
                        intro T8 h8 w8 X8 ⟨q1, q2⟩
                        subst q1 q2
                        have heq : (if e' = (0 : Int32) then if c' = (1 : Int32) then if p' < (1 : Int32) then 0 else if (1 : Int32) < p' then 0 else 1 else 0 else 0) = (1 : Int32) := by simp only [own_ge1, own_eq0, own_eq1]; simp [hc245, hc251, hc257]
                        refine OwnK.iload X8 (n := 280) at_278 rfl rfl ?_
                        refine OwnK.ic_ne X8  (n1 := 287) (n2 := 283) at_280 (by decide) rfl rfl (fun q => absurd (heq : (if e' = (0 : Int32) then if c' = (1 : Int32) then if p' < (1 : Int32) then 0 else if (1 : Int32) < p' then 0 else 1 else 0 else 0) = (1 : Int32)) q) (fun _ => ?_)
                        refine OwnK.iconst X8 (z := (1 : Int32)) (n := 284) at_283 rfl rfl ?_
                        refine OwnK.goto X8 (n := 288) at_284 (by decide) rfl ?_
                        exact OwnK.ireturn X8 rfl (Or.inr (Or.inl rfl)) rfl at_288 rfl (by decide) (by decide)
                · refine OwnK.getstatic X3 (n := 210) at_207 (hw _ (List.mem_of_getElem? (i := 15) rfl)) Via.refl S_CONSTANT rfl ?_
                  intro T9 X9
                  refine OwnK.astore X9 (l' := #[.val (.int p0), .val (.int p1), .val (.int p2), .val (.int p3), .val (.int p4), .val (.int e'), .val (.int c'), .val (.int p'), .val (.int ((p0 &&& (2147483647 : Int32)) % (6 : Int32))), .val (.ref a_CONSTANT), .unset]) (n := 212) at_210 rfl rfl rfl ?_
                  refine OwnK.iload X9 (n := 214) at_212 rfl rfl ?_
                  refine OwnK.if_ne X9  (n1 := 232) (n2 := 217) at_214 (by decide) rfl rfl (fun hc214 => ?_) (fun hc214 => ?_)
                  · refine OwnK.iconst X9 (z := (0 : Int32)) (n := 233) at_232 rfl rfl ?_
                    refine OwnK.istore X9 (l' := #[.val (.int p0), .val (.int p1), .val (.int p2), .val (.int p3), .val (.int p4), .val (.int e'), .val (.int c'), .val (.int p'), .val (.int ((p0 &&& (2147483647 : Int32)) % (6 : Int32))), .val (.ref a_CONSTANT), .val (.int (0 : Int32))]) (n := 235) at_233 rfl rfl ?_
                    refine OwnK.goto X9 (n := 267) at_235 (by decide) rfl ?_
                    refine OwnK.aload X9 (n := 269) at_267 rfl rfl rfl ?_
                    refine OwnK.iload X9 (n := 271) at_269 rfl rfl ?_
                    refine OwnK.iload X9 (n := 273) at_271 rfl rfl ?_
                    refine OwnK.iload X9 (n := 275) at_273 rfl rfl ?_
                    refine OwnK.call_virtual_v X9 (z := (⟨"com/example/beholden/beholden/proof/Rule$Argument", "fits", "(III)Z"⟩ : MethodName)) (yv := (⟨"com/example/beholden/beholden/proof/Rule$Argument", "fits", "(III)Z"⟩ : MethodName)) (a := a_CONSTANT) (C := "com/example/beholden/beholden/proof/Rule$Argument") (n := 278) at_275 (hw _ (List.mem_of_getElem? (i := 4) rfl)) (hw _ (List.mem_of_getElem? (i := 5) rfl)) (hw _ (List.mem_of_getElem? (i := 6) rfl)) (hw _ (List.mem_of_getElem? (i := 7) rfl)) (fun hz => notFace_of_selects (args := #[]) (mvT hz (hw _ (List.mem_of_getElem? (i := 7) rfl)))) (hw _ (List.mem_of_getElem? (i := 8) rfl)) (hw _ (List.mem_of_getElem? (i := 2) rfl)) (by decide) E_CONSTANT (rm1 l Z a0 hw [] a_CONSTANT e' c' p' h0 n0 _ F_CONSTANT_entries _ F_CONSTANT_constants _ F_CONSTANT_minPolicies _ F_CONSTANT_maxPolicies) (argsL := [(.int e'), (.int c'), (.int p')]) (rest := []) rfl rfl (OwnK.lenA pd__III_Z rfl) (W := 0) (Nat.le_of_eq rfl) (by decide) (by decide) (by decide) (by decide) rfl ?_
                    intro T10 h10 w10 X10 ⟨q1, q2⟩
                    subst q1 q2
                    have heq : (if e' = (0 : Int32) then if c' = (1 : Int32) then if p' < (0 : Int32) then 0 else if (0 : Int32) < p' then 0 else 1 else 0 else 0) = (0 : Int32) := by simp only [own_ge1, own_eq0, own_eq1]; simp [hc214]
                    refine OwnK.iload X10 (n := 280) at_278 rfl rfl ?_
                    refine OwnK.ic_ne X10  (n1 := 287) (n2 := 283) at_280 (by decide) rfl rfl (fun q => absurd (heq : (if e' = (0 : Int32) then if c' = (1 : Int32) then if p' < (0 : Int32) then 0 else if (0 : Int32) < p' then 0 else 1 else 0 else 0) = (0 : Int32)) q) (fun _ => ?_)
                    refine OwnK.iconst X10 (z := (1 : Int32)) (n := 284) at_283 rfl rfl ?_
                    refine OwnK.goto X10 (n := 288) at_284 (by decide) rfl ?_
                    exact OwnK.ireturn X10 rfl (Or.inr (Or.inl rfl)) rfl at_288 rfl (by decide) (by decide)
                  · refine OwnK.iload X9 (n := 219) at_217 rfl rfl ?_
                    refine OwnK.iconst X9 (z := (1 : Int32)) (n := 220) at_219 rfl rfl ?_
                    refine OwnK.ic_ne X9  (n1 := 232) (n2 := 223) at_220 (by decide) rfl rfl (fun hc220 => ?_) (fun hc220 => ?_)
                    · refine OwnK.iconst X9 (z := (0 : Int32)) (n := 233) at_232 rfl rfl ?_
                      refine OwnK.istore X9 (l' := #[.val (.int p0), .val (.int p1), .val (.int p2), .val (.int p3), .val (.int p4), .val (.int e'), .val (.int c'), .val (.int p'), .val (.int ((p0 &&& (2147483647 : Int32)) % (6 : Int32))), .val (.ref a_CONSTANT), .val (.int (0 : Int32))]) (n := 235) at_233 rfl rfl ?_
                      refine OwnK.goto X9 (n := 267) at_235 (by decide) rfl ?_
                      refine OwnK.aload X9 (n := 269) at_267 rfl rfl rfl ?_
                      refine OwnK.iload X9 (n := 271) at_269 rfl rfl ?_
                      refine OwnK.iload X9 (n := 273) at_271 rfl rfl ?_
                      refine OwnK.iload X9 (n := 275) at_273 rfl rfl ?_
                      refine OwnK.call_virtual_v X9 (z := (⟨"com/example/beholden/beholden/proof/Rule$Argument", "fits", "(III)Z"⟩ : MethodName)) (yv := (⟨"com/example/beholden/beholden/proof/Rule$Argument", "fits", "(III)Z"⟩ : MethodName)) (a := a_CONSTANT) (C := "com/example/beholden/beholden/proof/Rule$Argument") (n := 278) at_275 (hw _ (List.mem_of_getElem? (i := 4) rfl)) (hw _ (List.mem_of_getElem? (i := 5) rfl)) (hw _ (List.mem_of_getElem? (i := 6) rfl)) (hw _ (List.mem_of_getElem? (i := 7) rfl)) (fun hz => notFace_of_selects (args := #[]) (mvT hz (hw _ (List.mem_of_getElem? (i := 7) rfl)))) (hw _ (List.mem_of_getElem? (i := 8) rfl)) (hw _ (List.mem_of_getElem? (i := 2) rfl)) (by decide) E_CONSTANT (rm1 l Z a0 hw [] a_CONSTANT e' c' p' h0 n0 _ F_CONSTANT_entries _ F_CONSTANT_constants _ F_CONSTANT_minPolicies _ F_CONSTANT_maxPolicies) (argsL := [(.int e'), (.int c'), (.int p')]) (rest := []) rfl rfl (OwnK.lenA pd__III_Z rfl) (W := 0) (Nat.le_of_eq rfl) (by decide) (by decide) (by decide) (by decide) rfl ?_
                      intro T11 h11 w11 X11 ⟨q1, q2⟩
                      subst q1 q2
                      have heq : (if e' = (0 : Int32) then if c' = (1 : Int32) then if p' < (0 : Int32) then 0 else if (0 : Int32) < p' then 0 else 1 else 0 else 0) = (0 : Int32) := by simp only [own_ge1, own_eq0, own_eq1]; simp [hc214, hc220]
                      refine OwnK.iload X11 (n := 280) at_278 rfl rfl ?_
                      refine OwnK.ic_ne X11  (n1 := 287) (n2 := 283) at_280 (by decide) rfl rfl (fun q => absurd (heq : (if e' = (0 : Int32) then if c' = (1 : Int32) then if p' < (0 : Int32) then 0 else if (0 : Int32) < p' then 0 else 1 else 0 else 0) = (0 : Int32)) q) (fun _ => ?_)
                      refine OwnK.iconst X11 (z := (1 : Int32)) (n := 284) at_283 rfl rfl ?_
                      refine OwnK.goto X11 (n := 288) at_284 (by decide) rfl ?_
                      exact OwnK.ireturn X11 rfl (Or.inr (Or.inl rfl)) rfl at_288 rfl (by decide) (by decide)
                    · refine OwnK.iload X9 (n := 225) at_223 rfl rfl ?_
                      refine OwnK.if_ne X9  (n1 := 232) (n2 := 228) at_225 (by decide) rfl rfl (fun hc225 => ?_) (fun hc225 => ?_)
                      · refine OwnK.iconst X9 (z := (0 : Int32)) (n := 233) at_232 rfl rfl ?_
                        refine OwnK.istore X9 (l' := #[.val (.int p0), .val (.int p1), .val (.int p2), .val (.int p3), .val (.int p4), .val (.int e'), .val (.int c'), .val (.int p'), .val (.int ((p0 &&& (2147483647 : Int32)) % (6 : Int32))), .val (.ref a_CONSTANT), .val (.int (0 : Int32))]) (n := 235) at_233 rfl rfl ?_
                        refine OwnK.goto X9 (n := 267) at_235 (by decide) rfl ?_
                        refine OwnK.aload X9 (n := 269) at_267 rfl rfl rfl ?_
                        refine OwnK.iload X9 (n := 271) at_269 rfl rfl ?_
                        refine OwnK.iload X9 (n := 273) at_271 rfl rfl ?_
                        refine OwnK.iload X9 (n := 275) at_273 rfl rfl ?_
                        refine OwnK.call_virtual_v X9 (z := (⟨"com/example/beholden/beholden/proof/Rule$Argument", "fits", "(III)Z"⟩ : MethodName)) (yv := (⟨"com/example/beholden/beholden/proof/Rule$Argument", "fits", "(III)Z"⟩ : MethodName)) (a := a_CONSTANT) (C := "com/example/beholden/beholden/proof/Rule$Argument") (n := 278) at_275 (hw _ (List.mem_of_getElem? (i := 4) rfl)) (hw _ (List.mem_of_getElem? (i := 5) rfl)) (hw _ (List.mem_of_getElem? (i := 6) rfl)) (hw _ (List.mem_of_getElem? (i := 7) rfl)) (fun hz => notFace_of_selects (args := #[]) (mvT hz (hw _ (List.mem_of_getElem? (i := 7) rfl)))) (hw _ (List.mem_of_getElem? (i := 8) rfl)) (hw _ (List.mem_of_getElem? (i := 2) rfl)) (by decide) E_CONSTANT (rm1 l Z a0 hw [] a_CONSTANT e' c' p' h0 n0 _ F_CONSTANT_entries _ F_CONSTANT_constants _ F_CONSTANT_minPolicies _ F_CONSTANT_maxPolicies) (argsL := [(.int e'), (.int c'), (.int p')]) (rest := []) rfl rfl (OwnK.lenA pd__III_Z rfl) (W := 0) (Nat.le_of_eq rfl) (by decide) (by decide) (by decide) (by decide) rfl ?_
                        intro T12 h12 w12 X12 ⟨q1, q2⟩
                        subst q1 q2
                        have heq : (if e' = (0 : Int32) then if c' = (1 : Int32) then if p' < (0 : Int32) then 0 else if (0 : Int32) < p' then 0 else 1 else 0 else 0) = (0 : Int32) := by simp only [own_ge1, own_eq0, own_eq1]; simp [hc214, hc220, hc225]
                        refine OwnK.iload X12 (n := 280) at_278 rfl rfl ?_
                        refine OwnK.ic_ne X12  (n1 := 287) (n2 := 283) at_280 (by decide) rfl rfl (fun q => absurd (heq : (if e' = (0 : Int32) then if c' = (1 : Int32) then if p' < (0 : Int32) then 0 else if (0 : Int32) < p' then 0 else 1 else 0 else 0) = (0 : Int32)) q) (fun _ => ?_)
                        refine OwnK.iconst X12 (z := (1 : Int32)) (n := 284) at_283 rfl rfl ?_
                        refine OwnK.goto X12 (n := 288) at_284 (by decide) rfl ?_
                        exact OwnK.ireturn X12 rfl (Or.inr (Or.inl rfl)) rfl at_288 rfl (by decide) (by decide)
                      · refine OwnK.iconst X9 (z := (1 : Int32)) (n := 229) at_228 rfl rfl ?_
                        refine OwnK.goto X9 (n := 233) at_229 (by decide) rfl ?_
                        refine OwnK.istore X9 (l' := #[.val (.int p0), .val (.int p1), .val (.int p2), .val (.int p3), .val (.int p4), .val (.int e'), .val (.int c'), .val (.int p'), .val (.int ((p0 &&& (2147483647 : Int32)) % (6 : Int32))), .val (.ref a_CONSTANT), .val (.int (1 : Int32))]) (n := 235) at_233 rfl rfl ?_
                        refine OwnK.goto X9 (n := 267) at_235 (by decide) rfl ?_
                        refine OwnK.aload X9 (n := 269) at_267 rfl rfl rfl ?_
                        refine OwnK.iload X9 (n := 271) at_269 rfl rfl ?_
                        refine OwnK.iload X9 (n := 273) at_271 rfl rfl ?_
                        refine OwnK.iload X9 (n := 275) at_273 rfl rfl ?_
                        refine OwnK.call_virtual_v X9 (z := (⟨"com/example/beholden/beholden/proof/Rule$Argument", "fits", "(III)Z"⟩ : MethodName)) (yv := (⟨"com/example/beholden/beholden/proof/Rule$Argument", "fits", "(III)Z"⟩ : MethodName)) (a := a_CONSTANT) (C := "com/example/beholden/beholden/proof/Rule$Argument") (n := 278) at_275 (hw _ (List.mem_of_getElem? (i := 4) rfl)) (hw _ (List.mem_of_getElem? (i := 5) rfl)) (hw _ (List.mem_of_getElem? (i := 6) rfl)) (hw _ (List.mem_of_getElem? (i := 7) rfl)) (fun hz => notFace_of_selects (args := #[]) (mvT hz (hw _ (List.mem_of_getElem? (i := 7) rfl)))) (hw _ (List.mem_of_getElem? (i := 8) rfl)) (hw _ (List.mem_of_getElem? (i := 2) rfl)) (by decide) E_CONSTANT (rm1 l Z a0 hw [] a_CONSTANT e' c' p' h0 n0 _ F_CONSTANT_entries _ F_CONSTANT_constants _ F_CONSTANT_minPolicies _ F_CONSTANT_maxPolicies) (argsL := [(.int e'), (.int c'), (.int p')]) (rest := []) rfl rfl (OwnK.lenA pd__III_Z rfl) (W := 0) (Nat.le_of_eq rfl) (by decide) (by decide) (by decide) (by decide) rfl ?_
                        intro T13 h13 w13 X13 ⟨q1, q2⟩
                        subst q1 q2
                        have heq : (if e' = (0 : Int32) then if c' = (1 : Int32) then if p' < (0 : Int32) then 0 else if (0 : Int32) < p' then 0 else 1 else 0 else 0) = (1 : Int32) := by simp only [own_ge1, own_eq0, own_eq1]; simp [hc214, hc220, hc225]
                        refine OwnK.iload X13 (n := 280) at_278 rfl rfl ?_
                        refine OwnK.ic_ne X13  (n1 := 287) (n2 := 283) at_280 (by decide) rfl rfl (fun q => absurd (heq : (if e' = (0 : Int32) then if c' = (1 : Int32) then if p' < (0 : Int32) then 0 else if (0 : Int32) < p' then 0 else 1 else 0 else 0) = (1 : Int32)) q) (fun _ => ?_)
                        refine OwnK.iconst X13 (z := (1 : Int32)) (n := 284) at_283 rfl rfl ?_
                        refine OwnK.goto X13 (n := 288) at_284 (by decide) rfl ?_
                        exact OwnK.ireturn X13 rfl (Or.inr (Or.inl rfl)) rfl at_288 rfl (by decide) (by decide)
              · refine OwnK.getstatic X3 (n := 174) at_171 (hw _ (List.mem_of_getElem? (i := 11) rfl)) Via.refl S_POLICIES rfl ?_
                intro T14 X14
                refine OwnK.astore X14 (l' := #[.val (.int p0), .val (.int p1), .val (.int p2), .val (.int p3), .val (.int p4), .val (.int e'), .val (.int c'), .val (.int p'), .val (.int ((p0 &&& (2147483647 : Int32)) % (6 : Int32))), .val (.ref a_POLICIES), .unset]) (n := 176) at_174 rfl rfl rfl ?_
                refine OwnK.iload X14 (n := 178) at_176 rfl rfl ?_
                refine OwnK.if_ne X14  (n1 := 195) (n2 := 181) at_178 (by decide) rfl rfl (fun hc178 => ?_) (fun hc178 => ?_)
                · refine OwnK.iconst X14 (z := (0 : Int32)) (n := 196) at_195 rfl rfl ?_
                  refine OwnK.istore X14 (l' := #[.val (.int p0), .val (.int p1), .val (.int p2), .val (.int p3), .val (.int p4), .val (.int e'), .val (.int c'), .val (.int p'), .val (.int ((p0 &&& (2147483647 : Int32)) % (6 : Int32))), .val (.ref a_POLICIES), .val (.int (0 : Int32))]) (n := 198) at_196 rfl rfl ?_
                  refine OwnK.goto X14 (n := 267) at_198 (by decide) rfl ?_
                  refine OwnK.aload X14 (n := 269) at_267 rfl rfl rfl ?_
                  refine OwnK.iload X14 (n := 271) at_269 rfl rfl ?_
                  refine OwnK.iload X14 (n := 273) at_271 rfl rfl ?_
                  refine OwnK.iload X14 (n := 275) at_273 rfl rfl ?_
                  refine OwnK.call_virtual_v X14 (z := (⟨"com/example/beholden/beholden/proof/Rule$Argument", "fits", "(III)Z"⟩ : MethodName)) (yv := (⟨"com/example/beholden/beholden/proof/Rule$Argument", "fits", "(III)Z"⟩ : MethodName)) (a := a_POLICIES) (C := "com/example/beholden/beholden/proof/Rule$Argument") (n := 278) at_275 (hw _ (List.mem_of_getElem? (i := 4) rfl)) (hw _ (List.mem_of_getElem? (i := 5) rfl)) (hw _ (List.mem_of_getElem? (i := 6) rfl)) (hw _ (List.mem_of_getElem? (i := 7) rfl)) (fun hz => notFace_of_selects (args := #[]) (mvT hz (hw _ (List.mem_of_getElem? (i := 7) rfl)))) (hw _ (List.mem_of_getElem? (i := 8) rfl)) (hw _ (List.mem_of_getElem? (i := 2) rfl)) (by decide) E_POLICIES (rm1 l Z a0 hw [] a_POLICIES e' c' p' h0 n0 _ F_POLICIES_entries _ F_POLICIES_constants _ F_POLICIES_minPolicies _ F_POLICIES_maxPolicies) (argsL := [(.int e'), (.int c'), (.int p')]) (rest := []) rfl rfl (OwnK.lenA pd__III_Z rfl) (W := 0) (Nat.le_of_eq rfl) (by decide) (by decide) (by decide) (by decide) rfl ?_
                  intro T15 h15 w15 X15 ⟨q1, q2⟩
                  subst q1 q2
                  have heq : (if e' = (0 : Int32) then if c' = (0 : Int32) then if p' < (1 : Int32) then 0 else if (2147483647 : Int32) < p' then 0 else 1 else 0 else 0) = (0 : Int32) := by simp only [own_ge1, own_eq0, own_eq1]; simp [hc178]
                  refine OwnK.iload X15 (n := 280) at_278 rfl rfl ?_
                  refine OwnK.ic_ne X15  (n1 := 287) (n2 := 283) at_280 (by decide) rfl rfl (fun q => absurd (heq : (if e' = (0 : Int32) then if c' = (0 : Int32) then if p' < (1 : Int32) then 0 else if (2147483647 : Int32) < p' then 0 else 1 else 0 else 0) = (0 : Int32)) q) (fun _ => ?_)
                  refine OwnK.iconst X15 (z := (1 : Int32)) (n := 284) at_283 rfl rfl ?_
                  refine OwnK.goto X15 (n := 288) at_284 (by decide) rfl ?_
                  exact OwnK.ireturn X15 rfl (Or.inr (Or.inl rfl)) rfl at_288 rfl (by decide) (by decide)
                · refine OwnK.iload X14 (n := 183) at_181 rfl rfl ?_
                  refine OwnK.if_ne X14  (n1 := 195) (n2 := 186) at_183 (by decide) rfl rfl (fun hc183 => ?_) (fun hc183 => ?_)
                  · refine OwnK.iconst X14 (z := (0 : Int32)) (n := 196) at_195 rfl rfl ?_
                    refine OwnK.istore X14 (l' := #[.val (.int p0), .val (.int p1), .val (.int p2), .val (.int p3), .val (.int p4), .val (.int e'), .val (.int c'), .val (.int p'), .val (.int ((p0 &&& (2147483647 : Int32)) % (6 : Int32))), .val (.ref a_POLICIES), .val (.int (0 : Int32))]) (n := 198) at_196 rfl rfl ?_
                    refine OwnK.goto X14 (n := 267) at_198 (by decide) rfl ?_
                    refine OwnK.aload X14 (n := 269) at_267 rfl rfl rfl ?_
                    refine OwnK.iload X14 (n := 271) at_269 rfl rfl ?_
                    refine OwnK.iload X14 (n := 273) at_271 rfl rfl ?_
                    refine OwnK.iload X14 (n := 275) at_273 rfl rfl ?_
                    refine OwnK.call_virtual_v X14 (z := (⟨"com/example/beholden/beholden/proof/Rule$Argument", "fits", "(III)Z"⟩ : MethodName)) (yv := (⟨"com/example/beholden/beholden/proof/Rule$Argument", "fits", "(III)Z"⟩ : MethodName)) (a := a_POLICIES) (C := "com/example/beholden/beholden/proof/Rule$Argument") (n := 278) at_275 (hw _ (List.mem_of_getElem? (i := 4) rfl)) (hw _ (List.mem_of_getElem? (i := 5) rfl)) (hw _ (List.mem_of_getElem? (i := 6) rfl)) (hw _ (List.mem_of_getElem? (i := 7) rfl)) (fun hz => notFace_of_selects (args := #[]) (mvT hz (hw _ (List.mem_of_getElem? (i := 7) rfl)))) (hw _ (List.mem_of_getElem? (i := 8) rfl)) (hw _ (List.mem_of_getElem? (i := 2) rfl)) (by decide) E_POLICIES (rm1 l Z a0 hw [] a_POLICIES e' c' p' h0 n0 _ F_POLICIES_entries _ F_POLICIES_constants _ F_POLICIES_minPolicies _ F_POLICIES_maxPolicies) (argsL := [(.int e'), (.int c'), (.int p')]) (rest := []) rfl rfl (OwnK.lenA pd__III_Z rfl) (W := 0) (Nat.le_of_eq rfl) (by decide) (by decide) (by decide) (by decide) rfl ?_
                    intro T16 h16 w16 X16 ⟨q1, q2⟩
                    subst q1 q2
                    have heq : (if e' = (0 : Int32) then if c' = (0 : Int32) then if p' < (1 : Int32) then 0 else if (2147483647 : Int32) < p' then 0 else 1 else 0 else 0) = (0 : Int32) := by simp only [own_ge1, own_eq0, own_eq1]; simp [hc178, hc183]
                    refine OwnK.iload X16 (n := 280) at_278 rfl rfl ?_
                    refine OwnK.ic_ne X16  (n1 := 287) (n2 := 283) at_280 (by decide) rfl rfl (fun q => absurd (heq : (if e' = (0 : Int32) then if c' = (0 : Int32) then if p' < (1 : Int32) then 0 else if (2147483647 : Int32) < p' then 0 else 1 else 0 else 0) = (0 : Int32)) q) (fun _ => ?_)
                    refine OwnK.iconst X16 (z := (1 : Int32)) (n := 284) at_283 rfl rfl ?_
                    refine OwnK.goto X16 (n := 288) at_284 (by decide) rfl ?_
                    exact OwnK.ireturn X16 rfl (Or.inr (Or.inl rfl)) rfl at_288 rfl (by decide) (by decide)
                  · refine OwnK.iload X14 (n := 188) at_186 rfl rfl ?_
                    refine OwnK.if_le X14  (n1 := 195) (n2 := 191) at_188 (by decide) rfl rfl (fun hc188 => ?_) (fun hc188 => ?_)
                    · refine OwnK.iconst X14 (z := (0 : Int32)) (n := 196) at_195 rfl rfl ?_
                      refine OwnK.istore X14 (l' := #[.val (.int p0), .val (.int p1), .val (.int p2), .val (.int p3), .val (.int p4), .val (.int e'), .val (.int c'), .val (.int p'), .val (.int ((p0 &&& (2147483647 : Int32)) % (6 : Int32))), .val (.ref a_POLICIES), .val (.int (0 : Int32))]) (n := 198) at_196 rfl rfl ?_
                      refine OwnK.goto X14 (n := 267) at_198 (by decide) rfl ?_
                      refine OwnK.aload X14 (n := 269) at_267 rfl rfl rfl ?_
                      refine OwnK.iload X14 (n := 271) at_269 rfl rfl ?_
                      refine OwnK.iload X14 (n := 273) at_271 rfl rfl ?_
                      refine OwnK.iload X14 (n := 275) at_273 rfl rfl ?_
                      refine OwnK.call_virtual_v X14 (z := (⟨"com/example/beholden/beholden/proof/Rule$Argument", "fits", "(III)Z"⟩ : MethodName)) (yv := (⟨"com/example/beholden/beholden/proof/Rule$Argument", "fits", "(III)Z"⟩ : MethodName)) (a := a_POLICIES) (C := "com/example/beholden/beholden/proof/Rule$Argument") (n := 278) at_275 (hw _ (List.mem_of_getElem? (i := 4) rfl)) (hw _ (List.mem_of_getElem? (i := 5) rfl)) (hw _ (List.mem_of_getElem? (i := 6) rfl)) (hw _ (List.mem_of_getElem? (i := 7) rfl)) (fun hz => notFace_of_selects (args := #[]) (mvT hz (hw _ (List.mem_of_getElem? (i := 7) rfl)))) (hw _ (List.mem_of_getElem? (i := 8) rfl)) (hw _ (List.mem_of_getElem? (i := 2) rfl)) (by decide) E_POLICIES (rm1 l Z a0 hw [] a_POLICIES e' c' p' h0 n0 _ F_POLICIES_entries _ F_POLICIES_constants _ F_POLICIES_minPolicies _ F_POLICIES_maxPolicies) (argsL := [(.int e'), (.int c'), (.int p')]) (rest := []) rfl rfl (OwnK.lenA pd__III_Z rfl) (W := 0) (Nat.le_of_eq rfl) (by decide) (by decide) (by decide) (by decide) rfl ?_
                      intro T17 h17 w17 X17 ⟨q1, q2⟩
                      subst q1 q2
                      have heq : (if e' = (0 : Int32) then if c' = (0 : Int32) then if p' < (1 : Int32) then 0 else if (2147483647 : Int32) < p' then 0 else 1 else 0 else 0) = (0 : Int32) := by simp only [own_ge1, own_eq0, own_eq1]; simp [hc178, hc183, hc188]
                      refine OwnK.iload X17 (n := 280) at_278 rfl rfl ?_
                      refine OwnK.ic_ne X17  (n1 := 287) (n2 := 283) at_280 (by decide) rfl rfl (fun q => absurd (heq : (if e' = (0 : Int32) then if c' = (0 : Int32) then if p' < (1 : Int32) then 0 else if (2147483647 : Int32) < p' then 0 else 1 else 0 else 0) = (0 : Int32)) q) (fun _ => ?_)
                      refine OwnK.iconst X17 (z := (1 : Int32)) (n := 284) at_283 rfl rfl ?_
                      refine OwnK.goto X17 (n := 288) at_284 (by decide) rfl ?_
                      exact OwnK.ireturn X17 rfl (Or.inr (Or.inl rfl)) rfl at_288 rfl (by decide) (by decide)
                    · refine OwnK.iconst X14 (z := (1 : Int32)) (n := 192) at_191 rfl rfl ?_
                      refine OwnK.goto X14 (n := 196) at_192 (by decide) rfl ?_
                      refine OwnK.istore X14 (l' := #[.val (.int p0), .val (.int p1), .val (.int p2), .val (.int p3), .val (.int p4), .val (.int e'), .val (.int c'), .val (.int p'), .val (.int ((p0 &&& (2147483647 : Int32)) % (6 : Int32))), .val (.ref a_POLICIES), .val (.int (1 : Int32))]) (n := 198) at_196 rfl rfl ?_
                      refine OwnK.goto X14 (n := 267) at_198 (by decide) rfl ?_
                      refine OwnK.aload X14 (n := 269) at_267 rfl rfl rfl ?_
                      refine OwnK.iload X14 (n := 271) at_269 rfl rfl ?_
                      refine OwnK.iload X14 (n := 273) at_271 rfl rfl ?_
                      refine OwnK.iload X14 (n := 275) at_273 rfl rfl ?_
                      refine OwnK.call_virtual_v X14 (z := (⟨"com/example/beholden/beholden/proof/Rule$Argument", "fits", "(III)Z"⟩ : MethodName)) (yv := (⟨"com/example/beholden/beholden/proof/Rule$Argument", "fits", "(III)Z"⟩ : MethodName)) (a := a_POLICIES) (C := "com/example/beholden/beholden/proof/Rule$Argument") (n := 278) at_275 (hw _ (List.mem_of_getElem? (i := 4) rfl)) (hw _ (List.mem_of_getElem? (i := 5) rfl)) (hw _ (List.mem_of_getElem? (i := 6) rfl)) (hw _ (List.mem_of_getElem? (i := 7) rfl)) (fun hz => notFace_of_selects (args := #[]) (mvT hz (hw _ (List.mem_of_getElem? (i := 7) rfl)))) (hw _ (List.mem_of_getElem? (i := 8) rfl)) (hw _ (List.mem_of_getElem? (i := 2) rfl)) (by decide) E_POLICIES (rm1 l Z a0 hw [] a_POLICIES e' c' p' h0 n0 _ F_POLICIES_entries _ F_POLICIES_constants _ F_POLICIES_minPolicies _ F_POLICIES_maxPolicies) (argsL := [(.int e'), (.int c'), (.int p')]) (rest := []) rfl rfl (OwnK.lenA pd__III_Z rfl) (W := 0) (Nat.le_of_eq rfl) (by decide) (by decide) (by decide) (by decide) rfl ?_
                      intro T18 h18 w18 X18 ⟨q1, q2⟩
                      subst q1 q2
                      have heq : (if e' = (0 : Int32) then if c' = (0 : Int32) then if p' < (1 : Int32) then 0 else if (2147483647 : Int32) < p' then 0 else 1 else 0 else 0) = (1 : Int32) := by simp only [own_ge1, own_eq0, own_eq1]; simp [hc178, hc183, hc188]
                      refine OwnK.iload X18 (n := 280) at_278 rfl rfl ?_
                      refine OwnK.ic_ne X18  (n1 := 287) (n2 := 283) at_280 (by decide) rfl rfl (fun q => absurd (heq : (if e' = (0 : Int32) then if c' = (0 : Int32) then if p' < (1 : Int32) then 0 else if (2147483647 : Int32) < p' then 0 else 1 else 0 else 0) = (1 : Int32)) q) (fun _ => ?_)
                      refine OwnK.iconst X18 (z := (1 : Int32)) (n := 284) at_283 rfl rfl ?_
                      refine OwnK.goto X18 (n := 288) at_284 (by decide) rfl ?_
                      exact OwnK.ireturn X18 rfl (Or.inr (Or.inl rfl)) rfl at_288 rfl (by decide) (by decide)
            · refine OwnK.getstatic X3 (n := 137) at_134 (hw _ (List.mem_of_getElem? (i := 13) rfl)) Via.refl S_POLICY rfl ?_
              intro T19 X19
              refine OwnK.astore X19 (l' := #[.val (.int p0), .val (.int p1), .val (.int p2), .val (.int p3), .val (.int p4), .val (.int e'), .val (.int c'), .val (.int p'), .val (.int ((p0 &&& (2147483647 : Int32)) % (6 : Int32))), .val (.ref a_POLICY), .unset]) (n := 139) at_137 rfl rfl rfl ?_
              refine OwnK.iload X19 (n := 141) at_139 rfl rfl ?_
              refine OwnK.if_ne X19  (n1 := 159) (n2 := 144) at_141 (by decide) rfl rfl (fun hc141 => ?_) (fun hc141 => ?_)
              · refine OwnK.iconst X19 (z := (0 : Int32)) (n := 160) at_159 rfl rfl ?_
                refine OwnK.istore X19 (l' := #[.val (.int p0), .val (.int p1), .val (.int p2), .val (.int p3), .val (.int p4), .val (.int e'), .val (.int c'), .val (.int p'), .val (.int ((p0 &&& (2147483647 : Int32)) % (6 : Int32))), .val (.ref a_POLICY), .val (.int (0 : Int32))]) (n := 162) at_160 rfl rfl ?_
                refine OwnK.goto X19 (n := 267) at_162 (by decide) rfl ?_
                refine OwnK.aload X19 (n := 269) at_267 rfl rfl rfl ?_
                refine OwnK.iload X19 (n := 271) at_269 rfl rfl ?_
                refine OwnK.iload X19 (n := 273) at_271 rfl rfl ?_
                refine OwnK.iload X19 (n := 275) at_273 rfl rfl ?_
                refine OwnK.call_virtual_v X19 (z := (⟨"com/example/beholden/beholden/proof/Rule$Argument", "fits", "(III)Z"⟩ : MethodName)) (yv := (⟨"com/example/beholden/beholden/proof/Rule$Argument", "fits", "(III)Z"⟩ : MethodName)) (a := a_POLICY) (C := "com/example/beholden/beholden/proof/Rule$Argument") (n := 278) at_275 (hw _ (List.mem_of_getElem? (i := 4) rfl)) (hw _ (List.mem_of_getElem? (i := 5) rfl)) (hw _ (List.mem_of_getElem? (i := 6) rfl)) (hw _ (List.mem_of_getElem? (i := 7) rfl)) (fun hz => notFace_of_selects (args := #[]) (mvT hz (hw _ (List.mem_of_getElem? (i := 7) rfl)))) (hw _ (List.mem_of_getElem? (i := 8) rfl)) (hw _ (List.mem_of_getElem? (i := 2) rfl)) (by decide) E_POLICY (rm1 l Z a0 hw [] a_POLICY e' c' p' h0 n0 _ F_POLICY_entries _ F_POLICY_constants _ F_POLICY_minPolicies _ F_POLICY_maxPolicies) (argsL := [(.int e'), (.int c'), (.int p')]) (rest := []) rfl rfl (OwnK.lenA pd__III_Z rfl) (W := 0) (Nat.le_of_eq rfl) (by decide) (by decide) (by decide) (by decide) rfl ?_
                intro T20 h20 w20 X20 ⟨q1, q2⟩
                subst q1 q2
                have heq : (if e' = (0 : Int32) then if c' = (0 : Int32) then if p' < (1 : Int32) then 0 else if (1 : Int32) < p' then 0 else 1 else 0 else 0) = (0 : Int32) := by simp only [own_ge1, own_eq0, own_eq1]; simp [hc141]
                refine OwnK.iload X20 (n := 280) at_278 rfl rfl ?_
                refine OwnK.ic_ne X20  (n1 := 287) (n2 := 283) at_280 (by decide) rfl rfl (fun q => absurd (heq : (if e' = (0 : Int32) then if c' = (0 : Int32) then if p' < (1 : Int32) then 0 else if (1 : Int32) < p' then 0 else 1 else 0 else 0) = (0 : Int32)) q) (fun _ => ?_)
                refine OwnK.iconst X20 (z := (1 : Int32)) (n := 284) at_283 rfl rfl ?_
                refine OwnK.goto X20 (n := 288) at_284 (by decide) rfl ?_
                exact OwnK.ireturn X20 rfl (Or.inr (Or.inl rfl)) rfl at_288 rfl (by decide) (by decide)
              · refine OwnK.iload X19 (n := 146) at_144 rfl rfl ?_
                refine OwnK.if_ne X19  (n1 := 159) (n2 := 149) at_146 (by decide) rfl rfl (fun hc146 => ?_) (fun hc146 => ?_)
                · refine OwnK.iconst X19 (z := (0 : Int32)) (n := 160) at_159 rfl rfl ?_
                  refine OwnK.istore X19 (l' := #[.val (.int p0), .val (.int p1), .val (.int p2), .val (.int p3), .val (.int p4), .val (.int e'), .val (.int c'), .val (.int p'), .val (.int ((p0 &&& (2147483647 : Int32)) % (6 : Int32))), .val (.ref a_POLICY), .val (.int (0 : Int32))]) (n := 162) at_160 rfl rfl ?_
                  refine OwnK.goto X19 (n := 267) at_162 (by decide) rfl ?_
                  refine OwnK.aload X19 (n := 269) at_267 rfl rfl rfl ?_
                  refine OwnK.iload X19 (n := 271) at_269 rfl rfl ?_
                  refine OwnK.iload X19 (n := 273) at_271 rfl rfl ?_
                  refine OwnK.iload X19 (n := 275) at_273 rfl rfl ?_
                  refine OwnK.call_virtual_v X19 (z := (⟨"com/example/beholden/beholden/proof/Rule$Argument", "fits", "(III)Z"⟩ : MethodName)) (yv := (⟨"com/example/beholden/beholden/proof/Rule$Argument", "fits", "(III)Z"⟩ : MethodName)) (a := a_POLICY) (C := "com/example/beholden/beholden/proof/Rule$Argument") (n := 278) at_275 (hw _ (List.mem_of_getElem? (i := 4) rfl)) (hw _ (List.mem_of_getElem? (i := 5) rfl)) (hw _ (List.mem_of_getElem? (i := 6) rfl)) (hw _ (List.mem_of_getElem? (i := 7) rfl)) (fun hz => notFace_of_selects (args := #[]) (mvT hz (hw _ (List.mem_of_getElem? (i := 7) rfl)))) (hw _ (List.mem_of_getElem? (i := 8) rfl)) (hw _ (List.mem_of_getElem? (i := 2) rfl)) (by decide) E_POLICY (rm1 l Z a0 hw [] a_POLICY e' c' p' h0 n0 _ F_POLICY_entries _ F_POLICY_constants _ F_POLICY_minPolicies _ F_POLICY_maxPolicies) (argsL := [(.int e'), (.int c'), (.int p')]) (rest := []) rfl rfl (OwnK.lenA pd__III_Z rfl) (W := 0) (Nat.le_of_eq rfl) (by decide) (by decide) (by decide) (by decide) rfl ?_
                  intro T21 h21 w21 X21 ⟨q1, q2⟩
                  subst q1 q2
                  have heq : (if e' = (0 : Int32) then if c' = (0 : Int32) then if p' < (1 : Int32) then 0 else if (1 : Int32) < p' then 0 else 1 else 0 else 0) = (0 : Int32) := by simp only [own_ge1, own_eq0, own_eq1]; simp [hc141, hc146]
                  refine OwnK.iload X21 (n := 280) at_278 rfl rfl ?_
                  refine OwnK.ic_ne X21  (n1 := 287) (n2 := 283) at_280 (by decide) rfl rfl (fun q => absurd (heq : (if e' = (0 : Int32) then if c' = (0 : Int32) then if p' < (1 : Int32) then 0 else if (1 : Int32) < p' then 0 else 1 else 0 else 0) = (0 : Int32)) q) (fun _ => ?_)
                  refine OwnK.iconst X21 (z := (1 : Int32)) (n := 284) at_283 rfl rfl ?_
                  refine OwnK.goto X21 (n := 288) at_284 (by decide) rfl ?_
                  exact OwnK.ireturn X21 rfl (Or.inr (Or.inl rfl)) rfl at_288 rfl (by decide) (by decide)
                · refine OwnK.iload X19 (n := 151) at_149 rfl rfl ?_
                  refine OwnK.iconst X19 (z := (1 : Int32)) (n := 152) at_151 rfl rfl ?_
                  refine OwnK.ic_ne X19  (n1 := 159) (n2 := 155) at_152 (by decide) rfl rfl (fun hc152 => ?_) (fun hc152 => ?_)
                  · refine OwnK.iconst X19 (z := (0 : Int32)) (n := 160) at_159 rfl rfl ?_
                    refine OwnK.istore X19 (l' := #[.val (.int p0), .val (.int p1), .val (.int p2), .val (.int p3), .val (.int p4), .val (.int e'), .val (.int c'), .val (.int p'), .val (.int ((p0 &&& (2147483647 : Int32)) % (6 : Int32))), .val (.ref a_POLICY), .val (.int (0 : Int32))]) (n := 162) at_160 rfl rfl ?_
                    refine OwnK.goto X19 (n := 267) at_162 (by decide) rfl ?_
                    refine OwnK.aload X19 (n := 269) at_267 rfl rfl rfl ?_
                    refine OwnK.iload X19 (n := 271) at_269 rfl rfl ?_
                    refine OwnK.iload X19 (n := 273) at_271 rfl rfl ?_
                    refine OwnK.iload X19 (n := 275) at_273 rfl rfl ?_
                    refine OwnK.call_virtual_v X19 (z := (⟨"com/example/beholden/beholden/proof/Rule$Argument", "fits", "(III)Z"⟩ : MethodName)) (yv := (⟨"com/example/beholden/beholden/proof/Rule$Argument", "fits", "(III)Z"⟩ : MethodName)) (a := a_POLICY) (C := "com/example/beholden/beholden/proof/Rule$Argument") (n := 278) at_275 (hw _ (List.mem_of_getElem? (i := 4) rfl)) (hw _ (List.mem_of_getElem? (i := 5) rfl)) (hw _ (List.mem_of_getElem? (i := 6) rfl)) (hw _ (List.mem_of_getElem? (i := 7) rfl)) (fun hz => notFace_of_selects (args := #[]) (mvT hz (hw _ (List.mem_of_getElem? (i := 7) rfl)))) (hw _ (List.mem_of_getElem? (i := 8) rfl)) (hw _ (List.mem_of_getElem? (i := 2) rfl)) (by decide) E_POLICY (rm1 l Z a0 hw [] a_POLICY e' c' p' h0 n0 _ F_POLICY_entries _ F_POLICY_constants _ F_POLICY_minPolicies _ F_POLICY_maxPolicies) (argsL := [(.int e'), (.int c'), (.int p')]) (rest := []) rfl rfl (OwnK.lenA pd__III_Z rfl) (W := 0) (Nat.le_of_eq rfl) (by decide) (by decide) (by decide) (by decide) rfl ?_
                    intro T22 h22 w22 X22 ⟨q1, q2⟩
                    subst q1 q2
                    have heq : (if e' = (0 : Int32) then if c' = (0 : Int32) then if p' < (1 : Int32) then 0 else if (1 : Int32) < p' then 0 else 1 else 0 else 0) = (0 : Int32) := by simp only [own_ge1, own_eq0, own_eq1]; simp [hc141, hc146, hc152]
                    refine OwnK.iload X22 (n := 280) at_278 rfl rfl ?_
                    refine OwnK.ic_ne X22  (n1 := 287) (n2 := 283) at_280 (by decide) rfl rfl (fun q => absurd (heq : (if e' = (0 : Int32) then if c' = (0 : Int32) then if p' < (1 : Int32) then 0 else if (1 : Int32) < p' then 0 else 1 else 0 else 0) = (0 : Int32)) q) (fun _ => ?_)
                    refine OwnK.iconst X22 (z := (1 : Int32)) (n := 284) at_283 rfl rfl ?_
                    refine OwnK.goto X22 (n := 288) at_284 (by decide) rfl ?_
                    exact OwnK.ireturn X22 rfl (Or.inr (Or.inl rfl)) rfl at_288 rfl (by decide) (by decide)
                  · refine OwnK.iconst X19 (z := (1 : Int32)) (n := 156) at_155 rfl rfl ?_
                    refine OwnK.goto X19 (n := 160) at_156 (by decide) rfl ?_
                    refine OwnK.istore X19 (l' := #[.val (.int p0), .val (.int p1), .val (.int p2), .val (.int p3), .val (.int p4), .val (.int e'), .val (.int c'), .val (.int p'), .val (.int ((p0 &&& (2147483647 : Int32)) % (6 : Int32))), .val (.ref a_POLICY), .val (.int (1 : Int32))]) (n := 162) at_160 rfl rfl ?_
                    refine OwnK.goto X19 (n := 267) at_162 (by decide) rfl ?_
                    refine OwnK.aload X19 (n := 269) at_267 rfl rfl rfl ?_
                    refine OwnK.iload X19 (n := 271) at_269 rfl rfl ?_
                    refine OwnK.iload X19 (n := 273) at_271 rfl rfl ?_
                    refine OwnK.iload X19 (n := 275) at_273 rfl rfl ?_
                    refine OwnK.call_virtual_v X19 (z := (⟨"com/example/beholden/beholden/proof/Rule$Argument", "fits", "(III)Z"⟩ : MethodName)) (yv := (⟨"com/example/beholden/beholden/proof/Rule$Argument", "fits", "(III)Z"⟩ : MethodName)) (a := a_POLICY) (C := "com/example/beholden/beholden/proof/Rule$Argument") (n := 278) at_275 (hw _ (List.mem_of_getElem? (i := 4) rfl)) (hw _ (List.mem_of_getElem? (i := 5) rfl)) (hw _ (List.mem_of_getElem? (i := 6) rfl)) (hw _ (List.mem_of_getElem? (i := 7) rfl)) (fun hz => notFace_of_selects (args := #[]) (mvT hz (hw _ (List.mem_of_getElem? (i := 7) rfl)))) (hw _ (List.mem_of_getElem? (i := 8) rfl)) (hw _ (List.mem_of_getElem? (i := 2) rfl)) (by decide) E_POLICY (rm1 l Z a0 hw [] a_POLICY e' c' p' h0 n0 _ F_POLICY_entries _ F_POLICY_constants _ F_POLICY_minPolicies _ F_POLICY_maxPolicies) (argsL := [(.int e'), (.int c'), (.int p')]) (rest := []) rfl rfl (OwnK.lenA pd__III_Z rfl) (W := 0) (Nat.le_of_eq rfl) (by decide) (by decide) (by decide) (by decide) rfl ?_
                    intro T23 h23 w23 X23 ⟨q1, q2⟩
                    subst q1 q2
                    have heq : (if e' = (0 : Int32) then if c' = (0 : Int32) then if p' < (1 : Int32) then 0 else if (1 : Int32) < p' then 0 else 1 else 0 else 0) = (1 : Int32) := by simp only [own_ge1, own_eq0, own_eq1]; simp [hc141, hc146, hc152]
                    refine OwnK.iload X23 (n := 280) at_278 rfl rfl ?_
                    refine OwnK.ic_ne X23  (n1 := 287) (n2 := 283) at_280 (by decide) rfl rfl (fun q => absurd (heq : (if e' = (0 : Int32) then if c' = (0 : Int32) then if p' < (1 : Int32) then 0 else if (1 : Int32) < p' then 0 else 1 else 0 else 0) = (1 : Int32)) q) (fun _ => ?_)
                    refine OwnK.iconst X23 (z := (1 : Int32)) (n := 284) at_283 rfl rfl ?_
                    refine OwnK.goto X23 (n := 288) at_284 (by decide) rfl ?_
                    exact OwnK.ireturn X23 rfl (Or.inr (Or.inl rfl)) rfl at_288 rfl (by decide) (by decide)
          · refine OwnK.getstatic X3 (n := 100) at_97 (hw _ (List.mem_of_getElem? (i := 19) rfl)) Via.refl S_ENTRY rfl ?_
            intro T24 X24
            refine OwnK.astore X24 (l' := #[.val (.int p0), .val (.int p1), .val (.int p2), .val (.int p3), .val (.int p4), .val (.int e'), .val (.int c'), .val (.int p'), .val (.int ((p0 &&& (2147483647 : Int32)) % (6 : Int32))), .val (.ref a_ENTRY), .unset]) (n := 102) at_100 rfl rfl rfl ?_
            refine OwnK.iload X24 (n := 104) at_102 rfl rfl ?_
            refine OwnK.iconst X24 (z := (1 : Int32)) (n := 105) at_104 rfl rfl ?_
            refine OwnK.ic_ne X24  (n1 := 122) (n2 := 108) at_105 (by decide) rfl rfl (fun hc105 => ?_) (fun hc105 => ?_)
            · refine OwnK.iconst X24 (z := (0 : Int32)) (n := 123) at_122 rfl rfl ?_
              refine OwnK.istore X24 (l' := #[.val (.int p0), .val (.int p1), .val (.int p2), .val (.int p3), .val (.int p4), .val (.int e'), .val (.int c'), .val (.int p'), .val (.int ((p0 &&& (2147483647 : Int32)) % (6 : Int32))), .val (.ref a_ENTRY), .val (.int (0 : Int32))]) (n := 125) at_123 rfl rfl ?_
              refine OwnK.goto X24 (n := 267) at_125 (by decide) rfl ?_
              refine OwnK.aload X24 (n := 269) at_267 rfl rfl rfl ?_
              refine OwnK.iload X24 (n := 271) at_269 rfl rfl ?_
              refine OwnK.iload X24 (n := 273) at_271 rfl rfl ?_
              refine OwnK.iload X24 (n := 275) at_273 rfl rfl ?_
              refine OwnK.call_virtual_v X24 (z := (⟨"com/example/beholden/beholden/proof/Rule$Argument", "fits", "(III)Z"⟩ : MethodName)) (yv := (⟨"com/example/beholden/beholden/proof/Rule$Argument", "fits", "(III)Z"⟩ : MethodName)) (a := a_ENTRY) (C := "com/example/beholden/beholden/proof/Rule$Argument") (n := 278) at_275 (hw _ (List.mem_of_getElem? (i := 4) rfl)) (hw _ (List.mem_of_getElem? (i := 5) rfl)) (hw _ (List.mem_of_getElem? (i := 6) rfl)) (hw _ (List.mem_of_getElem? (i := 7) rfl)) (fun hz => notFace_of_selects (args := #[]) (mvT hz (hw _ (List.mem_of_getElem? (i := 7) rfl)))) (hw _ (List.mem_of_getElem? (i := 8) rfl)) (hw _ (List.mem_of_getElem? (i := 2) rfl)) (by decide) E_ENTRY (rm1 l Z a0 hw [] a_ENTRY e' c' p' h0 n0 _ F_ENTRY_entries _ F_ENTRY_constants _ F_ENTRY_minPolicies _ F_ENTRY_maxPolicies) (argsL := [(.int e'), (.int c'), (.int p')]) (rest := []) rfl rfl (OwnK.lenA pd__III_Z rfl) (W := 0) (Nat.le_of_eq rfl) (by decide) (by decide) (by decide) (by decide) rfl ?_
              intro T25 h25 w25 X25 ⟨q1, q2⟩
              subst q1 q2
              have heq : (if e' = (1 : Int32) then if c' = (0 : Int32) then if p' < (0 : Int32) then 0 else if (0 : Int32) < p' then 0 else 1 else 0 else 0) = (0 : Int32) := by simp only [own_ge1, own_eq0, own_eq1]; simp [hc105]
              refine OwnK.iload X25 (n := 280) at_278 rfl rfl ?_
              refine OwnK.ic_ne X25  (n1 := 287) (n2 := 283) at_280 (by decide) rfl rfl (fun q => absurd (heq : (if e' = (1 : Int32) then if c' = (0 : Int32) then if p' < (0 : Int32) then 0 else if (0 : Int32) < p' then 0 else 1 else 0 else 0) = (0 : Int32)) q) (fun _ => ?_)
              refine OwnK.iconst X25 (z := (1 : Int32)) (n := 284) at_283 rfl rfl ?_
              refine OwnK.goto X25 (n := 288) at_284 (by decide) rfl ?_
              exact OwnK.ireturn X25 rfl (Or.inr (Or.inl rfl)) rfl at_288 rfl (by decide) (by decide)
            · refine OwnK.iload X24 (n := 110) at_108 rfl rfl ?_
              refine OwnK.if_ne X24  (n1 := 122) (n2 := 113) at_110 (by decide) rfl rfl (fun hc110 => ?_) (fun hc110 => ?_)
              · refine OwnK.iconst X24 (z := (0 : Int32)) (n := 123) at_122 rfl rfl ?_
                refine OwnK.istore X24 (l' := #[.val (.int p0), .val (.int p1), .val (.int p2), .val (.int p3), .val (.int p4), .val (.int e'), .val (.int c'), .val (.int p'), .val (.int ((p0 &&& (2147483647 : Int32)) % (6 : Int32))), .val (.ref a_ENTRY), .val (.int (0 : Int32))]) (n := 125) at_123 rfl rfl ?_
                refine OwnK.goto X24 (n := 267) at_125 (by decide) rfl ?_
                refine OwnK.aload X24 (n := 269) at_267 rfl rfl rfl ?_
                refine OwnK.iload X24 (n := 271) at_269 rfl rfl ?_
                refine OwnK.iload X24 (n := 273) at_271 rfl rfl ?_
                refine OwnK.iload X24 (n := 275) at_273 rfl rfl ?_
                refine OwnK.call_virtual_v X24 (z := (⟨"com/example/beholden/beholden/proof/Rule$Argument", "fits", "(III)Z"⟩ : MethodName)) (yv := (⟨"com/example/beholden/beholden/proof/Rule$Argument", "fits", "(III)Z"⟩ : MethodName)) (a := a_ENTRY) (C := "com/example/beholden/beholden/proof/Rule$Argument") (n := 278) at_275 (hw _ (List.mem_of_getElem? (i := 4) rfl)) (hw _ (List.mem_of_getElem? (i := 5) rfl)) (hw _ (List.mem_of_getElem? (i := 6) rfl)) (hw _ (List.mem_of_getElem? (i := 7) rfl)) (fun hz => notFace_of_selects (args := #[]) (mvT hz (hw _ (List.mem_of_getElem? (i := 7) rfl)))) (hw _ (List.mem_of_getElem? (i := 8) rfl)) (hw _ (List.mem_of_getElem? (i := 2) rfl)) (by decide) E_ENTRY (rm1 l Z a0 hw [] a_ENTRY e' c' p' h0 n0 _ F_ENTRY_entries _ F_ENTRY_constants _ F_ENTRY_minPolicies _ F_ENTRY_maxPolicies) (argsL := [(.int e'), (.int c'), (.int p')]) (rest := []) rfl rfl (OwnK.lenA pd__III_Z rfl) (W := 0) (Nat.le_of_eq rfl) (by decide) (by decide) (by decide) (by decide) rfl ?_
                intro T26 h26 w26 X26 ⟨q1, q2⟩
                subst q1 q2
                have heq : (if e' = (1 : Int32) then if c' = (0 : Int32) then if p' < (0 : Int32) then 0 else if (0 : Int32) < p' then 0 else 1 else 0 else 0) = (0 : Int32) := by simp only [own_ge1, own_eq0, own_eq1]; simp [hc105, hc110]
                refine OwnK.iload X26 (n := 280) at_278 rfl rfl ?_
                refine OwnK.ic_ne X26  (n1 := 287) (n2 := 283) at_280 (by decide) rfl rfl (fun q => absurd (heq : (if e' = (1 : Int32) then if c' = (0 : Int32) then if p' < (0 : Int32) then 0 else if (0 : Int32) < p' then 0 else 1 else 0 else 0) = (0 : Int32)) q) (fun _ => ?_)
                refine OwnK.iconst X26 (z := (1 : Int32)) (n := 284) at_283 rfl rfl ?_
                refine OwnK.goto X26 (n := 288) at_284 (by decide) rfl ?_
                exact OwnK.ireturn X26 rfl (Or.inr (Or.inl rfl)) rfl at_288 rfl (by decide) (by decide)
              · refine OwnK.iload X24 (n := 115) at_113 rfl rfl ?_
                refine OwnK.if_ne X24  (n1 := 122) (n2 := 118) at_115 (by decide) rfl rfl (fun hc115 => ?_) (fun hc115 => ?_)
                · refine OwnK.iconst X24 (z := (0 : Int32)) (n := 123) at_122 rfl rfl ?_
                  refine OwnK.istore X24 (l' := #[.val (.int p0), .val (.int p1), .val (.int p2), .val (.int p3), .val (.int p4), .val (.int e'), .val (.int c'), .val (.int p'), .val (.int ((p0 &&& (2147483647 : Int32)) % (6 : Int32))), .val (.ref a_ENTRY), .val (.int (0 : Int32))]) (n := 125) at_123 rfl rfl ?_
                  refine OwnK.goto X24 (n := 267) at_125 (by decide) rfl ?_
                  refine OwnK.aload X24 (n := 269) at_267 rfl rfl rfl ?_
                  refine OwnK.iload X24 (n := 271) at_269 rfl rfl ?_
                  refine OwnK.iload X24 (n := 273) at_271 rfl rfl ?_
                  refine OwnK.iload X24 (n := 275) at_273 rfl rfl ?_
                  refine OwnK.call_virtual_v X24 (z := (⟨"com/example/beholden/beholden/proof/Rule$Argument", "fits", "(III)Z"⟩ : MethodName)) (yv := (⟨"com/example/beholden/beholden/proof/Rule$Argument", "fits", "(III)Z"⟩ : MethodName)) (a := a_ENTRY) (C := "com/example/beholden/beholden/proof/Rule$Argument") (n := 278) at_275 (hw _ (List.mem_of_getElem? (i := 4) rfl)) (hw _ (List.mem_of_getElem? (i := 5) rfl)) (hw _ (List.mem_of_getElem? (i := 6) rfl)) (hw _ (List.mem_of_getElem? (i := 7) rfl)) (fun hz => notFace_of_selects (args := #[]) (mvT hz (hw _ (List.mem_of_getElem? (i := 7) rfl)))) (hw _ (List.mem_of_getElem? (i := 8) rfl)) (hw _ (List.mem_of_getElem? (i := 2) rfl)) (by decide) E_ENTRY (rm1 l Z a0 hw [] a_ENTRY e' c' p' h0 n0 _ F_ENTRY_entries _ F_ENTRY_constants _ F_ENTRY_minPolicies _ F_ENTRY_maxPolicies) (argsL := [(.int e'), (.int c'), (.int p')]) (rest := []) rfl rfl (OwnK.lenA pd__III_Z rfl) (W := 0) (Nat.le_of_eq rfl) (by decide) (by decide) (by decide) (by decide) rfl ?_
                  intro T27 h27 w27 X27 ⟨q1, q2⟩
                  subst q1 q2
                  have heq : (if e' = (1 : Int32) then if c' = (0 : Int32) then if p' < (0 : Int32) then 0 else if (0 : Int32) < p' then 0 else 1 else 0 else 0) = (0 : Int32) := by simp only [own_ge1, own_eq0, own_eq1]; simp [hc105, hc110, hc115]
                  refine OwnK.iload X27 (n := 280) at_278 rfl rfl ?_
                  refine OwnK.ic_ne X27  (n1 := 287) (n2 := 283) at_280 (by decide) rfl rfl (fun q => absurd (heq : (if e' = (1 : Int32) then if c' = (0 : Int32) then if p' < (0 : Int32) then 0 else if (0 : Int32) < p' then 0 else 1 else 0 else 0) = (0 : Int32)) q) (fun _ => ?_)
                  refine OwnK.iconst X27 (z := (1 : Int32)) (n := 284) at_283 rfl rfl ?_
                  refine OwnK.goto X27 (n := 288) at_284 (by decide) rfl ?_
                  exact OwnK.ireturn X27 rfl (Or.inr (Or.inl rfl)) rfl at_288 rfl (by decide) (by decide)
                · refine OwnK.iconst X24 (z := (1 : Int32)) (n := 119) at_118 rfl rfl ?_
                  refine OwnK.goto X24 (n := 123) at_119 (by decide) rfl ?_
                  refine OwnK.istore X24 (l' := #[.val (.int p0), .val (.int p1), .val (.int p2), .val (.int p3), .val (.int p4), .val (.int e'), .val (.int c'), .val (.int p'), .val (.int ((p0 &&& (2147483647 : Int32)) % (6 : Int32))), .val (.ref a_ENTRY), .val (.int (1 : Int32))]) (n := 125) at_123 rfl rfl ?_
                  refine OwnK.goto X24 (n := 267) at_125 (by decide) rfl ?_
                  refine OwnK.aload X24 (n := 269) at_267 rfl rfl rfl ?_
                  refine OwnK.iload X24 (n := 271) at_269 rfl rfl ?_
                  refine OwnK.iload X24 (n := 273) at_271 rfl rfl ?_
                  refine OwnK.iload X24 (n := 275) at_273 rfl rfl ?_
                  refine OwnK.call_virtual_v X24 (z := (⟨"com/example/beholden/beholden/proof/Rule$Argument", "fits", "(III)Z"⟩ : MethodName)) (yv := (⟨"com/example/beholden/beholden/proof/Rule$Argument", "fits", "(III)Z"⟩ : MethodName)) (a := a_ENTRY) (C := "com/example/beholden/beholden/proof/Rule$Argument") (n := 278) at_275 (hw _ (List.mem_of_getElem? (i := 4) rfl)) (hw _ (List.mem_of_getElem? (i := 5) rfl)) (hw _ (List.mem_of_getElem? (i := 6) rfl)) (hw _ (List.mem_of_getElem? (i := 7) rfl)) (fun hz => notFace_of_selects (args := #[]) (mvT hz (hw _ (List.mem_of_getElem? (i := 7) rfl)))) (hw _ (List.mem_of_getElem? (i := 8) rfl)) (hw _ (List.mem_of_getElem? (i := 2) rfl)) (by decide) E_ENTRY (rm1 l Z a0 hw [] a_ENTRY e' c' p' h0 n0 _ F_ENTRY_entries _ F_ENTRY_constants _ F_ENTRY_minPolicies _ F_ENTRY_maxPolicies) (argsL := [(.int e'), (.int c'), (.int p')]) (rest := []) rfl rfl (OwnK.lenA pd__III_Z rfl) (W := 0) (Nat.le_of_eq rfl) (by decide) (by decide) (by decide) (by decide) rfl ?_
                  intro T28 h28 w28 X28 ⟨q1, q2⟩
                  subst q1 q2
                  have heq : (if e' = (1 : Int32) then if c' = (0 : Int32) then if p' < (0 : Int32) then 0 else if (0 : Int32) < p' then 0 else 1 else 0 else 0) = (1 : Int32) := by simp only [own_ge1, own_eq0, own_eq1]; simp [hc105, hc110, hc115]
                  refine OwnK.iload X28 (n := 280) at_278 rfl rfl ?_
                  refine OwnK.ic_ne X28  (n1 := 287) (n2 := 283) at_280 (by decide) rfl rfl (fun q => absurd (heq : (if e' = (1 : Int32) then if c' = (0 : Int32) then if p' < (0 : Int32) then 0 else if (0 : Int32) < p' then 0 else 1 else 0 else 0) = (1 : Int32)) q) (fun _ => ?_)
                  refine OwnK.iconst X28 (z := (1 : Int32)) (n := 284) at_283 rfl rfl ?_
                  refine OwnK.goto X28 (n := 288) at_284 (by decide) rfl ?_
                  exact OwnK.ireturn X28 rfl (Or.inr (Or.inl rfl)) rfl at_288 rfl (by decide) (by decide)
        · refine OwnK.getstatic X3 (n := 64) at_61 (hw _ (List.mem_of_getElem? (i := 1) rfl)) Via.refl S_NONE rfl ?_
          intro T29 X29
          refine OwnK.astore X29 (l' := #[.val (.int p0), .val (.int p1), .val (.int p2), .val (.int p3), .val (.int p4), .val (.int e'), .val (.int c'), .val (.int p'), .val (.int ((p0 &&& (2147483647 : Int32)) % (6 : Int32))), .val (.ref a_NONE), .unset]) (n := 66) at_64 rfl rfl rfl ?_
          refine OwnK.iload X29 (n := 68) at_66 rfl rfl ?_
          refine OwnK.if_ne X29  (n1 := 85) (n2 := 71) at_68 (by decide) rfl rfl (fun hc68 => ?_) (fun hc68 => ?_)
          · refine OwnK.iconst X29 (z := (0 : Int32)) (n := 86) at_85 rfl rfl ?_
            refine OwnK.istore X29 (l' := #[.val (.int p0), .val (.int p1), .val (.int p2), .val (.int p3), .val (.int p4), .val (.int e'), .val (.int c'), .val (.int p'), .val (.int ((p0 &&& (2147483647 : Int32)) % (6 : Int32))), .val (.ref a_NONE), .val (.int (0 : Int32))]) (n := 88) at_86 rfl rfl ?_
            refine OwnK.goto X29 (n := 267) at_88 (by decide) rfl ?_
            refine OwnK.aload X29 (n := 269) at_267 rfl rfl rfl ?_
            refine OwnK.iload X29 (n := 271) at_269 rfl rfl ?_
            refine OwnK.iload X29 (n := 273) at_271 rfl rfl ?_
            refine OwnK.iload X29 (n := 275) at_273 rfl rfl ?_
            refine OwnK.call_virtual_v X29 (z := (⟨"com/example/beholden/beholden/proof/Rule$Argument", "fits", "(III)Z"⟩ : MethodName)) (yv := (⟨"com/example/beholden/beholden/proof/Rule$Argument", "fits", "(III)Z"⟩ : MethodName)) (a := a_NONE) (C := "com/example/beholden/beholden/proof/Rule$Argument") (n := 278) at_275 (hw _ (List.mem_of_getElem? (i := 4) rfl)) (hw _ (List.mem_of_getElem? (i := 5) rfl)) (hw _ (List.mem_of_getElem? (i := 6) rfl)) (hw _ (List.mem_of_getElem? (i := 7) rfl)) (fun hz => notFace_of_selects (args := #[]) (mvT hz (hw _ (List.mem_of_getElem? (i := 7) rfl)))) (hw _ (List.mem_of_getElem? (i := 8) rfl)) (hw _ (List.mem_of_getElem? (i := 2) rfl)) (by decide) E_NONE (rm1 l Z a0 hw [] a_NONE e' c' p' h0 n0 _ F_NONE_entries _ F_NONE_constants _ F_NONE_minPolicies _ F_NONE_maxPolicies) (argsL := [(.int e'), (.int c'), (.int p')]) (rest := []) rfl rfl (OwnK.lenA pd__III_Z rfl) (W := 0) (Nat.le_of_eq rfl) (by decide) (by decide) (by decide) (by decide) rfl ?_
            intro T30 h30 w30 X30 ⟨q1, q2⟩
            subst q1 q2
            have heq : (if e' = (0 : Int32) then if c' = (0 : Int32) then if p' < (0 : Int32) then 0 else if (0 : Int32) < p' then 0 else 1 else 0 else 0) = (0 : Int32) := by simp only [own_ge1, own_eq0, own_eq1]; simp [hc68]
            refine OwnK.iload X30 (n := 280) at_278 rfl rfl ?_
            refine OwnK.ic_ne X30  (n1 := 287) (n2 := 283) at_280 (by decide) rfl rfl (fun q => absurd (heq : (if e' = (0 : Int32) then if c' = (0 : Int32) then if p' < (0 : Int32) then 0 else if (0 : Int32) < p' then 0 else 1 else 0 else 0) = (0 : Int32)) q) (fun _ => ?_)
            refine OwnK.iconst X30 (z := (1 : Int32)) (n := 284) at_283 rfl rfl ?_
            refine OwnK.goto X30 (n := 288) at_284 (by decide) rfl ?_
            exact OwnK.ireturn X30 rfl (Or.inr (Or.inl rfl)) rfl at_288 rfl (by decide) (by decide)
          · refine OwnK.iload X29 (n := 73) at_71 rfl rfl ?_
            refine OwnK.if_ne X29  (n1 := 85) (n2 := 76) at_73 (by decide) rfl rfl (fun hc73 => ?_) (fun hc73 => ?_)
            · refine OwnK.iconst X29 (z := (0 : Int32)) (n := 86) at_85 rfl rfl ?_
              refine OwnK.istore X29 (l' := #[.val (.int p0), .val (.int p1), .val (.int p2), .val (.int p3), .val (.int p4), .val (.int e'), .val (.int c'), .val (.int p'), .val (.int ((p0 &&& (2147483647 : Int32)) % (6 : Int32))), .val (.ref a_NONE), .val (.int (0 : Int32))]) (n := 88) at_86 rfl rfl ?_
              refine OwnK.goto X29 (n := 267) at_88 (by decide) rfl ?_
              refine OwnK.aload X29 (n := 269) at_267 rfl rfl rfl ?_
              refine OwnK.iload X29 (n := 271) at_269 rfl rfl ?_
              refine OwnK.iload X29 (n := 273) at_271 rfl rfl ?_
              refine OwnK.iload X29 (n := 275) at_273 rfl rfl ?_
              refine OwnK.call_virtual_v X29 (z := (⟨"com/example/beholden/beholden/proof/Rule$Argument", "fits", "(III)Z"⟩ : MethodName)) (yv := (⟨"com/example/beholden/beholden/proof/Rule$Argument", "fits", "(III)Z"⟩ : MethodName)) (a := a_NONE) (C := "com/example/beholden/beholden/proof/Rule$Argument") (n := 278) at_275 (hw _ (List.mem_of_getElem? (i := 4) rfl)) (hw _ (List.mem_of_getElem? (i := 5) rfl)) (hw _ (List.mem_of_getElem? (i := 6) rfl)) (hw _ (List.mem_of_getElem? (i := 7) rfl)) (fun hz => notFace_of_selects (args := #[]) (mvT hz (hw _ (List.mem_of_getElem? (i := 7) rfl)))) (hw _ (List.mem_of_getElem? (i := 8) rfl)) (hw _ (List.mem_of_getElem? (i := 2) rfl)) (by decide) E_NONE (rm1 l Z a0 hw [] a_NONE e' c' p' h0 n0 _ F_NONE_entries _ F_NONE_constants _ F_NONE_minPolicies _ F_NONE_maxPolicies) (argsL := [(.int e'), (.int c'), (.int p')]) (rest := []) rfl rfl (OwnK.lenA pd__III_Z rfl) (W := 0) (Nat.le_of_eq rfl) (by decide) (by decide) (by decide) (by decide) rfl ?_
              intro T31 h31 w31 X31 ⟨q1, q2⟩
              subst q1 q2
              have heq : (if e' = (0 : Int32) then if c' = (0 : Int32) then if p' < (0 : Int32) then 0 else if (0 : Int32) < p' then 0 else 1 else 0 else 0) = (0 : Int32) := by simp only [own_ge1, own_eq0, own_eq1]; simp [hc68, hc73]
              refine OwnK.iload X31 (n := 280) at_278 rfl rfl ?_
              refine OwnK.ic_ne X31  (n1 := 287) (n2 := 283) at_280 (by decide) rfl rfl (fun q => absurd (heq : (if e' = (0 : Int32) then if c' = (0 : Int32) then if p' < (0 : Int32) then 0 else if (0 : Int32) < p' then 0 else 1 else 0 else 0) = (0 : Int32)) q) (fun _ => ?_)
              refine OwnK.iconst X31 (z := (1 : Int32)) (n := 284) at_283 rfl rfl ?_
              refine OwnK.goto X31 (n := 288) at_284 (by decide) rfl ?_
              exact OwnK.ireturn X31 rfl (Or.inr (Or.inl rfl)) rfl at_288 rfl (by decide) (by decide)
            · refine OwnK.iload X29 (n := 78) at_76 rfl rfl ?_
              refine OwnK.if_ne X29  (n1 := 85) (n2 := 81) at_78 (by decide) rfl rfl (fun hc78 => ?_) (fun hc78 => ?_)
              · refine OwnK.iconst X29 (z := (0 : Int32)) (n := 86) at_85 rfl rfl ?_
                refine OwnK.istore X29 (l' := #[.val (.int p0), .val (.int p1), .val (.int p2), .val (.int p3), .val (.int p4), .val (.int e'), .val (.int c'), .val (.int p'), .val (.int ((p0 &&& (2147483647 : Int32)) % (6 : Int32))), .val (.ref a_NONE), .val (.int (0 : Int32))]) (n := 88) at_86 rfl rfl ?_
                refine OwnK.goto X29 (n := 267) at_88 (by decide) rfl ?_
                refine OwnK.aload X29 (n := 269) at_267 rfl rfl rfl ?_
                refine OwnK.iload X29 (n := 271) at_269 rfl rfl ?_
                refine OwnK.iload X29 (n := 273) at_271 rfl rfl ?_
                refine OwnK.iload X29 (n := 275) at_273 rfl rfl ?_
                refine OwnK.call_virtual_v X29 (z := (⟨"com/example/beholden/beholden/proof/Rule$Argument", "fits", "(III)Z"⟩ : MethodName)) (yv := (⟨"com/example/beholden/beholden/proof/Rule$Argument", "fits", "(III)Z"⟩ : MethodName)) (a := a_NONE) (C := "com/example/beholden/beholden/proof/Rule$Argument") (n := 278) at_275 (hw _ (List.mem_of_getElem? (i := 4) rfl)) (hw _ (List.mem_of_getElem? (i := 5) rfl)) (hw _ (List.mem_of_getElem? (i := 6) rfl)) (hw _ (List.mem_of_getElem? (i := 7) rfl)) (fun hz => notFace_of_selects (args := #[]) (mvT hz (hw _ (List.mem_of_getElem? (i := 7) rfl)))) (hw _ (List.mem_of_getElem? (i := 8) rfl)) (hw _ (List.mem_of_getElem? (i := 2) rfl)) (by decide) E_NONE (rm1 l Z a0 hw [] a_NONE e' c' p' h0 n0 _ F_NONE_entries _ F_NONE_constants _ F_NONE_minPolicies _ F_NONE_maxPolicies) (argsL := [(.int e'), (.int c'), (.int p')]) (rest := []) rfl rfl (OwnK.lenA pd__III_Z rfl) (W := 0) (Nat.le_of_eq rfl) (by decide) (by decide) (by decide) (by decide) rfl ?_
                intro T32 h32 w32 X32 ⟨q1, q2⟩
                subst q1 q2
                have heq : (if e' = (0 : Int32) then if c' = (0 : Int32) then if p' < (0 : Int32) then 0 else if (0 : Int32) < p' then 0 else 1 else 0 else 0) = (0 : Int32) := by simp only [own_ge1, own_eq0, own_eq1]; simp [hc68, hc73, hc78]
                refine OwnK.iload X32 (n := 280) at_278 rfl rfl ?_
                refine OwnK.ic_ne X32  (n1 := 287) (n2 := 283) at_280 (by decide) rfl rfl (fun q => absurd (heq : (if e' = (0 : Int32) then if c' = (0 : Int32) then if p' < (0 : Int32) then 0 else if (0 : Int32) < p' then 0 else 1 else 0 else 0) = (0 : Int32)) q) (fun _ => ?_)
                refine OwnK.iconst X32 (z := (1 : Int32)) (n := 284) at_283 rfl rfl ?_
                refine OwnK.goto X32 (n := 288) at_284 (by decide) rfl ?_
                exact OwnK.ireturn X32 rfl (Or.inr (Or.inl rfl)) rfl at_288 rfl (by decide) (by decide)
              · refine OwnK.iconst X29 (z := (1 : Int32)) (n := 82) at_81 rfl rfl ?_
                refine OwnK.goto X29 (n := 86) at_82 (by decide) rfl ?_
                refine OwnK.istore X29 (l' := #[.val (.int p0), .val (.int p1), .val (.int p2), .val (.int p3), .val (.int p4), .val (.int e'), .val (.int c'), .val (.int p'), .val (.int ((p0 &&& (2147483647 : Int32)) % (6 : Int32))), .val (.ref a_NONE), .val (.int (1 : Int32))]) (n := 88) at_86 rfl rfl ?_
                refine OwnK.goto X29 (n := 267) at_88 (by decide) rfl ?_
                refine OwnK.aload X29 (n := 269) at_267 rfl rfl rfl ?_
                refine OwnK.iload X29 (n := 271) at_269 rfl rfl ?_
                refine OwnK.iload X29 (n := 273) at_271 rfl rfl ?_
                refine OwnK.iload X29 (n := 275) at_273 rfl rfl ?_
                refine OwnK.call_virtual_v X29 (z := (⟨"com/example/beholden/beholden/proof/Rule$Argument", "fits", "(III)Z"⟩ : MethodName)) (yv := (⟨"com/example/beholden/beholden/proof/Rule$Argument", "fits", "(III)Z"⟩ : MethodName)) (a := a_NONE) (C := "com/example/beholden/beholden/proof/Rule$Argument") (n := 278) at_275 (hw _ (List.mem_of_getElem? (i := 4) rfl)) (hw _ (List.mem_of_getElem? (i := 5) rfl)) (hw _ (List.mem_of_getElem? (i := 6) rfl)) (hw _ (List.mem_of_getElem? (i := 7) rfl)) (fun hz => notFace_of_selects (args := #[]) (mvT hz (hw _ (List.mem_of_getElem? (i := 7) rfl)))) (hw _ (List.mem_of_getElem? (i := 8) rfl)) (hw _ (List.mem_of_getElem? (i := 2) rfl)) (by decide) E_NONE (rm1 l Z a0 hw [] a_NONE e' c' p' h0 n0 _ F_NONE_entries _ F_NONE_constants _ F_NONE_minPolicies _ F_NONE_maxPolicies) (argsL := [(.int e'), (.int c'), (.int p')]) (rest := []) rfl rfl (OwnK.lenA pd__III_Z rfl) (W := 0) (Nat.le_of_eq rfl) (by decide) (by decide) (by decide) (by decide) rfl ?_
                intro T33 h33 w33 X33 ⟨q1, q2⟩
                subst q1 q2
                have heq : (if e' = (0 : Int32) then if c' = (0 : Int32) then if p' < (0 : Int32) then 0 else if (0 : Int32) < p' then 0 else 1 else 0 else 0) = (1 : Int32) := by simp only [own_ge1, own_eq0, own_eq1]; simp [hc68, hc73, hc78]
                refine OwnK.iload X33 (n := 280) at_278 rfl rfl ?_
                refine OwnK.ic_ne X33  (n1 := 287) (n2 := 283) at_280 (by decide) rfl rfl (fun q => absurd (heq : (if e' = (0 : Int32) then if c' = (0 : Int32) then if p' < (0 : Int32) then 0 else if (0 : Int32) < p' then 0 else 1 else 0 else 0) = (1 : Int32)) q) (fun _ => ?_)
                refine OwnK.iconst X33 (z := (1 : Int32)) (n := 284) at_283 rfl rfl ?_
                refine OwnK.goto X33 (n := 288) at_284 (by decide) rfl ?_
                exact OwnK.ireturn X33 rfl (Or.inr (Or.inl rfl)) rfl at_288 rfl (by decide) (by decide)
      · intro J3
        refine OwnK.if_eq X2  (n1 := 43) (n2 := 36) at_33 (by decide) rfl rfl (fun hc33 => ?_) (fun hc33 => ?_)
        · refine OwnK.iload X2 (n := 45) at_43 rfl rfl ?_
          exact J3 _ p4 X2 trivial
        · refine OwnK.iload X2 (n := 38) at_36 rfl rfl ?_
          refine OwnK.iconst X2 (z := (3 : Int32)) (n := 39) at_38 rfl rfl ?_
          refine OwnK.irem X2 (n := 40) at_39 (by decide) rfl ?_
          refine OwnK.goto X2 (n := 45) at_40 (by decide) rfl ?_
          exact J3 _ (p4 % (3 : Int32)) X2 trivial
    · intro J2
      refine OwnK.if_eq X1  (n1 := 27) (n2 := 21) at_18 (by decide) rfl rfl (fun hc18 => ?_) (fun hc18 => ?_)
      · refine OwnK.iloadN X1 (n := 28) at_27 rfl rfl ?_
        exact J2 _ p3 X1 trivial
      · refine OwnK.iloadN X1 (n := 22) at_21 rfl rfl ?_
        refine OwnK.iconst X1 (z := (3 : Int32)) (n := 23) at_22 rfl rfl ?_
        refine OwnK.irem X1 (n := 24) at_23 (by decide) rfl ?_
        refine OwnK.goto X1 (n := 28) at_24 (by decide) rfl ?_
        exact J2 _ (p3 % (3 : Int32)) X1 trivial
  · intro J1
    refine OwnK.if_eq X0  (n1 := 12) (n2 := 6) at_3 (by decide) rfl rfl (fun hc3 => ?_) (fun hc3 => ?_)
    · refine OwnK.iloadN X0 (n := 13) at_12 rfl rfl ?_
      exact J1 _ p2 X0 trivial
    · refine OwnK.iloadN X0 (n := 7) at_6 rfl rfl ?_
      refine OwnK.iconst X0 (z := (3 : Int32)) (n := 8) at_7 rfl rfl ?_
      refine OwnK.irem X0 (n := 9) at_8 (by decide) rfl ?_
      refine OwnK.goto X0 (n := 13) at_9 (by decide) rfl ?_
      exact J1 _ (p2 % (3 : Int32)) X0 trivial
set_option maxRecDepth 65536 in
set_option maxHeartbeats 40000000 in
theorem comes_1 {Post : Tables → Env → Array Value → State → Outcome → State → Prop} (hpost : ∀ tb e args s v u, (limb_1_1.after args s (.returned v) u = true ∧ limb_1_2.after args s (.returned v) u = true ∧ True) → FrameEnd s (.returned v) u (Jvm.fieldLocs frame_1_writes args s ++ Jvm.arrayLocs frame_1_arrays args s ++ Jvm.staticLocs frame_1_statics s) 0 0 → Post tb e args s (.returned v) u) :
    ArmFor flags0 classFile x code maxLocals ret World_1 tables_1 room_1 Calls_1 rest_1 Pre_1 Post := by
  intro l hfl _ _ p e ha hc hk s m args below hf hA hF happ hP
  obtain ⟨hcalls, hrest, hpre⟩ := hP
  obtain ⟨-, -, -, hnamed, -, -, -, hat⟩ := (Spec.applies_iff hf).mp happ
  obtain ⟨hg, hn⟩ := and_e (Cond.before_iff.mp (show (Jvm.Cond.and given_1 narrow_1).before args s = true from hpre))
  obtain ⟨g0, q1⟩ := and_e hg
  obtain ⟨g1, q2⟩ := and_e q1
  obtain ⟨g2, q3⟩ := and_e q2
  obtain ⟨g3, q4⟩ := and_e q3
  obtain ⟨g4, g5⟩ := and_e q4
  obtain ⟨w0, w1, w2, w3, w4, rfl⟩ : ∃ w0 w1 w2 w3 w4 : Value, args = #[w0, w1, w2, w3, w4] := by
    have hs : args.size = 5 := by simpa [Cond.value, given_1] using g0
    obtain ⟨L⟩ := args
    match L, hs with
    | [w0, w1, w2, w3, w4], _ => exact ⟨w0, w1, w2, w3, w4, rfl⟩
  have hw := fun d (hd : d ∈ tables_1) => atoms_spec (ws := Jvm.Cond.code x code maxLocals ret :: tables_1) hat d (List.mem_cons_of_mem _ hd)
  have hfit : Fit s := fun {y c} hc i hi => by
    obtain ⟨ha, rfl⟩ := Array.getElem?_eq_some_iff.mp hc
    have q := List.all_eq_true.mp ((Array.all_eq_true_iff_forall_mem.mp hF) _ (Array.getElem_mem ha)) i (List.mem_range.mpr hi)
    simpa [Array.getElem?_eq_getElem hi] using q
  obtain ⟨i0, e0⟩ := is_v g1
  obtain rfl : w0 = (.int i0) := Option.some.inj e0
  obtain ⟨i1, e1⟩ := is_v g2
  obtain rfl : w1 = (.int i1) := Option.some.inj e1
  obtain ⟨i2, e2⟩ := is_v g3
  obtain rfl : w2 = (.int i2) := Option.some.inj e2
  obtain ⟨i3, e3⟩ := is_v g4
  obtain rfl : w3 = (.int i3) := Option.some.inj e3
  obtain ⟨i4, e4⟩ := is_v g5
  obtain rfl : w4 = (.int i4) := Option.some.inj e4
  obtain ⟨c0, cc0⟩ := and_e hn
  obtain ⟨c1, cc1⟩ := and_e cc0
  obtain ⟨c2, cc2⟩ := and_e cc1
  obtain ⟨c3, cc3⟩ := and_e cc2
  obtain ⟨c4, cc4⟩ := and_e cc3
  obtain ⟨c5, cc5⟩ := and_e cc4
  obtain ⟨c6, cc6⟩ := and_e cc5
  obtain ⟨c7, cc7⟩ := and_e cc6
  obtain ⟨c8, cc8⟩ := and_e cc7
  obtain ⟨c9, cc9⟩ := and_e cc8
  obtain ⟨c10, cc10⟩ := and_e cc9
  obtain ⟨c11, cc11⟩ := and_e cc10
  obtain ⟨c12, cc12⟩ := and_e cc11
  obtain ⟨c13, cc13⟩ := and_e cc12
  obtain ⟨c14, cc14⟩ := and_e cc13
  obtain ⟨c15, cc15⟩ := and_e cc14
  obtain ⟨c16, cc16⟩ := and_e cc15
  obtain ⟨c17, cc17⟩ := and_e cc16
  obtain ⟨c18, cc18⟩ := and_e cc17
  obtain ⟨c19, cc19⟩ := and_e cc18
  obtain ⟨c20, cc20⟩ := and_e cc19
  obtain ⟨c21, cc21⟩ := and_e cc20
  obtain ⟨c22, cc22⟩ := and_e cc21
  obtain ⟨c23, cc23⟩ := and_e cc22
  obtain ⟨c24, cc24⟩ := and_e cc23
  obtain ⟨c25, cc25⟩ := and_e cc24
  obtain ⟨c26, cc26⟩ := and_e cc25
  obtain ⟨c27, cc27⟩ := and_e cc26
  obtain ⟨c28, c29⟩ := and_e cc27
  obtain ⟨a_NONE, ev_NONE⟩ := exa_v c0
  have S_NONE := Sta.start ev_NONE (Or.inr ⟨(hw _ (List.mem_of_getElem? (i := 2) rfl)), (hw _ (List.mem_of_getElem? (i := 3) rfl))⟩)
  have E_NONE := Exa.start ev_NONE c0
  have ev_NONE_entries := OwnK.eqI_v c1
  have F_NONE_entries := Fld.start (by rw [← fld_at ev_NONE]; exact ev_NONE_entries)
  obtain ⟨a_POLICIES, ev_POLICIES⟩ := exa_v c2
  have S_POLICIES := Sta.start ev_POLICIES (Or.inr ⟨(hw _ (List.mem_of_getElem? (i := 2) rfl)), (hw _ (List.mem_of_getElem? (i := 12) rfl))⟩)
  have E_POLICIES := Exa.start ev_POLICIES c2
  have ev_POLICIES_entries := OwnK.eqI_v c3
  have F_POLICIES_entries := Fld.start (by rw [← fld_at ev_POLICIES]; exact ev_POLICIES_entries)
  obtain ⟨a_POLICY, ev_POLICY⟩ := exa_v c4
  have S_POLICY := Sta.start ev_POLICY (Or.inr ⟨(hw _ (List.mem_of_getElem? (i := 2) rfl)), (hw _ (List.mem_of_getElem? (i := 14) rfl))⟩)
  have E_POLICY := Exa.start ev_POLICY c4
  have ev_POLICY_entries := OwnK.eqI_v c5
  have F_POLICY_entries := Fld.start (by rw [← fld_at ev_POLICY]; exact ev_POLICY_entries)
  obtain ⟨a_CONSTANT, ev_CONSTANT⟩ := exa_v c6
  have S_CONSTANT := Sta.start ev_CONSTANT (Or.inr ⟨(hw _ (List.mem_of_getElem? (i := 2) rfl)), (hw _ (List.mem_of_getElem? (i := 16) rfl))⟩)
  have E_CONSTANT := Exa.start ev_CONSTANT c6
  have ev_CONSTANT_entries := OwnK.eqI_v c7
  have F_CONSTANT_entries := Fld.start (by rw [← fld_at ev_CONSTANT]; exact ev_CONSTANT_entries)
  have ev_POLICIES_constants := OwnK.eqI_v c8
  have F_POLICIES_constants := Fld.start (by rw [← fld_at ev_POLICIES]; exact ev_POLICIES_constants)
  obtain ⟨a_ENTRY, ev_ENTRY⟩ := exa_v c9
  have S_ENTRY := Sta.start ev_ENTRY (Or.inr ⟨(hw _ (List.mem_of_getElem? (i := 2) rfl)), (hw _ (List.mem_of_getElem? (i := 20) rfl))⟩)
  have E_ENTRY := Exa.start ev_ENTRY c9
  have ev_ENTRY_entries := OwnK.eqI_v c10
  have F_ENTRY_entries := Fld.start (by rw [← fld_at ev_ENTRY]; exact ev_ENTRY_entries)
  have ev_NONE_constants := OwnK.eqI_v c11
  have F_NONE_constants := Fld.start (by rw [← fld_at ev_NONE]; exact ev_NONE_constants)
  have ev_POLICY_constants := OwnK.eqI_v c12
  have F_POLICY_constants := Fld.start (by rw [← fld_at ev_POLICY]; exact ev_POLICY_constants)
  obtain ⟨a_CONSTANT_AND_POLICY, ev_CONSTANT_AND_POLICY⟩ := exa_v c13
  have S_CONSTANT_AND_POLICY := Sta.start ev_CONSTANT_AND_POLICY (Or.inr ⟨(hw _ (List.mem_of_getElem? (i := 2) rfl)), (hw _ (List.mem_of_getElem? (i := 22) rfl))⟩)
  have E_CONSTANT_AND_POLICY := Exa.start ev_CONSTANT_AND_POLICY c13
  have ev_CONSTANT_AND_POLICY_entries := OwnK.eqI_v c14
  have F_CONSTANT_AND_POLICY_entries := Fld.start (by rw [← fld_at ev_CONSTANT_AND_POLICY]; exact ev_CONSTANT_AND_POLICY_entries)
  have ev_ENTRY_constants := OwnK.eqI_v c15
  have F_ENTRY_constants := Fld.start (by rw [← fld_at ev_ENTRY]; exact ev_ENTRY_constants)
  have ev_CONSTANT_constants := OwnK.eqI_v c16
  have F_CONSTANT_constants := Fld.start (by rw [← fld_at ev_CONSTANT]; exact ev_CONSTANT_constants)
  have ev_POLICIES_minPolicies := OwnK.eqI_v c17
  have F_POLICIES_minPolicies := Fld.start (by rw [← fld_at ev_POLICIES]; exact ev_POLICIES_minPolicies)
  have ev_POLICIES_maxPolicies := OwnK.eqI_v c18
  have F_POLICIES_maxPolicies := Fld.start (by rw [← fld_at ev_POLICIES]; exact ev_POLICIES_maxPolicies)
  have ev_CONSTANT_AND_POLICY_constants := OwnK.eqI_v c19
  have F_CONSTANT_AND_POLICY_constants := Fld.start (by rw [← fld_at ev_CONSTANT_AND_POLICY]; exact ev_CONSTANT_AND_POLICY_constants)
  have ev_NONE_minPolicies := OwnK.eqI_v c20
  have F_NONE_minPolicies := Fld.start (by rw [← fld_at ev_NONE]; exact ev_NONE_minPolicies)
  have ev_NONE_maxPolicies := OwnK.eqI_v c21
  have F_NONE_maxPolicies := Fld.start (by rw [← fld_at ev_NONE]; exact ev_NONE_maxPolicies)
  have ev_POLICY_minPolicies := OwnK.eqI_v c22
  have F_POLICY_minPolicies := Fld.start (by rw [← fld_at ev_POLICY]; exact ev_POLICY_minPolicies)
  have ev_POLICY_maxPolicies := OwnK.eqI_v c23
  have F_POLICY_maxPolicies := Fld.start (by rw [← fld_at ev_POLICY]; exact ev_POLICY_maxPolicies)
  have ev_ENTRY_minPolicies := OwnK.eqI_v c24
  have F_ENTRY_minPolicies := Fld.start (by rw [← fld_at ev_ENTRY]; exact ev_ENTRY_minPolicies)
  have ev_ENTRY_maxPolicies := OwnK.eqI_v c25
  have F_ENTRY_maxPolicies := Fld.start (by rw [← fld_at ev_ENTRY]; exact ev_ENTRY_maxPolicies)
  have ev_CONSTANT_minPolicies := OwnK.eqI_v c26
  have F_CONSTANT_minPolicies := Fld.start (by rw [← fld_at ev_CONSTANT]; exact ev_CONSTANT_minPolicies)
  have ev_CONSTANT_maxPolicies := OwnK.eqI_v c27
  have F_CONSTANT_maxPolicies := Fld.start (by rw [← fld_at ev_CONSTANT]; exact ev_CONSTANT_maxPolicies)
  have ev_CONSTANT_AND_POLICY_minPolicies := OwnK.eqI_v c28
  have F_CONSTANT_AND_POLICY_minPolicies := Fld.start (by rw [← fld_at ev_CONSTANT_AND_POLICY]; exact ev_CONSTANT_AND_POLICY_minPolicies)
  have ev_CONSTANT_AND_POLICY_maxPolicies := OwnK.eqI_v c29
  have F_CONSTANT_AND_POLICY_maxPolicies := Fld.start (by rw [← fld_at ev_CONSTANT_AND_POLICY]; exact ev_CONSTANT_AND_POLICY_maxPolicies)
  obtain ⟨n, o, h1, h2, h3, v, L, rfl, ⟨⟨w, rfl, rfl⟩, N⟩, hq⟩ := rm0 l s _ hw tables_1 i0 i1 i2 i3 i4 s.heap s.heap.size a_NONE S_NONE E_NONE F_NONE_entries a_POLICIES S_POLICIES E_POLICIES F_POLICIES_entries a_POLICY S_POLICY E_POLICY F_POLICY_entries a_CONSTANT S_CONSTANT E_CONSTANT F_CONSTANT_entries F_POLICIES_constants a_ENTRY S_ENTRY E_ENTRY F_ENTRY_entries F_NONE_constants F_POLICY_constants a_CONSTANT_AND_POLICY S_CONSTANT_AND_POLICY E_CONSTANT_AND_POLICY F_CONSTANT_AND_POLICY_entries F_ENTRY_constants F_CONSTANT_constants F_POLICIES_minPolicies F_POLICIES_maxPolicies F_CONSTANT_AND_POLICY_constants F_NONE_minPolicies F_NONE_maxPolicies F_POLICY_minPolicies F_POLICY_maxPolicies F_ENTRY_minPolicies F_ENTRY_maxPolicies F_CONSTANT_minPolicies F_CONSTANT_maxPolicies F_CONSTANT_AND_POLICY_minPolicies F_CONSTANT_AND_POLICY_maxPolicies p e ha hc hk s m _ below hf ((Spec.applies_iff_loose hf).mp happ).1 ⟨rfl, State.Warmed39.refl s, rfl⟩ trivial
  refine ⟨n, _, h1, h2, h3, hpost _ _ _ _ _ _ ⟨Cond.after_iff.mpr rfl, Cond.after_iff.mpr (eq_i res_at (Term.int_eval (1)) rfl), trivial⟩ ⟨hq.1, hq.2.1, (hq.2.2.sift fun y hy => Or.inr (N y hy)).mono (by decide) (by decide)⟩⟩
theorem main_1_1 : Claimed_1_1 := comes_1 fun _ _ _ _ _ _ h hF => ⟨h.1, hF⟩
theorem main_1_2 : Claimed_1_2 := comes_1 fun _ _ _ _ _ _ h hF => ⟨h.2.1, hF⟩
end Jvm.Pilot.@@N@@
namespace Jvm.Pilot.@@N@@
open Jvm Jvm.ClassFile Sem Op Lib Jvm.Free Jvm.Stand Jvm.Pilot.@@N@@.Jvm.D
/-! MADE BY PROGRAM (witnessworld.py) out of the Statement's table words and the real class files: 12 classes; the members and pool entries that the words name. The judged class is class 1, her method 1. -/
namespace start1
open Jvm.ClassFile
def u (s : String) : CpInfo := .utf8 (stringToUtf16 s)
/-- a pool by its gaps: so many unusable entries, then the entry; so many at the end -/
def gap : Nat → List CpInfo → List CpInfo
  | 0, r => r
  | n + 1, r => .unusable :: gap n r
def poolList (es : List (Nat × CpInfo)) (last : Nat) : List CpInfo := es.foldr (fun e r => gap e.1 (e.2 :: r)) (gap last [])
def pool (es : List (Nat × CpInfo)) (last : Nat) : Array CpInfo := ⟨poolList es last⟩
def fileOf (pool : Array CpInfo) (this : Nat) (attrs : Array Attribute := #[]) (ms : Array MethodInfo := #[]) (fl : Nat := 33) (sup : Nat := 0) (ifs : Array Nat := #[]) (fds : Array FieldInfo := #[]) : ClassFile where
  minorVersion := 0
  majorVersion := 65
  constantPool := pool
  accessFlags := fl
  thisClass := this
  superClass := sup
  interfaces := ifs
  fields := fds
  methods := ms
  attributes := attrs
def plain (name : String) (sup : Option ClassId) : Class where
  name := name
  kind := .ordinary
  loader := none
  accessFlags := 33
  super := sup
  interfaces := #[]
  cf := none
  fields := #[]
  methods := #[]
  instanceTypes := #[]
  staticTypes := #[]
  resolved := #[]
  callSites := []
  init := .initialized
  statics := none
  mirror := none

def pool0 : Array CpInfo := pool [(5, u "<init>"), (0, u "()V"), (1, .class_ 10), (1, u "java/lang/Object")] 113

def k0m0 : Method := { name := "<init>", desc := "()V", sig := { parameters := [], returnType := none }, accessFlags := 1, code := none }
/-- java/lang/Object -/
def k0 : Class := { plain "java/lang/Object" none with
  accessFlags := 33
  interfaces := #[]
  cf := some (fileOf pool0 8 #[] #[{ accessFlags := 1, nameIndex := 5, descriptorIndex := 6, attributes := #[] }] 33 0 #[] #[])
  fields := #[]
  methods := #[k0m0]
  instanceTypes := #[]
  staticTypes := #[]
  resolved := Array.replicate 124 none
  statics := none }

def pool1 : Array CpInfo := pool [(2, .class_ 4), (1, u "java/lang/Object"), (0, u "<init>"), (0, u "()V"), (0, .integer 2147483647), (0, .fieldref 9 10), (0, .class_ 11), (0, .nameAndType 12 13), (0, u "com/example/beholden/beholden/proof/Rule$Argument"), (0, u "NONE"), (0, u "Lcom/example/beholden/beholden/proof/Rule$Argument;"), (0, .fieldref 9 15), (0, .nameAndType 16 13), (0, u "ENTRY"), (0, .fieldref 9 18), (0, .nameAndType 19 13), (0, u "POLICY"), (0, .fieldref 9 21), (0, .nameAndType 22 13), (0, u "POLICIES"), (0, .fieldref 9 24), (0, .nameAndType 25 13), (0, u "CONSTANT"), (0, .fieldref 9 27), (0, .nameAndType 28 13), (0, u "CONSTANT_AND_POLICY"), (0, .methodref 9 30), (0, .nameAndType 31 32), (0, u "fits"), (0, u "(III)Z"), (0, .class_ 34), (0, u "com/example/beholden/beholden/proof/ArgumentFitsPinLaw"), (2, u "law"), (0, u "(IIIII)Z")] 7

def k1m0 : Method := { name := "<init>", desc := "()V", sig := { parameters := [], returnType := none }, accessFlags := 1, code := none }
def k1c1 : Code := { maxStack := 4, maxLocals := 11, code := code, exceptionTable := #[], attributes := #[] }
def k1m1 : Method := { name := "law", desc := "(IIIII)Z", sig := { parameters := [.int, .int, .int, .int, .int], returnType := some .boolean }, accessFlags := 9, code := some k1c1 }
/-- com/example/beholden/beholden/proof/ArgumentFitsPinLaw -/
def k1 : Class := { plain "com/example/beholden/beholden/proof/ArgumentFitsPinLaw" (some 0) with
  accessFlags := 49
  interfaces := #[]
  cf := some (fileOf pool1 33 #[] #[{ accessFlags := 1, nameIndex := 5, descriptorIndex := 6, attributes := #[] }, { accessFlags := 9, nameIndex := 37, descriptorIndex := 38, attributes := #[] }] 49 2 #[] #[])
  fields := #[]
  methods := #[k1m0, k1m1]
  instanceTypes := #[]
  staticTypes := #[]
  resolved := Array.replicate 46 none
  statics := none }

def pool2 : Array CpInfo := pool [(1, .class_ 2), (0, u "java/lang/constant/Constable"), (0, .class_ 4), (0, u "java/lang/Object")] 6

/-- java/lang/constant/Constable -/
def k2 : Class := { plain "java/lang/constant/Constable" (some 0) with
  accessFlags := 1537
  interfaces := #[]
  cf := some (fileOf pool2 1 #[] #[] 1537 3 #[] #[])
  fields := #[]
  methods := #[]
  instanceTypes := #[]
  staticTypes := #[]
  resolved := Array.replicate 11 none
  statics := none }

def pool3 : Array CpInfo := pool [(1, .class_ 2), (0, u "java/lang/Comparable"), (0, .class_ 4), (0, u "java/lang/Object")] 7

/-- java/lang/Comparable -/
def k3 : Class := { plain "java/lang/Comparable" (some 0) with
  accessFlags := 1537
  interfaces := #[]
  cf := some (fileOf pool3 1 #[] #[] 1537 3 #[] #[])
  fields := #[]
  methods := #[]
  instanceTypes := #[]
  staticTypes := #[]
  resolved := Array.replicate 12 none
  statics := none }

def pool4 : Array CpInfo := pool [(1, .class_ 2), (0, u "java/io/Serializable"), (0, .class_ 4), (0, u "java/lang/Object")] 2

/-- java/io/Serializable -/
def k4 : Class := { plain "java/io/Serializable" (some 0) with
  accessFlags := 1537
  interfaces := #[]
  cf := some (fileOf pool4 1 #[] #[] 1537 3 #[] #[])
  fields := #[]
  methods := #[]
  instanceTypes := #[]
  staticTypes := #[]
  resolved := Array.replicate 7 none
  statics := none }

def pool5 : Array CpInfo := pool [(2, .class_ 4), (1, u "java/lang/Enum"), (0, u "name"), (0, u "Ljava/lang/String;"), (2, u "ordinal"), (0, u "I"), (1, .class_ 14), (1, u "java/lang/Object"), (4, u "hash"), (86, .class_ 108), (1, u "java/lang/Enum$EnumDesc"), (2, .class_ 112), (0, u "java/lang/constant/Constable"), (0, .class_ 114), (0, u "java/lang/Comparable"), (0, .class_ 116), (0, u "java/io/Serializable")] 87

/-- java/lang/Enum -/
def k5 : Class := { plain "java/lang/Enum" (some 0) with
  accessFlags := 1057
  interfaces := #[2, 3, 4]
  cf := some (fileOf pool5 2 #[.nestMembers #[106]] #[] 1057 12 #[111, 113, 115] #[{ accessFlags := 18, nameIndex := 5, descriptorIndex := 6, attributes := #[] }, { accessFlags := 18, nameIndex := 9, descriptorIndex := 10, attributes := #[] }, { accessFlags := 2, nameIndex := 19, descriptorIndex := 10, attributes := #[] }])
  fields := #[{ name := "name", type := (.object "java/lang/String"), accessFlags := 18, slot := 0, constantValue := 0 }, { name := "ordinal", type := .int, accessFlags := 18, slot := 1, constantValue := 0 }, { name := "hash", type := .int, accessFlags := 2, slot := 2, constantValue := 0 }]
  methods := #[]
  instanceTypes := #[(.object "java/lang/String"), .int, .int]
  staticTypes := #[]
  resolved := Array.replicate 204 none
  statics := none }

def pool6 : Array CpInfo := pool [(1, .class_ 2), (0, u "com/example/beholden/beholden/proof/Rule$Argument"), (2, u "NONE"), (0, u "Lcom/example/beholden/beholden/proof/Rule$Argument;"), (2, u "ENTRY"), (2, u "POLICY"), (2, u "POLICIES"), (2, u "CONSTANT"), (2, u "CONSTANT_AND_POLICY"), (2, u "$VALUES"), (0, u "[Lcom/example/beholden/beholden/proof/Rule$Argument;"), (6, .class_ 34), (1, u "java/lang/Enum"), (6, .fieldref 1 42), (0, .nameAndType 43 44), (0, u "entries"), (0, u "I"), (0, .fieldref 1 46), (0, .nameAndType 47 44), (0, u "constants"), (0, .fieldref 1 49), (0, .nameAndType 50 44), (0, u "minPolicies"), (0, .fieldref 1 52), (0, .nameAndType 53 44), (0, u "maxPolicies"), (24, u "fits"), (0, u "(III)Z"), (7, .class_ 88), (0, u "com/example/beholden/beholden/proof/Rule")] 2

def k6c0 : Code := { maxStack := 2, maxLocals := 4, code := prog_93_method_7_code, exceptionTable := #[], attributes := #[] }
def k6m0 : Method := { name := "fits", desc := "(III)Z", sig := { parameters := [.int, .int, .int], returnType := some .boolean }, accessFlags := 1, code := some k6c0 }
/-- com/example/beholden/beholden/proof/Rule$Argument -/
def k6 : Class := { plain "com/example/beholden/beholden/proof/Rule$Argument" (some 5) with
  accessFlags := 16433
  interfaces := #[]
  cf := some (fileOf pool6 1 #[.nestHost 87] #[{ accessFlags := 1, nameIndex := 78, descriptorIndex := 79, attributes := #[] }] 16433 32 #[] #[{ accessFlags := 16409, nameIndex := 5, descriptorIndex := 6, attributes := #[] }, { accessFlags := 16409, nameIndex := 9, descriptorIndex := 6, attributes := #[] }, { accessFlags := 16409, nameIndex := 12, descriptorIndex := 6, attributes := #[] }, { accessFlags := 16409, nameIndex := 15, descriptorIndex := 6, attributes := #[] }, { accessFlags := 16409, nameIndex := 18, descriptorIndex := 6, attributes := #[] }, { accessFlags := 16409, nameIndex := 21, descriptorIndex := 6, attributes := #[] }, { accessFlags := 18, nameIndex := 43, descriptorIndex := 44, attributes := #[] }, { accessFlags := 18, nameIndex := 47, descriptorIndex := 44, attributes := #[] }, { accessFlags := 18, nameIndex := 50, descriptorIndex := 44, attributes := #[] }, { accessFlags := 18, nameIndex := 53, descriptorIndex := 44, attributes := #[] }, { accessFlags := 4122, nameIndex := 24, descriptorIndex := 25, attributes := #[] }])
  fields := #[{ name := "NONE", type := (.object "com/example/beholden/beholden/proof/Rule$Argument"), accessFlags := 16409, slot := 0, constantValue := 0 }, { name := "ENTRY", type := (.object "com/example/beholden/beholden/proof/Rule$Argument"), accessFlags := 16409, slot := 1, constantValue := 0 }, { name := "POLICY", type := (.object "com/example/beholden/beholden/proof/Rule$Argument"), accessFlags := 16409, slot := 2, constantValue := 0 }, { name := "POLICIES", type := (.object "com/example/beholden/beholden/proof/Rule$Argument"), accessFlags := 16409, slot := 3, constantValue := 0 }, { name := "CONSTANT", type := (.object "com/example/beholden/beholden/proof/Rule$Argument"), accessFlags := 16409, slot := 4, constantValue := 0 }, { name := "CONSTANT_AND_POLICY", type := (.object "com/example/beholden/beholden/proof/Rule$Argument"), accessFlags := 16409, slot := 5, constantValue := 0 }, { name := "entries", type := .int, accessFlags := 18, slot := 3, constantValue := 0 }, { name := "constants", type := .int, accessFlags := 18, slot := 4, constantValue := 0 }, { name := "minPolicies", type := .int, accessFlags := 18, slot := 5, constantValue := 0 }, { name := "maxPolicies", type := .int, accessFlags := 18, slot := 6, constantValue := 0 }, { name := "$VALUES", type := (.array (.object "com/example/beholden/beholden/proof/Rule$Argument")), accessFlags := 4122, slot := 6, constantValue := 0 }]
  methods := #[k6m0]
  instanceTypes := #[(.object "java/lang/String"), .int, .int, .int, .int, .int, .int]
  staticTypes := #[(.object "com/example/beholden/beholden/proof/Rule$Argument"), (.object "com/example/beholden/beholden/proof/Rule$Argument"), (.object "com/example/beholden/beholden/proof/Rule$Argument"), (.object "com/example/beholden/beholden/proof/Rule$Argument"), (.object "com/example/beholden/beholden/proof/Rule$Argument"), (.object "com/example/beholden/beholden/proof/Rule$Argument"), (.array (.object "com/example/beholden/beholden/proof/Rule$Argument"))]
  resolved := Array.replicate 91 none
  statics := some 0 }

def pool7 : Array CpInfo := pool [(1, u "java/lang/Cloneable"), (0, .class_ 1), (0, u "java/lang/Object"), (0, .class_ 3)] 3

/-- java/lang/Cloneable -/
def k7 : Class := { plain "java/lang/Cloneable" (some 0) with
  accessFlags := 1537
  interfaces := #[]
  cf := some (fileOf pool7 2 #[] #[] 1537 4 #[] #[])
  fields := #[]
  methods := #[]
  instanceTypes := #[]
  staticTypes := #[]
  resolved := Array.replicate 8 none
  statics := none }

/-- the primitive byte -/
def k8 : Class := { plain "byte" none with kind := .primitive 'B', accessFlags := 0x411 }
/-- [B -/
def k9 : Class := { plain "[B" (some 0) with kind := .array 8 .byte, interfaces := #[7, 4], accessFlags := 1041 }

/-- the primitive int -/
def k10 : Class := { plain "int" none with kind := .primitive 'I', accessFlags := 0x411 }
/-- [I -/
def k11 : Class := { plain "[I" (some 0) with kind := .array 10 .int, interfaces := #[7, 4], accessFlags := 1041 }

def heap : Heap := #[{ cls := 6, slots := #[.ref 1, .ref 5, .ref 3, .ref 2, .ref 4, .ref 6, .null], vm := .statics 6 },
  { cls := 6, slots := #[.null, .int 0, .int 0, .int 0, .int 0, .int 0, .int 0], vm := .none },
  { cls := 6, slots := #[.null, .int 0, .int 0, .int 0, .int 0, .int 1, .int 2147483647], vm := .none },
  { cls := 6, slots := #[.null, .int 0, .int 0, .int 0, .int 0, .int 1, .int 1], vm := .none },
  { cls := 6, slots := #[.null, .int 0, .int 0, .int 0, .int 1, .int 0, .int 0], vm := .none },
  { cls := 6, slots := #[.null, .int 0, .int 0, .int 1, .int 0, .int 0, .int 0], vm := .none },
  { cls := 6, slots := #[.null, .int 0, .int 0, .int 0, .int 1, .int 1, .int 1], vm := .none }]
def classes : Array Class := #[k0, k1, k2, k3, k4, k5, k6, k7, k8, k9, k10, k11]
def interned : List (Array UInt16 × Addr) := []
def slotsUsed : Nat := 49
def theMethod : MethodId := ⟨1, 1⟩
def args0 : Array Value := #[.int 5, .int 1, .int 2, .int 1, .int 1]
def aboutOver (below : List Frame) : State where
  vm := { classes := classes, interned := interned.toArray }
  heap := heap
  slotsUsed := slotsUsed
  threads := #[{ frames := .invoking theMethod args0 :: below }]
def below0 : List Frame := [.native { method := ⟨0, 0⟩, args := #[] }]
def about1 : State := aboutOver below0
def p0 : Program := .bare "" "" ""
def e0 : Env := launch0.env 0 0 0
theorem w_frames : about1.frames = Frame.invoking theMethod args0 :: below0 := rfl
set_option maxRecDepth 65536 in
theorem w_args : argsFit about1.vm theMethod args0 = true := by decide +kernel
set_option maxRecDepth 65536 in
theorem w_heap : heapFits about1 = true := by decide +kernel
set_option maxRecDepth 65536 in
theorem w_runnable : about1.curStatus? = some .runnable := by decide +kernel
set_option maxRecDepth 65536 in
theorem w_alone : about1.alone = true := by decide +kernel
set_option maxRecDepth 65536 in
theorem w_named : about1.methodNamed? x = some theMethod := by decide +kernel
set_option maxRecDepth 65536 in
theorem w_hears : about1.hears theMethod below0 = true := by decide +kernel
set_option maxRecDepth 65536 in
theorem w_ripe : about1.ripe theMethod args0 below0 = true := by decide +kernel
theorem w_running : about1.status = .running := rfl
set_option maxRecDepth 65536 in
theorem w_room : about1.hasRoom e0.platform room_1 = true :=
  launch0.hasRoom_least _ room_1 (by decide +kernel) (by decide +kernel) (by decide +kernel) (by decide +kernel) (by decide +kernel) (by decide +kernel)
theorem allAtoms_all (ts : List Jvm.Cond) (a : Array Jvm.Value) (st : Jvm.State) : (allAtoms ts).before a st = ts.all (fun c => c.before a st) := by
  induction ts with
  | nil => rfl
  | cons c t ih =>
    show (Jvm.Cond.and c (allAtoms t)).before a st = _
    rw [Jvm.Cond.before_and, ih, List.all_cons]
def words1 : List Jvm.Cond := Jvm.Cond.code x code maxLocals ret :: tables_1
/-- a 'code' word, met by the world's own term for the bytes: nothing is compared byte by byte -/
theorem code_word {y : MethodName} {bytes : ByteArray} {mx : Nat} {rt : Option FieldType} {a : Array Value} {s : State} {m : MethodId} {meth : Method} {c : Code} (h1 : s.methodNamed? y = some m) (h2 : s.vm.method? m = some meth) (h3 : meth.code = some c) (h4 : c.code = bytes)
    (h5 : (c.maxLocals == mx && c.exceptionTable.isEmpty && decide (c.maxStack ≤ mostOperands) && decide (meth.sig.returnType = rt) && !meth.locks && decide (parseMethodDescriptor y.desc = some meth.sig)) = true) : (Jvm.Cond.code y bytes mx rt).before a s = true := by
  simp only [Bool.and_eq_true, beq_iff_eq, Bool.not_eq_true', decide_eq_true_eq] at h5
  obtain ⟨⟨⟨⟨⟨g1, g2⟩, g3⟩, g4⟩, g5⟩, g6⟩ := h5
  simp [Cond.before, Cond.holds, Cond.value, h1, h2, h3, h4, g1, g2, g3, g4, g5, g6]
def isCode : Jvm.Cond → Bool
  | .code _ _ _ _ => true
  | _ => false
theorem all_split {L : List Jvm.Cond} {P : Jvm.Cond → Bool} (h1 : L.all (fun c => isCode c || P c) = true) (h2 : ∀ c ∈ L.filter isCode, P c = true) : L.all P = true := by
  refine List.all_eq_true.mpr fun c hc => ?_
  have h := List.all_eq_true.mp h1 c hc
  rcases Bool.eq_false_or_eq_true (isCode c) with hi | hi
  · exact h2 c (List.mem_filter.mpr ⟨hc, hi⟩)
  · simpa [hi] using h
set_option maxRecDepth 65536 in
theorem w_c0 : (Jvm.Cond.code x code maxLocals ret).before args0 about1 = true := code_word (m := ⟨1, 1⟩) (meth := k1m1) (c := k1c1) (by decide +kernel) rfl rfl rfl (by decide +kernel)
set_option maxRecDepth 65536 in
theorem w_c1 : (Jvm.Cond.code ({ cls := "com/example/beholden/beholden/proof/Rule$Argument", name := "fits", desc := "(III)Z" } : Jvm.MethodName) prog_93_method_7_code (4 : Nat) (Option.some Jvm.ClassFile.FieldType.boolean)).before args0 about1 = true := code_word (m := ⟨6, 0⟩) (meth := k6m0) (c := k6c0) (by decide +kernel) rfl rfl rfl (by decide +kernel)
def codes1 : List Jvm.Cond := [Jvm.Cond.code x code maxLocals ret, Jvm.Cond.code ({ cls := "com/example/beholden/beholden/proof/Rule$Argument", name := "fits", desc := "(III)Z" } : Jvm.MethodName) prog_93_method_7_code (4 : Nat) (Option.some Jvm.ClassFile.FieldType.boolean)]
set_option maxRecDepth 65536 in
theorem codes_eq : words1.filter isCode = codes1 := rfl
theorem w_codes : ∀ c ∈ words1.filter isCode, c.before args0 about1 = true := by
  rw [codes_eq]
  intro c hc
  simp only [codes1, List.mem_cons, List.not_mem_nil, or_false] at hc
  rcases hc with rfl | rfl
  · exact w_c0
  · exact w_c1
set_option maxRecDepth 65536 in
theorem w_t1 : (words1.take 24).all (fun c => isCode c || c.before args0 about1) = true := by decide +kernel
set_option maxRecDepth 65536 in
theorem w_t2 : (words1.drop 24).all (fun c => isCode c || c.before args0 about1) = true := by decide +kernel
theorem w_tables : (allAtoms (Jvm.Cond.code x code maxLocals ret :: tables_1)).before args0 about1 = true := by
  rw [allAtoms_all]
  show words1.all (fun c => c.before args0 about1) = true
  refine all_split ?_ w_codes
  rw [← List.take_append_drop 24 words1, List.all_append, w_t1, w_t2]
  rfl
set_option maxRecDepth 65536 in
theorem w_case : (Jvm.Cond.and given_1 narrow_1).before args0 about1 = true := by decide +kernel
theorem w_applies : (headSpec (Jvm.Cond.code x code maxLocals ret :: tables_1) room_1).applies x e0.platform about1 = true :=
  (Spec.applies_iff w_frames).mpr ⟨w_running, w_runnable, w_alone, w_named, w_hears, w_ripe, w_room, w_tables⟩
theorem atStart : AtStart classFile x code maxLocals ret World_1 tables_1 room_1 Calls_1 rest_1 Pre_1 launch0 p0 e0 about1 theMethod args0 below0 :=
  ⟨lists_1, trivial, launch0.admits_env _ _ _, launch0.least_env, fairChoices_fair.cas, fairChoices_fair.clock, w_frames, w_args, w_heap, w_applies, trivial, trivial, w_case⟩
end start1
theorem witness_1 : WitnessClaimed_1 := ⟨start1.p0, start1.e0, start1.about1, start1.theMethod, start1.args0, start1.below0, start1.atStart⟩
end Jvm.Pilot.@@N@@
