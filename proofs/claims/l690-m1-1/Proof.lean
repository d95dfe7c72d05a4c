import JvmDerived
import JvmDerived.Pilot.@@N@@Statement
import JvmDerived.Pilot.@@N@@Code
set_option linter.unusedVariables false
set_option linter.unusedSimpArgs false
namespace Jvm.OwnK
open Sem ClassFile Op Lib Jvm.Stand Jvm.Free Jvm.LawKit Jvm.RoadKit
section A
variable {p : Program} {l : Launch} {e : Env} {R : Room} {s : State} {m : MethodId} {args : Array Value} {below : List Frame} {meth : Method} {c : Code} {T : State} {Z : State} {a0 : Array Value} {h : Heap} {n0 kc ks fc fs : Nat} {Q : Option Value → Heap → Prop} {y : MethodName} {bytes : ByteArray} {maxL : Nat} {ret : Option FieldType}
/-- where the walk stands -/
def Sd (Z : State) (y : MethodName) (bytes : ByteArray) (maxL : Nat) (ret : Option FieldType) (p : Program) (l : Launch) (e : Env) (R : Room) (s : State) (m : MethodId) (args : Array Value) (below : List Frame) (meth : Method) (c : Code) (n0 : Nat) (h : Heap) (kc ks : Nat) (T : State) : Prop :=
  (p.tables.exec = Jvm.exec ∧ Z.Warmed39 s.vm ∧ c.code = bytes ∧ c.maxLocals = maxL ∧ meth.sig.returnType = ret ∧ meth.locks = false ∧ s.vm.findClass y.cls = some m.cls ∧ meth.name = y.name) ∧
  ∃ locs cells slots, Stand p l e R s m args below meth c T locs cells slots ∧ T.heap = h ∧ Fr n0 locs ∧ cells ≤ kc ∧ slots ≤ ks
/-- from t on the walk ends as Q says -/
def Run (p : Program) (e : Env) (below : List Frame) (s : State) (n0 fc fs : Nat) (Q : Option Value → Heap → Prop) (t : State) : Prop :=
  ∃ s₂ o, Steps p.tables e below t s₂ ∧ s₂.status = .running ∧ Ended s₂ below o ∧ ∃ v L, o = .returned v ∧ Q v s₂.heap ∧ Fr n0 L ∧ FrameEnd s o s₂ L fc fs
def Ctr (l : Launch) (Z : State) (y : MethodName) (bytes : ByteArray) (maxL : Nat) (ret : Option FieldType) (ws : List Cond) (rm : Room) (n0 : Nat) (as : Array Value) (h : Heap) (Q : Option Value → Heap → Prop) : Prop :=
  MetFree l y (head1 (Cond.code y bytes maxL ret :: ws) rm) (fun a U => a = as ∧ Z.Warmed39 U.vm ∧ U.heap = h) (fun _ _ _ _ _ => True) (fun _ U o U' => ∃ v L, o = .returned v ∧ (Q v U'.heap ∧ Fr n0 L) ∧ FrameEnd U o U' L rm.cells rm.slots)
/-- a value comes back -/
def Rt (Qv : Value → Heap → Prop) : Option Value → Heap → Prop := fun v h => ∃ w, v = some w ∧ Qv w h
/-- nothing comes back -/
def Rn (Qn : Heap → Prop) : Option Value → Heap → Prop := fun v h => v = none ∧ Qn h
theorem Run.st {t t' : State} (k : Run p e below s n0 fc fs Q t') (f : ∀ z, Steps p.tables e below t' z → Steps p.tables e below t z) : Run p e below s n0 fc fs Q t := by
  obtain ⟨s2, o, h1, r⟩ := k; exact ⟨s2, o, f _ h1, r⟩
theorem Run.mono {Q' : Option Value → Heap → Prop} {t : State} (k : Run p e below s n0 fc fs Q t) (f : ∀ v h, Q v h → Q' v h) : Run p e below s n0 fc fs Q' t := by
  obtain ⟨s2, o, h1, h2, h3, v, L, h4, h5, r⟩ := k; exact ⟨s2, o, h1, h2, h3, v, L, h4, f _ _ h5, r⟩
theorem Sd.hr (X : Sd Z y bytes maxL ret p l e R s m args below meth c n0 h kc ks T) : At T m c below := by obtain ⟨-, _, _, _, Y, -⟩ := X; exact Y.here
theorem Sd.d (X : Sd Z y bytes maxL ret p l e R s m args below meth c n0 h kc ks T) {pc : Nat} {r : Except DecodeError (Instr × Nat)} (q : decode bytes pc = r) : decode c.code pc = r := X.1.2.2.1 ▸ q
theorem Sd.more {kc' ks' : Nat} (X : Sd Z y bytes maxL ret p l e R s m args below meth c n0 h kc ks T) (h1 : kc ≤ kc') (h2 : ks ≤ ks') : Sd Z y bytes maxL ret p l e R s m args below meth c n0 h kc' ks' T := by
  obtain ⟨q, L, a, b, Y, r1, r2, r3, r4⟩ := X; exact ⟨q, L, a, b, Y, r1, r2, Nat.le_trans r3 h1, Nat.le_trans r4 h2⟩
theorem Ctr.of {rm : Room} {ws : List Cond} {as : Array Value} {ls0 : Array Slot} (hn : plainName y.cls = true) (hf : ∀ m, entryFrame m as maxL = mkF m 0 ls0 [])
    (body : ∀ (p : Program) (e : Env) (s : State) (m : MethodId) (below : List Frame) (meth : Method) (c : Code) (T : State), Sd Z y bytes maxL ret p l e rm s m as below meth c n0 h 0 0 T → Run p e below s n0 rm.cells rm.slots Q (T.setTop (mkF m 0 ls0 []))) : Ctr l Z y bytes maxL ret ws rm n0 as h Q := by
  refine MetFree.of_bodySF (plainFor_of_name hn) hisR ?_
  intro p e s m args below meth c s₁ Bd hml0 hP hK
  obtain ⟨rfl, hZ, hh⟩ := hP
  have X0 : Stand p l e rm s m args below meth c s₁ [] 0 0 := Stand.of_body Bd
  have e0 : s₁.heap = h := by rw [← hh, Bd.state]; rfl
  obtain ⟨s2, o, h1, h2, h3, v, L, h4, h5, h6, h7⟩ := body p e s m below meth c s₁ ⟨⟨Bd.exec, hZ, Bd.bytes, hml0, Bd.returns, Bd.notSynchronized, findClass_of_methodNamed Bd.named, (name_of_methodNamed Bd.named Bd.method).1⟩, [], 0, 0, X0, e0, Fr.nil _, Nat.le_refl _, Nat.le_refl _⟩
  exact ⟨s2, o, castTop (hf m) h1, h2, h3, v, L, h4, ⟨h5, h6⟩, h7⟩
theorem leaveQ (X : Sd Z y bytes maxL ret p l e R s m args below meth c n0 h kc ks T) {v : Option Value} (hv : ret = none → v = none) (hq : Q v h) (h1 : kc ≤ fc) (h2 : ks ≤ fs) {t : State}
    (st : ∀ {locs cells slots}, Stand p l e R s m args below meth c T locs cells slots → ∀ {ff : List Frame}, (∀ (f : JFrame) (acts : List Action), f.method = m → f.locked = none → f.entered = [] → (doReturn e (T.setTop f) acts v).1 = T.setFrames ff) → Steps p.tables e below t (T.setFrames ff)) : Run p e below s n0 fc fs Q t := by
  obtain ⟨⟨hx, hZ, hby, hml, hr, hlk, -⟩, L, a, b, Y, r1, r2, r3, r4⟩ := X
  obtain ⟨ff, g1, hrun, hended, hW, hsame⟩ := Y.leave (v := v) (fun q => hv (hr ▸ q)) hlk
  exact ⟨_, _, st Y g1, hrun, hended, v, L, rfl, by show Q v T.heap; rw [r1]; exact hq, r2, ⟨_, rfl⟩, hW, hsame.mono (Nat.le_trans r3 h1) (Nat.le_trans r4 h2)⟩
theorem areturn (X : Sd Z y bytes maxL ret p l e R s m args below meth c n0 h kc ks T) {t : FieldType} (hr : ret = some t) (ht : t.isReference = true) {pc : Nat} {ls : Array Slot} {w : Value} {st : List Value} (hw : w.isRef = true) (hd : decode bytes pc = .ok (.areturn, 1)) {Qv : Value → Heap → Prop} (hq : Qv w h) (h1 : kc ≤ fc) (h2 : ks ≤ fs) : Run p e below s n0 fc fs (Rt Qv) (T.setTop (mkF m pc ls (w :: st))) := by
  subst hr
  have hn : narrow t w = w := by cases w <;> cases t <;> first | rfl | exact absurd hw Bool.noConfusion | exact absurd ht Bool.noConfusion
  exact leaveQ X (v := some w) (fun q => by cases q) ⟨w, rfl, hq⟩ h1 h2 fun Y _ g => retOut Y X.1.1 X.1.2.2.2.2.1 hn (Or.inr (Or.inr (Or.inr (Or.inr ⟨rfl, ht, hw⟩)))) (X.d hd) g
theorem ireturn (X : Sd Z y bytes maxL ret p l e R s m args below meth c n0 h kc ks T) {t : FieldType} (hr : ret = some t) (ht : t = .int ∨ t = .boolean ∨ t = .byte ∨ t = .char ∨ t = .short) {pc : Nat} {ls : Array Slot} {z : Int32} {st : List Value} (hn : narrow t (.int z) = .int z) (hd : decode bytes pc = .ok (.ireturn, 1)) {Qv : Value → Heap → Prop} (hq : Qv (.int z) h) (h1 : kc ≤ fc) (h2 : ks ≤ fs) : Run p e below s n0 fc fs (Rt Qv) (T.setTop (mkF m pc ls (.int z :: st))) := by
  subst hr
  exact leaveQ X (v := some (.int z)) (fun q => by cases q) ⟨_, rfl, hq⟩ h1 h2 fun Y _ g => retOut Y X.1.1 X.1.2.2.2.2.1 hn (Or.inl ⟨rfl, ht, z, rfl⟩) (X.d hd) g
theorem lreturn (X : Sd Z y bytes maxL ret p l e R s m args below meth c n0 h kc ks T) (hr : ret = some .long) {pc : Nat} {ls : Array Slot} {z : Int64} {st : List Value} (hd : decode bytes pc = .ok (.lreturn, 1)) {Qv : Value → Heap → Prop} (hq : Qv (.long z) h) (h1 : kc ≤ fc) (h2 : ks ≤ fs) : Run p e below s n0 fc fs (Rt Qv) (T.setTop (mkF m pc ls (.long z :: st))) := by
  subst hr
  exact leaveQ X (v := some (.long z)) (fun q => by cases q) ⟨_, rfl, hq⟩ h1 h2 fun Y _ g => retOut Y X.1.1 X.1.2.2.2.2.1 rfl (Or.inr (Or.inl ⟨rfl, rfl, z, rfl⟩)) (X.d hd) g
theorem vreturn (X : Sd Z y bytes maxL ret p l e R s m args below meth c n0 h kc ks T) (hr : ret = none) {pc : Nat} {ls : Array Slot} (hd : decode bytes pc = .ok (.return_, 1)) {Qn : Heap → Prop} (hq : Qn h) (h1 : kc ≤ fc) (h2 : ks ≤ fs) : Run p e below s n0 fc fs (Rn Qn) (T.setTop (mkF m pc ls [])) := by
  subst hr
  exact leaveQ X (v := none) (fun _ => rfl) ⟨rfl, hq⟩ h1 h2 fun Y _ g => Y.returnOut X.1.1 X.1.2.2.2.2.1 (X.d hd) g
theorem narB {b : Bool} : narrow .boolean (.int (if b then 1 else 0)) = .int (if b then 1 else 0) := by cases b <;> rfl

theorem iloadN (X : Sd Z y bytes maxL ret p l e R s m args below meth c n0 h kc ks T) {pc n : Nat} {ls : Array Slot} {st : List Value} {k : Fin 4} {v : Int32} (hd : decode bytes pc = .ok (.iload_n k, 1)) (hl : ls[k.val]? = some (.val (.int v))) (hn : pc + 1 = n) (K : Run p e below s n0 fc fs Q (T.setTop (mkF m n ls (.int v :: st)))) : Run p e below s n0 fc fs Q (T.setTop (mkF m pc ls st)) := by
  subst hn; exact K.st fun _ k => XS.iloadN X.hr X.1.1 rfl (X.d hd) hl k
theorem iload (X : Sd Z y bytes maxL ret p l e R s m args below meth c n0 h kc ks T) {pc n : Nat} {ls : Array Slot} {st : List Value} {j : Nat} {v : Int32} (hd : decode bytes pc = .ok (.iload j, 2)) (hl : ls[j]? = some (.val (.int v))) (hn : pc + 2 = n) (K : Run p e below s n0 fc fs Q (T.setTop (mkF m n ls (.int v :: st)))) : Run p e below s n0 fc fs Q (T.setTop (mkF m pc ls st)) := by
  subst hn; exact K.st fun _ k => XS.iload X.hr X.1.1 rfl (X.d hd) hl k
theorem istoreN (X : Sd Z y bytes maxL ret p l e R s m args below meth c n0 h kc ks T) {pc n : Nat} {ls : Array Slot} {st : List Value} {k : Fin 4} {v : Int32} {l' : Array Slot} (hd : decode bytes pc = .ok (.istore_n k, 1)) (hl : storeLocals ls k.val (.int v) = some l') (hn : pc + 1 = n) (K : Run p e below s n0 fc fs Q (T.setTop (mkF m n l' st))) : Run p e below s n0 fc fs Q (T.setTop (mkF m pc ls (.int v :: st))) := by
  subst hn; exact K.st fun _ k => XS.istoreN X.hr X.1.1 rfl (X.d hd) rfl hl k
theorem istore (X : Sd Z y bytes maxL ret p l e R s m args below meth c n0 h kc ks T) {pc n : Nat} {ls : Array Slot} {st : List Value} {j : Nat} {v : Int32} {l' : Array Slot} (hd : decode bytes pc = .ok (.istore j, 2)) (hl : storeLocals ls j (.int v) = some l') (hn : pc + 2 = n) (K : Run p e below s n0 fc fs Q (T.setTop (mkF m n l' st))) : Run p e below s n0 fc fs Q (T.setTop (mkF m pc ls (.int v :: st))) := by
  subst hn; exact K.st fun _ k => XS.istore X.hr X.1.1 rfl (X.d hd) rfl hl k
theorem lloadN (X : Sd Z y bytes maxL ret p l e R s m args below meth c n0 h kc ks T) {pc n : Nat} {ls : Array Slot} {st : List Value} {k : Fin 4} {v : Int64} (hd : decode bytes pc = .ok (.lload_n k, 1)) (hl : ls[k.val]? = some (.val (.long v))) (hn : pc + 1 = n) (K : Run p e below s n0 fc fs Q (T.setTop (mkF m n ls (.long v :: st)))) : Run p e below s n0 fc fs Q (T.setTop (mkF m pc ls st)) := by
  subst hn; exact K.st fun _ k => XS.lloadN X.hr X.1.1 rfl (X.d hd) hl k
theorem lload (X : Sd Z y bytes maxL ret p l e R s m args below meth c n0 h kc ks T) {pc n : Nat} {ls : Array Slot} {st : List Value} {j : Nat} {v : Int64} (hd : decode bytes pc = .ok (.lload j, 2)) (hl : ls[j]? = some (.val (.long v))) (hn : pc + 2 = n) (K : Run p e below s n0 fc fs Q (T.setTop (mkF m n ls (.long v :: st)))) : Run p e below s n0 fc fs Q (T.setTop (mkF m pc ls st)) := by
  subst hn; exact K.st fun _ k => XS.lload X.hr X.1.1 rfl (X.d hd) hl k
theorem lstoreN (X : Sd Z y bytes maxL ret p l e R s m args below meth c n0 h kc ks T) {pc n : Nat} {ls : Array Slot} {st : List Value} {k : Fin 4} {v : Int64} {l' : Array Slot} (hd : decode bytes pc = .ok (.lstore_n k, 1)) (hl : storeLocals ls k.val (.long v) = some l') (hn : pc + 1 = n) (K : Run p e below s n0 fc fs Q (T.setTop (mkF m n l' st))) : Run p e below s n0 fc fs Q (T.setTop (mkF m pc ls (.long v :: st))) := by
  subst hn; exact K.st fun _ k => XS.lstoreN X.hr X.1.1 rfl (X.d hd) rfl hl k
theorem lstore (X : Sd Z y bytes maxL ret p l e R s m args below meth c n0 h kc ks T) {pc n : Nat} {ls : Array Slot} {st : List Value} {j : Nat} {v : Int64} {l' : Array Slot} (hd : decode bytes pc = .ok (.lstore j, 2)) (hl : storeLocals ls j (.long v) = some l') (hn : pc + 2 = n) (K : Run p e below s n0 fc fs Q (T.setTop (mkF m n l' st))) : Run p e below s n0 fc fs Q (T.setTop (mkF m pc ls (.long v :: st))) := by
  subst hn; exact K.st fun _ k => XS.lstore X.hr X.1.1 rfl (X.d hd) rfl hl k
theorem aloadN (X : Sd Z y bytes maxL ret p l e R s m args below meth c n0 h kc ks T) {pc n : Nat} {ls : Array Slot} {st : List Value} {k : Fin 4} {v : Value} (hd : decode bytes pc = .ok (.aload_n k, 1)) (hl : ls[k.val]? = some (.val v)) (hv : v.isRef = true) (hn : pc + 1 = n) (K : Run p e below s n0 fc fs Q (T.setTop (mkF m n ls (v :: st)))) : Run p e below s n0 fc fs Q (T.setTop (mkF m pc ls st)) := by
  subst hn; exact K.st fun _ k => XS.aloadN X.hr X.1.1 rfl (X.d hd) hl hv k
theorem aload (X : Sd Z y bytes maxL ret p l e R s m args below meth c n0 h kc ks T) {pc n : Nat} {ls : Array Slot} {st : List Value} {j : Nat} {v : Value} (hd : decode bytes pc = .ok (.aload j, 2)) (hl : ls[j]? = some (.val v)) (hv : v.isRef = true) (hn : pc + 2 = n) (K : Run p e below s n0 fc fs Q (T.setTop (mkF m n ls (v :: st)))) : Run p e below s n0 fc fs Q (T.setTop (mkF m pc ls st)) := by
  subst hn; exact K.st fun _ k => XS.aload X.hr X.1.1 rfl (X.d hd) hl hv k
theorem astoreN (X : Sd Z y bytes maxL ret p l e R s m args below meth c n0 h kc ks T) {pc n : Nat} {ls : Array Slot} {st : List Value} {k : Fin 4} {v : Value} {l' : Array Slot} (hd : decode bytes pc = .ok (.astore_n k, 1)) (hv : v.isRef = true) (hl : storeLocals ls k.val v = some l') (hn : pc + 1 = n) (K : Run p e below s n0 fc fs Q (T.setTop (mkF m n l' st))) : Run p e below s n0 fc fs Q (T.setTop (mkF m pc ls (v :: st))) := by
  subst hn; exact K.st fun _ k => XS.astoreN X.hr X.1.1 rfl (X.d hd) rfl hv hl k
theorem astore (X : Sd Z y bytes maxL ret p l e R s m args below meth c n0 h kc ks T) {pc n : Nat} {ls : Array Slot} {st : List Value} {j : Nat} {v : Value} {l' : Array Slot} (hd : decode bytes pc = .ok (.astore j, 2)) (hv : v.isRef = true) (hl : storeLocals ls j v = some l') (hn : pc + 2 = n) (K : Run p e below s n0 fc fs Q (T.setTop (mkF m n l' st))) : Run p e below s n0 fc fs Q (T.setTop (mkF m pc ls (v :: st))) := by
  subst hn; exact K.st fun _ k => XS.astore X.hr X.1.1 rfl (X.d hd) rfl hv hl k
theorem iconst (X : Sd Z y bytes maxL ret p l e R s m args below meth c n0 h kc ks T) {pc n : Nat} {ls : Array Slot} {st : List Value} {i : Int} {z : Int32} (hd : decode bytes pc = .ok (.iconst i, 1)) (hz : Int32.ofInt i = z) (hn : pc + 1 = n) (K : Run p e below s n0 fc fs Q (T.setTop (mkF m n ls (.int z :: st)))) : Run p e below s n0 fc fs Q (T.setTop (mkF m pc ls st)) := by
  subst hn hz; exact K.st fun _ k => XS.iconst X.hr X.1.1 rfl (X.d hd) k
theorem bipush (X : Sd Z y bytes maxL ret p l e R s m args below meth c n0 h kc ks T) {pc n : Nat} {ls : Array Slot} {st : List Value} {i : Int} {z : Int32} (hd : decode bytes pc = .ok (.bipush i, 2)) (hz : (Int8.ofInt i).toInt32 = z) (hn : pc + 2 = n) (K : Run p e below s n0 fc fs Q (T.setTop (mkF m n ls (.int z :: st)))) : Run p e below s n0 fc fs Q (T.setTop (mkF m pc ls st)) := by
  subst hn hz; exact K.st fun _ k => XS.bipush X.hr X.1.1 rfl (X.d hd) k
theorem sipush (X : Sd Z y bytes maxL ret p l e R s m args below meth c n0 h kc ks T) {pc n : Nat} {ls : Array Slot} {st : List Value} {i : Int} {z : Int32} (hd : decode bytes pc = .ok (.sipush i, 3)) (hz : (Int16.ofInt i).toInt32 = z) (hn : pc + 3 = n) (K : Run p e below s n0 fc fs Q (T.setTop (mkF m n ls (.int z :: st)))) : Run p e below s n0 fc fs Q (T.setTop (mkF m pc ls st)) := by
  subst hn hz; exact K.st fun _ k => XS.sipush X.hr X.1.1 rfl (X.d hd) k
theorem anull (X : Sd Z y bytes maxL ret p l e R s m args below meth c n0 h kc ks T) {pc n : Nat} {ls : Array Slot} {st : List Value}  (hd : decode bytes pc = .ok (.aconst_null, 1)) (hn : pc + 1 = n) (K : Run p e below s n0 fc fs Q (T.setTop (mkF m n ls (.null :: st)))) : Run p e below s n0 fc fs Q (T.setTop (mkF m pc ls st)) := by
  subst hn; exact K.st fun _ k => XS.aconstNull X.hr X.1.1 rfl (X.d hd) k
theorem iadd (X : Sd Z y bytes maxL ret p l e R s m args below meth c n0 h kc ks T) {pc n : Nat} {ls : Array Slot} {st : List Value} {u v : Int32} (hd : decode bytes pc = .ok (.iadd, 1)) (hn : pc + 1 = n) (K : Run p e below s n0 fc fs Q (T.setTop (mkF m n ls (.int (u + v) :: st)))) : Run p e below s n0 fc fs Q (T.setTop (mkF m pc ls (.int v :: .int u :: st))) := by
  subst hn; exact K.st fun _ k => XS.iadd X.hr X.1.1 rfl (X.d hd) rfl k
theorem ladd (X : Sd Z y bytes maxL ret p l e R s m args below meth c n0 h kc ks T) {pc n : Nat} {ls : Array Slot} {st : List Value} {u v : Int64} (hd : decode bytes pc = .ok (.ladd, 1)) (hn : pc + 1 = n) (K : Run p e below s n0 fc fs Q (T.setTop (mkF m n ls (.long (u + v) :: st)))) : Run p e below s n0 fc fs Q (T.setTop (mkF m pc ls (.long v :: .long u :: st))) := by
  subst hn; exact K.st fun _ k => XS.ladd X.hr X.1.1 rfl (X.d hd) rfl k
theorem isub (X : Sd Z y bytes maxL ret p l e R s m args below meth c n0 h kc ks T) {pc n : Nat} {ls : Array Slot} {st : List Value} {u v : Int32} (hd : decode bytes pc = .ok (.isub, 1)) (hn : pc + 1 = n) (K : Run p e below s n0 fc fs Q (T.setTop (mkF m n ls (.int (u - v) :: st)))) : Run p e below s n0 fc fs Q (T.setTop (mkF m pc ls (.int v :: .int u :: st))) := by
  subst hn; exact K.st fun _ k => XS.isub X.hr X.1.1 rfl (X.d hd) rfl k
theorem lsub (X : Sd Z y bytes maxL ret p l e R s m args below meth c n0 h kc ks T) {pc n : Nat} {ls : Array Slot} {st : List Value} {u v : Int64} (hd : decode bytes pc = .ok (.lsub, 1)) (hn : pc + 1 = n) (K : Run p e below s n0 fc fs Q (T.setTop (mkF m n ls (.long (u - v) :: st)))) : Run p e below s n0 fc fs Q (T.setTop (mkF m pc ls (.long v :: .long u :: st))) := by
  subst hn; exact K.st fun _ k => XS.lsub X.hr X.1.1 rfl (X.d hd) rfl k
theorem imul (X : Sd Z y bytes maxL ret p l e R s m args below meth c n0 h kc ks T) {pc n : Nat} {ls : Array Slot} {st : List Value} {u v : Int32} (hd : decode bytes pc = .ok (.imul, 1)) (hn : pc + 1 = n) (K : Run p e below s n0 fc fs Q (T.setTop (mkF m n ls (.int (u * v) :: st)))) : Run p e below s n0 fc fs Q (T.setTop (mkF m pc ls (.int v :: .int u :: st))) := by
  subst hn; exact K.st fun _ k => XS.imul X.hr X.1.1 rfl (X.d hd) rfl k
theorem lmul (X : Sd Z y bytes maxL ret p l e R s m args below meth c n0 h kc ks T) {pc n : Nat} {ls : Array Slot} {st : List Value} {u v : Int64} (hd : decode bytes pc = .ok (.lmul, 1)) (hn : pc + 1 = n) (K : Run p e below s n0 fc fs Q (T.setTop (mkF m n ls (.long (u * v) :: st)))) : Run p e below s n0 fc fs Q (T.setTop (mkF m pc ls (.long v :: .long u :: st))) := by
  subst hn; exact K.st fun _ k => XS.lmul X.hr X.1.1 rfl (X.d hd) rfl k
theorem iand (X : Sd Z y bytes maxL ret p l e R s m args below meth c n0 h kc ks T) {pc n : Nat} {ls : Array Slot} {st : List Value} {u v : Int32} (hd : decode bytes pc = .ok (.iand, 1)) (hn : pc + 1 = n) (K : Run p e below s n0 fc fs Q (T.setTop (mkF m n ls (.int (u &&& v) :: st)))) : Run p e below s n0 fc fs Q (T.setTop (mkF m pc ls (.int v :: .int u :: st))) := by
  subst hn; exact K.st fun _ k => XS.iand X.hr X.1.1 rfl (X.d hd) rfl k
theorem land (X : Sd Z y bytes maxL ret p l e R s m args below meth c n0 h kc ks T) {pc n : Nat} {ls : Array Slot} {st : List Value} {u v : Int64} (hd : decode bytes pc = .ok (.land, 1)) (hn : pc + 1 = n) (K : Run p e below s n0 fc fs Q (T.setTop (mkF m n ls (.long (u &&& v) :: st)))) : Run p e below s n0 fc fs Q (T.setTop (mkF m pc ls (.long v :: .long u :: st))) := by
  subst hn; exact K.st fun _ k => XS.land X.hr X.1.1 rfl (X.d hd) rfl k
theorem ior (X : Sd Z y bytes maxL ret p l e R s m args below meth c n0 h kc ks T) {pc n : Nat} {ls : Array Slot} {st : List Value} {u v : Int32} (hd : decode bytes pc = .ok (.ior, 1)) (hn : pc + 1 = n) (K : Run p e below s n0 fc fs Q (T.setTop (mkF m n ls (.int (u ||| v) :: st)))) : Run p e below s n0 fc fs Q (T.setTop (mkF m pc ls (.int v :: .int u :: st))) := by
  subst hn; exact K.st fun _ k => XS.ior X.hr X.1.1 rfl (X.d hd) rfl k
theorem lor (X : Sd Z y bytes maxL ret p l e R s m args below meth c n0 h kc ks T) {pc n : Nat} {ls : Array Slot} {st : List Value} {u v : Int64} (hd : decode bytes pc = .ok (.lor, 1)) (hn : pc + 1 = n) (K : Run p e below s n0 fc fs Q (T.setTop (mkF m n ls (.long (u ||| v) :: st)))) : Run p e below s n0 fc fs Q (T.setTop (mkF m pc ls (.long v :: .long u :: st))) := by
  subst hn; exact K.st fun _ k => XS.lor X.hr X.1.1 rfl (X.d hd) rfl k
theorem ixor (X : Sd Z y bytes maxL ret p l e R s m args below meth c n0 h kc ks T) {pc n : Nat} {ls : Array Slot} {st : List Value} {u v : Int32} (hd : decode bytes pc = .ok (.ixor, 1)) (hn : pc + 1 = n) (K : Run p e below s n0 fc fs Q (T.setTop (mkF m n ls (.int (u ^^^ v) :: st)))) : Run p e below s n0 fc fs Q (T.setTop (mkF m pc ls (.int v :: .int u :: st))) := by
  subst hn; exact K.st fun _ k => XS.ixor X.hr X.1.1 rfl (X.d hd) rfl k
theorem lxor (X : Sd Z y bytes maxL ret p l e R s m args below meth c n0 h kc ks T) {pc n : Nat} {ls : Array Slot} {st : List Value} {u v : Int64} (hd : decode bytes pc = .ok (.lxor, 1)) (hn : pc + 1 = n) (K : Run p e below s n0 fc fs Q (T.setTop (mkF m n ls (.long (u ^^^ v) :: st)))) : Run p e below s n0 fc fs Q (T.setTop (mkF m pc ls (.long v :: .long u :: st))) := by
  subst hn; exact K.st fun _ k => XS.lxor X.hr X.1.1 rfl (X.d hd) rfl k
theorem ishl (X : Sd Z y bytes maxL ret p l e R s m args below meth c n0 h kc ks T) {pc n : Nat} {ls : Array Slot} {st : List Value} {u v : Int32} (hd : decode bytes pc = .ok (.ishl, 1)) (hn : pc + 1 = n) (K : Run p e below s n0 fc fs Q (T.setTop (mkF m n ls (.int (u <<< (v &&& 31)) :: st)))) : Run p e below s n0 fc fs Q (T.setTop (mkF m pc ls (.int v :: .int u :: st))) := by
  subst hn; exact K.st fun _ k => XS.ishl X.hr X.1.1 rfl (X.d hd) rfl k
theorem ishr (X : Sd Z y bytes maxL ret p l e R s m args below meth c n0 h kc ks T) {pc n : Nat} {ls : Array Slot} {st : List Value} {u v : Int32} (hd : decode bytes pc = .ok (.ishr, 1)) (hn : pc + 1 = n) (K : Run p e below s n0 fc fs Q (T.setTop (mkF m n ls (.int (u >>> (v &&& 31)) :: st)))) : Run p e below s n0 fc fs Q (T.setTop (mkF m pc ls (.int v :: .int u :: st))) := by
  subst hn; exact K.st fun _ k => XS.ishr X.hr X.1.1 rfl (X.d hd) rfl k
theorem iushr (X : Sd Z y bytes maxL ret p l e R s m args below meth c n0 h kc ks T) {pc n : Nat} {ls : Array Slot} {st : List Value} {u v : Int32} (hd : decode bytes pc = .ok (.iushr, 1)) (hn : pc + 1 = n) (K : Run p e below s n0 fc fs Q (T.setTop (mkF m n ls (.int ((u.toUInt32 >>> (v &&& 31).toUInt32).toInt32) :: st)))) : Run p e below s n0 fc fs Q (T.setTop (mkF m pc ls (.int v :: .int u :: st))) := by
  subst hn; exact K.st fun _ k => XS.iushr X.hr X.1.1 rfl (X.d hd) rfl k
theorem lshl (X : Sd Z y bytes maxL ret p l e R s m args below meth c n0 h kc ks T) {pc n : Nat} {ls : Array Slot} {st : List Value} {u : Int64} {v : Int32} (hd : decode bytes pc = .ok (.lshl, 1)) (hn : pc + 1 = n) (K : Run p e below s n0 fc fs Q (T.setTop (mkF m n ls (.long (u <<< (v &&& 0x3f).toInt64) :: st)))) : Run p e below s n0 fc fs Q (T.setTop (mkF m pc ls (.int v :: .long u :: st))) := by
  subst hn; exact K.st fun _ k => XS.lshl X.hr X.1.1 rfl (X.d hd) rfl k
theorem lshr (X : Sd Z y bytes maxL ret p l e R s m args below meth c n0 h kc ks T) {pc n : Nat} {ls : Array Slot} {st : List Value} {u : Int64} {v : Int32} (hd : decode bytes pc = .ok (.lshr, 1)) (hn : pc + 1 = n) (K : Run p e below s n0 fc fs Q (T.setTop (mkF m n ls (.long (u >>> (v &&& 0x3f).toInt64) :: st)))) : Run p e below s n0 fc fs Q (T.setTop (mkF m pc ls (.int v :: .long u :: st))) := by
  subst hn; exact K.st fun _ k => XS.lshr X.hr X.1.1 rfl (X.d hd) rfl k
theorem lushr (X : Sd Z y bytes maxL ret p l e R s m args below meth c n0 h kc ks T) {pc n : Nat} {ls : Array Slot} {st : List Value} {u : Int64} {v : Int32} (hd : decode bytes pc = .ok (.lushr, 1)) (hn : pc + 1 = n) (K : Run p e below s n0 fc fs Q (T.setTop (mkF m n ls (.long ((u.toUInt64 >>> (v &&& 0x3f).toInt64.toUInt64).toInt64) :: st)))) : Run p e below s n0 fc fs Q (T.setTop (mkF m pc ls (.int v :: .long u :: st))) := by
  subst hn; exact K.st fun _ k => XS.lushr X.hr X.1.1 rfl (X.d hd) rfl k
theorem ineg (X : Sd Z y bytes maxL ret p l e R s m args below meth c n0 h kc ks T) {pc n : Nat} {ls : Array Slot} {st : List Value} {u : Int32} (hd : decode bytes pc = .ok (.ineg, 1)) (hn : pc + 1 = n) (K : Run p e below s n0 fc fs Q (T.setTop (mkF m n ls (.int (-u) :: st)))) : Run p e below s n0 fc fs Q (T.setTop (mkF m pc ls (.int u :: st))) := by
  subst hn; exact K.st fun _ k => XS.ineg X.hr X.1.1 rfl (X.d hd) rfl k
theorem i2l (X : Sd Z y bytes maxL ret p l e R s m args below meth c n0 h kc ks T) {pc n : Nat} {ls : Array Slot} {st : List Value} {u : Int32} (hd : decode bytes pc = .ok (.i2l, 1)) (hn : pc + 1 = n) (K : Run p e below s n0 fc fs Q (T.setTop (mkF m n ls (.long u.toInt64 :: st)))) : Run p e below s n0 fc fs Q (T.setTop (mkF m pc ls (.int u :: st))) := by
  subst hn; exact K.st fun _ k => XS.i2l X.hr X.1.1 rfl (X.d hd) rfl k
theorem l2i (X : Sd Z y bytes maxL ret p l e R s m args below meth c n0 h kc ks T) {pc n : Nat} {ls : Array Slot} {st : List Value} {u : Int64} (hd : decode bytes pc = .ok (.l2i, 1)) (hn : pc + 1 = n) (K : Run p e below s n0 fc fs Q (T.setTop (mkF m n ls (.int u.toInt32 :: st)))) : Run p e below s n0 fc fs Q (T.setTop (mkF m pc ls (.long u :: st))) := by
  subst hn; exact K.st fun _ k => XS.l2i X.hr X.1.1 rfl (X.d hd) rfl k
theorem i2b (X : Sd Z y bytes maxL ret p l e R s m args below meth c n0 h kc ks T) {pc n : Nat} {ls : Array Slot} {st : List Value} {u : Int32} (hd : decode bytes pc = .ok (.i2b, 1)) (hn : pc + 1 = n) (K : Run p e below s n0 fc fs Q (T.setTop (mkF m n ls (.int u.toInt8.toInt32 :: st)))) : Run p e below s n0 fc fs Q (T.setTop (mkF m pc ls (.int u :: st))) := by
  subst hn; exact K.st fun _ k => XS.i2b X.hr X.1.1 rfl (X.d hd) rfl k
theorem i2s (X : Sd Z y bytes maxL ret p l e R s m args below meth c n0 h kc ks T) {pc n : Nat} {ls : Array Slot} {st : List Value} {u : Int32} (hd : decode bytes pc = .ok (.i2s, 1)) (hn : pc + 1 = n) (K : Run p e below s n0 fc fs Q (T.setTop (mkF m n ls (.int u.toInt16.toInt32 :: st)))) : Run p e below s n0 fc fs Q (T.setTop (mkF m pc ls (.int u :: st))) := by
  subst hn; exact K.st fun _ k => XS.i2s X.hr X.1.1 rfl (X.d hd) rfl k
theorem i2c (X : Sd Z y bytes maxL ret p l e R s m args below meth c n0 h kc ks T) {pc n : Nat} {ls : Array Slot} {st : List Value} {u : Int32} (hd : decode bytes pc = .ok (.i2c, 1)) (hn : pc + 1 = n) (K : Run p e below s n0 fc fs Q (T.setTop (mkF m n ls (.int u.toUInt32.toUInt16.toUInt32.toInt32 :: st)))) : Run p e below s n0 fc fs Q (T.setTop (mkF m pc ls (.int u :: st))) := by
  subst hn; exact K.st fun _ k => XS.i2c X.hr X.1.1 rfl (X.d hd) rfl k
theorem lcmp (X : Sd Z y bytes maxL ret p l e R s m args below meth c n0 h kc ks T) {pc n : Nat} {ls : Array Slot} {st : List Value} {u v : Int64} (hd : decode bytes pc = .ok (.lcmp, 1)) (hn : pc + 1 = n) (K : Run p e below s n0 fc fs Q (T.setTop (mkF m n ls (.int (lcmpW u v) :: st)))) : Run p e below s n0 fc fs Q (T.setTop (mkF m pc ls (.long v :: .long u :: st))) := by
  subst hn; exact K.st fun _ k => XS.lcmp X.hr X.1.1 rfl (X.d hd) rfl k
theorem lconst (X : Sd Z y bytes maxL ret p l e R s m args below meth c n0 h kc ks T) {pc n : Nat} {ls : Array Slot} {st : List Value} {k : Fin 2} {z : Int64} (hd : decode bytes pc = .ok (.lconst k, 1)) (hz : Int64.ofNat k.val = z) (hn : pc + 1 = n) (K : Run p e below s n0 fc fs Q (T.setTop (mkF m n ls (.long z :: st)))) : Run p e below s n0 fc fs Q (T.setTop (mkF m pc ls st)) := by
  subst hn hz; exact K.st fun _ k => XS.lconst X.hr X.1.1 rfl (X.d hd) k
theorem irem (X : Sd Z y bytes maxL ret p l e R s m args below meth c n0 h kc ks T) {pc n : Nat} {ls : Array Slot} {st : List Value} {u v : Int32} (hd : decode bytes pc = .ok (.irem, 1)) (hv : v ≠ 0) (hn : pc + 1 = n) (K : Run p e below s n0 fc fs Q (T.setTop (mkF m n ls (.int (u % v) :: st)))) : Run p e below s n0 fc fs Q (T.setTop (mkF m pc ls (.int v :: .int u :: st))) := by
  subst hn; obtain ⟨q, L, a, b, Y, -⟩ := X; exact K.st fun _ k => iremM Y q.1 rfl (q.2.2.1 ▸ hd) rfl hv k
theorem idiv (X : Sd Z y bytes maxL ret p l e R s m args below meth c n0 h kc ks T) {pc n : Nat} {ls : Array Slot} {st : List Value} {u v : Int32} (hd : decode bytes pc = .ok (.idiv, 1)) (hv : v ≠ 0) (hn : pc + 1 = n) (K : Run p e below s n0 fc fs Q (T.setTop (mkF m n ls (.int (u / v) :: st)))) : Run p e below s n0 fc fs Q (T.setTop (mkF m pc ls (.int v :: .int u :: st))) := by
  subst hn; exact K.st fun _ k => XS.idiv X.hr X.1.1 rfl (X.d hd) rfl hv k
theorem dup (X : Sd Z y bytes maxL ret p l e R s m args below meth c n0 h kc ks T) {pc n : Nat} {ls : Array Slot} {st : List Value} {v : Value} (hd : decode bytes pc = .ok (.dup, 1)) (hc : v.category = 1) (hn : pc + 1 = n) (K : Run p e below s n0 fc fs Q (T.setTop (mkF m n ls (v :: v :: st)))) : Run p e below s n0 fc fs Q (T.setTop (mkF m pc ls (v :: st))) := by
  subst hn; exact K.st fun _ k => XS.dup X.hr X.1.1 rfl (X.d hd) rfl hc k
theorem pop (X : Sd Z y bytes maxL ret p l e R s m args below meth c n0 h kc ks T) {pc n : Nat} {ls : Array Slot} {st : List Value} {v : Value} (hd : decode bytes pc = .ok (.pop, 1)) (hc : v.category = 1) (hn : pc + 1 = n) (K : Run p e below s n0 fc fs Q (T.setTop (mkF m n ls st))) : Run p e below s n0 fc fs Q (T.setTop (mkF m pc ls (v :: st))) := by
  subst hn; exact K.st fun _ k => XS.pop X.hr X.1.1 rfl (X.d hd) rfl hc k
theorem dupX1 (X : Sd Z y bytes maxL ret p l e R s m args below meth c n0 h kc ks T) {pc n : Nat} {ls : Array Slot} {st : List Value} {u v : Value} (hd : decode bytes pc = .ok (.dup_x1, 1)) (hc : u.category = 1) (hc' : v.category = 1) (hn : pc + 1 = n) (K : Run p e below s n0 fc fs Q (T.setTop (mkF m n ls (u :: v :: u :: st)))) : Run p e below s n0 fc fs Q (T.setTop (mkF m pc ls (u :: v :: st))) := by
  subst hn; exact K.st fun _ k => XS.dupX1 X.hr X.1.1 rfl (X.d hd) rfl hc hc' k
theorem iinc (X : Sd Z y bytes maxL ret p l e R s m args below meth c n0 h kc ks T) {pc n j : Nat} {ls l' : Array Slot} {st : List Value} {i : Int} {z v : Int32} (hd : decode bytes pc = .ok (.iinc j i, 3)) (hz : Int32.ofInt i = z) (hl : ls[j]? = some (.val (.int v))) (hl' : storeLocals ls j (.int (v + z)) = some l') (hn : pc + 3 = n) (K : Run p e below s n0 fc fs Q (T.setTop (mkF m n l' st))) : Run p e below s n0 fc fs Q (T.setTop (mkF m pc ls st)) := by
  subst hn hz; exact K.st fun _ k => XS.iinc X.hr X.1.1 rfl (X.d hd) hl hl' k
theorem goto (X : Sd Z y bytes maxL ret p l e R s m args below meth c n0 h kc ks T) {pc n : Nat} {ls : Array Slot} {st : List Value} {o : Int} (hd : decode bytes pc = .ok (.goto o, 3)) (ho : 0 ≤ (pc : Int) + o) (hn : ((pc : Int) + o).toNat = n) (K : Run p e below s n0 fc fs Q (T.setTop (mkF m n ls st))) : Run p e below s n0 fc fs Q (T.setTop (mkF m pc ls st)) := K.st fun _ k => XS.goto X.hr X.1.1 rfl rfl (X.d hd) ho hn k
theorem ldc (X : Sd Z y bytes maxL ret p l e R s m args below meth c n0 h kc ks T) {pc n index : Nat} {ls : Array Slot} {st : List Value} {v : Int32} (hd : decode bytes pc = .ok (.ldc index, 2)) (w : (Cond.constant y.cls index v).before a0 Z = true) (hn : pc + 2 = n) (K : Run p e below s n0 fc fs Q (T.setTop (mkF m n ls (.int v :: st)))) : Run p e below s n0 fc fs Q (T.setTop (mkF m pc ls st)) := by
  subst hn; obtain ⟨q, L, i, j, Y, -⟩ := X; exact K.st fun _ k => Y.ldcInt q.1 q.2.2.2.2.2.2.1 (mvT q.2.1 w) (g := mkF m pc ls st) rfl (q.2.2.1 ▸ hd) _ k
theorem ldc2 (X : Sd Z y bytes maxL ret p l e R s m args below meth c n0 h kc ks T) {pc n index : Nat} {ls : Array Slot} {st : List Value} {v : Int64} (hd : decode bytes pc = .ok (.ldc2_w index, 3)) (w : (Cond.constantLong y.cls index v).before a0 Z = true) (hn : pc + 3 = n) (K : Run p e below s n0 fc fs Q (T.setTop (mkF m n ls (.long v :: st)))) : Run p e below s n0 fc fs Q (T.setTop (mkF m pc ls st)) := by
  subst hn; obtain ⟨q, L, i, j, Y, -⟩ := X; exact K.st fun _ k => Y.ldc2Long q.1 q.2.2.2.2.2.2.1 (mvT q.2.1 w) (g := mkF m pc ls st) rfl (q.2.2.1 ▸ hd) _ k
theorem ifc (X : Sd Z y bytes maxL ret p l e R s m args below meth c n0 h kc ks T) {pc n1 n2 : Nat} {ls : Array Slot} {st : List Value} {cd : ClassFile.Cond} {x : Int32} {o : Int} (hd : decode bytes pc = .ok (.ifCond cd o, 3)) (ho : 0 ≤ (pc : Int) + o) (h1 : ((pc : Int) + o).toNat = n1) (h2 : pc + 3 = n2) (K1 : ifCond.holds cd x = true → Run p e below s n0 fc fs Q (T.setTop (mkF m n1 ls st))) (K2 : ifCond.holds cd x = false → Run p e below s n0 fc fs Q (T.setTop (mkF m n2 ls st))) : Run p e below s n0 fc fs Q (T.setTop (mkF m pc ls (.int x :: st))) := by
  cases hq : ifCond.holds cd x with
  | true => exact (K1 hq).st fun _ k => XS.ifYes X.hr X.1.1 rfl rfl (X.d hd) rfl hq ho h1 k
  | false => subst h2; exact (K2 hq).st fun _ k => XS.ifNo X.hr X.1.1 rfl (X.d hd) rfl hq k
theorem icc (X : Sd Z y bytes maxL ret p l e R s m args below meth c n0 h kc ks T) {pc n1 n2 : Nat} {ls : Array Slot} {st : List Value} {cd : ClassFile.Cond} {x v : Int32} {o : Int} (hd : decode bytes pc = .ok (.if_icmp cd o, 3)) (ho : 0 ≤ (pc : Int) + o) (h1 : ((pc : Int) + o).toNat = n1) (h2 : pc + 3 = n2) (K1 : if_icmp.holds cd x v = true → Run p e below s n0 fc fs Q (T.setTop (mkF m n1 ls st))) (K2 : if_icmp.holds cd x v = false → Run p e below s n0 fc fs Q (T.setTop (mkF m n2 ls st))) : Run p e below s n0 fc fs Q (T.setTop (mkF m pc ls (.int v :: .int x :: st))) := by
  cases hq : if_icmp.holds cd x v with
  | true => exact (K1 hq).st fun _ k => XS.icmpYes X.hr X.1.1 rfl rfl (X.d hd) rfl hq ho h1 k
  | false => subst h2; exact (K2 hq).st fun _ k => XS.icmpNo X.hr X.1.1 rfl (X.d hd) rfl hq k
theorem ic_eq (X : Sd Z y bytes maxL ret p l e R s m args below meth c n0 h kc ks T) {pc n1 n2 : Nat} {ls : Array Slot} {st : List Value} {x v : Int32} {o : Int} (hd : decode bytes pc = .ok (.if_icmp .eq o, 3)) (ho : 0 ≤ (pc : Int) + o) (h1 : ((pc : Int) + o).toNat = n1) (h2 : pc + 3 = n2) (K1 : x = v → Run p e below s n0 fc fs Q (T.setTop (mkF m n1 ls st))) (K2 : ¬ x = v → Run p e below s n0 fc fs Q (T.setTop (mkF m n2 ls st))) : Run p e below s n0 fc fs Q (T.setTop (mkF m pc ls (.int v :: .int x :: st))) := by
  exact icc X hd ho h1 h2 (fun hq => K1 (Classical.byContradiction fun w => by rw [(feq w).1] at hq; cases hq)) (fun hq => K2 (fun w => by rw [(teq w).1] at hq; cases hq))
theorem if_eq (X : Sd Z y bytes maxL ret p l e R s m args below meth c n0 h kc ks T) {pc n1 n2 : Nat} {ls : Array Slot} {st : List Value} {x : Int32} {o : Int} (hd : decode bytes pc = .ok (.ifCond .eq o, 3)) (ho : 0 ≤ (pc : Int) + o) (h1 : ((pc : Int) + o).toNat = n1) (h2 : pc + 3 = n2) (K1 : x = 0 → Run p e below s n0 fc fs Q (T.setTop (mkF m n1 ls st))) (K2 : ¬ x = 0 → Run p e below s n0 fc fs Q (T.setTop (mkF m n2 ls st))) : Run p e below s n0 fc fs Q (T.setTop (mkF m pc ls (.int x :: st))) := by
  exact ifc X hd ho h1 h2 (fun hq => by rw [if0] at hq; exact K1 (Classical.byContradiction fun w => by rw [(feq w).1] at hq; cases hq)) (fun hq => by rw [if0] at hq; exact K2 (fun w => by rw [(teq w).1] at hq; cases hq))
theorem ic_ne (X : Sd Z y bytes maxL ret p l e R s m args below meth c n0 h kc ks T) {pc n1 n2 : Nat} {ls : Array Slot} {st : List Value} {x v : Int32} {o : Int} (hd : decode bytes pc = .ok (.if_icmp .ne o, 3)) (ho : 0 ≤ (pc : Int) + o) (h1 : ((pc : Int) + o).toNat = n1) (h2 : pc + 3 = n2) (K1 : ¬ x = v → Run p e below s n0 fc fs Q (T.setTop (mkF m n1 ls st))) (K2 : x = v → Run p e below s n0 fc fs Q (T.setTop (mkF m n2 ls st))) : Run p e below s n0 fc fs Q (T.setTop (mkF m pc ls (.int v :: .int x :: st))) := by
  exact icc X hd ho h1 h2 (fun hq => K1 (fun w => by rw [(teq w).2] at hq; cases hq)) (fun hq => K2 (Classical.byContradiction fun w => by rw [(feq w).2] at hq; cases hq))
theorem if_ne (X : Sd Z y bytes maxL ret p l e R s m args below meth c n0 h kc ks T) {pc n1 n2 : Nat} {ls : Array Slot} {st : List Value} {x : Int32} {o : Int} (hd : decode bytes pc = .ok (.ifCond .ne o, 3)) (ho : 0 ≤ (pc : Int) + o) (h1 : ((pc : Int) + o).toNat = n1) (h2 : pc + 3 = n2) (K1 : ¬ x = 0 → Run p e below s n0 fc fs Q (T.setTop (mkF m n1 ls st))) (K2 : x = 0 → Run p e below s n0 fc fs Q (T.setTop (mkF m n2 ls st))) : Run p e below s n0 fc fs Q (T.setTop (mkF m pc ls (.int x :: st))) := by
  exact ifc X hd ho h1 h2 (fun hq => by rw [if0] at hq; exact K1 (fun w => by rw [(teq w).2] at hq; cases hq)) (fun hq => by rw [if0] at hq; exact K2 (Classical.byContradiction fun w => by rw [(feq w).2] at hq; cases hq))
theorem ic_lt (X : Sd Z y bytes maxL ret p l e R s m args below meth c n0 h kc ks T) {pc n1 n2 : Nat} {ls : Array Slot} {st : List Value} {x v : Int32} {o : Int} (hd : decode bytes pc = .ok (.if_icmp .lt o, 3)) (ho : 0 ≤ (pc : Int) + o) (h1 : ((pc : Int) + o).toNat = n1) (h2 : pc + 3 = n2) (K1 : x < v → Run p e below s n0 fc fs Q (T.setTop (mkF m n1 ls st))) (K2 : ¬ x < v → Run p e below s n0 fc fs Q (T.setTop (mkF m n2 ls st))) : Run p e below s n0 fc fs Q (T.setTop (mkF m pc ls (.int v :: .int x :: st))) := by
  exact icc X hd ho h1 h2 (fun hq => K1 (Classical.byContradiction fun w => by rw [(flt w).1] at hq; cases hq)) (fun hq => K2 (fun w => by rw [(tlt w).1] at hq; cases hq))
theorem if_lt (X : Sd Z y bytes maxL ret p l e R s m args below meth c n0 h kc ks T) {pc n1 n2 : Nat} {ls : Array Slot} {st : List Value} {x : Int32} {o : Int} (hd : decode bytes pc = .ok (.ifCond .lt o, 3)) (ho : 0 ≤ (pc : Int) + o) (h1 : ((pc : Int) + o).toNat = n1) (h2 : pc + 3 = n2) (K1 : x < 0 → Run p e below s n0 fc fs Q (T.setTop (mkF m n1 ls st))) (K2 : ¬ x < 0 → Run p e below s n0 fc fs Q (T.setTop (mkF m n2 ls st))) : Run p e below s n0 fc fs Q (T.setTop (mkF m pc ls (.int x :: st))) := by
  exact ifc X hd ho h1 h2 (fun hq => by rw [if0] at hq; exact K1 (Classical.byContradiction fun w => by rw [(flt w).1] at hq; cases hq)) (fun hq => by rw [if0] at hq; exact K2 (fun w => by rw [(tlt w).1] at hq; cases hq))
theorem ic_ge (X : Sd Z y bytes maxL ret p l e R s m args below meth c n0 h kc ks T) {pc n1 n2 : Nat} {ls : Array Slot} {st : List Value} {x v : Int32} {o : Int} (hd : decode bytes pc = .ok (.if_icmp .ge o, 3)) (ho : 0 ≤ (pc : Int) + o) (h1 : ((pc : Int) + o).toNat = n1) (h2 : pc + 3 = n2) (K1 : ¬ x < v → Run p e below s n0 fc fs Q (T.setTop (mkF m n1 ls st))) (K2 : x < v → Run p e below s n0 fc fs Q (T.setTop (mkF m n2 ls st))) : Run p e below s n0 fc fs Q (T.setTop (mkF m pc ls (.int v :: .int x :: st))) := by
  exact icc X hd ho h1 h2 (fun hq => K1 (fun w => by rw [(tlt w).2.1] at hq; cases hq)) (fun hq => K2 (Classical.byContradiction fun w => by rw [(flt w).2.1] at hq; cases hq))
theorem if_ge (X : Sd Z y bytes maxL ret p l e R s m args below meth c n0 h kc ks T) {pc n1 n2 : Nat} {ls : Array Slot} {st : List Value} {x : Int32} {o : Int} (hd : decode bytes pc = .ok (.ifCond .ge o, 3)) (ho : 0 ≤ (pc : Int) + o) (h1 : ((pc : Int) + o).toNat = n1) (h2 : pc + 3 = n2) (K1 : ¬ x < 0 → Run p e below s n0 fc fs Q (T.setTop (mkF m n1 ls st))) (K2 : x < 0 → Run p e below s n0 fc fs Q (T.setTop (mkF m n2 ls st))) : Run p e below s n0 fc fs Q (T.setTop (mkF m pc ls (.int x :: st))) := by
  exact ifc X hd ho h1 h2 (fun hq => by rw [if0] at hq; exact K1 (fun w => by rw [(tlt w).2.1] at hq; cases hq)) (fun hq => by rw [if0] at hq; exact K2 (Classical.byContradiction fun w => by rw [(flt w).2.1] at hq; cases hq))
theorem ic_gt (X : Sd Z y bytes maxL ret p l e R s m args below meth c n0 h kc ks T) {pc n1 n2 : Nat} {ls : Array Slot} {st : List Value} {x v : Int32} {o : Int} (hd : decode bytes pc = .ok (.if_icmp .gt o, 3)) (ho : 0 ≤ (pc : Int) + o) (h1 : ((pc : Int) + o).toNat = n1) (h2 : pc + 3 = n2) (K1 : v < x → Run p e below s n0 fc fs Q (T.setTop (mkF m n1 ls st))) (K2 : ¬ v < x → Run p e below s n0 fc fs Q (T.setTop (mkF m n2 ls st))) : Run p e below s n0 fc fs Q (T.setTop (mkF m pc ls (.int v :: .int x :: st))) := by
  exact icc X hd ho h1 h2 (fun hq => K1 (Classical.byContradiction fun w => by rw [(flt w).2.2.1] at hq; cases hq)) (fun hq => K2 (fun w => by rw [(tlt w).2.2.1] at hq; cases hq))
theorem if_gt (X : Sd Z y bytes maxL ret p l e R s m args below meth c n0 h kc ks T) {pc n1 n2 : Nat} {ls : Array Slot} {st : List Value} {x : Int32} {o : Int} (hd : decode bytes pc = .ok (.ifCond .gt o, 3)) (ho : 0 ≤ (pc : Int) + o) (h1 : ((pc : Int) + o).toNat = n1) (h2 : pc + 3 = n2) (K1 : 0 < x → Run p e below s n0 fc fs Q (T.setTop (mkF m n1 ls st))) (K2 : ¬ 0 < x → Run p e below s n0 fc fs Q (T.setTop (mkF m n2 ls st))) : Run p e below s n0 fc fs Q (T.setTop (mkF m pc ls (.int x :: st))) := by
  exact ifc X hd ho h1 h2 (fun hq => by rw [if0] at hq; exact K1 (Classical.byContradiction fun w => by rw [(flt w).2.2.1] at hq; cases hq)) (fun hq => by rw [if0] at hq; exact K2 (fun w => by rw [(tlt w).2.2.1] at hq; cases hq))
theorem ic_le (X : Sd Z y bytes maxL ret p l e R s m args below meth c n0 h kc ks T) {pc n1 n2 : Nat} {ls : Array Slot} {st : List Value} {x v : Int32} {o : Int} (hd : decode bytes pc = .ok (.if_icmp .le o, 3)) (ho : 0 ≤ (pc : Int) + o) (h1 : ((pc : Int) + o).toNat = n1) (h2 : pc + 3 = n2) (K1 : ¬ v < x → Run p e below s n0 fc fs Q (T.setTop (mkF m n1 ls st))) (K2 : v < x → Run p e below s n0 fc fs Q (T.setTop (mkF m n2 ls st))) : Run p e below s n0 fc fs Q (T.setTop (mkF m pc ls (.int v :: .int x :: st))) := by
  exact icc X hd ho h1 h2 (fun hq => K1 (fun w => by rw [(tlt w).2.2.2] at hq; cases hq)) (fun hq => K2 (Classical.byContradiction fun w => by rw [(flt w).2.2.2] at hq; cases hq))
theorem if_le (X : Sd Z y bytes maxL ret p l e R s m args below meth c n0 h kc ks T) {pc n1 n2 : Nat} {ls : Array Slot} {st : List Value} {x : Int32} {o : Int} (hd : decode bytes pc = .ok (.ifCond .le o, 3)) (ho : 0 ≤ (pc : Int) + o) (h1 : ((pc : Int) + o).toNat = n1) (h2 : pc + 3 = n2) (K1 : ¬ 0 < x → Run p e below s n0 fc fs Q (T.setTop (mkF m n1 ls st))) (K2 : 0 < x → Run p e below s n0 fc fs Q (T.setTop (mkF m n2 ls st))) : Run p e below s n0 fc fs Q (T.setTop (mkF m pc ls (.int x :: st))) := by
  exact ifc X hd ho h1 h2 (fun hq => by rw [if0] at hq; exact K1 (fun w => by rw [(tlt w).2.2.2] at hq; cases hq)) (fun hq => by rw [if0] at hq; exact K2 (Classical.byContradiction fun w => by rw [(flt w).2.2.2] at hq; cases hq))
theorem ifnull_y (X : Sd Z y bytes maxL ret p l e R s m args below meth c n0 h kc ks T) {pc n1 : Nat} {ls : Array Slot} {st : List Value} {o : Int} (hd : decode bytes pc = .ok (.ifnull o, 3)) (ho : 0 ≤ (pc : Int) + o) (h1 : ((pc : Int) + o).toNat = n1) (K : Run p e below s n0 fc fs Q (T.setTop (mkF m n1 ls st))) : Run p e below s n0 fc fs Q (T.setTop (mkF m pc ls (.null :: st))) := K.st fun _ k => XS.ifnullYes X.hr X.1.1 rfl rfl (X.d hd) rfl ho h1 k
theorem ifnull_n (X : Sd Z y bytes maxL ret p l e R s m args below meth c n0 h kc ks T) {pc n2 : Nat} {ls : Array Slot} {st : List Value} {o : Int} {a : Addr} (hd : decode bytes pc = .ok (.ifnull o, 3)) (h2 : pc + 3 = n2) (K : Run p e below s n0 fc fs Q (T.setTop (mkF m n2 ls st))) : Run p e below s n0 fc fs Q (T.setTop (mkF m pc ls (.ref a :: st))) := by
  subst h2; exact K.st fun _ k => XS.ifnullNo X.hr X.1.1 rfl (X.d hd) rfl k
theorem ifnonnull_y (X : Sd Z y bytes maxL ret p l e R s m args below meth c n0 h kc ks T) {pc n1 : Nat} {ls : Array Slot} {st : List Value} {o : Int} {a : Addr} (hd : decode bytes pc = .ok (.ifnonnull o, 3)) (ho : 0 ≤ (pc : Int) + o) (h1 : ((pc : Int) + o).toNat = n1) (K : Run p e below s n0 fc fs Q (T.setTop (mkF m n1 ls st))) : Run p e below s n0 fc fs Q (T.setTop (mkF m pc ls (.ref a :: st))) := K.st fun _ k => XS.ifnonnullYes X.hr X.1.1 rfl rfl (X.d hd) rfl ho h1 k
theorem ifnonnull_n (X : Sd Z y bytes maxL ret p l e R s m args below meth c n0 h kc ks T) {pc n2 : Nat} {ls : Array Slot} {st : List Value} {o : Int} (hd : decode bytes pc = .ok (.ifnonnull o, 3)) (h2 : pc + 3 = n2) (K : Run p e below s n0 fc fs Q (T.setTop (mkF m n2 ls st))) : Run p e below s n0 fc fs Q (T.setTop (mkF m pc ls (.null :: st))) := by
  subst h2; exact K.st fun _ k => XS.ifnonnullNo X.hr X.1.1 rfl (X.d hd) rfl k
theorem ac_eq (X : Sd Z y bytes maxL ret p l e R s m args below meth c n0 h kc ks T) {pc n1 n2 : Nat} {ls : Array Slot} {st : List Value} {x v : Value} {o : Int} (hd : decode bytes pc = .ok (.if_acmp .eq o, 3)) (hx : x.isRef = true) (hv : v.isRef = true) (ho : 0 ≤ (pc : Int) + o) (h1 : ((pc : Int) + o).toNat = n1) (h2 : pc + 3 = n2) (K1 : x = v → Run p e below s n0 fc fs Q (T.setTop (mkF m n1 ls st))) (K2 : ¬ x = v → Run p e below s n0 fc fs Q (T.setTop (mkF m n2 ls st))) : Run p e below s n0 fc fs Q (T.setTop (mkF m pc ls (v :: x :: st))) := by
  obtain ⟨q, L, i, j, Y, -⟩ := X
  by_cases hq : x = v
  · exact (K1 hq).st fun _ k => acmp Y q.1 rfl hx hv rfl (q.2.2.1 ▸ hd) rfl (decide_eq_true hq) ho (by simp [acV, ← h1, ← h2]) k
  · exact (K2 hq).st fun _ k => acmp Y q.1 rfl hx hv rfl (q.2.2.1 ▸ hd) rfl (decide_eq_false hq) ho (by simp [acV, ← h1, ← h2]) k
theorem ac_ne (X : Sd Z y bytes maxL ret p l e R s m args below meth c n0 h kc ks T) {pc n1 n2 : Nat} {ls : Array Slot} {st : List Value} {x v : Value} {o : Int} (hd : decode bytes pc = .ok (.if_acmp .ne o, 3)) (hx : x.isRef = true) (hv : v.isRef = true) (ho : 0 ≤ (pc : Int) + o) (h1 : ((pc : Int) + o).toNat = n1) (h2 : pc + 3 = n2) (K1 : ¬ x = v → Run p e below s n0 fc fs Q (T.setTop (mkF m n1 ls st))) (K2 : x = v → Run p e below s n0 fc fs Q (T.setTop (mkF m n2 ls st))) : Run p e below s n0 fc fs Q (T.setTop (mkF m pc ls (v :: x :: st))) := by
  obtain ⟨q, L, i, j, Y, -⟩ := X
  by_cases hq : x = v
  · exact (K2 hq).st fun _ k => acmp Y q.1 rfl hx hv rfl (q.2.2.1 ▸ hd) rfl (decide_eq_true hq) ho (by simp [acV, ← h1, ← h2]) k
  · exact (K1 hq).st fun _ k => acmp Y q.1 rfl hx hv rfl (q.2.2.1 ▸ hd) rfl (decide_eq_false hq) ho (by simp [acV, ← h1, ← h2]) k
theorem Sd.re {T' : State} {L : List Loc} {i j : Nat} (X : Sd Z y bytes maxL ret p l e R s m args below meth c n0 h kc ks T) (Y : Stand p l e R s m args below meth c T' L i j) (h1 : T'.heap = h) (h2 : Fr n0 L) (h3 : i ≤ kc) (h4 : j ≤ ks) : Sd Z y bytes maxL ret p l e R s m args below meth c n0 h kc ks T' := ⟨X.1, L, i, j, Y, h1, h2, h3, h4⟩
theorem getstatic (X : Sd Z y bytes maxL ret p l e R s m args below meth c n0 h kc ks T) {pc n index : Nat} {ls : Array Slot} {st : List Value} {R0 O f d : String} {v : Value} (hd : decode bytes pc = .ok (.getstatic index, 3)) (w : (Cond.fieldLink y.cls index R0 f d).before a0 Z = true) (via : Via Z R0 O f d) (F : Sta Z h O f d v) (hn : pc + 3 = n) (K : ∀ T', Sd Z y bytes maxL ret p l e R s m args below meth c n0 h kc ks T' → Run p e below s n0 fc fs Q (T'.setTop (mkF m n ls (v :: st)))) : Run p e below s n0 fc fs Q (T.setTop (mkF m pc ls st)) := by
  subst hn; obtain ⟨q, L, i, j, Y, r1, r2, r3, r4⟩ := X
  obtain ⟨T', Y', e', stp⟩ := getS (host := "") Y q.1 q.2.1 q.2.2.2.2.2.2.1 w via r1 F (g := mkF m pc ls st) rfl (q.2.2.1 ▸ hd)
  exact (K T' ⟨q, L, i, j, Y', e', r2, r3, r4⟩).st stp
theorem getstaticN (X : Sd Z y bytes maxL ret p l e R s m args below meth c n0 h kc ks T) {pc n index : Nat} {ls : Array Slot} {st : List Value} {R0 O f d host : String} {v : Value} (hd : decode bytes pc = .ok (.getstatic index, 3)) (w : (Cond.fieldLinkNest y.cls index R0 f d host).before a0 Z = true) (via : Via Z R0 O f d) (F : Sta Z h O f d v) (hn : pc + 3 = n) (K : ∀ T', Sd Z y bytes maxL ret p l e R s m args below meth c n0 h kc ks T' → Run p e below s n0 fc fs Q (T'.setTop (mkF m n ls (v :: st)))) : Run p e below s n0 fc fs Q (T.setTop (mkF m pc ls st)) := by
  subst hn; obtain ⟨q, L, i, j, Y, r1, r2, r3, r4⟩ := X
  obtain ⟨T', Y', e', stp⟩ := getS2 Y q.1 q.2.1 q.2.2.2.2.2.2.1 (Or.inr w) via r1 F (g := mkF m pc ls st) rfl (q.2.2.1 ▸ hd)
  exact (K T' ⟨q, L, i, j, Y', e', r2, r3, r4⟩).st stp
theorem getfield (X : Sd Z y bytes maxL ret p l e R s m args below meth c n0 h kc ks T) {pc n index : Nat} {ls : Array Slot} {st : List Value} {R0 O f d : String} {a : Addr} {v : Value} (hd : decode bytes pc = .ok (.getfield index, 3)) (w : (Cond.fieldLink y.cls index R0 f d).before a0 Z = true) (via : Via Z R0 O f d) (F : Fld Z h a O f d v) (hn : pc + 3 = n) (K : ∀ T', Sd Z y bytes maxL ret p l e R s m args below meth c n0 h kc ks T' → Run p e below s n0 fc fs Q (T'.setTop (mkF m n ls (v :: st)))) : Run p e below s n0 fc fs Q (T.setTop (mkF m pc ls (.ref a :: st))) := by
  subst hn; obtain ⟨q, L, i, j, Y, r1, r2, r3, r4⟩ := X
  obtain ⟨T', Y', e', stp⟩ := getF (host := "") Y q.1 q.2.1 q.2.2.2.2.2.2.1 (Or.inl w) via r1 F (g := mkF m pc ls (.ref a :: st)) rfl rfl (q.2.2.1 ▸ hd)
  exact (K T' ⟨q, L, i, j, Y', e', r2, r3, r4⟩).st stp
theorem lenA {d : String} {ps : List FieldType} {r : Option FieldType} (hd : parseMethodDescriptor d = some ⟨ps, r⟩) {L : List Value} (hl : L.length = ps.length) : ∀ sig, parseMethodDescriptor d = some sig → L.length = sig.parameters.length := lenOf hd hl
theorem call_static (X : Sd Z y bytes maxL ret p l e R s m args below meth c n0 h kc ks T) {rm : Room} {ybytes : ByteArray} {yL : Nat} {yret : Option FieldType} {z : MethodName} {Qc : Option Value → Heap → Prop} {pc n index W : Nat} {ls : Array Slot} {st rest argsL : List Value} (hd : decode bytes pc = .ok (.invokestatic index, 3)) (w1 : (Cond.methodLink y.cls index z).before a0 Z = true) (w2 : (Cond.static z).before a0 Z = true) (wc : (Cond.code z ybytes yL yret).before a0 Z = true) (wi : (Cond.initialized z.cls).before a0 Z = true) (hy : z.cls ≠ "java/lang/invoke/MethodHandle" ∧ z.cls ≠ "java/lang/invoke/VarHandle") (hC : Ctr l Z z ybytes yL yret [] rm n0 argsL.toArray h Qc) (hst : st = argsL.reverse ++ rest) (hsize : ls.size = maxL) (hlen : ∀ sig, parseMethodDescriptor z.desc = some sig → argsL.length = sig.parameters.length) (hW : (rest.map fun v => v.category).sum ≤ W) (hfr : rm.frames + 1 ≤ R.frames) (hlo : W + (yL + 11) + rm.locals ≤ R.locals) (hce : kc + rm.cells ≤ R.cells) (hsl : ks + rm.slots ≤ R.slots) (hn : pc + 3 = n) (K : ∀ T' h' v, Sd Z y bytes maxL ret p l e R s m args below meth c n0 h' (kc + rm.cells) (ks + rm.slots) T' → Qc v h' → Run p e below s n0 fc fs Q (T'.setTop (mkF m n ls (v.toList ++ rest)))) : Run p e below s n0 fc fs Q (T.setTop (mkF m pc ls st)) := by
  subst hn hst; obtain ⟨q, L, i, j, Y, r1, r2, r3, r4⟩ := X
  have hC' : MetFree l z (head1 [Cond.code z ybytes yL yret] rm) (fun a' U => a' = argsL.toArray ∧ Z.Warmed39 U.vm ∧ U.heap = h) (fun _ _ _ _ _ => True) (fun _ U o U' => ∃ v L, o = .returned v ∧ (Qc v U'.heap ∧ Fr n0 L) ∧ FrameEnd U o U' L rm.cells rm.slots) := hC
  have hB := backOf (W := W) (R := R) (p := p) (e := e) (below := below) (args := args) (len := 3) (Q := fun v hh L => Qc v hh ∧ Fr n0 L) hC' q.2.1 wc wi hfr hlo
  obtain ⟨v, vm₁, ⟨T', L', k', n'⟩, -, Y', ⟨Lc, hQ, l', y', z'⟩, stp⟩ := Jvm.LawKit.callS Y q.1 (y := z) q.2.2.2.2.2.2.1 (mvT q.2.1 w1) (mvT q.2.1 w2) (mvT q.2.1 wi) (mvT q.2.1 wc) hy hB (g := mkF m pc ls (argsL.reverse ++ rest)) rfl (by rw [q.2.2.2.1]; exact hsize) (argsL := argsL) (rest := rest) hlen rfl (by simpa using hW) (q.2.2.1 ▸ hd) (fun _ _ => ⟨rfl, r1, by dsimp only [Pt.cells]; omega, by dsimp only [Pt.slots]; omega⟩)
  dsimp only [Pt.U, Pt.locs, Pt.cells, Pt.slots] at Y' l' y' z' stp hQ
  obtain ⟨hQ1, hQ2⟩ := hQ
  subst l' y' z'
  exact (K T' T'.heap v ⟨q, _, _, _, Y', rfl, Fr.app r2 hQ2, by omega, by omega⟩ hQ1).st fun t k => stp t k
theorem call_static_v (X : Sd Z y bytes maxL ret p l e R s m args below meth c n0 h kc ks T) {rm : Room} {ybytes : ByteArray} {yL : Nat} {yret : Option FieldType} {z : MethodName} {Qv : Value → Heap → Prop} {pc n index W : Nat} {ls : Array Slot} {st rest argsL : List Value} (hd : decode bytes pc = .ok (.invokestatic index, 3)) (w1 : (Cond.methodLink y.cls index z).before a0 Z = true) (w2 : (Cond.static z).before a0 Z = true) (wc : (Cond.code z ybytes yL yret).before a0 Z = true) (wi : (Cond.initialized z.cls).before a0 Z = true) (hy : z.cls ≠ "java/lang/invoke/MethodHandle" ∧ z.cls ≠ "java/lang/invoke/VarHandle") (hC : Ctr l Z z ybytes yL yret [] rm n0 argsL.toArray h (Rt Qv)) (hst : st = argsL.reverse ++ rest) (hsize : ls.size = maxL) (hlen : ∀ sig, parseMethodDescriptor z.desc = some sig → argsL.length = sig.parameters.length) (hW : (rest.map fun v => v.category).sum ≤ W) (hfr : rm.frames + 1 ≤ R.frames) (hlo : W + (yL + 11) + rm.locals ≤ R.locals) (hce : kc + rm.cells ≤ R.cells) (hsl : ks + rm.slots ≤ R.slots) (hn : pc + 3 = n) (K : ∀ T' h' w, Sd Z y bytes maxL ret p l e R s m args below meth c n0 h' (kc + rm.cells) (ks + rm.slots) T' → Qv w h' → Run p e below s n0 fc fs Q (T'.setTop (mkF m n ls (w :: rest)))) : Run p e below s n0 fc fs Q (T.setTop (mkF m pc ls st)) :=
  call_static X hd w1 w2 wc wi hy hC hst hsize hlen hW hfr hlo hce hsl hn fun T' h' v X' q => by obtain ⟨w, rfl, q⟩ := q; exact K T' h' w X' q
theorem call_static_n (X : Sd Z y bytes maxL ret p l e R s m args below meth c n0 h kc ks T) {rm : Room} {ybytes : ByteArray} {yL : Nat} {yret : Option FieldType} {z : MethodName} {Qn : Heap → Prop} {pc n index W : Nat} {ls : Array Slot} {st rest argsL : List Value} (hd : decode bytes pc = .ok (.invokestatic index, 3)) (w1 : (Cond.methodLink y.cls index z).before a0 Z = true) (w2 : (Cond.static z).before a0 Z = true) (wc : (Cond.code z ybytes yL yret).before a0 Z = true) (wi : (Cond.initialized z.cls).before a0 Z = true) (hy : z.cls ≠ "java/lang/invoke/MethodHandle" ∧ z.cls ≠ "java/lang/invoke/VarHandle") (hC : Ctr l Z z ybytes yL yret [] rm n0 argsL.toArray h (Rn Qn)) (hst : st = argsL.reverse ++ rest) (hsize : ls.size = maxL) (hlen : ∀ sig, parseMethodDescriptor z.desc = some sig → argsL.length = sig.parameters.length) (hW : (rest.map fun v => v.category).sum ≤ W) (hfr : rm.frames + 1 ≤ R.frames) (hlo : W + (yL + 11) + rm.locals ≤ R.locals) (hce : kc + rm.cells ≤ R.cells) (hsl : ks + rm.slots ≤ R.slots) (hn : pc + 3 = n) (K : ∀ T' h', Sd Z y bytes maxL ret p l e R s m args below meth c n0 h' (kc + rm.cells) (ks + rm.slots) T' → Qn h' → Run p e below s n0 fc fs Q (T'.setTop (mkF m n ls rest))) : Run p e below s n0 fc fs Q (T.setTop (mkF m pc ls st)) :=
  call_static X hd w1 w2 wc wi hy hC hst hsize hlen hW hfr hlo hce hsl hn fun T' h' v X' q => by obtain ⟨rfl, q⟩ := q; exact K T' h' X' q
theorem call_virtual (X : Sd Z y bytes maxL ret p l e R s m args below meth c n0 h kc ks T) {rm : Room} {ybytes : ByteArray} {yL : Nat} {yret : Option FieldType} {z : MethodName} {Qc : Option Value → Heap → Prop} {pc n index W : Nat} {ls : Array Slot} {st rest argsL : List Value} {a : Addr} {C : String} {yv : MethodName} (hd : decode bytes pc = .ok (.invokevirtual index, 3)) (w1 : (Cond.methodLink y.cls index yv).before a0 Z = true) (w2 : (Cond.declares yv).before a0 Z = true) (w3 : (Cond.instanceMethod z).before a0 Z = true) (w4 : (Cond.selects C yv z).before a0 Z = true) (hnf : ∀ {s' : State}, Z.Warmed39 s'.vm → NotFace s' yv) (wc : (Cond.code z ybytes yL yret).before a0 Z = true) (wi : (Cond.initialized z.cls).before a0 Z = true) (hy : yv.cls ≠ "java/lang/invoke/MethodHandle" ∧ yv.cls ≠ "java/lang/invoke/VarHandle") (E : Exa Z h a C) (hC : Ctr l Z z ybytes yL yret [] rm n0 (.ref a :: argsL).toArray h Qc) (hst : st = argsL.reverse ++ .ref a :: rest) (hsize : ls.size = maxL) (hlen : ∀ sig, parseMethodDescriptor yv.desc = some sig → argsL.length = sig.parameters.length) (hW : (rest.map fun v => v.category).sum ≤ W) (hfr : rm.frames + 1 ≤ R.frames) (hlo : W + (yL + 11) + rm.locals ≤ R.locals) (hce : kc + rm.cells ≤ R.cells) (hsl : ks + rm.slots ≤ R.slots) (hn : pc + 3 = n) (K : ∀ T' h' v, Sd Z y bytes maxL ret p l e R s m args below meth c n0 h' (kc + rm.cells) (ks + rm.slots) T' → Qc v h' → Run p e below s n0 fc fs Q (T'.setTop (mkF m n ls (v.toList ++ rest)))) : Run p e below s n0 fc fs Q (T.setTop (mkF m pc ls st)) := by
  subst hn hst; obtain ⟨q, L, i, j, Y, r1, r2, r3, r4⟩ := X
  have hC' : MetFree l z (head1 [Cond.code z ybytes yL yret] rm) (fun a' U => a' = (.ref a :: argsL).toArray ∧ Z.Warmed39 U.vm ∧ U.heap = h) (fun _ _ _ _ _ => True) (fun _ U o U' => ∃ v L, o = .returned v ∧ (Qc v U'.heap ∧ Fr n0 L) ∧ FrameEnd U o U' L rm.cells rm.slots) := hC
  have hB := backOf (W := W) (R := R) (p := p) (e := e) (below := below) (args := args) (len := 3) (Q := fun v hh L => Qc v hh ∧ Fr n0 L) hC' q.2.1 wc wi hfr hlo
  obtain ⟨cq, kq, qa, qb, qc⟩ := isOf (T := T) q.2.1 r1 E
  obtain ⟨v, vm₁, ⟨T', L', k', n'⟩, -, Y', ⟨Lc, hQ, l', y', z'⟩, stp⟩ := Y.virtualBack q.1 (y := yv) (z := z) q.2.2.2.2.2.2.1 (mvT q.2.1 w1) (mvT q.2.1 w2) (hnf q.2.1) (mvT q.2.1 w4) (mvT q.2.1 w3) hy hB qa qc (g := mkF m pc ls (argsL.reverse ++ .ref a :: rest)) rfl (by rw [q.2.2.2.1]; exact hsize) (Steps.refl _) (argsL := argsL) (rest := rest) hlen rfl (by simpa using hW) (q.2.2.1 ▸ hd) (fun _ _ => ⟨rfl, r1, by dsimp only [Pt.cells]; omega, by dsimp only [Pt.slots]; omega⟩)
  dsimp only [Pt.U, Pt.locs, Pt.cells, Pt.slots] at Y' l' y' z' stp hQ
  obtain ⟨hQ1, hQ2⟩ := hQ
  subst l' y' z'
  exact (K T' T'.heap v ⟨q, _, _, _, Y', rfl, Fr.app r2 hQ2, by omega, by omega⟩ hQ1).st fun t k => stp.trans k
theorem call_virtual_v (X : Sd Z y bytes maxL ret p l e R s m args below meth c n0 h kc ks T) {rm : Room} {ybytes : ByteArray} {yL : Nat} {yret : Option FieldType} {z : MethodName} {Qv : Value → Heap → Prop} {pc n index W : Nat} {ls : Array Slot} {st rest argsL : List Value} {a : Addr} {C : String} {yv : MethodName} (hd : decode bytes pc = .ok (.invokevirtual index, 3)) (w1 : (Cond.methodLink y.cls index yv).before a0 Z = true) (w2 : (Cond.declares yv).before a0 Z = true) (w3 : (Cond.instanceMethod z).before a0 Z = true) (w4 : (Cond.selects C yv z).before a0 Z = true) (hnf : ∀ {s' : State}, Z.Warmed39 s'.vm → NotFace s' yv) (wc : (Cond.code z ybytes yL yret).before a0 Z = true) (wi : (Cond.initialized z.cls).before a0 Z = true) (hy : yv.cls ≠ "java/lang/invoke/MethodHandle" ∧ yv.cls ≠ "java/lang/invoke/VarHandle") (E : Exa Z h a C) (hC : Ctr l Z z ybytes yL yret [] rm n0 (.ref a :: argsL).toArray h (Rt Qv)) (hst : st = argsL.reverse ++ .ref a :: rest) (hsize : ls.size = maxL) (hlen : ∀ sig, parseMethodDescriptor yv.desc = some sig → argsL.length = sig.parameters.length) (hW : (rest.map fun v => v.category).sum ≤ W) (hfr : rm.frames + 1 ≤ R.frames) (hlo : W + (yL + 11) + rm.locals ≤ R.locals) (hce : kc + rm.cells ≤ R.cells) (hsl : ks + rm.slots ≤ R.slots) (hn : pc + 3 = n) (K : ∀ T' h' w, Sd Z y bytes maxL ret p l e R s m args below meth c n0 h' (kc + rm.cells) (ks + rm.slots) T' → Qv w h' → Run p e below s n0 fc fs Q (T'.setTop (mkF m n ls (w :: rest)))) : Run p e below s n0 fc fs Q (T.setTop (mkF m pc ls st)) :=
  call_virtual X hd w1 w2 w3 w4 hnf wc wi hy E hC hst hsize hlen hW hfr hlo hce hsl hn fun T' h' v X' q => by obtain ⟨w, rfl, q⟩ := q; exact K T' h' w X' q
theorem call_virtual_n (X : Sd Z y bytes maxL ret p l e R s m args below meth c n0 h kc ks T) {rm : Room} {ybytes : ByteArray} {yL : Nat} {yret : Option FieldType} {z : MethodName} {Qn : Heap → Prop} {pc n index W : Nat} {ls : Array Slot} {st rest argsL : List Value} {a : Addr} {C : String} {yv : MethodName} (hd : decode bytes pc = .ok (.invokevirtual index, 3)) (w1 : (Cond.methodLink y.cls index yv).before a0 Z = true) (w2 : (Cond.declares yv).before a0 Z = true) (w3 : (Cond.instanceMethod z).before a0 Z = true) (w4 : (Cond.selects C yv z).before a0 Z = true) (hnf : ∀ {s' : State}, Z.Warmed39 s'.vm → NotFace s' yv) (wc : (Cond.code z ybytes yL yret).before a0 Z = true) (wi : (Cond.initialized z.cls).before a0 Z = true) (hy : yv.cls ≠ "java/lang/invoke/MethodHandle" ∧ yv.cls ≠ "java/lang/invoke/VarHandle") (E : Exa Z h a C) (hC : Ctr l Z z ybytes yL yret [] rm n0 (.ref a :: argsL).toArray h (Rn Qn)) (hst : st = argsL.reverse ++ .ref a :: rest) (hsize : ls.size = maxL) (hlen : ∀ sig, parseMethodDescriptor yv.desc = some sig → argsL.length = sig.parameters.length) (hW : (rest.map fun v => v.category).sum ≤ W) (hfr : rm.frames + 1 ≤ R.frames) (hlo : W + (yL + 11) + rm.locals ≤ R.locals) (hce : kc + rm.cells ≤ R.cells) (hsl : ks + rm.slots ≤ R.slots) (hn : pc + 3 = n) (K : ∀ T' h', Sd Z y bytes maxL ret p l e R s m args below meth c n0 h' (kc + rm.cells) (ks + rm.slots) T' → Qn h' → Run p e below s n0 fc fs Q (T'.setTop (mkF m n ls rest))) : Run p e below s n0 fc fs Q (T.setTop (mkF m pc ls st)) :=
  call_virtual X hd w1 w2 w3 w4 hnf wc wi hy E hC hst hsize hlen hW hfr hlo hce hsl hn fun T' h' v X' q => by obtain ⟨rfl, q⟩ := q; exact K T' h' X' q
theorem joinT (X : Sd Z y bytes maxL ret p l e R s m args below meth c n0 h kc ks T) {α : Type} (P : α → Prop) (f : α → JFrame) {t : State} (J : ∀ T' v, Sd Z y bytes maxL ret p l e R s m args below meth c n0 h kc ks T' → P v → Run p e below s n0 fc fs Q (T'.setTop (f v))) (K : (∀ T' v, Sd Z y bytes maxL ret p l e R s m args below meth c n0 h kc ks T' → P v → Run p e below s n0 fc fs Q (T'.setTop (f v))) → Run p e below s n0 fc fs Q t) : Run p e below s n0 fc fs Q t := K J
theorem eqI_v {args : Array Value} {first s : State} {o : Option Outcome} {idx : List Nat} {t : Term} {z : Int32} (h : (Jvm.Cond.eq t (Term.int z)).value args first o s idx = some true) : t.eval args first o idx s = some (.int z) := by
  simp only [Jvm.Cond.value, Term.eval] at h
  cases ht : t.eval args first o idx s with
  | none => simp [ht] at h
  | some x => cases x <;> simp [ht] at h ⊢; exact h
end A
end Jvm.OwnK
namespace Jvm.OwnK
open Sem ClassFile Op Lib Jvm.Stand Jvm.Free Jvm.LawKit Jvm.RoadKit
section B
variable {p : Program} {l : Launch} {e : Env} {R : Room} {s : State} {m : MethodId} {args : Array Value} {below : List Frame} {meth : Method} {c : Code} {T : State} {Z : State} {a0 : Array Value} {h h' : Heap} {n0 kc ks fc fs : Nat} {Q : Option Value → Heap → Prop} {y : MethodName} {bytes : ByteArray} {maxL : Nat} {ret : Option FieldType} {a b : Addr} {ty : FieldType} {vs : List Value} {sl : Nat} {v w : Value} {C f d : String} {ws : List Addr}
/-- an array with all its values -/
def Ark (Z : State) (h : Heap) (a : Addr) (ty : FieldType) (vs : List Value) : Prop := ∃ c : Cell, Arr Z h a c ty ∧ c.slots = vs.toArray ∧ vs.length < 2147483648 ∧ ∀ v ∈ vs, fits ty v = true
theorem Ark.lt (A : Ark Z h a ty vs) : a < h.size := by obtain ⟨c, A, -⟩ := A; exact A.lt
theorem Ark.ext (A : Ark Z h a ty vs) (E : Ext h h') : Ark Z h' a ty vs := by obtain ⟨c, A, r⟩ := A; exact ⟨c, A.ext E, r⟩
theorem Ark.keep (A : Ark Z h a ty vs) (K : Keep h h' ws) (q : a ∉ ws) : Ark Z h' a ty vs := by obtain ⟨c, A, r⟩ := A; exact ⟨c, ⟨K.2.1 a c A.1 q, A.2⟩, r⟩
theorem Ark.len (A : Ark Z h a ty vs) : vs.length < 2147483648 := by obtain ⟨c, A, r1, r2, -⟩ := A; exact r2
theorem kExt (E : Ext h h') : Keep h h' [] := (Keep.refl h []).ext E
theorem nin1 (q : a ≠ b) : a ∉ [b] := fun z => q (List.mem_singleton.mp z)
theorem oldLe (O : Old Z n0 h) : n0 ≤ h.size := by rw [← O.1]; exact O.2.1
theorem toNatC {j : Int32} {i : Nat} (hj : j.toInt = i) : j.toNatClampNeg = i ∧ ¬ j < 0 := by
  refine ⟨by simp [Int32.toNatClampNeg, hj], fun q => ?_⟩
  have q2 := Int32.lt_iff_toInt_lt.mp q
  rw [hj] at q2
  have : (0 : Int32).toInt = 0 := rfl
  omega
theorem arkIn {c : Cell} (r1 : c.slots = vs.toArray) {j : Int32} {i : Nat} (hj : j.toInt = i) (hv : vs[i]? = some v) : ¬ (j < 0 ∨ c.slots.size ≤ j.toNatClampNeg) ∧ c.slots[j.toNatClampNeg]? = some v := by
  obtain ⟨g1, g2⟩ := toNatC hj
  obtain ⟨hi, -⟩ := List.getElem?_eq_some_iff.mp hv
  refine ⟨fun q => ?_, by rw [g1, r1]; simpa using hv⟩
  rcases q with q | q
  · exact g2 q
  · rw [g1, r1] at q; simp at q; omega

theorem iaload (X : Sd Z y bytes maxL ret p l e R s m args below meth c n0 h kc ks T) {pc n i : Nat} {ls : Array Slot} {st : List Value} {j : Int32} (hd : decode bytes pc = .ok (.iaload, 1)) (A : Ark Z h a .int vs) (hj : j.toInt = i) (hv : vs[i]? = some v) (hn : pc + 1 = n) (K : Run p e below s n0 fc fs Q (T.setTop (mkF m n ls (v :: st)))) : Run p e below s n0 fc fs Q (T.setTop (mkF m pc ls (.int j :: .ref a :: st))) := by
  subst hn; obtain ⟨q, L, i', j', Y, r1, r2, r3, r4⟩ := X
  obtain ⟨c', A, s1, -⟩ := A
  obtain ⟨g1, g2⟩ := arkIn s1 hj hv
  exact K.st fun _ k => Y.iaload q.1 (j := j) (v := v) (by rw [r1]; exact A.1) (State.isArrayOf_alike q.2.1.alike A.2.1) A.2.2 g1 g2 (g := mkF m pc ls (.int j :: .ref a :: st)) rfl rfl (q.2.2.1 ▸ hd) _ k
theorem caload (X : Sd Z y bytes maxL ret p l e R s m args below meth c n0 h kc ks T) {pc n i : Nat} {ls : Array Slot} {st : List Value} {j : Int32} (hd : decode bytes pc = .ok (.caload, 1)) (A : Ark Z h a .char vs) (hj : j.toInt = i) (hv : vs[i]? = some v) (hn : pc + 1 = n) (K : Run p e below s n0 fc fs Q (T.setTop (mkF m n ls (v :: st)))) : Run p e below s n0 fc fs Q (T.setTop (mkF m pc ls (.int j :: .ref a :: st))) := by
  subst hn; obtain ⟨q, L, i', j', Y, r1, r2, r3, r4⟩ := X
  obtain ⟨c', A, s1, -⟩ := A
  obtain ⟨g1, g2⟩ := arkIn s1 hj hv
  exact K.st fun _ k => Y.caload q.1 (j := j) (v := v) (by rw [r1]; exact A.1) (State.isArrayOf_alike q.2.1.alike A.2.1) A.2.2 g1 g2 (g := mkF m pc ls (.int j :: .ref a :: st)) rfl rfl (q.2.2.1 ▸ hd) _ k
theorem baload (X : Sd Z y bytes maxL ret p l e R s m args below meth c n0 h kc ks T) {pc n i : Nat} {ls : Array Slot} {st : List Value} {j : Int32} (hd : decode bytes pc = .ok (.baload, 1)) (A : Ark Z h a .byte vs) (hj : j.toInt = i) (hv : vs[i]? = some v) (hn : pc + 1 = n) (K : Run p e below s n0 fc fs Q (T.setTop (mkF m n ls (v :: st)))) : Run p e below s n0 fc fs Q (T.setTop (mkF m pc ls (.int j :: .ref a :: st))) := by
  subst hn; obtain ⟨q, L, i', j', Y, r1, r2, r3, r4⟩ := X
  obtain ⟨c', A, s1, -⟩ := A
  obtain ⟨g1, g2⟩ := arkIn s1 hj hv
  exact K.st fun _ k => Y.baloadBytes q.1 (j := j) (v := v) (by rw [r1]; exact A.1) (State.isArrayOf_alike q.2.1.alike A.2.1) A.2.2 g1 g2 (g := mkF m pc ls (.int j :: .ref a :: st)) rfl rfl (q.2.2.1 ▸ hd) _ k
theorem aaload (X : Sd Z y bytes maxL ret p l e R s m args below meth c n0 h kc ks T) {pc n i : Nat} {ls : Array Slot} {st : List Value} {j : Int32} (hd : decode bytes pc = .ok (.aaload, 1)) (A : Ark Z h a ty vs) (ht : ty.isReference = true) (hj : j.toInt = i) (hv : vs[i]? = some v) (hn : pc + 1 = n) (K : Run p e below s n0 fc fs Q (T.setTop (mkF m n ls (v :: st)))) : Run p e below s n0 fc fs Q (T.setTop (mkF m pc ls (.int j :: .ref a :: st))) := by
  subst hn; obtain ⟨q, L, i', j', Y, r1, r2, r3, r4⟩ := X
  obtain ⟨c', A, s1, -⟩ := A
  obtain ⟨g1, g2⟩ := arkIn s1 hj hv
  exact K.st fun _ k => Y.aaload q.1 (j := j) (v := v) (by rw [r1]; exact A.1) (State.isArrayOf_alike q.2.1.alike A.2.1) ht A.2.2 g1 g2 (g := mkF m pc ls (.int j :: .ref a :: st)) rfl rfl (q.2.2.1 ▸ hd) _ k
theorem arraylength (X : Sd Z y bytes maxL ret p l e R s m args below meth c n0 h kc ks T) {pc n : Nat} {ls : Array Slot} {st : List Value} {z : Int32} (hd : decode bytes pc = .ok (.arraylength, 1)) (A : Ark Z h a ty vs) (hz : vs.length.toInt32 = z) (hn : pc + 1 = n) (K : Run p e below s n0 fc fs Q (T.setTop (mkF m n ls (.int z :: st)))) : Run p e below s n0 fc fs Q (T.setTop (mkF m pc ls (.ref a :: st))) := by
  subst hn hz; obtain ⟨q, L, i', j', Y, r1, r2, r3, r4⟩ := X
  obtain ⟨c', A, s1, -⟩ := A
  have e1 : c'.slots.size = vs.length := by rw [s1]; simp
  exact K.st fun _ k => Y.arraylength q.1 (by rw [r1]; exact A.1) (State.isArrayOf_alike q.2.1.alike A.2.1) (g := mkF m pc ls (.ref a :: st)) rfl rfl (q.2.2.1 ▸ hd) _ (by rw [e1]; exact k)
theorem Ark.set {c' : Cell} (A : Arr Z h a c' ty) (s1 : c'.slots = vs.toArray) (s2 : vs.length < 2147483648) (s3 : ∀ v ∈ vs, fits ty v = true) {i : Nat} (hv : fits ty v = true) (W : Wr h h' a i v) : Ark Z h' a ty (vs.set i v) := by
  refine ⟨_, A.same W, by simp [Cell.setSlot, s1], by simpa using s2, fun u hu => ?_⟩
  rcases List.mem_or_eq_of_mem_set hu with q | q
  · exact s3 u q
  · exact q ▸ hv
theorem iastore (X : Sd Z y bytes maxL ret p l e R s m args below meth c n0 h kc ks T) {pc n i : Nat} {ls : Array Slot} {st : List Value} {j x z : Int32} (hd : decode bytes pc = .ok (.iastore, 1)) (A : Ark Z h a .int vs) (hj : j.toInt = i) (hi : i < vs.length) (hz : x = z) (hfr : n0 ≤ a) (hn : pc + 1 = n) (K : ∀ T' h', Sd Z y bytes maxL ret p l e R s m args below meth c n0 h' kc ks T' → Wr h h' a i (.int z) → Ark Z h' a .int (vs.set i (.int z)) → Run p e below s n0 fc fs Q (T'.setTop (mkF m n ls st))) : Run p e below s n0 fc fs Q (T.setTop (mkF m pc ls (.int x :: .int j :: .ref a :: st))) := by
  subst hn hz; obtain ⟨q, L, i', j', Y, r1, r2, r3, r4⟩ := X
  obtain ⟨c', A, s1, s2, s3⟩ := A
  obtain ⟨g1, -⟩ := arkIn s1 hj (List.getElem?_eq_getElem hi)
  obtain ⟨T', h', Y', e', W, stp⟩ := stI Y q.1 q.2.1 r1 A g1 (g := mkF m pc ls (.int x :: .int j :: .ref a :: st)) rfl rfl (q.2.2.1 ▸ hd)
  rw [(toNatC hj).1] at W
  exact (K T' h' ⟨q, _, _, _, Y', e', Fr.snoc Y' r2 hfr, r3, r4⟩ W (Ark.set A s1 s2 s3 rfl W)).st stp
theorem castore (X : Sd Z y bytes maxL ret p l e R s m args below meth c n0 h kc ks T) {pc n i : Nat} {ls : Array Slot} {st : List Value} {j x z : Int32} (hd : decode bytes pc = .ok (.castore, 1)) (A : Ark Z h a .char vs) (hj : j.toInt = i) (hi : i < vs.length) (hz : (nar .char x) = z) (hfr : n0 ≤ a) (hn : pc + 1 = n) (K : ∀ T' h', Sd Z y bytes maxL ret p l e R s m args below meth c n0 h' kc ks T' → Wr h h' a i (.int z) → Ark Z h' a .char (vs.set i (.int z)) → Run p e below s n0 fc fs Q (T'.setTop (mkF m n ls st))) : Run p e below s n0 fc fs Q (T.setTop (mkF m pc ls (.int x :: .int j :: .ref a :: st))) := by
  subst hn hz; obtain ⟨q, L, i', j', Y, r1, r2, r3, r4⟩ := X
  obtain ⟨c', A, s1, s2, s3⟩ := A
  obtain ⟨g1, -⟩ := arkIn s1 hj (List.getElem?_eq_getElem hi)
  obtain ⟨T', h', Y', e', W, stp⟩ := stC Y q.1 q.2.1 r1 A g1 (g := mkF m pc ls (.int x :: .int j :: .ref a :: st)) rfl rfl (q.2.2.1 ▸ hd)
  rw [(toNatC hj).1] at W
  exact (K T' h' ⟨q, _, _, _, Y', e', Fr.snoc Y' r2 hfr, r3, r4⟩ W (Ark.set A s1 s2 s3 (fits_nar_char _) W)).st stp
theorem bastore (X : Sd Z y bytes maxL ret p l e R s m args below meth c n0 h kc ks T) {pc n i : Nat} {ls : Array Slot} {st : List Value} {j x z : Int32} (hd : decode bytes pc = .ok (.bastore, 1)) (A : Ark Z h a .byte vs) (hj : j.toInt = i) (hi : i < vs.length) (hz : (nar .byte x) = z) (hfr : n0 ≤ a) (hn : pc + 1 = n) (K : ∀ T' h', Sd Z y bytes maxL ret p l e R s m args below meth c n0 h' kc ks T' → Wr h h' a i (.int z) → Ark Z h' a .byte (vs.set i (.int z)) → Run p e below s n0 fc fs Q (T'.setTop (mkF m n ls st))) : Run p e below s n0 fc fs Q (T.setTop (mkF m pc ls (.int x :: .int j :: .ref a :: st))) := by
  subst hn hz; obtain ⟨q, L, i', j', Y, r1, r2, r3, r4⟩ := X
  obtain ⟨c', A, s1, s2, s3⟩ := A
  obtain ⟨g1, -⟩ := arkIn s1 hj (List.getElem?_eq_getElem hi)
  obtain ⟨T', h', Y', e', W, stp⟩ := stB Y q.1 q.2.1 r1 A g1 (g := mkF m pc ls (.int x :: .int j :: .ref a :: st)) rfl rfl (q.2.2.1 ▸ hd)
  rw [(toNatC hj).1] at W
  exact (K T' h' ⟨q, _, _, _, Y', e', Fr.snoc Y' r2 hfr, r3, r4⟩ W (Ark.set A s1 s2 s3 (fits_nar_byte _) W)).st stp
theorem newarray (X : Sd Z y bytes maxL ret p l e R s m args below meth c n0 h kc ks T) {pc n len cap : Nat} {ls : Array Slot} {st : List Value} {k : Int32} {aty : ArrayType} (hd : decode bytes pc = .ok (.newarray aty, 2)) (w : (Cond.arrayClass (newarray.typeOf aty)).before a0 Z = true) (hk : k.toInt = len) (hcap : len ≤ cap) (hb : cap * 8 ≤ 536870912) (hc : kc + 1 ≤ R.cells) (hl : ks + cap ≤ R.slots) (hn : pc + 2 = n) (K : ∀ T' h' a, a = h.size → Sd Z y bytes maxL ret p l e R s m args below meth c n0 h' (kc + 1) (ks + cap) T' → Ext h h' → Ark Z h' a (newarray.typeOf aty) (List.replicate len (defaultValue (newarray.typeOf aty))) → Run p e below s n0 fc fs Q (T'.setTop (mkF m n ls (.ref a :: st)))) : Run p e below s n0 fc fs Q (T.setTop (mkF m pc ls (.int k :: st))) := by
  subst hn; obtain ⟨q, L, i', j', Y, r1, r2, r3, r4⟩ := X
  obtain ⟨g1, g2⟩ := toNatC hk
  obtain ⟨T', h', cA, Y', e', E, A, stp⟩ := newP Y q.1 q.2.1 w r1 (g := mkF m pc ls (.int k :: st)) rfl (q.2.2.1 ▸ hd) rfl g2 (cap := cap) (by omega) hb (by omega) (by omega)
  have hA : Ark Z h' h.size (newarray.typeOf aty) (List.replicate len (defaultValue (newarray.typeOf aty))) := by
    refine ⟨_, A, by simp [newA, g1], by simp; omega, fun v hv => ?_⟩
    rw [List.eq_of_mem_replicate hv]; cases aty <;> rfl
  exact (K T' h' _ rfl ⟨q, _, _, _, Y', e', r2, by omega, by omega⟩ E hA).st stp
theorem new (X : Sd Z y bytes maxL ret p l e R s m args below meth c n0 h kc ks T) {pc n index k : Nat} {ls : Array Slot} {st : List Value} (hd : decode bytes pc = .ok (.new index, 3)) (w : (Cond.classLink y.cls index C).before a0 Z = true) (wi : (Cond.instantiable C k).before a0 Z = true) (wz : (Cond.initialized C).before a0 Z = true) (hc : kc + 1 ≤ R.cells) (hl : ks + k ≤ R.slots) (hn : pc + 3 = n) (K : ∀ T' h' a, a = h.size → Sd Z y bytes maxL ret p l e R s m args below meth c n0 h' (kc + 1) (ks + k) T' → Ext h h' → Exa Z h' a C → (∀ {O nm d : String} {ty : FieldType}, Laid Z a0 C O nm d → parseFieldDescriptor d = some ty → Fld Z h' a O nm d (defaultValue ty)) → Unt h' a → Run p e below s n0 fc fs Q (T'.setTop (mkF m n ls (.ref a :: st)))) : Run p e below s n0 fc fs Q (T.setTop (mkF m pc ls st)) := by
  subst hn; obtain ⟨q, L, i', j', Y, r1, r2, r3, r4⟩ := X
  obtain ⟨T', h', Y', e', E, A, D, U, stp⟩ := newO Y q.1 q.2.1 q.2.2.2.2.2.2.1 w wi wz r1 (g := mkF m pc ls st) rfl (q.2.2.1 ▸ hd) (by omega) (by omega)
  exact (K T' h' _ rfl ⟨q, _, _, _, Y', e', r2, by omega, by omega⟩ E A D U).st stp
theorem putfield (X : Sd Z y bytes maxL ret p l e R s m args below meth c n0 h kc ks T) {pc n index k : Nat} {ls : Array Slot} {st : List Value} {R0 O : String} {v v' old : Value} (hd : decode bytes pc = .ok (.putfield index, 3)) (w : (Cond.fieldLink y.cls index R0 f d).before a0 Z = true) (via : Via Z R0 O f d) (F : Fld Z h a O f d old) (E : Exa Z h a C) (L : (Cond.lays C O f d).before a0 Z = true ∨ ((Cond.laysFinal C O f d).before a0 Z = true ∧ y.cls = O ∧ y.name = "<init>")) (wi : (Cond.instantiable C k).before a0 Z = true) (hty : parseFieldDescriptor d = some ty) (hv : narrow ty v = v') (hf : fits ty v' = true) (hfr : n0 ≤ a) (hn : pc + 3 = n) (K : ∀ T' h', Sd Z y bytes maxL ret p l e R s m args below meth c n0 h' kc ks T' → Wr h h' a (RoadKit.slotOf Z O f d) v' → Fld Z h' a O f d v' → Run p e below s n0 fc fs Q (T'.setTop (mkF m n ls st))) : Run p e below s n0 fc fs Q (T.setTop (mkF m pc ls (v :: .ref a :: st))) := by
  subst hn; obtain ⟨q, L', i', j', Y, r1, r2, r3, r4⟩ := X
  obtain ⟨T', h', Y', e', W, stp⟩ := putFN Y q.1 q.2.1 q.2.2.2.2.2.2.1 w via r1 F E (L.imp id fun x => ⟨x.1, x.2.1, q.2.2.2.2.2.2.2.trans x.2.2⟩) wi hty hv hf (g := mkF m pc ls (v :: .ref a :: st)) rfl rfl (q.2.2.1 ▸ hd)
  exact (K T' h' ⟨q, _, _, _, Y', e', Fr.snoc Y' r2 hfr, r3, r4⟩ W (F.same W)).st stp
theorem initObj (X : Sd Z y bytes maxL ret p l e R s m args below meth c n0 h kc ks T) {pc n index W : Nat} {ls : Array Slot} {st : List Value} (hd : decode bytes pc = .ok (.invokespecial index, 3)) (w1 : (Cond.methodLink y.cls index Lib.objectInit).before a0 Z = true) (w2 : (Cond.instanceMethod Lib.objectInit).before a0 Z = true) (w3 : (Cond.code Lib.objectInit ⟨#[0xb1]⟩ 1 none).before a0 Z = true) (hsize : ls.size = maxL) (hf : 1 ≤ R.frames) (hW : (st.map fun v => v.category).sum ≤ W) (hl : W + 12 ≤ R.locals) (hn : pc + 3 = n) (K : ∀ T', Sd Z y bytes maxL ret p l e R s m args below meth c n0 h kc ks T' → Run p e below s n0 fc fs Q (T'.setTop (mkF m n ls st))) : Run p e below s n0 fc fs Q (T.setTop (mkF m pc ls (.ref a :: st))) := by
  subst hn; obtain ⟨q, L', i', j', Y, r1, r2, r3, r4⟩ := X
  obtain ⟨T', Y', e', stp⟩ := initO Y q.1 q.2.1 q.2.2.2.2.2.2.1 w1 w2 w3 r1 (g := mkF m pc ls (.ref a :: st)) rfl (by rw [q.2.2.2.1]; exact hsize) rfl (q.2.2.1 ▸ hd) hf (W := W) (by simpa using hW) hl
  exact (K T' ⟨q, _, _, _, Y', e', r2, r3, r4⟩).st stp
theorem call_special (X : Sd Z y bytes maxL ret p l e R s m args below meth c n0 h kc ks T) {rm : Room} {ybytes : ByteArray} {yL : Nat} {yret : Option FieldType} {z : MethodName} {Qn : Heap → Prop} {pc n index W : Nat} {ls : Array Slot} {st rest argsL : List Value} {a : Addr} (hd : decode bytes pc = .ok (.invokespecial index, 3)) (w1 : (Cond.methodLink y.cls index z).before a0 Z = true) (w2 : (Cond.instanceMethod z).before a0 Z = true) (wc : (Cond.code z ybytes yL yret).before a0 Z = true) (wi : (Cond.initialized z.cls).before a0 Z = true) (hz : z.name = "<init>") (hr : yret = none) (hy : z.cls ≠ "java/lang/invoke/MethodHandle" ∧ z.cls ≠ "java/lang/invoke/VarHandle") (hC : Ctr l Z z ybytes yL yret [] rm n0 (.ref a :: argsL).toArray h (Rn Qn)) (hst : st = argsL.reverse ++ .ref a :: rest) (hsize : ls.size = maxL) (hlen : ∀ sig, parseMethodDescriptor z.desc = some sig → argsL.length = sig.parameters.length) (hW : (rest.map fun v => v.category).sum ≤ W) (hfr : rm.frames + 1 ≤ R.frames) (hlo : W + (yL + 11) + rm.locals ≤ R.locals) (hce : kc + rm.cells ≤ R.cells) (hsl : ks + rm.slots ≤ R.slots) (hn : pc + 3 = n) (K : ∀ T' h', Sd Z y bytes maxL ret p l e R s m args below meth c n0 h' (kc + rm.cells) (ks + rm.slots) T' → Qn h' → Run p e below s n0 fc fs Q (T'.setTop (mkF m n ls rest))) : Run p e below s n0 fc fs Q (T.setTop (mkF m pc ls st)) := by
  subst hn hst hr; obtain ⟨q, L, i, j, Y, r1, r2, r3, r4⟩ := X
  have hC' : MetFree l z (head1 [Cond.code z ybytes yL none] rm) (fun a' U => a' = (.ref a :: argsL).toArray ∧ Z.Warmed39 U.vm ∧ U.heap = h) (fun _ _ _ _ _ => True) (fun _ U o U' => ∃ v L, o = .returned v ∧ (Rn Qn v U'.heap ∧ Fr n0 L) ∧ FrameEnd U o U' L rm.cells rm.slots) := hC
  have hB := backOf (W := W) (R := R) (p := p) (e := e) (below := below) (args := args) (len := 3) (Q := fun v hh L => Rn Qn v hh ∧ Fr n0 L) hC' q.2.1 wc wi hfr hlo
  obtain ⟨v, vm₁, ⟨T', L', k', n'⟩, -, Y', ⟨Lc, hQ, l', y', z'⟩, stp⟩ := Y.specialBack q.1 (y := z) hz q.2.2.2.2.2.2.1 (mvT q.2.1 w1) (mvT q.2.1 w2) (mvT q.2.1 wc) hy hB (g := mkF m pc ls (argsL.reverse ++ .ref a :: rest)) rfl (by rw [q.2.2.2.1]; exact hsize) (Steps.refl _) (a := a) (argsL := argsL) (rest := rest) hlen rfl (by simpa using hW) (q.2.2.1 ▸ hd) (fun _ _ => ⟨rfl, r1, by dsimp only [Pt.cells]; omega, by dsimp only [Pt.slots]; omega⟩)
  dsimp only [Pt.U, Pt.locs, Pt.cells, Pt.slots] at Y' l' y' z' stp hQ
  obtain ⟨⟨rfl, hQ1⟩, hQ2⟩ := hQ
  subst l' y' z'
  exact (K T' T'.heap ⟨q, _, _, _, Y', rfl, Fr.app r2 hQ2, by omega, by omega⟩ hQ1).st fun t k => stp.trans k
theorem bk_static (X : Sd Z y bytes maxL ret p l e R s m args below meth c n0 h kc ks T) {z : MethodName} {as : Array Value} {QL : Option Value → Heap → List Loc → Prop} {ck sk pc n index W : Nat} {ls : Array Slot} {st rest argsL : List Value} (hd : decode bytes pc = .ok (.invokestatic index, 3)) (w1 : (Cond.methodLink y.cls index z).before a0 Z = true) (w2 : (Cond.static z).before a0 Z = true) (wi : (Cond.initialized z.cls).before a0 Z = true) {ybytes : ByteArray} {yL : Nat} {yret : Option FieldType} (wc : (Cond.code z ybytes yL yret).before a0 Z = true) (hy : z.cls ≠ "java/lang/invoke/MethodHandle" ∧ z.cls ≠ "java/lang/invoke/VarHandle") (hB : Back l R p e below s args z 3 W (fun P a' => a' = argsL.toArray ∧ P.U.heap = h ∧ P.cells + ck ≤ R.cells ∧ P.slots + sk ≤ R.slots) (fun P _ v B => ∃ L, QL v B.U.heap L ∧ B.locs = P.locs ++ L ∧ B.cells = P.cells + ck ∧ B.slots = P.slots + sk)) (hF : ∀ v h' L, QL v h' L → Fr n0 L) (hst : st = argsL.reverse ++ rest) (hsize : ls.size = maxL) (hlen : ∀ sig, parseMethodDescriptor z.desc = some sig → argsL.length = sig.parameters.length) (hW : (rest.map fun v => v.category).sum ≤ W) (hce : kc + ck ≤ R.cells) (hsl : ks + sk ≤ R.slots) (hn : pc + 3 = n) (K : ∀ T' h' v L, Sd Z y bytes maxL ret p l e R s m args below meth c n0 h' (kc + ck) (ks + sk) T' → QL v h' L → Run p e below s n0 fc fs Q (T'.setTop (mkF m n ls (v.toList ++ rest)))) : Run p e below s n0 fc fs Q (T.setTop (mkF m pc ls st)) := by
  subst hn hst; obtain ⟨q, L, i, j, Y, r1, r2, r3, r4⟩ := X
  obtain ⟨v, vm₁, ⟨T', L', k', n'⟩, -, Y', ⟨Lc, hQ, l', y', z'⟩, stp⟩ := Jvm.LawKit.callS Y q.1 (y := z) q.2.2.2.2.2.2.1 (mvT q.2.1 w1) (mvT q.2.1 w2) (mvT q.2.1 wi) (mvT q.2.1 wc) hy hB (g := mkF m pc ls (argsL.reverse ++ rest)) rfl (by rw [q.2.2.2.1]; exact hsize) (argsL := argsL) (rest := rest) hlen rfl (by simpa using hW) (q.2.2.1 ▸ hd) (fun _ _ => ⟨rfl, r1, by dsimp only [Pt.cells]; omega, by dsimp only [Pt.slots]; omega⟩)
  dsimp only [Pt.U, Pt.locs, Pt.cells, Pt.slots] at Y' l' y' z' stp hQ
  subst l' y' z'
  exact (K T' T'.heap v Lc ⟨q, _, _, _, Y', rfl, Fr.app r2 (hF _ _ _ hQ), by omega, by omega⟩ hQ).st fun t k => stp t k
theorem bk_virtual (X : Sd Z y bytes maxL ret p l e R s m args below meth c n0 h kc ks T) {z : MethodName} {as : Array Value} {QL : Option Value → Heap → List Loc → Prop} {ck sk pc n index W : Nat} {ls : Array Slot} {st rest argsL : List Value} {a : Addr} {C : String} {yv : MethodName} (hd : decode bytes pc = .ok (.invokevirtual index, 3)) (w1 : (Cond.methodLink y.cls index yv).before a0 Z = true) (w2 : (Cond.declares yv).before a0 Z = true) (w3 : (Cond.instanceMethod z).before a0 Z = true) (w4 : (Cond.selects C yv z).before a0 Z = true) (hnf : ∀ {s' : State}, Z.Warmed39 s'.vm → NotFace s' yv) (hy : yv.cls ≠ "java/lang/invoke/MethodHandle" ∧ yv.cls ≠ "java/lang/invoke/VarHandle") (E : Exa Z h a C) (hB : Back l R p e below s args z 3 W (fun P a' => a' = (.ref a :: argsL).toArray ∧ P.U.heap = h ∧ P.cells + ck ≤ R.cells ∧ P.slots + sk ≤ R.slots) (fun P _ v B => ∃ L, QL v B.U.heap L ∧ B.locs = P.locs ++ L ∧ B.cells = P.cells + ck ∧ B.slots = P.slots + sk)) (hF : ∀ v h' L, QL v h' L → Fr n0 L) (hst : st = argsL.reverse ++ .ref a :: rest) (hsize : ls.size = maxL) (hlen : ∀ sig, parseMethodDescriptor yv.desc = some sig → argsL.length = sig.parameters.length) (hW : (rest.map fun v => v.category).sum ≤ W) (hce : kc + ck ≤ R.cells) (hsl : ks + sk ≤ R.slots) (hn : pc + 3 = n) (K : ∀ T' h' v L, Sd Z y bytes maxL ret p l e R s m args below meth c n0 h' (kc + ck) (ks + sk) T' → QL v h' L → Run p e below s n0 fc fs Q (T'.setTop (mkF m n ls (v.toList ++ rest)))) : Run p e below s n0 fc fs Q (T.setTop (mkF m pc ls st)) := by
  subst hn hst; obtain ⟨q, L, i, j, Y, r1, r2, r3, r4⟩ := X
  obtain ⟨cq, kq, qa, qb, qc⟩ := isOf (T := T) q.2.1 r1 E
  obtain ⟨v, vm₁, ⟨T', L', k', n'⟩, -, Y', ⟨Lc, hQ, l', y', z'⟩, stp⟩ := Y.virtualBack q.1 (y := yv) (z := z) q.2.2.2.2.2.2.1 (mvT q.2.1 w1) (mvT q.2.1 w2) (hnf q.2.1) (mvT q.2.1 w4) (mvT q.2.1 w3) hy hB qa qc (g := mkF m pc ls (argsL.reverse ++ .ref a :: rest)) rfl (by rw [q.2.2.2.1]; exact hsize) (Steps.refl _) (argsL := argsL) (rest := rest) hlen rfl (by simpa using hW) (q.2.2.1 ▸ hd) (fun _ _ => ⟨rfl, r1, by dsimp only [Pt.cells]; omega, by dsimp only [Pt.slots]; omega⟩)
  dsimp only [Pt.U, Pt.locs, Pt.cells, Pt.slots] at Y' l' y' z' stp hQ
  subst l' y' z'
  exact (K T' T'.heap v Lc ⟨q, _, _, _, Y', rfl, Fr.app r2 (hF _ _ _ hQ), by omega, by omega⟩ hQ).st fun t k => stp.trans k
theorem bk_special (X : Sd Z y bytes maxL ret p l e R s m args below meth c n0 h kc ks T) {z : MethodName} {as : Array Value} {QL : Option Value → Heap → List Loc → Prop} {ck sk pc n index W : Nat} {ls : Array Slot} {st rest argsL : List Value} {a : Addr} (hd : decode bytes pc = .ok (.invokespecial index, 3)) (w1 : (Cond.methodLink y.cls index z).before a0 Z = true) (w2 : (Cond.instanceMethod z).before a0 Z = true) {ybytes : ByteArray} {yL : Nat} (wc : (Cond.code z ybytes yL none).before a0 Z = true) (hz : z.name = "<init>") (hy : z.cls ≠ "java/lang/invoke/MethodHandle" ∧ z.cls ≠ "java/lang/invoke/VarHandle") (hB : Back l R p e below s args z 3 W (fun P a' => a' = (.ref a :: argsL).toArray ∧ P.U.heap = h ∧ P.cells + ck ≤ R.cells ∧ P.slots + sk ≤ R.slots) (fun P _ v B => ∃ L, QL v B.U.heap L ∧ B.locs = P.locs ++ L ∧ B.cells = P.cells + ck ∧ B.slots = P.slots + sk)) (hF : ∀ v h' L, QL v h' L → Fr n0 L) (hst : st = argsL.reverse ++ .ref a :: rest) (hsize : ls.size = maxL) (hlen : ∀ sig, parseMethodDescriptor z.desc = some sig → argsL.length = sig.parameters.length) (hW : (rest.map fun v => v.category).sum ≤ W) (hce : kc + ck ≤ R.cells) (hsl : ks + sk ≤ R.slots) (hn : pc + 3 = n) (K : ∀ T' h' v L, Sd Z y bytes maxL ret p l e R s m args below meth c n0 h' (kc + ck) (ks + sk) T' → QL v h' L → Run p e below s n0 fc fs Q (T'.setTop (mkF m n ls (v.toList ++ rest)))) : Run p e below s n0 fc fs Q (T.setTop (mkF m pc ls st)) := by
  subst hn hst; obtain ⟨q, L, i, j, Y, r1, r2, r3, r4⟩ := X
  obtain ⟨v, vm₁, ⟨T', L', k', n'⟩, -, Y', ⟨Lc, hQ, l', y', z'⟩, stp⟩ := Y.specialBack q.1 (y := z) hz q.2.2.2.2.2.2.1 (mvT q.2.1 w1) (mvT q.2.1 w2) (mvT q.2.1 wc) hy hB (g := mkF m pc ls (argsL.reverse ++ .ref a :: rest)) rfl (by rw [q.2.2.2.1]; exact hsize) (Steps.refl _) (a := a) (argsL := argsL) (rest := rest) hlen rfl (by simpa using hW) (q.2.2.1 ▸ hd) (fun _ _ => ⟨rfl, r1, by dsimp only [Pt.cells]; omega, by dsimp only [Pt.slots]; omega⟩)
  dsimp only [Pt.U, Pt.locs, Pt.cells, Pt.slots] at Y' l' y' z' stp hQ
  subst l' y' z'
  exact (K T' T'.heap v Lc ⟨q, _, _, _, Y', rfl, Fr.app r2 (hF _ _ _ hQ), by omega, by omega⟩ hQ).st fun t k => stp.trans k
theorem checkcast (X : Sd Z y bytes maxL ret p l e R s m args below meth c n0 h kc ks T) {pc n index : Nat} {ls : Array Slot} {st : List Value} (hd : decode bytes pc = .ok (.checkcast index, 3)) (w : (Cond.classLink y.cls index C).before a0 Z = true) (F : Ins Z h a C true) (hn : pc + 3 = n) (K : ∀ T', Sd Z y bytes maxL ret p l e R s m args below meth c n0 h kc ks T' → Run p e below s n0 fc fs Q (T'.setTop (mkF m n ls (.ref a :: st)))) : Run p e below s n0 fc fs Q (T.setTop (mkF m pc ls (.ref a :: st))) := by
  subst hn; obtain ⟨q, L, i, j, Y, r1, r2, r3, r4⟩ := X
  obtain ⟨T', Y', e', stp⟩ := castY Y q.1 q.2.1 q.2.2.2.2.2.2.1 w r1 F (g := mkF m pc ls (.ref a :: st)) rfl rfl (q.2.2.1 ▸ hd)
  exact (K T' ⟨q, _, _, _, Y', e', r2, r3, r4⟩).st stp
theorem instanceofY (X : Sd Z y bytes maxL ret p l e R s m args below meth c n0 h kc ks T) {pc n index : Nat} {ls : Array Slot} {st : List Value} (hd : decode bytes pc = .ok (.instanceof index, 3)) (w : (Cond.classLink y.cls index C).before a0 Z = true) (F : Ins Z h a C true) (hn : pc + 3 = n) (K : ∀ T', Sd Z y bytes maxL ret p l e R s m args below meth c n0 h kc ks T' → Run p e below s n0 fc fs Q (T'.setTop (mkF m n ls (.int 1 :: st)))) : Run p e below s n0 fc fs Q (T.setTop (mkF m pc ls (.ref a :: st))) := by
  subst hn; obtain ⟨q, L, i, j, Y, r1, r2, r3, r4⟩ := X
  obtain ⟨T', Y', e', stp⟩ := instY Y q.1 q.2.1 q.2.2.2.2.2.2.1 w r1 F (g := mkF m pc ls (.ref a :: st)) rfl rfl (q.2.2.1 ▸ hd)
  exact (K T' ⟨q, _, _, _, Y', e', r2, r3, r4⟩).st stp
theorem clone (X : Sd Z y bytes maxL ret p l e R s m args below meth c n0 h kc ks T) {pc n index W cap : Nat} {ls : Array Slot} {st : List Value} {ad : String} (hd : decode bytes pc = .ok (.invokevirtual index, 3)) (w1 : (Cond.methodLink y.cls index ⟨ad, "clone", "()Ljava/lang/Object;"⟩).before a0 Z = true) (w2 : (Cond.sameMethod ad "java/lang/Object" "clone" "()Ljava/lang/Object;").before a0 Z = true) (w3 : (Cond.native ⟨"java/lang/Object", "clone", "()Ljava/lang/Object;"⟩).before a0 Z = true) (w4 : (Cond.instanceMethod ⟨"java/lang/Object", "clone", "()Ljava/lang/Object;"⟩).before a0 Z = true) (w5 : (Cond.selects ad ⟨ad, "clone", "()Ljava/lang/Object;"⟩ ⟨"java/lang/Object", "clone", "()Ljava/lang/Object;"⟩).before a0 Z = true) (w6 : (Cond.castable ad "java/lang/Cloneable").before a0 Z = true) (A : Ark Z h a ty vs) (E : Exa Z h a ad) (hsize : ls.size = maxL) (hf : 1 ≤ R.frames) (hW : (st.map fun v => v.category).sum ≤ W) (hl : W + 14 ≤ R.locals) (hcap : vs.length ≤ cap) (hc : kc + 1 ≤ R.cells) (hsl : ks + cap ≤ R.slots) (hn : pc + 3 = n) (K : ∀ T' h' b, b = h.size → Sd Z y bytes maxL ret p l e R s m args below meth c n0 h' (kc + 1) (ks + cap) T' → Ext h h' → Ark Z h' b ty vs → Exa Z h' b ad → Run p e below s n0 fc fs Q (T'.setTop (mkF m n ls (.ref b :: st)))) : Run p e below s n0 fc fs Q (T.setTop (mkF m pc ls (.ref a :: st))) := by
  subst hn; obtain ⟨q, L, i, j, Y, r1, r2, r3, r4⟩ := X
  obtain ⟨c', A, s1, s2, s3⟩ := A
  have e1 : c'.slots.size = vs.length := by rw [s1]; simp
  have FC : FitC Z c' := fitC_of A fun i hi v hv => by
    rw [s1] at hv
    exact s3 v (List.mem_of_getElem? (i := i) (by simpa using hv))
  obtain ⟨T', h', Y', e', ex, A', E', stp⟩ := cloneA Y q.1 q.2.1 q.2.2.2.2.2.2.1 w1 w2 w3 w4 w5 w6 r1 A E FC (g := mkF m pc ls (.ref a :: st)) rfl (by rw [q.2.2.2.1]; exact hsize) rfl (q.2.2.1 ▸ hd) hf (W := W) (cap := cap) (by simpa using hW) hl (by rw [e1]; exact hcap) (by omega) (by omega)
  exact (K T' h' _ rfl ⟨q, _, _, _, Y', e', r2, by omega, by omega⟩ ex ⟨_, A', s1, s2, s3⟩ E').st stp
theorem ldcStr (X : Sd Z y bytes maxL ret p l e R s m args below meth c n0 h kc ks T) {pc n index : Nat} {ls : Array Slot} {st : List Value} {text : String} (hd : decode bytes pc = .ok (.ldc index, 2)) (w : (Cond.stringRef y.cls index text).before a0 Z = true) (L : RoadKit.Lit Z y.cls index a) (hn : pc + 2 = n) (K : Run p e below s n0 fc fs Q (T.setTop (mkF m n ls (.ref a :: st)))) : Run p e below s n0 fc fs Q (T.setTop (mkF m pc ls st)) := by
  subst hn; obtain ⟨q, L', i, j, Y, -⟩ := X
  exact K.st fun _ k => ldcR Y q.1 q.2.1 q.2.2.2.2.2.2.1 w L (g := mkF m pc ls st) rfl (q.2.2.1 ▸ hd) _ k
theorem lenOfTerm {args : Array Value} {first s : State} {o : Option Outcome} {idx : List Nat} {t : Term} {k : Int32} {a : Addr} {cl : Cell} {n : Nat} (hh : (Term.length t).eval args first o idx s = some (.int k)) (ht : t.eval args first o idx s = some (.ref a)) (hc : s.heap[a]? = some cl) (hk : k.toInt = n) : cl.slots.size = n := by
  simp only [Term.eval, ht, Option.bind_eq_bind, Option.bind_some] at hh
  obtain ⟨c2, h1, h2⟩ := Option.bind_eq_some_iff.mp hh
  have h3 := (State.arrayAt?_spec h1).1
  cases hc.symm.trans h3
  by_cases q : cl.slots.size < 2 ^ 31
  · simp only [q, if_true, Option.pure_def, Option.some.injEq, Value.int.injEq] at h2
    have h4 : (cl.slots.size.toInt32).toInt = cl.slots.size := Int32.toInt_ofNat_small q
    rw [h2, hk] at h4
    omega
  · simp [q] at h2
theorem eqR_v {args : Array Value} {first s : State} {o : Option Outcome} {idx : List Nat} {t u : Term} {a : Addr} (hh : (Jvm.Cond.eq t u).value args first o s idx = some true) (hu : u.eval args first o idx s = some (.ref a)) : t.eval args first o idx s = some (.ref a) := by
  simp only [Jvm.Cond.value, hu] at hh
  cases ht : t.eval args first o idx s with
  | none => simp [ht] at hh
  | some x => cases x <;> simp [ht] at hh ⊢; exact hh
/-- an array handed over from the start: its cell, its length, its values -/
theorem Ark.start (hf : Fit Z) {cl : Cell} (A : Arr Z Z.heap a cl ty) (hl : cl.slots.size = vs.length) (hb : vs.length < 2147483648) (H : ∀ i, i < vs.length → cl.slots[i]? = vs[i]?) : Ark Z Z.heap a ty vs := by
  have e1 : cl.slots = vs.toArray := by
    apply Array.ext
    · simpa using hl
    · intro i h1 h2
      have q := H i (by omega)
      rw [Array.getElem?_eq_getElem h1, List.getElem?_eq_getElem (by omega)] at q
      simpa using Option.some.inj q
  refine ⟨cl, A, e1, hb, fun v hv => ?_⟩
  obtain ⟨i, hi, rfl⟩ := List.getElem_of_mem hv
  have q := elem_fits hf A (j := Int32.ofNat i) (v := vs[i]) ?_ ?_
  · exact q
  · intro q
    have e2 : (Int32.ofNat i).toInt = i := Int32.toInt_ofNat_small (by omega)
    obtain ⟨g1, g2⟩ := toNatC e2
    rcases q with q | q
    · exact g2 q
    · rw [g1] at q; omega
  · have e2 : (Int32.ofNat i).toInt = i := Int32.toInt_ofNat_small (by omega)
    rw [(toNatC e2).1, e1]; simp
end B
end Jvm.OwnK
namespace Jvm.Pilot.@@N@@
open Jvm Jvm.ClassFile Sem Op Lib Jvm.Free Jvm.Stand Jvm.LawKit Jvm.RoadKit Jvm.OwnK Bundle Jvm.Pilot.@@N@@.Jvm.D
def own_sel (x0 x1 x2 x3 x4 : Addr) (p : Int32) : Addr := if p = 0 then x0 else if p = 1 then x1 else if p = 2 then x2 else if p = 3 then x3 else x4
theorem own_cases (x : Int32) : (x &&& 2147483647) % 5 = 0 ∨ (x &&& 2147483647) % 5 = 1 ∨ (x &&& 2147483647) % 5 = 2 ∨ (x &&& 2147483647) % 5 = 3 ∨ (x &&& 2147483647) % 5 = 4 := by
  have h1 := c_mask x 2147483647 31 (by decide) (by decide)
  have h2 := (c_irem (x &&& 2147483647) 5 5 (by decide)).1 (by rw [h1]; omega)
  have h3 : ((x &&& 2147483647) % 5).toInt = 0 ∨ ((x &&& 2147483647) % 5).toInt = 1 ∨ ((x &&& 2147483647) % 5).toInt = 2 ∨ ((x &&& 2147483647) % 5).toInt = 3 ∨ ((x &&& 2147483647) % 5).toInt = 4 := by omega
  rcases h3 with h | h | h | h | h
  · exact Or.inl (Int32.toInt_inj.mp h)
  · exact Or.inr (Or.inl (Int32.toInt_inj.mp h))
  · exact Or.inr (Or.inr (Or.inl (Int32.toInt_inj.mp h)))
  · exact Or.inr (Or.inr (Or.inr (Or.inl (Int32.toInt_inj.mp h))))
  · exact Or.inr (Or.inr (Or.inr (Or.inr ((Int32.toInt_inj.mp h)))))
theorem pn_com_example_brisk_crawl_briskcrawl_PageState : plainName "com/example/brisk_crawl/briskcrawl/PageState" = true := by first | (simp [plainName, overriddenIn]; done) | decide +kernel
theorem d2_0 : decode prog_6_method_1_code 0 = .ok (.getstatic 19, 3) := by decide +kernel
theorem d2_3 : decode prog_6_method_1_code 3 = .ok (.invokevirtual 23, 3) := by decide +kernel
theorem d2_6 : decode prog_6_method_1_code 6 = .ok (.checkcast 24, 3) := by decide +kernel
theorem d2_9 : decode prog_6_method_1_code 9 = .ok (.areturn, 1) := by decide +kernel
theorem ef_rm2 (m : MethodId)  : entryFrame m #[] 0 = mkF m 0 #[] [] := by first | (simp [entryFrame, mkF, argsToLocals, Value.category]; done) | rfl
set_option maxRecDepth 65536 in
set_option maxHeartbeats 40000000 in
theorem rm2 (l : Launch) (Z : State) (a0 : Array Value) (hw : ∀ d ∈ tables_1, d.before a0 Z = true) (ws : List Jvm.Cond)  (h0 : Heap) (n0 : Nat) (a__VALUES : Addr) (S__VALUES : Sta Z h0 "com/example/brisk_crawl/briskcrawl/PageState" "$VALUES" "[Lcom/example/brisk_crawl/briskcrawl/PageState;" (.ref a__VALUES)) (E__VALUES : Exa Z h0 a__VALUES "[Lcom/example/brisk_crawl/briskcrawl/PageState;") (a_PENDING : Addr) (S_PENDING : Sta Z h0 "com/example/brisk_crawl/briskcrawl/PageState" "PENDING" "Lcom/example/brisk_crawl/briskcrawl/PageState;" (.ref a_PENDING)) (E_PENDING : Exa Z h0 a_PENDING "com/example/brisk_crawl/briskcrawl/PageState") (a_ACTIVE : Addr) (S_ACTIVE : Sta Z h0 "com/example/brisk_crawl/briskcrawl/PageState" "ACTIVE" "Lcom/example/brisk_crawl/briskcrawl/PageState;" (.ref a_ACTIVE)) (E_ACTIVE : Exa Z h0 a_ACTIVE "com/example/brisk_crawl/briskcrawl/PageState") (a_COMPLETE : Addr) (S_COMPLETE : Sta Z h0 "com/example/brisk_crawl/briskcrawl/PageState" "COMPLETE" "Lcom/example/brisk_crawl/briskcrawl/PageState;" (.ref a_COMPLETE)) (E_COMPLETE : Exa Z h0 a_COMPLETE "com/example/brisk_crawl/briskcrawl/PageState") (a_ERROR : Addr) (S_ERROR : Sta Z h0 "com/example/brisk_crawl/briskcrawl/PageState" "ERROR" "Lcom/example/brisk_crawl/briskcrawl/PageState;" (.ref a_ERROR)) (E_ERROR : Exa Z h0 a_ERROR "com/example/brisk_crawl/briskcrawl/PageState") (a_EXCLUDED : Addr) (S_EXCLUDED : Sta Z h0 "com/example/brisk_crawl/briskcrawl/PageState" "EXCLUDED" "Lcom/example/brisk_crawl/briskcrawl/PageState;" (.ref a_EXCLUDED)) (E_EXCLUDED : Exa Z h0 a_EXCLUDED "com/example/brisk_crawl/briskcrawl/PageState") (F_PENDING_code : Fld Z h0 a_PENDING "com/example/brisk_crawl/briskcrawl/PageState" "code" "I" (.int (0 : Int32))) (F_ACTIVE_code : Fld Z h0 a_ACTIVE "com/example/brisk_crawl/briskcrawl/PageState" "code" "I" (.int (1 : Int32))) (F_COMPLETE_code : Fld Z h0 a_COMPLETE "com/example/brisk_crawl/briskcrawl/PageState" "code" "I" (.int (2 : Int32))) (F_ERROR_code : Fld Z h0 a_ERROR "com/example/brisk_crawl/briskcrawl/PageState" "code" "I" (.int (3 : Int32))) (F_EXCLUDED_code : Fld Z h0 a_EXCLUDED "com/example/brisk_crawl/briskcrawl/PageState" "code" "I" (.int (4 : Int32))) (A__VALUES : Ark Z h0 a__VALUES (.object "com/example/brisk_crawl/briskcrawl/PageState") [(.ref a_PENDING), (.ref a_ACTIVE), (.ref a_COMPLETE), (.ref a_ERROR), (.ref a_EXCLUDED)]) :
    Ctr l Z (⟨"com/example/brisk_crawl/briskcrawl/PageState", "values", "()[Lcom/example/brisk_crawl/briskcrawl/PageState;"⟩ : MethodName) prog_6_method_1_code 0 (some (.array (.object "com/example/brisk_crawl/briskcrawl/PageState"))) ws ({ frames := 1, cells := 1, slots := 5, locals := 14 } : Room) n0 #[] h0 (Rt (fun w h => ∃ b, w = .ref b ∧ Ext h0 h ∧ Ark Z h b (.object "com/example/brisk_crawl/briskcrawl/PageState") [(.ref a_PENDING), (.ref a_ACTIVE), (.ref a_COMPLETE), (.ref a_ERROR), (.ref a_EXCLUDED)])) := by
  refine Ctr.of pn_com_example_brisk_crawl_briskcrawl_PageState (fun m => ef_rm2 m ) ?_
  intro p e s m below meth c T0 X0
  refine OwnK.getstatic X0 (n := 3) d2_0 (hw _ (List.mem_of_getElem? (i := 8) rfl)) Via.refl S__VALUES rfl ?_
  intro T1 X1
  refine OwnK.clone X1 (n := 6) (W := 0) (cap := 5) (ad := "[Lcom/example/brisk_crawl/briskcrawl/PageState;") d2_3 (hw _ (List.mem_of_getElem? (i := 10) rfl)) (hw _ (List.mem_of_getElem? (i := 11) rfl)) (hw _ (List.mem_of_getElem? (i := 15) rfl)) (hw _ (List.mem_of_getElem? (i := 13) rfl)) (hw _ (List.mem_of_getElem? (i := 14) rfl)) (hw _ (List.mem_of_getElem? (i := 16) rfl)) A__VALUES E__VALUES rfl (by decide) (Nat.le_of_eq rfl) (by decide) (Nat.le_of_ble_eq_true rfl) (by decide) (by decide) rfl ?_
  intro T2 h2 b2 gb2 X2 E2 A2 Eb2
  refine OwnK.checkcast X2 (n := 9) d2_6 (hw _ (List.mem_of_getElem? (i := 23) rfl)) (Ins.self Eb2) rfl ?_
  intro T3 X3
  exact OwnK.areturn X3 rfl rfl rfl d2_9 ⟨_, rfl, E2, A2⟩ (by decide) (by decide)
theorem pd____Lcom_example_brisk_crawl_briskcrawl_PageState_ : parseMethodDescriptor "()[Lcom/example/brisk_crawl/briskcrawl/PageState;" = some ⟨[], some (.array (.object "com/example/brisk_crawl/briskcrawl/PageState"))⟩ := by decide +kernel
theorem d1_0 : decode prog_6_method_6_code 0 = .ok (.invokestatic 63, 3) := by decide +kernel
theorem d1_3 : decode prog_6_method_6_code 3 = .ok (.astore_n 1, 1) := by decide +kernel
theorem d1_4 : decode prog_6_method_6_code 4 = .ok (.aload_n 1, 1) := by decide +kernel
theorem d1_5 : decode prog_6_method_6_code 5 = .ok (.arraylength, 1) := by decide +kernel
theorem d1_6 : decode prog_6_method_6_code 6 = .ok (.istore_n 2, 1) := by decide +kernel
theorem d1_7 : decode prog_6_method_6_code 7 = .ok (.iconst 0, 1) := by decide +kernel
theorem d1_8 : decode prog_6_method_6_code 8 = .ok (.istore_n 3, 1) := by decide +kernel
theorem d1_9 : decode prog_6_method_6_code 9 = .ok (.iload_n 3, 1) := by decide +kernel
theorem d1_10 : decode prog_6_method_6_code 10 = .ok (.iload_n 2, 1) := by decide +kernel
theorem d1_11 : decode prog_6_method_6_code 11 = .ok (.if_icmp .ge 26, 3) := by decide +kernel
theorem d1_14 : decode prog_6_method_6_code 14 = .ok (.aload_n 1, 1) := by decide +kernel
theorem d1_15 : decode prog_6_method_6_code 15 = .ok (.iload_n 3, 1) := by decide +kernel
theorem d1_16 : decode prog_6_method_6_code 16 = .ok (.aaload, 1) := by decide +kernel
theorem d1_17 : decode prog_6_method_6_code 17 = .ok (.astore 4, 2) := by decide +kernel
theorem d1_19 : decode prog_6_method_6_code 19 = .ok (.aload 4, 2) := by decide +kernel
theorem d1_21 : decode prog_6_method_6_code 21 = .ok (.getfield 38, 3) := by decide +kernel
theorem d1_24 : decode prog_6_method_6_code 24 = .ok (.iload_n 0, 1) := by decide +kernel
theorem d1_25 : decode prog_6_method_6_code 25 = .ok (.if_icmp .ne 6, 3) := by decide +kernel
theorem d1_28 : decode prog_6_method_6_code 28 = .ok (.aload 4, 2) := by decide +kernel
theorem d1_30 : decode prog_6_method_6_code 30 = .ok (.areturn, 1) := by decide +kernel
theorem d1_31 : decode prog_6_method_6_code 31 = .ok (.iinc 3 1, 3) := by decide +kernel
theorem d1_34 : decode prog_6_method_6_code 34 = .ok (.goto (-25), 3) := by decide +kernel
theorem ef_rm1 (m : MethodId) (p0 : Int32) : entryFrame m #[(.int p0)] 5 = mkF m 0 #[.val (.int p0), .unset, .unset, .unset, .unset] [] := by first | (simp [entryFrame, mkF, argsToLocals, Value.category]; done) | rfl
set_option maxRecDepth 65536 in
set_option maxHeartbeats 40000000 in
theorem rm1 (l : Launch) (Z : State) (a0 : Array Value) (hw : ∀ d ∈ tables_1, d.before a0 Z = true) (ws : List Jvm.Cond) (p0 : Int32) (h0 : Heap) (n0 : Nat) (a__VALUES : Addr) (S__VALUES : Sta Z h0 "com/example/brisk_crawl/briskcrawl/PageState" "$VALUES" "[Lcom/example/brisk_crawl/briskcrawl/PageState;" (.ref a__VALUES)) (E__VALUES : Exa Z h0 a__VALUES "[Lcom/example/brisk_crawl/briskcrawl/PageState;") (a_PENDING : Addr) (S_PENDING : Sta Z h0 "com/example/brisk_crawl/briskcrawl/PageState" "PENDING" "Lcom/example/brisk_crawl/briskcrawl/PageState;" (.ref a_PENDING)) (E_PENDING : Exa Z h0 a_PENDING "com/example/brisk_crawl/briskcrawl/PageState") (a_ACTIVE : Addr) (S_ACTIVE : Sta Z h0 "com/example/brisk_crawl/briskcrawl/PageState" "ACTIVE" "Lcom/example/brisk_crawl/briskcrawl/PageState;" (.ref a_ACTIVE)) (E_ACTIVE : Exa Z h0 a_ACTIVE "com/example/brisk_crawl/briskcrawl/PageState") (a_COMPLETE : Addr) (S_COMPLETE : Sta Z h0 "com/example/brisk_crawl/briskcrawl/PageState" "COMPLETE" "Lcom/example/brisk_crawl/briskcrawl/PageState;" (.ref a_COMPLETE)) (E_COMPLETE : Exa Z h0 a_COMPLETE "com/example/brisk_crawl/briskcrawl/PageState") (a_ERROR : Addr) (S_ERROR : Sta Z h0 "com/example/brisk_crawl/briskcrawl/PageState" "ERROR" "Lcom/example/brisk_crawl/briskcrawl/PageState;" (.ref a_ERROR)) (E_ERROR : Exa Z h0 a_ERROR "com/example/brisk_crawl/briskcrawl/PageState") (a_EXCLUDED : Addr) (S_EXCLUDED : Sta Z h0 "com/example/brisk_crawl/briskcrawl/PageState" "EXCLUDED" "Lcom/example/brisk_crawl/briskcrawl/PageState;" (.ref a_EXCLUDED)) (E_EXCLUDED : Exa Z h0 a_EXCLUDED "com/example/brisk_crawl/briskcrawl/PageState") (F_PENDING_code : Fld Z h0 a_PENDING "com/example/brisk_crawl/briskcrawl/PageState" "code" "I" (.int (0 : Int32))) (F_ACTIVE_code : Fld Z h0 a_ACTIVE "com/example/brisk_crawl/briskcrawl/PageState" "code" "I" (.int (1 : Int32))) (F_COMPLETE_code : Fld Z h0 a_COMPLETE "com/example/brisk_crawl/briskcrawl/PageState" "code" "I" (.int (2 : Int32))) (F_ERROR_code : Fld Z h0 a_ERROR "com/example/brisk_crawl/briskcrawl/PageState" "code" "I" (.int (3 : Int32))) (F_EXCLUDED_code : Fld Z h0 a_EXCLUDED "com/example/brisk_crawl/briskcrawl/PageState" "code" "I" (.int (4 : Int32))) (A__VALUES : Ark Z h0 a__VALUES (.object "com/example/brisk_crawl/briskcrawl/PageState") [(.ref a_PENDING), (.ref a_ACTIVE), (.ref a_COMPLETE), (.ref a_ERROR), (.ref a_EXCLUDED)]) (hp : p0 = 0 ∨ p0 = 1 ∨ p0 = 2 ∨ p0 = 3 ∨ p0 = 4) :
    Ctr l Z (⟨"com/example/brisk_crawl/briskcrawl/PageState", "ofCode", "(I)Lcom/example/brisk_crawl/briskcrawl/PageState;"⟩ : MethodName) prog_6_method_6_code 5 (some (.object "com/example/brisk_crawl/briskcrawl/PageState")) ws ({ frames := 2, cells := 1, slots := 5, locals := 25 } : Room) n0 #[(.int p0)] h0 (Rt (fun w h => w = .ref (own_sel a_PENDING a_ACTIVE a_COMPLETE a_ERROR a_EXCLUDED p0) ∧ Ext h0 h)) := by
  refine Ctr.of pn_com_example_brisk_crawl_briskcrawl_PageState (fun m => ef_rm1 m p0) ?_
  intro p e s m below meth c T0 X0
  refine OwnK.call_static_v X0 (z := (⟨"com/example/brisk_crawl/briskcrawl/PageState", "values", "()[Lcom/example/brisk_crawl/briskcrawl/PageState;"⟩ : MethodName)) (n := 3) d1_0 (hw _ (List.mem_of_getElem? (i := 5) rfl)) (hw _ (List.mem_of_getElem? (i := 6) rfl)) (hw _ (List.mem_of_getElem? (i := 7) rfl)) (hw _ (List.mem_of_getElem? (i := 3) rfl)) (by decide) (rm2 l Z a0 hw [] h0 n0 a__VALUES S__VALUES E__VALUES a_PENDING S_PENDING E_PENDING a_ACTIVE S_ACTIVE E_ACTIVE a_COMPLETE S_COMPLETE E_COMPLETE a_ERROR S_ERROR E_ERROR a_EXCLUDED S_EXCLUDED E_EXCLUDED F_PENDING_code F_ACTIVE_code F_COMPLETE_code F_ERROR_code F_EXCLUDED_code A__VALUES) (argsL := []) (rest := []) rfl rfl (OwnK.lenA pd____Lcom_example_brisk_crawl_briskcrawl_PageState_ rfl) (W := 0) (Nat.le_of_eq rfl) (by decide) (by decide) (by decide) (by decide) rfl ?_
  intro T1 h1 w1 X1 ⟨bb, q1, E1, A1⟩
  subst q1
  refine OwnK.astoreN X1 (l' := #[.val (.int p0), .val (.ref bb), .unset, .unset, .unset]) (n := 4) d1_3 rfl rfl rfl ?_
  refine OwnK.aloadN X1 (n := 5) d1_4 rfl rfl rfl ?_
  refine OwnK.arraylength X1 (z := (5 : Int32)) (n := 6) d1_5 A1 rfl rfl ?_
  refine OwnK.istoreN X1 (l' := #[.val (.int p0), .val (.ref bb), .val (.int (5 : Int32)), .unset, .unset]) (n := 7) d1_6 rfl rfl ?_
  refine OwnK.iconst X1 (z := (0 : Int32)) (n := 8) d1_7 rfl rfl ?_
  refine OwnK.istoreN X1 (l' := #[.val (.int p0), .val (.ref bb), .val (.int (5 : Int32)), .val (.int (0 : Int32)), .unset]) (n := 9) d1_8 rfl rfl ?_
  refine OwnK.iloadN X1 (n := 10) d1_9 rfl rfl ?_
  refine OwnK.iloadN X1 (n := 11) d1_10 rfl rfl ?_
  refine OwnK.ic_ge X1  (n1 := 37) (n2 := 14) d1_11 (by decide) rfl rfl (fun q => absurd ((by decide) : (0 : Int32) < (5 : Int32)) q) (fun _ => ?_)
  refine OwnK.aloadN X1 (n := 15) d1_14 rfl rfl rfl ?_
  refine OwnK.iloadN X1 (n := 16) d1_15 rfl rfl ?_
  refine OwnK.aaload X1 (i := 0) (v := (.ref a_PENDING)) (n := 17) d1_16 A1 rfl rfl rfl rfl ?_
  refine OwnK.astore X1 (l' := #[.val (.int p0), .val (.ref bb), .val (.int (5 : Int32)), .val (.int (0 : Int32)), .val (.ref a_PENDING)]) (n := 19) d1_17 rfl rfl rfl ?_
  refine OwnK.aload X1 (n := 21) d1_19 rfl rfl rfl ?_
  refine OwnK.getfield X1 (n := 24) d1_21 (hw _ (List.mem_of_getElem? (i := 25) rfl)) Via.refl (F_PENDING_code.ext E1) rfl ?_
  intro T2 X2
  refine OwnK.iloadN X2 (n := 25) d1_24 rfl rfl ?_
  refine OwnK.ic_ne X2  (n1 := 31) (n2 := 28) d1_25 (by decide) rfl rfl (fun hc25 => ?_) (fun hc25 => ?_)
  · refine OwnK.iinc X2 (z := (1 : Int32)) (l' := #[.val (.int p0), .val (.ref bb), .val (.int (5 : Int32)), .val (.int ((0 : Int32) + (1 : Int32))), .val (.ref a_PENDING)]) (n := 34) d1_31 rfl rfl rfl rfl ?_
    show Run _ _ _ _ _ _ _ _ (State.setTop _ (mkF m 34 #[.val (.int p0), .val (.ref bb), .val (.int (5 : Int32)), .val (.int (1 : Int32)), .val (.ref a_PENDING)] []))
    refine OwnK.goto X2 (n := 9) d1_34 (by decide) rfl ?_
    refine OwnK.iloadN X2 (n := 10) d1_9 rfl rfl ?_
    refine OwnK.iloadN X2 (n := 11) d1_10 rfl rfl ?_
    refine OwnK.ic_ge X2  (n1 := 37) (n2 := 14) d1_11 (by decide) rfl rfl (fun q => absurd ((by decide) : (1 : Int32) < (5 : Int32)) q) (fun _ => ?_)
    refine OwnK.aloadN X2 (n := 15) d1_14 rfl rfl rfl ?_
    refine OwnK.iloadN X2 (n := 16) d1_15 rfl rfl ?_
    refine OwnK.aaload X2 (i := 1) (v := (.ref a_ACTIVE)) (n := 17) d1_16 A1 rfl rfl rfl rfl ?_
    refine OwnK.astore X2 (l' := #[.val (.int p0), .val (.ref bb), .val (.int (5 : Int32)), .val (.int (1 : Int32)), .val (.ref a_ACTIVE)]) (n := 19) d1_17 rfl rfl rfl ?_
    refine OwnK.aload X2 (n := 21) d1_19 rfl rfl rfl ?_
    refine OwnK.getfield X2 (n := 24) d1_21 (hw _ (List.mem_of_getElem? (i := 25) rfl)) Via.refl (F_ACTIVE_code.ext E1) rfl ?_
    intro T3 X3
    refine OwnK.iloadN X3 (n := 25) d1_24 rfl rfl ?_
    refine OwnK.ic_ne X3  (n1 := 31) (n2 := 28) d1_25 (by decide) rfl rfl (fun hc25_4 => ?_) (fun hc25_4 => ?_)
    · refine OwnK.iinc X3 (z := (1 : Int32)) (l' := #[.val (.int p0), .val (.ref bb), .val (.int (5 : Int32)), .val (.int ((1 : Int32) + (1 : Int32))), .val (.ref a_ACTIVE)]) (n := 34) d1_31 rfl rfl rfl rfl ?_
      show Run _ _ _ _ _ _ _ _ (State.setTop _ (mkF m 34 #[.val (.int p0), .val (.ref bb), .val (.int (5 : Int32)), .val (.int (2 : Int32)), .val (.ref a_ACTIVE)] []))
      refine OwnK.goto X3 (n := 9) d1_34 (by decide) rfl ?_
      refine OwnK.iloadN X3 (n := 10) d1_9 rfl rfl ?_
      refine OwnK.iloadN X3 (n := 11) d1_10 rfl rfl ?_
      refine OwnK.ic_ge X3  (n1 := 37) (n2 := 14) d1_11 (by decide) rfl rfl (fun q => absurd ((by decide) : (2 : Int32) < (5 : Int32)) q) (fun _ => ?_)
      refine OwnK.aloadN X3 (n := 15) d1_14 rfl rfl rfl ?_
      refine OwnK.iloadN X3 (n := 16) d1_15 rfl rfl ?_
      refine OwnK.aaload X3 (i := 2) (v := (.ref a_COMPLETE)) (n := 17) d1_16 A1 rfl rfl rfl rfl ?_
      refine OwnK.astore X3 (l' := #[.val (.int p0), .val (.ref bb), .val (.int (5 : Int32)), .val (.int (2 : Int32)), .val (.ref a_COMPLETE)]) (n := 19) d1_17 rfl rfl rfl ?_
      refine OwnK.aload X3 (n := 21) d1_19 rfl rfl rfl ?_
      refine OwnK.getfield X3 (n := 24) d1_21 (hw _ (List.mem_of_getElem? (i := 25) rfl)) Via.refl (F_COMPLETE_code.ext E1) rfl ?_
      intro T5 X5
      refine OwnK.iloadN X5 (n := 25) d1_24 rfl rfl ?_
      refine OwnK.ic_ne X5  (n1 := 31) (n2 := 28) d1_25 (by decide) rfl rfl (fun hc25_6 => ?_) (fun hc25_6 => ?_)
      · refine OwnK.iinc X5 (z := (1 : Int32)) (l' := #[.val (.int p0), .val (.ref bb), .val (.int (5 : Int32)), .val (.int ((2 : Int32) + (1 : Int32))), .val (.ref a_COMPLETE)]) (n := 34) d1_31 rfl rfl rfl rfl ?_
        show Run _ _ _ _ _ _ _ _ (State.setTop _ (mkF m 34 #[.val (.int p0), .val (.ref bb), .val (.int (5 : Int32)), .val (.int (3 : Int32)), .val (.ref a_COMPLETE)] []))
        refine OwnK.goto X5 (n := 9) d1_34 (by decide) rfl ?_
        refine OwnK.iloadN X5 (n := 10) d1_9 rfl rfl ?_
        refine OwnK.iloadN X5 (n := 11) d1_10 rfl rfl ?_
        refine OwnK.ic_ge X5  (n1 := 37) (n2 := 14) d1_11 (by decide) rfl rfl (fun q => absurd ((by decide) : (3 : Int32) < (5 : Int32)) q) (fun _ => ?_)
        refine OwnK.aloadN X5 (n := 15) d1_14 rfl rfl rfl ?_
        refine OwnK.iloadN X5 (n := 16) d1_15 rfl rfl ?_
        refine OwnK.aaload X5 (i := 3) (v := (.ref a_ERROR)) (n := 17) d1_16 A1 rfl rfl rfl rfl ?_
        refine OwnK.astore X5 (l' := #[.val (.int p0), .val (.ref bb), .val (.int (5 : Int32)), .val (.int (3 : Int32)), .val (.ref a_ERROR)]) (n := 19) d1_17 rfl rfl rfl ?_
        refine OwnK.aload X5 (n := 21) d1_19 rfl rfl rfl ?_
        refine OwnK.getfield X5 (n := 24) d1_21 (hw _ (List.mem_of_getElem? (i := 25) rfl)) Via.refl (F_ERROR_code.ext E1) rfl ?_
        intro T7 X7
        refine OwnK.iloadN X7 (n := 25) d1_24 rfl rfl ?_
        refine OwnK.ic_ne X7  (n1 := 31) (n2 := 28) d1_25 (by decide) rfl rfl (fun hc25_8 => ?_) (fun hc25_8 => ?_)
        · refine OwnK.iinc X7 (z := (1 : Int32)) (l' := #[.val (.int p0), .val (.ref bb), .val (.int (5 : Int32)), .val (.int ((3 : Int32) + (1 : Int32))), .val (.ref a_ERROR)]) (n := 34) d1_31 rfl rfl rfl rfl ?_
          show Run _ _ _ _ _ _ _ _ (State.setTop _ (mkF m 34 #[.val (.int p0), .val (.ref bb), .val (.int (5 : Int32)), .val (.int (4 : Int32)), .val (.ref a_ERROR)] []))
          refine OwnK.goto X7 (n := 9) d1_34 (by decide) rfl ?_
          refine OwnK.iloadN X7 (n := 10) d1_9 rfl rfl ?_
          refine OwnK.iloadN X7 (n := 11) d1_10 rfl rfl ?_
          refine OwnK.ic_ge X7  (n1 := 37) (n2 := 14) d1_11 (by decide) rfl rfl (fun q => absurd ((by decide) : (4 : Int32) < (5 : Int32)) q) (fun _ => ?_)
          refine OwnK.aloadN X7 (n := 15) d1_14 rfl rfl rfl ?_
          refine OwnK.iloadN X7 (n := 16) d1_15 rfl rfl ?_
          refine OwnK.aaload X7 (i := 4) (v := (.ref a_EXCLUDED)) (n := 17) d1_16 A1 rfl rfl rfl rfl ?_
          refine OwnK.astore X7 (l' := #[.val (.int p0), .val (.ref bb), .val (.int (5 : Int32)), .val (.int (4 : Int32)), .val (.ref a_EXCLUDED)]) (n := 19) d1_17 rfl rfl rfl ?_
          refine OwnK.aload X7 (n := 21) d1_19 rfl rfl rfl ?_
          refine OwnK.getfield X7 (n := 24) d1_21 (hw _ (List.mem_of_getElem? (i := 25) rfl)) Via.refl (F_EXCLUDED_code.ext E1) rfl ?_
          intro T9 X9
          refine OwnK.iloadN X9 (n := 25) d1_24 rfl rfl ?_
          refine OwnK.ic_ne X9  (n1 := 31) (n2 := 28) d1_25 (by decide) rfl rfl (fun hc25_10 => ?_) (fun hc25_10 => ?_)
          · refine OwnK.iinc X9 (z := (1 : Int32)) (l' := #[.val (.int p0), .val (.ref bb), .val (.int (5 : Int32)), .val (.int ((4 : Int32) + (1 : Int32))), .val (.ref a_EXCLUDED)]) (n := 34) d1_31 rfl rfl rfl rfl ?_
            show Run _ _ _ _ _ _ _ _ (State.setTop _ (mkF m 34 #[.val (.int p0), .val (.ref bb), .val (.int (5 : Int32)), .val (.int (5 : Int32)), .val (.ref a_EXCLUDED)] []))
            refine OwnK.goto X9 (n := 9) d1_34 (by decide) rfl ?_
            refine OwnK.iloadN X9 (n := 10) d1_9 rfl rfl ?_
            refine OwnK.iloadN X9 (n := 11) d1_10 rfl rfl ?_
            refine OwnK.ic_ge X9  (n1 := 37) (n2 := 14) d1_11 (by decide) rfl rfl (fun _ => ?_) (fun q => absurd q ((by decide) : ¬ (5 : Int32) < (5 : Int32)))
            exact absurd hp (by rintro (q | q | q | q | q) <;> subst q <;> first | exact absurd rfl hc25 | exact absurd rfl hc25_4 | exact absurd rfl hc25_6 | exact absurd rfl hc25_8 | exact absurd rfl hc25_10)
          · refine OwnK.aload X9 (n := 30) d1_28 rfl rfl rfl ?_
            exact OwnK.areturn X9 rfl rfl rfl d1_30 ⟨by simp [own_sel, ← hc25_10], E1⟩ (by decide) (by decide)
        · refine OwnK.aload X7 (n := 30) d1_28 rfl rfl rfl ?_
          exact OwnK.areturn X7 rfl rfl rfl d1_30 ⟨by simp [own_sel, ← hc25_8], E1⟩ (by decide) (by decide)
      · refine OwnK.aload X5 (n := 30) d1_28 rfl rfl rfl ?_
        exact OwnK.areturn X5 rfl rfl rfl d1_30 ⟨by simp [own_sel, ← hc25_6], E1⟩ (by decide) (by decide)
    · refine OwnK.aload X3 (n := 30) d1_28 rfl rfl rfl ?_
      exact OwnK.areturn X3 rfl rfl rfl d1_30 ⟨by simp [own_sel, ← hc25_4], E1⟩ (by decide) (by decide)
  · refine OwnK.aload X2 (n := 30) d1_28 rfl rfl rfl ?_
    exact OwnK.areturn X2 rfl rfl rfl d1_30 ⟨by simp [own_sel, ← hc25], E1⟩ (by decide) (by decide)
theorem pn_com_example_brisk_crawl_briskcrawl_PageStateOfCodePinLaw : plainName "com/example/brisk_crawl/briskcrawl/PageStateOfCodePinLaw" = true := by first | (simp [plainName, overriddenIn]; done) | decide +kernel
theorem d3_0 : decode method_2_code 0 = .ok (.iload_n 0, 1) := by decide +kernel
theorem d3_1 : decode method_2_code 1 = .ok (.ifCond .ne 7, 3) := by decide +kernel
theorem d3_4 : decode method_2_code 4 = .ok (.getstatic 7, 3) := by decide +kernel
theorem d3_7 : decode method_2_code 7 = .ok (.areturn, 1) := by decide +kernel
theorem d3_8 : decode method_2_code 8 = .ok (.iload_n 0, 1) := by decide +kernel
theorem d3_9 : decode method_2_code 9 = .ok (.iconst 1, 1) := by decide +kernel
theorem d3_10 : decode method_2_code 10 = .ok (.if_icmp .ne 7, 3) := by decide +kernel
theorem d3_13 : decode method_2_code 13 = .ok (.getstatic 13, 3) := by decide +kernel
theorem d3_16 : decode method_2_code 16 = .ok (.areturn, 1) := by decide +kernel
theorem d3_17 : decode method_2_code 17 = .ok (.iload_n 0, 1) := by decide +kernel
theorem d3_18 : decode method_2_code 18 = .ok (.iconst 2, 1) := by decide +kernel
theorem d3_19 : decode method_2_code 19 = .ok (.if_icmp .ne 7, 3) := by decide +kernel
theorem d3_22 : decode method_2_code 22 = .ok (.getstatic 16, 3) := by decide +kernel
theorem d3_25 : decode method_2_code 25 = .ok (.areturn, 1) := by decide +kernel
theorem d3_26 : decode method_2_code 26 = .ok (.iload_n 0, 1) := by decide +kernel
theorem d3_27 : decode method_2_code 27 = .ok (.iconst 3, 1) := by decide +kernel
theorem d3_28 : decode method_2_code 28 = .ok (.if_icmp .ne 7, 3) := by decide +kernel
theorem d3_31 : decode method_2_code 31 = .ok (.getstatic 19, 3) := by decide +kernel
theorem d3_34 : decode method_2_code 34 = .ok (.areturn, 1) := by decide +kernel
theorem d3_35 : decode method_2_code 35 = .ok (.getstatic 22, 3) := by decide +kernel
theorem d3_38 : decode method_2_code 38 = .ok (.areturn, 1) := by decide +kernel
theorem ef_rm3 (m : MethodId) (p0 : Int32) : entryFrame m #[(.int p0)] 1 = mkF m 0 #[.val (.int p0)] [] := by first | (simp [entryFrame, mkF, argsToLocals, Value.category]; done) | rfl
set_option maxRecDepth 65536 in
set_option maxHeartbeats 40000000 in
theorem rm3 (l : Launch) (Z : State) (a0 : Array Value) (hw : ∀ d ∈ tables_1, d.before a0 Z = true) (ws : List Jvm.Cond) (p0 : Int32) (h0 : Heap) (n0 : Nat) (a__VALUES : Addr) (S__VALUES : Sta Z h0 "com/example/brisk_crawl/briskcrawl/PageState" "$VALUES" "[Lcom/example/brisk_crawl/briskcrawl/PageState;" (.ref a__VALUES)) (E__VALUES : Exa Z h0 a__VALUES "[Lcom/example/brisk_crawl/briskcrawl/PageState;") (a_PENDING : Addr) (S_PENDING : Sta Z h0 "com/example/brisk_crawl/briskcrawl/PageState" "PENDING" "Lcom/example/brisk_crawl/briskcrawl/PageState;" (.ref a_PENDING)) (E_PENDING : Exa Z h0 a_PENDING "com/example/brisk_crawl/briskcrawl/PageState") (a_ACTIVE : Addr) (S_ACTIVE : Sta Z h0 "com/example/brisk_crawl/briskcrawl/PageState" "ACTIVE" "Lcom/example/brisk_crawl/briskcrawl/PageState;" (.ref a_ACTIVE)) (E_ACTIVE : Exa Z h0 a_ACTIVE "com/example/brisk_crawl/briskcrawl/PageState") (a_COMPLETE : Addr) (S_COMPLETE : Sta Z h0 "com/example/brisk_crawl/briskcrawl/PageState" "COMPLETE" "Lcom/example/brisk_crawl/briskcrawl/PageState;" (.ref a_COMPLETE)) (E_COMPLETE : Exa Z h0 a_COMPLETE "com/example/brisk_crawl/briskcrawl/PageState") (a_ERROR : Addr) (S_ERROR : Sta Z h0 "com/example/brisk_crawl/briskcrawl/PageState" "ERROR" "Lcom/example/brisk_crawl/briskcrawl/PageState;" (.ref a_ERROR)) (E_ERROR : Exa Z h0 a_ERROR "com/example/brisk_crawl/briskcrawl/PageState") (a_EXCLUDED : Addr) (S_EXCLUDED : Sta Z h0 "com/example/brisk_crawl/briskcrawl/PageState" "EXCLUDED" "Lcom/example/brisk_crawl/briskcrawl/PageState;" (.ref a_EXCLUDED)) (E_EXCLUDED : Exa Z h0 a_EXCLUDED "com/example/brisk_crawl/briskcrawl/PageState") (F_PENDING_code : Fld Z h0 a_PENDING "com/example/brisk_crawl/briskcrawl/PageState" "code" "I" (.int (0 : Int32))) (F_ACTIVE_code : Fld Z h0 a_ACTIVE "com/example/brisk_crawl/briskcrawl/PageState" "code" "I" (.int (1 : Int32))) (F_COMPLETE_code : Fld Z h0 a_COMPLETE "com/example/brisk_crawl/briskcrawl/PageState" "code" "I" (.int (2 : Int32))) (F_ERROR_code : Fld Z h0 a_ERROR "com/example/brisk_crawl/briskcrawl/PageState" "code" "I" (.int (3 : Int32))) (F_EXCLUDED_code : Fld Z h0 a_EXCLUDED "com/example/brisk_crawl/briskcrawl/PageState" "code" "I" (.int (4 : Int32))) (A__VALUES : Ark Z h0 a__VALUES (.object "com/example/brisk_crawl/briskcrawl/PageState") [(.ref a_PENDING), (.ref a_ACTIVE), (.ref a_COMPLETE), (.ref a_ERROR), (.ref a_EXCLUDED)]) :
    Ctr l Z (⟨"com/example/brisk_crawl/briskcrawl/PageStateOfCodePinLaw", "expected", "(I)Lcom/example/brisk_crawl/briskcrawl/PageState;"⟩ : MethodName) method_2_code 1 (some (.object "com/example/brisk_crawl/briskcrawl/PageState")) ws ({ frames := 0, cells := 0, slots := 0, locals := 0 } : Room) n0 #[(.int p0)] h0 (Rt (fun w h => w = .ref (own_sel a_PENDING a_ACTIVE a_COMPLETE a_ERROR a_EXCLUDED p0) ∧ h0 = h)) := by
  refine Ctr.of pn_com_example_brisk_crawl_briskcrawl_PageStateOfCodePinLaw (fun m => ef_rm3 m p0) ?_
  intro p e s m below meth c T0 X0
  refine OwnK.iloadN X0 (n := 1) d3_0 rfl rfl ?_
  refine OwnK.if_ne X0  (n1 := 8) (n2 := 4) d3_1 (by decide) rfl rfl (fun hc1 => ?_) (fun hc1 => ?_)
  · refine OwnK.iloadN X0 (n := 9) d3_8 rfl rfl ?_
    refine OwnK.iconst X0 (z := (1 : Int32)) (n := 10) d3_9 rfl rfl ?_
    refine OwnK.ic_ne X0  (n1 := 17) (n2 := 13) d3_10 (by decide) rfl rfl (fun hc10 => ?_) (fun hc10 => ?_)
    · refine OwnK.iloadN X0 (n := 18) d3_17 rfl rfl ?_
      refine OwnK.iconst X0 (z := (2 : Int32)) (n := 19) d3_18 rfl rfl ?_
      refine OwnK.ic_ne X0  (n1 := 26) (n2 := 22) d3_19 (by decide) rfl rfl (fun hc19 => ?_) (fun hc19 => ?_)
      · refine OwnK.iloadN X0 (n := 27) d3_26 rfl rfl ?_
        refine OwnK.iconst X0 (z := (3 : Int32)) (n := 28) d3_27 rfl rfl ?_
        refine OwnK.ic_ne X0  (n1 := 35) (n2 := 31) d3_28 (by decide) rfl rfl (fun hc28 => ?_) (fun hc28 => ?_)
        · refine OwnK.getstatic X0 (n := 38) d3_35 (hw _ (List.mem_of_getElem? (i := 35) rfl)) Via.refl S_EXCLUDED rfl ?_
          intro T1 X1
          exact OwnK.areturn X1 rfl rfl rfl d3_38 ⟨by simp [own_sel, hc1, hc10, hc19, hc28], rfl⟩ (by decide) (by decide)
        · refine OwnK.getstatic X0 (n := 34) d3_31 (hw _ (List.mem_of_getElem? (i := 33) rfl)) Via.refl S_ERROR rfl ?_
          intro T2 X2
          exact OwnK.areturn X2 rfl rfl rfl d3_34 ⟨by simp [own_sel, hc1, hc10, hc19, hc28], rfl⟩ (by decide) (by decide)
      · refine OwnK.getstatic X0 (n := 25) d3_22 (hw _ (List.mem_of_getElem? (i := 36) rfl)) Via.refl S_COMPLETE rfl ?_
        intro T3 X3
        exact OwnK.areturn X3 rfl rfl rfl d3_25 ⟨by simp [own_sel, hc1, hc10, hc19], rfl⟩ (by decide) (by decide)
    · refine OwnK.getstatic X0 (n := 16) d3_13 (hw _ (List.mem_of_getElem? (i := 34) rfl)) Via.refl S_ACTIVE rfl ?_
      intro T4 X4
      exact OwnK.areturn X4 rfl rfl rfl d3_16 ⟨by simp [own_sel, hc1, hc10], rfl⟩ (by decide) (by decide)
  · refine OwnK.getstatic X0 (n := 7) d3_4 (hw _ (List.mem_of_getElem? (i := 31) rfl)) Via.refl S_PENDING rfl ?_
    intro T5 X5
    exact OwnK.areturn X5 rfl rfl rfl d3_7 ⟨by simp [own_sel, hc1], rfl⟩ (by decide) (by decide)
theorem pd__I_Lcom_example_brisk_crawl_briskcrawl_PageState_ : parseMethodDescriptor "(I)Lcom/example/brisk_crawl/briskcrawl/PageState;" = some ⟨[.int], some (.object "com/example/brisk_crawl/briskcrawl/PageState")⟩ := by decide +kernel
theorem ef_rm0 (m : MethodId) (p0 : Int32) : entryFrame m #[(.int p0)] maxLocals = mkF m 0 #[.val (.int p0), .unset, .unset] [] := by first | (simp [entryFrame, mkF, argsToLocals, Value.category, maxLocals]; done) | rfl
set_option maxRecDepth 65536 in
set_option maxHeartbeats 40000000 in
theorem rm0 (l : Launch) (Z : State) (a0 : Array Value) (hw : ∀ d ∈ tables_1, d.before a0 Z = true) (ws : List Jvm.Cond) (p0 : Int32) (h0 : Heap) (n0 : Nat) (a__VALUES : Addr) (S__VALUES : Sta Z h0 "com/example/brisk_crawl/briskcrawl/PageState" "$VALUES" "[Lcom/example/brisk_crawl/briskcrawl/PageState;" (.ref a__VALUES)) (E__VALUES : Exa Z h0 a__VALUES "[Lcom/example/brisk_crawl/briskcrawl/PageState;") (a_PENDING : Addr) (S_PENDING : Sta Z h0 "com/example/brisk_crawl/briskcrawl/PageState" "PENDING" "Lcom/example/brisk_crawl/briskcrawl/PageState;" (.ref a_PENDING)) (E_PENDING : Exa Z h0 a_PENDING "com/example/brisk_crawl/briskcrawl/PageState") (a_ACTIVE : Addr) (S_ACTIVE : Sta Z h0 "com/example/brisk_crawl/briskcrawl/PageState" "ACTIVE" "Lcom/example/brisk_crawl/briskcrawl/PageState;" (.ref a_ACTIVE)) (E_ACTIVE : Exa Z h0 a_ACTIVE "com/example/brisk_crawl/briskcrawl/PageState") (a_COMPLETE : Addr) (S_COMPLETE : Sta Z h0 "com/example/brisk_crawl/briskcrawl/PageState" "COMPLETE" "Lcom/example/brisk_crawl/briskcrawl/PageState;" (.ref a_COMPLETE)) (E_COMPLETE : Exa Z h0 a_COMPLETE "com/example/brisk_crawl/briskcrawl/PageState") (a_ERROR : Addr) (S_ERROR : Sta Z h0 "com/example/brisk_crawl/briskcrawl/PageState" "ERROR" "Lcom/example/brisk_crawl/briskcrawl/PageState;" (.ref a_ERROR)) (E_ERROR : Exa Z h0 a_ERROR "com/example/brisk_crawl/briskcrawl/PageState") (a_EXCLUDED : Addr) (S_EXCLUDED : Sta Z h0 "com/example/brisk_crawl/briskcrawl/PageState" "EXCLUDED" "Lcom/example/brisk_crawl/briskcrawl/PageState;" (.ref a_EXCLUDED)) (E_EXCLUDED : Exa Z h0 a_EXCLUDED "com/example/brisk_crawl/briskcrawl/PageState") (F_PENDING_code : Fld Z h0 a_PENDING "com/example/brisk_crawl/briskcrawl/PageState" "code" "I" (.int (0 : Int32))) (F_ACTIVE_code : Fld Z h0 a_ACTIVE "com/example/brisk_crawl/briskcrawl/PageState" "code" "I" (.int (1 : Int32))) (F_COMPLETE_code : Fld Z h0 a_COMPLETE "com/example/brisk_crawl/briskcrawl/PageState" "code" "I" (.int (2 : Int32))) (F_ERROR_code : Fld Z h0 a_ERROR "com/example/brisk_crawl/briskcrawl/PageState" "code" "I" (.int (3 : Int32))) (F_EXCLUDED_code : Fld Z h0 a_EXCLUDED "com/example/brisk_crawl/briskcrawl/PageState" "code" "I" (.int (4 : Int32))) (A__VALUES : Ark Z h0 a__VALUES (.object "com/example/brisk_crawl/briskcrawl/PageState") [(.ref a_PENDING), (.ref a_ACTIVE), (.ref a_COMPLETE), (.ref a_ERROR), (.ref a_EXCLUDED)]) :
    Ctr l Z x code maxLocals ret ws room_1 n0 #[(.int p0)] h0 (Rt (fun w h => w = .int 1)) := by
  refine Ctr.of pn_com_example_brisk_crawl_briskcrawl_PageStateOfCodePinLaw (fun m => ef_rm0 m p0) ?_
  intro p e s m below meth c T0 X0
  refine OwnK.iloadN X0 (n := 1) at_0 rfl rfl ?_
  refine OwnK.ldc X0 (n := 3) at_1 (hw _ (List.mem_of_getElem? (i := 0) rfl)) rfl ?_
  refine OwnK.iand X0 (n := 4) at_3 rfl ?_
  refine OwnK.iconst X0 (z := (5 : Int32)) (n := 5) at_4 rfl rfl ?_
  refine OwnK.irem X0 (n := 6) at_5 (by decide) rfl ?_
  refine OwnK.istoreN X0 (l' := #[.val (.int p0), .val (.int ((p0 &&& (2147483647 : Int32)) % (5 : Int32))), .unset]) (n := 7) at_6 rfl rfl ?_
  refine OwnK.iloadN X0 (n := 8) at_7 rfl rfl ?_
  refine OwnK.call_static_v X0 (z := (⟨"com/example/brisk_crawl/briskcrawl/PageState", "ofCode", "(I)Lcom/example/brisk_crawl/briskcrawl/PageState;"⟩ : MethodName)) (n := 11) at_8 (hw _ (List.mem_of_getElem? (i := 1) rfl)) (hw _ (List.mem_of_getElem? (i := 2) rfl)) (hw _ (List.mem_of_getElem? (i := 4) rfl)) (hw _ (List.mem_of_getElem? (i := 3) rfl)) (by decide) (rm1 l Z a0 hw [] ((p0 &&& (2147483647 : Int32)) % (5 : Int32)) h0 n0 a__VALUES S__VALUES E__VALUES a_PENDING S_PENDING E_PENDING a_ACTIVE S_ACTIVE E_ACTIVE a_COMPLETE S_COMPLETE E_COMPLETE a_ERROR S_ERROR E_ERROR a_EXCLUDED S_EXCLUDED E_EXCLUDED F_PENDING_code F_ACTIVE_code F_COMPLETE_code F_ERROR_code F_EXCLUDED_code A__VALUES (own_cases p0)) (argsL := [(.int ((p0 &&& (2147483647 : Int32)) % (5 : Int32)))]) (rest := []) rfl rfl (OwnK.lenA pd__I_Lcom_example_brisk_crawl_briskcrawl_PageState_ rfl) (W := 0) (Nat.le_of_eq rfl) (by decide) (by decide) (by decide) (by decide) rfl ?_
  intro T1 h1 w1 X1 ⟨q1, E1⟩
  subst q1
  refine OwnK.astoreN X1 (l' := #[.val (.int p0), .val (.int ((p0 &&& (2147483647 : Int32)) % (5 : Int32))), .val (.ref (own_sel a_PENDING a_ACTIVE a_COMPLETE a_ERROR a_EXCLUDED ((p0 &&& (2147483647 : Int32)) % (5 : Int32))))]) (n := 12) at_11 rfl rfl rfl ?_
  refine OwnK.aloadN X1 (n := 13) at_12 rfl rfl rfl ?_
  refine OwnK.iloadN X1 (n := 14) at_13 rfl rfl ?_
  refine OwnK.call_static_v X1 (z := (⟨"com/example/brisk_crawl/briskcrawl/PageStateOfCodePinLaw", "expected", "(I)Lcom/example/brisk_crawl/briskcrawl/PageState;"⟩ : MethodName)) (n := 17) at_14 (hw _ (List.mem_of_getElem? (i := 27) rfl)) (hw _ (List.mem_of_getElem? (i := 28) rfl)) (hw _ (List.mem_of_getElem? (i := 30) rfl)) (hw _ (List.mem_of_getElem? (i := 29) rfl)) (by decide) (rm3 l Z a0 hw [] ((p0 &&& (2147483647 : Int32)) % (5 : Int32)) h1 n0 a__VALUES (S__VALUES.ext E1) (E__VALUES.ext E1) a_PENDING (S_PENDING.ext E1) (E_PENDING.ext E1) a_ACTIVE (S_ACTIVE.ext E1) (E_ACTIVE.ext E1) a_COMPLETE (S_COMPLETE.ext E1) (E_COMPLETE.ext E1) a_ERROR (S_ERROR.ext E1) (E_ERROR.ext E1) a_EXCLUDED (S_EXCLUDED.ext E1) (E_EXCLUDED.ext E1) (F_PENDING_code.ext E1) (F_ACTIVE_code.ext E1) (F_COMPLETE_code.ext E1) (F_ERROR_code.ext E1) (F_EXCLUDED_code.ext E1) (A__VALUES.ext E1)) (argsL := [(.int ((p0 &&& (2147483647 : Int32)) % (5 : Int32)))]) (rest := [(.ref (own_sel a_PENDING a_ACTIVE a_COMPLETE a_ERROR a_EXCLUDED ((p0 &&& (2147483647 : Int32)) % (5 : Int32))))]) rfl rfl (OwnK.lenA pd__I_Lcom_example_brisk_crawl_briskcrawl_PageState_ rfl) (W := 1) (Nat.le_of_eq rfl) (by decide) (by decide) (by decide) (by decide) rfl ?_
  intro T2 h2 w2 X2 ⟨q1, q2⟩
  subst q1 q2
  have Fs : Fld Z h1 (own_sel a_PENDING a_ACTIVE a_COMPLETE a_ERROR a_EXCLUDED ((p0 &&& (2147483647 : Int32)) % (5 : Int32))) "com/example/brisk_crawl/briskcrawl/PageState" "code" "I" (.int ((p0 &&& (2147483647 : Int32)) % (5 : Int32))) := by rcases own_cases p0 with q | q | q | q | q <;> rw [q] <;> simp only [own_sel] <;> first | exact F_PENDING_code.ext E1 | exact F_ACTIVE_code.ext E1 | exact F_COMPLETE_code.ext E1 | exact F_ERROR_code.ext E1 | exact F_EXCLUDED_code.ext E1
  refine OwnK.ac_ne X2 (n1 := 32) (n2 := 20) at_17 rfl rfl (by decide) rfl rfl (fun q => absurd (rfl : ((.ref (own_sel a_PENDING a_ACTIVE a_COMPLETE a_ERROR a_EXCLUDED ((p0 &&& (2147483647 : Int32)) % (5 : Int32)))) : Value) = (.ref (own_sel a_PENDING a_ACTIVE a_COMPLETE a_ERROR a_EXCLUDED ((p0 &&& (2147483647 : Int32)) % (5 : Int32))))) q) (fun _ => ?_)
  refine OwnK.aloadN X2 (n := 21) at_20 rfl rfl rfl ?_
  refine OwnK.getfield X2 (n := 24) at_21 (hw _ (List.mem_of_getElem? (i := 32) rfl)) Via.refl Fs rfl ?_
  intro T3 X3
  refine OwnK.iloadN X3 (n := 25) at_24 rfl rfl ?_
  refine OwnK.ic_ne X3  (n1 := 32) (n2 := 28) at_25 (by decide) rfl rfl (fun q => absurd (rfl : ((p0 &&& (2147483647 : Int32)) % (5 : Int32)) = ((p0 &&& (2147483647 : Int32)) % (5 : Int32))) q) (fun _ => ?_)
  refine OwnK.iconst X3 (z := (1 : Int32)) (n := 29) at_28 rfl rfl ?_
  refine OwnK.goto X3 (n := 33) at_29 (by decide) rfl ?_
  exact OwnK.ireturn X3 rfl (Or.inr (Or.inl rfl)) rfl at_33 rfl (by decide) (by decide)
set_option maxRecDepth 65536 in
set_option maxHeartbeats 40000000 in
theorem comes_1 {Post : Tables → Env → Array Value → State → Outcome → State → Prop} (hpost : ∀ tb e args s v u, (limb_1_1.after args s (.returned v) u = true ∧ limb_1_2.after args s (.returned v) u = true ∧ True) → FrameEnd s (.returned v) u (Jvm.fieldLocs frame_1_writes args s ++ Jvm.arrayLocs frame_1_arrays args s ++ Jvm.staticLocs frame_1_statics s) 16 128 → Post tb e args s (.returned v) u) :
    ArmFor flags0 classFile x code maxLocals ret World_1 tables_1 room_1 Calls_1 rest_1 Pre_1 Post := by
  intro l hfl _ _ p e ha hc hk s m args below hf hA hF happ hP
  obtain ⟨hcalls, hrest, hpre⟩ := hP
  obtain ⟨-, -, -, hnamed, -, -, -, hat⟩ := (Spec.applies_iff hf).mp happ
  obtain ⟨hg, hn⟩ := and_e (Cond.before_iff.mp (show (Jvm.Cond.and given_1 narrow_1).before args s = true from hpre))
  obtain ⟨g0, g1⟩ := and_e hg
  obtain ⟨w0, rfl⟩ : ∃ w0 : Value, args = #[w0] := by
    have hs : args.size = 1 := by simpa [Cond.value, given_1] using g0
    obtain ⟨L⟩ := args
    match L, hs with
    | [w0], _ => exact ⟨w0, rfl⟩
  have hw := fun d (hd : d ∈ tables_1) => atoms_spec (ws := Jvm.Cond.code x code maxLocals ret :: tables_1) hat d (List.mem_cons_of_mem _ hd)
  have hfit : Fit s := fun {y c} hc i hi => by
    obtain ⟨ha, rfl⟩ := Array.getElem?_eq_some_iff.mp hc
    have q := List.all_eq_true.mp ((Array.all_eq_true_iff_forall_mem.mp hF) _ (Array.getElem_mem ha)) i (List.mem_range.mpr hi)
    simpa [Array.getElem?_eq_getElem hi] using q
  obtain ⟨i0, e0⟩ := is_v g1
  obtain rfl : w0 = (.int i0) := Option.some.inj e0
  obtain ⟨c0, cc0⟩ := and_e hn
  obtain ⟨c1, cc1⟩ := and_e cc0
  obtain ⟨c2, cc2⟩ := and_e cc1
  obtain ⟨c3, cc3⟩ := and_e cc2
  obtain ⟨c4, cc4⟩ := and_e cc3
  obtain ⟨c5, cc5⟩ := and_e cc4
  obtain ⟨c6, cc6⟩ := and_e cc5
  obtain ⟨c7, cc7⟩ := and_e cc6
  obtain ⟨c8, cc8⟩ := and_e cc7
  obtain ⟨c9, cc9⟩ := and_e cc8
  obtain ⟨c10, cc10⟩ := and_e cc9
  obtain ⟨c11, cc11⟩ := and_e cc10
  obtain ⟨c12, cc12⟩ := and_e cc11
  obtain ⟨c13, cc13⟩ := and_e cc12
  obtain ⟨c14, cc14⟩ := and_e cc13
  obtain ⟨c15, cc15⟩ := and_e cc14
  obtain ⟨c16, c17⟩ := and_e cc15
  obtain ⟨a__VALUES, ev__VALUES⟩ := arr_v c0
  have S__VALUES := Sta.start ev__VALUES (Or.inr ⟨(hw _ (List.mem_of_getElem? (i := 3) rfl)), (hw _ (List.mem_of_getElem? (i := 9) rfl))⟩)
  have E__VALUES := Exa.start ev__VALUES c1
  obtain ⟨a_PENDING, ev_PENDING⟩ := exa_v c3
  have S_PENDING := Sta.start ev_PENDING (Or.inr ⟨(hw _ (List.mem_of_getElem? (i := 3) rfl)), (hw _ (List.mem_of_getElem? (i := 17) rfl))⟩)
  have E_PENDING := Exa.start ev_PENDING c3
  obtain ⟨a_ACTIVE, ev_ACTIVE⟩ := exa_v c5
  have S_ACTIVE := Sta.start ev_ACTIVE (Or.inr ⟨(hw _ (List.mem_of_getElem? (i := 3) rfl)), (hw _ (List.mem_of_getElem? (i := 18) rfl))⟩)
  have E_ACTIVE := Exa.start ev_ACTIVE c5
  obtain ⟨a_COMPLETE, ev_COMPLETE⟩ := exa_v c7
  have S_COMPLETE := Sta.start ev_COMPLETE (Or.inr ⟨(hw _ (List.mem_of_getElem? (i := 3) rfl)), (hw _ (List.mem_of_getElem? (i := 19) rfl))⟩)
  have E_COMPLETE := Exa.start ev_COMPLETE c7
  obtain ⟨a_ERROR, ev_ERROR⟩ := exa_v c9
  have S_ERROR := Sta.start ev_ERROR (Or.inr ⟨(hw _ (List.mem_of_getElem? (i := 3) rfl)), (hw _ (List.mem_of_getElem? (i := 20) rfl))⟩)
  have E_ERROR := Exa.start ev_ERROR c9
  obtain ⟨a_EXCLUDED, ev_EXCLUDED⟩ := exa_v c11
  have S_EXCLUDED := Sta.start ev_EXCLUDED (Or.inr ⟨(hw _ (List.mem_of_getElem? (i := 3) rfl)), (hw _ (List.mem_of_getElem? (i := 21) rfl))⟩)
  have E_EXCLUDED := Exa.start ev_EXCLUDED c11
  have ev_PENDING_code := OwnK.eqI_v c13
  have F_PENDING_code := Fld.start (by rw [← fld_at ev_PENDING]; exact ev_PENDING_code)
  have ev_ACTIVE_code := OwnK.eqI_v c14
  have F_ACTIVE_code := Fld.start (by rw [← fld_at ev_ACTIVE]; exact ev_ACTIVE_code)
  have ev_COMPLETE_code := OwnK.eqI_v c15
  have F_COMPLETE_code := Fld.start (by rw [← fld_at ev_COMPLETE]; exact ev_COMPLETE_code)
  have ev_ERROR_code := OwnK.eqI_v c16
  have F_ERROR_code := Fld.start (by rw [← fld_at ev_ERROR]; exact ev_ERROR_code)
  have ev_EXCLUDED_code := OwnK.eqI_v c17
  have F_EXCLUDED_code := Fld.start (by rw [← fld_at ev_EXCLUDED]; exact ev_EXCLUDED_code)
  obtain ⟨cl__VALUES, Ar__VALUES⟩ := Arr.start ev__VALUES c0
  have ln__VALUES := OwnK.lenOfTerm (n := 5) (OwnK.eqI_v c2) ev__VALUES Ar__VALUES.1 rfl
  have el__VALUES_0 : cl__VALUES.slots[0]? = some (.ref a_PENDING) := (elem_in (OwnK.eqR_v c4 ev_PENDING) ev__VALUES (Term.int_eval 0) Ar__VALUES.1).2
  have el__VALUES_1 : cl__VALUES.slots[1]? = some (.ref a_ACTIVE) := (elem_in (OwnK.eqR_v c6 ev_ACTIVE) ev__VALUES (Term.int_eval 1) Ar__VALUES.1).2
  have el__VALUES_2 : cl__VALUES.slots[2]? = some (.ref a_COMPLETE) := (elem_in (OwnK.eqR_v c8 ev_COMPLETE) ev__VALUES (Term.int_eval 2) Ar__VALUES.1).2
  have el__VALUES_3 : cl__VALUES.slots[3]? = some (.ref a_ERROR) := (elem_in (OwnK.eqR_v c10 ev_ERROR) ev__VALUES (Term.int_eval 3) Ar__VALUES.1).2
  have el__VALUES_4 : cl__VALUES.slots[4]? = some (.ref a_EXCLUDED) := (elem_in (OwnK.eqR_v c12 ev_EXCLUDED) ev__VALUES (Term.int_eval 4) Ar__VALUES.1).2
  have A__VALUES : OwnK.Ark s s.heap a__VALUES (.object "com/example/brisk_crawl/briskcrawl/PageState") [(.ref a_PENDING), (.ref a_ACTIVE), (.ref a_COMPLETE), (.ref a_ERROR), (.ref a_EXCLUDED)] := OwnK.Ark.start hfit Ar__VALUES ln__VALUES (Nat.le_of_ble_eq_true rfl) (fun i hi => match i, hi with | 0, _ => el__VALUES_0 | 1, _ => el__VALUES_1 | 2, _ => el__VALUES_2 | 3, _ => el__VALUES_3 | 4, _ => el__VALUES_4 | k + 5, hi => absurd hi (by simp))
  obtain ⟨n, o, h1, h2, h3, v, L, rfl, ⟨⟨w, rfl, rfl⟩, N⟩, hq⟩ := rm0 l s _ hw tables_1 i0 s.heap s.heap.size a__VALUES S__VALUES E__VALUES a_PENDING S_PENDING E_PENDING a_ACTIVE S_ACTIVE E_ACTIVE a_COMPLETE S_COMPLETE E_COMPLETE a_ERROR S_ERROR E_ERROR a_EXCLUDED S_EXCLUDED E_EXCLUDED F_PENDING_code F_ACTIVE_code F_COMPLETE_code F_ERROR_code F_EXCLUDED_code A__VALUES p e ha hc hk s m _ below hf ((Spec.applies_iff_loose hf).mp happ).1 ⟨rfl, State.Warmed39.refl s, rfl⟩ trivial
  refine ⟨n, _, h1, h2, h3, hpost _ _ _ _ _ _ ⟨Cond.after_iff.mpr rfl, Cond.after_iff.mpr (eq_i res_at (Term.int_eval (1)) rfl), trivial⟩ ⟨hq.1, hq.2.1, (hq.2.2.sift fun y hy => Or.inr (N y hy)).mono (by decide) (by decide)⟩⟩
theorem main_1_1 : Claimed_1_1 := comes_1 fun _ _ _ _ _ _ h hF => ⟨h.1, hF⟩
theorem main_1_2 : Claimed_1_2 := comes_1 fun _ _ _ _ _ _ h hF => ⟨h.2.1, hF⟩
end Jvm.Pilot.@@N@@
namespace Jvm.Pilot.@@N@@
open Jvm Jvm.ClassFile Sem Op Lib Jvm.Free Jvm.Stand Jvm.Pilot.@@N@@.Jvm.D
/-! MADE BY PROGRAM (witnessworld.py) out of the Statement's table words and the real class files: 13 classes; the members and pool entries that the words name. The judged class is class 1, her method 2. -/
namespace start1
open Jvm.ClassFile
def u (s : String) : CpInfo := .utf8 (stringToUtf16 s)
/-- a pool by its gaps: so many unusable entries, then the entry; so many at the end -/
def gap : Nat → List CpInfo → List CpInfo
  | 0, r => r
  | n + 1, r => .unusable :: gap n r
def poolList (es : List (Nat × CpInfo)) (last : Nat) : List CpInfo := es.foldr (fun e r => gap e.1 (e.2 :: r)) (gap last [])
def pool (es : List (Nat × CpInfo)) (last : Nat) : Array CpInfo := ⟨poolList es last⟩
def fileOf (pool : Array CpInfo) (this : Nat) (attrs : Array Attribute := #[]) (ms : Array MethodInfo := #[]) (fl : Nat := 33) (sup : Nat := 0) (ifs : Array Nat := #[]) (fds : Array FieldInfo := #[]) : ClassFile where
  minorVersion := 0
  majorVersion := 65
  constantPool := pool
  accessFlags := fl
  thisClass := this
  superClass := sup
  interfaces := ifs
  fields := fds
  methods := ms
  attributes := attrs
def plain (name : String) (sup : Option ClassId) : Class where
  name := name
  kind := .ordinary
  loader := none
  accessFlags := 33
  super := sup
  interfaces := #[]
  cf := none
  fields := #[]
  methods := #[]
  instanceTypes := #[]
  staticTypes := #[]
  resolved := #[]
  callSites := []
  init := .initialized
  statics := none
  mirror := none

def pool0 : Array CpInfo := pool [(5, u "<init>"), (0, u "()V"), (1, .class_ 10), (1, u "java/lang/Object"), (85, u "clone"), (0, u "()Ljava/lang/Object;")] 26

def k0m0 : Method := { name := "<init>", desc := "()V", sig := { parameters := [], returnType := none }, accessFlags := 1, code := none }
def k0m1 : Method := { name := "clone", desc := "()Ljava/lang/Object;", sig := { parameters := [], returnType := some (.object "java/lang/Object") }, accessFlags := 260, code := none }
/-- java/lang/Object -/
def k0 : Class := { plain "java/lang/Object" none with
  accessFlags := 33
  interfaces := #[]
  cf := some (fileOf pool0 8 #[] #[{ accessFlags := 1, nameIndex := 5, descriptorIndex := 6, attributes := #[] }, { accessFlags := 260, nameIndex := 96, descriptorIndex := 97, attributes := #[] }] 33 0 #[] #[])
  fields := #[]
  methods := #[k0m0, k0m1]
  instanceTypes := #[]
  staticTypes := #[]
  resolved := Array.replicate 124 none
  statics := none }

def pool1 : Array CpInfo := pool [(2, .class_ 4), (1, u "java/lang/Object"), (0, u "<init>"), (0, u "()V"), (0, .fieldref 8 9), (0, .class_ 10), (0, .nameAndType 11 12), (0, u "com/example/brisk_crawl/briskcrawl/PageState"), (0, u "PENDING"), (0, u "Lcom/example/brisk_crawl/briskcrawl/PageState;"), (0, .fieldref 8 14), (0, .nameAndType 15 12), (0, u "ACTIVE"), (0, .fieldref 8 17), (0, .nameAndType 18 12), (0, u "COMPLETE"), (0, .fieldref 8 20), (0, .nameAndType 21 12), (0, u "ERROR"), (0, .fieldref 8 23), (0, .nameAndType 24 12), (0, u "EXCLUDED"), (0, .integer 2147483647), (0, .methodref 8 27), (0, .nameAndType 28 29), (0, u "ofCode"), (0, u "(I)Lcom/example/brisk_crawl/briskcrawl/PageState;"), (0, .methodref 31 32), (0, .class_ 33), (0, .nameAndType 34 29), (0, u "com/example/brisk_crawl/briskcrawl/PageStateOfCodePinLaw"), (0, u "expected"), (0, .fieldref 8 36), (0, .nameAndType 37 38), (0, u "code"), (0, u "I"), (3, u "law"), (0, u "(I)Z")] 2

def k1m0 : Method := { name := "<init>", desc := "()V", sig := { parameters := [], returnType := none }, accessFlags := 2, code := none }
def k1c1 : Code := { maxStack := 2, maxLocals := 1, code := method_2_code, exceptionTable := #[], attributes := #[] }
def k1m1 : Method := { name := "expected", desc := "(I)Lcom/example/brisk_crawl/briskcrawl/PageState;", sig := { parameters := [.int], returnType := some (.object "com/example/brisk_crawl/briskcrawl/PageState") }, accessFlags := 10, code := some k1c1 }
def k1c2 : Code := { maxStack := 2, maxLocals := 3, code := code, exceptionTable := #[], attributes := #[] }
def k1m2 : Method := { name := "law", desc := "(I)Z", sig := { parameters := [.int], returnType := some .boolean }, accessFlags := 9, code := some k1c2 }
/-- com/example/brisk_crawl/briskcrawl/PageStateOfCodePinLaw -/
def k1 : Class := { plain "com/example/brisk_crawl/briskcrawl/PageStateOfCodePinLaw" (some 0) with
  accessFlags := 49
  interfaces := #[]
  cf := some (fileOf pool1 31 #[] #[{ accessFlags := 2, nameIndex := 5, descriptorIndex := 6, attributes := #[] }, { accessFlags := 10, nameIndex := 34, descriptorIndex := 29, attributes := #[] }, { accessFlags := 9, nameIndex := 42, descriptorIndex := 43, attributes := #[] }] 49 2 #[] #[])
  fields := #[]
  methods := #[k1m0, k1m1, k1m2]
  instanceTypes := #[]
  staticTypes := #[]
  resolved := Array.replicate 46 none
  statics := none }

def pool2 : Array CpInfo := pool [(1, .class_ 2), (0, u "java/lang/constant/Constable"), (0, .class_ 4), (0, u "java/lang/Object")] 6

/-- java/lang/constant/Constable -/
def k2 : Class := { plain "java/lang/constant/Constable" (some 0) with
  accessFlags := 1537
  interfaces := #[]
  cf := some (fileOf pool2 1 #[] #[] 1537 3 #[] #[])
  fields := #[]
  methods := #[]
  instanceTypes := #[]
  staticTypes := #[]
  resolved := Array.replicate 11 none
  statics := none }

def pool3 : Array CpInfo := pool [(1, .class_ 2), (0, u "java/lang/Comparable"), (0, .class_ 4), (0, u "java/lang/Object")] 7

/-- java/lang/Comparable -/
def k3 : Class := { plain "java/lang/Comparable" (some 0) with
  accessFlags := 1537
  interfaces := #[]
  cf := some (fileOf pool3 1 #[] #[] 1537 3 #[] #[])
  fields := #[]
  methods := #[]
  instanceTypes := #[]
  staticTypes := #[]
  resolved := Array.replicate 12 none
  statics := none }

def pool4 : Array CpInfo := pool [(1, .class_ 2), (0, u "java/io/Serializable"), (0, .class_ 4), (0, u "java/lang/Object")] 2

/-- java/io/Serializable -/
def k4 : Class := { plain "java/io/Serializable" (some 0) with
  accessFlags := 1537
  interfaces := #[]
  cf := some (fileOf pool4 1 #[] #[] 1537 3 #[] #[])
  fields := #[]
  methods := #[]
  instanceTypes := #[]
  staticTypes := #[]
  resolved := Array.replicate 7 none
  statics := none }

def pool5 : Array CpInfo := pool [(2, .class_ 4), (1, u "java/lang/Enum"), (0, u "name"), (0, u "Ljava/lang/String;"), (2, u "ordinal"), (0, u "I"), (1, .class_ 14), (1, u "java/lang/Object"), (4, u "hash"), (86, .class_ 108), (1, u "java/lang/Enum$EnumDesc"), (2, .class_ 112), (0, u "java/lang/constant/Constable"), (0, .class_ 114), (0, u "java/lang/Comparable"), (0, .class_ 116), (0, u "java/io/Serializable")] 87

/-- java/lang/Enum -/
def k5 : Class := { plain "java/lang/Enum" (some 0) with
  accessFlags := 1057
  interfaces := #[2, 3, 4]
  cf := some (fileOf pool5 2 #[.nestMembers #[106]] #[] 1057 12 #[111, 113, 115] #[{ accessFlags := 18, nameIndex := 5, descriptorIndex := 6, attributes := #[] }, { accessFlags := 18, nameIndex := 9, descriptorIndex := 10, attributes := #[] }, { accessFlags := 2, nameIndex := 19, descriptorIndex := 10, attributes := #[] }])
  fields := #[{ name := "name", type := (.object "java/lang/String"), accessFlags := 18, slot := 0, constantValue := 0 }, { name := "ordinal", type := .int, accessFlags := 18, slot := 1, constantValue := 0 }, { name := "hash", type := .int, accessFlags := 2, slot := 2, constantValue := 0 }]
  methods := #[]
  instanceTypes := #[(.object "java/lang/String"), .int, .int]
  staticTypes := #[]
  resolved := Array.replicate 204 none
  statics := none }

def pool6 : Array CpInfo := pool [(1, .class_ 2), (0, u "com/example/brisk_crawl/briskcrawl/PageState"), (2, u "PENDING"), (0, u "Lcom/example/brisk_crawl/briskcrawl/PageState;"), (2, u "ACTIVE"), (2, u "COMPLETE"), (2, u "ERROR"), (2, u "EXCLUDED"), (0, .fieldref 1 20), (0, .nameAndType 21 22), (0, u "$VALUES"), (0, u "[Lcom/example/brisk_crawl/briskcrawl/PageState;"), (0, .methodref 24 25), (0, .class_ 22), (0, .nameAndType 26 27), (0, u "clone"), (0, u "()Ljava/lang/Object;"), (1, .class_ 31), (1, u "java/lang/Enum"), (6, .fieldref 1 39), (0, .nameAndType 40 41), (0, u "code"), (0, u "I"), (21, .methodref 1 64), (0, .nameAndType 65 66), (0, u "values"), (0, u "()[Lcom/example/brisk_crawl/briskcrawl/PageState;"), (0, .class_ 68), (0, u "com/example/brisk_crawl/briskcrawl/PageState$StatusLine"), (56, u "ofCode"), (0, u "(I)Lcom/example/brisk_crawl/briskcrawl/PageState;")] 21

def k6c0 : Code := { maxStack := 1, maxLocals := 0, code := prog_6_method_1_code, exceptionTable := #[], attributes := #[] }
def k6m0 : Method := { name := "values", desc := "()[Lcom/example/brisk_crawl/briskcrawl/PageState;", sig := { parameters := [], returnType := some (.array (.object "com/example/brisk_crawl/briskcrawl/PageState")) }, accessFlags := 9, code := some k6c0 }
def k6c1 : Code := { maxStack := 3, maxLocals := 5, code := prog_6_method_6_code, exceptionTable := #[], attributes := #[] }
def k6m1 : Method := { name := "ofCode", desc := "(I)Lcom/example/brisk_crawl/briskcrawl/PageState;", sig := { parameters := [.int], returnType := some (.object "com/example/brisk_crawl/briskcrawl/PageState") }, accessFlags := 8, code := some k6c1 }
/-- com/example/brisk_crawl/briskcrawl/PageState -/
def k6 : Class := { plain "com/example/brisk_crawl/briskcrawl/PageState" (some 5) with
  accessFlags := 16432
  interfaces := #[]
  cf := some (fileOf pool6 1 #[.nestMembers #[67]] #[{ accessFlags := 9, nameIndex := 65, descriptorIndex := 66, attributes := #[] }, { accessFlags := 8, nameIndex := 125, descriptorIndex := 126, attributes := #[] }] 16432 29 #[] #[{ accessFlags := 16409, nameIndex := 5, descriptorIndex := 6, attributes := #[] }, { accessFlags := 16409, nameIndex := 9, descriptorIndex := 6, attributes := #[] }, { accessFlags := 16409, nameIndex := 12, descriptorIndex := 6, attributes := #[] }, { accessFlags := 16409, nameIndex := 15, descriptorIndex := 6, attributes := #[] }, { accessFlags := 16409, nameIndex := 18, descriptorIndex := 6, attributes := #[] }, { accessFlags := 16, nameIndex := 40, descriptorIndex := 41, attributes := #[] }, { accessFlags := 4122, nameIndex := 21, descriptorIndex := 22, attributes := #[] }])
  fields := #[{ name := "PENDING", type := (.object "com/example/brisk_crawl/briskcrawl/PageState"), accessFlags := 16409, slot := 0, constantValue := 0 }, { name := "ACTIVE", type := (.object "com/example/brisk_crawl/briskcrawl/PageState"), accessFlags := 16409, slot := 1, constantValue := 0 }, { name := "COMPLETE", type := (.object "com/example/brisk_crawl/briskcrawl/PageState"), accessFlags := 16409, slot := 2, constantValue := 0 }, { name := "ERROR", type := (.object "com/example/brisk_crawl/briskcrawl/PageState"), accessFlags := 16409, slot := 3, constantValue := 0 }, { name := "EXCLUDED", type := (.object "com/example/brisk_crawl/briskcrawl/PageState"), accessFlags := 16409, slot := 4, constantValue := 0 }, { name := "code", type := .int, accessFlags := 16, slot := 3, constantValue := 0 }, { name := "$VALUES", type := (.array (.object "com/example/brisk_crawl/briskcrawl/PageState")), accessFlags := 4122, slot := 5, constantValue := 0 }]
  methods := #[k6m0, k6m1]
  instanceTypes := #[(.object "java/lang/String"), .int, .int, .int]
  staticTypes := #[(.object "com/example/brisk_crawl/briskcrawl/PageState"), (.object "com/example/brisk_crawl/briskcrawl/PageState"), (.object "com/example/brisk_crawl/briskcrawl/PageState"), (.object "com/example/brisk_crawl/briskcrawl/PageState"), (.object "com/example/brisk_crawl/briskcrawl/PageState"), (.array (.object "com/example/brisk_crawl/briskcrawl/PageState"))]
  resolved := Array.replicate 148 none
  statics := some 0 }

def pool7 : Array CpInfo := pool [(1, .class_ 2), (0, u "java/lang/Cloneable"), (0, .class_ 4), (0, u "java/lang/Object")] 2

/-- java/lang/Cloneable -/
def k7 : Class := { plain "java/lang/Cloneable" (some 0) with
  accessFlags := 1537
  interfaces := #[]
  cf := some (fileOf pool7 1 #[] #[] 1537 3 #[] #[])
  fields := #[]
  methods := #[]
  instanceTypes := #[]
  staticTypes := #[]
  resolved := Array.replicate 7 none
  statics := none }

/-- the primitive byte -/
def k8 : Class := { plain "byte" none with kind := .primitive 'B', accessFlags := 0x411 }
/-- [B -/
def k9 : Class := { plain "[B" (some 0) with kind := .array 8 .byte, interfaces := #[7, 4], accessFlags := 1041 }

/-- the primitive int -/
def k10 : Class := { plain "int" none with kind := .primitive 'I', accessFlags := 0x411 }
/-- [I -/
def k11 : Class := { plain "[I" (some 0) with kind := .array 10 .int, interfaces := #[7, 4], accessFlags := 1041 }

/-- [Lcom/example/brisk_crawl/briskcrawl/PageState; -/
def k12 : Class := { plain "[Lcom/example/brisk_crawl/briskcrawl/PageState;" (some 0) with kind := .array 6 (.object "com/example/brisk_crawl/briskcrawl/PageState"), interfaces := #[7, 4], accessFlags := 1041 }

def heap : Heap := #[{ cls := 6, slots := #[.ref 2, .ref 3, .ref 4, .ref 5, .ref 6, .ref 1], vm := .statics 6 },
  { cls := 12, slots := #[.ref 2, .ref 3, .ref 4, .ref 5, .ref 6], vm := .none },
  { cls := 6, slots := #[.null, .int 0, .int 0, .int 0], vm := .none },
  { cls := 6, slots := #[.null, .int 0, .int 0, .int 1], vm := .none },
  { cls := 6, slots := #[.null, .int 0, .int 0, .int 2], vm := .none },
  { cls := 6, slots := #[.null, .int 0, .int 0, .int 3], vm := .none },
  { cls := 6, slots := #[.null, .int 0, .int 0, .int 4], vm := .none }]
def classes : Array Class := #[k0, k1, k2, k3, k4, k5, k6, k7, k8, k9, k10, k11, k12]
def interned : List (Array UInt16 × Addr) := []
def slotsUsed : Nat := 31
def theMethod : MethodId := ⟨1, 2⟩
def args0 : Array Value := #[.int 5]
def aboutOver (below : List Frame) : State where
  vm := { classes := classes, interned := interned.toArray }
  heap := heap
  slotsUsed := slotsUsed
  threads := #[{ frames := .invoking theMethod args0 :: below }]
def below0 : List Frame := [.native { method := ⟨0, 0⟩, args := #[] }]
def about1 : State := aboutOver below0
def p0 : Program := .bare "" "" ""
def e0 : Env := launch0.env 0 0 0
theorem w_frames : about1.frames = Frame.invoking theMethod args0 :: below0 := rfl
set_option maxRecDepth 65536 in
theorem w_args : argsFit about1.vm theMethod args0 = true := by decide +kernel
set_option maxRecDepth 65536 in
theorem w_heap : heapFits about1 = true := by decide +kernel
set_option maxRecDepth 65536 in
theorem w_runnable : about1.curStatus? = some .runnable := by decide +kernel
set_option maxRecDepth 65536 in
theorem w_alone : about1.alone = true := by decide +kernel
set_option maxRecDepth 65536 in
theorem w_named : about1.methodNamed? x = some theMethod := by decide +kernel
set_option maxRecDepth 65536 in
theorem w_hears : about1.hears theMethod below0 = true := by decide +kernel
set_option maxRecDepth 65536 in
theorem w_ripe : about1.ripe theMethod args0 below0 = true := by decide +kernel
theorem w_running : about1.status = .running := rfl
set_option maxRecDepth 65536 in
theorem w_room : about1.hasRoom e0.platform room_1 = true :=
  launch0.hasRoom_least _ room_1 (by decide +kernel) (by decide +kernel) (by decide +kernel) (by decide +kernel) (by decide +kernel) (by decide +kernel)
theorem allAtoms_all (ts : List Jvm.Cond) (a : Array Jvm.Value) (st : Jvm.State) : (allAtoms ts).before a st = ts.all (fun c => c.before a st) := by
  induction ts with
  | nil => rfl
  | cons c t ih =>
    show (Jvm.Cond.and c (allAtoms t)).before a st = _
    rw [Jvm.Cond.before_and, ih, List.all_cons]
def words1 : List Jvm.Cond := Jvm.Cond.code x code maxLocals ret :: tables_1
/-- a 'code' word, met by the world's own term for the bytes: nothing is compared byte by byte -/
theorem code_word {y : MethodName} {bytes : ByteArray} {mx : Nat} {rt : Option FieldType} {a : Array Value} {s : State} {m : MethodId} {meth : Method} {c : Code} (h1 : s.methodNamed? y = some m) (h2 : s.vm.method? m = some meth) (h3 : meth.code = some c) (h4 : c.code = bytes)
    (h5 : (c.maxLocals == mx && c.exceptionTable.isEmpty && decide (c.maxStack ≤ mostOperands) && decide (meth.sig.returnType = rt) && !meth.locks && decide (parseMethodDescriptor y.desc = some meth.sig)) = true) : (Jvm.Cond.code y bytes mx rt).before a s = true := by
  simp only [Bool.and_eq_true, beq_iff_eq, Bool.not_eq_true', decide_eq_true_eq] at h5
  obtain ⟨⟨⟨⟨⟨g1, g2⟩, g3⟩, g4⟩, g5⟩, g6⟩ := h5
  simp [Cond.before, Cond.holds, Cond.value, h1, h2, h3, h4, g1, g2, g3, g4, g5, g6]
def isCode : Jvm.Cond → Bool
  | .code _ _ _ _ => true
  | _ => false
theorem all_split {L : List Jvm.Cond} {P : Jvm.Cond → Bool} (h1 : L.all (fun c => isCode c || P c) = true) (h2 : ∀ c ∈ L.filter isCode, P c = true) : L.all P = true := by
  refine List.all_eq_true.mpr fun c hc => ?_
  have h := List.all_eq_true.mp h1 c hc
  rcases Bool.eq_false_or_eq_true (isCode c) with hi | hi
  · exact h2 c (List.mem_filter.mpr ⟨hc, hi⟩)
  · simpa [hi] using h
set_option maxRecDepth 65536 in
theorem w_c0 : (Jvm.Cond.code x code maxLocals ret).before args0 about1 = true := code_word (m := ⟨1, 2⟩) (meth := k1m2) (c := k1c2) (by decide +kernel) rfl rfl rfl (by decide +kernel)
set_option maxRecDepth 65536 in
theorem w_c1 : (Jvm.Cond.code ({ cls := "com/example/brisk_crawl/briskcrawl/PageState", name := "ofCode", desc := "(I)Lcom/example/brisk_crawl/briskcrawl/PageState;" } : Jvm.MethodName) prog_6_method_6_code (5 : Nat) (Option.some (Jvm.ClassFile.FieldType.object "com/example/brisk_crawl/briskcrawl/PageState"))).before args0 about1 = true := code_word (m := ⟨6, 1⟩) (meth := k6m1) (c := k6c1) (by decide +kernel) rfl rfl rfl (by decide +kernel)
set_option maxRecDepth 65536 in
theorem w_c2 : (Jvm.Cond.code ({ cls := "com/example/brisk_crawl/briskcrawl/PageState", name := "values", desc := "()[Lcom/example/brisk_crawl/briskcrawl/PageState;" } : Jvm.MethodName) prog_6_method_1_code (0 : Nat) (Option.some (Jvm.ClassFile.FieldType.array (Jvm.ClassFile.FieldType.object "com/example/brisk_crawl/briskcrawl/PageState")))).before args0 about1 = true := code_word (m := ⟨6, 0⟩) (meth := k6m0) (c := k6c0) (by decide +kernel) rfl rfl rfl (by decide +kernel)
set_option maxRecDepth 65536 in
theorem w_c3 : (Jvm.Cond.code ({ cls := "com/example/brisk_crawl/briskcrawl/PageStateOfCodePinLaw", name := "expected", desc := "(I)Lcom/example/brisk_crawl/briskcrawl/PageState;" } : Jvm.MethodName) method_2_code (1 : Nat) (Option.some (Jvm.ClassFile.FieldType.object "com/example/brisk_crawl/briskcrawl/PageState"))).before args0 about1 = true := code_word (m := ⟨1, 1⟩) (meth := k1m1) (c := k1c1) (by decide +kernel) rfl rfl rfl (by decide +kernel)
def codes1 : List Jvm.Cond := [Jvm.Cond.code x code maxLocals ret, Jvm.Cond.code ({ cls := "com/example/brisk_crawl/briskcrawl/PageState", name := "ofCode", desc := "(I)Lcom/example/brisk_crawl/briskcrawl/PageState;" } : Jvm.MethodName) prog_6_method_6_code (5 : Nat) (Option.some (Jvm.ClassFile.FieldType.object "com/example/brisk_crawl/briskcrawl/PageState")), Jvm.Cond.code ({ cls := "com/example/brisk_crawl/briskcrawl/PageState", name := "values", desc := "()[Lcom/example/brisk_crawl/briskcrawl/PageState;" } : Jvm.MethodName) prog_6_method_1_code (0 : Nat) (Option.some (Jvm.ClassFile.FieldType.array (Jvm.ClassFile.FieldType.object "com/example/brisk_crawl/briskcrawl/PageState"))), Jvm.Cond.code ({ cls := "com/example/brisk_crawl/briskcrawl/PageStateOfCodePinLaw", name := "expected", desc := "(I)Lcom/example/brisk_crawl/briskcrawl/PageState;" } : Jvm.MethodName) method_2_code (1 : Nat) (Option.some (Jvm.ClassFile.FieldType.object "com/example/brisk_crawl/briskcrawl/PageState"))]
set_option maxRecDepth 65536 in
theorem codes_eq : words1.filter isCode = codes1 := rfl
theorem w_codes : ∀ c ∈ words1.filter isCode, c.before args0 about1 = true := by
  rw [codes_eq]
  intro c hc
  simp only [codes1, List.mem_cons, List.not_mem_nil, or_false] at hc
  rcases hc with rfl | rfl | rfl | rfl
  · exact w_c0
  · exact w_c1
  · exact w_c2
  · exact w_c3
set_option maxRecDepth 65536 in
theorem w_t1 : (words1.take 24).all (fun c => isCode c || c.before args0 about1) = true := by decide +kernel
set_option maxRecDepth 65536 in
theorem w_t2 : (words1.drop 24).all (fun c => isCode c || c.before args0 about1) = true := by decide +kernel
theorem w_tables : (allAtoms (Jvm.Cond.code x code maxLocals ret :: tables_1)).before args0 about1 = true := by
  rw [allAtoms_all]
  show words1.all (fun c => c.before args0 about1) = true
  refine all_split ?_ w_codes
  rw [← List.take_append_drop 24 words1, List.all_append, w_t1, w_t2]
  rfl
set_option maxRecDepth 65536 in
theorem w_case : (Jvm.Cond.and given_1 narrow_1).before args0 about1 = true := by decide +kernel
theorem w_applies : (headSpec (Jvm.Cond.code x code maxLocals ret :: tables_1) room_1).applies x e0.platform about1 = true :=
  (Spec.applies_iff w_frames).mpr ⟨w_running, w_runnable, w_alone, w_named, w_hears, w_ripe, w_room, w_tables⟩
theorem atStart : AtStart classFile x code maxLocals ret World_1 tables_1 room_1 Calls_1 rest_1 Pre_1 launch0 p0 e0 about1 theMethod args0 below0 :=
  ⟨lists_1, trivial, launch0.admits_env _ _ _, launch0.least_env, fairChoices_fair.cas, fairChoices_fair.clock, w_frames, w_args, w_heap, w_applies, trivial, trivial, w_case⟩
end start1
theorem witness_1 : WitnessClaimed_1 := ⟨start1.p0, start1.e0, start1.about1, start1.theMethod, start1.args0, start1.below0, start1.atStart⟩
end Jvm.Pilot.@@N@@
