import JvmDerived
import JvmDerived.Pilot.@@N@@Statement
import JvmDerived.Pilot.@@N@@Code
set_option linter.unusedVariables false
set_option linter.unusedSimpArgs false
namespace Jvm.OwnK
open Sem ClassFile Op Lib Jvm.Stand Jvm.Free Jvm.LawKit Jvm.RoadKit
section A
variable {p : Program} {l : Launch} {e : Env} {R : Room} {s : State} {m : MethodId} {args : Array Value} {below : List Frame} {meth : Method} {c : Code} {T : State} {Z : State} {a0 : Array Value} {h : Heap} {n0 kc ks fc fs : Nat} {Q : Option Value → Heap → Prop} {y : MethodName} {bytes : ByteArray} {maxL : Nat} {ret : Option FieldType}
/-- where the walk stands -/
def Sd (Z : State) (y : MethodName) (bytes : ByteArray) (maxL : Nat) (ret : Option FieldType) (p : Program) (l : Launch) (e : Env) (R : Room) (s : State) (m : MethodId) (args : Array Value) (below : List Frame) (meth : Method) (c : Code) (n0 : Nat) (h : Heap) (kc ks : Nat) (T : State) : Prop :=
  (p.tables.exec = Jvm.exec ∧ Z.Warmed39 s.vm ∧ c.code = bytes ∧ c.maxLocals = maxL ∧ meth.sig.returnType = ret ∧ meth.locks = false ∧ s.vm.findClass y.cls = some m.cls ∧ meth.name = y.name) ∧
  ∃ locs cells slots, Stand p l e R s m args below meth c T locs cells slots ∧ T.heap = h ∧ Fr n0 locs ∧ cells ≤ kc ∧ slots ≤ ks
/-- from t on the walk ends as Q says -/
def Run (p : Program) (e : Env) (below : List Frame) (s : State) (n0 fc fs : Nat) (Q : Option Value → Heap → Prop) (t : State) : Prop :=
  ∃ s₂ o, Steps p.tables e below t s₂ ∧ s₂.status = .running ∧ Ended s₂ below o ∧ ∃ v L, o = .returned v ∧ Q v s₂.heap ∧ Fr n0 L ∧ FrameEnd s o s₂ L fc fs
def Ctr (l : Launch) (Z : State) (y : MethodName) (bytes : ByteArray) (maxL : Nat) (ret : Option FieldType) (ws : List Cond) (rm : Room) (n0 : Nat) (as : Array Value) (h : Heap) (Q : Option Value → Heap → Prop) : Prop :=
  MetFree l y (head1 (Cond.code y bytes maxL ret :: ws) rm) (fun a U => a = as ∧ Z.Warmed39 U.vm ∧ U.heap = h) (fun _ _ _ _ _ => True) (fun _ U o U' => ∃ v L, o = .returned v ∧ (Q v U'.heap ∧ Fr n0 L) ∧ FrameEnd U o U' L rm.cells rm.slots)
/-- a value comes back -/
def Rt (Qv : Value → Heap → Prop) : Option Value → Heap → Prop := fun v h => ∃ w, v = some w ∧ Qv w h
/-- nothing comes back -/
def Rn (Qn : Heap → Prop) : Option Value → Heap → Prop := fun v h => v = none ∧ Qn h
theorem Run.st {t t' : State} (k : Run p e below s n0 fc fs Q t') (f : ∀ z, Steps p.tables e below t' z → Steps p.tables e below t z) : Run p e below s n0 fc fs Q t := by
  obtain ⟨s2, o, h1, r⟩ := k; exact ⟨s2, o, f _ h1, r⟩
theorem Run.mono {Q' : Option Value → Heap → Prop} {t : State} (k : Run p e below s n0 fc fs Q t) (f : ∀ v h, Q v h → Q' v h) : Run p e below s n0 fc fs Q' t := by
  obtain ⟨s2, o, h1, h2, h3, v, L, h4, h5, r⟩ := k; exact ⟨s2, o, h1, h2, h3, v, L, h4, f _ _ h5, r⟩
theorem Sd.hr (X : Sd Z y bytes maxL ret p l e R s m args below meth c n0 h kc ks T) : At T m c below := by obtain ⟨-, _, _, _, Y, -⟩ := X; exact Y.here
theorem Sd.d (X : Sd Z y bytes maxL ret p l e R s m args below meth c n0 h kc ks T) {pc : Nat} {r : Except DecodeError (Instr × Nat)} (q : decode bytes pc = r) : decode c.code pc = r := X.1.2.2.1 ▸ q
theorem Sd.more {kc' ks' : Nat} (X : Sd Z y bytes maxL ret p l e R s m args below meth c n0 h kc ks T) (h1 : kc ≤ kc') (h2 : ks ≤ ks') : Sd Z y bytes maxL ret p l e R s m args below meth c n0 h kc' ks' T := by
  obtain ⟨q, L, a, b, Y, r1, r2, r3, r4⟩ := X; exact ⟨q, L, a, b, Y, r1, r2, Nat.le_trans r3 h1, Nat.le_trans r4 h2⟩
theorem Ctr.of {rm : Room} {ws : List Cond} {as : Array Value} {ls0 : Array Slot} (hn : plainName y.cls = true) (hf : ∀ m, entryFrame m as maxL = mkF m 0 ls0 [])
    (body : ∀ (p : Program) (e : Env) (s : State) (m : MethodId) (below : List Frame) (meth : Method) (c : Code) (T : State), Sd Z y bytes maxL ret p l e rm s m as below meth c n0 h 0 0 T → Run p e below s n0 rm.cells rm.slots Q (T.setTop (mkF m 0 ls0 []))) : Ctr l Z y bytes maxL ret ws rm n0 as h Q := by
  refine MetFree.of_bodySF (plainFor_of_name hn) hisR ?_
  intro p e s m args below meth c s₁ Bd hml0 hP hK
  obtain ⟨rfl, hZ, hh⟩ := hP
  have X0 : Stand p l e rm s m args below meth c s₁ [] 0 0 := Stand.of_body Bd
  have e0 : s₁.heap = h := by rw [← hh, Bd.state]; rfl
  obtain ⟨s2, o, h1, h2, h3, v, L, h4, h5, h6, h7⟩ := body p e s m below meth c s₁ ⟨⟨Bd.exec, hZ, Bd.bytes, hml0, Bd.returns, Bd.notSynchronized, findClass_of_methodNamed Bd.named, (name_of_methodNamed Bd.named Bd.method).1⟩, [], 0, 0, X0, e0, Fr.nil _, Nat.le_refl _, Nat.le_refl _⟩
  exact ⟨s2, o, castTop (hf m) h1, h2, h3, v, L, h4, ⟨h5, h6⟩, h7⟩
theorem leaveQ (X : Sd Z y bytes maxL ret p l e R s m args below meth c n0 h kc ks T) {v : Option Value} (hv : ret = none → v = none) (hq : Q v h) (h1 : kc ≤ fc) (h2 : ks ≤ fs) {t : State}
    (st : ∀ {locs cells slots}, Stand p l e R s m args below meth c T locs cells slots → ∀ {ff : List Frame}, (∀ (f : JFrame) (acts : List Action), f.method = m → f.locked = none → f.entered = [] → (doReturn e (T.setTop f) acts v).1 = T.setFrames ff) → Steps p.tables e below t (T.setFrames ff)) : Run p e below s n0 fc fs Q t := by
  obtain ⟨⟨hx, hZ, hby, hml, hr, hlk, -⟩, L, a, b, Y, r1, r2, r3, r4⟩ := X
  obtain ⟨ff, g1, hrun, hended, hW, hsame⟩ := Y.leave (v := v) (fun q => hv (hr ▸ q)) hlk
  exact ⟨_, _, st Y g1, hrun, hended, v, L, rfl, by show Q v T.heap; rw [r1]; exact hq, r2, ⟨_, rfl⟩, hW, hsame.mono (Nat.le_trans r3 h1) (Nat.le_trans r4 h2)⟩
theorem areturn (X : Sd Z y bytes maxL ret p l e R s m args below meth c n0 h kc ks T) {t : FieldType} (hr : ret = some t) (ht : t.isReference = true) {pc : Nat} {ls : Array Slot} {w : Value} {st : List Value} (hw : w.isRef = true) (hd : decode bytes pc = .ok (.areturn, 1)) {Qv : Value → Heap → Prop} (hq : Qv w h) (h1 : kc ≤ fc) (h2 : ks ≤ fs) : Run p e below s n0 fc fs (Rt Qv) (T.setTop (mkF m pc ls (w :: st))) := by
  subst hr
  have hn : narrow t w = w := by cases w <;> cases t <;> first | rfl | exact absurd hw Bool.noConfusion | exact absurd ht Bool.noConfusion
  exact leaveQ X (v := some w) (fun q => by cases q) ⟨w, rfl, hq⟩ h1 h2 fun Y _ g => retOut Y X.1.1 X.1.2.2.2.2.1 hn (Or.inr (Or.inr (Or.inr (Or.inr ⟨rfl, ht, hw⟩)))) (X.d hd) g
theorem ireturn (X : Sd Z y bytes maxL ret p l e R s m args below meth c n0 h kc ks T) {t : FieldType} (hr : ret = some t) (ht : t = .int ∨ t = .boolean ∨ t = .byte ∨ t = .char ∨ t = .short) {pc : Nat} {ls : Array Slot} {z : Int32} {st : List Value} (hn : narrow t (.int z) = .int z) (hd : decode bytes pc = .ok (.ireturn, 1)) {Qv : Value → Heap → Prop} (hq : Qv (.int z) h) (h1 : kc ≤ fc) (h2 : ks ≤ fs) : Run p e below s n0 fc fs (Rt Qv) (T.setTop (mkF m pc ls (.int z :: st))) := by
  subst hr
  exact leaveQ X (v := some (.int z)) (fun q => by cases q) ⟨_, rfl, hq⟩ h1 h2 fun Y _ g => retOut Y X.1.1 X.1.2.2.2.2.1 hn (Or.inl ⟨rfl, ht, z, rfl⟩) (X.d hd) g
theorem lreturn (X : Sd Z y bytes maxL ret p l e R s m args below meth c n0 h kc ks T) (hr : ret = some .long) {pc : Nat} {ls : Array Slot} {z : Int64} {st : List Value} (hd : decode bytes pc = .ok (.lreturn, 1)) {Qv : Value → Heap → Prop} (hq : Qv (.long z) h) (h1 : kc ≤ fc) (h2 : ks ≤ fs) : Run p e below s n0 fc fs (Rt Qv) (T.setTop (mkF m pc ls (.long z :: st))) := by
  subst hr
  exact leaveQ X (v := some (.long z)) (fun q => by cases q) ⟨_, rfl, hq⟩ h1 h2 fun Y _ g => retOut Y X.1.1 X.1.2.2.2.2.1 rfl (Or.inr (Or.inl ⟨rfl, rfl, z, rfl⟩)) (X.d hd) g
theorem vreturn (X : Sd Z y bytes maxL ret p l e R s m args below meth c n0 h kc ks T) (hr : ret = none) {pc : Nat} {ls : Array Slot} (hd : decode bytes pc = .ok (.return_, 1)) {Qn : Heap → Prop} (hq : Qn h) (h1 : kc ≤ fc) (h2 : ks ≤ fs) : Run p e below s n0 fc fs (Rn Qn) (T.setTop (mkF m pc ls [])) := by
  subst hr
  exact leaveQ X (v := none) (fun _ => rfl) ⟨rfl, hq⟩ h1 h2 fun Y _ g => Y.returnOut X.1.1 X.1.2.2.2.2.1 (X.d hd) g
theorem narB {b : Bool} : narrow .boolean (.int (if b then 1 else 0)) = .int (if b then 1 else 0) := by cases b <;> rfl

theorem iloadN (X : Sd Z y bytes maxL ret p l e R s m args below meth c n0 h kc ks T) {pc n : Nat} {ls : Array Slot} {st : List Value} {k : Fin 4} {v : Int32} (hd : decode bytes pc = .ok (.iload_n k, 1)) (hl : ls[k.val]? = some (.val (.int v))) (hn : pc + 1 = n) (K : Run p e below s n0 fc fs Q (T.setTop (mkF m n ls (.int v :: st)))) : Run p e below s n0 fc fs Q (T.setTop (mkF m pc ls st)) := by
  subst hn; exact K.st fun _ k => XS.iloadN X.hr X.1.1 rfl (X.d hd) hl k
theorem iload (X : Sd Z y bytes maxL ret p l e R s m args below meth c n0 h kc ks T) {pc n : Nat} {ls : Array Slot} {st : List Value} {j : Nat} {v : Int32} (hd : decode bytes pc = .ok (.iload j, 2)) (hl : ls[j]? = some (.val (.int v))) (hn : pc + 2 = n) (K : Run p e below s n0 fc fs Q (T.setTop (mkF m n ls (.int v :: st)))) : Run p e below s n0 fc fs Q (T.setTop (mkF m pc ls st)) := by
  subst hn; exact K.st fun _ k => XS.iload X.hr X.1.1 rfl (X.d hd) hl k
theorem istoreN (X : Sd Z y bytes maxL ret p l e R s m args below meth c n0 h kc ks T) {pc n : Nat} {ls : Array Slot} {st : List Value} {k : Fin 4} {v : Int32} {l' : Array Slot} (hd : decode bytes pc = .ok (.istore_n k, 1)) (hl : storeLocals ls k.val (.int v) = some l') (hn : pc + 1 = n) (K : Run p e below s n0 fc fs Q (T.setTop (mkF m n l' st))) : Run p e below s n0 fc fs Q (T.setTop (mkF m pc ls (.int v :: st))) := by
  subst hn; exact K.st fun _ k => XS.istoreN X.hr X.1.1 rfl (X.d hd) rfl hl k
theorem istore (X : Sd Z y bytes maxL ret p l e R s m args below meth c n0 h kc ks T) {pc n : Nat} {ls : Array Slot} {st : List Value} {j : Nat} {v : Int32} {l' : Array Slot} (hd : decode bytes pc = .ok (.istore j, 2)) (hl : storeLocals ls j (.int v) = some l') (hn : pc + 2 = n) (K : Run p e below s n0 fc fs Q (T.setTop (mkF m n l' st))) : Run p e below s n0 fc fs Q (T.setTop (mkF m pc ls (.int v :: st))) := by
  subst hn; exact K.st fun _ k => XS.istore X.hr X.1.1 rfl (X.d hd) rfl hl k
theorem lloadN (X : Sd Z y bytes maxL ret p l e R s m args below meth c n0 h kc ks T) {pc n : Nat} {ls : Array Slot} {st : List Value} {k : Fin 4} {v : Int64} (hd : decode bytes pc = .ok (.lload_n k, 1)) (hl : ls[k.val]? = some (.val (.long v))) (hn : pc + 1 = n) (K : Run p e below s n0 fc fs Q (T.setTop (mkF m n ls (.long v :: st)))) : Run p e below s n0 fc fs Q (T.setTop (mkF m pc ls st)) := by
  subst hn; exact K.st fun _ k => XS.lloadN X.hr X.1.1 rfl (X.d hd) hl k
theorem lload (X : Sd Z y bytes maxL ret p l e R s m args below meth c n0 h kc ks T) {pc n : Nat} {ls : Array Slot} {st : List Value} {j : Nat} {v : Int64} (hd : decode bytes pc = .ok (.lload j, 2)) (hl : ls[j]? = some (.val (.long v))) (hn : pc + 2 = n) (K : Run p e below s n0 fc fs Q (T.setTop (mkF m n ls (.long v :: st)))) : Run p e below s n0 fc fs Q (T.setTop (mkF m pc ls st)) := by
  subst hn; exact K.st fun _ k => XS.lload X.hr X.1.1 rfl (X.d hd) hl k
theorem lstoreN (X : Sd Z y bytes maxL ret p l e R s m args below meth c n0 h kc ks T) {pc n : Nat} {ls : Array Slot} {st : List Value} {k : Fin 4} {v : Int64} {l' : Array Slot} (hd : decode bytes pc = .ok (.lstore_n k, 1)) (hl : storeLocals ls k.val (.long v) = some l') (hn : pc + 1 = n) (K : Run p e below s n0 fc fs Q (T.setTop (mkF m n l' st))) : Run p e below s n0 fc fs Q (T.setTop (mkF m pc ls (.long v :: st))) := by
  subst hn; exact K.st fun _ k => XS.lstoreN X.hr X.1.1 rfl (X.d hd) rfl hl k
theorem lstore (X : Sd Z y bytes maxL ret p l e R s m args below meth c n0 h kc ks T) {pc n : Nat} {ls : Array Slot} {st : List Value} {j : Nat} {v : Int64} {l' : Array Slot} (hd : decode bytes pc = .ok (.lstore j, 2)) (hl : storeLocals ls j (.long v) = some l') (hn : pc + 2 = n) (K : Run p e below s n0 fc fs Q (T.setTop (mkF m n l' st))) : Run p e below s n0 fc fs Q (T.setTop (mkF m pc ls (.long v :: st))) := by
  subst hn; exact K.st fun _ k => XS.lstore X.hr X.1.1 rfl (X.d hd) rfl hl k
theorem aloadN (X : Sd Z y bytes maxL ret p l e R s m args below meth c n0 h kc ks T) {pc n : Nat} {ls : Array Slot} {st : List Value} {k : Fin 4} {v : Value} (hd : decode bytes pc = .ok (.aload_n k, 1)) (hl : ls[k.val]? = some (.val v)) (hv : v.isRef = true) (hn : pc + 1 = n) (K : Run p e below s n0 fc fs Q (T.setTop (mkF m n ls (v :: st)))) : Run p e below s n0 fc fs Q (T.setTop (mkF m pc ls st)) := by
  subst hn; exact K.st fun _ k => XS.aloadN X.hr X.1.1 rfl (X.d hd) hl hv k
theorem aload (X : Sd Z y bytes maxL ret p l e R s m args below meth c n0 h kc ks T) {pc n : Nat} {ls : Array Slot} {st : List Value} {j : Nat} {v : Value} (hd : decode bytes pc = .ok (.aload j, 2)) (hl : ls[j]? = some (.val v)) (hv : v.isRef = true) (hn : pc + 2 = n) (K : Run p e below s n0 fc fs Q (T.setTop (mkF m n ls (v :: st)))) : Run p e below s n0 fc fs Q (T.setTop (mkF m pc ls st)) := by
  subst hn; exact K.st fun _ k => XS.aload X.hr X.1.1 rfl (X.d hd) hl hv k
theorem astoreN (X : Sd Z y bytes maxL ret p l e R s m args below meth c n0 h kc ks T) {pc n : Nat} {ls : Array Slot} {st : List Value} {k : Fin 4} {v : Value} {l' : Array Slot} (hd : decode bytes pc = .ok (.astore_n k, 1)) (hv : v.isRef = true) (hl : storeLocals ls k.val v = some l') (hn : pc + 1 = n) (K : Run p e below s n0 fc fs Q (T.setTop (mkF m n l' st))) : Run p e below s n0 fc fs Q (T.setTop (mkF m pc ls (v :: st))) := by
  subst hn; exact K.st fun _ k => XS.astoreN X.hr X.1.1 rfl (X.d hd) rfl hv hl k
theorem astore (X : Sd Z y bytes maxL ret p l e R s m args below meth c n0 h kc ks T) {pc n : Nat} {ls : Array Slot} {st : List Value} {j : Nat} {v : Value} {l' : Array Slot} (hd : decode bytes pc = .ok (.astore j, 2)) (hv : v.isRef = true) (hl : storeLocals ls j v = some l') (hn : pc + 2 = n) (K : Run p e below s n0 fc fs Q (T.setTop (mkF m n l' st))) : Run p e below s n0 fc fs Q (T.setTop (mkF m pc ls (v :: st))) := by
  subst hn; exact K.st fun _ k => XS.astore X.hr X.1.1 rfl (X.d hd) rfl hv hl k
theorem iconst (X : Sd Z y bytes maxL ret p l e R s m args below meth c n0 h kc ks T) {pc n : Nat} {ls : Array Slot} {st : List Value} {i : Int} {z : Int32} (hd : decode bytes pc = .ok (.iconst i, 1)) (hz : Int32.ofInt i = z) (hn : pc + 1 = n) (K : Run p e below s n0 fc fs Q (T.setTop (mkF m n ls (.int z :: st)))) : Run p e below s n0 fc fs Q (T.setTop (mkF m pc ls st)) := by
  subst hn hz; exact K.st fun _ k => XS.iconst X.hr X.1.1 rfl (X.d hd) k
theorem bipush (X : Sd Z y bytes maxL ret p l e R s m args below meth c n0 h kc ks T) {pc n : Nat} {ls : Array Slot} {st : List Value} {i : Int} {z : Int32} (hd : decode bytes pc = .ok (.bipush i, 2)) (hz : (Int8.ofInt i).toInt32 = z) (hn : pc + 2 = n) (K : Run p e below s n0 fc fs Q (T.setTop (mkF m n ls (.int z :: st)))) : Run p e below s n0 fc fs Q (T.setTop (mkF m pc ls st)) := by
  subst hn hz; exact K.st fun _ k => XS.bipush X.hr X.1.1 rfl (X.d hd) k
theorem sipush (X : Sd Z y bytes maxL ret p l e R s m args below meth c n0 h kc ks T) {pc n : Nat} {ls : Array Slot} {st : List Value} {i : Int} {z : Int32} (hd : decode bytes pc = .ok (.sipush i, 3)) (hz : (Int16.ofInt i).toInt32 = z) (hn : pc + 3 = n) (K : Run p e below s n0 fc fs Q (T.setTop (mkF m n ls (.int z :: st)))) : Run p e below s n0 fc fs Q (T.setTop (mkF m pc ls st)) := by
  subst hn hz; exact K.st fun _ k => XS.sipush X.hr X.1.1 rfl (X.d hd) k
theorem anull (X : Sd Z y bytes maxL ret p l e R s m args below meth c n0 h kc ks T) {pc n : Nat} {ls : Array Slot} {st : List Value}  (hd : decode bytes pc = .ok (.aconst_null, 1)) (hn : pc + 1 = n) (K : Run p e below s n0 fc fs Q (T.setTop (mkF m n ls (.null :: st)))) : Run p e below s n0 fc fs Q (T.setTop (mkF m pc ls st)) := by
  subst hn; exact K.st fun _ k => XS.aconstNull X.hr X.1.1 rfl (X.d hd) k
theorem iadd (X : Sd Z y bytes maxL ret p l e R s m args below meth c n0 h kc ks T) {pc n : Nat} {ls : Array Slot} {st : List Value} {u v : Int32} (hd : decode bytes pc = .ok (.iadd, 1)) (hn : pc + 1 = n) (K : Run p e below s n0 fc fs Q (T.setTop (mkF m n ls (.int (u + v) :: st)))) : Run p e below s n0 fc fs Q (T.setTop (mkF m pc ls (.int v :: .int u :: st))) := by
  subst hn; exact K.st fun _ k => XS.iadd X.hr X.1.1 rfl (X.d hd) rfl k
theorem ladd (X : Sd Z y bytes maxL ret p l e R s m args below meth c n0 h kc ks T) {pc n : Nat} {ls : Array Slot} {st : List Value} {u v : Int64} (hd : decode bytes pc = .ok (.ladd, 1)) (hn : pc + 1 = n) (K : Run p e below s n0 fc fs Q (T.setTop (mkF m n ls (.long (u + v) :: st)))) : Run p e below s n0 fc fs Q (T.setTop (mkF m pc ls (.long v :: .long u :: st))) := by
  subst hn; exact K.st fun _ k => XS.ladd X.hr X.1.1 rfl (X.d hd) rfl k
theorem isub (X : Sd Z y bytes maxL ret p l e R s m args below meth c n0 h kc ks T) {pc n : Nat} {ls : Array Slot} {st : List Value} {u v : Int32} (hd : decode bytes pc = .ok (.isub, 1)) (hn : pc + 1 = n) (K : Run p e below s n0 fc fs Q (T.setTop (mkF m n ls (.int (u - v) :: st)))) : Run p e below s n0 fc fs Q (T.setTop (mkF m pc ls (.int v :: .int u :: st))) := by
  subst hn; exact K.st fun _ k => XS.isub X.hr X.1.1 rfl (X.d hd) rfl k
theorem lsub (X : Sd Z y bytes maxL ret p l e R s m args below meth c n0 h kc ks T) {pc n : Nat} {ls : Array Slot} {st : List Value} {u v : Int64} (hd : decode bytes pc = .ok (.lsub, 1)) (hn : pc + 1 = n) (K : Run p e below s n0 fc fs Q (T.setTop (mkF m n ls (.long (u - v) :: st)))) : Run p e below s n0 fc fs Q (T.setTop (mkF m pc ls (.long v :: .long u :: st))) := by
  subst hn; exact K.st fun _ k => XS.lsub X.hr X.1.1 rfl (X.d hd) rfl k
theorem imul (X : Sd Z y bytes maxL ret p l e R s m args below meth c n0 h kc ks T) {pc n : Nat} {ls : Array Slot} {st : List Value} {u v : Int32} (hd : decode bytes pc = .ok (.imul, 1)) (hn : pc + 1 = n) (K : Run p e below s n0 fc fs Q (T.setTop (mkF m n ls (.int (u * v) :: st)))) : Run p e below s n0 fc fs Q (T.setTop (mkF m pc ls (.int v :: .int u :: st))) := by
  subst hn; exact K.st fun _ k => XS.imul X.hr X.1.1 rfl (X.d hd) rfl k
theorem lmul (X : Sd Z y bytes maxL ret p l e R s m args below meth c n0 h kc ks T) {pc n : Nat} {ls : Array Slot} {st : List Value} {u v : Int64} (hd : decode bytes pc = .ok (.lmul, 1)) (hn : pc + 1 = n) (K : Run p e below s n0 fc fs Q (T.setTop (mkF m n ls (.long (u * v) :: st)))) : Run p e below s n0 fc fs Q (T.setTop (mkF m pc ls (.long v :: .long u :: st))) := by
  subst hn; exact K.st fun _ k => XS.lmul X.hr X.1.1 rfl (X.d hd) rfl k
theorem iand (X : Sd Z y bytes maxL ret p l e R s m args below meth c n0 h kc ks T) {pc n : Nat} {ls : Array Slot} {st : List Value} {u v : Int32} (hd : decode bytes pc = .ok (.iand, 1)) (hn : pc + 1 = n) (K : Run p e below s n0 fc fs Q (T.setTop (mkF m n ls (.int (u &&& v) :: st)))) : Run p e below s n0 fc fs Q (T.setTop (mkF m pc ls (.int v :: .int u :: st))) := by
  subst hn; exact K.st fun _ k => XS.iand X.hr X.1.1 rfl (X.d hd) rfl k
theorem land (X : Sd Z y bytes maxL ret p l e R s m args below meth c n0 h kc ks T) {pc n : Nat} {ls : Array Slot} {st : List Value} {u v : Int64} (hd : decode bytes pc = .ok (.land, 1)) (hn : pc + 1 = n) (K : Run p e below s n0 fc fs Q (T.setTop (mkF m n ls (.long (u &&& v) :: st)))) : Run p e below s n0 fc fs Q (T.setTop (mkF m pc ls (.long v :: .long u :: st))) := by
  subst hn; exact K.st fun _ k => XS.land X.hr X.1.1 rfl (X.d hd) rfl k
theorem ior (X : Sd Z y bytes maxL ret p l e R s m args below meth c n0 h kc ks T) {pc n : Nat} {ls : Array Slot} {st : List Value} {u v : Int32} (hd : decode bytes pc = .ok (.ior, 1)) (hn : pc + 1 = n) (K : Run p e below s n0 fc fs Q (T.setTop (mkF m n ls (.int (u ||| v) :: st)))) : Run p e below s n0 fc fs Q (T.setTop (mkF m pc ls (.int v :: .int u :: st))) := by
  subst hn; exact K.st fun _ k => XS.ior X.hr X.1.1 rfl (X.d hd) rfl k
theorem lor (X : Sd Z y bytes maxL ret p l e R s m args below meth c n0 h kc ks T) {pc n : Nat} {ls : Array Slot} {st : List Value} {u v : Int64} (hd : decode bytes pc = .ok (.lor, 1)) (hn : pc + 1 = n) (K : Run p e below s n0 fc fs Q (T.setTop (mkF m n ls (.long (u ||| v) :: st)))) : Run p e below s n0 fc fs Q (T.setTop (mkF m pc ls (.long v :: .long u :: st))) := by
  subst hn; exact K.st fun _ k => XS.lor X.hr X.1.1 rfl (X.d hd) rfl k
theorem ixor (X : Sd Z y bytes maxL ret p l e R s m args below meth c n0 h kc ks T) {pc n : Nat} {ls : Array Slot} {st : List Value} {u v : Int32} (hd : decode bytes pc = .ok (.ixor, 1)) (hn : pc + 1 = n) (K : Run p e below s n0 fc fs Q (T.setTop (mkF m n ls (.int (u ^^^ v) :: st)))) : Run p e below s n0 fc fs Q (T.setTop (mkF m pc ls (.int v :: .int u :: st))) := by
  subst hn; exact K.st fun _ k => XS.ixor X.hr X.1.1 rfl (X.d hd) rfl k
theorem lxor (X : Sd Z y bytes maxL ret p l e R s m args below meth c n0 h kc ks T) {pc n : Nat} {ls : Array Slot} {st : List Value} {u v : Int64} (hd : decode bytes pc = .ok (.lxor, 1)) (hn : pc + 1 = n) (K : Run p e below s n0 fc fs Q (T.setTop (mkF m n ls (.long (u ^^^ v) :: st)))) : Run p e below s n0 fc fs Q (T.setTop (mkF m pc ls (.long v :: .long u :: st))) := by
  subst hn; exact K.st fun _ k => XS.lxor X.hr X.1.1 rfl (X.d hd) rfl k
theorem ishl (X : Sd Z y bytes maxL ret p l e R s m args below meth c n0 h kc ks T) {pc n : Nat} {ls : Array Slot} {st : List Value} {u v : Int32} (hd : decode bytes pc = .ok (.ishl, 1)) (hn : pc + 1 = n) (K : Run p e below s n0 fc fs Q (T.setTop (mkF m n ls (.int (u <<< (v &&& 31)) :: st)))) : Run p e below s n0 fc fs Q (T.setTop (mkF m pc ls (.int v :: .int u :: st))) := by
  subst hn; exact K.st fun _ k => XS.ishl X.hr X.1.1 rfl (X.d hd) rfl k
theorem ishr (X : Sd Z y bytes maxL ret p l e R s m args below meth c n0 h kc ks T) {pc n : Nat} {ls : Array Slot} {st : List Value} {u v : Int32} (hd : decode bytes pc = .ok (.ishr, 1)) (hn : pc + 1 = n) (K : Run p e below s n0 fc fs Q (T.setTop (mkF m n ls (.int (u >>> (v &&& 31)) :: st)))) : Run p e below s n0 fc fs Q (T.setTop (mkF m pc ls (.int v :: .int u :: st))) := by
  subst hn; exact K.st fun _ k => XS.ishr X.hr X.1.1 rfl (X.d hd) rfl k
theorem iushr (X : Sd Z y bytes maxL ret p l e R s m args below meth c n0 h kc ks T) {pc n : Nat} {ls : Array Slot} {st : List Value} {u v : Int32} (hd : decode bytes pc = .ok (.iushr, 1)) (hn : pc + 1 = n) (K : Run p e below s n0 fc fs Q (T.setTop (mkF m n ls (.int ((u.toUInt32 >>> (v &&& 31).toUInt32).toInt32) :: st)))) : Run p e below s n0 fc fs Q (T.setTop (mkF m pc ls (.int v :: .int u :: st))) := by
  subst hn; exact K.st fun _ k => XS.iushr X.hr X.1.1 rfl (X.d hd) rfl k
theorem lshl (X : Sd Z y bytes maxL ret p l e R s m args below meth c n0 h kc ks T) {pc n : Nat} {ls : Array Slot} {st : List Value} {u : Int64} {v : Int32} (hd : decode bytes pc = .ok (.lshl, 1)) (hn : pc + 1 = n) (K : Run p e below s n0 fc fs Q (T.setTop (mkF m n ls (.long (u <<< (v &&& 0x3f).toInt64) :: st)))) : Run p e below s n0 fc fs Q (T.setTop (mkF m pc ls (.int v :: .long u :: st))) := by
  subst hn; exact K.st fun _ k => XS.lshl X.hr X.1.1 rfl (X.d hd) rfl k
theorem lshr (X : Sd Z y bytes maxL ret p l e R s m args below meth c n0 h kc ks T) {pc n : Nat} {ls : Array Slot} {st : List Value} {u : Int64} {v : Int32} (hd : decode bytes pc = .ok (.lshr, 1)) (hn : pc + 1 = n) (K : Run p e below s n0 fc fs Q (T.setTop (mkF m n ls (.long (u >>> (v &&& 0x3f).toInt64) :: st)))) : Run p e below s n0 fc fs Q (T.setTop (mkF m pc ls (.int v :: .long u :: st))) := by
  subst hn; exact K.st fun _ k => XS.lshr X.hr X.1.1 rfl (X.d hd) rfl k
theorem lushr (X : Sd Z y bytes maxL ret p l e R s m args below meth c n0 h kc ks T) {pc n : Nat} {ls : Array Slot} {st : List Value} {u : Int64} {v : Int32} (hd : decode bytes pc = .ok (.lushr, 1)) (hn : pc + 1 = n) (K : Run p e below s n0 fc fs Q (T.setTop (mkF m n ls (.long ((u.toUInt64 >>> (v &&& 0x3f).toInt64.toUInt64).toInt64) :: st)))) : Run p e below s n0 fc fs Q (T.setTop (mkF m pc ls (.int v :: .long u :: st))) := by
  subst hn; exact K.st fun _ k => XS.lushr X.hr X.1.1 rfl (X.d hd) rfl k
theorem ineg (X : Sd Z y bytes maxL ret p l e R s m args below meth c n0 h kc ks T) {pc n : Nat} {ls : Array Slot} {st : List Value} {u : Int32} (hd : decode bytes pc = .ok (.ineg, 1)) (hn : pc + 1 = n) (K : Run p e below s n0 fc fs Q (T.setTop (mkF m n ls (.int (-u) :: st)))) : Run p e below s n0 fc fs Q (T.setTop (mkF m pc ls (.int u :: st))) := by
  subst hn; exact K.st fun _ k => XS.ineg X.hr X.1.1 rfl (X.d hd) rfl k
theorem i2l (X : Sd Z y bytes maxL ret p l e R s m args below meth c n0 h kc ks T) {pc n : Nat} {ls : Array Slot} {st : List Value} {u : Int32} (hd : decode bytes pc = .ok (.i2l, 1)) (hn : pc + 1 = n) (K : Run p e below s n0 fc fs Q (T.setTop (mkF m n ls (.long u.toInt64 :: st)))) : Run p e below s n0 fc fs Q (T.setTop (mkF m pc ls (.int u :: st))) := by
  subst hn; exact K.st fun _ k => XS.i2l X.hr X.1.1 rfl (X.d hd) rfl k
theorem l2i (X : Sd Z y bytes maxL ret p l e R s m args below meth c n0 h kc ks T) {pc n : Nat} {ls : Array Slot} {st : List Value} {u : Int64} (hd : decode bytes pc = .ok (.l2i, 1)) (hn : pc + 1 = n) (K : Run p e below s n0 fc fs Q (T.setTop (mkF m n ls (.int u.toInt32 :: st)))) : Run p e below s n0 fc fs Q (T.setTop (mkF m pc ls (.long u :: st))) := by
  subst hn; exact K.st fun _ k => XS.l2i X.hr X.1.1 rfl (X.d hd) rfl k
theorem i2b (X : Sd Z y bytes maxL ret p l e R s m args below meth c n0 h kc ks T) {pc n : Nat} {ls : Array Slot} {st : List Value} {u : Int32} (hd : decode bytes pc = .ok (.i2b, 1)) (hn : pc + 1 = n) (K : Run p e below s n0 fc fs Q (T.setTop (mkF m n ls (.int u.toInt8.toInt32 :: st)))) : Run p e below s n0 fc fs Q (T.setTop (mkF m pc ls (.int u :: st))) := by
  subst hn; exact K.st fun _ k => XS.i2b X.hr X.1.1 rfl (X.d hd) rfl k
theorem i2s (X : Sd Z y bytes maxL ret p l e R s m args below meth c n0 h kc ks T) {pc n : Nat} {ls : Array Slot} {st : List Value} {u : Int32} (hd : decode bytes pc = .ok (.i2s, 1)) (hn : pc + 1 = n) (K : Run p e below s n0 fc fs Q (T.setTop (mkF m n ls (.int u.toInt16.toInt32 :: st)))) : Run p e below s n0 fc fs Q (T.setTop (mkF m pc ls (.int u :: st))) := by
  subst hn; exact K.st fun _ k => XS.i2s X.hr X.1.1 rfl (X.d hd) rfl k
theorem i2c (X : Sd Z y bytes maxL ret p l e R s m args below meth c n0 h kc ks T) {pc n : Nat} {ls : Array Slot} {st : List Value} {u : Int32} (hd : decode bytes pc = .ok (.i2c, 1)) (hn : pc + 1 = n) (K : Run p e below s n0 fc fs Q (T.setTop (mkF m n ls (.int u.toUInt32.toUInt16.toUInt32.toInt32 :: st)))) : Run p e below s n0 fc fs Q (T.setTop (mkF m pc ls (.int u :: st))) := by
  subst hn; exact K.st fun _ k => XS.i2c X.hr X.1.1 rfl (X.d hd) rfl k
theorem lcmp (X : Sd Z y bytes maxL ret p l e R s m args below meth c n0 h kc ks T) {pc n : Nat} {ls : Array Slot} {st : List Value} {u v : Int64} (hd : decode bytes pc = .ok (.lcmp, 1)) (hn : pc + 1 = n) (K : Run p e below s n0 fc fs Q (T.setTop (mkF m n ls (.int (lcmpW u v) :: st)))) : Run p e below s n0 fc fs Q (T.setTop (mkF m pc ls (.long v :: .long u :: st))) := by
  subst hn; exact K.st fun _ k => XS.lcmp X.hr X.1.1 rfl (X.d hd) rfl k
theorem lconst (X : Sd Z y bytes maxL ret p l e R s m args below meth c n0 h kc ks T) {pc n : Nat} {ls : Array Slot} {st : List Value} {k : Fin 2} {z : Int64} (hd : decode bytes pc = .ok (.lconst k, 1)) (hz : Int64.ofNat k.val = z) (hn : pc + 1 = n) (K : Run p e below s n0 fc fs Q (T.setTop (mkF m n ls (.long z :: st)))) : Run p e below s n0 fc fs Q (T.setTop (mkF m pc ls st)) := by
  subst hn hz; exact K.st fun _ k => XS.lconst X.hr X.1.1 rfl (X.d hd) k
theorem irem (X : Sd Z y bytes maxL ret p l e R s m args below meth c n0 h kc ks T) {pc n : Nat} {ls : Array Slot} {st : List Value} {u v : Int32} (hd : decode bytes pc = .ok (.irem, 1)) (hv : v ≠ 0) (hn : pc + 1 = n) (K : Run p e below s n0 fc fs Q (T.setTop (mkF m n ls (.int (u % v) :: st)))) : Run p e below s n0 fc fs Q (T.setTop (mkF m pc ls (.int v :: .int u :: st))) := by
  subst hn; obtain ⟨q, L, a, b, Y, -⟩ := X; exact K.st fun _ k => iremM Y q.1 rfl (q.2.2.1 ▸ hd) rfl hv k
theorem idiv (X : Sd Z y bytes maxL ret p l e R s m args below meth c n0 h kc ks T) {pc n : Nat} {ls : Array Slot} {st : List Value} {u v : Int32} (hd : decode bytes pc = .ok (.idiv, 1)) (hv : v ≠ 0) (hn : pc + 1 = n) (K : Run p e below s n0 fc fs Q (T.setTop (mkF m n ls (.int (u / v) :: st)))) : Run p e below s n0 fc fs Q (T.setTop (mkF m pc ls (.int v :: .int u :: st))) := by
  subst hn; exact K.st fun _ k => XS.idiv X.hr X.1.1 rfl (X.d hd) rfl hv k
theorem dup (X : Sd Z y bytes maxL ret p l e R s m args below meth c n0 h kc ks T) {pc n : Nat} {ls : Array Slot} {st : List Value} {v : Value} (hd : decode bytes pc = .ok (.dup, 1)) (hc : v.category = 1) (hn : pc + 1 = n) (K : Run p e below s n0 fc fs Q (T.setTop (mkF m n ls (v :: v :: st)))) : Run p e below s n0 fc fs Q (T.setTop (mkF m pc ls (v :: st))) := by
  subst hn; exact K.st fun _ k => XS.dup X.hr X.1.1 rfl (X.d hd) rfl hc k
theorem pop (X : Sd Z y bytes maxL ret p l e R s m args below meth c n0 h kc ks T) {pc n : Nat} {ls : Array Slot} {st : List Value} {v : Value} (hd : decode bytes pc = .ok (.pop, 1)) (hc : v.category = 1) (hn : pc + 1 = n) (K : Run p e below s n0 fc fs Q (T.setTop (mkF m n ls st))) : Run p e below s n0 fc fs Q (T.setTop (mkF m pc ls (v :: st))) := by
  subst hn; exact K.st fun _ k => XS.pop X.hr X.1.1 rfl (X.d hd) rfl hc k
theorem dupX1 (X : Sd Z y bytes maxL ret p l e R s m args below meth c n0 h kc ks T) {pc n : Nat} {ls : Array Slot} {st : List Value} {u v : Value} (hd : decode bytes pc = .ok (.dup_x1, 1)) (hc : u.category = 1) (hc' : v.category = 1) (hn : pc + 1 = n) (K : Run p e below s n0 fc fs Q (T.setTop (mkF m n ls (u :: v :: u :: st)))) : Run p e below s n0 fc fs Q (T.setTop (mkF m pc ls (u :: v :: st))) := by
  subst hn; exact K.st fun _ k => XS.dupX1 X.hr X.1.1 rfl (X.d hd) rfl hc hc' k
theorem iinc (X : Sd Z y bytes maxL ret p l e R s m args below meth c n0 h kc ks T) {pc n j : Nat} {ls l' : Array Slot} {st : List Value} {i : Int} {z v : Int32} (hd : decode bytes pc = .ok (.iinc j i, 3)) (hz : Int32.ofInt i = z) (hl : ls[j]? = some (.val (.int v))) (hl' : storeLocals ls j (.int (v + z)) = some l') (hn : pc + 3 = n) (K : Run p e below s n0 fc fs Q (T.setTop (mkF m n l' st))) : Run p e below s n0 fc fs Q (T.setTop (mkF m pc ls st)) := by
  subst hn hz; exact K.st fun _ k => XS.iinc X.hr X.1.1 rfl (X.d hd) hl hl' k
theorem goto (X : Sd Z y bytes maxL ret p l e R s m args below meth c n0 h kc ks T) {pc n : Nat} {ls : Array Slot} {st : List Value} {o : Int} (hd : decode bytes pc = .ok (.goto o, 3)) (ho : 0 ≤ (pc : Int) + o) (hn : ((pc : Int) + o).toNat = n) (K : Run p e below s n0 fc fs Q (T.setTop (mkF m n ls st))) : Run p e below s n0 fc fs Q (T.setTop (mkF m pc ls st)) := K.st fun _ k => XS.goto X.hr X.1.1 rfl rfl (X.d hd) ho hn k
theorem ldc (X : Sd Z y bytes maxL ret p l e R s m args below meth c n0 h kc ks T) {pc n index : Nat} {ls : Array Slot} {st : List Value} {v : Int32} (hd : decode bytes pc = .ok (.ldc index, 2)) (w : (Cond.constant y.cls index v).before a0 Z = true) (hn : pc + 2 = n) (K : Run p e below s n0 fc fs Q (T.setTop (mkF m n ls (.int v :: st)))) : Run p e below s n0 fc fs Q (T.setTop (mkF m pc ls st)) := by
  subst hn; obtain ⟨q, L, i, j, Y, -⟩ := X; exact K.st fun _ k => Y.ldcInt q.1 q.2.2.2.2.2.2.1 (mvT q.2.1 w) (g := mkF m pc ls st) rfl (q.2.2.1 ▸ hd) _ k
theorem ldc2 (X : Sd Z y bytes maxL ret p l e R s m args below meth c n0 h kc ks T) {pc n index : Nat} {ls : Array Slot} {st : List Value} {v : Int64} (hd : decode bytes pc = .ok (.ldc2_w index, 3)) (w : (Cond.constantLong y.cls index v).before a0 Z = true) (hn : pc + 3 = n) (K : Run p e below s n0 fc fs Q (T.setTop (mkF m n ls (.long v :: st)))) : Run p e below s n0 fc fs Q (T.setTop (mkF m pc ls st)) := by
  subst hn; obtain ⟨q, L, i, j, Y, -⟩ := X; exact K.st fun _ k => Y.ldc2Long q.1 q.2.2.2.2.2.2.1 (mvT q.2.1 w) (g := mkF m pc ls st) rfl (q.2.2.1 ▸ hd) _ k
theorem ifc (X : Sd Z y bytes maxL ret p l e R s m args below meth c n0 h kc ks T) {pc n1 n2 : Nat} {ls : Array Slot} {st : List Value} {cd : ClassFile.Cond} {x : Int32} {o : Int} (hd : decode bytes pc = .ok (.ifCond cd o, 3)) (ho : 0 ≤ (pc : Int) + o) (h1 : ((pc : Int) + o).toNat = n1) (h2 : pc + 3 = n2) (K1 : ifCond.holds cd x = true → Run p e below s n0 fc fs Q (T.setTop (mkF m n1 ls st))) (K2 : ifCond.holds cd x = false → Run p e below s n0 fc fs Q (T.setTop (mkF m n2 ls st))) : Run p e below s n0 fc fs Q (T.setTop (mkF m pc ls (.int x :: st))) := by
  cases hq : ifCond.holds cd x with
  | true => exact (K1 hq).st fun _ k => XS.ifYes X.hr X.1.1 rfl rfl (X.d hd) rfl hq ho h1 k
  | false => subst h2; exact (K2 hq).st fun _ k => XS.ifNo X.hr X.1.1 rfl (X.d hd) rfl hq k
theorem icc (X : Sd Z y bytes maxL ret p l e R s m args below meth c n0 h kc ks T) {pc n1 n2 : Nat} {ls : Array Slot} {st : List Value} {cd : ClassFile.Cond} {x v : Int32} {o : Int} (hd : decode bytes pc = .ok (.if_icmp cd o, 3)) (ho : 0 ≤ (pc : Int) + o) (h1 : ((pc : Int) + o).toNat = n1) (h2 : pc + 3 = n2) (K1 : if_icmp.holds cd x v = true → Run p e below s n0 fc fs Q (T.setTop (mkF m n1 ls st))) (K2 : if_icmp.holds cd x v = false → Run p e below s n0 fc fs Q (T.setTop (mkF m n2 ls st))) : Run p e below s n0 fc fs Q (T.setTop (mkF m pc ls (.int v :: .int x :: st))) := by
  cases hq : if_icmp.holds cd x v with
  | true => exact (K1 hq).st fun _ k => XS.icmpYes X.hr X.1.1 rfl rfl (X.d hd) rfl hq ho h1 k
  | false => subst h2; exact (K2 hq).st fun _ k => XS.icmpNo X.hr X.1.1 rfl (X.d hd) rfl hq k
theorem ic_eq (X : Sd Z y bytes maxL ret p l e R s m args below meth c n0 h kc ks T) {pc n1 n2 : Nat} {ls : Array Slot} {st : List Value} {x v : Int32} {o : Int} (hd : decode bytes pc = .ok (.if_icmp .eq o, 3)) (ho : 0 ≤ (pc : Int) + o) (h1 : ((pc : Int) + o).toNat = n1) (h2 : pc + 3 = n2) (K1 : x = v → Run p e below s n0 fc fs Q (T.setTop (mkF m n1 ls st))) (K2 : ¬ x = v → Run p e below s n0 fc fs Q (T.setTop (mkF m n2 ls st))) : Run p e below s n0 fc fs Q (T.setTop (mkF m pc ls (.int v :: .int x :: st))) := by
  exact icc X hd ho h1 h2 (fun hq => K1 (Classical.byContradiction fun w => by rw [(feq w).1] at hq; cases hq)) (fun hq => K2 (fun w => by rw [(teq w).1] at hq; cases hq))
theorem if_eq (X : Sd Z y bytes maxL ret p l e R s m args below meth c n0 h kc ks T) {pc n1 n2 : Nat} {ls : Array Slot} {st : List Value} {x : Int32} {o : Int} (hd : decode bytes pc = .ok (.ifCond .eq o, 3)) (ho : 0 ≤ (pc : Int) + o) (h1 : ((pc : Int) + o).toNat = n1) (h2 : pc + 3 = n2) (K1 : x = 0 → Run p e below s n0 fc fs Q (T.setTop (mkF m n1 ls st))) (K2 : ¬ x = 0 → Run p e below s n0 fc fs Q (T.setTop (mkF m n2 ls st))) : Run p e below s n0 fc fs Q (T.setTop (mkF m pc ls (.int x :: st))) := by
  exact ifc X hd ho h1 h2 (fun hq => by rw [if0] at hq; exact K1 (Classical.byContradiction fun w => by rw [(feq w).1] at hq; cases hq)) (fun hq => by rw [if0] at hq; exact K2 (fun w => by rw [(teq w).1] at hq; cases hq))
theorem ic_ne (X : Sd Z y bytes maxL ret p l e R s m args below meth c n0 h kc ks T) {pc n1 n2 : Nat} {ls : Array Slot} {st : List Value} {x v : Int32} {o : Int} (hd : decode bytes pc = .ok (.if_icmp .ne o, 3)) (ho : 0 ≤ (pc : Int) + o) (h1 : ((pc : Int) + o).toNat = n1) (h2 : pc + 3 = n2) (K1 : ¬ x = v → Run p e below s n0 fc fs Q (T.setTop (mkF m n1 ls st))) (K2 : x = v → Run p e below s n0 fc fs Q (T.setTop (mkF m n2 ls st))) : Run p e below s n0 fc fs Q (T.setTop (mkF m pc ls (.int v :: .int x :: st))) := by
  exact icc X hd ho h1 h2 (fun hq => K1 (fun w => by rw [(teq w).2] at hq; cases hq)) (fun hq => K2 (Classical.byContradiction fun w => by rw [(feq w).2] at hq; cases hq))
theorem if_ne (X : Sd Z y bytes maxL ret p l e R s m args below meth c n0 h kc ks T) {pc n1 n2 : Nat} {ls : Array Slot} {st : List Value} {x : Int32} {o : Int} (hd : decode bytes pc = .ok (.ifCond .ne o, 3)) (ho : 0 ≤ (pc : Int) + o) (h1 : ((pc : Int) + o).toNat = n1) (h2 : pc + 3 = n2) (K1 : ¬ x = 0 → Run p e below s n0 fc fs Q (T.setTop (mkF m n1 ls st))) (K2 : x = 0 → Run p e below s n0 fc fs Q (T.setTop (mkF m n2 ls st))) : Run p e below s n0 fc fs Q (T.setTop (mkF m pc ls (.int x :: st))) := by
  exact ifc X hd ho h1 h2 (fun hq => by rw [if0] at hq; exact K1 (fun w => by rw [(teq w).2] at hq; cases hq)) (fun hq => by rw [if0] at hq; exact K2 (Classical.byContradiction fun w => by rw [(feq w).2] at hq; cases hq))
theorem ic_lt (X : Sd Z y bytes maxL ret p l e R s m args below meth c n0 h kc ks T) {pc n1 n2 : Nat} {ls : Array Slot} {st : List Value} {x v : Int32} {o : Int} (hd : decode bytes pc = .ok (.if_icmp .lt o, 3)) (ho : 0 ≤ (pc : Int) + o) (h1 : ((pc : Int) + o).toNat = n1) (h2 : pc + 3 = n2) (K1 : x < v → Run p e below s n0 fc fs Q (T.setTop (mkF m n1 ls st))) (K2 : ¬ x < v → Run p e below s n0 fc fs Q (T.setTop (mkF m n2 ls st))) : Run p e below s n0 fc fs Q (T.setTop (mkF m pc ls (.int v :: .int x :: st))) := by
  exact icc X hd ho h1 h2 (fun hq => K1 (Classical.byContradiction fun w => by rw [(flt w).1] at hq; cases hq)) (fun hq => K2 (fun w => by rw [(tlt w).1] at hq; cases hq))
theorem if_lt (X : Sd Z y bytes maxL ret p l e R s m args below meth c n0 h kc ks T) {pc n1 n2 : Nat} {ls : Array Slot} {st : List Value} {x : Int32} {o : Int} (hd : decode bytes pc = .ok (.ifCond .lt o, 3)) (ho : 0 ≤ (pc : Int) + o) (h1 : ((pc : Int) + o).toNat = n1) (h2 : pc + 3 = n2) (K1 : x < 0 → Run p e below s n0 fc fs Q (T.setTop (mkF m n1 ls st))) (K2 : ¬ x < 0 → Run p e below s n0 fc fs Q (T.setTop (mkF m n2 ls st))) : Run p e below s n0 fc fs Q (T.setTop (mkF m pc ls (.int x :: st))) := by
  exact ifc X hd ho h1 h2 (fun hq => by rw [if0] at hq; exact K1 (Classical.byContradiction fun w => by rw [(flt w).1] at hq; cases hq)) (fun hq => by rw [if0] at hq; exact K2 (fun w => by rw [(tlt w).1] at hq; cases hq))
theorem ic_ge (X : Sd Z y bytes maxL ret p l e R s m args below meth c n0 h kc ks T) {pc n1 n2 : Nat} {ls : Array Slot} {st : List Value} {x v : Int32} {o : Int} (hd : decode bytes pc = .ok (.if_icmp .ge o, 3)) (ho : 0 ≤ (pc : Int) + o) (h1 : ((pc : Int) + o).toNat = n1) (h2 : pc + 3 = n2) (K1 : ¬ x < v → Run p e below s n0 fc fs Q (T.setTop (mkF m n1 ls st))) (K2 : x < v → Run p e below s n0 fc fs Q (T.setTop (mkF m n2 ls st))) : Run p e below s n0 fc fs Q (T.setTop (mkF m pc ls (.int v :: .int x :: st))) := by
  exact icc X hd ho h1 h2 (fun hq => K1 (fun w => by rw [(tlt w).2.1] at hq; cases hq)) (fun hq => K2 (Classical.byContradiction fun w => by rw [(flt w).2.1] at hq; cases hq))
theorem if_ge (X : Sd Z y bytes maxL ret p l e R s m args below meth c n0 h kc ks T) {pc n1 n2 : Nat} {ls : Array Slot} {st : List Value} {x : Int32} {o : Int} (hd : decode bytes pc = .ok (.ifCond .ge o, 3)) (ho : 0 ≤ (pc : Int) + o) (h1 : ((pc : Int) + o).toNat = n1) (h2 : pc + 3 = n2) (K1 : ¬ x < 0 → Run p e below s n0 fc fs Q (T.setTop (mkF m n1 ls st))) (K2 : x < 0 → Run p e below s n0 fc fs Q (T.setTop (mkF m n2 ls st))) : Run p e below s n0 fc fs Q (T.setTop (mkF m pc ls (.int x :: st))) := by
  exact ifc X hd ho h1 h2 (fun hq => by rw [if0] at hq; exact K1 (fun w => by rw [(tlt w).2.1] at hq; cases hq)) (fun hq => by rw [if0] at hq; exact K2 (Classical.byContradiction fun w => by rw [(flt w).2.1] at hq; cases hq))
theorem ic_gt (X : Sd Z y bytes maxL ret p l e R s m args below meth c n0 h kc ks T) {pc n1 n2 : Nat} {ls : Array Slot} {st : List Value} {x v : Int32} {o : Int} (hd : decode bytes pc = .ok (.if_icmp .gt o, 3)) (ho : 0 ≤ (pc : Int) + o) (h1 : ((pc : Int) + o).toNat = n1) (h2 : pc + 3 = n2) (K1 : v < x → Run p e below s n0 fc fs Q (T.setTop (mkF m n1 ls st))) (K2 : ¬ v < x → Run p e below s n0 fc fs Q (T.setTop (mkF m n2 ls st))) : Run p e below s n0 fc fs Q (T.setTop (mkF m pc ls (.int v :: .int x :: st))) := by
  exact icc X hd ho h1 h2 (fun hq => K1 (Classical.byContradiction fun w => by rw [(flt w).2.2.1] at hq; cases hq)) (fun hq => K2 (fun w => by rw [(tlt w).2.2.1] at hq; cases hq))
theorem if_gt (X : Sd Z y bytes maxL ret p l e R s m args below meth c n0 h kc ks T) {pc n1 n2 : Nat} {ls : Array Slot} {st : List Value} {x : Int32} {o : Int} (hd : decode bytes pc = .ok (.ifCond .gt o, 3)) (ho : 0 ≤ (pc : Int) + o) (h1 : ((pc : Int) + o).toNat = n1) (h2 : pc + 3 = n2) (K1 : 0 < x → Run p e below s n0 fc fs Q (T.setTop (mkF m n1 ls st))) (K2 : ¬ 0 < x → Run p e below s n0 fc fs Q (T.setTop (mkF m n2 ls st))) : Run p e below s n0 fc fs Q (T.setTop (mkF m pc ls (.int x :: st))) := by
  exact ifc X hd ho h1 h2 (fun hq => by rw [if0] at hq; exact K1 (Classical.byContradiction fun w => by rw [(flt w).2.2.1] at hq; cases hq)) (fun hq => by rw [if0] at hq; exact K2 (fun w => by rw [(tlt w).2.2.1] at hq; cases hq))
theorem ic_le (X : Sd Z y bytes maxL ret p l e R s m args below meth c n0 h kc ks T) {pc n1 n2 : Nat} {ls : Array Slot} {st : List Value} {x v : Int32} {o : Int} (hd : decode bytes pc = .ok (.if_icmp .le o, 3)) (ho : 0 ≤ (pc : Int) + o) (h1 : ((pc : Int) + o).toNat = n1) (h2 : pc + 3 = n2) (K1 : ¬ v < x → Run p e below s n0 fc fs Q (T.setTop (mkF m n1 ls st))) (K2 : v < x → Run p e below s n0 fc fs Q (T.setTop (mkF m n2 ls st))) : Run p e below s n0 fc fs Q (T.setTop (mkF m pc ls (.int v :: .int x :: st))) := by
  exact icc X hd ho h1 h2 (fun hq => K1 (fun w => by rw [(tlt w).2.2.2] at hq; cases hq)) (fun hq => K2 (Classical.byContradiction fun w => by rw [(flt w).2.2.2] at hq; cases hq))
theorem if_le (X : Sd Z y bytes maxL ret p l e R s m args below meth c n0 h kc ks T) {pc n1 n2 : Nat} {ls : Array Slot} {st : List Value} {x : Int32} {o : Int} (hd : decode bytes pc = .ok (.ifCond .le o, 3)) (ho : 0 ≤ (pc : Int) + o) (h1 : ((pc : Int) + o).toNat = n1) (h2 : pc + 3 = n2) (K1 : ¬ 0 < x → Run p e below s n0 fc fs Q (T.setTop (mkF m n1 ls st))) (K2 : 0 < x → Run p e below s n0 fc fs Q (T.setTop (mkF m n2 ls st))) : Run p e below s n0 fc fs Q (T.setTop (mkF m pc ls (.int x :: st))) := by
  exact ifc X hd ho h1 h2 (fun hq => by rw [if0] at hq; exact K1 (fun w => by rw [(tlt w).2.2.2] at hq; cases hq)) (fun hq => by rw [if0] at hq; exact K2 (Classical.byContradiction fun w => by rw [(flt w).2.2.2] at hq; cases hq))
theorem ifnull_y (X : Sd Z y bytes maxL ret p l e R s m args below meth c n0 h kc ks T) {pc n1 : Nat} {ls : Array Slot} {st : List Value} {o : Int} (hd : decode bytes pc = .ok (.ifnull o, 3)) (ho : 0 ≤ (pc : Int) + o) (h1 : ((pc : Int) + o).toNat = n1) (K : Run p e below s n0 fc fs Q (T.setTop (mkF m n1 ls st))) : Run p e below s n0 fc fs Q (T.setTop (mkF m pc ls (.null :: st))) := K.st fun _ k => XS.ifnullYes X.hr X.1.1 rfl rfl (X.d hd) rfl ho h1 k
theorem ifnull_n (X : Sd Z y bytes maxL ret p l e R s m args below meth c n0 h kc ks T) {pc n2 : Nat} {ls : Array Slot} {st : List Value} {o : Int} {a : Addr} (hd : decode bytes pc = .ok (.ifnull o, 3)) (h2 : pc + 3 = n2) (K : Run p e below s n0 fc fs Q (T.setTop (mkF m n2 ls st))) : Run p e below s n0 fc fs Q (T.setTop (mkF m pc ls (.ref a :: st))) := by
  subst h2; exact K.st fun _ k => XS.ifnullNo X.hr X.1.1 rfl (X.d hd) rfl k
theorem ifnonnull_y (X : Sd Z y bytes maxL ret p l e R s m args below meth c n0 h kc ks T) {pc n1 : Nat} {ls : Array Slot} {st : List Value} {o : Int} {a : Addr} (hd : decode bytes pc = .ok (.ifnonnull o, 3)) (ho : 0 ≤ (pc : Int) + o) (h1 : ((pc : Int) + o).toNat = n1) (K : Run p e below s n0 fc fs Q (T.setTop (mkF m n1 ls st))) : Run p e below s n0 fc fs Q (T.setTop (mkF m pc ls (.ref a :: st))) := K.st fun _ k => XS.ifnonnullYes X.hr X.1.1 rfl rfl (X.d hd) rfl ho h1 k
theorem ifnonnull_n (X : Sd Z y bytes maxL ret p l e R s m args below meth c n0 h kc ks T) {pc n2 : Nat} {ls : Array Slot} {st : List Value} {o : Int} (hd : decode bytes pc = .ok (.ifnonnull o, 3)) (h2 : pc + 3 = n2) (K : Run p e below s n0 fc fs Q (T.setTop (mkF m n2 ls st))) : Run p e below s n0 fc fs Q (T.setTop (mkF m pc ls (.null :: st))) := by
  subst h2; exact K.st fun _ k => XS.ifnonnullNo X.hr X.1.1 rfl (X.d hd) rfl k
theorem ac_eq (X : Sd Z y bytes maxL ret p l e R s m args below meth c n0 h kc ks T) {pc n1 n2 : Nat} {ls : Array Slot} {st : List Value} {x v : Value} {o : Int} (hd : decode bytes pc = .ok (.if_acmp .eq o, 3)) (hx : x.isRef = true) (hv : v.isRef = true) (ho : 0 ≤ (pc : Int) + o) (h1 : ((pc : Int) + o).toNat = n1) (h2 : pc + 3 = n2) (K1 : x = v → Run p e below s n0 fc fs Q (T.setTop (mkF m n1 ls st))) (K2 : ¬ x = v → Run p e below s n0 fc fs Q (T.setTop (mkF m n2 ls st))) : Run p e below s n0 fc fs Q (T.setTop (mkF m pc ls (v :: x :: st))) := by
  obtain ⟨q, L, i, j, Y, -⟩ := X
  by_cases hq : x = v
  · exact (K1 hq).st fun _ k => acmp Y q.1 rfl hx hv rfl (q.2.2.1 ▸ hd) rfl (decide_eq_true hq) ho (by simp [acV, ← h1, ← h2]) k
  · exact (K2 hq).st fun _ k => acmp Y q.1 rfl hx hv rfl (q.2.2.1 ▸ hd) rfl (decide_eq_false hq) ho (by simp [acV, ← h1, ← h2]) k
theorem ac_ne (X : Sd Z y bytes maxL ret p l e R s m args below meth c n0 h kc ks T) {pc n1 n2 : Nat} {ls : Array Slot} {st : List Value} {x v : Value} {o : Int} (hd : decode bytes pc = .ok (.if_acmp .ne o, 3)) (hx : x.isRef = true) (hv : v.isRef = true) (ho : 0 ≤ (pc : Int) + o) (h1 : ((pc : Int) + o).toNat = n1) (h2 : pc + 3 = n2) (K1 : ¬ x = v → Run p e below s n0 fc fs Q (T.setTop (mkF m n1 ls st))) (K2 : x = v → Run p e below s n0 fc fs Q (T.setTop (mkF m n2 ls st))) : Run p e below s n0 fc fs Q (T.setTop (mkF m pc ls (v :: x :: st))) := by
  obtain ⟨q, L, i, j, Y, -⟩ := X
  by_cases hq : x = v
  · exact (K2 hq).st fun _ k => acmp Y q.1 rfl hx hv rfl (q.2.2.1 ▸ hd) rfl (decide_eq_true hq) ho (by simp [acV, ← h1, ← h2]) k
  · exact (K1 hq).st fun _ k => acmp Y q.1 rfl hx hv rfl (q.2.2.1 ▸ hd) rfl (decide_eq_false hq) ho (by simp [acV, ← h1, ← h2]) k
theorem Sd.re {T' : State} {L : List Loc} {i j : Nat} (X : Sd Z y bytes maxL ret p l e R s m args below meth c n0 h kc ks T) (Y : Stand p l e R s m args below meth c T' L i j) (h1 : T'.heap = h) (h2 : Fr n0 L) (h3 : i ≤ kc) (h4 : j ≤ ks) : Sd Z y bytes maxL ret p l e R s m args below meth c n0 h kc ks T' := ⟨X.1, L, i, j, Y, h1, h2, h3, h4⟩
theorem getstatic (X : Sd Z y bytes maxL ret p l e R s m args below meth c n0 h kc ks T) {pc n index : Nat} {ls : Array Slot} {st : List Value} {R0 O f d : String} {v : Value} (hd : decode bytes pc = .ok (.getstatic index, 3)) (w : (Cond.fieldLink y.cls index R0 f d).before a0 Z = true) (via : Via Z R0 O f d) (F : Sta Z h O f d v) (hn : pc + 3 = n) (K : ∀ T', Sd Z y bytes maxL ret p l e R s m args below meth c n0 h kc ks T' → Run p e below s n0 fc fs Q (T'.setTop (mkF m n ls (v :: st)))) : Run p e below s n0 fc fs Q (T.setTop (mkF m pc ls st)) := by
  subst hn; obtain ⟨q, L, i, j, Y, r1, r2, r3, r4⟩ := X
  obtain ⟨T', Y', e', stp⟩ := getS (host := "") Y q.1 q.2.1 q.2.2.2.2.2.2.1 w via r1 F (g := mkF m pc ls st) rfl (q.2.2.1 ▸ hd)
  exact (K T' ⟨q, L, i, j, Y', e', r2, r3, r4⟩).st stp
theorem getstaticN (X : Sd Z y bytes maxL ret p l e R s m args below meth c n0 h kc ks T) {pc n index : Nat} {ls : Array Slot} {st : List Value} {R0 O f d host : String} {v : Value} (hd : decode bytes pc = .ok (.getstatic index, 3)) (w : (Cond.fieldLinkNest y.cls index R0 f d host).before a0 Z = true) (via : Via Z R0 O f d) (F : Sta Z h O f d v) (hn : pc + 3 = n) (K : ∀ T', Sd Z y bytes maxL ret p l e R s m args below meth c n0 h kc ks T' → Run p e below s n0 fc fs Q (T'.setTop (mkF m n ls (v :: st)))) : Run p e below s n0 fc fs Q (T.setTop (mkF m pc ls st)) := by
  subst hn; obtain ⟨q, L, i, j, Y, r1, r2, r3, r4⟩ := X
  obtain ⟨T', Y', e', stp⟩ := getS2 Y q.1 q.2.1 q.2.2.2.2.2.2.1 (Or.inr w) via r1 F (g := mkF m pc ls st) rfl (q.2.2.1 ▸ hd)
  exact (K T' ⟨q, L, i, j, Y', e', r2, r3, r4⟩).st stp
theorem getfield (X : Sd Z y bytes maxL ret p l e R s m args below meth c n0 h kc ks T) {pc n index : Nat} {ls : Array Slot} {st : List Value} {R0 O f d : String} {a : Addr} {v : Value} (hd : decode bytes pc = .ok (.getfield index, 3)) (w : (Cond.fieldLink y.cls index R0 f d).before a0 Z = true) (via : Via Z R0 O f d) (F : Fld Z h a O f d v) (hn : pc + 3 = n) (K : ∀ T', Sd Z y bytes maxL ret p l e R s m args below meth c n0 h kc ks T' → Run p e below s n0 fc fs Q (T'.setTop (mkF m n ls (v :: st)))) : Run p e below s n0 fc fs Q (T.setTop (mkF m pc ls (.ref a :: st))) := by
  subst hn; obtain ⟨q, L, i, j, Y, r1, r2, r3, r4⟩ := X
  obtain ⟨T', Y', e', stp⟩ := getF (host := "") Y q.1 q.2.1 q.2.2.2.2.2.2.1 (Or.inl w) via r1 F (g := mkF m pc ls (.ref a :: st)) rfl rfl (q.2.2.1 ▸ hd)
  exact (K T' ⟨q, L, i, j, Y', e', r2, r3, r4⟩).st stp
theorem lenA {d : String} {ps : List FieldType} {r : Option FieldType} (hd : parseMethodDescriptor d = some ⟨ps, r⟩) {L : List Value} (hl : L.length = ps.length) : ∀ sig, parseMethodDescriptor d = some sig → L.length = sig.parameters.length := lenOf hd hl
theorem call_static (X : Sd Z y bytes maxL ret p l e R s m args below meth c n0 h kc ks T) {rm : Room} {ybytes : ByteArray} {yL : Nat} {yret : Option FieldType} {z : MethodName} {Qc : Option Value → Heap → Prop} {pc n index W : Nat} {ls : Array Slot} {st rest argsL : List Value} (hd : decode bytes pc = .ok (.invokestatic index, 3)) (w1 : (Cond.methodLink y.cls index z).before a0 Z = true) (w2 : (Cond.static z).before a0 Z = true) (wc : (Cond.code z ybytes yL yret).before a0 Z = true) (wi : (Cond.initialized z.cls).before a0 Z = true) (hy : z.cls ≠ "java/lang/invoke/MethodHandle" ∧ z.cls ≠ "java/lang/invoke/VarHandle") (hC : Ctr l Z z ybytes yL yret [] rm n0 argsL.toArray h Qc) (hst : st = argsL.reverse ++ rest) (hsize : ls.size = maxL) (hlen : ∀ sig, parseMethodDescriptor z.desc = some sig → argsL.length = sig.parameters.length) (hW : (rest.map fun v => v.category).sum ≤ W) (hfr : rm.frames + 1 ≤ R.frames) (hlo : W + (yL + 11) + rm.locals ≤ R.locals) (hce : kc + rm.cells ≤ R.cells) (hsl : ks + rm.slots ≤ R.slots) (hn : pc + 3 = n) (K : ∀ T' h' v, Sd Z y bytes maxL ret p l e R s m args below meth c n0 h' (kc + rm.cells) (ks + rm.slots) T' → Qc v h' → Run p e below s n0 fc fs Q (T'.setTop (mkF m n ls (v.toList ++ rest)))) : Run p e below s n0 fc fs Q (T.setTop (mkF m pc ls st)) := by
  subst hn hst; obtain ⟨q, L, i, j, Y, r1, r2, r3, r4⟩ := X
  have hC' : MetFree l z (head1 [Cond.code z ybytes yL yret] rm) (fun a' U => a' = argsL.toArray ∧ Z.Warmed39 U.vm ∧ U.heap = h) (fun _ _ _ _ _ => True) (fun _ U o U' => ∃ v L, o = .returned v ∧ (Qc v U'.heap ∧ Fr n0 L) ∧ FrameEnd U o U' L rm.cells rm.slots) := hC
  have hB := backOf (W := W) (R := R) (p := p) (e := e) (below := below) (args := args) (len := 3) (Q := fun v hh L => Qc v hh ∧ Fr n0 L) hC' q.2.1 wc wi hfr hlo
  obtain ⟨v, vm₁, ⟨T', L', k', n'⟩, -, Y', ⟨Lc, hQ, l', y', z'⟩, stp⟩ := Jvm.LawKit.callS Y q.1 (y := z) q.2.2.2.2.2.2.1 (mvT q.2.1 w1) (mvT q.2.1 w2) (mvT q.2.1 wi) (mvT q.2.1 wc) hy hB (g := mkF m pc ls (argsL.reverse ++ rest)) rfl (by rw [q.2.2.2.1]; exact hsize) (argsL := argsL) (rest := rest) hlen rfl (by simpa using hW) (q.2.2.1 ▸ hd) (fun _ _ => ⟨rfl, r1, by dsimp only [Pt.cells]; omega, by dsimp only [Pt.slots]; omega⟩)
  dsimp only [Pt.U, Pt.locs, Pt.cells, Pt.slots] at Y' l' y' z' stp hQ
  obtain ⟨hQ1, hQ2⟩ := hQ
  subst l' y' z'
  exact (K T' T'.heap v ⟨q, _, _, _, Y', rfl, Fr.app r2 hQ2, by omega, by omega⟩ hQ1).st fun t k => stp t k
theorem call_static_v (X : Sd Z y bytes maxL ret p l e R s m args below meth c n0 h kc ks T) {rm : Room} {ybytes : ByteArray} {yL : Nat} {yret : Option FieldType} {z : MethodName} {Qv : Value → Heap → Prop} {pc n index W : Nat} {ls : Array Slot} {st rest argsL : List Value} (hd : decode bytes pc = .ok (.invokestatic index, 3)) (w1 : (Cond.methodLink y.cls index z).before a0 Z = true) (w2 : (Cond.static z).before a0 Z = true) (wc : (Cond.code z ybytes yL yret).before a0 Z = true) (wi : (Cond.initialized z.cls).before a0 Z = true) (hy : z.cls ≠ "java/lang/invoke/MethodHandle" ∧ z.cls ≠ "java/lang/invoke/VarHandle") (hC : Ctr l Z z ybytes yL yret [] rm n0 argsL.toArray h (Rt Qv)) (hst : st = argsL.reverse ++ rest) (hsize : ls.size = maxL) (hlen : ∀ sig, parseMethodDescriptor z.desc = some sig → argsL.length = sig.parameters.length) (hW : (rest.map fun v => v.category).sum ≤ W) (hfr : rm.frames + 1 ≤ R.frames) (hlo : W + (yL + 11) + rm.locals ≤ R.locals) (hce : kc + rm.cells ≤ R.cells) (hsl : ks + rm.slots ≤ R.slots) (hn : pc + 3 = n) (K : ∀ T' h' w, Sd Z y bytes maxL ret p l e R s m args below meth c n0 h' (kc + rm.cells) (ks + rm.slots) T' → Qv w h' → Run p e below s n0 fc fs Q (T'.setTop (mkF m n ls (w :: rest)))) : Run p e below s n0 fc fs Q (T.setTop (mkF m pc ls st)) :=
  call_static X hd w1 w2 wc wi hy hC hst hsize hlen hW hfr hlo hce hsl hn fun T' h' v X' q => by obtain ⟨w, rfl, q⟩ := q; exact K T' h' w X' q
theorem call_static_n (X : Sd Z y bytes maxL ret p l e R s m args below meth c n0 h kc ks T) {rm : Room} {ybytes : ByteArray} {yL : Nat} {yret : Option FieldType} {z : MethodName} {Qn : Heap → Prop} {pc n index W : Nat} {ls : Array Slot} {st rest argsL : List Value} (hd : decode bytes pc = .ok (.invokestatic index, 3)) (w1 : (Cond.methodLink y.cls index z).before a0 Z = true) (w2 : (Cond.static z).before a0 Z = true) (wc : (Cond.code z ybytes yL yret).before a0 Z = true) (wi : (Cond.initialized z.cls).before a0 Z = true) (hy : z.cls ≠ "java/lang/invoke/MethodHandle" ∧ z.cls ≠ "java/lang/invoke/VarHandle") (hC : Ctr l Z z ybytes yL yret [] rm n0 argsL.toArray h (Rn Qn)) (hst : st = argsL.reverse ++ rest) (hsize : ls.size = maxL) (hlen : ∀ sig, parseMethodDescriptor z.desc = some sig → argsL.length = sig.parameters.length) (hW : (rest.map fun v => v.category).sum ≤ W) (hfr : rm.frames + 1 ≤ R.frames) (hlo : W + (yL + 11) + rm.locals ≤ R.locals) (hce : kc + rm.cells ≤ R.cells) (hsl : ks + rm.slots ≤ R.slots) (hn : pc + 3 = n) (K : ∀ T' h', Sd Z y bytes maxL ret p l e R s m args below meth c n0 h' (kc + rm.cells) (ks + rm.slots) T' → Qn h' → Run p e below s n0 fc fs Q (T'.setTop (mkF m n ls rest))) : Run p e below s n0 fc fs Q (T.setTop (mkF m pc ls st)) :=
  call_static X hd w1 w2 wc wi hy hC hst hsize hlen hW hfr hlo hce hsl hn fun T' h' v X' q => by obtain ⟨rfl, q⟩ := q; exact K T' h' X' q
theorem call_virtual (X : Sd Z y bytes maxL ret p l e R s m args below meth c n0 h kc ks T) {rm : Room} {ybytes : ByteArray} {yL : Nat} {yret : Option FieldType} {z : MethodName} {Qc : Option Value → Heap → Prop} {pc n index W : Nat} {ls : Array Slot} {st rest argsL : List Value} {a : Addr} {C : String} {yv : MethodName} (hd : decode bytes pc = .ok (.invokevirtual index, 3)) (w1 : (Cond.methodLink y.cls index yv).before a0 Z = true) (w2 : (Cond.declares yv).before a0 Z = true) (w3 : (Cond.instanceMethod z).before a0 Z = true) (w4 : (Cond.selects C yv z).before a0 Z = true) (hnf : ∀ {s' : State}, Z.Warmed39 s'.vm → NotFace s' yv) (wc : (Cond.code z ybytes yL yret).before a0 Z = true) (wi : (Cond.initialized z.cls).before a0 Z = true) (hy : yv.cls ≠ "java/lang/invoke/MethodHandle" ∧ yv.cls ≠ "java/lang/invoke/VarHandle") (E : Exa Z h a C) (hC : Ctr l Z z ybytes yL yret [] rm n0 (.ref a :: argsL).toArray h Qc) (hst : st = argsL.reverse ++ .ref a :: rest) (hsize : ls.size = maxL) (hlen : ∀ sig, parseMethodDescriptor yv.desc = some sig → argsL.length = sig.parameters.length) (hW : (rest.map fun v => v.category).sum ≤ W) (hfr : rm.frames + 1 ≤ R.frames) (hlo : W + (yL + 11) + rm.locals ≤ R.locals) (hce : kc + rm.cells ≤ R.cells) (hsl : ks + rm.slots ≤ R.slots) (hn : pc + 3 = n) (K : ∀ T' h' v, Sd Z y bytes maxL ret p l e R s m args below meth c n0 h' (kc + rm.cells) (ks + rm.slots) T' → Qc v h' → Run p e below s n0 fc fs Q (T'.setTop (mkF m n ls (v.toList ++ rest)))) : Run p e below s n0 fc fs Q (T.setTop (mkF m pc ls st)) := by
  subst hn hst; obtain ⟨q, L, i, j, Y, r1, r2, r3, r4⟩ := X
  have hC' : MetFree l z (head1 [Cond.code z ybytes yL yret] rm) (fun a' U => a' = (.ref a :: argsL).toArray ∧ Z.Warmed39 U.vm ∧ U.heap = h) (fun _ _ _ _ _ => True) (fun _ U o U' => ∃ v L, o = .returned v ∧ (Qc v U'.heap ∧ Fr n0 L) ∧ FrameEnd U o U' L rm.cells rm.slots) := hC
  have hB := backOf (W := W) (R := R) (p := p) (e := e) (below := below) (args := args) (len := 3) (Q := fun v hh L => Qc v hh ∧ Fr n0 L) hC' q.2.1 wc wi hfr hlo
  obtain ⟨cq, kq, qa, qb, qc⟩ := isOf (T := T) q.2.1 r1 E
  obtain ⟨v, vm₁, ⟨T', L', k', n'⟩, -, Y', ⟨Lc, hQ, l', y', z'⟩, stp⟩ := Y.virtualBack q.1 (y := yv) (z := z) q.2.2.2.2.2.2.1 (mvT q.2.1 w1) (mvT q.2.1 w2) (hnf q.2.1) (mvT q.2.1 w4) (mvT q.2.1 w3) hy hB qa qc (g := mkF m pc ls (argsL.reverse ++ .ref a :: rest)) rfl (by rw [q.2.2.2.1]; exact hsize) (Steps.refl _) (argsL := argsL) (rest := rest) hlen rfl (by simpa using hW) (q.2.2.1 ▸ hd) (fun _ _ => ⟨rfl, r1, by dsimp only [Pt.cells]; omega, by dsimp only [Pt.slots]; omega⟩)
  dsimp only [Pt.U, Pt.locs, Pt.cells, Pt.slots] at Y' l' y' z' stp hQ
  obtain ⟨hQ1, hQ2⟩ := hQ
  subst l' y' z'
  exact (K T' T'.heap v ⟨q, _, _, _, Y', rfl, Fr.app r2 hQ2, by omega, by omega⟩ hQ1).st fun t k => stp.trans k
theorem call_virtual_v (X : Sd Z y bytes maxL ret p l e R s m args below meth c n0 h kc ks T) {rm : Room} {ybytes : ByteArray} {yL : Nat} {yret : Option FieldType} {z : MethodName} {Qv : Value → Heap → Prop} {pc n index W : Nat} {ls : Array Slot} {st rest argsL : List Value} {a : Addr} {C : String} {yv : MethodName} (hd : decode bytes pc = .ok (.invokevirtual index, 3)) (w1 : (Cond.methodLink y.cls index yv).before a0 Z = true) (w2 : (Cond.declares yv).before a0 Z = true) (w3 : (Cond.instanceMethod z).before a0 Z = true) (w4 : (Cond.selects C yv z).before a0 Z = true) (hnf : ∀ {s' : State}, Z.Warmed39 s'.vm → NotFace s' yv) (wc : (Cond.code z ybytes yL yret).before a0 Z = true) (wi : (Cond.initialized z.cls).before a0 Z = true) (hy : yv.cls ≠ "java/lang/invoke/MethodHandle" ∧ yv.cls ≠ "java/lang/invoke/VarHandle") (E : Exa Z h a C) (hC : Ctr l Z z ybytes yL yret [] rm n0 (.ref a :: argsL).toArray h (Rt Qv)) (hst : st = argsL.reverse ++ .ref a :: rest) (hsize : ls.size = maxL) (hlen : ∀ sig, parseMethodDescriptor yv.desc = some sig → argsL.length = sig.parameters.length) (hW : (rest.map fun v => v.category).sum ≤ W) (hfr : rm.frames + 1 ≤ R.frames) (hlo : W + (yL + 11) + rm.locals ≤ R.locals) (hce : kc + rm.cells ≤ R.cells) (hsl : ks + rm.slots ≤ R.slots) (hn : pc + 3 = n) (K : ∀ T' h' w, Sd Z y bytes maxL ret p l e R s m args below meth c n0 h' (kc + rm.cells) (ks + rm.slots) T' → Qv w h' → Run p e below s n0 fc fs Q (T'.setTop (mkF m n ls (w :: rest)))) : Run p e below s n0 fc fs Q (T.setTop (mkF m pc ls st)) :=
  call_virtual X hd w1 w2 w3 w4 hnf wc wi hy E hC hst hsize hlen hW hfr hlo hce hsl hn fun T' h' v X' q => by obtain ⟨w, rfl, q⟩ := q; exact K T' h' w X' q
theorem call_virtual_n (X : Sd Z y bytes maxL ret p l e R s m args below meth c n0 h kc ks T) {rm : Room} {ybytes : ByteArray} {yL : Nat} {yret : Option FieldType} {z : MethodName} {Qn : Heap → Prop} {pc n index W : Nat} {ls : Array Slot} {st rest argsL : List Value} {a : Addr} {C : String} {yv : MethodName} (hd : decode bytes pc = .ok (.invokevirtual index, 3)) (w1 : (Cond.methodLink y.cls index yv).before a0 Z = true) (w2 : (Cond.declares yv).before a0 Z = true) (w3 : (Cond.instanceMethod z).before a0 Z = true) (w4 : (Cond.selects C yv z).before a0 Z = true) (hnf : ∀ {s' : State}, Z.Warmed39 s'.vm → NotFace s' yv) (wc : (Cond.code z ybytes yL yret).before a0 Z = true) (wi : (Cond.initialized z.cls).before a0 Z = true) (hy : yv.cls ≠ "java/lang/invoke/MethodHandle" ∧ yv.cls ≠ "java/lang/invoke/VarHandle") (E : Exa Z h a C) (hC : Ctr l Z z ybytes yL yret [] rm n0 (.ref a :: argsL).toArray h (Rn Qn)) (hst : st = argsL.reverse ++ .ref a :: rest) (hsize : ls.size = maxL) (hlen : ∀ sig, parseMethodDescriptor yv.desc = some sig → argsL.length = sig.parameters.length) (hW : (rest.map fun v => v.category).sum ≤ W) (hfr : rm.frames + 1 ≤ R.frames) (hlo : W + (yL + 11) + rm.locals ≤ R.locals) (hce : kc + rm.cells ≤ R.cells) (hsl : ks + rm.slots ≤ R.slots) (hn : pc + 3 = n) (K : ∀ T' h', Sd Z y bytes maxL ret p l e R s m args below meth c n0 h' (kc + rm.cells) (ks + rm.slots) T' → Qn h' → Run p e below s n0 fc fs Q (T'.setTop (mkF m n ls rest))) : Run p e below s n0 fc fs Q (T.setTop (mkF m pc ls st)) :=
  call_virtual X hd w1 w2 w3 w4 hnf wc wi hy E hC hst hsize hlen hW hfr hlo hce hsl hn fun T' h' v X' q => by obtain ⟨rfl, q⟩ := q; exact K T' h' X' q
theorem joinT (X : Sd Z y bytes maxL ret p l e R s m args below meth c n0 h kc ks T) {α : Type} (P : α → Prop) (f : α → JFrame) {t : State} (J : ∀ T' v, Sd Z y bytes maxL ret p l e R s m args below meth c n0 h kc ks T' → P v → Run p e below s n0 fc fs Q (T'.setTop (f v))) (K : (∀ T' v, Sd Z y bytes maxL ret p l e R s m args below meth c n0 h kc ks T' → P v → Run p e below s n0 fc fs Q (T'.setTop (f v))) → Run p e below s n0 fc fs Q t) : Run p e below s n0 fc fs Q t := K J
theorem eqI_v {args : Array Value} {first s : State} {o : Option Outcome} {idx : List Nat} {t : Term} {z : Int32} (h : (Jvm.Cond.eq t (Term.int z)).value args first o s idx = some true) : t.eval args first o idx s = some (.int z) := by
  simp only [Jvm.Cond.value, Term.eval] at h
  cases ht : t.eval args first o idx s with
  | none => simp [ht] at h
  | some x => cases x <;> simp [ht] at h ⊢; exact h
end A
end Jvm.OwnK
namespace Jvm.Pilot.@@N@@
open Jvm Jvm.ClassFile Sem Op Lib Jvm.Free Jvm.Stand Jvm.LawKit Jvm.RoadKit Jvm.OwnK Bundle Jvm.Pilot.@@N@@.Jvm.D
def own_sel (x0 x1 x2 x3 x4 x5 x6 x7 x8 x9 x10 : Addr) (p : Int32) : Addr := if p = 0 then x0 else if p = 1 then x1 else if p = 2 then x2 else if p = 3 then x3 else if p = 4 then x4 else if p = 5 then x5 else if p = 6 then x6 else if p = 7 then x7 else if p = 8 then x8 else if p = 9 then x9 else x10
theorem own_cases (x : Int32) : (x &&& 2147483647) % 11 = 0 ∨ (x &&& 2147483647) % 11 = 1 ∨ (x &&& 2147483647) % 11 = 2 ∨ (x &&& 2147483647) % 11 = 3 ∨ (x &&& 2147483647) % 11 = 4 ∨ (x &&& 2147483647) % 11 = 5 ∨ (x &&& 2147483647) % 11 = 6 ∨ (x &&& 2147483647) % 11 = 7 ∨ (x &&& 2147483647) % 11 = 8 ∨ (x &&& 2147483647) % 11 = 9 ∨ (x &&& 2147483647) % 11 = 10 := by
  have h1 := c_mask x 2147483647 31 (by decide) (by decide)
  have h2 := (c_irem (x &&& 2147483647) 11 11 (by decide)).1 (by rw [h1]; omega)
  have h3 : ((x &&& 2147483647) % 11).toInt = 0 ∨ ((x &&& 2147483647) % 11).toInt = 1 ∨ ((x &&& 2147483647) % 11).toInt = 2 ∨ ((x &&& 2147483647) % 11).toInt = 3 ∨ ((x &&& 2147483647) % 11).toInt = 4 ∨ ((x &&& 2147483647) % 11).toInt = 5 ∨ ((x &&& 2147483647) % 11).toInt = 6 ∨ ((x &&& 2147483647) % 11).toInt = 7 ∨ ((x &&& 2147483647) % 11).toInt = 8 ∨ ((x &&& 2147483647) % 11).toInt = 9 ∨ ((x &&& 2147483647) % 11).toInt = 10 := by omega
  rcases h3 with h | h | h | h | h | h | h | h | h | h | h
  · exact Or.inl (Int32.toInt_inj.mp h)
  · exact Or.inr (Or.inl (Int32.toInt_inj.mp h))
  · exact Or.inr (Or.inr (Or.inl (Int32.toInt_inj.mp h)))
  · exact Or.inr (Or.inr (Or.inr (Or.inl (Int32.toInt_inj.mp h))))
  · exact Or.inr (Or.inr (Or.inr (Or.inr (Or.inl (Int32.toInt_inj.mp h)))))
  · exact Or.inr (Or.inr (Or.inr (Or.inr (Or.inr (Or.inl (Int32.toInt_inj.mp h))))))
  · exact Or.inr (Or.inr (Or.inr (Or.inr (Or.inr (Or.inr (Or.inl (Int32.toInt_inj.mp h)))))))
  · exact Or.inr (Or.inr (Or.inr (Or.inr (Or.inr (Or.inr (Or.inr (Or.inl (Int32.toInt_inj.mp h))))))))
  · exact Or.inr (Or.inr (Or.inr (Or.inr (Or.inr (Or.inr (Or.inr (Or.inr (Or.inl (Int32.toInt_inj.mp h)))))))))
  · exact Or.inr (Or.inr (Or.inr (Or.inr (Or.inr (Or.inr (Or.inr (Or.inr (Or.inr (Or.inl (Int32.toInt_inj.mp h))))))))))
  · exact Or.inr (Or.inr (Or.inr (Or.inr (Or.inr (Or.inr (Or.inr (Or.inr (Or.inr (Or.inr ((Int32.toInt_inj.mp h)))))))))))
theorem pn_com_example_selectivity_selectivity_FunctionTakesPinLaw : plainName "com/example/selectivity/selectivity/FunctionTakesPinLaw" = true := by first | (simp [plainName, overriddenIn]; done) | decide +kernel
theorem d1_0 : decode method_2_code 0 = .ok (.iload_n 0, 1) := by decide +kernel
theorem d1_1 : decode method_2_code 1 = .ok (.ifCond .ne 7, 3) := by decide +kernel
theorem d1_4 : decode method_2_code 4 = .ok (.getstatic 7, 3) := by decide +kernel
theorem d1_7 : decode method_2_code 7 = .ok (.areturn, 1) := by decide +kernel
theorem d1_8 : decode method_2_code 8 = .ok (.iload_n 0, 1) := by decide +kernel
theorem d1_9 : decode method_2_code 9 = .ok (.iconst 1, 1) := by decide +kernel
theorem d1_10 : decode method_2_code 10 = .ok (.if_icmp .ne 7, 3) := by decide +kernel
theorem d1_13 : decode method_2_code 13 = .ok (.getstatic 13, 3) := by decide +kernel
theorem d1_16 : decode method_2_code 16 = .ok (.areturn, 1) := by decide +kernel
theorem d1_17 : decode method_2_code 17 = .ok (.iload_n 0, 1) := by decide +kernel
theorem d1_18 : decode method_2_code 18 = .ok (.iconst 2, 1) := by decide +kernel
theorem d1_19 : decode method_2_code 19 = .ok (.if_icmp .ne 7, 3) := by decide +kernel
theorem d1_22 : decode method_2_code 22 = .ok (.getstatic 16, 3) := by decide +kernel
theorem d1_25 : decode method_2_code 25 = .ok (.areturn, 1) := by decide +kernel
theorem d1_26 : decode method_2_code 26 = .ok (.iload_n 0, 1) := by decide +kernel
theorem d1_27 : decode method_2_code 27 = .ok (.iconst 3, 1) := by decide +kernel
theorem d1_28 : decode method_2_code 28 = .ok (.if_icmp .ne 7, 3) := by decide +kernel
theorem d1_31 : decode method_2_code 31 = .ok (.getstatic 19, 3) := by decide +kernel
theorem d1_34 : decode method_2_code 34 = .ok (.areturn, 1) := by decide +kernel
theorem d1_35 : decode method_2_code 35 = .ok (.iload_n 0, 1) := by decide +kernel
theorem d1_36 : decode method_2_code 36 = .ok (.iconst 4, 1) := by decide +kernel
theorem d1_37 : decode method_2_code 37 = .ok (.if_icmp .ne 7, 3) := by decide +kernel
theorem d1_40 : decode method_2_code 40 = .ok (.getstatic 22, 3) := by decide +kernel
theorem d1_43 : decode method_2_code 43 = .ok (.areturn, 1) := by decide +kernel
theorem d1_44 : decode method_2_code 44 = .ok (.iload_n 0, 1) := by decide +kernel
theorem d1_45 : decode method_2_code 45 = .ok (.iconst 5, 1) := by decide +kernel
theorem d1_46 : decode method_2_code 46 = .ok (.if_icmp .ne 7, 3) := by decide +kernel
theorem d1_49 : decode method_2_code 49 = .ok (.getstatic 25, 3) := by decide +kernel
theorem d1_52 : decode method_2_code 52 = .ok (.areturn, 1) := by decide +kernel
theorem d1_53 : decode method_2_code 53 = .ok (.iload_n 0, 1) := by decide +kernel
theorem d1_54 : decode method_2_code 54 = .ok (.bipush 6, 2) := by decide +kernel
theorem d1_56 : decode method_2_code 56 = .ok (.if_icmp .ne 7, 3) := by decide +kernel
theorem d1_59 : decode method_2_code 59 = .ok (.getstatic 28, 3) := by decide +kernel
theorem d1_62 : decode method_2_code 62 = .ok (.areturn, 1) := by decide +kernel
theorem d1_63 : decode method_2_code 63 = .ok (.iload_n 0, 1) := by decide +kernel
theorem d1_64 : decode method_2_code 64 = .ok (.bipush 7, 2) := by decide +kernel
theorem d1_66 : decode method_2_code 66 = .ok (.if_icmp .ne 7, 3) := by decide +kernel
theorem d1_69 : decode method_2_code 69 = .ok (.getstatic 31, 3) := by decide +kernel
theorem d1_72 : decode method_2_code 72 = .ok (.areturn, 1) := by decide +kernel
theorem d1_73 : decode method_2_code 73 = .ok (.iload_n 0, 1) := by decide +kernel
theorem d1_74 : decode method_2_code 74 = .ok (.bipush 8, 2) := by decide +kernel
theorem d1_76 : decode method_2_code 76 = .ok (.if_icmp .ne 7, 3) := by decide +kernel
theorem d1_79 : decode method_2_code 79 = .ok (.getstatic 34, 3) := by decide +kernel
theorem d1_82 : decode method_2_code 82 = .ok (.areturn, 1) := by decide +kernel
theorem d1_83 : decode method_2_code 83 = .ok (.iload_n 0, 1) := by decide +kernel
theorem d1_84 : decode method_2_code 84 = .ok (.bipush 9, 2) := by decide +kernel
theorem d1_86 : decode method_2_code 86 = .ok (.if_icmp .ne 7, 3) := by decide +kernel
theorem d1_89 : decode method_2_code 89 = .ok (.getstatic 37, 3) := by decide +kernel
theorem d1_92 : decode method_2_code 92 = .ok (.areturn, 1) := by decide +kernel
theorem d1_93 : decode method_2_code 93 = .ok (.getstatic 40, 3) := by decide +kernel
theorem d1_96 : decode method_2_code 96 = .ok (.areturn, 1) := by decide +kernel
theorem ef_rm1 (m : MethodId) (p0 : Int32) : entryFrame m #[(.int p0)] 1 = mkF m 0 #[.val (.int p0)] [] := by first | (simp [entryFrame, mkF, argsToLocals, Value.category]; done) | rfl
set_option maxRecDepth 65536 in
set_option maxHeartbeats 40000000 in
theorem rm1 (l : Launch) (Z : State) (a0 : Array Value) (hw : ∀ d ∈ tables_1, d.before a0 Z = true) (ws : List Jvm.Cond) (p0 : Int32) (h0 : Heap) (n0 : Nat) (a_GREATER : Addr) (S_GREATER : Sta Z h0 "com/example/selectivity/selectivity/Function" "GREATER" "Lcom/example/selectivity/selectivity/Function;" (.ref a_GREATER)) (E_GREATER : Exa Z h0 a_GREATER "com/example/selectivity/selectivity/Function") (a_NOT : Addr) (S_NOT : Sta Z h0 "com/example/selectivity/selectivity/Function" "NOT" "Lcom/example/selectivity/selectivity/Function;" (.ref a_NOT)) (E_NOT : Exa Z h0 a_NOT "com/example/selectivity/selectivity/Function") (F_GREATER_ordinal : Fld Z h0 a_GREATER "java/lang/Enum" "ordinal" "I" (.int (0 : Int32))) (F_NOT_ordinal : Fld Z h0 a_NOT "java/lang/Enum" "ordinal" "I" (.int (10 : Int32))) (F_GREATER_minimum : Fld Z h0 a_GREATER "com/example/selectivity/selectivity/Function" "minimum" "I" (.int (2 : Int32))) (a_LESS : Addr) (S_LESS : Sta Z h0 "com/example/selectivity/selectivity/Function" "LESS" "Lcom/example/selectivity/selectivity/Function;" (.ref a_LESS)) (E_LESS : Exa Z h0 a_LESS "com/example/selectivity/selectivity/Function") (F_LESS_ordinal : Fld Z h0 a_LESS "java/lang/Enum" "ordinal" "I" (.int (1 : Int32))) (F_LESS_minimum : Fld Z h0 a_LESS "com/example/selectivity/selectivity/Function" "minimum" "I" (.int (2 : Int32))) (F_NOT_minimum : Fld Z h0 a_NOT "com/example/selectivity/selectivity/Function" "minimum" "I" (.int (1 : Int32))) (a_AND : Addr) (S_AND : Sta Z h0 "com/example/selectivity/selectivity/Function" "AND" "Lcom/example/selectivity/selectivity/Function;" (.ref a_AND)) (E_AND : Exa Z h0 a_AND "com/example/selectivity/selectivity/Function") (F_AND_ordinal : Fld Z h0 a_AND "java/lang/Enum" "ordinal" "I" (.int (8 : Int32))) (F_AND_minimum : Fld Z h0 a_AND "com/example/selectivity/selectivity/Function" "minimum" "I" (.int (2 : Int32))) (a_NOT_EQUAL : Addr) (S_NOT_EQUAL : Sta Z h0 "com/example/selectivity/selectivity/Function" "NOT_EQUAL" "Lcom/example/selectivity/selectivity/Function;" (.ref a_NOT_EQUAL)) (E_NOT_EQUAL : Exa Z h0 a_NOT_EQUAL "com/example/selectivity/selectivity/Function") (F_NOT_EQUAL_ordinal : Fld Z h0 a_NOT_EQUAL "java/lang/Enum" "ordinal" "I" (.int (5 : Int32))) (F_NOT_EQUAL_minimum : Fld Z h0 a_NOT_EQUAL "com/example/selectivity/selectivity/Function" "minimum" "I" (.int (2 : Int32))) (a_LESS_OR_EQUAL : Addr) (S_LESS_OR_EQUAL : Sta Z h0 "com/example/selectivity/selectivity/Function" "LESS_OR_EQUAL" "Lcom/example/selectivity/selectivity/Function;" (.ref a_LESS_OR_EQUAL)) (E_LESS_OR_EQUAL : Exa Z h0 a_LESS_OR_EQUAL "com/example/selectivity/selectivity/Function") (F_LESS_OR_EQUAL_ordinal : Fld Z h0 a_LESS_OR_EQUAL "java/lang/Enum" "ordinal" "I" (.int (3 : Int32))) (F_LESS_OR_EQUAL_minimum : Fld Z h0 a_LESS_OR_EQUAL "com/example/selectivity/selectivity/Function" "minimum" "I" (.int (2 : Int32))) (a_GREATER_OR_EQUAL : Addr) (S_GREATER_OR_EQUAL : Sta Z h0 "com/example/selectivity/selectivity/Function" "GREATER_OR_EQUAL" "Lcom/example/selectivity/selectivity/Function;" (.ref a_GREATER_OR_EQUAL)) (E_GREATER_OR_EQUAL : Exa Z h0 a_GREATER_OR_EQUAL "com/example/selectivity/selectivity/Function") (F_GREATER_OR_EQUAL_ordinal : Fld Z h0 a_GREATER_OR_EQUAL "java/lang/Enum" "ordinal" "I" (.int (2 : Int32))) (F_GREATER_OR_EQUAL_minimum : Fld Z h0 a_GREATER_OR_EQUAL "com/example/selectivity/selectivity/Function" "minimum" "I" (.int (2 : Int32))) (a_EQ : Addr) (S_EQ : Sta Z h0 "com/example/selectivity/selectivity/Function" "EQ" "Lcom/example/selectivity/selectivity/Function;" (.ref a_EQ)) (E_EQ : Exa Z h0 a_EQ "com/example/selectivity/selectivity/Function") (F_EQ_ordinal : Fld Z h0 a_EQ "java/lang/Enum" "ordinal" "I" (.int (6 : Int32))) (F_EQ_minimum : Fld Z h0 a_EQ "com/example/selectivity/selectivity/Function" "minimum" "I" (.int (2 : Int32))) (a_NEQ : Addr) (S_NEQ : Sta Z h0 "com/example/selectivity/selectivity/Function" "NEQ" "Lcom/example/selectivity/selectivity/Function;" (.ref a_NEQ)) (E_NEQ : Exa Z h0 a_NEQ "com/example/selectivity/selectivity/Function") (F_NEQ_ordinal : Fld Z h0 a_NEQ "java/lang/Enum" "ordinal" "I" (.int (7 : Int32))) (F_NEQ_minimum : Fld Z h0 a_NEQ "com/example/selectivity/selectivity/Function" "minimum" "I" (.int (2 : Int32))) (a_OR : Addr) (S_OR : Sta Z h0 "com/example/selectivity/selectivity/Function" "OR" "Lcom/example/selectivity/selectivity/Function;" (.ref a_OR)) (E_OR : Exa Z h0 a_OR "com/example/selectivity/selectivity/Function") (F_OR_ordinal : Fld Z h0 a_OR "java/lang/Enum" "ordinal" "I" (.int (9 : Int32))) (F_OR_minimum : Fld Z h0 a_OR "com/example/selectivity/selectivity/Function" "minimum" "I" (.int (2 : Int32))) (a_EQUAL : Addr) (S_EQUAL : Sta Z h0 "com/example/selectivity/selectivity/Function" "EQUAL" "Lcom/example/selectivity/selectivity/Function;" (.ref a_EQUAL)) (E_EQUAL : Exa Z h0 a_EQUAL "com/example/selectivity/selectivity/Function") (F_EQUAL_ordinal : Fld Z h0 a_EQUAL "java/lang/Enum" "ordinal" "I" (.int (4 : Int32))) (F_EQUAL_minimum : Fld Z h0 a_EQUAL "com/example/selectivity/selectivity/Function" "minimum" "I" (.int (2 : Int32))) :
    Ctr l Z (⟨"com/example/selectivity/selectivity/FunctionTakesPinLaw", "pick", "(I)Lcom/example/selectivity/selectivity/Function;"⟩ : MethodName) method_2_code 1 (some (.object "com/example/selectivity/selectivity/Function")) ws ({ frames := 0, cells := 0, slots := 0, locals := 0 } : Room) n0 #[(.int p0)] h0 (Rt (fun w h => w = .ref (own_sel a_GREATER a_LESS a_GREATER_OR_EQUAL a_LESS_OR_EQUAL a_EQUAL a_NOT_EQUAL a_EQ a_NEQ a_AND a_OR a_NOT p0) ∧ h0 = h)) := by
  refine Ctr.of pn_com_example_selectivity_selectivity_FunctionTakesPinLaw (fun m => ef_rm1 m p0) ?_
  intro p e s m below meth c T0 X0
  refine OwnK.iloadN X0 (n := 1) d1_0 rfl rfl ?_
  refine OwnK.if_ne X0  (n1 := 8) (n2 := 4) d1_1 (by decide) rfl rfl (fun hc1 => ?_) (fun hc1 => ?_)
  · refine OwnK.iloadN X0 (n := 9) d1_8 rfl rfl ?_
    refine OwnK.iconst X0 (z := (1 : Int32)) (n := 10) d1_9 rfl rfl ?_
    refine OwnK.ic_ne X0  (n1 := 17) (n2 := 13) d1_10 (by decide) rfl rfl (fun hc10 => ?_) (fun hc10 => ?_)
    · refine OwnK.iloadN X0 (n := 18) d1_17 rfl rfl ?_
      refine OwnK.iconst X0 (z := (2 : Int32)) (n := 19) d1_18 rfl rfl ?_
      refine OwnK.ic_ne X0  (n1 := 26) (n2 := 22) d1_19 (by decide) rfl rfl (fun hc19 => ?_) (fun hc19 => ?_)
      · refine OwnK.iloadN X0 (n := 27) d1_26 rfl rfl ?_
        refine OwnK.iconst X0 (z := (3 : Int32)) (n := 28) d1_27 rfl rfl ?_
        refine OwnK.ic_ne X0  (n1 := 35) (n2 := 31) d1_28 (by decide) rfl rfl (fun hc28 => ?_) (fun hc28 => ?_)
        · refine OwnK.iloadN X0 (n := 36) d1_35 rfl rfl ?_
          refine OwnK.iconst X0 (z := (4 : Int32)) (n := 37) d1_36 rfl rfl ?_
          refine OwnK.ic_ne X0  (n1 := 44) (n2 := 40) d1_37 (by decide) rfl rfl (fun hc37 => ?_) (fun hc37 => ?_)
          · refine OwnK.iloadN X0 (n := 45) d1_44 rfl rfl ?_
            refine OwnK.iconst X0 (z := (5 : Int32)) (n := 46) d1_45 rfl rfl ?_
            refine OwnK.ic_ne X0  (n1 := 53) (n2 := 49) d1_46 (by decide) rfl rfl (fun hc46 => ?_) (fun hc46 => ?_)
            · refine OwnK.iloadN X0 (n := 54) d1_53 rfl rfl ?_
              refine OwnK.bipush X0 (z := (6 : Int32)) (n := 56) d1_54 rfl rfl ?_
              refine OwnK.ic_ne X0  (n1 := 63) (n2 := 59) d1_56 (by decide) rfl rfl (fun hc56 => ?_) (fun hc56 => ?_)
              · refine OwnK.iloadN X0 (n := 64) d1_63 rfl rfl ?_
                refine OwnK.bipush X0 (z := (7 : Int32)) (n := 66) d1_64 rfl rfl ?_
                refine OwnK.ic_ne X0  (n1 := 73) (n2 := 69) d1_66 (by decide) rfl rfl (fun hc66 => ?_) (fun hc66 => ?_)
                · refine OwnK.iloadN X0 (n := 74) d1_73 rfl rfl ?_
                  refine OwnK.bipush X0 (z := (8 : Int32)) (n := 76) d1_74 rfl rfl ?_
                  refine OwnK.ic_ne X0  (n1 := 83) (n2 := 79) d1_76 (by decide) rfl rfl (fun hc76 => ?_) (fun hc76 => ?_)
                  · refine OwnK.iloadN X0 (n := 84) d1_83 rfl rfl ?_
                    refine OwnK.bipush X0 (z := (9 : Int32)) (n := 86) d1_84 rfl rfl ?_
                    refine OwnK.ic_ne X0  (n1 := 93) (n2 := 89) d1_86 (by decide) rfl rfl (fun hc86 => ?_) (fun hc86 => ?_)
                    · refine OwnK.getstatic X0 (n := 96) d1_93 (hw _ (List.mem_of_getElem? (i := 19) rfl)) Via.refl S_NOT rfl ?_
                      intro T1 X1
                      exact OwnK.areturn X1 rfl rfl rfl d1_96 ⟨by simp [own_sel, hc1, hc10, hc19, hc28, hc37, hc46, hc56, hc66, hc76, hc86], rfl⟩ (by decide) (by decide)
                    · refine OwnK.getstatic X0 (n := 92) d1_89 (hw _ (List.mem_of_getElem? (i := 32) rfl)) Via.refl S_OR rfl ?_
                      intro T2 X2
                      exact OwnK.areturn X2 rfl rfl rfl d1_92 ⟨by simp [own_sel, hc1, hc10, hc19, hc28, hc37, hc46, hc56, hc66, hc76, hc86], rfl⟩ (by decide) (by decide)
                  · refine OwnK.getstatic X0 (n := 82) d1_79 (hw _ (List.mem_of_getElem? (i := 20) rfl)) Via.refl S_AND rfl ?_
                    intro T3 X3
                    exact OwnK.areturn X3 rfl rfl rfl d1_82 ⟨by simp [own_sel, hc1, hc10, hc19, hc28, hc37, hc46, hc56, hc66, hc76], rfl⟩ (by decide) (by decide)
                · refine OwnK.getstatic X0 (n := 72) d1_69 (hw _ (List.mem_of_getElem? (i := 30) rfl)) Via.refl S_NEQ rfl ?_
                  intro T4 X4
                  exact OwnK.areturn X4 rfl rfl rfl d1_72 ⟨by simp [own_sel, hc1, hc10, hc19, hc28, hc37, hc46, hc56, hc66], rfl⟩ (by decide) (by decide)
              · refine OwnK.getstatic X0 (n := 62) d1_59 (hw _ (List.mem_of_getElem? (i := 28) rfl)) Via.refl S_EQ rfl ?_
                intro T5 X5
                exact OwnK.areturn X5 rfl rfl rfl d1_62 ⟨by simp [own_sel, hc1, hc10, hc19, hc28, hc37, hc46, hc56], rfl⟩ (by decide) (by decide)
            · refine OwnK.getstatic X0 (n := 52) d1_49 (hw _ (List.mem_of_getElem? (i := 22) rfl)) Via.refl S_NOT_EQUAL rfl ?_
              intro T6 X6
              exact OwnK.areturn X6 rfl rfl rfl d1_52 ⟨by simp [own_sel, hc1, hc10, hc19, hc28, hc37, hc46], rfl⟩ (by decide) (by decide)
          · refine OwnK.getstatic X0 (n := 43) d1_40 (hw _ (List.mem_of_getElem? (i := 34) rfl)) Via.refl S_EQUAL rfl ?_
            intro T7 X7
            exact OwnK.areturn X7 rfl rfl rfl d1_43 ⟨by simp [own_sel, hc1, hc10, hc19, hc28, hc37], rfl⟩ (by decide) (by decide)
        · refine OwnK.getstatic X0 (n := 34) d1_31 (hw _ (List.mem_of_getElem? (i := 24) rfl)) Via.refl S_LESS_OR_EQUAL rfl ?_
          intro T8 X8
          exact OwnK.areturn X8 rfl rfl rfl d1_34 ⟨by simp [own_sel, hc1, hc10, hc19, hc28], rfl⟩ (by decide) (by decide)
      · refine OwnK.getstatic X0 (n := 25) d1_22 (hw _ (List.mem_of_getElem? (i := 26) rfl)) Via.refl S_GREATER_OR_EQUAL rfl ?_
        intro T9 X9
        exact OwnK.areturn X9 rfl rfl rfl d1_25 ⟨by simp [own_sel, hc1, hc10, hc19], rfl⟩ (by decide) (by decide)
    · refine OwnK.getstatic X0 (n := 16) d1_13 (hw _ (List.mem_of_getElem? (i := 17) rfl)) Via.refl S_LESS rfl ?_
      intro T10 X10
      exact OwnK.areturn X10 rfl rfl rfl d1_16 ⟨by simp [own_sel, hc1, hc10], rfl⟩ (by decide) (by decide)
  · refine OwnK.getstatic X0 (n := 7) d1_4 (hw _ (List.mem_of_getElem? (i := 5) rfl)) Via.refl S_GREATER rfl ?_
    intro T11 X11
    exact OwnK.areturn X11 rfl rfl rfl d1_7 ⟨by simp [own_sel, hc1], rfl⟩ (by decide) (by decide)
theorem pn_com_example_selectivity_selectivity_Function : plainName "com/example/selectivity/selectivity/Function" = true := by first | (simp [plainName, overriddenIn]; done) | decide +kernel
theorem d2_0 : decode prog_14_method_7_code 0 = .ok (.aload_n 0, 1) := by decide +kernel
theorem d2_1 : decode prog_14_method_7_code 1 = .ok (.getstatic 34, 3) := by decide +kernel
theorem d2_4 : decode prog_14_method_7_code 4 = .ok (.if_acmp .ne 19, 3) := by decide +kernel
theorem d2_7 : decode prog_14_method_7_code 7 = .ok (.iload_n 1, 1) := by decide +kernel
theorem d2_8 : decode prog_14_method_7_code 8 = .ok (.aload_n 0, 1) := by decide +kernel
theorem d2_9 : decode prog_14_method_7_code 9 = .ok (.getfield 67, 3) := by decide +kernel
theorem d2_12 : decode prog_14_method_7_code 12 = .ok (.if_icmp .ne 7, 3) := by decide +kernel
theorem d2_15 : decode prog_14_method_7_code 15 = .ok (.iconst 1, 1) := by decide +kernel
theorem d2_16 : decode prog_14_method_7_code 16 = .ok (.goto 20, 3) := by decide +kernel
theorem d2_19 : decode prog_14_method_7_code 19 = .ok (.iconst 0, 1) := by decide +kernel
theorem d2_20 : decode prog_14_method_7_code 20 = .ok (.goto 16, 3) := by decide +kernel
theorem d2_23 : decode prog_14_method_7_code 23 = .ok (.iload_n 1, 1) := by decide +kernel
theorem d2_24 : decode prog_14_method_7_code 24 = .ok (.aload_n 0, 1) := by decide +kernel
theorem d2_25 : decode prog_14_method_7_code 25 = .ok (.getfield 67, 3) := by decide +kernel
theorem d2_28 : decode prog_14_method_7_code 28 = .ok (.if_icmp .lt 7, 3) := by decide +kernel
theorem d2_31 : decode prog_14_method_7_code 31 = .ok (.iconst 1, 1) := by decide +kernel
theorem d2_32 : decode prog_14_method_7_code 32 = .ok (.goto 4, 3) := by decide +kernel
theorem d2_35 : decode prog_14_method_7_code 35 = .ok (.iconst 0, 1) := by decide +kernel
theorem d2_36 : decode prog_14_method_7_code 36 = .ok (.ireturn, 1) := by decide +kernel
theorem ef_rm2 (m : MethodId) (r0 : Addr) (p1 : Int32) : entryFrame m #[(.ref r0), (.int p1)] 2 = mkF m 0 #[.val (.ref r0), .val (.int p1)] [] := by first | (simp [entryFrame, mkF, argsToLocals, Value.category]; done) | rfl
set_option maxRecDepth 65536 in
set_option maxHeartbeats 40000000 in
theorem rm2 (l : Launch) (Z : State) (a0 : Array Value) (hw : ∀ d ∈ tables_1, d.before a0 Z = true) (ws : List Jvm.Cond) (r0 : Addr) (p1 : Int32) (h0 : Heap) (n0 : Nat) (a_GREATER : Addr) (S_GREATER : Sta Z h0 "com/example/selectivity/selectivity/Function" "GREATER" "Lcom/example/selectivity/selectivity/Function;" (.ref a_GREATER)) (E_GREATER : Exa Z h0 a_GREATER "com/example/selectivity/selectivity/Function") (a_NOT : Addr) (S_NOT : Sta Z h0 "com/example/selectivity/selectivity/Function" "NOT" "Lcom/example/selectivity/selectivity/Function;" (.ref a_NOT)) (E_NOT : Exa Z h0 a_NOT "com/example/selectivity/selectivity/Function") (F_GREATER_ordinal : Fld Z h0 a_GREATER "java/lang/Enum" "ordinal" "I" (.int (0 : Int32))) (F_NOT_ordinal : Fld Z h0 a_NOT "java/lang/Enum" "ordinal" "I" (.int (10 : Int32))) (F_GREATER_minimum : Fld Z h0 a_GREATER "com/example/selectivity/selectivity/Function" "minimum" "I" (.int (2 : Int32))) (a_LESS : Addr) (S_LESS : Sta Z h0 "com/example/selectivity/selectivity/Function" "LESS" "Lcom/example/selectivity/selectivity/Function;" (.ref a_LESS)) (E_LESS : Exa Z h0 a_LESS "com/example/selectivity/selectivity/Function") (F_LESS_ordinal : Fld Z h0 a_LESS "java/lang/Enum" "ordinal" "I" (.int (1 : Int32))) (F_LESS_minimum : Fld Z h0 a_LESS "com/example/selectivity/selectivity/Function" "minimum" "I" (.int (2 : Int32))) (F_NOT_minimum : Fld Z h0 a_NOT "com/example/selectivity/selectivity/Function" "minimum" "I" (.int (1 : Int32))) (a_AND : Addr) (S_AND : Sta Z h0 "com/example/selectivity/selectivity/Function" "AND" "Lcom/example/selectivity/selectivity/Function;" (.ref a_AND)) (E_AND : Exa Z h0 a_AND "com/example/selectivity/selectivity/Function") (F_AND_ordinal : Fld Z h0 a_AND "java/lang/Enum" "ordinal" "I" (.int (8 : Int32))) (F_AND_minimum : Fld Z h0 a_AND "com/example/selectivity/selectivity/Function" "minimum" "I" (.int (2 : Int32))) (a_NOT_EQUAL : Addr) (S_NOT_EQUAL : Sta Z h0 "com/example/selectivity/selectivity/Function" "NOT_EQUAL" "Lcom/example/selectivity/selectivity/Function;" (.ref a_NOT_EQUAL)) (E_NOT_EQUAL : Exa Z h0 a_NOT_EQUAL "com/example/selectivity/selectivity/Function") (F_NOT_EQUAL_ordinal : Fld Z h0 a_NOT_EQUAL "java/lang/Enum" "ordinal" "I" (.int (5 : Int32))) (F_NOT_EQUAL_minimum : Fld Z h0 a_NOT_EQUAL "com/example/selectivity/selectivity/Function" "minimum" "I" (.int (2 : Int32))) (a_LESS_OR_EQUAL : Addr) (S_LESS_OR_EQUAL : Sta Z h0 "com/example/selectivity/selectivity/Function" "LESS_OR_EQUAL" "Lcom/example/selectivity/selectivity/Function;" (.ref a_LESS_OR_EQUAL)) (E_LESS_OR_EQUAL : Exa Z h0 a_LESS_OR_EQUAL "com/example/selectivity/selectivity/Function") (F_LESS_OR_EQUAL_ordinal : Fld Z h0 a_LESS_OR_EQUAL "java/lang/Enum" "ordinal" "I" (.int (3 : Int32))) (F_LESS_OR_EQUAL_minimum : Fld Z h0 a_LESS_OR_EQUAL "com/example/selectivity/selectivity/Function" "minimum" "I" (.int (2 : Int32))) (a_GREATER_OR_EQUAL : Addr) (S_GREATER_OR_EQUAL : Sta Z h0 "com/example/selectivity/selectivity/Function" "GREATER_OR_EQUAL" "Lcom/example/selectivity/selectivity/Function;" (.ref a_GREATER_OR_EQUAL)) (E_GREATER_OR_EQUAL : Exa Z h0 a_GREATER_OR_EQUAL "com/example/selectivity/selectivity/Function") (F_GREATER_OR_EQUAL_ordinal : Fld Z h0 a_GREATER_OR_EQUAL "java/lang/Enum" "ordinal" "I" (.int (2 : Int32))) (F_GREATER_OR_EQUAL_minimum : Fld Z h0 a_GREATER_OR_EQUAL "com/example/selectivity/selectivity/Function" "minimum" "I" (.int (2 : Int32))) (a_EQ : Addr) (S_EQ : Sta Z h0 "com/example/selectivity/selectivity/Function" "EQ" "Lcom/example/selectivity/selectivity/Function;" (.ref a_EQ)) (E_EQ : Exa Z h0 a_EQ "com/example/selectivity/selectivity/Function") (F_EQ_ordinal : Fld Z h0 a_EQ "java/lang/Enum" "ordinal" "I" (.int (6 : Int32))) (F_EQ_minimum : Fld Z h0 a_EQ "com/example/selectivity/selectivity/Function" "minimum" "I" (.int (2 : Int32))) (a_NEQ : Addr) (S_NEQ : Sta Z h0 "com/example/selectivity/selectivity/Function" "NEQ" "Lcom/example/selectivity/selectivity/Function;" (.ref a_NEQ)) (E_NEQ : Exa Z h0 a_NEQ "com/example/selectivity/selectivity/Function") (F_NEQ_ordinal : Fld Z h0 a_NEQ "java/lang/Enum" "ordinal" "I" (.int (7 : Int32))) (F_NEQ_minimum : Fld Z h0 a_NEQ "com/example/selectivity/selectivity/Function" "minimum" "I" (.int (2 : Int32))) (a_OR : Addr) (S_OR : Sta Z h0 "com/example/selectivity/selectivity/Function" "OR" "Lcom/example/selectivity/selectivity/Function;" (.ref a_OR)) (E_OR : Exa Z h0 a_OR "com/example/selectivity/selectivity/Function") (F_OR_ordinal : Fld Z h0 a_OR "java/lang/Enum" "ordinal" "I" (.int (9 : Int32))) (F_OR_minimum : Fld Z h0 a_OR "com/example/selectivity/selectivity/Function" "minimum" "I" (.int (2 : Int32))) (a_EQUAL : Addr) (S_EQUAL : Sta Z h0 "com/example/selectivity/selectivity/Function" "EQUAL" "Lcom/example/selectivity/selectivity/Function;" (.ref a_EQUAL)) (E_EQUAL : Exa Z h0 a_EQUAL "com/example/selectivity/selectivity/Function") (F_EQUAL_ordinal : Fld Z h0 a_EQUAL "java/lang/Enum" "ordinal" "I" (.int (4 : Int32))) (F_EQUAL_minimum : Fld Z h0 a_EQUAL "com/example/selectivity/selectivity/Function" "minimum" "I" (.int (2 : Int32))) (mi : Int32) (Fm : Fld Z h0 r0 "com/example/selectivity/selectivity/Function" "minimum" "I" (.int mi)) :
    Ctr l Z (⟨"com/example/selectivity/selectivity/Function", "takes", "(I)Z"⟩ : MethodName) prog_14_method_7_code 2 (some .boolean) ws ({ frames := 0, cells := 0, slots := 0, locals := 0 } : Room) n0 #[(.ref r0), (.int p1)] h0 (Rt (fun w h => w = .int (if r0 = a_NOT then (if p1 = mi then 1 else 0) else (if p1 < mi then 0 else 1)) ∧ h0 = h)) := by
  refine Ctr.of pn_com_example_selectivity_selectivity_Function (fun m => ef_rm2 m r0 p1) ?_
  intro p e s m below meth c T0 X0
  refine OwnK.aloadN X0 (n := 1) d2_0 rfl rfl rfl ?_
  refine OwnK.getstatic X0 (n := 4) d2_1 (hw _ (List.mem_of_getElem? (i := 13) rfl)) Via.refl S_NOT rfl ?_
  intro T1 X1
  refine OwnK.ac_ne X1 (n1 := 23) (n2 := 7) d2_4 rfl rfl (by decide) rfl rfl (fun hc4 => ?_) (fun hc4 => ?_)
  · refine OwnK.iloadN X1 (n := 24) d2_23 rfl rfl ?_
    refine OwnK.aloadN X1 (n := 25) d2_24 rfl rfl rfl ?_
    refine OwnK.getfield X1 (n := 28) d2_25 (hw _ (List.mem_of_getElem? (i := 15) rfl)) Via.refl Fm rfl ?_
    intro T2 X2
    refine OwnK.ic_lt X2  (n1 := 35) (n2 := 31) d2_28 (by decide) rfl rfl (fun hc28 => ?_) (fun hc28 => ?_)
    · refine OwnK.iconst X2 (z := (0 : Int32)) (n := 36) d2_35 rfl rfl ?_
      exact OwnK.ireturn X2 rfl (Or.inr (Or.inl rfl)) rfl d2_36 ⟨by simp only [Value.ref.injEq] at hc4; simp [hc4, hc28], rfl⟩ (by decide) (by decide)
    · refine OwnK.iconst X2 (z := (1 : Int32)) (n := 32) d2_31 rfl rfl ?_
      refine OwnK.goto X2 (n := 36) d2_32 (by decide) rfl ?_
      exact OwnK.ireturn X2 rfl (Or.inr (Or.inl rfl)) rfl d2_36 ⟨by simp only [Value.ref.injEq] at hc4; simp [hc4, hc28], rfl⟩ (by decide) (by decide)
  · refine OwnK.iloadN X1 (n := 8) d2_7 rfl rfl ?_
    refine OwnK.aloadN X1 (n := 9) d2_8 rfl rfl rfl ?_
    refine OwnK.getfield X1 (n := 12) d2_9 (hw _ (List.mem_of_getElem? (i := 15) rfl)) Via.refl Fm rfl ?_
    intro T3 X3
    refine OwnK.ic_ne X3  (n1 := 19) (n2 := 15) d2_12 (by decide) rfl rfl (fun hc12 => ?_) (fun hc12 => ?_)
    · refine OwnK.iconst X3 (z := (0 : Int32)) (n := 20) d2_19 rfl rfl ?_
      refine OwnK.goto X3 (n := 36) d2_20 (by decide) rfl ?_
      exact OwnK.ireturn X3 rfl (Or.inr (Or.inl rfl)) rfl d2_36 ⟨by simp only [Value.ref.injEq] at hc4; simp [hc4, hc12], rfl⟩ (by decide) (by decide)
    · refine OwnK.iconst X3 (z := (1 : Int32)) (n := 16) d2_15 rfl rfl ?_
      refine OwnK.goto X3 (n := 36) d2_16 (by decide) rfl ?_
      exact OwnK.ireturn X3 rfl (Or.inr (Or.inl rfl)) rfl d2_36 ⟨by simp only [Value.ref.injEq] at hc4; simp [hc4, hc12], rfl⟩ (by decide) (by decide)
theorem pd__I_Lcom_example_selectivity_selectivity_Function_ : parseMethodDescriptor "(I)Lcom/example/selectivity/selectivity/Function;" = some ⟨[.int], some (.object "com/example/selectivity/selectivity/Function")⟩ := by decide +kernel
theorem pd__I_Z : parseMethodDescriptor "(I)Z" = some ⟨[.int], some .boolean⟩ := by decide +kernel
theorem ef_rm0 (m : MethodId) (p0 : Int32) (p1 : Int32) (p2 : Int32) : entryFrame m #[(.int p0), (.int p1), (.int p2)] maxLocals = mkF m 0 #[.val (.int p0), .val (.int p1), .val (.int p2), .unset, .unset, .unset, .unset] [] := by first | (simp [entryFrame, mkF, argsToLocals, Value.category, maxLocals]; done) | rfl
set_option maxRecDepth 65536 in
set_option maxHeartbeats 40000000 in
theorem rm0 (l : Launch) (Z : State) (a0 : Array Value) (hw : ∀ d ∈ tables_1, d.before a0 Z = true) (ws : List Jvm.Cond) (p0 : Int32) (p1 : Int32) (p2 : Int32) (h0 : Heap) (n0 : Nat) (a_GREATER : Addr) (S_GREATER : Sta Z h0 "com/example/selectivity/selectivity/Function" "GREATER" "Lcom/example/selectivity/selectivity/Function;" (.ref a_GREATER)) (E_GREATER : Exa Z h0 a_GREATER "com/example/selectivity/selectivity/Function") (a_NOT : Addr) (S_NOT : Sta Z h0 "com/example/selectivity/selectivity/Function" "NOT" "Lcom/example/selectivity/selectivity/Function;" (.ref a_NOT)) (E_NOT : Exa Z h0 a_NOT "com/example/selectivity/selectivity/Function") (F_GREATER_ordinal : Fld Z h0 a_GREATER "java/lang/Enum" "ordinal" "I" (.int (0 : Int32))) (F_NOT_ordinal : Fld Z h0 a_NOT "java/lang/Enum" "ordinal" "I" (.int (10 : Int32))) (F_GREATER_minimum : Fld Z h0 a_GREATER "com/example/selectivity/selectivity/Function" "minimum" "I" (.int (2 : Int32))) (a_LESS : Addr) (S_LESS : Sta Z h0 "com/example/selectivity/selectivity/Function" "LESS" "Lcom/example/selectivity/selectivity/Function;" (.ref a_LESS)) (E_LESS : Exa Z h0 a_LESS "com/example/selectivity/selectivity/Function") (F_LESS_ordinal : Fld Z h0 a_LESS "java/lang/Enum" "ordinal" "I" (.int (1 : Int32))) (F_LESS_minimum : Fld Z h0 a_LESS "com/example/selectivity/selectivity/Function" "minimum" "I" (.int (2 : Int32))) (F_NOT_minimum : Fld Z h0 a_NOT "com/example/selectivity/selectivity/Function" "minimum" "I" (.int (1 : Int32))) (a_AND : Addr) (S_AND : Sta Z h0 "com/example/selectivity/selectivity/Function" "AND" "Lcom/example/selectivity/selectivity/Function;" (.ref a_AND)) (E_AND : Exa Z h0 a_AND "com/example/selectivity/selectivity/Function") (F_AND_ordinal : Fld Z h0 a_AND "java/lang/Enum" "ordinal" "I" (.int (8 : Int32))) (F_AND_minimum : Fld Z h0 a_AND "com/example/selectivity/selectivity/Function" "minimum" "I" (.int (2 : Int32))) (a_NOT_EQUAL : Addr) (S_NOT_EQUAL : Sta Z h0 "com/example/selectivity/selectivity/Function" "NOT_EQUAL" "Lcom/example/selectivity/selectivity/Function;" (.ref a_NOT_EQUAL)) (E_NOT_EQUAL : Exa Z h0 a_NOT_EQUAL "com/example/selectivity/selectivity/Function") (F_NOT_EQUAL_ordinal : Fld Z h0 a_NOT_EQUAL "java/lang/Enum" "ordinal" "I" (.int (5 : Int32))) (F_NOT_EQUAL_minimum : Fld Z h0 a_NOT_EQUAL "com/example/selectivity/selectivity/Function" "minimum" "I" (.int (2 : Int32))) (a_LESS_OR_EQUAL : Addr) (S_LESS_OR_EQUAL : Sta Z h0 "com/example/selectivity/selectivity/Function" "LESS_OR_EQUAL" "Lcom/example/selectivity/selectivity/Function;" (.ref a_LESS_OR_EQUAL)) (E_LESS_OR_EQUAL : Exa Z h0 a_LESS_OR_EQUAL "com/example/selectivity/selectivity/Function") (F_LESS_OR_EQUAL_ordinal : Fld Z h0 a_LESS_OR_EQUAL "java/lang/Enum" "ordinal" "I" (.int (3 : Int32))) (F_LESS_OR_EQUAL_minimum : Fld Z h0 a_LESS_OR_EQUAL "com/example/selectivity/selectivity/Function" "minimum" "I" (.int (2 : Int32))) (a_GREATER_OR_EQUAL : Addr) (S_GREATER_OR_EQUAL : Sta Z h0 "com/example/selectivity/selectivity/Function" "GREATER_OR_EQUAL" "Lcom/example/selectivity/selectivity/Function;" (.ref a_GREATER_OR_EQUAL)) (E_GREATER_OR_EQUAL : Exa Z h0 a_GREATER_OR_EQUAL "com/example/selectivity/selectivity/Function") (F_GREATER_OR_EQUAL_ordinal : Fld Z h0 a_GREATER_OR_EQUAL "java/lang/Enum" "ordinal" "I" (.int (2 : Int32))) (F_GREATER_OR_EQUAL_minimum : Fld Z h0 a_GREATER_OR_EQUAL "com/example/selectivity/selectivity/Function" "minimum" "I" (.int (2 : Int32))) (a_EQ : Addr) (S_EQ : Sta Z h0 "com/example/selectivity/selectivity/Function" "EQ" "Lcom/example/selectivity/selectivity/Function;" (.ref a_EQ)) (E_EQ : Exa Z h0 a_EQ "com/example/selectivity/selectivity/Function") (F_EQ_ordinal : Fld Z h0 a_EQ "java/lang/Enum" "ordinal" "I" (.int (6 : Int32))) (F_EQ_minimum : Fld Z h0 a_EQ "com/example/selectivity/selectivity/Function" "minimum" "I" (.int (2 : Int32))) (a_NEQ : Addr) (S_NEQ : Sta Z h0 "com/example/selectivity/selectivity/Function" "NEQ" "Lcom/example/selectivity/selectivity/Function;" (.ref a_NEQ)) (E_NEQ : Exa Z h0 a_NEQ "com/example/selectivity/selectivity/Function") (F_NEQ_ordinal : Fld Z h0 a_NEQ "java/lang/Enum" "ordinal" "I" (.int (7 : Int32))) (F_NEQ_minimum : Fld Z h0 a_NEQ "com/example/selectivity/selectivity/Function" "minimum" "I" (.int (2 : Int32))) (a_OR : Addr) (S_OR : Sta Z h0 "com/example/selectivity/selectivity/Function" "OR" "Lcom/example/selectivity/selectivity/Function;" (.ref a_OR)) (E_OR : Exa Z h0 a_OR "com/example/selectivity/selectivity/Function") (F_OR_ordinal : Fld Z h0 a_OR "java/lang/Enum" "ordinal" "I" (.int (9 : Int32))) (F_OR_minimum : Fld Z h0 a_OR "com/example/selectivity/selectivity/Function" "minimum" "I" (.int (2 : Int32))) (a_EQUAL : Addr) (S_EQUAL : Sta Z h0 "com/example/selectivity/selectivity/Function" "EQUAL" "Lcom/example/selectivity/selectivity/Function;" (.ref a_EQUAL)) (E_EQUAL : Exa Z h0 a_EQUAL "com/example/selectivity/selectivity/Function") (F_EQUAL_ordinal : Fld Z h0 a_EQUAL "java/lang/Enum" "ordinal" "I" (.int (4 : Int32))) (F_EQUAL_minimum : Fld Z h0 a_EQUAL "com/example/selectivity/selectivity/Function" "minimum" "I" (.int (2 : Int32))) :
    Ctr l Z x code maxLocals ret ws room_1 n0 #[(.int p0), (.int p1), (.int p2)] h0 (Rt (fun w h => w = .int 1)) := by
  refine Ctr.of pn_com_example_selectivity_selectivity_FunctionTakesPinLaw (fun m => ef_rm0 m p0 p1 p2) ?_
  intro p e s m below meth c T0 X0
  refine OwnK.iloadN X0 (n := 1) at_0 rfl rfl ?_
  refine OwnK.ldc X0 (n := 3) at_1 (hw _ (List.mem_of_getElem? (i := 0) rfl)) rfl ?_
  refine OwnK.iand X0 (n := 4) at_3 rfl ?_
  refine OwnK.bipush X0 (z := (11 : Int32)) (n := 6) at_4 rfl rfl ?_
  refine OwnK.irem X0 (n := 7) at_6 (by decide) rfl ?_
  refine OwnK.istoreN X0 (l' := #[.val (.int p0), .val (.int p1), .val (.int p2), .val (.int ((p0 &&& (2147483647 : Int32)) % (11 : Int32))), .unset, .unset, .unset]) (n := 8) at_7 rfl rfl ?_
  refine OwnK.iloadN X0 (n := 9) at_8 rfl rfl ?_
  refine OwnK.call_static_v X0 (z := (⟨"com/example/selectivity/selectivity/FunctionTakesPinLaw", "pick", "(I)Lcom/example/selectivity/selectivity/Function;"⟩ : MethodName)) (n := 12) at_9 (hw _ (List.mem_of_getElem? (i := 1) rfl)) (hw _ (List.mem_of_getElem? (i := 2) rfl)) (hw _ (List.mem_of_getElem? (i := 4) rfl)) (hw _ (List.mem_of_getElem? (i := 3) rfl)) (by decide) (rm1 l Z a0 hw [] ((p0 &&& (2147483647 : Int32)) % (11 : Int32)) h0 n0 a_GREATER S_GREATER E_GREATER a_NOT S_NOT E_NOT F_GREATER_ordinal F_NOT_ordinal F_GREATER_minimum a_LESS S_LESS E_LESS F_LESS_ordinal F_LESS_minimum F_NOT_minimum a_AND S_AND E_AND F_AND_ordinal F_AND_minimum a_NOT_EQUAL S_NOT_EQUAL E_NOT_EQUAL F_NOT_EQUAL_ordinal F_NOT_EQUAL_minimum a_LESS_OR_EQUAL S_LESS_OR_EQUAL E_LESS_OR_EQUAL F_LESS_OR_EQUAL_ordinal F_LESS_OR_EQUAL_minimum a_GREATER_OR_EQUAL S_GREATER_OR_EQUAL E_GREATER_OR_EQUAL F_GREATER_OR_EQUAL_ordinal F_GREATER_OR_EQUAL_minimum a_EQ S_EQ E_EQ F_EQ_ordinal F_EQ_minimum a_NEQ S_NEQ E_NEQ F_NEQ_ordinal F_NEQ_minimum a_OR S_OR E_OR F_OR_ordinal F_OR_minimum a_EQUAL S_EQUAL E_EQUAL F_EQUAL_ordinal F_EQUAL_minimum) (argsL := [(.int ((p0 &&& (2147483647 : Int32)) % (11 : Int32)))]) (rest := []) rfl rfl (OwnK.lenA pd__I_Lcom_example_selectivity_selectivity_Function_ rfl) (W := 0) (Nat.le_of_eq rfl) (by decide) (by decide) (by decide) (by decide) rfl ?_
  intro T1 h1 w1 X1 ⟨q1, q2⟩
  subst q1 q2
  have Esel : Exa Z h0 (own_sel a_GREATER a_LESS a_GREATER_OR_EQUAL a_LESS_OR_EQUAL a_EQUAL a_NOT_EQUAL a_EQ a_NEQ a_AND a_OR a_NOT ((p0 &&& (2147483647 : Int32)) % (11 : Int32))) "com/example/selectivity/selectivity/Function" := by rcases own_cases p0 with q | q | q | q | q | q | q | q | q | q | q <;> rw [q] <;> simp only [own_sel] <;> first | exact E_GREATER | exact E_LESS | exact E_GREATER_OR_EQUAL | exact E_LESS_OR_EQUAL | exact E_EQUAL | exact E_NOT_EQUAL | exact E_EQ | exact E_NEQ | exact E_AND | exact E_OR | exact E_NOT
  have Fsel : Fld Z h0 (own_sel a_GREATER a_LESS a_GREATER_OR_EQUAL a_LESS_OR_EQUAL a_EQUAL a_NOT_EQUAL a_EQ a_NEQ a_AND a_OR a_NOT ((p0 &&& (2147483647 : Int32)) % (11 : Int32))) "com/example/selectivity/selectivity/Function" "minimum" "I" (.int (if ((p0 &&& (2147483647 : Int32)) % (11 : Int32)) = 10 then 1 else 2)) := by rcases own_cases p0 with q | q | q | q | q | q | q | q | q | q | q <;> rw [q] <;> simp only [own_sel] <;> first | exact F_GREATER_minimum | exact F_LESS_minimum | exact F_GREATER_OR_EQUAL_minimum | exact F_LESS_OR_EQUAL_minimum | exact F_EQUAL_minimum | exact F_NOT_EQUAL_minimum | exact F_EQ_minimum | exact F_NEQ_minimum | exact F_AND_minimum | exact F_OR_minimum | exact F_NOT_minimum
  refine OwnK.astore X1 (l' := #[.val (.int p0), .val (.int p1), .val (.int p2), .val (.int ((p0 &&& (2147483647 : Int32)) % (11 : Int32))), .val (.ref (own_sel a_GREATER a_LESS a_GREATER_OR_EQUAL a_LESS_OR_EQUAL a_EQUAL a_NOT_EQUAL a_EQ a_NEQ a_AND a_OR a_NOT ((p0 &&& (2147483647 : Int32)) % (11 : Int32)))), .unset, .unset]) (n := 14) at_12 rfl rfl rfl ?_
  refine OwnK.iloadN X1 (n := 15) at_14 rfl rfl ?_
  refine OwnK.iconst X1 (z := (1 : Int32)) (n := 16) at_15 rfl rfl ?_
  refine OwnK.iand X1 (n := 17) at_16 rfl ?_
  refine OwnK.joinT X1 (fun (ct : Int32) => True) (fun (ct : Int32) => mkF m 27 #[.val (.int p0), .val (.int p1), .val (.int p2), .val (.int ((p0 &&& (2147483647 : Int32)) % (11 : Int32))), .val (.ref (own_sel a_GREATER a_LESS a_GREATER_OR_EQUAL a_LESS_OR_EQUAL a_EQUAL a_NOT_EQUAL a_EQ a_NEQ a_AND a_OR a_NOT ((p0 &&& (2147483647 : Int32)) % (11 : Int32)))), .unset, .unset] [(.int ct)]) ?_ ?_
  · intro T2 ct X2 hj27
    refine OwnK.istore X2 (l' := #[.val (.int p0), .val (.int p1), .val (.int p2), .val (.int ((p0 &&& (2147483647 : Int32)) % (11 : Int32))), .val (.ref (own_sel a_GREATER a_LESS a_GREATER_OR_EQUAL a_LESS_OR_EQUAL a_EQUAL a_NOT_EQUAL a_EQ a_NEQ a_AND a_OR a_NOT ((p0 &&& (2147483647 : Int32)) % (11 : Int32)))), .val (.int ct), .unset]) (n := 29) at_27 rfl rfl ?_
    refine OwnK.iloadN X2 (n := 30) at_29 rfl rfl ?_
    refine OwnK.bipush X2 (z := (10 : Int32)) (n := 32) at_30 rfl rfl ?_
    refine OwnK.joinT X2 (fun (ex : Int32) => ex = (if ((p0 &&& (2147483647 : Int32)) % (11 : Int32)) = 10 then (if ct = 1 then 1 else 0) else (if ct < 2 then 0 else 1))) (fun (ex : Int32) => mkF m 64 #[.val (.int p0), .val (.int p1), .val (.int p2), .val (.int ((p0 &&& (2147483647 : Int32)) % (11 : Int32))), .val (.ref (own_sel a_GREATER a_LESS a_GREATER_OR_EQUAL a_LESS_OR_EQUAL a_EQUAL a_NOT_EQUAL a_EQ a_NEQ a_AND a_OR a_NOT ((p0 &&& (2147483647 : Int32)) % (11 : Int32)))), .val (.int ct), .val (.int ex)] []) ?_ ?_
    · intro T3 ex X3 hj64
      refine OwnK.aload X3 (n := 66) at_64 rfl rfl rfl ?_
      refine OwnK.iload X3 (n := 68) at_66 rfl rfl ?_
      refine OwnK.call_virtual_v X3 (z := (⟨"com/example/selectivity/selectivity/Function", "takes", "(I)Z"⟩ : MethodName)) (yv := (⟨"com/example/selectivity/selectivity/Function", "takes", "(I)Z"⟩ : MethodName)) (a := (own_sel a_GREATER a_LESS a_GREATER_OR_EQUAL a_LESS_OR_EQUAL a_EQUAL a_NOT_EQUAL a_EQ a_NEQ a_AND a_OR a_NOT ((p0 &&& (2147483647 : Int32)) % (11 : Int32)))) (C := "com/example/selectivity/selectivity/Function") (n := 71) at_68 (hw _ (List.mem_of_getElem? (i := 8) rfl)) (hw _ (List.mem_of_getElem? (i := 9) rfl)) (hw _ (List.mem_of_getElem? (i := 10) rfl)) (hw _ (List.mem_of_getElem? (i := 11) rfl)) (fun hz => notFace_of_selects (args := #[]) (mvT hz (hw _ (List.mem_of_getElem? (i := 11) rfl)))) (hw _ (List.mem_of_getElem? (i := 12) rfl)) (hw _ (List.mem_of_getElem? (i := 6) rfl)) (by decide) Esel (rm2 l Z a0 hw [] (own_sel a_GREATER a_LESS a_GREATER_OR_EQUAL a_LESS_OR_EQUAL a_EQUAL a_NOT_EQUAL a_EQ a_NEQ a_AND a_OR a_NOT ((p0 &&& (2147483647 : Int32)) % (11 : Int32))) ct h0 n0 a_GREATER S_GREATER E_GREATER a_NOT S_NOT E_NOT F_GREATER_ordinal F_NOT_ordinal F_GREATER_minimum a_LESS S_LESS E_LESS F_LESS_ordinal F_LESS_minimum F_NOT_minimum a_AND S_AND E_AND F_AND_ordinal F_AND_minimum a_NOT_EQUAL S_NOT_EQUAL E_NOT_EQUAL F_NOT_EQUAL_ordinal F_NOT_EQUAL_minimum a_LESS_OR_EQUAL S_LESS_OR_EQUAL E_LESS_OR_EQUAL F_LESS_OR_EQUAL_ordinal F_LESS_OR_EQUAL_minimum a_GREATER_OR_EQUAL S_GREATER_OR_EQUAL E_GREATER_OR_EQUAL F_GREATER_OR_EQUAL_ordinal F_GREATER_OR_EQUAL_minimum a_EQ S_EQ E_EQ F_EQ_ordinal F_EQ_minimum a_NEQ S_NEQ E_NEQ F_NEQ_ordinal F_NEQ_minimum a_OR S_OR E_OR F_OR_ordinal F_OR_minimum a_EQUAL S_EQUAL E_EQUAL F_EQUAL_ordinal F_EQUAL_minimum _ Fsel) (argsL := [(.int ct)]) (rest := []) rfl rfl (OwnK.lenA pd__I_Z rfl) (W := 0) (Nat.le_of_eq rfl) (by decide) (by decide) (by decide) (by decide) rfl ?_
      intro T4 h4 w4 X4 ⟨q1, q2⟩
      subst q1 q2
      have heq : (if (own_sel a_GREATER a_LESS a_GREATER_OR_EQUAL a_LESS_OR_EQUAL a_EQUAL a_NOT_EQUAL a_EQ a_NEQ a_AND a_OR a_NOT ((p0 &&& (2147483647 : Int32)) % (11 : Int32))) = a_NOT then (if ct = (if ((p0 &&& (2147483647 : Int32)) % (11 : Int32)) = 10 then 1 else 2) then 1 else 0) else (if ct < (if ((p0 &&& (2147483647 : Int32)) % (11 : Int32)) = 10 then 1 else 2) then 0 else 1)) = ex := by
        rw [hj64]; rcases own_cases p0 with q | q | q | q | q | q | q | q | q | q | q <;> rw [q] <;> simp [own_sel, Fld.ne F_GREATER_ordinal F_NOT_ordinal (by decide), Fld.ne F_LESS_ordinal F_NOT_ordinal (by decide), Fld.ne F_GREATER_OR_EQUAL_ordinal F_NOT_ordinal (by decide), Fld.ne F_LESS_OR_EQUAL_ordinal F_NOT_ordinal (by decide), Fld.ne F_EQUAL_ordinal F_NOT_ordinal (by decide), Fld.ne F_NOT_EQUAL_ordinal F_NOT_ordinal (by decide), Fld.ne F_EQ_ordinal F_NOT_ordinal (by decide), Fld.ne F_NEQ_ordinal F_NOT_ordinal (by decide), Fld.ne F_AND_ordinal F_NOT_ordinal (by decide), Fld.ne F_OR_ordinal F_NOT_ordinal (by decide)]
      refine OwnK.iload X4 (n := 73) at_71 rfl rfl ?_
      refine OwnK.ic_ne X4  (n1 := 80) (n2 := 76) at_73 (by decide) rfl rfl (fun q => absurd (heq : (if (own_sel a_GREATER a_LESS a_GREATER_OR_EQUAL a_LESS_OR_EQUAL a_EQUAL a_NOT_EQUAL a_EQ a_NEQ a_AND a_OR a_NOT ((p0 &&& (2147483647 : Int32)) % (11 : Int32))) = a_NOT then (if ct = (if ((p0 &&& (2147483647 : Int32)) % (11 : Int32)) = 10 then 1 else 2) then 1 else 0) else (if ct < (if ((p0 &&& (2147483647 : Int32)) % (11 : Int32)) = 10 then 1 else 2) then 0 else 1)) = ex) q) (fun _ => ?_)
      refine OwnK.iconst X4 (z := (1 : Int32)) (n := 77) at_76 rfl rfl ?_
      refine OwnK.goto X4 (n := 81) at_77 (by decide) rfl ?_
      exact OwnK.ireturn X4 rfl (Or.inr (Or.inl rfl)) rfl at_81 rfl (by decide) (by decide)
    · intro J3
      refine OwnK.ic_ne X2  (n1 := 51) (n2 := 35) at_32 (by decide) rfl rfl (fun hc32 => ?_) (fun hc32 => ?_)
      · refine OwnK.iload X2 (n := 53) at_51 rfl rfl ?_
        refine OwnK.iconst X2 (z := (2 : Int32)) (n := 54) at_53 rfl rfl ?_
        refine OwnK.ic_lt X2  (n1 := 61) (n2 := 57) at_54 (by decide) rfl rfl (fun hc54 => ?_) (fun hc54 => ?_)
        · refine OwnK.iconst X2 (z := (0 : Int32)) (n := 62) at_61 rfl rfl ?_
          refine OwnK.istore X2 (l' := #[.val (.int p0), .val (.int p1), .val (.int p2), .val (.int ((p0 &&& (2147483647 : Int32)) % (11 : Int32))), .val (.ref (own_sel a_GREATER a_LESS a_GREATER_OR_EQUAL a_LESS_OR_EQUAL a_EQUAL a_NOT_EQUAL a_EQ a_NEQ a_AND a_OR a_NOT ((p0 &&& (2147483647 : Int32)) % (11 : Int32)))), .val (.int ct), .val (.int (0 : Int32))]) (n := 64) at_62 rfl rfl ?_
          exact J3 _ (0 : Int32) X2 (by simp [hc32, hc54])
        · refine OwnK.iconst X2 (z := (1 : Int32)) (n := 58) at_57 rfl rfl ?_
          refine OwnK.goto X2 (n := 62) at_58 (by decide) rfl ?_
          refine OwnK.istore X2 (l' := #[.val (.int p0), .val (.int p1), .val (.int p2), .val (.int ((p0 &&& (2147483647 : Int32)) % (11 : Int32))), .val (.ref (own_sel a_GREATER a_LESS a_GREATER_OR_EQUAL a_LESS_OR_EQUAL a_EQUAL a_NOT_EQUAL a_EQ a_NEQ a_AND a_OR a_NOT ((p0 &&& (2147483647 : Int32)) % (11 : Int32)))), .val (.int ct), .val (.int (1 : Int32))]) (n := 64) at_62 rfl rfl ?_
          exact J3 _ (1 : Int32) X2 (by simp [hc32, hc54])
      · refine OwnK.iload X2 (n := 37) at_35 rfl rfl ?_
        refine OwnK.iconst X2 (z := (1 : Int32)) (n := 38) at_37 rfl rfl ?_
        refine OwnK.ic_ne X2  (n1 := 45) (n2 := 41) at_38 (by decide) rfl rfl (fun hc38 => ?_) (fun hc38 => ?_)
        · refine OwnK.iconst X2 (z := (0 : Int32)) (n := 46) at_45 rfl rfl ?_
          refine OwnK.istore X2 (l' := #[.val (.int p0), .val (.int p1), .val (.int p2), .val (.int ((p0 &&& (2147483647 : Int32)) % (11 : Int32))), .val (.ref (own_sel a_GREATER a_LESS a_GREATER_OR_EQUAL a_LESS_OR_EQUAL a_EQUAL a_NOT_EQUAL a_EQ a_NEQ a_AND a_OR a_NOT ((p0 &&& (2147483647 : Int32)) % (11 : Int32)))), .val (.int ct), .val (.int (0 : Int32))]) (n := 48) at_46 rfl rfl ?_
          refine OwnK.goto X2 (n := 64) at_48 (by decide) rfl ?_
          exact J3 _ (0 : Int32) X2 (by simp [hc32, hc38])
        · refine OwnK.iconst X2 (z := (1 : Int32)) (n := 42) at_41 rfl rfl ?_
          refine OwnK.goto X2 (n := 46) at_42 (by decide) rfl ?_
          refine OwnK.istore X2 (l' := #[.val (.int p0), .val (.int p1), .val (.int p2), .val (.int ((p0 &&& (2147483647 : Int32)) % (11 : Int32))), .val (.ref (own_sel a_GREATER a_LESS a_GREATER_OR_EQUAL a_LESS_OR_EQUAL a_EQUAL a_NOT_EQUAL a_EQ a_NEQ a_AND a_OR a_NOT ((p0 &&& (2147483647 : Int32)) % (11 : Int32)))), .val (.int ct), .val (.int (1 : Int32))]) (n := 48) at_46 rfl rfl ?_
          refine OwnK.goto X2 (n := 64) at_48 (by decide) rfl ?_
          exact J3 _ (1 : Int32) X2 (by simp [hc32, hc38])
  · intro J2
    refine OwnK.if_eq X1  (n1 := 24) (n2 := 20) at_17 (by decide) rfl rfl (fun hc17 => ?_) (fun hc17 => ?_)
    · refine OwnK.iloadN X1 (n := 25) at_24 rfl rfl ?_
      refine OwnK.iconst X1 (z := (4 : Int32)) (n := 26) at_25 rfl rfl ?_
      refine OwnK.irem X1 (n := 27) at_26 (by decide) rfl ?_
      exact J2 _ (p1 % (4 : Int32)) X1 trivial
    · refine OwnK.iloadN X1 (n := 21) at_20 rfl rfl ?_
      refine OwnK.goto X1 (n := 27) at_21 (by decide) rfl ?_
      exact J2 _ p1 X1 trivial
set_option maxRecDepth 65536 in
set_option maxHeartbeats 40000000 in
theorem comes_1 {Post : Tables → Env → Array Value → State → Outcome → State → Prop} (hpost : ∀ tb e args s v u, (limb_1_1.after args s (.returned v) u = true ∧ limb_1_2.after args s (.returned v) u = true ∧ True) → FrameEnd s (.returned v) u (Jvm.fieldLocs frame_1_writes args s ++ Jvm.arrayLocs frame_1_arrays args s ++ Jvm.staticLocs frame_1_statics s) 0 0 → Post tb e args s (.returned v) u) :
    ArmFor flags0 classFile x code maxLocals ret World_1 tables_1 room_1 Calls_1 rest_1 Pre_1 Post := by
  intro l hfl _ _ p e ha hc hk s m args below hf hA hF happ hP
  obtain ⟨hcalls, hrest, hpre⟩ := hP
  obtain ⟨-, -, -, hnamed, -, -, -, hat⟩ := (Spec.applies_iff hf).mp happ
  obtain ⟨hg, hn⟩ := and_e (Cond.before_iff.mp (show (Jvm.Cond.and given_1 narrow_1).before args s = true from hpre))
  obtain ⟨g0, q1⟩ := and_e hg
  obtain ⟨g1, q2⟩ := and_e q1
  obtain ⟨g2, g3⟩ := and_e q2
  obtain ⟨w0, w1, w2, rfl⟩ : ∃ w0 w1 w2 : Value, args = #[w0, w1, w2] := by
    have hs : args.size = 3 := by simpa [Cond.value, given_1] using g0
    obtain ⟨L⟩ := args
    match L, hs with
    | [w0, w1, w2], _ => exact ⟨w0, w1, w2, rfl⟩
  have hw := fun d (hd : d ∈ tables_1) => atoms_spec (ws := Jvm.Cond.code x code maxLocals ret :: tables_1) hat d (List.mem_cons_of_mem _ hd)
  have hfit : Fit s := fun {y c} hc i hi => by
    obtain ⟨ha, rfl⟩ := Array.getElem?_eq_some_iff.mp hc
    have q := List.all_eq_true.mp ((Array.all_eq_true_iff_forall_mem.mp hF) _ (Array.getElem_mem ha)) i (List.mem_range.mpr hi)
    simpa [Array.getElem?_eq_getElem hi] using q
  obtain ⟨i0, e0⟩ := is_v g1
  obtain rfl : w0 = (.int i0) := Option.some.inj e0
  obtain ⟨i1, e1⟩ := is_v g2
  obtain rfl : w1 = (.int i1) := Option.some.inj e1
  obtain ⟨i2, e2⟩ := is_v g3
  obtain rfl : w2 = (.int i2) := Option.some.inj e2
  obtain ⟨c0, cc0⟩ := and_e hn
  obtain ⟨c1, cc1⟩ := and_e cc0
  obtain ⟨c2, cc2⟩ := and_e cc1
  obtain ⟨c3, cc3⟩ := and_e cc2
  obtain ⟨c4, cc4⟩ := and_e cc3
  obtain ⟨c5, cc5⟩ := and_e cc4
  obtain ⟨c6, cc6⟩ := and_e cc5
  obtain ⟨c7, cc7⟩ := and_e cc6
  obtain ⟨c8, cc8⟩ := and_e cc7
  obtain ⟨c9, cc9⟩ := and_e cc8
  obtain ⟨c10, cc10⟩ := and_e cc9
  obtain ⟨c11, cc11⟩ := and_e cc10
  obtain ⟨c12, cc12⟩ := and_e cc11
  obtain ⟨c13, cc13⟩ := and_e cc12
  obtain ⟨c14, cc14⟩ := and_e cc13
  obtain ⟨c15, cc15⟩ := and_e cc14
  obtain ⟨c16, cc16⟩ := and_e cc15
  obtain ⟨c17, cc17⟩ := and_e cc16
  obtain ⟨c18, cc18⟩ := and_e cc17
  obtain ⟨c19, cc19⟩ := and_e cc18
  obtain ⟨c20, cc20⟩ := and_e cc19
  obtain ⟨c21, cc21⟩ := and_e cc20
  obtain ⟨c22, cc22⟩ := and_e cc21
  obtain ⟨c23, cc23⟩ := and_e cc22
  obtain ⟨c24, cc24⟩ := and_e cc23
  obtain ⟨c25, cc25⟩ := and_e cc24
  obtain ⟨c26, cc26⟩ := and_e cc25
  obtain ⟨c27, cc27⟩ := and_e cc26
  obtain ⟨c28, cc28⟩ := and_e cc27
  obtain ⟨c29, cc29⟩ := and_e cc28
  obtain ⟨c30, cc30⟩ := and_e cc29
  obtain ⟨c31, c32⟩ := and_e cc30
  obtain ⟨a_GREATER, ev_GREATER⟩ := exa_v c0
  have S_GREATER := Sta.start ev_GREATER (Or.inr ⟨(hw _ (List.mem_of_getElem? (i := 6) rfl)), (hw _ (List.mem_of_getElem? (i := 7) rfl))⟩)
  have E_GREATER := Exa.start ev_GREATER c0
  obtain ⟨a_NOT, ev_NOT⟩ := exa_v c1
  have S_NOT := Sta.start ev_NOT (Or.inr ⟨(hw _ (List.mem_of_getElem? (i := 6) rfl)), (hw _ (List.mem_of_getElem? (i := 14) rfl))⟩)
  have E_NOT := Exa.start ev_NOT c1
  have ev_GREATER_ordinal := OwnK.eqI_v c2
  have F_GREATER_ordinal := Fld.start (by rw [← fld_at ev_GREATER]; exact ev_GREATER_ordinal)
  have ev_NOT_ordinal := OwnK.eqI_v c3
  have F_NOT_ordinal := Fld.start (by rw [← fld_at ev_NOT]; exact ev_NOT_ordinal)
  have ev_GREATER_minimum := OwnK.eqI_v c4
  have F_GREATER_minimum := Fld.start (by rw [← fld_at ev_GREATER]; exact ev_GREATER_minimum)
  obtain ⟨a_LESS, ev_LESS⟩ := exa_v c5
  have S_LESS := Sta.start ev_LESS (Or.inr ⟨(hw _ (List.mem_of_getElem? (i := 6) rfl)), (hw _ (List.mem_of_getElem? (i := 18) rfl))⟩)
  have E_LESS := Exa.start ev_LESS c5
  have ev_LESS_ordinal := OwnK.eqI_v c6
  have F_LESS_ordinal := Fld.start (by rw [← fld_at ev_LESS]; exact ev_LESS_ordinal)
  have ev_LESS_minimum := OwnK.eqI_v c7
  have F_LESS_minimum := Fld.start (by rw [← fld_at ev_LESS]; exact ev_LESS_minimum)
  have ev_NOT_minimum := OwnK.eqI_v c8
  have F_NOT_minimum := Fld.start (by rw [← fld_at ev_NOT]; exact ev_NOT_minimum)
  obtain ⟨a_AND, ev_AND⟩ := exa_v c9
  have S_AND := Sta.start ev_AND (Or.inr ⟨(hw _ (List.mem_of_getElem? (i := 6) rfl)), (hw _ (List.mem_of_getElem? (i := 21) rfl))⟩)
  have E_AND := Exa.start ev_AND c9
  have ev_AND_ordinal := OwnK.eqI_v c10
  have F_AND_ordinal := Fld.start (by rw [← fld_at ev_AND]; exact ev_AND_ordinal)
  have ev_AND_minimum := OwnK.eqI_v c11
  have F_AND_minimum := Fld.start (by rw [← fld_at ev_AND]; exact ev_AND_minimum)
  obtain ⟨a_NOT_EQUAL, ev_NOT_EQUAL⟩ := exa_v c12
  have S_NOT_EQUAL := Sta.start ev_NOT_EQUAL (Or.inr ⟨(hw _ (List.mem_of_getElem? (i := 6) rfl)), (hw _ (List.mem_of_getElem? (i := 23) rfl))⟩)
  have E_NOT_EQUAL := Exa.start ev_NOT_EQUAL c12
  have ev_NOT_EQUAL_ordinal := OwnK.eqI_v c13
  have F_NOT_EQUAL_ordinal := Fld.start (by rw [← fld_at ev_NOT_EQUAL]; exact ev_NOT_EQUAL_ordinal)
  have ev_NOT_EQUAL_minimum := OwnK.eqI_v c14
  have F_NOT_EQUAL_minimum := Fld.start (by rw [← fld_at ev_NOT_EQUAL]; exact ev_NOT_EQUAL_minimum)
  obtain ⟨a_LESS_OR_EQUAL, ev_LESS_OR_EQUAL⟩ := exa_v c15
  have S_LESS_OR_EQUAL := Sta.start ev_LESS_OR_EQUAL (Or.inr ⟨(hw _ (List.mem_of_getElem? (i := 6) rfl)), (hw _ (List.mem_of_getElem? (i := 25) rfl))⟩)
  have E_LESS_OR_EQUAL := Exa.start ev_LESS_OR_EQUAL c15
  have ev_LESS_OR_EQUAL_ordinal := OwnK.eqI_v c16
  have F_LESS_OR_EQUAL_ordinal := Fld.start (by rw [← fld_at ev_LESS_OR_EQUAL]; exact ev_LESS_OR_EQUAL_ordinal)
  have ev_LESS_OR_EQUAL_minimum := OwnK.eqI_v c17
  have F_LESS_OR_EQUAL_minimum := Fld.start (by rw [← fld_at ev_LESS_OR_EQUAL]; exact ev_LESS_OR_EQUAL_minimum)
  obtain ⟨a_GREATER_OR_EQUAL, ev_GREATER_OR_EQUAL⟩ := exa_v c18
  have S_GREATER_OR_EQUAL := Sta.start ev_GREATER_OR_EQUAL (Or.inr ⟨(hw _ (List.mem_of_getElem? (i := 6) rfl)), (hw _ (List.mem_of_getElem? (i := 27) rfl))⟩)
  have E_GREATER_OR_EQUAL := Exa.start ev_GREATER_OR_EQUAL c18
  have ev_GREATER_OR_EQUAL_ordinal := OwnK.eqI_v c19
  have F_GREATER_OR_EQUAL_ordinal := Fld.start (by rw [← fld_at ev_GREATER_OR_EQUAL]; exact ev_GREATER_OR_EQUAL_ordinal)
  have ev_GREATER_OR_EQUAL_minimum := OwnK.eqI_v c20
  have F_GREATER_OR_EQUAL_minimum := Fld.start (by rw [← fld_at ev_GREATER_OR_EQUAL]; exact ev_GREATER_OR_EQUAL_minimum)
  obtain ⟨a_EQ, ev_EQ⟩ := exa_v c21
  have S_EQ := Sta.start ev_EQ (Or.inr ⟨(hw _ (List.mem_of_getElem? (i := 6) rfl)), (hw _ (List.mem_of_getElem? (i := 29) rfl))⟩)
  have E_EQ := Exa.start ev_EQ c21
  have ev_EQ_ordinal := OwnK.eqI_v c22
  have F_EQ_ordinal := Fld.start (by rw [← fld_at ev_EQ]; exact ev_EQ_ordinal)
  have ev_EQ_minimum := OwnK.eqI_v c23
  have F_EQ_minimum := Fld.start (by rw [← fld_at ev_EQ]; exact ev_EQ_minimum)
  obtain ⟨a_NEQ, ev_NEQ⟩ := exa_v c24
  have S_NEQ := Sta.start ev_NEQ (Or.inr ⟨(hw _ (List.mem_of_getElem? (i := 6) rfl)), (hw _ (List.mem_of_getElem? (i := 31) rfl))⟩)
  have E_NEQ := Exa.start ev_NEQ c24
  have ev_NEQ_ordinal := OwnK.eqI_v c25
  have F_NEQ_ordinal := Fld.start (by rw [← fld_at ev_NEQ]; exact ev_NEQ_ordinal)
  have ev_NEQ_minimum := OwnK.eqI_v c26
  have F_NEQ_minimum := Fld.start (by rw [← fld_at ev_NEQ]; exact ev_NEQ_minimum)
  obtain ⟨a_OR, ev_OR⟩ := exa_v c27
  have S_OR := Sta.start ev_OR (Or.inr ⟨(hw _ (List.mem_of_getElem? (i := 6) rfl)), (hw _ (List.mem_of_getElem? (i := 33) rfl))⟩)
  have E_OR := Exa.start ev_OR c27
  have ev_OR_ordinal := OwnK.eqI_v c28
  have F_OR_ordinal := Fld.start (by rw [← fld_at ev_OR]; exact ev_OR_ordinal)
  have ev_OR_minimum := OwnK.eqI_v c29
  have F_OR_minimum := Fld.start (by rw [← fld_at ev_OR]; exact ev_OR_minimum)
  obtain ⟨a_EQUAL, ev_EQUAL⟩ := exa_v c30
  have S_EQUAL := Sta.start ev_EQUAL (Or.inr ⟨(hw _ (List.mem_of_getElem? (i := 6) rfl)), (hw _ (List.mem_of_getElem? (i := 35) rfl))⟩)
  have E_EQUAL := Exa.start ev_EQUAL c30
  have ev_EQUAL_ordinal := OwnK.eqI_v c31
  have F_EQUAL_ordinal := Fld.start (by rw [← fld_at ev_EQUAL]; exact ev_EQUAL_ordinal)
  have ev_EQUAL_minimum := OwnK.eqI_v c32
  have F_EQUAL_minimum := Fld.start (by rw [← fld_at ev_EQUAL]; exact ev_EQUAL_minimum)
  obtain ⟨n, o, h1, h2, h3, v, L, rfl, ⟨⟨w, rfl, rfl⟩, N⟩, hq⟩ := rm0 l s _ hw tables_1 i0 i1 i2 s.heap s.heap.size a_GREATER S_GREATER E_GREATER a_NOT S_NOT E_NOT F_GREATER_ordinal F_NOT_ordinal F_GREATER_minimum a_LESS S_LESS E_LESS F_LESS_ordinal F_LESS_minimum F_NOT_minimum a_AND S_AND E_AND F_AND_ordinal F_AND_minimum a_NOT_EQUAL S_NOT_EQUAL E_NOT_EQUAL F_NOT_EQUAL_ordinal F_NOT_EQUAL_minimum a_LESS_OR_EQUAL S_LESS_OR_EQUAL E_LESS_OR_EQUAL F_LESS_OR_EQUAL_ordinal F_LESS_OR_EQUAL_minimum a_GREATER_OR_EQUAL S_GREATER_OR_EQUAL E_GREATER_OR_EQUAL F_GREATER_OR_EQUAL_ordinal F_GREATER_OR_EQUAL_minimum a_EQ S_EQ E_EQ F_EQ_ordinal F_EQ_minimum a_NEQ S_NEQ E_NEQ F_NEQ_ordinal F_NEQ_minimum a_OR S_OR E_OR F_OR_ordinal F_OR_minimum a_EQUAL S_EQUAL E_EQUAL F_EQUAL_ordinal F_EQUAL_minimum p e ha hc hk s m _ below hf ((Spec.applies_iff_loose hf).mp happ).1 ⟨rfl, State.Warmed39.refl s, rfl⟩ trivial
  refine ⟨n, _, h1, h2, h3, hpost _ _ _ _ _ _ ⟨Cond.after_iff.mpr rfl, Cond.after_iff.mpr (eq_i res_at (Term.int_eval (1)) rfl), trivial⟩ ⟨hq.1, hq.2.1, (hq.2.2.sift fun y hy => Or.inr (N y hy)).mono (by decide) (by decide)⟩⟩
theorem main_1_1 : Claimed_1_1 := comes_1 fun _ _ _ _ _ _ h hF => ⟨h.1, hF⟩
theorem main_1_2 : Claimed_1_2 := comes_1 fun _ _ _ _ _ _ h hF => ⟨h.2.1, hF⟩
end Jvm.Pilot.@@N@@
namespace Jvm.Pilot.@@N@@
open Jvm Jvm.ClassFile Sem Op Lib Jvm.Free Jvm.Stand Jvm.Pilot.@@N@@.Jvm.D
/-! MADE BY PROGRAM (witnessworld.py) out of the Statement's table words and the real class files: 12 classes; the members and pool entries that the words name. The judged class is class 1, her method 2. -/
namespace start1
open Jvm.ClassFile
def u (s : String) : CpInfo := .utf8 (stringToUtf16 s)
/-- a pool by its gaps: so many unusable entries, then the entry; so many at the end -/
def gap : Nat → List CpInfo → List CpInfo
  | 0, r => r
  | n + 1, r => .unusable :: gap n r
def poolList (es : List (Nat × CpInfo)) (last : Nat) : List CpInfo := es.foldr (fun e r => gap e.1 (e.2 :: r)) (gap last [])
def pool (es : List (Nat × CpInfo)) (last : Nat) : Array CpInfo := ⟨poolList es last⟩
def fileOf (pool : Array CpInfo) (this : Nat) (attrs : Array Attribute := #[]) (ms : Array MethodInfo := #[]) (fl : Nat := 33) (sup : Nat := 0) (ifs : Array Nat := #[]) (fds : Array FieldInfo := #[]) : ClassFile where
  minorVersion := 0
  majorVersion := 65
  constantPool := pool
  accessFlags := fl
  thisClass := this
  superClass := sup
  interfaces := ifs
  fields := fds
  methods := ms
  attributes := attrs
def plain (name : String) (sup : Option ClassId) : Class where
  name := name
  kind := .ordinary
  loader := none
  accessFlags := 33
  super := sup
  interfaces := #[]
  cf := none
  fields := #[]
  methods := #[]
  instanceTypes := #[]
  staticTypes := #[]
  resolved := #[]
  callSites := []
  init := .initialized
  statics := none
  mirror := none

def pool0 : Array CpInfo := pool [(5, u "<init>"), (0, u "()V"), (1, .class_ 10), (1, u "java/lang/Object")] 113

def k0m0 : Method := { name := "<init>", desc := "()V", sig := { parameters := [], returnType := none }, accessFlags := 1, code := none }
/-- java/lang/Object -/
def k0 : Class := { plain "java/lang/Object" none with
  accessFlags := 33
  interfaces := #[]
  cf := some (fileOf pool0 8 #[] #[{ accessFlags := 1, nameIndex := 5, descriptorIndex := 6, attributes := #[] }] 33 0 #[] #[])
  fields := #[]
  methods := #[k0m0]
  instanceTypes := #[]
  staticTypes := #[]
  resolved := Array.replicate 124 none
  statics := none }

def pool1 : Array CpInfo := pool [(2, .class_ 4), (1, u "java/lang/Object"), (0, u "<init>"), (0, u "()V"), (0, .fieldref 8 9), (0, .class_ 10), (0, .nameAndType 11 12), (0, u "com/example/selectivity/selectivity/Function"), (0, u "GREATER"), (0, u "Lcom/example/selectivity/selectivity/Function;"), (0, .fieldref 8 14), (0, .nameAndType 15 12), (0, u "LESS"), (0, .fieldref 8 17), (0, .nameAndType 18 12), (0, u "GREATER_OR_EQUAL"), (0, .fieldref 8 20), (0, .nameAndType 21 12), (0, u "LESS_OR_EQUAL"), (0, .fieldref 8 23), (0, .nameAndType 24 12), (0, u "EQUAL"), (0, .fieldref 8 26), (0, .nameAndType 27 12), (0, u "NOT_EQUAL"), (0, .fieldref 8 29), (0, .nameAndType 30 12), (0, u "EQ"), (0, .fieldref 8 32), (0, .nameAndType 33 12), (0, u "NEQ"), (0, .fieldref 8 35), (0, .nameAndType 36 12), (0, u "AND"), (0, .fieldref 8 38), (0, .nameAndType 39 12), (0, u "OR"), (0, .fieldref 8 41), (0, .nameAndType 42 12), (0, u "NOT"), (0, .integer 2147483647), (0, .methodref 45 46), (0, .class_ 47), (0, .nameAndType 48 49), (0, u "com/example/selectivity/selectivity/FunctionTakesPinLaw"), (0, u "pick"), (0, u "(I)Lcom/example/selectivity/selectivity/Function;"), (0, .methodref 8 51), (0, .nameAndType 52 53), (0, u "takes"), (0, u "(I)Z"), (3, u "law"), (0, u "(III)Z")] 2

def k1m0 : Method := { name := "<init>", desc := "()V", sig := { parameters := [], returnType := none }, accessFlags := 1, code := none }
def k1c1 : Code := { maxStack := 2, maxLocals := 1, code := method_2_code, exceptionTable := #[], attributes := #[] }
def k1m1 : Method := { name := "pick", desc := "(I)Lcom/example/selectivity/selectivity/Function;", sig := { parameters := [.int], returnType := some (.object "com/example/selectivity/selectivity/Function") }, accessFlags := 10, code := some k1c1 }
def k1c2 : Code := { maxStack := 2, maxLocals := 7, code := code, exceptionTable := #[], attributes := #[] }
def k1m2 : Method := { name := "law", desc := "(III)Z", sig := { parameters := [.int, .int, .int], returnType := some .boolean }, accessFlags := 9, code := some k1c2 }
/-- com/example/selectivity/selectivity/FunctionTakesPinLaw -/
def k1 : Class := { plain "com/example/selectivity/selectivity/FunctionTakesPinLaw" (some 0) with
  accessFlags := 49
  interfaces := #[]
  cf := some (fileOf pool1 45 #[] #[{ accessFlags := 1, nameIndex := 5, descriptorIndex := 6, attributes := #[] }, { accessFlags := 10, nameIndex := 48, descriptorIndex := 49, attributes := #[] }, { accessFlags := 9, nameIndex := 57, descriptorIndex := 58, attributes := #[] }] 49 2 #[] #[])
  fields := #[]
  methods := #[k1m0, k1m1, k1m2]
  instanceTypes := #[]
  staticTypes := #[]
  resolved := Array.replicate 61 none
  statics := none }

def pool2 : Array CpInfo := pool [(1, .class_ 2), (0, u "java/lang/constant/Constable"), (0, .class_ 4), (0, u "java/lang/Object")] 6

/-- java/lang/constant/Constable -/
def k2 : Class := { plain "java/lang/constant/Constable" (some 0) with
  accessFlags := 1537
  interfaces := #[]
  cf := some (fileOf pool2 1 #[] #[] 1537 3 #[] #[])
  fields := #[]
  methods := #[]
  instanceTypes := #[]
  staticTypes := #[]
  resolved := Array.replicate 11 none
  statics := none }

def pool3 : Array CpInfo := pool [(1, .class_ 2), (0, u "java/lang/Comparable"), (0, .class_ 4), (0, u "java/lang/Object")] 7

/-- java/lang/Comparable -/
def k3 : Class := { plain "java/lang/Comparable" (some 0) with
  accessFlags := 1537
  interfaces := #[]
  cf := some (fileOf pool3 1 #[] #[] 1537 3 #[] #[])
  fields := #[]
  methods := #[]
  instanceTypes := #[]
  staticTypes := #[]
  resolved := Array.replicate 12 none
  statics := none }

def pool4 : Array CpInfo := pool [(1, .class_ 2), (0, u "java/io/Serializable"), (0, .class_ 4), (0, u "java/lang/Object")] 2

/-- java/io/Serializable -/
def k4 : Class := { plain "java/io/Serializable" (some 0) with
  accessFlags := 1537
  interfaces := #[]
  cf := some (fileOf pool4 1 #[] #[] 1537 3 #[] #[])
  fields := #[]
  methods := #[]
  instanceTypes := #[]
  staticTypes := #[]
  resolved := Array.replicate 7 none
  statics := none }

def pool5 : Array CpInfo := pool [(2, .class_ 4), (1, u "java/lang/Enum"), (0, u "name"), (0, u "Ljava/lang/String;"), (2, u "ordinal"), (0, u "I"), (1, .class_ 14), (1, u "java/lang/Object"), (4, u "hash"), (86, .class_ 108), (1, u "java/lang/Enum$EnumDesc"), (2, .class_ 112), (0, u "java/lang/constant/Constable"), (0, .class_ 114), (0, u "java/lang/Comparable"), (0, .class_ 116), (0, u "java/io/Serializable")] 87

/-- java/lang/Enum -/
def k5 : Class := { plain "java/lang/Enum" (some 0) with
  accessFlags := 1057
  interfaces := #[2, 3, 4]
  cf := some (fileOf pool5 2 #[.nestMembers #[106]] #[] 1057 12 #[111, 113, 115] #[{ accessFlags := 18, nameIndex := 5, descriptorIndex := 6, attributes := #[] }, { accessFlags := 18, nameIndex := 9, descriptorIndex := 10, attributes := #[] }, { accessFlags := 2, nameIndex := 19, descriptorIndex := 10, attributes := #[] }])
  fields := #[{ name := "name", type := (.object "java/lang/String"), accessFlags := 18, slot := 0, constantValue := 0 }, { name := "ordinal", type := .int, accessFlags := 18, slot := 1, constantValue := 0 }, { name := "hash", type := .int, accessFlags := 2, slot := 2, constantValue := 0 }]
  methods := #[]
  instanceTypes := #[(.object "java/lang/String"), .int, .int]
  staticTypes := #[]
  resolved := Array.replicate 204 none
  statics := none }

def pool6 : Array CpInfo := pool [(1, .class_ 2), (0, u "com/example/selectivity/selectivity/Function"), (2, u "GREATER"), (0, u "Lcom/example/selectivity/selectivity/Function;"), (2, u "LESS"), (2, u "GREATER_OR_EQUAL"), (2, u "LESS_OR_EQUAL"), (2, u "EQUAL"), (2, u "NOT_EQUAL"), (2, u "EQ"), (2, u "NEQ"), (2, u "AND"), (2, u "OR"), (0, .fieldref 1 35), (0, .nameAndType 36 6), (0, u "NOT"), (2, u "$VALUES"), (0, u "[Lcom/example/selectivity/selectivity/Function;"), (6, .class_ 49), (1, u "java/lang/Enum"), (15, u "name"), (0, u "Ljava/lang/String;"), (0, .fieldref 1 68), (0, .nameAndType 69 70), (0, u "minimum"), (0, u "I"), (2, u "comparison"), (0, u "Ljava/util/function/IntPredicate;"), (2, u "body"), (0, u "Lcom/example/selectivity/selectivity/Function$Body;"), (2, u "BY_NAME"), (0, u "Ljava/util/Map;"), (13, .class_ 98), (1, u "com/example/selectivity/selectivity/Function$Body"), (26, u "(I)Z"), (16, .class_ 144), (1, u "com/example/selectivity/selectivity/Function$Comparing"), (97, u "takes")] 110

def k6c0 : Code := { maxStack := 2, maxLocals := 2, code := prog_14_method_7_code, exceptionTable := #[], attributes := #[] }
def k6m0 : Method := { name := "takes", desc := "(I)Z", sig := { parameters := [.int], returnType := some .boolean }, accessFlags := 0, code := some k6c0 }
/-- com/example/selectivity/selectivity/Function -/
def k6 : Class := { plain "com/example/selectivity/selectivity/Function" (some 5) with
  accessFlags := 16432
  interfaces := #[]
  cf := some (fileOf pool6 1 #[.nestMembers #[142, 96]] #[{ accessFlags := 0, nameIndex := 242, descriptorIndex := 125, attributes := #[] }] 16432 47 #[] #[{ accessFlags := 16409, nameIndex := 5, descriptorIndex := 6, attributes := #[] }, { accessFlags := 16409, nameIndex := 9, descriptorIndex := 6, attributes := #[] }, { accessFlags := 16409, nameIndex := 12, descriptorIndex := 6, attributes := #[] }, { accessFlags := 16409, nameIndex := 15, descriptorIndex := 6, attributes := #[] }, { accessFlags := 16409, nameIndex := 18, descriptorIndex := 6, attributes := #[] }, { accessFlags := 16409, nameIndex := 21, descriptorIndex := 6, attributes := #[] }, { accessFlags := 16409, nameIndex := 24, descriptorIndex := 6, attributes := #[] }, { accessFlags := 16409, nameIndex := 27, descriptorIndex := 6, attributes := #[] }, { accessFlags := 16409, nameIndex := 30, descriptorIndex := 6, attributes := #[] }, { accessFlags := 16409, nameIndex := 33, descriptorIndex := 6, attributes := #[] }, { accessFlags := 16409, nameIndex := 36, descriptorIndex := 6, attributes := #[] }, { accessFlags := 26, nameIndex := 81, descriptorIndex := 82, attributes := #[] }, { accessFlags := 18, nameIndex := 65, descriptorIndex := 66, attributes := #[] }, { accessFlags := 18, nameIndex := 69, descriptorIndex := 70, attributes := #[] }, { accessFlags := 18, nameIndex := 73, descriptorIndex := 74, attributes := #[] }, { accessFlags := 18, nameIndex := 77, descriptorIndex := 78, attributes := #[] }, { accessFlags := 4122, nameIndex := 39, descriptorIndex := 40, attributes := #[] }])
  fields := #[{ name := "GREATER", type := (.object "com/example/selectivity/selectivity/Function"), accessFlags := 16409, slot := 0, constantValue := 0 }, { name := "LESS", type := (.object "com/example/selectivity/selectivity/Function"), accessFlags := 16409, slot := 1, constantValue := 0 }, { name := "GREATER_OR_EQUAL", type := (.object "com/example/selectivity/selectivity/Function"), accessFlags := 16409, slot := 2, constantValue := 0 }, { name := "LESS_OR_EQUAL", type := (.object "com/example/selectivity/selectivity/Function"), accessFlags := 16409, slot := 3, constantValue := 0 }, { name := "EQUAL", type := (.object "com/example/selectivity/selectivity/Function"), accessFlags := 16409, slot := 4, constantValue := 0 }, { name := "NOT_EQUAL", type := (.object "com/example/selectivity/selectivity/Function"), accessFlags := 16409, slot := 5, constantValue := 0 }, { name := "EQ", type := (.object "com/example/selectivity/selectivity/Function"), accessFlags := 16409, slot := 6, constantValue := 0 }, { name := "NEQ", type := (.object "com/example/selectivity/selectivity/Function"), accessFlags := 16409, slot := 7, constantValue := 0 }, { name := "AND", type := (.object "com/example/selectivity/selectivity/Function"), accessFlags := 16409, slot := 8, constantValue := 0 }, { name := "OR", type := (.object "com/example/selectivity/selectivity/Function"), accessFlags := 16409, slot := 9, constantValue := 0 }, { name := "NOT", type := (.object "com/example/selectivity/selectivity/Function"), accessFlags := 16409, slot := 10, constantValue := 0 }, { name := "BY_NAME", type := (.object "java/util/Map"), accessFlags := 26, slot := 11, constantValue := 0 }, { name := "name", type := (.object "java/lang/String"), accessFlags := 18, slot := 3, constantValue := 0 }, { name := "minimum", type := .int, accessFlags := 18, slot := 4, constantValue := 0 }, { name := "comparison", type := (.object "java/util/function/IntPredicate"), accessFlags := 18, slot := 5, constantValue := 0 }, { name := "body", type := (.object "com/example/selectivity/selectivity/Function$Body"), accessFlags := 18, slot := 6, constantValue := 0 }, { name := "$VALUES", type := (.array (.object "com/example/selectivity/selectivity/Function")), accessFlags := 4122, slot := 12, constantValue := 0 }]
  methods := #[k6m0]
  instanceTypes := #[(.object "java/lang/String"), .int, .int, (.object "java/lang/String"), .int, (.object "java/util/function/IntPredicate"), (.object "com/example/selectivity/selectivity/Function$Body")]
  staticTypes := #[(.object "com/example/selectivity/selectivity/Function"), (.object "com/example/selectivity/selectivity/Function"), (.object "com/example/selectivity/selectivity/Function"), (.object "com/example/selectivity/selectivity/Function"), (.object "com/example/selectivity/selectivity/Function"), (.object "com/example/selectivity/selectivity/Function"), (.object "com/example/selectivity/selectivity/Function"), (.object "com/example/selectivity/selectivity/Function"), (.object "com/example/selectivity/selectivity/Function"), (.object "com/example/selectivity/selectivity/Function"), (.object "com/example/selectivity/selectivity/Function"), (.object "java/util/Map"), (.array (.object "com/example/selectivity/selectivity/Function"))]
  resolved := Array.replicate 353 none
  statics := some 0 }

def pool7 : Array CpInfo := pool [(1, u "java/lang/Cloneable"), (0, .class_ 1), (0, u "java/lang/Object"), (0, .class_ 3)] 3

/-- java/lang/Cloneable -/
def k7 : Class := { plain "java/lang/Cloneable" (some 0) with
  accessFlags := 1537
  interfaces := #[]
  cf := some (fileOf pool7 2 #[] #[] 1537 4 #[] #[])
  fields := #[]
  methods := #[]
  instanceTypes := #[]
  staticTypes := #[]
  resolved := Array.replicate 8 none
  statics := none }

/-- the primitive byte -/
def k8 : Class := { plain "byte" none with kind := .primitive 'B', accessFlags := 0x411 }
/-- [B -/
def k9 : Class := { plain "[B" (some 0) with kind := .array 8 .byte, interfaces := #[7, 4], accessFlags := 1041 }

/-- the primitive int -/
def k10 : Class := { plain "int" none with kind := .primitive 'I', accessFlags := 0x411 }
/-- [I -/
def k11 : Class := { plain "[I" (some 0) with kind := .array 10 .int, interfaces := #[7, 4], accessFlags := 1041 }

def heap : Heap := #[{ cls := 6, slots := #[.ref 1, .ref 3, .ref 7, .ref 6, .ref 11, .ref 5, .ref 8, .ref 9, .ref 4, .ref 10, .ref 2, .null, .null], vm := .statics 6 },
  { cls := 6, slots := #[.null, .int 0, .int 0, .null, .int 2, .null, .null], vm := .none },
  { cls := 6, slots := #[.null, .int 10, .int 0, .null, .int 1, .null, .null], vm := .none },
  { cls := 6, slots := #[.null, .int 1, .int 0, .null, .int 2, .null, .null], vm := .none },
  { cls := 6, slots := #[.null, .int 8, .int 0, .null, .int 2, .null, .null], vm := .none },
  { cls := 6, slots := #[.null, .int 5, .int 0, .null, .int 2, .null, .null], vm := .none },
  { cls := 6, slots := #[.null, .int 3, .int 0, .null, .int 2, .null, .null], vm := .none },
  { cls := 6, slots := #[.null, .int 2, .int 0, .null, .int 2, .null, .null], vm := .none },
  { cls := 6, slots := #[.null, .int 6, .int 0, .null, .int 2, .null, .null], vm := .none },
  { cls := 6, slots := #[.null, .int 7, .int 0, .null, .int 2, .null, .null], vm := .none },
  { cls := 6, slots := #[.null, .int 9, .int 0, .null, .int 2, .null, .null], vm := .none },
  { cls := 6, slots := #[.null, .int 4, .int 0, .null, .int 2, .null, .null], vm := .none }]
def classes : Array Class := #[k0, k1, k2, k3, k4, k5, k6, k7, k8, k9, k10, k11]
def interned : List (Array UInt16 × Addr) := []
def slotsUsed : Nat := 90
def theMethod : MethodId := ⟨1, 2⟩
def args0 : Array Value := #[.int 5, .int 1, .int 2]
def aboutOver (below : List Frame) : State where
  vm := { classes := classes, interned := interned.toArray }
  heap := heap
  slotsUsed := slotsUsed
  threads := #[{ frames := .invoking theMethod args0 :: below }]
def below0 : List Frame := [.native { method := ⟨0, 0⟩, args := #[] }]
def about1 : State := aboutOver below0
def p0 : Program := .bare "" "" ""
def e0 : Env := launch0.env 0 0 0
theorem w_frames : about1.frames = Frame.invoking theMethod args0 :: below0 := rfl
set_option maxRecDepth 65536 in
theorem w_args : argsFit about1.vm theMethod args0 = true := by decide +kernel
set_option maxRecDepth 65536 in
theorem w_heap : heapFits about1 = true := by decide +kernel
set_option maxRecDepth 65536 in
theorem w_runnable : about1.curStatus? = some .runnable := by decide +kernel
set_option maxRecDepth 65536 in
theorem w_alone : about1.alone = true := by decide +kernel
set_option maxRecDepth 65536 in
theorem w_named : about1.methodNamed? x = some theMethod := by decide +kernel
set_option maxRecDepth 65536 in
theorem w_hears : about1.hears theMethod below0 = true := by decide +kernel
set_option maxRecDepth 65536 in
theorem w_ripe : about1.ripe theMethod args0 below0 = true := by decide +kernel
theorem w_running : about1.status = .running := rfl
set_option maxRecDepth 65536 in
theorem w_room : about1.hasRoom e0.platform room_1 = true :=
  launch0.hasRoom_least _ room_1 (by decide +kernel) (by decide +kernel) (by decide +kernel) (by decide +kernel) (by decide +kernel) (by decide +kernel)
theorem allAtoms_all (ts : List Jvm.Cond) (a : Array Jvm.Value) (st : Jvm.State) : (allAtoms ts).before a st = ts.all (fun c => c.before a st) := by
  induction ts with
  | nil => rfl
  | cons c t ih =>
    show (Jvm.Cond.and c (allAtoms t)).before a st = _
    rw [Jvm.Cond.before_and, ih, List.all_cons]
def words1 : List Jvm.Cond := Jvm.Cond.code x code maxLocals ret :: tables_1
/-- a 'code' word, met by the world's own term for the bytes: nothing is compared byte by byte -/
theorem code_word {y : MethodName} {bytes : ByteArray} {mx : Nat} {rt : Option FieldType} {a : Array Value} {s : State} {m : MethodId} {meth : Method} {c : Code} (h1 : s.methodNamed? y = some m) (h2 : s.vm.method? m = some meth) (h3 : meth.code = some c) (h4 : c.code = bytes)
    (h5 : (c.maxLocals == mx && c.exceptionTable.isEmpty && decide (c.maxStack ≤ mostOperands) && decide (meth.sig.returnType = rt) && !meth.locks && decide (parseMethodDescriptor y.desc = some meth.sig)) = true) : (Jvm.Cond.code y bytes mx rt).before a s = true := by
  simp only [Bool.and_eq_true, beq_iff_eq, Bool.not_eq_true', decide_eq_true_eq] at h5
  obtain ⟨⟨⟨⟨⟨g1, g2⟩, g3⟩, g4⟩, g5⟩, g6⟩ := h5
  simp [Cond.before, Cond.holds, Cond.value, h1, h2, h3, h4, g1, g2, g3, g4, g5, g6]
def isCode : Jvm.Cond → Bool
  | .code _ _ _ _ => true
  | _ => false
theorem all_split {L : List Jvm.Cond} {P : Jvm.Cond → Bool} (h1 : L.all (fun c => isCode c || P c) = true) (h2 : ∀ c ∈ L.filter isCode, P c = true) : L.all P = true := by
  refine List.all_eq_true.mpr fun c hc => ?_
  have h := List.all_eq_true.mp h1 c hc
  rcases Bool.eq_false_or_eq_true (isCode c) with hi | hi
  · exact h2 c (List.mem_filter.mpr ⟨hc, hi⟩)
  · simpa [hi] using h
set_option maxRecDepth 65536 in
theorem w_c0 : (Jvm.Cond.code x code maxLocals ret).before args0 about1 = true := code_word (m := ⟨1, 2⟩) (meth := k1m2) (c := k1c2) (by decide +kernel) rfl rfl rfl (by decide +kernel)
set_option maxRecDepth 65536 in
theorem w_c1 : (Jvm.Cond.code ({ cls := "com/example/selectivity/selectivity/FunctionTakesPinLaw", name := "pick", desc := "(I)Lcom/example/selectivity/selectivity/Function;" } : Jvm.MethodName) method_2_code (1 : Nat) (Option.some (Jvm.ClassFile.FieldType.object "com/example/selectivity/selectivity/Function"))).before args0 about1 = true := code_word (m := ⟨1, 1⟩) (meth := k1m1) (c := k1c1) (by decide +kernel) rfl rfl rfl (by decide +kernel)
set_option maxRecDepth 65536 in
theorem w_c2 : (Jvm.Cond.code ({ cls := "com/example/selectivity/selectivity/Function", name := "takes", desc := "(I)Z" } : Jvm.MethodName) prog_14_method_7_code (2 : Nat) (Option.some Jvm.ClassFile.FieldType.boolean)).before args0 about1 = true := code_word (m := ⟨6, 0⟩) (meth := k6m0) (c := k6c0) (by decide +kernel) rfl rfl rfl (by decide +kernel)
def codes1 : List Jvm.Cond := [Jvm.Cond.code x code maxLocals ret, Jvm.Cond.code ({ cls := "com/example/selectivity/selectivity/FunctionTakesPinLaw", name := "pick", desc := "(I)Lcom/example/selectivity/selectivity/Function;" } : Jvm.MethodName) method_2_code (1 : Nat) (Option.some (Jvm.ClassFile.FieldType.object "com/example/selectivity/selectivity/Function")), Jvm.Cond.code ({ cls := "com/example/selectivity/selectivity/Function", name := "takes", desc := "(I)Z" } : Jvm.MethodName) prog_14_method_7_code (2 : Nat) (Option.some Jvm.ClassFile.FieldType.boolean)]
set_option maxRecDepth 65536 in
theorem codes_eq : words1.filter isCode = codes1 := rfl
theorem w_codes : ∀ c ∈ words1.filter isCode, c.before args0 about1 = true := by
  rw [codes_eq]
  intro c hc
  simp only [codes1, List.mem_cons, List.not_mem_nil, or_false] at hc
  rcases hc with rfl | rfl | rfl
  · exact w_c0
  · exact w_c1
  · exact w_c2
set_option maxRecDepth 65536 in
theorem w_t1 : (words1.take 24).all (fun c => isCode c || c.before args0 about1) = true := by decide +kernel
set_option maxRecDepth 65536 in
theorem w_t2 : (words1.drop 24).all (fun c => isCode c || c.before args0 about1) = true := by decide +kernel
theorem w_tables : (allAtoms (Jvm.Cond.code x code maxLocals ret :: tables_1)).before args0 about1 = true := by
  rw [allAtoms_all]
  show words1.all (fun c => c.before args0 about1) = true
  refine all_split ?_ w_codes
  rw [← List.take_append_drop 24 words1, List.all_append, w_t1, w_t2]
  rfl
set_option maxRecDepth 65536 in
theorem w_case : (Jvm.Cond.and given_1 narrow_1).before args0 about1 = true := by decide +kernel
theorem w_applies : (headSpec (Jvm.Cond.code x code maxLocals ret :: tables_1) room_1).applies x e0.platform about1 = true :=
  (Spec.applies_iff w_frames).mpr ⟨w_running, w_runnable, w_alone, w_named, w_hears, w_ripe, w_room, w_tables⟩
theorem atStart : AtStart classFile x code maxLocals ret World_1 tables_1 room_1 Calls_1 rest_1 Pre_1 launch0 p0 e0 about1 theMethod args0 below0 :=
  ⟨lists_1, trivial, launch0.admits_env _ _ _, launch0.least_env, fairChoices_fair.cas, fairChoices_fair.clock, w_frames, w_args, w_heap, w_applies, trivial, trivial, w_case⟩
end start1
theorem witness_1 : WitnessClaimed_1 := ⟨start1.p0, start1.e0, start1.about1, start1.theMethod, start1.args0, start1.below0, start1.atStart⟩
end Jvm.Pilot.@@N@@
