import JvmDerived
import JvmDerived.Pilot.@@N@@Statement
import JvmDerived.Pilot.@@N@@Code
set_option linter.unusedVariables false
set_option linter.unusedSimpArgs false
namespace Jvm.OwnK
open Sem ClassFile Op Lib Jvm.Stand Jvm.Free Jvm.LawKit Jvm.RoadKit
section A
variable {p : Program} {l : Launch} {e : Env} {R : Room} {s : State} {m : MethodId} {args : Array Value} {below : List Frame} {meth : Method} {c : Code} {T : State} {Z : State} {a0 : Array Value} {h : Heap} {n0 kc ks fc fs : Nat} {Q : Option Value → Heap → Prop} {y : MethodName} {bytes : ByteArray} {maxL : Nat} {ret : Option FieldType}
/-- where the walk stands -/
def Sd (Z : State) (y : MethodName) (bytes : ByteArray) (maxL : Nat) (ret : Option FieldType) (p : Program) (l : Launch) (e : Env) (R : Room) (s : State) (m : MethodId) (args : Array Value) (below : List Frame) (meth : Method) (c : Code) (n0 : Nat) (h : Heap) (kc ks : Nat) (T : State) : Prop :=
  (p.tables.exec = Jvm.exec ∧ Z.Warmed39 s.vm ∧ c.code = bytes ∧ c.maxLocals = maxL ∧ meth.sig.returnType = ret ∧ meth.locks = false ∧ s.vm.findClass y.cls = some m.cls ∧ meth.name = y.name) ∧
  ∃ locs cells slots, Stand p l e R s m args below meth c T locs cells slots ∧ T.heap = h ∧ Fr n0 locs ∧ cells ≤ kc ∧ slots ≤ ks
/-- from t on the walk ends as Q says -/
def Run (p : Program) (e : Env) (below : List Frame) (s : State) (n0 fc fs : Nat) (Q : Option Value → Heap → Prop) (t : State) : Prop :=
  ∃ s₂ o, Steps p.tables e below t s₂ ∧ s₂.status = .running ∧ Ended s₂ below o ∧ ∃ v L, o = .returned v ∧ Q v s₂.heap ∧ Fr n0 L ∧ FrameEnd s o s₂ L fc fs
def Ctr (l : Launch) (Z : State) (y : MethodName) (bytes : ByteArray) (maxL : Nat) (ret : Option FieldType) (ws : List Cond) (rm : Room) (n0 : Nat) (as : Array Value) (h : Heap) (Q : Option Value → Heap → Prop) : Prop :=
  MetFree l y (head1 (Cond.code y bytes maxL ret :: ws) rm) (fun a U => a = as ∧ Z.Warmed39 U.vm ∧ U.heap = h) (fun _ _ _ _ _ => True) (fun _ U o U' => ∃ v L, o = .returned v ∧ (Q v U'.heap ∧ Fr n0 L) ∧ FrameEnd U o U' L rm.cells rm.slots)
/-- a value comes back -/
def Rt (Qv : Value → Heap → Prop) : Option Value → Heap → Prop := fun v h => ∃ w, v = some w ∧ Qv w h
/-- nothing comes back -/
def Rn (Qn : Heap → Prop) : Option Value → Heap → Prop := fun v h => v = none ∧ Qn h
theorem Run.st {t t' : State} (k : Run p e below s n0 fc fs Q t') (f : ∀ z, Steps p.tables e below t' z → Steps p.tables e below t z) : Run p e below s n0 fc fs Q t := by
  obtain ⟨s2, o, h1, r⟩ := k; exact ⟨s2, o, f _ h1, r⟩
theorem Run.mono {Q' : Option Value → Heap → Prop} {t : State} (k : Run p e below s n0 fc fs Q t) (f : ∀ v h, Q v h → Q' v h) : Run p e below s n0 fc fs Q' t := by
  obtain ⟨s2, o, h1, h2, h3, v, L, h4, h5, r⟩ := k; exact ⟨s2, o, h1, h2, h3, v, L, h4, f _ _ h5, r⟩
theorem Sd.hr (X : Sd Z y bytes maxL ret p l e R s m args below meth c n0 h kc ks T) : At T m c below := by obtain ⟨-, _, _, _, Y, -⟩ := X; exact Y.here
theorem Sd.d (X : Sd Z y bytes maxL ret p l e R s m args below meth c n0 h kc ks T) {pc : Nat} {r : Except DecodeError (Instr × Nat)} (q : decode bytes pc = r) : decode c.code pc = r := X.1.2.2.1 ▸ q
theorem Sd.more {kc' ks' : Nat} (X : Sd Z y bytes maxL ret p l e R s m args below meth c n0 h kc ks T) (h1 : kc ≤ kc') (h2 : ks ≤ ks') : Sd Z y bytes maxL ret p l e R s m args below meth c n0 h kc' ks' T := by
  obtain ⟨q, L, a, b, Y, r1, r2, r3, r4⟩ := X; exact ⟨q, L, a, b, Y, r1, r2, Nat.le_trans r3 h1, Nat.le_trans r4 h2⟩
theorem Ctr.of {rm : Room} {ws : List Cond} {as : Array Value} {ls0 : Array Slot} (hn : plainFor y = true) (hf : ∀ m, entryFrame m as maxL = mkF m 0 ls0 [])
    (body : ∀ (p : Program) (e : Env) (s : State) (m : MethodId) (below : List Frame) (meth : Method) (c : Code) (T : State), Sd Z y bytes maxL ret p l e rm s m as below meth c n0 h 0 0 T → Run p e below s n0 rm.cells rm.slots Q (T.setTop (mkF m 0 ls0 []))) : Ctr l Z y bytes maxL ret ws rm n0 as h Q := by
  refine MetFree.of_bodySF hn hisR ?_
  intro p e s m args below meth c s₁ Bd hml0 hP hK
  obtain ⟨rfl, hZ, hh⟩ := hP
  have X0 : Stand p l e rm s m args below meth c s₁ [] 0 0 := Stand.of_body Bd
  have e0 : s₁.heap = h := by rw [← hh, Bd.state]; rfl
  obtain ⟨s2, o, h1, h2, h3, v, L, h4, h5, h6, h7⟩ := body p e s m below meth c s₁ ⟨⟨Bd.exec, hZ, Bd.bytes, hml0, Bd.returns, Bd.notSynchronized, findClass_of_methodNamed Bd.named, (name_of_methodNamed Bd.named Bd.method).1⟩, [], 0, 0, X0, e0, Fr.nil _, Nat.le_refl _, Nat.le_refl _⟩
  exact ⟨s2, o, castTop (hf m) h1, h2, h3, v, L, h4, ⟨h5, h6⟩, h7⟩
theorem leaveQ (X : Sd Z y bytes maxL ret p l e R s m args below meth c n0 h kc ks T) {v : Option Value} (hv : ret = none → v = none) (hq : Q v h) (h1 : kc ≤ fc) (h2 : ks ≤ fs) {t : State}
    (st : ∀ {locs cells slots}, Stand p l e R s m args below meth c T locs cells slots → ∀ {ff : List Frame}, (∀ (f : JFrame) (acts : List Action), f.method = m → f.locked = none → f.entered = [] → (doReturn e (T.setTop f) acts v).1 = T.setFrames ff) → Steps p.tables e below t (T.setFrames ff)) : Run p e below s n0 fc fs Q t := by
  obtain ⟨⟨hx, hZ, hby, hml, hr, hlk, -⟩, L, a, b, Y, r1, r2, r3, r4⟩ := X
  obtain ⟨ff, g1, hrun, hended, hW, hsame⟩ := Y.leave (v := v) (fun q => hv (hr ▸ q)) hlk
  exact ⟨_, _, st Y g1, hrun, hended, v, L, rfl, by show Q v T.heap; rw [r1]; exact hq, r2, ⟨_, rfl⟩, hW, hsame.mono (Nat.le_trans r3 h1) (Nat.le_trans r4 h2)⟩
theorem areturn (X : Sd Z y bytes maxL ret p l e R s m args below meth c n0 h kc ks T) {t : FieldType} (hr : ret = some t) (ht : t.isReference = true) {pc : Nat} {ls : Array Slot} {w : Value} {st : List Value} (hw : w.isRef = true) (hd : decode bytes pc = .ok (.areturn, 1)) {Qv : Value → Heap → Prop} (hq : Qv w h) (h1 : kc ≤ fc) (h2 : ks ≤ fs) : Run p e below s n0 fc fs (Rt Qv) (T.setTop (mkF m pc ls (w :: st))) := by
  subst hr
  have hn : narrow t w = w := by cases w <;> cases t <;> first | rfl | exact absurd hw Bool.noConfusion | exact absurd ht Bool.noConfusion
  exact leaveQ X (v := some w) (fun q => by cases q) ⟨w, rfl, hq⟩ h1 h2 fun Y _ g => retOut Y X.1.1 X.1.2.2.2.2.1 hn (Or.inr (Or.inr (Or.inr (Or.inr ⟨rfl, ht, hw⟩)))) (X.d hd) g
theorem ireturn (X : Sd Z y bytes maxL ret p l e R s m args below meth c n0 h kc ks T) {t : FieldType} (hr : ret = some t) (ht : t = .int ∨ t = .boolean ∨ t = .byte ∨ t = .char ∨ t = .short) {pc : Nat} {ls : Array Slot} {z : Int32} {st : List Value} (hn : narrow t (.int z) = .int z) (hd : decode bytes pc = .ok (.ireturn, 1)) {Qv : Value → Heap → Prop} (hq : Qv (.int z) h) (h1 : kc ≤ fc) (h2 : ks ≤ fs) : Run p e below s n0 fc fs (Rt Qv) (T.setTop (mkF m pc ls (.int z :: st))) := by
  subst hr
  exact leaveQ X (v := some (.int z)) (fun q => by cases q) ⟨_, rfl, hq⟩ h1 h2 fun Y _ g => retOut Y X.1.1 X.1.2.2.2.2.1 hn (Or.inl ⟨rfl, ht, z, rfl⟩) (X.d hd) g
theorem lreturn (X : Sd Z y bytes maxL ret p l e R s m args below meth c n0 h kc ks T) (hr : ret = some .long) {pc : Nat} {ls : Array Slot} {z : Int64} {st : List Value} (hd : decode bytes pc = .ok (.lreturn, 1)) {Qv : Value → Heap → Prop} (hq : Qv (.long z) h) (h1 : kc ≤ fc) (h2 : ks ≤ fs) : Run p e below s n0 fc fs (Rt Qv) (T.setTop (mkF m pc ls (.long z :: st))) := by
  subst hr
  exact leaveQ X (v := some (.long z)) (fun q => by cases q) ⟨_, rfl, hq⟩ h1 h2 fun Y _ g => retOut Y X.1.1 X.1.2.2.2.2.1 rfl (Or.inr (Or.inl ⟨rfl, rfl, z, rfl⟩)) (X.d hd) g
theorem vreturn (X : Sd Z y bytes maxL ret p l e R s m args below meth c n0 h kc ks T) (hr : ret = none) {pc : Nat} {ls : Array Slot} (hd : decode bytes pc = .ok (.return_, 1)) {Qn : Heap → Prop} (hq : Qn h) (h1 : kc ≤ fc) (h2 : ks ≤ fs) : Run p e below s n0 fc fs (Rn Qn) (T.setTop (mkF m pc ls [])) := by
  subst hr
  exact leaveQ X (v := none) (fun _ => rfl) ⟨rfl, hq⟩ h1 h2 fun Y _ g => Y.returnOut X.1.1 X.1.2.2.2.2.1 (X.d hd) g
theorem narB {b : Bool} : narrow .boolean (.int (if b then 1 else 0)) = .int (if b then 1 else 0) := by cases b <;> rfl

theorem iloadN (X : Sd Z y bytes maxL ret p l e R s m args below meth c n0 h kc ks T) {pc n : Nat} {ls : Array Slot} {st : List Value} {k : Fin 4} {v : Int32} (hd : decode bytes pc = .ok (.iload_n k, 1)) (hl : ls[k.val]? = some (.val (.int v))) (hn : pc + 1 = n) (K : Run p e below s n0 fc fs Q (T.setTop (mkF m n ls (.int v :: st)))) : Run p e below s n0 fc fs Q (T.setTop (mkF m pc ls st)) := by
  subst hn; exact K.st fun _ k => XS.iloadN X.hr X.1.1 rfl (X.d hd) hl k
theorem iload (X : Sd Z y bytes maxL ret p l e R s m args below meth c n0 h kc ks T) {pc n : Nat} {ls : Array Slot} {st : List Value} {j : Nat} {v : Int32} (hd : decode bytes pc = .ok (.iload j, 2)) (hl : ls[j]? = some (.val (.int v))) (hn : pc + 2 = n) (K : Run p e below s n0 fc fs Q (T.setTop (mkF m n ls (.int v :: st)))) : Run p e below s n0 fc fs Q (T.setTop (mkF m pc ls st)) := by
  subst hn; exact K.st fun _ k => XS.iload X.hr X.1.1 rfl (X.d hd) hl k
theorem istoreN (X : Sd Z y bytes maxL ret p l e R s m args below meth c n0 h kc ks T) {pc n : Nat} {ls : Array Slot} {st : List Value} {k : Fin 4} {v : Int32} {l' : Array Slot} (hd : decode bytes pc = .ok (.istore_n k, 1)) (hl : storeLocals ls k.val (.int v) = some l') (hn : pc + 1 = n) (K : Run p e below s n0 fc fs Q (T.setTop (mkF m n l' st))) : Run p e below s n0 fc fs Q (T.setTop (mkF m pc ls (.int v :: st))) := by
  subst hn; exact K.st fun _ k => XS.istoreN X.hr X.1.1 rfl (X.d hd) rfl hl k
theorem istore (X : Sd Z y bytes maxL ret p l e R s m args below meth c n0 h kc ks T) {pc n : Nat} {ls : Array Slot} {st : List Value} {j : Nat} {v : Int32} {l' : Array Slot} (hd : decode bytes pc = .ok (.istore j, 2)) (hl : storeLocals ls j (.int v) = some l') (hn : pc + 2 = n) (K : Run p e below s n0 fc fs Q (T.setTop (mkF m n l' st))) : Run p e below s n0 fc fs Q (T.setTop (mkF m pc ls (.int v :: st))) := by
  subst hn; exact K.st fun _ k => XS.istore X.hr X.1.1 rfl (X.d hd) rfl hl k
theorem lloadN (X : Sd Z y bytes maxL ret p l e R s m args below meth c n0 h kc ks T) {pc n : Nat} {ls : Array Slot} {st : List Value} {k : Fin 4} {v : Int64} (hd : decode bytes pc = .ok (.lload_n k, 1)) (hl : ls[k.val]? = some (.val (.long v))) (hn : pc + 1 = n) (K : Run p e below s n0 fc fs Q (T.setTop (mkF m n ls (.long v :: st)))) : Run p e below s n0 fc fs Q (T.setTop (mkF m pc ls st)) := by
  subst hn; exact K.st fun _ k => XS.lloadN X.hr X.1.1 rfl (X.d hd) hl k
theorem lload (X : Sd Z y bytes maxL ret p l e R s m args below meth c n0 h kc ks T) {pc n : Nat} {ls : Array Slot} {st : List Value} {j : Nat} {v : Int64} (hd : decode bytes pc = .ok (.lload j, 2)) (hl : ls[j]? = some (.val (.long v))) (hn : pc + 2 = n) (K : Run p e below s n0 fc fs Q (T.setTop (mkF m n ls (.long v :: st)))) : Run p e below s n0 fc fs Q (T.setTop (mkF m pc ls st)) := by
  subst hn; exact K.st fun _ k => XS.lload X.hr X.1.1 rfl (X.d hd) hl k
theorem lstoreN (X : Sd Z y bytes maxL ret p l e R s m args below meth c n0 h kc ks T) {pc n : Nat} {ls : Array Slot} {st : List Value} {k : Fin 4} {v : Int64} {l' : Array Slot} (hd : decode bytes pc = .ok (.lstore_n k, 1)) (hl : storeLocals ls k.val (.long v) = some l') (hn : pc + 1 = n) (K : Run p e below s n0 fc fs Q (T.setTop (mkF m n l' st))) : Run p e below s n0 fc fs Q (T.setTop (mkF m pc ls (.long v :: st))) := by
  subst hn; exact K.st fun _ k => XS.lstoreN X.hr X.1.1 rfl (X.d hd) rfl hl k
theorem lstore (X : Sd Z y bytes maxL ret p l e R s m args below meth c n0 h kc ks T) {pc n : Nat} {ls : Array Slot} {st : List Value} {j : Nat} {v : Int64} {l' : Array Slot} (hd : decode bytes pc = .ok (.lstore j, 2)) (hl : storeLocals ls j (.long v) = some l') (hn : pc + 2 = n) (K : Run p e below s n0 fc fs Q (T.setTop (mkF m n l' st))) : Run p e below s n0 fc fs Q (T.setTop (mkF m pc ls (.long v :: st))) := by
  subst hn; exact K.st fun _ k => XS.lstore X.hr X.1.1 rfl (X.d hd) rfl hl k
theorem aloadN (X : Sd Z y bytes maxL ret p l e R s m args below meth c n0 h kc ks T) {pc n : Nat} {ls : Array Slot} {st : List Value} {k : Fin 4} {v : Value} (hd : decode bytes pc = .ok (.aload_n k, 1)) (hl : ls[k.val]? = some (.val v)) (hv : v.isRef = true) (hn : pc + 1 = n) (K : Run p e below s n0 fc fs Q (T.setTop (mkF m n ls (v :: st)))) : Run p e below s n0 fc fs Q (T.setTop (mkF m pc ls st)) := by
  subst hn; exact K.st fun _ k => XS.aloadN X.hr X.1.1 rfl (X.d hd) hl hv k
theorem aload (X : Sd Z y bytes maxL ret p l e R s m args below meth c n0 h kc ks T) {pc n : Nat} {ls : Array Slot} {st : List Value} {j : Nat} {v : Value} (hd : decode bytes pc = .ok (.aload j, 2)) (hl : ls[j]? = some (.val v)) (hv : v.isRef = true) (hn : pc + 2 = n) (K : Run p e below s n0 fc fs Q (T.setTop (mkF m n ls (v :: st)))) : Run p e below s n0 fc fs Q (T.setTop (mkF m pc ls st)) := by
  subst hn; exact K.st fun _ k => XS.aload X.hr X.1.1 rfl (X.d hd) hl hv k
theorem astoreN (X : Sd Z y bytes maxL ret p l e R s m args below meth c n0 h kc ks T) {pc n : Nat} {ls : Array Slot} {st : List Value} {k : Fin 4} {v : Value} {l' : Array Slot} (hd : decode bytes pc = .ok (.astore_n k, 1)) (hv : v.isRef = true) (hl : storeLocals ls k.val v = some l') (hn : pc + 1 = n) (K : Run p e below s n0 fc fs Q (T.setTop (mkF m n l' st))) : Run p e below s n0 fc fs Q (T.setTop (mkF m pc ls (v :: st))) := by
  subst hn; exact K.st fun _ k => XS.astoreN X.hr X.1.1 rfl (X.d hd) rfl hv hl k
theorem astore (X : Sd Z y bytes maxL ret p l e R s m args below meth c n0 h kc ks T) {pc n : Nat} {ls : Array Slot} {st : List Value} {j : Nat} {v : Value} {l' : Array Slot} (hd : decode bytes pc = .ok (.astore j, 2)) (hv : v.isRef = true) (hl : storeLocals ls j v = some l') (hn : pc + 2 = n) (K : Run p e below s n0 fc fs Q (T.setTop (mkF m n l' st))) : Run p e below s n0 fc fs Q (T.setTop (mkF m pc ls (v :: st))) := by
  subst hn; exact K.st fun _ k => XS.astore X.hr X.1.1 rfl (X.d hd) rfl hv hl k
theorem iconst (X : Sd Z y bytes maxL ret p l e R s m args below meth c n0 h kc ks T) {pc n : Nat} {ls : Array Slot} {st : List Value} {i : Int} {z : Int32} (hd : decode bytes pc = .ok (.iconst i, 1)) (hz : Int32.ofInt i = z) (hn : pc + 1 = n) (K : Run p e below s n0 fc fs Q (T.setTop (mkF m n ls (.int z :: st)))) : Run p e below s n0 fc fs Q (T.setTop (mkF m pc ls st)) := by
  subst hn hz; exact K.st fun _ k => XS.iconst X.hr X.1.1 rfl (X.d hd) k
theorem bipush (X : Sd Z y bytes maxL ret p l e R s m args below meth c n0 h kc ks T) {pc n : Nat} {ls : Array Slot} {st : List Value} {i : Int} {z : Int32} (hd : decode bytes pc = .ok (.bipush i, 2)) (hz : (Int8.ofInt i).toInt32 = z) (hn : pc + 2 = n) (K : Run p e below s n0 fc fs Q (T.setTop (mkF m n ls (.int z :: st)))) : Run p e below s n0 fc fs Q (T.setTop (mkF m pc ls st)) := by
  subst hn hz; exact K.st fun _ k => XS.bipush X.hr X.1.1 rfl (X.d hd) k
theorem sipush (X : Sd Z y bytes maxL ret p l e R s m args below meth c n0 h kc ks T) {pc n : Nat} {ls : Array Slot} {st : List Value} {i : Int} {z : Int32} (hd : decode bytes pc = .ok (.sipush i, 3)) (hz : (Int16.ofInt i).toInt32 = z) (hn : pc + 3 = n) (K : Run p e below s n0 fc fs Q (T.setTop (mkF m n ls (.int z :: st)))) : Run p e below s n0 fc fs Q (T.setTop (mkF m pc ls st)) := by
  subst hn hz; exact K.st fun _ k => XS.sipush X.hr X.1.1 rfl (X.d hd) k
theorem anull (X : Sd Z y bytes maxL ret p l e R s m args below meth c n0 h kc ks T) {pc n : Nat} {ls : Array Slot} {st : List Value}  (hd : decode bytes pc = .ok (.aconst_null, 1)) (hn : pc + 1 = n) (K : Run p e below s n0 fc fs Q (T.setTop (mkF m n ls (.null :: st)))) : Run p e below s n0 fc fs Q (T.setTop (mkF m pc ls st)) := by
  subst hn; exact K.st fun _ k => XS.aconstNull X.hr X.1.1 rfl (X.d hd) k
theorem iadd (X : Sd Z y bytes maxL ret p l e R s m args below meth c n0 h kc ks T) {pc n : Nat} {ls : Array Slot} {st : List Value} {u v : Int32} (hd : decode bytes pc = .ok (.iadd, 1)) (hn : pc + 1 = n) (K : Run p e below s n0 fc fs Q (T.setTop (mkF m n ls (.int (u + v) :: st)))) : Run p e below s n0 fc fs Q (T.setTop (mkF m pc ls (.int v :: .int u :: st))) := by
  subst hn; exact K.st fun _ k => XS.iadd X.hr X.1.1 rfl (X.d hd) rfl k
theorem ladd (X : Sd Z y bytes maxL ret p l e R s m args below meth c n0 h kc ks T) {pc n : Nat} {ls : Array Slot} {st : List Value} {u v : Int64} (hd : decode bytes pc = .ok (.ladd, 1)) (hn : pc + 1 = n) (K : Run p e below s n0 fc fs Q (T.setTop (mkF m n ls (.long (u + v) :: st)))) : Run p e below s n0 fc fs Q (T.setTop (mkF m pc ls (.long v :: .long u :: st))) := by
  subst hn; exact K.st fun _ k => XS.ladd X.hr X.1.1 rfl (X.d hd) rfl k
theorem isub (X : Sd Z y bytes maxL ret p l e R s m args below meth c n0 h kc ks T) {pc n : Nat} {ls : Array Slot} {st : List Value} {u v : Int32} (hd : decode bytes pc = .ok (.isub, 1)) (hn : pc + 1 = n) (K : Run p e below s n0 fc fs Q (T.setTop (mkF m n ls (.int (u - v) :: st)))) : Run p e below s n0 fc fs Q (T.setTop (mkF m pc ls (.int v :: .int u :: st))) := by
  subst hn; exact K.st fun _ k => XS.isub X.hr X.1.1 rfl (X.d hd) rfl k
theorem lsub (X : Sd Z y bytes maxL ret p l e R s m args below meth c n0 h kc ks T) {pc n : Nat} {ls : Array Slot} {st : List Value} {u v : Int64} (hd : decode bytes pc = .ok (.lsub, 1)) (hn : pc + 1 = n) (K : Run p e below s n0 fc fs Q (T.setTop (mkF m n ls (.long (u - v) :: st)))) : Run p e below s n0 fc fs Q (T.setTop (mkF m pc ls (.long v :: .long u :: st))) := by
  subst hn; exact K.st fun _ k => XS.lsub X.hr X.1.1 rfl (X.d hd) rfl k
theorem imul (X : Sd Z y bytes maxL ret p l e R s m args below meth c n0 h kc ks T) {pc n : Nat} {ls : Array Slot} {st : List Value} {u v : Int32} (hd : decode bytes pc = .ok (.imul, 1)) (hn : pc + 1 = n) (K : Run p e below s n0 fc fs Q (T.setTop (mkF m n ls (.int (u * v) :: st)))) : Run p e below s n0 fc fs Q (T.setTop (mkF m pc ls (.int v :: .int u :: st))) := by
  subst hn; exact K.st fun _ k => XS.imul X.hr X.1.1 rfl (X.d hd) rfl k
theorem lmul (X : Sd Z y bytes maxL ret p l e R s m args below meth c n0 h kc ks T) {pc n : Nat} {ls : Array Slot} {st : List Value} {u v : Int64} (hd : decode bytes pc = .ok (.lmul, 1)) (hn : pc + 1 = n) (K : Run p e below s n0 fc fs Q (T.setTop (mkF m n ls (.long (u * v) :: st)))) : Run p e below s n0 fc fs Q (T.setTop (mkF m pc ls (.long v :: .long u :: st))) := by
  subst hn; exact K.st fun _ k => XS.lmul X.hr X.1.1 rfl (X.d hd) rfl k
theorem iand (X : Sd Z y bytes maxL ret p l e R s m args below meth c n0 h kc ks T) {pc n : Nat} {ls : Array Slot} {st : List Value} {u v : Int32} (hd : decode bytes pc = .ok (.iand, 1)) (hn : pc + 1 = n) (K : Run p e below s n0 fc fs Q (T.setTop (mkF m n ls (.int (u &&& v) :: st)))) : Run p e below s n0 fc fs Q (T.setTop (mkF m pc ls (.int v :: .int u :: st))) := by
  subst hn; exact K.st fun _ k => XS.iand X.hr X.1.1 rfl (X.d hd) rfl k
theorem land (X : Sd Z y bytes maxL ret p l e R s m args below meth c n0 h kc ks T) {pc n : Nat} {ls : Array Slot} {st : List Value} {u v : Int64} (hd : decode bytes pc = .ok (.land, 1)) (hn : pc + 1 = n) (K : Run p e below s n0 fc fs Q (T.setTop (mkF m n ls (.long (u &&& v) :: st)))) : Run p e below s n0 fc fs Q (T.setTop (mkF m pc ls (.long v :: .long u :: st))) := by
  subst hn; exact K.st fun _ k => XS.land X.hr X.1.1 rfl (X.d hd) rfl k
theorem ior (X : Sd Z y bytes maxL ret p l e R s m args below meth c n0 h kc ks T) {pc n : Nat} {ls : Array Slot} {st : List Value} {u v : Int32} (hd : decode bytes pc = .ok (.ior, 1)) (hn : pc + 1 = n) (K : Run p e below s n0 fc fs Q (T.setTop (mkF m n ls (.int (u ||| v) :: st)))) : Run p e below s n0 fc fs Q (T.setTop (mkF m pc ls (.int v :: .int u :: st))) := by
  subst hn; exact K.st fun _ k => XS.ior X.hr X.1.1 rfl (X.d hd) rfl k
theorem lor (X : Sd Z y bytes maxL ret p l e R s m args below meth c n0 h kc ks T) {pc n : Nat} {ls : Array Slot} {st : List Value} {u v : Int64} (hd : decode bytes pc = .ok (.lor, 1)) (hn : pc + 1 = n) (K : Run p e below s n0 fc fs Q (T.setTop (mkF m n ls (.long (u ||| v) :: st)))) : Run p e below s n0 fc fs Q (T.setTop (mkF m pc ls (.long v :: .long u :: st))) := by
  subst hn; exact K.st fun _ k => XS.lor X.hr X.1.1 rfl (X.d hd) rfl k
theorem ixor (X : Sd Z y bytes maxL ret p l e R s m args below meth c n0 h kc ks T) {pc n : Nat} {ls : Array Slot} {st : List Value} {u v : Int32} (hd : decode bytes pc = .ok (.ixor, 1)) (hn : pc + 1 = n) (K : Run p e below s n0 fc fs Q (T.setTop (mkF m n ls (.int (u ^^^ v) :: st)))) : Run p e below s n0 fc fs Q (T.setTop (mkF m pc ls (.int v :: .int u :: st))) := by
  subst hn; exact K.st fun _ k => XS.ixor X.hr X.1.1 rfl (X.d hd) rfl k
theorem lxor (X : Sd Z y bytes maxL ret p l e R s m args below meth c n0 h kc ks T) {pc n : Nat} {ls : Array Slot} {st : List Value} {u v : Int64} (hd : decode bytes pc = .ok (.lxor, 1)) (hn : pc + 1 = n) (K : Run p e below s n0 fc fs Q (T.setTop (mkF m n ls (.long (u ^^^ v) :: st)))) : Run p e below s n0 fc fs Q (T.setTop (mkF m pc ls (.long v :: .long u :: st))) := by
  subst hn; exact K.st fun _ k => XS.lxor X.hr X.1.1 rfl (X.d hd) rfl k
theorem ishl (X : Sd Z y bytes maxL ret p l e R s m args below meth c n0 h kc ks T) {pc n : Nat} {ls : Array Slot} {st : List Value} {u v : Int32} (hd : decode bytes pc = .ok (.ishl, 1)) (hn : pc + 1 = n) (K : Run p e below s n0 fc fs Q (T.setTop (mkF m n ls (.int (u <<< (v &&& 31)) :: st)))) : Run p e below s n0 fc fs Q (T.setTop (mkF m pc ls (.int v :: .int u :: st))) := by
  subst hn; exact K.st fun _ k => XS.ishl X.hr X.1.1 rfl (X.d hd) rfl k
theorem ishr (X : Sd Z y bytes maxL ret p l e R s m args below meth c n0 h kc ks T) {pc n : Nat} {ls : Array Slot} {st : List Value} {u v : Int32} (hd : decode bytes pc = .ok (.ishr, 1)) (hn : pc + 1 = n) (K : Run p e below s n0 fc fs Q (T.setTop (mkF m n ls (.int (u >>> (v &&& 31)) :: st)))) : Run p e below s n0 fc fs Q (T.setTop (mkF m pc ls (.int v :: .int u :: st))) := by
  subst hn; exact K.st fun _ k => XS.ishr X.hr X.1.1 rfl (X.d hd) rfl k
theorem iushr (X : Sd Z y bytes maxL ret p l e R s m args below meth c n0 h kc ks T) {pc n : Nat} {ls : Array Slot} {st : List Value} {u v : Int32} (hd : decode bytes pc = .ok (.iushr, 1)) (hn : pc + 1 = n) (K : Run p e below s n0 fc fs Q (T.setTop (mkF m n ls (.int ((u.toUInt32 >>> (v &&& 31).toUInt32).toInt32) :: st)))) : Run p e below s n0 fc fs Q (T.setTop (mkF m pc ls (.int v :: .int u :: st))) := by
  subst hn; exact K.st fun _ k => XS.iushr X.hr X.1.1 rfl (X.d hd) rfl k
theorem lshl (X : Sd Z y bytes maxL ret p l e R s m args below meth c n0 h kc ks T) {pc n : Nat} {ls : Array Slot} {st : List Value} {u : Int64} {v : Int32} (hd : decode bytes pc = .ok (.lshl, 1)) (hn : pc + 1 = n) (K : Run p e below s n0 fc fs Q (T.setTop (mkF m n ls (.long (u <<< (v &&& 0x3f).toInt64) :: st)))) : Run p e below s n0 fc fs Q (T.setTop (mkF m pc ls (.int v :: .long u :: st))) := by
  subst hn; exact K.st fun _ k => XS.lshl X.hr X.1.1 rfl (X.d hd) rfl k
theorem lshr (X : Sd Z y bytes maxL ret p l e R s m args below meth c n0 h kc ks T) {pc n : Nat} {ls : Array Slot} {st : List Value} {u : Int64} {v : Int32} (hd : decode bytes pc = .ok (.lshr, 1)) (hn : pc + 1 = n) (K : Run p e below s n0 fc fs Q (T.setTop (mkF m n ls (.long (u >>> (v &&& 0x3f).toInt64) :: st)))) : Run p e below s n0 fc fs Q (T.setTop (mkF m pc ls (.int v :: .long u :: st))) := by
  subst hn; exact K.st fun _ k => XS.lshr X.hr X.1.1 rfl (X.d hd) rfl k
theorem lushr (X : Sd Z y bytes maxL ret p l e R s m args below meth c n0 h kc ks T) {pc n : Nat} {ls : Array Slot} {st : List Value} {u : Int64} {v : Int32} (hd : decode bytes pc = .ok (.lushr, 1)) (hn : pc + 1 = n) (K : Run p e below s n0 fc fs Q (T.setTop (mkF m n ls (.long ((u.toUInt64 >>> (v &&& 0x3f).toInt64.toUInt64).toInt64) :: st)))) : Run p e below s n0 fc fs Q (T.setTop (mkF m pc ls (.int v :: .long u :: st))) := by
  subst hn; exact K.st fun _ k => XS.lushr X.hr X.1.1 rfl (X.d hd) rfl k
theorem ineg (X : Sd Z y bytes maxL ret p l e R s m args below meth c n0 h kc ks T) {pc n : Nat} {ls : Array Slot} {st : List Value} {u : Int32} (hd : decode bytes pc = .ok (.ineg, 1)) (hn : pc + 1 = n) (K : Run p e below s n0 fc fs Q (T.setTop (mkF m n ls (.int (-u) :: st)))) : Run p e below s n0 fc fs Q (T.setTop (mkF m pc ls (.int u :: st))) := by
  subst hn; exact K.st fun _ k => XS.ineg X.hr X.1.1 rfl (X.d hd) rfl k
theorem i2l (X : Sd Z y bytes maxL ret p l e R s m args below meth c n0 h kc ks T) {pc n : Nat} {ls : Array Slot} {st : List Value} {u : Int32} (hd : decode bytes pc = .ok (.i2l, 1)) (hn : pc + 1 = n) (K : Run p e below s n0 fc fs Q (T.setTop (mkF m n ls (.long u.toInt64 :: st)))) : Run p e below s n0 fc fs Q (T.setTop (mkF m pc ls (.int u :: st))) := by
  subst hn; exact K.st fun _ k => XS.i2l X.hr X.1.1 rfl (X.d hd) rfl k
theorem l2i (X : Sd Z y bytes maxL ret p l e R s m args below meth c n0 h kc ks T) {pc n : Nat} {ls : Array Slot} {st : List Value} {u : Int64} (hd : decode bytes pc = .ok (.l2i, 1)) (hn : pc + 1 = n) (K : Run p e below s n0 fc fs Q (T.setTop (mkF m n ls (.int u.toInt32 :: st)))) : Run p e below s n0 fc fs Q (T.setTop (mkF m pc ls (.long u :: st))) := by
  subst hn; exact K.st fun _ k => XS.l2i X.hr X.1.1 rfl (X.d hd) rfl k
theorem i2b (X : Sd Z y bytes maxL ret p l e R s m args below meth c n0 h kc ks T) {pc n : Nat} {ls : Array Slot} {st : List Value} {u : Int32} (hd : decode bytes pc = .ok (.i2b, 1)) (hn : pc + 1 = n) (K : Run p e below s n0 fc fs Q (T.setTop (mkF m n ls (.int u.toInt8.toInt32 :: st)))) : Run p e below s n0 fc fs Q (T.setTop (mkF m pc ls (.int u :: st))) := by
  subst hn; exact K.st fun _ k => XS.i2b X.hr X.1.1 rfl (X.d hd) rfl k
theorem i2s (X : Sd Z y bytes maxL ret p l e R s m args below meth c n0 h kc ks T) {pc n : Nat} {ls : Array Slot} {st : List Value} {u : Int32} (hd : decode bytes pc = .ok (.i2s, 1)) (hn : pc + 1 = n) (K : Run p e below s n0 fc fs Q (T.setTop (mkF m n ls (.int u.toInt16.toInt32 :: st)))) : Run p e below s n0 fc fs Q (T.setTop (mkF m pc ls (.int u :: st))) := by
  subst hn; exact K.st fun _ k => XS.i2s X.hr X.1.1 rfl (X.d hd) rfl k
theorem i2c (X : Sd Z y bytes maxL ret p l e R s m args below meth c n0 h kc ks T) {pc n : Nat} {ls : Array Slot} {st : List Value} {u : Int32} (hd : decode bytes pc = .ok (.i2c, 1)) (hn : pc + 1 = n) (K : Run p e below s n0 fc fs Q (T.setTop (mkF m n ls (.int u.toUInt32.toUInt16.toUInt32.toInt32 :: st)))) : Run p e below s n0 fc fs Q (T.setTop (mkF m pc ls (.int u :: st))) := by
  subst hn; exact K.st fun _ k => XS.i2c X.hr X.1.1 rfl (X.d hd) rfl k
theorem lcmp (X : Sd Z y bytes maxL ret p l e R s m args below meth c n0 h kc ks T) {pc n : Nat} {ls : Array Slot} {st : List Value} {u v : Int64} (hd : decode bytes pc = .ok (.lcmp, 1)) (hn : pc + 1 = n) (K : Run p e below s n0 fc fs Q (T.setTop (mkF m n ls (.int (lcmpW u v) :: st)))) : Run p e below s n0 fc fs Q (T.setTop (mkF m pc ls (.long v :: .long u :: st))) := by
  subst hn; exact K.st fun _ k => XS.lcmp X.hr X.1.1 rfl (X.d hd) rfl k
theorem lconst (X : Sd Z y bytes maxL ret p l e R s m args below meth c n0 h kc ks T) {pc n : Nat} {ls : Array Slot} {st : List Value} {k : Fin 2} {z : Int64} (hd : decode bytes pc = .ok (.lconst k, 1)) (hz : Int64.ofNat k.val = z) (hn : pc + 1 = n) (K : Run p e below s n0 fc fs Q (T.setTop (mkF m n ls (.long z :: st)))) : Run p e below s n0 fc fs Q (T.setTop (mkF m pc ls st)) := by
  subst hn hz; exact K.st fun _ k => XS.lconst X.hr X.1.1 rfl (X.d hd) k
theorem lrem (X : Sd Z y bytes maxL ret p l e R s m args below meth c n0 h kc ks T) {pc n : Nat} {ls : Array Slot} {st : List Value} {u v : Int64} (hd : decode bytes pc = .ok (.lrem, 1)) (hv : v ≠ 0) (hn : pc + 1 = n) (K : Run p e below s n0 fc fs Q (T.setTop (mkF m n ls (.long (u - (u / v) * v) :: st)))) : Run p e below s n0 fc fs Q (T.setTop (mkF m pc ls (.long v :: .long u :: st))) := by
  subst hn; exact K.st fun _ k => XS.lrem X.hr X.1.1 rfl (X.d hd) rfl hv k
theorem irem (X : Sd Z y bytes maxL ret p l e R s m args below meth c n0 h kc ks T) {pc n : Nat} {ls : Array Slot} {st : List Value} {u v : Int32} (hd : decode bytes pc = .ok (.irem, 1)) (hv : v ≠ 0) (hn : pc + 1 = n) (K : Run p e below s n0 fc fs Q (T.setTop (mkF m n ls (.int (u % v) :: st)))) : Run p e below s n0 fc fs Q (T.setTop (mkF m pc ls (.int v :: .int u :: st))) := by
  subst hn; obtain ⟨q, L, a, b, Y, -⟩ := X; exact K.st fun _ k => iremM Y q.1 rfl (q.2.2.1 ▸ hd) rfl hv k
theorem idiv (X : Sd Z y bytes maxL ret p l e R s m args below meth c n0 h kc ks T) {pc n : Nat} {ls : Array Slot} {st : List Value} {u v : Int32} (hd : decode bytes pc = .ok (.idiv, 1)) (hv : v ≠ 0) (hn : pc + 1 = n) (K : Run p e below s n0 fc fs Q (T.setTop (mkF m n ls (.int (u / v) :: st)))) : Run p e below s n0 fc fs Q (T.setTop (mkF m pc ls (.int v :: .int u :: st))) := by
  subst hn; exact K.st fun _ k => XS.idiv X.hr X.1.1 rfl (X.d hd) rfl hv k
theorem dup (X : Sd Z y bytes maxL ret p l e R s m args below meth c n0 h kc ks T) {pc n : Nat} {ls : Array Slot} {st : List Value} {v : Value} (hd : decode bytes pc = .ok (.dup, 1)) (hc : v.category = 1) (hn : pc + 1 = n) (K : Run p e below s n0 fc fs Q (T.setTop (mkF m n ls (v :: v :: st)))) : Run p e below s n0 fc fs Q (T.setTop (mkF m pc ls (v :: st))) := by
  subst hn; exact K.st fun _ k => XS.dup X.hr X.1.1 rfl (X.d hd) rfl hc k
theorem pop (X : Sd Z y bytes maxL ret p l e R s m args below meth c n0 h kc ks T) {pc n : Nat} {ls : Array Slot} {st : List Value} {v : Value} (hd : decode bytes pc = .ok (.pop, 1)) (hc : v.category = 1) (hn : pc + 1 = n) (K : Run p e below s n0 fc fs Q (T.setTop (mkF m n ls st))) : Run p e below s n0 fc fs Q (T.setTop (mkF m pc ls (v :: st))) := by
  subst hn; exact K.st fun _ k => XS.pop X.hr X.1.1 rfl (X.d hd) rfl hc k
theorem dupX1 (X : Sd Z y bytes maxL ret p l e R s m args below meth c n0 h kc ks T) {pc n : Nat} {ls : Array Slot} {st : List Value} {u v : Value} (hd : decode bytes pc = .ok (.dup_x1, 1)) (hc : u.category = 1) (hc' : v.category = 1) (hn : pc + 1 = n) (K : Run p e below s n0 fc fs Q (T.setTop (mkF m n ls (u :: v :: u :: st)))) : Run p e below s n0 fc fs Q (T.setTop (mkF m pc ls (u :: v :: st))) := by
  subst hn; exact K.st fun _ k => XS.dupX1 X.hr X.1.1 rfl (X.d hd) rfl hc hc' k
theorem iinc (X : Sd Z y bytes maxL ret p l e R s m args below meth c n0 h kc ks T) {pc n j : Nat} {ls l' : Array Slot} {st : List Value} {i : Int} {z v : Int32} (hd : decode bytes pc = .ok (.iinc j i, 3)) (hz : Int32.ofInt i = z) (hl : ls[j]? = some (.val (.int v))) (hl' : storeLocals ls j (.int (v + z)) = some l') (hn : pc + 3 = n) (K : Run p e below s n0 fc fs Q (T.setTop (mkF m n l' st))) : Run p e below s n0 fc fs Q (T.setTop (mkF m pc ls st)) := by
  subst hn hz; exact K.st fun _ k => XS.iinc X.hr X.1.1 rfl (X.d hd) hl hl' k
theorem goto (X : Sd Z y bytes maxL ret p l e R s m args below meth c n0 h kc ks T) {pc n : Nat} {ls : Array Slot} {st : List Value} {o : Int} (hd : decode bytes pc = .ok (.goto o, 3)) (ho : 0 ≤ (pc : Int) + o) (hn : ((pc : Int) + o).toNat = n) (K : Run p e below s n0 fc fs Q (T.setTop (mkF m n ls st))) : Run p e below s n0 fc fs Q (T.setTop (mkF m pc ls st)) := K.st fun _ k => XS.goto X.hr X.1.1 rfl rfl (X.d hd) ho hn k
theorem ldc (X : Sd Z y bytes maxL ret p l e R s m args below meth c n0 h kc ks T) {pc n index : Nat} {ls : Array Slot} {st : List Value} {v : Int32} (hd : decode bytes pc = .ok (.ldc index, 2)) (w : (Cond.constant y.cls index v).before a0 Z = true) (hn : pc + 2 = n) (K : Run p e below s n0 fc fs Q (T.setTop (mkF m n ls (.int v :: st)))) : Run p e below s n0 fc fs Q (T.setTop (mkF m pc ls st)) := by
  subst hn; obtain ⟨q, L, i, j, Y, -⟩ := X; exact K.st fun _ k => Y.ldcInt q.1 q.2.2.2.2.2.2.1 (mvT q.2.1 w) (g := mkF m pc ls st) rfl (q.2.2.1 ▸ hd) _ k
theorem ldc2 (X : Sd Z y bytes maxL ret p l e R s m args below meth c n0 h kc ks T) {pc n index : Nat} {ls : Array Slot} {st : List Value} {v : Int64} (hd : decode bytes pc = .ok (.ldc2_w index, 3)) (w : (Cond.constantLong y.cls index v).before a0 Z = true) (hn : pc + 3 = n) (K : Run p e below s n0 fc fs Q (T.setTop (mkF m n ls (.long v :: st)))) : Run p e below s n0 fc fs Q (T.setTop (mkF m pc ls st)) := by
  subst hn; obtain ⟨q, L, i, j, Y, -⟩ := X; exact K.st fun _ k => Y.ldc2Long q.1 q.2.2.2.2.2.2.1 (mvT q.2.1 w) (g := mkF m pc ls st) rfl (q.2.2.1 ▸ hd) _ k
theorem ifc (X : Sd Z y bytes maxL ret p l e R s m args below meth c n0 h kc ks T) {pc n1 n2 : Nat} {ls : Array Slot} {st : List Value} {cd : ClassFile.Cond} {x : Int32} {o : Int} (hd : decode bytes pc = .ok (.ifCond cd o, 3)) (ho : 0 ≤ (pc : Int) + o) (h1 : ((pc : Int) + o).toNat = n1) (h2 : pc + 3 = n2) (K1 : ifCond.holds cd x = true → Run p e below s n0 fc fs Q (T.setTop (mkF m n1 ls st))) (K2 : ifCond.holds cd x = false → Run p e below s n0 fc fs Q (T.setTop (mkF m n2 ls st))) : Run p e below s n0 fc fs Q (T.setTop (mkF m pc ls (.int x :: st))) := by
  cases hq : ifCond.holds cd x with
  | true => exact (K1 hq).st fun _ k => XS.ifYes X.hr X.1.1 rfl rfl (X.d hd) rfl hq ho h1 k
  | false => subst h2; exact (K2 hq).st fun _ k => XS.ifNo X.hr X.1.1 rfl (X.d hd) rfl hq k
theorem icc (X : Sd Z y bytes maxL ret p l e R s m args below meth c n0 h kc ks T) {pc n1 n2 : Nat} {ls : Array Slot} {st : List Value} {cd : ClassFile.Cond} {x v : Int32} {o : Int} (hd : decode bytes pc = .ok (.if_icmp cd o, 3)) (ho : 0 ≤ (pc : Int) + o) (h1 : ((pc : Int) + o).toNat = n1) (h2 : pc + 3 = n2) (K1 : if_icmp.holds cd x v = true → Run p e below s n0 fc fs Q (T.setTop (mkF m n1 ls st))) (K2 : if_icmp.holds cd x v = false → Run p e below s n0 fc fs Q (T.setTop (mkF m n2 ls st))) : Run p e below s n0 fc fs Q (T.setTop (mkF m pc ls (.int v :: .int x :: st))) := by
  cases hq : if_icmp.holds cd x v with
  | true => exact (K1 hq).st fun _ k => XS.icmpYes X.hr X.1.1 rfl rfl (X.d hd) rfl hq ho h1 k
  | false => subst h2; exact (K2 hq).st fun _ k => XS.icmpNo X.hr X.1.1 rfl (X.d hd) rfl hq k
theorem ic_eq (X : Sd Z y bytes maxL ret p l e R s m args below meth c n0 h kc ks T) {pc n1 n2 : Nat} {ls : Array Slot} {st : List Value} {x v : Int32} {o : Int} (hd : decode bytes pc = .ok (.if_icmp .eq o, 3)) (ho : 0 ≤ (pc : Int) + o) (h1 : ((pc : Int) + o).toNat = n1) (h2 : pc + 3 = n2) (K1 : x = v → Run p e below s n0 fc fs Q (T.setTop (mkF m n1 ls st))) (K2 : ¬ x = v → Run p e below s n0 fc fs Q (T.setTop (mkF m n2 ls st))) : Run p e below s n0 fc fs Q (T.setTop (mkF m pc ls (.int v :: .int x :: st))) := by
  exact icc X hd ho h1 h2 (fun hq => K1 (Classical.byContradiction fun w => by rw [(feq w).1] at hq; cases hq)) (fun hq => K2 (fun w => by rw [(teq w).1] at hq; cases hq))
theorem if_eq (X : Sd Z y bytes maxL ret p l e R s m args below meth c n0 h kc ks T) {pc n1 n2 : Nat} {ls : Array Slot} {st : List Value} {x : Int32} {o : Int} (hd : decode bytes pc = .ok (.ifCond .eq o, 3)) (ho : 0 ≤ (pc : Int) + o) (h1 : ((pc : Int) + o).toNat = n1) (h2 : pc + 3 = n2) (K1 : x = 0 → Run p e below s n0 fc fs Q (T.setTop (mkF m n1 ls st))) (K2 : ¬ x = 0 → Run p e below s n0 fc fs Q (T.setTop (mkF m n2 ls st))) : Run p e below s n0 fc fs Q (T.setTop (mkF m pc ls (.int x :: st))) := by
  exact ifc X hd ho h1 h2 (fun hq => by rw [if0] at hq; exact K1 (Classical.byContradiction fun w => by rw [(feq w).1] at hq; cases hq)) (fun hq => by rw [if0] at hq; exact K2 (fun w => by rw [(teq w).1] at hq; cases hq))
theorem ic_ne (X : Sd Z y bytes maxL ret p l e R s m args below meth c n0 h kc ks T) {pc n1 n2 : Nat} {ls : Array Slot} {st : List Value} {x v : Int32} {o : Int} (hd : decode bytes pc = .ok (.if_icmp .ne o, 3)) (ho : 0 ≤ (pc : Int) + o) (h1 : ((pc : Int) + o).toNat = n1) (h2 : pc + 3 = n2) (K1 : ¬ x = v → Run p e below s n0 fc fs Q (T.setTop (mkF m n1 ls st))) (K2 : x = v → Run p e below s n0 fc fs Q (T.setTop (mkF m n2 ls st))) : Run p e below s n0 fc fs Q (T.setTop (mkF m pc ls (.int v :: .int x :: st))) := by
  exact icc X hd ho h1 h2 (fun hq => K1 (fun w => by rw [(teq w).2] at hq; cases hq)) (fun hq => K2 (Classical.byContradiction fun w => by rw [(feq w).2] at hq; cases hq))
theorem if_ne (X : Sd Z y bytes maxL ret p l e R s m args below meth c n0 h kc ks T) {pc n1 n2 : Nat} {ls : Array Slot} {st : List Value} {x : Int32} {o : Int} (hd : decode bytes pc = .ok (.ifCond .ne o, 3)) (ho : 0 ≤ (pc : Int) + o) (h1 : ((pc : Int) + o).toNat = n1) (h2 : pc + 3 = n2) (K1 : ¬ x = 0 → Run p e below s n0 fc fs Q (T.setTop (mkF m n1 ls st))) (K2 : x = 0 → Run p e below s n0 fc fs Q (T.setTop (mkF m n2 ls st))) : Run p e below s n0 fc fs Q (T.setTop (mkF m pc ls (.int x :: st))) := by
  exact ifc X hd ho h1 h2 (fun hq => by rw [if0] at hq; exact K1 (fun w => by rw [(teq w).2] at hq; cases hq)) (fun hq => by rw [if0] at hq; exact K2 (Classical.byContradiction fun w => by rw [(feq w).2] at hq; cases hq))
theorem ic_lt (X : Sd Z y bytes maxL ret p l e R s m args below meth c n0 h kc ks T) {pc n1 n2 : Nat} {ls : Array Slot} {st : List Value} {x v : Int32} {o : Int} (hd : decode bytes pc = .ok (.if_icmp .lt o, 3)) (ho : 0 ≤ (pc : Int) + o) (h1 : ((pc : Int) + o).toNat = n1) (h2 : pc + 3 = n2) (K1 : x < v → Run p e below s n0 fc fs Q (T.setTop (mkF m n1 ls st))) (K2 : ¬ x < v → Run p e below s n0 fc fs Q (T.setTop (mkF m n2 ls st))) : Run p e below s n0 fc fs Q (T.setTop (mkF m pc ls (.int v :: .int x :: st))) := by
  exact icc X hd ho h1 h2 (fun hq => K1 (Classical.byContradiction fun w => by rw [(flt w).1] at hq; cases hq)) (fun hq => K2 (fun w => by rw [(tlt w).1] at hq; cases hq))
theorem if_lt (X : Sd Z y bytes maxL ret p l e R s m args below meth c n0 h kc ks T) {pc n1 n2 : Nat} {ls : Array Slot} {st : List Value} {x : Int32} {o : Int} (hd : decode bytes pc = .ok (.ifCond .lt o, 3)) (ho : 0 ≤ (pc : Int) + o) (h1 : ((pc : Int) + o).toNat = n1) (h2 : pc + 3 = n2) (K1 : x < 0 → Run p e below s n0 fc fs Q (T.setTop (mkF m n1 ls st))) (K2 : ¬ x < 0 → Run p e below s n0 fc fs Q (T.setTop (mkF m n2 ls st))) : Run p e below s n0 fc fs Q (T.setTop (mkF m pc ls (.int x :: st))) := by
  exact ifc X hd ho h1 h2 (fun hq => by rw [if0] at hq; exact K1 (Classical.byContradiction fun w => by rw [(flt w).1] at hq; cases hq)) (fun hq => by rw [if0] at hq; exact K2 (fun w => by rw [(tlt w).1] at hq; cases hq))
theorem ic_ge (X : Sd Z y bytes maxL ret p l e R s m args below meth c n0 h kc ks T) {pc n1 n2 : Nat} {ls : Array Slot} {st : List Value} {x v : Int32} {o : Int} (hd : decode bytes pc = .ok (.if_icmp .ge o, 3)) (ho : 0 ≤ (pc : Int) + o) (h1 : ((pc : Int) + o).toNat = n1) (h2 : pc + 3 = n2) (K1 : ¬ x < v → Run p e below s n0 fc fs Q (T.setTop (mkF m n1 ls st))) (K2 : x < v → Run p e below s n0 fc fs Q (T.setTop (mkF m n2 ls st))) : Run p e below s n0 fc fs Q (T.setTop (mkF m pc ls (.int v :: .int x :: st))) := by
  exact icc X hd ho h1 h2 (fun hq => K1 (fun w => by rw [(tlt w).2.1] at hq; cases hq)) (fun hq => K2 (Classical.byContradiction fun w => by rw [(flt w).2.1] at hq; cases hq))
theorem if_ge (X : Sd Z y bytes maxL ret p l e R s m args below meth c n0 h kc ks T) {pc n1 n2 : Nat} {ls : Array Slot} {st : List Value} {x : Int32} {o : Int} (hd : decode bytes pc = .ok (.ifCond .ge o, 3)) (ho : 0 ≤ (pc : Int) + o) (h1 : ((pc : Int) + o).toNat = n1) (h2 : pc + 3 = n2) (K1 : ¬ x < 0 → Run p e below s n0 fc fs Q (T.setTop (mkF m n1 ls st))) (K2 : x < 0 → Run p e below s n0 fc fs Q (T.setTop (mkF m n2 ls st))) : Run p e below s n0 fc fs Q (T.setTop (mkF m pc ls (.int x :: st))) := by
  exact ifc X hd ho h1 h2 (fun hq => by rw [if0] at hq; exact K1 (fun w => by rw [(tlt w).2.1] at hq; cases hq)) (fun hq => by rw [if0] at hq; exact K2 (Classical.byContradiction fun w => by rw [(flt w).2.1] at hq; cases hq))
theorem ic_gt (X : Sd Z y bytes maxL ret p l e R s m args below meth c n0 h kc ks T) {pc n1 n2 : Nat} {ls : Array Slot} {st : List Value} {x v : Int32} {o : Int} (hd : decode bytes pc = .ok (.if_icmp .gt o, 3)) (ho : 0 ≤ (pc : Int) + o) (h1 : ((pc : Int) + o).toNat = n1) (h2 : pc + 3 = n2) (K1 : v < x → Run p e below s n0 fc fs Q (T.setTop (mkF m n1 ls st))) (K2 : ¬ v < x → Run p e below s n0 fc fs Q (T.setTop (mkF m n2 ls st))) : Run p e below s n0 fc fs Q (T.setTop (mkF m pc ls (.int v :: .int x :: st))) := by
  exact icc X hd ho h1 h2 (fun hq => K1 (Classical.byContradiction fun w => by rw [(flt w).2.2.1] at hq; cases hq)) (fun hq => K2 (fun w => by rw [(tlt w).2.2.1] at hq; cases hq))
theorem if_gt (X : Sd Z y bytes maxL ret p l e R s m args below meth c n0 h kc ks T) {pc n1 n2 : Nat} {ls : Array Slot} {st : List Value} {x : Int32} {o : Int} (hd : decode bytes pc = .ok (.ifCond .gt o, 3)) (ho : 0 ≤ (pc : Int) + o) (h1 : ((pc : Int) + o).toNat = n1) (h2 : pc + 3 = n2) (K1 : 0 < x → Run p e below s n0 fc fs Q (T.setTop (mkF m n1 ls st))) (K2 : ¬ 0 < x → Run p e below s n0 fc fs Q (T.setTop (mkF m n2 ls st))) : Run p e below s n0 fc fs Q (T.setTop (mkF m pc ls (.int x :: st))) := by
  exact ifc X hd ho h1 h2 (fun hq => by rw [if0] at hq; exact K1 (Classical.byContradiction fun w => by rw [(flt w).2.2.1] at hq; cases hq)) (fun hq => by rw [if0] at hq; exact K2 (fun w => by rw [(tlt w).2.2.1] at hq; cases hq))
theorem ic_le (X : Sd Z y bytes maxL ret p l e R s m args below meth c n0 h kc ks T) {pc n1 n2 : Nat} {ls : Array Slot} {st : List Value} {x v : Int32} {o : Int} (hd : decode bytes pc = .ok (.if_icmp .le o, 3)) (ho : 0 ≤ (pc : Int) + o) (h1 : ((pc : Int) + o).toNat = n1) (h2 : pc + 3 = n2) (K1 : ¬ v < x → Run p e below s n0 fc fs Q (T.setTop (mkF m n1 ls st))) (K2 : v < x → Run p e below s n0 fc fs Q (T.setTop (mkF m n2 ls st))) : Run p e below s n0 fc fs Q (T.setTop (mkF m pc ls (.int v :: .int x :: st))) := by
  exact icc X hd ho h1 h2 (fun hq => K1 (fun w => by rw [(tlt w).2.2.2] at hq; cases hq)) (fun hq => K2 (Classical.byContradiction fun w => by rw [(flt w).2.2.2] at hq; cases hq))
theorem if_le (X : Sd Z y bytes maxL ret p l e R s m args below meth c n0 h kc ks T) {pc n1 n2 : Nat} {ls : Array Slot} {st : List Value} {x : Int32} {o : Int} (hd : decode bytes pc = .ok (.ifCond .le o, 3)) (ho : 0 ≤ (pc : Int) + o) (h1 : ((pc : Int) + o).toNat = n1) (h2 : pc + 3 = n2) (K1 : ¬ 0 < x → Run p e below s n0 fc fs Q (T.setTop (mkF m n1 ls st))) (K2 : 0 < x → Run p e below s n0 fc fs Q (T.setTop (mkF m n2 ls st))) : Run p e below s n0 fc fs Q (T.setTop (mkF m pc ls (.int x :: st))) := by
  exact ifc X hd ho h1 h2 (fun hq => by rw [if0] at hq; exact K1 (fun w => by rw [(tlt w).2.2.2] at hq; cases hq)) (fun hq => by rw [if0] at hq; exact K2 (Classical.byContradiction fun w => by rw [(flt w).2.2.2] at hq; cases hq))
theorem ifnull_y (X : Sd Z y bytes maxL ret p l e R s m args below meth c n0 h kc ks T) {pc n1 : Nat} {ls : Array Slot} {st : List Value} {o : Int} (hd : decode bytes pc = .ok (.ifnull o, 3)) (ho : 0 ≤ (pc : Int) + o) (h1 : ((pc : Int) + o).toNat = n1) (K : Run p e below s n0 fc fs Q (T.setTop (mkF m n1 ls st))) : Run p e below s n0 fc fs Q (T.setTop (mkF m pc ls (.null :: st))) := K.st fun _ k => XS.ifnullYes X.hr X.1.1 rfl rfl (X.d hd) rfl ho h1 k
theorem ifnull_n (X : Sd Z y bytes maxL ret p l e R s m args below meth c n0 h kc ks T) {pc n2 : Nat} {ls : Array Slot} {st : List Value} {o : Int} {a : Addr} (hd : decode bytes pc = .ok (.ifnull o, 3)) (h2 : pc + 3 = n2) (K : Run p e below s n0 fc fs Q (T.setTop (mkF m n2 ls st))) : Run p e below s n0 fc fs Q (T.setTop (mkF m pc ls (.ref a :: st))) := by
  subst h2; exact K.st fun _ k => XS.ifnullNo X.hr X.1.1 rfl (X.d hd) rfl k
theorem ifnonnull_y (X : Sd Z y bytes maxL ret p l e R s m args below meth c n0 h kc ks T) {pc n1 : Nat} {ls : Array Slot} {st : List Value} {o : Int} {a : Addr} (hd : decode bytes pc = .ok (.ifnonnull o, 3)) (ho : 0 ≤ (pc : Int) + o) (h1 : ((pc : Int) + o).toNat = n1) (K : Run p e below s n0 fc fs Q (T.setTop (mkF m n1 ls st))) : Run p e below s n0 fc fs Q (T.setTop (mkF m pc ls (.ref a :: st))) := K.st fun _ k => XS.ifnonnullYes X.hr X.1.1 rfl rfl (X.d hd) rfl ho h1 k
theorem ifnonnull_n (X : Sd Z y bytes maxL ret p l e R s m args below meth c n0 h kc ks T) {pc n2 : Nat} {ls : Array Slot} {st : List Value} {o : Int} (hd : decode bytes pc = .ok (.ifnonnull o, 3)) (h2 : pc + 3 = n2) (K : Run p e below s n0 fc fs Q (T.setTop (mkF m n2 ls st))) : Run p e below s n0 fc fs Q (T.setTop (mkF m pc ls (.null :: st))) := by
  subst h2; exact K.st fun _ k => XS.ifnonnullNo X.hr X.1.1 rfl (X.d hd) rfl k
theorem ac_eq (X : Sd Z y bytes maxL ret p l e R s m args below meth c n0 h kc ks T) {pc n1 n2 : Nat} {ls : Array Slot} {st : List Value} {x v : Value} {o : Int} (hd : decode bytes pc = .ok (.if_acmp .eq o, 3)) (hx : x.isRef = true) (hv : v.isRef = true) (ho : 0 ≤ (pc : Int) + o) (h1 : ((pc : Int) + o).toNat = n1) (h2 : pc + 3 = n2) (K1 : x = v → Run p e below s n0 fc fs Q (T.setTop (mkF m n1 ls st))) (K2 : ¬ x = v → Run p e below s n0 fc fs Q (T.setTop (mkF m n2 ls st))) : Run p e below s n0 fc fs Q (T.setTop (mkF m pc ls (v :: x :: st))) := by
  obtain ⟨q, L, i, j, Y, -⟩ := X
  by_cases hq : x = v
  · exact (K1 hq).st fun _ k => acmp Y q.1 rfl hx hv rfl (q.2.2.1 ▸ hd) rfl (decide_eq_true hq) ho (by simp [acV, ← h1, ← h2]) k
  · exact (K2 hq).st fun _ k => acmp Y q.1 rfl hx hv rfl (q.2.2.1 ▸ hd) rfl (decide_eq_false hq) ho (by simp [acV, ← h1, ← h2]) k
theorem ac_ne (X : Sd Z y bytes maxL ret p l e R s m args below meth c n0 h kc ks T) {pc n1 n2 : Nat} {ls : Array Slot} {st : List Value} {x v : Value} {o : Int} (hd : decode bytes pc = .ok (.if_acmp .ne o, 3)) (hx : x.isRef = true) (hv : v.isRef = true) (ho : 0 ≤ (pc : Int) + o) (h1 : ((pc : Int) + o).toNat = n1) (h2 : pc + 3 = n2) (K1 : ¬ x = v → Run p e below s n0 fc fs Q (T.setTop (mkF m n1 ls st))) (K2 : x = v → Run p e below s n0 fc fs Q (T.setTop (mkF m n2 ls st))) : Run p e below s n0 fc fs Q (T.setTop (mkF m pc ls (v :: x :: st))) := by
  obtain ⟨q, L, i, j, Y, -⟩ := X
  by_cases hq : x = v
  · exact (K2 hq).st fun _ k => acmp Y q.1 rfl hx hv rfl (q.2.2.1 ▸ hd) rfl (decide_eq_true hq) ho (by simp [acV, ← h1, ← h2]) k
  · exact (K1 hq).st fun _ k => acmp Y q.1 rfl hx hv rfl (q.2.2.1 ▸ hd) rfl (decide_eq_false hq) ho (by simp [acV, ← h1, ← h2]) k
theorem Sd.re {T' : State} {L : List Loc} {i j : Nat} (X : Sd Z y bytes maxL ret p l e R s m args below meth c n0 h kc ks T) (Y : Stand p l e R s m args below meth c T' L i j) (h1 : T'.heap = h) (h2 : Fr n0 L) (h3 : i ≤ kc) (h4 : j ≤ ks) : Sd Z y bytes maxL ret p l e R s m args below meth c n0 h kc ks T' := ⟨X.1, L, i, j, Y, h1, h2, h3, h4⟩
theorem getstatic (X : Sd Z y bytes maxL ret p l e R s m args below meth c n0 h kc ks T) {pc n index : Nat} {ls : Array Slot} {st : List Value} {R0 O f d : String} {v : Value} (hd : decode bytes pc = .ok (.getstatic index, 3)) (w : (Cond.fieldLink y.cls index R0 f d).before a0 Z = true) (via : Via Z R0 O f d) (F : Sta Z h O f d v) (hn : pc + 3 = n) (K : ∀ T', Sd Z y bytes maxL ret p l e R s m args below meth c n0 h kc ks T' → Run p e below s n0 fc fs Q (T'.setTop (mkF m n ls (v :: st)))) : Run p e below s n0 fc fs Q (T.setTop (mkF m pc ls st)) := by
  subst hn; obtain ⟨q, L, i, j, Y, r1, r2, r3, r4⟩ := X
  obtain ⟨T', Y', e', stp⟩ := getS (host := "") Y q.1 q.2.1 q.2.2.2.2.2.2.1 w via r1 F (g := mkF m pc ls st) rfl (q.2.2.1 ▸ hd)
  exact (K T' ⟨q, L, i, j, Y', e', r2, r3, r4⟩).st stp
theorem getstaticN (X : Sd Z y bytes maxL ret p l e R s m args below meth c n0 h kc ks T) {pc n index : Nat} {ls : Array Slot} {st : List Value} {R0 O f d host : String} {v : Value} (hd : decode bytes pc = .ok (.getstatic index, 3)) (w : (Cond.fieldLinkNest y.cls index R0 f d host).before a0 Z = true) (via : Via Z R0 O f d) (F : Sta Z h O f d v) (hn : pc + 3 = n) (K : ∀ T', Sd Z y bytes maxL ret p l e R s m args below meth c n0 h kc ks T' → Run p e below s n0 fc fs Q (T'.setTop (mkF m n ls (v :: st)))) : Run p e below s n0 fc fs Q (T.setTop (mkF m pc ls st)) := by
  subst hn; obtain ⟨q, L, i, j, Y, r1, r2, r3, r4⟩ := X
  obtain ⟨T', Y', e', stp⟩ := getS2 Y q.1 q.2.1 q.2.2.2.2.2.2.1 (Or.inr w) via r1 F (g := mkF m pc ls st) rfl (q.2.2.1 ▸ hd)
  exact (K T' ⟨q, L, i, j, Y', e', r2, r3, r4⟩).st stp
theorem getfield (X : Sd Z y bytes maxL ret p l e R s m args below meth c n0 h kc ks T) {pc n index : Nat} {ls : Array Slot} {st : List Value} {R0 O f d : String} {a : Addr} {v : Value} (hd : decode bytes pc = .ok (.getfield index, 3)) (w : (Cond.fieldLink y.cls index R0 f d).before a0 Z = true) (via : Via Z R0 O f d) (F : Fld Z h a O f d v) (hn : pc + 3 = n) (K : ∀ T', Sd Z y bytes maxL ret p l e R s m args below meth c n0 h kc ks T' → Run p e below s n0 fc fs Q (T'.setTop (mkF m n ls (v :: st)))) : Run p e below s n0 fc fs Q (T.setTop (mkF m pc ls (.ref a :: st))) := by
  subst hn; obtain ⟨q, L, i, j, Y, r1, r2, r3, r4⟩ := X
  obtain ⟨T', Y', e', stp⟩ := getF (host := "") Y q.1 q.2.1 q.2.2.2.2.2.2.1 (Or.inl w) via r1 F (g := mkF m pc ls (.ref a :: st)) rfl rfl (q.2.2.1 ▸ hd)
  exact (K T' ⟨q, L, i, j, Y', e', r2, r3, r4⟩).st stp
theorem lenA {d : String} {ps : List FieldType} {r : Option FieldType} (hd : parseMethodDescriptor d = some ⟨ps, r⟩) {L : List Value} (hl : L.length = ps.length) : ∀ sig, parseMethodDescriptor d = some sig → L.length = sig.parameters.length := lenOf hd hl
theorem call_static (X : Sd Z y bytes maxL ret p l e R s m args below meth c n0 h kc ks T) {rm : Room} {ybytes : ByteArray} {yL : Nat} {yret : Option FieldType} {z : MethodName} {Qc : Option Value → Heap → Prop} {pc n index W : Nat} {ls : Array Slot} {st rest argsL : List Value} (hd : decode bytes pc = .ok (.invokestatic index, 3)) (w1 : (Cond.methodLink y.cls index z).before a0 Z = true) (w2 : (Cond.static z).before a0 Z = true) (wc : (Cond.code z ybytes yL yret).before a0 Z = true) (wi : (Cond.initialized z.cls).before a0 Z = true) (hy : z.cls ≠ "java/lang/invoke/MethodHandle" ∧ z.cls ≠ "java/lang/invoke/VarHandle") (hC : Ctr l Z z ybytes yL yret [] rm n0 argsL.toArray h Qc) (hst : st = argsL.reverse ++ rest) (hsize : ls.size = maxL) (hlen : ∀ sig, parseMethodDescriptor z.desc = some sig → argsL.length = sig.parameters.length) (hW : (rest.map fun v => v.category).sum ≤ W) (hfr : rm.frames + 1 ≤ R.frames) (hlo : W + (yL + 11) + rm.locals ≤ R.locals) (hce : kc + rm.cells ≤ R.cells) (hsl : ks + rm.slots ≤ R.slots) (hn : pc + 3 = n) (K : ∀ T' h' v, Sd Z y bytes maxL ret p l e R s m args below meth c n0 h' (kc + rm.cells) (ks + rm.slots) T' → Qc v h' → Run p e below s n0 fc fs Q (T'.setTop (mkF m n ls (v.toList ++ rest)))) : Run p e below s n0 fc fs Q (T.setTop (mkF m pc ls st)) := by
  subst hn hst; obtain ⟨q, L, i, j, Y, r1, r2, r3, r4⟩ := X
  have hC' : MetFree l z (head1 [Cond.code z ybytes yL yret] rm) (fun a' U => a' = argsL.toArray ∧ Z.Warmed39 U.vm ∧ U.heap = h) (fun _ _ _ _ _ => True) (fun _ U o U' => ∃ v L, o = .returned v ∧ (Qc v U'.heap ∧ Fr n0 L) ∧ FrameEnd U o U' L rm.cells rm.slots) := hC
  have hB := backOf (W := W) (R := R) (p := p) (e := e) (below := below) (args := args) (len := 3) (Q := fun v hh L => Qc v hh ∧ Fr n0 L) hC' q.2.1 wc wi hfr hlo
  obtain ⟨v, vm₁, ⟨T', L', k', n'⟩, -, Y', ⟨Lc, hQ, l', y', z'⟩, stp⟩ := Jvm.LawKit.callS Y q.1 (y := z) q.2.2.2.2.2.2.1 (mvT q.2.1 w1) (mvT q.2.1 w2) (mvT q.2.1 wi) (mvT q.2.1 wc) hy hB (g := mkF m pc ls (argsL.reverse ++ rest)) rfl (by rw [q.2.2.2.1]; exact hsize) (argsL := argsL) (rest := rest) hlen rfl (by simpa using hW) (q.2.2.1 ▸ hd) (fun _ _ => ⟨rfl, r1, by dsimp only [Pt.cells]; omega, by dsimp only [Pt.slots]; omega⟩)
  dsimp only [Pt.U, Pt.locs, Pt.cells, Pt.slots] at Y' l' y' z' stp hQ
  obtain ⟨hQ1, hQ2⟩ := hQ
  subst l' y' z'
  exact (K T' T'.heap v ⟨q, _, _, _, Y', rfl, Fr.app r2 hQ2, by omega, by omega⟩ hQ1).st fun t k => stp t k
theorem call_static_v (X : Sd Z y bytes maxL ret p l e R s m args below meth c n0 h kc ks T) {rm : Room} {ybytes : ByteArray} {yL : Nat} {yret : Option FieldType} {z : MethodName} {Qv : Value → Heap → Prop} {pc n index W : Nat} {ls : Array Slot} {st rest argsL : List Value} (hd : decode bytes pc = .ok (.invokestatic index, 3)) (w1 : (Cond.methodLink y.cls index z).before a0 Z = true) (w2 : (Cond.static z).before a0 Z = true) (wc : (Cond.code z ybytes yL yret).before a0 Z = true) (wi : (Cond.initialized z.cls).before a0 Z = true) (hy : z.cls ≠ "java/lang/invoke/MethodHandle" ∧ z.cls ≠ "java/lang/invoke/VarHandle") (hC : Ctr l Z z ybytes yL yret [] rm n0 argsL.toArray h (Rt Qv)) (hst : st = argsL.reverse ++ rest) (hsize : ls.size = maxL) (hlen : ∀ sig, parseMethodDescriptor z.desc = some sig → argsL.length = sig.parameters.length) (hW : (rest.map fun v => v.category).sum ≤ W) (hfr : rm.frames + 1 ≤ R.frames) (hlo : W + (yL + 11) + rm.locals ≤ R.locals) (hce : kc + rm.cells ≤ R.cells) (hsl : ks + rm.slots ≤ R.slots) (hn : pc + 3 = n) (K : ∀ T' h' w, Sd Z y bytes maxL ret p l e R s m args below meth c n0 h' (kc + rm.cells) (ks + rm.slots) T' → Qv w h' → Run p e below s n0 fc fs Q (T'.setTop (mkF m n ls (w :: rest)))) : Run p e below s n0 fc fs Q (T.setTop (mkF m pc ls st)) :=
  call_static X hd w1 w2 wc wi hy hC hst hsize hlen hW hfr hlo hce hsl hn fun T' h' v X' q => by obtain ⟨w, rfl, q⟩ := q; exact K T' h' w X' q
theorem call_static_n (X : Sd Z y bytes maxL ret p l e R s m args below meth c n0 h kc ks T) {rm : Room} {ybytes : ByteArray} {yL : Nat} {yret : Option FieldType} {z : MethodName} {Qn : Heap → Prop} {pc n index W : Nat} {ls : Array Slot} {st rest argsL : List Value} (hd : decode bytes pc = .ok (.invokestatic index, 3)) (w1 : (Cond.methodLink y.cls index z).before a0 Z = true) (w2 : (Cond.static z).before a0 Z = true) (wc : (Cond.code z ybytes yL yret).before a0 Z = true) (wi : (Cond.initialized z.cls).before a0 Z = true) (hy : z.cls ≠ "java/lang/invoke/MethodHandle" ∧ z.cls ≠ "java/lang/invoke/VarHandle") (hC : Ctr l Z z ybytes yL yret [] rm n0 argsL.toArray h (Rn Qn)) (hst : st = argsL.reverse ++ rest) (hsize : ls.size = maxL) (hlen : ∀ sig, parseMethodDescriptor z.desc = some sig → argsL.length = sig.parameters.length) (hW : (rest.map fun v => v.category).sum ≤ W) (hfr : rm.frames + 1 ≤ R.frames) (hlo : W + (yL + 11) + rm.locals ≤ R.locals) (hce : kc + rm.cells ≤ R.cells) (hsl : ks + rm.slots ≤ R.slots) (hn : pc + 3 = n) (K : ∀ T' h', Sd Z y bytes maxL ret p l e R s m args below meth c n0 h' (kc + rm.cells) (ks + rm.slots) T' → Qn h' → Run p e below s n0 fc fs Q (T'.setTop (mkF m n ls rest))) : Run p e below s n0 fc fs Q (T.setTop (mkF m pc ls st)) :=
  call_static X hd w1 w2 wc wi hy hC hst hsize hlen hW hfr hlo hce hsl hn fun T' h' v X' q => by obtain ⟨rfl, q⟩ := q; exact K T' h' X' q
theorem call_virtual (X : Sd Z y bytes maxL ret p l e R s m args below meth c n0 h kc ks T) {rm : Room} {ybytes : ByteArray} {yL : Nat} {yret : Option FieldType} {z : MethodName} {Qc : Option Value → Heap → Prop} {pc n index W : Nat} {ls : Array Slot} {st rest argsL : List Value} {a : Addr} {C : String} {yv : MethodName} (hd : decode bytes pc = .ok (.invokevirtual index, 3)) (w1 : (Cond.methodLink y.cls index yv).before a0 Z = true) (w2 : (Cond.declares yv).before a0 Z = true) (w3 : (Cond.instanceMethod z).before a0 Z = true) (w4 : (Cond.selects C yv z).before a0 Z = true) (hnf : ∀ {s' : State}, Z.Warmed39 s'.vm → NotFace s' yv) (wc : (Cond.code z ybytes yL yret).before a0 Z = true) (wi : (Cond.initialized z.cls).before a0 Z = true) (hy : yv.cls ≠ "java/lang/invoke/MethodHandle" ∧ yv.cls ≠ "java/lang/invoke/VarHandle") (E : Exa Z h a C) (hC : Ctr l Z z ybytes yL yret [] rm n0 (.ref a :: argsL).toArray h Qc) (hst : st = argsL.reverse ++ .ref a :: rest) (hsize : ls.size = maxL) (hlen : ∀ sig, parseMethodDescriptor yv.desc = some sig → argsL.length = sig.parameters.length) (hW : (rest.map fun v => v.category).sum ≤ W) (hfr : rm.frames + 1 ≤ R.frames) (hlo : W + (yL + 11) + rm.locals ≤ R.locals) (hce : kc + rm.cells ≤ R.cells) (hsl : ks + rm.slots ≤ R.slots) (hn : pc + 3 = n) (K : ∀ T' h' v, Sd Z y bytes maxL ret p l e R s m args below meth c n0 h' (kc + rm.cells) (ks + rm.slots) T' → Qc v h' → Run p e below s n0 fc fs Q (T'.setTop (mkF m n ls (v.toList ++ rest)))) : Run p e below s n0 fc fs Q (T.setTop (mkF m pc ls st)) := by
  subst hn hst; obtain ⟨q, L, i, j, Y, r1, r2, r3, r4⟩ := X
  have hC' : MetFree l z (head1 [Cond.code z ybytes yL yret] rm) (fun a' U => a' = (.ref a :: argsL).toArray ∧ Z.Warmed39 U.vm ∧ U.heap = h) (fun _ _ _ _ _ => True) (fun _ U o U' => ∃ v L, o = .returned v ∧ (Qc v U'.heap ∧ Fr n0 L) ∧ FrameEnd U o U' L rm.cells rm.slots) := hC
  have hB := backOf (W := W) (R := R) (p := p) (e := e) (below := below) (args := args) (len := 3) (Q := fun v hh L => Qc v hh ∧ Fr n0 L) hC' q.2.1 wc wi hfr hlo
  obtain ⟨cq, kq, qa, qb, qc⟩ := isOf (T := T) q.2.1 r1 E
  obtain ⟨v, vm₁, ⟨T', L', k', n'⟩, -, Y', ⟨Lc, hQ, l', y', z'⟩, stp⟩ := Y.virtualBack q.1 (y := yv) (z := z) q.2.2.2.2.2.2.1 (mvT q.2.1 w1) (mvT q.2.1 w2) (hnf q.2.1) (mvT q.2.1 w4) (mvT q.2.1 w3) hy hB qa qc (g := mkF m pc ls (argsL.reverse ++ .ref a :: rest)) rfl (by rw [q.2.2.2.1]; exact hsize) (Steps.refl _) (argsL := argsL) (rest := rest) hlen rfl (by simpa using hW) (q.2.2.1 ▸ hd) (fun _ _ => ⟨rfl, r1, by dsimp only [Pt.cells]; omega, by dsimp only [Pt.slots]; omega⟩)
  dsimp only [Pt.U, Pt.locs, Pt.cells, Pt.slots] at Y' l' y' z' stp hQ
  obtain ⟨hQ1, hQ2⟩ := hQ
  subst l' y' z'
  exact (K T' T'.heap v ⟨q, _, _, _, Y', rfl, Fr.app r2 hQ2, by omega, by omega⟩ hQ1).st fun t k => stp.trans k
theorem call_virtual_v (X : Sd Z y bytes maxL ret p l e R s m args below meth c n0 h kc ks T) {rm : Room} {ybytes : ByteArray} {yL : Nat} {yret : Option FieldType} {z : MethodName} {Qv : Value → Heap → Prop} {pc n index W : Nat} {ls : Array Slot} {st rest argsL : List Value} {a : Addr} {C : String} {yv : MethodName} (hd : decode bytes pc = .ok (.invokevirtual index, 3)) (w1 : (Cond.methodLink y.cls index yv).before a0 Z = true) (w2 : (Cond.declares yv).before a0 Z = true) (w3 : (Cond.instanceMethod z).before a0 Z = true) (w4 : (Cond.selects C yv z).before a0 Z = true) (hnf : ∀ {s' : State}, Z.Warmed39 s'.vm → NotFace s' yv) (wc : (Cond.code z ybytes yL yret).before a0 Z = true) (wi : (Cond.initialized z.cls).before a0 Z = true) (hy : yv.cls ≠ "java/lang/invoke/MethodHandle" ∧ yv.cls ≠ "java/lang/invoke/VarHandle") (E : Exa Z h a C) (hC : Ctr l Z z ybytes yL yret [] rm n0 (.ref a :: argsL).toArray h (Rt Qv)) (hst : st = argsL.reverse ++ .ref a :: rest) (hsize : ls.size = maxL) (hlen : ∀ sig, parseMethodDescriptor yv.desc = some sig → argsL.length = sig.parameters.length) (hW : (rest.map fun v => v.category).sum ≤ W) (hfr : rm.frames + 1 ≤ R.frames) (hlo : W + (yL + 11) + rm.locals ≤ R.locals) (hce : kc + rm.cells ≤ R.cells) (hsl : ks + rm.slots ≤ R.slots) (hn : pc + 3 = n) (K : ∀ T' h' w, Sd Z y bytes maxL ret p l e R s m args below meth c n0 h' (kc + rm.cells) (ks + rm.slots) T' → Qv w h' → Run p e below s n0 fc fs Q (T'.setTop (mkF m n ls (w :: rest)))) : Run p e below s n0 fc fs Q (T.setTop (mkF m pc ls st)) :=
  call_virtual X hd w1 w2 w3 w4 hnf wc wi hy E hC hst hsize hlen hW hfr hlo hce hsl hn fun T' h' v X' q => by obtain ⟨w, rfl, q⟩ := q; exact K T' h' w X' q
theorem call_virtual_n (X : Sd Z y bytes maxL ret p l e R s m args below meth c n0 h kc ks T) {rm : Room} {ybytes : ByteArray} {yL : Nat} {yret : Option FieldType} {z : MethodName} {Qn : Heap → Prop} {pc n index W : Nat} {ls : Array Slot} {st rest argsL : List Value} {a : Addr} {C : String} {yv : MethodName} (hd : decode bytes pc = .ok (.invokevirtual index, 3)) (w1 : (Cond.methodLink y.cls index yv).before a0 Z = true) (w2 : (Cond.declares yv).before a0 Z = true) (w3 : (Cond.instanceMethod z).before a0 Z = true) (w4 : (Cond.selects C yv z).before a0 Z = true) (hnf : ∀ {s' : State}, Z.Warmed39 s'.vm → NotFace s' yv) (wc : (Cond.code z ybytes yL yret).before a0 Z = true) (wi : (Cond.initialized z.cls).before a0 Z = true) (hy : yv.cls ≠ "java/lang/invoke/MethodHandle" ∧ yv.cls ≠ "java/lang/invoke/VarHandle") (E : Exa Z h a C) (hC : Ctr l Z z ybytes yL yret [] rm n0 (.ref a :: argsL).toArray h (Rn Qn)) (hst : st = argsL.reverse ++ .ref a :: rest) (hsize : ls.size = maxL) (hlen : ∀ sig, parseMethodDescriptor yv.desc = some sig → argsL.length = sig.parameters.length) (hW : (rest.map fun v => v.category).sum ≤ W) (hfr : rm.frames + 1 ≤ R.frames) (hlo : W + (yL + 11) + rm.locals ≤ R.locals) (hce : kc + rm.cells ≤ R.cells) (hsl : ks + rm.slots ≤ R.slots) (hn : pc + 3 = n) (K : ∀ T' h', Sd Z y bytes maxL ret p l e R s m args below meth c n0 h' (kc + rm.cells) (ks + rm.slots) T' → Qn h' → Run p e below s n0 fc fs Q (T'.setTop (mkF m n ls rest))) : Run p e below s n0 fc fs Q (T.setTop (mkF m pc ls st)) :=
  call_virtual X hd w1 w2 w3 w4 hnf wc wi hy E hC hst hsize hlen hW hfr hlo hce hsl hn fun T' h' v X' q => by obtain ⟨rfl, q⟩ := q; exact K T' h' X' q
theorem joinT (X : Sd Z y bytes maxL ret p l e R s m args below meth c n0 h kc ks T) {α : Type} (P : α → Prop) (f : α → JFrame) {t : State} (J : ∀ T' v, Sd Z y bytes maxL ret p l e R s m args below meth c n0 h kc ks T' → P v → Run p e below s n0 fc fs Q (T'.setTop (f v))) (K : (∀ T' v, Sd Z y bytes maxL ret p l e R s m args below meth c n0 h kc ks T' → P v → Run p e below s n0 fc fs Q (T'.setTop (f v))) → Run p e below s n0 fc fs Q t) : Run p e below s n0 fc fs Q t := K J
theorem eqI_v {args : Array Value} {first s : State} {o : Option Outcome} {idx : List Nat} {t : Term} {z : Int32} (h : (Jvm.Cond.eq t (Term.int z)).value args first o s idx = some true) : t.eval args first o idx s = some (.int z) := by
  simp only [Jvm.Cond.value, Term.eval] at h
  cases ht : t.eval args first o idx s with
  | none => simp [ht] at h
  | some x => cases x <;> simp [ht] at h ⊢; exact h
end A
end Jvm.OwnK
namespace Jvm.OwnK
open Sem ClassFile Op Lib Jvm.Stand Jvm.Free Jvm.LawKit Jvm.RoadKit
section B
variable {p : Program} {l : Launch} {e : Env} {R : Room} {s : State} {m : MethodId} {args : Array Value} {below : List Frame} {meth : Method} {c : Code} {T : State} {Z : State} {a0 : Array Value} {h h' : Heap} {n0 kc ks fc fs : Nat} {Q : Option Value → Heap → Prop} {y : MethodName} {bytes : ByteArray} {maxL : Nat} {ret : Option FieldType} {a b : Addr} {ty : FieldType} {vs : List Value} {sl : Nat} {v w : Value} {C f d : String} {ws : List Addr}
/-- an array with all its values -/
def Ark (Z : State) (h : Heap) (a : Addr) (ty : FieldType) (vs : List Value) : Prop := ∃ c : Cell, Arr Z h a c ty ∧ c.slots = vs.toArray ∧ vs.length < 2147483648 ∧ ∀ v ∈ vs, fits ty v = true
theorem Ark.lt (A : Ark Z h a ty vs) : a < h.size := by obtain ⟨c, A, -⟩ := A; exact A.lt
theorem Ark.ext (A : Ark Z h a ty vs) (E : Ext h h') : Ark Z h' a ty vs := by obtain ⟨c, A, r⟩ := A; exact ⟨c, A.ext E, r⟩
theorem Ark.keep (A : Ark Z h a ty vs) (K : Keep h h' ws) (q : a ∉ ws) : Ark Z h' a ty vs := by obtain ⟨c, A, r⟩ := A; exact ⟨c, ⟨K.2.1 a c A.1 q, A.2⟩, r⟩
theorem Ark.len (A : Ark Z h a ty vs) : vs.length < 2147483648 := by obtain ⟨c, A, r1, r2, -⟩ := A; exact r2
theorem kExt (E : Ext h h') : Keep h h' [] := (Keep.refl h []).ext E
theorem nin1 (q : a ≠ b) : a ∉ [b] := fun z => q (List.mem_singleton.mp z)
theorem oldLe (O : Old Z n0 h) : n0 ≤ h.size := by rw [← O.1]; exact O.2.1
theorem toNatC {j : Int32} {i : Nat} (hj : j.toInt = i) : j.toNatClampNeg = i ∧ ¬ j < 0 := by
  refine ⟨by simp [Int32.toNatClampNeg, hj], fun q => ?_⟩
  have q2 := Int32.lt_iff_toInt_lt.mp q
  rw [hj] at q2
  have : (0 : Int32).toInt = 0 := rfl
  omega
theorem arkIn {c : Cell} (r1 : c.slots = vs.toArray) {j : Int32} {i : Nat} (hj : j.toInt = i) (hv : vs[i]? = some v) : ¬ (j < 0 ∨ c.slots.size ≤ j.toNatClampNeg) ∧ c.slots[j.toNatClampNeg]? = some v := by
  obtain ⟨g1, g2⟩ := toNatC hj
  obtain ⟨hi, -⟩ := List.getElem?_eq_some_iff.mp hv
  refine ⟨fun q => ?_, by rw [g1, r1]; simpa using hv⟩
  rcases q with q | q
  · exact g2 q
  · rw [g1, r1] at q; simp at q; omega

theorem iaload (X : Sd Z y bytes maxL ret p l e R s m args below meth c n0 h kc ks T) {pc n i : Nat} {ls : Array Slot} {st : List Value} {j : Int32} (hd : decode bytes pc = .ok (.iaload, 1)) (A : Ark Z h a .int vs) (hj : j.toInt = i) (hv : vs[i]? = some v) (hn : pc + 1 = n) (K : Run p e below s n0 fc fs Q (T.setTop (mkF m n ls (v :: st)))) : Run p e below s n0 fc fs Q (T.setTop (mkF m pc ls (.int j :: .ref a :: st))) := by
  subst hn; obtain ⟨q, L, i', j', Y, r1, r2, r3, r4⟩ := X
  obtain ⟨c', A, s1, -⟩ := A
  obtain ⟨g1, g2⟩ := arkIn s1 hj hv
  exact K.st fun _ k => Y.iaload q.1 (j := j) (v := v) (by rw [r1]; exact A.1) (State.isArrayOf_alike q.2.1.alike A.2.1) A.2.2 g1 g2 (g := mkF m pc ls (.int j :: .ref a :: st)) rfl rfl (q.2.2.1 ▸ hd) _ k
theorem caload (X : Sd Z y bytes maxL ret p l e R s m args below meth c n0 h kc ks T) {pc n i : Nat} {ls : Array Slot} {st : List Value} {j : Int32} (hd : decode bytes pc = .ok (.caload, 1)) (A : Ark Z h a .char vs) (hj : j.toInt = i) (hv : vs[i]? = some v) (hn : pc + 1 = n) (K : Run p e below s n0 fc fs Q (T.setTop (mkF m n ls (v :: st)))) : Run p e below s n0 fc fs Q (T.setTop (mkF m pc ls (.int j :: .ref a :: st))) := by
  subst hn; obtain ⟨q, L, i', j', Y, r1, r2, r3, r4⟩ := X
  obtain ⟨c', A, s1, -⟩ := A
  obtain ⟨g1, g2⟩ := arkIn s1 hj hv
  exact K.st fun _ k => Y.caload q.1 (j := j) (v := v) (by rw [r1]; exact A.1) (State.isArrayOf_alike q.2.1.alike A.2.1) A.2.2 g1 g2 (g := mkF m pc ls (.int j :: .ref a :: st)) rfl rfl (q.2.2.1 ▸ hd) _ k
theorem baload (X : Sd Z y bytes maxL ret p l e R s m args below meth c n0 h kc ks T) {pc n i : Nat} {ls : Array Slot} {st : List Value} {j : Int32} (hd : decode bytes pc = .ok (.baload, 1)) (A : Ark Z h a .byte vs) (hj : j.toInt = i) (hv : vs[i]? = some v) (hn : pc + 1 = n) (K : Run p e below s n0 fc fs Q (T.setTop (mkF m n ls (v :: st)))) : Run p e below s n0 fc fs Q (T.setTop (mkF m pc ls (.int j :: .ref a :: st))) := by
  subst hn; obtain ⟨q, L, i', j', Y, r1, r2, r3, r4⟩ := X
  obtain ⟨c', A, s1, -⟩ := A
  obtain ⟨g1, g2⟩ := arkIn s1 hj hv
  exact K.st fun _ k => Y.baloadBytes q.1 (j := j) (v := v) (by rw [r1]; exact A.1) (State.isArrayOf_alike q.2.1.alike A.2.1) A.2.2 g1 g2 (g := mkF m pc ls (.int j :: .ref a :: st)) rfl rfl (q.2.2.1 ▸ hd) _ k
theorem aaload (X : Sd Z y bytes maxL ret p l e R s m args below meth c n0 h kc ks T) {pc n i : Nat} {ls : Array Slot} {st : List Value} {j : Int32} (hd : decode bytes pc = .ok (.aaload, 1)) (A : Ark Z h a ty vs) (ht : ty.isReference = true) (hj : j.toInt = i) (hv : vs[i]? = some v) (hn : pc + 1 = n) (K : Run p e below s n0 fc fs Q (T.setTop (mkF m n ls (v :: st)))) : Run p e below s n0 fc fs Q (T.setTop (mkF m pc ls (.int j :: .ref a :: st))) := by
  subst hn; obtain ⟨q, L, i', j', Y, r1, r2, r3, r4⟩ := X
  obtain ⟨c', A, s1, -⟩ := A
  obtain ⟨g1, g2⟩ := arkIn s1 hj hv
  exact K.st fun _ k => Y.aaload q.1 (j := j) (v := v) (by rw [r1]; exact A.1) (State.isArrayOf_alike q.2.1.alike A.2.1) ht A.2.2 g1 g2 (g := mkF m pc ls (.int j :: .ref a :: st)) rfl rfl (q.2.2.1 ▸ hd) _ k
theorem arraylength (X : Sd Z y bytes maxL ret p l e R s m args below meth c n0 h kc ks T) {pc n : Nat} {ls : Array Slot} {st : List Value} {z : Int32} (hd : decode bytes pc = .ok (.arraylength, 1)) (A : Ark Z h a ty vs) (hz : vs.length.toInt32 = z) (hn : pc + 1 = n) (K : Run p e below s n0 fc fs Q (T.setTop (mkF m n ls (.int z :: st)))) : Run p e below s n0 fc fs Q (T.setTop (mkF m pc ls (.ref a :: st))) := by
  subst hn hz; obtain ⟨q, L, i', j', Y, r1, r2, r3, r4⟩ := X
  obtain ⟨c', A, s1, -⟩ := A
  have e1 : c'.slots.size = vs.length := by rw [s1]; simp
  exact K.st fun _ k => Y.arraylength q.1 (by rw [r1]; exact A.1) (State.isArrayOf_alike q.2.1.alike A.2.1) (g := mkF m pc ls (.ref a :: st)) rfl rfl (q.2.2.1 ▸ hd) _ (by rw [e1]; exact k)
theorem Ark.set {c' : Cell} (A : Arr Z h a c' ty) (s1 : c'.slots = vs.toArray) (s2 : vs.length < 2147483648) (s3 : ∀ v ∈ vs, fits ty v = true) {i : Nat} (hv : fits ty v = true) (W : Wr h h' a i v) : Ark Z h' a ty (vs.set i v) := by
  refine ⟨_, A.same W, by simp [Cell.setSlot, s1], by simpa using s2, fun u hu => ?_⟩
  rcases List.mem_or_eq_of_mem_set hu with q | q
  · exact s3 u q
  · exact q ▸ hv
theorem iastore (X : Sd Z y bytes maxL ret p l e R s m args below meth c n0 h kc ks T) {pc n i : Nat} {ls : Array Slot} {st : List Value} {j x z : Int32} (hd : decode bytes pc = .ok (.iastore, 1)) (A : Ark Z h a .int vs) (hj : j.toInt = i) (hi : i < vs.length) (hz : x = z) (hfr : n0 ≤ a) (hn : pc + 1 = n) (K : ∀ T' h', Sd Z y bytes maxL ret p l e R s m args below meth c n0 h' kc ks T' → Wr h h' a i (.int z) → Ark Z h' a .int (vs.set i (.int z)) → Run p e below s n0 fc fs Q (T'.setTop (mkF m n ls st))) : Run p e below s n0 fc fs Q (T.setTop (mkF m pc ls (.int x :: .int j :: .ref a :: st))) := by
  subst hn hz; obtain ⟨q, L, i', j', Y, r1, r2, r3, r4⟩ := X
  obtain ⟨c', A, s1, s2, s3⟩ := A
  obtain ⟨g1, -⟩ := arkIn s1 hj (List.getElem?_eq_getElem hi)
  obtain ⟨T', h', Y', e', W, stp⟩ := stI Y q.1 q.2.1 r1 A g1 (g := mkF m pc ls (.int x :: .int j :: .ref a :: st)) rfl rfl (q.2.2.1 ▸ hd)
  rw [(toNatC hj).1] at W
  exact (K T' h' ⟨q, _, _, _, Y', e', Fr.snoc Y' r2 hfr, r3, r4⟩ W (Ark.set A s1 s2 s3 rfl W)).st stp
theorem castore (X : Sd Z y bytes maxL ret p l e R s m args below meth c n0 h kc ks T) {pc n i : Nat} {ls : Array Slot} {st : List Value} {j x z : Int32} (hd : decode bytes pc = .ok (.castore, 1)) (A : Ark Z h a .char vs) (hj : j.toInt = i) (hi : i < vs.length) (hz : (nar .char x) = z) (hfr : n0 ≤ a) (hn : pc + 1 = n) (K : ∀ T' h', Sd Z y bytes maxL ret p l e R s m args below meth c n0 h' kc ks T' → Wr h h' a i (.int z) → Ark Z h' a .char (vs.set i (.int z)) → Run p e below s n0 fc fs Q (T'.setTop (mkF m n ls st))) : Run p e below s n0 fc fs Q (T.setTop (mkF m pc ls (.int x :: .int j :: .ref a :: st))) := by
  subst hn hz; obtain ⟨q, L, i', j', Y, r1, r2, r3, r4⟩ := X
  obtain ⟨c', A, s1, s2, s3⟩ := A
  obtain ⟨g1, -⟩ := arkIn s1 hj (List.getElem?_eq_getElem hi)
  obtain ⟨T', h', Y', e', W, stp⟩ := stC Y q.1 q.2.1 r1 A g1 (g := mkF m pc ls (.int x :: .int j :: .ref a :: st)) rfl rfl (q.2.2.1 ▸ hd)
  rw [(toNatC hj).1] at W
  exact (K T' h' ⟨q, _, _, _, Y', e', Fr.snoc Y' r2 hfr, r3, r4⟩ W (Ark.set A s1 s2 s3 (fits_nar_char _) W)).st stp
theorem bastore (X : Sd Z y bytes maxL ret p l e R s m args below meth c n0 h kc ks T) {pc n i : Nat} {ls : Array Slot} {st : List Value} {j x z : Int32} (hd : decode bytes pc = .ok (.bastore, 1)) (A : Ark Z h a .byte vs) (hj : j.toInt = i) (hi : i < vs.length) (hz : (nar .byte x) = z) (hfr : n0 ≤ a) (hn : pc + 1 = n) (K : ∀ T' h', Sd Z y bytes maxL ret p l e R s m args below meth c n0 h' kc ks T' → Wr h h' a i (.int z) → Ark Z h' a .byte (vs.set i (.int z)) → Run p e below s n0 fc fs Q (T'.setTop (mkF m n ls st))) : Run p e below s n0 fc fs Q (T.setTop (mkF m pc ls (.int x :: .int j :: .ref a :: st))) := by
  subst hn hz; obtain ⟨q, L, i', j', Y, r1, r2, r3, r4⟩ := X
  obtain ⟨c', A, s1, s2, s3⟩ := A
  obtain ⟨g1, -⟩ := arkIn s1 hj (List.getElem?_eq_getElem hi)
  obtain ⟨T', h', Y', e', W, stp⟩ := stB Y q.1 q.2.1 r1 A g1 (g := mkF m pc ls (.int x :: .int j :: .ref a :: st)) rfl rfl (q.2.2.1 ▸ hd)
  rw [(toNatC hj).1] at W
  exact (K T' h' ⟨q, _, _, _, Y', e', Fr.snoc Y' r2 hfr, r3, r4⟩ W (Ark.set A s1 s2 s3 (fits_nar_byte _) W)).st stp
theorem newarray (X : Sd Z y bytes maxL ret p l e R s m args below meth c n0 h kc ks T) {pc n len cap : Nat} {ls : Array Slot} {st : List Value} {k : Int32} {aty : ArrayType} (hd : decode bytes pc = .ok (.newarray aty, 2)) (w : (Cond.arrayClass (newarray.typeOf aty)).before a0 Z = true) (hk : k.toInt = len) (hcap : len ≤ cap) (hb : cap * 8 ≤ 536870912) (hc : kc + 1 ≤ R.cells) (hl : ks + cap ≤ R.slots) (hn : pc + 2 = n) (K : ∀ T' h' a, a = h.size → Sd Z y bytes maxL ret p l e R s m args below meth c n0 h' (kc + 1) (ks + cap) T' → Ext h h' → Ark Z h' a (newarray.typeOf aty) (List.replicate len (defaultValue (newarray.typeOf aty))) → Run p e below s n0 fc fs Q (T'.setTop (mkF m n ls (.ref a :: st)))) : Run p e below s n0 fc fs Q (T.setTop (mkF m pc ls (.int k :: st))) := by
  subst hn; obtain ⟨q, L, i', j', Y, r1, r2, r3, r4⟩ := X
  obtain ⟨g1, g2⟩ := toNatC hk
  obtain ⟨T', h', cA, Y', e', E, A, stp⟩ := newP Y q.1 q.2.1 w r1 (g := mkF m pc ls (.int k :: st)) rfl (q.2.2.1 ▸ hd) rfl g2 (cap := cap) (by omega) hb (by omega) (by omega)
  have hA : Ark Z h' h.size (newarray.typeOf aty) (List.replicate len (defaultValue (newarray.typeOf aty))) := by
    refine ⟨_, A, by simp [newA, g1], by simp; omega, fun v hv => ?_⟩
    rw [List.eq_of_mem_replicate hv]; cases aty <;> rfl
  exact (K T' h' _ rfl ⟨q, _, _, _, Y', e', r2, by omega, by omega⟩ E hA).st stp
theorem new (X : Sd Z y bytes maxL ret p l e R s m args below meth c n0 h kc ks T) {pc n index k : Nat} {ls : Array Slot} {st : List Value} (hd : decode bytes pc = .ok (.new index, 3)) (w : (Cond.classLink y.cls index C).before a0 Z = true) (wi : (Cond.instantiable C k).before a0 Z = true) (wz : (Cond.initialized C).before a0 Z = true) (hc : kc + 1 ≤ R.cells) (hl : ks + k ≤ R.slots) (hn : pc + 3 = n) (K : ∀ T' h' a, a = h.size → Sd Z y bytes maxL ret p l e R s m args below meth c n0 h' (kc + 1) (ks + k) T' → Ext h h' → Exa Z h' a C → (∀ {O nm d : String} {ty : FieldType}, Laid Z a0 C O nm d → parseFieldDescriptor d = some ty → Fld Z h' a O nm d (defaultValue ty)) → Unt h' a → Run p e below s n0 fc fs Q (T'.setTop (mkF m n ls (.ref a :: st)))) : Run p e below s n0 fc fs Q (T.setTop (mkF m pc ls st)) := by
  subst hn; obtain ⟨q, L, i', j', Y, r1, r2, r3, r4⟩ := X
  obtain ⟨T', h', Y', e', E, A, D, U, stp⟩ := newO Y q.1 q.2.1 q.2.2.2.2.2.2.1 w wi wz r1 (g := mkF m pc ls st) rfl (q.2.2.1 ▸ hd) (by omega) (by omega)
  exact (K T' h' _ rfl ⟨q, _, _, _, Y', e', r2, by omega, by omega⟩ E A D U).st stp
theorem putfield (X : Sd Z y bytes maxL ret p l e R s m args below meth c n0 h kc ks T) {pc n index k : Nat} {ls : Array Slot} {st : List Value} {R0 O : String} {v v' old : Value} (hd : decode bytes pc = .ok (.putfield index, 3)) (w : (Cond.fieldLink y.cls index R0 f d).before a0 Z = true) (via : Via Z R0 O f d) (F : Fld Z h a O f d old) (E : Exa Z h a C) (L : (Cond.lays C O f d).before a0 Z = true ∨ ((Cond.laysFinal C O f d).before a0 Z = true ∧ y.cls = O ∧ y.name = "<init>")) (wi : (Cond.instantiable C k).before a0 Z = true) (hty : parseFieldDescriptor d = some ty) (hv : narrow ty v = v') (hf : fits ty v' = true) (hfr : n0 ≤ a) (hn : pc + 3 = n) (K : ∀ T' h', Sd Z y bytes maxL ret p l e R s m args below meth c n0 h' kc ks T' → Wr h h' a (RoadKit.slotOf Z O f d) v' → Fld Z h' a O f d v' → Run p e below s n0 fc fs Q (T'.setTop (mkF m n ls st))) : Run p e below s n0 fc fs Q (T.setTop (mkF m pc ls (v :: .ref a :: st))) := by
  subst hn; obtain ⟨q, L', i', j', Y, r1, r2, r3, r4⟩ := X
  obtain ⟨T', h', Y', e', W, stp⟩ := putFN Y q.1 q.2.1 q.2.2.2.2.2.2.1 w via r1 F E (L.imp id fun x => ⟨x.1, x.2.1, q.2.2.2.2.2.2.2.trans x.2.2⟩) wi hty hv hf (g := mkF m pc ls (v :: .ref a :: st)) rfl rfl (q.2.2.1 ▸ hd)
  exact (K T' h' ⟨q, _, _, _, Y', e', Fr.snoc Y' r2 hfr, r3, r4⟩ W (F.same W)).st stp
theorem initObj (X : Sd Z y bytes maxL ret p l e R s m args below meth c n0 h kc ks T) {pc n index W : Nat} {ls : Array Slot} {st : List Value} (hd : decode bytes pc = .ok (.invokespecial index, 3)) (w1 : (Cond.methodLink y.cls index Lib.objectInit).before a0 Z = true) (w2 : (Cond.instanceMethod Lib.objectInit).before a0 Z = true) (w3 : (Cond.code Lib.objectInit ⟨#[0xb1]⟩ 1 none).before a0 Z = true) (hsize : ls.size = maxL) (hf : 1 ≤ R.frames) (hW : (st.map fun v => v.category).sum ≤ W) (hl : W + 12 ≤ R.locals) (hn : pc + 3 = n) (K : ∀ T', Sd Z y bytes maxL ret p l e R s m args below meth c n0 h kc ks T' → Run p e below s n0 fc fs Q (T'.setTop (mkF m n ls st))) : Run p e below s n0 fc fs Q (T.setTop (mkF m pc ls (.ref a :: st))) := by
  subst hn; obtain ⟨q, L', i', j', Y, r1, r2, r3, r4⟩ := X
  obtain ⟨T', Y', e', stp⟩ := initO Y q.1 q.2.1 q.2.2.2.2.2.2.1 w1 w2 w3 r1 (g := mkF m pc ls (.ref a :: st)) rfl (by rw [q.2.2.2.1]; exact hsize) rfl (q.2.2.1 ▸ hd) hf (W := W) (by simpa using hW) hl
  exact (K T' ⟨q, _, _, _, Y', e', r2, r3, r4⟩).st stp
theorem call_special (X : Sd Z y bytes maxL ret p l e R s m args below meth c n0 h kc ks T) {rm : Room} {ybytes : ByteArray} {yL : Nat} {yret : Option FieldType} {z : MethodName} {Qn : Heap → Prop} {pc n index W : Nat} {ls : Array Slot} {st rest argsL : List Value} {a : Addr} (hd : decode bytes pc = .ok (.invokespecial index, 3)) (w1 : (Cond.methodLink y.cls index z).before a0 Z = true) (w2 : (Cond.instanceMethod z).before a0 Z = true) (wc : (Cond.code z ybytes yL yret).before a0 Z = true) (wi : (Cond.initialized z.cls).before a0 Z = true) (hz : z.name = "<init>") (hr : yret = none) (hy : z.cls ≠ "java/lang/invoke/MethodHandle" ∧ z.cls ≠ "java/lang/invoke/VarHandle") (hC : Ctr l Z z ybytes yL yret [] rm n0 (.ref a :: argsL).toArray h (Rn Qn)) (hst : st = argsL.reverse ++ .ref a :: rest) (hsize : ls.size = maxL) (hlen : ∀ sig, parseMethodDescriptor z.desc = some sig → argsL.length = sig.parameters.length) (hW : (rest.map fun v => v.category).sum ≤ W) (hfr : rm.frames + 1 ≤ R.frames) (hlo : W + (yL + 11) + rm.locals ≤ R.locals) (hce : kc + rm.cells ≤ R.cells) (hsl : ks + rm.slots ≤ R.slots) (hn : pc + 3 = n) (K : ∀ T' h', Sd Z y bytes maxL ret p l e R s m args below meth c n0 h' (kc + rm.cells) (ks + rm.slots) T' → Qn h' → Run p e below s n0 fc fs Q (T'.setTop (mkF m n ls rest))) : Run p e below s n0 fc fs Q (T.setTop (mkF m pc ls st)) := by
  subst hn hst hr; obtain ⟨q, L, i, j, Y, r1, r2, r3, r4⟩ := X
  have hC' : MetFree l z (head1 [Cond.code z ybytes yL none] rm) (fun a' U => a' = (.ref a :: argsL).toArray ∧ Z.Warmed39 U.vm ∧ U.heap = h) (fun _ _ _ _ _ => True) (fun _ U o U' => ∃ v L, o = .returned v ∧ (Rn Qn v U'.heap ∧ Fr n0 L) ∧ FrameEnd U o U' L rm.cells rm.slots) := hC
  have hB := backOf (W := W) (R := R) (p := p) (e := e) (below := below) (args := args) (len := 3) (Q := fun v hh L => Rn Qn v hh ∧ Fr n0 L) hC' q.2.1 wc wi hfr hlo
  obtain ⟨v, vm₁, ⟨T', L', k', n'⟩, -, Y', ⟨Lc, hQ, l', y', z'⟩, stp⟩ := Y.specialBack q.1 (y := z) hz q.2.2.2.2.2.2.1 (mvT q.2.1 w1) (mvT q.2.1 w2) (mvT q.2.1 wc) hy hB (g := mkF m pc ls (argsL.reverse ++ .ref a :: rest)) rfl (by rw [q.2.2.2.1]; exact hsize) (Steps.refl _) (a := a) (argsL := argsL) (rest := rest) hlen rfl (by simpa using hW) (q.2.2.1 ▸ hd) (fun _ _ => ⟨rfl, r1, by dsimp only [Pt.cells]; omega, by dsimp only [Pt.slots]; omega⟩)
  dsimp only [Pt.U, Pt.locs, Pt.cells, Pt.slots] at Y' l' y' z' stp hQ
  obtain ⟨⟨rfl, hQ1⟩, hQ2⟩ := hQ
  subst l' y' z'
  exact (K T' T'.heap ⟨q, _, _, _, Y', rfl, Fr.app r2 hQ2, by omega, by omega⟩ hQ1).st fun t k => stp.trans k
theorem bk_static (X : Sd Z y bytes maxL ret p l e R s m args below meth c n0 h kc ks T) {z : MethodName} {as : Array Value} {QL : Option Value → Heap → List Loc → Prop} {ck sk pc n index W : Nat} {ls : Array Slot} {st rest argsL : List Value} (hd : decode bytes pc = .ok (.invokestatic index, 3)) (w1 : (Cond.methodLink y.cls index z).before a0 Z = true) (w2 : (Cond.static z).before a0 Z = true) (wi : (Cond.initialized z.cls).before a0 Z = true) {ybytes : ByteArray} {yL : Nat} {yret : Option FieldType} (wc : (Cond.code z ybytes yL yret).before a0 Z = true) (hy : z.cls ≠ "java/lang/invoke/MethodHandle" ∧ z.cls ≠ "java/lang/invoke/VarHandle") (hB : Back l R p e below s args z 3 W (fun P a' => a' = argsL.toArray ∧ P.U.heap = h ∧ P.cells + ck ≤ R.cells ∧ P.slots + sk ≤ R.slots) (fun P _ v B => ∃ L, QL v B.U.heap L ∧ B.locs = P.locs ++ L ∧ B.cells = P.cells + ck ∧ B.slots = P.slots + sk)) (hF : ∀ v h' L, QL v h' L → Fr n0 L) (hst : st = argsL.reverse ++ rest) (hsize : ls.size = maxL) (hlen : ∀ sig, parseMethodDescriptor z.desc = some sig → argsL.length = sig.parameters.length) (hW : (rest.map fun v => v.category).sum ≤ W) (hce : kc + ck ≤ R.cells) (hsl : ks + sk ≤ R.slots) (hn : pc + 3 = n) (K : ∀ T' h' v L, Sd Z y bytes maxL ret p l e R s m args below meth c n0 h' (kc + ck) (ks + sk) T' → QL v h' L → Run p e below s n0 fc fs Q (T'.setTop (mkF m n ls (v.toList ++ rest)))) : Run p e below s n0 fc fs Q (T.setTop (mkF m pc ls st)) := by
  subst hn hst; obtain ⟨q, L, i, j, Y, r1, r2, r3, r4⟩ := X
  obtain ⟨v, vm₁, ⟨T', L', k', n'⟩, -, Y', ⟨Lc, hQ, l', y', z'⟩, stp⟩ := Jvm.LawKit.callS Y q.1 (y := z) q.2.2.2.2.2.2.1 (mvT q.2.1 w1) (mvT q.2.1 w2) (mvT q.2.1 wi) (mvT q.2.1 wc) hy hB (g := mkF m pc ls (argsL.reverse ++ rest)) rfl (by rw [q.2.2.2.1]; exact hsize) (argsL := argsL) (rest := rest) hlen rfl (by simpa using hW) (q.2.2.1 ▸ hd) (fun _ _ => ⟨rfl, r1, by dsimp only [Pt.cells]; omega, by dsimp only [Pt.slots]; omega⟩)
  dsimp only [Pt.U, Pt.locs, Pt.cells, Pt.slots] at Y' l' y' z' stp hQ
  subst l' y' z'
  exact (K T' T'.heap v Lc ⟨q, _, _, _, Y', rfl, Fr.app r2 (hF _ _ _ hQ), by omega, by omega⟩ hQ).st fun t k => stp t k
theorem bk_virtual (X : Sd Z y bytes maxL ret p l e R s m args below meth c n0 h kc ks T) {z : MethodName} {as : Array Value} {QL : Option Value → Heap → List Loc → Prop} {ck sk pc n index W : Nat} {ls : Array Slot} {st rest argsL : List Value} {a : Addr} {C : String} {yv : MethodName} (hd : decode bytes pc = .ok (.invokevirtual index, 3)) (w1 : (Cond.methodLink y.cls index yv).before a0 Z = true) (w2 : (Cond.declares yv).before a0 Z = true) (w3 : (Cond.instanceMethod z).before a0 Z = true) (w4 : (Cond.selects C yv z).before a0 Z = true) (hnf : ∀ {s' : State}, Z.Warmed39 s'.vm → NotFace s' yv) (hy : yv.cls ≠ "java/lang/invoke/MethodHandle" ∧ yv.cls ≠ "java/lang/invoke/VarHandle") (E : Exa Z h a C) (hB : Back l R p e below s args z 3 W (fun P a' => a' = (.ref a :: argsL).toArray ∧ P.U.heap = h ∧ P.cells + ck ≤ R.cells ∧ P.slots + sk ≤ R.slots) (fun P _ v B => ∃ L, QL v B.U.heap L ∧ B.locs = P.locs ++ L ∧ B.cells = P.cells + ck ∧ B.slots = P.slots + sk)) (hF : ∀ v h' L, QL v h' L → Fr n0 L) (hst : st = argsL.reverse ++ .ref a :: rest) (hsize : ls.size = maxL) (hlen : ∀ sig, parseMethodDescriptor yv.desc = some sig → argsL.length = sig.parameters.length) (hW : (rest.map fun v => v.category).sum ≤ W) (hce : kc + ck ≤ R.cells) (hsl : ks + sk ≤ R.slots) (hn : pc + 3 = n) (K : ∀ T' h' v L, Sd Z y bytes maxL ret p l e R s m args below meth c n0 h' (kc + ck) (ks + sk) T' → QL v h' L → Run p e below s n0 fc fs Q (T'.setTop (mkF m n ls (v.toList ++ rest)))) : Run p e below s n0 fc fs Q (T.setTop (mkF m pc ls st)) := by
  subst hn hst; obtain ⟨q, L, i, j, Y, r1, r2, r3, r4⟩ := X
  obtain ⟨cq, kq, qa, qb, qc⟩ := isOf (T := T) q.2.1 r1 E
  obtain ⟨v, vm₁, ⟨T', L', k', n'⟩, -, Y', ⟨Lc, hQ, l', y', z'⟩, stp⟩ := Y.virtualBack q.1 (y := yv) (z := z) q.2.2.2.2.2.2.1 (mvT q.2.1 w1) (mvT q.2.1 w2) (hnf q.2.1) (mvT q.2.1 w4) (mvT q.2.1 w3) hy hB qa qc (g := mkF m pc ls (argsL.reverse ++ .ref a :: rest)) rfl (by rw [q.2.2.2.1]; exact hsize) (Steps.refl _) (argsL := argsL) (rest := rest) hlen rfl (by simpa using hW) (q.2.2.1 ▸ hd) (fun _ _ => ⟨rfl, r1, by dsimp only [Pt.cells]; omega, by dsimp only [Pt.slots]; omega⟩)
  dsimp only [Pt.U, Pt.locs, Pt.cells, Pt.slots] at Y' l' y' z' stp hQ
  subst l' y' z'
  exact (K T' T'.heap v Lc ⟨q, _, _, _, Y', rfl, Fr.app r2 (hF _ _ _ hQ), by omega, by omega⟩ hQ).st fun t k => stp.trans k
theorem bk_special (X : Sd Z y bytes maxL ret p l e R s m args below meth c n0 h kc ks T) {z : MethodName} {as : Array Value} {QL : Option Value → Heap → List Loc → Prop} {ck sk pc n index W : Nat} {ls : Array Slot} {st rest argsL : List Value} {a : Addr} (hd : decode bytes pc = .ok (.invokespecial index, 3)) (w1 : (Cond.methodLink y.cls index z).before a0 Z = true) (w2 : (Cond.instanceMethod z).before a0 Z = true) {ybytes : ByteArray} {yL : Nat} (wc : (Cond.code z ybytes yL none).before a0 Z = true) (hz : z.name = "<init>") (hy : z.cls ≠ "java/lang/invoke/MethodHandle" ∧ z.cls ≠ "java/lang/invoke/VarHandle") (hB : Back l R p e below s args z 3 W (fun P a' => a' = (.ref a :: argsL).toArray ∧ P.U.heap = h ∧ P.cells + ck ≤ R.cells ∧ P.slots + sk ≤ R.slots) (fun P _ v B => ∃ L, QL v B.U.heap L ∧ B.locs = P.locs ++ L ∧ B.cells = P.cells + ck ∧ B.slots = P.slots + sk)) (hF : ∀ v h' L, QL v h' L → Fr n0 L) (hst : st = argsL.reverse ++ .ref a :: rest) (hsize : ls.size = maxL) (hlen : ∀ sig, parseMethodDescriptor z.desc = some sig → argsL.length = sig.parameters.length) (hW : (rest.map fun v => v.category).sum ≤ W) (hce : kc + ck ≤ R.cells) (hsl : ks + sk ≤ R.slots) (hn : pc + 3 = n) (K : ∀ T' h' v L, Sd Z y bytes maxL ret p l e R s m args below meth c n0 h' (kc + ck) (ks + sk) T' → QL v h' L → Run p e below s n0 fc fs Q (T'.setTop (mkF m n ls (v.toList ++ rest)))) : Run p e below s n0 fc fs Q (T.setTop (mkF m pc ls st)) := by
  subst hn hst; obtain ⟨q, L, i, j, Y, r1, r2, r3, r4⟩ := X
  obtain ⟨v, vm₁, ⟨T', L', k', n'⟩, -, Y', ⟨Lc, hQ, l', y', z'⟩, stp⟩ := Y.specialBack q.1 (y := z) hz q.2.2.2.2.2.2.1 (mvT q.2.1 w1) (mvT q.2.1 w2) (mvT q.2.1 wc) hy hB (g := mkF m pc ls (argsL.reverse ++ .ref a :: rest)) rfl (by rw [q.2.2.2.1]; exact hsize) (Steps.refl _) (a := a) (argsL := argsL) (rest := rest) hlen rfl (by simpa using hW) (q.2.2.1 ▸ hd) (fun _ _ => ⟨rfl, r1, by dsimp only [Pt.cells]; omega, by dsimp only [Pt.slots]; omega⟩)
  dsimp only [Pt.U, Pt.locs, Pt.cells, Pt.slots] at Y' l' y' z' stp hQ
  subst l' y' z'
  exact (K T' T'.heap v Lc ⟨q, _, _, _, Y', rfl, Fr.app r2 (hF _ _ _ hQ), by omega, by omega⟩ hQ).st fun t k => stp.trans k
theorem checkcast (X : Sd Z y bytes maxL ret p l e R s m args below meth c n0 h kc ks T) {pc n index : Nat} {ls : Array Slot} {st : List Value} (hd : decode bytes pc = .ok (.checkcast index, 3)) (w : (Cond.classLink y.cls index C).before a0 Z = true) (F : Ins Z h a C true) (hn : pc + 3 = n) (K : ∀ T', Sd Z y bytes maxL ret p l e R s m args below meth c n0 h kc ks T' → Run p e below s n0 fc fs Q (T'.setTop (mkF m n ls (.ref a :: st)))) : Run p e below s n0 fc fs Q (T.setTop (mkF m pc ls (.ref a :: st))) := by
  subst hn; obtain ⟨q, L, i, j, Y, r1, r2, r3, r4⟩ := X
  obtain ⟨T', Y', e', stp⟩ := castY Y q.1 q.2.1 q.2.2.2.2.2.2.1 w r1 F (g := mkF m pc ls (.ref a :: st)) rfl rfl (q.2.2.1 ▸ hd)
  exact (K T' ⟨q, _, _, _, Y', e', r2, r3, r4⟩).st stp
theorem instanceofY (X : Sd Z y bytes maxL ret p l e R s m args below meth c n0 h kc ks T) {pc n index : Nat} {ls : Array Slot} {st : List Value} (hd : decode bytes pc = .ok (.instanceof index, 3)) (w : (Cond.classLink y.cls index C).before a0 Z = true) (F : Ins Z h a C true) (hn : pc + 3 = n) (K : ∀ T', Sd Z y bytes maxL ret p l e R s m args below meth c n0 h kc ks T' → Run p e below s n0 fc fs Q (T'.setTop (mkF m n ls (.int 1 :: st)))) : Run p e below s n0 fc fs Q (T.setTop (mkF m pc ls (.ref a :: st))) := by
  subst hn; obtain ⟨q, L, i, j, Y, r1, r2, r3, r4⟩ := X
  obtain ⟨T', Y', e', stp⟩ := instY Y q.1 q.2.1 q.2.2.2.2.2.2.1 w r1 F (g := mkF m pc ls (.ref a :: st)) rfl rfl (q.2.2.1 ▸ hd)
  exact (K T' ⟨q, _, _, _, Y', e', r2, r3, r4⟩).st stp
theorem clone (X : Sd Z y bytes maxL ret p l e R s m args below meth c n0 h kc ks T) {pc n index W cap : Nat} {ls : Array Slot} {st : List Value} {ad : String} (hd : decode bytes pc = .ok (.invokevirtual index, 3)) (w1 : (Cond.methodLink y.cls index ⟨ad, "clone", "()Ljava/lang/Object;"⟩).before a0 Z = true) (w2 : (Cond.sameMethod ad "java/lang/Object" "clone" "()Ljava/lang/Object;").before a0 Z = true) (w3 : (Cond.native ⟨"java/lang/Object", "clone", "()Ljava/lang/Object;"⟩).before a0 Z = true) (w4 : (Cond.instanceMethod ⟨"java/lang/Object", "clone", "()Ljava/lang/Object;"⟩).before a0 Z = true) (w5 : (Cond.selects ad ⟨ad, "clone", "()Ljava/lang/Object;"⟩ ⟨"java/lang/Object", "clone", "()Ljava/lang/Object;"⟩).before a0 Z = true) (w6 : (Cond.castable ad "java/lang/Cloneable").before a0 Z = true) (A : Ark Z h a ty vs) (E : Exa Z h a ad) (hsize : ls.size = maxL) (hf : 1 ≤ R.frames) (hW : (st.map fun v => v.category).sum ≤ W) (hl : W + 14 ≤ R.locals) (hcap : vs.length ≤ cap) (hc : kc + 1 ≤ R.cells) (hsl : ks + cap ≤ R.slots) (hn : pc + 3 = n) (K : ∀ T' h' b, b = h.size → Sd Z y bytes maxL ret p l e R s m args below meth c n0 h' (kc + 1) (ks + cap) T' → Ext h h' → Ark Z h' b ty vs → Exa Z h' b ad → Run p e below s n0 fc fs Q (T'.setTop (mkF m n ls (.ref b :: st)))) : Run p e below s n0 fc fs Q (T.setTop (mkF m pc ls (.ref a :: st))) := by
  subst hn; obtain ⟨q, L, i, j, Y, r1, r2, r3, r4⟩ := X
  obtain ⟨c', A, s1, s2, s3⟩ := A
  have e1 : c'.slots.size = vs.length := by rw [s1]; simp
  have FC : FitC Z c' := fitC_of A fun i hi v hv => by
    rw [s1] at hv
    exact s3 v (List.mem_of_getElem? (i := i) (by simpa using hv))
  obtain ⟨T', h', Y', e', ex, A', E', stp⟩ := cloneA Y q.1 q.2.1 q.2.2.2.2.2.2.1 w1 w2 w3 w4 w5 w6 r1 A E FC (g := mkF m pc ls (.ref a :: st)) rfl (by rw [q.2.2.2.1]; exact hsize) rfl (q.2.2.1 ▸ hd) hf (W := W) (cap := cap) (by simpa using hW) hl (by rw [e1]; exact hcap) (by omega) (by omega)
  exact (K T' h' _ rfl ⟨q, _, _, _, Y', e', r2, by omega, by omega⟩ ex ⟨_, A', s1, s2, s3⟩ E').st stp
theorem ldcStr (X : Sd Z y bytes maxL ret p l e R s m args below meth c n0 h kc ks T) {pc n index : Nat} {ls : Array Slot} {st : List Value} {text : String} (hd : decode bytes pc = .ok (.ldc index, 2)) (w : (Cond.stringRef y.cls index text).before a0 Z = true) (L : RoadKit.Lit Z y.cls index a) (hn : pc + 2 = n) (K : Run p e below s n0 fc fs Q (T.setTop (mkF m n ls (.ref a :: st)))) : Run p e below s n0 fc fs Q (T.setTop (mkF m pc ls st)) := by
  subst hn; obtain ⟨q, L', i, j, Y, -⟩ := X
  exact K.st fun _ k => ldcR Y q.1 q.2.1 q.2.2.2.2.2.2.1 w L (g := mkF m pc ls st) rfl (q.2.2.1 ▸ hd) _ k
theorem lenOfTerm {args : Array Value} {first s : State} {o : Option Outcome} {idx : List Nat} {t : Term} {k : Int32} {a : Addr} {cl : Cell} {n : Nat} (hh : (Term.length t).eval args first o idx s = some (.int k)) (ht : t.eval args first o idx s = some (.ref a)) (hc : s.heap[a]? = some cl) (hk : k.toInt = n) : cl.slots.size = n := by
  simp only [Term.eval, ht, Option.bind_eq_bind, Option.bind_some] at hh
  obtain ⟨c2, h1, h2⟩ := Option.bind_eq_some_iff.mp hh
  have h3 := (State.arrayAt?_spec h1).1
  cases hc.symm.trans h3
  by_cases q : cl.slots.size < 2 ^ 31
  · simp only [q, if_true, Option.pure_def, Option.some.injEq, Value.int.injEq] at h2
    have h4 : (cl.slots.size.toInt32).toInt = cl.slots.size := Int32.toInt_ofNat_small q
    rw [h2, hk] at h4
    omega
  · simp [q] at h2
theorem eqR_v {args : Array Value} {first s : State} {o : Option Outcome} {idx : List Nat} {t u : Term} {a : Addr} (hh : (Jvm.Cond.eq t u).value args first o s idx = some true) (hu : u.eval args first o idx s = some (.ref a)) : t.eval args first o idx s = some (.ref a) := by
  simp only [Jvm.Cond.value, hu] at hh
  cases ht : t.eval args first o idx s with
  | none => simp [ht] at hh
  | some x => cases x <;> simp [ht] at hh ⊢; exact hh
/-- an array handed over from the start: its cell, its length, its values -/
theorem Ark.start (hf : Fit Z) {cl : Cell} (A : Arr Z Z.heap a cl ty) (hl : cl.slots.size = vs.length) (hb : vs.length < 2147483648) (H : ∀ i, i < vs.length → cl.slots[i]? = vs[i]?) : Ark Z Z.heap a ty vs := by
  have e1 : cl.slots = vs.toArray := by
    apply Array.ext
    · simpa using hl
    · intro i h1 h2
      have q := H i (by omega)
      rw [Array.getElem?_eq_getElem h1, List.getElem?_eq_getElem (by omega)] at q
      simpa using Option.some.inj q
  refine ⟨cl, A, e1, hb, fun v hv => ?_⟩
  obtain ⟨i, hi, rfl⟩ := List.getElem_of_mem hv
  have q := elem_fits hf A (j := Int32.ofNat i) (v := vs[i]) ?_ ?_
  · exact q
  · intro q
    have e2 : (Int32.ofNat i).toInt = i := Int32.toInt_ofNat_small (by omega)
    obtain ⟨g1, g2⟩ := toNatC e2
    rcases q with q | q
    · exact g2 q
    · rw [g1] at q; omega
  · have e2 : (Int32.ofNat i).toInt = i := Int32.toInt_ofNat_small (by omega)
    rw [(toNatC e2).1, e1]; simp
end B
end Jvm.OwnK
namespace Jvm.Pilot.@@N@@
open Jvm Jvm.ClassFile Sem Op Lib Jvm.Free Jvm.Stand Jvm.LawKit Jvm.RoadKit Jvm.OwnK Bundle Jvm.Pilot.@@N@@.Jvm.D
def lo8 (x : Int32) : Int32 := x.toInt8.toInt32
theorem own_nat {i : Nat} (h : i < 2147483648) : (Int32.ofNat i).toInt = i := Int32.toInt_ofNat_small h
theorem own_lt {i n : Nat} (hi : i < 2147483648) (hn : n < 2147483648) : Int32.ofNat i < Int32.ofNat n ↔ i < n := by
  rw [Int32.lt_iff_toInt_lt, own_nat hi, own_nat hn]; omega
theorem own_eqn {i n : Nat} (hi : i < 2147483648) (hn : n < 2147483648) : Int32.ofNat i = Int32.ofNat n ↔ i = n := by
  rw [← Int32.toInt_inj, own_nat hi, own_nat hn]; omega
theorem own_add (a b : Nat) : Int32.ofNat a + Int32.ofNat b = Int32.ofNat (a + b) := by
  apply Int32.toInt_inj.mp; rw [Int32.toInt_add]; simp [Int32.toInt_ofNat]
theorem own_sub (a b : Nat) (h : b ≤ a) (ha : a < 2147483648) : Int32.ofNat a - Int32.ofNat b = Int32.ofNat (a - b) := by
  apply Int32.toInt_inj.mp
  have h1 := c_isub (Int32.ofNat a) (Int32.ofNat b)
  have h2 := rng32 (Int32.ofNat a - Int32.ofNat b)
  rw [own_nat ha, own_nat (by omega)] at h1
  rw [own_nat (by omega)]
  omega
theorem own_ofInt (x : Int32) (k : Nat) (h0 : 0 ≤ x.toInt) (h : x.toInt ≤ k) (hk : k < 2147483648) : ∃ n : Nat, x = Int32.ofNat n ∧ n ≤ k := ⟨x.toInt.toNat, Int32.toInt_inj.mp (by rw [own_nat (by omega)]; omega), by omega⟩
theorem own_255n (x : Int32) : ∃ n : Nat, (x &&& 255) = Int32.ofNat n ∧ n ≤ 255 := by
  have h := c_and x 255 (by decide)
  exact own_ofInt _ 255 h.1 h.2 (by decide)
theorem own_65n (x : Int32) : ∃ n : Nat, (x &&& 65535) = Int32.ofNat n ∧ n ≤ 65535 := by
  have h := c_and x 65535 (by decide)
  exact own_ofInt _ 65535 h.1 h.2 (by decide)
theorem own_16n (x : Int32) : ∃ n : Nat, ((x &&& 2147483647) % 17) = Int32.ofNat n ∧ n ≤ 16 := by
  have h1 := c_mask x 2147483647 31 (by decide) (by decide)
  have h2 := (c_irem (x &&& 2147483647) 17 17 (by decide)).1 (by rw [h1]; omega)
  exact own_ofInt _ 16 (by omega) (by omega) (by decide)
theorem own_11n (x : Int32) : ∃ n : Nat, (1 + ((x.toUInt32 >>> ((1 : Int32) &&& 31).toUInt32).toInt32 % 11)) = Int32.ofNat n ∧ n ≤ 65535 := by
  have h1 := c_iushr x 1 1 (by decide) (by decide)
  have h2 := (c_irem ((x.toUInt32 >>> ((1 : Int32) &&& 31).toUInt32).toInt32) 11 11 (by decide)).1 (by rw [h1]; omega)
  have h3 := c_iadd 1 ((x.toUInt32 >>> ((1 : Int32) &&& 31).toUInt32).toInt32 % 11)
  have h4 := rng32 (1 + ((x.toUInt32 >>> ((1 : Int32) &&& 31).toUInt32).toInt32 % 11))
  have e : (1 : Int32).toInt = 1 := rfl
  rw [e] at h3
  exact own_ofInt _ 65535 (by omega) (by omega) (by decide)
theorem own_255l (x : Int64) : ∃ n : Nat, (x &&& 255).toInt32 = Int32.ofNat n ∧ n ≤ 255 := by
  have h := c_maskL x 255 8 (by decide) (by decide)
  have h1 := c_l2i (x &&& 255)
  have h2 := rng32 (x &&& 255).toInt32
  exact own_ofInt _ 255 (by omega) (by omega) (by decide)
theorem own_24l (x : Int64) : ∃ n : Nat, (x &&& 16777215).toInt32 = Int32.ofNat n ∧ n ≤ 16777215 := by
  have h := c_maskL x 16777215 24 (by decide) (by decide)
  have h1 := c_l2i (x &&& 16777215)
  have h2 := rng32 (x &&& 16777215).toInt32
  exact own_ofInt _ 16777215 (by omega) (by omega) (by decide)
theorem own_12l (x : Int64) : ∃ n : Nat, ((x &&& 2147483647) - ((x &&& 2147483647) / 13) * 13).toInt32 = Int32.ofNat n ∧ n ≤ 16777215 := by
  have h := c_maskL x 2147483647 31 (by decide) (by decide)
  have h0 := (c_lrem (x &&& 2147483647) 13 13 (by decide)).1 (by rw [h]; omega)
  have h1 := c_l2i ((x &&& 2147483647) - ((x &&& 2147483647) / 13) * 13)
  have h2 := rng32 ((x &&& 2147483647) - ((x &&& 2147483647) / 13) * 13).toInt32
  exact own_ofInt _ 16777215 (by omega) (by omega) (by decide)
theorem own_byte {x : Int32} (h0 : 0 ≤ x.toInt) (h1 : x.toInt ≤ 255) : (lo8 x &&& 255).toInt = x.toInt := by
  have h2 := c_i2b x
  have h3 := c_mask (lo8 x) 255 8 (by decide) (by decide)
  unfold lo8 at h3 ⊢
  omega
theorem own_byte22 {C : Nat} (h : C ≤ 255) (k : Nat) (hk : k < 128) : lo8 (Int32.ofNat C) = Int32.ofNat k ↔ C = k := by
  have h2 := c_i2b (Int32.ofNat C)
  rw [own_nat (by omega)] at h2
  rw [← Int32.toInt_inj, own_nat (i := k) (by omega)]
  unfold lo8
  omega
theorem own_frag {F : Nat} (h : F ≤ 65535) : ((lo8 ((Int32.ofNat F).toUInt32 >>> ((8:Int32) &&& 31).toUInt32).toInt32 &&& 255) <<< ((8:Int32) &&& 31)) ||| (lo8 (Int32.ofNat F &&& 255) &&& 255) = Int32.ofNat F := by
  have e := own_nat (i := F) (by omega)
  have h1 := c_iushr (Int32.ofNat F) 8 8 (by decide) (by decide)
  have h2 := c_mask (Int32.ofNat F) 255 8 (by decide) (by decide)
  rw [e] at h1 h2
  have h3 := own_byte (x := ((Int32.ofNat F).toUInt32 >>> ((8:Int32) &&& 31).toUInt32).toInt32) (by omega) (by omega)
  have h4 := own_byte (x := Int32.ofNat F &&& 255) (by omega) (by omega)
  generalize (lo8 ((Int32.ofNat F).toUInt32 >>> ((8:Int32) &&& 31).toUInt32).toInt32 &&& 255) = a at *
  generalize (lo8 (Int32.ofNat F &&& 255) &&& 255) = b at *
  have h5 := c_ishl a 8 8 (by decide)
  have h6 := rng32 (a <<< ((8:Int32) &&& 31))
  generalize a <<< ((8:Int32) &&& 31) = u at *
  have h7 := c_or u b 8 (by decide) 256 (by decide) (by omega) (by omega) (by omega)
  have h8 := rng32 (u ||| b)
  apply Int32.toInt_inj.mp
  rw [e]
  omega
def own_acc (m1 m2 m3 : Int32) (k : Nat) : Int32 :=
  if k ≤ 1 then 0 else if k = 2 then ((0 : Int32) <<< ((8:Int32) &&& 31)) ||| m1 else if k = 3 then ((((0 : Int32) <<< ((8:Int32) &&& 31)) ||| m1) <<< ((8:Int32) &&& 31)) ||| m2 else ((((((0 : Int32) <<< ((8:Int32) &&& 31)) ||| m1) <<< ((8:Int32) &&& 31)) ||| m2) <<< ((8:Int32) &&& 31)) ||| m3
theorem own_acc_full {m1 m2 m3 : Int32} {k : Nat} (h : 4 ≤ k) : own_acc m1 m2 m3 k = own_acc m1 m2 m3 4 := by
  have h1 : ¬ k ≤ 1 := by omega
  have h2 : ¬ k = 2 := by omega
  have h3 : ¬ k = 3 := by omega
  simp [own_acc, h1, h2, h3]
theorem own_decl {D : Nat} (h : D ≤ 16777215) : own_acc (lo8 ((Int32.ofNat D).toUInt32 >>> ((16:Int32) &&& 31).toUInt32).toInt32 &&& 255) (lo8 (((Int32.ofNat D).toUInt32 >>> ((8:Int32) &&& 31).toUInt32).toInt32 &&& 255) &&& 255) (lo8 (Int32.ofNat D &&& 255) &&& 255) 4 = Int32.ofNat D := by
  have e := own_nat (i := D) (by omega)
  have h1 := c_iushr (Int32.ofNat D) 16 16 (by decide) (by decide)
  have h1' := c_iushr (Int32.ofNat D) 8 8 (by decide) (by decide)
  have h2' := c_mask ((Int32.ofNat D).toUInt32 >>> ((8:Int32) &&& 31).toUInt32).toInt32 255 8 (by decide) (by decide)
  have h2 := c_mask (Int32.ofNat D) 255 8 (by decide) (by decide)
  rw [e] at h1 h2 h1'
  have h3 := own_byte (x := ((Int32.ofNat D).toUInt32 >>> ((16:Int32) &&& 31).toUInt32).toInt32) (by omega) (by omega)
  have h3' := own_byte (x := ((Int32.ofNat D).toUInt32 >>> ((8:Int32) &&& 31).toUInt32).toInt32 &&& 255) (by omega) (by omega)
  have h4 := own_byte (x := Int32.ofNat D &&& 255) (by omega) (by omega)
  show (((((((0 : Int32) <<< ((8:Int32) &&& 31)) ||| _) <<< ((8:Int32) &&& 31)) ||| _) <<< ((8:Int32) &&& 31)) ||| _) = _
  generalize (lo8 ((Int32.ofNat D).toUInt32 >>> ((16:Int32) &&& 31).toUInt32).toInt32 &&& 255) = a at *
  generalize (lo8 (((Int32.ofNat D).toUInt32 >>> ((8:Int32) &&& 31).toUInt32).toInt32 &&& 255) &&& 255) = b at *
  generalize (lo8 (Int32.ofNat D &&& 255) &&& 255) = c at *
  have z0 : ((0 : Int32) <<< ((8:Int32) &&& 31)).toInt = 0 := by decide
  generalize (0 : Int32) <<< ((8:Int32) &&& 31) = u0 at *
  have k1 := c_or u0 a 8 (by decide) 256 (by decide) (by omega) (by omega) (by omega)
  have r1 := rng32 (u0 ||| a)
  generalize u0 ||| a = u1 at *
  have k2 := c_ishl u1 8 8 (by decide)
  have r2 := rng32 (u1 <<< ((8:Int32) &&& 31))
  generalize u1 <<< ((8:Int32) &&& 31) = u2 at *
  have k3 := c_or u2 b 8 (by decide) 256 (by decide) (by omega) (by omega) (by omega)
  have r3 := rng32 (u2 ||| b)
  generalize u2 ||| b = u3 at *
  have k4 := c_ishl u3 8 8 (by decide)
  have r4 := rng32 (u3 <<< ((8:Int32) &&& 31))
  generalize u3 <<< ((8:Int32) &&& 31) = u4 at *
  have k5 := c_or u4 c 8 (by decide) 256 (by decide) (by omega) (by omega) (by omega)
  have r5 := rng32 (u4 ||| c)
  apply Int32.toInt_inj.mp
  rw [e]
  omega

theorem own_get (cs : List Int32) {i : Nat} (h : i < cs.length) : (cs.map Value.int)[i]? = some (Value.int (cs.getD i 0)) := by
  simp [List.getElem?_eq_getElem, h, List.getD]
theorem own_narB (x : Int32) : nar .byte (lo8 x) = lo8 x := by
  show (x.toInt8.toInt32).toInt8.toInt32 = x.toInt8.toInt32
  simp
def own_at (p F1 F2 : Nat) (L1 L2 L3 : List Int32) (c : Int32) : Int32 := lo8 (if p < 5 then L1.getD p 0 else if p < 5 + F1 then L2.getD (p - 5) 0 else if p < 10 + F1 then L3.getD (p - 5 - F1) 0 else if p < 10 + F1 + F2 then L2.getD (p - 10) 0 else c)
theorem own_narAt (p F1 F2 : Nat) (L1 L2 L3 : List Int32) (c : Int32) : nar .byte (own_at p F1 F2 L1 L2 L3 c) = own_at p F1 F2 L1 L2 L3 c := own_narB _
def own_m (m1 m2 m3 : Int32) (j : Nat) : Int32 := if j = 1 then m1 else if j = 2 then m2 else m3
def own_W (bs : List Int32) (F1 F2 C1 T C2 C3 : Nat) (m1 m2 m3 : Int32) : Prop :=
  bs.length = 16 ∧ (bs.getD 0 0 = 22 ↔ C1 = 22) ∧
  (((bs.getD 3 0 &&& 255) <<< ((8:Int32) &&& 31)) ||| (bs.getD 4 0 &&& 255) = Int32.ofNat F1) ∧
  (1 ≤ F1 → (bs.getD 5 0 = 1 ↔ T = 1)) ∧
  (∀ j, 1 ≤ j → j ≤ 3 → j < F1 → bs.getD (5 + j) 0 &&& 255 = own_m m1 m2 m3 j) ∧
  (∀ j, 1 ≤ j → j ≤ 3 → F1 ≤ j → j < F1 + F2 → bs.getD (10 + j) 0 &&& 255 = own_m m1 m2 m3 j) ∧
  (5 + F1 < 16 → (bs.getD (5 + F1) 0 = 22 ↔ C2 = 22)) ∧
  (5 + F1 + 4 < 16 → (((bs.getD (5 + F1 + 3) 0 &&& 255) <<< ((8:Int32) &&& 31)) ||| (bs.getD (5 + F1 + 4) 0 &&& 255) = Int32.ofNat F2)) ∧
  (5 + F1 + 5 + F2 < 16 → (bs.getD (5 + F1 + 5 + F2) 0 = 22 ↔ C3 = 22))
theorem own_wd (f : Nat → Int32) {k : Nat} (h : k < 16) : ((List.range 16).map f).getD k 0 = f k := by
  simp [List.getD, h]
theorem own_at1 {p F1 F2 : Nat} {L1 L2 L3 : List Int32} {c : Int32} (h : p < 5) : own_at p F1 F2 L1 L2 L3 c = lo8 (L1.getD p 0) := by simp only [own_at, if_pos h]
theorem own_at2 {p F1 F2 : Nat} {L1 L2 L3 : List Int32} {c : Int32} (h : ¬ p < 5) (h1 : p < 5 + F1) : own_at p F1 F2 L1 L2 L3 c = lo8 (L2.getD (p - 5) 0) := by simp only [own_at, if_neg h, if_pos h1]
theorem own_at3 {p F1 F2 : Nat} {L1 L2 L3 : List Int32} {c : Int32} (h : ¬ p < 5) (h1 : ¬ p < 5 + F1) (h2 : p < 10 + F1) : own_at p F1 F2 L1 L2 L3 c = lo8 (L3.getD (p - 5 - F1) 0) := by simp only [own_at, if_neg h, if_neg h1, if_pos h2]
theorem own_at4 {p F1 F2 : Nat} {L1 L2 L3 : List Int32} {c : Int32} (h : ¬ p < 5) (h1 : ¬ p < 5 + F1) (h2 : ¬ p < 10 + F1) (h3 : p < 10 + F1 + F2) : own_at p F1 F2 L1 L2 L3 c = lo8 (L2.getD (p - 10) 0) := by simp only [own_at, if_neg h, if_neg h1, if_neg h2, if_pos h3]
theorem own_at5 {p F1 F2 : Nat} {L1 L2 L3 : List Int32} {c : Int32} (h : ¬ p < 5) (h1 : ¬ p < 5 + F1) (h2 : ¬ p < 10 + F1) (h3 : ¬ p < 10 + F1 + F2) : own_at p F1 F2 L1 L2 L3 c = lo8 c := by simp only [own_at, if_neg h, if_neg h1, if_neg h2, if_neg h3]
theorem own_wire {F1 F2 C1 T C2 C3 D : Nat} {a1 a2 g1 g2 b4 b5 b6 b7 b8 b9 b10 : Int32} {L1 L2 L3 : List Int32} (hF1 : F1 ≤ 65535) (hF2 : F2 ≤ 65535) (hC1 : C1 ≤ 255) (hT : T ≤ 255) (hC2 : C2 ≤ 255) (hC3 : C3 ≤ 255)
    (e1 : L1 = [Int32.ofNat C1, a1, a2, ((Int32.ofNat F1).toUInt32 >>> ((8:Int32) &&& 31).toUInt32).toInt32, Int32.ofNat F1 &&& 255])
    (e2 : L2 = [Int32.ofNat T, ((Int32.ofNat D).toUInt32 >>> ((16:Int32) &&& 31).toUInt32).toInt32, ((Int32.ofNat D).toUInt32 >>> ((8:Int32) &&& 31).toUInt32).toInt32 &&& 255, Int32.ofNat D &&& 255, b4, b5, b6, b7, b8, b9, b10])
    (e3 : L3 = [Int32.ofNat C2, g1, g2, ((Int32.ofNat F2).toUInt32 >>> ((8:Int32) &&& 31).toUInt32).toInt32, Int32.ofNat F2 &&& 255]) :
    own_W ((List.range 16).map (fun p => own_at p F1 F2 L1 L2 L3 (Int32.ofNat C3))) F1 F2 C1 T C2 C3 (lo8 ((Int32.ofNat D).toUInt32 >>> ((16:Int32) &&& 31).toUInt32).toInt32 &&& 255) (lo8 (((Int32.ofNat D).toUInt32 >>> ((8:Int32) &&& 31).toUInt32).toInt32 &&& 255) &&& 255) (lo8 (Int32.ofNat D &&& 255) &&& 255) := by
  refine ⟨by simp, ?_, ?_, ?_, ?_, ?_, ?_, ?_, ?_⟩
  · rw [own_wd _ (by decide), own_at1 (by decide), e1]; exact own_byte22 hC1 22 (by decide)
  · rw [own_wd _ (by decide), own_wd _ (by decide), own_at1 (by decide), own_at1 (by decide), e1]; exact own_frag hF1
  · intro h
    rw [own_wd _ (by decide), own_at2 (by decide) (by omega), e2]; exact own_byte22 hT 1 (by decide)
  · intro j h1 h2 h3
    rw [own_wd _ (by omega), own_at2 (by omega) (by omega), e2]
    rcases (by omega : j = 1 ∨ j = 2 ∨ j = 3) with q | q | q <;> subst q <;> rfl
  · intro j h1 h2 h3 h4
    rw [own_wd _ (by omega), own_at4 (by omega) (by omega) (by omega) (by omega), e2]
    rcases (by omega : j = 1 ∨ j = 2 ∨ j = 3) with q | q | q <;> subst q <;> rfl
  · intro h
    rw [own_wd _ (by omega), own_at3 (by omega) (by omega) (by omega), e3, show 5 + F1 - 5 - F1 = 0 by omega]; exact own_byte22 hC2 22 (by decide)
  · intro h
    rw [own_wd _ (by omega), own_wd _ (by omega), own_at3 (by omega) (by omega) (by omega), own_at3 (by omega) (by omega) (by omega), e3, show 5 + F1 + 3 - 5 - F1 = 3 by omega, show 5 + F1 + 4 - 5 - F1 = 4 by omega]; exact own_frag hF2
  · intro h
    rw [own_wd _ (by omega), own_at5 (by omega) (by omega) (by omega) (by omega)]; exact own_byte22 hC3 22 (by decide)
def own_exp (P O W : Addr) (N F1 F2 D C1 T C2 C3 : Nat) : Addr :=
  if N = 0 then P else if ¬ C1 = 22 then O else if N < 5 then P else if F1 = 0 ∨ 16384 < F1 then O
  else if 1 ≤ min (5 + F1) N - 5 ∧ ¬ T = 1 then O
  else if 5 + F1 < N then
    if ¬ C2 = 22 then O else if N < 5 + F1 + 5 then P else if F2 = 0 ∨ 16384 < F2 then O
    else if 10 + F1 + F2 < N then (if C3 = 22 then P else O)
    else if 4 ≤ F1 + (min (10 + F1 + F2) N - (10 + F1)) ∧ D ≤ F1 + (min (10 + F1 + F2) N - (10 + F1)) - 4 then W else P
  else if 4 ≤ min (5 + F1) N - 5 ∧ D ≤ min (5 + F1) N - 5 - 4 then W else P
theorem own_ex1 {P O W : Addr} {N F1 F2 D C1 T C2 C3 : Nat} (h0 : N = 0) : own_exp P O W N F1 F2 D C1 T C2 C3 = P := by
  unfold own_exp; (repeat' split) <;> first | rfl | omega
theorem own_ex2 {P O W : Addr} {N F1 F2 D C1 T C2 C3 : Nat} (h0 : ¬ N = 0) (h1 : ¬ C1 = 22) : own_exp P O W N F1 F2 D C1 T C2 C3 = O := by
  unfold own_exp; (repeat' split) <;> first | rfl | omega
theorem own_ex3 {P O W : Addr} {N F1 F2 D C1 T C2 C3 : Nat} (h0 : ¬ N = 0) (h1 : C1 = 22) (h2 : N < 5) : own_exp P O W N F1 F2 D C1 T C2 C3 = P := by
  unfold own_exp; (repeat' split) <;> first | rfl | omega
theorem own_ex4 {P O W : Addr} {N F1 F2 D C1 T C2 C3 : Nat} (h0 : ¬ N = 0) (h1 : C1 = 22) (h2 : ¬ N < 5) (h3 : F1 = 0 ∨ 16384 < F1) : own_exp P O W N F1 F2 D C1 T C2 C3 = O := by
  unfold own_exp; (repeat' split) <;> first | rfl | omega
theorem own_ex5 {P O W : Addr} {N F1 F2 D C1 T C2 C3 : Nat} (h0 : ¬ N = 0) (h1 : C1 = 22) (h2 : ¬ N < 5) (h3 : ¬ F1 = 0) (h4 : ¬ 16384 < F1) (h5 : 1 ≤ min (5 + F1) N - 5) (h6 : ¬ T = 1) : own_exp P O W N F1 F2 D C1 T C2 C3 = O := by
  unfold own_exp; (repeat' split) <;> first | rfl | omega
theorem own_ex6 {P O W : Addr} {N F1 F2 D C1 T C2 C3 : Nat} (h0 : ¬ N = 0) (h1 : C1 = 22) (h2 : ¬ N < 5) (h3 : ¬ F1 = 0) (h4 : ¬ 16384 < F1) (h5 : min (5 + F1) N - 5 < 1 ∨ T = 1) (h6 : 5 + F1 < N) (h7 : ¬ C2 = 22) : own_exp P O W N F1 F2 D C1 T C2 C3 = O := by
  unfold own_exp; (repeat' split) <;> first | rfl | omega
theorem own_ex7 {P O W : Addr} {N F1 F2 D C1 T C2 C3 : Nat} (h0 : ¬ N = 0) (h1 : C1 = 22) (h2 : ¬ N < 5) (h3 : ¬ F1 = 0) (h4 : ¬ 16384 < F1) (h5 : min (5 + F1) N - 5 < 1 ∨ T = 1) (h6 : 5 + F1 < N) (h7 : C2 = 22) (h8 : N < 5 + F1 + 5) : own_exp P O W N F1 F2 D C1 T C2 C3 = P := by
  unfold own_exp; (repeat' split) <;> first | rfl | omega
theorem own_ex8 {P O W : Addr} {N F1 F2 D C1 T C2 C3 : Nat} (h0 : ¬ N = 0) (h1 : C1 = 22) (h2 : ¬ N < 5) (h3 : ¬ F1 = 0) (h4 : ¬ 16384 < F1) (h5 : min (5 + F1) N - 5 < 1 ∨ T = 1) (h6 : 5 + F1 < N) (h7 : C2 = 22) (h8 : ¬ N < 5 + F1 + 5) (h9 : F2 = 0 ∨ 16384 < F2) : own_exp P O W N F1 F2 D C1 T C2 C3 = O := by
  unfold own_exp; (repeat' split) <;> first | rfl | omega
theorem own_ex9 {P O W : Addr} {N F1 F2 D C1 T C2 C3 : Nat} (h0 : ¬ N = 0) (h1 : C1 = 22) (h2 : ¬ N < 5) (h3 : ¬ F1 = 0) (h4 : ¬ 16384 < F1) (h5 : min (5 + F1) N - 5 < 1 ∨ T = 1) (h6 : 5 + F1 < N) (h7 : C2 = 22) (h8 : ¬ N < 5 + F1 + 5) (h9 : ¬ F2 = 0) (h10 : ¬ 16384 < F2) (h11 : 5 + F1 + 5 + F2 < N) (h12 : C3 = 22) : own_exp P O W N F1 F2 D C1 T C2 C3 = P := by
  unfold own_exp; (repeat' split) <;> first | rfl | omega
theorem own_ex10 {P O W : Addr} {N F1 F2 D C1 T C2 C3 : Nat} (h0 : ¬ N = 0) (h1 : C1 = 22) (h2 : ¬ N < 5) (h3 : ¬ F1 = 0) (h4 : ¬ 16384 < F1) (h5 : min (5 + F1) N - 5 < 1 ∨ T = 1) (h6 : 5 + F1 < N) (h7 : C2 = 22) (h8 : ¬ N < 5 + F1 + 5) (h9 : ¬ F2 = 0) (h10 : ¬ 16384 < F2) (h11 : 5 + F1 + 5 + F2 < N) (h12 : ¬ C3 = 22) : own_exp P O W N F1 F2 D C1 T C2 C3 = O := by
  unfold own_exp; (repeat' split) <;> first | rfl | omega
theorem own_ex11 {P O W : Addr} {N F1 F2 D C1 T C2 C3 : Nat} (h0 : ¬ N = 0) (h1 : C1 = 22) (h2 : ¬ N < 5) (h3 : ¬ F1 = 0) (h4 : ¬ 16384 < F1) (h5 : min (5 + F1) N - 5 < 1 ∨ T = 1) (h6 : 5 + F1 < N) (h7 : C2 = 22) (h8 : ¬ N < 5 + F1 + 5) (h9 : ¬ F2 = 0) (h10 : ¬ 16384 < F2) (h11 : ¬ 5 + F1 + 5 + F2 < N) (h12 : 4 ≤ F1 + (min (10 + F1 + F2) N - (10 + F1))) (h13 : D ≤ F1 + (min (10 + F1 + F2) N - (10 + F1)) - 4) : own_exp P O W N F1 F2 D C1 T C2 C3 = W := by
  unfold own_exp; (repeat' split) <;> first | rfl | omega
theorem own_ex12 {P O W : Addr} {N F1 F2 D C1 T C2 C3 : Nat} (h0 : ¬ N = 0) (h1 : C1 = 22) (h2 : ¬ N < 5) (h3 : ¬ F1 = 0) (h4 : ¬ 16384 < F1) (h5 : min (5 + F1) N - 5 < 1 ∨ T = 1) (h6 : 5 + F1 < N) (h7 : C2 = 22) (h8 : ¬ N < 5 + F1 + 5) (h9 : ¬ F2 = 0) (h10 : ¬ 16384 < F2) (h11 : ¬ 5 + F1 + 5 + F2 < N) (h12 : F1 + (min (10 + F1 + F2) N - (10 + F1)) < 4 ∨ F1 + (min (10 + F1 + F2) N - (10 + F1)) - 4 < D) : own_exp P O W N F1 F2 D C1 T C2 C3 = P := by
  unfold own_exp; (repeat' split) <;> first | rfl | omega
theorem own_ex13 {P O W : Addr} {N F1 F2 D C1 T C2 C3 : Nat} (h0 : ¬ N = 0) (h1 : C1 = 22) (h2 : ¬ N < 5) (h3 : ¬ F1 = 0) (h4 : ¬ 16384 < F1) (h5 : min (5 + F1) N - 5 < 1 ∨ T = 1) (h6 : ¬ 5 + F1 < N) (h7 : 4 ≤ min (5 + F1) N - 5) (h8 : D ≤ min (5 + F1) N - 5 - 4) : own_exp P O W N F1 F2 D C1 T C2 C3 = W := by
  unfold own_exp; (repeat' split) <;> first | rfl | omega
theorem own_ex14 {P O W : Addr} {N F1 F2 D C1 T C2 C3 : Nat} (h0 : ¬ N = 0) (h1 : C1 = 22) (h2 : ¬ N < 5) (h3 : ¬ F1 = 0) (h4 : ¬ 16384 < F1) (h5 : min (5 + F1) N - 5 < 1 ∨ T = 1) (h6 : ¬ 5 + F1 < N) (h7 : min (5 + F1) N - 5 < 4 ∨ min (5 + F1) N - 5 - 4 < D) : own_exp P O W N F1 F2 D C1 T C2 C3 = P := by
  unfold own_exp; (repeat' split) <;> first | rfl | omega
theorem pf_java_lang_Math_min__II_I : plainFor (⟨"java/lang/Math", "min", "(II)I"⟩ : MethodName) = true := by decide +kernel
theorem d5_0 : decode jdk_29_method_69_code 0 = .ok (.iload_n 0, 1) := by decide +kernel
theorem d5_1 : decode jdk_29_method_69_code 1 = .ok (.iload_n 1, 1) := by decide +kernel
theorem d5_2 : decode jdk_29_method_69_code 2 = .ok (.if_icmp .gt 7, 3) := by decide +kernel
theorem d5_5 : decode jdk_29_method_69_code 5 = .ok (.iload_n 0, 1) := by decide +kernel
theorem d5_6 : decode jdk_29_method_69_code 6 = .ok (.goto 4, 3) := by decide +kernel
theorem d5_9 : decode jdk_29_method_69_code 9 = .ok (.iload_n 1, 1) := by decide +kernel
theorem d5_10 : decode jdk_29_method_69_code 10 = .ok (.ireturn, 1) := by decide +kernel
theorem ef_rm5 (m : MethodId) (x0 : Int32) (x1 : Int32) : entryFrame m #[(.int x0), (.int x1)] 2 = mkF m 0 #[.val (.int x0), .val (.int x1)] [] := by first | (simp [entryFrame, mkF, argsToLocals, Value.category]; done) | rfl
set_option maxRecDepth 65536 in
set_option maxHeartbeats 40000000 in
theorem rm5 (l : Launch) (Z : State) (a0 : Array Value) (hw : ∀ d ∈ tables_1, d.before a0 Z = true) (ws : List Jvm.Cond)  (h0 : Heap) (n0 : Nat) (na nb : Nat) (ha : na < 2147483648) (hb : nb < 2147483648) :
    Ctr l Z (⟨"java/lang/Math", "min", "(II)I"⟩ : MethodName) jdk_29_method_69_code 2 (some .int) ws ({ frames := 0, cells := 0, slots := 0, locals := 0 } : Room) n0 #[(.int (Int32.ofNat na)), (.int (Int32.ofNat nb))] h0 (Rt (fun w h => w = .int (Int32.ofNat (min na nb)) ∧ h0 = h)) := by
  refine Ctr.of pf_java_lang_Math_min__II_I (fun m => ef_rm5 m (Int32.ofNat na) (Int32.ofNat nb)) ?_
  intro p e s m below meth c T0 X0
  refine OwnK.iloadN X0 (n := 1) d5_0 rfl rfl ?_
  refine OwnK.iloadN X0 (n := 2) d5_1 rfl rfl ?_
  refine OwnK.ic_gt X0  (n1 := 9) (n2 := 5) d5_2 (by decide) rfl rfl (fun hc2 => ?_) (fun hc2 => ?_)
  · have kk1 : nb < na := (own_lt (i := nb) (n := na) (by omega) (by omega)).mp hc2
    refine OwnK.iloadN X0 (n := 10) d5_9 rfl rfl ?_
    exact OwnK.ireturn X0 rfl (Or.inl rfl) rfl d5_10 ⟨congrArg (fun z => Value.int (Int32.ofNat z)) (by omega), rfl⟩ (by decide) (by decide)
  · have kk2 : ¬ nb < na := fun q => hc2 ((own_lt (i := nb) (n := na) (by omega) (by omega)).mpr q)
    refine OwnK.iloadN X0 (n := 6) d5_5 rfl rfl ?_
    refine OwnK.goto X0 (n := 10) d5_6 (by decide) rfl ?_
    exact OwnK.ireturn X0 rfl (Or.inl rfl) rfl d5_10 ⟨congrArg (fun z => Value.int (Int32.ofNat z)) (by omega), rfl⟩ (by decide) (by decide)
theorem pn_com_example_brygga_brygga_ClientHelloOfPinLaw : plainName "com/example/brygga/brygga/ClientHelloOfPinLaw" = true := by first | (simp [plainName, overriddenIn]; done) | decide +kernel
theorem d1_0 : decode method_3_code 0 = .ok (.iload_n 0, 1) := by decide +kernel
theorem d1_1 : decode method_3_code 1 = .ok (.iconst 1, 1) := by decide +kernel
theorem d1_2 : decode method_3_code 2 = .ok (.iand, 1) := by decide +kernel
theorem d1_3 : decode method_3_code 3 = .ok (.ifCond .eq 14, 3) := by decide +kernel
theorem d1_6 : decode method_3_code 6 = .ok (.iconst 1, 1) := by decide +kernel
theorem d1_7 : decode method_3_code 7 = .ok (.iload_n 0, 1) := by decide +kernel
theorem d1_8 : decode method_3_code 8 = .ok (.iconst 1, 1) := by decide +kernel
theorem d1_9 : decode method_3_code 9 = .ok (.iushr, 1) := by decide +kernel
theorem d1_10 : decode method_3_code 10 = .ok (.bipush 11, 2) := by decide +kernel
theorem d1_12 : decode method_3_code 12 = .ok (.irem, 1) := by decide +kernel
theorem d1_13 : decode method_3_code 13 = .ok (.iadd, 1) := by decide +kernel
theorem d1_14 : decode method_3_code 14 = .ok (.goto 9, 3) := by decide +kernel
theorem d1_17 : decode method_3_code 17 = .ok (.iload_n 0, 1) := by decide +kernel
theorem d1_18 : decode method_3_code 18 = .ok (.iconst 1, 1) := by decide +kernel
theorem d1_19 : decode method_3_code 19 = .ok (.iushr, 1) := by decide +kernel
theorem d1_20 : decode method_3_code 20 = .ok (.ldc 39, 2) := by decide +kernel
theorem d1_22 : decode method_3_code 22 = .ok (.iand, 1) := by decide +kernel
theorem d1_23 : decode method_3_code 23 = .ok (.ireturn, 1) := by decide +kernel
theorem ef_rm1 (m : MethodId) (x0 : Int32) : entryFrame m #[(.int x0)] 1 = mkF m 0 #[.val (.int x0)] [] := by first | (simp [entryFrame, mkF, argsToLocals, Value.category]; done) | rfl
set_option maxRecDepth 65536 in
set_option maxHeartbeats 40000000 in
theorem rm1 (l : Launch) (Z : State) (a0 : Array Value) (hw : ∀ d ∈ tables_1, d.before a0 Z = true) (ws : List Jvm.Cond) (p0 : Int32) (h0 : Heap) (n0 : Nat)  :
    Ctr l Z (⟨"com/example/brygga/brygga/ClientHelloOfPinLaw", "fragment", "(I)I"⟩ : MethodName) method_3_code 1 (some .int) ws ({ frames := 0, cells := 0, slots := 0, locals := 0 } : Room) n0 #[(.int p0)] h0 (Rt (fun w h => ∃ F : Nat, w = .int (Int32.ofNat F) ∧ F ≤ 65535 ∧ h0 = h)) := by
  refine Ctr.of (plainFor_of_name pn_com_example_brygga_brygga_ClientHelloOfPinLaw) (fun m => ef_rm1 m p0) ?_
  intro p e s m below meth c T0 X0
  refine OwnK.iloadN X0 (n := 1) d1_0 rfl rfl ?_
  refine OwnK.iconst X0 (z := (1 : Int32)) (n := 2) d1_1 rfl rfl ?_
  refine OwnK.iand X0 (n := 3) d1_2 rfl ?_
  refine OwnK.if_eq X0  (n1 := 17) (n2 := 6) d1_3 (by decide) rfl rfl (fun hc3 => ?_) (fun hc3 => ?_)
  · refine OwnK.iloadN X0 (n := 18) d1_17 rfl rfl ?_
    refine OwnK.iconst X0 (z := (1 : Int32)) (n := 19) d1_18 rfl rfl ?_
    refine OwnK.iushr X0 (n := 20) d1_19 rfl ?_
    refine OwnK.ldc X0 (n := 22) d1_20 (hw _ (List.mem_of_getElem? (i := 6) rfl)) rfl ?_
    refine OwnK.iand X0 (n := 23) d1_22 rfl ?_
    obtain ⟨k, ek, hk⟩ := own_65n ((p0.toUInt32 >>> ((1 : Int32) &&& 31).toUInt32).toInt32)
    rw [ek]
    exact OwnK.ireturn X0 rfl (Or.inl rfl) rfl d1_23 ⟨k, rfl, hk, rfl⟩ (by decide) (by decide)
  · refine OwnK.iconst X0 (z := (1 : Int32)) (n := 7) d1_6 rfl rfl ?_
    refine OwnK.iloadN X0 (n := 8) d1_7 rfl rfl ?_
    refine OwnK.iconst X0 (z := (1 : Int32)) (n := 9) d1_8 rfl rfl ?_
    refine OwnK.iushr X0 (n := 10) d1_9 rfl ?_
    refine OwnK.bipush X0 (z := (11 : Int32)) (n := 12) d1_10 rfl rfl ?_
    refine OwnK.irem X0 (n := 13) d1_12 (by decide) rfl ?_
    refine OwnK.iadd X0 (n := 14) d1_13 rfl ?_
    refine OwnK.goto X0 (n := 23) d1_14 (by decide) rfl ?_
    obtain ⟨k, ek, hk⟩ := own_11n p0
    rw [ek]
    exact OwnK.ireturn X0 rfl (Or.inl rfl) rfl d1_23 ⟨k, rfl, hk, rfl⟩ (by decide) (by decide)
theorem d2_0 : decode method_4_code 0 = .ok (.iload_n 0, 1) := by decide +kernel
theorem d2_1 : decode method_4_code 1 = .ok (.iconst 5, 1) := by decide +kernel
theorem d2_2 : decode method_4_code 2 = .ok (.if_icmp .ge 8, 3) := by decide +kernel
theorem d2_5 : decode method_4_code 5 = .ok (.aload_n 3, 1) := by decide +kernel
theorem d2_6 : decode method_4_code 6 = .ok (.iload_n 0, 1) := by decide +kernel
theorem d2_7 : decode method_4_code 7 = .ok (.iaload, 1) := by decide +kernel
theorem d2_8 : decode method_4_code 8 = .ok (.i2b, 1) := by decide +kernel
theorem d2_9 : decode method_4_code 9 = .ok (.ireturn, 1) := by decide +kernel
theorem d2_10 : decode method_4_code 10 = .ok (.iload_n 0, 1) := by decide +kernel
theorem d2_11 : decode method_4_code 11 = .ok (.iconst 5, 1) := by decide +kernel
theorem d2_12 : decode method_4_code 12 = .ok (.iload_n 1, 1) := by decide +kernel
theorem d2_13 : decode method_4_code 13 = .ok (.iadd, 1) := by decide +kernel
theorem d2_14 : decode method_4_code 14 = .ok (.if_icmp .ge 11, 3) := by decide +kernel
theorem d2_17 : decode method_4_code 17 = .ok (.aload 4, 2) := by decide +kernel
theorem d2_19 : decode method_4_code 19 = .ok (.iload_n 0, 1) := by decide +kernel
theorem d2_20 : decode method_4_code 20 = .ok (.iconst 5, 1) := by decide +kernel
theorem d2_21 : decode method_4_code 21 = .ok (.isub, 1) := by decide +kernel
theorem d2_22 : decode method_4_code 22 = .ok (.iaload, 1) := by decide +kernel
theorem d2_23 : decode method_4_code 23 = .ok (.i2b, 1) := by decide +kernel
theorem d2_24 : decode method_4_code 24 = .ok (.ireturn, 1) := by decide +kernel
theorem d2_25 : decode method_4_code 25 = .ok (.iload_n 0, 1) := by decide +kernel
theorem d2_26 : decode method_4_code 26 = .ok (.bipush 10, 2) := by decide +kernel
theorem d2_28 : decode method_4_code 28 = .ok (.iload_n 1, 1) := by decide +kernel
theorem d2_29 : decode method_4_code 29 = .ok (.iadd, 1) := by decide +kernel
theorem d2_30 : decode method_4_code 30 = .ok (.if_icmp .ge 13, 3) := by decide +kernel
theorem d2_33 : decode method_4_code 33 = .ok (.aload 5, 2) := by decide +kernel
theorem d2_35 : decode method_4_code 35 = .ok (.iload_n 0, 1) := by decide +kernel
theorem d2_36 : decode method_4_code 36 = .ok (.iconst 5, 1) := by decide +kernel
theorem d2_37 : decode method_4_code 37 = .ok (.isub, 1) := by decide +kernel
theorem d2_38 : decode method_4_code 38 = .ok (.iload_n 1, 1) := by decide +kernel
theorem d2_39 : decode method_4_code 39 = .ok (.isub, 1) := by decide +kernel
theorem d2_40 : decode method_4_code 40 = .ok (.iaload, 1) := by decide +kernel
theorem d2_41 : decode method_4_code 41 = .ok (.i2b, 1) := by decide +kernel
theorem d2_42 : decode method_4_code 42 = .ok (.ireturn, 1) := by decide +kernel
theorem d2_43 : decode method_4_code 43 = .ok (.iload_n 0, 1) := by decide +kernel
theorem d2_44 : decode method_4_code 44 = .ok (.bipush 10, 2) := by decide +kernel
theorem d2_46 : decode method_4_code 46 = .ok (.iload_n 1, 1) := by decide +kernel
theorem d2_47 : decode method_4_code 47 = .ok (.iadd, 1) := by decide +kernel
theorem d2_48 : decode method_4_code 48 = .ok (.iload_n 2, 1) := by decide +kernel
theorem d2_49 : decode method_4_code 49 = .ok (.iadd, 1) := by decide +kernel
theorem d2_50 : decode method_4_code 50 = .ok (.if_icmp .ge 12, 3) := by decide +kernel
theorem d2_53 : decode method_4_code 53 = .ok (.aload 4, 2) := by decide +kernel
theorem d2_55 : decode method_4_code 55 = .ok (.iload_n 0, 1) := by decide +kernel
theorem d2_56 : decode method_4_code 56 = .ok (.bipush 10, 2) := by decide +kernel
theorem d2_58 : decode method_4_code 58 = .ok (.isub, 1) := by decide +kernel
theorem d2_59 : decode method_4_code 59 = .ok (.iaload, 1) := by decide +kernel
theorem d2_60 : decode method_4_code 60 = .ok (.i2b, 1) := by decide +kernel
theorem d2_61 : decode method_4_code 61 = .ok (.ireturn, 1) := by decide +kernel
theorem d2_62 : decode method_4_code 62 = .ok (.iload 6, 2) := by decide +kernel
theorem d2_64 : decode method_4_code 64 = .ok (.i2b, 1) := by decide +kernel
theorem d2_65 : decode method_4_code 65 = .ok (.ireturn, 1) := by decide +kernel
theorem ef_rm2 (m : MethodId) (x0 : Int32) (x1 : Int32) (x2 : Int32) (x3 : Addr) (x4 : Addr) (x5 : Addr) (x6 : Int32) : entryFrame m #[(.int x0), (.int x1), (.int x2), (.ref x3), (.ref x4), (.ref x5), (.int x6)] 7 = mkF m 0 #[.val (.int x0), .val (.int x1), .val (.int x2), .val (.ref x3), .val (.ref x4), .val (.ref x5), .val (.int x6)] [] := by first | (simp [entryFrame, mkF, argsToLocals, Value.category]; done) | rfl
set_option maxRecDepth 65536 in
set_option maxHeartbeats 40000000 in
theorem rm2 (l : Launch) (Z : State) (a0 : Array Value) (hw : ∀ d ∈ tables_1, d.before a0 Z = true) (ws : List Jvm.Cond) (r3 : Addr) (r4 : Addr) (r5 : Addr) (h0 : Heap) (n0 : Nat) (p' F1 F2 C3 : Nat) (hp : p' < 16) (hF1 : F1 ≤ 65535) (hF2 : F2 ≤ 65535) (L1 L2 L3 : List Int32) (l1 : L1.length = 5) (l2 : L2.length = 11) (l3 : L3.length = 5) (A3 : Ark Z h0 r3 .int (L1.map Value.int)) (A4 : Ark Z h0 r4 .int (L2.map Value.int)) (A5 : Ark Z h0 r5 .int (L3.map Value.int)) :
    Ctr l Z (⟨"com/example/brygga/brygga/ClientHelloOfPinLaw", "at", "(III[I[I[II)B"⟩ : MethodName) method_4_code 7 (some .byte) ws ({ frames := 0, cells := 0, slots := 0, locals := 0 } : Room) n0 #[(.int (Int32.ofNat p')), (.int (Int32.ofNat F1)), (.int (Int32.ofNat F2)), (.ref r3), (.ref r4), (.ref r5), (.int (Int32.ofNat C3))] h0 (Rt (fun w h => w = .int (own_at p' F1 F2 L1 L2 L3 (Int32.ofNat C3)) ∧ h0 = h)) := by
  refine Ctr.of (plainFor_of_name pn_com_example_brygga_brygga_ClientHelloOfPinLaw) (fun m => ef_rm2 m (Int32.ofNat p') (Int32.ofNat F1) (Int32.ofNat F2) r3 r4 r5 (Int32.ofNat C3)) ?_
  intro p e s m below meth c T0 X0
  refine OwnK.iloadN X0 (n := 1) d2_0 rfl rfl ?_
  refine OwnK.iconst X0 (z := (5 : Int32)) (n := 2) d2_1 rfl rfl ?_
  refine OwnK.ic_ge X0  (n1 := 10) (n2 := 5) d2_2 (by decide) rfl rfl (fun hc2 => ?_) (fun hc2 => ?_)
  · have kk1 : ¬ p' < 5 := fun q => hc2 ((own_lt (i := p') (n := 5) (by omega) (by omega)).mpr q)
    refine OwnK.iloadN X0 (n := 11) d2_10 rfl rfl ?_
    refine OwnK.iconst X0 (z := (5 : Int32)) (n := 12) d2_11 rfl rfl ?_
    refine OwnK.iloadN X0 (n := 13) d2_12 rfl rfl ?_
    refine OwnK.iadd X0 (n := 14) d2_13 rfl ?_
    rw [show (((5 : Int32) + (Int32.ofNat F1)) : Int32) = (Int32.ofNat (5 + F1)) from own_add 5 F1]
    refine OwnK.ic_ge X0  (n1 := 25) (n2 := 17) d2_14 (by decide) rfl rfl (fun hc14 => ?_) (fun hc14 => ?_)
    · have kk2 : ¬ p' < (5 + F1) := fun q => hc14 ((own_lt (i := p') (n := (5 + F1)) (by omega) (by omega)).mpr q)
      refine OwnK.iloadN X0 (n := 26) d2_25 rfl rfl ?_
      refine OwnK.bipush X0 (z := (10 : Int32)) (n := 28) d2_26 rfl rfl ?_
      refine OwnK.iloadN X0 (n := 29) d2_28 rfl rfl ?_
      refine OwnK.iadd X0 (n := 30) d2_29 rfl ?_
      rw [show (((10 : Int32) + (Int32.ofNat F1)) : Int32) = (Int32.ofNat (10 + F1)) from own_add 10 F1]
      refine OwnK.ic_ge X0  (n1 := 43) (n2 := 33) d2_30 (by decide) rfl rfl (fun hc30 => ?_) (fun hc30 => ?_)
      · have kk3 : ¬ p' < (10 + F1) := fun q => hc30 ((own_lt (i := p') (n := (10 + F1)) (by omega) (by omega)).mpr q)
        refine OwnK.iloadN X0 (n := 44) d2_43 rfl rfl ?_
        refine OwnK.bipush X0 (z := (10 : Int32)) (n := 46) d2_44 rfl rfl ?_
        refine OwnK.iloadN X0 (n := 47) d2_46 rfl rfl ?_
        refine OwnK.iadd X0 (n := 48) d2_47 rfl ?_
        rw [show (((10 : Int32) + (Int32.ofNat F1)) : Int32) = (Int32.ofNat (10 + F1)) from own_add 10 F1]
        refine OwnK.iloadN X0 (n := 49) d2_48 rfl rfl ?_
        refine OwnK.iadd X0 (n := 50) d2_49 rfl ?_
        rw [show (((Int32.ofNat (10 + F1)) + (Int32.ofNat F2)) : Int32) = (Int32.ofNat ((10 + F1) + F2)) from own_add (10 + F1) F2]
        refine OwnK.ic_ge X0  (n1 := 62) (n2 := 53) d2_50 (by decide) rfl rfl (fun hc50 => ?_) (fun hc50 => ?_)
        · have kk4 : ¬ p' < ((10 + F1) + F2) := fun q => hc50 ((own_lt (i := p') (n := ((10 + F1) + F2)) (by omega) (by omega)).mpr q)
          refine OwnK.iload X0 (n := 64) d2_62 rfl rfl ?_
          refine OwnK.i2b X0 (n := 65) d2_64 rfl ?_
          exact OwnK.ireturn X0 rfl (Or.inr (Or.inr (Or.inl rfl))) (congrArg Value.int (own_narB _)) d2_65 ⟨congrArg Value.int (own_at5 (by omega) (by omega) (by omega) (by omega)).symm, rfl⟩ (by decide) (by decide)
        · have kk5 : p' < ((10 + F1) + F2) := (own_lt (i := p') (n := ((10 + F1) + F2)) (by omega) (by omega)).mp hc50
          refine OwnK.aload X0 (n := 55) d2_53 rfl rfl rfl ?_
          refine OwnK.iloadN X0 (n := 56) d2_55 rfl rfl ?_
          refine OwnK.bipush X0 (z := (10 : Int32)) (n := 58) d2_56 rfl rfl ?_
          refine OwnK.isub X0 (n := 59) d2_58 rfl ?_
          rw [show (((Int32.ofNat p') - (10 : Int32)) : Int32) = (Int32.ofNat (p' - 10)) from own_sub p' 10 (by omega) (by omega)]
          refine OwnK.iaload X0 (i := (p' - 10)) (v := (.int (L2.getD (p' - 10) 0))) (n := 60) d2_59 A4 (own_nat (i := (p' - 10)) (by omega)) (own_get L2 (by omega)) rfl ?_
          refine OwnK.i2b X0 (n := 61) d2_60 rfl ?_
          exact OwnK.ireturn X0 rfl (Or.inr (Or.inr (Or.inl rfl))) (congrArg Value.int (own_narB _)) d2_61 ⟨congrArg Value.int (own_at4 (by omega) (by omega) (by omega) (by omega)).symm, rfl⟩ (by decide) (by decide)
      · have kk6 : p' < (10 + F1) := (own_lt (i := p') (n := (10 + F1)) (by omega) (by omega)).mp hc30
        refine OwnK.aload X0 (n := 35) d2_33 rfl rfl rfl ?_
        refine OwnK.iloadN X0 (n := 36) d2_35 rfl rfl ?_
        refine OwnK.iconst X0 (z := (5 : Int32)) (n := 37) d2_36 rfl rfl ?_
        refine OwnK.isub X0 (n := 38) d2_37 rfl ?_
        rw [show (((Int32.ofNat p') - (5 : Int32)) : Int32) = (Int32.ofNat (p' - 5)) from own_sub p' 5 (by omega) (by omega)]
        refine OwnK.iloadN X0 (n := 39) d2_38 rfl rfl ?_
        refine OwnK.isub X0 (n := 40) d2_39 rfl ?_
        rw [show (((Int32.ofNat (p' - 5)) - (Int32.ofNat F1)) : Int32) = (Int32.ofNat ((p' - 5) - F1)) from own_sub (p' - 5) F1 (by omega) (by omega)]
        refine OwnK.iaload X0 (i := ((p' - 5) - F1)) (v := (.int (L3.getD ((p' - 5) - F1) 0))) (n := 41) d2_40 A5 (own_nat (i := ((p' - 5) - F1)) (by omega)) (own_get L3 (by omega)) rfl ?_
        refine OwnK.i2b X0 (n := 42) d2_41 rfl ?_
        exact OwnK.ireturn X0 rfl (Or.inr (Or.inr (Or.inl rfl))) (congrArg Value.int (own_narB _)) d2_42 ⟨congrArg Value.int (own_at3 (by omega) (by omega) (by omega)).symm, rfl⟩ (by decide) (by decide)
    · have kk7 : p' < (5 + F1) := (own_lt (i := p') (n := (5 + F1)) (by omega) (by omega)).mp hc14
      refine OwnK.aload X0 (n := 19) d2_17 rfl rfl rfl ?_
      refine OwnK.iloadN X0 (n := 20) d2_19 rfl rfl ?_
      refine OwnK.iconst X0 (z := (5 : Int32)) (n := 21) d2_20 rfl rfl ?_
      refine OwnK.isub X0 (n := 22) d2_21 rfl ?_
      rw [show (((Int32.ofNat p') - (5 : Int32)) : Int32) = (Int32.ofNat (p' - 5)) from own_sub p' 5 (by omega) (by omega)]
      refine OwnK.iaload X0 (i := (p' - 5)) (v := (.int (L2.getD (p' - 5) 0))) (n := 23) d2_22 A4 (own_nat (i := (p' - 5)) (by omega)) (own_get L2 (by omega)) rfl ?_
      refine OwnK.i2b X0 (n := 24) d2_23 rfl ?_
      exact OwnK.ireturn X0 rfl (Or.inr (Or.inr (Or.inl rfl))) (congrArg Value.int (own_narB _)) d2_24 ⟨congrArg Value.int (own_at2 (by omega) (by omega)).symm, rfl⟩ (by decide) (by decide)
  · have kk8 : p' < 5 := (own_lt (i := p') (n := 5) (by omega) (by omega)).mp hc2
    refine OwnK.aloadN X0 (n := 6) d2_5 rfl rfl rfl ?_
    refine OwnK.iloadN X0 (n := 7) d2_6 rfl rfl ?_
    refine OwnK.iaload X0 (i := p') (v := (.int (L1.getD p' 0))) (n := 8) d2_7 A3 (own_nat (i := p') (by omega)) (own_get L1 (by omega)) rfl ?_
    refine OwnK.i2b X0 (n := 9) d2_8 rfl ?_
    exact OwnK.ireturn X0 rfl (Or.inr (Or.inr (Or.inl rfl))) (congrArg Value.int (own_narB _)) d2_9 ⟨congrArg Value.int (own_at1 (by omega)).symm, rfl⟩ (by decide) (by decide)
theorem pd__II_I : parseMethodDescriptor "(II)I" = some ⟨[.int, .int], some .int⟩ := by decide +kernel
theorem d4_0 : decode method_5_code 0 = .ok (.iload_n 0, 1) := by decide +kernel
theorem d4_1 : decode method_5_code 1 = .ok (.ifCond .ne 7, 3) := by decide +kernel
theorem d4_4 : decode method_5_code 4 = .ok (.getstatic 40, 3) := by decide +kernel
theorem d4_7 : decode method_5_code 7 = .ok (.areturn, 1) := by decide +kernel
theorem d4_8 : decode method_5_code 8 = .ok (.iload_n 1, 1) := by decide +kernel
theorem d4_9 : decode method_5_code 9 = .ok (.bipush 22, 2) := by decide +kernel
theorem d4_11 : decode method_5_code 11 = .ok (.if_icmp .eq 7, 3) := by decide +kernel
theorem d4_14 : decode method_5_code 14 = .ok (.getstatic 46, 3) := by decide +kernel
theorem d4_17 : decode method_5_code 17 = .ok (.areturn, 1) := by decide +kernel
theorem d4_18 : decode method_5_code 18 = .ok (.iload_n 0, 1) := by decide +kernel
theorem d4_19 : decode method_5_code 19 = .ok (.iconst 5, 1) := by decide +kernel
theorem d4_20 : decode method_5_code 20 = .ok (.if_icmp .ge 7, 3) := by decide +kernel
theorem d4_23 : decode method_5_code 23 = .ok (.getstatic 40, 3) := by decide +kernel
theorem d4_26 : decode method_5_code 26 = .ok (.areturn, 1) := by decide +kernel
theorem d4_27 : decode method_5_code 27 = .ok (.iload_n 2, 1) := by decide +kernel
theorem d4_28 : decode method_5_code 28 = .ok (.ifCond .eq 10, 3) := by decide +kernel
theorem d4_31 : decode method_5_code 31 = .ok (.iload_n 2, 1) := by decide +kernel
theorem d4_32 : decode method_5_code 32 = .ok (.sipush 16384, 3) := by decide +kernel
theorem d4_35 : decode method_5_code 35 = .ok (.if_icmp .le 7, 3) := by decide +kernel
theorem d4_38 : decode method_5_code 38 = .ok (.getstatic 46, 3) := by decide +kernel
theorem d4_41 : decode method_5_code 41 = .ok (.areturn, 1) := by decide +kernel
theorem d4_42 : decode method_5_code 42 = .ok (.iconst 5, 1) := by decide +kernel
theorem d4_43 : decode method_5_code 43 = .ok (.iload_n 2, 1) := by decide +kernel
theorem d4_44 : decode method_5_code 44 = .ok (.iadd, 1) := by decide +kernel
theorem d4_45 : decode method_5_code 45 = .ok (.iload_n 0, 1) := by decide +kernel
theorem d4_46 : decode method_5_code 46 = .ok (.invokestatic 49, 3) := by decide +kernel
theorem d4_49 : decode method_5_code 49 = .ok (.iconst 5, 1) := by decide +kernel
theorem d4_50 : decode method_5_code 50 = .ok (.isub, 1) := by decide +kernel
theorem d4_51 : decode method_5_code 51 = .ok (.istore 8, 2) := by decide +kernel
theorem d4_53 : decode method_5_code 53 = .ok (.iload 8, 2) := by decide +kernel
theorem d4_55 : decode method_5_code 55 = .ok (.iconst 1, 1) := by decide +kernel
theorem d4_56 : decode method_5_code 56 = .ok (.if_icmp .lt 12, 3) := by decide +kernel
theorem d4_59 : decode method_5_code 59 = .ok (.iload_n 3, 1) := by decide +kernel
theorem d4_60 : decode method_5_code 60 = .ok (.iconst 1, 1) := by decide +kernel
theorem d4_61 : decode method_5_code 61 = .ok (.if_icmp .eq 7, 3) := by decide +kernel
theorem d4_64 : decode method_5_code 64 = .ok (.getstatic 46, 3) := by decide +kernel
theorem d4_67 : decode method_5_code 67 = .ok (.areturn, 1) := by decide +kernel
theorem d4_68 : decode method_5_code 68 = .ok (.iconst 5, 1) := by decide +kernel
theorem d4_69 : decode method_5_code 69 = .ok (.iload_n 2, 1) := by decide +kernel
theorem d4_70 : decode method_5_code 70 = .ok (.iadd, 1) := by decide +kernel
theorem d4_71 : decode method_5_code 71 = .ok (.istore 9, 2) := by decide +kernel
theorem d4_73 : decode method_5_code 73 = .ok (.iload 9, 2) := by decide +kernel
theorem d4_75 : decode method_5_code 75 = .ok (.iload_n 0, 1) := by decide +kernel
theorem d4_76 : decode method_5_code 76 = .ok (.if_icmp .ge 96, 3) := by decide +kernel
theorem d4_79 : decode method_5_code 79 = .ok (.iload 5, 2) := by decide +kernel
theorem d4_81 : decode method_5_code 81 = .ok (.bipush 22, 2) := by decide +kernel
theorem d4_83 : decode method_5_code 83 = .ok (.if_icmp .eq 7, 3) := by decide +kernel
theorem d4_86 : decode method_5_code 86 = .ok (.getstatic 46, 3) := by decide +kernel
theorem d4_89 : decode method_5_code 89 = .ok (.areturn, 1) := by decide +kernel
theorem d4_90 : decode method_5_code 90 = .ok (.iload 9, 2) := by decide +kernel
theorem d4_92 : decode method_5_code 92 = .ok (.iconst 5, 1) := by decide +kernel
theorem d4_93 : decode method_5_code 93 = .ok (.iadd, 1) := by decide +kernel
theorem d4_94 : decode method_5_code 94 = .ok (.iload_n 0, 1) := by decide +kernel
theorem d4_95 : decode method_5_code 95 = .ok (.if_icmp .le 7, 3) := by decide +kernel
theorem d4_98 : decode method_5_code 98 = .ok (.getstatic 40, 3) := by decide +kernel
theorem d4_101 : decode method_5_code 101 = .ok (.areturn, 1) := by decide +kernel
theorem d4_102 : decode method_5_code 102 = .ok (.iload 6, 2) := by decide +kernel
theorem d4_104 : decode method_5_code 104 = .ok (.ifCond .eq 11, 3) := by decide +kernel
theorem d4_107 : decode method_5_code 107 = .ok (.iload 6, 2) := by decide +kernel
theorem d4_109 : decode method_5_code 109 = .ok (.sipush 16384, 3) := by decide +kernel
theorem d4_112 : decode method_5_code 112 = .ok (.if_icmp .le 7, 3) := by decide +kernel
theorem d4_115 : decode method_5_code 115 = .ok (.getstatic 46, 3) := by decide +kernel
theorem d4_118 : decode method_5_code 118 = .ok (.areturn, 1) := by decide +kernel
theorem d4_119 : decode method_5_code 119 = .ok (.iload 8, 2) := by decide +kernel
theorem d4_121 : decode method_5_code 121 = .ok (.iload 9, 2) := by decide +kernel
theorem d4_123 : decode method_5_code 123 = .ok (.iconst 5, 1) := by decide +kernel
theorem d4_124 : decode method_5_code 124 = .ok (.iadd, 1) := by decide +kernel
theorem d4_125 : decode method_5_code 125 = .ok (.iload 6, 2) := by decide +kernel
theorem d4_127 : decode method_5_code 127 = .ok (.iadd, 1) := by decide +kernel
theorem d4_128 : decode method_5_code 128 = .ok (.iload_n 0, 1) := by decide +kernel
theorem d4_129 : decode method_5_code 129 = .ok (.invokestatic 49, 3) := by decide +kernel
theorem d4_132 : decode method_5_code 132 = .ok (.iadd, 1) := by decide +kernel
theorem d4_133 : decode method_5_code 133 = .ok (.iload 9, 2) := by decide +kernel
theorem d4_135 : decode method_5_code 135 = .ok (.iconst 5, 1) := by decide +kernel
theorem d4_136 : decode method_5_code 136 = .ok (.iadd, 1) := by decide +kernel
theorem d4_137 : decode method_5_code 137 = .ok (.isub, 1) := by decide +kernel
theorem d4_138 : decode method_5_code 138 = .ok (.istore 8, 2) := by decide +kernel
theorem d4_140 : decode method_5_code 140 = .ok (.iload 9, 2) := by decide +kernel
theorem d4_142 : decode method_5_code 142 = .ok (.iconst 5, 1) := by decide +kernel
theorem d4_143 : decode method_5_code 143 = .ok (.iadd, 1) := by decide +kernel
theorem d4_144 : decode method_5_code 144 = .ok (.iload 6, 2) := by decide +kernel
theorem d4_146 : decode method_5_code 146 = .ok (.iadd, 1) := by decide +kernel
theorem d4_147 : decode method_5_code 147 = .ok (.istore 10, 2) := by decide +kernel
theorem d4_149 : decode method_5_code 149 = .ok (.iload 10, 2) := by decide +kernel
theorem d4_151 : decode method_5_code 151 = .ok (.iload_n 0, 1) := by decide +kernel
theorem d4_152 : decode method_5_code 152 = .ok (.if_icmp .ge 20, 3) := by decide +kernel
theorem d4_155 : decode method_5_code 155 = .ok (.iload 7, 2) := by decide +kernel
theorem d4_157 : decode method_5_code 157 = .ok (.bipush 22, 2) := by decide +kernel
theorem d4_159 : decode method_5_code 159 = .ok (.if_icmp .eq 9, 3) := by decide +kernel
theorem d4_162 : decode method_5_code 162 = .ok (.getstatic 46, 3) := by decide +kernel
theorem d4_165 : decode method_5_code 165 = .ok (.goto 6, 3) := by decide +kernel
theorem d4_168 : decode method_5_code 168 = .ok (.getstatic 40, 3) := by decide +kernel
theorem d4_171 : decode method_5_code 171 = .ok (.areturn, 1) := by decide +kernel
theorem d4_172 : decode method_5_code 172 = .ok (.iload 8, 2) := by decide +kernel
theorem d4_174 : decode method_5_code 174 = .ok (.iconst 4, 1) := by decide +kernel
theorem d4_175 : decode method_5_code 175 = .ok (.if_icmp .lt 18, 3) := by decide +kernel
theorem d4_178 : decode method_5_code 178 = .ok (.iload 8, 2) := by decide +kernel
theorem d4_180 : decode method_5_code 180 = .ok (.iconst 4, 1) := by decide +kernel
theorem d4_181 : decode method_5_code 181 = .ok (.isub, 1) := by decide +kernel
theorem d4_182 : decode method_5_code 182 = .ok (.iload 4, 2) := by decide +kernel
theorem d4_184 : decode method_5_code 184 = .ok (.if_icmp .lt 9, 3) := by decide +kernel
theorem d4_187 : decode method_5_code 187 = .ok (.getstatic 55, 3) := by decide +kernel
theorem d4_190 : decode method_5_code 190 = .ok (.goto 6, 3) := by decide +kernel
theorem d4_193 : decode method_5_code 193 = .ok (.getstatic 40, 3) := by decide +kernel
theorem d4_196 : decode method_5_code 196 = .ok (.areturn, 1) := by decide +kernel
theorem ef_rm4 (m : MethodId) (x0 : Int32) (x1 : Int32) (x2 : Int32) (x3 : Int32) (x4 : Int32) (x5 : Int32) (x6 : Int32) (x7 : Int32) : entryFrame m #[(.int x0), (.int x1), (.int x2), (.int x3), (.int x4), (.int x5), (.int x6), (.int x7)] 11 = mkF m 0 #[.val (.int x0), .val (.int x1), .val (.int x2), .val (.int x3), .val (.int x4), .val (.int x5), .val (.int x6), .val (.int x7), .unset, .unset, .unset] [] := by first | (simp [entryFrame, mkF, argsToLocals, Value.category]; done) | rfl
set_option maxRecDepth 65536 in
set_option maxHeartbeats 40000000 in
theorem rm4 (l : Launch) (Z : State) (a0 : Array Value) (hw : ∀ d ∈ tables_1, d.before a0 Z = true) (ws : List Jvm.Cond)  (h0 : Heap) (n0 : Nat) (O0 : Old Z n0 h0) (a_PARTIAL : Addr) (S_PARTIAL : Sta Z Z.heap "com/example/brygga/brygga/ClientHello$Framing" "PARTIAL" "Lcom/example/brygga/brygga/ClientHello$Framing;" (.ref a_PARTIAL)) (E_PARTIAL : Exa Z Z.heap a_PARTIAL "com/example/brygga/brygga/ClientHello$Framing") (a_OTHER : Addr) (S_OTHER : Sta Z Z.heap "com/example/brygga/brygga/ClientHello$Framing" "OTHER" "Lcom/example/brygga/brygga/ClientHello$Framing;" (.ref a_OTHER)) (E_OTHER : Exa Z Z.heap a_OTHER "com/example/brygga/brygga/ClientHello$Framing") (a_WHOLE : Addr) (S_WHOLE : Sta Z Z.heap "com/example/brygga/brygga/ClientHello$Framing" "WHOLE" "Lcom/example/brygga/brygga/ClientHello$Framing;" (.ref a_WHOLE)) (E_WHOLE : Exa Z Z.heap a_WHOLE "com/example/brygga/brygga/ClientHello$Framing") (N F1 F2 D C1 T C2 C3 : Nat) (hN : N ≤ 16) (hF1 : F1 ≤ 65535) (hF2 : F2 ≤ 65535) (hD : D ≤ 16777215) (hC1 : C1 ≤ 255) (hT : T ≤ 255) (hC2 : C2 ≤ 255) (hC3 : C3 ≤ 255) :
    Ctr l Z (⟨"com/example/brygga/brygga/ClientHelloOfPinLaw", "expected", "(IIIIIIII)Lcom/example/brygga/brygga/ClientHello$Framing;"⟩ : MethodName) method_5_code 11 (some (.object "com/example/brygga/brygga/ClientHello$Framing")) ws ({ frames := 1, cells := 0, slots := 0, locals := 14 } : Room) n0 #[(.int (Int32.ofNat N)), (.int (Int32.ofNat C1)), (.int (Int32.ofNat F1)), (.int (Int32.ofNat T)), (.int (Int32.ofNat D)), (.int (Int32.ofNat C2)), (.int (Int32.ofNat F2)), (.int (Int32.ofNat C3))] h0 (Rt (fun w h => w = .ref (own_exp a_PARTIAL a_OTHER a_WHOLE N F1 F2 D C1 T C2 C3) ∧ h0 = h)) := by
  refine Ctr.of (plainFor_of_name pn_com_example_brygga_brygga_ClientHelloOfPinLaw) (fun m => ef_rm4 m (Int32.ofNat N) (Int32.ofNat C1) (Int32.ofNat F1) (Int32.ofNat T) (Int32.ofNat D) (Int32.ofNat C2) (Int32.ofNat F2) (Int32.ofNat C3)) ?_
  intro p e s m below meth c T0 X0
  refine OwnK.iloadN X0 (n := 1) d4_0 rfl rfl ?_
  refine OwnK.if_ne X0  (n1 := 8) (n2 := 4) d4_1 (by decide) rfl rfl (fun hc1 => ?_) (fun hc1 => ?_)
  · have kk1 : ¬ N = 0 := fun q => hc1 ((own_eqn (i := N) (n := 0) (by omega) (by omega)).mpr q)
    refine OwnK.iloadN X0 (n := 9) d4_8 rfl rfl ?_
    refine OwnK.bipush X0 (z := (22 : Int32)) (n := 11) d4_9 rfl rfl ?_
    refine OwnK.ic_eq X0  (n1 := 18) (n2 := 14) d4_11 (by decide) rfl rfl (fun hc11 => ?_) (fun hc11 => ?_)
    · have kk2 : C1 = 22 := (own_eqn (i := C1) (n := 22) (by omega) (by omega)).mp hc11
      refine OwnK.iloadN X0 (n := 19) d4_18 rfl rfl ?_
      refine OwnK.iconst X0 (z := (5 : Int32)) (n := 20) d4_19 rfl rfl ?_
      refine OwnK.ic_ge X0  (n1 := 27) (n2 := 23) d4_20 (by decide) rfl rfl (fun hc20 => ?_) (fun hc20 => ?_)
      · have kk3 : ¬ N < 5 := fun q => hc20 ((own_lt (i := N) (n := 5) (by omega) (by omega)).mpr q)
        refine OwnK.iloadN X0 (n := 28) d4_27 rfl rfl ?_
        refine OwnK.if_eq X0  (n1 := 38) (n2 := 31) d4_28 (by decide) rfl rfl (fun hc28 => ?_) (fun hc28 => ?_)
        · have kk4 : F1 = 0 := (own_eqn (i := F1) (n := 0) (by omega) (by omega)).mp hc28
          refine OwnK.getstatic X0 (n := 41) d4_38 (hw _ (List.mem_of_getElem? (i := 30) rfl)) Via.refl (S_OTHER.ext O0.2) rfl ?_
          intro T5 X5
          exact OwnK.areturn X5 rfl rfl rfl d4_41 ⟨congrArg Value.ref (own_ex4 (by first | assumption | omega) (by first | assumption | omega) (by first | assumption | omega) (by first | assumption | omega)).symm, rfl⟩ (by decide) (by decide)
        · have kk6 : ¬ F1 = 0 := fun q => hc28 ((own_eqn (i := F1) (n := 0) (by omega) (by omega)).mpr q)
          refine OwnK.iloadN X0 (n := 32) d4_31 rfl rfl ?_
          refine OwnK.sipush X0 (z := (16384 : Int32)) (n := 35) d4_32 rfl rfl ?_
          refine OwnK.ic_le X0  (n1 := 42) (n2 := 38) d4_35 (by decide) rfl rfl (fun hc35 => ?_) (fun hc35 => ?_)
          · have kk7 : ¬ 16384 < F1 := fun q => hc35 ((own_lt (i := 16384) (n := F1) (by omega) (by omega)).mpr q)
            refine OwnK.iconst X0 (z := (5 : Int32)) (n := 43) d4_42 rfl rfl ?_
            refine OwnK.iloadN X0 (n := 44) d4_43 rfl rfl ?_
            refine OwnK.iadd X0 (n := 45) d4_44 rfl ?_
            rw [show (((5 : Int32) + (Int32.ofNat F1)) : Int32) = (Int32.ofNat (5 + F1)) from own_add 5 F1]
            refine OwnK.iloadN X0 (n := 46) d4_45 rfl rfl ?_
            refine OwnK.call_static_v X0 (z := (⟨"java/lang/Math", "min", "(II)I"⟩ : MethodName)) (n := 49) d4_46 (hw _ (List.mem_of_getElem? (i := 35) rfl)) (hw _ (List.mem_of_getElem? (i := 32) rfl)) (hw _ (List.mem_of_getElem? (i := 34) rfl)) (hw _ (List.mem_of_getElem? (i := 33) rfl)) (by decide) (rm5 l Z a0 hw [] h0 n0 (5 + F1) N (by omega) (by omega)) (argsL := [(.int (Int32.ofNat (5 + F1))), (.int (Int32.ofNat N))]) (rest := []) rfl rfl (OwnK.lenA pd__II_I rfl) (W := 0) (Nat.le_of_eq rfl) (by decide) (by decide) (by decide) (by decide) rfl ?_
            intro T8 h8 w8 X8 ⟨q1, q2⟩
            subst q1 q2
            refine OwnK.iconst X8 (z := (5 : Int32)) (n := 50) d4_49 rfl rfl ?_
            refine OwnK.isub X8 (n := 51) d4_50 rfl ?_
            rw [show (((Int32.ofNat (min (5 + F1) N)) - (5 : Int32)) : Int32) = (Int32.ofNat ((min (5 + F1) N) - 5)) from own_sub (min (5 + F1) N) 5 (by omega) (by omega)]
            refine OwnK.istore X8 (l' := #[.val (.int (Int32.ofNat N)), .val (.int (Int32.ofNat C1)), .val (.int (Int32.ofNat F1)), .val (.int (Int32.ofNat T)), .val (.int (Int32.ofNat D)), .val (.int (Int32.ofNat C2)), .val (.int (Int32.ofNat F2)), .val (.int (Int32.ofNat C3)), .val (.int (Int32.ofNat ((min (5 + F1) N) - 5))), .unset, .unset]) (n := 53) d4_51 rfl rfl ?_
            refine OwnK.iload X8 (n := 55) d4_53 rfl rfl ?_
            refine OwnK.iconst X8 (z := (1 : Int32)) (n := 56) d4_55 rfl rfl ?_
            refine OwnK.ic_lt X8  (n1 := 68) (n2 := 59) d4_56 (by decide) rfl rfl (fun hc56 => ?_) (fun hc56 => ?_)
            · have kk9 : ((min (5 + F1) N) - 5) < 1 := (own_lt (i := ((min (5 + F1) N) - 5)) (n := 1) (by omega) (by omega)).mp hc56
              refine OwnK.iconst X8 (z := (5 : Int32)) (n := 69) d4_68 rfl rfl ?_
              refine OwnK.iloadN X8 (n := 70) d4_69 rfl rfl ?_
              refine OwnK.iadd X8 (n := 71) d4_70 rfl ?_
              rw [show (((5 : Int32) + (Int32.ofNat F1)) : Int32) = (Int32.ofNat (5 + F1)) from own_add 5 F1]
              refine OwnK.istore X8 (l' := #[.val (.int (Int32.ofNat N)), .val (.int (Int32.ofNat C1)), .val (.int (Int32.ofNat F1)), .val (.int (Int32.ofNat T)), .val (.int (Int32.ofNat D)), .val (.int (Int32.ofNat C2)), .val (.int (Int32.ofNat F2)), .val (.int (Int32.ofNat C3)), .val (.int (Int32.ofNat ((min (5 + F1) N) - 5))), .val (.int (Int32.ofNat (5 + F1))), .unset]) (n := 73) d4_71 rfl rfl ?_
              refine OwnK.iload X8 (n := 75) d4_73 rfl rfl ?_
              refine OwnK.iloadN X8 (n := 76) d4_75 rfl rfl ?_
              refine OwnK.ic_ge X8  (n1 := 172) (n2 := 79) d4_76 (by decide) rfl rfl (fun hc76 => ?_) (fun hc76 => ?_)
              · have kk10 : ¬ (5 + F1) < N := fun q => hc76 ((own_lt (i := (5 + F1)) (n := N) (by omega) (by omega)).mpr q)
                refine OwnK.iload X8 (n := 174) d4_172 rfl rfl ?_
                refine OwnK.iconst X8 (z := (4 : Int32)) (n := 175) d4_174 rfl rfl ?_
                refine OwnK.ic_lt X8  (n1 := 193) (n2 := 178) d4_175 (by decide) rfl rfl (fun hc175 => ?_) (fun hc175 => ?_)
                · have kk11 : ((min (5 + F1) N) - 5) < 4 := (own_lt (i := ((min (5 + F1) N) - 5)) (n := 4) (by omega) (by omega)).mp hc175
                  refine OwnK.getstatic X8 (n := 196) d4_193 (hw _ (List.mem_of_getElem? (i := 26) rfl)) Via.refl (S_PARTIAL.ext O0.2) rfl ?_
                  intro T12 X12
                  exact OwnK.areturn X12 rfl rfl rfl d4_196 ⟨congrArg Value.ref (own_ex14 (by first | assumption | omega) (by first | assumption | omega) (by first | assumption | omega) (by first | assumption | omega) (by first | assumption | omega) (by first | assumption | omega) (by first | assumption | omega) (by first | assumption | omega)).symm, rfl⟩ (by decide) (by decide)
                · have kk13 : ¬ ((min (5 + F1) N) - 5) < 4 := fun q => hc175 ((own_lt (i := ((min (5 + F1) N) - 5)) (n := 4) (by omega) (by omega)).mpr q)
                  refine OwnK.iload X8 (n := 180) d4_178 rfl rfl ?_
                  refine OwnK.iconst X8 (z := (4 : Int32)) (n := 181) d4_180 rfl rfl ?_
                  refine OwnK.isub X8 (n := 182) d4_181 rfl ?_
                  rw [show (((Int32.ofNat ((min (5 + F1) N) - 5)) - (4 : Int32)) : Int32) = (Int32.ofNat (((min (5 + F1) N) - 5) - 4)) from own_sub ((min (5 + F1) N) - 5) 4 (by omega) (by omega)]
                  refine OwnK.iload X8 (n := 184) d4_182 rfl rfl ?_
                  refine OwnK.ic_lt X8  (n1 := 193) (n2 := 187) d4_184 (by decide) rfl rfl (fun hc184 => ?_) (fun hc184 => ?_)
                  · have kk14 : (((min (5 + F1) N) - 5) - 4) < D := (own_lt (i := (((min (5 + F1) N) - 5) - 4)) (n := D) (by omega) (by omega)).mp hc184
                    refine OwnK.getstatic X8 (n := 196) d4_193 (hw _ (List.mem_of_getElem? (i := 26) rfl)) Via.refl (S_PARTIAL.ext O0.2) rfl ?_
                    intro T15 X15
                    exact OwnK.areturn X15 rfl rfl rfl d4_196 ⟨congrArg Value.ref (own_ex14 (by first | assumption | omega) (by first | assumption | omega) (by first | assumption | omega) (by first | assumption | omega) (by first | assumption | omega) (by first | assumption | omega) (by first | assumption | omega) (by first | assumption | omega)).symm, rfl⟩ (by decide) (by decide)
                  · have kk16 : ¬ (((min (5 + F1) N) - 5) - 4) < D := fun q => hc184 ((own_lt (i := (((min (5 + F1) N) - 5) - 4)) (n := D) (by omega) (by omega)).mpr q)
                    refine OwnK.getstatic X8 (n := 190) d4_187 (hw _ (List.mem_of_getElem? (i := 38) rfl)) Via.refl (S_WHOLE.ext O0.2) rfl ?_
                    intro T17 X17
                    refine OwnK.goto X17 (n := 196) d4_190 (by decide) rfl ?_
                    exact OwnK.areturn X17 rfl rfl rfl d4_196 ⟨congrArg Value.ref (own_ex13 (by first | assumption | omega) (by first | assumption | omega) (by first | assumption | omega) (by first | assumption | omega) (by first | assumption | omega) (by first | assumption | omega) (by first | assumption | omega) (by first | assumption | omega) (by first | assumption | omega)).symm, rfl⟩ (by decide) (by decide)
              · have kk18 : (5 + F1) < N := (own_lt (i := (5 + F1)) (n := N) (by omega) (by omega)).mp hc76
                refine OwnK.iload X8 (n := 81) d4_79 rfl rfl ?_
                refine OwnK.bipush X8 (z := (22 : Int32)) (n := 83) d4_81 rfl rfl ?_
                refine OwnK.ic_eq X8  (n1 := 90) (n2 := 86) d4_83 (by decide) rfl rfl (fun hc83 => ?_) (fun hc83 => ?_)
                · have kk19 : C2 = 22 := (own_eqn (i := C2) (n := 22) (by omega) (by omega)).mp hc83
                  refine OwnK.iload X8 (n := 92) d4_90 rfl rfl ?_
                  refine OwnK.iconst X8 (z := (5 : Int32)) (n := 93) d4_92 rfl rfl ?_
                  refine OwnK.iadd X8 (n := 94) d4_93 rfl ?_
                  rw [show (((Int32.ofNat (5 + F1)) + (5 : Int32)) : Int32) = (Int32.ofNat ((5 + F1) + 5)) from own_add (5 + F1) 5]
                  refine OwnK.iloadN X8 (n := 95) d4_94 rfl rfl ?_
                  refine OwnK.ic_le X8  (n1 := 102) (n2 := 98) d4_95 (by decide) rfl rfl (fun hc95 => ?_) (fun hc95 => ?_)
                  · have kk20 : ¬ N < ((5 + F1) + 5) := fun q => hc95 ((own_lt (i := N) (n := ((5 + F1) + 5)) (by omega) (by omega)).mpr q)
                    refine OwnK.iload X8 (n := 104) d4_102 rfl rfl ?_
                    refine OwnK.if_eq X8  (n1 := 115) (n2 := 107) d4_104 (by decide) rfl rfl (fun hc104 => ?_) (fun hc104 => ?_)
                    · have kk21 : F2 = 0 := (own_eqn (i := F2) (n := 0) (by omega) (by omega)).mp hc104
                      refine OwnK.getstatic X8 (n := 118) d4_115 (hw _ (List.mem_of_getElem? (i := 30) rfl)) Via.refl (S_OTHER.ext O0.2) rfl ?_
                      intro T22 X22
                      exact OwnK.areturn X22 rfl rfl rfl d4_118 ⟨congrArg Value.ref (own_ex8 (by first | assumption | omega) (by first | assumption | omega) (by first | assumption | omega) (by first | assumption | omega) (by first | assumption | omega) (by first | assumption | omega) (by first | assumption | omega) (by first | assumption | omega) (by first | assumption | omega) (by first | assumption | omega)).symm, rfl⟩ (by decide) (by decide)
                    · have kk23 : ¬ F2 = 0 := fun q => hc104 ((own_eqn (i := F2) (n := 0) (by omega) (by omega)).mpr q)
                      refine OwnK.iload X8 (n := 109) d4_107 rfl rfl ?_
                      refine OwnK.sipush X8 (z := (16384 : Int32)) (n := 112) d4_109 rfl rfl ?_
                      refine OwnK.ic_le X8  (n1 := 119) (n2 := 115) d4_112 (by decide) rfl rfl (fun hc112 => ?_) (fun hc112 => ?_)
                      · have kk24 : ¬ 16384 < F2 := fun q => hc112 ((own_lt (i := 16384) (n := F2) (by omega) (by omega)).mpr q)
                        refine OwnK.iload X8 (n := 121) d4_119 rfl rfl ?_
                        refine OwnK.iload X8 (n := 123) d4_121 rfl rfl ?_
                        refine OwnK.iconst X8 (z := (5 : Int32)) (n := 124) d4_123 rfl rfl ?_
                        refine OwnK.iadd X8 (n := 125) d4_124 rfl ?_
                        rw [show (((Int32.ofNat (5 + F1)) + (5 : Int32)) : Int32) = (Int32.ofNat ((5 + F1) + 5)) from own_add (5 + F1) 5]
                        refine OwnK.iload X8 (n := 127) d4_125 rfl rfl ?_
                        refine OwnK.iadd X8 (n := 128) d4_127 rfl ?_
                        rw [show (((Int32.ofNat ((5 + F1) + 5)) + (Int32.ofNat F2)) : Int32) = (Int32.ofNat (((5 + F1) + 5) + F2)) from own_add ((5 + F1) + 5) F2]
                        refine OwnK.iloadN X8 (n := 129) d4_128 rfl rfl ?_
                        refine OwnK.call_static_v X8 (z := (⟨"java/lang/Math", "min", "(II)I"⟩ : MethodName)) (n := 132) d4_129 (hw _ (List.mem_of_getElem? (i := 35) rfl)) (hw _ (List.mem_of_getElem? (i := 32) rfl)) (hw _ (List.mem_of_getElem? (i := 34) rfl)) (hw _ (List.mem_of_getElem? (i := 33) rfl)) (by decide) (rm5 l Z a0 hw [] h0 n0 (((5 + F1) + 5) + F2) N (by omega) (by omega)) (argsL := [(.int (Int32.ofNat (((5 + F1) + 5) + F2))), (.int (Int32.ofNat N))]) (rest := [(.int (Int32.ofNat ((min (5 + F1) N) - 5)))]) rfl rfl (OwnK.lenA pd__II_I rfl) (W := 1) (Nat.le_of_eq rfl) (by decide) (by decide) (by decide) (by decide) rfl ?_
                        intro T25 h25 w25 X25 ⟨q1, q2⟩
                        subst q1 q2
                        refine OwnK.iadd X25 (n := 133) d4_132 rfl ?_
                        rw [show (((Int32.ofNat ((min (5 + F1) N) - 5)) + (Int32.ofNat (min (((5 + F1) + 5) + F2) N))) : Int32) = (Int32.ofNat (((min (5 + F1) N) - 5) + (min (((5 + F1) + 5) + F2) N))) from own_add ((min (5 + F1) N) - 5) (min (((5 + F1) + 5) + F2) N)]
                        refine OwnK.iload X25 (n := 135) d4_133 rfl rfl ?_
                        refine OwnK.iconst X25 (z := (5 : Int32)) (n := 136) d4_135 rfl rfl ?_
                        refine OwnK.iadd X25 (n := 137) d4_136 rfl ?_
                        rw [show (((Int32.ofNat (5 + F1)) + (5 : Int32)) : Int32) = (Int32.ofNat ((5 + F1) + 5)) from own_add (5 + F1) 5]
                        refine OwnK.isub X25 (n := 138) d4_137 rfl ?_
                        rw [show (((Int32.ofNat (((min (5 + F1) N) - 5) + (min (((5 + F1) + 5) + F2) N))) - (Int32.ofNat ((5 + F1) + 5))) : Int32) = (Int32.ofNat ((((min (5 + F1) N) - 5) + (min (((5 + F1) + 5) + F2) N)) - ((5 + F1) + 5))) from own_sub (((min (5 + F1) N) - 5) + (min (((5 + F1) + 5) + F2) N)) ((5 + F1) + 5) (by omega) (by omega)]
                        refine OwnK.istore X25 (l' := #[.val (.int (Int32.ofNat N)), .val (.int (Int32.ofNat C1)), .val (.int (Int32.ofNat F1)), .val (.int (Int32.ofNat T)), .val (.int (Int32.ofNat D)), .val (.int (Int32.ofNat C2)), .val (.int (Int32.ofNat F2)), .val (.int (Int32.ofNat C3)), .val (.int (Int32.ofNat ((((min (5 + F1) N) - 5) + (min (((5 + F1) + 5) + F2) N)) - ((5 + F1) + 5)))), .val (.int (Int32.ofNat (5 + F1))), .unset]) (n := 140) d4_138 rfl rfl ?_
                        refine OwnK.iload X25 (n := 142) d4_140 rfl rfl ?_
                        refine OwnK.iconst X25 (z := (5 : Int32)) (n := 143) d4_142 rfl rfl ?_
                        refine OwnK.iadd X25 (n := 144) d4_143 rfl ?_
                        rw [show (((Int32.ofNat (5 + F1)) + (5 : Int32)) : Int32) = (Int32.ofNat ((5 + F1) + 5)) from own_add (5 + F1) 5]
                        refine OwnK.iload X25 (n := 146) d4_144 rfl rfl ?_
                        refine OwnK.iadd X25 (n := 147) d4_146 rfl ?_
                        rw [show (((Int32.ofNat ((5 + F1) + 5)) + (Int32.ofNat F2)) : Int32) = (Int32.ofNat (((5 + F1) + 5) + F2)) from own_add ((5 + F1) + 5) F2]
                        refine OwnK.istore X25 (l' := #[.val (.int (Int32.ofNat N)), .val (.int (Int32.ofNat C1)), .val (.int (Int32.ofNat F1)), .val (.int (Int32.ofNat T)), .val (.int (Int32.ofNat D)), .val (.int (Int32.ofNat C2)), .val (.int (Int32.ofNat F2)), .val (.int (Int32.ofNat C3)), .val (.int (Int32.ofNat ((((min (5 + F1) N) - 5) + (min (((5 + F1) + 5) + F2) N)) - ((5 + F1) + 5)))), .val (.int (Int32.ofNat (5 + F1))), .val (.int (Int32.ofNat (((5 + F1) + 5) + F2)))]) (n := 149) d4_147 rfl rfl ?_
                        refine OwnK.iload X25 (n := 151) d4_149 rfl rfl ?_
                        refine OwnK.iloadN X25 (n := 152) d4_151 rfl rfl ?_
                        refine OwnK.ic_ge X25  (n1 := 172) (n2 := 155) d4_152 (by decide) rfl rfl (fun hc152 => ?_) (fun hc152 => ?_)
                        · have kk26 : ¬ (((5 + F1) + 5) + F2) < N := fun q => hc152 ((own_lt (i := (((5 + F1) + 5) + F2)) (n := N) (by omega) (by omega)).mpr q)
                          refine OwnK.iload X25 (n := 174) d4_172 rfl rfl ?_
                          refine OwnK.iconst X25 (z := (4 : Int32)) (n := 175) d4_174 rfl rfl ?_
                          refine OwnK.ic_lt X25  (n1 := 193) (n2 := 178) d4_175 (by decide) rfl rfl (fun hc175 => ?_) (fun hc175 => ?_)
                          · have kk27 : ((((min (5 + F1) N) - 5) + (min (((5 + F1) + 5) + F2) N)) - ((5 + F1) + 5)) < 4 := (own_lt (i := ((((min (5 + F1) N) - 5) + (min (((5 + F1) + 5) + F2) N)) - ((5 + F1) + 5))) (n := 4) (by omega) (by omega)).mp hc175
                            refine OwnK.getstatic X25 (n := 196) d4_193 (hw _ (List.mem_of_getElem? (i := 26) rfl)) Via.refl (S_PARTIAL.ext O0.2) rfl ?_
                            intro T28 X28
                            exact OwnK.areturn X28 rfl rfl rfl d4_196 ⟨congrArg Value.ref (own_ex12 (by first | assumption | omega) (by first | assumption | omega) (by first | assumption | omega) (by first | assumption | omega) (by first | assumption | omega) (by first | assumption | omega) (by first | assumption | omega) (by first | assumption | omega) (by first | assumption | omega) (by first | assumption | omega) (by first | assumption | omega) (by first | assumption | omega) (by first | assumption | omega)).symm, rfl⟩ (by decide) (by decide)
                          · have kk29 : ¬ ((((min (5 + F1) N) - 5) + (min (((5 + F1) + 5) + F2) N)) - ((5 + F1) + 5)) < 4 := fun q => hc175 ((own_lt (i := ((((min (5 + F1) N) - 5) + (min (((5 + F1) + 5) + F2) N)) - ((5 + F1) + 5))) (n := 4) (by omega) (by omega)).mpr q)
                            refine OwnK.iload X25 (n := 180) d4_178 rfl rfl ?_
                            refine OwnK.iconst X25 (z := (4 : Int32)) (n := 181) d4_180 rfl rfl ?_
                            refine OwnK.isub X25 (n := 182) d4_181 rfl ?_
                            rw [show (((Int32.ofNat ((((min (5 + F1) N) - 5) + (min (((5 + F1) + 5) + F2) N)) - ((5 + F1) + 5))) - (4 : Int32)) : Int32) = (Int32.ofNat (((((min (5 + F1) N) - 5) + (min (((5 + F1) + 5) + F2) N)) - ((5 + F1) + 5)) - 4)) from own_sub ((((min (5 + F1) N) - 5) + (min (((5 + F1) + 5) + F2) N)) - ((5 + F1) + 5)) 4 (by omega) (by omega)]
                            refine OwnK.iload X25 (n := 184) d4_182 rfl rfl ?_
                            refine OwnK.ic_lt X25  (n1 := 193) (n2 := 187) d4_184 (by decide) rfl rfl (fun hc184 => ?_) (fun hc184 => ?_)
                            · have kk30 : (((((min (5 + F1) N) - 5) + (min (((5 + F1) + 5) + F2) N)) - ((5 + F1) + 5)) - 4) < D := (own_lt (i := (((((min (5 + F1) N) - 5) + (min (((5 + F1) + 5) + F2) N)) - ((5 + F1) + 5)) - 4)) (n := D) (by omega) (by omega)).mp hc184
                              refine OwnK.getstatic X25 (n := 196) d4_193 (hw _ (List.mem_of_getElem? (i := 26) rfl)) Via.refl (S_PARTIAL.ext O0.2) rfl ?_
                              intro T31 X31
                              exact OwnK.areturn X31 rfl rfl rfl d4_196 ⟨congrArg Value.ref (own_ex12 (by first | assumption | omega) (by first | assumption | omega) (by first | assumption | omega) (by first | assumption | omega) (by first | assumption | omega) (by first | assumption | omega) (by first | assumption | omega) (by first | assumption | omega) (by first | assumption | omega) (by first | assumption | omega) (by first | assumption | omega) (by first | assumption | omega) (by first | assumption | omega)).symm, rfl⟩ (by decide) (by decide)
                            · have kk32 : ¬ (((((min (5 + F1) N) - 5) + (min (((5 + F1) + 5) + F2) N)) - ((5 + F1) + 5)) - 4) < D := fun q => hc184 ((own_lt (i := (((((min (5 + F1) N) - 5) + (min (((5 + F1) + 5) + F2) N)) - ((5 + F1) + 5)) - 4)) (n := D) (by omega) (by omega)).mpr q)
                              refine OwnK.getstatic X25 (n := 190) d4_187 (hw _ (List.mem_of_getElem? (i := 38) rfl)) Via.refl (S_WHOLE.ext O0.2) rfl ?_
                              intro T33 X33
                              refine OwnK.goto X33 (n := 196) d4_190 (by decide) rfl ?_
                              exact OwnK.areturn X33 rfl rfl rfl d4_196 ⟨congrArg Value.ref (own_ex11 (by first | assumption | omega) (by first | assumption | omega) (by first | assumption | omega) (by first | assumption | omega) (by first | assumption | omega) (by first | assumption | omega) (by first | assumption | omega) (by first | assumption | omega) (by first | assumption | omega) (by first | assumption | omega) (by first | assumption | omega) (by first | assumption | omega) (by first | assumption | omega) (by first | assumption | omega)).symm, rfl⟩ (by decide) (by decide)
                        · have kk34 : (((5 + F1) + 5) + F2) < N := (own_lt (i := (((5 + F1) + 5) + F2)) (n := N) (by omega) (by omega)).mp hc152
                          refine OwnK.iload X25 (n := 157) d4_155 rfl rfl ?_
                          refine OwnK.bipush X25 (z := (22 : Int32)) (n := 159) d4_157 rfl rfl ?_
                          refine OwnK.ic_eq X25  (n1 := 168) (n2 := 162) d4_159 (by decide) rfl rfl (fun hc159 => ?_) (fun hc159 => ?_)
                          · have kk35 : C3 = 22 := (own_eqn (i := C3) (n := 22) (by omega) (by omega)).mp hc159
                            refine OwnK.getstatic X25 (n := 171) d4_168 (hw _ (List.mem_of_getElem? (i := 26) rfl)) Via.refl (S_PARTIAL.ext O0.2) rfl ?_
                            intro T36 X36
                            exact OwnK.areturn X36 rfl rfl rfl d4_171 ⟨congrArg Value.ref (own_ex9 (by first | assumption | omega) (by first | assumption | omega) (by first | assumption | omega) (by first | assumption | omega) (by first | assumption | omega) (by first | assumption | omega) (by first | assumption | omega) (by first | assumption | omega) (by first | assumption | omega) (by first | assumption | omega) (by first | assumption | omega) (by first | assumption | omega) (by first | assumption | omega)).symm, rfl⟩ (by decide) (by decide)
                          · have kk37 : ¬ C3 = 22 := fun q => hc159 ((own_eqn (i := C3) (n := 22) (by omega) (by omega)).mpr q)
                            refine OwnK.getstatic X25 (n := 165) d4_162 (hw _ (List.mem_of_getElem? (i := 30) rfl)) Via.refl (S_OTHER.ext O0.2) rfl ?_
                            intro T38 X38
                            refine OwnK.goto X38 (n := 171) d4_165 (by decide) rfl ?_
                            exact OwnK.areturn X38 rfl rfl rfl d4_171 ⟨congrArg Value.ref (own_ex10 (by first | assumption | omega) (by first | assumption | omega) (by first | assumption | omega) (by first | assumption | omega) (by first | assumption | omega) (by first | assumption | omega) (by first | assumption | omega) (by first | assumption | omega) (by first | assumption | omega) (by first | assumption | omega) (by first | assumption | omega) (by first | assumption | omega) (by first | assumption | omega)).symm, rfl⟩ (by decide) (by decide)
                      · have kk39 : 16384 < F2 := (own_lt (i := 16384) (n := F2) (by omega) (by omega)).mp hc112
                        refine OwnK.getstatic X8 (n := 118) d4_115 (hw _ (List.mem_of_getElem? (i := 30) rfl)) Via.refl (S_OTHER.ext O0.2) rfl ?_
                        intro T40 X40
                        exact OwnK.areturn X40 rfl rfl rfl d4_118 ⟨congrArg Value.ref (own_ex8 (by first | assumption | omega) (by first | assumption | omega) (by first | assumption | omega) (by first | assumption | omega) (by first | assumption | omega) (by first | assumption | omega) (by first | assumption | omega) (by first | assumption | omega) (by first | assumption | omega) (by first | assumption | omega)).symm, rfl⟩ (by decide) (by decide)
                  · have kk41 : N < ((5 + F1) + 5) := (own_lt (i := N) (n := ((5 + F1) + 5)) (by omega) (by omega)).mp hc95
                    refine OwnK.getstatic X8 (n := 101) d4_98 (hw _ (List.mem_of_getElem? (i := 26) rfl)) Via.refl (S_PARTIAL.ext O0.2) rfl ?_
                    intro T42 X42
                    exact OwnK.areturn X42 rfl rfl rfl d4_101 ⟨congrArg Value.ref (own_ex7 (by first | assumption | omega) (by first | assumption | omega) (by first | assumption | omega) (by first | assumption | omega) (by first | assumption | omega) (by first | assumption | omega) (by first | assumption | omega) (by first | assumption | omega) (by first | assumption | omega)).symm, rfl⟩ (by decide) (by decide)
                · have kk43 : ¬ C2 = 22 := fun q => hc83 ((own_eqn (i := C2) (n := 22) (by omega) (by omega)).mpr q)
                  refine OwnK.getstatic X8 (n := 89) d4_86 (hw _ (List.mem_of_getElem? (i := 30) rfl)) Via.refl (S_OTHER.ext O0.2) rfl ?_
                  intro T44 X44
                  exact OwnK.areturn X44 rfl rfl rfl d4_89 ⟨congrArg Value.ref (own_ex6 (by first | assumption | omega) (by first | assumption | omega) (by first | assumption | omega) (by first | assumption | omega) (by first | assumption | omega) (by first | assumption | omega) (by first | assumption | omega) (by first | assumption | omega)).symm, rfl⟩ (by decide) (by decide)
            · have kk45 : ¬ ((min (5 + F1) N) - 5) < 1 := fun q => hc56 ((own_lt (i := ((min (5 + F1) N) - 5)) (n := 1) (by omega) (by omega)).mpr q)
              refine OwnK.iloadN X8 (n := 60) d4_59 rfl rfl ?_
              refine OwnK.iconst X8 (z := (1 : Int32)) (n := 61) d4_60 rfl rfl ?_
              refine OwnK.ic_eq X8  (n1 := 68) (n2 := 64) d4_61 (by decide) rfl rfl (fun hc61 => ?_) (fun hc61 => ?_)
              · have kk46 : T = 1 := (own_eqn (i := T) (n := 1) (by omega) (by omega)).mp hc61
                refine OwnK.iconst X8 (z := (5 : Int32)) (n := 69) d4_68 rfl rfl ?_
                refine OwnK.iloadN X8 (n := 70) d4_69 rfl rfl ?_
                refine OwnK.iadd X8 (n := 71) d4_70 rfl ?_
                rw [show (((5 : Int32) + (Int32.ofNat F1)) : Int32) = (Int32.ofNat (5 + F1)) from own_add 5 F1]
                refine OwnK.istore X8 (l' := #[.val (.int (Int32.ofNat N)), .val (.int (Int32.ofNat C1)), .val (.int (Int32.ofNat F1)), .val (.int (Int32.ofNat T)), .val (.int (Int32.ofNat D)), .val (.int (Int32.ofNat C2)), .val (.int (Int32.ofNat F2)), .val (.int (Int32.ofNat C3)), .val (.int (Int32.ofNat ((min (5 + F1) N) - 5))), .val (.int (Int32.ofNat (5 + F1))), .unset]) (n := 73) d4_71 rfl rfl ?_
                refine OwnK.iload X8 (n := 75) d4_73 rfl rfl ?_
                refine OwnK.iloadN X8 (n := 76) d4_75 rfl rfl ?_
                refine OwnK.ic_ge X8  (n1 := 172) (n2 := 79) d4_76 (by decide) rfl rfl (fun hc76 => ?_) (fun hc76 => ?_)
                · have kk47 : ¬ (5 + F1) < N := fun q => hc76 ((own_lt (i := (5 + F1)) (n := N) (by omega) (by omega)).mpr q)
                  refine OwnK.iload X8 (n := 174) d4_172 rfl rfl ?_
                  refine OwnK.iconst X8 (z := (4 : Int32)) (n := 175) d4_174 rfl rfl ?_
                  refine OwnK.ic_lt X8  (n1 := 193) (n2 := 178) d4_175 (by decide) rfl rfl (fun hc175 => ?_) (fun hc175 => ?_)
                  · have kk48 : ((min (5 + F1) N) - 5) < 4 := (own_lt (i := ((min (5 + F1) N) - 5)) (n := 4) (by omega) (by omega)).mp hc175
                    refine OwnK.getstatic X8 (n := 196) d4_193 (hw _ (List.mem_of_getElem? (i := 26) rfl)) Via.refl (S_PARTIAL.ext O0.2) rfl ?_
                    intro T49 X49
                    exact OwnK.areturn X49 rfl rfl rfl d4_196 ⟨congrArg Value.ref (own_ex14 (by first | assumption | omega) (by first | assumption | omega) (by first | assumption | omega) (by first | assumption | omega) (by first | assumption | omega) (by first | assumption | omega) (by first | assumption | omega) (by first | assumption | omega)).symm, rfl⟩ (by decide) (by decide)
                  · have kk50 : ¬ ((min (5 + F1) N) - 5) < 4 := fun q => hc175 ((own_lt (i := ((min (5 + F1) N) - 5)) (n := 4) (by omega) (by omega)).mpr q)
                    refine OwnK.iload X8 (n := 180) d4_178 rfl rfl ?_
                    refine OwnK.iconst X8 (z := (4 : Int32)) (n := 181) d4_180 rfl rfl ?_
                    refine OwnK.isub X8 (n := 182) d4_181 rfl ?_
                    rw [show (((Int32.ofNat ((min (5 + F1) N) - 5)) - (4 : Int32)) : Int32) = (Int32.ofNat (((min (5 + F1) N) - 5) - 4)) from own_sub ((min (5 + F1) N) - 5) 4 (by omega) (by omega)]
                    refine OwnK.iload X8 (n := 184) d4_182 rfl rfl ?_
                    refine OwnK.ic_lt X8  (n1 := 193) (n2 := 187) d4_184 (by decide) rfl rfl (fun hc184 => ?_) (fun hc184 => ?_)
                    · have kk51 : (((min (5 + F1) N) - 5) - 4) < D := (own_lt (i := (((min (5 + F1) N) - 5) - 4)) (n := D) (by omega) (by omega)).mp hc184
                      refine OwnK.getstatic X8 (n := 196) d4_193 (hw _ (List.mem_of_getElem? (i := 26) rfl)) Via.refl (S_PARTIAL.ext O0.2) rfl ?_
                      intro T52 X52
                      exact OwnK.areturn X52 rfl rfl rfl d4_196 ⟨congrArg Value.ref (own_ex14 (by first | assumption | omega) (by first | assumption | omega) (by first | assumption | omega) (by first | assumption | omega) (by first | assumption | omega) (by first | assumption | omega) (by first | assumption | omega) (by first | assumption | omega)).symm, rfl⟩ (by decide) (by decide)
                    · have kk53 : ¬ (((min (5 + F1) N) - 5) - 4) < D := fun q => hc184 ((own_lt (i := (((min (5 + F1) N) - 5) - 4)) (n := D) (by omega) (by omega)).mpr q)
                      refine OwnK.getstatic X8 (n := 190) d4_187 (hw _ (List.mem_of_getElem? (i := 38) rfl)) Via.refl (S_WHOLE.ext O0.2) rfl ?_
                      intro T54 X54
                      refine OwnK.goto X54 (n := 196) d4_190 (by decide) rfl ?_
                      exact OwnK.areturn X54 rfl rfl rfl d4_196 ⟨congrArg Value.ref (own_ex13 (by first | assumption | omega) (by first | assumption | omega) (by first | assumption | omega) (by first | assumption | omega) (by first | assumption | omega) (by first | assumption | omega) (by first | assumption | omega) (by first | assumption | omega) (by first | assumption | omega)).symm, rfl⟩ (by decide) (by decide)
                · have kk55 : (5 + F1) < N := (own_lt (i := (5 + F1)) (n := N) (by omega) (by omega)).mp hc76
                  refine OwnK.iload X8 (n := 81) d4_79 rfl rfl ?_
                  refine OwnK.bipush X8 (z := (22 : Int32)) (n := 83) d4_81 rfl rfl ?_
                  refine OwnK.ic_eq X8  (n1 := 90) (n2 := 86) d4_83 (by decide) rfl rfl (fun hc83 => ?_) (fun hc83 => ?_)
                  · have kk56 : C2 = 22 := (own_eqn (i := C2) (n := 22) (by omega) (by omega)).mp hc83
                    refine OwnK.iload X8 (n := 92) d4_90 rfl rfl ?_
                    refine OwnK.iconst X8 (z := (5 : Int32)) (n := 93) d4_92 rfl rfl ?_
                    refine OwnK.iadd X8 (n := 94) d4_93 rfl ?_
                    rw [show (((Int32.ofNat (5 + F1)) + (5 : Int32)) : Int32) = (Int32.ofNat ((5 + F1) + 5)) from own_add (5 + F1) 5]
                    refine OwnK.iloadN X8 (n := 95) d4_94 rfl rfl ?_
                    refine OwnK.ic_le X8  (n1 := 102) (n2 := 98) d4_95 (by decide) rfl rfl (fun hc95 => ?_) (fun hc95 => ?_)
                    · have kk57 : ¬ N < ((5 + F1) + 5) := fun q => hc95 ((own_lt (i := N) (n := ((5 + F1) + 5)) (by omega) (by omega)).mpr q)
                      refine OwnK.iload X8 (n := 104) d4_102 rfl rfl ?_
                      refine OwnK.if_eq X8  (n1 := 115) (n2 := 107) d4_104 (by decide) rfl rfl (fun hc104 => ?_) (fun hc104 => ?_)
                      · have kk58 : F2 = 0 := (own_eqn (i := F2) (n := 0) (by omega) (by omega)).mp hc104
                        refine OwnK.getstatic X8 (n := 118) d4_115 (hw _ (List.mem_of_getElem? (i := 30) rfl)) Via.refl (S_OTHER.ext O0.2) rfl ?_
                        intro T59 X59
                        exact OwnK.areturn X59 rfl rfl rfl d4_118 ⟨congrArg Value.ref (own_ex8 (by first | assumption | omega) (by first | assumption | omega) (by first | assumption | omega) (by first | assumption | omega) (by first | assumption | omega) (by first | assumption | omega) (by first | assumption | omega) (by first | assumption | omega) (by first | assumption | omega) (by first | assumption | omega)).symm, rfl⟩ (by decide) (by decide)
                      · have kk60 : ¬ F2 = 0 := fun q => hc104 ((own_eqn (i := F2) (n := 0) (by omega) (by omega)).mpr q)
                        refine OwnK.iload X8 (n := 109) d4_107 rfl rfl ?_
                        refine OwnK.sipush X8 (z := (16384 : Int32)) (n := 112) d4_109 rfl rfl ?_
                        refine OwnK.ic_le X8  (n1 := 119) (n2 := 115) d4_112 (by decide) rfl rfl (fun hc112 => ?_) (fun hc112 => ?_)
                        · have kk61 : ¬ 16384 < F2 := fun q => hc112 ((own_lt (i := 16384) (n := F2) (by omega) (by omega)).mpr q)
                          refine OwnK.iload X8 (n := 121) d4_119 rfl rfl ?_
                          refine OwnK.iload X8 (n := 123) d4_121 rfl rfl ?_
                          refine OwnK.iconst X8 (z := (5 : Int32)) (n := 124) d4_123 rfl rfl ?_
                          refine OwnK.iadd X8 (n := 125) d4_124 rfl ?_
                          rw [show (((Int32.ofNat (5 + F1)) + (5 : Int32)) : Int32) = (Int32.ofNat ((5 + F1) + 5)) from own_add (5 + F1) 5]
                          refine OwnK.iload X8 (n := 127) d4_125 rfl rfl ?_
                          refine OwnK.iadd X8 (n := 128) d4_127 rfl ?_
                          rw [show (((Int32.ofNat ((5 + F1) + 5)) + (Int32.ofNat F2)) : Int32) = (Int32.ofNat (((5 + F1) + 5) + F2)) from own_add ((5 + F1) + 5) F2]
                          refine OwnK.iloadN X8 (n := 129) d4_128 rfl rfl ?_
                          refine OwnK.call_static_v X8 (z := (⟨"java/lang/Math", "min", "(II)I"⟩ : MethodName)) (n := 132) d4_129 (hw _ (List.mem_of_getElem? (i := 35) rfl)) (hw _ (List.mem_of_getElem? (i := 32) rfl)) (hw _ (List.mem_of_getElem? (i := 34) rfl)) (hw _ (List.mem_of_getElem? (i := 33) rfl)) (by decide) (rm5 l Z a0 hw [] h0 n0 (((5 + F1) + 5) + F2) N (by omega) (by omega)) (argsL := [(.int (Int32.ofNat (((5 + F1) + 5) + F2))), (.int (Int32.ofNat N))]) (rest := [(.int (Int32.ofNat ((min (5 + F1) N) - 5)))]) rfl rfl (OwnK.lenA pd__II_I rfl) (W := 1) (Nat.le_of_eq rfl) (by decide) (by decide) (by decide) (by decide) rfl ?_
                          intro T62 h62 w62 X62 ⟨q1, q2⟩
                          subst q1 q2
                          refine OwnK.iadd X62 (n := 133) d4_132 rfl ?_
                          rw [show (((Int32.ofNat ((min (5 + F1) N) - 5)) + (Int32.ofNat (min (((5 + F1) + 5) + F2) N))) : Int32) = (Int32.ofNat (((min (5 + F1) N) - 5) + (min (((5 + F1) + 5) + F2) N))) from own_add ((min (5 + F1) N) - 5) (min (((5 + F1) + 5) + F2) N)]
                          refine OwnK.iload X62 (n := 135) d4_133 rfl rfl ?_
                          refine OwnK.iconst X62 (z := (5 : Int32)) (n := 136) d4_135 rfl rfl ?_
                          refine OwnK.iadd X62 (n := 137) d4_136 rfl ?_
                          rw [show (((Int32.ofNat (5 + F1)) + (5 : Int32)) : Int32) = (Int32.ofNat ((5 + F1) + 5)) from own_add (5 + F1) 5]
                          refine OwnK.isub X62 (n := 138) d4_137 rfl ?_
                          rw [show (((Int32.ofNat (((min (5 + F1) N) - 5) + (min (((5 + F1) + 5) + F2) N))) - (Int32.ofNat ((5 + F1) + 5))) : Int32) = (Int32.ofNat ((((min (5 + F1) N) - 5) + (min (((5 + F1) + 5) + F2) N)) - ((5 + F1) + 5))) from own_sub (((min (5 + F1) N) - 5) + (min (((5 + F1) + 5) + F2) N)) ((5 + F1) + 5) (by omega) (by omega)]
                          refine OwnK.istore X62 (l' := #[.val (.int (Int32.ofNat N)), .val (.int (Int32.ofNat C1)), .val (.int (Int32.ofNat F1)), .val (.int (Int32.ofNat T)), .val (.int (Int32.ofNat D)), .val (.int (Int32.ofNat C2)), .val (.int (Int32.ofNat F2)), .val (.int (Int32.ofNat C3)), .val (.int (Int32.ofNat ((((min (5 + F1) N) - 5) + (min (((5 + F1) + 5) + F2) N)) - ((5 + F1) + 5)))), .val (.int (Int32.ofNat (5 + F1))), .unset]) (n := 140) d4_138 rfl rfl ?_
                          refine OwnK.iload X62 (n := 142) d4_140 rfl rfl ?_
                          refine OwnK.iconst X62 (z := (5 : Int32)) (n := 143) d4_142 rfl rfl ?_
                          refine OwnK.iadd X62 (n := 144) d4_143 rfl ?_
                          rw [show (((Int32.ofNat (5 + F1)) + (5 : Int32)) : Int32) = (Int32.ofNat ((5 + F1) + 5)) from own_add (5 + F1) 5]
                          refine OwnK.iload X62 (n := 146) d4_144 rfl rfl ?_
                          refine OwnK.iadd X62 (n := 147) d4_146 rfl ?_
                          rw [show (((Int32.ofNat ((5 + F1) + 5)) + (Int32.ofNat F2)) : Int32) = (Int32.ofNat (((5 + F1) + 5) + F2)) from own_add ((5 + F1) + 5) F2]
                          refine OwnK.istore X62 (l' := #[.val (.int (Int32.ofNat N)), .val (.int (Int32.ofNat C1)), .val (.int (Int32.ofNat F1)), .val (.int (Int32.ofNat T)), .val (.int (Int32.ofNat D)), .val (.int (Int32.ofNat C2)), .val (.int (Int32.ofNat F2)), .val (.int (Int32.ofNat C3)), .val (.int (Int32.ofNat ((((min (5 + F1) N) - 5) + (min (((5 + F1) + 5) + F2) N)) - ((5 + F1) + 5)))), .val (.int (Int32.ofNat (5 + F1))), .val (.int (Int32.ofNat (((5 + F1) + 5) + F2)))]) (n := 149) d4_147 rfl rfl ?_
                          refine OwnK.iload X62 (n := 151) d4_149 rfl rfl ?_
                          refine OwnK.iloadN X62 (n := 152) d4_151 rfl rfl ?_
                          refine OwnK.ic_ge X62  (n1 := 172) (n2 := 155) d4_152 (by decide) rfl rfl (fun hc152 => ?_) (fun hc152 => ?_)
                          · have kk63 : ¬ (((5 + F1) + 5) + F2) < N := fun q => hc152 ((own_lt (i := (((5 + F1) + 5) + F2)) (n := N) (by omega) (by omega)).mpr q)
                            refine OwnK.iload X62 (n := 174) d4_172 rfl rfl ?_
                            refine OwnK.iconst X62 (z := (4 : Int32)) (n := 175) d4_174 rfl rfl ?_
                            refine OwnK.ic_lt X62  (n1 := 193) (n2 := 178) d4_175 (by decide) rfl rfl (fun hc175 => ?_) (fun hc175 => ?_)
                            · have kk64 : ((((min (5 + F1) N) - 5) + (min (((5 + F1) + 5) + F2) N)) - ((5 + F1) + 5)) < 4 := (own_lt (i := ((((min (5 + F1) N) - 5) + (min (((5 + F1) + 5) + F2) N)) - ((5 + F1) + 5))) (n := 4) (by omega) (by omega)).mp hc175
                              refine OwnK.getstatic X62 (n := 196) d4_193 (hw _ (List.mem_of_getElem? (i := 26) rfl)) Via.refl (S_PARTIAL.ext O0.2) rfl ?_
                              intro T65 X65
                              exact OwnK.areturn X65 rfl rfl rfl d4_196 ⟨congrArg Value.ref (own_ex12 (by first | assumption | omega) (by first | assumption | omega) (by first | assumption | omega) (by first | assumption | omega) (by first | assumption | omega) (by first | assumption | omega) (by first | assumption | omega) (by first | assumption | omega) (by first | assumption | omega) (by first | assumption | omega) (by first | assumption | omega) (by first | assumption | omega) (by first | assumption | omega)).symm, rfl⟩ (by decide) (by decide)
                            · have kk66 : ¬ ((((min (5 + F1) N) - 5) + (min (((5 + F1) + 5) + F2) N)) - ((5 + F1) + 5)) < 4 := fun q => hc175 ((own_lt (i := ((((min (5 + F1) N) - 5) + (min (((5 + F1) + 5) + F2) N)) - ((5 + F1) + 5))) (n := 4) (by omega) (by omega)).mpr q)
                              refine OwnK.iload X62 (n := 180) d4_178 rfl rfl ?_
                              refine OwnK.iconst X62 (z := (4 : Int32)) (n := 181) d4_180 rfl rfl ?_
                              refine OwnK.isub X62 (n := 182) d4_181 rfl ?_
                              rw [show (((Int32.ofNat ((((min (5 + F1) N) - 5) + (min (((5 + F1) + 5) + F2) N)) - ((5 + F1) + 5))) - (4 : Int32)) : Int32) = (Int32.ofNat (((((min (5 + F1) N) - 5) + (min (((5 + F1) + 5) + F2) N)) - ((5 + F1) + 5)) - 4)) from own_sub ((((min (5 + F1) N) - 5) + (min (((5 + F1) + 5) + F2) N)) - ((5 + F1) + 5)) 4 (by omega) (by omega)]
                              refine OwnK.iload X62 (n := 184) d4_182 rfl rfl ?_
                              refine OwnK.ic_lt X62  (n1 := 193) (n2 := 187) d4_184 (by decide) rfl rfl (fun hc184 => ?_) (fun hc184 => ?_)
                              · have kk67 : (((((min (5 + F1) N) - 5) + (min (((5 + F1) + 5) + F2) N)) - ((5 + F1) + 5)) - 4) < D := (own_lt (i := (((((min (5 + F1) N) - 5) + (min (((5 + F1) + 5) + F2) N)) - ((5 + F1) + 5)) - 4)) (n := D) (by omega) (by omega)).mp hc184
                                refine OwnK.getstatic X62 (n := 196) d4_193 (hw _ (List.mem_of_getElem? (i := 26) rfl)) Via.refl (S_PARTIAL.ext O0.2) rfl ?_
                                intro T68 X68
                                exact OwnK.areturn X68 rfl rfl rfl d4_196 ⟨congrArg Value.ref (own_ex12 (by first | assumption | omega) (by first | assumption | omega) (by first | assumption | omega) (by first | assumption | omega) (by first | assumption | omega) (by first | assumption | omega) (by first | assumption | omega) (by first | assumption | omega) (by first | assumption | omega) (by first | assumption | omega) (by first | assumption | omega) (by first | assumption | omega) (by first | assumption | omega)).symm, rfl⟩ (by decide) (by decide)
                              · have kk69 : ¬ (((((min (5 + F1) N) - 5) + (min (((5 + F1) + 5) + F2) N)) - ((5 + F1) + 5)) - 4) < D := fun q => hc184 ((own_lt (i := (((((min (5 + F1) N) - 5) + (min (((5 + F1) + 5) + F2) N)) - ((5 + F1) + 5)) - 4)) (n := D) (by omega) (by omega)).mpr q)
                                refine OwnK.getstatic X62 (n := 190) d4_187 (hw _ (List.mem_of_getElem? (i := 38) rfl)) Via.refl (S_WHOLE.ext O0.2) rfl ?_
                                intro T70 X70
                                refine OwnK.goto X70 (n := 196) d4_190 (by decide) rfl ?_
                                exact OwnK.areturn X70 rfl rfl rfl d4_196 ⟨congrArg Value.ref (own_ex11 (by first | assumption | omega) (by first | assumption | omega) (by first | assumption | omega) (by first | assumption | omega) (by first | assumption | omega) (by first | assumption | omega) (by first | assumption | omega) (by first | assumption | omega) (by first | assumption | omega) (by first | assumption | omega) (by first | assumption | omega) (by first | assumption | omega) (by first | assumption | omega) (by first | assumption | omega)).symm, rfl⟩ (by decide) (by decide)
                          · have kk71 : (((5 + F1) + 5) + F2) < N := (own_lt (i := (((5 + F1) + 5) + F2)) (n := N) (by omega) (by omega)).mp hc152
                            refine OwnK.iload X62 (n := 157) d4_155 rfl rfl ?_
                            refine OwnK.bipush X62 (z := (22 : Int32)) (n := 159) d4_157 rfl rfl ?_
                            refine OwnK.ic_eq X62  (n1 := 168) (n2 := 162) d4_159 (by decide) rfl rfl (fun hc159 => ?_) (fun hc159 => ?_)
                            · have kk72 : C3 = 22 := (own_eqn (i := C3) (n := 22) (by omega) (by omega)).mp hc159
                              refine OwnK.getstatic X62 (n := 171) d4_168 (hw _ (List.mem_of_getElem? (i := 26) rfl)) Via.refl (S_PARTIAL.ext O0.2) rfl ?_
                              intro T73 X73
                              exact OwnK.areturn X73 rfl rfl rfl d4_171 ⟨congrArg Value.ref (own_ex9 (by first | assumption | omega) (by first | assumption | omega) (by first | assumption | omega) (by first | assumption | omega) (by first | assumption | omega) (by first | assumption | omega) (by first | assumption | omega) (by first | assumption | omega) (by first | assumption | omega) (by first | assumption | omega) (by first | assumption | omega) (by first | assumption | omega) (by first | assumption | omega)).symm, rfl⟩ (by decide) (by decide)
                            · have kk74 : ¬ C3 = 22 := fun q => hc159 ((own_eqn (i := C3) (n := 22) (by omega) (by omega)).mpr q)
                              refine OwnK.getstatic X62 (n := 165) d4_162 (hw _ (List.mem_of_getElem? (i := 30) rfl)) Via.refl (S_OTHER.ext O0.2) rfl ?_
                              intro T75 X75
                              refine OwnK.goto X75 (n := 171) d4_165 (by decide) rfl ?_
                              exact OwnK.areturn X75 rfl rfl rfl d4_171 ⟨congrArg Value.ref (own_ex10 (by first | assumption | omega) (by first | assumption | omega) (by first | assumption | omega) (by first | assumption | omega) (by first | assumption | omega) (by first | assumption | omega) (by first | assumption | omega) (by first | assumption | omega) (by first | assumption | omega) (by first | assumption | omega) (by first | assumption | omega) (by first | assumption | omega) (by first | assumption | omega)).symm, rfl⟩ (by decide) (by decide)
                        · have kk76 : 16384 < F2 := (own_lt (i := 16384) (n := F2) (by omega) (by omega)).mp hc112
                          refine OwnK.getstatic X8 (n := 118) d4_115 (hw _ (List.mem_of_getElem? (i := 30) rfl)) Via.refl (S_OTHER.ext O0.2) rfl ?_
                          intro T77 X77
                          exact OwnK.areturn X77 rfl rfl rfl d4_118 ⟨congrArg Value.ref (own_ex8 (by first | assumption | omega) (by first | assumption | omega) (by first | assumption | omega) (by first | assumption | omega) (by first | assumption | omega) (by first | assumption | omega) (by first | assumption | omega) (by first | assumption | omega) (by first | assumption | omega) (by first | assumption | omega)).symm, rfl⟩ (by decide) (by decide)
                    · have kk78 : N < ((5 + F1) + 5) := (own_lt (i := N) (n := ((5 + F1) + 5)) (by omega) (by omega)).mp hc95
                      refine OwnK.getstatic X8 (n := 101) d4_98 (hw _ (List.mem_of_getElem? (i := 26) rfl)) Via.refl (S_PARTIAL.ext O0.2) rfl ?_
                      intro T79 X79
                      exact OwnK.areturn X79 rfl rfl rfl d4_101 ⟨congrArg Value.ref (own_ex7 (by first | assumption | omega) (by first | assumption | omega) (by first | assumption | omega) (by first | assumption | omega) (by first | assumption | omega) (by first | assumption | omega) (by first | assumption | omega) (by first | assumption | omega) (by first | assumption | omega)).symm, rfl⟩ (by decide) (by decide)
                  · have kk80 : ¬ C2 = 22 := fun q => hc83 ((own_eqn (i := C2) (n := 22) (by omega) (by omega)).mpr q)
                    refine OwnK.getstatic X8 (n := 89) d4_86 (hw _ (List.mem_of_getElem? (i := 30) rfl)) Via.refl (S_OTHER.ext O0.2) rfl ?_
                    intro T81 X81
                    exact OwnK.areturn X81 rfl rfl rfl d4_89 ⟨congrArg Value.ref (own_ex6 (by first | assumption | omega) (by first | assumption | omega) (by first | assumption | omega) (by first | assumption | omega) (by first | assumption | omega) (by first | assumption | omega) (by first | assumption | omega) (by first | assumption | omega)).symm, rfl⟩ (by decide) (by decide)
              · have kk82 : ¬ T = 1 := fun q => hc61 ((own_eqn (i := T) (n := 1) (by omega) (by omega)).mpr q)
                refine OwnK.getstatic X8 (n := 67) d4_64 (hw _ (List.mem_of_getElem? (i := 30) rfl)) Via.refl (S_OTHER.ext O0.2) rfl ?_
                intro T83 X83
                exact OwnK.areturn X83 rfl rfl rfl d4_67 ⟨congrArg Value.ref (own_ex5 (by first | assumption | omega) (by first | assumption | omega) (by first | assumption | omega) (by first | assumption | omega) (by first | assumption | omega) (by first | assumption | omega) (by first | assumption | omega)).symm, rfl⟩ (by decide) (by decide)
          · have kk84 : 16384 < F1 := (own_lt (i := 16384) (n := F1) (by omega) (by omega)).mp hc35
            refine OwnK.getstatic X0 (n := 41) d4_38 (hw _ (List.mem_of_getElem? (i := 30) rfl)) Via.refl (S_OTHER.ext O0.2) rfl ?_
            intro T85 X85
            exact OwnK.areturn X85 rfl rfl rfl d4_41 ⟨congrArg Value.ref (own_ex4 (by first | assumption | omega) (by first | assumption | omega) (by first | assumption | omega) (by first | assumption | omega)).symm, rfl⟩ (by decide) (by decide)
      · have kk86 : N < 5 := (own_lt (i := N) (n := 5) (by omega) (by omega)).mp hc20
        refine OwnK.getstatic X0 (n := 26) d4_23 (hw _ (List.mem_of_getElem? (i := 26) rfl)) Via.refl (S_PARTIAL.ext O0.2) rfl ?_
        intro T87 X87
        exact OwnK.areturn X87 rfl rfl rfl d4_26 ⟨congrArg Value.ref (own_ex3 (by first | assumption | omega) (by first | assumption | omega) (by first | assumption | omega)).symm, rfl⟩ (by decide) (by decide)
    · have kk88 : ¬ C1 = 22 := fun q => hc11 ((own_eqn (i := C1) (n := 22) (by omega) (by omega)).mpr q)
      refine OwnK.getstatic X0 (n := 17) d4_14 (hw _ (List.mem_of_getElem? (i := 30) rfl)) Via.refl (S_OTHER.ext O0.2) rfl ?_
      intro T89 X89
      exact OwnK.areturn X89 rfl rfl rfl d4_17 ⟨congrArg Value.ref (own_ex2 (by first | assumption | omega) (by first | assumption | omega)).symm, rfl⟩ (by decide) (by decide)
  · have kk90 : N = 0 := (own_eqn (i := N) (n := 0) (by omega) (by omega)).mp hc1
    refine OwnK.getstatic X0 (n := 7) d4_4 (hw _ (List.mem_of_getElem? (i := 26) rfl)) Via.refl (S_PARTIAL.ext O0.2) rfl ?_
    intro T91 X91
    exact OwnK.areturn X91 rfl rfl rfl d4_7 ⟨congrArg Value.ref (own_ex1 (by first | assumption | omega)).symm, rfl⟩ (by decide) (by decide)
theorem pn_com_example_brygga_brygga_ClientHello : plainName "com/example/brygga/brygga/ClientHello" = true := by first | (simp [plainName, overriddenIn]; done) | decide +kernel
theorem d3_0 : decode prog_22_method_2_code 0 = .ok (.iconst 0, 1) := by decide +kernel
theorem d3_1 : decode prog_22_method_2_code 1 = .ok (.istore_n 2, 1) := by decide +kernel
theorem d3_2 : decode prog_22_method_2_code 2 = .ok (.iconst 0, 1) := by decide +kernel
theorem d3_3 : decode prog_22_method_2_code 3 = .ok (.istore_n 3, 1) := by decide +kernel
theorem d3_4 : decode prog_22_method_2_code 4 = .ok (.iconst 0, 1) := by decide +kernel
theorem d3_5 : decode prog_22_method_2_code 5 = .ok (.istore 4, 2) := by decide +kernel
theorem d3_7 : decode prog_22_method_2_code 7 = .ok (.iload 4, 2) := by decide +kernel
theorem d3_9 : decode prog_22_method_2_code 9 = .ok (.iload_n 1, 1) := by decide +kernel
theorem d3_10 : decode prog_22_method_2_code 10 = .ok (.if_icmp .ge 170, 3) := by decide +kernel
theorem d3_13 : decode prog_22_method_2_code 13 = .ok (.aload_n 0, 1) := by decide +kernel
theorem d3_14 : decode prog_22_method_2_code 14 = .ok (.iload 4, 2) := by decide +kernel
theorem d3_16 : decode prog_22_method_2_code 16 = .ok (.baload, 1) := by decide +kernel
theorem d3_17 : decode prog_22_method_2_code 17 = .ok (.bipush 22, 2) := by decide +kernel
theorem d3_19 : decode prog_22_method_2_code 19 = .ok (.if_icmp .eq 7, 3) := by decide +kernel
theorem d3_22 : decode prog_22_method_2_code 22 = .ok (.getstatic 9, 3) := by decide +kernel
theorem d3_25 : decode prog_22_method_2_code 25 = .ok (.areturn, 1) := by decide +kernel
theorem d3_26 : decode prog_22_method_2_code 26 = .ok (.iload 4, 2) := by decide +kernel
theorem d3_28 : decode prog_22_method_2_code 28 = .ok (.iconst 5, 1) := by decide +kernel
theorem d3_29 : decode prog_22_method_2_code 29 = .ok (.iadd, 1) := by decide +kernel
theorem d3_30 : decode prog_22_method_2_code 30 = .ok (.iload_n 1, 1) := by decide +kernel
theorem d3_31 : decode prog_22_method_2_code 31 = .ok (.if_icmp .le 7, 3) := by decide +kernel
theorem d3_34 : decode prog_22_method_2_code 34 = .ok (.getstatic 15, 3) := by decide +kernel
theorem d3_37 : decode prog_22_method_2_code 37 = .ok (.areturn, 1) := by decide +kernel
theorem d3_38 : decode prog_22_method_2_code 38 = .ok (.aload_n 0, 1) := by decide +kernel
theorem d3_39 : decode prog_22_method_2_code 39 = .ok (.iload 4, 2) := by decide +kernel
theorem d3_41 : decode prog_22_method_2_code 41 = .ok (.iconst 3, 1) := by decide +kernel
theorem d3_42 : decode prog_22_method_2_code 42 = .ok (.iadd, 1) := by decide +kernel
theorem d3_43 : decode prog_22_method_2_code 43 = .ok (.baload, 1) := by decide +kernel
theorem d3_44 : decode prog_22_method_2_code 44 = .ok (.sipush 255, 3) := by decide +kernel
theorem d3_47 : decode prog_22_method_2_code 47 = .ok (.iand, 1) := by decide +kernel
theorem d3_48 : decode prog_22_method_2_code 48 = .ok (.bipush 8, 2) := by decide +kernel
theorem d3_50 : decode prog_22_method_2_code 50 = .ok (.ishl, 1) := by decide +kernel
theorem d3_51 : decode prog_22_method_2_code 51 = .ok (.aload_n 0, 1) := by decide +kernel
theorem d3_52 : decode prog_22_method_2_code 52 = .ok (.iload 4, 2) := by decide +kernel
theorem d3_54 : decode prog_22_method_2_code 54 = .ok (.iconst 4, 1) := by decide +kernel
theorem d3_55 : decode prog_22_method_2_code 55 = .ok (.iadd, 1) := by decide +kernel
theorem d3_56 : decode prog_22_method_2_code 56 = .ok (.baload, 1) := by decide +kernel
theorem d3_57 : decode prog_22_method_2_code 57 = .ok (.sipush 255, 3) := by decide +kernel
theorem d3_60 : decode prog_22_method_2_code 60 = .ok (.iand, 1) := by decide +kernel
theorem d3_61 : decode prog_22_method_2_code 61 = .ok (.ior, 1) := by decide +kernel
theorem d3_62 : decode prog_22_method_2_code 62 = .ok (.istore 5, 2) := by decide +kernel
theorem d3_64 : decode prog_22_method_2_code 64 = .ok (.iload 5, 2) := by decide +kernel
theorem d3_66 : decode prog_22_method_2_code 66 = .ok (.ifCond .eq 11, 3) := by decide +kernel
theorem d3_69 : decode prog_22_method_2_code 69 = .ok (.iload 5, 2) := by decide +kernel
theorem d3_71 : decode prog_22_method_2_code 71 = .ok (.sipush 16384, 3) := by decide +kernel
theorem d3_74 : decode prog_22_method_2_code 74 = .ok (.if_icmp .le 7, 3) := by decide +kernel
theorem d3_77 : decode prog_22_method_2_code 77 = .ok (.getstatic 9, 3) := by decide +kernel
theorem d3_80 : decode prog_22_method_2_code 80 = .ok (.areturn, 1) := by decide +kernel
theorem d3_81 : decode prog_22_method_2_code 81 = .ok (.iload 4, 2) := by decide +kernel
theorem d3_83 : decode prog_22_method_2_code 83 = .ok (.iconst 5, 1) := by decide +kernel
theorem d3_84 : decode prog_22_method_2_code 84 = .ok (.iadd, 1) := by decide +kernel
theorem d3_85 : decode prog_22_method_2_code 85 = .ok (.istore 6, 2) := by decide +kernel
theorem d3_87 : decode prog_22_method_2_code 87 = .ok (.iload 6, 2) := by decide +kernel
theorem d3_89 : decode prog_22_method_2_code 89 = .ok (.iload 5, 2) := by decide +kernel
theorem d3_91 : decode prog_22_method_2_code 91 = .ok (.iadd, 1) := by decide +kernel
theorem d3_92 : decode prog_22_method_2_code 92 = .ok (.iload_n 1, 1) := by decide +kernel
theorem d3_93 : decode prog_22_method_2_code 93 = .ok (.invokestatic 18, 3) := by decide +kernel
theorem d3_96 : decode prog_22_method_2_code 96 = .ok (.istore 7, 2) := by decide +kernel
theorem d3_98 : decode prog_22_method_2_code 98 = .ok (.iload 6, 2) := by decide +kernel
theorem d3_100 : decode prog_22_method_2_code 100 = .ok (.istore 8, 2) := by decide +kernel
theorem d3_102 : decode prog_22_method_2_code 102 = .ok (.iload 8, 2) := by decide +kernel
theorem d3_104 : decode prog_22_method_2_code 104 = .ok (.iload 7, 2) := by decide +kernel
theorem d3_106 : decode prog_22_method_2_code 106 = .ok (.if_icmp .ge 56, 3) := by decide +kernel
theorem d3_109 : decode prog_22_method_2_code 109 = .ok (.iload_n 2, 1) := by decide +kernel
theorem d3_110 : decode prog_22_method_2_code 110 = .ok (.iload 8, 2) := by decide +kernel
theorem d3_112 : decode prog_22_method_2_code 112 = .ok (.iadd, 1) := by decide +kernel
theorem d3_113 : decode prog_22_method_2_code 113 = .ok (.iload 6, 2) := by decide +kernel
theorem d3_115 : decode prog_22_method_2_code 115 = .ok (.isub, 1) := by decide +kernel
theorem d3_116 : decode prog_22_method_2_code 116 = .ok (.iconst 4, 1) := by decide +kernel
theorem d3_117 : decode prog_22_method_2_code 117 = .ok (.if_icmp .ge 45, 3) := by decide +kernel
theorem d3_120 : decode prog_22_method_2_code 120 = .ok (.iload_n 2, 1) := by decide +kernel
theorem d3_121 : decode prog_22_method_2_code 121 = .ok (.iload 8, 2) := by decide +kernel
theorem d3_123 : decode prog_22_method_2_code 123 = .ok (.iadd, 1) := by decide +kernel
theorem d3_124 : decode prog_22_method_2_code 124 = .ok (.iload 6, 2) := by decide +kernel
theorem d3_126 : decode prog_22_method_2_code 126 = .ok (.isub, 1) := by decide +kernel
theorem d3_127 : decode prog_22_method_2_code 127 = .ok (.ifCond .ne 15, 3) := by decide +kernel
theorem d3_130 : decode prog_22_method_2_code 130 = .ok (.aload_n 0, 1) := by decide +kernel
theorem d3_131 : decode prog_22_method_2_code 131 = .ok (.iload 8, 2) := by decide +kernel
theorem d3_133 : decode prog_22_method_2_code 133 = .ok (.baload, 1) := by decide +kernel
theorem d3_134 : decode prog_22_method_2_code 134 = .ok (.iconst 1, 1) := by decide +kernel
theorem d3_135 : decode prog_22_method_2_code 135 = .ok (.if_icmp .eq 21, 3) := by decide +kernel
theorem d3_138 : decode prog_22_method_2_code 138 = .ok (.getstatic 9, 3) := by decide +kernel
theorem d3_141 : decode prog_22_method_2_code 141 = .ok (.areturn, 1) := by decide +kernel
theorem d3_142 : decode prog_22_method_2_code 142 = .ok (.iload_n 3, 1) := by decide +kernel
theorem d3_143 : decode prog_22_method_2_code 143 = .ok (.bipush 8, 2) := by decide +kernel
theorem d3_145 : decode prog_22_method_2_code 145 = .ok (.ishl, 1) := by decide +kernel
theorem d3_146 : decode prog_22_method_2_code 146 = .ok (.aload_n 0, 1) := by decide +kernel
theorem d3_147 : decode prog_22_method_2_code 147 = .ok (.iload 8, 2) := by decide +kernel
theorem d3_149 : decode prog_22_method_2_code 149 = .ok (.baload, 1) := by decide +kernel
theorem d3_150 : decode prog_22_method_2_code 150 = .ok (.sipush 255, 3) := by decide +kernel
theorem d3_153 : decode prog_22_method_2_code 153 = .ok (.iand, 1) := by decide +kernel
theorem d3_154 : decode prog_22_method_2_code 154 = .ok (.ior, 1) := by decide +kernel
theorem d3_155 : decode prog_22_method_2_code 155 = .ok (.istore_n 3, 1) := by decide +kernel
theorem d3_156 : decode prog_22_method_2_code 156 = .ok (.iinc 8 1, 3) := by decide +kernel
theorem d3_159 : decode prog_22_method_2_code 159 = .ok (.goto (-57), 3) := by decide +kernel
theorem d3_162 : decode prog_22_method_2_code 162 = .ok (.iload_n 2, 1) := by decide +kernel
theorem d3_163 : decode prog_22_method_2_code 163 = .ok (.iload 7, 2) := by decide +kernel
theorem d3_165 : decode prog_22_method_2_code 165 = .ok (.iload 6, 2) := by decide +kernel
theorem d3_167 : decode prog_22_method_2_code 167 = .ok (.isub, 1) := by decide +kernel
theorem d3_168 : decode prog_22_method_2_code 168 = .ok (.iadd, 1) := by decide +kernel
theorem d3_169 : decode prog_22_method_2_code 169 = .ok (.istore_n 2, 1) := by decide +kernel
theorem d3_170 : decode prog_22_method_2_code 170 = .ok (.iload 6, 2) := by decide +kernel
theorem d3_172 : decode prog_22_method_2_code 172 = .ok (.iload 5, 2) := by decide +kernel
theorem d3_174 : decode prog_22_method_2_code 174 = .ok (.iadd, 1) := by decide +kernel
theorem d3_175 : decode prog_22_method_2_code 175 = .ok (.istore 4, 2) := by decide +kernel
theorem d3_177 : decode prog_22_method_2_code 177 = .ok (.goto (-170), 3) := by decide +kernel
theorem d3_180 : decode prog_22_method_2_code 180 = .ok (.iload_n 2, 1) := by decide +kernel
theorem d3_181 : decode prog_22_method_2_code 181 = .ok (.iconst 4, 1) := by decide +kernel
theorem d3_182 : decode prog_22_method_2_code 182 = .ok (.if_icmp .lt 16, 3) := by decide +kernel
theorem d3_185 : decode prog_22_method_2_code 185 = .ok (.iload_n 2, 1) := by decide +kernel
theorem d3_186 : decode prog_22_method_2_code 186 = .ok (.iconst 4, 1) := by decide +kernel
theorem d3_187 : decode prog_22_method_2_code 187 = .ok (.isub, 1) := by decide +kernel
theorem d3_188 : decode prog_22_method_2_code 188 = .ok (.iload_n 3, 1) := by decide +kernel
theorem d3_189 : decode prog_22_method_2_code 189 = .ok (.if_icmp .lt 9, 3) := by decide +kernel
theorem d3_192 : decode prog_22_method_2_code 192 = .ok (.getstatic 24, 3) := by decide +kernel
theorem d3_195 : decode prog_22_method_2_code 195 = .ok (.goto 6, 3) := by decide +kernel
theorem d3_198 : decode prog_22_method_2_code 198 = .ok (.getstatic 15, 3) := by decide +kernel
theorem d3_201 : decode prog_22_method_2_code 201 = .ok (.areturn, 1) := by decide +kernel
theorem ef_rm3 (m : MethodId) (x0 : Addr) (x1 : Int32) : entryFrame m #[(.ref x0), (.int x1)] 9 = mkF m 0 #[.val (.ref x0), .val (.int x1), .unset, .unset, .unset, .unset, .unset, .unset, .unset] [] := by first | (simp [entryFrame, mkF, argsToLocals, Value.category]; done) | rfl
set_option maxRecDepth 65536 in
set_option maxHeartbeats 40000000 in
theorem rm3 (l : Launch) (Z : State) (a0 : Array Value) (hw : ∀ d ∈ tables_1, d.before a0 Z = true) (ws : List Jvm.Cond) (r0 : Addr) (h0 : Heap) (n0 : Nat) (O0 : Old Z n0 h0) (a_PARTIAL : Addr) (S_PARTIAL : Sta Z Z.heap "com/example/brygga/brygga/ClientHello$Framing" "PARTIAL" "Lcom/example/brygga/brygga/ClientHello$Framing;" (.ref a_PARTIAL)) (E_PARTIAL : Exa Z Z.heap a_PARTIAL "com/example/brygga/brygga/ClientHello$Framing") (a_OTHER : Addr) (S_OTHER : Sta Z Z.heap "com/example/brygga/brygga/ClientHello$Framing" "OTHER" "Lcom/example/brygga/brygga/ClientHello$Framing;" (.ref a_OTHER)) (E_OTHER : Exa Z Z.heap a_OTHER "com/example/brygga/brygga/ClientHello$Framing") (a_WHOLE : Addr) (S_WHOLE : Sta Z Z.heap "com/example/brygga/brygga/ClientHello$Framing" "WHOLE" "Lcom/example/brygga/brygga/ClientHello$Framing;" (.ref a_WHOLE)) (E_WHOLE : Exa Z Z.heap a_WHOLE "com/example/brygga/brygga/ClientHello$Framing") (N F1 F2 D C1 T C2 C3 : Nat) (hN : N ≤ 16) (hF1 : F1 ≤ 65535) (hF2 : F2 ≤ 65535) (hD : D ≤ 16777215) (hC1 : C1 ≤ 255) (hT : T ≤ 255) (hC2 : C2 ≤ 255) (hC3 : C3 ≤ 255) (bs : List Int32) (m1 m2 m3 : Int32) (hW : own_W bs F1 F2 C1 T C2 C3 m1 m2 m3) (hA : own_acc m1 m2 m3 4 = Int32.ofNat D) (A0 : Ark Z h0 r0 .byte (bs.map Value.int)) :
    Ctr l Z (⟨"com/example/brygga/brygga/ClientHello", "of", "([BI)Lcom/example/brygga/brygga/ClientHello$Framing;"⟩ : MethodName) prog_22_method_2_code 9 (some (.object "com/example/brygga/brygga/ClientHello$Framing")) ws ({ frames := 1, cells := 0, slots := 0, locals := 13 } : Room) n0 #[(.ref r0), (.int (Int32.ofNat N))] h0 (Rt (fun w h => w = .ref (own_exp a_PARTIAL a_OTHER a_WHOLE N F1 F2 D C1 T C2 C3) ∧ h0 = h)) := by
  refine Ctr.of (plainFor_of_name pn_com_example_brygga_brygga_ClientHello) (fun m => ef_rm3 m r0 (Int32.ofNat N)) ?_
  intro p e s m below meth c T0 X0
  obtain ⟨w1, w2, w3, w4, w5, w6, w7, w8, w9⟩ := hW
  refine OwnK.iconst X0 (z := (0 : Int32)) (n := 1) d3_0 rfl rfl ?_
  refine OwnK.istoreN X0 (l' := #[.val (.ref r0), .val (.int (Int32.ofNat N)), .val (.int (0 : Int32)), .unset, .unset, .unset, .unset, .unset, .unset]) (n := 2) d3_1 rfl rfl ?_
  refine OwnK.iconst X0 (z := (0 : Int32)) (n := 3) d3_2 rfl rfl ?_
  refine OwnK.istoreN X0 (l' := #[.val (.ref r0), .val (.int (Int32.ofNat N)), .val (.int (0 : Int32)), .val (.int (0 : Int32)), .unset, .unset, .unset, .unset, .unset]) (n := 4) d3_3 rfl rfl ?_
  refine OwnK.iconst X0 (z := (0 : Int32)) (n := 5) d3_4 rfl rfl ?_
  refine OwnK.istore X0 (l' := #[.val (.ref r0), .val (.int (Int32.ofNat N)), .val (.int (0 : Int32)), .val (.int (0 : Int32)), .val (.int (0 : Int32)), .unset, .unset, .unset, .unset]) (n := 7) d3_5 rfl rfl ?_
  refine OwnK.iload X0 (n := 9) d3_7 rfl rfl ?_
  refine OwnK.iloadN X0 (n := 10) d3_9 rfl rfl ?_
  refine OwnK.ic_ge X0  (n1 := 180) (n2 := 13) d3_10 (by decide) rfl rfl (fun hc10 => ?_) (fun hc10 => ?_)
  · have kk1 : ¬ 0 < N := fun q => hc10 ((own_lt (i := 0) (n := N) (by omega) (by omega)).mpr q)
    refine OwnK.iloadN X0 (n := 181) d3_180 rfl rfl ?_
    refine OwnK.iconst X0 (z := (4 : Int32)) (n := 182) d3_181 rfl rfl ?_
    refine OwnK.ic_lt X0  (n1 := 198) (n2 := 185) d3_182 (by decide) rfl rfl (fun _ => ?_) (fun q => absurd ((by decide) : (0 : Int32) < (4 : Int32)) q)
    refine OwnK.getstatic X0 (n := 201) d3_198 (hw _ (List.mem_of_getElem? (i := 20) rfl)) Via.refl (S_PARTIAL.ext O0.2) rfl ?_
    intro T2 X2
    exact OwnK.areturn X2 rfl rfl rfl d3_201 ⟨congrArg Value.ref (own_ex1 (by first | assumption | omega)).symm, rfl⟩ (by decide) (by decide)
  · have kk3 : 0 < N := (own_lt (i := 0) (n := N) (by omega) (by omega)).mp hc10
    refine OwnK.aloadN X0 (n := 14) d3_13 rfl rfl rfl ?_
    refine OwnK.iload X0 (n := 16) d3_14 rfl rfl ?_
    refine OwnK.baload X0 (i := 0) (v := (.int (bs.getD 0 0))) (n := 17) d3_16 A0 (own_nat (i := 0) (by omega)) (own_get bs (by omega)) rfl ?_
    refine OwnK.bipush X0 (z := (22 : Int32)) (n := 19) d3_17 rfl rfl ?_
    refine OwnK.ic_eq X0  (n1 := 26) (n2 := 22) d3_19 (by decide) rfl rfl (fun hc19 => ?_) (fun hc19 => ?_)
    · have kk4 : C1 = 22 := w2.mp hc19
      refine OwnK.iload X0 (n := 28) d3_26 rfl rfl ?_
      refine OwnK.iconst X0 (z := (5 : Int32)) (n := 29) d3_28 rfl rfl ?_
      refine OwnK.iadd X0 (n := 30) d3_29 rfl ?_
      rw [show (((0 : Int32) + (5 : Int32)) : Int32) = (5 : Int32) from by decide]
      refine OwnK.iloadN X0 (n := 31) d3_30 rfl rfl ?_
      refine OwnK.ic_le X0  (n1 := 38) (n2 := 34) d3_31 (by decide) rfl rfl (fun hc31 => ?_) (fun hc31 => ?_)
      · have kk5 : ¬ N < 5 := fun q => hc31 ((own_lt (i := N) (n := 5) (by omega) (by omega)).mpr q)
        refine OwnK.aloadN X0 (n := 39) d3_38 rfl rfl rfl ?_
        refine OwnK.iload X0 (n := 41) d3_39 rfl rfl ?_
        refine OwnK.iconst X0 (z := (3 : Int32)) (n := 42) d3_41 rfl rfl ?_
        refine OwnK.iadd X0 (n := 43) d3_42 rfl ?_
        rw [show (((0 : Int32) + (3 : Int32)) : Int32) = (3 : Int32) from by decide]
        refine OwnK.baload X0 (i := 3) (v := (.int (bs.getD 3 0))) (n := 44) d3_43 A0 (own_nat (i := 3) (by omega)) (own_get bs (by omega)) rfl ?_
        refine OwnK.sipush X0 (z := (255 : Int32)) (n := 47) d3_44 rfl rfl ?_
        refine OwnK.iand X0 (n := 48) d3_47 rfl ?_
        refine OwnK.bipush X0 (z := (8 : Int32)) (n := 50) d3_48 rfl rfl ?_
        refine OwnK.ishl X0 (n := 51) d3_50 rfl ?_
        refine OwnK.aloadN X0 (n := 52) d3_51 rfl rfl rfl ?_
        refine OwnK.iload X0 (n := 54) d3_52 rfl rfl ?_
        refine OwnK.iconst X0 (z := (4 : Int32)) (n := 55) d3_54 rfl rfl ?_
        refine OwnK.iadd X0 (n := 56) d3_55 rfl ?_
        rw [show (((0 : Int32) + (4 : Int32)) : Int32) = (4 : Int32) from by decide]
        refine OwnK.baload X0 (i := 4) (v := (.int (bs.getD 4 0))) (n := 57) d3_56 A0 (own_nat (i := 4) (by omega)) (own_get bs (by omega)) rfl ?_
        refine OwnK.sipush X0 (z := (255 : Int32)) (n := 60) d3_57 rfl rfl ?_
        refine OwnK.iand X0 (n := 61) d3_60 rfl ?_
        refine OwnK.ior X0 (n := 62) d3_61 rfl ?_
        rw [show ((((bs.getD 3 0) &&& (255 : Int32)) <<< ((8 : Int32) &&& 31)) ||| ((bs.getD 4 0) &&& (255 : Int32))) = Int32.ofNat F1 from w3]
        refine OwnK.istore X0 (l' := #[.val (.ref r0), .val (.int (Int32.ofNat N)), .val (.int (0 : Int32)), .val (.int (0 : Int32)), .val (.int (0 : Int32)), .val (.int (Int32.ofNat F1)), .unset, .unset, .unset]) (n := 64) d3_62 rfl rfl ?_
        refine OwnK.iload X0 (n := 66) d3_64 rfl rfl ?_
        refine OwnK.if_eq X0  (n1 := 77) (n2 := 69) d3_66 (by decide) rfl rfl (fun hc66 => ?_) (fun hc66 => ?_)
        · have kk6 : F1 = 0 := (own_eqn (i := F1) (n := 0) (by omega) (by omega)).mp hc66
          refine OwnK.getstatic X0 (n := 80) d3_77 (hw _ (List.mem_of_getElem? (i := 28) rfl)) Via.refl (S_OTHER.ext O0.2) rfl ?_
          intro T7 X7
          exact OwnK.areturn X7 rfl rfl rfl d3_80 ⟨congrArg Value.ref (own_ex4 (by first | assumption | omega) (by first | assumption | omega) (by first | assumption | omega) (by first | assumption | omega)).symm, rfl⟩ (by decide) (by decide)
        · have kk8 : ¬ F1 = 0 := fun q => hc66 ((own_eqn (i := F1) (n := 0) (by omega) (by omega)).mpr q)
          refine OwnK.iload X0 (n := 71) d3_69 rfl rfl ?_
          refine OwnK.sipush X0 (z := (16384 : Int32)) (n := 74) d3_71 rfl rfl ?_
          refine OwnK.ic_le X0  (n1 := 81) (n2 := 77) d3_74 (by decide) rfl rfl (fun hc74 => ?_) (fun hc74 => ?_)
          · have kk9 : ¬ 16384 < F1 := fun q => hc74 ((own_lt (i := 16384) (n := F1) (by omega) (by omega)).mpr q)
            refine OwnK.iload X0 (n := 83) d3_81 rfl rfl ?_
            refine OwnK.iconst X0 (z := (5 : Int32)) (n := 84) d3_83 rfl rfl ?_
            refine OwnK.iadd X0 (n := 85) d3_84 rfl ?_
            rw [show (((0 : Int32) + (5 : Int32)) : Int32) = (5 : Int32) from by decide]
            refine OwnK.istore X0 (l' := #[.val (.ref r0), .val (.int (Int32.ofNat N)), .val (.int (0 : Int32)), .val (.int (0 : Int32)), .val (.int (0 : Int32)), .val (.int (Int32.ofNat F1)), .val (.int (5 : Int32)), .unset, .unset]) (n := 87) d3_85 rfl rfl ?_
            refine OwnK.iload X0 (n := 89) d3_87 rfl rfl ?_
            refine OwnK.iload X0 (n := 91) d3_89 rfl rfl ?_
            refine OwnK.iadd X0 (n := 92) d3_91 rfl ?_
            rw [show (((5 : Int32) + (Int32.ofNat F1)) : Int32) = (Int32.ofNat (5 + F1)) from own_add 5 F1]
            refine OwnK.iloadN X0 (n := 93) d3_92 rfl rfl ?_
            refine OwnK.call_static_v X0 (z := (⟨"java/lang/Math", "min", "(II)I"⟩ : MethodName)) (n := 96) d3_93 (hw _ (List.mem_of_getElem? (i := 31) rfl)) (hw _ (List.mem_of_getElem? (i := 32) rfl)) (hw _ (List.mem_of_getElem? (i := 34) rfl)) (hw _ (List.mem_of_getElem? (i := 33) rfl)) (by decide) (rm5 l Z a0 hw [] h0 n0 (5 + F1) N (by omega) (by omega)) (argsL := [(.int (Int32.ofNat (5 + F1))), (.int (Int32.ofNat N))]) (rest := []) rfl rfl (OwnK.lenA pd__II_I rfl) (W := 0) (Nat.le_of_eq rfl) (by decide) (by decide) (by decide) (by decide) rfl ?_
            intro T10 h10 w10 X10 ⟨q1, q2⟩
            subst q1 q2
            refine OwnK.istore X10 (l' := #[.val (.ref r0), .val (.int (Int32.ofNat N)), .val (.int (0 : Int32)), .val (.int (0 : Int32)), .val (.int (0 : Int32)), .val (.int (Int32.ofNat F1)), .val (.int (5 : Int32)), .val (.int (Int32.ofNat (min (5 + F1) N))), .unset]) (n := 98) d3_96 rfl rfl ?_
            refine OwnK.iload X10 (n := 100) d3_98 rfl rfl ?_
            refine OwnK.istore X10 (l' := #[.val (.ref r0), .val (.int (Int32.ofNat N)), .val (.int (0 : Int32)), .val (.int (0 : Int32)), .val (.int (0 : Int32)), .val (.int (Int32.ofNat F1)), .val (.int (5 : Int32)), .val (.int (Int32.ofNat (min (5 + F1) N))), .val (.int (5 : Int32))]) (n := 102) d3_100 rfl rfl ?_
            refine OwnK.joinT X10 (fun (x : Int32 × Int32) => match x with | (dd1, ii1) => dd1 = own_acc m1 m2 m3 ((min (5 + F1) N) - 5) ∧ (1 ≤ ((min (5 + F1) N) - 5) → T = 1)) (fun (x : Int32 × Int32) => match x with | (dd1, ii1) => mkF m 162 #[.val (.ref r0), .val (.int (Int32.ofNat N)), .val (.int (0 : Int32)), .val (.int dd1), .val (.int (0 : Int32)), .val (.int (Int32.ofNat F1)), .val (.int (5 : Int32)), .val (.int (Int32.ofNat (min (5 + F1) N))), .val (.int ii1)] []) ?_ ?_
            · intro T11 ⟨dd1, ii1⟩ X11 hj162
              obtain ⟨hd1, ht1⟩ := hj162
              refine OwnK.iloadN X11 (n := 163) d3_162 rfl rfl ?_
              refine OwnK.iload X11 (n := 165) d3_163 rfl rfl ?_
              refine OwnK.iload X11 (n := 167) d3_165 rfl rfl ?_
              refine OwnK.isub X11 (n := 168) d3_167 rfl ?_
              rw [show (((Int32.ofNat (min (5 + F1) N)) - (5 : Int32)) : Int32) = (Int32.ofNat ((min (5 + F1) N) - 5)) from own_sub (min (5 + F1) N) 5 (by omega) (by omega)]
              refine OwnK.iadd X11 (n := 169) d3_168 rfl ?_
              rw [show (((0 : Int32) + (Int32.ofNat ((min (5 + F1) N) - 5))) : Int32) = (Int32.ofNat ((min (5 + F1) N) - 5)) from (own_add 0 ((min (5 + F1) N) - 5)).trans (congrArg Int32.ofNat (Nat.zero_add _))]
              refine OwnK.istoreN X11 (l' := #[.val (.ref r0), .val (.int (Int32.ofNat N)), .val (.int (Int32.ofNat ((min (5 + F1) N) - 5))), .val (.int dd1), .val (.int (0 : Int32)), .val (.int (Int32.ofNat F1)), .val (.int (5 : Int32)), .val (.int (Int32.ofNat (min (5 + F1) N))), .val (.int ii1)]) (n := 170) d3_169 rfl rfl ?_
              refine OwnK.iload X11 (n := 172) d3_170 rfl rfl ?_
              refine OwnK.iload X11 (n := 174) d3_172 rfl rfl ?_
              refine OwnK.iadd X11 (n := 175) d3_174 rfl ?_
              rw [show (((5 : Int32) + (Int32.ofNat F1)) : Int32) = (Int32.ofNat (5 + F1)) from own_add 5 F1]
              refine OwnK.istore X11 (l' := #[.val (.ref r0), .val (.int (Int32.ofNat N)), .val (.int (Int32.ofNat ((min (5 + F1) N) - 5))), .val (.int dd1), .val (.int (Int32.ofNat (5 + F1))), .val (.int (Int32.ofNat F1)), .val (.int (5 : Int32)), .val (.int (Int32.ofNat (min (5 + F1) N))), .val (.int ii1)]) (n := 177) d3_175 rfl rfl ?_
              refine OwnK.goto X11 (n := 7) d3_177 (by decide) rfl ?_
              refine OwnK.iload X11 (n := 9) d3_7 rfl rfl ?_
              refine OwnK.iloadN X11 (n := 10) d3_9 rfl rfl ?_
              refine OwnK.ic_ge X11  (n1 := 180) (n2 := 13) d3_10 (by decide) rfl rfl (fun hc10_12 => ?_) (fun hc10_12 => ?_)
              · have kk13 : ¬ (5 + F1) < N := fun q => hc10_12 ((own_lt (i := (5 + F1)) (n := N) (by omega) (by omega)).mpr q)
                refine OwnK.iloadN X11 (n := 181) d3_180 rfl rfl ?_
                refine OwnK.iconst X11 (z := (4 : Int32)) (n := 182) d3_181 rfl rfl ?_
                refine OwnK.ic_lt X11  (n1 := 198) (n2 := 185) d3_182 (by decide) rfl rfl (fun hc182 => ?_) (fun hc182 => ?_)
                · have kk14 : ((min (5 + F1) N) - 5) < 4 := (own_lt (i := ((min (5 + F1) N) - 5)) (n := 4) (by omega) (by omega)).mp hc182
                  refine OwnK.getstatic X11 (n := 201) d3_198 (hw _ (List.mem_of_getElem? (i := 20) rfl)) Via.refl (S_PARTIAL.ext O0.2) rfl ?_
                  intro T15 X15
                  exact OwnK.areturn X15 rfl rfl rfl d3_201 ⟨congrArg Value.ref (own_ex14 (by first | assumption | omega) (by first | assumption | omega) (by first | assumption | omega) (by first | assumption | omega) (by first | assumption | omega) (by first | assumption | omega) (by first | assumption | omega) (by first | assumption | omega)).symm, rfl⟩ (by decide) (by decide)
                · have kk16 : ¬ ((min (5 + F1) N) - 5) < 4 := fun q => hc182 ((own_lt (i := ((min (5 + F1) N) - 5)) (n := 4) (by omega) (by omega)).mpr q)
                  rw [show dd1 = Int32.ofNat D from hd1.trans ((own_acc_full (by omega)).trans hA)]
                  refine OwnK.iloadN X11 (n := 186) d3_185 rfl rfl ?_
                  refine OwnK.iconst X11 (z := (4 : Int32)) (n := 187) d3_186 rfl rfl ?_
                  refine OwnK.isub X11 (n := 188) d3_187 rfl ?_
                  rw [show (((Int32.ofNat ((min (5 + F1) N) - 5)) - (4 : Int32)) : Int32) = (Int32.ofNat (((min (5 + F1) N) - 5) - 4)) from own_sub ((min (5 + F1) N) - 5) 4 (by omega) (by omega)]
                  refine OwnK.iloadN X11 (n := 189) d3_188 rfl rfl ?_
                  refine OwnK.ic_lt X11  (n1 := 198) (n2 := 192) d3_189 (by decide) rfl rfl (fun hc189 => ?_) (fun hc189 => ?_)
                  · have kk17 : (((min (5 + F1) N) - 5) - 4) < D := (own_lt (i := (((min (5 + F1) N) - 5) - 4)) (n := D) (by omega) (by omega)).mp hc189
                    refine OwnK.getstatic X11 (n := 201) d3_198 (hw _ (List.mem_of_getElem? (i := 20) rfl)) Via.refl (S_PARTIAL.ext O0.2) rfl ?_
                    intro T18 X18
                    exact OwnK.areturn X18 rfl rfl rfl d3_201 ⟨congrArg Value.ref (own_ex14 (by first | assumption | omega) (by first | assumption | omega) (by first | assumption | omega) (by first | assumption | omega) (by first | assumption | omega) (by first | assumption | omega) (by first | assumption | omega) (by first | assumption | omega)).symm, rfl⟩ (by decide) (by decide)
                  · have kk19 : ¬ (((min (5 + F1) N) - 5) - 4) < D := fun q => hc189 ((own_lt (i := (((min (5 + F1) N) - 5) - 4)) (n := D) (by omega) (by omega)).mpr q)
                    refine OwnK.getstatic X11 (n := 195) d3_192 (hw _ (List.mem_of_getElem? (i := 36) rfl)) Via.refl (S_WHOLE.ext O0.2) rfl ?_
                    intro T20 X20
                    refine OwnK.goto X20 (n := 201) d3_195 (by decide) rfl ?_
                    exact OwnK.areturn X20 rfl rfl rfl d3_201 ⟨congrArg Value.ref (own_ex13 (by first | assumption | omega) (by first | assumption | omega) (by first | assumption | omega) (by first | assumption | omega) (by first | assumption | omega) (by first | assumption | omega) (by first | assumption | omega) (by first | assumption | omega) (by first | assumption | omega)).symm, rfl⟩ (by decide) (by decide)
              · have kk21 : (5 + F1) < N := (own_lt (i := (5 + F1)) (n := N) (by omega) (by omega)).mp hc10_12
                refine OwnK.aloadN X11 (n := 14) d3_13 rfl rfl rfl ?_
                refine OwnK.iload X11 (n := 16) d3_14 rfl rfl ?_
                refine OwnK.baload X11 (i := (5 + F1)) (v := (.int (bs.getD (5 + F1) 0))) (n := 17) d3_16 A0 (own_nat (i := (5 + F1)) (by omega)) (own_get bs (by omega)) rfl ?_
                refine OwnK.bipush X11 (z := (22 : Int32)) (n := 19) d3_17 rfl rfl ?_
                refine OwnK.ic_eq X11  (n1 := 26) (n2 := 22) d3_19 (by decide) rfl rfl (fun hc19_22 => ?_) (fun hc19_22 => ?_)
                · have kk23 : C2 = 22 := (w7 (by omega)).mp hc19_22
                  refine OwnK.iload X11 (n := 28) d3_26 rfl rfl ?_
                  refine OwnK.iconst X11 (z := (5 : Int32)) (n := 29) d3_28 rfl rfl ?_
                  refine OwnK.iadd X11 (n := 30) d3_29 rfl ?_
                  rw [show (((Int32.ofNat (5 + F1)) + (5 : Int32)) : Int32) = (Int32.ofNat ((5 + F1) + 5)) from own_add (5 + F1) 5]
                  refine OwnK.iloadN X11 (n := 31) d3_30 rfl rfl ?_
                  refine OwnK.ic_le X11  (n1 := 38) (n2 := 34) d3_31 (by decide) rfl rfl (fun hc31_24 => ?_) (fun hc31_24 => ?_)
                  · have kk25 : ¬ N < ((5 + F1) + 5) := fun q => hc31_24 ((own_lt (i := N) (n := ((5 + F1) + 5)) (by omega) (by omega)).mpr q)
                    refine OwnK.aloadN X11 (n := 39) d3_38 rfl rfl rfl ?_
                    refine OwnK.iload X11 (n := 41) d3_39 rfl rfl ?_
                    refine OwnK.iconst X11 (z := (3 : Int32)) (n := 42) d3_41 rfl rfl ?_
                    refine OwnK.iadd X11 (n := 43) d3_42 rfl ?_
                    rw [show (((Int32.ofNat (5 + F1)) + (3 : Int32)) : Int32) = (Int32.ofNat ((5 + F1) + 3)) from own_add (5 + F1) 3]
                    refine OwnK.baload X11 (i := ((5 + F1) + 3)) (v := (.int (bs.getD ((5 + F1) + 3) 0))) (n := 44) d3_43 A0 (own_nat (i := ((5 + F1) + 3)) (by omega)) (own_get bs (by omega)) rfl ?_
                    refine OwnK.sipush X11 (z := (255 : Int32)) (n := 47) d3_44 rfl rfl ?_
                    refine OwnK.iand X11 (n := 48) d3_47 rfl ?_
                    refine OwnK.bipush X11 (z := (8 : Int32)) (n := 50) d3_48 rfl rfl ?_
                    refine OwnK.ishl X11 (n := 51) d3_50 rfl ?_
                    refine OwnK.aloadN X11 (n := 52) d3_51 rfl rfl rfl ?_
                    refine OwnK.iload X11 (n := 54) d3_52 rfl rfl ?_
                    refine OwnK.iconst X11 (z := (4 : Int32)) (n := 55) d3_54 rfl rfl ?_
                    refine OwnK.iadd X11 (n := 56) d3_55 rfl ?_
                    rw [show (((Int32.ofNat (5 + F1)) + (4 : Int32)) : Int32) = (Int32.ofNat ((5 + F1) + 4)) from own_add (5 + F1) 4]
                    refine OwnK.baload X11 (i := ((5 + F1) + 4)) (v := (.int (bs.getD ((5 + F1) + 4) 0))) (n := 57) d3_56 A0 (own_nat (i := ((5 + F1) + 4)) (by omega)) (own_get bs (by omega)) rfl ?_
                    refine OwnK.sipush X11 (z := (255 : Int32)) (n := 60) d3_57 rfl rfl ?_
                    refine OwnK.iand X11 (n := 61) d3_60 rfl ?_
                    refine OwnK.ior X11 (n := 62) d3_61 rfl ?_
                    rw [show ((((bs.getD ((5 + F1) + 3) 0) &&& (255 : Int32)) <<< ((8 : Int32) &&& 31)) ||| ((bs.getD ((5 + F1) + 4) 0) &&& (255 : Int32))) = Int32.ofNat F2 from (w8 (by omega))]
                    refine OwnK.istore X11 (l' := #[.val (.ref r0), .val (.int (Int32.ofNat N)), .val (.int (Int32.ofNat ((min (5 + F1) N) - 5))), .val (.int dd1), .val (.int (Int32.ofNat (5 + F1))), .val (.int (Int32.ofNat F2)), .val (.int (5 : Int32)), .val (.int (Int32.ofNat (min (5 + F1) N))), .val (.int ii1)]) (n := 64) d3_62 rfl rfl ?_
                    refine OwnK.iload X11 (n := 66) d3_64 rfl rfl ?_
                    refine OwnK.if_eq X11  (n1 := 77) (n2 := 69) d3_66 (by decide) rfl rfl (fun hc66_26 => ?_) (fun hc66_26 => ?_)
                    · have kk27 : F2 = 0 := (own_eqn (i := F2) (n := 0) (by omega) (by omega)).mp hc66_26
                      refine OwnK.getstatic X11 (n := 80) d3_77 (hw _ (List.mem_of_getElem? (i := 28) rfl)) Via.refl (S_OTHER.ext O0.2) rfl ?_
                      intro T28 X28
                      exact OwnK.areturn X28 rfl rfl rfl d3_80 ⟨congrArg Value.ref (own_ex8 (by first | assumption | omega) (by first | assumption | omega) (by first | assumption | omega) (by first | assumption | omega) (by first | assumption | omega) (by first | assumption | omega) (by first | assumption | omega) (by first | assumption | omega) (by first | assumption | omega) (by first | assumption | omega)).symm, rfl⟩ (by decide) (by decide)
                    · have kk29 : ¬ F2 = 0 := fun q => hc66_26 ((own_eqn (i := F2) (n := 0) (by omega) (by omega)).mpr q)
                      refine OwnK.iload X11 (n := 71) d3_69 rfl rfl ?_
                      refine OwnK.sipush X11 (z := (16384 : Int32)) (n := 74) d3_71 rfl rfl ?_
                      refine OwnK.ic_le X11  (n1 := 81) (n2 := 77) d3_74 (by decide) rfl rfl (fun hc74_30 => ?_) (fun hc74_30 => ?_)
                      · have kk31 : ¬ 16384 < F2 := fun q => hc74_30 ((own_lt (i := 16384) (n := F2) (by omega) (by omega)).mpr q)
                        refine OwnK.iload X11 (n := 83) d3_81 rfl rfl ?_
                        refine OwnK.iconst X11 (z := (5 : Int32)) (n := 84) d3_83 rfl rfl ?_
                        refine OwnK.iadd X11 (n := 85) d3_84 rfl ?_
                        rw [show (((Int32.ofNat (5 + F1)) + (5 : Int32)) : Int32) = (Int32.ofNat ((5 + F1) + 5)) from own_add (5 + F1) 5]
                        refine OwnK.istore X11 (l' := #[.val (.ref r0), .val (.int (Int32.ofNat N)), .val (.int (Int32.ofNat ((min (5 + F1) N) - 5))), .val (.int dd1), .val (.int (Int32.ofNat (5 + F1))), .val (.int (Int32.ofNat F2)), .val (.int (Int32.ofNat ((5 + F1) + 5))), .val (.int (Int32.ofNat (min (5 + F1) N))), .val (.int ii1)]) (n := 87) d3_85 rfl rfl ?_
                        refine OwnK.iload X11 (n := 89) d3_87 rfl rfl ?_
                        refine OwnK.iload X11 (n := 91) d3_89 rfl rfl ?_
                        refine OwnK.iadd X11 (n := 92) d3_91 rfl ?_
                        rw [show (((Int32.ofNat ((5 + F1) + 5)) + (Int32.ofNat F2)) : Int32) = (Int32.ofNat (((5 + F1) + 5) + F2)) from own_add ((5 + F1) + 5) F2]
                        refine OwnK.iloadN X11 (n := 93) d3_92 rfl rfl ?_
                        refine OwnK.call_static_v X11 (z := (⟨"java/lang/Math", "min", "(II)I"⟩ : MethodName)) (n := 96) d3_93 (hw _ (List.mem_of_getElem? (i := 31) rfl)) (hw _ (List.mem_of_getElem? (i := 32) rfl)) (hw _ (List.mem_of_getElem? (i := 34) rfl)) (hw _ (List.mem_of_getElem? (i := 33) rfl)) (by decide) (rm5 l Z a0 hw [] h0 n0 (((5 + F1) + 5) + F2) N (by omega) (by omega)) (argsL := [(.int (Int32.ofNat (((5 + F1) + 5) + F2))), (.int (Int32.ofNat N))]) (rest := []) rfl rfl (OwnK.lenA pd__II_I rfl) (W := 0) (Nat.le_of_eq rfl) (by decide) (by decide) (by decide) (by decide) rfl ?_
                        intro T32 h32 w32 X32 ⟨q1, q2⟩
                        subst q1 q2
                        refine OwnK.istore X32 (l' := #[.val (.ref r0), .val (.int (Int32.ofNat N)), .val (.int (Int32.ofNat ((min (5 + F1) N) - 5))), .val (.int dd1), .val (.int (Int32.ofNat (5 + F1))), .val (.int (Int32.ofNat F2)), .val (.int (Int32.ofNat ((5 + F1) + 5))), .val (.int (Int32.ofNat (min (((5 + F1) + 5) + F2) N))), .val (.int ii1)]) (n := 98) d3_96 rfl rfl ?_
                        refine OwnK.iload X32 (n := 100) d3_98 rfl rfl ?_
                        refine OwnK.istore X32 (l' := #[.val (.ref r0), .val (.int (Int32.ofNat N)), .val (.int (Int32.ofNat ((min (5 + F1) N) - 5))), .val (.int dd1), .val (.int (Int32.ofNat (5 + F1))), .val (.int (Int32.ofNat F2)), .val (.int (Int32.ofNat ((5 + F1) + 5))), .val (.int (Int32.ofNat (min (((5 + F1) + 5) + F2) N))), .val (.int (Int32.ofNat ((5 + F1) + 5)))]) (n := 102) d3_100 rfl rfl ?_
                        refine OwnK.joinT X32 (fun (x : Int32 × Int32) => match x with | (dd2, ii2) => dd2 = own_acc m1 m2 m3 (((min (5 + F1) N) - 5) + ((min (((5 + F1) + 5) + F2) N) - ((5 + F1) + 5)))) (fun (x : Int32 × Int32) => match x with | (dd2, ii2) => mkF m 162 #[.val (.ref r0), .val (.int (Int32.ofNat N)), .val (.int (Int32.ofNat ((min (5 + F1) N) - 5))), .val (.int dd2), .val (.int (Int32.ofNat (5 + F1))), .val (.int (Int32.ofNat F2)), .val (.int (Int32.ofNat ((5 + F1) + 5))), .val (.int (Int32.ofNat (min (((5 + F1) + 5) + F2) N))), .val (.int ii2)] []) ?_ ?_
                        · intro T33 ⟨dd2, ii2⟩ X33 hj162
                          refine OwnK.iloadN X33 (n := 163) d3_162 rfl rfl ?_
                          refine OwnK.iload X33 (n := 165) d3_163 rfl rfl ?_
                          refine OwnK.iload X33 (n := 167) d3_165 rfl rfl ?_
                          refine OwnK.isub X33 (n := 168) d3_167 rfl ?_
                          rw [show (((Int32.ofNat (min (((5 + F1) + 5) + F2) N)) - (Int32.ofNat ((5 + F1) + 5))) : Int32) = (Int32.ofNat ((min (((5 + F1) + 5) + F2) N) - ((5 + F1) + 5))) from own_sub (min (((5 + F1) + 5) + F2) N) ((5 + F1) + 5) (by omega) (by omega)]
                          refine OwnK.iadd X33 (n := 169) d3_168 rfl ?_
                          rw [show (((Int32.ofNat ((min (5 + F1) N) - 5)) + (Int32.ofNat ((min (((5 + F1) + 5) + F2) N) - ((5 + F1) + 5)))) : Int32) = (Int32.ofNat (((min (5 + F1) N) - 5) + ((min (((5 + F1) + 5) + F2) N) - ((5 + F1) + 5)))) from own_add ((min (5 + F1) N) - 5) ((min (((5 + F1) + 5) + F2) N) - ((5 + F1) + 5))]
                          refine OwnK.istoreN X33 (l' := #[.val (.ref r0), .val (.int (Int32.ofNat N)), .val (.int (Int32.ofNat (((min (5 + F1) N) - 5) + ((min (((5 + F1) + 5) + F2) N) - ((5 + F1) + 5))))), .val (.int dd2), .val (.int (Int32.ofNat (5 + F1))), .val (.int (Int32.ofNat F2)), .val (.int (Int32.ofNat ((5 + F1) + 5))), .val (.int (Int32.ofNat (min (((5 + F1) + 5) + F2) N))), .val (.int ii2)]) (n := 170) d3_169 rfl rfl ?_
                          refine OwnK.iload X33 (n := 172) d3_170 rfl rfl ?_
                          refine OwnK.iload X33 (n := 174) d3_172 rfl rfl ?_
                          refine OwnK.iadd X33 (n := 175) d3_174 rfl ?_
                          rw [show (((Int32.ofNat ((5 + F1) + 5)) + (Int32.ofNat F2)) : Int32) = (Int32.ofNat (((5 + F1) + 5) + F2)) from own_add ((5 + F1) + 5) F2]
                          refine OwnK.istore X33 (l' := #[.val (.ref r0), .val (.int (Int32.ofNat N)), .val (.int (Int32.ofNat (((min (5 + F1) N) - 5) + ((min (((5 + F1) + 5) + F2) N) - ((5 + F1) + 5))))), .val (.int dd2), .val (.int (Int32.ofNat (((5 + F1) + 5) + F2))), .val (.int (Int32.ofNat F2)), .val (.int (Int32.ofNat ((5 + F1) + 5))), .val (.int (Int32.ofNat (min (((5 + F1) + 5) + F2) N))), .val (.int ii2)]) (n := 177) d3_175 rfl rfl ?_
                          refine OwnK.goto X33 (n := 7) d3_177 (by decide) rfl ?_
                          refine OwnK.iload X33 (n := 9) d3_7 rfl rfl ?_
                          refine OwnK.iloadN X33 (n := 10) d3_9 rfl rfl ?_
                          refine OwnK.ic_ge X33  (n1 := 180) (n2 := 13) d3_10 (by decide) rfl rfl (fun hc10_34 => ?_) (fun hc10_34 => ?_)
                          · have kk35 : ¬ (((5 + F1) + 5) + F2) < N := fun q => hc10_34 ((own_lt (i := (((5 + F1) + 5) + F2)) (n := N) (by omega) (by omega)).mpr q)
                            refine OwnK.iloadN X33 (n := 181) d3_180 rfl rfl ?_
                            refine OwnK.iconst X33 (z := (4 : Int32)) (n := 182) d3_181 rfl rfl ?_
                            refine OwnK.ic_lt X33  (n1 := 198) (n2 := 185) d3_182 (by decide) rfl rfl (fun hc182 => ?_) (fun hc182 => ?_)
                            · have kk36 : (((min (5 + F1) N) - 5) + ((min (((5 + F1) + 5) + F2) N) - ((5 + F1) + 5))) < 4 := (own_lt (i := (((min (5 + F1) N) - 5) + ((min (((5 + F1) + 5) + F2) N) - ((5 + F1) + 5)))) (n := 4) (by omega) (by omega)).mp hc182
                              refine OwnK.getstatic X33 (n := 201) d3_198 (hw _ (List.mem_of_getElem? (i := 20) rfl)) Via.refl (S_PARTIAL.ext O0.2) rfl ?_
                              intro T37 X37
                              exact OwnK.areturn X37 rfl rfl rfl d3_201 ⟨congrArg Value.ref (own_ex12 (by first | assumption | omega) (by first | assumption | omega) (by first | assumption | omega) (by first | assumption | omega) (by first | assumption | omega) (by first | assumption | omega) (by first | assumption | omega) (by first | assumption | omega) (by first | assumption | omega) (by first | assumption | omega) (by first | assumption | omega) (by first | assumption | omega) (by first | assumption | omega)).symm, rfl⟩ (by decide) (by decide)
                            · have kk38 : ¬ (((min (5 + F1) N) - 5) + ((min (((5 + F1) + 5) + F2) N) - ((5 + F1) + 5))) < 4 := fun q => hc182 ((own_lt (i := (((min (5 + F1) N) - 5) + ((min (((5 + F1) + 5) + F2) N) - ((5 + F1) + 5)))) (n := 4) (by omega) (by omega)).mpr q)
                              rw [show dd2 = Int32.ofNat D from hj162.trans ((own_acc_full (by omega)).trans hA)]
                              refine OwnK.iloadN X33 (n := 186) d3_185 rfl rfl ?_
                              refine OwnK.iconst X33 (z := (4 : Int32)) (n := 187) d3_186 rfl rfl ?_
                              refine OwnK.isub X33 (n := 188) d3_187 rfl ?_
                              rw [show (((Int32.ofNat (((min (5 + F1) N) - 5) + ((min (((5 + F1) + 5) + F2) N) - ((5 + F1) + 5)))) - (4 : Int32)) : Int32) = (Int32.ofNat ((((min (5 + F1) N) - 5) + ((min (((5 + F1) + 5) + F2) N) - ((5 + F1) + 5))) - 4)) from own_sub (((min (5 + F1) N) - 5) + ((min (((5 + F1) + 5) + F2) N) - ((5 + F1) + 5))) 4 (by omega) (by omega)]
                              refine OwnK.iloadN X33 (n := 189) d3_188 rfl rfl ?_
                              refine OwnK.ic_lt X33  (n1 := 198) (n2 := 192) d3_189 (by decide) rfl rfl (fun hc189 => ?_) (fun hc189 => ?_)
                              · have kk39 : ((((min (5 + F1) N) - 5) + ((min (((5 + F1) + 5) + F2) N) - ((5 + F1) + 5))) - 4) < D := (own_lt (i := ((((min (5 + F1) N) - 5) + ((min (((5 + F1) + 5) + F2) N) - ((5 + F1) + 5))) - 4)) (n := D) (by omega) (by omega)).mp hc189
                                refine OwnK.getstatic X33 (n := 201) d3_198 (hw _ (List.mem_of_getElem? (i := 20) rfl)) Via.refl (S_PARTIAL.ext O0.2) rfl ?_
                                intro T40 X40
                                exact OwnK.areturn X40 rfl rfl rfl d3_201 ⟨congrArg Value.ref (own_ex12 (by first | assumption | omega) (by first | assumption | omega) (by first | assumption | omega) (by first | assumption | omega) (by first | assumption | omega) (by first | assumption | omega) (by first | assumption | omega) (by first | assumption | omega) (by first | assumption | omega) (by first | assumption | omega) (by first | assumption | omega) (by first | assumption | omega) (by first | assumption | omega)).symm, rfl⟩ (by decide) (by decide)
                              · have kk41 : ¬ ((((min (5 + F1) N) - 5) + ((min (((5 + F1) + 5) + F2) N) - ((5 + F1) + 5))) - 4) < D := fun q => hc189 ((own_lt (i := ((((min (5 + F1) N) - 5) + ((min (((5 + F1) + 5) + F2) N) - ((5 + F1) + 5))) - 4)) (n := D) (by omega) (by omega)).mpr q)
                                refine OwnK.getstatic X33 (n := 195) d3_192 (hw _ (List.mem_of_getElem? (i := 36) rfl)) Via.refl (S_WHOLE.ext O0.2) rfl ?_
                                intro T42 X42
                                refine OwnK.goto X42 (n := 201) d3_195 (by decide) rfl ?_
                                exact OwnK.areturn X42 rfl rfl rfl d3_201 ⟨congrArg Value.ref (own_ex11 (by first | assumption | omega) (by first | assumption | omega) (by first | assumption | omega) (by first | assumption | omega) (by first | assumption | omega) (by first | assumption | omega) (by first | assumption | omega) (by first | assumption | omega) (by first | assumption | omega) (by first | assumption | omega) (by first | assumption | omega) (by first | assumption | omega) (by first | assumption | omega) (by first | assumption | omega)).symm, rfl⟩ (by decide) (by decide)
                          · have kk43 : (((5 + F1) + 5) + F2) < N := (own_lt (i := (((5 + F1) + 5) + F2)) (n := N) (by omega) (by omega)).mp hc10_34
                            refine OwnK.aloadN X33 (n := 14) d3_13 rfl rfl rfl ?_
                            refine OwnK.iload X33 (n := 16) d3_14 rfl rfl ?_
                            refine OwnK.baload X33 (i := (((5 + F1) + 5) + F2)) (v := (.int (bs.getD (((5 + F1) + 5) + F2) 0))) (n := 17) d3_16 A0 (own_nat (i := (((5 + F1) + 5) + F2)) (by omega)) (own_get bs (by omega)) rfl ?_
                            refine OwnK.bipush X33 (z := (22 : Int32)) (n := 19) d3_17 rfl rfl ?_
                            refine OwnK.ic_eq X33  (n1 := 26) (n2 := 22) d3_19 (by decide) rfl rfl (fun hc19_44 => ?_) (fun hc19_44 => ?_)
                            · have kk45 : C3 = 22 := (w9 (by omega)).mp hc19_44
                              refine OwnK.iload X33 (n := 28) d3_26 rfl rfl ?_
                              refine OwnK.iconst X33 (z := (5 : Int32)) (n := 29) d3_28 rfl rfl ?_
                              refine OwnK.iadd X33 (n := 30) d3_29 rfl ?_
                              rw [show (((Int32.ofNat (((5 + F1) + 5) + F2)) + (5 : Int32)) : Int32) = (Int32.ofNat ((((5 + F1) + 5) + F2) + 5)) from own_add (((5 + F1) + 5) + F2) 5]
                              refine OwnK.iloadN X33 (n := 31) d3_30 rfl rfl ?_
                              refine OwnK.ic_le X33  (n1 := 38) (n2 := 34) d3_31 (by decide) rfl rfl (fun q => absurd (((own_lt (i := N) (n := ((((5 + F1) + 5) + F2) + 5)) (by omega) (by omega)).mpr (by omega)) : (Int32.ofNat N) < (Int32.ofNat ((((5 + F1) + 5) + F2) + 5))) q) (fun _ => ?_)
                              refine OwnK.getstatic X33 (n := 37) d3_34 (hw _ (List.mem_of_getElem? (i := 20) rfl)) Via.refl (S_PARTIAL.ext O0.2) rfl ?_
                              intro T47 X47
                              exact OwnK.areturn X47 rfl rfl rfl d3_37 ⟨congrArg Value.ref (own_ex9 (by first | assumption | omega) (by first | assumption | omega) (by first | assumption | omega) (by first | assumption | omega) (by first | assumption | omega) (by first | assumption | omega) (by first | assumption | omega) (by first | assumption | omega) (by first | assumption | omega) (by first | assumption | omega) (by first | assumption | omega) (by first | assumption | omega) (by first | assumption | omega)).symm, rfl⟩ (by decide) (by decide)
                            · have kk48 : ¬ C3 = 22 := fun q => hc19_44 ((w9 (by omega)).mpr q)
                              refine OwnK.getstatic X33 (n := 25) d3_22 (hw _ (List.mem_of_getElem? (i := 28) rfl)) Via.refl (S_OTHER.ext O0.2) rfl ?_
                              intro T49 X49
                              exact OwnK.areturn X49 rfl rfl rfl d3_25 ⟨congrArg Value.ref (own_ex10 (by first | assumption | omega) (by first | assumption | omega) (by first | assumption | omega) (by first | assumption | omega) (by first | assumption | omega) (by first | assumption | omega) (by first | assumption | omega) (by first | assumption | omega) (by first | assumption | omega) (by first | assumption | omega) (by first | assumption | omega) (by first | assumption | omega) (by first | assumption | omega)).symm, rfl⟩ (by decide) (by decide)
                        · intro J33
                          refine OwnK.iload X32 (n := 104) d3_102 rfl rfl ?_
                          rcases (by omega : F1 = 1 ∨ F1 = 2 ∨ F1 = 3 ∨ 4 ≤ F1) with hF | hF | hF | hF
                          · rw [show dd1 = own_acc m1 m2 m3 1 from hd1.trans (congrArg _ (by omega))]
                            refine OwnK.iload X32 (n := 106) d3_104 rfl rfl ?_
                            refine OwnK.ic_ge X32  (n1 := 162) (n2 := 109) d3_106 (by decide) rfl rfl (fun hc106 => ?_) (fun hc106 => ?_)
                            · have kk50 : ¬ ((5 + F1) + 5) < (min (((5 + F1) + 5) + F2) N) := fun q => hc106 ((own_lt (i := ((5 + F1) + 5)) (n := (min (((5 + F1) + 5) + F2) N)) (by omega) (by omega)).mpr q)
                              exact J33 _ ((own_acc m1 m2 m3 1), (Int32.ofNat ((5 + F1) + 5))) X32 (congrArg (own_acc m1 m2 m3) (by omega))
                            · have kk51 : ((5 + F1) + 5) < (min (((5 + F1) + 5) + F2) N) := (own_lt (i := ((5 + F1) + 5)) (n := (min (((5 + F1) + 5) + F2) N)) (by omega) (by omega)).mp hc106
                              refine OwnK.iloadN X32 (n := 110) d3_109 rfl rfl ?_
                              refine OwnK.iload X32 (n := 112) d3_110 rfl rfl ?_
                              refine OwnK.iadd X32 (n := 113) d3_112 rfl ?_
                              rw [show (((Int32.ofNat ((min (5 + F1) N) - 5)) + (Int32.ofNat ((5 + F1) + 5))) : Int32) = (Int32.ofNat (((min (5 + F1) N) - 5) + ((5 + F1) + 5))) from own_add ((min (5 + F1) N) - 5) ((5 + F1) + 5)]
                              refine OwnK.iload X32 (n := 115) d3_113 rfl rfl ?_
                              refine OwnK.isub X32 (n := 116) d3_115 rfl ?_
                              rw [show (((Int32.ofNat (((min (5 + F1) N) - 5) + ((5 + F1) + 5))) - (Int32.ofNat ((5 + F1) + 5))) : Int32) = (Int32.ofNat ((((min (5 + F1) N) - 5) + ((5 + F1) + 5)) - ((5 + F1) + 5))) from own_sub (((min (5 + F1) N) - 5) + ((5 + F1) + 5)) ((5 + F1) + 5) (by omega) (by omega)]
                              refine OwnK.iconst X32 (z := (4 : Int32)) (n := 117) d3_116 rfl rfl ?_
                              refine OwnK.ic_ge X32  (n1 := 162) (n2 := 120) d3_117 (by decide) rfl rfl (fun q => absurd (((own_lt (i := ((((min (5 + F1) N) - 5) + ((5 + F1) + 5)) - ((5 + F1) + 5))) (n := 4) (by omega) (by omega)).mpr (by omega)) : (Int32.ofNat ((((min (5 + F1) N) - 5) + ((5 + F1) + 5)) - ((5 + F1) + 5))) < (4 : Int32)) q) (fun _ => ?_)
                              refine OwnK.iloadN X32 (n := 121) d3_120 rfl rfl ?_
                              refine OwnK.iload X32 (n := 123) d3_121 rfl rfl ?_
                              refine OwnK.iadd X32 (n := 124) d3_123 rfl ?_
                              rw [show (((Int32.ofNat ((min (5 + F1) N) - 5)) + (Int32.ofNat ((5 + F1) + 5))) : Int32) = (Int32.ofNat (((min (5 + F1) N) - 5) + ((5 + F1) + 5))) from own_add ((min (5 + F1) N) - 5) ((5 + F1) + 5)]
                              refine OwnK.iload X32 (n := 126) d3_124 rfl rfl ?_
                              refine OwnK.isub X32 (n := 127) d3_126 rfl ?_
                              rw [show (((Int32.ofNat (((min (5 + F1) N) - 5) + ((5 + F1) + 5))) - (Int32.ofNat ((5 + F1) + 5))) : Int32) = (Int32.ofNat ((((min (5 + F1) N) - 5) + ((5 + F1) + 5)) - ((5 + F1) + 5))) from own_sub (((min (5 + F1) N) - 5) + ((5 + F1) + 5)) ((5 + F1) + 5) (by omega) (by omega)]
                              refine OwnK.if_ne X32  (n1 := 142) (n2 := 130) d3_127 (by decide) rfl rfl (fun _ => ?_) (fun q => absurd q ((fun q => by have z := (own_eqn (i := ((((min (5 + F1) N) - 5) + ((5 + F1) + 5)) - ((5 + F1) + 5))) (n := 0) (by omega) (by omega)).mp q; omega) : ¬ (Int32.ofNat ((((min (5 + F1) N) - 5) + ((5 + F1) + 5)) - ((5 + F1) + 5))) = 0))
                              refine OwnK.iloadN X32 (n := 143) d3_142 rfl rfl ?_
                              refine OwnK.bipush X32 (z := (8 : Int32)) (n := 145) d3_143 rfl rfl ?_
                              refine OwnK.ishl X32 (n := 146) d3_145 rfl ?_
                              refine OwnK.aloadN X32 (n := 147) d3_146 rfl rfl rfl ?_
                              refine OwnK.iload X32 (n := 149) d3_147 rfl rfl ?_
                              refine OwnK.baload X32 (i := ((5 + F1) + 5)) (v := (.int (bs.getD ((5 + F1) + 5) 0))) (n := 150) d3_149 A0 (own_nat (i := ((5 + F1) + 5)) (by omega)) (own_get bs (by omega)) rfl ?_
                              refine OwnK.sipush X32 (z := (255 : Int32)) (n := 153) d3_150 rfl rfl ?_
                              refine OwnK.iand X32 (n := 154) d3_153 rfl ?_
                              refine OwnK.ior X32 (n := 155) d3_154 rfl ?_
                              rw [show (((own_acc m1 m2 m3 1) <<< ((8 : Int32) &&& 31)) ||| ((bs.getD ((5 + F1) + 5) 0) &&& (255 : Int32))) = own_acc m1 m2 m3 2 from by rw [show bs.getD ((5 + F1) + 5) 0 &&& 255 = own_m m1 m2 m3 1 from (by have q := w6 1 (by omega) (by omega) (by omega) (by omega); rwa [show 10 + 1 = ((5 + F1) + 5) from by omega] at q)]; rfl]
                              refine OwnK.istoreN X32 (l' := #[.val (.ref r0), .val (.int (Int32.ofNat N)), .val (.int (Int32.ofNat ((min (5 + F1) N) - 5))), .val (.int (own_acc m1 m2 m3 2)), .val (.int (Int32.ofNat (5 + F1))), .val (.int (Int32.ofNat F2)), .val (.int (Int32.ofNat ((5 + F1) + 5))), .val (.int (Int32.ofNat (min (((5 + F1) + 5) + F2) N))), .val (.int (Int32.ofNat ((5 + F1) + 5)))]) (n := 156) d3_155 rfl rfl ?_
                              refine OwnK.iinc X32 (z := (1 : Int32)) (l' := #[.val (.ref r0), .val (.int (Int32.ofNat N)), .val (.int (Int32.ofNat ((min (5 + F1) N) - 5))), .val (.int (own_acc m1 m2 m3 2)), .val (.int (Int32.ofNat (5 + F1))), .val (.int (Int32.ofNat F2)), .val (.int (Int32.ofNat ((5 + F1) + 5))), .val (.int (Int32.ofNat (min (((5 + F1) + 5) + F2) N))), .val (.int ((Int32.ofNat ((5 + F1) + 5)) + (1 : Int32)))]) (n := 159) d3_156 rfl rfl rfl rfl ?_
                              rw [show (((Int32.ofNat ((5 + F1) + 5)) + (1 : Int32)) : Int32) = (Int32.ofNat (((5 + F1) + 5) + 1)) from own_add ((5 + F1) + 5) 1]
                              refine OwnK.goto X32 (n := 102) d3_159 (by decide) rfl ?_
                              refine OwnK.iload X32 (n := 104) d3_102 rfl rfl ?_
                              refine OwnK.iload X32 (n := 106) d3_104 rfl rfl ?_
                              refine OwnK.ic_ge X32  (n1 := 162) (n2 := 109) d3_106 (by decide) rfl rfl (fun hc106_52 => ?_) (fun hc106_52 => ?_)
                              · have kk53 : ¬ (((5 + F1) + 5) + 1) < (min (((5 + F1) + 5) + F2) N) := fun q => hc106_52 ((own_lt (i := (((5 + F1) + 5) + 1)) (n := (min (((5 + F1) + 5) + F2) N)) (by omega) (by omega)).mpr q)
                                exact J33 _ ((own_acc m1 m2 m3 2), (Int32.ofNat (((5 + F1) + 5) + 1))) X32 (congrArg (own_acc m1 m2 m3) (by omega))
                              · have kk54 : (((5 + F1) + 5) + 1) < (min (((5 + F1) + 5) + F2) N) := (own_lt (i := (((5 + F1) + 5) + 1)) (n := (min (((5 + F1) + 5) + F2) N)) (by omega) (by omega)).mp hc106_52
                                refine OwnK.iloadN X32 (n := 110) d3_109 rfl rfl ?_
                                refine OwnK.iload X32 (n := 112) d3_110 rfl rfl ?_
                                refine OwnK.iadd X32 (n := 113) d3_112 rfl ?_
                                rw [show (((Int32.ofNat ((min (5 + F1) N) - 5)) + (Int32.ofNat (((5 + F1) + 5) + 1))) : Int32) = (Int32.ofNat (((min (5 + F1) N) - 5) + (((5 + F1) + 5) + 1))) from own_add ((min (5 + F1) N) - 5) (((5 + F1) + 5) + 1)]
                                refine OwnK.iload X32 (n := 115) d3_113 rfl rfl ?_
                                refine OwnK.isub X32 (n := 116) d3_115 rfl ?_
                                rw [show (((Int32.ofNat (((min (5 + F1) N) - 5) + (((5 + F1) + 5) + 1))) - (Int32.ofNat ((5 + F1) + 5))) : Int32) = (Int32.ofNat ((((min (5 + F1) N) - 5) + (((5 + F1) + 5) + 1)) - ((5 + F1) + 5))) from own_sub (((min (5 + F1) N) - 5) + (((5 + F1) + 5) + 1)) ((5 + F1) + 5) (by omega) (by omega)]
                                refine OwnK.iconst X32 (z := (4 : Int32)) (n := 117) d3_116 rfl rfl ?_
                                refine OwnK.ic_ge X32  (n1 := 162) (n2 := 120) d3_117 (by decide) rfl rfl (fun q => absurd (((own_lt (i := ((((min (5 + F1) N) - 5) + (((5 + F1) + 5) + 1)) - ((5 + F1) + 5))) (n := 4) (by omega) (by omega)).mpr (by omega)) : (Int32.ofNat ((((min (5 + F1) N) - 5) + (((5 + F1) + 5) + 1)) - ((5 + F1) + 5))) < (4 : Int32)) q) (fun _ => ?_)
                                refine OwnK.iloadN X32 (n := 121) d3_120 rfl rfl ?_
                                refine OwnK.iload X32 (n := 123) d3_121 rfl rfl ?_
                                refine OwnK.iadd X32 (n := 124) d3_123 rfl ?_
                                rw [show (((Int32.ofNat ((min (5 + F1) N) - 5)) + (Int32.ofNat (((5 + F1) + 5) + 1))) : Int32) = (Int32.ofNat (((min (5 + F1) N) - 5) + (((5 + F1) + 5) + 1))) from own_add ((min (5 + F1) N) - 5) (((5 + F1) + 5) + 1)]
                                refine OwnK.iload X32 (n := 126) d3_124 rfl rfl ?_
                                refine OwnK.isub X32 (n := 127) d3_126 rfl ?_
                                rw [show (((Int32.ofNat (((min (5 + F1) N) - 5) + (((5 + F1) + 5) + 1))) - (Int32.ofNat ((5 + F1) + 5))) : Int32) = (Int32.ofNat ((((min (5 + F1) N) - 5) + (((5 + F1) + 5) + 1)) - ((5 + F1) + 5))) from own_sub (((min (5 + F1) N) - 5) + (((5 + F1) + 5) + 1)) ((5 + F1) + 5) (by omega) (by omega)]
                                refine OwnK.if_ne X32  (n1 := 142) (n2 := 130) d3_127 (by decide) rfl rfl (fun _ => ?_) (fun q => absurd q ((fun q => by have z := (own_eqn (i := ((((min (5 + F1) N) - 5) + (((5 + F1) + 5) + 1)) - ((5 + F1) + 5))) (n := 0) (by omega) (by omega)).mp q; omega) : ¬ (Int32.ofNat ((((min (5 + F1) N) - 5) + (((5 + F1) + 5) + 1)) - ((5 + F1) + 5))) = 0))
                                refine OwnK.iloadN X32 (n := 143) d3_142 rfl rfl ?_
                                refine OwnK.bipush X32 (z := (8 : Int32)) (n := 145) d3_143 rfl rfl ?_
                                refine OwnK.ishl X32 (n := 146) d3_145 rfl ?_
                                refine OwnK.aloadN X32 (n := 147) d3_146 rfl rfl rfl ?_
                                refine OwnK.iload X32 (n := 149) d3_147 rfl rfl ?_
                                refine OwnK.baload X32 (i := (((5 + F1) + 5) + 1)) (v := (.int (bs.getD (((5 + F1) + 5) + 1) 0))) (n := 150) d3_149 A0 (own_nat (i := (((5 + F1) + 5) + 1)) (by omega)) (own_get bs (by omega)) rfl ?_
                                refine OwnK.sipush X32 (z := (255 : Int32)) (n := 153) d3_150 rfl rfl ?_
                                refine OwnK.iand X32 (n := 154) d3_153 rfl ?_
                                refine OwnK.ior X32 (n := 155) d3_154 rfl ?_
                                rw [show (((own_acc m1 m2 m3 2) <<< ((8 : Int32) &&& 31)) ||| ((bs.getD (((5 + F1) + 5) + 1) 0) &&& (255 : Int32))) = own_acc m1 m2 m3 3 from by rw [show bs.getD (((5 + F1) + 5) + 1) 0 &&& 255 = own_m m1 m2 m3 2 from (by have q := w6 2 (by omega) (by omega) (by omega) (by omega); rwa [show 10 + 2 = (((5 + F1) + 5) + 1) from by omega] at q)]; rfl]
                                refine OwnK.istoreN X32 (l' := #[.val (.ref r0), .val (.int (Int32.ofNat N)), .val (.int (Int32.ofNat ((min (5 + F1) N) - 5))), .val (.int (own_acc m1 m2 m3 3)), .val (.int (Int32.ofNat (5 + F1))), .val (.int (Int32.ofNat F2)), .val (.int (Int32.ofNat ((5 + F1) + 5))), .val (.int (Int32.ofNat (min (((5 + F1) + 5) + F2) N))), .val (.int (Int32.ofNat (((5 + F1) + 5) + 1)))]) (n := 156) d3_155 rfl rfl ?_
                                refine OwnK.iinc X32 (z := (1 : Int32)) (l' := #[.val (.ref r0), .val (.int (Int32.ofNat N)), .val (.int (Int32.ofNat ((min (5 + F1) N) - 5))), .val (.int (own_acc m1 m2 m3 3)), .val (.int (Int32.ofNat (5 + F1))), .val (.int (Int32.ofNat F2)), .val (.int (Int32.ofNat ((5 + F1) + 5))), .val (.int (Int32.ofNat (min (((5 + F1) + 5) + F2) N))), .val (.int ((Int32.ofNat (((5 + F1) + 5) + 1)) + (1 : Int32)))]) (n := 159) d3_156 rfl rfl rfl rfl ?_
                                rw [show (((Int32.ofNat (((5 + F1) + 5) + 1)) + (1 : Int32)) : Int32) = (Int32.ofNat ((((5 + F1) + 5) + 1) + 1)) from own_add (((5 + F1) + 5) + 1) 1]
                                refine OwnK.goto X32 (n := 102) d3_159 (by decide) rfl ?_
                                refine OwnK.iload X32 (n := 104) d3_102 rfl rfl ?_
                                refine OwnK.iload X32 (n := 106) d3_104 rfl rfl ?_
                                refine OwnK.ic_ge X32  (n1 := 162) (n2 := 109) d3_106 (by decide) rfl rfl (fun hc106_55 => ?_) (fun hc106_55 => ?_)
                                · have kk56 : ¬ ((((5 + F1) + 5) + 1) + 1) < (min (((5 + F1) + 5) + F2) N) := fun q => hc106_55 ((own_lt (i := ((((5 + F1) + 5) + 1) + 1)) (n := (min (((5 + F1) + 5) + F2) N)) (by omega) (by omega)).mpr q)
                                  exact J33 _ ((own_acc m1 m2 m3 3), (Int32.ofNat ((((5 + F1) + 5) + 1) + 1))) X32 (congrArg (own_acc m1 m2 m3) (by omega))
                                · have kk57 : ((((5 + F1) + 5) + 1) + 1) < (min (((5 + F1) + 5) + F2) N) := (own_lt (i := ((((5 + F1) + 5) + 1) + 1)) (n := (min (((5 + F1) + 5) + F2) N)) (by omega) (by omega)).mp hc106_55
                                  refine OwnK.iloadN X32 (n := 110) d3_109 rfl rfl ?_
                                  refine OwnK.iload X32 (n := 112) d3_110 rfl rfl ?_
                                  refine OwnK.iadd X32 (n := 113) d3_112 rfl ?_
                                  rw [show (((Int32.ofNat ((min (5 + F1) N) - 5)) + (Int32.ofNat ((((5 + F1) + 5) + 1) + 1))) : Int32) = (Int32.ofNat (((min (5 + F1) N) - 5) + ((((5 + F1) + 5) + 1) + 1))) from own_add ((min (5 + F1) N) - 5) ((((5 + F1) + 5) + 1) + 1)]
                                  refine OwnK.iload X32 (n := 115) d3_113 rfl rfl ?_
                                  refine OwnK.isub X32 (n := 116) d3_115 rfl ?_
                                  rw [show (((Int32.ofNat (((min (5 + F1) N) - 5) + ((((5 + F1) + 5) + 1) + 1))) - (Int32.ofNat ((5 + F1) + 5))) : Int32) = (Int32.ofNat ((((min (5 + F1) N) - 5) + ((((5 + F1) + 5) + 1) + 1)) - ((5 + F1) + 5))) from own_sub (((min (5 + F1) N) - 5) + ((((5 + F1) + 5) + 1) + 1)) ((5 + F1) + 5) (by omega) (by omega)]
                                  refine OwnK.iconst X32 (z := (4 : Int32)) (n := 117) d3_116 rfl rfl ?_
                                  refine OwnK.ic_ge X32  (n1 := 162) (n2 := 120) d3_117 (by decide) rfl rfl (fun q => absurd (((own_lt (i := ((((min (5 + F1) N) - 5) + ((((5 + F1) + 5) + 1) + 1)) - ((5 + F1) + 5))) (n := 4) (by omega) (by omega)).mpr (by omega)) : (Int32.ofNat ((((min (5 + F1) N) - 5) + ((((5 + F1) + 5) + 1) + 1)) - ((5 + F1) + 5))) < (4 : Int32)) q) (fun _ => ?_)
                                  refine OwnK.iloadN X32 (n := 121) d3_120 rfl rfl ?_
                                  refine OwnK.iload X32 (n := 123) d3_121 rfl rfl ?_
                                  refine OwnK.iadd X32 (n := 124) d3_123 rfl ?_
                                  rw [show (((Int32.ofNat ((min (5 + F1) N) - 5)) + (Int32.ofNat ((((5 + F1) + 5) + 1) + 1))) : Int32) = (Int32.ofNat (((min (5 + F1) N) - 5) + ((((5 + F1) + 5) + 1) + 1))) from own_add ((min (5 + F1) N) - 5) ((((5 + F1) + 5) + 1) + 1)]
                                  refine OwnK.iload X32 (n := 126) d3_124 rfl rfl ?_
                                  refine OwnK.isub X32 (n := 127) d3_126 rfl ?_
                                  rw [show (((Int32.ofNat (((min (5 + F1) N) - 5) + ((((5 + F1) + 5) + 1) + 1))) - (Int32.ofNat ((5 + F1) + 5))) : Int32) = (Int32.ofNat ((((min (5 + F1) N) - 5) + ((((5 + F1) + 5) + 1) + 1)) - ((5 + F1) + 5))) from own_sub (((min (5 + F1) N) - 5) + ((((5 + F1) + 5) + 1) + 1)) ((5 + F1) + 5) (by omega) (by omega)]
                                  refine OwnK.if_ne X32  (n1 := 142) (n2 := 130) d3_127 (by decide) rfl rfl (fun _ => ?_) (fun q => absurd q ((fun q => by have z := (own_eqn (i := ((((min (5 + F1) N) - 5) + ((((5 + F1) + 5) + 1) + 1)) - ((5 + F1) + 5))) (n := 0) (by omega) (by omega)).mp q; omega) : ¬ (Int32.ofNat ((((min (5 + F1) N) - 5) + ((((5 + F1) + 5) + 1) + 1)) - ((5 + F1) + 5))) = 0))
                                  refine OwnK.iloadN X32 (n := 143) d3_142 rfl rfl ?_
                                  refine OwnK.bipush X32 (z := (8 : Int32)) (n := 145) d3_143 rfl rfl ?_
                                  refine OwnK.ishl X32 (n := 146) d3_145 rfl ?_
                                  refine OwnK.aloadN X32 (n := 147) d3_146 rfl rfl rfl ?_
                                  refine OwnK.iload X32 (n := 149) d3_147 rfl rfl ?_
                                  refine OwnK.baload X32 (i := ((((5 + F1) + 5) + 1) + 1)) (v := (.int (bs.getD ((((5 + F1) + 5) + 1) + 1) 0))) (n := 150) d3_149 A0 (own_nat (i := ((((5 + F1) + 5) + 1) + 1)) (by omega)) (own_get bs (by omega)) rfl ?_
                                  refine OwnK.sipush X32 (z := (255 : Int32)) (n := 153) d3_150 rfl rfl ?_
                                  refine OwnK.iand X32 (n := 154) d3_153 rfl ?_
                                  refine OwnK.ior X32 (n := 155) d3_154 rfl ?_
                                  rw [show (((own_acc m1 m2 m3 3) <<< ((8 : Int32) &&& 31)) ||| ((bs.getD ((((5 + F1) + 5) + 1) + 1) 0) &&& (255 : Int32))) = own_acc m1 m2 m3 4 from by rw [show bs.getD ((((5 + F1) + 5) + 1) + 1) 0 &&& 255 = own_m m1 m2 m3 3 from (by have q := w6 3 (by omega) (by omega) (by omega) (by omega); rwa [show 10 + 3 = ((((5 + F1) + 5) + 1) + 1) from by omega] at q)]; rfl]
                                  refine OwnK.istoreN X32 (l' := #[.val (.ref r0), .val (.int (Int32.ofNat N)), .val (.int (Int32.ofNat ((min (5 + F1) N) - 5))), .val (.int (own_acc m1 m2 m3 4)), .val (.int (Int32.ofNat (5 + F1))), .val (.int (Int32.ofNat F2)), .val (.int (Int32.ofNat ((5 + F1) + 5))), .val (.int (Int32.ofNat (min (((5 + F1) + 5) + F2) N))), .val (.int (Int32.ofNat ((((5 + F1) + 5) + 1) + 1)))]) (n := 156) d3_155 rfl rfl ?_
                                  refine OwnK.iinc X32 (z := (1 : Int32)) (l' := #[.val (.ref r0), .val (.int (Int32.ofNat N)), .val (.int (Int32.ofNat ((min (5 + F1) N) - 5))), .val (.int (own_acc m1 m2 m3 4)), .val (.int (Int32.ofNat (5 + F1))), .val (.int (Int32.ofNat F2)), .val (.int (Int32.ofNat ((5 + F1) + 5))), .val (.int (Int32.ofNat (min (((5 + F1) + 5) + F2) N))), .val (.int ((Int32.ofNat ((((5 + F1) + 5) + 1) + 1)) + (1 : Int32)))]) (n := 159) d3_156 rfl rfl rfl rfl ?_
                                  rw [show (((Int32.ofNat ((((5 + F1) + 5) + 1) + 1)) + (1 : Int32)) : Int32) = (Int32.ofNat (((((5 + F1) + 5) + 1) + 1) + 1)) from own_add ((((5 + F1) + 5) + 1) + 1) 1]
                                  refine OwnK.goto X32 (n := 102) d3_159 (by decide) rfl ?_
                                  refine OwnK.iload X32 (n := 104) d3_102 rfl rfl ?_
                                  refine OwnK.iload X32 (n := 106) d3_104 rfl rfl ?_
                                  refine OwnK.ic_ge X32  (n1 := 162) (n2 := 109) d3_106 (by decide) rfl rfl (fun hc106_58 => ?_) (fun hc106_58 => ?_)
                                  · have kk59 : ¬ (((((5 + F1) + 5) + 1) + 1) + 1) < (min (((5 + F1) + 5) + F2) N) := fun q => hc106_58 ((own_lt (i := (((((5 + F1) + 5) + 1) + 1) + 1)) (n := (min (((5 + F1) + 5) + F2) N)) (by omega) (by omega)).mpr q)
                                    exact J33 _ ((own_acc m1 m2 m3 4), (Int32.ofNat (((((5 + F1) + 5) + 1) + 1) + 1))) X32 (own_acc_full (by omega)).symm
                                  · have kk60 : (((((5 + F1) + 5) + 1) + 1) + 1) < (min (((5 + F1) + 5) + F2) N) := (own_lt (i := (((((5 + F1) + 5) + 1) + 1) + 1)) (n := (min (((5 + F1) + 5) + F2) N)) (by omega) (by omega)).mp hc106_58
                                    refine OwnK.iloadN X32 (n := 110) d3_109 rfl rfl ?_
                                    refine OwnK.iload X32 (n := 112) d3_110 rfl rfl ?_
                                    refine OwnK.iadd X32 (n := 113) d3_112 rfl ?_
                                    rw [show (((Int32.ofNat ((min (5 + F1) N) - 5)) + (Int32.ofNat (((((5 + F1) + 5) + 1) + 1) + 1))) : Int32) = (Int32.ofNat (((min (5 + F1) N) - 5) + (((((5 + F1) + 5) + 1) + 1) + 1))) from own_add ((min (5 + F1) N) - 5) (((((5 + F1) + 5) + 1) + 1) + 1)]
                                    refine OwnK.iload X32 (n := 115) d3_113 rfl rfl ?_
                                    refine OwnK.isub X32 (n := 116) d3_115 rfl ?_
                                    rw [show (((Int32.ofNat (((min (5 + F1) N) - 5) + (((((5 + F1) + 5) + 1) + 1) + 1))) - (Int32.ofNat ((5 + F1) + 5))) : Int32) = (Int32.ofNat ((((min (5 + F1) N) - 5) + (((((5 + F1) + 5) + 1) + 1) + 1)) - ((5 + F1) + 5))) from own_sub (((min (5 + F1) N) - 5) + (((((5 + F1) + 5) + 1) + 1) + 1)) ((5 + F1) + 5) (by omega) (by omega)]
                                    refine OwnK.iconst X32 (z := (4 : Int32)) (n := 117) d3_116 rfl rfl ?_
                                    refine OwnK.ic_ge X32  (n1 := 162) (n2 := 120) d3_117 (by decide) rfl rfl (fun _ => ?_) (fun q => absurd q ((fun q => by have z := (own_lt (i := ((((min (5 + F1) N) - 5) + (((((5 + F1) + 5) + 1) + 1) + 1)) - ((5 + F1) + 5))) (n := 4) (by omega) (by omega)).mp q; omega) : ¬ (Int32.ofNat ((((min (5 + F1) N) - 5) + (((((5 + F1) + 5) + 1) + 1) + 1)) - ((5 + F1) + 5))) < (4 : Int32)))
                                    exact J33 _ ((own_acc m1 m2 m3 4), (Int32.ofNat (((((5 + F1) + 5) + 1) + 1) + 1))) X32 (own_acc_full (by omega)).symm
                          · rw [show dd1 = own_acc m1 m2 m3 2 from hd1.trans (congrArg _ (by omega))]
                            refine OwnK.iload X32 (n := 106) d3_104 rfl rfl ?_
                            refine OwnK.ic_ge X32  (n1 := 162) (n2 := 109) d3_106 (by decide) rfl rfl (fun hc106 => ?_) (fun hc106 => ?_)
                            · have kk61 : ¬ ((5 + F1) + 5) < (min (((5 + F1) + 5) + F2) N) := fun q => hc106 ((own_lt (i := ((5 + F1) + 5)) (n := (min (((5 + F1) + 5) + F2) N)) (by omega) (by omega)).mpr q)
                              exact J33 _ ((own_acc m1 m2 m3 2), (Int32.ofNat ((5 + F1) + 5))) X32 (congrArg (own_acc m1 m2 m3) (by omega))
                            · have kk62 : ((5 + F1) + 5) < (min (((5 + F1) + 5) + F2) N) := (own_lt (i := ((5 + F1) + 5)) (n := (min (((5 + F1) + 5) + F2) N)) (by omega) (by omega)).mp hc106
                              refine OwnK.iloadN X32 (n := 110) d3_109 rfl rfl ?_
                              refine OwnK.iload X32 (n := 112) d3_110 rfl rfl ?_
                              refine OwnK.iadd X32 (n := 113) d3_112 rfl ?_
                              rw [show (((Int32.ofNat ((min (5 + F1) N) - 5)) + (Int32.ofNat ((5 + F1) + 5))) : Int32) = (Int32.ofNat (((min (5 + F1) N) - 5) + ((5 + F1) + 5))) from own_add ((min (5 + F1) N) - 5) ((5 + F1) + 5)]
                              refine OwnK.iload X32 (n := 115) d3_113 rfl rfl ?_
                              refine OwnK.isub X32 (n := 116) d3_115 rfl ?_
                              rw [show (((Int32.ofNat (((min (5 + F1) N) - 5) + ((5 + F1) + 5))) - (Int32.ofNat ((5 + F1) + 5))) : Int32) = (Int32.ofNat ((((min (5 + F1) N) - 5) + ((5 + F1) + 5)) - ((5 + F1) + 5))) from own_sub (((min (5 + F1) N) - 5) + ((5 + F1) + 5)) ((5 + F1) + 5) (by omega) (by omega)]
                              refine OwnK.iconst X32 (z := (4 : Int32)) (n := 117) d3_116 rfl rfl ?_
                              refine OwnK.ic_ge X32  (n1 := 162) (n2 := 120) d3_117 (by decide) rfl rfl (fun q => absurd (((own_lt (i := ((((min (5 + F1) N) - 5) + ((5 + F1) + 5)) - ((5 + F1) + 5))) (n := 4) (by omega) (by omega)).mpr (by omega)) : (Int32.ofNat ((((min (5 + F1) N) - 5) + ((5 + F1) + 5)) - ((5 + F1) + 5))) < (4 : Int32)) q) (fun _ => ?_)
                              refine OwnK.iloadN X32 (n := 121) d3_120 rfl rfl ?_
                              refine OwnK.iload X32 (n := 123) d3_121 rfl rfl ?_
                              refine OwnK.iadd X32 (n := 124) d3_123 rfl ?_
                              rw [show (((Int32.ofNat ((min (5 + F1) N) - 5)) + (Int32.ofNat ((5 + F1) + 5))) : Int32) = (Int32.ofNat (((min (5 + F1) N) - 5) + ((5 + F1) + 5))) from own_add ((min (5 + F1) N) - 5) ((5 + F1) + 5)]
                              refine OwnK.iload X32 (n := 126) d3_124 rfl rfl ?_
                              refine OwnK.isub X32 (n := 127) d3_126 rfl ?_
                              rw [show (((Int32.ofNat (((min (5 + F1) N) - 5) + ((5 + F1) + 5))) - (Int32.ofNat ((5 + F1) + 5))) : Int32) = (Int32.ofNat ((((min (5 + F1) N) - 5) + ((5 + F1) + 5)) - ((5 + F1) + 5))) from own_sub (((min (5 + F1) N) - 5) + ((5 + F1) + 5)) ((5 + F1) + 5) (by omega) (by omega)]
                              refine OwnK.if_ne X32  (n1 := 142) (n2 := 130) d3_127 (by decide) rfl rfl (fun _ => ?_) (fun q => absurd q ((fun q => by have z := (own_eqn (i := ((((min (5 + F1) N) - 5) + ((5 + F1) + 5)) - ((5 + F1) + 5))) (n := 0) (by omega) (by omega)).mp q; omega) : ¬ (Int32.ofNat ((((min (5 + F1) N) - 5) + ((5 + F1) + 5)) - ((5 + F1) + 5))) = 0))
                              refine OwnK.iloadN X32 (n := 143) d3_142 rfl rfl ?_
                              refine OwnK.bipush X32 (z := (8 : Int32)) (n := 145) d3_143 rfl rfl ?_
                              refine OwnK.ishl X32 (n := 146) d3_145 rfl ?_
                              refine OwnK.aloadN X32 (n := 147) d3_146 rfl rfl rfl ?_
                              refine OwnK.iload X32 (n := 149) d3_147 rfl rfl ?_
                              refine OwnK.baload X32 (i := ((5 + F1) + 5)) (v := (.int (bs.getD ((5 + F1) + 5) 0))) (n := 150) d3_149 A0 (own_nat (i := ((5 + F1) + 5)) (by omega)) (own_get bs (by omega)) rfl ?_
                              refine OwnK.sipush X32 (z := (255 : Int32)) (n := 153) d3_150 rfl rfl ?_
                              refine OwnK.iand X32 (n := 154) d3_153 rfl ?_
                              refine OwnK.ior X32 (n := 155) d3_154 rfl ?_
                              rw [show (((own_acc m1 m2 m3 2) <<< ((8 : Int32) &&& 31)) ||| ((bs.getD ((5 + F1) + 5) 0) &&& (255 : Int32))) = own_acc m1 m2 m3 3 from by rw [show bs.getD ((5 + F1) + 5) 0 &&& 255 = own_m m1 m2 m3 2 from (by have q := w6 2 (by omega) (by omega) (by omega) (by omega); rwa [show 10 + 2 = ((5 + F1) + 5) from by omega] at q)]; rfl]
                              refine OwnK.istoreN X32 (l' := #[.val (.ref r0), .val (.int (Int32.ofNat N)), .val (.int (Int32.ofNat ((min (5 + F1) N) - 5))), .val (.int (own_acc m1 m2 m3 3)), .val (.int (Int32.ofNat (5 + F1))), .val (.int (Int32.ofNat F2)), .val (.int (Int32.ofNat ((5 + F1) + 5))), .val (.int (Int32.ofNat (min (((5 + F1) + 5) + F2) N))), .val (.int (Int32.ofNat ((5 + F1) + 5)))]) (n := 156) d3_155 rfl rfl ?_
                              refine OwnK.iinc X32 (z := (1 : Int32)) (l' := #[.val (.ref r0), .val (.int (Int32.ofNat N)), .val (.int (Int32.ofNat ((min (5 + F1) N) - 5))), .val (.int (own_acc m1 m2 m3 3)), .val (.int (Int32.ofNat (5 + F1))), .val (.int (Int32.ofNat F2)), .val (.int (Int32.ofNat ((5 + F1) + 5))), .val (.int (Int32.ofNat (min (((5 + F1) + 5) + F2) N))), .val (.int ((Int32.ofNat ((5 + F1) + 5)) + (1 : Int32)))]) (n := 159) d3_156 rfl rfl rfl rfl ?_
                              rw [show (((Int32.ofNat ((5 + F1) + 5)) + (1 : Int32)) : Int32) = (Int32.ofNat (((5 + F1) + 5) + 1)) from own_add ((5 + F1) + 5) 1]
                              refine OwnK.goto X32 (n := 102) d3_159 (by decide) rfl ?_
                              refine OwnK.iload X32 (n := 104) d3_102 rfl rfl ?_
                              refine OwnK.iload X32 (n := 106) d3_104 rfl rfl ?_
                              refine OwnK.ic_ge X32  (n1 := 162) (n2 := 109) d3_106 (by decide) rfl rfl (fun hc106_63 => ?_) (fun hc106_63 => ?_)
                              · have kk64 : ¬ (((5 + F1) + 5) + 1) < (min (((5 + F1) + 5) + F2) N) := fun q => hc106_63 ((own_lt (i := (((5 + F1) + 5) + 1)) (n := (min (((5 + F1) + 5) + F2) N)) (by omega) (by omega)).mpr q)
                                exact J33 _ ((own_acc m1 m2 m3 3), (Int32.ofNat (((5 + F1) + 5) + 1))) X32 (congrArg (own_acc m1 m2 m3) (by omega))
                              · have kk65 : (((5 + F1) + 5) + 1) < (min (((5 + F1) + 5) + F2) N) := (own_lt (i := (((5 + F1) + 5) + 1)) (n := (min (((5 + F1) + 5) + F2) N)) (by omega) (by omega)).mp hc106_63
                                refine OwnK.iloadN X32 (n := 110) d3_109 rfl rfl ?_
                                refine OwnK.iload X32 (n := 112) d3_110 rfl rfl ?_
                                refine OwnK.iadd X32 (n := 113) d3_112 rfl ?_
                                rw [show (((Int32.ofNat ((min (5 + F1) N) - 5)) + (Int32.ofNat (((5 + F1) + 5) + 1))) : Int32) = (Int32.ofNat (((min (5 + F1) N) - 5) + (((5 + F1) + 5) + 1))) from own_add ((min (5 + F1) N) - 5) (((5 + F1) + 5) + 1)]
                                refine OwnK.iload X32 (n := 115) d3_113 rfl rfl ?_
                                refine OwnK.isub X32 (n := 116) d3_115 rfl ?_
                                rw [show (((Int32.ofNat (((min (5 + F1) N) - 5) + (((5 + F1) + 5) + 1))) - (Int32.ofNat ((5 + F1) + 5))) : Int32) = (Int32.ofNat ((((min (5 + F1) N) - 5) + (((5 + F1) + 5) + 1)) - ((5 + F1) + 5))) from own_sub (((min (5 + F1) N) - 5) + (((5 + F1) + 5) + 1)) ((5 + F1) + 5) (by omega) (by omega)]
                                refine OwnK.iconst X32 (z := (4 : Int32)) (n := 117) d3_116 rfl rfl ?_
                                refine OwnK.ic_ge X32  (n1 := 162) (n2 := 120) d3_117 (by decide) rfl rfl (fun q => absurd (((own_lt (i := ((((min (5 + F1) N) - 5) + (((5 + F1) + 5) + 1)) - ((5 + F1) + 5))) (n := 4) (by omega) (by omega)).mpr (by omega)) : (Int32.ofNat ((((min (5 + F1) N) - 5) + (((5 + F1) + 5) + 1)) - ((5 + F1) + 5))) < (4 : Int32)) q) (fun _ => ?_)
                                refine OwnK.iloadN X32 (n := 121) d3_120 rfl rfl ?_
                                refine OwnK.iload X32 (n := 123) d3_121 rfl rfl ?_
                                refine OwnK.iadd X32 (n := 124) d3_123 rfl ?_
                                rw [show (((Int32.ofNat ((min (5 + F1) N) - 5)) + (Int32.ofNat (((5 + F1) + 5) + 1))) : Int32) = (Int32.ofNat (((min (5 + F1) N) - 5) + (((5 + F1) + 5) + 1))) from own_add ((min (5 + F1) N) - 5) (((5 + F1) + 5) + 1)]
                                refine OwnK.iload X32 (n := 126) d3_124 rfl rfl ?_
                                refine OwnK.isub X32 (n := 127) d3_126 rfl ?_
                                rw [show (((Int32.ofNat (((min (5 + F1) N) - 5) + (((5 + F1) + 5) + 1))) - (Int32.ofNat ((5 + F1) + 5))) : Int32) = (Int32.ofNat ((((min (5 + F1) N) - 5) + (((5 + F1) + 5) + 1)) - ((5 + F1) + 5))) from own_sub (((min (5 + F1) N) - 5) + (((5 + F1) + 5) + 1)) ((5 + F1) + 5) (by omega) (by omega)]
                                refine OwnK.if_ne X32  (n1 := 142) (n2 := 130) d3_127 (by decide) rfl rfl (fun _ => ?_) (fun q => absurd q ((fun q => by have z := (own_eqn (i := ((((min (5 + F1) N) - 5) + (((5 + F1) + 5) + 1)) - ((5 + F1) + 5))) (n := 0) (by omega) (by omega)).mp q; omega) : ¬ (Int32.ofNat ((((min (5 + F1) N) - 5) + (((5 + F1) + 5) + 1)) - ((5 + F1) + 5))) = 0))
                                refine OwnK.iloadN X32 (n := 143) d3_142 rfl rfl ?_
                                refine OwnK.bipush X32 (z := (8 : Int32)) (n := 145) d3_143 rfl rfl ?_
                                refine OwnK.ishl X32 (n := 146) d3_145 rfl ?_
                                refine OwnK.aloadN X32 (n := 147) d3_146 rfl rfl rfl ?_
                                refine OwnK.iload X32 (n := 149) d3_147 rfl rfl ?_
                                refine OwnK.baload X32 (i := (((5 + F1) + 5) + 1)) (v := (.int (bs.getD (((5 + F1) + 5) + 1) 0))) (n := 150) d3_149 A0 (own_nat (i := (((5 + F1) + 5) + 1)) (by omega)) (own_get bs (by omega)) rfl ?_
                                refine OwnK.sipush X32 (z := (255 : Int32)) (n := 153) d3_150 rfl rfl ?_
                                refine OwnK.iand X32 (n := 154) d3_153 rfl ?_
                                refine OwnK.ior X32 (n := 155) d3_154 rfl ?_
                                rw [show (((own_acc m1 m2 m3 3) <<< ((8 : Int32) &&& 31)) ||| ((bs.getD (((5 + F1) + 5) + 1) 0) &&& (255 : Int32))) = own_acc m1 m2 m3 4 from by rw [show bs.getD (((5 + F1) + 5) + 1) 0 &&& 255 = own_m m1 m2 m3 3 from (by have q := w6 3 (by omega) (by omega) (by omega) (by omega); rwa [show 10 + 3 = (((5 + F1) + 5) + 1) from by omega] at q)]; rfl]
                                refine OwnK.istoreN X32 (l' := #[.val (.ref r0), .val (.int (Int32.ofNat N)), .val (.int (Int32.ofNat ((min (5 + F1) N) - 5))), .val (.int (own_acc m1 m2 m3 4)), .val (.int (Int32.ofNat (5 + F1))), .val (.int (Int32.ofNat F2)), .val (.int (Int32.ofNat ((5 + F1) + 5))), .val (.int (Int32.ofNat (min (((5 + F1) + 5) + F2) N))), .val (.int (Int32.ofNat (((5 + F1) + 5) + 1)))]) (n := 156) d3_155 rfl rfl ?_
                                refine OwnK.iinc X32 (z := (1 : Int32)) (l' := #[.val (.ref r0), .val (.int (Int32.ofNat N)), .val (.int (Int32.ofNat ((min (5 + F1) N) - 5))), .val (.int (own_acc m1 m2 m3 4)), .val (.int (Int32.ofNat (5 + F1))), .val (.int (Int32.ofNat F2)), .val (.int (Int32.ofNat ((5 + F1) + 5))), .val (.int (Int32.ofNat (min (((5 + F1) + 5) + F2) N))), .val (.int ((Int32.ofNat (((5 + F1) + 5) + 1)) + (1 : Int32)))]) (n := 159) d3_156 rfl rfl rfl rfl ?_
                                rw [show (((Int32.ofNat (((5 + F1) + 5) + 1)) + (1 : Int32)) : Int32) = (Int32.ofNat ((((5 + F1) + 5) + 1) + 1)) from own_add (((5 + F1) + 5) + 1) 1]
                                refine OwnK.goto X32 (n := 102) d3_159 (by decide) rfl ?_
                                refine OwnK.iload X32 (n := 104) d3_102 rfl rfl ?_
                                refine OwnK.iload X32 (n := 106) d3_104 rfl rfl ?_
                                refine OwnK.ic_ge X32  (n1 := 162) (n2 := 109) d3_106 (by decide) rfl rfl (fun hc106_66 => ?_) (fun hc106_66 => ?_)
                                · have kk67 : ¬ ((((5 + F1) + 5) + 1) + 1) < (min (((5 + F1) + 5) + F2) N) := fun q => hc106_66 ((own_lt (i := ((((5 + F1) + 5) + 1) + 1)) (n := (min (((5 + F1) + 5) + F2) N)) (by omega) (by omega)).mpr q)
                                  exact J33 _ ((own_acc m1 m2 m3 4), (Int32.ofNat ((((5 + F1) + 5) + 1) + 1))) X32 (own_acc_full (by omega)).symm
                                · have kk68 : ((((5 + F1) + 5) + 1) + 1) < (min (((5 + F1) + 5) + F2) N) := (own_lt (i := ((((5 + F1) + 5) + 1) + 1)) (n := (min (((5 + F1) + 5) + F2) N)) (by omega) (by omega)).mp hc106_66
                                  refine OwnK.iloadN X32 (n := 110) d3_109 rfl rfl ?_
                                  refine OwnK.iload X32 (n := 112) d3_110 rfl rfl ?_
                                  refine OwnK.iadd X32 (n := 113) d3_112 rfl ?_
                                  rw [show (((Int32.ofNat ((min (5 + F1) N) - 5)) + (Int32.ofNat ((((5 + F1) + 5) + 1) + 1))) : Int32) = (Int32.ofNat (((min (5 + F1) N) - 5) + ((((5 + F1) + 5) + 1) + 1))) from own_add ((min (5 + F1) N) - 5) ((((5 + F1) + 5) + 1) + 1)]
                                  refine OwnK.iload X32 (n := 115) d3_113 rfl rfl ?_
                                  refine OwnK.isub X32 (n := 116) d3_115 rfl ?_
                                  rw [show (((Int32.ofNat (((min (5 + F1) N) - 5) + ((((5 + F1) + 5) + 1) + 1))) - (Int32.ofNat ((5 + F1) + 5))) : Int32) = (Int32.ofNat ((((min (5 + F1) N) - 5) + ((((5 + F1) + 5) + 1) + 1)) - ((5 + F1) + 5))) from own_sub (((min (5 + F1) N) - 5) + ((((5 + F1) + 5) + 1) + 1)) ((5 + F1) + 5) (by omega) (by omega)]
                                  refine OwnK.iconst X32 (z := (4 : Int32)) (n := 117) d3_116 rfl rfl ?_
                                  refine OwnK.ic_ge X32  (n1 := 162) (n2 := 120) d3_117 (by decide) rfl rfl (fun _ => ?_) (fun q => absurd q ((fun q => by have z := (own_lt (i := ((((min (5 + F1) N) - 5) + ((((5 + F1) + 5) + 1) + 1)) - ((5 + F1) + 5))) (n := 4) (by omega) (by omega)).mp q; omega) : ¬ (Int32.ofNat ((((min (5 + F1) N) - 5) + ((((5 + F1) + 5) + 1) + 1)) - ((5 + F1) + 5))) < (4 : Int32)))
                                  exact J33 _ ((own_acc m1 m2 m3 4), (Int32.ofNat ((((5 + F1) + 5) + 1) + 1))) X32 (own_acc_full (by omega)).symm
                          · rw [show dd1 = own_acc m1 m2 m3 3 from hd1.trans (congrArg _ (by omega))]
                            refine OwnK.iload X32 (n := 106) d3_104 rfl rfl ?_
                            refine OwnK.ic_ge X32  (n1 := 162) (n2 := 109) d3_106 (by decide) rfl rfl (fun hc106 => ?_) (fun hc106 => ?_)
                            · have kk69 : ¬ ((5 + F1) + 5) < (min (((5 + F1) + 5) + F2) N) := fun q => hc106 ((own_lt (i := ((5 + F1) + 5)) (n := (min (((5 + F1) + 5) + F2) N)) (by omega) (by omega)).mpr q)
                              exact J33 _ ((own_acc m1 m2 m3 3), (Int32.ofNat ((5 + F1) + 5))) X32 (congrArg (own_acc m1 m2 m3) (by omega))
                            · have kk70 : ((5 + F1) + 5) < (min (((5 + F1) + 5) + F2) N) := (own_lt (i := ((5 + F1) + 5)) (n := (min (((5 + F1) + 5) + F2) N)) (by omega) (by omega)).mp hc106
                              refine OwnK.iloadN X32 (n := 110) d3_109 rfl rfl ?_
                              refine OwnK.iload X32 (n := 112) d3_110 rfl rfl ?_
                              refine OwnK.iadd X32 (n := 113) d3_112 rfl ?_
                              rw [show (((Int32.ofNat ((min (5 + F1) N) - 5)) + (Int32.ofNat ((5 + F1) + 5))) : Int32) = (Int32.ofNat (((min (5 + F1) N) - 5) + ((5 + F1) + 5))) from own_add ((min (5 + F1) N) - 5) ((5 + F1) + 5)]
                              refine OwnK.iload X32 (n := 115) d3_113 rfl rfl ?_
                              refine OwnK.isub X32 (n := 116) d3_115 rfl ?_
                              rw [show (((Int32.ofNat (((min (5 + F1) N) - 5) + ((5 + F1) + 5))) - (Int32.ofNat ((5 + F1) + 5))) : Int32) = (Int32.ofNat ((((min (5 + F1) N) - 5) + ((5 + F1) + 5)) - ((5 + F1) + 5))) from own_sub (((min (5 + F1) N) - 5) + ((5 + F1) + 5)) ((5 + F1) + 5) (by omega) (by omega)]
                              refine OwnK.iconst X32 (z := (4 : Int32)) (n := 117) d3_116 rfl rfl ?_
                              refine OwnK.ic_ge X32  (n1 := 162) (n2 := 120) d3_117 (by decide) rfl rfl (fun q => absurd (((own_lt (i := ((((min (5 + F1) N) - 5) + ((5 + F1) + 5)) - ((5 + F1) + 5))) (n := 4) (by omega) (by omega)).mpr (by omega)) : (Int32.ofNat ((((min (5 + F1) N) - 5) + ((5 + F1) + 5)) - ((5 + F1) + 5))) < (4 : Int32)) q) (fun _ => ?_)
                              refine OwnK.iloadN X32 (n := 121) d3_120 rfl rfl ?_
                              refine OwnK.iload X32 (n := 123) d3_121 rfl rfl ?_
                              refine OwnK.iadd X32 (n := 124) d3_123 rfl ?_
                              rw [show (((Int32.ofNat ((min (5 + F1) N) - 5)) + (Int32.ofNat ((5 + F1) + 5))) : Int32) = (Int32.ofNat (((min (5 + F1) N) - 5) + ((5 + F1) + 5))) from own_add ((min (5 + F1) N) - 5) ((5 + F1) + 5)]
                              refine OwnK.iload X32 (n := 126) d3_124 rfl rfl ?_
                              refine OwnK.isub X32 (n := 127) d3_126 rfl ?_
                              rw [show (((Int32.ofNat (((min (5 + F1) N) - 5) + ((5 + F1) + 5))) - (Int32.ofNat ((5 + F1) + 5))) : Int32) = (Int32.ofNat ((((min (5 + F1) N) - 5) + ((5 + F1) + 5)) - ((5 + F1) + 5))) from own_sub (((min (5 + F1) N) - 5) + ((5 + F1) + 5)) ((5 + F1) + 5) (by omega) (by omega)]
                              refine OwnK.if_ne X32  (n1 := 142) (n2 := 130) d3_127 (by decide) rfl rfl (fun _ => ?_) (fun q => absurd q ((fun q => by have z := (own_eqn (i := ((((min (5 + F1) N) - 5) + ((5 + F1) + 5)) - ((5 + F1) + 5))) (n := 0) (by omega) (by omega)).mp q; omega) : ¬ (Int32.ofNat ((((min (5 + F1) N) - 5) + ((5 + F1) + 5)) - ((5 + F1) + 5))) = 0))
                              refine OwnK.iloadN X32 (n := 143) d3_142 rfl rfl ?_
                              refine OwnK.bipush X32 (z := (8 : Int32)) (n := 145) d3_143 rfl rfl ?_
                              refine OwnK.ishl X32 (n := 146) d3_145 rfl ?_
                              refine OwnK.aloadN X32 (n := 147) d3_146 rfl rfl rfl ?_
                              refine OwnK.iload X32 (n := 149) d3_147 rfl rfl ?_
                              refine OwnK.baload X32 (i := ((5 + F1) + 5)) (v := (.int (bs.getD ((5 + F1) + 5) 0))) (n := 150) d3_149 A0 (own_nat (i := ((5 + F1) + 5)) (by omega)) (own_get bs (by omega)) rfl ?_
                              refine OwnK.sipush X32 (z := (255 : Int32)) (n := 153) d3_150 rfl rfl ?_
                              refine OwnK.iand X32 (n := 154) d3_153 rfl ?_
                              refine OwnK.ior X32 (n := 155) d3_154 rfl ?_
                              rw [show (((own_acc m1 m2 m3 3) <<< ((8 : Int32) &&& 31)) ||| ((bs.getD ((5 + F1) + 5) 0) &&& (255 : Int32))) = own_acc m1 m2 m3 4 from by rw [show bs.getD ((5 + F1) + 5) 0 &&& 255 = own_m m1 m2 m3 3 from (by have q := w6 3 (by omega) (by omega) (by omega) (by omega); rwa [show 10 + 3 = ((5 + F1) + 5) from by omega] at q)]; rfl]
                              refine OwnK.istoreN X32 (l' := #[.val (.ref r0), .val (.int (Int32.ofNat N)), .val (.int (Int32.ofNat ((min (5 + F1) N) - 5))), .val (.int (own_acc m1 m2 m3 4)), .val (.int (Int32.ofNat (5 + F1))), .val (.int (Int32.ofNat F2)), .val (.int (Int32.ofNat ((5 + F1) + 5))), .val (.int (Int32.ofNat (min (((5 + F1) + 5) + F2) N))), .val (.int (Int32.ofNat ((5 + F1) + 5)))]) (n := 156) d3_155 rfl rfl ?_
                              refine OwnK.iinc X32 (z := (1 : Int32)) (l' := #[.val (.ref r0), .val (.int (Int32.ofNat N)), .val (.int (Int32.ofNat ((min (5 + F1) N) - 5))), .val (.int (own_acc m1 m2 m3 4)), .val (.int (Int32.ofNat (5 + F1))), .val (.int (Int32.ofNat F2)), .val (.int (Int32.ofNat ((5 + F1) + 5))), .val (.int (Int32.ofNat (min (((5 + F1) + 5) + F2) N))), .val (.int ((Int32.ofNat ((5 + F1) + 5)) + (1 : Int32)))]) (n := 159) d3_156 rfl rfl rfl rfl ?_
                              rw [show (((Int32.ofNat ((5 + F1) + 5)) + (1 : Int32)) : Int32) = (Int32.ofNat (((5 + F1) + 5) + 1)) from own_add ((5 + F1) + 5) 1]
                              refine OwnK.goto X32 (n := 102) d3_159 (by decide) rfl ?_
                              refine OwnK.iload X32 (n := 104) d3_102 rfl rfl ?_
                              refine OwnK.iload X32 (n := 106) d3_104 rfl rfl ?_
                              refine OwnK.ic_ge X32  (n1 := 162) (n2 := 109) d3_106 (by decide) rfl rfl (fun hc106_71 => ?_) (fun hc106_71 => ?_)
                              · have kk72 : ¬ (((5 + F1) + 5) + 1) < (min (((5 + F1) + 5) + F2) N) := fun q => hc106_71 ((own_lt (i := (((5 + F1) + 5) + 1)) (n := (min (((5 + F1) + 5) + F2) N)) (by omega) (by omega)).mpr q)
                                exact J33 _ ((own_acc m1 m2 m3 4), (Int32.ofNat (((5 + F1) + 5) + 1))) X32 (own_acc_full (by omega)).symm
                              · have kk73 : (((5 + F1) + 5) + 1) < (min (((5 + F1) + 5) + F2) N) := (own_lt (i := (((5 + F1) + 5) + 1)) (n := (min (((5 + F1) + 5) + F2) N)) (by omega) (by omega)).mp hc106_71
                                refine OwnK.iloadN X32 (n := 110) d3_109 rfl rfl ?_
                                refine OwnK.iload X32 (n := 112) d3_110 rfl rfl ?_
                                refine OwnK.iadd X32 (n := 113) d3_112 rfl ?_
                                rw [show (((Int32.ofNat ((min (5 + F1) N) - 5)) + (Int32.ofNat (((5 + F1) + 5) + 1))) : Int32) = (Int32.ofNat (((min (5 + F1) N) - 5) + (((5 + F1) + 5) + 1))) from own_add ((min (5 + F1) N) - 5) (((5 + F1) + 5) + 1)]
                                refine OwnK.iload X32 (n := 115) d3_113 rfl rfl ?_
                                refine OwnK.isub X32 (n := 116) d3_115 rfl ?_
                                rw [show (((Int32.ofNat (((min (5 + F1) N) - 5) + (((5 + F1) + 5) + 1))) - (Int32.ofNat ((5 + F1) + 5))) : Int32) = (Int32.ofNat ((((min (5 + F1) N) - 5) + (((5 + F1) + 5) + 1)) - ((5 + F1) + 5))) from own_sub (((min (5 + F1) N) - 5) + (((5 + F1) + 5) + 1)) ((5 + F1) + 5) (by omega) (by omega)]
                                refine OwnK.iconst X32 (z := (4 : Int32)) (n := 117) d3_116 rfl rfl ?_
                                refine OwnK.ic_ge X32  (n1 := 162) (n2 := 120) d3_117 (by decide) rfl rfl (fun _ => ?_) (fun q => absurd q ((fun q => by have z := (own_lt (i := ((((min (5 + F1) N) - 5) + (((5 + F1) + 5) + 1)) - ((5 + F1) + 5))) (n := 4) (by omega) (by omega)).mp q; omega) : ¬ (Int32.ofNat ((((min (5 + F1) N) - 5) + (((5 + F1) + 5) + 1)) - ((5 + F1) + 5))) < (4 : Int32)))
                                exact J33 _ ((own_acc m1 m2 m3 4), (Int32.ofNat (((5 + F1) + 5) + 1))) X32 (own_acc_full (by omega)).symm
                          · rw [show dd1 = own_acc m1 m2 m3 4 from hd1.trans (own_acc_full (by omega))]
                            refine OwnK.iload X32 (n := 106) d3_104 rfl rfl ?_
                            refine OwnK.ic_ge X32  (n1 := 162) (n2 := 109) d3_106 (by decide) rfl rfl (fun hc106 => ?_) (fun hc106 => ?_)
                            · have kk74 : ¬ ((5 + F1) + 5) < (min (((5 + F1) + 5) + F2) N) := fun q => hc106 ((own_lt (i := ((5 + F1) + 5)) (n := (min (((5 + F1) + 5) + F2) N)) (by omega) (by omega)).mpr q)
                              exact J33 _ ((own_acc m1 m2 m3 4), (Int32.ofNat ((5 + F1) + 5))) X32 (own_acc_full (by omega)).symm
                            · have kk75 : ((5 + F1) + 5) < (min (((5 + F1) + 5) + F2) N) := (own_lt (i := ((5 + F1) + 5)) (n := (min (((5 + F1) + 5) + F2) N)) (by omega) (by omega)).mp hc106
                              refine OwnK.iloadN X32 (n := 110) d3_109 rfl rfl ?_
                              refine OwnK.iload X32 (n := 112) d3_110 rfl rfl ?_
                              refine OwnK.iadd X32 (n := 113) d3_112 rfl ?_
                              rw [show (((Int32.ofNat ((min (5 + F1) N) - 5)) + (Int32.ofNat ((5 + F1) + 5))) : Int32) = (Int32.ofNat (((min (5 + F1) N) - 5) + ((5 + F1) + 5))) from own_add ((min (5 + F1) N) - 5) ((5 + F1) + 5)]
                              refine OwnK.iload X32 (n := 115) d3_113 rfl rfl ?_
                              refine OwnK.isub X32 (n := 116) d3_115 rfl ?_
                              rw [show (((Int32.ofNat (((min (5 + F1) N) - 5) + ((5 + F1) + 5))) - (Int32.ofNat ((5 + F1) + 5))) : Int32) = (Int32.ofNat ((((min (5 + F1) N) - 5) + ((5 + F1) + 5)) - ((5 + F1) + 5))) from own_sub (((min (5 + F1) N) - 5) + ((5 + F1) + 5)) ((5 + F1) + 5) (by omega) (by omega)]
                              refine OwnK.iconst X32 (z := (4 : Int32)) (n := 117) d3_116 rfl rfl ?_
                              refine OwnK.ic_ge X32  (n1 := 162) (n2 := 120) d3_117 (by decide) rfl rfl (fun _ => ?_) (fun q => absurd q ((fun q => by have z := (own_lt (i := ((((min (5 + F1) N) - 5) + ((5 + F1) + 5)) - ((5 + F1) + 5))) (n := 4) (by omega) (by omega)).mp q; omega) : ¬ (Int32.ofNat ((((min (5 + F1) N) - 5) + ((5 + F1) + 5)) - ((5 + F1) + 5))) < (4 : Int32)))
                              exact J33 _ ((own_acc m1 m2 m3 4), (Int32.ofNat ((5 + F1) + 5))) X32 (own_acc_full (by omega)).symm
                      · have kk76 : 16384 < F2 := (own_lt (i := 16384) (n := F2) (by omega) (by omega)).mp hc74_30
                        refine OwnK.getstatic X11 (n := 80) d3_77 (hw _ (List.mem_of_getElem? (i := 28) rfl)) Via.refl (S_OTHER.ext O0.2) rfl ?_
                        intro T77 X77
                        exact OwnK.areturn X77 rfl rfl rfl d3_80 ⟨congrArg Value.ref (own_ex8 (by first | assumption | omega) (by first | assumption | omega) (by first | assumption | omega) (by first | assumption | omega) (by first | assumption | omega) (by first | assumption | omega) (by first | assumption | omega) (by first | assumption | omega) (by first | assumption | omega) (by first | assumption | omega)).symm, rfl⟩ (by decide) (by decide)
                  · have kk78 : N < ((5 + F1) + 5) := (own_lt (i := N) (n := ((5 + F1) + 5)) (by omega) (by omega)).mp hc31_24
                    refine OwnK.getstatic X11 (n := 37) d3_34 (hw _ (List.mem_of_getElem? (i := 20) rfl)) Via.refl (S_PARTIAL.ext O0.2) rfl ?_
                    intro T79 X79
                    exact OwnK.areturn X79 rfl rfl rfl d3_37 ⟨congrArg Value.ref (own_ex7 (by first | assumption | omega) (by first | assumption | omega) (by first | assumption | omega) (by first | assumption | omega) (by first | assumption | omega) (by first | assumption | omega) (by first | assumption | omega) (by first | assumption | omega) (by first | assumption | omega)).symm, rfl⟩ (by decide) (by decide)
                · have kk80 : ¬ C2 = 22 := fun q => hc19_22 ((w7 (by omega)).mpr q)
                  refine OwnK.getstatic X11 (n := 25) d3_22 (hw _ (List.mem_of_getElem? (i := 28) rfl)) Via.refl (S_OTHER.ext O0.2) rfl ?_
                  intro T81 X81
                  exact OwnK.areturn X81 rfl rfl rfl d3_25 ⟨congrArg Value.ref (own_ex6 (by first | assumption | omega) (by first | assumption | omega) (by first | assumption | omega) (by first | assumption | omega) (by first | assumption | omega) (by first | assumption | omega) (by first | assumption | omega) (by first | assumption | omega)).symm, rfl⟩ (by decide) (by decide)
            · intro J11
              refine OwnK.iload X10 (n := 104) d3_102 rfl rfl ?_
              refine OwnK.iload X10 (n := 106) d3_104 rfl rfl ?_
              refine OwnK.ic_ge X10  (n1 := 162) (n2 := 109) d3_106 (by decide) rfl rfl (fun hc106 => ?_) (fun hc106 => ?_)
              · have kk82 : ¬ 5 < (min (5 + F1) N) := fun q => hc106 ((own_lt (i := 5) (n := (min (5 + F1) N)) (by omega) (by omega)).mpr q)
                exact J11 _ ((0 : Int32), (5 : Int32)) X10 ⟨(by rw [own_acc, if_pos (by omega)]), fun _ => by omega⟩
              · have kk83 : 5 < (min (5 + F1) N) := (own_lt (i := 5) (n := (min (5 + F1) N)) (by omega) (by omega)).mp hc106
                refine OwnK.iloadN X10 (n := 110) d3_109 rfl rfl ?_
                refine OwnK.iload X10 (n := 112) d3_110 rfl rfl ?_
                refine OwnK.iadd X10 (n := 113) d3_112 rfl ?_
                rw [show (((0 : Int32) + (5 : Int32)) : Int32) = (5 : Int32) from by decide]
                refine OwnK.iload X10 (n := 115) d3_113 rfl rfl ?_
                refine OwnK.isub X10 (n := 116) d3_115 rfl ?_
                rw [show (((5 : Int32) - (5 : Int32)) : Int32) = (0 : Int32) from by decide]
                refine OwnK.iconst X10 (z := (4 : Int32)) (n := 117) d3_116 rfl rfl ?_
                refine OwnK.ic_ge X10  (n1 := 162) (n2 := 120) d3_117 (by decide) rfl rfl (fun q => absurd ((by decide) : (0 : Int32) < (4 : Int32)) q) (fun _ => ?_)
                refine OwnK.iloadN X10 (n := 121) d3_120 rfl rfl ?_
                refine OwnK.iload X10 (n := 123) d3_121 rfl rfl ?_
                refine OwnK.iadd X10 (n := 124) d3_123 rfl ?_
                rw [show (((0 : Int32) + (5 : Int32)) : Int32) = (5 : Int32) from by decide]
                refine OwnK.iload X10 (n := 126) d3_124 rfl rfl ?_
                refine OwnK.isub X10 (n := 127) d3_126 rfl ?_
                rw [show (((5 : Int32) - (5 : Int32)) : Int32) = (0 : Int32) from by decide]
                refine OwnK.if_ne X10  (n1 := 142) (n2 := 130) d3_127 (by decide) rfl rfl (fun q => absurd ((by decide) : (0 : Int32) = 0) q) (fun _ => ?_)
                refine OwnK.aloadN X10 (n := 131) d3_130 rfl rfl rfl ?_
                refine OwnK.iload X10 (n := 133) d3_131 rfl rfl ?_
                refine OwnK.baload X10 (i := 5) (v := (.int (bs.getD 5 0))) (n := 134) d3_133 A0 (own_nat (i := 5) (by omega)) (own_get bs (by omega)) rfl ?_
                refine OwnK.iconst X10 (z := (1 : Int32)) (n := 135) d3_134 rfl rfl ?_
                refine OwnK.ic_eq X10  (n1 := 156) (n2 := 138) d3_135 (by decide) rfl rfl (fun hc135 => ?_) (fun hc135 => ?_)
                · have kk84 : T = 1 := (w4 (by omega)).mp hc135
                  refine OwnK.iinc X10 (z := (1 : Int32)) (l' := #[.val (.ref r0), .val (.int (Int32.ofNat N)), .val (.int (0 : Int32)), .val (.int (0 : Int32)), .val (.int (0 : Int32)), .val (.int (Int32.ofNat F1)), .val (.int (5 : Int32)), .val (.int (Int32.ofNat (min (5 + F1) N))), .val (.int ((5 : Int32) + (1 : Int32)))]) (n := 159) d3_156 rfl rfl rfl rfl ?_
                  show Run _ _ _ _ _ _ _ _ (State.setTop _ (mkF m 159 #[.val (.ref r0), .val (.int (Int32.ofNat N)), .val (.int (0 : Int32)), .val (.int (0 : Int32)), .val (.int (0 : Int32)), .val (.int (Int32.ofNat F1)), .val (.int (5 : Int32)), .val (.int (Int32.ofNat (min (5 + F1) N))), .val (.int (6 : Int32))] []))
                  refine OwnK.goto X10 (n := 102) d3_159 (by decide) rfl ?_
                  refine OwnK.iload X10 (n := 104) d3_102 rfl rfl ?_
                  refine OwnK.iload X10 (n := 106) d3_104 rfl rfl ?_
                  refine OwnK.ic_ge X10  (n1 := 162) (n2 := 109) d3_106 (by decide) rfl rfl (fun hc106_85 => ?_) (fun hc106_85 => ?_)
                  · have kk86 : ¬ 6 < (min (5 + F1) N) := fun q => hc106_85 ((own_lt (i := 6) (n := (min (5 + F1) N)) (by omega) (by omega)).mpr q)
                    exact J11 _ ((0 : Int32), (6 : Int32)) X10 ⟨(by rw [own_acc, if_pos (by omega)]), fun _ => by omega⟩
                  · have kk87 : 6 < (min (5 + F1) N) := (own_lt (i := 6) (n := (min (5 + F1) N)) (by omega) (by omega)).mp hc106_85
                    refine OwnK.iloadN X10 (n := 110) d3_109 rfl rfl ?_
                    refine OwnK.iload X10 (n := 112) d3_110 rfl rfl ?_
                    refine OwnK.iadd X10 (n := 113) d3_112 rfl ?_
                    rw [show (((0 : Int32) + (6 : Int32)) : Int32) = (6 : Int32) from by decide]
                    refine OwnK.iload X10 (n := 115) d3_113 rfl rfl ?_
                    refine OwnK.isub X10 (n := 116) d3_115 rfl ?_
                    rw [show (((6 : Int32) - (5 : Int32)) : Int32) = (1 : Int32) from by decide]
                    refine OwnK.iconst X10 (z := (4 : Int32)) (n := 117) d3_116 rfl rfl ?_
                    refine OwnK.ic_ge X10  (n1 := 162) (n2 := 120) d3_117 (by decide) rfl rfl (fun q => absurd ((by decide) : (1 : Int32) < (4 : Int32)) q) (fun _ => ?_)
                    refine OwnK.iloadN X10 (n := 121) d3_120 rfl rfl ?_
                    refine OwnK.iload X10 (n := 123) d3_121 rfl rfl ?_
                    refine OwnK.iadd X10 (n := 124) d3_123 rfl ?_
                    rw [show (((0 : Int32) + (6 : Int32)) : Int32) = (6 : Int32) from by decide]
                    refine OwnK.iload X10 (n := 126) d3_124 rfl rfl ?_
                    refine OwnK.isub X10 (n := 127) d3_126 rfl ?_
                    rw [show (((6 : Int32) - (5 : Int32)) : Int32) = (1 : Int32) from by decide]
                    refine OwnK.if_ne X10  (n1 := 142) (n2 := 130) d3_127 (by decide) rfl rfl (fun _ => ?_) (fun q => absurd q ((by decide) : ¬ (1 : Int32) = 0))
                    refine OwnK.iloadN X10 (n := 143) d3_142 rfl rfl ?_
                    refine OwnK.bipush X10 (z := (8 : Int32)) (n := 145) d3_143 rfl rfl ?_
                    refine OwnK.ishl X10 (n := 146) d3_145 rfl ?_
                    refine OwnK.aloadN X10 (n := 147) d3_146 rfl rfl rfl ?_
                    refine OwnK.iload X10 (n := 149) d3_147 rfl rfl ?_
                    refine OwnK.baload X10 (i := 6) (v := (.int (bs.getD 6 0))) (n := 150) d3_149 A0 (own_nat (i := 6) (by omega)) (own_get bs (by omega)) rfl ?_
                    refine OwnK.sipush X10 (z := (255 : Int32)) (n := 153) d3_150 rfl rfl ?_
                    refine OwnK.iand X10 (n := 154) d3_153 rfl ?_
                    refine OwnK.ior X10 (n := 155) d3_154 rfl ?_
                    rw [show (((0 : Int32) <<< ((8 : Int32) &&& 31)) ||| ((bs.getD 6 0) &&& (255 : Int32))) = own_acc m1 m2 m3 2 from by rw [show bs.getD 6 0 &&& 255 = own_m m1 m2 m3 1 from w5 1 (by omega) (by omega) (by omega)]; rfl]
                    refine OwnK.istoreN X10 (l' := #[.val (.ref r0), .val (.int (Int32.ofNat N)), .val (.int (0 : Int32)), .val (.int (own_acc m1 m2 m3 2)), .val (.int (0 : Int32)), .val (.int (Int32.ofNat F1)), .val (.int (5 : Int32)), .val (.int (Int32.ofNat (min (5 + F1) N))), .val (.int (6 : Int32))]) (n := 156) d3_155 rfl rfl ?_
                    refine OwnK.iinc X10 (z := (1 : Int32)) (l' := #[.val (.ref r0), .val (.int (Int32.ofNat N)), .val (.int (0 : Int32)), .val (.int (own_acc m1 m2 m3 2)), .val (.int (0 : Int32)), .val (.int (Int32.ofNat F1)), .val (.int (5 : Int32)), .val (.int (Int32.ofNat (min (5 + F1) N))), .val (.int ((6 : Int32) + (1 : Int32)))]) (n := 159) d3_156 rfl rfl rfl rfl ?_
                    show Run _ _ _ _ _ _ _ _ (State.setTop _ (mkF m 159 #[.val (.ref r0), .val (.int (Int32.ofNat N)), .val (.int (0 : Int32)), .val (.int (own_acc m1 m2 m3 2)), .val (.int (0 : Int32)), .val (.int (Int32.ofNat F1)), .val (.int (5 : Int32)), .val (.int (Int32.ofNat (min (5 + F1) N))), .val (.int (7 : Int32))] []))
                    refine OwnK.goto X10 (n := 102) d3_159 (by decide) rfl ?_
                    refine OwnK.iload X10 (n := 104) d3_102 rfl rfl ?_
                    refine OwnK.iload X10 (n := 106) d3_104 rfl rfl ?_
                    refine OwnK.ic_ge X10  (n1 := 162) (n2 := 109) d3_106 (by decide) rfl rfl (fun hc106_88 => ?_) (fun hc106_88 => ?_)
                    · have kk89 : ¬ 7 < (min (5 + F1) N) := fun q => hc106_88 ((own_lt (i := 7) (n := (min (5 + F1) N)) (by omega) (by omega)).mpr q)
                      exact J11 _ ((own_acc m1 m2 m3 2), (7 : Int32)) X10 ⟨(congrArg (own_acc m1 m2 m3) (by omega)), fun _ => by omega⟩
                    · have kk90 : 7 < (min (5 + F1) N) := (own_lt (i := 7) (n := (min (5 + F1) N)) (by omega) (by omega)).mp hc106_88
                      refine OwnK.iloadN X10 (n := 110) d3_109 rfl rfl ?_
                      refine OwnK.iload X10 (n := 112) d3_110 rfl rfl ?_
                      refine OwnK.iadd X10 (n := 113) d3_112 rfl ?_
                      rw [show (((0 : Int32) + (7 : Int32)) : Int32) = (7 : Int32) from by decide]
                      refine OwnK.iload X10 (n := 115) d3_113 rfl rfl ?_
                      refine OwnK.isub X10 (n := 116) d3_115 rfl ?_
                      rw [show (((7 : Int32) - (5 : Int32)) : Int32) = (2 : Int32) from by decide]
                      refine OwnK.iconst X10 (z := (4 : Int32)) (n := 117) d3_116 rfl rfl ?_
                      refine OwnK.ic_ge X10  (n1 := 162) (n2 := 120) d3_117 (by decide) rfl rfl (fun q => absurd ((by decide) : (2 : Int32) < (4 : Int32)) q) (fun _ => ?_)
                      refine OwnK.iloadN X10 (n := 121) d3_120 rfl rfl ?_
                      refine OwnK.iload X10 (n := 123) d3_121 rfl rfl ?_
                      refine OwnK.iadd X10 (n := 124) d3_123 rfl ?_
                      rw [show (((0 : Int32) + (7 : Int32)) : Int32) = (7 : Int32) from by decide]
                      refine OwnK.iload X10 (n := 126) d3_124 rfl rfl ?_
                      refine OwnK.isub X10 (n := 127) d3_126 rfl ?_
                      rw [show (((7 : Int32) - (5 : Int32)) : Int32) = (2 : Int32) from by decide]
                      refine OwnK.if_ne X10  (n1 := 142) (n2 := 130) d3_127 (by decide) rfl rfl (fun _ => ?_) (fun q => absurd q ((by decide) : ¬ (2 : Int32) = 0))
                      refine OwnK.iloadN X10 (n := 143) d3_142 rfl rfl ?_
                      refine OwnK.bipush X10 (z := (8 : Int32)) (n := 145) d3_143 rfl rfl ?_
                      refine OwnK.ishl X10 (n := 146) d3_145 rfl ?_
                      refine OwnK.aloadN X10 (n := 147) d3_146 rfl rfl rfl ?_
                      refine OwnK.iload X10 (n := 149) d3_147 rfl rfl ?_
                      refine OwnK.baload X10 (i := 7) (v := (.int (bs.getD 7 0))) (n := 150) d3_149 A0 (own_nat (i := 7) (by omega)) (own_get bs (by omega)) rfl ?_
                      refine OwnK.sipush X10 (z := (255 : Int32)) (n := 153) d3_150 rfl rfl ?_
                      refine OwnK.iand X10 (n := 154) d3_153 rfl ?_
                      refine OwnK.ior X10 (n := 155) d3_154 rfl ?_
                      rw [show (((own_acc m1 m2 m3 2) <<< ((8 : Int32) &&& 31)) ||| ((bs.getD 7 0) &&& (255 : Int32))) = own_acc m1 m2 m3 3 from by rw [show bs.getD 7 0 &&& 255 = own_m m1 m2 m3 2 from w5 2 (by omega) (by omega) (by omega)]; rfl]
                      refine OwnK.istoreN X10 (l' := #[.val (.ref r0), .val (.int (Int32.ofNat N)), .val (.int (0 : Int32)), .val (.int (own_acc m1 m2 m3 3)), .val (.int (0 : Int32)), .val (.int (Int32.ofNat F1)), .val (.int (5 : Int32)), .val (.int (Int32.ofNat (min (5 + F1) N))), .val (.int (7 : Int32))]) (n := 156) d3_155 rfl rfl ?_
                      refine OwnK.iinc X10 (z := (1 : Int32)) (l' := #[.val (.ref r0), .val (.int (Int32.ofNat N)), .val (.int (0 : Int32)), .val (.int (own_acc m1 m2 m3 3)), .val (.int (0 : Int32)), .val (.int (Int32.ofNat F1)), .val (.int (5 : Int32)), .val (.int (Int32.ofNat (min (5 + F1) N))), .val (.int ((7 : Int32) + (1 : Int32)))]) (n := 159) d3_156 rfl rfl rfl rfl ?_
                      show Run _ _ _ _ _ _ _ _ (State.setTop _ (mkF m 159 #[.val (.ref r0), .val (.int (Int32.ofNat N)), .val (.int (0 : Int32)), .val (.int (own_acc m1 m2 m3 3)), .val (.int (0 : Int32)), .val (.int (Int32.ofNat F1)), .val (.int (5 : Int32)), .val (.int (Int32.ofNat (min (5 + F1) N))), .val (.int (8 : Int32))] []))
                      refine OwnK.goto X10 (n := 102) d3_159 (by decide) rfl ?_
                      refine OwnK.iload X10 (n := 104) d3_102 rfl rfl ?_
                      refine OwnK.iload X10 (n := 106) d3_104 rfl rfl ?_
                      refine OwnK.ic_ge X10  (n1 := 162) (n2 := 109) d3_106 (by decide) rfl rfl (fun hc106_91 => ?_) (fun hc106_91 => ?_)
                      · have kk92 : ¬ 8 < (min (5 + F1) N) := fun q => hc106_91 ((own_lt (i := 8) (n := (min (5 + F1) N)) (by omega) (by omega)).mpr q)
                        exact J11 _ ((own_acc m1 m2 m3 3), (8 : Int32)) X10 ⟨(congrArg (own_acc m1 m2 m3) (by omega)), fun _ => by omega⟩
                      · have kk93 : 8 < (min (5 + F1) N) := (own_lt (i := 8) (n := (min (5 + F1) N)) (by omega) (by omega)).mp hc106_91
                        refine OwnK.iloadN X10 (n := 110) d3_109 rfl rfl ?_
                        refine OwnK.iload X10 (n := 112) d3_110 rfl rfl ?_
                        refine OwnK.iadd X10 (n := 113) d3_112 rfl ?_
                        rw [show (((0 : Int32) + (8 : Int32)) : Int32) = (8 : Int32) from by decide]
                        refine OwnK.iload X10 (n := 115) d3_113 rfl rfl ?_
                        refine OwnK.isub X10 (n := 116) d3_115 rfl ?_
                        rw [show (((8 : Int32) - (5 : Int32)) : Int32) = (3 : Int32) from by decide]
                        refine OwnK.iconst X10 (z := (4 : Int32)) (n := 117) d3_116 rfl rfl ?_
                        refine OwnK.ic_ge X10  (n1 := 162) (n2 := 120) d3_117 (by decide) rfl rfl (fun q => absurd ((by decide) : (3 : Int32) < (4 : Int32)) q) (fun _ => ?_)
                        refine OwnK.iloadN X10 (n := 121) d3_120 rfl rfl ?_
                        refine OwnK.iload X10 (n := 123) d3_121 rfl rfl ?_
                        refine OwnK.iadd X10 (n := 124) d3_123 rfl ?_
                        rw [show (((0 : Int32) + (8 : Int32)) : Int32) = (8 : Int32) from by decide]
                        refine OwnK.iload X10 (n := 126) d3_124 rfl rfl ?_
                        refine OwnK.isub X10 (n := 127) d3_126 rfl ?_
                        rw [show (((8 : Int32) - (5 : Int32)) : Int32) = (3 : Int32) from by decide]
                        refine OwnK.if_ne X10  (n1 := 142) (n2 := 130) d3_127 (by decide) rfl rfl (fun _ => ?_) (fun q => absurd q ((by decide) : ¬ (3 : Int32) = 0))
                        refine OwnK.iloadN X10 (n := 143) d3_142 rfl rfl ?_
                        refine OwnK.bipush X10 (z := (8 : Int32)) (n := 145) d3_143 rfl rfl ?_
                        refine OwnK.ishl X10 (n := 146) d3_145 rfl ?_
                        refine OwnK.aloadN X10 (n := 147) d3_146 rfl rfl rfl ?_
                        refine OwnK.iload X10 (n := 149) d3_147 rfl rfl ?_
                        refine OwnK.baload X10 (i := 8) (v := (.int (bs.getD 8 0))) (n := 150) d3_149 A0 (own_nat (i := 8) (by omega)) (own_get bs (by omega)) rfl ?_
                        refine OwnK.sipush X10 (z := (255 : Int32)) (n := 153) d3_150 rfl rfl ?_
                        refine OwnK.iand X10 (n := 154) d3_153 rfl ?_
                        refine OwnK.ior X10 (n := 155) d3_154 rfl ?_
                        rw [show (((own_acc m1 m2 m3 3) <<< ((8 : Int32) &&& 31)) ||| ((bs.getD 8 0) &&& (255 : Int32))) = own_acc m1 m2 m3 4 from by rw [show bs.getD 8 0 &&& 255 = own_m m1 m2 m3 3 from w5 3 (by omega) (by omega) (by omega)]; rfl]
                        refine OwnK.istoreN X10 (l' := #[.val (.ref r0), .val (.int (Int32.ofNat N)), .val (.int (0 : Int32)), .val (.int (own_acc m1 m2 m3 4)), .val (.int (0 : Int32)), .val (.int (Int32.ofNat F1)), .val (.int (5 : Int32)), .val (.int (Int32.ofNat (min (5 + F1) N))), .val (.int (8 : Int32))]) (n := 156) d3_155 rfl rfl ?_
                        refine OwnK.iinc X10 (z := (1 : Int32)) (l' := #[.val (.ref r0), .val (.int (Int32.ofNat N)), .val (.int (0 : Int32)), .val (.int (own_acc m1 m2 m3 4)), .val (.int (0 : Int32)), .val (.int (Int32.ofNat F1)), .val (.int (5 : Int32)), .val (.int (Int32.ofNat (min (5 + F1) N))), .val (.int ((8 : Int32) + (1 : Int32)))]) (n := 159) d3_156 rfl rfl rfl rfl ?_
                        show Run _ _ _ _ _ _ _ _ (State.setTop _ (mkF m 159 #[.val (.ref r0), .val (.int (Int32.ofNat N)), .val (.int (0 : Int32)), .val (.int (own_acc m1 m2 m3 4)), .val (.int (0 : Int32)), .val (.int (Int32.ofNat F1)), .val (.int (5 : Int32)), .val (.int (Int32.ofNat (min (5 + F1) N))), .val (.int (9 : Int32))] []))
                        refine OwnK.goto X10 (n := 102) d3_159 (by decide) rfl ?_
                        refine OwnK.iload X10 (n := 104) d3_102 rfl rfl ?_
                        refine OwnK.iload X10 (n := 106) d3_104 rfl rfl ?_
                        refine OwnK.ic_ge X10  (n1 := 162) (n2 := 109) d3_106 (by decide) rfl rfl (fun hc106_94 => ?_) (fun hc106_94 => ?_)
                        · have kk95 : ¬ 9 < (min (5 + F1) N) := fun q => hc106_94 ((own_lt (i := 9) (n := (min (5 + F1) N)) (by omega) (by omega)).mpr q)
                          exact J11 _ ((own_acc m1 m2 m3 4), (9 : Int32)) X10 ⟨(own_acc_full (by omega)).symm, fun _ => by omega⟩
                        · have kk96 : 9 < (min (5 + F1) N) := (own_lt (i := 9) (n := (min (5 + F1) N)) (by omega) (by omega)).mp hc106_94
                          refine OwnK.iloadN X10 (n := 110) d3_109 rfl rfl ?_
                          refine OwnK.iload X10 (n := 112) d3_110 rfl rfl ?_
                          refine OwnK.iadd X10 (n := 113) d3_112 rfl ?_
                          rw [show (((0 : Int32) + (9 : Int32)) : Int32) = (9 : Int32) from by decide]
                          refine OwnK.iload X10 (n := 115) d3_113 rfl rfl ?_
                          refine OwnK.isub X10 (n := 116) d3_115 rfl ?_
                          rw [show (((9 : Int32) - (5 : Int32)) : Int32) = (4 : Int32) from by decide]
                          refine OwnK.iconst X10 (z := (4 : Int32)) (n := 117) d3_116 rfl rfl ?_
                          refine OwnK.ic_ge X10  (n1 := 162) (n2 := 120) d3_117 (by decide) rfl rfl (fun _ => ?_) (fun q => absurd q ((by decide) : ¬ (4 : Int32) < (4 : Int32)))
                          exact J11 _ ((own_acc m1 m2 m3 4), (9 : Int32)) X10 ⟨(own_acc_full (by omega)).symm, fun _ => by omega⟩
                · have kk97 : ¬ T = 1 := fun q => hc135 ((w4 (by omega)).mpr q)
                  refine OwnK.getstatic X10 (n := 141) d3_138 (hw _ (List.mem_of_getElem? (i := 28) rfl)) Via.refl (S_OTHER.ext O0.2) rfl ?_
                  intro T98 X98
                  exact OwnK.areturn X98 rfl rfl rfl d3_141 ⟨congrArg Value.ref (own_ex5 (by first | assumption | omega) (by first | assumption | omega) (by first | assumption | omega) (by first | assumption | omega) (by first | assumption | omega) (by first | assumption | omega) (by first | assumption | omega)).symm, rfl⟩ (by decide) (by decide)
          · have kk99 : 16384 < F1 := (own_lt (i := 16384) (n := F1) (by omega) (by omega)).mp hc74
            refine OwnK.getstatic X0 (n := 80) d3_77 (hw _ (List.mem_of_getElem? (i := 28) rfl)) Via.refl (S_OTHER.ext O0.2) rfl ?_
            intro T100 X100
            exact OwnK.areturn X100 rfl rfl rfl d3_80 ⟨congrArg Value.ref (own_ex4 (by first | assumption | omega) (by first | assumption | omega) (by first | assumption | omega) (by first | assumption | omega)).symm, rfl⟩ (by decide) (by decide)
      · have kk101 : N < 5 := (own_lt (i := N) (n := 5) (by omega) (by omega)).mp hc31
        refine OwnK.getstatic X0 (n := 37) d3_34 (hw _ (List.mem_of_getElem? (i := 20) rfl)) Via.refl (S_PARTIAL.ext O0.2) rfl ?_
        intro T102 X102
        exact OwnK.areturn X102 rfl rfl rfl d3_37 ⟨congrArg Value.ref (own_ex3 (by first | assumption | omega) (by first | assumption | omega) (by first | assumption | omega)).symm, rfl⟩ (by decide) (by decide)
    · have kk103 : ¬ C1 = 22 := fun q => hc19 (w2.mpr q)
      refine OwnK.getstatic X0 (n := 25) d3_22 (hw _ (List.mem_of_getElem? (i := 28) rfl)) Via.refl (S_OTHER.ext O0.2) rfl ?_
      intro T104 X104
      exact OwnK.areturn X104 rfl rfl rfl d3_25 ⟨congrArg Value.ref (own_ex2 (by first | assumption | omega) (by first | assumption | omega)).symm, rfl⟩ (by decide) (by decide)
theorem pd__I_I : parseMethodDescriptor "(I)I" = some ⟨[.int], some .int⟩ := by decide +kernel
theorem pd__III_I_I_II_B : parseMethodDescriptor "(III[I[I[II)B" = some ⟨[.int, .int, .int, (.array .int), (.array .int), (.array .int), .int], some .byte⟩ := by decide +kernel
theorem pd___BI_Lcom_example_brygga_brygga_ClientHello_Framing_ : parseMethodDescriptor "([BI)Lcom/example/brygga/brygga/ClientHello$Framing;" = some ⟨[(.array .byte), .int], some (.object "com/example/brygga/brygga/ClientHello$Framing")⟩ := by decide +kernel
theorem pd__IIIIIIII_Lcom_example_brygga_brygga_ClientHello_Framing_ : parseMethodDescriptor "(IIIIIIII)Lcom/example/brygga/brygga/ClientHello$Framing;" = some ⟨[.int, .int, .int, .int, .int, .int, .int, .int], some (.object "com/example/brygga/brygga/ClientHello$Framing")⟩ := by decide +kernel
theorem ef_rm0 (m : MethodId) (x0 : Int32) (x1 : Int32) (x2 : Int64) (x3 : Int64) (x4 : Int64) : entryFrame m #[(.int x0), (.int x1), (.long x2), (.long x3), (.long x4)] maxLocals = mkF m 0 #[.val (.int x0), .val (.int x1), .val (.long x2), .second, .val (.long x3), .second, .val (.long x4), .second, .unset, .unset, .unset, .unset, .unset, .unset, .unset, .unset, .unset, .unset, .unset, .unset, .unset] [] := by first | (simp [entryFrame, mkF, argsToLocals, Value.category, maxLocals]; done) | rfl
set_option maxRecDepth 65536 in
set_option maxHeartbeats 40000000 in
theorem rm0 (l : Launch) (Z : State) (a0 : Array Value) (hw : ∀ d ∈ tables_1, d.before a0 Z = true) (ws : List Jvm.Cond) (p0 : Int32) (p1 : Int32) (q2 : Int64) (q3 : Int64) (q4 : Int64) (h0 : Heap) (n0 : Nat) (O0 : Old Z n0 h0) (a_PARTIAL : Addr) (S_PARTIAL : Sta Z Z.heap "com/example/brygga/brygga/ClientHello$Framing" "PARTIAL" "Lcom/example/brygga/brygga/ClientHello$Framing;" (.ref a_PARTIAL)) (E_PARTIAL : Exa Z Z.heap a_PARTIAL "com/example/brygga/brygga/ClientHello$Framing") (a_OTHER : Addr) (S_OTHER : Sta Z Z.heap "com/example/brygga/brygga/ClientHello$Framing" "OTHER" "Lcom/example/brygga/brygga/ClientHello$Framing;" (.ref a_OTHER)) (E_OTHER : Exa Z Z.heap a_OTHER "com/example/brygga/brygga/ClientHello$Framing") (a_WHOLE : Addr) (S_WHOLE : Sta Z Z.heap "com/example/brygga/brygga/ClientHello$Framing" "WHOLE" "Lcom/example/brygga/brygga/ClientHello$Framing;" (.ref a_WHOLE)) (E_WHOLE : Exa Z Z.heap a_WHOLE "com/example/brygga/brygga/ClientHello$Framing") :
    Ctr l Z x code maxLocals ret ws room_1 n0 #[(.int p0), (.int p1), (.long q2), (.long q3), (.long q4)] h0 (Rt (fun w h => w = .int 1)) := by
  refine Ctr.of (plainFor_of_name pn_com_example_brygga_brygga_ClientHelloOfPinLaw) (fun m => ef_rm0 m p0 p1 q2 q3 q4) ?_
  intro p e s m below meth c T0 X0
  have Z0 : Keep h0 h0 [] := Keep.refl _ _
  refine OwnK.iloadN X0 (n := 1) at_0 rfl rfl ?_
  refine OwnK.ldc X0 (n := 3) at_1 (hw _ (List.mem_of_getElem? (i := 0) rfl)) rfl ?_
  refine OwnK.iand X0 (n := 4) at_3 rfl ?_
  refine OwnK.bipush X0 (z := (17 : Int32)) (n := 6) at_4 rfl rfl ?_
  refine OwnK.irem X0 (n := 7) at_6 (by decide) rfl ?_
  obtain ⟨N, eN, hN⟩ := own_16n p0
  rw [eN]
  refine OwnK.istore X0 (l' := #[.val (.int p0), .val (.int p1), .val (.long q2), .second, .val (.long q3), .second, .val (.long q4), .second, .val (.int (Int32.ofNat N)), .unset, .unset, .unset, .unset, .unset, .unset, .unset, .unset, .unset, .unset, .unset, .unset]) (n := 9) at_7 rfl rfl ?_
  refine OwnK.joinT X0 (fun (C1 : Nat) => C1 ≤ 255) (fun (C1 : Nat) => mkF m 27 #[.val (.int p0), .val (.int p1), .val (.long q2), .second, .val (.long q3), .second, .val (.long q4), .second, .val (.int (Int32.ofNat N)), .unset, .unset, .unset, .unset, .unset, .unset, .unset, .unset, .unset, .unset, .unset, .unset] [(.int (Int32.ofNat C1))]) ?_ ?_
  · intro T1 C1 X1 hj27
    have hC1 := hj27
    refine OwnK.istore X1 (l' := #[.val (.int p0), .val (.int p1), .val (.long q2), .second, .val (.long q3), .second, .val (.long q4), .second, .val (.int (Int32.ofNat N)), .val (.int (Int32.ofNat C1)), .unset, .unset, .unset, .unset, .unset, .unset, .unset, .unset, .unset, .unset, .unset]) (n := 29) at_27 rfl rfl ?_
    refine OwnK.joinT X1 (fun (C2 : Nat) => C2 ≤ 255) (fun (C2 : Nat) => mkF m 50 #[.val (.int p0), .val (.int p1), .val (.long q2), .second, .val (.long q3), .second, .val (.long q4), .second, .val (.int (Int32.ofNat N)), .val (.int (Int32.ofNat C1)), .unset, .unset, .unset, .unset, .unset, .unset, .unset, .unset, .unset, .unset, .unset] [(.int (Int32.ofNat C2))]) ?_ ?_
    · intro T2 C2 X2 hj50
      have hC2 := hj50
      refine OwnK.istore X2 (l' := #[.val (.int p0), .val (.int p1), .val (.long q2), .second, .val (.long q3), .second, .val (.long q4), .second, .val (.int (Int32.ofNat N)), .val (.int (Int32.ofNat C1)), .val (.int (Int32.ofNat C2)), .unset, .unset, .unset, .unset, .unset, .unset, .unset, .unset, .unset, .unset]) (n := 52) at_50 rfl rfl ?_
      refine OwnK.joinT X2 (fun (C3 : Nat) => C3 ≤ 255) (fun (C3 : Nat) => mkF m 72 #[.val (.int p0), .val (.int p1), .val (.long q2), .second, .val (.long q3), .second, .val (.long q4), .second, .val (.int (Int32.ofNat N)), .val (.int (Int32.ofNat C1)), .val (.int (Int32.ofNat C2)), .unset, .unset, .unset, .unset, .unset, .unset, .unset, .unset, .unset, .unset] [(.int (Int32.ofNat C3))]) ?_ ?_
      · intro T3 C3 X3 hj72
        have hC3 := hj72
        refine OwnK.istore X3 (l' := #[.val (.int p0), .val (.int p1), .val (.long q2), .second, .val (.long q3), .second, .val (.long q4), .second, .val (.int (Int32.ofNat N)), .val (.int (Int32.ofNat C1)), .val (.int (Int32.ofNat C2)), .val (.int (Int32.ofNat C3)), .unset, .unset, .unset, .unset, .unset, .unset, .unset, .unset, .unset]) (n := 74) at_72 rfl rfl ?_
        refine OwnK.lloadN X3 (n := 75) at_74 rfl rfl ?_
        refine OwnK.l2i X3 (n := 76) at_75 rfl ?_
        refine OwnK.call_static_v X3 (z := (⟨"com/example/brygga/brygga/ClientHelloOfPinLaw", "fragment", "(I)I"⟩ : MethodName)) (n := 79) at_76 (hw _ (List.mem_of_getElem? (i := 2) rfl)) (hw _ (List.mem_of_getElem? (i := 3) rfl)) (hw _ (List.mem_of_getElem? (i := 5) rfl)) (hw _ (List.mem_of_getElem? (i := 4) rfl)) (by decide) (rm1 l Z a0 hw [] (q2.toInt32) h0 n0) (argsL := [(.int (q2.toInt32))]) (rest := []) rfl rfl (OwnK.lenA pd__I_I rfl) (W := 0) (Nat.le_of_eq rfl) (by decide) (by decide) (by decide) (by decide) rfl ?_
        intro T4 h4 w4 X4 ⟨F1, q1, hF1, q2⟩
        subst q1 q2
        refine OwnK.istore X4 (l' := #[.val (.int p0), .val (.int p1), .val (.long q2), .second, .val (.long q3), .second, .val (.long q4), .second, .val (.int (Int32.ofNat N)), .val (.int (Int32.ofNat C1)), .val (.int (Int32.ofNat C2)), .val (.int (Int32.ofNat C3)), .val (.int (Int32.ofNat F1)), .unset, .unset, .unset, .unset, .unset, .unset, .unset, .unset]) (n := 81) at_79 rfl rfl ?_
        refine OwnK.lloadN X4 (n := 82) at_81 rfl rfl ?_
        refine OwnK.bipush X4 (z := (32 : Int32)) (n := 84) at_82 rfl rfl ?_
        refine OwnK.lushr X4 (n := 85) at_84 rfl ?_
        refine OwnK.l2i X4 (n := 86) at_85 rfl ?_
        refine OwnK.call_static_v X4 (z := (⟨"com/example/brygga/brygga/ClientHelloOfPinLaw", "fragment", "(I)I"⟩ : MethodName)) (n := 89) at_86 (hw _ (List.mem_of_getElem? (i := 2) rfl)) (hw _ (List.mem_of_getElem? (i := 3) rfl)) (hw _ (List.mem_of_getElem? (i := 5) rfl)) (hw _ (List.mem_of_getElem? (i := 4) rfl)) (by decide) (rm1 l Z a0 hw [] (((q2.toUInt64 >>> ((32 : Int32) &&& 0x3f).toInt64.toUInt64).toInt64).toInt32) h0 n0) (argsL := [(.int (((q2.toUInt64 >>> ((32 : Int32) &&& 0x3f).toInt64.toUInt64).toInt64).toInt32))]) (rest := []) rfl rfl (OwnK.lenA pd__I_I rfl) (W := 0) (Nat.le_of_eq rfl) (by decide) (by decide) (by decide) (by decide) rfl ?_
        intro T5 h5 w5 X5 ⟨F2, q1, hF2, q2⟩
        subst q1 q2
        refine OwnK.istore X5 (l' := #[.val (.int p0), .val (.int p1), .val (.long q2), .second, .val (.long q3), .second, .val (.long q4), .second, .val (.int (Int32.ofNat N)), .val (.int (Int32.ofNat C1)), .val (.int (Int32.ofNat C2)), .val (.int (Int32.ofNat C3)), .val (.int (Int32.ofNat F1)), .val (.int (Int32.ofNat F2)), .unset, .unset, .unset, .unset, .unset, .unset, .unset]) (n := 91) at_89 rfl rfl ?_
        refine OwnK.joinT X5 (fun (T : Nat) => T ≤ 255) (fun (T : Nat) => mkF m 113 #[.val (.int p0), .val (.int p1), .val (.long q2), .second, .val (.long q3), .second, .val (.long q4), .second, .val (.int (Int32.ofNat N)), .val (.int (Int32.ofNat C1)), .val (.int (Int32.ofNat C2)), .val (.int (Int32.ofNat C3)), .val (.int (Int32.ofNat F1)), .val (.int (Int32.ofNat F2)), .unset, .unset, .unset, .unset, .unset, .unset, .unset] [(.int (Int32.ofNat T))]) ?_ ?_
        · intro T6 T X6 hj113
          have hT := hj113
          refine OwnK.istore X6 (l' := #[.val (.int p0), .val (.int p1), .val (.long q2), .second, .val (.long q3), .second, .val (.long q4), .second, .val (.int (Int32.ofNat N)), .val (.int (Int32.ofNat C1)), .val (.int (Int32.ofNat C2)), .val (.int (Int32.ofNat C3)), .val (.int (Int32.ofNat F1)), .val (.int (Int32.ofNat F2)), .val (.int (Int32.ofNat T)), .unset, .unset, .unset, .unset, .unset, .unset]) (n := 115) at_113 rfl rfl ?_
          refine OwnK.joinT X6 (fun (D : Nat) => D ≤ 16777215) (fun (D : Nat) => mkF m 153 #[.val (.int p0), .val (.int p1), .val (.long q2), .second, .val (.long q3), .second, .val (.long q4), .second, .val (.int (Int32.ofNat N)), .val (.int (Int32.ofNat C1)), .val (.int (Int32.ofNat C2)), .val (.int (Int32.ofNat C3)), .val (.int (Int32.ofNat F1)), .val (.int (Int32.ofNat F2)), .val (.int (Int32.ofNat T)), .unset, .unset, .unset, .unset, .unset, .unset] [(.int (Int32.ofNat D))]) ?_ ?_
          · intro T7 D X7 hj153
            have hD := hj153
            refine OwnK.istore X7 (l' := #[.val (.int p0), .val (.int p1), .val (.long q2), .second, .val (.long q3), .second, .val (.long q4), .second, .val (.int (Int32.ofNat N)), .val (.int (Int32.ofNat C1)), .val (.int (Int32.ofNat C2)), .val (.int (Int32.ofNat C3)), .val (.int (Int32.ofNat F1)), .val (.int (Int32.ofNat F2)), .val (.int (Int32.ofNat T)), .val (.int (Int32.ofNat D)), .unset, .unset, .unset, .unset, .unset]) (n := 155) at_153 rfl rfl ?_
            refine OwnK.iconst X7 (z := (5 : Int32)) (n := 156) at_155 rfl rfl ?_
            refine OwnK.newarray X7 (len := 5) (cap := 5) (n := 158) at_156 (hw _ (List.mem_of_getElem? (i := 11) rfl)) rfl (by decide) (by decide) (by decide) (by decide) rfl ?_
            intro T8 h8 b8 gb8 X8 E8 A8
            have ge_b8 : n0 ≤ b8 := by rw [gb8]; exact OwnK.oldLe O0
            have K8 := (kExt E8)
            have O8 := O0.keep K8 all0
            have Z8 : Keep h0 h8 [] := Z0.trans K8 (fun x hx => nomatch hx)
            have sz_b8 : h0.size ≤ b8 := by rw [gb8]; exact Z0.1
            replace A8 : Ark Z h8 b8 .int [(.int (0 : Int32)), (.int (0 : Int32)), (.int (0 : Int32)), (.int (0 : Int32)), (.int (0 : Int32))] := A8
            refine OwnK.dup X8 (n := 159) at_158 rfl rfl ?_
            refine OwnK.iconst X8 (z := (0 : Int32)) (n := 160) at_159 rfl rfl ?_
            refine OwnK.iload X8 (n := 162) at_160 rfl rfl ?_
            refine OwnK.iastore X8 (i := 0) (z := (Int32.ofNat C1)) (n := 163) at_162 A8 rfl (Nat.le_of_ble_eq_true rfl) rfl ge_b8 rfl ?_
            intro T9 h9 X9 W9 A9
            have K9 := (Keep.of_wr W9)
            have O9 := O8.keep K9 (allS ge_b8 all0)
            have Z9 : Keep h0 h9 [] := Z8.trans K9 (allS (P := fun x => x ∈ [] ∨ h0.size ≤ x) (Or.inr sz_b8) all0)
            replace A9 : Ark Z h9 b8 .int [(.int (Int32.ofNat C1)), (.int (0 : Int32)), (.int (0 : Int32)), (.int (0 : Int32)), (.int (0 : Int32))] := A9
            refine OwnK.dup X9 (n := 164) at_163 rfl rfl ?_
            refine OwnK.iconst X9 (z := (1 : Int32)) (n := 165) at_164 rfl rfl ?_
            refine OwnK.lload X9 (n := 167) at_165 rfl rfl ?_
            refine OwnK.bipush X9 (z := (56 : Int32)) (n := 169) at_167 rfl rfl ?_
            refine OwnK.lushr X9 (n := 170) at_169 rfl ?_
            refine OwnK.ldc2 X9 (n := 173) at_170 (hw _ (List.mem_of_getElem? (i := 7) rfl)) rfl ?_
            refine OwnK.land X9 (n := 174) at_173 rfl ?_
            refine OwnK.l2i X9 (n := 175) at_174 rfl ?_
            refine OwnK.iastore X9 (i := 1) (z := ((((q4.toUInt64 >>> ((56 : Int32) &&& 0x3f).toInt64.toUInt64).toInt64) &&& (255 : Int64)).toInt32)) (n := 176) at_175 A9 rfl (Nat.le_of_ble_eq_true rfl) rfl ge_b8 rfl ?_
            intro T10 h10 X10 W10 A10
            have K10 := (Keep.of_wr W10)
            have O10 := O9.keep K10 (allS ge_b8 all0)
            have Z10 : Keep h0 h10 [] := Z9.trans K10 (allS (P := fun x => x ∈ [] ∨ h0.size ≤ x) (Or.inr sz_b8) all0)
            replace A10 : Ark Z h10 b8 .int [(.int (Int32.ofNat C1)), (.int ((((q4.toUInt64 >>> ((56 : Int32) &&& 0x3f).toInt64.toUInt64).toInt64) &&& (255 : Int64)).toInt32)), (.int (0 : Int32)), (.int (0 : Int32)), (.int (0 : Int32))] := A10
            refine OwnK.dup X10 (n := 177) at_176 rfl rfl ?_
            refine OwnK.iconst X10 (z := (2 : Int32)) (n := 178) at_177 rfl rfl ?_
            refine OwnK.lload X10 (n := 180) at_178 rfl rfl ?_
            refine OwnK.bipush X10 (z := (34 : Int32)) (n := 182) at_180 rfl rfl ?_
            refine OwnK.lushr X10 (n := 183) at_182 rfl ?_
            refine OwnK.ldc2 X10 (n := 186) at_183 (hw _ (List.mem_of_getElem? (i := 7) rfl)) rfl ?_
            refine OwnK.land X10 (n := 187) at_186 rfl ?_
            refine OwnK.l2i X10 (n := 188) at_187 rfl ?_
            refine OwnK.iastore X10 (i := 2) (z := ((((q3.toUInt64 >>> ((34 : Int32) &&& 0x3f).toInt64.toUInt64).toInt64) &&& (255 : Int64)).toInt32)) (n := 189) at_188 A10 rfl (Nat.le_of_ble_eq_true rfl) rfl ge_b8 rfl ?_
            intro T11 h11 X11 W11 A11
            have K11 := (Keep.of_wr W11)
            have O11 := O10.keep K11 (allS ge_b8 all0)
            have Z11 : Keep h0 h11 [] := Z10.trans K11 (allS (P := fun x => x ∈ [] ∨ h0.size ≤ x) (Or.inr sz_b8) all0)
            replace A11 : Ark Z h11 b8 .int [(.int (Int32.ofNat C1)), (.int ((((q4.toUInt64 >>> ((56 : Int32) &&& 0x3f).toInt64.toUInt64).toInt64) &&& (255 : Int64)).toInt32)), (.int ((((q3.toUInt64 >>> ((34 : Int32) &&& 0x3f).toInt64.toUInt64).toInt64) &&& (255 : Int64)).toInt32)), (.int (0 : Int32)), (.int (0 : Int32))] := A11
            refine OwnK.dup X11 (n := 190) at_189 rfl rfl ?_
            refine OwnK.iconst X11 (z := (3 : Int32)) (n := 191) at_190 rfl rfl ?_
            refine OwnK.iload X11 (n := 193) at_191 rfl rfl ?_
            refine OwnK.bipush X11 (z := (8 : Int32)) (n := 195) at_193 rfl rfl ?_
            refine OwnK.iushr X11 (n := 196) at_195 rfl ?_
            refine OwnK.iastore X11 (i := 3) (z := (((Int32.ofNat F1).toUInt32 >>> ((8 : Int32) &&& 31).toUInt32).toInt32)) (n := 197) at_196 A11 rfl (Nat.le_of_ble_eq_true rfl) rfl ge_b8 rfl ?_
            intro T12 h12 X12 W12 A12
            have K12 := (Keep.of_wr W12)
            have O12 := O11.keep K12 (allS ge_b8 all0)
            have Z12 : Keep h0 h12 [] := Z11.trans K12 (allS (P := fun x => x ∈ [] ∨ h0.size ≤ x) (Or.inr sz_b8) all0)
            replace A12 : Ark Z h12 b8 .int [(.int (Int32.ofNat C1)), (.int ((((q4.toUInt64 >>> ((56 : Int32) &&& 0x3f).toInt64.toUInt64).toInt64) &&& (255 : Int64)).toInt32)), (.int ((((q3.toUInt64 >>> ((34 : Int32) &&& 0x3f).toInt64.toUInt64).toInt64) &&& (255 : Int64)).toInt32)), (.int (((Int32.ofNat F1).toUInt32 >>> ((8 : Int32) &&& 31).toUInt32).toInt32)), (.int (0 : Int32))] := A12
            refine OwnK.dup X12 (n := 198) at_197 rfl rfl ?_
            refine OwnK.iconst X12 (z := (4 : Int32)) (n := 199) at_198 rfl rfl ?_
            refine OwnK.iload X12 (n := 201) at_199 rfl rfl ?_
            refine OwnK.sipush X12 (z := (255 : Int32)) (n := 204) at_201 rfl rfl ?_
            refine OwnK.iand X12 (n := 205) at_204 rfl ?_
            refine OwnK.iastore X12 (i := 4) (z := ((Int32.ofNat F1) &&& (255 : Int32))) (n := 206) at_205 A12 rfl (Nat.le_of_ble_eq_true rfl) rfl ge_b8 rfl ?_
            intro T13 h13 X13 W13 A13
            have K13 := (Keep.of_wr W13)
            have O13 := O12.keep K13 (allS ge_b8 all0)
            have Z13 : Keep h0 h13 [] := Z12.trans K13 (allS (P := fun x => x ∈ [] ∨ h0.size ≤ x) (Or.inr sz_b8) all0)
            replace A13 : Ark Z h13 b8 .int [(.int (Int32.ofNat C1)), (.int ((((q4.toUInt64 >>> ((56 : Int32) &&& 0x3f).toInt64.toUInt64).toInt64) &&& (255 : Int64)).toInt32)), (.int ((((q3.toUInt64 >>> ((34 : Int32) &&& 0x3f).toInt64.toUInt64).toInt64) &&& (255 : Int64)).toInt32)), (.int (((Int32.ofNat F1).toUInt32 >>> ((8 : Int32) &&& 31).toUInt32).toInt32)), (.int ((Int32.ofNat F1) &&& (255 : Int32)))] := A13
            obtain ⟨L1, eL1⟩ : ∃ L : List Int32, L = [(Int32.ofNat C1), ((((q4.toUInt64 >>> ((56 : Int32) &&& 0x3f).toInt64.toUInt64).toInt64) &&& (255 : Int64)).toInt32), ((((q3.toUInt64 >>> ((34 : Int32) &&& 0x3f).toInt64.toUInt64).toInt64) &&& (255 : Int64)).toInt32), (((Int32.ofNat F1).toUInt32 >>> ((8 : Int32) &&& 31).toUInt32).toInt32), ((Int32.ofNat F1) &&& (255 : Int32))] := ⟨_, rfl⟩
            have AL1 : Ark Z h13 b8 .int (L1.map Value.int) := by rw [eL1]; exact A13
            have lL1 : L1.length = 5 := by rw [eL1]; rfl
            refine OwnK.astore X13 (l' := #[.val (.int p0), .val (.int p1), .val (.long q2), .second, .val (.long q3), .second, .val (.long q4), .second, .val (.int (Int32.ofNat N)), .val (.int (Int32.ofNat C1)), .val (.int (Int32.ofNat C2)), .val (.int (Int32.ofNat C3)), .val (.int (Int32.ofNat F1)), .val (.int (Int32.ofNat F2)), .val (.int (Int32.ofNat T)), .val (.int (Int32.ofNat D)), .val (.ref b8), .unset, .unset, .unset, .unset]) (n := 208) at_206 rfl rfl rfl ?_
            refine OwnK.iconst X13 (z := (5 : Int32)) (n := 209) at_208 rfl rfl ?_
            refine OwnK.newarray X13 (len := 5) (cap := 5) (n := 211) at_209 (hw _ (List.mem_of_getElem? (i := 11) rfl)) rfl (by decide) (by decide) (by decide) (by decide) rfl ?_
            intro T14 h14 b14 gb14 X14 E14 A14
            have ne_b8_b14 : b8 ≠ b14 := by rw [gb14]; exact Nat.ne_of_lt AL1.lt
            have ge_b14 : n0 ≤ b14 := by rw [gb14]; exact OwnK.oldLe O13
            have K14 := (kExt E14)
            have O14 := O13.keep K14 all0
            have Z14 : Keep h0 h14 [] := Z13.trans K14 (fun x hx => nomatch hx)
            have sz_b14 : h0.size ≤ b14 := by rw [gb14]; exact Z13.1
            replace A14 : Ark Z h14 b14 .int [(.int (0 : Int32)), (.int (0 : Int32)), (.int (0 : Int32)), (.int (0 : Int32)), (.int (0 : Int32))] := A14
            refine OwnK.dup X14 (n := 212) at_211 rfl rfl ?_
            refine OwnK.iconst X14 (z := (0 : Int32)) (n := 213) at_212 rfl rfl ?_
            refine OwnK.iload X14 (n := 215) at_213 rfl rfl ?_
            refine OwnK.iastore X14 (i := 0) (z := (Int32.ofNat C2)) (n := 216) at_215 A14 rfl (Nat.le_of_ble_eq_true rfl) rfl ge_b14 rfl ?_
            intro T15 h15 X15 W15 A15
            have K15 := (Keep.of_wr W15)
            have O15 := O14.keep K15 (allS ge_b14 all0)
            have Z15 : Keep h0 h15 [] := Z14.trans K15 (allS (P := fun x => x ∈ [] ∨ h0.size ≤ x) (Or.inr sz_b14) all0)
            replace A15 : Ark Z h15 b14 .int [(.int (Int32.ofNat C2)), (.int (0 : Int32)), (.int (0 : Int32)), (.int (0 : Int32)), (.int (0 : Int32))] := A15
            refine OwnK.dup X15 (n := 217) at_216 rfl rfl ?_
            refine OwnK.iconst X15 (z := (1 : Int32)) (n := 218) at_217 rfl rfl ?_
            refine OwnK.lload X15 (n := 220) at_218 rfl rfl ?_
            refine OwnK.bipush X15 (z := (42 : Int32)) (n := 222) at_220 rfl rfl ?_
            refine OwnK.lushr X15 (n := 223) at_222 rfl ?_
            refine OwnK.ldc2 X15 (n := 226) at_223 (hw _ (List.mem_of_getElem? (i := 7) rfl)) rfl ?_
            refine OwnK.land X15 (n := 227) at_226 rfl ?_
            refine OwnK.l2i X15 (n := 228) at_227 rfl ?_
            refine OwnK.iastore X15 (i := 1) (z := ((((q3.toUInt64 >>> ((42 : Int32) &&& 0x3f).toInt64.toUInt64).toInt64) &&& (255 : Int64)).toInt32)) (n := 229) at_228 A15 rfl (Nat.le_of_ble_eq_true rfl) rfl ge_b14 rfl ?_
            intro T16 h16 X16 W16 A16
            have K16 := (Keep.of_wr W16)
            have O16 := O15.keep K16 (allS ge_b14 all0)
            have Z16 : Keep h0 h16 [] := Z15.trans K16 (allS (P := fun x => x ∈ [] ∨ h0.size ≤ x) (Or.inr sz_b14) all0)
            replace A16 : Ark Z h16 b14 .int [(.int (Int32.ofNat C2)), (.int ((((q3.toUInt64 >>> ((42 : Int32) &&& 0x3f).toInt64.toUInt64).toInt64) &&& (255 : Int64)).toInt32)), (.int (0 : Int32)), (.int (0 : Int32)), (.int (0 : Int32))] := A16
            refine OwnK.dup X16 (n := 230) at_229 rfl rfl ?_
            refine OwnK.iconst X16 (z := (2 : Int32)) (n := 231) at_230 rfl rfl ?_
            refine OwnK.lload X16 (n := 233) at_231 rfl rfl ?_
            refine OwnK.bipush X16 (z := (50 : Int32)) (n := 235) at_233 rfl rfl ?_
            refine OwnK.lushr X16 (n := 236) at_235 rfl ?_
            refine OwnK.ldc2 X16 (n := 239) at_236 (hw _ (List.mem_of_getElem? (i := 7) rfl)) rfl ?_
            refine OwnK.land X16 (n := 240) at_239 rfl ?_
            refine OwnK.l2i X16 (n := 241) at_240 rfl ?_
            refine OwnK.iastore X16 (i := 2) (z := ((((q3.toUInt64 >>> ((50 : Int32) &&& 0x3f).toInt64.toUInt64).toInt64) &&& (255 : Int64)).toInt32)) (n := 242) at_241 A16 rfl (Nat.le_of_ble_eq_true rfl) rfl ge_b14 rfl ?_
            intro T17 h17 X17 W17 A17
            have K17 := (Keep.of_wr W17)
            have O17 := O16.keep K17 (allS ge_b14 all0)
            have Z17 : Keep h0 h17 [] := Z16.trans K17 (allS (P := fun x => x ∈ [] ∨ h0.size ≤ x) (Or.inr sz_b14) all0)
            replace A17 : Ark Z h17 b14 .int [(.int (Int32.ofNat C2)), (.int ((((q3.toUInt64 >>> ((42 : Int32) &&& 0x3f).toInt64.toUInt64).toInt64) &&& (255 : Int64)).toInt32)), (.int ((((q3.toUInt64 >>> ((50 : Int32) &&& 0x3f).toInt64.toUInt64).toInt64) &&& (255 : Int64)).toInt32)), (.int (0 : Int32)), (.int (0 : Int32))] := A17
            refine OwnK.dup X17 (n := 243) at_242 rfl rfl ?_
            refine OwnK.iconst X17 (z := (3 : Int32)) (n := 244) at_243 rfl rfl ?_
            refine OwnK.iload X17 (n := 246) at_244 rfl rfl ?_
            refine OwnK.bipush X17 (z := (8 : Int32)) (n := 248) at_246 rfl rfl ?_
            refine OwnK.iushr X17 (n := 249) at_248 rfl ?_
            refine OwnK.iastore X17 (i := 3) (z := (((Int32.ofNat F2).toUInt32 >>> ((8 : Int32) &&& 31).toUInt32).toInt32)) (n := 250) at_249 A17 rfl (Nat.le_of_ble_eq_true rfl) rfl ge_b14 rfl ?_
            intro T18 h18 X18 W18 A18
            have K18 := (Keep.of_wr W18)
            have O18 := O17.keep K18 (allS ge_b14 all0)
            have Z18 : Keep h0 h18 [] := Z17.trans K18 (allS (P := fun x => x ∈ [] ∨ h0.size ≤ x) (Or.inr sz_b14) all0)
            replace A18 : Ark Z h18 b14 .int [(.int (Int32.ofNat C2)), (.int ((((q3.toUInt64 >>> ((42 : Int32) &&& 0x3f).toInt64.toUInt64).toInt64) &&& (255 : Int64)).toInt32)), (.int ((((q3.toUInt64 >>> ((50 : Int32) &&& 0x3f).toInt64.toUInt64).toInt64) &&& (255 : Int64)).toInt32)), (.int (((Int32.ofNat F2).toUInt32 >>> ((8 : Int32) &&& 31).toUInt32).toInt32)), (.int (0 : Int32))] := A18
            refine OwnK.dup X18 (n := 251) at_250 rfl rfl ?_
            refine OwnK.iconst X18 (z := (4 : Int32)) (n := 252) at_251 rfl rfl ?_
            refine OwnK.iload X18 (n := 254) at_252 rfl rfl ?_
            refine OwnK.sipush X18 (z := (255 : Int32)) (n := 257) at_254 rfl rfl ?_
            refine OwnK.iand X18 (n := 258) at_257 rfl ?_
            refine OwnK.iastore X18 (i := 4) (z := ((Int32.ofNat F2) &&& (255 : Int32))) (n := 259) at_258 A18 rfl (Nat.le_of_ble_eq_true rfl) rfl ge_b14 rfl ?_
            intro T19 h19 X19 W19 A19
            have K19 := (Keep.of_wr W19)
            have O19 := O18.keep K19 (allS ge_b14 all0)
            have Z19 : Keep h0 h19 [] := Z18.trans K19 (allS (P := fun x => x ∈ [] ∨ h0.size ≤ x) (Or.inr sz_b14) all0)
            replace A19 : Ark Z h19 b14 .int [(.int (Int32.ofNat C2)), (.int ((((q3.toUInt64 >>> ((42 : Int32) &&& 0x3f).toInt64.toUInt64).toInt64) &&& (255 : Int64)).toInt32)), (.int ((((q3.toUInt64 >>> ((50 : Int32) &&& 0x3f).toInt64.toUInt64).toInt64) &&& (255 : Int64)).toInt32)), (.int (((Int32.ofNat F2).toUInt32 >>> ((8 : Int32) &&& 31).toUInt32).toInt32)), (.int ((Int32.ofNat F2) &&& (255 : Int32)))] := A19
            obtain ⟨L3, eL3⟩ : ∃ L : List Int32, L = [(Int32.ofNat C2), ((((q3.toUInt64 >>> ((42 : Int32) &&& 0x3f).toInt64.toUInt64).toInt64) &&& (255 : Int64)).toInt32), ((((q3.toUInt64 >>> ((50 : Int32) &&& 0x3f).toInt64.toUInt64).toInt64) &&& (255 : Int64)).toInt32), (((Int32.ofNat F2).toUInt32 >>> ((8 : Int32) &&& 31).toUInt32).toInt32), ((Int32.ofNat F2) &&& (255 : Int32))] := ⟨_, rfl⟩
            have AL3 : Ark Z h19 b14 .int (L3.map Value.int) := by rw [eL3]; exact A19
            have lL3 : L3.length = 5 := by rw [eL3]; rfl
            refine OwnK.astore X19 (l' := #[.val (.int p0), .val (.int p1), .val (.long q2), .second, .val (.long q3), .second, .val (.long q4), .second, .val (.int (Int32.ofNat N)), .val (.int (Int32.ofNat C1)), .val (.int (Int32.ofNat C2)), .val (.int (Int32.ofNat C3)), .val (.int (Int32.ofNat F1)), .val (.int (Int32.ofNat F2)), .val (.int (Int32.ofNat T)), .val (.int (Int32.ofNat D)), .val (.ref b8), .val (.ref b14), .unset, .unset, .unset]) (n := 261) at_259 rfl rfl rfl ?_
            refine OwnK.bipush X19 (z := (11 : Int32)) (n := 263) at_261 rfl rfl ?_
            refine OwnK.newarray X19 (len := 11) (cap := 11) (n := 265) at_263 (hw _ (List.mem_of_getElem? (i := 11) rfl)) rfl (by decide) (by decide) (by decide) (by decide) rfl ?_
            intro T20 h20 b20 gb20 X20 E20 A20
            have fk21 := ((((((AL1.keep K14 nin0).keep K15 (ninS ne_b8_b14 nin0)).keep K16 (ninS ne_b8_b14 nin0)).keep K17 (ninS ne_b8_b14 nin0)).keep K18 (ninS ne_b8_b14 nin0)).keep K19 (ninS ne_b8_b14 nin0))
            have ne_b8_b20 : b8 ≠ b20 := by rw [gb20]; exact Nat.ne_of_lt fk21.lt
            have ne_b14_b20 : b14 ≠ b20 := by rw [gb20]; exact Nat.ne_of_lt AL3.lt
            have ge_b20 : n0 ≤ b20 := by rw [gb20]; exact OwnK.oldLe O19
            have K20 := (kExt E20)
            have O20 := O19.keep K20 all0
            have Z20 : Keep h0 h20 [] := Z19.trans K20 (fun x hx => nomatch hx)
            have sz_b20 : h0.size ≤ b20 := by rw [gb20]; exact Z19.1
            replace A20 : Ark Z h20 b20 .int [(.int (0 : Int32)), (.int (0 : Int32)), (.int (0 : Int32)), (.int (0 : Int32)), (.int (0 : Int32)), (.int (0 : Int32)), (.int (0 : Int32)), (.int (0 : Int32)), (.int (0 : Int32)), (.int (0 : Int32)), (.int (0 : Int32))] := A20
            refine OwnK.dup X20 (n := 266) at_265 rfl rfl ?_
            refine OwnK.iconst X20 (z := (0 : Int32)) (n := 267) at_266 rfl rfl ?_
            refine OwnK.iload X20 (n := 269) at_267 rfl rfl ?_
            refine OwnK.iastore X20 (i := 0) (z := (Int32.ofNat T)) (n := 270) at_269 A20 rfl (Nat.le_of_ble_eq_true rfl) rfl ge_b20 rfl ?_
            intro T22 h22 X22 W22 A22
            have K22 := (Keep.of_wr W22)
            have O22 := O20.keep K22 (allS ge_b20 all0)
            have Z22 : Keep h0 h22 [] := Z20.trans K22 (allS (P := fun x => x ∈ [] ∨ h0.size ≤ x) (Or.inr sz_b20) all0)
            replace A22 : Ark Z h22 b20 .int [(.int (Int32.ofNat T)), (.int (0 : Int32)), (.int (0 : Int32)), (.int (0 : Int32)), (.int (0 : Int32)), (.int (0 : Int32)), (.int (0 : Int32)), (.int (0 : Int32)), (.int (0 : Int32)), (.int (0 : Int32)), (.int (0 : Int32))] := A22
            refine OwnK.dup X22 (n := 271) at_270 rfl rfl ?_
            refine OwnK.iconst X22 (z := (1 : Int32)) (n := 272) at_271 rfl rfl ?_
            refine OwnK.iload X22 (n := 274) at_272 rfl rfl ?_
            refine OwnK.bipush X22 (z := (16 : Int32)) (n := 276) at_274 rfl rfl ?_
            refine OwnK.iushr X22 (n := 277) at_276 rfl ?_
            refine OwnK.iastore X22 (i := 1) (z := (((Int32.ofNat D).toUInt32 >>> ((16 : Int32) &&& 31).toUInt32).toInt32)) (n := 278) at_277 A22 rfl (Nat.le_of_ble_eq_true rfl) rfl ge_b20 rfl ?_
            intro T23 h23 X23 W23 A23
            have K23 := (Keep.of_wr W23)
            have O23 := O22.keep K23 (allS ge_b20 all0)
            have Z23 : Keep h0 h23 [] := Z22.trans K23 (allS (P := fun x => x ∈ [] ∨ h0.size ≤ x) (Or.inr sz_b20) all0)
            replace A23 : Ark Z h23 b20 .int [(.int (Int32.ofNat T)), (.int (((Int32.ofNat D).toUInt32 >>> ((16 : Int32) &&& 31).toUInt32).toInt32)), (.int (0 : Int32)), (.int (0 : Int32)), (.int (0 : Int32)), (.int (0 : Int32)), (.int (0 : Int32)), (.int (0 : Int32)), (.int (0 : Int32)), (.int (0 : Int32)), (.int (0 : Int32))] := A23
            refine OwnK.dup X23 (n := 279) at_278 rfl rfl ?_
            refine OwnK.iconst X23 (z := (2 : Int32)) (n := 280) at_279 rfl rfl ?_
            refine OwnK.iload X23 (n := 282) at_280 rfl rfl ?_
            refine OwnK.bipush X23 (z := (8 : Int32)) (n := 284) at_282 rfl rfl ?_
            refine OwnK.iushr X23 (n := 285) at_284 rfl ?_
            refine OwnK.sipush X23 (z := (255 : Int32)) (n := 288) at_285 rfl rfl ?_
            refine OwnK.iand X23 (n := 289) at_288 rfl ?_
            refine OwnK.iastore X23 (i := 2) (z := ((((Int32.ofNat D).toUInt32 >>> ((8 : Int32) &&& 31).toUInt32).toInt32) &&& (255 : Int32))) (n := 290) at_289 A23 rfl (Nat.le_of_ble_eq_true rfl) rfl ge_b20 rfl ?_
            intro T24 h24 X24 W24 A24
            have K24 := (Keep.of_wr W24)
            have O24 := O23.keep K24 (allS ge_b20 all0)
            have Z24 : Keep h0 h24 [] := Z23.trans K24 (allS (P := fun x => x ∈ [] ∨ h0.size ≤ x) (Or.inr sz_b20) all0)
            replace A24 : Ark Z h24 b20 .int [(.int (Int32.ofNat T)), (.int (((Int32.ofNat D).toUInt32 >>> ((16 : Int32) &&& 31).toUInt32).toInt32)), (.int ((((Int32.ofNat D).toUInt32 >>> ((8 : Int32) &&& 31).toUInt32).toInt32) &&& (255 : Int32))), (.int (0 : Int32)), (.int (0 : Int32)), (.int (0 : Int32)), (.int (0 : Int32)), (.int (0 : Int32)), (.int (0 : Int32)), (.int (0 : Int32)), (.int (0 : Int32))] := A24
            refine OwnK.dup X24 (n := 291) at_290 rfl rfl ?_
            refine OwnK.iconst X24 (z := (3 : Int32)) (n := 292) at_291 rfl rfl ?_
            refine OwnK.iload X24 (n := 294) at_292 rfl rfl ?_
            refine OwnK.sipush X24 (z := (255 : Int32)) (n := 297) at_294 rfl rfl ?_
            refine OwnK.iand X24 (n := 298) at_297 rfl ?_
            refine OwnK.iastore X24 (i := 3) (z := ((Int32.ofNat D) &&& (255 : Int32))) (n := 299) at_298 A24 rfl (Nat.le_of_ble_eq_true rfl) rfl ge_b20 rfl ?_
            intro T25 h25 X25 W25 A25
            have K25 := (Keep.of_wr W25)
            have O25 := O24.keep K25 (allS ge_b20 all0)
            have Z25 : Keep h0 h25 [] := Z24.trans K25 (allS (P := fun x => x ∈ [] ∨ h0.size ≤ x) (Or.inr sz_b20) all0)
            replace A25 : Ark Z h25 b20 .int [(.int (Int32.ofNat T)), (.int (((Int32.ofNat D).toUInt32 >>> ((16 : Int32) &&& 31).toUInt32).toInt32)), (.int ((((Int32.ofNat D).toUInt32 >>> ((8 : Int32) &&& 31).toUInt32).toInt32) &&& (255 : Int32))), (.int ((Int32.ofNat D) &&& (255 : Int32))), (.int (0 : Int32)), (.int (0 : Int32)), (.int (0 : Int32)), (.int (0 : Int32)), (.int (0 : Int32)), (.int (0 : Int32)), (.int (0 : Int32))] := A25
            refine OwnK.dup X25 (n := 300) at_299 rfl rfl ?_
            refine OwnK.iconst X25 (z := (4 : Int32)) (n := 301) at_300 rfl rfl ?_
            refine OwnK.lload X25 (n := 303) at_301 rfl rfl ?_
            refine OwnK.ldc2 X25 (n := 306) at_303 (hw _ (List.mem_of_getElem? (i := 7) rfl)) rfl ?_
            refine OwnK.land X25 (n := 307) at_306 rfl ?_
            refine OwnK.l2i X25 (n := 308) at_307 rfl ?_
            refine OwnK.iastore X25 (i := 4) (z := ((q4 &&& (255 : Int64)).toInt32)) (n := 309) at_308 A25 rfl (Nat.le_of_ble_eq_true rfl) rfl ge_b20 rfl ?_
            intro T26 h26 X26 W26 A26
            have K26 := (Keep.of_wr W26)
            have O26 := O25.keep K26 (allS ge_b20 all0)
            have Z26 : Keep h0 h26 [] := Z25.trans K26 (allS (P := fun x => x ∈ [] ∨ h0.size ≤ x) (Or.inr sz_b20) all0)
            replace A26 : Ark Z h26 b20 .int [(.int (Int32.ofNat T)), (.int (((Int32.ofNat D).toUInt32 >>> ((16 : Int32) &&& 31).toUInt32).toInt32)), (.int ((((Int32.ofNat D).toUInt32 >>> ((8 : Int32) &&& 31).toUInt32).toInt32) &&& (255 : Int32))), (.int ((Int32.ofNat D) &&& (255 : Int32))), (.int ((q4 &&& (255 : Int64)).toInt32)), (.int (0 : Int32)), (.int (0 : Int32)), (.int (0 : Int32)), (.int (0 : Int32)), (.int (0 : Int32)), (.int (0 : Int32))] := A26
            refine OwnK.dup X26 (n := 310) at_309 rfl rfl ?_
            refine OwnK.iconst X26 (z := (5 : Int32)) (n := 311) at_310 rfl rfl ?_
            refine OwnK.lload X26 (n := 313) at_311 rfl rfl ?_
            refine OwnK.bipush X26 (z := (8 : Int32)) (n := 315) at_313 rfl rfl ?_
            refine OwnK.lushr X26 (n := 316) at_315 rfl ?_
            refine OwnK.ldc2 X26 (n := 319) at_316 (hw _ (List.mem_of_getElem? (i := 7) rfl)) rfl ?_
            refine OwnK.land X26 (n := 320) at_319 rfl ?_
            refine OwnK.l2i X26 (n := 321) at_320 rfl ?_
            refine OwnK.iastore X26 (i := 5) (z := ((((q4.toUInt64 >>> ((8 : Int32) &&& 0x3f).toInt64.toUInt64).toInt64) &&& (255 : Int64)).toInt32)) (n := 322) at_321 A26 rfl (Nat.le_of_ble_eq_true rfl) rfl ge_b20 rfl ?_
            intro T27 h27 X27 W27 A27
            have K27 := (Keep.of_wr W27)
            have O27 := O26.keep K27 (allS ge_b20 all0)
            have Z27 : Keep h0 h27 [] := Z26.trans K27 (allS (P := fun x => x ∈ [] ∨ h0.size ≤ x) (Or.inr sz_b20) all0)
            replace A27 : Ark Z h27 b20 .int [(.int (Int32.ofNat T)), (.int (((Int32.ofNat D).toUInt32 >>> ((16 : Int32) &&& 31).toUInt32).toInt32)), (.int ((((Int32.ofNat D).toUInt32 >>> ((8 : Int32) &&& 31).toUInt32).toInt32) &&& (255 : Int32))), (.int ((Int32.ofNat D) &&& (255 : Int32))), (.int ((q4 &&& (255 : Int64)).toInt32)), (.int ((((q4.toUInt64 >>> ((8 : Int32) &&& 0x3f).toInt64.toUInt64).toInt64) &&& (255 : Int64)).toInt32)), (.int (0 : Int32)), (.int (0 : Int32)), (.int (0 : Int32)), (.int (0 : Int32)), (.int (0 : Int32))] := A27
            refine OwnK.dup X27 (n := 323) at_322 rfl rfl ?_
            refine OwnK.bipush X27 (z := (6 : Int32)) (n := 325) at_323 rfl rfl ?_
            refine OwnK.lload X27 (n := 327) at_325 rfl rfl ?_
            refine OwnK.bipush X27 (z := (16 : Int32)) (n := 329) at_327 rfl rfl ?_
            refine OwnK.lushr X27 (n := 330) at_329 rfl ?_
            refine OwnK.ldc2 X27 (n := 333) at_330 (hw _ (List.mem_of_getElem? (i := 7) rfl)) rfl ?_
            refine OwnK.land X27 (n := 334) at_333 rfl ?_
            refine OwnK.l2i X27 (n := 335) at_334 rfl ?_
            refine OwnK.iastore X27 (i := 6) (z := ((((q4.toUInt64 >>> ((16 : Int32) &&& 0x3f).toInt64.toUInt64).toInt64) &&& (255 : Int64)).toInt32)) (n := 336) at_335 A27 rfl (Nat.le_of_ble_eq_true rfl) rfl ge_b20 rfl ?_
            intro T28 h28 X28 W28 A28
            have K28 := (Keep.of_wr W28)
            have O28 := O27.keep K28 (allS ge_b20 all0)
            have Z28 : Keep h0 h28 [] := Z27.trans K28 (allS (P := fun x => x ∈ [] ∨ h0.size ≤ x) (Or.inr sz_b20) all0)
            replace A28 : Ark Z h28 b20 .int [(.int (Int32.ofNat T)), (.int (((Int32.ofNat D).toUInt32 >>> ((16 : Int32) &&& 31).toUInt32).toInt32)), (.int ((((Int32.ofNat D).toUInt32 >>> ((8 : Int32) &&& 31).toUInt32).toInt32) &&& (255 : Int32))), (.int ((Int32.ofNat D) &&& (255 : Int32))), (.int ((q4 &&& (255 : Int64)).toInt32)), (.int ((((q4.toUInt64 >>> ((8 : Int32) &&& 0x3f).toInt64.toUInt64).toInt64) &&& (255 : Int64)).toInt32)), (.int ((((q4.toUInt64 >>> ((16 : Int32) &&& 0x3f).toInt64.toUInt64).toInt64) &&& (255 : Int64)).toInt32)), (.int (0 : Int32)), (.int (0 : Int32)), (.int (0 : Int32)), (.int (0 : Int32))] := A28
            refine OwnK.dup X28 (n := 337) at_336 rfl rfl ?_
            refine OwnK.bipush X28 (z := (7 : Int32)) (n := 339) at_337 rfl rfl ?_
            refine OwnK.lload X28 (n := 341) at_339 rfl rfl ?_
            refine OwnK.bipush X28 (z := (24 : Int32)) (n := 343) at_341 rfl rfl ?_
            refine OwnK.lushr X28 (n := 344) at_343 rfl ?_
            refine OwnK.ldc2 X28 (n := 347) at_344 (hw _ (List.mem_of_getElem? (i := 7) rfl)) rfl ?_
            refine OwnK.land X28 (n := 348) at_347 rfl ?_
            refine OwnK.l2i X28 (n := 349) at_348 rfl ?_
            refine OwnK.iastore X28 (i := 7) (z := ((((q4.toUInt64 >>> ((24 : Int32) &&& 0x3f).toInt64.toUInt64).toInt64) &&& (255 : Int64)).toInt32)) (n := 350) at_349 A28 rfl (Nat.le_of_ble_eq_true rfl) rfl ge_b20 rfl ?_
            intro T29 h29 X29 W29 A29
            have K29 := (Keep.of_wr W29)
            have O29 := O28.keep K29 (allS ge_b20 all0)
            have Z29 : Keep h0 h29 [] := Z28.trans K29 (allS (P := fun x => x ∈ [] ∨ h0.size ≤ x) (Or.inr sz_b20) all0)
            replace A29 : Ark Z h29 b20 .int [(.int (Int32.ofNat T)), (.int (((Int32.ofNat D).toUInt32 >>> ((16 : Int32) &&& 31).toUInt32).toInt32)), (.int ((((Int32.ofNat D).toUInt32 >>> ((8 : Int32) &&& 31).toUInt32).toInt32) &&& (255 : Int32))), (.int ((Int32.ofNat D) &&& (255 : Int32))), (.int ((q4 &&& (255 : Int64)).toInt32)), (.int ((((q4.toUInt64 >>> ((8 : Int32) &&& 0x3f).toInt64.toUInt64).toInt64) &&& (255 : Int64)).toInt32)), (.int ((((q4.toUInt64 >>> ((16 : Int32) &&& 0x3f).toInt64.toUInt64).toInt64) &&& (255 : Int64)).toInt32)), (.int ((((q4.toUInt64 >>> ((24 : Int32) &&& 0x3f).toInt64.toUInt64).toInt64) &&& (255 : Int64)).toInt32)), (.int (0 : Int32)), (.int (0 : Int32)), (.int (0 : Int32))] := A29
            refine OwnK.dup X29 (n := 351) at_350 rfl rfl ?_
            refine OwnK.bipush X29 (z := (8 : Int32)) (n := 353) at_351 rfl rfl ?_
            refine OwnK.lload X29 (n := 355) at_353 rfl rfl ?_
            refine OwnK.bipush X29 (z := (32 : Int32)) (n := 357) at_355 rfl rfl ?_
            refine OwnK.lushr X29 (n := 358) at_357 rfl ?_
            refine OwnK.ldc2 X29 (n := 361) at_358 (hw _ (List.mem_of_getElem? (i := 7) rfl)) rfl ?_
            refine OwnK.land X29 (n := 362) at_361 rfl ?_
            refine OwnK.l2i X29 (n := 363) at_362 rfl ?_
            refine OwnK.iastore X29 (i := 8) (z := ((((q4.toUInt64 >>> ((32 : Int32) &&& 0x3f).toInt64.toUInt64).toInt64) &&& (255 : Int64)).toInt32)) (n := 364) at_363 A29 rfl (Nat.le_of_ble_eq_true rfl) rfl ge_b20 rfl ?_
            intro T30 h30 X30 W30 A30
            have K30 := (Keep.of_wr W30)
            have O30 := O29.keep K30 (allS ge_b20 all0)
            have Z30 : Keep h0 h30 [] := Z29.trans K30 (allS (P := fun x => x ∈ [] ∨ h0.size ≤ x) (Or.inr sz_b20) all0)
            replace A30 : Ark Z h30 b20 .int [(.int (Int32.ofNat T)), (.int (((Int32.ofNat D).toUInt32 >>> ((16 : Int32) &&& 31).toUInt32).toInt32)), (.int ((((Int32.ofNat D).toUInt32 >>> ((8 : Int32) &&& 31).toUInt32).toInt32) &&& (255 : Int32))), (.int ((Int32.ofNat D) &&& (255 : Int32))), (.int ((q4 &&& (255 : Int64)).toInt32)), (.int ((((q4.toUInt64 >>> ((8 : Int32) &&& 0x3f).toInt64.toUInt64).toInt64) &&& (255 : Int64)).toInt32)), (.int ((((q4.toUInt64 >>> ((16 : Int32) &&& 0x3f).toInt64.toUInt64).toInt64) &&& (255 : Int64)).toInt32)), (.int ((((q4.toUInt64 >>> ((24 : Int32) &&& 0x3f).toInt64.toUInt64).toInt64) &&& (255 : Int64)).toInt32)), (.int ((((q4.toUInt64 >>> ((32 : Int32) &&& 0x3f).toInt64.toUInt64).toInt64) &&& (255 : Int64)).toInt32)), (.int (0 : Int32)), (.int (0 : Int32))] := A30
            refine OwnK.dup X30 (n := 365) at_364 rfl rfl ?_
            refine OwnK.bipush X30 (z := (9 : Int32)) (n := 367) at_365 rfl rfl ?_
            refine OwnK.lload X30 (n := 369) at_367 rfl rfl ?_
            refine OwnK.bipush X30 (z := (40 : Int32)) (n := 371) at_369 rfl rfl ?_
            refine OwnK.lushr X30 (n := 372) at_371 rfl ?_
            refine OwnK.ldc2 X30 (n := 375) at_372 (hw _ (List.mem_of_getElem? (i := 7) rfl)) rfl ?_
            refine OwnK.land X30 (n := 376) at_375 rfl ?_
            refine OwnK.l2i X30 (n := 377) at_376 rfl ?_
            refine OwnK.iastore X30 (i := 9) (z := ((((q4.toUInt64 >>> ((40 : Int32) &&& 0x3f).toInt64.toUInt64).toInt64) &&& (255 : Int64)).toInt32)) (n := 378) at_377 A30 rfl (Nat.le_of_ble_eq_true rfl) rfl ge_b20 rfl ?_
            intro T31 h31 X31 W31 A31
            have K31 := (Keep.of_wr W31)
            have O31 := O30.keep K31 (allS ge_b20 all0)
            have Z31 : Keep h0 h31 [] := Z30.trans K31 (allS (P := fun x => x ∈ [] ∨ h0.size ≤ x) (Or.inr sz_b20) all0)
            replace A31 : Ark Z h31 b20 .int [(.int (Int32.ofNat T)), (.int (((Int32.ofNat D).toUInt32 >>> ((16 : Int32) &&& 31).toUInt32).toInt32)), (.int ((((Int32.ofNat D).toUInt32 >>> ((8 : Int32) &&& 31).toUInt32).toInt32) &&& (255 : Int32))), (.int ((Int32.ofNat D) &&& (255 : Int32))), (.int ((q4 &&& (255 : Int64)).toInt32)), (.int ((((q4.toUInt64 >>> ((8 : Int32) &&& 0x3f).toInt64.toUInt64).toInt64) &&& (255 : Int64)).toInt32)), (.int ((((q4.toUInt64 >>> ((16 : Int32) &&& 0x3f).toInt64.toUInt64).toInt64) &&& (255 : Int64)).toInt32)), (.int ((((q4.toUInt64 >>> ((24 : Int32) &&& 0x3f).toInt64.toUInt64).toInt64) &&& (255 : Int64)).toInt32)), (.int ((((q4.toUInt64 >>> ((32 : Int32) &&& 0x3f).toInt64.toUInt64).toInt64) &&& (255 : Int64)).toInt32)), (.int ((((q4.toUInt64 >>> ((40 : Int32) &&& 0x3f).toInt64.toUInt64).toInt64) &&& (255 : Int64)).toInt32)), (.int (0 : Int32))] := A31
            refine OwnK.dup X31 (n := 379) at_378 rfl rfl ?_
            refine OwnK.bipush X31 (z := (10 : Int32)) (n := 381) at_379 rfl rfl ?_
            refine OwnK.lload X31 (n := 383) at_381 rfl rfl ?_
            refine OwnK.bipush X31 (z := (48 : Int32)) (n := 385) at_383 rfl rfl ?_
            refine OwnK.lushr X31 (n := 386) at_385 rfl ?_
            refine OwnK.ldc2 X31 (n := 389) at_386 (hw _ (List.mem_of_getElem? (i := 7) rfl)) rfl ?_
            refine OwnK.land X31 (n := 390) at_389 rfl ?_
            refine OwnK.l2i X31 (n := 391) at_390 rfl ?_
            refine OwnK.iastore X31 (i := 10) (z := ((((q4.toUInt64 >>> ((48 : Int32) &&& 0x3f).toInt64.toUInt64).toInt64) &&& (255 : Int64)).toInt32)) (n := 392) at_391 A31 rfl (Nat.le_of_ble_eq_true rfl) rfl ge_b20 rfl ?_
            intro T32 h32 X32 W32 A32
            have K32 := (Keep.of_wr W32)
            have O32 := O31.keep K32 (allS ge_b20 all0)
            have Z32 : Keep h0 h32 [] := Z31.trans K32 (allS (P := fun x => x ∈ [] ∨ h0.size ≤ x) (Or.inr sz_b20) all0)
            replace A32 : Ark Z h32 b20 .int [(.int (Int32.ofNat T)), (.int (((Int32.ofNat D).toUInt32 >>> ((16 : Int32) &&& 31).toUInt32).toInt32)), (.int ((((Int32.ofNat D).toUInt32 >>> ((8 : Int32) &&& 31).toUInt32).toInt32) &&& (255 : Int32))), (.int ((Int32.ofNat D) &&& (255 : Int32))), (.int ((q4 &&& (255 : Int64)).toInt32)), (.int ((((q4.toUInt64 >>> ((8 : Int32) &&& 0x3f).toInt64.toUInt64).toInt64) &&& (255 : Int64)).toInt32)), (.int ((((q4.toUInt64 >>> ((16 : Int32) &&& 0x3f).toInt64.toUInt64).toInt64) &&& (255 : Int64)).toInt32)), (.int ((((q4.toUInt64 >>> ((24 : Int32) &&& 0x3f).toInt64.toUInt64).toInt64) &&& (255 : Int64)).toInt32)), (.int ((((q4.toUInt64 >>> ((32 : Int32) &&& 0x3f).toInt64.toUInt64).toInt64) &&& (255 : Int64)).toInt32)), (.int ((((q4.toUInt64 >>> ((40 : Int32) &&& 0x3f).toInt64.toUInt64).toInt64) &&& (255 : Int64)).toInt32)), (.int ((((q4.toUInt64 >>> ((48 : Int32) &&& 0x3f).toInt64.toUInt64).toInt64) &&& (255 : Int64)).toInt32))] := A32
            obtain ⟨L2, eL2⟩ : ∃ L : List Int32, L = [(Int32.ofNat T), (((Int32.ofNat D).toUInt32 >>> ((16 : Int32) &&& 31).toUInt32).toInt32), ((((Int32.ofNat D).toUInt32 >>> ((8 : Int32) &&& 31).toUInt32).toInt32) &&& (255 : Int32)), ((Int32.ofNat D) &&& (255 : Int32)), ((q4 &&& (255 : Int64)).toInt32), ((((q4.toUInt64 >>> ((8 : Int32) &&& 0x3f).toInt64.toUInt64).toInt64) &&& (255 : Int64)).toInt32), ((((q4.toUInt64 >>> ((16 : Int32) &&& 0x3f).toInt64.toUInt64).toInt64) &&& (255 : Int64)).toInt32), ((((q4.toUInt64 >>> ((24 : Int32) &&& 0x3f).toInt64.toUInt64).toInt64) &&& (255 : Int64)).toInt32), ((((q4.toUInt64 >>> ((32 : Int32) &&& 0x3f).toInt64.toUInt64).toInt64) &&& (255 : Int64)).toInt32), ((((q4.toUInt64 >>> ((40 : Int32) &&& 0x3f).toInt64.toUInt64).toInt64) &&& (255 : Int64)).toInt32), ((((q4.toUInt64 >>> ((48 : Int32) &&& 0x3f).toInt64.toUInt64).toInt64) &&& (255 : Int64)).toInt32)] := ⟨_, rfl⟩
            have AL2 : Ark Z h32 b20 .int (L2.map Value.int) := by rw [eL2]; exact A32
            have lL2 : L2.length = 11 := by rw [eL2]; rfl
            refine OwnK.astore X32 (l' := #[.val (.int p0), .val (.int p1), .val (.long q2), .second, .val (.long q3), .second, .val (.long q4), .second, .val (.int (Int32.ofNat N)), .val (.int (Int32.ofNat C1)), .val (.int (Int32.ofNat C2)), .val (.int (Int32.ofNat C3)), .val (.int (Int32.ofNat F1)), .val (.int (Int32.ofNat F2)), .val (.int (Int32.ofNat T)), .val (.int (Int32.ofNat D)), .val (.ref b8), .val (.ref b14), .val (.ref b20), .unset, .unset]) (n := 394) at_392 rfl rfl rfl ?_
            refine OwnK.bipush X32 (z := (16 : Int32)) (n := 396) at_394 rfl rfl ?_
            refine OwnK.newarray X32 (len := 16) (cap := 16) (n := 398) at_396 (hw _ (List.mem_of_getElem? (i := 12) rfl)) rfl (by decide) (by decide) (by decide) (by decide) rfl ?_
            intro T33 h33 b33 gb33 X33 E33 A33
            have fk34 := ((((((((((((fk21.keep K20 nin0).keep K22 (ninS ne_b8_b20 nin0)).keep K23 (ninS ne_b8_b20 nin0)).keep K24 (ninS ne_b8_b20 nin0)).keep K25 (ninS ne_b8_b20 nin0)).keep K26 (ninS ne_b8_b20 nin0)).keep K27 (ninS ne_b8_b20 nin0)).keep K28 (ninS ne_b8_b20 nin0)).keep K29 (ninS ne_b8_b20 nin0)).keep K30 (ninS ne_b8_b20 nin0)).keep K31 (ninS ne_b8_b20 nin0)).keep K32 (ninS ne_b8_b20 nin0))
            have ne_b8_b33 : b8 ≠ b33 := by rw [gb33]; exact Nat.ne_of_lt fk34.lt
            have fk35 := ((((((((((((AL3.keep K20 nin0).keep K22 (ninS ne_b14_b20 nin0)).keep K23 (ninS ne_b14_b20 nin0)).keep K24 (ninS ne_b14_b20 nin0)).keep K25 (ninS ne_b14_b20 nin0)).keep K26 (ninS ne_b14_b20 nin0)).keep K27 (ninS ne_b14_b20 nin0)).keep K28 (ninS ne_b14_b20 nin0)).keep K29 (ninS ne_b14_b20 nin0)).keep K30 (ninS ne_b14_b20 nin0)).keep K31 (ninS ne_b14_b20 nin0)).keep K32 (ninS ne_b14_b20 nin0))
            have ne_b14_b33 : b14 ≠ b33 := by rw [gb33]; exact Nat.ne_of_lt fk35.lt
            have ne_b20_b33 : b20 ≠ b33 := by rw [gb33]; exact Nat.ne_of_lt AL2.lt
            have ge_b33 : n0 ≤ b33 := by rw [gb33]; exact OwnK.oldLe O32
            have K33 := (kExt E33)
            have O33 := O32.keep K33 all0
            have Z33 : Keep h0 h33 [] := Z32.trans K33 (fun x hx => nomatch hx)
            have sz_b33 : h0.size ≤ b33 := by rw [gb33]; exact Z32.1
            replace A33 : Ark Z h33 b33 .byte [(.int (0 : Int32)), (.int (0 : Int32)), (.int (0 : Int32)), (.int (0 : Int32)), (.int (0 : Int32)), (.int (0 : Int32)), (.int (0 : Int32)), (.int (0 : Int32)), (.int (0 : Int32)), (.int (0 : Int32)), (.int (0 : Int32)), (.int (0 : Int32)), (.int (0 : Int32)), (.int (0 : Int32)), (.int (0 : Int32)), (.int (0 : Int32))] := A33
            refine OwnK.astore X33 (l' := #[.val (.int p0), .val (.int p1), .val (.long q2), .second, .val (.long q3), .second, .val (.long q4), .second, .val (.int (Int32.ofNat N)), .val (.int (Int32.ofNat C1)), .val (.int (Int32.ofNat C2)), .val (.int (Int32.ofNat C3)), .val (.int (Int32.ofNat F1)), .val (.int (Int32.ofNat F2)), .val (.int (Int32.ofNat T)), .val (.int (Int32.ofNat D)), .val (.ref b8), .val (.ref b14), .val (.ref b20), .val (.ref b33), .unset]) (n := 400) at_398 rfl rfl rfl ?_
            refine OwnK.aload X33 (n := 402) at_400 rfl rfl rfl ?_
            refine OwnK.iconst X33 (z := (0 : Int32)) (n := 403) at_402 rfl rfl ?_
            refine OwnK.iconst X33 (z := (0 : Int32)) (n := 404) at_403 rfl rfl ?_
            refine OwnK.iload X33 (n := 406) at_404 rfl rfl ?_
            refine OwnK.iload X33 (n := 408) at_406 rfl rfl ?_
            refine OwnK.aload X33 (n := 410) at_408 rfl rfl rfl ?_
            refine OwnK.aload X33 (n := 412) at_410 rfl rfl rfl ?_
            refine OwnK.aload X33 (n := 414) at_412 rfl rfl rfl ?_
            refine OwnK.iload X33 (n := 416) at_414 rfl rfl ?_
            have fk36 := (fk34.keep K33 nin0)
            have fk37 := (AL2.keep K33 nin0)
            have fk38 := (fk35.keep K33 nin0)
            refine OwnK.call_static_v X33 (z := (⟨"com/example/brygga/brygga/ClientHelloOfPinLaw", "at", "(III[I[I[II)B"⟩ : MethodName)) (n := 419) at_416 (hw _ (List.mem_of_getElem? (i := 13) rfl)) (hw _ (List.mem_of_getElem? (i := 14) rfl)) (hw _ (List.mem_of_getElem? (i := 15) rfl)) (hw _ (List.mem_of_getElem? (i := 4) rfl)) (by decide) (rm2 l Z a0 hw [] b8 b20 b14 h33 n0 0 F1 F2 C3 (by decide) hF1 hF2 L1 L2 L3 lL1 lL2 lL3 fk36 fk37 fk38) (argsL := [(.int (0 : Int32)), (.int (Int32.ofNat F1)), (.int (Int32.ofNat F2)), (.ref b8), (.ref b20), (.ref b14), (.int (Int32.ofNat C3))]) (rest := [(.int (0 : Int32)), (.ref b33)]) rfl rfl (OwnK.lenA pd__III_I_I_II_B rfl) (W := 2) (Nat.le_of_eq rfl) (by decide) (by decide) (by decide) (by decide) rfl ?_
            intro T39 h39 w39 X39 ⟨q1, q2⟩
            subst q1 q2
            refine OwnK.bastore X39 (i := 0) (z := (own_at 0 F1 F2 L1 L2 L3 (Int32.ofNat C3))) (n := 420) at_419 A33 rfl (Nat.le_of_ble_eq_true rfl) (own_narAt ..) ge_b33 rfl ?_
            intro T40 h40 X40 W40 A40
            have K40 := (Keep.of_wr W40)
            have O40 := O33.keep K40 (allS ge_b33 all0)
            have Z40 : Keep h0 h40 [] := Z33.trans K40 (allS (P := fun x => x ∈ [] ∨ h0.size ≤ x) (Or.inr sz_b33) all0)
            replace A40 : Ark Z h40 b33 .byte [(.int (own_at 0 F1 F2 L1 L2 L3 (Int32.ofNat C3))), (.int (0 : Int32)), (.int (0 : Int32)), (.int (0 : Int32)), (.int (0 : Int32)), (.int (0 : Int32)), (.int (0 : Int32)), (.int (0 : Int32)), (.int (0 : Int32)), (.int (0 : Int32)), (.int (0 : Int32)), (.int (0 : Int32)), (.int (0 : Int32)), (.int (0 : Int32)), (.int (0 : Int32)), (.int (0 : Int32))] := A40
            refine OwnK.aload X40 (n := 422) at_420 rfl rfl rfl ?_
            refine OwnK.iconst X40 (z := (1 : Int32)) (n := 423) at_422 rfl rfl ?_
            refine OwnK.iconst X40 (z := (1 : Int32)) (n := 424) at_423 rfl rfl ?_
            refine OwnK.iload X40 (n := 426) at_424 rfl rfl ?_
            refine OwnK.iload X40 (n := 428) at_426 rfl rfl ?_
            refine OwnK.aload X40 (n := 430) at_428 rfl rfl rfl ?_
            refine OwnK.aload X40 (n := 432) at_430 rfl rfl rfl ?_
            refine OwnK.aload X40 (n := 434) at_432 rfl rfl rfl ?_
            refine OwnK.iload X40 (n := 436) at_434 rfl rfl ?_
            have fk41 := (fk36.keep K40 (ninS ne_b8_b33 nin0))
            have fk42 := (fk37.keep K40 (ninS ne_b20_b33 nin0))
            have fk43 := (fk38.keep K40 (ninS ne_b14_b33 nin0))
            refine OwnK.call_static_v X40 (z := (⟨"com/example/brygga/brygga/ClientHelloOfPinLaw", "at", "(III[I[I[II)B"⟩ : MethodName)) (n := 439) at_436 (hw _ (List.mem_of_getElem? (i := 13) rfl)) (hw _ (List.mem_of_getElem? (i := 14) rfl)) (hw _ (List.mem_of_getElem? (i := 15) rfl)) (hw _ (List.mem_of_getElem? (i := 4) rfl)) (by decide) (rm2 l Z a0 hw [] b8 b20 b14 h40 n0 1 F1 F2 C3 (by decide) hF1 hF2 L1 L2 L3 lL1 lL2 lL3 fk41 fk42 fk43) (argsL := [(.int (1 : Int32)), (.int (Int32.ofNat F1)), (.int (Int32.ofNat F2)), (.ref b8), (.ref b20), (.ref b14), (.int (Int32.ofNat C3))]) (rest := [(.int (1 : Int32)), (.ref b33)]) rfl rfl (OwnK.lenA pd__III_I_I_II_B rfl) (W := 2) (Nat.le_of_eq rfl) (by decide) (by decide) (by decide) (by decide) rfl ?_
            intro T44 h44 w44 X44 ⟨q1, q2⟩
            subst q1 q2
            refine OwnK.bastore X44 (i := 1) (z := (own_at 1 F1 F2 L1 L2 L3 (Int32.ofNat C3))) (n := 440) at_439 A40 rfl (Nat.le_of_ble_eq_true rfl) (own_narAt ..) ge_b33 rfl ?_
            intro T45 h45 X45 W45 A45
            have K45 := (Keep.of_wr W45)
            have O45 := O40.keep K45 (allS ge_b33 all0)
            have Z45 : Keep h0 h45 [] := Z40.trans K45 (allS (P := fun x => x ∈ [] ∨ h0.size ≤ x) (Or.inr sz_b33) all0)
            replace A45 : Ark Z h45 b33 .byte [(.int (own_at 0 F1 F2 L1 L2 L3 (Int32.ofNat C3))), (.int (own_at 1 F1 F2 L1 L2 L3 (Int32.ofNat C3))), (.int (0 : Int32)), (.int (0 : Int32)), (.int (0 : Int32)), (.int (0 : Int32)), (.int (0 : Int32)), (.int (0 : Int32)), (.int (0 : Int32)), (.int (0 : Int32)), (.int (0 : Int32)), (.int (0 : Int32)), (.int (0 : Int32)), (.int (0 : Int32)), (.int (0 : Int32)), (.int (0 : Int32))] := A45
            refine OwnK.aload X45 (n := 442) at_440 rfl rfl rfl ?_
            refine OwnK.iconst X45 (z := (2 : Int32)) (n := 443) at_442 rfl rfl ?_
            refine OwnK.iconst X45 (z := (2 : Int32)) (n := 444) at_443 rfl rfl ?_
            refine OwnK.iload X45 (n := 446) at_444 rfl rfl ?_
            refine OwnK.iload X45 (n := 448) at_446 rfl rfl ?_
            refine OwnK.aload X45 (n := 450) at_448 rfl rfl rfl ?_
            refine OwnK.aload X45 (n := 452) at_450 rfl rfl rfl ?_
            refine OwnK.aload X45 (n := 454) at_452 rfl rfl rfl ?_
            refine OwnK.iload X45 (n := 456) at_454 rfl rfl ?_
            have fk46 := (fk41.keep K45 (ninS ne_b8_b33 nin0))
            have fk47 := (fk42.keep K45 (ninS ne_b20_b33 nin0))
            have fk48 := (fk43.keep K45 (ninS ne_b14_b33 nin0))
            refine OwnK.call_static_v X45 (z := (⟨"com/example/brygga/brygga/ClientHelloOfPinLaw", "at", "(III[I[I[II)B"⟩ : MethodName)) (n := 459) at_456 (hw _ (List.mem_of_getElem? (i := 13) rfl)) (hw _ (List.mem_of_getElem? (i := 14) rfl)) (hw _ (List.mem_of_getElem? (i := 15) rfl)) (hw _ (List.mem_of_getElem? (i := 4) rfl)) (by decide) (rm2 l Z a0 hw [] b8 b20 b14 h45 n0 2 F1 F2 C3 (by decide) hF1 hF2 L1 L2 L3 lL1 lL2 lL3 fk46 fk47 fk48) (argsL := [(.int (2 : Int32)), (.int (Int32.ofNat F1)), (.int (Int32.ofNat F2)), (.ref b8), (.ref b20), (.ref b14), (.int (Int32.ofNat C3))]) (rest := [(.int (2 : Int32)), (.ref b33)]) rfl rfl (OwnK.lenA pd__III_I_I_II_B rfl) (W := 2) (Nat.le_of_eq rfl) (by decide) (by decide) (by decide) (by decide) rfl ?_
            intro T49 h49 w49 X49 ⟨q1, q2⟩
            subst q1 q2
            refine OwnK.bastore X49 (i := 2) (z := (own_at 2 F1 F2 L1 L2 L3 (Int32.ofNat C3))) (n := 460) at_459 A45 rfl (Nat.le_of_ble_eq_true rfl) (own_narAt ..) ge_b33 rfl ?_
            intro T50 h50 X50 W50 A50
            have K50 := (Keep.of_wr W50)
            have O50 := O45.keep K50 (allS ge_b33 all0)
            have Z50 : Keep h0 h50 [] := Z45.trans K50 (allS (P := fun x => x ∈ [] ∨ h0.size ≤ x) (Or.inr sz_b33) all0)
            replace A50 : Ark Z h50 b33 .byte [(.int (own_at 0 F1 F2 L1 L2 L3 (Int32.ofNat C3))), (.int (own_at 1 F1 F2 L1 L2 L3 (Int32.ofNat C3))), (.int (own_at 2 F1 F2 L1 L2 L3 (Int32.ofNat C3))), (.int (0 : Int32)), (.int (0 : Int32)), (.int (0 : Int32)), (.int (0 : Int32)), (.int (0 : Int32)), (.int (0 : Int32)), (.int (0 : Int32)), (.int (0 : Int32)), (.int (0 : Int32)), (.int (0 : Int32)), (.int (0 : Int32)), (.int (0 : Int32)), (.int (0 : Int32))] := A50
            refine OwnK.aload X50 (n := 462) at_460 rfl rfl rfl ?_
            refine OwnK.iconst X50 (z := (3 : Int32)) (n := 463) at_462 rfl rfl ?_
            refine OwnK.iconst X50 (z := (3 : Int32)) (n := 464) at_463 rfl rfl ?_
            refine OwnK.iload X50 (n := 466) at_464 rfl rfl ?_
            refine OwnK.iload X50 (n := 468) at_466 rfl rfl ?_
            refine OwnK.aload X50 (n := 470) at_468 rfl rfl rfl ?_
            refine OwnK.aload X50 (n := 472) at_470 rfl rfl rfl ?_
            refine OwnK.aload X50 (n := 474) at_472 rfl rfl rfl ?_
            refine OwnK.iload X50 (n := 476) at_474 rfl rfl ?_
            have fk51 := (fk46.keep K50 (ninS ne_b8_b33 nin0))
            have fk52 := (fk47.keep K50 (ninS ne_b20_b33 nin0))
            have fk53 := (fk48.keep K50 (ninS ne_b14_b33 nin0))
            refine OwnK.call_static_v X50 (z := (⟨"com/example/brygga/brygga/ClientHelloOfPinLaw", "at", "(III[I[I[II)B"⟩ : MethodName)) (n := 479) at_476 (hw _ (List.mem_of_getElem? (i := 13) rfl)) (hw _ (List.mem_of_getElem? (i := 14) rfl)) (hw _ (List.mem_of_getElem? (i := 15) rfl)) (hw _ (List.mem_of_getElem? (i := 4) rfl)) (by decide) (rm2 l Z a0 hw [] b8 b20 b14 h50 n0 3 F1 F2 C3 (by decide) hF1 hF2 L1 L2 L3 lL1 lL2 lL3 fk51 fk52 fk53) (argsL := [(.int (3 : Int32)), (.int (Int32.ofNat F1)), (.int (Int32.ofNat F2)), (.ref b8), (.ref b20), (.ref b14), (.int (Int32.ofNat C3))]) (rest := [(.int (3 : Int32)), (.ref b33)]) rfl rfl (OwnK.lenA pd__III_I_I_II_B rfl) (W := 2) (Nat.le_of_eq rfl) (by decide) (by decide) (by decide) (by decide) rfl ?_
            intro T54 h54 w54 X54 ⟨q1, q2⟩
            subst q1 q2
            refine OwnK.bastore X54 (i := 3) (z := (own_at 3 F1 F2 L1 L2 L3 (Int32.ofNat C3))) (n := 480) at_479 A50 rfl (Nat.le_of_ble_eq_true rfl) (own_narAt ..) ge_b33 rfl ?_
            intro T55 h55 X55 W55 A55
            have K55 := (Keep.of_wr W55)
            have O55 := O50.keep K55 (allS ge_b33 all0)
            have Z55 : Keep h0 h55 [] := Z50.trans K55 (allS (P := fun x => x ∈ [] ∨ h0.size ≤ x) (Or.inr sz_b33) all0)
            replace A55 : Ark Z h55 b33 .byte [(.int (own_at 0 F1 F2 L1 L2 L3 (Int32.ofNat C3))), (.int (own_at 1 F1 F2 L1 L2 L3 (Int32.ofNat C3))), (.int (own_at 2 F1 F2 L1 L2 L3 (Int32.ofNat C3))), (.int (own_at 3 F1 F2 L1 L2 L3 (Int32.ofNat C3))), (.int (0 : Int32)), (.int (0 : Int32)), (.int (0 : Int32)), (.int (0 : Int32)), (.int (0 : Int32)), (.int (0 : Int32)), (.int (0 : Int32)), (.int (0 : Int32)), (.int (0 : Int32)), (.int (0 : Int32)), (.int (0 : Int32)), (.int (0 : Int32))] := A55
            refine OwnK.aload X55 (n := 482) at_480 rfl rfl rfl ?_
            refine OwnK.iconst X55 (z := (4 : Int32)) (n := 483) at_482 rfl rfl ?_
            refine OwnK.iconst X55 (z := (4 : Int32)) (n := 484) at_483 rfl rfl ?_
            refine OwnK.iload X55 (n := 486) at_484 rfl rfl ?_
            refine OwnK.iload X55 (n := 488) at_486 rfl rfl ?_
            refine OwnK.aload X55 (n := 490) at_488 rfl rfl rfl ?_
            refine OwnK.aload X55 (n := 492) at_490 rfl rfl rfl ?_
            refine OwnK.aload X55 (n := 494) at_492 rfl rfl rfl ?_
            refine OwnK.iload X55 (n := 496) at_494 rfl rfl ?_
            have fk56 := (fk51.keep K55 (ninS ne_b8_b33 nin0))
            have fk57 := (fk52.keep K55 (ninS ne_b20_b33 nin0))
            have fk58 := (fk53.keep K55 (ninS ne_b14_b33 nin0))
            refine OwnK.call_static_v X55 (z := (⟨"com/example/brygga/brygga/ClientHelloOfPinLaw", "at", "(III[I[I[II)B"⟩ : MethodName)) (n := 499) at_496 (hw _ (List.mem_of_getElem? (i := 13) rfl)) (hw _ (List.mem_of_getElem? (i := 14) rfl)) (hw _ (List.mem_of_getElem? (i := 15) rfl)) (hw _ (List.mem_of_getElem? (i := 4) rfl)) (by decide) (rm2 l Z a0 hw [] b8 b20 b14 h55 n0 4 F1 F2 C3 (by decide) hF1 hF2 L1 L2 L3 lL1 lL2 lL3 fk56 fk57 fk58) (argsL := [(.int (4 : Int32)), (.int (Int32.ofNat F1)), (.int (Int32.ofNat F2)), (.ref b8), (.ref b20), (.ref b14), (.int (Int32.ofNat C3))]) (rest := [(.int (4 : Int32)), (.ref b33)]) rfl rfl (OwnK.lenA pd__III_I_I_II_B rfl) (W := 2) (Nat.le_of_eq rfl) (by decide) (by decide) (by decide) (by decide) rfl ?_
            intro T59 h59 w59 X59 ⟨q1, q2⟩
            subst q1 q2
            refine OwnK.bastore X59 (i := 4) (z := (own_at 4 F1 F2 L1 L2 L3 (Int32.ofNat C3))) (n := 500) at_499 A55 rfl (Nat.le_of_ble_eq_true rfl) (own_narAt ..) ge_b33 rfl ?_
            intro T60 h60 X60 W60 A60
            have K60 := (Keep.of_wr W60)
            have O60 := O55.keep K60 (allS ge_b33 all0)
            have Z60 : Keep h0 h60 [] := Z55.trans K60 (allS (P := fun x => x ∈ [] ∨ h0.size ≤ x) (Or.inr sz_b33) all0)
            replace A60 : Ark Z h60 b33 .byte [(.int (own_at 0 F1 F2 L1 L2 L3 (Int32.ofNat C3))), (.int (own_at 1 F1 F2 L1 L2 L3 (Int32.ofNat C3))), (.int (own_at 2 F1 F2 L1 L2 L3 (Int32.ofNat C3))), (.int (own_at 3 F1 F2 L1 L2 L3 (Int32.ofNat C3))), (.int (own_at 4 F1 F2 L1 L2 L3 (Int32.ofNat C3))), (.int (0 : Int32)), (.int (0 : Int32)), (.int (0 : Int32)), (.int (0 : Int32)), (.int (0 : Int32)), (.int (0 : Int32)), (.int (0 : Int32)), (.int (0 : Int32)), (.int (0 : Int32)), (.int (0 : Int32)), (.int (0 : Int32))] := A60
            refine OwnK.aload X60 (n := 502) at_500 rfl rfl rfl ?_
            refine OwnK.iconst X60 (z := (5 : Int32)) (n := 503) at_502 rfl rfl ?_
            refine OwnK.iconst X60 (z := (5 : Int32)) (n := 504) at_503 rfl rfl ?_
            refine OwnK.iload X60 (n := 506) at_504 rfl rfl ?_
            refine OwnK.iload X60 (n := 508) at_506 rfl rfl ?_
            refine OwnK.aload X60 (n := 510) at_508 rfl rfl rfl ?_
            refine OwnK.aload X60 (n := 512) at_510 rfl rfl rfl ?_
            refine OwnK.aload X60 (n := 514) at_512 rfl rfl rfl ?_
            refine OwnK.iload X60 (n := 516) at_514 rfl rfl ?_
            have fk61 := (fk56.keep K60 (ninS ne_b8_b33 nin0))
            have fk62 := (fk57.keep K60 (ninS ne_b20_b33 nin0))
            have fk63 := (fk58.keep K60 (ninS ne_b14_b33 nin0))
            refine OwnK.call_static_v X60 (z := (⟨"com/example/brygga/brygga/ClientHelloOfPinLaw", "at", "(III[I[I[II)B"⟩ : MethodName)) (n := 519) at_516 (hw _ (List.mem_of_getElem? (i := 13) rfl)) (hw _ (List.mem_of_getElem? (i := 14) rfl)) (hw _ (List.mem_of_getElem? (i := 15) rfl)) (hw _ (List.mem_of_getElem? (i := 4) rfl)) (by decide) (rm2 l Z a0 hw [] b8 b20 b14 h60 n0 5 F1 F2 C3 (by decide) hF1 hF2 L1 L2 L3 lL1 lL2 lL3 fk61 fk62 fk63) (argsL := [(.int (5 : Int32)), (.int (Int32.ofNat F1)), (.int (Int32.ofNat F2)), (.ref b8), (.ref b20), (.ref b14), (.int (Int32.ofNat C3))]) (rest := [(.int (5 : Int32)), (.ref b33)]) rfl rfl (OwnK.lenA pd__III_I_I_II_B rfl) (W := 2) (Nat.le_of_eq rfl) (by decide) (by decide) (by decide) (by decide) rfl ?_
            intro T64 h64 w64 X64 ⟨q1, q2⟩
            subst q1 q2
            refine OwnK.bastore X64 (i := 5) (z := (own_at 5 F1 F2 L1 L2 L3 (Int32.ofNat C3))) (n := 520) at_519 A60 rfl (Nat.le_of_ble_eq_true rfl) (own_narAt ..) ge_b33 rfl ?_
            intro T65 h65 X65 W65 A65
            have K65 := (Keep.of_wr W65)
            have O65 := O60.keep K65 (allS ge_b33 all0)
            have Z65 : Keep h0 h65 [] := Z60.trans K65 (allS (P := fun x => x ∈ [] ∨ h0.size ≤ x) (Or.inr sz_b33) all0)
            replace A65 : Ark Z h65 b33 .byte [(.int (own_at 0 F1 F2 L1 L2 L3 (Int32.ofNat C3))), (.int (own_at 1 F1 F2 L1 L2 L3 (Int32.ofNat C3))), (.int (own_at 2 F1 F2 L1 L2 L3 (Int32.ofNat C3))), (.int (own_at 3 F1 F2 L1 L2 L3 (Int32.ofNat C3))), (.int (own_at 4 F1 F2 L1 L2 L3 (Int32.ofNat C3))), (.int (own_at 5 F1 F2 L1 L2 L3 (Int32.ofNat C3))), (.int (0 : Int32)), (.int (0 : Int32)), (.int (0 : Int32)), (.int (0 : Int32)), (.int (0 : Int32)), (.int (0 : Int32)), (.int (0 : Int32)), (.int (0 : Int32)), (.int (0 : Int32)), (.int (0 : Int32))] := A65
            refine OwnK.aload X65 (n := 522) at_520 rfl rfl rfl ?_
            refine OwnK.bipush X65 (z := (6 : Int32)) (n := 524) at_522 rfl rfl ?_
            refine OwnK.bipush X65 (z := (6 : Int32)) (n := 526) at_524 rfl rfl ?_
            refine OwnK.iload X65 (n := 528) at_526 rfl rfl ?_
            refine OwnK.iload X65 (n := 530) at_528 rfl rfl ?_
            refine OwnK.aload X65 (n := 532) at_530 rfl rfl rfl ?_
            refine OwnK.aload X65 (n := 534) at_532 rfl rfl rfl ?_
            refine OwnK.aload X65 (n := 536) at_534 rfl rfl rfl ?_
            refine OwnK.iload X65 (n := 538) at_536 rfl rfl ?_
            have fk66 := (fk61.keep K65 (ninS ne_b8_b33 nin0))
            have fk67 := (fk62.keep K65 (ninS ne_b20_b33 nin0))
            have fk68 := (fk63.keep K65 (ninS ne_b14_b33 nin0))
            refine OwnK.call_static_v X65 (z := (⟨"com/example/brygga/brygga/ClientHelloOfPinLaw", "at", "(III[I[I[II)B"⟩ : MethodName)) (n := 541) at_538 (hw _ (List.mem_of_getElem? (i := 13) rfl)) (hw _ (List.mem_of_getElem? (i := 14) rfl)) (hw _ (List.mem_of_getElem? (i := 15) rfl)) (hw _ (List.mem_of_getElem? (i := 4) rfl)) (by decide) (rm2 l Z a0 hw [] b8 b20 b14 h65 n0 6 F1 F2 C3 (by decide) hF1 hF2 L1 L2 L3 lL1 lL2 lL3 fk66 fk67 fk68) (argsL := [(.int (6 : Int32)), (.int (Int32.ofNat F1)), (.int (Int32.ofNat F2)), (.ref b8), (.ref b20), (.ref b14), (.int (Int32.ofNat C3))]) (rest := [(.int (6 : Int32)), (.ref b33)]) rfl rfl (OwnK.lenA pd__III_I_I_II_B rfl) (W := 2) (Nat.le_of_eq rfl) (by decide) (by decide) (by decide) (by decide) rfl ?_
            intro T69 h69 w69 X69 ⟨q1, q2⟩
            subst q1 q2
            refine OwnK.bastore X69 (i := 6) (z := (own_at 6 F1 F2 L1 L2 L3 (Int32.ofNat C3))) (n := 542) at_541 A65 rfl (Nat.le_of_ble_eq_true rfl) (own_narAt ..) ge_b33 rfl ?_
            intro T70 h70 X70 W70 A70
            have K70 := (Keep.of_wr W70)
            have O70 := O65.keep K70 (allS ge_b33 all0)
            have Z70 : Keep h0 h70 [] := Z65.trans K70 (allS (P := fun x => x ∈ [] ∨ h0.size ≤ x) (Or.inr sz_b33) all0)
            replace A70 : Ark Z h70 b33 .byte [(.int (own_at 0 F1 F2 L1 L2 L3 (Int32.ofNat C3))), (.int (own_at 1 F1 F2 L1 L2 L3 (Int32.ofNat C3))), (.int (own_at 2 F1 F2 L1 L2 L3 (Int32.ofNat C3))), (.int (own_at 3 F1 F2 L1 L2 L3 (Int32.ofNat C3))), (.int (own_at 4 F1 F2 L1 L2 L3 (Int32.ofNat C3))), (.int (own_at 5 F1 F2 L1 L2 L3 (Int32.ofNat C3))), (.int (own_at 6 F1 F2 L1 L2 L3 (Int32.ofNat C3))), (.int (0 : Int32)), (.int (0 : Int32)), (.int (0 : Int32)), (.int (0 : Int32)), (.int (0 : Int32)), (.int (0 : Int32)), (.int (0 : Int32)), (.int (0 : Int32)), (.int (0 : Int32))] := A70
            refine OwnK.aload X70 (n := 544) at_542 rfl rfl rfl ?_
            refine OwnK.bipush X70 (z := (7 : Int32)) (n := 546) at_544 rfl rfl ?_
            refine OwnK.bipush X70 (z := (7 : Int32)) (n := 548) at_546 rfl rfl ?_
            refine OwnK.iload X70 (n := 550) at_548 rfl rfl ?_
            refine OwnK.iload X70 (n := 552) at_550 rfl rfl ?_
            refine OwnK.aload X70 (n := 554) at_552 rfl rfl rfl ?_
            refine OwnK.aload X70 (n := 556) at_554 rfl rfl rfl ?_
            refine OwnK.aload X70 (n := 558) at_556 rfl rfl rfl ?_
            refine OwnK.iload X70 (n := 560) at_558 rfl rfl ?_
            have fk71 := (fk66.keep K70 (ninS ne_b8_b33 nin0))
            have fk72 := (fk67.keep K70 (ninS ne_b20_b33 nin0))
            have fk73 := (fk68.keep K70 (ninS ne_b14_b33 nin0))
            refine OwnK.call_static_v X70 (z := (⟨"com/example/brygga/brygga/ClientHelloOfPinLaw", "at", "(III[I[I[II)B"⟩ : MethodName)) (n := 563) at_560 (hw _ (List.mem_of_getElem? (i := 13) rfl)) (hw _ (List.mem_of_getElem? (i := 14) rfl)) (hw _ (List.mem_of_getElem? (i := 15) rfl)) (hw _ (List.mem_of_getElem? (i := 4) rfl)) (by decide) (rm2 l Z a0 hw [] b8 b20 b14 h70 n0 7 F1 F2 C3 (by decide) hF1 hF2 L1 L2 L3 lL1 lL2 lL3 fk71 fk72 fk73) (argsL := [(.int (7 : Int32)), (.int (Int32.ofNat F1)), (.int (Int32.ofNat F2)), (.ref b8), (.ref b20), (.ref b14), (.int (Int32.ofNat C3))]) (rest := [(.int (7 : Int32)), (.ref b33)]) rfl rfl (OwnK.lenA pd__III_I_I_II_B rfl) (W := 2) (Nat.le_of_eq rfl) (by decide) (by decide) (by decide) (by decide) rfl ?_
            intro T74 h74 w74 X74 ⟨q1, q2⟩
            subst q1 q2
            refine OwnK.bastore X74 (i := 7) (z := (own_at 7 F1 F2 L1 L2 L3 (Int32.ofNat C3))) (n := 564) at_563 A70 rfl (Nat.le_of_ble_eq_true rfl) (own_narAt ..) ge_b33 rfl ?_
            intro T75 h75 X75 W75 A75
            have K75 := (Keep.of_wr W75)
            have O75 := O70.keep K75 (allS ge_b33 all0)
            have Z75 : Keep h0 h75 [] := Z70.trans K75 (allS (P := fun x => x ∈ [] ∨ h0.size ≤ x) (Or.inr sz_b33) all0)
            replace A75 : Ark Z h75 b33 .byte [(.int (own_at 0 F1 F2 L1 L2 L3 (Int32.ofNat C3))), (.int (own_at 1 F1 F2 L1 L2 L3 (Int32.ofNat C3))), (.int (own_at 2 F1 F2 L1 L2 L3 (Int32.ofNat C3))), (.int (own_at 3 F1 F2 L1 L2 L3 (Int32.ofNat C3))), (.int (own_at 4 F1 F2 L1 L2 L3 (Int32.ofNat C3))), (.int (own_at 5 F1 F2 L1 L2 L3 (Int32.ofNat C3))), (.int (own_at 6 F1 F2 L1 L2 L3 (Int32.ofNat C3))), (.int (own_at 7 F1 F2 L1 L2 L3 (Int32.ofNat C3))), (.int (0 : Int32)), (.int (0 : Int32)), (.int (0 : Int32)), (.int (0 : Int32)), (.int (0 : Int32)), (.int (0 : Int32)), (.int (0 : Int32)), (.int (0 : Int32))] := A75
            refine OwnK.aload X75 (n := 566) at_564 rfl rfl rfl ?_
            refine OwnK.bipush X75 (z := (8 : Int32)) (n := 568) at_566 rfl rfl ?_
            refine OwnK.bipush X75 (z := (8 : Int32)) (n := 570) at_568 rfl rfl ?_
            refine OwnK.iload X75 (n := 572) at_570 rfl rfl ?_
            refine OwnK.iload X75 (n := 574) at_572 rfl rfl ?_
            refine OwnK.aload X75 (n := 576) at_574 rfl rfl rfl ?_
            refine OwnK.aload X75 (n := 578) at_576 rfl rfl rfl ?_
            refine OwnK.aload X75 (n := 580) at_578 rfl rfl rfl ?_
            refine OwnK.iload X75 (n := 582) at_580 rfl rfl ?_
            have fk76 := (fk71.keep K75 (ninS ne_b8_b33 nin0))
            have fk77 := (fk72.keep K75 (ninS ne_b20_b33 nin0))
            have fk78 := (fk73.keep K75 (ninS ne_b14_b33 nin0))
            refine OwnK.call_static_v X75 (z := (⟨"com/example/brygga/brygga/ClientHelloOfPinLaw", "at", "(III[I[I[II)B"⟩ : MethodName)) (n := 585) at_582 (hw _ (List.mem_of_getElem? (i := 13) rfl)) (hw _ (List.mem_of_getElem? (i := 14) rfl)) (hw _ (List.mem_of_getElem? (i := 15) rfl)) (hw _ (List.mem_of_getElem? (i := 4) rfl)) (by decide) (rm2 l Z a0 hw [] b8 b20 b14 h75 n0 8 F1 F2 C3 (by decide) hF1 hF2 L1 L2 L3 lL1 lL2 lL3 fk76 fk77 fk78) (argsL := [(.int (8 : Int32)), (.int (Int32.ofNat F1)), (.int (Int32.ofNat F2)), (.ref b8), (.ref b20), (.ref b14), (.int (Int32.ofNat C3))]) (rest := [(.int (8 : Int32)), (.ref b33)]) rfl rfl (OwnK.lenA pd__III_I_I_II_B rfl) (W := 2) (Nat.le_of_eq rfl) (by decide) (by decide) (by decide) (by decide) rfl ?_
            intro T79 h79 w79 X79 ⟨q1, q2⟩
            subst q1 q2
            refine OwnK.bastore X79 (i := 8) (z := (own_at 8 F1 F2 L1 L2 L3 (Int32.ofNat C3))) (n := 586) at_585 A75 rfl (Nat.le_of_ble_eq_true rfl) (own_narAt ..) ge_b33 rfl ?_
            intro T80 h80 X80 W80 A80
            have K80 := (Keep.of_wr W80)
            have O80 := O75.keep K80 (allS ge_b33 all0)
            have Z80 : Keep h0 h80 [] := Z75.trans K80 (allS (P := fun x => x ∈ [] ∨ h0.size ≤ x) (Or.inr sz_b33) all0)
            replace A80 : Ark Z h80 b33 .byte [(.int (own_at 0 F1 F2 L1 L2 L3 (Int32.ofNat C3))), (.int (own_at 1 F1 F2 L1 L2 L3 (Int32.ofNat C3))), (.int (own_at 2 F1 F2 L1 L2 L3 (Int32.ofNat C3))), (.int (own_at 3 F1 F2 L1 L2 L3 (Int32.ofNat C3))), (.int (own_at 4 F1 F2 L1 L2 L3 (Int32.ofNat C3))), (.int (own_at 5 F1 F2 L1 L2 L3 (Int32.ofNat C3))), (.int (own_at 6 F1 F2 L1 L2 L3 (Int32.ofNat C3))), (.int (own_at 7 F1 F2 L1 L2 L3 (Int32.ofNat C3))), (.int (own_at 8 F1 F2 L1 L2 L3 (Int32.ofNat C3))), (.int (0 : Int32)), (.int (0 : Int32)), (.int (0 : Int32)), (.int (0 : Int32)), (.int (0 : Int32)), (.int (0 : Int32)), (.int (0 : Int32))] := A80
            refine OwnK.aload X80 (n := 588) at_586 rfl rfl rfl ?_
            refine OwnK.bipush X80 (z := (9 : Int32)) (n := 590) at_588 rfl rfl ?_
            refine OwnK.bipush X80 (z := (9 : Int32)) (n := 592) at_590 rfl rfl ?_
            refine OwnK.iload X80 (n := 594) at_592 rfl rfl ?_
            refine OwnK.iload X80 (n := 596) at_594 rfl rfl ?_
            refine OwnK.aload X80 (n := 598) at_596 rfl rfl rfl ?_
            refine OwnK.aload X80 (n := 600) at_598 rfl rfl rfl ?_
            refine OwnK.aload X80 (n := 602) at_600 rfl rfl rfl ?_
            refine OwnK.iload X80 (n := 604) at_602 rfl rfl ?_
            have fk81 := (fk76.keep K80 (ninS ne_b8_b33 nin0))
            have fk82 := (fk77.keep K80 (ninS ne_b20_b33 nin0))
            have fk83 := (fk78.keep K80 (ninS ne_b14_b33 nin0))
            refine OwnK.call_static_v X80 (z := (⟨"com/example/brygga/brygga/ClientHelloOfPinLaw", "at", "(III[I[I[II)B"⟩ : MethodName)) (n := 607) at_604 (hw _ (List.mem_of_getElem? (i := 13) rfl)) (hw _ (List.mem_of_getElem? (i := 14) rfl)) (hw _ (List.mem_of_getElem? (i := 15) rfl)) (hw _ (List.mem_of_getElem? (i := 4) rfl)) (by decide) (rm2 l Z a0 hw [] b8 b20 b14 h80 n0 9 F1 F2 C3 (by decide) hF1 hF2 L1 L2 L3 lL1 lL2 lL3 fk81 fk82 fk83) (argsL := [(.int (9 : Int32)), (.int (Int32.ofNat F1)), (.int (Int32.ofNat F2)), (.ref b8), (.ref b20), (.ref b14), (.int (Int32.ofNat C3))]) (rest := [(.int (9 : Int32)), (.ref b33)]) rfl rfl (OwnK.lenA pd__III_I_I_II_B rfl) (W := 2) (Nat.le_of_eq rfl) (by decide) (by decide) (by decide) (by decide) rfl ?_
            intro T84 h84 w84 X84 ⟨q1, q2⟩
            subst q1 q2
            refine OwnK.bastore X84 (i := 9) (z := (own_at 9 F1 F2 L1 L2 L3 (Int32.ofNat C3))) (n := 608) at_607 A80 rfl (Nat.le_of_ble_eq_true rfl) (own_narAt ..) ge_b33 rfl ?_
            intro T85 h85 X85 W85 A85
            have K85 := (Keep.of_wr W85)
            have O85 := O80.keep K85 (allS ge_b33 all0)
            have Z85 : Keep h0 h85 [] := Z80.trans K85 (allS (P := fun x => x ∈ [] ∨ h0.size ≤ x) (Or.inr sz_b33) all0)
            replace A85 : Ark Z h85 b33 .byte [(.int (own_at 0 F1 F2 L1 L2 L3 (Int32.ofNat C3))), (.int (own_at 1 F1 F2 L1 L2 L3 (Int32.ofNat C3))), (.int (own_at 2 F1 F2 L1 L2 L3 (Int32.ofNat C3))), (.int (own_at 3 F1 F2 L1 L2 L3 (Int32.ofNat C3))), (.int (own_at 4 F1 F2 L1 L2 L3 (Int32.ofNat C3))), (.int (own_at 5 F1 F2 L1 L2 L3 (Int32.ofNat C3))), (.int (own_at 6 F1 F2 L1 L2 L3 (Int32.ofNat C3))), (.int (own_at 7 F1 F2 L1 L2 L3 (Int32.ofNat C3))), (.int (own_at 8 F1 F2 L1 L2 L3 (Int32.ofNat C3))), (.int (own_at 9 F1 F2 L1 L2 L3 (Int32.ofNat C3))), (.int (0 : Int32)), (.int (0 : Int32)), (.int (0 : Int32)), (.int (0 : Int32)), (.int (0 : Int32)), (.int (0 : Int32))] := A85
            refine OwnK.aload X85 (n := 610) at_608 rfl rfl rfl ?_
            refine OwnK.bipush X85 (z := (10 : Int32)) (n := 612) at_610 rfl rfl ?_
            refine OwnK.bipush X85 (z := (10 : Int32)) (n := 614) at_612 rfl rfl ?_
            refine OwnK.iload X85 (n := 616) at_614 rfl rfl ?_
            refine OwnK.iload X85 (n := 618) at_616 rfl rfl ?_
            refine OwnK.aload X85 (n := 620) at_618 rfl rfl rfl ?_
            refine OwnK.aload X85 (n := 622) at_620 rfl rfl rfl ?_
            refine OwnK.aload X85 (n := 624) at_622 rfl rfl rfl ?_
            refine OwnK.iload X85 (n := 626) at_624 rfl rfl ?_
            have fk86 := (fk81.keep K85 (ninS ne_b8_b33 nin0))
            have fk87 := (fk82.keep K85 (ninS ne_b20_b33 nin0))
            have fk88 := (fk83.keep K85 (ninS ne_b14_b33 nin0))
            refine OwnK.call_static_v X85 (z := (⟨"com/example/brygga/brygga/ClientHelloOfPinLaw", "at", "(III[I[I[II)B"⟩ : MethodName)) (n := 629) at_626 (hw _ (List.mem_of_getElem? (i := 13) rfl)) (hw _ (List.mem_of_getElem? (i := 14) rfl)) (hw _ (List.mem_of_getElem? (i := 15) rfl)) (hw _ (List.mem_of_getElem? (i := 4) rfl)) (by decide) (rm2 l Z a0 hw [] b8 b20 b14 h85 n0 10 F1 F2 C3 (by decide) hF1 hF2 L1 L2 L3 lL1 lL2 lL3 fk86 fk87 fk88) (argsL := [(.int (10 : Int32)), (.int (Int32.ofNat F1)), (.int (Int32.ofNat F2)), (.ref b8), (.ref b20), (.ref b14), (.int (Int32.ofNat C3))]) (rest := [(.int (10 : Int32)), (.ref b33)]) rfl rfl (OwnK.lenA pd__III_I_I_II_B rfl) (W := 2) (Nat.le_of_eq rfl) (by decide) (by decide) (by decide) (by decide) rfl ?_
            intro T89 h89 w89 X89 ⟨q1, q2⟩
            subst q1 q2
            refine OwnK.bastore X89 (i := 10) (z := (own_at 10 F1 F2 L1 L2 L3 (Int32.ofNat C3))) (n := 630) at_629 A85 rfl (Nat.le_of_ble_eq_true rfl) (own_narAt ..) ge_b33 rfl ?_
            intro T90 h90 X90 W90 A90
            have K90 := (Keep.of_wr W90)
            have O90 := O85.keep K90 (allS ge_b33 all0)
            have Z90 : Keep h0 h90 [] := Z85.trans K90 (allS (P := fun x => x ∈ [] ∨ h0.size ≤ x) (Or.inr sz_b33) all0)
            replace A90 : Ark Z h90 b33 .byte [(.int (own_at 0 F1 F2 L1 L2 L3 (Int32.ofNat C3))), (.int (own_at 1 F1 F2 L1 L2 L3 (Int32.ofNat C3))), (.int (own_at 2 F1 F2 L1 L2 L3 (Int32.ofNat C3))), (.int (own_at 3 F1 F2 L1 L2 L3 (Int32.ofNat C3))), (.int (own_at 4 F1 F2 L1 L2 L3 (Int32.ofNat C3))), (.int (own_at 5 F1 F2 L1 L2 L3 (Int32.ofNat C3))), (.int (own_at 6 F1 F2 L1 L2 L3 (Int32.ofNat C3))), (.int (own_at 7 F1 F2 L1 L2 L3 (Int32.ofNat C3))), (.int (own_at 8 F1 F2 L1 L2 L3 (Int32.ofNat C3))), (.int (own_at 9 F1 F2 L1 L2 L3 (Int32.ofNat C3))), (.int (own_at 10 F1 F2 L1 L2 L3 (Int32.ofNat C3))), (.int (0 : Int32)), (.int (0 : Int32)), (.int (0 : Int32)), (.int (0 : Int32)), (.int (0 : Int32))] := A90
            refine OwnK.aload X90 (n := 632) at_630 rfl rfl rfl ?_
            refine OwnK.bipush X90 (z := (11 : Int32)) (n := 634) at_632 rfl rfl ?_
            refine OwnK.bipush X90 (z := (11 : Int32)) (n := 636) at_634 rfl rfl ?_
            refine OwnK.iload X90 (n := 638) at_636 rfl rfl ?_
            refine OwnK.iload X90 (n := 640) at_638 rfl rfl ?_
            refine OwnK.aload X90 (n := 642) at_640 rfl rfl rfl ?_
            refine OwnK.aload X90 (n := 644) at_642 rfl rfl rfl ?_
            refine OwnK.aload X90 (n := 646) at_644 rfl rfl rfl ?_
            refine OwnK.iload X90 (n := 648) at_646 rfl rfl ?_
            have fk91 := (fk86.keep K90 (ninS ne_b8_b33 nin0))
            have fk92 := (fk87.keep K90 (ninS ne_b20_b33 nin0))
            have fk93 := (fk88.keep K90 (ninS ne_b14_b33 nin0))
            refine OwnK.call_static_v X90 (z := (⟨"com/example/brygga/brygga/ClientHelloOfPinLaw", "at", "(III[I[I[II)B"⟩ : MethodName)) (n := 651) at_648 (hw _ (List.mem_of_getElem? (i := 13) rfl)) (hw _ (List.mem_of_getElem? (i := 14) rfl)) (hw _ (List.mem_of_getElem? (i := 15) rfl)) (hw _ (List.mem_of_getElem? (i := 4) rfl)) (by decide) (rm2 l Z a0 hw [] b8 b20 b14 h90 n0 11 F1 F2 C3 (by decide) hF1 hF2 L1 L2 L3 lL1 lL2 lL3 fk91 fk92 fk93) (argsL := [(.int (11 : Int32)), (.int (Int32.ofNat F1)), (.int (Int32.ofNat F2)), (.ref b8), (.ref b20), (.ref b14), (.int (Int32.ofNat C3))]) (rest := [(.int (11 : Int32)), (.ref b33)]) rfl rfl (OwnK.lenA pd__III_I_I_II_B rfl) (W := 2) (Nat.le_of_eq rfl) (by decide) (by decide) (by decide) (by decide) rfl ?_
            intro T94 h94 w94 X94 ⟨q1, q2⟩
            subst q1 q2
            refine OwnK.bastore X94 (i := 11) (z := (own_at 11 F1 F2 L1 L2 L3 (Int32.ofNat C3))) (n := 652) at_651 A90 rfl (Nat.le_of_ble_eq_true rfl) (own_narAt ..) ge_b33 rfl ?_
            intro T95 h95 X95 W95 A95
            have K95 := (Keep.of_wr W95)
            have O95 := O90.keep K95 (allS ge_b33 all0)
            have Z95 : Keep h0 h95 [] := Z90.trans K95 (allS (P := fun x => x ∈ [] ∨ h0.size ≤ x) (Or.inr sz_b33) all0)
            replace A95 : Ark Z h95 b33 .byte [(.int (own_at 0 F1 F2 L1 L2 L3 (Int32.ofNat C3))), (.int (own_at 1 F1 F2 L1 L2 L3 (Int32.ofNat C3))), (.int (own_at 2 F1 F2 L1 L2 L3 (Int32.ofNat C3))), (.int (own_at 3 F1 F2 L1 L2 L3 (Int32.ofNat C3))), (.int (own_at 4 F1 F2 L1 L2 L3 (Int32.ofNat C3))), (.int (own_at 5 F1 F2 L1 L2 L3 (Int32.ofNat C3))), (.int (own_at 6 F1 F2 L1 L2 L3 (Int32.ofNat C3))), (.int (own_at 7 F1 F2 L1 L2 L3 (Int32.ofNat C3))), (.int (own_at 8 F1 F2 L1 L2 L3 (Int32.ofNat C3))), (.int (own_at 9 F1 F2 L1 L2 L3 (Int32.ofNat C3))), (.int (own_at 10 F1 F2 L1 L2 L3 (Int32.ofNat C3))), (.int (own_at 11 F1 F2 L1 L2 L3 (Int32.ofNat C3))), (.int (0 : Int32)), (.int (0 : Int32)), (.int (0 : Int32)), (.int (0 : Int32))] := A95
            refine OwnK.aload X95 (n := 654) at_652 rfl rfl rfl ?_
            refine OwnK.bipush X95 (z := (12 : Int32)) (n := 656) at_654 rfl rfl ?_
            refine OwnK.bipush X95 (z := (12 : Int32)) (n := 658) at_656 rfl rfl ?_
            refine OwnK.iload X95 (n := 660) at_658 rfl rfl ?_
            refine OwnK.iload X95 (n := 662) at_660 rfl rfl ?_
            refine OwnK.aload X95 (n := 664) at_662 rfl rfl rfl ?_
            refine OwnK.aload X95 (n := 666) at_664 rfl rfl rfl ?_
            refine OwnK.aload X95 (n := 668) at_666 rfl rfl rfl ?_
            refine OwnK.iload X95 (n := 670) at_668 rfl rfl ?_
            have fk96 := (fk91.keep K95 (ninS ne_b8_b33 nin0))
            have fk97 := (fk92.keep K95 (ninS ne_b20_b33 nin0))
            have fk98 := (fk93.keep K95 (ninS ne_b14_b33 nin0))
            refine OwnK.call_static_v X95 (z := (⟨"com/example/brygga/brygga/ClientHelloOfPinLaw", "at", "(III[I[I[II)B"⟩ : MethodName)) (n := 673) at_670 (hw _ (List.mem_of_getElem? (i := 13) rfl)) (hw _ (List.mem_of_getElem? (i := 14) rfl)) (hw _ (List.mem_of_getElem? (i := 15) rfl)) (hw _ (List.mem_of_getElem? (i := 4) rfl)) (by decide) (rm2 l Z a0 hw [] b8 b20 b14 h95 n0 12 F1 F2 C3 (by decide) hF1 hF2 L1 L2 L3 lL1 lL2 lL3 fk96 fk97 fk98) (argsL := [(.int (12 : Int32)), (.int (Int32.ofNat F1)), (.int (Int32.ofNat F2)), (.ref b8), (.ref b20), (.ref b14), (.int (Int32.ofNat C3))]) (rest := [(.int (12 : Int32)), (.ref b33)]) rfl rfl (OwnK.lenA pd__III_I_I_II_B rfl) (W := 2) (Nat.le_of_eq rfl) (by decide) (by decide) (by decide) (by decide) rfl ?_
            intro T99 h99 w99 X99 ⟨q1, q2⟩
            subst q1 q2
            refine OwnK.bastore X99 (i := 12) (z := (own_at 12 F1 F2 L1 L2 L3 (Int32.ofNat C3))) (n := 674) at_673 A95 rfl (Nat.le_of_ble_eq_true rfl) (own_narAt ..) ge_b33 rfl ?_
            intro T100 h100 X100 W100 A100
            have K100 := (Keep.of_wr W100)
            have O100 := O95.keep K100 (allS ge_b33 all0)
            have Z100 : Keep h0 h100 [] := Z95.trans K100 (allS (P := fun x => x ∈ [] ∨ h0.size ≤ x) (Or.inr sz_b33) all0)
            replace A100 : Ark Z h100 b33 .byte [(.int (own_at 0 F1 F2 L1 L2 L3 (Int32.ofNat C3))), (.int (own_at 1 F1 F2 L1 L2 L3 (Int32.ofNat C3))), (.int (own_at 2 F1 F2 L1 L2 L3 (Int32.ofNat C3))), (.int (own_at 3 F1 F2 L1 L2 L3 (Int32.ofNat C3))), (.int (own_at 4 F1 F2 L1 L2 L3 (Int32.ofNat C3))), (.int (own_at 5 F1 F2 L1 L2 L3 (Int32.ofNat C3))), (.int (own_at 6 F1 F2 L1 L2 L3 (Int32.ofNat C3))), (.int (own_at 7 F1 F2 L1 L2 L3 (Int32.ofNat C3))), (.int (own_at 8 F1 F2 L1 L2 L3 (Int32.ofNat C3))), (.int (own_at 9 F1 F2 L1 L2 L3 (Int32.ofNat C3))), (.int (own_at 10 F1 F2 L1 L2 L3 (Int32.ofNat C3))), (.int (own_at 11 F1 F2 L1 L2 L3 (Int32.ofNat C3))), (.int (own_at 12 F1 F2 L1 L2 L3 (Int32.ofNat C3))), (.int (0 : Int32)), (.int (0 : Int32)), (.int (0 : Int32))] := A100
            refine OwnK.aload X100 (n := 676) at_674 rfl rfl rfl ?_
            refine OwnK.bipush X100 (z := (13 : Int32)) (n := 678) at_676 rfl rfl ?_
            refine OwnK.bipush X100 (z := (13 : Int32)) (n := 680) at_678 rfl rfl ?_
            refine OwnK.iload X100 (n := 682) at_680 rfl rfl ?_
            refine OwnK.iload X100 (n := 684) at_682 rfl rfl ?_
            refine OwnK.aload X100 (n := 686) at_684 rfl rfl rfl ?_
            refine OwnK.aload X100 (n := 688) at_686 rfl rfl rfl ?_
            refine OwnK.aload X100 (n := 690) at_688 rfl rfl rfl ?_
            refine OwnK.iload X100 (n := 692) at_690 rfl rfl ?_
            have fk101 := (fk96.keep K100 (ninS ne_b8_b33 nin0))
            have fk102 := (fk97.keep K100 (ninS ne_b20_b33 nin0))
            have fk103 := (fk98.keep K100 (ninS ne_b14_b33 nin0))
            refine OwnK.call_static_v X100 (z := (⟨"com/example/brygga/brygga/ClientHelloOfPinLaw", "at", "(III[I[I[II)B"⟩ : MethodName)) (n := 695) at_692 (hw _ (List.mem_of_getElem? (i := 13) rfl)) (hw _ (List.mem_of_getElem? (i := 14) rfl)) (hw _ (List.mem_of_getElem? (i := 15) rfl)) (hw _ (List.mem_of_getElem? (i := 4) rfl)) (by decide) (rm2 l Z a0 hw [] b8 b20 b14 h100 n0 13 F1 F2 C3 (by decide) hF1 hF2 L1 L2 L3 lL1 lL2 lL3 fk101 fk102 fk103) (argsL := [(.int (13 : Int32)), (.int (Int32.ofNat F1)), (.int (Int32.ofNat F2)), (.ref b8), (.ref b20), (.ref b14), (.int (Int32.ofNat C3))]) (rest := [(.int (13 : Int32)), (.ref b33)]) rfl rfl (OwnK.lenA pd__III_I_I_II_B rfl) (W := 2) (Nat.le_of_eq rfl) (by decide) (by decide) (by decide) (by decide) rfl ?_
            intro T104 h104 w104 X104 ⟨q1, q2⟩
            subst q1 q2
            refine OwnK.bastore X104 (i := 13) (z := (own_at 13 F1 F2 L1 L2 L3 (Int32.ofNat C3))) (n := 696) at_695 A100 rfl (Nat.le_of_ble_eq_true rfl) (own_narAt ..) ge_b33 rfl ?_
            intro T105 h105 X105 W105 A105
            have K105 := (Keep.of_wr W105)
            have O105 := O100.keep K105 (allS ge_b33 all0)
            have Z105 : Keep h0 h105 [] := Z100.trans K105 (allS (P := fun x => x ∈ [] ∨ h0.size ≤ x) (Or.inr sz_b33) all0)
            replace A105 : Ark Z h105 b33 .byte [(.int (own_at 0 F1 F2 L1 L2 L3 (Int32.ofNat C3))), (.int (own_at 1 F1 F2 L1 L2 L3 (Int32.ofNat C3))), (.int (own_at 2 F1 F2 L1 L2 L3 (Int32.ofNat C3))), (.int (own_at 3 F1 F2 L1 L2 L3 (Int32.ofNat C3))), (.int (own_at 4 F1 F2 L1 L2 L3 (Int32.ofNat C3))), (.int (own_at 5 F1 F2 L1 L2 L3 (Int32.ofNat C3))), (.int (own_at 6 F1 F2 L1 L2 L3 (Int32.ofNat C3))), (.int (own_at 7 F1 F2 L1 L2 L3 (Int32.ofNat C3))), (.int (own_at 8 F1 F2 L1 L2 L3 (Int32.ofNat C3))), (.int (own_at 9 F1 F2 L1 L2 L3 (Int32.ofNat C3))), (.int (own_at 10 F1 F2 L1 L2 L3 (Int32.ofNat C3))), (.int (own_at 11 F1 F2 L1 L2 L3 (Int32.ofNat C3))), (.int (own_at 12 F1 F2 L1 L2 L3 (Int32.ofNat C3))), (.int (own_at 13 F1 F2 L1 L2 L3 (Int32.ofNat C3))), (.int (0 : Int32)), (.int (0 : Int32))] := A105
            refine OwnK.aload X105 (n := 698) at_696 rfl rfl rfl ?_
            refine OwnK.bipush X105 (z := (14 : Int32)) (n := 700) at_698 rfl rfl ?_
            refine OwnK.bipush X105 (z := (14 : Int32)) (n := 702) at_700 rfl rfl ?_
            refine OwnK.iload X105 (n := 704) at_702 rfl rfl ?_
            refine OwnK.iload X105 (n := 706) at_704 rfl rfl ?_
            refine OwnK.aload X105 (n := 708) at_706 rfl rfl rfl ?_
            refine OwnK.aload X105 (n := 710) at_708 rfl rfl rfl ?_
            refine OwnK.aload X105 (n := 712) at_710 rfl rfl rfl ?_
            refine OwnK.iload X105 (n := 714) at_712 rfl rfl ?_
            have fk106 := (fk101.keep K105 (ninS ne_b8_b33 nin0))
            have fk107 := (fk102.keep K105 (ninS ne_b20_b33 nin0))
            have fk108 := (fk103.keep K105 (ninS ne_b14_b33 nin0))
            refine OwnK.call_static_v X105 (z := (⟨"com/example/brygga/brygga/ClientHelloOfPinLaw", "at", "(III[I[I[II)B"⟩ : MethodName)) (n := 717) at_714 (hw _ (List.mem_of_getElem? (i := 13) rfl)) (hw _ (List.mem_of_getElem? (i := 14) rfl)) (hw _ (List.mem_of_getElem? (i := 15) rfl)) (hw _ (List.mem_of_getElem? (i := 4) rfl)) (by decide) (rm2 l Z a0 hw [] b8 b20 b14 h105 n0 14 F1 F2 C3 (by decide) hF1 hF2 L1 L2 L3 lL1 lL2 lL3 fk106 fk107 fk108) (argsL := [(.int (14 : Int32)), (.int (Int32.ofNat F1)), (.int (Int32.ofNat F2)), (.ref b8), (.ref b20), (.ref b14), (.int (Int32.ofNat C3))]) (rest := [(.int (14 : Int32)), (.ref b33)]) rfl rfl (OwnK.lenA pd__III_I_I_II_B rfl) (W := 2) (Nat.le_of_eq rfl) (by decide) (by decide) (by decide) (by decide) rfl ?_
            intro T109 h109 w109 X109 ⟨q1, q2⟩
            subst q1 q2
            refine OwnK.bastore X109 (i := 14) (z := (own_at 14 F1 F2 L1 L2 L3 (Int32.ofNat C3))) (n := 718) at_717 A105 rfl (Nat.le_of_ble_eq_true rfl) (own_narAt ..) ge_b33 rfl ?_
            intro T110 h110 X110 W110 A110
            have K110 := (Keep.of_wr W110)
            have O110 := O105.keep K110 (allS ge_b33 all0)
            have Z110 : Keep h0 h110 [] := Z105.trans K110 (allS (P := fun x => x ∈ [] ∨ h0.size ≤ x) (Or.inr sz_b33) all0)
            replace A110 : Ark Z h110 b33 .byte [(.int (own_at 0 F1 F2 L1 L2 L3 (Int32.ofNat C3))), (.int (own_at 1 F1 F2 L1 L2 L3 (Int32.ofNat C3))), (.int (own_at 2 F1 F2 L1 L2 L3 (Int32.ofNat C3))), (.int (own_at 3 F1 F2 L1 L2 L3 (Int32.ofNat C3))), (.int (own_at 4 F1 F2 L1 L2 L3 (Int32.ofNat C3))), (.int (own_at 5 F1 F2 L1 L2 L3 (Int32.ofNat C3))), (.int (own_at 6 F1 F2 L1 L2 L3 (Int32.ofNat C3))), (.int (own_at 7 F1 F2 L1 L2 L3 (Int32.ofNat C3))), (.int (own_at 8 F1 F2 L1 L2 L3 (Int32.ofNat C3))), (.int (own_at 9 F1 F2 L1 L2 L3 (Int32.ofNat C3))), (.int (own_at 10 F1 F2 L1 L2 L3 (Int32.ofNat C3))), (.int (own_at 11 F1 F2 L1 L2 L3 (Int32.ofNat C3))), (.int (own_at 12 F1 F2 L1 L2 L3 (Int32.ofNat C3))), (.int (own_at 13 F1 F2 L1 L2 L3 (Int32.ofNat C3))), (.int (own_at 14 F1 F2 L1 L2 L3 (Int32.ofNat C3))), (.int (0 : Int32))] := A110
            refine OwnK.aload X110 (n := 720) at_718 rfl rfl rfl ?_
            refine OwnK.bipush X110 (z := (15 : Int32)) (n := 722) at_720 rfl rfl ?_
            refine OwnK.bipush X110 (z := (15 : Int32)) (n := 724) at_722 rfl rfl ?_
            refine OwnK.iload X110 (n := 726) at_724 rfl rfl ?_
            refine OwnK.iload X110 (n := 728) at_726 rfl rfl ?_
            refine OwnK.aload X110 (n := 730) at_728 rfl rfl rfl ?_
            refine OwnK.aload X110 (n := 732) at_730 rfl rfl rfl ?_
            refine OwnK.aload X110 (n := 734) at_732 rfl rfl rfl ?_
            refine OwnK.iload X110 (n := 736) at_734 rfl rfl ?_
            have fk111 := (fk106.keep K110 (ninS ne_b8_b33 nin0))
            have fk112 := (fk107.keep K110 (ninS ne_b20_b33 nin0))
            have fk113 := (fk108.keep K110 (ninS ne_b14_b33 nin0))
            refine OwnK.call_static_v X110 (z := (⟨"com/example/brygga/brygga/ClientHelloOfPinLaw", "at", "(III[I[I[II)B"⟩ : MethodName)) (n := 739) at_736 (hw _ (List.mem_of_getElem? (i := 13) rfl)) (hw _ (List.mem_of_getElem? (i := 14) rfl)) (hw _ (List.mem_of_getElem? (i := 15) rfl)) (hw _ (List.mem_of_getElem? (i := 4) rfl)) (by decide) (rm2 l Z a0 hw [] b8 b20 b14 h110 n0 15 F1 F2 C3 (by decide) hF1 hF2 L1 L2 L3 lL1 lL2 lL3 fk111 fk112 fk113) (argsL := [(.int (15 : Int32)), (.int (Int32.ofNat F1)), (.int (Int32.ofNat F2)), (.ref b8), (.ref b20), (.ref b14), (.int (Int32.ofNat C3))]) (rest := [(.int (15 : Int32)), (.ref b33)]) rfl rfl (OwnK.lenA pd__III_I_I_II_B rfl) (W := 2) (Nat.le_of_eq rfl) (by decide) (by decide) (by decide) (by decide) rfl ?_
            intro T114 h114 w114 X114 ⟨q1, q2⟩
            subst q1 q2
            refine OwnK.bastore X114 (i := 15) (z := (own_at 15 F1 F2 L1 L2 L3 (Int32.ofNat C3))) (n := 740) at_739 A110 rfl (Nat.le_of_ble_eq_true rfl) (own_narAt ..) ge_b33 rfl ?_
            intro T115 h115 X115 W115 A115
            have K115 := (Keep.of_wr W115)
            have O115 := O110.keep K115 (allS ge_b33 all0)
            have Z115 : Keep h0 h115 [] := Z110.trans K115 (allS (P := fun x => x ∈ [] ∨ h0.size ≤ x) (Or.inr sz_b33) all0)
            replace A115 : Ark Z h115 b33 .byte [(.int (own_at 0 F1 F2 L1 L2 L3 (Int32.ofNat C3))), (.int (own_at 1 F1 F2 L1 L2 L3 (Int32.ofNat C3))), (.int (own_at 2 F1 F2 L1 L2 L3 (Int32.ofNat C3))), (.int (own_at 3 F1 F2 L1 L2 L3 (Int32.ofNat C3))), (.int (own_at 4 F1 F2 L1 L2 L3 (Int32.ofNat C3))), (.int (own_at 5 F1 F2 L1 L2 L3 (Int32.ofNat C3))), (.int (own_at 6 F1 F2 L1 L2 L3 (Int32.ofNat C3))), (.int (own_at 7 F1 F2 L1 L2 L3 (Int32.ofNat C3))), (.int (own_at 8 F1 F2 L1 L2 L3 (Int32.ofNat C3))), (.int (own_at 9 F1 F2 L1 L2 L3 (Int32.ofNat C3))), (.int (own_at 10 F1 F2 L1 L2 L3 (Int32.ofNat C3))), (.int (own_at 11 F1 F2 L1 L2 L3 (Int32.ofNat C3))), (.int (own_at 12 F1 F2 L1 L2 L3 (Int32.ofNat C3))), (.int (own_at 13 F1 F2 L1 L2 L3 (Int32.ofNat C3))), (.int (own_at 14 F1 F2 L1 L2 L3 (Int32.ofNat C3))), (.int (own_at 15 F1 F2 L1 L2 L3 (Int32.ofNat C3)))] := A115
            refine OwnK.aload X115 (n := 742) at_740 rfl rfl rfl ?_
            refine OwnK.iload X115 (n := 744) at_742 rfl rfl ?_
            have Aw : Ark Z h115 b33 .byte (((List.range 16).map (fun p => own_at p F1 F2 L1 L2 L3 (Int32.ofNat C3))).map Value.int) := A115
            refine OwnK.call_static_v X115 (z := (⟨"com/example/brygga/brygga/ClientHello", "of", "([BI)Lcom/example/brygga/brygga/ClientHello$Framing;"⟩ : MethodName)) (n := 747) at_744 (hw _ (List.mem_of_getElem? (i := 16) rfl)) (hw _ (List.mem_of_getElem? (i := 17) rfl)) (hw _ (List.mem_of_getElem? (i := 19) rfl)) (hw _ (List.mem_of_getElem? (i := 18) rfl)) (by decide) (rm3 l Z a0 hw [] b33 h115 n0 O115 a_PARTIAL S_PARTIAL E_PARTIAL a_OTHER S_OTHER E_OTHER a_WHOLE S_WHOLE E_WHOLE N F1 F2 D C1 T C2 C3 hN hF1 hF2 hD hC1 hT hC2 hC3 _ _ _ _ (own_wire hF1 hF2 hC1 hT hC2 hC3 eL1 eL2 eL3) (own_decl hD) Aw) (argsL := [(.ref b33), (.int (Int32.ofNat N))]) (rest := []) rfl rfl (OwnK.lenA pd___BI_Lcom_example_brygga_brygga_ClientHello_Framing_ rfl) (W := 0) (Nat.le_of_eq rfl) (by decide) (by decide) (by decide) (by decide) rfl ?_
            intro T116 h116 w116 X116 ⟨q1, q2⟩
            subst q1 q2
            refine OwnK.astore X116 (l' := #[.val (.int p0), .val (.int p1), .val (.long q2), .second, .val (.long q3), .second, .val (.long q4), .second, .val (.int (Int32.ofNat N)), .val (.int (Int32.ofNat C1)), .val (.int (Int32.ofNat C2)), .val (.int (Int32.ofNat C3)), .val (.int (Int32.ofNat F1)), .val (.int (Int32.ofNat F2)), .val (.int (Int32.ofNat T)), .val (.int (Int32.ofNat D)), .val (.ref b8), .val (.ref b14), .val (.ref b20), .val (.ref b33), .val (.ref (own_exp a_PARTIAL a_OTHER a_WHOLE N F1 F2 D C1 T C2 C3))]) (n := 749) at_747 rfl rfl rfl ?_
            refine OwnK.aload X116 (n := 751) at_749 rfl rfl rfl ?_
            refine OwnK.iload X116 (n := 753) at_751 rfl rfl ?_
            refine OwnK.iload X116 (n := 755) at_753 rfl rfl ?_
            refine OwnK.iload X116 (n := 757) at_755 rfl rfl ?_
            refine OwnK.iload X116 (n := 759) at_757 rfl rfl ?_
            refine OwnK.iload X116 (n := 761) at_759 rfl rfl ?_
            refine OwnK.iload X116 (n := 763) at_761 rfl rfl ?_
            refine OwnK.iload X116 (n := 765) at_763 rfl rfl ?_
            refine OwnK.iload X116 (n := 767) at_765 rfl rfl ?_
            refine OwnK.call_static_v X116 (z := (⟨"com/example/brygga/brygga/ClientHelloOfPinLaw", "expected", "(IIIIIIII)Lcom/example/brygga/brygga/ClientHello$Framing;"⟩ : MethodName)) (n := 770) at_767 (hw _ (List.mem_of_getElem? (i := 23) rfl)) (hw _ (List.mem_of_getElem? (i := 24) rfl)) (hw _ (List.mem_of_getElem? (i := 25) rfl)) (hw _ (List.mem_of_getElem? (i := 4) rfl)) (by decide) (rm4 l Z a0 hw [] h115 n0 O115 a_PARTIAL S_PARTIAL E_PARTIAL a_OTHER S_OTHER E_OTHER a_WHOLE S_WHOLE E_WHOLE N F1 F2 D C1 T C2 C3 hN hF1 hF2 hD hC1 hT hC2 hC3) (argsL := [(.int (Int32.ofNat N)), (.int (Int32.ofNat C1)), (.int (Int32.ofNat F1)), (.int (Int32.ofNat T)), (.int (Int32.ofNat D)), (.int (Int32.ofNat C2)), (.int (Int32.ofNat F2)), (.int (Int32.ofNat C3))]) (rest := [(.ref (own_exp a_PARTIAL a_OTHER a_WHOLE N F1 F2 D C1 T C2 C3))]) rfl rfl (OwnK.lenA pd__IIIIIIII_Lcom_example_brygga_brygga_ClientHello_Framing_ rfl) (W := 1) (Nat.le_of_eq rfl) (by decide) (by decide) (by decide) (by decide) rfl ?_
            intro T117 h117 w117 X117 ⟨q1, q2⟩
            subst q1 q2
            refine OwnK.ac_ne X117 (n1 := 777) (n2 := 773) at_770 rfl rfl (by decide) rfl rfl (fun q => absurd (rfl : ((.ref (own_exp a_PARTIAL a_OTHER a_WHOLE N F1 F2 D C1 T C2 C3)) : Value) = (.ref (own_exp a_PARTIAL a_OTHER a_WHOLE N F1 F2 D C1 T C2 C3))) q) (fun _ => ?_)
            refine OwnK.iconst X117 (z := (1 : Int32)) (n := 774) at_773 rfl rfl ?_
            refine OwnK.goto X117 (n := 778) at_774 (by decide) rfl ?_
            exact OwnK.ireturn X117 rfl (Or.inr (Or.inl rfl)) rfl at_778 rfl (by decide) (by decide)
          · intro J7
            refine OwnK.lload X6 (n := 117) at_115 rfl rfl ?_
            refine OwnK.ldc2 X6 (n := 120) at_117 (hw _ (List.mem_of_getElem? (i := 8) rfl)) rfl ?_
            refine OwnK.land X6 (n := 121) at_120 rfl ?_
            refine OwnK.lconst X6 (z := (0 : Int64)) (n := 122) at_121 rfl rfl ?_
            refine OwnK.lcmp X6 (n := 123) at_122 rfl ?_
            refine OwnK.if_eq X6  (n1 := 143) (n2 := 126) at_123 (by decide) rfl rfl (fun hc123 => ?_) (fun hc123 => ?_)
            · refine OwnK.lload X6 (n := 145) at_143 rfl rfl ?_
              refine OwnK.bipush X6 (z := (10 : Int32)) (n := 147) at_145 rfl rfl ?_
              refine OwnK.lushr X6 (n := 148) at_147 rfl ?_
              refine OwnK.ldc2 X6 (n := 151) at_148 (hw _ (List.mem_of_getElem? (i := 27) rfl)) rfl ?_
              refine OwnK.land X6 (n := 152) at_151 rfl ?_
              refine OwnK.l2i X6 (n := 153) at_152 rfl ?_
              obtain ⟨k, ek, hk⟩ := own_24l ((q3.toUInt64 >>> ((10 : Int32) &&& 0x3f).toInt64.toUInt64).toInt64)
              rw [ek]
              exact J7 _ k X6 hk
            · refine OwnK.lload X6 (n := 128) at_126 rfl rfl ?_
              refine OwnK.bipush X6 (z := (10 : Int32)) (n := 130) at_128 rfl rfl ?_
              refine OwnK.lushr X6 (n := 131) at_130 rfl ?_
              refine OwnK.ldc2 X6 (n := 134) at_131 (hw _ (List.mem_of_getElem? (i := 9) rfl)) rfl ?_
              refine OwnK.land X6 (n := 135) at_134 rfl ?_
              refine OwnK.ldc2 X6 (n := 138) at_135 (hw _ (List.mem_of_getElem? (i := 10) rfl)) rfl ?_
              refine OwnK.lrem X6 (n := 139) at_138 (by decide) rfl ?_
              refine OwnK.l2i X6 (n := 140) at_139 rfl ?_
              refine OwnK.goto X6 (n := 153) at_140 (by decide) rfl ?_
              obtain ⟨k, ek, hk⟩ := own_12l ((q3.toUInt64 >>> ((10 : Int32) &&& 0x3f).toInt64.toUInt64).toInt64)
              rw [ek]
              exact J7 _ k X6 hk
        · intro J6
          refine OwnK.lload X5 (n := 93) at_91 rfl rfl ?_
          refine OwnK.lconst X5 (z := (1 : Int64)) (n := 94) at_93 rfl rfl ?_
          refine OwnK.land X5 (n := 95) at_94 rfl ?_
          refine OwnK.lconst X5 (z := (0 : Int64)) (n := 96) at_95 rfl rfl ?_
          refine OwnK.lcmp X5 (n := 97) at_96 rfl ?_
          refine OwnK.if_eq X5  (n1 := 104) (n2 := 100) at_97 (by decide) rfl rfl (fun hc97 => ?_) (fun hc97 => ?_)
          · refine OwnK.lload X5 (n := 106) at_104 rfl rfl ?_
            refine OwnK.iconst X5 (z := (1 : Int32)) (n := 107) at_106 rfl rfl ?_
            refine OwnK.lushr X5 (n := 108) at_107 rfl ?_
            refine OwnK.ldc2 X5 (n := 111) at_108 (hw _ (List.mem_of_getElem? (i := 7) rfl)) rfl ?_
            refine OwnK.land X5 (n := 112) at_111 rfl ?_
            refine OwnK.l2i X5 (n := 113) at_112 rfl ?_
            obtain ⟨k, ek, hk⟩ := own_255l ((q3.toUInt64 >>> ((1 : Int32) &&& 0x3f).toInt64.toUInt64).toInt64)
            rw [ek]
            exact J6 _ k X5 hk
          · refine OwnK.iconst X5 (z := (1 : Int32)) (n := 101) at_100 rfl rfl ?_
            refine OwnK.goto X5 (n := 113) at_101 (by decide) rfl ?_
            exact J6 _ 1 X5 (by decide)
      · intro J3
        refine OwnK.iloadN X2 (n := 53) at_52 rfl rfl ?_
        refine OwnK.ldc X2 (n := 55) at_53 (hw _ (List.mem_of_getElem? (i := 1) rfl)) rfl ?_
        refine OwnK.iand X2 (n := 56) at_55 rfl ?_
        refine OwnK.if_eq X2  (n1 := 64) (n2 := 59) at_56 (by decide) rfl rfl (fun hc56 => ?_) (fun hc56 => ?_)
        · refine OwnK.iloadN X2 (n := 65) at_64 rfl rfl ?_
          refine OwnK.bipush X2 (z := (19 : Int32)) (n := 67) at_65 rfl rfl ?_
          refine OwnK.iushr X2 (n := 68) at_67 rfl ?_
          refine OwnK.sipush X2 (z := (255 : Int32)) (n := 71) at_68 rfl rfl ?_
          refine OwnK.iand X2 (n := 72) at_71 rfl ?_
          obtain ⟨k, ek, hk⟩ := own_255n ((p1.toUInt32 >>> ((19 : Int32) &&& 31).toUInt32).toInt32)
          rw [ek]
          exact J3 _ k X2 hk
        · refine OwnK.bipush X2 (z := (22 : Int32)) (n := 61) at_59 rfl rfl ?_
          refine OwnK.goto X2 (n := 72) at_61 (by decide) rfl ?_
          exact J3 _ 22 X2 (by decide)
    · intro J2
      refine OwnK.iloadN X1 (n := 30) at_29 rfl rfl ?_
      refine OwnK.sipush X1 (z := (512 : Int32)) (n := 33) at_30 rfl rfl ?_
      refine OwnK.iand X1 (n := 34) at_33 rfl ?_
      refine OwnK.if_eq X1  (n1 := 42) (n2 := 37) at_34 (by decide) rfl rfl (fun hc34 => ?_) (fun hc34 => ?_)
      · refine OwnK.iloadN X1 (n := 43) at_42 rfl rfl ?_
        refine OwnK.bipush X1 (z := (10 : Int32)) (n := 45) at_43 rfl rfl ?_
        refine OwnK.iushr X1 (n := 46) at_45 rfl ?_
        refine OwnK.sipush X1 (z := (255 : Int32)) (n := 49) at_46 rfl rfl ?_
        refine OwnK.iand X1 (n := 50) at_49 rfl ?_
        obtain ⟨k, ek, hk⟩ := own_255n ((p1.toUInt32 >>> ((10 : Int32) &&& 31).toUInt32).toInt32)
        rw [ek]
        exact J2 _ k X1 hk
      · refine OwnK.bipush X1 (z := (22 : Int32)) (n := 39) at_37 rfl rfl ?_
        refine OwnK.goto X1 (n := 50) at_39 (by decide) rfl ?_
        exact J2 _ 22 X1 (by decide)
  · intro J1
    refine OwnK.iloadN X0 (n := 10) at_9 rfl rfl ?_
    refine OwnK.iconst X0 (z := (1 : Int32)) (n := 11) at_10 rfl rfl ?_
    refine OwnK.iand X0 (n := 12) at_11 rfl ?_
    refine OwnK.if_eq X0  (n1 := 20) (n2 := 15) at_12 (by decide) rfl rfl (fun hc12 => ?_) (fun hc12 => ?_)
    · refine OwnK.iloadN X0 (n := 21) at_20 rfl rfl ?_
      refine OwnK.iconst X0 (z := (1 : Int32)) (n := 22) at_21 rfl rfl ?_
      refine OwnK.iushr X0 (n := 23) at_22 rfl ?_
      refine OwnK.sipush X0 (z := (255 : Int32)) (n := 26) at_23 rfl rfl ?_
      refine OwnK.iand X0 (n := 27) at_26 rfl ?_
      obtain ⟨k, ek, hk⟩ := own_255n ((p1.toUInt32 >>> ((1 : Int32) &&& 31).toUInt32).toInt32)
      rw [ek]
      exact J1 _ k X0 hk
    · refine OwnK.bipush X0 (z := (22 : Int32)) (n := 17) at_15 rfl rfl ?_
      refine OwnK.goto X0 (n := 27) at_17 (by decide) rfl ?_
      exact J1 _ 22 X0 (by decide)
set_option maxRecDepth 65536 in
set_option maxHeartbeats 40000000 in
theorem comes_1 {Post : Tables → Env → Array Value → State → Outcome → State → Prop} (hpost : ∀ tb e args s v u, (limb_1_1.after args s (.returned v) u = true ∧ limb_1_2.after args s (.returned v) u = true ∧ True) → FrameEnd s (.returned v) u (Jvm.fieldLocs frame_1_writes args s ++ Jvm.arrayLocs frame_1_arrays args s ++ Jvm.staticLocs frame_1_statics s) 16 192 → Post tb e args s (.returned v) u) :
    ArmFor flags0 classFile x code maxLocals ret World_1 tables_1 room_1 Calls_1 rest_1 Pre_1 Post := by
  intro l hfl _ _ p e ha hc hk s m args below hf hA hF happ hP
  obtain ⟨hcalls, hrest, hpre⟩ := hP
  obtain ⟨-, -, -, hnamed, -, -, -, hat⟩ := (Spec.applies_iff hf).mp happ
  obtain ⟨hg, hn⟩ := and_e (Cond.before_iff.mp (show (Jvm.Cond.and given_1 narrow_1).before args s = true from hpre))
  obtain ⟨g0, q1⟩ := and_e hg
  obtain ⟨g1, q2⟩ := and_e q1
  obtain ⟨g2, q3⟩ := and_e q2
  obtain ⟨g3, q4⟩ := and_e q3
  obtain ⟨g4, g5⟩ := and_e q4
  obtain ⟨w0, w1, w2, w3, w4, rfl⟩ : ∃ w0 w1 w2 w3 w4 : Value, args = #[w0, w1, w2, w3, w4] := by
    have hs : args.size = 5 := by simpa [Cond.value, given_1] using g0
    obtain ⟨L⟩ := args
    match L, hs with
    | [w0, w1, w2, w3, w4], _ => exact ⟨w0, w1, w2, w3, w4, rfl⟩
  have hw := fun d (hd : d ∈ tables_1) => atoms_spec (ws := Jvm.Cond.code x code maxLocals ret :: tables_1) hat d (List.mem_cons_of_mem _ hd)
  have hfit : Fit s := fun {y c} hc i hi => by
    obtain ⟨ha, rfl⟩ := Array.getElem?_eq_some_iff.mp hc
    have q := List.all_eq_true.mp ((Array.all_eq_true_iff_forall_mem.mp hF) _ (Array.getElem_mem ha)) i (List.mem_range.mpr hi)
    simpa [Array.getElem?_eq_getElem hi] using q
  obtain ⟨i0, e0⟩ := is_v g1
  obtain rfl : w0 = (.int i0) := Option.some.inj e0
  obtain ⟨i1, e1⟩ := is_v g2
  obtain rfl : w1 = (.int i1) := Option.some.inj e1
  obtain ⟨i2, e2⟩ := isL_v g3
  obtain rfl : w2 = (.long i2) := Option.some.inj e2
  obtain ⟨i3, e3⟩ := isL_v g4
  obtain rfl : w3 = (.long i3) := Option.some.inj e3
  obtain ⟨i4, e4⟩ := isL_v g5
  obtain rfl : w4 = (.long i4) := Option.some.inj e4
  obtain ⟨c0, cc0⟩ := and_e hn
  obtain ⟨c1, c2⟩ := and_e cc0
  obtain ⟨a_PARTIAL, ev_PARTIAL⟩ := exa_v c0
  have S_PARTIAL := Sta.start ev_PARTIAL (Or.inr ⟨(hw _ (List.mem_of_getElem? (i := 21) rfl)), (hw _ (List.mem_of_getElem? (i := 22) rfl))⟩)
  have E_PARTIAL := Exa.start ev_PARTIAL c0
  obtain ⟨a_OTHER, ev_OTHER⟩ := exa_v c1
  have S_OTHER := Sta.start ev_OTHER (Or.inr ⟨(hw _ (List.mem_of_getElem? (i := 21) rfl)), (hw _ (List.mem_of_getElem? (i := 29) rfl))⟩)
  have E_OTHER := Exa.start ev_OTHER c1
  obtain ⟨a_WHOLE, ev_WHOLE⟩ := exa_v c2
  have S_WHOLE := Sta.start ev_WHOLE (Or.inr ⟨(hw _ (List.mem_of_getElem? (i := 21) rfl)), (hw _ (List.mem_of_getElem? (i := 37) rfl))⟩)
  have E_WHOLE := Exa.start ev_WHOLE c2
  obtain ⟨n, o, h1, h2, h3, v, L, rfl, ⟨⟨w, rfl, rfl⟩, N⟩, hq⟩ := rm0 l s _ hw tables_1 i0 i1 i2 i3 i4 s.heap s.heap.size (Old.start s) a_PARTIAL S_PARTIAL E_PARTIAL a_OTHER S_OTHER E_OTHER a_WHOLE S_WHOLE E_WHOLE p e ha hc hk s m _ below hf ((Spec.applies_iff_loose hf).mp happ).1 ⟨rfl, State.Warmed39.refl s, rfl⟩ trivial
  refine ⟨n, _, h1, h2, h3, hpost _ _ _ _ _ _ ⟨Cond.after_iff.mpr rfl, Cond.after_iff.mpr (eq_i res_at (Term.int_eval (1)) rfl), trivial⟩ ⟨hq.1, hq.2.1, (hq.2.2.sift fun y hy => Or.inr (N y hy)).mono (by decide) (by decide)⟩⟩
theorem main_1_1 : Claimed_1_1 := comes_1 fun _ _ _ _ _ _ h hF => ⟨h.1, hF⟩
theorem main_1_2 : Claimed_1_2 := comes_1 fun _ _ _ _ _ _ h hF => ⟨h.2.1, hF⟩
end Jvm.Pilot.@@N@@
namespace Jvm.Pilot.@@N@@
open Jvm Jvm.ClassFile Sem Op Lib Jvm.Free Jvm.Stand Jvm.Pilot.@@N@@.Jvm.D
/-! MADE BY PROGRAM (witnessworld.py) out of the Statement's table words and the real class files: 14 classes; the members and pool entries that the words name. The judged class is class 1, her method 1. -/
namespace start1
open Jvm.ClassFile
def u (s : String) : CpInfo := .utf8 (stringToUtf16 s)
/-- a pool by its gaps: so many unusable entries, then the entry; so many at the end -/
def gap : Nat → List CpInfo → List CpInfo
  | 0, r => r
  | n + 1, r => .unusable :: gap n r
def poolList (es : List (Nat × CpInfo)) (last : Nat) : List CpInfo := es.foldr (fun e r => gap e.1 (e.2 :: r)) (gap last [])
def pool (es : List (Nat × CpInfo)) (last : Nat) : Array CpInfo := ⟨poolList es last⟩
def fileOf (pool : Array CpInfo) (this : Nat) (attrs : Array Attribute := #[]) (ms : Array MethodInfo := #[]) (fl : Nat := 33) (sup : Nat := 0) (ifs : Array Nat := #[]) (fds : Array FieldInfo := #[]) : ClassFile where
  minorVersion := 0
  majorVersion := 65
  constantPool := pool
  accessFlags := fl
  thisClass := this
  superClass := sup
  interfaces := ifs
  fields := fds
  methods := ms
  attributes := attrs
def plain (name : String) (sup : Option ClassId) : Class where
  name := name
  kind := .ordinary
  loader := none
  accessFlags := 33
  super := sup
  interfaces := #[]
  cf := none
  fields := #[]
  methods := #[]
  instanceTypes := #[]
  staticTypes := #[]
  resolved := #[]
  callSites := []
  init := .initialized
  statics := none
  mirror := none

def pool0 : Array CpInfo := pool [(5, u "<init>"), (0, u "()V"), (1, .class_ 10), (1, u "java/lang/Object")] 113

def k0m0 : Method := { name := "<init>", desc := "()V", sig := { parameters := [], returnType := none }, accessFlags := 1, code := none }
/-- java/lang/Object -/
def k0 : Class := { plain "java/lang/Object" none with
  accessFlags := 33
  interfaces := #[]
  cf := some (fileOf pool0 8 #[] #[{ accessFlags := 1, nameIndex := 5, descriptorIndex := 6, attributes := #[] }] 33 0 #[] #[])
  fields := #[]
  methods := #[k0m0]
  instanceTypes := #[]
  staticTypes := #[]
  resolved := Array.replicate 124 none
  statics := none }

def pool1 : Array CpInfo := pool [(2, .class_ 4), (1, u "java/lang/Object"), (0, u "<init>"), (0, u "()V"), (0, .integer 2147483647), (0, .integer 262144), (0, .methodref 10 11), (0, .class_ 12), (0, .nameAndType 13 14), (0, u "com/example/brygga/brygga/ClientHelloOfPinLaw"), (0, u "fragment"), (0, u "(I)I"), (0, .long 255), (1, .long 512), (1, .long 2147483647), (1, .long 13), (1, .long 16777215), (1, .methodref 10 26), (0, .nameAndType 27 28), (0, u "at"), (0, u "(III[I[I[II)B"), (0, .methodref 30 31), (0, .class_ 32), (0, .nameAndType 33 34), (0, u "com/example/brygga/brygga/ClientHello"), (0, u "of"), (0, u "([BI)Lcom/example/brygga/brygga/ClientHello$Framing;"), (0, .methodref 10 36), (0, .nameAndType 37 38), (0, u "expected"), (0, u "(IIIIIIII)Lcom/example/brygga/brygga/ClientHello$Framing;"), (0, .integer 65535), (0, .fieldref 41 42), (0, .class_ 43), (0, .nameAndType 44 45), (0, u "com/example/brygga/brygga/ClientHello$Framing"), (0, u "PARTIAL"), (0, u "Lcom/example/brygga/brygga/ClientHello$Framing;"), (0, .fieldref 41 47), (0, .nameAndType 48 45), (0, u "OTHER"), (0, .methodref 50 51), (0, .class_ 52), (0, .nameAndType 53 54), (0, u "java/lang/Math"), (0, u "min"), (0, u "(II)I"), (0, .fieldref 41 56), (0, .nameAndType 57 45), (0, u "WHOLE"), (2, u "law"), (0, u "(IIJJJ)Z")] 9

def k1m0 : Method := { name := "<init>", desc := "()V", sig := { parameters := [], returnType := none }, accessFlags := 2, code := none }
def k1c1 : Code := { maxStack := 9, maxLocals := 21, code := code, exceptionTable := #[], attributes := #[] }
def k1m1 : Method := { name := "law", desc := "(IIJJJ)Z", sig := { parameters := [.int, .int, .long, .long, .long], returnType := some .boolean }, accessFlags := 9, code := some k1c1 }
def k1c2 : Code := { maxStack := 3, maxLocals := 1, code := method_3_code, exceptionTable := #[], attributes := #[] }
def k1m2 : Method := { name := "fragment", desc := "(I)I", sig := { parameters := [.int], returnType := some .int }, accessFlags := 10, code := some k1c2 }
def k1c3 : Code := { maxStack := 3, maxLocals := 7, code := method_4_code, exceptionTable := #[], attributes := #[] }
def k1m3 : Method := { name := "at", desc := "(III[I[I[II)B", sig := { parameters := [.int, .int, .int, (.array .int), (.array .int), (.array .int), .int], returnType := some .byte }, accessFlags := 10, code := some k1c3 }
def k1c4 : Code := { maxStack := 3, maxLocals := 11, code := method_5_code, exceptionTable := #[], attributes := #[] }
def k1m4 : Method := { name := "expected", desc := "(IIIIIIII)Lcom/example/brygga/brygga/ClientHello$Framing;", sig := { parameters := [.int, .int, .int, .int, .int, .int, .int, .int], returnType := some (.object "com/example/brygga/brygga/ClientHello$Framing") }, accessFlags := 10, code := some k1c4 }
/-- com/example/brygga/brygga/ClientHelloOfPinLaw -/
def k1 : Class := { plain "com/example/brygga/brygga/ClientHelloOfPinLaw" (some 0) with
  accessFlags := 49
  interfaces := #[]
  cf := some (fileOf pool1 10 #[] #[{ accessFlags := 2, nameIndex := 5, descriptorIndex := 6, attributes := #[] }, { accessFlags := 9, nameIndex := 60, descriptorIndex := 61, attributes := #[] }, { accessFlags := 10, nameIndex := 13, descriptorIndex := 14, attributes := #[] }, { accessFlags := 10, nameIndex := 27, descriptorIndex := 28, attributes := #[] }, { accessFlags := 10, nameIndex := 37, descriptorIndex := 38, attributes := #[] }] 49 2 #[] #[])
  fields := #[]
  methods := #[k1m0, k1m1, k1m2, k1m3, k1m4]
  instanceTypes := #[]
  staticTypes := #[]
  resolved := Array.replicate 71 none
  statics := none }

def pool2 : Array CpInfo := pool [(2, .class_ 4), (1, u "java/lang/Object"), (0, u "<init>"), (0, u "()V"), (0, .class_ 8), (0, u "com/example/brygga/brygga/ClientHello"), (0, .fieldref 10 11), (0, .class_ 12), (0, .nameAndType 13 14), (0, u "com/example/brygga/brygga/ClientHello$Framing"), (0, u "OTHER"), (0, u "Lcom/example/brygga/brygga/ClientHello$Framing;"), (0, .fieldref 10 16), (0, .nameAndType 17 14), (0, u "PARTIAL"), (0, .methodref 19 20), (0, .class_ 21), (0, .nameAndType 22 23), (0, u "java/lang/Math"), (0, u "min"), (0, u "(II)I"), (0, .fieldref 10 25), (0, .nameAndType 26 14), (0, u "WHOLE"), (0, u "HANDSHAKE"), (0, u "I"), (2, u "CLIENT_HELLO"), (1, u "RECORD_HEADER"), (1, u "MESSAGE_HEADER"), (1, u "MAX_FRAGMENT"), (3, u "of"), (0, u "([BI)Lcom/example/brygga/brygga/ClientHello$Framing;")] 6

def k2m0 : Method := { name := "<init>", desc := "()V", sig := { parameters := [], returnType := none }, accessFlags := 2, code := none }
def k2c1 : Code := { maxStack := 4, maxLocals := 9, code := prog_22_method_2_code, exceptionTable := #[], attributes := #[] }
def k2m1 : Method := { name := "of", desc := "([BI)Lcom/example/brygga/brygga/ClientHello$Framing;", sig := { parameters := [(.array .byte), .int], returnType := some (.object "com/example/brygga/brygga/ClientHello$Framing") }, accessFlags := 8, code := some k2c1 }
/-- com/example/brygga/brygga/ClientHello -/
def k2 : Class := { plain "com/example/brygga/brygga/ClientHello" (some 0) with
  accessFlags := 48
  interfaces := #[]
  cf := some (fileOf pool2 7 #[.nestMembers #[10]] #[{ accessFlags := 2, nameIndex := 5, descriptorIndex := 6, attributes := #[] }, { accessFlags := 8, nameIndex := 41, descriptorIndex := 42, attributes := #[] }] 48 2 #[] #[{ accessFlags := 26, nameIndex := 27, descriptorIndex := 28, attributes := #[] }, { accessFlags := 26, nameIndex := 31, descriptorIndex := 28, attributes := #[] }, { accessFlags := 26, nameIndex := 33, descriptorIndex := 28, attributes := #[] }, { accessFlags := 26, nameIndex := 35, descriptorIndex := 28, attributes := #[] }, { accessFlags := 26, nameIndex := 37, descriptorIndex := 28, attributes := #[] }])
  fields := #[{ name := "HANDSHAKE", type := .int, accessFlags := 26, slot := 0, constantValue := 0 }, { name := "CLIENT_HELLO", type := .int, accessFlags := 26, slot := 1, constantValue := 0 }, { name := "RECORD_HEADER", type := .int, accessFlags := 26, slot := 2, constantValue := 0 }, { name := "MESSAGE_HEADER", type := .int, accessFlags := 26, slot := 3, constantValue := 0 }, { name := "MAX_FRAGMENT", type := .int, accessFlags := 26, slot := 4, constantValue := 0 }]
  methods := #[k2m0, k2m1]
  instanceTypes := #[]
  staticTypes := #[.int, .int, .int, .int, .int]
  resolved := Array.replicate 49 none
  statics := none }

def pool3 : Array CpInfo := pool [(1, .class_ 2), (0, u "java/lang/constant/Constable"), (0, .class_ 4), (0, u "java/lang/Object")] 6

/-- java/lang/constant/Constable -/
def k3 : Class := { plain "java/lang/constant/Constable" (some 0) with
  accessFlags := 1537
  interfaces := #[]
  cf := some (fileOf pool3 1 #[] #[] 1537 3 #[] #[])
  fields := #[]
  methods := #[]
  instanceTypes := #[]
  staticTypes := #[]
  resolved := Array.replicate 11 none
  statics := none }

def pool4 : Array CpInfo := pool [(1, .class_ 2), (0, u "java/lang/Comparable"), (0, .class_ 4), (0, u "java/lang/Object")] 7

/-- java/lang/Comparable -/
def k4 : Class := { plain "java/lang/Comparable" (some 0) with
  accessFlags := 1537
  interfaces := #[]
  cf := some (fileOf pool4 1 #[] #[] 1537 3 #[] #[])
  fields := #[]
  methods := #[]
  instanceTypes := #[]
  staticTypes := #[]
  resolved := Array.replicate 12 none
  statics := none }

def pool5 : Array CpInfo := pool [(1, .class_ 2), (0, u "java/io/Serializable"), (0, .class_ 4), (0, u "java/lang/Object")] 2

/-- java/io/Serializable -/
def k5 : Class := { plain "java/io/Serializable" (some 0) with
  accessFlags := 1537
  interfaces := #[]
  cf := some (fileOf pool5 1 #[] #[] 1537 3 #[] #[])
  fields := #[]
  methods := #[]
  instanceTypes := #[]
  staticTypes := #[]
  resolved := Array.replicate 7 none
  statics := none }

def pool6 : Array CpInfo := pool [(2, .class_ 4), (1, u "java/lang/Enum"), (0, u "name"), (0, u "Ljava/lang/String;"), (2, u "ordinal"), (0, u "I"), (1, .class_ 14), (1, u "java/lang/Object"), (4, u "hash"), (86, .class_ 108), (1, u "java/lang/Enum$EnumDesc"), (2, .class_ 112), (0, u "java/lang/constant/Constable"), (0, .class_ 114), (0, u "java/lang/Comparable"), (0, .class_ 116), (0, u "java/io/Serializable")] 87

/-- java/lang/Enum -/
def k6 : Class := { plain "java/lang/Enum" (some 0) with
  accessFlags := 1057
  interfaces := #[3, 4, 5]
  cf := some (fileOf pool6 2 #[.nestMembers #[106]] #[] 1057 12 #[111, 113, 115] #[{ accessFlags := 18, nameIndex := 5, descriptorIndex := 6, attributes := #[] }, { accessFlags := 18, nameIndex := 9, descriptorIndex := 10, attributes := #[] }, { accessFlags := 2, nameIndex := 19, descriptorIndex := 10, attributes := #[] }])
  fields := #[{ name := "name", type := (.object "java/lang/String"), accessFlags := 18, slot := 0, constantValue := 0 }, { name := "ordinal", type := .int, accessFlags := 18, slot := 1, constantValue := 0 }, { name := "hash", type := .int, accessFlags := 2, slot := 2, constantValue := 0 }]
  methods := #[]
  instanceTypes := #[(.object "java/lang/String"), .int, .int]
  staticTypes := #[]
  resolved := Array.replicate 204 none
  statics := none }

def pool7 : Array CpInfo := pool [(1, .class_ 2), (0, u "com/example/brygga/brygga/ClientHello$Framing"), (2, u "WHOLE"), (0, u "Lcom/example/brygga/brygga/ClientHello$Framing;"), (2, u "PARTIAL"), (2, u "OTHER"), (2, u "$VALUES"), (0, u "[Lcom/example/brygga/brygga/ClientHello$Framing;"), (6, .class_ 25), (1, u "java/lang/Enum"), (26, .class_ 53), (0, u "com/example/brygga/brygga/ClientHello")] 2

/-- com/example/brygga/brygga/ClientHello$Framing -/
def k7 : Class := { plain "com/example/brygga/brygga/ClientHello$Framing" (some 6) with
  accessFlags := 16432
  interfaces := #[]
  cf := some (fileOf pool7 1 #[.nestHost 52] #[] 16432 23 #[] #[{ accessFlags := 16409, nameIndex := 5, descriptorIndex := 6, attributes := #[] }, { accessFlags := 16409, nameIndex := 9, descriptorIndex := 6, attributes := #[] }, { accessFlags := 16409, nameIndex := 12, descriptorIndex := 6, attributes := #[] }, { accessFlags := 4122, nameIndex := 15, descriptorIndex := 16, attributes := #[] }])
  fields := #[{ name := "WHOLE", type := (.object "com/example/brygga/brygga/ClientHello$Framing"), accessFlags := 16409, slot := 0, constantValue := 0 }, { name := "PARTIAL", type := (.object "com/example/brygga/brygga/ClientHello$Framing"), accessFlags := 16409, slot := 1, constantValue := 0 }, { name := "OTHER", type := (.object "com/example/brygga/brygga/ClientHello$Framing"), accessFlags := 16409, slot := 2, constantValue := 0 }, { name := "$VALUES", type := (.array (.object "com/example/brygga/brygga/ClientHello$Framing")), accessFlags := 4122, slot := 3, constantValue := 0 }]
  methods := #[]
  instanceTypes := #[(.object "java/lang/String"), .int, .int]
  staticTypes := #[(.object "com/example/brygga/brygga/ClientHello$Framing"), (.object "com/example/brygga/brygga/ClientHello$Framing"), (.object "com/example/brygga/brygga/ClientHello$Framing"), (.array (.object "com/example/brygga/brygga/ClientHello$Framing"))]
  resolved := Array.replicate 56 none
  statics := some 0 }

def pool8 : Array CpInfo := pool [(1, .class_ 2), (0, u "java/lang/Math"), (1, .class_ 6), (1, u "java/lang/Object"), (0, u "<init>"), (0, u "()V"), (89, .class_ 100), (1, u "java/lang/Math$RandomNumberGeneratorHolder"), (71, u "negativeZeroFloatBits"), (0, u "J"), (2, u "negativeZeroDoubleBits"), (24, u "min"), (43, u "$assertionsDisabled"), (0, u "Z"), (88, u "(II)I"), (2, u "twoToTheDoubleScaleDown"), (0, u "D"), (4, u "twoToTheDoubleScaleUp"), (9, u "E"), (3, u "PI"), (2, u "TAU"), (2, u "DEGREES_TO_RADIANS"), (0, u "RADIANS_TO_DEGREES")] 94

def k8m0 : Method := { name := "<init>", desc := "()V", sig := { parameters := [], returnType := none }, accessFlags := 2, code := none }
def k8c1 : Code := { maxStack := 2, maxLocals := 2, code := jdk_29_method_69_code, exceptionTable := #[], attributes := #[] }
def k8m1 : Method := { name := "min", desc := "(II)I", sig := { parameters := [.int, .int], returnType := some .int }, accessFlags := 9, code := some k8c1 }
/-- java/lang/Math -/
def k8 : Class := { plain "java/lang/Math" (some 0) with
  accessFlags := 49
  interfaces := #[]
  cf := some (fileOf pool8 1 #[.nestMembers #[98]] #[{ accessFlags := 2, nameIndex := 7, descriptorIndex := 8, attributes := #[] }, { accessFlags := 9, nameIndex := 201, descriptorIndex := 335, attributes := #[] }] 49 4 #[] #[{ accessFlags := 25, nameIndex := 354, descriptorIndex := 339, attributes := #[] }, { accessFlags := 25, nameIndex := 358, descriptorIndex := 339, attributes := #[] }, { accessFlags := 25, nameIndex := 361, descriptorIndex := 339, attributes := #[] }, { accessFlags := 26, nameIndex := 364, descriptorIndex := 339, attributes := #[] }, { accessFlags := 26, nameIndex := 365, descriptorIndex := 339, attributes := #[] }, { accessFlags := 26, nameIndex := 172, descriptorIndex := 173, attributes := #[] }, { accessFlags := 26, nameIndex := 176, descriptorIndex := 173, attributes := #[] }, { accessFlags := 8, nameIndex := 344, descriptorIndex := 339, attributes := #[] }, { accessFlags := 8, nameIndex := 338, descriptorIndex := 339, attributes := #[] }, { accessFlags := 4120, nameIndex := 245, descriptorIndex := 246, attributes := #[] }])
  fields := #[{ name := "E", type := .double, accessFlags := 25, slot := 0, constantValue := 0 }, { name := "PI", type := .double, accessFlags := 25, slot := 1, constantValue := 0 }, { name := "TAU", type := .double, accessFlags := 25, slot := 2, constantValue := 0 }, { name := "DEGREES_TO_RADIANS", type := .double, accessFlags := 26, slot := 3, constantValue := 0 }, { name := "RADIANS_TO_DEGREES", type := .double, accessFlags := 26, slot := 4, constantValue := 0 }, { name := "negativeZeroFloatBits", type := .long, accessFlags := 26, slot := 5, constantValue := 0 }, { name := "negativeZeroDoubleBits", type := .long, accessFlags := 26, slot := 6, constantValue := 0 }, { name := "twoToTheDoubleScaleUp", type := .double, accessFlags := 8, slot := 7, constantValue := 0 }, { name := "twoToTheDoubleScaleDown", type := .double, accessFlags := 8, slot := 8, constantValue := 0 }, { name := "$assertionsDisabled", type := .boolean, accessFlags := 4120, slot := 9, constantValue := 0 }]
  methods := #[k8m0, k8m1]
  instanceTypes := #[]
  staticTypes := #[.double, .double, .double, .double, .double, .long, .long, .double, .double, .boolean]
  resolved := Array.replicate 460 none
  statics := none }

def pool9 : Array CpInfo := pool [(1, u "java/lang/Cloneable"), (0, .class_ 1), (0, u "java/lang/Object"), (0, .class_ 3)] 3

/-- java/lang/Cloneable -/
def k9 : Class := { plain "java/lang/Cloneable" (some 0) with
  accessFlags := 1537
  interfaces := #[]
  cf := some (fileOf pool9 2 #[] #[] 1537 4 #[] #[])
  fields := #[]
  methods := #[]
  instanceTypes := #[]
  staticTypes := #[]
  resolved := Array.replicate 8 none
  statics := none }

/-- the primitive byte -/
def k10 : Class := { plain "byte" none with kind := .primitive 'B', accessFlags := 0x411 }
/-- [B -/
def k11 : Class := { plain "[B" (some 0) with kind := .array 10 .byte, interfaces := #[9, 5], accessFlags := 1041 }

/-- the primitive int -/
def k12 : Class := { plain "int" none with kind := .primitive 'I', accessFlags := 0x411 }
/-- [I -/
def k13 : Class := { plain "[I" (some 0) with kind := .array 12 .int, interfaces := #[9, 5], accessFlags := 1041 }

def heap : Heap := #[{ cls := 7, slots := #[.ref 3, .ref 1, .ref 2, .null], vm := .statics 7 },
  { cls := 7, slots := #[.null, .int 0, .int 0], vm := .none },
  { cls := 7, slots := #[.null, .int 0, .int 0], vm := .none },
  { cls := 7, slots := #[.null, .int 0, .int 0], vm := .none }]
def classes : Array Class := #[k0, k1, k2, k3, k4, k5, k6, k7, k8, k9, k10, k11, k12, k13]
def interned : List (Array UInt16 × Addr) := []
def slotsUsed : Nat := 13
def theMethod : MethodId := ⟨1, 1⟩
def args0 : Array Value := #[.int 5, .int 1, .long 2, .long 3, .long 4]
def aboutOver (below : List Frame) : State where
  vm := { classes := classes, interned := interned.toArray }
  heap := heap
  slotsUsed := slotsUsed
  threads := #[{ frames := .invoking theMethod args0 :: below }]
def below0 : List Frame := [.native { method := ⟨0, 0⟩, args := #[] }]
def about1 : State := aboutOver below0
def p0 : Program := .bare "" "" ""
def e0 : Env := launch0.env 0 0 0
theorem w_frames : about1.frames = Frame.invoking theMethod args0 :: below0 := rfl
set_option maxRecDepth 65536 in
theorem w_args : argsFit about1.vm theMethod args0 = true := by decide +kernel
set_option maxRecDepth 65536 in
theorem w_heap : heapFits about1 = true := by decide +kernel
set_option maxRecDepth 65536 in
theorem w_runnable : about1.curStatus? = some .runnable := by decide +kernel
set_option maxRecDepth 65536 in
theorem w_alone : about1.alone = true := by decide +kernel
set_option maxRecDepth 65536 in
theorem w_named : about1.methodNamed? x = some theMethod := by decide +kernel
set_option maxRecDepth 65536 in
theorem w_hears : about1.hears theMethod below0 = true := by decide +kernel
set_option maxRecDepth 65536 in
theorem w_ripe : about1.ripe theMethod args0 below0 = true := by decide +kernel
theorem w_running : about1.status = .running := rfl
set_option maxRecDepth 65536 in
theorem w_room : about1.hasRoom e0.platform room_1 = true :=
  launch0.hasRoom_least _ room_1 (by decide +kernel) (by decide +kernel) (by decide +kernel) (by decide +kernel) (by decide +kernel) (by decide +kernel)
theorem allAtoms_all (ts : List Jvm.Cond) (a : Array Jvm.Value) (st : Jvm.State) : (allAtoms ts).before a st = ts.all (fun c => c.before a st) := by
  induction ts with
  | nil => rfl
  | cons c t ih =>
    show (Jvm.Cond.and c (allAtoms t)).before a st = _
    rw [Jvm.Cond.before_and, ih, List.all_cons]
def words1 : List Jvm.Cond := Jvm.Cond.code x code maxLocals ret :: tables_1
/-- a 'code' word, met by the world's own term for the bytes: nothing is compared byte by byte -/
theorem code_word {y : MethodName} {bytes : ByteArray} {mx : Nat} {rt : Option FieldType} {a : Array Value} {s : State} {m : MethodId} {meth : Method} {c : Code} (h1 : s.methodNamed? y = some m) (h2 : s.vm.method? m = some meth) (h3 : meth.code = some c) (h4 : c.code = bytes)
    (h5 : (c.maxLocals == mx && c.exceptionTable.isEmpty && decide (c.maxStack ≤ mostOperands) && decide (meth.sig.returnType = rt) && !meth.locks && decide (parseMethodDescriptor y.desc = some meth.sig)) = true) : (Jvm.Cond.code y bytes mx rt).before a s = true := by
  simp only [Bool.and_eq_true, beq_iff_eq, Bool.not_eq_true', decide_eq_true_eq] at h5
  obtain ⟨⟨⟨⟨⟨g1, g2⟩, g3⟩, g4⟩, g5⟩, g6⟩ := h5
  simp [Cond.before, Cond.holds, Cond.value, h1, h2, h3, h4, g1, g2, g3, g4, g5, g6]
def isCode : Jvm.Cond → Bool
  | .code _ _ _ _ => true
  | _ => false
theorem all_split {L : List Jvm.Cond} {P : Jvm.Cond → Bool} (h1 : L.all (fun c => isCode c || P c) = true) (h2 : ∀ c ∈ L.filter isCode, P c = true) : L.all P = true := by
  refine List.all_eq_true.mpr fun c hc => ?_
  have h := List.all_eq_true.mp h1 c hc
  rcases Bool.eq_false_or_eq_true (isCode c) with hi | hi
  · exact h2 c (List.mem_filter.mpr ⟨hc, hi⟩)
  · simpa [hi] using h
set_option maxRecDepth 65536 in
theorem w_c0 : (Jvm.Cond.code x code maxLocals ret).before args0 about1 = true := code_word (m := ⟨1, 1⟩) (meth := k1m1) (c := k1c1) (by decide +kernel) rfl rfl rfl (by decide +kernel)
set_option maxRecDepth 65536 in
theorem w_c1 : (Jvm.Cond.code ({ cls := "com/example/brygga/brygga/ClientHelloOfPinLaw", name := "fragment", desc := "(I)I" } : Jvm.MethodName) method_3_code (1 : Nat) (Option.some Jvm.ClassFile.FieldType.int)).before args0 about1 = true := code_word (m := ⟨1, 2⟩) (meth := k1m2) (c := k1c2) (by decide +kernel) rfl rfl rfl (by decide +kernel)
set_option maxRecDepth 65536 in
theorem w_c2 : (Jvm.Cond.code ({ cls := "com/example/brygga/brygga/ClientHelloOfPinLaw", name := "at", desc := "(III[I[I[II)B" } : Jvm.MethodName) method_4_code (7 : Nat) (Option.some Jvm.ClassFile.FieldType.byte)).before args0 about1 = true := code_word (m := ⟨1, 3⟩) (meth := k1m3) (c := k1c3) (by decide +kernel) rfl rfl rfl (by decide +kernel)
set_option maxRecDepth 65536 in
theorem w_c3 : (Jvm.Cond.code ({ cls := "com/example/brygga/brygga/ClientHello", name := "of", desc := "([BI)Lcom/example/brygga/brygga/ClientHello$Framing;" } : Jvm.MethodName) prog_22_method_2_code (9 : Nat) (Option.some (Jvm.ClassFile.FieldType.object "com/example/brygga/brygga/ClientHello$Framing"))).before args0 about1 = true := code_word (m := ⟨2, 1⟩) (meth := k2m1) (c := k2c1) (by decide +kernel) rfl rfl rfl (by decide +kernel)
set_option maxRecDepth 65536 in
theorem w_c4 : (Jvm.Cond.code ({ cls := "com/example/brygga/brygga/ClientHelloOfPinLaw", name := "expected", desc := "(IIIIIIII)Lcom/example/brygga/brygga/ClientHello$Framing;" } : Jvm.MethodName) method_5_code (11 : Nat) (Option.some (Jvm.ClassFile.FieldType.object "com/example/brygga/brygga/ClientHello$Framing"))).before args0 about1 = true := code_word (m := ⟨1, 4⟩) (meth := k1m4) (c := k1c4) (by decide +kernel) rfl rfl rfl (by decide +kernel)
set_option maxRecDepth 65536 in
theorem w_c5 : (Jvm.Cond.code ({ cls := "java/lang/Math", name := "min", desc := "(II)I" } : Jvm.MethodName) jdk_29_method_69_code (2 : Nat) (Option.some Jvm.ClassFile.FieldType.int)).before args0 about1 = true := code_word (m := ⟨8, 1⟩) (meth := k8m1) (c := k8c1) (by decide +kernel) rfl rfl rfl (by decide +kernel)
def codes1 : List Jvm.Cond := [Jvm.Cond.code x code maxLocals ret, Jvm.Cond.code ({ cls := "com/example/brygga/brygga/ClientHelloOfPinLaw", name := "fragment", desc := "(I)I" } : Jvm.MethodName) method_3_code (1 : Nat) (Option.some Jvm.ClassFile.FieldType.int), Jvm.Cond.code ({ cls := "com/example/brygga/brygga/ClientHelloOfPinLaw", name := "at", desc := "(III[I[I[II)B" } : Jvm.MethodName) method_4_code (7 : Nat) (Option.some Jvm.ClassFile.FieldType.byte), Jvm.Cond.code ({ cls := "com/example/brygga/brygga/ClientHello", name := "of", desc := "([BI)Lcom/example/brygga/brygga/ClientHello$Framing;" } : Jvm.MethodName) prog_22_method_2_code (9 : Nat) (Option.some (Jvm.ClassFile.FieldType.object "com/example/brygga/brygga/ClientHello$Framing")), Jvm.Cond.code ({ cls := "com/example/brygga/brygga/ClientHelloOfPinLaw", name := "expected", desc := "(IIIIIIII)Lcom/example/brygga/brygga/ClientHello$Framing;" } : Jvm.MethodName) method_5_code (11 : Nat) (Option.some (Jvm.ClassFile.FieldType.object "com/example/brygga/brygga/ClientHello$Framing")), Jvm.Cond.code ({ cls := "java/lang/Math", name := "min", desc := "(II)I" } : Jvm.MethodName) jdk_29_method_69_code (2 : Nat) (Option.some Jvm.ClassFile.FieldType.int)]
set_option maxRecDepth 65536 in
theorem codes_eq : words1.filter isCode = codes1 := rfl
theorem w_codes : ∀ c ∈ words1.filter isCode, c.before args0 about1 = true := by
  rw [codes_eq]
  intro c hc
  simp only [codes1, List.mem_cons, List.not_mem_nil, or_false] at hc
  rcases hc with rfl | rfl | rfl | rfl | rfl | rfl
  · exact w_c0
  · exact w_c1
  · exact w_c2
  · exact w_c3
  · exact w_c4
  · exact w_c5
set_option maxRecDepth 65536 in
theorem w_t1 : (words1.take 24).all (fun c => isCode c || c.before args0 about1) = true := by decide +kernel
set_option maxRecDepth 65536 in
theorem w_t2 : (words1.drop 24).all (fun c => isCode c || c.before args0 about1) = true := by decide +kernel
theorem w_tables : (allAtoms (Jvm.Cond.code x code maxLocals ret :: tables_1)).before args0 about1 = true := by
  rw [allAtoms_all]
  show words1.all (fun c => c.before args0 about1) = true
  refine all_split ?_ w_codes
  rw [← List.take_append_drop 24 words1, List.all_append, w_t1, w_t2]
  rfl
set_option maxRecDepth 65536 in
theorem w_case : (Jvm.Cond.and given_1 narrow_1).before args0 about1 = true := by decide +kernel
theorem w_applies : (headSpec (Jvm.Cond.code x code maxLocals ret :: tables_1) room_1).applies x e0.platform about1 = true :=
  (Spec.applies_iff w_frames).mpr ⟨w_running, w_runnable, w_alone, w_named, w_hears, w_ripe, w_room, w_tables⟩
theorem atStart : AtStart classFile x code maxLocals ret World_1 tables_1 room_1 Calls_1 rest_1 Pre_1 launch0 p0 e0 about1 theMethod args0 below0 :=
  ⟨lists_1, trivial, launch0.admits_env _ _ _, launch0.least_env, fairChoices_fair.cas, fairChoices_fair.clock, w_frames, w_args, w_heap, w_applies, trivial, trivial, w_case⟩
end start1
theorem witness_1 : WitnessClaimed_1 := ⟨start1.p0, start1.e0, start1.about1, start1.theMethod, start1.args0, start1.below0, start1.atStart⟩
end Jvm.Pilot.@@N@@
