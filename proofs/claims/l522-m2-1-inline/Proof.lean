import JvmDerived
import JvmDerived.Pilot.@@N@@Statement
import JvmDerived.Pilot.@@N@@Code
set_option linter.unusedVariables false
set_option linter.unusedSimpArgs false
namespace Jvm.OwnW
open Sem ClassFile Op Lib Jvm.Stand Jvm.Free Jvm.LawKit Jvm.RoadKit
section A
variable {kn : Prop} {p : Program} {l : Launch} {e : Env} {R : Room} {s : State} {m : MethodId} {args : Array Value} {below : List Frame} {meth : Method} {c : Code} {T : State} {Z : State} {a0 : Array Value} {EL : List (String × Nat)} {h h' : Heap} {n0 kc ks fc fs : Nat} {sf : List Addr} {Q : Option Value → Heap → List Addr → Prop} {y : MethodName} {bytes : ByteArray} {maxL : Nat} {ret : Option FieldType} {a b : Addr} {ty : FieldType} {vs : List Value} {sl : Nat} {v w : Value} {C f d : String} {wl : List Addr}
def Sd (kn : Prop) (Z : State) (a0 : Array Value) (EL : List (String × Nat)) (y : MethodName) (bytes : ByteArray) (maxL : Nat) (ret : Option FieldType) (p : Program) (l : Launch) (e : Env) (R : Room) (s : State) (m : MethodId) (args : Array Value) (below : List Frame) (meth : Method) (c : Code) (n0 : Nat) (sf : List Addr) (h : Heap) (kc ks : Nat) (T : State) : Prop :=
  ∃ (vm0 : Vm) (k0 : Nat), (p.tables.exec = Jvm.exec ∧ Z.Warmed39 vm0 ∧ c.code = bytes ∧ c.maxLocals = maxL ∧ meth.sig.returnType = ret ∧ meth.locks = false ∧ vm0.findClass y.cls = some m.cls ∧ meth.name = y.name) ∧
  (s.Since vm0 k0 ∧ k0 ≤ h.size ∧ EW Z a0 EL ∧ CHr Z EL s.vm s.heap vm0 h ∧ (∀ x ∈ sf, Safe Z EL vm0 h x ∧ x < h.size) ∧ (kn → vm0.MethodsKnown ∧ vm0.FramesKnown below)) ∧
  ∃ locs cells slots, Stand p l e R (s.setVm vm0) m args below meth c T locs cells slots ∧ T.heap = h ∧ Fr n0 locs ∧ cells ≤ kc ∧ slots ≤ ks
def Run (Z : State) (EL : List (String × Nat)) (p : Program) (e : Env) (below : List Frame) (s : State) (n0 fc fs : Nat) (Q : Option Value → Heap → List Addr → Prop) (t : State) : Prop :=
  ∃ s₂ o, Steps p.tables e below t s₂ ∧ s₂.status = .running ∧ Ended s₂ below o ∧ ∃ v L sfn, o = .returned v ∧ Q v s₂.heap sfn ∧ (∀ x ∈ sfn, Safe Z EL s₂.vm s₂.heap x ∧ x < s₂.heap.size) ∧ Fr n0 L ∧ CHr Z EL s.vm s.heap s₂.vm s₂.heap ∧ ReturnedEndW s o s₂ L fc fs
def Ctr (kn : Prop) (l : Launch) (Z : State) (EL : List (String × Nat)) (y : MethodName) (bytes : ByteArray) (maxL : Nat) (ret : Option FieldType) (ws : List Cond) (rm : Room) (n0 : Nat) (sf : List Addr) (as : Array Value) (h : Heap) (Q : Option Value → Heap → List Addr → Prop) : Prop :=
  MetFree l y (head1 (Cond.code y bytes maxL ret :: ws) rm) (fun a' U => a' = as ∧ Z.Warmed39 U.vm ∧ U.heap = h ∧ CHv Z EL U.vm h ∧ ∀ x ∈ sf, Safe Z EL U.vm h x ∧ x < h.size) (fun _ _ bl U _ => kn → U.vm.MethodsKnown ∧ U.vm.FramesKnown bl) (fun _ U o U' => ∃ v L, o = .returned v ∧ (∃ sfn, Q v U'.heap sfn ∧ (∀ x ∈ sfn, Safe Z EL U'.vm U'.heap x ∧ x < U'.heap.size) ∧ Fr n0 L) ∧ CHr Z EL U.vm U.heap U'.vm U'.heap ∧ ReturnedEndW U o U' L rm.cells rm.slots)
def Rt (Qv : Value → Heap → List Addr → Prop) : Option Value → Heap → List Addr → Prop := fun v h g => ∃ w, v = some w ∧ Qv w h g
def Rn (Qn : Heap → List Addr → Prop) : Option Value → Heap → List Addr → Prop := fun v h g => v = none ∧ Qn h g
theorem Run.st {t t' : State} (k : Run Z EL p e below s n0 fc fs Q t') (f : ∀ z, Steps p.tables e below t' z → Steps p.tables e below t z) : Run Z EL p e below s n0 fc fs Q t := by
  obtain ⟨s2, o, h1, r⟩ := k; exact ⟨s2, o, f _ h1, r⟩
theorem FKalike {vm vm' : Vm} {fr : List Frame} (hal : vm.Alike vm') (h : vm.FramesKnown fr) : vm'.FramesKnown fr := Vm.FramesKnown.alikeC hal h
theorem Sd.x (X : Sd kn Z a0 EL y bytes maxL ret p l e R s m args below meth c n0 sf h kc ks T) : p.tables.exec = Jvm.exec := by obtain ⟨_, _, q, -⟩ := X; exact q.1
theorem Sd.hr (X : Sd kn Z a0 EL y bytes maxL ret p l e R s m args below meth c n0 sf h kc ks T) : At T m c below := by obtain ⟨_, _, -, -, _, _, _, Y, -⟩ := X; exact Y.here
theorem Sd.dc (X : Sd kn Z a0 EL y bytes maxL ret p l e R s m args below meth c n0 sf h kc ks T) {pc : Nat} {r : Except DecodeError (Instr × Nat)} (q : decode bytes pc = r) : decode c.code pc = r := by obtain ⟨_, _, g, -⟩ := X; exact g.2.2.1 ▸ q
theorem Sd.rt (X : Sd kn Z a0 EL y bytes maxL ret p l e R s m args below meth c n0 sf h kc ks T) : meth.sig.returnType = ret := by obtain ⟨_, _, q, -⟩ := X; exact q.2.2.2.2.1
theorem Sd.op (X : Sd kn Z a0 EL y bytes maxL ret p l e R s m args below meth c n0 sf h kc ks T) : ∃ (s' : State) (L : List Loc) (i j : Nat), Stand p l e R s' m args below meth c T L i j ∧ T.heap = h ∧ Z.Warmed39 s'.vm ∧ s'.vm.findClass y.cls = some m.cls ∧ c.maxLocals = maxL ∧ meth.name = y.name ∧ i ≤ kc ∧ j ≤ ks ∧ p.tables.exec = Jvm.exec ∧ (∀ T', Stand p l e R s' m args below meth c T' L i j → T'.heap = h → Sd kn Z a0 EL y bytes maxL ret p l e R s m args below meth c n0 sf h kc ks T') ∧ (∀ T' h' dc ds, Stand p l e R s' m args below meth c T' L (i + dc) (j + ds) → T'.heap = h' → Ext h h' → h.size < h'.size → Sd kn Z a0 EL y bytes maxL ret p l e R s m args below meth c n0 (h.size :: sf) h' (kc + dc) (ks + ds) T') ∧ (∀ T' h' a sl v, a ∈ sf → n0 ≤ a → Stand p l e R s' m args below meth c T' (L ++ [⟨a, sl⟩]) i j → T'.heap = h' → Wr h h' a sl v → Sd kn Z a0 EL y bytes maxL ret p l e R s m args below meth c n0 sf h' kc ks T') := by
  obtain ⟨vm0, k0, q, ⟨hS, hk, hE, hC, hs, hkn⟩, L, i, j, Y, r1, r2, r3, r4⟩ := X
  refine ⟨s.setVm vm0, L, i, j, Y, r1, q.2.1, q.2.2.2.2.2.2.1, q.2.2.2.1, q.2.2.2.2.2.2.2, r3, r4, q.1, ?_, ?_, ?_⟩
  · intro T' Y' e'
    exact ⟨vm0, k0, q, ⟨hS, hk, hE, hC, hs, hkn⟩, L, i, j, Y', e', r2, r3, r4⟩
  · intro T' h' dc ds Y' e' E hlt
    refine ⟨vm0, k0, q, ⟨hS, Nat.le_trans hk E.1, hE, hC.trans (CHr.ext E hC.1), ?_, hkn⟩, L, _, _, Y', e', r2, by omega, by omega⟩
    intro x hx
    rcases List.mem_cons.mp hx with rfl | hx
    · exact ⟨(Safe.new (Nat.le_refl _)).ext E hC.1, hlt⟩
    · exact ⟨(hs x hx).1.ext E hC.1, Nat.lt_of_lt_of_le (hs x hx).2 E.1⟩
  · intro T' h' a sl v ha hn Y' e' W
    refine ⟨vm0, k0, q, ⟨hS, by rw [W.size]; exact hk, hE, hC.trans (CHr.wr W (hs a ha).1 hC.1), ?_, hkn⟩, _, _, _, Y', e', Fr.snoc Y' r2 hn, r3, r4⟩
    intro x hx
    exact ⟨Safe.wr W (hs a ha).1 hC.1 (hs x hx).1, by rw [W.size]; exact (hs x hx).2⟩
theorem Sd.lt (X : Sd kn Z a0 EL y bytes maxL ret p l e R s m args below meth c n0 sf h kc ks T) : ∀ x ∈ sf, x < h.size := by obtain ⟨_, _, -, ⟨-, -, -, -, hs, -⟩, -⟩ := X; exact fun x hx => (hs x hx).2
theorem sf0 : ∀ x ∈ ([] : List Addr), x ∈ sf := fun _ q => nomatch q
theorem sfS (q : a ∈ sf) (r : ∀ x ∈ wl, x ∈ sf) : ∀ x ∈ a :: wl, x ∈ sf := fun x z => (List.mem_cons.mp z).elim (fun u => u ▸ q) (r x)
theorem Sd.more (X : Sd kn Z a0 EL y bytes maxL ret p l e R s m args below meth c n0 sf h kc ks T) {kc' ks' : Nat} (h1 : kc ≤ kc') (h2 : ks ≤ ks') : Sd kn Z a0 EL y bytes maxL ret p l e R s m args below meth c n0 sf h kc' ks' T := by
  obtain ⟨vm0, k0, q, g, L, i, j, Y, r1, r2, r3, r4⟩ := X; exact ⟨vm0, k0, q, g, L, i, j, Y, r1, r2, Nat.le_trans r3 h1, Nat.le_trans r4 h2⟩
theorem Sd.less (X : Sd kn Z a0 EL y bytes maxL ret p l e R s m args below meth c n0 sf h kc ks T) {sf' : List Addr} (hh : ∀ x ∈ sf', x ∈ sf) : Sd kn Z a0 EL y bytes maxL ret p l e R s m args below meth c n0 sf' h kc ks T := by
  obtain ⟨vm0, k0, q, ⟨hS, hk, hE, hC, hs, hkn⟩, g⟩ := X; exact ⟨vm0, k0, q, ⟨hS, hk, hE, hC, fun x hx => hs x (hh x hx), hkn⟩, g⟩
theorem Ctr.of {rm : Room} {ws : List Cond} {as : Array Value} {ls0 : Array Slot} (hn : plainFor y = true) (hE : EW Z a0 EL) (hf : ∀ m, entryFrame m as maxL = mkF m 0 ls0 [])
    (body : ∀ (p : Program) (e : Env) (s : State) (m : MethodId) (below : List Frame) (meth : Method) (c : Code) (T : State), Sd kn Z a0 EL y bytes maxL ret p l e rm s m as below meth c n0 sf h 0 0 T → Run Z EL p e below s n0 rm.cells rm.slots Q (T.setTop (mkF m 0 ls0 []))) : Ctr kn l Z EL y bytes maxL ret ws rm n0 sf as h Q := by
  refine MetFree.of_bodySF hn hisR ?_
  intro p e s m args below meth c s₁ Bd hml0 hP hK
  obtain ⟨rfl, hZ, hh, hC, hs⟩ := hP
  have X0 : Stand p l e rm s m args below meth c s₁ [] 0 0 := Stand.of_body Bd
  have e0 : s₁.heap = h := by rw [← hh, Bd.state]; rfl
  obtain ⟨s2, o, h1, h2, h3, v, L, sfn, h4, h5, h6, h7, h8, h9⟩ := body p e s m below meth c s₁ ⟨s.vm, h.size, ⟨Bd.exec, hZ, Bd.bytes, hml0, Bd.returns, Bd.notSynchronized, findClass_of_methodNamed Bd.named, (name_of_methodNamed Bd.named Bd.method).1⟩, ⟨(State.WarmedH.refl s).since _, Nat.le_refl _, hE, by rw [hh]; exact CHr.refl hC, hs, hK⟩, [], 0, 0, X0, e0, Fr.nil _, Nat.le_refl _, Nat.le_refl _⟩
  exact ⟨s2, o, castTop (hf m) h1, h2, h3, v, L, h4, ⟨sfn, h5, h6, h7⟩, h8, h9⟩
theorem leaveQ (X : Sd kn Z a0 EL y bytes maxL ret p l e R s m args below meth c n0 sf h kc ks T) {v : Option Value} (hv : ret = none → v = none) (hq : Q v h sf) (h1 : kc ≤ fc) (h2 : ks ≤ fs) {t : State}
    (st : ∀ {s' : State} {locs cells slots}, Stand p l e R s' m args below meth c T locs cells slots → ∀ {ff : List Frame}, (∀ (f : JFrame) (acts : List Action), f.method = m → f.locked = none → f.entered = [] → (doReturn e (T.setTop f) acts v).1 = T.setFrames ff) → Steps p.tables e below t (T.setFrames ff)) : Run Z EL p e below s n0 fc fs Q t := by
  obtain ⟨vm0, k0, q, ⟨hS, hk, hE, hC, hs, hkn⟩, L, i, j, Y, r1, r2, r3, r4⟩ := X
  obtain ⟨ff, g1, hrun, hended, w1, w2, w3, w4⟩ := Y.leaveW hS (by rw [r1]; exact hk) (v := v) (fun z => hv (q.2.2.2.2.1 ▸ z)) q.2.2.2.2.2.1
  have hA := CHv.at Y q.2.1 hE hC.1
  refine ⟨_, _, st Y g1, hrun, hended, v, L, sf, rfl, by show Q v T.heap sf; rw [r1]; exact hq, ?_, r2, ?_, w1, w2, w3, w4.mono (Nat.le_trans r3 h1) (Nat.le_trans r4 h2)⟩
  · intro x hx
    show Safe Z EL T.vm T.heap x ∧ x < T.heap.size
    rw [r1]
    exact ⟨hA.safe (hs x hx).2 (hs x hx).1, (hs x hx).2⟩
  · show CHr Z EL s.vm s.heap T.vm T.heap
    rw [r1]
    exact hC.trans hA
theorem areturn (X : Sd kn Z a0 EL y bytes maxL ret p l e R s m args below meth c n0 sf h kc ks T) {t : FieldType} (hr : ret = some t) (ht : t.isReference = true) {pc : Nat} {ls : Array Slot} {w : Value} {st : List Value} (hw : w.isRef = true) (hd : decode bytes pc = .ok (.areturn, 1)) {Qv : Value → Heap → List Addr → Prop} (hq : Qv w h sf) (h1 : kc ≤ fc) (h2 : ks ≤ fs) : Run Z EL p e below s n0 fc fs (Rt Qv) (T.setTop (mkF m pc ls (w :: st))) := by
  subst hr
  have hn : narrow t w = w := by cases w <;> cases t <;> first | rfl | exact absurd hw Bool.noConfusion | exact absurd ht Bool.noConfusion
  exact leaveQ X (v := some w) (fun q => by cases q) ⟨w, rfl, hq⟩ h1 h2 fun Y _ g => retOut Y X.x X.rt hn (Or.inr (Or.inr (Or.inr (Or.inr ⟨rfl, ht, hw⟩)))) (X.dc hd) g
theorem ireturn (X : Sd kn Z a0 EL y bytes maxL ret p l e R s m args below meth c n0 sf h kc ks T) {t : FieldType} (hr : ret = some t) (ht : t = .int ∨ t = .boolean ∨ t = .byte ∨ t = .char ∨ t = .short) {pc : Nat} {ls : Array Slot} {z : Int32} {st : List Value} (hn : narrow t (.int z) = .int z) (hd : decode bytes pc = .ok (.ireturn, 1)) {Qv : Value → Heap → List Addr → Prop} (hq : Qv (.int z) h sf) (h1 : kc ≤ fc) (h2 : ks ≤ fs) : Run Z EL p e below s n0 fc fs (Rt Qv) (T.setTop (mkF m pc ls (.int z :: st))) := by
  subst hr
  exact leaveQ X (v := some (.int z)) (fun q => by cases q) ⟨_, rfl, hq⟩ h1 h2 fun Y _ g => retOut Y X.x X.rt hn (Or.inl ⟨rfl, ht, z, rfl⟩) (X.dc hd) g
theorem ireturnN (X : Sd kn Z a0 EL y bytes maxL ret p l e R s m args below meth c n0 sf h kc ks T) {t : FieldType} (hr : ret = some t) (ht : t = .boolean ∨ t = .byte ∨ t = .char ∨ t = .short) {pc : Nat} {ls : Array Slot} {z z' : Int32} {st : List Value} (hn : nar t z = z') (hd : decode bytes pc = .ok (.ireturn, 1)) {Qv : Value → Heap → List Addr → Prop} (hq : Qv (.int z') h sf) (h1 : kc ≤ fc) (h2 : ks ≤ fs) : Run Z EL p e below s n0 fc fs (Rt Qv) (T.setTop (mkF m pc ls (.int z :: st))) := by
  subst hr hn
  exact leaveQ X (v := some (.int (nar t z))) (fun q => by cases q) ⟨_, rfl, hq⟩ h1 h2 fun Y _ g => retN Y X.x X.rt ht (X.dc hd) g
theorem vreturn (X : Sd kn Z a0 EL y bytes maxL ret p l e R s m args below meth c n0 sf h kc ks T) (hr : ret = none) {pc : Nat} {ls : Array Slot} (hd : decode bytes pc = .ok (.return_, 1)) {Qn : Heap → List Addr → Prop} (hq : Qn h sf) (h1 : kc ≤ fc) (h2 : ks ≤ fs) : Run Z EL p e below s n0 fc fs (Rn Qn) (T.setTop (mkF m pc ls [])) := by
  subst hr
  exact leaveQ X (v := none) (fun _ => rfl) ⟨rfl, hq⟩ h1 h2 fun Y _ g => Y.returnOut X.x X.rt (X.dc hd) g
theorem iloadN (X : Sd kn Z a0 EL y bytes maxL ret p l e R s m args below meth c n0 sf h kc ks T) {pc n : Nat} {ls : Array Slot} {st : List Value} {k : Fin 4} {v : Int32} (hd : decode bytes pc = .ok (.iload_n k, 1)) (hl : ls[k.val]? = some (.val (.int v))) (hn : pc + 1 = n) (K : Run Z EL p e below s n0 fc fs Q (T.setTop (mkF m n ls (.int v :: st)))) : Run Z EL p e below s n0 fc fs Q (T.setTop (mkF m pc ls st)) := by
  subst hn; exact K.st fun _ k => XS.iloadN X.hr X.x rfl (X.dc hd) hl k
theorem iload (X : Sd kn Z a0 EL y bytes maxL ret p l e R s m args below meth c n0 sf h kc ks T) {pc n : Nat} {ls : Array Slot} {st : List Value} {j : Nat} {v : Int32} (hd : decode bytes pc = .ok (.iload j, 2)) (hl : ls[j]? = some (.val (.int v))) (hn : pc + 2 = n) (K : Run Z EL p e below s n0 fc fs Q (T.setTop (mkF m n ls (.int v :: st)))) : Run Z EL p e below s n0 fc fs Q (T.setTop (mkF m pc ls st)) := by
  subst hn; exact K.st fun _ k => XS.iload X.hr X.x rfl (X.dc hd) hl k
theorem istoreN (X : Sd kn Z a0 EL y bytes maxL ret p l e R s m args below meth c n0 sf h kc ks T) {pc n : Nat} {ls : Array Slot} {st : List Value} {k : Fin 4} {v : Int32} {l' : Array Slot} (hd : decode bytes pc = .ok (.istore_n k, 1)) (hl : storeLocals ls k.val (.int v) = some l') (hn : pc + 1 = n) (K : Run Z EL p e below s n0 fc fs Q (T.setTop (mkF m n l' st))) : Run Z EL p e below s n0 fc fs Q (T.setTop (mkF m pc ls (.int v :: st))) := by
  subst hn; exact K.st fun _ k => XS.istoreN X.hr X.x rfl (X.dc hd) rfl hl k
theorem istore (X : Sd kn Z a0 EL y bytes maxL ret p l e R s m args below meth c n0 sf h kc ks T) {pc n : Nat} {ls : Array Slot} {st : List Value} {j : Nat} {v : Int32} {l' : Array Slot} (hd : decode bytes pc = .ok (.istore j, 2)) (hl : storeLocals ls j (.int v) = some l') (hn : pc + 2 = n) (K : Run Z EL p e below s n0 fc fs Q (T.setTop (mkF m n l' st))) : Run Z EL p e below s n0 fc fs Q (T.setTop (mkF m pc ls (.int v :: st))) := by
  subst hn; exact K.st fun _ k => XS.istore X.hr X.x rfl (X.dc hd) rfl hl k
theorem lloadN (X : Sd kn Z a0 EL y bytes maxL ret p l e R s m args below meth c n0 sf h kc ks T) {pc n : Nat} {ls : Array Slot} {st : List Value} {k : Fin 4} {v : Int64} (hd : decode bytes pc = .ok (.lload_n k, 1)) (hl : ls[k.val]? = some (.val (.long v))) (hn : pc + 1 = n) (K : Run Z EL p e below s n0 fc fs Q (T.setTop (mkF m n ls (.long v :: st)))) : Run Z EL p e below s n0 fc fs Q (T.setTop (mkF m pc ls st)) := by
  subst hn; exact K.st fun _ k => XS.lloadN X.hr X.x rfl (X.dc hd) hl k
theorem lload (X : Sd kn Z a0 EL y bytes maxL ret p l e R s m args below meth c n0 sf h kc ks T) {pc n : Nat} {ls : Array Slot} {st : List Value} {j : Nat} {v : Int64} (hd : decode bytes pc = .ok (.lload j, 2)) (hl : ls[j]? = some (.val (.long v))) (hn : pc + 2 = n) (K : Run Z EL p e below s n0 fc fs Q (T.setTop (mkF m n ls (.long v :: st)))) : Run Z EL p e below s n0 fc fs Q (T.setTop (mkF m pc ls st)) := by
  subst hn; exact K.st fun _ k => XS.lload X.hr X.x rfl (X.dc hd) hl k
theorem lstoreN (X : Sd kn Z a0 EL y bytes maxL ret p l e R s m args below meth c n0 sf h kc ks T) {pc n : Nat} {ls : Array Slot} {st : List Value} {k : Fin 4} {v : Int64} {l' : Array Slot} (hd : decode bytes pc = .ok (.lstore_n k, 1)) (hl : storeLocals ls k.val (.long v) = some l') (hn : pc + 1 = n) (K : Run Z EL p e below s n0 fc fs Q (T.setTop (mkF m n l' st))) : Run Z EL p e below s n0 fc fs Q (T.setTop (mkF m pc ls (.long v :: st))) := by
  subst hn; exact K.st fun _ k => XS.lstoreN X.hr X.x rfl (X.dc hd) rfl hl k
theorem lstore (X : Sd kn Z a0 EL y bytes maxL ret p l e R s m args below meth c n0 sf h kc ks T) {pc n : Nat} {ls : Array Slot} {st : List Value} {j : Nat} {v : Int64} {l' : Array Slot} (hd : decode bytes pc = .ok (.lstore j, 2)) (hl : storeLocals ls j (.long v) = some l') (hn : pc + 2 = n) (K : Run Z EL p e below s n0 fc fs Q (T.setTop (mkF m n l' st))) : Run Z EL p e below s n0 fc fs Q (T.setTop (mkF m pc ls (.long v :: st))) := by
  subst hn; exact K.st fun _ k => XS.lstore X.hr X.x rfl (X.dc hd) rfl hl k
theorem aloadN (X : Sd kn Z a0 EL y bytes maxL ret p l e R s m args below meth c n0 sf h kc ks T) {pc n : Nat} {ls : Array Slot} {st : List Value} {k : Fin 4} {v : Value} (hd : decode bytes pc = .ok (.aload_n k, 1)) (hl : ls[k.val]? = some (.val v)) (hv : v.isRef = true) (hn : pc + 1 = n) (K : Run Z EL p e below s n0 fc fs Q (T.setTop (mkF m n ls (v :: st)))) : Run Z EL p e below s n0 fc fs Q (T.setTop (mkF m pc ls st)) := by
  subst hn; exact K.st fun _ k => XS.aloadN X.hr X.x rfl (X.dc hd) hl hv k
theorem aload (X : Sd kn Z a0 EL y bytes maxL ret p l e R s m args below meth c n0 sf h kc ks T) {pc n : Nat} {ls : Array Slot} {st : List Value} {j : Nat} {v : Value} (hd : decode bytes pc = .ok (.aload j, 2)) (hl : ls[j]? = some (.val v)) (hv : v.isRef = true) (hn : pc + 2 = n) (K : Run Z EL p e below s n0 fc fs Q (T.setTop (mkF m n ls (v :: st)))) : Run Z EL p e below s n0 fc fs Q (T.setTop (mkF m pc ls st)) := by
  subst hn; exact K.st fun _ k => XS.aload X.hr X.x rfl (X.dc hd) hl hv k
theorem astoreN (X : Sd kn Z a0 EL y bytes maxL ret p l e R s m args below meth c n0 sf h kc ks T) {pc n : Nat} {ls : Array Slot} {st : List Value} {k : Fin 4} {v : Value} {l' : Array Slot} (hd : decode bytes pc = .ok (.astore_n k, 1)) (hv : v.isRef = true) (hl : storeLocals ls k.val v = some l') (hn : pc + 1 = n) (K : Run Z EL p e below s n0 fc fs Q (T.setTop (mkF m n l' st))) : Run Z EL p e below s n0 fc fs Q (T.setTop (mkF m pc ls (v :: st))) := by
  subst hn; exact K.st fun _ k => XS.astoreN X.hr X.x rfl (X.dc hd) rfl hv hl k
theorem astore (X : Sd kn Z a0 EL y bytes maxL ret p l e R s m args below meth c n0 sf h kc ks T) {pc n : Nat} {ls : Array Slot} {st : List Value} {j : Nat} {v : Value} {l' : Array Slot} (hd : decode bytes pc = .ok (.astore j, 2)) (hv : v.isRef = true) (hl : storeLocals ls j v = some l') (hn : pc + 2 = n) (K : Run Z EL p e below s n0 fc fs Q (T.setTop (mkF m n l' st))) : Run Z EL p e below s n0 fc fs Q (T.setTop (mkF m pc ls (v :: st))) := by
  subst hn; exact K.st fun _ k => XS.astore X.hr X.x rfl (X.dc hd) rfl hv hl k
theorem iconst (X : Sd kn Z a0 EL y bytes maxL ret p l e R s m args below meth c n0 sf h kc ks T) {pc n : Nat} {ls : Array Slot} {st : List Value} {i : Int} {z : Int32} (hd : decode bytes pc = .ok (.iconst i, 1)) (hz : Int32.ofInt i = z) (hn : pc + 1 = n) (K : Run Z EL p e below s n0 fc fs Q (T.setTop (mkF m n ls (.int z :: st)))) : Run Z EL p e below s n0 fc fs Q (T.setTop (mkF m pc ls st)) := by
  subst hn hz; exact K.st fun _ k => XS.iconst X.hr X.x rfl (X.dc hd) k
theorem bipush (X : Sd kn Z a0 EL y bytes maxL ret p l e R s m args below meth c n0 sf h kc ks T) {pc n : Nat} {ls : Array Slot} {st : List Value} {i : Int} {z : Int32} (hd : decode bytes pc = .ok (.bipush i, 2)) (hz : (Int8.ofInt i).toInt32 = z) (hn : pc + 2 = n) (K : Run Z EL p e below s n0 fc fs Q (T.setTop (mkF m n ls (.int z :: st)))) : Run Z EL p e below s n0 fc fs Q (T.setTop (mkF m pc ls st)) := by
  subst hn hz; exact K.st fun _ k => XS.bipush X.hr X.x rfl (X.dc hd) k
theorem sipush (X : Sd kn Z a0 EL y bytes maxL ret p l e R s m args below meth c n0 sf h kc ks T) {pc n : Nat} {ls : Array Slot} {st : List Value} {i : Int} {z : Int32} (hd : decode bytes pc = .ok (.sipush i, 3)) (hz : (Int16.ofInt i).toInt32 = z) (hn : pc + 3 = n) (K : Run Z EL p e below s n0 fc fs Q (T.setTop (mkF m n ls (.int z :: st)))) : Run Z EL p e below s n0 fc fs Q (T.setTop (mkF m pc ls st)) := by
  subst hn hz; exact K.st fun _ k => XS.sipush X.hr X.x rfl (X.dc hd) k
theorem anull (X : Sd kn Z a0 EL y bytes maxL ret p l e R s m args below meth c n0 sf h kc ks T) {pc n : Nat} {ls : Array Slot} {st : List Value}  (hd : decode bytes pc = .ok (.aconst_null, 1)) (hn : pc + 1 = n) (K : Run Z EL p e below s n0 fc fs Q (T.setTop (mkF m n ls (.null :: st)))) : Run Z EL p e below s n0 fc fs Q (T.setTop (mkF m pc ls st)) := by
  subst hn; exact K.st fun _ k => XS.aconstNull X.hr X.x rfl (X.dc hd) k
theorem iadd (X : Sd kn Z a0 EL y bytes maxL ret p l e R s m args below meth c n0 sf h kc ks T) {pc n : Nat} {ls : Array Slot} {st : List Value} {u v : Int32} (hd : decode bytes pc = .ok (.iadd, 1)) (hn : pc + 1 = n) (K : Run Z EL p e below s n0 fc fs Q (T.setTop (mkF m n ls (.int (u + v) :: st)))) : Run Z EL p e below s n0 fc fs Q (T.setTop (mkF m pc ls (.int v :: .int u :: st))) := by
  subst hn; exact K.st fun _ k => XS.iadd X.hr X.x rfl (X.dc hd) rfl k
theorem ladd (X : Sd kn Z a0 EL y bytes maxL ret p l e R s m args below meth c n0 sf h kc ks T) {pc n : Nat} {ls : Array Slot} {st : List Value} {u v : Int64} (hd : decode bytes pc = .ok (.ladd, 1)) (hn : pc + 1 = n) (K : Run Z EL p e below s n0 fc fs Q (T.setTop (mkF m n ls (.long (u + v) :: st)))) : Run Z EL p e below s n0 fc fs Q (T.setTop (mkF m pc ls (.long v :: .long u :: st))) := by
  subst hn; exact K.st fun _ k => XS.ladd X.hr X.x rfl (X.dc hd) rfl k
theorem isub (X : Sd kn Z a0 EL y bytes maxL ret p l e R s m args below meth c n0 sf h kc ks T) {pc n : Nat} {ls : Array Slot} {st : List Value} {u v : Int32} (hd : decode bytes pc = .ok (.isub, 1)) (hn : pc + 1 = n) (K : Run Z EL p e below s n0 fc fs Q (T.setTop (mkF m n ls (.int (u - v) :: st)))) : Run Z EL p e below s n0 fc fs Q (T.setTop (mkF m pc ls (.int v :: .int u :: st))) := by
  subst hn; exact K.st fun _ k => XS.isub X.hr X.x rfl (X.dc hd) rfl k
theorem lsub (X : Sd kn Z a0 EL y bytes maxL ret p l e R s m args below meth c n0 sf h kc ks T) {pc n : Nat} {ls : Array Slot} {st : List Value} {u v : Int64} (hd : decode bytes pc = .ok (.lsub, 1)) (hn : pc + 1 = n) (K : Run Z EL p e below s n0 fc fs Q (T.setTop (mkF m n ls (.long (u - v) :: st)))) : Run Z EL p e below s n0 fc fs Q (T.setTop (mkF m pc ls (.long v :: .long u :: st))) := by
  subst hn; exact K.st fun _ k => XS.lsub X.hr X.x rfl (X.dc hd) rfl k
theorem imul (X : Sd kn Z a0 EL y bytes maxL ret p l e R s m args below meth c n0 sf h kc ks T) {pc n : Nat} {ls : Array Slot} {st : List Value} {u v : Int32} (hd : decode bytes pc = .ok (.imul, 1)) (hn : pc + 1 = n) (K : Run Z EL p e below s n0 fc fs Q (T.setTop (mkF m n ls (.int (u * v) :: st)))) : Run Z EL p e below s n0 fc fs Q (T.setTop (mkF m pc ls (.int v :: .int u :: st))) := by
  subst hn; exact K.st fun _ k => XS.imul X.hr X.x rfl (X.dc hd) rfl k
theorem lmul (X : Sd kn Z a0 EL y bytes maxL ret p l e R s m args below meth c n0 sf h kc ks T) {pc n : Nat} {ls : Array Slot} {st : List Value} {u v : Int64} (hd : decode bytes pc = .ok (.lmul, 1)) (hn : pc + 1 = n) (K : Run Z EL p e below s n0 fc fs Q (T.setTop (mkF m n ls (.long (u * v) :: st)))) : Run Z EL p e below s n0 fc fs Q (T.setTop (mkF m pc ls (.long v :: .long u :: st))) := by
  subst hn; exact K.st fun _ k => XS.lmul X.hr X.x rfl (X.dc hd) rfl k
theorem iand (X : Sd kn Z a0 EL y bytes maxL ret p l e R s m args below meth c n0 sf h kc ks T) {pc n : Nat} {ls : Array Slot} {st : List Value} {u v : Int32} (hd : decode bytes pc = .ok (.iand, 1)) (hn : pc + 1 = n) (K : Run Z EL p e below s n0 fc fs Q (T.setTop (mkF m n ls (.int (u &&& v) :: st)))) : Run Z EL p e below s n0 fc fs Q (T.setTop (mkF m pc ls (.int v :: .int u :: st))) := by
  subst hn; exact K.st fun _ k => XS.iand X.hr X.x rfl (X.dc hd) rfl k
theorem land (X : Sd kn Z a0 EL y bytes maxL ret p l e R s m args below meth c n0 sf h kc ks T) {pc n : Nat} {ls : Array Slot} {st : List Value} {u v : Int64} (hd : decode bytes pc = .ok (.land, 1)) (hn : pc + 1 = n) (K : Run Z EL p e below s n0 fc fs Q (T.setTop (mkF m n ls (.long (u &&& v) :: st)))) : Run Z EL p e below s n0 fc fs Q (T.setTop (mkF m pc ls (.long v :: .long u :: st))) := by
  subst hn; exact K.st fun _ k => XS.land X.hr X.x rfl (X.dc hd) rfl k
theorem ior (X : Sd kn Z a0 EL y bytes maxL ret p l e R s m args below meth c n0 sf h kc ks T) {pc n : Nat} {ls : Array Slot} {st : List Value} {u v : Int32} (hd : decode bytes pc = .ok (.ior, 1)) (hn : pc + 1 = n) (K : Run Z EL p e below s n0 fc fs Q (T.setTop (mkF m n ls (.int (u ||| v) :: st)))) : Run Z EL p e below s n0 fc fs Q (T.setTop (mkF m pc ls (.int v :: .int u :: st))) := by
  subst hn; exact K.st fun _ k => XS.ior X.hr X.x rfl (X.dc hd) rfl k
theorem lor (X : Sd kn Z a0 EL y bytes maxL ret p l e R s m args below meth c n0 sf h kc ks T) {pc n : Nat} {ls : Array Slot} {st : List Value} {u v : Int64} (hd : decode bytes pc = .ok (.lor, 1)) (hn : pc + 1 = n) (K : Run Z EL p e below s n0 fc fs Q (T.setTop (mkF m n ls (.long (u ||| v) :: st)))) : Run Z EL p e below s n0 fc fs Q (T.setTop (mkF m pc ls (.long v :: .long u :: st))) := by
  subst hn; exact K.st fun _ k => XS.lor X.hr X.x rfl (X.dc hd) rfl k
theorem ixor (X : Sd kn Z a0 EL y bytes maxL ret p l e R s m args below meth c n0 sf h kc ks T) {pc n : Nat} {ls : Array Slot} {st : List Value} {u v : Int32} (hd : decode bytes pc = .ok (.ixor, 1)) (hn : pc + 1 = n) (K : Run Z EL p e below s n0 fc fs Q (T.setTop (mkF m n ls (.int (u ^^^ v) :: st)))) : Run Z EL p e below s n0 fc fs Q (T.setTop (mkF m pc ls (.int v :: .int u :: st))) := by
  subst hn; exact K.st fun _ k => XS.ixor X.hr X.x rfl (X.dc hd) rfl k
theorem lxor (X : Sd kn Z a0 EL y bytes maxL ret p l e R s m args below meth c n0 sf h kc ks T) {pc n : Nat} {ls : Array Slot} {st : List Value} {u v : Int64} (hd : decode bytes pc = .ok (.lxor, 1)) (hn : pc + 1 = n) (K : Run Z EL p e below s n0 fc fs Q (T.setTop (mkF m n ls (.long (u ^^^ v) :: st)))) : Run Z EL p e below s n0 fc fs Q (T.setTop (mkF m pc ls (.long v :: .long u :: st))) := by
  subst hn; exact K.st fun _ k => XS.lxor X.hr X.x rfl (X.dc hd) rfl k
theorem ishl (X : Sd kn Z a0 EL y bytes maxL ret p l e R s m args below meth c n0 sf h kc ks T) {pc n : Nat} {ls : Array Slot} {st : List Value} {u v : Int32} (hd : decode bytes pc = .ok (.ishl, 1)) (hn : pc + 1 = n) (K : Run Z EL p e below s n0 fc fs Q (T.setTop (mkF m n ls (.int (u <<< (v &&& 31)) :: st)))) : Run Z EL p e below s n0 fc fs Q (T.setTop (mkF m pc ls (.int v :: .int u :: st))) := by
  subst hn; exact K.st fun _ k => XS.ishl X.hr X.x rfl (X.dc hd) rfl k
theorem ishr (X : Sd kn Z a0 EL y bytes maxL ret p l e R s m args below meth c n0 sf h kc ks T) {pc n : Nat} {ls : Array Slot} {st : List Value} {u v : Int32} (hd : decode bytes pc = .ok (.ishr, 1)) (hn : pc + 1 = n) (K : Run Z EL p e below s n0 fc fs Q (T.setTop (mkF m n ls (.int (u >>> (v &&& 31)) :: st)))) : Run Z EL p e below s n0 fc fs Q (T.setTop (mkF m pc ls (.int v :: .int u :: st))) := by
  subst hn; exact K.st fun _ k => XS.ishr X.hr X.x rfl (X.dc hd) rfl k
theorem iushr (X : Sd kn Z a0 EL y bytes maxL ret p l e R s m args below meth c n0 sf h kc ks T) {pc n : Nat} {ls : Array Slot} {st : List Value} {u v : Int32} (hd : decode bytes pc = .ok (.iushr, 1)) (hn : pc + 1 = n) (K : Run Z EL p e below s n0 fc fs Q (T.setTop (mkF m n ls (.int ((u.toUInt32 >>> (v &&& 31).toUInt32).toInt32) :: st)))) : Run Z EL p e below s n0 fc fs Q (T.setTop (mkF m pc ls (.int v :: .int u :: st))) := by
  subst hn; exact K.st fun _ k => XS.iushr X.hr X.x rfl (X.dc hd) rfl k
theorem lshl (X : Sd kn Z a0 EL y bytes maxL ret p l e R s m args below meth c n0 sf h kc ks T) {pc n : Nat} {ls : Array Slot} {st : List Value} {u : Int64} {v : Int32} (hd : decode bytes pc = .ok (.lshl, 1)) (hn : pc + 1 = n) (K : Run Z EL p e below s n0 fc fs Q (T.setTop (mkF m n ls (.long (u <<< (v &&& 0x3f).toInt64) :: st)))) : Run Z EL p e below s n0 fc fs Q (T.setTop (mkF m pc ls (.int v :: .long u :: st))) := by
  subst hn; exact K.st fun _ k => XS.lshl X.hr X.x rfl (X.dc hd) rfl k
theorem lshr (X : Sd kn Z a0 EL y bytes maxL ret p l e R s m args below meth c n0 sf h kc ks T) {pc n : Nat} {ls : Array Slot} {st : List Value} {u : Int64} {v : Int32} (hd : decode bytes pc = .ok (.lshr, 1)) (hn : pc + 1 = n) (K : Run Z EL p e below s n0 fc fs Q (T.setTop (mkF m n ls (.long (u >>> (v &&& 0x3f).toInt64) :: st)))) : Run Z EL p e below s n0 fc fs Q (T.setTop (mkF m pc ls (.int v :: .long u :: st))) := by
  subst hn; exact K.st fun _ k => XS.lshr X.hr X.x rfl (X.dc hd) rfl k
theorem lushr (X : Sd kn Z a0 EL y bytes maxL ret p l e R s m args below meth c n0 sf h kc ks T) {pc n : Nat} {ls : Array Slot} {st : List Value} {u : Int64} {v : Int32} (hd : decode bytes pc = .ok (.lushr, 1)) (hn : pc + 1 = n) (K : Run Z EL p e below s n0 fc fs Q (T.setTop (mkF m n ls (.long ((u.toUInt64 >>> (v &&& 0x3f).toInt64.toUInt64).toInt64) :: st)))) : Run Z EL p e below s n0 fc fs Q (T.setTop (mkF m pc ls (.int v :: .long u :: st))) := by
  subst hn; exact K.st fun _ k => XS.lushr X.hr X.x rfl (X.dc hd) rfl k
theorem ineg (X : Sd kn Z a0 EL y bytes maxL ret p l e R s m args below meth c n0 sf h kc ks T) {pc n : Nat} {ls : Array Slot} {st : List Value} {u : Int32} (hd : decode bytes pc = .ok (.ineg, 1)) (hn : pc + 1 = n) (K : Run Z EL p e below s n0 fc fs Q (T.setTop (mkF m n ls (.int (-u) :: st)))) : Run Z EL p e below s n0 fc fs Q (T.setTop (mkF m pc ls (.int u :: st))) := by
  subst hn; exact K.st fun _ k => XS.ineg X.hr X.x rfl (X.dc hd) rfl k
theorem i2l (X : Sd kn Z a0 EL y bytes maxL ret p l e R s m args below meth c n0 sf h kc ks T) {pc n : Nat} {ls : Array Slot} {st : List Value} {u : Int32} (hd : decode bytes pc = .ok (.i2l, 1)) (hn : pc + 1 = n) (K : Run Z EL p e below s n0 fc fs Q (T.setTop (mkF m n ls (.long u.toInt64 :: st)))) : Run Z EL p e below s n0 fc fs Q (T.setTop (mkF m pc ls (.int u :: st))) := by
  subst hn; exact K.st fun _ k => XS.i2l X.hr X.x rfl (X.dc hd) rfl k
theorem l2i (X : Sd kn Z a0 EL y bytes maxL ret p l e R s m args below meth c n0 sf h kc ks T) {pc n : Nat} {ls : Array Slot} {st : List Value} {u : Int64} (hd : decode bytes pc = .ok (.l2i, 1)) (hn : pc + 1 = n) (K : Run Z EL p e below s n0 fc fs Q (T.setTop (mkF m n ls (.int u.toInt32 :: st)))) : Run Z EL p e below s n0 fc fs Q (T.setTop (mkF m pc ls (.long u :: st))) := by
  subst hn; exact K.st fun _ k => XS.l2i X.hr X.x rfl (X.dc hd) rfl k
theorem i2b (X : Sd kn Z a0 EL y bytes maxL ret p l e R s m args below meth c n0 sf h kc ks T) {pc n : Nat} {ls : Array Slot} {st : List Value} {u : Int32} (hd : decode bytes pc = .ok (.i2b, 1)) (hn : pc + 1 = n) (K : Run Z EL p e below s n0 fc fs Q (T.setTop (mkF m n ls (.int u.toInt8.toInt32 :: st)))) : Run Z EL p e below s n0 fc fs Q (T.setTop (mkF m pc ls (.int u :: st))) := by
  subst hn; exact K.st fun _ k => XS.i2b X.hr X.x rfl (X.dc hd) rfl k
theorem i2s (X : Sd kn Z a0 EL y bytes maxL ret p l e R s m args below meth c n0 sf h kc ks T) {pc n : Nat} {ls : Array Slot} {st : List Value} {u : Int32} (hd : decode bytes pc = .ok (.i2s, 1)) (hn : pc + 1 = n) (K : Run Z EL p e below s n0 fc fs Q (T.setTop (mkF m n ls (.int u.toInt16.toInt32 :: st)))) : Run Z EL p e below s n0 fc fs Q (T.setTop (mkF m pc ls (.int u :: st))) := by
  subst hn; exact K.st fun _ k => XS.i2s X.hr X.x rfl (X.dc hd) rfl k
theorem i2c (X : Sd kn Z a0 EL y bytes maxL ret p l e R s m args below meth c n0 sf h kc ks T) {pc n : Nat} {ls : Array Slot} {st : List Value} {u : Int32} (hd : decode bytes pc = .ok (.i2c, 1)) (hn : pc + 1 = n) (K : Run Z EL p e below s n0 fc fs Q (T.setTop (mkF m n ls (.int u.toUInt32.toUInt16.toUInt32.toInt32 :: st)))) : Run Z EL p e below s n0 fc fs Q (T.setTop (mkF m pc ls (.int u :: st))) := by
  subst hn; exact K.st fun _ k => XS.i2c X.hr X.x rfl (X.dc hd) rfl k
theorem lcmp (X : Sd kn Z a0 EL y bytes maxL ret p l e R s m args below meth c n0 sf h kc ks T) {pc n : Nat} {ls : Array Slot} {st : List Value} {u v : Int64} (hd : decode bytes pc = .ok (.lcmp, 1)) (hn : pc + 1 = n) (K : Run Z EL p e below s n0 fc fs Q (T.setTop (mkF m n ls (.int (lcmpW u v) :: st)))) : Run Z EL p e below s n0 fc fs Q (T.setTop (mkF m pc ls (.long v :: .long u :: st))) := by
  subst hn; exact K.st fun _ k => XS.lcmp X.hr X.x rfl (X.dc hd) rfl k
theorem irem (X : Sd kn Z a0 EL y bytes maxL ret p l e R s m args below meth c n0 sf h kc ks T) {pc n : Nat} {ls : Array Slot} {st : List Value} {u v : Int32} (hd : decode bytes pc = .ok (.irem, 1)) (hv : v ≠ 0) (hn : pc + 1 = n) (K : Run Z EL p e below s n0 fc fs Q (T.setTop (mkF m n ls (.int (u % v) :: st)))) : Run Z EL p e below s n0 fc fs Q (T.setTop (mkF m pc ls (.int v :: .int u :: st))) := by
  subst hn; obtain ⟨s', L, i, j, Y, -⟩ := X.op; exact K.st fun _ k => iremM Y X.x rfl (X.dc hd) rfl hv k
theorem idiv (X : Sd kn Z a0 EL y bytes maxL ret p l e R s m args below meth c n0 sf h kc ks T) {pc n : Nat} {ls : Array Slot} {st : List Value} {u v : Int32} (hd : decode bytes pc = .ok (.idiv, 1)) (hv : v ≠ 0) (hn : pc + 1 = n) (K : Run Z EL p e below s n0 fc fs Q (T.setTop (mkF m n ls (.int (u / v) :: st)))) : Run Z EL p e below s n0 fc fs Q (T.setTop (mkF m pc ls (.int v :: .int u :: st))) := by
  subst hn; exact K.st fun _ k => XS.idiv X.hr X.x rfl (X.dc hd) rfl hv k
theorem dup (X : Sd kn Z a0 EL y bytes maxL ret p l e R s m args below meth c n0 sf h kc ks T) {pc n : Nat} {ls : Array Slot} {st : List Value} {v : Value} (hd : decode bytes pc = .ok (.dup, 1)) (hc : v.category = 1) (hn : pc + 1 = n) (K : Run Z EL p e below s n0 fc fs Q (T.setTop (mkF m n ls (v :: v :: st)))) : Run Z EL p e below s n0 fc fs Q (T.setTop (mkF m pc ls (v :: st))) := by
  subst hn; exact K.st fun _ k => XS.dup X.hr X.x rfl (X.dc hd) rfl hc k
theorem pop (X : Sd kn Z a0 EL y bytes maxL ret p l e R s m args below meth c n0 sf h kc ks T) {pc n : Nat} {ls : Array Slot} {st : List Value} {v : Value} (hd : decode bytes pc = .ok (.pop, 1)) (hc : v.category = 1) (hn : pc + 1 = n) (K : Run Z EL p e below s n0 fc fs Q (T.setTop (mkF m n ls st))) : Run Z EL p e below s n0 fc fs Q (T.setTop (mkF m pc ls (v :: st))) := by
  subst hn; exact K.st fun _ k => XS.pop X.hr X.x rfl (X.dc hd) rfl hc k
theorem dupX1 (X : Sd kn Z a0 EL y bytes maxL ret p l e R s m args below meth c n0 sf h kc ks T) {pc n : Nat} {ls : Array Slot} {st : List Value} {u v : Value} (hd : decode bytes pc = .ok (.dup_x1, 1)) (hc : u.category = 1) (hc' : v.category = 1) (hn : pc + 1 = n) (K : Run Z EL p e below s n0 fc fs Q (T.setTop (mkF m n ls (u :: v :: u :: st)))) : Run Z EL p e below s n0 fc fs Q (T.setTop (mkF m pc ls (u :: v :: st))) := by
  subst hn; exact K.st fun _ k => XS.dupX1 X.hr X.x rfl (X.dc hd) rfl hc hc' k
theorem iinc (X : Sd kn Z a0 EL y bytes maxL ret p l e R s m args below meth c n0 sf h kc ks T) {pc n j : Nat} {ls l' : Array Slot} {st : List Value} {i : Int} {z v u : Int32} (hd : decode bytes pc = .ok (.iinc j i, 3)) (hz : Int32.ofInt i = z) (hl : ls[j]? = some (.val (.int v))) (hu : v + z = u) (hl' : storeLocals ls j (.int u) = some l') (hn : pc + 3 = n) (K : Run Z EL p e below s n0 fc fs Q (T.setTop (mkF m n l' st))) : Run Z EL p e below s n0 fc fs Q (T.setTop (mkF m pc ls st)) := by
  subst hn hz hu; exact K.st fun _ k => XS.iinc X.hr X.x rfl (X.dc hd) hl hl' k
theorem ldc (X : Sd kn Z a0 EL y bytes maxL ret p l e R s m args below meth c n0 sf h kc ks T) {pc n index : Nat} {ls : Array Slot} {st : List Value} {v : Int32} (hd : decode bytes pc = .ok (.ldc index, 2)) (w : (Cond.constant y.cls index v).before a0 Z = true) (hn : pc + 2 = n) (K : Run Z EL p e below s n0 fc fs Q (T.setTop (mkF m n ls (.int v :: st)))) : Run Z EL p e below s n0 fc fs Q (T.setTop (mkF m pc ls st)) := by
  subst hn; obtain ⟨s', L, i, j, Y, r1, hZ, hown, -⟩ := X.op; exact K.st fun _ k => Y.ldcInt X.x hown (mvT hZ w) (g := mkF m pc ls st) rfl (X.dc hd) _ k
theorem ldc2 (X : Sd kn Z a0 EL y bytes maxL ret p l e R s m args below meth c n0 sf h kc ks T) {pc n index : Nat} {ls : Array Slot} {st : List Value} {v : Int64} (hd : decode bytes pc = .ok (.ldc2_w index, 3)) (w : (Cond.constantLong y.cls index v).before a0 Z = true) (hn : pc + 3 = n) (K : Run Z EL p e below s n0 fc fs Q (T.setTop (mkF m n ls (.long v :: st)))) : Run Z EL p e below s n0 fc fs Q (T.setTop (mkF m pc ls st)) := by
  subst hn; obtain ⟨s', L, i, j, Y, r1, hZ, hown, -⟩ := X.op; exact K.st fun _ k => Y.ldc2Long X.x hown (mvT hZ w) (g := mkF m pc ls st) rfl (X.dc hd) _ k
theorem goto (X : Sd kn Z a0 EL y bytes maxL ret p l e R s m args below meth c n0 sf h kc ks T) {pc n : Nat} {ls : Array Slot} {st : List Value} {o : Int} (hd : decode bytes pc = .ok (.goto o, 3)) (ho : 0 ≤ (pc : Int) + o) (hn : ((pc : Int) + o).toNat = n) (K : Run Z EL p e below s n0 fc fs Q (T.setTop (mkF m n ls st))) : Run Z EL p e below s n0 fc fs Q (T.setTop (mkF m pc ls st)) := K.st fun _ k => XS.goto X.hr X.x rfl rfl (X.dc hd) ho hn k
theorem ifc (X : Sd kn Z a0 EL y bytes maxL ret p l e R s m args below meth c n0 sf h kc ks T) {pc n1 n2 : Nat} {ls : Array Slot} {st : List Value} {cd : ClassFile.Cond} {x : Int32} {o : Int} (hd : decode bytes pc = .ok (.ifCond cd o, 3)) (ho : 0 ≤ (pc : Int) + o) (h1 : ((pc : Int) + o).toNat = n1) (h2 : pc + 3 = n2) (K1 : ifCond.holds cd x = true → Run Z EL p e below s n0 fc fs Q (T.setTop (mkF m n1 ls st))) (K2 : ifCond.holds cd x = false → Run Z EL p e below s n0 fc fs Q (T.setTop (mkF m n2 ls st))) : Run Z EL p e below s n0 fc fs Q (T.setTop (mkF m pc ls (.int x :: st))) := by
  cases hq : ifCond.holds cd x with
  | true => exact (K1 hq).st fun _ k => XS.ifYes X.hr X.x rfl rfl (X.dc hd) rfl hq ho h1 k
  | false => subst h2; exact (K2 hq).st fun _ k => XS.ifNo X.hr X.x rfl (X.dc hd) rfl hq k
theorem icc (X : Sd kn Z a0 EL y bytes maxL ret p l e R s m args below meth c n0 sf h kc ks T) {pc n1 n2 : Nat} {ls : Array Slot} {st : List Value} {cd : ClassFile.Cond} {x v : Int32} {o : Int} (hd : decode bytes pc = .ok (.if_icmp cd o, 3)) (ho : 0 ≤ (pc : Int) + o) (h1 : ((pc : Int) + o).toNat = n1) (h2 : pc + 3 = n2) (K1 : if_icmp.holds cd x v = true → Run Z EL p e below s n0 fc fs Q (T.setTop (mkF m n1 ls st))) (K2 : if_icmp.holds cd x v = false → Run Z EL p e below s n0 fc fs Q (T.setTop (mkF m n2 ls st))) : Run Z EL p e below s n0 fc fs Q (T.setTop (mkF m pc ls (.int v :: .int x :: st))) := by
  cases hq : if_icmp.holds cd x v with
  | true => exact (K1 hq).st fun _ k => XS.icmpYes X.hr X.x rfl rfl (X.dc hd) rfl hq ho h1 k
  | false => subst h2; exact (K2 hq).st fun _ k => XS.icmpNo X.hr X.x rfl (X.dc hd) rfl hq k
theorem ic_eq (X : Sd kn Z a0 EL y bytes maxL ret p l e R s m args below meth c n0 sf h kc ks T) {pc n1 n2 : Nat} {ls : Array Slot} {st : List Value} {x v : Int32} {o : Int} (hd : decode bytes pc = .ok (.if_icmp .eq o, 3)) (ho : 0 ≤ (pc : Int) + o) (h1 : ((pc : Int) + o).toNat = n1) (h2 : pc + 3 = n2) (K1 : x = v → Run Z EL p e below s n0 fc fs Q (T.setTop (mkF m n1 ls st))) (K2 : ¬ x = v → Run Z EL p e below s n0 fc fs Q (T.setTop (mkF m n2 ls st))) : Run Z EL p e below s n0 fc fs Q (T.setTop (mkF m pc ls (.int v :: .int x :: st))) := by
  exact icc X hd ho h1 h2 (fun hq => K1 (Classical.byContradiction fun w => by rw [(feq w).1] at hq; cases hq)) (fun hq => K2 (fun w => by rw [(teq w).1] at hq; cases hq))
theorem if_eq (X : Sd kn Z a0 EL y bytes maxL ret p l e R s m args below meth c n0 sf h kc ks T) {pc n1 n2 : Nat} {ls : Array Slot} {st : List Value} {x : Int32} {o : Int} (hd : decode bytes pc = .ok (.ifCond .eq o, 3)) (ho : 0 ≤ (pc : Int) + o) (h1 : ((pc : Int) + o).toNat = n1) (h2 : pc + 3 = n2) (K1 : x = 0 → Run Z EL p e below s n0 fc fs Q (T.setTop (mkF m n1 ls st))) (K2 : ¬ x = 0 → Run Z EL p e below s n0 fc fs Q (T.setTop (mkF m n2 ls st))) : Run Z EL p e below s n0 fc fs Q (T.setTop (mkF m pc ls (.int x :: st))) := by
  exact ifc X hd ho h1 h2 (fun hq => by rw [if0] at hq; exact K1 (Classical.byContradiction fun w => by rw [(feq w).1] at hq; cases hq)) (fun hq => by rw [if0] at hq; exact K2 (fun w => by rw [(teq w).1] at hq; cases hq))
theorem ic_ne (X : Sd kn Z a0 EL y bytes maxL ret p l e R s m args below meth c n0 sf h kc ks T) {pc n1 n2 : Nat} {ls : Array Slot} {st : List Value} {x v : Int32} {o : Int} (hd : decode bytes pc = .ok (.if_icmp .ne o, 3)) (ho : 0 ≤ (pc : Int) + o) (h1 : ((pc : Int) + o).toNat = n1) (h2 : pc + 3 = n2) (K1 : ¬ x = v → Run Z EL p e below s n0 fc fs Q (T.setTop (mkF m n1 ls st))) (K2 : x = v → Run Z EL p e below s n0 fc fs Q (T.setTop (mkF m n2 ls st))) : Run Z EL p e below s n0 fc fs Q (T.setTop (mkF m pc ls (.int v :: .int x :: st))) := by
  exact icc X hd ho h1 h2 (fun hq => K1 (fun w => by rw [(teq w).2] at hq; cases hq)) (fun hq => K2 (Classical.byContradiction fun w => by rw [(feq w).2] at hq; cases hq))
theorem if_ne (X : Sd kn Z a0 EL y bytes maxL ret p l e R s m args below meth c n0 sf h kc ks T) {pc n1 n2 : Nat} {ls : Array Slot} {st : List Value} {x : Int32} {o : Int} (hd : decode bytes pc = .ok (.ifCond .ne o, 3)) (ho : 0 ≤ (pc : Int) + o) (h1 : ((pc : Int) + o).toNat = n1) (h2 : pc + 3 = n2) (K1 : ¬ x = 0 → Run Z EL p e below s n0 fc fs Q (T.setTop (mkF m n1 ls st))) (K2 : x = 0 → Run Z EL p e below s n0 fc fs Q (T.setTop (mkF m n2 ls st))) : Run Z EL p e below s n0 fc fs Q (T.setTop (mkF m pc ls (.int x :: st))) := by
  exact ifc X hd ho h1 h2 (fun hq => by rw [if0] at hq; exact K1 (fun w => by rw [(teq w).2] at hq; cases hq)) (fun hq => by rw [if0] at hq; exact K2 (Classical.byContradiction fun w => by rw [(feq w).2] at hq; cases hq))
theorem ic_lt (X : Sd kn Z a0 EL y bytes maxL ret p l e R s m args below meth c n0 sf h kc ks T) {pc n1 n2 : Nat} {ls : Array Slot} {st : List Value} {x v : Int32} {o : Int} (hd : decode bytes pc = .ok (.if_icmp .lt o, 3)) (ho : 0 ≤ (pc : Int) + o) (h1 : ((pc : Int) + o).toNat = n1) (h2 : pc + 3 = n2) (K1 : x < v → Run Z EL p e below s n0 fc fs Q (T.setTop (mkF m n1 ls st))) (K2 : ¬ x < v → Run Z EL p e below s n0 fc fs Q (T.setTop (mkF m n2 ls st))) : Run Z EL p e below s n0 fc fs Q (T.setTop (mkF m pc ls (.int v :: .int x :: st))) := by
  exact icc X hd ho h1 h2 (fun hq => K1 (Classical.byContradiction fun w => by rw [(flt w).1] at hq; cases hq)) (fun hq => K2 (fun w => by rw [(tlt w).1] at hq; cases hq))
theorem if_lt (X : Sd kn Z a0 EL y bytes maxL ret p l e R s m args below meth c n0 sf h kc ks T) {pc n1 n2 : Nat} {ls : Array Slot} {st : List Value} {x : Int32} {o : Int} (hd : decode bytes pc = .ok (.ifCond .lt o, 3)) (ho : 0 ≤ (pc : Int) + o) (h1 : ((pc : Int) + o).toNat = n1) (h2 : pc + 3 = n2) (K1 : x < 0 → Run Z EL p e below s n0 fc fs Q (T.setTop (mkF m n1 ls st))) (K2 : ¬ x < 0 → Run Z EL p e below s n0 fc fs Q (T.setTop (mkF m n2 ls st))) : Run Z EL p e below s n0 fc fs Q (T.setTop (mkF m pc ls (.int x :: st))) := by
  exact ifc X hd ho h1 h2 (fun hq => by rw [if0] at hq; exact K1 (Classical.byContradiction fun w => by rw [(flt w).1] at hq; cases hq)) (fun hq => by rw [if0] at hq; exact K2 (fun w => by rw [(tlt w).1] at hq; cases hq))
theorem ic_ge (X : Sd kn Z a0 EL y bytes maxL ret p l e R s m args below meth c n0 sf h kc ks T) {pc n1 n2 : Nat} {ls : Array Slot} {st : List Value} {x v : Int32} {o : Int} (hd : decode bytes pc = .ok (.if_icmp .ge o, 3)) (ho : 0 ≤ (pc : Int) + o) (h1 : ((pc : Int) + o).toNat = n1) (h2 : pc + 3 = n2) (K1 : ¬ x < v → Run Z EL p e below s n0 fc fs Q (T.setTop (mkF m n1 ls st))) (K2 : x < v → Run Z EL p e below s n0 fc fs Q (T.setTop (mkF m n2 ls st))) : Run Z EL p e below s n0 fc fs Q (T.setTop (mkF m pc ls (.int v :: .int x :: st))) := by
  exact icc X hd ho h1 h2 (fun hq => K1 (fun w => by rw [(tlt w).2.1] at hq; cases hq)) (fun hq => K2 (Classical.byContradiction fun w => by rw [(flt w).2.1] at hq; cases hq))
theorem if_ge (X : Sd kn Z a0 EL y bytes maxL ret p l e R s m args below meth c n0 sf h kc ks T) {pc n1 n2 : Nat} {ls : Array Slot} {st : List Value} {x : Int32} {o : Int} (hd : decode bytes pc = .ok (.ifCond .ge o, 3)) (ho : 0 ≤ (pc : Int) + o) (h1 : ((pc : Int) + o).toNat = n1) (h2 : pc + 3 = n2) (K1 : ¬ x < 0 → Run Z EL p e below s n0 fc fs Q (T.setTop (mkF m n1 ls st))) (K2 : x < 0 → Run Z EL p e below s n0 fc fs Q (T.setTop (mkF m n2 ls st))) : Run Z EL p e below s n0 fc fs Q (T.setTop (mkF m pc ls (.int x :: st))) := by
  exact ifc X hd ho h1 h2 (fun hq => by rw [if0] at hq; exact K1 (fun w => by rw [(tlt w).2.1] at hq; cases hq)) (fun hq => by rw [if0] at hq; exact K2 (Classical.byContradiction fun w => by rw [(flt w).2.1] at hq; cases hq))
theorem ic_gt (X : Sd kn Z a0 EL y bytes maxL ret p l e R s m args below meth c n0 sf h kc ks T) {pc n1 n2 : Nat} {ls : Array Slot} {st : List Value} {x v : Int32} {o : Int} (hd : decode bytes pc = .ok (.if_icmp .gt o, 3)) (ho : 0 ≤ (pc : Int) + o) (h1 : ((pc : Int) + o).toNat = n1) (h2 : pc + 3 = n2) (K1 : v < x → Run Z EL p e below s n0 fc fs Q (T.setTop (mkF m n1 ls st))) (K2 : ¬ v < x → Run Z EL p e below s n0 fc fs Q (T.setTop (mkF m n2 ls st))) : Run Z EL p e below s n0 fc fs Q (T.setTop (mkF m pc ls (.int v :: .int x :: st))) := by
  exact icc X hd ho h1 h2 (fun hq => K1 (Classical.byContradiction fun w => by rw [(flt w).2.2.1] at hq; cases hq)) (fun hq => K2 (fun w => by rw [(tlt w).2.2.1] at hq; cases hq))
theorem if_gt (X : Sd kn Z a0 EL y bytes maxL ret p l e R s m args below meth c n0 sf h kc ks T) {pc n1 n2 : Nat} {ls : Array Slot} {st : List Value} {x : Int32} {o : Int} (hd : decode bytes pc = .ok (.ifCond .gt o, 3)) (ho : 0 ≤ (pc : Int) + o) (h1 : ((pc : Int) + o).toNat = n1) (h2 : pc + 3 = n2) (K1 : 0 < x → Run Z EL p e below s n0 fc fs Q (T.setTop (mkF m n1 ls st))) (K2 : ¬ 0 < x → Run Z EL p e below s n0 fc fs Q (T.setTop (mkF m n2 ls st))) : Run Z EL p e below s n0 fc fs Q (T.setTop (mkF m pc ls (.int x :: st))) := by
  exact ifc X hd ho h1 h2 (fun hq => by rw [if0] at hq; exact K1 (Classical.byContradiction fun w => by rw [(flt w).2.2.1] at hq; cases hq)) (fun hq => by rw [if0] at hq; exact K2 (fun w => by rw [(tlt w).2.2.1] at hq; cases hq))
theorem ic_le (X : Sd kn Z a0 EL y bytes maxL ret p l e R s m args below meth c n0 sf h kc ks T) {pc n1 n2 : Nat} {ls : Array Slot} {st : List Value} {x v : Int32} {o : Int} (hd : decode bytes pc = .ok (.if_icmp .le o, 3)) (ho : 0 ≤ (pc : Int) + o) (h1 : ((pc : Int) + o).toNat = n1) (h2 : pc + 3 = n2) (K1 : ¬ v < x → Run Z EL p e below s n0 fc fs Q (T.setTop (mkF m n1 ls st))) (K2 : v < x → Run Z EL p e below s n0 fc fs Q (T.setTop (mkF m n2 ls st))) : Run Z EL p e below s n0 fc fs Q (T.setTop (mkF m pc ls (.int v :: .int x :: st))) := by
  exact icc X hd ho h1 h2 (fun hq => K1 (fun w => by rw [(tlt w).2.2.2] at hq; cases hq)) (fun hq => K2 (Classical.byContradiction fun w => by rw [(flt w).2.2.2] at hq; cases hq))
theorem if_le (X : Sd kn Z a0 EL y bytes maxL ret p l e R s m args below meth c n0 sf h kc ks T) {pc n1 n2 : Nat} {ls : Array Slot} {st : List Value} {x : Int32} {o : Int} (hd : decode bytes pc = .ok (.ifCond .le o, 3)) (ho : 0 ≤ (pc : Int) + o) (h1 : ((pc : Int) + o).toNat = n1) (h2 : pc + 3 = n2) (K1 : ¬ 0 < x → Run Z EL p e below s n0 fc fs Q (T.setTop (mkF m n1 ls st))) (K2 : 0 < x → Run Z EL p e below s n0 fc fs Q (T.setTop (mkF m n2 ls st))) : Run Z EL p e below s n0 fc fs Q (T.setTop (mkF m pc ls (.int x :: st))) := by
  exact ifc X hd ho h1 h2 (fun hq => by rw [if0] at hq; exact K1 (fun w => by rw [(tlt w).2.2.2] at hq; cases hq)) (fun hq => by rw [if0] at hq; exact K2 (Classical.byContradiction fun w => by rw [(flt w).2.2.2] at hq; cases hq))
theorem ifnull_y (X : Sd kn Z a0 EL y bytes maxL ret p l e R s m args below meth c n0 sf h kc ks T) {pc n1 : Nat} {ls : Array Slot} {st : List Value} {o : Int} (hd : decode bytes pc = .ok (.ifnull o, 3)) (ho : 0 ≤ (pc : Int) + o) (h1 : ((pc : Int) + o).toNat = n1) (K : Run Z EL p e below s n0 fc fs Q (T.setTop (mkF m n1 ls st))) : Run Z EL p e below s n0 fc fs Q (T.setTop (mkF m pc ls (.null :: st))) := K.st fun _ k => XS.ifnullYes X.hr X.x rfl rfl (X.dc hd) rfl ho h1 k
theorem ifnull_n (X : Sd kn Z a0 EL y bytes maxL ret p l e R s m args below meth c n0 sf h kc ks T) {pc n2 : Nat} {ls : Array Slot} {st : List Value} {o : Int} {a : Addr} (hd : decode bytes pc = .ok (.ifnull o, 3)) (h2 : pc + 3 = n2) (K : Run Z EL p e below s n0 fc fs Q (T.setTop (mkF m n2 ls st))) : Run Z EL p e below s n0 fc fs Q (T.setTop (mkF m pc ls (.ref a :: st))) := by
  subst h2; exact K.st fun _ k => XS.ifnullNo X.hr X.x rfl (X.dc hd) rfl k
theorem ifnonnull_y (X : Sd kn Z a0 EL y bytes maxL ret p l e R s m args below meth c n0 sf h kc ks T) {pc n1 : Nat} {ls : Array Slot} {st : List Value} {o : Int} {a : Addr} (hd : decode bytes pc = .ok (.ifnonnull o, 3)) (ho : 0 ≤ (pc : Int) + o) (h1 : ((pc : Int) + o).toNat = n1) (K : Run Z EL p e below s n0 fc fs Q (T.setTop (mkF m n1 ls st))) : Run Z EL p e below s n0 fc fs Q (T.setTop (mkF m pc ls (.ref a :: st))) := K.st fun _ k => XS.ifnonnullYes X.hr X.x rfl rfl (X.dc hd) rfl ho h1 k
theorem ifnonnull_n (X : Sd kn Z a0 EL y bytes maxL ret p l e R s m args below meth c n0 sf h kc ks T) {pc n2 : Nat} {ls : Array Slot} {st : List Value} {o : Int} (hd : decode bytes pc = .ok (.ifnonnull o, 3)) (h2 : pc + 3 = n2) (K : Run Z EL p e below s n0 fc fs Q (T.setTop (mkF m n2 ls st))) : Run Z EL p e below s n0 fc fs Q (T.setTop (mkF m pc ls (.null :: st))) := by
  subst h2; exact K.st fun _ k => XS.ifnonnullNo X.hr X.x rfl (X.dc hd) rfl k
theorem ac_eq (X : Sd kn Z a0 EL y bytes maxL ret p l e R s m args below meth c n0 sf h kc ks T) {pc n1 n2 : Nat} {ls : Array Slot} {st : List Value} {x v : Value} {o : Int} (hd : decode bytes pc = .ok (.if_acmp .eq o, 3)) (hx : x.isRef = true) (hv : v.isRef = true) (ho : 0 ≤ (pc : Int) + o) (h1 : ((pc : Int) + o).toNat = n1) (h2 : pc + 3 = n2) (K1 : x = v → Run Z EL p e below s n0 fc fs Q (T.setTop (mkF m n1 ls st))) (K2 : ¬ x = v → Run Z EL p e below s n0 fc fs Q (T.setTop (mkF m n2 ls st))) : Run Z EL p e below s n0 fc fs Q (T.setTop (mkF m pc ls (v :: x :: st))) := by
  obtain ⟨s', L, i, j, Y, -⟩ := X.op
  by_cases hq : x = v
  · exact (K1 hq).st fun _ k => acmp Y X.x rfl hx hv rfl (X.dc hd) rfl (decide_eq_true hq) ho (by simp [acV, ← h1, ← h2]) k
  · exact (K2 hq).st fun _ k => acmp Y X.x rfl hx hv rfl (X.dc hd) rfl (decide_eq_false hq) ho (by simp [acV, ← h1, ← h2]) k
theorem ac_ne (X : Sd kn Z a0 EL y bytes maxL ret p l e R s m args below meth c n0 sf h kc ks T) {pc n1 n2 : Nat} {ls : Array Slot} {st : List Value} {x v : Value} {o : Int} (hd : decode bytes pc = .ok (.if_acmp .ne o, 3)) (hx : x.isRef = true) (hv : v.isRef = true) (ho : 0 ≤ (pc : Int) + o) (h1 : ((pc : Int) + o).toNat = n1) (h2 : pc + 3 = n2) (K1 : ¬ x = v → Run Z EL p e below s n0 fc fs Q (T.setTop (mkF m n1 ls st))) (K2 : x = v → Run Z EL p e below s n0 fc fs Q (T.setTop (mkF m n2 ls st))) : Run Z EL p e below s n0 fc fs Q (T.setTop (mkF m pc ls (v :: x :: st))) := by
  obtain ⟨s', L, i, j, Y, -⟩ := X.op
  by_cases hq : x = v
  · exact (K2 hq).st fun _ k => acmp Y X.x rfl hx hv rfl (X.dc hd) rfl (decide_eq_true hq) ho (by simp [acV, ← h1, ← h2]) k
  · exact (K1 hq).st fun _ k => acmp Y X.x rfl hx hv rfl (X.dc hd) rfl (decide_eq_false hq) ho (by simp [acV, ← h1, ← h2]) k
theorem getstatic (X : Sd kn Z a0 EL y bytes maxL ret p l e R s m args below meth c n0 sf h kc ks T) {pc n index : Nat} {ls : Array Slot} {st : List Value} {R0 O : String} (hd : decode bytes pc = .ok (.getstatic index, 3)) (w : (Cond.fieldLink y.cls index R0 f d).before a0 Z = true) (via : Via Z R0 O f d) (F : Sta Z h O f d v) (hn : pc + 3 = n) (K : ∀ T', Sd kn Z a0 EL y bytes maxL ret p l e R s m args below meth c n0 sf h kc ks T' → Run Z EL p e below s n0 fc fs Q (T'.setTop (mkF m n ls (v :: st)))) : Run Z EL p e below s n0 fc fs Q (T.setTop (mkF m pc ls st)) := by
  subst hn; obtain ⟨s', L', i', j', Y, r1, hZ, hown, hml, hnm, r3, r4, hx, kN, kE, kW⟩ := X.op
  obtain ⟨T', Y', e', stp⟩ := getS (host := "") Y hx hZ hown w via r1 F (g := mkF m pc ls st) rfl (X.dc hd)
  exact (K T' (kN T' Y' e')).st stp
theorem getfield (X : Sd kn Z a0 EL y bytes maxL ret p l e R s m args below meth c n0 sf h kc ks T) {pc n index : Nat} {ls : Array Slot} {st : List Value} {R0 O : String} (hd : decode bytes pc = .ok (.getfield index, 3)) (w : (Cond.fieldLink y.cls index R0 f d).before a0 Z = true) (via : Via Z R0 O f d) (F : Fld Z h a O f d v) (hn : pc + 3 = n) (K : ∀ T', Sd kn Z a0 EL y bytes maxL ret p l e R s m args below meth c n0 sf h kc ks T' → Run Z EL p e below s n0 fc fs Q (T'.setTop (mkF m n ls (v :: st)))) : Run Z EL p e below s n0 fc fs Q (T.setTop (mkF m pc ls (.ref a :: st))) := by
  subst hn; obtain ⟨s', L', i', j', Y, r1, hZ, hown, hml, hnm, r3, r4, hx, kN, kE, kW⟩ := X.op
  obtain ⟨T', Y', e', stp⟩ := getF (host := "") Y hx hZ hown (Or.inl w) via r1 F (g := mkF m pc ls (.ref a :: st)) rfl rfl (X.dc hd)
  exact (K T' (kN T' Y' e')).st stp
theorem checkcast (X : Sd kn Z a0 EL y bytes maxL ret p l e R s m args below meth c n0 sf h kc ks T) {pc n index : Nat} {ls : Array Slot} {st : List Value} (hd : decode bytes pc = .ok (.checkcast index, 3)) (w : (Cond.classLink y.cls index C).before a0 Z = true) (F : Ins Z h a C true) (hn : pc + 3 = n) (K : ∀ T', Sd kn Z a0 EL y bytes maxL ret p l e R s m args below meth c n0 sf h kc ks T' → Run Z EL p e below s n0 fc fs Q (T'.setTop (mkF m n ls (.ref a :: st)))) : Run Z EL p e below s n0 fc fs Q (T.setTop (mkF m pc ls (.ref a :: st))) := by
  subst hn; obtain ⟨s', L', i', j', Y, r1, hZ, hown, hml, hnm, r3, r4, hx, kN, kE, kW⟩ := X.op
  obtain ⟨T', Y', e', stp⟩ := castY Y hx hZ hown w r1 F (g := mkF m pc ls (.ref a :: st)) rfl rfl (X.dc hd)
  exact (K T' (kN T' Y' e')).st stp
theorem checkcastNull (X : Sd kn Z a0 EL y bytes maxL ret p l e R s m args below meth c n0 sf h kc ks T) {pc n index : Nat} {ls : Array Slot} {st : List Value} (hd : decode bytes pc = .ok (.checkcast index, 3)) (hn : pc + 3 = n) (K : Run Z EL p e below s n0 fc fs Q (T.setTop (mkF m n ls (.null :: st)))) : Run Z EL p e below s n0 fc fs Q (T.setTop (mkF m pc ls (.null :: st))) := by
  subst hn; obtain ⟨s', L', i', j', Y, r1, hZ, hown, hml, hnm, r3, r4, hx, kN, kE, kW⟩ := X.op
  exact K.st fun _ k => Y.checkcastNull hx (g := mkF m pc ls (.null :: st)) rfl rfl (X.dc hd) _ k
theorem instanceofY (X : Sd kn Z a0 EL y bytes maxL ret p l e R s m args below meth c n0 sf h kc ks T) {pc n index : Nat} {ls : Array Slot} {st : List Value} (hd : decode bytes pc = .ok (.instanceof index, 3)) (w : (Cond.classLink y.cls index C).before a0 Z = true) (F : Ins Z h a C true) (hn : pc + 3 = n) (K : ∀ T', Sd kn Z a0 EL y bytes maxL ret p l e R s m args below meth c n0 sf h kc ks T' → Run Z EL p e below s n0 fc fs Q (T'.setTop (mkF m n ls (.int 1 :: st)))) : Run Z EL p e below s n0 fc fs Q (T.setTop (mkF m pc ls (.ref a :: st))) := by
  subst hn; obtain ⟨s', L', i', j', Y, r1, hZ, hown, hml, hnm, r3, r4, hx, kN, kE, kW⟩ := X.op
  obtain ⟨T', Y', e', stp⟩ := instY Y hx hZ hown w r1 F (g := mkF m pc ls (.ref a :: st)) rfl rfl (X.dc hd)
  exact (K T' (kN T' Y' e')).st stp
theorem instanceofNull (X : Sd kn Z a0 EL y bytes maxL ret p l e R s m args below meth c n0 sf h kc ks T) {pc n index : Nat} {ls : Array Slot} {st : List Value} (hd : decode bytes pc = .ok (.instanceof index, 3)) (hn : pc + 3 = n) (K : Run Z EL p e below s n0 fc fs Q (T.setTop (mkF m n ls (.int 0 :: st)))) : Run Z EL p e below s n0 fc fs Q (T.setTop (mkF m pc ls (.null :: st))) := by
  subst hn; obtain ⟨s', L', i', j', Y, r1, hZ, hown, hml, hnm, r3, r4, hx, kN, kE, kW⟩ := X.op
  exact K.st fun _ k => Y.instanceofNull hx (g := mkF m pc ls (.null :: st)) rfl rfl (X.dc hd) _ k
theorem initObj (X : Sd kn Z a0 EL y bytes maxL ret p l e R s m args below meth c n0 sf h kc ks T) {pc n index W : Nat} {ls : Array Slot} {st : List Value} (hd : decode bytes pc = .ok (.invokespecial index, 3)) (w1 : (Cond.methodLink y.cls index Lib.objectInit).before a0 Z = true) (w2 : (Cond.instanceMethod Lib.objectInit).before a0 Z = true) (w3 : (Cond.code Lib.objectInit ⟨#[0xb1]⟩ 1 none).before a0 Z = true) (hsize : ls.size = maxL) (hf : 1 ≤ R.frames) (hW : (st.map fun v => v.category).sum ≤ W) (hl : W + 12 ≤ R.locals) (hn : pc + 3 = n) (K : ∀ T', Sd kn Z a0 EL y bytes maxL ret p l e R s m args below meth c n0 sf h kc ks T' → Run Z EL p e below s n0 fc fs Q (T'.setTop (mkF m n ls st))) : Run Z EL p e below s n0 fc fs Q (T.setTop (mkF m pc ls (.ref a :: st))) := by
  subst hn; obtain ⟨s', L', i', j', Y, r1, hZ, hown, hml, hnm, r3, r4, hx, kN, kE, kW⟩ := X.op
  obtain ⟨T', Y', e', stp⟩ := initO Y hx hZ hown w1 w2 w3 r1 (g := mkF m pc ls (.ref a :: st)) rfl (by rw [hml]; exact hsize) rfl (X.dc hd) hf (W := W) (by simpa using hW) hl
  exact (K T' (kN T' Y' e')).st stp
def Ark (Z : State) (h : Heap) (a : Addr) (ty : FieldType) (vs : List Value) : Prop := ∃ c : Cell, Arr Z h a c ty ∧ c.slots = vs.toArray ∧ vs.length < 2147483648 ∧ ∀ v ∈ vs, fits ty v = true
theorem Ark.lt (A : Ark Z h a ty vs) : a < h.size := by obtain ⟨c, A, -⟩ := A; exact A.lt
theorem Ark.ext (A : Ark Z h a ty vs) (E : Ext h h') : Ark Z h' a ty vs := by obtain ⟨c, A, r⟩ := A; exact ⟨c, A.ext E, r⟩
theorem Ark.keep (A : Ark Z h a ty vs) (K : Keep h h' wl) (q : a ∉ wl) : Ark Z h' a ty vs := by obtain ⟨c, A, r⟩ := A; exact ⟨c, ⟨K.2.1 a c A.1 q, A.2⟩, r⟩
theorem Ark.len (A : Ark Z h a ty vs) : vs.length < 2147483648 := by obtain ⟨c, A, r1, r2, -⟩ := A; exact r2
theorem Ark.fit (A : Ark Z h a ty vs) : ∀ v ∈ vs, fits ty v = true := by obtain ⟨c, A, r1, r2, r3⟩ := A; exact r3
theorem Ark.ofArv {k : ClassId} {z : Int32} {dv : Value} (A : Arv Z h a k ty z vs dv) (hl : z.toNatClampNeg = vs.length) : Ark Z h a ty vs := by
  obtain ⟨c, A, q1, S, q3, H, G⟩ := A
  have hb : vs.length < 2147483648 := by rw [← hl]; exact (back32 q3).2
  have e1 : c.slots = vs.toArray := by
    apply Array.ext
    · simp [S, hl]
    · intro i h1 h2
      have q := H i h1
      rw [Array.getElem?_eq_getElem h1] at q
      have h3 : i < vs.length := by simpa using h2
      simpa [List.getD, List.getElem?_eq_getElem h3] using Option.some.inj q
  refine ⟨c, A, e1, hb, fun v hv => ?_⟩
  obtain ⟨i, hi, rfl⟩ := List.getElem_of_mem hv
  have q := G i (by rw [S, hl]; exact hi)
  simpa [List.getD, List.getElem?_eq_getElem hi] using q
theorem kExt (E : Ext h h') : Keep h h' [] := (Keep.refl h []).ext E
theorem nin1 (q : a ≠ b) : a ∉ [b] := fun z => q (List.mem_singleton.mp z)
theorem oldLe (O : Old Z n0 h) : n0 ≤ h.size := by rw [← O.1]; exact O.2.1
theorem toNatC {j : Int32} {i : Nat} (hj : j.toInt = i) : j.toNatClampNeg = i ∧ ¬ j < 0 := by
  refine ⟨by simp [Int32.toNatClampNeg, hj], fun q => ?_⟩
  have q2 := Int32.lt_iff_toInt_lt.mp q
  rw [hj] at q2
  have : (0 : Int32).toInt = 0 := rfl
  omega
theorem arkIn {c : Cell} (r1 : c.slots = vs.toArray) {j : Int32} {i : Nat} (hj : j.toInt = i) (hv : vs[i]? = some v) : ¬ (j < 0 ∨ c.slots.size ≤ j.toNatClampNeg) ∧ c.slots[j.toNatClampNeg]? = some v := by
  obtain ⟨g1, g2⟩ := toNatC hj
  obtain ⟨hi, -⟩ := List.getElem?_eq_some_iff.mp hv
  refine ⟨fun q => ?_, by rw [g1, r1]; simpa using hv⟩
  rcases q with q | q
  · exact g2 q
  · rw [g1, r1] at q; simp at q; omega
theorem iaload (X : Sd kn Z a0 EL y bytes maxL ret p l e R s m args below meth c n0 sf h kc ks T) {pc n i : Nat} {ls : Array Slot} {st : List Value} {j : Int32} (hd : decode bytes pc = .ok (.iaload, 1)) (A : Ark Z h a .int vs) (hj : j.toInt = i) (hv : vs[i]? = some v) (hn : pc + 1 = n) (K : Run Z EL p e below s n0 fc fs Q (T.setTop (mkF m n ls (v :: st)))) : Run Z EL p e below s n0 fc fs Q (T.setTop (mkF m pc ls (.int j :: .ref a :: st))) := by
  subst hn; obtain ⟨s', L', i', j', Y, r1, hZ, hown, hml, hnm, r3, r4, hx, kN, kE, kW⟩ := X.op
  obtain ⟨c', A, s1, -⟩ := A
  obtain ⟨g1, g2⟩ := arkIn s1 hj hv
  exact K.st fun _ k => Y.iaload hx (j := j) (v := v) (by rw [r1]; exact A.1) (State.isArrayOf_alike hZ.alike A.2.1) A.2.2 g1 g2 (g := mkF m pc ls (.int j :: .ref a :: st)) rfl rfl (X.dc hd) _ k
theorem caload (X : Sd kn Z a0 EL y bytes maxL ret p l e R s m args below meth c n0 sf h kc ks T) {pc n i : Nat} {ls : Array Slot} {st : List Value} {j : Int32} (hd : decode bytes pc = .ok (.caload, 1)) (A : Ark Z h a .char vs) (hj : j.toInt = i) (hv : vs[i]? = some v) (hn : pc + 1 = n) (K : Run Z EL p e below s n0 fc fs Q (T.setTop (mkF m n ls (v :: st)))) : Run Z EL p e below s n0 fc fs Q (T.setTop (mkF m pc ls (.int j :: .ref a :: st))) := by
  subst hn; obtain ⟨s', L', i', j', Y, r1, hZ, hown, hml, hnm, r3, r4, hx, kN, kE, kW⟩ := X.op
  obtain ⟨c', A, s1, -⟩ := A
  obtain ⟨g1, g2⟩ := arkIn s1 hj hv
  exact K.st fun _ k => Y.caload hx (j := j) (v := v) (by rw [r1]; exact A.1) (State.isArrayOf_alike hZ.alike A.2.1) A.2.2 g1 g2 (g := mkF m pc ls (.int j :: .ref a :: st)) rfl rfl (X.dc hd) _ k
theorem baload (X : Sd kn Z a0 EL y bytes maxL ret p l e R s m args below meth c n0 sf h kc ks T) {pc n i : Nat} {ls : Array Slot} {st : List Value} {j : Int32} (hd : decode bytes pc = .ok (.baload, 1)) (A : Ark Z h a .byte vs) (hj : j.toInt = i) (hv : vs[i]? = some v) (hn : pc + 1 = n) (K : Run Z EL p e below s n0 fc fs Q (T.setTop (mkF m n ls (v :: st)))) : Run Z EL p e below s n0 fc fs Q (T.setTop (mkF m pc ls (.int j :: .ref a :: st))) := by
  subst hn; obtain ⟨s', L', i', j', Y, r1, hZ, hown, hml, hnm, r3, r4, hx, kN, kE, kW⟩ := X.op
  obtain ⟨c', A, s1, -⟩ := A
  obtain ⟨g1, g2⟩ := arkIn s1 hj hv
  exact K.st fun _ k => Y.baloadBytes hx (j := j) (v := v) (by rw [r1]; exact A.1) (State.isArrayOf_alike hZ.alike A.2.1) A.2.2 g1 g2 (g := mkF m pc ls (.int j :: .ref a :: st)) rfl rfl (X.dc hd) _ k
theorem aaload (X : Sd kn Z a0 EL y bytes maxL ret p l e R s m args below meth c n0 sf h kc ks T) {pc n i : Nat} {ls : Array Slot} {st : List Value} {j : Int32} (hd : decode bytes pc = .ok (.aaload, 1)) (A : Ark Z h a ty vs) (ht : ty.isReference = true) (hj : j.toInt = i) (hv : vs[i]? = some v) (hn : pc + 1 = n) (K : Run Z EL p e below s n0 fc fs Q (T.setTop (mkF m n ls (v :: st)))) : Run Z EL p e below s n0 fc fs Q (T.setTop (mkF m pc ls (.int j :: .ref a :: st))) := by
  subst hn; obtain ⟨s', L', i', j', Y, r1, hZ, hown, hml, hnm, r3, r4, hx, kN, kE, kW⟩ := X.op
  obtain ⟨c', A, s1, -⟩ := A
  obtain ⟨g1, g2⟩ := arkIn s1 hj hv
  exact K.st fun _ k => Y.aaload hx (j := j) (v := v) (by rw [r1]; exact A.1) (State.isArrayOf_alike hZ.alike A.2.1) ht A.2.2 g1 g2 (g := mkF m pc ls (.int j :: .ref a :: st)) rfl rfl (X.dc hd) _ k
theorem arraylength (X : Sd kn Z a0 EL y bytes maxL ret p l e R s m args below meth c n0 sf h kc ks T) {pc n : Nat} {ls : Array Slot} {st : List Value} {z : Int32} (hd : decode bytes pc = .ok (.arraylength, 1)) (A : Ark Z h a ty vs) (hz : vs.length.toInt32 = z) (hn : pc + 1 = n) (K : Run Z EL p e below s n0 fc fs Q (T.setTop (mkF m n ls (.int z :: st)))) : Run Z EL p e below s n0 fc fs Q (T.setTop (mkF m pc ls (.ref a :: st))) := by
  subst hn hz; obtain ⟨s', L', i', j', Y, r1, hZ, hown, hml, hnm, r3, r4, hx, kN, kE, kW⟩ := X.op
  obtain ⟨c', A, s1, -⟩ := A
  have e1 : c'.slots.size = vs.length := by rw [s1]; simp
  exact K.st fun _ k => Y.arraylength hx (by rw [r1]; exact A.1) (State.isArrayOf_alike hZ.alike A.2.1) (g := mkF m pc ls (.ref a :: st)) rfl rfl (X.dc hd) _ (by rw [e1]; exact k)
theorem Ark.set {c' : Cell} (A : Arr Z h a c' ty) (s1 : c'.slots = vs.toArray) (s2 : vs.length < 2147483648) (s3 : ∀ v ∈ vs, fits ty v = true) {i : Nat} (hv : fits ty v = true) (W : Wr h h' a i v) : Ark Z h' a ty (vs.set i v) := by
  refine ⟨_, A.same W, by simp [Cell.setSlot, s1], by simpa using s2, fun u hu => ?_⟩
  rcases List.mem_or_eq_of_mem_set hu with q | q
  · exact s3 u q
  · exact q ▸ hv
theorem iastore (X : Sd kn Z a0 EL y bytes maxL ret p l e R s m args below meth c n0 sf h kc ks T) {pc n i : Nat} {ls : Array Slot} {st : List Value} {j x z : Int32} (hd : decode bytes pc = .ok (.iastore, 1)) (A : Ark Z h a .int vs) (hj : j.toInt = i) (hi : i < vs.length) (hz : x = z) (hfr : n0 ≤ a) (hs : a ∈ sf) (hn : pc + 1 = n) (K : ∀ T' h', Sd kn Z a0 EL y bytes maxL ret p l e R s m args below meth c n0 sf h' kc ks T' → Wr h h' a i (.int z) → Ark Z h' a .int (vs.set i (.int z)) → Run Z EL p e below s n0 fc fs Q (T'.setTop (mkF m n ls st))) : Run Z EL p e below s n0 fc fs Q (T.setTop (mkF m pc ls (.int x :: .int j :: .ref a :: st))) := by
  subst hn hz; obtain ⟨s', L', i', j', Y, r1, hZ, hown, hml, hnm, r3, r4, hx, kN, kE, kW⟩ := X.op
  obtain ⟨c', A, s1, s2, s3⟩ := A
  obtain ⟨g1, -⟩ := arkIn s1 hj (List.getElem?_eq_getElem hi)
  obtain ⟨T', h', Y', e', W, stp⟩ := stI Y hx hZ r1 A g1 (g := mkF m pc ls (.int x :: .int j :: .ref a :: st)) rfl rfl (X.dc hd)
  rw [(toNatC hj).1] at W Y'
  exact (K T' h' (kW T' h' a i _ hs hfr Y' e' W) W (Ark.set A s1 s2 s3 rfl W)).st stp
theorem castore (X : Sd kn Z a0 EL y bytes maxL ret p l e R s m args below meth c n0 sf h kc ks T) {pc n i : Nat} {ls : Array Slot} {st : List Value} {j x z : Int32} (hd : decode bytes pc = .ok (.castore, 1)) (A : Ark Z h a .char vs) (hj : j.toInt = i) (hi : i < vs.length) (hz : (nar .char x) = z) (hfr : n0 ≤ a) (hs : a ∈ sf) (hn : pc + 1 = n) (K : ∀ T' h', Sd kn Z a0 EL y bytes maxL ret p l e R s m args below meth c n0 sf h' kc ks T' → Wr h h' a i (.int z) → Ark Z h' a .char (vs.set i (.int z)) → Run Z EL p e below s n0 fc fs Q (T'.setTop (mkF m n ls st))) : Run Z EL p e below s n0 fc fs Q (T.setTop (mkF m pc ls (.int x :: .int j :: .ref a :: st))) := by
  subst hn hz; obtain ⟨s', L', i', j', Y, r1, hZ, hown, hml, hnm, r3, r4, hx, kN, kE, kW⟩ := X.op
  obtain ⟨c', A, s1, s2, s3⟩ := A
  obtain ⟨g1, -⟩ := arkIn s1 hj (List.getElem?_eq_getElem hi)
  obtain ⟨T', h', Y', e', W, stp⟩ := stC Y hx hZ r1 A g1 (g := mkF m pc ls (.int x :: .int j :: .ref a :: st)) rfl rfl (X.dc hd)
  rw [(toNatC hj).1] at W Y'
  exact (K T' h' (kW T' h' a i _ hs hfr Y' e' W) W (Ark.set A s1 s2 s3 (fits_nar_char _) W)).st stp
theorem bastore (X : Sd kn Z a0 EL y bytes maxL ret p l e R s m args below meth c n0 sf h kc ks T) {pc n i : Nat} {ls : Array Slot} {st : List Value} {j x z : Int32} (hd : decode bytes pc = .ok (.bastore, 1)) (A : Ark Z h a .byte vs) (hj : j.toInt = i) (hi : i < vs.length) (hz : (nar .byte x) = z) (hfr : n0 ≤ a) (hs : a ∈ sf) (hn : pc + 1 = n) (K : ∀ T' h', Sd kn Z a0 EL y bytes maxL ret p l e R s m args below meth c n0 sf h' kc ks T' → Wr h h' a i (.int z) → Ark Z h' a .byte (vs.set i (.int z)) → Run Z EL p e below s n0 fc fs Q (T'.setTop (mkF m n ls st))) : Run Z EL p e below s n0 fc fs Q (T.setTop (mkF m pc ls (.int x :: .int j :: .ref a :: st))) := by
  subst hn hz; obtain ⟨s', L', i', j', Y, r1, hZ, hown, hml, hnm, r3, r4, hx, kN, kE, kW⟩ := X.op
  obtain ⟨c', A, s1, s2, s3⟩ := A
  obtain ⟨g1, -⟩ := arkIn s1 hj (List.getElem?_eq_getElem hi)
  obtain ⟨T', h', Y', e', W, stp⟩ := stB Y hx hZ r1 A g1 (g := mkF m pc ls (.int x :: .int j :: .ref a :: st)) rfl rfl (X.dc hd)
  rw [(toNatC hj).1] at W Y'
  exact (K T' h' (kW T' h' a i _ hs hfr Y' e' W) W (Ark.set A s1 s2 s3 (fits_nar_byte _) W)).st stp
theorem newarray (X : Sd kn Z a0 EL y bytes maxL ret p l e R s m args below meth c n0 sf h kc ks T) {pc n len cap : Nat} {ls : Array Slot} {st : List Value} {k : Int32} {aty : ArrayType} (hd : decode bytes pc = .ok (.newarray aty, 2)) (w : (Cond.arrayClass (newarray.typeOf aty)).before a0 Z = true) (hk : k.toInt = len) (hcap : len ≤ cap) (hb : cap * 8 ≤ 536870912) (hc : kc + 1 ≤ R.cells) (hl : ks + cap ≤ R.slots) (hn : pc + 2 = n) (K : ∀ T' h' a, a = h.size → Sd kn Z a0 EL y bytes maxL ret p l e R s m args below meth c n0 (a :: sf) h' (kc + 1) (ks + cap) T' → Ext h h' → Ark Z h' a (newarray.typeOf aty) (List.replicate len (defaultValue (newarray.typeOf aty))) → Run Z EL p e below s n0 fc fs Q (T'.setTop (mkF m n ls (.ref a :: st)))) : Run Z EL p e below s n0 fc fs Q (T.setTop (mkF m pc ls (.int k :: st))) := by
  subst hn; obtain ⟨s', L', i', j', Y, r1, hZ, hown, hml, hnm, r3, r4, hx, kN, kE, kW⟩ := X.op
  obtain ⟨g1, g2⟩ := toNatC hk
  obtain ⟨T', h', cA, Y', e', E, A, stp⟩ := newP Y hx hZ w r1 (g := mkF m pc ls (.int k :: st)) rfl (X.dc hd) rfl g2 (cap := cap) (by omega) hb (by omega) (by omega)
  have hA : Ark Z h' h.size (newarray.typeOf aty) (List.replicate len (defaultValue (newarray.typeOf aty))) := by
    refine ⟨_, A, by simp [newA, g1], by simp; omega, fun v hv => ?_⟩
    rw [List.eq_of_mem_replicate hv]; cases aty <;> rfl
  exact (K T' h' _ rfl (kE T' h' 1 cap Y' e' E hA.lt) E hA).st stp
theorem new (X : Sd kn Z a0 EL y bytes maxL ret p l e R s m args below meth c n0 sf h kc ks T) {pc n index k : Nat} {ls : Array Slot} {st : List Value} (hd : decode bytes pc = .ok (.new index, 3)) (w : (Cond.classLink y.cls index C).before a0 Z = true) (wi : (Cond.instantiable C k).before a0 Z = true) (wz : (Cond.initialized C).before a0 Z = true) (hc : kc + 1 ≤ R.cells) (hl : ks + k ≤ R.slots) (hn : pc + 3 = n) (K : ∀ T' h' a, a = h.size → Sd kn Z a0 EL y bytes maxL ret p l e R s m args below meth c n0 (a :: sf) h' (kc + 1) (ks + k) T' → Ext h h' → Exa Z h' a C → (∀ {O nm d : String} {ty : FieldType}, Laid Z a0 C O nm d → parseFieldDescriptor d = some ty → Fld Z h' a O nm d (defaultValue ty)) → Unt h' a → Run Z EL p e below s n0 fc fs Q (T'.setTop (mkF m n ls (.ref a :: st)))) : Run Z EL p e below s n0 fc fs Q (T.setTop (mkF m pc ls st)) := by
  subst hn; obtain ⟨s', L', i', j', Y, r1, hZ, hown, hml, hnm, r3, r4, hx, kN, kE, kW⟩ := X.op
  obtain ⟨T', h', Y', e', E, A, D, U, stp⟩ := newO Y hx hZ hown w wi wz r1 (g := mkF m pc ls st) rfl (X.dc hd) (by omega) (by omega)
  exact (K T' h' _ rfl (kE T' h' 1 k Y' e' E A.lt) E A D U).st stp
theorem putfield (X : Sd kn Z a0 EL y bytes maxL ret p l e R s m args below meth c n0 sf h kc ks T) {pc n index k : Nat} {ls : Array Slot} {st : List Value} {R0 O : String} {v' old : Value} (hd : decode bytes pc = .ok (.putfield index, 3)) (w : (Cond.fieldLink y.cls index R0 f d).before a0 Z = true) (via : Via Z R0 O f d) (F : Fld Z h a O f d old) (E : Exa Z h a C) (L : (Cond.lays C O f d).before a0 Z = true ∨ ((Cond.laysFinal C O f d).before a0 Z = true ∧ y.cls = O ∧ y.name = "<init>")) (wi : (Cond.instantiable C k).before a0 Z = true) (hty : parseFieldDescriptor d = some ty) (hv : narrow ty v = v') (hf : fits ty v' = true) (hfr : n0 ≤ a) (hs : a ∈ sf) (hn : pc + 3 = n) (K : ∀ T' h', Sd kn Z a0 EL y bytes maxL ret p l e R s m args below meth c n0 sf h' kc ks T' → Wr h h' a (RoadKit.slotOf Z O f d) v' → Fld Z h' a O f d v' → Run Z EL p e below s n0 fc fs Q (T'.setTop (mkF m n ls st))) : Run Z EL p e below s n0 fc fs Q (T.setTop (mkF m pc ls (v :: .ref a :: st))) := by
  subst hn; obtain ⟨s', L', i', j', Y, r1, hZ, hown, hml, hnm, r3, r4, hx, kN, kE, kW⟩ := X.op
  obtain ⟨T', h', Y', e', W, stp⟩ := putFN Y hx hZ hown w via r1 F E (L.imp id fun z => ⟨z.1, z.2.1, hnm.trans z.2.2⟩) wi hty hv hf (g := mkF m pc ls (v :: .ref a :: st)) rfl rfl (X.dc hd)
  exact (K T' h' (kW T' h' a _ _ hs hfr Y' e' W) W (F.same W)).st stp
theorem clone (X : Sd kn Z a0 EL y bytes maxL ret p l e R s m args below meth c n0 sf h kc ks T) {pc n index W cap : Nat} {ls : Array Slot} {st : List Value} {ad : String} (hd : decode bytes pc = .ok (.invokevirtual index, 3)) (w1 : (Cond.methodLink y.cls index ⟨ad, "clone", "()Ljava/lang/Object;"⟩).before a0 Z = true) (w2 : (Cond.sameMethod ad "java/lang/Object" "clone" "()Ljava/lang/Object;").before a0 Z = true) (w3 : (Cond.native ⟨"java/lang/Object", "clone", "()Ljava/lang/Object;"⟩).before a0 Z = true) (w4 : (Cond.instanceMethod ⟨"java/lang/Object", "clone", "()Ljava/lang/Object;"⟩).before a0 Z = true) (w5 : (Cond.selects ad ⟨ad, "clone", "()Ljava/lang/Object;"⟩ ⟨"java/lang/Object", "clone", "()Ljava/lang/Object;"⟩).before a0 Z = true) (w6 : (Cond.castable ad "java/lang/Cloneable").before a0 Z = true) (A : Ark Z h a ty vs) (E : Exa Z h a ad) (hsize : ls.size = maxL) (hf : 1 ≤ R.frames) (hW : (st.map fun v => v.category).sum ≤ W) (hl : W + 14 ≤ R.locals) (hcap : vs.length ≤ cap) (hc : kc + 1 ≤ R.cells) (hsl : ks + cap ≤ R.slots) (hn : pc + 3 = n) (K : ∀ T' h' b, b = h.size → Sd kn Z a0 EL y bytes maxL ret p l e R s m args below meth c n0 (b :: sf) h' (kc + 1) (ks + cap) T' → Ext h h' → Ark Z h' b ty vs → Exa Z h' b ad → Run Z EL p e below s n0 fc fs Q (T'.setTop (mkF m n ls (.ref b :: st)))) : Run Z EL p e below s n0 fc fs Q (T.setTop (mkF m pc ls (.ref a :: st))) := by
  subst hn; obtain ⟨s', L', i', j', Y, r1, hZ, hown, hml, hnm, r3, r4, hx, kN, kE, kW⟩ := X.op
  obtain ⟨c', A, s1, s2, s3⟩ := A
  have e1 : c'.slots.size = vs.length := by rw [s1]; simp
  have FC : FitC Z c' := fitC_of A fun i hi v hv => by
    rw [s1] at hv
    exact s3 v (List.mem_of_getElem? (i := i) (by simpa using hv))
  obtain ⟨T', h', Y', e', ex, A', E', stp⟩ := cloneA Y hx hZ hown w1 w2 w3 w4 w5 w6 r1 A E FC (g := mkF m pc ls (.ref a :: st)) rfl (by rw [hml]; exact hsize) rfl (X.dc hd) hf (W := W) (cap := cap) (by simpa using hW) hl (by rw [e1]; exact hcap) (by omega) (by omega)
  exact (K T' h' _ rfl (kE T' h' 1 cap Y' e' ex A'.lt) ex ⟨_, A', s1, s2, s3⟩ E').st stp
theorem ldcS (X : Sd kn Z a0 EL y bytes maxL ret p l e R s m args below meth c n0 sf h kc ks T) {pc n index nn : Nat} {ls : Array Slot} {st : List Value} {text : String} {bs : List Int32} (hd : decode bytes pc = .ok (.ldc index, 2)) (w : (Cond.stringLink y.cls index text).before a0 Z = true) (wS : ∀ a ∈ Bundle.stringAtoms, a.before a0 Z = true) (hmem : (y.cls, index) ∈ EL) (ht : (∀ c ∈ text.toList, c.toNat < 256) ∧ text.toList.map (fun c => Value.int (Jvm.Lit.byteI c.toNat.toUInt16)) = bs.map Value.int) (hlt : bs.length < 2147483648) (hn4 : 4 * text.toList.length ≤ nn) (hbig : nn ≤ 536870912) (hc : kc + 2 ≤ R.cells) (hl : ks + (nn + 4) ≤ R.slots) (hn : pc + 2 = n) (K : ∀ T' h' a b, Sd kn Z a0 EL y bytes maxL ret p l e R s m args below meth c n0 sf h' (kc + 2) (ks + (nn + 4)) T' → Ext h h' → Exa Z h' a "java/lang/String" → Fld Z h' a "java/lang/String" "coder" "B" (.int 0) → Fld Z h' a "java/lang/String" "value" "[B" (.ref b) → Ark Z h' b .byte (bs.map Value.int) → (∀ x ∈ sf, x ≠ a ∧ x ≠ b) → Run Z EL p e below s n0 fc fs Q (T'.setTop (mkF m n ls (.ref a :: st)))) : Run Z EL p e below s n0 fc fs Q (T.setTop (mkF m pc ls st)) := by
  subst hn
  have hdc := X.dc hd
  obtain ⟨vm0, k0, q, ⟨hS, hk, hE, hC, hs, hkn⟩, L, i, j, Y, r1, r2, r3, r4⟩ := X
  have hz : (bs.length.toInt32).toInt = bs.length := Int32.toInt_ofNat_small hlt
  obtain ⟨a, T', h', k1, b, k, Y', e', E, hS', hk', hZ', hown', g1, g2, g3, g4, g5, g6, hC', hL, hne, stp⟩ := ldcCH Y q.1 q.2.1 q.2.2.2.2.2.2.1 w wS r1 hS hk hE hmem hC.1 ht (z := bs.length.toInt32) (toNatC hz).2 (by rw [(toNatC hz).1]; simp) (g := mkF m pc ls st) rfl hdc hn4 hbig (by omega) (by omega)
  have hal : vm0.Alike T'.vm := by have z := hS.1.alike; have z' := hS'.1.alike; exact z.symm.trans z'
  refine (K T' h' a b ⟨T'.vm, k1, ⟨q.1, hZ', q.2.2.1, q.2.2.2.1, q.2.2.2.2.1, q.2.2.2.2.2.1, hown', q.2.2.2.2.2.2.2⟩, ⟨hS', hk', hE, hC.trans hC', fun x hx => ⟨hC'.safe (hs x hx).2 (hs x hx).1, Nat.lt_of_lt_of_le (hs x hx).2 E.1⟩, fun hh => ?_⟩, _, _, _, Y', e', r2, by omega, by omega⟩ E g1 g2 g3 (Ark.ofArv g4 (by rw [(toNatC hz).1]; simp)) (fun x hx => hne x (hC'.safe (hs x hx).2 (hs x hx).1))).st stp
  exact ⟨Vm.MethodsKnown.alikeC hal (hkn hh).1, FKalike hal (hkn hh).2⟩
theorem lenA {d : String} {ps : List FieldType} {r : Option FieldType} (hd : parseMethodDescriptor d = some ⟨ps, r⟩) {L : List Value} (hl : L.length = ps.length) : ∀ sig, parseMethodDescriptor d = some sig → L.length = sig.parameters.length := lenOf hd hl
theorem ctrBack {z : MethodName} {ybytes : ByteArray} {yL : Nat} {yret : Option FieldType} {rm : Room} {sfc : List Addr} {as : Array Value} {Qc : Option Value → Heap → List Addr → Prop} {len W : Nat} {vm0 : Vm} (hC : Ctr kn l Z EL z ybytes yL yret [] rm n0 sfc as h Qc) (hZ : Z.Warmed39 vm0) (wc : (Cond.code z ybytes yL yret).before a0 Z = true) (wz : (Cond.initialized z.cls).before a0 Z = true) (hf : rm.frames + 1 ≤ R.frames) (hl : W + (yL + 11) + rm.locals ≤ R.locals) (hEL : EW Z a0 EL) (H : CHv Z EL vm0 h) (hs : ∀ x ∈ sfc, Safe Z EL vm0 h x ∧ x < h.size) (hkn : kn → vm0.MethodsKnown ∧ vm0.FramesKnown below) :
    BackS l R p e below (s.setVm vm0) args z len W (fun A a => a = as ∧ A.U.heap = h ∧ A.cells + rm.cells ≤ R.cells ∧ A.slots + rm.slots ≤ R.slots) (fun A _ v B => ∃ L, (∃ sfn, Qc v B.U.heap sfn ∧ (∀ x ∈ sfn, Safe Z EL B.U.vm B.U.heap x ∧ x < B.U.heap.size) ∧ Fr n0 L) ∧ B.locs = A.locs ++ L ∧ B.cells = A.cells + rm.cells ∧ B.slots = A.slots + rm.slots ∧ CHr Z EL vm0 h B.U.vm B.U.heap) :=
  BackS.of_freeWG (bytes := ybytes) (maxL := yL) (ret := yret) (E := fun _ first o t L k n => k = rm.cells ∧ n = rm.slots ∧ (∃ v, o = .returned v ∧ ∃ sfn, Qc v t.heap sfn ∧ (∀ x ∈ sfn, Safe Z EL t.vm t.heap x ∧ x < t.heap.size) ∧ Fr n0 L) ∧ CHr Z EL first.vm first.heap t.vm t.heap) hC hf hl
    (fun m meth c A a Y hp => have hU : Z.Warmed39 A.U.vm := wtrans (s := s.setVm vm0) hZ Y.warmed
      ⟨by show (Cond.and _ .tt).before a A.U = true; rw [Cond.before_and, mv hU wc]; rfl, mv hU wc, mv hU wz, hp.2.2.1, hp.2.2.2⟩)
    (fun m meth c A a g mk Y hp => have hA := CHv.at Y hZ hEL H
      ⟨hp.1, wtrans (s := s.setVm vm0) hZ Y.warmed, hp.2.1, hA.1, fun x hx => ⟨hA.safe (hs x hx).2 (hs x hx).1, (hs x hx).2⟩⟩)
    (fun m meth c A a g mk Y _ hg hh => known_frames Y hg (hkn hh).1 (hkn hh).2)
    (fun _ _ _ _ ⟨v, L, h1, h2, h3, h4⟩ => ⟨L, _, _, h4, rfl, rfl, ⟨v, h1, h2⟩, h3⟩)
    (fun m meth c A a g mk v t L k n Y hp _ _ ⟨e1, e2, ⟨v', e3, e4⟩, e5⟩ => by
      cases e3; subst e1 e2
      refine ⟨L, e4, rfl, rfl, rfl, (CHv.at Y hZ hEL H).trans ?_⟩
      rw [← hp.2.1]; exact e5)
theorem call_static (X : Sd kn Z a0 EL y bytes maxL ret p l e R s m args below meth c n0 sf h kc ks T) {rm : Room} {ybytes : ByteArray} {yL : Nat} {yret : Option FieldType} {z : MethodName} {sfc : List Addr} {Qc : Option Value → Heap → List Addr → Prop} {pc n index W : Nat} {ls : Array Slot} {st rest argsL : List Value} (hd : decode bytes pc = .ok (.invokestatic index, 3)) (w1 : (Cond.methodLink y.cls index z).before a0 Z = true) (w2 : (Cond.static z).before a0 Z = true) (wc : (Cond.code z ybytes yL yret).before a0 Z = true) (wi : (Cond.initialized z.cls).before a0 Z = true) (hy : z.cls ≠ "java/lang/invoke/MethodHandle" ∧ z.cls ≠ "java/lang/invoke/VarHandle") (hC : Ctr kn l Z EL z ybytes yL yret [] rm n0 sfc argsL.toArray h Qc) (hsf : ∀ x ∈ sfc, x ∈ sf) (hst : st = argsL.reverse ++ rest) (hsize : ls.size = maxL) (hlen : ∀ sig, parseMethodDescriptor z.desc = some sig → argsL.length = sig.parameters.length) (hW : (rest.map fun v => v.category).sum ≤ W) (hfr : rm.frames + 1 ≤ R.frames) (hlo : W + (yL + 11) + rm.locals ≤ R.locals) (hce : kc + rm.cells ≤ R.cells) (hsl : ks + rm.slots ≤ R.slots) (hn : pc + 3 = n) (K : ∀ T' h' v sfn, h.size ≤ h'.size → Sd kn Z a0 EL y bytes maxL ret p l e R s m args below meth c n0 (sf ++ sfn) h' (kc + rm.cells) (ks + rm.slots) T' → Qc v h' sfn → Run Z EL p e below s n0 fc fs Q (T'.setTop (mkF m n ls (v.toList ++ rest)))) : Run Z EL p e below s n0 fc fs Q (T.setTop (mkF m pc ls st)) := by
  subst hn hst
  have hdc := X.dc hd
  obtain ⟨vm0, k0, q, ⟨hS, hk, hE, hCr, hs, hkn⟩, L, i, j, Y, r1, r2, r3, r4⟩ := X
  have hB := ctrBack (W := W) (R := R) (p := p) (e := e) (s := s) (below := below) (args := args) (len := 3) (vm0 := vm0) hC q.2.1 wc wi hfr hlo hE hCr.1 (fun x hx => hs x (hsf x hx)) hkn
  have hZ : Z.Warmed39 (s.setVm vm0).vm := q.2.1
  have hown : (s.setVm vm0).vm.findClass y.cls = some m.cls := q.2.2.2.2.2.2.1
  obtain ⟨v, vm₁, ⟨T', L', k', n'⟩, -, Y', S', g', ⟨Lc, hQ, l', y', z', C'⟩, stp⟩ := callSS Y q.1 (y := z) hown (mvT hZ w1) (mvT hZ w2) (mvT hZ wi) (mvT hZ wc) hy hB (g := mkF m pc ls (argsL.reverse ++ rest)) rfl (by rw [q.2.2.2.1]; exact hsize) (argsL := argsL) (rest := rest) hlen rfl (by simpa using hW) hdc (fun _ _ => ⟨rfl, r1, by dsimp only [Pt.cells]; omega, by dsimp only [Pt.slots]; omega⟩)
  dsimp only [Pt.U, Pt.locs, Pt.cells, Pt.slots] at Y' l' y' z' stp hQ S' g' C'
  obtain ⟨sfn, hQ1, hQs, hQ2⟩ := hQ
  subst l' y' z'
  obtain ⟨Y2, S2, Z2, O2⟩ := rebS hS hk Y' S' (by rw [← r1]; exact g') hZ hown
  have hal : vm0.Alike T'.vm := S'.1.alike
  refine (K T' T'.heap v sfn (by rw [← r1]; exact g') ⟨T'.vm, T'.heap.size, ⟨q.1, Z2, q.2.2.1, q.2.2.2.1, q.2.2.2.2.1, q.2.2.2.2.2.1, O2, q.2.2.2.2.2.2.2⟩, ⟨S2, Nat.le_refl _, hE, hCr.trans C', ?_, fun hh => ⟨Vm.MethodsKnown.alikeC hal (hkn hh).1, FKalike hal (hkn hh).2⟩⟩, _, _, _, Y2, rfl, Fr.app r2 hQ2, by omega, by omega⟩ hQ1).st fun t k => stp.trans k
  intro x hx
  rcases List.mem_append.mp hx with hx | hx
  · exact ⟨C'.safe (hs x hx).2 (hs x hx).1, Nat.lt_of_lt_of_le (hs x hx).2 (by rw [← r1]; exact g')⟩
  · exact hQs x hx
theorem call_static_v (X : Sd kn Z a0 EL y bytes maxL ret p l e R s m args below meth c n0 sf h kc ks T) {rm : Room} {ybytes : ByteArray} {yL : Nat} {yret : Option FieldType} {z : MethodName} {sfc : List Addr} {Qv : Value → Heap → List Addr → Prop} {pc n index W : Nat} {ls : Array Slot} {st rest argsL : List Value} (hd : decode bytes pc = .ok (.invokestatic index, 3)) (w1 : (Cond.methodLink y.cls index z).before a0 Z = true) (w2 : (Cond.static z).before a0 Z = true) (wc : (Cond.code z ybytes yL yret).before a0 Z = true) (wi : (Cond.initialized z.cls).before a0 Z = true) (hy : z.cls ≠ "java/lang/invoke/MethodHandle" ∧ z.cls ≠ "java/lang/invoke/VarHandle") (hC : Ctr kn l Z EL z ybytes yL yret [] rm n0 sfc argsL.toArray h (Rt Qv)) (hsf : ∀ x ∈ sfc, x ∈ sf) (hst : st = argsL.reverse ++ rest) (hsize : ls.size = maxL) (hlen : ∀ sig, parseMethodDescriptor z.desc = some sig → argsL.length = sig.parameters.length) (hW : (rest.map fun v => v.category).sum ≤ W) (hfr : rm.frames + 1 ≤ R.frames) (hlo : W + (yL + 11) + rm.locals ≤ R.locals) (hce : kc + rm.cells ≤ R.cells) (hsl : ks + rm.slots ≤ R.slots) (hn : pc + 3 = n) (K : ∀ T' h' w sfn, h.size ≤ h'.size → Sd kn Z a0 EL y bytes maxL ret p l e R s m args below meth c n0 (sf ++ sfn) h' (kc + rm.cells) (ks + rm.slots) T' → Qv w h' sfn → Run Z EL p e below s n0 fc fs Q (T'.setTop (mkF m n ls (w :: rest)))) : Run Z EL p e below s n0 fc fs Q (T.setTop (mkF m pc ls st)) :=
  call_static X hd w1 w2 wc wi hy hC hsf hst hsize hlen hW hfr hlo hce hsl hn fun T' h' v g hh X' q => by obtain ⟨w, rfl, q⟩ := q; exact K T' h' w g hh X' q
theorem call_static_n (X : Sd kn Z a0 EL y bytes maxL ret p l e R s m args below meth c n0 sf h kc ks T) {rm : Room} {ybytes : ByteArray} {yL : Nat} {yret : Option FieldType} {z : MethodName} {sfc : List Addr} {Qn : Heap → List Addr → Prop} {pc n index W : Nat} {ls : Array Slot} {st rest argsL : List Value} (hd : decode bytes pc = .ok (.invokestatic index, 3)) (w1 : (Cond.methodLink y.cls index z).before a0 Z = true) (w2 : (Cond.static z).before a0 Z = true) (wc : (Cond.code z ybytes yL yret).before a0 Z = true) (wi : (Cond.initialized z.cls).before a0 Z = true) (hy : z.cls ≠ "java/lang/invoke/MethodHandle" ∧ z.cls ≠ "java/lang/invoke/VarHandle") (hC : Ctr kn l Z EL z ybytes yL yret [] rm n0 sfc argsL.toArray h (Rn Qn)) (hsf : ∀ x ∈ sfc, x ∈ sf) (hst : st = argsL.reverse ++ rest) (hsize : ls.size = maxL) (hlen : ∀ sig, parseMethodDescriptor z.desc = some sig → argsL.length = sig.parameters.length) (hW : (rest.map fun v => v.category).sum ≤ W) (hfr : rm.frames + 1 ≤ R.frames) (hlo : W + (yL + 11) + rm.locals ≤ R.locals) (hce : kc + rm.cells ≤ R.cells) (hsl : ks + rm.slots ≤ R.slots) (hn : pc + 3 = n) (K : ∀ T' h' sfn, h.size ≤ h'.size → Sd kn Z a0 EL y bytes maxL ret p l e R s m args below meth c n0 (sf ++ sfn) h' (kc + rm.cells) (ks + rm.slots) T' → Qn h' sfn → Run Z EL p e below s n0 fc fs Q (T'.setTop (mkF m n ls rest))) : Run Z EL p e below s n0 fc fs Q (T.setTop (mkF m pc ls st)) :=
  call_static X hd w1 w2 wc wi hy hC hsf hst hsize hlen hW hfr hlo hce hsl hn fun T' h' v g hh X' q => by obtain ⟨rfl, q⟩ := q; exact K T' h' g hh X' q
theorem call_virtual (X : Sd kn Z a0 EL y bytes maxL ret p l e R s m args below meth c n0 sf h kc ks T) {rm : Room} {ybytes : ByteArray} {yL : Nat} {yret : Option FieldType} {z : MethodName} {sfc : List Addr} {Qc : Option Value → Heap → List Addr → Prop} {pc n index W : Nat} {ls : Array Slot} {st rest argsL : List Value} {a : Addr} {C : String} {yv : MethodName} (hd : decode bytes pc = .ok (.invokevirtual index, 3)) (w1 : (Cond.methodLink y.cls index yv).before a0 Z = true) (w2 : (Cond.declares yv).before a0 Z = true) (w3 : (Cond.instanceMethod z).before a0 Z = true) (w4 : (Cond.selects C yv z).before a0 Z = true) (hnf : ∀ {s' : State}, Z.Warmed39 s'.vm → NotFace s' yv) (wc : (Cond.code z ybytes yL yret).before a0 Z = true) (wi : (Cond.initialized z.cls).before a0 Z = true) (hy : yv.cls ≠ "java/lang/invoke/MethodHandle" ∧ yv.cls ≠ "java/lang/invoke/VarHandle") (E : Exa Z h a C) (hC : Ctr kn l Z EL z ybytes yL yret [] rm n0 sfc (.ref a :: argsL).toArray h Qc) (hsf : ∀ x ∈ sfc, x ∈ sf) (hst : st = argsL.reverse ++ .ref a :: rest) (hsize : ls.size = maxL) (hlen : ∀ sig, parseMethodDescriptor yv.desc = some sig → argsL.length = sig.parameters.length) (hW : (rest.map fun v => v.category).sum ≤ W) (hfr : rm.frames + 1 ≤ R.frames) (hlo : W + (yL + 11) + rm.locals ≤ R.locals) (hce : kc + rm.cells ≤ R.cells) (hsl : ks + rm.slots ≤ R.slots) (hn : pc + 3 = n) (K : ∀ T' h' v sfn, h.size ≤ h'.size → Sd kn Z a0 EL y bytes maxL ret p l e R s m args below meth c n0 (sf ++ sfn) h' (kc + rm.cells) (ks + rm.slots) T' → Qc v h' sfn → Run Z EL p e below s n0 fc fs Q (T'.setTop (mkF m n ls (v.toList ++ rest)))) : Run Z EL p e below s n0 fc fs Q (T.setTop (mkF m pc ls st)) := by
  subst hn hst
  have hdc := X.dc hd
  obtain ⟨vm0, k0, q, ⟨hS, hk, hE, hCr, hs, hkn⟩, L, i, j, Y, r1, r2, r3, r4⟩ := X
  have hB := ctrBack (W := W) (R := R) (p := p) (e := e) (s := s) (below := below) (args := args) (len := 3) (vm0 := vm0) hC q.2.1 wc wi hfr hlo hE hCr.1 (fun x hx => hs x (hsf x hx)) hkn
  have hZ : Z.Warmed39 (s.setVm vm0).vm := q.2.1
  have hown : (s.setVm vm0).vm.findClass y.cls = some m.cls := q.2.2.2.2.2.2.1
  obtain ⟨cq, kq, qa, qb, qc⟩ := isOf (T := T) hZ r1 E
  obtain ⟨v, vm₁, ⟨T', L', k', n'⟩, -, Y', S', g', ⟨Lc, hQ, l', y', z', C'⟩, stp⟩ := Y.virtualBackS q.1 (y := yv) (z := z) hown (mvT hZ w1) (mvT hZ w2) (hnf hZ) (mvT hZ w4) (mvT hZ w3) hy hB qa qc (g := mkF m pc ls (argsL.reverse ++ .ref a :: rest)) rfl (by rw [q.2.2.2.1]; exact hsize) (Steps.refl _) (argsL := argsL) (rest := rest) hlen rfl (by simpa using hW) hdc (fun _ _ => ⟨rfl, r1, by dsimp only [Pt.cells]; omega, by dsimp only [Pt.slots]; omega⟩)
  dsimp only [Pt.U, Pt.locs, Pt.cells, Pt.slots] at Y' l' y' z' stp hQ S' g' C'
  obtain ⟨sfn, hQ1, hQs, hQ2⟩ := hQ
  subst l' y' z'
  obtain ⟨Y2, S2, Z2, O2⟩ := rebS hS hk Y' S' (by rw [← r1]; exact g') hZ hown
  have hal : vm0.Alike T'.vm := S'.1.alike
  refine (K T' T'.heap v sfn (by rw [← r1]; exact g') ⟨T'.vm, T'.heap.size, ⟨q.1, Z2, q.2.2.1, q.2.2.2.1, q.2.2.2.2.1, q.2.2.2.2.2.1, O2, q.2.2.2.2.2.2.2⟩, ⟨S2, Nat.le_refl _, hE, hCr.trans C', ?_, fun hh => ⟨Vm.MethodsKnown.alikeC hal (hkn hh).1, FKalike hal (hkn hh).2⟩⟩, _, _, _, Y2, rfl, Fr.app r2 hQ2, by omega, by omega⟩ hQ1).st fun t k => stp.trans k
  intro x hx
  rcases List.mem_append.mp hx with hx | hx
  · exact ⟨C'.safe (hs x hx).2 (hs x hx).1, Nat.lt_of_lt_of_le (hs x hx).2 (by rw [← r1]; exact g')⟩
  · exact hQs x hx
theorem call_virtual_v (X : Sd kn Z a0 EL y bytes maxL ret p l e R s m args below meth c n0 sf h kc ks T) {rm : Room} {ybytes : ByteArray} {yL : Nat} {yret : Option FieldType} {z : MethodName} {sfc : List Addr} {Qv : Value → Heap → List Addr → Prop} {pc n index W : Nat} {ls : Array Slot} {st rest argsL : List Value} {a : Addr} {C : String} {yv : MethodName} (hd : decode bytes pc = .ok (.invokevirtual index, 3)) (w1 : (Cond.methodLink y.cls index yv).before a0 Z = true) (w2 : (Cond.declares yv).before a0 Z = true) (w3 : (Cond.instanceMethod z).before a0 Z = true) (w4 : (Cond.selects C yv z).before a0 Z = true) (hnf : ∀ {s' : State}, Z.Warmed39 s'.vm → NotFace s' yv) (wc : (Cond.code z ybytes yL yret).before a0 Z = true) (wi : (Cond.initialized z.cls).before a0 Z = true) (hy : yv.cls ≠ "java/lang/invoke/MethodHandle" ∧ yv.cls ≠ "java/lang/invoke/VarHandle") (E : Exa Z h a C) (hC : Ctr kn l Z EL z ybytes yL yret [] rm n0 sfc (.ref a :: argsL).toArray h (Rt Qv)) (hsf : ∀ x ∈ sfc, x ∈ sf) (hst : st = argsL.reverse ++ .ref a :: rest) (hsize : ls.size = maxL) (hlen : ∀ sig, parseMethodDescriptor yv.desc = some sig → argsL.length = sig.parameters.length) (hW : (rest.map fun v => v.category).sum ≤ W) (hfr : rm.frames + 1 ≤ R.frames) (hlo : W + (yL + 11) + rm.locals ≤ R.locals) (hce : kc + rm.cells ≤ R.cells) (hsl : ks + rm.slots ≤ R.slots) (hn : pc + 3 = n) (K : ∀ T' h' w sfn, h.size ≤ h'.size → Sd kn Z a0 EL y bytes maxL ret p l e R s m args below meth c n0 (sf ++ sfn) h' (kc + rm.cells) (ks + rm.slots) T' → Qv w h' sfn → Run Z EL p e below s n0 fc fs Q (T'.setTop (mkF m n ls (w :: rest)))) : Run Z EL p e below s n0 fc fs Q (T.setTop (mkF m pc ls st)) :=
  call_virtual X hd w1 w2 w3 w4 hnf wc wi hy E hC hsf hst hsize hlen hW hfr hlo hce hsl hn fun T' h' v g hh X' q => by obtain ⟨w, rfl, q⟩ := q; exact K T' h' w g hh X' q
theorem call_virtual_n (X : Sd kn Z a0 EL y bytes maxL ret p l e R s m args below meth c n0 sf h kc ks T) {rm : Room} {ybytes : ByteArray} {yL : Nat} {yret : Option FieldType} {z : MethodName} {sfc : List Addr} {Qn : Heap → List Addr → Prop} {pc n index W : Nat} {ls : Array Slot} {st rest argsL : List Value} {a : Addr} {C : String} {yv : MethodName} (hd : decode bytes pc = .ok (.invokevirtual index, 3)) (w1 : (Cond.methodLink y.cls index yv).before a0 Z = true) (w2 : (Cond.declares yv).before a0 Z = true) (w3 : (Cond.instanceMethod z).before a0 Z = true) (w4 : (Cond.selects C yv z).before a0 Z = true) (hnf : ∀ {s' : State}, Z.Warmed39 s'.vm → NotFace s' yv) (wc : (Cond.code z ybytes yL yret).before a0 Z = true) (wi : (Cond.initialized z.cls).before a0 Z = true) (hy : yv.cls ≠ "java/lang/invoke/MethodHandle" ∧ yv.cls ≠ "java/lang/invoke/VarHandle") (E : Exa Z h a C) (hC : Ctr kn l Z EL z ybytes yL yret [] rm n0 sfc (.ref a :: argsL).toArray h (Rn Qn)) (hsf : ∀ x ∈ sfc, x ∈ sf) (hst : st = argsL.reverse ++ .ref a :: rest) (hsize : ls.size = maxL) (hlen : ∀ sig, parseMethodDescriptor yv.desc = some sig → argsL.length = sig.parameters.length) (hW : (rest.map fun v => v.category).sum ≤ W) (hfr : rm.frames + 1 ≤ R.frames) (hlo : W + (yL + 11) + rm.locals ≤ R.locals) (hce : kc + rm.cells ≤ R.cells) (hsl : ks + rm.slots ≤ R.slots) (hn : pc + 3 = n) (K : ∀ T' h' sfn, h.size ≤ h'.size → Sd kn Z a0 EL y bytes maxL ret p l e R s m args below meth c n0 (sf ++ sfn) h' (kc + rm.cells) (ks + rm.slots) T' → Qn h' sfn → Run Z EL p e below s n0 fc fs Q (T'.setTop (mkF m n ls rest))) : Run Z EL p e below s n0 fc fs Q (T.setTop (mkF m pc ls st)) :=
  call_virtual X hd w1 w2 w3 w4 hnf wc wi hy E hC hsf hst hsize hlen hW hfr hlo hce hsl hn fun T' h' v g hh X' q => by obtain ⟨rfl, q⟩ := q; exact K T' h' g hh X' q
theorem call_special (X : Sd kn Z a0 EL y bytes maxL ret p l e R s m args below meth c n0 sf h kc ks T) {rm : Room} {ybytes : ByteArray} {yL : Nat} {yret : Option FieldType} {z : MethodName} {sfc : List Addr} {Qc : Option Value → Heap → List Addr → Prop} {pc n index W : Nat} {ls : Array Slot} {st rest argsL : List Value} {a : Addr} (hd : decode bytes pc = .ok (.invokespecial index, 3)) (w1 : (Cond.methodLink y.cls index z).before a0 Z = true) (w2 : (Cond.instanceMethod z).before a0 Z = true) (wc : (Cond.code z ybytes yL yret).before a0 Z = true) (wi : (Cond.initialized z.cls).before a0 Z = true) (hz : z.name = "<init>") (hr : yret = none) (hy : z.cls ≠ "java/lang/invoke/MethodHandle" ∧ z.cls ≠ "java/lang/invoke/VarHandle") (hC : Ctr kn l Z EL z ybytes yL yret [] rm n0 sfc (.ref a :: argsL).toArray h Qc) (hsf : ∀ x ∈ sfc, x ∈ sf) (hst : st = argsL.reverse ++ .ref a :: rest) (hsize : ls.size = maxL) (hlen : ∀ sig, parseMethodDescriptor z.desc = some sig → argsL.length = sig.parameters.length) (hW : (rest.map fun v => v.category).sum ≤ W) (hfr : rm.frames + 1 ≤ R.frames) (hlo : W + (yL + 11) + rm.locals ≤ R.locals) (hce : kc + rm.cells ≤ R.cells) (hsl : ks + rm.slots ≤ R.slots) (hn : pc + 3 = n) (K : ∀ T' h' v sfn, h.size ≤ h'.size → Sd kn Z a0 EL y bytes maxL ret p l e R s m args below meth c n0 (sf ++ sfn) h' (kc + rm.cells) (ks + rm.slots) T' → Qc v h' sfn → Run Z EL p e below s n0 fc fs Q (T'.setTop (mkF m n ls (v.toList ++ rest)))) : Run Z EL p e below s n0 fc fs Q (T.setTop (mkF m pc ls st)) := by
  subst hn hst
  have hdc := X.dc hd
  obtain ⟨vm0, k0, q, ⟨hS, hk, hE, hCr, hs, hkn⟩, L, i, j, Y, r1, r2, r3, r4⟩ := X
  have hB := ctrBack (W := W) (R := R) (p := p) (e := e) (s := s) (below := below) (args := args) (len := 3) (vm0 := vm0) hC q.2.1 wc wi hfr hlo hE hCr.1 (fun x hx => hs x (hsf x hx)) hkn
  have hZ : Z.Warmed39 (s.setVm vm0).vm := q.2.1
  have hown : (s.setVm vm0).vm.findClass y.cls = some m.cls := q.2.2.2.2.2.2.1
  obtain ⟨v, vm₁, ⟨T', L', k', n'⟩, -, Y', S', g', ⟨Lc, hQ, l', y', z', C'⟩, stp⟩ := Y.specialBackS q.1 (y := z) hz hown (mvT hZ w1) (mvT hZ w2) (mvT hZ (hr ▸ wc)) hy hB (g := mkF m pc ls (argsL.reverse ++ .ref a :: rest)) rfl (by rw [q.2.2.2.1]; exact hsize) (Steps.refl _) (a := a) (argsL := argsL) (rest := rest) hlen rfl (by simpa using hW) hdc (fun _ _ => ⟨rfl, r1, by dsimp only [Pt.cells]; omega, by dsimp only [Pt.slots]; omega⟩)
  dsimp only [Pt.U, Pt.locs, Pt.cells, Pt.slots] at Y' l' y' z' stp hQ S' g' C'
  obtain ⟨sfn, hQ1, hQs, hQ2⟩ := hQ
  subst l' y' z'
  obtain ⟨Y2, S2, Z2, O2⟩ := rebS hS hk Y' S' (by rw [← r1]; exact g') hZ hown
  have hal : vm0.Alike T'.vm := S'.1.alike
  refine (K T' T'.heap v sfn (by rw [← r1]; exact g') ⟨T'.vm, T'.heap.size, ⟨q.1, Z2, q.2.2.1, q.2.2.2.1, q.2.2.2.2.1, q.2.2.2.2.2.1, O2, q.2.2.2.2.2.2.2⟩, ⟨S2, Nat.le_refl _, hE, hCr.trans C', ?_, fun hh => ⟨Vm.MethodsKnown.alikeC hal (hkn hh).1, FKalike hal (hkn hh).2⟩⟩, _, _, _, Y2, rfl, Fr.app r2 hQ2, by omega, by omega⟩ hQ1).st fun t k => stp.trans k
  intro x hx
  rcases List.mem_append.mp hx with hx | hx
  · exact ⟨C'.safe (hs x hx).2 (hs x hx).1, Nat.lt_of_lt_of_le (hs x hx).2 (by rw [← r1]; exact g')⟩
  · exact hQs x hx
theorem call_special_v (X : Sd kn Z a0 EL y bytes maxL ret p l e R s m args below meth c n0 sf h kc ks T) {rm : Room} {ybytes : ByteArray} {yL : Nat} {yret : Option FieldType} {z : MethodName} {sfc : List Addr} {Qv : Value → Heap → List Addr → Prop} {pc n index W : Nat} {ls : Array Slot} {st rest argsL : List Value} {a : Addr} (hd : decode bytes pc = .ok (.invokespecial index, 3)) (w1 : (Cond.methodLink y.cls index z).before a0 Z = true) (w2 : (Cond.instanceMethod z).before a0 Z = true) (wc : (Cond.code z ybytes yL yret).before a0 Z = true) (wi : (Cond.initialized z.cls).before a0 Z = true) (hz : z.name = "<init>") (hr : yret = none) (hy : z.cls ≠ "java/lang/invoke/MethodHandle" ∧ z.cls ≠ "java/lang/invoke/VarHandle") (hC : Ctr kn l Z EL z ybytes yL yret [] rm n0 sfc (.ref a :: argsL).toArray h (Rt Qv)) (hsf : ∀ x ∈ sfc, x ∈ sf) (hst : st = argsL.reverse ++ .ref a :: rest) (hsize : ls.size = maxL) (hlen : ∀ sig, parseMethodDescriptor z.desc = some sig → argsL.length = sig.parameters.length) (hW : (rest.map fun v => v.category).sum ≤ W) (hfr : rm.frames + 1 ≤ R.frames) (hlo : W + (yL + 11) + rm.locals ≤ R.locals) (hce : kc + rm.cells ≤ R.cells) (hsl : ks + rm.slots ≤ R.slots) (hn : pc + 3 = n) (K : ∀ T' h' w sfn, h.size ≤ h'.size → Sd kn Z a0 EL y bytes maxL ret p l e R s m args below meth c n0 (sf ++ sfn) h' (kc + rm.cells) (ks + rm.slots) T' → Qv w h' sfn → Run Z EL p e below s n0 fc fs Q (T'.setTop (mkF m n ls (w :: rest)))) : Run Z EL p e below s n0 fc fs Q (T.setTop (mkF m pc ls st)) :=
  call_special X hd w1 w2 wc wi hz hr hy hC hsf hst hsize hlen hW hfr hlo hce hsl hn fun T' h' v g hh X' q => by obtain ⟨w, rfl, q⟩ := q; exact K T' h' w g hh X' q
theorem call_special_n (X : Sd kn Z a0 EL y bytes maxL ret p l e R s m args below meth c n0 sf h kc ks T) {rm : Room} {ybytes : ByteArray} {yL : Nat} {yret : Option FieldType} {z : MethodName} {sfc : List Addr} {Qn : Heap → List Addr → Prop} {pc n index W : Nat} {ls : Array Slot} {st rest argsL : List Value} {a : Addr} (hd : decode bytes pc = .ok (.invokespecial index, 3)) (w1 : (Cond.methodLink y.cls index z).before a0 Z = true) (w2 : (Cond.instanceMethod z).before a0 Z = true) (wc : (Cond.code z ybytes yL yret).before a0 Z = true) (wi : (Cond.initialized z.cls).before a0 Z = true) (hz : z.name = "<init>") (hr : yret = none) (hy : z.cls ≠ "java/lang/invoke/MethodHandle" ∧ z.cls ≠ "java/lang/invoke/VarHandle") (hC : Ctr kn l Z EL z ybytes yL yret [] rm n0 sfc (.ref a :: argsL).toArray h (Rn Qn)) (hsf : ∀ x ∈ sfc, x ∈ sf) (hst : st = argsL.reverse ++ .ref a :: rest) (hsize : ls.size = maxL) (hlen : ∀ sig, parseMethodDescriptor z.desc = some sig → argsL.length = sig.parameters.length) (hW : (rest.map fun v => v.category).sum ≤ W) (hfr : rm.frames + 1 ≤ R.frames) (hlo : W + (yL + 11) + rm.locals ≤ R.locals) (hce : kc + rm.cells ≤ R.cells) (hsl : ks + rm.slots ≤ R.slots) (hn : pc + 3 = n) (K : ∀ T' h' sfn, h.size ≤ h'.size → Sd kn Z a0 EL y bytes maxL ret p l e R s m args below meth c n0 (sf ++ sfn) h' (kc + rm.cells) (ks + rm.slots) T' → Qn h' sfn → Run Z EL p e below s n0 fc fs Q (T'.setTop (mkF m n ls rest))) : Run Z EL p e below s n0 fc fs Q (T.setTop (mkF m pc ls st)) :=
  call_special X hd w1 w2 wc wi hz hr hy hC hsf hst hsize hlen hW hfr hlo hce hsl hn fun T' h' v g hh X' q => by obtain ⟨rfl, q⟩ := q; exact K T' h' g hh X' q
theorem joinT (X : Sd kn Z a0 EL y bytes maxL ret p l e R s m args below meth c n0 sf h kc ks T) {α : Type} (P : α → Prop) (f : α → JFrame) {t : State} (J : ∀ T' v, Sd kn Z a0 EL y bytes maxL ret p l e R s m args below meth c n0 sf h kc ks T' → P v → Run Z EL p e below s n0 fc fs Q (T'.setTop (f v))) (K : (∀ T' v, Sd kn Z a0 EL y bytes maxL ret p l e R s m args below meth c n0 sf h kc ks T' → P v → Run Z EL p e below s n0 fc fs Q (T'.setTop (f v))) → Run Z EL p e below s n0 fc fs Q t) : Run Z EL p e below s n0 fc fs Q t := K J
theorem joinH (X : Sd kn Z a0 EL y bytes maxL ret p l e R s m args below meth c n0 sf h kc ks T) (kc' ks' : Nat) {α : Type} (P : α → Heap → List Addr → Prop) (f : α → JFrame) {t : State} (J : ∀ T' h' sf' v, Sd kn Z a0 EL y bytes maxL ret p l e R s m args below meth c n0 sf' h' kc' ks' T' → P v h' sf' → Run Z EL p e below s n0 fc fs Q (T'.setTop (f v))) (K : (∀ T' h' sf' v, Sd kn Z a0 EL y bytes maxL ret p l e R s m args below meth c n0 sf' h' kc' ks' T' → P v h' sf' → Run Z EL p e below s n0 fc fs Q (T'.setTop (f v))) → Run Z EL p e below s n0 fc fs Q t) : Run Z EL p e below s n0 fc fs Q t := K J
theorem loopT (X : Sd kn Z a0 EL y bytes maxL ret p l e R s m args below meth c n0 sf h kc ks T) {α : Type} (P : α → Heap → Prop) (mu : α → Nat) (f : α → JFrame) (J : ∀ T' h' v, Sd kn Z a0 EL y bytes maxL ret p l e R s m args below meth c n0 sf h' kc ks T' → P v h' → (∀ T'' h'' v', mu v' < mu v → Sd kn Z a0 EL y bytes maxL ret p l e R s m args below meth c n0 sf h'' kc ks T'' → P v' h'' → Run Z EL p e below s n0 fc fs Q (T''.setTop (f v'))) → Run Z EL p e below s n0 fc fs Q (T'.setTop (f v))) : ∀ T' h' v, Sd kn Z a0 EL y bytes maxL ret p l e R s m args below meth c n0 sf h' kc ks T' → P v h' → Run Z EL p e below s n0 fc fs Q (T'.setTop (f v)) := by
  have key : ∀ n T' h' v, mu v = n → Sd kn Z a0 EL y bytes maxL ret p l e R s m args below meth c n0 sf h' kc ks T' → P v h' → Run Z EL p e below s n0 fc fs Q (T'.setTop (f v)) := by
    intro n
    induction n using Nat.strongRecOn with
    | ind n ih =>
      intro T' h' v hm X' hP
      exact J T' h' v X' hP fun T'' h'' v' hlt X'' hP'' => ih (mu v') (hm ▸ hlt) T'' h'' v' rfl X'' hP''
  intro T' h' v X' hP
  exact key _ T' h' v rfl X' hP
theorem loopK (X : Sd kn Z a0 EL y bytes maxL ret p l e R s m args below meth c n0 sf h kc ks T) {α : Type} (P : α → Heap → Prop) (mu kf lf : α → Nat) (f : α → JFrame) (J : ∀ T' h' sf' v, Sd kn Z a0 EL y bytes maxL ret p l e R s m args below meth c n0 sf' h' (kf v) (lf v) T' → P v h' → (∀ T'' h'' sf'' v', mu v' < mu v → Sd kn Z a0 EL y bytes maxL ret p l e R s m args below meth c n0 sf'' h'' (kf v') (lf v') T'' → P v' h'' → Run Z EL p e below s n0 fc fs Q (T''.setTop (f v'))) → Run Z EL p e below s n0 fc fs Q (T'.setTop (f v))) : ∀ T' h' sf' v, Sd kn Z a0 EL y bytes maxL ret p l e R s m args below meth c n0 sf' h' (kf v) (lf v) T' → P v h' → Run Z EL p e below s n0 fc fs Q (T'.setTop (f v)) := by
  have key : ∀ n T' h' sf' v, mu v = n → Sd kn Z a0 EL y bytes maxL ret p l e R s m args below meth c n0 sf' h' (kf v) (lf v) T' → P v h' → Run Z EL p e below s n0 fc fs Q (T'.setTop (f v)) := by
    intro n
    induction n using Nat.strongRecOn with
    | ind n ih =>
      intro T' h' sf' v hm X' hP
      exact J T' h' sf' v X' hP fun T'' h'' sf'' v' hlt X'' hP'' => ih (mu v') (hm ▸ hlt) T'' h'' sf'' v' rfl X'' hP''
  intro T' h' sf' v X' hP
  exact key _ T' h' sf' v rfl X' hP
theorem eqI_v {args : Array Value} {first s : State} {o : Option Outcome} {idx : List Nat} {t : Term} {z : Int32} (h : (Jvm.Cond.eq t (Term.int z)).value args first o s idx = some true) : t.eval args first o idx s = some (.int z) := by
  simp only [Jvm.Cond.value, Term.eval] at h
  cases ht : t.eval args first o idx s with
  | none => simp [ht] at h
  | some x => cases x <;> simp [ht] at h ⊢; exact h
theorem lenOfTerm {args : Array Value} {first s : State} {o : Option Outcome} {idx : List Nat} {t : Term} {k : Int32} {a : Addr} {cl : Cell} {n : Nat} (hh : (Term.length t).eval args first o idx s = some (.int k)) (ht : t.eval args first o idx s = some (.ref a)) (hc : s.heap[a]? = some cl) (hk : k.toInt = n) : cl.slots.size = n := by
  simp only [Term.eval, ht, Option.bind_eq_bind, Option.bind_some] at hh
  obtain ⟨c2, h1, h2⟩ := Option.bind_eq_some_iff.mp hh
  have h3 := (State.arrayAt?_spec h1).1
  cases hc.symm.trans h3
  by_cases q : cl.slots.size < 2 ^ 31
  · simp only [q, if_true, Option.pure_def, Option.some.injEq, Value.int.injEq] at h2
    have h4 : (cl.slots.size.toInt32).toInt = cl.slots.size := Int32.toInt_ofNat_small q
    rw [h2, hk] at h4
    omega
  · simp [q] at h2
theorem eqR_v {args : Array Value} {first s : State} {o : Option Outcome} {idx : List Nat} {t u : Term} {a : Addr} (hh : (Jvm.Cond.eq t u).value args first o s idx = some true) (hu : u.eval args first o idx s = some (.ref a)) : t.eval args first o idx s = some (.ref a) := by
  simp only [Jvm.Cond.value, hu] at hh
  cases ht : t.eval args first o idx s with
  | none => simp [ht] at hh
  | some x => cases x <;> simp [ht] at hh ⊢; exact hh
theorem Ark.start (hf : Fit Z) {cl : Cell} (A : Arr Z Z.heap a cl ty) (hl : cl.slots.size = vs.length) (hb : vs.length < 2147483648) (H : ∀ i, i < vs.length → cl.slots[i]? = vs[i]?) : Ark Z Z.heap a ty vs := by
  have e1 : cl.slots = vs.toArray := by
    apply Array.ext
    · simpa using hl
    · intro i h1 h2
      have q := H i (by omega)
      rw [Array.getElem?_eq_getElem h1, List.getElem?_eq_getElem (by omega)] at q
      simpa using Option.some.inj q
  refine ⟨cl, A, e1, hb, fun v hv => ?_⟩
  obtain ⟨i, hi, rfl⟩ := List.getElem_of_mem hv
  have q := elem_fits hf A (j := Int32.ofNat i) (v := vs[i]) ?_ ?_
  · exact q
  · intro q
    have e2 : (Int32.ofNat i).toInt = i := Int32.toInt_ofNat_small (by omega)
    obtain ⟨g1, g2⟩ := toNatC e2
    rcases q with q | q
    · exact g2 q
    · rw [g1] at q; omega
  · have e2 : (Int32.ofNat i).toInt = i := Int32.toInt_ofNat_small (by omega)
    rw [(toNatC e2).1, e1]; simp
end A
end Jvm.OwnW
namespace Jvm.OwnW
open Sem ClassFile Op Lib Jvm.Stand Jvm.Free Jvm.LawKit Jvm.RoadKit Bundle Jvm.Free.Exc
section X
variable {kn : Prop} {p : Program} {l : Launch} {e : Env} {R : Room} {s : State} {m : MethodId} {args : Array Value} {below : List Frame} {meth : Method} {c : Code} {T : State} {Z : State} {a0 : Array Value} {EL : List (String × Nat)} {h h' : Heap} {n0 kc ks fc fs : Nat} {sf : List Addr} {Q : Option Value → Heap → List Addr → Prop} {y : MethodName} {bytes : ByteArray} {maxL : Nat} {ret : Option FieldType} {a b : Addr} {ty : FieldType} {vs : List Value} {sl : Nat} {v w : Value} {C f d : String} {wl : List Addr}
theorem Sd.opK (X : Sd kn Z a0 EL y bytes maxL ret p l e R s m args below meth c n0 sf h kc ks T) : ∃ (s' : State) (L : List Loc) (i j : Nat), Stand p l e R s' m args below meth c T L i j ∧ T.heap = h ∧ Z.Warmed39 s'.vm ∧ s'.vm.findClass y.cls = some m.cls ∧ c.maxLocals = maxL ∧ i ≤ kc ∧ j ≤ ks ∧ p.tables.exec = Jvm.exec ∧ Fr n0 L ∧ s'.heap = s.heap ∧ (kn → s'.vm.MethodsKnown ∧ s'.vm.FramesKnown below) ∧ (∀ T' h' L' dc ds ws, (∀ x ∈ ws, x ∈ sf) → Stand p l e R s' m args below meth c T' L' (i + dc) (j + ds) → T'.heap = h' → Fr n0 L' → Keep h h' ws → Sd kn Z a0 EL y bytes maxL ret p l e R s m args below meth c n0 sf h' (kc + dc) (ks + ds) T') := by
  obtain ⟨vm0, k0, q, ⟨hS, hk, hE, hC, hs, hkn⟩, L, i, j, Y, r1, r2, r3, r4⟩ := X
  refine ⟨s.setVm vm0, L, i, j, Y, r1, q.2.1, q.2.2.2.2.2.2.1, q.2.2.2.1, r3, r4, q.1, r2, rfl, hkn, ?_⟩
  intro T' h' L' dc ds ws hw Y' e' N K
  refine ⟨vm0, k0, q, ⟨hS, Nat.le_trans hk K.1, hE, hC.trans (CHr.keep K (fun x hx => (hs x (hw x hx)).1) hC.1), ?_, hkn⟩, L', _, _, Y', e', N, by omega, by omega⟩
  intro x hx
  exact ⟨(hs x hx).1.keep K (fun x hx => (hs x (hw x hx)).1) hC.1, Nat.lt_of_lt_of_le (hs x hx).2 K.1⟩
theorem newarrayE (X : Sd kn Z a0 EL y bytes maxL ret p l e R s m args below meth c n0 sf h kc ks T) {pc n len cap : Nat} {ls : Array Slot} {st : List Value} {k : Int32} (hd : decode bytes pc = .ok (.newarray .byte, 2)) (w : (Cond.arrayClass .byte).before a0 Z = true) (hk : k.toInt = len) (hcap : len ≤ cap) (hb : cap * 8 ≤ 536870912) (hc : kc + 1 ≤ R.cells) (hl : ks + cap ≤ R.slots) (hn : pc + 2 = n) (K : ∀ T' h' a, a = h.size → Sd kn Z a0 EL y bytes maxL ret p l e R s m args below meth c n0 (a :: sf) h' (kc + 1) (ks + cap) T' → Ext h h' → Ark Z h' a .byte (List.replicate len (.int 0)) → Exa Z h' a "[B" → Run Z EL p e below s n0 fc fs Q (T'.setTop (mkF m n ls (.ref a :: st)))) : Run Z EL p e below s n0 fc fs Q (T.setTop (mkF m pc ls (.int k :: st))) := by
  subst hn; obtain ⟨s', L', i', j', Y, r1, hZ, hown, hml, hnm, r3, r4, hx, kN, kE, kW⟩ := X.op
  obtain ⟨g1, g2⟩ := toNatC hk
  obtain ⟨T', h', cA, Y', e', E, A, Ex, stp⟩ := newPE Y hx hZ (aty := .byte) w r1 (g := mkF m pc ls (.int k :: st)) rfl (X.dc hd) rfl g2 (cap := cap) (by omega) hb (by omega) (by omega) (ad := "[B") rfl
  have hA : Ark Z h' h.size .byte (List.replicate len (.int 0)) := by
    refine ⟨_, A, by simp [newA, g1]; exact Or.inr rfl, by simp; omega, fun v hv => ?_⟩
    rw [List.eq_of_mem_replicate hv]; rfl
  exact (K T' h' _ rfl (kE T' h' 1 cap Y' e' E hA.lt) E hA Ex).st stp
theorem Ark.toArv {d : Value} (A : Ark Z h a ty vs) : ∃ k, Arv Z h a k ty (Int32.ofNat vs.length) vs d := by
  obtain ⟨c, A, e, hl, hf⟩ := A
  have hz : (Int32.ofNat vs.length).toInt = vs.length := Int32.toInt_ofNat_small hl
  obtain ⟨g1, g2⟩ := toNatC hz
  refine ⟨c.cls, c, A, rfl, by rw [e, g1]; simp, g2, fun i hi => ?_, fun i hi => ?_⟩
  · rw [e] at hi ⊢
    have hi' : i < vs.length := by simpa using hi
    simp [List.getD, List.getElem?_eq_getElem hi']
  · rw [e] at hi
    have hi' : i < vs.length := by simpa using hi
    have q : vs.getD i d = vs[i] := by simp [List.getD, List.getElem?_eq_getElem hi']
    rw [q]; exact hf _ (List.getElem_mem hi')
theorem rangeTake {vs : List Value} {d : Value} {sp nn : Nat} (h : sp + nn ≤ vs.length) : (List.range nn).map (fun i => vs.getD (sp + i) d) = (vs.drop sp).take nn := by
  apply List.ext_getElem
  · simp; omega
  · intro i h1 h2
    have h3 : i < nn := by simpa using h1
    have h4 : sp + i < vs.length := by omega
    simp [List.getD, List.getElem?_eq_getElem h4]
theorem arraycopy (X : Sd kn Z a0 EL y bytes maxL ret p l e R s m args below meth c n0 sf h kc ks T) {pc n index W sp dp nn : Nat} {ls : Array Slot} {rest vd : List Value} {isp idp inn : Int32} (hd : decode bytes pc = .ok (.invokestatic index, 3)) (w1 : (Cond.methodLink y.cls index Jvm.Stand.acN).before a0 Z = true) (w2 : (Cond.native Jvm.Stand.acN).before a0 Z = true) (w3 : (Cond.static Jvm.Stand.acN).before a0 Z = true) (w4 : (Cond.initialized "java/lang/System").before a0 Z = true) (A : Ark Z h a .byte vs) (B : Ark Z h b .byte vd) (e1 : isp.toInt = sp) (e2 : idp.toInt = dp) (e3 : inn.toInt = nn) (h4 : sp + nn ≤ vs.length) (h5 : dp + nn ≤ vd.length) (ge : n0 ≤ b) (hb : b ∈ sf) (hsize : ls.size = maxL) (hW : (rest.map fun v => v.category).sum ≤ W) (hf : 1 ≤ R.frames) (hlo : W + 18 ≤ R.locals) (hn : pc + 3 = n) (K : ∀ T' h', Sd kn Z a0 EL y bytes maxL ret p l e R s m args below meth c n0 sf h' kc ks T' → Keep h h' [b] → Ark Z h' b .byte (vd.take dp ++ (vs.drop sp).take nn ++ vd.drop (dp + nn)) → Run Z EL p e below s n0 fc fs Q (T'.setTop (mkF m n ls rest))) : Run Z EL p e below s n0 fc fs Q (T.setTop (mkF m pc ls (.int inn :: .int idp :: .ref b :: .int isp :: .ref a :: rest))) := by
  subst hn; obtain ⟨s', L', i', j', Y, r1, hZ, hown, hml, r3, r4, hx, N, -, -, kK⟩ := X.opK
  have la := A.len
  have lb := B.len
  have za : (Int32.ofNat vs.length).toInt = vs.length := Int32.toInt_ofNat_small la
  have zb : (Int32.ofNat vd.length).toInt = vd.length := Int32.toInt_ofNat_small lb
  obtain ⟨a1, a2⟩ := toNatC za
  obtain ⟨b1, b2⟩ := toNatC zb
  obtain ⟨s1, s2⟩ := toNatC e1
  obtain ⟨d1, d2⟩ := toNatC e2
  obtain ⟨n1, n2⟩ := toNatC e3
  obtain ⟨ka, VA⟩ := A.toArv (d := .int 0)
  obtain ⟨kb, VB⟩ := B.toArv (d := .int 0)
  obtain ⟨T', h', L2, Y', e', N', Kp', B', stp⟩ := cpA Y hx hZ hown w1 w2 w3 w4 r1 VA VB (Or.inl ⟨rfl, rfl⟩) s2 d2 n2 (by rw [s1, n1, a1]; exact h4) (by rw [d1, n1, b1]; exact h5) rfl (by rw [d1, n1]; exact h5) N ge (g := mkF m pc ls (.int inn :: .int idp :: .ref b :: .int isp :: .ref a :: rest)) rfl (by rw [hml]; exact hsize) rfl (X.dc hd) hf (W := W) (by simpa using hW) hlo
  have e5 : (List.range inn.toNatClampNeg).map (fun i => vs.getD (isp.toNatClampNeg + i) (.int 0)) = (vs.drop sp).take nn := by rw [s1, n1]; exact rangeTake h4
  rw [e5, d1, n1] at B'
  have hB : Ark Z h' b .byte (vd.take dp ++ (vs.drop sp).take nn ++ vd.drop (dp + nn)) := Ark.ofArv B' (by rw [b1]; simp; omega)
  exact (K T' h' (kK T' h' L2 0 0 [b] (fun x hx => by rw [List.mem_singleton.mp hx]; exact hb) Y' e' N' Kp') Kp' hB).st stp
theorem parTail {d : String} {r : Option FieldType} {ps : List FieldType} {sig : MethodDescriptor} (h : parseMethodDescriptor d = some sig) (q : parseMethodDescriptor d = some ⟨ps, r⟩) : sig.parameters = ps := by cases h.symm.trans q; rfl
theorem getCause (X : Sd kn Z a0 EL y bytes maxL ret p l e R s m args below meth c n0 sf h kc ks T) {pc n index : Nat} {ls : Array Slot} {rest : List Value} {C : String} (hd : decode bytes pc = .ok (.invokevirtual index, 3)) (w1 : (Cond.methodLink y.cls index ⟨C, "getCause", "()Ljava/lang/Throwable;"⟩).before a0 Z = true) (w2 : (Cond.sameMethod C "java/lang/Throwable" "getCause" "()Ljava/lang/Throwable;").before a0 Z = true) (w3 : (Cond.declares RoadKit.gcN).before a0 Z = true) (w4 : (Cond.instanceMethod RoadKit.gcN).before a0 Z = true) (w5 : (Cond.selects C ⟨C, "getCause", "()Ljava/lang/Throwable;"⟩ RoadKit.gcN).before a0 Z = true) (wc : (Cond.codeSync RoadKit.gcN RoadKit.gcB 1 (some (.object tN))).before a0 Z = true) (wz : (Cond.initialized tN).before a0 Z = true) (wf : (Cond.fieldLink tN 7 tN "cause" thD).before a0 Z = true) (E : Exa Z h a C) (N : Unt h a) (G : Fld Z h a tN "cause" thD (.ref a)) (hsize : ls.size = maxL) (hf : 1 ≤ R.frames) {W : Nat} (hW : (rest.map fun v => v.category).sum ≤ W) (hlo : W + 12 ≤ R.locals) (hn : pc + 3 = n) (hc : kc ≤ R.cells) (hsl : ks ≤ R.slots) (K : ∀ T', Sd kn Z a0 EL y bytes maxL ret p l e R s m args below meth c n0 sf h kc ks T' → Run Z EL p e below s n0 fc fs Q (T'.setTop (mkF m n ls (.null :: rest)))) : Run Z EL p e below s n0 fc fs Q (T.setTop (mkF m pc ls (.ref a :: rest))) := by
  subst hn; obtain ⟨s', L', i', j', Y, r1, hZ, hown, hml, hnm, r3, r4, hx, kN, kE, kW⟩ := X.op
  obtain ⟨cq, kq, qa, qb, qc⟩ := isOf (T := T) hZ r1 E
  have hB := gcBackPure (rm := {}) (l := l) (R := R) (p := p) (e := e) (below := below) (s := s') (args := args) (len := 3) (W := W) hZ wc w4 wz wf N G rfl (by simpa using hf) (by simpa using hlo)
  obtain ⟨v, vm1, ⟨T', L2, k', n'⟩, -, Y', ⟨hv, hh, l', c', n2⟩, stp⟩ := Y.virtualBackUp hx (C := C) (owner := "java/lang/Throwable") (x := ⟨C, "getCause", "()Ljava/lang/Throwable;"⟩) (y := RoadKit.gcN) hown (mvT hZ w1) (mvT hZ w2) (mvT hZ w3) (by decide) (mvT hZ w5) (mvT hZ w4) hB qa qc (g := mkF m pc ls (.ref a :: rest)) rfl (by rw [hml]; exact hsize) (Steps.refl _) (argsL := []) (rest := rest) (fun sig hs => by have hs2 : parseMethodDescriptor "()Ljava/lang/Throwable;" = some sig := hs; rw [parTail hs2 (ps := []) (r := some (.object "java/lang/Throwable")) (by decide +kernel)]; rfl) rfl (by simpa using hW) (X.dc hd) (fun _ _ => ⟨rfl, r1, by dsimp only [Pt.cells]; show i' + 0 ≤ R.cells; omega, by dsimp only [Pt.slots]; show j' + 0 ≤ R.slots; omega⟩)
  dsimp only [Pt.U, Pt.locs, Pt.cells, Pt.slots] at Y' hh l' c' n2 stp
  subst l' c' n2
  have e : gcV a (.ref a) = .null := if_pos rfl
  rw [e] at hv
  subst hv
  exact (K T' (kN T' Y' hh)).st fun t k => stp.trans k
theorem declOf {z : MethodName} {zb : ByteArray} {zL : Nat} {zr : Option FieldType} (wi : (Cond.instanceMethod z).before a0 Z = true) (wc : (Cond.code z zb zL zr).before a0 Z = true) : (Cond.declares z).before a0 Z = true := by
  obtain ⟨mk, mt, hn, hm, hst, -⟩ := Cond.instanceMethod_spec wi
  obtain ⟨m2, cM, q1, -, -, -, -, -, -, hsig⟩ := Cond.code_spec hn wc
  cases hm.symm.trans q1
  simp only [Cond.before, Cond.holds, Cond.value, hn, Option.bind_some, hm, Option.map_some, hst, hsig]
  simp
theorem sameOf {z u : MethodName} (wi : (Cond.instanceMethod z).before a0 Z = true) {D : String} (wu : (Cond.selects D u u).before a0 Z = true) (hu : u.cls = z.cls) (hun : (Cond.instanceMethod u).before a0 Z = true) (hz : z.cls ≠ "java/lang/invoke/MethodHandle" ∧ z.cls ≠ "java/lang/invoke/VarHandle") : (Cond.sameMethod z.cls z.cls z.name z.desc).before a0 Z = true := by
  obtain ⟨mk, mt, hn, -⟩ := Cond.instanceMethod_spec wi
  obtain ⟨mu, mtu, hnu, -⟩ := Cond.instanceMethod_spec hun
  have hf := State.methodFound?_of_named hn hz
  have hc := findClass_of_methodNamed hn
  have hcu := findClass_of_methodNamed hnu
  rw [hu] at hcu
  have ec : mu.cls = mk.cls := Option.some.inj (hcu.symm.trans hc)
  obtain ⟨kr, hk, hni⟩ := notFace_of_selects wu mu hnu
  rw [ec] at hk
  have he : Z.methodNamed? ⟨z.cls, z.name, z.desc⟩ = some mk := hn
  simp only [Cond.before, Cond.holds, Cond.value, hc, hf, he, hk]
  simp [hni]
theorem nfOf {s : State} {args : Array Value} {z u : MethodName} {D : String} (wu : (Cond.selects D u u).before args s = true) (hun : (Cond.instanceMethod u).before args s = true) (hu : u.cls = z.cls) : NotFace s z := fun r0 hn => by
  obtain ⟨mu, mtu, hnu, -⟩ := Cond.instanceMethod_spec hun
  have hc := findClass_of_methodNamed hn
  have hcu := findClass_of_methodNamed hnu
  rw [hu] at hcu
  have ec : mu.cls = r0.cls := Option.some.inj (hcu.symm.trans hc)
  obtain ⟨kr, hk, hni⟩ := notFace_of_selects wu mu hnu
  rw [ec] at hk
  exact ⟨kr, hk, hni⟩
theorem Ctr.ofK {rm : Room} {ws : List Cond} {as : Array Value} {ls0 : Array Slot} (hn : plainFor y = true) (hE : EW Z a0 EL) (hf : ∀ m, entryFrame m as maxL = mkF m 0 ls0 [])
    (body : ∀ (p : Program) (e : Env) (s : State) (m : MethodId) (below : List Frame) (meth : Method) (c : Code) (T : State), s.heap = h → Sd kn Z a0 EL y bytes maxL ret p l e rm s m as below meth c n0 sf h 0 0 T → Run Z EL p e below s n0 rm.cells rm.slots Q (T.setTop (mkF m 0 ls0 []))) : Ctr kn l Z EL y bytes maxL ret ws rm n0 sf as h Q := by
  refine MetFree.of_bodySF hn hisR ?_
  intro p e s m args below meth c s₁ Bd hml0 hP hK
  obtain ⟨rfl, hZ, hh, hC, hs⟩ := hP
  have X0 : Stand p l e rm s m args below meth c s₁ [] 0 0 := Stand.of_body Bd
  have e0 : s₁.heap = h := by rw [← hh, Bd.state]; rfl
  obtain ⟨s2, o, h1, h2, h3, v, L, sfn, h4, h5, h6, h7, h8, h9⟩ := body p e s m below meth c s₁ hh ⟨s.vm, h.size, ⟨Bd.exec, hZ, Bd.bytes, hml0, Bd.returns, Bd.notSynchronized, findClass_of_methodNamed Bd.named, (name_of_methodNamed Bd.named Bd.method).1⟩, ⟨(State.WarmedH.refl s).since _, Nat.le_refl _, hE, by rw [hh]; exact CHr.refl hC, hs, hK⟩, [], 0, 0, X0, e0, Fr.nil _, Nat.le_refl _, Nat.le_refl _⟩
  exact ⟨s2, o, castTop (hf m) h1, h2, h3, v, L, h4, ⟨sfn, h5, h6, h7⟩, h8, h9⟩
theorem call_super (X : Sd kn Z a0 EL y bytes maxL ret p l e R s m args below meth c n0 sf h kc ks T) {rm : Room} {ybytes : ByteArray} {yL : Nat} {yret : Option FieldType} {z : MethodName} {sfc : List Addr} {Qc : Option Value → Heap → List Addr → Prop} {pc n index W : Nat} {ls : Array Slot} {st rest argsL : List Value} {a : Addr} {C : String} (hd : decode bytes pc = .ok (.invokespecial index, 3)) (w1 : (Cond.methodLink y.cls index z).before a0 Z = true) (w2 : (Cond.sameMethod z.cls z.cls z.name z.desc).before a0 Z = true) (w3 : (Cond.instanceMethod z).before a0 Z = true) (w4 : (Cond.superclass y.cls z.cls).before a0 Z = true) (wc : (Cond.code z ybytes yL yret).before a0 Z = true) (wi : (Cond.initialized z.cls).before a0 Z = true) (hz : z.name ≠ "<init>") (E : Exa Z h a C) (hC : Ctr kn l Z EL z ybytes yL yret [] rm n0 sfc (.ref a :: argsL).toArray h Qc) (hsf : ∀ x ∈ sfc, x ∈ sf) (hst : st = argsL.reverse ++ .ref a :: rest) (hsize : ls.size = maxL) (hlen : ∀ sig, parseMethodDescriptor z.desc = some sig → argsL.length = sig.parameters.length) (hW : (rest.map fun v => v.category).sum ≤ W) (hfr : rm.frames + 1 ≤ R.frames) (hlo : W + (yL + 11) + rm.locals ≤ R.locals) (hce : kc + rm.cells ≤ R.cells) (hsl : ks + rm.slots ≤ R.slots) (hn : pc + 3 = n) (K : ∀ T' h' v sfn, h.size ≤ h'.size → Sd kn Z a0 EL y bytes maxL ret p l e R s m args below meth c n0 (sf ++ sfn) h' (kc + rm.cells) (ks + rm.slots) T' → Qc v h' sfn → Run Z EL p e below s n0 fc fs Q (T'.setTop (mkF m n ls (v.toList ++ rest)))) : Run Z EL p e below s n0 fc fs Q (T.setTop (mkF m pc ls st)) := by
  subst hn hst
  have hdc := X.dc hd
  obtain ⟨vm0, k0, q, ⟨hS, hk, hE, hCr, hs, hkn⟩, L, i, j, Y, r1, r2, r3, r4⟩ := X
  have hB := ctrBack (W := W) (R := R) (p := p) (e := e) (s := s) (below := below) (args := args) (len := 3) (vm0 := vm0) hC q.2.1 wc wi hfr hlo hE hCr.1 (fun x hx => hs x (hsf x hx)) hkn
  have hZ : Z.Warmed39 (s.setVm vm0).vm := q.2.1
  have hown : (s.setVm vm0).vm.findClass y.cls = some m.cls := q.2.2.2.2.2.2.1
  obtain ⟨v, vm₁, ⟨T', L', k', n'⟩, -, Y', S', g', ⟨Lc, hQ, l', y', z', C'⟩, stp⟩ := superBackS Y q.1 hZ hown w1 w2 w3 w4 hz hB r1 (Ins.self E) (g := mkF m pc ls (argsL.reverse ++ .ref a :: rest)) rfl (by rw [q.2.2.2.1]; exact hsize) wc (argsL := argsL) (rest := rest) hlen rfl (by simpa using hW) hdc (fun _ _ => ⟨rfl, r1, by dsimp only [Pt.cells]; omega, by dsimp only [Pt.slots]; omega⟩)
  dsimp only [Pt.U, Pt.locs, Pt.cells, Pt.slots] at Y' l' y' z' stp hQ S' g' C'
  obtain ⟨sfn, hQ1, hQs, hQ2⟩ := hQ
  subst l' y' z'
  obtain ⟨Y2, S2, Z2, O2⟩ := rebS hS hk Y' S' (by rw [← r1]; exact g') hZ hown
  have hal : vm0.Alike T'.vm := S'.1.alike
  refine (K T' T'.heap v sfn (by rw [← r1]; exact g') ⟨T'.vm, T'.heap.size, ⟨q.1, Z2, q.2.2.1, q.2.2.2.1, q.2.2.2.2.1, q.2.2.2.2.2.1, O2, q.2.2.2.2.2.2.2⟩, ⟨S2, Nat.le_refl _, hE, hCr.trans C', ?_, fun hh => ⟨Vm.MethodsKnown.alikeC hal (hkn hh).1, FKalike hal (hkn hh).2⟩⟩, _, _, _, Y2, rfl, Fr.app r2 hQ2, by omega, by omega⟩ hQ1).st fun t k => stp.trans k
  intro x hx
  rcases List.mem_append.mp hx with hx | hx
  · exact ⟨C'.safe (hs x hx).2 (hs x hx).1, Nat.lt_of_lt_of_le (hs x hx).2 (by rw [← r1]; exact g')⟩
  · exact hQs x hx
theorem call_super_v (X : Sd kn Z a0 EL y bytes maxL ret p l e R s m args below meth c n0 sf h kc ks T) {rm : Room} {ybytes : ByteArray} {yL : Nat} {yret : Option FieldType} {z : MethodName} {sfc : List Addr} {Qv : Value → Heap → List Addr → Prop} {pc n index W : Nat} {ls : Array Slot} {st rest argsL : List Value} {a : Addr} {C : String} (hd : decode bytes pc = .ok (.invokespecial index, 3)) (w1 : (Cond.methodLink y.cls index z).before a0 Z = true) (w2 : (Cond.sameMethod z.cls z.cls z.name z.desc).before a0 Z = true) (w3 : (Cond.instanceMethod z).before a0 Z = true) (w4 : (Cond.superclass y.cls z.cls).before a0 Z = true) (wc : (Cond.code z ybytes yL yret).before a0 Z = true) (wi : (Cond.initialized z.cls).before a0 Z = true) (hz : z.name ≠ "<init>") (E : Exa Z h a C) (hC : Ctr kn l Z EL z ybytes yL yret [] rm n0 sfc (.ref a :: argsL).toArray h (Rt Qv)) (hsf : ∀ x ∈ sfc, x ∈ sf) (hst : st = argsL.reverse ++ .ref a :: rest) (hsize : ls.size = maxL) (hlen : ∀ sig, parseMethodDescriptor z.desc = some sig → argsL.length = sig.parameters.length) (hW : (rest.map fun v => v.category).sum ≤ W) (hfr : rm.frames + 1 ≤ R.frames) (hlo : W + (yL + 11) + rm.locals ≤ R.locals) (hce : kc + rm.cells ≤ R.cells) (hsl : ks + rm.slots ≤ R.slots) (hn : pc + 3 = n) (K : ∀ T' h' w sfn, h.size ≤ h'.size → Sd kn Z a0 EL y bytes maxL ret p l e R s m args below meth c n0 (sf ++ sfn) h' (kc + rm.cells) (ks + rm.slots) T' → Qv w h' sfn → Run Z EL p e below s n0 fc fs Q (T'.setTop (mkF m n ls (w :: rest)))) : Run Z EL p e below s n0 fc fs Q (T.setTop (mkF m pc ls st)) :=
  call_super X hd w1 w2 w3 w4 wc wi hz E hC hsf hst hsize hlen hW hfr hlo hce hsl hn fun T' h' v g hh X' q => by obtain ⟨w, rfl, q⟩ := q; exact K T' h' w g hh X' q
theorem call_super_n (X : Sd kn Z a0 EL y bytes maxL ret p l e R s m args below meth c n0 sf h kc ks T) {rm : Room} {ybytes : ByteArray} {yL : Nat} {yret : Option FieldType} {z : MethodName} {sfc : List Addr} {Qn : Heap → List Addr → Prop} {pc n index W : Nat} {ls : Array Slot} {st rest argsL : List Value} {a : Addr} {C : String} (hd : decode bytes pc = .ok (.invokespecial index, 3)) (w1 : (Cond.methodLink y.cls index z).before a0 Z = true) (w2 : (Cond.sameMethod z.cls z.cls z.name z.desc).before a0 Z = true) (w3 : (Cond.instanceMethod z).before a0 Z = true) (w4 : (Cond.superclass y.cls z.cls).before a0 Z = true) (wc : (Cond.code z ybytes yL yret).before a0 Z = true) (wi : (Cond.initialized z.cls).before a0 Z = true) (hz : z.name ≠ "<init>") (E : Exa Z h a C) (hC : Ctr kn l Z EL z ybytes yL yret [] rm n0 sfc (.ref a :: argsL).toArray h (Rn Qn)) (hsf : ∀ x ∈ sfc, x ∈ sf) (hst : st = argsL.reverse ++ .ref a :: rest) (hsize : ls.size = maxL) (hlen : ∀ sig, parseMethodDescriptor z.desc = some sig → argsL.length = sig.parameters.length) (hW : (rest.map fun v => v.category).sum ≤ W) (hfr : rm.frames + 1 ≤ R.frames) (hlo : W + (yL + 11) + rm.locals ≤ R.locals) (hce : kc + rm.cells ≤ R.cells) (hsl : ks + rm.slots ≤ R.slots) (hn : pc + 3 = n) (K : ∀ T' h' sfn, h.size ≤ h'.size → Sd kn Z a0 EL y bytes maxL ret p l e R s m args below meth c n0 (sf ++ sfn) h' (kc + rm.cells) (ks + rm.slots) T' → Qn h' sfn → Run Z EL p e below s n0 fc fs Q (T'.setTop (mkF m n ls rest))) : Run Z EL p e below s n0 fc fs Q (T.setTop (mkF m pc ls st)) :=
  call_super X hd w1 w2 w3 w4 wc wi hz E hC hsf hst hsize hlen hW hfr hlo hce hsl hn fun T' h' v g hh X' q => by obtain ⟨rfl, q⟩ := q; exact K T' h' g hh X' q
theorem call_virtualUp (X : Sd kn Z a0 EL y bytes maxL ret p l e R s m args below meth c n0 sf h kc ks T) {rm : Room} {ybytes : ByteArray} {yL : Nat} {yret : Option FieldType} {z : MethodName} {sfc : List Addr} {Qc : Option Value → Heap → List Addr → Prop} {pc n index W : Nat} {ls : Array Slot} {st rest argsL : List Value} {a : Addr} {C owner : String} {yv : MethodName} (hd : decode bytes pc = .ok (.invokevirtual index, 3)) (w1 : (Cond.methodLink y.cls index yv).before a0 Z = true) (w2 : (Cond.sameMethod yv.cls owner yv.name yv.desc).before a0 Z = true) (w2' : (Cond.declares ⟨owner, yv.name, yv.desc⟩).before a0 Z = true) (w3 : (Cond.instanceMethod z).before a0 Z = true) (w4 : (Cond.selects C yv z).before a0 Z = true) (wc : (Cond.code z ybytes yL yret).before a0 Z = true) (wi : (Cond.initialized z.cls).before a0 Z = true) (hy : owner ≠ "java/lang/invoke/MethodHandle" ∧ owner ≠ "java/lang/invoke/VarHandle") (E : Exa Z h a C) (hC : Ctr kn l Z EL z ybytes yL yret [] rm n0 sfc (.ref a :: argsL).toArray h Qc) (hsf : ∀ x ∈ sfc, x ∈ sf) (hst : st = argsL.reverse ++ .ref a :: rest) (hsize : ls.size = maxL) (hlen : ∀ sig, parseMethodDescriptor yv.desc = some sig → argsL.length = sig.parameters.length) (hW : (rest.map fun v => v.category).sum ≤ W) (hfr : rm.frames + 1 ≤ R.frames) (hlo : W + (yL + 11) + rm.locals ≤ R.locals) (hce : kc + rm.cells ≤ R.cells) (hsl : ks + rm.slots ≤ R.slots) (hn : pc + 3 = n) (K : ∀ T' h' v sfn, h.size ≤ h'.size → Sd kn Z a0 EL y bytes maxL ret p l e R s m args below meth c n0 (sf ++ sfn) h' (kc + rm.cells) (ks + rm.slots) T' → Qc v h' sfn → Run Z EL p e below s n0 fc fs Q (T'.setTop (mkF m n ls (v.toList ++ rest)))) : Run Z EL p e below s n0 fc fs Q (T.setTop (mkF m pc ls st)) := by
  subst hn hst
  have hdc := X.dc hd
  obtain ⟨vm0, k0, q, ⟨hS, hk, hE, hCr, hs, hkn⟩, L, i, j, Y, r1, r2, r3, r4⟩ := X
  have hB := ctrBack (W := W) (R := R) (p := p) (e := e) (s := s) (below := below) (args := args) (len := 3) (vm0 := vm0) hC q.2.1 wc wi hfr hlo hE hCr.1 (fun x hx => hs x (hsf x hx)) hkn
  have hZ : Z.Warmed39 (s.setVm vm0).vm := q.2.1
  have hown : (s.setVm vm0).vm.findClass y.cls = some m.cls := q.2.2.2.2.2.2.1
  obtain ⟨cq, kq, qa, qb, qc⟩ := isOf (T := T) hZ r1 E
  obtain ⟨v, vm₁, ⟨T', L', k', n'⟩, -, Y', S', g', ⟨Lc, hQ, l', y', z', C'⟩, stp⟩ := Y.virtualBackUpS q.1 (x := yv) (y := z) hown (mvT hZ w1) (mvT hZ w2) (mvT hZ w2') hy (mvT hZ w4) (mvT hZ w3) hB qa qc (g := mkF m pc ls (argsL.reverse ++ .ref a :: rest)) rfl (by rw [q.2.2.2.1]; exact hsize) (Steps.refl _) (argsL := argsL) (rest := rest) hlen rfl (by simpa using hW) hdc (fun _ _ => ⟨rfl, r1, by dsimp only [Pt.cells]; omega, by dsimp only [Pt.slots]; omega⟩)
  dsimp only [Pt.U, Pt.locs, Pt.cells, Pt.slots] at Y' l' y' z' stp hQ S' g' C'
  obtain ⟨sfn, hQ1, hQs, hQ2⟩ := hQ
  subst l' y' z'
  obtain ⟨Y2, S2, Z2, O2⟩ := rebS hS hk Y' S' (by rw [← r1]; exact g') hZ hown
  have hal : vm0.Alike T'.vm := S'.1.alike
  refine (K T' T'.heap v sfn (by rw [← r1]; exact g') ⟨T'.vm, T'.heap.size, ⟨q.1, Z2, q.2.2.1, q.2.2.2.1, q.2.2.2.2.1, q.2.2.2.2.2.1, O2, q.2.2.2.2.2.2.2⟩, ⟨S2, Nat.le_refl _, hE, hCr.trans C', ?_, fun hh => ⟨Vm.MethodsKnown.alikeC hal (hkn hh).1, FKalike hal (hkn hh).2⟩⟩, _, _, _, Y2, rfl, Fr.app r2 hQ2, by omega, by omega⟩ hQ1).st fun t k => stp.trans k
  intro x hx
  rcases List.mem_append.mp hx with hx | hx
  · exact ⟨C'.safe (hs x hx).2 (hs x hx).1, Nat.lt_of_lt_of_le (hs x hx).2 (by rw [← r1]; exact g')⟩
  · exact hQs x hx
theorem call_virtualUp_v (X : Sd kn Z a0 EL y bytes maxL ret p l e R s m args below meth c n0 sf h kc ks T) {rm : Room} {ybytes : ByteArray} {yL : Nat} {yret : Option FieldType} {z : MethodName} {sfc : List Addr} {Qv : Value → Heap → List Addr → Prop} {pc n index W : Nat} {ls : Array Slot} {st rest argsL : List Value} {a : Addr} {C owner : String} {yv : MethodName} (hd : decode bytes pc = .ok (.invokevirtual index, 3)) (w1 : (Cond.methodLink y.cls index yv).before a0 Z = true) (w2 : (Cond.sameMethod yv.cls owner yv.name yv.desc).before a0 Z = true) (w2' : (Cond.declares ⟨owner, yv.name, yv.desc⟩).before a0 Z = true) (w3 : (Cond.instanceMethod z).before a0 Z = true) (w4 : (Cond.selects C yv z).before a0 Z = true) (wc : (Cond.code z ybytes yL yret).before a0 Z = true) (wi : (Cond.initialized z.cls).before a0 Z = true) (hy : owner ≠ "java/lang/invoke/MethodHandle" ∧ owner ≠ "java/lang/invoke/VarHandle") (E : Exa Z h a C) (hC : Ctr kn l Z EL z ybytes yL yret [] rm n0 sfc (.ref a :: argsL).toArray h (Rt Qv)) (hsf : ∀ x ∈ sfc, x ∈ sf) (hst : st = argsL.reverse ++ .ref a :: rest) (hsize : ls.size = maxL) (hlen : ∀ sig, parseMethodDescriptor yv.desc = some sig → argsL.length = sig.parameters.length) (hW : (rest.map fun v => v.category).sum ≤ W) (hfr : rm.frames + 1 ≤ R.frames) (hlo : W + (yL + 11) + rm.locals ≤ R.locals) (hce : kc + rm.cells ≤ R.cells) (hsl : ks + rm.slots ≤ R.slots) (hn : pc + 3 = n) (K : ∀ T' h' w sfn, h.size ≤ h'.size → Sd kn Z a0 EL y bytes maxL ret p l e R s m args below meth c n0 (sf ++ sfn) h' (kc + rm.cells) (ks + rm.slots) T' → Qv w h' sfn → Run Z EL p e below s n0 fc fs Q (T'.setTop (mkF m n ls (w :: rest)))) : Run Z EL p e below s n0 fc fs Q (T.setTop (mkF m pc ls st)) :=
  call_virtualUp X hd w1 w2 w2' w3 w4 wc wi hy E hC hsf hst hsize hlen hW hfr hlo hce hsl hn fun T' h' v g hh X' q => by obtain ⟨w, rfl, q⟩ := q; exact K T' h' w g hh X' q
theorem call_virtualUp_n (X : Sd kn Z a0 EL y bytes maxL ret p l e R s m args below meth c n0 sf h kc ks T) {rm : Room} {ybytes : ByteArray} {yL : Nat} {yret : Option FieldType} {z : MethodName} {sfc : List Addr} {Qn : Heap → List Addr → Prop} {pc n index W : Nat} {ls : Array Slot} {st rest argsL : List Value} {a : Addr} {C owner : String} {yv : MethodName} (hd : decode bytes pc = .ok (.invokevirtual index, 3)) (w1 : (Cond.methodLink y.cls index yv).before a0 Z = true) (w2 : (Cond.sameMethod yv.cls owner yv.name yv.desc).before a0 Z = true) (w2' : (Cond.declares ⟨owner, yv.name, yv.desc⟩).before a0 Z = true) (w3 : (Cond.instanceMethod z).before a0 Z = true) (w4 : (Cond.selects C yv z).before a0 Z = true) (wc : (Cond.code z ybytes yL yret).before a0 Z = true) (wi : (Cond.initialized z.cls).before a0 Z = true) (hy : owner ≠ "java/lang/invoke/MethodHandle" ∧ owner ≠ "java/lang/invoke/VarHandle") (E : Exa Z h a C) (hC : Ctr kn l Z EL z ybytes yL yret [] rm n0 sfc (.ref a :: argsL).toArray h (Rn Qn)) (hsf : ∀ x ∈ sfc, x ∈ sf) (hst : st = argsL.reverse ++ .ref a :: rest) (hsize : ls.size = maxL) (hlen : ∀ sig, parseMethodDescriptor yv.desc = some sig → argsL.length = sig.parameters.length) (hW : (rest.map fun v => v.category).sum ≤ W) (hfr : rm.frames + 1 ≤ R.frames) (hlo : W + (yL + 11) + rm.locals ≤ R.locals) (hce : kc + rm.cells ≤ R.cells) (hsl : ks + rm.slots ≤ R.slots) (hn : pc + 3 = n) (K : ∀ T' h' sfn, h.size ≤ h'.size → Sd kn Z a0 EL y bytes maxL ret p l e R s m args below meth c n0 (sf ++ sfn) h' (kc + rm.cells) (ks + rm.slots) T' → Qn h' sfn → Run Z EL p e below s n0 fc fs Q (T'.setTop (mkF m n ls rest))) : Run Z EL p e below s n0 fc fs Q (T.setTop (mkF m pc ls st)) :=
  call_virtualUp X hd w1 w2 w2' w3 w4 wc wi hy E hC hsf hst hsize hlen hW hfr hlo hce hsl hn fun T' h' v g hh X' q => by obtain ⟨rfl, q⟩ := q; exact K T' h' g hh X' q
end X
end Jvm.OwnW
namespace Jvm.OwnW
open Sem ClassFile Op Lib Jvm.Stand Jvm.Free Jvm.LawKit Jvm.RoadKit Bundle Jvm.Free.Exc LibCode.Throwable
section F
variable {kn : Prop} {p : Program} {l : Launch} {e : Env} {R : Room} {s : State} {m : MethodId} {args : Array Value} {below : List Frame} {meth : Method} {c : Code} {T : State} {Z : State} {a0 : Array Value} {EL : List (String × Nat)} {h h' : Heap} {n0 kc ks fc fs : Nat} {sf : List Addr} {Q : Option Value → Heap → List Addr → Prop} {y : MethodName} {bytes : ByteArray} {maxL : Nat} {ret : Option FieldType} {a b : Addr} {ty : FieldType} {vs : List Value} {sl : Nat} {v w : Value} {C f d : String} {wl : List Addr}
def fillW (rc : String) : List Cond := [.initialized tN, .superclass tN "java/lang/Object", .instanceMethod tFill, .codeSync tFill Fill.code 1 (some (.object tN)), .instanceMethod tFill0, .native tFill0, .instanceMethod tInit0, .code tInit0 Init0.code 1 none, .instanceMethod oInit, .code oInit ⟨#[0xb1]⟩ 1 none,
  .methodLink tN 1 oInit, .methodLink tN 27 tFill, .methodLink tN 202 tFill0, .fieldLink tN 7 tN "cause" thD, .fieldLink tN 17 tN "stackTrace" steD, .fieldLink tN 24 tN "suppressedExceptions" listD, .fieldLink tN 13 tN "UNASSIGNED_STACK" steD, .fieldLink tN 20 tN "SUPPRESSED_SENTINEL" listD, .fieldLink tN 198 tN "backtrace" obD,
  .laysStatic tN "UNASSIGNED_STACK" steD, .laysStatic tN "SUPPRESSED_SENTINEL" listD, .declares tFill, .selects rc tFill0 tFill0, .selects rc tFill tFill, .lays rc tN "cause" thD, .lays rc tN "stackTrace" steD, .lays rc tN "suppressedExceptions" listD, .lays rc tN "detailMessage" msgD, .lays rc tN "backtrace" obD, .lays rc tN "depth" "I",
  .arrayOver (.object "java/lang/Object"), .soleField tN "backtrace", .soleField tN "depth"]
theorem fillW_ok {rc : String} : (fillW rc).all xOk = true := rfl
set_option maxHeartbeats 4000000 in
/-- the bundle of Throwable's tables, the receiver's class rc saying what its instances lay -/
theorem ownT {s : State} {args : Array Value} {pl : Platform} {rc : String} (howns : pl.frameOwnsMonitors = true) (hfin : pl.finalization = false) (hpl : pl.magicAccessors = ({} : Platform).magicAccessors) (a : ∀ d, d ∈ fillW rc → d.before args s = true) :
    ∃ T : ThrowableC, T.Links pl s ∧ s.vm.findClass tN = some T.cT ∧ s.methodNamed? tFill = some T.fill ∧ s.methodNamed? tFill0 = some T.fill0 ∧ s.fieldFound? tN "stackTrace" steD = some (T.cT, T.kT, T.i17, T.fStack) ∧ T.fStack.type = .array (.object "java/lang/StackTraceElement") ∧ s.fieldFound? tN "UNASSIGNED_STACK" steD = some (T.cT, T.kT, T.i13, T.fUnassigned) := by
  obtain ⟨⟨c, n0⟩, mt0, a1, a2, a3, a4, a5, a6⟩ := Cond.native_spec (a (.native tFill0) (by simp [fillW]))
  have hc : s.vm.findClass tN = some c := findClass_of_methodNamed a1
  obtain ⟨k, hk, hname⟩ := Vm.findClass_spec hc
  obtain ⟨_, kk, _, _, b1, _, _, b2, _, b3⟩ := Cond.superclass_spec hc (a (.superclass tN "java/lang/Object") (by simp [fillW]))
  cases hk.symm.trans b1
  obtain ⟨iF, mtF, f1, f2, f3, f4, f5, -, -⟩ := Cond.ownMethod (x := tFill) hc hk (a (.instanceMethod tFill) (by simp [fillW]))
  obtain ⟨mtF', cF, g1, g2, g3, g4, g5, g6, -, g7⟩ := Cond.codeSync_spec f1 (a (.codeSync tFill Fill.code 1 (some (.object tN))) (by simp [fillW]))
  cases f2.symm.trans g1
  obtain ⟨i0, mtN, q1, q2, q3, q4, q5, q6, q7⟩ := Cond.ownMethod (x := tFill0) hc hk (a (.instanceMethod tFill0) (by simp [fillW]))
  cases a1.symm.trans q1
  cases a2.symm.trans q2
  obtain ⟨iZ, mtZ, z1, z2, -⟩ := Cond.ownMethod (x := tInit0) hc hk (a (.instanceMethod tInit0) (by simp [fillW]))
  obtain ⟨mtZ', cZ, z3, -⟩ := Cond.code_spec z1 (a (.code tInit0 Init0.code 1 none) (by simp [fillW]))
  obtain ⟨mO, mtO, o1, o2, o3, o4⟩ := Cond.instanceMethod_spec (a (.instanceMethod oInit) (by simp [fillW]))
  obtain ⟨mtO', cO, p1, p2, p3, -, -, p6, -, p7⟩ := Cond.code_spec o1 (a (.code oInit ⟨#[0xb1]⟩ 1 none) (by simp [fillW]))
  cases o2.symm.trans p1
  obtain ⟨kO, o5, o6⟩ := Vm.findClass_spec (findClass_of_methodNamed o1)
  obtain ⟨o7, o8⟩ := name_of_methodNamed o1 o2
  obtain ⟨ci1, n1, cf, l1, r1, w1, v1⟩ := Cond.linkedMethod hc hk o1 (a (.methodLink tN 1 oInit) (by simp [fillW])) pl hpl
  obtain ⟨ci27, n27, cf', l27, r27, w27, v27⟩ := Cond.linkedMethod hc hk f1 (a (.methodLink tN 27 tFill) (by simp [fillW])) pl hpl
  cases w1.symm.trans w27
  obtain ⟨ci202, n202, cf', l202, r202, w202, v202⟩ := Cond.linkedMethod hc hk a1 (a (.methodLink tN 202 tFill0) (by simp [fillW])) pl hpl
  cases w1.symm.trans w202
  obtain ⟨ci7, i7, f7, x1, x2, x3, x4, x5, x6, x7, x8⟩ := Cond.ownField (t := .object tN) hc hk (by decide +kernel) (a (.fieldLink tN 7 tN "cause" thD) (by simp [fillW])) (a (.lays rc tN "cause" thD) (by simp [fillW])) pl hpl
  obtain ⟨ci17, i17, f17, y1, y2, y3, y4, y5, y6, y7, y8⟩ := Cond.ownField (t := .array (.object "java/lang/StackTraceElement")) hc hk (by decide +kernel) (a (.fieldLink tN 17 tN "stackTrace" steD) (by simp [fillW])) (a (.lays rc tN "stackTrace" steD) (by simp [fillW])) pl hpl
  obtain ⟨ci24, i24, f24, u1, u2, u3, u4, u5, u6, u7, u8⟩ := Cond.ownField (t := .object "java/util/List") hc hk (by decide +kernel) (a (.fieldLink tN 24 tN "suppressedExceptions" listD) (by simp [fillW])) (a (.lays rc tN "suppressedExceptions" listD) (by simp [fillW])) pl hpl
  obtain ⟨ci13, i13, f13, aS, cS, s1, s2, s3, s4, -, -, s7, -, -, -, -, s12⟩ := Cond.ownStatic (t := .array (.object "java/lang/StackTraceElement")) hc hk (by decide +kernel) (a (.fieldLink tN 13 tN "UNASSIGNED_STACK" steD) (by simp [fillW])) (a (.laysStatic tN "UNASSIGNED_STACK" steD) (by simp [fillW])) pl hpl
  obtain ⟨ci20, i20, f20, _, _, t1, t2, t3, t4, -⟩ := Cond.ownStatic (t := .object "java/util/List") hc hk (by decide +kernel) (a (.fieldLink tN 20 tN "SUPPRESSED_SENTINEL" listD) (by simp [fillW])) (a (.laysStatic tN "SUPPRESSED_SENTINEL" listD) (by simp [fillW])) pl hpl
  obtain ⟨cR, kR, cM, kM, iM, fM, h1, h2, h3, h4, h5, -⟩ := Cond.lays_spec (a (.lays rc tN "detailMessage" msgD) (by simp [fillW]))
  obtain ⟨-, d17, e17, j17⟩ := Cond.laysAt h1 h2 y8 (a (.lays rc tN "stackTrace" steD) (by simp [fillW]))
  obtain ⟨-, d24, e24, j24⟩ := Cond.laysAt h1 h2 u8 (a (.lays rc tN "suppressedExceptions" listD) (by simp [fillW]))
  have hap := Cond.laysApart e17 e24 j17 j24 (by rw [y6, u6]; decide)
  have pO : mtO.sig.parameters.length = 0 := by rw [parTail p7 (ps := []) (r := none) (by decide +kernel)]; rfl
  refine ⟨{ cT := c, kT := k, cO := c, aS := aS, fillIdx := iF, fill0Idx := n0, initSIdx := iZ, obj := mO, kObj := kO, methFill := mtF, methFill0 := mt0, methInitS := mtZ, methObj := mtO, codeFill := cF, codeInitS := cZ, codeObj := cO, fBack := f7, fDepth := f7, fStack := f17, fCause := f7, fSupp := f24, fMsg := fM, fUnassigned := f13, fSentinel := f20, cfT := cf, ci1 := ci1, n1 := n1, ci27 := ci27, n27 := n27, ci202 := ci202, n202 := n202, ci7 := ci7, i7 := i7, ci13 := ci13, i13 := i13, ci17 := ci17, i17 := i17, ci20 := ci20, i20 := i20, ci24 := ci24, i24 := i24 }, ?_, hc, f1, a1, y8, y7, s12⟩
  constructor
  case owns => exact howns
  case noFinalization => exact hfin
  case cls => exact hk
  case name => exact hname
  case boot => exact Vm.findClass_boot hc hk
  case notInterface => exact b3
  case initialized => exact Cond.initialized_spec hc hk (a (.initialized tN) (by simp [fillW]))
  case statics => exact s7
  case fillAt => exact f3
  case fillCode => exact g2
  case fillBytes => exact g3
  case fillLocals => exact g4
  case fillLocks => exact g6
  case fillStatic => exact f4
  case fillAbstract => exact f5
  case fillReturns => exact g5
  case fillParams => exact parTail g7 (ps := []) (r := some (.object tN)) (by decide +kernel)
  case fill0At => exact q3
  case fill0Name => exact q6
  case fill0Desc => exact q7
  case fill0Params => exact parTail a6 (ps := [.int]) (r := some (.object tN)) (by decide +kernel)
  case fill0Static => exact q4
  case fill0Native => exact a3
  case fill0Code => exact a4
  case fill0Locks => exact a5
  case fill0Abstract => exact q5
  case stackInstance => exact y4
  case stackNotFinal => exact y5
  case unassignedStatic => exact s4
  case objClass => exact o5
  case objClassName => exact o6
  case objMethod => exact o2
  case objName => exact o7
  case objStatic => exact o3
  case objAbstract => exact o4
  case objFound => show lookupSpecial s.vm mO.cls "<init>" mtO.desc = .method mO; rw [o8]; exact lookupSpecial_of_named o1 o2 o3
  case objParams => exact pO
  case objCode => exact p2
  case objBytes => exact p3
  case objLocks => exact p6
  case causeInstance => exact x4
  case causeNotFinal => exact x5
  case sentinelStatic => exact t4
  case suppInstance => exact u4
  case suppNotFinal => exact u5
  case msgInstance => exact h4
  case msgNotFinal => exact h5
  case stackApartSupp => exact hap
  case file => exact w1
  case mlink1 => exact l1
  case mright1 => exact r1
  case pool1 => exact v1
  case mlink27 => exact l27
  case mright27 => exact r27
  case pool27 => exact v27
  case mlink202 => exact l202
  case mright202 => exact r202
  case pool202 => exact v202
  case link7 => exact x1
  case right7 => exact x2
  case at7 => exact x3
  case link13 => exact s1
  case right13 => exact s2
  case at13 => exact s3
  case link17 => exact y1
  case right17 => exact y2
  case at17 => exact y3
  case link20 => exact t1
  case right20 => exact t2
  case at20 => exact t3
  case link24 => exact u1
  case right24 => exact u2
  case at24 => exact u3
theorem threeWr {h : Heap} {a : Addr} {cell H : Cell} {i1 i2 i3 : Nat} {v1 v2 v3 : Value} (u1 : h[a]? = some cell) (u2 : cell.vm = .none) (l1 : i1 < cell.slots.size) (l2 : i2 < cell.slots.size) (l3 : i3 < cell.slots.size) :
    ∃ h1 h2 h3, Ext h h1 ∧ Wr h1 h2 a i1 v1 ∧ Wr h2 h3 a i2 v2 ∧ Wr h3 ((h.push H).setIfInBounds a (((cell.setSlot i1 v1).setSlot i2 v2).setSlot i3 v3)) a i3 v3 := by
  have hlt : a < h.size := (Array.getElem?_eq_some_iff.mp u1).1
  have hlt' : a < (h.push H).size := by rw [Array.size_push]; exact Nat.lt_succ_of_lt hlt
  have g0 : (h.push H)[a]? = some cell := by rw [Array.getElem?_push, if_neg (Nat.ne_of_lt hlt)]; exact u1
  have st : cell.vm.isStatics = false := by rw [u2]; rfl
  refine ⟨h.push H, (h.push H).setIfInBounds a (cell.setSlot i1 v1), (h.push H).setIfInBounds a ((cell.setSlot i1 v1).setSlot i2 v2), ⟨by simp, fun x c q => ?_⟩, ⟨cell, g0, st, l1, rfl⟩, ⟨cell.setSlot i1 v1, ?_, st, by simpa [Cell.setSlot] using l2, ?_⟩, ⟨(cell.setSlot i1 v1).setSlot i2 v2, ?_, st, by simpa [Cell.setSlot] using l3, ?_⟩⟩
  · have hx : x < h.size := (Array.getElem?_eq_some_iff.mp q).1
    rw [Array.getElem?_push, if_neg (Nat.ne_of_lt hx)]; exact q
  · rw [Array.getElem?_setIfInBounds, if_pos rfl, if_pos hlt']
  · simp
  · rw [Array.getElem?_setIfInBounds, if_pos rfl, if_pos hlt']
  · simp
set_option maxHeartbeats 4000000 in
theorem fill (X : Sd kn Z a0 EL y bytes maxL ret p l e R s m args below meth c n0 sf h kc ks T) (hk : kn) (hst : l.stackTraces = true) (hyT : y.cls = tN) (hT0 : ThS Z s.heap) {rc : String} {cz : Nat} (hf : ∀ d ∈ fillW rc, d.before a0 Z = true) (wi : (Cond.instantiable rc cz).before a0 Z = true) (E : Exa Z h a rc) (N : Unt h a) (B : Fld Z h a tN "backtrace" obD .null) {u : Addr} (G : Fld Z h a tN "stackTrace" steD (.ref u)) (S : Sta Z h tN "UNASSIGNED_STACK" steD (.ref u)) {pc n : Nat} {ls : Array Slot} {rest : List Value} (hd : decode bytes pc = .ok (.invokevirtual 27, 3)) (hsize : ls.size = maxL) (ge : n0 ≤ a) (ha : a ∈ sf) (hfr : 2 < R.frames) (hlo : (rest.map fun v => v.category).sum + 42 ≤ R.locals) (hc : kc + 1 ≤ R.cells) (hsl : ks + 2752 ≤ R.slots) (hn : pc + 3 = n) (K : ∀ T' h' h1 h2 h3 v1 v2 v3, Sd kn Z a0 EL y bytes maxL ret p l e R s m args below meth c n0 sf h' (kc + 1) (ks + 2752) T' → Ext h h1 → Wr h1 h2 a (RoadKit.slotOf Z tN "backtrace" obD) v1 → Wr h2 h3 a (RoadKit.slotOf Z tN "depth" "I") v2 → Wr h3 h' a (RoadKit.slotOf Z tN "stackTrace" steD) v3 → Run Z EL p e below s n0 fc fs Q (T'.setTop (mkF m n ls (.ref a :: rest)))) : Run Z EL p e below s n0 fc fs Q (T.setTop (mkF m pc ls (.ref a :: rest))) := by
  subst hn
  have hdc := X.dc hd
  obtain ⟨s', L, i, j, Y, r1, hZ, hown, hml, r3, r4, hx, N', hh, hkn, kK⟩ := X.opK
  obtain ⟨hTK, hBl⟩ := hkn hk
  rw [hyT] at hown
  have hT' : ThS Z s'.heap := by rw [hh]; exact hT0
  have W : ∀ d, d ∈ fillW rc → d.before args s' = true := fun d hd => mvX hT' hZ (List.all_eq_true.mp fillW_ok d hd) (hf d hd)
  have htr : e.platform.stackTraces = true := by rw [Y.admits.platform]; exact hst
  have howns : e.platform.frameOwnsMonitors = true := by rw [Y.admits.platform]
  have hfin : e.platform.finalization = false := by rw [Y.admits.platform]
  have hpl : e.platform.magicAccessors = ({} : Platform).magicAccessors := by rw [Y.admits.platform]
  obtain ⟨T0, L0, t1, t2, t3, t4, t5, t6⟩ := ownT howns hfin hpl W
  obtain ⟨cq, kq, qa, qb, qc⟩ := isOf (T := T) hZ r1 E
  obtain ⟨cell, u1, u2, u3⟩ := N
  obtain ⟨cE, kZ, e1, e2, e3, e4, e5⟩ := E
  cases u1.symm.trans e1
  have hfound : s'.vm.findClass rc = some cell.cls := by rw [hZ.alike.findClass]; exact e2
  obtain ⟨kX, x1, x2⟩ := hZ.alike.2.2 _ _ e3
  have hoZ : kZ.kind = .ordinary := by
    simp only [Cond.before, Cond.holds, Cond.value, e2, Option.bind_some, e3, Option.map_some] at wi
    simp only [beq_iff_eq, Option.some.injEq, Bool.and_eq_true, decide_eq_true_eq] at wi
    exact wi.1.1.1
  have hord : kX.kind = .ordinary := by rw [x2]; exact hoZ
  have hsz : cell.slots.size = kX.instanceTypes.size := by rw [x2]; exact e5 hoZ
  obtain ⟨ci198, i198, fB, b1, b2, b3, b4, -, b6, b7, b8⟩ := Cond.ownField (t := .object "java/lang/Object") t1 L0.cls (by decide +kernel) (W (.fieldLink tN 198 tN "backtrace" obD) (by simp [fillW])) (W (.lays rc tN "backtrace" obD) (by simp [fillW])) e.platform hpl
  obtain ⟨_, _, cD, kD, iD, fD, -, -, d1, d2, -⟩ := Cond.lays_spec (W (.lays rc tN "depth" "I") (by simp [fillW]))
  cases (Cond.lays_declared (W (.lays rc tN "depth" "I") (by simp [fillW])) d1).symm.trans t1
  obtain ⟨d3, d4⟩ := State.fieldFound?_spec d1
  cases d3.symm.trans L0.cls
  obtain ⟨d5, d6⟩ := State.fieldFound?_type d1 (t := .int) (by decide +kernel)
  have hfb := Cond.soleField_find t1 L0.cls (W (.soleField tN "backtrace") (by simp [fillW])) b3 b6 b4
  have hfd := Cond.soleField_find t1 L0.cls (W (.soleField tN "depth") (by simp [fillW])) d4 d5 d2
  obtain ⟨comp, cO, kO, -, -, o1, o2, o3⟩ := Cond.arrayOver_spec (W (.arrayOver (.object "java/lang/Object")) (by simp [fillW]))
  have tyS := (Cond.laysAt hfound x1 t4 (W (.lays rc tN "stackTrace" steD) (by simp [fillW]))).1
  have tyB := (Cond.laysAt hfound x1 b8 (W (.lays rc tN "backtrace" obD) (by simp [fillW]))).1
  have tyD := (Cond.laysAt hfound x1 d1 (W (.lays rc tN "depth" "I") (by simp [fillW]))).1
  have tk : ∀ {f : Field} {v : Value}, kX.instanceTypes[f.slot]? = some f.type → fits f.type v = true → Jvm.Takes s' cell f v := fun {f v} q1 q2 => by
    obtain ⟨z1, z2⟩ := Takes.of_laid (v := v) x1 hord q1 q2
    exact ⟨by rw [hsz]; simpa using z1, by rw [u2]; exact z2⟩
  obtain ⟨cB, _, _, _, fB', g1, g2, -, -, -, -, g7⟩ := B
  cases u1.symm.trans g1
  obtain ⟨_, _, _, g8⟩ := Jvm.Free.BdW.found_ride (U := Z) (U' := s') hZ.alike ⟨_, _, _, g2⟩
  cases b8.symm.trans g8
  obtain ⟨cG, _, _, _, fG, w1, w2, -, -, -, -, w7⟩ := G
  cases u1.symm.trans w1
  obtain ⟨_, _, _, w8⟩ := Jvm.Free.BdW.found_ride (U := Z) (U' := s') hZ.alike ⟨_, _, _, w2⟩
  cases t4.symm.trans w8
  obtain ⟨_, _, _, d7⟩ := Jvm.Free.BdW.found_ride (U := s') (U' := Z) hZ.alike.symm ⟨_, _, _, d1⟩
  obtain ⟨cf, iS, kS, fS, st, cS, s1, s2, s3, s4, s5, s6, s7⟩ := S
  obtain ⟨k', s8, s9⟩ := State.fieldFound?_setVm (s := Z) hZ.alike s1
  have s8' : s'.fieldFound? tN "UNASSIGNED_STACK" steD = some (cf, k', iS, fS) := s8
  have s10 := t6.symm.trans s8'
  simp only [Option.some.injEq, Prod.mk.injEq] at s10
  obtain ⟨-, z2, -, z4⟩ := s10
  have hst' : st = T0.aS := by
    have q := L0.statics
    rw [z2, s9] at q
    exact Option.some.inj (s4.symm.trans q)
  subst hst'
  have hne : T0.aS ≠ a := fun q => by
    rw [q] at s5; cases u1.symm.trans s5; rw [u2] at s6; cases s6
  have sel : selectMethod e.platform s'.vm cell.cls T0.fill0 = .method T0.fill0 := by
    obtain ⟨c2, r2, m2, q1, q2, q3, q4, -⟩ := Cond.selects_spec (W (.selects rc tFill0 tFill0) (by simp [fillW]))
    cases q1.symm.trans hfound
    cases q2.symm.trans (State.methodFound?_of_named t3 (by decide))
    cases q3.symm.trans t3
    rw [Launch.admits_selectMethod Y.admits]; exact q4
  have hB := Jvm.Free.Str.fillPays (l := l) (R := R) (p := p) (e := e) (below := below) (s := s') (sargs := args) (len := 3) (W := (rest.map fun v => v.category).sum) hx htr T0 L0 t2 (u0 := ⟨.ref u, rfl⟩) (by simp) (self := a) (cell := cell) (cellS := cS) (fun _ => by rw [u2]; simp) (by rw [u2]; simp) (by rw [u3]) (by rw [u3]) w7 sel hne (fun q => by rw [q] at s6; cases s6) (by rw [z4]; exact s7) (tk tyS (by rw [t5]; rfl)) ⟨{ ci198 := ci198, i198 := i198, fBack := fB }, ⟨b1, b2, b3, b4⟩, g7⟩ hTK hBl t1 o3 o1 o2 hfb hfd (fun x => tk tyB (by rw [b7]; rfl)) (fun x => tk tyD (by rw [d6]; rfl)) hfr hlo
  subst r1
  obtain ⟨v, vm1, ⟨T', L2, k2, n2⟩, -, Y', ⟨hv, vm2, lines, hl, -, hU, l', c', m'⟩, stp⟩ := Y.virtualBack hx (own := tN) (C := rc) (y := tFill) (z := tFill) hown (W (.methodLink tN 27 tFill) (by simp [fillW])) (W (.declares tFill) (by simp [fillW])) (notFace_of_selects (W (.selects rc tFill tFill) (by simp [fillW]))) (W (.selects rc tFill tFill) (by simp [fillW])) (W (.instanceMethod tFill) (by simp [fillW])) (by decide) hB qa qc (g := mkF m pc ls (.ref a :: rest)) rfl (by rw [hml]; exact hsize) (Steps.refl _) (argsL := []) (rest := rest) (fun sig hs => by rw [parTail hs (ps := []) (r := some (.object tN)) (by decide +kernel)]; rfl) rfl (by simp [mkF]) hdc (fun _ _ => ⟨rfl, by show i + 1 ≤ R.cells; omega, by show j + 2752 ≤ R.slots; omega, u1, s5⟩)
  dsimp only [Pt.U, Pt.locs, Pt.cells, Pt.slots] at Y' hU l' c' m' stp
  subst l' c' m' hv
  have ee : T'.heap = (T.heap.push (traceHolder cO lines)).setIfInBounds a (((cell.setSlot fB.slot (.ref T.heap.size)).setSlot fD.slot (.int lines.length.toInt32)).setSlot T0.fStack.slot (.ref u)) := by rw [hU]; rfl
  obtain ⟨h1, h2, h3, E1, W1, W2, W3⟩ := threeWr (h := T.heap) (H := traceHolder cO lines) (v1 := .ref T.heap.size) (v2 := .int lines.length.toInt32) (v3 := .ref u) u1 u2 (tk (v := .null) tyB (by rw [b7]; rfl)).1 (tk (v := .int 0) tyD (by rw [d6]; rfl)).1 (tk (v := .null) tyS (by rw [t5]; rfl)).1
  rw [← ee] at W3
  have sB : RoadKit.slotOf Z tN "backtrace" obD = fB.slot := by simp [RoadKit.slotOf, g2]
  have sD : RoadKit.slotOf Z tN "depth" "I" = fD.slot := by simp [RoadKit.slotOf, d7]
  have sS : RoadKit.slotOf Z tN "stackTrace" steD = T0.fStack.slot := by simp [RoadKit.slotOf, w2]
  have Kp : Keep T.heap T'.heap [a] := (((Keep.refl _ _).ext E1).wr W1 (Or.inl (List.mem_cons_self ..)) |>.wr W2 (Or.inl (List.mem_cons_self ..))).wr W3 (Or.inl (List.mem_cons_self ..))
  refine (K T' T'.heap h1 h2 h3 _ _ _ (kK T' T'.heap _ 1 2752 [a] (fun x hx => by rw [List.mem_singleton.mp hx]; exact ha) (Y'.more (Nat.le_refl _) (Nat.add_le_add_left (Nat.le_trans (traceHolder_size_le cO hl) (by decide)) _)) rfl (Fr.app N' fun y hy => ?_) Kp) E1 (by rw [sB]; exact W1) (by rw [sD]; exact W2) (by rw [sS]; exact W3)).st fun t k => stp.trans k
  simp only [List.mem_cons, List.not_mem_nil, or_false] at hy
  rcases hy with rfl | rfl | rfl <;> exact ge
end F
end Jvm.OwnW
namespace Jvm.Pilot.@@N@@
open Jvm Jvm.ClassFile Sem Op Lib Jvm.Free Jvm.Stand Jvm.LawKit Jvm.RoadKit Jvm.OwnW Bundle Jvm.Pilot.@@N@@.Jvm.D

def lo8 (x : Int32) : Int32 := x.toInt8.toInt32
theorem own_nat {i : Nat} (h : i < 2147483648) : (Int32.ofNat i).toInt = i := Int32.toInt_ofNat_small h
theorem own_lt {i n : Nat} (hi : i < 2147483648) (hn : n < 2147483648) : Int32.ofNat i < Int32.ofNat n ↔ i < n := by
  rw [Int32.lt_iff_toInt_lt, own_nat hi, own_nat hn]; omega
theorem own_eqn {i n : Nat} (hi : i < 2147483648) (hn : n < 2147483648) : Int32.ofNat i = Int32.ofNat n ↔ i = n := by
  rw [← Int32.toInt_inj, own_nat hi, own_nat hn]; omega
theorem own_up (i : Nat) : Int32.ofNat i + 1 = Int32.ofNat (i + 1) := by
  apply Int32.toInt_inj.mp; rw [Int32.toInt_add]; simp [Int32.toInt_ofNat]
def own_dst (cs : List Int32) (i : Nat) : List Value := ((cs.take i).map lo8 ++ List.replicate (cs.length - i) 0).map Value.int
theorem own_dst_len (cs : List Int32) {i : Nat} (h : i ≤ cs.length) : (own_dst cs i).length = cs.length := by simp [own_dst]; omega
theorem own_dst0 (cs : List Int32) : own_dst cs 0 = List.replicate cs.length (Value.int 0) := by simp [own_dst]
theorem own_dstN (cs : List Int32) : own_dst cs cs.length = (cs.map lo8).map Value.int := by simp [own_dst]
theorem own_dst_set (cs : List Int32) {i : Nat} (h : i < cs.length) : (own_dst cs i).set i (Value.int (lo8 (cs.getD i 0))) = own_dst cs (i + 1) := by
  have e : cs.length - i = (cs.length - (i + 1)) + 1 := by omega
  have hd : cs.getD i 0 = cs[i] := by simp [List.getD, h]
  have ht : (cs.take i).length = i := by simp; omega
  simp only [own_dst, hd, e, List.replicate_succ, List.map_append, List.map_cons]
  rw [List.set_append_right _ _ (by simp; omega)]
  have e2 : i - (List.map Value.int (List.map lo8 (List.take i cs))).length = 0 := by simp; omega
  rw [e2, List.set_cons_zero, List.take_succ_eq_append_getElem h]
  simp only [List.map_append, List.map_cons, List.map_nil, List.append_assoc, List.cons_append, List.nil_append]
theorem own_get (cs : List Int32) {i : Nat} (h : i < cs.length) : (cs.map Value.int)[i]? = some (Value.int (cs.getD i 0)) := by
  simp [List.getElem?_eq_getElem, h, List.getD]
theorem own_mem (cs : List Int32) {i : Nat} (h : i < cs.length) : cs.getD i 0 ∈ cs := by
  have hd : cs.getD i 0 = cs[i] := by simp [List.getD, h]
  rw [hd]; exact List.getElem_mem h
theorem own_narB (x : Int32) : nar .byte (lo8 x) = lo8 x := by
  show (x.toInt8.toInt32).toInt8.toInt32 = x.toInt8.toInt32
  simp
theorem own_narC {c : Int32} (h0 : ¬ c < 0) (h1 : ¬ 255 < c) : nar .char c = c := by
  have e : (255 : Int32).toInt = 255 := rfl
  have e0 : (0 : Int32).toInt = 0 := rfl
  rw [Int32.lt_iff_toInt_lt] at h0 h1
  rw [e] at h1
  rw [e0] at h0
  apply Int32.toInt_inj.mp
  have h2 := c_i2c c
  show (c.toUInt32.toUInt16.toUInt32.toInt32).toInt = c.toInt
  omega
theorem own_c0 (n : Int32) : ((n - n).toUInt32 >>> ((31 : Int32) &&& 31).toUInt32).toInt32.toInt8.toInt32 = 0 := by
  have : n - n = 0 := by simp
  rw [this]; decide
theorem own_a0 {P : Int32 → Prop} : ∀ c ∈ ([] : List Int32), P c := fun _ q => nomatch q
theorem own_aS {P : Int32 → Prop} {x : Int32} {L : List Int32} (q : P x) (r : ∀ c ∈ L, P c) : ∀ c ∈ x :: L, P c := fun c z => (List.mem_cons.mp z).elim (fun u => u ▸ q) (r c)
/-- a String of Latin-1 chars -/
def StrL (Z : State) (h : Heap) (x : Addr) (t : Addr) (cs : List Int32) : Prop := Exa Z h x "java/lang/String" ∧ Fld Z h x "java/lang/String" "coder" "B" (.int 0) ∧ Fld Z h x "java/lang/String" "value" "[B" (.ref t) ∧ Ark Z h t .byte ((cs.map lo8).map Value.int)
theorem StrL.keep {Z : State} {h h' : Heap} {x t : Addr} {cs : List Int32} {ws : List Addr} (S : StrL Z h x t cs) (K : Keep h h' ws) (q1 : x ∉ ws) (q2 : t ∉ ws) : StrL Z h' x t cs := ⟨S.1.keep K, S.2.1.keep K q1, S.2.2.1.keep K q1, S.2.2.2.keep K q2⟩
theorem StrL.ext {Z : State} {h h' : Heap} {x t : Addr} {cs : List Int32} (S : StrL Z h x t cs) (E : Ext h h') : StrL Z h' x t cs := ⟨S.1.ext E, S.2.1.ext E, S.2.2.1.ext E, S.2.2.2.ext E⟩

def own_EL : List (String × Nat) := [("java/lang/String", 7), ("com/example/conversation_framework/conversationframework/Component", 107), ("com/example/conversation_framework/conversationframework/ComponentUndeclaredPinLaw", 19), ("com/example/conversation_framework/conversationframework/ComponentUndeclaredPinLaw", 27)]
theorem own_EW {Z : State} {a0 : Array Value} (hw : ∀ d ∈ tables_1, d.before a0 Z = true) : EW Z a0 own_EL := (EW.cons (text := "") (hw _ (List.mem_of_getElem? (i := 14) rfl)) (by decide) (EW.cons (text := "no component is declared with the name ") (hw _ (List.mem_of_getElem? (i := 47) rfl)) (by decide) (EW.cons (text := "") (hw _ (List.mem_of_getElem? (i := 219) rfl)) (by decide) (EW.cons (text := "no component is declared with the name ") (hw _ (List.mem_of_getElem? (i := 226) rfl)) (by decide) EW.nil))))
theorem own_held {tb : Tables} {e : Env} {args : Array Value} {s : State} (hc : Calls_1 tb e args s) : ∀ p ∈ own_EL, Jvm.Lit.constHeld s p.1 p.2 := fun p hp => hc.2.2.1 p ((by decide +kernel : ∀ p ∈ own_EL, p ∈ consts_1) p hp)

theorem own_shr0 (x : Int32) : x >>> ((0:Int32) &&& 31) = x := by
  have e : (0:Int32) &&& 31 = 0 := by decide
  rw [e]; simp
theorem own_isref {args : Array Value} {s : State} {t : Term} (h : (Cond.isRef t).before args s = true) : ∃ v, Term.eval args s none [] s t = some v ∧ (v = .null ∨ ∃ r, v = .ref r) := by
  have q := Cond.before_iff.mp h
  simp [Cond.value] at q
  obtain ⟨a, e, q⟩ := q
  refine ⟨a, e, ?_⟩
  cases a <;> simp_all

theorem own_255 (x : Int32) : ¬ (x &&& 255).toUInt32.toUInt16.toUInt32.toInt32 < 0 ∧ ¬ 255 < (x &&& 255).toUInt32.toUInt16.toUInt32.toInt32 := by
  rw [i2c_mask]
  have h := c_and x 255 (by decide)
  have e : (255 : Int32).toInt = 255 := rfl
  have e0 : (0 : Int32).toInt = 0 := rfl
  rw [Int32.lt_iff_toInt_lt, Int32.lt_iff_toInt_lt, e, e0]
  rw [e] at h
  omega
theorem own_add (a b : Nat) : Int32.ofNat a + Int32.ofNat b = Int32.ofNat (a + b) := by
  apply Int32.toInt_inj.mp; rw [Int32.toInt_add]; simp [Int32.toInt_ofNat]
theorem own_sub (a b : Nat) (h : b ≤ a) (ha : a < 2147483648) : Int32.ofNat a - Int32.ofNat b = Int32.ofNat (a - b) := by
  apply Int32.toInt_inj.mp
  have h1 := c_isub (Int32.ofNat a) (Int32.ofNat b)
  have h2 := rng32 (Int32.ofNat a - Int32.ofNat b)
  rw [own_nat ha, own_nat (by omega)] at h1
  rw [own_nat (by omega)]
  omega
theorem own_ofInt (x : Int32) (k : Nat) (h0 : 0 ≤ x.toInt) (h : x.toInt ≤ k) (hk : k < 2147483648) : ∃ n : Nat, x = Int32.ofNat n ∧ n ≤ k := ⟨x.toInt.toNat, Int32.toInt_inj.mp (by rw [own_nat (by omega)]; omega), by omega⟩
theorem own_i2c16 (x : Int32) : ∃ n : Nat, x.toUInt32.toUInt16.toUInt32.toInt32 = Int32.ofNat n ∧ n ≤ 65535 := by
  have h := c_i2c x
  exact own_ofInt _ 65535 h.2.1 (by omega) (by decide)
theorem own_nar16 {n : Nat} (h : n ≤ 65535) : nar .char (Int32.ofNat n) = Int32.ofNat n := by
  apply Int32.toInt_inj.mp
  have h2 := c_i2c (Int32.ofNat n)
  rw [own_nat (by omega)] at h2
  show ((Int32.ofNat n).toUInt32.toUInt16.toUInt32.toInt32).toInt = _
  rw [own_nat (by omega)]
  omega
theorem own_shl1 {i : Nat} (h : i < 1000000000) : (Int32.ofNat i) <<< ((1 : Int32) &&& 31) = Int32.ofNat (2 * i) := by
  have h1 := c_ishl (Int32.ofNat i) 1 1 (by decide)
  have h2 := rng32 ((Int32.ofNat i) <<< ((1 : Int32) &&& 31))
  rw [own_nat (by omega)] at h1
  apply Int32.toInt_inj.mp
  rw [own_nat (by omega)]
  omega
theorem own_join16 {k : Nat} (h : k ≤ 65535) : ((((lo8 (Int32.ofNat k >>> ((0 : Int32) &&& 31)) &&& 255) <<< ((0 : Int32) &&& 31)) ||| ((lo8 (Int32.ofNat k >>> ((8 : Int32) &&& 31)) &&& 255) <<< ((8 : Int32) &&& 31))).toUInt32.toUInt16.toUInt32.toInt32) = Int32.ofNat k := by
  have e := own_nat (i := k) (by omega)
  have s0 := c_ishr (Int32.ofNat k) 0 0 (by decide)
  have s8 := c_ishr (Int32.ofNat k) 8 8 (by decide)
  rw [e] at s0 s8
  generalize Int32.ofNat k >>> ((0 : Int32) &&& 31) = a0 at *
  generalize Int32.ofNat k >>> ((8 : Int32) &&& 31) = a8 at *
  have b0 := c_i2b a0
  have b8 := c_i2b a8
  have m0 := c_mask (lo8 a0) 255 8 (by decide) (by decide)
  have m8 := c_mask (lo8 a8) 255 8 (by decide) (by decide)
  have l0 : (lo8 a0).toInt = a0.toInt8.toInt32.toInt := rfl
  have l8 : (lo8 a8).toInt = a8.toInt8.toInt32.toInt := rfl
  rw [l0] at m0
  rw [l8] at m8
  generalize lo8 a0 &&& 255 = x0 at *
  generalize lo8 a8 &&& 255 = x8 at *
  have t0 := c_ishl x0 0 0 (by decide)
  have t8 := c_ishl x8 8 8 (by decide)
  have r0 := rng32 (x0 <<< ((0 : Int32) &&& 31))
  have r8 := rng32 (x8 <<< ((8 : Int32) &&& 31))
  generalize x0 <<< ((0 : Int32) &&& 31) = y0 at *
  generalize x8 <<< ((8 : Int32) &&& 31) = y8 at *
  have o := c_or' y0 y8 8 (by decide) 256 (by decide) (by omega) (by omega) (by omega)
  have ro := rng32 (y0 ||| y8)
  have c := c_i2c (y0 ||| y8)
  apply Int32.toInt_inj.mp
  rw [e]
  omega
theorem own_lat16 {k : Nat} (h : k ≤ 255) : (lo8 (Int32.ofNat k) &&& 255).toUInt32.toUInt16.toUInt32.toInt32 = Int32.ofNat k := by
  have e := own_nat (i := k) (by omega)
  have b := c_i2b (Int32.ofNat k)
  have m := c_mask (lo8 (Int32.ofNat k)) 255 8 (by decide) (by decide)
  have l0 : (lo8 (Int32.ofNat k)).toInt = (Int32.ofNat k).toInt8.toInt32.toInt := rfl
  rw [l0] at m
  rw [e] at b
  have c := c_i2c (lo8 (Int32.ofNat k) &&& 255)
  apply Int32.toInt_inj.mp
  rw [e]
  omega

theorem own_shl0 (x : Int32) : x <<< ((0 : Int32) &&& 31) = x := by
  have e : (0 : Int32) &&& 31 = 0 := by decide
  rw [e]; simp
theorem own_shr1 {i : Nat} (h : i < 2147483648) : (Int32.ofNat i) >>> ((1 : Int32) &&& 31) = Int32.ofNat (i / 2) := by
  have h1 := c_ishr (Int32.ofNat i) 1 1 (by decide)
  rw [own_nat h] at h1
  apply Int32.toInt_inj.mp
  rw [own_nat (by omega)]
  omega
theorem own_and255 {k : Nat} (h : k ≤ 255) : lo8 (Int32.ofNat k) &&& 255 = Int32.ofNat k := by
  have e := own_nat (i := k) (by omega)
  have b := c_i2b (Int32.ofNat k)
  have m := c_mask (lo8 (Int32.ofNat k)) 255 8 (by decide) (by decide)
  have l0 : (lo8 (Int32.ofNat k)).toInt = (Int32.ofNat k).toInt8.toInt32.toInt := rfl
  rw [l0] at m
  rw [e] at b
  apply Int32.toInt_inj.mp
  rw [e]
  omega
theorem own_c1 {n : Nat} (h : 0 < n) (h3 : n ≤ 3) : ((Int32.ofNat n - Int32.ofNat (2 * n)).toUInt32 >>> ((31 : Int32) &&& 31).toUInt32).toInt32.toInt8.toInt32 = 1 := by
  rcases (by omega : n = 1 ∨ n = 2 ∨ n = 3) with rfl | rfl | rfl <;> decide
theorem own_or0 {x y : Int32} (hx : ¬ x < 0) (hy : ¬ y < 0) : ¬ (x ||| y) < 0 := by
  have e : ∀ z : Int32, z < 0 ↔ z.toBitVec.msb = true := fun z => by
    rw [Int32.lt_iff_toInt_lt, BitVec.msb_eq_toInt]
    show z.toBitVec.toInt < 0 ↔ _
    simp
  rw [e] at hx hy ⊢
  show ¬ (x.toBitVec ||| y.toBitVec).msb = true
  rw [BitVec.msb_or]
  simp_all
def own_pre : List Nat := [110, 111, 32, 99, 111, 109, 112, 111, 110, 101, 110, 116, 32, 105, 115, 32, 100, 101, 99, 108, 97, 114, 101, 100, 32, 119, 105, 116, 104, 32, 116, 104, 101, 32, 110, 97, 109, 101, 32]
abbrev own_lb (us : List Nat) : List Value := ((us.map Int32.ofNat).map lo8).map Value.int
def own_ub (us : List Nat) : List Value := us.flatMap fun k => [Value.int (lo8 (Int32.ofNat k >>> ((0 : Int32) &&& 31))), Value.int (lo8 (Int32.ofNat k >>> ((8 : Int32) &&& 31)))]
theorem own_lb_len (us : List Nat) : (own_lb us).length = us.length := by simp [own_lb]
theorem own_ub_cons (k : Nat) (us : List Nat) : own_ub (k :: us) = Value.int (lo8 (Int32.ofNat k >>> ((0 : Int32) &&& 31))) :: Value.int (lo8 (Int32.ofNat k >>> ((8 : Int32) &&& 31))) :: own_ub us := by simp [own_ub]
theorem own_ub_len : ∀ us : List Nat, (own_ub us).length = 2 * us.length
  | [] => rfl
  | k :: us => by rw [own_ub_cons, List.length_cons, List.length_cons, own_ub_len us, List.length_cons]; omega
theorem own_ub_app (a b : List Nat) : own_ub (a ++ b) = own_ub a ++ own_ub b := by simp [own_ub]
theorem own_ub_get : ∀ (us : List Nat) (i : Nat), i < us.length → (own_ub us)[2 * i]? = some (Value.int (lo8 (Int32.ofNat (us.getD i 0) >>> ((0 : Int32) &&& 31)))) ∧ (own_ub us)[2 * i + 1]? = some (Value.int (lo8 (Int32.ofNat (us.getD i 0) >>> ((8 : Int32) &&& 31))))
  | [], i, h => absurd h (Nat.not_lt_zero _)
  | k :: us, 0, _ => by rw [own_ub_cons]; exact ⟨rfl, rfl⟩
  | k :: us, i + 1, h => by
    have q := own_ub_get us i (by simpa using h)
    rw [own_ub_cons]
    have e1 : 2 * (i + 1) = 2 * i + 1 + 1 := by omega
    rw [e1]
    exact q
theorem own_put2 (P R : List Value) (i : Nat) (hP : P.length = 2 * i) (x y a b : Value) : ((P ++ a :: b :: R).set (2 * i) x).set (2 * i + 1) y = P ++ x :: y :: R := by
  rw [List.set_append_right _ _ (by omega), List.set_append_right _ _ (by omega)]
  have e0 : 2 * i - P.length = 0 := by omega
  have e1 : 2 * i + 1 - P.length = 1 := by omega
  rw [e0, e1]; rfl
theorem own_put (us : List Nat) (i m : Nat) (hi : i < us.length) (hm : i < m) : ((own_ub (us.take i) ++ List.replicate (2 * (m - i)) (Value.int 0)).set (2 * i) (Value.int (lo8 (Int32.ofNat (us.getD i 0) >>> ((0 : Int32) &&& 31))))).set (2 * i + 1) (Value.int (lo8 (Int32.ofNat (us.getD i 0) >>> ((8 : Int32) &&& 31)))) = own_ub (us.take (i + 1)) ++ List.replicate (2 * (m - (i + 1))) (Value.int 0) := by
  have e : 2 * (m - i) = 2 * (m - (i + 1)) + 1 + 1 := by omega
  have hd : us.getD i 0 = us[i] := by simp [List.getD, hi]
  rw [e, List.replicate_succ, List.replicate_succ, own_put2 _ _ i (by rw [own_ub_len]; simp; omega), List.take_succ_eq_append_getElem hi, own_ub_app, hd, List.append_assoc]
  rfl
theorem own_getU (us : List Nat) {i : Nat} (h : i < us.length) : ((us.map Int32.ofNat).map Value.int)[i]? = some (Value.int (Int32.ofNat (us.getD i 0))) := by
  simp [List.getElem?_eq_getElem, h, List.getD]
theorem own_getM (us : List Nat) {i : Nat} (h : i < us.length) : (us.map Int32.ofNat).getD i 0 = Int32.ofNat (us.getD i 0) := by
  simp [h, List.getD]
theorem own_memU (us : List Nat) {i : Nat} (h : i < us.length) : us.getD i 0 ∈ us := by
  have hd : us.getD i 0 = us[i] := by simp [List.getD, h]
  rw [hd]; exact List.getElem_mem h
theorem own_allU (us : List Nat) (h : ∀ j, j < us.length → us.getD j 0 ≤ 255) : ∀ u ∈ us, u ≤ 255 := by
  intro u hu
  obtain ⟨i, hi, rfl⟩ := List.getElem_of_mem hu
  have q := h i hi
  simpa [List.getD, hi] using q
theorem own_latU (us : List Nat) {i : Nat} (h : i < us.length) (ha : ∀ u ∈ us, u ≤ 255) : (((us.map Int32.ofNat).map lo8).getD i 0 &&& 255).toUInt32.toUInt16.toUInt32.toInt32 = Int32.ofNat (us.getD i 0) := by
  have e : ((us.map Int32.ofNat).map lo8).getD i 0 = lo8 (Int32.ofNat (us.getD i 0)) := by simp [h, List.getD]
  rw [e]; exact own_lat16 (ha _ (own_memU us h))
theorem own_cp1 (vs : List Value) {nl : Nat} (h : vs.length < nl) : (List.replicate nl (Value.int 0)).take 0 ++ (vs.drop 0).take vs.length ++ (List.replicate nl (Value.int 0)).drop (0 + vs.length) = vs ++ List.replicate (nl - vs.length) (Value.int 0) := by simp
theorem own_cp2 (vd ws : List Value) (d n : Nat) (h : ws.length = n) : vd.take d ++ (ws.drop 0).take n ++ vd.drop (d + n) = vd.take d ++ ws ++ vd.drop (d + n) := by subst h; simp
theorem own_cp3 (vs : List Value) {nn : Nat} (h : nn ≤ vs.length) : (List.replicate nn (Value.int 0)).take 0 ++ (vs.drop 0).take nn ++ (List.replicate nn (Value.int 0)).drop (0 + nn) = vs.take nn := by simp
theorem own_mid (P R Q : List Value) {n : Nat} (k : Nat) (hP : P.length = n) : (P ++ R).take n ++ Q ++ (P ++ R).drop (n + k) = P ++ Q ++ R.drop k := by
  subst hP
  rw [List.take_left, List.drop_append]
  have e : P.length + k - P.length = k := by omega
  rw [e, List.drop_of_length_le (by omega)]
  simp
/-- a StringBuilder: its array, coder and count -/
def own_B (Z : State) (h : Heap) (b t : Addr) (cd n : Int32) : Prop := Exa Z h b "java/lang/StringBuilder" ∧ Fld Z h b "java/lang/AbstractStringBuilder" "value" "[B" (.ref t) ∧ Fld Z h b "java/lang/AbstractStringBuilder" "coder" "B" (.int cd) ∧ Fld Z h b "java/lang/AbstractStringBuilder" "count" "I" (.int n) ∧ Fld Z h b "java/lang/AbstractStringBuilder" "maybeLatin1" "Z" (.int 0)
/-- a String of 16-bit chars, Latin-1 where it can be -/
def own_U (Z : State) (h : Heap) (x t : Addr) (us : List Nat) : Prop := ((∀ u ∈ us, u ≤ 255) ∧ StrL Z h x t (us.map Int32.ofNat)) ∨ (¬ (∀ u ∈ us, u ≤ 255) ∧ Exa Z h x "java/lang/String" ∧ Fld Z h x "java/lang/String" "coder" "B" (.int 1) ∧ Fld Z h x "java/lang/String" "value" "[B" (.ref t) ∧ Ark Z h t .byte (own_ub us))
theorem own_U.keep {Z : State} {h h' : Heap} {x t : Addr} {us : List Nat} {ws : List Addr} (S : own_U Z h x t us) (K : Keep h h' ws) (q1 : x ∉ ws) (q2 : t ∉ ws) : own_U Z h' x t us := by
  rcases S with ⟨a, S⟩ | ⟨a, b, c, d, e⟩
  · exact Or.inl ⟨a, S.keep K q1 q2⟩
  · exact Or.inr ⟨a, b.keep K, c.keep K q1, d.keep K q1, e.keep K q2⟩
theorem own_U.exa {Z : State} {h : Heap} {x t : Addr} {us : List Nat} (S : own_U Z h x t us) : Exa Z h x "java/lang/String" := by
  rcases S with ⟨_, S⟩ | ⟨_, a, _⟩
  · exact S.1
  · exact a
theorem own_U.arr {Z : State} {h : Heap} {x t : Addr} {us : List Nat} (S : own_U Z h x t us) : t < h.size := by
  rcases S with ⟨_, S⟩ | ⟨_, _, _, _, a⟩
  · exact S.2.2.2.lt
  · exact a.lt
theorem own_lbget (ks : List Nat) (rv : List Value) {i : Nat} (h : i < ks.length) : (own_lb ks ++ rv)[i]? = some (Value.int (lo8 (Int32.ofNat (ks.getD i 0)))) := by
  rw [List.getElem?_append_left (by rw [own_lb_len]; exact h)]
  simp [own_lb, List.getD, h]
theorem own_cp0 (vs : List Value) (us : List Nat) {cc : Nat} (hc : cc = vs.length) (h : us.length = 0) : vs.take cc ++ own_lb us ++ vs.drop (cc + us.length) = vs := by
  have e : us = [] := List.length_eq_zero_iff.mp h
  subst e hc
  simp [own_lb]
theorem own_preall : ∀ u ∈ own_pre, u ≤ 255 := by decide
theorem own_preA (us : List Nat) (h : ∀ u ∈ us, u ≤ 255) : ∀ u ∈ own_pre ++ us, u ≤ 255 := fun u hu => (List.mem_append.mp hu).elim (own_preall u) (h u)
theorem own_V1 : (List.replicate 16 (Value.int 0) ++ List.replicate ((List.replicate 16 (Value.int 0)).length + 23 - (List.replicate 16 (Value.int 0)).length) (Value.int 0)).take 0 ++ own_lb own_pre ++ (List.replicate 16 (Value.int 0) ++ List.replicate ((List.replicate 16 (Value.int 0)).length + 23 - (List.replicate 16 (Value.int 0)).length) (Value.int 0)).drop (0 + own_pre.length) = own_lb own_pre := by
  have e : (List.replicate 16 (Value.int 0) ++ List.replicate ((List.replicate 16 (Value.int 0)).length + 23 - (List.replicate 16 (Value.int 0)).length) (Value.int 0)).drop (0 + own_pre.length) = [] := by
    apply List.drop_of_length_le
    simp [own_pre]
  rw [e]; simp
theorem own_lb_app (a b : List Nat) : own_lb (a ++ b) = own_lb a ++ own_lb b := by simp [own_lb]
theorem own_V2 (us : List Nat) (h : us.length ≤ 3) : (own_lb own_pre ++ List.replicate ((own_lb own_pre).length + 41 - (own_lb own_pre).length) (Value.int 0)).take 39 ++ own_lb us ++ (own_lb own_pre ++ List.replicate ((own_lb own_pre).length + 41 - (own_lb own_pre).length) (Value.int 0)).drop (39 + us.length) = own_lb (own_pre ++ us) ++ List.replicate (41 - us.length) (Value.int 0) := by
  have e39 : (own_lb own_pre).length = 39 := rfl
  have e : (own_lb own_pre).length + 41 - (own_lb own_pre).length = 41 := by omega
  rw [e, own_mid _ _ _ _ e39, own_lb_app, List.drop_replicate]
theorem own_V2u (us : List Nat) (h : us.length ≤ 3) : (own_ub own_pre ++ List.replicate (2 * 41) (Value.int 0)).take (2 * own_pre.length) ++ own_ub us ++ (own_ub own_pre ++ List.replicate (2 * 41) (Value.int 0)).drop (2 * own_pre.length + 2 * us.length) = own_ub (own_pre ++ us) ++ List.replicate (2 * (41 - us.length)) (Value.int 0) := by
  have e : 2 * 41 - 2 * us.length = 2 * (41 - us.length) := by omega
  rw [own_mid _ _ _ _ (own_ub_len own_pre), own_ub_app, List.drop_replicate, e]
theorem own_V3 (us : List Nat) (h : us.length ≤ 3) : (own_lb (own_pre ++ us) ++ List.replicate (41 - us.length) (Value.int 0)).take (39 + us.length) = own_lb (own_pre ++ us) := by
  have e : (own_lb (own_pre ++ us)).length = 39 + us.length := by
    rw [own_lb_len, List.length_append]; rfl
  rw [← e, List.take_left]
theorem own_V3u (us : List Nat) (h : us.length ≤ 3) : (own_ub (own_pre ++ us) ++ List.replicate (2 * (41 - us.length)) (Value.int 0)).take (2 * (own_pre.length + us.length)) = own_ub (own_pre ++ us) := by
  have e : (own_ub (own_pre ++ us)).length = 2 * (own_pre.length + us.length) := by
    rw [own_ub_len, List.length_append]
  rw [← e, List.take_left]
theorem own_V3e (us : List Nat) (h : us.length = 0) : own_lb (own_pre ++ us) = own_lb own_pre := by
  have e : us = [] := List.length_eq_zero_iff.mp h
  subst e
  rw [List.append_nil]

theorem pf_java_lang_Math_max__II_I : plainFor (⟨"java/lang/Math", "max", "(II)I"⟩ : MethodName) = true := by decide +kernel
theorem d14_0 : decode jdk_29_method_65_code 0 = .ok (.iload_n 0, 1) := by decide +kernel
theorem d14_1 : decode jdk_29_method_65_code 1 = .ok (.iload_n 1, 1) := by decide +kernel
theorem d14_2 : decode jdk_29_method_65_code 2 = .ok (.if_icmp .lt 7, 3) := by decide +kernel
theorem d14_5 : decode jdk_29_method_65_code 5 = .ok (.iload_n 0, 1) := by decide +kernel
theorem d14_6 : decode jdk_29_method_65_code 6 = .ok (.goto 4, 3) := by decide +kernel
theorem d14_9 : decode jdk_29_method_65_code 9 = .ok (.iload_n 1, 1) := by decide +kernel
theorem d14_10 : decode jdk_29_method_65_code 10 = .ok (.ireturn, 1) := by decide +kernel
theorem ef_rm14 (m : MethodId) (x0 : Int32) (x1 : Int32) : entryFrame m #[(.int x0), (.int x1)] 2 = mkF m 0 #[.val (.int x0), .val (.int x1)] [] := by first | (simp [entryFrame, mkF, argsToLocals, Value.category]; done) | rfl
set_option maxRecDepth 65536 in
set_option maxHeartbeats 40000000 in
theorem rm14 {kn : Prop} (l : Launch) (Z : State) (a0 : Array Value) (hw : ∀ d ∈ tables_1, d.before a0 Z = true) (hE : EW Z a0 own_EL) (ws : List Jvm.Cond)  (h0 : Heap) (n0 : Nat) (ma mb mq : Nat) (hma : ma < 2147483648) (hmb : mb < 2147483648) (hq : (mq = ma ∧ mb ≤ ma) ∨ (mq = mb ∧ ma ≤ mb)) :
    Ctr kn l Z own_EL (⟨"java/lang/Math", "max", "(II)I"⟩ : MethodName) jdk_29_method_65_code 2 (some .int) ws ({ frames := 0, cells := 0, slots := 0, locals := 0 } : Room) n0 ([]) #[(.int (Int32.ofNat ma)), (.int (Int32.ofNat mb))] h0 (Rt (fun w h g => w = .int (Int32.ofNat mq) ∧ h0 = h)) := by
  refine Ctr.of pf_java_lang_Math_max__II_I hE (fun m => ef_rm14 m (Int32.ofNat ma) (Int32.ofNat mb)) ?_
  intro p e s m below meth c T0 X0
  refine OwnW.iloadN X0 (n := 1) d14_0 rfl rfl ?_
  refine OwnW.iloadN X0 (n := 2) d14_1 rfl rfl ?_
  refine OwnW.ic_lt X0  (n1 := 9) (n2 := 5) d14_2 (by decide) rfl rfl (fun hc2 => ?_) (fun hc2 => ?_)
  · have kk1 : ma < mb := (own_lt (i := ma) (n := mb) (by omega) (by omega)).mp hc2
    refine OwnW.iloadN X0 (n := 10) d14_9 rfl rfl ?_
    exact OwnW.ireturn X0 rfl (Or.inl rfl) rfl d14_10 ⟨by rw [show mq = mb from by omega], rfl⟩ (by decide) (by decide)
  · have kk2 : ¬ ma < mb := fun q => hc2 ((own_lt (i := ma) (n := mb) (by omega) (by omega)).mpr q)
    refine OwnW.iloadN X0 (n := 6) d14_5 rfl rfl ?_
    refine OwnW.goto X0 (n := 10) d14_6 (by decide) rfl ?_
    exact OwnW.ireturn X0 rfl (Or.inl rfl) rfl d14_10 ⟨by rw [show mq = ma from by omega], rfl⟩ (by decide) (by decide)
theorem pf_java_lang_Math_min__II_I : plainFor (⟨"java/lang/Math", "min", "(II)I"⟩ : MethodName) = true := by decide +kernel
theorem d16_0 : decode jdk_29_method_69_code 0 = .ok (.iload_n 0, 1) := by decide +kernel
theorem d16_1 : decode jdk_29_method_69_code 1 = .ok (.iload_n 1, 1) := by decide +kernel
theorem d16_2 : decode jdk_29_method_69_code 2 = .ok (.if_icmp .gt 7, 3) := by decide +kernel
theorem d16_5 : decode jdk_29_method_69_code 5 = .ok (.iload_n 0, 1) := by decide +kernel
theorem d16_6 : decode jdk_29_method_69_code 6 = .ok (.goto 4, 3) := by decide +kernel
theorem d16_9 : decode jdk_29_method_69_code 9 = .ok (.iload_n 1, 1) := by decide +kernel
theorem d16_10 : decode jdk_29_method_69_code 10 = .ok (.ireturn, 1) := by decide +kernel
theorem ef_rm16 (m : MethodId) (x0 : Int32) (x1 : Int32) : entryFrame m #[(.int x0), (.int x1)] 2 = mkF m 0 #[.val (.int x0), .val (.int x1)] [] := by first | (simp [entryFrame, mkF, argsToLocals, Value.category]; done) | rfl
set_option maxRecDepth 65536 in
set_option maxHeartbeats 40000000 in
theorem rm16 {kn : Prop} (l : Launch) (Z : State) (a0 : Array Value) (hw : ∀ d ∈ tables_1, d.before a0 Z = true) (hE : EW Z a0 own_EL) (ws : List Jvm.Cond)  (h0 : Heap) (n0 : Nat) (ma mb mq : Nat) (hma : ma < 2147483648) (hmb : mb < 2147483648) (hq : (mq = ma ∧ ma ≤ mb) ∨ (mq = mb ∧ mb ≤ ma)) :
    Ctr kn l Z own_EL (⟨"java/lang/Math", "min", "(II)I"⟩ : MethodName) jdk_29_method_69_code 2 (some .int) ws ({ frames := 0, cells := 0, slots := 0, locals := 0 } : Room) n0 ([]) #[(.int (Int32.ofNat ma)), (.int (Int32.ofNat mb))] h0 (Rt (fun w h g => w = .int (Int32.ofNat mq) ∧ h0 = h)) := by
  refine Ctr.of pf_java_lang_Math_min__II_I hE (fun m => ef_rm16 m (Int32.ofNat ma) (Int32.ofNat mb)) ?_
  intro p e s m below meth c T0 X0
  refine OwnW.iloadN X0 (n := 1) d16_0 rfl rfl ?_
  refine OwnW.iloadN X0 (n := 2) d16_1 rfl rfl ?_
  refine OwnW.ic_gt X0  (n1 := 9) (n2 := 5) d16_2 (by decide) rfl rfl (fun hc2 => ?_) (fun hc2 => ?_)
  · have kk1 : mb < ma := (own_lt (i := mb) (n := ma) (by omega) (by omega)).mp hc2
    refine OwnW.iloadN X0 (n := 10) d16_9 rfl rfl ?_
    exact OwnW.ireturn X0 rfl (Or.inl rfl) rfl d16_10 ⟨by rw [show mq = mb from by omega], rfl⟩ (by decide) (by decide)
  · have kk2 : ¬ mb < ma := fun q => hc2 ((own_lt (i := mb) (n := ma) (by omega) (by omega)).mpr q)
    refine OwnW.iloadN X0 (n := 6) d16_5 rfl rfl ?_
    refine OwnW.goto X0 (n := 10) d16_6 (by decide) rfl ?_
    exact OwnW.ireturn X0 rfl (Or.inl rfl) rfl d16_10 ⟨by rw [show mq = ma from by omega], rfl⟩ (by decide) (by decide)
theorem pd__II_I : parseMethodDescriptor "(II)I" = some ⟨[.int, .int], some .int⟩ := by decide +kernel
theorem pn_jdk_internal_util_ArraysSupport : plainName "jdk/internal/util/ArraysSupport" = true := by first | (simp [plainName, overriddenIn]; done) | decide +kernel
theorem d13_0 : decode jdk_48_method_27_code 0 = .ok (.iload_n 0, 1) := by decide +kernel
theorem d13_1 : decode jdk_48_method_27_code 1 = .ok (.iload_n 1, 1) := by decide +kernel
theorem d13_2 : decode jdk_48_method_27_code 2 = .ok (.iload_n 2, 1) := by decide +kernel
theorem d13_3 : decode jdk_48_method_27_code 3 = .ok (.invokestatic 194, 3) := by decide +kernel
theorem d13_6 : decode jdk_48_method_27_code 6 = .ok (.iadd, 1) := by decide +kernel
theorem d13_7 : decode jdk_48_method_27_code 7 = .ok (.istore_n 3, 1) := by decide +kernel
theorem d13_8 : decode jdk_48_method_27_code 8 = .ok (.iconst 0, 1) := by decide +kernel
theorem d13_9 : decode jdk_48_method_27_code 9 = .ok (.iload_n 3, 1) := by decide +kernel
theorem d13_10 : decode jdk_48_method_27_code 10 = .ok (.if_icmp .ge 11, 3) := by decide +kernel
theorem d13_13 : decode jdk_48_method_27_code 13 = .ok (.iload_n 3, 1) := by decide +kernel
theorem d13_14 : decode jdk_48_method_27_code 14 = .ok (.ldc 200, 2) := by decide +kernel
theorem d13_16 : decode jdk_48_method_27_code 16 = .ok (.if_icmp .gt 5, 3) := by decide +kernel
theorem d13_19 : decode jdk_48_method_27_code 19 = .ok (.iload_n 3, 1) := by decide +kernel
theorem d13_20 : decode jdk_48_method_27_code 20 = .ok (.ireturn, 1) := by decide +kernel
theorem ef_rm13 (m : MethodId) (x0 : Int32) (x1 : Int32) (x2 : Int32) : entryFrame m #[(.int x0), (.int x1), (.int x2)] 4 = mkF m 0 #[.val (.int x0), .val (.int x1), .val (.int x2), .unset] [] := by first | (simp [entryFrame, mkF, argsToLocals, Value.category]; done) | rfl
set_option maxRecDepth 65536 in
set_option maxHeartbeats 40000000 in
theorem rm13 {kn : Prop} (l : Launch) (Z : State) (a0 : Array Value) (hw : ∀ d ∈ tables_1, d.before a0 Z = true) (hE : EW Z a0 own_EL) (ws : List Jvm.Cond)  (h0 : Heap) (n0 : Nat) (ma mb mc mq : Nat) (hma : ma < 1000) (hmb : mb < 1000) (hmc : mc < 1000) (hpos : 0 < ma + mq) (hq : (mq = mb ∧ mc ≤ mb) ∨ (mq = mc ∧ mb ≤ mc)) :
    Ctr kn l Z own_EL (⟨"jdk/internal/util/ArraysSupport", "newLength", "(III)I"⟩ : MethodName) jdk_48_method_27_code 4 (some .int) ws ({ frames := 1, cells := 0, slots := 0, locals := 14 } : Room) n0 ([]) #[(.int (Int32.ofNat ma)), (.int (Int32.ofNat mb)), (.int (Int32.ofNat mc))] h0 (Rt (fun w h g => w = .int (Int32.ofNat (ma + mq)) ∧ h0 = h)) := by
  refine Ctr.of (plainFor_of_name pn_jdk_internal_util_ArraysSupport) hE (fun m => ef_rm13 m (Int32.ofNat ma) (Int32.ofNat mb) (Int32.ofNat mc)) ?_
  intro p e s m below meth c T0 X0
  refine OwnW.iloadN X0 (n := 1) d13_0 rfl rfl ?_
  refine OwnW.iloadN X0 (n := 2) d13_1 rfl rfl ?_
  refine OwnW.iloadN X0 (n := 3) d13_2 rfl rfl ?_
  refine OwnW.call_static_v X0 (z := (⟨"java/lang/Math", "max", "(II)I"⟩ : MethodName)) (n := 6) d13_3 (hw _ (List.mem_of_getElem? (i := 85) rfl)) (hw _ (List.mem_of_getElem? (i := 86) rfl)) (hw _ (List.mem_of_getElem? (i := 88) rfl)) (hw _ (List.mem_of_getElem? (i := 87) rfl)) (by decide) (rm14 l Z a0 hw hE [] h0 n0 mb mc mq (by omega) (by omega) hq) OwnW.sf0 (argsL := [(.int (Int32.ofNat mb)), (.int (Int32.ofNat mc))]) (rest := [(.int (Int32.ofNat ma))]) rfl rfl (OwnW.lenA pd__II_I rfl) (W := 1) (Nat.le_of_eq rfl) (by decide) (by decide) (by decide) (by decide) rfl ?_
  intro T1 h1 w1 g1 hle1 X1 ⟨q1, q2⟩
  subst q1 q2
  refine OwnW.iadd X1 (n := 7) d13_6 rfl ?_
  rw [show (((Int32.ofNat ma) + (Int32.ofNat mq)) : Int32) = (Int32.ofNat (ma + mq)) from own_add ma mq]
  refine OwnW.istoreN X1 (l' := #[.val (.int (Int32.ofNat ma)), .val (.int (Int32.ofNat mb)), .val (.int (Int32.ofNat mc)), .val (.int (Int32.ofNat (ma + mq)))]) (n := 8) d13_7 rfl rfl ?_
  refine OwnW.iconst X1 (z := (0 : Int32)) (n := 9) d13_8 rfl rfl ?_
  refine OwnW.iloadN X1 (n := 10) d13_9 rfl rfl ?_
  refine OwnW.ic_ge X1  (n1 := 21) (n2 := 13) d13_10 (by decide) rfl rfl (fun q => absurd (((own_lt (i := 0) (n := (ma + mq)) (by omega) (by omega)).mpr (by omega)) : (0 : Int32) < (Int32.ofNat (ma + mq))) q) (fun _ => ?_)
  refine OwnW.iloadN X1 (n := 14) d13_13 rfl rfl ?_
  refine OwnW.ldc X1 (n := 16) d13_14 (hw _ (List.mem_of_getElem? (i := 89) rfl)) rfl ?_
  refine OwnW.ic_gt X1  (n1 := 21) (n2 := 19) d13_16 (by decide) rfl rfl (fun q => absurd q ((fun q => by have z := (own_lt (i := 2147483639) (n := (ma + mq)) (by omega) (by omega)).mp q; omega) : ¬ (2147483639 : Int32) < (Int32.ofNat (ma + mq)))) (fun _ => ?_)
  refine OwnW.iloadN X1 (n := 20) d13_19 rfl rfl ?_
  exact OwnW.ireturn X1 rfl (Or.inl rfl) rfl d13_20 ⟨rfl, rfl⟩ (by decide) (by decide)
theorem pd__III_I : parseMethodDescriptor "(III)I" = some ⟨[.int, .int, .int], some .int⟩ := by decide +kernel
theorem pn_java_lang_AbstractStringBuilder : plainName "java/lang/AbstractStringBuilder" = true := by first | (simp [plainName, overriddenIn]; done) | decide +kernel
theorem d12_0 : decode jdk_68_method_10_code 0 = .ok (.aload_n 0, 1) := by decide +kernel
theorem d12_1 : decode jdk_68_method_10_code 1 = .ok (.getfield 15, 3) := by decide +kernel
theorem d12_4 : decode jdk_68_method_10_code 4 = .ok (.arraylength, 1) := by decide +kernel
theorem d12_5 : decode jdk_68_method_10_code 5 = .ok (.istore_n 2, 1) := by decide +kernel
theorem d12_6 : decode jdk_68_method_10_code 6 = .ok (.iload_n 1, 1) := by decide +kernel
theorem d12_7 : decode jdk_68_method_10_code 7 = .ok (.aload_n 0, 1) := by decide +kernel
theorem d12_8 : decode jdk_68_method_10_code 8 = .ok (.getfield 22, 3) := by decide +kernel
theorem d12_11 : decode jdk_68_method_10_code 11 = .ok (.ishl, 1) := by decide +kernel
theorem d12_12 : decode jdk_68_method_10_code 12 = .ok (.istore_n 3, 1) := by decide +kernel
theorem d12_13 : decode jdk_68_method_10_code 13 = .ok (.iload_n 3, 1) := by decide +kernel
theorem d12_14 : decode jdk_68_method_10_code 14 = .ok (.iload_n 2, 1) := by decide +kernel
theorem d12_15 : decode jdk_68_method_10_code 15 = .ok (.isub, 1) := by decide +kernel
theorem d12_16 : decode jdk_68_method_10_code 16 = .ok (.istore 4, 2) := by decide +kernel
theorem d12_18 : decode jdk_68_method_10_code 18 = .ok (.iload_n 2, 1) := by decide +kernel
theorem d12_19 : decode jdk_68_method_10_code 19 = .ok (.iload 4, 2) := by decide +kernel
theorem d12_21 : decode jdk_68_method_10_code 21 = .ok (.iload_n 2, 1) := by decide +kernel
theorem d12_22 : decode jdk_68_method_10_code 22 = .ok (.iconst 2, 1) := by decide +kernel
theorem d12_23 : decode jdk_68_method_10_code 23 = .ok (.aload_n 0, 1) := by decide +kernel
theorem d12_24 : decode jdk_68_method_10_code 24 = .ok (.getfield 22, 3) := by decide +kernel
theorem d12_27 : decode jdk_68_method_10_code 27 = .ok (.ishl, 1) := by decide +kernel
theorem d12_28 : decode jdk_68_method_10_code 28 = .ok (.iadd, 1) := by decide +kernel
theorem d12_29 : decode jdk_68_method_10_code 29 = .ok (.invokestatic 114, 3) := by decide +kernel
theorem d12_32 : decode jdk_68_method_10_code 32 = .ok (.istore 5, 2) := by decide +kernel
theorem d12_34 : decode jdk_68_method_10_code 34 = .ok (.iload 5, 2) := by decide +kernel
theorem d12_36 : decode jdk_68_method_10_code 36 = .ok (.ldc 39, 2) := by decide +kernel
theorem d12_38 : decode jdk_68_method_10_code 38 = .ok (.if_icmp .ne 13, 3) := by decide +kernel
theorem d12_51 : decode jdk_68_method_10_code 51 = .ok (.iload 5, 2) := by decide +kernel
theorem d12_53 : decode jdk_68_method_10_code 53 = .ok (.aload_n 0, 1) := by decide +kernel
theorem d12_54 : decode jdk_68_method_10_code 54 = .ok (.getfield 22, 3) := by decide +kernel
theorem d12_57 : decode jdk_68_method_10_code 57 = .ok (.ishr, 1) := by decide +kernel
theorem d12_58 : decode jdk_68_method_10_code 58 = .ok (.ireturn, 1) := by decide +kernel
theorem ef_rm12 (m : MethodId) (x0 : Addr) (x1 : Int32) : entryFrame m #[(.ref x0), (.int x1)] 6 = mkF m 0 #[.val (.ref x0), .val (.int x1), .unset, .unset, .unset, .unset] [] := by first | (simp [entryFrame, mkF, argsToLocals, Value.category]; done) | rfl
set_option maxRecDepth 65536 in
set_option maxHeartbeats 40000000 in
theorem rm12 {kn : Prop} (l : Launch) (Z : State) (a0 : Array Value) (hw : ∀ d ∈ tables_1, d.before a0 Z = true) (hE : EW Z a0 own_EL) (ws : List Jvm.Cond) (r0 : Addr) (h0 : Heap) (n0 : Nat) (vs : List Value) (mn mq : Nat) (hvl : vs.length < 400) (hmn : vs.length < mn) (hm4 : mn < 400) (hq : (mq = mn - vs.length ∧ vs.length + 2 ≤ mn - vs.length) ∨ (mq = vs.length + 2 ∧ mn - vs.length ≤ vs.length + 2)) (cn : Int32) (t : Addr) (B0 : own_B Z h0 r0 t 0 cn) (A0 : Ark Z h0 t .byte vs) :
    Ctr kn l Z own_EL (⟨"java/lang/AbstractStringBuilder", "newCapacity", "(I)I"⟩ : MethodName) jdk_68_method_10_code 6 (some .int) ws ({ frames := 2, cells := 0, slots := 0, locals := 29 } : Room) n0 ([]) #[(.ref r0), (.int (Int32.ofNat mn))] h0 (Rt (fun w h g => w = .int (Int32.ofNat (vs.length + mq)) ∧ h0 = h)) := by
  refine Ctr.of (plainFor_of_name pn_java_lang_AbstractStringBuilder) hE (fun m => ef_rm12 m r0 (Int32.ofNat mn)) ?_
  intro p e s m below meth c T0 X0
  refine OwnW.aloadN X0 (n := 1) d12_0 rfl rfl rfl ?_
  refine OwnW.getfield X0 (n := 4) d12_1 (hw _ (List.mem_of_getElem? (i := 43) rfl)) Via.refl B0.2.1 rfl ?_
  intro T1 X1
  refine OwnW.arraylength X1 (z := Int32.ofNat vs.length) (n := 5) d12_4 A0 rfl rfl ?_
  refine OwnW.istoreN X1 (l' := #[.val (.ref r0), .val (.int (Int32.ofNat mn)), .val (.int (Int32.ofNat vs.length)), .unset, .unset, .unset]) (n := 6) d12_5 rfl rfl ?_
  refine OwnW.iloadN X1 (n := 7) d12_6 rfl rfl ?_
  refine OwnW.aloadN X1 (n := 8) d12_7 rfl rfl rfl ?_
  refine OwnW.getfield X1 (n := 11) d12_8 (hw _ (List.mem_of_getElem? (i := 45) rfl)) Via.refl B0.2.2.1 rfl ?_
  intro T2 X2
  refine OwnW.ishl X2 (n := 12) d12_11 rfl ?_
  rw [own_shl0 (Int32.ofNat mn)]
  refine OwnW.istoreN X2 (l' := #[.val (.ref r0), .val (.int (Int32.ofNat mn)), .val (.int (Int32.ofNat vs.length)), .val (.int (Int32.ofNat mn)), .unset, .unset]) (n := 13) d12_12 rfl rfl ?_
  refine OwnW.iloadN X2 (n := 14) d12_13 rfl rfl ?_
  refine OwnW.iloadN X2 (n := 15) d12_14 rfl rfl ?_
  refine OwnW.isub X2 (n := 16) d12_15 rfl ?_
  rw [show (((Int32.ofNat mn) - (Int32.ofNat vs.length)) : Int32) = (Int32.ofNat (mn - vs.length)) from own_sub mn vs.length (by omega) (by omega)]
  refine OwnW.istore X2 (l' := #[.val (.ref r0), .val (.int (Int32.ofNat mn)), .val (.int (Int32.ofNat vs.length)), .val (.int (Int32.ofNat mn)), .val (.int (Int32.ofNat (mn - vs.length))), .unset]) (n := 18) d12_16 rfl rfl ?_
  refine OwnW.iloadN X2 (n := 19) d12_18 rfl rfl ?_
  refine OwnW.iload X2 (n := 21) d12_19 rfl rfl ?_
  refine OwnW.iloadN X2 (n := 22) d12_21 rfl rfl ?_
  refine OwnW.iconst X2 (z := (2 : Int32)) (n := 23) d12_22 rfl rfl ?_
  refine OwnW.aloadN X2 (n := 24) d12_23 rfl rfl rfl ?_
  refine OwnW.getfield X2 (n := 27) d12_24 (hw _ (List.mem_of_getElem? (i := 45) rfl)) Via.refl B0.2.2.1 rfl ?_
  intro T3 X3
  refine OwnW.ishl X3 (n := 28) d12_27 rfl ?_
  rw [show (((2 : Int32) <<< ((0 : Int32) &&& 31)) : Int32) = (2 : Int32) from by decide]
  refine OwnW.iadd X3 (n := 29) d12_28 rfl ?_
  rw [show (((Int32.ofNat vs.length) + (2 : Int32)) : Int32) = (Int32.ofNat (vs.length + 2)) from own_add vs.length 2]
  refine OwnW.call_static_v X3 (z := (⟨"jdk/internal/util/ArraysSupport", "newLength", "(III)I"⟩ : MethodName)) (n := 32) d12_29 (hw _ (List.mem_of_getElem? (i := 81) rfl)) (hw _ (List.mem_of_getElem? (i := 82) rfl)) (hw _ (List.mem_of_getElem? (i := 84) rfl)) (hw _ (List.mem_of_getElem? (i := 83) rfl)) (by decide) (rm13 l Z a0 hw hE [] h0 n0 vs.length (mn - vs.length) (vs.length + 2) mq (by omega) (by omega) (by omega) (by omega) hq) OwnW.sf0 (argsL := [(.int (Int32.ofNat vs.length)), (.int (Int32.ofNat (mn - vs.length))), (.int (Int32.ofNat (vs.length + 2)))]) (rest := []) rfl rfl (OwnW.lenA pd__III_I rfl) (W := 0) (Nat.le_of_eq rfl) (by decide) (by decide) (by decide) (by decide) rfl ?_
  intro T4 h4 w4 g4 hle4 X4 ⟨q1, q2⟩
  subst q1 q2
  refine OwnW.istore X4 (l' := #[.val (.ref r0), .val (.int (Int32.ofNat mn)), .val (.int (Int32.ofNat vs.length)), .val (.int (Int32.ofNat mn)), .val (.int (Int32.ofNat (mn - vs.length))), .val (.int (Int32.ofNat (vs.length + mq)))]) (n := 34) d12_32 rfl rfl ?_
  refine OwnW.iload X4 (n := 36) d12_34 rfl rfl ?_
  refine OwnW.ldc X4 (n := 38) d12_36 (hw _ (List.mem_of_getElem? (i := 90) rfl)) rfl ?_
  refine OwnW.ic_ne X4  (n1 := 51) (n2 := 41) d12_38 (by decide) rfl rfl (fun _ => ?_) (fun q => absurd q ((fun q => by have z := (own_eqn (i := (vs.length + mq)) (n := 2147483647) (by omega) (by omega)).mp q; omega) : ¬ (Int32.ofNat (vs.length + mq)) = (2147483647 : Int32)))
  refine OwnW.iload X4 (n := 53) d12_51 rfl rfl ?_
  refine OwnW.aloadN X4 (n := 54) d12_53 rfl rfl rfl ?_
  refine OwnW.getfield X4 (n := 57) d12_54 (hw _ (List.mem_of_getElem? (i := 45) rfl)) Via.refl B0.2.2.1 rfl ?_
  intro T5 X5
  refine OwnW.ishr X5 (n := 58) d12_57 rfl ?_
  rw [own_shr0 (Int32.ofNat (vs.length + mq))]
  exact OwnW.ireturn X5 rfl (Or.inl rfl) rfl d12_58 ⟨rfl, rfl⟩ (by decide) (by decide)
theorem pn_java_util_Arrays : plainName "java/util/Arrays" = true := by first | (simp [plainName, overriddenIn]; done) | decide +kernel
theorem d15_0 : decode jdk_65_method_121_code 0 = .ok (.iload_n 1, 1) := by decide +kernel
theorem d15_1 : decode jdk_65_method_121_code 1 = .ok (.aload_n 0, 1) := by decide +kernel
theorem d15_2 : decode jdk_65_method_121_code 2 = .ok (.arraylength, 1) := by decide +kernel
theorem d15_3 : decode jdk_65_method_121_code 3 = .ok (.if_icmp .ne 11, 3) := by decide +kernel
theorem d15_14 : decode jdk_65_method_121_code 14 = .ok (.iload_n 1, 1) := by decide +kernel
theorem d15_15 : decode jdk_65_method_121_code 15 = .ok (.newarray .byte, 2) := by decide +kernel
theorem d15_17 : decode jdk_65_method_121_code 17 = .ok (.astore_n 2, 1) := by decide +kernel
theorem d15_18 : decode jdk_65_method_121_code 18 = .ok (.aload_n 0, 1) := by decide +kernel
theorem d15_19 : decode jdk_65_method_121_code 19 = .ok (.iconst 0, 1) := by decide +kernel
theorem d15_20 : decode jdk_65_method_121_code 20 = .ok (.aload_n 2, 1) := by decide +kernel
theorem d15_21 : decode jdk_65_method_121_code 21 = .ok (.iconst 0, 1) := by decide +kernel
theorem d15_22 : decode jdk_65_method_121_code 22 = .ok (.aload_n 0, 1) := by decide +kernel
theorem d15_23 : decode jdk_65_method_121_code 23 = .ok (.arraylength, 1) := by decide +kernel
theorem d15_24 : decode jdk_65_method_121_code 24 = .ok (.iload_n 1, 1) := by decide +kernel
theorem d15_25 : decode jdk_65_method_121_code 25 = .ok (.invokestatic 304, 3) := by decide +kernel
theorem d15_28 : decode jdk_65_method_121_code 28 = .ok (.invokestatic 150, 3) := by decide +kernel
theorem d15_31 : decode jdk_65_method_121_code 31 = .ok (.aload_n 2, 1) := by decide +kernel
theorem d15_32 : decode jdk_65_method_121_code 32 = .ok (.areturn, 1) := by decide +kernel
theorem ef_rm15 (m : MethodId) (x0 : Addr) (x1 : Int32) : entryFrame m #[(.ref x0), (.int x1)] 3 = mkF m 0 #[.val (.ref x0), .val (.int x1), .unset] [] := by first | (simp [entryFrame, mkF, argsToLocals, Value.category]; done) | rfl
set_option maxRecDepth 65536 in
set_option maxHeartbeats 40000000 in
theorem rm15 {kn : Prop} (l : Launch) (Z : State) (a0 : Array Value) (hw : ∀ d ∈ tables_1, d.before a0 Z = true) (hE : EW Z a0 own_EL) (ws : List Jvm.Cond) (r0 : Addr) (h0 : Heap) (n0 : Nat) (O0 : Old Z n0 h0) (vs : List Value) (nl : Nat) (hnl : vs.length < nl) (hn8 : nl ≤ 80) (A0 : Ark Z h0 r0 .byte vs) :
    Ctr kn l Z own_EL (⟨"java/util/Arrays", "copyOf", "([BI)[B"⟩ : MethodName) jdk_65_method_121_code 3 (some (.array .byte)) ws ({ frames := 1, cells := 1, slots := 80, locals := 18 } : Room) n0 ([]) #[(.ref r0), (.int (Int32.ofNat nl))] h0 (Rt (fun w h g => ∃ t, w = .ref t ∧ Keep h0 h [] ∧ h0.size ≤ t ∧ Ark Z h t .byte (vs ++ List.replicate (nl - vs.length) (Value.int 0)) ∧ Exa Z h t "[B" ∧ t ∈ g)) := by
  refine Ctr.of (plainFor_of_name pn_java_util_Arrays) hE (fun m => ef_rm15 m r0 (Int32.ofNat nl)) ?_
  intro p e s m below meth c T0 X0
  have Z0 : Keep h0 h0 [] := Keep.refl _ _
  refine OwnW.iloadN X0 (n := 1) d15_0 rfl rfl ?_
  refine OwnW.aloadN X0 (n := 2) d15_1 rfl rfl rfl ?_
  refine OwnW.arraylength X0 (z := Int32.ofNat vs.length) (n := 3) d15_2 A0 rfl rfl ?_
  refine OwnW.ic_ne X0  (n1 := 14) (n2 := 6) d15_3 (by decide) rfl rfl (fun _ => ?_) (fun q => absurd q ((fun q => by have z := (own_eqn (i := nl) (n := vs.length) (by omega) (by omega)).mp q; omega) : ¬ (Int32.ofNat nl) = (Int32.ofNat vs.length)))
  refine OwnW.iloadN X0 (n := 15) d15_14 rfl rfl ?_
  refine OwnW.newarrayE X0 (len := nl) (cap := 80) (n := 17) d15_15 (hw _ (List.mem_of_getElem? (i := 15) rfl)) (own_nat (i := nl) (by omega)) (by omega) (by decide) (by decide) (by decide) rfl ?_
  intro T1 h1 b1 gb1 X1 E1 A1 Ex1
  have ne_r0_b1 : r0 ≠ b1 := by rw [gb1]; exact Nat.ne_of_lt A0.lt
  have ge_b1 : n0 ≤ b1 := by rw [gb1]; exact OwnW.oldLe O0
  have K1 := (OwnW.kExt E1)
  have O1 := O0.keep K1 all0
  have Z1 : Keep h0 h1 [] := Z0.trans K1 (fun x hx => nomatch hx)
  have sz_b1 : h0.size ≤ b1 := by rw [gb1]; exact Z0.1
  refine OwnW.astoreN X1 (l' := #[.val (.ref r0), .val (.int (Int32.ofNat nl)), .val (.ref b1)]) (n := 18) d15_17 rfl rfl rfl ?_
  refine OwnW.aloadN X1 (n := 19) d15_18 rfl rfl rfl ?_
  refine OwnW.iconst X1 (z := (0 : Int32)) (n := 20) d15_19 rfl rfl ?_
  refine OwnW.aloadN X1 (n := 21) d15_20 rfl rfl rfl ?_
  refine OwnW.iconst X1 (z := (0 : Int32)) (n := 22) d15_21 rfl rfl ?_
  refine OwnW.aloadN X1 (n := 23) d15_22 rfl rfl rfl ?_
  have fk2 := (A0.keep K1 nin0)
  refine OwnW.arraylength X1 (z := Int32.ofNat vs.length) (n := 24) d15_23 fk2 rfl rfl ?_
  refine OwnW.iloadN X1 (n := 25) d15_24 rfl rfl ?_
  refine OwnW.call_static_v X1 (z := (⟨"java/lang/Math", "min", "(II)I"⟩ : MethodName)) (n := 28) d15_25 (hw _ (List.mem_of_getElem? (i := 95) rfl)) (hw _ (List.mem_of_getElem? (i := 96) rfl)) (hw _ (List.mem_of_getElem? (i := 97) rfl)) (hw _ (List.mem_of_getElem? (i := 87) rfl)) (by decide) (rm16 l Z a0 hw hE [] h1 n0 vs.length nl vs.length (by omega) (by omega) (by omega)) OwnW.sf0 (argsL := [(.int (Int32.ofNat vs.length)), (.int (Int32.ofNat nl))]) (rest := [(.int (0 : Int32)), (.ref b1), (.int (0 : Int32)), (.ref r0)]) rfl rfl (OwnW.lenA pd__II_I rfl) (W := 4) (Nat.le_of_eq rfl) (by decide) (by decide) (by decide) (by decide) rfl ?_
  intro T3 h3 w3 g3 hle3 X3 ⟨q1, q2⟩
  subst q1 q2
  refine OwnW.arraycopy X3 (W := 0) (sp := 0) (dp := 0) (nn := vs.length) (n := 31) d15_28 (hw _ (List.mem_of_getElem? (i := 98) rfl)) (hw _ (List.mem_of_getElem? (i := 101) rfl)) (hw _ (List.mem_of_getElem? (i := 99) rfl)) (hw _ (List.mem_of_getElem? (i := 100) rfl)) fk2 A1 (own_nat (i := 0) (by omega)) (own_nat (i := 0) (by omega)) (own_nat (i := vs.length) (by omega)) (by omega) (by simp; omega) ge_b1 (List.mem_append_left _ (List.mem_cons_self ..)) rfl (Nat.le_of_eq rfl) (by decide) (by decide) rfl ?_
  intro T4 h4 X4 Kc4 A4
  have K4 := Kc4
  have O4 := O1.keep K4 (allS ge_b1 all0)
  have Z4 : Keep h0 h4 [] := Z1.trans K4 (allS (P := fun x => x ∈ [] ∨ h0.size ≤ x) (Or.inr sz_b1) all0)
  rw [own_cp1 vs hnl] at A4
  refine OwnW.aloadN X4 (n := 32) d15_31 rfl rfl rfl ?_
  have fk5 := (Ex1.keep K4)
  exact OwnW.areturn X4 rfl rfl rfl d15_32 ⟨_, rfl, Z4, sz_b1, A4, fk5, (List.mem_append_left _ (List.mem_cons_self ..))⟩ (by decide) (by decide)
theorem d11_0 : decode jdk_68_method_9_code 0 = .ok (.aload_n 0, 1) := by decide +kernel
theorem d11_1 : decode jdk_68_method_9_code 1 = .ok (.getfield 15, 3) := by decide +kernel
theorem d11_4 : decode jdk_68_method_9_code 4 = .ok (.arraylength, 1) := by decide +kernel
theorem d11_5 : decode jdk_68_method_9_code 5 = .ok (.aload_n 0, 1) := by decide +kernel
theorem d11_6 : decode jdk_68_method_9_code 6 = .ok (.getfield 22, 3) := by decide +kernel
theorem d11_9 : decode jdk_68_method_9_code 9 = .ok (.ishr, 1) := by decide +kernel
theorem d11_10 : decode jdk_68_method_9_code 10 = .ok (.istore_n 2, 1) := by decide +kernel
theorem d11_11 : decode jdk_68_method_9_code 11 = .ok (.iload_n 1, 1) := by decide +kernel
theorem d11_12 : decode jdk_68_method_9_code 12 = .ok (.iload_n 2, 1) := by decide +kernel
theorem d11_13 : decode jdk_68_method_9_code 13 = .ok (.isub, 1) := by decide +kernel
theorem d11_14 : decode jdk_68_method_9_code 14 = .ok (.ifCond .le 24, 3) := by decide +kernel
theorem d11_38 : decode jdk_68_method_9_code 38 = .ok (.return_, 1) := by decide +kernel
theorem ef_rm11e (m : MethodId) (x0 : Addr) (x1 : Int32) : entryFrame m #[(.ref x0), (.int x1)] 3 = mkF m 0 #[.val (.ref x0), .val (.int x1), .unset] [] := by first | (simp [entryFrame, mkF, argsToLocals, Value.category]; done) | rfl
set_option maxRecDepth 65536 in
set_option maxHeartbeats 40000000 in
theorem rm11e {kn : Prop} (l : Launch) (Z : State) (a0 : Array Value) (hw : ∀ d ∈ tables_1, d.before a0 Z = true) (hE : EW Z a0 own_EL) (ws : List Jvm.Cond) (r0 : Addr) (h0 : Heap) (n0 : Nat) (vs : List Value) (mn : Nat) (hvl : vs.length < 400) (hmn : mn = vs.length) (cn : Int32) (t : Addr) (B0 : own_B Z h0 r0 t 0 cn) (A0 : Ark Z h0 t .byte vs) :
    Ctr kn l Z own_EL (⟨"java/lang/AbstractStringBuilder", "ensureCapacityInternal", "(I)V"⟩ : MethodName) jdk_68_method_9_code 3 none ws ({ frames := 0, cells := 0, slots := 0, locals := 0 } : Room) n0 ([]) #[(.ref r0), (.int (Int32.ofNat mn))] h0 (Rn (fun h g => h0 = h)) := by
  refine Ctr.of (plainFor_of_name pn_java_lang_AbstractStringBuilder) hE (fun m => ef_rm11e m r0 (Int32.ofNat mn)) ?_
  intro p e s m below meth c T0 X0
  refine OwnW.aloadN X0 (n := 1) d11_0 rfl rfl rfl ?_
  refine OwnW.getfield X0 (n := 4) d11_1 (hw _ (List.mem_of_getElem? (i := 43) rfl)) Via.refl B0.2.1 rfl ?_
  intro T1 X1
  refine OwnW.arraylength X1 (z := Int32.ofNat vs.length) (n := 5) d11_4 A0 rfl rfl ?_
  refine OwnW.aloadN X1 (n := 6) d11_5 rfl rfl rfl ?_
  refine OwnW.getfield X1 (n := 9) d11_6 (hw _ (List.mem_of_getElem? (i := 45) rfl)) Via.refl B0.2.2.1 rfl ?_
  intro T2 X2
  refine OwnW.ishr X2 (n := 10) d11_9 rfl ?_
  rw [own_shr0 (Int32.ofNat vs.length)]
  refine OwnW.istoreN X2 (l' := #[.val (.ref r0), .val (.int (Int32.ofNat mn)), .val (.int (Int32.ofNat vs.length))]) (n := 11) d11_10 rfl rfl ?_
  refine OwnW.iloadN X2 (n := 12) d11_11 rfl rfl ?_
  refine OwnW.iloadN X2 (n := 13) d11_12 rfl rfl ?_
  refine OwnW.isub X2 (n := 14) d11_13 rfl ?_
  rw [show (((Int32.ofNat mn) - (Int32.ofNat vs.length)) : Int32) = (Int32.ofNat (mn - vs.length)) from own_sub mn vs.length (by omega) (by omega)]
  refine OwnW.if_le X2  (n1 := 38) (n2 := 17) d11_14 (by decide) rfl rfl (fun _ => ?_) (fun q => absurd q ((fun q => by have z := (own_lt (i := 0) (n := (mn - vs.length)) (by omega) (by omega)).mp q; omega) : ¬ 0 < (Int32.ofNat (mn - vs.length))))
  exact OwnW.vreturn X2 rfl d11_38 rfl (by decide) (by decide)
theorem pd__I_I : parseMethodDescriptor "(I)I" = some ⟨[.int], some .int⟩ := by decide +kernel
theorem pd___BI__B : parseMethodDescriptor "([BI)[B" = some ⟨[(.array .byte), .int], some (.array .byte)⟩ := by decide +kernel
theorem d11_17 : decode jdk_68_method_9_code 17 = .ok (.aload_n 0, 1) := by decide +kernel
theorem d11_18 : decode jdk_68_method_9_code 18 = .ok (.aload_n 0, 1) := by decide +kernel
theorem d11_19 : decode jdk_68_method_9_code 19 = .ok (.getfield 15, 3) := by decide +kernel
theorem d11_22 : decode jdk_68_method_9_code 22 = .ok (.aload_n 0, 1) := by decide +kernel
theorem d11_23 : decode jdk_68_method_9_code 23 = .ok (.iload_n 1, 1) := by decide +kernel
theorem d11_24 : decode jdk_68_method_9_code 24 = .ok (.invokevirtual 104, 3) := by decide +kernel
theorem d11_27 : decode jdk_68_method_9_code 27 = .ok (.aload_n 0, 1) := by decide +kernel
theorem d11_28 : decode jdk_68_method_9_code 28 = .ok (.getfield 22, 3) := by decide +kernel
theorem d11_31 : decode jdk_68_method_9_code 31 = .ok (.ishl, 1) := by decide +kernel
theorem d11_32 : decode jdk_68_method_9_code 32 = .ok (.invokestatic 108, 3) := by decide +kernel
theorem d11_35 : decode jdk_68_method_9_code 35 = .ok (.putfield 15, 3) := by decide +kernel
theorem ef_rm11 (m : MethodId) (x0 : Addr) (x1 : Int32) : entryFrame m #[(.ref x0), (.int x1)] 3 = mkF m 0 #[.val (.ref x0), .val (.int x1), .unset] [] := by first | (simp [entryFrame, mkF, argsToLocals, Value.category]; done) | rfl
set_option maxRecDepth 65536 in
set_option maxHeartbeats 40000000 in
theorem rm11 {kn : Prop} (l : Launch) (Z : State) (a0 : Array Value) (hw : ∀ d ∈ tables_1, d.before a0 Z = true) (hE : EW Z a0 own_EL) (ws : List Jvm.Cond) (r0 : Addr) (h0 : Heap) (n0 : Nat) (O0 : Old Z n0 h0) (vs : List Value) (mn mq : Nat) (hvl : vs.length < 400) (hmn : vs.length < mn) (hm4 : mn < 400) (hq : (mq = mn - vs.length ∧ vs.length + 2 ≤ mn - vs.length) ∨ (mq = vs.length + 2 ∧ mn - vs.length ≤ vs.length + 2)) (hcap : vs.length + mq ≤ 80) (cn : Int32) (t : Addr) (B0 : own_B Z h0 r0 t 0 cn) (A0 : Ark Z h0 t .byte vs) (ge_r0 : n0 ≤ r0) (n0t : r0 ≠ t) :
    Ctr kn l Z own_EL (⟨"java/lang/AbstractStringBuilder", "ensureCapacityInternal", "(I)V"⟩ : MethodName) jdk_68_method_9_code 3 none ws ({ frames := 3, cells := 1, slots := 80, locals := 48 } : Room) n0 (r0 :: []) #[(.ref r0), (.int (Int32.ofNat mn))] h0 (Rn (fun h g => Keep h0 h [r0] ∧ ∃ t', h0.size ≤ t' ∧ own_B Z h r0 t' 0 cn ∧ Ark Z h t' .byte (vs ++ List.replicate (vs.length + mq - vs.length) (Value.int 0)) ∧ Exa Z h t' "[B" ∧ t' ∈ g)) := by
  refine Ctr.of (plainFor_of_name pn_java_lang_AbstractStringBuilder) hE (fun m => ef_rm11 m r0 (Int32.ofNat mn)) ?_
  intro p e s m below meth c T0 X0
  have Z0 : Keep h0 h0 [r0] := Keep.refl _ _
  refine OwnW.aloadN X0 (n := 1) d11_0 rfl rfl rfl ?_
  refine OwnW.getfield X0 (n := 4) d11_1 (hw _ (List.mem_of_getElem? (i := 43) rfl)) Via.refl B0.2.1 rfl ?_
  intro T1 X1
  refine OwnW.arraylength X1 (z := Int32.ofNat vs.length) (n := 5) d11_4 A0 rfl rfl ?_
  refine OwnW.aloadN X1 (n := 6) d11_5 rfl rfl rfl ?_
  refine OwnW.getfield X1 (n := 9) d11_6 (hw _ (List.mem_of_getElem? (i := 45) rfl)) Via.refl B0.2.2.1 rfl ?_
  intro T2 X2
  refine OwnW.ishr X2 (n := 10) d11_9 rfl ?_
  rw [own_shr0 (Int32.ofNat vs.length)]
  refine OwnW.istoreN X2 (l' := #[.val (.ref r0), .val (.int (Int32.ofNat mn)), .val (.int (Int32.ofNat vs.length))]) (n := 11) d11_10 rfl rfl ?_
  refine OwnW.iloadN X2 (n := 12) d11_11 rfl rfl ?_
  refine OwnW.iloadN X2 (n := 13) d11_12 rfl rfl ?_
  refine OwnW.isub X2 (n := 14) d11_13 rfl ?_
  rw [show (((Int32.ofNat mn) - (Int32.ofNat vs.length)) : Int32) = (Int32.ofNat (mn - vs.length)) from own_sub mn vs.length (by omega) (by omega)]
  refine OwnW.if_le X2  (n1 := 38) (n2 := 17) d11_14 (by decide) rfl rfl (fun q => absurd (((own_lt (i := 0) (n := (mn - vs.length)) (by omega) (by omega)).mpr (by omega)) : 0 < (Int32.ofNat (mn - vs.length))) q) (fun _ => ?_)
  refine OwnW.aloadN X2 (n := 18) d11_17 rfl rfl rfl ?_
  refine OwnW.aloadN X2 (n := 19) d11_18 rfl rfl rfl ?_
  refine OwnW.getfield X2 (n := 22) d11_19 (hw _ (List.mem_of_getElem? (i := 43) rfl)) Via.refl B0.2.1 rfl ?_
  intro T3 X3
  refine OwnW.aloadN X3 (n := 23) d11_22 rfl rfl rfl ?_
  refine OwnW.iloadN X3 (n := 24) d11_23 rfl rfl ?_
  refine OwnW.call_virtual_v X3 (z := (⟨"java/lang/AbstractStringBuilder", "newCapacity", "(I)I"⟩ : MethodName)) (yv := (⟨"java/lang/AbstractStringBuilder", "newCapacity", "(I)I"⟩ : MethodName)) (a := r0) (C := "java/lang/StringBuilder") (n := 27) d11_24 (hw _ (List.mem_of_getElem? (i := 76) rfl)) (OwnW.declOf (hw _ (List.mem_of_getElem? (i := 77) rfl)) (hw _ (List.mem_of_getElem? (i := 80) rfl))) (hw _ (List.mem_of_getElem? (i := 77) rfl)) (hw _ (List.mem_of_getElem? (i := 79) rfl)) (fun hz => notFace_of_selects (args := #[]) (mvT hz (hw _ (List.mem_of_getElem? (i := 79) rfl)))) (hw _ (List.mem_of_getElem? (i := 80) rfl)) (hw _ (List.mem_of_getElem? (i := 39) rfl)) (by decide) B0.1 (rm12 l Z a0 hw hE [] r0 h0 n0 vs mn mq hvl hmn hm4 hq cn t B0 A0) OwnW.sf0 (argsL := [(.int (Int32.ofNat mn))]) (rest := [(.ref t), (.ref r0)]) rfl rfl (OwnW.lenA pd__I_I rfl) (W := 2) (Nat.le_of_eq rfl) (by decide) (by decide) (by decide) (by decide) rfl ?_
  intro T4 h4 w4 g4 hle4 X4 ⟨q1, q2⟩
  subst q1 q2
  refine OwnW.aloadN X4 (n := 28) d11_27 rfl rfl rfl ?_
  refine OwnW.getfield X4 (n := 31) d11_28 (hw _ (List.mem_of_getElem? (i := 45) rfl)) Via.refl B0.2.2.1 rfl ?_
  intro T5 X5
  refine OwnW.ishl X5 (n := 32) d11_31 rfl ?_
  rw [own_shl0 (Int32.ofNat (vs.length + mq))]
  refine OwnW.call_static_v X5 (z := (⟨"java/util/Arrays", "copyOf", "([BI)[B"⟩ : MethodName)) (n := 35) d11_32 (hw _ (List.mem_of_getElem? (i := 91) rfl)) (hw _ (List.mem_of_getElem? (i := 92) rfl)) (hw _ (List.mem_of_getElem? (i := 94) rfl)) (hw _ (List.mem_of_getElem? (i := 93) rfl)) (by decide) (rm15 l Z a0 hw hE [] t h0 n0 O0 vs (vs.length + mq) (by omega) hcap A0) OwnW.sf0 (argsL := [(.ref t), (.int (Int32.ofNat (vs.length + mq)))]) (rest := [(.ref r0)]) rfl rfl (OwnW.lenA pd___BI__B rfl) (W := 1) (Nat.le_of_eq rfl) (by decide) (by decide) (by decide) (by decide) rfl ?_
  intro T6 h6 w6 g6 hle6 X6 ⟨t6, q1, k6, z6, a6, ex6, m6⟩
  subst q1
  have ne_r0_t6 : r0 ≠ t6 := Nat.ne_of_lt (Nat.lt_of_lt_of_le B0.1.lt z6)
  have ne_t_t6 : t ≠ t6 := Nat.ne_of_lt (Nat.lt_of_lt_of_le A0.lt z6)
  have ge_t6 : n0 ≤ t6 := Nat.le_trans (OwnW.oldLe O0) z6
  have K6 := k6
  have O6 := O0.keep K6 all0
  have Z6 : Keep h0 h6 [r0] := Z0.trans K6 (fun x hx => nomatch hx)
  have sz_t6 : h0.size ≤ t6 := Nat.le_trans Z0.1 z6
  have fk7 := (B0.2.1.keep K6 nin0)
  have fk8 := (B0.1.keep K6)
  refine OwnW.putfield X6 (ty := (.array .byte)) (v' := (.ref t6)) (n := 38) d11_35 (hw _ (List.mem_of_getElem? (i := 43) rfl)) Via.refl fk7 fk8 (Or.inl (hw _ (List.mem_of_getElem? (i := 44) rfl))) (hw _ (List.mem_of_getElem? (i := 30) rfl)) (by decide) rfl rfl ge_r0 (List.mem_append_left _ (List.mem_append_left _ (List.mem_cons_self ..))) rfl ?_
  intro T9 h9 X9 W9 Fw9
  have fk10 := (B0.2.2.1.keep K6 nin0)
  have fk11 := fk10.other W9 (Or.inr (slot_ne (Or.inl (hw _ (List.mem_of_getElem? (i := 46) rfl))) (Or.inl (hw _ (List.mem_of_getElem? (i := 44) rfl))) (by decide) (t := .byte) (t' := (.array .byte)) (by decide) (by decide)))
  have fk12 := (B0.2.2.2.1.keep K6 nin0)
  have fk13 := fk12.other W9 (Or.inr (slot_ne (Or.inl (hw _ (List.mem_of_getElem? (i := 70) rfl))) (Or.inl (hw _ (List.mem_of_getElem? (i := 44) rfl))) (by decide) (t := .int) (t' := (.array .byte)) (by decide) (by decide)))
  have fk14 := (B0.2.2.2.2.keep K6 nin0)
  have fk15 := fk14.other W9 (Or.inr (slot_ne (Or.inl (hw _ (List.mem_of_getElem? (i := 327) rfl))) (Or.inl (hw _ (List.mem_of_getElem? (i := 44) rfl))) (by decide) (t := .boolean) (t' := (.array .byte)) (by decide) (by decide)))
  have K9 := (Keep.of_wr W9)
  have O9 := O6.keep K9 (allS ge_r0 all0)
  have Z9 : Keep h0 h9 [r0] := Z6.trans K9 (allS (P := fun x => x ∈ [r0] ∨ h0.size ≤ x) (Or.inl (List.mem_of_getElem? (i := 0) rfl)) all0)
  have fk16 := (fk8.keep K9)
  have fk17 := (a6.keep K9 (ninS (Ne.symm ne_r0_t6) nin0))
  have fk18 := (ex6.keep K9)
  exact OwnW.vreturn X9 rfl d11_38 ⟨Z9, _, sz_t6, ⟨fk16, Fw9, fk11, fk13, fk15⟩, fk17, fk18, (List.mem_append_right _ m6)⟩ (by decide) (by decide)
theorem pn_java_lang_String : plainName "java/lang/String" = true := by first | (simp [plainName, overriddenIn]; done) | decide +kernel
theorem d10_0 : decode jdk_42_method_152_code 0 = .ok (.getstatic 38, 3) := by decide +kernel
theorem d10_3 : decode jdk_42_method_152_code 3 = .ok (.ifCond .eq 10, 3) := by decide +kernel
theorem d10_6 : decode jdk_42_method_152_code 6 = .ok (.aload_n 0, 1) := by decide +kernel
theorem d10_7 : decode jdk_42_method_152_code 7 = .ok (.getfield 15, 3) := by decide +kernel
theorem d10_10 : decode jdk_42_method_152_code 10 = .ok (.goto 4, 3) := by decide +kernel
theorem d10_14 : decode jdk_42_method_152_code 14 = .ok (.ireturn, 1) := by decide +kernel
theorem ef_rm10 (m : MethodId) (x0 : Addr) : entryFrame m #[(.ref x0)] 1 = mkF m 0 #[.val (.ref x0)] [] := by first | (simp [entryFrame, mkF, argsToLocals, Value.category]; done) | rfl
set_option maxRecDepth 65536 in
set_option maxHeartbeats 40000000 in
theorem rm10 {kn : Prop} (l : Launch) (Z : State) (a0 : Array Value) (hw : ∀ d ∈ tables_1, d.before a0 Z = true) (hE : EW Z a0 own_EL) (ws : List Jvm.Cond) (r0 : Addr) (h0 : Heap) (n0 : Nat) (O0 : Old Z n0 h0) (F0 : Fld Z h0 r0 "java/lang/String" "coder" "B" (.int 0)) (zc : Int32) (hzc : ¬ zc = 0) (S_compact : Sta Z Z.heap "java/lang/String" "COMPACT_STRINGS" "Z" (.int zc)) :
    Ctr kn l Z own_EL (⟨"java/lang/String", "coder", "()B"⟩ : MethodName) jdk_42_method_152_code 1 (some .byte) ws ({ frames := 0, cells := 0, slots := 0, locals := 0 } : Room) n0 ([]) #[(.ref r0)] h0 (Rt (fun w h g => w = .int 0 ∧ h0 = h)) := by
  refine Ctr.of (plainFor_of_name pn_java_lang_String) hE (fun m => ef_rm10 m r0) ?_
  intro p e s m below meth c T0 X0
  have Z0 : Keep h0 h0 [] := Keep.refl _ _
  refine OwnW.getstatic X0 (n := 3) d10_0 (hw _ (List.mem_of_getElem? (i := 68) rfl)) Via.refl (S_compact.ext O0.2) rfl ?_
  intro T1 X1
  refine OwnW.if_eq X1  (n1 := 13) (n2 := 6) d10_3 (by decide) rfl rfl (fun q => absurd q (hzc : ¬ zc = 0)) (fun _ => ?_)
  refine OwnW.aloadN X1 (n := 7) d10_6 rfl rfl rfl ?_
  refine OwnW.getfield X1 (n := 10) d10_7 (hw _ (List.mem_of_getElem? (i := 21) rfl)) Via.refl F0 rfl ?_
  intro T2 X2
  refine OwnW.goto X2 (n := 14) d10_10 (by decide) rfl ?_
  exact OwnW.ireturn X2 rfl (Or.inr (Or.inr (Or.inl rfl))) rfl d10_14 ⟨rfl, rfl⟩ (by decide) (by decide)
theorem pd___B : parseMethodDescriptor "()B" = some ⟨[], some .byte⟩ := by decide +kernel
theorem d9_0 : decode jdk_42_method_54_code 0 = .ok (.aload_n 0, 1) := by decide +kernel
theorem d9_1 : decode jdk_42_method_54_code 1 = .ok (.getfield 9, 3) := by decide +kernel
theorem d9_4 : decode jdk_42_method_54_code 4 = .ok (.arraylength, 1) := by decide +kernel
theorem d9_5 : decode jdk_42_method_54_code 5 = .ok (.aload_n 0, 1) := by decide +kernel
theorem d9_6 : decode jdk_42_method_54_code 6 = .ok (.invokevirtual 335, 3) := by decide +kernel
theorem d9_9 : decode jdk_42_method_54_code 9 = .ok (.ishr, 1) := by decide +kernel
theorem d9_10 : decode jdk_42_method_54_code 10 = .ok (.ireturn, 1) := by decide +kernel
theorem ef_rm9 (m : MethodId) (x0 : Addr) : entryFrame m #[(.ref x0)] 1 = mkF m 0 #[.val (.ref x0)] [] := by first | (simp [entryFrame, mkF, argsToLocals, Value.category]; done) | rfl
set_option maxRecDepth 65536 in
set_option maxHeartbeats 40000000 in
theorem rm9 {kn : Prop} (l : Launch) (Z : State) (a0 : Array Value) (hw : ∀ d ∈ tables_1, d.before a0 Z = true) (hE : EW Z a0 own_EL) (ws : List Jvm.Cond) (r0 : Addr) (h0 : Heap) (n0 : Nat) (O0 : Old Z n0 h0) (t : Addr) (cs : List Int32) (S0 : StrL Z h0 r0 t cs) (zc : Int32) (hzc : ¬ zc = 0) (S_compact : Sta Z Z.heap "java/lang/String" "COMPACT_STRINGS" "Z" (.int zc)) :
    Ctr kn l Z own_EL (⟨"java/lang/String", "length", "()I"⟩ : MethodName) jdk_42_method_54_code 1 (some .int) ws ({ frames := 1, cells := 0, slots := 0, locals := 13 } : Room) n0 ([]) #[(.ref r0)] h0 (Rt (fun w h g => w = .int (Int32.ofNat cs.length) ∧ h0 = h)) := by
  refine Ctr.of (plainFor_of_name pn_java_lang_String) hE (fun m => ef_rm9 m r0) ?_
  intro p e s m below meth c T0 X0
  have Z0 : Keep h0 h0 [] := Keep.refl _ _
  refine OwnW.aloadN X0 (n := 1) d9_0 rfl rfl rfl ?_
  refine OwnW.getfield X0 (n := 4) d9_1 (hw _ (List.mem_of_getElem? (i := 20) rfl)) Via.refl S0.2.2.1 rfl ?_
  intro T1 X1
  refine OwnW.arraylength X1 (z := Int32.ofNat cs.length) (n := 5) d9_4 S0.2.2.2 (by simp) rfl ?_
  refine OwnW.aloadN X1 (n := 6) d9_5 rfl rfl rfl ?_
  refine OwnW.call_virtual_v X1 (z := (⟨"java/lang/String", "coder", "()B"⟩ : MethodName)) (yv := (⟨"java/lang/String", "coder", "()B"⟩ : MethodName)) (a := r0) (C := "java/lang/String") (n := 9) d9_6 (hw _ (List.mem_of_getElem? (i := 63) rfl)) (hw _ (List.mem_of_getElem? (i := 64) rfl)) (hw _ (List.mem_of_getElem? (i := 65) rfl)) (hw _ (List.mem_of_getElem? (i := 66) rfl)) (fun hz => notFace_of_selects (args := #[]) (mvT hz (hw _ (List.mem_of_getElem? (i := 66) rfl)))) (hw _ (List.mem_of_getElem? (i := 67) rfl)) (hw _ (List.mem_of_getElem? (i := 3) rfl)) (by decide) S0.1 (rm10 l Z a0 hw hE [] r0 h0 n0 O0 S0.2.1 zc hzc S_compact) OwnW.sf0 (argsL := []) (rest := [(.int (Int32.ofNat cs.length))]) rfl rfl (OwnW.lenA pd___B rfl) (W := 1) (Nat.le_of_eq rfl) (by decide) (by decide) (by decide) (by decide) rfl ?_
  intro T2 h2 w2 g2 hle2 X2 ⟨q1, q2⟩
  subst q1 q2
  refine OwnW.ishr X2 (n := 10) d9_9 rfl ?_
  exact OwnW.ireturn X2 rfl (Or.inl rfl) rfl d9_10 ⟨by rw [own_shr0], rfl⟩ (by decide) (by decide)
theorem pn_jdk_internal_util_Preconditions : plainName "jdk/internal/util/Preconditions" = true := by first | (simp [plainName, overriddenIn]; done) | decide +kernel
theorem d41_0 : decode jdk_41_method_11_code 0 = .ok (.iload_n 0, 1) := by decide +kernel
theorem d41_1 : decode jdk_41_method_11_code 1 = .ok (.ifCond .lt 8, 3) := by decide +kernel
theorem d41_4 : decode jdk_41_method_11_code 4 = .ok (.iload_n 0, 1) := by decide +kernel
theorem d41_5 : decode jdk_41_method_11_code 5 = .ok (.iload_n 1, 1) := by decide +kernel
theorem d41_6 : decode jdk_41_method_11_code 6 = .ok (.if_icmp .lt 10, 3) := by decide +kernel
theorem d41_16 : decode jdk_41_method_11_code 16 = .ok (.iload_n 0, 1) := by decide +kernel
theorem d41_17 : decode jdk_41_method_11_code 17 = .ok (.ireturn, 1) := by decide +kernel
theorem ef_rmPn (m : MethodId) (x0 : Int32) (x1 : Int32) : entryFrame m #[(.int x0), (.int x1), .null] 3 = mkF m 0 #[.val (.int x0), .val (.int x1), .val .null] [] := by first | (simp [entryFrame, mkF, argsToLocals, Value.category]; done) | rfl
set_option maxRecDepth 65536 in
set_option maxHeartbeats 40000000 in
theorem rmPn {kn : Prop} (l : Launch) (Z : State) (a0 : Array Value) (hw : ∀ d ∈ tables_1, d.before a0 Z = true) (hE : EW Z a0 own_EL) (ws : List Jvm.Cond) (p0 : Int32) (p1 : Int32) (h0 : Heap) (n0 : Nat) (h1 : ¬ p0 < 0) (h2 : p0 < p1) :
    Ctr kn l Z own_EL (⟨"jdk/internal/util/Preconditions", "checkIndex", "(IILjava/util/function/BiFunction;)I"⟩ : MethodName) jdk_41_method_11_code 3 (some .int) ws ({ frames := 0, cells := 0, slots := 0, locals := 0 } : Room) n0 ([]) #[(.int p0), (.int p1), .null] h0 (Rt (fun w h g => w = .int p0 ∧ h0 = h)) := by
  refine Ctr.of (plainFor_of_name pn_jdk_internal_util_Preconditions) hE (fun m => ef_rmPn m p0 p1) ?_
  intro p e s m below meth c T0 X0
  refine OwnW.iloadN X0 (n := 1) d41_0 rfl rfl ?_
  refine OwnW.if_lt X0  (n1 := 9) (n2 := 4) d41_1 (by decide) rfl rfl (fun q => absurd q (h1 : ¬ p0 < 0)) (fun _ => ?_)
  refine OwnW.iloadN X0 (n := 5) d41_4 rfl rfl ?_
  refine OwnW.iloadN X0 (n := 6) d41_5 rfl rfl ?_
  refine OwnW.ic_lt X0  (n1 := 16) (n2 := 9) d41_6 (by decide) rfl rfl (fun _ => ?_) (fun q => absurd (h2 : p0 < p1) q)
  refine OwnW.iloadN X0 (n := 17) d41_16 rfl rfl ?_
  exact OwnW.ireturn X0 rfl (Or.inl rfl) rfl d41_17 ⟨rfl, rfl⟩ (by decide) (by decide)
theorem ef_rmPr (m : MethodId) (x0 : Int32) (x1 : Int32) (x2 : Addr) : entryFrame m #[(.int x0), (.int x1), (.ref x2)] 3 = mkF m 0 #[.val (.int x0), .val (.int x1), .val (.ref x2)] [] := by first | (simp [entryFrame, mkF, argsToLocals, Value.category]; done) | rfl
set_option maxRecDepth 65536 in
set_option maxHeartbeats 40000000 in
theorem rmPr {kn : Prop} (l : Launch) (Z : State) (a0 : Array Value) (hw : ∀ d ∈ tables_1, d.before a0 Z = true) (hE : EW Z a0 own_EL) (ws : List Jvm.Cond) (p0 : Int32) (p1 : Int32) (r2 : Addr) (h0 : Heap) (n0 : Nat) (h1 : ¬ p0 < 0) (h2 : p0 < p1) :
    Ctr kn l Z own_EL (⟨"jdk/internal/util/Preconditions", "checkIndex", "(IILjava/util/function/BiFunction;)I"⟩ : MethodName) jdk_41_method_11_code 3 (some .int) ws ({ frames := 0, cells := 0, slots := 0, locals := 0 } : Room) n0 ([]) #[(.int p0), (.int p1), (.ref r2)] h0 (Rt (fun w h g => w = .int p0 ∧ h0 = h)) := by
  refine Ctr.of (plainFor_of_name pn_jdk_internal_util_Preconditions) hE (fun m => ef_rmPr m p0 p1 r2) ?_
  intro p e s m below meth c T0 X0
  refine OwnW.iloadN X0 (n := 1) d41_0 rfl rfl ?_
  refine OwnW.if_lt X0  (n1 := 9) (n2 := 4) d41_1 (by decide) rfl rfl (fun q => absurd q (h1 : ¬ p0 < 0)) (fun _ => ?_)
  refine OwnW.iloadN X0 (n := 5) d41_4 rfl rfl ?_
  refine OwnW.iloadN X0 (n := 6) d41_5 rfl rfl ?_
  refine OwnW.ic_lt X0  (n1 := 16) (n2 := 9) d41_6 (by decide) rfl rfl (fun _ => ?_) (fun q => absurd (h2 : p0 < p1) q)
  refine OwnW.iloadN X0 (n := 17) d41_16 rfl rfl ?_
  exact OwnW.ireturn X0 rfl (Or.inl rfl) rfl d41_17 ⟨rfl, rfl⟩ (by decide) (by decide)
theorem pd__IILjava_util_function_BiFunction__I : parseMethodDescriptor "(IILjava/util/function/BiFunction;)I" = some ⟨[.int, .int, (.object "java/util/function/BiFunction")], some .int⟩ := by decide +kernel
theorem d40_0 : decode jdk_42_method_155_code 0 = .ok (.iload_n 0, 1) := by decide +kernel
theorem d40_1 : decode jdk_42_method_155_code 1 = .ok (.iload_n 1, 1) := by decide +kernel
theorem d40_2 : decode jdk_42_method_155_code 2 = .ok (.getstatic 1053, 3) := by decide +kernel
theorem d40_5 : decode jdk_42_method_155_code 5 = .ok (.invokestatic 1059, 3) := by decide +kernel
theorem d40_8 : decode jdk_42_method_155_code 8 = .ok (.pop, 1) := by decide +kernel
theorem d40_9 : decode jdk_42_method_155_code 9 = .ok (.return_, 1) := by decide +kernel
theorem ef_rmCn (m : MethodId) (x0 : Int32) (x1 : Int32) : entryFrame m #[(.int x0), (.int x1)] 2 = mkF m 0 #[.val (.int x0), .val (.int x1)] [] := by first | (simp [entryFrame, mkF, argsToLocals, Value.category]; done) | rfl
set_option maxRecDepth 65536 in
set_option maxHeartbeats 40000000 in
theorem rmCn {kn : Prop} (l : Launch) (Z : State) (a0 : Array Value) (hw : ∀ d ∈ tables_1, d.before a0 Z = true) (hE : EW Z a0 own_EL) (ws : List Jvm.Cond) (p0 : Int32) (p1 : Int32) (h0 : Heap) (n0 : Nat) (O0 : Old Z n0 h0) (h1 : ¬ p0 < 0) (h2 : p0 < p1) (S_fm : Sta Z Z.heap "jdk/internal/util/Preconditions" "SIOOBE_FORMATTER" "Ljava/util/function/BiFunction;" .null) :
    Ctr kn l Z own_EL (⟨"java/lang/String", "checkIndex", "(II)V"⟩ : MethodName) jdk_42_method_155_code 2 none ws ({ frames := 1, cells := 0, slots := 0, locals := 14 } : Room) n0 ([]) #[(.int p0), (.int p1)] h0 (Rn (fun h g => h0 = h)) := by
  refine Ctr.of (plainFor_of_name pn_java_lang_String) hE (fun m => ef_rmCn m p0 p1) ?_
  intro p e s m below meth c T0 X0
  have Z0 : Keep h0 h0 [] := Keep.refl _ _
  refine OwnW.iloadN X0 (n := 1) d40_0 rfl rfl ?_
  refine OwnW.iloadN X0 (n := 2) d40_1 rfl rfl ?_
  refine OwnW.getstatic X0 (n := 5) d40_2 (hw _ (List.mem_of_getElem? (i := 254) rfl)) Via.refl (S_fm.ext O0.2) rfl ?_
  intro T1 X1
  refine OwnW.call_static_v X1 (z := (⟨"jdk/internal/util/Preconditions", "checkIndex", "(IILjava/util/function/BiFunction;)I"⟩ : MethodName)) (n := 8) d40_5 (hw _ (List.mem_of_getElem? (i := 256) rfl)) (hw _ (List.mem_of_getElem? (i := 257) rfl)) (hw _ (List.mem_of_getElem? (i := 258) rfl)) (hw _ (List.mem_of_getElem? (i := 255) rfl)) (by decide) (rmPn l Z a0 hw hE [] p0 p1 h0 n0 h1 h2) OwnW.sf0 (argsL := [(.int p0), (.int p1), .null]) (rest := []) rfl rfl (OwnW.lenA pd__IILjava_util_function_BiFunction__I rfl) (W := 0) (Nat.le_of_eq rfl) (by decide) (by decide) (by decide) (by decide) rfl ?_
  intro T2 h2 w2 g2 hle2 X2 ⟨q1, q2⟩
  subst q1 q2
  refine OwnW.pop X2 (n := 9) d40_8 rfl rfl ?_
  exact OwnW.vreturn X2 rfl d40_9 rfl (by decide) (by decide)
theorem ef_rmCr (m : MethodId) (x0 : Int32) (x1 : Int32) : entryFrame m #[(.int x0), (.int x1)] 2 = mkF m 0 #[.val (.int x0), .val (.int x1)] [] := by first | (simp [entryFrame, mkF, argsToLocals, Value.category]; done) | rfl
set_option maxRecDepth 65536 in
set_option maxHeartbeats 40000000 in
theorem rmCr {kn : Prop} (l : Launch) (Z : State) (a0 : Array Value) (hw : ∀ d ∈ tables_1, d.before a0 Z = true) (hE : EW Z a0 own_EL) (ws : List Jvm.Cond) (p0 : Int32) (p1 : Int32) (h0 : Heap) (n0 : Nat) (O0 : Old Z n0 h0) (f : Addr) (h1 : ¬ p0 < 0) (h2 : p0 < p1) (S_fm : Sta Z Z.heap "jdk/internal/util/Preconditions" "SIOOBE_FORMATTER" "Ljava/util/function/BiFunction;" (.ref f)) :
    Ctr kn l Z own_EL (⟨"java/lang/String", "checkIndex", "(II)V"⟩ : MethodName) jdk_42_method_155_code 2 none ws ({ frames := 1, cells := 0, slots := 0, locals := 14 } : Room) n0 ([]) #[(.int p0), (.int p1)] h0 (Rn (fun h g => h0 = h)) := by
  refine Ctr.of (plainFor_of_name pn_java_lang_String) hE (fun m => ef_rmCr m p0 p1) ?_
  intro p e s m below meth c T0 X0
  have Z0 : Keep h0 h0 [] := Keep.refl _ _
  refine OwnW.iloadN X0 (n := 1) d40_0 rfl rfl ?_
  refine OwnW.iloadN X0 (n := 2) d40_1 rfl rfl ?_
  refine OwnW.getstatic X0 (n := 5) d40_2 (hw _ (List.mem_of_getElem? (i := 254) rfl)) Via.refl (S_fm.ext O0.2) rfl ?_
  intro T1 X1
  refine OwnW.call_static_v X1 (z := (⟨"jdk/internal/util/Preconditions", "checkIndex", "(IILjava/util/function/BiFunction;)I"⟩ : MethodName)) (n := 8) d40_5 (hw _ (List.mem_of_getElem? (i := 256) rfl)) (hw _ (List.mem_of_getElem? (i := 257) rfl)) (hw _ (List.mem_of_getElem? (i := 258) rfl)) (hw _ (List.mem_of_getElem? (i := 255) rfl)) (by decide) (rmPr l Z a0 hw hE [] p0 p1 f h0 n0 h1 h2) OwnW.sf0 (argsL := [(.int p0), (.int p1), (.ref f)]) (rest := []) rfl rfl (OwnW.lenA pd__IILjava_util_function_BiFunction__I rfl) (W := 0) (Nat.le_of_eq rfl) (by decide) (by decide) (by decide) (by decide) rfl ?_
  intro T2 h2 w2 g2 hle2 X2 ⟨q1, q2⟩
  subst q1 q2
  refine OwnW.pop X2 (n := 9) d40_8 rfl rfl ?_
  exact OwnW.vreturn X2 rfl d40_9 rfl (by decide) (by decide)
theorem rmCI {kn : Prop} (l : Launch) (Z : State) (a0 : Array Value) (hw : ∀ d ∈ tables_1, d.before a0 Z = true) (hE : EW Z a0 own_EL) (ws : List Jvm.Cond) (p0 p1 : Int32) (h0 : Heap) (n0 : Nat) (O0 : Old Z n0 h0) (h1 : ¬ p0 < 0) (h2 : p0 < p1) (fm : Value) (hfm : fm = .null ∨ ∃ r, fm = .ref r) (S_fm : Sta Z Z.heap "jdk/internal/util/Preconditions" "SIOOBE_FORMATTER" "Ljava/util/function/BiFunction;" fm) : Ctr kn l Z own_EL (⟨"java/lang/String", "checkIndex", "(II)V"⟩ : MethodName) jdk_42_method_155_code 2 none ws ({ frames := 1, cells := 0, slots := 0, locals := 14 } : Room) n0 [] #[(.int p0), (.int p1)] h0 (Rn (fun h g => h0 = h)) := by
  rcases hfm with rfl | ⟨f, rfl⟩
  · exact rmCn l Z a0 hw hE ws p0 p1 h0 n0 O0 h1 h2 S_fm
  · exact rmCr l Z a0 hw hE ws p0 p1 h0 n0 O0 f h1 h2 S_fm
theorem pd__II_V : parseMethodDescriptor "(II)V" = some ⟨[.int, .int], none⟩ := by decide +kernel
theorem pn_java_lang_StringLatin1 : plainName "java/lang/StringLatin1" = true := by first | (simp [plainName, overriddenIn]; done) | decide +kernel
theorem d39_0 : decode jdk_43_method_2_code 0 = .ok (.iload_n 1, 1) := by decide +kernel
theorem d39_1 : decode jdk_43_method_2_code 1 = .ok (.aload_n 0, 1) := by decide +kernel
theorem d39_2 : decode jdk_43_method_2_code 2 = .ok (.arraylength, 1) := by decide +kernel
theorem d39_3 : decode jdk_43_method_2_code 3 = .ok (.invokestatic 9, 3) := by decide +kernel
theorem d39_6 : decode jdk_43_method_2_code 6 = .ok (.aload_n 0, 1) := by decide +kernel
theorem d39_7 : decode jdk_43_method_2_code 7 = .ok (.iload_n 1, 1) := by decide +kernel
theorem d39_8 : decode jdk_43_method_2_code 8 = .ok (.baload, 1) := by decide +kernel
theorem d39_9 : decode jdk_43_method_2_code 9 = .ok (.sipush 255, 3) := by decide +kernel
theorem d39_12 : decode jdk_43_method_2_code 12 = .ok (.iand, 1) := by decide +kernel
theorem d39_13 : decode jdk_43_method_2_code 13 = .ok (.i2c, 1) := by decide +kernel
theorem d39_14 : decode jdk_43_method_2_code 14 = .ok (.ireturn, 1) := by decide +kernel
theorem ef_rm39 (m : MethodId) (x0 : Addr) (x1 : Int32) : entryFrame m #[(.ref x0), (.int x1)] 2 = mkF m 0 #[.val (.ref x0), .val (.int x1)] [] := by first | (simp [entryFrame, mkF, argsToLocals, Value.category]; done) | rfl
set_option maxRecDepth 65536 in
set_option maxHeartbeats 40000000 in
theorem rm39 {kn : Prop} (l : Launch) (Z : State) (a0 : Array Value) (hw : ∀ d ∈ tables_1, d.before a0 Z = true) (hE : EW Z a0 own_EL) (ws : List Jvm.Cond) (r0 : Addr) (h0 : Heap) (n0 : Nat) (O0 : Old Z n0 h0) (as : List Int32) (i : Nat) (hi : i < as.length) (A0 : Ark Z h0 r0 .byte (as.map Value.int)) (fm : Value) (hfm : fm = .null ∨ ∃ r, fm = .ref r) (S_fm : Sta Z Z.heap "jdk/internal/util/Preconditions" "SIOOBE_FORMATTER" "Ljava/util/function/BiFunction;" fm) :
    Ctr kn l Z own_EL (⟨"java/lang/StringLatin1", "charAt", "([BI)C"⟩ : MethodName) jdk_43_method_2_code 2 (some .char) ws ({ frames := 2, cells := 0, slots := 0, locals := 27 } : Room) n0 ([]) #[(.ref r0), (.int (Int32.ofNat i))] h0 (Rt (fun w h g => w = .int (as.getD i 0 &&& 255).toUInt32.toUInt16.toUInt32.toInt32 ∧ h0 = h)) := by
  refine Ctr.of (plainFor_of_name pn_java_lang_StringLatin1) hE (fun m => ef_rm39 m r0 (Int32.ofNat i)) ?_
  intro p e s m below meth c T0 X0
  have Z0 : Keep h0 h0 [] := Keep.refl _ _
  refine OwnW.iloadN X0 (n := 1) d39_0 rfl rfl ?_
  refine OwnW.aloadN X0 (n := 2) d39_1 rfl rfl rfl ?_
  have hla : as.length < 2147483648 := by simpa using A0.len
  have hii : i < 2147483648 := by omega
  refine OwnW.arraylength X0 (z := Int32.ofNat as.length) (n := 3) d39_2 A0 (by simp) rfl ?_
  refine OwnW.call_static_n X0 (z := (⟨"java/lang/String", "checkIndex", "(II)V"⟩ : MethodName)) (n := 6) d39_3 (hw _ (List.mem_of_getElem? (i := 251) rfl)) (hw _ (List.mem_of_getElem? (i := 252) rfl)) (hw _ (List.mem_of_getElem? (i := 253) rfl)) (hw _ (List.mem_of_getElem? (i := 3) rfl)) (by decide) (rmCI l Z a0 hw hE [] (Int32.ofNat i) (Int32.ofNat as.length) h0 n0 O0 (fun q => by have z := (own_lt hii (n := 0) (by decide)).mp q; omega) ((own_lt hii hla).mpr hi) fm hfm S_fm) OwnW.sf0 (argsL := [(.int (Int32.ofNat i)), (.int (Int32.ofNat as.length))]) (rest := []) rfl rfl (OwnW.lenA pd__II_V rfl) (W := 0) (Nat.le_of_eq rfl) (by decide) (by decide) (by decide) (by decide) rfl ?_
  intro T1 h1 g1 hle1 X1 q2
  subst q2
  refine OwnW.aloadN X1 (n := 7) d39_6 rfl rfl rfl ?_
  refine OwnW.iloadN X1 (n := 8) d39_7 rfl rfl ?_
  refine OwnW.baload X1 (i := i) (v := (.int (as.getD i 0))) (n := 9) d39_8 A0 (own_nat hii) (own_get as hi) rfl ?_
  refine OwnW.sipush X1 (z := (255 : Int32)) (n := 12) d39_9 rfl rfl ?_
  refine OwnW.iand X1 (n := 13) d39_12 rfl ?_
  refine OwnW.i2c X1 (n := 14) d39_13 rfl ?_
  exact OwnW.ireturnN X1 rfl (Or.inr (Or.inr (Or.inl rfl))) (own_narC (own_255 _).1 (own_255 _).2) d39_14 ⟨rfl, rfl⟩ (by decide) (by decide)
theorem d38_0 : decode jdk_42_method_154_code 0 = .ok (.getstatic 38, 3) := by decide +kernel
theorem d38_3 : decode jdk_42_method_154_code 3 = .ok (.ifCond .eq 14, 3) := by decide +kernel
theorem d38_6 : decode jdk_42_method_154_code 6 = .ok (.aload_n 0, 1) := by decide +kernel
theorem d38_7 : decode jdk_42_method_154_code 7 = .ok (.getfield 15, 3) := by decide +kernel
theorem d38_10 : decode jdk_42_method_154_code 10 = .ok (.ifCond .ne 7, 3) := by decide +kernel
theorem d38_13 : decode jdk_42_method_154_code 13 = .ok (.iconst 1, 1) := by decide +kernel
theorem d38_14 : decode jdk_42_method_154_code 14 = .ok (.goto 4, 3) := by decide +kernel
theorem d38_18 : decode jdk_42_method_154_code 18 = .ok (.ireturn, 1) := by decide +kernel
theorem ef_rm38 (m : MethodId) (x0 : Addr) : entryFrame m #[(.ref x0)] 1 = mkF m 0 #[.val (.ref x0)] [] := by first | (simp [entryFrame, mkF, argsToLocals, Value.category]; done) | rfl
set_option maxRecDepth 65536 in
set_option maxHeartbeats 40000000 in
theorem rm38 {kn : Prop} (l : Launch) (Z : State) (a0 : Array Value) (hw : ∀ d ∈ tables_1, d.before a0 Z = true) (hE : EW Z a0 own_EL) (ws : List Jvm.Cond) (r0 : Addr) (h0 : Heap) (n0 : Nat) (O0 : Old Z n0 h0) (F0 : Fld Z h0 r0 "java/lang/String" "coder" "B" (.int 0)) (zc : Int32) (hzc : ¬ zc = 0) (S_compact : Sta Z Z.heap "java/lang/String" "COMPACT_STRINGS" "Z" (.int zc)) :
    Ctr kn l Z own_EL (⟨"java/lang/String", "isLatin1", "()Z"⟩ : MethodName) jdk_42_method_154_code 1 (some .boolean) ws ({ frames := 0, cells := 0, slots := 0, locals := 0 } : Room) n0 ([]) #[(.ref r0)] h0 (Rt (fun w h g => w = .int 1 ∧ h0 = h)) := by
  refine Ctr.of (plainFor_of_name pn_java_lang_String) hE (fun m => ef_rm38 m r0) ?_
  intro p e s m below meth c T0 X0
  have Z0 : Keep h0 h0 [] := Keep.refl _ _
  refine OwnW.getstatic X0 (n := 3) d38_0 (hw _ (List.mem_of_getElem? (i := 68) rfl)) Via.refl (S_compact.ext O0.2) rfl ?_
  intro T1 X1
  refine OwnW.if_eq X1  (n1 := 17) (n2 := 6) d38_3 (by decide) rfl rfl (fun q => absurd q (hzc : ¬ zc = 0)) (fun _ => ?_)
  refine OwnW.aloadN X1 (n := 7) d38_6 rfl rfl rfl ?_
  refine OwnW.getfield X1 (n := 10) d38_7 (hw _ (List.mem_of_getElem? (i := 21) rfl)) Via.refl F0 rfl ?_
  intro T2 X2
  refine OwnW.if_ne X2  (n1 := 17) (n2 := 13) d38_10 (by decide) rfl rfl (fun q => absurd ((by decide) : (0 : Int32) = 0) q) (fun _ => ?_)
  refine OwnW.iconst X2 (z := (1 : Int32)) (n := 14) d38_13 rfl rfl ?_
  refine OwnW.goto X2 (n := 18) d38_14 (by decide) rfl ?_
  exact OwnW.ireturn X2 rfl (Or.inr (Or.inl rfl)) rfl d38_18 ⟨rfl, rfl⟩ (by decide) (by decide)
theorem pd___Z : parseMethodDescriptor "()Z" = some ⟨[], some .boolean⟩ := by decide +kernel
theorem pd___BI_C : parseMethodDescriptor "([BI)C" = some ⟨[(.array .byte), .int], some .char⟩ := by decide +kernel
theorem d37_0 : decode jdk_42_method_56_code 0 = .ok (.aload_n 0, 1) := by decide +kernel
theorem d37_1 : decode jdk_42_method_56_code 1 = .ok (.invokevirtual 492, 3) := by decide +kernel
theorem d37_4 : decode jdk_42_method_56_code 4 = .ok (.ifCond .eq 12, 3) := by decide +kernel
theorem d37_7 : decode jdk_42_method_56_code 7 = .ok (.aload_n 0, 1) := by decide +kernel
theorem d37_8 : decode jdk_42_method_56_code 8 = .ok (.getfield 9, 3) := by decide +kernel
theorem d37_11 : decode jdk_42_method_56_code 11 = .ok (.iload_n 1, 1) := by decide +kernel
theorem d37_12 : decode jdk_42_method_56_code 12 = .ok (.invokestatic 495, 3) := by decide +kernel
theorem d37_15 : decode jdk_42_method_56_code 15 = .ok (.ireturn, 1) := by decide +kernel
theorem ef_rm37 (m : MethodId) (x0 : Addr) (x1 : Int32) : entryFrame m #[(.ref x0), (.int x1)] 2 = mkF m 0 #[.val (.ref x0), .val (.int x1)] [] := by first | (simp [entryFrame, mkF, argsToLocals, Value.category]; done) | rfl
set_option maxRecDepth 65536 in
set_option maxHeartbeats 40000000 in
theorem rm37 {kn : Prop} (l : Launch) (Z : State) (a0 : Array Value) (hw : ∀ d ∈ tables_1, d.before a0 Z = true) (hE : EW Z a0 own_EL) (ws : List Jvm.Cond) (r0 : Addr) (h0 : Heap) (n0 : Nat) (O0 : Old Z n0 h0) (t : Addr) (cs : List Int32) (i : Nat) (hi : i < cs.length) (S0 : StrL Z h0 r0 t cs) (zc : Int32) (hzc : ¬ zc = 0) (S_compact : Sta Z Z.heap "java/lang/String" "COMPACT_STRINGS" "Z" (.int zc)) (fm : Value) (hfm : fm = .null ∨ ∃ r, fm = .ref r) (S_fm : Sta Z Z.heap "jdk/internal/util/Preconditions" "SIOOBE_FORMATTER" "Ljava/util/function/BiFunction;" fm) :
    Ctr kn l Z own_EL (⟨"java/lang/String", "charAt", "(I)C"⟩ : MethodName) jdk_42_method_56_code 2 (some .char) ws ({ frames := 4, cells := 0, slots := 0, locals := 53 } : Room) n0 ([]) #[(.ref r0), (.int (Int32.ofNat i))] h0 (Rt (fun w h g => w = .int ((cs.map lo8).getD i 0 &&& 255).toUInt32.toUInt16.toUInt32.toInt32 ∧ h0 = h)) := by
  refine Ctr.of (plainFor_of_name pn_java_lang_String) hE (fun m => ef_rm37 m r0 (Int32.ofNat i)) ?_
  intro p e s m below meth c T0 X0
  have Z0 : Keep h0 h0 [] := Keep.refl _ _
  refine OwnW.aloadN X0 (n := 1) d37_0 rfl rfl rfl ?_
  refine OwnW.call_virtual_v X0 (z := (⟨"java/lang/String", "isLatin1", "()Z"⟩ : MethodName)) (yv := (⟨"java/lang/String", "isLatin1", "()Z"⟩ : MethodName)) (a := r0) (C := "java/lang/String") (n := 4) d37_1 (hw _ (List.mem_of_getElem? (i := 243) rfl)) (hw _ (List.mem_of_getElem? (i := 244) rfl)) (hw _ (List.mem_of_getElem? (i := 245) rfl)) (hw _ (List.mem_of_getElem? (i := 246) rfl)) (fun hz => notFace_of_selects (args := #[]) (mvT hz (hw _ (List.mem_of_getElem? (i := 246) rfl)))) (hw _ (List.mem_of_getElem? (i := 247) rfl)) (hw _ (List.mem_of_getElem? (i := 3) rfl)) (by decide) S0.1 (rm38 l Z a0 hw hE [] r0 h0 n0 O0 S0.2.1 zc hzc S_compact) OwnW.sf0 (argsL := []) (rest := []) rfl rfl (OwnW.lenA pd___Z rfl) (W := 0) (Nat.le_of_eq rfl) (by decide) (by decide) (by decide) (by decide) rfl ?_
  intro T1 h1 w1 g1 hle1 X1 ⟨q1, q2⟩
  subst q1 q2
  refine OwnW.if_eq X1  (n1 := 16) (n2 := 7) d37_4 (by decide) rfl rfl (fun q => absurd q ((by decide) : ¬ (1 : Int32) = 0)) (fun _ => ?_)
  refine OwnW.aloadN X1 (n := 8) d37_7 rfl rfl rfl ?_
  refine OwnW.getfield X1 (n := 11) d37_8 (hw _ (List.mem_of_getElem? (i := 20) rfl)) Via.refl S0.2.2.1 rfl ?_
  intro T2 X2
  refine OwnW.iloadN X2 (n := 12) d37_11 rfl rfl ?_
  refine OwnW.call_static_v X2 (z := (⟨"java/lang/StringLatin1", "charAt", "([BI)C"⟩ : MethodName)) (n := 15) d37_12 (hw _ (List.mem_of_getElem? (i := 248) rfl)) (hw _ (List.mem_of_getElem? (i := 249) rfl)) (hw _ (List.mem_of_getElem? (i := 250) rfl)) (hw _ (List.mem_of_getElem? (i := 235) rfl)) (by decide) (rm39 l Z a0 hw hE [] t h0 n0 O0 (cs.map lo8) i (by simpa using hi) S0.2.2.2 fm hfm S_fm) OwnW.sf0 (argsL := [(.ref t), (.int (Int32.ofNat i))]) (rest := []) rfl rfl (OwnW.lenA pd___BI_C rfl) (W := 0) (Nat.le_of_eq rfl) (by decide) (by decide) (by decide) (by decide) rfl ?_
  intro T3 h3 w3 g3 hle3 X3 ⟨q1, q2⟩
  subst q1 q2
  exact OwnW.ireturnN X3 rfl (Or.inr (Or.inr (Or.inl rfl))) (own_narC (own_255 _).1 (own_255 _).2) d37_15 ⟨rfl, rfl⟩ (by decide) (by decide)
theorem ef_rm10u (m : MethodId) (x0 : Addr) : entryFrame m #[(.ref x0)] 1 = mkF m 0 #[.val (.ref x0)] [] := by first | (simp [entryFrame, mkF, argsToLocals, Value.category]; done) | rfl
set_option maxRecDepth 65536 in
set_option maxHeartbeats 40000000 in
theorem rm10u {kn : Prop} (l : Launch) (Z : State) (a0 : Array Value) (hw : ∀ d ∈ tables_1, d.before a0 Z = true) (hE : EW Z a0 own_EL) (ws : List Jvm.Cond) (r0 : Addr) (h0 : Heap) (n0 : Nat) (O0 : Old Z n0 h0) (F0 : Fld Z h0 r0 "java/lang/String" "coder" "B" (.int 1)) (zc : Int32) (hzc : ¬ zc = 0) (S_compact : Sta Z Z.heap "java/lang/String" "COMPACT_STRINGS" "Z" (.int zc)) :
    Ctr kn l Z own_EL (⟨"java/lang/String", "coder", "()B"⟩ : MethodName) jdk_42_method_152_code 1 (some .byte) ws ({ frames := 0, cells := 0, slots := 0, locals := 0 } : Room) n0 ([]) #[(.ref r0)] h0 (Rt (fun w h g => w = .int 1 ∧ h0 = h)) := by
  refine Ctr.of (plainFor_of_name pn_java_lang_String) hE (fun m => ef_rm10u m r0) ?_
  intro p e s m below meth c T0 X0
  have Z0 : Keep h0 h0 [] := Keep.refl _ _
  refine OwnW.getstatic X0 (n := 3) d10_0 (hw _ (List.mem_of_getElem? (i := 68) rfl)) Via.refl (S_compact.ext O0.2) rfl ?_
  intro T1 X1
  refine OwnW.if_eq X1  (n1 := 13) (n2 := 6) d10_3 (by decide) rfl rfl (fun q => absurd q (hzc : ¬ zc = 0)) (fun _ => ?_)
  refine OwnW.aloadN X1 (n := 7) d10_6 rfl rfl rfl ?_
  refine OwnW.getfield X1 (n := 10) d10_7 (hw _ (List.mem_of_getElem? (i := 21) rfl)) Via.refl F0 rfl ?_
  intro T2 X2
  refine OwnW.goto X2 (n := 14) d10_10 (by decide) rfl ?_
  exact OwnW.ireturn X2 rfl (Or.inr (Or.inr (Or.inl rfl))) rfl d10_14 ⟨rfl, rfl⟩ (by decide) (by decide)
theorem ef_rm9u (m : MethodId) (x0 : Addr) : entryFrame m #[(.ref x0)] 1 = mkF m 0 #[.val (.ref x0)] [] := by first | (simp [entryFrame, mkF, argsToLocals, Value.category]; done) | rfl
set_option maxRecDepth 65536 in
set_option maxHeartbeats 40000000 in
theorem rm9u {kn : Prop} (l : Launch) (Z : State) (a0 : Array Value) (hw : ∀ d ∈ tables_1, d.before a0 Z = true) (hE : EW Z a0 own_EL) (ws : List Jvm.Cond) (r0 : Addr) (h0 : Heap) (n0 : Nat) (O0 : Old Z n0 h0) (t : Addr) (us : List Nat) (hul : us.length ≤ 80) (E0 : Exa Z h0 r0 "java/lang/String") (F2 : Fld Z h0 r0 "java/lang/String" "coder" "B" (.int 1)) (F1 : Fld Z h0 r0 "java/lang/String" "value" "[B" (.ref t)) (A0 : Ark Z h0 t .byte (own_ub us)) (zc : Int32) (hzc : ¬ zc = 0) (S_compact : Sta Z Z.heap "java/lang/String" "COMPACT_STRINGS" "Z" (.int zc)) :
    Ctr kn l Z own_EL (⟨"java/lang/String", "length", "()I"⟩ : MethodName) jdk_42_method_54_code 1 (some .int) ws ({ frames := 1, cells := 0, slots := 0, locals := 13 } : Room) n0 ([]) #[(.ref r0)] h0 (Rt (fun w h g => w = .int (Int32.ofNat us.length) ∧ h0 = h)) := by
  refine Ctr.of (plainFor_of_name pn_java_lang_String) hE (fun m => ef_rm9u m r0) ?_
  intro p e s m below meth c T0 X0
  have Z0 : Keep h0 h0 [] := Keep.refl _ _
  refine OwnW.aloadN X0 (n := 1) d9_0 rfl rfl rfl ?_
  refine OwnW.getfield X0 (n := 4) d9_1 (hw _ (List.mem_of_getElem? (i := 20) rfl)) Via.refl F1 rfl ?_
  intro T1 X1
  refine OwnW.arraylength X1 (z := Int32.ofNat (2 * us.length)) (n := 5) d9_4 A0 (congrArg Int32.ofNat (own_ub_len us)) rfl ?_
  refine OwnW.aloadN X1 (n := 6) d9_5 rfl rfl rfl ?_
  refine OwnW.call_virtual_v X1 (z := (⟨"java/lang/String", "coder", "()B"⟩ : MethodName)) (yv := (⟨"java/lang/String", "coder", "()B"⟩ : MethodName)) (a := r0) (C := "java/lang/String") (n := 9) d9_6 (hw _ (List.mem_of_getElem? (i := 63) rfl)) (hw _ (List.mem_of_getElem? (i := 64) rfl)) (hw _ (List.mem_of_getElem? (i := 65) rfl)) (hw _ (List.mem_of_getElem? (i := 66) rfl)) (fun hz => notFace_of_selects (args := #[]) (mvT hz (hw _ (List.mem_of_getElem? (i := 66) rfl)))) (hw _ (List.mem_of_getElem? (i := 67) rfl)) (hw _ (List.mem_of_getElem? (i := 3) rfl)) (by decide) E0 (rm10u l Z a0 hw hE [] r0 h0 n0 O0 F2 zc hzc S_compact) OwnW.sf0 (argsL := []) (rest := [(.int (Int32.ofNat (2 * us.length)))]) rfl rfl (OwnW.lenA pd___B rfl) (W := 1) (Nat.le_of_eq rfl) (by decide) (by decide) (by decide) (by decide) rfl ?_
  intro T2 h2 w2 g2 hle2 X2 ⟨q1, q2⟩
  subst q1 q2
  refine OwnW.ishr X2 (n := 10) d9_9 rfl ?_
  rw [own_shr1 (i := (2 * us.length)) (by omega)]
  exact OwnW.ireturn X2 rfl (Or.inl rfl) rfl d9_10 ⟨by rw [show (2 * us.length) / 2 = us.length from by omega], rfl⟩ (by decide) (by decide)
theorem rmLEN {kn : Prop} (l : Launch) (Z : State) (a0 : Array Value) (hw : ∀ d ∈ tables_1, d.before a0 Z = true) (hE : EW Z a0 own_EL) (ws : List Jvm.Cond) (r0 : Addr) (h0 : Heap) (n0 : Nat) (O0 : Old Z n0 h0) (t : Addr) (us : List Nat) (hul : us.length ≤ 80) (S0 : own_U Z h0 r0 t us) (zc : Int32) (hzc : ¬ zc = 0) (S_compact : Sta Z Z.heap "java/lang/String" "COMPACT_STRINGS" "Z" (.int zc)) : Ctr kn l Z own_EL (⟨"java/lang/String", "length", "()I"⟩ : MethodName) jdk_42_method_54_code 1 (some .int) ws ({ frames := 1, cells := 0, slots := 0, locals := 13 } : Room) n0 [] #[(.ref r0)] h0 (Rt (fun w h g => w = .int (Int32.ofNat us.length) ∧ h0 = h)) := by
  rcases S0 with ⟨qa, S⟩ | ⟨qa, E, F2, F1, A⟩
  · have z := rm9 (kn := kn) l Z a0 hw hE ws r0 h0 n0 O0 t (us.map Int32.ofNat) S zc hzc S_compact
    rw [List.length_map] at z
    exact z
  · exact rm9u l Z a0 hw hE ws r0 h0 n0 O0 t us hul E F2 F1 A zc hzc S_compact
theorem pn_java_lang_StringUTF16 : plainName "java/lang/StringUTF16" = true := by first | (simp [plainName, overriddenIn]; done) | decide +kernel
theorem d52_0 : decode jdk_52_method_5_code 0 = .ok (.getstatic 44, 3) := by decide +kernel
theorem d52_3 : decode jdk_52_method_5_code 3 = .ok (.ifCond .ne 25, 3) := by decide +kernel
theorem d52_28 : decode jdk_52_method_5_code 28 = .ok (.iload_n 1, 1) := by decide +kernel
theorem d52_29 : decode jdk_52_method_5_code 29 = .ok (.iconst 1, 1) := by decide +kernel
theorem d52_30 : decode jdk_52_method_5_code 30 = .ok (.ishl, 1) := by decide +kernel
theorem d52_31 : decode jdk_52_method_5_code 31 = .ok (.istore_n 1, 1) := by decide +kernel
theorem d52_32 : decode jdk_52_method_5_code 32 = .ok (.aload_n 0, 1) := by decide +kernel
theorem d52_33 : decode jdk_52_method_5_code 33 = .ok (.iload_n 1, 1) := by decide +kernel
theorem d52_34 : decode jdk_52_method_5_code 34 = .ok (.iinc 1 1, 3) := by decide +kernel
theorem d52_37 : decode jdk_52_method_5_code 37 = .ok (.baload, 1) := by decide +kernel
theorem d52_38 : decode jdk_52_method_5_code 38 = .ok (.sipush 255, 3) := by decide +kernel
theorem d52_41 : decode jdk_52_method_5_code 41 = .ok (.iand, 1) := by decide +kernel
theorem d52_42 : decode jdk_52_method_5_code 42 = .ok (.getstatic 59, 3) := by decide +kernel
theorem d52_45 : decode jdk_52_method_5_code 45 = .ok (.ishl, 1) := by decide +kernel
theorem d52_46 : decode jdk_52_method_5_code 46 = .ok (.aload_n 0, 1) := by decide +kernel
theorem d52_47 : decode jdk_52_method_5_code 47 = .ok (.iload_n 1, 1) := by decide +kernel
theorem d52_48 : decode jdk_52_method_5_code 48 = .ok (.baload, 1) := by decide +kernel
theorem d52_49 : decode jdk_52_method_5_code 49 = .ok (.sipush 255, 3) := by decide +kernel
theorem d52_52 : decode jdk_52_method_5_code 52 = .ok (.iand, 1) := by decide +kernel
theorem d52_53 : decode jdk_52_method_5_code 53 = .ok (.getstatic 63, 3) := by decide +kernel
theorem d52_56 : decode jdk_52_method_5_code 56 = .ok (.ishl, 1) := by decide +kernel
theorem d52_57 : decode jdk_52_method_5_code 57 = .ok (.ior, 1) := by decide +kernel
theorem d52_58 : decode jdk_52_method_5_code 58 = .ok (.i2c, 1) := by decide +kernel
theorem d52_59 : decode jdk_52_method_5_code 59 = .ok (.ireturn, 1) := by decide +kernel
theorem ef_rm52 (m : MethodId) (x0 : Addr) (x1 : Int32) : entryFrame m #[(.ref x0), (.int x1)] 2 = mkF m 0 #[.val (.ref x0), .val (.int x1)] [] := by first | (simp [entryFrame, mkF, argsToLocals, Value.category]; done) | rfl
set_option maxRecDepth 65536 in
set_option maxHeartbeats 40000000 in
theorem rm52 {kn : Prop} (l : Launch) (Z : State) (a0 : Array Value) (hw : ∀ d ∈ tables_1, d.before a0 Z = true) (hE : EW Z a0 own_EL) (ws : List Jvm.Cond) (r0 : Addr) (h0 : Heap) (n0 : Nat) (O0 : Old Z n0 h0) (i k : Nat) (hi : i < 1000000000) (hk : k ≤ 65535) (vs : List Value) (h1 : vs[2 * i]? = some (.int (lo8 (Int32.ofNat k >>> ((0 : Int32) &&& 31))))) (h2 : vs[2 * i + 1]? = some (.int (lo8 (Int32.ofNat k >>> ((8 : Int32) &&& 31))))) (A0 : Ark Z h0 r0 .byte vs) (S_ad : Sta Z Z.heap "java/lang/StringUTF16" "$assertionsDisabled" "Z" (.int 1)) (S_hi : Sta Z Z.heap "java/lang/StringUTF16" "HI_BYTE_SHIFT" "I" (.int 0)) (S_lo : Sta Z Z.heap "java/lang/StringUTF16" "LO_BYTE_SHIFT" "I" (.int 8)) :
    Ctr kn l Z own_EL (⟨"java/lang/StringUTF16", "getChar", "([BI)C"⟩ : MethodName) jdk_52_method_5_code 2 (some .char) ws ({ frames := 0, cells := 0, slots := 0, locals := 0 } : Room) n0 ([]) #[(.ref r0), (.int (Int32.ofNat i))] h0 (Rt (fun w h g => w = .int (Int32.ofNat k) ∧ h0 = h)) := by
  refine Ctr.of (plainFor_of_name pn_java_lang_StringUTF16) hE (fun m => ef_rm52 m r0 (Int32.ofNat i)) ?_
  intro p e s m below meth c T0 X0
  have Z0 : Keep h0 h0 [] := Keep.refl _ _
  refine OwnW.getstatic X0 (n := 3) d52_0 (hw _ (List.mem_of_getElem? (i := 295) rfl)) Via.refl (S_ad.ext O0.2) rfl ?_
  intro T1 X1
  refine OwnW.if_ne X1  (n1 := 28) (n2 := 6) d52_3 (by decide) rfl rfl (fun _ => ?_) (fun q => absurd q ((by decide) : ¬ (1 : Int32) = 0))
  refine OwnW.iloadN X1 (n := 29) d52_28 rfl rfl ?_
  refine OwnW.iconst X1 (z := (1 : Int32)) (n := 30) d52_29 rfl rfl ?_
  refine OwnW.ishl X1 (n := 31) d52_30 rfl ?_
  rw [own_shl1 (i := i) (by omega)]
  refine OwnW.istoreN X1 (l' := #[.val (.ref r0), .val (.int (Int32.ofNat (2 * i)))]) (n := 32) d52_31 rfl rfl ?_
  refine OwnW.aloadN X1 (n := 33) d52_32 rfl rfl rfl ?_
  refine OwnW.iloadN X1 (n := 34) d52_33 rfl rfl ?_
  refine OwnW.iinc X1 (z := (1 : Int32)) (u := ((Int32.ofNat (2 * i)) + (1 : Int32))) (l' := #[.val (.ref r0), .val (.int ((Int32.ofNat (2 * i)) + (1 : Int32)))]) (n := 37) d52_34 rfl rfl rfl rfl rfl ?_
  rw [show (((Int32.ofNat (2 * i)) + (1 : Int32)) : Int32) = (Int32.ofNat ((2 * i) + 1)) from own_add (2 * i) 1]
  refine OwnW.baload X1 (i := 2 * i) (v := (.int (lo8 (Int32.ofNat k >>> ((0 : Int32) &&& 31))))) (n := 38) d52_37 A0 (own_nat (i := 2 * i) (by omega)) h1 rfl ?_
  refine OwnW.sipush X1 (z := (255 : Int32)) (n := 41) d52_38 rfl rfl ?_
  refine OwnW.iand X1 (n := 42) d52_41 rfl ?_
  refine OwnW.getstatic X1 (n := 45) d52_42 (hw _ (List.mem_of_getElem? (i := 296) rfl)) Via.refl (S_hi.ext O0.2) rfl ?_
  intro T2 X2
  refine OwnW.ishl X2 (n := 46) d52_45 rfl ?_
  refine OwnW.aloadN X2 (n := 47) d52_46 rfl rfl rfl ?_
  refine OwnW.iloadN X2 (n := 48) d52_47 rfl rfl ?_
  refine OwnW.baload X2 (i := 2 * i + 1) (v := (.int (lo8 (Int32.ofNat k >>> ((8 : Int32) &&& 31))))) (n := 49) d52_48 A0 (own_nat (i := 2 * i + 1) (by omega)) h2 rfl ?_
  refine OwnW.sipush X2 (z := (255 : Int32)) (n := 52) d52_49 rfl rfl ?_
  refine OwnW.iand X2 (n := 53) d52_52 rfl ?_
  refine OwnW.getstatic X2 (n := 56) d52_53 (hw _ (List.mem_of_getElem? (i := 297) rfl)) Via.refl (S_lo.ext O0.2) rfl ?_
  intro T3 X3
  refine OwnW.ishl X3 (n := 57) d52_56 rfl ?_
  refine OwnW.ior X3 (n := 58) d52_57 rfl ?_
  refine OwnW.i2c X3 (n := 59) d52_58 rfl ?_
  rw [own_join16 hk]
  exact OwnW.ireturnN X3 rfl (Or.inr (Or.inr (Or.inl rfl))) (own_nar16 hk) d52_59 ⟨rfl, rfl⟩ (by decide) (by decide)
theorem d51_0 : decode jdk_52_method_4_code 0 = .ok (.getstatic 44, 3) := by decide +kernel
theorem d51_3 : decode jdk_52_method_4_code 3 = .ok (.ifCond .ne 25, 3) := by decide +kernel
theorem d51_28 : decode jdk_52_method_4_code 28 = .ok (.iload_n 1, 1) := by decide +kernel
theorem d51_29 : decode jdk_52_method_4_code 29 = .ok (.iconst 1, 1) := by decide +kernel
theorem d51_30 : decode jdk_52_method_4_code 30 = .ok (.ishl, 1) := by decide +kernel
theorem d51_31 : decode jdk_52_method_4_code 31 = .ok (.istore_n 1, 1) := by decide +kernel
theorem d51_32 : decode jdk_52_method_4_code 32 = .ok (.aload_n 0, 1) := by decide +kernel
theorem d51_33 : decode jdk_52_method_4_code 33 = .ok (.iload_n 1, 1) := by decide +kernel
theorem d51_34 : decode jdk_52_method_4_code 34 = .ok (.iinc 1 1, 3) := by decide +kernel
theorem d51_37 : decode jdk_52_method_4_code 37 = .ok (.iload_n 2, 1) := by decide +kernel
theorem d51_38 : decode jdk_52_method_4_code 38 = .ok (.getstatic 59, 3) := by decide +kernel
theorem d51_41 : decode jdk_52_method_4_code 41 = .ok (.ishr, 1) := by decide +kernel
theorem d51_42 : decode jdk_52_method_4_code 42 = .ok (.i2b, 1) := by decide +kernel
theorem d51_43 : decode jdk_52_method_4_code 43 = .ok (.bastore, 1) := by decide +kernel
theorem d51_44 : decode jdk_52_method_4_code 44 = .ok (.aload_n 0, 1) := by decide +kernel
theorem d51_45 : decode jdk_52_method_4_code 45 = .ok (.iload_n 1, 1) := by decide +kernel
theorem d51_46 : decode jdk_52_method_4_code 46 = .ok (.iload_n 2, 1) := by decide +kernel
theorem d51_47 : decode jdk_52_method_4_code 47 = .ok (.getstatic 63, 3) := by decide +kernel
theorem d51_50 : decode jdk_52_method_4_code 50 = .ok (.ishr, 1) := by decide +kernel
theorem d51_51 : decode jdk_52_method_4_code 51 = .ok (.i2b, 1) := by decide +kernel
theorem d51_52 : decode jdk_52_method_4_code 52 = .ok (.bastore, 1) := by decide +kernel
theorem d51_53 : decode jdk_52_method_4_code 53 = .ok (.return_, 1) := by decide +kernel
theorem ef_rm51 (m : MethodId) (x0 : Addr) (x1 : Int32) (x2 : Int32) : entryFrame m #[(.ref x0), (.int x1), (.int x2)] 3 = mkF m 0 #[.val (.ref x0), .val (.int x1), .val (.int x2)] [] := by first | (simp [entryFrame, mkF, argsToLocals, Value.category]; done) | rfl
set_option maxRecDepth 65536 in
set_option maxHeartbeats 40000000 in
theorem rm51 {kn : Prop} (l : Launch) (Z : State) (a0 : Array Value) (hw : ∀ d ∈ tables_1, d.before a0 Z = true) (hE : EW Z a0 own_EL) (ws : List Jvm.Cond) (r0 : Addr) (h0 : Heap) (n0 : Nat) (O0 : Old Z n0 h0) (i k : Nat) (hi : i < 1000000000) (vs : List Value) (hl : 2 * i + 1 < vs.length) (ge_r0 : n0 ≤ r0) (A0 : Ark Z h0 r0 .byte vs) (S_ad : Sta Z Z.heap "java/lang/StringUTF16" "$assertionsDisabled" "Z" (.int 1)) (S_hi : Sta Z Z.heap "java/lang/StringUTF16" "HI_BYTE_SHIFT" "I" (.int 0)) (S_lo : Sta Z Z.heap "java/lang/StringUTF16" "LO_BYTE_SHIFT" "I" (.int 8)) :
    Ctr kn l Z own_EL (⟨"java/lang/StringUTF16", "putChar", "([BII)V"⟩ : MethodName) jdk_52_method_4_code 3 none ws ({ frames := 0, cells := 0, slots := 0, locals := 0 } : Room) n0 (r0 :: []) #[(.ref r0), (.int (Int32.ofNat i)), (.int (Int32.ofNat k))] h0 (Rn (fun h g => Keep h0 h [r0] ∧ Ark Z h r0 .byte ((vs.set (2 * i) (.int (lo8 (Int32.ofNat k >>> ((0 : Int32) &&& 31))))).set (2 * i + 1) (.int (lo8 (Int32.ofNat k >>> ((8 : Int32) &&& 31))))))) := by
  refine Ctr.of (plainFor_of_name pn_java_lang_StringUTF16) hE (fun m => ef_rm51 m r0 (Int32.ofNat i) (Int32.ofNat k)) ?_
  intro p e s m below meth c T0 X0
  have Z0 : Keep h0 h0 [r0] := Keep.refl _ _
  refine OwnW.getstatic X0 (n := 3) d51_0 (hw _ (List.mem_of_getElem? (i := 295) rfl)) Via.refl (S_ad.ext O0.2) rfl ?_
  intro T1 X1
  refine OwnW.if_ne X1  (n1 := 28) (n2 := 6) d51_3 (by decide) rfl rfl (fun _ => ?_) (fun q => absurd q ((by decide) : ¬ (1 : Int32) = 0))
  refine OwnW.iloadN X1 (n := 29) d51_28 rfl rfl ?_
  refine OwnW.iconst X1 (z := (1 : Int32)) (n := 30) d51_29 rfl rfl ?_
  refine OwnW.ishl X1 (n := 31) d51_30 rfl ?_
  rw [own_shl1 (i := i) (by omega)]
  refine OwnW.istoreN X1 (l' := #[.val (.ref r0), .val (.int (Int32.ofNat (2 * i))), .val (.int (Int32.ofNat k))]) (n := 32) d51_31 rfl rfl ?_
  refine OwnW.aloadN X1 (n := 33) d51_32 rfl rfl rfl ?_
  refine OwnW.iloadN X1 (n := 34) d51_33 rfl rfl ?_
  refine OwnW.iinc X1 (z := (1 : Int32)) (u := ((Int32.ofNat (2 * i)) + (1 : Int32))) (l' := #[.val (.ref r0), .val (.int ((Int32.ofNat (2 * i)) + (1 : Int32))), .val (.int (Int32.ofNat k))]) (n := 37) d51_34 rfl rfl rfl rfl rfl ?_
  rw [show (((Int32.ofNat (2 * i)) + (1 : Int32)) : Int32) = (Int32.ofNat ((2 * i) + 1)) from own_add (2 * i) 1]
  refine OwnW.iloadN X1 (n := 38) d51_37 rfl rfl ?_
  refine OwnW.getstatic X1 (n := 41) d51_38 (hw _ (List.mem_of_getElem? (i := 296) rfl)) Via.refl (S_hi.ext O0.2) rfl ?_
  intro T2 X2
  refine OwnW.ishr X2 (n := 42) d51_41 rfl ?_
  refine OwnW.i2b X2 (n := 43) d51_42 rfl ?_
  refine OwnW.bastore X2 (i := 2 * i) (z := (lo8 (Int32.ofNat k >>> ((0 : Int32) &&& 31)))) (n := 44) d51_43 A0 (own_nat (i := 2 * i) (by omega)) (by omega) (own_narB _) ge_r0 (List.mem_cons_self ..) rfl ?_
  intro T3 h3 X3 W3 A3
  have K3 := (Keep.of_wr W3)
  have O3 := O0.keep K3 (allS ge_r0 all0)
  have Z3 : Keep h0 h3 [r0] := Z0.trans K3 (allS (P := fun x => x ∈ [r0] ∨ h0.size ≤ x) (Or.inl (List.mem_of_getElem? (i := 0) rfl)) all0)
  refine OwnW.aloadN X3 (n := 45) d51_44 rfl rfl rfl ?_
  refine OwnW.iloadN X3 (n := 46) d51_45 rfl rfl ?_
  refine OwnW.iloadN X3 (n := 47) d51_46 rfl rfl ?_
  refine OwnW.getstatic X3 (n := 50) d51_47 (hw _ (List.mem_of_getElem? (i := 297) rfl)) Via.refl (S_lo.ext O3.2) rfl ?_
  intro T4 X4
  refine OwnW.ishr X4 (n := 51) d51_50 rfl ?_
  refine OwnW.i2b X4 (n := 52) d51_51 rfl ?_
  refine OwnW.bastore X4 (i := 2 * i + 1) (z := (lo8 (Int32.ofNat k >>> ((8 : Int32) &&& 31)))) (n := 53) d51_52 A3 (own_nat (i := 2 * i + 1) (by omega)) (by simpa using hl) (own_narB _) ge_r0 (List.mem_cons_self ..) rfl ?_
  intro T5 h5 X5 W5 A5
  have K5 := (Keep.of_wr W5)
  have O5 := O3.keep K5 (allS ge_r0 all0)
  have Z5 : Keep h0 h5 [r0] := Z3.trans K5 (allS (P := fun x => x ∈ [r0] ∨ h0.size ≤ x) (Or.inl (List.mem_of_getElem? (i := 0) rfl)) all0)
  exact OwnW.vreturn X5 rfl d51_53 ⟨Z5, A5⟩ (by decide) (by decide)
theorem d57_0 : decode jdk_52_method_6_code 0 = .ok (.aload_n 0, 1) := by decide +kernel
theorem d57_1 : decode jdk_52_method_6_code 1 = .ok (.arraylength, 1) := by decide +kernel
theorem d57_2 : decode jdk_52_method_6_code 2 = .ok (.iconst 1, 1) := by decide +kernel
theorem d57_3 : decode jdk_52_method_6_code 3 = .ok (.ishr, 1) := by decide +kernel
theorem d57_4 : decode jdk_52_method_6_code 4 = .ok (.ireturn, 1) := by decide +kernel
theorem ef_rm57 (m : MethodId) (x0 : Addr) : entryFrame m #[(.ref x0)] 1 = mkF m 0 #[.val (.ref x0)] [] := by first | (simp [entryFrame, mkF, argsToLocals, Value.category]; done) | rfl
set_option maxRecDepth 65536 in
set_option maxHeartbeats 40000000 in
theorem rm57 {kn : Prop} (l : Launch) (Z : State) (a0 : Array Value) (hw : ∀ d ∈ tables_1, d.before a0 Z = true) (hE : EW Z a0 own_EL) (ws : List Jvm.Cond) (r0 : Addr) (h0 : Heap) (n0 : Nat) (vs : List Value) (mm : Nat) (hv : vs.length = 2 * mm) (hmm : mm < 1000) (A0 : Ark Z h0 r0 .byte vs) :
    Ctr kn l Z own_EL (⟨"java/lang/StringUTF16", "length", "([B)I"⟩ : MethodName) jdk_52_method_6_code 1 (some .int) ws ({ frames := 0, cells := 0, slots := 0, locals := 0 } : Room) n0 ([]) #[(.ref r0)] h0 (Rt (fun w h g => w = .int (Int32.ofNat mm) ∧ h0 = h)) := by
  refine Ctr.of (plainFor_of_name pn_java_lang_StringUTF16) hE (fun m => ef_rm57 m r0) ?_
  intro p e s m below meth c T0 X0
  refine OwnW.aloadN X0 (n := 1) d57_0 rfl rfl rfl ?_
  refine OwnW.arraylength X0 (z := Int32.ofNat (2 * mm)) (n := 2) d57_1 A0 (congrArg Int32.ofNat hv) rfl ?_
  refine OwnW.iconst X0 (z := (1 : Int32)) (n := 3) d57_2 rfl rfl ?_
  refine OwnW.ishr X0 (n := 4) d57_3 rfl ?_
  rw [own_shr1 (i := (2 * mm)) (by omega)]
  exact OwnW.ireturn X0 rfl (Or.inl rfl) rfl d57_4 ⟨by rw [show (2 * mm) / 2 = mm from by omega], rfl⟩ (by decide) (by decide)
theorem pd___B_I : parseMethodDescriptor "([B)I" = some ⟨[(.array .byte)], some .int⟩ := by decide +kernel
theorem d61_0 : decode jdk_52_method_91_code 0 = .ok (.iload_n 0, 1) := by decide +kernel
theorem d61_1 : decode jdk_52_method_91_code 1 = .ok (.aload_n 1, 1) := by decide +kernel
theorem d61_2 : decode jdk_52_method_91_code 2 = .ok (.invokestatic 48, 3) := by decide +kernel
theorem d61_5 : decode jdk_52_method_91_code 5 = .ok (.invokestatic 414, 3) := by decide +kernel
theorem d61_8 : decode jdk_52_method_91_code 8 = .ok (.return_, 1) := by decide +kernel
theorem ef_rm61 (m : MethodId) (x0 : Int32) (x1 : Addr) : entryFrame m #[(.int x0), (.ref x1)] 2 = mkF m 0 #[.val (.int x0), .val (.ref x1)] [] := by first | (simp [entryFrame, mkF, argsToLocals, Value.category]; done) | rfl
set_option maxRecDepth 65536 in
set_option maxHeartbeats 40000000 in
theorem rm61 {kn : Prop} (l : Launch) (Z : State) (a0 : Array Value) (hw : ∀ d ∈ tables_1, d.before a0 Z = true) (hE : EW Z a0 own_EL) (ws : List Jvm.Cond) (r1 : Addr) (h0 : Heap) (n0 : Nat) (O0 : Old Z n0 h0) (i : Nat) (us : List Nat) (hul : us.length ≤ 80) (hi : i < us.length) (A0 : Ark Z h0 r1 .byte (own_ub us)) (fm : Value) (hfm : fm = .null ∨ ∃ r, fm = .ref r) (S_fm : Sta Z Z.heap "jdk/internal/util/Preconditions" "SIOOBE_FORMATTER" "Ljava/util/function/BiFunction;" fm) :
    Ctr kn l Z own_EL (⟨"java/lang/StringUTF16", "checkIndex", "(I[B)V"⟩ : MethodName) jdk_52_method_91_code 2 none ws ({ frames := 2, cells := 0, slots := 0, locals := 27 } : Room) n0 ([]) #[(.int (Int32.ofNat i)), (.ref r1)] h0 (Rn (fun h g => h0 = h)) := by
  refine Ctr.of (plainFor_of_name pn_java_lang_StringUTF16) hE (fun m => ef_rm61 m (Int32.ofNat i) r1) ?_
  intro p e s m below meth c T0 X0
  have Z0 : Keep h0 h0 [] := Keep.refl _ _
  refine OwnW.iloadN X0 (n := 1) d61_0 rfl rfl ?_
  refine OwnW.aloadN X0 (n := 2) d61_1 rfl rfl rfl ?_
  refine OwnW.call_static_v X0 (z := (⟨"java/lang/StringUTF16", "length", "([B)I"⟩ : MethodName)) (n := 5) d61_2 (hw _ (List.mem_of_getElem? (i := 317) rfl)) (hw _ (List.mem_of_getElem? (i := 318) rfl)) (hw _ (List.mem_of_getElem? (i := 319) rfl)) (hw _ (List.mem_of_getElem? (i := 268) rfl)) (by decide) (rm57 l Z a0 hw hE [] r1 h0 n0 (own_ub us) us.length (own_ub_len us) (by omega) A0) OwnW.sf0 (argsL := [(.ref r1)]) (rest := [(.int (Int32.ofNat i))]) rfl rfl (OwnW.lenA pd___B_I rfl) (W := 1) (Nat.le_of_eq rfl) (by decide) (by decide) (by decide) (by decide) rfl ?_
  intro T1 h1 w1 g1 hle1 X1 ⟨q1, q2⟩
  subst q1 q2
  refine OwnW.call_static_n X1 (z := (⟨"java/lang/String", "checkIndex", "(II)V"⟩ : MethodName)) (n := 8) d61_5 (hw _ (List.mem_of_getElem? (i := 334) rfl)) (hw _ (List.mem_of_getElem? (i := 252) rfl)) (hw _ (List.mem_of_getElem? (i := 253) rfl)) (hw _ (List.mem_of_getElem? (i := 3) rfl)) (by decide) (rmCI l Z a0 hw hE [] (Int32.ofNat i) (Int32.ofNat us.length) h0 n0 O0 (fun q => by have z := (own_lt (i := i) (n := 0) (by omega) (by omega)).mp q; omega) ((own_lt (i := i) (n := us.length) (by omega) (by omega)).mpr (by omega)) fm hfm S_fm) OwnW.sf0 (argsL := [(.int (Int32.ofNat i)), (.int (Int32.ofNat us.length))]) (rest := []) rfl rfl (OwnW.lenA pd__II_V rfl) (W := 0) (Nat.le_of_eq rfl) (by decide) (by decide) (by decide) (by decide) rfl ?_
  intro T2 h2 g2 hle2 X2 q2
  subst q2
  exact OwnW.vreturn X2 rfl d61_8 rfl (by decide) (by decide)
theorem pd__I_B_V : parseMethodDescriptor "(I[B)V" = some ⟨[.int, (.array .byte)], none⟩ := by decide +kernel
theorem d60_0 : decode jdk_52_method_83_code 0 = .ok (.iload_n 1, 1) := by decide +kernel
theorem d60_1 : decode jdk_52_method_83_code 1 = .ok (.aload_n 0, 1) := by decide +kernel
theorem d60_2 : decode jdk_52_method_83_code 2 = .ok (.invokestatic 67, 3) := by decide +kernel
theorem d60_5 : decode jdk_52_method_83_code 5 = .ok (.aload_n 0, 1) := by decide +kernel
theorem d60_6 : decode jdk_52_method_83_code 6 = .ok (.iload_n 1, 1) := by decide +kernel
theorem d60_7 : decode jdk_52_method_83_code 7 = .ok (.invokestatic 71, 3) := by decide +kernel
theorem d60_10 : decode jdk_52_method_83_code 10 = .ok (.ireturn, 1) := by decide +kernel
theorem ef_rm60 (m : MethodId) (x0 : Addr) (x1 : Int32) : entryFrame m #[(.ref x0), (.int x1)] 2 = mkF m 0 #[.val (.ref x0), .val (.int x1)] [] := by first | (simp [entryFrame, mkF, argsToLocals, Value.category]; done) | rfl
set_option maxRecDepth 65536 in
set_option maxHeartbeats 40000000 in
theorem rm60 {kn : Prop} (l : Launch) (Z : State) (a0 : Array Value) (hw : ∀ d ∈ tables_1, d.before a0 Z = true) (hE : EW Z a0 own_EL) (ws : List Jvm.Cond) (r0 : Addr) (h0 : Heap) (n0 : Nat) (O0 : Old Z n0 h0) (i : Nat) (us : List Nat) (hul : us.length ≤ 80) (hi : i < us.length) (hu : ∀ u ∈ us, u ≤ 65535) (A0 : Ark Z h0 r0 .byte (own_ub us)) (fm : Value) (hfm : fm = .null ∨ ∃ r, fm = .ref r) (S_fm : Sta Z Z.heap "jdk/internal/util/Preconditions" "SIOOBE_FORMATTER" "Ljava/util/function/BiFunction;" fm) (S_ad : Sta Z Z.heap "java/lang/StringUTF16" "$assertionsDisabled" "Z" (.int 1)) (S_hi : Sta Z Z.heap "java/lang/StringUTF16" "HI_BYTE_SHIFT" "I" (.int 0)) (S_lo : Sta Z Z.heap "java/lang/StringUTF16" "LO_BYTE_SHIFT" "I" (.int 8)) :
    Ctr kn l Z own_EL (⟨"java/lang/StringUTF16", "charAt", "([BI)C"⟩ : MethodName) jdk_52_method_83_code 2 (some .char) ws ({ frames := 3, cells := 0, slots := 0, locals := 40 } : Room) n0 ([]) #[(.ref r0), (.int (Int32.ofNat i))] h0 (Rt (fun w h g => w = .int (Int32.ofNat (us.getD i 0)) ∧ h0 = h)) := by
  refine Ctr.of (plainFor_of_name pn_java_lang_StringUTF16) hE (fun m => ef_rm60 m r0 (Int32.ofNat i)) ?_
  intro p e s m below meth c T0 X0
  have Z0 : Keep h0 h0 [] := Keep.refl _ _
  refine OwnW.iloadN X0 (n := 1) d60_0 rfl rfl ?_
  refine OwnW.aloadN X0 (n := 2) d60_1 rfl rfl rfl ?_
  refine OwnW.call_static_n X0 (z := (⟨"java/lang/StringUTF16", "checkIndex", "(I[B)V"⟩ : MethodName)) (n := 5) d60_2 (hw _ (List.mem_of_getElem? (i := 331) rfl)) (hw _ (List.mem_of_getElem? (i := 332) rfl)) (hw _ (List.mem_of_getElem? (i := 333) rfl)) (hw _ (List.mem_of_getElem? (i := 268) rfl)) (by decide) (rm61 l Z a0 hw hE [] r0 h0 n0 O0 i us hul hi A0 fm hfm S_fm) OwnW.sf0 (argsL := [(.int (Int32.ofNat i)), (.ref r0)]) (rest := []) rfl rfl (OwnW.lenA pd__I_B_V rfl) (W := 0) (Nat.le_of_eq rfl) (by decide) (by decide) (by decide) (by decide) rfl ?_
  intro T1 h1 g1 hle1 X1 q2
  subst q2
  refine OwnW.aloadN X1 (n := 6) d60_5 rfl rfl rfl ?_
  refine OwnW.iloadN X1 (n := 7) d60_6 rfl rfl ?_
  refine OwnW.call_static_v X1 (z := (⟨"java/lang/StringUTF16", "getChar", "([BI)C"⟩ : MethodName)) (n := 10) d60_7 (hw _ (List.mem_of_getElem? (i := 298) rfl)) (hw _ (List.mem_of_getElem? (i := 299) rfl)) (hw _ (List.mem_of_getElem? (i := 300) rfl)) (hw _ (List.mem_of_getElem? (i := 268) rfl)) (by decide) (rm52 l Z a0 hw hE [] r0 h0 n0 O0 i (us.getD i 0) (by omega) (hu _ (own_memU us hi)) (own_ub us) (own_ub_get us i hi).1 (own_ub_get us i hi).2 A0 S_ad S_hi S_lo) OwnW.sf0 (argsL := [(.ref r0), (.int (Int32.ofNat i))]) (rest := []) rfl rfl (OwnW.lenA pd___BI_C rfl) (W := 0) (Nat.le_of_eq rfl) (by decide) (by decide) (by decide) (by decide) rfl ?_
  intro T2 h2 w2 g2 hle2 X2 ⟨q1, q2⟩
  subst q1 q2
  exact OwnW.ireturnN X2 rfl (Or.inr (Or.inr (Or.inl rfl))) (own_nar16 (hu _ (own_memU us hi))) d60_10 ⟨rfl, rfl⟩ (by decide) (by decide)
theorem d38_17 : decode jdk_42_method_154_code 17 = .ok (.iconst 0, 1) := by decide +kernel
theorem ef_rmIL1 (m : MethodId) (x0 : Addr) : entryFrame m #[(.ref x0)] 1 = mkF m 0 #[.val (.ref x0)] [] := by first | (simp [entryFrame, mkF, argsToLocals, Value.category]; done) | rfl
set_option maxRecDepth 65536 in
set_option maxHeartbeats 40000000 in
theorem rmIL1 {kn : Prop} (l : Launch) (Z : State) (a0 : Array Value) (hw : ∀ d ∈ tables_1, d.before a0 Z = true) (hE : EW Z a0 own_EL) (ws : List Jvm.Cond) (r0 : Addr) (h0 : Heap) (n0 : Nat) (O0 : Old Z n0 h0) (F0 : Fld Z h0 r0 "java/lang/String" "coder" "B" (.int 1)) (zc : Int32) (hzc : ¬ zc = 0) (S_compact : Sta Z Z.heap "java/lang/String" "COMPACT_STRINGS" "Z" (.int zc)) :
    Ctr kn l Z own_EL (⟨"java/lang/String", "isLatin1", "()Z"⟩ : MethodName) jdk_42_method_154_code 1 (some .boolean) ws ({ frames := 0, cells := 0, slots := 0, locals := 0 } : Room) n0 ([]) #[(.ref r0)] h0 (Rt (fun w h g => w = .int 0 ∧ h0 = h)) := by
  refine Ctr.of (plainFor_of_name pn_java_lang_String) hE (fun m => ef_rmIL1 m r0) ?_
  intro p e s m below meth c T0 X0
  have Z0 : Keep h0 h0 [] := Keep.refl _ _
  refine OwnW.getstatic X0 (n := 3) d38_0 (hw _ (List.mem_of_getElem? (i := 68) rfl)) Via.refl (S_compact.ext O0.2) rfl ?_
  intro T1 X1
  refine OwnW.if_eq X1  (n1 := 17) (n2 := 6) d38_3 (by decide) rfl rfl (fun q => absurd q (hzc : ¬ zc = 0)) (fun _ => ?_)
  refine OwnW.aloadN X1 (n := 7) d38_6 rfl rfl rfl ?_
  refine OwnW.getfield X1 (n := 10) d38_7 (hw _ (List.mem_of_getElem? (i := 21) rfl)) Via.refl F0 rfl ?_
  intro T2 X2
  refine OwnW.if_ne X2  (n1 := 17) (n2 := 13) d38_10 (by decide) rfl rfl (fun _ => ?_) (fun q => absurd q ((by decide) : ¬ (1 : Int32) = 0))
  refine OwnW.iconst X2 (z := (0 : Int32)) (n := 18) d38_17 rfl rfl ?_
  exact OwnW.ireturn X2 rfl (Or.inr (Or.inl rfl)) rfl d38_18 ⟨rfl, rfl⟩ (by decide) (by decide)
theorem d37_16 : decode jdk_42_method_56_code 16 = .ok (.aload_n 0, 1) := by decide +kernel
theorem d37_17 : decode jdk_42_method_56_code 17 = .ok (.getfield 9, 3) := by decide +kernel
theorem d37_20 : decode jdk_42_method_56_code 20 = .ok (.iload_n 1, 1) := by decide +kernel
theorem d37_21 : decode jdk_42_method_56_code 21 = .ok (.invokestatic 498, 3) := by decide +kernel
theorem d37_24 : decode jdk_42_method_56_code 24 = .ok (.ireturn, 1) := by decide +kernel
theorem ef_rmCAu (m : MethodId) (x0 : Addr) (x1 : Int32) : entryFrame m #[(.ref x0), (.int x1)] 2 = mkF m 0 #[.val (.ref x0), .val (.int x1)] [] := by first | (simp [entryFrame, mkF, argsToLocals, Value.category]; done) | rfl
set_option maxRecDepth 65536 in
set_option maxHeartbeats 40000000 in
theorem rmCAu {kn : Prop} (l : Launch) (Z : State) (a0 : Array Value) (hw : ∀ d ∈ tables_1, d.before a0 Z = true) (hE : EW Z a0 own_EL) (ws : List Jvm.Cond) (r0 : Addr) (h0 : Heap) (n0 : Nat) (O0 : Old Z n0 h0) (t : Addr) (us : List Nat) (hul : us.length ≤ 80) (E0 : Exa Z h0 r0 "java/lang/String") (F2 : Fld Z h0 r0 "java/lang/String" "coder" "B" (.int 1)) (F1 : Fld Z h0 r0 "java/lang/String" "value" "[B" (.ref t)) (A0 : Ark Z h0 t .byte (own_ub us)) (i : Nat) (hi : i < us.length) (hu : ∀ u ∈ us, u ≤ 65535) (zc : Int32) (hzc : ¬ zc = 0) (S_compact : Sta Z Z.heap "java/lang/String" "COMPACT_STRINGS" "Z" (.int zc)) (fm : Value) (hfm : fm = .null ∨ ∃ r, fm = .ref r) (S_fm : Sta Z Z.heap "jdk/internal/util/Preconditions" "SIOOBE_FORMATTER" "Ljava/util/function/BiFunction;" fm) (S_ad : Sta Z Z.heap "java/lang/StringUTF16" "$assertionsDisabled" "Z" (.int 1)) (S_hi : Sta Z Z.heap "java/lang/StringUTF16" "HI_BYTE_SHIFT" "I" (.int 0)) (S_lo : Sta Z Z.heap "java/lang/StringUTF16" "LO_BYTE_SHIFT" "I" (.int 8)) :
    Ctr kn l Z own_EL (⟨"java/lang/String", "charAt", "(I)C"⟩ : MethodName) jdk_42_method_56_code 2 (some .char) ws ({ frames := 4, cells := 0, slots := 0, locals := 53 } : Room) n0 ([]) #[(.ref r0), (.int (Int32.ofNat i))] h0 (Rt (fun w h g => w = .int (Int32.ofNat (us.getD i 0)) ∧ h0 = h)) := by
  refine Ctr.of (plainFor_of_name pn_java_lang_String) hE (fun m => ef_rmCAu m r0 (Int32.ofNat i)) ?_
  intro p e s m below meth c T0 X0
  have Z0 : Keep h0 h0 [] := Keep.refl _ _
  refine OwnW.aloadN X0 (n := 1) d37_0 rfl rfl rfl ?_
  refine OwnW.call_virtual_v X0 (z := (⟨"java/lang/String", "isLatin1", "()Z"⟩ : MethodName)) (yv := (⟨"java/lang/String", "isLatin1", "()Z"⟩ : MethodName)) (a := r0) (C := "java/lang/String") (n := 4) d37_1 (hw _ (List.mem_of_getElem? (i := 243) rfl)) (hw _ (List.mem_of_getElem? (i := 244) rfl)) (hw _ (List.mem_of_getElem? (i := 245) rfl)) (hw _ (List.mem_of_getElem? (i := 246) rfl)) (fun hz => notFace_of_selects (args := #[]) (mvT hz (hw _ (List.mem_of_getElem? (i := 246) rfl)))) (hw _ (List.mem_of_getElem? (i := 247) rfl)) (hw _ (List.mem_of_getElem? (i := 3) rfl)) (by decide) E0 (rmIL1 l Z a0 hw hE [] r0 h0 n0 O0 F2 zc hzc S_compact) OwnW.sf0 (argsL := []) (rest := []) rfl rfl (OwnW.lenA pd___Z rfl) (W := 0) (Nat.le_of_eq rfl) (by decide) (by decide) (by decide) (by decide) rfl ?_
  intro T1 h1 w1 g1 hle1 X1 ⟨q1, q2⟩
  subst q1 q2
  refine OwnW.if_eq X1  (n1 := 16) (n2 := 7) d37_4 (by decide) rfl rfl (fun _ => ?_) (fun q => absurd ((by decide) : (0 : Int32) = 0) q)
  refine OwnW.aloadN X1 (n := 17) d37_16 rfl rfl rfl ?_
  refine OwnW.getfield X1 (n := 20) d37_17 (hw _ (List.mem_of_getElem? (i := 20) rfl)) Via.refl F1 rfl ?_
  intro T2 X2
  refine OwnW.iloadN X2 (n := 21) d37_20 rfl rfl ?_
  refine OwnW.call_static_v X2 (z := (⟨"java/lang/StringUTF16", "charAt", "([BI)C"⟩ : MethodName)) (n := 24) d37_21 (hw _ (List.mem_of_getElem? (i := 328) rfl)) (hw _ (List.mem_of_getElem? (i := 329) rfl)) (hw _ (List.mem_of_getElem? (i := 330) rfl)) (hw _ (List.mem_of_getElem? (i := 268) rfl)) (by decide) (rm60 l Z a0 hw hE [] t h0 n0 O0 i us hul hi hu A0 fm hfm S_fm S_ad S_hi S_lo) OwnW.sf0 (argsL := [(.ref t), (.int (Int32.ofNat i))]) (rest := []) rfl rfl (OwnW.lenA pd___BI_C rfl) (W := 0) (Nat.le_of_eq rfl) (by decide) (by decide) (by decide) (by decide) rfl ?_
  intro T3 h3 w3 g3 hle3 X3 ⟨q1, q2⟩
  subst q1 q2
  exact OwnW.ireturnN X3 rfl (Or.inr (Or.inr (Or.inl rfl))) (own_nar16 (hu _ (own_memU us hi))) d37_24 ⟨rfl, rfl⟩ (by decide) (by decide)
theorem rmCA {kn : Prop} (l : Launch) (Z : State) (a0 : Array Value) (hw : ∀ d ∈ tables_1, d.before a0 Z = true) (hE : EW Z a0 own_EL) (ws : List Jvm.Cond) (r0 : Addr) (h0 : Heap) (n0 : Nat) (O0 : Old Z n0 h0) (t : Addr) (us : List Nat) (hul : us.length ≤ 80) (i : Nat) (hi : i < us.length) (hu : ∀ u ∈ us, u ≤ 65535) (S0 : own_U Z h0 r0 t us) (zc : Int32) (hzc : ¬ zc = 0) (S_compact : Sta Z Z.heap "java/lang/String" "COMPACT_STRINGS" "Z" (.int zc)) (fm : Value) (hfm : fm = .null ∨ ∃ r, fm = .ref r) (S_fm : Sta Z Z.heap "jdk/internal/util/Preconditions" "SIOOBE_FORMATTER" "Ljava/util/function/BiFunction;" fm) (S_ad : Sta Z Z.heap "java/lang/StringUTF16" "$assertionsDisabled" "Z" (.int 1)) (S_hi : Sta Z Z.heap "java/lang/StringUTF16" "HI_BYTE_SHIFT" "I" (.int 0)) (S_lo : Sta Z Z.heap "java/lang/StringUTF16" "LO_BYTE_SHIFT" "I" (.int 8)) : Ctr kn l Z own_EL (⟨"java/lang/String", "charAt", "(I)C"⟩ : MethodName) jdk_42_method_56_code 2 (some .char) ws ({ frames := 4, cells := 0, slots := 0, locals := 53 } : Room) n0 [] #[(.ref r0), (.int (Int32.ofNat i))] h0 (Rt (fun w h g => w = .int (Int32.ofNat (us.getD i 0)) ∧ h0 = h)) := by
  rcases S0 with ⟨qa, S⟩ | ⟨qa, E, F2, F1, A⟩
  · have z := rm37 (kn := kn) l Z a0 hw hE ws r0 h0 n0 O0 t (us.map Int32.ofNat) i (by simpa using hi) S zc hzc S_compact fm hfm S_fm
    rw [own_latU us hi qa] at z
    exact z
  · exact rmCAu l Z a0 hw hE ws r0 h0 n0 O0 t us hul E F2 F1 A i hi hu zc hzc S_compact fm hfm S_fm S_ad S_hi S_lo
theorem d50_0 : decode jdk_52_method_3_code 0 = .ok (.iload_n 0, 1) := by decide +kernel
theorem d50_1 : decode jdk_52_method_3_code 1 = .ok (.ifCond .ge 11, 3) := by decide +kernel
theorem d50_12 : decode jdk_52_method_3_code 12 = .ok (.iload_n 0, 1) := by decide +kernel
theorem d50_13 : decode jdk_52_method_3_code 13 = .ok (.ldc 20, 2) := by decide +kernel
theorem d50_15 : decode jdk_52_method_3_code 15 = .ok (.if_icmp .lt 40, 3) := by decide +kernel
theorem d50_55 : decode jdk_52_method_3_code 55 = .ok (.iload_n 0, 1) := by decide +kernel
theorem d50_56 : decode jdk_52_method_3_code 56 = .ok (.iconst 1, 1) := by decide +kernel
theorem d50_57 : decode jdk_52_method_3_code 57 = .ok (.ishl, 1) := by decide +kernel
theorem d50_58 : decode jdk_52_method_3_code 58 = .ok (.ireturn, 1) := by decide +kernel
theorem ef_rm50 (m : MethodId) (x0 : Int32) : entryFrame m #[(.int x0)] 1 = mkF m 0 #[.val (.int x0)] [] := by first | (simp [entryFrame, mkF, argsToLocals, Value.category]; done) | rfl
set_option maxRecDepth 65536 in
set_option maxHeartbeats 40000000 in
theorem rm50 {kn : Prop} (l : Launch) (Z : State) (a0 : Array Value) (hw : ∀ d ∈ tables_1, d.before a0 Z = true) (hE : EW Z a0 own_EL) (ws : List Jvm.Cond)  (h0 : Heap) (n0 : Nat) (nk : Nat) (hnk : nk ≤ 80) :
    Ctr kn l Z own_EL (⟨"java/lang/StringUTF16", "newBytesLength", "(I)I"⟩ : MethodName) jdk_52_method_3_code 1 (some .int) ws ({ frames := 0, cells := 0, slots := 0, locals := 0 } : Room) n0 ([]) #[(.int (Int32.ofNat nk))] h0 (Rt (fun w h g => w = .int (Int32.ofNat (2 * nk)) ∧ h0 = h)) := by
  refine Ctr.of (plainFor_of_name pn_java_lang_StringUTF16) hE (fun m => ef_rm50 m (Int32.ofNat nk)) ?_
  intro p e s m below meth c T0 X0
  refine OwnW.iloadN X0 (n := 1) d50_0 rfl rfl ?_
  refine OwnW.if_ge X0  (n1 := 12) (n2 := 4) d50_1 (by decide) rfl rfl (fun _ => ?_) (fun q => absurd q ((fun q => by have z := (own_lt (i := nk) (n := 0) (by omega) (by omega)).mp q; omega) : ¬ (Int32.ofNat nk) < 0))
  refine OwnW.iloadN X0 (n := 13) d50_12 rfl rfl ?_
  refine OwnW.ldc X0 (n := 15) d50_13 (hw _ (List.mem_of_getElem? (i := 291) rfl)) rfl ?_
  refine OwnW.ic_lt X0  (n1 := 55) (n2 := 18) d50_15 (by decide) rfl rfl (fun _ => ?_) (fun q => absurd (((own_lt (i := nk) (n := 1073741823) (by omega) (by omega)).mpr (by omega)) : (Int32.ofNat nk) < (1073741823 : Int32)) q)
  refine OwnW.iloadN X0 (n := 56) d50_55 rfl rfl ?_
  refine OwnW.iconst X0 (z := (1 : Int32)) (n := 57) d50_56 rfl rfl ?_
  refine OwnW.ishl X0 (n := 58) d50_57 rfl ?_
  rw [own_shl1 (i := nk) (by omega)]
  exact OwnW.ireturn X0 rfl (Or.inl rfl) rfl d50_58 ⟨rfl, rfl⟩ (by decide) (by decide)
theorem d49_0 : decode jdk_52_method_2_code 0 = .ok (.iload_n 0, 1) := by decide +kernel
theorem d49_1 : decode jdk_52_method_2_code 1 = .ok (.invokestatic 11, 3) := by decide +kernel
theorem d49_4 : decode jdk_52_method_2_code 4 = .ok (.newarray .byte, 2) := by decide +kernel
theorem d49_6 : decode jdk_52_method_2_code 6 = .ok (.areturn, 1) := by decide +kernel
theorem ef_rm49 (m : MethodId) (x0 : Int32) : entryFrame m #[(.int x0)] 1 = mkF m 0 #[.val (.int x0)] [] := by first | (simp [entryFrame, mkF, argsToLocals, Value.category]; done) | rfl
set_option maxRecDepth 65536 in
set_option maxHeartbeats 40000000 in
theorem rm49 {kn : Prop} (l : Launch) (Z : State) (a0 : Array Value) (hw : ∀ d ∈ tables_1, d.before a0 Z = true) (hE : EW Z a0 own_EL) (ws : List Jvm.Cond)  (h0 : Heap) (n0 : Nat) (O0 : Old Z n0 h0) (nk : Nat) (hnk : nk ≤ 80) :
    Ctr kn l Z own_EL (⟨"java/lang/StringUTF16", "newBytesFor", "(I)[B"⟩ : MethodName) jdk_52_method_2_code 1 (some (.array .byte)) ws ({ frames := 1, cells := 1, slots := 160, locals := 12 } : Room) n0 ([]) #[(.int (Int32.ofNat nk))] h0 (Rt (fun w h g => ∃ t, w = .ref t ∧ Keep h0 h [] ∧ h0.size ≤ t ∧ Ark Z h t .byte (List.replicate (2 * nk) (Value.int 0)) ∧ t ∈ g)) := by
  refine Ctr.of (plainFor_of_name pn_java_lang_StringUTF16) hE (fun m => ef_rm49 m (Int32.ofNat nk)) ?_
  intro p e s m below meth c T0 X0
  have Z0 : Keep h0 h0 [] := Keep.refl _ _
  refine OwnW.iloadN X0 (n := 1) d49_0 rfl rfl ?_
  refine OwnW.call_static_v X0 (z := (⟨"java/lang/StringUTF16", "newBytesLength", "(I)I"⟩ : MethodName)) (n := 4) d49_1 (hw _ (List.mem_of_getElem? (i := 288) rfl)) (hw _ (List.mem_of_getElem? (i := 289) rfl)) (hw _ (List.mem_of_getElem? (i := 290) rfl)) (hw _ (List.mem_of_getElem? (i := 268) rfl)) (by decide) (rm50 l Z a0 hw hE [] h0 n0 nk hnk) OwnW.sf0 (argsL := [(.int (Int32.ofNat nk))]) (rest := []) rfl rfl (OwnW.lenA pd__I_I rfl) (W := 0) (Nat.le_of_eq rfl) (by decide) (by decide) (by decide) (by decide) rfl ?_
  intro T1 h1 w1 g1 hle1 X1 ⟨q1, q2⟩
  subst q1 q2
  refine OwnW.newarray X1 (len := (2 * nk)) (cap := 160) (n := 6) d49_4 (hw _ (List.mem_of_getElem? (i := 15) rfl)) (own_nat (i := (2 * nk)) (by omega)) (by omega) (by decide) (by decide) (by decide) rfl ?_
  intro T2 h2 b2 gb2 X2 E2 A2
  have ge_b2 : n0 ≤ b2 := by rw [gb2]; exact OwnW.oldLe O0
  have K2 := (OwnW.kExt E2)
  have O2 := O0.keep K2 all0
  have Z2 : Keep h0 h2 [] := Z0.trans K2 (fun x hx => nomatch hx)
  have sz_b2 : h0.size ≤ b2 := by rw [gb2]; exact Z0.1
  replace A2 : Ark Z h2 b2 .byte (List.replicate (2 * nk) (.int 0)) := A2
  exact OwnW.areturn X2 rfl rfl rfl d49_6 ⟨_, rfl, Z2, sz_b2, A2, (List.mem_cons_self ..)⟩ (by decide) (by decide)
theorem pd__I__B : parseMethodDescriptor "(I)[B" = some ⟨[.int], some (.array .byte)⟩ := by decide +kernel
theorem pd___BII_V : parseMethodDescriptor "([BII)V" = some ⟨[(.array .byte), .int, .int], none⟩ := by decide +kernel
theorem d48_0 : decode jdk_52_method_14_code 0 = .ok (.iload_n 2, 1) := by decide +kernel
theorem d48_1 : decode jdk_52_method_14_code 1 = .ok (.invokestatic 107, 3) := by decide +kernel
theorem d48_4 : decode jdk_52_method_14_code 4 = .ok (.astore_n 3, 1) := by decide +kernel
theorem d48_5 : decode jdk_52_method_14_code 5 = .ok (.iconst 0, 1) := by decide +kernel
theorem d48_6 : decode jdk_52_method_14_code 6 = .ok (.istore 4, 2) := by decide +kernel
theorem d48_8 : decode jdk_52_method_14_code 8 = .ok (.iload 4, 2) := by decide +kernel
theorem d48_10 : decode jdk_52_method_14_code 10 = .ok (.iload_n 2, 1) := by decide +kernel
theorem d48_11 : decode jdk_52_method_14_code 11 = .ok (.if_icmp .ge 21, 3) := by decide +kernel
theorem d48_14 : decode jdk_52_method_14_code 14 = .ok (.aload_n 3, 1) := by decide +kernel
theorem d48_15 : decode jdk_52_method_14_code 15 = .ok (.iload 4, 2) := by decide +kernel
theorem d48_17 : decode jdk_52_method_14_code 17 = .ok (.aload_n 0, 1) := by decide +kernel
theorem d48_18 : decode jdk_52_method_14_code 18 = .ok (.iload_n 1, 1) := by decide +kernel
theorem d48_19 : decode jdk_52_method_14_code 19 = .ok (.caload, 1) := by decide +kernel
theorem d48_20 : decode jdk_52_method_14_code 20 = .ok (.invokestatic 111, 3) := by decide +kernel
theorem d48_23 : decode jdk_52_method_14_code 23 = .ok (.iinc 1 1, 3) := by decide +kernel
theorem d48_26 : decode jdk_52_method_14_code 26 = .ok (.iinc 4 1, 3) := by decide +kernel
theorem d48_29 : decode jdk_52_method_14_code 29 = .ok (.goto (-21), 3) := by decide +kernel
theorem d48_32 : decode jdk_52_method_14_code 32 = .ok (.aload_n 3, 1) := by decide +kernel
theorem d48_33 : decode jdk_52_method_14_code 33 = .ok (.areturn, 1) := by decide +kernel
theorem ef_rm48 (m : MethodId) (x0 : Addr) (x2 : Int32) : entryFrame m #[(.ref x0), (.int (0 : Int32)), (.int x2)] 5 = mkF m 0 #[.val (.ref x0), .val (.int (0 : Int32)), .val (.int x2), .unset, .unset] [] := by first | (simp [entryFrame, mkF, argsToLocals, Value.category]; done) | rfl
set_option maxRecDepth 65536 in
set_option maxHeartbeats 40000000 in
theorem rm48 {kn : Prop} (l : Launch) (Z : State) (a0 : Array Value) (hw : ∀ d ∈ tables_1, d.before a0 Z = true) (hE : EW Z a0 own_EL) (ws : List Jvm.Cond) (r0 : Addr) (h0 : Heap) (n0 : Nat) (O0 : Old Z n0 h0) (us : List Nat) (hul : us.length ≤ 80) (hu : ∀ u ∈ us, u ≤ 65535) (A0 : Ark Z h0 r0 .char ((us.map Int32.ofNat).map Value.int)) (S_ad : Sta Z Z.heap "java/lang/StringUTF16" "$assertionsDisabled" "Z" (.int 1)) (S_hi : Sta Z Z.heap "java/lang/StringUTF16" "HI_BYTE_SHIFT" "I" (.int 0)) (S_lo : Sta Z Z.heap "java/lang/StringUTF16" "LO_BYTE_SHIFT" "I" (.int 8)) :
    Ctr kn l Z own_EL (⟨"java/lang/StringUTF16", "toBytes", "([CII)[B"⟩ : MethodName) jdk_52_method_14_code 5 (some (.array .byte)) ws ({ frames := 2, cells := 1, slots := 160, locals := 24 } : Room) n0 ([]) #[(.ref r0), (.int (0 : Int32)), (.int (Int32.ofNat us.length))] h0 (Rt (fun w h g => ∃ t, w = .ref t ∧ Keep h0 h [] ∧ h0.size ≤ t ∧ Ark Z h t .byte (own_ub us))) := by
  refine Ctr.of (plainFor_of_name pn_java_lang_StringUTF16) hE (fun m => ef_rm48 m r0 (Int32.ofNat us.length)) ?_
  intro p e s m below meth c T0 X0
  have Z0 : Keep h0 h0 [] := Keep.refl _ _
  refine OwnW.iloadN X0 (n := 1) d48_0 rfl rfl ?_
  refine OwnW.call_static_v X0 (z := (⟨"java/lang/StringUTF16", "newBytesFor", "(I)[B"⟩ : MethodName)) (n := 4) d48_1 (hw _ (List.mem_of_getElem? (i := 285) rfl)) (hw _ (List.mem_of_getElem? (i := 286) rfl)) (hw _ (List.mem_of_getElem? (i := 287) rfl)) (hw _ (List.mem_of_getElem? (i := 268) rfl)) (by decide) (rm49 l Z a0 hw hE [] h0 n0 O0 us.length hul) OwnW.sf0 (argsL := [(.int (Int32.ofNat us.length))]) (rest := []) rfl rfl (OwnW.lenA pd__I__B rfl) (W := 0) (Nat.le_of_eq rfl) (by decide) (by decide) (by decide) (by decide) rfl ?_
  intro T1 h1 w1 g1 hle1 X1 ⟨t1, q1, k1, z1, a1, m1⟩
  subst q1
  have ne_r0_t1 : r0 ≠ t1 := Nat.ne_of_lt (Nat.lt_of_lt_of_le A0.lt z1)
  have ge_t1 : n0 ≤ t1 := Nat.le_trans (OwnW.oldLe O0) z1
  have K1 := k1
  have O1 := O0.keep K1 all0
  have Z1 : Keep h0 h1 [] := Z0.trans K1 (fun x hx => nomatch hx)
  have sz_t1 : h0.size ≤ t1 := Nat.le_trans Z0.1 z1
  refine OwnW.astoreN X1 (l' := #[.val (.ref r0), .val (.int (0 : Int32)), .val (.int (Int32.ofNat us.length)), .val (.ref t1), .unset]) (n := 5) d48_4 rfl rfl rfl ?_
  refine OwnW.iconst X1 (z := (0 : Int32)) (n := 6) d48_5 rfl rfl ?_
  refine OwnW.istore X1 (l' := #[.val (.ref r0), .val (.int (0 : Int32)), .val (.int (Int32.ofNat us.length)), .val (.ref t1), .val (.int (0 : Int32))]) (n := 8) d48_6 rfl rfl ?_
  have fk2 := (A0.keep K1 nin0)
  refine OwnW.loopT X1 (fun (v : Nat) h' => v ≤ us.length ∧ Keep h0 h' [] ∧ Ark Z h' t1 .byte (own_ub (us.take v) ++ List.replicate (2 * (us.length - v)) (Value.int 0))) (fun v => us.length - v) (fun v => mkF m 8 #[.val (.ref r0), .val (.int (Int32.ofNat v)), .val (.int (Int32.ofNat us.length)), .val (.ref t1), .val (.int (Int32.ofNat v))] []) ?_ _ _ 0 X1 ⟨Nat.zero_le _, Z1, by simpa [own_ub] using a1⟩
  intro TL hL i XL ⟨hi, KL, AL⟩ IH
  dsimp only at hi KL AL IH ⊢
  have OL := O0.keep KL all0
  refine OwnW.iload XL (n := 10) d48_8 rfl rfl ?_
  refine OwnW.iloadN XL (n := 11) d48_10 rfl rfl ?_
  refine OwnW.ic_ge XL  (n1 := 32) (n2 := 14) d48_11 (by decide) rfl rfl (fun hc11 => ?_) (fun hc11 => ?_)
  · have kk3 : ¬ i < us.length := fun q => hc11 ((own_lt (i := i) (n := us.length) (by omega) (by omega)).mpr q)
    refine OwnW.aloadN XL (n := 33) d48_32 rfl rfl rfl ?_
    exact OwnW.areturn XL rfl rfl rfl d48_33 ⟨_, rfl, KL, sz_t1, by have e : i = us.length := (by omega); subst e; simpa using AL⟩ (by decide) (by decide)
  · have kk4 : i < us.length := (own_lt (i := i) (n := us.length) (by omega) (by omega)).mp hc11
    refine OwnW.aloadN XL (n := 15) d48_14 rfl rfl rfl ?_
    refine OwnW.iload XL (n := 17) d48_15 rfl rfl ?_
    refine OwnW.aloadN XL (n := 18) d48_17 rfl rfl rfl ?_
    refine OwnW.iloadN XL (n := 19) d48_18 rfl rfl ?_
    refine OwnW.caload XL (i := i) (v := (.int (Int32.ofNat (us.getD i 0)))) (n := 20) d48_19 (A0.keep KL nin0) (own_nat (i := i) (by omega)) (own_getU us (by omega)) rfl ?_
    refine OwnW.call_static_n XL (z := (⟨"java/lang/StringUTF16", "putChar", "([BII)V"⟩ : MethodName)) (n := 23) d48_20 (hw _ (List.mem_of_getElem? (i := 292) rfl)) (hw _ (List.mem_of_getElem? (i := 293) rfl)) (hw _ (List.mem_of_getElem? (i := 294) rfl)) (hw _ (List.mem_of_getElem? (i := 268) rfl)) (by decide) (rm51 l Z a0 hw hE [] t1 hL n0 OL i (us.getD i 0) (by omega) _ (by simp [own_ub_len]; omega) ge_t1 AL S_ad S_hi S_lo) (OwnW.sfS (List.mem_append_right _ m1) OwnW.sf0) (argsL := [(.ref t1), (.int (Int32.ofNat i)), (.int (Int32.ofNat (us.getD i 0)))]) (rest := []) rfl rfl (OwnW.lenA pd___BII_V rfl) (W := 0) (Nat.le_of_eq rfl) (by decide) (by decide) (by decide) (by decide) rfl ?_
    intro T5 h5 g5 hle5 X5 ⟨k5, a5⟩
    have K5 := k5
    have O5 := OL.keep K5 (allS ge_t1 all0)
    have Z5 : Keep h0 h5 [] := KL.trans K5 (allS (P := fun x => x ∈ [] ∨ h0.size ≤ x) (Or.inr sz_t1) all0)
    rw [own_put us i us.length (by omega) (by omega)] at a5
    refine OwnW.iinc X5 (z := (1 : Int32)) (u := ((Int32.ofNat i) + (1 : Int32))) (l' := #[.val (.ref r0), .val (.int ((Int32.ofNat i) + (1 : Int32))), .val (.int (Int32.ofNat us.length)), .val (.ref t1), .val (.int (Int32.ofNat i))]) (n := 26) d48_23 rfl rfl rfl rfl rfl ?_
    rw [show (((Int32.ofNat i) + (1 : Int32)) : Int32) = (Int32.ofNat (i + 1)) from own_add i 1]
    refine OwnW.iinc X5 (z := (1 : Int32)) (u := ((Int32.ofNat i) + (1 : Int32))) (l' := #[.val (.ref r0), .val (.int (Int32.ofNat (i + 1))), .val (.int (Int32.ofNat us.length)), .val (.ref t1), .val (.int ((Int32.ofNat i) + (1 : Int32)))]) (n := 29) d48_26 rfl rfl rfl rfl rfl ?_
    rw [show (((Int32.ofNat i) + (1 : Int32)) : Int32) = (Int32.ofNat (i + 1)) from own_add i 1]
    refine OwnW.goto X5 (n := 8) d48_29 (by decide) rfl ?_
    exact IH _ _ (i + 1) (by omega) ((X5.less (fun x hx => List.mem_append_left _ hx)).more (Nat.le_of_eq rfl) (Nat.le_of_eq rfl)) ⟨by omega, Z5, a5⟩
theorem d44_0 : decode jdk_52_method_21_code 0 = .ok (.iconst 0, 1) := by decide +kernel
theorem d44_1 : decode jdk_52_method_21_code 1 = .ok (.istore 5, 2) := by decide +kernel
theorem d44_3 : decode jdk_52_method_21_code 3 = .ok (.iload 5, 2) := by decide +kernel
theorem d44_5 : decode jdk_52_method_21_code 5 = .ok (.iload 4, 2) := by decide +kernel
theorem d44_7 : decode jdk_52_method_21_code 7 = .ok (.if_icmp .ge 37, 3) := by decide +kernel
theorem d44_10 : decode jdk_52_method_21_code 10 = .ok (.aload_n 0, 1) := by decide +kernel
theorem d44_11 : decode jdk_52_method_21_code 11 = .ok (.iload_n 1, 1) := by decide +kernel
theorem d44_12 : decode jdk_52_method_21_code 12 = .ok (.caload, 1) := by decide +kernel
theorem d44_13 : decode jdk_52_method_21_code 13 = .ok (.istore 6, 2) := by decide +kernel
theorem d44_15 : decode jdk_52_method_21_code 15 = .ok (.iload 6, 2) := by decide +kernel
theorem d44_17 : decode jdk_52_method_21_code 17 = .ok (.sipush 255, 3) := by decide +kernel
theorem d44_20 : decode jdk_52_method_21_code 20 = .ok (.if_icmp .le 6, 3) := by decide +kernel
theorem d44_23 : decode jdk_52_method_21_code 23 = .ok (.iload 5, 2) := by decide +kernel
theorem d44_25 : decode jdk_52_method_21_code 25 = .ok (.ireturn, 1) := by decide +kernel
theorem d44_26 : decode jdk_52_method_21_code 26 = .ok (.aload_n 2, 1) := by decide +kernel
theorem d44_27 : decode jdk_52_method_21_code 27 = .ok (.iload_n 3, 1) := by decide +kernel
theorem d44_28 : decode jdk_52_method_21_code 28 = .ok (.iload 6, 2) := by decide +kernel
theorem d44_30 : decode jdk_52_method_21_code 30 = .ok (.i2b, 1) := by decide +kernel
theorem d44_31 : decode jdk_52_method_21_code 31 = .ok (.bastore, 1) := by decide +kernel
theorem d44_32 : decode jdk_52_method_21_code 32 = .ok (.iinc 1 1, 3) := by decide +kernel
theorem d44_35 : decode jdk_52_method_21_code 35 = .ok (.iinc 3 1, 3) := by decide +kernel
theorem d44_38 : decode jdk_52_method_21_code 38 = .ok (.iinc 5 1, 3) := by decide +kernel
theorem d44_41 : decode jdk_52_method_21_code 41 = .ok (.goto (-38), 3) := by decide +kernel
theorem d44_44 : decode jdk_52_method_21_code 44 = .ok (.iload 4, 2) := by decide +kernel
theorem d44_46 : decode jdk_52_method_21_code 46 = .ok (.ireturn, 1) := by decide +kernel
theorem ef_rm44 (m : MethodId) (x0 : Addr) (x2 : Addr) (x4 : Int32) : entryFrame m #[(.ref x0), (.int (0 : Int32)), (.ref x2), (.int (0 : Int32)), (.int x4)] 7 = mkF m 0 #[.val (.ref x0), .val (.int (0 : Int32)), .val (.ref x2), .val (.int (0 : Int32)), .val (.int x4), .unset, .unset] [] := by first | (simp [entryFrame, mkF, argsToLocals, Value.category]; done) | rfl
set_option maxRecDepth 65536 in
set_option maxHeartbeats 40000000 in
theorem rm44 {kn : Prop} (l : Launch) (Z : State) (a0 : Array Value) (hw : ∀ d ∈ tables_1, d.before a0 Z = true) (hE : EW Z a0 own_EL) (ws : List Jvm.Cond) (r0 : Addr) (r2 : Addr) (h0 : Heap) (n0 : Nat) (O0 : Old Z n0 h0) (us : List Nat) (hul : us.length ≤ 80) (hu : ∀ u ∈ us, u ≤ 65535) (A0 : Ark Z h0 r0 .char ((us.map Int32.ofNat).map Value.int)) (A2 : Ark Z h0 r2 .byte (List.replicate us.length (Value.int 0))) (ge_r2 : n0 ≤ r2) (ne02 : r0 ≠ r2) :
    Ctr kn l Z own_EL (⟨"java/lang/StringUTF16", "compress", "([CI[BII)I"⟩ : MethodName) jdk_52_method_21_code 7 (some .int) ws ({ frames := 0, cells := 0, slots := 0, locals := 0 } : Room) n0 (r2 :: []) #[(.ref r0), (.int (0 : Int32)), (.ref r2), (.int (0 : Int32)), (.int (Int32.ofNat us.length))] h0 (Rt (fun w h g => Keep h0 h [r2] ∧ ((w = .int (Int32.ofNat us.length) ∧ (∀ u ∈ us, u ≤ 255) ∧ Ark Z h r2 .byte (own_lb us)) ∨ (∃ i, i < us.length ∧ 255 < us.getD i 0 ∧ w = .int (Int32.ofNat i))))) := by
  refine Ctr.of (plainFor_of_name pn_java_lang_StringUTF16) hE (fun m => ef_rm44 m r0 r2 (Int32.ofNat us.length)) ?_
  intro p e s m below meth c T0 X0
  have Z0 : Keep h0 h0 [r2] := Keep.refl _ _
  refine OwnW.iconst X0 (z := (0 : Int32)) (n := 1) d44_0 rfl rfl ?_
  refine OwnW.istore X0 (l' := #[.val (.ref r0), .val (.int (0 : Int32)), .val (.ref r2), .val (.int (0 : Int32)), .val (.int (Int32.ofNat us.length)), .val (.int (0 : Int32)), .unset]) (n := 3) d44_1 rfl rfl ?_
  have hcl : (us.map Int32.ofNat).length = us.length := List.length_map ..
  refine OwnW.loopT X0 (fun (v : Nat × Slot) h' => v.1 ≤ us.length ∧ One v.2 ∧ Keep h0 h' [r2] ∧ Ark Z h' r2 .byte (own_dst (us.map Int32.ofNat) v.1) ∧ ∀ j, j < v.1 → us.getD j 0 ≤ 255) (fun v => us.length - v.1) (fun v => mkF m 3 #[.val (.ref r0), .val (.int (Int32.ofNat v.1)), .val (.ref r2), .val (.int (Int32.ofNat v.1)), .val (.int (Int32.ofNat us.length)), .val (.int (Int32.ofNat v.1)), v.2] []) ?_ _ _ (0, .unset) X0 ⟨Nat.zero_le _, One.u, Keep.refl _ _, by rw [own_dst0, hcl]; exact A2, fun j q => absurd q (Nat.not_lt_zero _)⟩
  intro TL hL ⟨i, sl⟩ XL ⟨hi, hsl, KL, AL, hall⟩ IH
  dsimp only at hi hsl KL AL hall IH ⊢
  refine OwnW.iload XL (n := 5) d44_3 rfl rfl ?_
  refine OwnW.iload XL (n := 7) d44_5 rfl rfl ?_
  refine OwnW.ic_ge XL  (n1 := 44) (n2 := 10) d44_7 (by decide) rfl rfl (fun hc7 => ?_) (fun hc7 => ?_)
  · have kk1 : ¬ i < us.length := fun q => hc7 ((own_lt (i := i) (n := us.length) (by omega) (by omega)).mpr q)
    refine OwnW.iload XL (n := 46) d44_44 rfl rfl ?_
    exact OwnW.ireturn XL rfl (Or.inl rfl) rfl d44_46 ⟨KL, Or.inl ⟨rfl, own_allU us (fun j q => hall j (by omega)), by have e : i = us.length := (by omega); rw [e, ← hcl, own_dstN] at AL; exact AL⟩⟩ (by decide) (by decide)
  · have kk2 : i < us.length := (own_lt (i := i) (n := us.length) (by omega) (by omega)).mp hc7
    refine OwnW.aloadN XL (n := 11) d44_10 rfl rfl rfl ?_
    refine OwnW.iloadN XL (n := 12) d44_11 rfl rfl ?_
    obtain ⟨cc, ecc⟩ : ∃ z, z = us.getD i 0 := ⟨_, rfl⟩
    have hcc : cc ≤ 65535 := ecc ▸ hu _ (own_memU us (by omega))
    have hcg := own_getU us (i := i) (by omega)
    rw [← ecc] at hcg
    refine OwnW.caload XL (i := i) (v := (.int (Int32.ofNat cc))) (n := 13) d44_12 (A0.keep KL (OwnW.nin1 ne02)) (own_nat (i := i) (by omega)) hcg rfl ?_
    refine OwnW.istore XL (l' := #[.val (.ref r0), .val (.int (Int32.ofNat i)), .val (.ref r2), .val (.int (Int32.ofNat i)), .val (.int (Int32.ofNat us.length)), .val (.int (Int32.ofNat i)), .val (.int (Int32.ofNat cc))]) (n := 15) d44_13 (by rw [XS.store1 rfl hsl rfl]; rfl) rfl ?_
    refine OwnW.iload XL (n := 17) d44_15 rfl rfl ?_
    refine OwnW.sipush XL (z := (255 : Int32)) (n := 20) d44_17 rfl rfl ?_
    refine OwnW.ic_le XL  (n1 := 26) (n2 := 23) d44_20 (by decide) rfl rfl (fun hc20 => ?_) (fun hc20 => ?_)
    · have kk3 : ¬ 255 < cc := fun q => hc20 ((own_lt (i := 255) (n := cc) (by omega) (by omega)).mpr q)
      refine OwnW.aloadN XL (n := 27) d44_26 rfl rfl rfl ?_
      refine OwnW.iloadN XL (n := 28) d44_27 rfl rfl ?_
      refine OwnW.iload XL (n := 30) d44_28 rfl rfl ?_
      refine OwnW.i2b XL (n := 31) d44_30 rfl ?_
      refine OwnW.bastore XL (i := i) (z := lo8 (Int32.ofNat cc)) (n := 32) d44_31 AL (own_nat (i := i) (by omega)) (by rw [own_dst_len _ (by omega), hcl]; omega) (own_narB _) ge_r2 (List.mem_cons_self ..) rfl ?_
      intro TW hW XW WW AW
      have ecs : (us.map Int32.ofNat).getD i 0 = Int32.ofNat cc := by rw [ecc]; exact own_getM us (by omega)
      rw [← ecs, own_dst_set _ (by omega)] at AW
      refine OwnW.iinc XW (z := (1 : Int32)) (u := ((Int32.ofNat i) + (1 : Int32))) (l' := #[.val (.ref r0), .val (.int ((Int32.ofNat i) + (1 : Int32))), .val (.ref r2), .val (.int (Int32.ofNat i)), .val (.int (Int32.ofNat us.length)), .val (.int (Int32.ofNat i)), .val (.int (Int32.ofNat cc))]) (n := 35) d44_32 rfl rfl rfl rfl rfl ?_
      rw [show (((Int32.ofNat i) + (1 : Int32)) : Int32) = (Int32.ofNat (i + 1)) from own_add i 1]
      refine OwnW.iinc XW (z := (1 : Int32)) (u := ((Int32.ofNat i) + (1 : Int32))) (l' := #[.val (.ref r0), .val (.int (Int32.ofNat (i + 1))), .val (.ref r2), .val (.int ((Int32.ofNat i) + (1 : Int32))), .val (.int (Int32.ofNat us.length)), .val (.int (Int32.ofNat i)), .val (.int (Int32.ofNat cc))]) (n := 38) d44_35 rfl rfl rfl rfl rfl ?_
      rw [show (((Int32.ofNat i) + (1 : Int32)) : Int32) = (Int32.ofNat (i + 1)) from own_add i 1]
      refine OwnW.iinc XW (z := (1 : Int32)) (u := ((Int32.ofNat i) + (1 : Int32))) (l' := #[.val (.ref r0), .val (.int (Int32.ofNat (i + 1))), .val (.ref r2), .val (.int (Int32.ofNat (i + 1))), .val (.int (Int32.ofNat us.length)), .val (.int ((Int32.ofNat i) + (1 : Int32))), .val (.int (Int32.ofNat cc))]) (n := 41) d44_38 rfl rfl rfl rfl rfl ?_
      rw [show (((Int32.ofNat i) + (1 : Int32)) : Int32) = (Int32.ofNat (i + 1)) from own_add i 1]
      refine OwnW.goto XW (n := 3) d44_41 (by decide) rfl ?_
      exact IH _ _ (i + 1, .val (.int (Int32.ofNat cc))) (by dsimp only; omega) XW ⟨by dsimp only; omega, One.val rfl, KL.wr WW (Or.inl (List.mem_cons_self ..)), AW, fun j q => (Nat.lt_succ_iff_lt_or_eq.mp q).elim (hall j) (fun z => by rw [z, ← ecc]; omega)⟩
    · have kk4 : 255 < cc := (own_lt (i := 255) (n := cc) (by omega) (by omega)).mp hc20
      refine OwnW.iload XL (n := 25) d44_23 rfl rfl ?_
      exact OwnW.ireturn XL rfl (Or.inl rfl) rfl d44_25 ⟨KL, Or.inr ⟨i, by omega, by rw [← ecc]; omega, rfl⟩⟩ (by decide) (by decide)
theorem pd___CI_BII_I : parseMethodDescriptor "([CI[BII)I" = some ⟨[(.array .char), .int, (.array .byte), .int, .int], some .int⟩ := by decide +kernel
theorem pd___CII__B : parseMethodDescriptor "([CII)[B" = some ⟨[(.array .char), .int, .int], some (.array .byte)⟩ := by decide +kernel
theorem d43_0 : decode jdk_52_method_16_code 0 = .ok (.iload_n 2, 1) := by decide +kernel
theorem d43_1 : decode jdk_52_method_16_code 1 = .ok (.newarray .byte, 2) := by decide +kernel
theorem d43_3 : decode jdk_52_method_16_code 3 = .ok (.astore_n 3, 1) := by decide +kernel
theorem d43_4 : decode jdk_52_method_16_code 4 = .ok (.aload_n 0, 1) := by decide +kernel
theorem d43_5 : decode jdk_52_method_16_code 5 = .ok (.iload_n 1, 1) := by decide +kernel
theorem d43_6 : decode jdk_52_method_16_code 6 = .ok (.aload_n 3, 1) := by decide +kernel
theorem d43_7 : decode jdk_52_method_16_code 7 = .ok (.iconst 0, 1) := by decide +kernel
theorem d43_8 : decode jdk_52_method_16_code 8 = .ok (.iload_n 2, 1) := by decide +kernel
theorem d43_9 : decode jdk_52_method_16_code 9 = .ok (.invokestatic 115, 3) := by decide +kernel
theorem d43_12 : decode jdk_52_method_16_code 12 = .ok (.istore 4, 2) := by decide +kernel
theorem d43_14 : decode jdk_52_method_16_code 14 = .ok (.iload 4, 2) := by decide +kernel
theorem d43_16 : decode jdk_52_method_16_code 16 = .ok (.iload_n 2, 1) := by decide +kernel
theorem d43_17 : decode jdk_52_method_16_code 17 = .ok (.if_icmp .eq 40, 3) := by decide +kernel
theorem d43_20 : decode jdk_52_method_16_code 20 = .ok (.aload_n 0, 1) := by decide +kernel
theorem d43_21 : decode jdk_52_method_16_code 21 = .ok (.iload_n 1, 1) := by decide +kernel
theorem d43_22 : decode jdk_52_method_16_code 22 = .ok (.iload_n 2, 1) := by decide +kernel
theorem d43_23 : decode jdk_52_method_16_code 23 = .ok (.invokestatic 119, 3) := by decide +kernel
theorem d43_26 : decode jdk_52_method_16_code 26 = .ok (.astore 5, 2) := by decide +kernel
theorem d43_28 : decode jdk_52_method_16_code 28 = .ok (.aload 5, 2) := by decide +kernel
theorem d43_30 : decode jdk_52_method_16_code 30 = .ok (.iload 4, 2) := by decide +kernel
theorem d43_32 : decode jdk_52_method_16_code 32 = .ok (.invokestatic 71, 3) := by decide +kernel
theorem d43_35 : decode jdk_52_method_16_code 35 = .ok (.sipush 255, 3) := by decide +kernel
theorem d43_38 : decode jdk_52_method_16_code 38 = .ok (.if_icmp .gt 16, 3) := by decide +kernel
theorem d43_54 : decode jdk_52_method_16_code 54 = .ok (.aload 5, 2) := by decide +kernel
theorem d43_56 : decode jdk_52_method_16_code 56 = .ok (.areturn, 1) := by decide +kernel
theorem d43_57 : decode jdk_52_method_16_code 57 = .ok (.aload_n 3, 1) := by decide +kernel
theorem d43_58 : decode jdk_52_method_16_code 58 = .ok (.areturn, 1) := by decide +kernel
theorem ef_rm43 (m : MethodId) (x0 : Addr) (x2 : Int32) : entryFrame m #[(.ref x0), (.int (0 : Int32)), (.int x2)] 6 = mkF m 0 #[.val (.ref x0), .val (.int (0 : Int32)), .val (.int x2), .unset, .unset, .unset] [] := by first | (simp [entryFrame, mkF, argsToLocals, Value.category]; done) | rfl
set_option maxRecDepth 65536 in
set_option maxHeartbeats 40000000 in
theorem rm43 {kn : Prop} (l : Launch) (Z : State) (a0 : Array Value) (hw : ∀ d ∈ tables_1, d.before a0 Z = true) (hE : EW Z a0 own_EL) (ws : List Jvm.Cond) (r0 : Addr) (h0 : Heap) (n0 : Nat) (O0 : Old Z n0 h0) (us : List Nat) (hu3 : us.length ≤ 3) (hu : ∀ u ∈ us, u ≤ 65535) (A0 : Ark Z h0 r0 .char ((us.map Int32.ofNat).map Value.int)) (S_ad : Sta Z Z.heap "java/lang/StringUTF16" "$assertionsDisabled" "Z" (.int 1)) (S_hi : Sta Z Z.heap "java/lang/StringUTF16" "HI_BYTE_SHIFT" "I" (.int 0)) (S_lo : Sta Z Z.heap "java/lang/StringUTF16" "LO_BYTE_SHIFT" "I" (.int 8)) :
    Ctr kn l Z own_EL (⟨"java/lang/StringUTF16", "compress", "([CII)[B"⟩ : MethodName) jdk_52_method_16_code 6 (some (.array .byte)) ws ({ frames := 3, cells := 2, slots := 163, locals := 40 } : Room) n0 ([]) #[(.ref r0), (.int (0 : Int32)), (.int (Int32.ofNat us.length))] h0 (Rt (fun w h g => ∃ t, w = .ref t ∧ Keep h0 h [] ∧ h0.size ≤ t ∧ (((∀ u ∈ us, u ≤ 255) ∧ Ark Z h t .byte (own_lb us)) ∨ (¬ (∀ u ∈ us, u ≤ 255) ∧ Ark Z h t .byte (own_ub us))))) := by
  refine Ctr.of (plainFor_of_name pn_java_lang_StringUTF16) hE (fun m => ef_rm43 m r0 (Int32.ofNat us.length)) ?_
  intro p e s m below meth c T0 X0
  have Z0 : Keep h0 h0 [] := Keep.refl _ _
  refine OwnW.iloadN X0 (n := 1) d43_0 rfl rfl ?_
  refine OwnW.newarray X0 (len := us.length) (cap := 3) (n := 3) d43_1 (hw _ (List.mem_of_getElem? (i := 15) rfl)) (own_nat (i := us.length) (by omega)) (by omega) (by decide) (by decide) (by decide) rfl ?_
  intro T1 h1 b1 gb1 X1 E1 A1
  have ne_r0_b1 : r0 ≠ b1 := by rw [gb1]; exact Nat.ne_of_lt A0.lt
  have ge_b1 : n0 ≤ b1 := by rw [gb1]; exact OwnW.oldLe O0
  have K1 := (OwnW.kExt E1)
  have O1 := O0.keep K1 all0
  have Z1 : Keep h0 h1 [] := Z0.trans K1 (fun x hx => nomatch hx)
  have sz_b1 : h0.size ≤ b1 := by rw [gb1]; exact Z0.1
  replace A1 : Ark Z h1 b1 .byte (List.replicate (us.length) (.int 0)) := A1
  refine OwnW.astoreN X1 (l' := #[.val (.ref r0), .val (.int (0 : Int32)), .val (.int (Int32.ofNat us.length)), .val (.ref b1), .unset, .unset]) (n := 4) d43_3 rfl rfl rfl ?_
  refine OwnW.aloadN X1 (n := 5) d43_4 rfl rfl rfl ?_
  refine OwnW.iloadN X1 (n := 6) d43_5 rfl rfl ?_
  refine OwnW.aloadN X1 (n := 7) d43_6 rfl rfl rfl ?_
  refine OwnW.iconst X1 (z := (0 : Int32)) (n := 8) d43_7 rfl rfl ?_
  refine OwnW.iloadN X1 (n := 9) d43_8 rfl rfl ?_
  have fk2 := (A0.keep K1 nin0)
  refine OwnW.call_static_v X1 (z := (⟨"java/lang/StringUTF16", "compress", "([CI[BII)I"⟩ : MethodName)) (n := 12) d43_9 (hw _ (List.mem_of_getElem? (i := 270) rfl)) (hw _ (List.mem_of_getElem? (i := 271) rfl)) (hw _ (List.mem_of_getElem? (i := 272) rfl)) (hw _ (List.mem_of_getElem? (i := 268) rfl)) (by decide) (rm44 l Z a0 hw hE [] r0 b1 h1 n0 O1 us (by omega) hu fk2 A1 ge_b1 ne_r0_b1) (OwnW.sfS (List.mem_cons_self ..) OwnW.sf0) (argsL := [(.ref r0), (.int (0 : Int32)), (.ref b1), (.int (0 : Int32)), (.int (Int32.ofNat us.length))]) (rest := []) rfl rfl (OwnW.lenA pd___CI_BII_I rfl) (W := 0) (Nat.le_of_eq rfl) (by decide) (by decide) (by decide) (by decide) rfl ?_
  intro T3 h3 w3 g3 hle3 X3 ⟨k3, hq⟩
  have K3 := k3
  have O3 := O1.keep K3 (allS ge_b1 all0)
  have Z3 : Keep h0 h3 [] := Z1.trans K3 (allS (P := fun x => x ∈ [] ∨ h0.size ≤ x) (Or.inr sz_b1) all0)
  rcases hq with ⟨q1, hall, aA⟩ | ⟨cI, hcI, hbig, q1⟩
  · subst q1
    refine OwnW.istore X3 (l' := #[.val (.ref r0), .val (.int (0 : Int32)), .val (.int (Int32.ofNat us.length)), .val (.ref b1), .val (.int (Int32.ofNat us.length)), .unset]) (n := 14) d43_12 rfl rfl ?_
    refine OwnW.iload X3 (n := 16) d43_14 rfl rfl ?_
    refine OwnW.iloadN X3 (n := 17) d43_16 rfl rfl ?_
    refine OwnW.ic_eq X3  (n1 := 57) (n2 := 20) d43_17 (by decide) rfl rfl (fun _ => ?_) (fun q => absurd (rfl : (Int32.ofNat us.length) = (Int32.ofNat us.length)) q)
    refine OwnW.aloadN X3 (n := 58) d43_57 rfl rfl rfl ?_
    exact OwnW.areturn X3 rfl rfl rfl d43_58 ⟨_, rfl, Z3, sz_b1, Or.inl ⟨hall, aA⟩⟩ (by decide) (by decide)
  · subst q1
    have hcb : us.getD cI 0 ≤ 65535 := hu _ (own_memU us hcI)
    refine OwnW.istore X3 (l' := #[.val (.ref r0), .val (.int (0 : Int32)), .val (.int (Int32.ofNat us.length)), .val (.ref b1), .val (.int (Int32.ofNat cI)), .unset]) (n := 14) d43_12 rfl rfl ?_
    refine OwnW.iload X3 (n := 16) d43_14 rfl rfl ?_
    refine OwnW.iloadN X3 (n := 17) d43_16 rfl rfl ?_
    refine OwnW.ic_eq X3  (n1 := 57) (n2 := 20) d43_17 (by decide) rfl rfl (fun q => absurd q ((fun q => by have z := (own_eqn (i := cI) (n := us.length) (by omega) (by omega)).mp q; omega) : ¬ (Int32.ofNat cI) = (Int32.ofNat us.length))) (fun _ => ?_)
    refine OwnW.aloadN X3 (n := 21) d43_20 rfl rfl rfl ?_
    refine OwnW.iloadN X3 (n := 22) d43_21 rfl rfl ?_
    refine OwnW.iloadN X3 (n := 23) d43_22 rfl rfl ?_
    have fk4 := (fk2.keep K3 (ninS ne_r0_b1 nin0))
    refine OwnW.call_static_v X3 (z := (⟨"java/lang/StringUTF16", "toBytes", "([CII)[B"⟩ : MethodName)) (n := 26) d43_23 (hw _ (List.mem_of_getElem? (i := 282) rfl)) (hw _ (List.mem_of_getElem? (i := 283) rfl)) (hw _ (List.mem_of_getElem? (i := 284) rfl)) (hw _ (List.mem_of_getElem? (i := 268) rfl)) (by decide) (rm48 l Z a0 hw hE [] r0 h3 n0 O3 us (by omega) hu fk4 S_ad S_hi S_lo) OwnW.sf0 (argsL := [(.ref r0), (.int (0 : Int32)), (.int (Int32.ofNat us.length))]) (rest := []) rfl rfl (OwnW.lenA pd___CII__B rfl) (W := 0) (Nat.le_of_eq rfl) (by decide) (by decide) (by decide) (by decide) rfl ?_
    intro T5 h5 w5 g5 hle5 X5 ⟨t5, q1, k5, z5, a5⟩
    subst q1
    have K5 := k5
    have O5 := O3.keep K5 all0
    have Z5 : Keep h0 h5 [] := Z3.trans K5 (fun x hx => nomatch hx)
    have sz_t5 : h0.size ≤ t5 := Nat.le_trans Z3.1 z5
    refine OwnW.astore X5 (l' := #[.val (.ref r0), .val (.int (0 : Int32)), .val (.int (Int32.ofNat us.length)), .val (.ref b1), .val (.int (Int32.ofNat cI)), .val (.ref t5)]) (n := 28) d43_26 rfl rfl rfl ?_
    refine OwnW.aload X5 (n := 30) d43_28 rfl rfl rfl ?_
    refine OwnW.iload X5 (n := 32) d43_30 rfl rfl ?_
    refine OwnW.call_static_v X5 (z := (⟨"java/lang/StringUTF16", "getChar", "([BI)C"⟩ : MethodName)) (n := 35) d43_32 (hw _ (List.mem_of_getElem? (i := 298) rfl)) (hw _ (List.mem_of_getElem? (i := 299) rfl)) (hw _ (List.mem_of_getElem? (i := 300) rfl)) (hw _ (List.mem_of_getElem? (i := 268) rfl)) (by decide) (rm52 l Z a0 hw hE [] t5 h5 n0 O5 cI (us.getD cI 0) (by omega) hcb (own_ub us) (own_ub_get us cI hcI).1 (own_ub_get us cI hcI).2 a5 S_ad S_hi S_lo) OwnW.sf0 (argsL := [(.ref t5), (.int (Int32.ofNat cI))]) (rest := []) rfl rfl (OwnW.lenA pd___BI_C rfl) (W := 0) (Nat.le_of_eq rfl) (by decide) (by decide) (by decide) (by decide) rfl ?_
    intro T6 h6 w6 g6 hle6 X6 ⟨q1, q2⟩
    subst q1 q2
    refine OwnW.sipush X6 (z := (255 : Int32)) (n := 38) d43_35 rfl rfl ?_
    refine OwnW.ic_gt X6  (n1 := 54) (n2 := 41) d43_38 (by decide) rfl rfl (fun _ => ?_) (fun q => absurd (((own_lt (i := 255) (n := (us.getD cI 0)) (by omega) (by omega)).mpr (by omega)) : (255 : Int32) < (Int32.ofNat (us.getD cI 0))) q)
    refine OwnW.aload X6 (n := 56) d43_54 rfl rfl rfl ?_
    exact OwnW.areturn X6 rfl rfl rfl d43_56 ⟨_, rfl, Z5, sz_t5, Or.inr ⟨fun q => absurd (q _ (own_memU us hcI)) (by omega), a5⟩⟩ (by decide) (by decide)
theorem d45_0 : decode jdk_52_method_15_code 0 = .ok (.iload_n 1, 1) := by decide +kernel
theorem d45_1 : decode jdk_52_method_15_code 1 = .ok (.aload_n 0, 1) := by decide +kernel
theorem d45_2 : decode jdk_52_method_15_code 2 = .ok (.arraylength, 1) := by decide +kernel
theorem d45_3 : decode jdk_52_method_15_code 3 = .ok (.isub, 1) := by decide +kernel
theorem d45_4 : decode jdk_52_method_15_code 4 = .ok (.bipush 31, 2) := by decide +kernel
theorem d45_6 : decode jdk_52_method_15_code 6 = .ok (.iushr, 1) := by decide +kernel
theorem d45_7 : decode jdk_52_method_15_code 7 = .ok (.i2b, 1) := by decide +kernel
theorem d45_8 : decode jdk_52_method_15_code 8 = .ok (.ireturn, 1) := by decide +kernel
theorem ef_rmCL0 (m : MethodId) (x0 : Addr) (x1 : Int32) : entryFrame m #[(.ref x0), (.int x1)] 2 = mkF m 0 #[.val (.ref x0), .val (.int x1)] [] := by first | (simp [entryFrame, mkF, argsToLocals, Value.category]; done) | rfl
set_option maxRecDepth 65536 in
set_option maxHeartbeats 40000000 in
theorem rmCL0 {kn : Prop} (l : Launch) (Z : State) (a0 : Array Value) (hw : ∀ d ∈ tables_1, d.before a0 Z = true) (hE : EW Z a0 own_EL) (ws : List Jvm.Cond) (r0 : Addr) (h0 : Heap) (n0 : Nat) (us : List Nat) (hu3 : us.length ≤ 3) (hpos : 0 < us.length) (A0 : Ark Z h0 r0 .byte (own_lb us)) :
    Ctr kn l Z own_EL (⟨"java/lang/StringUTF16", "coderFromArrayLen", "([BI)B"⟩ : MethodName) jdk_52_method_15_code 2 (some .byte) ws ({ frames := 0, cells := 0, slots := 0, locals := 0 } : Room) n0 ([]) #[(.ref r0), (.int (Int32.ofNat us.length))] h0 (Rt (fun w h g => w = .int 0 ∧ h0 = h)) := by
  refine Ctr.of (plainFor_of_name pn_java_lang_StringUTF16) hE (fun m => ef_rmCL0 m r0 (Int32.ofNat us.length)) ?_
  intro p e s m below meth c T0 X0
  refine OwnW.iloadN X0 (n := 1) d45_0 rfl rfl ?_
  refine OwnW.aloadN X0 (n := 2) d45_1 rfl rfl rfl ?_
  refine OwnW.arraylength X0 (z := Int32.ofNat us.length) (n := 3) d45_2 A0 (congrArg Int32.ofNat (own_lb_len us)) rfl ?_
  refine OwnW.isub X0 (n := 4) d45_3 rfl ?_
  refine OwnW.bipush X0 (z := (31 : Int32)) (n := 6) d45_4 rfl rfl ?_
  refine OwnW.iushr X0 (n := 7) d45_6 rfl ?_
  refine OwnW.i2b X0 (n := 8) d45_7 rfl ?_
  rw [own_c0]
  exact OwnW.ireturn X0 rfl (Or.inr (Or.inr (Or.inl rfl))) rfl d45_8 ⟨rfl, rfl⟩ (by decide) (by decide)
theorem ef_rmCL1 (m : MethodId) (x0 : Addr) (x1 : Int32) : entryFrame m #[(.ref x0), (.int x1)] 2 = mkF m 0 #[.val (.ref x0), .val (.int x1)] [] := by first | (simp [entryFrame, mkF, argsToLocals, Value.category]; done) | rfl
set_option maxRecDepth 65536 in
set_option maxHeartbeats 40000000 in
theorem rmCL1 {kn : Prop} (l : Launch) (Z : State) (a0 : Array Value) (hw : ∀ d ∈ tables_1, d.before a0 Z = true) (hE : EW Z a0 own_EL) (ws : List Jvm.Cond) (r0 : Addr) (h0 : Heap) (n0 : Nat) (us : List Nat) (hu3 : us.length ≤ 3) (hpos : 0 < us.length) (A0 : Ark Z h0 r0 .byte (own_ub us)) :
    Ctr kn l Z own_EL (⟨"java/lang/StringUTF16", "coderFromArrayLen", "([BI)B"⟩ : MethodName) jdk_52_method_15_code 2 (some .byte) ws ({ frames := 0, cells := 0, slots := 0, locals := 0 } : Room) n0 ([]) #[(.ref r0), (.int (Int32.ofNat us.length))] h0 (Rt (fun w h g => w = .int 1 ∧ h0 = h)) := by
  refine Ctr.of (plainFor_of_name pn_java_lang_StringUTF16) hE (fun m => ef_rmCL1 m r0 (Int32.ofNat us.length)) ?_
  intro p e s m below meth c T0 X0
  refine OwnW.iloadN X0 (n := 1) d45_0 rfl rfl ?_
  refine OwnW.aloadN X0 (n := 2) d45_1 rfl rfl rfl ?_
  refine OwnW.arraylength X0 (z := Int32.ofNat (2 * us.length)) (n := 3) d45_2 A0 (congrArg Int32.ofNat (own_ub_len us)) rfl ?_
  refine OwnW.isub X0 (n := 4) d45_3 rfl ?_
  refine OwnW.bipush X0 (z := (31 : Int32)) (n := 6) d45_4 rfl rfl ?_
  refine OwnW.iushr X0 (n := 7) d45_6 rfl ?_
  refine OwnW.i2b X0 (n := 8) d45_7 rfl ?_
  rw [own_c1 hpos hu3]
  exact OwnW.ireturn X0 rfl (Or.inr (Or.inr (Or.inl rfl))) rfl d45_8 ⟨rfl, rfl⟩ (by decide) (by decide)
theorem pd___BI_B : parseMethodDescriptor "([BI)B" = some ⟨[(.array .byte), .int], some .byte⟩ := by decide +kernel
theorem d2_0 : decode jdk_42_method_149_code 0 = .ok (.aload_n 0, 1) := by decide +kernel
theorem d2_1 : decode jdk_42_method_149_code 1 = .ok (.invokespecial 1, 3) := by decide +kernel
theorem d2_4 : decode jdk_42_method_149_code 4 = .ok (.iload_n 3, 1) := by decide +kernel
theorem d2_5 : decode jdk_42_method_149_code 5 = .ok (.ifCond .ne 22, 3) := by decide +kernel
theorem d2_27 : decode jdk_42_method_149_code 27 = .ok (.getstatic 38, 3) := by decide +kernel
theorem d2_30 : decode jdk_42_method_149_code 30 = .ok (.ifCond .eq 28, 3) := by decide +kernel
theorem d2_33 : decode jdk_42_method_149_code 33 = .ok (.aload_n 1, 1) := by decide +kernel
theorem d2_34 : decode jdk_42_method_149_code 34 = .ok (.iload_n 2, 1) := by decide +kernel
theorem d2_35 : decode jdk_42_method_149_code 35 = .ok (.iload_n 3, 1) := by decide +kernel
theorem d2_36 : decode jdk_42_method_149_code 36 = .ok (.invokestatic 177, 3) := by decide +kernel
theorem d2_39 : decode jdk_42_method_149_code 39 = .ok (.astore 5, 2) := by decide +kernel
theorem d2_41 : decode jdk_42_method_149_code 41 = .ok (.aload_n 0, 1) := by decide +kernel
theorem d2_42 : decode jdk_42_method_149_code 42 = .ok (.aload 5, 2) := by decide +kernel
theorem d2_44 : decode jdk_42_method_149_code 44 = .ok (.iload_n 3, 1) := by decide +kernel
theorem d2_45 : decode jdk_42_method_149_code 45 = .ok (.invokestatic 47, 3) := by decide +kernel
theorem d2_48 : decode jdk_42_method_149_code 48 = .ok (.putfield 15, 3) := by decide +kernel
theorem d2_51 : decode jdk_42_method_149_code 51 = .ok (.aload_n 0, 1) := by decide +kernel
theorem d2_52 : decode jdk_42_method_149_code 52 = .ok (.aload 5, 2) := by decide +kernel
theorem d2_54 : decode jdk_42_method_149_code 54 = .ok (.putfield 9, 3) := by decide +kernel
theorem d2_57 : decode jdk_42_method_149_code 57 = .ok (.return_, 1) := by decide +kernel
theorem ef_rm2 (m : MethodId) (x0 : Addr) (x1 : Addr) (x3 : Int32) : entryFrame m #[(.ref x0), (.ref x1), (.int (0 : Int32)), (.int x3), .null] 6 = mkF m 0 #[.val (.ref x0), .val (.ref x1), .val (.int (0 : Int32)), .val (.int x3), .val .null, .unset] [] := by first | (simp [entryFrame, mkF, argsToLocals, Value.category]; done) | rfl
set_option maxRecDepth 65536 in
set_option maxHeartbeats 40000000 in
theorem rm2 {kn : Prop} (l : Launch) (Z : State) (a0 : Array Value) (hw : ∀ d ∈ tables_1, d.before a0 Z = true) (hE : EW Z a0 own_EL) (ws : List Jvm.Cond) (r0 : Addr) (r1 : Addr) (h0 : Heap) (n0 : Nat) (O0 : Old Z n0 h0) (ge_r0 : n0 ≤ r0) (E0 : Exa Z h0 r0 "java/lang/String") (v1 v2 : Value) (F1 : Fld Z h0 r0 "java/lang/String" "value" "[B" v1) (F2 : Fld Z h0 r0 "java/lang/String" "coder" "B" v2) (us : List Nat) (hu3 : us.length ≤ 3) (hpos : 0 < us.length) (hu : ∀ u ∈ us, u ≤ 65535) (A1 : Ark Z h0 r1 .char ((us.map Int32.ofNat).map Value.int)) (ne01 : r0 ≠ r1) (zc : Int32) (hzc : ¬ zc = 0) (S_compact : Sta Z Z.heap "java/lang/String" "COMPACT_STRINGS" "Z" (.int zc)) (S_ad : Sta Z Z.heap "java/lang/StringUTF16" "$assertionsDisabled" "Z" (.int 1)) (S_hi : Sta Z Z.heap "java/lang/StringUTF16" "HI_BYTE_SHIFT" "I" (.int 0)) (S_lo : Sta Z Z.heap "java/lang/StringUTF16" "LO_BYTE_SHIFT" "I" (.int 8)) :
    Ctr kn l Z own_EL (⟨"java/lang/String", "<init>", "([CIILjava/lang/Void;)V"⟩ : MethodName) jdk_42_method_149_code 6 none ws ({ frames := 4, cells := 2, slots := 163, locals := 57 } : Room) n0 (r0 :: []) #[(.ref r0), (.ref r1), (.int (0 : Int32)), (.int (Int32.ofNat us.length)), .null] h0 (Rn (fun h g => Keep h0 h [r0] ∧ ∃ t, h0.size ≤ t ∧ own_U Z h r0 t us)) := by
  refine Ctr.of (plainFor_of_name pn_java_lang_String) hE (fun m => ef_rm2 m r0 r1 (Int32.ofNat us.length)) ?_
  intro p e s m below meth c T0 X0
  have Z0 : Keep h0 h0 [r0] := Keep.refl _ _
  refine OwnW.aloadN X0 (n := 1) d2_0 rfl rfl rfl ?_
  refine OwnW.initObj X0 (W := 0) (n := 4) d2_1 (hw _ (List.mem_of_getElem? (i := 11) rfl)) (hw _ (List.mem_of_getElem? (i := 12) rfl)) (hw _ (List.mem_of_getElem? (i := 13) rfl)) rfl (by decide) (by decide) (by decide) rfl ?_
  intro T1 X1
  refine OwnW.iloadN X1 (n := 5) d2_4 rfl rfl ?_
  refine OwnW.if_ne X1  (n1 := 27) (n2 := 8) d2_5 (by decide) rfl rfl (fun _ => ?_) (fun q => absurd q ((fun q => by have z := (own_eqn (i := us.length) (n := 0) (by omega) (by omega)).mp q; omega) : ¬ (Int32.ofNat us.length) = 0))
  refine OwnW.getstatic X1 (n := 30) d2_27 (hw _ (List.mem_of_getElem? (i := 68) rfl)) Via.refl (S_compact.ext O0.2) rfl ?_
  intro T2 X2
  refine OwnW.if_eq X2  (n1 := 58) (n2 := 33) d2_30 (by decide) rfl rfl (fun q => absurd q (hzc : ¬ zc = 0)) (fun _ => ?_)
  refine OwnW.aloadN X2 (n := 34) d2_33 rfl rfl rfl ?_
  refine OwnW.iloadN X2 (n := 35) d2_34 rfl rfl ?_
  refine OwnW.iloadN X2 (n := 36) d2_35 rfl rfl ?_
  refine OwnW.call_static_v X2 (z := (⟨"java/lang/StringUTF16", "compress", "([CII)[B"⟩ : MethodName)) (n := 39) d2_36 (hw _ (List.mem_of_getElem? (i := 266) rfl)) (hw _ (List.mem_of_getElem? (i := 267) rfl)) (hw _ (List.mem_of_getElem? (i := 269) rfl)) (hw _ (List.mem_of_getElem? (i := 268) rfl)) (by decide) (rm43 l Z a0 hw hE [] r1 h0 n0 O0 us hu3 hu A1 S_ad S_hi S_lo) OwnW.sf0 (argsL := [(.ref r1), (.int (0 : Int32)), (.int (Int32.ofNat us.length))]) (rest := []) rfl rfl (OwnW.lenA pd___CII__B rfl) (W := 0) (Nat.le_of_eq rfl) (by decide) (by decide) (by decide) (by decide) rfl ?_
  intro T3 h3 w3 g3 hle3 X3 ⟨t3, q1, k3, z3, hq⟩
  subst q1
  have ne_r0_t3 : r0 ≠ t3 := Nat.ne_of_lt (Nat.lt_of_lt_of_le E0.lt z3)
  have ne_r1_t3 : r1 ≠ t3 := Nat.ne_of_lt (Nat.lt_of_lt_of_le A1.lt z3)
  have K3 := k3
  have O3 := O0.keep K3 all0
  have Z3 : Keep h0 h3 [r0] := Z0.trans K3 (fun x hx => nomatch hx)
  have szt : h0.size ≤ t3 := Nat.le_trans Z0.1 z3
  rcases hq with ⟨hall, aA⟩ | ⟨hall, aA⟩
  · have _u := aA
    refine OwnW.astore X3 (l' := #[.val (.ref r0), .val (.ref r1), .val (.int (0 : Int32)), .val (.int (Int32.ofNat us.length)), .val .null, .val (.ref t3)]) (n := 41) d2_39 rfl rfl rfl ?_
    refine OwnW.aloadN X3 (n := 42) d2_41 rfl rfl rfl ?_
    refine OwnW.aload X3 (n := 44) d2_42 rfl rfl rfl ?_
    refine OwnW.iloadN X3 (n := 45) d2_44 rfl rfl ?_
    refine OwnW.call_static_v X3 (z := (⟨"java/lang/StringUTF16", "coderFromArrayLen", "([BI)B"⟩ : MethodName)) (n := 48) d2_45 (hw _ (List.mem_of_getElem? (i := 273) rfl)) (hw _ (List.mem_of_getElem? (i := 274) rfl)) (hw _ (List.mem_of_getElem? (i := 275) rfl)) (hw _ (List.mem_of_getElem? (i := 268) rfl)) (by decide) (rmCL0 l Z a0 hw hE [] t3 h3 n0 us hu3 hpos aA) OwnW.sf0 (argsL := [(.ref t3), (.int (Int32.ofNat us.length))]) (rest := [(.ref r0)]) rfl rfl (OwnW.lenA pd___BI_B rfl) (W := 1) (Nat.le_of_eq rfl) (by decide) (by decide) (by decide) (by decide) rfl ?_
    intro T4 h4 w4 g4 hle4 X4 ⟨q1, q2⟩
    subst q1 q2
    have fk5 := (F2.keep K3 nin0)
    have fk6 := (E0.keep K3)
    refine OwnW.putfield X4 (ty := .byte) (v' := (.int (0 : Int32))) (n := 51) d2_48 (hw _ (List.mem_of_getElem? (i := 21) rfl)) Via.refl fk5 fk6 (Or.inr ⟨(hw _ (List.mem_of_getElem? (i := 17) rfl)), rfl, rfl⟩) (hw _ (List.mem_of_getElem? (i := 2) rfl)) (by decide) rfl rfl ge_r0 (List.mem_append_left _ (List.mem_append_left _ (List.mem_cons_self ..))) rfl ?_
    intro T7 h7 X7 W7 Fw7
    have fk8 := (F1.keep K3 nin0)
    have fk9 := fk8.other W7 (Or.inr (slot_ne (Or.inr (hw _ (List.mem_of_getElem? (i := 16) rfl))) (Or.inr (hw _ (List.mem_of_getElem? (i := 17) rfl))) (by decide) (t := (.array .byte)) (t' := .byte) (by decide) (by decide)))
    have K7 := (Keep.of_wr W7)
    have O7 := O3.keep K7 (allS ge_r0 all0)
    have Z7 : Keep h0 h7 [r0] := Z3.trans K7 (allS (P := fun x => x ∈ [r0] ∨ h0.size ≤ x) (Or.inl (List.mem_of_getElem? (i := 0) rfl)) all0)
    refine OwnW.aloadN X7 (n := 52) d2_51 rfl rfl rfl ?_
    refine OwnW.aload X7 (n := 54) d2_52 rfl rfl rfl ?_
    have fk10 := (fk6.keep K7)
    refine OwnW.putfield X7 (ty := (.array .byte)) (v' := (.ref t3)) (n := 57) d2_54 (hw _ (List.mem_of_getElem? (i := 20) rfl)) Via.refl fk9 fk10 (Or.inr ⟨(hw _ (List.mem_of_getElem? (i := 16) rfl)), rfl, rfl⟩) (hw _ (List.mem_of_getElem? (i := 2) rfl)) (by decide) rfl rfl ge_r0 (List.mem_append_left _ (List.mem_append_left _ (List.mem_cons_self ..))) rfl ?_
    intro T11 h11 X11 W11 Fw11
    have fk12 := Fw7.other W11 (Or.inr (slot_ne (Or.inr (hw _ (List.mem_of_getElem? (i := 17) rfl))) (Or.inr (hw _ (List.mem_of_getElem? (i := 16) rfl))) (by decide) (t := .byte) (t' := (.array .byte)) (by decide) (by decide)))
    have K11 := (Keep.of_wr W11)
    have O11 := O7.keep K11 (allS ge_r0 all0)
    have Z11 : Keep h0 h11 [r0] := Z7.trans K11 (allS (P := fun x => x ∈ [r0] ∨ h0.size ≤ x) (Or.inl (List.mem_of_getElem? (i := 0) rfl)) all0)
    have fk13 := (fk10.keep K11)
    have fk14 := ((aA.keep K7 (ninS (Ne.symm ne_r0_t3) nin0)).keep K11 (ninS (Ne.symm ne_r0_t3) nin0))
    exact OwnW.vreturn X11 rfl d2_57 ⟨Z11, _, szt, Or.inl ⟨hall, fk13, fk12, Fw11, fk14⟩⟩ (by decide) (by decide)
  · have _u := aA
    refine OwnW.astore X3 (l' := #[.val (.ref r0), .val (.ref r1), .val (.int (0 : Int32)), .val (.int (Int32.ofNat us.length)), .val .null, .val (.ref t3)]) (n := 41) d2_39 rfl rfl rfl ?_
    refine OwnW.aloadN X3 (n := 42) d2_41 rfl rfl rfl ?_
    refine OwnW.aload X3 (n := 44) d2_42 rfl rfl rfl ?_
    refine OwnW.iloadN X3 (n := 45) d2_44 rfl rfl ?_
    refine OwnW.call_static_v X3 (z := (⟨"java/lang/StringUTF16", "coderFromArrayLen", "([BI)B"⟩ : MethodName)) (n := 48) d2_45 (hw _ (List.mem_of_getElem? (i := 273) rfl)) (hw _ (List.mem_of_getElem? (i := 274) rfl)) (hw _ (List.mem_of_getElem? (i := 275) rfl)) (hw _ (List.mem_of_getElem? (i := 268) rfl)) (by decide) (rmCL1 l Z a0 hw hE [] t3 h3 n0 us hu3 hpos aA) OwnW.sf0 (argsL := [(.ref t3), (.int (Int32.ofNat us.length))]) (rest := [(.ref r0)]) rfl rfl (OwnW.lenA pd___BI_B rfl) (W := 1) (Nat.le_of_eq rfl) (by decide) (by decide) (by decide) (by decide) rfl ?_
    intro T15 h15 w15 g15 hle15 X15 ⟨q1, q2⟩
    subst q1 q2
    have fk16 := (F2.keep K3 nin0)
    have fk17 := (E0.keep K3)
    refine OwnW.putfield X15 (ty := .byte) (v' := (.int (1 : Int32))) (n := 51) d2_48 (hw _ (List.mem_of_getElem? (i := 21) rfl)) Via.refl fk16 fk17 (Or.inr ⟨(hw _ (List.mem_of_getElem? (i := 17) rfl)), rfl, rfl⟩) (hw _ (List.mem_of_getElem? (i := 2) rfl)) (by decide) rfl rfl ge_r0 (List.mem_append_left _ (List.mem_append_left _ (List.mem_cons_self ..))) rfl ?_
    intro T18 h18 X18 W18 Fw18
    have fk19 := (F1.keep K3 nin0)
    have fk20 := fk19.other W18 (Or.inr (slot_ne (Or.inr (hw _ (List.mem_of_getElem? (i := 16) rfl))) (Or.inr (hw _ (List.mem_of_getElem? (i := 17) rfl))) (by decide) (t := (.array .byte)) (t' := .byte) (by decide) (by decide)))
    have K18 := (Keep.of_wr W18)
    have O18 := O3.keep K18 (allS ge_r0 all0)
    have Z18 : Keep h0 h18 [r0] := Z3.trans K18 (allS (P := fun x => x ∈ [r0] ∨ h0.size ≤ x) (Or.inl (List.mem_of_getElem? (i := 0) rfl)) all0)
    refine OwnW.aloadN X18 (n := 52) d2_51 rfl rfl rfl ?_
    refine OwnW.aload X18 (n := 54) d2_52 rfl rfl rfl ?_
    have fk21 := (fk17.keep K18)
    refine OwnW.putfield X18 (ty := (.array .byte)) (v' := (.ref t3)) (n := 57) d2_54 (hw _ (List.mem_of_getElem? (i := 20) rfl)) Via.refl fk20 fk21 (Or.inr ⟨(hw _ (List.mem_of_getElem? (i := 16) rfl)), rfl, rfl⟩) (hw _ (List.mem_of_getElem? (i := 2) rfl)) (by decide) rfl rfl ge_r0 (List.mem_append_left _ (List.mem_append_left _ (List.mem_cons_self ..))) rfl ?_
    intro T22 h22 X22 W22 Fw22
    have fk23 := Fw18.other W22 (Or.inr (slot_ne (Or.inr (hw _ (List.mem_of_getElem? (i := 17) rfl))) (Or.inr (hw _ (List.mem_of_getElem? (i := 16) rfl))) (by decide) (t := .byte) (t' := (.array .byte)) (by decide) (by decide)))
    have K22 := (Keep.of_wr W22)
    have O22 := O18.keep K22 (allS ge_r0 all0)
    have Z22 : Keep h0 h22 [r0] := Z18.trans K22 (allS (P := fun x => x ∈ [r0] ∨ h0.size ≤ x) (Or.inl (List.mem_of_getElem? (i := 0) rfl)) all0)
    have fk24 := (fk21.keep K22)
    have fk25 := ((aA.keep K18 (ninS (Ne.symm ne_r0_t3) nin0)).keep K22 (ninS (Ne.symm ne_r0_t3) nin0))
    exact OwnW.vreturn X22 rfl d2_57 ⟨Z22, _, szt, Or.inr ⟨hall, fk24, fk23, Fw22, fk25⟩⟩ (by decide) (by decide)
theorem pd___CIILjava_lang_Void__V : parseMethodDescriptor "([CIILjava/lang/Void;)V" = some ⟨[(.array .char), .int, .int, (.object "java/lang/Void")], none⟩ := by decide +kernel
theorem d1_0 : decode jdk_42_method_3_code 0 = .ok (.aload_n 0, 1) := by decide +kernel
theorem d1_1 : decode jdk_42_method_3_code 1 = .ok (.aload_n 1, 1) := by decide +kernel
theorem d1_2 : decode jdk_42_method_3_code 2 = .ok (.iconst 0, 1) := by decide +kernel
theorem d1_3 : decode jdk_42_method_3_code 3 = .ok (.aload_n 1, 1) := by decide +kernel
theorem d1_4 : decode jdk_42_method_3_code 4 = .ok (.arraylength, 1) := by decide +kernel
theorem d1_5 : decode jdk_42_method_3_code 5 = .ok (.aconst_null, 1) := by decide +kernel
theorem d1_6 : decode jdk_42_method_3_code 6 = .ok (.invokespecial 27, 3) := by decide +kernel
theorem d1_9 : decode jdk_42_method_3_code 9 = .ok (.return_, 1) := by decide +kernel
theorem ef_rm1 (m : MethodId) (x0 : Addr) (x1 : Addr) : entryFrame m #[(.ref x0), (.ref x1)] 2 = mkF m 0 #[.val (.ref x0), .val (.ref x1)] [] := by first | (simp [entryFrame, mkF, argsToLocals, Value.category]; done) | rfl
set_option maxRecDepth 65536 in
set_option maxHeartbeats 40000000 in
theorem rm1 {kn : Prop} (l : Launch) (Z : State) (a0 : Array Value) (hw : ∀ d ∈ tables_1, d.before a0 Z = true) (hE : EW Z a0 own_EL) (ws : List Jvm.Cond) (r0 : Addr) (r1 : Addr) (h0 : Heap) (n0 : Nat) (O0 : Old Z n0 h0) (ge_r0 : n0 ≤ r0) (E0 : Exa Z h0 r0 "java/lang/String") (v1 v2 : Value) (F1 : Fld Z h0 r0 "java/lang/String" "value" "[B" v1) (F2 : Fld Z h0 r0 "java/lang/String" "coder" "B" v2) (us : List Nat) (hu3 : us.length ≤ 3) (hpos : 0 < us.length) (hu : ∀ u ∈ us, u ≤ 65535) (A1 : Ark Z h0 r1 .char ((us.map Int32.ofNat).map Value.int)) (ne01 : r0 ≠ r1) (zc : Int32) (hzc : ¬ zc = 0) (S_compact : Sta Z Z.heap "java/lang/String" "COMPACT_STRINGS" "Z" (.int zc)) (S_ad : Sta Z Z.heap "java/lang/StringUTF16" "$assertionsDisabled" "Z" (.int 1)) (S_hi : Sta Z Z.heap "java/lang/StringUTF16" "HI_BYTE_SHIFT" "I" (.int 0)) (S_lo : Sta Z Z.heap "java/lang/StringUTF16" "LO_BYTE_SHIFT" "I" (.int 8)) :
    Ctr kn l Z own_EL (⟨"java/lang/String", "<init>", "([C)V"⟩ : MethodName) jdk_42_method_3_code 2 none ws ({ frames := 5, cells := 2, slots := 163, locals := 74 } : Room) n0 (r0 :: []) #[(.ref r0), (.ref r1)] h0 (Rn (fun h g => Keep h0 h [r0] ∧ ∃ t, h0.size ≤ t ∧ own_U Z h r0 t us)) := by
  refine Ctr.of (plainFor_of_name pn_java_lang_String) hE (fun m => ef_rm1 m r0 r1) ?_
  intro p e s m below meth c T0 X0
  have Z0 : Keep h0 h0 [r0] := Keep.refl _ _
  refine OwnW.aloadN X0 (n := 1) d1_0 rfl rfl rfl ?_
  refine OwnW.aloadN X0 (n := 2) d1_1 rfl rfl rfl ?_
  refine OwnW.iconst X0 (z := (0 : Int32)) (n := 3) d1_2 rfl rfl ?_
  refine OwnW.aloadN X0 (n := 4) d1_3 rfl rfl rfl ?_
  refine OwnW.arraylength X0 (z := Int32.ofNat us.length) (n := 5) d1_4 A1 (congrArg Int32.ofNat (by simp)) rfl ?_
  refine OwnW.anull X0 (n := 6) d1_5 rfl ?_
  refine OwnW.call_special_n X0 (z := (⟨"java/lang/String", "<init>", "([CIILjava/lang/Void;)V"⟩ : MethodName)) (a := r0) (n := 9) d1_6 (hw _ (List.mem_of_getElem? (i := 7) rfl)) (hw _ (List.mem_of_getElem? (i := 8) rfl)) (hw _ (List.mem_of_getElem? (i := 10) rfl)) (hw _ (List.mem_of_getElem? (i := 3) rfl)) rfl rfl (by decide) (rm2 l Z a0 hw hE [] r0 r1 h0 n0 O0 ge_r0 E0 v1 v2 F1 F2 us hu3 hpos hu A1 ne01 zc hzc S_compact S_ad S_hi S_lo) (OwnW.sfS (List.mem_cons_self ..) OwnW.sf0) (argsL := [(.ref r1), (.int (0 : Int32)), (.int (Int32.ofNat us.length)), .null]) (rest := []) rfl rfl (OwnW.lenA pd___CIILjava_lang_Void__V rfl) (W := 0) (Nat.le_of_eq rfl) (by decide) (by decide) (by decide) (by decide) rfl ?_
  intro T1 h1 g1 hle1 X1 qq
  exact OwnW.vreturn X1 rfl d1_9 qq (by decide) (by decide)
theorem d6_0 : decode jdk_68_method_2_code 0 = .ok (.aload_n 0, 1) := by decide +kernel
theorem d6_1 : decode jdk_68_method_2_code 1 = .ok (.invokespecial 3, 3) := by decide +kernel
theorem d6_4 : decode jdk_68_method_2_code 4 = .ok (.getstatic 18, 3) := by decide +kernel
theorem d6_7 : decode jdk_68_method_2_code 7 = .ok (.ifCond .eq 18, 3) := by decide +kernel
theorem d6_10 : decode jdk_68_method_2_code 10 = .ok (.aload_n 0, 1) := by decide +kernel
theorem d6_11 : decode jdk_68_method_2_code 11 = .ok (.iload_n 1, 1) := by decide +kernel
theorem d6_12 : decode jdk_68_method_2_code 12 = .ok (.newarray .byte, 2) := by decide +kernel
theorem d6_14 : decode jdk_68_method_2_code 14 = .ok (.putfield 15, 3) := by decide +kernel
theorem d6_17 : decode jdk_68_method_2_code 17 = .ok (.aload_n 0, 1) := by decide +kernel
theorem d6_18 : decode jdk_68_method_2_code 18 = .ok (.iconst 0, 1) := by decide +kernel
theorem d6_19 : decode jdk_68_method_2_code 19 = .ok (.putfield 22, 3) := by decide +kernel
theorem d6_22 : decode jdk_68_method_2_code 22 = .ok (.goto 16, 3) := by decide +kernel
theorem d6_38 : decode jdk_68_method_2_code 38 = .ok (.return_, 1) := by decide +kernel
theorem ef_rm6 (m : MethodId) (x0 : Addr) : entryFrame m #[(.ref x0), (.int (16 : Int32))] 2 = mkF m 0 #[.val (.ref x0), .val (.int (16 : Int32))] [] := by first | (simp [entryFrame, mkF, argsToLocals, Value.category]; done) | rfl
set_option maxRecDepth 65536 in
set_option maxHeartbeats 40000000 in
theorem rm6 {kn : Prop} (l : Launch) (Z : State) (a0 : Array Value) (hw : ∀ d ∈ tables_1, d.before a0 Z = true) (hE : EW Z a0 own_EL) (ws : List Jvm.Cond) (r0 : Addr) (h0 : Heap) (n0 : Nat) (O0 : Old Z n0 h0) (ge_r0 : n0 ≤ r0) (E0 : Exa Z h0 r0 "java/lang/StringBuilder") (v1 v2 : Value) (F1 : Fld Z h0 r0 "java/lang/AbstractStringBuilder" "value" "[B" v1) (F2 : Fld Z h0 r0 "java/lang/AbstractStringBuilder" "coder" "B" v2) (F3 : Fld Z h0 r0 "java/lang/AbstractStringBuilder" "count" "I" (.int 0)) (F4 : Fld Z h0 r0 "java/lang/AbstractStringBuilder" "maybeLatin1" "Z" (.int 0)) (zc : Int32) (hzc : ¬ zc = 0) (S_compact : Sta Z Z.heap "java/lang/String" "COMPACT_STRINGS" "Z" (.int zc)) :
    Ctr kn l Z own_EL (⟨"java/lang/AbstractStringBuilder", "<init>", "(I)V"⟩ : MethodName) jdk_68_method_2_code 2 none ws ({ frames := 1, cells := 1, slots := 16, locals := 12 } : Room) n0 (r0 :: []) #[(.ref r0), (.int (16 : Int32))] h0 (Rn (fun h g => Keep h0 h [r0] ∧ ∃ t, h0.size ≤ t ∧ own_B Z h r0 t 0 (Int32.ofNat 0) ∧ Ark Z h t .byte (List.replicate 16 (Value.int 0)) ∧ t ∈ g)) := by
  refine Ctr.of (plainFor_of_name pn_java_lang_AbstractStringBuilder) hE (fun m => ef_rm6 m r0) ?_
  intro p e s m below meth c T0 X0
  have Z0 : Keep h0 h0 [r0] := Keep.refl _ _
  refine OwnW.aloadN X0 (n := 1) d6_0 rfl rfl rfl ?_
  refine OwnW.initObj X0 (W := 0) (n := 4) d6_1 (hw _ (List.mem_of_getElem? (i := 41) rfl)) (hw _ (List.mem_of_getElem? (i := 12) rfl)) (hw _ (List.mem_of_getElem? (i := 13) rfl)) rfl (by decide) (by decide) (by decide) rfl ?_
  intro T1 X1
  refine OwnW.getstatic X1 (n := 7) d6_4 (hw _ (List.mem_of_getElem? (i := 42) rfl)) Via.refl (S_compact.ext O0.2) rfl ?_
  intro T2 X2
  refine OwnW.if_eq X2  (n1 := 25) (n2 := 10) d6_7 (by decide) rfl rfl (fun q => absurd q (hzc : ¬ zc = 0)) (fun _ => ?_)
  refine OwnW.aloadN X2 (n := 11) d6_10 rfl rfl rfl ?_
  refine OwnW.iloadN X2 (n := 12) d6_11 rfl rfl ?_
  refine OwnW.newarray X2 (len := 16) (cap := 16) (n := 14) d6_12 (hw _ (List.mem_of_getElem? (i := 15) rfl)) (own_nat (i := 16) (by omega)) (by omega) (by decide) (by decide) (by decide) rfl ?_
  intro T3 h3 b3 gb3 X3 E3 A3
  have ne_r0_b3 : r0 ≠ b3 := by rw [gb3]; exact Nat.ne_of_lt E0.lt
  have ge_b3 : n0 ≤ b3 := by rw [gb3]; exact OwnW.oldLe O0
  have K3 := (OwnW.kExt E3)
  have O3 := O0.keep K3 all0
  have Z3 : Keep h0 h3 [r0] := Z0.trans K3 (fun x hx => nomatch hx)
  have sz_b3 : h0.size ≤ b3 := by rw [gb3]; exact Z0.1
  replace A3 : Ark Z h3 b3 .byte (List.replicate 16 (.int 0)) := A3
  have fk4 := (F1.keep K3 nin0)
  have fk5 := (E0.keep K3)
  refine OwnW.putfield X3 (ty := (.array .byte)) (v' := (.ref b3)) (n := 17) d6_14 (hw _ (List.mem_of_getElem? (i := 43) rfl)) Via.refl fk4 fk5 (Or.inl (hw _ (List.mem_of_getElem? (i := 44) rfl))) (hw _ (List.mem_of_getElem? (i := 30) rfl)) (by decide) rfl rfl ge_r0 (List.mem_cons_of_mem _ (List.mem_cons_self ..)) rfl ?_
  intro T6 h6 X6 W6 Fw6
  have fk7 := (F2.keep K3 nin0)
  have fk8 := fk7.other W6 (Or.inr (slot_ne (Or.inl (hw _ (List.mem_of_getElem? (i := 46) rfl))) (Or.inl (hw _ (List.mem_of_getElem? (i := 44) rfl))) (by decide) (t := .byte) (t' := (.array .byte)) (by decide) (by decide)))
  have fk9 := (F3.keep K3 nin0)
  have fk10 := fk9.other W6 (Or.inr (slot_ne (Or.inl (hw _ (List.mem_of_getElem? (i := 70) rfl))) (Or.inl (hw _ (List.mem_of_getElem? (i := 44) rfl))) (by decide) (t := .int) (t' := (.array .byte)) (by decide) (by decide)))
  have fk11 := (F4.keep K3 nin0)
  have fk12 := fk11.other W6 (Or.inr (slot_ne (Or.inl (hw _ (List.mem_of_getElem? (i := 327) rfl))) (Or.inl (hw _ (List.mem_of_getElem? (i := 44) rfl))) (by decide) (t := .boolean) (t' := (.array .byte)) (by decide) (by decide)))
  have K6 := (Keep.of_wr W6)
  have O6 := O3.keep K6 (allS ge_r0 all0)
  have Z6 : Keep h0 h6 [r0] := Z3.trans K6 (allS (P := fun x => x ∈ [r0] ∨ h0.size ≤ x) (Or.inl (List.mem_of_getElem? (i := 0) rfl)) all0)
  refine OwnW.aloadN X6 (n := 18) d6_17 rfl rfl rfl ?_
  refine OwnW.iconst X6 (z := (0 : Int32)) (n := 19) d6_18 rfl rfl ?_
  have fk13 := (fk5.keep K6)
  refine OwnW.putfield X6 (ty := .byte) (v' := (.int (0 : Int32))) (n := 22) d6_19 (hw _ (List.mem_of_getElem? (i := 45) rfl)) Via.refl fk8 fk13 (Or.inl (hw _ (List.mem_of_getElem? (i := 46) rfl))) (hw _ (List.mem_of_getElem? (i := 30) rfl)) (by decide) rfl rfl ge_r0 (List.mem_cons_of_mem _ (List.mem_cons_self ..)) rfl ?_
  intro T14 h14 X14 W14 Fw14
  have fk15 := Fw6.other W14 (Or.inr (slot_ne (Or.inl (hw _ (List.mem_of_getElem? (i := 44) rfl))) (Or.inl (hw _ (List.mem_of_getElem? (i := 46) rfl))) (by decide) (t := (.array .byte)) (t' := .byte) (by decide) (by decide)))
  have fk16 := fk10.other W14 (Or.inr (slot_ne (Or.inl (hw _ (List.mem_of_getElem? (i := 70) rfl))) (Or.inl (hw _ (List.mem_of_getElem? (i := 46) rfl))) (by decide) (t := .int) (t' := .byte) (by decide) (by decide)))
  have fk17 := fk12.other W14 (Or.inr (slot_ne (Or.inl (hw _ (List.mem_of_getElem? (i := 327) rfl))) (Or.inl (hw _ (List.mem_of_getElem? (i := 46) rfl))) (by decide) (t := .boolean) (t' := .byte) (by decide) (by decide)))
  have K14 := (Keep.of_wr W14)
  have O14 := O6.keep K14 (allS ge_r0 all0)
  have Z14 : Keep h0 h14 [r0] := Z6.trans K14 (allS (P := fun x => x ∈ [r0] ∨ h0.size ≤ x) (Or.inl (List.mem_of_getElem? (i := 0) rfl)) all0)
  refine OwnW.goto X14 (n := 38) d6_22 (by decide) rfl ?_
  have fk18 := (fk13.keep K14)
  have fk19 := ((A3.keep K6 (ninS (Ne.symm ne_r0_b3) nin0)).keep K14 (ninS (Ne.symm ne_r0_b3) nin0))
  exact OwnW.vreturn X14 rfl d6_38 ⟨Z14, _, sz_b3, ⟨fk18, fk15, Fw14, fk16, fk17⟩, fk19, (List.mem_cons_self ..)⟩ (by decide) (by decide)
theorem pd__I_V : parseMethodDescriptor "(I)V" = some ⟨[.int], none⟩ := by decide +kernel
theorem pn_java_lang_StringBuilder : plainName "java/lang/StringBuilder" = true := by first | (simp [plainName, overriddenIn]; done) | decide +kernel
theorem d5_0 : decode jdk_67_method_1_code 0 = .ok (.aload_n 0, 1) := by decide +kernel
theorem d5_1 : decode jdk_67_method_1_code 1 = .ok (.bipush 16, 2) := by decide +kernel
theorem d5_3 : decode jdk_67_method_1_code 3 = .ok (.invokespecial 1, 3) := by decide +kernel
theorem d5_6 : decode jdk_67_method_1_code 6 = .ok (.return_, 1) := by decide +kernel
theorem ef_rm5 (m : MethodId) (x0 : Addr) : entryFrame m #[(.ref x0)] 1 = mkF m 0 #[.val (.ref x0)] [] := by first | (simp [entryFrame, mkF, argsToLocals, Value.category]; done) | rfl
set_option maxRecDepth 65536 in
set_option maxHeartbeats 40000000 in
theorem rm5 {kn : Prop} (l : Launch) (Z : State) (a0 : Array Value) (hw : ∀ d ∈ tables_1, d.before a0 Z = true) (hE : EW Z a0 own_EL) (ws : List Jvm.Cond) (r0 : Addr) (h0 : Heap) (n0 : Nat) (O0 : Old Z n0 h0) (ge_r0 : n0 ≤ r0) (E0 : Exa Z h0 r0 "java/lang/StringBuilder") (v1 v2 : Value) (F1 : Fld Z h0 r0 "java/lang/AbstractStringBuilder" "value" "[B" v1) (F2 : Fld Z h0 r0 "java/lang/AbstractStringBuilder" "coder" "B" v2) (F3 : Fld Z h0 r0 "java/lang/AbstractStringBuilder" "count" "I" (.int 0)) (F4 : Fld Z h0 r0 "java/lang/AbstractStringBuilder" "maybeLatin1" "Z" (.int 0)) (zc : Int32) (hzc : ¬ zc = 0) (S_compact : Sta Z Z.heap "java/lang/String" "COMPACT_STRINGS" "Z" (.int zc)) :
    Ctr kn l Z own_EL (⟨"java/lang/StringBuilder", "<init>", "()V"⟩ : MethodName) jdk_67_method_1_code 1 none ws ({ frames := 2, cells := 1, slots := 16, locals := 25 } : Room) n0 (r0 :: []) #[(.ref r0)] h0 (Rn (fun h g => Keep h0 h [r0] ∧ ∃ t, h0.size ≤ t ∧ own_B Z h r0 t 0 (Int32.ofNat 0) ∧ Ark Z h t .byte (List.replicate 16 (Value.int 0)) ∧ t ∈ g)) := by
  refine Ctr.of (plainFor_of_name pn_java_lang_StringBuilder) hE (fun m => ef_rm5 m r0) ?_
  intro p e s m below meth c T0 X0
  have Z0 : Keep h0 h0 [r0] := Keep.refl _ _
  refine OwnW.aloadN X0 (n := 1) d5_0 rfl rfl rfl ?_
  refine OwnW.bipush X0 (z := (16 : Int32)) (n := 3) d5_1 rfl rfl ?_
  refine OwnW.call_special_n X0 (z := (⟨"java/lang/AbstractStringBuilder", "<init>", "(I)V"⟩ : MethodName)) (a := r0) (n := 6) d5_3 (hw _ (List.mem_of_getElem? (i := 35) rfl)) (hw _ (List.mem_of_getElem? (i := 36) rfl)) (hw _ (List.mem_of_getElem? (i := 40) rfl)) (hw _ (List.mem_of_getElem? (i := 39) rfl)) rfl rfl (by decide) (rm6 l Z a0 hw hE [] r0 h0 n0 O0 ge_r0 E0 v1 v2 F1 F2 F3 F4 zc hzc S_compact) (OwnW.sfS (List.mem_cons_self ..) OwnW.sf0) (argsL := [(.int (16 : Int32))]) (rest := []) rfl rfl (OwnW.lenA pd__I_V rfl) (W := 0) (Nat.le_of_eq rfl) (by decide) (by decide) (by decide) (by decide) rfl ?_
  intro T1 h1 g1 hle1 X1 ⟨kq, tq, zq, bq, aq, mq⟩
  exact OwnW.vreturn X1 rfl d5_6 ⟨kq, tq, zq, bq, aq, List.mem_append_right _ mq⟩ (by decide) (by decide)
theorem d19_0 : decode jdk_42_method_147_code 0 = .ok (.aload_n 0, 1) := by decide +kernel
theorem d19_1 : decode jdk_42_method_147_code 1 = .ok (.invokevirtual 335, 3) := by decide +kernel
theorem d19_4 : decode jdk_42_method_147_code 4 = .ok (.iload_n 3, 1) := by decide +kernel
theorem d19_5 : decode jdk_42_method_147_code 5 = .ok (.if_icmp .ne 23, 3) := by decide +kernel
theorem d19_8 : decode jdk_42_method_147_code 8 = .ok (.aload_n 0, 1) := by decide +kernel
theorem d19_9 : decode jdk_42_method_147_code 9 = .ok (.getfield 9, 3) := by decide +kernel
theorem d19_12 : decode jdk_42_method_147_code 12 = .ok (.iconst 0, 1) := by decide +kernel
theorem d19_13 : decode jdk_42_method_147_code 13 = .ok (.aload_n 1, 1) := by decide +kernel
theorem d19_14 : decode jdk_42_method_147_code 14 = .ok (.iload_n 2, 1) := by decide +kernel
theorem d19_15 : decode jdk_42_method_147_code 15 = .ok (.iload_n 3, 1) := by decide +kernel
theorem d19_16 : decode jdk_42_method_147_code 16 = .ok (.ishl, 1) := by decide +kernel
theorem d19_17 : decode jdk_42_method_147_code 17 = .ok (.aload_n 0, 1) := by decide +kernel
theorem d19_18 : decode jdk_42_method_147_code 18 = .ok (.getfield 9, 3) := by decide +kernel
theorem d19_21 : decode jdk_42_method_147_code 21 = .ok (.arraylength, 1) := by decide +kernel
theorem d19_22 : decode jdk_42_method_147_code 22 = .ok (.invokestatic 212, 3) := by decide +kernel
theorem d19_25 : decode jdk_42_method_147_code 25 = .ok (.goto 18, 3) := by decide +kernel
theorem d19_43 : decode jdk_42_method_147_code 43 = .ok (.return_, 1) := by decide +kernel
theorem ef_rmGB0 (m : MethodId) (x0 : Addr) (x1 : Addr) (x2 : Int32) : entryFrame m #[(.ref x0), (.ref x1), (.int x2), (.int (0 : Int32))] 4 = mkF m 0 #[.val (.ref x0), .val (.ref x1), .val (.int x2), .val (.int (0 : Int32))] [] := by first | (simp [entryFrame, mkF, argsToLocals, Value.category]; done) | rfl
set_option maxRecDepth 65536 in
set_option maxHeartbeats 40000000 in
theorem rmGB0 {kn : Prop} (l : Launch) (Z : State) (a0 : Array Value) (hw : ∀ d ∈ tables_1, d.before a0 Z = true) (hE : EW Z a0 own_EL) (ws : List Jvm.Cond) (r0 : Addr) (r1 : Addr) (h0 : Heap) (n0 : Nat) (O0 : Old Z n0 h0) (t : Addr) (us : List Nat) (hul : us.length ≤ 80) (E0 : Exa Z h0 r0 "java/lang/String") (F2 : Fld Z h0 r0 "java/lang/String" "coder" "B" (.int 0)) (F1 : Fld Z h0 r0 "java/lang/String" "value" "[B" (.ref t)) (A0 : Ark Z h0 t .byte (own_lb us)) (vd : List Value) (di : Nat) (hdi : di ≤ 1000) (hdv : di + us.length ≤ vd.length) (B1 : Ark Z h0 r1 .byte vd) (ge_r1 : n0 ≤ r1) (net : t ≠ r1) (zc : Int32) (hzc : ¬ zc = 0) (S_compact : Sta Z Z.heap "java/lang/String" "COMPACT_STRINGS" "Z" (.int zc)) :
    Ctr kn l Z own_EL (⟨"java/lang/String", "getBytes", "([BIB)V"⟩ : MethodName) jdk_42_method_147_code 4 none ws ({ frames := 1, cells := 0, slots := 0, locals := 18 } : Room) n0 (r1 :: []) #[(.ref r0), (.ref r1), (.int (Int32.ofNat di)), (.int (0 : Int32))] h0 (Rn (fun h g => Keep h0 h [r1] ∧ Ark Z h r1 .byte (vd.take di ++ own_lb us ++ vd.drop (di + us.length)))) := by
  refine Ctr.of (plainFor_of_name pn_java_lang_String) hE (fun m => ef_rmGB0 m r0 r1 (Int32.ofNat di)) ?_
  intro p e s m below meth c T0 X0
  have Z0 : Keep h0 h0 [r1] := Keep.refl _ _
  have hv4 := B1.len
  refine OwnW.aloadN X0 (n := 1) d19_0 rfl rfl rfl ?_
  refine OwnW.call_virtual_v X0 (z := (⟨"java/lang/String", "coder", "()B"⟩ : MethodName)) (yv := (⟨"java/lang/String", "coder", "()B"⟩ : MethodName)) (a := r0) (C := "java/lang/String") (n := 4) d19_1 (hw _ (List.mem_of_getElem? (i := 63) rfl)) (hw _ (List.mem_of_getElem? (i := 64) rfl)) (hw _ (List.mem_of_getElem? (i := 65) rfl)) (hw _ (List.mem_of_getElem? (i := 66) rfl)) (fun hz => notFace_of_selects (args := #[]) (mvT hz (hw _ (List.mem_of_getElem? (i := 66) rfl)))) (hw _ (List.mem_of_getElem? (i := 67) rfl)) (hw _ (List.mem_of_getElem? (i := 3) rfl)) (by decide) E0 (rm10 l Z a0 hw hE [] r0 h0 n0 O0 F2 zc hzc S_compact) OwnW.sf0 (argsL := []) (rest := []) rfl rfl (OwnW.lenA pd___B rfl) (W := 0) (Nat.le_of_eq rfl) (by decide) (by decide) (by decide) (by decide) rfl ?_
  intro T1 h1 w1 g1 hle1 X1 ⟨q1, q2⟩
  subst q1 q2
  refine OwnW.iloadN X1 (n := 5) d19_4 rfl rfl ?_
  refine OwnW.ic_ne X1  (n1 := 28) (n2 := 8) d19_5 (by decide) rfl rfl (fun q => absurd ((by decide) : (0 : Int32) = (0 : Int32)) q) (fun _ => ?_)
  refine OwnW.aloadN X1 (n := 9) d19_8 rfl rfl rfl ?_
  refine OwnW.getfield X1 (n := 12) d19_9 (hw _ (List.mem_of_getElem? (i := 20) rfl)) Via.refl F1 rfl ?_
  intro T2 X2
  refine OwnW.iconst X2 (z := (0 : Int32)) (n := 13) d19_12 rfl rfl ?_
  refine OwnW.aloadN X2 (n := 14) d19_13 rfl rfl rfl ?_
  refine OwnW.iloadN X2 (n := 15) d19_14 rfl rfl ?_
  refine OwnW.iloadN X2 (n := 16) d19_15 rfl rfl ?_
  refine OwnW.ishl X2 (n := 17) d19_16 rfl ?_
  rw [own_shl0 (Int32.ofNat di)]
  refine OwnW.aloadN X2 (n := 18) d19_17 rfl rfl rfl ?_
  refine OwnW.getfield X2 (n := 21) d19_18 (hw _ (List.mem_of_getElem? (i := 20) rfl)) Via.refl F1 rfl ?_
  intro T3 X3
  refine OwnW.arraylength X3 (z := Int32.ofNat us.length) (n := 22) d19_21 A0 (congrArg Int32.ofNat (own_lb_len us)) rfl ?_
  refine OwnW.arraycopy X3 (W := 0) (sp := 0) (dp := di) (nn := us.length) (n := 25) d19_22 (hw _ (List.mem_of_getElem? (i := 118) rfl)) (hw _ (List.mem_of_getElem? (i := 101) rfl)) (hw _ (List.mem_of_getElem? (i := 99) rfl)) (hw _ (List.mem_of_getElem? (i := 100) rfl)) A0 B1 (own_nat (i := 0) (by omega)) (own_nat (i := di) (by omega)) (own_nat (i := us.length) (by omega)) (by rw [own_lb_len us]; omega) hdv ge_r1 (List.mem_append_left _ (List.mem_cons_self ..)) rfl (Nat.le_of_eq rfl) (by decide) (by decide) rfl ?_
  intro T4 h4 X4 Kc4 A4
  have K4 := Kc4
  have O4 := O0.keep K4 (allS ge_r1 all0)
  have Z4 : Keep h0 h4 [r1] := Z0.trans K4 (allS (P := fun x => x ∈ [r1] ∨ h0.size ≤ x) (Or.inl (List.mem_of_getElem? (i := 0) rfl)) all0)
  rw [own_cp2 vd (own_lb us) di us.length (own_lb_len us)] at A4
  refine OwnW.goto X4 (n := 43) d19_25 (by decide) rfl ?_
  exact OwnW.vreturn X4 rfl d19_43 ⟨Z4, A4⟩ (by decide) (by decide)
theorem ef_rmGB1 (m : MethodId) (x0 : Addr) (x1 : Addr) (x2 : Int32) : entryFrame m #[(.ref x0), (.ref x1), (.int x2), (.int (1 : Int32))] 4 = mkF m 0 #[.val (.ref x0), .val (.ref x1), .val (.int x2), .val (.int (1 : Int32))] [] := by first | (simp [entryFrame, mkF, argsToLocals, Value.category]; done) | rfl
set_option maxRecDepth 65536 in
set_option maxHeartbeats 40000000 in
theorem rmGB1 {kn : Prop} (l : Launch) (Z : State) (a0 : Array Value) (hw : ∀ d ∈ tables_1, d.before a0 Z = true) (hE : EW Z a0 own_EL) (ws : List Jvm.Cond) (r0 : Addr) (r1 : Addr) (h0 : Heap) (n0 : Nat) (O0 : Old Z n0 h0) (t : Addr) (us : List Nat) (hul : us.length ≤ 80) (E0 : Exa Z h0 r0 "java/lang/String") (F2 : Fld Z h0 r0 "java/lang/String" "coder" "B" (.int 1)) (F1 : Fld Z h0 r0 "java/lang/String" "value" "[B" (.ref t)) (A0 : Ark Z h0 t .byte (own_ub us)) (vd : List Value) (di : Nat) (hdi : di ≤ 1000) (hdv : (2 * di) + (2 * us.length) ≤ vd.length) (B1 : Ark Z h0 r1 .byte vd) (ge_r1 : n0 ≤ r1) (net : t ≠ r1) (zc : Int32) (hzc : ¬ zc = 0) (S_compact : Sta Z Z.heap "java/lang/String" "COMPACT_STRINGS" "Z" (.int zc)) :
    Ctr kn l Z own_EL (⟨"java/lang/String", "getBytes", "([BIB)V"⟩ : MethodName) jdk_42_method_147_code 4 none ws ({ frames := 1, cells := 0, slots := 0, locals := 18 } : Room) n0 (r1 :: []) #[(.ref r0), (.ref r1), (.int (Int32.ofNat di)), (.int (1 : Int32))] h0 (Rn (fun h g => Keep h0 h [r1] ∧ Ark Z h r1 .byte (vd.take (2 * di) ++ own_ub us ++ vd.drop ((2 * di) + (2 * us.length))))) := by
  refine Ctr.of (plainFor_of_name pn_java_lang_String) hE (fun m => ef_rmGB1 m r0 r1 (Int32.ofNat di)) ?_
  intro p e s m below meth c T0 X0
  have Z0 : Keep h0 h0 [r1] := Keep.refl _ _
  have hv4 := B1.len
  refine OwnW.aloadN X0 (n := 1) d19_0 rfl rfl rfl ?_
  refine OwnW.call_virtual_v X0 (z := (⟨"java/lang/String", "coder", "()B"⟩ : MethodName)) (yv := (⟨"java/lang/String", "coder", "()B"⟩ : MethodName)) (a := r0) (C := "java/lang/String") (n := 4) d19_1 (hw _ (List.mem_of_getElem? (i := 63) rfl)) (hw _ (List.mem_of_getElem? (i := 64) rfl)) (hw _ (List.mem_of_getElem? (i := 65) rfl)) (hw _ (List.mem_of_getElem? (i := 66) rfl)) (fun hz => notFace_of_selects (args := #[]) (mvT hz (hw _ (List.mem_of_getElem? (i := 66) rfl)))) (hw _ (List.mem_of_getElem? (i := 67) rfl)) (hw _ (List.mem_of_getElem? (i := 3) rfl)) (by decide) E0 (rm10u l Z a0 hw hE [] r0 h0 n0 O0 F2 zc hzc S_compact) OwnW.sf0 (argsL := []) (rest := []) rfl rfl (OwnW.lenA pd___B rfl) (W := 0) (Nat.le_of_eq rfl) (by decide) (by decide) (by decide) (by decide) rfl ?_
  intro T1 h1 w1 g1 hle1 X1 ⟨q1, q2⟩
  subst q1 q2
  refine OwnW.iloadN X1 (n := 5) d19_4 rfl rfl ?_
  refine OwnW.ic_ne X1  (n1 := 28) (n2 := 8) d19_5 (by decide) rfl rfl (fun q => absurd ((by decide) : (1 : Int32) = (1 : Int32)) q) (fun _ => ?_)
  refine OwnW.aloadN X1 (n := 9) d19_8 rfl rfl rfl ?_
  refine OwnW.getfield X1 (n := 12) d19_9 (hw _ (List.mem_of_getElem? (i := 20) rfl)) Via.refl F1 rfl ?_
  intro T2 X2
  refine OwnW.iconst X2 (z := (0 : Int32)) (n := 13) d19_12 rfl rfl ?_
  refine OwnW.aloadN X2 (n := 14) d19_13 rfl rfl rfl ?_
  refine OwnW.iloadN X2 (n := 15) d19_14 rfl rfl ?_
  refine OwnW.iloadN X2 (n := 16) d19_15 rfl rfl ?_
  refine OwnW.ishl X2 (n := 17) d19_16 rfl ?_
  rw [own_shl1 (i := di) (by omega)]
  refine OwnW.aloadN X2 (n := 18) d19_17 rfl rfl rfl ?_
  refine OwnW.getfield X2 (n := 21) d19_18 (hw _ (List.mem_of_getElem? (i := 20) rfl)) Via.refl F1 rfl ?_
  intro T3 X3
  refine OwnW.arraylength X3 (z := Int32.ofNat (2 * us.length)) (n := 22) d19_21 A0 (congrArg Int32.ofNat (own_ub_len us)) rfl ?_
  refine OwnW.arraycopy X3 (W := 0) (sp := 0) (dp := (2 * di)) (nn := (2 * us.length)) (n := 25) d19_22 (hw _ (List.mem_of_getElem? (i := 118) rfl)) (hw _ (List.mem_of_getElem? (i := 101) rfl)) (hw _ (List.mem_of_getElem? (i := 99) rfl)) (hw _ (List.mem_of_getElem? (i := 100) rfl)) A0 B1 (own_nat (i := 0) (by omega)) (own_nat (i := (2 * di)) (by omega)) (own_nat (i := (2 * us.length)) (by omega)) (by rw [own_ub_len us]; omega) hdv ge_r1 (List.mem_append_left _ (List.mem_cons_self ..)) rfl (Nat.le_of_eq rfl) (by decide) (by decide) rfl ?_
  intro T4 h4 X4 Kc4 A4
  have K4 := Kc4
  have O4 := O0.keep K4 (allS ge_r1 all0)
  have Z4 : Keep h0 h4 [r1] := Z0.trans K4 (allS (P := fun x => x ∈ [r1] ∨ h0.size ≤ x) (Or.inl (List.mem_of_getElem? (i := 0) rfl)) all0)
  rw [own_cp2 vd (own_ub us) (2 * di) (2 * us.length) (own_ub_len us)] at A4
  refine OwnW.goto X4 (n := 43) d19_25 (by decide) rfl ?_
  exact OwnW.vreturn X4 rfl d19_43 ⟨Z4, A4⟩ (by decide) (by decide)
theorem d26_0 : decode jdk_68_method_68_code 0 = .ok (.getstatic 18, 3) := by decide +kernel
theorem d26_3 : decode jdk_68_method_68_code 3 = .ok (.ifCond .eq 14, 3) := by decide +kernel
theorem d26_6 : decode jdk_68_method_68_code 6 = .ok (.aload_n 0, 1) := by decide +kernel
theorem d26_7 : decode jdk_68_method_68_code 7 = .ok (.getfield 22, 3) := by decide +kernel
theorem d26_10 : decode jdk_68_method_68_code 10 = .ok (.ifCond .ne 7, 3) := by decide +kernel
theorem d26_13 : decode jdk_68_method_68_code 13 = .ok (.iconst 1, 1) := by decide +kernel
theorem d26_14 : decode jdk_68_method_68_code 14 = .ok (.goto 4, 3) := by decide +kernel
theorem d26_18 : decode jdk_68_method_68_code 18 = .ok (.ireturn, 1) := by decide +kernel
theorem ef_rmBL0 (m : MethodId) (x0 : Addr) : entryFrame m #[(.ref x0)] 1 = mkF m 0 #[.val (.ref x0)] [] := by first | (simp [entryFrame, mkF, argsToLocals, Value.category]; done) | rfl
set_option maxRecDepth 65536 in
set_option maxHeartbeats 40000000 in
theorem rmBL0 {kn : Prop} (l : Launch) (Z : State) (a0 : Array Value) (hw : ∀ d ∈ tables_1, d.before a0 Z = true) (hE : EW Z a0 own_EL) (ws : List Jvm.Cond) (r0 : Addr) (h0 : Heap) (n0 : Nat) (O0 : Old Z n0 h0) (F0 : Fld Z h0 r0 "java/lang/AbstractStringBuilder" "coder" "B" (.int 0)) (zc : Int32) (hzc : ¬ zc = 0) (S_compact : Sta Z Z.heap "java/lang/String" "COMPACT_STRINGS" "Z" (.int zc)) :
    Ctr kn l Z own_EL (⟨"java/lang/AbstractStringBuilder", "isLatin1", "()Z"⟩ : MethodName) jdk_68_method_68_code 1 (some .boolean) ws ({ frames := 0, cells := 0, slots := 0, locals := 0 } : Room) n0 ([]) #[(.ref r0)] h0 (Rt (fun w h g => w = .int 1 ∧ h0 = h)) := by
  refine Ctr.of (plainFor_of_name pn_java_lang_AbstractStringBuilder) hE (fun m => ef_rmBL0 m r0) ?_
  intro p e s m below meth c T0 X0
  have Z0 : Keep h0 h0 [] := Keep.refl _ _
  refine OwnW.getstatic X0 (n := 3) d26_0 (hw _ (List.mem_of_getElem? (i := 42) rfl)) Via.refl (S_compact.ext O0.2) rfl ?_
  intro T1 X1
  refine OwnW.if_eq X1  (n1 := 17) (n2 := 6) d26_3 (by decide) rfl rfl (fun q => absurd q (hzc : ¬ zc = 0)) (fun _ => ?_)
  refine OwnW.aloadN X1 (n := 7) d26_6 rfl rfl rfl ?_
  refine OwnW.getfield X1 (n := 10) d26_7 (hw _ (List.mem_of_getElem? (i := 45) rfl)) Via.refl F0 rfl ?_
  intro T2 X2
  refine OwnW.if_ne X2  (n1 := 17) (n2 := 13) d26_10 (by decide) rfl rfl (fun q => absurd ((by decide) : (0 : Int32) = 0) q) (fun _ => ?_)
  refine OwnW.iconst X2 (z := (1 : Int32)) (n := 14) d26_13 rfl rfl ?_
  refine OwnW.goto X2 (n := 18) d26_14 (by decide) rfl ?_
  exact OwnW.ireturn X2 rfl (Or.inr (Or.inl rfl)) rfl d26_18 ⟨rfl, rfl⟩ (by decide) (by decide)
theorem d26_17 : decode jdk_68_method_68_code 17 = .ok (.iconst 0, 1) := by decide +kernel
theorem ef_rmBL1 (m : MethodId) (x0 : Addr) : entryFrame m #[(.ref x0)] 1 = mkF m 0 #[.val (.ref x0)] [] := by first | (simp [entryFrame, mkF, argsToLocals, Value.category]; done) | rfl
set_option maxRecDepth 65536 in
set_option maxHeartbeats 40000000 in
theorem rmBL1 {kn : Prop} (l : Launch) (Z : State) (a0 : Array Value) (hw : ∀ d ∈ tables_1, d.before a0 Z = true) (hE : EW Z a0 own_EL) (ws : List Jvm.Cond) (r0 : Addr) (h0 : Heap) (n0 : Nat) (O0 : Old Z n0 h0) (F0 : Fld Z h0 r0 "java/lang/AbstractStringBuilder" "coder" "B" (.int 1)) (zc : Int32) (hzc : ¬ zc = 0) (S_compact : Sta Z Z.heap "java/lang/String" "COMPACT_STRINGS" "Z" (.int zc)) :
    Ctr kn l Z own_EL (⟨"java/lang/AbstractStringBuilder", "isLatin1", "()Z"⟩ : MethodName) jdk_68_method_68_code 1 (some .boolean) ws ({ frames := 0, cells := 0, slots := 0, locals := 0 } : Room) n0 ([]) #[(.ref r0)] h0 (Rt (fun w h g => w = .int 0 ∧ h0 = h)) := by
  refine Ctr.of (plainFor_of_name pn_java_lang_AbstractStringBuilder) hE (fun m => ef_rmBL1 m r0) ?_
  intro p e s m below meth c T0 X0
  have Z0 : Keep h0 h0 [] := Keep.refl _ _
  refine OwnW.getstatic X0 (n := 3) d26_0 (hw _ (List.mem_of_getElem? (i := 42) rfl)) Via.refl (S_compact.ext O0.2) rfl ?_
  intro T1 X1
  refine OwnW.if_eq X1  (n1 := 17) (n2 := 6) d26_3 (by decide) rfl rfl (fun q => absurd q (hzc : ¬ zc = 0)) (fun _ => ?_)
  refine OwnW.aloadN X1 (n := 7) d26_6 rfl rfl rfl ?_
  refine OwnW.getfield X1 (n := 10) d26_7 (hw _ (List.mem_of_getElem? (i := 45) rfl)) Via.refl F0 rfl ?_
  intro T2 X2
  refine OwnW.if_ne X2  (n1 := 17) (n2 := 13) d26_10 (by decide) rfl rfl (fun _ => ?_) (fun q => absurd q ((by decide) : ¬ (1 : Int32) = 0))
  refine OwnW.iconst X2 (z := (0 : Int32)) (n := 18) d26_17 rfl rfl ?_
  exact OwnW.ireturn X2 rfl (Or.inr (Or.inl rfl)) rfl d26_18 ⟨rfl, rfl⟩ (by decide) (by decide)
theorem d23_0 : decode jdk_68_method_64_code 0 = .ok (.aload_n 0, 1) := by decide +kernel
theorem d23_1 : decode jdk_68_method_64_code 1 = .ok (.getfield 15, 3) := by decide +kernel
theorem d23_4 : decode jdk_68_method_64_code 4 = .ok (.areturn, 1) := by decide +kernel
theorem ef_rm23 (m : MethodId) (x0 : Addr) : entryFrame m #[(.ref x0)] 1 = mkF m 0 #[.val (.ref x0)] [] := by first | (simp [entryFrame, mkF, argsToLocals, Value.category]; done) | rfl
set_option maxRecDepth 65536 in
set_option maxHeartbeats 40000000 in
theorem rm23 {kn : Prop} (l : Launch) (Z : State) (a0 : Array Value) (hw : ∀ d ∈ tables_1, d.before a0 Z = true) (hE : EW Z a0 own_EL) (ws : List Jvm.Cond) (r0 : Addr) (h0 : Heap) (n0 : Nat) (t : Addr) (F0 : Fld Z h0 r0 "java/lang/AbstractStringBuilder" "value" "[B" (.ref t)) :
    Ctr kn l Z own_EL (⟨"java/lang/AbstractStringBuilder", "getValue", "()[B"⟩ : MethodName) jdk_68_method_64_code 1 (some (.array .byte)) ws ({ frames := 0, cells := 0, slots := 0, locals := 0 } : Room) n0 ([]) #[(.ref r0)] h0 (Rt (fun w h g => w = .ref t ∧ h0 = h)) := by
  refine Ctr.of (plainFor_of_name pn_java_lang_AbstractStringBuilder) hE (fun m => ef_rm23 m r0) ?_
  intro p e s m below meth c T0 X0
  refine OwnW.aloadN X0 (n := 1) d23_0 rfl rfl rfl ?_
  refine OwnW.getfield X0 (n := 4) d23_1 (hw _ (List.mem_of_getElem? (i := 43) rfl)) Via.refl F0 rfl ?_
  intro T1 X1
  exact OwnW.areturn X1 rfl rfl rfl d23_4 ⟨rfl, rfl⟩ (by decide) (by decide)
theorem d25_0 : decode jdk_68_method_6_code 0 = .ok (.aload_n 0, 1) := by decide +kernel
theorem d25_1 : decode jdk_68_method_6_code 1 = .ok (.getfield 79, 3) := by decide +kernel
theorem d25_4 : decode jdk_68_method_6_code 4 = .ok (.ireturn, 1) := by decide +kernel
theorem ef_rm25 (m : MethodId) (x0 : Addr) : entryFrame m #[(.ref x0)] 1 = mkF m 0 #[.val (.ref x0)] [] := by first | (simp [entryFrame, mkF, argsToLocals, Value.category]; done) | rfl
set_option maxRecDepth 65536 in
set_option maxHeartbeats 40000000 in
theorem rm25 {kn : Prop} (l : Launch) (Z : State) (a0 : Array Value) (hw : ∀ d ∈ tables_1, d.before a0 Z = true) (hE : EW Z a0 own_EL) (ws : List Jvm.Cond) (r0 : Addr) (h0 : Heap) (n0 : Nat) (cn : Int32) (F0 : Fld Z h0 r0 "java/lang/AbstractStringBuilder" "count" "I" (.int cn)) :
    Ctr kn l Z own_EL (⟨"java/lang/AbstractStringBuilder", "length", "()I"⟩ : MethodName) jdk_68_method_6_code 1 (some .int) ws ({ frames := 0, cells := 0, slots := 0, locals := 0 } : Room) n0 ([]) #[(.ref r0)] h0 (Rt (fun w h g => w = .int cn ∧ h0 = h)) := by
  refine Ctr.of (plainFor_of_name pn_java_lang_AbstractStringBuilder) hE (fun m => ef_rm25 m r0) ?_
  intro p e s m below meth c T0 X0
  refine OwnW.aloadN X0 (n := 1) d25_0 rfl rfl rfl ?_
  refine OwnW.getfield X0 (n := 4) d25_1 (hw _ (List.mem_of_getElem? (i := 69) rfl)) Via.refl F0 rfl ?_
  intro T1 X1
  exact OwnW.ireturn X1 rfl (Or.inl rfl) rfl d25_4 ⟨rfl, rfl⟩ (by decide) (by decide)
theorem pd___I : parseMethodDescriptor "()I" = some ⟨[], some .int⟩ := by decide +kernel
theorem d24_0 : decode jdk_67_method_93_code 0 = .ok (.aload_n 0, 1) := by decide +kernel
theorem d24_1 : decode jdk_67_method_93_code 1 = .ok (.invokespecial 343, 3) := by decide +kernel
theorem d24_4 : decode jdk_67_method_93_code 4 = .ok (.ireturn, 1) := by decide +kernel
theorem ef_rm24 (m : MethodId) (x0 : Addr) : entryFrame m #[(.ref x0)] 1 = mkF m 0 #[.val (.ref x0)] [] := by first | (simp [entryFrame, mkF, argsToLocals, Value.category]; done) | rfl
set_option maxRecDepth 65536 in
set_option maxHeartbeats 40000000 in
theorem rm24 {kn : Prop} (l : Launch) (Z : State) (a0 : Array Value) (hw : ∀ d ∈ tables_1, d.before a0 Z = true) (hE : EW Z a0 own_EL) (ws : List Jvm.Cond) (r0 : Addr) (h0 : Heap) (n0 : Nat) (cn : Int32) (E0 : Exa Z h0 r0 "java/lang/StringBuilder") (F0 : Fld Z h0 r0 "java/lang/AbstractStringBuilder" "count" "I" (.int cn)) :
    Ctr kn l Z own_EL (⟨"java/lang/StringBuilder", "length", "()I"⟩ : MethodName) jdk_67_method_93_code 1 (some .int) ws ({ frames := 1, cells := 0, slots := 0, locals := 12 } : Room) n0 ([]) #[(.ref r0)] h0 (Rt (fun w h g => w = .int cn ∧ h0 = h)) := by
  refine Ctr.of (plainFor_of_name pn_java_lang_StringBuilder) hE (fun m => ef_rm24 m r0) ?_
  intro p e s m below meth c T0 X0
  refine OwnW.aloadN X0 (n := 1) d24_0 rfl rfl rfl ?_
  refine OwnW.call_super_v X0 (z := (⟨"java/lang/AbstractStringBuilder", "length", "()I"⟩ : MethodName)) (a := r0) (C := "java/lang/StringBuilder") (n := 4) d24_1 (hw _ (List.mem_of_getElem? (i := 142) rfl)) (OwnW.sameOf (u := (⟨"java/lang/AbstractStringBuilder", "getValue", "()[B"⟩ : MethodName)) (hw _ (List.mem_of_getElem? (i := 138) rfl)) (hw _ (List.mem_of_getElem? (i := 134) rfl)) rfl (hw _ (List.mem_of_getElem? (i := 133) rfl)) (by decide)) (hw _ (List.mem_of_getElem? (i := 138) rfl)) (hw _ (List.mem_of_getElem? (i := 55) rfl)) (hw _ (List.mem_of_getElem? (i := 143) rfl)) (hw _ (List.mem_of_getElem? (i := 39) rfl)) (by decide) E0 (rm25 l Z a0 hw hE [] r0 h0 n0 cn F0) OwnW.sf0 (argsL := []) (rest := []) rfl rfl (OwnW.lenA pd___I rfl) (W := 0) (Nat.le_of_eq rfl) (by decide) (by decide) (by decide) (by decide) rfl ?_
  intro T1 h1 w1 g1 hle1 X1 ⟨q1, q2⟩
  subst q1 q2
  exact OwnW.ireturn X1 rfl (Or.inl rfl) rfl d24_4 ⟨rfl, rfl⟩ (by decide) (by decide)
theorem d59_0 : decode jdk_41_method_13_code 0 = .ok (.iload_n 2, 1) := by decide +kernel
theorem d59_1 : decode jdk_41_method_13_code 1 = .ok (.iload_n 0, 1) := by decide +kernel
theorem d59_2 : decode jdk_41_method_13_code 2 = .ok (.ior, 1) := by decide +kernel
theorem d59_3 : decode jdk_41_method_13_code 3 = .ok (.iload_n 1, 1) := by decide +kernel
theorem d59_4 : decode jdk_41_method_13_code 4 = .ok (.ior, 1) := by decide +kernel
theorem d59_5 : decode jdk_41_method_13_code 5 = .ok (.ifCond .lt 10, 3) := by decide +kernel
theorem d59_8 : decode jdk_41_method_13_code 8 = .ok (.iload_n 1, 1) := by decide +kernel
theorem d59_9 : decode jdk_41_method_13_code 9 = .ok (.iload_n 2, 1) := by decide +kernel
theorem d59_10 : decode jdk_41_method_13_code 10 = .ok (.iload_n 0, 1) := by decide +kernel
theorem d59_11 : decode jdk_41_method_13_code 11 = .ok (.isub, 1) := by decide +kernel
theorem d59_12 : decode jdk_41_method_13_code 12 = .ok (.if_icmp .le 11, 3) := by decide +kernel
theorem d59_23 : decode jdk_41_method_13_code 23 = .ok (.iload_n 0, 1) := by decide +kernel
theorem d59_24 : decode jdk_41_method_13_code 24 = .ok (.ireturn, 1) := by decide +kernel
theorem ef_rmFSn (m : MethodId) (x1 : Int32) (x2 : Int32) : entryFrame m #[(.int (0 : Int32)), (.int x1), (.int x2), .null] 4 = mkF m 0 #[.val (.int (0 : Int32)), .val (.int x1), .val (.int x2), .val .null] [] := by first | (simp [entryFrame, mkF, argsToLocals, Value.category]; done) | rfl
set_option maxRecDepth 65536 in
set_option maxHeartbeats 40000000 in
theorem rmFSn {kn : Prop} (l : Launch) (Z : State) (a0 : Array Value) (hw : ∀ d ∈ tables_1, d.before a0 Z = true) (hE : EW Z a0 own_EL) (ws : List Jvm.Cond)  (h0 : Heap) (n0 : Nat) (nk mm : Nat) (hnk : nk ≤ mm) (hmm : mm ≤ 80) :
    Ctr kn l Z own_EL (⟨"jdk/internal/util/Preconditions", "checkFromIndexSize", "(IIILjava/util/function/BiFunction;)I"⟩ : MethodName) jdk_41_method_13_code 4 (some .int) ws ({ frames := 0, cells := 0, slots := 0, locals := 0 } : Room) n0 ([]) #[(.int (0 : Int32)), (.int (Int32.ofNat nk)), (.int (Int32.ofNat mm)), .null] h0 (Rt (fun w h g => w = .int 0 ∧ h0 = h)) := by
  refine Ctr.of (plainFor_of_name pn_jdk_internal_util_Preconditions) hE (fun m => ef_rmFSn m (Int32.ofNat nk) (Int32.ofNat mm)) ?_
  intro p e s m below meth c T0 X0
  refine OwnW.iloadN X0 (n := 1) d59_0 rfl rfl ?_
  refine OwnW.iloadN X0 (n := 2) d59_1 rfl rfl ?_
  refine OwnW.ior X0 (n := 3) d59_2 rfl ?_
  refine OwnW.iloadN X0 (n := 4) d59_3 rfl rfl ?_
  refine OwnW.ior X0 (n := 5) d59_4 rfl ?_
  refine OwnW.if_lt X0  (n1 := 15) (n2 := 8) d59_5 (by decide) rfl rfl (fun q => absurd q ((own_or0 (own_or0 (fun q => by have z := (own_lt (i := mm) (n := 0) (by omega) (by omega)).mp q; omega) (by decide)) (fun q => by have z := (own_lt (i := nk) (n := 0) (by omega) (by omega)).mp q; omega)) : ¬ (((Int32.ofNat mm) ||| (0 : Int32)) ||| (Int32.ofNat nk)) < 0)) (fun _ => ?_)
  refine OwnW.iloadN X0 (n := 9) d59_8 rfl rfl ?_
  refine OwnW.iloadN X0 (n := 10) d59_9 rfl rfl ?_
  refine OwnW.iloadN X0 (n := 11) d59_10 rfl rfl ?_
  refine OwnW.isub X0 (n := 12) d59_11 rfl ?_
  rw [show (((Int32.ofNat mm) - (0 : Int32)) : Int32) = (Int32.ofNat (mm - 0)) from own_sub mm 0 (by omega) (by omega)]
  refine OwnW.ic_le X0  (n1 := 23) (n2 := 15) d59_12 (by decide) rfl rfl (fun _ => ?_) (fun q => absurd q ((fun q => by have z := (own_lt (i := (mm - 0)) (n := nk) (by omega) (by omega)).mp q; omega) : ¬ (Int32.ofNat (mm - 0)) < (Int32.ofNat nk)))
  refine OwnW.iloadN X0 (n := 24) d59_23 rfl rfl ?_
  exact OwnW.ireturn X0 rfl (Or.inl rfl) rfl d59_24 ⟨rfl, rfl⟩ (by decide) (by decide)
theorem ef_rmFSr (m : MethodId) (x1 : Int32) (x2 : Int32) (x3 : Addr) : entryFrame m #[(.int (0 : Int32)), (.int x1), (.int x2), (.ref x3)] 4 = mkF m 0 #[.val (.int (0 : Int32)), .val (.int x1), .val (.int x2), .val (.ref x3)] [] := by first | (simp [entryFrame, mkF, argsToLocals, Value.category]; done) | rfl
set_option maxRecDepth 65536 in
set_option maxHeartbeats 40000000 in
theorem rmFSr {kn : Prop} (l : Launch) (Z : State) (a0 : Array Value) (hw : ∀ d ∈ tables_1, d.before a0 Z = true) (hE : EW Z a0 own_EL) (ws : List Jvm.Cond) (r3 : Addr) (h0 : Heap) (n0 : Nat) (nk mm : Nat) (hnk : nk ≤ mm) (hmm : mm ≤ 80) :
    Ctr kn l Z own_EL (⟨"jdk/internal/util/Preconditions", "checkFromIndexSize", "(IIILjava/util/function/BiFunction;)I"⟩ : MethodName) jdk_41_method_13_code 4 (some .int) ws ({ frames := 0, cells := 0, slots := 0, locals := 0 } : Room) n0 ([]) #[(.int (0 : Int32)), (.int (Int32.ofNat nk)), (.int (Int32.ofNat mm)), (.ref r3)] h0 (Rt (fun w h g => w = .int 0 ∧ h0 = h)) := by
  refine Ctr.of (plainFor_of_name pn_jdk_internal_util_Preconditions) hE (fun m => ef_rmFSr m (Int32.ofNat nk) (Int32.ofNat mm) r3) ?_
  intro p e s m below meth c T0 X0
  refine OwnW.iloadN X0 (n := 1) d59_0 rfl rfl ?_
  refine OwnW.iloadN X0 (n := 2) d59_1 rfl rfl ?_
  refine OwnW.ior X0 (n := 3) d59_2 rfl ?_
  refine OwnW.iloadN X0 (n := 4) d59_3 rfl rfl ?_
  refine OwnW.ior X0 (n := 5) d59_4 rfl ?_
  refine OwnW.if_lt X0  (n1 := 15) (n2 := 8) d59_5 (by decide) rfl rfl (fun q => absurd q ((own_or0 (own_or0 (fun q => by have z := (own_lt (i := mm) (n := 0) (by omega) (by omega)).mp q; omega) (by decide)) (fun q => by have z := (own_lt (i := nk) (n := 0) (by omega) (by omega)).mp q; omega)) : ¬ (((Int32.ofNat mm) ||| (0 : Int32)) ||| (Int32.ofNat nk)) < 0)) (fun _ => ?_)
  refine OwnW.iloadN X0 (n := 9) d59_8 rfl rfl ?_
  refine OwnW.iloadN X0 (n := 10) d59_9 rfl rfl ?_
  refine OwnW.iloadN X0 (n := 11) d59_10 rfl rfl ?_
  refine OwnW.isub X0 (n := 12) d59_11 rfl ?_
  rw [show (((Int32.ofNat mm) - (0 : Int32)) : Int32) = (Int32.ofNat (mm - 0)) from own_sub mm 0 (by omega) (by omega)]
  refine OwnW.ic_le X0  (n1 := 23) (n2 := 15) d59_12 (by decide) rfl rfl (fun _ => ?_) (fun q => absurd q ((fun q => by have z := (own_lt (i := (mm - 0)) (n := nk) (by omega) (by omega)).mp q; omega) : ¬ (Int32.ofNat (mm - 0)) < (Int32.ofNat nk)))
  refine OwnW.iloadN X0 (n := 24) d59_23 rfl rfl ?_
  exact OwnW.ireturn X0 rfl (Or.inl rfl) rfl d59_24 ⟨rfl, rfl⟩ (by decide) (by decide)
theorem pd__IIILjava_util_function_BiFunction__I : parseMethodDescriptor "(IIILjava/util/function/BiFunction;)I" = some ⟨[.int, .int, .int, (.object "java/util/function/BiFunction")], some .int⟩ := by decide +kernel
theorem d58_0 : decode jdk_42_method_157_code 0 = .ok (.iload_n 0, 1) := by decide +kernel
theorem d58_1 : decode jdk_42_method_157_code 1 = .ok (.iload_n 1, 1) := by decide +kernel
theorem d58_2 : decode jdk_42_method_157_code 2 = .ok (.iload_n 2, 1) := by decide +kernel
theorem d58_3 : decode jdk_42_method_157_code 3 = .ok (.getstatic 1053, 3) := by decide +kernel
theorem d58_6 : decode jdk_42_method_157_code 6 = .ok (.invokestatic 1065, 3) := by decide +kernel
theorem d58_9 : decode jdk_42_method_157_code 9 = .ok (.ireturn, 1) := by decide +kernel
theorem ef_rmBOn (m : MethodId) (x1 : Int32) (x2 : Int32) : entryFrame m #[(.int (0 : Int32)), (.int x1), (.int x2)] 3 = mkF m 0 #[.val (.int (0 : Int32)), .val (.int x1), .val (.int x2)] [] := by first | (simp [entryFrame, mkF, argsToLocals, Value.category]; done) | rfl
set_option maxRecDepth 65536 in
set_option maxHeartbeats 40000000 in
theorem rmBOn {kn : Prop} (l : Launch) (Z : State) (a0 : Array Value) (hw : ∀ d ∈ tables_1, d.before a0 Z = true) (hE : EW Z a0 own_EL) (ws : List Jvm.Cond)  (h0 : Heap) (n0 : Nat) (O0 : Old Z n0 h0) (nk mm : Nat) (hnk : nk ≤ mm) (hmm : mm ≤ 80) (S_fm : Sta Z Z.heap "jdk/internal/util/Preconditions" "SIOOBE_FORMATTER" "Ljava/util/function/BiFunction;" .null) :
    Ctr kn l Z own_EL (⟨"java/lang/String", "checkBoundsOffCount", "(III)I"⟩ : MethodName) jdk_42_method_157_code 3 (some .int) ws ({ frames := 1, cells := 0, slots := 0, locals := 15 } : Room) n0 ([]) #[(.int (0 : Int32)), (.int (Int32.ofNat nk)), (.int (Int32.ofNat mm))] h0 (Rt (fun w h g => w = .int 0 ∧ h0 = h)) := by
  refine Ctr.of (plainFor_of_name pn_java_lang_String) hE (fun m => ef_rmBOn m (Int32.ofNat nk) (Int32.ofNat mm)) ?_
  intro p e s m below meth c T0 X0
  have Z0 : Keep h0 h0 [] := Keep.refl _ _
  refine OwnW.iloadN X0 (n := 1) d58_0 rfl rfl ?_
  refine OwnW.iloadN X0 (n := 2) d58_1 rfl rfl ?_
  refine OwnW.iloadN X0 (n := 3) d58_2 rfl rfl ?_
  refine OwnW.getstatic X0 (n := 6) d58_3 (hw _ (List.mem_of_getElem? (i := 254) rfl)) Via.refl (S_fm.ext O0.2) rfl ?_
  intro T1 X1
  refine OwnW.call_static_v X1 (z := (⟨"jdk/internal/util/Preconditions", "checkFromIndexSize", "(IIILjava/util/function/BiFunction;)I"⟩ : MethodName)) (n := 9) d58_6 (hw _ (List.mem_of_getElem? (i := 323) rfl)) (hw _ (List.mem_of_getElem? (i := 324) rfl)) (hw _ (List.mem_of_getElem? (i := 325) rfl)) (hw _ (List.mem_of_getElem? (i := 255) rfl)) (by decide) (rmFSn l Z a0 hw hE [] h0 n0 nk mm hnk hmm) OwnW.sf0 (argsL := [(.int (0 : Int32)), (.int (Int32.ofNat nk)), (.int (Int32.ofNat mm)), .null]) (rest := []) rfl rfl (OwnW.lenA pd__IIILjava_util_function_BiFunction__I rfl) (W := 0) (Nat.le_of_eq rfl) (by decide) (by decide) (by decide) (by decide) rfl ?_
  intro T2 h2 w2 g2 hle2 X2 ⟨q1, q2⟩
  subst q1 q2
  exact OwnW.ireturn X2 rfl (Or.inl rfl) rfl d58_9 ⟨rfl, rfl⟩ (by decide) (by decide)
theorem ef_rmBOr (m : MethodId) (x1 : Int32) (x2 : Int32) : entryFrame m #[(.int (0 : Int32)), (.int x1), (.int x2)] 3 = mkF m 0 #[.val (.int (0 : Int32)), .val (.int x1), .val (.int x2)] [] := by first | (simp [entryFrame, mkF, argsToLocals, Value.category]; done) | rfl
set_option maxRecDepth 65536 in
set_option maxHeartbeats 40000000 in
theorem rmBOr {kn : Prop} (l : Launch) (Z : State) (a0 : Array Value) (hw : ∀ d ∈ tables_1, d.before a0 Z = true) (hE : EW Z a0 own_EL) (ws : List Jvm.Cond)  (h0 : Heap) (n0 : Nat) (O0 : Old Z n0 h0) (f : Addr) (nk mm : Nat) (hnk : nk ≤ mm) (hmm : mm ≤ 80) (S_fm : Sta Z Z.heap "jdk/internal/util/Preconditions" "SIOOBE_FORMATTER" "Ljava/util/function/BiFunction;" (.ref f)) :
    Ctr kn l Z own_EL (⟨"java/lang/String", "checkBoundsOffCount", "(III)I"⟩ : MethodName) jdk_42_method_157_code 3 (some .int) ws ({ frames := 1, cells := 0, slots := 0, locals := 15 } : Room) n0 ([]) #[(.int (0 : Int32)), (.int (Int32.ofNat nk)), (.int (Int32.ofNat mm))] h0 (Rt (fun w h g => w = .int 0 ∧ h0 = h)) := by
  refine Ctr.of (plainFor_of_name pn_java_lang_String) hE (fun m => ef_rmBOr m (Int32.ofNat nk) (Int32.ofNat mm)) ?_
  intro p e s m below meth c T0 X0
  have Z0 : Keep h0 h0 [] := Keep.refl _ _
  refine OwnW.iloadN X0 (n := 1) d58_0 rfl rfl ?_
  refine OwnW.iloadN X0 (n := 2) d58_1 rfl rfl ?_
  refine OwnW.iloadN X0 (n := 3) d58_2 rfl rfl ?_
  refine OwnW.getstatic X0 (n := 6) d58_3 (hw _ (List.mem_of_getElem? (i := 254) rfl)) Via.refl (S_fm.ext O0.2) rfl ?_
  intro T1 X1
  refine OwnW.call_static_v X1 (z := (⟨"jdk/internal/util/Preconditions", "checkFromIndexSize", "(IIILjava/util/function/BiFunction;)I"⟩ : MethodName)) (n := 9) d58_6 (hw _ (List.mem_of_getElem? (i := 323) rfl)) (hw _ (List.mem_of_getElem? (i := 324) rfl)) (hw _ (List.mem_of_getElem? (i := 325) rfl)) (hw _ (List.mem_of_getElem? (i := 255) rfl)) (by decide) (rmFSr l Z a0 hw hE [] f h0 n0 nk mm hnk hmm) OwnW.sf0 (argsL := [(.int (0 : Int32)), (.int (Int32.ofNat nk)), (.int (Int32.ofNat mm)), (.ref f)]) (rest := []) rfl rfl (OwnW.lenA pd__IIILjava_util_function_BiFunction__I rfl) (W := 0) (Nat.le_of_eq rfl) (by decide) (by decide) (by decide) (by decide) rfl ?_
  intro T2 h2 w2 g2 hle2 X2 ⟨q1, q2⟩
  subst q1 q2
  exact OwnW.ireturn X2 rfl (Or.inl rfl) rfl d58_9 ⟨rfl, rfl⟩ (by decide) (by decide)
theorem rmBO {kn : Prop} (l : Launch) (Z : State) (a0 : Array Value) (hw : ∀ d ∈ tables_1, d.before a0 Z = true) (hE : EW Z a0 own_EL) (ws : List Jvm.Cond) (h0 : Heap) (n0 : Nat) (O0 : Old Z n0 h0) (nk mm : Nat) (hnk : nk ≤ mm) (hmm : mm ≤ 80) (fm : Value) (hfm : fm = .null ∨ ∃ r, fm = .ref r) (S_fm : Sta Z Z.heap "jdk/internal/util/Preconditions" "SIOOBE_FORMATTER" "Ljava/util/function/BiFunction;" fm) : Ctr kn l Z own_EL (⟨"java/lang/String", "checkBoundsOffCount", "(III)I"⟩ : MethodName) jdk_42_method_157_code 3 (some .int) ws ({ frames := 1, cells := 0, slots := 0, locals := 15 } : Room) n0 [] #[(.int 0), (.int (Int32.ofNat nk)), (.int (Int32.ofNat mm))] h0 (Rt (fun w h g => w = .int 0 ∧ h0 = h)) := by
  rcases hfm with rfl | ⟨f, rfl⟩
  · exact rmBOn l Z a0 hw hE ws h0 n0 O0 nk mm hnk hmm S_fm
  · exact rmBOr l Z a0 hw hE ws h0 n0 O0 f nk mm hnk hmm S_fm
theorem d56_0 : decode jdk_52_method_94_code 0 = .ok (.iload_n 0, 1) := by decide +kernel
theorem d56_1 : decode jdk_52_method_94_code 1 = .ok (.iload_n 1, 1) := by decide +kernel
theorem d56_2 : decode jdk_52_method_94_code 2 = .ok (.aload_n 2, 1) := by decide +kernel
theorem d56_3 : decode jdk_52_method_94_code 3 = .ok (.invokestatic 48, 3) := by decide +kernel
theorem d56_6 : decode jdk_52_method_94_code 6 = .ok (.invokestatic 419, 3) := by decide +kernel
theorem d56_9 : decode jdk_52_method_94_code 9 = .ok (.pop, 1) := by decide +kernel
theorem d56_10 : decode jdk_52_method_94_code 10 = .ok (.return_, 1) := by decide +kernel
theorem ef_rm56 (m : MethodId) (x1 : Int32) (x2 : Addr) : entryFrame m #[(.int (0 : Int32)), (.int x1), (.ref x2)] 3 = mkF m 0 #[.val (.int (0 : Int32)), .val (.int x1), .val (.ref x2)] [] := by first | (simp [entryFrame, mkF, argsToLocals, Value.category]; done) | rfl
set_option maxRecDepth 65536 in
set_option maxHeartbeats 40000000 in
theorem rm56 {kn : Prop} (l : Launch) (Z : State) (a0 : Array Value) (hw : ∀ d ∈ tables_1, d.before a0 Z = true) (hE : EW Z a0 own_EL) (ws : List Jvm.Cond) (r2 : Addr) (h0 : Heap) (n0 : Nat) (O0 : Old Z n0 h0) (nk mm : Nat) (hnk : nk ≤ mm) (hmm : mm ≤ 80) (vs : List Value) (hv : vs.length = 2 * mm) (A2 : Ark Z h0 r2 .byte vs) (fm : Value) (hfm : fm = .null ∨ ∃ r, fm = .ref r) (S_fm : Sta Z Z.heap "jdk/internal/util/Preconditions" "SIOOBE_FORMATTER" "Ljava/util/function/BiFunction;" fm) :
    Ctr kn l Z own_EL (⟨"java/lang/StringUTF16", "checkBoundsOffCount", "(II[B)V"⟩ : MethodName) jdk_52_method_94_code 3 none ws ({ frames := 2, cells := 0, slots := 0, locals := 29 } : Room) n0 ([]) #[(.int (0 : Int32)), (.int (Int32.ofNat nk)), (.ref r2)] h0 (Rn (fun h g => h0 = h)) := by
  refine Ctr.of (plainFor_of_name pn_java_lang_StringUTF16) hE (fun m => ef_rm56 m (Int32.ofNat nk) r2) ?_
  intro p e s m below meth c T0 X0
  have Z0 : Keep h0 h0 [] := Keep.refl _ _
  refine OwnW.iloadN X0 (n := 1) d56_0 rfl rfl ?_
  refine OwnW.iloadN X0 (n := 2) d56_1 rfl rfl ?_
  refine OwnW.aloadN X0 (n := 3) d56_2 rfl rfl rfl ?_
  refine OwnW.call_static_v X0 (z := (⟨"java/lang/StringUTF16", "length", "([B)I"⟩ : MethodName)) (n := 6) d56_3 (hw _ (List.mem_of_getElem? (i := 317) rfl)) (hw _ (List.mem_of_getElem? (i := 318) rfl)) (hw _ (List.mem_of_getElem? (i := 319) rfl)) (hw _ (List.mem_of_getElem? (i := 268) rfl)) (by decide) (rm57 l Z a0 hw hE [] r2 h0 n0 vs mm hv (by omega) A2) OwnW.sf0 (argsL := [(.ref r2)]) (rest := [(.int (Int32.ofNat nk)), (.int (0 : Int32))]) rfl rfl (OwnW.lenA pd___B_I rfl) (W := 2) (Nat.le_of_eq rfl) (by decide) (by decide) (by decide) (by decide) rfl ?_
  intro T1 h1 w1 g1 hle1 X1 ⟨q1, q2⟩
  subst q1 q2
  refine OwnW.call_static_v X1 (z := (⟨"java/lang/String", "checkBoundsOffCount", "(III)I"⟩ : MethodName)) (n := 9) d56_6 (hw _ (List.mem_of_getElem? (i := 320) rfl)) (hw _ (List.mem_of_getElem? (i := 321) rfl)) (hw _ (List.mem_of_getElem? (i := 322) rfl)) (hw _ (List.mem_of_getElem? (i := 3) rfl)) (by decide) (rmBO l Z a0 hw hE [] h0 n0 O0 nk mm hnk hmm fm hfm S_fm) OwnW.sf0 (argsL := [(.int (0 : Int32)), (.int (Int32.ofNat nk)), (.int (Int32.ofNat mm))]) (rest := []) rfl rfl (OwnW.lenA pd__III_I rfl) (W := 0) (Nat.le_of_eq rfl) (by decide) (by decide) (by decide) (by decide) rfl ?_
  intro T2 h2 w2 g2 hle2 X2 ⟨q1, q2⟩
  subst q1 q2
  refine OwnW.pop X2 (n := 10) d56_9 rfl rfl ?_
  exact OwnW.vreturn X2 rfl d56_10 rfl (by decide) (by decide)
theorem pd__II_B_V : parseMethodDescriptor "(II[B)V" = some ⟨[.int, .int, (.array .byte)], none⟩ := by decide +kernel
theorem d55_0 : decode jdk_52_method_86_code 0 = .ok (.iload_n 3, 1) := by decide +kernel
theorem d55_1 : decode jdk_52_method_86_code 1 = .ok (.iload 4, 2) := by decide +kernel
theorem d55_3 : decode jdk_52_method_86_code 3 = .ok (.aload_n 2, 1) := by decide +kernel
theorem d55_4 : decode jdk_52_method_86_code 4 = .ok (.invokestatic 173, 3) := by decide +kernel
theorem d55_7 : decode jdk_52_method_86_code 7 = .ok (.iconst 0, 1) := by decide +kernel
theorem d55_8 : decode jdk_52_method_86_code 8 = .ok (.istore 5, 2) := by decide +kernel
theorem d55_10 : decode jdk_52_method_86_code 10 = .ok (.iload 5, 2) := by decide +kernel
theorem d55_12 : decode jdk_52_method_86_code 12 = .ok (.iload 4, 2) := by decide +kernel
theorem d55_14 : decode jdk_52_method_86_code 14 = .ok (.if_icmp .ge 27, 3) := by decide +kernel
theorem d55_17 : decode jdk_52_method_86_code 17 = .ok (.aload_n 2, 1) := by decide +kernel
theorem d55_18 : decode jdk_52_method_86_code 18 = .ok (.iload_n 3, 1) := by decide +kernel
theorem d55_19 : decode jdk_52_method_86_code 19 = .ok (.iinc 3 1, 3) := by decide +kernel
theorem d55_22 : decode jdk_52_method_86_code 22 = .ok (.aload_n 0, 1) := by decide +kernel
theorem d55_23 : decode jdk_52_method_86_code 23 = .ok (.iload_n 1, 1) := by decide +kernel
theorem d55_24 : decode jdk_52_method_86_code 24 = .ok (.iinc 1 1, 3) := by decide +kernel
theorem d55_27 : decode jdk_52_method_86_code 27 = .ok (.baload, 1) := by decide +kernel
theorem d55_28 : decode jdk_52_method_86_code 28 = .ok (.sipush 255, 3) := by decide +kernel
theorem d55_31 : decode jdk_52_method_86_code 31 = .ok (.iand, 1) := by decide +kernel
theorem d55_32 : decode jdk_52_method_86_code 32 = .ok (.invokestatic 111, 3) := by decide +kernel
theorem d55_35 : decode jdk_52_method_86_code 35 = .ok (.iinc 5 1, 3) := by decide +kernel
theorem d55_38 : decode jdk_52_method_86_code 38 = .ok (.goto (-28), 3) := by decide +kernel
theorem d55_41 : decode jdk_52_method_86_code 41 = .ok (.return_, 1) := by decide +kernel
theorem ef_rm55 (m : MethodId) (x0 : Addr) (x2 : Addr) (x4 : Int32) : entryFrame m #[(.ref x0), (.int (0 : Int32)), (.ref x2), (.int (0 : Int32)), (.int x4)] 6 = mkF m 0 #[.val (.ref x0), .val (.int (0 : Int32)), .val (.ref x2), .val (.int (0 : Int32)), .val (.int x4), .unset] [] := by first | (simp [entryFrame, mkF, argsToLocals, Value.category]; done) | rfl
set_option maxRecDepth 65536 in
set_option maxHeartbeats 40000000 in
theorem rm55 {kn : Prop} (l : Launch) (Z : State) (a0 : Array Value) (hw : ∀ d ∈ tables_1, d.before a0 Z = true) (hE : EW Z a0 own_EL) (ws : List Jvm.Cond) (r0 : Addr) (r2 : Addr) (h0 : Heap) (n0 : Nat) (O0 : Old Z n0 h0) (ks : List Nat) (rv : List Value) (mm : Nat) (hkm : ks.length ≤ mm) (hmm : mm ≤ 80) (hks : ∀ u ∈ ks, u ≤ 255) (A0 : Ark Z h0 r0 .byte (own_lb ks ++ rv)) (A2 : Ark Z h0 r2 .byte (List.replicate (2 * mm) (Value.int 0))) (ge_r2 : n0 ≤ r2) (ne02 : r0 ≠ r2) (fm : Value) (hfm : fm = .null ∨ ∃ r, fm = .ref r) (S_fm : Sta Z Z.heap "jdk/internal/util/Preconditions" "SIOOBE_FORMATTER" "Ljava/util/function/BiFunction;" fm) (S_ad : Sta Z Z.heap "java/lang/StringUTF16" "$assertionsDisabled" "Z" (.int 1)) (S_hi : Sta Z Z.heap "java/lang/StringUTF16" "HI_BYTE_SHIFT" "I" (.int 0)) (S_lo : Sta Z Z.heap "java/lang/StringUTF16" "LO_BYTE_SHIFT" "I" (.int 8)) :
    Ctr kn l Z own_EL (⟨"java/lang/StringUTF16", "inflate", "([BI[BII)V"⟩ : MethodName) jdk_52_method_86_code 6 none ws ({ frames := 3, cells := 0, slots := 0, locals := 43 } : Room) n0 (r2 :: []) #[(.ref r0), (.int (0 : Int32)), (.ref r2), (.int (0 : Int32)), (.int (Int32.ofNat ks.length))] h0 (Rn (fun h g => Keep h0 h [r2] ∧ Ark Z h r2 .byte (own_ub ks ++ List.replicate (2 * (mm - ks.length)) (Value.int 0)))) := by
  refine Ctr.of (plainFor_of_name pn_java_lang_StringUTF16) hE (fun m => ef_rm55 m r0 r2 (Int32.ofNat ks.length)) ?_
  intro p e s m below meth c T0 X0
  have Z0 : Keep h0 h0 [r2] := Keep.refl _ _
  refine OwnW.iloadN X0 (n := 1) d55_0 rfl rfl ?_
  refine OwnW.iload X0 (n := 3) d55_1 rfl rfl ?_
  refine OwnW.aloadN X0 (n := 4) d55_3 rfl rfl rfl ?_
  refine OwnW.call_static_n X0 (z := (⟨"java/lang/StringUTF16", "checkBoundsOffCount", "(II[B)V"⟩ : MethodName)) (n := 7) d55_4 (hw _ (List.mem_of_getElem? (i := 314) rfl)) (hw _ (List.mem_of_getElem? (i := 315) rfl)) (hw _ (List.mem_of_getElem? (i := 316) rfl)) (hw _ (List.mem_of_getElem? (i := 268) rfl)) (by decide) (rm56 l Z a0 hw hE [] r2 h0 n0 O0 ks.length mm hkm hmm _ (List.length_replicate ..) A2 fm hfm S_fm) OwnW.sf0 (argsL := [(.int (0 : Int32)), (.int (Int32.ofNat ks.length)), (.ref r2)]) (rest := []) rfl rfl (OwnW.lenA pd__II_B_V rfl) (W := 0) (Nat.le_of_eq rfl) (by decide) (by decide) (by decide) (by decide) rfl ?_
  intro T1 h1 g1 hle1 X1 q2
  subst q2
  refine OwnW.iconst X1 (z := (0 : Int32)) (n := 8) d55_7 rfl rfl ?_
  refine OwnW.istore X1 (l' := #[.val (.ref r0), .val (.int (0 : Int32)), .val (.ref r2), .val (.int (0 : Int32)), .val (.int (Int32.ofNat ks.length)), .val (.int (0 : Int32))]) (n := 10) d55_8 rfl rfl ?_
  refine OwnW.loopT X1 (fun (v : Nat) h' => v ≤ ks.length ∧ Keep h0 h' [r2] ∧ Ark Z h' r2 .byte (own_ub (ks.take v) ++ List.replicate (2 * (mm - v)) (Value.int 0))) (fun v => ks.length - v) (fun v => mkF m 10 #[.val (.ref r0), .val (.int (Int32.ofNat v)), .val (.ref r2), .val (.int (Int32.ofNat v)), .val (.int (Int32.ofNat ks.length)), .val (.int (Int32.ofNat v))] []) ?_ _ _ 0 X1 ⟨Nat.zero_le _, Z0, by simpa [own_ub] using A2⟩
  intro TL hL i XL ⟨hi, KL, AL⟩ IH
  dsimp only at hi KL AL IH ⊢
  have OL := O0.keep KL (allS ge_r2 all0)
  refine OwnW.iload XL (n := 12) d55_10 rfl rfl ?_
  refine OwnW.iload XL (n := 14) d55_12 rfl rfl ?_
  refine OwnW.ic_ge XL  (n1 := 41) (n2 := 17) d55_14 (by decide) rfl rfl (fun hc14 => ?_) (fun hc14 => ?_)
  · have kk2 : ¬ i < ks.length := fun q => hc14 ((own_lt (i := i) (n := ks.length) (by omega) (by omega)).mpr q)
    exact OwnW.vreturn XL rfl d55_41 ⟨KL, by have e : i = ks.length := (by omega); subst e; simpa using AL⟩ (by decide) (by decide)
  · have kk3 : i < ks.length := (own_lt (i := i) (n := ks.length) (by omega) (by omega)).mp hc14
    refine OwnW.aloadN XL (n := 18) d55_17 rfl rfl rfl ?_
    refine OwnW.iloadN XL (n := 19) d55_18 rfl rfl ?_
    refine OwnW.iinc XL (z := (1 : Int32)) (u := ((Int32.ofNat i) + (1 : Int32))) (l' := #[.val (.ref r0), .val (.int (Int32.ofNat i)), .val (.ref r2), .val (.int ((Int32.ofNat i) + (1 : Int32))), .val (.int (Int32.ofNat ks.length)), .val (.int (Int32.ofNat i))]) (n := 22) d55_19 rfl rfl rfl rfl rfl ?_
    rw [show (((Int32.ofNat i) + (1 : Int32)) : Int32) = (Int32.ofNat (i + 1)) from own_add i 1]
    refine OwnW.aloadN XL (n := 23) d55_22 rfl rfl rfl ?_
    refine OwnW.iloadN XL (n := 24) d55_23 rfl rfl ?_
    refine OwnW.iinc XL (z := (1 : Int32)) (u := ((Int32.ofNat i) + (1 : Int32))) (l' := #[.val (.ref r0), .val (.int ((Int32.ofNat i) + (1 : Int32))), .val (.ref r2), .val (.int (Int32.ofNat (i + 1))), .val (.int (Int32.ofNat ks.length)), .val (.int (Int32.ofNat i))]) (n := 27) d55_24 rfl rfl rfl rfl rfl ?_
    rw [show (((Int32.ofNat i) + (1 : Int32)) : Int32) = (Int32.ofNat (i + 1)) from own_add i 1]
    refine OwnW.baload XL (i := i) (v := (.int (lo8 (Int32.ofNat (ks.getD i 0))))) (n := 28) d55_27 (A0.keep KL (OwnW.nin1 ne02)) (own_nat (i := i) (by omega)) (own_lbget ks rv (by omega)) rfl ?_
    refine OwnW.sipush XL (z := (255 : Int32)) (n := 31) d55_28 rfl rfl ?_
    refine OwnW.iand XL (n := 32) d55_31 rfl ?_
    rw [own_and255 (hks _ (own_memU ks (by omega)))]
    refine OwnW.call_static_n XL (z := (⟨"java/lang/StringUTF16", "putChar", "([BII)V"⟩ : MethodName)) (n := 35) d55_32 (hw _ (List.mem_of_getElem? (i := 292) rfl)) (hw _ (List.mem_of_getElem? (i := 293) rfl)) (hw _ (List.mem_of_getElem? (i := 294) rfl)) (hw _ (List.mem_of_getElem? (i := 268) rfl)) (by decide) (rm51 l Z a0 hw hE [] r2 hL n0 OL i (ks.getD i 0) (by omega) _ (by simp [own_ub_len]; omega) ge_r2 AL S_ad S_hi S_lo) (OwnW.sfS (List.mem_append_left _ (List.mem_cons_self ..)) OwnW.sf0) (argsL := [(.ref r2), (.int (Int32.ofNat i)), (.int (Int32.ofNat (ks.getD i 0)))]) (rest := []) rfl rfl (OwnW.lenA pd___BII_V rfl) (W := 0) (Nat.le_of_eq rfl) (by decide) (by decide) (by decide) (by decide) rfl ?_
    intro T4 h4 g4 hle4 X4 ⟨k4, a4⟩
    have K4 := k4
    have O4 := OL.keep K4 (allS ge_r2 all0)
    have Z4 : Keep h0 h4 [r2] := KL.trans K4 (allS (P := fun x => x ∈ [r2] ∨ h0.size ≤ x) (Or.inl (List.mem_of_getElem? (i := 0) rfl)) all0)
    rw [own_put ks i mm (by omega) (by omega)] at a4
    refine OwnW.iinc X4 (z := (1 : Int32)) (u := ((Int32.ofNat i) + (1 : Int32))) (l' := #[.val (.ref r0), .val (.int (Int32.ofNat (i + 1))), .val (.ref r2), .val (.int (Int32.ofNat (i + 1))), .val (.int (Int32.ofNat ks.length)), .val (.int ((Int32.ofNat i) + (1 : Int32)))]) (n := 38) d55_35 rfl rfl rfl rfl rfl ?_
    rw [show (((Int32.ofNat i) + (1 : Int32)) : Int32) = (Int32.ofNat (i + 1)) from own_add i 1]
    refine OwnW.goto X4 (n := 10) d55_38 (by decide) rfl ?_
    exact IH _ _ (i + 1) (by omega) ((X4.less (fun x hx => List.mem_append_left _ hx)).more (Nat.le_of_eq rfl) (Nat.le_of_eq rfl)) ⟨by omega, Z4, a4⟩
theorem pd___BI_BII_V : parseMethodDescriptor "([BI[BII)V" = some ⟨[(.array .byte), .int, (.array .byte), .int, .int], none⟩ := by decide +kernel
theorem d54_0 : decode jdk_43_method_50_code 0 = .ok (.aload_n 0, 1) := by decide +kernel
theorem d54_1 : decode jdk_43_method_50_code 1 = .ok (.iload_n 1, 1) := by decide +kernel
theorem d54_2 : decode jdk_43_method_50_code 2 = .ok (.aload_n 2, 1) := by decide +kernel
theorem d54_3 : decode jdk_43_method_50_code 3 = .ok (.iload_n 3, 1) := by decide +kernel
theorem d54_4 : decode jdk_43_method_50_code 4 = .ok (.iload 4, 2) := by decide +kernel
theorem d54_6 : decode jdk_43_method_50_code 6 = .ok (.invokestatic 240, 3) := by decide +kernel
theorem d54_9 : decode jdk_43_method_50_code 9 = .ok (.return_, 1) := by decide +kernel
theorem ef_rm54 (m : MethodId) (x0 : Addr) (x2 : Addr) (x4 : Int32) : entryFrame m #[(.ref x0), (.int (0 : Int32)), (.ref x2), (.int (0 : Int32)), (.int x4)] 5 = mkF m 0 #[.val (.ref x0), .val (.int (0 : Int32)), .val (.ref x2), .val (.int (0 : Int32)), .val (.int x4)] [] := by first | (simp [entryFrame, mkF, argsToLocals, Value.category]; done) | rfl
set_option maxRecDepth 65536 in
set_option maxHeartbeats 40000000 in
theorem rm54 {kn : Prop} (l : Launch) (Z : State) (a0 : Array Value) (hw : ∀ d ∈ tables_1, d.before a0 Z = true) (hE : EW Z a0 own_EL) (ws : List Jvm.Cond) (r0 : Addr) (r2 : Addr) (h0 : Heap) (n0 : Nat) (O0 : Old Z n0 h0) (ks : List Nat) (rv : List Value) (mm : Nat) (hkm : ks.length ≤ mm) (hmm : mm ≤ 80) (hks : ∀ u ∈ ks, u ≤ 255) (A0 : Ark Z h0 r0 .byte (own_lb ks ++ rv)) (A2 : Ark Z h0 r2 .byte (List.replicate (2 * mm) (Value.int 0))) (ge_r2 : n0 ≤ r2) (ne02 : r0 ≠ r2) (fm : Value) (hfm : fm = .null ∨ ∃ r, fm = .ref r) (S_fm : Sta Z Z.heap "jdk/internal/util/Preconditions" "SIOOBE_FORMATTER" "Ljava/util/function/BiFunction;" fm) (S_ad : Sta Z Z.heap "java/lang/StringUTF16" "$assertionsDisabled" "Z" (.int 1)) (S_hi : Sta Z Z.heap "java/lang/StringUTF16" "HI_BYTE_SHIFT" "I" (.int 0)) (S_lo : Sta Z Z.heap "java/lang/StringUTF16" "LO_BYTE_SHIFT" "I" (.int 8)) :
    Ctr kn l Z own_EL (⟨"java/lang/StringLatin1", "inflate", "([BI[BII)V"⟩ : MethodName) jdk_43_method_50_code 5 none ws ({ frames := 4, cells := 0, slots := 0, locals := 60 } : Room) n0 (r2 :: []) #[(.ref r0), (.int (0 : Int32)), (.ref r2), (.int (0 : Int32)), (.int (Int32.ofNat ks.length))] h0 (Rn (fun h g => Keep h0 h [r2] ∧ Ark Z h r2 .byte (own_ub ks ++ List.replicate (2 * (mm - ks.length)) (Value.int 0)))) := by
  refine Ctr.of (plainFor_of_name pn_java_lang_StringLatin1) hE (fun m => ef_rm54 m r0 r2 (Int32.ofNat ks.length)) ?_
  intro p e s m below meth c T0 X0
  have Z0 : Keep h0 h0 [r2] := Keep.refl _ _
  refine OwnW.aloadN X0 (n := 1) d54_0 rfl rfl rfl ?_
  refine OwnW.iloadN X0 (n := 2) d54_1 rfl rfl ?_
  refine OwnW.aloadN X0 (n := 3) d54_2 rfl rfl rfl ?_
  refine OwnW.iloadN X0 (n := 4) d54_3 rfl rfl ?_
  refine OwnW.iload X0 (n := 6) d54_4 rfl rfl ?_
  refine OwnW.call_static_n X0 (z := (⟨"java/lang/StringUTF16", "inflate", "([BI[BII)V"⟩ : MethodName)) (n := 9) d54_6 (hw _ (List.mem_of_getElem? (i := 311) rfl)) (hw _ (List.mem_of_getElem? (i := 312) rfl)) (hw _ (List.mem_of_getElem? (i := 313) rfl)) (hw _ (List.mem_of_getElem? (i := 268) rfl)) (by decide) (rm55 l Z a0 hw hE [] r0 r2 h0 n0 O0 ks rv mm hkm hmm hks A0 A2 ge_r2 ne02 fm hfm S_fm S_ad S_hi S_lo) (OwnW.sfS (List.mem_cons_self ..) OwnW.sf0) (argsL := [(.ref r0), (.int (0 : Int32)), (.ref r2), (.int (0 : Int32)), (.int (Int32.ofNat ks.length))]) (rest := []) rfl rfl (OwnW.lenA pd___BI_BII_V rfl) (W := 0) (Nat.le_of_eq rfl) (by decide) (by decide) (by decide) (by decide) rfl ?_
  intro T1 h1 g1 hle1 X1 qq
  exact OwnW.vreturn X1 rfl d54_9 qq (by decide) (by decide)
theorem d53_0 : decode jdk_68_method_11_code 0 = .ok (.aload_n 0, 1) := by decide +kernel
theorem d53_1 : decode jdk_68_method_11_code 1 = .ok (.invokevirtual 83, 3) := by decide +kernel
theorem d53_4 : decode jdk_68_method_11_code 4 = .ok (.ifCond .ne 4, 3) := by decide +kernel
theorem d53_8 : decode jdk_68_method_11_code 8 = .ok (.aload_n 0, 1) := by decide +kernel
theorem d53_9 : decode jdk_68_method_11_code 9 = .ok (.getfield 15, 3) := by decide +kernel
theorem d53_12 : decode jdk_68_method_11_code 12 = .ok (.arraylength, 1) := by decide +kernel
theorem d53_13 : decode jdk_68_method_11_code 13 = .ok (.invokestatic 26, 3) := by decide +kernel
theorem d53_16 : decode jdk_68_method_11_code 16 = .ok (.astore_n 1, 1) := by decide +kernel
theorem d53_17 : decode jdk_68_method_11_code 17 = .ok (.aload_n 0, 1) := by decide +kernel
theorem d53_18 : decode jdk_68_method_11_code 18 = .ok (.getfield 15, 3) := by decide +kernel
theorem d53_21 : decode jdk_68_method_11_code 21 = .ok (.iconst 0, 1) := by decide +kernel
theorem d53_22 : decode jdk_68_method_11_code 22 = .ok (.aload_n 1, 1) := by decide +kernel
theorem d53_23 : decode jdk_68_method_11_code 23 = .ok (.iconst 0, 1) := by decide +kernel
theorem d53_24 : decode jdk_68_method_11_code 24 = .ok (.aload_n 0, 1) := by decide +kernel
theorem d53_25 : decode jdk_68_method_11_code 25 = .ok (.getfield 79, 3) := by decide +kernel
theorem d53_28 : decode jdk_68_method_11_code 28 = .ok (.invokestatic 125, 3) := by decide +kernel
theorem d53_31 : decode jdk_68_method_11_code 31 = .ok (.aload_n 0, 1) := by decide +kernel
theorem d53_32 : decode jdk_68_method_11_code 32 = .ok (.aload_n 1, 1) := by decide +kernel
theorem d53_33 : decode jdk_68_method_11_code 33 = .ok (.putfield 15, 3) := by decide +kernel
theorem d53_36 : decode jdk_68_method_11_code 36 = .ok (.aload_n 0, 1) := by decide +kernel
theorem d53_37 : decode jdk_68_method_11_code 37 = .ok (.iconst 1, 1) := by decide +kernel
theorem d53_38 : decode jdk_68_method_11_code 38 = .ok (.putfield 22, 3) := by decide +kernel
theorem d53_41 : decode jdk_68_method_11_code 41 = .ok (.return_, 1) := by decide +kernel
theorem ef_rm53 (m : MethodId) (x0 : Addr) : entryFrame m #[(.ref x0)] 2 = mkF m 0 #[.val (.ref x0), .unset] [] := by first | (simp [entryFrame, mkF, argsToLocals, Value.category]; done) | rfl
set_option maxRecDepth 65536 in
set_option maxHeartbeats 40000000 in
theorem rm53 {kn : Prop} (l : Launch) (Z : State) (a0 : Array Value) (hw : ∀ d ∈ tables_1, d.before a0 Z = true) (hE : EW Z a0 own_EL) (ws : List Jvm.Cond) (r0 : Addr) (h0 : Heap) (n0 : Nat) (O0 : Old Z n0 h0) (ks : List Nat) (rv : List Value) (hkm : ks.length + rv.length ≤ 80) (hks : ∀ u ∈ ks, u ≤ 255) (t : Addr) (B0 : own_B Z h0 r0 t 0 (Int32.ofNat ks.length)) (A0 : Ark Z h0 t .byte (own_lb ks ++ rv)) (ge_r0 : n0 ≤ r0) (n0t : r0 ≠ t) (zc : Int32) (hzc : ¬ zc = 0) (S_compact : Sta Z Z.heap "java/lang/String" "COMPACT_STRINGS" "Z" (.int zc)) (fm : Value) (hfm : fm = .null ∨ ∃ r, fm = .ref r) (S_fm : Sta Z Z.heap "jdk/internal/util/Preconditions" "SIOOBE_FORMATTER" "Ljava/util/function/BiFunction;" fm) (S_ad : Sta Z Z.heap "java/lang/StringUTF16" "$assertionsDisabled" "Z" (.int 1)) (S_hi : Sta Z Z.heap "java/lang/StringUTF16" "HI_BYTE_SHIFT" "I" (.int 0)) (S_lo : Sta Z Z.heap "java/lang/StringUTF16" "LO_BYTE_SHIFT" "I" (.int 8)) :
    Ctr kn l Z own_EL (⟨"java/lang/AbstractStringBuilder", "inflate", "()V"⟩ : MethodName) jdk_68_method_11_code 2 none ws ({ frames := 5, cells := 1, slots := 160, locals := 76 } : Room) n0 (r0 :: []) #[(.ref r0)] h0 (Rn (fun h g => Keep h0 h [r0] ∧ ∃ t', h0.size ≤ t' ∧ own_B Z h r0 t' 1 (Int32.ofNat ks.length) ∧ Ark Z h t' .byte (own_ub ks ++ List.replicate (2 * rv.length) (Value.int 0)) ∧ t' ∈ g)) := by
  refine Ctr.of (plainFor_of_name pn_java_lang_AbstractStringBuilder) hE (fun m => ef_rm53 m r0) ?_
  intro p e s m below meth c T0 X0
  have Z0 : Keep h0 h0 [r0] := Keep.refl _ _
  refine OwnW.aloadN X0 (n := 1) d53_0 rfl rfl rfl ?_
  refine OwnW.call_virtual_v X0 (z := (⟨"java/lang/AbstractStringBuilder", "isLatin1", "()Z"⟩ : MethodName)) (yv := (⟨"java/lang/AbstractStringBuilder", "isLatin1", "()Z"⟩ : MethodName)) (a := r0) (C := "java/lang/StringBuilder") (n := 4) d53_1 (hw _ (List.mem_of_getElem? (i := 306) rfl)) (hw _ (List.mem_of_getElem? (i := 145) rfl)) (hw _ (List.mem_of_getElem? (i := 146) rfl)) (hw _ (List.mem_of_getElem? (i := 147) rfl)) (fun hz => notFace_of_selects (args := #[]) (mvT hz (hw _ (List.mem_of_getElem? (i := 147) rfl)))) (hw _ (List.mem_of_getElem? (i := 148) rfl)) (hw _ (List.mem_of_getElem? (i := 39) rfl)) (by decide) B0.1 (rmBL0 l Z a0 hw hE [] r0 h0 n0 O0 B0.2.2.1 zc hzc S_compact) OwnW.sf0 (argsL := []) (rest := []) rfl rfl (OwnW.lenA pd___Z rfl) (W := 0) (Nat.le_of_eq rfl) (by decide) (by decide) (by decide) (by decide) rfl ?_
  intro T1 h1 w1 g1 hle1 X1 ⟨q1, q2⟩
  subst q1 q2
  refine OwnW.if_ne X1  (n1 := 8) (n2 := 7) d53_4 (by decide) rfl rfl (fun _ => ?_) (fun q => absurd q ((by decide) : ¬ (1 : Int32) = 0))
  refine OwnW.aloadN X1 (n := 9) d53_8 rfl rfl rfl ?_
  refine OwnW.getfield X1 (n := 12) d53_9 (hw _ (List.mem_of_getElem? (i := 43) rfl)) Via.refl B0.2.1 rfl ?_
  intro T2 X2
  refine OwnW.arraylength X2 (z := Int32.ofNat (ks.length + rv.length)) (n := 13) d53_12 A0 (congrArg Int32.ofNat (by simp)) rfl ?_
  refine OwnW.call_static_v X2 (z := (⟨"java/lang/StringUTF16", "newBytesFor", "(I)[B"⟩ : MethodName)) (n := 16) d53_13 (hw _ (List.mem_of_getElem? (i := 307) rfl)) (hw _ (List.mem_of_getElem? (i := 286) rfl)) (hw _ (List.mem_of_getElem? (i := 287) rfl)) (hw _ (List.mem_of_getElem? (i := 268) rfl)) (by decide) (rm49 l Z a0 hw hE [] h0 n0 O0 (ks.length + rv.length) hkm) OwnW.sf0 (argsL := [(.int (Int32.ofNat (ks.length + rv.length)))]) (rest := []) rfl rfl (OwnW.lenA pd__I__B rfl) (W := 0) (Nat.le_of_eq rfl) (by decide) (by decide) (by decide) (by decide) rfl ?_
  intro T3 h3 w3 g3 hle3 X3 ⟨t3, q1, k3, z3, a3, m3⟩
  subst q1
  have ne_r0_t3 : r0 ≠ t3 := Nat.ne_of_lt (Nat.lt_of_lt_of_le B0.1.lt z3)
  have ne_t_t3 : t ≠ t3 := Nat.ne_of_lt (Nat.lt_of_lt_of_le A0.lt z3)
  have ge_t3 : n0 ≤ t3 := Nat.le_trans (OwnW.oldLe O0) z3
  have K3 := k3
  have O3 := O0.keep K3 all0
  have Z3 : Keep h0 h3 [r0] := Z0.trans K3 (fun x hx => nomatch hx)
  have sz_t3 : h0.size ≤ t3 := Nat.le_trans Z0.1 z3
  refine OwnW.astoreN X3 (l' := #[.val (.ref r0), .val (.ref t3)]) (n := 17) d53_16 rfl rfl rfl ?_
  refine OwnW.aloadN X3 (n := 18) d53_17 rfl rfl rfl ?_
  have fk4 := (B0.2.1.keep K3 nin0)
  refine OwnW.getfield X3 (n := 21) d53_18 (hw _ (List.mem_of_getElem? (i := 43) rfl)) Via.refl fk4 rfl ?_
  intro T5 X5
  refine OwnW.iconst X5 (z := (0 : Int32)) (n := 22) d53_21 rfl rfl ?_
  refine OwnW.aloadN X5 (n := 23) d53_22 rfl rfl rfl ?_
  refine OwnW.iconst X5 (z := (0 : Int32)) (n := 24) d53_23 rfl rfl ?_
  refine OwnW.aloadN X5 (n := 25) d53_24 rfl rfl rfl ?_
  have fk6 := (B0.2.2.2.1.keep K3 nin0)
  refine OwnW.getfield X5 (n := 28) d53_25 (hw _ (List.mem_of_getElem? (i := 69) rfl)) Via.refl fk6 rfl ?_
  intro T7 X7
  have fk8 := (A0.keep K3 nin0)
  refine OwnW.call_static_n X7 (z := (⟨"java/lang/StringLatin1", "inflate", "([BI[BII)V"⟩ : MethodName)) (n := 31) d53_28 (hw _ (List.mem_of_getElem? (i := 308) rfl)) (hw _ (List.mem_of_getElem? (i := 309) rfl)) (hw _ (List.mem_of_getElem? (i := 310) rfl)) (hw _ (List.mem_of_getElem? (i := 235) rfl)) (by decide) (rm54 l Z a0 hw hE [] t t3 h3 n0 O3 ks rv (ks.length + rv.length) (by omega) hkm hks fk8 a3 ge_t3 ne_t_t3 fm hfm S_fm S_ad S_hi S_lo) (OwnW.sfS (List.mem_append_right _ m3) OwnW.sf0) (argsL := [(.ref t), (.int (0 : Int32)), (.ref t3), (.int (0 : Int32)), (.int (Int32.ofNat ks.length))]) (rest := []) rfl rfl (OwnW.lenA pd___BI_BII_V rfl) (W := 0) (Nat.le_of_eq rfl) (by decide) (by decide) (by decide) (by decide) rfl ?_
  intro T9 h9 g9 hle9 X9 ⟨k9, a9⟩
  have K9 := k9
  have O9 := O3.keep K9 (allS ge_t3 all0)
  have Z9 : Keep h0 h9 [r0] := Z3.trans K9 (allS (P := fun x => x ∈ [r0] ∨ h0.size ≤ x) (Or.inr sz_t3) all0)
  rw [show ks.length + rv.length - ks.length = rv.length from by omega] at a9
  refine OwnW.aloadN X9 (n := 32) d53_31 rfl rfl rfl ?_
  refine OwnW.aloadN X9 (n := 33) d53_32 rfl rfl rfl ?_
  have fk10 := (fk4.keep K9 (ninS ne_r0_t3 nin0))
  have fk11 := ((B0.1.keep K3).keep K9)
  refine OwnW.putfield X9 (ty := (.array .byte)) (v' := (.ref t3)) (n := 36) d53_33 (hw _ (List.mem_of_getElem? (i := 43) rfl)) Via.refl fk10 fk11 (Or.inl (hw _ (List.mem_of_getElem? (i := 44) rfl))) (hw _ (List.mem_of_getElem? (i := 30) rfl)) (by decide) rfl rfl ge_r0 (List.mem_append_left _ (List.mem_append_left _ (List.mem_append_left _ (List.mem_cons_self ..)))) rfl ?_
  intro T12 h12 X12 W12 Fw12
  have fk13 := ((B0.2.2.1.keep K3 nin0).keep K9 (ninS ne_r0_t3 nin0))
  have fk14 := fk13.other W12 (Or.inr (slot_ne (Or.inl (hw _ (List.mem_of_getElem? (i := 46) rfl))) (Or.inl (hw _ (List.mem_of_getElem? (i := 44) rfl))) (by decide) (t := .byte) (t' := (.array .byte)) (by decide) (by decide)))
  have fk15 := (fk6.keep K9 (ninS ne_r0_t3 nin0))
  have fk16 := fk15.other W12 (Or.inr (slot_ne (Or.inl (hw _ (List.mem_of_getElem? (i := 70) rfl))) (Or.inl (hw _ (List.mem_of_getElem? (i := 44) rfl))) (by decide) (t := .int) (t' := (.array .byte)) (by decide) (by decide)))
  have fk17 := ((B0.2.2.2.2.keep K3 nin0).keep K9 (ninS ne_r0_t3 nin0))
  have fk18 := fk17.other W12 (Or.inr (slot_ne (Or.inl (hw _ (List.mem_of_getElem? (i := 327) rfl))) (Or.inl (hw _ (List.mem_of_getElem? (i := 44) rfl))) (by decide) (t := .boolean) (t' := (.array .byte)) (by decide) (by decide)))
  have K12 := (Keep.of_wr W12)
  have O12 := O9.keep K12 (allS ge_r0 all0)
  have Z12 : Keep h0 h12 [r0] := Z9.trans K12 (allS (P := fun x => x ∈ [r0] ∨ h0.size ≤ x) (Or.inl (List.mem_of_getElem? (i := 0) rfl)) all0)
  refine OwnW.aloadN X12 (n := 37) d53_36 rfl rfl rfl ?_
  refine OwnW.iconst X12 (z := (1 : Int32)) (n := 38) d53_37 rfl rfl ?_
  have fk19 := (fk11.keep K12)
  refine OwnW.putfield X12 (ty := .byte) (v' := (.int (1 : Int32))) (n := 41) d53_38 (hw _ (List.mem_of_getElem? (i := 45) rfl)) Via.refl fk14 fk19 (Or.inl (hw _ (List.mem_of_getElem? (i := 46) rfl))) (hw _ (List.mem_of_getElem? (i := 30) rfl)) (by decide) rfl rfl ge_r0 (List.mem_append_left _ (List.mem_append_left _ (List.mem_append_left _ (List.mem_cons_self ..)))) rfl ?_
  intro T20 h20 X20 W20 Fw20
  have fk21 := Fw12.other W20 (Or.inr (slot_ne (Or.inl (hw _ (List.mem_of_getElem? (i := 44) rfl))) (Or.inl (hw _ (List.mem_of_getElem? (i := 46) rfl))) (by decide) (t := (.array .byte)) (t' := .byte) (by decide) (by decide)))
  have fk22 := fk16.other W20 (Or.inr (slot_ne (Or.inl (hw _ (List.mem_of_getElem? (i := 70) rfl))) (Or.inl (hw _ (List.mem_of_getElem? (i := 46) rfl))) (by decide) (t := .int) (t' := .byte) (by decide) (by decide)))
  have fk23 := fk18.other W20 (Or.inr (slot_ne (Or.inl (hw _ (List.mem_of_getElem? (i := 327) rfl))) (Or.inl (hw _ (List.mem_of_getElem? (i := 46) rfl))) (by decide) (t := .boolean) (t' := .byte) (by decide) (by decide)))
  have K20 := (Keep.of_wr W20)
  have O20 := O12.keep K20 (allS ge_r0 all0)
  have Z20 : Keep h0 h20 [r0] := Z12.trans K20 (allS (P := fun x => x ∈ [r0] ∨ h0.size ≤ x) (Or.inl (List.mem_of_getElem? (i := 0) rfl)) all0)
  have fk24 := (fk19.keep K20)
  have fk25 := ((a9.keep K12 (ninS (Ne.symm ne_r0_t3) nin0)).keep K20 (ninS (Ne.symm ne_r0_t3) nin0))
  exact OwnW.vreturn X20 rfl d53_41 ⟨Z20, _, sz_t3, ⟨fk24, fk21, Fw20, fk22, fk23⟩, fk25, (List.mem_append_left _ (List.mem_append_right _ m3))⟩ (by decide) (by decide)
theorem d18_0 : decode jdk_68_method_71_code 0 = .ok (.getstatic 18, 3) := by decide +kernel
theorem d18_3 : decode jdk_68_method_71_code 3 = .ok (.ifCond .eq 18, 3) := by decide +kernel
theorem d18_6 : decode jdk_68_method_71_code 6 = .ok (.aload_n 0, 1) := by decide +kernel
theorem d18_7 : decode jdk_68_method_71_code 7 = .ok (.getfield 22, 3) := by decide +kernel
theorem d18_10 : decode jdk_68_method_71_code 10 = .ok (.aload_n 1, 1) := by decide +kernel
theorem d18_11 : decode jdk_68_method_71_code 11 = .ok (.invokevirtual 40, 3) := by decide +kernel
theorem d18_14 : decode jdk_68_method_71_code 14 = .ok (.if_icmp .eq 7, 3) := by decide +kernel
theorem d18_21 : decode jdk_68_method_71_code 21 = .ok (.return_, 1) := by decide +kernel
theorem ef_rm18e (m : MethodId) (x0 : Addr) (x1 : Addr) : entryFrame m #[(.ref x0), (.ref x1)] 2 = mkF m 0 #[.val (.ref x0), .val (.ref x1)] [] := by first | (simp [entryFrame, mkF, argsToLocals, Value.category]; done) | rfl
set_option maxRecDepth 65536 in
set_option maxHeartbeats 40000000 in
theorem rm18e {kn : Prop} (l : Launch) (Z : State) (a0 : Array Value) (hw : ∀ d ∈ tables_1, d.before a0 Z = true) (hE : EW Z a0 own_EL) (ws : List Jvm.Cond) (r0 : Addr) (r1 : Addr) (h0 : Heap) (n0 : Nat) (O0 : Old Z n0 h0) (F1s : Fld Z h0 r1 "java/lang/String" "coder" "B" (.int 0)) (E1s : Exa Z h0 r1 "java/lang/String") (cn : Int32) (t : Addr) (B0 : own_B Z h0 r0 t 0 cn) (zc : Int32) (hzc : ¬ zc = 0) (S_compact : Sta Z Z.heap "java/lang/String" "COMPACT_STRINGS" "Z" (.int zc)) :
    Ctr kn l Z own_EL (⟨"java/lang/AbstractStringBuilder", "inflateIfNeededFor", "(Ljava/lang/String;)V"⟩ : MethodName) jdk_68_method_71_code 2 none ws ({ frames := 1, cells := 0, slots := 0, locals := 13 } : Room) n0 ([]) #[(.ref r0), (.ref r1)] h0 (Rn (fun h g => h0 = h)) := by
  refine Ctr.of (plainFor_of_name pn_java_lang_AbstractStringBuilder) hE (fun m => ef_rm18e m r0 r1) ?_
  intro p e s m below meth c T0 X0
  have Z0 : Keep h0 h0 [] := Keep.refl _ _
  refine OwnW.getstatic X0 (n := 3) d18_0 (hw _ (List.mem_of_getElem? (i := 42) rfl)) Via.refl (S_compact.ext O0.2) rfl ?_
  intro T1 X1
  refine OwnW.if_eq X1  (n1 := 21) (n2 := 6) d18_3 (by decide) rfl rfl (fun q => absurd q (hzc : ¬ zc = 0)) (fun _ => ?_)
  refine OwnW.aloadN X1 (n := 7) d18_6 rfl rfl rfl ?_
  refine OwnW.getfield X1 (n := 10) d18_7 (hw _ (List.mem_of_getElem? (i := 45) rfl)) Via.refl B0.2.2.1 rfl ?_
  intro T2 X2
  refine OwnW.aloadN X2 (n := 11) d18_10 rfl rfl rfl ?_
  refine OwnW.call_virtual_v X2 (z := (⟨"java/lang/String", "coder", "()B"⟩ : MethodName)) (yv := (⟨"java/lang/String", "coder", "()B"⟩ : MethodName)) (a := r1) (C := "java/lang/String") (n := 14) d18_11 (hw _ (List.mem_of_getElem? (i := 112) rfl)) (hw _ (List.mem_of_getElem? (i := 64) rfl)) (hw _ (List.mem_of_getElem? (i := 65) rfl)) (hw _ (List.mem_of_getElem? (i := 66) rfl)) (fun hz => notFace_of_selects (args := #[]) (mvT hz (hw _ (List.mem_of_getElem? (i := 66) rfl)))) (hw _ (List.mem_of_getElem? (i := 67) rfl)) (hw _ (List.mem_of_getElem? (i := 3) rfl)) (by decide) E1s (rm10 l Z a0 hw hE [] r1 h0 n0 O0 F1s zc hzc S_compact) OwnW.sf0 (argsL := []) (rest := [(.int (0 : Int32))]) rfl rfl (OwnW.lenA pd___B rfl) (W := 1) (Nat.le_of_eq rfl) (by decide) (by decide) (by decide) (by decide) rfl ?_
  intro T3 h3 w3 g3 hle3 X3 ⟨q1, q2⟩
  subst q1 q2
  refine OwnW.ic_eq X3  (n1 := 21) (n2 := 17) d18_14 (by decide) rfl rfl (fun _ => ?_) (fun q => absurd ((by decide) : (0 : Int32) = (0 : Int32)) q)
  exact OwnW.vreturn X3 rfl d18_21 rfl (by decide) (by decide)
theorem pd___V : parseMethodDescriptor "()V" = some ⟨[], none⟩ := by decide +kernel
theorem d18_17 : decode jdk_68_method_71_code 17 = .ok (.aload_n 0, 1) := by decide +kernel
theorem d18_18 : decode jdk_68_method_71_code 18 = .ok (.invokevirtual 195, 3) := by decide +kernel
theorem ef_rm18u (m : MethodId) (x0 : Addr) (x1 : Addr) : entryFrame m #[(.ref x0), (.ref x1)] 2 = mkF m 0 #[.val (.ref x0), .val (.ref x1)] [] := by first | (simp [entryFrame, mkF, argsToLocals, Value.category]; done) | rfl
set_option maxRecDepth 65536 in
set_option maxHeartbeats 40000000 in
theorem rm18u {kn : Prop} (l : Launch) (Z : State) (a0 : Array Value) (hw : ∀ d ∈ tables_1, d.before a0 Z = true) (hE : EW Z a0 own_EL) (ws : List Jvm.Cond) (r0 : Addr) (r1 : Addr) (h0 : Heap) (n0 : Nat) (O0 : Old Z n0 h0) (F1s : Fld Z h0 r1 "java/lang/String" "coder" "B" (.int 1)) (E1s : Exa Z h0 r1 "java/lang/String") (ks : List Nat) (rv : List Value) (hkm : ks.length + rv.length ≤ 80) (hks : ∀ u ∈ ks, u ≤ 255) (t : Addr) (B0 : own_B Z h0 r0 t 0 (Int32.ofNat ks.length)) (A0 : Ark Z h0 t .byte (own_lb ks ++ rv)) (ge_r0 : n0 ≤ r0) (n0t : r0 ≠ t) (zc : Int32) (hzc : ¬ zc = 0) (S_compact : Sta Z Z.heap "java/lang/String" "COMPACT_STRINGS" "Z" (.int zc)) (fm : Value) (hfm : fm = .null ∨ ∃ r, fm = .ref r) (S_fm : Sta Z Z.heap "jdk/internal/util/Preconditions" "SIOOBE_FORMATTER" "Ljava/util/function/BiFunction;" fm) (S_ad : Sta Z Z.heap "java/lang/StringUTF16" "$assertionsDisabled" "Z" (.int 1)) (S_hi : Sta Z Z.heap "java/lang/StringUTF16" "HI_BYTE_SHIFT" "I" (.int 0)) (S_lo : Sta Z Z.heap "java/lang/StringUTF16" "LO_BYTE_SHIFT" "I" (.int 8)) :
    Ctr kn l Z own_EL (⟨"java/lang/AbstractStringBuilder", "inflateIfNeededFor", "(Ljava/lang/String;)V"⟩ : MethodName) jdk_68_method_71_code 2 none ws ({ frames := 6, cells := 1, slots := 160, locals := 89 } : Room) n0 (r0 :: []) #[(.ref r0), (.ref r1)] h0 (Rn (fun h g => Keep h0 h [r0] ∧ ∃ t', h0.size ≤ t' ∧ own_B Z h r0 t' 1 (Int32.ofNat ks.length) ∧ Ark Z h t' .byte (own_ub ks ++ List.replicate (2 * rv.length) (Value.int 0)) ∧ t' ∈ g)) := by
  refine Ctr.of (plainFor_of_name pn_java_lang_AbstractStringBuilder) hE (fun m => ef_rm18u m r0 r1) ?_
  intro p e s m below meth c T0 X0
  have Z0 : Keep h0 h0 [r0] := Keep.refl _ _
  refine OwnW.getstatic X0 (n := 3) d18_0 (hw _ (List.mem_of_getElem? (i := 42) rfl)) Via.refl (S_compact.ext O0.2) rfl ?_
  intro T1 X1
  refine OwnW.if_eq X1  (n1 := 21) (n2 := 6) d18_3 (by decide) rfl rfl (fun q => absurd q (hzc : ¬ zc = 0)) (fun _ => ?_)
  refine OwnW.aloadN X1 (n := 7) d18_6 rfl rfl rfl ?_
  refine OwnW.getfield X1 (n := 10) d18_7 (hw _ (List.mem_of_getElem? (i := 45) rfl)) Via.refl B0.2.2.1 rfl ?_
  intro T2 X2
  refine OwnW.aloadN X2 (n := 11) d18_10 rfl rfl rfl ?_
  refine OwnW.call_virtual_v X2 (z := (⟨"java/lang/String", "coder", "()B"⟩ : MethodName)) (yv := (⟨"java/lang/String", "coder", "()B"⟩ : MethodName)) (a := r1) (C := "java/lang/String") (n := 14) d18_11 (hw _ (List.mem_of_getElem? (i := 112) rfl)) (hw _ (List.mem_of_getElem? (i := 64) rfl)) (hw _ (List.mem_of_getElem? (i := 65) rfl)) (hw _ (List.mem_of_getElem? (i := 66) rfl)) (fun hz => notFace_of_selects (args := #[]) (mvT hz (hw _ (List.mem_of_getElem? (i := 66) rfl)))) (hw _ (List.mem_of_getElem? (i := 67) rfl)) (hw _ (List.mem_of_getElem? (i := 3) rfl)) (by decide) E1s (rm10u l Z a0 hw hE [] r1 h0 n0 O0 F1s zc hzc S_compact) OwnW.sf0 (argsL := []) (rest := [(.int (0 : Int32))]) rfl rfl (OwnW.lenA pd___B rfl) (W := 1) (Nat.le_of_eq rfl) (by decide) (by decide) (by decide) (by decide) rfl ?_
  intro T3 h3 w3 g3 hle3 X3 ⟨q1, q2⟩
  subst q1 q2
  refine OwnW.ic_eq X3  (n1 := 21) (n2 := 17) d18_14 (by decide) rfl rfl (fun q => absurd q ((by decide) : ¬ (0 : Int32) = (1 : Int32))) (fun _ => ?_)
  refine OwnW.aloadN X3 (n := 18) d18_17 rfl rfl rfl ?_
  refine OwnW.call_virtual_n X3 (z := (⟨"java/lang/AbstractStringBuilder", "inflate", "()V"⟩ : MethodName)) (yv := (⟨"java/lang/AbstractStringBuilder", "inflate", "()V"⟩ : MethodName)) (a := r0) (C := "java/lang/StringBuilder") (n := 21) d18_18 (hw _ (List.mem_of_getElem? (i := 301) rfl)) (OwnW.declOf (hw _ (List.mem_of_getElem? (i := 302) rfl)) (hw _ (List.mem_of_getElem? (i := 305) rfl))) (hw _ (List.mem_of_getElem? (i := 302) rfl)) (hw _ (List.mem_of_getElem? (i := 304) rfl)) (fun hz => notFace_of_selects (args := #[]) (mvT hz (hw _ (List.mem_of_getElem? (i := 304) rfl)))) (hw _ (List.mem_of_getElem? (i := 305) rfl)) (hw _ (List.mem_of_getElem? (i := 39) rfl)) (by decide) B0.1 (rm53 l Z a0 hw hE [] r0 h0 n0 O0 ks rv hkm hks t B0 A0 ge_r0 n0t zc hzc S_compact fm hfm S_fm S_ad S_hi S_lo) (OwnW.sfS (List.mem_append_left _ (List.mem_cons_self ..)) OwnW.sf0) (argsL := []) (rest := []) rfl rfl (OwnW.lenA pd___V rfl) (W := 0) (Nat.le_of_eq rfl) (by decide) (by decide) (by decide) (by decide) rfl ?_
  intro T4 h4 g4 hle4 X4 ⟨kq, tq, zq, bq, aq, mq⟩
  exact OwnW.vreturn X4 rfl d18_21 ⟨kq, tq, zq, bq, aq, List.mem_append_right _ mq⟩ (by decide) (by decide)
theorem pd__Ljava_lang_String__V : parseMethodDescriptor "(Ljava/lang/String;)V" = some ⟨[(.object "java/lang/String")], none⟩ := by decide +kernel
theorem pd___BIB_V : parseMethodDescriptor "([BIB)V" = some ⟨[(.array .byte), .int, .byte], none⟩ := by decide +kernel
theorem d17_0 : decode jdk_68_method_73_code 0 = .ok (.aload_n 0, 1) := by decide +kernel
theorem d17_1 : decode jdk_68_method_73_code 1 = .ok (.aload_n 2, 1) := by decide +kernel
theorem d17_2 : decode jdk_68_method_73_code 2 = .ok (.invokevirtual 397, 3) := by decide +kernel
theorem d17_5 : decode jdk_68_method_73_code 5 = .ok (.aload_n 2, 1) := by decide +kernel
theorem d17_6 : decode jdk_68_method_73_code 6 = .ok (.aload_n 0, 1) := by decide +kernel
theorem d17_7 : decode jdk_68_method_73_code 7 = .ok (.getfield 15, 3) := by decide +kernel
theorem d17_10 : decode jdk_68_method_73_code 10 = .ok (.iload_n 1, 1) := by decide +kernel
theorem d17_11 : decode jdk_68_method_73_code 11 = .ok (.aload_n 0, 1) := by decide +kernel
theorem d17_12 : decode jdk_68_method_73_code 12 = .ok (.getfield 22, 3) := by decide +kernel
theorem d17_15 : decode jdk_68_method_73_code 15 = .ok (.invokevirtual 399, 3) := by decide +kernel
theorem d17_18 : decode jdk_68_method_73_code 18 = .ok (.return_, 1) := by decide +kernel
theorem ef_rm17e (m : MethodId) (x0 : Addr) (x1 : Int32) (x2 : Addr) : entryFrame m #[(.ref x0), (.int x1), (.ref x2)] 3 = mkF m 0 #[.val (.ref x0), .val (.int x1), .val (.ref x2)] [] := by first | (simp [entryFrame, mkF, argsToLocals, Value.category]; done) | rfl
set_option maxRecDepth 65536 in
set_option maxHeartbeats 40000000 in
theorem rm17e {kn : Prop} (l : Launch) (Z : State) (a0 : Array Value) (hw : ∀ d ∈ tables_1, d.before a0 Z = true) (hE : EW Z a0 own_EL) (ws : List Jvm.Cond) (r0 : Addr) (r2 : Addr) (h0 : Heap) (n0 : Nat) (O0 : Old Z n0 h0) (tn : Addr) (us : List Nat) (hul : us.length ≤ 80) (E1s : Exa Z h0 r2 "java/lang/String") (F1s : Fld Z h0 r2 "java/lang/String" "coder" "B" (.int 0)) (V1s : Fld Z h0 r2 "java/lang/String" "value" "[B" (.ref tn)) (A1s : Ark Z h0 tn .byte (own_lb us)) (vd : List Value) (di : Nat) (hdi : di ≤ 1000) (hdv : di + us.length ≤ vd.length) (cn : Int32) (t : Addr) (B0 : own_B Z h0 r0 t 0 cn) (A0 : Ark Z h0 t .byte vd) (ge_t : n0 ≤ t) (net : tn ≠ t) (zc : Int32) (hzc : ¬ zc = 0) (S_compact : Sta Z Z.heap "java/lang/String" "COMPACT_STRINGS" "Z" (.int zc)) :
    Ctr kn l Z own_EL (⟨"java/lang/AbstractStringBuilder", "putStringAt", "(ILjava/lang/String;)V"⟩ : MethodName) jdk_68_method_73_code 3 none ws ({ frames := 2, cells := 0, slots := 0, locals := 33 } : Room) n0 (t :: []) #[(.ref r0), (.int (Int32.ofNat di)), (.ref r2)] h0 (Rn (fun h g => Keep h0 h [t] ∧ Ark Z h t .byte (vd.take di ++ own_lb us ++ vd.drop (di + us.length)))) := by
  refine Ctr.of (plainFor_of_name pn_java_lang_AbstractStringBuilder) hE (fun m => ef_rm17e m r0 (Int32.ofNat di) r2) ?_
  intro p e s m below meth c T0 X0
  have Z0 : Keep h0 h0 [t] := Keep.refl _ _
  refine OwnW.aloadN X0 (n := 1) d17_0 rfl rfl rfl ?_
  refine OwnW.aloadN X0 (n := 2) d17_1 rfl rfl rfl ?_
  refine OwnW.call_virtual_n X0 (z := (⟨"java/lang/AbstractStringBuilder", "inflateIfNeededFor", "(Ljava/lang/String;)V"⟩ : MethodName)) (yv := (⟨"java/lang/AbstractStringBuilder", "inflateIfNeededFor", "(Ljava/lang/String;)V"⟩ : MethodName)) (a := r0) (C := "java/lang/StringBuilder") (n := 5) d17_2 (hw _ (List.mem_of_getElem? (i := 107) rfl)) (OwnW.declOf (hw _ (List.mem_of_getElem? (i := 108) rfl)) (hw _ (List.mem_of_getElem? (i := 111) rfl))) (hw _ (List.mem_of_getElem? (i := 108) rfl)) (hw _ (List.mem_of_getElem? (i := 110) rfl)) (fun hz => notFace_of_selects (args := #[]) (mvT hz (hw _ (List.mem_of_getElem? (i := 110) rfl)))) (hw _ (List.mem_of_getElem? (i := 111) rfl)) (hw _ (List.mem_of_getElem? (i := 39) rfl)) (by decide) B0.1 (rm18e l Z a0 hw hE [] r0 r2 h0 n0 O0 F1s E1s cn t B0 zc hzc S_compact) OwnW.sf0 (argsL := [(.ref r2)]) (rest := []) rfl rfl (OwnW.lenA pd__Ljava_lang_String__V rfl) (W := 0) (Nat.le_of_eq rfl) (by decide) (by decide) (by decide) (by decide) rfl ?_
  intro T1 h1 g1 hle1 X1 q2
  subst q2
  refine OwnW.aloadN X1 (n := 6) d17_5 rfl rfl rfl ?_
  refine OwnW.aloadN X1 (n := 7) d17_6 rfl rfl rfl ?_
  refine OwnW.getfield X1 (n := 10) d17_7 (hw _ (List.mem_of_getElem? (i := 43) rfl)) Via.refl B0.2.1 rfl ?_
  intro T2 X2
  refine OwnW.iloadN X2 (n := 11) d17_10 rfl rfl ?_
  refine OwnW.aloadN X2 (n := 12) d17_11 rfl rfl rfl ?_
  refine OwnW.getfield X2 (n := 15) d17_12 (hw _ (List.mem_of_getElem? (i := 45) rfl)) Via.refl B0.2.2.1 rfl ?_
  intro T3 X3
  refine OwnW.call_virtual_n X3 (z := (⟨"java/lang/String", "getBytes", "([BIB)V"⟩ : MethodName)) (yv := (⟨"java/lang/String", "getBytes", "([BIB)V"⟩ : MethodName)) (a := r2) (C := "java/lang/String") (n := 18) d17_15 (hw _ (List.mem_of_getElem? (i := 113) rfl)) (hw _ (List.mem_of_getElem? (i := 114) rfl)) (hw _ (List.mem_of_getElem? (i := 115) rfl)) (hw _ (List.mem_of_getElem? (i := 116) rfl)) (fun hz => notFace_of_selects (args := #[]) (mvT hz (hw _ (List.mem_of_getElem? (i := 116) rfl)))) (hw _ (List.mem_of_getElem? (i := 117) rfl)) (hw _ (List.mem_of_getElem? (i := 3) rfl)) (by decide) E1s (rmGB0 l Z a0 hw hE [] r2 t h0 n0 O0 tn us hul E1s F1s V1s A1s vd di hdi hdv A0 ge_t net zc hzc S_compact) (OwnW.sfS (List.mem_append_left _ (List.mem_cons_self ..)) OwnW.sf0) (argsL := [(.ref t), (.int (Int32.ofNat di)), (.int (0 : Int32))]) (rest := []) rfl rfl (OwnW.lenA pd___BIB_V rfl) (W := 0) (Nat.le_of_eq rfl) (by decide) (by decide) (by decide) (by decide) rfl ?_
  intro T4 h4 g4 hle4 X4 qq
  exact OwnW.vreturn X4 rfl d17_18 qq (by decide) (by decide)
theorem ef_rm17u (m : MethodId) (x0 : Addr) (x1 : Int32) (x2 : Addr) : entryFrame m #[(.ref x0), (.int x1), (.ref x2)] 3 = mkF m 0 #[.val (.ref x0), .val (.int x1), .val (.ref x2)] [] := by first | (simp [entryFrame, mkF, argsToLocals, Value.category]; done) | rfl
set_option maxRecDepth 65536 in
set_option maxHeartbeats 40000000 in
theorem rm17u {kn : Prop} (l : Launch) (Z : State) (a0 : Array Value) (hw : ∀ d ∈ tables_1, d.before a0 Z = true) (hE : EW Z a0 own_EL) (ws : List Jvm.Cond) (r0 : Addr) (r2 : Addr) (h0 : Heap) (n0 : Nat) (O0 : Old Z n0 h0) (tn : Addr) (us : List Nat) (hul : us.length ≤ 80) (E1s : Exa Z h0 r2 "java/lang/String") (F1s : Fld Z h0 r2 "java/lang/String" "coder" "B" (.int 1)) (V1s : Fld Z h0 r2 "java/lang/String" "value" "[B" (.ref tn)) (A1s : Ark Z h0 tn .byte (own_ub us)) (ks : List Nat) (rv : List Value) (hkm : ks.length + rv.length ≤ 80) (hks : ∀ u ∈ ks, u ≤ 255) (t : Addr) (B0 : own_B Z h0 r0 t 0 (Int32.ofNat ks.length)) (A0 : Ark Z h0 t .byte (own_lb ks ++ rv)) (ge_r0 : n0 ≤ r0) (n0t : r0 ≠ t) (zc : Int32) (hzc : ¬ zc = 0) (S_compact : Sta Z Z.heap "java/lang/String" "COMPACT_STRINGS" "Z" (.int zc)) (fm : Value) (hfm : fm = .null ∨ ∃ r, fm = .ref r) (S_fm : Sta Z Z.heap "jdk/internal/util/Preconditions" "SIOOBE_FORMATTER" "Ljava/util/function/BiFunction;" fm) (S_ad : Sta Z Z.heap "java/lang/StringUTF16" "$assertionsDisabled" "Z" (.int 1)) (S_hi : Sta Z Z.heap "java/lang/StringUTF16" "HI_BYTE_SHIFT" "I" (.int 0)) (S_lo : Sta Z Z.heap "java/lang/StringUTF16" "LO_BYTE_SHIFT" "I" (.int 8)) (hur : us.length ≤ rv.length) (n02 : r0 ≠ r2) (n0tn : r0 ≠ tn) :
    Ctr kn l Z own_EL (⟨"java/lang/AbstractStringBuilder", "putStringAt", "(ILjava/lang/String;)V"⟩ : MethodName) jdk_68_method_73_code 3 none ws ({ frames := 7, cells := 1, slots := 160, locals := 102 } : Room) n0 (r0 :: []) #[(.ref r0), (.int (Int32.ofNat ks.length)), (.ref r2)] h0 (Rn (fun h g => Keep h0 h [r0] ∧ ∃ t', h0.size ≤ t' ∧ own_B Z h r0 t' 1 (Int32.ofNat ks.length) ∧ Ark Z h t' .byte ((own_ub ks ++ List.replicate (2 * rv.length) (Value.int 0)).take (2 * ks.length) ++ own_ub us ++ (own_ub ks ++ List.replicate (2 * rv.length) (Value.int 0)).drop (2 * ks.length + 2 * us.length)) ∧ t' ∈ g)) := by
  refine Ctr.of (plainFor_of_name pn_java_lang_AbstractStringBuilder) hE (fun m => ef_rm17u m r0 (Int32.ofNat ks.length) r2) ?_
  intro p e s m below meth c T0 X0
  have Z0 : Keep h0 h0 [r0] := Keep.refl _ _
  refine OwnW.aloadN X0 (n := 1) d17_0 rfl rfl rfl ?_
  refine OwnW.aloadN X0 (n := 2) d17_1 rfl rfl rfl ?_
  refine OwnW.call_virtual_n X0 (z := (⟨"java/lang/AbstractStringBuilder", "inflateIfNeededFor", "(Ljava/lang/String;)V"⟩ : MethodName)) (yv := (⟨"java/lang/AbstractStringBuilder", "inflateIfNeededFor", "(Ljava/lang/String;)V"⟩ : MethodName)) (a := r0) (C := "java/lang/StringBuilder") (n := 5) d17_2 (hw _ (List.mem_of_getElem? (i := 107) rfl)) (OwnW.declOf (hw _ (List.mem_of_getElem? (i := 108) rfl)) (hw _ (List.mem_of_getElem? (i := 111) rfl))) (hw _ (List.mem_of_getElem? (i := 108) rfl)) (hw _ (List.mem_of_getElem? (i := 110) rfl)) (fun hz => notFace_of_selects (args := #[]) (mvT hz (hw _ (List.mem_of_getElem? (i := 110) rfl)))) (hw _ (List.mem_of_getElem? (i := 111) rfl)) (hw _ (List.mem_of_getElem? (i := 39) rfl)) (by decide) B0.1 (rm18u l Z a0 hw hE [] r0 r2 h0 n0 O0 F1s E1s ks rv hkm hks t B0 A0 ge_r0 n0t zc hzc S_compact fm hfm S_fm S_ad S_hi S_lo) (OwnW.sfS (List.mem_cons_self ..) OwnW.sf0) (argsL := [(.ref r2)]) (rest := []) rfl rfl (OwnW.lenA pd__Ljava_lang_String__V rfl) (W := 0) (Nat.le_of_eq rfl) (by decide) (by decide) (by decide) (by decide) rfl ?_
  intro T1 h1 g1 hle1 X1 ⟨k1, t1, z1, b1, a1, m1⟩
  have ne_r0_t1 : r0 ≠ t1 := Nat.ne_of_lt (Nat.lt_of_lt_of_le B0.1.lt z1)
  have ne_r2_t1 : r2 ≠ t1 := Nat.ne_of_lt (Nat.lt_of_lt_of_le E1s.lt z1)
  have ne_tn_t1 : tn ≠ t1 := Nat.ne_of_lt (Nat.lt_of_lt_of_le A1s.lt z1)
  have ne_t_t1 : t ≠ t1 := Nat.ne_of_lt (Nat.lt_of_lt_of_le A0.lt z1)
  have ge_t1 : n0 ≤ t1 := Nat.le_trans (OwnW.oldLe O0) z1
  have K1 := k1
  have O1 := O0.keep K1 (allS ge_r0 all0)
  have Z1 : Keep h0 h1 [r0] := Z0.trans K1 (allS (P := fun x => x ∈ [r0] ∨ h0.size ≤ x) (Or.inl (List.mem_of_getElem? (i := 0) rfl)) all0)
  have sz_t1 : h0.size ≤ t1 := Nat.le_trans Z0.1 z1
  refine OwnW.aloadN X1 (n := 6) d17_5 rfl rfl rfl ?_
  refine OwnW.aloadN X1 (n := 7) d17_6 rfl rfl rfl ?_
  refine OwnW.getfield X1 (n := 10) d17_7 (hw _ (List.mem_of_getElem? (i := 43) rfl)) Via.refl b1.2.1 rfl ?_
  intro T2 X2
  refine OwnW.iloadN X2 (n := 11) d17_10 rfl rfl ?_
  refine OwnW.aloadN X2 (n := 12) d17_11 rfl rfl rfl ?_
  refine OwnW.getfield X2 (n := 15) d17_12 (hw _ (List.mem_of_getElem? (i := 45) rfl)) Via.refl b1.2.2.1 rfl ?_
  intro T3 X3
  have fk4 := (E1s.keep K1)
  have fk5 := (F1s.keep K1 (ninS (Ne.symm n02) nin0))
  have fk6 := (V1s.keep K1 (ninS (Ne.symm n02) nin0))
  have fk7 := (A1s.keep K1 (ninS (Ne.symm n0tn) nin0))
  refine OwnW.call_virtual_n X3 (z := (⟨"java/lang/String", "getBytes", "([BIB)V"⟩ : MethodName)) (yv := (⟨"java/lang/String", "getBytes", "([BIB)V"⟩ : MethodName)) (a := r2) (C := "java/lang/String") (n := 18) d17_15 (hw _ (List.mem_of_getElem? (i := 113) rfl)) (hw _ (List.mem_of_getElem? (i := 114) rfl)) (hw _ (List.mem_of_getElem? (i := 115) rfl)) (hw _ (List.mem_of_getElem? (i := 116) rfl)) (fun hz => notFace_of_selects (args := #[]) (mvT hz (hw _ (List.mem_of_getElem? (i := 116) rfl)))) (hw _ (List.mem_of_getElem? (i := 117) rfl)) (hw _ (List.mem_of_getElem? (i := 3) rfl)) (by decide) fk4 (rmGB1 l Z a0 hw hE [] r2 t1 h1 n0 O1 tn us hul fk4 fk5 fk6 fk7 _ ks.length (by omega) (by simp [own_ub_len]; omega) a1 ge_t1 ne_tn_t1 zc hzc S_compact) (OwnW.sfS (List.mem_append_right _ m1) OwnW.sf0) (argsL := [(.ref t1), (.int (Int32.ofNat ks.length)), (.int (1 : Int32))]) (rest := []) rfl rfl (OwnW.lenA pd___BIB_V rfl) (W := 0) (Nat.le_of_eq rfl) (by decide) (by decide) (by decide) (by decide) rfl ?_
  intro T8 h8 g8 hle8 X8 ⟨k8, a8⟩
  have K8 := k8
  have O8 := O1.keep K8 (allS ge_t1 all0)
  have Z8 : Keep h0 h8 [r0] := Z1.trans K8 (allS (P := fun x => x ∈ [r0] ∨ h0.size ≤ x) (Or.inr sz_t1) all0)
  have fk9 := (b1.1.keep K8)
  have fk10 := (b1.2.1.keep K8 (ninS ne_r0_t1 nin0))
  have fk11 := (b1.2.2.1.keep K8 (ninS ne_r0_t1 nin0))
  have fk12 := (b1.2.2.2.1.keep K8 (ninS ne_r0_t1 nin0))
  have fk13 := (b1.2.2.2.2.keep K8 (ninS ne_r0_t1 nin0))
  exact OwnW.vreturn X8 rfl d17_18 ⟨Z8, _, sz_t1, ⟨fk9, fk10, fk11, fk12, fk13⟩, a8, (List.mem_append_left _ (List.mem_append_right _ m1))⟩ (by decide) (by decide)
theorem pd__ILjava_lang_String__V : parseMethodDescriptor "(ILjava/lang/String;)V" = some ⟨[.int, (.object "java/lang/String")], none⟩ := by decide +kernel
theorem d8_0 : decode jdk_68_method_22_code 0 = .ok (.aload_n 1, 1) := by decide +kernel
theorem d8_1 : decode jdk_68_method_22_code 1 = .ok (.ifnonnull 8, 3) := by decide +kernel
theorem d8_9 : decode jdk_68_method_22_code 9 = .ok (.aload_n 1, 1) := by decide +kernel
theorem d8_10 : decode jdk_68_method_22_code 10 = .ok (.invokevirtual 32, 3) := by decide +kernel
theorem d8_13 : decode jdk_68_method_22_code 13 = .ok (.istore_n 2, 1) := by decide +kernel
theorem d8_14 : decode jdk_68_method_22_code 14 = .ok (.aload_n 0, 1) := by decide +kernel
theorem d8_15 : decode jdk_68_method_22_code 15 = .ok (.aload_n 0, 1) := by decide +kernel
theorem d8_16 : decode jdk_68_method_22_code 16 = .ok (.getfield 79, 3) := by decide +kernel
theorem d8_19 : decode jdk_68_method_22_code 19 = .ok (.iload_n 2, 1) := by decide +kernel
theorem d8_20 : decode jdk_68_method_22_code 20 = .ok (.iadd, 1) := by decide +kernel
theorem d8_21 : decode jdk_68_method_22_code 21 = .ok (.invokevirtual 100, 3) := by decide +kernel
theorem d8_24 : decode jdk_68_method_22_code 24 = .ok (.aload_n 0, 1) := by decide +kernel
theorem d8_25 : decode jdk_68_method_22_code 25 = .ok (.aload_n 0, 1) := by decide +kernel
theorem d8_26 : decode jdk_68_method_22_code 26 = .ok (.getfield 79, 3) := by decide +kernel
theorem d8_29 : decode jdk_68_method_22_code 29 = .ok (.aload_n 1, 1) := by decide +kernel
theorem d8_30 : decode jdk_68_method_22_code 30 = .ok (.invokevirtual 208, 3) := by decide +kernel
theorem d8_33 : decode jdk_68_method_22_code 33 = .ok (.aload_n 0, 1) := by decide +kernel
theorem d8_34 : decode jdk_68_method_22_code 34 = .ok (.dup, 1) := by decide +kernel
theorem d8_35 : decode jdk_68_method_22_code 35 = .ok (.getfield 79, 3) := by decide +kernel
theorem d8_38 : decode jdk_68_method_22_code 38 = .ok (.iload_n 2, 1) := by decide +kernel
theorem d8_39 : decode jdk_68_method_22_code 39 = .ok (.iadd, 1) := by decide +kernel
theorem d8_40 : decode jdk_68_method_22_code 40 = .ok (.putfield 79, 3) := by decide +kernel
theorem d8_43 : decode jdk_68_method_22_code 43 = .ok (.aload_n 0, 1) := by decide +kernel
theorem d8_44 : decode jdk_68_method_22_code 44 = .ok (.areturn, 1) := by decide +kernel
theorem ef_rm8l (m : MethodId) (x0 : Addr) (x1 : Addr) : entryFrame m #[(.ref x0), (.ref x1)] 3 = mkF m 0 #[.val (.ref x0), .val (.ref x1), .unset] [] := by first | (simp [entryFrame, mkF, argsToLocals, Value.category]; done) | rfl
set_option maxRecDepth 65536 in
set_option maxHeartbeats 40000000 in
theorem rm8l {kn : Prop} (l : Launch) (Z : State) (a0 : Array Value) (hw : ∀ d ∈ tables_1, d.before a0 Z = true) (hE : EW Z a0 own_EL) (ws : List Jvm.Cond) (r0 : Addr) (r1 : Addr) (h0 : Heap) (n0 : Nat) (O0 : Old Z n0 h0) (tn : Addr) (us : List Nat) (hul : us.length ≤ 80) (E1s : Exa Z h0 r1 "java/lang/String") (F1s : Fld Z h0 r1 "java/lang/String" "coder" "B" (.int 0)) (V1s : Fld Z h0 r1 "java/lang/String" "value" "[B" (.ref tn)) (A1s : Ark Z h0 tn .byte (own_lb us)) (cc mq : Nat) (vs : List Value) (hcc : cc ≤ vs.length) (hmn : vs.length < cc + us.length) (hv8 : vs.length + mq ≤ 80) (hq : (mq = cc + us.length - vs.length ∧ vs.length + 2 ≤ cc + us.length - vs.length) ∨ (mq = vs.length + 2 ∧ cc + us.length - vs.length ≤ vs.length + 2)) (t : Addr) (B0 : own_B Z h0 r0 t 0 (Int32.ofNat cc)) (A0 : Ark Z h0 t .byte vs) (ge_r0 : n0 ≤ r0) (n0t : r0 ≠ t) (n01 : r0 ≠ r1) (n0tn : r0 ≠ tn) (S1 : own_U Z h0 r1 tn us) (zc : Int32) (hzc : ¬ zc = 0) (S_compact : Sta Z Z.heap "java/lang/String" "COMPACT_STRINGS" "Z" (.int zc)) :
    Ctr kn l Z own_EL (⟨"java/lang/AbstractStringBuilder", "append", "(Ljava/lang/String;)Ljava/lang/AbstractStringBuilder;"⟩ : MethodName) jdk_68_method_22_code 3 (some (.object "java/lang/AbstractStringBuilder")) ws ({ frames := 4, cells := 1, slots := 80, locals := 62 } : Room) n0 (r0 :: []) #[(.ref r0), (.ref r1)] h0 (Rt (fun w h g => w = .ref r0 ∧ Keep h0 h [r0] ∧ ∃ t', h0.size ≤ t' ∧ own_B Z h r0 t' 0 (Int32.ofNat (cc + us.length)) ∧ Ark Z h t' .byte ((vs ++ List.replicate (vs.length + mq - vs.length) (Value.int 0)).take cc ++ own_lb us ++ (vs ++ List.replicate (vs.length + mq - vs.length) (Value.int 0)).drop (cc + us.length)) ∧ Exa Z h t' "[B" ∧ t' ∈ g)) := by
  refine Ctr.of (plainFor_of_name pn_java_lang_AbstractStringBuilder) hE (fun m => ef_rm8l m r0 r1) ?_
  intro p e s m below meth c T0 X0
  have Z0 : Keep h0 h0 [r0] := Keep.refl _ _
  refine OwnW.aloadN X0 (n := 1) d8_0 rfl rfl rfl ?_
  refine OwnW.ifnonnull_y X0 (n1 := 9) d8_1 (by decide) rfl ?_
  refine OwnW.aloadN X0 (n := 10) d8_9 rfl rfl rfl ?_
  refine OwnW.call_virtual_v X0 (z := (⟨"java/lang/String", "length", "()I"⟩ : MethodName)) (yv := (⟨"java/lang/String", "length", "()I"⟩ : MethodName)) (a := r1) (C := "java/lang/String") (n := 13) d8_10 (hw _ (List.mem_of_getElem? (i := 58) rfl)) (hw _ (List.mem_of_getElem? (i := 59) rfl)) (hw _ (List.mem_of_getElem? (i := 60) rfl)) (hw _ (List.mem_of_getElem? (i := 61) rfl)) (fun hz => notFace_of_selects (args := #[]) (mvT hz (hw _ (List.mem_of_getElem? (i := 61) rfl)))) (hw _ (List.mem_of_getElem? (i := 62) rfl)) (hw _ (List.mem_of_getElem? (i := 3) rfl)) (by decide) E1s (rmLEN l Z a0 hw hE [] r1 h0 n0 O0 tn us hul S1 zc hzc S_compact) OwnW.sf0 (argsL := []) (rest := []) rfl rfl (OwnW.lenA pd___I rfl) (W := 0) (Nat.le_of_eq rfl) (by decide) (by decide) (by decide) (by decide) rfl ?_
  intro T1 h1 w1 g1 hle1 X1 ⟨q1, q2⟩
  subst q1 q2
  refine OwnW.istoreN X1 (l' := #[.val (.ref r0), .val (.ref r1), .val (.int (Int32.ofNat us.length))]) (n := 14) d8_13 rfl rfl ?_
  refine OwnW.aloadN X1 (n := 15) d8_14 rfl rfl rfl ?_
  refine OwnW.aloadN X1 (n := 16) d8_15 rfl rfl rfl ?_
  refine OwnW.getfield X1 (n := 19) d8_16 (hw _ (List.mem_of_getElem? (i := 69) rfl)) Via.refl B0.2.2.2.1 rfl ?_
  intro T2 X2
  refine OwnW.iloadN X2 (n := 20) d8_19 rfl rfl ?_
  refine OwnW.iadd X2 (n := 21) d8_20 rfl ?_
  rw [show (((Int32.ofNat cc) + (Int32.ofNat us.length)) : Int32) = (Int32.ofNat (cc + us.length)) from own_add cc us.length]
  refine OwnW.call_virtual_n X2 (z := (⟨"java/lang/AbstractStringBuilder", "ensureCapacityInternal", "(I)V"⟩ : MethodName)) (yv := (⟨"java/lang/AbstractStringBuilder", "ensureCapacityInternal", "(I)V"⟩ : MethodName)) (a := r0) (C := "java/lang/StringBuilder") (n := 24) d8_21 (hw _ (List.mem_of_getElem? (i := 71) rfl)) (OwnW.declOf (hw _ (List.mem_of_getElem? (i := 72) rfl)) (hw _ (List.mem_of_getElem? (i := 75) rfl))) (hw _ (List.mem_of_getElem? (i := 72) rfl)) (hw _ (List.mem_of_getElem? (i := 74) rfl)) (fun hz => notFace_of_selects (args := #[]) (mvT hz (hw _ (List.mem_of_getElem? (i := 74) rfl)))) (hw _ (List.mem_of_getElem? (i := 75) rfl)) (hw _ (List.mem_of_getElem? (i := 39) rfl)) (by decide) B0.1 (rm11 l Z a0 hw hE [] r0 h0 n0 O0 vs (cc + us.length) mq (by omega) (by omega) (by omega) hq (by omega) _ t B0 A0 ge_r0 n0t) (OwnW.sfS (List.mem_append_left _ (List.mem_cons_self ..)) OwnW.sf0) (argsL := [(.int (Int32.ofNat (cc + us.length)))]) (rest := []) rfl rfl (OwnW.lenA pd__I_V rfl) (W := 0) (Nat.le_of_eq rfl) (by decide) (by decide) (by decide) (by decide) rfl ?_
  intro T3 h3 g3 hle3 X3 ⟨k3, t3, z3, b3, a3, ex3, m3⟩
  have ne_r0_t3 : r0 ≠ t3 := Nat.ne_of_lt (Nat.lt_of_lt_of_le B0.1.lt z3)
  have ne_r1_t3 : r1 ≠ t3 := Nat.ne_of_lt (Nat.lt_of_lt_of_le E1s.lt z3)
  have ne_tn_t3 : tn ≠ t3 := Nat.ne_of_lt (Nat.lt_of_lt_of_le A1s.lt z3)
  have ne_t_t3 : t ≠ t3 := Nat.ne_of_lt (Nat.lt_of_lt_of_le A0.lt z3)
  have ge_t3 : n0 ≤ t3 := Nat.le_trans (OwnW.oldLe O0) z3
  have K3 := k3
  have O3 := O0.keep K3 (allS ge_r0 all0)
  have Z3 : Keep h0 h3 [r0] := Z0.trans K3 (allS (P := fun x => x ∈ [r0] ∨ h0.size ≤ x) (Or.inl (List.mem_of_getElem? (i := 0) rfl)) all0)
  have sz_t3 : h0.size ≤ t3 := Nat.le_trans Z0.1 z3
  refine OwnW.aloadN X3 (n := 25) d8_24 rfl rfl rfl ?_
  refine OwnW.aloadN X3 (n := 26) d8_25 rfl rfl rfl ?_
  refine OwnW.getfield X3 (n := 29) d8_26 (hw _ (List.mem_of_getElem? (i := 69) rfl)) Via.refl b3.2.2.2.1 rfl ?_
  intro T4 X4
  refine OwnW.aloadN X4 (n := 30) d8_29 rfl rfl rfl ?_
  have fk5 := (E1s.keep K3)
  have fk6 := (F1s.keep K3 (ninS (Ne.symm n01) nin0))
  have fk7 := (V1s.keep K3 (ninS (Ne.symm n01) nin0))
  have fk8 := (A1s.keep K3 (ninS (Ne.symm n0tn) nin0))
  have fk9 := (A0.keep K3 (ninS (Ne.symm n0t) nin0))
  refine OwnW.call_virtual_n X4 (z := (⟨"java/lang/AbstractStringBuilder", "putStringAt", "(ILjava/lang/String;)V"⟩ : MethodName)) (yv := (⟨"java/lang/AbstractStringBuilder", "putStringAt", "(ILjava/lang/String;)V"⟩ : MethodName)) (a := r0) (C := "java/lang/StringBuilder") (n := 33) d8_30 (hw _ (List.mem_of_getElem? (i := 102) rfl)) (OwnW.declOf (hw _ (List.mem_of_getElem? (i := 103) rfl)) (hw _ (List.mem_of_getElem? (i := 106) rfl))) (hw _ (List.mem_of_getElem? (i := 103) rfl)) (hw _ (List.mem_of_getElem? (i := 105) rfl)) (fun hz => notFace_of_selects (args := #[]) (mvT hz (hw _ (List.mem_of_getElem? (i := 105) rfl)))) (hw _ (List.mem_of_getElem? (i := 106) rfl)) (hw _ (List.mem_of_getElem? (i := 39) rfl)) (by decide) b3.1 (rm17e l Z a0 hw hE [] r0 r1 h3 n0 O3 tn us hul fk5 fk6 fk7 fk8 _ cc (by omega) (by first | omega | (simp; omega)) _ t3 ⟨b3.1, b3.2.1, b3.2.2.1, b3.2.2.2.1, b3.2.2.2.2⟩ a3 ge_t3 ne_tn_t3 zc hzc S_compact) (OwnW.sfS (List.mem_append_right _ m3) OwnW.sf0) (argsL := [(.int (Int32.ofNat cc)), (.ref r1)]) (rest := []) rfl rfl (OwnW.lenA pd__ILjava_lang_String__V rfl) (W := 0) (Nat.le_of_eq rfl) (by decide) (by decide) (by decide) (by decide) rfl ?_
  intro T10 h10 g10 hle10 X10 ⟨k10, a10⟩
  have K10 := k10
  have O10 := O3.keep K10 (allS ge_t3 all0)
  have Z10 : Keep h0 h10 [r0] := Z3.trans K10 (allS (P := fun x => x ∈ [r0] ∨ h0.size ≤ x) (Or.inr sz_t3) all0)
  refine OwnW.aloadN X10 (n := 34) d8_33 rfl rfl rfl ?_
  refine OwnW.dup X10 (n := 35) d8_34 rfl rfl ?_
  have fk11 := (b3.2.2.2.1.keep K10 (ninS ne_r0_t3 nin0))
  refine OwnW.getfield X10 (n := 38) d8_35 (hw _ (List.mem_of_getElem? (i := 69) rfl)) Via.refl fk11 rfl ?_
  intro T12 X12
  refine OwnW.iloadN X12 (n := 39) d8_38 rfl rfl ?_
  refine OwnW.iadd X12 (n := 40) d8_39 rfl ?_
  rw [show (((Int32.ofNat cc) + (Int32.ofNat us.length)) : Int32) = (Int32.ofNat (cc + us.length)) from own_add cc us.length]
  have fk13 := (b3.1.keep K10)
  refine OwnW.putfield X12 (ty := .int) (v' := (.int (Int32.ofNat (cc + us.length)))) (n := 43) d8_40 (hw _ (List.mem_of_getElem? (i := 69) rfl)) Via.refl fk11 fk13 (Or.inl (hw _ (List.mem_of_getElem? (i := 70) rfl))) (hw _ (List.mem_of_getElem? (i := 30) rfl)) (by decide) rfl rfl ge_r0 (List.mem_append_left _ (List.mem_append_left _ (List.mem_append_left _ (List.mem_cons_self ..)))) rfl ?_
  intro T14 h14 X14 W14 Fw14
  have fk15 := (b3.2.1.keep K10 (ninS ne_r0_t3 nin0))
  have fk16 := fk15.other W14 (Or.inr (slot_ne (Or.inl (hw _ (List.mem_of_getElem? (i := 44) rfl))) (Or.inl (hw _ (List.mem_of_getElem? (i := 70) rfl))) (by decide) (t := (.array .byte)) (t' := .int) (by decide) (by decide)))
  have fk17 := (b3.2.2.1.keep K10 (ninS ne_r0_t3 nin0))
  have fk18 := fk17.other W14 (Or.inr (slot_ne (Or.inl (hw _ (List.mem_of_getElem? (i := 46) rfl))) (Or.inl (hw _ (List.mem_of_getElem? (i := 70) rfl))) (by decide) (t := .byte) (t' := .int) (by decide) (by decide)))
  have fk19 := (b3.2.2.2.2.keep K10 (ninS ne_r0_t3 nin0))
  have fk20 := fk19.other W14 (Or.inr (slot_ne (Or.inl (hw _ (List.mem_of_getElem? (i := 327) rfl))) (Or.inl (hw _ (List.mem_of_getElem? (i := 70) rfl))) (by decide) (t := .boolean) (t' := .int) (by decide) (by decide)))
  have K14 := (Keep.of_wr W14)
  have O14 := O10.keep K14 (allS ge_r0 all0)
  have Z14 : Keep h0 h14 [r0] := Z10.trans K14 (allS (P := fun x => x ∈ [r0] ∨ h0.size ≤ x) (Or.inl (List.mem_of_getElem? (i := 0) rfl)) all0)
  refine OwnW.aloadN X14 (n := 44) d8_43 rfl rfl rfl ?_
  have fk21 := (fk13.keep K14)
  have fk22 := (a10.keep K14 (ninS (Ne.symm ne_r0_t3) nin0))
  have fk23 := ((ex3.keep K10).keep K14)
  exact OwnW.areturn X14 rfl rfl rfl d8_44 ⟨rfl, Z14, _, sz_t3, ⟨fk21, fk16, fk18, Fw14, fk20⟩, fk22, fk23, (List.mem_append_left _ (List.mem_append_right _ m3))⟩ (by decide) (by decide)
theorem pd__Ljava_lang_String__Ljava_lang_AbstractStringBuilder_ : parseMethodDescriptor "(Ljava/lang/String;)Ljava/lang/AbstractStringBuilder;" = some ⟨[(.object "java/lang/String")], some (.object "java/lang/AbstractStringBuilder")⟩ := by decide +kernel
theorem d7_0 : decode jdk_67_method_7_code 0 = .ok (.aload_n 0, 1) := by decide +kernel
theorem d7_1 : decode jdk_67_method_7_code 1 = .ok (.aload_n 1, 1) := by decide +kernel
theorem d7_2 : decode jdk_67_method_7_code 2 = .ok (.invokespecial 29, 3) := by decide +kernel
theorem d7_5 : decode jdk_67_method_7_code 5 = .ok (.pop, 1) := by decide +kernel
theorem d7_6 : decode jdk_67_method_7_code 6 = .ok (.aload_n 0, 1) := by decide +kernel
theorem d7_7 : decode jdk_67_method_7_code 7 = .ok (.areturn, 1) := by decide +kernel
theorem ef_rm7l (m : MethodId) (x0 : Addr) (x1 : Addr) : entryFrame m #[(.ref x0), (.ref x1)] 2 = mkF m 0 #[.val (.ref x0), .val (.ref x1)] [] := by first | (simp [entryFrame, mkF, argsToLocals, Value.category]; done) | rfl
set_option maxRecDepth 65536 in
set_option maxHeartbeats 40000000 in
theorem rm7l {kn : Prop} (l : Launch) (Z : State) (a0 : Array Value) (hw : ∀ d ∈ tables_1, d.before a0 Z = true) (hE : EW Z a0 own_EL) (ws : List Jvm.Cond) (r0 : Addr) (r1 : Addr) (h0 : Heap) (n0 : Nat) (O0 : Old Z n0 h0) (tn : Addr) (us : List Nat) (hul : us.length ≤ 80) (E1s : Exa Z h0 r1 "java/lang/String") (F1s : Fld Z h0 r1 "java/lang/String" "coder" "B" (.int 0)) (V1s : Fld Z h0 r1 "java/lang/String" "value" "[B" (.ref tn)) (A1s : Ark Z h0 tn .byte (own_lb us)) (cc mq : Nat) (vs : List Value) (hcc : cc ≤ vs.length) (hmn : vs.length < cc + us.length) (hv8 : vs.length + mq ≤ 80) (hq : (mq = cc + us.length - vs.length ∧ vs.length + 2 ≤ cc + us.length - vs.length) ∨ (mq = vs.length + 2 ∧ cc + us.length - vs.length ≤ vs.length + 2)) (t : Addr) (B0 : own_B Z h0 r0 t 0 (Int32.ofNat cc)) (A0 : Ark Z h0 t .byte vs) (ge_r0 : n0 ≤ r0) (n0t : r0 ≠ t) (n01 : r0 ≠ r1) (n0tn : r0 ≠ tn) (S1 : own_U Z h0 r1 tn us) (zc : Int32) (hzc : ¬ zc = 0) (S_compact : Sta Z Z.heap "java/lang/String" "COMPACT_STRINGS" "Z" (.int zc)) :
    Ctr kn l Z own_EL (⟨"java/lang/StringBuilder", "append", "(Ljava/lang/String;)Ljava/lang/StringBuilder;"⟩ : MethodName) jdk_67_method_7_code 2 (some (.object "java/lang/StringBuilder")) ws ({ frames := 5, cells := 1, slots := 80, locals := 76 } : Room) n0 (r0 :: []) #[(.ref r0), (.ref r1)] h0 (Rt (fun w h g => w = .ref r0 ∧ Keep h0 h [r0] ∧ ∃ t', h0.size ≤ t' ∧ own_B Z h r0 t' 0 (Int32.ofNat (cc + us.length)) ∧ Ark Z h t' .byte ((vs ++ List.replicate (vs.length + mq - vs.length) (Value.int 0)).take cc ++ own_lb us ++ (vs ++ List.replicate (vs.length + mq - vs.length) (Value.int 0)).drop (cc + us.length)) ∧ Exa Z h t' "[B" ∧ t' ∈ g)) := by
  refine Ctr.of (plainFor_of_name pn_java_lang_StringBuilder) hE (fun m => ef_rm7l m r0 r1) ?_
  intro p e s m below meth c T0 X0
  have Z0 : Keep h0 h0 [r0] := Keep.refl _ _
  refine OwnW.aloadN X0 (n := 1) d7_0 rfl rfl rfl ?_
  refine OwnW.aloadN X0 (n := 2) d7_1 rfl rfl rfl ?_
  refine OwnW.call_super_v X0 (z := (⟨"java/lang/AbstractStringBuilder", "append", "(Ljava/lang/String;)Ljava/lang/AbstractStringBuilder;"⟩ : MethodName)) (a := r0) (C := "java/lang/StringBuilder") (n := 5) d7_2 (hw _ (List.mem_of_getElem? (i := 53) rfl)) (OwnW.sameOf (u := (⟨"java/lang/AbstractStringBuilder", "getValue", "()[B"⟩ : MethodName)) (hw _ (List.mem_of_getElem? (i := 54) rfl)) (hw _ (List.mem_of_getElem? (i := 134) rfl)) rfl (hw _ (List.mem_of_getElem? (i := 133) rfl)) (by decide)) (hw _ (List.mem_of_getElem? (i := 54) rfl)) (hw _ (List.mem_of_getElem? (i := 55) rfl)) (hw _ (List.mem_of_getElem? (i := 57) rfl)) (hw _ (List.mem_of_getElem? (i := 39) rfl)) (by decide) B0.1 (rm8l l Z a0 hw hE [] r0 r1 h0 n0 O0 tn us hul E1s F1s V1s A1s cc mq vs hcc hmn hv8 hq t B0 A0 ge_r0 n0t n01 n0tn S1 zc hzc S_compact) (OwnW.sfS (List.mem_cons_self ..) OwnW.sf0) (argsL := [(.ref r1)]) (rest := []) rfl rfl (OwnW.lenA pd__Ljava_lang_String__Ljava_lang_AbstractStringBuilder_ rfl) (W := 0) (Nat.le_of_eq rfl) (by decide) (by decide) (by decide) (by decide) rfl ?_
  intro T1 h1 w1 g1 hle1 X1 ⟨q1, kq, tq, zq, bq, aq, eq, mmq⟩
  subst q1
  refine OwnW.pop X1 (n := 6) d7_5 rfl rfl ?_
  refine OwnW.aloadN X1 (n := 7) d7_6 rfl rfl rfl ?_
  exact OwnW.areturn X1 rfl rfl rfl d7_7 ⟨rfl, kq, tq, zq, bq, aq, eq, List.mem_append_right _ mmq⟩ (by decide) (by decide)
theorem ef_rm8u (m : MethodId) (x0 : Addr) (x1 : Addr) : entryFrame m #[(.ref x0), (.ref x1)] 3 = mkF m 0 #[.val (.ref x0), .val (.ref x1), .unset] [] := by first | (simp [entryFrame, mkF, argsToLocals, Value.category]; done) | rfl
set_option maxRecDepth 65536 in
set_option maxHeartbeats 40000000 in
theorem rm8u {kn : Prop} (l : Launch) (Z : State) (a0 : Array Value) (hw : ∀ d ∈ tables_1, d.before a0 Z = true) (hE : EW Z a0 own_EL) (ws : List Jvm.Cond) (r0 : Addr) (r1 : Addr) (h0 : Heap) (n0 : Nat) (O0 : Old Z n0 h0) (tn : Addr) (us : List Nat) (hul : us.length ≤ 80) (E1s : Exa Z h0 r1 "java/lang/String") (F1s : Fld Z h0 r1 "java/lang/String" "coder" "B" (.int 1)) (V1s : Fld Z h0 r1 "java/lang/String" "value" "[B" (.ref tn)) (A1s : Ark Z h0 tn .byte (own_ub us)) (mq : Nat) (ks : List Nat) (hks : ∀ u ∈ ks, u ≤ 255) (hpos : 0 < us.length) (hur : us.length ≤ mq) (hv8 : ks.length + mq ≤ 80) (hq : (mq = ks.length + us.length - ks.length ∧ ks.length + 2 ≤ ks.length + us.length - ks.length) ∨ (mq = ks.length + 2 ∧ ks.length + us.length - ks.length ≤ ks.length + 2)) (t : Addr) (B0 : own_B Z h0 r0 t 0 (Int32.ofNat ks.length)) (A0 : Ark Z h0 t .byte (own_lb ks)) (ge_r0 : n0 ≤ r0) (n0t : r0 ≠ t) (n01 : r0 ≠ r1) (n0tn : r0 ≠ tn) (S1 : own_U Z h0 r1 tn us) (zc : Int32) (hzc : ¬ zc = 0) (S_compact : Sta Z Z.heap "java/lang/String" "COMPACT_STRINGS" "Z" (.int zc)) (fm : Value) (hfm : fm = .null ∨ ∃ r, fm = .ref r) (S_fm : Sta Z Z.heap "jdk/internal/util/Preconditions" "SIOOBE_FORMATTER" "Ljava/util/function/BiFunction;" fm) (S_ad : Sta Z Z.heap "java/lang/StringUTF16" "$assertionsDisabled" "Z" (.int 1)) (S_hi : Sta Z Z.heap "java/lang/StringUTF16" "HI_BYTE_SHIFT" "I" (.int 0)) (S_lo : Sta Z Z.heap "java/lang/StringUTF16" "LO_BYTE_SHIFT" "I" (.int 8)) :
    Ctr kn l Z own_EL (⟨"java/lang/AbstractStringBuilder", "append", "(Ljava/lang/String;)Ljava/lang/AbstractStringBuilder;"⟩ : MethodName) jdk_68_method_22_code 3 (some (.object "java/lang/AbstractStringBuilder")) ws ({ frames := 8, cells := 2, slots := 240, locals := 116 } : Room) n0 (r0 :: []) #[(.ref r0), (.ref r1)] h0 (Rt (fun w h g => w = .ref r0 ∧ Keep h0 h [r0] ∧ ∃ t', h0.size ≤ t' ∧ own_B Z h r0 t' 1 (Int32.ofNat (ks.length + us.length)) ∧ Ark Z h t' .byte ((own_ub ks ++ List.replicate (2 * mq) (Value.int 0)).take (2 * ks.length) ++ own_ub us ++ (own_ub ks ++ List.replicate (2 * mq) (Value.int 0)).drop (2 * ks.length + 2 * us.length)) ∧ t' ∈ g)) := by
  refine Ctr.of (plainFor_of_name pn_java_lang_AbstractStringBuilder) hE (fun m => ef_rm8u m r0 r1) ?_
  intro p e s m below meth c T0 X0
  have Z0 : Keep h0 h0 [r0] := Keep.refl _ _
  refine OwnW.aloadN X0 (n := 1) d8_0 rfl rfl rfl ?_
  refine OwnW.ifnonnull_y X0 (n1 := 9) d8_1 (by decide) rfl ?_
  refine OwnW.aloadN X0 (n := 10) d8_9 rfl rfl rfl ?_
  refine OwnW.call_virtual_v X0 (z := (⟨"java/lang/String", "length", "()I"⟩ : MethodName)) (yv := (⟨"java/lang/String", "length", "()I"⟩ : MethodName)) (a := r1) (C := "java/lang/String") (n := 13) d8_10 (hw _ (List.mem_of_getElem? (i := 58) rfl)) (hw _ (List.mem_of_getElem? (i := 59) rfl)) (hw _ (List.mem_of_getElem? (i := 60) rfl)) (hw _ (List.mem_of_getElem? (i := 61) rfl)) (fun hz => notFace_of_selects (args := #[]) (mvT hz (hw _ (List.mem_of_getElem? (i := 61) rfl)))) (hw _ (List.mem_of_getElem? (i := 62) rfl)) (hw _ (List.mem_of_getElem? (i := 3) rfl)) (by decide) E1s (rmLEN l Z a0 hw hE [] r1 h0 n0 O0 tn us hul S1 zc hzc S_compact) OwnW.sf0 (argsL := []) (rest := []) rfl rfl (OwnW.lenA pd___I rfl) (W := 0) (Nat.le_of_eq rfl) (by decide) (by decide) (by decide) (by decide) rfl ?_
  intro T1 h1 w1 g1 hle1 X1 ⟨q1, q2⟩
  subst q1 q2
  refine OwnW.istoreN X1 (l' := #[.val (.ref r0), .val (.ref r1), .val (.int (Int32.ofNat us.length))]) (n := 14) d8_13 rfl rfl ?_
  refine OwnW.aloadN X1 (n := 15) d8_14 rfl rfl rfl ?_
  refine OwnW.aloadN X1 (n := 16) d8_15 rfl rfl rfl ?_
  refine OwnW.getfield X1 (n := 19) d8_16 (hw _ (List.mem_of_getElem? (i := 69) rfl)) Via.refl B0.2.2.2.1 rfl ?_
  intro T2 X2
  refine OwnW.iloadN X2 (n := 20) d8_19 rfl rfl ?_
  refine OwnW.iadd X2 (n := 21) d8_20 rfl ?_
  rw [show (((Int32.ofNat ks.length) + (Int32.ofNat us.length)) : Int32) = (Int32.ofNat (ks.length + us.length)) from own_add ks.length us.length]
  have hlk := own_lb_len ks
  refine OwnW.call_virtual_n X2 (z := (⟨"java/lang/AbstractStringBuilder", "ensureCapacityInternal", "(I)V"⟩ : MethodName)) (yv := (⟨"java/lang/AbstractStringBuilder", "ensureCapacityInternal", "(I)V"⟩ : MethodName)) (a := r0) (C := "java/lang/StringBuilder") (n := 24) d8_21 (hw _ (List.mem_of_getElem? (i := 71) rfl)) (OwnW.declOf (hw _ (List.mem_of_getElem? (i := 72) rfl)) (hw _ (List.mem_of_getElem? (i := 75) rfl))) (hw _ (List.mem_of_getElem? (i := 72) rfl)) (hw _ (List.mem_of_getElem? (i := 74) rfl)) (fun hz => notFace_of_selects (args := #[]) (mvT hz (hw _ (List.mem_of_getElem? (i := 74) rfl)))) (hw _ (List.mem_of_getElem? (i := 75) rfl)) (hw _ (List.mem_of_getElem? (i := 39) rfl)) (by decide) B0.1 (rm11 l Z a0 hw hE [] r0 h0 n0 O0 (own_lb ks) (ks.length + us.length) mq (by omega) (by omega) (by omega) (by rw [hlk]; exact hq) (by omega) _ t B0 A0 ge_r0 n0t) (OwnW.sfS (List.mem_append_left _ (List.mem_cons_self ..)) OwnW.sf0) (argsL := [(.int (Int32.ofNat (ks.length + us.length)))]) (rest := []) rfl rfl (OwnW.lenA pd__I_V rfl) (W := 0) (Nat.le_of_eq rfl) (by decide) (by decide) (by decide) (by decide) rfl ?_
  intro T3 h3 g3 hle3 X3 ⟨k3, t3, z3, b3, a3, ex3, m3⟩
  have ne_r0_t3 : r0 ≠ t3 := Nat.ne_of_lt (Nat.lt_of_lt_of_le B0.1.lt z3)
  have ne_r1_t3 : r1 ≠ t3 := Nat.ne_of_lt (Nat.lt_of_lt_of_le E1s.lt z3)
  have ne_tn_t3 : tn ≠ t3 := Nat.ne_of_lt (Nat.lt_of_lt_of_le A1s.lt z3)
  have ne_t_t3 : t ≠ t3 := Nat.ne_of_lt (Nat.lt_of_lt_of_le A0.lt z3)
  have ge_t3 : n0 ≤ t3 := Nat.le_trans (OwnW.oldLe O0) z3
  have K3 := k3
  have O3 := O0.keep K3 (allS ge_r0 all0)
  have Z3 : Keep h0 h3 [r0] := Z0.trans K3 (allS (P := fun x => x ∈ [r0] ∨ h0.size ≤ x) (Or.inl (List.mem_of_getElem? (i := 0) rfl)) all0)
  have sz_t3 : h0.size ≤ t3 := Nat.le_trans Z0.1 z3
  rw [show (own_lb ks).length + mq - (own_lb ks).length = mq from by omega] at a3
  refine OwnW.aloadN X3 (n := 25) d8_24 rfl rfl rfl ?_
  refine OwnW.aloadN X3 (n := 26) d8_25 rfl rfl rfl ?_
  refine OwnW.getfield X3 (n := 29) d8_26 (hw _ (List.mem_of_getElem? (i := 69) rfl)) Via.refl b3.2.2.2.1 rfl ?_
  intro T4 X4
  refine OwnW.aloadN X4 (n := 30) d8_29 rfl rfl rfl ?_
  have fk5 := (E1s.keep K3)
  have fk6 := (F1s.keep K3 (ninS (Ne.symm n01) nin0))
  have fk7 := (V1s.keep K3 (ninS (Ne.symm n01) nin0))
  have fk8 := (A1s.keep K3 (ninS (Ne.symm n0tn) nin0))
  have fk9 := (A0.keep K3 (ninS (Ne.symm n0t) nin0))
  refine OwnW.call_virtual_n X4 (z := (⟨"java/lang/AbstractStringBuilder", "putStringAt", "(ILjava/lang/String;)V"⟩ : MethodName)) (yv := (⟨"java/lang/AbstractStringBuilder", "putStringAt", "(ILjava/lang/String;)V"⟩ : MethodName)) (a := r0) (C := "java/lang/StringBuilder") (n := 33) d8_30 (hw _ (List.mem_of_getElem? (i := 102) rfl)) (OwnW.declOf (hw _ (List.mem_of_getElem? (i := 103) rfl)) (hw _ (List.mem_of_getElem? (i := 106) rfl))) (hw _ (List.mem_of_getElem? (i := 103) rfl)) (hw _ (List.mem_of_getElem? (i := 105) rfl)) (fun hz => notFace_of_selects (args := #[]) (mvT hz (hw _ (List.mem_of_getElem? (i := 105) rfl)))) (hw _ (List.mem_of_getElem? (i := 106) rfl)) (hw _ (List.mem_of_getElem? (i := 39) rfl)) (by decide) b3.1 (rm17u l Z a0 hw hE [] r0 r1 h3 n0 O3 tn us hul fk5 fk6 fk7 fk8 ks (List.replicate mq (Value.int 0)) (by simp; omega) hks t3 ⟨b3.1, b3.2.1, b3.2.2.1, b3.2.2.2.1, b3.2.2.2.2⟩ a3 ge_r0 ne_r0_t3 zc hzc S_compact fm hfm S_fm S_ad S_hi S_lo (by simpa using hur) n01 n0tn) (OwnW.sfS (List.mem_append_left _ (List.mem_append_left _ (List.mem_cons_self ..))) OwnW.sf0) (argsL := [(.int (Int32.ofNat ks.length)), (.ref r1)]) (rest := []) rfl rfl (OwnW.lenA pd__ILjava_lang_String__V rfl) (W := 0) (Nat.le_of_eq rfl) (by decide) (by decide) (by decide) (by decide) rfl ?_
  intro T10 h10 g10 hle10 X10 ⟨k10, t10, z10, b10, a10, m10⟩
  have ne_r0_t10 : r0 ≠ t10 := Nat.ne_of_lt (Nat.lt_of_lt_of_le b3.1.lt z10)
  have ge_t10 : n0 ≤ t10 := Nat.le_trans (OwnW.oldLe O3) z10
  have K10 := k10
  have O10 := O3.keep K10 (allS ge_r0 all0)
  have Z10 : Keep h0 h10 [r0] := Z3.trans K10 (allS (P := fun x => x ∈ [r0] ∨ h0.size ≤ x) (Or.inl (List.mem_of_getElem? (i := 0) rfl)) all0)
  have sz_t10 : h0.size ≤ t10 := Nat.le_trans Z3.1 z10
  rw [show (List.replicate mq (Value.int 0)).length = mq from List.length_replicate ..] at a10
  refine OwnW.aloadN X10 (n := 34) d8_33 rfl rfl rfl ?_
  refine OwnW.dup X10 (n := 35) d8_34 rfl rfl ?_
  refine OwnW.getfield X10 (n := 38) d8_35 (hw _ (List.mem_of_getElem? (i := 69) rfl)) Via.refl b10.2.2.2.1 rfl ?_
  intro T11 X11
  refine OwnW.iloadN X11 (n := 39) d8_38 rfl rfl ?_
  refine OwnW.iadd X11 (n := 40) d8_39 rfl ?_
  rw [show (((Int32.ofNat ks.length) + (Int32.ofNat us.length)) : Int32) = (Int32.ofNat (ks.length + us.length)) from own_add ks.length us.length]
  refine OwnW.putfield X11 (ty := .int) (v' := (.int (Int32.ofNat (ks.length + us.length)))) (n := 43) d8_40 (hw _ (List.mem_of_getElem? (i := 69) rfl)) Via.refl b10.2.2.2.1 b10.1 (Or.inl (hw _ (List.mem_of_getElem? (i := 70) rfl))) (hw _ (List.mem_of_getElem? (i := 30) rfl)) (by decide) rfl rfl ge_r0 (List.mem_append_left _ (List.mem_append_left _ (List.mem_append_left _ (List.mem_cons_self ..)))) rfl ?_
  intro T12 h12 X12 W12 Fw12
  have fk13 := b10.2.1.other W12 (Or.inr (slot_ne (Or.inl (hw _ (List.mem_of_getElem? (i := 44) rfl))) (Or.inl (hw _ (List.mem_of_getElem? (i := 70) rfl))) (by decide) (t := (.array .byte)) (t' := .int) (by decide) (by decide)))
  have fk14 := b10.2.2.1.other W12 (Or.inr (slot_ne (Or.inl (hw _ (List.mem_of_getElem? (i := 46) rfl))) (Or.inl (hw _ (List.mem_of_getElem? (i := 70) rfl))) (by decide) (t := .byte) (t' := .int) (by decide) (by decide)))
  have fk15 := b10.2.2.2.2.other W12 (Or.inr (slot_ne (Or.inl (hw _ (List.mem_of_getElem? (i := 327) rfl))) (Or.inl (hw _ (List.mem_of_getElem? (i := 70) rfl))) (by decide) (t := .boolean) (t' := .int) (by decide) (by decide)))
  have K12 := (Keep.of_wr W12)
  have O12 := O10.keep K12 (allS ge_r0 all0)
  have Z12 : Keep h0 h12 [r0] := Z10.trans K12 (allS (P := fun x => x ∈ [r0] ∨ h0.size ≤ x) (Or.inl (List.mem_of_getElem? (i := 0) rfl)) all0)
  refine OwnW.aloadN X12 (n := 44) d8_43 rfl rfl rfl ?_
  have fk16 := (b10.1.keep K12)
  have fk17 := (a10.keep K12 (ninS (Ne.symm ne_r0_t10) nin0))
  exact OwnW.areturn X12 rfl rfl rfl d8_44 ⟨rfl, Z12, _, sz_t10, ⟨fk16, fk13, fk14, Fw12, fk15⟩, fk17, (List.mem_append_right _ m10)⟩ (by decide) (by decide)
theorem ef_rm7u (m : MethodId) (x0 : Addr) (x1 : Addr) : entryFrame m #[(.ref x0), (.ref x1)] 2 = mkF m 0 #[.val (.ref x0), .val (.ref x1)] [] := by first | (simp [entryFrame, mkF, argsToLocals, Value.category]; done) | rfl
set_option maxRecDepth 65536 in
set_option maxHeartbeats 40000000 in
theorem rm7u {kn : Prop} (l : Launch) (Z : State) (a0 : Array Value) (hw : ∀ d ∈ tables_1, d.before a0 Z = true) (hE : EW Z a0 own_EL) (ws : List Jvm.Cond) (r0 : Addr) (r1 : Addr) (h0 : Heap) (n0 : Nat) (O0 : Old Z n0 h0) (tn : Addr) (us : List Nat) (hul : us.length ≤ 80) (E1s : Exa Z h0 r1 "java/lang/String") (F1s : Fld Z h0 r1 "java/lang/String" "coder" "B" (.int 1)) (V1s : Fld Z h0 r1 "java/lang/String" "value" "[B" (.ref tn)) (A1s : Ark Z h0 tn .byte (own_ub us)) (mq : Nat) (ks : List Nat) (hks : ∀ u ∈ ks, u ≤ 255) (hpos : 0 < us.length) (hur : us.length ≤ mq) (hv8 : ks.length + mq ≤ 80) (hq : (mq = ks.length + us.length - ks.length ∧ ks.length + 2 ≤ ks.length + us.length - ks.length) ∨ (mq = ks.length + 2 ∧ ks.length + us.length - ks.length ≤ ks.length + 2)) (t : Addr) (B0 : own_B Z h0 r0 t 0 (Int32.ofNat ks.length)) (A0 : Ark Z h0 t .byte (own_lb ks)) (ge_r0 : n0 ≤ r0) (n0t : r0 ≠ t) (n01 : r0 ≠ r1) (n0tn : r0 ≠ tn) (S1 : own_U Z h0 r1 tn us) (zc : Int32) (hzc : ¬ zc = 0) (S_compact : Sta Z Z.heap "java/lang/String" "COMPACT_STRINGS" "Z" (.int zc)) (fm : Value) (hfm : fm = .null ∨ ∃ r, fm = .ref r) (S_fm : Sta Z Z.heap "jdk/internal/util/Preconditions" "SIOOBE_FORMATTER" "Ljava/util/function/BiFunction;" fm) (S_ad : Sta Z Z.heap "java/lang/StringUTF16" "$assertionsDisabled" "Z" (.int 1)) (S_hi : Sta Z Z.heap "java/lang/StringUTF16" "HI_BYTE_SHIFT" "I" (.int 0)) (S_lo : Sta Z Z.heap "java/lang/StringUTF16" "LO_BYTE_SHIFT" "I" (.int 8)) :
    Ctr kn l Z own_EL (⟨"java/lang/StringBuilder", "append", "(Ljava/lang/String;)Ljava/lang/StringBuilder;"⟩ : MethodName) jdk_67_method_7_code 2 (some (.object "java/lang/StringBuilder")) ws ({ frames := 9, cells := 2, slots := 240, locals := 130 } : Room) n0 (r0 :: []) #[(.ref r0), (.ref r1)] h0 (Rt (fun w h g => w = .ref r0 ∧ Keep h0 h [r0] ∧ ∃ t', h0.size ≤ t' ∧ own_B Z h r0 t' 1 (Int32.ofNat (ks.length + us.length)) ∧ Ark Z h t' .byte ((own_ub ks ++ List.replicate (2 * mq) (Value.int 0)).take (2 * ks.length) ++ own_ub us ++ (own_ub ks ++ List.replicate (2 * mq) (Value.int 0)).drop (2 * ks.length + 2 * us.length)) ∧ t' ∈ g)) := by
  refine Ctr.of (plainFor_of_name pn_java_lang_StringBuilder) hE (fun m => ef_rm7u m r0 r1) ?_
  intro p e s m below meth c T0 X0
  have Z0 : Keep h0 h0 [r0] := Keep.refl _ _
  refine OwnW.aloadN X0 (n := 1) d7_0 rfl rfl rfl ?_
  refine OwnW.aloadN X0 (n := 2) d7_1 rfl rfl rfl ?_
  refine OwnW.call_super_v X0 (z := (⟨"java/lang/AbstractStringBuilder", "append", "(Ljava/lang/String;)Ljava/lang/AbstractStringBuilder;"⟩ : MethodName)) (a := r0) (C := "java/lang/StringBuilder") (n := 5) d7_2 (hw _ (List.mem_of_getElem? (i := 53) rfl)) (OwnW.sameOf (u := (⟨"java/lang/AbstractStringBuilder", "getValue", "()[B"⟩ : MethodName)) (hw _ (List.mem_of_getElem? (i := 54) rfl)) (hw _ (List.mem_of_getElem? (i := 134) rfl)) rfl (hw _ (List.mem_of_getElem? (i := 133) rfl)) (by decide)) (hw _ (List.mem_of_getElem? (i := 54) rfl)) (hw _ (List.mem_of_getElem? (i := 55) rfl)) (hw _ (List.mem_of_getElem? (i := 57) rfl)) (hw _ (List.mem_of_getElem? (i := 39) rfl)) (by decide) B0.1 (rm8u l Z a0 hw hE [] r0 r1 h0 n0 O0 tn us hul E1s F1s V1s A1s mq ks hks hpos hur hv8 hq t B0 A0 ge_r0 n0t n01 n0tn S1 zc hzc S_compact fm hfm S_fm S_ad S_hi S_lo) (OwnW.sfS (List.mem_cons_self ..) OwnW.sf0) (argsL := [(.ref r1)]) (rest := []) rfl rfl (OwnW.lenA pd__Ljava_lang_String__Ljava_lang_AbstractStringBuilder_ rfl) (W := 0) (Nat.le_of_eq rfl) (by decide) (by decide) (by decide) (by decide) rfl ?_
  intro T1 h1 w1 g1 hle1 X1 ⟨q1, kq, tq, zq, bq, aq, mmq⟩
  subst q1
  refine OwnW.pop X1 (n := 6) d7_5 rfl rfl ?_
  refine OwnW.aloadN X1 (n := 7) d7_6 rfl rfl rfl ?_
  exact OwnW.areturn X1 rfl rfl rfl d7_7 ⟨rfl, kq, tq, zq, bq, aq, List.mem_append_right _ mmq⟩ (by decide) (by decide)
theorem ef_rm8e (m : MethodId) (x0 : Addr) (x1 : Addr) : entryFrame m #[(.ref x0), (.ref x1)] 3 = mkF m 0 #[.val (.ref x0), .val (.ref x1), .unset] [] := by first | (simp [entryFrame, mkF, argsToLocals, Value.category]; done) | rfl
set_option maxRecDepth 65536 in
set_option maxHeartbeats 40000000 in
theorem rm8e {kn : Prop} (l : Launch) (Z : State) (a0 : Array Value) (hw : ∀ d ∈ tables_1, d.before a0 Z = true) (hE : EW Z a0 own_EL) (ws : List Jvm.Cond) (r0 : Addr) (r1 : Addr) (h0 : Heap) (n0 : Nat) (O0 : Old Z n0 h0) (tn : Addr) (us : List Nat) (hul : us.length ≤ 80) (E1s : Exa Z h0 r1 "java/lang/String") (F1s : Fld Z h0 r1 "java/lang/String" "coder" "B" (.int 0)) (V1s : Fld Z h0 r1 "java/lang/String" "value" "[B" (.ref tn)) (A1s : Ark Z h0 tn .byte (own_lb us)) (cc : Nat) (vs : List Value) (hv8 : vs.length ≤ 80) (hcc : cc = vs.length) (h0l : us.length = 0) (t : Addr) (B0 : own_B Z h0 r0 t 0 (Int32.ofNat cc)) (A0 : Ark Z h0 t .byte vs) (ge_t : n0 ≤ t) (netn : tn ≠ t) (netr : r1 ≠ t) (ge_r0 : n0 ≤ r0) (n0t : r0 ≠ t) (n01 : r0 ≠ r1) (n0tn : r0 ≠ tn) (S1 : own_U Z h0 r1 tn us) (zc : Int32) (hzc : ¬ zc = 0) (S_compact : Sta Z Z.heap "java/lang/String" "COMPACT_STRINGS" "Z" (.int zc)) :
    Ctr kn l Z own_EL (⟨"java/lang/AbstractStringBuilder", "append", "(Ljava/lang/String;)Ljava/lang/AbstractStringBuilder;"⟩ : MethodName) jdk_68_method_22_code 3 (some (.object "java/lang/AbstractStringBuilder")) ws ({ frames := 3, cells := 0, slots := 0, locals := 47 } : Room) n0 (r0 :: t :: []) #[(.ref r0), (.ref r1)] h0 (Rt (fun w h g => w = .ref r0 ∧ Keep h0 h [r0, t] ∧ own_B Z h r0 t 0 (Int32.ofNat (cc + us.length)) ∧ Ark Z h t .byte vs)) := by
  refine Ctr.of (plainFor_of_name pn_java_lang_AbstractStringBuilder) hE (fun m => ef_rm8e m r0 r1) ?_
  intro p e s m below meth c T0 X0
  have Z0 : Keep h0 h0 [r0, t] := Keep.refl _ _
  refine OwnW.aloadN X0 (n := 1) d8_0 rfl rfl rfl ?_
  refine OwnW.ifnonnull_y X0 (n1 := 9) d8_1 (by decide) rfl ?_
  refine OwnW.aloadN X0 (n := 10) d8_9 rfl rfl rfl ?_
  refine OwnW.call_virtual_v X0 (z := (⟨"java/lang/String", "length", "()I"⟩ : MethodName)) (yv := (⟨"java/lang/String", "length", "()I"⟩ : MethodName)) (a := r1) (C := "java/lang/String") (n := 13) d8_10 (hw _ (List.mem_of_getElem? (i := 58) rfl)) (hw _ (List.mem_of_getElem? (i := 59) rfl)) (hw _ (List.mem_of_getElem? (i := 60) rfl)) (hw _ (List.mem_of_getElem? (i := 61) rfl)) (fun hz => notFace_of_selects (args := #[]) (mvT hz (hw _ (List.mem_of_getElem? (i := 61) rfl)))) (hw _ (List.mem_of_getElem? (i := 62) rfl)) (hw _ (List.mem_of_getElem? (i := 3) rfl)) (by decide) E1s (rmLEN l Z a0 hw hE [] r1 h0 n0 O0 tn us hul S1 zc hzc S_compact) OwnW.sf0 (argsL := []) (rest := []) rfl rfl (OwnW.lenA pd___I rfl) (W := 0) (Nat.le_of_eq rfl) (by decide) (by decide) (by decide) (by decide) rfl ?_
  intro T1 h1 w1 g1 hle1 X1 ⟨q1, q2⟩
  subst q1 q2
  refine OwnW.istoreN X1 (l' := #[.val (.ref r0), .val (.ref r1), .val (.int (Int32.ofNat us.length))]) (n := 14) d8_13 rfl rfl ?_
  refine OwnW.aloadN X1 (n := 15) d8_14 rfl rfl rfl ?_
  refine OwnW.aloadN X1 (n := 16) d8_15 rfl rfl rfl ?_
  refine OwnW.getfield X1 (n := 19) d8_16 (hw _ (List.mem_of_getElem? (i := 69) rfl)) Via.refl B0.2.2.2.1 rfl ?_
  intro T2 X2
  refine OwnW.iloadN X2 (n := 20) d8_19 rfl rfl ?_
  refine OwnW.iadd X2 (n := 21) d8_20 rfl ?_
  rw [show (((Int32.ofNat cc) + (Int32.ofNat us.length)) : Int32) = (Int32.ofNat (cc + us.length)) from own_add cc us.length]
  refine OwnW.call_virtual_n X2 (z := (⟨"java/lang/AbstractStringBuilder", "ensureCapacityInternal", "(I)V"⟩ : MethodName)) (yv := (⟨"java/lang/AbstractStringBuilder", "ensureCapacityInternal", "(I)V"⟩ : MethodName)) (a := r0) (C := "java/lang/StringBuilder") (n := 24) d8_21 (hw _ (List.mem_of_getElem? (i := 71) rfl)) (OwnW.declOf (hw _ (List.mem_of_getElem? (i := 72) rfl)) (hw _ (List.mem_of_getElem? (i := 75) rfl))) (hw _ (List.mem_of_getElem? (i := 72) rfl)) (hw _ (List.mem_of_getElem? (i := 74) rfl)) (fun hz => notFace_of_selects (args := #[]) (mvT hz (hw _ (List.mem_of_getElem? (i := 74) rfl)))) (hw _ (List.mem_of_getElem? (i := 75) rfl)) (hw _ (List.mem_of_getElem? (i := 39) rfl)) (by decide) B0.1 (rm11e l Z a0 hw hE [] r0 h0 n0 vs (cc + us.length) (by omega) (by omega) _ t B0 A0) OwnW.sf0 (argsL := [(.int (Int32.ofNat (cc + us.length)))]) (rest := []) rfl rfl (OwnW.lenA pd__I_V rfl) (W := 0) (Nat.le_of_eq rfl) (by decide) (by decide) (by decide) (by decide) rfl ?_
  intro T3 h3 g3 hle3 X3 q2
  subst q2
  refine OwnW.aloadN X3 (n := 25) d8_24 rfl rfl rfl ?_
  refine OwnW.aloadN X3 (n := 26) d8_25 rfl rfl rfl ?_
  refine OwnW.getfield X3 (n := 29) d8_26 (hw _ (List.mem_of_getElem? (i := 69) rfl)) Via.refl B0.2.2.2.1 rfl ?_
  intro T4 X4
  refine OwnW.aloadN X4 (n := 30) d8_29 rfl rfl rfl ?_
  refine OwnW.call_virtual_n X4 (z := (⟨"java/lang/AbstractStringBuilder", "putStringAt", "(ILjava/lang/String;)V"⟩ : MethodName)) (yv := (⟨"java/lang/AbstractStringBuilder", "putStringAt", "(ILjava/lang/String;)V"⟩ : MethodName)) (a := r0) (C := "java/lang/StringBuilder") (n := 33) d8_30 (hw _ (List.mem_of_getElem? (i := 102) rfl)) (OwnW.declOf (hw _ (List.mem_of_getElem? (i := 103) rfl)) (hw _ (List.mem_of_getElem? (i := 106) rfl))) (hw _ (List.mem_of_getElem? (i := 103) rfl)) (hw _ (List.mem_of_getElem? (i := 105) rfl)) (fun hz => notFace_of_selects (args := #[]) (mvT hz (hw _ (List.mem_of_getElem? (i := 105) rfl)))) (hw _ (List.mem_of_getElem? (i := 106) rfl)) (hw _ (List.mem_of_getElem? (i := 39) rfl)) (by decide) B0.1 (rm17e l Z a0 hw hE [] r0 r1 h0 n0 O0 tn us hul E1s F1s V1s A1s _ cc (by omega) (by first | omega | (simp; omega)) _ t ⟨B0.1, B0.2.1, B0.2.2.1, B0.2.2.2.1, B0.2.2.2.2⟩ A0 ge_t netn zc hzc S_compact) (OwnW.sfS (List.mem_append_left _ (List.mem_append_left _ (List.mem_cons_of_mem _ (List.mem_cons_self ..)))) OwnW.sf0) (argsL := [(.int (Int32.ofNat cc)), (.ref r1)]) (rest := []) rfl rfl (OwnW.lenA pd__ILjava_lang_String__V rfl) (W := 0) (Nat.le_of_eq rfl) (by decide) (by decide) (by decide) (by decide) rfl ?_
  intro T5 h5 g5 hle5 X5 ⟨k5, a5⟩
  have K5 := k5
  have O5 := O0.keep K5 (allS ge_t all0)
  have Z5 : Keep h0 h5 [r0, t] := Z0.trans K5 (allS (P := fun x => x ∈ [r0, t] ∨ h0.size ≤ x) (Or.inl (List.mem_of_getElem? (i := 1) rfl)) all0)
  rw [own_cp0 vs us hcc h0l] at a5
  refine OwnW.aloadN X5 (n := 34) d8_33 rfl rfl rfl ?_
  refine OwnW.dup X5 (n := 35) d8_34 rfl rfl ?_
  have fk6 := (B0.2.2.2.1.keep K5 (ninS n0t nin0))
  refine OwnW.getfield X5 (n := 38) d8_35 (hw _ (List.mem_of_getElem? (i := 69) rfl)) Via.refl fk6 rfl ?_
  intro T7 X7
  refine OwnW.iloadN X7 (n := 39) d8_38 rfl rfl ?_
  refine OwnW.iadd X7 (n := 40) d8_39 rfl ?_
  rw [show (((Int32.ofNat cc) + (Int32.ofNat us.length)) : Int32) = (Int32.ofNat (cc + us.length)) from own_add cc us.length]
  have fk8 := (B0.1.keep K5)
  refine OwnW.putfield X7 (ty := .int) (v' := (.int (Int32.ofNat (cc + us.length)))) (n := 43) d8_40 (hw _ (List.mem_of_getElem? (i := 69) rfl)) Via.refl fk6 fk8 (Or.inl (hw _ (List.mem_of_getElem? (i := 70) rfl))) (hw _ (List.mem_of_getElem? (i := 30) rfl)) (by decide) rfl rfl ge_r0 (List.mem_append_left _ (List.mem_append_left _ (List.mem_append_left _ (List.mem_cons_self ..)))) rfl ?_
  intro T9 h9 X9 W9 Fw9
  have fk10 := (B0.2.1.keep K5 (ninS n0t nin0))
  have fk11 := fk10.other W9 (Or.inr (slot_ne (Or.inl (hw _ (List.mem_of_getElem? (i := 44) rfl))) (Or.inl (hw _ (List.mem_of_getElem? (i := 70) rfl))) (by decide) (t := (.array .byte)) (t' := .int) (by decide) (by decide)))
  have fk12 := (B0.2.2.1.keep K5 (ninS n0t nin0))
  have fk13 := fk12.other W9 (Or.inr (slot_ne (Or.inl (hw _ (List.mem_of_getElem? (i := 46) rfl))) (Or.inl (hw _ (List.mem_of_getElem? (i := 70) rfl))) (by decide) (t := .byte) (t' := .int) (by decide) (by decide)))
  have fk14 := (B0.2.2.2.2.keep K5 (ninS n0t nin0))
  have fk15 := fk14.other W9 (Or.inr (slot_ne (Or.inl (hw _ (List.mem_of_getElem? (i := 327) rfl))) (Or.inl (hw _ (List.mem_of_getElem? (i := 70) rfl))) (by decide) (t := .boolean) (t' := .int) (by decide) (by decide)))
  have K9 := (Keep.of_wr W9)
  have O9 := O5.keep K9 (allS ge_r0 all0)
  have Z9 : Keep h0 h9 [r0, t] := Z5.trans K9 (allS (P := fun x => x ∈ [r0, t] ∨ h0.size ≤ x) (Or.inl (List.mem_of_getElem? (i := 0) rfl)) all0)
  refine OwnW.aloadN X9 (n := 44) d8_43 rfl rfl rfl ?_
  have fk16 := (fk8.keep K9)
  have fk17 := (a5.keep K9 (ninS (Ne.symm n0t) nin0))
  exact OwnW.areturn X9 rfl rfl rfl d8_44 ⟨rfl, Z9, ⟨fk16, fk11, fk13, Fw9, fk15⟩, fk17⟩ (by decide) (by decide)
theorem ef_rm7e (m : MethodId) (x0 : Addr) (x1 : Addr) : entryFrame m #[(.ref x0), (.ref x1)] 2 = mkF m 0 #[.val (.ref x0), .val (.ref x1)] [] := by first | (simp [entryFrame, mkF, argsToLocals, Value.category]; done) | rfl
set_option maxRecDepth 65536 in
set_option maxHeartbeats 40000000 in
theorem rm7e {kn : Prop} (l : Launch) (Z : State) (a0 : Array Value) (hw : ∀ d ∈ tables_1, d.before a0 Z = true) (hE : EW Z a0 own_EL) (ws : List Jvm.Cond) (r0 : Addr) (r1 : Addr) (h0 : Heap) (n0 : Nat) (O0 : Old Z n0 h0) (tn : Addr) (us : List Nat) (hul : us.length ≤ 80) (E1s : Exa Z h0 r1 "java/lang/String") (F1s : Fld Z h0 r1 "java/lang/String" "coder" "B" (.int 0)) (V1s : Fld Z h0 r1 "java/lang/String" "value" "[B" (.ref tn)) (A1s : Ark Z h0 tn .byte (own_lb us)) (cc : Nat) (vs : List Value) (hv8 : vs.length ≤ 80) (hcc : cc = vs.length) (h0l : us.length = 0) (t : Addr) (B0 : own_B Z h0 r0 t 0 (Int32.ofNat cc)) (A0 : Ark Z h0 t .byte vs) (ge_t : n0 ≤ t) (netn : tn ≠ t) (netr : r1 ≠ t) (ge_r0 : n0 ≤ r0) (n0t : r0 ≠ t) (n01 : r0 ≠ r1) (n0tn : r0 ≠ tn) (S1 : own_U Z h0 r1 tn us) (zc : Int32) (hzc : ¬ zc = 0) (S_compact : Sta Z Z.heap "java/lang/String" "COMPACT_STRINGS" "Z" (.int zc)) :
    Ctr kn l Z own_EL (⟨"java/lang/StringBuilder", "append", "(Ljava/lang/String;)Ljava/lang/StringBuilder;"⟩ : MethodName) jdk_67_method_7_code 2 (some (.object "java/lang/StringBuilder")) ws ({ frames := 4, cells := 0, slots := 0, locals := 61 } : Room) n0 (r0 :: t :: []) #[(.ref r0), (.ref r1)] h0 (Rt (fun w h g => w = .ref r0 ∧ Keep h0 h [r0, t] ∧ own_B Z h r0 t 0 (Int32.ofNat (cc + us.length)) ∧ Ark Z h t .byte vs)) := by
  refine Ctr.of (plainFor_of_name pn_java_lang_StringBuilder) hE (fun m => ef_rm7e m r0 r1) ?_
  intro p e s m below meth c T0 X0
  have Z0 : Keep h0 h0 [r0, t] := Keep.refl _ _
  refine OwnW.aloadN X0 (n := 1) d7_0 rfl rfl rfl ?_
  refine OwnW.aloadN X0 (n := 2) d7_1 rfl rfl rfl ?_
  refine OwnW.call_super_v X0 (z := (⟨"java/lang/AbstractStringBuilder", "append", "(Ljava/lang/String;)Ljava/lang/AbstractStringBuilder;"⟩ : MethodName)) (a := r0) (C := "java/lang/StringBuilder") (n := 5) d7_2 (hw _ (List.mem_of_getElem? (i := 53) rfl)) (OwnW.sameOf (u := (⟨"java/lang/AbstractStringBuilder", "getValue", "()[B"⟩ : MethodName)) (hw _ (List.mem_of_getElem? (i := 54) rfl)) (hw _ (List.mem_of_getElem? (i := 134) rfl)) rfl (hw _ (List.mem_of_getElem? (i := 133) rfl)) (by decide)) (hw _ (List.mem_of_getElem? (i := 54) rfl)) (hw _ (List.mem_of_getElem? (i := 55) rfl)) (hw _ (List.mem_of_getElem? (i := 57) rfl)) (hw _ (List.mem_of_getElem? (i := 39) rfl)) (by decide) B0.1 (rm8e l Z a0 hw hE [] r0 r1 h0 n0 O0 tn us hul E1s F1s V1s A1s cc vs hv8 hcc h0l t B0 A0 ge_t netn netr ge_r0 n0t n01 n0tn S1 zc hzc S_compact) (OwnW.sfS (List.mem_cons_self ..) (OwnW.sfS (List.mem_cons_of_mem _ (List.mem_cons_self ..)) OwnW.sf0)) (argsL := [(.ref r1)]) (rest := []) rfl rfl (OwnW.lenA pd__Ljava_lang_String__Ljava_lang_AbstractStringBuilder_ rfl) (W := 0) (Nat.le_of_eq rfl) (by decide) (by decide) (by decide) (by decide) rfl ?_
  intro T1 h1 w1 g1 hle1 X1 ⟨q1, qq⟩
  subst q1
  refine OwnW.pop X1 (n := 6) d7_5 rfl rfl ?_
  refine OwnW.aloadN X1 (n := 7) d7_6 rfl rfl rfl ?_
  exact OwnW.areturn X1 rfl rfl rfl d7_7 ⟨rfl, qq⟩ (by decide) (by decide)
theorem d47_0 : decode jdk_65_method_131_code 0 = .ok (.iload_n 1, 1) := by decide +kernel
theorem d47_1 : decode jdk_65_method_131_code 1 = .ok (.iload_n 0, 1) := by decide +kernel
theorem d47_2 : decode jdk_65_method_131_code 2 = .ok (.if_icmp .ge 35, 3) := by decide +kernel
theorem d47_37 : decode jdk_65_method_131_code 37 = .ok (.return_, 1) := by decide +kernel
theorem ef_rm47 (m : MethodId) (x1 : Int32) : entryFrame m #[(.int (0 : Int32)), (.int x1)] 2 = mkF m 0 #[.val (.int (0 : Int32)), .val (.int x1)] [] := by first | (simp [entryFrame, mkF, argsToLocals, Value.category]; done) | rfl
set_option maxRecDepth 65536 in
set_option maxHeartbeats 40000000 in
theorem rm47 {kn : Prop} (l : Launch) (Z : State) (a0 : Array Value) (hw : ∀ d ∈ tables_1, d.before a0 Z = true) (hE : EW Z a0 own_EL) (ws : List Jvm.Cond)  (h0 : Heap) (n0 : Nat) (nn : Nat) (hnn : nn ≤ 160) :
    Ctr kn l Z own_EL (⟨"java/util/Arrays", "checkLength", "(II)V"⟩ : MethodName) jdk_65_method_131_code 2 none ws ({ frames := 0, cells := 0, slots := 0, locals := 0 } : Room) n0 ([]) #[(.int (0 : Int32)), (.int (Int32.ofNat nn))] h0 (Rn (fun h g => h0 = h)) := by
  refine Ctr.of (plainFor_of_name pn_java_util_Arrays) hE (fun m => ef_rm47 m (Int32.ofNat nn)) ?_
  intro p e s m below meth c T0 X0
  refine OwnW.iloadN X0 (n := 1) d47_0 rfl rfl ?_
  refine OwnW.iloadN X0 (n := 2) d47_1 rfl rfl ?_
  refine OwnW.ic_ge X0  (n1 := 37) (n2 := 5) d47_2 (by decide) rfl rfl (fun _ => ?_) (fun q => absurd q ((fun q => by have z := (own_lt (i := nn) (n := 0) (by omega) (by omega)).mp q; omega) : ¬ (Int32.ofNat nn) < (0 : Int32)))
  exact OwnW.vreturn X0 rfl d47_37 rfl (by decide) (by decide)
theorem d46_0 : decode jdk_65_method_133_code 0 = .ok (.iload_n 1, 1) := by decide +kernel
theorem d46_1 : decode jdk_65_method_133_code 1 = .ok (.iload_n 2, 1) := by decide +kernel
theorem d46_2 : decode jdk_65_method_133_code 2 = .ok (.invokestatic 343, 3) := by decide +kernel
theorem d46_5 : decode jdk_65_method_133_code 5 = .ok (.iload_n 2, 1) := by decide +kernel
theorem d46_6 : decode jdk_65_method_133_code 6 = .ok (.iload_n 1, 1) := by decide +kernel
theorem d46_7 : decode jdk_65_method_133_code 7 = .ok (.isub, 1) := by decide +kernel
theorem d46_8 : decode jdk_65_method_133_code 8 = .ok (.istore_n 3, 1) := by decide +kernel
theorem d46_9 : decode jdk_65_method_133_code 9 = .ok (.iload_n 3, 1) := by decide +kernel
theorem d46_10 : decode jdk_65_method_133_code 10 = .ok (.newarray .byte, 2) := by decide +kernel
theorem d46_12 : decode jdk_65_method_133_code 12 = .ok (.astore 4, 2) := by decide +kernel
theorem d46_14 : decode jdk_65_method_133_code 14 = .ok (.aload_n 0, 1) := by decide +kernel
theorem d46_15 : decode jdk_65_method_133_code 15 = .ok (.iload_n 1, 1) := by decide +kernel
theorem d46_16 : decode jdk_65_method_133_code 16 = .ok (.aload 4, 2) := by decide +kernel
theorem d46_18 : decode jdk_65_method_133_code 18 = .ok (.iconst 0, 1) := by decide +kernel
theorem d46_19 : decode jdk_65_method_133_code 19 = .ok (.aload_n 0, 1) := by decide +kernel
theorem d46_20 : decode jdk_65_method_133_code 20 = .ok (.arraylength, 1) := by decide +kernel
theorem d46_21 : decode jdk_65_method_133_code 21 = .ok (.iload_n 1, 1) := by decide +kernel
theorem d46_22 : decode jdk_65_method_133_code 22 = .ok (.isub, 1) := by decide +kernel
theorem d46_23 : decode jdk_65_method_133_code 23 = .ok (.iload_n 3, 1) := by decide +kernel
theorem d46_24 : decode jdk_65_method_133_code 24 = .ok (.invokestatic 304, 3) := by decide +kernel
theorem d46_27 : decode jdk_65_method_133_code 27 = .ok (.invokestatic 150, 3) := by decide +kernel
theorem d46_30 : decode jdk_65_method_133_code 30 = .ok (.aload 4, 2) := by decide +kernel
theorem d46_32 : decode jdk_65_method_133_code 32 = .ok (.areturn, 1) := by decide +kernel
theorem ef_rm46 (m : MethodId) (x0 : Addr) (x2 : Int32) : entryFrame m #[(.ref x0), (.int (0 : Int32)), (.int x2)] 5 = mkF m 0 #[.val (.ref x0), .val (.int (0 : Int32)), .val (.int x2), .unset, .unset] [] := by first | (simp [entryFrame, mkF, argsToLocals, Value.category]; done) | rfl
set_option maxRecDepth 65536 in
set_option maxHeartbeats 40000000 in
theorem rm46 {kn : Prop} (l : Launch) (Z : State) (a0 : Array Value) (hw : ∀ d ∈ tables_1, d.before a0 Z = true) (hE : EW Z a0 own_EL) (ws : List Jvm.Cond) (r0 : Addr) (h0 : Heap) (n0 : Nat) (O0 : Old Z n0 h0) (vs : List Value) (nn : Nat) (hnn : nn < vs.length) (hv1 : vs.length ≤ 160) (A0 : Ark Z h0 r0 .byte vs) :
    Ctr kn l Z own_EL (⟨"java/util/Arrays", "copyOfRangeByte", "([BII)[B"⟩ : MethodName) jdk_65_method_133_code 5 (some (.array .byte)) ws ({ frames := 1, cells := 1, slots := 160, locals := 18 } : Room) n0 ([]) #[(.ref r0), (.int (0 : Int32)), (.int (Int32.ofNat nn))] h0 (Rt (fun w h g => ∃ t, w = .ref t ∧ Keep h0 h [] ∧ h0.size ≤ t ∧ Ark Z h t .byte (vs.take nn))) := by
  refine Ctr.of (plainFor_of_name pn_java_util_Arrays) hE (fun m => ef_rm46 m r0 (Int32.ofNat nn)) ?_
  intro p e s m below meth c T0 X0
  have Z0 : Keep h0 h0 [] := Keep.refl _ _
  refine OwnW.iloadN X0 (n := 1) d46_0 rfl rfl ?_
  refine OwnW.iloadN X0 (n := 2) d46_1 rfl rfl ?_
  refine OwnW.call_static_n X0 (z := (⟨"java/util/Arrays", "checkLength", "(II)V"⟩ : MethodName)) (n := 5) d46_2 (hw _ (List.mem_of_getElem? (i := 279) rfl)) (hw _ (List.mem_of_getElem? (i := 280) rfl)) (hw _ (List.mem_of_getElem? (i := 281) rfl)) (hw _ (List.mem_of_getElem? (i := 93) rfl)) (by decide) (rm47 l Z a0 hw hE [] h0 n0 nn (by omega)) OwnW.sf0 (argsL := [(.int (0 : Int32)), (.int (Int32.ofNat nn))]) (rest := []) rfl rfl (OwnW.lenA pd__II_V rfl) (W := 0) (Nat.le_of_eq rfl) (by decide) (by decide) (by decide) (by decide) rfl ?_
  intro T1 h1 g1 hle1 X1 q2
  subst q2
  refine OwnW.iloadN X1 (n := 6) d46_5 rfl rfl ?_
  refine OwnW.iloadN X1 (n := 7) d46_6 rfl rfl ?_
  refine OwnW.isub X1 (n := 8) d46_7 rfl ?_
  rw [show (((Int32.ofNat nn) - (0 : Int32)) : Int32) = (Int32.ofNat (nn - 0)) from own_sub nn 0 (by omega) (by omega)]
  rw [show (nn - 0 : Nat) = nn from Nat.sub_zero _]
  refine OwnW.istoreN X1 (l' := #[.val (.ref r0), .val (.int (0 : Int32)), .val (.int (Int32.ofNat nn)), .val (.int (Int32.ofNat nn)), .unset]) (n := 9) d46_8 rfl rfl ?_
  refine OwnW.iloadN X1 (n := 10) d46_9 rfl rfl ?_
  refine OwnW.newarray X1 (len := nn) (cap := 160) (n := 12) d46_10 (hw _ (List.mem_of_getElem? (i := 15) rfl)) (own_nat (i := nn) (by omega)) (by omega) (by decide) (by decide) (by decide) rfl ?_
  intro T2 h2 b2 gb2 X2 E2 A2
  have ne_r0_b2 : r0 ≠ b2 := by rw [gb2]; exact Nat.ne_of_lt A0.lt
  have ge_b2 : n0 ≤ b2 := by rw [gb2]; exact OwnW.oldLe O0
  have K2 := (OwnW.kExt E2)
  have O2 := O0.keep K2 all0
  have Z2 : Keep h0 h2 [] := Z0.trans K2 (fun x hx => nomatch hx)
  have sz_b2 : h0.size ≤ b2 := by rw [gb2]; exact Z0.1
  replace A2 : Ark Z h2 b2 .byte (List.replicate nn (.int 0)) := A2
  refine OwnW.astore X2 (l' := #[.val (.ref r0), .val (.int (0 : Int32)), .val (.int (Int32.ofNat nn)), .val (.int (Int32.ofNat nn)), .val (.ref b2)]) (n := 14) d46_12 rfl rfl rfl ?_
  refine OwnW.aloadN X2 (n := 15) d46_14 rfl rfl rfl ?_
  refine OwnW.iloadN X2 (n := 16) d46_15 rfl rfl ?_
  refine OwnW.aload X2 (n := 18) d46_16 rfl rfl rfl ?_
  refine OwnW.iconst X2 (z := (0 : Int32)) (n := 19) d46_18 rfl rfl ?_
  refine OwnW.aloadN X2 (n := 20) d46_19 rfl rfl rfl ?_
  have fk3 := (A0.keep K2 nin0)
  refine OwnW.arraylength X2 (z := Int32.ofNat vs.length) (n := 21) d46_20 fk3 rfl rfl ?_
  refine OwnW.iloadN X2 (n := 22) d46_21 rfl rfl ?_
  refine OwnW.isub X2 (n := 23) d46_22 rfl ?_
  rw [show (((Int32.ofNat vs.length) - (0 : Int32)) : Int32) = (Int32.ofNat (vs.length - 0)) from own_sub vs.length 0 (by omega) (by omega)]
  rw [show (vs.length - 0 : Nat) = vs.length from Nat.sub_zero _]
  refine OwnW.iloadN X2 (n := 24) d46_23 rfl rfl ?_
  refine OwnW.call_static_v X2 (z := (⟨"java/lang/Math", "min", "(II)I"⟩ : MethodName)) (n := 27) d46_24 (hw _ (List.mem_of_getElem? (i := 95) rfl)) (hw _ (List.mem_of_getElem? (i := 96) rfl)) (hw _ (List.mem_of_getElem? (i := 97) rfl)) (hw _ (List.mem_of_getElem? (i := 87) rfl)) (by decide) (rm16 l Z a0 hw hE [] h2 n0 vs.length nn nn (by omega) (by omega) (by omega)) OwnW.sf0 (argsL := [(.int (Int32.ofNat vs.length)), (.int (Int32.ofNat nn))]) (rest := [(.int (0 : Int32)), (.ref b2), (.int (0 : Int32)), (.ref r0)]) rfl rfl (OwnW.lenA pd__II_I rfl) (W := 4) (Nat.le_of_eq rfl) (by decide) (by decide) (by decide) (by decide) rfl ?_
  intro T4 h4 w4 g4 hle4 X4 ⟨q1, q2⟩
  subst q1 q2
  refine OwnW.arraycopy X4 (W := 0) (sp := 0) (dp := 0) (nn := nn) (n := 30) d46_27 (hw _ (List.mem_of_getElem? (i := 98) rfl)) (hw _ (List.mem_of_getElem? (i := 101) rfl)) (hw _ (List.mem_of_getElem? (i := 99) rfl)) (hw _ (List.mem_of_getElem? (i := 100) rfl)) fk3 A2 (own_nat (i := 0) (by omega)) (own_nat (i := 0) (by omega)) (own_nat (i := nn) (by omega)) (by omega) (by simp) ge_b2 (List.mem_append_left _ (List.mem_cons_self ..)) rfl (Nat.le_of_eq rfl) (by decide) (by decide) rfl ?_
  intro T5 h5 X5 Kc5 A5
  have K5 := Kc5
  have O5 := O2.keep K5 (allS ge_b2 all0)
  have Z5 : Keep h0 h5 [] := Z2.trans K5 (allS (P := fun x => x ∈ [] ∨ h0.size ≤ x) (Or.inr sz_b2) all0)
  rw [own_cp3 vs (Nat.le_of_lt hnn)] at A5
  refine OwnW.aload X5 (n := 32) d46_30 rfl rfl rfl ?_
  exact OwnW.areturn X5 rfl rfl rfl d46_32 ⟨_, rfl, Z5, sz_b2, A5⟩ (by decide) (by decide)
theorem pd___BII__B : parseMethodDescriptor "([BII)[B" = some ⟨[(.array .byte), .int, .int], some (.array .byte)⟩ := by decide +kernel
theorem d27_0 : decode jdk_65_method_132_code 0 = .ok (.iload_n 1, 1) := by decide +kernel
theorem d27_1 : decode jdk_65_method_132_code 1 = .ok (.ifCond .ne 9, 3) := by decide +kernel
theorem d27_4 : decode jdk_65_method_132_code 4 = .ok (.iload_n 2, 1) := by decide +kernel
theorem d27_5 : decode jdk_65_method_132_code 5 = .ok (.aload_n 0, 1) := by decide +kernel
theorem d27_6 : decode jdk_65_method_132_code 6 = .ok (.arraylength, 1) := by decide +kernel
theorem d27_7 : decode jdk_65_method_132_code 7 = .ok (.if_icmp .eq 10, 3) := by decide +kernel
theorem d27_10 : decode jdk_65_method_132_code 10 = .ok (.aload_n 0, 1) := by decide +kernel
theorem d27_11 : decode jdk_65_method_132_code 11 = .ok (.iload_n 1, 1) := by decide +kernel
theorem d27_12 : decode jdk_65_method_132_code 12 = .ok (.iload_n 2, 1) := by decide +kernel
theorem d27_13 : decode jdk_65_method_132_code 13 = .ok (.invokestatic 339, 3) := by decide +kernel
theorem d27_16 : decode jdk_65_method_132_code 16 = .ok (.areturn, 1) := by decide +kernel
theorem ef_rm27 (m : MethodId) (x0 : Addr) (x2 : Int32) : entryFrame m #[(.ref x0), (.int (0 : Int32)), (.int x2)] 3 = mkF m 0 #[.val (.ref x0), .val (.int (0 : Int32)), .val (.int x2)] [] := by first | (simp [entryFrame, mkF, argsToLocals, Value.category]; done) | rfl
set_option maxRecDepth 65536 in
set_option maxHeartbeats 40000000 in
theorem rm27 {kn : Prop} (l : Launch) (Z : State) (a0 : Array Value) (hw : ∀ d ∈ tables_1, d.before a0 Z = true) (hE : EW Z a0 own_EL) (ws : List Jvm.Cond) (r0 : Addr) (h0 : Heap) (n0 : Nat) (O0 : Old Z n0 h0) (vs : List Value) (nn : Nat) (hnn : nn < vs.length) (hv1 : vs.length ≤ 160) (A0 : Ark Z h0 r0 .byte vs) :
    Ctr kn l Z own_EL (⟨"java/util/Arrays", "copyOfRange", "([BII)[B"⟩ : MethodName) jdk_65_method_132_code 3 (some (.array .byte)) ws ({ frames := 2, cells := 1, slots := 160, locals := 34 } : Room) n0 ([]) #[(.ref r0), (.int (0 : Int32)), (.int (Int32.ofNat nn))] h0 (Rt (fun w h g => ∃ t, w = .ref t ∧ Keep h0 h [] ∧ h0.size ≤ t ∧ Ark Z h t .byte (vs.take nn))) := by
  refine Ctr.of (plainFor_of_name pn_java_util_Arrays) hE (fun m => ef_rm27 m r0 (Int32.ofNat nn)) ?_
  intro p e s m below meth c T0 X0
  have Z0 : Keep h0 h0 [] := Keep.refl _ _
  refine OwnW.iloadN X0 (n := 1) d27_0 rfl rfl ?_
  refine OwnW.if_ne X0  (n1 := 10) (n2 := 4) d27_1 (by decide) rfl rfl (fun q => absurd ((by decide) : (0 : Int32) = 0) q) (fun _ => ?_)
  refine OwnW.iloadN X0 (n := 5) d27_4 rfl rfl ?_
  refine OwnW.aloadN X0 (n := 6) d27_5 rfl rfl rfl ?_
  refine OwnW.arraylength X0 (z := Int32.ofNat vs.length) (n := 7) d27_6 A0 rfl rfl ?_
  refine OwnW.ic_eq X0  (n1 := 17) (n2 := 10) d27_7 (by decide) rfl rfl (fun q => absurd q ((fun q => by have z := (own_eqn (i := nn) (n := vs.length) (by omega) (by omega)).mp q; omega) : ¬ (Int32.ofNat nn) = (Int32.ofNat vs.length))) (fun _ => ?_)
  refine OwnW.aloadN X0 (n := 11) d27_10 rfl rfl rfl ?_
  refine OwnW.iloadN X0 (n := 12) d27_11 rfl rfl ?_
  refine OwnW.iloadN X0 (n := 13) d27_12 rfl rfl ?_
  refine OwnW.call_static_v X0 (z := (⟨"java/util/Arrays", "copyOfRangeByte", "([BII)[B"⟩ : MethodName)) (n := 16) d27_13 (hw _ (List.mem_of_getElem? (i := 276) rfl)) (hw _ (List.mem_of_getElem? (i := 277) rfl)) (hw _ (List.mem_of_getElem? (i := 278) rfl)) (hw _ (List.mem_of_getElem? (i := 93) rfl)) (by decide) (rm46 l Z a0 hw hE [] r0 h0 n0 O0 vs nn hnn hv1 A0) OwnW.sf0 (argsL := [(.ref r0), (.int (0 : Int32)), (.int (Int32.ofNat nn))]) (rest := []) rfl rfl (OwnW.lenA pd___BII__B rfl) (W := 0) (Nat.le_of_eq rfl) (by decide) (by decide) (by decide) (by decide) rfl ?_
  intro T1 h1 w1 g1 hle1 X1 ⟨tq, q1, kq, zq, aq⟩
  subst q1
  exact OwnW.areturn X1 rfl rfl rfl d27_16 ⟨_, rfl, kq, zq, aq⟩ (by decide) (by decide)
theorem d27_17 : decode jdk_65_method_132_code 17 = .ok (.aload_n 0, 1) := by decide +kernel
theorem d27_18 : decode jdk_65_method_132_code 18 = .ok (.invokevirtual 310, 3) := by decide +kernel
theorem d27_21 : decode jdk_65_method_132_code 21 = .ok (.checkcast 311, 3) := by decide +kernel
theorem d27_24 : decode jdk_65_method_132_code 24 = .ok (.areturn, 1) := by decide +kernel
theorem ef_rm27c (m : MethodId) (x0 : Addr) (x2 : Int32) : entryFrame m #[(.ref x0), (.int (0 : Int32)), (.int x2)] 3 = mkF m 0 #[.val (.ref x0), .val (.int (0 : Int32)), .val (.int x2)] [] := by first | (simp [entryFrame, mkF, argsToLocals, Value.category]; done) | rfl
set_option maxRecDepth 65536 in
set_option maxHeartbeats 40000000 in
theorem rm27c {kn : Prop} (l : Launch) (Z : State) (a0 : Array Value) (hw : ∀ d ∈ tables_1, d.before a0 Z = true) (hE : EW Z a0 own_EL) (ws : List Jvm.Cond) (r0 : Addr) (h0 : Heap) (n0 : Nat) (O0 : Old Z n0 h0) (vs : List Value) (hv1 : vs.length ≤ 160) (E0 : Exa Z h0 r0 "[B") (A0 : Ark Z h0 r0 .byte vs) :
    Ctr kn l Z own_EL (⟨"java/util/Arrays", "copyOfRange", "([BII)[B"⟩ : MethodName) jdk_65_method_132_code 3 (some (.array .byte)) ws ({ frames := 2, cells := 1, slots := 160, locals := 34 } : Room) n0 ([]) #[(.ref r0), (.int (0 : Int32)), (.int (Int32.ofNat vs.length))] h0 (Rt (fun w h g => ∃ t, w = .ref t ∧ Keep h0 h [] ∧ h0.size ≤ t ∧ Ark Z h t .byte vs)) := by
  refine Ctr.of (plainFor_of_name pn_java_util_Arrays) hE (fun m => ef_rm27c m r0 (Int32.ofNat vs.length)) ?_
  intro p e s m below meth c T0 X0
  have Z0 : Keep h0 h0 [] := Keep.refl _ _
  refine OwnW.iloadN X0 (n := 1) d27_0 rfl rfl ?_
  refine OwnW.if_ne X0  (n1 := 10) (n2 := 4) d27_1 (by decide) rfl rfl (fun q => absurd ((by decide) : (0 : Int32) = 0) q) (fun _ => ?_)
  refine OwnW.iloadN X0 (n := 5) d27_4 rfl rfl ?_
  refine OwnW.aloadN X0 (n := 6) d27_5 rfl rfl rfl ?_
  refine OwnW.arraylength X0 (z := Int32.ofNat vs.length) (n := 7) d27_6 A0 rfl rfl ?_
  refine OwnW.ic_eq X0  (n1 := 17) (n2 := 10) d27_7 (by decide) rfl rfl (fun _ => ?_) (fun q => absurd (rfl : (Int32.ofNat vs.length) = (Int32.ofNat vs.length)) q)
  refine OwnW.aloadN X0 (n := 18) d27_17 rfl rfl rfl ?_
  refine OwnW.clone X0 (n := 21) (W := 0) (cap := 160) (ad := "[B") d27_18 (hw _ (List.mem_of_getElem? (i := 152) rfl)) (hw _ (List.mem_of_getElem? (i := 153) rfl)) (hw _ (List.mem_of_getElem? (i := 157) rfl)) (hw _ (List.mem_of_getElem? (i := 155) rfl)) (hw _ (List.mem_of_getElem? (i := 156) rfl)) (hw _ (List.mem_of_getElem? (i := 158) rfl)) A0 E0 rfl (by decide) (Nat.le_of_eq rfl) (by decide) hv1 (by decide) (by decide) rfl ?_
  intro T1 h1 b1 gb1 X1 E1 A1 Eb1
  have ne_r0_b1 : r0 ≠ b1 := by rw [gb1]; exact Nat.ne_of_lt A0.lt
  have ge_b1 : n0 ≤ b1 := by rw [gb1]; exact OwnW.oldLe O0
  have K1 := (OwnW.kExt E1)
  have O1 := O0.keep K1 all0
  have Z1 : Keep h0 h1 [] := Z0.trans K1 (fun x hx => nomatch hx)
  have sz_b1 : h0.size ≤ b1 := by rw [gb1]; exact Z0.1
  refine OwnW.checkcast X1 (n := 24) d27_21 (hw _ (List.mem_of_getElem? (i := 159) rfl)) (Ins.self Eb1) rfl ?_
  intro T2 X2
  exact OwnW.areturn X2 rfl rfl rfl d27_24 ⟨_, rfl, Z1, sz_b1, A1⟩ (by decide) (by decide)
theorem pd____B : parseMethodDescriptor "()[B" = some ⟨[], some (.array .byte)⟩ := by decide +kernel
theorem d22_0 : decode jdk_42_method_150_code 0 = .ok (.aload_n 0, 1) := by decide +kernel
theorem d22_1 : decode jdk_42_method_150_code 1 = .ok (.invokespecial 1, 3) := by decide +kernel
theorem d22_4 : decode jdk_42_method_150_code 4 = .ok (.aload_n 1, 1) := by decide +kernel
theorem d22_5 : decode jdk_42_method_150_code 5 = .ok (.invokevirtual 552, 3) := by decide +kernel
theorem d22_8 : decode jdk_42_method_150_code 8 = .ok (.astore_n 3, 1) := by decide +kernel
theorem d22_9 : decode jdk_42_method_150_code 9 = .ok (.aload_n 1, 1) := by decide +kernel
theorem d22_10 : decode jdk_42_method_150_code 10 = .ok (.invokevirtual 549, 3) := by decide +kernel
theorem d22_13 : decode jdk_42_method_150_code 13 = .ok (.istore 4, 2) := by decide +kernel
theorem d22_15 : decode jdk_42_method_150_code 15 = .ok (.aload_n 1, 1) := by decide +kernel
theorem d22_16 : decode jdk_42_method_150_code 16 = .ok (.invokevirtual 1047, 3) := by decide +kernel
theorem d22_19 : decode jdk_42_method_150_code 19 = .ok (.ifCond .eq 22, 3) := by decide +kernel
theorem d22_22 : decode jdk_42_method_150_code 22 = .ok (.aload_n 0, 1) := by decide +kernel
theorem d22_23 : decode jdk_42_method_150_code 23 = .ok (.iconst 0, 1) := by decide +kernel
theorem d22_24 : decode jdk_42_method_150_code 24 = .ok (.putfield 15, 3) := by decide +kernel
theorem d22_27 : decode jdk_42_method_150_code 27 = .ok (.aload_n 0, 1) := by decide +kernel
theorem d22_28 : decode jdk_42_method_150_code 28 = .ok (.aload_n 3, 1) := by decide +kernel
theorem d22_29 : decode jdk_42_method_150_code 29 = .ok (.iconst 0, 1) := by decide +kernel
theorem d22_30 : decode jdk_42_method_150_code 30 = .ok (.iload 4, 2) := by decide +kernel
theorem d22_32 : decode jdk_42_method_150_code 32 = .ok (.invokestatic 54, 3) := by decide +kernel
theorem d22_35 : decode jdk_42_method_150_code 35 = .ok (.putfield 9, 3) := by decide +kernel
theorem d22_38 : decode jdk_42_method_150_code 38 = .ok (.goto 59, 3) := by decide +kernel
theorem d22_97 : decode jdk_42_method_150_code 97 = .ok (.return_, 1) := by decide +kernel
theorem ef_rm22l (m : MethodId) (x0 : Addr) (x1 : Addr) : entryFrame m #[(.ref x0), (.ref x1), .null] 5 = mkF m 0 #[.val (.ref x0), .val (.ref x1), .val .null, .unset, .unset] [] := by first | (simp [entryFrame, mkF, argsToLocals, Value.category]; done) | rfl
set_option maxRecDepth 65536 in
set_option maxHeartbeats 40000000 in
theorem rm22l {kn : Prop} (l : Launch) (Z : State) (a0 : Array Value) (hw : ∀ d ∈ tables_1, d.before a0 Z = true) (hE : EW Z a0 own_EL) (ws : List Jvm.Cond) (r0 : Addr) (r1 : Addr) (h0 : Heap) (n0 : Nat) (O0 : Old Z n0 h0) (t : Addr) (vs : List Value) (nn : Nat) (hnn : nn < vs.length) (hv1 : vs.length ≤ 160) (B0 : own_B Z h0 r1 t 0 (Int32.ofNat nn)) (A0 : Ark Z h0 t .byte vs) (ge_r0 : n0 ≤ r0) (E0 : Exa Z h0 r0 "java/lang/String") (v1 v2 : Value) (F1 : Fld Z h0 r0 "java/lang/String" "value" "[B" v1) (F2 : Fld Z h0 r0 "java/lang/String" "coder" "B" v2) (n01 : r0 ≠ r1) (n0t : r0 ≠ t) (zc : Int32) (hzc : ¬ zc = 0) (S_compact : Sta Z Z.heap "java/lang/String" "COMPACT_STRINGS" "Z" (.int zc)) :
    Ctr kn l Z own_EL (⟨"java/lang/String", "<init>", "(Ljava/lang/AbstractStringBuilder;Ljava/lang/Void;)V"⟩ : MethodName) jdk_42_method_150_code 5 none ws ({ frames := 3, cells := 1, slots := 160, locals := 49 } : Room) n0 (r0 :: []) #[(.ref r0), (.ref r1), .null] h0 (Rn (fun h g => Keep h0 h [r0] ∧ ∃ t', h0.size ≤ t' ∧ Exa Z h r0 "java/lang/String" ∧ Fld Z h r0 "java/lang/String" "coder" "B" (.int 0) ∧ Fld Z h r0 "java/lang/String" "value" "[B" (.ref t') ∧ Ark Z h t' .byte (vs.take nn))) := by
  refine Ctr.of (plainFor_of_name pn_java_lang_String) hE (fun m => ef_rm22l m r0 r1) ?_
  intro p e s m below meth c T0 X0
  have Z0 : Keep h0 h0 [r0] := Keep.refl _ _
  have hv4 := A0.len
  refine OwnW.aloadN X0 (n := 1) d22_0 rfl rfl rfl ?_
  refine OwnW.initObj X0 (W := 0) (n := 4) d22_1 (hw _ (List.mem_of_getElem? (i := 11) rfl)) (hw _ (List.mem_of_getElem? (i := 12) rfl)) (hw _ (List.mem_of_getElem? (i := 13) rfl)) rfl (by decide) (by decide) (by decide) rfl ?_
  intro T1 X1
  refine OwnW.aloadN X1 (n := 5) d22_4 rfl rfl rfl ?_
  refine OwnW.call_virtual_v X1 (z := (⟨"java/lang/AbstractStringBuilder", "getValue", "()[B"⟩ : MethodName)) (yv := (⟨"java/lang/AbstractStringBuilder", "getValue", "()[B"⟩ : MethodName)) (a := r1) (C := "java/lang/StringBuilder") (n := 8) d22_5 (hw _ (List.mem_of_getElem? (i := 131) rfl)) (hw _ (List.mem_of_getElem? (i := 132) rfl)) (hw _ (List.mem_of_getElem? (i := 133) rfl)) (hw _ (List.mem_of_getElem? (i := 134) rfl)) (fun hz => notFace_of_selects (args := #[]) (mvT hz (hw _ (List.mem_of_getElem? (i := 134) rfl)))) (hw _ (List.mem_of_getElem? (i := 135) rfl)) (hw _ (List.mem_of_getElem? (i := 39) rfl)) (by decide) B0.1 (rm23 l Z a0 hw hE [] r1 h0 n0 t B0.2.1) OwnW.sf0 (argsL := []) (rest := []) rfl rfl (OwnW.lenA pd____B rfl) (W := 0) (Nat.le_of_eq rfl) (by decide) (by decide) (by decide) (by decide) rfl ?_
  intro T2 h2 w2 g2 hle2 X2 ⟨q1, q2⟩
  subst q1 q2
  refine OwnW.astoreN X2 (l' := #[.val (.ref r0), .val (.ref r1), .val .null, .val (.ref t), .unset]) (n := 9) d22_8 rfl rfl rfl ?_
  refine OwnW.aloadN X2 (n := 10) d22_9 rfl rfl rfl ?_
  refine OwnW.call_virtual_v X2 (z := (⟨"java/lang/StringBuilder", "length", "()I"⟩ : MethodName)) (yv := (⟨"java/lang/AbstractStringBuilder", "length", "()I"⟩ : MethodName)) (a := r1) (C := "java/lang/StringBuilder") (n := 13) d22_10 (hw _ (List.mem_of_getElem? (i := 136) rfl)) (hw _ (List.mem_of_getElem? (i := 137) rfl)) (hw _ (List.mem_of_getElem? (i := 140) rfl)) (hw _ (List.mem_of_getElem? (i := 139) rfl)) (fun hz => OwnW.nfOf (args := #[]) (u := (⟨"java/lang/AbstractStringBuilder", "getValue", "()[B"⟩ : MethodName)) (mvT hz (hw _ (List.mem_of_getElem? (i := 134) rfl))) (mvT hz (hw _ (List.mem_of_getElem? (i := 133) rfl))) rfl) (hw _ (List.mem_of_getElem? (i := 141) rfl)) (hw _ (List.mem_of_getElem? (i := 31) rfl)) (by decide) B0.1 (rm24 l Z a0 hw hE [] r1 h0 n0 _ B0.1 B0.2.2.2.1) OwnW.sf0 (argsL := []) (rest := []) rfl rfl (OwnW.lenA pd___I rfl) (W := 0) (Nat.le_of_eq rfl) (by decide) (by decide) (by decide) (by decide) rfl ?_
  intro T3 h3 w3 g3 hle3 X3 ⟨q1, q2⟩
  subst q1 q2
  refine OwnW.istore X3 (l' := #[.val (.ref r0), .val (.ref r1), .val .null, .val (.ref t), .val (.int (Int32.ofNat nn))]) (n := 15) d22_13 rfl rfl ?_
  refine OwnW.aloadN X3 (n := 16) d22_15 rfl rfl rfl ?_
  refine OwnW.call_virtual_v X3 (z := (⟨"java/lang/AbstractStringBuilder", "isLatin1", "()Z"⟩ : MethodName)) (yv := (⟨"java/lang/AbstractStringBuilder", "isLatin1", "()Z"⟩ : MethodName)) (a := r1) (C := "java/lang/StringBuilder") (n := 19) d22_16 (hw _ (List.mem_of_getElem? (i := 144) rfl)) (hw _ (List.mem_of_getElem? (i := 145) rfl)) (hw _ (List.mem_of_getElem? (i := 146) rfl)) (hw _ (List.mem_of_getElem? (i := 147) rfl)) (fun hz => notFace_of_selects (args := #[]) (mvT hz (hw _ (List.mem_of_getElem? (i := 147) rfl)))) (hw _ (List.mem_of_getElem? (i := 148) rfl)) (hw _ (List.mem_of_getElem? (i := 39) rfl)) (by decide) B0.1 (rmBL0 l Z a0 hw hE [] r1 h0 n0 O0 B0.2.2.1 zc hzc S_compact) OwnW.sf0 (argsL := []) (rest := []) rfl rfl (OwnW.lenA pd___Z rfl) (W := 0) (Nat.le_of_eq rfl) (by decide) (by decide) (by decide) (by decide) rfl ?_
  intro T4 h4 w4 g4 hle4 X4 ⟨q1, q2⟩
  subst q1 q2
  refine OwnW.if_eq X4  (n1 := 41) (n2 := 22) d22_19 (by decide) rfl rfl (fun q => absurd q ((by decide) : ¬ (1 : Int32) = 0)) (fun _ => ?_)
  refine OwnW.aloadN X4 (n := 23) d22_22 rfl rfl rfl ?_
  refine OwnW.iconst X4 (z := (0 : Int32)) (n := 24) d22_23 rfl rfl ?_
  refine OwnW.putfield X4 (ty := .byte) (v' := (.int (0 : Int32))) (n := 27) d22_24 (hw _ (List.mem_of_getElem? (i := 21) rfl)) Via.refl F2 E0 (Or.inr ⟨(hw _ (List.mem_of_getElem? (i := 17) rfl)), rfl, rfl⟩) (hw _ (List.mem_of_getElem? (i := 2) rfl)) (by decide) rfl rfl ge_r0 (List.mem_append_left _ (List.mem_append_left _ (List.mem_append_left _ (List.mem_cons_self ..)))) rfl ?_
  intro T5 h5 X5 W5 Fw5
  have fk6 := F1.other W5 (Or.inr (slot_ne (Or.inr (hw _ (List.mem_of_getElem? (i := 16) rfl))) (Or.inr (hw _ (List.mem_of_getElem? (i := 17) rfl))) (by decide) (t := (.array .byte)) (t' := .byte) (by decide) (by decide)))
  have K5 := (Keep.of_wr W5)
  have O5 := O0.keep K5 (allS ge_r0 all0)
  have Z5 : Keep h0 h5 [r0] := Z0.trans K5 (allS (P := fun x => x ∈ [r0] ∨ h0.size ≤ x) (Or.inl (List.mem_of_getElem? (i := 0) rfl)) all0)
  refine OwnW.aloadN X5 (n := 28) d22_27 rfl rfl rfl ?_
  refine OwnW.aloadN X5 (n := 29) d22_28 rfl rfl rfl ?_
  refine OwnW.iconst X5 (z := (0 : Int32)) (n := 30) d22_29 rfl rfl ?_
  refine OwnW.iload X5 (n := 32) d22_30 rfl rfl ?_
  have fk7 := (A0.keep K5 (ninS (Ne.symm n0t) nin0))
  have fk8 := (E0.keep K5)
  have fk9 := (B0.1.keep K5)
  have fk10 := (B0.2.1.keep K5 (ninS (Ne.symm n01) nin0))
  have fk11 := (B0.2.2.1.keep K5 (ninS (Ne.symm n01) nin0))
  have fk12 := (B0.2.2.2.1.keep K5 (ninS (Ne.symm n01) nin0))
  have fk13 := (B0.2.2.2.2.keep K5 (ninS (Ne.symm n01) nin0))
  refine OwnW.call_static_v X5 (z := (⟨"java/util/Arrays", "copyOfRange", "([BII)[B"⟩ : MethodName)) (n := 35) d22_32 (hw _ (List.mem_of_getElem? (i := 149) rfl)) (hw _ (List.mem_of_getElem? (i := 150) rfl)) (hw _ (List.mem_of_getElem? (i := 151) rfl)) (hw _ (List.mem_of_getElem? (i := 93) rfl)) (by decide) (rm27 l Z a0 hw hE [] t h5 n0 O5 vs nn hnn hv1 fk7) OwnW.sf0 (argsL := [(.ref t), (.int (0 : Int32)), (.int (Int32.ofNat nn))]) (rest := [(.ref r0)]) rfl rfl (OwnW.lenA pd___BII__B rfl) (W := 1) (Nat.le_of_eq rfl) (by decide) (by decide) (by decide) (by decide) rfl ?_
  intro T14 h14 w14 g14 hle14 X14 ⟨t14, q1, k14, z14, a14⟩
  subst q1
  have ne_r0_t14 : r0 ≠ t14 := Nat.ne_of_lt (Nat.lt_of_lt_of_le fk8.lt z14)
  have ne_r1_t14 : r1 ≠ t14 := Nat.ne_of_lt (Nat.lt_of_lt_of_le fk9.lt z14)
  have ne_t_t14 : t ≠ t14 := Nat.ne_of_lt (Nat.lt_of_lt_of_le fk7.lt z14)
  have K14 := k14
  have O14 := O5.keep K14 all0
  have Z14 : Keep h0 h14 [r0] := Z5.trans K14 (fun x hx => nomatch hx)
  have sz_t14 : h0.size ≤ t14 := Nat.le_trans Z5.1 z14
  have fk15 := (fk6.keep K14 nin0)
  have fk16 := (fk8.keep K14)
  refine OwnW.putfield X14 (ty := (.array .byte)) (v' := (.ref t14)) (n := 38) d22_35 (hw _ (List.mem_of_getElem? (i := 20) rfl)) Via.refl fk15 fk16 (Or.inr ⟨(hw _ (List.mem_of_getElem? (i := 16) rfl)), rfl, rfl⟩) (hw _ (List.mem_of_getElem? (i := 2) rfl)) (by decide) rfl rfl ge_r0 (List.mem_append_left _ (List.mem_append_left _ (List.mem_append_left _ (List.mem_append_left _ (List.mem_cons_self ..))))) rfl ?_
  intro T17 h17 X17 W17 Fw17
  have fk18 := (Fw5.keep K14 nin0)
  have fk19 := fk18.other W17 (Or.inr (slot_ne (Or.inr (hw _ (List.mem_of_getElem? (i := 17) rfl))) (Or.inr (hw _ (List.mem_of_getElem? (i := 16) rfl))) (by decide) (t := .byte) (t' := (.array .byte)) (by decide) (by decide)))
  have K17 := (Keep.of_wr W17)
  have O17 := O14.keep K17 (allS ge_r0 all0)
  have Z17 : Keep h0 h17 [r0] := Z14.trans K17 (allS (P := fun x => x ∈ [r0] ∨ h0.size ≤ x) (Or.inl (List.mem_of_getElem? (i := 0) rfl)) all0)
  refine OwnW.goto X17 (n := 97) d22_38 (by decide) rfl ?_
  have fk20 := (fk16.keep K17)
  have fk21 := (a14.keep K17 (ninS (Ne.symm ne_r0_t14) nin0))
  exact OwnW.vreturn X17 rfl d22_97 ⟨Z17, _, sz_t14, fk20, fk19, Fw17, fk21⟩ (by decide) (by decide)
theorem pd__Ljava_lang_AbstractStringBuilder_Ljava_lang_Void__V : parseMethodDescriptor "(Ljava/lang/AbstractStringBuilder;Ljava/lang/Void;)V" = some ⟨[(.object "java/lang/AbstractStringBuilder"), (.object "java/lang/Void")], none⟩ := by decide +kernel
theorem d21_0 : decode jdk_42_method_53_code 0 = .ok (.aload_n 0, 1) := by decide +kernel
theorem d21_1 : decode jdk_42_method_53_code 1 = .ok (.aload_n 1, 1) := by decide +kernel
theorem d21_2 : decode jdk_42_method_53_code 2 = .ok (.aconst_null, 1) := by decide +kernel
theorem d21_3 : decode jdk_42_method_53_code 3 = .ok (.invokespecial 489, 3) := by decide +kernel
theorem d21_6 : decode jdk_42_method_53_code 6 = .ok (.return_, 1) := by decide +kernel
theorem ef_rm21l (m : MethodId) (x0 : Addr) (x1 : Addr) : entryFrame m #[(.ref x0), (.ref x1)] 2 = mkF m 0 #[.val (.ref x0), .val (.ref x1)] [] := by first | (simp [entryFrame, mkF, argsToLocals, Value.category]; done) | rfl
set_option maxRecDepth 65536 in
set_option maxHeartbeats 40000000 in
theorem rm21l {kn : Prop} (l : Launch) (Z : State) (a0 : Array Value) (hw : ∀ d ∈ tables_1, d.before a0 Z = true) (hE : EW Z a0 own_EL) (ws : List Jvm.Cond) (r0 : Addr) (r1 : Addr) (h0 : Heap) (n0 : Nat) (O0 : Old Z n0 h0) (t : Addr) (vs : List Value) (nn : Nat) (hnn : nn < vs.length) (hv1 : vs.length ≤ 160) (B0 : own_B Z h0 r1 t 0 (Int32.ofNat nn)) (A0 : Ark Z h0 t .byte vs) (ge_r0 : n0 ≤ r0) (E0 : Exa Z h0 r0 "java/lang/String") (v1 v2 : Value) (F1 : Fld Z h0 r0 "java/lang/String" "value" "[B" v1) (F2 : Fld Z h0 r0 "java/lang/String" "coder" "B" v2) (n01 : r0 ≠ r1) (n0t : r0 ≠ t) (zc : Int32) (hzc : ¬ zc = 0) (S_compact : Sta Z Z.heap "java/lang/String" "COMPACT_STRINGS" "Z" (.int zc)) :
    Ctr kn l Z own_EL (⟨"java/lang/String", "<init>", "(Ljava/lang/StringBuilder;)V"⟩ : MethodName) jdk_42_method_53_code 2 none ws ({ frames := 4, cells := 1, slots := 160, locals := 65 } : Room) n0 (r0 :: []) #[(.ref r0), (.ref r1)] h0 (Rn (fun h g => Keep h0 h [r0] ∧ ∃ t', h0.size ≤ t' ∧ Exa Z h r0 "java/lang/String" ∧ Fld Z h r0 "java/lang/String" "coder" "B" (.int 0) ∧ Fld Z h r0 "java/lang/String" "value" "[B" (.ref t') ∧ Ark Z h t' .byte (vs.take nn))) := by
  refine Ctr.of (plainFor_of_name pn_java_lang_String) hE (fun m => ef_rm21l m r0 r1) ?_
  intro p e s m below meth c T0 X0
  have Z0 : Keep h0 h0 [r0] := Keep.refl _ _
  refine OwnW.aloadN X0 (n := 1) d21_0 rfl rfl rfl ?_
  refine OwnW.aloadN X0 (n := 2) d21_1 rfl rfl rfl ?_
  refine OwnW.anull X0 (n := 3) d21_2 rfl ?_
  refine OwnW.call_special_n X0 (z := (⟨"java/lang/String", "<init>", "(Ljava/lang/AbstractStringBuilder;Ljava/lang/Void;)V"⟩ : MethodName)) (a := r0) (n := 6) d21_3 (hw _ (List.mem_of_getElem? (i := 128) rfl)) (hw _ (List.mem_of_getElem? (i := 129) rfl)) (hw _ (List.mem_of_getElem? (i := 130) rfl)) (hw _ (List.mem_of_getElem? (i := 3) rfl)) rfl rfl (by decide) (rm22l l Z a0 hw hE [] r0 r1 h0 n0 O0 t vs nn hnn hv1 B0 A0 ge_r0 E0 v1 v2 F1 F2 n01 n0t zc hzc S_compact) (OwnW.sfS (List.mem_cons_self ..) OwnW.sf0) (argsL := [(.ref r1), .null]) (rest := []) rfl rfl (OwnW.lenA pd__Ljava_lang_AbstractStringBuilder_Ljava_lang_Void__V rfl) (W := 0) (Nat.le_of_eq rfl) (by decide) (by decide) (by decide) (by decide) rfl ?_
  intro T1 h1 g1 hle1 X1 qq
  exact OwnW.vreturn X1 rfl d21_6 qq (by decide) (by decide)
theorem pd__Ljava_lang_StringBuilder__V : parseMethodDescriptor "(Ljava/lang/StringBuilder;)V" = some ⟨[(.object "java/lang/StringBuilder")], none⟩ := by decide +kernel
theorem d20_0 : decode jdk_67_method_42_code 0 = .ok (.new 18, 3) := by decide +kernel
theorem d20_3 : decode jdk_67_method_42_code 3 = .ok (.dup, 1) := by decide +kernel
theorem d20_4 : decode jdk_67_method_42_code 4 = .ok (.aload_n 0, 1) := by decide +kernel
theorem d20_5 : decode jdk_67_method_42_code 5 = .ok (.invokespecial 137, 3) := by decide +kernel
theorem d20_8 : decode jdk_67_method_42_code 8 = .ok (.areturn, 1) := by decide +kernel
theorem ef_rm20l (m : MethodId) (x0 : Addr) : entryFrame m #[(.ref x0)] 1 = mkF m 0 #[.val (.ref x0)] [] := by first | (simp [entryFrame, mkF, argsToLocals, Value.category]; done) | rfl
set_option maxRecDepth 65536 in
set_option maxHeartbeats 40000000 in
theorem rm20l {kn : Prop} (l : Launch) (Z : State) (a0 : Array Value) (hw : ∀ d ∈ tables_1, d.before a0 Z = true) (hE : EW Z a0 own_EL) (ws : List Jvm.Cond) (r0 : Addr) (h0 : Heap) (n0 : Nat) (O0 : Old Z n0 h0) (t : Addr) (vs : List Value) (nn : Nat) (hnn : nn < vs.length) (hv1 : vs.length ≤ 160) (B0 : own_B Z h0 r0 t 0 (Int32.ofNat nn)) (A0 : Ark Z h0 t .byte vs) (zc : Int32) (hzc : ¬ zc = 0) (S_compact : Sta Z Z.heap "java/lang/String" "COMPACT_STRINGS" "Z" (.int zc)) :
    Ctr kn l Z own_EL (⟨"java/lang/StringBuilder", "toString", "()Ljava/lang/String;"⟩ : MethodName) jdk_67_method_42_code 1 (some (.object "java/lang/String")) ws ({ frames := 5, cells := 2, slots := 164, locals := 79 } : Room) n0 ([]) #[(.ref r0)] h0 (Rt (fun w h g => ∃ x t', w = .ref x ∧ Keep h0 h [] ∧ h0.size ≤ x ∧ h0.size ≤ t' ∧ Exa Z h x "java/lang/String" ∧ Fld Z h x "java/lang/String" "coder" "B" (.int 0) ∧ Fld Z h x "java/lang/String" "value" "[B" (.ref t') ∧ Ark Z h t' .byte (vs.take nn))) := by
  refine Ctr.of (plainFor_of_name pn_java_lang_StringBuilder) hE (fun m => ef_rm20l m r0) ?_
  intro p e s m below meth c T0 X0
  have Z0 : Keep h0 h0 [] := Keep.refl _ _
  refine OwnW.new X0 (C := "java/lang/String") (k := 4) (n := 3) d20_0 (hw _ (List.mem_of_getElem? (i := 124) rfl)) (hw _ (List.mem_of_getElem? (i := 2) rfl)) (hw _ (List.mem_of_getElem? (i := 3) rfl)) (by decide) (by decide) rfl ?_
  intro T1 h1 b1 gb1 X1 E1 A1 D1 U1
  have ne_r0_b1 : r0 ≠ b1 := by rw [gb1]; exact Nat.ne_of_lt B0.1.lt
  have ne_t_b1 : t ≠ b1 := by rw [gb1]; exact Nat.ne_of_lt A0.lt
  have ge_b1 : n0 ≤ b1 := by rw [gb1]; exact OwnW.oldLe O0
  have K1 := (OwnW.kExt E1)
  have O1 := O0.keep K1 all0
  have Z1 : Keep h0 h1 [] := Z0.trans K1 (fun x hx => nomatch hx)
  have sz_b1 : h0.size ≤ b1 := by rw [gb1]; exact Z0.1
  have F1_value : Fld Z h1 b1 "java/lang/String" "value" "[B" .null := D1 (Or.inr (hw _ (List.mem_of_getElem? (i := 16) rfl))) (ty := (.array .byte)) (by decide)
  have F1_coder : Fld Z h1 b1 "java/lang/String" "coder" "B" (.int (0 : Int32)) := D1 (Or.inr (hw _ (List.mem_of_getElem? (i := 17) rfl))) (ty := .byte) (by decide)
  refine OwnW.dup X1 (n := 4) d20_3 rfl rfl ?_
  refine OwnW.aloadN X1 (n := 5) d20_4 rfl rfl rfl ?_
  have fk2 := (B0.1.keep K1)
  have fk3 := (B0.2.1.keep K1 nin0)
  have fk4 := (B0.2.2.1.keep K1 nin0)
  have fk5 := (B0.2.2.2.1.keep K1 nin0)
  have fk6 := (B0.2.2.2.2.keep K1 nin0)
  have fk7 := (A0.keep K1 nin0)
  refine OwnW.call_special_n X1 (z := (⟨"java/lang/String", "<init>", "(Ljava/lang/StringBuilder;)V"⟩ : MethodName)) (a := b1) (n := 8) d20_5 (hw _ (List.mem_of_getElem? (i := 125) rfl)) (hw _ (List.mem_of_getElem? (i := 126) rfl)) (hw _ (List.mem_of_getElem? (i := 127) rfl)) (hw _ (List.mem_of_getElem? (i := 3) rfl)) rfl rfl (by decide) (rm21l l Z a0 hw hE [] b1 r0 h1 n0 O1 t vs nn hnn hv1 ⟨fk2, fk3, fk4, fk5, fk6⟩ fk7 ge_b1 A1 _ _ F1_value F1_coder (Ne.symm ne_r0_b1) (Ne.symm ne_t_b1) zc hzc S_compact) (OwnW.sfS (List.mem_cons_self ..) OwnW.sf0) (argsL := [(.ref r0)]) (rest := [(.ref b1)]) rfl rfl (OwnW.lenA pd__Ljava_lang_StringBuilder__V rfl) (W := 1) (Nat.le_of_eq rfl) (by decide) (by decide) (by decide) (by decide) rfl ?_
  intro T8 h8 g8 hle8 X8 ⟨k8, t8, z8, e8, c8, v8, a8⟩
  have K8 := k8
  have O8 := O1.keep K8 (allS ge_b1 all0)
  have Z8 : Keep h0 h8 [] := Z1.trans K8 (allS (P := fun x => x ∈ [] ∨ h0.size ≤ x) (Or.inr sz_b1) all0)
  have szt : h0.size ≤ t8 := Nat.le_trans Z1.1 z8
  exact OwnW.areturn X8 rfl rfl rfl d20_8 ⟨_, _, rfl, Z8, sz_b1, szt, e8, c8, v8, a8⟩ (by decide) (by decide)
theorem d22_41 : decode jdk_42_method_150_code 41 = .ok (.getstatic 38, 3) := by decide +kernel
theorem d22_44 : decode jdk_42_method_150_code 44 = .ok (.ifCond .eq 35, 3) := by decide +kernel
theorem d22_47 : decode jdk_42_method_150_code 47 = .ok (.aload_n 1, 1) := by decide +kernel
theorem d22_48 : decode jdk_42_method_150_code 48 = .ok (.getfield 1048, 3) := by decide +kernel
theorem d22_51 : decode jdk_42_method_150_code 51 = .ok (.ifCond .eq 28, 3) := by decide +kernel
theorem d22_79 : decode jdk_42_method_150_code 79 = .ok (.aload_n 0, 1) := by decide +kernel
theorem d22_80 : decode jdk_42_method_150_code 80 = .ok (.iconst 1, 1) := by decide +kernel
theorem d22_81 : decode jdk_42_method_150_code 81 = .ok (.putfield 15, 3) := by decide +kernel
theorem d22_84 : decode jdk_42_method_150_code 84 = .ok (.aload_n 0, 1) := by decide +kernel
theorem d22_85 : decode jdk_42_method_150_code 85 = .ok (.aload_n 3, 1) := by decide +kernel
theorem d22_86 : decode jdk_42_method_150_code 86 = .ok (.iconst 0, 1) := by decide +kernel
theorem d22_87 : decode jdk_42_method_150_code 87 = .ok (.iload 4, 2) := by decide +kernel
theorem d22_89 : decode jdk_42_method_150_code 89 = .ok (.iconst 1, 1) := by decide +kernel
theorem d22_90 : decode jdk_42_method_150_code 90 = .ok (.ishl, 1) := by decide +kernel
theorem d22_91 : decode jdk_42_method_150_code 91 = .ok (.invokestatic 54, 3) := by decide +kernel
theorem d22_94 : decode jdk_42_method_150_code 94 = .ok (.putfield 9, 3) := by decide +kernel
theorem ef_rm22u (m : MethodId) (x0 : Addr) (x1 : Addr) : entryFrame m #[(.ref x0), (.ref x1), .null] 5 = mkF m 0 #[.val (.ref x0), .val (.ref x1), .val .null, .unset, .unset] [] := by first | (simp [entryFrame, mkF, argsToLocals, Value.category]; done) | rfl
set_option maxRecDepth 65536 in
set_option maxHeartbeats 40000000 in
theorem rm22u {kn : Prop} (l : Launch) (Z : State) (a0 : Array Value) (hw : ∀ d ∈ tables_1, d.before a0 Z = true) (hE : EW Z a0 own_EL) (ws : List Jvm.Cond) (r0 : Addr) (r1 : Addr) (h0 : Heap) (n0 : Nat) (O0 : Old Z n0 h0) (t : Addr) (vs : List Value) (nn : Nat) (hnn : 2 * nn < vs.length) (hv1 : vs.length ≤ 160) (B0 : own_B Z h0 r1 t 1 (Int32.ofNat nn)) (A0 : Ark Z h0 t .byte vs) (ge_r0 : n0 ≤ r0) (E0 : Exa Z h0 r0 "java/lang/String") (v1 v2 : Value) (F1 : Fld Z h0 r0 "java/lang/String" "value" "[B" v1) (F2 : Fld Z h0 r0 "java/lang/String" "coder" "B" v2) (n01 : r0 ≠ r1) (n0t : r0 ≠ t) (zc : Int32) (hzc : ¬ zc = 0) (S_compact : Sta Z Z.heap "java/lang/String" "COMPACT_STRINGS" "Z" (.int zc)) :
    Ctr kn l Z own_EL (⟨"java/lang/String", "<init>", "(Ljava/lang/AbstractStringBuilder;Ljava/lang/Void;)V"⟩ : MethodName) jdk_42_method_150_code 5 none ws ({ frames := 3, cells := 1, slots := 160, locals := 49 } : Room) n0 (r0 :: []) #[(.ref r0), (.ref r1), .null] h0 (Rn (fun h g => Keep h0 h [r0] ∧ ∃ t', h0.size ≤ t' ∧ Exa Z h r0 "java/lang/String" ∧ Fld Z h r0 "java/lang/String" "coder" "B" (.int 1) ∧ Fld Z h r0 "java/lang/String" "value" "[B" (.ref t') ∧ Ark Z h t' .byte (vs.take (2 * nn)))) := by
  refine Ctr.of (plainFor_of_name pn_java_lang_String) hE (fun m => ef_rm22u m r0 r1) ?_
  intro p e s m below meth c T0 X0
  have Z0 : Keep h0 h0 [r0] := Keep.refl _ _
  have hv4 := A0.len
  refine OwnW.aloadN X0 (n := 1) d22_0 rfl rfl rfl ?_
  refine OwnW.initObj X0 (W := 0) (n := 4) d22_1 (hw _ (List.mem_of_getElem? (i := 11) rfl)) (hw _ (List.mem_of_getElem? (i := 12) rfl)) (hw _ (List.mem_of_getElem? (i := 13) rfl)) rfl (by decide) (by decide) (by decide) rfl ?_
  intro T1 X1
  refine OwnW.aloadN X1 (n := 5) d22_4 rfl rfl rfl ?_
  refine OwnW.call_virtual_v X1 (z := (⟨"java/lang/AbstractStringBuilder", "getValue", "()[B"⟩ : MethodName)) (yv := (⟨"java/lang/AbstractStringBuilder", "getValue", "()[B"⟩ : MethodName)) (a := r1) (C := "java/lang/StringBuilder") (n := 8) d22_5 (hw _ (List.mem_of_getElem? (i := 131) rfl)) (hw _ (List.mem_of_getElem? (i := 132) rfl)) (hw _ (List.mem_of_getElem? (i := 133) rfl)) (hw _ (List.mem_of_getElem? (i := 134) rfl)) (fun hz => notFace_of_selects (args := #[]) (mvT hz (hw _ (List.mem_of_getElem? (i := 134) rfl)))) (hw _ (List.mem_of_getElem? (i := 135) rfl)) (hw _ (List.mem_of_getElem? (i := 39) rfl)) (by decide) B0.1 (rm23 l Z a0 hw hE [] r1 h0 n0 t B0.2.1) OwnW.sf0 (argsL := []) (rest := []) rfl rfl (OwnW.lenA pd____B rfl) (W := 0) (Nat.le_of_eq rfl) (by decide) (by decide) (by decide) (by decide) rfl ?_
  intro T2 h2 w2 g2 hle2 X2 ⟨q1, q2⟩
  subst q1 q2
  refine OwnW.astoreN X2 (l' := #[.val (.ref r0), .val (.ref r1), .val .null, .val (.ref t), .unset]) (n := 9) d22_8 rfl rfl rfl ?_
  refine OwnW.aloadN X2 (n := 10) d22_9 rfl rfl rfl ?_
  refine OwnW.call_virtual_v X2 (z := (⟨"java/lang/StringBuilder", "length", "()I"⟩ : MethodName)) (yv := (⟨"java/lang/AbstractStringBuilder", "length", "()I"⟩ : MethodName)) (a := r1) (C := "java/lang/StringBuilder") (n := 13) d22_10 (hw _ (List.mem_of_getElem? (i := 136) rfl)) (hw _ (List.mem_of_getElem? (i := 137) rfl)) (hw _ (List.mem_of_getElem? (i := 140) rfl)) (hw _ (List.mem_of_getElem? (i := 139) rfl)) (fun hz => OwnW.nfOf (args := #[]) (u := (⟨"java/lang/AbstractStringBuilder", "getValue", "()[B"⟩ : MethodName)) (mvT hz (hw _ (List.mem_of_getElem? (i := 134) rfl))) (mvT hz (hw _ (List.mem_of_getElem? (i := 133) rfl))) rfl) (hw _ (List.mem_of_getElem? (i := 141) rfl)) (hw _ (List.mem_of_getElem? (i := 31) rfl)) (by decide) B0.1 (rm24 l Z a0 hw hE [] r1 h0 n0 _ B0.1 B0.2.2.2.1) OwnW.sf0 (argsL := []) (rest := []) rfl rfl (OwnW.lenA pd___I rfl) (W := 0) (Nat.le_of_eq rfl) (by decide) (by decide) (by decide) (by decide) rfl ?_
  intro T3 h3 w3 g3 hle3 X3 ⟨q1, q2⟩
  subst q1 q2
  refine OwnW.istore X3 (l' := #[.val (.ref r0), .val (.ref r1), .val .null, .val (.ref t), .val (.int (Int32.ofNat nn))]) (n := 15) d22_13 rfl rfl ?_
  refine OwnW.aloadN X3 (n := 16) d22_15 rfl rfl rfl ?_
  refine OwnW.call_virtual_v X3 (z := (⟨"java/lang/AbstractStringBuilder", "isLatin1", "()Z"⟩ : MethodName)) (yv := (⟨"java/lang/AbstractStringBuilder", "isLatin1", "()Z"⟩ : MethodName)) (a := r1) (C := "java/lang/StringBuilder") (n := 19) d22_16 (hw _ (List.mem_of_getElem? (i := 144) rfl)) (hw _ (List.mem_of_getElem? (i := 145) rfl)) (hw _ (List.mem_of_getElem? (i := 146) rfl)) (hw _ (List.mem_of_getElem? (i := 147) rfl)) (fun hz => notFace_of_selects (args := #[]) (mvT hz (hw _ (List.mem_of_getElem? (i := 147) rfl)))) (hw _ (List.mem_of_getElem? (i := 148) rfl)) (hw _ (List.mem_of_getElem? (i := 39) rfl)) (by decide) B0.1 (rmBL1 l Z a0 hw hE [] r1 h0 n0 O0 B0.2.2.1 zc hzc S_compact) OwnW.sf0 (argsL := []) (rest := []) rfl rfl (OwnW.lenA pd___Z rfl) (W := 0) (Nat.le_of_eq rfl) (by decide) (by decide) (by decide) (by decide) rfl ?_
  intro T4 h4 w4 g4 hle4 X4 ⟨q1, q2⟩
  subst q1 q2
  refine OwnW.if_eq X4  (n1 := 41) (n2 := 22) d22_19 (by decide) rfl rfl (fun _ => ?_) (fun q => absurd ((by decide) : (0 : Int32) = 0) q)
  refine OwnW.getstatic X4 (n := 44) d22_41 (hw _ (List.mem_of_getElem? (i := 68) rfl)) Via.refl (S_compact.ext O0.2) rfl ?_
  intro T5 X5
  refine OwnW.if_eq X5  (n1 := 79) (n2 := 47) d22_44 (by decide) rfl rfl (fun q => absurd q (hzc : ¬ zc = 0)) (fun _ => ?_)
  refine OwnW.aloadN X5 (n := 48) d22_47 rfl rfl rfl ?_
  refine OwnW.getfield X5 (n := 51) d22_48 (hw _ (List.mem_of_getElem? (i := 326) rfl)) Via.refl B0.2.2.2.2 rfl ?_
  intro T6 X6
  refine OwnW.if_eq X6  (n1 := 79) (n2 := 54) d22_51 (by decide) rfl rfl (fun _ => ?_) (fun q => absurd ((by decide) : (0 : Int32) = 0) q)
  refine OwnW.aloadN X6 (n := 80) d22_79 rfl rfl rfl ?_
  refine OwnW.iconst X6 (z := (1 : Int32)) (n := 81) d22_80 rfl rfl ?_
  refine OwnW.putfield X6 (ty := .byte) (v' := (.int (1 : Int32))) (n := 84) d22_81 (hw _ (List.mem_of_getElem? (i := 21) rfl)) Via.refl F2 E0 (Or.inr ⟨(hw _ (List.mem_of_getElem? (i := 17) rfl)), rfl, rfl⟩) (hw _ (List.mem_of_getElem? (i := 2) rfl)) (by decide) rfl rfl ge_r0 (List.mem_append_left _ (List.mem_append_left _ (List.mem_append_left _ (List.mem_cons_self ..)))) rfl ?_
  intro T7 h7 X7 W7 Fw7
  have fk8 := F1.other W7 (Or.inr (slot_ne (Or.inr (hw _ (List.mem_of_getElem? (i := 16) rfl))) (Or.inr (hw _ (List.mem_of_getElem? (i := 17) rfl))) (by decide) (t := (.array .byte)) (t' := .byte) (by decide) (by decide)))
  have K7 := (Keep.of_wr W7)
  have O7 := O0.keep K7 (allS ge_r0 all0)
  have Z7 : Keep h0 h7 [r0] := Z0.trans K7 (allS (P := fun x => x ∈ [r0] ∨ h0.size ≤ x) (Or.inl (List.mem_of_getElem? (i := 0) rfl)) all0)
  refine OwnW.aloadN X7 (n := 85) d22_84 rfl rfl rfl ?_
  refine OwnW.aloadN X7 (n := 86) d22_85 rfl rfl rfl ?_
  refine OwnW.iconst X7 (z := (0 : Int32)) (n := 87) d22_86 rfl rfl ?_
  refine OwnW.iload X7 (n := 89) d22_87 rfl rfl ?_
  refine OwnW.iconst X7 (z := (1 : Int32)) (n := 90) d22_89 rfl rfl ?_
  refine OwnW.ishl X7 (n := 91) d22_90 rfl ?_
  rw [own_shl1 (i := nn) (by omega)]
  have fk9 := (A0.keep K7 (ninS (Ne.symm n0t) nin0))
  have fk10 := (E0.keep K7)
  have fk11 := (B0.1.keep K7)
  have fk12 := (B0.2.1.keep K7 (ninS (Ne.symm n01) nin0))
  have fk13 := (B0.2.2.1.keep K7 (ninS (Ne.symm n01) nin0))
  have fk14 := (B0.2.2.2.1.keep K7 (ninS (Ne.symm n01) nin0))
  have fk15 := (B0.2.2.2.2.keep K7 (ninS (Ne.symm n01) nin0))
  refine OwnW.call_static_v X7 (z := (⟨"java/util/Arrays", "copyOfRange", "([BII)[B"⟩ : MethodName)) (n := 94) d22_91 (hw _ (List.mem_of_getElem? (i := 149) rfl)) (hw _ (List.mem_of_getElem? (i := 150) rfl)) (hw _ (List.mem_of_getElem? (i := 151) rfl)) (hw _ (List.mem_of_getElem? (i := 93) rfl)) (by decide) (rm27 l Z a0 hw hE [] t h7 n0 O7 vs (2 * nn) hnn hv1 fk9) OwnW.sf0 (argsL := [(.ref t), (.int (0 : Int32)), (.int (Int32.ofNat (2 * nn)))]) (rest := [(.ref r0)]) rfl rfl (OwnW.lenA pd___BII__B rfl) (W := 1) (Nat.le_of_eq rfl) (by decide) (by decide) (by decide) (by decide) rfl ?_
  intro T16 h16 w16 g16 hle16 X16 ⟨t16, q1, k16, z16, a16⟩
  subst q1
  have ne_r0_t16 : r0 ≠ t16 := Nat.ne_of_lt (Nat.lt_of_lt_of_le fk10.lt z16)
  have ne_r1_t16 : r1 ≠ t16 := Nat.ne_of_lt (Nat.lt_of_lt_of_le fk11.lt z16)
  have ne_t_t16 : t ≠ t16 := Nat.ne_of_lt (Nat.lt_of_lt_of_le fk9.lt z16)
  have K16 := k16
  have O16 := O7.keep K16 all0
  have Z16 : Keep h0 h16 [r0] := Z7.trans K16 (fun x hx => nomatch hx)
  have sz_t16 : h0.size ≤ t16 := Nat.le_trans Z7.1 z16
  have fk17 := (fk8.keep K16 nin0)
  have fk18 := (fk10.keep K16)
  refine OwnW.putfield X16 (ty := (.array .byte)) (v' := (.ref t16)) (n := 97) d22_94 (hw _ (List.mem_of_getElem? (i := 20) rfl)) Via.refl fk17 fk18 (Or.inr ⟨(hw _ (List.mem_of_getElem? (i := 16) rfl)), rfl, rfl⟩) (hw _ (List.mem_of_getElem? (i := 2) rfl)) (by decide) rfl rfl ge_r0 (List.mem_append_left _ (List.mem_append_left _ (List.mem_append_left _ (List.mem_append_left _ (List.mem_cons_self ..))))) rfl ?_
  intro T19 h19 X19 W19 Fw19
  have fk20 := (Fw7.keep K16 nin0)
  have fk21 := fk20.other W19 (Or.inr (slot_ne (Or.inr (hw _ (List.mem_of_getElem? (i := 17) rfl))) (Or.inr (hw _ (List.mem_of_getElem? (i := 16) rfl))) (by decide) (t := .byte) (t' := (.array .byte)) (by decide) (by decide)))
  have K19 := (Keep.of_wr W19)
  have O19 := O16.keep K19 (allS ge_r0 all0)
  have Z19 : Keep h0 h19 [r0] := Z16.trans K19 (allS (P := fun x => x ∈ [r0] ∨ h0.size ≤ x) (Or.inl (List.mem_of_getElem? (i := 0) rfl)) all0)
  have fk22 := (fk18.keep K19)
  have fk23 := (a16.keep K19 (ninS (Ne.symm ne_r0_t16) nin0))
  exact OwnW.vreturn X19 rfl d22_97 ⟨Z19, _, sz_t16, fk22, fk21, Fw19, fk23⟩ (by decide) (by decide)
theorem ef_rm21u (m : MethodId) (x0 : Addr) (x1 : Addr) : entryFrame m #[(.ref x0), (.ref x1)] 2 = mkF m 0 #[.val (.ref x0), .val (.ref x1)] [] := by first | (simp [entryFrame, mkF, argsToLocals, Value.category]; done) | rfl
set_option maxRecDepth 65536 in
set_option maxHeartbeats 40000000 in
theorem rm21u {kn : Prop} (l : Launch) (Z : State) (a0 : Array Value) (hw : ∀ d ∈ tables_1, d.before a0 Z = true) (hE : EW Z a0 own_EL) (ws : List Jvm.Cond) (r0 : Addr) (r1 : Addr) (h0 : Heap) (n0 : Nat) (O0 : Old Z n0 h0) (t : Addr) (vs : List Value) (nn : Nat) (hnn : 2 * nn < vs.length) (hv1 : vs.length ≤ 160) (B0 : own_B Z h0 r1 t 1 (Int32.ofNat nn)) (A0 : Ark Z h0 t .byte vs) (ge_r0 : n0 ≤ r0) (E0 : Exa Z h0 r0 "java/lang/String") (v1 v2 : Value) (F1 : Fld Z h0 r0 "java/lang/String" "value" "[B" v1) (F2 : Fld Z h0 r0 "java/lang/String" "coder" "B" v2) (n01 : r0 ≠ r1) (n0t : r0 ≠ t) (zc : Int32) (hzc : ¬ zc = 0) (S_compact : Sta Z Z.heap "java/lang/String" "COMPACT_STRINGS" "Z" (.int zc)) :
    Ctr kn l Z own_EL (⟨"java/lang/String", "<init>", "(Ljava/lang/StringBuilder;)V"⟩ : MethodName) jdk_42_method_53_code 2 none ws ({ frames := 4, cells := 1, slots := 160, locals := 65 } : Room) n0 (r0 :: []) #[(.ref r0), (.ref r1)] h0 (Rn (fun h g => Keep h0 h [r0] ∧ ∃ t', h0.size ≤ t' ∧ Exa Z h r0 "java/lang/String" ∧ Fld Z h r0 "java/lang/String" "coder" "B" (.int 1) ∧ Fld Z h r0 "java/lang/String" "value" "[B" (.ref t') ∧ Ark Z h t' .byte (vs.take (2 * nn)))) := by
  refine Ctr.of (plainFor_of_name pn_java_lang_String) hE (fun m => ef_rm21u m r0 r1) ?_
  intro p e s m below meth c T0 X0
  have Z0 : Keep h0 h0 [r0] := Keep.refl _ _
  refine OwnW.aloadN X0 (n := 1) d21_0 rfl rfl rfl ?_
  refine OwnW.aloadN X0 (n := 2) d21_1 rfl rfl rfl ?_
  refine OwnW.anull X0 (n := 3) d21_2 rfl ?_
  refine OwnW.call_special_n X0 (z := (⟨"java/lang/String", "<init>", "(Ljava/lang/AbstractStringBuilder;Ljava/lang/Void;)V"⟩ : MethodName)) (a := r0) (n := 6) d21_3 (hw _ (List.mem_of_getElem? (i := 128) rfl)) (hw _ (List.mem_of_getElem? (i := 129) rfl)) (hw _ (List.mem_of_getElem? (i := 130) rfl)) (hw _ (List.mem_of_getElem? (i := 3) rfl)) rfl rfl (by decide) (rm22u l Z a0 hw hE [] r0 r1 h0 n0 O0 t vs nn hnn hv1 B0 A0 ge_r0 E0 v1 v2 F1 F2 n01 n0t zc hzc S_compact) (OwnW.sfS (List.mem_cons_self ..) OwnW.sf0) (argsL := [(.ref r1), .null]) (rest := []) rfl rfl (OwnW.lenA pd__Ljava_lang_AbstractStringBuilder_Ljava_lang_Void__V rfl) (W := 0) (Nat.le_of_eq rfl) (by decide) (by decide) (by decide) (by decide) rfl ?_
  intro T1 h1 g1 hle1 X1 qq
  exact OwnW.vreturn X1 rfl d21_6 qq (by decide) (by decide)
theorem ef_rm20u (m : MethodId) (x0 : Addr) : entryFrame m #[(.ref x0)] 1 = mkF m 0 #[.val (.ref x0)] [] := by first | (simp [entryFrame, mkF, argsToLocals, Value.category]; done) | rfl
set_option maxRecDepth 65536 in
set_option maxHeartbeats 40000000 in
theorem rm20u {kn : Prop} (l : Launch) (Z : State) (a0 : Array Value) (hw : ∀ d ∈ tables_1, d.before a0 Z = true) (hE : EW Z a0 own_EL) (ws : List Jvm.Cond) (r0 : Addr) (h0 : Heap) (n0 : Nat) (O0 : Old Z n0 h0) (t : Addr) (vs : List Value) (nn : Nat) (hnn : 2 * nn < vs.length) (hv1 : vs.length ≤ 160) (B0 : own_B Z h0 r0 t 1 (Int32.ofNat nn)) (A0 : Ark Z h0 t .byte vs) (zc : Int32) (hzc : ¬ zc = 0) (S_compact : Sta Z Z.heap "java/lang/String" "COMPACT_STRINGS" "Z" (.int zc)) :
    Ctr kn l Z own_EL (⟨"java/lang/StringBuilder", "toString", "()Ljava/lang/String;"⟩ : MethodName) jdk_67_method_42_code 1 (some (.object "java/lang/String")) ws ({ frames := 5, cells := 2, slots := 164, locals := 79 } : Room) n0 ([]) #[(.ref r0)] h0 (Rt (fun w h g => ∃ x t', w = .ref x ∧ Keep h0 h [] ∧ h0.size ≤ x ∧ h0.size ≤ t' ∧ Exa Z h x "java/lang/String" ∧ Fld Z h x "java/lang/String" "coder" "B" (.int 1) ∧ Fld Z h x "java/lang/String" "value" "[B" (.ref t') ∧ Ark Z h t' .byte (vs.take (2 * nn)))) := by
  refine Ctr.of (plainFor_of_name pn_java_lang_StringBuilder) hE (fun m => ef_rm20u m r0) ?_
  intro p e s m below meth c T0 X0
  have Z0 : Keep h0 h0 [] := Keep.refl _ _
  refine OwnW.new X0 (C := "java/lang/String") (k := 4) (n := 3) d20_0 (hw _ (List.mem_of_getElem? (i := 124) rfl)) (hw _ (List.mem_of_getElem? (i := 2) rfl)) (hw _ (List.mem_of_getElem? (i := 3) rfl)) (by decide) (by decide) rfl ?_
  intro T1 h1 b1 gb1 X1 E1 A1 D1 U1
  have ne_r0_b1 : r0 ≠ b1 := by rw [gb1]; exact Nat.ne_of_lt B0.1.lt
  have ne_t_b1 : t ≠ b1 := by rw [gb1]; exact Nat.ne_of_lt A0.lt
  have ge_b1 : n0 ≤ b1 := by rw [gb1]; exact OwnW.oldLe O0
  have K1 := (OwnW.kExt E1)
  have O1 := O0.keep K1 all0
  have Z1 : Keep h0 h1 [] := Z0.trans K1 (fun x hx => nomatch hx)
  have sz_b1 : h0.size ≤ b1 := by rw [gb1]; exact Z0.1
  have F1_value : Fld Z h1 b1 "java/lang/String" "value" "[B" .null := D1 (Or.inr (hw _ (List.mem_of_getElem? (i := 16) rfl))) (ty := (.array .byte)) (by decide)
  have F1_coder : Fld Z h1 b1 "java/lang/String" "coder" "B" (.int (0 : Int32)) := D1 (Or.inr (hw _ (List.mem_of_getElem? (i := 17) rfl))) (ty := .byte) (by decide)
  refine OwnW.dup X1 (n := 4) d20_3 rfl rfl ?_
  refine OwnW.aloadN X1 (n := 5) d20_4 rfl rfl rfl ?_
  have fk2 := (B0.1.keep K1)
  have fk3 := (B0.2.1.keep K1 nin0)
  have fk4 := (B0.2.2.1.keep K1 nin0)
  have fk5 := (B0.2.2.2.1.keep K1 nin0)
  have fk6 := (B0.2.2.2.2.keep K1 nin0)
  have fk7 := (A0.keep K1 nin0)
  refine OwnW.call_special_n X1 (z := (⟨"java/lang/String", "<init>", "(Ljava/lang/StringBuilder;)V"⟩ : MethodName)) (a := b1) (n := 8) d20_5 (hw _ (List.mem_of_getElem? (i := 125) rfl)) (hw _ (List.mem_of_getElem? (i := 126) rfl)) (hw _ (List.mem_of_getElem? (i := 127) rfl)) (hw _ (List.mem_of_getElem? (i := 3) rfl)) rfl rfl (by decide) (rm21u l Z a0 hw hE [] b1 r0 h1 n0 O1 t vs nn hnn hv1 ⟨fk2, fk3, fk4, fk5, fk6⟩ fk7 ge_b1 A1 _ _ F1_value F1_coder (Ne.symm ne_r0_b1) (Ne.symm ne_t_b1) zc hzc S_compact) (OwnW.sfS (List.mem_cons_self ..) OwnW.sf0) (argsL := [(.ref r0)]) (rest := [(.ref b1)]) rfl rfl (OwnW.lenA pd__Ljava_lang_StringBuilder__V rfl) (W := 1) (Nat.le_of_eq rfl) (by decide) (by decide) (by decide) (by decide) rfl ?_
  intro T8 h8 g8 hle8 X8 ⟨k8, t8, z8, e8, c8, v8, a8⟩
  have K8 := k8
  have O8 := O1.keep K8 (allS ge_b1 all0)
  have Z8 : Keep h0 h8 [] := Z1.trans K8 (allS (P := fun x => x ∈ [] ∨ h0.size ≤ x) (Or.inr sz_b1) all0)
  have szt : h0.size ≤ t8 := Nat.le_trans Z1.1 z8
  exact OwnW.areturn X8 rfl rfl rfl d20_8 ⟨_, _, rfl, Z8, sz_b1, szt, e8, c8, v8, a8⟩ (by decide) (by decide)
theorem ef_rm22f (m : MethodId) (x0 : Addr) (x1 : Addr) : entryFrame m #[(.ref x0), (.ref x1), .null] 5 = mkF m 0 #[.val (.ref x0), .val (.ref x1), .val .null, .unset, .unset] [] := by first | (simp [entryFrame, mkF, argsToLocals, Value.category]; done) | rfl
set_option maxRecDepth 65536 in
set_option maxHeartbeats 40000000 in
theorem rm22f {kn : Prop} (l : Launch) (Z : State) (a0 : Array Value) (hw : ∀ d ∈ tables_1, d.before a0 Z = true) (hE : EW Z a0 own_EL) (ws : List Jvm.Cond) (r0 : Addr) (r1 : Addr) (h0 : Heap) (n0 : Nat) (O0 : Old Z n0 h0) (t : Addr) (vs : List Value) (nn : Nat) (hnn : nn = vs.length) (ET : Exa Z h0 t "[B") (hv1 : vs.length ≤ 160) (B0 : own_B Z h0 r1 t 0 (Int32.ofNat nn)) (A0 : Ark Z h0 t .byte vs) (ge_r0 : n0 ≤ r0) (E0 : Exa Z h0 r0 "java/lang/String") (v1 v2 : Value) (F1 : Fld Z h0 r0 "java/lang/String" "value" "[B" v1) (F2 : Fld Z h0 r0 "java/lang/String" "coder" "B" v2) (n01 : r0 ≠ r1) (n0t : r0 ≠ t) (zc : Int32) (hzc : ¬ zc = 0) (S_compact : Sta Z Z.heap "java/lang/String" "COMPACT_STRINGS" "Z" (.int zc)) :
    Ctr kn l Z own_EL (⟨"java/lang/String", "<init>", "(Ljava/lang/AbstractStringBuilder;Ljava/lang/Void;)V"⟩ : MethodName) jdk_42_method_150_code 5 none ws ({ frames := 3, cells := 1, slots := 160, locals := 49 } : Room) n0 (r0 :: []) #[(.ref r0), (.ref r1), .null] h0 (Rn (fun h g => Keep h0 h [r0] ∧ ∃ t', h0.size ≤ t' ∧ Exa Z h r0 "java/lang/String" ∧ Fld Z h r0 "java/lang/String" "coder" "B" (.int 0) ∧ Fld Z h r0 "java/lang/String" "value" "[B" (.ref t') ∧ Ark Z h t' .byte vs)) := by
  refine Ctr.of (plainFor_of_name pn_java_lang_String) hE (fun m => ef_rm22f m r0 r1) ?_
  intro p e s m below meth c T0 X0
  have Z0 : Keep h0 h0 [r0] := Keep.refl _ _
  have hv4 := A0.len
  refine OwnW.aloadN X0 (n := 1) d22_0 rfl rfl rfl ?_
  refine OwnW.initObj X0 (W := 0) (n := 4) d22_1 (hw _ (List.mem_of_getElem? (i := 11) rfl)) (hw _ (List.mem_of_getElem? (i := 12) rfl)) (hw _ (List.mem_of_getElem? (i := 13) rfl)) rfl (by decide) (by decide) (by decide) rfl ?_
  intro T1 X1
  refine OwnW.aloadN X1 (n := 5) d22_4 rfl rfl rfl ?_
  refine OwnW.call_virtual_v X1 (z := (⟨"java/lang/AbstractStringBuilder", "getValue", "()[B"⟩ : MethodName)) (yv := (⟨"java/lang/AbstractStringBuilder", "getValue", "()[B"⟩ : MethodName)) (a := r1) (C := "java/lang/StringBuilder") (n := 8) d22_5 (hw _ (List.mem_of_getElem? (i := 131) rfl)) (hw _ (List.mem_of_getElem? (i := 132) rfl)) (hw _ (List.mem_of_getElem? (i := 133) rfl)) (hw _ (List.mem_of_getElem? (i := 134) rfl)) (fun hz => notFace_of_selects (args := #[]) (mvT hz (hw _ (List.mem_of_getElem? (i := 134) rfl)))) (hw _ (List.mem_of_getElem? (i := 135) rfl)) (hw _ (List.mem_of_getElem? (i := 39) rfl)) (by decide) B0.1 (rm23 l Z a0 hw hE [] r1 h0 n0 t B0.2.1) OwnW.sf0 (argsL := []) (rest := []) rfl rfl (OwnW.lenA pd____B rfl) (W := 0) (Nat.le_of_eq rfl) (by decide) (by decide) (by decide) (by decide) rfl ?_
  intro T2 h2 w2 g2 hle2 X2 ⟨q1, q2⟩
  subst q1 q2
  refine OwnW.astoreN X2 (l' := #[.val (.ref r0), .val (.ref r1), .val .null, .val (.ref t), .unset]) (n := 9) d22_8 rfl rfl rfl ?_
  refine OwnW.aloadN X2 (n := 10) d22_9 rfl rfl rfl ?_
  refine OwnW.call_virtual_v X2 (z := (⟨"java/lang/StringBuilder", "length", "()I"⟩ : MethodName)) (yv := (⟨"java/lang/AbstractStringBuilder", "length", "()I"⟩ : MethodName)) (a := r1) (C := "java/lang/StringBuilder") (n := 13) d22_10 (hw _ (List.mem_of_getElem? (i := 136) rfl)) (hw _ (List.mem_of_getElem? (i := 137) rfl)) (hw _ (List.mem_of_getElem? (i := 140) rfl)) (hw _ (List.mem_of_getElem? (i := 139) rfl)) (fun hz => OwnW.nfOf (args := #[]) (u := (⟨"java/lang/AbstractStringBuilder", "getValue", "()[B"⟩ : MethodName)) (mvT hz (hw _ (List.mem_of_getElem? (i := 134) rfl))) (mvT hz (hw _ (List.mem_of_getElem? (i := 133) rfl))) rfl) (hw _ (List.mem_of_getElem? (i := 141) rfl)) (hw _ (List.mem_of_getElem? (i := 31) rfl)) (by decide) B0.1 (rm24 l Z a0 hw hE [] r1 h0 n0 _ B0.1 B0.2.2.2.1) OwnW.sf0 (argsL := []) (rest := []) rfl rfl (OwnW.lenA pd___I rfl) (W := 0) (Nat.le_of_eq rfl) (by decide) (by decide) (by decide) (by decide) rfl ?_
  intro T3 h3 w3 g3 hle3 X3 ⟨q1, q2⟩
  subst q1 q2
  rw [hnn]
  refine OwnW.istore X3 (l' := #[.val (.ref r0), .val (.ref r1), .val .null, .val (.ref t), .val (.int (Int32.ofNat vs.length))]) (n := 15) d22_13 rfl rfl ?_
  refine OwnW.aloadN X3 (n := 16) d22_15 rfl rfl rfl ?_
  refine OwnW.call_virtual_v X3 (z := (⟨"java/lang/AbstractStringBuilder", "isLatin1", "()Z"⟩ : MethodName)) (yv := (⟨"java/lang/AbstractStringBuilder", "isLatin1", "()Z"⟩ : MethodName)) (a := r1) (C := "java/lang/StringBuilder") (n := 19) d22_16 (hw _ (List.mem_of_getElem? (i := 144) rfl)) (hw _ (List.mem_of_getElem? (i := 145) rfl)) (hw _ (List.mem_of_getElem? (i := 146) rfl)) (hw _ (List.mem_of_getElem? (i := 147) rfl)) (fun hz => notFace_of_selects (args := #[]) (mvT hz (hw _ (List.mem_of_getElem? (i := 147) rfl)))) (hw _ (List.mem_of_getElem? (i := 148) rfl)) (hw _ (List.mem_of_getElem? (i := 39) rfl)) (by decide) B0.1 (rmBL0 l Z a0 hw hE [] r1 h0 n0 O0 B0.2.2.1 zc hzc S_compact) OwnW.sf0 (argsL := []) (rest := []) rfl rfl (OwnW.lenA pd___Z rfl) (W := 0) (Nat.le_of_eq rfl) (by decide) (by decide) (by decide) (by decide) rfl ?_
  intro T4 h4 w4 g4 hle4 X4 ⟨q1, q2⟩
  subst q1 q2
  refine OwnW.if_eq X4  (n1 := 41) (n2 := 22) d22_19 (by decide) rfl rfl (fun q => absurd q ((by decide) : ¬ (1 : Int32) = 0)) (fun _ => ?_)
  refine OwnW.aloadN X4 (n := 23) d22_22 rfl rfl rfl ?_
  refine OwnW.iconst X4 (z := (0 : Int32)) (n := 24) d22_23 rfl rfl ?_
  refine OwnW.putfield X4 (ty := .byte) (v' := (.int (0 : Int32))) (n := 27) d22_24 (hw _ (List.mem_of_getElem? (i := 21) rfl)) Via.refl F2 E0 (Or.inr ⟨(hw _ (List.mem_of_getElem? (i := 17) rfl)), rfl, rfl⟩) (hw _ (List.mem_of_getElem? (i := 2) rfl)) (by decide) rfl rfl ge_r0 (List.mem_append_left _ (List.mem_append_left _ (List.mem_append_left _ (List.mem_cons_self ..)))) rfl ?_
  intro T5 h5 X5 W5 Fw5
  have fk6 := F1.other W5 (Or.inr (slot_ne (Or.inr (hw _ (List.mem_of_getElem? (i := 16) rfl))) (Or.inr (hw _ (List.mem_of_getElem? (i := 17) rfl))) (by decide) (t := (.array .byte)) (t' := .byte) (by decide) (by decide)))
  have K5 := (Keep.of_wr W5)
  have O5 := O0.keep K5 (allS ge_r0 all0)
  have Z5 : Keep h0 h5 [r0] := Z0.trans K5 (allS (P := fun x => x ∈ [r0] ∨ h0.size ≤ x) (Or.inl (List.mem_of_getElem? (i := 0) rfl)) all0)
  refine OwnW.aloadN X5 (n := 28) d22_27 rfl rfl rfl ?_
  refine OwnW.aloadN X5 (n := 29) d22_28 rfl rfl rfl ?_
  refine OwnW.iconst X5 (z := (0 : Int32)) (n := 30) d22_29 rfl rfl ?_
  refine OwnW.iload X5 (n := 32) d22_30 rfl rfl ?_
  have fk7 := (A0.keep K5 (ninS (Ne.symm n0t) nin0))
  have fk8 := (E0.keep K5)
  have fk9 := (B0.1.keep K5)
  have fk10 := (B0.2.1.keep K5 (ninS (Ne.symm n01) nin0))
  have fk11 := (B0.2.2.1.keep K5 (ninS (Ne.symm n01) nin0))
  have fk12 := (B0.2.2.2.1.keep K5 (ninS (Ne.symm n01) nin0))
  have fk13 := (B0.2.2.2.2.keep K5 (ninS (Ne.symm n01) nin0))
  have fk14 := (ET.keep K5)
  refine OwnW.call_static_v X5 (z := (⟨"java/util/Arrays", "copyOfRange", "([BII)[B"⟩ : MethodName)) (n := 35) d22_32 (hw _ (List.mem_of_getElem? (i := 149) rfl)) (hw _ (List.mem_of_getElem? (i := 150) rfl)) (hw _ (List.mem_of_getElem? (i := 151) rfl)) (hw _ (List.mem_of_getElem? (i := 93) rfl)) (by decide) (rm27c l Z a0 hw hE [] t h5 n0 O5 vs hv1 fk14 fk7) OwnW.sf0 (argsL := [(.ref t), (.int (0 : Int32)), (.int (Int32.ofNat vs.length))]) (rest := [(.ref r0)]) rfl rfl (OwnW.lenA pd___BII__B rfl) (W := 1) (Nat.le_of_eq rfl) (by decide) (by decide) (by decide) (by decide) rfl ?_
  intro T15 h15 w15 g15 hle15 X15 ⟨t15, q1, k15, z15, a15⟩
  subst q1
  have ne_r0_t15 : r0 ≠ t15 := Nat.ne_of_lt (Nat.lt_of_lt_of_le fk8.lt z15)
  have ne_r1_t15 : r1 ≠ t15 := Nat.ne_of_lt (Nat.lt_of_lt_of_le fk9.lt z15)
  have ne_t_t15 : t ≠ t15 := Nat.ne_of_lt (Nat.lt_of_lt_of_le fk7.lt z15)
  have K15 := k15
  have O15 := O5.keep K15 all0
  have Z15 : Keep h0 h15 [r0] := Z5.trans K15 (fun x hx => nomatch hx)
  have sz_t15 : h0.size ≤ t15 := Nat.le_trans Z5.1 z15
  have fk16 := (fk6.keep K15 nin0)
  have fk17 := (fk8.keep K15)
  refine OwnW.putfield X15 (ty := (.array .byte)) (v' := (.ref t15)) (n := 38) d22_35 (hw _ (List.mem_of_getElem? (i := 20) rfl)) Via.refl fk16 fk17 (Or.inr ⟨(hw _ (List.mem_of_getElem? (i := 16) rfl)), rfl, rfl⟩) (hw _ (List.mem_of_getElem? (i := 2) rfl)) (by decide) rfl rfl ge_r0 (List.mem_append_left _ (List.mem_append_left _ (List.mem_append_left _ (List.mem_append_left _ (List.mem_cons_self ..))))) rfl ?_
  intro T18 h18 X18 W18 Fw18
  have fk19 := (Fw5.keep K15 nin0)
  have fk20 := fk19.other W18 (Or.inr (slot_ne (Or.inr (hw _ (List.mem_of_getElem? (i := 17) rfl))) (Or.inr (hw _ (List.mem_of_getElem? (i := 16) rfl))) (by decide) (t := .byte) (t' := (.array .byte)) (by decide) (by decide)))
  have K18 := (Keep.of_wr W18)
  have O18 := O15.keep K18 (allS ge_r0 all0)
  have Z18 : Keep h0 h18 [r0] := Z15.trans K18 (allS (P := fun x => x ∈ [r0] ∨ h0.size ≤ x) (Or.inl (List.mem_of_getElem? (i := 0) rfl)) all0)
  refine OwnW.goto X18 (n := 97) d22_38 (by decide) rfl ?_
  have fk21 := (fk17.keep K18)
  have fk22 := (a15.keep K18 (ninS (Ne.symm ne_r0_t15) nin0))
  exact OwnW.vreturn X18 rfl d22_97 ⟨Z18, _, sz_t15, fk21, fk20, Fw18, fk22⟩ (by decide) (by decide)
theorem ef_rm21f (m : MethodId) (x0 : Addr) (x1 : Addr) : entryFrame m #[(.ref x0), (.ref x1)] 2 = mkF m 0 #[.val (.ref x0), .val (.ref x1)] [] := by first | (simp [entryFrame, mkF, argsToLocals, Value.category]; done) | rfl
set_option maxRecDepth 65536 in
set_option maxHeartbeats 40000000 in
theorem rm21f {kn : Prop} (l : Launch) (Z : State) (a0 : Array Value) (hw : ∀ d ∈ tables_1, d.before a0 Z = true) (hE : EW Z a0 own_EL) (ws : List Jvm.Cond) (r0 : Addr) (r1 : Addr) (h0 : Heap) (n0 : Nat) (O0 : Old Z n0 h0) (t : Addr) (vs : List Value) (nn : Nat) (hnn : nn = vs.length) (ET : Exa Z h0 t "[B") (hv1 : vs.length ≤ 160) (B0 : own_B Z h0 r1 t 0 (Int32.ofNat nn)) (A0 : Ark Z h0 t .byte vs) (ge_r0 : n0 ≤ r0) (E0 : Exa Z h0 r0 "java/lang/String") (v1 v2 : Value) (F1 : Fld Z h0 r0 "java/lang/String" "value" "[B" v1) (F2 : Fld Z h0 r0 "java/lang/String" "coder" "B" v2) (n01 : r0 ≠ r1) (n0t : r0 ≠ t) (zc : Int32) (hzc : ¬ zc = 0) (S_compact : Sta Z Z.heap "java/lang/String" "COMPACT_STRINGS" "Z" (.int zc)) :
    Ctr kn l Z own_EL (⟨"java/lang/String", "<init>", "(Ljava/lang/StringBuilder;)V"⟩ : MethodName) jdk_42_method_53_code 2 none ws ({ frames := 4, cells := 1, slots := 160, locals := 65 } : Room) n0 (r0 :: []) #[(.ref r0), (.ref r1)] h0 (Rn (fun h g => Keep h0 h [r0] ∧ ∃ t', h0.size ≤ t' ∧ Exa Z h r0 "java/lang/String" ∧ Fld Z h r0 "java/lang/String" "coder" "B" (.int 0) ∧ Fld Z h r0 "java/lang/String" "value" "[B" (.ref t') ∧ Ark Z h t' .byte vs)) := by
  refine Ctr.of (plainFor_of_name pn_java_lang_String) hE (fun m => ef_rm21f m r0 r1) ?_
  intro p e s m below meth c T0 X0
  have Z0 : Keep h0 h0 [r0] := Keep.refl _ _
  refine OwnW.aloadN X0 (n := 1) d21_0 rfl rfl rfl ?_
  refine OwnW.aloadN X0 (n := 2) d21_1 rfl rfl rfl ?_
  refine OwnW.anull X0 (n := 3) d21_2 rfl ?_
  refine OwnW.call_special_n X0 (z := (⟨"java/lang/String", "<init>", "(Ljava/lang/AbstractStringBuilder;Ljava/lang/Void;)V"⟩ : MethodName)) (a := r0) (n := 6) d21_3 (hw _ (List.mem_of_getElem? (i := 128) rfl)) (hw _ (List.mem_of_getElem? (i := 129) rfl)) (hw _ (List.mem_of_getElem? (i := 130) rfl)) (hw _ (List.mem_of_getElem? (i := 3) rfl)) rfl rfl (by decide) (rm22f l Z a0 hw hE [] r0 r1 h0 n0 O0 t vs nn hnn ET hv1 B0 A0 ge_r0 E0 v1 v2 F1 F2 n01 n0t zc hzc S_compact) (OwnW.sfS (List.mem_cons_self ..) OwnW.sf0) (argsL := [(.ref r1), .null]) (rest := []) rfl rfl (OwnW.lenA pd__Ljava_lang_AbstractStringBuilder_Ljava_lang_Void__V rfl) (W := 0) (Nat.le_of_eq rfl) (by decide) (by decide) (by decide) (by decide) rfl ?_
  intro T1 h1 g1 hle1 X1 qq
  exact OwnW.vreturn X1 rfl d21_6 qq (by decide) (by decide)
theorem ef_rm20f (m : MethodId) (x0 : Addr) : entryFrame m #[(.ref x0)] 1 = mkF m 0 #[.val (.ref x0)] [] := by first | (simp [entryFrame, mkF, argsToLocals, Value.category]; done) | rfl
set_option maxRecDepth 65536 in
set_option maxHeartbeats 40000000 in
theorem rm20f {kn : Prop} (l : Launch) (Z : State) (a0 : Array Value) (hw : ∀ d ∈ tables_1, d.before a0 Z = true) (hE : EW Z a0 own_EL) (ws : List Jvm.Cond) (r0 : Addr) (h0 : Heap) (n0 : Nat) (O0 : Old Z n0 h0) (t : Addr) (vs : List Value) (nn : Nat) (hnn : nn = vs.length) (ET : Exa Z h0 t "[B") (hv1 : vs.length ≤ 160) (B0 : own_B Z h0 r0 t 0 (Int32.ofNat nn)) (A0 : Ark Z h0 t .byte vs) (zc : Int32) (hzc : ¬ zc = 0) (S_compact : Sta Z Z.heap "java/lang/String" "COMPACT_STRINGS" "Z" (.int zc)) :
    Ctr kn l Z own_EL (⟨"java/lang/StringBuilder", "toString", "()Ljava/lang/String;"⟩ : MethodName) jdk_67_method_42_code 1 (some (.object "java/lang/String")) ws ({ frames := 5, cells := 2, slots := 164, locals := 79 } : Room) n0 ([]) #[(.ref r0)] h0 (Rt (fun w h g => ∃ x t', w = .ref x ∧ Keep h0 h [] ∧ h0.size ≤ x ∧ h0.size ≤ t' ∧ Exa Z h x "java/lang/String" ∧ Fld Z h x "java/lang/String" "coder" "B" (.int 0) ∧ Fld Z h x "java/lang/String" "value" "[B" (.ref t') ∧ Ark Z h t' .byte vs)) := by
  refine Ctr.of (plainFor_of_name pn_java_lang_StringBuilder) hE (fun m => ef_rm20f m r0) ?_
  intro p e s m below meth c T0 X0
  have Z0 : Keep h0 h0 [] := Keep.refl _ _
  refine OwnW.new X0 (C := "java/lang/String") (k := 4) (n := 3) d20_0 (hw _ (List.mem_of_getElem? (i := 124) rfl)) (hw _ (List.mem_of_getElem? (i := 2) rfl)) (hw _ (List.mem_of_getElem? (i := 3) rfl)) (by decide) (by decide) rfl ?_
  intro T1 h1 b1 gb1 X1 E1 A1 D1 U1
  have ne_r0_b1 : r0 ≠ b1 := by rw [gb1]; exact Nat.ne_of_lt B0.1.lt
  have ne_t_b1 : t ≠ b1 := by rw [gb1]; exact Nat.ne_of_lt A0.lt
  have ge_b1 : n0 ≤ b1 := by rw [gb1]; exact OwnW.oldLe O0
  have K1 := (OwnW.kExt E1)
  have O1 := O0.keep K1 all0
  have Z1 : Keep h0 h1 [] := Z0.trans K1 (fun x hx => nomatch hx)
  have sz_b1 : h0.size ≤ b1 := by rw [gb1]; exact Z0.1
  have F1_value : Fld Z h1 b1 "java/lang/String" "value" "[B" .null := D1 (Or.inr (hw _ (List.mem_of_getElem? (i := 16) rfl))) (ty := (.array .byte)) (by decide)
  have F1_coder : Fld Z h1 b1 "java/lang/String" "coder" "B" (.int (0 : Int32)) := D1 (Or.inr (hw _ (List.mem_of_getElem? (i := 17) rfl))) (ty := .byte) (by decide)
  refine OwnW.dup X1 (n := 4) d20_3 rfl rfl ?_
  refine OwnW.aloadN X1 (n := 5) d20_4 rfl rfl rfl ?_
  have fk2 := (B0.1.keep K1)
  have fk3 := (B0.2.1.keep K1 nin0)
  have fk4 := (B0.2.2.1.keep K1 nin0)
  have fk5 := (B0.2.2.2.1.keep K1 nin0)
  have fk6 := (B0.2.2.2.2.keep K1 nin0)
  have fk7 := (A0.keep K1 nin0)
  have fk8 := (ET.keep K1)
  refine OwnW.call_special_n X1 (z := (⟨"java/lang/String", "<init>", "(Ljava/lang/StringBuilder;)V"⟩ : MethodName)) (a := b1) (n := 8) d20_5 (hw _ (List.mem_of_getElem? (i := 125) rfl)) (hw _ (List.mem_of_getElem? (i := 126) rfl)) (hw _ (List.mem_of_getElem? (i := 127) rfl)) (hw _ (List.mem_of_getElem? (i := 3) rfl)) rfl rfl (by decide) (rm21f l Z a0 hw hE [] b1 r0 h1 n0 O1 t vs nn hnn fk8 hv1 ⟨fk2, fk3, fk4, fk5, fk6⟩ fk7 ge_b1 A1 _ _ F1_value F1_coder (Ne.symm ne_r0_b1) (Ne.symm ne_t_b1) zc hzc S_compact) (OwnW.sfS (List.mem_cons_self ..) OwnW.sf0) (argsL := [(.ref r0)]) (rest := [(.ref b1)]) rfl rfl (OwnW.lenA pd__Ljava_lang_StringBuilder__V rfl) (W := 1) (Nat.le_of_eq rfl) (by decide) (by decide) (by decide) (by decide) rfl ?_
  intro T9 h9 g9 hle9 X9 ⟨k9, t9, z9, e9, c9, v9, a9⟩
  have K9 := k9
  have O9 := O1.keep K9 (allS ge_b1 all0)
  have Z9 : Keep h0 h9 [] := Z1.trans K9 (allS (P := fun x => x ∈ [] ∨ h0.size ≤ x) (Or.inr sz_b1) all0)
  have szt : h0.size ≤ t9 := Nat.le_trans Z1.1 z9
  exact OwnW.areturn X9 rfl rfl rfl d20_8 ⟨_, _, rfl, Z9, sz_b1, szt, e9, c9, v9, a9⟩ (by decide) (by decide)
theorem own_fw {Z : State} {a0 : Array Value} (hw : ∀ d ∈ tables_1, d.before a0 Z = true) : ∀ d ∈ OwnW.fillW "java/lang/IllegalArgumentException", d.before a0 Z = true := fun d hd => hw d ((by decide +kernel : ∀ d ∈ OwnW.fillW "java/lang/IllegalArgumentException", d ∈ tables_1) d hd)
theorem pn_java_lang_Throwable : plainName "java/lang/Throwable" = true := by first | (simp [plainName, overriddenIn]; done) | decide +kernel
theorem d31_0 : decode jdk_78_method_2_code 0 = .ok (.aload_n 0, 1) := by decide +kernel
theorem d31_1 : decode jdk_78_method_2_code 1 = .ok (.invokespecial 1, 3) := by decide +kernel
theorem d31_4 : decode jdk_78_method_2_code 4 = .ok (.aload_n 0, 1) := by decide +kernel
theorem d31_5 : decode jdk_78_method_2_code 5 = .ok (.aload_n 0, 1) := by decide +kernel
theorem d31_6 : decode jdk_78_method_2_code 6 = .ok (.putfield 7, 3) := by decide +kernel
theorem d31_9 : decode jdk_78_method_2_code 9 = .ok (.aload_n 0, 1) := by decide +kernel
theorem d31_10 : decode jdk_78_method_2_code 10 = .ok (.getstatic 13, 3) := by decide +kernel
theorem d31_13 : decode jdk_78_method_2_code 13 = .ok (.putfield 17, 3) := by decide +kernel
theorem d31_16 : decode jdk_78_method_2_code 16 = .ok (.aload_n 0, 1) := by decide +kernel
theorem d31_17 : decode jdk_78_method_2_code 17 = .ok (.getstatic 20, 3) := by decide +kernel
theorem d31_20 : decode jdk_78_method_2_code 20 = .ok (.putfield 24, 3) := by decide +kernel
theorem d31_23 : decode jdk_78_method_2_code 23 = .ok (.aload_n 0, 1) := by decide +kernel
theorem d31_24 : decode jdk_78_method_2_code 24 = .ok (.invokevirtual 27, 3) := by decide +kernel
theorem d31_27 : decode jdk_78_method_2_code 27 = .ok (.pop, 1) := by decide +kernel
theorem d31_28 : decode jdk_78_method_2_code 28 = .ok (.aload_n 0, 1) := by decide +kernel
theorem d31_29 : decode jdk_78_method_2_code 29 = .ok (.aload_n 1, 1) := by decide +kernel
theorem d31_30 : decode jdk_78_method_2_code 30 = .ok (.putfield 31, 3) := by decide +kernel
theorem d31_33 : decode jdk_78_method_2_code 33 = .ok (.return_, 1) := by decide +kernel
theorem ef_rm31 (m : MethodId) (x0 : Addr) (x1 : Addr) : entryFrame m #[(.ref x0), (.ref x1)] 2 = mkF m 0 #[.val (.ref x0), .val (.ref x1)] [] := by first | (simp [entryFrame, mkF, argsToLocals, Value.category]; done) | rfl
set_option maxRecDepth 65536 in
set_option maxHeartbeats 40000000 in
theorem rm31 (l : Launch) (Z : State) (a0 : Array Value) (hw : ∀ d ∈ tables_1, d.before a0 Z = true) (hE : EW Z a0 own_EL) (ws : List Jvm.Cond) (r0 : Addr) (r1 : Addr) (h0 : Heap) (n0 : Nat) (O0 : Old Z n0 h0) (xu xs : Addr) (S_us : Sta Z Z.heap "java/lang/Throwable" "UNASSIGNED_STACK" "[Ljava/lang/StackTraceElement;" (.ref xu)) (S_ss : Sta Z Z.heap "java/lang/Throwable" "SUPPRESSED_SENTINEL" "Ljava/util/List;" (.ref xs)) (hst : l.stackTraces = true) (TS0 : ThS Z h0) (ge_r0 : n0 ≤ r0) (E0 : Exa Z h0 r0 "java/lang/IllegalArgumentException") (U0 : Unt h0 r0) (vC vS vP : Value) (FC0 : Fld Z h0 r0 "java/lang/Throwable" "cause" "Ljava/lang/Throwable;" vC) (FS0 : Fld Z h0 r0 "java/lang/Throwable" "stackTrace" "[Ljava/lang/StackTraceElement;" vS) (FP0 : Fld Z h0 r0 "java/lang/Throwable" "suppressedExceptions" "Ljava/util/List;" vP) (FM0 : Fld Z h0 r0 "java/lang/Throwable" "detailMessage" "Ljava/lang/String;" .null) (FK0 : Fld Z h0 r0 "java/lang/Throwable" "backtrace" "Ljava/lang/Object;" .null)  :
    Ctr True l Z own_EL (⟨"java/lang/Throwable", "<init>", "(Ljava/lang/String;)V"⟩ : MethodName) jdk_78_method_2_code 2 none ws ({ frames := 3, cells := 1, slots := 2752, locals := 42 } : Room) n0 (r0 :: []) #[(.ref r0), (.ref r1)] h0 (Rn (fun h g => Keep h0 h [r0] ∧ Unt h r0 ∧ Fld Z h r0 "java/lang/Throwable" "cause" "Ljava/lang/Throwable;" (.ref r0) ∧ Fld Z h r0 "java/lang/Throwable" "detailMessage" "Ljava/lang/String;" (.ref r1))) := by
  refine Ctr.ofK (plainFor_of_name pn_java_lang_Throwable) hE (fun m => ef_rm31 m r0 r1) ?_
  intro p e s m below meth c T0 hs0 X0
  have Z0 : Keep h0 h0 [r0] := Keep.refl _ _
  refine OwnW.aloadN X0 (n := 1) d31_0 rfl rfl rfl ?_
  refine OwnW.initObj X0 (W := 0) (n := 4) d31_1 (hw _ (List.mem_of_getElem? (i := 182) rfl)) (hw _ (List.mem_of_getElem? (i := 12) rfl)) (hw _ (List.mem_of_getElem? (i := 13) rfl)) rfl (by decide) (by decide) (by decide) rfl ?_
  intro T1 X1
  refine OwnW.aloadN X1 (n := 5) d31_4 rfl rfl rfl ?_
  refine OwnW.aloadN X1 (n := 6) d31_5 rfl rfl rfl ?_
  refine OwnW.putfield X1 (ty := (.object "java/lang/Throwable")) (v' := (.ref r0)) (n := 9) d31_6 (hw _ (List.mem_of_getElem? (i := 183) rfl)) Via.refl FC0 E0 (Or.inl (hw _ (List.mem_of_getElem? (i := 184) rfl))) (hw _ (List.mem_of_getElem? (i := 27) rfl)) (by decide) rfl rfl ge_r0 (List.mem_cons_self ..) rfl ?_
  intro T2 h2 X2 W2 Fw2
  have fk3 := FS0.other W2 (Or.inr (slot_ne (Or.inl (hw _ (List.mem_of_getElem? (i := 187) rfl))) (Or.inl (hw _ (List.mem_of_getElem? (i := 184) rfl))) (by decide) (t := (.array (.object "java/lang/StackTraceElement"))) (t' := (.object "java/lang/Throwable")) (by decide) (by decide)))
  have fk4 := FP0.other W2 (Or.inr (slot_ne (Or.inl (hw _ (List.mem_of_getElem? (i := 190) rfl))) (Or.inl (hw _ (List.mem_of_getElem? (i := 184) rfl))) (by decide) (t := (.object "java/util/List")) (t' := (.object "java/lang/Throwable")) (by decide) (by decide)))
  have fk5 := FM0.other W2 (Or.inr (slot_ne (Or.inl (hw _ (List.mem_of_getElem? (i := 214) rfl))) (Or.inl (hw _ (List.mem_of_getElem? (i := 184) rfl))) (by decide) (t := (.object "java/lang/String")) (t' := (.object "java/lang/Throwable")) (by decide) (by decide)))
  have fk6 := FK0.other W2 (Or.inr (slot_ne (Or.inl (hw _ (List.mem_of_getElem? (i := 215) rfl))) (Or.inl (hw _ (List.mem_of_getElem? (i := 184) rfl))) (by decide) (t := (.object "java/lang/Object")) (t' := (.object "java/lang/Throwable")) (by decide) (by decide)))
  have fk7 := U0.wr W2
  have K2 := (Keep.of_wr W2)
  have O2 := O0.keep K2 (allS ge_r0 all0)
  have Z2 : Keep h0 h2 [r0] := Z0.trans K2 (allS (P := fun x => x ∈ [r0] ∨ h0.size ≤ x) (Or.inl (List.mem_of_getElem? (i := 0) rfl)) all0)
  refine OwnW.aloadN X2 (n := 10) d31_9 rfl rfl rfl ?_
  refine OwnW.getstatic X2 (n := 13) d31_10 (hw _ (List.mem_of_getElem? (i := 185) rfl)) Via.refl (S_us.ext O2.2) rfl ?_
  intro T8 X8
  have fk9 := (E0.keep K2)
  refine OwnW.putfield X8 (ty := (.array (.object "java/lang/StackTraceElement"))) (v' := (.ref xu)) (n := 16) d31_13 (hw _ (List.mem_of_getElem? (i := 186) rfl)) Via.refl fk3 fk9 (Or.inl (hw _ (List.mem_of_getElem? (i := 187) rfl))) (hw _ (List.mem_of_getElem? (i := 27) rfl)) (by decide) rfl rfl ge_r0 (List.mem_cons_self ..) rfl ?_
  intro T10 h10 X10 W10 Fw10
  have fk11 := Fw2.other W10 (Or.inr (slot_ne (Or.inl (hw _ (List.mem_of_getElem? (i := 184) rfl))) (Or.inl (hw _ (List.mem_of_getElem? (i := 187) rfl))) (by decide) (t := (.object "java/lang/Throwable")) (t' := (.array (.object "java/lang/StackTraceElement"))) (by decide) (by decide)))
  have fk12 := fk4.other W10 (Or.inr (slot_ne (Or.inl (hw _ (List.mem_of_getElem? (i := 190) rfl))) (Or.inl (hw _ (List.mem_of_getElem? (i := 187) rfl))) (by decide) (t := (.object "java/util/List")) (t' := (.array (.object "java/lang/StackTraceElement"))) (by decide) (by decide)))
  have fk13 := fk5.other W10 (Or.inr (slot_ne (Or.inl (hw _ (List.mem_of_getElem? (i := 214) rfl))) (Or.inl (hw _ (List.mem_of_getElem? (i := 187) rfl))) (by decide) (t := (.object "java/lang/String")) (t' := (.array (.object "java/lang/StackTraceElement"))) (by decide) (by decide)))
  have fk14 := fk6.other W10 (Or.inr (slot_ne (Or.inl (hw _ (List.mem_of_getElem? (i := 215) rfl))) (Or.inl (hw _ (List.mem_of_getElem? (i := 187) rfl))) (by decide) (t := (.object "java/lang/Object")) (t' := (.array (.object "java/lang/StackTraceElement"))) (by decide) (by decide)))
  have fk15 := fk7.wr W10
  have K10 := (Keep.of_wr W10)
  have O10 := O2.keep K10 (allS ge_r0 all0)
  have Z10 : Keep h0 h10 [r0] := Z2.trans K10 (allS (P := fun x => x ∈ [r0] ∨ h0.size ≤ x) (Or.inl (List.mem_of_getElem? (i := 0) rfl)) all0)
  refine OwnW.aloadN X10 (n := 17) d31_16 rfl rfl rfl ?_
  refine OwnW.getstatic X10 (n := 20) d31_17 (hw _ (List.mem_of_getElem? (i := 188) rfl)) Via.refl (S_ss.ext O10.2) rfl ?_
  intro T16 X16
  have fk17 := (fk9.keep K10)
  refine OwnW.putfield X16 (ty := (.object "java/util/List")) (v' := (.ref xs)) (n := 23) d31_20 (hw _ (List.mem_of_getElem? (i := 189) rfl)) Via.refl fk12 fk17 (Or.inl (hw _ (List.mem_of_getElem? (i := 190) rfl))) (hw _ (List.mem_of_getElem? (i := 27) rfl)) (by decide) rfl rfl ge_r0 (List.mem_cons_self ..) rfl ?_
  intro T18 h18 X18 W18 Fw18
  have fk19 := fk11.other W18 (Or.inr (slot_ne (Or.inl (hw _ (List.mem_of_getElem? (i := 184) rfl))) (Or.inl (hw _ (List.mem_of_getElem? (i := 190) rfl))) (by decide) (t := (.object "java/lang/Throwable")) (t' := (.object "java/util/List")) (by decide) (by decide)))
  have fk20 := Fw10.other W18 (Or.inr (slot_ne (Or.inl (hw _ (List.mem_of_getElem? (i := 187) rfl))) (Or.inl (hw _ (List.mem_of_getElem? (i := 190) rfl))) (by decide) (t := (.array (.object "java/lang/StackTraceElement"))) (t' := (.object "java/util/List")) (by decide) (by decide)))
  have fk21 := fk13.other W18 (Or.inr (slot_ne (Or.inl (hw _ (List.mem_of_getElem? (i := 214) rfl))) (Or.inl (hw _ (List.mem_of_getElem? (i := 190) rfl))) (by decide) (t := (.object "java/lang/String")) (t' := (.object "java/util/List")) (by decide) (by decide)))
  have fk22 := fk14.other W18 (Or.inr (slot_ne (Or.inl (hw _ (List.mem_of_getElem? (i := 215) rfl))) (Or.inl (hw _ (List.mem_of_getElem? (i := 190) rfl))) (by decide) (t := (.object "java/lang/Object")) (t' := (.object "java/util/List")) (by decide) (by decide)))
  have fk23 := fk15.wr W18
  have K18 := (Keep.of_wr W18)
  have O18 := O10.keep K18 (allS ge_r0 all0)
  have Z18 : Keep h0 h18 [r0] := Z10.trans K18 (allS (P := fun x => x ∈ [r0] ∨ h0.size ≤ x) (Or.inl (List.mem_of_getElem? (i := 0) rfl)) all0)
  refine OwnW.aloadN X18 (n := 24) d31_23 rfl rfl rfl ?_
  have fk24 := (fk17.keep K18)
  refine OwnW.fill X18 trivial hst rfl (by rw [hs0]; exact TS0) (rc := "java/lang/IllegalArgumentException") (cz := 6) (n := 27) (own_fw hw) (hw _ (List.mem_of_getElem? (i := 27) rfl)) fk24 fk23 fk22 fk20 (S_us.ext O18.2) d31_24 rfl ge_r0 (List.mem_cons_self ..) (by decide) (by decide) (by decide) (by decide) rfl ?_
  intro T25 h25 ha25 hb25 hc25 va25 vb25 vc25 X25 E25 Wa25 Wb25 Wc25
  have kf25 := ((((Keep.refl _ [r0]).ext E25).wr Wa25 (Or.inl (List.mem_cons_self ..))).wr Wb25 (Or.inl (List.mem_cons_self ..))).wr Wc25 (Or.inl (List.mem_cons_self ..))
  have fcause25 := (((fk19.ext E25).other Wa25 (Or.inr (slot_ne (Or.inl (hw _ (List.mem_of_getElem? (i := 184) rfl))) (Or.inl (hw _ (List.mem_of_getElem? (i := 215) rfl))) (by decide) (t := (.object "java/lang/Throwable")) (t' := (.object "java/lang/Object")) (by decide) (by decide)))).other Wb25 (Or.inr (slot_ne (Or.inl (hw _ (List.mem_of_getElem? (i := 184) rfl))) (Or.inl (hw _ (List.mem_of_getElem? (i := 216) rfl))) (by decide) (t := (.object "java/lang/Throwable")) (t' := .int) (by decide) (by decide)))).other Wc25 (Or.inr (slot_ne (Or.inl (hw _ (List.mem_of_getElem? (i := 184) rfl))) (Or.inl (hw _ (List.mem_of_getElem? (i := 187) rfl))) (by decide) (t := (.object "java/lang/Throwable")) (t' := (.array (.object "java/lang/StackTraceElement"))) (by decide) (by decide)))
  have fdetailMessage25 := (((fk21.ext E25).other Wa25 (Or.inr (slot_ne (Or.inl (hw _ (List.mem_of_getElem? (i := 214) rfl))) (Or.inl (hw _ (List.mem_of_getElem? (i := 215) rfl))) (by decide) (t := (.object "java/lang/String")) (t' := (.object "java/lang/Object")) (by decide) (by decide)))).other Wb25 (Or.inr (slot_ne (Or.inl (hw _ (List.mem_of_getElem? (i := 214) rfl))) (Or.inl (hw _ (List.mem_of_getElem? (i := 216) rfl))) (by decide) (t := (.object "java/lang/String")) (t' := .int) (by decide) (by decide)))).other Wc25 (Or.inr (slot_ne (Or.inl (hw _ (List.mem_of_getElem? (i := 214) rfl))) (Or.inl (hw _ (List.mem_of_getElem? (i := 187) rfl))) (by decide) (t := (.object "java/lang/String")) (t' := (.array (.object "java/lang/StackTraceElement"))) (by decide) (by decide)))
  have un25 := (((fk23.ext E25).wr Wa25).wr Wb25).wr Wc25
  have K25 := kf25
  have O25 := O18.keep K25 (allS ge_r0 all0)
  have Z25 : Keep h0 h25 [r0] := Z18.trans K25 (allS (P := fun x => x ∈ [r0] ∨ h0.size ≤ x) (Or.inl (List.mem_of_getElem? (i := 0) rfl)) all0)
  refine OwnW.pop X25 (n := 28) d31_27 rfl rfl ?_
  refine OwnW.aloadN X25 (n := 29) d31_28 rfl rfl rfl ?_
  refine OwnW.aloadN X25 (n := 30) d31_29 rfl rfl rfl ?_
  have fk26 := (fk24.keep K25)
  refine OwnW.putfield X25 (ty := (.object "java/lang/String")) (v' := (.ref r1)) (n := 33) d31_30 (hw _ (List.mem_of_getElem? (i := 218) rfl)) Via.refl fdetailMessage25 fk26 (Or.inl (hw _ (List.mem_of_getElem? (i := 214) rfl))) (hw _ (List.mem_of_getElem? (i := 27) rfl)) (by decide) rfl rfl ge_r0 (List.mem_cons_self ..) rfl ?_
  intro T27 h27 X27 W27 Fw27
  have fk28 := fcause25.other W27 (Or.inr (slot_ne (Or.inl (hw _ (List.mem_of_getElem? (i := 184) rfl))) (Or.inl (hw _ (List.mem_of_getElem? (i := 214) rfl))) (by decide) (t := (.object "java/lang/Throwable")) (t' := (.object "java/lang/String")) (by decide) (by decide)))
  have fk29 := un25.wr W27
  have K27 := (Keep.of_wr W27)
  have O27 := O25.keep K27 (allS ge_r0 all0)
  have Z27 : Keep h0 h27 [r0] := Z25.trans K27 (allS (P := fun x => x ∈ [r0] ∨ h0.size ≤ x) (Or.inl (List.mem_of_getElem? (i := 0) rfl)) all0)
  exact OwnW.vreturn X27 rfl d31_33 ⟨Z27, fk29, fk28, Fw27⟩ (by decide) (by decide)
theorem pn_java_lang_Exception : plainName "java/lang/Exception" = true := by first | (simp [plainName, overriddenIn]; done) | decide +kernel
theorem d30_0 : decode jdk_59_method_2_code 0 = .ok (.aload_n 0, 1) := by decide +kernel
theorem d30_1 : decode jdk_59_method_2_code 1 = .ok (.aload_n 1, 1) := by decide +kernel
theorem d30_2 : decode jdk_59_method_2_code 2 = .ok (.invokespecial 7, 3) := by decide +kernel
theorem d30_5 : decode jdk_59_method_2_code 5 = .ok (.return_, 1) := by decide +kernel
theorem ef_rm30 (m : MethodId) (x0 : Addr) (x1 : Addr) : entryFrame m #[(.ref x0), (.ref x1)] 2 = mkF m 0 #[.val (.ref x0), .val (.ref x1)] [] := by first | (simp [entryFrame, mkF, argsToLocals, Value.category]; done) | rfl
set_option maxRecDepth 65536 in
set_option maxHeartbeats 40000000 in
theorem rm30 (l : Launch) (Z : State) (a0 : Array Value) (hw : ∀ d ∈ tables_1, d.before a0 Z = true) (hE : EW Z a0 own_EL) (ws : List Jvm.Cond) (r0 : Addr) (r1 : Addr) (h0 : Heap) (n0 : Nat) (O0 : Old Z n0 h0) (xu xs : Addr) (S_us : Sta Z Z.heap "java/lang/Throwable" "UNASSIGNED_STACK" "[Ljava/lang/StackTraceElement;" (.ref xu)) (S_ss : Sta Z Z.heap "java/lang/Throwable" "SUPPRESSED_SENTINEL" "Ljava/util/List;" (.ref xs)) (hst : l.stackTraces = true) (TS0 : ThS Z h0) (ge_r0 : n0 ≤ r0) (E0 : Exa Z h0 r0 "java/lang/IllegalArgumentException") (U0 : Unt h0 r0) (vC vS vP : Value) (FC0 : Fld Z h0 r0 "java/lang/Throwable" "cause" "Ljava/lang/Throwable;" vC) (FS0 : Fld Z h0 r0 "java/lang/Throwable" "stackTrace" "[Ljava/lang/StackTraceElement;" vS) (FP0 : Fld Z h0 r0 "java/lang/Throwable" "suppressedExceptions" "Ljava/util/List;" vP) (FM0 : Fld Z h0 r0 "java/lang/Throwable" "detailMessage" "Ljava/lang/String;" .null) (FK0 : Fld Z h0 r0 "java/lang/Throwable" "backtrace" "Ljava/lang/Object;" .null)  :
    Ctr True l Z own_EL (⟨"java/lang/Exception", "<init>", "(Ljava/lang/String;)V"⟩ : MethodName) jdk_59_method_2_code 2 none ws ({ frames := 4, cells := 1, slots := 2752, locals := 55 } : Room) n0 (r0 :: []) #[(.ref r0), (.ref r1)] h0 (Rn (fun h g => Keep h0 h [r0] ∧ Unt h r0 ∧ Fld Z h r0 "java/lang/Throwable" "cause" "Ljava/lang/Throwable;" (.ref r0) ∧ Fld Z h r0 "java/lang/Throwable" "detailMessage" "Ljava/lang/String;" (.ref r1))) := by
  refine Ctr.of (plainFor_of_name pn_java_lang_Exception) hE (fun m => ef_rm30 m r0 r1) ?_
  intro p e s m below meth c T0 X0
  have Z0 : Keep h0 h0 [r0] := Keep.refl _ _
  refine OwnW.aloadN X0 (n := 1) d30_0 rfl rfl rfl ?_
  refine OwnW.aloadN X0 (n := 2) d30_1 rfl rfl rfl ?_
  refine OwnW.call_special_n X0 (z := (⟨"java/lang/Throwable", "<init>", "(Ljava/lang/String;)V"⟩ : MethodName)) (a := r0) (n := 5) d30_2 (hw _ (List.mem_of_getElem? (i := 176) rfl)) (hw _ (List.mem_of_getElem? (i := 177) rfl)) (hw _ (List.mem_of_getElem? (i := 181) rfl)) (hw _ (List.mem_of_getElem? (i := 180) rfl)) rfl rfl (by decide) (rm31 l Z a0 hw hE [] r0 r1 h0 n0 O0 xu xs S_us S_ss hst TS0 ge_r0 E0 U0 vC vS vP FC0 FS0 FP0 FM0 FK0) (OwnW.sfS (List.mem_cons_self ..) OwnW.sf0) (argsL := [(.ref r1)]) (rest := []) rfl rfl (OwnW.lenA pd__Ljava_lang_String__V rfl) (W := 0) (Nat.le_of_eq rfl) (by decide) (by decide) (by decide) (by decide) rfl ?_
  intro T1 h1 g1 hle1 X1 qq
  exact OwnW.vreturn X1 rfl d30_5 qq (by decide) (by decide)
theorem pn_java_lang_RuntimeException : plainName "java/lang/RuntimeException" = true := by first | (simp [plainName, overriddenIn]; done) | decide +kernel
theorem d29_0 : decode jdk_58_method_2_code 0 = .ok (.aload_n 0, 1) := by decide +kernel
theorem d29_1 : decode jdk_58_method_2_code 1 = .ok (.aload_n 1, 1) := by decide +kernel
theorem d29_2 : decode jdk_58_method_2_code 2 = .ok (.invokespecial 7, 3) := by decide +kernel
theorem d29_5 : decode jdk_58_method_2_code 5 = .ok (.return_, 1) := by decide +kernel
theorem ef_rm29 (m : MethodId) (x0 : Addr) (x1 : Addr) : entryFrame m #[(.ref x0), (.ref x1)] 2 = mkF m 0 #[.val (.ref x0), .val (.ref x1)] [] := by first | (simp [entryFrame, mkF, argsToLocals, Value.category]; done) | rfl
set_option maxRecDepth 65536 in
set_option maxHeartbeats 40000000 in
theorem rm29 (l : Launch) (Z : State) (a0 : Array Value) (hw : ∀ d ∈ tables_1, d.before a0 Z = true) (hE : EW Z a0 own_EL) (ws : List Jvm.Cond) (r0 : Addr) (r1 : Addr) (h0 : Heap) (n0 : Nat) (O0 : Old Z n0 h0) (xu xs : Addr) (S_us : Sta Z Z.heap "java/lang/Throwable" "UNASSIGNED_STACK" "[Ljava/lang/StackTraceElement;" (.ref xu)) (S_ss : Sta Z Z.heap "java/lang/Throwable" "SUPPRESSED_SENTINEL" "Ljava/util/List;" (.ref xs)) (hst : l.stackTraces = true) (TS0 : ThS Z h0) (ge_r0 : n0 ≤ r0) (E0 : Exa Z h0 r0 "java/lang/IllegalArgumentException") (U0 : Unt h0 r0) (vC vS vP : Value) (FC0 : Fld Z h0 r0 "java/lang/Throwable" "cause" "Ljava/lang/Throwable;" vC) (FS0 : Fld Z h0 r0 "java/lang/Throwable" "stackTrace" "[Ljava/lang/StackTraceElement;" vS) (FP0 : Fld Z h0 r0 "java/lang/Throwable" "suppressedExceptions" "Ljava/util/List;" vP) (FM0 : Fld Z h0 r0 "java/lang/Throwable" "detailMessage" "Ljava/lang/String;" .null) (FK0 : Fld Z h0 r0 "java/lang/Throwable" "backtrace" "Ljava/lang/Object;" .null)  :
    Ctr True l Z own_EL (⟨"java/lang/RuntimeException", "<init>", "(Ljava/lang/String;)V"⟩ : MethodName) jdk_58_method_2_code 2 none ws ({ frames := 5, cells := 1, slots := 2752, locals := 68 } : Room) n0 (r0 :: []) #[(.ref r0), (.ref r1)] h0 (Rn (fun h g => Keep h0 h [r0] ∧ Unt h r0 ∧ Fld Z h r0 "java/lang/Throwable" "cause" "Ljava/lang/Throwable;" (.ref r0) ∧ Fld Z h r0 "java/lang/Throwable" "detailMessage" "Ljava/lang/String;" (.ref r1))) := by
  refine Ctr.of (plainFor_of_name pn_java_lang_RuntimeException) hE (fun m => ef_rm29 m r0 r1) ?_
  intro p e s m below meth c T0 X0
  have Z0 : Keep h0 h0 [r0] := Keep.refl _ _
  refine OwnW.aloadN X0 (n := 1) d29_0 rfl rfl rfl ?_
  refine OwnW.aloadN X0 (n := 2) d29_1 rfl rfl rfl ?_
  refine OwnW.call_special_n X0 (z := (⟨"java/lang/Exception", "<init>", "(Ljava/lang/String;)V"⟩ : MethodName)) (a := r0) (n := 5) d29_2 (hw _ (List.mem_of_getElem? (i := 170) rfl)) (hw _ (List.mem_of_getElem? (i := 171) rfl)) (hw _ (List.mem_of_getElem? (i := 175) rfl)) (hw _ (List.mem_of_getElem? (i := 174) rfl)) rfl rfl (by decide) (rm30 l Z a0 hw hE [] r0 r1 h0 n0 O0 xu xs S_us S_ss hst TS0 ge_r0 E0 U0 vC vS vP FC0 FS0 FP0 FM0 FK0) (OwnW.sfS (List.mem_cons_self ..) OwnW.sf0) (argsL := [(.ref r1)]) (rest := []) rfl rfl (OwnW.lenA pd__Ljava_lang_String__V rfl) (W := 0) (Nat.le_of_eq rfl) (by decide) (by decide) (by decide) (by decide) rfl ?_
  intro T1 h1 g1 hle1 X1 qq
  exact OwnW.vreturn X1 rfl d29_5 qq (by decide) (by decide)
theorem pn_java_lang_IllegalArgumentException : plainName "java/lang/IllegalArgumentException" = true := by first | (simp [plainName, overriddenIn]; done) | decide +kernel
theorem d28_0 : decode jdk_57_method_2_code 0 = .ok (.aload_n 0, 1) := by decide +kernel
theorem d28_1 : decode jdk_57_method_2_code 1 = .ok (.aload_n 1, 1) := by decide +kernel
theorem d28_2 : decode jdk_57_method_2_code 2 = .ok (.invokespecial 7, 3) := by decide +kernel
theorem d28_5 : decode jdk_57_method_2_code 5 = .ok (.return_, 1) := by decide +kernel
theorem ef_rm28 (m : MethodId) (x0 : Addr) (x1 : Addr) : entryFrame m #[(.ref x0), (.ref x1)] 2 = mkF m 0 #[.val (.ref x0), .val (.ref x1)] [] := by first | (simp [entryFrame, mkF, argsToLocals, Value.category]; done) | rfl
set_option maxRecDepth 65536 in
set_option maxHeartbeats 40000000 in
theorem rm28 (l : Launch) (Z : State) (a0 : Array Value) (hw : ∀ d ∈ tables_1, d.before a0 Z = true) (hE : EW Z a0 own_EL) (ws : List Jvm.Cond) (r0 : Addr) (r1 : Addr) (h0 : Heap) (n0 : Nat) (O0 : Old Z n0 h0) (xu xs : Addr) (S_us : Sta Z Z.heap "java/lang/Throwable" "UNASSIGNED_STACK" "[Ljava/lang/StackTraceElement;" (.ref xu)) (S_ss : Sta Z Z.heap "java/lang/Throwable" "SUPPRESSED_SENTINEL" "Ljava/util/List;" (.ref xs)) (hst : l.stackTraces = true) (TS0 : ThS Z h0) (ge_r0 : n0 ≤ r0) (E0 : Exa Z h0 r0 "java/lang/IllegalArgumentException") (U0 : Unt h0 r0) (vC vS vP : Value) (FC0 : Fld Z h0 r0 "java/lang/Throwable" "cause" "Ljava/lang/Throwable;" vC) (FS0 : Fld Z h0 r0 "java/lang/Throwable" "stackTrace" "[Ljava/lang/StackTraceElement;" vS) (FP0 : Fld Z h0 r0 "java/lang/Throwable" "suppressedExceptions" "Ljava/util/List;" vP) (FM0 : Fld Z h0 r0 "java/lang/Throwable" "detailMessage" "Ljava/lang/String;" .null) (FK0 : Fld Z h0 r0 "java/lang/Throwable" "backtrace" "Ljava/lang/Object;" .null)  :
    Ctr True l Z own_EL (⟨"java/lang/IllegalArgumentException", "<init>", "(Ljava/lang/String;)V"⟩ : MethodName) jdk_57_method_2_code 2 none ws ({ frames := 6, cells := 1, slots := 2752, locals := 81 } : Room) n0 (r0 :: []) #[(.ref r0), (.ref r1)] h0 (Rn (fun h g => Keep h0 h [r0] ∧ Unt h r0 ∧ Fld Z h r0 "java/lang/Throwable" "cause" "Ljava/lang/Throwable;" (.ref r0) ∧ Fld Z h r0 "java/lang/Throwable" "detailMessage" "Ljava/lang/String;" (.ref r1))) := by
  refine Ctr.of (plainFor_of_name pn_java_lang_IllegalArgumentException) hE (fun m => ef_rm28 m r0 r1) ?_
  intro p e s m below meth c T0 X0
  have Z0 : Keep h0 h0 [r0] := Keep.refl _ _
  refine OwnW.aloadN X0 (n := 1) d28_0 rfl rfl rfl ?_
  refine OwnW.aloadN X0 (n := 2) d28_1 rfl rfl rfl ?_
  refine OwnW.call_special_n X0 (z := (⟨"java/lang/RuntimeException", "<init>", "(Ljava/lang/String;)V"⟩ : MethodName)) (a := r0) (n := 5) d28_2 (hw _ (List.mem_of_getElem? (i := 164) rfl)) (hw _ (List.mem_of_getElem? (i := 165) rfl)) (hw _ (List.mem_of_getElem? (i := 169) rfl)) (hw _ (List.mem_of_getElem? (i := 168) rfl)) rfl rfl (by decide) (rm29 l Z a0 hw hE [] r0 r1 h0 n0 O0 xu xs S_us S_ss hst TS0 ge_r0 E0 U0 vC vS vP FC0 FS0 FP0 FM0 FK0) (OwnW.sfS (List.mem_cons_self ..) OwnW.sf0) (argsL := [(.ref r1)]) (rest := []) rfl rfl (OwnW.lenA pd__Ljava_lang_String__V rfl) (W := 0) (Nat.le_of_eq rfl) (by decide) (by decide) (by decide) (by decide) rfl ?_
  intro T1 h1 g1 hle1 X1 qq
  exact OwnW.vreturn X1 rfl d28_5 qq (by decide) (by decide)
theorem pd__Ljava_lang_String__Ljava_lang_StringBuilder_ : parseMethodDescriptor "(Ljava/lang/String;)Ljava/lang/StringBuilder;" = some ⟨[(.object "java/lang/String")], some (.object "java/lang/StringBuilder")⟩ := by decide +kernel
theorem pd___Ljava_lang_String_ : parseMethodDescriptor "()Ljava/lang/String;" = some ⟨[], some (.object "java/lang/String")⟩ := by decide +kernel
theorem pn_com_example_conversation_framework_conversationframework_Component : plainName "com/example/conversation_framework/conversationframework/Component" = true := by first | (simp [plainName, overriddenIn]; done) | decide +kernel
theorem d4_0 : decode prog_1_method_12_code 0 = .ok (.new 70, 3) := by decide +kernel
theorem d4_3 : decode prog_1_method_12_code 3 = .ok (.dup, 1) := by decide +kernel
theorem d4_4 : decode prog_1_method_12_code 4 = .ok (.new 72, 3) := by decide +kernel
theorem d4_7 : decode prog_1_method_12_code 7 = .ok (.dup, 1) := by decide +kernel
theorem d4_8 : decode prog_1_method_12_code 8 = .ok (.invokespecial 74, 3) := by decide +kernel
theorem d4_11 : decode prog_1_method_12_code 11 = .ok (.ldc 107, 2) := by decide +kernel
theorem d4_13 : decode prog_1_method_12_code 13 = .ok (.invokevirtual 81, 3) := by decide +kernel
theorem d4_16 : decode prog_1_method_12_code 16 = .ok (.aload_n 0, 1) := by decide +kernel
theorem d4_17 : decode prog_1_method_12_code 17 = .ok (.invokevirtual 81, 3) := by decide +kernel
theorem d4_20 : decode prog_1_method_12_code 20 = .ok (.invokevirtual 84, 3) := by decide +kernel
theorem d4_23 : decode prog_1_method_12_code 23 = .ok (.invokespecial 88, 3) := by decide +kernel
theorem d4_26 : decode prog_1_method_12_code 26 = .ok (.areturn, 1) := by decide +kernel
theorem ef_rm4l (m : MethodId) (x0 : Addr) : entryFrame m #[(.ref x0)] 1 = mkF m 0 #[.val (.ref x0)] [] := by first | (simp [entryFrame, mkF, argsToLocals, Value.category]; done) | rfl
set_option maxRecDepth 65536 in
set_option maxHeartbeats 40000000 in
theorem rm4l (l : Launch) (Z : State) (a0 : Array Value) (hw : ∀ d ∈ tables_1, d.before a0 Z = true) (hE : EW Z a0 own_EL) (ws : List Jvm.Cond) (r0 : Addr) (h0 : Heap) (n0 : Nat) (O0 : Old Z n0 h0) (tn : Addr) (us : List Nat) (hu3 : us.length ≤ 3) (hu : ∀ u ∈ us, u ≤ 65535) (S0 : own_U Z h0 r0 tn us) (hpos : 0 < us.length) (hall : ∀ u ∈ us, u ≤ 255) (E1s : Exa Z h0 r0 "java/lang/String") (F1s : Fld Z h0 r0 "java/lang/String" "coder" "B" (.int 0)) (V1s : Fld Z h0 r0 "java/lang/String" "value" "[B" (.ref tn)) (A1s : Ark Z h0 tn .byte (own_lb us)) (zc : Int32) (hzc : ¬ zc = 0) (S_compact : Sta Z Z.heap "java/lang/String" "COMPACT_STRINGS" "Z" (.int zc)) (fm : Value) (hfm : fm = .null ∨ ∃ r, fm = .ref r) (S_fm : Sta Z Z.heap "jdk/internal/util/Preconditions" "SIOOBE_FORMATTER" "Ljava/util/function/BiFunction;" fm) (S_ad : Sta Z Z.heap "java/lang/StringUTF16" "$assertionsDisabled" "Z" (.int 1)) (S_hi : Sta Z Z.heap "java/lang/StringUTF16" "HI_BYTE_SHIFT" "I" (.int 0)) (S_lo : Sta Z Z.heap "java/lang/StringUTF16" "LO_BYTE_SHIFT" "I" (.int 8)) (xu xs : Addr) (S_us : Sta Z Z.heap "java/lang/Throwable" "UNASSIGNED_STACK" "[Ljava/lang/StackTraceElement;" (.ref xu)) (S_ss : Sta Z Z.heap "java/lang/Throwable" "SUPPRESSED_SENTINEL" "Ljava/util/List;" (.ref xs)) (hst : l.stackTraces = true) (TS0 : ThS Z h0)  :
    Ctr True l Z own_EL (⟨"com/example/conversation_framework/conversationframework/Component", "undeclared", "(Ljava/lang/String;)Ljava/lang/IllegalArgumentException;"⟩ : MethodName) prog_1_method_12_code 1 (some (.object "java/lang/IllegalArgumentException")) ws ({ frames := 10, cells := 11, slots := 3422, locals := 145 } : Room) n0 ([]) #[(.ref r0)] h0 (Rt (fun w h g => ∃ x m t, w = .ref x ∧ Keep h0 h [] ∧ h0.size ≤ x ∧ Exa Z h x "java/lang/IllegalArgumentException" ∧ Unt h x ∧ Fld Z h x "java/lang/Throwable" "detailMessage" "Ljava/lang/String;" (.ref m) ∧ Fld Z h x "java/lang/Throwable" "cause" "Ljava/lang/Throwable;" (.ref x) ∧ own_U Z h m t (own_pre ++ us))) := by
  refine Ctr.of (plainFor_of_name pn_com_example_conversation_framework_conversationframework_Component) hE (fun m => ef_rm4l m r0) ?_
  intro p e s m below meth c T0 X0
  have Z0 : Keep h0 h0 [] := Keep.refl _ _
  refine OwnW.new X0 (C := "java/lang/IllegalArgumentException") (k := 6) (n := 3) d4_0 (hw _ (List.mem_of_getElem? (i := 26) rfl)) (hw _ (List.mem_of_getElem? (i := 27) rfl)) (hw _ (List.mem_of_getElem? (i := 28) rfl)) (by decide) (by decide) rfl ?_
  intro T1 h1 b1 gb1 X1 E1 A1 D1 U1
  have ne_r0_b1 : r0 ≠ b1 := by rw [gb1]; exact Nat.ne_of_lt E1s.lt
  have ne_tn_b1 : tn ≠ b1 := by rw [gb1]; exact Nat.ne_of_lt A1s.lt
  have ge_b1 : n0 ≤ b1 := by rw [gb1]; exact OwnW.oldLe O0
  have K1 := (OwnW.kExt E1)
  have O1 := O0.keep K1 all0
  have Z1 : Keep h0 h1 [] := Z0.trans K1 (fun x hx => nomatch hx)
  have sz_b1 : h0.size ≤ b1 := by rw [gb1]; exact Z0.1
  have F1_cause : Fld Z h1 b1 "java/lang/Throwable" "cause" "Ljava/lang/Throwable;" .null := D1 (Or.inl (hw _ (List.mem_of_getElem? (i := 184) rfl))) (ty := (.object "java/lang/Throwable")) (by decide)
  have F1_stackTrace : Fld Z h1 b1 "java/lang/Throwable" "stackTrace" "[Ljava/lang/StackTraceElement;" .null := D1 (Or.inl (hw _ (List.mem_of_getElem? (i := 187) rfl))) (ty := (.array (.object "java/lang/StackTraceElement"))) (by decide)
  have F1_suppressedExceptions : Fld Z h1 b1 "java/lang/Throwable" "suppressedExceptions" "Ljava/util/List;" .null := D1 (Or.inl (hw _ (List.mem_of_getElem? (i := 190) rfl))) (ty := (.object "java/util/List")) (by decide)
  have F1_detailMessage : Fld Z h1 b1 "java/lang/Throwable" "detailMessage" "Ljava/lang/String;" .null := D1 (Or.inl (hw _ (List.mem_of_getElem? (i := 214) rfl))) (ty := (.object "java/lang/String")) (by decide)
  have F1_backtrace : Fld Z h1 b1 "java/lang/Throwable" "backtrace" "Ljava/lang/Object;" .null := D1 (Or.inl (hw _ (List.mem_of_getElem? (i := 215) rfl))) (ty := (.object "java/lang/Object")) (by decide)
  have F1_depth : Fld Z h1 b1 "java/lang/Throwable" "depth" "I" (.int (0 : Int32)) := D1 (Or.inl (hw _ (List.mem_of_getElem? (i := 216) rfl))) (ty := .int) (by decide)
  refine OwnW.dup X1 (n := 4) d4_3 rfl rfl ?_
  refine OwnW.new X1 (C := "java/lang/StringBuilder") (k := 4) (n := 7) d4_4 (hw _ (List.mem_of_getElem? (i := 29) rfl)) (hw _ (List.mem_of_getElem? (i := 30) rfl)) (hw _ (List.mem_of_getElem? (i := 31) rfl)) (by decide) (by decide) rfl ?_
  intro T2 h2 b2 gb2 X2 E2 A2 D2 U2
  have fk3 := (E1s.keep K1)
  have ne_r0_b2 : r0 ≠ b2 := by rw [gb2]; exact Nat.ne_of_lt fk3.lt
  have fk4 := (A1s.keep K1 nin0)
  have ne_tn_b2 : tn ≠ b2 := by rw [gb2]; exact Nat.ne_of_lt fk4.lt
  have ne_b1_b2 : b1 ≠ b2 := by rw [gb2]; exact Nat.ne_of_lt A1.lt
  have ge_b2 : n0 ≤ b2 := by rw [gb2]; exact OwnW.oldLe O1
  have K2 := (OwnW.kExt E2)
  have O2 := O1.keep K2 all0
  have Z2 : Keep h0 h2 [] := Z1.trans K2 (fun x hx => nomatch hx)
  have sz_b2 : h0.size ≤ b2 := by rw [gb2]; exact Z1.1
  have F2_value : Fld Z h2 b2 "java/lang/AbstractStringBuilder" "value" "[B" .null := D2 (Or.inl (hw _ (List.mem_of_getElem? (i := 44) rfl))) (ty := (.array .byte)) (by decide)
  have F2_coder : Fld Z h2 b2 "java/lang/AbstractStringBuilder" "coder" "B" (.int (0 : Int32)) := D2 (Or.inl (hw _ (List.mem_of_getElem? (i := 46) rfl))) (ty := .byte) (by decide)
  have F2_count : Fld Z h2 b2 "java/lang/AbstractStringBuilder" "count" "I" (.int (0 : Int32)) := D2 (Or.inl (hw _ (List.mem_of_getElem? (i := 70) rfl))) (ty := .int) (by decide)
  have F2_maybeLatin1 : Fld Z h2 b2 "java/lang/AbstractStringBuilder" "maybeLatin1" "Z" (.int (0 : Int32)) := D2 (Or.inl (hw _ (List.mem_of_getElem? (i := 327) rfl))) (ty := .boolean) (by decide)
  refine OwnW.dup X2 (n := 8) d4_7 rfl rfl ?_
  have fk5 := (fk3.keep K2)
  have fk6 := ((F1s.keep K1 nin0).keep K2 nin0)
  have fk7 := ((V1s.keep K1 nin0).keep K2 nin0)
  have fk8 := (fk4.keep K2 nin0)
  have fk9 := ((S0.keep K1 nin0 nin0).keep K2 nin0 nin0)
  have fk10 := (A1.keep K2)
  have fk11 := (U1.keep K2 nin0)
  have fk12 := (F1_cause.keep K2 nin0)
  have fk13 := (F1_stackTrace.keep K2 nin0)
  have fk14 := (F1_suppressedExceptions.keep K2 nin0)
  have fk15 := (F1_detailMessage.keep K2 nin0)
  have fk16 := (F1_backtrace.keep K2 nin0)
  have fk17 := (F1_depth.keep K2 nin0)
  refine OwnW.call_special_n X2 (z := (⟨"java/lang/StringBuilder", "<init>", "()V"⟩ : MethodName)) (a := b2) (n := 11) d4_8 (hw _ (List.mem_of_getElem? (i := 32) rfl)) (hw _ (List.mem_of_getElem? (i := 33) rfl)) (hw _ (List.mem_of_getElem? (i := 34) rfl)) (hw _ (List.mem_of_getElem? (i := 31) rfl)) rfl rfl (by decide) (rm5 l Z a0 hw hE [] b2 h2 n0 O2 ge_b2 A2 _ _ F2_value F2_coder F2_count F2_maybeLatin1 zc hzc S_compact) (OwnW.sfS (List.mem_cons_self ..) OwnW.sf0) (argsL := []) (rest := [(.ref b2), (.ref b1), (.ref b1)]) rfl rfl (OwnW.lenA pd___V rfl) (W := 3) (Nat.le_of_eq rfl) (by decide) (by decide) (by decide) (by decide) rfl ?_
  intro T18 h18 g18 hle18 X18 ⟨k18, t18, z18, b18, a18, m18⟩
  have ne_r0_t18 : r0 ≠ t18 := Nat.ne_of_lt (Nat.lt_of_lt_of_le fk5.lt z18)
  have ne_tn_t18 : tn ≠ t18 := Nat.ne_of_lt (Nat.lt_of_lt_of_le fk8.lt z18)
  have ne_b2_t18 : b2 ≠ t18 := Nat.ne_of_lt (Nat.lt_of_lt_of_le A2.lt z18)
  have ne_b1_t18 : b1 ≠ t18 := Nat.ne_of_lt (Nat.lt_of_lt_of_le fk10.lt z18)
  have ge_t18 : n0 ≤ t18 := Nat.le_trans (OwnW.oldLe O2) z18
  have K18 := k18
  have O18 := O2.keep K18 (allS ge_b2 all0)
  have Z18 : Keep h0 h18 [] := Z2.trans K18 (allS (P := fun x => x ∈ [] ∨ h0.size ≤ x) (Or.inr sz_b2) all0)
  have sz_t18 : h0.size ≤ t18 := Nat.le_trans Z2.1 z18
  refine OwnW.ldcS X18 (bs := (own_pre.map Int32.ofNat).map lo8) (nn := 156) (text := "no component is declared with the name ") (n := 13) d4_11 (hw _ (List.mem_of_getElem? (i := 47) rfl)) (fun d hd => hw d ((by decide +kernel : ∀ d ∈ Bundle.stringAtoms, d ∈ tables_1) d hd)) (by decide) ⟨by decide, rfl⟩ (by decide) (by decide) (by decide) (by decide) (by decide) rfl ?_
  intro T19 h19 l19 t19 X19 E19 e19 c19 v19 a19 n19
  have K19 := (OwnW.kExt E19)
  have O19 := O18.keep K19 all0
  have Z19 : Keep h0 h19 [] := Z18.trans K19 (fun x hx => nomatch hx)
  have nl_b2 := n19 b2 (List.mem_append_left _ (List.mem_cons_self ..))
  have nl_b1 := n19 b1 (List.mem_append_left _ (List.mem_cons_of_mem _ (List.mem_cons_self ..)))
  have fk20 := ((fk5.keep K18).keep K19)
  have fk21 := ((fk6.keep K18 (ninS ne_r0_b2 nin0)).keep K19 nin0)
  have fk22 := ((fk7.keep K18 (ninS ne_r0_b2 nin0)).keep K19 nin0)
  have fk23 := ((fk8.keep K18 (ninS ne_tn_b2 nin0)).keep K19 nin0)
  have fk24 := ((fk9.keep K18 (ninS ne_r0_b2 nin0) (ninS ne_tn_b2 nin0)).keep K19 nin0 nin0)
  have fk25 := ((fk10.keep K18).keep K19)
  have fk26 := ((fk11.keep K18 (ninS ne_b1_b2 nin0)).keep K19 nin0)
  have fk27 := ((fk12.keep K18 (ninS ne_b1_b2 nin0)).keep K19 nin0)
  have fk28 := ((fk13.keep K18 (ninS ne_b1_b2 nin0)).keep K19 nin0)
  have fk29 := ((fk14.keep K18 (ninS ne_b1_b2 nin0)).keep K19 nin0)
  have fk30 := ((fk15.keep K18 (ninS ne_b1_b2 nin0)).keep K19 nin0)
  have fk31 := ((fk16.keep K18 (ninS ne_b1_b2 nin0)).keep K19 nin0)
  have fk32 := ((fk17.keep K18 (ninS ne_b1_b2 nin0)).keep K19 nin0)
  have fk33 := (b18.1.keep K19)
  have fk34 := (b18.2.1.keep K19 nin0)
  have fk35 := (b18.2.2.1.keep K19 nin0)
  have fk36 := (b18.2.2.2.1.keep K19 nin0)
  have fk37 := (b18.2.2.2.2.keep K19 nin0)
  have fk38 := (a18.keep K19 nin0)
  refine OwnW.call_virtual_v X19 (z := (⟨"java/lang/StringBuilder", "append", "(Ljava/lang/String;)Ljava/lang/StringBuilder;"⟩ : MethodName)) (yv := (⟨"java/lang/StringBuilder", "append", "(Ljava/lang/String;)Ljava/lang/StringBuilder;"⟩ : MethodName)) (a := b2) (C := "java/lang/StringBuilder") (n := 16) d4_13 (hw _ (List.mem_of_getElem? (i := 48) rfl)) (hw _ (List.mem_of_getElem? (i := 49) rfl)) (hw _ (List.mem_of_getElem? (i := 50) rfl)) (hw _ (List.mem_of_getElem? (i := 51) rfl)) (fun hz => notFace_of_selects (args := #[]) (mvT hz (hw _ (List.mem_of_getElem? (i := 51) rfl)))) (hw _ (List.mem_of_getElem? (i := 52) rfl)) (hw _ (List.mem_of_getElem? (i := 31) rfl)) (by decide) fk33 (rm7l l Z a0 hw hE [] b2 l19 h19 n0 O19 t19 own_pre (by decide) e19 c19 v19 a19 0 23 (List.replicate 16 (Value.int 0)) (by decide) (by decide) (by decide) (by decide) t18 ⟨fk33, fk34, fk35, fk36, fk37⟩ fk38 ge_b2 ne_b2_t18 nl_b2.1 nl_b2.2 (Or.inl ⟨own_preall, e19, c19, v19, a19⟩) zc hzc S_compact) (OwnW.sfS (List.mem_append_left _ (List.mem_cons_self ..)) OwnW.sf0) (argsL := [(.ref l19)]) (rest := [(.ref b1), (.ref b1)]) rfl rfl (OwnW.lenA pd__Ljava_lang_String__Ljava_lang_StringBuilder_ rfl) (W := 2) (Nat.le_of_eq rfl) (by decide) (by decide) (by decide) (by decide) rfl ?_
  intro T39 h39 w39 g39 hle39 X39 ⟨q1, k39, t39, z39, b39, a39, ex39, m39⟩
  subst q1
  have ne_r0_t39 : r0 ≠ t39 := Nat.ne_of_lt (Nat.lt_of_lt_of_le fk20.lt z39)
  have ne_tn_t39 : tn ≠ t39 := Nat.ne_of_lt (Nat.lt_of_lt_of_le fk23.lt z39)
  have ne_b2_t39 : b2 ≠ t39 := Nat.ne_of_lt (Nat.lt_of_lt_of_le fk33.lt z39)
  have ne_b1_t39 : b1 ≠ t39 := Nat.ne_of_lt (Nat.lt_of_lt_of_le fk25.lt z39)
  have ge_t39 : n0 ≤ t39 := Nat.le_trans (OwnW.oldLe O19) z39
  have K39 := k39
  have O39 := O19.keep K39 (allS ge_b2 all0)
  have Z39 : Keep h0 h39 [] := Z19.trans K39 (allS (P := fun x => x ∈ [] ∨ h0.size ≤ x) (Or.inr sz_b2) all0)
  have sz_t39 : h0.size ≤ t39 := Nat.le_trans Z19.1 z39
  replace b39 : own_B Z h39 b2 t39 0 (Int32.ofNat 39) := b39
  rw [own_V1] at a39
  have hlen39 : (own_lb own_pre).length = 39 := rfl
  refine OwnW.aloadN X39 (n := 17) d4_16 rfl rfl rfl ?_
  have fk40 := (fk20.keep K39)
  have fk41 := (fk21.keep K39 (ninS ne_r0_b2 nin0))
  have fk42 := (fk22.keep K39 (ninS ne_r0_b2 nin0))
  have fk43 := (fk23.keep K39 (ninS ne_tn_b2 nin0))
  have fk44 := (fk24.keep K39 (ninS ne_r0_b2 nin0) (ninS ne_tn_b2 nin0))
  have fk45 := (fk25.keep K39)
  have fk46 := (fk26.keep K39 (ninS ne_b1_b2 nin0))
  have fk47 := (fk27.keep K39 (ninS ne_b1_b2 nin0))
  have fk48 := (fk28.keep K39 (ninS ne_b1_b2 nin0))
  have fk49 := (fk29.keep K39 (ninS ne_b1_b2 nin0))
  have fk50 := (fk30.keep K39 (ninS ne_b1_b2 nin0))
  have fk51 := (fk31.keep K39 (ninS ne_b1_b2 nin0))
  have fk52 := (fk32.keep K39 (ninS ne_b1_b2 nin0))
  refine OwnW.call_virtual_v X39 (z := (⟨"java/lang/StringBuilder", "append", "(Ljava/lang/String;)Ljava/lang/StringBuilder;"⟩ : MethodName)) (yv := (⟨"java/lang/StringBuilder", "append", "(Ljava/lang/String;)Ljava/lang/StringBuilder;"⟩ : MethodName)) (a := b2) (C := "java/lang/StringBuilder") (n := 20) d4_17 (hw _ (List.mem_of_getElem? (i := 48) rfl)) (hw _ (List.mem_of_getElem? (i := 49) rfl)) (hw _ (List.mem_of_getElem? (i := 50) rfl)) (hw _ (List.mem_of_getElem? (i := 51) rfl)) (fun hz => notFace_of_selects (args := #[]) (mvT hz (hw _ (List.mem_of_getElem? (i := 51) rfl)))) (hw _ (List.mem_of_getElem? (i := 52) rfl)) (hw _ (List.mem_of_getElem? (i := 31) rfl)) (by decide) b39.1 (rm7l l Z a0 hw hE [] b2 r0 h39 n0 O39 tn us (by omega) fk40 fk41 fk42 fk43 39 41 (own_lb own_pre) (by omega) (by omega) (by omega) (by omega) t39 ⟨b39.1, b39.2.1, b39.2.2.1, b39.2.2.2.1, b39.2.2.2.2⟩ a39 ge_b2 ne_b2_t39 (Ne.symm ne_r0_b2) (Ne.symm ne_tn_b2) fk44 zc hzc S_compact) (OwnW.sfS (List.mem_append_left _ (List.mem_append_left _ (List.mem_cons_self ..))) OwnW.sf0) (argsL := [(.ref r0)]) (rest := [(.ref b1), (.ref b1)]) rfl rfl (OwnW.lenA pd__Ljava_lang_String__Ljava_lang_StringBuilder_ rfl) (W := 2) (Nat.le_of_eq rfl) (by decide) (by decide) (by decide) (by decide) rfl ?_
  intro T53 h53 w53 g53 hle53 X53 ⟨q1, k53, t53, z53, b53, a53, ex53, m53⟩
  subst q1
  have ne_r0_t53 : r0 ≠ t53 := Nat.ne_of_lt (Nat.lt_of_lt_of_le fk40.lt z53)
  have ne_tn_t53 : tn ≠ t53 := Nat.ne_of_lt (Nat.lt_of_lt_of_le fk43.lt z53)
  have ne_b2_t53 : b2 ≠ t53 := Nat.ne_of_lt (Nat.lt_of_lt_of_le b39.1.lt z53)
  have ne_b1_t53 : b1 ≠ t53 := Nat.ne_of_lt (Nat.lt_of_lt_of_le fk45.lt z53)
  have ge_t53 : n0 ≤ t53 := Nat.le_trans (OwnW.oldLe O39) z53
  have K53 := k53
  have O53 := O39.keep K53 (allS ge_b2 all0)
  have Z53 : Keep h0 h53 [] := Z39.trans K53 (allS (P := fun x => x ∈ [] ∨ h0.size ≤ x) (Or.inr sz_b2) all0)
  have sz_t53 : h0.size ≤ t53 := Nat.le_trans Z39.1 z53
  rw [own_V2 us hu3] at a53
  have fk54 := (fk40.keep K53)
  have fk55 := (fk41.keep K53 (ninS ne_r0_b2 nin0))
  have fk56 := (fk42.keep K53 (ninS ne_r0_b2 nin0))
  have fk57 := (fk43.keep K53 (ninS ne_tn_b2 nin0))
  have fk58 := (fk44.keep K53 (ninS ne_r0_b2 nin0) (ninS ne_tn_b2 nin0))
  have fk59 := (fk45.keep K53)
  have fk60 := (fk46.keep K53 (ninS ne_b1_b2 nin0))
  have fk61 := (fk47.keep K53 (ninS ne_b1_b2 nin0))
  have fk62 := (fk48.keep K53 (ninS ne_b1_b2 nin0))
  have fk63 := (fk49.keep K53 (ninS ne_b1_b2 nin0))
  have fk64 := (fk50.keep K53 (ninS ne_b1_b2 nin0))
  have fk65 := (fk51.keep K53 (ninS ne_b1_b2 nin0))
  have fk66 := (fk52.keep K53 (ninS ne_b1_b2 nin0))
  refine OwnW.call_virtual_v X53 (z := (⟨"java/lang/StringBuilder", "toString", "()Ljava/lang/String;"⟩ : MethodName)) (yv := (⟨"java/lang/StringBuilder", "toString", "()Ljava/lang/String;"⟩ : MethodName)) (a := b2) (C := "java/lang/StringBuilder") (n := 23) d4_20 (hw _ (List.mem_of_getElem? (i := 119) rfl)) (hw _ (List.mem_of_getElem? (i := 120) rfl)) (hw _ (List.mem_of_getElem? (i := 121) rfl)) (hw _ (List.mem_of_getElem? (i := 122) rfl)) (fun hz => notFace_of_selects (args := #[]) (mvT hz (hw _ (List.mem_of_getElem? (i := 122) rfl)))) (hw _ (List.mem_of_getElem? (i := 123) rfl)) (hw _ (List.mem_of_getElem? (i := 31) rfl)) (by decide) b53.1 (rm20l l Z a0 hw hE [] b2 h53 n0 O53 t53 (own_lb (own_pre ++ us) ++ List.replicate (41 - us.length) (Value.int 0)) (39 + us.length) (by simp [own_lb_len, own_pre]; omega) (by simp [own_lb_len, own_ub_len, own_pre]; try omega) ⟨b53.1, b53.2.1, b53.2.2.1, b53.2.2.2.1, b53.2.2.2.2⟩ a53 zc hzc S_compact) OwnW.sf0 (argsL := []) (rest := [(.ref b1), (.ref b1)]) rfl rfl (OwnW.lenA pd___Ljava_lang_String_ rfl) (W := 2) (Nat.le_of_eq rfl) (by decide) (by decide) (by decide) (by decide) rfl ?_
  intro T67 h67 w67 g67 hle67 X67 ⟨x67, y67, q1, k67, zx67, zy67, e67, c67, v67, a67⟩
  subst q1
  have ne_b1_x67 : b1 ≠ x67 := Nat.ne_of_lt (Nat.lt_of_lt_of_le fk59.lt zx67)
  have ne_b1_y67 : b1 ≠ y67 := Nat.ne_of_lt (Nat.lt_of_lt_of_le fk59.lt zy67)
  have K67 := k67
  have O67 := O53.keep K67 all0
  have Z67 : Keep h0 h67 [] := Z53.trans K67 (fun x hx => nomatch hx)
  rw [own_V3 us hu3] at a67
  have sU67 : own_U Z h67 x67 y67 (own_pre ++ us) := Or.inl ⟨own_preA us hall, e67, c67, v67, a67⟩
  have fk68 := (fk54.keep K67)
  have fk69 := (fk55.keep K67 nin0)
  have fk70 := (fk56.keep K67 nin0)
  have fk71 := (fk57.keep K67 nin0)
  have fk72 := (fk58.keep K67 nin0 nin0)
  have fk73 := (fk59.keep K67)
  have fk74 := (fk60.keep K67 nin0)
  have fk75 := (fk61.keep K67 nin0)
  have fk76 := (fk62.keep K67 nin0)
  have fk77 := (fk63.keep K67 nin0)
  have fk78 := (fk64.keep K67 nin0)
  have fk79 := (fk65.keep K67 nin0)
  have fk80 := (fk66.keep K67 nin0)
  have fk81 := (b53.1.keep K67)
  have fk82 := (b53.2.1.keep K67 nin0)
  have fk83 := (b53.2.2.1.keep K67 nin0)
  have fk84 := (b53.2.2.2.1.keep K67 nin0)
  have fk85 := (b53.2.2.2.2.keep K67 nin0)
  have fk86 := (a53.keep K67 nin0)
  refine OwnW.call_special_n X67 (z := (⟨"java/lang/IllegalArgumentException", "<init>", "(Ljava/lang/String;)V"⟩ : MethodName)) (a := b1) (n := 26) d4_23 (hw _ (List.mem_of_getElem? (i := 161) rfl)) (hw _ (List.mem_of_getElem? (i := 162) rfl)) (hw _ (List.mem_of_getElem? (i := 163) rfl)) (hw _ (List.mem_of_getElem? (i := 28) rfl)) rfl rfl (by decide) (rm28 l Z a0 hw hE [] b1 x67 h67 n0 O67 xu xs S_us S_ss hst (ThS.keep Z67 (fun _ q => nomatch q) TS0) ge_b1 fk73 fk74 _ _ _ fk75 fk76 fk77 fk78 fk79) (OwnW.sfS (List.mem_append_left _ (List.mem_append_left _ (List.mem_append_left _ (List.mem_append_left _ (List.mem_cons_of_mem _ (List.mem_cons_self ..)))))) OwnW.sf0) (argsL := [(.ref x67)]) (rest := [(.ref b1)]) rfl rfl (OwnW.lenA pd__Ljava_lang_String__V rfl) (W := 1) (Nat.le_of_eq rfl) (by decide) (by decide) (by decide) (by decide) rfl ?_
  intro T87 h87 g87 hle87 X87 ⟨k87, un87, fc87, fm87⟩
  have K87 := k87
  have O87 := O67.keep K87 (allS ge_b1 all0)
  have Z87 : Keep h0 h87 [] := Z67.trans K87 (allS (P := fun x => x ∈ [] ∨ h0.size ≤ x) (Or.inr sz_b1) all0)
  have fk88 := (fk73.keep K87)
  have fk89 := (sU67.keep K87 (ninS (Ne.symm ne_b1_x67) nin0) (ninS (Ne.symm ne_b1_y67) nin0))
  exact OwnW.areturn X87 rfl rfl rfl d4_26 ⟨_, x67, y67, rfl, Z87, sz_b1, fk88, un87, fm87, fc87, fk89⟩ (by decide) (by decide)
theorem ef_rm4u (m : MethodId) (x0 : Addr) : entryFrame m #[(.ref x0)] 1 = mkF m 0 #[.val (.ref x0)] [] := by first | (simp [entryFrame, mkF, argsToLocals, Value.category]; done) | rfl
set_option maxRecDepth 65536 in
set_option maxHeartbeats 40000000 in
theorem rm4u (l : Launch) (Z : State) (a0 : Array Value) (hw : ∀ d ∈ tables_1, d.before a0 Z = true) (hE : EW Z a0 own_EL) (ws : List Jvm.Cond) (r0 : Addr) (h0 : Heap) (n0 : Nat) (O0 : Old Z n0 h0) (tn : Addr) (us : List Nat) (hu3 : us.length ≤ 3) (hu : ∀ u ∈ us, u ≤ 65535) (S0 : own_U Z h0 r0 tn us) (hpos : 0 < us.length) (hall : ¬ (∀ u ∈ us, u ≤ 255)) (E1s : Exa Z h0 r0 "java/lang/String") (F1s : Fld Z h0 r0 "java/lang/String" "coder" "B" (.int 1)) (V1s : Fld Z h0 r0 "java/lang/String" "value" "[B" (.ref tn)) (A1s : Ark Z h0 tn .byte (own_ub us)) (zc : Int32) (hzc : ¬ zc = 0) (S_compact : Sta Z Z.heap "java/lang/String" "COMPACT_STRINGS" "Z" (.int zc)) (fm : Value) (hfm : fm = .null ∨ ∃ r, fm = .ref r) (S_fm : Sta Z Z.heap "jdk/internal/util/Preconditions" "SIOOBE_FORMATTER" "Ljava/util/function/BiFunction;" fm) (S_ad : Sta Z Z.heap "java/lang/StringUTF16" "$assertionsDisabled" "Z" (.int 1)) (S_hi : Sta Z Z.heap "java/lang/StringUTF16" "HI_BYTE_SHIFT" "I" (.int 0)) (S_lo : Sta Z Z.heap "java/lang/StringUTF16" "LO_BYTE_SHIFT" "I" (.int 8)) (xu xs : Addr) (S_us : Sta Z Z.heap "java/lang/Throwable" "UNASSIGNED_STACK" "[Ljava/lang/StackTraceElement;" (.ref xu)) (S_ss : Sta Z Z.heap "java/lang/Throwable" "SUPPRESSED_SENTINEL" "Ljava/util/List;" (.ref xs)) (hst : l.stackTraces = true) (TS0 : ThS Z h0)  :
    Ctr True l Z own_EL (⟨"com/example/conversation_framework/conversationframework/Component", "undeclared", "(Ljava/lang/String;)Ljava/lang/IllegalArgumentException;"⟩ : MethodName) prog_1_method_12_code 1 (some (.object "java/lang/IllegalArgumentException")) ws ({ frames := 10, cells := 11, slots := 3422, locals := 145 } : Room) n0 ([]) #[(.ref r0)] h0 (Rt (fun w h g => ∃ x m t, w = .ref x ∧ Keep h0 h [] ∧ h0.size ≤ x ∧ Exa Z h x "java/lang/IllegalArgumentException" ∧ Unt h x ∧ Fld Z h x "java/lang/Throwable" "detailMessage" "Ljava/lang/String;" (.ref m) ∧ Fld Z h x "java/lang/Throwable" "cause" "Ljava/lang/Throwable;" (.ref x) ∧ own_U Z h m t (own_pre ++ us))) := by
  refine Ctr.of (plainFor_of_name pn_com_example_conversation_framework_conversationframework_Component) hE (fun m => ef_rm4u m r0) ?_
  intro p e s m below meth c T0 X0
  have Z0 : Keep h0 h0 [] := Keep.refl _ _
  refine OwnW.new X0 (C := "java/lang/IllegalArgumentException") (k := 6) (n := 3) d4_0 (hw _ (List.mem_of_getElem? (i := 26) rfl)) (hw _ (List.mem_of_getElem? (i := 27) rfl)) (hw _ (List.mem_of_getElem? (i := 28) rfl)) (by decide) (by decide) rfl ?_
  intro T1 h1 b1 gb1 X1 E1 A1 D1 U1
  have ne_r0_b1 : r0 ≠ b1 := by rw [gb1]; exact Nat.ne_of_lt E1s.lt
  have ne_tn_b1 : tn ≠ b1 := by rw [gb1]; exact Nat.ne_of_lt A1s.lt
  have ge_b1 : n0 ≤ b1 := by rw [gb1]; exact OwnW.oldLe O0
  have K1 := (OwnW.kExt E1)
  have O1 := O0.keep K1 all0
  have Z1 : Keep h0 h1 [] := Z0.trans K1 (fun x hx => nomatch hx)
  have sz_b1 : h0.size ≤ b1 := by rw [gb1]; exact Z0.1
  have F1_cause : Fld Z h1 b1 "java/lang/Throwable" "cause" "Ljava/lang/Throwable;" .null := D1 (Or.inl (hw _ (List.mem_of_getElem? (i := 184) rfl))) (ty := (.object "java/lang/Throwable")) (by decide)
  have F1_stackTrace : Fld Z h1 b1 "java/lang/Throwable" "stackTrace" "[Ljava/lang/StackTraceElement;" .null := D1 (Or.inl (hw _ (List.mem_of_getElem? (i := 187) rfl))) (ty := (.array (.object "java/lang/StackTraceElement"))) (by decide)
  have F1_suppressedExceptions : Fld Z h1 b1 "java/lang/Throwable" "suppressedExceptions" "Ljava/util/List;" .null := D1 (Or.inl (hw _ (List.mem_of_getElem? (i := 190) rfl))) (ty := (.object "java/util/List")) (by decide)
  have F1_detailMessage : Fld Z h1 b1 "java/lang/Throwable" "detailMessage" "Ljava/lang/String;" .null := D1 (Or.inl (hw _ (List.mem_of_getElem? (i := 214) rfl))) (ty := (.object "java/lang/String")) (by decide)
  have F1_backtrace : Fld Z h1 b1 "java/lang/Throwable" "backtrace" "Ljava/lang/Object;" .null := D1 (Or.inl (hw _ (List.mem_of_getElem? (i := 215) rfl))) (ty := (.object "java/lang/Object")) (by decide)
  have F1_depth : Fld Z h1 b1 "java/lang/Throwable" "depth" "I" (.int (0 : Int32)) := D1 (Or.inl (hw _ (List.mem_of_getElem? (i := 216) rfl))) (ty := .int) (by decide)
  refine OwnW.dup X1 (n := 4) d4_3 rfl rfl ?_
  refine OwnW.new X1 (C := "java/lang/StringBuilder") (k := 4) (n := 7) d4_4 (hw _ (List.mem_of_getElem? (i := 29) rfl)) (hw _ (List.mem_of_getElem? (i := 30) rfl)) (hw _ (List.mem_of_getElem? (i := 31) rfl)) (by decide) (by decide) rfl ?_
  intro T2 h2 b2 gb2 X2 E2 A2 D2 U2
  have fk3 := (E1s.keep K1)
  have ne_r0_b2 : r0 ≠ b2 := by rw [gb2]; exact Nat.ne_of_lt fk3.lt
  have fk4 := (A1s.keep K1 nin0)
  have ne_tn_b2 : tn ≠ b2 := by rw [gb2]; exact Nat.ne_of_lt fk4.lt
  have ne_b1_b2 : b1 ≠ b2 := by rw [gb2]; exact Nat.ne_of_lt A1.lt
  have ge_b2 : n0 ≤ b2 := by rw [gb2]; exact OwnW.oldLe O1
  have K2 := (OwnW.kExt E2)
  have O2 := O1.keep K2 all0
  have Z2 : Keep h0 h2 [] := Z1.trans K2 (fun x hx => nomatch hx)
  have sz_b2 : h0.size ≤ b2 := by rw [gb2]; exact Z1.1
  have F2_value : Fld Z h2 b2 "java/lang/AbstractStringBuilder" "value" "[B" .null := D2 (Or.inl (hw _ (List.mem_of_getElem? (i := 44) rfl))) (ty := (.array .byte)) (by decide)
  have F2_coder : Fld Z h2 b2 "java/lang/AbstractStringBuilder" "coder" "B" (.int (0 : Int32)) := D2 (Or.inl (hw _ (List.mem_of_getElem? (i := 46) rfl))) (ty := .byte) (by decide)
  have F2_count : Fld Z h2 b2 "java/lang/AbstractStringBuilder" "count" "I" (.int (0 : Int32)) := D2 (Or.inl (hw _ (List.mem_of_getElem? (i := 70) rfl))) (ty := .int) (by decide)
  have F2_maybeLatin1 : Fld Z h2 b2 "java/lang/AbstractStringBuilder" "maybeLatin1" "Z" (.int (0 : Int32)) := D2 (Or.inl (hw _ (List.mem_of_getElem? (i := 327) rfl))) (ty := .boolean) (by decide)
  refine OwnW.dup X2 (n := 8) d4_7 rfl rfl ?_
  have fk5 := (fk3.keep K2)
  have fk6 := ((F1s.keep K1 nin0).keep K2 nin0)
  have fk7 := ((V1s.keep K1 nin0).keep K2 nin0)
  have fk8 := (fk4.keep K2 nin0)
  have fk9 := ((S0.keep K1 nin0 nin0).keep K2 nin0 nin0)
  have fk10 := (A1.keep K2)
  have fk11 := (U1.keep K2 nin0)
  have fk12 := (F1_cause.keep K2 nin0)
  have fk13 := (F1_stackTrace.keep K2 nin0)
  have fk14 := (F1_suppressedExceptions.keep K2 nin0)
  have fk15 := (F1_detailMessage.keep K2 nin0)
  have fk16 := (F1_backtrace.keep K2 nin0)
  have fk17 := (F1_depth.keep K2 nin0)
  refine OwnW.call_special_n X2 (z := (⟨"java/lang/StringBuilder", "<init>", "()V"⟩ : MethodName)) (a := b2) (n := 11) d4_8 (hw _ (List.mem_of_getElem? (i := 32) rfl)) (hw _ (List.mem_of_getElem? (i := 33) rfl)) (hw _ (List.mem_of_getElem? (i := 34) rfl)) (hw _ (List.mem_of_getElem? (i := 31) rfl)) rfl rfl (by decide) (rm5 l Z a0 hw hE [] b2 h2 n0 O2 ge_b2 A2 _ _ F2_value F2_coder F2_count F2_maybeLatin1 zc hzc S_compact) (OwnW.sfS (List.mem_cons_self ..) OwnW.sf0) (argsL := []) (rest := [(.ref b2), (.ref b1), (.ref b1)]) rfl rfl (OwnW.lenA pd___V rfl) (W := 3) (Nat.le_of_eq rfl) (by decide) (by decide) (by decide) (by decide) rfl ?_
  intro T18 h18 g18 hle18 X18 ⟨k18, t18, z18, b18, a18, m18⟩
  have ne_r0_t18 : r0 ≠ t18 := Nat.ne_of_lt (Nat.lt_of_lt_of_le fk5.lt z18)
  have ne_tn_t18 : tn ≠ t18 := Nat.ne_of_lt (Nat.lt_of_lt_of_le fk8.lt z18)
  have ne_b2_t18 : b2 ≠ t18 := Nat.ne_of_lt (Nat.lt_of_lt_of_le A2.lt z18)
  have ne_b1_t18 : b1 ≠ t18 := Nat.ne_of_lt (Nat.lt_of_lt_of_le fk10.lt z18)
  have ge_t18 : n0 ≤ t18 := Nat.le_trans (OwnW.oldLe O2) z18
  have K18 := k18
  have O18 := O2.keep K18 (allS ge_b2 all0)
  have Z18 : Keep h0 h18 [] := Z2.trans K18 (allS (P := fun x => x ∈ [] ∨ h0.size ≤ x) (Or.inr sz_b2) all0)
  have sz_t18 : h0.size ≤ t18 := Nat.le_trans Z2.1 z18
  refine OwnW.ldcS X18 (bs := (own_pre.map Int32.ofNat).map lo8) (nn := 156) (text := "no component is declared with the name ") (n := 13) d4_11 (hw _ (List.mem_of_getElem? (i := 47) rfl)) (fun d hd => hw d ((by decide +kernel : ∀ d ∈ Bundle.stringAtoms, d ∈ tables_1) d hd)) (by decide) ⟨by decide, rfl⟩ (by decide) (by decide) (by decide) (by decide) (by decide) rfl ?_
  intro T19 h19 l19 t19 X19 E19 e19 c19 v19 a19 n19
  have K19 := (OwnW.kExt E19)
  have O19 := O18.keep K19 all0
  have Z19 : Keep h0 h19 [] := Z18.trans K19 (fun x hx => nomatch hx)
  have nl_b2 := n19 b2 (List.mem_append_left _ (List.mem_cons_self ..))
  have nl_b1 := n19 b1 (List.mem_append_left _ (List.mem_cons_of_mem _ (List.mem_cons_self ..)))
  have fk20 := ((fk5.keep K18).keep K19)
  have fk21 := ((fk6.keep K18 (ninS ne_r0_b2 nin0)).keep K19 nin0)
  have fk22 := ((fk7.keep K18 (ninS ne_r0_b2 nin0)).keep K19 nin0)
  have fk23 := ((fk8.keep K18 (ninS ne_tn_b2 nin0)).keep K19 nin0)
  have fk24 := ((fk9.keep K18 (ninS ne_r0_b2 nin0) (ninS ne_tn_b2 nin0)).keep K19 nin0 nin0)
  have fk25 := ((fk10.keep K18).keep K19)
  have fk26 := ((fk11.keep K18 (ninS ne_b1_b2 nin0)).keep K19 nin0)
  have fk27 := ((fk12.keep K18 (ninS ne_b1_b2 nin0)).keep K19 nin0)
  have fk28 := ((fk13.keep K18 (ninS ne_b1_b2 nin0)).keep K19 nin0)
  have fk29 := ((fk14.keep K18 (ninS ne_b1_b2 nin0)).keep K19 nin0)
  have fk30 := ((fk15.keep K18 (ninS ne_b1_b2 nin0)).keep K19 nin0)
  have fk31 := ((fk16.keep K18 (ninS ne_b1_b2 nin0)).keep K19 nin0)
  have fk32 := ((fk17.keep K18 (ninS ne_b1_b2 nin0)).keep K19 nin0)
  have fk33 := (b18.1.keep K19)
  have fk34 := (b18.2.1.keep K19 nin0)
  have fk35 := (b18.2.2.1.keep K19 nin0)
  have fk36 := (b18.2.2.2.1.keep K19 nin0)
  have fk37 := (b18.2.2.2.2.keep K19 nin0)
  have fk38 := (a18.keep K19 nin0)
  refine OwnW.call_virtual_v X19 (z := (⟨"java/lang/StringBuilder", "append", "(Ljava/lang/String;)Ljava/lang/StringBuilder;"⟩ : MethodName)) (yv := (⟨"java/lang/StringBuilder", "append", "(Ljava/lang/String;)Ljava/lang/StringBuilder;"⟩ : MethodName)) (a := b2) (C := "java/lang/StringBuilder") (n := 16) d4_13 (hw _ (List.mem_of_getElem? (i := 48) rfl)) (hw _ (List.mem_of_getElem? (i := 49) rfl)) (hw _ (List.mem_of_getElem? (i := 50) rfl)) (hw _ (List.mem_of_getElem? (i := 51) rfl)) (fun hz => notFace_of_selects (args := #[]) (mvT hz (hw _ (List.mem_of_getElem? (i := 51) rfl)))) (hw _ (List.mem_of_getElem? (i := 52) rfl)) (hw _ (List.mem_of_getElem? (i := 31) rfl)) (by decide) fk33 (rm7l l Z a0 hw hE [] b2 l19 h19 n0 O19 t19 own_pre (by decide) e19 c19 v19 a19 0 23 (List.replicate 16 (Value.int 0)) (by decide) (by decide) (by decide) (by decide) t18 ⟨fk33, fk34, fk35, fk36, fk37⟩ fk38 ge_b2 ne_b2_t18 nl_b2.1 nl_b2.2 (Or.inl ⟨own_preall, e19, c19, v19, a19⟩) zc hzc S_compact) (OwnW.sfS (List.mem_append_left _ (List.mem_cons_self ..)) OwnW.sf0) (argsL := [(.ref l19)]) (rest := [(.ref b1), (.ref b1)]) rfl rfl (OwnW.lenA pd__Ljava_lang_String__Ljava_lang_StringBuilder_ rfl) (W := 2) (Nat.le_of_eq rfl) (by decide) (by decide) (by decide) (by decide) rfl ?_
  intro T39 h39 w39 g39 hle39 X39 ⟨q1, k39, t39, z39, b39, a39, ex39, m39⟩
  subst q1
  have ne_r0_t39 : r0 ≠ t39 := Nat.ne_of_lt (Nat.lt_of_lt_of_le fk20.lt z39)
  have ne_tn_t39 : tn ≠ t39 := Nat.ne_of_lt (Nat.lt_of_lt_of_le fk23.lt z39)
  have ne_b2_t39 : b2 ≠ t39 := Nat.ne_of_lt (Nat.lt_of_lt_of_le fk33.lt z39)
  have ne_b1_t39 : b1 ≠ t39 := Nat.ne_of_lt (Nat.lt_of_lt_of_le fk25.lt z39)
  have ge_t39 : n0 ≤ t39 := Nat.le_trans (OwnW.oldLe O19) z39
  have K39 := k39
  have O39 := O19.keep K39 (allS ge_b2 all0)
  have Z39 : Keep h0 h39 [] := Z19.trans K39 (allS (P := fun x => x ∈ [] ∨ h0.size ≤ x) (Or.inr sz_b2) all0)
  have sz_t39 : h0.size ≤ t39 := Nat.le_trans Z19.1 z39
  replace b39 : own_B Z h39 b2 t39 0 (Int32.ofNat 39) := b39
  rw [own_V1] at a39
  have hlen39 : (own_lb own_pre).length = 39 := rfl
  refine OwnW.aloadN X39 (n := 17) d4_16 rfl rfl rfl ?_
  have fk40 := (fk20.keep K39)
  have fk41 := (fk21.keep K39 (ninS ne_r0_b2 nin0))
  have fk42 := (fk22.keep K39 (ninS ne_r0_b2 nin0))
  have fk43 := (fk23.keep K39 (ninS ne_tn_b2 nin0))
  have fk44 := (fk24.keep K39 (ninS ne_r0_b2 nin0) (ninS ne_tn_b2 nin0))
  have fk45 := (fk25.keep K39)
  have fk46 := (fk26.keep K39 (ninS ne_b1_b2 nin0))
  have fk47 := (fk27.keep K39 (ninS ne_b1_b2 nin0))
  have fk48 := (fk28.keep K39 (ninS ne_b1_b2 nin0))
  have fk49 := (fk29.keep K39 (ninS ne_b1_b2 nin0))
  have fk50 := (fk30.keep K39 (ninS ne_b1_b2 nin0))
  have fk51 := (fk31.keep K39 (ninS ne_b1_b2 nin0))
  have fk52 := (fk32.keep K39 (ninS ne_b1_b2 nin0))
  have hp39 : own_pre.length = 39 := rfl
  refine OwnW.call_virtual_v X39 (z := (⟨"java/lang/StringBuilder", "append", "(Ljava/lang/String;)Ljava/lang/StringBuilder;"⟩ : MethodName)) (yv := (⟨"java/lang/StringBuilder", "append", "(Ljava/lang/String;)Ljava/lang/StringBuilder;"⟩ : MethodName)) (a := b2) (C := "java/lang/StringBuilder") (n := 20) d4_17 (hw _ (List.mem_of_getElem? (i := 48) rfl)) (hw _ (List.mem_of_getElem? (i := 49) rfl)) (hw _ (List.mem_of_getElem? (i := 50) rfl)) (hw _ (List.mem_of_getElem? (i := 51) rfl)) (fun hz => notFace_of_selects (args := #[]) (mvT hz (hw _ (List.mem_of_getElem? (i := 51) rfl)))) (hw _ (List.mem_of_getElem? (i := 52) rfl)) (hw _ (List.mem_of_getElem? (i := 31) rfl)) (by decide) b39.1 (rm7u l Z a0 hw hE [] b2 r0 h39 n0 O39 tn us (by omega) fk40 fk41 fk42 fk43 41 own_pre own_preall hpos (by omega) (by omega) (by omega) t39 ⟨b39.1, b39.2.1, b39.2.2.1, b39.2.2.2.1, b39.2.2.2.2⟩ a39 ge_b2 ne_b2_t39 (Ne.symm ne_r0_b2) (Ne.symm ne_tn_b2) fk44 zc hzc S_compact fm hfm S_fm S_ad S_hi S_lo) (OwnW.sfS (List.mem_append_left _ (List.mem_append_left _ (List.mem_cons_self ..))) OwnW.sf0) (argsL := [(.ref r0)]) (rest := [(.ref b1), (.ref b1)]) rfl rfl (OwnW.lenA pd__Ljava_lang_String__Ljava_lang_StringBuilder_ rfl) (W := 2) (Nat.le_of_eq rfl) (by decide) (by decide) (by decide) (by decide) rfl ?_
  intro T53 h53 w53 g53 hle53 X53 ⟨q1, k53, t53, z53, b53, a53, m53⟩
  subst q1
  have ne_r0_t53 : r0 ≠ t53 := Nat.ne_of_lt (Nat.lt_of_lt_of_le fk40.lt z53)
  have ne_tn_t53 : tn ≠ t53 := Nat.ne_of_lt (Nat.lt_of_lt_of_le fk43.lt z53)
  have ne_b2_t53 : b2 ≠ t53 := Nat.ne_of_lt (Nat.lt_of_lt_of_le b39.1.lt z53)
  have ne_b1_t53 : b1 ≠ t53 := Nat.ne_of_lt (Nat.lt_of_lt_of_le fk45.lt z53)
  have ge_t53 : n0 ≤ t53 := Nat.le_trans (OwnW.oldLe O39) z53
  have K53 := k53
  have O53 := O39.keep K53 (allS ge_b2 all0)
  have Z53 : Keep h0 h53 [] := Z39.trans K53 (allS (P := fun x => x ∈ [] ∨ h0.size ≤ x) (Or.inr sz_b2) all0)
  have sz_t53 : h0.size ≤ t53 := Nat.le_trans Z39.1 z53
  rw [own_V2u us hu3] at a53
  have fk54 := (fk40.keep K53)
  have fk55 := (fk41.keep K53 (ninS ne_r0_b2 nin0))
  have fk56 := (fk42.keep K53 (ninS ne_r0_b2 nin0))
  have fk57 := (fk43.keep K53 (ninS ne_tn_b2 nin0))
  have fk58 := (fk44.keep K53 (ninS ne_r0_b2 nin0) (ninS ne_tn_b2 nin0))
  have fk59 := (fk45.keep K53)
  have fk60 := (fk46.keep K53 (ninS ne_b1_b2 nin0))
  have fk61 := (fk47.keep K53 (ninS ne_b1_b2 nin0))
  have fk62 := (fk48.keep K53 (ninS ne_b1_b2 nin0))
  have fk63 := (fk49.keep K53 (ninS ne_b1_b2 nin0))
  have fk64 := (fk50.keep K53 (ninS ne_b1_b2 nin0))
  have fk65 := (fk51.keep K53 (ninS ne_b1_b2 nin0))
  have fk66 := (fk52.keep K53 (ninS ne_b1_b2 nin0))
  refine OwnW.call_virtual_v X53 (z := (⟨"java/lang/StringBuilder", "toString", "()Ljava/lang/String;"⟩ : MethodName)) (yv := (⟨"java/lang/StringBuilder", "toString", "()Ljava/lang/String;"⟩ : MethodName)) (a := b2) (C := "java/lang/StringBuilder") (n := 23) d4_20 (hw _ (List.mem_of_getElem? (i := 119) rfl)) (hw _ (List.mem_of_getElem? (i := 120) rfl)) (hw _ (List.mem_of_getElem? (i := 121) rfl)) (hw _ (List.mem_of_getElem? (i := 122) rfl)) (fun hz => notFace_of_selects (args := #[]) (mvT hz (hw _ (List.mem_of_getElem? (i := 122) rfl)))) (hw _ (List.mem_of_getElem? (i := 123) rfl)) (hw _ (List.mem_of_getElem? (i := 31) rfl)) (by decide) b53.1 (rm20u l Z a0 hw hE [] b2 h53 n0 O53 t53 (own_ub (own_pre ++ us) ++ List.replicate (2 * (41 - us.length)) (Value.int 0)) (own_pre.length + us.length) (by simp [own_ub_len, own_pre]; omega) (by simp [own_lb_len, own_ub_len, own_pre]; try omega) ⟨b53.1, b53.2.1, b53.2.2.1, b53.2.2.2.1, b53.2.2.2.2⟩ a53 zc hzc S_compact) OwnW.sf0 (argsL := []) (rest := [(.ref b1), (.ref b1)]) rfl rfl (OwnW.lenA pd___Ljava_lang_String_ rfl) (W := 2) (Nat.le_of_eq rfl) (by decide) (by decide) (by decide) (by decide) rfl ?_
  intro T67 h67 w67 g67 hle67 X67 ⟨x67, y67, q1, k67, zx67, zy67, e67, c67, v67, a67⟩
  subst q1
  have ne_b1_x67 : b1 ≠ x67 := Nat.ne_of_lt (Nat.lt_of_lt_of_le fk59.lt zx67)
  have ne_b1_y67 : b1 ≠ y67 := Nat.ne_of_lt (Nat.lt_of_lt_of_le fk59.lt zy67)
  have K67 := k67
  have O67 := O53.keep K67 all0
  have Z67 : Keep h0 h67 [] := Z53.trans K67 (fun x hx => nomatch hx)
  rw [own_V3u us hu3] at a67
  have sU67 : own_U Z h67 x67 y67 (own_pre ++ us) := Or.inr ⟨fun z => hall (fun v hv => z v (List.mem_append_right _ hv)), e67, c67, v67, a67⟩
  have fk68 := (fk54.keep K67)
  have fk69 := (fk55.keep K67 nin0)
  have fk70 := (fk56.keep K67 nin0)
  have fk71 := (fk57.keep K67 nin0)
  have fk72 := (fk58.keep K67 nin0 nin0)
  have fk73 := (fk59.keep K67)
  have fk74 := (fk60.keep K67 nin0)
  have fk75 := (fk61.keep K67 nin0)
  have fk76 := (fk62.keep K67 nin0)
  have fk77 := (fk63.keep K67 nin0)
  have fk78 := (fk64.keep K67 nin0)
  have fk79 := (fk65.keep K67 nin0)
  have fk80 := (fk66.keep K67 nin0)
  have fk81 := (b53.1.keep K67)
  have fk82 := (b53.2.1.keep K67 nin0)
  have fk83 := (b53.2.2.1.keep K67 nin0)
  have fk84 := (b53.2.2.2.1.keep K67 nin0)
  have fk85 := (b53.2.2.2.2.keep K67 nin0)
  have fk86 := (a53.keep K67 nin0)
  refine OwnW.call_special_n X67 (z := (⟨"java/lang/IllegalArgumentException", "<init>", "(Ljava/lang/String;)V"⟩ : MethodName)) (a := b1) (n := 26) d4_23 (hw _ (List.mem_of_getElem? (i := 161) rfl)) (hw _ (List.mem_of_getElem? (i := 162) rfl)) (hw _ (List.mem_of_getElem? (i := 163) rfl)) (hw _ (List.mem_of_getElem? (i := 28) rfl)) rfl rfl (by decide) (rm28 l Z a0 hw hE [] b1 x67 h67 n0 O67 xu xs S_us S_ss hst (ThS.keep Z67 (fun _ q => nomatch q) TS0) ge_b1 fk73 fk74 _ _ _ fk75 fk76 fk77 fk78 fk79) (OwnW.sfS (List.mem_append_left _ (List.mem_append_left _ (List.mem_append_left _ (List.mem_append_left _ (List.mem_cons_of_mem _ (List.mem_cons_self ..)))))) OwnW.sf0) (argsL := [(.ref x67)]) (rest := [(.ref b1)]) rfl rfl (OwnW.lenA pd__Ljava_lang_String__V rfl) (W := 1) (Nat.le_of_eq rfl) (by decide) (by decide) (by decide) (by decide) rfl ?_
  intro T87 h87 g87 hle87 X87 ⟨k87, un87, fc87, fm87⟩
  have K87 := k87
  have O87 := O67.keep K87 (allS ge_b1 all0)
  have Z87 : Keep h0 h87 [] := Z67.trans K87 (allS (P := fun x => x ∈ [] ∨ h0.size ≤ x) (Or.inr sz_b1) all0)
  have fk88 := (fk73.keep K87)
  have fk89 := (sU67.keep K87 (ninS (Ne.symm ne_b1_x67) nin0) (ninS (Ne.symm ne_b1_y67) nin0))
  exact OwnW.areturn X87 rfl rfl rfl d4_26 ⟨_, x67, y67, rfl, Z87, sz_b1, fk88, un87, fm87, fc87, fk89⟩ (by decide) (by decide)
theorem ef_rm4e (m : MethodId) (x0 : Addr) : entryFrame m #[(.ref x0)] 1 = mkF m 0 #[.val (.ref x0)] [] := by first | (simp [entryFrame, mkF, argsToLocals, Value.category]; done) | rfl
set_option maxRecDepth 65536 in
set_option maxHeartbeats 40000000 in
theorem rm4e (l : Launch) (Z : State) (a0 : Array Value) (hw : ∀ d ∈ tables_1, d.before a0 Z = true) (hE : EW Z a0 own_EL) (ws : List Jvm.Cond) (r0 : Addr) (h0 : Heap) (n0 : Nat) (O0 : Old Z n0 h0) (tn : Addr) (us : List Nat) (hu3 : us.length ≤ 3) (hu : ∀ u ∈ us, u ≤ 65535) (S0 : own_U Z h0 r0 tn us) (h0l : us.length = 0) (hall : ∀ u ∈ us, u ≤ 255) (E1s : Exa Z h0 r0 "java/lang/String") (F1s : Fld Z h0 r0 "java/lang/String" "coder" "B" (.int 0)) (V1s : Fld Z h0 r0 "java/lang/String" "value" "[B" (.ref tn)) (A1s : Ark Z h0 tn .byte (own_lb us)) (zc : Int32) (hzc : ¬ zc = 0) (S_compact : Sta Z Z.heap "java/lang/String" "COMPACT_STRINGS" "Z" (.int zc)) (fm : Value) (hfm : fm = .null ∨ ∃ r, fm = .ref r) (S_fm : Sta Z Z.heap "jdk/internal/util/Preconditions" "SIOOBE_FORMATTER" "Ljava/util/function/BiFunction;" fm) (S_ad : Sta Z Z.heap "java/lang/StringUTF16" "$assertionsDisabled" "Z" (.int 1)) (S_hi : Sta Z Z.heap "java/lang/StringUTF16" "HI_BYTE_SHIFT" "I" (.int 0)) (S_lo : Sta Z Z.heap "java/lang/StringUTF16" "LO_BYTE_SHIFT" "I" (.int 8)) (xu xs : Addr) (S_us : Sta Z Z.heap "java/lang/Throwable" "UNASSIGNED_STACK" "[Ljava/lang/StackTraceElement;" (.ref xu)) (S_ss : Sta Z Z.heap "java/lang/Throwable" "SUPPRESSED_SENTINEL" "Ljava/util/List;" (.ref xs)) (hst : l.stackTraces = true) (TS0 : ThS Z h0)  :
    Ctr True l Z own_EL (⟨"com/example/conversation_framework/conversationframework/Component", "undeclared", "(Ljava/lang/String;)Ljava/lang/IllegalArgumentException;"⟩ : MethodName) prog_1_method_12_code 1 (some (.object "java/lang/IllegalArgumentException")) ws ({ frames := 10, cells := 11, slots := 3422, locals := 145 } : Room) n0 ([]) #[(.ref r0)] h0 (Rt (fun w h g => ∃ x m t, w = .ref x ∧ Keep h0 h [] ∧ h0.size ≤ x ∧ Exa Z h x "java/lang/IllegalArgumentException" ∧ Unt h x ∧ Fld Z h x "java/lang/Throwable" "detailMessage" "Ljava/lang/String;" (.ref m) ∧ Fld Z h x "java/lang/Throwable" "cause" "Ljava/lang/Throwable;" (.ref x) ∧ own_U Z h m t (own_pre ++ us))) := by
  refine Ctr.of (plainFor_of_name pn_com_example_conversation_framework_conversationframework_Component) hE (fun m => ef_rm4e m r0) ?_
  intro p e s m below meth c T0 X0
  have Z0 : Keep h0 h0 [] := Keep.refl _ _
  refine OwnW.new X0 (C := "java/lang/IllegalArgumentException") (k := 6) (n := 3) d4_0 (hw _ (List.mem_of_getElem? (i := 26) rfl)) (hw _ (List.mem_of_getElem? (i := 27) rfl)) (hw _ (List.mem_of_getElem? (i := 28) rfl)) (by decide) (by decide) rfl ?_
  intro T1 h1 b1 gb1 X1 E1 A1 D1 U1
  have ne_r0_b1 : r0 ≠ b1 := by rw [gb1]; exact Nat.ne_of_lt E1s.lt
  have ne_tn_b1 : tn ≠ b1 := by rw [gb1]; exact Nat.ne_of_lt A1s.lt
  have ge_b1 : n0 ≤ b1 := by rw [gb1]; exact OwnW.oldLe O0
  have K1 := (OwnW.kExt E1)
  have O1 := O0.keep K1 all0
  have Z1 : Keep h0 h1 [] := Z0.trans K1 (fun x hx => nomatch hx)
  have sz_b1 : h0.size ≤ b1 := by rw [gb1]; exact Z0.1
  have F1_cause : Fld Z h1 b1 "java/lang/Throwable" "cause" "Ljava/lang/Throwable;" .null := D1 (Or.inl (hw _ (List.mem_of_getElem? (i := 184) rfl))) (ty := (.object "java/lang/Throwable")) (by decide)
  have F1_stackTrace : Fld Z h1 b1 "java/lang/Throwable" "stackTrace" "[Ljava/lang/StackTraceElement;" .null := D1 (Or.inl (hw _ (List.mem_of_getElem? (i := 187) rfl))) (ty := (.array (.object "java/lang/StackTraceElement"))) (by decide)
  have F1_suppressedExceptions : Fld Z h1 b1 "java/lang/Throwable" "suppressedExceptions" "Ljava/util/List;" .null := D1 (Or.inl (hw _ (List.mem_of_getElem? (i := 190) rfl))) (ty := (.object "java/util/List")) (by decide)
  have F1_detailMessage : Fld Z h1 b1 "java/lang/Throwable" "detailMessage" "Ljava/lang/String;" .null := D1 (Or.inl (hw _ (List.mem_of_getElem? (i := 214) rfl))) (ty := (.object "java/lang/String")) (by decide)
  have F1_backtrace : Fld Z h1 b1 "java/lang/Throwable" "backtrace" "Ljava/lang/Object;" .null := D1 (Or.inl (hw _ (List.mem_of_getElem? (i := 215) rfl))) (ty := (.object "java/lang/Object")) (by decide)
  have F1_depth : Fld Z h1 b1 "java/lang/Throwable" "depth" "I" (.int (0 : Int32)) := D1 (Or.inl (hw _ (List.mem_of_getElem? (i := 216) rfl))) (ty := .int) (by decide)
  refine OwnW.dup X1 (n := 4) d4_3 rfl rfl ?_
  refine OwnW.new X1 (C := "java/lang/StringBuilder") (k := 4) (n := 7) d4_4 (hw _ (List.mem_of_getElem? (i := 29) rfl)) (hw _ (List.mem_of_getElem? (i := 30) rfl)) (hw _ (List.mem_of_getElem? (i := 31) rfl)) (by decide) (by decide) rfl ?_
  intro T2 h2 b2 gb2 X2 E2 A2 D2 U2
  have fk3 := (E1s.keep K1)
  have ne_r0_b2 : r0 ≠ b2 := by rw [gb2]; exact Nat.ne_of_lt fk3.lt
  have fk4 := (A1s.keep K1 nin0)
  have ne_tn_b2 : tn ≠ b2 := by rw [gb2]; exact Nat.ne_of_lt fk4.lt
  have ne_b1_b2 : b1 ≠ b2 := by rw [gb2]; exact Nat.ne_of_lt A1.lt
  have ge_b2 : n0 ≤ b2 := by rw [gb2]; exact OwnW.oldLe O1
  have K2 := (OwnW.kExt E2)
  have O2 := O1.keep K2 all0
  have Z2 : Keep h0 h2 [] := Z1.trans K2 (fun x hx => nomatch hx)
  have sz_b2 : h0.size ≤ b2 := by rw [gb2]; exact Z1.1
  have F2_value : Fld Z h2 b2 "java/lang/AbstractStringBuilder" "value" "[B" .null := D2 (Or.inl (hw _ (List.mem_of_getElem? (i := 44) rfl))) (ty := (.array .byte)) (by decide)
  have F2_coder : Fld Z h2 b2 "java/lang/AbstractStringBuilder" "coder" "B" (.int (0 : Int32)) := D2 (Or.inl (hw _ (List.mem_of_getElem? (i := 46) rfl))) (ty := .byte) (by decide)
  have F2_count : Fld Z h2 b2 "java/lang/AbstractStringBuilder" "count" "I" (.int (0 : Int32)) := D2 (Or.inl (hw _ (List.mem_of_getElem? (i := 70) rfl))) (ty := .int) (by decide)
  have F2_maybeLatin1 : Fld Z h2 b2 "java/lang/AbstractStringBuilder" "maybeLatin1" "Z" (.int (0 : Int32)) := D2 (Or.inl (hw _ (List.mem_of_getElem? (i := 327) rfl))) (ty := .boolean) (by decide)
  refine OwnW.dup X2 (n := 8) d4_7 rfl rfl ?_
  have fk5 := (fk3.keep K2)
  have fk6 := ((F1s.keep K1 nin0).keep K2 nin0)
  have fk7 := ((V1s.keep K1 nin0).keep K2 nin0)
  have fk8 := (fk4.keep K2 nin0)
  have fk9 := ((S0.keep K1 nin0 nin0).keep K2 nin0 nin0)
  have fk10 := (A1.keep K2)
  have fk11 := (U1.keep K2 nin0)
  have fk12 := (F1_cause.keep K2 nin0)
  have fk13 := (F1_stackTrace.keep K2 nin0)
  have fk14 := (F1_suppressedExceptions.keep K2 nin0)
  have fk15 := (F1_detailMessage.keep K2 nin0)
  have fk16 := (F1_backtrace.keep K2 nin0)
  have fk17 := (F1_depth.keep K2 nin0)
  refine OwnW.call_special_n X2 (z := (⟨"java/lang/StringBuilder", "<init>", "()V"⟩ : MethodName)) (a := b2) (n := 11) d4_8 (hw _ (List.mem_of_getElem? (i := 32) rfl)) (hw _ (List.mem_of_getElem? (i := 33) rfl)) (hw _ (List.mem_of_getElem? (i := 34) rfl)) (hw _ (List.mem_of_getElem? (i := 31) rfl)) rfl rfl (by decide) (rm5 l Z a0 hw hE [] b2 h2 n0 O2 ge_b2 A2 _ _ F2_value F2_coder F2_count F2_maybeLatin1 zc hzc S_compact) (OwnW.sfS (List.mem_cons_self ..) OwnW.sf0) (argsL := []) (rest := [(.ref b2), (.ref b1), (.ref b1)]) rfl rfl (OwnW.lenA pd___V rfl) (W := 3) (Nat.le_of_eq rfl) (by decide) (by decide) (by decide) (by decide) rfl ?_
  intro T18 h18 g18 hle18 X18 ⟨k18, t18, z18, b18, a18, m18⟩
  have ne_r0_t18 : r0 ≠ t18 := Nat.ne_of_lt (Nat.lt_of_lt_of_le fk5.lt z18)
  have ne_tn_t18 : tn ≠ t18 := Nat.ne_of_lt (Nat.lt_of_lt_of_le fk8.lt z18)
  have ne_b2_t18 : b2 ≠ t18 := Nat.ne_of_lt (Nat.lt_of_lt_of_le A2.lt z18)
  have ne_b1_t18 : b1 ≠ t18 := Nat.ne_of_lt (Nat.lt_of_lt_of_le fk10.lt z18)
  have ge_t18 : n0 ≤ t18 := Nat.le_trans (OwnW.oldLe O2) z18
  have K18 := k18
  have O18 := O2.keep K18 (allS ge_b2 all0)
  have Z18 : Keep h0 h18 [] := Z2.trans K18 (allS (P := fun x => x ∈ [] ∨ h0.size ≤ x) (Or.inr sz_b2) all0)
  have sz_t18 : h0.size ≤ t18 := Nat.le_trans Z2.1 z18
  refine OwnW.ldcS X18 (bs := (own_pre.map Int32.ofNat).map lo8) (nn := 156) (text := "no component is declared with the name ") (n := 13) d4_11 (hw _ (List.mem_of_getElem? (i := 47) rfl)) (fun d hd => hw d ((by decide +kernel : ∀ d ∈ Bundle.stringAtoms, d ∈ tables_1) d hd)) (by decide) ⟨by decide, rfl⟩ (by decide) (by decide) (by decide) (by decide) (by decide) rfl ?_
  intro T19 h19 l19 t19 X19 E19 e19 c19 v19 a19 n19
  have K19 := (OwnW.kExt E19)
  have O19 := O18.keep K19 all0
  have Z19 : Keep h0 h19 [] := Z18.trans K19 (fun x hx => nomatch hx)
  have nl_b2 := n19 b2 (List.mem_append_left _ (List.mem_cons_self ..))
  have nl_b1 := n19 b1 (List.mem_append_left _ (List.mem_cons_of_mem _ (List.mem_cons_self ..)))
  have fk20 := ((fk5.keep K18).keep K19)
  have fk21 := ((fk6.keep K18 (ninS ne_r0_b2 nin0)).keep K19 nin0)
  have fk22 := ((fk7.keep K18 (ninS ne_r0_b2 nin0)).keep K19 nin0)
  have fk23 := ((fk8.keep K18 (ninS ne_tn_b2 nin0)).keep K19 nin0)
  have fk24 := ((fk9.keep K18 (ninS ne_r0_b2 nin0) (ninS ne_tn_b2 nin0)).keep K19 nin0 nin0)
  have fk25 := ((fk10.keep K18).keep K19)
  have fk26 := ((fk11.keep K18 (ninS ne_b1_b2 nin0)).keep K19 nin0)
  have fk27 := ((fk12.keep K18 (ninS ne_b1_b2 nin0)).keep K19 nin0)
  have fk28 := ((fk13.keep K18 (ninS ne_b1_b2 nin0)).keep K19 nin0)
  have fk29 := ((fk14.keep K18 (ninS ne_b1_b2 nin0)).keep K19 nin0)
  have fk30 := ((fk15.keep K18 (ninS ne_b1_b2 nin0)).keep K19 nin0)
  have fk31 := ((fk16.keep K18 (ninS ne_b1_b2 nin0)).keep K19 nin0)
  have fk32 := ((fk17.keep K18 (ninS ne_b1_b2 nin0)).keep K19 nin0)
  have fk33 := (b18.1.keep K19)
  have fk34 := (b18.2.1.keep K19 nin0)
  have fk35 := (b18.2.2.1.keep K19 nin0)
  have fk36 := (b18.2.2.2.1.keep K19 nin0)
  have fk37 := (b18.2.2.2.2.keep K19 nin0)
  have fk38 := (a18.keep K19 nin0)
  refine OwnW.call_virtual_v X19 (z := (⟨"java/lang/StringBuilder", "append", "(Ljava/lang/String;)Ljava/lang/StringBuilder;"⟩ : MethodName)) (yv := (⟨"java/lang/StringBuilder", "append", "(Ljava/lang/String;)Ljava/lang/StringBuilder;"⟩ : MethodName)) (a := b2) (C := "java/lang/StringBuilder") (n := 16) d4_13 (hw _ (List.mem_of_getElem? (i := 48) rfl)) (hw _ (List.mem_of_getElem? (i := 49) rfl)) (hw _ (List.mem_of_getElem? (i := 50) rfl)) (hw _ (List.mem_of_getElem? (i := 51) rfl)) (fun hz => notFace_of_selects (args := #[]) (mvT hz (hw _ (List.mem_of_getElem? (i := 51) rfl)))) (hw _ (List.mem_of_getElem? (i := 52) rfl)) (hw _ (List.mem_of_getElem? (i := 31) rfl)) (by decide) fk33 (rm7l l Z a0 hw hE [] b2 l19 h19 n0 O19 t19 own_pre (by decide) e19 c19 v19 a19 0 23 (List.replicate 16 (Value.int 0)) (by decide) (by decide) (by decide) (by decide) t18 ⟨fk33, fk34, fk35, fk36, fk37⟩ fk38 ge_b2 ne_b2_t18 nl_b2.1 nl_b2.2 (Or.inl ⟨own_preall, e19, c19, v19, a19⟩) zc hzc S_compact) (OwnW.sfS (List.mem_append_left _ (List.mem_cons_self ..)) OwnW.sf0) (argsL := [(.ref l19)]) (rest := [(.ref b1), (.ref b1)]) rfl rfl (OwnW.lenA pd__Ljava_lang_String__Ljava_lang_StringBuilder_ rfl) (W := 2) (Nat.le_of_eq rfl) (by decide) (by decide) (by decide) (by decide) rfl ?_
  intro T39 h39 w39 g39 hle39 X39 ⟨q1, k39, t39, z39, b39, a39, ex39, m39⟩
  subst q1
  have ne_r0_t39 : r0 ≠ t39 := Nat.ne_of_lt (Nat.lt_of_lt_of_le fk20.lt z39)
  have ne_tn_t39 : tn ≠ t39 := Nat.ne_of_lt (Nat.lt_of_lt_of_le fk23.lt z39)
  have ne_b2_t39 : b2 ≠ t39 := Nat.ne_of_lt (Nat.lt_of_lt_of_le fk33.lt z39)
  have ne_b1_t39 : b1 ≠ t39 := Nat.ne_of_lt (Nat.lt_of_lt_of_le fk25.lt z39)
  have ge_t39 : n0 ≤ t39 := Nat.le_trans (OwnW.oldLe O19) z39
  have K39 := k39
  have O39 := O19.keep K39 (allS ge_b2 all0)
  have Z39 : Keep h0 h39 [] := Z19.trans K39 (allS (P := fun x => x ∈ [] ∨ h0.size ≤ x) (Or.inr sz_b2) all0)
  have sz_t39 : h0.size ≤ t39 := Nat.le_trans Z19.1 z39
  replace b39 : own_B Z h39 b2 t39 0 (Int32.ofNat 39) := b39
  rw [own_V1] at a39
  have hlen39 : (own_lb own_pre).length = 39 := rfl
  refine OwnW.aloadN X39 (n := 17) d4_16 rfl rfl rfl ?_
  have fk40 := (fk20.keep K39)
  have fk41 := (fk21.keep K39 (ninS ne_r0_b2 nin0))
  have fk42 := (fk22.keep K39 (ninS ne_r0_b2 nin0))
  have fk43 := (fk23.keep K39 (ninS ne_tn_b2 nin0))
  have fk44 := (fk24.keep K39 (ninS ne_r0_b2 nin0) (ninS ne_tn_b2 nin0))
  have fk45 := (fk25.keep K39)
  have fk46 := (fk26.keep K39 (ninS ne_b1_b2 nin0))
  have fk47 := (fk27.keep K39 (ninS ne_b1_b2 nin0))
  have fk48 := (fk28.keep K39 (ninS ne_b1_b2 nin0))
  have fk49 := (fk29.keep K39 (ninS ne_b1_b2 nin0))
  have fk50 := (fk30.keep K39 (ninS ne_b1_b2 nin0))
  have fk51 := (fk31.keep K39 (ninS ne_b1_b2 nin0))
  have fk52 := (fk32.keep K39 (ninS ne_b1_b2 nin0))
  refine OwnW.call_virtual_v X39 (z := (⟨"java/lang/StringBuilder", "append", "(Ljava/lang/String;)Ljava/lang/StringBuilder;"⟩ : MethodName)) (yv := (⟨"java/lang/StringBuilder", "append", "(Ljava/lang/String;)Ljava/lang/StringBuilder;"⟩ : MethodName)) (a := b2) (C := "java/lang/StringBuilder") (n := 20) d4_17 (hw _ (List.mem_of_getElem? (i := 48) rfl)) (hw _ (List.mem_of_getElem? (i := 49) rfl)) (hw _ (List.mem_of_getElem? (i := 50) rfl)) (hw _ (List.mem_of_getElem? (i := 51) rfl)) (fun hz => notFace_of_selects (args := #[]) (mvT hz (hw _ (List.mem_of_getElem? (i := 51) rfl)))) (hw _ (List.mem_of_getElem? (i := 52) rfl)) (hw _ (List.mem_of_getElem? (i := 31) rfl)) (by decide) b39.1 (rm7e l Z a0 hw hE [] b2 r0 h39 n0 O39 tn us (by omega) fk40 fk41 fk42 fk43 39 (own_lb own_pre) (by omega) (by omega) h0l t39 ⟨b39.1, b39.2.1, b39.2.2.1, b39.2.2.2.1, b39.2.2.2.2⟩ a39 ge_t39 ne_tn_t39 ne_r0_t39 ge_b2 ne_b2_t39 (Ne.symm ne_r0_b2) (Ne.symm ne_tn_b2) fk44 zc hzc S_compact) (OwnW.sfS (List.mem_append_left _ (List.mem_append_left _ (List.mem_cons_self ..))) (OwnW.sfS (List.mem_append_right _ m39) OwnW.sf0)) (argsL := [(.ref r0)]) (rest := [(.ref b1), (.ref b1)]) rfl rfl (OwnW.lenA pd__Ljava_lang_String__Ljava_lang_StringBuilder_ rfl) (W := 2) (Nat.le_of_eq rfl) (by decide) (by decide) (by decide) (by decide) rfl ?_
  intro T53 h53 w53 g53 hle53 X53 ⟨q1, k53, b53, a53⟩
  subst q1
  have K53 := k53
  have O53 := O39.keep K53 (allS ge_b2 (allS ge_t39 all0))
  have Z53 : Keep h0 h53 [] := Z39.trans K53 (allS (P := fun x => x ∈ [] ∨ h0.size ≤ x) (Or.inr sz_b2) (allS (P := fun x => x ∈ [] ∨ h0.size ≤ x) (Or.inr sz_t39) all0))
  have fk54 := (fk40.keep K53)
  have fk55 := (fk41.keep K53 (ninS ne_r0_b2 (ninS ne_r0_t39 nin0)))
  have fk56 := (fk42.keep K53 (ninS ne_r0_b2 (ninS ne_r0_t39 nin0)))
  have fk57 := (fk43.keep K53 (ninS ne_tn_b2 (ninS ne_tn_t39 nin0)))
  have fk58 := (fk44.keep K53 (ninS ne_r0_b2 (ninS ne_r0_t39 nin0)) (ninS ne_tn_b2 (ninS ne_tn_t39 nin0)))
  have fk59 := (fk45.keep K53)
  have fk60 := (fk46.keep K53 (ninS ne_b1_b2 (ninS ne_b1_t39 nin0)))
  have fk61 := (fk47.keep K53 (ninS ne_b1_b2 (ninS ne_b1_t39 nin0)))
  have fk62 := (fk48.keep K53 (ninS ne_b1_b2 (ninS ne_b1_t39 nin0)))
  have fk63 := (fk49.keep K53 (ninS ne_b1_b2 (ninS ne_b1_t39 nin0)))
  have fk64 := (fk50.keep K53 (ninS ne_b1_b2 (ninS ne_b1_t39 nin0)))
  have fk65 := (fk51.keep K53 (ninS ne_b1_b2 (ninS ne_b1_t39 nin0)))
  have fk66 := (fk52.keep K53 (ninS ne_b1_b2 (ninS ne_b1_t39 nin0)))
  have fk67 := (ex39.keep K53)
  refine OwnW.call_virtual_v X53 (z := (⟨"java/lang/StringBuilder", "toString", "()Ljava/lang/String;"⟩ : MethodName)) (yv := (⟨"java/lang/StringBuilder", "toString", "()Ljava/lang/String;"⟩ : MethodName)) (a := b2) (C := "java/lang/StringBuilder") (n := 23) d4_20 (hw _ (List.mem_of_getElem? (i := 119) rfl)) (hw _ (List.mem_of_getElem? (i := 120) rfl)) (hw _ (List.mem_of_getElem? (i := 121) rfl)) (hw _ (List.mem_of_getElem? (i := 122) rfl)) (fun hz => notFace_of_selects (args := #[]) (mvT hz (hw _ (List.mem_of_getElem? (i := 122) rfl)))) (hw _ (List.mem_of_getElem? (i := 123) rfl)) (hw _ (List.mem_of_getElem? (i := 31) rfl)) (by decide) b53.1 (rm20f l Z a0 hw hE [] b2 h53 n0 O53 t39 (own_lb own_pre) (39 + us.length) (by omega) fk67 (by simp [own_lb_len, own_ub_len, own_pre]; try omega) ⟨b53.1, b53.2.1, b53.2.2.1, b53.2.2.2.1, b53.2.2.2.2⟩ a53 zc hzc S_compact) OwnW.sf0 (argsL := []) (rest := [(.ref b1), (.ref b1)]) rfl rfl (OwnW.lenA pd___Ljava_lang_String_ rfl) (W := 2) (Nat.le_of_eq rfl) (by decide) (by decide) (by decide) (by decide) rfl ?_
  intro T68 h68 w68 g68 hle68 X68 ⟨x68, y68, q1, k68, zx68, zy68, e68, c68, v68, a68⟩
  subst q1
  have ne_b1_x68 : b1 ≠ x68 := Nat.ne_of_lt (Nat.lt_of_lt_of_le fk59.lt zx68)
  have ne_b1_y68 : b1 ≠ y68 := Nat.ne_of_lt (Nat.lt_of_lt_of_le fk59.lt zy68)
  have K68 := k68
  have O68 := O53.keep K68 all0
  have Z68 : Keep h0 h68 [] := Z53.trans K68 (fun x hx => nomatch hx)
  rw [← own_V3e us h0l] at a68
  have sU68 : own_U Z h68 x68 y68 (own_pre ++ us) := Or.inl ⟨own_preA us hall, e68, c68, v68, a68⟩
  have fk69 := (fk54.keep K68)
  have fk70 := (fk55.keep K68 nin0)
  have fk71 := (fk56.keep K68 nin0)
  have fk72 := (fk57.keep K68 nin0)
  have fk73 := (fk58.keep K68 nin0 nin0)
  have fk74 := (fk59.keep K68)
  have fk75 := (fk60.keep K68 nin0)
  have fk76 := (fk61.keep K68 nin0)
  have fk77 := (fk62.keep K68 nin0)
  have fk78 := (fk63.keep K68 nin0)
  have fk79 := (fk64.keep K68 nin0)
  have fk80 := (fk65.keep K68 nin0)
  have fk81 := (fk66.keep K68 nin0)
  have fk82 := (b53.1.keep K68)
  have fk83 := (b53.2.1.keep K68 nin0)
  have fk84 := (b53.2.2.1.keep K68 nin0)
  have fk85 := (b53.2.2.2.1.keep K68 nin0)
  have fk86 := (b53.2.2.2.2.keep K68 nin0)
  have fk87 := (a53.keep K68 nin0)
  have fk88 := (fk67.keep K68)
  refine OwnW.call_special_n X68 (z := (⟨"java/lang/IllegalArgumentException", "<init>", "(Ljava/lang/String;)V"⟩ : MethodName)) (a := b1) (n := 26) d4_23 (hw _ (List.mem_of_getElem? (i := 161) rfl)) (hw _ (List.mem_of_getElem? (i := 162) rfl)) (hw _ (List.mem_of_getElem? (i := 163) rfl)) (hw _ (List.mem_of_getElem? (i := 28) rfl)) rfl rfl (by decide) (rm28 l Z a0 hw hE [] b1 x68 h68 n0 O68 xu xs S_us S_ss hst (ThS.keep Z68 (fun _ q => nomatch q) TS0) ge_b1 fk74 fk75 _ _ _ fk76 fk77 fk78 fk79 fk80) (OwnW.sfS (List.mem_append_left _ (List.mem_append_left _ (List.mem_append_left _ (List.mem_append_left _ (List.mem_cons_of_mem _ (List.mem_cons_self ..)))))) OwnW.sf0) (argsL := [(.ref x68)]) (rest := [(.ref b1)]) rfl rfl (OwnW.lenA pd__Ljava_lang_String__V rfl) (W := 1) (Nat.le_of_eq rfl) (by decide) (by decide) (by decide) (by decide) rfl ?_
  intro T89 h89 g89 hle89 X89 ⟨k89, un89, fc89, fm89⟩
  have K89 := k89
  have O89 := O68.keep K89 (allS ge_b1 all0)
  have Z89 : Keep h0 h89 [] := Z68.trans K89 (allS (P := fun x => x ∈ [] ∨ h0.size ≤ x) (Or.inr sz_b1) all0)
  have fk90 := (fk74.keep K89)
  have fk91 := (sU68.keep K89 (ninS (Ne.symm ne_b1_x68) nin0) (ninS (Ne.symm ne_b1_y68) nin0))
  exact OwnW.areturn X89 rfl rfl rfl d4_26 ⟨_, x68, y68, rfl, Z89, sz_b1, fk90, un89, fm89, fc89, fk91⟩ (by decide) (by decide)
theorem rm4A (l : Launch) (Z : State) (a0 : Array Value) (hw : ∀ d ∈ tables_1, d.before a0 Z = true) (hE : EW Z a0 own_EL) (ws : List Jvm.Cond) (r0 : Addr) (h0 : Heap) (n0 : Nat) (O0 : Old Z n0 h0) (tn : Addr) (us : List Nat) (hu3 : us.length ≤ 3) (hu : ∀ u ∈ us, u ≤ 65535) (S0 : own_U Z h0 r0 tn us) (zc : Int32) (hzc : ¬ zc = 0) (S_compact : Sta Z Z.heap "java/lang/String" "COMPACT_STRINGS" "Z" (.int zc)) (fm : Value) (hfm : fm = .null ∨ ∃ r, fm = .ref r) (S_fm : Sta Z Z.heap "jdk/internal/util/Preconditions" "SIOOBE_FORMATTER" "Ljava/util/function/BiFunction;" fm) (S_ad : Sta Z Z.heap "java/lang/StringUTF16" "$assertionsDisabled" "Z" (.int 1)) (S_hi : Sta Z Z.heap "java/lang/StringUTF16" "HI_BYTE_SHIFT" "I" (.int 0)) (S_lo : Sta Z Z.heap "java/lang/StringUTF16" "LO_BYTE_SHIFT" "I" (.int 8)) (xu xs : Addr) (S_us : Sta Z Z.heap "java/lang/Throwable" "UNASSIGNED_STACK" "[Ljava/lang/StackTraceElement;" (.ref xu)) (S_ss : Sta Z Z.heap "java/lang/Throwable" "SUPPRESSED_SENTINEL" "Ljava/util/List;" (.ref xs)) (hst : l.stackTraces = true) (TS0 : ThS Z h0)  : Ctr True l Z own_EL (⟨"com/example/conversation_framework/conversationframework/Component", "undeclared", "(Ljava/lang/String;)Ljava/lang/IllegalArgumentException;"⟩ : MethodName) prog_1_method_12_code 1 (some (.object "java/lang/IllegalArgumentException")) ws ({ frames := 10, cells := 11, slots := 3422, locals := 145 } : Room) n0 [] #[(.ref r0)] h0 (Rt (fun w h g => ∃ x m t, w = .ref x ∧ Keep h0 h [] ∧ h0.size ≤ x ∧ Exa Z h x "java/lang/IllegalArgumentException" ∧ Unt h x ∧ Fld Z h x "java/lang/Throwable" "detailMessage" "Ljava/lang/String;" (.ref m) ∧ Fld Z h x "java/lang/Throwable" "cause" "Ljava/lang/Throwable;" (.ref x) ∧ own_U Z h m t (own_pre ++ us))) := by
  have S1 := S0
  rcases S0 with ⟨qa, S⟩ | ⟨qa, E, F2, F1, A⟩
  · by_cases hz : us.length = 0
    · exact rm4e l Z a0 hw hE ws r0 h0 n0 O0 tn us hu3 hu S1 hz qa S.1 S.2.1 S.2.2.1 S.2.2.2 zc hzc S_compact fm hfm S_fm S_ad S_hi S_lo xu xs S_us S_ss hst TS0
    · exact rm4l l Z a0 hw hE ws r0 h0 n0 O0 tn us hu3 hu S1 (by omega) qa S.1 S.2.1 S.2.2.1 S.2.2.2 zc hzc S_compact fm hfm S_fm S_ad S_hi S_lo xu xs S_us S_ss hst TS0
  · have hpos : 0 < us.length := by
      rcases Nat.eq_zero_or_pos us.length with z | z
      · have e : us = [] := List.length_eq_zero_iff.mp z
        subst e
        exact absurd (fun _ q => nomatch q) qa
      · exact z
    exact rm4u l Z a0 hw hE ws r0 h0 n0 O0 tn us hu3 hu S1 hpos qa E F2 F1 A zc hzc S_compact fm hfm S_fm S_ad S_hi S_lo xu xs S_us S_ss hst TS0
theorem d34_0 : decode jdk_78_method_6_code 0 = .ok (.aload_n 0, 1) := by decide +kernel
theorem d34_1 : decode jdk_78_method_6_code 1 = .ok (.getfield 31, 3) := by decide +kernel
theorem d34_4 : decode jdk_78_method_6_code 4 = .ok (.areturn, 1) := by decide +kernel
theorem ef_rm34 (m : MethodId) (x0 : Addr) : entryFrame m #[(.ref x0)] 1 = mkF m 0 #[.val (.ref x0)] [] := by first | (simp [entryFrame, mkF, argsToLocals, Value.category]; done) | rfl
set_option maxRecDepth 65536 in
set_option maxHeartbeats 40000000 in
theorem rm34 {kn : Prop} (l : Launch) (Z : State) (a0 : Array Value) (hw : ∀ d ∈ tables_1, d.before a0 Z = true) (hE : EW Z a0 own_EL) (ws : List Jvm.Cond) (r0 : Addr) (h0 : Heap) (n0 : Nat) (mm : Addr) (F0 : Fld Z h0 r0 "java/lang/Throwable" "detailMessage" "Ljava/lang/String;" (.ref mm)) :
    Ctr kn l Z own_EL (⟨"java/lang/Throwable", "getMessage", "()Ljava/lang/String;"⟩ : MethodName) jdk_78_method_6_code 1 (some (.object "java/lang/String")) ws ({ frames := 0, cells := 0, slots := 0, locals := 0 } : Room) n0 ([]) #[(.ref r0)] h0 (Rt (fun w h g => w = .ref mm ∧ h0 = h)) := by
  refine Ctr.of (plainFor_of_name pn_java_lang_Throwable) hE (fun m => ef_rm34 m r0) ?_
  intro p e s m below meth c T0 X0
  refine OwnW.aloadN X0 (n := 1) d34_0 rfl rfl rfl ?_
  refine OwnW.getfield X0 (n := 4) d34_1 (hw _ (List.mem_of_getElem? (i := 218) rfl)) Via.refl F0 rfl ?_
  intro T1 X1
  exact OwnW.areturn X1 rfl rfl rfl d34_4 ⟨rfl, rfl⟩ (by decide) (by decide)

theorem own_lo8_inj {x y : Int32} (a0 : ¬ x < 0) (a1 : ¬ 255 < x) (b0 : ¬ y < 0) (b1 : ¬ 255 < y) (h : lo8 x = lo8 y) : x = y := by
  have e : (255 : Int32).toInt = 255 := rfl
  have e0 : (0 : Int32).toInt = 0 := rfl
  rw [Int32.lt_iff_toInt_lt] at a0 a1 b0 b1
  rw [e] at a1 b1
  rw [e0] at a0 b0
  have h1 := c_i2b x
  have h2 := c_i2b y
  have h3 : x.toInt8.toInt32.toInt = y.toInt8.toInt32.toInt := congrArg Int32.toInt h
  apply Int32.toInt_inj.mp
  omega
def Lat (cs : List Int32) : Prop := ∀ c ∈ cs, ¬ c < 0 ∧ ¬ 255 < c
theorem own_map_inj : ∀ {cs ds : List Int32}, Lat cs → Lat ds → cs.map lo8 = ds.map lo8 → cs = ds
  | [], [], _, _, _ => rfl
  | [], _ :: _, _, _, h => by simp at h
  | _ :: _, [], _, _, h => by simp at h
  | a :: cs, b :: ds, ha, hb, h => by
    simp only [List.map_cons, List.cons.injEq] at h
    have h1 := ha a (List.mem_cons_self ..)
    have h2 := hb b (List.mem_cons_self ..)
    rw [own_lo8_inj h1.1 h1.2 h2.1 h2.2 h.1, own_map_inj (fun c hc => ha c (List.mem_cons_of_mem _ hc)) (fun c hc => hb c (List.mem_cons_of_mem _ hc)) h.2]
theorem own_map_iff {cs ds : List Int32} (hc : Lat cs) (hd : Lat ds) : cs.map lo8 = ds.map lo8 ↔ cs = ds := ⟨own_map_inj hc hd, fun h => by rw [h]⟩
theorem own_ext {as bs : List Int32} (hl : as.length = bs.length) (h : ∀ j, j < as.length → as.getD j 0 = bs.getD j 0) : as = bs := by
  apply List.ext_getElem hl
  intro i h1 h2
  have q := h i h1
  simpa [List.getD, h1, h2] using q
theorem ark_inj {Z : State} {h : Heap} {t : Addr} {ty : FieldType} {as bs : List Int32} (A : Ark Z h t ty (as.map Value.int)) (B : Ark Z h t ty (bs.map Value.int)) : as = bs := by
  obtain ⟨c1, A1, a2, -⟩ := A
  obtain ⟨c2, B1, b2, -⟩ := B
  cases A1.1.symm.trans B1.1
  have e : as.map Value.int = bs.map Value.int := by simpa using congrArg Array.toList (a2.symm.trans b2)
  exact List.map_inj_right (f := Value.int) (fun _ _ q => Value.int.inj q) |>.mp e
theorem fld_fun {Z : State} {h : Heap} {a : Addr} {C n d : String} {v w : Value} (F : Fld Z h a C n d v) (G : Fld Z h a C n d w) : v = w := Classical.byContradiction fun q => Fld.ne F G q rfl
theorem StrL.eq {Z : State} {h : Heap} {x t u : Addr} {cs ds : List Int32} (S : StrL Z h x t cs) (S' : StrL Z h x u ds) : cs.map lo8 = ds.map lo8 := by
  have e := fld_fun S.2.2.1 S'.2.2.1
  cases e
  exact ark_inj S.2.2.2 S'.2.2.2

theorem d36_0 : decode jdk_43_method_13_code 0 = .ok (.aload_n 0, 1) := by decide +kernel
theorem d36_1 : decode jdk_43_method_13_code 1 = .ok (.arraylength, 1) := by decide +kernel
theorem d36_2 : decode jdk_43_method_13_code 2 = .ok (.aload_n 1, 1) := by decide +kernel
theorem d36_3 : decode jdk_43_method_13_code 3 = .ok (.arraylength, 1) := by decide +kernel
theorem d36_4 : decode jdk_43_method_13_code 4 = .ok (.if_icmp .ne 30, 3) := by decide +kernel
theorem d36_7 : decode jdk_43_method_13_code 7 = .ok (.iconst 0, 1) := by decide +kernel
theorem d36_8 : decode jdk_43_method_13_code 8 = .ok (.istore_n 2, 1) := by decide +kernel
theorem d36_9 : decode jdk_43_method_13_code 9 = .ok (.iload_n 2, 1) := by decide +kernel
theorem d36_10 : decode jdk_43_method_13_code 10 = .ok (.aload_n 0, 1) := by decide +kernel
theorem d36_11 : decode jdk_43_method_13_code 11 = .ok (.arraylength, 1) := by decide +kernel
theorem d36_12 : decode jdk_43_method_13_code 12 = .ok (.if_icmp .ge 20, 3) := by decide +kernel
theorem d36_15 : decode jdk_43_method_13_code 15 = .ok (.aload_n 0, 1) := by decide +kernel
theorem d36_16 : decode jdk_43_method_13_code 16 = .ok (.iload_n 2, 1) := by decide +kernel
theorem d36_17 : decode jdk_43_method_13_code 17 = .ok (.baload, 1) := by decide +kernel
theorem d36_18 : decode jdk_43_method_13_code 18 = .ok (.aload_n 1, 1) := by decide +kernel
theorem d36_19 : decode jdk_43_method_13_code 19 = .ok (.iload_n 2, 1) := by decide +kernel
theorem d36_20 : decode jdk_43_method_13_code 20 = .ok (.baload, 1) := by decide +kernel
theorem d36_21 : decode jdk_43_method_13_code 21 = .ok (.if_icmp .eq 5, 3) := by decide +kernel
theorem d36_24 : decode jdk_43_method_13_code 24 = .ok (.iconst 0, 1) := by decide +kernel
theorem d36_25 : decode jdk_43_method_13_code 25 = .ok (.ireturn, 1) := by decide +kernel
theorem d36_26 : decode jdk_43_method_13_code 26 = .ok (.iinc 2 1, 3) := by decide +kernel
theorem d36_29 : decode jdk_43_method_13_code 29 = .ok (.goto (-20), 3) := by decide +kernel
theorem d36_32 : decode jdk_43_method_13_code 32 = .ok (.iconst 1, 1) := by decide +kernel
theorem d36_33 : decode jdk_43_method_13_code 33 = .ok (.ireturn, 1) := by decide +kernel
theorem d36_34 : decode jdk_43_method_13_code 34 = .ok (.iconst 0, 1) := by decide +kernel
theorem d36_35 : decode jdk_43_method_13_code 35 = .ok (.ireturn, 1) := by decide +kernel
theorem ef_rm36 (m : MethodId) (x0 : Addr) (x1 : Addr) : entryFrame m #[(.ref x0), (.ref x1)] 3 = mkF m 0 #[.val (.ref x0), .val (.ref x1), .unset] [] := by first | (simp [entryFrame, mkF, argsToLocals, Value.category]; done) | rfl
set_option maxRecDepth 65536 in
set_option maxHeartbeats 40000000 in
theorem rm36 {kn : Prop} (l : Launch) (Z : State) (a0 : Array Value) (hw : ∀ d ∈ tables_1, d.before a0 Z = true) (hE : EW Z a0 own_EL) (ws : List Jvm.Cond) (r0 : Addr) (r1 : Addr) (h0 : Heap) (n0 : Nat) (as bs : List Int32) (A0 : Ark Z h0 r0 .byte (as.map Value.int)) (A1 : Ark Z h0 r1 .byte (bs.map Value.int)) :
    Ctr kn l Z own_EL (⟨"java/lang/StringLatin1", "equals", "([B[B)Z"⟩ : MethodName) jdk_43_method_13_code 3 (some .boolean) ws ({ frames := 0, cells := 0, slots := 0, locals := 0 } : Room) n0 ([]) #[(.ref r0), (.ref r1)] h0 (Rt (fun w h g => w = .int (if as = bs then 1 else 0) ∧ h0 = h)) := by
  refine Ctr.of (plainFor_of_name pn_java_lang_StringLatin1) hE (fun m => ef_rm36 m r0 r1) ?_
  intro p e s m below meth c T0 X0
  refine OwnW.aloadN X0 (n := 1) d36_0 rfl rfl rfl ?_
  refine OwnW.arraylength X0 (z := Int32.ofNat as.length) (n := 2) d36_1 A0 (by simp) rfl ?_
  refine OwnW.aloadN X0 (n := 3) d36_2 rfl rfl rfl ?_
  refine OwnW.arraylength X0 (z := Int32.ofNat bs.length) (n := 4) d36_3 A1 (by simp) rfl ?_
  refine OwnW.ic_ne X0  (n1 := 34) (n2 := 7) d36_4 (by decide) rfl rfl (fun hc4 => ?_) (fun hc4 => ?_)
  · refine OwnW.iconst X0 (z := (0 : Int32)) (n := 35) d36_34 rfl rfl ?_
    exact OwnW.ireturn X0 rfl (Or.inr (Or.inl rfl)) rfl d36_35 ⟨by rw [if_neg (fun q => hc4 (by rw [q]))], rfl⟩ (by decide) (by decide)
  · refine OwnW.iconst X0 (z := (0 : Int32)) (n := 8) d36_7 rfl rfl ?_
    refine OwnW.istoreN X0 (l' := #[.val (.ref r0), .val (.ref r1), .val (.int (0 : Int32))]) (n := 9) d36_8 rfl rfl ?_
    have hla : as.length < 2147483648 := by simpa using A0.len
    have hlb : bs.length < 2147483648 := by simpa using A1.len
    have hl : as.length = bs.length := (own_eqn hla hlb).mp hc4
    refine OwnW.loopT X0 (fun (v : Nat) h' => v ≤ as.length ∧ h0 = h' ∧ ∀ j, j < v → as.getD j 0 = bs.getD j 0) (fun v => as.length - v) (fun v => mkF m 9 #[.val (.ref r0), .val (.ref r1), .val (.int (Int32.ofNat v))] []) ?_ _ _ 0 X0 ⟨Nat.zero_le _, rfl, fun j hj => absurd hj (Nat.not_lt_zero _)⟩
    intro T1 h1 i X1 ⟨hi, hh, hj⟩ IH
    subst hh
    have hii : i < 2147483648 := by omega
    refine OwnW.iloadN X1 (n := 10) d36_9 rfl rfl ?_
    refine OwnW.aloadN X1 (n := 11) d36_10 rfl rfl rfl ?_
    refine OwnW.arraylength X1 (z := Int32.ofNat as.length) (n := 12) d36_11 A0 (by simp) rfl ?_
    refine OwnW.ic_ge X1  (n1 := 32) (n2 := 15) d36_12 (by decide) rfl rfl (fun hc12 => ?_) (fun hc12 => ?_)
    · refine OwnW.iconst X1 (z := (1 : Int32)) (n := 33) d36_32 rfl rfl ?_
      exact OwnW.ireturn X1 rfl (Or.inr (Or.inl rfl)) rfl d36_33 ⟨by rw [if_pos (own_ext hl (fun j q => hj j (by have := mt (own_lt hii hla).mpr hc12; omega)))], rfl⟩ (by decide) (by decide)
    · refine OwnW.aloadN X1 (n := 16) d36_15 rfl rfl rfl ?_
      refine OwnW.iloadN X1 (n := 17) d36_16 rfl rfl ?_
      have hlt : i < as.length := (own_lt hii hla).mp hc12
      have hlt2 : i < bs.length := by omega
      refine OwnW.baload X1 (i := i) (v := (.int (as.getD i 0))) (n := 18) d36_17 A0 (own_nat hii) (own_get as hlt) rfl ?_
      refine OwnW.aloadN X1 (n := 19) d36_18 rfl rfl rfl ?_
      refine OwnW.iloadN X1 (n := 20) d36_19 rfl rfl ?_
      refine OwnW.baload X1 (i := i) (v := (.int (bs.getD i 0))) (n := 21) d36_20 A1 (own_nat hii) (own_get bs hlt2) rfl ?_
      refine OwnW.ic_eq X1  (n1 := 26) (n2 := 24) d36_21 (by decide) rfl rfl (fun hc21 => ?_) (fun hc21 => ?_)
      · refine OwnW.iinc X1 (z := (1 : Int32)) (u := (Int32.ofNat (i + 1))) (l' := #[.val (.ref r0), .val (.ref r1), .val (.int (Int32.ofNat (i + 1)))]) (n := 29) d36_26 rfl rfl (own_up i) rfl rfl ?_
        refine OwnW.goto X1 (n := 9) d36_29 (by decide) rfl ?_
        exact IH _ _ (i + 1) (by omega) X1 ⟨hlt, rfl, fun j q => (Nat.lt_succ_iff_lt_or_eq.mp q).elim (hj j) (fun z => z ▸ hc21)⟩
      · refine OwnW.iconst X1 (z := (0 : Int32)) (n := 25) d36_24 rfl rfl ?_
        exact OwnW.ireturn X1 rfl (Or.inr (Or.inl rfl)) rfl d36_25 ⟨by rw [if_neg (fun q => hc21 (by rw [q]))], rfl⟩ (by decide) (by decide)
theorem pd___B_B_Z : parseMethodDescriptor "([B[B)Z" = some ⟨[(.array .byte), (.array .byte)], some .boolean⟩ := by decide +kernel
theorem d35_0 : decode jdk_42_method_66_code 0 = .ok (.aload_n 0, 1) := by decide +kernel
theorem d35_1 : decode jdk_42_method_66_code 1 = .ok (.aload_n 1, 1) := by decide +kernel
theorem d35_2 : decode jdk_42_method_66_code 2 = .ok (.if_acmp .ne 5, 3) := by decide +kernel
theorem d35_5 : decode jdk_42_method_66_code 5 = .ok (.iconst 1, 1) := by decide +kernel
theorem d35_6 : decode jdk_42_method_66_code 6 = .ok (.ireturn, 1) := by decide +kernel
theorem d35_7 : decode jdk_42_method_66_code 7 = .ok (.aload_n 1, 1) := by decide +kernel
theorem d35_8 : decode jdk_42_method_66_code 8 = .ok (.instanceof 10, 3) := by decide +kernel
theorem d35_11 : decode jdk_42_method_66_code 11 = .ok (.ifCond .eq 43, 3) := by decide +kernel
theorem d35_14 : decode jdk_42_method_66_code 14 = .ok (.aload_n 1, 1) := by decide +kernel
theorem d35_15 : decode jdk_42_method_66_code 15 = .ok (.checkcast 10, 3) := by decide +kernel
theorem d35_18 : decode jdk_42_method_66_code 18 = .ok (.astore_n 2, 1) := by decide +kernel
theorem d35_19 : decode jdk_42_method_66_code 19 = .ok (.getstatic 38, 3) := by decide +kernel
theorem d35_22 : decode jdk_42_method_66_code 22 = .ok (.ifCond .eq 14, 3) := by decide +kernel
theorem d35_25 : decode jdk_42_method_66_code 25 = .ok (.aload_n 0, 1) := by decide +kernel
theorem d35_26 : decode jdk_42_method_66_code 26 = .ok (.getfield 15, 3) := by decide +kernel
theorem d35_29 : decode jdk_42_method_66_code 29 = .ok (.aload_n 2, 1) := by decide +kernel
theorem d35_30 : decode jdk_42_method_66_code 30 = .ok (.getfield 15, 3) := by decide +kernel
theorem d35_33 : decode jdk_42_method_66_code 33 = .ok (.if_icmp .ne 21, 3) := by decide +kernel
theorem d35_36 : decode jdk_42_method_66_code 36 = .ok (.aload_n 0, 1) := by decide +kernel
theorem d35_37 : decode jdk_42_method_66_code 37 = .ok (.getfield 9, 3) := by decide +kernel
theorem d35_40 : decode jdk_42_method_66_code 40 = .ok (.aload_n 2, 1) := by decide +kernel
theorem d35_41 : decode jdk_42_method_66_code 41 = .ok (.getfield 9, 3) := by decide +kernel
theorem d35_44 : decode jdk_42_method_66_code 44 = .ok (.invokestatic 541, 3) := by decide +kernel
theorem d35_47 : decode jdk_42_method_66_code 47 = .ok (.ifCond .eq 7, 3) := by decide +kernel
theorem d35_50 : decode jdk_42_method_66_code 50 = .ok (.iconst 1, 1) := by decide +kernel
theorem d35_51 : decode jdk_42_method_66_code 51 = .ok (.goto 4, 3) := by decide +kernel
theorem d35_54 : decode jdk_42_method_66_code 54 = .ok (.iconst 0, 1) := by decide +kernel
theorem d35_55 : decode jdk_42_method_66_code 55 = .ok (.ireturn, 1) := by decide +kernel
theorem ef_rm35 (m : MethodId) (x0 : Addr) (x1 : Addr) : entryFrame m #[(.ref x0), (.ref x1)] 3 = mkF m 0 #[.val (.ref x0), .val (.ref x1), .unset] [] := by first | (simp [entryFrame, mkF, argsToLocals, Value.category]; done) | rfl
set_option maxRecDepth 65536 in
set_option maxHeartbeats 40000000 in
theorem rm35 {kn : Prop} (l : Launch) (Z : State) (a0 : Array Value) (hw : ∀ d ∈ tables_1, d.before a0 Z = true) (hE : EW Z a0 own_EL) (ws : List Jvm.Cond) (r0 : Addr) (r1 : Addr) (h0 : Heap) (n0 : Nat) (O0 : Old Z n0 h0) (t u : Addr) (cs ds : List Int32) (hc : Lat cs) (hd : Lat ds) (S0 : StrL Z h0 r0 t cs) (S1 : StrL Z h0 r1 u ds) (zc : Int32) (hzc : ¬ zc = 0) (S_compact : Sta Z Z.heap "java/lang/String" "COMPACT_STRINGS" "Z" (.int zc)) :
    Ctr kn l Z own_EL (⟨"java/lang/String", "equals", "(Ljava/lang/Object;)Z"⟩ : MethodName) jdk_42_method_66_code 3 (some .boolean) ws ({ frames := 1, cells := 0, slots := 0, locals := 14 } : Room) n0 ([]) #[(.ref r0), (.ref r1)] h0 (Rt (fun w h g => w = .int (if cs = ds then 1 else 0) ∧ h0 = h)) := by
  refine Ctr.of (plainFor_of_name pn_java_lang_String) hE (fun m => ef_rm35 m r0 r1) ?_
  intro p e s m below meth c T0 X0
  have Z0 : Keep h0 h0 [] := Keep.refl _ _
  refine OwnW.aloadN X0 (n := 1) d35_0 rfl rfl rfl ?_
  refine OwnW.aloadN X0 (n := 2) d35_1 rfl rfl rfl ?_
  refine OwnW.ac_ne X0 (n1 := 7) (n2 := 5) d35_2 rfl rfl (by decide) rfl rfl (fun hc2 => ?_) (fun hc2 => ?_)
  · refine OwnW.aloadN X0 (n := 8) d35_7 rfl rfl rfl ?_
    refine OwnW.instanceofY X0 (n := 11) d35_8 (hw _ (List.mem_of_getElem? (i := 232) rfl)) (Ins.self S1.1) rfl ?_
    intro T1 X1
    refine OwnW.if_eq X1  (n1 := 54) (n2 := 14) d35_11 (by decide) rfl rfl (fun q => absurd q ((by decide) : ¬ (1 : Int32) = 0)) (fun _ => ?_)
    refine OwnW.aloadN X1 (n := 15) d35_14 rfl rfl rfl ?_
    refine OwnW.checkcast X1 (n := 18) d35_15 (hw _ (List.mem_of_getElem? (i := 232) rfl)) (Ins.self S1.1) rfl ?_
    intro T2 X2
    refine OwnW.astoreN X2 (l' := #[.val (.ref r0), .val (.ref r1), .val (.ref r1)]) (n := 19) d35_18 rfl rfl rfl ?_
    refine OwnW.getstatic X2 (n := 22) d35_19 (hw _ (List.mem_of_getElem? (i := 68) rfl)) Via.refl (S_compact.ext O0.2) rfl ?_
    intro T3 X3
    refine OwnW.if_eq X3  (n1 := 36) (n2 := 25) d35_22 (by decide) rfl rfl (fun q => absurd q (hzc : ¬ zc = 0)) (fun _ => ?_)
    refine OwnW.aloadN X3 (n := 26) d35_25 rfl rfl rfl ?_
    refine OwnW.getfield X3 (n := 29) d35_26 (hw _ (List.mem_of_getElem? (i := 21) rfl)) Via.refl S0.2.1 rfl ?_
    intro T4 X4
    refine OwnW.aloadN X4 (n := 30) d35_29 rfl rfl rfl ?_
    refine OwnW.getfield X4 (n := 33) d35_30 (hw _ (List.mem_of_getElem? (i := 21) rfl)) Via.refl S1.2.1 rfl ?_
    intro T5 X5
    refine OwnW.ic_ne X5  (n1 := 54) (n2 := 36) d35_33 (by decide) rfl rfl (fun q => absurd ((by decide) : (0 : Int32) = (0 : Int32)) q) (fun _ => ?_)
    refine OwnW.aloadN X5 (n := 37) d35_36 rfl rfl rfl ?_
    refine OwnW.getfield X5 (n := 40) d35_37 (hw _ (List.mem_of_getElem? (i := 20) rfl)) Via.refl S0.2.2.1 rfl ?_
    intro T6 X6
    refine OwnW.aloadN X6 (n := 41) d35_40 rfl rfl rfl ?_
    refine OwnW.getfield X6 (n := 44) d35_41 (hw _ (List.mem_of_getElem? (i := 20) rfl)) Via.refl S1.2.2.1 rfl ?_
    intro T7 X7
    refine OwnW.call_static_v X7 (z := (⟨"java/lang/StringLatin1", "equals", "([B[B)Z"⟩ : MethodName)) (n := 47) d35_44 (hw _ (List.mem_of_getElem? (i := 233) rfl)) (hw _ (List.mem_of_getElem? (i := 234) rfl)) (hw _ (List.mem_of_getElem? (i := 236) rfl)) (hw _ (List.mem_of_getElem? (i := 235) rfl)) (by decide) (rm36 l Z a0 hw hE [] t u h0 n0 (cs.map lo8) (ds.map lo8) S0.2.2.2 S1.2.2.2) OwnW.sf0 (argsL := [(.ref t), (.ref u)]) (rest := []) rfl rfl (OwnW.lenA pd___B_B_Z rfl) (W := 0) (Nat.le_of_eq rfl) (by decide) (by decide) (by decide) (by decide) rfl ?_
    intro T8 h8 w8 g8 hle8 X8 ⟨q1, q2⟩
    subst q1 q2
    refine OwnW.if_eq X8  (n1 := 54) (n2 := 50) d35_47 (by decide) rfl rfl (fun hc47 => ?_) (fun hc47 => ?_)
    · refine OwnW.iconst X8 (z := (0 : Int32)) (n := 55) d35_54 rfl rfl ?_
      exact OwnW.ireturn X8 rfl (Or.inr (Or.inl rfl)) rfl d35_55 ⟨by simp only [own_map_iff hc hd] at hc47; split <;> simp_all, rfl⟩ (by decide) (by decide)
    · refine OwnW.iconst X8 (z := (1 : Int32)) (n := 51) d35_50 rfl rfl ?_
      refine OwnW.goto X8 (n := 55) d35_51 (by decide) rfl ?_
      exact OwnW.ireturn X8 rfl (Or.inr (Or.inl rfl)) rfl d35_55 ⟨by simp only [own_map_iff hc hd] at hc47; split <;> simp_all, rfl⟩ (by decide) (by decide)
  · refine OwnW.iconst X0 (z := (1 : Int32)) (n := 6) d35_5 rfl rfl ?_
    exact OwnW.ireturn X0 rfl (Or.inr (Or.inl rfl)) rfl d35_6 ⟨by cases hc2; rw [if_pos (own_map_inj hc hd (S0.eq S1))], rfl⟩ (by decide) (by decide)
theorem own_preLat : Lat (own_pre.map Int32.ofNat) := by
  unfold Lat
  decide
theorem own_base {Z : State} {h : Heap} {x t : Addr} (S : own_U Z h x t (own_pre ++ [])) : StrL Z h x t (own_pre.map Int32.ofNat) := by
  rw [List.append_nil] at S
  rcases S with ⟨_, S⟩ | ⟨q, _⟩
  · exact S
  · exact absurd own_preall q
theorem own_pre16 (us : List Nat) (h : ∀ u ∈ us, u ≤ 65535) : ∀ u ∈ own_pre ++ us, u ≤ 65535 := fun u hu => (List.mem_append.mp hu).elim (fun q => Nat.le_trans (own_preall u q) (by decide)) (h u)
theorem own_km {vm : Vm} {m : MethodId} (h : methodKnown vm m = true) : vm.knowsMethod m := by
  cases hk : vm.classes[m.cls]? with
  | none => simp [methodKnown, hk] at h
  | some k =>
    refine ⟨k, hk, fun cf hcf => ?_⟩
    simpa [methodKnown, hk, hcf] using h
theorem own_mk {s : State} (h : tablesKnown s = true) : s.vm.MethodsKnown := fun m x hm => by
  simp only [Vm.method?] at hm
  cases hk : s.vm.classes[m.cls]? with
  | none => simp [hk] at hm
  | some k =>
    refine ⟨k, hk, fun cf hcf => ?_⟩
    simp only [hk, Option.bind_some] at hm
    have h1 := Array.all_eq_true_iff_forall_mem.mp h k (Array.mem_of_getElem? hk)
    have h2 : k.methods.size = cf.methods.size := by simpa [hcf] using h1
    have h3 : m.idx < k.methods.size := (Array.getElem?_eq_some_iff.mp hm).1
    have h4 : m.idx < cf.methods.size := by omega
    simp [h4]
theorem own_fk {s : State} {m : MethodId} {args : Array Value} {below : List Frame} (h : framesKnown s = true) (hf : s.frames = .invoking m args :: below) : s.vm.FramesKnown below := fun y hy m' hm => by
  simp only [framesKnown, hf] at h
  have h1 := List.all_eq_true.mp h y (List.mem_cons_of_mem _ hy)
  cases y with
  | java g => cases hm; exact own_km h1
  | native n => cases hm; exact own_km h1
  | _ => cases hm
theorem own_and3 (x : Int32) : (x &&& 3) = 0 ∨ (x &&& 3) = 1 ∨ (x &&& 3) = 2 ∨ (x &&& 3) = 3 := by
  have h1 := c_and x 3 (by decide)
  have e3 : (3 : Int32).toInt = 3 := rfl
  rw [e3] at h1
  have h3 : ((x &&& 3)).toInt = 0 ∨ ((x &&& 3)).toInt = 1 ∨ ((x &&& 3)).toInt = 2 ∨ ((x &&& 3)).toInt = 3 := by omega
  rcases h3 with h | h | h | h
  · exact Or.inl (Int32.toInt_inj.mp h)
  · exact Or.inr (Or.inl (Int32.toInt_inj.mp h))
  · exact Or.inr (Or.inr (Or.inl (Int32.toInt_inj.mp h)))
  · exact Or.inr (Or.inr (Or.inr ((Int32.toInt_inj.mp h))))
theorem d2_8 : decode jdk_42_method_149_code 8 = .ok (.aload_n 0, 1) := by decide +kernel
theorem d2_9 : decode jdk_42_method_149_code 9 = .ok (.ldc 7, 2) := by decide +kernel
theorem d2_11 : decode jdk_42_method_149_code 11 = .ok (.getfield 9, 3) := by decide +kernel
theorem d2_14 : decode jdk_42_method_149_code 14 = .ok (.putfield 9, 3) := by decide +kernel
theorem d2_17 : decode jdk_42_method_149_code 17 = .ok (.aload_n 0, 1) := by decide +kernel
theorem d2_18 : decode jdk_42_method_149_code 18 = .ok (.ldc 7, 2) := by decide +kernel
theorem d2_20 : decode jdk_42_method_149_code 20 = .ok (.getfield 15, 3) := by decide +kernel
theorem d2_23 : decode jdk_42_method_149_code 23 = .ok (.putfield 15, 3) := by decide +kernel
theorem d2_26 : decode jdk_42_method_149_code 26 = .ok (.return_, 1) := by decide +kernel
theorem ef_rm2e (m : MethodId) (x0 : Addr) (x1 : Addr) : entryFrame m #[(.ref x0), (.ref x1), (.int (0 : Int32)), (.int (0 : Int32)), .null] 6 = mkF m 0 #[.val (.ref x0), .val (.ref x1), .val (.int (0 : Int32)), .val (.int (0 : Int32)), .val .null, .unset] [] := by first | (simp [entryFrame, mkF, argsToLocals, Value.category]; done) | rfl
set_option maxRecDepth 65536 in
set_option maxHeartbeats 40000000 in
theorem rm2e {kn : Prop} (l : Launch) (Z : State) (a0 : Array Value) (hw : ∀ d ∈ tables_1, d.before a0 Z = true) (hE : EW Z a0 own_EL) (ws : List Jvm.Cond) (r0 : Addr) (r1 : Addr) (h0 : Heap) (n0 : Nat) (O0 : Old Z n0 h0) (sfx : List Addr) (ge_r0 : n0 ≤ r0) (E0 : Exa Z h0 r0 "java/lang/String") (v1 v2 : Value) (F1 : Fld Z h0 r0 "java/lang/String" "value" "[B" v1) (F2 : Fld Z h0 r0 "java/lang/String" "coder" "B" v2) :
    Ctr kn l Z own_EL (⟨"java/lang/String", "<init>", "([CIILjava/lang/Void;)V"⟩ : MethodName) jdk_42_method_149_code 6 none ws ({ frames := 1, cells := 4, slots := 8, locals := 12 } : Room) n0 (r0 :: sfx) #[(.ref r0), (.ref r1), (.int (0 : Int32)), (.int (0 : Int32)), .null] h0 (Rn (fun h g => Keep h0 h [r0] ∧ ∃ t, (∀ y ∈ sfx, y ≠ t) ∧ StrL Z h r0 t [])) := by
  refine Ctr.of (plainFor_of_name pn_java_lang_String) hE (fun m => ef_rm2e m r0 r1) ?_
  intro p e s m below meth c T0 X0
  have Z0 : Keep h0 h0 [r0] := Keep.refl _ _
  refine OwnW.aloadN X0 (n := 1) d2_0 rfl rfl rfl ?_
  refine OwnW.initObj X0 (W := 0) (n := 4) d2_1 (hw _ (List.mem_of_getElem? (i := 11) rfl)) (hw _ (List.mem_of_getElem? (i := 12) rfl)) (hw _ (List.mem_of_getElem? (i := 13) rfl)) rfl (by decide) (by decide) (by decide) rfl ?_
  intro T1 X1
  refine OwnW.iloadN X1 (n := 5) d2_4 rfl rfl ?_
  refine OwnW.if_ne X1  (n1 := 27) (n2 := 8) d2_5 (by decide) rfl rfl (fun q => absurd ((by decide) : (0 : Int32) = 0) q) (fun _ => ?_)
  refine OwnW.aloadN X1 (n := 9) d2_8 rfl rfl rfl ?_
  refine OwnW.ldcS X1 (bs := []) (nn := 0) (text := "") (n := 11) d2_9 (hw _ (List.mem_of_getElem? (i := 14) rfl)) (fun d hd => hw d ((by decide +kernel : ∀ d ∈ Bundle.stringAtoms, d ∈ tables_1) d hd)) (by decide) ⟨by decide, rfl⟩ (by decide) (by decide) (by decide) (by decide) (by decide) rfl ?_
  intro T2 h2 l2 t2 X2 E2 e2 c2 v2 a2 n2
  have K2 := (OwnW.kExt E2)
  have O2 := O0.keep K2 all0
  have Z2 : Keep h0 h2 [r0] := Z0.trans K2 (fun x hx => nomatch hx)
  obtain ⟨nl2, nt2⟩ := n2 r0 (List.mem_cons_self ..)
  have nx2 : ∀ y ∈ sfx, y ≠ t2 := fun y hx => (n2 y (List.mem_cons_of_mem _ hx)).2
  refine OwnW.getfield X2 (n := 14) d2_11 (hw _ (List.mem_of_getElem? (i := 20) rfl)) Via.refl v2 rfl ?_
  intro T3 X3
  have fk4 := (F1.keep K2 nin0)
  have fk5 := (E0.keep K2)
  refine OwnW.putfield X3 (ty := (.array .byte)) (v' := (.ref t2)) (n := 17) d2_14 (hw _ (List.mem_of_getElem? (i := 20) rfl)) Via.refl fk4 fk5 (Or.inr ⟨(hw _ (List.mem_of_getElem? (i := 16) rfl)), rfl, rfl⟩) (hw _ (List.mem_of_getElem? (i := 2) rfl)) (by decide) rfl rfl ge_r0 (List.mem_cons_self ..) rfl ?_
  intro T6 h6 X6 W6 Fw6
  have fk7 := (F2.keep K2 nin0)
  have fk8 := fk7.other W6 (Or.inr (slot_ne (Or.inr (hw _ (List.mem_of_getElem? (i := 17) rfl))) (Or.inr (hw _ (List.mem_of_getElem? (i := 16) rfl))) (by decide) (t := .byte) (t' := (.array .byte)) (by decide) (by decide)))
  have K6 := (Keep.of_wr W6)
  have O6 := O2.keep K6 (allS ge_r0 all0)
  have Z6 : Keep h0 h6 [r0] := Z2.trans K6 (allS (P := fun x => x ∈ [r0] ∨ h0.size ≤ x) (Or.inl (List.mem_of_getElem? (i := 0) rfl)) all0)
  refine OwnW.aloadN X6 (n := 18) d2_17 rfl rfl rfl ?_
  refine OwnW.ldcS X6 (bs := []) (nn := 0) (text := "") (n := 20) d2_18 (hw _ (List.mem_of_getElem? (i := 14) rfl)) (fun d hd => hw d ((by decide +kernel : ∀ d ∈ Bundle.stringAtoms, d ∈ tables_1) d hd)) (by decide) ⟨by decide, rfl⟩ (by decide) (by decide) (by decide) (by decide) (by decide) rfl ?_
  intro T9 h9 l9 t9 X9 E9 e9 c9 v9 a9 n9
  have K9 := (OwnW.kExt E9)
  have O9 := O6.keep K9 all0
  have Z9 : Keep h0 h9 [r0] := Z6.trans K9 (fun x hx => nomatch hx)
  obtain ⟨nl9, nt9⟩ := n9 r0 (List.mem_cons_self ..)
  have nx9 : ∀ y ∈ sfx, y ≠ t9 := fun y hx => (n9 y (List.mem_cons_of_mem _ hx)).2
  refine OwnW.getfield X9 (n := 23) d2_20 (hw _ (List.mem_of_getElem? (i := 21) rfl)) Via.refl c9 rfl ?_
  intro T10 X10
  have fk11 := (fk8.keep K9 nin0)
  have fk12 := ((fk5.keep K6).keep K9)
  refine OwnW.putfield X10 (ty := .byte) (v' := (.int (0 : Int32))) (n := 26) d2_23 (hw _ (List.mem_of_getElem? (i := 21) rfl)) Via.refl fk11 fk12 (Or.inr ⟨(hw _ (List.mem_of_getElem? (i := 17) rfl)), rfl, rfl⟩) (hw _ (List.mem_of_getElem? (i := 2) rfl)) (by decide) rfl rfl ge_r0 (List.mem_cons_self ..) rfl ?_
  intro T13 h13 X13 W13 Fw13
  have fk14 := (Fw6.keep K9 nin0)
  have fk15 := fk14.other W13 (Or.inr (slot_ne (Or.inr (hw _ (List.mem_of_getElem? (i := 16) rfl))) (Or.inr (hw _ (List.mem_of_getElem? (i := 17) rfl))) (by decide) (t := (.array .byte)) (t' := .byte) (by decide) (by decide)))
  have K13 := (Keep.of_wr W13)
  have O13 := O9.keep K13 (allS ge_r0 all0)
  have Z13 : Keep h0 h13 [r0] := Z9.trans K13 (allS (P := fun x => x ∈ [r0] ∨ h0.size ≤ x) (Or.inl (List.mem_of_getElem? (i := 0) rfl)) all0)
  have fk16 := (fk12.keep K13)
  have fk17 := (((a2.keep K6 (ninS (Ne.symm nt2) nin0)).keep K9 nin0).keep K13 (ninS (Ne.symm nt2) nin0))
  exact OwnW.vreturn X13 rfl d2_26 ⟨Z13, _, nx2, fk16, Fw13, fk15, fk17⟩ (by decide) (by decide)
theorem ef_rm1e (m : MethodId) (x0 : Addr) (x1 : Addr) : entryFrame m #[(.ref x0), (.ref x1)] 2 = mkF m 0 #[.val (.ref x0), .val (.ref x1)] [] := by first | (simp [entryFrame, mkF, argsToLocals, Value.category]; done) | rfl
set_option maxRecDepth 65536 in
set_option maxHeartbeats 40000000 in
theorem rm1e {kn : Prop} (l : Launch) (Z : State) (a0 : Array Value) (hw : ∀ d ∈ tables_1, d.before a0 Z = true) (hE : EW Z a0 own_EL) (ws : List Jvm.Cond) (r0 : Addr) (r1 : Addr) (h0 : Heap) (n0 : Nat) (O0 : Old Z n0 h0) (sfx : List Addr) (ge_r0 : n0 ≤ r0) (E0 : Exa Z h0 r0 "java/lang/String") (v1 v2 : Value) (F1 : Fld Z h0 r0 "java/lang/String" "value" "[B" v1) (F2 : Fld Z h0 r0 "java/lang/String" "coder" "B" v2) (A1 : Ark Z h0 r1 .char []) :
    Ctr kn l Z own_EL (⟨"java/lang/String", "<init>", "([C)V"⟩ : MethodName) jdk_42_method_3_code 2 none ws ({ frames := 2, cells := 4, slots := 8, locals := 29 } : Room) n0 (r0 :: sfx) #[(.ref r0), (.ref r1)] h0 (Rn (fun h g => Keep h0 h [r0] ∧ ∃ t, (∀ y ∈ sfx, y ≠ t) ∧ StrL Z h r0 t [])) := by
  refine Ctr.of (plainFor_of_name pn_java_lang_String) hE (fun m => ef_rm1e m r0 r1) ?_
  intro p e s m below meth c T0 X0
  have Z0 : Keep h0 h0 [r0] := Keep.refl _ _
  refine OwnW.aloadN X0 (n := 1) d1_0 rfl rfl rfl ?_
  refine OwnW.aloadN X0 (n := 2) d1_1 rfl rfl rfl ?_
  refine OwnW.iconst X0 (z := (0 : Int32)) (n := 3) d1_2 rfl rfl ?_
  refine OwnW.aloadN X0 (n := 4) d1_3 rfl rfl rfl ?_
  refine OwnW.arraylength X0 (z := (0 : Int32)) (n := 5) d1_4 A1 rfl rfl ?_
  refine OwnW.anull X0 (n := 6) d1_5 rfl ?_
  refine OwnW.call_special_n X0 (z := (⟨"java/lang/String", "<init>", "([CIILjava/lang/Void;)V"⟩ : MethodName)) (a := r0) (n := 9) d1_6 (hw _ (List.mem_of_getElem? (i := 7) rfl)) (hw _ (List.mem_of_getElem? (i := 8) rfl)) (hw _ (List.mem_of_getElem? (i := 10) rfl)) (hw _ (List.mem_of_getElem? (i := 3) rfl)) rfl rfl (by decide) (rm2e l Z a0 hw hE [] r0 r1 h0 n0 O0 sfx ge_r0 E0 v1 v2 F1 F2) (OwnW.sfS (List.mem_cons_self ..) (fun x hx => (List.mem_cons_of_mem _ hx))) (argsL := [(.ref r1), (.int (0 : Int32)), (.int (0 : Int32)), .null]) (rest := []) rfl rfl (OwnW.lenA pd___CIILjava_lang_Void__V rfl) (W := 0) (Nat.le_of_eq rfl) (by decide) (by decide) (by decide) (by decide) rfl ?_
  intro T1 h1 g1 hle1 X1 qq1
  exact OwnW.vreturn X1 rfl d1_9 qq1 (by decide) (by decide)
theorem pd___C_V : parseMethodDescriptor "([C)V" = some ⟨[(.array .char)], none⟩ := by decide +kernel
theorem pd__Ljava_lang_String__Ljava_lang_IllegalArgumentException_ : parseMethodDescriptor "(Ljava/lang/String;)Ljava/lang/IllegalArgumentException;" = some ⟨[(.object "java/lang/String")], some (.object "java/lang/IllegalArgumentException")⟩ := by decide +kernel
theorem pd__Ljava_lang_Object__Z : parseMethodDescriptor "(Ljava/lang/Object;)Z" = some ⟨[(.object "java/lang/Object")], some .boolean⟩ := by decide +kernel
theorem pd__I_C : parseMethodDescriptor "(I)C" = some ⟨[.int], some .char⟩ := by decide +kernel
theorem pn_com_example_conversation_framework_conversationframework_ComponentUndeclaredPinLaw : plainName "com/example/conversation_framework/conversationframework/ComponentUndeclaredPinLaw" = true := by first | (simp [plainName, overriddenIn]; done) | decide +kernel
theorem ef_rm0 (m : MethodId) (x0 : Int32) (x1 : Int32) (x2 : Int32) (x3 : Int32) : entryFrame m #[(.int x0), (.int x1), (.int x2), (.int x3)] maxLocals = mkF m 0 #[.val (.int x0), .val (.int x1), .val (.int x2), .val (.int x3), .unset, .unset, .unset, .unset, .unset, .unset, .unset, .unset, .unset] [] := by first | (simp [entryFrame, mkF, argsToLocals, Value.category, maxLocals]; done) | rfl
set_option maxRecDepth 65536 in
set_option maxHeartbeats 40000000 in
theorem rm0 (l : Launch) (Z : State) (a0 : Array Value) (hw : ∀ d ∈ tables_1, d.before a0 Z = true) (hE : EW Z a0 own_EL) (ws : List Jvm.Cond) (p0 : Int32) (p1 : Int32) (p2 : Int32) (p3 : Int32) (h0 : Heap) (n0 : Nat) (O0 : Old Z n0 h0) (zc : Int32) (hzc : ¬ zc = 0) (S_compact : Sta Z Z.heap "java/lang/String" "COMPACT_STRINGS" "Z" (.int zc)) (fm : Value) (hfm : fm = .null ∨ ∃ r, fm = .ref r) (S_fm : Sta Z Z.heap "jdk/internal/util/Preconditions" "SIOOBE_FORMATTER" "Ljava/util/function/BiFunction;" fm) (S_ad : Sta Z Z.heap "java/lang/StringUTF16" "$assertionsDisabled" "Z" (.int 1)) (S_hi : Sta Z Z.heap "java/lang/StringUTF16" "HI_BYTE_SHIFT" "I" (.int 0)) (S_lo : Sta Z Z.heap "java/lang/StringUTF16" "LO_BYTE_SHIFT" "I" (.int 8)) (xu xs : Addr) (S_us : Sta Z Z.heap "java/lang/Throwable" "UNASSIGNED_STACK" "[Ljava/lang/StackTraceElement;" (.ref xu)) (S_ss : Sta Z Z.heap "java/lang/Throwable" "SUPPRESSED_SENTINEL" "Ljava/util/List;" (.ref xs)) (hst : l.stackTraces = true) (TS0 : ThS Z h0)  :
    Ctr True l Z own_EL x code maxLocals ret ws room_1 n0 ([]) #[(.int p0), (.int p1), (.int p2), (.int p3)] h0 (Rt (fun w h g => w = .int 1)) := by
  refine Ctr.of (plainFor_of_name pn_com_example_conversation_framework_conversationframework_ComponentUndeclaredPinLaw) hE (fun m => ef_rm0 m p0 p1 p2 p3) ?_
  intro p e s m below meth c T0 X0
  have Z0 : Keep h0 h0 [] := Keep.refl _ _
  refine OwnW.iloadN X0 (n := 1) at_0 rfl rfl ?_
  refine OwnW.iconst X0 (z := (3 : Int32)) (n := 2) at_1 rfl rfl ?_
  refine OwnW.iand X0 (n := 3) at_2 rfl ?_
  rcases own_and3 p0 with q | q | q | q
  · rw [q]
    refine OwnW.istore X0 (l' := #[.val (.int p0), .val (.int p1), .val (.int p2), .val (.int p3), .val (.int (0 : Int32)), .unset, .unset, .unset, .unset, .unset, .unset, .unset, .unset]) (n := 5) at_3 rfl rfl ?_
    refine OwnW.iload X0 (n := 7) at_5 rfl rfl ?_
    refine OwnW.newarray X0 (len := 0) (cap := 0) (n := 9) at_7 (hw _ (List.mem_of_getElem? (i := 0) rfl)) rfl (by decide) (by decide) (by decide) (by decide) rfl ?_
    intro T1 h1 b1 gb1 X1 E1 A1
    have ge_b1 : n0 ≤ b1 := by rw [gb1]; exact OwnW.oldLe O0
    have K1 := (OwnW.kExt E1)
    have O1 := O0.keep K1 all0
    have Z1 : Keep h0 h1 [] := Z0.trans K1 (fun x hx => nomatch hx)
    have sz_b1 : h0.size ≤ b1 := by rw [gb1]; exact Z0.1
    replace A1 : Ark Z h1 b1 .char [] := A1
    refine OwnW.astore X1 (l' := #[.val (.int p0), .val (.int p1), .val (.int p2), .val (.int p3), .val (.int (0 : Int32)), .val (.ref b1), .unset, .unset, .unset, .unset, .unset, .unset, .unset]) (n := 11) at_9 rfl rfl rfl ?_
    refine OwnW.iload X1 (n := 13) at_11 rfl rfl ?_
    refine OwnW.if_le X1  (n1 := 25) (n2 := 16) at_13 (by decide) rfl rfl (fun _ => ?_) (fun q => absurd q ((by decide) : ¬ 0 < (0 : Int32)))
    refine OwnW.iload X1 (n := 27) at_25 rfl rfl ?_
    refine OwnW.iconst X1 (z := (1 : Int32)) (n := 28) at_27 rfl rfl ?_
    refine OwnW.ic_le X1  (n1 := 40) (n2 := 31) at_28 (by decide) rfl rfl (fun _ => ?_) (fun q => absurd q ((by decide) : ¬ (1 : Int32) < (0 : Int32)))
    refine OwnW.iload X1 (n := 42) at_40 rfl rfl ?_
    refine OwnW.iconst X1 (z := (2 : Int32)) (n := 43) at_42 rfl rfl ?_
    refine OwnW.ic_le X1  (n1 := 55) (n2 := 46) at_43 (by decide) rfl rfl (fun _ => ?_) (fun q => absurd q ((by decide) : ¬ (2 : Int32) < (0 : Int32)))
    refine OwnW.new X1 (C := "java/lang/String") (k := 4) (n := 58) at_55 (hw _ (List.mem_of_getElem? (i := 1) rfl)) (hw _ (List.mem_of_getElem? (i := 2) rfl)) (hw _ (List.mem_of_getElem? (i := 3) rfl)) (by decide) (by decide) rfl ?_
    intro T2 h2 b2 gb2 X2 E2 A2 D2 U2
    have ne_b1_b2 : b1 ≠ b2 := by rw [gb2]; exact Nat.ne_of_lt A1.lt
    have ge_b2 : n0 ≤ b2 := by rw [gb2]; exact OwnW.oldLe O1
    have K2 := (OwnW.kExt E2)
    have O2 := O1.keep K2 all0
    have Z2 : Keep h0 h2 [] := Z1.trans K2 (fun x hx => nomatch hx)
    have sz_b2 : h0.size ≤ b2 := by rw [gb2]; exact Z1.1
    have F2_value : Fld Z h2 b2 "java/lang/String" "value" "[B" .null := D2 (Or.inr (hw _ (List.mem_of_getElem? (i := 16) rfl))) (ty := (.array .byte)) (by decide)
    have F2_coder : Fld Z h2 b2 "java/lang/String" "coder" "B" (.int (0 : Int32)) := D2 (Or.inr (hw _ (List.mem_of_getElem? (i := 17) rfl))) (ty := .byte) (by decide)
    refine OwnW.dup X2 (n := 59) at_58 rfl rfl ?_
    refine OwnW.aload X2 (n := 61) at_59 rfl rfl rfl ?_
    have hus : ∀ u ∈ ([] : List Nat), u ≤ 65535 := fun _ q => nomatch q
    have fk3 := (A1.keep K2 nin0)
    refine OwnW.call_special_n X2 (z := (⟨"java/lang/String", "<init>", "([C)V"⟩ : MethodName)) (a := b2) (n := 64) at_61 (hw _ (List.mem_of_getElem? (i := 4) rfl)) (hw _ (List.mem_of_getElem? (i := 5) rfl)) (hw _ (List.mem_of_getElem? (i := 6) rfl)) (hw _ (List.mem_of_getElem? (i := 3) rfl)) rfl rfl (by decide) (rm1e l Z a0 hw hE [] b2 b1 h2 n0 O2 [] ge_b2 A2 _ _ F2_value F2_coder fk3) (OwnW.sfS (List.mem_cons_self ..) OwnW.sf0) (argsL := [(.ref b1)]) (rest := [(.ref b2)]) rfl rfl (OwnW.lenA pd___C_V rfl) (W := 1) (Nat.le_of_eq rfl) (by decide) (by decide) (by decide) (by decide) rfl ?_
    intro T4 h4 g4 hle4 X4 ⟨k4, t4, nx4, S4⟩
    obtain ⟨se4, sc4, sv4, sa4⟩ := S4
    have K4 := k4
    have O4 := O2.keep K4 (allS ge_b2 all0)
    have Z4 : Keep h0 h4 [] := Z2.trans K4 (allS (P := fun x => x ∈ [] ∨ h0.size ≤ x) (Or.inr sz_b2) all0)
    have sN : own_U Z h4 b2 t4 ([] : List Nat) := Or.inl ⟨(fun _ q => nomatch q), ⟨se4, sc4, sv4, sa4⟩⟩
    refine OwnW.astore X4 (l' := #[.val (.int p0), .val (.int p1), .val (.int p2), .val (.int p3), .val (.int (0 : Int32)), .val (.ref b1), .val (.ref b2), .unset, .unset, .unset, .unset, .unset, .unset]) (n := 66) at_64 rfl rfl rfl ?_
    refine OwnW.aload X4 (n := 68) at_66 rfl rfl rfl ?_
    have fk5 := (fk3.keep K4 (ninS ne_b1_b2 nin0))
    refine OwnW.call_static_v X4 (z := (⟨"com/example/conversation_framework/conversationframework/Component", "undeclared", "(Ljava/lang/String;)Ljava/lang/IllegalArgumentException;"⟩ : MethodName)) (n := 71) at_68 (hw _ (List.mem_of_getElem? (i := 22) rfl)) (hw _ (List.mem_of_getElem? (i := 23) rfl)) (hw _ (List.mem_of_getElem? (i := 25) rfl)) (hw _ (List.mem_of_getElem? (i := 24) rfl)) (by decide) (rm4A l Z a0 hw hE [] b2 h4 n0 O4 t4 ([] : List Nat) (by simp) hus sN zc hzc S_compact fm hfm S_fm S_ad S_hi S_lo xu xs S_us S_ss hst (ThS.keep Z4 (fun _ q => nomatch q) TS0)) OwnW.sf0 (argsL := [(.ref b2)]) (rest := []) rfl rfl (OwnW.lenA pd__Ljava_lang_String__Ljava_lang_IllegalArgumentException_ rfl) (W := 0) (Nat.le_of_eq rfl) (by decide) (by decide) (by decide) (by decide) rfl ?_
    intro T6 h6 w6 g6 hle6 X6 ⟨x6, m6, y6, q1, k6, z6, e6, un6, fm6, fc6, sU6⟩
    subst q1
    have K6 := k6
    have O6 := O4.keep K6 all0
    have Z6 : Keep h0 h6 [] := Z4.trans K6 (fun x hx => nomatch hx)
    refine OwnW.astore X6 (l' := #[.val (.int p0), .val (.int p1), .val (.int p2), .val (.int p3), .val (.int (0 : Int32)), .val (.ref b1), .val (.ref b2), .val (.ref x6), .unset, .unset, .unset, .unset, .unset]) (n := 73) at_71 rfl rfl rfl ?_
    refine OwnW.ldcS X6 (bs := (([] : List Int32)).map lo8) (nn := 0) (text := "") (n := 75) at_73 (hw _ (List.mem_of_getElem? (i := 219) rfl)) (fun d hd => hw d ((by decide +kernel : ∀ d ∈ Bundle.stringAtoms, d ∈ tables_1) d hd)) (by decide) ⟨by decide, rfl⟩ (by decide) (by decide) (by decide) (by decide) (by decide) rfl ?_
    intro T7 h7 l7 t7 X7 E7 e7 c7 v7 a7 n7
    have K7 := (OwnW.kExt E7)
    have O7 := O6.keep K7 all0
    have Z7 : Keep h0 h7 [] := Z6.trans K7 (fun x hx => nomatch hx)
    have sE : own_U Z h7 l7 t7 ([] : List Nat) := Or.inl ⟨(fun _ q => nomatch q), ⟨e7, c7, v7, a7⟩⟩
    have fk8 := ((fk5.keep K6 nin0).keep K7 nin0)
    have fk9 := ((se4.keep K6).keep K7)
    have fk10 := ((sv4.keep K6 nin0).keep K7 nin0)
    have fk11 := ((sc4.keep K6 nin0).keep K7 nin0)
    have fk12 := ((sa4.keep K6 nin0).keep K7 nin0)
    have fk13 := ((sN.keep K6 nin0 nin0).keep K7 nin0 nin0)
    have fk14 := (e6.keep K7)
    have fk15 := (un6.keep K7 nin0)
    have fk16 := (fm6.keep K7 nin0)
    have fk17 := (fc6.keep K7 nin0)
    have fk18 := (sU6.keep K7 nin0 nin0)
    refine OwnW.call_static_v X7 (z := (⟨"com/example/conversation_framework/conversationframework/Component", "undeclared", "(Ljava/lang/String;)Ljava/lang/IllegalArgumentException;"⟩ : MethodName)) (n := 78) at_75 (hw _ (List.mem_of_getElem? (i := 22) rfl)) (hw _ (List.mem_of_getElem? (i := 23) rfl)) (hw _ (List.mem_of_getElem? (i := 25) rfl)) (hw _ (List.mem_of_getElem? (i := 24) rfl)) (by decide) (rm4A l Z a0 hw hE [] l7 h7 n0 O7 t7 ([] : List Nat) (by simp) (fun _ q => nomatch q) sE zc hzc S_compact fm hfm S_fm S_ad S_hi S_lo xu xs S_us S_ss hst (ThS.keep Z7 (fun _ q => nomatch q) TS0)) OwnW.sf0 (argsL := [(.ref l7)]) (rest := []) rfl rfl (OwnW.lenA pd__Ljava_lang_String__Ljava_lang_IllegalArgumentException_ rfl) (W := 0) (Nat.le_of_eq rfl) (by decide) (by decide) (by decide) (by decide) rfl ?_
    intro T19 h19 w19 g19 hle19 X19 ⟨x19, m19, y19, q1, k19, z19, e19, un19, fm19, fc19, sU19⟩
    subst q1
    have K19 := k19
    have O19 := O7.keep K19 all0
    have Z19 : Keep h0 h19 [] := Z7.trans K19 (fun x hx => nomatch hx)
    refine OwnW.astore X19 (l' := #[.val (.int p0), .val (.int p1), .val (.int p2), .val (.int p3), .val (.int (0 : Int32)), .val (.ref b1), .val (.ref b2), .val (.ref x6), .val (.ref x19), .unset, .unset, .unset, .unset]) (n := 80) at_78 rfl rfl rfl ?_
    refine OwnW.aload X19 (n := 82) at_80 rfl rfl rfl ?_
    refine OwnW.ifnull_n X19 (n2 := 85) at_82 rfl ?_
    refine OwnW.aload X19 (n := 87) at_85 rfl rfl rfl ?_
    refine OwnW.ifnonnull_y X19 (n1 := 92) at_87 (by decide) rfl ?_
    refine OwnW.aload X19 (n := 94) at_92 rfl rfl rfl ?_
    refine OwnW.call_virtualUp_v X19 (z := (⟨"java/lang/Throwable", "getMessage", "()Ljava/lang/String;"⟩ : MethodName)) (yv := (⟨"java/lang/IllegalArgumentException", "getMessage", "()Ljava/lang/String;"⟩ : MethodName)) (owner := "java/lang/Throwable") (a := x19) (C := "java/lang/IllegalArgumentException") (n := 97) at_94 (hw _ (List.mem_of_getElem? (i := 220) rfl)) (hw _ (List.mem_of_getElem? (i := 221) rfl)) (hw _ (List.mem_of_getElem? (i := 222) rfl)) (hw _ (List.mem_of_getElem? (i := 223) rfl)) (hw _ (List.mem_of_getElem? (i := 224) rfl)) (hw _ (List.mem_of_getElem? (i := 225) rfl)) (hw _ (List.mem_of_getElem? (i := 180) rfl)) (by decide) e19 (rm34 l Z a0 hw hE [] x19 h19 n0 m19 fm19) OwnW.sf0 (argsL := []) (rest := []) rfl rfl (OwnW.lenA pd___Ljava_lang_String_ rfl) (W := 0) (Nat.le_of_eq rfl) (by decide) (by decide) (by decide) (by decide) rfl ?_
    intro T20 h20 w20 g20 hle20 X20 ⟨q1, q2⟩
    subst q1 q2
    refine OwnW.astore X20 (l' := #[.val (.int p0), .val (.int p1), .val (.int p2), .val (.int p3), .val (.int (0 : Int32)), .val (.ref b1), .val (.ref b2), .val (.ref x6), .val (.ref x19), .val (.ref m19), .unset, .unset, .unset]) (n := 99) at_97 rfl rfl rfl ?_
    refine OwnW.aload X20 (n := 101) at_99 rfl rfl rfl ?_
    have fk21 := (fk16.keep K19 nin0)
    have fk23 := (fk14.keep K19)
    refine OwnW.call_virtualUp_v X20 (z := (⟨"java/lang/Throwable", "getMessage", "()Ljava/lang/String;"⟩ : MethodName)) (yv := (⟨"java/lang/IllegalArgumentException", "getMessage", "()Ljava/lang/String;"⟩ : MethodName)) (owner := "java/lang/Throwable") (a := x6) (C := "java/lang/IllegalArgumentException") (n := 104) at_101 (hw _ (List.mem_of_getElem? (i := 220) rfl)) (hw _ (List.mem_of_getElem? (i := 221) rfl)) (hw _ (List.mem_of_getElem? (i := 222) rfl)) (hw _ (List.mem_of_getElem? (i := 223) rfl)) (hw _ (List.mem_of_getElem? (i := 224) rfl)) (hw _ (List.mem_of_getElem? (i := 225) rfl)) (hw _ (List.mem_of_getElem? (i := 180) rfl)) (by decide) fk23 (rm34 l Z a0 hw hE [] x6 h19 n0 m6 fk21) OwnW.sf0 (argsL := []) (rest := []) rfl rfl (OwnW.lenA pd___Ljava_lang_String_ rfl) (W := 0) (Nat.le_of_eq rfl) (by decide) (by decide) (by decide) (by decide) rfl ?_
    intro T22 h22 w22 g22 hle22 X22 ⟨q1, q2⟩
    subst q1 q2
    refine OwnW.astore X22 (l' := #[.val (.int p0), .val (.int p1), .val (.int p2), .val (.int p3), .val (.int (0 : Int32)), .val (.ref b1), .val (.ref b2), .val (.ref x6), .val (.ref x19), .val (.ref m19), .val (.ref m6), .unset, .unset]) (n := 106) at_104 rfl rfl rfl ?_
    refine OwnW.aload X22 (n := 108) at_106 rfl rfl rfl ?_
    refine OwnW.ifnull_n X22 (n2 := 111) at_108 rfl ?_
    refine OwnW.aload X22 (n := 113) at_111 rfl rfl rfl ?_
    refine OwnW.ifnonnull_y X22 (n1 := 118) at_113 (by decide) rfl ?_
    refine OwnW.aload X22 (n := 120) at_118 rfl rfl rfl ?_
    refine OwnW.ldcS X22 (bs := (own_pre.map Int32.ofNat).map lo8) (nn := 156) (text := "no component is declared with the name ") (n := 122) at_120 (hw _ (List.mem_of_getElem? (i := 226) rfl)) (fun d hd => hw d ((by decide +kernel : ∀ d ∈ Bundle.stringAtoms, d ∈ tables_1) d hd)) (by decide) ⟨by decide, rfl⟩ (by decide) (by decide) (by decide) (by decide) (by decide) rfl ?_
    intro T24 h24 l24 t24 X24 E24 e24 c24 v24 a24 n24
    have K24 := (OwnW.kExt E24)
    have O24 := O19.keep K24 all0
    have Z24 : Keep h0 h24 [] := Z19.trans K24 (fun x hx => nomatch hx)
    have fk25 := (sU19.keep K24 nin0 nin0)
    have sB := own_base fk25
    refine OwnW.call_virtual_v X24 (z := (⟨"java/lang/String", "equals", "(Ljava/lang/Object;)Z"⟩ : MethodName)) (yv := (⟨"java/lang/String", "equals", "(Ljava/lang/Object;)Z"⟩ : MethodName)) (a := m19) (C := "java/lang/String") (n := 125) at_122 (hw _ (List.mem_of_getElem? (i := 227) rfl)) (hw _ (List.mem_of_getElem? (i := 228) rfl)) (hw _ (List.mem_of_getElem? (i := 229) rfl)) (hw _ (List.mem_of_getElem? (i := 230) rfl)) (fun hz => notFace_of_selects (args := #[]) (mvT hz (hw _ (List.mem_of_getElem? (i := 230) rfl)))) (hw _ (List.mem_of_getElem? (i := 231) rfl)) (hw _ (List.mem_of_getElem? (i := 3) rfl)) (by decide) sB.1 (rm35 l Z a0 hw hE [] m19 l24 h24 n0 O24 y19 t24 (own_pre.map Int32.ofNat) (own_pre.map Int32.ofNat) own_preLat own_preLat sB ⟨e24, c24, v24, a24⟩ zc hzc S_compact) OwnW.sf0 (argsL := [(.ref l24)]) (rest := []) rfl rfl (OwnW.lenA pd__Ljava_lang_Object__Z rfl) (W := 0) (Nat.le_of_eq rfl) (by decide) (by decide) (by decide) (by decide) rfl ?_
    intro T26 h26 w26 g26 hle26 X26 ⟨q1, q2⟩
    subst q1 q2
    rw [if_pos rfl]
    refine OwnW.if_ne X26  (n1 := 130) (n2 := 128) at_125 (by decide) rfl rfl (fun _ => ?_) (fun q => absurd q ((by decide) : ¬ (1 : Int32) = 0))
    refine OwnW.aload X26 (n := 132) at_130 rfl rfl rfl ?_
    have eMbase := own_U.exa fk25
    refine OwnW.call_virtual_v X26 (z := (⟨"java/lang/String", "length", "()I"⟩ : MethodName)) (yv := (⟨"java/lang/String", "length", "()I"⟩ : MethodName)) (a := m19) (C := "java/lang/String") (n := 135) at_132 (hw _ (List.mem_of_getElem? (i := 237) rfl)) (hw _ (List.mem_of_getElem? (i := 59) rfl)) (hw _ (List.mem_of_getElem? (i := 60) rfl)) (hw _ (List.mem_of_getElem? (i := 61) rfl)) (fun hz => notFace_of_selects (args := #[]) (mvT hz (hw _ (List.mem_of_getElem? (i := 61) rfl)))) (hw _ (List.mem_of_getElem? (i := 62) rfl)) (hw _ (List.mem_of_getElem? (i := 3) rfl)) (by decide) eMbase (rmLEN l Z a0 hw hE [] m19 h24 n0 O24 y19 (own_pre ++ ([] : List Nat)) (by simp [own_pre]) fk25 zc hzc S_compact) OwnW.sf0 (argsL := []) (rest := []) rfl rfl (OwnW.lenA pd___I rfl) (W := 0) (Nat.le_of_eq rfl) (by decide) (by decide) (by decide) (by decide) rfl ?_
    intro T27 h27 w27 g27 hle27 X27 ⟨q1, q2⟩
    subst q1 q2
    rw [show Int32.ofNat (own_pre ++ ([] : List Nat)).length = (39 : Int32) from rfl]
    refine OwnW.istore X27 (l' := #[.val (.int p0), .val (.int p1), .val (.int p2), .val (.int p3), .val (.int (0 : Int32)), .val (.ref b1), .val (.ref b2), .val (.ref x6), .val (.ref x19), .val (.ref m19), .val (.ref m6), .val (.int (39 : Int32)), .unset]) (n := 137) at_135 rfl rfl ?_
    refine OwnW.aload X27 (n := 139) at_137 rfl rfl rfl ?_
    have fk28 := ((fk18.keep K19 nin0 nin0).keep K24 nin0 nin0)
    have eMerr := own_U.exa fk28
    refine OwnW.call_virtual_v X27 (z := (⟨"java/lang/String", "length", "()I"⟩ : MethodName)) (yv := (⟨"java/lang/String", "length", "()I"⟩ : MethodName)) (a := m6) (C := "java/lang/String") (n := 142) at_139 (hw _ (List.mem_of_getElem? (i := 237) rfl)) (hw _ (List.mem_of_getElem? (i := 59) rfl)) (hw _ (List.mem_of_getElem? (i := 60) rfl)) (hw _ (List.mem_of_getElem? (i := 61) rfl)) (fun hz => notFace_of_selects (args := #[]) (mvT hz (hw _ (List.mem_of_getElem? (i := 61) rfl)))) (hw _ (List.mem_of_getElem? (i := 62) rfl)) (hw _ (List.mem_of_getElem? (i := 3) rfl)) (by decide) eMerr (rmLEN l Z a0 hw hE [] m6 h24 n0 O24 y6 (own_pre ++ ([] : List Nat)) (by simp [own_pre]) fk28 zc hzc S_compact) OwnW.sf0 (argsL := []) (rest := []) rfl rfl (OwnW.lenA pd___I rfl) (W := 0) (Nat.le_of_eq rfl) (by decide) (by decide) (by decide) (by decide) rfl ?_
    intro T29 h29 w29 g29 hle29 X29 ⟨q1, q2⟩
    subst q1 q2
    rw [show Int32.ofNat (own_pre ++ ([] : List Nat)).length = (39 : Int32) from rfl]
    refine OwnW.iload X29 (n := 144) at_142 rfl rfl ?_
    refine OwnW.iload X29 (n := 146) at_144 rfl rfl ?_
    refine OwnW.iadd X29 (n := 147) at_146 rfl ?_
    rw [show (((39 : Int32) + (0 : Int32)) : Int32) = (39 : Int32) from by decide]
    refine OwnW.ic_eq X29  (n1 := 152) (n2 := 150) at_147 (by decide) rfl rfl (fun _ => ?_) (fun q => absurd ((by decide) : (39 : Int32) = (39 : Int32)) q)
    refine OwnW.aload X29 (n := 154) at_152 rfl rfl rfl ?_
    refine OwnW.iconst X29 (z := (0 : Int32)) (n := 155) at_154 rfl rfl ?_
    refine OwnW.call_virtual_v X29 (z := (⟨"java/lang/String", "charAt", "(I)C"⟩ : MethodName)) (yv := (⟨"java/lang/String", "charAt", "(I)C"⟩ : MethodName)) (a := m6) (C := "java/lang/String") (n := 158) at_155 (hw _ (List.mem_of_getElem? (i := 238) rfl)) (hw _ (List.mem_of_getElem? (i := 239) rfl)) (hw _ (List.mem_of_getElem? (i := 240) rfl)) (hw _ (List.mem_of_getElem? (i := 241) rfl)) (fun hz => notFace_of_selects (args := #[]) (mvT hz (hw _ (List.mem_of_getElem? (i := 241) rfl)))) (hw _ (List.mem_of_getElem? (i := 242) rfl)) (hw _ (List.mem_of_getElem? (i := 3) rfl)) (by decide) eMerr (rmCA l Z a0 hw hE [] m6 h24 n0 O24 y6 (own_pre ++ ([] : List Nat)) (by simp [own_pre]) 0 (by simp [own_pre]) (own_pre16 _ hus) fk28 zc hzc S_compact fm hfm S_fm S_ad S_hi S_lo) OwnW.sf0 (argsL := [(.int (0 : Int32))]) (rest := []) rfl rfl (OwnW.lenA pd__I_C rfl) (W := 0) (Nat.le_of_eq rfl) (by decide) (by decide) (by decide) (by decide) rfl ?_
    intro T30 h30 w30 g30 hle30 X30 ⟨q1, q2⟩
    subst q1 q2
    rw [show Int32.ofNat ((own_pre ++ ([] : List Nat)).getD 0 0) = (110 : Int32) from rfl]
    refine OwnW.bipush X30 (z := (110 : Int32)) (n := 160) at_158 rfl rfl ?_
    refine OwnW.ic_ne X30  (n1 := 195) (n2 := 163) at_160 (by decide) rfl rfl (fun q => absurd ((by decide) : (110 : Int32) = (110 : Int32)) q) (fun _ => ?_)
    refine OwnW.aload X30 (n := 165) at_163 rfl rfl rfl ?_
    refine OwnW.iload X30 (n := 167) at_165 rfl rfl ?_
    refine OwnW.iconst X30 (z := (2 : Int32)) (n := 168) at_167 rfl rfl ?_
    refine OwnW.isub X30 (n := 169) at_168 rfl ?_
    rw [show (((39 : Int32) - (2 : Int32)) : Int32) = (37 : Int32) from by decide]
    refine OwnW.call_virtual_v X30 (z := (⟨"java/lang/String", "charAt", "(I)C"⟩ : MethodName)) (yv := (⟨"java/lang/String", "charAt", "(I)C"⟩ : MethodName)) (a := m6) (C := "java/lang/String") (n := 172) at_169 (hw _ (List.mem_of_getElem? (i := 238) rfl)) (hw _ (List.mem_of_getElem? (i := 239) rfl)) (hw _ (List.mem_of_getElem? (i := 240) rfl)) (hw _ (List.mem_of_getElem? (i := 241) rfl)) (fun hz => notFace_of_selects (args := #[]) (mvT hz (hw _ (List.mem_of_getElem? (i := 241) rfl)))) (hw _ (List.mem_of_getElem? (i := 242) rfl)) (hw _ (List.mem_of_getElem? (i := 3) rfl)) (by decide) eMerr (rmCA l Z a0 hw hE [] m6 h24 n0 O24 y6 (own_pre ++ ([] : List Nat)) (by simp [own_pre]) 37 (by simp [own_pre]) (own_pre16 _ hus) fk28 zc hzc S_compact fm hfm S_fm S_ad S_hi S_lo) OwnW.sf0 (argsL := [(.int (37 : Int32))]) (rest := []) rfl rfl (OwnW.lenA pd__I_C rfl) (W := 0) (Nat.le_of_eq rfl) (by decide) (by decide) (by decide) (by decide) rfl ?_
    intro T31 h31 w31 g31 hle31 X31 ⟨q1, q2⟩
    subst q1 q2
    rw [show Int32.ofNat ((own_pre ++ ([] : List Nat)).getD 37 0) = (101 : Int32) from rfl]
    refine OwnW.bipush X31 (z := (101 : Int32)) (n := 174) at_172 rfl rfl ?_
    refine OwnW.ic_ne X31  (n1 := 195) (n2 := 177) at_174 (by decide) rfl rfl (fun q => absurd ((by decide) : (101 : Int32) = (101 : Int32)) q) (fun _ => ?_)
    refine OwnW.aload X31 (n := 179) at_177 rfl rfl rfl ?_
    refine OwnW.iload X31 (n := 181) at_179 rfl rfl ?_
    refine OwnW.iconst X31 (z := (1 : Int32)) (n := 182) at_181 rfl rfl ?_
    refine OwnW.isub X31 (n := 183) at_182 rfl ?_
    rw [show (((39 : Int32) - (1 : Int32)) : Int32) = (38 : Int32) from by decide]
    refine OwnW.call_virtual_v X31 (z := (⟨"java/lang/String", "charAt", "(I)C"⟩ : MethodName)) (yv := (⟨"java/lang/String", "charAt", "(I)C"⟩ : MethodName)) (a := m6) (C := "java/lang/String") (n := 186) at_183 (hw _ (List.mem_of_getElem? (i := 238) rfl)) (hw _ (List.mem_of_getElem? (i := 239) rfl)) (hw _ (List.mem_of_getElem? (i := 240) rfl)) (hw _ (List.mem_of_getElem? (i := 241) rfl)) (fun hz => notFace_of_selects (args := #[]) (mvT hz (hw _ (List.mem_of_getElem? (i := 241) rfl)))) (hw _ (List.mem_of_getElem? (i := 242) rfl)) (hw _ (List.mem_of_getElem? (i := 3) rfl)) (by decide) eMerr (rmCA l Z a0 hw hE [] m6 h24 n0 O24 y6 (own_pre ++ ([] : List Nat)) (by simp [own_pre]) 38 (by simp [own_pre]) (own_pre16 _ hus) fk28 zc hzc S_compact fm hfm S_fm S_ad S_hi S_lo) OwnW.sf0 (argsL := [(.int (38 : Int32))]) (rest := []) rfl rfl (OwnW.lenA pd__I_C rfl) (W := 0) (Nat.le_of_eq rfl) (by decide) (by decide) (by decide) (by decide) rfl ?_
    intro T32 h32 w32 g32 hle32 X32 ⟨q1, q2⟩
    subst q1 q2
    rw [show Int32.ofNat ((own_pre ++ ([] : List Nat)).getD 38 0) = (32 : Int32) from rfl]
    refine OwnW.bipush X32 (z := (32 : Int32)) (n := 188) at_186 rfl rfl ?_
    refine OwnW.ic_ne X32  (n1 := 195) (n2 := 191) at_188 (by decide) rfl rfl (fun q => absurd ((by decide) : (32 : Int32) = (32 : Int32)) q) (fun _ => ?_)
    refine OwnW.iconst X32 (z := (1 : Int32)) (n := 192) at_191 rfl rfl ?_
    refine OwnW.goto X32 (n := 196) at_192 (by decide) rfl ?_
    refine OwnW.istore X32 (l' := #[.val (.int p0), .val (.int p1), .val (.int p2), .val (.int p3), .val (.int (0 : Int32)), .val (.ref b1), .val (.ref b2), .val (.ref x6), .val (.ref x19), .val (.ref m19), .val (.ref m6), .val (.int (39 : Int32)), .val (.int (1 : Int32))]) (n := 198) at_196 rfl rfl ?_
    refine OwnW.iload X32 (n := 200) at_198 rfl rfl ?_
    refine OwnW.if_le X32  (n1 := 229) (n2 := 203) at_200 (by decide) rfl rfl (fun _ => ?_) (fun q => absurd q ((by decide) : ¬ 0 < (0 : Int32)))
    refine OwnW.iload X32 (n := 231) at_229 rfl rfl ?_
    refine OwnW.iconst X32 (z := (1 : Int32)) (n := 232) at_231 rfl rfl ?_
    refine OwnW.ic_le X32  (n1 := 263) (n2 := 235) at_232 (by decide) rfl rfl (fun _ => ?_) (fun q => absurd q ((by decide) : ¬ (1 : Int32) < (0 : Int32)))
    refine OwnW.iload X32 (n := 265) at_263 rfl rfl ?_
    refine OwnW.iconst X32 (z := (2 : Int32)) (n := 266) at_265 rfl rfl ?_
    refine OwnW.ic_le X32  (n1 := 297) (n2 := 269) at_266 (by decide) rfl rfl (fun _ => ?_) (fun q => absurd q ((by decide) : ¬ (2 : Int32) < (0 : Int32)))
    refine OwnW.iload X32 (n := 299) at_297 rfl rfl ?_
    refine OwnW.if_eq X32  (n1 := 322) (n2 := 302) at_299 (by decide) rfl rfl (fun q => absurd q ((by decide) : ¬ (1 : Int32) = 0)) (fun _ => ?_)
    refine OwnW.aload X32 (n := 304) at_302 rfl rfl rfl ?_
    have fk33 := (fk23.keep K24)
    have fk34 := ((fk15.keep K19 nin0).keep K24 nin0)
    have fk35 := ((fk17.keep K19 nin0).keep K24 nin0)
    refine OwnW.getCause X32 (C := "java/lang/IllegalArgumentException") (n := 307) (W := 0) at_304 (hw _ (List.mem_of_getElem? (i := 259) rfl)) (hw _ (List.mem_of_getElem? (i := 260) rfl)) (hw _ (List.mem_of_getElem? (i := 261) rfl)) (hw _ (List.mem_of_getElem? (i := 262) rfl)) (hw _ (List.mem_of_getElem? (i := 263) rfl)) (hw _ (List.mem_of_getElem? (i := 264) rfl)) (hw _ (List.mem_of_getElem? (i := 180) rfl)) (hw _ (List.mem_of_getElem? (i := 183) rfl)) fk33 fk34 fk35 rfl (by decide) (Nat.le_of_eq rfl) (by decide) rfl (by decide) (by decide) ?_
    intro T36 X36
    refine OwnW.ifnonnull_n X36 (n2 := 310) at_307 rfl ?_
    refine OwnW.aload X36 (n := 312) at_310 rfl rfl rfl ?_
    have fk37 := (e19.keep K24)
    have fk38 := (un19.keep K24 nin0)
    have fk39 := (fc19.keep K24 nin0)
    refine OwnW.getCause X36 (C := "java/lang/IllegalArgumentException") (n := 315) (W := 0) at_312 (hw _ (List.mem_of_getElem? (i := 259) rfl)) (hw _ (List.mem_of_getElem? (i := 260) rfl)) (hw _ (List.mem_of_getElem? (i := 261) rfl)) (hw _ (List.mem_of_getElem? (i := 262) rfl)) (hw _ (List.mem_of_getElem? (i := 263) rfl)) (hw _ (List.mem_of_getElem? (i := 264) rfl)) (hw _ (List.mem_of_getElem? (i := 180) rfl)) (hw _ (List.mem_of_getElem? (i := 183) rfl)) fk37 fk38 fk39 rfl (by decide) (Nat.le_of_eq rfl) (by decide) rfl (by decide) (by decide) ?_
    intro T40 X40
    refine OwnW.ifnonnull_n X40 (n2 := 318) at_315 rfl ?_
    refine OwnW.iconst X40 (z := (1 : Int32)) (n := 319) at_318 rfl rfl ?_
    refine OwnW.goto X40 (n := 323) at_319 (by decide) rfl ?_
    exact OwnW.ireturn X40 rfl (Or.inr (Or.inl rfl)) rfl at_323 rfl (by decide) (by decide)
  · rw [q]
    refine OwnW.istore X0 (l' := #[.val (.int p0), .val (.int p1), .val (.int p2), .val (.int p3), .val (.int (1 : Int32)), .unset, .unset, .unset, .unset, .unset, .unset, .unset, .unset]) (n := 5) at_3 rfl rfl ?_
    refine OwnW.iload X0 (n := 7) at_5 rfl rfl ?_
    refine OwnW.newarray X0 (len := 1) (cap := 1) (n := 9) at_7 (hw _ (List.mem_of_getElem? (i := 0) rfl)) rfl (by decide) (by decide) (by decide) (by decide) rfl ?_
    intro T41 h41 b41 gb41 X41 E41 A41
    have ge_b41 : n0 ≤ b41 := by rw [gb41]; exact OwnW.oldLe O0
    have K41 := (OwnW.kExt E41)
    have O41 := O0.keep K41 all0
    have Z41 : Keep h0 h41 [] := Z0.trans K41 (fun x hx => nomatch hx)
    have sz_b41 : h0.size ≤ b41 := by rw [gb41]; exact Z0.1
    replace A41 : Ark Z h41 b41 .char [(.int (0 : Int32))] := A41
    refine OwnW.astore X41 (l' := #[.val (.int p0), .val (.int p1), .val (.int p2), .val (.int p3), .val (.int (1 : Int32)), .val (.ref b41), .unset, .unset, .unset, .unset, .unset, .unset, .unset]) (n := 11) at_9 rfl rfl rfl ?_
    refine OwnW.iload X41 (n := 13) at_11 rfl rfl ?_
    refine OwnW.if_le X41  (n1 := 25) (n2 := 16) at_13 (by decide) rfl rfl (fun q => absurd ((by decide) : 0 < (1 : Int32)) q) (fun _ => ?_)
    refine OwnW.aload X41 (n := 18) at_16 rfl rfl rfl ?_
    refine OwnW.iconst X41 (z := (0 : Int32)) (n := 19) at_18 rfl rfl ?_
    refine OwnW.iloadN X41 (n := 20) at_19 rfl rfl ?_
    refine OwnW.ldc X41 (n := 22) at_20 (hw _ (List.mem_of_getElem? (i := 265) rfl)) rfl ?_
    refine OwnW.iand X41 (n := 23) at_22 rfl ?_
    refine OwnW.i2c X41 (n := 24) at_23 rfl ?_
    obtain ⟨ua, ek0, hua⟩ := own_i2c16 (p1 &&& (65535 : Int32))
    rw [ek0]
    refine OwnW.castore X41 (i := 0) (z := (Int32.ofNat ua)) (n := 25) at_24 A41 rfl (Nat.le_of_ble_eq_true rfl) (own_nar16 hua) ge_b41 (List.mem_cons_self ..) rfl ?_
    intro T42 h42 X42 W42 A42
    have K42 := (Keep.of_wr W42)
    have O42 := O41.keep K42 (allS ge_b41 all0)
    have Z42 : Keep h0 h42 [] := Z41.trans K42 (allS (P := fun x => x ∈ [] ∨ h0.size ≤ x) (Or.inr sz_b41) all0)
    replace A42 : Ark Z h42 b41 .char [(.int (Int32.ofNat ua))] := A42
    refine OwnW.iload X42 (n := 27) at_25 rfl rfl ?_
    refine OwnW.iconst X42 (z := (1 : Int32)) (n := 28) at_27 rfl rfl ?_
    refine OwnW.ic_le X42  (n1 := 40) (n2 := 31) at_28 (by decide) rfl rfl (fun _ => ?_) (fun q => absurd q ((by decide) : ¬ (1 : Int32) < (1 : Int32)))
    refine OwnW.iload X42 (n := 42) at_40 rfl rfl ?_
    refine OwnW.iconst X42 (z := (2 : Int32)) (n := 43) at_42 rfl rfl ?_
    refine OwnW.ic_le X42  (n1 := 55) (n2 := 46) at_43 (by decide) rfl rfl (fun _ => ?_) (fun q => absurd q ((by decide) : ¬ (2 : Int32) < (1 : Int32)))
    refine OwnW.new X42 (C := "java/lang/String") (k := 4) (n := 58) at_55 (hw _ (List.mem_of_getElem? (i := 1) rfl)) (hw _ (List.mem_of_getElem? (i := 2) rfl)) (hw _ (List.mem_of_getElem? (i := 3) rfl)) (by decide) (by decide) rfl ?_
    intro T43 h43 b43 gb43 X43 E43 A43 D43 U43
    have ne_b41_b43 : b41 ≠ b43 := by rw [gb43]; exact Nat.ne_of_lt A42.lt
    have ge_b43 : n0 ≤ b43 := by rw [gb43]; exact OwnW.oldLe O42
    have K43 := (OwnW.kExt E43)
    have O43 := O42.keep K43 all0
    have Z43 : Keep h0 h43 [] := Z42.trans K43 (fun x hx => nomatch hx)
    have sz_b43 : h0.size ≤ b43 := by rw [gb43]; exact Z42.1
    have F43_value : Fld Z h43 b43 "java/lang/String" "value" "[B" .null := D43 (Or.inr (hw _ (List.mem_of_getElem? (i := 16) rfl))) (ty := (.array .byte)) (by decide)
    have F43_coder : Fld Z h43 b43 "java/lang/String" "coder" "B" (.int (0 : Int32)) := D43 (Or.inr (hw _ (List.mem_of_getElem? (i := 17) rfl))) (ty := .byte) (by decide)
    refine OwnW.dup X43 (n := 59) at_58 rfl rfl ?_
    refine OwnW.aload X43 (n := 61) at_59 rfl rfl rfl ?_
    have hus : ∀ u ∈ ([ua] : List Nat), u ≤ 65535 := by intro v hv; simp at hv; omega
    have fk44 := (A42.keep K43 nin0)
    refine OwnW.call_special_n X43 (z := (⟨"java/lang/String", "<init>", "([C)V"⟩ : MethodName)) (a := b43) (n := 64) at_61 (hw _ (List.mem_of_getElem? (i := 4) rfl)) (hw _ (List.mem_of_getElem? (i := 5) rfl)) (hw _ (List.mem_of_getElem? (i := 6) rfl)) (hw _ (List.mem_of_getElem? (i := 3) rfl)) rfl rfl (by decide) (rm1 l Z a0 hw hE [] b43 b41 h43 n0 O43 ge_b43 A43 _ _ F43_value F43_coder ([ua] : List Nat) (by simp) (by simp) hus fk44 (Ne.symm ne_b41_b43) zc hzc S_compact S_ad S_hi S_lo) (OwnW.sfS (List.mem_cons_self ..) OwnW.sf0) (argsL := [(.ref b41)]) (rest := [(.ref b43)]) rfl rfl (OwnW.lenA pd___C_V rfl) (W := 1) (Nat.le_of_eq rfl) (by decide) (by decide) (by decide) (by decide) rfl ?_
    intro T45 h45 g45 hle45 X45 ⟨k45, t45, z45, sN⟩
    have ne_b43_t45 : b43 ≠ t45 := Nat.ne_of_lt (Nat.lt_of_lt_of_le A43.lt z45)
    have ne_b41_t45 : b41 ≠ t45 := Nat.ne_of_lt (Nat.lt_of_lt_of_le fk44.lt z45)
    have K45 := k45
    have O45 := O43.keep K45 (allS ge_b43 all0)
    have Z45 : Keep h0 h45 [] := Z43.trans K45 (allS (P := fun x => x ∈ [] ∨ h0.size ≤ x) (Or.inr sz_b43) all0)
    refine OwnW.astore X45 (l' := #[.val (.int p0), .val (.int p1), .val (.int p2), .val (.int p3), .val (.int (1 : Int32)), .val (.ref b41), .val (.ref b43), .unset, .unset, .unset, .unset, .unset, .unset]) (n := 66) at_64 rfl rfl rfl ?_
    refine OwnW.aload X45 (n := 68) at_66 rfl rfl rfl ?_
    have fk46 := (fk44.keep K45 (ninS ne_b41_b43 nin0))
    have fk47 := (A43.keep K45)
    refine OwnW.call_static_v X45 (z := (⟨"com/example/conversation_framework/conversationframework/Component", "undeclared", "(Ljava/lang/String;)Ljava/lang/IllegalArgumentException;"⟩ : MethodName)) (n := 71) at_68 (hw _ (List.mem_of_getElem? (i := 22) rfl)) (hw _ (List.mem_of_getElem? (i := 23) rfl)) (hw _ (List.mem_of_getElem? (i := 25) rfl)) (hw _ (List.mem_of_getElem? (i := 24) rfl)) (by decide) (rm4A l Z a0 hw hE [] b43 h45 n0 O45 t45 ([ua] : List Nat) (by simp) hus sN zc hzc S_compact fm hfm S_fm S_ad S_hi S_lo xu xs S_us S_ss hst (ThS.keep Z45 (fun _ q => nomatch q) TS0)) OwnW.sf0 (argsL := [(.ref b43)]) (rest := []) rfl rfl (OwnW.lenA pd__Ljava_lang_String__Ljava_lang_IllegalArgumentException_ rfl) (W := 0) (Nat.le_of_eq rfl) (by decide) (by decide) (by decide) (by decide) rfl ?_
    intro T48 h48 w48 g48 hle48 X48 ⟨x48, m48, y48, q1, k48, z48, e48, un48, fm48, fc48, sU48⟩
    subst q1
    have K48 := k48
    have O48 := O45.keep K48 all0
    have Z48 : Keep h0 h48 [] := Z45.trans K48 (fun x hx => nomatch hx)
    refine OwnW.astore X48 (l' := #[.val (.int p0), .val (.int p1), .val (.int p2), .val (.int p3), .val (.int (1 : Int32)), .val (.ref b41), .val (.ref b43), .val (.ref x48), .unset, .unset, .unset, .unset, .unset]) (n := 73) at_71 rfl rfl rfl ?_
    refine OwnW.ldcS X48 (bs := (([] : List Int32)).map lo8) (nn := 0) (text := "") (n := 75) at_73 (hw _ (List.mem_of_getElem? (i := 219) rfl)) (fun d hd => hw d ((by decide +kernel : ∀ d ∈ Bundle.stringAtoms, d ∈ tables_1) d hd)) (by decide) ⟨by decide, rfl⟩ (by decide) (by decide) (by decide) (by decide) (by decide) rfl ?_
    intro T49 h49 l49 t49 X49 E49 e49 c49 v49 a49 n49
    have K49 := (OwnW.kExt E49)
    have O49 := O48.keep K49 all0
    have Z49 : Keep h0 h49 [] := Z48.trans K49 (fun x hx => nomatch hx)
    have sE : own_U Z h49 l49 t49 ([] : List Nat) := Or.inl ⟨(fun _ q => nomatch q), ⟨e49, c49, v49, a49⟩⟩
    have fk50 := ((fk46.keep K48 nin0).keep K49 nin0)
    have fk51 := ((fk47.keep K48).keep K49)
    have fk52 := ((sN.keep K48 nin0 nin0).keep K49 nin0 nin0)
    have fk53 := (e48.keep K49)
    have fk54 := (un48.keep K49 nin0)
    have fk55 := (fm48.keep K49 nin0)
    have fk56 := (fc48.keep K49 nin0)
    have fk57 := (sU48.keep K49 nin0 nin0)
    refine OwnW.call_static_v X49 (z := (⟨"com/example/conversation_framework/conversationframework/Component", "undeclared", "(Ljava/lang/String;)Ljava/lang/IllegalArgumentException;"⟩ : MethodName)) (n := 78) at_75 (hw _ (List.mem_of_getElem? (i := 22) rfl)) (hw _ (List.mem_of_getElem? (i := 23) rfl)) (hw _ (List.mem_of_getElem? (i := 25) rfl)) (hw _ (List.mem_of_getElem? (i := 24) rfl)) (by decide) (rm4A l Z a0 hw hE [] l49 h49 n0 O49 t49 ([] : List Nat) (by simp) (fun _ q => nomatch q) sE zc hzc S_compact fm hfm S_fm S_ad S_hi S_lo xu xs S_us S_ss hst (ThS.keep Z49 (fun _ q => nomatch q) TS0)) OwnW.sf0 (argsL := [(.ref l49)]) (rest := []) rfl rfl (OwnW.lenA pd__Ljava_lang_String__Ljava_lang_IllegalArgumentException_ rfl) (W := 0) (Nat.le_of_eq rfl) (by decide) (by decide) (by decide) (by decide) rfl ?_
    intro T58 h58 w58 g58 hle58 X58 ⟨x58, m58, y58, q1, k58, z58, e58, un58, fm58, fc58, sU58⟩
    subst q1
    have K58 := k58
    have O58 := O49.keep K58 all0
    have Z58 : Keep h0 h58 [] := Z49.trans K58 (fun x hx => nomatch hx)
    refine OwnW.astore X58 (l' := #[.val (.int p0), .val (.int p1), .val (.int p2), .val (.int p3), .val (.int (1 : Int32)), .val (.ref b41), .val (.ref b43), .val (.ref x48), .val (.ref x58), .unset, .unset, .unset, .unset]) (n := 80) at_78 rfl rfl rfl ?_
    refine OwnW.aload X58 (n := 82) at_80 rfl rfl rfl ?_
    refine OwnW.ifnull_n X58 (n2 := 85) at_82 rfl ?_
    refine OwnW.aload X58 (n := 87) at_85 rfl rfl rfl ?_
    refine OwnW.ifnonnull_y X58 (n1 := 92) at_87 (by decide) rfl ?_
    refine OwnW.aload X58 (n := 94) at_92 rfl rfl rfl ?_
    refine OwnW.call_virtualUp_v X58 (z := (⟨"java/lang/Throwable", "getMessage", "()Ljava/lang/String;"⟩ : MethodName)) (yv := (⟨"java/lang/IllegalArgumentException", "getMessage", "()Ljava/lang/String;"⟩ : MethodName)) (owner := "java/lang/Throwable") (a := x58) (C := "java/lang/IllegalArgumentException") (n := 97) at_94 (hw _ (List.mem_of_getElem? (i := 220) rfl)) (hw _ (List.mem_of_getElem? (i := 221) rfl)) (hw _ (List.mem_of_getElem? (i := 222) rfl)) (hw _ (List.mem_of_getElem? (i := 223) rfl)) (hw _ (List.mem_of_getElem? (i := 224) rfl)) (hw _ (List.mem_of_getElem? (i := 225) rfl)) (hw _ (List.mem_of_getElem? (i := 180) rfl)) (by decide) e58 (rm34 l Z a0 hw hE [] x58 h58 n0 m58 fm58) OwnW.sf0 (argsL := []) (rest := []) rfl rfl (OwnW.lenA pd___Ljava_lang_String_ rfl) (W := 0) (Nat.le_of_eq rfl) (by decide) (by decide) (by decide) (by decide) rfl ?_
    intro T59 h59 w59 g59 hle59 X59 ⟨q1, q2⟩
    subst q1 q2
    refine OwnW.astore X59 (l' := #[.val (.int p0), .val (.int p1), .val (.int p2), .val (.int p3), .val (.int (1 : Int32)), .val (.ref b41), .val (.ref b43), .val (.ref x48), .val (.ref x58), .val (.ref m58), .unset, .unset, .unset]) (n := 99) at_97 rfl rfl rfl ?_
    refine OwnW.aload X59 (n := 101) at_99 rfl rfl rfl ?_
    have fk60 := (fk55.keep K58 nin0)
    have fk62 := (fk53.keep K58)
    refine OwnW.call_virtualUp_v X59 (z := (⟨"java/lang/Throwable", "getMessage", "()Ljava/lang/String;"⟩ : MethodName)) (yv := (⟨"java/lang/IllegalArgumentException", "getMessage", "()Ljava/lang/String;"⟩ : MethodName)) (owner := "java/lang/Throwable") (a := x48) (C := "java/lang/IllegalArgumentException") (n := 104) at_101 (hw _ (List.mem_of_getElem? (i := 220) rfl)) (hw _ (List.mem_of_getElem? (i := 221) rfl)) (hw _ (List.mem_of_getElem? (i := 222) rfl)) (hw _ (List.mem_of_getElem? (i := 223) rfl)) (hw _ (List.mem_of_getElem? (i := 224) rfl)) (hw _ (List.mem_of_getElem? (i := 225) rfl)) (hw _ (List.mem_of_getElem? (i := 180) rfl)) (by decide) fk62 (rm34 l Z a0 hw hE [] x48 h58 n0 m48 fk60) OwnW.sf0 (argsL := []) (rest := []) rfl rfl (OwnW.lenA pd___Ljava_lang_String_ rfl) (W := 0) (Nat.le_of_eq rfl) (by decide) (by decide) (by decide) (by decide) rfl ?_
    intro T61 h61 w61 g61 hle61 X61 ⟨q1, q2⟩
    subst q1 q2
    refine OwnW.astore X61 (l' := #[.val (.int p0), .val (.int p1), .val (.int p2), .val (.int p3), .val (.int (1 : Int32)), .val (.ref b41), .val (.ref b43), .val (.ref x48), .val (.ref x58), .val (.ref m58), .val (.ref m48), .unset, .unset]) (n := 106) at_104 rfl rfl rfl ?_
    refine OwnW.aload X61 (n := 108) at_106 rfl rfl rfl ?_
    refine OwnW.ifnull_n X61 (n2 := 111) at_108 rfl ?_
    refine OwnW.aload X61 (n := 113) at_111 rfl rfl rfl ?_
    refine OwnW.ifnonnull_y X61 (n1 := 118) at_113 (by decide) rfl ?_
    refine OwnW.aload X61 (n := 120) at_118 rfl rfl rfl ?_
    refine OwnW.ldcS X61 (bs := (own_pre.map Int32.ofNat).map lo8) (nn := 156) (text := "no component is declared with the name ") (n := 122) at_120 (hw _ (List.mem_of_getElem? (i := 226) rfl)) (fun d hd => hw d ((by decide +kernel : ∀ d ∈ Bundle.stringAtoms, d ∈ tables_1) d hd)) (by decide) ⟨by decide, rfl⟩ (by decide) (by decide) (by decide) (by decide) (by decide) rfl ?_
    intro T63 h63 l63 t63 X63 E63 e63 c63 v63 a63 n63
    have K63 := (OwnW.kExt E63)
    have O63 := O58.keep K63 all0
    have Z63 : Keep h0 h63 [] := Z58.trans K63 (fun x hx => nomatch hx)
    have fk64 := (sU58.keep K63 nin0 nin0)
    have sB := own_base fk64
    refine OwnW.call_virtual_v X63 (z := (⟨"java/lang/String", "equals", "(Ljava/lang/Object;)Z"⟩ : MethodName)) (yv := (⟨"java/lang/String", "equals", "(Ljava/lang/Object;)Z"⟩ : MethodName)) (a := m58) (C := "java/lang/String") (n := 125) at_122 (hw _ (List.mem_of_getElem? (i := 227) rfl)) (hw _ (List.mem_of_getElem? (i := 228) rfl)) (hw _ (List.mem_of_getElem? (i := 229) rfl)) (hw _ (List.mem_of_getElem? (i := 230) rfl)) (fun hz => notFace_of_selects (args := #[]) (mvT hz (hw _ (List.mem_of_getElem? (i := 230) rfl)))) (hw _ (List.mem_of_getElem? (i := 231) rfl)) (hw _ (List.mem_of_getElem? (i := 3) rfl)) (by decide) sB.1 (rm35 l Z a0 hw hE [] m58 l63 h63 n0 O63 y58 t63 (own_pre.map Int32.ofNat) (own_pre.map Int32.ofNat) own_preLat own_preLat sB ⟨e63, c63, v63, a63⟩ zc hzc S_compact) OwnW.sf0 (argsL := [(.ref l63)]) (rest := []) rfl rfl (OwnW.lenA pd__Ljava_lang_Object__Z rfl) (W := 0) (Nat.le_of_eq rfl) (by decide) (by decide) (by decide) (by decide) rfl ?_
    intro T65 h65 w65 g65 hle65 X65 ⟨q1, q2⟩
    subst q1 q2
    rw [if_pos rfl]
    refine OwnW.if_ne X65  (n1 := 130) (n2 := 128) at_125 (by decide) rfl rfl (fun _ => ?_) (fun q => absurd q ((by decide) : ¬ (1 : Int32) = 0))
    refine OwnW.aload X65 (n := 132) at_130 rfl rfl rfl ?_
    have eMbase := own_U.exa fk64
    refine OwnW.call_virtual_v X65 (z := (⟨"java/lang/String", "length", "()I"⟩ : MethodName)) (yv := (⟨"java/lang/String", "length", "()I"⟩ : MethodName)) (a := m58) (C := "java/lang/String") (n := 135) at_132 (hw _ (List.mem_of_getElem? (i := 237) rfl)) (hw _ (List.mem_of_getElem? (i := 59) rfl)) (hw _ (List.mem_of_getElem? (i := 60) rfl)) (hw _ (List.mem_of_getElem? (i := 61) rfl)) (fun hz => notFace_of_selects (args := #[]) (mvT hz (hw _ (List.mem_of_getElem? (i := 61) rfl)))) (hw _ (List.mem_of_getElem? (i := 62) rfl)) (hw _ (List.mem_of_getElem? (i := 3) rfl)) (by decide) eMbase (rmLEN l Z a0 hw hE [] m58 h63 n0 O63 y58 (own_pre ++ ([] : List Nat)) (by simp [own_pre]) fk64 zc hzc S_compact) OwnW.sf0 (argsL := []) (rest := []) rfl rfl (OwnW.lenA pd___I rfl) (W := 0) (Nat.le_of_eq rfl) (by decide) (by decide) (by decide) (by decide) rfl ?_
    intro T66 h66 w66 g66 hle66 X66 ⟨q1, q2⟩
    subst q1 q2
    rw [show Int32.ofNat (own_pre ++ ([] : List Nat)).length = (39 : Int32) from rfl]
    refine OwnW.istore X66 (l' := #[.val (.int p0), .val (.int p1), .val (.int p2), .val (.int p3), .val (.int (1 : Int32)), .val (.ref b41), .val (.ref b43), .val (.ref x48), .val (.ref x58), .val (.ref m58), .val (.ref m48), .val (.int (39 : Int32)), .unset]) (n := 137) at_135 rfl rfl ?_
    refine OwnW.aload X66 (n := 139) at_137 rfl rfl rfl ?_
    have fk67 := ((fk57.keep K58 nin0 nin0).keep K63 nin0 nin0)
    have eMerr := own_U.exa fk67
    refine OwnW.call_virtual_v X66 (z := (⟨"java/lang/String", "length", "()I"⟩ : MethodName)) (yv := (⟨"java/lang/String", "length", "()I"⟩ : MethodName)) (a := m48) (C := "java/lang/String") (n := 142) at_139 (hw _ (List.mem_of_getElem? (i := 237) rfl)) (hw _ (List.mem_of_getElem? (i := 59) rfl)) (hw _ (List.mem_of_getElem? (i := 60) rfl)) (hw _ (List.mem_of_getElem? (i := 61) rfl)) (fun hz => notFace_of_selects (args := #[]) (mvT hz (hw _ (List.mem_of_getElem? (i := 61) rfl)))) (hw _ (List.mem_of_getElem? (i := 62) rfl)) (hw _ (List.mem_of_getElem? (i := 3) rfl)) (by decide) eMerr (rmLEN l Z a0 hw hE [] m48 h63 n0 O63 y48 (own_pre ++ ([ua] : List Nat)) (by simp [own_pre]) fk67 zc hzc S_compact) OwnW.sf0 (argsL := []) (rest := []) rfl rfl (OwnW.lenA pd___I rfl) (W := 0) (Nat.le_of_eq rfl) (by decide) (by decide) (by decide) (by decide) rfl ?_
    intro T68 h68 w68 g68 hle68 X68 ⟨q1, q2⟩
    subst q1 q2
    rw [show Int32.ofNat (own_pre ++ ([ua] : List Nat)).length = (40 : Int32) from rfl]
    refine OwnW.iload X68 (n := 144) at_142 rfl rfl ?_
    refine OwnW.iload X68 (n := 146) at_144 rfl rfl ?_
    refine OwnW.iadd X68 (n := 147) at_146 rfl ?_
    rw [show (((39 : Int32) + (1 : Int32)) : Int32) = (40 : Int32) from by decide]
    refine OwnW.ic_eq X68  (n1 := 152) (n2 := 150) at_147 (by decide) rfl rfl (fun _ => ?_) (fun q => absurd ((by decide) : (40 : Int32) = (40 : Int32)) q)
    refine OwnW.aload X68 (n := 154) at_152 rfl rfl rfl ?_
    refine OwnW.iconst X68 (z := (0 : Int32)) (n := 155) at_154 rfl rfl ?_
    refine OwnW.call_virtual_v X68 (z := (⟨"java/lang/String", "charAt", "(I)C"⟩ : MethodName)) (yv := (⟨"java/lang/String", "charAt", "(I)C"⟩ : MethodName)) (a := m48) (C := "java/lang/String") (n := 158) at_155 (hw _ (List.mem_of_getElem? (i := 238) rfl)) (hw _ (List.mem_of_getElem? (i := 239) rfl)) (hw _ (List.mem_of_getElem? (i := 240) rfl)) (hw _ (List.mem_of_getElem? (i := 241) rfl)) (fun hz => notFace_of_selects (args := #[]) (mvT hz (hw _ (List.mem_of_getElem? (i := 241) rfl)))) (hw _ (List.mem_of_getElem? (i := 242) rfl)) (hw _ (List.mem_of_getElem? (i := 3) rfl)) (by decide) eMerr (rmCA l Z a0 hw hE [] m48 h63 n0 O63 y48 (own_pre ++ ([ua] : List Nat)) (by simp [own_pre]) 0 (by simp [own_pre]) (own_pre16 _ hus) fk67 zc hzc S_compact fm hfm S_fm S_ad S_hi S_lo) OwnW.sf0 (argsL := [(.int (0 : Int32))]) (rest := []) rfl rfl (OwnW.lenA pd__I_C rfl) (W := 0) (Nat.le_of_eq rfl) (by decide) (by decide) (by decide) (by decide) rfl ?_
    intro T69 h69 w69 g69 hle69 X69 ⟨q1, q2⟩
    subst q1 q2
    rw [show Int32.ofNat ((own_pre ++ ([ua] : List Nat)).getD 0 0) = (110 : Int32) from rfl]
    refine OwnW.bipush X69 (z := (110 : Int32)) (n := 160) at_158 rfl rfl ?_
    refine OwnW.ic_ne X69  (n1 := 195) (n2 := 163) at_160 (by decide) rfl rfl (fun q => absurd ((by decide) : (110 : Int32) = (110 : Int32)) q) (fun _ => ?_)
    refine OwnW.aload X69 (n := 165) at_163 rfl rfl rfl ?_
    refine OwnW.iload X69 (n := 167) at_165 rfl rfl ?_
    refine OwnW.iconst X69 (z := (2 : Int32)) (n := 168) at_167 rfl rfl ?_
    refine OwnW.isub X69 (n := 169) at_168 rfl ?_
    rw [show (((39 : Int32) - (2 : Int32)) : Int32) = (37 : Int32) from by decide]
    refine OwnW.call_virtual_v X69 (z := (⟨"java/lang/String", "charAt", "(I)C"⟩ : MethodName)) (yv := (⟨"java/lang/String", "charAt", "(I)C"⟩ : MethodName)) (a := m48) (C := "java/lang/String") (n := 172) at_169 (hw _ (List.mem_of_getElem? (i := 238) rfl)) (hw _ (List.mem_of_getElem? (i := 239) rfl)) (hw _ (List.mem_of_getElem? (i := 240) rfl)) (hw _ (List.mem_of_getElem? (i := 241) rfl)) (fun hz => notFace_of_selects (args := #[]) (mvT hz (hw _ (List.mem_of_getElem? (i := 241) rfl)))) (hw _ (List.mem_of_getElem? (i := 242) rfl)) (hw _ (List.mem_of_getElem? (i := 3) rfl)) (by decide) eMerr (rmCA l Z a0 hw hE [] m48 h63 n0 O63 y48 (own_pre ++ ([ua] : List Nat)) (by simp [own_pre]) 37 (by simp [own_pre]) (own_pre16 _ hus) fk67 zc hzc S_compact fm hfm S_fm S_ad S_hi S_lo) OwnW.sf0 (argsL := [(.int (37 : Int32))]) (rest := []) rfl rfl (OwnW.lenA pd__I_C rfl) (W := 0) (Nat.le_of_eq rfl) (by decide) (by decide) (by decide) (by decide) rfl ?_
    intro T70 h70 w70 g70 hle70 X70 ⟨q1, q2⟩
    subst q1 q2
    rw [show Int32.ofNat ((own_pre ++ ([ua] : List Nat)).getD 37 0) = (101 : Int32) from rfl]
    refine OwnW.bipush X70 (z := (101 : Int32)) (n := 174) at_172 rfl rfl ?_
    refine OwnW.ic_ne X70  (n1 := 195) (n2 := 177) at_174 (by decide) rfl rfl (fun q => absurd ((by decide) : (101 : Int32) = (101 : Int32)) q) (fun _ => ?_)
    refine OwnW.aload X70 (n := 179) at_177 rfl rfl rfl ?_
    refine OwnW.iload X70 (n := 181) at_179 rfl rfl ?_
    refine OwnW.iconst X70 (z := (1 : Int32)) (n := 182) at_181 rfl rfl ?_
    refine OwnW.isub X70 (n := 183) at_182 rfl ?_
    rw [show (((39 : Int32) - (1 : Int32)) : Int32) = (38 : Int32) from by decide]
    refine OwnW.call_virtual_v X70 (z := (⟨"java/lang/String", "charAt", "(I)C"⟩ : MethodName)) (yv := (⟨"java/lang/String", "charAt", "(I)C"⟩ : MethodName)) (a := m48) (C := "java/lang/String") (n := 186) at_183 (hw _ (List.mem_of_getElem? (i := 238) rfl)) (hw _ (List.mem_of_getElem? (i := 239) rfl)) (hw _ (List.mem_of_getElem? (i := 240) rfl)) (hw _ (List.mem_of_getElem? (i := 241) rfl)) (fun hz => notFace_of_selects (args := #[]) (mvT hz (hw _ (List.mem_of_getElem? (i := 241) rfl)))) (hw _ (List.mem_of_getElem? (i := 242) rfl)) (hw _ (List.mem_of_getElem? (i := 3) rfl)) (by decide) eMerr (rmCA l Z a0 hw hE [] m48 h63 n0 O63 y48 (own_pre ++ ([ua] : List Nat)) (by simp [own_pre]) 38 (by simp [own_pre]) (own_pre16 _ hus) fk67 zc hzc S_compact fm hfm S_fm S_ad S_hi S_lo) OwnW.sf0 (argsL := [(.int (38 : Int32))]) (rest := []) rfl rfl (OwnW.lenA pd__I_C rfl) (W := 0) (Nat.le_of_eq rfl) (by decide) (by decide) (by decide) (by decide) rfl ?_
    intro T71 h71 w71 g71 hle71 X71 ⟨q1, q2⟩
    subst q1 q2
    rw [show Int32.ofNat ((own_pre ++ ([ua] : List Nat)).getD 38 0) = (32 : Int32) from rfl]
    refine OwnW.bipush X71 (z := (32 : Int32)) (n := 188) at_186 rfl rfl ?_
    refine OwnW.ic_ne X71  (n1 := 195) (n2 := 191) at_188 (by decide) rfl rfl (fun q => absurd ((by decide) : (32 : Int32) = (32 : Int32)) q) (fun _ => ?_)
    refine OwnW.iconst X71 (z := (1 : Int32)) (n := 192) at_191 rfl rfl ?_
    refine OwnW.goto X71 (n := 196) at_192 (by decide) rfl ?_
    refine OwnW.istore X71 (l' := #[.val (.int p0), .val (.int p1), .val (.int p2), .val (.int p3), .val (.int (1 : Int32)), .val (.ref b41), .val (.ref b43), .val (.ref x48), .val (.ref x58), .val (.ref m58), .val (.ref m48), .val (.int (39 : Int32)), .val (.int (1 : Int32))]) (n := 198) at_196 rfl rfl ?_
    refine OwnW.iload X71 (n := 200) at_198 rfl rfl ?_
    refine OwnW.if_le X71  (n1 := 229) (n2 := 203) at_200 (by decide) rfl rfl (fun q => absurd ((by decide) : 0 < (1 : Int32)) q) (fun _ => ?_)
    refine OwnW.iload X71 (n := 205) at_203 rfl rfl ?_
    refine OwnW.if_eq X71  (n1 := 226) (n2 := 208) at_205 (by decide) rfl rfl (fun q => absurd q ((by decide) : ¬ (1 : Int32) = 0)) (fun _ => ?_)
    refine OwnW.aload X71 (n := 210) at_208 rfl rfl rfl ?_
    refine OwnW.iload X71 (n := 212) at_210 rfl rfl ?_
    refine OwnW.call_virtual_v X71 (z := (⟨"java/lang/String", "charAt", "(I)C"⟩ : MethodName)) (yv := (⟨"java/lang/String", "charAt", "(I)C"⟩ : MethodName)) (a := m48) (C := "java/lang/String") (n := 215) at_212 (hw _ (List.mem_of_getElem? (i := 238) rfl)) (hw _ (List.mem_of_getElem? (i := 239) rfl)) (hw _ (List.mem_of_getElem? (i := 240) rfl)) (hw _ (List.mem_of_getElem? (i := 241) rfl)) (fun hz => notFace_of_selects (args := #[]) (mvT hz (hw _ (List.mem_of_getElem? (i := 241) rfl)))) (hw _ (List.mem_of_getElem? (i := 242) rfl)) (hw _ (List.mem_of_getElem? (i := 3) rfl)) (by decide) eMerr (rmCA l Z a0 hw hE [] m48 h63 n0 O63 y48 (own_pre ++ ([ua] : List Nat)) (by simp [own_pre]) 39 (by simp [own_pre]) (own_pre16 _ hus) fk67 zc hzc S_compact fm hfm S_fm S_ad S_hi S_lo) OwnW.sf0 (argsL := [(.int (39 : Int32))]) (rest := []) rfl rfl (OwnW.lenA pd__I_C rfl) (W := 0) (Nat.le_of_eq rfl) (by decide) (by decide) (by decide) (by decide) rfl ?_
    intro T72 h72 w72 g72 hle72 X72 ⟨q1, q2⟩
    subst q1 q2
    rw [show Int32.ofNat ((own_pre ++ ([ua] : List Nat)).getD 39 0) = (Int32.ofNat ua) from rfl]
    refine OwnW.aload X72 (n := 217) at_215 rfl rfl rfl ?_
    refine OwnW.iconst X72 (z := (0 : Int32)) (n := 218) at_217 rfl rfl ?_
    have fk73 := ((fk50.keep K58 nin0).keep K63 nin0)
    refine OwnW.caload X72 (i := 0) (v := (.int (Int32.ofNat ua))) (n := 219) at_218 fk73 rfl rfl rfl ?_
    refine OwnW.ic_ne X72  (n1 := 226) (n2 := 222) at_219 (by decide) rfl rfl (fun q => absurd (rfl : (Int32.ofNat ua) = (Int32.ofNat ua)) q) (fun _ => ?_)
    refine OwnW.iconst X72 (z := (1 : Int32)) (n := 223) at_222 rfl rfl ?_
    refine OwnW.goto X72 (n := 227) at_223 (by decide) rfl ?_
    refine OwnW.istore X72 (l' := #[.val (.int p0), .val (.int p1), .val (.int p2), .val (.int p3), .val (.int (1 : Int32)), .val (.ref b41), .val (.ref b43), .val (.ref x48), .val (.ref x58), .val (.ref m58), .val (.ref m48), .val (.int (39 : Int32)), .val (.int (1 : Int32))]) (n := 229) at_227 rfl rfl ?_
    refine OwnW.iload X72 (n := 231) at_229 rfl rfl ?_
    refine OwnW.iconst X72 (z := (1 : Int32)) (n := 232) at_231 rfl rfl ?_
    refine OwnW.ic_le X72  (n1 := 263) (n2 := 235) at_232 (by decide) rfl rfl (fun _ => ?_) (fun q => absurd q ((by decide) : ¬ (1 : Int32) < (1 : Int32)))
    refine OwnW.iload X72 (n := 265) at_263 rfl rfl ?_
    refine OwnW.iconst X72 (z := (2 : Int32)) (n := 266) at_265 rfl rfl ?_
    refine OwnW.ic_le X72  (n1 := 297) (n2 := 269) at_266 (by decide) rfl rfl (fun _ => ?_) (fun q => absurd q ((by decide) : ¬ (2 : Int32) < (1 : Int32)))
    refine OwnW.iload X72 (n := 299) at_297 rfl rfl ?_
    refine OwnW.if_eq X72  (n1 := 322) (n2 := 302) at_299 (by decide) rfl rfl (fun q => absurd q ((by decide) : ¬ (1 : Int32) = 0)) (fun _ => ?_)
    refine OwnW.aload X72 (n := 304) at_302 rfl rfl rfl ?_
    have fk74 := (fk62.keep K63)
    have fk75 := ((fk54.keep K58 nin0).keep K63 nin0)
    have fk76 := ((fk56.keep K58 nin0).keep K63 nin0)
    refine OwnW.getCause X72 (C := "java/lang/IllegalArgumentException") (n := 307) (W := 0) at_304 (hw _ (List.mem_of_getElem? (i := 259) rfl)) (hw _ (List.mem_of_getElem? (i := 260) rfl)) (hw _ (List.mem_of_getElem? (i := 261) rfl)) (hw _ (List.mem_of_getElem? (i := 262) rfl)) (hw _ (List.mem_of_getElem? (i := 263) rfl)) (hw _ (List.mem_of_getElem? (i := 264) rfl)) (hw _ (List.mem_of_getElem? (i := 180) rfl)) (hw _ (List.mem_of_getElem? (i := 183) rfl)) fk74 fk75 fk76 rfl (by decide) (Nat.le_of_eq rfl) (by decide) rfl (by decide) (by decide) ?_
    intro T77 X77
    refine OwnW.ifnonnull_n X77 (n2 := 310) at_307 rfl ?_
    refine OwnW.aload X77 (n := 312) at_310 rfl rfl rfl ?_
    have fk78 := (e58.keep K63)
    have fk79 := (un58.keep K63 nin0)
    have fk80 := (fc58.keep K63 nin0)
    refine OwnW.getCause X77 (C := "java/lang/IllegalArgumentException") (n := 315) (W := 0) at_312 (hw _ (List.mem_of_getElem? (i := 259) rfl)) (hw _ (List.mem_of_getElem? (i := 260) rfl)) (hw _ (List.mem_of_getElem? (i := 261) rfl)) (hw _ (List.mem_of_getElem? (i := 262) rfl)) (hw _ (List.mem_of_getElem? (i := 263) rfl)) (hw _ (List.mem_of_getElem? (i := 264) rfl)) (hw _ (List.mem_of_getElem? (i := 180) rfl)) (hw _ (List.mem_of_getElem? (i := 183) rfl)) fk78 fk79 fk80 rfl (by decide) (Nat.le_of_eq rfl) (by decide) rfl (by decide) (by decide) ?_
    intro T81 X81
    refine OwnW.ifnonnull_n X81 (n2 := 318) at_315 rfl ?_
    refine OwnW.iconst X81 (z := (1 : Int32)) (n := 319) at_318 rfl rfl ?_
    refine OwnW.goto X81 (n := 323) at_319 (by decide) rfl ?_
    exact OwnW.ireturn X81 rfl (Or.inr (Or.inl rfl)) rfl at_323 rfl (by decide) (by decide)
  · rw [q]
    refine OwnW.istore X0 (l' := #[.val (.int p0), .val (.int p1), .val (.int p2), .val (.int p3), .val (.int (2 : Int32)), .unset, .unset, .unset, .unset, .unset, .unset, .unset, .unset]) (n := 5) at_3 rfl rfl ?_
    refine OwnW.iload X0 (n := 7) at_5 rfl rfl ?_
    refine OwnW.newarray X0 (len := 2) (cap := 2) (n := 9) at_7 (hw _ (List.mem_of_getElem? (i := 0) rfl)) rfl (by decide) (by decide) (by decide) (by decide) rfl ?_
    intro T82 h82 b82 gb82 X82 E82 A82
    have ge_b82 : n0 ≤ b82 := by rw [gb82]; exact OwnW.oldLe O0
    have K82 := (OwnW.kExt E82)
    have O82 := O0.keep K82 all0
    have Z82 : Keep h0 h82 [] := Z0.trans K82 (fun x hx => nomatch hx)
    have sz_b82 : h0.size ≤ b82 := by rw [gb82]; exact Z0.1
    replace A82 : Ark Z h82 b82 .char [(.int (0 : Int32)), (.int (0 : Int32))] := A82
    refine OwnW.astore X82 (l' := #[.val (.int p0), .val (.int p1), .val (.int p2), .val (.int p3), .val (.int (2 : Int32)), .val (.ref b82), .unset, .unset, .unset, .unset, .unset, .unset, .unset]) (n := 11) at_9 rfl rfl rfl ?_
    refine OwnW.iload X82 (n := 13) at_11 rfl rfl ?_
    refine OwnW.if_le X82  (n1 := 25) (n2 := 16) at_13 (by decide) rfl rfl (fun q => absurd ((by decide) : 0 < (2 : Int32)) q) (fun _ => ?_)
    refine OwnW.aload X82 (n := 18) at_16 rfl rfl rfl ?_
    refine OwnW.iconst X82 (z := (0 : Int32)) (n := 19) at_18 rfl rfl ?_
    refine OwnW.iloadN X82 (n := 20) at_19 rfl rfl ?_
    refine OwnW.ldc X82 (n := 22) at_20 (hw _ (List.mem_of_getElem? (i := 265) rfl)) rfl ?_
    refine OwnW.iand X82 (n := 23) at_22 rfl ?_
    refine OwnW.i2c X82 (n := 24) at_23 rfl ?_
    obtain ⟨ua, ek0, hua⟩ := own_i2c16 (p1 &&& (65535 : Int32))
    rw [ek0]
    refine OwnW.castore X82 (i := 0) (z := (Int32.ofNat ua)) (n := 25) at_24 A82 rfl (Nat.le_of_ble_eq_true rfl) (own_nar16 hua) ge_b82 (List.mem_cons_self ..) rfl ?_
    intro T83 h83 X83 W83 A83
    have K83 := (Keep.of_wr W83)
    have O83 := O82.keep K83 (allS ge_b82 all0)
    have Z83 : Keep h0 h83 [] := Z82.trans K83 (allS (P := fun x => x ∈ [] ∨ h0.size ≤ x) (Or.inr sz_b82) all0)
    replace A83 : Ark Z h83 b82 .char [(.int (Int32.ofNat ua)), (.int (0 : Int32))] := A83
    refine OwnW.iload X83 (n := 27) at_25 rfl rfl ?_
    refine OwnW.iconst X83 (z := (1 : Int32)) (n := 28) at_27 rfl rfl ?_
    refine OwnW.ic_le X83  (n1 := 40) (n2 := 31) at_28 (by decide) rfl rfl (fun q => absurd ((by decide) : (1 : Int32) < (2 : Int32)) q) (fun _ => ?_)
    refine OwnW.aload X83 (n := 33) at_31 rfl rfl rfl ?_
    refine OwnW.iconst X83 (z := (1 : Int32)) (n := 34) at_33 rfl rfl ?_
    refine OwnW.iloadN X83 (n := 35) at_34 rfl rfl ?_
    refine OwnW.ldc X83 (n := 37) at_35 (hw _ (List.mem_of_getElem? (i := 265) rfl)) rfl ?_
    refine OwnW.iand X83 (n := 38) at_37 rfl ?_
    refine OwnW.i2c X83 (n := 39) at_38 rfl ?_
    obtain ⟨ub, ek1, hub⟩ := own_i2c16 (p2 &&& (65535 : Int32))
    rw [ek1]
    refine OwnW.castore X83 (i := 1) (z := (Int32.ofNat ub)) (n := 40) at_39 A83 rfl (Nat.le_of_ble_eq_true rfl) (own_nar16 hub) ge_b82 (List.mem_cons_self ..) rfl ?_
    intro T84 h84 X84 W84 A84
    have K84 := (Keep.of_wr W84)
    have O84 := O83.keep K84 (allS ge_b82 all0)
    have Z84 : Keep h0 h84 [] := Z83.trans K84 (allS (P := fun x => x ∈ [] ∨ h0.size ≤ x) (Or.inr sz_b82) all0)
    replace A84 : Ark Z h84 b82 .char [(.int (Int32.ofNat ua)), (.int (Int32.ofNat ub))] := A84
    refine OwnW.iload X84 (n := 42) at_40 rfl rfl ?_
    refine OwnW.iconst X84 (z := (2 : Int32)) (n := 43) at_42 rfl rfl ?_
    refine OwnW.ic_le X84  (n1 := 55) (n2 := 46) at_43 (by decide) rfl rfl (fun _ => ?_) (fun q => absurd q ((by decide) : ¬ (2 : Int32) < (2 : Int32)))
    refine OwnW.new X84 (C := "java/lang/String") (k := 4) (n := 58) at_55 (hw _ (List.mem_of_getElem? (i := 1) rfl)) (hw _ (List.mem_of_getElem? (i := 2) rfl)) (hw _ (List.mem_of_getElem? (i := 3) rfl)) (by decide) (by decide) rfl ?_
    intro T85 h85 b85 gb85 X85 E85 A85 D85 U85
    have ne_b82_b85 : b82 ≠ b85 := by rw [gb85]; exact Nat.ne_of_lt A84.lt
    have ge_b85 : n0 ≤ b85 := by rw [gb85]; exact OwnW.oldLe O84
    have K85 := (OwnW.kExt E85)
    have O85 := O84.keep K85 all0
    have Z85 : Keep h0 h85 [] := Z84.trans K85 (fun x hx => nomatch hx)
    have sz_b85 : h0.size ≤ b85 := by rw [gb85]; exact Z84.1
    have F85_value : Fld Z h85 b85 "java/lang/String" "value" "[B" .null := D85 (Or.inr (hw _ (List.mem_of_getElem? (i := 16) rfl))) (ty := (.array .byte)) (by decide)
    have F85_coder : Fld Z h85 b85 "java/lang/String" "coder" "B" (.int (0 : Int32)) := D85 (Or.inr (hw _ (List.mem_of_getElem? (i := 17) rfl))) (ty := .byte) (by decide)
    refine OwnW.dup X85 (n := 59) at_58 rfl rfl ?_
    refine OwnW.aload X85 (n := 61) at_59 rfl rfl rfl ?_
    have hus : ∀ u ∈ ([ua, ub] : List Nat), u ≤ 65535 := by intro v hv; simp at hv; omega
    have fk86 := (A84.keep K85 nin0)
    refine OwnW.call_special_n X85 (z := (⟨"java/lang/String", "<init>", "([C)V"⟩ : MethodName)) (a := b85) (n := 64) at_61 (hw _ (List.mem_of_getElem? (i := 4) rfl)) (hw _ (List.mem_of_getElem? (i := 5) rfl)) (hw _ (List.mem_of_getElem? (i := 6) rfl)) (hw _ (List.mem_of_getElem? (i := 3) rfl)) rfl rfl (by decide) (rm1 l Z a0 hw hE [] b85 b82 h85 n0 O85 ge_b85 A85 _ _ F85_value F85_coder ([ua, ub] : List Nat) (by simp) (by simp) hus fk86 (Ne.symm ne_b82_b85) zc hzc S_compact S_ad S_hi S_lo) (OwnW.sfS (List.mem_cons_self ..) OwnW.sf0) (argsL := [(.ref b82)]) (rest := [(.ref b85)]) rfl rfl (OwnW.lenA pd___C_V rfl) (W := 1) (Nat.le_of_eq rfl) (by decide) (by decide) (by decide) (by decide) rfl ?_
    intro T87 h87 g87 hle87 X87 ⟨k87, t87, z87, sN⟩
    have ne_b85_t87 : b85 ≠ t87 := Nat.ne_of_lt (Nat.lt_of_lt_of_le A85.lt z87)
    have ne_b82_t87 : b82 ≠ t87 := Nat.ne_of_lt (Nat.lt_of_lt_of_le fk86.lt z87)
    have K87 := k87
    have O87 := O85.keep K87 (allS ge_b85 all0)
    have Z87 : Keep h0 h87 [] := Z85.trans K87 (allS (P := fun x => x ∈ [] ∨ h0.size ≤ x) (Or.inr sz_b85) all0)
    refine OwnW.astore X87 (l' := #[.val (.int p0), .val (.int p1), .val (.int p2), .val (.int p3), .val (.int (2 : Int32)), .val (.ref b82), .val (.ref b85), .unset, .unset, .unset, .unset, .unset, .unset]) (n := 66) at_64 rfl rfl rfl ?_
    refine OwnW.aload X87 (n := 68) at_66 rfl rfl rfl ?_
    have fk88 := (fk86.keep K87 (ninS ne_b82_b85 nin0))
    have fk89 := (A85.keep K87)
    refine OwnW.call_static_v X87 (z := (⟨"com/example/conversation_framework/conversationframework/Component", "undeclared", "(Ljava/lang/String;)Ljava/lang/IllegalArgumentException;"⟩ : MethodName)) (n := 71) at_68 (hw _ (List.mem_of_getElem? (i := 22) rfl)) (hw _ (List.mem_of_getElem? (i := 23) rfl)) (hw _ (List.mem_of_getElem? (i := 25) rfl)) (hw _ (List.mem_of_getElem? (i := 24) rfl)) (by decide) (rm4A l Z a0 hw hE [] b85 h87 n0 O87 t87 ([ua, ub] : List Nat) (by simp) hus sN zc hzc S_compact fm hfm S_fm S_ad S_hi S_lo xu xs S_us S_ss hst (ThS.keep Z87 (fun _ q => nomatch q) TS0)) OwnW.sf0 (argsL := [(.ref b85)]) (rest := []) rfl rfl (OwnW.lenA pd__Ljava_lang_String__Ljava_lang_IllegalArgumentException_ rfl) (W := 0) (Nat.le_of_eq rfl) (by decide) (by decide) (by decide) (by decide) rfl ?_
    intro T90 h90 w90 g90 hle90 X90 ⟨x90, m90, y90, q1, k90, z90, e90, un90, fm90, fc90, sU90⟩
    subst q1
    have K90 := k90
    have O90 := O87.keep K90 all0
    have Z90 : Keep h0 h90 [] := Z87.trans K90 (fun x hx => nomatch hx)
    refine OwnW.astore X90 (l' := #[.val (.int p0), .val (.int p1), .val (.int p2), .val (.int p3), .val (.int (2 : Int32)), .val (.ref b82), .val (.ref b85), .val (.ref x90), .unset, .unset, .unset, .unset, .unset]) (n := 73) at_71 rfl rfl rfl ?_
    refine OwnW.ldcS X90 (bs := (([] : List Int32)).map lo8) (nn := 0) (text := "") (n := 75) at_73 (hw _ (List.mem_of_getElem? (i := 219) rfl)) (fun d hd => hw d ((by decide +kernel : ∀ d ∈ Bundle.stringAtoms, d ∈ tables_1) d hd)) (by decide) ⟨by decide, rfl⟩ (by decide) (by decide) (by decide) (by decide) (by decide) rfl ?_
    intro T91 h91 l91 t91 X91 E91 e91 c91 v91 a91 n91
    have K91 := (OwnW.kExt E91)
    have O91 := O90.keep K91 all0
    have Z91 : Keep h0 h91 [] := Z90.trans K91 (fun x hx => nomatch hx)
    have sE : own_U Z h91 l91 t91 ([] : List Nat) := Or.inl ⟨(fun _ q => nomatch q), ⟨e91, c91, v91, a91⟩⟩
    have fk92 := ((fk88.keep K90 nin0).keep K91 nin0)
    have fk93 := ((fk89.keep K90).keep K91)
    have fk94 := ((sN.keep K90 nin0 nin0).keep K91 nin0 nin0)
    have fk95 := (e90.keep K91)
    have fk96 := (un90.keep K91 nin0)
    have fk97 := (fm90.keep K91 nin0)
    have fk98 := (fc90.keep K91 nin0)
    have fk99 := (sU90.keep K91 nin0 nin0)
    refine OwnW.call_static_v X91 (z := (⟨"com/example/conversation_framework/conversationframework/Component", "undeclared", "(Ljava/lang/String;)Ljava/lang/IllegalArgumentException;"⟩ : MethodName)) (n := 78) at_75 (hw _ (List.mem_of_getElem? (i := 22) rfl)) (hw _ (List.mem_of_getElem? (i := 23) rfl)) (hw _ (List.mem_of_getElem? (i := 25) rfl)) (hw _ (List.mem_of_getElem? (i := 24) rfl)) (by decide) (rm4A l Z a0 hw hE [] l91 h91 n0 O91 t91 ([] : List Nat) (by simp) (fun _ q => nomatch q) sE zc hzc S_compact fm hfm S_fm S_ad S_hi S_lo xu xs S_us S_ss hst (ThS.keep Z91 (fun _ q => nomatch q) TS0)) OwnW.sf0 (argsL := [(.ref l91)]) (rest := []) rfl rfl (OwnW.lenA pd__Ljava_lang_String__Ljava_lang_IllegalArgumentException_ rfl) (W := 0) (Nat.le_of_eq rfl) (by decide) (by decide) (by decide) (by decide) rfl ?_
    intro T100 h100 w100 g100 hle100 X100 ⟨x100, m100, y100, q1, k100, z100, e100, un100, fm100, fc100, sU100⟩
    subst q1
    have K100 := k100
    have O100 := O91.keep K100 all0
    have Z100 : Keep h0 h100 [] := Z91.trans K100 (fun x hx => nomatch hx)
    refine OwnW.astore X100 (l' := #[.val (.int p0), .val (.int p1), .val (.int p2), .val (.int p3), .val (.int (2 : Int32)), .val (.ref b82), .val (.ref b85), .val (.ref x90), .val (.ref x100), .unset, .unset, .unset, .unset]) (n := 80) at_78 rfl rfl rfl ?_
    refine OwnW.aload X100 (n := 82) at_80 rfl rfl rfl ?_
    refine OwnW.ifnull_n X100 (n2 := 85) at_82 rfl ?_
    refine OwnW.aload X100 (n := 87) at_85 rfl rfl rfl ?_
    refine OwnW.ifnonnull_y X100 (n1 := 92) at_87 (by decide) rfl ?_
    refine OwnW.aload X100 (n := 94) at_92 rfl rfl rfl ?_
    refine OwnW.call_virtualUp_v X100 (z := (⟨"java/lang/Throwable", "getMessage", "()Ljava/lang/String;"⟩ : MethodName)) (yv := (⟨"java/lang/IllegalArgumentException", "getMessage", "()Ljava/lang/String;"⟩ : MethodName)) (owner := "java/lang/Throwable") (a := x100) (C := "java/lang/IllegalArgumentException") (n := 97) at_94 (hw _ (List.mem_of_getElem? (i := 220) rfl)) (hw _ (List.mem_of_getElem? (i := 221) rfl)) (hw _ (List.mem_of_getElem? (i := 222) rfl)) (hw _ (List.mem_of_getElem? (i := 223) rfl)) (hw _ (List.mem_of_getElem? (i := 224) rfl)) (hw _ (List.mem_of_getElem? (i := 225) rfl)) (hw _ (List.mem_of_getElem? (i := 180) rfl)) (by decide) e100 (rm34 l Z a0 hw hE [] x100 h100 n0 m100 fm100) OwnW.sf0 (argsL := []) (rest := []) rfl rfl (OwnW.lenA pd___Ljava_lang_String_ rfl) (W := 0) (Nat.le_of_eq rfl) (by decide) (by decide) (by decide) (by decide) rfl ?_
    intro T101 h101 w101 g101 hle101 X101 ⟨q1, q2⟩
    subst q1 q2
    refine OwnW.astore X101 (l' := #[.val (.int p0), .val (.int p1), .val (.int p2), .val (.int p3), .val (.int (2 : Int32)), .val (.ref b82), .val (.ref b85), .val (.ref x90), .val (.ref x100), .val (.ref m100), .unset, .unset, .unset]) (n := 99) at_97 rfl rfl rfl ?_
    refine OwnW.aload X101 (n := 101) at_99 rfl rfl rfl ?_
    have fk102 := (fk97.keep K100 nin0)
    have fk104 := (fk95.keep K100)
    refine OwnW.call_virtualUp_v X101 (z := (⟨"java/lang/Throwable", "getMessage", "()Ljava/lang/String;"⟩ : MethodName)) (yv := (⟨"java/lang/IllegalArgumentException", "getMessage", "()Ljava/lang/String;"⟩ : MethodName)) (owner := "java/lang/Throwable") (a := x90) (C := "java/lang/IllegalArgumentException") (n := 104) at_101 (hw _ (List.mem_of_getElem? (i := 220) rfl)) (hw _ (List.mem_of_getElem? (i := 221) rfl)) (hw _ (List.mem_of_getElem? (i := 222) rfl)) (hw _ (List.mem_of_getElem? (i := 223) rfl)) (hw _ (List.mem_of_getElem? (i := 224) rfl)) (hw _ (List.mem_of_getElem? (i := 225) rfl)) (hw _ (List.mem_of_getElem? (i := 180) rfl)) (by decide) fk104 (rm34 l Z a0 hw hE [] x90 h100 n0 m90 fk102) OwnW.sf0 (argsL := []) (rest := []) rfl rfl (OwnW.lenA pd___Ljava_lang_String_ rfl) (W := 0) (Nat.le_of_eq rfl) (by decide) (by decide) (by decide) (by decide) rfl ?_
    intro T103 h103 w103 g103 hle103 X103 ⟨q1, q2⟩
    subst q1 q2
    refine OwnW.astore X103 (l' := #[.val (.int p0), .val (.int p1), .val (.int p2), .val (.int p3), .val (.int (2 : Int32)), .val (.ref b82), .val (.ref b85), .val (.ref x90), .val (.ref x100), .val (.ref m100), .val (.ref m90), .unset, .unset]) (n := 106) at_104 rfl rfl rfl ?_
    refine OwnW.aload X103 (n := 108) at_106 rfl rfl rfl ?_
    refine OwnW.ifnull_n X103 (n2 := 111) at_108 rfl ?_
    refine OwnW.aload X103 (n := 113) at_111 rfl rfl rfl ?_
    refine OwnW.ifnonnull_y X103 (n1 := 118) at_113 (by decide) rfl ?_
    refine OwnW.aload X103 (n := 120) at_118 rfl rfl rfl ?_
    refine OwnW.ldcS X103 (bs := (own_pre.map Int32.ofNat).map lo8) (nn := 156) (text := "no component is declared with the name ") (n := 122) at_120 (hw _ (List.mem_of_getElem? (i := 226) rfl)) (fun d hd => hw d ((by decide +kernel : ∀ d ∈ Bundle.stringAtoms, d ∈ tables_1) d hd)) (by decide) ⟨by decide, rfl⟩ (by decide) (by decide) (by decide) (by decide) (by decide) rfl ?_
    intro T105 h105 l105 t105 X105 E105 e105 c105 v105 a105 n105
    have K105 := (OwnW.kExt E105)
    have O105 := O100.keep K105 all0
    have Z105 : Keep h0 h105 [] := Z100.trans K105 (fun x hx => nomatch hx)
    have fk106 := (sU100.keep K105 nin0 nin0)
    have sB := own_base fk106
    refine OwnW.call_virtual_v X105 (z := (⟨"java/lang/String", "equals", "(Ljava/lang/Object;)Z"⟩ : MethodName)) (yv := (⟨"java/lang/String", "equals", "(Ljava/lang/Object;)Z"⟩ : MethodName)) (a := m100) (C := "java/lang/String") (n := 125) at_122 (hw _ (List.mem_of_getElem? (i := 227) rfl)) (hw _ (List.mem_of_getElem? (i := 228) rfl)) (hw _ (List.mem_of_getElem? (i := 229) rfl)) (hw _ (List.mem_of_getElem? (i := 230) rfl)) (fun hz => notFace_of_selects (args := #[]) (mvT hz (hw _ (List.mem_of_getElem? (i := 230) rfl)))) (hw _ (List.mem_of_getElem? (i := 231) rfl)) (hw _ (List.mem_of_getElem? (i := 3) rfl)) (by decide) sB.1 (rm35 l Z a0 hw hE [] m100 l105 h105 n0 O105 y100 t105 (own_pre.map Int32.ofNat) (own_pre.map Int32.ofNat) own_preLat own_preLat sB ⟨e105, c105, v105, a105⟩ zc hzc S_compact) OwnW.sf0 (argsL := [(.ref l105)]) (rest := []) rfl rfl (OwnW.lenA pd__Ljava_lang_Object__Z rfl) (W := 0) (Nat.le_of_eq rfl) (by decide) (by decide) (by decide) (by decide) rfl ?_
    intro T107 h107 w107 g107 hle107 X107 ⟨q1, q2⟩
    subst q1 q2
    rw [if_pos rfl]
    refine OwnW.if_ne X107  (n1 := 130) (n2 := 128) at_125 (by decide) rfl rfl (fun _ => ?_) (fun q => absurd q ((by decide) : ¬ (1 : Int32) = 0))
    refine OwnW.aload X107 (n := 132) at_130 rfl rfl rfl ?_
    have eMbase := own_U.exa fk106
    refine OwnW.call_virtual_v X107 (z := (⟨"java/lang/String", "length", "()I"⟩ : MethodName)) (yv := (⟨"java/lang/String", "length", "()I"⟩ : MethodName)) (a := m100) (C := "java/lang/String") (n := 135) at_132 (hw _ (List.mem_of_getElem? (i := 237) rfl)) (hw _ (List.mem_of_getElem? (i := 59) rfl)) (hw _ (List.mem_of_getElem? (i := 60) rfl)) (hw _ (List.mem_of_getElem? (i := 61) rfl)) (fun hz => notFace_of_selects (args := #[]) (mvT hz (hw _ (List.mem_of_getElem? (i := 61) rfl)))) (hw _ (List.mem_of_getElem? (i := 62) rfl)) (hw _ (List.mem_of_getElem? (i := 3) rfl)) (by decide) eMbase (rmLEN l Z a0 hw hE [] m100 h105 n0 O105 y100 (own_pre ++ ([] : List Nat)) (by simp [own_pre]) fk106 zc hzc S_compact) OwnW.sf0 (argsL := []) (rest := []) rfl rfl (OwnW.lenA pd___I rfl) (W := 0) (Nat.le_of_eq rfl) (by decide) (by decide) (by decide) (by decide) rfl ?_
    intro T108 h108 w108 g108 hle108 X108 ⟨q1, q2⟩
    subst q1 q2
    rw [show Int32.ofNat (own_pre ++ ([] : List Nat)).length = (39 : Int32) from rfl]
    refine OwnW.istore X108 (l' := #[.val (.int p0), .val (.int p1), .val (.int p2), .val (.int p3), .val (.int (2 : Int32)), .val (.ref b82), .val (.ref b85), .val (.ref x90), .val (.ref x100), .val (.ref m100), .val (.ref m90), .val (.int (39 : Int32)), .unset]) (n := 137) at_135 rfl rfl ?_
    refine OwnW.aload X108 (n := 139) at_137 rfl rfl rfl ?_
    have fk109 := ((fk99.keep K100 nin0 nin0).keep K105 nin0 nin0)
    have eMerr := own_U.exa fk109
    refine OwnW.call_virtual_v X108 (z := (⟨"java/lang/String", "length", "()I"⟩ : MethodName)) (yv := (⟨"java/lang/String", "length", "()I"⟩ : MethodName)) (a := m90) (C := "java/lang/String") (n := 142) at_139 (hw _ (List.mem_of_getElem? (i := 237) rfl)) (hw _ (List.mem_of_getElem? (i := 59) rfl)) (hw _ (List.mem_of_getElem? (i := 60) rfl)) (hw _ (List.mem_of_getElem? (i := 61) rfl)) (fun hz => notFace_of_selects (args := #[]) (mvT hz (hw _ (List.mem_of_getElem? (i := 61) rfl)))) (hw _ (List.mem_of_getElem? (i := 62) rfl)) (hw _ (List.mem_of_getElem? (i := 3) rfl)) (by decide) eMerr (rmLEN l Z a0 hw hE [] m90 h105 n0 O105 y90 (own_pre ++ ([ua, ub] : List Nat)) (by simp [own_pre]) fk109 zc hzc S_compact) OwnW.sf0 (argsL := []) (rest := []) rfl rfl (OwnW.lenA pd___I rfl) (W := 0) (Nat.le_of_eq rfl) (by decide) (by decide) (by decide) (by decide) rfl ?_
    intro T110 h110 w110 g110 hle110 X110 ⟨q1, q2⟩
    subst q1 q2
    rw [show Int32.ofNat (own_pre ++ ([ua, ub] : List Nat)).length = (41 : Int32) from rfl]
    refine OwnW.iload X110 (n := 144) at_142 rfl rfl ?_
    refine OwnW.iload X110 (n := 146) at_144 rfl rfl ?_
    refine OwnW.iadd X110 (n := 147) at_146 rfl ?_
    rw [show (((39 : Int32) + (2 : Int32)) : Int32) = (41 : Int32) from by decide]
    refine OwnW.ic_eq X110  (n1 := 152) (n2 := 150) at_147 (by decide) rfl rfl (fun _ => ?_) (fun q => absurd ((by decide) : (41 : Int32) = (41 : Int32)) q)
    refine OwnW.aload X110 (n := 154) at_152 rfl rfl rfl ?_
    refine OwnW.iconst X110 (z := (0 : Int32)) (n := 155) at_154 rfl rfl ?_
    refine OwnW.call_virtual_v X110 (z := (⟨"java/lang/String", "charAt", "(I)C"⟩ : MethodName)) (yv := (⟨"java/lang/String", "charAt", "(I)C"⟩ : MethodName)) (a := m90) (C := "java/lang/String") (n := 158) at_155 (hw _ (List.mem_of_getElem? (i := 238) rfl)) (hw _ (List.mem_of_getElem? (i := 239) rfl)) (hw _ (List.mem_of_getElem? (i := 240) rfl)) (hw _ (List.mem_of_getElem? (i := 241) rfl)) (fun hz => notFace_of_selects (args := #[]) (mvT hz (hw _ (List.mem_of_getElem? (i := 241) rfl)))) (hw _ (List.mem_of_getElem? (i := 242) rfl)) (hw _ (List.mem_of_getElem? (i := 3) rfl)) (by decide) eMerr (rmCA l Z a0 hw hE [] m90 h105 n0 O105 y90 (own_pre ++ ([ua, ub] : List Nat)) (by simp [own_pre]) 0 (by simp [own_pre]) (own_pre16 _ hus) fk109 zc hzc S_compact fm hfm S_fm S_ad S_hi S_lo) OwnW.sf0 (argsL := [(.int (0 : Int32))]) (rest := []) rfl rfl (OwnW.lenA pd__I_C rfl) (W := 0) (Nat.le_of_eq rfl) (by decide) (by decide) (by decide) (by decide) rfl ?_
    intro T111 h111 w111 g111 hle111 X111 ⟨q1, q2⟩
    subst q1 q2
    rw [show Int32.ofNat ((own_pre ++ ([ua, ub] : List Nat)).getD 0 0) = (110 : Int32) from rfl]
    refine OwnW.bipush X111 (z := (110 : Int32)) (n := 160) at_158 rfl rfl ?_
    refine OwnW.ic_ne X111  (n1 := 195) (n2 := 163) at_160 (by decide) rfl rfl (fun q => absurd ((by decide) : (110 : Int32) = (110 : Int32)) q) (fun _ => ?_)
    refine OwnW.aload X111 (n := 165) at_163 rfl rfl rfl ?_
    refine OwnW.iload X111 (n := 167) at_165 rfl rfl ?_
    refine OwnW.iconst X111 (z := (2 : Int32)) (n := 168) at_167 rfl rfl ?_
    refine OwnW.isub X111 (n := 169) at_168 rfl ?_
    rw [show (((39 : Int32) - (2 : Int32)) : Int32) = (37 : Int32) from by decide]
    refine OwnW.call_virtual_v X111 (z := (⟨"java/lang/String", "charAt", "(I)C"⟩ : MethodName)) (yv := (⟨"java/lang/String", "charAt", "(I)C"⟩ : MethodName)) (a := m90) (C := "java/lang/String") (n := 172) at_169 (hw _ (List.mem_of_getElem? (i := 238) rfl)) (hw _ (List.mem_of_getElem? (i := 239) rfl)) (hw _ (List.mem_of_getElem? (i := 240) rfl)) (hw _ (List.mem_of_getElem? (i := 241) rfl)) (fun hz => notFace_of_selects (args := #[]) (mvT hz (hw _ (List.mem_of_getElem? (i := 241) rfl)))) (hw _ (List.mem_of_getElem? (i := 242) rfl)) (hw _ (List.mem_of_getElem? (i := 3) rfl)) (by decide) eMerr (rmCA l Z a0 hw hE [] m90 h105 n0 O105 y90 (own_pre ++ ([ua, ub] : List Nat)) (by simp [own_pre]) 37 (by simp [own_pre]) (own_pre16 _ hus) fk109 zc hzc S_compact fm hfm S_fm S_ad S_hi S_lo) OwnW.sf0 (argsL := [(.int (37 : Int32))]) (rest := []) rfl rfl (OwnW.lenA pd__I_C rfl) (W := 0) (Nat.le_of_eq rfl) (by decide) (by decide) (by decide) (by decide) rfl ?_
    intro T112 h112 w112 g112 hle112 X112 ⟨q1, q2⟩
    subst q1 q2
    rw [show Int32.ofNat ((own_pre ++ ([ua, ub] : List Nat)).getD 37 0) = (101 : Int32) from rfl]
    refine OwnW.bipush X112 (z := (101 : Int32)) (n := 174) at_172 rfl rfl ?_
    refine OwnW.ic_ne X112  (n1 := 195) (n2 := 177) at_174 (by decide) rfl rfl (fun q => absurd ((by decide) : (101 : Int32) = (101 : Int32)) q) (fun _ => ?_)
    refine OwnW.aload X112 (n := 179) at_177 rfl rfl rfl ?_
    refine OwnW.iload X112 (n := 181) at_179 rfl rfl ?_
    refine OwnW.iconst X112 (z := (1 : Int32)) (n := 182) at_181 rfl rfl ?_
    refine OwnW.isub X112 (n := 183) at_182 rfl ?_
    rw [show (((39 : Int32) - (1 : Int32)) : Int32) = (38 : Int32) from by decide]
    refine OwnW.call_virtual_v X112 (z := (⟨"java/lang/String", "charAt", "(I)C"⟩ : MethodName)) (yv := (⟨"java/lang/String", "charAt", "(I)C"⟩ : MethodName)) (a := m90) (C := "java/lang/String") (n := 186) at_183 (hw _ (List.mem_of_getElem? (i := 238) rfl)) (hw _ (List.mem_of_getElem? (i := 239) rfl)) (hw _ (List.mem_of_getElem? (i := 240) rfl)) (hw _ (List.mem_of_getElem? (i := 241) rfl)) (fun hz => notFace_of_selects (args := #[]) (mvT hz (hw _ (List.mem_of_getElem? (i := 241) rfl)))) (hw _ (List.mem_of_getElem? (i := 242) rfl)) (hw _ (List.mem_of_getElem? (i := 3) rfl)) (by decide) eMerr (rmCA l Z a0 hw hE [] m90 h105 n0 O105 y90 (own_pre ++ ([ua, ub] : List Nat)) (by simp [own_pre]) 38 (by simp [own_pre]) (own_pre16 _ hus) fk109 zc hzc S_compact fm hfm S_fm S_ad S_hi S_lo) OwnW.sf0 (argsL := [(.int (38 : Int32))]) (rest := []) rfl rfl (OwnW.lenA pd__I_C rfl) (W := 0) (Nat.le_of_eq rfl) (by decide) (by decide) (by decide) (by decide) rfl ?_
    intro T113 h113 w113 g113 hle113 X113 ⟨q1, q2⟩
    subst q1 q2
    rw [show Int32.ofNat ((own_pre ++ ([ua, ub] : List Nat)).getD 38 0) = (32 : Int32) from rfl]
    refine OwnW.bipush X113 (z := (32 : Int32)) (n := 188) at_186 rfl rfl ?_
    refine OwnW.ic_ne X113  (n1 := 195) (n2 := 191) at_188 (by decide) rfl rfl (fun q => absurd ((by decide) : (32 : Int32) = (32 : Int32)) q) (fun _ => ?_)
    refine OwnW.iconst X113 (z := (1 : Int32)) (n := 192) at_191 rfl rfl ?_
    refine OwnW.goto X113 (n := 196) at_192 (by decide) rfl ?_
    refine OwnW.istore X113 (l' := #[.val (.int p0), .val (.int p1), .val (.int p2), .val (.int p3), .val (.int (2 : Int32)), .val (.ref b82), .val (.ref b85), .val (.ref x90), .val (.ref x100), .val (.ref m100), .val (.ref m90), .val (.int (39 : Int32)), .val (.int (1 : Int32))]) (n := 198) at_196 rfl rfl ?_
    refine OwnW.iload X113 (n := 200) at_198 rfl rfl ?_
    refine OwnW.if_le X113  (n1 := 229) (n2 := 203) at_200 (by decide) rfl rfl (fun q => absurd ((by decide) : 0 < (2 : Int32)) q) (fun _ => ?_)
    refine OwnW.iload X113 (n := 205) at_203 rfl rfl ?_
    refine OwnW.if_eq X113  (n1 := 226) (n2 := 208) at_205 (by decide) rfl rfl (fun q => absurd q ((by decide) : ¬ (1 : Int32) = 0)) (fun _ => ?_)
    refine OwnW.aload X113 (n := 210) at_208 rfl rfl rfl ?_
    refine OwnW.iload X113 (n := 212) at_210 rfl rfl ?_
    refine OwnW.call_virtual_v X113 (z := (⟨"java/lang/String", "charAt", "(I)C"⟩ : MethodName)) (yv := (⟨"java/lang/String", "charAt", "(I)C"⟩ : MethodName)) (a := m90) (C := "java/lang/String") (n := 215) at_212 (hw _ (List.mem_of_getElem? (i := 238) rfl)) (hw _ (List.mem_of_getElem? (i := 239) rfl)) (hw _ (List.mem_of_getElem? (i := 240) rfl)) (hw _ (List.mem_of_getElem? (i := 241) rfl)) (fun hz => notFace_of_selects (args := #[]) (mvT hz (hw _ (List.mem_of_getElem? (i := 241) rfl)))) (hw _ (List.mem_of_getElem? (i := 242) rfl)) (hw _ (List.mem_of_getElem? (i := 3) rfl)) (by decide) eMerr (rmCA l Z a0 hw hE [] m90 h105 n0 O105 y90 (own_pre ++ ([ua, ub] : List Nat)) (by simp [own_pre]) 39 (by simp [own_pre]) (own_pre16 _ hus) fk109 zc hzc S_compact fm hfm S_fm S_ad S_hi S_lo) OwnW.sf0 (argsL := [(.int (39 : Int32))]) (rest := []) rfl rfl (OwnW.lenA pd__I_C rfl) (W := 0) (Nat.le_of_eq rfl) (by decide) (by decide) (by decide) (by decide) rfl ?_
    intro T114 h114 w114 g114 hle114 X114 ⟨q1, q2⟩
    subst q1 q2
    rw [show Int32.ofNat ((own_pre ++ ([ua, ub] : List Nat)).getD 39 0) = (Int32.ofNat ua) from rfl]
    refine OwnW.aload X114 (n := 217) at_215 rfl rfl rfl ?_
    refine OwnW.iconst X114 (z := (0 : Int32)) (n := 218) at_217 rfl rfl ?_
    have fk115 := ((fk92.keep K100 nin0).keep K105 nin0)
    refine OwnW.caload X114 (i := 0) (v := (.int (Int32.ofNat ua))) (n := 219) at_218 fk115 rfl rfl rfl ?_
    refine OwnW.ic_ne X114  (n1 := 226) (n2 := 222) at_219 (by decide) rfl rfl (fun q => absurd (rfl : (Int32.ofNat ua) = (Int32.ofNat ua)) q) (fun _ => ?_)
    refine OwnW.iconst X114 (z := (1 : Int32)) (n := 223) at_222 rfl rfl ?_
    refine OwnW.goto X114 (n := 227) at_223 (by decide) rfl ?_
    refine OwnW.istore X114 (l' := #[.val (.int p0), .val (.int p1), .val (.int p2), .val (.int p3), .val (.int (2 : Int32)), .val (.ref b82), .val (.ref b85), .val (.ref x90), .val (.ref x100), .val (.ref m100), .val (.ref m90), .val (.int (39 : Int32)), .val (.int (1 : Int32))]) (n := 229) at_227 rfl rfl ?_
    refine OwnW.iload X114 (n := 231) at_229 rfl rfl ?_
    refine OwnW.iconst X114 (z := (1 : Int32)) (n := 232) at_231 rfl rfl ?_
    refine OwnW.ic_le X114  (n1 := 263) (n2 := 235) at_232 (by decide) rfl rfl (fun q => absurd ((by decide) : (1 : Int32) < (2 : Int32)) q) (fun _ => ?_)
    refine OwnW.iload X114 (n := 237) at_235 rfl rfl ?_
    refine OwnW.if_eq X114  (n1 := 260) (n2 := 240) at_237 (by decide) rfl rfl (fun q => absurd q ((by decide) : ¬ (1 : Int32) = 0)) (fun _ => ?_)
    refine OwnW.aload X114 (n := 242) at_240 rfl rfl rfl ?_
    refine OwnW.iload X114 (n := 244) at_242 rfl rfl ?_
    refine OwnW.iconst X114 (z := (1 : Int32)) (n := 245) at_244 rfl rfl ?_
    refine OwnW.iadd X114 (n := 246) at_245 rfl ?_
    rw [show (((39 : Int32) + (1 : Int32)) : Int32) = (40 : Int32) from by decide]
    refine OwnW.call_virtual_v X114 (z := (⟨"java/lang/String", "charAt", "(I)C"⟩ : MethodName)) (yv := (⟨"java/lang/String", "charAt", "(I)C"⟩ : MethodName)) (a := m90) (C := "java/lang/String") (n := 249) at_246 (hw _ (List.mem_of_getElem? (i := 238) rfl)) (hw _ (List.mem_of_getElem? (i := 239) rfl)) (hw _ (List.mem_of_getElem? (i := 240) rfl)) (hw _ (List.mem_of_getElem? (i := 241) rfl)) (fun hz => notFace_of_selects (args := #[]) (mvT hz (hw _ (List.mem_of_getElem? (i := 241) rfl)))) (hw _ (List.mem_of_getElem? (i := 242) rfl)) (hw _ (List.mem_of_getElem? (i := 3) rfl)) (by decide) eMerr (rmCA l Z a0 hw hE [] m90 h105 n0 O105 y90 (own_pre ++ ([ua, ub] : List Nat)) (by simp [own_pre]) 40 (by simp [own_pre]) (own_pre16 _ hus) fk109 zc hzc S_compact fm hfm S_fm S_ad S_hi S_lo) OwnW.sf0 (argsL := [(.int (40 : Int32))]) (rest := []) rfl rfl (OwnW.lenA pd__I_C rfl) (W := 0) (Nat.le_of_eq rfl) (by decide) (by decide) (by decide) (by decide) rfl ?_
    intro T116 h116 w116 g116 hle116 X116 ⟨q1, q2⟩
    subst q1 q2
    rw [show Int32.ofNat ((own_pre ++ ([ua, ub] : List Nat)).getD 40 0) = (Int32.ofNat ub) from rfl]
    refine OwnW.aload X116 (n := 251) at_249 rfl rfl rfl ?_
    refine OwnW.iconst X116 (z := (1 : Int32)) (n := 252) at_251 rfl rfl ?_
    refine OwnW.caload X116 (i := 1) (v := (.int (Int32.ofNat ub))) (n := 253) at_252 fk115 rfl rfl rfl ?_
    refine OwnW.ic_ne X116  (n1 := 260) (n2 := 256) at_253 (by decide) rfl rfl (fun q => absurd (rfl : (Int32.ofNat ub) = (Int32.ofNat ub)) q) (fun _ => ?_)
    refine OwnW.iconst X116 (z := (1 : Int32)) (n := 257) at_256 rfl rfl ?_
    refine OwnW.goto X116 (n := 261) at_257 (by decide) rfl ?_
    refine OwnW.istore X116 (l' := #[.val (.int p0), .val (.int p1), .val (.int p2), .val (.int p3), .val (.int (2 : Int32)), .val (.ref b82), .val (.ref b85), .val (.ref x90), .val (.ref x100), .val (.ref m100), .val (.ref m90), .val (.int (39 : Int32)), .val (.int (1 : Int32))]) (n := 263) at_261 rfl rfl ?_
    refine OwnW.iload X116 (n := 265) at_263 rfl rfl ?_
    refine OwnW.iconst X116 (z := (2 : Int32)) (n := 266) at_265 rfl rfl ?_
    refine OwnW.ic_le X116  (n1 := 297) (n2 := 269) at_266 (by decide) rfl rfl (fun _ => ?_) (fun q => absurd q ((by decide) : ¬ (2 : Int32) < (2 : Int32)))
    refine OwnW.iload X116 (n := 299) at_297 rfl rfl ?_
    refine OwnW.if_eq X116  (n1 := 322) (n2 := 302) at_299 (by decide) rfl rfl (fun q => absurd q ((by decide) : ¬ (1 : Int32) = 0)) (fun _ => ?_)
    refine OwnW.aload X116 (n := 304) at_302 rfl rfl rfl ?_
    have fk117 := (fk104.keep K105)
    have fk118 := ((fk96.keep K100 nin0).keep K105 nin0)
    have fk119 := ((fk98.keep K100 nin0).keep K105 nin0)
    refine OwnW.getCause X116 (C := "java/lang/IllegalArgumentException") (n := 307) (W := 0) at_304 (hw _ (List.mem_of_getElem? (i := 259) rfl)) (hw _ (List.mem_of_getElem? (i := 260) rfl)) (hw _ (List.mem_of_getElem? (i := 261) rfl)) (hw _ (List.mem_of_getElem? (i := 262) rfl)) (hw _ (List.mem_of_getElem? (i := 263) rfl)) (hw _ (List.mem_of_getElem? (i := 264) rfl)) (hw _ (List.mem_of_getElem? (i := 180) rfl)) (hw _ (List.mem_of_getElem? (i := 183) rfl)) fk117 fk118 fk119 rfl (by decide) (Nat.le_of_eq rfl) (by decide) rfl (by decide) (by decide) ?_
    intro T120 X120
    refine OwnW.ifnonnull_n X120 (n2 := 310) at_307 rfl ?_
    refine OwnW.aload X120 (n := 312) at_310 rfl rfl rfl ?_
    have fk121 := (e100.keep K105)
    have fk122 := (un100.keep K105 nin0)
    have fk123 := (fc100.keep K105 nin0)
    refine OwnW.getCause X120 (C := "java/lang/IllegalArgumentException") (n := 315) (W := 0) at_312 (hw _ (List.mem_of_getElem? (i := 259) rfl)) (hw _ (List.mem_of_getElem? (i := 260) rfl)) (hw _ (List.mem_of_getElem? (i := 261) rfl)) (hw _ (List.mem_of_getElem? (i := 262) rfl)) (hw _ (List.mem_of_getElem? (i := 263) rfl)) (hw _ (List.mem_of_getElem? (i := 264) rfl)) (hw _ (List.mem_of_getElem? (i := 180) rfl)) (hw _ (List.mem_of_getElem? (i := 183) rfl)) fk121 fk122 fk123 rfl (by decide) (Nat.le_of_eq rfl) (by decide) rfl (by decide) (by decide) ?_
    intro T124 X124
    refine OwnW.ifnonnull_n X124 (n2 := 318) at_315 rfl ?_
    refine OwnW.iconst X124 (z := (1 : Int32)) (n := 319) at_318 rfl rfl ?_
    refine OwnW.goto X124 (n := 323) at_319 (by decide) rfl ?_
    exact OwnW.ireturn X124 rfl (Or.inr (Or.inl rfl)) rfl at_323 rfl (by decide) (by decide)
  · rw [q]
    refine OwnW.istore X0 (l' := #[.val (.int p0), .val (.int p1), .val (.int p2), .val (.int p3), .val (.int (3 : Int32)), .unset, .unset, .unset, .unset, .unset, .unset, .unset, .unset]) (n := 5) at_3 rfl rfl ?_
    refine OwnW.iload X0 (n := 7) at_5 rfl rfl ?_
    refine OwnW.newarray X0 (len := 3) (cap := 3) (n := 9) at_7 (hw _ (List.mem_of_getElem? (i := 0) rfl)) rfl (by decide) (by decide) (by decide) (by decide) rfl ?_
    intro T125 h125 b125 gb125 X125 E125 A125
    have ge_b125 : n0 ≤ b125 := by rw [gb125]; exact OwnW.oldLe O0
    have K125 := (OwnW.kExt E125)
    have O125 := O0.keep K125 all0
    have Z125 : Keep h0 h125 [] := Z0.trans K125 (fun x hx => nomatch hx)
    have sz_b125 : h0.size ≤ b125 := by rw [gb125]; exact Z0.1
    replace A125 : Ark Z h125 b125 .char [(.int (0 : Int32)), (.int (0 : Int32)), (.int (0 : Int32))] := A125
    refine OwnW.astore X125 (l' := #[.val (.int p0), .val (.int p1), .val (.int p2), .val (.int p3), .val (.int (3 : Int32)), .val (.ref b125), .unset, .unset, .unset, .unset, .unset, .unset, .unset]) (n := 11) at_9 rfl rfl rfl ?_
    refine OwnW.iload X125 (n := 13) at_11 rfl rfl ?_
    refine OwnW.if_le X125  (n1 := 25) (n2 := 16) at_13 (by decide) rfl rfl (fun q => absurd ((by decide) : 0 < (3 : Int32)) q) (fun _ => ?_)
    refine OwnW.aload X125 (n := 18) at_16 rfl rfl rfl ?_
    refine OwnW.iconst X125 (z := (0 : Int32)) (n := 19) at_18 rfl rfl ?_
    refine OwnW.iloadN X125 (n := 20) at_19 rfl rfl ?_
    refine OwnW.ldc X125 (n := 22) at_20 (hw _ (List.mem_of_getElem? (i := 265) rfl)) rfl ?_
    refine OwnW.iand X125 (n := 23) at_22 rfl ?_
    refine OwnW.i2c X125 (n := 24) at_23 rfl ?_
    obtain ⟨ua, ek0, hua⟩ := own_i2c16 (p1 &&& (65535 : Int32))
    rw [ek0]
    refine OwnW.castore X125 (i := 0) (z := (Int32.ofNat ua)) (n := 25) at_24 A125 rfl (Nat.le_of_ble_eq_true rfl) (own_nar16 hua) ge_b125 (List.mem_cons_self ..) rfl ?_
    intro T126 h126 X126 W126 A126
    have K126 := (Keep.of_wr W126)
    have O126 := O125.keep K126 (allS ge_b125 all0)
    have Z126 : Keep h0 h126 [] := Z125.trans K126 (allS (P := fun x => x ∈ [] ∨ h0.size ≤ x) (Or.inr sz_b125) all0)
    replace A126 : Ark Z h126 b125 .char [(.int (Int32.ofNat ua)), (.int (0 : Int32)), (.int (0 : Int32))] := A126
    refine OwnW.iload X126 (n := 27) at_25 rfl rfl ?_
    refine OwnW.iconst X126 (z := (1 : Int32)) (n := 28) at_27 rfl rfl ?_
    refine OwnW.ic_le X126  (n1 := 40) (n2 := 31) at_28 (by decide) rfl rfl (fun q => absurd ((by decide) : (1 : Int32) < (3 : Int32)) q) (fun _ => ?_)
    refine OwnW.aload X126 (n := 33) at_31 rfl rfl rfl ?_
    refine OwnW.iconst X126 (z := (1 : Int32)) (n := 34) at_33 rfl rfl ?_
    refine OwnW.iloadN X126 (n := 35) at_34 rfl rfl ?_
    refine OwnW.ldc X126 (n := 37) at_35 (hw _ (List.mem_of_getElem? (i := 265) rfl)) rfl ?_
    refine OwnW.iand X126 (n := 38) at_37 rfl ?_
    refine OwnW.i2c X126 (n := 39) at_38 rfl ?_
    obtain ⟨ub, ek1, hub⟩ := own_i2c16 (p2 &&& (65535 : Int32))
    rw [ek1]
    refine OwnW.castore X126 (i := 1) (z := (Int32.ofNat ub)) (n := 40) at_39 A126 rfl (Nat.le_of_ble_eq_true rfl) (own_nar16 hub) ge_b125 (List.mem_cons_self ..) rfl ?_
    intro T127 h127 X127 W127 A127
    have K127 := (Keep.of_wr W127)
    have O127 := O126.keep K127 (allS ge_b125 all0)
    have Z127 : Keep h0 h127 [] := Z126.trans K127 (allS (P := fun x => x ∈ [] ∨ h0.size ≤ x) (Or.inr sz_b125) all0)
    replace A127 : Ark Z h127 b125 .char [(.int (Int32.ofNat ua)), (.int (Int32.ofNat ub)), (.int (0 : Int32))] := A127
    refine OwnW.iload X127 (n := 42) at_40 rfl rfl ?_
    refine OwnW.iconst X127 (z := (2 : Int32)) (n := 43) at_42 rfl rfl ?_
    refine OwnW.ic_le X127  (n1 := 55) (n2 := 46) at_43 (by decide) rfl rfl (fun q => absurd ((by decide) : (2 : Int32) < (3 : Int32)) q) (fun _ => ?_)
    refine OwnW.aload X127 (n := 48) at_46 rfl rfl rfl ?_
    refine OwnW.iconst X127 (z := (2 : Int32)) (n := 49) at_48 rfl rfl ?_
    refine OwnW.iloadN X127 (n := 50) at_49 rfl rfl ?_
    refine OwnW.ldc X127 (n := 52) at_50 (hw _ (List.mem_of_getElem? (i := 265) rfl)) rfl ?_
    refine OwnW.iand X127 (n := 53) at_52 rfl ?_
    refine OwnW.i2c X127 (n := 54) at_53 rfl ?_
    obtain ⟨uc, ek2, huc⟩ := own_i2c16 (p3 &&& (65535 : Int32))
    rw [ek2]
    refine OwnW.castore X127 (i := 2) (z := (Int32.ofNat uc)) (n := 55) at_54 A127 rfl (Nat.le_of_ble_eq_true rfl) (own_nar16 huc) ge_b125 (List.mem_cons_self ..) rfl ?_
    intro T128 h128 X128 W128 A128
    have K128 := (Keep.of_wr W128)
    have O128 := O127.keep K128 (allS ge_b125 all0)
    have Z128 : Keep h0 h128 [] := Z127.trans K128 (allS (P := fun x => x ∈ [] ∨ h0.size ≤ x) (Or.inr sz_b125) all0)
    replace A128 : Ark Z h128 b125 .char [(.int (Int32.ofNat ua)), (.int (Int32.ofNat ub)), (.int (Int32.ofNat uc))] := A128
    refine OwnW.new X128 (C := "java/lang/String") (k := 4) (n := 58) at_55 (hw _ (List.mem_of_getElem? (i := 1) rfl)) (hw _ (List.mem_of_getElem? (i := 2) rfl)) (hw _ (List.mem_of_getElem? (i := 3) rfl)) (by decide) (by decide) rfl ?_
    intro T129 h129 b129 gb129 X129 E129 A129 D129 U129
    have ne_b125_b129 : b125 ≠ b129 := by rw [gb129]; exact Nat.ne_of_lt A128.lt
    have ge_b129 : n0 ≤ b129 := by rw [gb129]; exact OwnW.oldLe O128
    have K129 := (OwnW.kExt E129)
    have O129 := O128.keep K129 all0
    have Z129 : Keep h0 h129 [] := Z128.trans K129 (fun x hx => nomatch hx)
    have sz_b129 : h0.size ≤ b129 := by rw [gb129]; exact Z128.1
    have F129_value : Fld Z h129 b129 "java/lang/String" "value" "[B" .null := D129 (Or.inr (hw _ (List.mem_of_getElem? (i := 16) rfl))) (ty := (.array .byte)) (by decide)
    have F129_coder : Fld Z h129 b129 "java/lang/String" "coder" "B" (.int (0 : Int32)) := D129 (Or.inr (hw _ (List.mem_of_getElem? (i := 17) rfl))) (ty := .byte) (by decide)
    refine OwnW.dup X129 (n := 59) at_58 rfl rfl ?_
    refine OwnW.aload X129 (n := 61) at_59 rfl rfl rfl ?_
    have hus : ∀ u ∈ ([ua, ub, uc] : List Nat), u ≤ 65535 := by intro v hv; simp at hv; omega
    have fk130 := (A128.keep K129 nin0)
    refine OwnW.call_special_n X129 (z := (⟨"java/lang/String", "<init>", "([C)V"⟩ : MethodName)) (a := b129) (n := 64) at_61 (hw _ (List.mem_of_getElem? (i := 4) rfl)) (hw _ (List.mem_of_getElem? (i := 5) rfl)) (hw _ (List.mem_of_getElem? (i := 6) rfl)) (hw _ (List.mem_of_getElem? (i := 3) rfl)) rfl rfl (by decide) (rm1 l Z a0 hw hE [] b129 b125 h129 n0 O129 ge_b129 A129 _ _ F129_value F129_coder ([ua, ub, uc] : List Nat) (by simp) (by simp) hus fk130 (Ne.symm ne_b125_b129) zc hzc S_compact S_ad S_hi S_lo) (OwnW.sfS (List.mem_cons_self ..) OwnW.sf0) (argsL := [(.ref b125)]) (rest := [(.ref b129)]) rfl rfl (OwnW.lenA pd___C_V rfl) (W := 1) (Nat.le_of_eq rfl) (by decide) (by decide) (by decide) (by decide) rfl ?_
    intro T131 h131 g131 hle131 X131 ⟨k131, t131, z131, sN⟩
    have ne_b129_t131 : b129 ≠ t131 := Nat.ne_of_lt (Nat.lt_of_lt_of_le A129.lt z131)
    have ne_b125_t131 : b125 ≠ t131 := Nat.ne_of_lt (Nat.lt_of_lt_of_le fk130.lt z131)
    have K131 := k131
    have O131 := O129.keep K131 (allS ge_b129 all0)
    have Z131 : Keep h0 h131 [] := Z129.trans K131 (allS (P := fun x => x ∈ [] ∨ h0.size ≤ x) (Or.inr sz_b129) all0)
    refine OwnW.astore X131 (l' := #[.val (.int p0), .val (.int p1), .val (.int p2), .val (.int p3), .val (.int (3 : Int32)), .val (.ref b125), .val (.ref b129), .unset, .unset, .unset, .unset, .unset, .unset]) (n := 66) at_64 rfl rfl rfl ?_
    refine OwnW.aload X131 (n := 68) at_66 rfl rfl rfl ?_
    have fk132 := (fk130.keep K131 (ninS ne_b125_b129 nin0))
    have fk133 := (A129.keep K131)
    refine OwnW.call_static_v X131 (z := (⟨"com/example/conversation_framework/conversationframework/Component", "undeclared", "(Ljava/lang/String;)Ljava/lang/IllegalArgumentException;"⟩ : MethodName)) (n := 71) at_68 (hw _ (List.mem_of_getElem? (i := 22) rfl)) (hw _ (List.mem_of_getElem? (i := 23) rfl)) (hw _ (List.mem_of_getElem? (i := 25) rfl)) (hw _ (List.mem_of_getElem? (i := 24) rfl)) (by decide) (rm4A l Z a0 hw hE [] b129 h131 n0 O131 t131 ([ua, ub, uc] : List Nat) (by simp) hus sN zc hzc S_compact fm hfm S_fm S_ad S_hi S_lo xu xs S_us S_ss hst (ThS.keep Z131 (fun _ q => nomatch q) TS0)) OwnW.sf0 (argsL := [(.ref b129)]) (rest := []) rfl rfl (OwnW.lenA pd__Ljava_lang_String__Ljava_lang_IllegalArgumentException_ rfl) (W := 0) (Nat.le_of_eq rfl) (by decide) (by decide) (by decide) (by decide) rfl ?_
    intro T134 h134 w134 g134 hle134 X134 ⟨x134, m134, y134, q1, k134, z134, e134, un134, fm134, fc134, sU134⟩
    subst q1
    have K134 := k134
    have O134 := O131.keep K134 all0
    have Z134 : Keep h0 h134 [] := Z131.trans K134 (fun x hx => nomatch hx)
    refine OwnW.astore X134 (l' := #[.val (.int p0), .val (.int p1), .val (.int p2), .val (.int p3), .val (.int (3 : Int32)), .val (.ref b125), .val (.ref b129), .val (.ref x134), .unset, .unset, .unset, .unset, .unset]) (n := 73) at_71 rfl rfl rfl ?_
    refine OwnW.ldcS X134 (bs := (([] : List Int32)).map lo8) (nn := 0) (text := "") (n := 75) at_73 (hw _ (List.mem_of_getElem? (i := 219) rfl)) (fun d hd => hw d ((by decide +kernel : ∀ d ∈ Bundle.stringAtoms, d ∈ tables_1) d hd)) (by decide) ⟨by decide, rfl⟩ (by decide) (by decide) (by decide) (by decide) (by decide) rfl ?_
    intro T135 h135 l135 t135 X135 E135 e135 c135 v135 a135 n135
    have K135 := (OwnW.kExt E135)
    have O135 := O134.keep K135 all0
    have Z135 : Keep h0 h135 [] := Z134.trans K135 (fun x hx => nomatch hx)
    have sE : own_U Z h135 l135 t135 ([] : List Nat) := Or.inl ⟨(fun _ q => nomatch q), ⟨e135, c135, v135, a135⟩⟩
    have fk136 := ((fk132.keep K134 nin0).keep K135 nin0)
    have fk137 := ((fk133.keep K134).keep K135)
    have fk138 := ((sN.keep K134 nin0 nin0).keep K135 nin0 nin0)
    have fk139 := (e134.keep K135)
    have fk140 := (un134.keep K135 nin0)
    have fk141 := (fm134.keep K135 nin0)
    have fk142 := (fc134.keep K135 nin0)
    have fk143 := (sU134.keep K135 nin0 nin0)
    refine OwnW.call_static_v X135 (z := (⟨"com/example/conversation_framework/conversationframework/Component", "undeclared", "(Ljava/lang/String;)Ljava/lang/IllegalArgumentException;"⟩ : MethodName)) (n := 78) at_75 (hw _ (List.mem_of_getElem? (i := 22) rfl)) (hw _ (List.mem_of_getElem? (i := 23) rfl)) (hw _ (List.mem_of_getElem? (i := 25) rfl)) (hw _ (List.mem_of_getElem? (i := 24) rfl)) (by decide) (rm4A l Z a0 hw hE [] l135 h135 n0 O135 t135 ([] : List Nat) (by simp) (fun _ q => nomatch q) sE zc hzc S_compact fm hfm S_fm S_ad S_hi S_lo xu xs S_us S_ss hst (ThS.keep Z135 (fun _ q => nomatch q) TS0)) OwnW.sf0 (argsL := [(.ref l135)]) (rest := []) rfl rfl (OwnW.lenA pd__Ljava_lang_String__Ljava_lang_IllegalArgumentException_ rfl) (W := 0) (Nat.le_of_eq rfl) (by decide) (by decide) (by decide) (by decide) rfl ?_
    intro T144 h144 w144 g144 hle144 X144 ⟨x144, m144, y144, q1, k144, z144, e144, un144, fm144, fc144, sU144⟩
    subst q1
    have K144 := k144
    have O144 := O135.keep K144 all0
    have Z144 : Keep h0 h144 [] := Z135.trans K144 (fun x hx => nomatch hx)
    refine OwnW.astore X144 (l' := #[.val (.int p0), .val (.int p1), .val (.int p2), .val (.int p3), .val (.int (3 : Int32)), .val (.ref b125), .val (.ref b129), .val (.ref x134), .val (.ref x144), .unset, .unset, .unset, .unset]) (n := 80) at_78 rfl rfl rfl ?_
    refine OwnW.aload X144 (n := 82) at_80 rfl rfl rfl ?_
    refine OwnW.ifnull_n X144 (n2 := 85) at_82 rfl ?_
    refine OwnW.aload X144 (n := 87) at_85 rfl rfl rfl ?_
    refine OwnW.ifnonnull_y X144 (n1 := 92) at_87 (by decide) rfl ?_
    refine OwnW.aload X144 (n := 94) at_92 rfl rfl rfl ?_
    refine OwnW.call_virtualUp_v X144 (z := (⟨"java/lang/Throwable", "getMessage", "()Ljava/lang/String;"⟩ : MethodName)) (yv := (⟨"java/lang/IllegalArgumentException", "getMessage", "()Ljava/lang/String;"⟩ : MethodName)) (owner := "java/lang/Throwable") (a := x144) (C := "java/lang/IllegalArgumentException") (n := 97) at_94 (hw _ (List.mem_of_getElem? (i := 220) rfl)) (hw _ (List.mem_of_getElem? (i := 221) rfl)) (hw _ (List.mem_of_getElem? (i := 222) rfl)) (hw _ (List.mem_of_getElem? (i := 223) rfl)) (hw _ (List.mem_of_getElem? (i := 224) rfl)) (hw _ (List.mem_of_getElem? (i := 225) rfl)) (hw _ (List.mem_of_getElem? (i := 180) rfl)) (by decide) e144 (rm34 l Z a0 hw hE [] x144 h144 n0 m144 fm144) OwnW.sf0 (argsL := []) (rest := []) rfl rfl (OwnW.lenA pd___Ljava_lang_String_ rfl) (W := 0) (Nat.le_of_eq rfl) (by decide) (by decide) (by decide) (by decide) rfl ?_
    intro T145 h145 w145 g145 hle145 X145 ⟨q1, q2⟩
    subst q1 q2
    refine OwnW.astore X145 (l' := #[.val (.int p0), .val (.int p1), .val (.int p2), .val (.int p3), .val (.int (3 : Int32)), .val (.ref b125), .val (.ref b129), .val (.ref x134), .val (.ref x144), .val (.ref m144), .unset, .unset, .unset]) (n := 99) at_97 rfl rfl rfl ?_
    refine OwnW.aload X145 (n := 101) at_99 rfl rfl rfl ?_
    have fk146 := (fk141.keep K144 nin0)
    have fk148 := (fk139.keep K144)
    refine OwnW.call_virtualUp_v X145 (z := (⟨"java/lang/Throwable", "getMessage", "()Ljava/lang/String;"⟩ : MethodName)) (yv := (⟨"java/lang/IllegalArgumentException", "getMessage", "()Ljava/lang/String;"⟩ : MethodName)) (owner := "java/lang/Throwable") (a := x134) (C := "java/lang/IllegalArgumentException") (n := 104) at_101 (hw _ (List.mem_of_getElem? (i := 220) rfl)) (hw _ (List.mem_of_getElem? (i := 221) rfl)) (hw _ (List.mem_of_getElem? (i := 222) rfl)) (hw _ (List.mem_of_getElem? (i := 223) rfl)) (hw _ (List.mem_of_getElem? (i := 224) rfl)) (hw _ (List.mem_of_getElem? (i := 225) rfl)) (hw _ (List.mem_of_getElem? (i := 180) rfl)) (by decide) fk148 (rm34 l Z a0 hw hE [] x134 h144 n0 m134 fk146) OwnW.sf0 (argsL := []) (rest := []) rfl rfl (OwnW.lenA pd___Ljava_lang_String_ rfl) (W := 0) (Nat.le_of_eq rfl) (by decide) (by decide) (by decide) (by decide) rfl ?_
    intro T147 h147 w147 g147 hle147 X147 ⟨q1, q2⟩
    subst q1 q2
    refine OwnW.astore X147 (l' := #[.val (.int p0), .val (.int p1), .val (.int p2), .val (.int p3), .val (.int (3 : Int32)), .val (.ref b125), .val (.ref b129), .val (.ref x134), .val (.ref x144), .val (.ref m144), .val (.ref m134), .unset, .unset]) (n := 106) at_104 rfl rfl rfl ?_
    refine OwnW.aload X147 (n := 108) at_106 rfl rfl rfl ?_
    refine OwnW.ifnull_n X147 (n2 := 111) at_108 rfl ?_
    refine OwnW.aload X147 (n := 113) at_111 rfl rfl rfl ?_
    refine OwnW.ifnonnull_y X147 (n1 := 118) at_113 (by decide) rfl ?_
    refine OwnW.aload X147 (n := 120) at_118 rfl rfl rfl ?_
    refine OwnW.ldcS X147 (bs := (own_pre.map Int32.ofNat).map lo8) (nn := 156) (text := "no component is declared with the name ") (n := 122) at_120 (hw _ (List.mem_of_getElem? (i := 226) rfl)) (fun d hd => hw d ((by decide +kernel : ∀ d ∈ Bundle.stringAtoms, d ∈ tables_1) d hd)) (by decide) ⟨by decide, rfl⟩ (by decide) (by decide) (by decide) (by decide) (by decide) rfl ?_
    intro T149 h149 l149 t149 X149 E149 e149 c149 v149 a149 n149
    have K149 := (OwnW.kExt E149)
    have O149 := O144.keep K149 all0
    have Z149 : Keep h0 h149 [] := Z144.trans K149 (fun x hx => nomatch hx)
    have fk150 := (sU144.keep K149 nin0 nin0)
    have sB := own_base fk150
    refine OwnW.call_virtual_v X149 (z := (⟨"java/lang/String", "equals", "(Ljava/lang/Object;)Z"⟩ : MethodName)) (yv := (⟨"java/lang/String", "equals", "(Ljava/lang/Object;)Z"⟩ : MethodName)) (a := m144) (C := "java/lang/String") (n := 125) at_122 (hw _ (List.mem_of_getElem? (i := 227) rfl)) (hw _ (List.mem_of_getElem? (i := 228) rfl)) (hw _ (List.mem_of_getElem? (i := 229) rfl)) (hw _ (List.mem_of_getElem? (i := 230) rfl)) (fun hz => notFace_of_selects (args := #[]) (mvT hz (hw _ (List.mem_of_getElem? (i := 230) rfl)))) (hw _ (List.mem_of_getElem? (i := 231) rfl)) (hw _ (List.mem_of_getElem? (i := 3) rfl)) (by decide) sB.1 (rm35 l Z a0 hw hE [] m144 l149 h149 n0 O149 y144 t149 (own_pre.map Int32.ofNat) (own_pre.map Int32.ofNat) own_preLat own_preLat sB ⟨e149, c149, v149, a149⟩ zc hzc S_compact) OwnW.sf0 (argsL := [(.ref l149)]) (rest := []) rfl rfl (OwnW.lenA pd__Ljava_lang_Object__Z rfl) (W := 0) (Nat.le_of_eq rfl) (by decide) (by decide) (by decide) (by decide) rfl ?_
    intro T151 h151 w151 g151 hle151 X151 ⟨q1, q2⟩
    subst q1 q2
    rw [if_pos rfl]
    refine OwnW.if_ne X151  (n1 := 130) (n2 := 128) at_125 (by decide) rfl rfl (fun _ => ?_) (fun q => absurd q ((by decide) : ¬ (1 : Int32) = 0))
    refine OwnW.aload X151 (n := 132) at_130 rfl rfl rfl ?_
    have eMbase := own_U.exa fk150
    refine OwnW.call_virtual_v X151 (z := (⟨"java/lang/String", "length", "()I"⟩ : MethodName)) (yv := (⟨"java/lang/String", "length", "()I"⟩ : MethodName)) (a := m144) (C := "java/lang/String") (n := 135) at_132 (hw _ (List.mem_of_getElem? (i := 237) rfl)) (hw _ (List.mem_of_getElem? (i := 59) rfl)) (hw _ (List.mem_of_getElem? (i := 60) rfl)) (hw _ (List.mem_of_getElem? (i := 61) rfl)) (fun hz => notFace_of_selects (args := #[]) (mvT hz (hw _ (List.mem_of_getElem? (i := 61) rfl)))) (hw _ (List.mem_of_getElem? (i := 62) rfl)) (hw _ (List.mem_of_getElem? (i := 3) rfl)) (by decide) eMbase (rmLEN l Z a0 hw hE [] m144 h149 n0 O149 y144 (own_pre ++ ([] : List Nat)) (by simp [own_pre]) fk150 zc hzc S_compact) OwnW.sf0 (argsL := []) (rest := []) rfl rfl (OwnW.lenA pd___I rfl) (W := 0) (Nat.le_of_eq rfl) (by decide) (by decide) (by decide) (by decide) rfl ?_
    intro T152 h152 w152 g152 hle152 X152 ⟨q1, q2⟩
    subst q1 q2
    rw [show Int32.ofNat (own_pre ++ ([] : List Nat)).length = (39 : Int32) from rfl]
    refine OwnW.istore X152 (l' := #[.val (.int p0), .val (.int p1), .val (.int p2), .val (.int p3), .val (.int (3 : Int32)), .val (.ref b125), .val (.ref b129), .val (.ref x134), .val (.ref x144), .val (.ref m144), .val (.ref m134), .val (.int (39 : Int32)), .unset]) (n := 137) at_135 rfl rfl ?_
    refine OwnW.aload X152 (n := 139) at_137 rfl rfl rfl ?_
    have fk153 := ((fk143.keep K144 nin0 nin0).keep K149 nin0 nin0)
    have eMerr := own_U.exa fk153
    refine OwnW.call_virtual_v X152 (z := (⟨"java/lang/String", "length", "()I"⟩ : MethodName)) (yv := (⟨"java/lang/String", "length", "()I"⟩ : MethodName)) (a := m134) (C := "java/lang/String") (n := 142) at_139 (hw _ (List.mem_of_getElem? (i := 237) rfl)) (hw _ (List.mem_of_getElem? (i := 59) rfl)) (hw _ (List.mem_of_getElem? (i := 60) rfl)) (hw _ (List.mem_of_getElem? (i := 61) rfl)) (fun hz => notFace_of_selects (args := #[]) (mvT hz (hw _ (List.mem_of_getElem? (i := 61) rfl)))) (hw _ (List.mem_of_getElem? (i := 62) rfl)) (hw _ (List.mem_of_getElem? (i := 3) rfl)) (by decide) eMerr (rmLEN l Z a0 hw hE [] m134 h149 n0 O149 y134 (own_pre ++ ([ua, ub, uc] : List Nat)) (by simp [own_pre]) fk153 zc hzc S_compact) OwnW.sf0 (argsL := []) (rest := []) rfl rfl (OwnW.lenA pd___I rfl) (W := 0) (Nat.le_of_eq rfl) (by decide) (by decide) (by decide) (by decide) rfl ?_
    intro T154 h154 w154 g154 hle154 X154 ⟨q1, q2⟩
    subst q1 q2
    rw [show Int32.ofNat (own_pre ++ ([ua, ub, uc] : List Nat)).length = (42 : Int32) from rfl]
    refine OwnW.iload X154 (n := 144) at_142 rfl rfl ?_
    refine OwnW.iload X154 (n := 146) at_144 rfl rfl ?_
    refine OwnW.iadd X154 (n := 147) at_146 rfl ?_
    rw [show (((39 : Int32) + (3 : Int32)) : Int32) = (42 : Int32) from by decide]
    refine OwnW.ic_eq X154  (n1 := 152) (n2 := 150) at_147 (by decide) rfl rfl (fun _ => ?_) (fun q => absurd ((by decide) : (42 : Int32) = (42 : Int32)) q)
    refine OwnW.aload X154 (n := 154) at_152 rfl rfl rfl ?_
    refine OwnW.iconst X154 (z := (0 : Int32)) (n := 155) at_154 rfl rfl ?_
    refine OwnW.call_virtual_v X154 (z := (⟨"java/lang/String", "charAt", "(I)C"⟩ : MethodName)) (yv := (⟨"java/lang/String", "charAt", "(I)C"⟩ : MethodName)) (a := m134) (C := "java/lang/String") (n := 158) at_155 (hw _ (List.mem_of_getElem? (i := 238) rfl)) (hw _ (List.mem_of_getElem? (i := 239) rfl)) (hw _ (List.mem_of_getElem? (i := 240) rfl)) (hw _ (List.mem_of_getElem? (i := 241) rfl)) (fun hz => notFace_of_selects (args := #[]) (mvT hz (hw _ (List.mem_of_getElem? (i := 241) rfl)))) (hw _ (List.mem_of_getElem? (i := 242) rfl)) (hw _ (List.mem_of_getElem? (i := 3) rfl)) (by decide) eMerr (rmCA l Z a0 hw hE [] m134 h149 n0 O149 y134 (own_pre ++ ([ua, ub, uc] : List Nat)) (by simp [own_pre]) 0 (by simp [own_pre]) (own_pre16 _ hus) fk153 zc hzc S_compact fm hfm S_fm S_ad S_hi S_lo) OwnW.sf0 (argsL := [(.int (0 : Int32))]) (rest := []) rfl rfl (OwnW.lenA pd__I_C rfl) (W := 0) (Nat.le_of_eq rfl) (by decide) (by decide) (by decide) (by decide) rfl ?_
    intro T155 h155 w155 g155 hle155 X155 ⟨q1, q2⟩
    subst q1 q2
    rw [show Int32.ofNat ((own_pre ++ ([ua, ub, uc] : List Nat)).getD 0 0) = (110 : Int32) from rfl]
    refine OwnW.bipush X155 (z := (110 : Int32)) (n := 160) at_158 rfl rfl ?_
    refine OwnW.ic_ne X155  (n1 := 195) (n2 := 163) at_160 (by decide) rfl rfl (fun q => absurd ((by decide) : (110 : Int32) = (110 : Int32)) q) (fun _ => ?_)
    refine OwnW.aload X155 (n := 165) at_163 rfl rfl rfl ?_
    refine OwnW.iload X155 (n := 167) at_165 rfl rfl ?_
    refine OwnW.iconst X155 (z := (2 : Int32)) (n := 168) at_167 rfl rfl ?_
    refine OwnW.isub X155 (n := 169) at_168 rfl ?_
    rw [show (((39 : Int32) - (2 : Int32)) : Int32) = (37 : Int32) from by decide]
    refine OwnW.call_virtual_v X155 (z := (⟨"java/lang/String", "charAt", "(I)C"⟩ : MethodName)) (yv := (⟨"java/lang/String", "charAt", "(I)C"⟩ : MethodName)) (a := m134) (C := "java/lang/String") (n := 172) at_169 (hw _ (List.mem_of_getElem? (i := 238) rfl)) (hw _ (List.mem_of_getElem? (i := 239) rfl)) (hw _ (List.mem_of_getElem? (i := 240) rfl)) (hw _ (List.mem_of_getElem? (i := 241) rfl)) (fun hz => notFace_of_selects (args := #[]) (mvT hz (hw _ (List.mem_of_getElem? (i := 241) rfl)))) (hw _ (List.mem_of_getElem? (i := 242) rfl)) (hw _ (List.mem_of_getElem? (i := 3) rfl)) (by decide) eMerr (rmCA l Z a0 hw hE [] m134 h149 n0 O149 y134 (own_pre ++ ([ua, ub, uc] : List Nat)) (by simp [own_pre]) 37 (by simp [own_pre]) (own_pre16 _ hus) fk153 zc hzc S_compact fm hfm S_fm S_ad S_hi S_lo) OwnW.sf0 (argsL := [(.int (37 : Int32))]) (rest := []) rfl rfl (OwnW.lenA pd__I_C rfl) (W := 0) (Nat.le_of_eq rfl) (by decide) (by decide) (by decide) (by decide) rfl ?_
    intro T156 h156 w156 g156 hle156 X156 ⟨q1, q2⟩
    subst q1 q2
    rw [show Int32.ofNat ((own_pre ++ ([ua, ub, uc] : List Nat)).getD 37 0) = (101 : Int32) from rfl]
    refine OwnW.bipush X156 (z := (101 : Int32)) (n := 174) at_172 rfl rfl ?_
    refine OwnW.ic_ne X156  (n1 := 195) (n2 := 177) at_174 (by decide) rfl rfl (fun q => absurd ((by decide) : (101 : Int32) = (101 : Int32)) q) (fun _ => ?_)
    refine OwnW.aload X156 (n := 179) at_177 rfl rfl rfl ?_
    refine OwnW.iload X156 (n := 181) at_179 rfl rfl ?_
    refine OwnW.iconst X156 (z := (1 : Int32)) (n := 182) at_181 rfl rfl ?_
    refine OwnW.isub X156 (n := 183) at_182 rfl ?_
    rw [show (((39 : Int32) - (1 : Int32)) : Int32) = (38 : Int32) from by decide]
    refine OwnW.call_virtual_v X156 (z := (⟨"java/lang/String", "charAt", "(I)C"⟩ : MethodName)) (yv := (⟨"java/lang/String", "charAt", "(I)C"⟩ : MethodName)) (a := m134) (C := "java/lang/String") (n := 186) at_183 (hw _ (List.mem_of_getElem? (i := 238) rfl)) (hw _ (List.mem_of_getElem? (i := 239) rfl)) (hw _ (List.mem_of_getElem? (i := 240) rfl)) (hw _ (List.mem_of_getElem? (i := 241) rfl)) (fun hz => notFace_of_selects (args := #[]) (mvT hz (hw _ (List.mem_of_getElem? (i := 241) rfl)))) (hw _ (List.mem_of_getElem? (i := 242) rfl)) (hw _ (List.mem_of_getElem? (i := 3) rfl)) (by decide) eMerr (rmCA l Z a0 hw hE [] m134 h149 n0 O149 y134 (own_pre ++ ([ua, ub, uc] : List Nat)) (by simp [own_pre]) 38 (by simp [own_pre]) (own_pre16 _ hus) fk153 zc hzc S_compact fm hfm S_fm S_ad S_hi S_lo) OwnW.sf0 (argsL := [(.int (38 : Int32))]) (rest := []) rfl rfl (OwnW.lenA pd__I_C rfl) (W := 0) (Nat.le_of_eq rfl) (by decide) (by decide) (by decide) (by decide) rfl ?_
    intro T157 h157 w157 g157 hle157 X157 ⟨q1, q2⟩
    subst q1 q2
    rw [show Int32.ofNat ((own_pre ++ ([ua, ub, uc] : List Nat)).getD 38 0) = (32 : Int32) from rfl]
    refine OwnW.bipush X157 (z := (32 : Int32)) (n := 188) at_186 rfl rfl ?_
    refine OwnW.ic_ne X157  (n1 := 195) (n2 := 191) at_188 (by decide) rfl rfl (fun q => absurd ((by decide) : (32 : Int32) = (32 : Int32)) q) (fun _ => ?_)
    refine OwnW.iconst X157 (z := (1 : Int32)) (n := 192) at_191 rfl rfl ?_
    refine OwnW.goto X157 (n := 196) at_192 (by decide) rfl ?_
    refine OwnW.istore X157 (l' := #[.val (.int p0), .val (.int p1), .val (.int p2), .val (.int p3), .val (.int (3 : Int32)), .val (.ref b125), .val (.ref b129), .val (.ref x134), .val (.ref x144), .val (.ref m144), .val (.ref m134), .val (.int (39 : Int32)), .val (.int (1 : Int32))]) (n := 198) at_196 rfl rfl ?_
    refine OwnW.iload X157 (n := 200) at_198 rfl rfl ?_
    refine OwnW.if_le X157  (n1 := 229) (n2 := 203) at_200 (by decide) rfl rfl (fun q => absurd ((by decide) : 0 < (3 : Int32)) q) (fun _ => ?_)
    refine OwnW.iload X157 (n := 205) at_203 rfl rfl ?_
    refine OwnW.if_eq X157  (n1 := 226) (n2 := 208) at_205 (by decide) rfl rfl (fun q => absurd q ((by decide) : ¬ (1 : Int32) = 0)) (fun _ => ?_)
    refine OwnW.aload X157 (n := 210) at_208 rfl rfl rfl ?_
    refine OwnW.iload X157 (n := 212) at_210 rfl rfl ?_
    refine OwnW.call_virtual_v X157 (z := (⟨"java/lang/String", "charAt", "(I)C"⟩ : MethodName)) (yv := (⟨"java/lang/String", "charAt", "(I)C"⟩ : MethodName)) (a := m134) (C := "java/lang/String") (n := 215) at_212 (hw _ (List.mem_of_getElem? (i := 238) rfl)) (hw _ (List.mem_of_getElem? (i := 239) rfl)) (hw _ (List.mem_of_getElem? (i := 240) rfl)) (hw _ (List.mem_of_getElem? (i := 241) rfl)) (fun hz => notFace_of_selects (args := #[]) (mvT hz (hw _ (List.mem_of_getElem? (i := 241) rfl)))) (hw _ (List.mem_of_getElem? (i := 242) rfl)) (hw _ (List.mem_of_getElem? (i := 3) rfl)) (by decide) eMerr (rmCA l Z a0 hw hE [] m134 h149 n0 O149 y134 (own_pre ++ ([ua, ub, uc] : List Nat)) (by simp [own_pre]) 39 (by simp [own_pre]) (own_pre16 _ hus) fk153 zc hzc S_compact fm hfm S_fm S_ad S_hi S_lo) OwnW.sf0 (argsL := [(.int (39 : Int32))]) (rest := []) rfl rfl (OwnW.lenA pd__I_C rfl) (W := 0) (Nat.le_of_eq rfl) (by decide) (by decide) (by decide) (by decide) rfl ?_
    intro T158 h158 w158 g158 hle158 X158 ⟨q1, q2⟩
    subst q1 q2
    rw [show Int32.ofNat ((own_pre ++ ([ua, ub, uc] : List Nat)).getD 39 0) = (Int32.ofNat ua) from rfl]
    refine OwnW.aload X158 (n := 217) at_215 rfl rfl rfl ?_
    refine OwnW.iconst X158 (z := (0 : Int32)) (n := 218) at_217 rfl rfl ?_
    have fk159 := ((fk136.keep K144 nin0).keep K149 nin0)
    refine OwnW.caload X158 (i := 0) (v := (.int (Int32.ofNat ua))) (n := 219) at_218 fk159 rfl rfl rfl ?_
    refine OwnW.ic_ne X158  (n1 := 226) (n2 := 222) at_219 (by decide) rfl rfl (fun q => absurd (rfl : (Int32.ofNat ua) = (Int32.ofNat ua)) q) (fun _ => ?_)
    refine OwnW.iconst X158 (z := (1 : Int32)) (n := 223) at_222 rfl rfl ?_
    refine OwnW.goto X158 (n := 227) at_223 (by decide) rfl ?_
    refine OwnW.istore X158 (l' := #[.val (.int p0), .val (.int p1), .val (.int p2), .val (.int p3), .val (.int (3 : Int32)), .val (.ref b125), .val (.ref b129), .val (.ref x134), .val (.ref x144), .val (.ref m144), .val (.ref m134), .val (.int (39 : Int32)), .val (.int (1 : Int32))]) (n := 229) at_227 rfl rfl ?_
    refine OwnW.iload X158 (n := 231) at_229 rfl rfl ?_
    refine OwnW.iconst X158 (z := (1 : Int32)) (n := 232) at_231 rfl rfl ?_
    refine OwnW.ic_le X158  (n1 := 263) (n2 := 235) at_232 (by decide) rfl rfl (fun q => absurd ((by decide) : (1 : Int32) < (3 : Int32)) q) (fun _ => ?_)
    refine OwnW.iload X158 (n := 237) at_235 rfl rfl ?_
    refine OwnW.if_eq X158  (n1 := 260) (n2 := 240) at_237 (by decide) rfl rfl (fun q => absurd q ((by decide) : ¬ (1 : Int32) = 0)) (fun _ => ?_)
    refine OwnW.aload X158 (n := 242) at_240 rfl rfl rfl ?_
    refine OwnW.iload X158 (n := 244) at_242 rfl rfl ?_
    refine OwnW.iconst X158 (z := (1 : Int32)) (n := 245) at_244 rfl rfl ?_
    refine OwnW.iadd X158 (n := 246) at_245 rfl ?_
    rw [show (((39 : Int32) + (1 : Int32)) : Int32) = (40 : Int32) from by decide]
    refine OwnW.call_virtual_v X158 (z := (⟨"java/lang/String", "charAt", "(I)C"⟩ : MethodName)) (yv := (⟨"java/lang/String", "charAt", "(I)C"⟩ : MethodName)) (a := m134) (C := "java/lang/String") (n := 249) at_246 (hw _ (List.mem_of_getElem? (i := 238) rfl)) (hw _ (List.mem_of_getElem? (i := 239) rfl)) (hw _ (List.mem_of_getElem? (i := 240) rfl)) (hw _ (List.mem_of_getElem? (i := 241) rfl)) (fun hz => notFace_of_selects (args := #[]) (mvT hz (hw _ (List.mem_of_getElem? (i := 241) rfl)))) (hw _ (List.mem_of_getElem? (i := 242) rfl)) (hw _ (List.mem_of_getElem? (i := 3) rfl)) (by decide) eMerr (rmCA l Z a0 hw hE [] m134 h149 n0 O149 y134 (own_pre ++ ([ua, ub, uc] : List Nat)) (by simp [own_pre]) 40 (by simp [own_pre]) (own_pre16 _ hus) fk153 zc hzc S_compact fm hfm S_fm S_ad S_hi S_lo) OwnW.sf0 (argsL := [(.int (40 : Int32))]) (rest := []) rfl rfl (OwnW.lenA pd__I_C rfl) (W := 0) (Nat.le_of_eq rfl) (by decide) (by decide) (by decide) (by decide) rfl ?_
    intro T160 h160 w160 g160 hle160 X160 ⟨q1, q2⟩
    subst q1 q2
    rw [show Int32.ofNat ((own_pre ++ ([ua, ub, uc] : List Nat)).getD 40 0) = (Int32.ofNat ub) from rfl]
    refine OwnW.aload X160 (n := 251) at_249 rfl rfl rfl ?_
    refine OwnW.iconst X160 (z := (1 : Int32)) (n := 252) at_251 rfl rfl ?_
    refine OwnW.caload X160 (i := 1) (v := (.int (Int32.ofNat ub))) (n := 253) at_252 fk159 rfl rfl rfl ?_
    refine OwnW.ic_ne X160  (n1 := 260) (n2 := 256) at_253 (by decide) rfl rfl (fun q => absurd (rfl : (Int32.ofNat ub) = (Int32.ofNat ub)) q) (fun _ => ?_)
    refine OwnW.iconst X160 (z := (1 : Int32)) (n := 257) at_256 rfl rfl ?_
    refine OwnW.goto X160 (n := 261) at_257 (by decide) rfl ?_
    refine OwnW.istore X160 (l' := #[.val (.int p0), .val (.int p1), .val (.int p2), .val (.int p3), .val (.int (3 : Int32)), .val (.ref b125), .val (.ref b129), .val (.ref x134), .val (.ref x144), .val (.ref m144), .val (.ref m134), .val (.int (39 : Int32)), .val (.int (1 : Int32))]) (n := 263) at_261 rfl rfl ?_
    refine OwnW.iload X160 (n := 265) at_263 rfl rfl ?_
    refine OwnW.iconst X160 (z := (2 : Int32)) (n := 266) at_265 rfl rfl ?_
    refine OwnW.ic_le X160  (n1 := 297) (n2 := 269) at_266 (by decide) rfl rfl (fun q => absurd ((by decide) : (2 : Int32) < (3 : Int32)) q) (fun _ => ?_)
    refine OwnW.iload X160 (n := 271) at_269 rfl rfl ?_
    refine OwnW.if_eq X160  (n1 := 294) (n2 := 274) at_271 (by decide) rfl rfl (fun q => absurd q ((by decide) : ¬ (1 : Int32) = 0)) (fun _ => ?_)
    refine OwnW.aload X160 (n := 276) at_274 rfl rfl rfl ?_
    refine OwnW.iload X160 (n := 278) at_276 rfl rfl ?_
    refine OwnW.iconst X160 (z := (2 : Int32)) (n := 279) at_278 rfl rfl ?_
    refine OwnW.iadd X160 (n := 280) at_279 rfl ?_
    rw [show (((39 : Int32) + (2 : Int32)) : Int32) = (41 : Int32) from by decide]
    refine OwnW.call_virtual_v X160 (z := (⟨"java/lang/String", "charAt", "(I)C"⟩ : MethodName)) (yv := (⟨"java/lang/String", "charAt", "(I)C"⟩ : MethodName)) (a := m134) (C := "java/lang/String") (n := 283) at_280 (hw _ (List.mem_of_getElem? (i := 238) rfl)) (hw _ (List.mem_of_getElem? (i := 239) rfl)) (hw _ (List.mem_of_getElem? (i := 240) rfl)) (hw _ (List.mem_of_getElem? (i := 241) rfl)) (fun hz => notFace_of_selects (args := #[]) (mvT hz (hw _ (List.mem_of_getElem? (i := 241) rfl)))) (hw _ (List.mem_of_getElem? (i := 242) rfl)) (hw _ (List.mem_of_getElem? (i := 3) rfl)) (by decide) eMerr (rmCA l Z a0 hw hE [] m134 h149 n0 O149 y134 (own_pre ++ ([ua, ub, uc] : List Nat)) (by simp [own_pre]) 41 (by simp [own_pre]) (own_pre16 _ hus) fk153 zc hzc S_compact fm hfm S_fm S_ad S_hi S_lo) OwnW.sf0 (argsL := [(.int (41 : Int32))]) (rest := []) rfl rfl (OwnW.lenA pd__I_C rfl) (W := 0) (Nat.le_of_eq rfl) (by decide) (by decide) (by decide) (by decide) rfl ?_
    intro T161 h161 w161 g161 hle161 X161 ⟨q1, q2⟩
    subst q1 q2
    rw [show Int32.ofNat ((own_pre ++ ([ua, ub, uc] : List Nat)).getD 41 0) = (Int32.ofNat uc) from rfl]
    refine OwnW.aload X161 (n := 285) at_283 rfl rfl rfl ?_
    refine OwnW.iconst X161 (z := (2 : Int32)) (n := 286) at_285 rfl rfl ?_
    refine OwnW.caload X161 (i := 2) (v := (.int (Int32.ofNat uc))) (n := 287) at_286 fk159 rfl rfl rfl ?_
    refine OwnW.ic_ne X161  (n1 := 294) (n2 := 290) at_287 (by decide) rfl rfl (fun q => absurd (rfl : (Int32.ofNat uc) = (Int32.ofNat uc)) q) (fun _ => ?_)
    refine OwnW.iconst X161 (z := (1 : Int32)) (n := 291) at_290 rfl rfl ?_
    refine OwnW.goto X161 (n := 295) at_291 (by decide) rfl ?_
    refine OwnW.istore X161 (l' := #[.val (.int p0), .val (.int p1), .val (.int p2), .val (.int p3), .val (.int (3 : Int32)), .val (.ref b125), .val (.ref b129), .val (.ref x134), .val (.ref x144), .val (.ref m144), .val (.ref m134), .val (.int (39 : Int32)), .val (.int (1 : Int32))]) (n := 297) at_295 rfl rfl ?_
    refine OwnW.iload X161 (n := 299) at_297 rfl rfl ?_
    refine OwnW.if_eq X161  (n1 := 322) (n2 := 302) at_299 (by decide) rfl rfl (fun q => absurd q ((by decide) : ¬ (1 : Int32) = 0)) (fun _ => ?_)
    refine OwnW.aload X161 (n := 304) at_302 rfl rfl rfl ?_
    have fk162 := (fk148.keep K149)
    have fk163 := ((fk140.keep K144 nin0).keep K149 nin0)
    have fk164 := ((fk142.keep K144 nin0).keep K149 nin0)
    refine OwnW.getCause X161 (C := "java/lang/IllegalArgumentException") (n := 307) (W := 0) at_304 (hw _ (List.mem_of_getElem? (i := 259) rfl)) (hw _ (List.mem_of_getElem? (i := 260) rfl)) (hw _ (List.mem_of_getElem? (i := 261) rfl)) (hw _ (List.mem_of_getElem? (i := 262) rfl)) (hw _ (List.mem_of_getElem? (i := 263) rfl)) (hw _ (List.mem_of_getElem? (i := 264) rfl)) (hw _ (List.mem_of_getElem? (i := 180) rfl)) (hw _ (List.mem_of_getElem? (i := 183) rfl)) fk162 fk163 fk164 rfl (by decide) (Nat.le_of_eq rfl) (by decide) rfl (by decide) (by decide) ?_
    intro T165 X165
    refine OwnW.ifnonnull_n X165 (n2 := 310) at_307 rfl ?_
    refine OwnW.aload X165 (n := 312) at_310 rfl rfl rfl ?_
    have fk166 := (e144.keep K149)
    have fk167 := (un144.keep K149 nin0)
    have fk168 := (fc144.keep K149 nin0)
    refine OwnW.getCause X165 (C := "java/lang/IllegalArgumentException") (n := 315) (W := 0) at_312 (hw _ (List.mem_of_getElem? (i := 259) rfl)) (hw _ (List.mem_of_getElem? (i := 260) rfl)) (hw _ (List.mem_of_getElem? (i := 261) rfl)) (hw _ (List.mem_of_getElem? (i := 262) rfl)) (hw _ (List.mem_of_getElem? (i := 263) rfl)) (hw _ (List.mem_of_getElem? (i := 264) rfl)) (hw _ (List.mem_of_getElem? (i := 180) rfl)) (hw _ (List.mem_of_getElem? (i := 183) rfl)) fk166 fk167 fk168 rfl (by decide) (Nat.le_of_eq rfl) (by decide) rfl (by decide) (by decide) ?_
    intro T169 X169
    refine OwnW.ifnonnull_n X169 (n2 := 318) at_315 rfl ?_
    refine OwnW.iconst X169 (z := (1 : Int32)) (n := 319) at_318 rfl rfl ?_
    refine OwnW.goto X169 (n := 323) at_319 (by decide) rfl ?_
    exact OwnW.ireturn X169 rfl (Or.inr (Or.inl rfl)) rfl at_323 rfl (by decide) (by decide)
set_option maxRecDepth 65536 in
set_option maxHeartbeats 40000000 in
theorem comes_1 {Post : Tables → Env → Array Value → State → Outcome → State → Prop} (hpost : ∀ tb e args s v u, (limb_1_1.after args s (.returned v) u = true ∧ limb_1_2.after args s (.returned v) u = true ∧ True) → ReturnedEndW s (.returned v) u (Jvm.fieldLocs frame_1_writes args s ++ Jvm.arrayLocs frame_1_arrays args s ++ Jvm.staticLocs frame_1_statics s) 56 16256 → Post tb e args s (.returned v) u) :
    ArmFor flags0 classFile x code maxLocals ret World_1 tables_1 room_1 Calls_1 rest_1 Pre_1 Post := by
  intro l hfl _ _ p e ha hc hk s m args below hf hA hF happ hP
  obtain ⟨hcalls, hrest, hpre⟩ := hP
  obtain ⟨-, -, -, hnamed, -, -, -, hat⟩ := (Spec.applies_iff hf).mp happ
  obtain ⟨hg, hn⟩ := and_e (Cond.before_iff.mp (show (Jvm.Cond.and given_1 narrow_1).before args s = true from hpre))
  obtain ⟨g0, q1⟩ := and_e hg
  obtain ⟨g1, q2⟩ := and_e q1
  obtain ⟨g2, q3⟩ := and_e q2
  obtain ⟨g3, g4⟩ := and_e q3
  obtain ⟨w0, w1, w2, w3, rfl⟩ : ∃ w0 w1 w2 w3 : Value, args = #[w0, w1, w2, w3] := by
    have hs : args.size = 4 := by simpa [Cond.value, given_1] using g0
    obtain ⟨L⟩ := args
    match L, hs with
    | [w0, w1, w2, w3], _ => exact ⟨w0, w1, w2, w3, rfl⟩
  have hw := fun d (hd : d ∈ tables_1) => atoms_spec (ws := Jvm.Cond.code x code maxLocals ret :: tables_1) hat d (List.mem_cons_of_mem _ hd)
  have hfit : Fit s := fun {y c} hc i hi => by
    obtain ⟨ha, rfl⟩ := Array.getElem?_eq_some_iff.mp hc
    have q := List.all_eq_true.mp ((Array.all_eq_true_iff_forall_mem.mp hF) _ (Array.getElem_mem ha)) i (List.mem_range.mpr hi)
    simpa [Array.getElem?_eq_getElem hi] using q
  obtain ⟨hsets, hown0⟩ := atoms_of _ (rest_1_c_eq ▸ (show rest_1_c.before _ s = true from hrest))
  have wS : ∀ a ∈ Bundle.stringAtoms, a.before _ s = true := fun d hd => hw d ((by decide +kernel : ∀ d ∈ Bundle.stringAtoms, d ∈ tables_1) d hd)
  have hE : EW s _ own_EL := own_EW hw
  have hCH : CHv s own_EL s.vm s.heap := CHv.start hE (own_held hcalls) (hsets _ (List.mem_of_getElem? (i := 2) rfl)) (wS _ (by simp [Bundle.stringAtoms])) (wS _ (by simp [Bundle.stringAtoms, Bundle.sN]))
  obtain ⟨i0, e0⟩ := is_v g1
  obtain rfl : w0 = (.int i0) := Option.some.inj e0
  obtain ⟨i1, e1⟩ := is_v g2
  obtain rfl : w1 = (.int i1) := Option.some.inj e1
  obtain ⟨i2, e2⟩ := is_v g3
  obtain rfl : w2 = (.int i2) := Option.some.inj e2
  obtain ⟨i3, e3⟩ := is_v g4
  obtain rfl : w3 = (.int i3) := Option.some.inj e3
  obtain ⟨zc, ezc⟩ := is_v (Cond.before_iff.mp (hsets _ (List.mem_of_getElem? (i := 1) rfl)))
  have S_compact : Sta s s.heap "java/lang/String" "COMPACT_STRINGS" "Z" (.int zc) := Sta.start ezc (Or.inl (hsets _ (List.mem_of_getElem? (i := 0) rfl)))
  have hzc : ¬ (zc = (0 : Int32)) := gotF (Cond.eq_ints ezc (Term.int_eval (0))) (not_v (Cond.before_iff.mp (hsets _ (List.mem_of_getElem? (i := 2) rfl))))
  obtain ⟨fm, efm, hfm⟩ := own_isref (hsets _ (List.mem_of_getElem? (i := 8) rfl))
  have S_fm : Sta s s.heap "jdk/internal/util/Preconditions" "SIOOBE_FORMATTER" "Ljava/util/function/BiFunction;" fm := Sta.start efm (Or.inl (hsets _ (List.mem_of_getElem? (i := 7) rfl)))
  have S_ad := Sta.start (OwnW.eqI_v (Cond.before_iff.mp (hsets _ (List.mem_of_getElem? (i := 32) rfl)))) (Or.inl (hsets _ (List.mem_of_getElem? (i := 31) rfl)))
  have S_hi := Sta.start (OwnW.eqI_v (Cond.before_iff.mp (hsets _ (List.mem_of_getElem? (i := 35) rfl)))) (Or.inl (hsets _ (List.mem_of_getElem? (i := 34) rfl)))
  have S_lo := Sta.start (OwnW.eqI_v (Cond.before_iff.mp (hsets _ (List.mem_of_getElem? (i := 38) rfl)))) (Or.inl (hsets _ (List.mem_of_getElem? (i := 37) rfl)))
  obtain ⟨xu, eus⟩ := arr_v (Cond.before_iff.mp (hsets _ (List.mem_of_getElem? (i := 17) rfl)))
  have S_us := Sta.start eus (Or.inl (hsets _ (List.mem_of_getElem? (i := 15) rfl)))
  obtain ⟨xs, ess⟩ := exa_v (Cond.before_iff.mp (hsets _ (List.mem_of_getElem? (i := 22) rfl)))
  have S_ss := Sta.start ess (Or.inl (hsets _ (List.mem_of_getElem? (i := 20) rfl)))
  have hst : l.stackTraces = true := by
    show (!l.flags.contains noTraceFlag) = true
    rw [hfl]
    decide
  obtain ⟨n, o, h1, h2, h3, v, L, rfl, ⟨sfn, ⟨w, rfl, rfl⟩, hsn, N⟩, hcr, hq⟩ := rm0 l s _ hw hE tables_1 i0 i1 i2 i3 s.heap s.heap.size (Old.start s) zc hzc S_compact fm hfm S_fm S_ad S_hi S_lo xu xs S_us S_ss hst ThS.start p e ha hc hk s m _ below hf ((Spec.applies_iff_loose hf).mp happ).1 ⟨rfl, State.Warmed39.refl s, rfl, hCH, fun x hx => nomatch hx⟩ (fun _ => ⟨own_mk hcalls.2.1, own_fk hcalls.1 hf⟩)
  refine ⟨n, _, h1, h2, h3, hpost _ _ _ _ _ _ ⟨Cond.after_iff.mpr rfl, Cond.after_iff.mpr (eq_i res_at (Term.int_eval (1)) rfl), trivial⟩ ⟨hq.1, hq.2.1, hq.2.2.1, (hq.2.2.2.sift fun y hy => Or.inr (N y hy)).mono (by decide) (by decide)⟩⟩
theorem main_1_1 : Claimed_1_1 := comes_1 fun _ _ _ _ _ _ h hF => ⟨h.1, hF⟩
theorem main_1_2 : Claimed_1_2 := comes_1 fun _ _ _ _ _ _ h hF => ⟨h.2.1, hF⟩
end Jvm.Pilot.@@N@@
namespace Jvm.Pilot.@@N@@
open Jvm Jvm.ClassFile Sem Op Lib Jvm.Free Jvm.Stand Jvm.Pilot.@@N@@.Jvm.D
/-! MADE BY PROGRAM (witnessworld.py) out of the Statement's table words and the real class files: 43 classes; the members and pool entries that the words name. The judged class is class 1, her method 1. -/
namespace start1
open Jvm.ClassFile
def u (s : String) : CpInfo := .utf8 (stringToUtf16 s)
/-- a pool by its gaps: so many unusable entries, then the entry; so many at the end -/
def gap : Nat → List CpInfo → List CpInfo
  | 0, r => r
  | n + 1, r => .unusable :: gap n r
def poolList (es : List (Nat × CpInfo)) (last : Nat) : List CpInfo := es.foldr (fun e r => gap e.1 (e.2 :: r)) (gap last [])
def pool (es : List (Nat × CpInfo)) (last : Nat) : Array CpInfo := ⟨poolList es last⟩
def fileOf (pool : Array CpInfo) (this : Nat) (attrs : Array Attribute := #[]) (ms : Array MethodInfo := #[]) (fl : Nat := 33) (sup : Nat := 0) (ifs : Array Nat := #[]) (fds : Array FieldInfo := #[]) : ClassFile where
  minorVersion := 0
  majorVersion := 65
  constantPool := pool
  accessFlags := fl
  thisClass := this
  superClass := sup
  interfaces := ifs
  fields := fds
  methods := ms
  attributes := attrs
def plain (name : String) (sup : Option ClassId) : Class where
  name := name
  kind := .ordinary
  loader := none
  accessFlags := 33
  super := sup
  interfaces := #[]
  cf := none
  fields := #[]
  methods := #[]
  instanceTypes := #[]
  staticTypes := #[]
  resolved := #[]
  callSites := []
  init := .initialized
  statics := none
  mirror := none

def pool0 : Array CpInfo := pool [(5, u "<init>"), (0, u "()V"), (1, .class_ 10), (1, u "java/lang/Object"), (85, u "clone"), (0, u "()Ljava/lang/Object;")] 26

def k0c0 : Code := { maxStack := 0, maxLocals := 1, code := object_method_1_code, exceptionTable := #[], attributes := #[] }
def k0m0 : Method := { name := "<init>", desc := "()V", sig := { parameters := [], returnType := none }, accessFlags := 1, code := some k0c0 }
def k0m1 : Method := { name := "clone", desc := "()Ljava/lang/Object;", sig := { parameters := [], returnType := some (.object "java/lang/Object") }, accessFlags := 260, code := none }
/-- java/lang/Object -/
def k0 : Class := { plain "java/lang/Object" none with
  accessFlags := 33
  interfaces := #[]
  cf := some (fileOf pool0 8 #[] #[{ accessFlags := 1, nameIndex := 5, descriptorIndex := 6, attributes := #[] }, { accessFlags := 260, nameIndex := 96, descriptorIndex := 97, attributes := #[] }] 33 0 #[] #[])
  fields := #[]
  methods := #[k0m0, k0m1]
  instanceTypes := #[]
  staticTypes := #[]
  resolved := Array.replicate 124 none
  statics := none }

def pool1 : Array CpInfo := pool [(2, .class_ 4), (1, u "java/lang/Object"), (0, u "<init>"), (0, u "()V"), (0, .integer 65535), (0, .class_ 9), (0, u "java/lang/String"), (0, .methodref 8 11), (0, .nameAndType 5 12), (0, u "([C)V"), (0, .methodref 14 15), (0, .class_ 16), (0, .nameAndType 17 18), (0, u "com/example/conversation_framework/conversationframework/Component"), (0, u "undeclared"), (0, u "(Ljava/lang/String;)Ljava/lang/IllegalArgumentException;"), (0, .string 20), (0, u ""), (0, .methodref 22 23), (0, .class_ 24), (0, .nameAndType 25 26), (0, u "java/lang/IllegalArgumentException"), (0, u "getMessage"), (0, u "()Ljava/lang/String;"), (0, .string 28), (0, u "no component is declared with the name "), (0, .methodref 8 30), (0, .nameAndType 31 32), (0, u "equals"), (0, u "(Ljava/lang/Object;)Z"), (0, .methodref 8 34), (0, .nameAndType 35 36), (0, u "length"), (0, u "()I"), (0, .methodref 8 38), (0, .nameAndType 39 40), (0, u "charAt"), (0, u "(I)C"), (0, .methodref 22 42), (0, .nameAndType 43 44), (0, u "getCause"), (0, u "()Ljava/lang/Throwable;"), (0, .class_ 46), (0, u "com/example/conversation_framework/conversationframework/ComponentUndeclaredPinLaw"), (2, u "law"), (0, u "(IIII)Z")] 5

def k1m0 : Method := { name := "<init>", desc := "()V", sig := { parameters := [], returnType := none }, accessFlags := 1, code := none }
def k1c1 : Code := { maxStack := 4, maxLocals := 13, code := code, exceptionTable := #[], attributes := #[] }
def k1m1 : Method := { name := "law", desc := "(IIII)Z", sig := { parameters := [.int, .int, .int, .int], returnType := some .boolean }, accessFlags := 9, code := some k1c1 }
/-- com/example/conversation_framework/conversationframework/ComponentUndeclaredPinLaw -/
def k1 : Class := { plain "com/example/conversation_framework/conversationframework/ComponentUndeclaredPinLaw" (some 0) with
  accessFlags := 49
  interfaces := #[]
  cf := some (fileOf pool1 45 #[] #[{ accessFlags := 1, nameIndex := 5, descriptorIndex := 6, attributes := #[] }, { accessFlags := 9, nameIndex := 49, descriptorIndex := 50, attributes := #[] }] 49 2 #[] #[])
  fields := #[]
  methods := #[k1m0, k1m1]
  instanceTypes := #[]
  staticTypes := #[]
  resolved := Array.replicate 56 none
  statics := none }

def pool2 : Array CpInfo := pool [(1, .class_ 2), (0, u "java/io/Serializable"), (0, .class_ 4), (0, u "java/lang/Object")] 2

/-- java/io/Serializable -/
def k2 : Class := { plain "java/io/Serializable" (some 0) with
  accessFlags := 1537
  interfaces := #[]
  cf := some (fileOf pool2 1 #[] #[] 1537 3 #[] #[])
  fields := #[]
  methods := #[]
  instanceTypes := #[]
  staticTypes := #[]
  resolved := Array.replicate 7 none
  statics := none }

def pool3 : Array CpInfo := pool [(1, .class_ 2), (0, u "java/lang/Comparable"), (0, .class_ 4), (0, u "java/lang/Object")] 7

/-- java/lang/Comparable -/
def k3 : Class := { plain "java/lang/Comparable" (some 0) with
  accessFlags := 1537
  interfaces := #[]
  cf := some (fileOf pool3 1 #[] #[] 1537 3 #[] #[])
  fields := #[]
  methods := #[]
  instanceTypes := #[]
  staticTypes := #[]
  resolved := Array.replicate 12 none
  statics := none }

def pool4 : Array CpInfo := pool [(2, .class_ 4), (1, u "java/lang/CharSequence"), (42, .class_ 48), (0, u "java/lang/CharSequence$1CodePointIterator"), (10, .class_ 60), (0, u "java/lang/CharSequence$1CharIterator"), (5, .class_ 67), (0, u "java/lang/Object")] 63

/-- java/lang/CharSequence -/
def k4 : Class := { plain "java/lang/CharSequence" (some 0) with
  accessFlags := 1537
  interfaces := #[]
  cf := some (fileOf pool4 2 #[.nestMembers #[47, 59]] #[] 1537 66 #[] #[])
  fields := #[]
  methods := #[]
  instanceTypes := #[]
  staticTypes := #[]
  resolved := Array.replicate 131 none
  statics := none }

def pool5 : Array CpInfo := pool [(1, .class_ 2), (0, u "java/lang/constant/Constable"), (0, .class_ 4), (0, u "java/lang/Object")] 6

/-- java/lang/constant/Constable -/
def k5 : Class := { plain "java/lang/constant/Constable" (some 0) with
  accessFlags := 1537
  interfaces := #[]
  cf := some (fileOf pool5 1 #[] #[] 1537 3 #[] #[])
  fields := #[]
  methods := #[]
  instanceTypes := #[]
  staticTypes := #[]
  resolved := Array.replicate 11 none
  statics := none }

def pool6 : Array CpInfo := pool [(1, .class_ 2), (0, u "java/lang/constant/ConstantDesc"), (0, .class_ 4), (0, u "java/lang/Object")] 32

/-- java/lang/constant/ConstantDesc -/
def k6 : Class := { plain "java/lang/constant/ConstantDesc" (some 0) with
  accessFlags := 1537
  interfaces := #[]
  cf := some (fileOf pool6 1 #[] #[] 1537 3 #[] #[])
  fields := #[]
  methods := #[]
  instanceTypes := #[]
  staticTypes := #[]
  resolved := Array.replicate 37 none
  statics := none }

def pool7 : Array CpInfo := pool [(1, .methodref 2 3), (0, .class_ 4), (0, .nameAndType 5 6), (0, u "java/lang/Object"), (0, u "<init>"), (0, u "()V"), (0, .string 8), (0, u ""), (0, .fieldref 10 11), (0, .class_ 12), (0, .nameAndType 13 14), (0, u "java/lang/String"), (0, u "value"), (0, u "[B"), (0, .fieldref 10 16), (0, .nameAndType 17 18), (0, u "coder"), (0, u "B"), (2, u "hash"), (0, u "I"), (2, u "hashIsZero"), (0, u "Z"), (0, .methodref 10 28), (0, .nameAndType 5 29), (0, u "([CIILjava/lang/Void;)V"), (6, u "checkBoundsOffCount"), (0, u "(III)I"), (0, .fieldref 10 39), (0, .nameAndType 40 26), (0, u "COMPACT_STRINGS"), (1, .class_ 44), (1, u "java/lang/StringUTF16"), (0, u "compress"), (1, .methodref 42 48), (0, .nameAndType 49 50), (0, u "coderFromArrayLen"), (0, u "([BI)B"), (3, .methodref 55 56), (0, .class_ 57), (0, .nameAndType 58 59), (0, u "java/util/Arrays"), (0, u "copyOfRange"), (0, u "([BII)[B"), (47, .class_ 109), (1, u "java/lang/StringLatin1"), (32, u "()Z"), (34, .methodref 42 178), (0, .nameAndType 45 179), (0, u "([CII)[B"), (13, .class_ 195), (1, u "java/lang/System"), (16, .methodref 193 213), (0, .nameAndType 214 215), (0, u "arraycopy"), (0, u "(Ljava/lang/Object;ILjava/lang/Object;II)V"), (118, u "()I"), (0, .methodref 10 336), (0, .nameAndType 17 337), (0, u "()B"), (2, u "()[B"), (22, u "([BI)C"), (27, u "(II)V"), (35, u "(I)C"), (61, .methodref 10 490), (0, .nameAndType 5 491), (0, u "(Ljava/lang/AbstractStringBuilder;Ljava/lang/Void;)V"), (0, .methodref 10 493), (0, .nameAndType 494 142), (0, u "isLatin1"), (0, .methodref 107 496), (0, .nameAndType 497 363), (0, u "charAt"), (0, .methodref 42 496), (2, u "checkIndex"), (4, .nameAndType 507 334), (0, u "length"), (24, u "getBytes"), (8, .methodref 107 542), (0, .nameAndType 543 544), (0, u "equals"), (0, u "([B[B)Z"), (4, .methodref 550 506), (0, .class_ 551), (0, u "java/lang/AbstractStringBuilder"), (0, .methodref 550 553), (0, .nameAndType 554 340), (0, u "getValue"), (18, u "(Ljava/lang/Object;)Z"), (1, .class_ 576), (0, u "java/lang/CharSequence"), (22, u "CASE_INSENSITIVE_ORDER"), (0, u "Ljava/util/Comparator;"), (220, u "([BIB)V"), (188, u "([C)V"), (36, .methodref 550 493), (0, .fieldref 550 1049), (0, .nameAndType 1050 26), (0, u "maybeLatin1"), (2, .fieldref 1054 1055), (0, .class_ 1056), (0, .nameAndType 1057 1058), (0, u "jdk/internal/util/Preconditions"), (0, u "SIOOBE_FORMATTER"), (0, u "Ljava/util/function/BiFunction;"), (0, .methodref 1054 1060), (0, .nameAndType 501 1061), (0, u "(IILjava/util/function/BiFunction;)I"), (2, u "(IIILjava/util/function/BiFunction;)I"), (0, .methodref 1054 1066), (0, .nameAndType 1067 1064), (0, u "checkFromIndexSize"), (33, u "serialPersistentFields"), (0, u "[Ljava/io/ObjectStreamField;"), (0, .class_ 1104), (0, u "java/lang/String$CaseInsensitiveComparator"), (1, .class_ 1107), (0, u "java/io/Serializable"), (0, .class_ 1109), (0, u "java/lang/Comparable"), (0, .class_ 1111), (0, u "java/lang/constant/Constable"), (0, .class_ 1113), (0, u "java/lang/constant/ConstantDesc"), (2, u "serialVersionUID"), (0, u "J"), (3, u "REPL"), (0, u "C"), (2, u "LATIN1"), (1, u "UTF16"), (105, u "(Ljava/lang/StringBuilder;)V")] 217

def k7m0 : Method := { name := "<init>", desc := "()V", sig := { parameters := [], returnType := none }, accessFlags := 1, code := none }
def k7c1 : Code := { maxStack := 5, maxLocals := 2, code := jdk_42_method_3_code, exceptionTable := #[], attributes := #[] }
def k7m1 : Method := { name := "<init>", desc := "([C)V", sig := { parameters := [(.array .char)], returnType := none }, accessFlags := 1, code := some k7c1 }
def k7c2 : Code := { maxStack := 3, maxLocals := 2, code := jdk_42_method_53_code, exceptionTable := #[], attributes := #[] }
def k7m2 : Method := { name := "<init>", desc := "(Ljava/lang/StringBuilder;)V", sig := { parameters := [(.object "java/lang/StringBuilder")], returnType := none }, accessFlags := 1, code := some k7c2 }
def k7c3 : Code := { maxStack := 2, maxLocals := 1, code := jdk_42_method_54_code, exceptionTable := #[], attributes := #[] }
def k7m3 : Method := { name := "length", desc := "()I", sig := { parameters := [], returnType := some .int }, accessFlags := 1, code := some k7c3 }
def k7c4 : Code := { maxStack := 2, maxLocals := 2, code := jdk_42_method_56_code, exceptionTable := #[], attributes := #[] }
def k7m4 : Method := { name := "charAt", desc := "(I)C", sig := { parameters := [.int], returnType := some .char }, accessFlags := 1, code := some k7c4 }
def k7c5 : Code := { maxStack := 2, maxLocals := 3, code := jdk_42_method_66_code, exceptionTable := #[], attributes := #[] }
def k7m5 : Method := { name := "equals", desc := "(Ljava/lang/Object;)Z", sig := { parameters := [(.object "java/lang/Object")], returnType := some .boolean }, accessFlags := 1, code := some k7c5 }
def k7c6 : Code := { maxStack := 5, maxLocals := 4, code := jdk_42_method_147_code, exceptionTable := #[], attributes := #[] }
def k7m6 : Method := { name := "getBytes", desc := "([BIB)V", sig := { parameters := [(.array .byte), .int, .byte], returnType := none }, accessFlags := 0, code := some k7c6 }
def k7c7 : Code := { maxStack := 4, maxLocals := 6, code := jdk_42_method_149_code, exceptionTable := #[], attributes := #[] }
def k7m7 : Method := { name := "<init>", desc := "([CIILjava/lang/Void;)V", sig := { parameters := [(.array .char), .int, .int, (.object "java/lang/Void")], returnType := none }, accessFlags := 2, code := some k7c7 }
def k7c8 : Code := { maxStack := 5, maxLocals := 5, code := jdk_42_method_150_code, exceptionTable := #[], attributes := #[] }
def k7m8 : Method := { name := "<init>", desc := "(Ljava/lang/AbstractStringBuilder;Ljava/lang/Void;)V", sig := { parameters := [(.object "java/lang/AbstractStringBuilder"), (.object "java/lang/Void")], returnType := none }, accessFlags := 0, code := some k7c8 }
def k7c9 : Code := { maxStack := 1, maxLocals := 1, code := jdk_42_method_152_code, exceptionTable := #[], attributes := #[] }
def k7m9 : Method := { name := "coder", desc := "()B", sig := { parameters := [], returnType := some .byte }, accessFlags := 0, code := some k7c9 }
def k7c10 : Code := { maxStack := 1, maxLocals := 1, code := jdk_42_method_154_code, exceptionTable := #[], attributes := #[] }
def k7m10 : Method := { name := "isLatin1", desc := "()Z", sig := { parameters := [], returnType := some .boolean }, accessFlags := 0, code := some k7c10 }
def k7c11 : Code := { maxStack := 3, maxLocals := 2, code := jdk_42_method_155_code, exceptionTable := #[], attributes := #[] }
def k7m11 : Method := { name := "checkIndex", desc := "(II)V", sig := { parameters := [.int, .int], returnType := none }, accessFlags := 8, code := some k7c11 }
def k7c12 : Code := { maxStack := 4, maxLocals := 3, code := jdk_42_method_157_code, exceptionTable := #[], attributes := #[] }
def k7m12 : Method := { name := "checkBoundsOffCount", desc := "(III)I", sig := { parameters := [.int, .int, .int], returnType := some .int }, accessFlags := 8, code := some k7c12 }
/-- java/lang/String -/
def k7 : Class := { plain "java/lang/String" (some 0) with
  accessFlags := 49
  interfaces := #[2, 3, 4, 5, 6]
  cf := some (fileOf pool7 10 #[.nestMembers #[1103]] #[{ accessFlags := 1, nameIndex := 5, descriptorIndex := 6, attributes := #[] }, { accessFlags := 1, nameIndex := 5, descriptorIndex := 1010, attributes := #[] }, { accessFlags := 1, nameIndex := 5, descriptorIndex := 1233, attributes := #[] }, { accessFlags := 1, nameIndex := 507, descriptorIndex := 334, attributes := #[] }, { accessFlags := 1, nameIndex := 497, descriptorIndex := 427, attributes := #[] }, { accessFlags := 1, nameIndex := 543, descriptorIndex := 573, attributes := #[] }, { accessFlags := 0, nameIndex := 532, descriptorIndex := 821, attributes := #[] }, { accessFlags := 2, nameIndex := 5, descriptorIndex := 29, attributes := #[] }, { accessFlags := 0, nameIndex := 5, descriptorIndex := 491, attributes := #[] }, { accessFlags := 0, nameIndex := 17, descriptorIndex := 337, attributes := #[] }, { accessFlags := 0, nameIndex := 494, descriptorIndex := 142, attributes := #[] }, { accessFlags := 8, nameIndex := 501, descriptorIndex := 391, attributes := #[] }, { accessFlags := 8, nameIndex := 36, descriptorIndex := 37, attributes := #[] }] 49 2 #[1106, 1108, 575, 1110, 1112] #[{ accessFlags := 18, nameIndex := 13, descriptorIndex := 14, attributes := #[] }, { accessFlags := 18, nameIndex := 17, descriptorIndex := 18, attributes := #[] }, { accessFlags := 2, nameIndex := 21, descriptorIndex := 22, attributes := #[] }, { accessFlags := 2, nameIndex := 25, descriptorIndex := 26, attributes := #[] }, { accessFlags := 26, nameIndex := 1116, descriptorIndex := 1117, attributes := #[] }, { accessFlags := 24, nameIndex := 40, descriptorIndex := 26, attributes := #[] }, { accessFlags := 26, nameIndex := 1101, descriptorIndex := 1102, attributes := #[] }, { accessFlags := 26, nameIndex := 1121, descriptorIndex := 1122, attributes := #[] }, { accessFlags := 25, nameIndex := 599, descriptorIndex := 600, attributes := #[] }, { accessFlags := 24, nameIndex := 1125, descriptorIndex := 18, attributes := #[] }, { accessFlags := 24, nameIndex := 1127, descriptorIndex := 18, attributes := #[] }])
  fields := #[{ name := "value", type := (.array .byte), accessFlags := 18, slot := 0, constantValue := 0 }, { name := "coder", type := .byte, accessFlags := 18, slot := 1, constantValue := 0 }, { name := "hash", type := .int, accessFlags := 2, slot := 2, constantValue := 0 }, { name := "hashIsZero", type := .boolean, accessFlags := 2, slot := 3, constantValue := 0 }, { name := "serialVersionUID", type := .long, accessFlags := 26, slot := 0, constantValue := 0 }, { name := "COMPACT_STRINGS", type := .boolean, accessFlags := 24, slot := 1, constantValue := 0 }, { name := "serialPersistentFields", type := (.array (.object "java/io/ObjectStreamField")), accessFlags := 26, slot := 2, constantValue := 0 }, { name := "REPL", type := .char, accessFlags := 26, slot := 3, constantValue := 0 }, { name := "CASE_INSENSITIVE_ORDER", type := (.object "java/util/Comparator"), accessFlags := 25, slot := 4, constantValue := 0 }, { name := "LATIN1", type := .byte, accessFlags := 24, slot := 5, constantValue := 0 }, { name := "UTF16", type := .byte, accessFlags := 24, slot := 6, constantValue := 0 }]
  methods := #[k7m0, k7m1, k7m2, k7m3, k7m4, k7m5, k7m6, k7m7, k7m8, k7m9, k7m10, k7m11, k7m12]
  instanceTypes := #[(.array .byte), .byte, .int, .boolean]
  staticTypes := #[.long, .boolean, (.array (.object "java/io/ObjectStreamField")), .char, (.object "java/util/Comparator"), .byte, .byte]
  resolved := Array.replicate 1451 none
  statics := some 0 }

def pool8 : Array CpInfo := pool [(6, u "Lcom/example/conversation_framework/conversationframework/Scope;"), (1, .class_ 10), (1, u "com/example/conversation_framework/conversationframework/Component"), (0, u "<init>"), (19, .class_ 33), (0, .nameAndType 11 34), (0, u "java/lang/Object"), (0, u "()V"), (1, u "name"), (10, u "Ljava/lang/String;"), (1, u "scope"), (3, u "factory"), (4, u "Ljava/util/function/Function;"), (1, u "destroy"), (4, u "Ljava/util/function/Consumer;"), (4, .class_ 71), (0, u "java/lang/IllegalArgumentException"), (0, .class_ 73), (0, u "java/lang/StringBuilder"), (0, .methodref 72 32), (2, u "append"), (3, .methodref 72 82), (0, .nameAndType 77 83), (0, u "(Ljava/lang/String;)Ljava/lang/StringBuilder;"), (0, .methodref 72 85), (0, .nameAndType 86 87), (0, u "toString"), (0, u "()Ljava/lang/String;"), (0, .methodref 70 89), (0, .nameAndType 11 90), (0, u "(Ljava/lang/String;)V"), (16, .string 108), (0, u "no component is declared with the name "), (27, u "undeclared"), (0, u "(Ljava/lang/String;)Ljava/lang/IllegalArgumentException;")] 32

def k8c0 : Code := { maxStack := 4, maxLocals := 1, code := prog_1_method_12_code, exceptionTable := #[], attributes := #[] }
def k8m0 : Method := { name := "undeclared", desc := "(Ljava/lang/String;)Ljava/lang/IllegalArgumentException;", sig := { parameters := [(.object "java/lang/String")], returnType := some (.object "java/lang/IllegalArgumentException") }, accessFlags := 8, code := some k8c0 }
/-- com/example/conversation_framework/conversationframework/Component -/
def k8 : Class := { plain "com/example/conversation_framework/conversationframework/Component" (some 0) with
  accessFlags := 49
  interfaces := #[]
  cf := some (fileOf pool8 8 #[] #[{ accessFlags := 8, nameIndex := 136, descriptorIndex := 137, attributes := #[] }] 49 31 #[] #[{ accessFlags := 18, nameIndex := 36, descriptorIndex := 47, attributes := #[] }, { accessFlags := 18, nameIndex := 49, descriptorIndex := 6, attributes := #[] }, { accessFlags := 18, nameIndex := 53, descriptorIndex := 58, attributes := #[] }, { accessFlags := 18, nameIndex := 60, descriptorIndex := 65, attributes := #[] }])
  fields := #[{ name := "name", type := (.object "java/lang/String"), accessFlags := 18, slot := 0, constantValue := 0 }, { name := "scope", type := (.object "com/example/conversation_framework/conversationframework/Scope"), accessFlags := 18, slot := 1, constantValue := 0 }, { name := "factory", type := (.object "java/util/function/Function"), accessFlags := 18, slot := 2, constantValue := 0 }, { name := "destroy", type := (.object "java/util/function/Consumer"), accessFlags := 18, slot := 3, constantValue := 0 }]
  methods := #[k8m0]
  instanceTypes := #[(.object "java/lang/String"), (.object "com/example/conversation_framework/conversationframework/Scope"), (.object "java/util/function/Function"), (.object "java/util/function/Consumer")]
  staticTypes := #[]
  resolved := Array.replicate 170 none
  statics := none }

def pool9 : Array CpInfo := pool [(1, .methodref 2 3), (0, .class_ 4), (0, .nameAndType 5 6), (0, u "java/lang/Object"), (0, u "<init>"), (0, u "()V"), (0, .fieldref 8 9), (0, .class_ 10), (0, .nameAndType 11 12), (0, u "java/lang/Throwable"), (0, u "cause"), (0, u "Ljava/lang/Throwable;"), (0, .fieldref 8 14), (0, .nameAndType 15 16), (0, u "UNASSIGNED_STACK"), (0, u "[Ljava/lang/StackTraceElement;"), (0, .fieldref 8 18), (0, .nameAndType 19 16), (0, u "stackTrace"), (0, .fieldref 8 21), (0, .nameAndType 22 23), (0, u "SUPPRESSED_SENTINEL"), (0, u "Ljava/util/List;"), (0, .fieldref 8 25), (0, .nameAndType 26 23), (0, u "suppressedExceptions"), (0, .methodref 8 28), (0, .nameAndType 29 30), (0, u "fillInStackTrace"), (0, u "()Ljava/lang/Throwable;"), (0, .fieldref 8 32), (0, .nameAndType 33 34), (0, u "detailMessage"), (0, u "Ljava/lang/String;"), (3, u "()Ljava/lang/String;"), (2, u "getMessage"), (51, .class_ 94), (0, u "java/lang/Throwable$WrappedPrintStream"), (6, .class_ 103), (1, u "java/lang/Throwable$PrintStreamOrWriter"), (54, u "getCause"), (6, u "$assertionsDisabled"), (0, u "Z"), (26, .class_ 194), (0, u "java/lang/Throwable$WrappedPrintWriter"), (3, .fieldref 8 199), (0, .nameAndType 200 201), (0, u "backtrace"), (0, u "Ljava/lang/Object;"), (0, .methodref 8 203), (0, .nameAndType 29 204), (0, u "(I)Ljava/lang/Throwable;"), (6, u "depth"), (0, u "I"), (10, u "(Ljava/lang/String;)V"), (45, .class_ 271), (1, u "java/lang/Throwable$SentinelHolder"), (32, u "EMPTY_THROWABLE_ARRAY"), (0, u "[Ljava/lang/Throwable;"), (12, .class_ 319), (0, u "java/io/Serializable"), (0, u "serialVersionUID"), (0, u "J"), (5, u "NULL_CAUSE_MESSAGE"), (0, u "SELF_SUPPRESSION_MESSAGE"), (0, u "CAUSE_CAPTION"), (0, u "SUPPRESSED_CAPTION")] 73

def k9c0 : Code := { maxStack := 2, maxLocals := 1, code := jdk_78_method_1_code, exceptionTable := #[], attributes := #[] }
def k9m0 : Method := { name := "<init>", desc := "()V", sig := { parameters := [], returnType := none }, accessFlags := 1, code := some k9c0 }
def k9c1 : Code := { maxStack := 2, maxLocals := 2, code := jdk_78_method_2_code, exceptionTable := #[], attributes := #[] }
def k9m1 : Method := { name := "<init>", desc := "(Ljava/lang/String;)V", sig := { parameters := [(.object "java/lang/String")], returnType := none }, accessFlags := 1, code := some k9c1 }
def k9c2 : Code := { maxStack := 1, maxLocals := 1, code := jdk_78_method_6_code, exceptionTable := #[], attributes := #[] }
def k9m2 : Method := { name := "getMessage", desc := "()Ljava/lang/String;", sig := { parameters := [], returnType := some (.object "java/lang/String") }, accessFlags := 1, code := some k9c2 }
def k9c3 : Code := { maxStack := 2, maxLocals := 1, code := ⟨#[0x2a, 0xb4, 0x00, 0x07, 0x2a, 0xa6, 0x00, 0x07, 0x01, 0xa7, 0x00, 0x07, 0x2a, 0xb4, 0x00, 0x07, 0xb0]⟩, exceptionTable := #[], attributes := #[] }
def k9m3 : Method := { name := "getCause", desc := "()Ljava/lang/Throwable;", sig := { parameters := [], returnType := some (.object "java/lang/Throwable") }, accessFlags := 33, code := some k9c3 }
def k9c4 : Code := { maxStack := 2, maxLocals := 1, code := ⟨#[0x2a, 0xb4, 0x00, 0x11, 0xc7, 0x00, 0x0a, 0x2a, 0xb4, 0x00, 0xc6, 0xc6, 0x00, 0x10, 0x2a, 0x03, 0xb6, 0x00, 0xca, 0x57, 0x2a, 0xb2, 0x00, 0x0d, 0xb5, 0x00, 0x11, 0x2a, 0xb0]⟩, exceptionTable := #[], attributes := #[] }
def k9m4 : Method := { name := "fillInStackTrace", desc := "()Ljava/lang/Throwable;", sig := { parameters := [], returnType := some (.object "java/lang/Throwable") }, accessFlags := 33, code := some k9c4 }
def k9m5 : Method := { name := "fillInStackTrace", desc := "(I)Ljava/lang/Throwable;", sig := { parameters := [.int], returnType := some (.object "java/lang/Throwable") }, accessFlags := 258, code := none }
/-- java/lang/Throwable -/
def k9 : Class := { plain "java/lang/Throwable" (some 0) with
  accessFlags := 33
  interfaces := #[2]
  cf := some (fileOf pool9 8 #[.nestMembers #[193, 93, 101, 269]] #[{ accessFlags := 1, nameIndex := 5, descriptorIndex := 6, attributes := #[] }, { accessFlags := 1, nameIndex := 5, descriptorIndex := 223, attributes := #[] }, { accessFlags := 1, nameIndex := 41, descriptorIndex := 38, attributes := #[] }, { accessFlags := 33, nameIndex := 158, descriptorIndex := 30, attributes := #[] }, { accessFlags := 33, nameIndex := 29, descriptorIndex := 30, attributes := #[] }, { accessFlags := 258, nameIndex := 29, descriptorIndex := 204, attributes := #[] }] 33 2 #[318] #[{ accessFlags := 26, nameIndex := 320, descriptorIndex := 321, attributes := #[] }, { accessFlags := 130, nameIndex := 200, descriptorIndex := 201, attributes := #[] }, { accessFlags := 2, nameIndex := 33, descriptorIndex := 34, attributes := #[] }, { accessFlags := 26, nameIndex := 15, descriptorIndex := 16, attributes := #[] }, { accessFlags := 2, nameIndex := 11, descriptorIndex := 12, attributes := #[] }, { accessFlags := 2, nameIndex := 19, descriptorIndex := 16, attributes := #[] }, { accessFlags := 130, nameIndex := 211, descriptorIndex := 212, attributes := #[] }, { accessFlags := 26, nameIndex := 22, descriptorIndex := 23, attributes := #[] }, { accessFlags := 2, nameIndex := 26, descriptorIndex := 23, attributes := #[] }, { accessFlags := 26, nameIndex := 327, descriptorIndex := 34, attributes := #[] }, { accessFlags := 26, nameIndex := 328, descriptorIndex := 34, attributes := #[] }, { accessFlags := 26, nameIndex := 329, descriptorIndex := 34, attributes := #[] }, { accessFlags := 26, nameIndex := 330, descriptorIndex := 34, attributes := #[] }, { accessFlags := 26, nameIndex := 304, descriptorIndex := 305, attributes := #[] }, { accessFlags := 4120, nameIndex := 165, descriptorIndex := 166, attributes := #[] }])
  fields := #[{ name := "serialVersionUID", type := .long, accessFlags := 26, slot := 0, constantValue := 0 }, { name := "backtrace", type := (.object "java/lang/Object"), accessFlags := 130, slot := 0, constantValue := 0 }, { name := "detailMessage", type := (.object "java/lang/String"), accessFlags := 2, slot := 1, constantValue := 0 }, { name := "UNASSIGNED_STACK", type := (.array (.object "java/lang/StackTraceElement")), accessFlags := 26, slot := 1, constantValue := 0 }, { name := "cause", type := (.object "java/lang/Throwable"), accessFlags := 2, slot := 2, constantValue := 0 }, { name := "stackTrace", type := (.array (.object "java/lang/StackTraceElement")), accessFlags := 2, slot := 3, constantValue := 0 }, { name := "depth", type := .int, accessFlags := 130, slot := 4, constantValue := 0 }, { name := "SUPPRESSED_SENTINEL", type := (.object "java/util/List"), accessFlags := 26, slot := 2, constantValue := 0 }, { name := "suppressedExceptions", type := (.object "java/util/List"), accessFlags := 2, slot := 5, constantValue := 0 }, { name := "NULL_CAUSE_MESSAGE", type := (.object "java/lang/String"), accessFlags := 26, slot := 3, constantValue := 0 }, { name := "SELF_SUPPRESSION_MESSAGE", type := (.object "java/lang/String"), accessFlags := 26, slot := 4, constantValue := 0 }, { name := "CAUSE_CAPTION", type := (.object "java/lang/String"), accessFlags := 26, slot := 5, constantValue := 0 }, { name := "SUPPRESSED_CAPTION", type := (.object "java/lang/String"), accessFlags := 26, slot := 6, constantValue := 0 }, { name := "EMPTY_THROWABLE_ARRAY", type := (.array (.object "java/lang/Throwable")), accessFlags := 26, slot := 7, constantValue := 0 }, { name := "$assertionsDisabled", type := .boolean, accessFlags := 4120, slot := 8, constantValue := 0 }]
  methods := #[k9m0, k9m1, k9m2, k9m3, k9m4, k9m5]
  instanceTypes := #[(.object "java/lang/Object"), (.object "java/lang/String"), (.object "java/lang/Throwable"), (.array (.object "java/lang/StackTraceElement")), .int, (.object "java/util/List")]
  staticTypes := #[.long, (.array (.object "java/lang/StackTraceElement")), (.object "java/util/List"), (.object "java/lang/String"), (.object "java/lang/String"), (.object "java/lang/String"), (.object "java/lang/String"), (.array (.object "java/lang/Throwable")), .boolean]
  resolved := Array.replicate 404 none
  statics := some 1 }

def pool10 : Array CpInfo := pool [(2, .class_ 4), (1, u "java/lang/Throwable"), (0, u "<init>"), (0, u "()V"), (0, .methodref 2 8), (0, .nameAndType 5 9), (0, u "(Ljava/lang/String;)V"), (9, .class_ 20), (0, u "java/lang/Exception"), (0, u "serialVersionUID"), (0, u "J")] 17

def k10m0 : Method := { name := "<init>", desc := "()V", sig := { parameters := [], returnType := none }, accessFlags := 1, code := none }
def k10c1 : Code := { maxStack := 2, maxLocals := 2, code := jdk_59_method_2_code, exceptionTable := #[], attributes := #[] }
def k10m1 : Method := { name := "<init>", desc := "(Ljava/lang/String;)V", sig := { parameters := [(.object "java/lang/String")], returnType := none }, accessFlags := 1, code := some k10c1 }
/-- java/lang/Exception -/
def k10 : Class := { plain "java/lang/Exception" (some 9) with
  accessFlags := 33
  interfaces := #[]
  cf := some (fileOf pool10 19 #[] #[{ accessFlags := 1, nameIndex := 5, descriptorIndex := 6, attributes := #[] }, { accessFlags := 1, nameIndex := 5, descriptorIndex := 9, attributes := #[] }] 33 2 #[] #[{ accessFlags := 24, nameIndex := 21, descriptorIndex := 22, attributes := #[] }])
  fields := #[{ name := "serialVersionUID", type := .long, accessFlags := 24, slot := 0, constantValue := 0 }]
  methods := #[k10m0, k10m1]
  instanceTypes := #[(.object "java/lang/Object"), (.object "java/lang/String"), (.object "java/lang/Throwable"), (.array (.object "java/lang/StackTraceElement")), .int, (.object "java/util/List")]
  staticTypes := #[.long]
  resolved := Array.replicate 40 none
  statics := none }

def pool11 : Array CpInfo := pool [(2, .class_ 4), (1, u "java/lang/Exception"), (0, u "<init>"), (0, u "()V"), (0, .methodref 2 8), (0, .nameAndType 5 9), (0, u "(Ljava/lang/String;)V"), (9, .class_ 20), (0, u "java/lang/RuntimeException"), (0, u "serialVersionUID"), (0, u "J")] 17

def k11m0 : Method := { name := "<init>", desc := "()V", sig := { parameters := [], returnType := none }, accessFlags := 1, code := none }
def k11c1 : Code := { maxStack := 2, maxLocals := 2, code := jdk_58_method_2_code, exceptionTable := #[], attributes := #[] }
def k11m1 : Method := { name := "<init>", desc := "(Ljava/lang/String;)V", sig := { parameters := [(.object "java/lang/String")], returnType := none }, accessFlags := 1, code := some k11c1 }
/-- java/lang/RuntimeException -/
def k11 : Class := { plain "java/lang/RuntimeException" (some 10) with
  accessFlags := 33
  interfaces := #[]
  cf := some (fileOf pool11 19 #[] #[{ accessFlags := 1, nameIndex := 5, descriptorIndex := 6, attributes := #[] }, { accessFlags := 1, nameIndex := 5, descriptorIndex := 9, attributes := #[] }] 33 2 #[] #[{ accessFlags := 24, nameIndex := 21, descriptorIndex := 22, attributes := #[] }])
  fields := #[{ name := "serialVersionUID", type := .long, accessFlags := 24, slot := 0, constantValue := 0 }]
  methods := #[k11m0, k11m1]
  instanceTypes := #[(.object "java/lang/Object"), (.object "java/lang/String"), (.object "java/lang/Throwable"), (.array (.object "java/lang/StackTraceElement")), .int, (.object "java/util/List")]
  staticTypes := #[.long]
  resolved := Array.replicate 40 none
  statics := none }

def pool12 : Array CpInfo := pool [(2, .class_ 4), (1, u "java/lang/RuntimeException"), (0, u "<init>"), (0, u "()V"), (0, .methodref 2 8), (0, .nameAndType 5 9), (0, u "(Ljava/lang/String;)V"), (6, .class_ 17), (0, u "java/lang/IllegalArgumentException"), (0, u "serialVersionUID"), (0, u "J")] 15

def k12m0 : Method := { name := "<init>", desc := "()V", sig := { parameters := [], returnType := none }, accessFlags := 1, code := none }
def k12c1 : Code := { maxStack := 2, maxLocals := 2, code := jdk_57_method_2_code, exceptionTable := #[], attributes := #[] }
def k12m1 : Method := { name := "<init>", desc := "(Ljava/lang/String;)V", sig := { parameters := [(.object "java/lang/String")], returnType := none }, accessFlags := 1, code := some k12c1 }
/-- java/lang/IllegalArgumentException -/
def k12 : Class := { plain "java/lang/IllegalArgumentException" (some 11) with
  accessFlags := 33
  interfaces := #[]
  cf := some (fileOf pool12 16 #[] #[{ accessFlags := 1, nameIndex := 5, descriptorIndex := 6, attributes := #[] }, { accessFlags := 1, nameIndex := 5, descriptorIndex := 9, attributes := #[] }] 33 2 #[] #[{ accessFlags := 26, nameIndex := 18, descriptorIndex := 19, attributes := #[] }])
  fields := #[{ name := "serialVersionUID", type := .long, accessFlags := 26, slot := 0, constantValue := 0 }]
  methods := #[k12m0, k12m1]
  instanceTypes := #[(.object "java/lang/Object"), (.object "java/lang/String"), (.object "java/lang/Throwable"), (.array (.object "java/lang/StackTraceElement")), .int, (.object "java/util/List")]
  staticTypes := #[.long]
  resolved := Array.replicate 35 none
  statics := none }

def pool13 : Array CpInfo := pool [(1, .class_ 2), (0, u "java/lang/Appendable"), (0, .class_ 4), (0, u "java/lang/Object")] 9

/-- java/lang/Appendable -/
def k13 : Class := { plain "java/lang/Appendable" (some 0) with
  accessFlags := 1537
  interfaces := #[]
  cf := some (fileOf pool13 1 #[] #[] 1537 3 #[] #[])
  fields := #[]
  methods := #[]
  instanceTypes := #[]
  staticTypes := #[]
  resolved := Array.replicate 14 none
  statics := none }

def pool14 : Array CpInfo := pool [(1, .class_ 2), (0, u "java/lang/String"), (0, .methodref 4 5), (0, .class_ 6), (0, .nameAndType 7 8), (0, u "java/lang/Object"), (0, u "<init>"), (0, u "()V"), (1, .class_ 12), (1, u "java/lang/AbstractStringBuilder"), (0, u "EMPTYVALUE"), (0, u "[B"), (0, .fieldref 10 16), (0, .nameAndType 17 14), (0, u "value"), (0, .fieldref 1 19), (0, .nameAndType 20 21), (0, u "COMPACT_STRINGS"), (0, u "Z"), (0, .fieldref 10 23), (0, .nameAndType 24 25), (0, u "coder"), (0, u "B"), (0, .methodref 27 28), (0, .class_ 29), (0, .nameAndType 30 31), (0, u "java/lang/StringUTF16"), (0, u "newBytesFor"), (0, u "(I)[B"), (0, .methodref 1 33), (0, .nameAndType 34 35), (0, u "length"), (0, u "()I"), (3, .integer 2147483647), (0, .methodref 1 41), (0, .nameAndType 24 42), (0, u "()B"), (2, u "append"), (0, u "(Ljava/lang/String;)Ljava/lang/AbstractStringBuilder;"), (1, .class_ 49), (0, u "java/lang/CharSequence"), (19, u "(Ljava/lang/String;)V"), (5, u "maybeLatin1"), (3, .fieldref 10 80), (0, .nameAndType 81 82), (0, u "count"), (0, u "I"), (0, .methodref 10 84), (0, .nameAndType 85 86), (0, u "isLatin1"), (0, u "()Z"), (1, .class_ 90), (1, u "java/lang/StringLatin1"), (9, .methodref 10 101), (0, .nameAndType 102 103), (0, u "ensureCapacityInternal"), (0, u "(I)V"), (0, .methodref 10 105), (0, .nameAndType 106 107), (0, u "newCapacity"), (0, u "(I)I"), (0, .methodref 109 110), (0, .class_ 111), (0, .nameAndType 112 113), (0, u "java/util/Arrays"), (0, u "copyOf"), (0, u "([BI)[B"), (0, .methodref 115 116), (0, .class_ 117), (0, .nameAndType 118 119), (0, u "jdk/internal/util/ArraysSupport"), (0, u "newLength"), (0, u "(III)I"), (5, .methodref 88 126), (0, .nameAndType 127 128), (0, u "inflate"), (0, u "([BI[BII)V"), (66, .methodref 10 196), (0, .nameAndType 127 8), (11, .methodref 10 209), (0, .nameAndType 210 211), (0, u "putStringAt"), (0, u "(ILjava/lang/String;)V"), (5, u "inflateIfNeededFor"), (2, .nameAndType 221 222), (0, u "getBytes"), (0, u "([BIB)V"), (174, .methodref 10 398), (0, .nameAndType 217 69), (0, .methodref 1 220), (3, u "()[B"), (40, .class_ 445), (0, u "java/lang/Appendable"), (106, u "getValue")] 56

def k14m0 : Method := { name := "<init>", desc := "()V", sig := { parameters := [], returnType := none }, accessFlags := 0, code := none }
def k14c1 : Code := { maxStack := 2, maxLocals := 2, code := jdk_68_method_2_code, exceptionTable := #[], attributes := #[] }
def k14m1 : Method := { name := "<init>", desc := "(I)V", sig := { parameters := [.int], returnType := none }, accessFlags := 0, code := some k14c1 }
def k14c2 : Code := { maxStack := 1, maxLocals := 1, code := jdk_68_method_6_code, exceptionTable := #[], attributes := #[] }
def k14m2 : Method := { name := "length", desc := "()I", sig := { parameters := [], returnType := some .int }, accessFlags := 1, code := some k14c2 }
def k14c3 : Code := { maxStack := 4, maxLocals := 3, code := jdk_68_method_9_code, exceptionTable := #[], attributes := #[] }
def k14m3 : Method := { name := "ensureCapacityInternal", desc := "(I)V", sig := { parameters := [.int], returnType := none }, accessFlags := 2, code := some k14c3 }
def k14c4 : Code := { maxStack := 5, maxLocals := 6, code := jdk_68_method_10_code, exceptionTable := #[], attributes := #[] }
def k14m4 : Method := { name := "newCapacity", desc := "(I)I", sig := { parameters := [.int], returnType := some .int }, accessFlags := 2, code := some k14c4 }
def k14c5 : Code := { maxStack := 5, maxLocals := 2, code := jdk_68_method_11_code, exceptionTable := #[], attributes := #[] }
def k14m5 : Method := { name := "inflate", desc := "()V", sig := { parameters := [], returnType := none }, accessFlags := 2, code := some k14c5 }
def k14c6 : Code := { maxStack := 3, maxLocals := 3, code := jdk_68_method_22_code, exceptionTable := #[], attributes := #[] }
def k14m6 : Method := { name := "append", desc := "(Ljava/lang/String;)Ljava/lang/AbstractStringBuilder;", sig := { parameters := [(.object "java/lang/String")], returnType := some (.object "java/lang/AbstractStringBuilder") }, accessFlags := 1, code := some k14c6 }
def k14c7 : Code := { maxStack := 1, maxLocals := 1, code := jdk_68_method_64_code, exceptionTable := #[], attributes := #[] }
def k14m7 : Method := { name := "getValue", desc := "()[B", sig := { parameters := [], returnType := some (.array .byte) }, accessFlags := 16, code := some k14c7 }
def k14c8 : Code := { maxStack := 1, maxLocals := 1, code := jdk_68_method_68_code, exceptionTable := #[], attributes := #[] }
def k14m8 : Method := { name := "isLatin1", desc := "()Z", sig := { parameters := [], returnType := some .boolean }, accessFlags := 16, code := some k14c8 }
def k14c9 : Code := { maxStack := 2, maxLocals := 2, code := jdk_68_method_71_code, exceptionTable := #[], attributes := #[] }
def k14m9 : Method := { name := "inflateIfNeededFor", desc := "(Ljava/lang/String;)V", sig := { parameters := [(.object "java/lang/String")], returnType := none }, accessFlags := 2, code := some k14c9 }
def k14c10 : Code := { maxStack := 4, maxLocals := 3, code := jdk_68_method_73_code, exceptionTable := #[], attributes := #[] }
def k14m10 : Method := { name := "putStringAt", desc := "(ILjava/lang/String;)V", sig := { parameters := [.int, (.object "java/lang/String")], returnType := none }, accessFlags := 2, code := some k14c10 }
/-- java/lang/AbstractStringBuilder -/
def k14 : Class := { plain "java/lang/AbstractStringBuilder" (some 0) with
  accessFlags := 1056
  interfaces := #[13, 4]
  cf := some (fileOf pool14 10 #[] #[{ accessFlags := 0, nameIndex := 7, descriptorIndex := 8, attributes := #[] }, { accessFlags := 0, nameIndex := 7, descriptorIndex := 103, attributes := #[] }, { accessFlags := 1, nameIndex := 34, descriptorIndex := 35, attributes := #[] }, { accessFlags := 2, nameIndex := 102, descriptorIndex := 103, attributes := #[] }, { accessFlags := 2, nameIndex := 106, descriptorIndex := 107, attributes := #[] }, { accessFlags := 2, nameIndex := 127, descriptorIndex := 8, attributes := #[] }, { accessFlags := 1, nameIndex := 45, descriptorIndex := 46, attributes := #[] }, { accessFlags := 16, nameIndex := 552, descriptorIndex := 403, attributes := #[] }, { accessFlags := 16, nameIndex := 85, descriptorIndex := 86, attributes := #[] }, { accessFlags := 2, nameIndex := 217, descriptorIndex := 69, attributes := #[] }, { accessFlags := 2, nameIndex := 210, descriptorIndex := 211, attributes := #[] }] 1056 4 #[444, 48] #[{ accessFlags := 0, nameIndex := 17, descriptorIndex := 14, attributes := #[] }, { accessFlags := 0, nameIndex := 24, descriptorIndex := 25, attributes := #[] }, { accessFlags := 0, nameIndex := 75, descriptorIndex := 21, attributes := #[] }, { accessFlags := 0, nameIndex := 81, descriptorIndex := 82, attributes := #[] }, { accessFlags := 26, nameIndex := 13, descriptorIndex := 14, attributes := #[] }])
  fields := #[{ name := "value", type := (.array .byte), accessFlags := 0, slot := 0, constantValue := 0 }, { name := "coder", type := .byte, accessFlags := 0, slot := 1, constantValue := 0 }, { name := "maybeLatin1", type := .boolean, accessFlags := 0, slot := 2, constantValue := 0 }, { name := "count", type := .int, accessFlags := 0, slot := 3, constantValue := 0 }, { name := "EMPTYVALUE", type := (.array .byte), accessFlags := 26, slot := 0, constantValue := 0 }]
  methods := #[k14m0, k14m1, k14m2, k14m3, k14m4, k14m5, k14m6, k14m7, k14m8, k14m9, k14m10]
  instanceTypes := #[(.array .byte), .byte, .boolean, .int]
  staticTypes := #[(.array .byte)]
  resolved := Array.replicate 609 none
  statics := none }

def pool15 : Array CpInfo := pool [(1, .methodref 2 3), (0, .class_ 4), (0, .nameAndType 5 6), (0, u "java/lang/AbstractStringBuilder"), (0, u "<init>"), (0, u "(I)V"), (11, .class_ 20), (1, u "java/lang/String"), (3, .class_ 26), (1, u "java/lang/StringBuilder"), (0, u "append"), (0, u "(Ljava/lang/String;)Ljava/lang/StringBuilder;"), (0, .methodref 2 30), (0, .nameAndType 27 31), (0, u "(Ljava/lang/String;)Ljava/lang/AbstractStringBuilder;"), (105, .methodref 18 138), (0, .nameAndType 5 139), (0, u "(Ljava/lang/StringBuilder;)V"), (5, u "()V"), (10, u "()I"), (186, .methodref 2 344), (0, .nameAndType 345 156), (0, u "length"), (3, .class_ 350), (0, u "java/lang/Appendable"), (0, .class_ 352), (0, u "java/io/Serializable"), (0, .class_ 354), (0, u "java/lang/Comparable"), (0, .class_ 356), (0, u "java/lang/CharSequence"), (0, u "serialVersionUID"), (0, u "J"), (40, u "toString"), (0, u "()Ljava/lang/String;")] 21

def k15c0 : Code := { maxStack := 2, maxLocals := 1, code := jdk_67_method_1_code, exceptionTable := #[], attributes := #[] }
def k15m0 : Method := { name := "<init>", desc := "()V", sig := { parameters := [], returnType := none }, accessFlags := 1, code := some k15c0 }
def k15c1 : Code := { maxStack := 2, maxLocals := 2, code := jdk_67_method_7_code, exceptionTable := #[], attributes := #[] }
def k15m1 : Method := { name := "append", desc := "(Ljava/lang/String;)Ljava/lang/StringBuilder;", sig := { parameters := [(.object "java/lang/String")], returnType := some (.object "java/lang/StringBuilder") }, accessFlags := 1, code := some k15c1 }
def k15c2 : Code := { maxStack := 3, maxLocals := 1, code := jdk_67_method_42_code, exceptionTable := #[], attributes := #[] }
def k15m2 : Method := { name := "toString", desc := "()Ljava/lang/String;", sig := { parameters := [], returnType := some (.object "java/lang/String") }, accessFlags := 1, code := some k15c2 }
def k15c3 : Code := { maxStack := 1, maxLocals := 1, code := jdk_67_method_93_code, exceptionTable := #[], attributes := #[] }
def k15m3 : Method := { name := "length", desc := "()I", sig := { parameters := [], returnType := some .int }, accessFlags := 4161, code := some k15c3 }
/-- java/lang/StringBuilder -/
def k15 : Class := { plain "java/lang/StringBuilder" (some 14) with
  accessFlags := 49
  interfaces := #[13, 2, 3, 4]
  cf := some (fileOf pool15 24 #[] #[{ accessFlags := 1, nameIndex := 5, descriptorIndex := 145, attributes := #[] }, { accessFlags := 1, nameIndex := 27, descriptorIndex := 28, attributes := #[] }, { accessFlags := 1, nameIndex := 399, descriptorIndex := 400, attributes := #[] }, { accessFlags := 4161, nameIndex := 345, descriptorIndex := 156, attributes := #[] }] 49 2 #[349, 351, 353, 355] #[{ accessFlags := 24, nameIndex := 357, descriptorIndex := 358, attributes := #[] }])
  fields := #[{ name := "serialVersionUID", type := .long, accessFlags := 24, slot := 0, constantValue := 0 }]
  methods := #[k15m0, k15m1, k15m2, k15m3]
  instanceTypes := #[(.array .byte), .byte, .boolean, .int]
  staticTypes := #[.long]
  resolved := Array.replicate 422 none
  statics := none }

def pool16 : Array CpInfo := pool [(9, u "<init>"), (6, .class_ 18), (1, u "java/lang/Object"), (0, u "()V"), (1, .class_ 23), (1, u "jdk/internal/util/ArraysSupport"), (0, u "LOG2_ARRAY_LONG_INDEX_SCALE"), (0, u "I"), (2, u "U"), (0, u "Ljdk/internal/misc/Unsafe;"), (8, u "BIG_ENDIAN"), (0, u "Z"), (8, u "LOG2_BYTE_BIT_SIZE"), (4, u "LOG2_ARRAY_INT_INDEX_SCALE"), (54, u "JLA"), (0, u "Ljdk/internal/access/JavaLangAccess;"), (11, u "LOG2_ARRAY_BOOLEAN_INDEX_SCALE"), (9, u "LOG2_ARRAY_BYTE_INDEX_SCALE"), (5, u "LOG2_ARRAY_CHAR_INDEX_SCALE"), (5, u "LOG2_ARRAY_SHORT_INDEX_SCALE"), (18, u "LOG2_ARRAY_FLOAT_INDEX_SCALE"), (24, u "LOG2_ARRAY_DOUBLE_INDEX_SCALE"), (6, .methodref 195 196), (0, .class_ 197), (0, .nameAndType 198 199), (0, u "java/lang/Math"), (0, u "max"), (0, u "(II)I"), (0, .integer 2147483639), (76, u "T_BOOLEAN"), (2, u "T_CHAR"), (1, u "T_FLOAT"), (1, u "T_DOUBLE"), (1, u "T_BYTE"), (1, u "T_SHORT"), (1, u "T_INT"), (1, u "T_LONG"), (1, u "SOFT_MAX_ARRAY_LENGTH"), (56, u "newLength"), (0, u "(III)I")] 25

def k16m0 : Method := { name := "<init>", desc := "()V", sig := { parameters := [], returnType := none }, accessFlags := 2, code := none }
def k16c1 : Code := { maxStack := 3, maxLocals := 4, code := jdk_48_method_27_code, exceptionTable := #[], attributes := #[] }
def k16m1 : Method := { name := "newLength", desc := "(III)I", sig := { parameters := [.int, .int, .int], returnType := some .int }, accessFlags := 9, code := some k16c1 }
/-- jdk/internal/util/ArraysSupport -/
def k16 : Class := { plain "jdk/internal/util/ArraysSupport" (some 0) with
  accessFlags := 33
  interfaces := #[]
  cf := some (fileOf pool16 21 #[] #[{ accessFlags := 2, nameIndex := 9, descriptorIndex := 19, attributes := #[] }, { accessFlags := 9, nameIndex := 351, descriptorIndex := 352, attributes := #[] }] 33 16 #[] #[{ accessFlags := 24, nameIndex := 28, descriptorIndex := 29, attributes := #[] }, { accessFlags := 26, nameIndex := 38, descriptorIndex := 39, attributes := #[] }, { accessFlags := 25, nameIndex := 121, descriptorIndex := 25, attributes := #[] }, { accessFlags := 25, nameIndex := 131, descriptorIndex := 25, attributes := #[] }, { accessFlags := 25, nameIndex := 137, descriptorIndex := 25, attributes := #[] }, { accessFlags := 25, nameIndex := 143, descriptorIndex := 25, attributes := #[] }, { accessFlags := 25, nameIndex := 53, descriptorIndex := 25, attributes := #[] }, { accessFlags := 25, nameIndex := 24, descriptorIndex := 25, attributes := #[] }, { accessFlags := 25, nameIndex := 162, descriptorIndex := 25, attributes := #[] }, { accessFlags := 25, nameIndex := 187, descriptorIndex := 25, attributes := #[] }, { accessFlags := 26, nameIndex := 48, descriptorIndex := 25, attributes := #[] }, { accessFlags := 25, nameIndex := 277, descriptorIndex := 25, attributes := #[] }, { accessFlags := 25, nameIndex := 280, descriptorIndex := 25, attributes := #[] }, { accessFlags := 25, nameIndex := 282, descriptorIndex := 25, attributes := #[] }, { accessFlags := 25, nameIndex := 284, descriptorIndex := 25, attributes := #[] }, { accessFlags := 25, nameIndex := 286, descriptorIndex := 25, attributes := #[] }, { accessFlags := 25, nameIndex := 288, descriptorIndex := 25, attributes := #[] }, { accessFlags := 25, nameIndex := 290, descriptorIndex := 25, attributes := #[] }, { accessFlags := 25, nameIndex := 292, descriptorIndex := 25, attributes := #[] }, { accessFlags := 26, nameIndex := 108, descriptorIndex := 109, attributes := #[] }, { accessFlags := 25, nameIndex := 294, descriptorIndex := 25, attributes := #[] }])
  fields := #[{ name := "U", type := (.object "jdk/internal/misc/Unsafe"), accessFlags := 24, slot := 0, constantValue := 0 }, { name := "BIG_ENDIAN", type := .boolean, accessFlags := 26, slot := 1, constantValue := 0 }, { name := "LOG2_ARRAY_BOOLEAN_INDEX_SCALE", type := .int, accessFlags := 25, slot := 2, constantValue := 0 }, { name := "LOG2_ARRAY_BYTE_INDEX_SCALE", type := .int, accessFlags := 25, slot := 3, constantValue := 0 }, { name := "LOG2_ARRAY_CHAR_INDEX_SCALE", type := .int, accessFlags := 25, slot := 4, constantValue := 0 }, { name := "LOG2_ARRAY_SHORT_INDEX_SCALE", type := .int, accessFlags := 25, slot := 5, constantValue := 0 }, { name := "LOG2_ARRAY_INT_INDEX_SCALE", type := .int, accessFlags := 25, slot := 6, constantValue := 0 }, { name := "LOG2_ARRAY_LONG_INDEX_SCALE", type := .int, accessFlags := 25, slot := 7, constantValue := 0 }, { name := "LOG2_ARRAY_FLOAT_INDEX_SCALE", type := .int, accessFlags := 25, slot := 8, constantValue := 0 }, { name := "LOG2_ARRAY_DOUBLE_INDEX_SCALE", type := .int, accessFlags := 25, slot := 9, constantValue := 0 }, { name := "LOG2_BYTE_BIT_SIZE", type := .int, accessFlags := 26, slot := 10, constantValue := 0 }, { name := "T_BOOLEAN", type := .int, accessFlags := 25, slot := 11, constantValue := 0 }, { name := "T_CHAR", type := .int, accessFlags := 25, slot := 12, constantValue := 0 }, { name := "T_FLOAT", type := .int, accessFlags := 25, slot := 13, constantValue := 0 }, { name := "T_DOUBLE", type := .int, accessFlags := 25, slot := 14, constantValue := 0 }, { name := "T_BYTE", type := .int, accessFlags := 25, slot := 15, constantValue := 0 }, { name := "T_SHORT", type := .int, accessFlags := 25, slot := 16, constantValue := 0 }, { name := "T_INT", type := .int, accessFlags := 25, slot := 17, constantValue := 0 }, { name := "T_LONG", type := .int, accessFlags := 25, slot := 18, constantValue := 0 }, { name := "JLA", type := (.object "jdk/internal/access/JavaLangAccess"), accessFlags := 26, slot := 19, constantValue := 0 }, { name := "SOFT_MAX_ARRAY_LENGTH", type := .int, accessFlags := 25, slot := 20, constantValue := 0 }]
  methods := #[k16m0, k16m1]
  instanceTypes := #[]
  staticTypes := #[(.object "jdk/internal/misc/Unsafe"), .boolean, .int, .int, .int, .int, .int, .int, .int, .int, .int, .int, .int, .int, .int, .int, .int, .int, .int, (.object "jdk/internal/access/JavaLangAccess"), .int]
  resolved := Array.replicate 378 none
  statics := none }

def pool17 : Array CpInfo := pool [(1, .class_ 2), (0, u "java/lang/Math"), (1, .class_ 6), (1, u "java/lang/Object"), (0, u "<init>"), (0, u "()V"), (89, .class_ 100), (1, u "java/lang/Math$RandomNumberGeneratorHolder"), (71, u "negativeZeroFloatBits"), (0, u "J"), (2, u "negativeZeroDoubleBits"), (21, u "max"), (2, u "min"), (43, u "$assertionsDisabled"), (0, u "Z"), (88, u "(II)I"), (2, u "twoToTheDoubleScaleDown"), (0, u "D"), (4, u "twoToTheDoubleScaleUp"), (9, u "E"), (3, u "PI"), (2, u "TAU"), (2, u "DEGREES_TO_RADIANS"), (0, u "RADIANS_TO_DEGREES")] 94

def k17m0 : Method := { name := "<init>", desc := "()V", sig := { parameters := [], returnType := none }, accessFlags := 2, code := none }
def k17c1 : Code := { maxStack := 2, maxLocals := 2, code := jdk_29_method_65_code, exceptionTable := #[], attributes := #[] }
def k17m1 : Method := { name := "max", desc := "(II)I", sig := { parameters := [.int, .int], returnType := some .int }, accessFlags := 9, code := some k17c1 }
def k17c2 : Code := { maxStack := 2, maxLocals := 2, code := jdk_29_method_69_code, exceptionTable := #[], attributes := #[] }
def k17m2 : Method := { name := "min", desc := "(II)I", sig := { parameters := [.int, .int], returnType := some .int }, accessFlags := 9, code := some k17c2 }
/-- java/lang/Math -/
def k17 : Class := { plain "java/lang/Math" (some 0) with
  accessFlags := 49
  interfaces := #[]
  cf := some (fileOf pool17 1 #[.nestMembers #[98]] #[{ accessFlags := 2, nameIndex := 7, descriptorIndex := 8, attributes := #[] }, { accessFlags := 9, nameIndex := 198, descriptorIndex := 335, attributes := #[] }, { accessFlags := 9, nameIndex := 201, descriptorIndex := 335, attributes := #[] }] 49 4 #[] #[{ accessFlags := 25, nameIndex := 354, descriptorIndex := 339, attributes := #[] }, { accessFlags := 25, nameIndex := 358, descriptorIndex := 339, attributes := #[] }, { accessFlags := 25, nameIndex := 361, descriptorIndex := 339, attributes := #[] }, { accessFlags := 26, nameIndex := 364, descriptorIndex := 339, attributes := #[] }, { accessFlags := 26, nameIndex := 365, descriptorIndex := 339, attributes := #[] }, { accessFlags := 26, nameIndex := 172, descriptorIndex := 173, attributes := #[] }, { accessFlags := 26, nameIndex := 176, descriptorIndex := 173, attributes := #[] }, { accessFlags := 8, nameIndex := 344, descriptorIndex := 339, attributes := #[] }, { accessFlags := 8, nameIndex := 338, descriptorIndex := 339, attributes := #[] }, { accessFlags := 4120, nameIndex := 245, descriptorIndex := 246, attributes := #[] }])
  fields := #[{ name := "E", type := .double, accessFlags := 25, slot := 0, constantValue := 0 }, { name := "PI", type := .double, accessFlags := 25, slot := 1, constantValue := 0 }, { name := "TAU", type := .double, accessFlags := 25, slot := 2, constantValue := 0 }, { name := "DEGREES_TO_RADIANS", type := .double, accessFlags := 26, slot := 3, constantValue := 0 }, { name := "RADIANS_TO_DEGREES", type := .double, accessFlags := 26, slot := 4, constantValue := 0 }, { name := "negativeZeroFloatBits", type := .long, accessFlags := 26, slot := 5, constantValue := 0 }, { name := "negativeZeroDoubleBits", type := .long, accessFlags := 26, slot := 6, constantValue := 0 }, { name := "twoToTheDoubleScaleUp", type := .double, accessFlags := 8, slot := 7, constantValue := 0 }, { name := "twoToTheDoubleScaleDown", type := .double, accessFlags := 8, slot := 8, constantValue := 0 }, { name := "$assertionsDisabled", type := .boolean, accessFlags := 4120, slot := 9, constantValue := 0 }]
  methods := #[k17m0, k17m1, k17m2]
  instanceTypes := #[]
  staticTypes := #[.double, .double, .double, .double, .double, .long, .long, .double, .double, .boolean]
  resolved := Array.replicate 460 none
  statics := none }

def pool18 : Array CpInfo := pool [(2, .class_ 4), (1, u "java/lang/Object"), (0, u "<init>"), (0, u "()V"), (7, .class_ 16), (1, u "java/util/Arrays"), (57, .class_ 76), (1, u "java/util/Arrays$NaturalOrder"), (32, u "()Ljava/lang/Object;"), (3, .class_ 115), (1, u "java/util/Arrays$LegacyMergeSort"), (1, u "Z"), (10, .nameAndType 129 109), (0, u "clone"), (9, u "copyOfRange"), (10, .methodref 151 152), (0, .class_ 153), (0, .nameAndType 154 155), (0, u "java/lang/System"), (0, u "arraycopy"), (0, u "(Ljava/lang/Object;ILjava/lang/Object;II)V"), (146, u "copyOf"), (1, .methodref 305 306), (0, .class_ 307), (0, .nameAndType 308 309), (0, u "java/lang/Math"), (0, u "min"), (0, u "(II)I"), (0, .methodref 311 128), (0, .class_ 312), (0, u "[B"), (26, .methodref 14 340), (0, .nameAndType 341 342), (0, u "copyOfRangeByte"), (0, u "([BII)[B"), (0, .methodref 14 344), (0, .nameAndType 345 346), (0, u "checkLength"), (0, u "(II)V"), (28, .class_ 376), (0, u "java/util/Arrays$ArrayList"), (68, u "$assertionsDisabled"), (269, u "MIN_ARRAY_SORT_GRAN"), (0, u "I"), (2, u "INSERTIONSORT_THRESHOLD"), (149, u "([BI)[B"), (105, .class_ 976), (0, u "java/util/Arrays$ArrayItr")] 52

def k18m0 : Method := { name := "<init>", desc := "()V", sig := { parameters := [], returnType := none }, accessFlags := 2, code := none }
def k18c1 : Code := { maxStack := 6, maxLocals := 3, code := jdk_65_method_121_code, exceptionTable := #[], attributes := #[] }
def k18m1 : Method := { name := "copyOf", desc := "([BI)[B", sig := { parameters := [(.array .byte), .int], returnType := some (.array .byte) }, accessFlags := 9, code := some k18c1 }
def k18c2 : Code := { maxStack := 4, maxLocals := 2, code := jdk_65_method_131_code, exceptionTable := #[], attributes := #[] }
def k18m2 : Method := { name := "checkLength", desc := "(II)V", sig := { parameters := [.int, .int], returnType := none }, accessFlags := 10, code := some k18c2 }
def k18c3 : Code := { maxStack := 3, maxLocals := 3, code := jdk_65_method_132_code, exceptionTable := #[], attributes := #[] }
def k18m3 : Method := { name := "copyOfRange", desc := "([BII)[B", sig := { parameters := [(.array .byte), .int, .int], returnType := some (.array .byte) }, accessFlags := 9, code := some k18c3 }
def k18c4 : Code := { maxStack := 6, maxLocals := 5, code := jdk_65_method_133_code, exceptionTable := #[], attributes := #[] }
def k18m4 : Method := { name := "copyOfRangeByte", desc := "([BII)[B", sig := { parameters := [(.array .byte), .int, .int], returnType := some (.array .byte) }, accessFlags := 10, code := some k18c4 }
/-- java/util/Arrays -/
def k18 : Class := { plain "java/util/Arrays" (some 0) with
  accessFlags := 49
  interfaces := #[]
  cf := some (fileOf pool18 14 #[.nestMembers #[975, 375, 113, 74]] #[{ accessFlags := 2, nameIndex := 5, descriptorIndex := 6, attributes := #[] }, { accessFlags := 9, nameIndex := 302, descriptorIndex := 869, attributes := #[] }, { accessFlags := 10, nameIndex := 345, descriptorIndex := 346, attributes := #[] }, { accessFlags := 9, nameIndex := 139, descriptorIndex := 342, attributes := #[] }, { accessFlags := 10, nameIndex := 341, descriptorIndex := 342, attributes := #[] }] 49 2 #[] #[{ accessFlags := 26, nameIndex := 715, descriptorIndex := 716, attributes := #[] }, { accessFlags := 26, nameIndex := 719, descriptorIndex := 716, attributes := #[] }, { accessFlags := 4120, nameIndex := 445, descriptorIndex := 117, attributes := #[] }])
  fields := #[{ name := "MIN_ARRAY_SORT_GRAN", type := .int, accessFlags := 26, slot := 0, constantValue := 0 }, { name := "INSERTIONSORT_THRESHOLD", type := .int, accessFlags := 26, slot := 1, constantValue := 0 }, { name := "$assertionsDisabled", type := .boolean, accessFlags := 4120, slot := 2, constantValue := 0 }]
  methods := #[k18m0, k18m1, k18m2, k18m3, k18m4]
  instanceTypes := #[]
  staticTypes := #[.int, .int, .boolean]
  resolved := Array.replicate 1029 none
  statics := none }

def pool19 : Array CpInfo := pool [(2, .class_ 4), (1, u "java/lang/Object"), (0, u "<init>"), (0, u "()V"), (1, .class_ 10), (1, u "java/lang/System"), (0, u "allowSecurityManager"), (0, u "I"), (16, u "cons"), (0, u "Ljava/io/Console;"), (77, .class_ 110), (1, u "java/lang/System$CallersHolder"), (43, u "initialErrStream"), (0, u "Ljava/io/PrintStream;"), (19, u "security"), (0, u "Ljava/lang/SecurityManager;"), (31, .class_ 209), (0, u "java/lang/System$1"), (7, u "props"), (0, u "Ljava/util/Properties;"), (2, u "lineSeparator"), (0, u "Ljava/lang/String;"), (96, .class_ 321), (1, u "java/lang/System$LoggerFinder"), (5, .class_ 328), (0, u "java/lang/System$Logger"), (67, u "err"), (2, u "out"), (91, u "notSupportedJnuEncoding"), (15, u "in"), (17, u "initialIn"), (0, u "Ljava/io/InputStream;"), (35, u "bootLayer"), (0, u "Ljava/lang/ModuleLayer;"), (99, .class_ 664), (0, u "java/lang/System$2"), (9, u "NEVER"), (2, u "MAYBE"), (49, u "arraycopy"), (0, u "(Ljava/lang/Object;ILjava/lang/Object;II)V"), (72, .class_ 802), (0, u "java/lang/System$Logger$Level")] 31

def k19m0 : Method := { name := "<init>", desc := "()V", sig := { parameters := [], returnType := none }, accessFlags := 2, code := none }
def k19m1 : Method := { name := "arraycopy", desc := "(Ljava/lang/Object;ILjava/lang/Object;II)V", sig := { parameters := [(.object "java/lang/Object"), .int, (.object "java/lang/Object"), .int, .int], returnType := none }, accessFlags := 265, code := none }
/-- java/lang/System -/
def k19 : Class := { plain "java/lang/System" (some 0) with
  accessFlags := 49
  interfaces := #[]
  cf := some (fileOf pool19 8 #[.nestMembers #[319, 327, 801, 108, 663, 208]] #[{ accessFlags := 2, nameIndex := 5, descriptorIndex := 6, attributes := #[] }, { accessFlags := 265, nameIndex := 727, descriptorIndex := 728, attributes := #[] }] 49 2 #[] #[{ accessFlags := 25, nameIndex := 507, descriptorIndex := 526, attributes := #[] }, { accessFlags := 25, nameIndex := 399, descriptorIndex := 155, attributes := #[] }, { accessFlags := 25, nameIndex := 396, descriptorIndex := 155, attributes := #[] }, { accessFlags := 10, nameIndex := 525, descriptorIndex := 526, attributes := #[] }, { accessFlags := 26, nameIndex := 674, descriptorIndex := 12, attributes := #[] }, { accessFlags := 26, nameIndex := 677, descriptorIndex := 12, attributes := #[] }, { accessFlags := 10, nameIndex := 11, descriptorIndex := 12, attributes := #[] }, { accessFlags := 74, nameIndex := 175, descriptorIndex := 176, attributes := #[] }, { accessFlags := 10, nameIndex := 491, descriptorIndex := 222, attributes := #[] }, { accessFlags := 74, nameIndex := 29, descriptorIndex := 30, attributes := #[] }, { accessFlags := 74, nameIndex := 154, descriptorIndex := 155, attributes := #[] }, { accessFlags := 10, nameIndex := 217, descriptorIndex := 218, attributes := #[] }, { accessFlags := 10, nameIndex := 221, descriptorIndex := 222, attributes := #[] }, { accessFlags := 8, nameIndex := 562, descriptorIndex := 563, attributes := #[] }])
  fields := #[{ name := "in", type := (.object "java/io/InputStream"), accessFlags := 25, slot := 0, constantValue := 0 }, { name := "out", type := (.object "java/io/PrintStream"), accessFlags := 25, slot := 1, constantValue := 0 }, { name := "err", type := (.object "java/io/PrintStream"), accessFlags := 25, slot := 2, constantValue := 0 }, { name := "initialIn", type := (.object "java/io/InputStream"), accessFlags := 10, slot := 3, constantValue := 0 }, { name := "NEVER", type := .int, accessFlags := 26, slot := 4, constantValue := 0 }, { name := "MAYBE", type := .int, accessFlags := 26, slot := 5, constantValue := 0 }, { name := "allowSecurityManager", type := .int, accessFlags := 10, slot := 6, constantValue := 0 }, { name := "security", type := (.object "java/lang/SecurityManager"), accessFlags := 74, slot := 7, constantValue := 0 }, { name := "notSupportedJnuEncoding", type := (.object "java/lang/String"), accessFlags := 10, slot := 8, constantValue := 0 }, { name := "cons", type := (.object "java/io/Console"), accessFlags := 74, slot := 9, constantValue := 0 }, { name := "initialErrStream", type := (.object "java/io/PrintStream"), accessFlags := 74, slot := 10, constantValue := 0 }, { name := "props", type := (.object "java/util/Properties"), accessFlags := 10, slot := 11, constantValue := 0 }, { name := "lineSeparator", type := (.object "java/lang/String"), accessFlags := 10, slot := 12, constantValue := 0 }, { name := "bootLayer", type := (.object "java/lang/ModuleLayer"), accessFlags := 8, slot := 13, constantValue := 0 }]
  methods := #[k19m0, k19m1]
  instanceTypes := #[]
  staticTypes := #[(.object "java/io/InputStream"), (.object "java/io/PrintStream"), (.object "java/io/PrintStream"), (.object "java/io/InputStream"), .int, .int, .int, (.object "java/lang/SecurityManager"), (.object "java/lang/String"), (.object "java/io/Console"), (.object "java/io/PrintStream"), (.object "java/util/Properties"), (.object "java/lang/String"), (.object "java/lang/ModuleLayer")]
  resolved := Array.replicate 834 none
  statics := none }

def pool20 : Array CpInfo := pool [(1, .class_ 2), (0, u "java/lang/Cloneable"), (0, .class_ 4), (0, u "java/lang/Object")] 2

/-- java/lang/Cloneable -/
def k20 : Class := { plain "java/lang/Cloneable" (some 0) with
  accessFlags := 1537
  interfaces := #[]
  cf := some (fileOf pool20 1 #[] #[] 1537 3 #[] #[])
  fields := #[]
  methods := #[]
  instanceTypes := #[]
  staticTypes := #[]
  resolved := Array.replicate 7 none
  statics := none }

def pool21 : Array CpInfo := pool [(1, .class_ 2), (0, u "java/lang/String"), (1, .class_ 6), (1, u "java/lang/Object"), (0, u "<init>"), (0, u "()V"), (0, .methodref 1 10), (0, .nameAndType 11 12), (0, u "checkIndex"), (0, u "(II)V"), (1, .class_ 16), (1, u "java/lang/StringLatin1"), (0, u "inflate"), (2, .class_ 22), (1, u "java/lang/StringUTF16"), (3, .nameAndType 17 27), (0, u "([BI[BII)V"), (25, u "([BI)C"), (67, u "$assertionsDisabled"), (0, u "Z"), (98, .class_ 223), (1, u "java/lang/StringLatin1$LinesSpliterator"), (16, .methodref 20 26), (11, u "charAt"), (28, u "equals"), (0, u "([B[B)Z"), (107, .class_ 391), (0, u "java/lang/StringLatin1$CharsSpliterator")] 3

def k21m0 : Method := { name := "<init>", desc := "()V", sig := { parameters := [], returnType := none }, accessFlags := 0, code := none }
def k21c1 : Code := { maxStack := 2, maxLocals := 2, code := jdk_43_method_2_code, exceptionTable := #[], attributes := #[] }
def k21m1 : Method := { name := "charAt", desc := "([BI)C", sig := { parameters := [(.array .byte), .int], returnType := some .char }, accessFlags := 9, code := some k21c1 }
def k21c2 : Code := { maxStack := 3, maxLocals := 3, code := jdk_43_method_13_code, exceptionTable := #[], attributes := #[] }
def k21m2 : Method := { name := "equals", desc := "([B[B)Z", sig := { parameters := [(.array .byte), (.array .byte)], returnType := some .boolean }, accessFlags := 9, code := some k21c2 }
def k21c3 : Code := { maxStack := 5, maxLocals := 5, code := jdk_43_method_50_code, exceptionTable := #[], attributes := #[] }
def k21m3 : Method := { name := "inflate", desc := "([BI[BII)V", sig := { parameters := [(.array .byte), .int, (.array .byte), .int, .int], returnType := none }, accessFlags := 9, code := some k21c3 }
/-- java/lang/StringLatin1 -/
def k21 : Class := { plain "java/lang/StringLatin1" (some 0) with
  accessFlags := 48
  interfaces := #[]
  cf := some (fileOf pool21 14 #[.nestMembers #[390, 221]] #[{ accessFlags := 0, nameIndex := 7, descriptorIndex := 8, attributes := #[] }, { accessFlags := 9, nameIndex := 252, descriptorIndex := 53, attributes := #[] }, { accessFlags := 9, nameIndex := 281, descriptorIndex := 282, attributes := #[] }, { accessFlags := 9, nameIndex := 17, descriptorIndex := 27, attributes := #[] }] 48 4 #[] #[{ accessFlags := 4120, nameIndex := 121, descriptorIndex := 122, attributes := #[] }])
  fields := #[{ name := "$assertionsDisabled", type := .boolean, accessFlags := 4120, slot := 0, constantValue := 0 }]
  methods := #[k21m0, k21m1, k21m2, k21m3]
  instanceTypes := #[]
  staticTypes := #[.boolean]
  resolved := Array.replicate 395 none
  statics := none }

def pool22 : Array CpInfo := pool [(2, .class_ 4), (1, u "java/lang/Object"), (0, u "<init>"), (0, u "()V"), (17, .class_ 26), (1, u "jdk/internal/util/Preconditions"), (6, u "checkIndex"), (15, u "checkFromIndexSize"), (5, .class_ 56), (0, u "jdk/internal/util/Preconditions$4"), (57, .class_ 115), (0, u "jdk/internal/util/Preconditions$1"), (7, u "SIOOBE_FORMATTER"), (0, u "Ljava/util/function/BiFunction;"), (0, .class_ 126), (0, u "jdk/internal/util/Preconditions$2"), (3, u "AIOOBE_FORMATTER"), (0, .class_ 132), (0, u "jdk/internal/util/Preconditions$3"), (3, u "IOOBE_FORMATTER"), (41, u "(IILjava/util/function/BiFunction;)I"), (4, u "(IIILjava/util/function/BiFunction;)I")] 10

def k22m0 : Method := { name := "<init>", desc := "()V", sig := { parameters := [], returnType := none }, accessFlags := 1, code := none }
def k22c1 : Code := { maxStack := 3, maxLocals := 3, code := jdk_41_method_11_code, exceptionTable := #[], attributes := #[] }
def k22m1 : Method := { name := "checkIndex", desc := "(IILjava/util/function/BiFunction;)I", sig := { parameters := [.int, .int, (.object "java/util/function/BiFunction")], returnType := some .int }, accessFlags := 9, code := some k22c1 }
def k22c2 : Code := { maxStack := 4, maxLocals := 4, code := jdk_41_method_13_code, exceptionTable := #[], attributes := #[] }
def k22m2 : Method := { name := "checkFromIndexSize", desc := "(IIILjava/util/function/BiFunction;)I", sig := { parameters := [.int, .int, .int, (.object "java/util/function/BiFunction")], returnType := some .int }, accessFlags := 9, code := some k22c2 }
/-- jdk/internal/util/Preconditions -/
def k22 : Class := { plain "jdk/internal/util/Preconditions" (some 0) with
  accessFlags := 33
  interfaces := #[]
  cf := some (fileOf pool22 24 #[.nestMembers #[55, 131, 125, 114]] #[{ accessFlags := 1, nameIndex := 5, descriptorIndex := 6, attributes := #[] }, { accessFlags := 9, nameIndex := 33, descriptorIndex := 178, attributes := #[] }, { accessFlags := 9, nameIndex := 49, descriptorIndex := 183, attributes := #[] }] 33 2 #[] #[{ accessFlags := 25, nameIndex := 123, descriptorIndex := 124, attributes := #[] }, { accessFlags := 25, nameIndex := 130, descriptorIndex := 124, attributes := #[] }, { accessFlags := 25, nameIndex := 136, descriptorIndex := 124, attributes := #[] }])
  fields := #[{ name := "SIOOBE_FORMATTER", type := (.object "java/util/function/BiFunction"), accessFlags := 25, slot := 0, constantValue := 0 }, { name := "AIOOBE_FORMATTER", type := (.object "java/util/function/BiFunction"), accessFlags := 25, slot := 1, constantValue := 0 }, { name := "IOOBE_FORMATTER", type := (.object "java/util/function/BiFunction"), accessFlags := 25, slot := 2, constantValue := 0 }]
  methods := #[k22m0, k22m1, k22m2]
  instanceTypes := #[]
  staticTypes := #[(.object "java/util/function/BiFunction"), (.object "java/util/function/BiFunction"), (.object "java/util/function/BiFunction")]
  resolved := Array.replicate 194 none
  statics := some 2 }

def pool23 : Array CpInfo := pool [(3, .class_ 4), (0, u "java/lang/String"), (1, .class_ 8), (1, u "java/lang/Object"), (0, u "<init>"), (0, u "()V"), (0, .methodref 12 13), (0, .class_ 14), (0, .nameAndType 15 16), (0, u "java/lang/StringUTF16"), (0, u "newBytesLength"), (0, u "(I)I"), (3, .integer 1073741823), (23, .fieldref 12 45), (0, .nameAndType 46 47), (0, u "$assertionsDisabled"), (0, u "Z"), (0, .methodref 12 49), (0, .nameAndType 50 51), (0, u "length"), (0, u "([B)I"), (7, .fieldref 12 60), (0, .nameAndType 61 62), (0, u "HI_BYTE_SHIFT"), (0, u "I"), (0, .fieldref 12 64), (0, .nameAndType 65 62), (0, u "LO_BYTE_SHIFT"), (1, .methodref 12 68), (0, .nameAndType 69 70), (0, u "checkIndex"), (0, u "(I[B)V"), (0, .methodref 12 72), (0, .nameAndType 73 74), (0, u "getChar"), (0, u "([BI)C"), (24, u "(II[B)V"), (7, .methodref 12 108), (0, .nameAndType 109 110), (0, u "newBytesFor"), (0, u "(I)[B"), (0, .methodref 12 112), (0, .nameAndType 113 114), (0, u "putChar"), (0, u "([BII)V"), (0, .methodref 12 116), (0, .nameAndType 117 118), (0, u "compress"), (0, u "([CI[BII)I"), (0, .methodref 12 120), (0, .nameAndType 121 122), (0, u "toBytes"), (0, u "([CII)[B"), (17, u "inflate"), (0, u "([BI[BII)V"), (31, .methodref 12 174), (0, .nameAndType 175 99), (0, u "checkBoundsOffCount"), (85, u "coderFromArrayLen"), (0, u "([BI)B"), (18, u "(III)I"), (87, .class_ 371), (1, u "java/lang/StringUTF16$LinesSpliterator"), (20, u "charAt"), (21, .methodref 3 415), (0, .nameAndType 69 416), (0, u "(II)V"), (2, .methodref 3 420), (0, .nameAndType 175 281), (9, u "MAX_LENGTH"), (196, .class_ 628), (0, u "java/lang/StringUTF16$CodePointsSpliterator"), (0, .class_ 630), (0, u "java/lang/StringUTF16$CharsSpliterator")] 4

def k23m0 : Method := { name := "<init>", desc := "()V", sig := { parameters := [], returnType := none }, accessFlags := 0, code := none }
def k23c1 : Code := { maxStack := 1, maxLocals := 1, code := jdk_52_method_2_code, exceptionTable := #[], attributes := #[] }
def k23m1 : Method := { name := "newBytesFor", desc := "(I)[B", sig := { parameters := [.int], returnType := some (.array .byte) }, accessFlags := 9, code := some k23c1 }
def k23c2 : Code := { maxStack := 4, maxLocals := 1, code := jdk_52_method_3_code, exceptionTable := #[], attributes := #[] }
def k23m2 : Method := { name := "newBytesLength", desc := "(I)I", sig := { parameters := [.int], returnType := some .int }, accessFlags := 9, code := some k23c2 }
def k23c3 : Code := { maxStack := 4, maxLocals := 3, code := jdk_52_method_4_code, exceptionTable := #[], attributes := #[] }
def k23m3 : Method := { name := "putChar", desc := "([BII)V", sig := { parameters := [(.array .byte), .int, .int], returnType := none }, accessFlags := 8, code := some k23c3 }
def k23c4 : Code := { maxStack := 3, maxLocals := 2, code := jdk_52_method_5_code, exceptionTable := #[], attributes := #[] }
def k23m4 : Method := { name := "getChar", desc := "([BI)C", sig := { parameters := [(.array .byte), .int], returnType := some .char }, accessFlags := 8, code := some k23c4 }
def k23c5 : Code := { maxStack := 2, maxLocals := 1, code := jdk_52_method_6_code, exceptionTable := #[], attributes := #[] }
def k23m5 : Method := { name := "length", desc := "([B)I", sig := { parameters := [(.array .byte)], returnType := some .int }, accessFlags := 9, code := some k23c5 }
def k23c6 : Code := { maxStack := 4, maxLocals := 5, code := jdk_52_method_14_code, exceptionTable := #[], attributes := #[] }
def k23m6 : Method := { name := "toBytes", desc := "([CII)[B", sig := { parameters := [(.array .char), .int, .int], returnType := some (.array .byte) }, accessFlags := 9, code := some k23c6 }
def k23c7 : Code := { maxStack := 2, maxLocals := 2, code := jdk_52_method_15_code, exceptionTable := #[], attributes := #[] }
def k23m7 : Method := { name := "coderFromArrayLen", desc := "([BI)B", sig := { parameters := [(.array .byte), .int], returnType := some .byte }, accessFlags := 8, code := some k23c7 }
def k23c8 : Code := { maxStack := 5, maxLocals := 6, code := jdk_52_method_16_code, exceptionTable := #[], attributes := #[] }
def k23m8 : Method := { name := "compress", desc := "([CII)[B", sig := { parameters := [(.array .char), .int, .int], returnType := some (.array .byte) }, accessFlags := 9, code := some k23c8 }
def k23c9 : Code := { maxStack := 3, maxLocals := 7, code := jdk_52_method_21_code, exceptionTable := #[], attributes := #[] }
def k23m9 : Method := { name := "compress", desc := "([CI[BII)I", sig := { parameters := [(.array .char), .int, (.array .byte), .int, .int], returnType := some .int }, accessFlags := 9, code := some k23c9 }
def k23c10 : Code := { maxStack := 2, maxLocals := 2, code := jdk_52_method_83_code, exceptionTable := #[], attributes := #[] }
def k23m10 : Method := { name := "charAt", desc := "([BI)C", sig := { parameters := [(.array .byte), .int], returnType := some .char }, accessFlags := 9, code := some k23c10 }
def k23c11 : Code := { maxStack := 4, maxLocals := 6, code := jdk_52_method_86_code, exceptionTable := #[], attributes := #[] }
def k23m11 : Method := { name := "inflate", desc := "([BI[BII)V", sig := { parameters := [(.array .byte), .int, (.array .byte), .int, .int], returnType := none }, accessFlags := 9, code := some k23c11 }
def k23c12 : Code := { maxStack := 2, maxLocals := 2, code := jdk_52_method_91_code, exceptionTable := #[], attributes := #[] }
def k23m12 : Method := { name := "checkIndex", desc := "(I[B)V", sig := { parameters := [.int, (.array .byte)], returnType := none }, accessFlags := 9, code := some k23c12 }
def k23c13 : Code := { maxStack := 3, maxLocals := 3, code := jdk_52_method_94_code, exceptionTable := #[], attributes := #[] }
def k23m13 : Method := { name := "checkBoundsOffCount", desc := "(II[B)V", sig := { parameters := [.int, .int, (.array .byte)], returnType := none }, accessFlags := 9, code := some k23c13 }
/-- java/lang/StringUTF16 -/
def k23 : Class := { plain "java/lang/StringUTF16" (some 0) with
  accessFlags := 48
  interfaces := #[]
  cf := some (fileOf pool23 12 #[.nestMembers #[627, 629, 369]] #[{ accessFlags := 0, nameIndex := 9, descriptorIndex := 10, attributes := #[] }, { accessFlags := 9, nameIndex := 109, descriptorIndex := 110, attributes := #[] }, { accessFlags := 9, nameIndex := 15, descriptorIndex := 16, attributes := #[] }, { accessFlags := 8, nameIndex := 113, descriptorIndex := 114, attributes := #[] }, { accessFlags := 8, nameIndex := 73, descriptorIndex := 74, attributes := #[] }, { accessFlags := 9, nameIndex := 50, descriptorIndex := 51, attributes := #[] }, { accessFlags := 9, nameIndex := 121, descriptorIndex := 122, attributes := #[] }, { accessFlags := 8, nameIndex := 261, descriptorIndex := 262, attributes := #[] }, { accessFlags := 9, nameIndex := 117, descriptorIndex := 122, attributes := #[] }, { accessFlags := 9, nameIndex := 117, descriptorIndex := 118, attributes := #[] }, { accessFlags := 9, nameIndex := 392, descriptorIndex := 74, attributes := #[] }, { accessFlags := 9, nameIndex := 140, descriptorIndex := 141, attributes := #[] }, { accessFlags := 9, nameIndex := 69, descriptorIndex := 70, attributes := #[] }, { accessFlags := 9, nameIndex := 175, descriptorIndex := 99, attributes := #[] }] 48 6 #[] #[{ accessFlags := 26, nameIndex := 61, descriptorIndex := 62, attributes := #[] }, { accessFlags := 26, nameIndex := 65, descriptorIndex := 62, attributes := #[] }, { accessFlags := 24, nameIndex := 430, descriptorIndex := 62, attributes := #[] }, { accessFlags := 4120, nameIndex := 46, descriptorIndex := 47, attributes := #[] }])
  fields := #[{ name := "HI_BYTE_SHIFT", type := .int, accessFlags := 26, slot := 0, constantValue := 0 }, { name := "LO_BYTE_SHIFT", type := .int, accessFlags := 26, slot := 1, constantValue := 0 }, { name := "MAX_LENGTH", type := .int, accessFlags := 24, slot := 2, constantValue := 0 }, { name := "$assertionsDisabled", type := .boolean, accessFlags := 4120, slot := 3, constantValue := 0 }]
  methods := #[k23m0, k23m1, k23m2, k23m3, k23m4, k23m5, k23m6, k23m7, k23m8, k23m9, k23m10, k23m11, k23m12, k23m13]
  instanceTypes := #[]
  staticTypes := #[.int, .int, .int, .boolean]
  resolved := Array.replicate 635 none
  statics := some 3 }

def pool24 : Array CpInfo := pool [(2, .class_ 4), (1, u "java/lang/Object"), (0, u "<init>"), (0, u "()V"), (12, .class_ 20), (0, u "java/util/Collections"), (63, u "r"), (0, u "Ljava/util/Random;"), (80, .class_ 167), (0, u "java/util/Collections$UnmodifiableCollection"), (6, .class_ 175), (0, u "java/util/Collections$UnmodifiableSequencedCollection"), (6, .class_ 183), (0, u "java/util/Collections$UnmodifiableSet"), (6, .class_ 191), (0, u "java/util/Collections$UnmodifiableSequencedSet"), (6, .class_ 199), (0, u "java/util/Collections$UnmodifiableSortedSet"), (6, .class_ 207), (0, u "java/util/Collections$UnmodifiableNavigableSet"), (4, .class_ 213), (0, u "java/util/Collections$UnmodifiableList"), (1, .class_ 216), (0, u "java/util/Collections$UnmodifiableRandomAccessList"), (6, .class_ 224), (0, u "java/util/Collections$UnmodifiableMap"), (6, .class_ 232), (0, u "java/util/Collections$UnmodifiableSequencedMap"), (4, .class_ 238), (0, u "java/util/Collections$UnmodifiableSortedMap"), (6, .class_ 246), (0, u "java/util/Collections$UnmodifiableNavigableMap"), (3, .class_ 251), (0, u "java/util/Collections$SynchronizedCollection"), (4, .class_ 257), (0, u "java/util/Collections$SynchronizedSet"), (4, .class_ 263), (0, u "java/util/Collections$SynchronizedSortedSet"), (1, .class_ 266), (0, u "java/util/Collections$SynchronizedNavigableSet"), (1, .class_ 269), (0, u "java/util/Collections$SynchronizedRandomAccessList"), (1, .class_ 272), (0, u "java/util/Collections$SynchronizedList"), (5, .class_ 279), (0, u "java/util/Collections$SynchronizedMap"), (1, .class_ 282), (0, u "java/util/Collections$SynchronizedSortedMap"), (1, .class_ 285), (0, u "java/util/Collections$SynchronizedNavigableMap"), (1, .class_ 288), (0, u "java/util/Collections$CheckedCollection"), (11, .class_ 301), (0, u "java/util/Collections$CheckedQueue"), (3, .class_ 306), (0, u "java/util/Collections$CheckedSet"), (3, .class_ 311), (0, u "java/util/Collections$CheckedSortedSet"), (3, .class_ 316), (0, u "java/util/Collections$CheckedNavigableSet"), (3, .class_ 321), (0, u "java/util/Collections$CheckedRandomAccessList"), (3, .class_ 326), (0, u "java/util/Collections$CheckedList"), (1, .class_ 329), (0, u "java/util/Collections$CheckedMap"), (3, .class_ 334), (0, u "java/util/Collections$CheckedSortedMap"), (3, .class_ 339), (0, u "java/util/Collections$CheckedNavigableMap"), (4, .class_ 346), (1, u "java/util/Collections$EmptyIterator"), (3, .class_ 352), (1, u "java/util/Collections$EmptyListIterator"), (2, .class_ 357), (1, u "java/util/Collections$EmptyEnumeration"), (4, u "EMPTY_SET"), (0, u "Ljava/util/Set;"), (6, u "EMPTY_LIST"), (0, u "Ljava/util/List;"), (2, u "EMPTY_MAP"), (0, u "Ljava/util/Map;"), (4, .class_ 381), (0, u "java/util/Collections$SingletonSet"), (2, .class_ 385), (0, u "java/util/Collections$1"), (1, .class_ 388), (0, u "java/util/Collections$2"), (1, .class_ 391), (0, u "java/util/Collections$SingletonList"), (1, .class_ 394), (0, u "java/util/Collections$SingletonMap"), (22, .class_ 418), (0, u "java/util/Collections$CopiesList"), (4, .class_ 425), (1, u "java/util/Collections$ReverseComparator"), (8, .class_ 435), (0, u "java/util/Collections$ReverseComparator2"), (6, .class_ 443), (0, u "java/util/Collections$3"), (25, .class_ 470), (0, u "java/util/Collections$SetFromMap"), (2, .class_ 474), (0, u "java/util/Collections$SequencedSetFromMap"), (3, .class_ 479), (0, u "java/util/Collections$AsLIFOQueue"), (11, .class_ 492), (0, u "java/util/Collections$EmptySet"), (1, .class_ 495), (0, u "java/util/Collections$EmptyList"), (1, .class_ 498), (0, u "java/util/Collections$EmptyMap"), (1, u "BINARYSEARCH_THRESHOLD"), (0, u "I"), (2, u "REVERSE_THRESHOLD"), (1, u "SHUFFLE_THRESHOLD"), (1, u "FILL_THRESHOLD"), (1, u "ROTATE_THRESHOLD"), (1, u "COPY_THRESHOLD"), (1, u "REPLACEALL_THRESHOLD"), (1, u "INDEXOFSUBLIST_THRESHOLD"), (333, .class_ 851), (0, u "java/util/Collections$CheckedMap$CheckedEntrySet"), (0, .class_ 853), (0, u "java/util/Collections$CheckedMap$CheckedEntrySet$CheckedEntry"), (0, .class_ 855), (0, u "java/util/Collections$CheckedMap$CheckedEntrySet$1"), (0, .class_ 857), (0, u "java/util/Collections$CheckedList$1"), (0, .class_ 859), (0, u "java/util/Collections$CheckedCollection$1"), (0, .class_ 861), (0, u "java/util/Collections$UnmodifiableNavigableMap$EmptyNavigableMap"), (0, .class_ 863), (0, u "java/util/Collections$UnmodifiableMap$UnmodifiableEntrySet"), (0, .class_ 865), (0, u "java/util/Collections$UnmodifiableMap$UnmodifiableEntrySet$UnmodifiableEntry"), (0, .class_ 867), (0, u "java/util/Collections$UnmodifiableMap$UnmodifiableEntrySet$UnmodifiableEntrySetSpliterator"), (0, .class_ 869), (0, u "java/util/Collections$UnmodifiableMap$UnmodifiableEntrySet$1"), (0, .class_ 871), (0, u "java/util/Collections$UnmodifiableList$1"), (0, .class_ 873), (0, u "java/util/Collections$UnmodifiableNavigableSet$EmptyNavigableSet"), (0, .class_ 875), (0, u "java/util/Collections$UnmodifiableCollection$1")] 57

def k24m0 : Method := { name := "<init>", desc := "()V", sig := { parameters := [], returnType := none }, accessFlags := 2, code := none }
/-- java/util/Collections -/
def k24 : Class := { plain "java/util/Collections" (some 0) with
  accessFlags := 33
  interfaces := #[]
  cf := some (fileOf pool24 19 #[.nestMembers #[478, 473, 469, 434, 423, 417, 393, 390, 380, 497, 494, 491, 355, 350, 344, 338, 333, 328, 850, 852, 854, 320, 325, 856, 315, 310, 305, 300, 287, 858, 284, 281, 278, 268, 271, 265, 262, 256, 250, 245, 860, 237, 231, 223, 862, 864, 866, 868, 215, 212, 870, 206, 872, 198, 190, 182, 174, 166, 874, 442, 387, 384]] #[{ accessFlags := 2, nameIndex := 5, descriptorIndex := 6, attributes := #[] }] 33 2 #[] #[{ accessFlags := 26, nameIndex := 500, descriptorIndex := 501, attributes := #[] }, { accessFlags := 26, nameIndex := 504, descriptorIndex := 501, attributes := #[] }, { accessFlags := 26, nameIndex := 506, descriptorIndex := 501, attributes := #[] }, { accessFlags := 26, nameIndex := 508, descriptorIndex := 501, attributes := #[] }, { accessFlags := 26, nameIndex := 510, descriptorIndex := 501, attributes := #[] }, { accessFlags := 26, nameIndex := 512, descriptorIndex := 501, attributes := #[] }, { accessFlags := 26, nameIndex := 514, descriptorIndex := 501, attributes := #[] }, { accessFlags := 26, nameIndex := 516, descriptorIndex := 501, attributes := #[] }, { accessFlags := 10, nameIndex := 84, descriptorIndex := 85, attributes := #[] }, { accessFlags := 25, nameIndex := 362, descriptorIndex := 363, attributes := #[] }, { accessFlags := 25, nameIndex := 370, descriptorIndex := 371, attributes := #[] }, { accessFlags := 25, nameIndex := 374, descriptorIndex := 375, attributes := #[] }])
  fields := #[{ name := "BINARYSEARCH_THRESHOLD", type := .int, accessFlags := 26, slot := 0, constantValue := 0 }, { name := "REVERSE_THRESHOLD", type := .int, accessFlags := 26, slot := 1, constantValue := 0 }, { name := "SHUFFLE_THRESHOLD", type := .int, accessFlags := 26, slot := 2, constantValue := 0 }, { name := "FILL_THRESHOLD", type := .int, accessFlags := 26, slot := 3, constantValue := 0 }, { name := "ROTATE_THRESHOLD", type := .int, accessFlags := 26, slot := 4, constantValue := 0 }, { name := "COPY_THRESHOLD", type := .int, accessFlags := 26, slot := 5, constantValue := 0 }, { name := "REPLACEALL_THRESHOLD", type := .int, accessFlags := 26, slot := 6, constantValue := 0 }, { name := "INDEXOFSUBLIST_THRESHOLD", type := .int, accessFlags := 26, slot := 7, constantValue := 0 }, { name := "r", type := (.object "java/util/Random"), accessFlags := 10, slot := 8, constantValue := 0 }, { name := "EMPTY_SET", type := (.object "java/util/Set"), accessFlags := 25, slot := 9, constantValue := 0 }, { name := "EMPTY_LIST", type := (.object "java/util/List"), accessFlags := 25, slot := 10, constantValue := 0 }, { name := "EMPTY_MAP", type := (.object "java/util/Map"), accessFlags := 25, slot := 11, constantValue := 0 }]
  methods := #[k24m0]
  instanceTypes := #[]
  staticTypes := #[.int, .int, .int, .int, .int, .int, .int, .int, (.object "java/util/Random"), (.object "java/util/Set"), (.object "java/util/List"), (.object "java/util/Map")]
  resolved := Array.replicate 933 none
  statics := some 4 }

def pool25 : Array CpInfo := pool [(8, .class_ 10), (1, u "java/lang/Iterable"), (24, .class_ 36), (0, u "java/lang/Object")] 25

/-- java/lang/Iterable -/
def k25 : Class := { plain "java/lang/Iterable" (some 0) with
  accessFlags := 1537
  interfaces := #[]
  cf := some (fileOf pool25 8 #[] #[] 1537 35 #[] #[])
  fields := #[]
  methods := #[]
  instanceTypes := #[]
  staticTypes := #[]
  resolved := Array.replicate 62 none
  statics := none }

def pool26 : Array CpInfo := pool [(10, .class_ 12), (1, u "java/util/Collection"), (47, .class_ 61), (0, u "java/lang/Object"), (0, .class_ 63), (0, u "java/lang/Iterable")] 51

/-- java/util/Collection -/
def k26 : Class := { plain "java/util/Collection" (some 0) with
  accessFlags := 1537
  interfaces := #[25]
  cf := some (fileOf pool26 10 #[] #[] 1537 60 #[62] #[])
  fields := #[]
  methods := #[]
  instanceTypes := #[]
  staticTypes := #[]
  resolved := Array.replicate 115 none
  statics := none }

def pool27 : Array CpInfo := pool [(2, .class_ 4), (1, u "java/lang/Object"), (0, u "<init>"), (0, u "()V"), (1, .class_ 10), (1, u "java/util/AbstractCollection"), (66, .class_ 78), (0, u "java/util/Collection")] 81

def k27m0 : Method := { name := "<init>", desc := "()V", sig := { parameters := [], returnType := none }, accessFlags := 4, code := none }
/-- java/util/AbstractCollection -/
def k27 : Class := { plain "java/util/AbstractCollection" (some 0) with
  accessFlags := 1057
  interfaces := #[26]
  cf := some (fileOf pool27 8 #[] #[{ accessFlags := 4, nameIndex := 5, descriptorIndex := 6, attributes := #[] }] 1057 2 #[77] #[])
  fields := #[]
  methods := #[k27m0]
  instanceTypes := #[]
  staticTypes := #[]
  resolved := Array.replicate 160 none
  statics := none }

def pool28 : Array CpInfo := pool [(8, .class_ 10), (1, u "java/util/SequencedCollection"), (15, .class_ 27), (0, u "java/lang/Object"), (0, .class_ 29), (0, u "java/util/Collection")] 27

/-- java/util/SequencedCollection -/
def k28 : Class := { plain "java/util/SequencedCollection" (some 0) with
  accessFlags := 1537
  interfaces := #[26]
  cf := some (fileOf pool28 8 #[] #[] 1537 26 #[28] #[])
  fields := #[]
  methods := #[]
  instanceTypes := #[]
  staticTypes := #[]
  resolved := Array.replicate 57 none
  statics := none }

def pool29 : Array CpInfo := pool [(8, .class_ 10), (1, u "java/util/List"), (92, .class_ 104), (0, u "java/lang/Object"), (15, .class_ 121), (0, u "java/util/SequencedCollection")] 129

/-- java/util/List -/
def k29 : Class := { plain "java/util/List" (some 0) with
  accessFlags := 1537
  interfaces := #[28]
  cf := some (fileOf pool29 8 #[] #[] 1537 103 #[120] #[])
  fields := #[]
  methods := #[]
  instanceTypes := #[]
  staticTypes := #[]
  resolved := Array.replicate 251 none
  statics := none }

def pool30 : Array CpInfo := pool [(2, .class_ 4), (1, u "java/util/AbstractCollection"), (0, u "<init>"), (0, u "()V"), (1, .class_ 10), (1, u "java/util/AbstractList"), (0, u "modCount"), (0, u "I"), (64, .class_ 78), (0, u "java/util/AbstractList$Itr"), (3, .class_ 83), (0, u "java/util/AbstractList$ListItr"), (9, .class_ 94), (0, u "java/util/AbstractList$RandomAccessSubList"), (3, .class_ 99), (0, u "java/util/AbstractList$SubList"), (33, .class_ 134), (0, u "java/util/List"), (73, .class_ 209), (0, u "java/util/AbstractList$SubList$1"), (0, .class_ 211), (0, u "java/util/AbstractList$RandomAccessSpliterator")] 6

def k30m0 : Method := { name := "<init>", desc := "()V", sig := { parameters := [], returnType := none }, accessFlags := 4, code := none }
/-- java/util/AbstractList -/
def k30 : Class := { plain "java/util/AbstractList" (some 27) with
  accessFlags := 1057
  interfaces := #[29]
  cf := some (fileOf pool30 8 #[.nestMembers #[93, 98, 208, 210, 82, 77]] #[{ accessFlags := 4, nameIndex := 5, descriptorIndex := 6, attributes := #[] }] 1057 2 #[133] #[{ accessFlags := 132, nameIndex := 11, descriptorIndex := 12, attributes := #[] }])
  fields := #[{ name := "modCount", type := .int, accessFlags := 132, slot := 0, constantValue := 0 }]
  methods := #[k30m0]
  instanceTypes := #[.int]
  staticTypes := #[]
  resolved := Array.replicate 218 none
  statics := none }

def pool31 : Array CpInfo := pool [(1, .class_ 2), (0, u "java/util/RandomAccess"), (0, .class_ 4), (0, u "java/lang/Object")] 2

/-- java/util/RandomAccess -/
def k31 : Class := { plain "java/util/RandomAccess" (some 0) with
  accessFlags := 1537
  interfaces := #[]
  cf := some (fileOf pool31 1 #[] #[] 1537 3 #[] #[])
  fields := #[]
  methods := #[]
  instanceTypes := #[]
  staticTypes := #[]
  resolved := Array.replicate 7 none
  statics := none }

def pool32 : Array CpInfo := pool [(2, .class_ 4), (1, u "java/util/AbstractList"), (0, u "<init>"), (0, u "()V"), (1, .class_ 10), (1, u "java/util/Collections"), (54, .class_ 66), (0, u "java/util/Collections$EmptyList"), (0, .class_ 68), (0, u "java/util/RandomAccess"), (0, .class_ 70), (0, u "java/io/Serializable"), (0, u "serialVersionUID"), (0, u "J")] 77

def k32m0 : Method := { name := "<init>", desc := "()V", sig := { parameters := [], returnType := none }, accessFlags := 2, code := none }
/-- java/util/Collections$EmptyList -/
def k32 : Class := { plain "java/util/Collections$EmptyList" (some 30) with
  accessFlags := 32
  interfaces := #[31, 2]
  cf := some (fileOf pool32 65 #[.nestHost 8] #[{ accessFlags := 2, nameIndex := 5, descriptorIndex := 6, attributes := #[] }] 32 2 #[67, 69] #[{ accessFlags := 26, nameIndex := 71, descriptorIndex := 72, attributes := #[] }])
  fields := #[{ name := "serialVersionUID", type := .long, accessFlags := 26, slot := 0, constantValue := 0 }]
  methods := #[k32m0]
  instanceTypes := #[.int]
  staticTypes := #[.long]
  resolved := Array.replicate 150 none
  statics := none }

def pool33 : Array CpInfo := pool [(2, .class_ 4), (1, u "java/lang/StackTraceElement"), (0, u "<init>"), (2, .class_ 10), (1, u "java/lang/Object"), (0, u "()V"), (2, u "format"), (0, u "B"), (2, u "classLoaderName"), (0, u "Ljava/lang/String;"), (2, u "moduleName"), (2, u "moduleVersion"), (12, u "declaringClass"), (4, u "methodName"), (2, u "fileName"), (2, u "lineNumber"), (0, u "I"), (65, u "declaringClassObject"), (0, u "Ljava/lang/Class;"), (33, .class_ 153), (1, u "java/lang/StackTraceElement$HashedModules"), (17, .class_ 172), (0, u "java/io/Serializable"), (0, u "NATIVE_METHOD"), (1, u "UNKNOWN_SOURCE"), (2, u "BUILTIN_CLASS_LOADER"), (1, u "JDK_NON_UPGRADEABLE_MODULE"), (1, u "serialVersionUID"), (0, u "J")] 51

def k33m0 : Method := { name := "<init>", desc := "()V", sig := { parameters := [], returnType := none }, accessFlags := 2, code := none }
/-- java/lang/StackTraceElement -/
def k33 : Class := { plain "java/lang/StackTraceElement" (some 0) with
  accessFlags := 49
  interfaces := #[2]
  cf := some (fileOf pool33 2 #[.nestMembers #[151]] #[{ accessFlags := 2, nameIndex := 5, descriptorIndex := 11, attributes := #[] }] 49 8 #[171] #[{ accessFlags := 26, nameIndex := 173, descriptorIndex := 19, attributes := #[] }, { accessFlags := 26, nameIndex := 175, descriptorIndex := 19, attributes := #[] }, { accessFlags := 130, nameIndex := 116, descriptorIndex := 117, attributes := #[] }, { accessFlags := 2, nameIndex := 18, descriptorIndex := 19, attributes := #[] }, { accessFlags := 2, nameIndex := 22, descriptorIndex := 19, attributes := #[] }, { accessFlags := 2, nameIndex := 25, descriptorIndex := 19, attributes := #[] }, { accessFlags := 2, nameIndex := 38, descriptorIndex := 19, attributes := #[] }, { accessFlags := 2, nameIndex := 43, descriptorIndex := 19, attributes := #[] }, { accessFlags := 2, nameIndex := 46, descriptorIndex := 19, attributes := #[] }, { accessFlags := 2, nameIndex := 49, descriptorIndex := 50, attributes := #[] }, { accessFlags := 2, nameIndex := 14, descriptorIndex := 15, attributes := #[] }, { accessFlags := 26, nameIndex := 178, descriptorIndex := 15, attributes := #[] }, { accessFlags := 26, nameIndex := 180, descriptorIndex := 15, attributes := #[] }, { accessFlags := 26, nameIndex := 182, descriptorIndex := 183, attributes := #[] }])
  fields := #[{ name := "NATIVE_METHOD", type := (.object "java/lang/String"), accessFlags := 26, slot := 0, constantValue := 0 }, { name := "UNKNOWN_SOURCE", type := (.object "java/lang/String"), accessFlags := 26, slot := 1, constantValue := 0 }, { name := "declaringClassObject", type := (.object "java/lang/Class"), accessFlags := 130, slot := 0, constantValue := 0 }, { name := "classLoaderName", type := (.object "java/lang/String"), accessFlags := 2, slot := 1, constantValue := 0 }, { name := "moduleName", type := (.object "java/lang/String"), accessFlags := 2, slot := 2, constantValue := 0 }, { name := "moduleVersion", type := (.object "java/lang/String"), accessFlags := 2, slot := 3, constantValue := 0 }, { name := "declaringClass", type := (.object "java/lang/String"), accessFlags := 2, slot := 4, constantValue := 0 }, { name := "methodName", type := (.object "java/lang/String"), accessFlags := 2, slot := 5, constantValue := 0 }, { name := "fileName", type := (.object "java/lang/String"), accessFlags := 2, slot := 6, constantValue := 0 }, { name := "lineNumber", type := .int, accessFlags := 2, slot := 7, constantValue := 0 }, { name := "format", type := .byte, accessFlags := 2, slot := 8, constantValue := 0 }, { name := "BUILTIN_CLASS_LOADER", type := .byte, accessFlags := 26, slot := 2, constantValue := 0 }, { name := "JDK_NON_UPGRADEABLE_MODULE", type := .byte, accessFlags := 26, slot := 3, constantValue := 0 }, { name := "serialVersionUID", type := .long, accessFlags := 26, slot := 4, constantValue := 0 }]
  methods := #[k33m0]
  instanceTypes := #[(.object "java/lang/Class"), (.object "java/lang/String"), (.object "java/lang/String"), (.object "java/lang/String"), (.object "java/lang/String"), (.object "java/lang/String"), (.object "java/lang/String"), .int, .byte]
  staticTypes := #[(.object "java/lang/String"), (.object "java/lang/String"), .byte, .byte, .long]
  resolved := Array.replicate 235 none
  statics := none }

/-- the primitive byte -/
def k34 : Class := { plain "byte" none with kind := .primitive 'B', accessFlags := 0x411 }
/-- [B -/
def k35 : Class := { plain "[B" (some 0) with kind := .array 34 .byte, interfaces := #[20, 2], accessFlags := 1041 }

/-- the primitive char -/
def k36 : Class := { plain "char" none with kind := .primitive 'C', accessFlags := 0x411 }
/-- [C -/
def k37 : Class := { plain "[C" (some 0) with kind := .array 36 .char, interfaces := #[20, 2], accessFlags := 1041 }

/-- the primitive int -/
def k38 : Class := { plain "int" none with kind := .primitive 'I', accessFlags := 0x411 }
/-- [I -/
def k39 : Class := { plain "[I" (some 0) with kind := .array 38 .int, interfaces := #[20, 2], accessFlags := 1041 }

/-- [Ljava/lang/Object; -/
def k40 : Class := { plain "[Ljava/lang/Object;" (some 0) with kind := .array 0 (.object "java/lang/Object"), interfaces := #[20, 2], accessFlags := 1041 }

/-- [Ljava/lang/StackTraceElement; -/
def k41 : Class := { plain "[Ljava/lang/StackTraceElement;" (some 0) with kind := .array 33 (.object "java/lang/StackTraceElement"), interfaces := #[20, 2], accessFlags := 1041 }

/-- [Ljava/lang/Throwable; -/
def k42 : Class := { plain "[Ljava/lang/Throwable;" (some 0) with kind := .array 9 (.object "java/lang/Throwable"), interfaces := #[20, 2], accessFlags := 1041 }

def heap : Heap := #[{ cls := 7, slots := #[.long 0, .int 1, .null, .int 0, .null, .int 0, .int 0], vm := .statics 7 },
  { cls := 9, slots := #[.long 0, .ref 5, .ref 6, .null, .null, .null, .null, .ref 7, .int 1], vm := .statics 9 },
  { cls := 22, slots := #[.null, .null, .null], vm := .statics 22 },
  { cls := 23, slots := #[.int 0, .int 8, .int 0, .int 1], vm := .statics 23 },
  { cls := 24, slots := #[.int 0, .int 0, .int 0, .int 0, .int 0, .int 0, .int 0, .int 0, .null, .null, .ref 6, .null], vm := .statics 24 },
  { cls := 41, slots := #[], vm := .none },
  { cls := 32, slots := #[.int 0], vm := .none },
  { cls := 42, slots := #[], vm := .none }]
def classes : Array Class := #[k0, k1, k2, k3, k4, k5, k6, k7, k8, k9, k10, k11, k12, k13, k14, k15, k16, k17, k18, k19, k20, k21, k22, k23, k24, k25, k26, k27, k28, k29, k30, k31, k32, k33, k34, k35, k36, k37, k38, k39, k40, k41, k42]
def interned : List (Array UInt16 × Addr) := []
def slotsUsed : Nat := 36
def theMethod : MethodId := ⟨1, 1⟩
def args0 : Array Value := #[.int 1, .int 2, .int 3, .int 4]
def aboutOver (below : List Frame) : State where
  vm := { classes := classes, interned := interned.toArray }
  heap := heap
  slotsUsed := slotsUsed
  threads := #[{ frames := .invoking theMethod args0 :: below }]
def below0 : List Frame := [.native { method := ⟨0, 0⟩, args := #[] }]
def about1 : State := aboutOver below0
def p0 : Program := .bare "" "" ""
def e0 : Env := launch0.env 0 0 0
theorem w_frames : about1.frames = Frame.invoking theMethod args0 :: below0 := rfl
set_option maxRecDepth 65536 in
theorem w_args : argsFit about1.vm theMethod args0 = true := by decide +kernel
set_option maxRecDepth 65536 in
theorem w_heap : heapFits about1 = true := by decide +kernel
set_option maxRecDepth 65536 in
theorem w_runnable : about1.curStatus? = some .runnable := by decide +kernel
set_option maxRecDepth 65536 in
theorem w_alone : about1.alone = true := by decide +kernel
set_option maxRecDepth 65536 in
theorem w_named : about1.methodNamed? x = some theMethod := by decide +kernel
set_option maxRecDepth 65536 in
theorem w_hears : about1.hears theMethod below0 = true := by decide +kernel
set_option maxRecDepth 65536 in
theorem w_ripe : about1.ripe theMethod args0 below0 = true := by decide +kernel
theorem w_running : about1.status = .running := rfl
set_option maxRecDepth 65536 in
theorem w_room : about1.hasRoom e0.platform room_1 = true :=
  launch0.hasRoom_least _ room_1 (by decide +kernel) (by decide +kernel) (by decide +kernel) (by decide +kernel) (by decide +kernel) (by decide +kernel)
theorem allAtoms_all (ts : List Jvm.Cond) (a : Array Jvm.Value) (st : Jvm.State) : (allAtoms ts).before a st = ts.all (fun c => c.before a st) := by
  induction ts with
  | nil => rfl
  | cons c t ih =>
    show (Jvm.Cond.and c (allAtoms t)).before a st = _
    rw [Jvm.Cond.before_and, ih, List.all_cons]
def words1 : List Jvm.Cond := Jvm.Cond.code x code maxLocals ret :: tables_1
/-- a 'code' word, met by the world's own term for the bytes: nothing is compared byte by byte -/
theorem code_word {y : MethodName} {bytes : ByteArray} {mx : Nat} {rt : Option FieldType} {a : Array Value} {s : State} {m : MethodId} {meth : Method} {c : Code} (h1 : s.methodNamed? y = some m) (h2 : s.vm.method? m = some meth) (h3 : meth.code = some c) (h4 : c.code = bytes)
    (h5 : (c.maxLocals == mx && c.exceptionTable.isEmpty && decide (c.maxStack ≤ mostOperands) && decide (meth.sig.returnType = rt) && !meth.locks && decide (parseMethodDescriptor y.desc = some meth.sig)) = true) : (Jvm.Cond.code y bytes mx rt).before a s = true := by
  simp only [Bool.and_eq_true, beq_iff_eq, Bool.not_eq_true', decide_eq_true_eq] at h5
  obtain ⟨⟨⟨⟨⟨g1, g2⟩, g3⟩, g4⟩, g5⟩, g6⟩ := h5
  simp [Cond.before, Cond.holds, Cond.value, h1, h2, h3, h4, g1, g2, g3, g4, g5, g6]
def isCode : Jvm.Cond → Bool
  | .code _ _ _ _ => true
  | _ => false
theorem all_split {L : List Jvm.Cond} {P : Jvm.Cond → Bool} (h1 : L.all (fun c => isCode c || P c) = true) (h2 : ∀ c ∈ L.filter isCode, P c = true) : L.all P = true := by
  refine List.all_eq_true.mpr fun c hc => ?_
  have h := List.all_eq_true.mp h1 c hc
  rcases Bool.eq_false_or_eq_true (isCode c) with hi | hi
  · exact h2 c (List.mem_filter.mpr ⟨hc, hi⟩)
  · simpa [hi] using h
set_option maxRecDepth 65536 in
theorem w_c0 : (Jvm.Cond.code x code maxLocals ret).before args0 about1 = true := code_word (m := ⟨1, 1⟩) (meth := k1m1) (c := k1c1) (by decide +kernel) rfl rfl rfl (by decide +kernel)
set_option maxRecDepth 65536 in
theorem w_c1 : (Jvm.Cond.code ({ cls := "java/lang/String", name := "<init>", desc := "([C)V" } : Jvm.MethodName) jdk_42_method_3_code (2 : Nat) (Option.none : Option Jvm.ClassFile.FieldType)).before args0 about1 = true := code_word (m := ⟨7, 1⟩) (meth := k7m1) (c := k7c1) (by decide +kernel) rfl rfl rfl (by decide +kernel)
set_option maxRecDepth 65536 in
theorem w_c2 : (Jvm.Cond.code ({ cls := "java/lang/String", name := "<init>", desc := "([CIILjava/lang/Void;)V" } : Jvm.MethodName) jdk_42_method_149_code (6 : Nat) (Option.none : Option Jvm.ClassFile.FieldType)).before args0 about1 = true := code_word (m := ⟨7, 7⟩) (meth := k7m7) (c := k7c7) (by decide +kernel) rfl rfl rfl (by decide +kernel)
set_option maxRecDepth 65536 in
theorem w_c3 : (Jvm.Cond.code ({ cls := "java/lang/Object", name := "<init>", desc := "()V" } : Jvm.MethodName) object_method_1_code (1 : Nat) (Option.none : Option Jvm.ClassFile.FieldType)).before args0 about1 = true := code_word (m := ⟨0, 0⟩) (meth := k0m0) (c := k0c0) (by decide +kernel) rfl rfl rfl (by decide +kernel)
set_option maxRecDepth 65536 in
theorem w_c4 : (Jvm.Cond.code ({ cls := "com/example/conversation_framework/conversationframework/Component", name := "undeclared", desc := "(Ljava/lang/String;)Ljava/lang/IllegalArgumentException;" } : Jvm.MethodName) prog_1_method_12_code (1 : Nat) (Option.some (Jvm.ClassFile.FieldType.object "java/lang/IllegalArgumentException"))).before args0 about1 = true := code_word (m := ⟨8, 0⟩) (meth := k8m0) (c := k8c0) (by decide +kernel) rfl rfl rfl (by decide +kernel)
set_option maxRecDepth 65536 in
theorem w_c5 : (Jvm.Cond.code ({ cls := "java/lang/StringBuilder", name := "<init>", desc := "()V" } : Jvm.MethodName) jdk_67_method_1_code (1 : Nat) (Option.none : Option Jvm.ClassFile.FieldType)).before args0 about1 = true := code_word (m := ⟨15, 0⟩) (meth := k15m0) (c := k15c0) (by decide +kernel) rfl rfl rfl (by decide +kernel)
set_option maxRecDepth 65536 in
theorem w_c6 : (Jvm.Cond.code ({ cls := "java/lang/AbstractStringBuilder", name := "<init>", desc := "(I)V" } : Jvm.MethodName) jdk_68_method_2_code (2 : Nat) (Option.none : Option Jvm.ClassFile.FieldType)).before args0 about1 = true := code_word (m := ⟨14, 1⟩) (meth := k14m1) (c := k14c1) (by decide +kernel) rfl rfl rfl (by decide +kernel)
set_option maxRecDepth 65536 in
theorem w_c7 : (Jvm.Cond.code ({ cls := "java/lang/StringBuilder", name := "append", desc := "(Ljava/lang/String;)Ljava/lang/StringBuilder;" } : Jvm.MethodName) jdk_67_method_7_code (2 : Nat) (Option.some (Jvm.ClassFile.FieldType.object "java/lang/StringBuilder"))).before args0 about1 = true := code_word (m := ⟨15, 1⟩) (meth := k15m1) (c := k15c1) (by decide +kernel) rfl rfl rfl (by decide +kernel)
set_option maxRecDepth 65536 in
theorem w_c8 : (Jvm.Cond.code ({ cls := "java/lang/AbstractStringBuilder", name := "append", desc := "(Ljava/lang/String;)Ljava/lang/AbstractStringBuilder;" } : Jvm.MethodName) jdk_68_method_22_code (3 : Nat) (Option.some (Jvm.ClassFile.FieldType.object "java/lang/AbstractStringBuilder"))).before args0 about1 = true := code_word (m := ⟨14, 6⟩) (meth := k14m6) (c := k14c6) (by decide +kernel) rfl rfl rfl (by decide +kernel)
set_option maxRecDepth 65536 in
theorem w_c9 : (Jvm.Cond.code ({ cls := "java/lang/String", name := "length", desc := "()I" } : Jvm.MethodName) jdk_42_method_54_code (1 : Nat) (Option.some Jvm.ClassFile.FieldType.int)).before args0 about1 = true := code_word (m := ⟨7, 3⟩) (meth := k7m3) (c := k7c3) (by decide +kernel) rfl rfl rfl (by decide +kernel)
set_option maxRecDepth 65536 in
theorem w_c10 : (Jvm.Cond.code ({ cls := "java/lang/String", name := "coder", desc := "()B" } : Jvm.MethodName) jdk_42_method_152_code (1 : Nat) (Option.some Jvm.ClassFile.FieldType.byte)).before args0 about1 = true := code_word (m := ⟨7, 9⟩) (meth := k7m9) (c := k7c9) (by decide +kernel) rfl rfl rfl (by decide +kernel)
set_option maxRecDepth 65536 in
theorem w_c11 : (Jvm.Cond.code ({ cls := "java/lang/AbstractStringBuilder", name := "ensureCapacityInternal", desc := "(I)V" } : Jvm.MethodName) jdk_68_method_9_code (3 : Nat) (Option.none : Option Jvm.ClassFile.FieldType)).before args0 about1 = true := code_word (m := ⟨14, 3⟩) (meth := k14m3) (c := k14c3) (by decide +kernel) rfl rfl rfl (by decide +kernel)
set_option maxRecDepth 65536 in
theorem w_c12 : (Jvm.Cond.code ({ cls := "java/lang/AbstractStringBuilder", name := "newCapacity", desc := "(I)I" } : Jvm.MethodName) jdk_68_method_10_code (6 : Nat) (Option.some Jvm.ClassFile.FieldType.int)).before args0 about1 = true := code_word (m := ⟨14, 4⟩) (meth := k14m4) (c := k14c4) (by decide +kernel) rfl rfl rfl (by decide +kernel)
set_option maxRecDepth 65536 in
theorem w_c13 : (Jvm.Cond.code ({ cls := "jdk/internal/util/ArraysSupport", name := "newLength", desc := "(III)I" } : Jvm.MethodName) jdk_48_method_27_code (4 : Nat) (Option.some Jvm.ClassFile.FieldType.int)).before args0 about1 = true := code_word (m := ⟨16, 1⟩) (meth := k16m1) (c := k16c1) (by decide +kernel) rfl rfl rfl (by decide +kernel)
set_option maxRecDepth 65536 in
theorem w_c14 : (Jvm.Cond.code ({ cls := "java/lang/Math", name := "max", desc := "(II)I" } : Jvm.MethodName) jdk_29_method_65_code (2 : Nat) (Option.some Jvm.ClassFile.FieldType.int)).before args0 about1 = true := code_word (m := ⟨17, 1⟩) (meth := k17m1) (c := k17c1) (by decide +kernel) rfl rfl rfl (by decide +kernel)
set_option maxRecDepth 65536 in
theorem w_c15 : (Jvm.Cond.code ({ cls := "java/util/Arrays", name := "copyOf", desc := "([BI)[B" } : Jvm.MethodName) jdk_65_method_121_code (3 : Nat) (Option.some (Jvm.ClassFile.FieldType.array Jvm.ClassFile.FieldType.byte))).before args0 about1 = true := code_word (m := ⟨18, 1⟩) (meth := k18m1) (c := k18c1) (by decide +kernel) rfl rfl rfl (by decide +kernel)
set_option maxRecDepth 65536 in
theorem w_c16 : (Jvm.Cond.code ({ cls := "java/lang/Math", name := "min", desc := "(II)I" } : Jvm.MethodName) jdk_29_method_69_code (2 : Nat) (Option.some Jvm.ClassFile.FieldType.int)).before args0 about1 = true := code_word (m := ⟨17, 2⟩) (meth := k17m2) (c := k17c2) (by decide +kernel) rfl rfl rfl (by decide +kernel)
set_option maxRecDepth 65536 in
theorem w_c17 : (Jvm.Cond.code ({ cls := "java/lang/AbstractStringBuilder", name := "putStringAt", desc := "(ILjava/lang/String;)V" } : Jvm.MethodName) jdk_68_method_73_code (3 : Nat) (Option.none : Option Jvm.ClassFile.FieldType)).before args0 about1 = true := code_word (m := ⟨14, 10⟩) (meth := k14m10) (c := k14c10) (by decide +kernel) rfl rfl rfl (by decide +kernel)
set_option maxRecDepth 65536 in
theorem w_c18 : (Jvm.Cond.code ({ cls := "java/lang/AbstractStringBuilder", name := "inflateIfNeededFor", desc := "(Ljava/lang/String;)V" } : Jvm.MethodName) jdk_68_method_71_code (2 : Nat) (Option.none : Option Jvm.ClassFile.FieldType)).before args0 about1 = true := code_word (m := ⟨14, 9⟩) (meth := k14m9) (c := k14c9) (by decide +kernel) rfl rfl rfl (by decide +kernel)
set_option maxRecDepth 65536 in
theorem w_c19 : (Jvm.Cond.code ({ cls := "java/lang/String", name := "getBytes", desc := "([BIB)V" } : Jvm.MethodName) jdk_42_method_147_code (4 : Nat) (Option.none : Option Jvm.ClassFile.FieldType)).before args0 about1 = true := code_word (m := ⟨7, 6⟩) (meth := k7m6) (c := k7c6) (by decide +kernel) rfl rfl rfl (by decide +kernel)
set_option maxRecDepth 65536 in
theorem w_c20 : (Jvm.Cond.code ({ cls := "java/lang/StringBuilder", name := "toString", desc := "()Ljava/lang/String;" } : Jvm.MethodName) jdk_67_method_42_code (1 : Nat) (Option.some (Jvm.ClassFile.FieldType.object "java/lang/String"))).before args0 about1 = true := code_word (m := ⟨15, 2⟩) (meth := k15m2) (c := k15c2) (by decide +kernel) rfl rfl rfl (by decide +kernel)
set_option maxRecDepth 65536 in
theorem w_c21 : (Jvm.Cond.code ({ cls := "java/lang/String", name := "<init>", desc := "(Ljava/lang/StringBuilder;)V" } : Jvm.MethodName) jdk_42_method_53_code (2 : Nat) (Option.none : Option Jvm.ClassFile.FieldType)).before args0 about1 = true := code_word (m := ⟨7, 2⟩) (meth := k7m2) (c := k7c2) (by decide +kernel) rfl rfl rfl (by decide +kernel)
set_option maxRecDepth 65536 in
theorem w_c22 : (Jvm.Cond.code ({ cls := "java/lang/String", name := "<init>", desc := "(Ljava/lang/AbstractStringBuilder;Ljava/lang/Void;)V" } : Jvm.MethodName) jdk_42_method_150_code (5 : Nat) (Option.none : Option Jvm.ClassFile.FieldType)).before args0 about1 = true := code_word (m := ⟨7, 8⟩) (meth := k7m8) (c := k7c8) (by decide +kernel) rfl rfl rfl (by decide +kernel)
set_option maxRecDepth 65536 in
theorem w_c23 : (Jvm.Cond.code ({ cls := "java/lang/AbstractStringBuilder", name := "getValue", desc := "()[B" } : Jvm.MethodName) jdk_68_method_64_code (1 : Nat) (Option.some (Jvm.ClassFile.FieldType.array Jvm.ClassFile.FieldType.byte))).before args0 about1 = true := code_word (m := ⟨14, 7⟩) (meth := k14m7) (c := k14c7) (by decide +kernel) rfl rfl rfl (by decide +kernel)
set_option maxRecDepth 65536 in
theorem w_c24 : (Jvm.Cond.code ({ cls := "java/lang/StringBuilder", name := "length", desc := "()I" } : Jvm.MethodName) jdk_67_method_93_code (1 : Nat) (Option.some Jvm.ClassFile.FieldType.int)).before args0 about1 = true := code_word (m := ⟨15, 3⟩) (meth := k15m3) (c := k15c3) (by decide +kernel) rfl rfl rfl (by decide +kernel)
set_option maxRecDepth 65536 in
theorem w_c25 : (Jvm.Cond.code ({ cls := "java/lang/AbstractStringBuilder", name := "length", desc := "()I" } : Jvm.MethodName) jdk_68_method_6_code (1 : Nat) (Option.some Jvm.ClassFile.FieldType.int)).before args0 about1 = true := code_word (m := ⟨14, 2⟩) (meth := k14m2) (c := k14c2) (by decide +kernel) rfl rfl rfl (by decide +kernel)
set_option maxRecDepth 65536 in
theorem w_c26 : (Jvm.Cond.code ({ cls := "java/lang/AbstractStringBuilder", name := "isLatin1", desc := "()Z" } : Jvm.MethodName) jdk_68_method_68_code (1 : Nat) (Option.some Jvm.ClassFile.FieldType.boolean)).before args0 about1 = true := code_word (m := ⟨14, 8⟩) (meth := k14m8) (c := k14c8) (by decide +kernel) rfl rfl rfl (by decide +kernel)
set_option maxRecDepth 65536 in
theorem w_c27 : (Jvm.Cond.code ({ cls := "java/util/Arrays", name := "copyOfRange", desc := "([BII)[B" } : Jvm.MethodName) jdk_65_method_132_code (3 : Nat) (Option.some (Jvm.ClassFile.FieldType.array Jvm.ClassFile.FieldType.byte))).before args0 about1 = true := code_word (m := ⟨18, 3⟩) (meth := k18m3) (c := k18c3) (by decide +kernel) rfl rfl rfl (by decide +kernel)
set_option maxRecDepth 65536 in
theorem w_c28 : (Jvm.Cond.code ({ cls := "java/lang/IllegalArgumentException", name := "<init>", desc := "(Ljava/lang/String;)V" } : Jvm.MethodName) jdk_57_method_2_code (2 : Nat) (Option.none : Option Jvm.ClassFile.FieldType)).before args0 about1 = true := code_word (m := ⟨12, 1⟩) (meth := k12m1) (c := k12c1) (by decide +kernel) rfl rfl rfl (by decide +kernel)
set_option maxRecDepth 65536 in
theorem w_c29 : (Jvm.Cond.code ({ cls := "java/lang/RuntimeException", name := "<init>", desc := "(Ljava/lang/String;)V" } : Jvm.MethodName) jdk_58_method_2_code (2 : Nat) (Option.none : Option Jvm.ClassFile.FieldType)).before args0 about1 = true := code_word (m := ⟨11, 1⟩) (meth := k11m1) (c := k11c1) (by decide +kernel) rfl rfl rfl (by decide +kernel)
set_option maxRecDepth 65536 in
theorem w_c30 : (Jvm.Cond.code ({ cls := "java/lang/Exception", name := "<init>", desc := "(Ljava/lang/String;)V" } : Jvm.MethodName) jdk_59_method_2_code (2 : Nat) (Option.none : Option Jvm.ClassFile.FieldType)).before args0 about1 = true := code_word (m := ⟨10, 1⟩) (meth := k10m1) (c := k10c1) (by decide +kernel) rfl rfl rfl (by decide +kernel)
set_option maxRecDepth 65536 in
theorem w_c31 : (Jvm.Cond.code ({ cls := "java/lang/Throwable", name := "<init>", desc := "(Ljava/lang/String;)V" } : Jvm.MethodName) jdk_78_method_2_code (2 : Nat) (Option.none : Option Jvm.ClassFile.FieldType)).before args0 about1 = true := code_word (m := ⟨9, 1⟩) (meth := k9m1) (c := k9c1) (by decide +kernel) rfl rfl rfl (by decide +kernel)
set_option maxRecDepth 65536 in
theorem w_c32 : (Jvm.Cond.code ({ cls := "java/lang/Throwable", name := "<init>", desc := "()V" } : Jvm.MethodName) jdk_78_method_1_code (1 : Nat) (Option.none : Option Jvm.ClassFile.FieldType)).before args0 about1 = true := code_word (m := ⟨9, 0⟩) (meth := k9m0) (c := k9c0) (by decide +kernel) rfl rfl rfl (by decide +kernel)
set_option maxRecDepth 65536 in
theorem w_c33 : (Jvm.Cond.code ({ cls := "java/lang/Throwable", name := "getMessage", desc := "()Ljava/lang/String;" } : Jvm.MethodName) jdk_78_method_6_code (1 : Nat) (Option.some (Jvm.ClassFile.FieldType.object "java/lang/String"))).before args0 about1 = true := code_word (m := ⟨9, 2⟩) (meth := k9m2) (c := k9c2) (by decide +kernel) rfl rfl rfl (by decide +kernel)
set_option maxRecDepth 65536 in
theorem w_c34 : (Jvm.Cond.code ({ cls := "java/lang/String", name := "equals", desc := "(Ljava/lang/Object;)Z" } : Jvm.MethodName) jdk_42_method_66_code (3 : Nat) (Option.some Jvm.ClassFile.FieldType.boolean)).before args0 about1 = true := code_word (m := ⟨7, 5⟩) (meth := k7m5) (c := k7c5) (by decide +kernel) rfl rfl rfl (by decide +kernel)
set_option maxRecDepth 65536 in
theorem w_c35 : (Jvm.Cond.code ({ cls := "java/lang/StringLatin1", name := "equals", desc := "([B[B)Z" } : Jvm.MethodName) jdk_43_method_13_code (3 : Nat) (Option.some Jvm.ClassFile.FieldType.boolean)).before args0 about1 = true := code_word (m := ⟨21, 2⟩) (meth := k21m2) (c := k21c2) (by decide +kernel) rfl rfl rfl (by decide +kernel)
set_option maxRecDepth 65536 in
theorem w_c36 : (Jvm.Cond.code ({ cls := "java/lang/String", name := "charAt", desc := "(I)C" } : Jvm.MethodName) jdk_42_method_56_code (2 : Nat) (Option.some Jvm.ClassFile.FieldType.char)).before args0 about1 = true := code_word (m := ⟨7, 4⟩) (meth := k7m4) (c := k7c4) (by decide +kernel) rfl rfl rfl (by decide +kernel)
set_option maxRecDepth 65536 in
theorem w_c37 : (Jvm.Cond.code ({ cls := "java/lang/String", name := "isLatin1", desc := "()Z" } : Jvm.MethodName) jdk_42_method_154_code (1 : Nat) (Option.some Jvm.ClassFile.FieldType.boolean)).before args0 about1 = true := code_word (m := ⟨7, 10⟩) (meth := k7m10) (c := k7c10) (by decide +kernel) rfl rfl rfl (by decide +kernel)
set_option maxRecDepth 65536 in
theorem w_c38 : (Jvm.Cond.code ({ cls := "java/lang/StringLatin1", name := "charAt", desc := "([BI)C" } : Jvm.MethodName) jdk_43_method_2_code (2 : Nat) (Option.some Jvm.ClassFile.FieldType.char)).before args0 about1 = true := code_word (m := ⟨21, 1⟩) (meth := k21m1) (c := k21c1) (by decide +kernel) rfl rfl rfl (by decide +kernel)
set_option maxRecDepth 65536 in
theorem w_c39 : (Jvm.Cond.code ({ cls := "java/lang/String", name := "checkIndex", desc := "(II)V" } : Jvm.MethodName) jdk_42_method_155_code (2 : Nat) (Option.none : Option Jvm.ClassFile.FieldType)).before args0 about1 = true := code_word (m := ⟨7, 11⟩) (meth := k7m11) (c := k7c11) (by decide +kernel) rfl rfl rfl (by decide +kernel)
set_option maxRecDepth 65536 in
theorem w_c40 : (Jvm.Cond.code ({ cls := "jdk/internal/util/Preconditions", name := "checkIndex", desc := "(IILjava/util/function/BiFunction;)I" } : Jvm.MethodName) jdk_41_method_11_code (3 : Nat) (Option.some Jvm.ClassFile.FieldType.int)).before args0 about1 = true := code_word (m := ⟨22, 1⟩) (meth := k22m1) (c := k22c1) (by decide +kernel) rfl rfl rfl (by decide +kernel)
set_option maxRecDepth 65536 in
theorem w_c41 : (Jvm.Cond.code ({ cls := "java/lang/StringUTF16", name := "compress", desc := "([CII)[B" } : Jvm.MethodName) jdk_52_method_16_code (6 : Nat) (Option.some (Jvm.ClassFile.FieldType.array Jvm.ClassFile.FieldType.byte))).before args0 about1 = true := code_word (m := ⟨23, 8⟩) (meth := k23m8) (c := k23c8) (by decide +kernel) rfl rfl rfl (by decide +kernel)
set_option maxRecDepth 65536 in
theorem w_c42 : (Jvm.Cond.code ({ cls := "java/lang/StringUTF16", name := "compress", desc := "([CI[BII)I" } : Jvm.MethodName) jdk_52_method_21_code (7 : Nat) (Option.some Jvm.ClassFile.FieldType.int)).before args0 about1 = true := code_word (m := ⟨23, 9⟩) (meth := k23m9) (c := k23c9) (by decide +kernel) rfl rfl rfl (by decide +kernel)
set_option maxRecDepth 65536 in
theorem w_c43 : (Jvm.Cond.code ({ cls := "java/lang/StringUTF16", name := "coderFromArrayLen", desc := "([BI)B" } : Jvm.MethodName) jdk_52_method_15_code (2 : Nat) (Option.some Jvm.ClassFile.FieldType.byte)).before args0 about1 = true := code_word (m := ⟨23, 7⟩) (meth := k23m7) (c := k23c7) (by decide +kernel) rfl rfl rfl (by decide +kernel)
set_option maxRecDepth 65536 in
theorem w_c44 : (Jvm.Cond.code ({ cls := "java/util/Arrays", name := "copyOfRangeByte", desc := "([BII)[B" } : Jvm.MethodName) jdk_65_method_133_code (5 : Nat) (Option.some (Jvm.ClassFile.FieldType.array Jvm.ClassFile.FieldType.byte))).before args0 about1 = true := code_word (m := ⟨18, 4⟩) (meth := k18m4) (c := k18c4) (by decide +kernel) rfl rfl rfl (by decide +kernel)
set_option maxRecDepth 65536 in
theorem w_c45 : (Jvm.Cond.code ({ cls := "java/util/Arrays", name := "checkLength", desc := "(II)V" } : Jvm.MethodName) jdk_65_method_131_code (2 : Nat) (Option.none : Option Jvm.ClassFile.FieldType)).before args0 about1 = true := code_word (m := ⟨18, 2⟩) (meth := k18m2) (c := k18c2) (by decide +kernel) rfl rfl rfl (by decide +kernel)
set_option maxRecDepth 65536 in
theorem w_c46 : (Jvm.Cond.code ({ cls := "java/lang/StringUTF16", name := "toBytes", desc := "([CII)[B" } : Jvm.MethodName) jdk_52_method_14_code (5 : Nat) (Option.some (Jvm.ClassFile.FieldType.array Jvm.ClassFile.FieldType.byte))).before args0 about1 = true := code_word (m := ⟨23, 6⟩) (meth := k23m6) (c := k23c6) (by decide +kernel) rfl rfl rfl (by decide +kernel)
set_option maxRecDepth 65536 in
theorem w_c47 : (Jvm.Cond.code ({ cls := "java/lang/StringUTF16", name := "newBytesFor", desc := "(I)[B" } : Jvm.MethodName) jdk_52_method_2_code (1 : Nat) (Option.some (Jvm.ClassFile.FieldType.array Jvm.ClassFile.FieldType.byte))).before args0 about1 = true := code_word (m := ⟨23, 1⟩) (meth := k23m1) (c := k23c1) (by decide +kernel) rfl rfl rfl (by decide +kernel)
set_option maxRecDepth 65536 in
theorem w_c48 : (Jvm.Cond.code ({ cls := "java/lang/StringUTF16", name := "newBytesLength", desc := "(I)I" } : Jvm.MethodName) jdk_52_method_3_code (1 : Nat) (Option.some Jvm.ClassFile.FieldType.int)).before args0 about1 = true := code_word (m := ⟨23, 2⟩) (meth := k23m2) (c := k23c2) (by decide +kernel) rfl rfl rfl (by decide +kernel)
set_option maxRecDepth 65536 in
theorem w_c49 : (Jvm.Cond.code ({ cls := "java/lang/StringUTF16", name := "putChar", desc := "([BII)V" } : Jvm.MethodName) jdk_52_method_4_code (3 : Nat) (Option.none : Option Jvm.ClassFile.FieldType)).before args0 about1 = true := code_word (m := ⟨23, 3⟩) (meth := k23m3) (c := k23c3) (by decide +kernel) rfl rfl rfl (by decide +kernel)
set_option maxRecDepth 65536 in
theorem w_c50 : (Jvm.Cond.code ({ cls := "java/lang/StringUTF16", name := "getChar", desc := "([BI)C" } : Jvm.MethodName) jdk_52_method_5_code (2 : Nat) (Option.some Jvm.ClassFile.FieldType.char)).before args0 about1 = true := code_word (m := ⟨23, 4⟩) (meth := k23m4) (c := k23c4) (by decide +kernel) rfl rfl rfl (by decide +kernel)
set_option maxRecDepth 65536 in
theorem w_c51 : (Jvm.Cond.code ({ cls := "java/lang/AbstractStringBuilder", name := "inflate", desc := "()V" } : Jvm.MethodName) jdk_68_method_11_code (2 : Nat) (Option.none : Option Jvm.ClassFile.FieldType)).before args0 about1 = true := code_word (m := ⟨14, 5⟩) (meth := k14m5) (c := k14c5) (by decide +kernel) rfl rfl rfl (by decide +kernel)
set_option maxRecDepth 65536 in
theorem w_c52 : (Jvm.Cond.code ({ cls := "java/lang/StringLatin1", name := "inflate", desc := "([BI[BII)V" } : Jvm.MethodName) jdk_43_method_50_code (5 : Nat) (Option.none : Option Jvm.ClassFile.FieldType)).before args0 about1 = true := code_word (m := ⟨21, 3⟩) (meth := k21m3) (c := k21c3) (by decide +kernel) rfl rfl rfl (by decide +kernel)
set_option maxRecDepth 65536 in
theorem w_c53 : (Jvm.Cond.code ({ cls := "java/lang/StringUTF16", name := "inflate", desc := "([BI[BII)V" } : Jvm.MethodName) jdk_52_method_86_code (6 : Nat) (Option.none : Option Jvm.ClassFile.FieldType)).before args0 about1 = true := code_word (m := ⟨23, 11⟩) (meth := k23m11) (c := k23c11) (by decide +kernel) rfl rfl rfl (by decide +kernel)
set_option maxRecDepth 65536 in
theorem w_c54 : (Jvm.Cond.code ({ cls := "java/lang/StringUTF16", name := "checkBoundsOffCount", desc := "(II[B)V" } : Jvm.MethodName) jdk_52_method_94_code (3 : Nat) (Option.none : Option Jvm.ClassFile.FieldType)).before args0 about1 = true := code_word (m := ⟨23, 13⟩) (meth := k23m13) (c := k23c13) (by decide +kernel) rfl rfl rfl (by decide +kernel)
set_option maxRecDepth 65536 in
theorem w_c55 : (Jvm.Cond.code ({ cls := "java/lang/StringUTF16", name := "length", desc := "([B)I" } : Jvm.MethodName) jdk_52_method_6_code (1 : Nat) (Option.some Jvm.ClassFile.FieldType.int)).before args0 about1 = true := code_word (m := ⟨23, 5⟩) (meth := k23m5) (c := k23c5) (by decide +kernel) rfl rfl rfl (by decide +kernel)
set_option maxRecDepth 65536 in
theorem w_c56 : (Jvm.Cond.code ({ cls := "java/lang/String", name := "checkBoundsOffCount", desc := "(III)I" } : Jvm.MethodName) jdk_42_method_157_code (3 : Nat) (Option.some Jvm.ClassFile.FieldType.int)).before args0 about1 = true := code_word (m := ⟨7, 12⟩) (meth := k7m12) (c := k7c12) (by decide +kernel) rfl rfl rfl (by decide +kernel)
set_option maxRecDepth 65536 in
theorem w_c57 : (Jvm.Cond.code ({ cls := "jdk/internal/util/Preconditions", name := "checkFromIndexSize", desc := "(IIILjava/util/function/BiFunction;)I" } : Jvm.MethodName) jdk_41_method_13_code (4 : Nat) (Option.some Jvm.ClassFile.FieldType.int)).before args0 about1 = true := code_word (m := ⟨22, 2⟩) (meth := k22m2) (c := k22c2) (by decide +kernel) rfl rfl rfl (by decide +kernel)
set_option maxRecDepth 65536 in
theorem w_c58 : (Jvm.Cond.code ({ cls := "java/lang/StringUTF16", name := "charAt", desc := "([BI)C" } : Jvm.MethodName) jdk_52_method_83_code (2 : Nat) (Option.some Jvm.ClassFile.FieldType.char)).before args0 about1 = true := code_word (m := ⟨23, 10⟩) (meth := k23m10) (c := k23c10) (by decide +kernel) rfl rfl rfl (by decide +kernel)
set_option maxRecDepth 65536 in
theorem w_c59 : (Jvm.Cond.code ({ cls := "java/lang/StringUTF16", name := "checkIndex", desc := "(I[B)V" } : Jvm.MethodName) jdk_52_method_91_code (2 : Nat) (Option.none : Option Jvm.ClassFile.FieldType)).before args0 about1 = true := code_word (m := ⟨23, 12⟩) (meth := k23m12) (c := k23c12) (by decide +kernel) rfl rfl rfl (by decide +kernel)
def codes1 : List Jvm.Cond := [Jvm.Cond.code x code maxLocals ret, Jvm.Cond.code ({ cls := "java/lang/String", name := "<init>", desc := "([C)V" } : Jvm.MethodName) jdk_42_method_3_code (2 : Nat) (Option.none : Option Jvm.ClassFile.FieldType), Jvm.Cond.code ({ cls := "java/lang/String", name := "<init>", desc := "([CIILjava/lang/Void;)V" } : Jvm.MethodName) jdk_42_method_149_code (6 : Nat) (Option.none : Option Jvm.ClassFile.FieldType), Jvm.Cond.code ({ cls := "java/lang/Object", name := "<init>", desc := "()V" } : Jvm.MethodName) object_method_1_code (1 : Nat) (Option.none : Option Jvm.ClassFile.FieldType), Jvm.Cond.code ({ cls := "com/example/conversation_framework/conversationframework/Component", name := "undeclared", desc := "(Ljava/lang/String;)Ljava/lang/IllegalArgumentException;" } : Jvm.MethodName) prog_1_method_12_code (1 : Nat) (Option.some (Jvm.ClassFile.FieldType.object "java/lang/IllegalArgumentException")), Jvm.Cond.code ({ cls := "java/lang/StringBuilder", name := "<init>", desc := "()V" } : Jvm.MethodName) jdk_67_method_1_code (1 : Nat) (Option.none : Option Jvm.ClassFile.FieldType), Jvm.Cond.code ({ cls := "java/lang/AbstractStringBuilder", name := "<init>", desc := "(I)V" } : Jvm.MethodName) jdk_68_method_2_code (2 : Nat) (Option.none : Option Jvm.ClassFile.FieldType), Jvm.Cond.code ({ cls := "java/lang/StringBuilder", name := "append", desc := "(Ljava/lang/String;)Ljava/lang/StringBuilder;" } : Jvm.MethodName) jdk_67_method_7_code (2 : Nat) (Option.some (Jvm.ClassFile.FieldType.object "java/lang/StringBuilder")), Jvm.Cond.code ({ cls := "java/lang/AbstractStringBuilder", name := "append", desc := "(Ljava/lang/String;)Ljava/lang/AbstractStringBuilder;" } : Jvm.MethodName) jdk_68_method_22_code (3 : Nat) (Option.some (Jvm.ClassFile.FieldType.object "java/lang/AbstractStringBuilder")), Jvm.Cond.code ({ cls := "java/lang/String", name := "length", desc := "()I" } : Jvm.MethodName) jdk_42_method_54_code (1 : Nat) (Option.some Jvm.ClassFile.FieldType.int), Jvm.Cond.code ({ cls := "java/lang/String", name := "coder", desc := "()B" } : Jvm.MethodName) jdk_42_method_152_code (1 : Nat) (Option.some Jvm.ClassFile.FieldType.byte), Jvm.Cond.code ({ cls := "java/lang/AbstractStringBuilder", name := "ensureCapacityInternal", desc := "(I)V" } : Jvm.MethodName) jdk_68_method_9_code (3 : Nat) (Option.none : Option Jvm.ClassFile.FieldType), Jvm.Cond.code ({ cls := "java/lang/AbstractStringBuilder", name := "newCapacity", desc := "(I)I" } : Jvm.MethodName) jdk_68_method_10_code (6 : Nat) (Option.some Jvm.ClassFile.FieldType.int), Jvm.Cond.code ({ cls := "jdk/internal/util/ArraysSupport", name := "newLength", desc := "(III)I" } : Jvm.MethodName) jdk_48_method_27_code (4 : Nat) (Option.some Jvm.ClassFile.FieldType.int), Jvm.Cond.code ({ cls := "java/lang/Math", name := "max", desc := "(II)I" } : Jvm.MethodName) jdk_29_method_65_code (2 : Nat) (Option.some Jvm.ClassFile.FieldType.int), Jvm.Cond.code ({ cls := "java/util/Arrays", name := "copyOf", desc := "([BI)[B" } : Jvm.MethodName) jdk_65_method_121_code (3 : Nat) (Option.some (Jvm.ClassFile.FieldType.array Jvm.ClassFile.FieldType.byte)), Jvm.Cond.code ({ cls := "java/lang/Math", name := "min", desc := "(II)I" } : Jvm.MethodName) jdk_29_method_69_code (2 : Nat) (Option.some Jvm.ClassFile.FieldType.int), Jvm.Cond.code ({ cls := "java/lang/AbstractStringBuilder", name := "putStringAt", desc := "(ILjava/lang/String;)V" } : Jvm.MethodName) jdk_68_method_73_code (3 : Nat) (Option.none : Option Jvm.ClassFile.FieldType), Jvm.Cond.code ({ cls := "java/lang/AbstractStringBuilder", name := "inflateIfNeededFor", desc := "(Ljava/lang/String;)V" } : Jvm.MethodName) jdk_68_method_71_code (2 : Nat) (Option.none : Option Jvm.ClassFile.FieldType), Jvm.Cond.code ({ cls := "java/lang/String", name := "getBytes", desc := "([BIB)V" } : Jvm.MethodName) jdk_42_method_147_code (4 : Nat) (Option.none : Option Jvm.ClassFile.FieldType), Jvm.Cond.code ({ cls := "java/lang/StringBuilder", name := "toString", desc := "()Ljava/lang/String;" } : Jvm.MethodName) jdk_67_method_42_code (1 : Nat) (Option.some (Jvm.ClassFile.FieldType.object "java/lang/String")), Jvm.Cond.code ({ cls := "java/lang/String", name := "<init>", desc := "(Ljava/lang/StringBuilder;)V" } : Jvm.MethodName) jdk_42_method_53_code (2 : Nat) (Option.none : Option Jvm.ClassFile.FieldType), Jvm.Cond.code ({ cls := "java/lang/String", name := "<init>", desc := "(Ljava/lang/AbstractStringBuilder;Ljava/lang/Void;)V" } : Jvm.MethodName) jdk_42_method_150_code (5 : Nat) (Option.none : Option Jvm.ClassFile.FieldType), Jvm.Cond.code ({ cls := "java/lang/AbstractStringBuilder", name := "getValue", desc := "()[B" } : Jvm.MethodName) jdk_68_method_64_code (1 : Nat) (Option.some (Jvm.ClassFile.FieldType.array Jvm.ClassFile.FieldType.byte)), Jvm.Cond.code ({ cls := "java/lang/StringBuilder", name := "length", desc := "()I" } : Jvm.MethodName) jdk_67_method_93_code (1 : Nat) (Option.some Jvm.ClassFile.FieldType.int), Jvm.Cond.code ({ cls := "java/lang/AbstractStringBuilder", name := "length", desc := "()I" } : Jvm.MethodName) jdk_68_method_6_code (1 : Nat) (Option.some Jvm.ClassFile.FieldType.int), Jvm.Cond.code ({ cls := "java/lang/AbstractStringBuilder", name := "isLatin1", desc := "()Z" } : Jvm.MethodName) jdk_68_method_68_code (1 : Nat) (Option.some Jvm.ClassFile.FieldType.boolean), Jvm.Cond.code ({ cls := "java/util/Arrays", name := "copyOfRange", desc := "([BII)[B" } : Jvm.MethodName) jdk_65_method_132_code (3 : Nat) (Option.some (Jvm.ClassFile.FieldType.array Jvm.ClassFile.FieldType.byte)), Jvm.Cond.code ({ cls := "java/lang/IllegalArgumentException", name := "<init>", desc := "(Ljava/lang/String;)V" } : Jvm.MethodName) jdk_57_method_2_code (2 : Nat) (Option.none : Option Jvm.ClassFile.FieldType), Jvm.Cond.code ({ cls := "java/lang/RuntimeException", name := "<init>", desc := "(Ljava/lang/String;)V" } : Jvm.MethodName) jdk_58_method_2_code (2 : Nat) (Option.none : Option Jvm.ClassFile.FieldType), Jvm.Cond.code ({ cls := "java/lang/Exception", name := "<init>", desc := "(Ljava/lang/String;)V" } : Jvm.MethodName) jdk_59_method_2_code (2 : Nat) (Option.none : Option Jvm.ClassFile.FieldType), Jvm.Cond.code ({ cls := "java/lang/Throwable", name := "<init>", desc := "(Ljava/lang/String;)V" } : Jvm.MethodName) jdk_78_method_2_code (2 : Nat) (Option.none : Option Jvm.ClassFile.FieldType), Jvm.Cond.code ({ cls := "java/lang/Throwable", name := "<init>", desc := "()V" } : Jvm.MethodName) jdk_78_method_1_code (1 : Nat) (Option.none : Option Jvm.ClassFile.FieldType), Jvm.Cond.code ({ cls := "java/lang/Throwable", name := "getMessage", desc := "()Ljava/lang/String;" } : Jvm.MethodName) jdk_78_method_6_code (1 : Nat) (Option.some (Jvm.ClassFile.FieldType.object "java/lang/String")), Jvm.Cond.code ({ cls := "java/lang/String", name := "equals", desc := "(Ljava/lang/Object;)Z" } : Jvm.MethodName) jdk_42_method_66_code (3 : Nat) (Option.some Jvm.ClassFile.FieldType.boolean), Jvm.Cond.code ({ cls := "java/lang/StringLatin1", name := "equals", desc := "([B[B)Z" } : Jvm.MethodName) jdk_43_method_13_code (3 : Nat) (Option.some Jvm.ClassFile.FieldType.boolean), Jvm.Cond.code ({ cls := "java/lang/String", name := "charAt", desc := "(I)C" } : Jvm.MethodName) jdk_42_method_56_code (2 : Nat) (Option.some Jvm.ClassFile.FieldType.char), Jvm.Cond.code ({ cls := "java/lang/String", name := "isLatin1", desc := "()Z" } : Jvm.MethodName) jdk_42_method_154_code (1 : Nat) (Option.some Jvm.ClassFile.FieldType.boolean), Jvm.Cond.code ({ cls := "java/lang/StringLatin1", name := "charAt", desc := "([BI)C" } : Jvm.MethodName) jdk_43_method_2_code (2 : Nat) (Option.some Jvm.ClassFile.FieldType.char), Jvm.Cond.code ({ cls := "java/lang/String", name := "checkIndex", desc := "(II)V" } : Jvm.MethodName) jdk_42_method_155_code (2 : Nat) (Option.none : Option Jvm.ClassFile.FieldType), Jvm.Cond.code ({ cls := "jdk/internal/util/Preconditions", name := "checkIndex", desc := "(IILjava/util/function/BiFunction;)I" } : Jvm.MethodName) jdk_41_method_11_code (3 : Nat) (Option.some Jvm.ClassFile.FieldType.int), Jvm.Cond.code ({ cls := "java/lang/StringUTF16", name := "compress", desc := "([CII)[B" } : Jvm.MethodName) jdk_52_method_16_code (6 : Nat) (Option.some (Jvm.ClassFile.FieldType.array Jvm.ClassFile.FieldType.byte)), Jvm.Cond.code ({ cls := "java/lang/StringUTF16", name := "compress", desc := "([CI[BII)I" } : Jvm.MethodName) jdk_52_method_21_code (7 : Nat) (Option.some Jvm.ClassFile.FieldType.int), Jvm.Cond.code ({ cls := "java/lang/StringUTF16", name := "coderFromArrayLen", desc := "([BI)B" } : Jvm.MethodName) jdk_52_method_15_code (2 : Nat) (Option.some Jvm.ClassFile.FieldType.byte), Jvm.Cond.code ({ cls := "java/util/Arrays", name := "copyOfRangeByte", desc := "([BII)[B" } : Jvm.MethodName) jdk_65_method_133_code (5 : Nat) (Option.some (Jvm.ClassFile.FieldType.array Jvm.ClassFile.FieldType.byte)), Jvm.Cond.code ({ cls := "java/util/Arrays", name := "checkLength", desc := "(II)V" } : Jvm.MethodName) jdk_65_method_131_code (2 : Nat) (Option.none : Option Jvm.ClassFile.FieldType), Jvm.Cond.code ({ cls := "java/lang/StringUTF16", name := "toBytes", desc := "([CII)[B" } : Jvm.MethodName) jdk_52_method_14_code (5 : Nat) (Option.some (Jvm.ClassFile.FieldType.array Jvm.ClassFile.FieldType.byte)), Jvm.Cond.code ({ cls := "java/lang/StringUTF16", name := "newBytesFor", desc := "(I)[B" } : Jvm.MethodName) jdk_52_method_2_code (1 : Nat) (Option.some (Jvm.ClassFile.FieldType.array Jvm.ClassFile.FieldType.byte)), Jvm.Cond.code ({ cls := "java/lang/StringUTF16", name := "newBytesLength", desc := "(I)I" } : Jvm.MethodName) jdk_52_method_3_code (1 : Nat) (Option.some Jvm.ClassFile.FieldType.int), Jvm.Cond.code ({ cls := "java/lang/StringUTF16", name := "putChar", desc := "([BII)V" } : Jvm.MethodName) jdk_52_method_4_code (3 : Nat) (Option.none : Option Jvm.ClassFile.FieldType), Jvm.Cond.code ({ cls := "java/lang/StringUTF16", name := "getChar", desc := "([BI)C" } : Jvm.MethodName) jdk_52_method_5_code (2 : Nat) (Option.some Jvm.ClassFile.FieldType.char), Jvm.Cond.code ({ cls := "java/lang/AbstractStringBuilder", name := "inflate", desc := "()V" } : Jvm.MethodName) jdk_68_method_11_code (2 : Nat) (Option.none : Option Jvm.ClassFile.FieldType), Jvm.Cond.code ({ cls := "java/lang/StringLatin1", name := "inflate", desc := "([BI[BII)V" } : Jvm.MethodName) jdk_43_method_50_code (5 : Nat) (Option.none : Option Jvm.ClassFile.FieldType), Jvm.Cond.code ({ cls := "java/lang/StringUTF16", name := "inflate", desc := "([BI[BII)V" } : Jvm.MethodName) jdk_52_method_86_code (6 : Nat) (Option.none : Option Jvm.ClassFile.FieldType), Jvm.Cond.code ({ cls := "java/lang/StringUTF16", name := "checkBoundsOffCount", desc := "(II[B)V" } : Jvm.MethodName) jdk_52_method_94_code (3 : Nat) (Option.none : Option Jvm.ClassFile.FieldType), Jvm.Cond.code ({ cls := "java/lang/StringUTF16", name := "length", desc := "([B)I" } : Jvm.MethodName) jdk_52_method_6_code (1 : Nat) (Option.some Jvm.ClassFile.FieldType.int), Jvm.Cond.code ({ cls := "java/lang/String", name := "checkBoundsOffCount", desc := "(III)I" } : Jvm.MethodName) jdk_42_method_157_code (3 : Nat) (Option.some Jvm.ClassFile.FieldType.int), Jvm.Cond.code ({ cls := "jdk/internal/util/Preconditions", name := "checkFromIndexSize", desc := "(IIILjava/util/function/BiFunction;)I" } : Jvm.MethodName) jdk_41_method_13_code (4 : Nat) (Option.some Jvm.ClassFile.FieldType.int), Jvm.Cond.code ({ cls := "java/lang/StringUTF16", name := "charAt", desc := "([BI)C" } : Jvm.MethodName) jdk_52_method_83_code (2 : Nat) (Option.some Jvm.ClassFile.FieldType.char), Jvm.Cond.code ({ cls := "java/lang/StringUTF16", name := "checkIndex", desc := "(I[B)V" } : Jvm.MethodName) jdk_52_method_91_code (2 : Nat) (Option.none : Option Jvm.ClassFile.FieldType)]
set_option maxRecDepth 65536 in
theorem codes_eq : words1.filter isCode = codes1 := rfl
theorem w_codes : ∀ c ∈ words1.filter isCode, c.before args0 about1 = true := by
  rw [codes_eq]
  intro c hc
  simp only [codes1, List.mem_cons, List.not_mem_nil, or_false] at hc
  rcases hc with rfl | rfl | rfl | rfl | rfl | rfl | rfl | rfl | rfl | rfl | rfl | rfl | rfl | rfl | rfl | rfl | rfl | rfl | rfl | rfl | rfl | rfl | rfl | rfl | rfl | rfl | rfl | rfl | rfl | rfl | rfl | rfl | rfl | rfl | rfl | rfl | rfl | rfl | rfl | rfl | rfl | rfl | rfl | rfl | rfl | rfl | rfl | rfl | rfl | rfl | rfl | rfl | rfl | rfl | rfl | rfl | rfl | rfl | rfl | rfl
  · exact w_c0
  · exact w_c1
  · exact w_c2
  · exact w_c3
  · exact w_c4
  · exact w_c5
  · exact w_c6
  · exact w_c7
  · exact w_c8
  · exact w_c9
  · exact w_c10
  · exact w_c11
  · exact w_c12
  · exact w_c13
  · exact w_c14
  · exact w_c15
  · exact w_c16
  · exact w_c17
  · exact w_c18
  · exact w_c19
  · exact w_c20
  · exact w_c21
  · exact w_c22
  · exact w_c23
  · exact w_c24
  · exact w_c25
  · exact w_c26
  · exact w_c27
  · exact w_c28
  · exact w_c29
  · exact w_c30
  · exact w_c31
  · exact w_c32
  · exact w_c33
  · exact w_c34
  · exact w_c35
  · exact w_c36
  · exact w_c37
  · exact w_c38
  · exact w_c39
  · exact w_c40
  · exact w_c41
  · exact w_c42
  · exact w_c43
  · exact w_c44
  · exact w_c45
  · exact w_c46
  · exact w_c47
  · exact w_c48
  · exact w_c49
  · exact w_c50
  · exact w_c51
  · exact w_c52
  · exact w_c53
  · exact w_c54
  · exact w_c55
  · exact w_c56
  · exact w_c57
  · exact w_c58
  · exact w_c59
set_option maxRecDepth 65536 in
theorem w_t1 : (words1.take 24).all (fun c => isCode c || c.before args0 about1) = true := by decide +kernel
set_option maxRecDepth 65536 in
theorem w_t2 : ((words1.drop 24).take 24).all (fun c => isCode c || c.before args0 about1) = true := by decide +kernel
set_option maxRecDepth 65536 in
theorem w_t3 : (((words1.drop 24).drop 24).take 24).all (fun c => isCode c || c.before args0 about1) = true := by decide +kernel
set_option maxRecDepth 65536 in
theorem w_t4 : ((((words1.drop 24).drop 24).drop 24).take 24).all (fun c => isCode c || c.before args0 about1) = true := by decide +kernel
set_option maxRecDepth 65536 in
theorem w_t5 : (((((words1.drop 24).drop 24).drop 24).drop 24).take 24).all (fun c => isCode c || c.before args0 about1) = true := by decide +kernel
set_option maxRecDepth 65536 in
theorem w_t6 : ((((((words1.drop 24).drop 24).drop 24).drop 24).drop 24).take 24).all (fun c => isCode c || c.before args0 about1) = true := by decide +kernel
set_option maxRecDepth 65536 in
theorem w_t7 : (((((((words1.drop 24).drop 24).drop 24).drop 24).drop 24).drop 24).take 24).all (fun c => isCode c || c.before args0 about1) = true := by decide +kernel
set_option maxRecDepth 65536 in
theorem w_t8 : ((((((((words1.drop 24).drop 24).drop 24).drop 24).drop 24).drop 24).drop 24).take 24).all (fun c => isCode c || c.before args0 about1) = true := by decide +kernel
set_option maxRecDepth 65536 in
theorem w_t9 : (((((((((words1.drop 24).drop 24).drop 24).drop 24).drop 24).drop 24).drop 24).drop 24).take 24).all (fun c => isCode c || c.before args0 about1) = true := by decide +kernel
set_option maxRecDepth 65536 in
theorem w_t10 : ((((((((((words1.drop 24).drop 24).drop 24).drop 24).drop 24).drop 24).drop 24).drop 24).drop 24).take 24).all (fun c => isCode c || c.before args0 about1) = true := by decide +kernel
set_option maxRecDepth 65536 in
theorem w_t11 : (((((((((((words1.drop 24).drop 24).drop 24).drop 24).drop 24).drop 24).drop 24).drop 24).drop 24).drop 24).take 24).all (fun c => isCode c || c.before args0 about1) = true := by decide +kernel
set_option maxRecDepth 65536 in
theorem w_t12 : ((((((((((((words1.drop 24).drop 24).drop 24).drop 24).drop 24).drop 24).drop 24).drop 24).drop 24).drop 24).drop 24).take 24).all (fun c => isCode c || c.before args0 about1) = true := by decide +kernel
set_option maxRecDepth 65536 in
theorem w_t13 : (((((((((((((words1.drop 24).drop 24).drop 24).drop 24).drop 24).drop 24).drop 24).drop 24).drop 24).drop 24).drop 24).drop 24).take 24).all (fun c => isCode c || c.before args0 about1) = true := by decide +kernel
set_option maxRecDepth 65536 in
theorem w_t14 : (((((((((((((words1.drop 24).drop 24).drop 24).drop 24).drop 24).drop 24).drop 24).drop 24).drop 24).drop 24).drop 24).drop 24).drop 24).all (fun c => isCode c || c.before args0 about1) = true := by decide +kernel
theorem w_tables : (allAtoms (Jvm.Cond.code x code maxLocals ret :: tables_1)).before args0 about1 = true := by
  rw [allAtoms_all]
  show words1.all (fun c => c.before args0 about1) = true
  refine all_split ?_ w_codes
  rw [← List.take_append_drop 24 words1, List.all_append, w_t1, ← List.take_append_drop 24 (words1.drop 24), List.all_append, w_t2, ← List.take_append_drop 24 ((words1.drop 24).drop 24), List.all_append, w_t3, ← List.take_append_drop 24 (((words1.drop 24).drop 24).drop 24), List.all_append, w_t4, ← List.take_append_drop 24 ((((words1.drop 24).drop 24).drop 24).drop 24), List.all_append, w_t5, ← List.take_append_drop 24 (((((words1.drop 24).drop 24).drop 24).drop 24).drop 24), List.all_append, w_t6, ← List.take_append_drop 24 ((((((words1.drop 24).drop 24).drop 24).drop 24).drop 24).drop 24), List.all_append, w_t7, ← List.take_append_drop 24 (((((((words1.drop 24).drop 24).drop 24).drop 24).drop 24).drop 24).drop 24), List.all_append, w_t8, ← List.take_append_drop 24 ((((((((words1.drop 24).drop 24).drop 24).drop 24).drop 24).drop 24).drop 24).drop 24), List.all_append, w_t9, ← List.take_append_drop 24 (((((((((words1.drop 24).drop 24).drop 24).drop 24).drop 24).drop 24).drop 24).drop 24).drop 24), List.all_append, w_t10, ← List.take_append_drop 24 ((((((((((words1.drop 24).drop 24).drop 24).drop 24).drop 24).drop 24).drop 24).drop 24).drop 24).drop 24), List.all_append, w_t11, ← List.take_append_drop 24 (((((((((((words1.drop 24).drop 24).drop 24).drop 24).drop 24).drop 24).drop 24).drop 24).drop 24).drop 24).drop 24), List.all_append, w_t12, ← List.take_append_drop 24 ((((((((((((words1.drop 24).drop 24).drop 24).drop 24).drop 24).drop 24).drop 24).drop 24).drop 24).drop 24).drop 24).drop 24), List.all_append, w_t13, w_t14]
  rfl
set_option maxRecDepth 65536 in
theorem w_rest : rest_1_c.before args0 about1 = true := by decide +kernel
set_option maxRecDepth 65536 in
theorem w_case : (Jvm.Cond.and given_1 narrow_1).before args0 about1 = true := by decide +kernel
set_option maxRecDepth 65536 in
theorem w_consts : constsHeld consts_1 about1 := Jvm.Lit.constsHeldB_iff.mp (by decide +kernel)
theorem w_applies : (headSpec (Jvm.Cond.code x code maxLocals ret :: tables_1) room_1).applies x e0.platform about1 = true :=
  (Spec.applies_iff w_frames).mpr ⟨w_running, w_runnable, w_alone, w_named, w_hears, w_ripe, w_room, w_tables⟩
theorem atStart : AtStart classFile x code maxLocals ret World_1 tables_1 room_1 Calls_1 rest_1 Pre_1 launch0 p0 e0 about1 theMethod args0 below0 :=
  ⟨lists_1, trivial, launch0.admits_env _ _ _, launch0.least_env, fairChoices_fair.cas, fairChoices_fair.clock, w_frames, w_args, w_heap, w_applies, ⟨(by decide +kernel : framesKnown about1 = true), ⟨(by decide +kernel : tablesKnown about1 = true), ⟨w_consts, trivial⟩⟩⟩, w_rest, w_case⟩
end start1
theorem witness_1 : WitnessClaimed_1 := ⟨start1.p0, start1.e0, start1.about1, start1.theMethod, start1.args0, start1.below0, start1.atStart⟩
end Jvm.Pilot.@@N@@
