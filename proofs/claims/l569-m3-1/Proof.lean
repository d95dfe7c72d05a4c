import JvmDerived
import JvmDerived.Pilot.@@N@@Statement
import JvmDerived.Pilot.@@N@@Code
set_option linter.unusedVariables false
set_option linter.unusedSimpArgs false
namespace Jvm.OwnW
open Sem ClassFile Op Lib Jvm.Stand Jvm.Free Jvm.LawKit Jvm.RoadKit
section A
variable {kn : Prop} {p : Program} {l : Launch} {e : Env} {R : Room} {s : State} {m : MethodId} {args : Array Value} {below : List Frame} {meth : Method} {c : Code} {T : State} {Z : State} {a0 : Array Value} {EL : List (String × Nat)} {h h' : Heap} {n0 kc ks fc fs : Nat} {sf : List Addr} {Q : Option Value → Heap → List Addr → Prop} {y : MethodName} {bytes : ByteArray} {maxL : Nat} {ret : Option FieldType} {a b : Addr} {ty : FieldType} {vs : List Value} {sl : Nat} {v w : Value} {C f d : String} {wl : List Addr}
def Sd (kn : Prop) (Z : State) (a0 : Array Value) (EL : List (String × Nat)) (y : MethodName) (bytes : ByteArray) (maxL : Nat) (ret : Option FieldType) (p : Program) (l : Launch) (e : Env) (R : Room) (s : State) (m : MethodId) (args : Array Value) (below : List Frame) (meth : Method) (c : Code) (n0 : Nat) (sf : List Addr) (h : Heap) (kc ks : Nat) (T : State) : Prop :=
  ∃ (vm0 : Vm) (k0 : Nat), (p.tables.exec = Jvm.exec ∧ Z.Warmed39 vm0 ∧ c.code = bytes ∧ c.maxLocals = maxL ∧ meth.sig.returnType = ret ∧ meth.locks = false ∧ vm0.findClass y.cls = some m.cls ∧ meth.name = y.name) ∧
  (s.Since vm0 k0 ∧ k0 ≤ h.size ∧ EW Z a0 EL ∧ CHr Z EL s.vm s.heap vm0 h ∧ (∀ x ∈ sf, Safe Z EL vm0 h x ∧ x < h.size) ∧ (kn → vm0.MethodsKnown ∧ vm0.FramesKnown below)) ∧
  ∃ locs cells slots, Stand p l e R (s.setVm vm0) m args below meth c T locs cells slots ∧ T.heap = h ∧ Fr n0 locs ∧ cells ≤ kc ∧ slots ≤ ks
def Run (Z : State) (EL : List (String × Nat)) (p : Program) (e : Env) (below : List Frame) (s : State) (n0 fc fs : Nat) (Q : Option Value → Heap → List Addr → Prop) (t : State) : Prop :=
  ∃ s₂ o, Steps p.tables e below t s₂ ∧ s₂.status = .running ∧ Ended s₂ below o ∧ ∃ v L sfn, o = .returned v ∧ Q v s₂.heap sfn ∧ (∀ x ∈ sfn, Safe Z EL s₂.vm s₂.heap x ∧ x < s₂.heap.size) ∧ Fr n0 L ∧ CHr Z EL s.vm s.heap s₂.vm s₂.heap ∧ ReturnedEndW s o s₂ L fc fs
def Ctr (kn : Prop) (l : Launch) (Z : State) (EL : List (String × Nat)) (y : MethodName) (bytes : ByteArray) (maxL : Nat) (ret : Option FieldType) (ws : List Cond) (rm : Room) (n0 : Nat) (sf : List Addr) (as : Array Value) (h : Heap) (Q : Option Value → Heap → List Addr → Prop) : Prop :=
  MetFree l y (head1 (Cond.code y bytes maxL ret :: ws) rm) (fun a' U => a' = as ∧ Z.Warmed39 U.vm ∧ U.heap = h ∧ CHv Z EL U.vm h ∧ ∀ x ∈ sf, Safe Z EL U.vm h x ∧ x < h.size) (fun _ _ bl U _ => kn → U.vm.MethodsKnown ∧ U.vm.FramesKnown bl) (fun _ U o U' => ∃ v L, o = .returned v ∧ (∃ sfn, Q v U'.heap sfn ∧ (∀ x ∈ sfn, Safe Z EL U'.vm U'.heap x ∧ x < U'.heap.size) ∧ Fr n0 L) ∧ CHr Z EL U.vm U.heap U'.vm U'.heap ∧ ReturnedEndW U o U' L rm.cells rm.slots)
def Rt (Qv : Value → Heap → List Addr → Prop) : Option Value → Heap → List Addr → Prop := fun v h g => ∃ w, v = some w ∧ Qv w h g
def Rn (Qn : Heap → List Addr → Prop) : Option Value → Heap → List Addr → Prop := fun v h g => v = none ∧ Qn h g
theorem Run.st {t t' : State} (k : Run Z EL p e below s n0 fc fs Q t') (f : ∀ z, Steps p.tables e below t' z → Steps p.tables e below t z) : Run Z EL p e below s n0 fc fs Q t := by
  obtain ⟨s2, o, h1, r⟩ := k; exact ⟨s2, o, f _ h1, r⟩
theorem FKalike {vm vm' : Vm} {fr : List Frame} (hal : vm.Alike vm') (h : vm.FramesKnown fr) : vm'.FramesKnown fr := Vm.FramesKnown.alikeC hal h
theorem Sd.x (X : Sd kn Z a0 EL y bytes maxL ret p l e R s m args below meth c n0 sf h kc ks T) : p.tables.exec = Jvm.exec := by obtain ⟨_, _, q, -⟩ := X; exact q.1
theorem Sd.hr (X : Sd kn Z a0 EL y bytes maxL ret p l e R s m args below meth c n0 sf h kc ks T) : At T m c below := by obtain ⟨_, _, -, -, _, _, _, Y, -⟩ := X; exact Y.here
theorem Sd.dc (X : Sd kn Z a0 EL y bytes maxL ret p l e R s m args below meth c n0 sf h kc ks T) {pc : Nat} {r : Except DecodeError (Instr × Nat)} (q : decode bytes pc = r) : decode c.code pc = r := by obtain ⟨_, _, g, -⟩ := X; exact g.2.2.1 ▸ q
theorem Sd.rt (X : Sd kn Z a0 EL y bytes maxL ret p l e R s m args below meth c n0 sf h kc ks T) : meth.sig.returnType = ret := by obtain ⟨_, _, q, -⟩ := X; exact q.2.2.2.2.1
theorem Sd.op (X : Sd kn Z a0 EL y bytes maxL ret p l e R s m args below meth c n0 sf h kc ks T) : ∃ (s' : State) (L : List Loc) (i j : Nat), Stand p l e R s' m args below meth c T L i j ∧ T.heap = h ∧ Z.Warmed39 s'.vm ∧ s'.vm.findClass y.cls = some m.cls ∧ c.maxLocals = maxL ∧ meth.name = y.name ∧ i ≤ kc ∧ j ≤ ks ∧ p.tables.exec = Jvm.exec ∧ (∀ T', Stand p l e R s' m args below meth c T' L i j → T'.heap = h → Sd kn Z a0 EL y bytes maxL ret p l e R s m args below meth c n0 sf h kc ks T') ∧ (∀ T' h' dc ds, Stand p l e R s' m args below meth c T' L (i + dc) (j + ds) → T'.heap = h' → Ext h h' → h.size < h'.size → Sd kn Z a0 EL y bytes maxL ret p l e R s m args below meth c n0 (h.size :: sf) h' (kc + dc) (ks + ds) T') ∧ (∀ T' h' a sl v, a ∈ sf → n0 ≤ a → Stand p l e R s' m args below meth c T' (L ++ [⟨a, sl⟩]) i j → T'.heap = h' → Wr h h' a sl v → Sd kn Z a0 EL y bytes maxL ret p l e R s m args below meth c n0 sf h' kc ks T') := by
  obtain ⟨vm0, k0, q, ⟨hS, hk, hE, hC, hs, hkn⟩, L, i, j, Y, r1, r2, r3, r4⟩ := X
  refine ⟨s.setVm vm0, L, i, j, Y, r1, q.2.1, q.2.2.2.2.2.2.1, q.2.2.2.1, q.2.2.2.2.2.2.2, r3, r4, q.1, ?_, ?_, ?_⟩
  · intro T' Y' e'
    exact ⟨vm0, k0, q, ⟨hS, hk, hE, hC, hs, hkn⟩, L, i, j, Y', e', r2, r3, r4⟩
  · intro T' h' dc ds Y' e' E hlt
    refine ⟨vm0, k0, q, ⟨hS, Nat.le_trans hk E.1, hE, hC.trans (CHr.ext E hC.1), ?_, hkn⟩, L, _, _, Y', e', r2, by omega, by omega⟩
    intro x hx
    rcases List.mem_cons.mp hx with rfl | hx
    · exact ⟨(Safe.new (Nat.le_refl _)).ext E hC.1, hlt⟩
    · exact ⟨(hs x hx).1.ext E hC.1, Nat.lt_of_lt_of_le (hs x hx).2 E.1⟩
  · intro T' h' a sl v ha hn Y' e' W
    refine ⟨vm0, k0, q, ⟨hS, by rw [W.size]; exact hk, hE, hC.trans (CHr.wr W (hs a ha).1 hC.1), ?_, hkn⟩, _, _, _, Y', e', Fr.snoc Y' r2 hn, r3, r4⟩
    intro x hx
    exact ⟨Safe.wr W (hs a ha).1 hC.1 (hs x hx).1, by rw [W.size]; exact (hs x hx).2⟩
theorem Sd.lt (X : Sd kn Z a0 EL y bytes maxL ret p l e R s m args below meth c n0 sf h kc ks T) : ∀ x ∈ sf, x < h.size := by obtain ⟨_, _, -, ⟨-, -, -, -, hs, -⟩, -⟩ := X; exact fun x hx => (hs x hx).2
theorem sf0 : ∀ x ∈ ([] : List Addr), x ∈ sf := fun _ q => nomatch q
theorem sfS (q : a ∈ sf) (r : ∀ x ∈ wl, x ∈ sf) : ∀ x ∈ a :: wl, x ∈ sf := fun x z => (List.mem_cons.mp z).elim (fun u => u ▸ q) (r x)
theorem Sd.more (X : Sd kn Z a0 EL y bytes maxL ret p l e R s m args below meth c n0 sf h kc ks T) {kc' ks' : Nat} (h1 : kc ≤ kc') (h2 : ks ≤ ks') : Sd kn Z a0 EL y bytes maxL ret p l e R s m args below meth c n0 sf h kc' ks' T := by
  obtain ⟨vm0, k0, q, g, L, i, j, Y, r1, r2, r3, r4⟩ := X; exact ⟨vm0, k0, q, g, L, i, j, Y, r1, r2, Nat.le_trans r3 h1, Nat.le_trans r4 h2⟩
theorem Sd.less (X : Sd kn Z a0 EL y bytes maxL ret p l e R s m args below meth c n0 sf h kc ks T) {sf' : List Addr} (hh : ∀ x ∈ sf', x ∈ sf) : Sd kn Z a0 EL y bytes maxL ret p l e R s m args below meth c n0 sf' h kc ks T := by
  obtain ⟨vm0, k0, q, ⟨hS, hk, hE, hC, hs, hkn⟩, g⟩ := X; exact ⟨vm0, k0, q, ⟨hS, hk, hE, hC, fun x hx => hs x (hh x hx), hkn⟩, g⟩
theorem Ctr.of {rm : Room} {ws : List Cond} {as : Array Value} {ls0 : Array Slot} (hn : plainFor y = true) (hE : EW Z a0 EL) (hf : ∀ m, entryFrame m as maxL = mkF m 0 ls0 [])
    (body : ∀ (p : Program) (e : Env) (s : State) (m : MethodId) (below : List Frame) (meth : Method) (c : Code) (T : State), Sd kn Z a0 EL y bytes maxL ret p l e rm s m as below meth c n0 sf h 0 0 T → Run Z EL p e below s n0 rm.cells rm.slots Q (T.setTop (mkF m 0 ls0 []))) : Ctr kn l Z EL y bytes maxL ret ws rm n0 sf as h Q := by
  refine MetFree.of_bodySF hn hisR ?_
  intro p e s m args below meth c s₁ Bd hml0 hP hK
  obtain ⟨rfl, hZ, hh, hC, hs⟩ := hP
  have X0 : Stand p l e rm s m args below meth c s₁ [] 0 0 := Stand.of_body Bd
  have e0 : s₁.heap = h := by rw [← hh, Bd.state]; rfl
  obtain ⟨s2, o, h1, h2, h3, v, L, sfn, h4, h5, h6, h7, h8, h9⟩ := body p e s m below meth c s₁ ⟨s.vm, h.size, ⟨Bd.exec, hZ, Bd.bytes, hml0, Bd.returns, Bd.notSynchronized, findClass_of_methodNamed Bd.named, (name_of_methodNamed Bd.named Bd.method).1⟩, ⟨(State.WarmedH.refl s).since _, Nat.le_refl _, hE, by rw [hh]; exact CHr.refl hC, hs, hK⟩, [], 0, 0, X0, e0, Fr.nil _, Nat.le_refl _, Nat.le_refl _⟩
  exact ⟨s2, o, castTop (hf m) h1, h2, h3, v, L, h4, ⟨sfn, h5, h6, h7⟩, h8, h9⟩
theorem leaveQ (X : Sd kn Z a0 EL y bytes maxL ret p l e R s m args below meth c n0 sf h kc ks T) {v : Option Value} (hv : ret = none → v = none) (hq : Q v h sf) (h1 : kc ≤ fc) (h2 : ks ≤ fs) {t : State}
    (st : ∀ {s' : State} {locs cells slots}, Stand p l e R s' m args below meth c T locs cells slots → ∀ {ff : List Frame}, (∀ (f : JFrame) (acts : List Action), f.method = m → f.locked = none → f.entered = [] → (doReturn e (T.setTop f) acts v).1 = T.setFrames ff) → Steps p.tables e below t (T.setFrames ff)) : Run Z EL p e below s n0 fc fs Q t := by
  obtain ⟨vm0, k0, q, ⟨hS, hk, hE, hC, hs, hkn⟩, L, i, j, Y, r1, r2, r3, r4⟩ := X
  obtain ⟨ff, g1, hrun, hended, w1, w2, w3, w4⟩ := Y.leaveW hS (by rw [r1]; exact hk) (v := v) (fun z => hv (q.2.2.2.2.1 ▸ z)) q.2.2.2.2.2.1
  have hA := CHv.at Y q.2.1 hE hC.1
  refine ⟨_, _, st Y g1, hrun, hended, v, L, sf, rfl, by show Q v T.heap sf; rw [r1]; exact hq, ?_, r2, ?_, w1, w2, w3, w4.mono (Nat.le_trans r3 h1) (Nat.le_trans r4 h2)⟩
  · intro x hx
    show Safe Z EL T.vm T.heap x ∧ x < T.heap.size
    rw [r1]
    exact ⟨hA.safe (hs x hx).2 (hs x hx).1, (hs x hx).2⟩
  · show CHr Z EL s.vm s.heap T.vm T.heap
    rw [r1]
    exact hC.trans hA
theorem areturn (X : Sd kn Z a0 EL y bytes maxL ret p l e R s m args below meth c n0 sf h kc ks T) {t : FieldType} (hr : ret = some t) (ht : t.isReference = true) {pc : Nat} {ls : Array Slot} {w : Value} {st : List Value} (hw : w.isRef = true) (hd : decode bytes pc = .ok (.areturn, 1)) {Qv : Value → Heap → List Addr → Prop} (hq : Qv w h sf) (h1 : kc ≤ fc) (h2 : ks ≤ fs) : Run Z EL p e below s n0 fc fs (Rt Qv) (T.setTop (mkF m pc ls (w :: st))) := by
  subst hr
  have hn : narrow t w = w := by cases w <;> cases t <;> first | rfl | exact absurd hw Bool.noConfusion | exact absurd ht Bool.noConfusion
  exact leaveQ X (v := some w) (fun q => by cases q) ⟨w, rfl, hq⟩ h1 h2 fun Y _ g => retOut Y X.x X.rt hn (Or.inr (Or.inr (Or.inr (Or.inr ⟨rfl, ht, hw⟩)))) (X.dc hd) g
theorem ireturn (X : Sd kn Z a0 EL y bytes maxL ret p l e R s m args below meth c n0 sf h kc ks T) {t : FieldType} (hr : ret = some t) (ht : t = .int ∨ t = .boolean ∨ t = .byte ∨ t = .char ∨ t = .short) {pc : Nat} {ls : Array Slot} {z : Int32} {st : List Value} (hn : narrow t (.int z) = .int z) (hd : decode bytes pc = .ok (.ireturn, 1)) {Qv : Value → Heap → List Addr → Prop} (hq : Qv (.int z) h sf) (h1 : kc ≤ fc) (h2 : ks ≤ fs) : Run Z EL p e below s n0 fc fs (Rt Qv) (T.setTop (mkF m pc ls (.int z :: st))) := by
  subst hr
  exact leaveQ X (v := some (.int z)) (fun q => by cases q) ⟨_, rfl, hq⟩ h1 h2 fun Y _ g => retOut Y X.x X.rt hn (Or.inl ⟨rfl, ht, z, rfl⟩) (X.dc hd) g
theorem ireturnN (X : Sd kn Z a0 EL y bytes maxL ret p l e R s m args below meth c n0 sf h kc ks T) {t : FieldType} (hr : ret = some t) (ht : t = .boolean ∨ t = .byte ∨ t = .char ∨ t = .short) {pc : Nat} {ls : Array Slot} {z z' : Int32} {st : List Value} (hn : nar t z = z') (hd : decode bytes pc = .ok (.ireturn, 1)) {Qv : Value → Heap → List Addr → Prop} (hq : Qv (.int z') h sf) (h1 : kc ≤ fc) (h2 : ks ≤ fs) : Run Z EL p e below s n0 fc fs (Rt Qv) (T.setTop (mkF m pc ls (.int z :: st))) := by
  subst hr hn
  exact leaveQ X (v := some (.int (nar t z))) (fun q => by cases q) ⟨_, rfl, hq⟩ h1 h2 fun Y _ g => retN Y X.x X.rt ht (X.dc hd) g
theorem vreturn (X : Sd kn Z a0 EL y bytes maxL ret p l e R s m args below meth c n0 sf h kc ks T) (hr : ret = none) {pc : Nat} {ls : Array Slot} (hd : decode bytes pc = .ok (.return_, 1)) {Qn : Heap → List Addr → Prop} (hq : Qn h sf) (h1 : kc ≤ fc) (h2 : ks ≤ fs) : Run Z EL p e below s n0 fc fs (Rn Qn) (T.setTop (mkF m pc ls [])) := by
  subst hr
  exact leaveQ X (v := none) (fun _ => rfl) ⟨rfl, hq⟩ h1 h2 fun Y _ g => Y.returnOut X.x X.rt (X.dc hd) g
theorem iloadN (X : Sd kn Z a0 EL y bytes maxL ret p l e R s m args below meth c n0 sf h kc ks T) {pc n : Nat} {ls : Array Slot} {st : List Value} {k : Fin 4} {v : Int32} (hd : decode bytes pc = .ok (.iload_n k, 1)) (hl : ls[k.val]? = some (.val (.int v))) (hn : pc + 1 = n) (K : Run Z EL p e below s n0 fc fs Q (T.setTop (mkF m n ls (.int v :: st)))) : Run Z EL p e below s n0 fc fs Q (T.setTop (mkF m pc ls st)) := by
  subst hn; exact K.st fun _ k => XS.iloadN X.hr X.x rfl (X.dc hd) hl k
theorem iload (X : Sd kn Z a0 EL y bytes maxL ret p l e R s m args below meth c n0 sf h kc ks T) {pc n : Nat} {ls : Array Slot} {st : List Value} {j : Nat} {v : Int32} (hd : decode bytes pc = .ok (.iload j, 2)) (hl : ls[j]? = some (.val (.int v))) (hn : pc + 2 = n) (K : Run Z EL p e below s n0 fc fs Q (T.setTop (mkF m n ls (.int v :: st)))) : Run Z EL p e below s n0 fc fs Q (T.setTop (mkF m pc ls st)) := by
  subst hn; exact K.st fun _ k => XS.iload X.hr X.x rfl (X.dc hd) hl k
theorem istoreN (X : Sd kn Z a0 EL y bytes maxL ret p l e R s m args below meth c n0 sf h kc ks T) {pc n : Nat} {ls : Array Slot} {st : List Value} {k : Fin 4} {v : Int32} {l' : Array Slot} (hd : decode bytes pc = .ok (.istore_n k, 1)) (hl : storeLocals ls k.val (.int v) = some l') (hn : pc + 1 = n) (K : Run Z EL p e below s n0 fc fs Q (T.setTop (mkF m n l' st))) : Run Z EL p e below s n0 fc fs Q (T.setTop (mkF m pc ls (.int v :: st))) := by
  subst hn; exact K.st fun _ k => XS.istoreN X.hr X.x rfl (X.dc hd) rfl hl k
theorem istore (X : Sd kn Z a0 EL y bytes maxL ret p l e R s m args below meth c n0 sf h kc ks T) {pc n : Nat} {ls : Array Slot} {st : List Value} {j : Nat} {v : Int32} {l' : Array Slot} (hd : decode bytes pc = .ok (.istore j, 2)) (hl : storeLocals ls j (.int v) = some l') (hn : pc + 2 = n) (K : Run Z EL p e below s n0 fc fs Q (T.setTop (mkF m n l' st))) : Run Z EL p e below s n0 fc fs Q (T.setTop (mkF m pc ls (.int v :: st))) := by
  subst hn; exact K.st fun _ k => XS.istore X.hr X.x rfl (X.dc hd) rfl hl k
theorem lloadN (X : Sd kn Z a0 EL y bytes maxL ret p l e R s m args below meth c n0 sf h kc ks T) {pc n : Nat} {ls : Array Slot} {st : List Value} {k : Fin 4} {v : Int64} (hd : decode bytes pc = .ok (.lload_n k, 1)) (hl : ls[k.val]? = some (.val (.long v))) (hn : pc + 1 = n) (K : Run Z EL p e below s n0 fc fs Q (T.setTop (mkF m n ls (.long v :: st)))) : Run Z EL p e below s n0 fc fs Q (T.setTop (mkF m pc ls st)) := by
  subst hn; exact K.st fun _ k => XS.lloadN X.hr X.x rfl (X.dc hd) hl k
theorem lload (X : Sd kn Z a0 EL y bytes maxL ret p l e R s m args below meth c n0 sf h kc ks T) {pc n : Nat} {ls : Array Slot} {st : List Value} {j : Nat} {v : Int64} (hd : decode bytes pc = .ok (.lload j, 2)) (hl : ls[j]? = some (.val (.long v))) (hn : pc + 2 = n) (K : Run Z EL p e below s n0 fc fs Q (T.setTop (mkF m n ls (.long v :: st)))) : Run Z EL p e below s n0 fc fs Q (T.setTop (mkF m pc ls st)) := by
  subst hn; exact K.st fun _ k => XS.lload X.hr X.x rfl (X.dc hd) hl k
theorem lstoreN (X : Sd kn Z a0 EL y bytes maxL ret p l e R s m args below meth c n0 sf h kc ks T) {pc n : Nat} {ls : Array Slot} {st : List Value} {k : Fin 4} {v : Int64} {l' : Array Slot} (hd : decode bytes pc = .ok (.lstore_n k, 1)) (hl : storeLocals ls k.val (.long v) = some l') (hn : pc + 1 = n) (K : Run Z EL p e below s n0 fc fs Q (T.setTop (mkF m n l' st))) : Run Z EL p e below s n0 fc fs Q (T.setTop (mkF m pc ls (.long v :: st))) := by
  subst hn; exact K.st fun _ k => XS.lstoreN X.hr X.x rfl (X.dc hd) rfl hl k
theorem lstore (X : Sd kn Z a0 EL y bytes maxL ret p l e R s m args below meth c n0 sf h kc ks T) {pc n : Nat} {ls : Array Slot} {st : List Value} {j : Nat} {v : Int64} {l' : Array Slot} (hd : decode bytes pc = .ok (.lstore j, 2)) (hl : storeLocals ls j (.long v) = some l') (hn : pc + 2 = n) (K : Run Z EL p e below s n0 fc fs Q (T.setTop (mkF m n l' st))) : Run Z EL p e below s n0 fc fs Q (T.setTop (mkF m pc ls (.long v :: st))) := by
  subst hn; exact K.st fun _ k => XS.lstore X.hr X.x rfl (X.dc hd) rfl hl k
theorem aloadN (X : Sd kn Z a0 EL y bytes maxL ret p l e R s m args below meth c n0 sf h kc ks T) {pc n : Nat} {ls : Array Slot} {st : List Value} {k : Fin 4} {v : Value} (hd : decode bytes pc = .ok (.aload_n k, 1)) (hl : ls[k.val]? = some (.val v)) (hv : v.isRef = true) (hn : pc + 1 = n) (K : Run Z EL p e below s n0 fc fs Q (T.setTop (mkF m n ls (v :: st)))) : Run Z EL p e below s n0 fc fs Q (T.setTop (mkF m pc ls st)) := by
  subst hn; exact K.st fun _ k => XS.aloadN X.hr X.x rfl (X.dc hd) hl hv k
theorem aload (X : Sd kn Z a0 EL y bytes maxL ret p l e R s m args below meth c n0 sf h kc ks T) {pc n : Nat} {ls : Array Slot} {st : List Value} {j : Nat} {v : Value} (hd : decode bytes pc = .ok (.aload j, 2)) (hl : ls[j]? = some (.val v)) (hv : v.isRef = true) (hn : pc + 2 = n) (K : Run Z EL p e below s n0 fc fs Q (T.setTop (mkF m n ls (v :: st)))) : Run Z EL p e below s n0 fc fs Q (T.setTop (mkF m pc ls st)) := by
  subst hn; exact K.st fun _ k => XS.aload X.hr X.x rfl (X.dc hd) hl hv k
theorem astoreN (X : Sd kn Z a0 EL y bytes maxL ret p l e R s m args below meth c n0 sf h kc ks T) {pc n : Nat} {ls : Array Slot} {st : List Value} {k : Fin 4} {v : Value} {l' : Array Slot} (hd : decode bytes pc = .ok (.astore_n k, 1)) (hv : v.isRef = true) (hl : storeLocals ls k.val v = some l') (hn : pc + 1 = n) (K : Run Z EL p e below s n0 fc fs Q (T.setTop (mkF m n l' st))) : Run Z EL p e below s n0 fc fs Q (T.setTop (mkF m pc ls (v :: st))) := by
  subst hn; exact K.st fun _ k => XS.astoreN X.hr X.x rfl (X.dc hd) rfl hv hl k
theorem astore (X : Sd kn Z a0 EL y bytes maxL ret p l e R s m args below meth c n0 sf h kc ks T) {pc n : Nat} {ls : Array Slot} {st : List Value} {j : Nat} {v : Value} {l' : Array Slot} (hd : decode bytes pc = .ok (.astore j, 2)) (hv : v.isRef = true) (hl : storeLocals ls j v = some l') (hn : pc + 2 = n) (K : Run Z EL p e below s n0 fc fs Q (T.setTop (mkF m n l' st))) : Run Z EL p e below s n0 fc fs Q (T.setTop (mkF m pc ls (v :: st))) := by
  subst hn; exact K.st fun _ k => XS.astore X.hr X.x rfl (X.dc hd) rfl hv hl k
theorem iconst (X : Sd kn Z a0 EL y bytes maxL ret p l e R s m args below meth c n0 sf h kc ks T) {pc n : Nat} {ls : Array Slot} {st : List Value} {i : Int} {z : Int32} (hd : decode bytes pc = .ok (.iconst i, 1)) (hz : Int32.ofInt i = z) (hn : pc + 1 = n) (K : Run Z EL p e below s n0 fc fs Q (T.setTop (mkF m n ls (.int z :: st)))) : Run Z EL p e below s n0 fc fs Q (T.setTop (mkF m pc ls st)) := by
  subst hn hz; exact K.st fun _ k => XS.iconst X.hr X.x rfl (X.dc hd) k
theorem bipush (X : Sd kn Z a0 EL y bytes maxL ret p l e R s m args below meth c n0 sf h kc ks T) {pc n : Nat} {ls : Array Slot} {st : List Value} {i : Int} {z : Int32} (hd : decode bytes pc = .ok (.bipush i, 2)) (hz : (Int8.ofInt i).toInt32 = z) (hn : pc + 2 = n) (K : Run Z EL p e below s n0 fc fs Q (T.setTop (mkF m n ls (.int z :: st)))) : Run Z EL p e below s n0 fc fs Q (T.setTop (mkF m pc ls st)) := by
  subst hn hz; exact K.st fun _ k => XS.bipush X.hr X.x rfl (X.dc hd) k
theorem sipush (X : Sd kn Z a0 EL y bytes maxL ret p l e R s m args below meth c n0 sf h kc ks T) {pc n : Nat} {ls : Array Slot} {st : List Value} {i : Int} {z : Int32} (hd : decode bytes pc = .ok (.sipush i, 3)) (hz : (Int16.ofInt i).toInt32 = z) (hn : pc + 3 = n) (K : Run Z EL p e below s n0 fc fs Q (T.setTop (mkF m n ls (.int z :: st)))) : Run Z EL p e below s n0 fc fs Q (T.setTop (mkF m pc ls st)) := by
  subst hn hz; exact K.st fun _ k => XS.sipush X.hr X.x rfl (X.dc hd) k
theorem anull (X : Sd kn Z a0 EL y bytes maxL ret p l e R s m args below meth c n0 sf h kc ks T) {pc n : Nat} {ls : Array Slot} {st : List Value}  (hd : decode bytes pc = .ok (.aconst_null, 1)) (hn : pc + 1 = n) (K : Run Z EL p e below s n0 fc fs Q (T.setTop (mkF m n ls (.null :: st)))) : Run Z EL p e below s n0 fc fs Q (T.setTop (mkF m pc ls st)) := by
  subst hn; exact K.st fun _ k => XS.aconstNull X.hr X.x rfl (X.dc hd) k
theorem iadd (X : Sd kn Z a0 EL y bytes maxL ret p l e R s m args below meth c n0 sf h kc ks T) {pc n : Nat} {ls : Array Slot} {st : List Value} {u v : Int32} (hd : decode bytes pc = .ok (.iadd, 1)) (hn : pc + 1 = n) (K : Run Z EL p e below s n0 fc fs Q (T.setTop (mkF m n ls (.int (u + v) :: st)))) : Run Z EL p e below s n0 fc fs Q (T.setTop (mkF m pc ls (.int v :: .int u :: st))) := by
  subst hn; exact K.st fun _ k => XS.iadd X.hr X.x rfl (X.dc hd) rfl k
theorem ladd (X : Sd kn Z a0 EL y bytes maxL ret p l e R s m args below meth c n0 sf h kc ks T) {pc n : Nat} {ls : Array Slot} {st : List Value} {u v : Int64} (hd : decode bytes pc = .ok (.ladd, 1)) (hn : pc + 1 = n) (K : Run Z EL p e below s n0 fc fs Q (T.setTop (mkF m n ls (.long (u + v) :: st)))) : Run Z EL p e below s n0 fc fs Q (T.setTop (mkF m pc ls (.long v :: .long u :: st))) := by
  subst hn; exact K.st fun _ k => XS.ladd X.hr X.x rfl (X.dc hd) rfl k
theorem isub (X : Sd kn Z a0 EL y bytes maxL ret p l e R s m args below meth c n0 sf h kc ks T) {pc n : Nat} {ls : Array Slot} {st : List Value} {u v : Int32} (hd : decode bytes pc = .ok (.isub, 1)) (hn : pc + 1 = n) (K : Run Z EL p e below s n0 fc fs Q (T.setTop (mkF m n ls (.int (u - v) :: st)))) : Run Z EL p e below s n0 fc fs Q (T.setTop (mkF m pc ls (.int v :: .int u :: st))) := by
  subst hn; exact K.st fun _ k => XS.isub X.hr X.x rfl (X.dc hd) rfl k
theorem lsub (X : Sd kn Z a0 EL y bytes maxL ret p l e R s m args below meth c n0 sf h kc ks T) {pc n : Nat} {ls : Array Slot} {st : List Value} {u v : Int64} (hd : decode bytes pc = .ok (.lsub, 1)) (hn : pc + 1 = n) (K : Run Z EL p e below s n0 fc fs Q (T.setTop (mkF m n ls (.long (u - v) :: st)))) : Run Z EL p e below s n0 fc fs Q (T.setTop (mkF m pc ls (.long v :: .long u :: st))) := by
  subst hn; exact K.st fun _ k => XS.lsub X.hr X.x rfl (X.dc hd) rfl k
theorem imul (X : Sd kn Z a0 EL y bytes maxL ret p l e R s m args below meth c n0 sf h kc ks T) {pc n : Nat} {ls : Array Slot} {st : List Value} {u v : Int32} (hd : decode bytes pc = .ok (.imul, 1)) (hn : pc + 1 = n) (K : Run Z EL p e below s n0 fc fs Q (T.setTop (mkF m n ls (.int (u * v) :: st)))) : Run Z EL p e below s n0 fc fs Q (T.setTop (mkF m pc ls (.int v :: .int u :: st))) := by
  subst hn; exact K.st fun _ k => XS.imul X.hr X.x rfl (X.dc hd) rfl k
theorem lmul (X : Sd kn Z a0 EL y bytes maxL ret p l e R s m args below meth c n0 sf h kc ks T) {pc n : Nat} {ls : Array Slot} {st : List Value} {u v : Int64} (hd : decode bytes pc = .ok (.lmul, 1)) (hn : pc + 1 = n) (K : Run Z EL p e below s n0 fc fs Q (T.setTop (mkF m n ls (.long (u * v) :: st)))) : Run Z EL p e below s n0 fc fs Q (T.setTop (mkF m pc ls (.long v :: .long u :: st))) := by
  subst hn; exact K.st fun _ k => XS.lmul X.hr X.x rfl (X.dc hd) rfl k
theorem iand (X : Sd kn Z a0 EL y bytes maxL ret p l e R s m args below meth c n0 sf h kc ks T) {pc n : Nat} {ls : Array Slot} {st : List Value} {u v : Int32} (hd : decode bytes pc = .ok (.iand, 1)) (hn : pc + 1 = n) (K : Run Z EL p e below s n0 fc fs Q (T.setTop (mkF m n ls (.int (u &&& v) :: st)))) : Run Z EL p e below s n0 fc fs Q (T.setTop (mkF m pc ls (.int v :: .int u :: st))) := by
  subst hn; exact K.st fun _ k => XS.iand X.hr X.x rfl (X.dc hd) rfl k
theorem land (X : Sd kn Z a0 EL y bytes maxL ret p l e R s m args below meth c n0 sf h kc ks T) {pc n : Nat} {ls : Array Slot} {st : List Value} {u v : Int64} (hd : decode bytes pc = .ok (.land, 1)) (hn : pc + 1 = n) (K : Run Z EL p e below s n0 fc fs Q (T.setTop (mkF m n ls (.long (u &&& v) :: st)))) : Run Z EL p e below s n0 fc fs Q (T.setTop (mkF m pc ls (.long v :: .long u :: st))) := by
  subst hn; exact K.st fun _ k => XS.land X.hr X.x rfl (X.dc hd) rfl k
theorem ior (X : Sd kn Z a0 EL y bytes maxL ret p l e R s m args below meth c n0 sf h kc ks T) {pc n : Nat} {ls : Array Slot} {st : List Value} {u v : Int32} (hd : decode bytes pc = .ok (.ior, 1)) (hn : pc + 1 = n) (K : Run Z EL p e below s n0 fc fs Q (T.setTop (mkF m n ls (.int (u ||| v) :: st)))) : Run Z EL p e below s n0 fc fs Q (T.setTop (mkF m pc ls (.int v :: .int u :: st))) := by
  subst hn; exact K.st fun _ k => XS.ior X.hr X.x rfl (X.dc hd) rfl k
theorem lor (X : Sd kn Z a0 EL y bytes maxL ret p l e R s m args below meth c n0 sf h kc ks T) {pc n : Nat} {ls : Array Slot} {st : List Value} {u v : Int64} (hd : decode bytes pc = .ok (.lor, 1)) (hn : pc + 1 = n) (K : Run Z EL p e below s n0 fc fs Q (T.setTop (mkF m n ls (.long (u ||| v) :: st)))) : Run Z EL p e below s n0 fc fs Q (T.setTop (mkF m pc ls (.long v :: .long u :: st))) := by
  subst hn; exact K.st fun _ k => XS.lor X.hr X.x rfl (X.dc hd) rfl k
theorem ixor (X : Sd kn Z a0 EL y bytes maxL ret p l e R s m args below meth c n0 sf h kc ks T) {pc n : Nat} {ls : Array Slot} {st : List Value} {u v : Int32} (hd : decode bytes pc = .ok (.ixor, 1)) (hn : pc + 1 = n) (K : Run Z EL p e below s n0 fc fs Q (T.setTop (mkF m n ls (.int (u ^^^ v) :: st)))) : Run Z EL p e below s n0 fc fs Q (T.setTop (mkF m pc ls (.int v :: .int u :: st))) := by
  subst hn; exact K.st fun _ k => XS.ixor X.hr X.x rfl (X.dc hd) rfl k
theorem lxor (X : Sd kn Z a0 EL y bytes maxL ret p l e R s m args below meth c n0 sf h kc ks T) {pc n : Nat} {ls : Array Slot} {st : List Value} {u v : Int64} (hd : decode bytes pc = .ok (.lxor, 1)) (hn : pc + 1 = n) (K : Run Z EL p e below s n0 fc fs Q (T.setTop (mkF m n ls (.long (u ^^^ v) :: st)))) : Run Z EL p e below s n0 fc fs Q (T.setTop (mkF m pc ls (.long v :: .long u :: st))) := by
  subst hn; exact K.st fun _ k => XS.lxor X.hr X.x rfl (X.dc hd) rfl k
theorem ishl (X : Sd kn Z a0 EL y bytes maxL ret p l e R s m args below meth c n0 sf h kc ks T) {pc n : Nat} {ls : Array Slot} {st : List Value} {u v : Int32} (hd : decode bytes pc = .ok (.ishl, 1)) (hn : pc + 1 = n) (K : Run Z EL p e below s n0 fc fs Q (T.setTop (mkF m n ls (.int (u <<< (v &&& 31)) :: st)))) : Run Z EL p e below s n0 fc fs Q (T.setTop (mkF m pc ls (.int v :: .int u :: st))) := by
  subst hn; exact K.st fun _ k => XS.ishl X.hr X.x rfl (X.dc hd) rfl k
theorem ishr (X : Sd kn Z a0 EL y bytes maxL ret p l e R s m args below meth c n0 sf h kc ks T) {pc n : Nat} {ls : Array Slot} {st : List Value} {u v : Int32} (hd : decode bytes pc = .ok (.ishr, 1)) (hn : pc + 1 = n) (K : Run Z EL p e below s n0 fc fs Q (T.setTop (mkF m n ls (.int (u >>> (v &&& 31)) :: st)))) : Run Z EL p e below s n0 fc fs Q (T.setTop (mkF m pc ls (.int v :: .int u :: st))) := by
  subst hn; exact K.st fun _ k => XS.ishr X.hr X.x rfl (X.dc hd) rfl k
theorem iushr (X : Sd kn Z a0 EL y bytes maxL ret p l e R s m args below meth c n0 sf h kc ks T) {pc n : Nat} {ls : Array Slot} {st : List Value} {u v : Int32} (hd : decode bytes pc = .ok (.iushr, 1)) (hn : pc + 1 = n) (K : Run Z EL p e below s n0 fc fs Q (T.setTop (mkF m n ls (.int ((u.toUInt32 >>> (v &&& 31).toUInt32).toInt32) :: st)))) : Run Z EL p e below s n0 fc fs Q (T.setTop (mkF m pc ls (.int v :: .int u :: st))) := by
  subst hn; exact K.st fun _ k => XS.iushr X.hr X.x rfl (X.dc hd) rfl k
theorem lshl (X : Sd kn Z a0 EL y bytes maxL ret p l e R s m args below meth c n0 sf h kc ks T) {pc n : Nat} {ls : Array Slot} {st : List Value} {u : Int64} {v : Int32} (hd : decode bytes pc = .ok (.lshl, 1)) (hn : pc + 1 = n) (K : Run Z EL p e below s n0 fc fs Q (T.setTop (mkF m n ls (.long (u <<< (v &&& 0x3f).toInt64) :: st)))) : Run Z EL p e below s n0 fc fs Q (T.setTop (mkF m pc ls (.int v :: .long u :: st))) := by
  subst hn; exact K.st fun _ k => XS.lshl X.hr X.x rfl (X.dc hd) rfl k
theorem lshr (X : Sd kn Z a0 EL y bytes maxL ret p l e R s m args below meth c n0 sf h kc ks T) {pc n : Nat} {ls : Array Slot} {st : List Value} {u : Int64} {v : Int32} (hd : decode bytes pc = .ok (.lshr, 1)) (hn : pc + 1 = n) (K : Run Z EL p e below s n0 fc fs Q (T.setTop (mkF m n ls (.long (u >>> (v &&& 0x3f).toInt64) :: st)))) : Run Z EL p e below s n0 fc fs Q (T.setTop (mkF m pc ls (.int v :: .long u :: st))) := by
  subst hn; exact K.st fun _ k => XS.lshr X.hr X.x rfl (X.dc hd) rfl k
theorem lushr (X : Sd kn Z a0 EL y bytes maxL ret p l e R s m args below meth c n0 sf h kc ks T) {pc n : Nat} {ls : Array Slot} {st : List Value} {u : Int64} {v : Int32} (hd : decode bytes pc = .ok (.lushr, 1)) (hn : pc + 1 = n) (K : Run Z EL p e below s n0 fc fs Q (T.setTop (mkF m n ls (.long ((u.toUInt64 >>> (v &&& 0x3f).toInt64.toUInt64).toInt64) :: st)))) : Run Z EL p e below s n0 fc fs Q (T.setTop (mkF m pc ls (.int v :: .long u :: st))) := by
  subst hn; exact K.st fun _ k => XS.lushr X.hr X.x rfl (X.dc hd) rfl k
theorem ineg (X : Sd kn Z a0 EL y bytes maxL ret p l e R s m args below meth c n0 sf h kc ks T) {pc n : Nat} {ls : Array Slot} {st : List Value} {u : Int32} (hd : decode bytes pc = .ok (.ineg, 1)) (hn : pc + 1 = n) (K : Run Z EL p e below s n0 fc fs Q (T.setTop (mkF m n ls (.int (-u) :: st)))) : Run Z EL p e below s n0 fc fs Q (T.setTop (mkF m pc ls (.int u :: st))) := by
  subst hn; exact K.st fun _ k => XS.ineg X.hr X.x rfl (X.dc hd) rfl k
theorem i2l (X : Sd kn Z a0 EL y bytes maxL ret p l e R s m args below meth c n0 sf h kc ks T) {pc n : Nat} {ls : Array Slot} {st : List Value} {u : Int32} (hd : decode bytes pc = .ok (.i2l, 1)) (hn : pc + 1 = n) (K : Run Z EL p e below s n0 fc fs Q (T.setTop (mkF m n ls (.long u.toInt64 :: st)))) : Run Z EL p e below s n0 fc fs Q (T.setTop (mkF m pc ls (.int u :: st))) := by
  subst hn; exact K.st fun _ k => XS.i2l X.hr X.x rfl (X.dc hd) rfl k
theorem l2i (X : Sd kn Z a0 EL y bytes maxL ret p l e R s m args below meth c n0 sf h kc ks T) {pc n : Nat} {ls : Array Slot} {st : List Value} {u : Int64} (hd : decode bytes pc = .ok (.l2i, 1)) (hn : pc + 1 = n) (K : Run Z EL p e below s n0 fc fs Q (T.setTop (mkF m n ls (.int u.toInt32 :: st)))) : Run Z EL p e below s n0 fc fs Q (T.setTop (mkF m pc ls (.long u :: st))) := by
  subst hn; exact K.st fun _ k => XS.l2i X.hr X.x rfl (X.dc hd) rfl k
theorem i2b (X : Sd kn Z a0 EL y bytes maxL ret p l e R s m args below meth c n0 sf h kc ks T) {pc n : Nat} {ls : Array Slot} {st : List Value} {u : Int32} (hd : decode bytes pc = .ok (.i2b, 1)) (hn : pc + 1 = n) (K : Run Z EL p e below s n0 fc fs Q (T.setTop (mkF m n ls (.int u.toInt8.toInt32 :: st)))) : Run Z EL p e below s n0 fc fs Q (T.setTop (mkF m pc ls (.int u :: st))) := by
  subst hn; exact K.st fun _ k => XS.i2b X.hr X.x rfl (X.dc hd) rfl k
theorem i2s (X : Sd kn Z a0 EL y bytes maxL ret p l e R s m args below meth c n0 sf h kc ks T) {pc n : Nat} {ls : Array Slot} {st : List Value} {u : Int32} (hd : decode bytes pc = .ok (.i2s, 1)) (hn : pc + 1 = n) (K : Run Z EL p e below s n0 fc fs Q (T.setTop (mkF m n ls (.int u.toInt16.toInt32 :: st)))) : Run Z EL p e below s n0 fc fs Q (T.setTop (mkF m pc ls (.int u :: st))) := by
  subst hn; exact K.st fun _ k => XS.i2s X.hr X.x rfl (X.dc hd) rfl k
theorem i2c (X : Sd kn Z a0 EL y bytes maxL ret p l e R s m args below meth c n0 sf h kc ks T) {pc n : Nat} {ls : Array Slot} {st : List Value} {u : Int32} (hd : decode bytes pc = .ok (.i2c, 1)) (hn : pc + 1 = n) (K : Run Z EL p e below s n0 fc fs Q (T.setTop (mkF m n ls (.int u.toUInt32.toUInt16.toUInt32.toInt32 :: st)))) : Run Z EL p e below s n0 fc fs Q (T.setTop (mkF m pc ls (.int u :: st))) := by
  subst hn; exact K.st fun _ k => XS.i2c X.hr X.x rfl (X.dc hd) rfl k
theorem lcmp (X : Sd kn Z a0 EL y bytes maxL ret p l e R s m args below meth c n0 sf h kc ks T) {pc n : Nat} {ls : Array Slot} {st : List Value} {u v : Int64} (hd : decode bytes pc = .ok (.lcmp, 1)) (hn : pc + 1 = n) (K : Run Z EL p e below s n0 fc fs Q (T.setTop (mkF m n ls (.int (lcmpW u v) :: st)))) : Run Z EL p e below s n0 fc fs Q (T.setTop (mkF m pc ls (.long v :: .long u :: st))) := by
  subst hn; exact K.st fun _ k => XS.lcmp X.hr X.x rfl (X.dc hd) rfl k
theorem irem (X : Sd kn Z a0 EL y bytes maxL ret p l e R s m args below meth c n0 sf h kc ks T) {pc n : Nat} {ls : Array Slot} {st : List Value} {u v : Int32} (hd : decode bytes pc = .ok (.irem, 1)) (hv : v ≠ 0) (hn : pc + 1 = n) (K : Run Z EL p e below s n0 fc fs Q (T.setTop (mkF m n ls (.int (u % v) :: st)))) : Run Z EL p e below s n0 fc fs Q (T.setTop (mkF m pc ls (.int v :: .int u :: st))) := by
  subst hn; obtain ⟨s', L, i, j, Y, -⟩ := X.op; exact K.st fun _ k => iremM Y X.x rfl (X.dc hd) rfl hv k
theorem idiv (X : Sd kn Z a0 EL y bytes maxL ret p l e R s m args below meth c n0 sf h kc ks T) {pc n : Nat} {ls : Array Slot} {st : List Value} {u v : Int32} (hd : decode bytes pc = .ok (.idiv, 1)) (hv : v ≠ 0) (hn : pc + 1 = n) (K : Run Z EL p e below s n0 fc fs Q (T.setTop (mkF m n ls (.int (u / v) :: st)))) : Run Z EL p e below s n0 fc fs Q (T.setTop (mkF m pc ls (.int v :: .int u :: st))) := by
  subst hn; exact K.st fun _ k => XS.idiv X.hr X.x rfl (X.dc hd) rfl hv k
theorem dup (X : Sd kn Z a0 EL y bytes maxL ret p l e R s m args below meth c n0 sf h kc ks T) {pc n : Nat} {ls : Array Slot} {st : List Value} {v : Value} (hd : decode bytes pc = .ok (.dup, 1)) (hc : v.category = 1) (hn : pc + 1 = n) (K : Run Z EL p e below s n0 fc fs Q (T.setTop (mkF m n ls (v :: v :: st)))) : Run Z EL p e below s n0 fc fs Q (T.setTop (mkF m pc ls (v :: st))) := by
  subst hn; exact K.st fun _ k => XS.dup X.hr X.x rfl (X.dc hd) rfl hc k
theorem pop (X : Sd kn Z a0 EL y bytes maxL ret p l e R s m args below meth c n0 sf h kc ks T) {pc n : Nat} {ls : Array Slot} {st : List Value} {v : Value} (hd : decode bytes pc = .ok (.pop, 1)) (hc : v.category = 1) (hn : pc + 1 = n) (K : Run Z EL p e below s n0 fc fs Q (T.setTop (mkF m n ls st))) : Run Z EL p e below s n0 fc fs Q (T.setTop (mkF m pc ls (v :: st))) := by
  subst hn; exact K.st fun _ k => XS.pop X.hr X.x rfl (X.dc hd) rfl hc k
theorem dupX1 (X : Sd kn Z a0 EL y bytes maxL ret p l e R s m args below meth c n0 sf h kc ks T) {pc n : Nat} {ls : Array Slot} {st : List Value} {u v : Value} (hd : decode bytes pc = .ok (.dup_x1, 1)) (hc : u.category = 1) (hc' : v.category = 1) (hn : pc + 1 = n) (K : Run Z EL p e below s n0 fc fs Q (T.setTop (mkF m n ls (u :: v :: u :: st)))) : Run Z EL p e below s n0 fc fs Q (T.setTop (mkF m pc ls (u :: v :: st))) := by
  subst hn; exact K.st fun _ k => XS.dupX1 X.hr X.x rfl (X.dc hd) rfl hc hc' k
theorem iinc (X : Sd kn Z a0 EL y bytes maxL ret p l e R s m args below meth c n0 sf h kc ks T) {pc n j : Nat} {ls l' : Array Slot} {st : List Value} {i : Int} {z v u : Int32} (hd : decode bytes pc = .ok (.iinc j i, 3)) (hz : Int32.ofInt i = z) (hl : ls[j]? = some (.val (.int v))) (hu : v + z = u) (hl' : storeLocals ls j (.int u) = some l') (hn : pc + 3 = n) (K : Run Z EL p e below s n0 fc fs Q (T.setTop (mkF m n l' st))) : Run Z EL p e below s n0 fc fs Q (T.setTop (mkF m pc ls st)) := by
  subst hn hz hu; exact K.st fun _ k => XS.iinc X.hr X.x rfl (X.dc hd) hl hl' k
theorem ldc (X : Sd kn Z a0 EL y bytes maxL ret p l e R s m args below meth c n0 sf h kc ks T) {pc n index : Nat} {ls : Array Slot} {st : List Value} {v : Int32} (hd : decode bytes pc = .ok (.ldc index, 2)) (w : (Cond.constant y.cls index v).before a0 Z = true) (hn : pc + 2 = n) (K : Run Z EL p e below s n0 fc fs Q (T.setTop (mkF m n ls (.int v :: st)))) : Run Z EL p e below s n0 fc fs Q (T.setTop (mkF m pc ls st)) := by
  subst hn; obtain ⟨s', L, i, j, Y, r1, hZ, hown, -⟩ := X.op; exact K.st fun _ k => Y.ldcInt X.x hown (mvT hZ w) (g := mkF m pc ls st) rfl (X.dc hd) _ k
theorem ldc2 (X : Sd kn Z a0 EL y bytes maxL ret p l e R s m args below meth c n0 sf h kc ks T) {pc n index : Nat} {ls : Array Slot} {st : List Value} {v : Int64} (hd : decode bytes pc = .ok (.ldc2_w index, 3)) (w : (Cond.constantLong y.cls index v).before a0 Z = true) (hn : pc + 3 = n) (K : Run Z EL p e below s n0 fc fs Q (T.setTop (mkF m n ls (.long v :: st)))) : Run Z EL p e below s n0 fc fs Q (T.setTop (mkF m pc ls st)) := by
  subst hn; obtain ⟨s', L, i, j, Y, r1, hZ, hown, -⟩ := X.op; exact K.st fun _ k => Y.ldc2Long X.x hown (mvT hZ w) (g := mkF m pc ls st) rfl (X.dc hd) _ k
theorem goto (X : Sd kn Z a0 EL y bytes maxL ret p l e R s m args below meth c n0 sf h kc ks T) {pc n : Nat} {ls : Array Slot} {st : List Value} {o : Int} (hd : decode bytes pc = .ok (.goto o, 3)) (ho : 0 ≤ (pc : Int) + o) (hn : ((pc : Int) + o).toNat = n) (K : Run Z EL p e below s n0 fc fs Q (T.setTop (mkF m n ls st))) : Run Z EL p e below s n0 fc fs Q (T.setTop (mkF m pc ls st)) := K.st fun _ k => XS.goto X.hr X.x rfl rfl (X.dc hd) ho hn k
theorem ifc (X : Sd kn Z a0 EL y bytes maxL ret p l e R s m args below meth c n0 sf h kc ks T) {pc n1 n2 : Nat} {ls : Array Slot} {st : List Value} {cd : ClassFile.Cond} {x : Int32} {o : Int} (hd : decode bytes pc = .ok (.ifCond cd o, 3)) (ho : 0 ≤ (pc : Int) + o) (h1 : ((pc : Int) + o).toNat = n1) (h2 : pc + 3 = n2) (K1 : ifCond.holds cd x = true → Run Z EL p e below s n0 fc fs Q (T.setTop (mkF m n1 ls st))) (K2 : ifCond.holds cd x = false → Run Z EL p e below s n0 fc fs Q (T.setTop (mkF m n2 ls st))) : Run Z EL p e below s n0 fc fs Q (T.setTop (mkF m pc ls (.int x :: st))) := by
  cases hq : ifCond.holds cd x with
  | true => exact (K1 hq).st fun _ k => XS.ifYes X.hr X.x rfl rfl (X.dc hd) rfl hq ho h1 k
  | false => subst h2; exact (K2 hq).st fun _ k => XS.ifNo X.hr X.x rfl (X.dc hd) rfl hq k
theorem icc (X : Sd kn Z a0 EL y bytes maxL ret p l e R s m args below meth c n0 sf h kc ks T) {pc n1 n2 : Nat} {ls : Array Slot} {st : List Value} {cd : ClassFile.Cond} {x v : Int32} {o : Int} (hd : decode bytes pc = .ok (.if_icmp cd o, 3)) (ho : 0 ≤ (pc : Int) + o) (h1 : ((pc : Int) + o).toNat = n1) (h2 : pc + 3 = n2) (K1 : if_icmp.holds cd x v = true → Run Z EL p e below s n0 fc fs Q (T.setTop (mkF m n1 ls st))) (K2 : if_icmp.holds cd x v = false → Run Z EL p e below s n0 fc fs Q (T.setTop (mkF m n2 ls st))) : Run Z EL p e below s n0 fc fs Q (T.setTop (mkF m pc ls (.int v :: .int x :: st))) := by
  cases hq : if_icmp.holds cd x v with
  | true => exact (K1 hq).st fun _ k => XS.icmpYes X.hr X.x rfl rfl (X.dc hd) rfl hq ho h1 k
  | false => subst h2; exact (K2 hq).st fun _ k => XS.icmpNo X.hr X.x rfl (X.dc hd) rfl hq k
theorem ic_eq (X : Sd kn Z a0 EL y bytes maxL ret p l e R s m args below meth c n0 sf h kc ks T) {pc n1 n2 : Nat} {ls : Array Slot} {st : List Value} {x v : Int32} {o : Int} (hd : decode bytes pc = .ok (.if_icmp .eq o, 3)) (ho : 0 ≤ (pc : Int) + o) (h1 : ((pc : Int) + o).toNat = n1) (h2 : pc + 3 = n2) (K1 : x = v → Run Z EL p e below s n0 fc fs Q (T.setTop (mkF m n1 ls st))) (K2 : ¬ x = v → Run Z EL p e below s n0 fc fs Q (T.setTop (mkF m n2 ls st))) : Run Z EL p e below s n0 fc fs Q (T.setTop (mkF m pc ls (.int v :: .int x :: st))) := by
  exact icc X hd ho h1 h2 (fun hq => K1 (Classical.byContradiction fun w => by rw [(feq w).1] at hq; cases hq)) (fun hq => K2 (fun w => by rw [(teq w).1] at hq; cases hq))
theorem if_eq (X : Sd kn Z a0 EL y bytes maxL ret p l e R s m args below meth c n0 sf h kc ks T) {pc n1 n2 : Nat} {ls : Array Slot} {st : List Value} {x : Int32} {o : Int} (hd : decode bytes pc = .ok (.ifCond .eq o, 3)) (ho : 0 ≤ (pc : Int) + o) (h1 : ((pc : Int) + o).toNat = n1) (h2 : pc + 3 = n2) (K1 : x = 0 → Run Z EL p e below s n0 fc fs Q (T.setTop (mkF m n1 ls st))) (K2 : ¬ x = 0 → Run Z EL p e below s n0 fc fs Q (T.setTop (mkF m n2 ls st))) : Run Z EL p e below s n0 fc fs Q (T.setTop (mkF m pc ls (.int x :: st))) := by
  exact ifc X hd ho h1 h2 (fun hq => by rw [if0] at hq; exact K1 (Classical.byContradiction fun w => by rw [(feq w).1] at hq; cases hq)) (fun hq => by rw [if0] at hq; exact K2 (fun w => by rw [(teq w).1] at hq; cases hq))
theorem ic_ne (X : Sd kn Z a0 EL y bytes maxL ret p l e R s m args below meth c n0 sf h kc ks T) {pc n1 n2 : Nat} {ls : Array Slot} {st : List Value} {x v : Int32} {o : Int} (hd : decode bytes pc = .ok (.if_icmp .ne o, 3)) (ho : 0 ≤ (pc : Int) + o) (h1 : ((pc : Int) + o).toNat = n1) (h2 : pc + 3 = n2) (K1 : ¬ x = v → Run Z EL p e below s n0 fc fs Q (T.setTop (mkF m n1 ls st))) (K2 : x = v → Run Z EL p e below s n0 fc fs Q (T.setTop (mkF m n2 ls st))) : Run Z EL p e below s n0 fc fs Q (T.setTop (mkF m pc ls (.int v :: .int x :: st))) := by
  exact icc X hd ho h1 h2 (fun hq => K1 (fun w => by rw [(teq w).2] at hq; cases hq)) (fun hq => K2 (Classical.byContradiction fun w => by rw [(feq w).2] at hq; cases hq))
theorem if_ne (X : Sd kn Z a0 EL y bytes maxL ret p l e R s m args below meth c n0 sf h kc ks T) {pc n1 n2 : Nat} {ls : Array Slot} {st : List Value} {x : Int32} {o : Int} (hd : decode bytes pc = .ok (.ifCond .ne o, 3)) (ho : 0 ≤ (pc : Int) + o) (h1 : ((pc : Int) + o).toNat = n1) (h2 : pc + 3 = n2) (K1 : ¬ x = 0 → Run Z EL p e below s n0 fc fs Q (T.setTop (mkF m n1 ls st))) (K2 : x = 0 → Run Z EL p e below s n0 fc fs Q (T.setTop (mkF m n2 ls st))) : Run Z EL p e below s n0 fc fs Q (T.setTop (mkF m pc ls (.int x :: st))) := by
  exact ifc X hd ho h1 h2 (fun hq => by rw [if0] at hq; exact K1 (fun w => by rw [(teq w).2] at hq; cases hq)) (fun hq => by rw [if0] at hq; exact K2 (Classical.byContradiction fun w => by rw [(feq w).2] at hq; cases hq))
theorem ic_lt (X : Sd kn Z a0 EL y bytes maxL ret p l e R s m args below meth c n0 sf h kc ks T) {pc n1 n2 : Nat} {ls : Array Slot} {st : List Value} {x v : Int32} {o : Int} (hd : decode bytes pc = .ok (.if_icmp .lt o, 3)) (ho : 0 ≤ (pc : Int) + o) (h1 : ((pc : Int) + o).toNat = n1) (h2 : pc + 3 = n2) (K1 : x < v → Run Z EL p e below s n0 fc fs Q (T.setTop (mkF m n1 ls st))) (K2 : ¬ x < v → Run Z EL p e below s n0 fc fs Q (T.setTop (mkF m n2 ls st))) : Run Z EL p e below s n0 fc fs Q (T.setTop (mkF m pc ls (.int v :: .int x :: st))) := by
  exact icc X hd ho h1 h2 (fun hq => K1 (Classical.byContradiction fun w => by rw [(flt w).1] at hq; cases hq)) (fun hq => K2 (fun w => by rw [(tlt w).1] at hq; cases hq))
theorem if_lt (X : Sd kn Z a0 EL y bytes maxL ret p l e R s m args below meth c n0 sf h kc ks T) {pc n1 n2 : Nat} {ls : Array Slot} {st : List Value} {x : Int32} {o : Int} (hd : decode bytes pc = .ok (.ifCond .lt o, 3)) (ho : 0 ≤ (pc : Int) + o) (h1 : ((pc : Int) + o).toNat = n1) (h2 : pc + 3 = n2) (K1 : x < 0 → Run Z EL p e below s n0 fc fs Q (T.setTop (mkF m n1 ls st))) (K2 : ¬ x < 0 → Run Z EL p e below s n0 fc fs Q (T.setTop (mkF m n2 ls st))) : Run Z EL p e below s n0 fc fs Q (T.setTop (mkF m pc ls (.int x :: st))) := by
  exact ifc X hd ho h1 h2 (fun hq => by rw [if0] at hq; exact K1 (Classical.byContradiction fun w => by rw [(flt w).1] at hq; cases hq)) (fun hq => by rw [if0] at hq; exact K2 (fun w => by rw [(tlt w).1] at hq; cases hq))
theorem ic_ge (X : Sd kn Z a0 EL y bytes maxL ret p l e R s m args below meth c n0 sf h kc ks T) {pc n1 n2 : Nat} {ls : Array Slot} {st : List Value} {x v : Int32} {o : Int} (hd : decode bytes pc = .ok (.if_icmp .ge o, 3)) (ho : 0 ≤ (pc : Int) + o) (h1 : ((pc : Int) + o).toNat = n1) (h2 : pc + 3 = n2) (K1 : ¬ x < v → Run Z EL p e below s n0 fc fs Q (T.setTop (mkF m n1 ls st))) (K2 : x < v → Run Z EL p e below s n0 fc fs Q (T.setTop (mkF m n2 ls st))) : Run Z EL p e below s n0 fc fs Q (T.setTop (mkF m pc ls (.int v :: .int x :: st))) := by
  exact icc X hd ho h1 h2 (fun hq => K1 (fun w => by rw [(tlt w).2.1] at hq; cases hq)) (fun hq => K2 (Classical.byContradiction fun w => by rw [(flt w).2.1] at hq; cases hq))
theorem if_ge (X : Sd kn Z a0 EL y bytes maxL ret p l e R s m args below meth c n0 sf h kc ks T) {pc n1 n2 : Nat} {ls : Array Slot} {st : List Value} {x : Int32} {o : Int} (hd : decode bytes pc = .ok (.ifCond .ge o, 3)) (ho : 0 ≤ (pc : Int) + o) (h1 : ((pc : Int) + o).toNat = n1) (h2 : pc + 3 = n2) (K1 : ¬ x < 0 → Run Z EL p e below s n0 fc fs Q (T.setTop (mkF m n1 ls st))) (K2 : x < 0 → Run Z EL p e below s n0 fc fs Q (T.setTop (mkF m n2 ls st))) : Run Z EL p e below s n0 fc fs Q (T.setTop (mkF m pc ls (.int x :: st))) := by
  exact ifc X hd ho h1 h2 (fun hq => by rw [if0] at hq; exact K1 (fun w => by rw [(tlt w).2.1] at hq; cases hq)) (fun hq => by rw [if0] at hq; exact K2 (Classical.byContradiction fun w => by rw [(flt w).2.1] at hq; cases hq))
theorem ic_gt (X : Sd kn Z a0 EL y bytes maxL ret p l e R s m args below meth c n0 sf h kc ks T) {pc n1 n2 : Nat} {ls : Array Slot} {st : List Value} {x v : Int32} {o : Int} (hd : decode bytes pc = .ok (.if_icmp .gt o, 3)) (ho : 0 ≤ (pc : Int) + o) (h1 : ((pc : Int) + o).toNat = n1) (h2 : pc + 3 = n2) (K1 : v < x → Run Z EL p e below s n0 fc fs Q (T.setTop (mkF m n1 ls st))) (K2 : ¬ v < x → Run Z EL p e below s n0 fc fs Q (T.setTop (mkF m n2 ls st))) : Run Z EL p e below s n0 fc fs Q (T.setTop (mkF m pc ls (.int v :: .int x :: st))) := by
  exact icc X hd ho h1 h2 (fun hq => K1 (Classical.byContradiction fun w => by rw [(flt w).2.2.1] at hq; cases hq)) (fun hq => K2 (fun w => by rw [(tlt w).2.2.1] at hq; cases hq))
theorem if_gt (X : Sd kn Z a0 EL y bytes maxL ret p l e R s m args below meth c n0 sf h kc ks T) {pc n1 n2 : Nat} {ls : Array Slot} {st : List Value} {x : Int32} {o : Int} (hd : decode bytes pc = .ok (.ifCond .gt o, 3)) (ho : 0 ≤ (pc : Int) + o) (h1 : ((pc : Int) + o).toNat = n1) (h2 : pc + 3 = n2) (K1 : 0 < x → Run Z EL p e below s n0 fc fs Q (T.setTop (mkF m n1 ls st))) (K2 : ¬ 0 < x → Run Z EL p e below s n0 fc fs Q (T.setTop (mkF m n2 ls st))) : Run Z EL p e below s n0 fc fs Q (T.setTop (mkF m pc ls (.int x :: st))) := by
  exact ifc X hd ho h1 h2 (fun hq => by rw [if0] at hq; exact K1 (Classical.byContradiction fun w => by rw [(flt w).2.2.1] at hq; cases hq)) (fun hq => by rw [if0] at hq; exact K2 (fun w => by rw [(tlt w).2.2.1] at hq; cases hq))
theorem ic_le (X : Sd kn Z a0 EL y bytes maxL ret p l e R s m args below meth c n0 sf h kc ks T) {pc n1 n2 : Nat} {ls : Array Slot} {st : List Value} {x v : Int32} {o : Int} (hd : decode bytes pc = .ok (.if_icmp .le o, 3)) (ho : 0 ≤ (pc : Int) + o) (h1 : ((pc : Int) + o).toNat = n1) (h2 : pc + 3 = n2) (K1 : ¬ v < x → Run Z EL p e below s n0 fc fs Q (T.setTop (mkF m n1 ls st))) (K2 : v < x → Run Z EL p e below s n0 fc fs Q (T.setTop (mkF m n2 ls st))) : Run Z EL p e below s n0 fc fs Q (T.setTop (mkF m pc ls (.int v :: .int x :: st))) := by
  exact icc X hd ho h1 h2 (fun hq => K1 (fun w => by rw [(tlt w).2.2.2] at hq; cases hq)) (fun hq => K2 (Classical.byContradiction fun w => by rw [(flt w).2.2.2] at hq; cases hq))
theorem if_le (X : Sd kn Z a0 EL y bytes maxL ret p l e R s m args below meth c n0 sf h kc ks T) {pc n1 n2 : Nat} {ls : Array Slot} {st : List Value} {x : Int32} {o : Int} (hd : decode bytes pc = .ok (.ifCond .le o, 3)) (ho : 0 ≤ (pc : Int) + o) (h1 : ((pc : Int) + o).toNat = n1) (h2 : pc + 3 = n2) (K1 : ¬ 0 < x → Run Z EL p e below s n0 fc fs Q (T.setTop (mkF m n1 ls st))) (K2 : 0 < x → Run Z EL p e below s n0 fc fs Q (T.setTop (mkF m n2 ls st))) : Run Z EL p e below s n0 fc fs Q (T.setTop (mkF m pc ls (.int x :: st))) := by
  exact ifc X hd ho h1 h2 (fun hq => by rw [if0] at hq; exact K1 (fun w => by rw [(tlt w).2.2.2] at hq; cases hq)) (fun hq => by rw [if0] at hq; exact K2 (Classical.byContradiction fun w => by rw [(flt w).2.2.2] at hq; cases hq))
theorem ifnull_y (X : Sd kn Z a0 EL y bytes maxL ret p l e R s m args below meth c n0 sf h kc ks T) {pc n1 : Nat} {ls : Array Slot} {st : List Value} {o : Int} (hd : decode bytes pc = .ok (.ifnull o, 3)) (ho : 0 ≤ (pc : Int) + o) (h1 : ((pc : Int) + o).toNat = n1) (K : Run Z EL p e below s n0 fc fs Q (T.setTop (mkF m n1 ls st))) : Run Z EL p e below s n0 fc fs Q (T.setTop (mkF m pc ls (.null :: st))) := K.st fun _ k => XS.ifnullYes X.hr X.x rfl rfl (X.dc hd) rfl ho h1 k
theorem ifnull_n (X : Sd kn Z a0 EL y bytes maxL ret p l e R s m args below meth c n0 sf h kc ks T) {pc n2 : Nat} {ls : Array Slot} {st : List Value} {o : Int} {a : Addr} (hd : decode bytes pc = .ok (.ifnull o, 3)) (h2 : pc + 3 = n2) (K : Run Z EL p e below s n0 fc fs Q (T.setTop (mkF m n2 ls st))) : Run Z EL p e below s n0 fc fs Q (T.setTop (mkF m pc ls (.ref a :: st))) := by
  subst h2; exact K.st fun _ k => XS.ifnullNo X.hr X.x rfl (X.dc hd) rfl k
theorem ifnonnull_y (X : Sd kn Z a0 EL y bytes maxL ret p l e R s m args below meth c n0 sf h kc ks T) {pc n1 : Nat} {ls : Array Slot} {st : List Value} {o : Int} {a : Addr} (hd : decode bytes pc = .ok (.ifnonnull o, 3)) (ho : 0 ≤ (pc : Int) + o) (h1 : ((pc : Int) + o).toNat = n1) (K : Run Z EL p e below s n0 fc fs Q (T.setTop (mkF m n1 ls st))) : Run Z EL p e below s n0 fc fs Q (T.setTop (mkF m pc ls (.ref a :: st))) := K.st fun _ k => XS.ifnonnullYes X.hr X.x rfl rfl (X.dc hd) rfl ho h1 k
theorem ifnonnull_n (X : Sd kn Z a0 EL y bytes maxL ret p l e R s m args below meth c n0 sf h kc ks T) {pc n2 : Nat} {ls : Array Slot} {st : List Value} {o : Int} (hd : decode bytes pc = .ok (.ifnonnull o, 3)) (h2 : pc + 3 = n2) (K : Run Z EL p e below s n0 fc fs Q (T.setTop (mkF m n2 ls st))) : Run Z EL p e below s n0 fc fs Q (T.setTop (mkF m pc ls (.null :: st))) := by
  subst h2; exact K.st fun _ k => XS.ifnonnullNo X.hr X.x rfl (X.dc hd) rfl k
theorem ac_eq (X : Sd kn Z a0 EL y bytes maxL ret p l e R s m args below meth c n0 sf h kc ks T) {pc n1 n2 : Nat} {ls : Array Slot} {st : List Value} {x v : Value} {o : Int} (hd : decode bytes pc = .ok (.if_acmp .eq o, 3)) (hx : x.isRef = true) (hv : v.isRef = true) (ho : 0 ≤ (pc : Int) + o) (h1 : ((pc : Int) + o).toNat = n1) (h2 : pc + 3 = n2) (K1 : x = v → Run Z EL p e below s n0 fc fs Q (T.setTop (mkF m n1 ls st))) (K2 : ¬ x = v → Run Z EL p e below s n0 fc fs Q (T.setTop (mkF m n2 ls st))) : Run Z EL p e below s n0 fc fs Q (T.setTop (mkF m pc ls (v :: x :: st))) := by
  obtain ⟨s', L, i, j, Y, -⟩ := X.op
  by_cases hq : x = v
  · exact (K1 hq).st fun _ k => acmp Y X.x rfl hx hv rfl (X.dc hd) rfl (decide_eq_true hq) ho (by simp [acV, ← h1, ← h2]) k
  · exact (K2 hq).st fun _ k => acmp Y X.x rfl hx hv rfl (X.dc hd) rfl (decide_eq_false hq) ho (by simp [acV, ← h1, ← h2]) k
theorem ac_ne (X : Sd kn Z a0 EL y bytes maxL ret p l e R s m args below meth c n0 sf h kc ks T) {pc n1 n2 : Nat} {ls : Array Slot} {st : List Value} {x v : Value} {o : Int} (hd : decode bytes pc = .ok (.if_acmp .ne o, 3)) (hx : x.isRef = true) (hv : v.isRef = true) (ho : 0 ≤ (pc : Int) + o) (h1 : ((pc : Int) + o).toNat = n1) (h2 : pc + 3 = n2) (K1 : ¬ x = v → Run Z EL p e below s n0 fc fs Q (T.setTop (mkF m n1 ls st))) (K2 : x = v → Run Z EL p e below s n0 fc fs Q (T.setTop (mkF m n2 ls st))) : Run Z EL p e below s n0 fc fs Q (T.setTop (mkF m pc ls (v :: x :: st))) := by
  obtain ⟨s', L, i, j, Y, -⟩ := X.op
  by_cases hq : x = v
  · exact (K2 hq).st fun _ k => acmp Y X.x rfl hx hv rfl (X.dc hd) rfl (decide_eq_true hq) ho (by simp [acV, ← h1, ← h2]) k
  · exact (K1 hq).st fun _ k => acmp Y X.x rfl hx hv rfl (X.dc hd) rfl (decide_eq_false hq) ho (by simp [acV, ← h1, ← h2]) k
theorem getstatic (X : Sd kn Z a0 EL y bytes maxL ret p l e R s m args below meth c n0 sf h kc ks T) {pc n index : Nat} {ls : Array Slot} {st : List Value} {R0 O : String} (hd : decode bytes pc = .ok (.getstatic index, 3)) (w : (Cond.fieldLink y.cls index R0 f d).before a0 Z = true) (via : Via Z R0 O f d) (F : Sta Z h O f d v) (hn : pc + 3 = n) (K : ∀ T', Sd kn Z a0 EL y bytes maxL ret p l e R s m args below meth c n0 sf h kc ks T' → Run Z EL p e below s n0 fc fs Q (T'.setTop (mkF m n ls (v :: st)))) : Run Z EL p e below s n0 fc fs Q (T.setTop (mkF m pc ls st)) := by
  subst hn; obtain ⟨s', L', i', j', Y, r1, hZ, hown, hml, hnm, r3, r4, hx, kN, kE, kW⟩ := X.op
  obtain ⟨T', Y', e', stp⟩ := getS (host := "") Y hx hZ hown w via r1 F (g := mkF m pc ls st) rfl (X.dc hd)
  exact (K T' (kN T' Y' e')).st stp
theorem getfield (X : Sd kn Z a0 EL y bytes maxL ret p l e R s m args below meth c n0 sf h kc ks T) {pc n index : Nat} {ls : Array Slot} {st : List Value} {R0 O : String} (hd : decode bytes pc = .ok (.getfield index, 3)) (w : (Cond.fieldLink y.cls index R0 f d).before a0 Z = true) (via : Via Z R0 O f d) (F : Fld Z h a O f d v) (hn : pc + 3 = n) (K : ∀ T', Sd kn Z a0 EL y bytes maxL ret p l e R s m args below meth c n0 sf h kc ks T' → Run Z EL p e below s n0 fc fs Q (T'.setTop (mkF m n ls (v :: st)))) : Run Z EL p e below s n0 fc fs Q (T.setTop (mkF m pc ls (.ref a :: st))) := by
  subst hn; obtain ⟨s', L', i', j', Y, r1, hZ, hown, hml, hnm, r3, r4, hx, kN, kE, kW⟩ := X.op
  obtain ⟨T', Y', e', stp⟩ := getF (host := "") Y hx hZ hown (Or.inl w) via r1 F (g := mkF m pc ls (.ref a :: st)) rfl rfl (X.dc hd)
  exact (K T' (kN T' Y' e')).st stp
theorem checkcast (X : Sd kn Z a0 EL y bytes maxL ret p l e R s m args below meth c n0 sf h kc ks T) {pc n index : Nat} {ls : Array Slot} {st : List Value} (hd : decode bytes pc = .ok (.checkcast index, 3)) (w : (Cond.classLink y.cls index C).before a0 Z = true) (F : Ins Z h a C true) (hn : pc + 3 = n) (K : ∀ T', Sd kn Z a0 EL y bytes maxL ret p l e R s m args below meth c n0 sf h kc ks T' → Run Z EL p e below s n0 fc fs Q (T'.setTop (mkF m n ls (.ref a :: st)))) : Run Z EL p e below s n0 fc fs Q (T.setTop (mkF m pc ls (.ref a :: st))) := by
  subst hn; obtain ⟨s', L', i', j', Y, r1, hZ, hown, hml, hnm, r3, r4, hx, kN, kE, kW⟩ := X.op
  obtain ⟨T', Y', e', stp⟩ := castY Y hx hZ hown w r1 F (g := mkF m pc ls (.ref a :: st)) rfl rfl (X.dc hd)
  exact (K T' (kN T' Y' e')).st stp
theorem checkcastNull (X : Sd kn Z a0 EL y bytes maxL ret p l e R s m args below meth c n0 sf h kc ks T) {pc n index : Nat} {ls : Array Slot} {st : List Value} (hd : decode bytes pc = .ok (.checkcast index, 3)) (hn : pc + 3 = n) (K : Run Z EL p e below s n0 fc fs Q (T.setTop (mkF m n ls (.null :: st)))) : Run Z EL p e below s n0 fc fs Q (T.setTop (mkF m pc ls (.null :: st))) := by
  subst hn; obtain ⟨s', L', i', j', Y, r1, hZ, hown, hml, hnm, r3, r4, hx, kN, kE, kW⟩ := X.op
  exact K.st fun _ k => Y.checkcastNull hx (g := mkF m pc ls (.null :: st)) rfl rfl (X.dc hd) _ k
theorem instanceofY (X : Sd kn Z a0 EL y bytes maxL ret p l e R s m args below meth c n0 sf h kc ks T) {pc n index : Nat} {ls : Array Slot} {st : List Value} (hd : decode bytes pc = .ok (.instanceof index, 3)) (w : (Cond.classLink y.cls index C).before a0 Z = true) (F : Ins Z h a C true) (hn : pc + 3 = n) (K : ∀ T', Sd kn Z a0 EL y bytes maxL ret p l e R s m args below meth c n0 sf h kc ks T' → Run Z EL p e below s n0 fc fs Q (T'.setTop (mkF m n ls (.int 1 :: st)))) : Run Z EL p e below s n0 fc fs Q (T.setTop (mkF m pc ls (.ref a :: st))) := by
  subst hn; obtain ⟨s', L', i', j', Y, r1, hZ, hown, hml, hnm, r3, r4, hx, kN, kE, kW⟩ := X.op
  obtain ⟨T', Y', e', stp⟩ := instY Y hx hZ hown w r1 F (g := mkF m pc ls (.ref a :: st)) rfl rfl (X.dc hd)
  exact (K T' (kN T' Y' e')).st stp
theorem instanceofNull (X : Sd kn Z a0 EL y bytes maxL ret p l e R s m args below meth c n0 sf h kc ks T) {pc n index : Nat} {ls : Array Slot} {st : List Value} (hd : decode bytes pc = .ok (.instanceof index, 3)) (hn : pc + 3 = n) (K : Run Z EL p e below s n0 fc fs Q (T.setTop (mkF m n ls (.int 0 :: st)))) : Run Z EL p e below s n0 fc fs Q (T.setTop (mkF m pc ls (.null :: st))) := by
  subst hn; obtain ⟨s', L', i', j', Y, r1, hZ, hown, hml, hnm, r3, r4, hx, kN, kE, kW⟩ := X.op
  exact K.st fun _ k => Y.instanceofNull hx (g := mkF m pc ls (.null :: st)) rfl rfl (X.dc hd) _ k
theorem initObj (X : Sd kn Z a0 EL y bytes maxL ret p l e R s m args below meth c n0 sf h kc ks T) {pc n index W : Nat} {ls : Array Slot} {st : List Value} (hd : decode bytes pc = .ok (.invokespecial index, 3)) (w1 : (Cond.methodLink y.cls index Lib.objectInit).before a0 Z = true) (w2 : (Cond.instanceMethod Lib.objectInit).before a0 Z = true) (w3 : (Cond.code Lib.objectInit ⟨#[0xb1]⟩ 1 none).before a0 Z = true) (hsize : ls.size = maxL) (hf : 1 ≤ R.frames) (hW : (st.map fun v => v.category).sum ≤ W) (hl : W + 12 ≤ R.locals) (hn : pc + 3 = n) (K : ∀ T', Sd kn Z a0 EL y bytes maxL ret p l e R s m args below meth c n0 sf h kc ks T' → Run Z EL p e below s n0 fc fs Q (T'.setTop (mkF m n ls st))) : Run Z EL p e below s n0 fc fs Q (T.setTop (mkF m pc ls (.ref a :: st))) := by
  subst hn; obtain ⟨s', L', i', j', Y, r1, hZ, hown, hml, hnm, r3, r4, hx, kN, kE, kW⟩ := X.op
  obtain ⟨T', Y', e', stp⟩ := initO Y hx hZ hown w1 w2 w3 r1 (g := mkF m pc ls (.ref a :: st)) rfl (by rw [hml]; exact hsize) rfl (X.dc hd) hf (W := W) (by simpa using hW) hl
  exact (K T' (kN T' Y' e')).st stp
def Ark (Z : State) (h : Heap) (a : Addr) (ty : FieldType) (vs : List Value) : Prop := ∃ c : Cell, Arr Z h a c ty ∧ c.slots = vs.toArray ∧ vs.length < 2147483648 ∧ ∀ v ∈ vs, fits ty v = true
theorem Ark.lt (A : Ark Z h a ty vs) : a < h.size := by obtain ⟨c, A, -⟩ := A; exact A.lt
theorem Ark.ext (A : Ark Z h a ty vs) (E : Ext h h') : Ark Z h' a ty vs := by obtain ⟨c, A, r⟩ := A; exact ⟨c, A.ext E, r⟩
theorem Ark.keep (A : Ark Z h a ty vs) (K : Keep h h' wl) (q : a ∉ wl) : Ark Z h' a ty vs := by obtain ⟨c, A, r⟩ := A; exact ⟨c, ⟨K.2.1 a c A.1 q, A.2⟩, r⟩
theorem Ark.len (A : Ark Z h a ty vs) : vs.length < 2147483648 := by obtain ⟨c, A, r1, r2, -⟩ := A; exact r2
theorem Ark.fit (A : Ark Z h a ty vs) : ∀ v ∈ vs, fits ty v = true := by obtain ⟨c, A, r1, r2, r3⟩ := A; exact r3
theorem Ark.ofArv {k : ClassId} {z : Int32} {dv : Value} (A : Arv Z h a k ty z vs dv) (hl : z.toNatClampNeg = vs.length) : Ark Z h a ty vs := by
  obtain ⟨c, A, q1, S, q3, H, G⟩ := A
  have hb : vs.length < 2147483648 := by rw [← hl]; exact (back32 q3).2
  have e1 : c.slots = vs.toArray := by
    apply Array.ext
    · simp [S, hl]
    · intro i h1 h2
      have q := H i h1
      rw [Array.getElem?_eq_getElem h1] at q
      have h3 : i < vs.length := by simpa using h2
      simpa [List.getD, List.getElem?_eq_getElem h3] using Option.some.inj q
  refine ⟨c, A, e1, hb, fun v hv => ?_⟩
  obtain ⟨i, hi, rfl⟩ := List.getElem_of_mem hv
  have q := G i (by rw [S, hl]; exact hi)
  simpa [List.getD, List.getElem?_eq_getElem hi] using q
theorem kExt (E : Ext h h') : Keep h h' [] := (Keep.refl h []).ext E
theorem nin1 (q : a ≠ b) : a ∉ [b] := fun z => q (List.mem_singleton.mp z)
theorem oldLe (O : Old Z n0 h) : n0 ≤ h.size := by rw [← O.1]; exact O.2.1
theorem toNatC {j : Int32} {i : Nat} (hj : j.toInt = i) : j.toNatClampNeg = i ∧ ¬ j < 0 := by
  refine ⟨by simp [Int32.toNatClampNeg, hj], fun q => ?_⟩
  have q2 := Int32.lt_iff_toInt_lt.mp q
  rw [hj] at q2
  have : (0 : Int32).toInt = 0 := rfl
  omega
theorem arkIn {c : Cell} (r1 : c.slots = vs.toArray) {j : Int32} {i : Nat} (hj : j.toInt = i) (hv : vs[i]? = some v) : ¬ (j < 0 ∨ c.slots.size ≤ j.toNatClampNeg) ∧ c.slots[j.toNatClampNeg]? = some v := by
  obtain ⟨g1, g2⟩ := toNatC hj
  obtain ⟨hi, -⟩ := List.getElem?_eq_some_iff.mp hv
  refine ⟨fun q => ?_, by rw [g1, r1]; simpa using hv⟩
  rcases q with q | q
  · exact g2 q
  · rw [g1, r1] at q; simp at q; omega
theorem iaload (X : Sd kn Z a0 EL y bytes maxL ret p l e R s m args below meth c n0 sf h kc ks T) {pc n i : Nat} {ls : Array Slot} {st : List Value} {j : Int32} (hd : decode bytes pc = .ok (.iaload, 1)) (A : Ark Z h a .int vs) (hj : j.toInt = i) (hv : vs[i]? = some v) (hn : pc + 1 = n) (K : Run Z EL p e below s n0 fc fs Q (T.setTop (mkF m n ls (v :: st)))) : Run Z EL p e below s n0 fc fs Q (T.setTop (mkF m pc ls (.int j :: .ref a :: st))) := by
  subst hn; obtain ⟨s', L', i', j', Y, r1, hZ, hown, hml, hnm, r3, r4, hx, kN, kE, kW⟩ := X.op
  obtain ⟨c', A, s1, -⟩ := A
  obtain ⟨g1, g2⟩ := arkIn s1 hj hv
  exact K.st fun _ k => Y.iaload hx (j := j) (v := v) (by rw [r1]; exact A.1) (State.isArrayOf_alike hZ.alike A.2.1) A.2.2 g1 g2 (g := mkF m pc ls (.int j :: .ref a :: st)) rfl rfl (X.dc hd) _ k
theorem caload (X : Sd kn Z a0 EL y bytes maxL ret p l e R s m args below meth c n0 sf h kc ks T) {pc n i : Nat} {ls : Array Slot} {st : List Value} {j : Int32} (hd : decode bytes pc = .ok (.caload, 1)) (A : Ark Z h a .char vs) (hj : j.toInt = i) (hv : vs[i]? = some v) (hn : pc + 1 = n) (K : Run Z EL p e below s n0 fc fs Q (T.setTop (mkF m n ls (v :: st)))) : Run Z EL p e below s n0 fc fs Q (T.setTop (mkF m pc ls (.int j :: .ref a :: st))) := by
  subst hn; obtain ⟨s', L', i', j', Y, r1, hZ, hown, hml, hnm, r3, r4, hx, kN, kE, kW⟩ := X.op
  obtain ⟨c', A, s1, -⟩ := A
  obtain ⟨g1, g2⟩ := arkIn s1 hj hv
  exact K.st fun _ k => Y.caload hx (j := j) (v := v) (by rw [r1]; exact A.1) (State.isArrayOf_alike hZ.alike A.2.1) A.2.2 g1 g2 (g := mkF m pc ls (.int j :: .ref a :: st)) rfl rfl (X.dc hd) _ k
theorem baload (X : Sd kn Z a0 EL y bytes maxL ret p l e R s m args below meth c n0 sf h kc ks T) {pc n i : Nat} {ls : Array Slot} {st : List Value} {j : Int32} (hd : decode bytes pc = .ok (.baload, 1)) (A : Ark Z h a .byte vs) (hj : j.toInt = i) (hv : vs[i]? = some v) (hn : pc + 1 = n) (K : Run Z EL p e below s n0 fc fs Q (T.setTop (mkF m n ls (v :: st)))) : Run Z EL p e below s n0 fc fs Q (T.setTop (mkF m pc ls (.int j :: .ref a :: st))) := by
  subst hn; obtain ⟨s', L', i', j', Y, r1, hZ, hown, hml, hnm, r3, r4, hx, kN, kE, kW⟩ := X.op
  obtain ⟨c', A, s1, -⟩ := A
  obtain ⟨g1, g2⟩ := arkIn s1 hj hv
  exact K.st fun _ k => Y.baloadBytes hx (j := j) (v := v) (by rw [r1]; exact A.1) (State.isArrayOf_alike hZ.alike A.2.1) A.2.2 g1 g2 (g := mkF m pc ls (.int j :: .ref a :: st)) rfl rfl (X.dc hd) _ k
theorem aaload (X : Sd kn Z a0 EL y bytes maxL ret p l e R s m args below meth c n0 sf h kc ks T) {pc n i : Nat} {ls : Array Slot} {st : List Value} {j : Int32} (hd : decode bytes pc = .ok (.aaload, 1)) (A : Ark Z h a ty vs) (ht : ty.isReference = true) (hj : j.toInt = i) (hv : vs[i]? = some v) (hn : pc + 1 = n) (K : Run Z EL p e below s n0 fc fs Q (T.setTop (mkF m n ls (v :: st)))) : Run Z EL p e below s n0 fc fs Q (T.setTop (mkF m pc ls (.int j :: .ref a :: st))) := by
  subst hn; obtain ⟨s', L', i', j', Y, r1, hZ, hown, hml, hnm, r3, r4, hx, kN, kE, kW⟩ := X.op
  obtain ⟨c', A, s1, -⟩ := A
  obtain ⟨g1, g2⟩ := arkIn s1 hj hv
  exact K.st fun _ k => Y.aaload hx (j := j) (v := v) (by rw [r1]; exact A.1) (State.isArrayOf_alike hZ.alike A.2.1) ht A.2.2 g1 g2 (g := mkF m pc ls (.int j :: .ref a :: st)) rfl rfl (X.dc hd) _ k
theorem arraylength (X : Sd kn Z a0 EL y bytes maxL ret p l e R s m args below meth c n0 sf h kc ks T) {pc n : Nat} {ls : Array Slot} {st : List Value} {z : Int32} (hd : decode bytes pc = .ok (.arraylength, 1)) (A : Ark Z h a ty vs) (hz : vs.length.toInt32 = z) (hn : pc + 1 = n) (K : Run Z EL p e below s n0 fc fs Q (T.setTop (mkF m n ls (.int z :: st)))) : Run Z EL p e below s n0 fc fs Q (T.setTop (mkF m pc ls (.ref a :: st))) := by
  subst hn hz; obtain ⟨s', L', i', j', Y, r1, hZ, hown, hml, hnm, r3, r4, hx, kN, kE, kW⟩ := X.op
  obtain ⟨c', A, s1, -⟩ := A
  have e1 : c'.slots.size = vs.length := by rw [s1]; simp
  exact K.st fun _ k => Y.arraylength hx (by rw [r1]; exact A.1) (State.isArrayOf_alike hZ.alike A.2.1) (g := mkF m pc ls (.ref a :: st)) rfl rfl (X.dc hd) _ (by rw [e1]; exact k)
theorem Ark.set {c' : Cell} (A : Arr Z h a c' ty) (s1 : c'.slots = vs.toArray) (s2 : vs.length < 2147483648) (s3 : ∀ v ∈ vs, fits ty v = true) {i : Nat} (hv : fits ty v = true) (W : Wr h h' a i v) : Ark Z h' a ty (vs.set i v) := by
  refine ⟨_, A.same W, by simp [Cell.setSlot, s1], by simpa using s2, fun u hu => ?_⟩
  rcases List.mem_or_eq_of_mem_set hu with q | q
  · exact s3 u q
  · exact q ▸ hv
theorem iastore (X : Sd kn Z a0 EL y bytes maxL ret p l e R s m args below meth c n0 sf h kc ks T) {pc n i : Nat} {ls : Array Slot} {st : List Value} {j x z : Int32} (hd : decode bytes pc = .ok (.iastore, 1)) (A : Ark Z h a .int vs) (hj : j.toInt = i) (hi : i < vs.length) (hz : x = z) (hfr : n0 ≤ a) (hs : a ∈ sf) (hn : pc + 1 = n) (K : ∀ T' h', Sd kn Z a0 EL y bytes maxL ret p l e R s m args below meth c n0 sf h' kc ks T' → Wr h h' a i (.int z) → Ark Z h' a .int (vs.set i (.int z)) → Run Z EL p e below s n0 fc fs Q (T'.setTop (mkF m n ls st))) : Run Z EL p e below s n0 fc fs Q (T.setTop (mkF m pc ls (.int x :: .int j :: .ref a :: st))) := by
  subst hn hz; obtain ⟨s', L', i', j', Y, r1, hZ, hown, hml, hnm, r3, r4, hx, kN, kE, kW⟩ := X.op
  obtain ⟨c', A, s1, s2, s3⟩ := A
  obtain ⟨g1, -⟩ := arkIn s1 hj (List.getElem?_eq_getElem hi)
  obtain ⟨T', h', Y', e', W, stp⟩ := stI Y hx hZ r1 A g1 (g := mkF m pc ls (.int x :: .int j :: .ref a :: st)) rfl rfl (X.dc hd)
  rw [(toNatC hj).1] at W Y'
  exact (K T' h' (kW T' h' a i _ hs hfr Y' e' W) W (Ark.set A s1 s2 s3 rfl W)).st stp
theorem castore (X : Sd kn Z a0 EL y bytes maxL ret p l e R s m args below meth c n0 sf h kc ks T) {pc n i : Nat} {ls : Array Slot} {st : List Value} {j x z : Int32} (hd : decode bytes pc = .ok (.castore, 1)) (A : Ark Z h a .char vs) (hj : j.toInt = i) (hi : i < vs.length) (hz : (nar .char x) = z) (hfr : n0 ≤ a) (hs : a ∈ sf) (hn : pc + 1 = n) (K : ∀ T' h', Sd kn Z a0 EL y bytes maxL ret p l e R s m args below meth c n0 sf h' kc ks T' → Wr h h' a i (.int z) → Ark Z h' a .char (vs.set i (.int z)) → Run Z EL p e below s n0 fc fs Q (T'.setTop (mkF m n ls st))) : Run Z EL p e below s n0 fc fs Q (T.setTop (mkF m pc ls (.int x :: .int j :: .ref a :: st))) := by
  subst hn hz; obtain ⟨s', L', i', j', Y, r1, hZ, hown, hml, hnm, r3, r4, hx, kN, kE, kW⟩ := X.op
  obtain ⟨c', A, s1, s2, s3⟩ := A
  obtain ⟨g1, -⟩ := arkIn s1 hj (List.getElem?_eq_getElem hi)
  obtain ⟨T', h', Y', e', W, stp⟩ := stC Y hx hZ r1 A g1 (g := mkF m pc ls (.int x :: .int j :: .ref a :: st)) rfl rfl (X.dc hd)
  rw [(toNatC hj).1] at W Y'
  exact (K T' h' (kW T' h' a i _ hs hfr Y' e' W) W (Ark.set A s1 s2 s3 (fits_nar_char _) W)).st stp
theorem bastore (X : Sd kn Z a0 EL y bytes maxL ret p l e R s m args below meth c n0 sf h kc ks T) {pc n i : Nat} {ls : Array Slot} {st : List Value} {j x z : Int32} (hd : decode bytes pc = .ok (.bastore, 1)) (A : Ark Z h a .byte vs) (hj : j.toInt = i) (hi : i < vs.length) (hz : (nar .byte x) = z) (hfr : n0 ≤ a) (hs : a ∈ sf) (hn : pc + 1 = n) (K : ∀ T' h', Sd kn Z a0 EL y bytes maxL ret p l e R s m args below meth c n0 sf h' kc ks T' → Wr h h' a i (.int z) → Ark Z h' a .byte (vs.set i (.int z)) → Run Z EL p e below s n0 fc fs Q (T'.setTop (mkF m n ls st))) : Run Z EL p e below s n0 fc fs Q (T.setTop (mkF m pc ls (.int x :: .int j :: .ref a :: st))) := by
  subst hn hz; obtain ⟨s', L', i', j', Y, r1, hZ, hown, hml, hnm, r3, r4, hx, kN, kE, kW⟩ := X.op
  obtain ⟨c', A, s1, s2, s3⟩ := A
  obtain ⟨g1, -⟩ := arkIn s1 hj (List.getElem?_eq_getElem hi)
  obtain ⟨T', h', Y', e', W, stp⟩ := stB Y hx hZ r1 A g1 (g := mkF m pc ls (.int x :: .int j :: .ref a :: st)) rfl rfl (X.dc hd)
  rw [(toNatC hj).1] at W Y'
  exact (K T' h' (kW T' h' a i _ hs hfr Y' e' W) W (Ark.set A s1 s2 s3 (fits_nar_byte _) W)).st stp
theorem newarray (X : Sd kn Z a0 EL y bytes maxL ret p l e R s m args below meth c n0 sf h kc ks T) {pc n len cap : Nat} {ls : Array Slot} {st : List Value} {k : Int32} {aty : ArrayType} (hd : decode bytes pc = .ok (.newarray aty, 2)) (w : (Cond.arrayClass (newarray.typeOf aty)).before a0 Z = true) (hk : k.toInt = len) (hcap : len ≤ cap) (hb : cap * 8 ≤ 536870912) (hc : kc + 1 ≤ R.cells) (hl : ks + cap ≤ R.slots) (hn : pc + 2 = n) (K : ∀ T' h' a, a = h.size → Sd kn Z a0 EL y bytes maxL ret p l e R s m args below meth c n0 (a :: sf) h' (kc + 1) (ks + cap) T' → Ext h h' → Ark Z h' a (newarray.typeOf aty) (List.replicate len (defaultValue (newarray.typeOf aty))) → Run Z EL p e below s n0 fc fs Q (T'.setTop (mkF m n ls (.ref a :: st)))) : Run Z EL p e below s n0 fc fs Q (T.setTop (mkF m pc ls (.int k :: st))) := by
  subst hn; obtain ⟨s', L', i', j', Y, r1, hZ, hown, hml, hnm, r3, r4, hx, kN, kE, kW⟩ := X.op
  obtain ⟨g1, g2⟩ := toNatC hk
  obtain ⟨T', h', cA, Y', e', E, A, stp⟩ := newP Y hx hZ w r1 (g := mkF m pc ls (.int k :: st)) rfl (X.dc hd) rfl g2 (cap := cap) (by omega) hb (by omega) (by omega)
  have hA : Ark Z h' h.size (newarray.typeOf aty) (List.replicate len (defaultValue (newarray.typeOf aty))) := by
    refine ⟨_, A, by simp [newA, g1], by simp; omega, fun v hv => ?_⟩
    rw [List.eq_of_mem_replicate hv]; cases aty <;> rfl
  exact (K T' h' _ rfl (kE T' h' 1 cap Y' e' E hA.lt) E hA).st stp
theorem new (X : Sd kn Z a0 EL y bytes maxL ret p l e R s m args below meth c n0 sf h kc ks T) {pc n index k : Nat} {ls : Array Slot} {st : List Value} (hd : decode bytes pc = .ok (.new index, 3)) (w : (Cond.classLink y.cls index C).before a0 Z = true) (wi : (Cond.instantiable C k).before a0 Z = true) (wz : (Cond.initialized C).before a0 Z = true) (hc : kc + 1 ≤ R.cells) (hl : ks + k ≤ R.slots) (hn : pc + 3 = n) (K : ∀ T' h' a, a = h.size → Sd kn Z a0 EL y bytes maxL ret p l e R s m args below meth c n0 (a :: sf) h' (kc + 1) (ks + k) T' → Ext h h' → Exa Z h' a C → (∀ {O nm d : String} {ty : FieldType}, Laid Z a0 C O nm d → parseFieldDescriptor d = some ty → Fld Z h' a O nm d (defaultValue ty)) → Unt h' a → Run Z EL p e below s n0 fc fs Q (T'.setTop (mkF m n ls (.ref a :: st)))) : Run Z EL p e below s n0 fc fs Q (T.setTop (mkF m pc ls st)) := by
  subst hn; obtain ⟨s', L', i', j', Y, r1, hZ, hown, hml, hnm, r3, r4, hx, kN, kE, kW⟩ := X.op
  obtain ⟨T', h', Y', e', E, A, D, U, stp⟩ := newO Y hx hZ hown w wi wz r1 (g := mkF m pc ls st) rfl (X.dc hd) (by omega) (by omega)
  exact (K T' h' _ rfl (kE T' h' 1 k Y' e' E A.lt) E A D U).st stp
theorem putfield (X : Sd kn Z a0 EL y bytes maxL ret p l e R s m args below meth c n0 sf h kc ks T) {pc n index k : Nat} {ls : Array Slot} {st : List Value} {R0 O : String} {v' old : Value} (hd : decode bytes pc = .ok (.putfield index, 3)) (w : (Cond.fieldLink y.cls index R0 f d).before a0 Z = true) (via : Via Z R0 O f d) (F : Fld Z h a O f d old) (E : Exa Z h a C) (L : (Cond.lays C O f d).before a0 Z = true ∨ ((Cond.laysFinal C O f d).before a0 Z = true ∧ y.cls = O ∧ y.name = "<init>")) (wi : (Cond.instantiable C k).before a0 Z = true) (hty : parseFieldDescriptor d = some ty) (hv : narrow ty v = v') (hf : fits ty v' = true) (hfr : n0 ≤ a) (hs : a ∈ sf) (hn : pc + 3 = n) (K : ∀ T' h', Sd kn Z a0 EL y bytes maxL ret p l e R s m args below meth c n0 sf h' kc ks T' → Wr h h' a (RoadKit.slotOf Z O f d) v' → Fld Z h' a O f d v' → Run Z EL p e below s n0 fc fs Q (T'.setTop (mkF m n ls st))) : Run Z EL p e below s n0 fc fs Q (T.setTop (mkF m pc ls (v :: .ref a :: st))) := by
  subst hn; obtain ⟨s', L', i', j', Y, r1, hZ, hown, hml, hnm, r3, r4, hx, kN, kE, kW⟩ := X.op
  obtain ⟨T', h', Y', e', W, stp⟩ := putFN Y hx hZ hown w via r1 F E (L.imp id fun z => ⟨z.1, z.2.1, hnm.trans z.2.2⟩) wi hty hv hf (g := mkF m pc ls (v :: .ref a :: st)) rfl rfl (X.dc hd)
  exact (K T' h' (kW T' h' a _ _ hs hfr Y' e' W) W (F.same W)).st stp
theorem clone (X : Sd kn Z a0 EL y bytes maxL ret p l e R s m args below meth c n0 sf h kc ks T) {pc n index W cap : Nat} {ls : Array Slot} {st : List Value} {ad : String} (hd : decode bytes pc = .ok (.invokevirtual index, 3)) (w1 : (Cond.methodLink y.cls index ⟨ad, "clone", "()Ljava/lang/Object;"⟩).before a0 Z = true) (w2 : (Cond.sameMethod ad "java/lang/Object" "clone" "()Ljava/lang/Object;").before a0 Z = true) (w3 : (Cond.native ⟨"java/lang/Object", "clone", "()Ljava/lang/Object;"⟩).before a0 Z = true) (w4 : (Cond.instanceMethod ⟨"java/lang/Object", "clone", "()Ljava/lang/Object;"⟩).before a0 Z = true) (w5 : (Cond.selects ad ⟨ad, "clone", "()Ljava/lang/Object;"⟩ ⟨"java/lang/Object", "clone", "()Ljava/lang/Object;"⟩).before a0 Z = true) (w6 : (Cond.castable ad "java/lang/Cloneable").before a0 Z = true) (A : Ark Z h a ty vs) (E : Exa Z h a ad) (hsize : ls.size = maxL) (hf : 1 ≤ R.frames) (hW : (st.map fun v => v.category).sum ≤ W) (hl : W + 14 ≤ R.locals) (hcap : vs.length ≤ cap) (hc : kc + 1 ≤ R.cells) (hsl : ks + cap ≤ R.slots) (hn : pc + 3 = n) (K : ∀ T' h' b, b = h.size → Sd kn Z a0 EL y bytes maxL ret p l e R s m args below meth c n0 (b :: sf) h' (kc + 1) (ks + cap) T' → Ext h h' → Ark Z h' b ty vs → Exa Z h' b ad → Run Z EL p e below s n0 fc fs Q (T'.setTop (mkF m n ls (.ref b :: st)))) : Run Z EL p e below s n0 fc fs Q (T.setTop (mkF m pc ls (.ref a :: st))) := by
  subst hn; obtain ⟨s', L', i', j', Y, r1, hZ, hown, hml, hnm, r3, r4, hx, kN, kE, kW⟩ := X.op
  obtain ⟨c', A, s1, s2, s3⟩ := A
  have e1 : c'.slots.size = vs.length := by rw [s1]; simp
  have FC : FitC Z c' := fitC_of A fun i hi v hv => by
    rw [s1] at hv
    exact s3 v (List.mem_of_getElem? (i := i) (by simpa using hv))
  obtain ⟨T', h', Y', e', ex, A', E', stp⟩ := cloneA Y hx hZ hown w1 w2 w3 w4 w5 w6 r1 A E FC (g := mkF m pc ls (.ref a :: st)) rfl (by rw [hml]; exact hsize) rfl (X.dc hd) hf (W := W) (cap := cap) (by simpa using hW) hl (by rw [e1]; exact hcap) (by omega) (by omega)
  exact (K T' h' _ rfl (kE T' h' 1 cap Y' e' ex A'.lt) ex ⟨_, A', s1, s2, s3⟩ E').st stp
theorem ldcS (X : Sd kn Z a0 EL y bytes maxL ret p l e R s m args below meth c n0 sf h kc ks T) {pc n index nn : Nat} {ls : Array Slot} {st : List Value} {text : String} {bs : List Int32} (hd : decode bytes pc = .ok (.ldc index, 2)) (w : (Cond.stringLink y.cls index text).before a0 Z = true) (wS : ∀ a ∈ Bundle.stringAtoms, a.before a0 Z = true) (hmem : (y.cls, index) ∈ EL) (ht : (∀ c ∈ text.toList, c.toNat < 256) ∧ text.toList.map (fun c => Value.int (Jvm.Lit.byteI c.toNat.toUInt16)) = bs.map Value.int) (hlt : bs.length < 2147483648) (hn4 : 4 * text.toList.length ≤ nn) (hbig : nn ≤ 536870912) (hc : kc + 2 ≤ R.cells) (hl : ks + (nn + 4) ≤ R.slots) (hn : pc + 2 = n) (K : ∀ T' h' a b, Sd kn Z a0 EL y bytes maxL ret p l e R s m args below meth c n0 sf h' (kc + 2) (ks + (nn + 4)) T' → Ext h h' → Exa Z h' a "java/lang/String" → Fld Z h' a "java/lang/String" "coder" "B" (.int 0) → Fld Z h' a "java/lang/String" "value" "[B" (.ref b) → Ark Z h' b .byte (bs.map Value.int) → (∀ x ∈ sf, x ≠ a ∧ x ≠ b) → Run Z EL p e below s n0 fc fs Q (T'.setTop (mkF m n ls (.ref a :: st)))) : Run Z EL p e below s n0 fc fs Q (T.setTop (mkF m pc ls st)) := by
  subst hn
  have hdc := X.dc hd
  obtain ⟨vm0, k0, q, ⟨hS, hk, hE, hC, hs, hkn⟩, L, i, j, Y, r1, r2, r3, r4⟩ := X
  have hz : (bs.length.toInt32).toInt = bs.length := Int32.toInt_ofNat_small hlt
  obtain ⟨a, T', h', k1, b, k, Y', e', E, hS', hk', hZ', hown', g1, g2, g3, g4, g5, g6, hC', hL, hne, stp⟩ := ldcCH Y q.1 q.2.1 q.2.2.2.2.2.2.1 w wS r1 hS hk hE hmem hC.1 ht (z := bs.length.toInt32) (toNatC hz).2 (by rw [(toNatC hz).1]; simp) (g := mkF m pc ls st) rfl hdc hn4 hbig (by omega) (by omega)
  have hal : vm0.Alike T'.vm := by have z := hS.1.alike; have z' := hS'.1.alike; exact z.symm.trans z'
  refine (K T' h' a b ⟨T'.vm, k1, ⟨q.1, hZ', q.2.2.1, q.2.2.2.1, q.2.2.2.2.1, q.2.2.2.2.2.1, hown', q.2.2.2.2.2.2.2⟩, ⟨hS', hk', hE, hC.trans hC', fun x hx => ⟨hC'.safe (hs x hx).2 (hs x hx).1, Nat.lt_of_lt_of_le (hs x hx).2 E.1⟩, fun hh => ?_⟩, _, _, _, Y', e', r2, by omega, by omega⟩ E g1 g2 g3 (Ark.ofArv g4 (by rw [(toNatC hz).1]; simp)) (fun x hx => hne x (hC'.safe (hs x hx).2 (hs x hx).1))).st stp
  exact ⟨Vm.MethodsKnown.alikeC hal (hkn hh).1, FKalike hal (hkn hh).2⟩
theorem lenA {d : String} {ps : List FieldType} {r : Option FieldType} (hd : parseMethodDescriptor d = some ⟨ps, r⟩) {L : List Value} (hl : L.length = ps.length) : ∀ sig, parseMethodDescriptor d = some sig → L.length = sig.parameters.length := lenOf hd hl
theorem ctrBack {z : MethodName} {ybytes : ByteArray} {yL : Nat} {yret : Option FieldType} {rm : Room} {sfc : List Addr} {as : Array Value} {Qc : Option Value → Heap → List Addr → Prop} {len W : Nat} {vm0 : Vm} (hC : Ctr kn l Z EL z ybytes yL yret [] rm n0 sfc as h Qc) (hZ : Z.Warmed39 vm0) (wc : (Cond.code z ybytes yL yret).before a0 Z = true) (wz : (Cond.initialized z.cls).before a0 Z = true) (hf : rm.frames + 1 ≤ R.frames) (hl : W + (yL + 11) + rm.locals ≤ R.locals) (hEL : EW Z a0 EL) (H : CHv Z EL vm0 h) (hs : ∀ x ∈ sfc, Safe Z EL vm0 h x ∧ x < h.size) (hkn : kn → vm0.MethodsKnown ∧ vm0.FramesKnown below) :
    BackS l R p e below (s.setVm vm0) args z len W (fun A a => a = as ∧ A.U.heap = h ∧ A.cells + rm.cells ≤ R.cells ∧ A.slots + rm.slots ≤ R.slots) (fun A _ v B => ∃ L, (∃ sfn, Qc v B.U.heap sfn ∧ (∀ x ∈ sfn, Safe Z EL B.U.vm B.U.heap x ∧ x < B.U.heap.size) ∧ Fr n0 L) ∧ B.locs = A.locs ++ L ∧ B.cells = A.cells + rm.cells ∧ B.slots = A.slots + rm.slots ∧ CHr Z EL vm0 h B.U.vm B.U.heap) :=
  BackS.of_freeWG (bytes := ybytes) (maxL := yL) (ret := yret) (E := fun _ first o t L k n => k = rm.cells ∧ n = rm.slots ∧ (∃ v, o = .returned v ∧ ∃ sfn, Qc v t.heap sfn ∧ (∀ x ∈ sfn, Safe Z EL t.vm t.heap x ∧ x < t.heap.size) ∧ Fr n0 L) ∧ CHr Z EL first.vm first.heap t.vm t.heap) hC hf hl
    (fun m meth c A a Y hp => have hU : Z.Warmed39 A.U.vm := wtrans (s := s.setVm vm0) hZ Y.warmed
      ⟨by show (Cond.and _ .tt).before a A.U = true; rw [Cond.before_and, mv hU wc]; rfl, mv hU wc, mv hU wz, hp.2.2.1, hp.2.2.2⟩)
    (fun m meth c A a g mk Y hp => have hA := CHv.at Y hZ hEL H
      ⟨hp.1, wtrans (s := s.setVm vm0) hZ Y.warmed, hp.2.1, hA.1, fun x hx => ⟨hA.safe (hs x hx).2 (hs x hx).1, (hs x hx).2⟩⟩)
    (fun m meth c A a g mk Y _ hg hh => known_frames Y hg (hkn hh).1 (hkn hh).2)
    (fun _ _ _ _ ⟨v, L, h1, h2, h3, h4⟩ => ⟨L, _, _, h4, rfl, rfl, ⟨v, h1, h2⟩, h3⟩)
    (fun m meth c A a g mk v t L k n Y hp _ _ ⟨e1, e2, ⟨v', e3, e4⟩, e5⟩ => by
      cases e3; subst e1 e2
      refine ⟨L, e4, rfl, rfl, rfl, (CHv.at Y hZ hEL H).trans ?_⟩
      rw [← hp.2.1]; exact e5)
theorem call_static (X : Sd kn Z a0 EL y bytes maxL ret p l e R s m args below meth c n0 sf h kc ks T) {rm : Room} {ybytes : ByteArray} {yL : Nat} {yret : Option FieldType} {z : MethodName} {sfc : List Addr} {Qc : Option Value → Heap → List Addr → Prop} {pc n index W : Nat} {ls : Array Slot} {st rest argsL : List Value} (hd : decode bytes pc = .ok (.invokestatic index, 3)) (w1 : (Cond.methodLink y.cls index z).before a0 Z = true) (w2 : (Cond.static z).before a0 Z = true) (wc : (Cond.code z ybytes yL yret).before a0 Z = true) (wi : (Cond.initialized z.cls).before a0 Z = true) (hy : z.cls ≠ "java/lang/invoke/MethodHandle" ∧ z.cls ≠ "java/lang/invoke/VarHandle") (hC : Ctr kn l Z EL z ybytes yL yret [] rm n0 sfc argsL.toArray h Qc) (hsf : ∀ x ∈ sfc, x ∈ sf) (hst : st = argsL.reverse ++ rest) (hsize : ls.size = maxL) (hlen : ∀ sig, parseMethodDescriptor z.desc = some sig → argsL.length = sig.parameters.length) (hW : (rest.map fun v => v.category).sum ≤ W) (hfr : rm.frames + 1 ≤ R.frames) (hlo : W + (yL + 11) + rm.locals ≤ R.locals) (hce : kc + rm.cells ≤ R.cells) (hsl : ks + rm.slots ≤ R.slots) (hn : pc + 3 = n) (K : ∀ T' h' v sfn, h.size ≤ h'.size → Sd kn Z a0 EL y bytes maxL ret p l e R s m args below meth c n0 (sf ++ sfn) h' (kc + rm.cells) (ks + rm.slots) T' → Qc v h' sfn → Run Z EL p e below s n0 fc fs Q (T'.setTop (mkF m n ls (v.toList ++ rest)))) : Run Z EL p e below s n0 fc fs Q (T.setTop (mkF m pc ls st)) := by
  subst hn hst
  have hdc := X.dc hd
  obtain ⟨vm0, k0, q, ⟨hS, hk, hE, hCr, hs, hkn⟩, L, i, j, Y, r1, r2, r3, r4⟩ := X
  have hB := ctrBack (W := W) (R := R) (p := p) (e := e) (s := s) (below := below) (args := args) (len := 3) (vm0 := vm0) hC q.2.1 wc wi hfr hlo hE hCr.1 (fun x hx => hs x (hsf x hx)) hkn
  have hZ : Z.Warmed39 (s.setVm vm0).vm := q.2.1
  have hown : (s.setVm vm0).vm.findClass y.cls = some m.cls := q.2.2.2.2.2.2.1
  obtain ⟨v, vm₁, ⟨T', L', k', n'⟩, -, Y', S', g', ⟨Lc, hQ, l', y', z', C'⟩, stp⟩ := callSS Y q.1 (y := z) hown (mvT hZ w1) (mvT hZ w2) (mvT hZ wi) (mvT hZ wc) hy hB (g := mkF m pc ls (argsL.reverse ++ rest)) rfl (by rw [q.2.2.2.1]; exact hsize) (argsL := argsL) (rest := rest) hlen rfl (by simpa using hW) hdc (fun _ _ => ⟨rfl, r1, by dsimp only [Pt.cells]; omega, by dsimp only [Pt.slots]; omega⟩)
  dsimp only [Pt.U, Pt.locs, Pt.cells, Pt.slots] at Y' l' y' z' stp hQ S' g' C'
  obtain ⟨sfn, hQ1, hQs, hQ2⟩ := hQ
  subst l' y' z'
  obtain ⟨Y2, S2, Z2, O2⟩ := rebS hS hk Y' S' (by rw [← r1]; exact g') hZ hown
  have hal : vm0.Alike T'.vm := S'.1.alike
  refine (K T' T'.heap v sfn (by rw [← r1]; exact g') ⟨T'.vm, T'.heap.size, ⟨q.1, Z2, q.2.2.1, q.2.2.2.1, q.2.2.2.2.1, q.2.2.2.2.2.1, O2, q.2.2.2.2.2.2.2⟩, ⟨S2, Nat.le_refl _, hE, hCr.trans C', ?_, fun hh => ⟨Vm.MethodsKnown.alikeC hal (hkn hh).1, FKalike hal (hkn hh).2⟩⟩, _, _, _, Y2, rfl, Fr.app r2 hQ2, by omega, by omega⟩ hQ1).st fun t k => stp.trans k
  intro x hx
  rcases List.mem_append.mp hx with hx | hx
  · exact ⟨C'.safe (hs x hx).2 (hs x hx).1, Nat.lt_of_lt_of_le (hs x hx).2 (by rw [← r1]; exact g')⟩
  · exact hQs x hx
theorem call_static_v (X : Sd kn Z a0 EL y bytes maxL ret p l e R s m args below meth c n0 sf h kc ks T) {rm : Room} {ybytes : ByteArray} {yL : Nat} {yret : Option FieldType} {z : MethodName} {sfc : List Addr} {Qv : Value → Heap → List Addr → Prop} {pc n index W : Nat} {ls : Array Slot} {st rest argsL : List Value} (hd : decode bytes pc = .ok (.invokestatic index, 3)) (w1 : (Cond.methodLink y.cls index z).before a0 Z = true) (w2 : (Cond.static z).before a0 Z = true) (wc : (Cond.code z ybytes yL yret).before a0 Z = true) (wi : (Cond.initialized z.cls).before a0 Z = true) (hy : z.cls ≠ "java/lang/invoke/MethodHandle" ∧ z.cls ≠ "java/lang/invoke/VarHandle") (hC : Ctr kn l Z EL z ybytes yL yret [] rm n0 sfc argsL.toArray h (Rt Qv)) (hsf : ∀ x ∈ sfc, x ∈ sf) (hst : st = argsL.reverse ++ rest) (hsize : ls.size = maxL) (hlen : ∀ sig, parseMethodDescriptor z.desc = some sig → argsL.length = sig.parameters.length) (hW : (rest.map fun v => v.category).sum ≤ W) (hfr : rm.frames + 1 ≤ R.frames) (hlo : W + (yL + 11) + rm.locals ≤ R.locals) (hce : kc + rm.cells ≤ R.cells) (hsl : ks + rm.slots ≤ R.slots) (hn : pc + 3 = n) (K : ∀ T' h' w sfn, h.size ≤ h'.size → Sd kn Z a0 EL y bytes maxL ret p l e R s m args below meth c n0 (sf ++ sfn) h' (kc + rm.cells) (ks + rm.slots) T' → Qv w h' sfn → Run Z EL p e below s n0 fc fs Q (T'.setTop (mkF m n ls (w :: rest)))) : Run Z EL p e below s n0 fc fs Q (T.setTop (mkF m pc ls st)) :=
  call_static X hd w1 w2 wc wi hy hC hsf hst hsize hlen hW hfr hlo hce hsl hn fun T' h' v g hh X' q => by obtain ⟨w, rfl, q⟩ := q; exact K T' h' w g hh X' q
theorem call_static_n (X : Sd kn Z a0 EL y bytes maxL ret p l e R s m args below meth c n0 sf h kc ks T) {rm : Room} {ybytes : ByteArray} {yL : Nat} {yret : Option FieldType} {z : MethodName} {sfc : List Addr} {Qn : Heap → List Addr → Prop} {pc n index W : Nat} {ls : Array Slot} {st rest argsL : List Value} (hd : decode bytes pc = .ok (.invokestatic index, 3)) (w1 : (Cond.methodLink y.cls index z).before a0 Z = true) (w2 : (Cond.static z).before a0 Z = true) (wc : (Cond.code z ybytes yL yret).before a0 Z = true) (wi : (Cond.initialized z.cls).before a0 Z = true) (hy : z.cls ≠ "java/lang/invoke/MethodHandle" ∧ z.cls ≠ "java/lang/invoke/VarHandle") (hC : Ctr kn l Z EL z ybytes yL yret [] rm n0 sfc argsL.toArray h (Rn Qn)) (hsf : ∀ x ∈ sfc, x ∈ sf) (hst : st = argsL.reverse ++ rest) (hsize : ls.size = maxL) (hlen : ∀ sig, parseMethodDescriptor z.desc = some sig → argsL.length = sig.parameters.length) (hW : (rest.map fun v => v.category).sum ≤ W) (hfr : rm.frames + 1 ≤ R.frames) (hlo : W + (yL + 11) + rm.locals ≤ R.locals) (hce : kc + rm.cells ≤ R.cells) (hsl : ks + rm.slots ≤ R.slots) (hn : pc + 3 = n) (K : ∀ T' h' sfn, h.size ≤ h'.size → Sd kn Z a0 EL y bytes maxL ret p l e R s m args below meth c n0 (sf ++ sfn) h' (kc + rm.cells) (ks + rm.slots) T' → Qn h' sfn → Run Z EL p e below s n0 fc fs Q (T'.setTop (mkF m n ls rest))) : Run Z EL p e below s n0 fc fs Q (T.setTop (mkF m pc ls st)) :=
  call_static X hd w1 w2 wc wi hy hC hsf hst hsize hlen hW hfr hlo hce hsl hn fun T' h' v g hh X' q => by obtain ⟨rfl, q⟩ := q; exact K T' h' g hh X' q
theorem call_virtual (X : Sd kn Z a0 EL y bytes maxL ret p l e R s m args below meth c n0 sf h kc ks T) {rm : Room} {ybytes : ByteArray} {yL : Nat} {yret : Option FieldType} {z : MethodName} {sfc : List Addr} {Qc : Option Value → Heap → List Addr → Prop} {pc n index W : Nat} {ls : Array Slot} {st rest argsL : List Value} {a : Addr} {C : String} {yv : MethodName} (hd : decode bytes pc = .ok (.invokevirtual index, 3)) (w1 : (Cond.methodLink y.cls index yv).before a0 Z = true) (w2 : (Cond.declares yv).before a0 Z = true) (w3 : (Cond.instanceMethod z).before a0 Z = true) (w4 : (Cond.selects C yv z).before a0 Z = true) (hnf : ∀ {s' : State}, Z.Warmed39 s'.vm → NotFace s' yv) (wc : (Cond.code z ybytes yL yret).before a0 Z = true) (wi : (Cond.initialized z.cls).before a0 Z = true) (hy : yv.cls ≠ "java/lang/invoke/MethodHandle" ∧ yv.cls ≠ "java/lang/invoke/VarHandle") (E : Exa Z h a C) (hC : Ctr kn l Z EL z ybytes yL yret [] rm n0 sfc (.ref a :: argsL).toArray h Qc) (hsf : ∀ x ∈ sfc, x ∈ sf) (hst : st = argsL.reverse ++ .ref a :: rest) (hsize : ls.size = maxL) (hlen : ∀ sig, parseMethodDescriptor yv.desc = some sig → argsL.length = sig.parameters.length) (hW : (rest.map fun v => v.category).sum ≤ W) (hfr : rm.frames + 1 ≤ R.frames) (hlo : W + (yL + 11) + rm.locals ≤ R.locals) (hce : kc + rm.cells ≤ R.cells) (hsl : ks + rm.slots ≤ R.slots) (hn : pc + 3 = n) (K : ∀ T' h' v sfn, h.size ≤ h'.size → Sd kn Z a0 EL y bytes maxL ret p l e R s m args below meth c n0 (sf ++ sfn) h' (kc + rm.cells) (ks + rm.slots) T' → Qc v h' sfn → Run Z EL p e below s n0 fc fs Q (T'.setTop (mkF m n ls (v.toList ++ rest)))) : Run Z EL p e below s n0 fc fs Q (T.setTop (mkF m pc ls st)) := by
  subst hn hst
  have hdc := X.dc hd
  obtain ⟨vm0, k0, q, ⟨hS, hk, hE, hCr, hs, hkn⟩, L, i, j, Y, r1, r2, r3, r4⟩ := X
  have hB := ctrBack (W := W) (R := R) (p := p) (e := e) (s := s) (below := below) (args := args) (len := 3) (vm0 := vm0) hC q.2.1 wc wi hfr hlo hE hCr.1 (fun x hx => hs x (hsf x hx)) hkn
  have hZ : Z.Warmed39 (s.setVm vm0).vm := q.2.1
  have hown : (s.setVm vm0).vm.findClass y.cls = some m.cls := q.2.2.2.2.2.2.1
  obtain ⟨cq, kq, qa, qb, qc⟩ := isOf (T := T) hZ r1 E
  obtain ⟨v, vm₁, ⟨T', L', k', n'⟩, -, Y', S', g', ⟨Lc, hQ, l', y', z', C'⟩, stp⟩ := Y.virtualBackS q.1 (y := yv) (z := z) hown (mvT hZ w1) (mvT hZ w2) (hnf hZ) (mvT hZ w4) (mvT hZ w3) hy hB qa qc (g := mkF m pc ls (argsL.reverse ++ .ref a :: rest)) rfl (by rw [q.2.2.2.1]; exact hsize) (Steps.refl _) (argsL := argsL) (rest := rest) hlen rfl (by simpa using hW) hdc (fun _ _ => ⟨rfl, r1, by dsimp only [Pt.cells]; omega, by dsimp only [Pt.slots]; omega⟩)
  dsimp only [Pt.U, Pt.locs, Pt.cells, Pt.slots] at Y' l' y' z' stp hQ S' g' C'
  obtain ⟨sfn, hQ1, hQs, hQ2⟩ := hQ
  subst l' y' z'
  obtain ⟨Y2, S2, Z2, O2⟩ := rebS hS hk Y' S' (by rw [← r1]; exact g') hZ hown
  have hal : vm0.Alike T'.vm := S'.1.alike
  refine (K T' T'.heap v sfn (by rw [← r1]; exact g') ⟨T'.vm, T'.heap.size, ⟨q.1, Z2, q.2.2.1, q.2.2.2.1, q.2.2.2.2.1, q.2.2.2.2.2.1, O2, q.2.2.2.2.2.2.2⟩, ⟨S2, Nat.le_refl _, hE, hCr.trans C', ?_, fun hh => ⟨Vm.MethodsKnown.alikeC hal (hkn hh).1, FKalike hal (hkn hh).2⟩⟩, _, _, _, Y2, rfl, Fr.app r2 hQ2, by omega, by omega⟩ hQ1).st fun t k => stp.trans k
  intro x hx
  rcases List.mem_append.mp hx with hx | hx
  · exact ⟨C'.safe (hs x hx).2 (hs x hx).1, Nat.lt_of_lt_of_le (hs x hx).2 (by rw [← r1]; exact g')⟩
  · exact hQs x hx
theorem call_virtual_v (X : Sd kn Z a0 EL y bytes maxL ret p l e R s m args below meth c n0 sf h kc ks T) {rm : Room} {ybytes : ByteArray} {yL : Nat} {yret : Option FieldType} {z : MethodName} {sfc : List Addr} {Qv : Value → Heap → List Addr → Prop} {pc n index W : Nat} {ls : Array Slot} {st rest argsL : List Value} {a : Addr} {C : String} {yv : MethodName} (hd : decode bytes pc = .ok (.invokevirtual index, 3)) (w1 : (Cond.methodLink y.cls index yv).before a0 Z = true) (w2 : (Cond.declares yv).before a0 Z = true) (w3 : (Cond.instanceMethod z).before a0 Z = true) (w4 : (Cond.selects C yv z).before a0 Z = true) (hnf : ∀ {s' : State}, Z.Warmed39 s'.vm → NotFace s' yv) (wc : (Cond.code z ybytes yL yret).before a0 Z = true) (wi : (Cond.initialized z.cls).before a0 Z = true) (hy : yv.cls ≠ "java/lang/invoke/MethodHandle" ∧ yv.cls ≠ "java/lang/invoke/VarHandle") (E : Exa Z h a C) (hC : Ctr kn l Z EL z ybytes yL yret [] rm n0 sfc (.ref a :: argsL).toArray h (Rt Qv)) (hsf : ∀ x ∈ sfc, x ∈ sf) (hst : st = argsL.reverse ++ .ref a :: rest) (hsize : ls.size = maxL) (hlen : ∀ sig, parseMethodDescriptor yv.desc = some sig → argsL.length = sig.parameters.length) (hW : (rest.map fun v => v.category).sum ≤ W) (hfr : rm.frames + 1 ≤ R.frames) (hlo : W + (yL + 11) + rm.locals ≤ R.locals) (hce : kc + rm.cells ≤ R.cells) (hsl : ks + rm.slots ≤ R.slots) (hn : pc + 3 = n) (K : ∀ T' h' w sfn, h.size ≤ h'.size → Sd kn Z a0 EL y bytes maxL ret p l e R s m args below meth c n0 (sf ++ sfn) h' (kc + rm.cells) (ks + rm.slots) T' → Qv w h' sfn → Run Z EL p e below s n0 fc fs Q (T'.setTop (mkF m n ls (w :: rest)))) : Run Z EL p e below s n0 fc fs Q (T.setTop (mkF m pc ls st)) :=
  call_virtual X hd w1 w2 w3 w4 hnf wc wi hy E hC hsf hst hsize hlen hW hfr hlo hce hsl hn fun T' h' v g hh X' q => by obtain ⟨w, rfl, q⟩ := q; exact K T' h' w g hh X' q
theorem call_virtual_n (X : Sd kn Z a0 EL y bytes maxL ret p l e R s m args below meth c n0 sf h kc ks T) {rm : Room} {ybytes : ByteArray} {yL : Nat} {yret : Option FieldType} {z : MethodName} {sfc : List Addr} {Qn : Heap → List Addr → Prop} {pc n index W : Nat} {ls : Array Slot} {st rest argsL : List Value} {a : Addr} {C : String} {yv : MethodName} (hd : decode bytes pc = .ok (.invokevirtual index, 3)) (w1 : (Cond.methodLink y.cls index yv).before a0 Z = true) (w2 : (Cond.declares yv).before a0 Z = true) (w3 : (Cond.instanceMethod z).before a0 Z = true) (w4 : (Cond.selects C yv z).before a0 Z = true) (hnf : ∀ {s' : State}, Z.Warmed39 s'.vm → NotFace s' yv) (wc : (Cond.code z ybytes yL yret).before a0 Z = true) (wi : (Cond.initialized z.cls).before a0 Z = true) (hy : yv.cls ≠ "java/lang/invoke/MethodHandle" ∧ yv.cls ≠ "java/lang/invoke/VarHandle") (E : Exa Z h a C) (hC : Ctr kn l Z EL z ybytes yL yret [] rm n0 sfc (.ref a :: argsL).toArray h (Rn Qn)) (hsf : ∀ x ∈ sfc, x ∈ sf) (hst : st = argsL.reverse ++ .ref a :: rest) (hsize : ls.size = maxL) (hlen : ∀ sig, parseMethodDescriptor yv.desc = some sig → argsL.length = sig.parameters.length) (hW : (rest.map fun v => v.category).sum ≤ W) (hfr : rm.frames + 1 ≤ R.frames) (hlo : W + (yL + 11) + rm.locals ≤ R.locals) (hce : kc + rm.cells ≤ R.cells) (hsl : ks + rm.slots ≤ R.slots) (hn : pc + 3 = n) (K : ∀ T' h' sfn, h.size ≤ h'.size → Sd kn Z a0 EL y bytes maxL ret p l e R s m args below meth c n0 (sf ++ sfn) h' (kc + rm.cells) (ks + rm.slots) T' → Qn h' sfn → Run Z EL p e below s n0 fc fs Q (T'.setTop (mkF m n ls rest))) : Run Z EL p e below s n0 fc fs Q (T.setTop (mkF m pc ls st)) :=
  call_virtual X hd w1 w2 w3 w4 hnf wc wi hy E hC hsf hst hsize hlen hW hfr hlo hce hsl hn fun T' h' v g hh X' q => by obtain ⟨rfl, q⟩ := q; exact K T' h' g hh X' q
theorem call_special (X : Sd kn Z a0 EL y bytes maxL ret p l e R s m args below meth c n0 sf h kc ks T) {rm : Room} {ybytes : ByteArray} {yL : Nat} {yret : Option FieldType} {z : MethodName} {sfc : List Addr} {Qc : Option Value → Heap → List Addr → Prop} {pc n index W : Nat} {ls : Array Slot} {st rest argsL : List Value} {a : Addr} (hd : decode bytes pc = .ok (.invokespecial index, 3)) (w1 : (Cond.methodLink y.cls index z).before a0 Z = true) (w2 : (Cond.instanceMethod z).before a0 Z = true) (wc : (Cond.code z ybytes yL yret).before a0 Z = true) (wi : (Cond.initialized z.cls).before a0 Z = true) (hz : z.name = "<init>") (hr : yret = none) (hy : z.cls ≠ "java/lang/invoke/MethodHandle" ∧ z.cls ≠ "java/lang/invoke/VarHandle") (hC : Ctr kn l Z EL z ybytes yL yret [] rm n0 sfc (.ref a :: argsL).toArray h Qc) (hsf : ∀ x ∈ sfc, x ∈ sf) (hst : st = argsL.reverse ++ .ref a :: rest) (hsize : ls.size = maxL) (hlen : ∀ sig, parseMethodDescriptor z.desc = some sig → argsL.length = sig.parameters.length) (hW : (rest.map fun v => v.category).sum ≤ W) (hfr : rm.frames + 1 ≤ R.frames) (hlo : W + (yL + 11) + rm.locals ≤ R.locals) (hce : kc + rm.cells ≤ R.cells) (hsl : ks + rm.slots ≤ R.slots) (hn : pc + 3 = n) (K : ∀ T' h' v sfn, h.size ≤ h'.size → Sd kn Z a0 EL y bytes maxL ret p l e R s m args below meth c n0 (sf ++ sfn) h' (kc + rm.cells) (ks + rm.slots) T' → Qc v h' sfn → Run Z EL p e below s n0 fc fs Q (T'.setTop (mkF m n ls (v.toList ++ rest)))) : Run Z EL p e below s n0 fc fs Q (T.setTop (mkF m pc ls st)) := by
  subst hn hst
  have hdc := X.dc hd
  obtain ⟨vm0, k0, q, ⟨hS, hk, hE, hCr, hs, hkn⟩, L, i, j, Y, r1, r2, r3, r4⟩ := X
  have hB := ctrBack (W := W) (R := R) (p := p) (e := e) (s := s) (below := below) (args := args) (len := 3) (vm0 := vm0) hC q.2.1 wc wi hfr hlo hE hCr.1 (fun x hx => hs x (hsf x hx)) hkn
  have hZ : Z.Warmed39 (s.setVm vm0).vm := q.2.1
  have hown : (s.setVm vm0).vm.findClass y.cls = some m.cls := q.2.2.2.2.2.2.1
  obtain ⟨v, vm₁, ⟨T', L', k', n'⟩, -, Y', S', g', ⟨Lc, hQ, l', y', z', C'⟩, stp⟩ := Y.specialBackS q.1 (y := z) hz hown (mvT hZ w1) (mvT hZ w2) (mvT hZ (hr ▸ wc)) hy hB (g := mkF m pc ls (argsL.reverse ++ .ref a :: rest)) rfl (by rw [q.2.2.2.1]; exact hsize) (Steps.refl _) (a := a) (argsL := argsL) (rest := rest) hlen rfl (by simpa using hW) hdc (fun _ _ => ⟨rfl, r1, by dsimp only [Pt.cells]; omega, by dsimp only [Pt.slots]; omega⟩)
  dsimp only [Pt.U, Pt.locs, Pt.cells, Pt.slots] at Y' l' y' z' stp hQ S' g' C'
  obtain ⟨sfn, hQ1, hQs, hQ2⟩ := hQ
  subst l' y' z'
  obtain ⟨Y2, S2, Z2, O2⟩ := rebS hS hk Y' S' (by rw [← r1]; exact g') hZ hown
  have hal : vm0.Alike T'.vm := S'.1.alike
  refine (K T' T'.heap v sfn (by rw [← r1]; exact g') ⟨T'.vm, T'.heap.size, ⟨q.1, Z2, q.2.2.1, q.2.2.2.1, q.2.2.2.2.1, q.2.2.2.2.2.1, O2, q.2.2.2.2.2.2.2⟩, ⟨S2, Nat.le_refl _, hE, hCr.trans C', ?_, fun hh => ⟨Vm.MethodsKnown.alikeC hal (hkn hh).1, FKalike hal (hkn hh).2⟩⟩, _, _, _, Y2, rfl, Fr.app r2 hQ2, by omega, by omega⟩ hQ1).st fun t k => stp.trans k
  intro x hx
  rcases List.mem_append.mp hx with hx | hx
  · exact ⟨C'.safe (hs x hx).2 (hs x hx).1, Nat.lt_of_lt_of_le (hs x hx).2 (by rw [← r1]; exact g')⟩
  · exact hQs x hx
theorem call_special_v (X : Sd kn Z a0 EL y bytes maxL ret p l e R s m args below meth c n0 sf h kc ks T) {rm : Room} {ybytes : ByteArray} {yL : Nat} {yret : Option FieldType} {z : MethodName} {sfc : List Addr} {Qv : Value → Heap → List Addr → Prop} {pc n index W : Nat} {ls : Array Slot} {st rest argsL : List Value} {a : Addr} (hd : decode bytes pc = .ok (.invokespecial index, 3)) (w1 : (Cond.methodLink y.cls index z).before a0 Z = true) (w2 : (Cond.instanceMethod z).before a0 Z = true) (wc : (Cond.code z ybytes yL yret).before a0 Z = true) (wi : (Cond.initialized z.cls).before a0 Z = true) (hz : z.name = "<init>") (hr : yret = none) (hy : z.cls ≠ "java/lang/invoke/MethodHandle" ∧ z.cls ≠ "java/lang/invoke/VarHandle") (hC : Ctr kn l Z EL z ybytes yL yret [] rm n0 sfc (.ref a :: argsL).toArray h (Rt Qv)) (hsf : ∀ x ∈ sfc, x ∈ sf) (hst : st = argsL.reverse ++ .ref a :: rest) (hsize : ls.size = maxL) (hlen : ∀ sig, parseMethodDescriptor z.desc = some sig → argsL.length = sig.parameters.length) (hW : (rest.map fun v => v.category).sum ≤ W) (hfr : rm.frames + 1 ≤ R.frames) (hlo : W + (yL + 11) + rm.locals ≤ R.locals) (hce : kc + rm.cells ≤ R.cells) (hsl : ks + rm.slots ≤ R.slots) (hn : pc + 3 = n) (K : ∀ T' h' w sfn, h.size ≤ h'.size → Sd kn Z a0 EL y bytes maxL ret p l e R s m args below meth c n0 (sf ++ sfn) h' (kc + rm.cells) (ks + rm.slots) T' → Qv w h' sfn → Run Z EL p e below s n0 fc fs Q (T'.setTop (mkF m n ls (w :: rest)))) : Run Z EL p e below s n0 fc fs Q (T.setTop (mkF m pc ls st)) :=
  call_special X hd w1 w2 wc wi hz hr hy hC hsf hst hsize hlen hW hfr hlo hce hsl hn fun T' h' v g hh X' q => by obtain ⟨w, rfl, q⟩ := q; exact K T' h' w g hh X' q
theorem call_special_n (X : Sd kn Z a0 EL y bytes maxL ret p l e R s m args below meth c n0 sf h kc ks T) {rm : Room} {ybytes : ByteArray} {yL : Nat} {yret : Option FieldType} {z : MethodName} {sfc : List Addr} {Qn : Heap → List Addr → Prop} {pc n index W : Nat} {ls : Array Slot} {st rest argsL : List Value} {a : Addr} (hd : decode bytes pc = .ok (.invokespecial index, 3)) (w1 : (Cond.methodLink y.cls index z).before a0 Z = true) (w2 : (Cond.instanceMethod z).before a0 Z = true) (wc : (Cond.code z ybytes yL yret).before a0 Z = true) (wi : (Cond.initialized z.cls).before a0 Z = true) (hz : z.name = "<init>") (hr : yret = none) (hy : z.cls ≠ "java/lang/invoke/MethodHandle" ∧ z.cls ≠ "java/lang/invoke/VarHandle") (hC : Ctr kn l Z EL z ybytes yL yret [] rm n0 sfc (.ref a :: argsL).toArray h (Rn Qn)) (hsf : ∀ x ∈ sfc, x ∈ sf) (hst : st = argsL.reverse ++ .ref a :: rest) (hsize : ls.size = maxL) (hlen : ∀ sig, parseMethodDescriptor z.desc = some sig → argsL.length = sig.parameters.length) (hW : (rest.map fun v => v.category).sum ≤ W) (hfr : rm.frames + 1 ≤ R.frames) (hlo : W + (yL + 11) + rm.locals ≤ R.locals) (hce : kc + rm.cells ≤ R.cells) (hsl : ks + rm.slots ≤ R.slots) (hn : pc + 3 = n) (K : ∀ T' h' sfn, h.size ≤ h'.size → Sd kn Z a0 EL y bytes maxL ret p l e R s m args below meth c n0 (sf ++ sfn) h' (kc + rm.cells) (ks + rm.slots) T' → Qn h' sfn → Run Z EL p e below s n0 fc fs Q (T'.setTop (mkF m n ls rest))) : Run Z EL p e below s n0 fc fs Q (T.setTop (mkF m pc ls st)) :=
  call_special X hd w1 w2 wc wi hz hr hy hC hsf hst hsize hlen hW hfr hlo hce hsl hn fun T' h' v g hh X' q => by obtain ⟨rfl, q⟩ := q; exact K T' h' g hh X' q
theorem joinT (X : Sd kn Z a0 EL y bytes maxL ret p l e R s m args below meth c n0 sf h kc ks T) {α : Type} (P : α → Prop) (f : α → JFrame) {t : State} (J : ∀ T' v, Sd kn Z a0 EL y bytes maxL ret p l e R s m args below meth c n0 sf h kc ks T' → P v → Run Z EL p e below s n0 fc fs Q (T'.setTop (f v))) (K : (∀ T' v, Sd kn Z a0 EL y bytes maxL ret p l e R s m args below meth c n0 sf h kc ks T' → P v → Run Z EL p e below s n0 fc fs Q (T'.setTop (f v))) → Run Z EL p e below s n0 fc fs Q t) : Run Z EL p e below s n0 fc fs Q t := K J
theorem joinH (X : Sd kn Z a0 EL y bytes maxL ret p l e R s m args below meth c n0 sf h kc ks T) (kc' ks' : Nat) {α : Type} (P : α → Heap → List Addr → Prop) (f : α → JFrame) {t : State} (J : ∀ T' h' sf' v, Sd kn Z a0 EL y bytes maxL ret p l e R s m args below meth c n0 sf' h' kc' ks' T' → P v h' sf' → Run Z EL p e below s n0 fc fs Q (T'.setTop (f v))) (K : (∀ T' h' sf' v, Sd kn Z a0 EL y bytes maxL ret p l e R s m args below meth c n0 sf' h' kc' ks' T' → P v h' sf' → Run Z EL p e below s n0 fc fs Q (T'.setTop (f v))) → Run Z EL p e below s n0 fc fs Q t) : Run Z EL p e below s n0 fc fs Q t := K J
theorem loopT (X : Sd kn Z a0 EL y bytes maxL ret p l e R s m args below meth c n0 sf h kc ks T) {α : Type} (P : α → Heap → Prop) (mu : α → Nat) (f : α → JFrame) (J : ∀ T' h' v, Sd kn Z a0 EL y bytes maxL ret p l e R s m args below meth c n0 sf h' kc ks T' → P v h' → (∀ T'' h'' v', mu v' < mu v → Sd kn Z a0 EL y bytes maxL ret p l e R s m args below meth c n0 sf h'' kc ks T'' → P v' h'' → Run Z EL p e below s n0 fc fs Q (T''.setTop (f v'))) → Run Z EL p e below s n0 fc fs Q (T'.setTop (f v))) : ∀ T' h' v, Sd kn Z a0 EL y bytes maxL ret p l e R s m args below meth c n0 sf h' kc ks T' → P v h' → Run Z EL p e below s n0 fc fs Q (T'.setTop (f v)) := by
  have key : ∀ n T' h' v, mu v = n → Sd kn Z a0 EL y bytes maxL ret p l e R s m args below meth c n0 sf h' kc ks T' → P v h' → Run Z EL p e below s n0 fc fs Q (T'.setTop (f v)) := by
    intro n
    induction n using Nat.strongRecOn with
    | ind n ih =>
      intro T' h' v hm X' hP
      exact J T' h' v X' hP fun T'' h'' v' hlt X'' hP'' => ih (mu v') (hm ▸ hlt) T'' h'' v' rfl X'' hP''
  intro T' h' v X' hP
  exact key _ T' h' v rfl X' hP
theorem eqI_v {args : Array Value} {first s : State} {o : Option Outcome} {idx : List Nat} {t : Term} {z : Int32} (h : (Jvm.Cond.eq t (Term.int z)).value args first o s idx = some true) : t.eval args first o idx s = some (.int z) := by
  simp only [Jvm.Cond.value, Term.eval] at h
  cases ht : t.eval args first o idx s with
  | none => simp [ht] at h
  | some x => cases x <;> simp [ht] at h ⊢; exact h
theorem lenOfTerm {args : Array Value} {first s : State} {o : Option Outcome} {idx : List Nat} {t : Term} {k : Int32} {a : Addr} {cl : Cell} {n : Nat} (hh : (Term.length t).eval args first o idx s = some (.int k)) (ht : t.eval args first o idx s = some (.ref a)) (hc : s.heap[a]? = some cl) (hk : k.toInt = n) : cl.slots.size = n := by
  simp only [Term.eval, ht, Option.bind_eq_bind, Option.bind_some] at hh
  obtain ⟨c2, h1, h2⟩ := Option.bind_eq_some_iff.mp hh
  have h3 := (State.arrayAt?_spec h1).1
  cases hc.symm.trans h3
  by_cases q : cl.slots.size < 2 ^ 31
  · simp only [q, if_true, Option.pure_def, Option.some.injEq, Value.int.injEq] at h2
    have h4 : (cl.slots.size.toInt32).toInt = cl.slots.size := Int32.toInt_ofNat_small q
    rw [h2, hk] at h4
    omega
  · simp [q] at h2
theorem eqR_v {args : Array Value} {first s : State} {o : Option Outcome} {idx : List Nat} {t u : Term} {a : Addr} (hh : (Jvm.Cond.eq t u).value args first o s idx = some true) (hu : u.eval args first o idx s = some (.ref a)) : t.eval args first o idx s = some (.ref a) := by
  simp only [Jvm.Cond.value, hu] at hh
  cases ht : t.eval args first o idx s with
  | none => simp [ht] at hh
  | some x => cases x <;> simp [ht] at hh ⊢; exact hh
theorem Ark.start (hf : Fit Z) {cl : Cell} (A : Arr Z Z.heap a cl ty) (hl : cl.slots.size = vs.length) (hb : vs.length < 2147483648) (H : ∀ i, i < vs.length → cl.slots[i]? = vs[i]?) : Ark Z Z.heap a ty vs := by
  have e1 : cl.slots = vs.toArray := by
    apply Array.ext
    · simpa using hl
    · intro i h1 h2
      have q := H i (by omega)
      rw [Array.getElem?_eq_getElem h1, List.getElem?_eq_getElem (by omega)] at q
      simpa using Option.some.inj q
  refine ⟨cl, A, e1, hb, fun v hv => ?_⟩
  obtain ⟨i, hi, rfl⟩ := List.getElem_of_mem hv
  have q := elem_fits hf A (j := Int32.ofNat i) (v := vs[i]) ?_ ?_
  · exact q
  · intro q
    have e2 : (Int32.ofNat i).toInt = i := Int32.toInt_ofNat_small (by omega)
    obtain ⟨g1, g2⟩ := toNatC e2
    rcases q with q | q
    · exact g2 q
    · rw [g1] at q; omega
  · have e2 : (Int32.ofNat i).toInt = i := Int32.toInt_ofNat_small (by omega)
    rw [(toNatC e2).1, e1]; simp
end A
end Jvm.OwnW
namespace Jvm.Pilot.@@N@@
open Jvm Jvm.ClassFile Sem Op Lib Jvm.Free Jvm.Stand Jvm.LawKit Jvm.RoadKit Jvm.OwnW Bundle Jvm.Pilot.@@N@@.Jvm.D

def lo8 (x : Int32) : Int32 := x.toInt8.toInt32
theorem own_nat {i : Nat} (h : i < 2147483648) : (Int32.ofNat i).toInt = i := Int32.toInt_ofNat_small h
theorem own_lt {i n : Nat} (hi : i < 2147483648) (hn : n < 2147483648) : Int32.ofNat i < Int32.ofNat n ↔ i < n := by
  rw [Int32.lt_iff_toInt_lt, own_nat hi, own_nat hn]; omega
theorem own_eqn {i n : Nat} (hi : i < 2147483648) (hn : n < 2147483648) : Int32.ofNat i = Int32.ofNat n ↔ i = n := by
  rw [← Int32.toInt_inj, own_nat hi, own_nat hn]; omega
theorem own_up (i : Nat) : Int32.ofNat i + 1 = Int32.ofNat (i + 1) := by
  apply Int32.toInt_inj.mp; rw [Int32.toInt_add]; simp [Int32.toInt_ofNat]
def own_dst (cs : List Int32) (i : Nat) : List Value := ((cs.take i).map lo8 ++ List.replicate (cs.length - i) 0).map Value.int
theorem own_dst_len (cs : List Int32) {i : Nat} (h : i ≤ cs.length) : (own_dst cs i).length = cs.length := by simp [own_dst]; omega
theorem own_dst0 (cs : List Int32) : own_dst cs 0 = List.replicate cs.length (Value.int 0) := by simp [own_dst]
theorem own_dstN (cs : List Int32) : own_dst cs cs.length = (cs.map lo8).map Value.int := by simp [own_dst]
theorem own_dst_set (cs : List Int32) {i : Nat} (h : i < cs.length) : (own_dst cs i).set i (Value.int (lo8 (cs.getD i 0))) = own_dst cs (i + 1) := by
  have e : cs.length - i = (cs.length - (i + 1)) + 1 := by omega
  have hd : cs.getD i 0 = cs[i] := by simp [List.getD, h]
  have ht : (cs.take i).length = i := by simp; omega
  simp only [own_dst, hd, e, List.replicate_succ, List.map_append, List.map_cons]
  rw [List.set_append_right _ _ (by simp; omega)]
  have e2 : i - (List.map Value.int (List.map lo8 (List.take i cs))).length = 0 := by simp; omega
  rw [e2, List.set_cons_zero, List.take_succ_eq_append_getElem h]
  simp only [List.map_append, List.map_cons, List.map_nil, List.append_assoc, List.cons_append, List.nil_append]
theorem own_get (cs : List Int32) {i : Nat} (h : i < cs.length) : (cs.map Value.int)[i]? = some (Value.int (cs.getD i 0)) := by
  simp [List.getElem?_eq_getElem, h, List.getD]
theorem own_mem (cs : List Int32) {i : Nat} (h : i < cs.length) : cs.getD i 0 ∈ cs := by
  have hd : cs.getD i 0 = cs[i] := by simp [List.getD, h]
  rw [hd]; exact List.getElem_mem h
theorem own_narB (x : Int32) : nar .byte (lo8 x) = lo8 x := by
  show (x.toInt8.toInt32).toInt8.toInt32 = x.toInt8.toInt32
  simp
theorem own_narC {c : Int32} (h0 : ¬ c < 0) (h1 : ¬ 255 < c) : nar .char c = c := by
  have e : (255 : Int32).toInt = 255 := rfl
  have e0 : (0 : Int32).toInt = 0 := rfl
  rw [Int32.lt_iff_toInt_lt] at h0 h1
  rw [e] at h1
  rw [e0] at h0
  apply Int32.toInt_inj.mp
  have h2 := c_i2c c
  show (c.toUInt32.toUInt16.toUInt32.toInt32).toInt = c.toInt
  omega
theorem own_c0 (n : Int32) : ((n - n).toUInt32 >>> ((31 : Int32) &&& 31).toUInt32).toInt32.toInt8.toInt32 = 0 := by
  have : n - n = 0 := by simp
  rw [this]; decide
theorem own_a0 {P : Int32 → Prop} : ∀ c ∈ ([] : List Int32), P c := fun _ q => nomatch q
theorem own_aS {P : Int32 → Prop} {x : Int32} {L : List Int32} (q : P x) (r : ∀ c ∈ L, P c) : ∀ c ∈ x :: L, P c := fun c z => (List.mem_cons.mp z).elim (fun u => u ▸ q) (r c)
/-- a String of Latin-1 chars -/
def StrL (Z : State) (h : Heap) (x : Addr) (t : Addr) (cs : List Int32) : Prop := Exa Z h x "java/lang/String" ∧ Fld Z h x "java/lang/String" "coder" "B" (.int 0) ∧ Fld Z h x "java/lang/String" "value" "[B" (.ref t) ∧ Ark Z h t .byte ((cs.map lo8).map Value.int)
theorem StrL.keep {Z : State} {h h' : Heap} {x t : Addr} {cs : List Int32} {ws : List Addr} (S : StrL Z h x t cs) (K : Keep h h' ws) (q1 : x ∉ ws) (q2 : t ∉ ws) : StrL Z h' x t cs := ⟨S.1.keep K, S.2.1.keep K q1, S.2.2.1.keep K q1, S.2.2.2.keep K q2⟩
theorem StrL.ext {Z : State} {h h' : Heap} {x t : Addr} {cs : List Int32} (S : StrL Z h x t cs) (E : Ext h h') : StrL Z h' x t cs := ⟨S.1.ext E, S.2.1.ext E, S.2.2.1.ext E, S.2.2.2.ext E⟩

def own_EL : List (String × Nat) := [("java/lang/String", 7)]
theorem own_EW {Z : State} {a0 : Array Value} (hw : ∀ d ∈ tables_1, d.before a0 Z = true) : EW Z a0 own_EL := (EW.cons (text := "") (hw _ (List.mem_of_getElem? (i := 14) rfl)) (by decide) EW.nil)
theorem own_held {tb : Tables} {e : Env} {args : Array Value} {s : State} (hc : Calls_1 tb e args s) : ∀ p ∈ own_EL, Jvm.Lit.constHeld s p.1 p.2 := fun p hp => hc.1 p ((by decide +kernel : ∀ p ∈ own_EL, p ∈ consts_1) p hp)
def own_sel (x0 x1 x2 x3 x4 x5 x6 x7 : Addr) (p : Int32) : Addr := if p = 0 then x0 else if p = 1 then x1 else if p = 2 then x2 else if p = 3 then x3 else if p = 4 then x4 else if p = 5 then x5 else if p = 6 then x6 else x7
theorem own_255 (x : Int32) : ¬ (x &&& 255).toUInt32.toUInt16.toUInt32.toInt32 < 0 ∧ ¬ 255 < (x &&& 255).toUInt32.toUInt16.toUInt32.toInt32 := by
  rw [i2c_mask]
  have h := c_and x 255 (by decide)
  have e : (255 : Int32).toInt = 255 := rfl
  have e0 : (0 : Int32).toInt = 0 := rfl
  rw [Int32.lt_iff_toInt_lt, Int32.lt_iff_toInt_lt, e, e0]
  rw [e] at h
  omega
theorem pn_com_example_formal_model_translator_formalmodeltranslator_classicalb_TokenGetLabelPinLaw : plainName "com/example/formal_model_translator/formalmodeltranslator/classicalb/TokenGetLabelPinLaw" = true := by first | (simp [plainName, overriddenIn]; done) | decide +kernel
theorem d8_0 : decode method_2_code 0 = .ok (.iload_n 0, 1) := by decide +kernel
theorem d8_1 : decode method_2_code 1 = .ok (.bipush 7, 2) := by decide +kernel
theorem d8_3 : decode method_2_code 3 = .ok (.iand, 1) := by decide +kernel
theorem d8_4 : decode method_2_code 4 = .ok (.istore_n 1, 1) := by decide +kernel
theorem d8_5 : decode method_2_code 5 = .ok (.iload_n 1, 1) := by decide +kernel
theorem d8_6 : decode method_2_code 6 = .ok (.ifCond .ne 7, 3) := by decide +kernel
theorem d8_9 : decode method_2_code 9 = .ok (.getstatic 7, 3) := by decide +kernel
theorem d8_12 : decode method_2_code 12 = .ok (.areturn, 1) := by decide +kernel
theorem d8_13 : decode method_2_code 13 = .ok (.iload_n 1, 1) := by decide +kernel
theorem d8_14 : decode method_2_code 14 = .ok (.iconst 1, 1) := by decide +kernel
theorem d8_15 : decode method_2_code 15 = .ok (.if_icmp .ne 7, 3) := by decide +kernel
theorem d8_18 : decode method_2_code 18 = .ok (.getstatic 13, 3) := by decide +kernel
theorem d8_21 : decode method_2_code 21 = .ok (.areturn, 1) := by decide +kernel
theorem d8_22 : decode method_2_code 22 = .ok (.iload_n 1, 1) := by decide +kernel
theorem d8_23 : decode method_2_code 23 = .ok (.iconst 2, 1) := by decide +kernel
theorem d8_24 : decode method_2_code 24 = .ok (.if_icmp .ne 7, 3) := by decide +kernel
theorem d8_27 : decode method_2_code 27 = .ok (.getstatic 16, 3) := by decide +kernel
theorem d8_30 : decode method_2_code 30 = .ok (.areturn, 1) := by decide +kernel
theorem d8_31 : decode method_2_code 31 = .ok (.iload_n 1, 1) := by decide +kernel
theorem d8_32 : decode method_2_code 32 = .ok (.iconst 3, 1) := by decide +kernel
theorem d8_33 : decode method_2_code 33 = .ok (.if_icmp .ne 7, 3) := by decide +kernel
theorem d8_36 : decode method_2_code 36 = .ok (.getstatic 19, 3) := by decide +kernel
theorem d8_39 : decode method_2_code 39 = .ok (.areturn, 1) := by decide +kernel
theorem d8_40 : decode method_2_code 40 = .ok (.iload_n 1, 1) := by decide +kernel
theorem d8_41 : decode method_2_code 41 = .ok (.iconst 4, 1) := by decide +kernel
theorem d8_42 : decode method_2_code 42 = .ok (.if_icmp .ne 7, 3) := by decide +kernel
theorem d8_45 : decode method_2_code 45 = .ok (.getstatic 22, 3) := by decide +kernel
theorem d8_48 : decode method_2_code 48 = .ok (.areturn, 1) := by decide +kernel
theorem d8_49 : decode method_2_code 49 = .ok (.iload_n 1, 1) := by decide +kernel
theorem d8_50 : decode method_2_code 50 = .ok (.iconst 5, 1) := by decide +kernel
theorem d8_51 : decode method_2_code 51 = .ok (.if_icmp .ne 7, 3) := by decide +kernel
theorem d8_54 : decode method_2_code 54 = .ok (.getstatic 25, 3) := by decide +kernel
theorem d8_57 : decode method_2_code 57 = .ok (.areturn, 1) := by decide +kernel
theorem d8_58 : decode method_2_code 58 = .ok (.iload_n 1, 1) := by decide +kernel
theorem d8_59 : decode method_2_code 59 = .ok (.bipush 6, 2) := by decide +kernel
theorem d8_61 : decode method_2_code 61 = .ok (.if_icmp .ne 7, 3) := by decide +kernel
theorem d8_64 : decode method_2_code 64 = .ok (.getstatic 28, 3) := by decide +kernel
theorem d8_67 : decode method_2_code 67 = .ok (.areturn, 1) := by decide +kernel
theorem d8_68 : decode method_2_code 68 = .ok (.getstatic 31, 3) := by decide +kernel
theorem d8_71 : decode method_2_code 71 = .ok (.areturn, 1) := by decide +kernel
theorem ef_rm8 (m : MethodId) (x0 : Int32) : entryFrame m #[(.int x0)] 2 = mkF m 0 #[.val (.int x0), .unset] [] := by first | (simp [entryFrame, mkF, argsToLocals, Value.category]; done) | rfl
set_option maxRecDepth 65536 in
set_option maxHeartbeats 40000000 in
theorem rm8 (l : Launch) (Z : State) (a0 : Array Value) (hw : ∀ d ∈ tables_1, d.before a0 Z = true) (hE : EW Z a0 own_EL) (ws : List Jvm.Cond) (p0 : Int32) (h0 : Heap) (n0 : Nat) (O0 : Old Z n0 h0) (a_IDENTIFIER : Addr) (S_IDENTIFIER : Sta Z Z.heap "com/example/formal_model_translator/formalmodeltranslator/classicalb/Token$Kind" "IDENTIFIER" "Lcom/example/formal_model_translator/formalmodeltranslator/classicalb/Token$Kind;" (.ref a_IDENTIFIER)) (E_IDENTIFIER : Exa Z Z.heap a_IDENTIFIER "com/example/formal_model_translator/formalmodeltranslator/classicalb/Token$Kind") (a_FAULT : Addr) (S_FAULT : Sta Z Z.heap "com/example/formal_model_translator/formalmodeltranslator/classicalb/Token$Kind" "FAULT" "Lcom/example/formal_model_translator/formalmodeltranslator/classicalb/Token$Kind;" (.ref a_FAULT)) (E_FAULT : Exa Z Z.heap a_FAULT "com/example/formal_model_translator/formalmodeltranslator/classicalb/Token$Kind") (a_INTEGER : Addr) (S_INTEGER : Sta Z Z.heap "com/example/formal_model_translator/formalmodeltranslator/classicalb/Token$Kind" "INTEGER" "Lcom/example/formal_model_translator/formalmodeltranslator/classicalb/Token$Kind;" (.ref a_INTEGER)) (E_INTEGER : Exa Z Z.heap a_INTEGER "com/example/formal_model_translator/formalmodeltranslator/classicalb/Token$Kind") (a_LITERAL : Addr) (S_LITERAL : Sta Z Z.heap "com/example/formal_model_translator/formalmodeltranslator/classicalb/Token$Kind" "LITERAL" "Lcom/example/formal_model_translator/formalmodeltranslator/classicalb/Token$Kind;" (.ref a_LITERAL)) (E_LITERAL : Exa Z Z.heap a_LITERAL "com/example/formal_model_translator/formalmodeltranslator/classicalb/Token$Kind") (a_SYMBOL : Addr) (S_SYMBOL : Sta Z Z.heap "com/example/formal_model_translator/formalmodeltranslator/classicalb/Token$Kind" "SYMBOL" "Lcom/example/formal_model_translator/formalmodeltranslator/classicalb/Token$Kind;" (.ref a_SYMBOL)) (E_SYMBOL : Exa Z Z.heap a_SYMBOL "com/example/formal_model_translator/formalmodeltranslator/classicalb/Token$Kind") (a_STRING : Addr) (S_STRING : Sta Z Z.heap "com/example/formal_model_translator/formalmodeltranslator/classicalb/Token$Kind" "STRING" "Lcom/example/formal_model_translator/formalmodeltranslator/classicalb/Token$Kind;" (.ref a_STRING)) (E_STRING : Exa Z Z.heap a_STRING "com/example/formal_model_translator/formalmodeltranslator/classicalb/Token$Kind") (a_END_OF_TEXT : Addr) (S_END_OF_TEXT : Sta Z Z.heap "com/example/formal_model_translator/formalmodeltranslator/classicalb/Token$Kind" "END_OF_TEXT" "Lcom/example/formal_model_translator/formalmodeltranslator/classicalb/Token$Kind;" (.ref a_END_OF_TEXT)) (E_END_OF_TEXT : Exa Z Z.heap a_END_OF_TEXT "com/example/formal_model_translator/formalmodeltranslator/classicalb/Token$Kind") (a_KEYWORD : Addr) (S_KEYWORD : Sta Z Z.heap "com/example/formal_model_translator/formalmodeltranslator/classicalb/Token$Kind" "KEYWORD" "Lcom/example/formal_model_translator/formalmodeltranslator/classicalb/Token$Kind;" (.ref a_KEYWORD)) (E_KEYWORD : Exa Z Z.heap a_KEYWORD "com/example/formal_model_translator/formalmodeltranslator/classicalb/Token$Kind") :
    Ctr False l Z own_EL (⟨"com/example/formal_model_translator/formalmodeltranslator/classicalb/TokenGetLabelPinLaw", "kindOf", "(I)Lcom/example/formal_model_translator/formalmodeltranslator/classicalb/Token$Kind;"⟩ : MethodName) method_2_code 2 (some (.object "com/example/formal_model_translator/formalmodeltranslator/classicalb/Token$Kind")) ws ({ frames := 0, cells := 0, slots := 0, locals := 0 } : Room) n0 ([]) #[(.int p0)] h0 (Rt (fun w h g => w = .ref (own_sel a_IDENTIFIER a_INTEGER a_KEYWORD a_LITERAL a_STRING a_SYMBOL a_END_OF_TEXT a_FAULT (p0 &&& 7)) ∧ h0 = h)) := by
  refine Ctr.of (plainFor_of_name pn_com_example_formal_model_translator_formalmodeltranslator_classicalb_TokenGetLabelPinLaw) hE (fun m => ef_rm8 m p0) ?_
  intro p e s m below meth c T0 X0
  have Z0 : Keep h0 h0 [] := Keep.refl _ _
  refine OwnW.iloadN X0 (n := 1) d8_0 rfl rfl ?_
  refine OwnW.bipush X0 (z := (7 : Int32)) (n := 3) d8_1 rfl rfl ?_
  refine OwnW.iand X0 (n := 4) d8_3 rfl ?_
  refine OwnW.istoreN X0 (l' := #[.val (.int p0), .val (.int (p0 &&& (7 : Int32)))]) (n := 5) d8_4 rfl rfl ?_
  refine OwnW.iloadN X0 (n := 6) d8_5 rfl rfl ?_
  refine OwnW.if_ne X0  (n1 := 13) (n2 := 9) d8_6 (by decide) rfl rfl (fun hc6 => ?_) (fun hc6 => ?_)
  · refine OwnW.iloadN X0 (n := 14) d8_13 rfl rfl ?_
    refine OwnW.iconst X0 (z := (1 : Int32)) (n := 15) d8_14 rfl rfl ?_
    refine OwnW.ic_ne X0  (n1 := 22) (n2 := 18) d8_15 (by decide) rfl rfl (fun hc15 => ?_) (fun hc15 => ?_)
    · refine OwnW.iloadN X0 (n := 23) d8_22 rfl rfl ?_
      refine OwnW.iconst X0 (z := (2 : Int32)) (n := 24) d8_23 rfl rfl ?_
      refine OwnW.ic_ne X0  (n1 := 31) (n2 := 27) d8_24 (by decide) rfl rfl (fun hc24 => ?_) (fun hc24 => ?_)
      · refine OwnW.iloadN X0 (n := 32) d8_31 rfl rfl ?_
        refine OwnW.iconst X0 (z := (3 : Int32)) (n := 33) d8_32 rfl rfl ?_
        refine OwnW.ic_ne X0  (n1 := 40) (n2 := 36) d8_33 (by decide) rfl rfl (fun hc33 => ?_) (fun hc33 => ?_)
        · refine OwnW.iloadN X0 (n := 41) d8_40 rfl rfl ?_
          refine OwnW.iconst X0 (z := (4 : Int32)) (n := 42) d8_41 rfl rfl ?_
          refine OwnW.ic_ne X0  (n1 := 49) (n2 := 45) d8_42 (by decide) rfl rfl (fun hc42 => ?_) (fun hc42 => ?_)
          · refine OwnW.iloadN X0 (n := 50) d8_49 rfl rfl ?_
            refine OwnW.iconst X0 (z := (5 : Int32)) (n := 51) d8_50 rfl rfl ?_
            refine OwnW.ic_ne X0  (n1 := 58) (n2 := 54) d8_51 (by decide) rfl rfl (fun hc51 => ?_) (fun hc51 => ?_)
            · refine OwnW.iloadN X0 (n := 59) d8_58 rfl rfl ?_
              refine OwnW.bipush X0 (z := (6 : Int32)) (n := 61) d8_59 rfl rfl ?_
              refine OwnW.ic_ne X0  (n1 := 68) (n2 := 64) d8_61 (by decide) rfl rfl (fun hc61 => ?_) (fun hc61 => ?_)
              · refine OwnW.getstatic X0 (n := 71) d8_68 (hw _ (List.mem_of_getElem? (i := 73) rfl)) Via.refl (S_FAULT.ext O0.2) rfl ?_
                intro T1 X1
                exact OwnW.areturn X1 rfl rfl rfl d8_71 ⟨by simp [own_sel, hc6, hc15, hc24, hc33, hc42, hc51, hc61], rfl⟩ (by decide) (by decide)
              · refine OwnW.getstatic X0 (n := 67) d8_64 (hw _ (List.mem_of_getElem? (i := 114) rfl)) Via.refl (S_END_OF_TEXT.ext O0.2) rfl ?_
                intro T2 X2
                exact OwnW.areturn X2 rfl rfl rfl d8_67 ⟨by simp [own_sel, hc6, hc15, hc24, hc33, hc42, hc51, hc61], rfl⟩ (by decide) (by decide)
            · refine OwnW.getstatic X0 (n := 57) d8_54 (hw _ (List.mem_of_getElem? (i := 110) rfl)) Via.refl (S_SYMBOL.ext O0.2) rfl ?_
              intro T3 X3
              exact OwnW.areturn X3 rfl rfl rfl d8_57 ⟨by simp [own_sel, hc6, hc15, hc24, hc33, hc42, hc51], rfl⟩ (by decide) (by decide)
          · refine OwnW.getstatic X0 (n := 48) d8_45 (hw _ (List.mem_of_getElem? (i := 112) rfl)) Via.refl (S_STRING.ext O0.2) rfl ?_
            intro T4 X4
            exact OwnW.areturn X4 rfl rfl rfl d8_48 ⟨by simp [own_sel, hc6, hc15, hc24, hc33, hc42], rfl⟩ (by decide) (by decide)
        · refine OwnW.getstatic X0 (n := 39) d8_36 (hw _ (List.mem_of_getElem? (i := 108) rfl)) Via.refl (S_LITERAL.ext O0.2) rfl ?_
          intro T5 X5
          exact OwnW.areturn X5 rfl rfl rfl d8_39 ⟨by simp [own_sel, hc6, hc15, hc24, hc33], rfl⟩ (by decide) (by decide)
      · refine OwnW.getstatic X0 (n := 30) d8_27 (hw _ (List.mem_of_getElem? (i := 116) rfl)) Via.refl (S_KEYWORD.ext O0.2) rfl ?_
        intro T6 X6
        exact OwnW.areturn X6 rfl rfl rfl d8_30 ⟨by simp [own_sel, hc6, hc15, hc24], rfl⟩ (by decide) (by decide)
    · refine OwnW.getstatic X0 (n := 21) d8_18 (hw _ (List.mem_of_getElem? (i := 106) rfl)) Via.refl (S_INTEGER.ext O0.2) rfl ?_
      intro T7 X7
      exact OwnW.areturn X7 rfl rfl rfl d8_21 ⟨by simp [own_sel, hc6, hc15], rfl⟩ (by decide) (by decide)
  · refine OwnW.getstatic X0 (n := 12) d8_9 (hw _ (List.mem_of_getElem? (i := 41) rfl)) Via.refl (S_IDENTIFIER.ext O0.2) rfl ?_
    intro T8 X8
    exact OwnW.areturn X8 rfl rfl rfl d8_12 ⟨by simp [own_sel, hc6], rfl⟩ (by decide) (by decide)
theorem pn_com_example_formal_model_translator_formalmodeltranslator_classicalb_Token : plainName "com/example/formal_model_translator/formalmodeltranslator/classicalb/Token" = true := by first | (simp [plainName, overriddenIn]; done) | decide +kernel
theorem d10_0 : decode prog_33_method_3_code 0 = .ok (.aload_n 0, 1) := by decide +kernel
theorem d10_1 : decode prog_33_method_3_code 1 = .ok (.invokespecial 7, 3) := by decide +kernel
theorem d10_4 : decode prog_33_method_3_code 4 = .ok (.aload_n 0, 1) := by decide +kernel
theorem d10_5 : decode prog_33_method_3_code 5 = .ok (.aload_n 1, 1) := by decide +kernel
theorem d10_6 : decode prog_33_method_3_code 6 = .ok (.putfield 12, 3) := by decide +kernel
theorem d10_9 : decode prog_33_method_3_code 9 = .ok (.aload_n 0, 1) := by decide +kernel
theorem d10_10 : decode prog_33_method_3_code 10 = .ok (.aload_n 2, 1) := by decide +kernel
theorem d10_11 : decode prog_33_method_3_code 11 = .ok (.putfield 16, 3) := by decide +kernel
theorem d10_14 : decode prog_33_method_3_code 14 = .ok (.aload_n 0, 1) := by decide +kernel
theorem d10_15 : decode prog_33_method_3_code 15 = .ok (.aload_n 3, 1) := by decide +kernel
theorem d10_16 : decode prog_33_method_3_code 16 = .ok (.putfield 20, 3) := by decide +kernel
theorem d10_19 : decode prog_33_method_3_code 19 = .ok (.aload_n 0, 1) := by decide +kernel
theorem d10_20 : decode prog_33_method_3_code 20 = .ok (.aload 4, 2) := by decide +kernel
theorem d10_22 : decode prog_33_method_3_code 22 = .ok (.putfield 23, 3) := by decide +kernel
theorem d10_25 : decode prog_33_method_3_code 25 = .ok (.aload_n 0, 1) := by decide +kernel
theorem d10_26 : decode prog_33_method_3_code 26 = .ok (.aload 5, 2) := by decide +kernel
theorem d10_28 : decode prog_33_method_3_code 28 = .ok (.putfield 27, 3) := by decide +kernel
theorem d10_31 : decode prog_33_method_3_code 31 = .ok (.aload_n 0, 1) := by decide +kernel
theorem d10_32 : decode prog_33_method_3_code 32 = .ok (.iload 6, 2) := by decide +kernel
theorem d10_34 : decode prog_33_method_3_code 34 = .ok (.putfield 31, 3) := by decide +kernel
theorem d10_37 : decode prog_33_method_3_code 37 = .ok (.aload_n 0, 1) := by decide +kernel
theorem d10_38 : decode prog_33_method_3_code 38 = .ok (.aload 7, 2) := by decide +kernel
theorem d10_40 : decode prog_33_method_3_code 40 = .ok (.putfield 35, 3) := by decide +kernel
theorem d10_43 : decode prog_33_method_3_code 43 = .ok (.return_, 1) := by decide +kernel
theorem ef_rmT70 (m : MethodId) (x0 : Addr) (x1 : Addr) (x2 : Addr) (x3 : Addr) : entryFrame m #[(.ref x0), (.ref x1), (.ref x2), (.ref x3), .null, .null, (.int (0 : Int32)), .null] 8 = mkF m 0 #[.val (.ref x0), .val (.ref x1), .val (.ref x2), .val (.ref x3), .val .null, .val .null, .val (.int (0 : Int32)), .val .null] [] := by first | (simp [entryFrame, mkF, argsToLocals, Value.category]; done) | rfl
set_option maxRecDepth 65536 in
set_option maxHeartbeats 40000000 in
theorem rmT70 (l : Launch) (Z : State) (a0 : Array Value) (hw : ∀ d ∈ tables_1, d.before a0 Z = true) (hE : EW Z a0 own_EL) (ws : List Jvm.Cond) (r0 : Addr) (r1 : Addr) (r2 : Addr) (r3 : Addr) (h0 : Heap) (n0 : Nat) (O0 : Old Z n0 h0) (ge_r0 : n0 ≤ r0) (E0 : Exa Z h0 r0 "com/example/formal_model_translator/formalmodeltranslator/classicalb/Token") (u0 : Value) (Fi0 : Fld Z h0 r0 "com/example/formal_model_translator/formalmodeltranslator/classicalb/Token" "kind" "Lcom/example/formal_model_translator/formalmodeltranslator/classicalb/Token$Kind;" u0) (u1 : Value) (Fi1 : Fld Z h0 r0 "com/example/formal_model_translator/formalmodeltranslator/classicalb/Token" "text" "Ljava/lang/String;" u1) (u2 : Value) (Fi2 : Fld Z h0 r0 "com/example/formal_model_translator/formalmodeltranslator/classicalb/Token" "written" "Ljava/lang/String;" u2) (u3 : Value) (Fi3 : Fld Z h0 r0 "com/example/formal_model_translator/formalmodeltranslator/classicalb/Token" "position" "Lcom/example/formal_model_translator/formalmodeltranslator/model/SourcePosition;" u3) (u4 : Value) (Fi4 : Fld Z h0 r0 "com/example/formal_model_translator/formalmodeltranslator/classicalb/Token" "pragma" "Lcom/example/formal_model_translator/formalmodeltranslator/classicalb/LabelPragma;" u4) (u5 : Value) (Fi5 : Fld Z h0 r0 "com/example/formal_model_translator/formalmodeltranslator/classicalb/Token" "opensBody" "Z" u5) (u6 : Value) (Fi6 : Fld Z h0 r0 "com/example/formal_model_translator/formalmodeltranslator/classicalb/Token" "fault" "Ljava/lang/String;" u6) :
    Ctr False l Z own_EL (⟨"com/example/formal_model_translator/formalmodeltranslator/classicalb/Token", "<init>", "(Lcom/example/formal_model_translator/formalmodeltranslator/classicalb/Token$Kind;Ljava/lang/String;Ljava/lang/String;Lcom/example/formal_model_translator/formalmodeltranslator/model/SourcePosition;Lcom/example/formal_model_translator/formalmodeltranslator/classicalb/LabelPragma;ZLjava/lang/String;)V"⟩ : MethodName) prog_33_method_3_code 8 none ws ({ frames := 1, cells := 0, slots := 0, locals := 12 } : Room) n0 (r0 :: []) #[(.ref r0), (.ref r1), (.ref r2), (.ref r3), .null, .null, (.int (0 : Int32)), .null] h0 (Rn (fun h g => Keep h0 h [r0] ∧ Fld Z h r0 "com/example/formal_model_translator/formalmodeltranslator/classicalb/Token" "pragma" "Lcom/example/formal_model_translator/formalmodeltranslator/classicalb/LabelPragma;" .null)) := by
  refine Ctr.of (plainFor_of_name pn_com_example_formal_model_translator_formalmodeltranslator_classicalb_Token) hE (fun m => ef_rmT70 m r0 r1 r2 r3) ?_
  intro p e s m below meth c T0 X0
  have Z0 : Keep h0 h0 [r0] := Keep.refl _ _
  refine OwnW.aloadN X0 (n := 1) d10_0 rfl rfl rfl ?_
  refine OwnW.initObj X0 (W := 0) (n := 4) d10_1 (hw _ (List.mem_of_getElem? (i := 53) rfl)) (hw _ (List.mem_of_getElem? (i := 12) rfl)) (hw _ (List.mem_of_getElem? (i := 13) rfl)) rfl (by decide) (by decide) (by decide) rfl ?_
  intro T1 X1
  refine OwnW.aloadN X1 (n := 5) d10_4 rfl rfl rfl ?_
  refine OwnW.aloadN X1 (n := 6) d10_5 rfl rfl rfl ?_
  refine OwnW.putfield X1 (ty := (.object "com/example/formal_model_translator/formalmodeltranslator/classicalb/Token$Kind")) (v' := (.ref r1)) (n := 9) d10_6 (hw _ (List.mem_of_getElem? (i := 54) rfl)) Via.refl Fi0 E0 (Or.inr ⟨(hw _ (List.mem_of_getElem? (i := 55) rfl)), rfl, rfl⟩) (hw _ (List.mem_of_getElem? (i := 45) rfl)) (by decide) rfl rfl ge_r0 (List.mem_cons_self ..) rfl ?_
  intro T2 h2 X2 W2 Fw2
  have f3 := Fi1.other W2 (Or.inr (slot_ne (Or.inr (hw _ (List.mem_of_getElem? (i := 57) rfl))) (Or.inr (hw _ (List.mem_of_getElem? (i := 55) rfl))) (by decide) (t := (.object "java/lang/String")) (t' := (.object "com/example/formal_model_translator/formalmodeltranslator/classicalb/Token$Kind")) (by decide) (by decide)))
  have f4 := Fi2.other W2 (Or.inr (slot_ne (Or.inr (hw _ (List.mem_of_getElem? (i := 59) rfl))) (Or.inr (hw _ (List.mem_of_getElem? (i := 55) rfl))) (by decide) (t := (.object "java/lang/String")) (t' := (.object "com/example/formal_model_translator/formalmodeltranslator/classicalb/Token$Kind")) (by decide) (by decide)))
  have f5 := Fi3.other W2 (Or.inr (slot_ne (Or.inr (hw _ (List.mem_of_getElem? (i := 61) rfl))) (Or.inr (hw _ (List.mem_of_getElem? (i := 55) rfl))) (by decide) (t := (.object "com/example/formal_model_translator/formalmodeltranslator/model/SourcePosition")) (t' := (.object "com/example/formal_model_translator/formalmodeltranslator/classicalb/Token$Kind")) (by decide) (by decide)))
  have f6 := Fi4.other W2 (Or.inr (slot_ne (Or.inr (hw _ (List.mem_of_getElem? (i := 63) rfl))) (Or.inr (hw _ (List.mem_of_getElem? (i := 55) rfl))) (by decide) (t := (.object "com/example/formal_model_translator/formalmodeltranslator/classicalb/LabelPragma")) (t' := (.object "com/example/formal_model_translator/formalmodeltranslator/classicalb/Token$Kind")) (by decide) (by decide)))
  have f7 := Fi5.other W2 (Or.inr (slot_ne (Or.inr (hw _ (List.mem_of_getElem? (i := 65) rfl))) (Or.inr (hw _ (List.mem_of_getElem? (i := 55) rfl))) (by decide) (t := .boolean) (t' := (.object "com/example/formal_model_translator/formalmodeltranslator/classicalb/Token$Kind")) (by decide) (by decide)))
  have f8 := Fi6.other W2 (Or.inr (slot_ne (Or.inr (hw _ (List.mem_of_getElem? (i := 67) rfl))) (Or.inr (hw _ (List.mem_of_getElem? (i := 55) rfl))) (by decide) (t := (.object "java/lang/String")) (t' := (.object "com/example/formal_model_translator/formalmodeltranslator/classicalb/Token$Kind")) (by decide) (by decide)))
  have K2 := (Keep.of_wr W2)
  have O2 := O0.keep K2 (allS ge_r0 all0)
  have Z2 : Keep h0 h2 [r0] := Z0.trans K2 (allS (P := fun x => x ∈ [r0] ∨ h0.size ≤ x) (Or.inl (List.mem_of_getElem? (i := 0) rfl)) all0)
  refine OwnW.aloadN X2 (n := 10) d10_9 rfl rfl rfl ?_
  refine OwnW.aloadN X2 (n := 11) d10_10 rfl rfl rfl ?_
  have f9 := (E0.keep K2)
  refine OwnW.putfield X2 (ty := (.object "java/lang/String")) (v' := (.ref r2)) (n := 14) d10_11 (hw _ (List.mem_of_getElem? (i := 56) rfl)) Via.refl f3 f9 (Or.inr ⟨(hw _ (List.mem_of_getElem? (i := 57) rfl)), rfl, rfl⟩) (hw _ (List.mem_of_getElem? (i := 45) rfl)) (by decide) rfl rfl ge_r0 (List.mem_cons_self ..) rfl ?_
  intro T10 h10 X10 W10 Fw10
  have f11 := Fw2.other W10 (Or.inr (slot_ne (Or.inr (hw _ (List.mem_of_getElem? (i := 55) rfl))) (Or.inr (hw _ (List.mem_of_getElem? (i := 57) rfl))) (by decide) (t := (.object "com/example/formal_model_translator/formalmodeltranslator/classicalb/Token$Kind")) (t' := (.object "java/lang/String")) (by decide) (by decide)))
  have f12 := f4.other W10 (Or.inr (slot_ne (Or.inr (hw _ (List.mem_of_getElem? (i := 59) rfl))) (Or.inr (hw _ (List.mem_of_getElem? (i := 57) rfl))) (by decide) (t := (.object "java/lang/String")) (t' := (.object "java/lang/String")) (by decide) (by decide)))
  have f13 := f5.other W10 (Or.inr (slot_ne (Or.inr (hw _ (List.mem_of_getElem? (i := 61) rfl))) (Or.inr (hw _ (List.mem_of_getElem? (i := 57) rfl))) (by decide) (t := (.object "com/example/formal_model_translator/formalmodeltranslator/model/SourcePosition")) (t' := (.object "java/lang/String")) (by decide) (by decide)))
  have f14 := f6.other W10 (Or.inr (slot_ne (Or.inr (hw _ (List.mem_of_getElem? (i := 63) rfl))) (Or.inr (hw _ (List.mem_of_getElem? (i := 57) rfl))) (by decide) (t := (.object "com/example/formal_model_translator/formalmodeltranslator/classicalb/LabelPragma")) (t' := (.object "java/lang/String")) (by decide) (by decide)))
  have f15 := f7.other W10 (Or.inr (slot_ne (Or.inr (hw _ (List.mem_of_getElem? (i := 65) rfl))) (Or.inr (hw _ (List.mem_of_getElem? (i := 57) rfl))) (by decide) (t := .boolean) (t' := (.object "java/lang/String")) (by decide) (by decide)))
  have f16 := f8.other W10 (Or.inr (slot_ne (Or.inr (hw _ (List.mem_of_getElem? (i := 67) rfl))) (Or.inr (hw _ (List.mem_of_getElem? (i := 57) rfl))) (by decide) (t := (.object "java/lang/String")) (t' := (.object "java/lang/String")) (by decide) (by decide)))
  have K10 := (Keep.of_wr W10)
  have O10 := O2.keep K10 (allS ge_r0 all0)
  have Z10 : Keep h0 h10 [r0] := Z2.trans K10 (allS (P := fun x => x ∈ [r0] ∨ h0.size ≤ x) (Or.inl (List.mem_of_getElem? (i := 0) rfl)) all0)
  refine OwnW.aloadN X10 (n := 15) d10_14 rfl rfl rfl ?_
  refine OwnW.aloadN X10 (n := 16) d10_15 rfl rfl rfl ?_
  have f17 := (f9.keep K10)
  refine OwnW.putfield X10 (ty := (.object "java/lang/String")) (v' := (.ref r3)) (n := 19) d10_16 (hw _ (List.mem_of_getElem? (i := 58) rfl)) Via.refl f12 f17 (Or.inr ⟨(hw _ (List.mem_of_getElem? (i := 59) rfl)), rfl, rfl⟩) (hw _ (List.mem_of_getElem? (i := 45) rfl)) (by decide) rfl rfl ge_r0 (List.mem_cons_self ..) rfl ?_
  intro T18 h18 X18 W18 Fw18
  have f19 := f11.other W18 (Or.inr (slot_ne (Or.inr (hw _ (List.mem_of_getElem? (i := 55) rfl))) (Or.inr (hw _ (List.mem_of_getElem? (i := 59) rfl))) (by decide) (t := (.object "com/example/formal_model_translator/formalmodeltranslator/classicalb/Token$Kind")) (t' := (.object "java/lang/String")) (by decide) (by decide)))
  have f20 := Fw10.other W18 (Or.inr (slot_ne (Or.inr (hw _ (List.mem_of_getElem? (i := 57) rfl))) (Or.inr (hw _ (List.mem_of_getElem? (i := 59) rfl))) (by decide) (t := (.object "java/lang/String")) (t' := (.object "java/lang/String")) (by decide) (by decide)))
  have f21 := f13.other W18 (Or.inr (slot_ne (Or.inr (hw _ (List.mem_of_getElem? (i := 61) rfl))) (Or.inr (hw _ (List.mem_of_getElem? (i := 59) rfl))) (by decide) (t := (.object "com/example/formal_model_translator/formalmodeltranslator/model/SourcePosition")) (t' := (.object "java/lang/String")) (by decide) (by decide)))
  have f22 := f14.other W18 (Or.inr (slot_ne (Or.inr (hw _ (List.mem_of_getElem? (i := 63) rfl))) (Or.inr (hw _ (List.mem_of_getElem? (i := 59) rfl))) (by decide) (t := (.object "com/example/formal_model_translator/formalmodeltranslator/classicalb/LabelPragma")) (t' := (.object "java/lang/String")) (by decide) (by decide)))
  have f23 := f15.other W18 (Or.inr (slot_ne (Or.inr (hw _ (List.mem_of_getElem? (i := 65) rfl))) (Or.inr (hw _ (List.mem_of_getElem? (i := 59) rfl))) (by decide) (t := .boolean) (t' := (.object "java/lang/String")) (by decide) (by decide)))
  have f24 := f16.other W18 (Or.inr (slot_ne (Or.inr (hw _ (List.mem_of_getElem? (i := 67) rfl))) (Or.inr (hw _ (List.mem_of_getElem? (i := 59) rfl))) (by decide) (t := (.object "java/lang/String")) (t' := (.object "java/lang/String")) (by decide) (by decide)))
  have K18 := (Keep.of_wr W18)
  have O18 := O10.keep K18 (allS ge_r0 all0)
  have Z18 : Keep h0 h18 [r0] := Z10.trans K18 (allS (P := fun x => x ∈ [r0] ∨ h0.size ≤ x) (Or.inl (List.mem_of_getElem? (i := 0) rfl)) all0)
  refine OwnW.aloadN X18 (n := 20) d10_19 rfl rfl rfl ?_
  refine OwnW.aload X18 (n := 22) d10_20 rfl rfl rfl ?_
  have f25 := (f17.keep K18)
  refine OwnW.putfield X18 (ty := (.object "com/example/formal_model_translator/formalmodeltranslator/model/SourcePosition")) (v' := .null) (n := 25) d10_22 (hw _ (List.mem_of_getElem? (i := 60) rfl)) Via.refl f21 f25 (Or.inr ⟨(hw _ (List.mem_of_getElem? (i := 61) rfl)), rfl, rfl⟩) (hw _ (List.mem_of_getElem? (i := 45) rfl)) (by decide) rfl rfl ge_r0 (List.mem_cons_self ..) rfl ?_
  intro T26 h26 X26 W26 Fw26
  have f27 := f19.other W26 (Or.inr (slot_ne (Or.inr (hw _ (List.mem_of_getElem? (i := 55) rfl))) (Or.inr (hw _ (List.mem_of_getElem? (i := 61) rfl))) (by decide) (t := (.object "com/example/formal_model_translator/formalmodeltranslator/classicalb/Token$Kind")) (t' := (.object "com/example/formal_model_translator/formalmodeltranslator/model/SourcePosition")) (by decide) (by decide)))
  have f28 := f20.other W26 (Or.inr (slot_ne (Or.inr (hw _ (List.mem_of_getElem? (i := 57) rfl))) (Or.inr (hw _ (List.mem_of_getElem? (i := 61) rfl))) (by decide) (t := (.object "java/lang/String")) (t' := (.object "com/example/formal_model_translator/formalmodeltranslator/model/SourcePosition")) (by decide) (by decide)))
  have f29 := Fw18.other W26 (Or.inr (slot_ne (Or.inr (hw _ (List.mem_of_getElem? (i := 59) rfl))) (Or.inr (hw _ (List.mem_of_getElem? (i := 61) rfl))) (by decide) (t := (.object "java/lang/String")) (t' := (.object "com/example/formal_model_translator/formalmodeltranslator/model/SourcePosition")) (by decide) (by decide)))
  have f30 := f22.other W26 (Or.inr (slot_ne (Or.inr (hw _ (List.mem_of_getElem? (i := 63) rfl))) (Or.inr (hw _ (List.mem_of_getElem? (i := 61) rfl))) (by decide) (t := (.object "com/example/formal_model_translator/formalmodeltranslator/classicalb/LabelPragma")) (t' := (.object "com/example/formal_model_translator/formalmodeltranslator/model/SourcePosition")) (by decide) (by decide)))
  have f31 := f23.other W26 (Or.inr (slot_ne (Or.inr (hw _ (List.mem_of_getElem? (i := 65) rfl))) (Or.inr (hw _ (List.mem_of_getElem? (i := 61) rfl))) (by decide) (t := .boolean) (t' := (.object "com/example/formal_model_translator/formalmodeltranslator/model/SourcePosition")) (by decide) (by decide)))
  have f32 := f24.other W26 (Or.inr (slot_ne (Or.inr (hw _ (List.mem_of_getElem? (i := 67) rfl))) (Or.inr (hw _ (List.mem_of_getElem? (i := 61) rfl))) (by decide) (t := (.object "java/lang/String")) (t' := (.object "com/example/formal_model_translator/formalmodeltranslator/model/SourcePosition")) (by decide) (by decide)))
  have K26 := (Keep.of_wr W26)
  have O26 := O18.keep K26 (allS ge_r0 all0)
  have Z26 : Keep h0 h26 [r0] := Z18.trans K26 (allS (P := fun x => x ∈ [r0] ∨ h0.size ≤ x) (Or.inl (List.mem_of_getElem? (i := 0) rfl)) all0)
  refine OwnW.aloadN X26 (n := 26) d10_25 rfl rfl rfl ?_
  refine OwnW.aload X26 (n := 28) d10_26 rfl rfl rfl ?_
  have f33 := (f25.keep K26)
  refine OwnW.putfield X26 (ty := (.object "com/example/formal_model_translator/formalmodeltranslator/classicalb/LabelPragma")) (v' := .null) (n := 31) d10_28 (hw _ (List.mem_of_getElem? (i := 62) rfl)) Via.refl f30 f33 (Or.inr ⟨(hw _ (List.mem_of_getElem? (i := 63) rfl)), rfl, rfl⟩) (hw _ (List.mem_of_getElem? (i := 45) rfl)) (by decide) rfl rfl ge_r0 (List.mem_cons_self ..) rfl ?_
  intro T34 h34 X34 W34 Fw34
  have f35 := f27.other W34 (Or.inr (slot_ne (Or.inr (hw _ (List.mem_of_getElem? (i := 55) rfl))) (Or.inr (hw _ (List.mem_of_getElem? (i := 63) rfl))) (by decide) (t := (.object "com/example/formal_model_translator/formalmodeltranslator/classicalb/Token$Kind")) (t' := (.object "com/example/formal_model_translator/formalmodeltranslator/classicalb/LabelPragma")) (by decide) (by decide)))
  have f36 := f28.other W34 (Or.inr (slot_ne (Or.inr (hw _ (List.mem_of_getElem? (i := 57) rfl))) (Or.inr (hw _ (List.mem_of_getElem? (i := 63) rfl))) (by decide) (t := (.object "java/lang/String")) (t' := (.object "com/example/formal_model_translator/formalmodeltranslator/classicalb/LabelPragma")) (by decide) (by decide)))
  have f37 := f29.other W34 (Or.inr (slot_ne (Or.inr (hw _ (List.mem_of_getElem? (i := 59) rfl))) (Or.inr (hw _ (List.mem_of_getElem? (i := 63) rfl))) (by decide) (t := (.object "java/lang/String")) (t' := (.object "com/example/formal_model_translator/formalmodeltranslator/classicalb/LabelPragma")) (by decide) (by decide)))
  have f38 := Fw26.other W34 (Or.inr (slot_ne (Or.inr (hw _ (List.mem_of_getElem? (i := 61) rfl))) (Or.inr (hw _ (List.mem_of_getElem? (i := 63) rfl))) (by decide) (t := (.object "com/example/formal_model_translator/formalmodeltranslator/model/SourcePosition")) (t' := (.object "com/example/formal_model_translator/formalmodeltranslator/classicalb/LabelPragma")) (by decide) (by decide)))
  have f39 := f31.other W34 (Or.inr (slot_ne (Or.inr (hw _ (List.mem_of_getElem? (i := 65) rfl))) (Or.inr (hw _ (List.mem_of_getElem? (i := 63) rfl))) (by decide) (t := .boolean) (t' := (.object "com/example/formal_model_translator/formalmodeltranslator/classicalb/LabelPragma")) (by decide) (by decide)))
  have f40 := f32.other W34 (Or.inr (slot_ne (Or.inr (hw _ (List.mem_of_getElem? (i := 67) rfl))) (Or.inr (hw _ (List.mem_of_getElem? (i := 63) rfl))) (by decide) (t := (.object "java/lang/String")) (t' := (.object "com/example/formal_model_translator/formalmodeltranslator/classicalb/LabelPragma")) (by decide) (by decide)))
  have K34 := (Keep.of_wr W34)
  have O34 := O26.keep K34 (allS ge_r0 all0)
  have Z34 : Keep h0 h34 [r0] := Z26.trans K34 (allS (P := fun x => x ∈ [r0] ∨ h0.size ≤ x) (Or.inl (List.mem_of_getElem? (i := 0) rfl)) all0)
  refine OwnW.aloadN X34 (n := 32) d10_31 rfl rfl rfl ?_
  refine OwnW.iload X34 (n := 34) d10_32 rfl rfl ?_
  have f41 := (f33.keep K34)
  refine OwnW.putfield X34 (ty := .boolean) (v' := (.int (0 : Int32))) (n := 37) d10_34 (hw _ (List.mem_of_getElem? (i := 64) rfl)) Via.refl f39 f41 (Or.inr ⟨(hw _ (List.mem_of_getElem? (i := 65) rfl)), rfl, rfl⟩) (hw _ (List.mem_of_getElem? (i := 45) rfl)) (by decide) rfl rfl ge_r0 (List.mem_cons_self ..) rfl ?_
  intro T42 h42 X42 W42 Fw42
  have f43 := f35.other W42 (Or.inr (slot_ne (Or.inr (hw _ (List.mem_of_getElem? (i := 55) rfl))) (Or.inr (hw _ (List.mem_of_getElem? (i := 65) rfl))) (by decide) (t := (.object "com/example/formal_model_translator/formalmodeltranslator/classicalb/Token$Kind")) (t' := .boolean) (by decide) (by decide)))
  have f44 := f36.other W42 (Or.inr (slot_ne (Or.inr (hw _ (List.mem_of_getElem? (i := 57) rfl))) (Or.inr (hw _ (List.mem_of_getElem? (i := 65) rfl))) (by decide) (t := (.object "java/lang/String")) (t' := .boolean) (by decide) (by decide)))
  have f45 := f37.other W42 (Or.inr (slot_ne (Or.inr (hw _ (List.mem_of_getElem? (i := 59) rfl))) (Or.inr (hw _ (List.mem_of_getElem? (i := 65) rfl))) (by decide) (t := (.object "java/lang/String")) (t' := .boolean) (by decide) (by decide)))
  have f46 := f38.other W42 (Or.inr (slot_ne (Or.inr (hw _ (List.mem_of_getElem? (i := 61) rfl))) (Or.inr (hw _ (List.mem_of_getElem? (i := 65) rfl))) (by decide) (t := (.object "com/example/formal_model_translator/formalmodeltranslator/model/SourcePosition")) (t' := .boolean) (by decide) (by decide)))
  have f47 := Fw34.other W42 (Or.inr (slot_ne (Or.inr (hw _ (List.mem_of_getElem? (i := 63) rfl))) (Or.inr (hw _ (List.mem_of_getElem? (i := 65) rfl))) (by decide) (t := (.object "com/example/formal_model_translator/formalmodeltranslator/classicalb/LabelPragma")) (t' := .boolean) (by decide) (by decide)))
  have f48 := f40.other W42 (Or.inr (slot_ne (Or.inr (hw _ (List.mem_of_getElem? (i := 67) rfl))) (Or.inr (hw _ (List.mem_of_getElem? (i := 65) rfl))) (by decide) (t := (.object "java/lang/String")) (t' := .boolean) (by decide) (by decide)))
  have K42 := (Keep.of_wr W42)
  have O42 := O34.keep K42 (allS ge_r0 all0)
  have Z42 : Keep h0 h42 [r0] := Z34.trans K42 (allS (P := fun x => x ∈ [r0] ∨ h0.size ≤ x) (Or.inl (List.mem_of_getElem? (i := 0) rfl)) all0)
  refine OwnW.aloadN X42 (n := 38) d10_37 rfl rfl rfl ?_
  refine OwnW.aload X42 (n := 40) d10_38 rfl rfl rfl ?_
  have f49 := (f41.keep K42)
  refine OwnW.putfield X42 (ty := (.object "java/lang/String")) (v' := .null) (n := 43) d10_40 (hw _ (List.mem_of_getElem? (i := 66) rfl)) Via.refl f48 f49 (Or.inr ⟨(hw _ (List.mem_of_getElem? (i := 67) rfl)), rfl, rfl⟩) (hw _ (List.mem_of_getElem? (i := 45) rfl)) (by decide) rfl rfl ge_r0 (List.mem_cons_self ..) rfl ?_
  intro T50 h50 X50 W50 Fw50
  have f51 := f43.other W50 (Or.inr (slot_ne (Or.inr (hw _ (List.mem_of_getElem? (i := 55) rfl))) (Or.inr (hw _ (List.mem_of_getElem? (i := 67) rfl))) (by decide) (t := (.object "com/example/formal_model_translator/formalmodeltranslator/classicalb/Token$Kind")) (t' := (.object "java/lang/String")) (by decide) (by decide)))
  have f52 := f44.other W50 (Or.inr (slot_ne (Or.inr (hw _ (List.mem_of_getElem? (i := 57) rfl))) (Or.inr (hw _ (List.mem_of_getElem? (i := 67) rfl))) (by decide) (t := (.object "java/lang/String")) (t' := (.object "java/lang/String")) (by decide) (by decide)))
  have f53 := f45.other W50 (Or.inr (slot_ne (Or.inr (hw _ (List.mem_of_getElem? (i := 59) rfl))) (Or.inr (hw _ (List.mem_of_getElem? (i := 67) rfl))) (by decide) (t := (.object "java/lang/String")) (t' := (.object "java/lang/String")) (by decide) (by decide)))
  have f54 := f46.other W50 (Or.inr (slot_ne (Or.inr (hw _ (List.mem_of_getElem? (i := 61) rfl))) (Or.inr (hw _ (List.mem_of_getElem? (i := 67) rfl))) (by decide) (t := (.object "com/example/formal_model_translator/formalmodeltranslator/model/SourcePosition")) (t' := (.object "java/lang/String")) (by decide) (by decide)))
  have f55 := f47.other W50 (Or.inr (slot_ne (Or.inr (hw _ (List.mem_of_getElem? (i := 63) rfl))) (Or.inr (hw _ (List.mem_of_getElem? (i := 67) rfl))) (by decide) (t := (.object "com/example/formal_model_translator/formalmodeltranslator/classicalb/LabelPragma")) (t' := (.object "java/lang/String")) (by decide) (by decide)))
  have f56 := Fw42.other W50 (Or.inr (slot_ne (Or.inr (hw _ (List.mem_of_getElem? (i := 65) rfl))) (Or.inr (hw _ (List.mem_of_getElem? (i := 67) rfl))) (by decide) (t := .boolean) (t' := (.object "java/lang/String")) (by decide) (by decide)))
  have K50 := (Keep.of_wr W50)
  have O50 := O42.keep K50 (allS ge_r0 all0)
  have Z50 : Keep h0 h50 [r0] := Z42.trans K50 (allS (P := fun x => x ∈ [r0] ∨ h0.size ≤ x) (Or.inl (List.mem_of_getElem? (i := 0) rfl)) all0)
  exact OwnW.vreturn X50 rfl d10_43 ⟨Z50, f55⟩ (by decide) (by decide)
theorem pd__Lcom_example_formal_model_translator_formalmodeltranslator_classicalb_Token_Kind_Ljava_lang_String_Ljava_lang_String_Lcom_example_formal_model_translator_formalmodeltranslator_model_SourcePosition_Lcom_example_formal_model_translator_formalmodeltranslator_classicalb_LabelPragma_ZLjava_lang_String__V : parseMethodDescriptor "(Lcom/example/formal_model_translator/formalmodeltranslator/classicalb/Token$Kind;Ljava/lang/String;Ljava/lang/String;Lcom/example/formal_model_translator/formalmodeltranslator/model/SourcePosition;Lcom/example/formal_model_translator/formalmodeltranslator/classicalb/LabelPragma;ZLjava/lang/String;)V" = some ⟨[(.object "com/example/formal_model_translator/formalmodeltranslator/classicalb/Token$Kind"), (.object "java/lang/String"), (.object "java/lang/String"), (.object "com/example/formal_model_translator/formalmodeltranslator/model/SourcePosition"), (.object "com/example/formal_model_translator/formalmodeltranslator/classicalb/LabelPragma"), .boolean, (.object "java/lang/String")], none⟩ := by decide +kernel
theorem d9_0 : decode prog_33_method_1_code 0 = .ok (.aload_n 0, 1) := by decide +kernel
theorem d9_1 : decode prog_33_method_1_code 1 = .ok (.aload_n 1, 1) := by decide +kernel
theorem d9_2 : decode prog_33_method_1_code 2 = .ok (.aload_n 2, 1) := by decide +kernel
theorem d9_3 : decode prog_33_method_1_code 3 = .ok (.aload_n 2, 1) := by decide +kernel
theorem d9_4 : decode prog_33_method_1_code 4 = .ok (.aload_n 3, 1) := by decide +kernel
theorem d9_5 : decode prog_33_method_1_code 5 = .ok (.aload 4, 2) := by decide +kernel
theorem d9_7 : decode prog_33_method_1_code 7 = .ok (.iconst 0, 1) := by decide +kernel
theorem d9_8 : decode prog_33_method_1_code 8 = .ok (.aconst_null, 1) := by decide +kernel
theorem d9_9 : decode prog_33_method_1_code 9 = .ok (.invokespecial 1, 3) := by decide +kernel
theorem d9_12 : decode prog_33_method_1_code 12 = .ok (.return_, 1) := by decide +kernel
theorem ef_rmT40 (m : MethodId) (x0 : Addr) (x1 : Addr) (x2 : Addr) : entryFrame m #[(.ref x0), (.ref x1), (.ref x2), .null, .null] 5 = mkF m 0 #[.val (.ref x0), .val (.ref x1), .val (.ref x2), .val .null, .val .null] [] := by first | (simp [entryFrame, mkF, argsToLocals, Value.category]; done) | rfl
set_option maxRecDepth 65536 in
set_option maxHeartbeats 40000000 in
theorem rmT40 (l : Launch) (Z : State) (a0 : Array Value) (hw : ∀ d ∈ tables_1, d.before a0 Z = true) (hE : EW Z a0 own_EL) (ws : List Jvm.Cond) (r0 : Addr) (r1 : Addr) (r2 : Addr) (h0 : Heap) (n0 : Nat) (O0 : Old Z n0 h0) (ge_r0 : n0 ≤ r0) (E0 : Exa Z h0 r0 "com/example/formal_model_translator/formalmodeltranslator/classicalb/Token") (u0 : Value) (Fi0 : Fld Z h0 r0 "com/example/formal_model_translator/formalmodeltranslator/classicalb/Token" "kind" "Lcom/example/formal_model_translator/formalmodeltranslator/classicalb/Token$Kind;" u0) (u1 : Value) (Fi1 : Fld Z h0 r0 "com/example/formal_model_translator/formalmodeltranslator/classicalb/Token" "text" "Ljava/lang/String;" u1) (u2 : Value) (Fi2 : Fld Z h0 r0 "com/example/formal_model_translator/formalmodeltranslator/classicalb/Token" "written" "Ljava/lang/String;" u2) (u3 : Value) (Fi3 : Fld Z h0 r0 "com/example/formal_model_translator/formalmodeltranslator/classicalb/Token" "position" "Lcom/example/formal_model_translator/formalmodeltranslator/model/SourcePosition;" u3) (u4 : Value) (Fi4 : Fld Z h0 r0 "com/example/formal_model_translator/formalmodeltranslator/classicalb/Token" "pragma" "Lcom/example/formal_model_translator/formalmodeltranslator/classicalb/LabelPragma;" u4) (u5 : Value) (Fi5 : Fld Z h0 r0 "com/example/formal_model_translator/formalmodeltranslator/classicalb/Token" "opensBody" "Z" u5) (u6 : Value) (Fi6 : Fld Z h0 r0 "com/example/formal_model_translator/formalmodeltranslator/classicalb/Token" "fault" "Ljava/lang/String;" u6) :
    Ctr False l Z own_EL (⟨"com/example/formal_model_translator/formalmodeltranslator/classicalb/Token", "<init>", "(Lcom/example/formal_model_translator/formalmodeltranslator/classicalb/Token$Kind;Ljava/lang/String;Lcom/example/formal_model_translator/formalmodeltranslator/model/SourcePosition;Lcom/example/formal_model_translator/formalmodeltranslator/classicalb/LabelPragma;)V"⟩ : MethodName) prog_33_method_1_code 5 none ws ({ frames := 2, cells := 0, slots := 0, locals := 31 } : Room) n0 (r0 :: []) #[(.ref r0), (.ref r1), (.ref r2), .null, .null] h0 (Rn (fun h g => Keep h0 h [r0] ∧ Fld Z h r0 "com/example/formal_model_translator/formalmodeltranslator/classicalb/Token" "pragma" "Lcom/example/formal_model_translator/formalmodeltranslator/classicalb/LabelPragma;" .null)) := by
  refine Ctr.of (plainFor_of_name pn_com_example_formal_model_translator_formalmodeltranslator_classicalb_Token) hE (fun m => ef_rmT40 m r0 r1 r2) ?_
  intro p e s m below meth c T0 X0
  have Z0 : Keep h0 h0 [r0] := Keep.refl _ _
  refine OwnW.aloadN X0 (n := 1) d9_0 rfl rfl rfl ?_
  refine OwnW.aloadN X0 (n := 2) d9_1 rfl rfl rfl ?_
  refine OwnW.aloadN X0 (n := 3) d9_2 rfl rfl rfl ?_
  refine OwnW.aloadN X0 (n := 4) d9_3 rfl rfl rfl ?_
  refine OwnW.aloadN X0 (n := 5) d9_4 rfl rfl rfl ?_
  refine OwnW.aload X0 (n := 7) d9_5 rfl rfl rfl ?_
  refine OwnW.iconst X0 (z := (0 : Int32)) (n := 8) d9_7 rfl rfl ?_
  refine OwnW.anull X0 (n := 9) d9_8 rfl ?_
  refine OwnW.call_special_n X0 (z := (⟨"com/example/formal_model_translator/formalmodeltranslator/classicalb/Token", "<init>", "(Lcom/example/formal_model_translator/formalmodeltranslator/classicalb/Token$Kind;Ljava/lang/String;Ljava/lang/String;Lcom/example/formal_model_translator/formalmodeltranslator/model/SourcePosition;Lcom/example/formal_model_translator/formalmodeltranslator/classicalb/LabelPragma;ZLjava/lang/String;)V"⟩ : MethodName)) (a := r0) (n := 12) d9_9 (hw _ (List.mem_of_getElem? (i := 50) rfl)) (hw _ (List.mem_of_getElem? (i := 51) rfl)) (hw _ (List.mem_of_getElem? (i := 52) rfl)) (hw _ (List.mem_of_getElem? (i := 46) rfl)) rfl rfl (by decide) (rmT70 l Z a0 hw hE [] r0 r1 r2 r2 h0 n0 O0 ge_r0 E0 u0 Fi0 u1 Fi1 u2 Fi2 u3 Fi3 u4 Fi4 u5 Fi5 u6 Fi6) (OwnW.sfS (List.mem_cons_self ..) OwnW.sf0) (argsL := [(.ref r1), (.ref r2), (.ref r2), .null, .null, (.int (0 : Int32)), .null]) (rest := []) rfl rfl (OwnW.lenA pd__Lcom_example_formal_model_translator_formalmodeltranslator_classicalb_Token_Kind_Ljava_lang_String_Ljava_lang_String_Lcom_example_formal_model_translator_formalmodeltranslator_model_SourcePosition_Lcom_example_formal_model_translator_formalmodeltranslator_classicalb_LabelPragma_ZLjava_lang_String__V rfl) (W := 0) (Nat.le_of_eq rfl) (by decide) (by decide) (by decide) (by decide) rfl ?_
  intro T1 h1 g1 hle1 X1 qq
  exact OwnW.vreturn X1 rfl d9_12 qq (by decide) (by decide)
theorem pn_com_example_formal_model_translator_formalmodeltranslator_classicalb_LabelPragma : plainName "com/example/formal_model_translator/formalmodeltranslator/classicalb/LabelPragma" = true := by first | (simp [plainName, overriddenIn]; done) | decide +kernel
theorem d12_0 : decode prog_9_method_1_code 0 = .ok (.aload_n 0, 1) := by decide +kernel
theorem d12_1 : decode prog_9_method_1_code 1 = .ok (.invokespecial 1, 3) := by decide +kernel
theorem d12_4 : decode prog_9_method_1_code 4 = .ok (.aload_n 0, 1) := by decide +kernel
theorem d12_5 : decode prog_9_method_1_code 5 = .ok (.aload_n 1, 1) := by decide +kernel
theorem d12_6 : decode prog_9_method_1_code 6 = .ok (.putfield 7, 3) := by decide +kernel
theorem d12_9 : decode prog_9_method_1_code 9 = .ok (.aload_n 0, 1) := by decide +kernel
theorem d12_10 : decode prog_9_method_1_code 10 = .ok (.aload_n 2, 1) := by decide +kernel
theorem d12_11 : decode prog_9_method_1_code 11 = .ok (.putfield 13, 3) := by decide +kernel
theorem d12_14 : decode prog_9_method_1_code 14 = .ok (.return_, 1) := by decide +kernel
theorem ef_rmL0 (m : MethodId) (x0 : Addr) : entryFrame m #[(.ref x0), .null, .null] 3 = mkF m 0 #[.val (.ref x0), .val .null, .val .null] [] := by first | (simp [entryFrame, mkF, argsToLocals, Value.category]; done) | rfl
set_option maxRecDepth 65536 in
set_option maxHeartbeats 40000000 in
theorem rmL0 (l : Launch) (Z : State) (a0 : Array Value) (hw : ∀ d ∈ tables_1, d.before a0 Z = true) (hE : EW Z a0 own_EL) (ws : List Jvm.Cond) (r0 : Addr) (h0 : Heap) (n0 : Nat) (O0 : Old Z n0 h0) (ge_r0 : n0 ≤ r0) (E0 : Exa Z h0 r0 "com/example/formal_model_translator/formalmodeltranslator/classicalb/LabelPragma") (u0 : Value) (Fi0 : Fld Z h0 r0 "com/example/formal_model_translator/formalmodeltranslator/classicalb/LabelPragma" "label" "Ljava/lang/String;" u0) (u1 : Value) (Fi1 : Fld Z h0 r0 "com/example/formal_model_translator/formalmodeltranslator/classicalb/LabelPragma" "position" "Lcom/example/formal_model_translator/formalmodeltranslator/model/SourcePosition;" u1) :
    Ctr False l Z own_EL (⟨"com/example/formal_model_translator/formalmodeltranslator/classicalb/LabelPragma", "<init>", "(Ljava/lang/String;Lcom/example/formal_model_translator/formalmodeltranslator/model/SourcePosition;)V"⟩ : MethodName) prog_9_method_1_code 3 none ws ({ frames := 1, cells := 0, slots := 0, locals := 12 } : Room) n0 (r0 :: []) #[(.ref r0), .null, .null] h0 (Rn (fun h g => Keep h0 h [r0] ∧ Fld Z h r0 "com/example/formal_model_translator/formalmodeltranslator/classicalb/LabelPragma" "label" "Ljava/lang/String;" .null)) := by
  refine Ctr.of (plainFor_of_name pn_com_example_formal_model_translator_formalmodeltranslator_classicalb_LabelPragma) hE (fun m => ef_rmL0 m r0) ?_
  intro p e s m below meth c T0 X0
  have Z0 : Keep h0 h0 [r0] := Keep.refl _ _
  refine OwnW.aloadN X0 (n := 1) d12_0 rfl rfl rfl ?_
  refine OwnW.initObj X0 (W := 0) (n := 4) d12_1 (hw _ (List.mem_of_getElem? (i := 81) rfl)) (hw _ (List.mem_of_getElem? (i := 12) rfl)) (hw _ (List.mem_of_getElem? (i := 13) rfl)) rfl (by decide) (by decide) (by decide) rfl ?_
  intro T1 X1
  refine OwnW.aloadN X1 (n := 5) d12_4 rfl rfl rfl ?_
  refine OwnW.aloadN X1 (n := 6) d12_5 rfl rfl rfl ?_
  refine OwnW.putfield X1 (ty := (.object "java/lang/String")) (v' := .null) (n := 9) d12_6 (hw _ (List.mem_of_getElem? (i := 82) rfl)) Via.refl Fi0 E0 (Or.inr ⟨(hw _ (List.mem_of_getElem? (i := 83) rfl)), rfl, rfl⟩) (hw _ (List.mem_of_getElem? (i := 76) rfl)) (by decide) rfl rfl ge_r0 (List.mem_cons_self ..) rfl ?_
  intro T2 h2 X2 W2 Fw2
  have f3 := Fi1.other W2 (Or.inr (slot_ne (Or.inr (hw _ (List.mem_of_getElem? (i := 85) rfl))) (Or.inr (hw _ (List.mem_of_getElem? (i := 83) rfl))) (by decide) (t := (.object "com/example/formal_model_translator/formalmodeltranslator/model/SourcePosition")) (t' := (.object "java/lang/String")) (by decide) (by decide)))
  have K2 := (Keep.of_wr W2)
  have O2 := O0.keep K2 (allS ge_r0 all0)
  have Z2 : Keep h0 h2 [r0] := Z0.trans K2 (allS (P := fun x => x ∈ [r0] ∨ h0.size ≤ x) (Or.inl (List.mem_of_getElem? (i := 0) rfl)) all0)
  refine OwnW.aloadN X2 (n := 10) d12_9 rfl rfl rfl ?_
  refine OwnW.aloadN X2 (n := 11) d12_10 rfl rfl rfl ?_
  have f4 := (E0.keep K2)
  refine OwnW.putfield X2 (ty := (.object "com/example/formal_model_translator/formalmodeltranslator/model/SourcePosition")) (v' := .null) (n := 14) d12_11 (hw _ (List.mem_of_getElem? (i := 84) rfl)) Via.refl f3 f4 (Or.inr ⟨(hw _ (List.mem_of_getElem? (i := 85) rfl)), rfl, rfl⟩) (hw _ (List.mem_of_getElem? (i := 76) rfl)) (by decide) rfl rfl ge_r0 (List.mem_cons_self ..) rfl ?_
  intro T5 h5 X5 W5 Fw5
  have f6 := Fw2.other W5 (Or.inr (slot_ne (Or.inr (hw _ (List.mem_of_getElem? (i := 83) rfl))) (Or.inr (hw _ (List.mem_of_getElem? (i := 85) rfl))) (by decide) (t := (.object "java/lang/String")) (t' := (.object "com/example/formal_model_translator/formalmodeltranslator/model/SourcePosition")) (by decide) (by decide)))
  have K5 := (Keep.of_wr W5)
  have O5 := O2.keep K5 (allS ge_r0 all0)
  have Z5 : Keep h0 h5 [r0] := Z2.trans K5 (allS (P := fun x => x ∈ [r0] ∨ h0.size ≤ x) (Or.inl (List.mem_of_getElem? (i := 0) rfl)) all0)
  exact OwnW.vreturn X5 rfl d12_14 ⟨Z5, f6⟩ (by decide) (by decide)
theorem d13_0 : decode prog_9_method_2_code 0 = .ok (.aload_n 0, 1) := by decide +kernel
theorem d13_1 : decode prog_9_method_2_code 1 = .ok (.getfield 7, 3) := by decide +kernel
theorem d13_4 : decode prog_9_method_2_code 4 = .ok (.areturn, 1) := by decide +kernel
theorem ef_rmG0 (m : MethodId) (x0 : Addr) : entryFrame m #[(.ref x0)] 1 = mkF m 0 #[.val (.ref x0)] [] := by first | (simp [entryFrame, mkF, argsToLocals, Value.category]; done) | rfl
set_option maxRecDepth 65536 in
set_option maxHeartbeats 40000000 in
theorem rmG0 (l : Launch) (Z : State) (a0 : Array Value) (hw : ∀ d ∈ tables_1, d.before a0 Z = true) (hE : EW Z a0 own_EL) (ws : List Jvm.Cond) (r0 : Addr) (h0 : Heap) (n0 : Nat) (F1 : Fld Z h0 r0 "com/example/formal_model_translator/formalmodeltranslator/classicalb/LabelPragma" "label" "Ljava/lang/String;" .null) :
    Ctr False l Z own_EL (⟨"com/example/formal_model_translator/formalmodeltranslator/classicalb/LabelPragma", "getLabel", "()Ljava/lang/String;"⟩ : MethodName) prog_9_method_2_code 1 (some (.object "java/lang/String")) ws ({ frames := 0, cells := 0, slots := 0, locals := 0 } : Room) n0 ([]) #[(.ref r0)] h0 (Rt (fun w h g => w = .null ∧ h0 = h)) := by
  refine Ctr.of (plainFor_of_name pn_com_example_formal_model_translator_formalmodeltranslator_classicalb_LabelPragma) hE (fun m => ef_rmG0 m r0) ?_
  intro p e s m below meth c T0 X0
  refine OwnW.aloadN X0 (n := 1) d13_0 rfl rfl rfl ?_
  refine OwnW.getfield X0 (n := 4) d13_1 (hw _ (List.mem_of_getElem? (i := 82) rfl)) Via.refl F1 rfl ?_
  intro T1 X1
  exact OwnW.areturn X1 rfl rfl rfl d13_4 ⟨rfl, rfl⟩ (by decide) (by decide)
theorem ef_rmT71 (m : MethodId) (x0 : Addr) (x1 : Addr) (x2 : Addr) (x3 : Addr) (x5 : Addr) : entryFrame m #[(.ref x0), (.ref x1), (.ref x2), (.ref x3), .null, (.ref x5), (.int (0 : Int32)), .null] 8 = mkF m 0 #[.val (.ref x0), .val (.ref x1), .val (.ref x2), .val (.ref x3), .val .null, .val (.ref x5), .val (.int (0 : Int32)), .val .null] [] := by first | (simp [entryFrame, mkF, argsToLocals, Value.category]; done) | rfl
set_option maxRecDepth 65536 in
set_option maxHeartbeats 40000000 in
theorem rmT71 (l : Launch) (Z : State) (a0 : Array Value) (hw : ∀ d ∈ tables_1, d.before a0 Z = true) (hE : EW Z a0 own_EL) (ws : List Jvm.Cond) (r0 : Addr) (r1 : Addr) (r2 : Addr) (r3 : Addr) (r5 : Addr) (h0 : Heap) (n0 : Nat) (O0 : Old Z n0 h0) (ge_r0 : n0 ≤ r0) (E0 : Exa Z h0 r0 "com/example/formal_model_translator/formalmodeltranslator/classicalb/Token") (u0 : Value) (Fi0 : Fld Z h0 r0 "com/example/formal_model_translator/formalmodeltranslator/classicalb/Token" "kind" "Lcom/example/formal_model_translator/formalmodeltranslator/classicalb/Token$Kind;" u0) (u1 : Value) (Fi1 : Fld Z h0 r0 "com/example/formal_model_translator/formalmodeltranslator/classicalb/Token" "text" "Ljava/lang/String;" u1) (u2 : Value) (Fi2 : Fld Z h0 r0 "com/example/formal_model_translator/formalmodeltranslator/classicalb/Token" "written" "Ljava/lang/String;" u2) (u3 : Value) (Fi3 : Fld Z h0 r0 "com/example/formal_model_translator/formalmodeltranslator/classicalb/Token" "position" "Lcom/example/formal_model_translator/formalmodeltranslator/model/SourcePosition;" u3) (u4 : Value) (Fi4 : Fld Z h0 r0 "com/example/formal_model_translator/formalmodeltranslator/classicalb/Token" "pragma" "Lcom/example/formal_model_translator/formalmodeltranslator/classicalb/LabelPragma;" u4) (u5 : Value) (Fi5 : Fld Z h0 r0 "com/example/formal_model_translator/formalmodeltranslator/classicalb/Token" "opensBody" "Z" u5) (u6 : Value) (Fi6 : Fld Z h0 r0 "com/example/formal_model_translator/formalmodeltranslator/classicalb/Token" "fault" "Ljava/lang/String;" u6) :
    Ctr False l Z own_EL (⟨"com/example/formal_model_translator/formalmodeltranslator/classicalb/Token", "<init>", "(Lcom/example/formal_model_translator/formalmodeltranslator/classicalb/Token$Kind;Ljava/lang/String;Ljava/lang/String;Lcom/example/formal_model_translator/formalmodeltranslator/model/SourcePosition;Lcom/example/formal_model_translator/formalmodeltranslator/classicalb/LabelPragma;ZLjava/lang/String;)V"⟩ : MethodName) prog_33_method_3_code 8 none ws ({ frames := 1, cells := 0, slots := 0, locals := 12 } : Room) n0 (r0 :: []) #[(.ref r0), (.ref r1), (.ref r2), (.ref r3), .null, (.ref r5), (.int (0 : Int32)), .null] h0 (Rn (fun h g => Keep h0 h [r0] ∧ Fld Z h r0 "com/example/formal_model_translator/formalmodeltranslator/classicalb/Token" "pragma" "Lcom/example/formal_model_translator/formalmodeltranslator/classicalb/LabelPragma;" (.ref r5))) := by
  refine Ctr.of (plainFor_of_name pn_com_example_formal_model_translator_formalmodeltranslator_classicalb_Token) hE (fun m => ef_rmT71 m r0 r1 r2 r3 r5) ?_
  intro p e s m below meth c T0 X0
  have Z0 : Keep h0 h0 [r0] := Keep.refl _ _
  refine OwnW.aloadN X0 (n := 1) d10_0 rfl rfl rfl ?_
  refine OwnW.initObj X0 (W := 0) (n := 4) d10_1 (hw _ (List.mem_of_getElem? (i := 53) rfl)) (hw _ (List.mem_of_getElem? (i := 12) rfl)) (hw _ (List.mem_of_getElem? (i := 13) rfl)) rfl (by decide) (by decide) (by decide) rfl ?_
  intro T1 X1
  refine OwnW.aloadN X1 (n := 5) d10_4 rfl rfl rfl ?_
  refine OwnW.aloadN X1 (n := 6) d10_5 rfl rfl rfl ?_
  refine OwnW.putfield X1 (ty := (.object "com/example/formal_model_translator/formalmodeltranslator/classicalb/Token$Kind")) (v' := (.ref r1)) (n := 9) d10_6 (hw _ (List.mem_of_getElem? (i := 54) rfl)) Via.refl Fi0 E0 (Or.inr ⟨(hw _ (List.mem_of_getElem? (i := 55) rfl)), rfl, rfl⟩) (hw _ (List.mem_of_getElem? (i := 45) rfl)) (by decide) rfl rfl ge_r0 (List.mem_cons_self ..) rfl ?_
  intro T2 h2 X2 W2 Fw2
  have f3 := Fi1.other W2 (Or.inr (slot_ne (Or.inr (hw _ (List.mem_of_getElem? (i := 57) rfl))) (Or.inr (hw _ (List.mem_of_getElem? (i := 55) rfl))) (by decide) (t := (.object "java/lang/String")) (t' := (.object "com/example/formal_model_translator/formalmodeltranslator/classicalb/Token$Kind")) (by decide) (by decide)))
  have f4 := Fi2.other W2 (Or.inr (slot_ne (Or.inr (hw _ (List.mem_of_getElem? (i := 59) rfl))) (Or.inr (hw _ (List.mem_of_getElem? (i := 55) rfl))) (by decide) (t := (.object "java/lang/String")) (t' := (.object "com/example/formal_model_translator/formalmodeltranslator/classicalb/Token$Kind")) (by decide) (by decide)))
  have f5 := Fi3.other W2 (Or.inr (slot_ne (Or.inr (hw _ (List.mem_of_getElem? (i := 61) rfl))) (Or.inr (hw _ (List.mem_of_getElem? (i := 55) rfl))) (by decide) (t := (.object "com/example/formal_model_translator/formalmodeltranslator/model/SourcePosition")) (t' := (.object "com/example/formal_model_translator/formalmodeltranslator/classicalb/Token$Kind")) (by decide) (by decide)))
  have f6 := Fi4.other W2 (Or.inr (slot_ne (Or.inr (hw _ (List.mem_of_getElem? (i := 63) rfl))) (Or.inr (hw _ (List.mem_of_getElem? (i := 55) rfl))) (by decide) (t := (.object "com/example/formal_model_translator/formalmodeltranslator/classicalb/LabelPragma")) (t' := (.object "com/example/formal_model_translator/formalmodeltranslator/classicalb/Token$Kind")) (by decide) (by decide)))
  have f7 := Fi5.other W2 (Or.inr (slot_ne (Or.inr (hw _ (List.mem_of_getElem? (i := 65) rfl))) (Or.inr (hw _ (List.mem_of_getElem? (i := 55) rfl))) (by decide) (t := .boolean) (t' := (.object "com/example/formal_model_translator/formalmodeltranslator/classicalb/Token$Kind")) (by decide) (by decide)))
  have f8 := Fi6.other W2 (Or.inr (slot_ne (Or.inr (hw _ (List.mem_of_getElem? (i := 67) rfl))) (Or.inr (hw _ (List.mem_of_getElem? (i := 55) rfl))) (by decide) (t := (.object "java/lang/String")) (t' := (.object "com/example/formal_model_translator/formalmodeltranslator/classicalb/Token$Kind")) (by decide) (by decide)))
  have K2 := (Keep.of_wr W2)
  have O2 := O0.keep K2 (allS ge_r0 all0)
  have Z2 : Keep h0 h2 [r0] := Z0.trans K2 (allS (P := fun x => x ∈ [r0] ∨ h0.size ≤ x) (Or.inl (List.mem_of_getElem? (i := 0) rfl)) all0)
  refine OwnW.aloadN X2 (n := 10) d10_9 rfl rfl rfl ?_
  refine OwnW.aloadN X2 (n := 11) d10_10 rfl rfl rfl ?_
  have f9 := (E0.keep K2)
  refine OwnW.putfield X2 (ty := (.object "java/lang/String")) (v' := (.ref r2)) (n := 14) d10_11 (hw _ (List.mem_of_getElem? (i := 56) rfl)) Via.refl f3 f9 (Or.inr ⟨(hw _ (List.mem_of_getElem? (i := 57) rfl)), rfl, rfl⟩) (hw _ (List.mem_of_getElem? (i := 45) rfl)) (by decide) rfl rfl ge_r0 (List.mem_cons_self ..) rfl ?_
  intro T10 h10 X10 W10 Fw10
  have f11 := Fw2.other W10 (Or.inr (slot_ne (Or.inr (hw _ (List.mem_of_getElem? (i := 55) rfl))) (Or.inr (hw _ (List.mem_of_getElem? (i := 57) rfl))) (by decide) (t := (.object "com/example/formal_model_translator/formalmodeltranslator/classicalb/Token$Kind")) (t' := (.object "java/lang/String")) (by decide) (by decide)))
  have f12 := f4.other W10 (Or.inr (slot_ne (Or.inr (hw _ (List.mem_of_getElem? (i := 59) rfl))) (Or.inr (hw _ (List.mem_of_getElem? (i := 57) rfl))) (by decide) (t := (.object "java/lang/String")) (t' := (.object "java/lang/String")) (by decide) (by decide)))
  have f13 := f5.other W10 (Or.inr (slot_ne (Or.inr (hw _ (List.mem_of_getElem? (i := 61) rfl))) (Or.inr (hw _ (List.mem_of_getElem? (i := 57) rfl))) (by decide) (t := (.object "com/example/formal_model_translator/formalmodeltranslator/model/SourcePosition")) (t' := (.object "java/lang/String")) (by decide) (by decide)))
  have f14 := f6.other W10 (Or.inr (slot_ne (Or.inr (hw _ (List.mem_of_getElem? (i := 63) rfl))) (Or.inr (hw _ (List.mem_of_getElem? (i := 57) rfl))) (by decide) (t := (.object "com/example/formal_model_translator/formalmodeltranslator/classicalb/LabelPragma")) (t' := (.object "java/lang/String")) (by decide) (by decide)))
  have f15 := f7.other W10 (Or.inr (slot_ne (Or.inr (hw _ (List.mem_of_getElem? (i := 65) rfl))) (Or.inr (hw _ (List.mem_of_getElem? (i := 57) rfl))) (by decide) (t := .boolean) (t' := (.object "java/lang/String")) (by decide) (by decide)))
  have f16 := f8.other W10 (Or.inr (slot_ne (Or.inr (hw _ (List.mem_of_getElem? (i := 67) rfl))) (Or.inr (hw _ (List.mem_of_getElem? (i := 57) rfl))) (by decide) (t := (.object "java/lang/String")) (t' := (.object "java/lang/String")) (by decide) (by decide)))
  have K10 := (Keep.of_wr W10)
  have O10 := O2.keep K10 (allS ge_r0 all0)
  have Z10 : Keep h0 h10 [r0] := Z2.trans K10 (allS (P := fun x => x ∈ [r0] ∨ h0.size ≤ x) (Or.inl (List.mem_of_getElem? (i := 0) rfl)) all0)
  refine OwnW.aloadN X10 (n := 15) d10_14 rfl rfl rfl ?_
  refine OwnW.aloadN X10 (n := 16) d10_15 rfl rfl rfl ?_
  have f17 := (f9.keep K10)
  refine OwnW.putfield X10 (ty := (.object "java/lang/String")) (v' := (.ref r3)) (n := 19) d10_16 (hw _ (List.mem_of_getElem? (i := 58) rfl)) Via.refl f12 f17 (Or.inr ⟨(hw _ (List.mem_of_getElem? (i := 59) rfl)), rfl, rfl⟩) (hw _ (List.mem_of_getElem? (i := 45) rfl)) (by decide) rfl rfl ge_r0 (List.mem_cons_self ..) rfl ?_
  intro T18 h18 X18 W18 Fw18
  have f19 := f11.other W18 (Or.inr (slot_ne (Or.inr (hw _ (List.mem_of_getElem? (i := 55) rfl))) (Or.inr (hw _ (List.mem_of_getElem? (i := 59) rfl))) (by decide) (t := (.object "com/example/formal_model_translator/formalmodeltranslator/classicalb/Token$Kind")) (t' := (.object "java/lang/String")) (by decide) (by decide)))
  have f20 := Fw10.other W18 (Or.inr (slot_ne (Or.inr (hw _ (List.mem_of_getElem? (i := 57) rfl))) (Or.inr (hw _ (List.mem_of_getElem? (i := 59) rfl))) (by decide) (t := (.object "java/lang/String")) (t' := (.object "java/lang/String")) (by decide) (by decide)))
  have f21 := f13.other W18 (Or.inr (slot_ne (Or.inr (hw _ (List.mem_of_getElem? (i := 61) rfl))) (Or.inr (hw _ (List.mem_of_getElem? (i := 59) rfl))) (by decide) (t := (.object "com/example/formal_model_translator/formalmodeltranslator/model/SourcePosition")) (t' := (.object "java/lang/String")) (by decide) (by decide)))
  have f22 := f14.other W18 (Or.inr (slot_ne (Or.inr (hw _ (List.mem_of_getElem? (i := 63) rfl))) (Or.inr (hw _ (List.mem_of_getElem? (i := 59) rfl))) (by decide) (t := (.object "com/example/formal_model_translator/formalmodeltranslator/classicalb/LabelPragma")) (t' := (.object "java/lang/String")) (by decide) (by decide)))
  have f23 := f15.other W18 (Or.inr (slot_ne (Or.inr (hw _ (List.mem_of_getElem? (i := 65) rfl))) (Or.inr (hw _ (List.mem_of_getElem? (i := 59) rfl))) (by decide) (t := .boolean) (t' := (.object "java/lang/String")) (by decide) (by decide)))
  have f24 := f16.other W18 (Or.inr (slot_ne (Or.inr (hw _ (List.mem_of_getElem? (i := 67) rfl))) (Or.inr (hw _ (List.mem_of_getElem? (i := 59) rfl))) (by decide) (t := (.object "java/lang/String")) (t' := (.object "java/lang/String")) (by decide) (by decide)))
  have K18 := (Keep.of_wr W18)
  have O18 := O10.keep K18 (allS ge_r0 all0)
  have Z18 : Keep h0 h18 [r0] := Z10.trans K18 (allS (P := fun x => x ∈ [r0] ∨ h0.size ≤ x) (Or.inl (List.mem_of_getElem? (i := 0) rfl)) all0)
  refine OwnW.aloadN X18 (n := 20) d10_19 rfl rfl rfl ?_
  refine OwnW.aload X18 (n := 22) d10_20 rfl rfl rfl ?_
  have f25 := (f17.keep K18)
  refine OwnW.putfield X18 (ty := (.object "com/example/formal_model_translator/formalmodeltranslator/model/SourcePosition")) (v' := .null) (n := 25) d10_22 (hw _ (List.mem_of_getElem? (i := 60) rfl)) Via.refl f21 f25 (Or.inr ⟨(hw _ (List.mem_of_getElem? (i := 61) rfl)), rfl, rfl⟩) (hw _ (List.mem_of_getElem? (i := 45) rfl)) (by decide) rfl rfl ge_r0 (List.mem_cons_self ..) rfl ?_
  intro T26 h26 X26 W26 Fw26
  have f27 := f19.other W26 (Or.inr (slot_ne (Or.inr (hw _ (List.mem_of_getElem? (i := 55) rfl))) (Or.inr (hw _ (List.mem_of_getElem? (i := 61) rfl))) (by decide) (t := (.object "com/example/formal_model_translator/formalmodeltranslator/classicalb/Token$Kind")) (t' := (.object "com/example/formal_model_translator/formalmodeltranslator/model/SourcePosition")) (by decide) (by decide)))
  have f28 := f20.other W26 (Or.inr (slot_ne (Or.inr (hw _ (List.mem_of_getElem? (i := 57) rfl))) (Or.inr (hw _ (List.mem_of_getElem? (i := 61) rfl))) (by decide) (t := (.object "java/lang/String")) (t' := (.object "com/example/formal_model_translator/formalmodeltranslator/model/SourcePosition")) (by decide) (by decide)))
  have f29 := Fw18.other W26 (Or.inr (slot_ne (Or.inr (hw _ (List.mem_of_getElem? (i := 59) rfl))) (Or.inr (hw _ (List.mem_of_getElem? (i := 61) rfl))) (by decide) (t := (.object "java/lang/String")) (t' := (.object "com/example/formal_model_translator/formalmodeltranslator/model/SourcePosition")) (by decide) (by decide)))
  have f30 := f22.other W26 (Or.inr (slot_ne (Or.inr (hw _ (List.mem_of_getElem? (i := 63) rfl))) (Or.inr (hw _ (List.mem_of_getElem? (i := 61) rfl))) (by decide) (t := (.object "com/example/formal_model_translator/formalmodeltranslator/classicalb/LabelPragma")) (t' := (.object "com/example/formal_model_translator/formalmodeltranslator/model/SourcePosition")) (by decide) (by decide)))
  have f31 := f23.other W26 (Or.inr (slot_ne (Or.inr (hw _ (List.mem_of_getElem? (i := 65) rfl))) (Or.inr (hw _ (List.mem_of_getElem? (i := 61) rfl))) (by decide) (t := .boolean) (t' := (.object "com/example/formal_model_translator/formalmodeltranslator/model/SourcePosition")) (by decide) (by decide)))
  have f32 := f24.other W26 (Or.inr (slot_ne (Or.inr (hw _ (List.mem_of_getElem? (i := 67) rfl))) (Or.inr (hw _ (List.mem_of_getElem? (i := 61) rfl))) (by decide) (t := (.object "java/lang/String")) (t' := (.object "com/example/formal_model_translator/formalmodeltranslator/model/SourcePosition")) (by decide) (by decide)))
  have K26 := (Keep.of_wr W26)
  have O26 := O18.keep K26 (allS ge_r0 all0)
  have Z26 : Keep h0 h26 [r0] := Z18.trans K26 (allS (P := fun x => x ∈ [r0] ∨ h0.size ≤ x) (Or.inl (List.mem_of_getElem? (i := 0) rfl)) all0)
  refine OwnW.aloadN X26 (n := 26) d10_25 rfl rfl rfl ?_
  refine OwnW.aload X26 (n := 28) d10_26 rfl rfl rfl ?_
  have f33 := (f25.keep K26)
  refine OwnW.putfield X26 (ty := (.object "com/example/formal_model_translator/formalmodeltranslator/classicalb/LabelPragma")) (v' := (.ref r5)) (n := 31) d10_28 (hw _ (List.mem_of_getElem? (i := 62) rfl)) Via.refl f30 f33 (Or.inr ⟨(hw _ (List.mem_of_getElem? (i := 63) rfl)), rfl, rfl⟩) (hw _ (List.mem_of_getElem? (i := 45) rfl)) (by decide) rfl rfl ge_r0 (List.mem_cons_self ..) rfl ?_
  intro T34 h34 X34 W34 Fw34
  have f35 := f27.other W34 (Or.inr (slot_ne (Or.inr (hw _ (List.mem_of_getElem? (i := 55) rfl))) (Or.inr (hw _ (List.mem_of_getElem? (i := 63) rfl))) (by decide) (t := (.object "com/example/formal_model_translator/formalmodeltranslator/classicalb/Token$Kind")) (t' := (.object "com/example/formal_model_translator/formalmodeltranslator/classicalb/LabelPragma")) (by decide) (by decide)))
  have f36 := f28.other W34 (Or.inr (slot_ne (Or.inr (hw _ (List.mem_of_getElem? (i := 57) rfl))) (Or.inr (hw _ (List.mem_of_getElem? (i := 63) rfl))) (by decide) (t := (.object "java/lang/String")) (t' := (.object "com/example/formal_model_translator/formalmodeltranslator/classicalb/LabelPragma")) (by decide) (by decide)))
  have f37 := f29.other W34 (Or.inr (slot_ne (Or.inr (hw _ (List.mem_of_getElem? (i := 59) rfl))) (Or.inr (hw _ (List.mem_of_getElem? (i := 63) rfl))) (by decide) (t := (.object "java/lang/String")) (t' := (.object "com/example/formal_model_translator/formalmodeltranslator/classicalb/LabelPragma")) (by decide) (by decide)))
  have f38 := Fw26.other W34 (Or.inr (slot_ne (Or.inr (hw _ (List.mem_of_getElem? (i := 61) rfl))) (Or.inr (hw _ (List.mem_of_getElem? (i := 63) rfl))) (by decide) (t := (.object "com/example/formal_model_translator/formalmodeltranslator/model/SourcePosition")) (t' := (.object "com/example/formal_model_translator/formalmodeltranslator/classicalb/LabelPragma")) (by decide) (by decide)))
  have f39 := f31.other W34 (Or.inr (slot_ne (Or.inr (hw _ (List.mem_of_getElem? (i := 65) rfl))) (Or.inr (hw _ (List.mem_of_getElem? (i := 63) rfl))) (by decide) (t := .boolean) (t' := (.object "com/example/formal_model_translator/formalmodeltranslator/classicalb/LabelPragma")) (by decide) (by decide)))
  have f40 := f32.other W34 (Or.inr (slot_ne (Or.inr (hw _ (List.mem_of_getElem? (i := 67) rfl))) (Or.inr (hw _ (List.mem_of_getElem? (i := 63) rfl))) (by decide) (t := (.object "java/lang/String")) (t' := (.object "com/example/formal_model_translator/formalmodeltranslator/classicalb/LabelPragma")) (by decide) (by decide)))
  have K34 := (Keep.of_wr W34)
  have O34 := O26.keep K34 (allS ge_r0 all0)
  have Z34 : Keep h0 h34 [r0] := Z26.trans K34 (allS (P := fun x => x ∈ [r0] ∨ h0.size ≤ x) (Or.inl (List.mem_of_getElem? (i := 0) rfl)) all0)
  refine OwnW.aloadN X34 (n := 32) d10_31 rfl rfl rfl ?_
  refine OwnW.iload X34 (n := 34) d10_32 rfl rfl ?_
  have f41 := (f33.keep K34)
  refine OwnW.putfield X34 (ty := .boolean) (v' := (.int (0 : Int32))) (n := 37) d10_34 (hw _ (List.mem_of_getElem? (i := 64) rfl)) Via.refl f39 f41 (Or.inr ⟨(hw _ (List.mem_of_getElem? (i := 65) rfl)), rfl, rfl⟩) (hw _ (List.mem_of_getElem? (i := 45) rfl)) (by decide) rfl rfl ge_r0 (List.mem_cons_self ..) rfl ?_
  intro T42 h42 X42 W42 Fw42
  have f43 := f35.other W42 (Or.inr (slot_ne (Or.inr (hw _ (List.mem_of_getElem? (i := 55) rfl))) (Or.inr (hw _ (List.mem_of_getElem? (i := 65) rfl))) (by decide) (t := (.object "com/example/formal_model_translator/formalmodeltranslator/classicalb/Token$Kind")) (t' := .boolean) (by decide) (by decide)))
  have f44 := f36.other W42 (Or.inr (slot_ne (Or.inr (hw _ (List.mem_of_getElem? (i := 57) rfl))) (Or.inr (hw _ (List.mem_of_getElem? (i := 65) rfl))) (by decide) (t := (.object "java/lang/String")) (t' := .boolean) (by decide) (by decide)))
  have f45 := f37.other W42 (Or.inr (slot_ne (Or.inr (hw _ (List.mem_of_getElem? (i := 59) rfl))) (Or.inr (hw _ (List.mem_of_getElem? (i := 65) rfl))) (by decide) (t := (.object "java/lang/String")) (t' := .boolean) (by decide) (by decide)))
  have f46 := f38.other W42 (Or.inr (slot_ne (Or.inr (hw _ (List.mem_of_getElem? (i := 61) rfl))) (Or.inr (hw _ (List.mem_of_getElem? (i := 65) rfl))) (by decide) (t := (.object "com/example/formal_model_translator/formalmodeltranslator/model/SourcePosition")) (t' := .boolean) (by decide) (by decide)))
  have f47 := Fw34.other W42 (Or.inr (slot_ne (Or.inr (hw _ (List.mem_of_getElem? (i := 63) rfl))) (Or.inr (hw _ (List.mem_of_getElem? (i := 65) rfl))) (by decide) (t := (.object "com/example/formal_model_translator/formalmodeltranslator/classicalb/LabelPragma")) (t' := .boolean) (by decide) (by decide)))
  have f48 := f40.other W42 (Or.inr (slot_ne (Or.inr (hw _ (List.mem_of_getElem? (i := 67) rfl))) (Or.inr (hw _ (List.mem_of_getElem? (i := 65) rfl))) (by decide) (t := (.object "java/lang/String")) (t' := .boolean) (by decide) (by decide)))
  have K42 := (Keep.of_wr W42)
  have O42 := O34.keep K42 (allS ge_r0 all0)
  have Z42 : Keep h0 h42 [r0] := Z34.trans K42 (allS (P := fun x => x ∈ [r0] ∨ h0.size ≤ x) (Or.inl (List.mem_of_getElem? (i := 0) rfl)) all0)
  refine OwnW.aloadN X42 (n := 38) d10_37 rfl rfl rfl ?_
  refine OwnW.aload X42 (n := 40) d10_38 rfl rfl rfl ?_
  have f49 := (f41.keep K42)
  refine OwnW.putfield X42 (ty := (.object "java/lang/String")) (v' := .null) (n := 43) d10_40 (hw _ (List.mem_of_getElem? (i := 66) rfl)) Via.refl f48 f49 (Or.inr ⟨(hw _ (List.mem_of_getElem? (i := 67) rfl)), rfl, rfl⟩) (hw _ (List.mem_of_getElem? (i := 45) rfl)) (by decide) rfl rfl ge_r0 (List.mem_cons_self ..) rfl ?_
  intro T50 h50 X50 W50 Fw50
  have f51 := f43.other W50 (Or.inr (slot_ne (Or.inr (hw _ (List.mem_of_getElem? (i := 55) rfl))) (Or.inr (hw _ (List.mem_of_getElem? (i := 67) rfl))) (by decide) (t := (.object "com/example/formal_model_translator/formalmodeltranslator/classicalb/Token$Kind")) (t' := (.object "java/lang/String")) (by decide) (by decide)))
  have f52 := f44.other W50 (Or.inr (slot_ne (Or.inr (hw _ (List.mem_of_getElem? (i := 57) rfl))) (Or.inr (hw _ (List.mem_of_getElem? (i := 67) rfl))) (by decide) (t := (.object "java/lang/String")) (t' := (.object "java/lang/String")) (by decide) (by decide)))
  have f53 := f45.other W50 (Or.inr (slot_ne (Or.inr (hw _ (List.mem_of_getElem? (i := 59) rfl))) (Or.inr (hw _ (List.mem_of_getElem? (i := 67) rfl))) (by decide) (t := (.object "java/lang/String")) (t' := (.object "java/lang/String")) (by decide) (by decide)))
  have f54 := f46.other W50 (Or.inr (slot_ne (Or.inr (hw _ (List.mem_of_getElem? (i := 61) rfl))) (Or.inr (hw _ (List.mem_of_getElem? (i := 67) rfl))) (by decide) (t := (.object "com/example/formal_model_translator/formalmodeltranslator/model/SourcePosition")) (t' := (.object "java/lang/String")) (by decide) (by decide)))
  have f55 := f47.other W50 (Or.inr (slot_ne (Or.inr (hw _ (List.mem_of_getElem? (i := 63) rfl))) (Or.inr (hw _ (List.mem_of_getElem? (i := 67) rfl))) (by decide) (t := (.object "com/example/formal_model_translator/formalmodeltranslator/classicalb/LabelPragma")) (t' := (.object "java/lang/String")) (by decide) (by decide)))
  have f56 := Fw42.other W50 (Or.inr (slot_ne (Or.inr (hw _ (List.mem_of_getElem? (i := 65) rfl))) (Or.inr (hw _ (List.mem_of_getElem? (i := 67) rfl))) (by decide) (t := .boolean) (t' := (.object "java/lang/String")) (by decide) (by decide)))
  have K50 := (Keep.of_wr W50)
  have O50 := O42.keep K50 (allS ge_r0 all0)
  have Z50 : Keep h0 h50 [r0] := Z42.trans K50 (allS (P := fun x => x ∈ [r0] ∨ h0.size ≤ x) (Or.inl (List.mem_of_getElem? (i := 0) rfl)) all0)
  exact OwnW.vreturn X50 rfl d10_43 ⟨Z50, f55⟩ (by decide) (by decide)
theorem ef_rmT41 (m : MethodId) (x0 : Addr) (x1 : Addr) (x2 : Addr) (x4 : Addr) : entryFrame m #[(.ref x0), (.ref x1), (.ref x2), .null, (.ref x4)] 5 = mkF m 0 #[.val (.ref x0), .val (.ref x1), .val (.ref x2), .val .null, .val (.ref x4)] [] := by first | (simp [entryFrame, mkF, argsToLocals, Value.category]; done) | rfl
set_option maxRecDepth 65536 in
set_option maxHeartbeats 40000000 in
theorem rmT41 (l : Launch) (Z : State) (a0 : Array Value) (hw : ∀ d ∈ tables_1, d.before a0 Z = true) (hE : EW Z a0 own_EL) (ws : List Jvm.Cond) (r0 : Addr) (r1 : Addr) (r2 : Addr) (r4 : Addr) (h0 : Heap) (n0 : Nat) (O0 : Old Z n0 h0) (ge_r0 : n0 ≤ r0) (E0 : Exa Z h0 r0 "com/example/formal_model_translator/formalmodeltranslator/classicalb/Token") (u0 : Value) (Fi0 : Fld Z h0 r0 "com/example/formal_model_translator/formalmodeltranslator/classicalb/Token" "kind" "Lcom/example/formal_model_translator/formalmodeltranslator/classicalb/Token$Kind;" u0) (u1 : Value) (Fi1 : Fld Z h0 r0 "com/example/formal_model_translator/formalmodeltranslator/classicalb/Token" "text" "Ljava/lang/String;" u1) (u2 : Value) (Fi2 : Fld Z h0 r0 "com/example/formal_model_translator/formalmodeltranslator/classicalb/Token" "written" "Ljava/lang/String;" u2) (u3 : Value) (Fi3 : Fld Z h0 r0 "com/example/formal_model_translator/formalmodeltranslator/classicalb/Token" "position" "Lcom/example/formal_model_translator/formalmodeltranslator/model/SourcePosition;" u3) (u4 : Value) (Fi4 : Fld Z h0 r0 "com/example/formal_model_translator/formalmodeltranslator/classicalb/Token" "pragma" "Lcom/example/formal_model_translator/formalmodeltranslator/classicalb/LabelPragma;" u4) (u5 : Value) (Fi5 : Fld Z h0 r0 "com/example/formal_model_translator/formalmodeltranslator/classicalb/Token" "opensBody" "Z" u5) (u6 : Value) (Fi6 : Fld Z h0 r0 "com/example/formal_model_translator/formalmodeltranslator/classicalb/Token" "fault" "Ljava/lang/String;" u6) :
    Ctr False l Z own_EL (⟨"com/example/formal_model_translator/formalmodeltranslator/classicalb/Token", "<init>", "(Lcom/example/formal_model_translator/formalmodeltranslator/classicalb/Token$Kind;Ljava/lang/String;Lcom/example/formal_model_translator/formalmodeltranslator/model/SourcePosition;Lcom/example/formal_model_translator/formalmodeltranslator/classicalb/LabelPragma;)V"⟩ : MethodName) prog_33_method_1_code 5 none ws ({ frames := 2, cells := 0, slots := 0, locals := 31 } : Room) n0 (r0 :: []) #[(.ref r0), (.ref r1), (.ref r2), .null, (.ref r4)] h0 (Rn (fun h g => Keep h0 h [r0] ∧ Fld Z h r0 "com/example/formal_model_translator/formalmodeltranslator/classicalb/Token" "pragma" "Lcom/example/formal_model_translator/formalmodeltranslator/classicalb/LabelPragma;" (.ref r4))) := by
  refine Ctr.of (plainFor_of_name pn_com_example_formal_model_translator_formalmodeltranslator_classicalb_Token) hE (fun m => ef_rmT41 m r0 r1 r2 r4) ?_
  intro p e s m below meth c T0 X0
  have Z0 : Keep h0 h0 [r0] := Keep.refl _ _
  refine OwnW.aloadN X0 (n := 1) d9_0 rfl rfl rfl ?_
  refine OwnW.aloadN X0 (n := 2) d9_1 rfl rfl rfl ?_
  refine OwnW.aloadN X0 (n := 3) d9_2 rfl rfl rfl ?_
  refine OwnW.aloadN X0 (n := 4) d9_3 rfl rfl rfl ?_
  refine OwnW.aloadN X0 (n := 5) d9_4 rfl rfl rfl ?_
  refine OwnW.aload X0 (n := 7) d9_5 rfl rfl rfl ?_
  refine OwnW.iconst X0 (z := (0 : Int32)) (n := 8) d9_7 rfl rfl ?_
  refine OwnW.anull X0 (n := 9) d9_8 rfl ?_
  refine OwnW.call_special_n X0 (z := (⟨"com/example/formal_model_translator/formalmodeltranslator/classicalb/Token", "<init>", "(Lcom/example/formal_model_translator/formalmodeltranslator/classicalb/Token$Kind;Ljava/lang/String;Ljava/lang/String;Lcom/example/formal_model_translator/formalmodeltranslator/model/SourcePosition;Lcom/example/formal_model_translator/formalmodeltranslator/classicalb/LabelPragma;ZLjava/lang/String;)V"⟩ : MethodName)) (a := r0) (n := 12) d9_9 (hw _ (List.mem_of_getElem? (i := 50) rfl)) (hw _ (List.mem_of_getElem? (i := 51) rfl)) (hw _ (List.mem_of_getElem? (i := 52) rfl)) (hw _ (List.mem_of_getElem? (i := 46) rfl)) rfl rfl (by decide) (rmT71 l Z a0 hw hE [] r0 r1 r2 r2 r4 h0 n0 O0 ge_r0 E0 u0 Fi0 u1 Fi1 u2 Fi2 u3 Fi3 u4 Fi4 u5 Fi5 u6 Fi6) (OwnW.sfS (List.mem_cons_self ..) OwnW.sf0) (argsL := [(.ref r1), (.ref r2), (.ref r2), .null, (.ref r4), (.int (0 : Int32)), .null]) (rest := []) rfl rfl (OwnW.lenA pd__Lcom_example_formal_model_translator_formalmodeltranslator_classicalb_Token_Kind_Ljava_lang_String_Ljava_lang_String_Lcom_example_formal_model_translator_formalmodeltranslator_model_SourcePosition_Lcom_example_formal_model_translator_formalmodeltranslator_classicalb_LabelPragma_ZLjava_lang_String__V rfl) (W := 0) (Nat.le_of_eq rfl) (by decide) (by decide) (by decide) (by decide) rfl ?_
  intro T1 h1 g1 hle1 X1 qq
  exact OwnW.vreturn X1 rfl d9_12 qq (by decide) (by decide)
theorem ef_rmL1 (m : MethodId) (x0 : Addr) (x1 : Addr) : entryFrame m #[(.ref x0), (.ref x1), .null] 3 = mkF m 0 #[.val (.ref x0), .val (.ref x1), .val .null] [] := by first | (simp [entryFrame, mkF, argsToLocals, Value.category]; done) | rfl
set_option maxRecDepth 65536 in
set_option maxHeartbeats 40000000 in
theorem rmL1 (l : Launch) (Z : State) (a0 : Array Value) (hw : ∀ d ∈ tables_1, d.before a0 Z = true) (hE : EW Z a0 own_EL) (ws : List Jvm.Cond) (r0 : Addr) (r1 : Addr) (h0 : Heap) (n0 : Nat) (O0 : Old Z n0 h0) (ge_r0 : n0 ≤ r0) (E0 : Exa Z h0 r0 "com/example/formal_model_translator/formalmodeltranslator/classicalb/LabelPragma") (u0 : Value) (Fi0 : Fld Z h0 r0 "com/example/formal_model_translator/formalmodeltranslator/classicalb/LabelPragma" "label" "Ljava/lang/String;" u0) (u1 : Value) (Fi1 : Fld Z h0 r0 "com/example/formal_model_translator/formalmodeltranslator/classicalb/LabelPragma" "position" "Lcom/example/formal_model_translator/formalmodeltranslator/model/SourcePosition;" u1) :
    Ctr False l Z own_EL (⟨"com/example/formal_model_translator/formalmodeltranslator/classicalb/LabelPragma", "<init>", "(Ljava/lang/String;Lcom/example/formal_model_translator/formalmodeltranslator/model/SourcePosition;)V"⟩ : MethodName) prog_9_method_1_code 3 none ws ({ frames := 1, cells := 0, slots := 0, locals := 12 } : Room) n0 (r0 :: []) #[(.ref r0), (.ref r1), .null] h0 (Rn (fun h g => Keep h0 h [r0] ∧ Fld Z h r0 "com/example/formal_model_translator/formalmodeltranslator/classicalb/LabelPragma" "label" "Ljava/lang/String;" (.ref r1))) := by
  refine Ctr.of (plainFor_of_name pn_com_example_formal_model_translator_formalmodeltranslator_classicalb_LabelPragma) hE (fun m => ef_rmL1 m r0 r1) ?_
  intro p e s m below meth c T0 X0
  have Z0 : Keep h0 h0 [r0] := Keep.refl _ _
  refine OwnW.aloadN X0 (n := 1) d12_0 rfl rfl rfl ?_
  refine OwnW.initObj X0 (W := 0) (n := 4) d12_1 (hw _ (List.mem_of_getElem? (i := 81) rfl)) (hw _ (List.mem_of_getElem? (i := 12) rfl)) (hw _ (List.mem_of_getElem? (i := 13) rfl)) rfl (by decide) (by decide) (by decide) rfl ?_
  intro T1 X1
  refine OwnW.aloadN X1 (n := 5) d12_4 rfl rfl rfl ?_
  refine OwnW.aloadN X1 (n := 6) d12_5 rfl rfl rfl ?_
  refine OwnW.putfield X1 (ty := (.object "java/lang/String")) (v' := (.ref r1)) (n := 9) d12_6 (hw _ (List.mem_of_getElem? (i := 82) rfl)) Via.refl Fi0 E0 (Or.inr ⟨(hw _ (List.mem_of_getElem? (i := 83) rfl)), rfl, rfl⟩) (hw _ (List.mem_of_getElem? (i := 76) rfl)) (by decide) rfl rfl ge_r0 (List.mem_cons_self ..) rfl ?_
  intro T2 h2 X2 W2 Fw2
  have f3 := Fi1.other W2 (Or.inr (slot_ne (Or.inr (hw _ (List.mem_of_getElem? (i := 85) rfl))) (Or.inr (hw _ (List.mem_of_getElem? (i := 83) rfl))) (by decide) (t := (.object "com/example/formal_model_translator/formalmodeltranslator/model/SourcePosition")) (t' := (.object "java/lang/String")) (by decide) (by decide)))
  have K2 := (Keep.of_wr W2)
  have O2 := O0.keep K2 (allS ge_r0 all0)
  have Z2 : Keep h0 h2 [r0] := Z0.trans K2 (allS (P := fun x => x ∈ [r0] ∨ h0.size ≤ x) (Or.inl (List.mem_of_getElem? (i := 0) rfl)) all0)
  refine OwnW.aloadN X2 (n := 10) d12_9 rfl rfl rfl ?_
  refine OwnW.aloadN X2 (n := 11) d12_10 rfl rfl rfl ?_
  have f4 := (E0.keep K2)
  refine OwnW.putfield X2 (ty := (.object "com/example/formal_model_translator/formalmodeltranslator/model/SourcePosition")) (v' := .null) (n := 14) d12_11 (hw _ (List.mem_of_getElem? (i := 84) rfl)) Via.refl f3 f4 (Or.inr ⟨(hw _ (List.mem_of_getElem? (i := 85) rfl)), rfl, rfl⟩) (hw _ (List.mem_of_getElem? (i := 76) rfl)) (by decide) rfl rfl ge_r0 (List.mem_cons_self ..) rfl ?_
  intro T5 h5 X5 W5 Fw5
  have f6 := Fw2.other W5 (Or.inr (slot_ne (Or.inr (hw _ (List.mem_of_getElem? (i := 83) rfl))) (Or.inr (hw _ (List.mem_of_getElem? (i := 85) rfl))) (by decide) (t := (.object "java/lang/String")) (t' := (.object "com/example/formal_model_translator/formalmodeltranslator/model/SourcePosition")) (by decide) (by decide)))
  have K5 := (Keep.of_wr W5)
  have O5 := O2.keep K5 (allS ge_r0 all0)
  have Z5 : Keep h0 h5 [r0] := Z2.trans K5 (allS (P := fun x => x ∈ [r0] ∨ h0.size ≤ x) (Or.inl (List.mem_of_getElem? (i := 0) rfl)) all0)
  exact OwnW.vreturn X5 rfl d12_14 ⟨Z5, f6⟩ (by decide) (by decide)
theorem ef_rmG1 (m : MethodId) (x0 : Addr) : entryFrame m #[(.ref x0)] 1 = mkF m 0 #[.val (.ref x0)] [] := by first | (simp [entryFrame, mkF, argsToLocals, Value.category]; done) | rfl
set_option maxRecDepth 65536 in
set_option maxHeartbeats 40000000 in
theorem rmG1 (l : Launch) (Z : State) (a0 : Array Value) (hw : ∀ d ∈ tables_1, d.before a0 Z = true) (hE : EW Z a0 own_EL) (ws : List Jvm.Cond) (r0 : Addr) (h0 : Heap) (n0 : Nat) (o : Addr) (F1 : Fld Z h0 r0 "com/example/formal_model_translator/formalmodeltranslator/classicalb/LabelPragma" "label" "Ljava/lang/String;" (.ref o)) :
    Ctr False l Z own_EL (⟨"com/example/formal_model_translator/formalmodeltranslator/classicalb/LabelPragma", "getLabel", "()Ljava/lang/String;"⟩ : MethodName) prog_9_method_2_code 1 (some (.object "java/lang/String")) ws ({ frames := 0, cells := 0, slots := 0, locals := 0 } : Room) n0 ([]) #[(.ref r0)] h0 (Rt (fun w h g => w = .ref o ∧ h0 = h)) := by
  refine Ctr.of (plainFor_of_name pn_com_example_formal_model_translator_formalmodeltranslator_classicalb_LabelPragma) hE (fun m => ef_rmG1 m r0) ?_
  intro p e s m below meth c T0 X0
  refine OwnW.aloadN X0 (n := 1) d13_0 rfl rfl rfl ?_
  refine OwnW.getfield X0 (n := 4) d13_1 (hw _ (List.mem_of_getElem? (i := 82) rfl)) Via.refl F1 rfl ?_
  intro T1 X1
  exact OwnW.areturn X1 rfl rfl rfl d13_4 ⟨rfl, rfl⟩ (by decide) (by decide)
theorem d11_0 : decode prog_33_method_11_code 0 = .ok (.aload_n 0, 1) := by decide +kernel
theorem d11_1 : decode prog_33_method_11_code 1 = .ok (.getfield 27, 3) := by decide +kernel
theorem d11_4 : decode prog_33_method_11_code 4 = .ok (.ifnonnull 7, 3) := by decide +kernel
theorem d11_7 : decode prog_33_method_11_code 7 = .ok (.aconst_null, 1) := by decide +kernel
theorem d11_8 : decode prog_33_method_11_code 8 = .ok (.goto 10, 3) := by decide +kernel
theorem d11_18 : decode prog_33_method_11_code 18 = .ok (.areturn, 1) := by decide +kernel
theorem ef_rmH0 (m : MethodId) (x0 : Addr) : entryFrame m #[(.ref x0)] 1 = mkF m 0 #[.val (.ref x0)] [] := by first | (simp [entryFrame, mkF, argsToLocals, Value.category]; done) | rfl
set_option maxRecDepth 65536 in
set_option maxHeartbeats 40000000 in
theorem rmH0 (l : Launch) (Z : State) (a0 : Array Value) (hw : ∀ d ∈ tables_1, d.before a0 Z = true) (hE : EW Z a0 own_EL) (ws : List Jvm.Cond) (r0 : Addr) (h0 : Heap) (n0 : Nat) (F1 : Fld Z h0 r0 "com/example/formal_model_translator/formalmodeltranslator/classicalb/Token" "pragma" "Lcom/example/formal_model_translator/formalmodeltranslator/classicalb/LabelPragma;" .null) :
    Ctr False l Z own_EL (⟨"com/example/formal_model_translator/formalmodeltranslator/classicalb/Token", "getLabel", "()Ljava/lang/String;"⟩ : MethodName) prog_33_method_11_code 1 (some (.object "java/lang/String")) ws ({ frames := 1, cells := 0, slots := 0, locals := 12 } : Room) n0 ([]) #[(.ref r0)] h0 (Rt (fun w h g => w = .null ∧ h0 = h)) := by
  refine Ctr.of (plainFor_of_name pn_com_example_formal_model_translator_formalmodeltranslator_classicalb_Token) hE (fun m => ef_rmH0 m r0) ?_
  intro p e s m below meth c T0 X0
  refine OwnW.aloadN X0 (n := 1) d11_0 rfl rfl rfl ?_
  refine OwnW.getfield X0 (n := 4) d11_1 (hw _ (List.mem_of_getElem? (i := 62) rfl)) Via.refl F1 rfl ?_
  intro T1 X1
  refine OwnW.ifnonnull_n X1 (n2 := 7) d11_4 rfl ?_
  refine OwnW.anull X1 (n := 8) d11_7 rfl ?_
  refine OwnW.goto X1 (n := 18) d11_8 (by decide) rfl ?_
  exact OwnW.areturn X1 rfl rfl rfl d11_18 ⟨rfl, rfl⟩ (by decide) (by decide)
theorem pd___Ljava_lang_String_ : parseMethodDescriptor "()Ljava/lang/String;" = some ⟨[], some (.object "java/lang/String")⟩ := by decide +kernel
theorem d11_11 : decode prog_33_method_11_code 11 = .ok (.aload_n 0, 1) := by decide +kernel
theorem d11_12 : decode prog_33_method_11_code 12 = .ok (.getfield 27, 3) := by decide +kernel
theorem d11_15 : decode prog_33_method_11_code 15 = .ok (.invokevirtual 63, 3) := by decide +kernel
theorem ef_rmH1 (m : MethodId) (x0 : Addr) : entryFrame m #[(.ref x0)] 1 = mkF m 0 #[.val (.ref x0)] [] := by first | (simp [entryFrame, mkF, argsToLocals, Value.category]; done) | rfl
set_option maxRecDepth 65536 in
set_option maxHeartbeats 40000000 in
theorem rmH1 (l : Launch) (Z : State) (a0 : Array Value) (hw : ∀ d ∈ tables_1, d.before a0 Z = true) (hE : EW Z a0 own_EL) (ws : List Jvm.Cond) (r0 : Addr) (h0 : Heap) (n0 : Nat) (g1 : Addr) (F1 : Fld Z h0 r0 "com/example/formal_model_translator/formalmodeltranslator/classicalb/Token" "pragma" "Lcom/example/formal_model_translator/formalmodeltranslator/classicalb/LabelPragma;" (.ref g1)) (E1 : Exa Z h0 g1 "com/example/formal_model_translator/formalmodeltranslator/classicalb/LabelPragma") (F2 : Fld Z h0 g1 "com/example/formal_model_translator/formalmodeltranslator/classicalb/LabelPragma" "label" "Ljava/lang/String;" .null) :
    Ctr False l Z own_EL (⟨"com/example/formal_model_translator/formalmodeltranslator/classicalb/Token", "getLabel", "()Ljava/lang/String;"⟩ : MethodName) prog_33_method_11_code 1 (some (.object "java/lang/String")) ws ({ frames := 1, cells := 0, slots := 0, locals := 12 } : Room) n0 ([]) #[(.ref r0)] h0 (Rt (fun w h g => w = .null ∧ h0 = h)) := by
  refine Ctr.of (plainFor_of_name pn_com_example_formal_model_translator_formalmodeltranslator_classicalb_Token) hE (fun m => ef_rmH1 m r0) ?_
  intro p e s m below meth c T0 X0
  refine OwnW.aloadN X0 (n := 1) d11_0 rfl rfl rfl ?_
  refine OwnW.getfield X0 (n := 4) d11_1 (hw _ (List.mem_of_getElem? (i := 62) rfl)) Via.refl F1 rfl ?_
  intro T1 X1
  refine OwnW.ifnonnull_y X1 (n1 := 11) d11_4 (by decide) rfl ?_
  refine OwnW.aloadN X1 (n := 12) d11_11 rfl rfl rfl ?_
  refine OwnW.getfield X1 (n := 15) d11_12 (hw _ (List.mem_of_getElem? (i := 62) rfl)) Via.refl F1 rfl ?_
  intro T2 X2
  refine OwnW.call_virtual_v X2 (z := (⟨"com/example/formal_model_translator/formalmodeltranslator/classicalb/LabelPragma", "getLabel", "()Ljava/lang/String;"⟩ : MethodName)) (yv := (⟨"com/example/formal_model_translator/formalmodeltranslator/classicalb/LabelPragma", "getLabel", "()Ljava/lang/String;"⟩ : MethodName)) (a := g1) (C := "com/example/formal_model_translator/formalmodeltranslator/classicalb/LabelPragma") (n := 18) d11_15 (hw _ (List.mem_of_getElem? (i := 86) rfl)) (hw _ (List.mem_of_getElem? (i := 87) rfl)) (hw _ (List.mem_of_getElem? (i := 88) rfl)) (hw _ (List.mem_of_getElem? (i := 89) rfl)) (fun hz => notFace_of_selects (args := #[]) (mvT hz (hw _ (List.mem_of_getElem? (i := 89) rfl)))) (hw _ (List.mem_of_getElem? (i := 90) rfl)) (hw _ (List.mem_of_getElem? (i := 77) rfl)) (by decide) E1 (rmG0 l Z a0 hw hE [] g1 h0 n0 F2) OwnW.sf0 (argsL := []) (rest := []) rfl rfl (OwnW.lenA pd___Ljava_lang_String_ rfl) (W := 0) (Nat.le_of_eq rfl) (by decide) (by decide) (by decide) (by decide) rfl ?_
  intro T3 h3 w3 g3 hle3 X3 ⟨q1, q2⟩
  subst q1 q2
  exact OwnW.areturn X3 rfl rfl rfl d11_18 ⟨rfl, rfl⟩ (by decide) (by decide)
theorem ef_rmH2 (m : MethodId) (x0 : Addr) : entryFrame m #[(.ref x0)] 1 = mkF m 0 #[.val (.ref x0)] [] := by first | (simp [entryFrame, mkF, argsToLocals, Value.category]; done) | rfl
set_option maxRecDepth 65536 in
set_option maxHeartbeats 40000000 in
theorem rmH2 (l : Launch) (Z : State) (a0 : Array Value) (hw : ∀ d ∈ tables_1, d.before a0 Z = true) (hE : EW Z a0 own_EL) (ws : List Jvm.Cond) (r0 : Addr) (h0 : Heap) (n0 : Nat) (g1 : Addr) (F1 : Fld Z h0 r0 "com/example/formal_model_translator/formalmodeltranslator/classicalb/Token" "pragma" "Lcom/example/formal_model_translator/formalmodeltranslator/classicalb/LabelPragma;" (.ref g1)) (E1 : Exa Z h0 g1 "com/example/formal_model_translator/formalmodeltranslator/classicalb/LabelPragma") (o : Addr) (F2 : Fld Z h0 g1 "com/example/formal_model_translator/formalmodeltranslator/classicalb/LabelPragma" "label" "Ljava/lang/String;" (.ref o)) :
    Ctr False l Z own_EL (⟨"com/example/formal_model_translator/formalmodeltranslator/classicalb/Token", "getLabel", "()Ljava/lang/String;"⟩ : MethodName) prog_33_method_11_code 1 (some (.object "java/lang/String")) ws ({ frames := 1, cells := 0, slots := 0, locals := 12 } : Room) n0 ([]) #[(.ref r0)] h0 (Rt (fun w h g => w = .ref o ∧ h0 = h)) := by
  refine Ctr.of (plainFor_of_name pn_com_example_formal_model_translator_formalmodeltranslator_classicalb_Token) hE (fun m => ef_rmH2 m r0) ?_
  intro p e s m below meth c T0 X0
  refine OwnW.aloadN X0 (n := 1) d11_0 rfl rfl rfl ?_
  refine OwnW.getfield X0 (n := 4) d11_1 (hw _ (List.mem_of_getElem? (i := 62) rfl)) Via.refl F1 rfl ?_
  intro T1 X1
  refine OwnW.ifnonnull_y X1 (n1 := 11) d11_4 (by decide) rfl ?_
  refine OwnW.aloadN X1 (n := 12) d11_11 rfl rfl rfl ?_
  refine OwnW.getfield X1 (n := 15) d11_12 (hw _ (List.mem_of_getElem? (i := 62) rfl)) Via.refl F1 rfl ?_
  intro T2 X2
  refine OwnW.call_virtual_v X2 (z := (⟨"com/example/formal_model_translator/formalmodeltranslator/classicalb/LabelPragma", "getLabel", "()Ljava/lang/String;"⟩ : MethodName)) (yv := (⟨"com/example/formal_model_translator/formalmodeltranslator/classicalb/LabelPragma", "getLabel", "()Ljava/lang/String;"⟩ : MethodName)) (a := g1) (C := "com/example/formal_model_translator/formalmodeltranslator/classicalb/LabelPragma") (n := 18) d11_15 (hw _ (List.mem_of_getElem? (i := 86) rfl)) (hw _ (List.mem_of_getElem? (i := 87) rfl)) (hw _ (List.mem_of_getElem? (i := 88) rfl)) (hw _ (List.mem_of_getElem? (i := 89) rfl)) (fun hz => notFace_of_selects (args := #[]) (mvT hz (hw _ (List.mem_of_getElem? (i := 89) rfl)))) (hw _ (List.mem_of_getElem? (i := 90) rfl)) (hw _ (List.mem_of_getElem? (i := 77) rfl)) (by decide) E1 (rmG1 l Z a0 hw hE [] g1 h0 n0 o F2) OwnW.sf0 (argsL := []) (rest := []) rfl rfl (OwnW.lenA pd___Ljava_lang_String_ rfl) (W := 0) (Nat.le_of_eq rfl) (by decide) (by decide) (by decide) (by decide) rfl ?_
  intro T3 h3 w3 g3 hle3 X3 ⟨q1, q2⟩
  subst q1 q2
  exact OwnW.areturn X3 rfl rfl rfl d11_18 ⟨rfl, rfl⟩ (by decide) (by decide)
theorem pn_java_lang_String : plainName "java/lang/String" = true := by first | (simp [plainName, overriddenIn]; done) | decide +kernel
theorem d14_0 : decode jdk_42_method_66_code 0 = .ok (.aload_n 0, 1) := by decide +kernel
theorem d14_1 : decode jdk_42_method_66_code 1 = .ok (.aload_n 1, 1) := by decide +kernel
theorem d14_2 : decode jdk_42_method_66_code 2 = .ok (.if_acmp .ne 5, 3) := by decide +kernel
theorem d14_5 : decode jdk_42_method_66_code 5 = .ok (.iconst 1, 1) := by decide +kernel
theorem d14_6 : decode jdk_42_method_66_code 6 = .ok (.ireturn, 1) := by decide +kernel
theorem ef_rmS (m : MethodId) (x0 : Addr) (x1 : Addr) : entryFrame m #[(.ref x0), (.ref x1)] 3 = mkF m 0 #[.val (.ref x0), .val (.ref x1), .unset] [] := by first | (simp [entryFrame, mkF, argsToLocals, Value.category]; done) | rfl
set_option maxRecDepth 65536 in
set_option maxHeartbeats 40000000 in
theorem rmS (l : Launch) (Z : State) (a0 : Array Value) (hw : ∀ d ∈ tables_1, d.before a0 Z = true) (hE : EW Z a0 own_EL) (ws : List Jvm.Cond) (r0 : Addr) (h0 : Heap) (n0 : Nat)  :
    Ctr False l Z own_EL (⟨"java/lang/String", "equals", "(Ljava/lang/Object;)Z"⟩ : MethodName) jdk_42_method_66_code 3 (some .boolean) ws ({ frames := 0, cells := 0, slots := 0, locals := 0 } : Room) n0 ([]) #[(.ref r0), (.ref r0)] h0 (Rt (fun w h g => w = .int 1 ∧ h0 = h)) := by
  refine Ctr.of (plainFor_of_name pn_java_lang_String) hE (fun m => ef_rmS m r0 r0) ?_
  intro p e s m below meth c T0 X0
  refine OwnW.aloadN X0 (n := 1) d14_0 rfl rfl rfl ?_
  refine OwnW.aloadN X0 (n := 2) d14_1 rfl rfl rfl ?_
  refine OwnW.ac_ne X0 (n1 := 7) (n2 := 5) d14_2 rfl rfl (by decide) rfl rfl (fun q => absurd (rfl : ((.ref r0) : Value) = (.ref r0)) q) (fun _ => ?_)
  refine OwnW.iconst X0 (z := (1 : Int32)) (n := 6) d14_5 rfl rfl ?_
  exact OwnW.ireturn X0 rfl (Or.inr (Or.inl rfl)) rfl d14_6 ⟨rfl, rfl⟩ (by decide) (by decide)
theorem d2_0 : decode jdk_42_method_149_code 0 = .ok (.aload_n 0, 1) := by decide +kernel
theorem d2_1 : decode jdk_42_method_149_code 1 = .ok (.invokespecial 1, 3) := by decide +kernel
theorem d2_4 : decode jdk_42_method_149_code 4 = .ok (.iload_n 3, 1) := by decide +kernel
theorem d2_5 : decode jdk_42_method_149_code 5 = .ok (.ifCond .ne 22, 3) := by decide +kernel
theorem d2_8 : decode jdk_42_method_149_code 8 = .ok (.aload_n 0, 1) := by decide +kernel
theorem d2_9 : decode jdk_42_method_149_code 9 = .ok (.ldc 7, 2) := by decide +kernel
theorem d2_11 : decode jdk_42_method_149_code 11 = .ok (.getfield 9, 3) := by decide +kernel
theorem d2_14 : decode jdk_42_method_149_code 14 = .ok (.putfield 9, 3) := by decide +kernel
theorem d2_17 : decode jdk_42_method_149_code 17 = .ok (.aload_n 0, 1) := by decide +kernel
theorem d2_18 : decode jdk_42_method_149_code 18 = .ok (.ldc 7, 2) := by decide +kernel
theorem d2_20 : decode jdk_42_method_149_code 20 = .ok (.getfield 15, 3) := by decide +kernel
theorem d2_23 : decode jdk_42_method_149_code 23 = .ok (.putfield 15, 3) := by decide +kernel
theorem d2_26 : decode jdk_42_method_149_code 26 = .ok (.return_, 1) := by decide +kernel
theorem ef_rm2e (m : MethodId) (x0 : Addr) (x1 : Addr) : entryFrame m #[(.ref x0), (.ref x1), (.int (0 : Int32)), (.int (0 : Int32)), .null] 6 = mkF m 0 #[.val (.ref x0), .val (.ref x1), .val (.int (0 : Int32)), .val (.int (0 : Int32)), .val .null, .unset] [] := by first | (simp [entryFrame, mkF, argsToLocals, Value.category]; done) | rfl
set_option maxRecDepth 65536 in
set_option maxHeartbeats 40000000 in
theorem rm2e (l : Launch) (Z : State) (a0 : Array Value) (hw : ∀ d ∈ tables_1, d.before a0 Z = true) (hE : EW Z a0 own_EL) (ws : List Jvm.Cond) (r0 : Addr) (r1 : Addr) (h0 : Heap) (n0 : Nat) (O0 : Old Z n0 h0) (sfx : List Addr) (ge_r0 : n0 ≤ r0) (E0 : Exa Z h0 r0 "java/lang/String") (v1 v2 : Value) (F1 : Fld Z h0 r0 "java/lang/String" "value" "[B" v1) (F2 : Fld Z h0 r0 "java/lang/String" "coder" "B" v2) :
    Ctr False l Z own_EL (⟨"java/lang/String", "<init>", "([CIILjava/lang/Void;)V"⟩ : MethodName) jdk_42_method_149_code 6 none ws ({ frames := 1, cells := 4, slots := 8, locals := 12 } : Room) n0 (r0 :: sfx) #[(.ref r0), (.ref r1), (.int (0 : Int32)), (.int (0 : Int32)), .null] h0 (Rn (fun h g => Keep h0 h [r0] ∧ ∃ t, (∀ y ∈ sfx, y ≠ t) ∧ StrL Z h r0 t [])) := by
  refine Ctr.of (plainFor_of_name pn_java_lang_String) hE (fun m => ef_rm2e m r0 r1) ?_
  intro p e s m below meth c T0 X0
  have Z0 : Keep h0 h0 [r0] := Keep.refl _ _
  refine OwnW.aloadN X0 (n := 1) d2_0 rfl rfl rfl ?_
  refine OwnW.initObj X0 (W := 0) (n := 4) d2_1 (hw _ (List.mem_of_getElem? (i := 11) rfl)) (hw _ (List.mem_of_getElem? (i := 12) rfl)) (hw _ (List.mem_of_getElem? (i := 13) rfl)) rfl (by decide) (by decide) (by decide) rfl ?_
  intro T1 X1
  refine OwnW.iloadN X1 (n := 5) d2_4 rfl rfl ?_
  refine OwnW.if_ne X1  (n1 := 27) (n2 := 8) d2_5 (by decide) rfl rfl (fun q => absurd ((by decide) : (0 : Int32) = 0) q) (fun _ => ?_)
  refine OwnW.aloadN X1 (n := 9) d2_8 rfl rfl rfl ?_
  refine OwnW.ldcS X1 (bs := []) (nn := 0) (text := "") (n := 11) d2_9 (hw _ (List.mem_of_getElem? (i := 14) rfl)) (fun d hd => hw d ((by decide +kernel : ∀ d ∈ Bundle.stringAtoms, d ∈ tables_1) d hd)) (by decide) ⟨by decide, rfl⟩ (by decide) (by decide) (by decide) (by decide) (by decide) rfl ?_
  intro T2 h2 l2 t2 X2 E2 e2 c2 v2 a2 n2
  have K2 := (OwnW.kExt E2)
  have O2 := O0.keep K2 all0
  have Z2 : Keep h0 h2 [r0] := Z0.trans K2 (fun x hx => nomatch hx)
  obtain ⟨nl2, nt2⟩ := n2 r0 (List.mem_cons_self ..)
  have nx2 : ∀ y ∈ sfx, y ≠ t2 := fun y hx => (n2 y (List.mem_cons_of_mem _ hx)).2
  refine OwnW.getfield X2 (n := 14) d2_11 (hw _ (List.mem_of_getElem? (i := 20) rfl)) Via.refl v2 rfl ?_
  intro T3 X3
  have f4 := (F1.keep K2 nin0)
  have f5 := (E0.keep K2)
  refine OwnW.putfield X3 (ty := (.array .byte)) (v' := (.ref t2)) (n := 17) d2_14 (hw _ (List.mem_of_getElem? (i := 20) rfl)) Via.refl f4 f5 (Or.inr ⟨(hw _ (List.mem_of_getElem? (i := 16) rfl)), rfl, rfl⟩) (hw _ (List.mem_of_getElem? (i := 2) rfl)) (by decide) rfl rfl ge_r0 (List.mem_cons_self ..) rfl ?_
  intro T6 h6 X6 W6 Fw6
  have f7 := (F2.keep K2 nin0)
  have f8 := f7.other W6 (Or.inr (slot_ne (Or.inr (hw _ (List.mem_of_getElem? (i := 17) rfl))) (Or.inr (hw _ (List.mem_of_getElem? (i := 16) rfl))) (by decide) (t := .byte) (t' := (.array .byte)) (by decide) (by decide)))
  have K6 := (Keep.of_wr W6)
  have O6 := O2.keep K6 (allS ge_r0 all0)
  have Z6 : Keep h0 h6 [r0] := Z2.trans K6 (allS (P := fun x => x ∈ [r0] ∨ h0.size ≤ x) (Or.inl (List.mem_of_getElem? (i := 0) rfl)) all0)
  refine OwnW.aloadN X6 (n := 18) d2_17 rfl rfl rfl ?_
  refine OwnW.ldcS X6 (bs := []) (nn := 0) (text := "") (n := 20) d2_18 (hw _ (List.mem_of_getElem? (i := 14) rfl)) (fun d hd => hw d ((by decide +kernel : ∀ d ∈ Bundle.stringAtoms, d ∈ tables_1) d hd)) (by decide) ⟨by decide, rfl⟩ (by decide) (by decide) (by decide) (by decide) (by decide) rfl ?_
  intro T9 h9 l9 t9 X9 E9 e9 c9 v9 a9 n9
  have K9 := (OwnW.kExt E9)
  have O9 := O6.keep K9 all0
  have Z9 : Keep h0 h9 [r0] := Z6.trans K9 (fun x hx => nomatch hx)
  obtain ⟨nl9, nt9⟩ := n9 r0 (List.mem_cons_self ..)
  have nx9 : ∀ y ∈ sfx, y ≠ t9 := fun y hx => (n9 y (List.mem_cons_of_mem _ hx)).2
  refine OwnW.getfield X9 (n := 23) d2_20 (hw _ (List.mem_of_getElem? (i := 21) rfl)) Via.refl c9 rfl ?_
  intro T10 X10
  have f11 := (f8.keep K9 nin0)
  have f12 := ((f5.keep K6).keep K9)
  refine OwnW.putfield X10 (ty := .byte) (v' := (.int (0 : Int32))) (n := 26) d2_23 (hw _ (List.mem_of_getElem? (i := 21) rfl)) Via.refl f11 f12 (Or.inr ⟨(hw _ (List.mem_of_getElem? (i := 17) rfl)), rfl, rfl⟩) (hw _ (List.mem_of_getElem? (i := 2) rfl)) (by decide) rfl rfl ge_r0 (List.mem_cons_self ..) rfl ?_
  intro T13 h13 X13 W13 Fw13
  have f14 := (Fw6.keep K9 nin0)
  have f15 := f14.other W13 (Or.inr (slot_ne (Or.inr (hw _ (List.mem_of_getElem? (i := 16) rfl))) (Or.inr (hw _ (List.mem_of_getElem? (i := 17) rfl))) (by decide) (t := (.array .byte)) (t' := .byte) (by decide) (by decide)))
  have K13 := (Keep.of_wr W13)
  have O13 := O9.keep K13 (allS ge_r0 all0)
  have Z13 : Keep h0 h13 [r0] := Z9.trans K13 (allS (P := fun x => x ∈ [r0] ∨ h0.size ≤ x) (Or.inl (List.mem_of_getElem? (i := 0) rfl)) all0)
  have f16 := (f12.keep K13)
  have f17 := (((a2.keep K6 (ninS (Ne.symm nt2) nin0)).keep K9 nin0).keep K13 (ninS (Ne.symm nt2) nin0))
  exact OwnW.vreturn X13 rfl d2_26 ⟨Z13, _, nx2, f16, Fw13, f15, f17⟩ (by decide) (by decide)
theorem pd___CIILjava_lang_Void__V : parseMethodDescriptor "([CIILjava/lang/Void;)V" = some ⟨[(.array .char), .int, .int, (.object "java/lang/Void")], none⟩ := by decide +kernel
theorem d1_0 : decode jdk_42_method_3_code 0 = .ok (.aload_n 0, 1) := by decide +kernel
theorem d1_1 : decode jdk_42_method_3_code 1 = .ok (.aload_n 1, 1) := by decide +kernel
theorem d1_2 : decode jdk_42_method_3_code 2 = .ok (.iconst 0, 1) := by decide +kernel
theorem d1_3 : decode jdk_42_method_3_code 3 = .ok (.aload_n 1, 1) := by decide +kernel
theorem d1_4 : decode jdk_42_method_3_code 4 = .ok (.arraylength, 1) := by decide +kernel
theorem d1_5 : decode jdk_42_method_3_code 5 = .ok (.aconst_null, 1) := by decide +kernel
theorem d1_6 : decode jdk_42_method_3_code 6 = .ok (.invokespecial 27, 3) := by decide +kernel
theorem d1_9 : decode jdk_42_method_3_code 9 = .ok (.return_, 1) := by decide +kernel
theorem ef_rm1e (m : MethodId) (x0 : Addr) (x1 : Addr) : entryFrame m #[(.ref x0), (.ref x1)] 2 = mkF m 0 #[.val (.ref x0), .val (.ref x1)] [] := by first | (simp [entryFrame, mkF, argsToLocals, Value.category]; done) | rfl
set_option maxRecDepth 65536 in
set_option maxHeartbeats 40000000 in
theorem rm1e (l : Launch) (Z : State) (a0 : Array Value) (hw : ∀ d ∈ tables_1, d.before a0 Z = true) (hE : EW Z a0 own_EL) (ws : List Jvm.Cond) (r0 : Addr) (r1 : Addr) (h0 : Heap) (n0 : Nat) (O0 : Old Z n0 h0) (sfx : List Addr) (ge_r0 : n0 ≤ r0) (E0 : Exa Z h0 r0 "java/lang/String") (v1 v2 : Value) (F1 : Fld Z h0 r0 "java/lang/String" "value" "[B" v1) (F2 : Fld Z h0 r0 "java/lang/String" "coder" "B" v2) (A1 : Ark Z h0 r1 .char []) :
    Ctr False l Z own_EL (⟨"java/lang/String", "<init>", "([C)V"⟩ : MethodName) jdk_42_method_3_code 2 none ws ({ frames := 2, cells := 4, slots := 8, locals := 29 } : Room) n0 (r0 :: sfx) #[(.ref r0), (.ref r1)] h0 (Rn (fun h g => Keep h0 h [r0] ∧ ∃ t, (∀ y ∈ sfx, y ≠ t) ∧ StrL Z h r0 t [])) := by
  refine Ctr.of (plainFor_of_name pn_java_lang_String) hE (fun m => ef_rm1e m r0 r1) ?_
  intro p e s m below meth c T0 X0
  have Z0 : Keep h0 h0 [r0] := Keep.refl _ _
  refine OwnW.aloadN X0 (n := 1) d1_0 rfl rfl rfl ?_
  refine OwnW.aloadN X0 (n := 2) d1_1 rfl rfl rfl ?_
  refine OwnW.iconst X0 (z := (0 : Int32)) (n := 3) d1_2 rfl rfl ?_
  refine OwnW.aloadN X0 (n := 4) d1_3 rfl rfl rfl ?_
  refine OwnW.arraylength X0 (z := (0 : Int32)) (n := 5) d1_4 A1 rfl rfl ?_
  refine OwnW.anull X0 (n := 6) d1_5 rfl ?_
  refine OwnW.call_special_n X0 (z := (⟨"java/lang/String", "<init>", "([CIILjava/lang/Void;)V"⟩ : MethodName)) (a := r0) (n := 9) d1_6 (hw _ (List.mem_of_getElem? (i := 7) rfl)) (hw _ (List.mem_of_getElem? (i := 8) rfl)) (hw _ (List.mem_of_getElem? (i := 10) rfl)) (hw _ (List.mem_of_getElem? (i := 3) rfl)) rfl rfl (by decide) (rm2e l Z a0 hw hE [] r0 r1 h0 n0 O0 sfx ge_r0 E0 v1 v2 F1 F2) (OwnW.sfS (List.mem_cons_self ..) (fun x hx => (List.mem_cons_of_mem _ hx))) (argsL := [(.ref r1), (.int (0 : Int32)), (.int (0 : Int32)), .null]) (rest := []) rfl rfl (OwnW.lenA pd___CIILjava_lang_Void__V rfl) (W := 0) (Nat.le_of_eq rfl) (by decide) (by decide) (by decide) (by decide) rfl ?_
  intro T1 h1 g1 hle1 X1 qq1
  exact OwnW.vreturn X1 rfl d1_9 qq1 (by decide) (by decide)
theorem pn_java_lang_StringUTF16 : plainName "java/lang/StringUTF16" = true := by first | (simp [plainName, overriddenIn]; done) | decide +kernel
theorem d16_0 : decode jdk_52_method_21_code 0 = .ok (.iconst 0, 1) := by decide +kernel
theorem d16_1 : decode jdk_52_method_21_code 1 = .ok (.istore 5, 2) := by decide +kernel
theorem d16_3 : decode jdk_52_method_21_code 3 = .ok (.iload 5, 2) := by decide +kernel
theorem d16_5 : decode jdk_52_method_21_code 5 = .ok (.iload 4, 2) := by decide +kernel
theorem d16_7 : decode jdk_52_method_21_code 7 = .ok (.if_icmp .ge 37, 3) := by decide +kernel
theorem d16_10 : decode jdk_52_method_21_code 10 = .ok (.aload_n 0, 1) := by decide +kernel
theorem d16_11 : decode jdk_52_method_21_code 11 = .ok (.iload_n 1, 1) := by decide +kernel
theorem d16_12 : decode jdk_52_method_21_code 12 = .ok (.caload, 1) := by decide +kernel
theorem d16_13 : decode jdk_52_method_21_code 13 = .ok (.istore 6, 2) := by decide +kernel
theorem d16_15 : decode jdk_52_method_21_code 15 = .ok (.iload 6, 2) := by decide +kernel
theorem d16_17 : decode jdk_52_method_21_code 17 = .ok (.sipush 255, 3) := by decide +kernel
theorem d16_20 : decode jdk_52_method_21_code 20 = .ok (.if_icmp .le 6, 3) := by decide +kernel
theorem d16_26 : decode jdk_52_method_21_code 26 = .ok (.aload_n 2, 1) := by decide +kernel
theorem d16_27 : decode jdk_52_method_21_code 27 = .ok (.iload_n 3, 1) := by decide +kernel
theorem d16_28 : decode jdk_52_method_21_code 28 = .ok (.iload 6, 2) := by decide +kernel
theorem d16_30 : decode jdk_52_method_21_code 30 = .ok (.i2b, 1) := by decide +kernel
theorem d16_31 : decode jdk_52_method_21_code 31 = .ok (.bastore, 1) := by decide +kernel
theorem d16_32 : decode jdk_52_method_21_code 32 = .ok (.iinc 1 1, 3) := by decide +kernel
theorem d16_35 : decode jdk_52_method_21_code 35 = .ok (.iinc 3 1, 3) := by decide +kernel
theorem d16_38 : decode jdk_52_method_21_code 38 = .ok (.iinc 5 1, 3) := by decide +kernel
theorem d16_41 : decode jdk_52_method_21_code 41 = .ok (.goto (-38), 3) := by decide +kernel
theorem d16_44 : decode jdk_52_method_21_code 44 = .ok (.iload 4, 2) := by decide +kernel
theorem d16_46 : decode jdk_52_method_21_code 46 = .ok (.ireturn, 1) := by decide +kernel
theorem ef_rm16 (m : MethodId) (x0 : Addr) (x2 : Addr) (x4 : Int32) : entryFrame m #[(.ref x0), (.int (0 : Int32)), (.ref x2), (.int (0 : Int32)), (.int x4)] 7 = mkF m 0 #[.val (.ref x0), .val (.int (0 : Int32)), .val (.ref x2), .val (.int (0 : Int32)), .val (.int x4), .unset, .unset] [] := by first | (simp [entryFrame, mkF, argsToLocals, Value.category]; done) | rfl
set_option maxRecDepth 65536 in
set_option maxHeartbeats 40000000 in
theorem rm16 (l : Launch) (Z : State) (a0 : Array Value) (hw : ∀ d ∈ tables_1, d.before a0 Z = true) (hE : EW Z a0 own_EL) (ws : List Jvm.Cond) (r0 : Addr) (r2 : Addr) (h0 : Heap) (n0 : Nat) (O0 : Old Z n0 h0) (cs : List Int32) (hp : ∀ c ∈ cs, ¬ 255 < c) (A0 : Ark Z h0 r0 .char (cs.map Value.int)) (A2 : Ark Z h0 r2 .byte (List.replicate cs.length (.int 0))) (ge_r2 : n0 ≤ r2) (ne02 : r0 ≠ r2) :
    Ctr False l Z own_EL (⟨"java/lang/StringUTF16", "compress", "([CI[BII)I"⟩ : MethodName) jdk_52_method_21_code 7 (some .int) ws ({ frames := 0, cells := 0, slots := 0, locals := 0 } : Room) n0 (r2 :: []) #[(.ref r0), (.int (0 : Int32)), (.ref r2), (.int (0 : Int32)), (.int (Int32.ofNat cs.length))] h0 (Rt (fun w h g => w = .int (Int32.ofNat cs.length) ∧ Keep h0 h [r2] ∧ Ark Z h r2 .byte ((cs.map lo8).map Value.int))) := by
  refine Ctr.of (plainFor_of_name pn_java_lang_StringUTF16) hE (fun m => ef_rm16 m r0 r2 (Int32.ofNat cs.length)) ?_
  intro p e s m below meth c T0 X0
  have Z0 : Keep h0 h0 [r2] := Keep.refl _ _
  refine OwnW.iconst X0 (z := (0 : Int32)) (n := 1) d16_0 rfl rfl ?_
  refine OwnW.istore X0 (l' := #[.val (.ref r0), .val (.int (0 : Int32)), .val (.ref r2), .val (.int (0 : Int32)), .val (.int (Int32.ofNat cs.length)), .val (.int (0 : Int32)), .unset]) (n := 3) d16_1 rfl rfl ?_
  have hl : cs.length < 2147483648 := by simpa using A0.len
  refine OwnW.loopT X0 (fun (v : Nat × Slot) h' => v.1 ≤ cs.length ∧ One v.2 ∧ Keep h0 h' [r2] ∧ Ark Z h' r2 .byte (own_dst cs v.1)) (fun v => cs.length - v.1) (fun v => mkF m 3 #[.val (.ref r0), .val (.int (Int32.ofNat v.1)), .val (.ref r2), .val (.int (Int32.ofNat v.1)), .val (.int (Int32.ofNat cs.length)), .val (.int (Int32.ofNat v.1)), v.2] []) ?_ _ _ (0, .unset) X0 ⟨Nat.zero_le _, One.u, Keep.refl _ _, by rw [own_dst0]; exact A2⟩
  intro T1 h1 ⟨i, sl⟩ X1 ⟨hi, hsl, K1, A1⟩ IH
  dsimp only at hi hsl K1 A1 IH ⊢
  have hii : i < 2147483648 := by omega
  refine OwnW.iload X1 (n := 5) d16_3 rfl rfl ?_
  refine OwnW.iload X1 (n := 7) d16_5 rfl rfl ?_
  refine OwnW.ic_ge X1  (n1 := 44) (n2 := 10) d16_7 (by decide) rfl rfl (fun hc7 => ?_) (fun hc7 => ?_)
  · have hin : i = cs.length := by have := mt (own_lt hii hl).mpr hc7; omega
    subst hin
    refine OwnW.iload X1 (n := 46) d16_44 rfl rfl ?_
    exact OwnW.ireturn X1 rfl (Or.inl rfl) rfl d16_46 ⟨rfl, K1, by rw [← own_dstN]; exact A1⟩ (by decide) (by decide)
  · refine OwnW.aloadN X1 (n := 11) d16_10 rfl rfl rfl ?_
    refine OwnW.iloadN X1 (n := 12) d16_11 rfl rfl ?_
    have hlt : i < cs.length := (own_lt hii hl).mp hc7
    obtain ⟨cc, ecc⟩ : ∃ z, z = cs.getD i 0 := ⟨_, rfl⟩
    have hcc := own_get cs hlt
    rw [← ecc] at hcc
    have hp1 := hp _ (own_mem cs hlt)
    rw [← ecc] at hp1
    refine OwnW.caload X1 (i := i) (v := (.int cc)) (n := 13) d16_12 (A0.keep K1 (OwnW.nin1 ne02)) (own_nat hii) hcc rfl ?_
    refine OwnW.istore X1 (l' := #[.val (.ref r0), .val (.int (Int32.ofNat i)), .val (.ref r2), .val (.int (Int32.ofNat i)), .val (.int (Int32.ofNat cs.length)), .val (.int (Int32.ofNat i)), .val (.int cc)]) (n := 15) d16_13 (by rw [XS.store1 rfl hsl rfl]; rfl) rfl ?_
    refine OwnW.iload X1 (n := 17) d16_15 rfl rfl ?_
    refine OwnW.sipush X1 (z := (255 : Int32)) (n := 20) d16_17 rfl rfl ?_
    refine OwnW.ic_le X1  (n1 := 26) (n2 := 23) d16_20 (by decide) rfl rfl (fun _ => ?_) (fun q => absurd q (hp1 : ¬ (255 : Int32) < cc))
    refine OwnW.aloadN X1 (n := 27) d16_26 rfl rfl rfl ?_
    refine OwnW.iloadN X1 (n := 28) d16_27 rfl rfl ?_
    refine OwnW.iload X1 (n := 30) d16_28 rfl rfl ?_
    refine OwnW.i2b X1 (n := 31) d16_30 rfl ?_
    refine OwnW.bastore X1 (i := i) (z := lo8 cc) (n := 32) d16_31 A1 (own_nat hii) (by rw [own_dst_len cs hi]; exact hlt) (own_narB cc) ge_r2 (List.mem_cons_self ..) rfl ?_
    intro T2 h2 X2 W2 A2'
    rw [ecc, own_dst_set cs hlt] at A2'
    refine OwnW.iinc X2 (z := (1 : Int32)) (u := (Int32.ofNat (i + 1))) (l' := #[.val (.ref r0), .val (.int (Int32.ofNat (i + 1))), .val (.ref r2), .val (.int (Int32.ofNat i)), .val (.int (Int32.ofNat cs.length)), .val (.int (Int32.ofNat i)), .val (.int cc)]) (n := 35) d16_32 rfl rfl (own_up i) rfl rfl ?_
    refine OwnW.iinc X2 (z := (1 : Int32)) (u := (Int32.ofNat (i + 1))) (l' := #[.val (.ref r0), .val (.int (Int32.ofNat (i + 1))), .val (.ref r2), .val (.int (Int32.ofNat (i + 1))), .val (.int (Int32.ofNat cs.length)), .val (.int (Int32.ofNat i)), .val (.int cc)]) (n := 38) d16_35 rfl rfl (own_up i) rfl rfl ?_
    refine OwnW.iinc X2 (z := (1 : Int32)) (u := (Int32.ofNat (i + 1))) (l' := #[.val (.ref r0), .val (.int (Int32.ofNat (i + 1))), .val (.ref r2), .val (.int (Int32.ofNat (i + 1))), .val (.int (Int32.ofNat cs.length)), .val (.int (Int32.ofNat (i + 1))), .val (.int cc)]) (n := 41) d16_38 rfl rfl (own_up i) rfl rfl ?_
    refine OwnW.goto X2 (n := 3) d16_41 (by decide) rfl ?_
    exact IH _ _ (i + 1, .val (.int cc)) (by dsimp only; omega) X2 ⟨hlt, One.val rfl, K1.wr W2 (Or.inl (List.mem_cons_self ..)), A2'⟩
theorem pd___CI_BII_I : parseMethodDescriptor "([CI[BII)I" = some ⟨[(.array .char), .int, (.array .byte), .int, .int], some .int⟩ := by decide +kernel
theorem d15_0 : decode jdk_52_method_16_code 0 = .ok (.iload_n 2, 1) := by decide +kernel
theorem d15_1 : decode jdk_52_method_16_code 1 = .ok (.newarray .byte, 2) := by decide +kernel
theorem d15_3 : decode jdk_52_method_16_code 3 = .ok (.astore_n 3, 1) := by decide +kernel
theorem d15_4 : decode jdk_52_method_16_code 4 = .ok (.aload_n 0, 1) := by decide +kernel
theorem d15_5 : decode jdk_52_method_16_code 5 = .ok (.iload_n 1, 1) := by decide +kernel
theorem d15_6 : decode jdk_52_method_16_code 6 = .ok (.aload_n 3, 1) := by decide +kernel
theorem d15_7 : decode jdk_52_method_16_code 7 = .ok (.iconst 0, 1) := by decide +kernel
theorem d15_8 : decode jdk_52_method_16_code 8 = .ok (.iload_n 2, 1) := by decide +kernel
theorem d15_9 : decode jdk_52_method_16_code 9 = .ok (.invokestatic 115, 3) := by decide +kernel
theorem d15_12 : decode jdk_52_method_16_code 12 = .ok (.istore 4, 2) := by decide +kernel
theorem d15_14 : decode jdk_52_method_16_code 14 = .ok (.iload 4, 2) := by decide +kernel
theorem d15_16 : decode jdk_52_method_16_code 16 = .ok (.iload_n 2, 1) := by decide +kernel
theorem d15_17 : decode jdk_52_method_16_code 17 = .ok (.if_icmp .eq 40, 3) := by decide +kernel
theorem d15_57 : decode jdk_52_method_16_code 57 = .ok (.aload_n 3, 1) := by decide +kernel
theorem d15_58 : decode jdk_52_method_16_code 58 = .ok (.areturn, 1) := by decide +kernel
theorem ef_rm15 (m : MethodId) (x0 : Addr) (x2 : Int32) : entryFrame m #[(.ref x0), (.int (0 : Int32)), (.int x2)] 6 = mkF m 0 #[.val (.ref x0), .val (.int (0 : Int32)), .val (.int x2), .unset, .unset, .unset] [] := by first | (simp [entryFrame, mkF, argsToLocals, Value.category]; done) | rfl
set_option maxRecDepth 65536 in
set_option maxHeartbeats 40000000 in
theorem rm15 (l : Launch) (Z : State) (a0 : Array Value) (hw : ∀ d ∈ tables_1, d.before a0 Z = true) (hE : EW Z a0 own_EL) (ws : List Jvm.Cond) (r0 : Addr) (h0 : Heap) (n0 : Nat) (O0 : Old Z n0 h0) (cs : List Int32) (hp : ∀ c ∈ cs, ¬ 255 < c) (hcap : cs.length ≤ 2) (A0 : Ark Z h0 r0 .char (cs.map Value.int)) :
    Ctr False l Z own_EL (⟨"java/lang/StringUTF16", "compress", "([CII)[B"⟩ : MethodName) jdk_52_method_16_code 6 (some (.array .byte)) ws ({ frames := 1, cells := 1, slots := 2, locals := 18 } : Room) n0 ([]) #[(.ref r0), (.int (0 : Int32)), (.int (Int32.ofNat cs.length))] h0 (Rt (fun w h g => ∃ t, w = .ref t ∧ Keep h0 h [] ∧ h0.size ≤ t ∧ Ark Z h t .byte ((cs.map lo8).map Value.int) ∧ t ∈ g)) := by
  refine Ctr.of (plainFor_of_name pn_java_lang_StringUTF16) hE (fun m => ef_rm15 m r0 (Int32.ofNat cs.length)) ?_
  intro p e s m below meth c T0 X0
  have Z0 : Keep h0 h0 [] := Keep.refl _ _
  refine OwnW.iloadN X0 (n := 1) d15_0 rfl rfl ?_
  refine OwnW.newarray X0 (len := cs.length) (cap := 2) (n := 3) d15_1 (hw _ (List.mem_of_getElem? (i := 15) rfl)) (own_nat (by omega)) hcap (by decide) (by decide) (by decide) rfl ?_
  intro T1 h1 b1 gb1 X1 E1 A1
  have ne_r0_b1 : r0 ≠ b1 := by rw [gb1]; exact Nat.ne_of_lt A0.lt
  have ge_b1 : n0 ≤ b1 := by rw [gb1]; exact OwnW.oldLe O0
  have K1 := (OwnW.kExt E1)
  have O1 := O0.keep K1 all0
  have Z1 : Keep h0 h1 [] := Z0.trans K1 (fun x hx => nomatch hx)
  have sz_b1 : h0.size ≤ b1 := by rw [gb1]; exact Z0.1
  refine OwnW.astoreN X1 (l' := #[.val (.ref r0), .val (.int (0 : Int32)), .val (.int (Int32.ofNat cs.length)), .val (.ref b1), .unset, .unset]) (n := 4) d15_3 rfl rfl rfl ?_
  refine OwnW.aloadN X1 (n := 5) d15_4 rfl rfl rfl ?_
  refine OwnW.iloadN X1 (n := 6) d15_5 rfl rfl ?_
  refine OwnW.aloadN X1 (n := 7) d15_6 rfl rfl rfl ?_
  refine OwnW.iconst X1 (z := (0 : Int32)) (n := 8) d15_7 rfl rfl ?_
  refine OwnW.iloadN X1 (n := 9) d15_8 rfl rfl ?_
  have f2 := (A0.keep K1 nin0)
  refine OwnW.call_static_v X1 (z := (⟨"java/lang/StringUTF16", "compress", "([CI[BII)I"⟩ : MethodName)) (n := 12) d15_9 (hw _ (List.mem_of_getElem? (i := 100) rfl)) (hw _ (List.mem_of_getElem? (i := 101) rfl)) (hw _ (List.mem_of_getElem? (i := 102) rfl)) (hw _ (List.mem_of_getElem? (i := 98) rfl)) (by decide) (rm16 l Z a0 hw hE [] r0 b1 h1 n0 O1 cs hp f2 A1 ge_b1 ne_r0_b1) (OwnW.sfS (List.mem_cons_self ..) OwnW.sf0) (argsL := [(.ref r0), (.int (0 : Int32)), (.ref b1), (.int (0 : Int32)), (.int (Int32.ofNat cs.length))]) (rest := []) rfl rfl (OwnW.lenA pd___CI_BII_I rfl) (W := 0) (Nat.le_of_eq rfl) (by decide) (by decide) (by decide) (by decide) rfl ?_
  intro T3 h3 w3 g3 hle3 X3 ⟨q1, k3, a3⟩
  subst q1
  have K3 := k3
  have O3 := O1.keep K3 (allS ge_b1 all0)
  have Z3 : Keep h0 h3 [] := Z1.trans K3 (allS (P := fun x => x ∈ [] ∨ h0.size ≤ x) (Or.inr sz_b1) all0)
  refine OwnW.istore X3 (l' := #[.val (.ref r0), .val (.int (0 : Int32)), .val (.int (Int32.ofNat cs.length)), .val (.ref b1), .val (.int (Int32.ofNat cs.length)), .unset]) (n := 14) d15_12 rfl rfl ?_
  refine OwnW.iload X3 (n := 16) d15_14 rfl rfl ?_
  refine OwnW.iloadN X3 (n := 17) d15_16 rfl rfl ?_
  refine OwnW.ic_eq X3  (n1 := 57) (n2 := 20) d15_17 (by decide) rfl rfl (fun _ => ?_) (fun q => absurd (rfl : (Int32.ofNat cs.length) = (Int32.ofNat cs.length)) q)
  refine OwnW.aloadN X3 (n := 58) d15_57 rfl rfl rfl ?_
  exact OwnW.areturn X3 rfl rfl rfl d15_58 ⟨_, rfl, Z3, sz_b1, a3, (List.mem_append_left _ (List.mem_cons_self ..))⟩ (by decide) (by decide)
theorem d17_0 : decode jdk_52_method_15_code 0 = .ok (.iload_n 1, 1) := by decide +kernel
theorem d17_1 : decode jdk_52_method_15_code 1 = .ok (.aload_n 0, 1) := by decide +kernel
theorem d17_2 : decode jdk_52_method_15_code 2 = .ok (.arraylength, 1) := by decide +kernel
theorem d17_3 : decode jdk_52_method_15_code 3 = .ok (.isub, 1) := by decide +kernel
theorem d17_4 : decode jdk_52_method_15_code 4 = .ok (.bipush 31, 2) := by decide +kernel
theorem d17_6 : decode jdk_52_method_15_code 6 = .ok (.iushr, 1) := by decide +kernel
theorem d17_7 : decode jdk_52_method_15_code 7 = .ok (.i2b, 1) := by decide +kernel
theorem d17_8 : decode jdk_52_method_15_code 8 = .ok (.ireturn, 1) := by decide +kernel
theorem ef_rm17 (m : MethodId) (x0 : Addr) (x1 : Int32) : entryFrame m #[(.ref x0), (.int x1)] 2 = mkF m 0 #[.val (.ref x0), .val (.int x1)] [] := by first | (simp [entryFrame, mkF, argsToLocals, Value.category]; done) | rfl
set_option maxRecDepth 65536 in
set_option maxHeartbeats 40000000 in
theorem rm17 (l : Launch) (Z : State) (a0 : Array Value) (hw : ∀ d ∈ tables_1, d.before a0 Z = true) (hE : EW Z a0 own_EL) (ws : List Jvm.Cond) (r0 : Addr) (h0 : Heap) (n0 : Nat) (cs : List Int32) (A0 : Ark Z h0 r0 .byte ((cs.map lo8).map Value.int)) :
    Ctr False l Z own_EL (⟨"java/lang/StringUTF16", "coderFromArrayLen", "([BI)B"⟩ : MethodName) jdk_52_method_15_code 2 (some .byte) ws ({ frames := 0, cells := 0, slots := 0, locals := 0 } : Room) n0 ([]) #[(.ref r0), (.int (Int32.ofNat cs.length))] h0 (Rt (fun w h g => w = .int 0 ∧ h0 = h)) := by
  refine Ctr.of (plainFor_of_name pn_java_lang_StringUTF16) hE (fun m => ef_rm17 m r0 (Int32.ofNat cs.length)) ?_
  intro p e s m below meth c T0 X0
  refine OwnW.iloadN X0 (n := 1) d17_0 rfl rfl ?_
  refine OwnW.aloadN X0 (n := 2) d17_1 rfl rfl rfl ?_
  refine OwnW.arraylength X0 (z := Int32.ofNat cs.length) (n := 3) d17_2 A0 (by simp) rfl ?_
  refine OwnW.isub X0 (n := 4) d17_3 rfl ?_
  refine OwnW.bipush X0 (z := (31 : Int32)) (n := 6) d17_4 rfl rfl ?_
  refine OwnW.iushr X0 (n := 7) d17_6 rfl ?_
  refine OwnW.i2b X0 (n := 8) d17_7 rfl ?_
  rw [own_c0]
  exact OwnW.ireturn X0 rfl (Or.inr (Or.inr (Or.inl rfl))) rfl d17_8 ⟨rfl, rfl⟩ (by decide) (by decide)
theorem pd___CII__B : parseMethodDescriptor "([CII)[B" = some ⟨[(.array .char), .int, .int], some (.array .byte)⟩ := by decide +kernel
theorem pd___BI_B : parseMethodDescriptor "([BI)B" = some ⟨[(.array .byte), .int], some .byte⟩ := by decide +kernel
theorem d2_27 : decode jdk_42_method_149_code 27 = .ok (.getstatic 38, 3) := by decide +kernel
theorem d2_30 : decode jdk_42_method_149_code 30 = .ok (.ifCond .eq 28, 3) := by decide +kernel
theorem d2_33 : decode jdk_42_method_149_code 33 = .ok (.aload_n 1, 1) := by decide +kernel
theorem d2_34 : decode jdk_42_method_149_code 34 = .ok (.iload_n 2, 1) := by decide +kernel
theorem d2_35 : decode jdk_42_method_149_code 35 = .ok (.iload_n 3, 1) := by decide +kernel
theorem d2_36 : decode jdk_42_method_149_code 36 = .ok (.invokestatic 177, 3) := by decide +kernel
theorem d2_39 : decode jdk_42_method_149_code 39 = .ok (.astore 5, 2) := by decide +kernel
theorem d2_41 : decode jdk_42_method_149_code 41 = .ok (.aload_n 0, 1) := by decide +kernel
theorem d2_42 : decode jdk_42_method_149_code 42 = .ok (.aload 5, 2) := by decide +kernel
theorem d2_44 : decode jdk_42_method_149_code 44 = .ok (.iload_n 3, 1) := by decide +kernel
theorem d2_45 : decode jdk_42_method_149_code 45 = .ok (.invokestatic 47, 3) := by decide +kernel
theorem d2_48 : decode jdk_42_method_149_code 48 = .ok (.putfield 15, 3) := by decide +kernel
theorem d2_51 : decode jdk_42_method_149_code 51 = .ok (.aload_n 0, 1) := by decide +kernel
theorem d2_52 : decode jdk_42_method_149_code 52 = .ok (.aload 5, 2) := by decide +kernel
theorem d2_54 : decode jdk_42_method_149_code 54 = .ok (.putfield 9, 3) := by decide +kernel
theorem d2_57 : decode jdk_42_method_149_code 57 = .ok (.return_, 1) := by decide +kernel
theorem ef_rm2 (m : MethodId) (x0 : Addr) (x1 : Addr) (x3 : Int32) : entryFrame m #[(.ref x0), (.ref x1), (.int (0 : Int32)), (.int x3), .null] 6 = mkF m 0 #[.val (.ref x0), .val (.ref x1), .val (.int (0 : Int32)), .val (.int x3), .val .null, .unset] [] := by first | (simp [entryFrame, mkF, argsToLocals, Value.category]; done) | rfl
set_option maxRecDepth 65536 in
set_option maxHeartbeats 40000000 in
theorem rm2 (l : Launch) (Z : State) (a0 : Array Value) (hw : ∀ d ∈ tables_1, d.before a0 Z = true) (hE : EW Z a0 own_EL) (ws : List Jvm.Cond) (r0 : Addr) (r1 : Addr) (h0 : Heap) (n0 : Nat) (O0 : Old Z n0 h0) (ge_r0 : n0 ≤ r0) (E0 : Exa Z h0 r0 "java/lang/String") (v1 v2 : Value) (F1 : Fld Z h0 r0 "java/lang/String" "value" "[B" v1) (F2 : Fld Z h0 r0 "java/lang/String" "coder" "B" v2) (cs : List Int32) (hp : ∀ c ∈ cs, ¬ 255 < c) (hpos : 0 < cs.length) (hcap : cs.length ≤ 2) (A1 : Ark Z h0 r1 .char (cs.map Value.int)) (ne01 : r0 ≠ r1) (zc : Int32) (hzc : ¬ zc = 0) (S_compact : Sta Z Z.heap "java/lang/String" "COMPACT_STRINGS" "Z" (.int zc)) :
    Ctr False l Z own_EL (⟨"java/lang/String", "<init>", "([CIILjava/lang/Void;)V"⟩ : MethodName) jdk_42_method_149_code 6 none ws ({ frames := 2, cells := 1, slots := 2, locals := 35 } : Room) n0 (r0 :: []) #[(.ref r0), (.ref r1), (.int (0 : Int32)), (.int (Int32.ofNat cs.length)), .null] h0 (Rn (fun h g => Keep h0 h [r0] ∧ ∃ t, h0.size ≤ t ∧ StrL Z h r0 t cs)) := by
  refine Ctr.of (plainFor_of_name pn_java_lang_String) hE (fun m => ef_rm2 m r0 r1 (Int32.ofNat cs.length)) ?_
  intro p e s m below meth c T0 X0
  have Z0 : Keep h0 h0 [r0] := Keep.refl _ _
  refine OwnW.aloadN X0 (n := 1) d2_0 rfl rfl rfl ?_
  refine OwnW.initObj X0 (W := 0) (n := 4) d2_1 (hw _ (List.mem_of_getElem? (i := 11) rfl)) (hw _ (List.mem_of_getElem? (i := 12) rfl)) (hw _ (List.mem_of_getElem? (i := 13) rfl)) rfl (by decide) (by decide) (by decide) rfl ?_
  intro T1 X1
  refine OwnW.iloadN X1 (n := 5) d2_4 rfl rfl ?_
  refine OwnW.if_ne X1  (n1 := 27) (n2 := 8) d2_5 (by decide) rfl rfl (fun _ => ?_) (fun q => absurd q ((fun q => by have z := (own_eqn (i := cs.length) (n := 0) (by omega) (by decide)).mp q; omega) : ¬ (Int32.ofNat cs.length) = 0))
  refine OwnW.getstatic X1 (n := 30) d2_27 (hw _ (List.mem_of_getElem? (i := 25) rfl)) Via.refl (S_compact.ext O0.2) rfl ?_
  intro T2 X2
  refine OwnW.if_eq X2  (n1 := 58) (n2 := 33) d2_30 (by decide) rfl rfl (fun q => absurd q (hzc : ¬ zc = 0)) (fun _ => ?_)
  refine OwnW.aloadN X2 (n := 34) d2_33 rfl rfl rfl ?_
  refine OwnW.iloadN X2 (n := 35) d2_34 rfl rfl ?_
  refine OwnW.iloadN X2 (n := 36) d2_35 rfl rfl ?_
  refine OwnW.call_static_v X2 (z := (⟨"java/lang/StringUTF16", "compress", "([CII)[B"⟩ : MethodName)) (n := 39) d2_36 (hw _ (List.mem_of_getElem? (i := 96) rfl)) (hw _ (List.mem_of_getElem? (i := 97) rfl)) (hw _ (List.mem_of_getElem? (i := 99) rfl)) (hw _ (List.mem_of_getElem? (i := 98) rfl)) (by decide) (rm15 l Z a0 hw hE [] r1 h0 n0 O0 cs hp hcap A1) OwnW.sf0 (argsL := [(.ref r1), (.int (0 : Int32)), (.int (Int32.ofNat cs.length))]) (rest := []) rfl rfl (OwnW.lenA pd___CII__B rfl) (W := 0) (Nat.le_of_eq rfl) (by decide) (by decide) (by decide) (by decide) rfl ?_
  intro T3 h3 w3 g3 hle3 X3 ⟨t3, q1, k3, z3, a3, m3⟩
  subst q1
  have ne_r0_t3 : r0 ≠ t3 := Nat.ne_of_lt (Nat.lt_of_lt_of_le E0.lt z3)
  have ne_r1_t3 : r1 ≠ t3 := Nat.ne_of_lt (Nat.lt_of_lt_of_le A1.lt z3)
  have K3 := k3
  have O3 := O0.keep K3 all0
  have Z3 : Keep h0 h3 [r0] := Z0.trans K3 (fun x hx => nomatch hx)
  have szt : h0.size ≤ t3 := Nat.le_trans Z0.1 z3
  refine OwnW.astore X3 (l' := #[.val (.ref r0), .val (.ref r1), .val (.int (0 : Int32)), .val (.int (Int32.ofNat cs.length)), .val .null, .val (.ref t3)]) (n := 41) d2_39 rfl rfl rfl ?_
  refine OwnW.aloadN X3 (n := 42) d2_41 rfl rfl rfl ?_
  refine OwnW.aload X3 (n := 44) d2_42 rfl rfl rfl ?_
  refine OwnW.iloadN X3 (n := 45) d2_44 rfl rfl ?_
  refine OwnW.call_static_v X3 (z := (⟨"java/lang/StringUTF16", "coderFromArrayLen", "([BI)B"⟩ : MethodName)) (n := 48) d2_45 (hw _ (List.mem_of_getElem? (i := 103) rfl)) (hw _ (List.mem_of_getElem? (i := 104) rfl)) (hw _ (List.mem_of_getElem? (i := 105) rfl)) (hw _ (List.mem_of_getElem? (i := 98) rfl)) (by decide) (rm17 l Z a0 hw hE [] t3 h3 n0 cs a3) OwnW.sf0 (argsL := [(.ref t3), (.int (Int32.ofNat cs.length))]) (rest := [(.ref r0)]) rfl rfl (OwnW.lenA pd___BI_B rfl) (W := 1) (Nat.le_of_eq rfl) (by decide) (by decide) (by decide) (by decide) rfl ?_
  intro T4 h4 w4 g4 hle4 X4 ⟨q1, q2⟩
  subst q1 q2
  have f5 := (F2.keep K3 nin0)
  have f6 := (E0.keep K3)
  refine OwnW.putfield X4 (ty := .byte) (v' := (.int (0 : Int32))) (n := 51) d2_48 (hw _ (List.mem_of_getElem? (i := 21) rfl)) Via.refl f5 f6 (Or.inr ⟨(hw _ (List.mem_of_getElem? (i := 17) rfl)), rfl, rfl⟩) (hw _ (List.mem_of_getElem? (i := 2) rfl)) (by decide) rfl rfl ge_r0 (List.mem_append_left _ (List.mem_append_left _ (List.mem_cons_self ..))) rfl ?_
  intro T7 h7 X7 W7 Fw7
  have f8 := (F1.keep K3 nin0)
  have f9 := f8.other W7 (Or.inr (slot_ne (Or.inr (hw _ (List.mem_of_getElem? (i := 16) rfl))) (Or.inr (hw _ (List.mem_of_getElem? (i := 17) rfl))) (by decide) (t := (.array .byte)) (t' := .byte) (by decide) (by decide)))
  have K7 := (Keep.of_wr W7)
  have O7 := O3.keep K7 (allS ge_r0 all0)
  have Z7 : Keep h0 h7 [r0] := Z3.trans K7 (allS (P := fun x => x ∈ [r0] ∨ h0.size ≤ x) (Or.inl (List.mem_of_getElem? (i := 0) rfl)) all0)
  refine OwnW.aloadN X7 (n := 52) d2_51 rfl rfl rfl ?_
  refine OwnW.aload X7 (n := 54) d2_52 rfl rfl rfl ?_
  have f10 := (f6.keep K7)
  refine OwnW.putfield X7 (ty := (.array .byte)) (v' := (.ref t3)) (n := 57) d2_54 (hw _ (List.mem_of_getElem? (i := 20) rfl)) Via.refl f9 f10 (Or.inr ⟨(hw _ (List.mem_of_getElem? (i := 16) rfl)), rfl, rfl⟩) (hw _ (List.mem_of_getElem? (i := 2) rfl)) (by decide) rfl rfl ge_r0 (List.mem_append_left _ (List.mem_append_left _ (List.mem_cons_self ..))) rfl ?_
  intro T11 h11 X11 W11 Fw11
  have f12 := Fw7.other W11 (Or.inr (slot_ne (Or.inr (hw _ (List.mem_of_getElem? (i := 17) rfl))) (Or.inr (hw _ (List.mem_of_getElem? (i := 16) rfl))) (by decide) (t := .byte) (t' := (.array .byte)) (by decide) (by decide)))
  have K11 := (Keep.of_wr W11)
  have O11 := O7.keep K11 (allS ge_r0 all0)
  have Z11 : Keep h0 h11 [r0] := Z7.trans K11 (allS (P := fun x => x ∈ [r0] ∨ h0.size ≤ x) (Or.inl (List.mem_of_getElem? (i := 0) rfl)) all0)
  have f13 := (f10.keep K11)
  have f14 := ((a3.keep K7 (ninS (Ne.symm ne_r0_t3) nin0)).keep K11 (ninS (Ne.symm ne_r0_t3) nin0))
  exact OwnW.vreturn X11 rfl d2_57 ⟨Z11, _, szt, f13, f12, Fw11, f14⟩ (by decide) (by decide)
theorem ef_rm1 (m : MethodId) (x0 : Addr) (x1 : Addr) : entryFrame m #[(.ref x0), (.ref x1)] 2 = mkF m 0 #[.val (.ref x0), .val (.ref x1)] [] := by first | (simp [entryFrame, mkF, argsToLocals, Value.category]; done) | rfl
set_option maxRecDepth 65536 in
set_option maxHeartbeats 40000000 in
theorem rm1 (l : Launch) (Z : State) (a0 : Array Value) (hw : ∀ d ∈ tables_1, d.before a0 Z = true) (hE : EW Z a0 own_EL) (ws : List Jvm.Cond) (r0 : Addr) (r1 : Addr) (h0 : Heap) (n0 : Nat) (O0 : Old Z n0 h0) (ge_r0 : n0 ≤ r0) (E0 : Exa Z h0 r0 "java/lang/String") (v1 v2 : Value) (F1 : Fld Z h0 r0 "java/lang/String" "value" "[B" v1) (F2 : Fld Z h0 r0 "java/lang/String" "coder" "B" v2) (cs : List Int32) (hp : ∀ c ∈ cs, ¬ 255 < c) (hpos : 0 < cs.length) (hcap : cs.length ≤ 2) (A1 : Ark Z h0 r1 .char (cs.map Value.int)) (ne01 : r0 ≠ r1) (zc : Int32) (hzc : ¬ zc = 0) (S_compact : Sta Z Z.heap "java/lang/String" "COMPACT_STRINGS" "Z" (.int zc)) :
    Ctr False l Z own_EL (⟨"java/lang/String", "<init>", "([C)V"⟩ : MethodName) jdk_42_method_3_code 2 none ws ({ frames := 3, cells := 1, slots := 2, locals := 52 } : Room) n0 (r0 :: []) #[(.ref r0), (.ref r1)] h0 (Rn (fun h g => Keep h0 h [r0] ∧ ∃ t, h0.size ≤ t ∧ StrL Z h r0 t cs)) := by
  refine Ctr.of (plainFor_of_name pn_java_lang_String) hE (fun m => ef_rm1 m r0 r1) ?_
  intro p e s m below meth c T0 X0
  have Z0 : Keep h0 h0 [r0] := Keep.refl _ _
  refine OwnW.aloadN X0 (n := 1) d1_0 rfl rfl rfl ?_
  refine OwnW.aloadN X0 (n := 2) d1_1 rfl rfl rfl ?_
  refine OwnW.iconst X0 (z := (0 : Int32)) (n := 3) d1_2 rfl rfl ?_
  refine OwnW.aloadN X0 (n := 4) d1_3 rfl rfl rfl ?_
  refine OwnW.arraylength X0 (z := (Int32.ofNat cs.length)) (n := 5) d1_4 A1 (by simp) rfl ?_
  refine OwnW.anull X0 (n := 6) d1_5 rfl ?_
  refine OwnW.call_special_n X0 (z := (⟨"java/lang/String", "<init>", "([CIILjava/lang/Void;)V"⟩ : MethodName)) (a := r0) (n := 9) d1_6 (hw _ (List.mem_of_getElem? (i := 7) rfl)) (hw _ (List.mem_of_getElem? (i := 8) rfl)) (hw _ (List.mem_of_getElem? (i := 10) rfl)) (hw _ (List.mem_of_getElem? (i := 3) rfl)) rfl rfl (by decide) (rm2 l Z a0 hw hE [] r0 r1 h0 n0 O0 ge_r0 E0 v1 v2 F1 F2 cs hp hpos hcap A1 ne01 zc hzc S_compact) (OwnW.sfS (List.mem_cons_self ..) OwnW.sf0) (argsL := [(.ref r1), (.int (0 : Int32)), (.int (Int32.ofNat cs.length)), .null]) (rest := []) rfl rfl (OwnW.lenA pd___CIILjava_lang_Void__V rfl) (W := 0) (Nat.le_of_eq rfl) (by decide) (by decide) (by decide) (by decide) rfl ?_
  intro T1 h1 g1 hle1 X1 qq1
  exact OwnW.vreturn X1 rfl d1_9 qq1 (by decide) (by decide)
theorem pn_java_lang_StringLatin1 : plainName "java/lang/StringLatin1" = true := by first | (simp [plainName, overriddenIn]; done) | decide +kernel
theorem d5_0 : decode jdk_43_method_3_code 0 = .ok (.iload_n 0, 1) := by decide +kernel
theorem d5_1 : decode jdk_43_method_3_code 1 = .ok (.sipush 255, 3) := by decide +kernel
theorem d5_4 : decode jdk_43_method_3_code 4 = .ok (.if_icmp .gt 7, 3) := by decide +kernel
theorem d5_7 : decode jdk_43_method_3_code 7 = .ok (.iconst 1, 1) := by decide +kernel
theorem d5_8 : decode jdk_43_method_3_code 8 = .ok (.goto 4, 3) := by decide +kernel
theorem d5_12 : decode jdk_43_method_3_code 12 = .ok (.ireturn, 1) := by decide +kernel
theorem ef_rm5 (m : MethodId) (x0 : Int32) : entryFrame m #[(.int x0)] 1 = mkF m 0 #[.val (.int x0)] [] := by first | (simp [entryFrame, mkF, argsToLocals, Value.category]; done) | rfl
set_option maxRecDepth 65536 in
set_option maxHeartbeats 40000000 in
theorem rm5 (l : Launch) (Z : State) (a0 : Array Value) (hw : ∀ d ∈ tables_1, d.before a0 Z = true) (hE : EW Z a0 own_EL) (ws : List Jvm.Cond) (p0 : Int32) (h0 : Heap) (n0 : Nat) (hp : ¬ 255 < p0) :
    Ctr False l Z own_EL (⟨"java/lang/StringLatin1", "canEncode", "(C)Z"⟩ : MethodName) jdk_43_method_3_code 1 (some .boolean) ws ({ frames := 0, cells := 0, slots := 0, locals := 0 } : Room) n0 ([]) #[(.int p0)] h0 (Rt (fun w h g => w = .int 1 ∧ h0 = h)) := by
  refine Ctr.of (plainFor_of_name pn_java_lang_StringLatin1) hE (fun m => ef_rm5 m p0) ?_
  intro p e s m below meth c T0 X0
  refine OwnW.iloadN X0 (n := 1) d5_0 rfl rfl ?_
  refine OwnW.sipush X0 (z := (255 : Int32)) (n := 4) d5_1 rfl rfl ?_
  refine OwnW.ic_gt X0  (n1 := 11) (n2 := 7) d5_4 (by decide) rfl rfl (fun q => absurd q (hp : ¬ (255 : Int32) < p0)) (fun _ => ?_)
  refine OwnW.iconst X0 (z := (1 : Int32)) (n := 8) d5_7 rfl rfl ?_
  refine OwnW.goto X0 (n := 12) d5_8 (by decide) rfl ?_
  exact OwnW.ireturn X0 rfl (Or.inr (Or.inl rfl)) rfl d5_12 ⟨rfl, rfl⟩ (by decide) (by decide)
theorem d6_0 : decode jdk_43_method_46_code 0 = .ok (.iconst 1, 1) := by decide +kernel
theorem d6_1 : decode jdk_43_method_46_code 1 = .ok (.newarray .byte, 2) := by decide +kernel
theorem d6_3 : decode jdk_43_method_46_code 3 = .ok (.dup, 1) := by decide +kernel
theorem d6_4 : decode jdk_43_method_46_code 4 = .ok (.iconst 0, 1) := by decide +kernel
theorem d6_5 : decode jdk_43_method_46_code 5 = .ok (.iload_n 0, 1) := by decide +kernel
theorem d6_6 : decode jdk_43_method_46_code 6 = .ok (.i2b, 1) := by decide +kernel
theorem d6_7 : decode jdk_43_method_46_code 7 = .ok (.bastore, 1) := by decide +kernel
theorem d6_8 : decode jdk_43_method_46_code 8 = .ok (.areturn, 1) := by decide +kernel
theorem ef_rm6 (m : MethodId) (x0 : Int32) : entryFrame m #[(.int x0)] 1 = mkF m 0 #[.val (.int x0)] [] := by first | (simp [entryFrame, mkF, argsToLocals, Value.category]; done) | rfl
set_option maxRecDepth 65536 in
set_option maxHeartbeats 40000000 in
theorem rm6 (l : Launch) (Z : State) (a0 : Array Value) (hw : ∀ d ∈ tables_1, d.before a0 Z = true) (hE : EW Z a0 own_EL) (ws : List Jvm.Cond) (p0 : Int32) (h0 : Heap) (n0 : Nat) (O0 : Old Z n0 h0)  :
    Ctr False l Z own_EL (⟨"java/lang/StringLatin1", "toBytes", "(C)[B"⟩ : MethodName) jdk_43_method_46_code 1 (some (.array .byte)) ws ({ frames := 0, cells := 1, slots := 1, locals := 0 } : Room) n0 ([]) #[(.int p0)] h0 (Rt (fun w h g => ∃ t, w = .ref t ∧ Keep h0 h [] ∧ h0.size ≤ t ∧ Ark Z h t .byte (([p0].map lo8).map Value.int) ∧ t ∈ g)) := by
  refine Ctr.of (plainFor_of_name pn_java_lang_StringLatin1) hE (fun m => ef_rm6 m p0) ?_
  intro p e s m below meth c T0 X0
  have Z0 : Keep h0 h0 [] := Keep.refl _ _
  refine OwnW.iconst X0 (z := (1 : Int32)) (n := 1) d6_0 rfl rfl ?_
  refine OwnW.newarray X0 (len := 1) (cap := 1) (n := 3) d6_1 (hw _ (List.mem_of_getElem? (i := 15) rfl)) rfl (by decide) (by decide) (by decide) (by decide) rfl ?_
  intro T1 h1 b1 gb1 X1 E1 A1
  have ge_b1 : n0 ≤ b1 := by rw [gb1]; exact OwnW.oldLe O0
  have K1 := (OwnW.kExt E1)
  have O1 := O0.keep K1 all0
  have Z1 : Keep h0 h1 [] := Z0.trans K1 (fun x hx => nomatch hx)
  have sz_b1 : h0.size ≤ b1 := by rw [gb1]; exact Z0.1
  replace A1 : Ark Z h1 b1 .byte [(.int (0 : Int32))] := A1
  refine OwnW.dup X1 (n := 4) d6_3 rfl rfl ?_
  refine OwnW.iconst X1 (z := (0 : Int32)) (n := 5) d6_4 rfl rfl ?_
  refine OwnW.iloadN X1 (n := 6) d6_5 rfl rfl ?_
  refine OwnW.i2b X1 (n := 7) d6_6 rfl ?_
  refine OwnW.bastore X1 (i := 0) (z := (lo8 p0)) (n := 8) d6_7 A1 rfl (Nat.le_of_ble_eq_true rfl) (own_narB p0) ge_b1 (List.mem_cons_self ..) rfl ?_
  intro T2 h2 X2 W2 A2
  have K2 := (Keep.of_wr W2)
  have O2 := O1.keep K2 (allS ge_b1 all0)
  have Z2 : Keep h0 h2 [] := Z1.trans K2 (allS (P := fun x => x ∈ [] ∨ h0.size ≤ x) (Or.inr sz_b1) all0)
  replace A2 : Ark Z h2 b1 .byte [(.int (lo8 p0))] := A2
  exact OwnW.areturn X2 rfl rfl rfl d6_8 ⟨_, rfl, Z2, sz_b1, A2, (List.mem_cons_self ..)⟩ (by decide) (by decide)
theorem d7_0 : decode jdk_42_method_151_code 0 = .ok (.aload_n 0, 1) := by decide +kernel
theorem d7_1 : decode jdk_42_method_151_code 1 = .ok (.invokespecial 1, 3) := by decide +kernel
theorem d7_4 : decode jdk_42_method_151_code 4 = .ok (.aload_n 0, 1) := by decide +kernel
theorem d7_5 : decode jdk_42_method_151_code 5 = .ok (.aload_n 1, 1) := by decide +kernel
theorem d7_6 : decode jdk_42_method_151_code 6 = .ok (.putfield 9, 3) := by decide +kernel
theorem d7_9 : decode jdk_42_method_151_code 9 = .ok (.aload_n 0, 1) := by decide +kernel
theorem d7_10 : decode jdk_42_method_151_code 10 = .ok (.iload_n 2, 1) := by decide +kernel
theorem d7_11 : decode jdk_42_method_151_code 11 = .ok (.putfield 15, 3) := by decide +kernel
theorem d7_14 : decode jdk_42_method_151_code 14 = .ok (.return_, 1) := by decide +kernel
theorem ef_rm7 (m : MethodId) (x0 : Addr) (x1 : Addr) : entryFrame m #[(.ref x0), (.ref x1), (.int (0 : Int32))] 3 = mkF m 0 #[.val (.ref x0), .val (.ref x1), .val (.int (0 : Int32))] [] := by first | (simp [entryFrame, mkF, argsToLocals, Value.category]; done) | rfl
set_option maxRecDepth 65536 in
set_option maxHeartbeats 40000000 in
theorem rm7 (l : Launch) (Z : State) (a0 : Array Value) (hw : ∀ d ∈ tables_1, d.before a0 Z = true) (hE : EW Z a0 own_EL) (ws : List Jvm.Cond) (r0 : Addr) (r1 : Addr) (h0 : Heap) (n0 : Nat) (O0 : Old Z n0 h0) (ge_r0 : n0 ≤ r0) (E0 : Exa Z h0 r0 "java/lang/String") (v1 v2 : Value) (F1 : Fld Z h0 r0 "java/lang/String" "value" "[B" v1) (F2 : Fld Z h0 r0 "java/lang/String" "coder" "B" v2) :
    Ctr False l Z own_EL (⟨"java/lang/String", "<init>", "([BB)V"⟩ : MethodName) jdk_42_method_151_code 3 none ws ({ frames := 1, cells := 0, slots := 0, locals := 12 } : Room) n0 (r0 :: []) #[(.ref r0), (.ref r1), (.int (0 : Int32))] h0 (Rn (fun h g => Keep h0 h [r0] ∧ Fld Z h r0 "java/lang/String" "coder" "B" (.int 0) ∧ Fld Z h r0 "java/lang/String" "value" "[B" (.ref r1))) := by
  refine Ctr.of (plainFor_of_name pn_java_lang_String) hE (fun m => ef_rm7 m r0 r1) ?_
  intro p e s m below meth c T0 X0
  have Z0 : Keep h0 h0 [r0] := Keep.refl _ _
  refine OwnW.aloadN X0 (n := 1) d7_0 rfl rfl rfl ?_
  refine OwnW.initObj X0 (W := 0) (n := 4) d7_1 (hw _ (List.mem_of_getElem? (i := 11) rfl)) (hw _ (List.mem_of_getElem? (i := 12) rfl)) (hw _ (List.mem_of_getElem? (i := 13) rfl)) rfl (by decide) (by decide) (by decide) rfl ?_
  intro T1 X1
  refine OwnW.aloadN X1 (n := 5) d7_4 rfl rfl rfl ?_
  refine OwnW.aloadN X1 (n := 6) d7_5 rfl rfl rfl ?_
  refine OwnW.putfield X1 (ty := (.array .byte)) (v' := (.ref r1)) (n := 9) d7_6 (hw _ (List.mem_of_getElem? (i := 20) rfl)) Via.refl F1 E0 (Or.inr ⟨(hw _ (List.mem_of_getElem? (i := 16) rfl)), rfl, rfl⟩) (hw _ (List.mem_of_getElem? (i := 2) rfl)) (by decide) rfl rfl ge_r0 (List.mem_cons_self ..) rfl ?_
  intro T2 h2 X2 W2 Fw2
  have f3 := F2.other W2 (Or.inr (slot_ne (Or.inr (hw _ (List.mem_of_getElem? (i := 17) rfl))) (Or.inr (hw _ (List.mem_of_getElem? (i := 16) rfl))) (by decide) (t := .byte) (t' := (.array .byte)) (by decide) (by decide)))
  have K2 := (Keep.of_wr W2)
  have O2 := O0.keep K2 (allS ge_r0 all0)
  have Z2 : Keep h0 h2 [r0] := Z0.trans K2 (allS (P := fun x => x ∈ [r0] ∨ h0.size ≤ x) (Or.inl (List.mem_of_getElem? (i := 0) rfl)) all0)
  refine OwnW.aloadN X2 (n := 10) d7_9 rfl rfl rfl ?_
  refine OwnW.iloadN X2 (n := 11) d7_10 rfl rfl ?_
  have f4 := (E0.keep K2)
  refine OwnW.putfield X2 (ty := .byte) (v' := (.int (0 : Int32))) (n := 14) d7_11 (hw _ (List.mem_of_getElem? (i := 21) rfl)) Via.refl f3 f4 (Or.inr ⟨(hw _ (List.mem_of_getElem? (i := 17) rfl)), rfl, rfl⟩) (hw _ (List.mem_of_getElem? (i := 2) rfl)) (by decide) rfl rfl ge_r0 (List.mem_cons_self ..) rfl ?_
  intro T5 h5 X5 W5 Fw5
  have f6 := Fw2.other W5 (Or.inr (slot_ne (Or.inr (hw _ (List.mem_of_getElem? (i := 16) rfl))) (Or.inr (hw _ (List.mem_of_getElem? (i := 17) rfl))) (by decide) (t := (.array .byte)) (t' := .byte) (by decide) (by decide)))
  have K5 := (Keep.of_wr W5)
  have O5 := O2.keep K5 (allS ge_r0 all0)
  have Z5 : Keep h0 h5 [r0] := Z2.trans K5 (allS (P := fun x => x ∈ [r0] ∨ h0.size ≤ x) (Or.inl (List.mem_of_getElem? (i := 0) rfl)) all0)
  exact OwnW.vreturn X5 rfl d7_14 ⟨Z5, Fw5, f6⟩ (by decide) (by decide)
theorem pd__C_Z : parseMethodDescriptor "(C)Z" = some ⟨[.char], some .boolean⟩ := by decide +kernel
theorem pd__C__B : parseMethodDescriptor "(C)[B" = some ⟨[.char], some (.array .byte)⟩ := by decide +kernel
theorem pd___BB_V : parseMethodDescriptor "([BB)V" = some ⟨[(.array .byte), .byte], none⟩ := by decide +kernel
theorem d4_0 : decode jdk_42_method_139_code 0 = .ok (.getstatic 38, 3) := by decide +kernel
theorem d4_3 : decode jdk_42_method_139_code 3 = .ok (.ifCond .eq 23, 3) := by decide +kernel
theorem d4_6 : decode jdk_42_method_139_code 6 = .ok (.iload_n 0, 1) := by decide +kernel
theorem d4_7 : decode jdk_42_method_139_code 7 = .ok (.invokestatic 1015, 3) := by decide +kernel
theorem d4_10 : decode jdk_42_method_139_code 10 = .ok (.ifCond .eq 16, 3) := by decide +kernel
theorem d4_13 : decode jdk_42_method_139_code 13 = .ok (.new 10, 3) := by decide +kernel
theorem d4_16 : decode jdk_42_method_139_code 16 = .ok (.dup, 1) := by decide +kernel
theorem d4_17 : decode jdk_42_method_139_code 17 = .ok (.iload_n 0, 1) := by decide +kernel
theorem d4_18 : decode jdk_42_method_139_code 18 = .ok (.invokestatic 1018, 3) := by decide +kernel
theorem d4_21 : decode jdk_42_method_139_code 21 = .ok (.iconst 0, 1) := by decide +kernel
theorem d4_22 : decode jdk_42_method_139_code 22 = .ok (.invokespecial 209, 3) := by decide +kernel
theorem d4_25 : decode jdk_42_method_139_code 25 = .ok (.areturn, 1) := by decide +kernel
theorem ef_rm4 (m : MethodId) (x0 : Int32) : entryFrame m #[(.int x0)] 1 = mkF m 0 #[.val (.int x0)] [] := by first | (simp [entryFrame, mkF, argsToLocals, Value.category]; done) | rfl
set_option maxRecDepth 65536 in
set_option maxHeartbeats 40000000 in
theorem rm4 (l : Launch) (Z : State) (a0 : Array Value) (hw : ∀ d ∈ tables_1, d.before a0 Z = true) (hE : EW Z a0 own_EL) (ws : List Jvm.Cond) (p0 : Int32) (h0 : Heap) (n0 : Nat) (O0 : Old Z n0 h0) (hp : ¬ 255 < p0) (zc : Int32) (hzc : ¬ zc = 0) (S_compact : Sta Z Z.heap "java/lang/String" "COMPACT_STRINGS" "Z" (.int zc)) :
    Ctr False l Z own_EL (⟨"java/lang/String", "valueOf", "(C)Ljava/lang/String;"⟩ : MethodName) jdk_42_method_139_code 1 (some (.object "java/lang/String")) ws ({ frames := 2, cells := 2, slots := 5, locals := 28 } : Room) n0 ([]) #[(.int p0)] h0 (Rt (fun w h g => ∃ x t, w = .ref x ∧ Keep h0 h [] ∧ h0.size ≤ x ∧ h0.size ≤ t ∧ StrL Z h x t [p0])) := by
  refine Ctr.of (plainFor_of_name pn_java_lang_String) hE (fun m => ef_rm4 m p0) ?_
  intro p e s m below meth c T0 X0
  have Z0 : Keep h0 h0 [] := Keep.refl _ _
  refine OwnW.getstatic X0 (n := 3) d4_0 (hw _ (List.mem_of_getElem? (i := 25) rfl)) Via.refl (S_compact.ext O0.2) rfl ?_
  intro T1 X1
  refine OwnW.if_eq X1  (n1 := 26) (n2 := 6) d4_3 (by decide) rfl rfl (fun q => absurd q (hzc : ¬ zc = 0)) (fun _ => ?_)
  refine OwnW.iloadN X1 (n := 7) d4_6 rfl rfl ?_
  refine OwnW.call_static_v X1 (z := (⟨"java/lang/StringLatin1", "canEncode", "(C)Z"⟩ : MethodName)) (n := 10) d4_7 (hw _ (List.mem_of_getElem? (i := 26) rfl)) (hw _ (List.mem_of_getElem? (i := 27) rfl)) (hw _ (List.mem_of_getElem? (i := 29) rfl)) (hw _ (List.mem_of_getElem? (i := 28) rfl)) (by decide) (rm5 l Z a0 hw hE [] p0 h0 n0 hp) OwnW.sf0 (argsL := [(.int p0)]) (rest := []) rfl rfl (OwnW.lenA pd__C_Z rfl) (W := 0) (Nat.le_of_eq rfl) (by decide) (by decide) (by decide) (by decide) rfl ?_
  intro T2 h2 w2 g2 hle2 X2 ⟨q1, q2⟩
  subst q1 q2
  refine OwnW.if_eq X2  (n1 := 26) (n2 := 13) d4_10 (by decide) rfl rfl (fun q => absurd q ((by decide) : ¬ (1 : Int32) = 0)) (fun _ => ?_)
  refine OwnW.new X2 (C := "java/lang/String") (k := 4) (n := 16) d4_13 (hw _ (List.mem_of_getElem? (i := 30) rfl)) (hw _ (List.mem_of_getElem? (i := 2) rfl)) (hw _ (List.mem_of_getElem? (i := 3) rfl)) (by decide) (by decide) rfl ?_
  intro T3 h3 b3 gb3 X3 E3 A3 D3 U3
  have ge_b3 : n0 ≤ b3 := by rw [gb3]; exact OwnW.oldLe O0
  have K3 := (OwnW.kExt E3)
  have O3 := O0.keep K3 all0
  have Z3 : Keep h0 h3 [] := Z0.trans K3 (fun x hx => nomatch hx)
  have sz_b3 : h0.size ≤ b3 := by rw [gb3]; exact Z0.1
  have F3_value : Fld Z h3 b3 "java/lang/String" "value" "[B" .null := D3 (Or.inr (hw _ (List.mem_of_getElem? (i := 16) rfl))) (ty := (.array .byte)) (by decide)
  have F3_coder : Fld Z h3 b3 "java/lang/String" "coder" "B" (.int (0 : Int32)) := D3 (Or.inr (hw _ (List.mem_of_getElem? (i := 17) rfl))) (ty := .byte) (by decide)
  refine OwnW.dup X3 (n := 17) d4_16 rfl rfl ?_
  refine OwnW.iloadN X3 (n := 18) d4_17 rfl rfl ?_
  refine OwnW.call_static_v X3 (z := (⟨"java/lang/StringLatin1", "toBytes", "(C)[B"⟩ : MethodName)) (n := 21) d4_18 (hw _ (List.mem_of_getElem? (i := 31) rfl)) (hw _ (List.mem_of_getElem? (i := 32) rfl)) (hw _ (List.mem_of_getElem? (i := 33) rfl)) (hw _ (List.mem_of_getElem? (i := 28) rfl)) (by decide) (rm6 l Z a0 hw hE [] p0 h3 n0 O3) OwnW.sf0 (argsL := [(.int p0)]) (rest := [(.ref b3), (.ref b3)]) rfl rfl (OwnW.lenA pd__C__B rfl) (W := 2) (Nat.le_of_eq rfl) (by decide) (by decide) (by decide) (by decide) rfl ?_
  intro T4 h4 w4 g4 hle4 X4 ⟨t4, q1, k4, z4, a4, m4⟩
  subst q1
  have ne_b3_t4 : b3 ≠ t4 := Nat.ne_of_lt (Nat.lt_of_lt_of_le A3.lt z4)
  have K4 := k4
  have O4 := O3.keep K4 all0
  have Z4 : Keep h0 h4 [] := Z3.trans K4 (fun x hx => nomatch hx)
  have szt : h0.size ≤ t4 := Nat.le_trans Z3.1 z4
  refine OwnW.iconst X4 (z := (0 : Int32)) (n := 22) d4_21 rfl rfl ?_
  have f5 := (A3.keep K4)
  have f6 := (F3_value.keep K4 nin0)
  have f7 := (F3_coder.keep K4 nin0)
  refine OwnW.call_special_n X4 (z := (⟨"java/lang/String", "<init>", "([BB)V"⟩ : MethodName)) (a := b3) (n := 25) d4_22 (hw _ (List.mem_of_getElem? (i := 34) rfl)) (hw _ (List.mem_of_getElem? (i := 35) rfl)) (hw _ (List.mem_of_getElem? (i := 36) rfl)) (hw _ (List.mem_of_getElem? (i := 3) rfl)) rfl rfl (by decide) (rm7 l Z a0 hw hE [] b3 t4 h4 n0 O4 ge_b3 f5 _ _ f6 f7) (OwnW.sfS (List.mem_append_left _ (List.mem_cons_self ..)) OwnW.sf0) (argsL := [(.ref t4), (.int (0 : Int32))]) (rest := [(.ref b3)]) rfl rfl (OwnW.lenA pd___BB_V rfl) (W := 1) (Nat.le_of_eq rfl) (by decide) (by decide) (by decide) (by decide) rfl ?_
  intro T8 h8 g8 hle8 X8 ⟨k8, c8, v8⟩
  have K8 := k8
  have O8 := O4.keep K8 (allS ge_b3 all0)
  have Z8 : Keep h0 h8 [] := Z4.trans K8 (allS (P := fun x => x ∈ [] ∨ h0.size ≤ x) (Or.inr sz_b3) all0)
  have f9 := (f5.keep K8)
  have f10 := (a4.keep K8 (ninS (Ne.symm ne_b3_t4) nin0))
  exact OwnW.areturn X8 rfl rfl rfl d4_25 ⟨_, _, rfl, Z8, sz_b3, szt, f9, c8, v8, f10⟩ (by decide) (by decide)
theorem pd___C_V : parseMethodDescriptor "([C)V" = some ⟨[(.array .char)], none⟩ := by decide +kernel
theorem pd__C_Ljava_lang_String_ : parseMethodDescriptor "(C)Ljava/lang/String;" = some ⟨[.char], some (.object "java/lang/String")⟩ := by decide +kernel
theorem pd__I_Lcom_example_formal_model_translator_formalmodeltranslator_classicalb_Token_Kind_ : parseMethodDescriptor "(I)Lcom/example/formal_model_translator/formalmodeltranslator/classicalb/Token$Kind;" = some ⟨[.int], some (.object "com/example/formal_model_translator/formalmodeltranslator/classicalb/Token$Kind")⟩ := by decide +kernel
theorem pd__Ljava_lang_String_Lcom_example_formal_model_translator_formalmodeltranslator_model_SourcePosition__V : parseMethodDescriptor "(Ljava/lang/String;Lcom/example/formal_model_translator/formalmodeltranslator/model/SourcePosition;)V" = some ⟨[(.object "java/lang/String"), (.object "com/example/formal_model_translator/formalmodeltranslator/model/SourcePosition")], none⟩ := by decide +kernel
theorem pd__Lcom_example_formal_model_translator_formalmodeltranslator_classicalb_Token_Kind_Ljava_lang_String_Lcom_example_formal_model_translator_formalmodeltranslator_model_SourcePosition_Lcom_example_formal_model_translator_formalmodeltranslator_classicalb_LabelPragma__V : parseMethodDescriptor "(Lcom/example/formal_model_translator/formalmodeltranslator/classicalb/Token$Kind;Ljava/lang/String;Lcom/example/formal_model_translator/formalmodeltranslator/model/SourcePosition;Lcom/example/formal_model_translator/formalmodeltranslator/classicalb/LabelPragma;)V" = some ⟨[(.object "com/example/formal_model_translator/formalmodeltranslator/classicalb/Token$Kind"), (.object "java/lang/String"), (.object "com/example/formal_model_translator/formalmodeltranslator/model/SourcePosition"), (.object "com/example/formal_model_translator/formalmodeltranslator/classicalb/LabelPragma")], none⟩ := by decide +kernel
theorem pd__Ljava_lang_Object__Z : parseMethodDescriptor "(Ljava/lang/Object;)Z" = some ⟨[(.object "java/lang/Object")], some .boolean⟩ := by decide +kernel
theorem ef_rm0 (m : MethodId) (x0 : Int32) (x1 : Int32) (x2 : Int32) (x3 : Int32) (x4 : Int32) : entryFrame m #[(.int x0), (.int x1), (.int x2), (.int x3), (.int x4)] maxLocals = mkF m 0 #[.val (.int x0), .val (.int x1), .val (.int x2), .val (.int x3), .val (.int x4), .unset, .unset, .unset, .unset, .unset, .unset, .unset, .unset, .unset, .unset, .unset] [] := by first | (simp [entryFrame, mkF, argsToLocals, Value.category, maxLocals]; done) | rfl
set_option maxRecDepth 65536 in
set_option maxHeartbeats 40000000 in
theorem rm0 (l : Launch) (Z : State) (a0 : Array Value) (hw : ∀ d ∈ tables_1, d.before a0 Z = true) (hE : EW Z a0 own_EL) (ws : List Jvm.Cond) (p0 : Int32) (p1 : Int32) (p2 : Int32) (p3 : Int32) (p4 : Int32) (h0 : Heap) (n0 : Nat) (O0 : Old Z n0 h0) (a_IDENTIFIER : Addr) (S_IDENTIFIER : Sta Z Z.heap "com/example/formal_model_translator/formalmodeltranslator/classicalb/Token$Kind" "IDENTIFIER" "Lcom/example/formal_model_translator/formalmodeltranslator/classicalb/Token$Kind;" (.ref a_IDENTIFIER)) (E_IDENTIFIER : Exa Z Z.heap a_IDENTIFIER "com/example/formal_model_translator/formalmodeltranslator/classicalb/Token$Kind") (a_FAULT : Addr) (S_FAULT : Sta Z Z.heap "com/example/formal_model_translator/formalmodeltranslator/classicalb/Token$Kind" "FAULT" "Lcom/example/formal_model_translator/formalmodeltranslator/classicalb/Token$Kind;" (.ref a_FAULT)) (E_FAULT : Exa Z Z.heap a_FAULT "com/example/formal_model_translator/formalmodeltranslator/classicalb/Token$Kind") (a_INTEGER : Addr) (S_INTEGER : Sta Z Z.heap "com/example/formal_model_translator/formalmodeltranslator/classicalb/Token$Kind" "INTEGER" "Lcom/example/formal_model_translator/formalmodeltranslator/classicalb/Token$Kind;" (.ref a_INTEGER)) (E_INTEGER : Exa Z Z.heap a_INTEGER "com/example/formal_model_translator/formalmodeltranslator/classicalb/Token$Kind") (a_LITERAL : Addr) (S_LITERAL : Sta Z Z.heap "com/example/formal_model_translator/formalmodeltranslator/classicalb/Token$Kind" "LITERAL" "Lcom/example/formal_model_translator/formalmodeltranslator/classicalb/Token$Kind;" (.ref a_LITERAL)) (E_LITERAL : Exa Z Z.heap a_LITERAL "com/example/formal_model_translator/formalmodeltranslator/classicalb/Token$Kind") (a_SYMBOL : Addr) (S_SYMBOL : Sta Z Z.heap "com/example/formal_model_translator/formalmodeltranslator/classicalb/Token$Kind" "SYMBOL" "Lcom/example/formal_model_translator/formalmodeltranslator/classicalb/Token$Kind;" (.ref a_SYMBOL)) (E_SYMBOL : Exa Z Z.heap a_SYMBOL "com/example/formal_model_translator/formalmodeltranslator/classicalb/Token$Kind") (a_STRING : Addr) (S_STRING : Sta Z Z.heap "com/example/formal_model_translator/formalmodeltranslator/classicalb/Token$Kind" "STRING" "Lcom/example/formal_model_translator/formalmodeltranslator/classicalb/Token$Kind;" (.ref a_STRING)) (E_STRING : Exa Z Z.heap a_STRING "com/example/formal_model_translator/formalmodeltranslator/classicalb/Token$Kind") (a_END_OF_TEXT : Addr) (S_END_OF_TEXT : Sta Z Z.heap "com/example/formal_model_translator/formalmodeltranslator/classicalb/Token$Kind" "END_OF_TEXT" "Lcom/example/formal_model_translator/formalmodeltranslator/classicalb/Token$Kind;" (.ref a_END_OF_TEXT)) (E_END_OF_TEXT : Exa Z Z.heap a_END_OF_TEXT "com/example/formal_model_translator/formalmodeltranslator/classicalb/Token$Kind") (a_KEYWORD : Addr) (S_KEYWORD : Sta Z Z.heap "com/example/formal_model_translator/formalmodeltranslator/classicalb/Token$Kind" "KEYWORD" "Lcom/example/formal_model_translator/formalmodeltranslator/classicalb/Token$Kind;" (.ref a_KEYWORD)) (E_KEYWORD : Exa Z Z.heap a_KEYWORD "com/example/formal_model_translator/formalmodeltranslator/classicalb/Token$Kind") (zc : Int32) (hzc : ¬ zc = 0) (S_compact : Sta Z Z.heap "java/lang/String" "COMPACT_STRINGS" "Z" (.int zc)) :
    Ctr False l Z own_EL x code maxLocals ret ws room_1 n0 ([]) #[(.int p0), (.int p1), (.int p2), (.int p3), (.int p4)] h0 (Rt (fun w h g => w = .int 1)) := by
  refine Ctr.of (plainFor_of_name pn_com_example_formal_model_translator_formalmodeltranslator_classicalb_TokenGetLabelPinLaw) hE (fun m => ef_rm0 m p0 p1 p2 p3 p4) ?_
  intro p e s m below meth c T0 X0
  have Z0 : Keep h0 h0 [] := Keep.refl _ _
  refine OwnW.iloadN X0 (n := 1) at_0 rfl rfl ?_
  refine OwnW.iconst X0 (z := (3 : Int32)) (n := 2) at_1 rfl rfl ?_
  refine OwnW.iand X0 (n := 3) at_2 rfl ?_
  refine OwnW.istore X0 (l' := #[.val (.int p0), .val (.int p1), .val (.int p2), .val (.int p3), .val (.int p4), .val (.int (p0 &&& (3 : Int32))), .unset, .unset, .unset, .unset, .unset, .unset, .unset, .unset, .unset, .unset]) (n := 5) at_3 rfl rfl ?_
  refine OwnW.iloadN X0 (n := 6) at_5 rfl rfl ?_
  refine OwnW.iconst X0 (z := (2 : Int32)) (n := 7) at_6 rfl rfl ?_
  refine OwnW.iushr X0 (n := 8) at_7 rfl ?_
  refine OwnW.sipush X0 (z := (255 : Int32)) (n := 11) at_8 rfl rfl ?_
  refine OwnW.iand X0 (n := 12) at_11 rfl ?_
  refine OwnW.iconst X0 (z := (3 : Int32)) (n := 13) at_12 rfl rfl ?_
  refine OwnW.irem X0 (n := 14) at_13 (by decide) rfl ?_
  refine OwnW.istore X0 (l' := #[.val (.int p0), .val (.int p1), .val (.int p2), .val (.int p3), .val (.int p4), .val (.int (p0 &&& (3 : Int32))), .val (.int ((((p0.toUInt32 >>> ((2 : Int32) &&& 31).toUInt32).toInt32) &&& (255 : Int32)) % (3 : Int32))), .unset, .unset, .unset, .unset, .unset, .unset, .unset, .unset, .unset]) (n := 16) at_14 rfl rfl ?_
  refine OwnW.iloadN X0 (n := 17) at_16 rfl rfl ?_
  refine OwnW.sipush X0 (z := (255 : Int32)) (n := 20) at_17 rfl rfl ?_
  refine OwnW.iand X0 (n := 21) at_20 rfl ?_
  refine OwnW.i2c X0 (n := 22) at_21 rfl ?_
  refine OwnW.istore X0 (l' := #[.val (.int p0), .val (.int p1), .val (.int p2), .val (.int p3), .val (.int p4), .val (.int (p0 &&& (3 : Int32))), .val (.int ((((p0.toUInt32 >>> ((2 : Int32) &&& 31).toUInt32).toInt32) &&& (255 : Int32)) % (3 : Int32))), .val (.int ((p1 &&& (255 : Int32)).toUInt32.toUInt16.toUInt32.toInt32)), .unset, .unset, .unset, .unset, .unset, .unset, .unset, .unset]) (n := 24) at_22 rfl rfl ?_
  refine OwnW.iloadN X0 (n := 25) at_24 rfl rfl ?_
  refine OwnW.sipush X0 (z := (255 : Int32)) (n := 28) at_25 rfl rfl ?_
  refine OwnW.iand X0 (n := 29) at_28 rfl ?_
  refine OwnW.i2c X0 (n := 30) at_29 rfl ?_
  refine OwnW.istore X0 (l' := #[.val (.int p0), .val (.int p1), .val (.int p2), .val (.int p3), .val (.int p4), .val (.int (p0 &&& (3 : Int32))), .val (.int ((((p0.toUInt32 >>> ((2 : Int32) &&& 31).toUInt32).toInt32) &&& (255 : Int32)) % (3 : Int32))), .val (.int ((p1 &&& (255 : Int32)).toUInt32.toUInt16.toUInt32.toInt32)), .val (.int ((p2 &&& (255 : Int32)).toUInt32.toUInt16.toUInt32.toInt32)), .unset, .unset, .unset, .unset, .unset, .unset, .unset]) (n := 32) at_30 rfl rfl ?_
  refine OwnW.joinT X0 (fun (x : Int32 × Int32) => match x with | (c0, c1) => (¬ c0 < 0 ∧ ¬ 255 < c0) ∧ (¬ c1 < 0 ∧ ¬ 255 < c1)) (fun (x : Int32 × Int32) => match x with | (c0, c1) => mkF m 32 #[.val (.int p0), .val (.int p1), .val (.int p2), .val (.int p3), .val (.int p4), .val (.int (p0 &&& (3 : Int32))), .val (.int ((((p0.toUInt32 >>> ((2 : Int32) &&& 31).toUInt32).toInt32) &&& (255 : Int32)) % (3 : Int32))), .val (.int c0), .val (.int c1), .unset, .unset, .unset, .unset, .unset, .unset, .unset] []) ?_ ?_
  · intro T1 ⟨c0, c1⟩ X1 hj32
    obtain ⟨hb0, hb1⟩ := hj32
    refine OwnW.iload X1 (n := 34) at_32 rfl rfl ?_
    refine OwnW.if_ne X1  (n1 := 45) (n2 := 37) at_34 (by decide) rfl rfl (fun hc34 => ?_) (fun hc34 => ?_)
    · refine OwnW.iload X1 (n := 47) at_45 rfl rfl ?_
      refine OwnW.iconst X1 (z := (1 : Int32)) (n := 48) at_47 rfl rfl ?_
      refine OwnW.ic_ne X1  (n1 := 64) (n2 := 51) at_48 (by decide) rfl rfl (fun hc48 => ?_) (fun hc48 => ?_)
      · refine OwnW.iconst X1 (z := (2 : Int32)) (n := 65) at_64 rfl rfl ?_
        refine OwnW.newarray X1 (len := 2) (cap := 2) (n := 67) at_65 (hw _ (List.mem_of_getElem? (i := 0) rfl)) rfl (by decide) (by decide) (by decide) (by decide) rfl ?_
        intro T2 h2 b2 gb2 X2 E2 A2
        have ge_b2 : n0 ≤ b2 := by rw [gb2]; exact OwnW.oldLe O0
        have K2 := (OwnW.kExt E2)
        have O2 := O0.keep K2 all0
        have Z2 : Keep h0 h2 [] := Z0.trans K2 (fun x hx => nomatch hx)
        have sz_b2 : h0.size ≤ b2 := by rw [gb2]; exact Z0.1
        replace A2 : Ark Z h2 b2 .char [(.int (0 : Int32)), (.int (0 : Int32))] := A2
        refine OwnW.dup X2 (n := 68) at_67 rfl rfl ?_
        refine OwnW.iconst X2 (z := (0 : Int32)) (n := 69) at_68 rfl rfl ?_
        refine OwnW.iload X2 (n := 71) at_69 rfl rfl ?_
        refine OwnW.castore X2 (i := 0) (z := c0) (n := 72) at_71 A2 rfl (Nat.le_of_ble_eq_true rfl) (own_narC hb0.1 hb0.2) ge_b2 (List.mem_cons_self ..) rfl ?_
        intro T3 h3 X3 W3 A3
        have K3 := (Keep.of_wr W3)
        have O3 := O2.keep K3 (allS ge_b2 all0)
        have Z3 : Keep h0 h3 [] := Z2.trans K3 (allS (P := fun x => x ∈ [] ∨ h0.size ≤ x) (Or.inr sz_b2) all0)
        replace A3 : Ark Z h3 b2 .char [(.int c0), (.int (0 : Int32))] := A3
        refine OwnW.dup X3 (n := 73) at_72 rfl rfl ?_
        refine OwnW.iconst X3 (z := (1 : Int32)) (n := 74) at_73 rfl rfl ?_
        refine OwnW.iload X3 (n := 76) at_74 rfl rfl ?_
        refine OwnW.castore X3 (i := 1) (z := c1) (n := 77) at_76 A3 rfl (Nat.le_of_ble_eq_true rfl) (own_narC hb1.1 hb1.2) ge_b2 (List.mem_cons_self ..) rfl ?_
        intro T4 h4 X4 W4 A4
        have K4 := (Keep.of_wr W4)
        have O4 := O3.keep K4 (allS ge_b2 all0)
        have Z4 : Keep h0 h4 [] := Z3.trans K4 (allS (P := fun x => x ∈ [] ∨ h0.size ≤ x) (Or.inr sz_b2) all0)
        replace A4 : Ark Z h4 b2 .char [(.int c0), (.int c1)] := A4
        refine OwnW.astore X4 (l' := #[.val (.int p0), .val (.int p1), .val (.int p2), .val (.int p3), .val (.int p4), .val (.int (p0 &&& (3 : Int32))), .val (.int ((((p0.toUInt32 >>> ((2 : Int32) &&& 31).toUInt32).toInt32) &&& (255 : Int32)) % (3 : Int32))), .val (.int c0), .val (.int c1), .val (.ref b2), .unset, .unset, .unset, .unset, .unset, .unset]) (n := 79) at_77 rfl rfl rfl ?_
        refine OwnW.new X4 (C := "java/lang/String") (k := 4) (n := 82) at_79 (hw _ (List.mem_of_getElem? (i := 1) rfl)) (hw _ (List.mem_of_getElem? (i := 2) rfl)) (hw _ (List.mem_of_getElem? (i := 3) rfl)) (by decide) (by decide) rfl ?_
        intro T5 h5 b5 gb5 X5 E5 A5 D5 U5
        have ne_b2_b5 : b2 ≠ b5 := by rw [gb5]; exact Nat.ne_of_lt A4.lt
        have ge_b5 : n0 ≤ b5 := by rw [gb5]; exact OwnW.oldLe O4
        have K5 := (OwnW.kExt E5)
        have O5 := O4.keep K5 all0
        have Z5 : Keep h0 h5 [] := Z4.trans K5 (fun x hx => nomatch hx)
        have sz_b5 : h0.size ≤ b5 := by rw [gb5]; exact Z4.1
        have F5_value : Fld Z h5 b5 "java/lang/String" "value" "[B" .null := D5 (Or.inr (hw _ (List.mem_of_getElem? (i := 16) rfl))) (ty := (.array .byte)) (by decide)
        have F5_coder : Fld Z h5 b5 "java/lang/String" "coder" "B" (.int (0 : Int32)) := D5 (Or.inr (hw _ (List.mem_of_getElem? (i := 17) rfl))) (ty := .byte) (by decide)
        refine OwnW.dup X5 (n := 83) at_82 rfl rfl ?_
        refine OwnW.aload X5 (n := 85) at_83 rfl rfl rfl ?_
        have f6 := (A4.keep K5 nin0)
        refine OwnW.call_special_n X5 (z := (⟨"java/lang/String", "<init>", "([C)V"⟩ : MethodName)) (a := b5) (n := 88) at_85 (hw _ (List.mem_of_getElem? (i := 4) rfl)) (hw _ (List.mem_of_getElem? (i := 5) rfl)) (hw _ (List.mem_of_getElem? (i := 6) rfl)) (hw _ (List.mem_of_getElem? (i := 3) rfl)) rfl rfl (by decide) (rm1 l Z a0 hw hE [] b5 b2 h5 n0 O5 ge_b5 A5 _ _ F5_value F5_coder ([c0, c1] : List Int32) (own_aS hb0.2 (own_aS hb1.2 own_a0)) (by simp) (by simp) f6 (Ne.symm ne_b2_b5) zc hzc S_compact) (OwnW.sfS (List.mem_cons_self ..) OwnW.sf0) (argsL := [(.ref b2)]) (rest := [(.ref b5)]) rfl rfl (OwnW.lenA pd___C_V rfl) (W := 1) (Nat.le_of_eq rfl) (by decide) (by decide) (by decide) (by decide) rfl ?_
        intro T7 h7 g7 hle7 X7 ⟨k7, t7, z7, S7⟩
        obtain ⟨se7, sc7, sv7, sa7⟩ := S7
        have K7 := k7
        have O7 := O5.keep K7 (allS ge_b5 all0)
        have Z7 : Keep h0 h7 [] := Z5.trans K7 (allS (P := fun x => x ∈ [] ∨ h0.size ≤ x) (Or.inr sz_b5) all0)
        have ne_b2_t7 : b2 ≠ t7 := Nat.ne_of_lt (Nat.lt_of_lt_of_le f6.lt z7)
        have ne_b5_t7 : b5 ≠ t7 := Nat.ne_of_lt (Nat.lt_of_lt_of_le A5.lt z7)
        have zz7 : h0.size ≤ t7 := Nat.le_trans Z5.1 z7
        refine OwnW.astore X7 (l' := #[.val (.int p0), .val (.int p1), .val (.int p2), .val (.int p3), .val (.int p4), .val (.int (p0 &&& (3 : Int32))), .val (.int ((((p0.toUInt32 >>> ((2 : Int32) &&& 31).toUInt32).toInt32) &&& (255 : Int32)) % (3 : Int32))), .val (.int c0), .val (.int c1), .val (.ref b2), .val (.ref b5), .unset, .unset, .unset, .unset, .unset]) (n := 90) at_88 rfl rfl rfl ?_
        refine OwnW.iloadN X7 (n := 91) at_90 rfl rfl ?_
        refine OwnW.sipush X7 (z := (255 : Int32)) (n := 94) at_91 rfl rfl ?_
        refine OwnW.iand X7 (n := 95) at_94 rfl ?_
        refine OwnW.i2c X7 (n := 96) at_95 rfl ?_
        have f8 := (f6.keep K7 (ninS ne_b2_b5 nin0))
        refine OwnW.call_static_v X7 (z := (⟨"java/lang/String", "valueOf", "(C)Ljava/lang/String;"⟩ : MethodName)) (n := 99) at_96 (hw _ (List.mem_of_getElem? (i := 22) rfl)) (hw _ (List.mem_of_getElem? (i := 23) rfl)) (hw _ (List.mem_of_getElem? (i := 24) rfl)) (hw _ (List.mem_of_getElem? (i := 3) rfl)) (by decide) (rm4 l Z a0 hw hE [] ((p3 &&& (255 : Int32)).toUInt32.toUInt16.toUInt32.toInt32) h7 n0 O7 (own_255 p3).2 zc hzc S_compact) OwnW.sf0 (argsL := [(.int ((p3 &&& (255 : Int32)).toUInt32.toUInt16.toUInt32.toInt32))]) (rest := []) rfl rfl (OwnW.lenA pd__C_Ljava_lang_String_ rfl) (W := 0) (Nat.le_of_eq rfl) (by decide) (by decide) (by decide) (by decide) rfl ?_
        intro T9 h9 w9 g9 hle9 X9 ⟨x9, t9, q1, k9, y9, z9, S9⟩
        subst q1
        obtain ⟨se9, sc9, sv9, sa9⟩ := S9
        have ne_b2_x9 : b2 ≠ x9 := Nat.ne_of_lt (Nat.lt_of_lt_of_le f8.lt y9)
        have ne_b2_t9 : b2 ≠ t9 := Nat.ne_of_lt (Nat.lt_of_lt_of_le f8.lt z9)
        have ne_b5_x9 : b5 ≠ x9 := Nat.ne_of_lt (Nat.lt_of_lt_of_le se7.lt y9)
        have ne_b5_t9 : b5 ≠ t9 := Nat.ne_of_lt (Nat.lt_of_lt_of_le se7.lt z9)
        have ne_t7_x9 : t7 ≠ x9 := Nat.ne_of_lt (Nat.lt_of_lt_of_le sa7.lt y9)
        have ne_t7_t9 : t7 ≠ t9 := Nat.ne_of_lt (Nat.lt_of_lt_of_le sa7.lt z9)
        have K9 := k9
        have O9 := O7.keep K9 all0
        have Z9 : Keep h0 h9 [] := Z7.trans K9 (fun x hx => nomatch hx)
        refine OwnW.astore X9 (l' := #[.val (.int p0), .val (.int p1), .val (.int p2), .val (.int p3), .val (.int p4), .val (.int (p0 &&& (3 : Int32))), .val (.int ((((p0.toUInt32 >>> ((2 : Int32) &&& 31).toUInt32).toInt32) &&& (255 : Int32)) % (3 : Int32))), .val (.int c0), .val (.int c1), .val (.ref b2), .val (.ref b5), .val (.ref x9), .unset, .unset, .unset, .unset]) (n := 101) at_99 rfl rfl rfl ?_
        refine OwnW.iload X9 (n := 103) at_101 rfl rfl ?_
        refine OwnW.call_static_v X9 (z := (⟨"com/example/formal_model_translator/formalmodeltranslator/classicalb/TokenGetLabelPinLaw", "kindOf", "(I)Lcom/example/formal_model_translator/formalmodeltranslator/classicalb/Token$Kind;"⟩ : MethodName)) (n := 106) at_103 (hw _ (List.mem_of_getElem? (i := 37) rfl)) (hw _ (List.mem_of_getElem? (i := 38) rfl)) (hw _ (List.mem_of_getElem? (i := 40) rfl)) (hw _ (List.mem_of_getElem? (i := 39) rfl)) (by decide) (rm8 l Z a0 hw hE [] p4 h9 n0 O9 a_IDENTIFIER S_IDENTIFIER E_IDENTIFIER a_FAULT S_FAULT E_FAULT a_INTEGER S_INTEGER E_INTEGER a_LITERAL S_LITERAL E_LITERAL a_SYMBOL S_SYMBOL E_SYMBOL a_STRING S_STRING E_STRING a_END_OF_TEXT S_END_OF_TEXT E_END_OF_TEXT a_KEYWORD S_KEYWORD E_KEYWORD) OwnW.sf0 (argsL := [(.int p4)]) (rest := []) rfl rfl (OwnW.lenA pd__I_Lcom_example_formal_model_translator_formalmodeltranslator_classicalb_Token_Kind_ rfl) (W := 0) (Nat.le_of_eq rfl) (by decide) (by decide) (by decide) (by decide) rfl ?_
        intro T10 h10 w10 g10 hle10 X10 ⟨q1, q2⟩
        subst q1 q2
        refine OwnW.astore X10 (l' := #[.val (.int p0), .val (.int p1), .val (.int p2), .val (.int p3), .val (.int p4), .val (.int (p0 &&& (3 : Int32))), .val (.int ((((p0.toUInt32 >>> ((2 : Int32) &&& 31).toUInt32).toInt32) &&& (255 : Int32)) % (3 : Int32))), .val (.int c0), .val (.int c1), .val (.ref b2), .val (.ref b5), .val (.ref x9), .val (.ref (own_sel a_IDENTIFIER a_INTEGER a_KEYWORD a_LITERAL a_STRING a_SYMBOL a_END_OF_TEXT a_FAULT (p4 &&& 7))), .unset, .unset, .unset]) (n := 108) at_106 rfl rfl rfl ?_
        refine OwnW.iload X10 (n := 110) at_108 rfl rfl ?_
        refine OwnW.if_ne X10  (n1 := 119) (n2 := 113) at_110 (by decide) rfl rfl (fun hc110 => ?_) (fun hc110 => ?_)
        · refine OwnW.iload X10 (n := 121) at_119 rfl rfl ?_
          refine OwnW.iconst X10 (z := (1 : Int32)) (n := 122) at_121 rfl rfl ?_
          refine OwnW.ic_ne X10  (n1 := 139) (n2 := 125) at_122 (by decide) rfl rfl (fun hc122 => ?_) (fun hc122 => ?_)
          · refine OwnW.new X10 (C := "com/example/formal_model_translator/formalmodeltranslator/classicalb/LabelPragma") (k := 2) (n := 142) at_139 (hw _ (List.mem_of_getElem? (i := 75) rfl)) (hw _ (List.mem_of_getElem? (i := 76) rfl)) (hw _ (List.mem_of_getElem? (i := 77) rfl)) (by decide) (by decide) rfl ?_
            intro T11 h11 b11 gb11 X11 E11 A11 D11 U11
            have f12 := (f8.keep K9 nin0)
            have ne_b2_b11 : b2 ≠ b11 := by rw [gb11]; exact Nat.ne_of_lt f12.lt
            have f13 := (se7.keep K9)
            have ne_b5_b11 : b5 ≠ b11 := by rw [gb11]; exact Nat.ne_of_lt f13.lt
            have f14 := (sa7.keep K9 nin0)
            have ne_t7_b11 : t7 ≠ b11 := by rw [gb11]; exact Nat.ne_of_lt f14.lt
            have ne_x9_b11 : x9 ≠ b11 := by rw [gb11]; exact Nat.ne_of_lt se9.lt
            have ne_t9_b11 : t9 ≠ b11 := by rw [gb11]; exact Nat.ne_of_lt sa9.lt
            have ge_b11 : n0 ≤ b11 := by rw [gb11]; exact OwnW.oldLe O9
            have K11 := (OwnW.kExt E11)
            have O11 := O9.keep K11 all0
            have Z11 : Keep h0 h11 [] := Z9.trans K11 (fun x hx => nomatch hx)
            have sz_b11 : h0.size ≤ b11 := by rw [gb11]; exact Z9.1
            have F11_label : Fld Z h11 b11 "com/example/formal_model_translator/formalmodeltranslator/classicalb/LabelPragma" "label" "Ljava/lang/String;" .null := D11 (Or.inr (hw _ (List.mem_of_getElem? (i := 83) rfl))) (ty := (.object "java/lang/String")) (by decide)
            have F11_position : Fld Z h11 b11 "com/example/formal_model_translator/formalmodeltranslator/classicalb/LabelPragma" "position" "Lcom/example/formal_model_translator/formalmodeltranslator/model/SourcePosition;" .null := D11 (Or.inr (hw _ (List.mem_of_getElem? (i := 85) rfl))) (ty := (.object "com/example/formal_model_translator/formalmodeltranslator/model/SourcePosition")) (by decide)
            refine OwnW.dup X11 (n := 143) at_142 rfl rfl ?_
            refine OwnW.aload X11 (n := 145) at_143 rfl rfl rfl ?_
            refine OwnW.anull X11 (n := 146) at_145 rfl ?_
            refine OwnW.call_special_n X11 (z := (⟨"com/example/formal_model_translator/formalmodeltranslator/classicalb/LabelPragma", "<init>", "(Ljava/lang/String;Lcom/example/formal_model_translator/formalmodeltranslator/model/SourcePosition;)V"⟩ : MethodName)) (a := b11) (n := 149) at_146 (hw _ (List.mem_of_getElem? (i := 78) rfl)) (hw _ (List.mem_of_getElem? (i := 79) rfl)) (hw _ (List.mem_of_getElem? (i := 80) rfl)) (hw _ (List.mem_of_getElem? (i := 77) rfl)) rfl rfl (by decide) (rmL1 l Z a0 hw hE [] b11 b5 h11 n0 O11 ge_b11 A11 _ F11_label _ F11_position) (OwnW.sfS (List.mem_cons_self ..) OwnW.sf0) (argsL := [(.ref b5), .null]) (rest := [(.ref b11)]) rfl rfl (OwnW.lenA pd__Ljava_lang_String_Lcom_example_formal_model_translator_formalmodeltranslator_model_SourcePosition__V rfl) (W := 1) (Nat.le_of_eq rfl) (by decide) (by decide) (by decide) (by decide) rfl ?_
            intro T15 h15 g15 hle15 X15 ⟨k15, f15⟩
            have K15 := k15
            have O15 := O11.keep K15 (allS ge_b11 all0)
            have Z15 : Keep h0 h15 [] := Z11.trans K15 (allS (P := fun x => x ∈ [] ∨ h0.size ≤ x) (Or.inr sz_b11) all0)
            refine OwnW.astore X15 (l' := #[.val (.int p0), .val (.int p1), .val (.int p2), .val (.int p3), .val (.int p4), .val (.int (p0 &&& (3 : Int32))), .val (.int ((((p0.toUInt32 >>> ((2 : Int32) &&& 31).toUInt32).toInt32) &&& (255 : Int32)) % (3 : Int32))), .val (.int c0), .val (.int c1), .val (.ref b2), .val (.ref b5), .val (.ref x9), .val (.ref (own_sel a_IDENTIFIER a_INTEGER a_KEYWORD a_LITERAL a_STRING a_SYMBOL a_END_OF_TEXT a_FAULT (p4 &&& 7))), .val (.ref b11), .unset, .unset]) (n := 151) at_149 rfl rfl rfl ?_
            refine OwnW.new X15 (C := "com/example/formal_model_translator/formalmodeltranslator/classicalb/Token") (k := 7) (n := 154) at_151 (hw _ (List.mem_of_getElem? (i := 44) rfl)) (hw _ (List.mem_of_getElem? (i := 45) rfl)) (hw _ (List.mem_of_getElem? (i := 46) rfl)) (by decide) (by decide) rfl ?_
            intro T16 h16 b16 gb16 X16 E16 A16 D16 U16
            have f17 := ((f12.keep K11 nin0).keep K15 (ninS ne_b2_b11 nin0))
            have ne_b2_b16 : b2 ≠ b16 := by rw [gb16]; exact Nat.ne_of_lt f17.lt
            have f18 := ((f13.keep K11).keep K15)
            have ne_b5_b16 : b5 ≠ b16 := by rw [gb16]; exact Nat.ne_of_lt f18.lt
            have f19 := ((f14.keep K11 nin0).keep K15 (ninS ne_t7_b11 nin0))
            have ne_t7_b16 : t7 ≠ b16 := by rw [gb16]; exact Nat.ne_of_lt f19.lt
            have f20 := ((se9.keep K11).keep K15)
            have ne_x9_b16 : x9 ≠ b16 := by rw [gb16]; exact Nat.ne_of_lt f20.lt
            have f21 := ((sa9.keep K11 nin0).keep K15 (ninS ne_t9_b11 nin0))
            have ne_t9_b16 : t9 ≠ b16 := by rw [gb16]; exact Nat.ne_of_lt f21.lt
            have f22 := (A11.keep K15)
            have ne_b11_b16 : b11 ≠ b16 := by rw [gb16]; exact Nat.ne_of_lt f22.lt
            have ge_b16 : n0 ≤ b16 := by rw [gb16]; exact OwnW.oldLe O15
            have K16 := (OwnW.kExt E16)
            have O16 := O15.keep K16 all0
            have Z16 : Keep h0 h16 [] := Z15.trans K16 (fun x hx => nomatch hx)
            have sz_b16 : h0.size ≤ b16 := by rw [gb16]; exact Z15.1
            have F16_kind : Fld Z h16 b16 "com/example/formal_model_translator/formalmodeltranslator/classicalb/Token" "kind" "Lcom/example/formal_model_translator/formalmodeltranslator/classicalb/Token$Kind;" .null := D16 (Or.inr (hw _ (List.mem_of_getElem? (i := 55) rfl))) (ty := (.object "com/example/formal_model_translator/formalmodeltranslator/classicalb/Token$Kind")) (by decide)
            have F16_text : Fld Z h16 b16 "com/example/formal_model_translator/formalmodeltranslator/classicalb/Token" "text" "Ljava/lang/String;" .null := D16 (Or.inr (hw _ (List.mem_of_getElem? (i := 57) rfl))) (ty := (.object "java/lang/String")) (by decide)
            have F16_written : Fld Z h16 b16 "com/example/formal_model_translator/formalmodeltranslator/classicalb/Token" "written" "Ljava/lang/String;" .null := D16 (Or.inr (hw _ (List.mem_of_getElem? (i := 59) rfl))) (ty := (.object "java/lang/String")) (by decide)
            have F16_position : Fld Z h16 b16 "com/example/formal_model_translator/formalmodeltranslator/classicalb/Token" "position" "Lcom/example/formal_model_translator/formalmodeltranslator/model/SourcePosition;" .null := D16 (Or.inr (hw _ (List.mem_of_getElem? (i := 61) rfl))) (ty := (.object "com/example/formal_model_translator/formalmodeltranslator/model/SourcePosition")) (by decide)
            have F16_pragma : Fld Z h16 b16 "com/example/formal_model_translator/formalmodeltranslator/classicalb/Token" "pragma" "Lcom/example/formal_model_translator/formalmodeltranslator/classicalb/LabelPragma;" .null := D16 (Or.inr (hw _ (List.mem_of_getElem? (i := 63) rfl))) (ty := (.object "com/example/formal_model_translator/formalmodeltranslator/classicalb/LabelPragma")) (by decide)
            have F16_opensBody : Fld Z h16 b16 "com/example/formal_model_translator/formalmodeltranslator/classicalb/Token" "opensBody" "Z" (.int (0 : Int32)) := D16 (Or.inr (hw _ (List.mem_of_getElem? (i := 65) rfl))) (ty := .boolean) (by decide)
            have F16_fault : Fld Z h16 b16 "com/example/formal_model_translator/formalmodeltranslator/classicalb/Token" "fault" "Ljava/lang/String;" .null := D16 (Or.inr (hw _ (List.mem_of_getElem? (i := 67) rfl))) (ty := (.object "java/lang/String")) (by decide)
            refine OwnW.dup X16 (n := 155) at_154 rfl rfl ?_
            refine OwnW.aload X16 (n := 157) at_155 rfl rfl rfl ?_
            refine OwnW.aload X16 (n := 159) at_157 rfl rfl rfl ?_
            refine OwnW.anull X16 (n := 160) at_159 rfl ?_
            refine OwnW.aload X16 (n := 162) at_160 rfl rfl rfl ?_
            refine OwnW.call_special_n X16 (z := (⟨"com/example/formal_model_translator/formalmodeltranslator/classicalb/Token", "<init>", "(Lcom/example/formal_model_translator/formalmodeltranslator/classicalb/Token$Kind;Ljava/lang/String;Lcom/example/formal_model_translator/formalmodeltranslator/model/SourcePosition;Lcom/example/formal_model_translator/formalmodeltranslator/classicalb/LabelPragma;)V"⟩ : MethodName)) (a := b16) (n := 165) at_162 (hw _ (List.mem_of_getElem? (i := 47) rfl)) (hw _ (List.mem_of_getElem? (i := 48) rfl)) (hw _ (List.mem_of_getElem? (i := 49) rfl)) (hw _ (List.mem_of_getElem? (i := 46) rfl)) rfl rfl (by decide) (rmT41 l Z a0 hw hE [] b16 (own_sel a_IDENTIFIER a_INTEGER a_KEYWORD a_LITERAL a_STRING a_SYMBOL a_END_OF_TEXT a_FAULT (p4 &&& 7)) x9 b11 h16 n0 O16 ge_b16 A16 _ F16_kind _ F16_text _ F16_written _ F16_position _ F16_pragma _ F16_opensBody _ F16_fault) (OwnW.sfS (List.mem_cons_self ..) OwnW.sf0) (argsL := [(.ref (own_sel a_IDENTIFIER a_INTEGER a_KEYWORD a_LITERAL a_STRING a_SYMBOL a_END_OF_TEXT a_FAULT (p4 &&& 7))), (.ref x9), .null, (.ref b11)]) (rest := [(.ref b16)]) rfl rfl (OwnW.lenA pd__Lcom_example_formal_model_translator_formalmodeltranslator_classicalb_Token_Kind_Ljava_lang_String_Lcom_example_formal_model_translator_formalmodeltranslator_model_SourcePosition_Lcom_example_formal_model_translator_formalmodeltranslator_classicalb_LabelPragma__V rfl) (W := 1) (Nat.le_of_eq rfl) (by decide) (by decide) (by decide) (by decide) rfl ?_
            intro T23 h23 g23 hle23 X23 ⟨k23, f23⟩
            have K23 := k23
            have O23 := O16.keep K23 (allS ge_b16 all0)
            have Z23 : Keep h0 h23 [] := Z16.trans K23 (allS (P := fun x => x ∈ [] ∨ h0.size ≤ x) (Or.inr sz_b16) all0)
            refine OwnW.astore X23 (l' := #[.val (.int p0), .val (.int p1), .val (.int p2), .val (.int p3), .val (.int p4), .val (.int (p0 &&& (3 : Int32))), .val (.int ((((p0.toUInt32 >>> ((2 : Int32) &&& 31).toUInt32).toInt32) &&& (255 : Int32)) % (3 : Int32))), .val (.int c0), .val (.int c1), .val (.ref b2), .val (.ref b5), .val (.ref x9), .val (.ref (own_sel a_IDENTIFIER a_INTEGER a_KEYWORD a_LITERAL a_STRING a_SYMBOL a_END_OF_TEXT a_FAULT (p4 &&& 7))), .val (.ref b11), .val (.ref b16), .unset]) (n := 167) at_165 rfl rfl rfl ?_
            refine OwnW.aload X23 (n := 169) at_167 rfl rfl rfl ?_
            have f24 := ((f22.keep K16).keep K23)
            have f25 := ((f15.keep K16 nin0).keep K23 (ninS ne_b11_b16 nin0))
            have f27 := (A16.keep K23)
            refine OwnW.call_virtual_v X23 (z := (⟨"com/example/formal_model_translator/formalmodeltranslator/classicalb/Token", "getLabel", "()Ljava/lang/String;"⟩ : MethodName)) (yv := (⟨"com/example/formal_model_translator/formalmodeltranslator/classicalb/Token", "getLabel", "()Ljava/lang/String;"⟩ : MethodName)) (a := b16) (C := "com/example/formal_model_translator/formalmodeltranslator/classicalb/Token") (n := 172) at_169 (hw _ (List.mem_of_getElem? (i := 68) rfl)) (hw _ (List.mem_of_getElem? (i := 69) rfl)) (hw _ (List.mem_of_getElem? (i := 70) rfl)) (hw _ (List.mem_of_getElem? (i := 71) rfl)) (fun hz => notFace_of_selects (args := #[]) (mvT hz (hw _ (List.mem_of_getElem? (i := 71) rfl)))) (hw _ (List.mem_of_getElem? (i := 72) rfl)) (hw _ (List.mem_of_getElem? (i := 46) rfl)) (by decide) f27 (rmH2 l Z a0 hw hE [] b16 h23 n0 b11 f23 f24 _ f25) OwnW.sf0 (argsL := []) (rest := []) rfl rfl (OwnW.lenA pd___Ljava_lang_String_ rfl) (W := 0) (Nat.le_of_eq rfl) (by decide) (by decide) (by decide) (by decide) rfl ?_
            intro T26 h26 w26 g26 hle26 X26 ⟨q1, q2⟩
            subst q1 q2
            refine OwnW.astore X26 (l' := #[.val (.int p0), .val (.int p1), .val (.int p2), .val (.int p3), .val (.int p4), .val (.int (p0 &&& (3 : Int32))), .val (.int ((((p0.toUInt32 >>> ((2 : Int32) &&& 31).toUInt32).toInt32) &&& (255 : Int32)) % (3 : Int32))), .val (.int c0), .val (.int c1), .val (.ref b2), .val (.ref b5), .val (.ref x9), .val (.ref (own_sel a_IDENTIFIER a_INTEGER a_KEYWORD a_LITERAL a_STRING a_SYMBOL a_END_OF_TEXT a_FAULT (p4 &&& 7))), .val (.ref b11), .val (.ref b16), .val (.ref b5)]) (n := 174) at_172 rfl rfl rfl ?_
            refine OwnW.iload X26 (n := 176) at_174 rfl rfl ?_
            refine OwnW.if_eq X26  (n1 := 185) (n2 := 179) at_176 (by decide) rfl rfl (fun q => absurd q (hc110 : ¬ (p0 &&& (3 : Int32)) = 0)) (fun _ => ?_)
            refine OwnW.iload X26 (n := 181) at_179 rfl rfl ?_
            refine OwnW.iconst X26 (z := (1 : Int32)) (n := 182) at_181 rfl rfl ?_
            refine OwnW.ic_ne X26  (n1 := 196) (n2 := 185) at_182 (by decide) rfl rfl (fun _ => ?_) (fun q => absurd q (hc122 : ¬ (p0 &&& (3 : Int32)) = (1 : Int32)))
            refine OwnW.aload X26 (n := 198) at_196 rfl rfl rfl ?_
            refine OwnW.ifnull_n X26 (n2 := 201) at_198 rfl ?_
            refine OwnW.aload X26 (n := 203) at_201 rfl rfl rfl ?_
            refine OwnW.aload X26 (n := 205) at_203 rfl rfl rfl ?_
            have f29 := ((f18.keep K16).keep K23)
            refine OwnW.call_virtual_v X26 (z := (⟨"java/lang/String", "equals", "(Ljava/lang/Object;)Z"⟩ : MethodName)) (yv := (⟨"java/lang/String", "equals", "(Ljava/lang/Object;)Z"⟩ : MethodName)) (a := b5) (C := "java/lang/String") (n := 208) at_205 (hw _ (List.mem_of_getElem? (i := 91) rfl)) (hw _ (List.mem_of_getElem? (i := 92) rfl)) (hw _ (List.mem_of_getElem? (i := 93) rfl)) (hw _ (List.mem_of_getElem? (i := 94) rfl)) (fun hz => notFace_of_selects (args := #[]) (mvT hz (hw _ (List.mem_of_getElem? (i := 94) rfl)))) (hw _ (List.mem_of_getElem? (i := 95) rfl)) (hw _ (List.mem_of_getElem? (i := 3) rfl)) (by decide) f29 (rmS l Z a0 hw hE [] b5 h23 n0) OwnW.sf0 (argsL := [(.ref b5)]) (rest := []) rfl rfl (OwnW.lenA pd__Ljava_lang_Object__Z rfl) (W := 0) (Nat.le_of_eq rfl) (by decide) (by decide) (by decide) (by decide) rfl ?_
            intro T28 h28 w28 g28 hle28 X28 ⟨q1, q2⟩
            subst q1 q2
            refine OwnW.if_eq X28  (n1 := 215) (n2 := 211) at_208 (by decide) rfl rfl (fun q => absurd q ((by decide) : ¬ (1 : Int32) = 0)) (fun _ => ?_)
            refine OwnW.iconst X28 (z := (1 : Int32)) (n := 212) at_211 rfl rfl ?_
            refine OwnW.goto X28 (n := 216) at_212 (by decide) rfl ?_
            exact OwnW.ireturn X28 rfl (Or.inr (Or.inl rfl)) rfl at_216 rfl (by decide) (by decide)
          · refine OwnW.new X10 (C := "com/example/formal_model_translator/formalmodeltranslator/classicalb/LabelPragma") (k := 2) (n := 128) at_125 (hw _ (List.mem_of_getElem? (i := 75) rfl)) (hw _ (List.mem_of_getElem? (i := 76) rfl)) (hw _ (List.mem_of_getElem? (i := 77) rfl)) (by decide) (by decide) rfl ?_
            intro T30 h30 b30 gb30 X30 E30 A30 D30 U30
            have f31 := (f8.keep K9 nin0)
            have ne_b2_b30 : b2 ≠ b30 := by rw [gb30]; exact Nat.ne_of_lt f31.lt
            have f32 := (se7.keep K9)
            have ne_b5_b30 : b5 ≠ b30 := by rw [gb30]; exact Nat.ne_of_lt f32.lt
            have f33 := (sa7.keep K9 nin0)
            have ne_t7_b30 : t7 ≠ b30 := by rw [gb30]; exact Nat.ne_of_lt f33.lt
            have ne_x9_b30 : x9 ≠ b30 := by rw [gb30]; exact Nat.ne_of_lt se9.lt
            have ne_t9_b30 : t9 ≠ b30 := by rw [gb30]; exact Nat.ne_of_lt sa9.lt
            have ge_b30 : n0 ≤ b30 := by rw [gb30]; exact OwnW.oldLe O9
            have K30 := (OwnW.kExt E30)
            have O30 := O9.keep K30 all0
            have Z30 : Keep h0 h30 [] := Z9.trans K30 (fun x hx => nomatch hx)
            have sz_b30 : h0.size ≤ b30 := by rw [gb30]; exact Z9.1
            have F30_label : Fld Z h30 b30 "com/example/formal_model_translator/formalmodeltranslator/classicalb/LabelPragma" "label" "Ljava/lang/String;" .null := D30 (Or.inr (hw _ (List.mem_of_getElem? (i := 83) rfl))) (ty := (.object "java/lang/String")) (by decide)
            have F30_position : Fld Z h30 b30 "com/example/formal_model_translator/formalmodeltranslator/classicalb/LabelPragma" "position" "Lcom/example/formal_model_translator/formalmodeltranslator/model/SourcePosition;" .null := D30 (Or.inr (hw _ (List.mem_of_getElem? (i := 85) rfl))) (ty := (.object "com/example/formal_model_translator/formalmodeltranslator/model/SourcePosition")) (by decide)
            refine OwnW.dup X30 (n := 129) at_128 rfl rfl ?_
            refine OwnW.anull X30 (n := 130) at_129 rfl ?_
            refine OwnW.anull X30 (n := 131) at_130 rfl ?_
            refine OwnW.call_special_n X30 (z := (⟨"com/example/formal_model_translator/formalmodeltranslator/classicalb/LabelPragma", "<init>", "(Ljava/lang/String;Lcom/example/formal_model_translator/formalmodeltranslator/model/SourcePosition;)V"⟩ : MethodName)) (a := b30) (n := 134) at_131 (hw _ (List.mem_of_getElem? (i := 78) rfl)) (hw _ (List.mem_of_getElem? (i := 79) rfl)) (hw _ (List.mem_of_getElem? (i := 80) rfl)) (hw _ (List.mem_of_getElem? (i := 77) rfl)) rfl rfl (by decide) (rmL0 l Z a0 hw hE [] b30  h30 n0 O30 ge_b30 A30 _ F30_label _ F30_position) (OwnW.sfS (List.mem_cons_self ..) OwnW.sf0) (argsL := [.null, .null]) (rest := [(.ref b30)]) rfl rfl (OwnW.lenA pd__Ljava_lang_String_Lcom_example_formal_model_translator_formalmodeltranslator_model_SourcePosition__V rfl) (W := 1) (Nat.le_of_eq rfl) (by decide) (by decide) (by decide) (by decide) rfl ?_
            intro T34 h34 g34 hle34 X34 ⟨k34, f34⟩
            have K34 := k34
            have O34 := O30.keep K34 (allS ge_b30 all0)
            have Z34 : Keep h0 h34 [] := Z30.trans K34 (allS (P := fun x => x ∈ [] ∨ h0.size ≤ x) (Or.inr sz_b30) all0)
            refine OwnW.astore X34 (l' := #[.val (.int p0), .val (.int p1), .val (.int p2), .val (.int p3), .val (.int p4), .val (.int (p0 &&& (3 : Int32))), .val (.int ((((p0.toUInt32 >>> ((2 : Int32) &&& 31).toUInt32).toInt32) &&& (255 : Int32)) % (3 : Int32))), .val (.int c0), .val (.int c1), .val (.ref b2), .val (.ref b5), .val (.ref x9), .val (.ref (own_sel a_IDENTIFIER a_INTEGER a_KEYWORD a_LITERAL a_STRING a_SYMBOL a_END_OF_TEXT a_FAULT (p4 &&& 7))), .val (.ref b30), .unset, .unset]) (n := 136) at_134 rfl rfl rfl ?_
            refine OwnW.goto X34 (n := 151) at_136 (by decide) rfl ?_
            refine OwnW.new X34 (C := "com/example/formal_model_translator/formalmodeltranslator/classicalb/Token") (k := 7) (n := 154) at_151 (hw _ (List.mem_of_getElem? (i := 44) rfl)) (hw _ (List.mem_of_getElem? (i := 45) rfl)) (hw _ (List.mem_of_getElem? (i := 46) rfl)) (by decide) (by decide) rfl ?_
            intro T35 h35 b35 gb35 X35 E35 A35 D35 U35
            have f36 := ((f31.keep K30 nin0).keep K34 (ninS ne_b2_b30 nin0))
            have ne_b2_b35 : b2 ≠ b35 := by rw [gb35]; exact Nat.ne_of_lt f36.lt
            have f37 := ((f32.keep K30).keep K34)
            have ne_b5_b35 : b5 ≠ b35 := by rw [gb35]; exact Nat.ne_of_lt f37.lt
            have f38 := ((f33.keep K30 nin0).keep K34 (ninS ne_t7_b30 nin0))
            have ne_t7_b35 : t7 ≠ b35 := by rw [gb35]; exact Nat.ne_of_lt f38.lt
            have f39 := ((se9.keep K30).keep K34)
            have ne_x9_b35 : x9 ≠ b35 := by rw [gb35]; exact Nat.ne_of_lt f39.lt
            have f40 := ((sa9.keep K30 nin0).keep K34 (ninS ne_t9_b30 nin0))
            have ne_t9_b35 : t9 ≠ b35 := by rw [gb35]; exact Nat.ne_of_lt f40.lt
            have f41 := (A30.keep K34)
            have ne_b30_b35 : b30 ≠ b35 := by rw [gb35]; exact Nat.ne_of_lt f41.lt
            have ge_b35 : n0 ≤ b35 := by rw [gb35]; exact OwnW.oldLe O34
            have K35 := (OwnW.kExt E35)
            have O35 := O34.keep K35 all0
            have Z35 : Keep h0 h35 [] := Z34.trans K35 (fun x hx => nomatch hx)
            have sz_b35 : h0.size ≤ b35 := by rw [gb35]; exact Z34.1
            have F35_kind : Fld Z h35 b35 "com/example/formal_model_translator/formalmodeltranslator/classicalb/Token" "kind" "Lcom/example/formal_model_translator/formalmodeltranslator/classicalb/Token$Kind;" .null := D35 (Or.inr (hw _ (List.mem_of_getElem? (i := 55) rfl))) (ty := (.object "com/example/formal_model_translator/formalmodeltranslator/classicalb/Token$Kind")) (by decide)
            have F35_text : Fld Z h35 b35 "com/example/formal_model_translator/formalmodeltranslator/classicalb/Token" "text" "Ljava/lang/String;" .null := D35 (Or.inr (hw _ (List.mem_of_getElem? (i := 57) rfl))) (ty := (.object "java/lang/String")) (by decide)
            have F35_written : Fld Z h35 b35 "com/example/formal_model_translator/formalmodeltranslator/classicalb/Token" "written" "Ljava/lang/String;" .null := D35 (Or.inr (hw _ (List.mem_of_getElem? (i := 59) rfl))) (ty := (.object "java/lang/String")) (by decide)
            have F35_position : Fld Z h35 b35 "com/example/formal_model_translator/formalmodeltranslator/classicalb/Token" "position" "Lcom/example/formal_model_translator/formalmodeltranslator/model/SourcePosition;" .null := D35 (Or.inr (hw _ (List.mem_of_getElem? (i := 61) rfl))) (ty := (.object "com/example/formal_model_translator/formalmodeltranslator/model/SourcePosition")) (by decide)
            have F35_pragma : Fld Z h35 b35 "com/example/formal_model_translator/formalmodeltranslator/classicalb/Token" "pragma" "Lcom/example/formal_model_translator/formalmodeltranslator/classicalb/LabelPragma;" .null := D35 (Or.inr (hw _ (List.mem_of_getElem? (i := 63) rfl))) (ty := (.object "com/example/formal_model_translator/formalmodeltranslator/classicalb/LabelPragma")) (by decide)
            have F35_opensBody : Fld Z h35 b35 "com/example/formal_model_translator/formalmodeltranslator/classicalb/Token" "opensBody" "Z" (.int (0 : Int32)) := D35 (Or.inr (hw _ (List.mem_of_getElem? (i := 65) rfl))) (ty := .boolean) (by decide)
            have F35_fault : Fld Z h35 b35 "com/example/formal_model_translator/formalmodeltranslator/classicalb/Token" "fault" "Ljava/lang/String;" .null := D35 (Or.inr (hw _ (List.mem_of_getElem? (i := 67) rfl))) (ty := (.object "java/lang/String")) (by decide)
            refine OwnW.dup X35 (n := 155) at_154 rfl rfl ?_
            refine OwnW.aload X35 (n := 157) at_155 rfl rfl rfl ?_
            refine OwnW.aload X35 (n := 159) at_157 rfl rfl rfl ?_
            refine OwnW.anull X35 (n := 160) at_159 rfl ?_
            refine OwnW.aload X35 (n := 162) at_160 rfl rfl rfl ?_
            refine OwnW.call_special_n X35 (z := (⟨"com/example/formal_model_translator/formalmodeltranslator/classicalb/Token", "<init>", "(Lcom/example/formal_model_translator/formalmodeltranslator/classicalb/Token$Kind;Ljava/lang/String;Lcom/example/formal_model_translator/formalmodeltranslator/model/SourcePosition;Lcom/example/formal_model_translator/formalmodeltranslator/classicalb/LabelPragma;)V"⟩ : MethodName)) (a := b35) (n := 165) at_162 (hw _ (List.mem_of_getElem? (i := 47) rfl)) (hw _ (List.mem_of_getElem? (i := 48) rfl)) (hw _ (List.mem_of_getElem? (i := 49) rfl)) (hw _ (List.mem_of_getElem? (i := 46) rfl)) rfl rfl (by decide) (rmT41 l Z a0 hw hE [] b35 (own_sel a_IDENTIFIER a_INTEGER a_KEYWORD a_LITERAL a_STRING a_SYMBOL a_END_OF_TEXT a_FAULT (p4 &&& 7)) x9 b30 h35 n0 O35 ge_b35 A35 _ F35_kind _ F35_text _ F35_written _ F35_position _ F35_pragma _ F35_opensBody _ F35_fault) (OwnW.sfS (List.mem_cons_self ..) OwnW.sf0) (argsL := [(.ref (own_sel a_IDENTIFIER a_INTEGER a_KEYWORD a_LITERAL a_STRING a_SYMBOL a_END_OF_TEXT a_FAULT (p4 &&& 7))), (.ref x9), .null, (.ref b30)]) (rest := [(.ref b35)]) rfl rfl (OwnW.lenA pd__Lcom_example_formal_model_translator_formalmodeltranslator_classicalb_Token_Kind_Ljava_lang_String_Lcom_example_formal_model_translator_formalmodeltranslator_model_SourcePosition_Lcom_example_formal_model_translator_formalmodeltranslator_classicalb_LabelPragma__V rfl) (W := 1) (Nat.le_of_eq rfl) (by decide) (by decide) (by decide) (by decide) rfl ?_
            intro T42 h42 g42 hle42 X42 ⟨k42, f42⟩
            have K42 := k42
            have O42 := O35.keep K42 (allS ge_b35 all0)
            have Z42 : Keep h0 h42 [] := Z35.trans K42 (allS (P := fun x => x ∈ [] ∨ h0.size ≤ x) (Or.inr sz_b35) all0)
            refine OwnW.astore X42 (l' := #[.val (.int p0), .val (.int p1), .val (.int p2), .val (.int p3), .val (.int p4), .val (.int (p0 &&& (3 : Int32))), .val (.int ((((p0.toUInt32 >>> ((2 : Int32) &&& 31).toUInt32).toInt32) &&& (255 : Int32)) % (3 : Int32))), .val (.int c0), .val (.int c1), .val (.ref b2), .val (.ref b5), .val (.ref x9), .val (.ref (own_sel a_IDENTIFIER a_INTEGER a_KEYWORD a_LITERAL a_STRING a_SYMBOL a_END_OF_TEXT a_FAULT (p4 &&& 7))), .val (.ref b30), .val (.ref b35), .unset]) (n := 167) at_165 rfl rfl rfl ?_
            refine OwnW.aload X42 (n := 169) at_167 rfl rfl rfl ?_
            have f43 := ((f41.keep K35).keep K42)
            have f44 := ((f34.keep K35 nin0).keep K42 (ninS ne_b30_b35 nin0))
            have f46 := (A35.keep K42)
            refine OwnW.call_virtual_v X42 (z := (⟨"com/example/formal_model_translator/formalmodeltranslator/classicalb/Token", "getLabel", "()Ljava/lang/String;"⟩ : MethodName)) (yv := (⟨"com/example/formal_model_translator/formalmodeltranslator/classicalb/Token", "getLabel", "()Ljava/lang/String;"⟩ : MethodName)) (a := b35) (C := "com/example/formal_model_translator/formalmodeltranslator/classicalb/Token") (n := 172) at_169 (hw _ (List.mem_of_getElem? (i := 68) rfl)) (hw _ (List.mem_of_getElem? (i := 69) rfl)) (hw _ (List.mem_of_getElem? (i := 70) rfl)) (hw _ (List.mem_of_getElem? (i := 71) rfl)) (fun hz => notFace_of_selects (args := #[]) (mvT hz (hw _ (List.mem_of_getElem? (i := 71) rfl)))) (hw _ (List.mem_of_getElem? (i := 72) rfl)) (hw _ (List.mem_of_getElem? (i := 46) rfl)) (by decide) f46 (rmH1 l Z a0 hw hE [] b35 h42 n0 b30 f42 f43 f44) OwnW.sf0 (argsL := []) (rest := []) rfl rfl (OwnW.lenA pd___Ljava_lang_String_ rfl) (W := 0) (Nat.le_of_eq rfl) (by decide) (by decide) (by decide) (by decide) rfl ?_
            intro T45 h45 w45 g45 hle45 X45 ⟨q1, q2⟩
            subst q1 q2
            refine OwnW.astore X45 (l' := #[.val (.int p0), .val (.int p1), .val (.int p2), .val (.int p3), .val (.int p4), .val (.int (p0 &&& (3 : Int32))), .val (.int ((((p0.toUInt32 >>> ((2 : Int32) &&& 31).toUInt32).toInt32) &&& (255 : Int32)) % (3 : Int32))), .val (.int c0), .val (.int c1), .val (.ref b2), .val (.ref b5), .val (.ref x9), .val (.ref (own_sel a_IDENTIFIER a_INTEGER a_KEYWORD a_LITERAL a_STRING a_SYMBOL a_END_OF_TEXT a_FAULT (p4 &&& 7))), .val (.ref b30), .val (.ref b35), .val .null]) (n := 174) at_172 rfl rfl rfl ?_
            refine OwnW.iload X45 (n := 176) at_174 rfl rfl ?_
            refine OwnW.if_eq X45  (n1 := 185) (n2 := 179) at_176 (by decide) rfl rfl (fun q => absurd q (hc110 : ¬ (p0 &&& (3 : Int32)) = 0)) (fun _ => ?_)
            refine OwnW.iload X45 (n := 181) at_179 rfl rfl ?_
            refine OwnW.iconst X45 (z := (1 : Int32)) (n := 182) at_181 rfl rfl ?_
            refine OwnW.ic_ne X45  (n1 := 196) (n2 := 185) at_182 (by decide) rfl rfl (fun q => absurd (hc122 : (p0 &&& (3 : Int32)) = (1 : Int32)) q) (fun _ => ?_)
            refine OwnW.aload X45 (n := 187) at_185 rfl rfl rfl ?_
            refine OwnW.ifnonnull_n X45 (n2 := 190) at_187 rfl ?_
            refine OwnW.iconst X45 (z := (1 : Int32)) (n := 191) at_190 rfl rfl ?_
            refine OwnW.goto X45 (n := 195) at_191 (by decide) rfl ?_
            exact OwnW.ireturn X45 rfl (Or.inr (Or.inl rfl)) rfl at_195 rfl (by decide) (by decide)
        · refine OwnW.anull X10 (n := 114) at_113 rfl ?_
          refine OwnW.astore X10 (l' := #[.val (.int p0), .val (.int p1), .val (.int p2), .val (.int p3), .val (.int p4), .val (.int (p0 &&& (3 : Int32))), .val (.int ((((p0.toUInt32 >>> ((2 : Int32) &&& 31).toUInt32).toInt32) &&& (255 : Int32)) % (3 : Int32))), .val (.int c0), .val (.int c1), .val (.ref b2), .val (.ref b5), .val (.ref x9), .val (.ref (own_sel a_IDENTIFIER a_INTEGER a_KEYWORD a_LITERAL a_STRING a_SYMBOL a_END_OF_TEXT a_FAULT (p4 &&& 7))), .val .null, .unset, .unset]) (n := 116) at_114 rfl rfl rfl ?_
          refine OwnW.goto X10 (n := 151) at_116 (by decide) rfl ?_
          refine OwnW.new X10 (C := "com/example/formal_model_translator/formalmodeltranslator/classicalb/Token") (k := 7) (n := 154) at_151 (hw _ (List.mem_of_getElem? (i := 44) rfl)) (hw _ (List.mem_of_getElem? (i := 45) rfl)) (hw _ (List.mem_of_getElem? (i := 46) rfl)) (by decide) (by decide) rfl ?_
          intro T47 h47 b47 gb47 X47 E47 A47 D47 U47
          have f48 := (f8.keep K9 nin0)
          have ne_b2_b47 : b2 ≠ b47 := by rw [gb47]; exact Nat.ne_of_lt f48.lt
          have f49 := (se7.keep K9)
          have ne_b5_b47 : b5 ≠ b47 := by rw [gb47]; exact Nat.ne_of_lt f49.lt
          have f50 := (sa7.keep K9 nin0)
          have ne_t7_b47 : t7 ≠ b47 := by rw [gb47]; exact Nat.ne_of_lt f50.lt
          have ne_x9_b47 : x9 ≠ b47 := by rw [gb47]; exact Nat.ne_of_lt se9.lt
          have ne_t9_b47 : t9 ≠ b47 := by rw [gb47]; exact Nat.ne_of_lt sa9.lt
          have ge_b47 : n0 ≤ b47 := by rw [gb47]; exact OwnW.oldLe O9
          have K47 := (OwnW.kExt E47)
          have O47 := O9.keep K47 all0
          have Z47 : Keep h0 h47 [] := Z9.trans K47 (fun x hx => nomatch hx)
          have sz_b47 : h0.size ≤ b47 := by rw [gb47]; exact Z9.1
          have F47_kind : Fld Z h47 b47 "com/example/formal_model_translator/formalmodeltranslator/classicalb/Token" "kind" "Lcom/example/formal_model_translator/formalmodeltranslator/classicalb/Token$Kind;" .null := D47 (Or.inr (hw _ (List.mem_of_getElem? (i := 55) rfl))) (ty := (.object "com/example/formal_model_translator/formalmodeltranslator/classicalb/Token$Kind")) (by decide)
          have F47_text : Fld Z h47 b47 "com/example/formal_model_translator/formalmodeltranslator/classicalb/Token" "text" "Ljava/lang/String;" .null := D47 (Or.inr (hw _ (List.mem_of_getElem? (i := 57) rfl))) (ty := (.object "java/lang/String")) (by decide)
          have F47_written : Fld Z h47 b47 "com/example/formal_model_translator/formalmodeltranslator/classicalb/Token" "written" "Ljava/lang/String;" .null := D47 (Or.inr (hw _ (List.mem_of_getElem? (i := 59) rfl))) (ty := (.object "java/lang/String")) (by decide)
          have F47_position : Fld Z h47 b47 "com/example/formal_model_translator/formalmodeltranslator/classicalb/Token" "position" "Lcom/example/formal_model_translator/formalmodeltranslator/model/SourcePosition;" .null := D47 (Or.inr (hw _ (List.mem_of_getElem? (i := 61) rfl))) (ty := (.object "com/example/formal_model_translator/formalmodeltranslator/model/SourcePosition")) (by decide)
          have F47_pragma : Fld Z h47 b47 "com/example/formal_model_translator/formalmodeltranslator/classicalb/Token" "pragma" "Lcom/example/formal_model_translator/formalmodeltranslator/classicalb/LabelPragma;" .null := D47 (Or.inr (hw _ (List.mem_of_getElem? (i := 63) rfl))) (ty := (.object "com/example/formal_model_translator/formalmodeltranslator/classicalb/LabelPragma")) (by decide)
          have F47_opensBody : Fld Z h47 b47 "com/example/formal_model_translator/formalmodeltranslator/classicalb/Token" "opensBody" "Z" (.int (0 : Int32)) := D47 (Or.inr (hw _ (List.mem_of_getElem? (i := 65) rfl))) (ty := .boolean) (by decide)
          have F47_fault : Fld Z h47 b47 "com/example/formal_model_translator/formalmodeltranslator/classicalb/Token" "fault" "Ljava/lang/String;" .null := D47 (Or.inr (hw _ (List.mem_of_getElem? (i := 67) rfl))) (ty := (.object "java/lang/String")) (by decide)
          refine OwnW.dup X47 (n := 155) at_154 rfl rfl ?_
          refine OwnW.aload X47 (n := 157) at_155 rfl rfl rfl ?_
          refine OwnW.aload X47 (n := 159) at_157 rfl rfl rfl ?_
          refine OwnW.anull X47 (n := 160) at_159 rfl ?_
          refine OwnW.aload X47 (n := 162) at_160 rfl rfl rfl ?_
          refine OwnW.call_special_n X47 (z := (⟨"com/example/formal_model_translator/formalmodeltranslator/classicalb/Token", "<init>", "(Lcom/example/formal_model_translator/formalmodeltranslator/classicalb/Token$Kind;Ljava/lang/String;Lcom/example/formal_model_translator/formalmodeltranslator/model/SourcePosition;Lcom/example/formal_model_translator/formalmodeltranslator/classicalb/LabelPragma;)V"⟩ : MethodName)) (a := b47) (n := 165) at_162 (hw _ (List.mem_of_getElem? (i := 47) rfl)) (hw _ (List.mem_of_getElem? (i := 48) rfl)) (hw _ (List.mem_of_getElem? (i := 49) rfl)) (hw _ (List.mem_of_getElem? (i := 46) rfl)) rfl rfl (by decide) (rmT40 l Z a0 hw hE [] b47 (own_sel a_IDENTIFIER a_INTEGER a_KEYWORD a_LITERAL a_STRING a_SYMBOL a_END_OF_TEXT a_FAULT (p4 &&& 7)) x9 h47 n0 O47 ge_b47 A47 _ F47_kind _ F47_text _ F47_written _ F47_position _ F47_pragma _ F47_opensBody _ F47_fault) (OwnW.sfS (List.mem_cons_self ..) OwnW.sf0) (argsL := [(.ref (own_sel a_IDENTIFIER a_INTEGER a_KEYWORD a_LITERAL a_STRING a_SYMBOL a_END_OF_TEXT a_FAULT (p4 &&& 7))), (.ref x9), .null, .null]) (rest := [(.ref b47)]) rfl rfl (OwnW.lenA pd__Lcom_example_formal_model_translator_formalmodeltranslator_classicalb_Token_Kind_Ljava_lang_String_Lcom_example_formal_model_translator_formalmodeltranslator_model_SourcePosition_Lcom_example_formal_model_translator_formalmodeltranslator_classicalb_LabelPragma__V rfl) (W := 1) (Nat.le_of_eq rfl) (by decide) (by decide) (by decide) (by decide) rfl ?_
          intro T51 h51 g51 hle51 X51 ⟨k51, f51⟩
          have K51 := k51
          have O51 := O47.keep K51 (allS ge_b47 all0)
          have Z51 : Keep h0 h51 [] := Z47.trans K51 (allS (P := fun x => x ∈ [] ∨ h0.size ≤ x) (Or.inr sz_b47) all0)
          refine OwnW.astore X51 (l' := #[.val (.int p0), .val (.int p1), .val (.int p2), .val (.int p3), .val (.int p4), .val (.int (p0 &&& (3 : Int32))), .val (.int ((((p0.toUInt32 >>> ((2 : Int32) &&& 31).toUInt32).toInt32) &&& (255 : Int32)) % (3 : Int32))), .val (.int c0), .val (.int c1), .val (.ref b2), .val (.ref b5), .val (.ref x9), .val (.ref (own_sel a_IDENTIFIER a_INTEGER a_KEYWORD a_LITERAL a_STRING a_SYMBOL a_END_OF_TEXT a_FAULT (p4 &&& 7))), .val .null, .val (.ref b47), .unset]) (n := 167) at_165 rfl rfl rfl ?_
          refine OwnW.aload X51 (n := 169) at_167 rfl rfl rfl ?_
          have f53 := (A47.keep K51)
          refine OwnW.call_virtual_v X51 (z := (⟨"com/example/formal_model_translator/formalmodeltranslator/classicalb/Token", "getLabel", "()Ljava/lang/String;"⟩ : MethodName)) (yv := (⟨"com/example/formal_model_translator/formalmodeltranslator/classicalb/Token", "getLabel", "()Ljava/lang/String;"⟩ : MethodName)) (a := b47) (C := "com/example/formal_model_translator/formalmodeltranslator/classicalb/Token") (n := 172) at_169 (hw _ (List.mem_of_getElem? (i := 68) rfl)) (hw _ (List.mem_of_getElem? (i := 69) rfl)) (hw _ (List.mem_of_getElem? (i := 70) rfl)) (hw _ (List.mem_of_getElem? (i := 71) rfl)) (fun hz => notFace_of_selects (args := #[]) (mvT hz (hw _ (List.mem_of_getElem? (i := 71) rfl)))) (hw _ (List.mem_of_getElem? (i := 72) rfl)) (hw _ (List.mem_of_getElem? (i := 46) rfl)) (by decide) f53 (rmH0 l Z a0 hw hE [] b47 h51 n0 f51) OwnW.sf0 (argsL := []) (rest := []) rfl rfl (OwnW.lenA pd___Ljava_lang_String_ rfl) (W := 0) (Nat.le_of_eq rfl) (by decide) (by decide) (by decide) (by decide) rfl ?_
          intro T52 h52 w52 g52 hle52 X52 ⟨q1, q2⟩
          subst q1 q2
          refine OwnW.astore X52 (l' := #[.val (.int p0), .val (.int p1), .val (.int p2), .val (.int p3), .val (.int p4), .val (.int (p0 &&& (3 : Int32))), .val (.int ((((p0.toUInt32 >>> ((2 : Int32) &&& 31).toUInt32).toInt32) &&& (255 : Int32)) % (3 : Int32))), .val (.int c0), .val (.int c1), .val (.ref b2), .val (.ref b5), .val (.ref x9), .val (.ref (own_sel a_IDENTIFIER a_INTEGER a_KEYWORD a_LITERAL a_STRING a_SYMBOL a_END_OF_TEXT a_FAULT (p4 &&& 7))), .val .null, .val (.ref b47), .val .null]) (n := 174) at_172 rfl rfl rfl ?_
          refine OwnW.iload X52 (n := 176) at_174 rfl rfl ?_
          refine OwnW.if_eq X52  (n1 := 185) (n2 := 179) at_176 (by decide) rfl rfl (fun _ => ?_) (fun q => absurd (hc110 : (p0 &&& (3 : Int32)) = 0) q)
          refine OwnW.aload X52 (n := 187) at_185 rfl rfl rfl ?_
          refine OwnW.ifnonnull_n X52 (n2 := 190) at_187 rfl ?_
          refine OwnW.iconst X52 (z := (1 : Int32)) (n := 191) at_190 rfl rfl ?_
          refine OwnW.goto X52 (n := 195) at_191 (by decide) rfl ?_
          exact OwnW.ireturn X52 rfl (Or.inr (Or.inl rfl)) rfl at_195 rfl (by decide) (by decide)
      · refine OwnW.iconst X1 (z := (1 : Int32)) (n := 52) at_51 rfl rfl ?_
        refine OwnW.newarray X1 (len := 1) (cap := 1) (n := 54) at_52 (hw _ (List.mem_of_getElem? (i := 0) rfl)) rfl (by decide) (by decide) (by decide) (by decide) rfl ?_
        intro T54 h54 b54 gb54 X54 E54 A54
        have ge_b54 : n0 ≤ b54 := by rw [gb54]; exact OwnW.oldLe O0
        have K54 := (OwnW.kExt E54)
        have O54 := O0.keep K54 all0
        have Z54 : Keep h0 h54 [] := Z0.trans K54 (fun x hx => nomatch hx)
        have sz_b54 : h0.size ≤ b54 := by rw [gb54]; exact Z0.1
        replace A54 : Ark Z h54 b54 .char [(.int (0 : Int32))] := A54
        refine OwnW.dup X54 (n := 55) at_54 rfl rfl ?_
        refine OwnW.iconst X54 (z := (0 : Int32)) (n := 56) at_55 rfl rfl ?_
        refine OwnW.iload X54 (n := 58) at_56 rfl rfl ?_
        refine OwnW.castore X54 (i := 0) (z := c0) (n := 59) at_58 A54 rfl (Nat.le_of_ble_eq_true rfl) (own_narC hb0.1 hb0.2) ge_b54 (List.mem_cons_self ..) rfl ?_
        intro T55 h55 X55 W55 A55
        have K55 := (Keep.of_wr W55)
        have O55 := O54.keep K55 (allS ge_b54 all0)
        have Z55 : Keep h0 h55 [] := Z54.trans K55 (allS (P := fun x => x ∈ [] ∨ h0.size ≤ x) (Or.inr sz_b54) all0)
        replace A55 : Ark Z h55 b54 .char [(.int c0)] := A55
        refine OwnW.astore X55 (l' := #[.val (.int p0), .val (.int p1), .val (.int p2), .val (.int p3), .val (.int p4), .val (.int (p0 &&& (3 : Int32))), .val (.int ((((p0.toUInt32 >>> ((2 : Int32) &&& 31).toUInt32).toInt32) &&& (255 : Int32)) % (3 : Int32))), .val (.int c0), .val (.int c1), .val (.ref b54), .unset, .unset, .unset, .unset, .unset, .unset]) (n := 61) at_59 rfl rfl rfl ?_
        refine OwnW.goto X55 (n := 79) at_61 (by decide) rfl ?_
        refine OwnW.new X55 (C := "java/lang/String") (k := 4) (n := 82) at_79 (hw _ (List.mem_of_getElem? (i := 1) rfl)) (hw _ (List.mem_of_getElem? (i := 2) rfl)) (hw _ (List.mem_of_getElem? (i := 3) rfl)) (by decide) (by decide) rfl ?_
        intro T56 h56 b56 gb56 X56 E56 A56 D56 U56
        have ne_b54_b56 : b54 ≠ b56 := by rw [gb56]; exact Nat.ne_of_lt A55.lt
        have ge_b56 : n0 ≤ b56 := by rw [gb56]; exact OwnW.oldLe O55
        have K56 := (OwnW.kExt E56)
        have O56 := O55.keep K56 all0
        have Z56 : Keep h0 h56 [] := Z55.trans K56 (fun x hx => nomatch hx)
        have sz_b56 : h0.size ≤ b56 := by rw [gb56]; exact Z55.1
        have F56_value : Fld Z h56 b56 "java/lang/String" "value" "[B" .null := D56 (Or.inr (hw _ (List.mem_of_getElem? (i := 16) rfl))) (ty := (.array .byte)) (by decide)
        have F56_coder : Fld Z h56 b56 "java/lang/String" "coder" "B" (.int (0 : Int32)) := D56 (Or.inr (hw _ (List.mem_of_getElem? (i := 17) rfl))) (ty := .byte) (by decide)
        refine OwnW.dup X56 (n := 83) at_82 rfl rfl ?_
        refine OwnW.aload X56 (n := 85) at_83 rfl rfl rfl ?_
        have f57 := (A55.keep K56 nin0)
        refine OwnW.call_special_n X56 (z := (⟨"java/lang/String", "<init>", "([C)V"⟩ : MethodName)) (a := b56) (n := 88) at_85 (hw _ (List.mem_of_getElem? (i := 4) rfl)) (hw _ (List.mem_of_getElem? (i := 5) rfl)) (hw _ (List.mem_of_getElem? (i := 6) rfl)) (hw _ (List.mem_of_getElem? (i := 3) rfl)) rfl rfl (by decide) (rm1 l Z a0 hw hE [] b56 b54 h56 n0 O56 ge_b56 A56 _ _ F56_value F56_coder ([c0] : List Int32) (own_aS hb0.2 own_a0) (by simp) (by simp) f57 (Ne.symm ne_b54_b56) zc hzc S_compact) (OwnW.sfS (List.mem_cons_self ..) OwnW.sf0) (argsL := [(.ref b54)]) (rest := [(.ref b56)]) rfl rfl (OwnW.lenA pd___C_V rfl) (W := 1) (Nat.le_of_eq rfl) (by decide) (by decide) (by decide) (by decide) rfl ?_
        intro T58 h58 g58 hle58 X58 ⟨k58, t58, z58, S58⟩
        obtain ⟨se58, sc58, sv58, sa58⟩ := S58
        have K58 := k58
        have O58 := O56.keep K58 (allS ge_b56 all0)
        have Z58 : Keep h0 h58 [] := Z56.trans K58 (allS (P := fun x => x ∈ [] ∨ h0.size ≤ x) (Or.inr sz_b56) all0)
        have ne_b54_t58 : b54 ≠ t58 := Nat.ne_of_lt (Nat.lt_of_lt_of_le f57.lt z58)
        have ne_b56_t58 : b56 ≠ t58 := Nat.ne_of_lt (Nat.lt_of_lt_of_le A56.lt z58)
        have zz58 : h0.size ≤ t58 := Nat.le_trans Z56.1 z58
        refine OwnW.astore X58 (l' := #[.val (.int p0), .val (.int p1), .val (.int p2), .val (.int p3), .val (.int p4), .val (.int (p0 &&& (3 : Int32))), .val (.int ((((p0.toUInt32 >>> ((2 : Int32) &&& 31).toUInt32).toInt32) &&& (255 : Int32)) % (3 : Int32))), .val (.int c0), .val (.int c1), .val (.ref b54), .val (.ref b56), .unset, .unset, .unset, .unset, .unset]) (n := 90) at_88 rfl rfl rfl ?_
        refine OwnW.iloadN X58 (n := 91) at_90 rfl rfl ?_
        refine OwnW.sipush X58 (z := (255 : Int32)) (n := 94) at_91 rfl rfl ?_
        refine OwnW.iand X58 (n := 95) at_94 rfl ?_
        refine OwnW.i2c X58 (n := 96) at_95 rfl ?_
        have f59 := (f57.keep K58 (ninS ne_b54_b56 nin0))
        refine OwnW.call_static_v X58 (z := (⟨"java/lang/String", "valueOf", "(C)Ljava/lang/String;"⟩ : MethodName)) (n := 99) at_96 (hw _ (List.mem_of_getElem? (i := 22) rfl)) (hw _ (List.mem_of_getElem? (i := 23) rfl)) (hw _ (List.mem_of_getElem? (i := 24) rfl)) (hw _ (List.mem_of_getElem? (i := 3) rfl)) (by decide) (rm4 l Z a0 hw hE [] ((p3 &&& (255 : Int32)).toUInt32.toUInt16.toUInt32.toInt32) h58 n0 O58 (own_255 p3).2 zc hzc S_compact) OwnW.sf0 (argsL := [(.int ((p3 &&& (255 : Int32)).toUInt32.toUInt16.toUInt32.toInt32))]) (rest := []) rfl rfl (OwnW.lenA pd__C_Ljava_lang_String_ rfl) (W := 0) (Nat.le_of_eq rfl) (by decide) (by decide) (by decide) (by decide) rfl ?_
        intro T60 h60 w60 g60 hle60 X60 ⟨x60, t60, q1, k60, y60, z60, S60⟩
        subst q1
        obtain ⟨se60, sc60, sv60, sa60⟩ := S60
        have ne_b54_x60 : b54 ≠ x60 := Nat.ne_of_lt (Nat.lt_of_lt_of_le f59.lt y60)
        have ne_b54_t60 : b54 ≠ t60 := Nat.ne_of_lt (Nat.lt_of_lt_of_le f59.lt z60)
        have ne_b56_x60 : b56 ≠ x60 := Nat.ne_of_lt (Nat.lt_of_lt_of_le se58.lt y60)
        have ne_b56_t60 : b56 ≠ t60 := Nat.ne_of_lt (Nat.lt_of_lt_of_le se58.lt z60)
        have ne_t58_x60 : t58 ≠ x60 := Nat.ne_of_lt (Nat.lt_of_lt_of_le sa58.lt y60)
        have ne_t58_t60 : t58 ≠ t60 := Nat.ne_of_lt (Nat.lt_of_lt_of_le sa58.lt z60)
        have K60 := k60
        have O60 := O58.keep K60 all0
        have Z60 : Keep h0 h60 [] := Z58.trans K60 (fun x hx => nomatch hx)
        refine OwnW.astore X60 (l' := #[.val (.int p0), .val (.int p1), .val (.int p2), .val (.int p3), .val (.int p4), .val (.int (p0 &&& (3 : Int32))), .val (.int ((((p0.toUInt32 >>> ((2 : Int32) &&& 31).toUInt32).toInt32) &&& (255 : Int32)) % (3 : Int32))), .val (.int c0), .val (.int c1), .val (.ref b54), .val (.ref b56), .val (.ref x60), .unset, .unset, .unset, .unset]) (n := 101) at_99 rfl rfl rfl ?_
        refine OwnW.iload X60 (n := 103) at_101 rfl rfl ?_
        refine OwnW.call_static_v X60 (z := (⟨"com/example/formal_model_translator/formalmodeltranslator/classicalb/TokenGetLabelPinLaw", "kindOf", "(I)Lcom/example/formal_model_translator/formalmodeltranslator/classicalb/Token$Kind;"⟩ : MethodName)) (n := 106) at_103 (hw _ (List.mem_of_getElem? (i := 37) rfl)) (hw _ (List.mem_of_getElem? (i := 38) rfl)) (hw _ (List.mem_of_getElem? (i := 40) rfl)) (hw _ (List.mem_of_getElem? (i := 39) rfl)) (by decide) (rm8 l Z a0 hw hE [] p4 h60 n0 O60 a_IDENTIFIER S_IDENTIFIER E_IDENTIFIER a_FAULT S_FAULT E_FAULT a_INTEGER S_INTEGER E_INTEGER a_LITERAL S_LITERAL E_LITERAL a_SYMBOL S_SYMBOL E_SYMBOL a_STRING S_STRING E_STRING a_END_OF_TEXT S_END_OF_TEXT E_END_OF_TEXT a_KEYWORD S_KEYWORD E_KEYWORD) OwnW.sf0 (argsL := [(.int p4)]) (rest := []) rfl rfl (OwnW.lenA pd__I_Lcom_example_formal_model_translator_formalmodeltranslator_classicalb_Token_Kind_ rfl) (W := 0) (Nat.le_of_eq rfl) (by decide) (by decide) (by decide) (by decide) rfl ?_
        intro T61 h61 w61 g61 hle61 X61 ⟨q1, q2⟩
        subst q1 q2
        refine OwnW.astore X61 (l' := #[.val (.int p0), .val (.int p1), .val (.int p2), .val (.int p3), .val (.int p4), .val (.int (p0 &&& (3 : Int32))), .val (.int ((((p0.toUInt32 >>> ((2 : Int32) &&& 31).toUInt32).toInt32) &&& (255 : Int32)) % (3 : Int32))), .val (.int c0), .val (.int c1), .val (.ref b54), .val (.ref b56), .val (.ref x60), .val (.ref (own_sel a_IDENTIFIER a_INTEGER a_KEYWORD a_LITERAL a_STRING a_SYMBOL a_END_OF_TEXT a_FAULT (p4 &&& 7))), .unset, .unset, .unset]) (n := 108) at_106 rfl rfl rfl ?_
        refine OwnW.iload X61 (n := 110) at_108 rfl rfl ?_
        refine OwnW.if_ne X61  (n1 := 119) (n2 := 113) at_110 (by decide) rfl rfl (fun hc110 => ?_) (fun hc110 => ?_)
        · refine OwnW.iload X61 (n := 121) at_119 rfl rfl ?_
          refine OwnW.iconst X61 (z := (1 : Int32)) (n := 122) at_121 rfl rfl ?_
          refine OwnW.ic_ne X61  (n1 := 139) (n2 := 125) at_122 (by decide) rfl rfl (fun hc122 => ?_) (fun hc122 => ?_)
          · refine OwnW.new X61 (C := "com/example/formal_model_translator/formalmodeltranslator/classicalb/LabelPragma") (k := 2) (n := 142) at_139 (hw _ (List.mem_of_getElem? (i := 75) rfl)) (hw _ (List.mem_of_getElem? (i := 76) rfl)) (hw _ (List.mem_of_getElem? (i := 77) rfl)) (by decide) (by decide) rfl ?_
            intro T62 h62 b62 gb62 X62 E62 A62 D62 U62
            have f63 := (f59.keep K60 nin0)
            have ne_b54_b62 : b54 ≠ b62 := by rw [gb62]; exact Nat.ne_of_lt f63.lt
            have f64 := (se58.keep K60)
            have ne_b56_b62 : b56 ≠ b62 := by rw [gb62]; exact Nat.ne_of_lt f64.lt
            have f65 := (sa58.keep K60 nin0)
            have ne_t58_b62 : t58 ≠ b62 := by rw [gb62]; exact Nat.ne_of_lt f65.lt
            have ne_x60_b62 : x60 ≠ b62 := by rw [gb62]; exact Nat.ne_of_lt se60.lt
            have ne_t60_b62 : t60 ≠ b62 := by rw [gb62]; exact Nat.ne_of_lt sa60.lt
            have ge_b62 : n0 ≤ b62 := by rw [gb62]; exact OwnW.oldLe O60
            have K62 := (OwnW.kExt E62)
            have O62 := O60.keep K62 all0
            have Z62 : Keep h0 h62 [] := Z60.trans K62 (fun x hx => nomatch hx)
            have sz_b62 : h0.size ≤ b62 := by rw [gb62]; exact Z60.1
            have F62_label : Fld Z h62 b62 "com/example/formal_model_translator/formalmodeltranslator/classicalb/LabelPragma" "label" "Ljava/lang/String;" .null := D62 (Or.inr (hw _ (List.mem_of_getElem? (i := 83) rfl))) (ty := (.object "java/lang/String")) (by decide)
            have F62_position : Fld Z h62 b62 "com/example/formal_model_translator/formalmodeltranslator/classicalb/LabelPragma" "position" "Lcom/example/formal_model_translator/formalmodeltranslator/model/SourcePosition;" .null := D62 (Or.inr (hw _ (List.mem_of_getElem? (i := 85) rfl))) (ty := (.object "com/example/formal_model_translator/formalmodeltranslator/model/SourcePosition")) (by decide)
            refine OwnW.dup X62 (n := 143) at_142 rfl rfl ?_
            refine OwnW.aload X62 (n := 145) at_143 rfl rfl rfl ?_
            refine OwnW.anull X62 (n := 146) at_145 rfl ?_
            refine OwnW.call_special_n X62 (z := (⟨"com/example/formal_model_translator/formalmodeltranslator/classicalb/LabelPragma", "<init>", "(Ljava/lang/String;Lcom/example/formal_model_translator/formalmodeltranslator/model/SourcePosition;)V"⟩ : MethodName)) (a := b62) (n := 149) at_146 (hw _ (List.mem_of_getElem? (i := 78) rfl)) (hw _ (List.mem_of_getElem? (i := 79) rfl)) (hw _ (List.mem_of_getElem? (i := 80) rfl)) (hw _ (List.mem_of_getElem? (i := 77) rfl)) rfl rfl (by decide) (rmL1 l Z a0 hw hE [] b62 b56 h62 n0 O62 ge_b62 A62 _ F62_label _ F62_position) (OwnW.sfS (List.mem_cons_self ..) OwnW.sf0) (argsL := [(.ref b56), .null]) (rest := [(.ref b62)]) rfl rfl (OwnW.lenA pd__Ljava_lang_String_Lcom_example_formal_model_translator_formalmodeltranslator_model_SourcePosition__V rfl) (W := 1) (Nat.le_of_eq rfl) (by decide) (by decide) (by decide) (by decide) rfl ?_
            intro T66 h66 g66 hle66 X66 ⟨k66, f66⟩
            have K66 := k66
            have O66 := O62.keep K66 (allS ge_b62 all0)
            have Z66 : Keep h0 h66 [] := Z62.trans K66 (allS (P := fun x => x ∈ [] ∨ h0.size ≤ x) (Or.inr sz_b62) all0)
            refine OwnW.astore X66 (l' := #[.val (.int p0), .val (.int p1), .val (.int p2), .val (.int p3), .val (.int p4), .val (.int (p0 &&& (3 : Int32))), .val (.int ((((p0.toUInt32 >>> ((2 : Int32) &&& 31).toUInt32).toInt32) &&& (255 : Int32)) % (3 : Int32))), .val (.int c0), .val (.int c1), .val (.ref b54), .val (.ref b56), .val (.ref x60), .val (.ref (own_sel a_IDENTIFIER a_INTEGER a_KEYWORD a_LITERAL a_STRING a_SYMBOL a_END_OF_TEXT a_FAULT (p4 &&& 7))), .val (.ref b62), .unset, .unset]) (n := 151) at_149 rfl rfl rfl ?_
            refine OwnW.new X66 (C := "com/example/formal_model_translator/formalmodeltranslator/classicalb/Token") (k := 7) (n := 154) at_151 (hw _ (List.mem_of_getElem? (i := 44) rfl)) (hw _ (List.mem_of_getElem? (i := 45) rfl)) (hw _ (List.mem_of_getElem? (i := 46) rfl)) (by decide) (by decide) rfl ?_
            intro T67 h67 b67 gb67 X67 E67 A67 D67 U67
            have f68 := ((f63.keep K62 nin0).keep K66 (ninS ne_b54_b62 nin0))
            have ne_b54_b67 : b54 ≠ b67 := by rw [gb67]; exact Nat.ne_of_lt f68.lt
            have f69 := ((f64.keep K62).keep K66)
            have ne_b56_b67 : b56 ≠ b67 := by rw [gb67]; exact Nat.ne_of_lt f69.lt
            have f70 := ((f65.keep K62 nin0).keep K66 (ninS ne_t58_b62 nin0))
            have ne_t58_b67 : t58 ≠ b67 := by rw [gb67]; exact Nat.ne_of_lt f70.lt
            have f71 := ((se60.keep K62).keep K66)
            have ne_x60_b67 : x60 ≠ b67 := by rw [gb67]; exact Nat.ne_of_lt f71.lt
            have f72 := ((sa60.keep K62 nin0).keep K66 (ninS ne_t60_b62 nin0))
            have ne_t60_b67 : t60 ≠ b67 := by rw [gb67]; exact Nat.ne_of_lt f72.lt
            have f73 := (A62.keep K66)
            have ne_b62_b67 : b62 ≠ b67 := by rw [gb67]; exact Nat.ne_of_lt f73.lt
            have ge_b67 : n0 ≤ b67 := by rw [gb67]; exact OwnW.oldLe O66
            have K67 := (OwnW.kExt E67)
            have O67 := O66.keep K67 all0
            have Z67 : Keep h0 h67 [] := Z66.trans K67 (fun x hx => nomatch hx)
            have sz_b67 : h0.size ≤ b67 := by rw [gb67]; exact Z66.1
            have F67_kind : Fld Z h67 b67 "com/example/formal_model_translator/formalmodeltranslator/classicalb/Token" "kind" "Lcom/example/formal_model_translator/formalmodeltranslator/classicalb/Token$Kind;" .null := D67 (Or.inr (hw _ (List.mem_of_getElem? (i := 55) rfl))) (ty := (.object "com/example/formal_model_translator/formalmodeltranslator/classicalb/Token$Kind")) (by decide)
            have F67_text : Fld Z h67 b67 "com/example/formal_model_translator/formalmodeltranslator/classicalb/Token" "text" "Ljava/lang/String;" .null := D67 (Or.inr (hw _ (List.mem_of_getElem? (i := 57) rfl))) (ty := (.object "java/lang/String")) (by decide)
            have F67_written : Fld Z h67 b67 "com/example/formal_model_translator/formalmodeltranslator/classicalb/Token" "written" "Ljava/lang/String;" .null := D67 (Or.inr (hw _ (List.mem_of_getElem? (i := 59) rfl))) (ty := (.object "java/lang/String")) (by decide)
            have F67_position : Fld Z h67 b67 "com/example/formal_model_translator/formalmodeltranslator/classicalb/Token" "position" "Lcom/example/formal_model_translator/formalmodeltranslator/model/SourcePosition;" .null := D67 (Or.inr (hw _ (List.mem_of_getElem? (i := 61) rfl))) (ty := (.object "com/example/formal_model_translator/formalmodeltranslator/model/SourcePosition")) (by decide)
            have F67_pragma : Fld Z h67 b67 "com/example/formal_model_translator/formalmodeltranslator/classicalb/Token" "pragma" "Lcom/example/formal_model_translator/formalmodeltranslator/classicalb/LabelPragma;" .null := D67 (Or.inr (hw _ (List.mem_of_getElem? (i := 63) rfl))) (ty := (.object "com/example/formal_model_translator/formalmodeltranslator/classicalb/LabelPragma")) (by decide)
            have F67_opensBody : Fld Z h67 b67 "com/example/formal_model_translator/formalmodeltranslator/classicalb/Token" "opensBody" "Z" (.int (0 : Int32)) := D67 (Or.inr (hw _ (List.mem_of_getElem? (i := 65) rfl))) (ty := .boolean) (by decide)
            have F67_fault : Fld Z h67 b67 "com/example/formal_model_translator/formalmodeltranslator/classicalb/Token" "fault" "Ljava/lang/String;" .null := D67 (Or.inr (hw _ (List.mem_of_getElem? (i := 67) rfl))) (ty := (.object "java/lang/String")) (by decide)
            refine OwnW.dup X67 (n := 155) at_154 rfl rfl ?_
            refine OwnW.aload X67 (n := 157) at_155 rfl rfl rfl ?_
            refine OwnW.aload X67 (n := 159) at_157 rfl rfl rfl ?_
            refine OwnW.anull X67 (n := 160) at_159 rfl ?_
            refine OwnW.aload X67 (n := 162) at_160 rfl rfl rfl ?_
            refine OwnW.call_special_n X67 (z := (⟨"com/example/formal_model_translator/formalmodeltranslator/classicalb/Token", "<init>", "(Lcom/example/formal_model_translator/formalmodeltranslator/classicalb/Token$Kind;Ljava/lang/String;Lcom/example/formal_model_translator/formalmodeltranslator/model/SourcePosition;Lcom/example/formal_model_translator/formalmodeltranslator/classicalb/LabelPragma;)V"⟩ : MethodName)) (a := b67) (n := 165) at_162 (hw _ (List.mem_of_getElem? (i := 47) rfl)) (hw _ (List.mem_of_getElem? (i := 48) rfl)) (hw _ (List.mem_of_getElem? (i := 49) rfl)) (hw _ (List.mem_of_getElem? (i := 46) rfl)) rfl rfl (by decide) (rmT41 l Z a0 hw hE [] b67 (own_sel a_IDENTIFIER a_INTEGER a_KEYWORD a_LITERAL a_STRING a_SYMBOL a_END_OF_TEXT a_FAULT (p4 &&& 7)) x60 b62 h67 n0 O67 ge_b67 A67 _ F67_kind _ F67_text _ F67_written _ F67_position _ F67_pragma _ F67_opensBody _ F67_fault) (OwnW.sfS (List.mem_cons_self ..) OwnW.sf0) (argsL := [(.ref (own_sel a_IDENTIFIER a_INTEGER a_KEYWORD a_LITERAL a_STRING a_SYMBOL a_END_OF_TEXT a_FAULT (p4 &&& 7))), (.ref x60), .null, (.ref b62)]) (rest := [(.ref b67)]) rfl rfl (OwnW.lenA pd__Lcom_example_formal_model_translator_formalmodeltranslator_classicalb_Token_Kind_Ljava_lang_String_Lcom_example_formal_model_translator_formalmodeltranslator_model_SourcePosition_Lcom_example_formal_model_translator_formalmodeltranslator_classicalb_LabelPragma__V rfl) (W := 1) (Nat.le_of_eq rfl) (by decide) (by decide) (by decide) (by decide) rfl ?_
            intro T74 h74 g74 hle74 X74 ⟨k74, f74⟩
            have K74 := k74
            have O74 := O67.keep K74 (allS ge_b67 all0)
            have Z74 : Keep h0 h74 [] := Z67.trans K74 (allS (P := fun x => x ∈ [] ∨ h0.size ≤ x) (Or.inr sz_b67) all0)
            refine OwnW.astore X74 (l' := #[.val (.int p0), .val (.int p1), .val (.int p2), .val (.int p3), .val (.int p4), .val (.int (p0 &&& (3 : Int32))), .val (.int ((((p0.toUInt32 >>> ((2 : Int32) &&& 31).toUInt32).toInt32) &&& (255 : Int32)) % (3 : Int32))), .val (.int c0), .val (.int c1), .val (.ref b54), .val (.ref b56), .val (.ref x60), .val (.ref (own_sel a_IDENTIFIER a_INTEGER a_KEYWORD a_LITERAL a_STRING a_SYMBOL a_END_OF_TEXT a_FAULT (p4 &&& 7))), .val (.ref b62), .val (.ref b67), .unset]) (n := 167) at_165 rfl rfl rfl ?_
            refine OwnW.aload X74 (n := 169) at_167 rfl rfl rfl ?_
            have f75 := ((f73.keep K67).keep K74)
            have f76 := ((f66.keep K67 nin0).keep K74 (ninS ne_b62_b67 nin0))
            have f78 := (A67.keep K74)
            refine OwnW.call_virtual_v X74 (z := (⟨"com/example/formal_model_translator/formalmodeltranslator/classicalb/Token", "getLabel", "()Ljava/lang/String;"⟩ : MethodName)) (yv := (⟨"com/example/formal_model_translator/formalmodeltranslator/classicalb/Token", "getLabel", "()Ljava/lang/String;"⟩ : MethodName)) (a := b67) (C := "com/example/formal_model_translator/formalmodeltranslator/classicalb/Token") (n := 172) at_169 (hw _ (List.mem_of_getElem? (i := 68) rfl)) (hw _ (List.mem_of_getElem? (i := 69) rfl)) (hw _ (List.mem_of_getElem? (i := 70) rfl)) (hw _ (List.mem_of_getElem? (i := 71) rfl)) (fun hz => notFace_of_selects (args := #[]) (mvT hz (hw _ (List.mem_of_getElem? (i := 71) rfl)))) (hw _ (List.mem_of_getElem? (i := 72) rfl)) (hw _ (List.mem_of_getElem? (i := 46) rfl)) (by decide) f78 (rmH2 l Z a0 hw hE [] b67 h74 n0 b62 f74 f75 _ f76) OwnW.sf0 (argsL := []) (rest := []) rfl rfl (OwnW.lenA pd___Ljava_lang_String_ rfl) (W := 0) (Nat.le_of_eq rfl) (by decide) (by decide) (by decide) (by decide) rfl ?_
            intro T77 h77 w77 g77 hle77 X77 ⟨q1, q2⟩
            subst q1 q2
            refine OwnW.astore X77 (l' := #[.val (.int p0), .val (.int p1), .val (.int p2), .val (.int p3), .val (.int p4), .val (.int (p0 &&& (3 : Int32))), .val (.int ((((p0.toUInt32 >>> ((2 : Int32) &&& 31).toUInt32).toInt32) &&& (255 : Int32)) % (3 : Int32))), .val (.int c0), .val (.int c1), .val (.ref b54), .val (.ref b56), .val (.ref x60), .val (.ref (own_sel a_IDENTIFIER a_INTEGER a_KEYWORD a_LITERAL a_STRING a_SYMBOL a_END_OF_TEXT a_FAULT (p4 &&& 7))), .val (.ref b62), .val (.ref b67), .val (.ref b56)]) (n := 174) at_172 rfl rfl rfl ?_
            refine OwnW.iload X77 (n := 176) at_174 rfl rfl ?_
            refine OwnW.if_eq X77  (n1 := 185) (n2 := 179) at_176 (by decide) rfl rfl (fun q => absurd q (hc110 : ¬ (p0 &&& (3 : Int32)) = 0)) (fun _ => ?_)
            refine OwnW.iload X77 (n := 181) at_179 rfl rfl ?_
            refine OwnW.iconst X77 (z := (1 : Int32)) (n := 182) at_181 rfl rfl ?_
            refine OwnW.ic_ne X77  (n1 := 196) (n2 := 185) at_182 (by decide) rfl rfl (fun _ => ?_) (fun q => absurd q (hc122 : ¬ (p0 &&& (3 : Int32)) = (1 : Int32)))
            refine OwnW.aload X77 (n := 198) at_196 rfl rfl rfl ?_
            refine OwnW.ifnull_n X77 (n2 := 201) at_198 rfl ?_
            refine OwnW.aload X77 (n := 203) at_201 rfl rfl rfl ?_
            refine OwnW.aload X77 (n := 205) at_203 rfl rfl rfl ?_
            have f80 := ((f69.keep K67).keep K74)
            refine OwnW.call_virtual_v X77 (z := (⟨"java/lang/String", "equals", "(Ljava/lang/Object;)Z"⟩ : MethodName)) (yv := (⟨"java/lang/String", "equals", "(Ljava/lang/Object;)Z"⟩ : MethodName)) (a := b56) (C := "java/lang/String") (n := 208) at_205 (hw _ (List.mem_of_getElem? (i := 91) rfl)) (hw _ (List.mem_of_getElem? (i := 92) rfl)) (hw _ (List.mem_of_getElem? (i := 93) rfl)) (hw _ (List.mem_of_getElem? (i := 94) rfl)) (fun hz => notFace_of_selects (args := #[]) (mvT hz (hw _ (List.mem_of_getElem? (i := 94) rfl)))) (hw _ (List.mem_of_getElem? (i := 95) rfl)) (hw _ (List.mem_of_getElem? (i := 3) rfl)) (by decide) f80 (rmS l Z a0 hw hE [] b56 h74 n0) OwnW.sf0 (argsL := [(.ref b56)]) (rest := []) rfl rfl (OwnW.lenA pd__Ljava_lang_Object__Z rfl) (W := 0) (Nat.le_of_eq rfl) (by decide) (by decide) (by decide) (by decide) rfl ?_
            intro T79 h79 w79 g79 hle79 X79 ⟨q1, q2⟩
            subst q1 q2
            refine OwnW.if_eq X79  (n1 := 215) (n2 := 211) at_208 (by decide) rfl rfl (fun q => absurd q ((by decide) : ¬ (1 : Int32) = 0)) (fun _ => ?_)
            refine OwnW.iconst X79 (z := (1 : Int32)) (n := 212) at_211 rfl rfl ?_
            refine OwnW.goto X79 (n := 216) at_212 (by decide) rfl ?_
            exact OwnW.ireturn X79 rfl (Or.inr (Or.inl rfl)) rfl at_216 rfl (by decide) (by decide)
          · refine OwnW.new X61 (C := "com/example/formal_model_translator/formalmodeltranslator/classicalb/LabelPragma") (k := 2) (n := 128) at_125 (hw _ (List.mem_of_getElem? (i := 75) rfl)) (hw _ (List.mem_of_getElem? (i := 76) rfl)) (hw _ (List.mem_of_getElem? (i := 77) rfl)) (by decide) (by decide) rfl ?_
            intro T81 h81 b81 gb81 X81 E81 A81 D81 U81
            have f82 := (f59.keep K60 nin0)
            have ne_b54_b81 : b54 ≠ b81 := by rw [gb81]; exact Nat.ne_of_lt f82.lt
            have f83 := (se58.keep K60)
            have ne_b56_b81 : b56 ≠ b81 := by rw [gb81]; exact Nat.ne_of_lt f83.lt
            have f84 := (sa58.keep K60 nin0)
            have ne_t58_b81 : t58 ≠ b81 := by rw [gb81]; exact Nat.ne_of_lt f84.lt
            have ne_x60_b81 : x60 ≠ b81 := by rw [gb81]; exact Nat.ne_of_lt se60.lt
            have ne_t60_b81 : t60 ≠ b81 := by rw [gb81]; exact Nat.ne_of_lt sa60.lt
            have ge_b81 : n0 ≤ b81 := by rw [gb81]; exact OwnW.oldLe O60
            have K81 := (OwnW.kExt E81)
            have O81 := O60.keep K81 all0
            have Z81 : Keep h0 h81 [] := Z60.trans K81 (fun x hx => nomatch hx)
            have sz_b81 : h0.size ≤ b81 := by rw [gb81]; exact Z60.1
            have F81_label : Fld Z h81 b81 "com/example/formal_model_translator/formalmodeltranslator/classicalb/LabelPragma" "label" "Ljava/lang/String;" .null := D81 (Or.inr (hw _ (List.mem_of_getElem? (i := 83) rfl))) (ty := (.object "java/lang/String")) (by decide)
            have F81_position : Fld Z h81 b81 "com/example/formal_model_translator/formalmodeltranslator/classicalb/LabelPragma" "position" "Lcom/example/formal_model_translator/formalmodeltranslator/model/SourcePosition;" .null := D81 (Or.inr (hw _ (List.mem_of_getElem? (i := 85) rfl))) (ty := (.object "com/example/formal_model_translator/formalmodeltranslator/model/SourcePosition")) (by decide)
            refine OwnW.dup X81 (n := 129) at_128 rfl rfl ?_
            refine OwnW.anull X81 (n := 130) at_129 rfl ?_
            refine OwnW.anull X81 (n := 131) at_130 rfl ?_
            refine OwnW.call_special_n X81 (z := (⟨"com/example/formal_model_translator/formalmodeltranslator/classicalb/LabelPragma", "<init>", "(Ljava/lang/String;Lcom/example/formal_model_translator/formalmodeltranslator/model/SourcePosition;)V"⟩ : MethodName)) (a := b81) (n := 134) at_131 (hw _ (List.mem_of_getElem? (i := 78) rfl)) (hw _ (List.mem_of_getElem? (i := 79) rfl)) (hw _ (List.mem_of_getElem? (i := 80) rfl)) (hw _ (List.mem_of_getElem? (i := 77) rfl)) rfl rfl (by decide) (rmL0 l Z a0 hw hE [] b81  h81 n0 O81 ge_b81 A81 _ F81_label _ F81_position) (OwnW.sfS (List.mem_cons_self ..) OwnW.sf0) (argsL := [.null, .null]) (rest := [(.ref b81)]) rfl rfl (OwnW.lenA pd__Ljava_lang_String_Lcom_example_formal_model_translator_formalmodeltranslator_model_SourcePosition__V rfl) (W := 1) (Nat.le_of_eq rfl) (by decide) (by decide) (by decide) (by decide) rfl ?_
            intro T85 h85 g85 hle85 X85 ⟨k85, f85⟩
            have K85 := k85
            have O85 := O81.keep K85 (allS ge_b81 all0)
            have Z85 : Keep h0 h85 [] := Z81.trans K85 (allS (P := fun x => x ∈ [] ∨ h0.size ≤ x) (Or.inr sz_b81) all0)
            refine OwnW.astore X85 (l' := #[.val (.int p0), .val (.int p1), .val (.int p2), .val (.int p3), .val (.int p4), .val (.int (p0 &&& (3 : Int32))), .val (.int ((((p0.toUInt32 >>> ((2 : Int32) &&& 31).toUInt32).toInt32) &&& (255 : Int32)) % (3 : Int32))), .val (.int c0), .val (.int c1), .val (.ref b54), .val (.ref b56), .val (.ref x60), .val (.ref (own_sel a_IDENTIFIER a_INTEGER a_KEYWORD a_LITERAL a_STRING a_SYMBOL a_END_OF_TEXT a_FAULT (p4 &&& 7))), .val (.ref b81), .unset, .unset]) (n := 136) at_134 rfl rfl rfl ?_
            refine OwnW.goto X85 (n := 151) at_136 (by decide) rfl ?_
            refine OwnW.new X85 (C := "com/example/formal_model_translator/formalmodeltranslator/classicalb/Token") (k := 7) (n := 154) at_151 (hw _ (List.mem_of_getElem? (i := 44) rfl)) (hw _ (List.mem_of_getElem? (i := 45) rfl)) (hw _ (List.mem_of_getElem? (i := 46) rfl)) (by decide) (by decide) rfl ?_
            intro T86 h86 b86 gb86 X86 E86 A86 D86 U86
            have f87 := ((f82.keep K81 nin0).keep K85 (ninS ne_b54_b81 nin0))
            have ne_b54_b86 : b54 ≠ b86 := by rw [gb86]; exact Nat.ne_of_lt f87.lt
            have f88 := ((f83.keep K81).keep K85)
            have ne_b56_b86 : b56 ≠ b86 := by rw [gb86]; exact Nat.ne_of_lt f88.lt
            have f89 := ((f84.keep K81 nin0).keep K85 (ninS ne_t58_b81 nin0))
            have ne_t58_b86 : t58 ≠ b86 := by rw [gb86]; exact Nat.ne_of_lt f89.lt
            have f90 := ((se60.keep K81).keep K85)
            have ne_x60_b86 : x60 ≠ b86 := by rw [gb86]; exact Nat.ne_of_lt f90.lt
            have f91 := ((sa60.keep K81 nin0).keep K85 (ninS ne_t60_b81 nin0))
            have ne_t60_b86 : t60 ≠ b86 := by rw [gb86]; exact Nat.ne_of_lt f91.lt
            have f92 := (A81.keep K85)
            have ne_b81_b86 : b81 ≠ b86 := by rw [gb86]; exact Nat.ne_of_lt f92.lt
            have ge_b86 : n0 ≤ b86 := by rw [gb86]; exact OwnW.oldLe O85
            have K86 := (OwnW.kExt E86)
            have O86 := O85.keep K86 all0
            have Z86 : Keep h0 h86 [] := Z85.trans K86 (fun x hx => nomatch hx)
            have sz_b86 : h0.size ≤ b86 := by rw [gb86]; exact Z85.1
            have F86_kind : Fld Z h86 b86 "com/example/formal_model_translator/formalmodeltranslator/classicalb/Token" "kind" "Lcom/example/formal_model_translator/formalmodeltranslator/classicalb/Token$Kind;" .null := D86 (Or.inr (hw _ (List.mem_of_getElem? (i := 55) rfl))) (ty := (.object "com/example/formal_model_translator/formalmodeltranslator/classicalb/Token$Kind")) (by decide)
            have F86_text : Fld Z h86 b86 "com/example/formal_model_translator/formalmodeltranslator/classicalb/Token" "text" "Ljava/lang/String;" .null := D86 (Or.inr (hw _ (List.mem_of_getElem? (i := 57) rfl))) (ty := (.object "java/lang/String")) (by decide)
            have F86_written : Fld Z h86 b86 "com/example/formal_model_translator/formalmodeltranslator/classicalb/Token" "written" "Ljava/lang/String;" .null := D86 (Or.inr (hw _ (List.mem_of_getElem? (i := 59) rfl))) (ty := (.object "java/lang/String")) (by decide)
            have F86_position : Fld Z h86 b86 "com/example/formal_model_translator/formalmodeltranslator/classicalb/Token" "position" "Lcom/example/formal_model_translator/formalmodeltranslator/model/SourcePosition;" .null := D86 (Or.inr (hw _ (List.mem_of_getElem? (i := 61) rfl))) (ty := (.object "com/example/formal_model_translator/formalmodeltranslator/model/SourcePosition")) (by decide)
            have F86_pragma : Fld Z h86 b86 "com/example/formal_model_translator/formalmodeltranslator/classicalb/Token" "pragma" "Lcom/example/formal_model_translator/formalmodeltranslator/classicalb/LabelPragma;" .null := D86 (Or.inr (hw _ (List.mem_of_getElem? (i := 63) rfl))) (ty := (.object "com/example/formal_model_translator/formalmodeltranslator/classicalb/LabelPragma")) (by decide)
            have F86_opensBody : Fld Z h86 b86 "com/example/formal_model_translator/formalmodeltranslator/classicalb/Token" "opensBody" "Z" (.int (0 : Int32)) := D86 (Or.inr (hw _ (List.mem_of_getElem? (i := 65) rfl))) (ty := .boolean) (by decide)
            have F86_fault : Fld Z h86 b86 "com/example/formal_model_translator/formalmodeltranslator/classicalb/Token" "fault" "Ljava/lang/String;" .null := D86 (Or.inr (hw _ (List.mem_of_getElem? (i := 67) rfl))) (ty := (.object "java/lang/String")) (by decide)
            refine OwnW.dup X86 (n := 155) at_154 rfl rfl ?_
            refine OwnW.aload X86 (n := 157) at_155 rfl rfl rfl ?_
            refine OwnW.aload X86 (n := 159) at_157 rfl rfl rfl ?_
            refine OwnW.anull X86 (n := 160) at_159 rfl ?_
            refine OwnW.aload X86 (n := 162) at_160 rfl rfl rfl ?_
            refine OwnW.call_special_n X86 (z := (⟨"com/example/formal_model_translator/formalmodeltranslator/classicalb/Token", "<init>", "(Lcom/example/formal_model_translator/formalmodeltranslator/classicalb/Token$Kind;Ljava/lang/String;Lcom/example/formal_model_translator/formalmodeltranslator/model/SourcePosition;Lcom/example/formal_model_translator/formalmodeltranslator/classicalb/LabelPragma;)V"⟩ : MethodName)) (a := b86) (n := 165) at_162 (hw _ (List.mem_of_getElem? (i := 47) rfl)) (hw _ (List.mem_of_getElem? (i := 48) rfl)) (hw _ (List.mem_of_getElem? (i := 49) rfl)) (hw _ (List.mem_of_getElem? (i := 46) rfl)) rfl rfl (by decide) (rmT41 l Z a0 hw hE [] b86 (own_sel a_IDENTIFIER a_INTEGER a_KEYWORD a_LITERAL a_STRING a_SYMBOL a_END_OF_TEXT a_FAULT (p4 &&& 7)) x60 b81 h86 n0 O86 ge_b86 A86 _ F86_kind _ F86_text _ F86_written _ F86_position _ F86_pragma _ F86_opensBody _ F86_fault) (OwnW.sfS (List.mem_cons_self ..) OwnW.sf0) (argsL := [(.ref (own_sel a_IDENTIFIER a_INTEGER a_KEYWORD a_LITERAL a_STRING a_SYMBOL a_END_OF_TEXT a_FAULT (p4 &&& 7))), (.ref x60), .null, (.ref b81)]) (rest := [(.ref b86)]) rfl rfl (OwnW.lenA pd__Lcom_example_formal_model_translator_formalmodeltranslator_classicalb_Token_Kind_Ljava_lang_String_Lcom_example_formal_model_translator_formalmodeltranslator_model_SourcePosition_Lcom_example_formal_model_translator_formalmodeltranslator_classicalb_LabelPragma__V rfl) (W := 1) (Nat.le_of_eq rfl) (by decide) (by decide) (by decide) (by decide) rfl ?_
            intro T93 h93 g93 hle93 X93 ⟨k93, f93⟩
            have K93 := k93
            have O93 := O86.keep K93 (allS ge_b86 all0)
            have Z93 : Keep h0 h93 [] := Z86.trans K93 (allS (P := fun x => x ∈ [] ∨ h0.size ≤ x) (Or.inr sz_b86) all0)
            refine OwnW.astore X93 (l' := #[.val (.int p0), .val (.int p1), .val (.int p2), .val (.int p3), .val (.int p4), .val (.int (p0 &&& (3 : Int32))), .val (.int ((((p0.toUInt32 >>> ((2 : Int32) &&& 31).toUInt32).toInt32) &&& (255 : Int32)) % (3 : Int32))), .val (.int c0), .val (.int c1), .val (.ref b54), .val (.ref b56), .val (.ref x60), .val (.ref (own_sel a_IDENTIFIER a_INTEGER a_KEYWORD a_LITERAL a_STRING a_SYMBOL a_END_OF_TEXT a_FAULT (p4 &&& 7))), .val (.ref b81), .val (.ref b86), .unset]) (n := 167) at_165 rfl rfl rfl ?_
            refine OwnW.aload X93 (n := 169) at_167 rfl rfl rfl ?_
            have f94 := ((f92.keep K86).keep K93)
            have f95 := ((f85.keep K86 nin0).keep K93 (ninS ne_b81_b86 nin0))
            have f97 := (A86.keep K93)
            refine OwnW.call_virtual_v X93 (z := (⟨"com/example/formal_model_translator/formalmodeltranslator/classicalb/Token", "getLabel", "()Ljava/lang/String;"⟩ : MethodName)) (yv := (⟨"com/example/formal_model_translator/formalmodeltranslator/classicalb/Token", "getLabel", "()Ljava/lang/String;"⟩ : MethodName)) (a := b86) (C := "com/example/formal_model_translator/formalmodeltranslator/classicalb/Token") (n := 172) at_169 (hw _ (List.mem_of_getElem? (i := 68) rfl)) (hw _ (List.mem_of_getElem? (i := 69) rfl)) (hw _ (List.mem_of_getElem? (i := 70) rfl)) (hw _ (List.mem_of_getElem? (i := 71) rfl)) (fun hz => notFace_of_selects (args := #[]) (mvT hz (hw _ (List.mem_of_getElem? (i := 71) rfl)))) (hw _ (List.mem_of_getElem? (i := 72) rfl)) (hw _ (List.mem_of_getElem? (i := 46) rfl)) (by decide) f97 (rmH1 l Z a0 hw hE [] b86 h93 n0 b81 f93 f94 f95) OwnW.sf0 (argsL := []) (rest := []) rfl rfl (OwnW.lenA pd___Ljava_lang_String_ rfl) (W := 0) (Nat.le_of_eq rfl) (by decide) (by decide) (by decide) (by decide) rfl ?_
            intro T96 h96 w96 g96 hle96 X96 ⟨q1, q2⟩
            subst q1 q2
            refine OwnW.astore X96 (l' := #[.val (.int p0), .val (.int p1), .val (.int p2), .val (.int p3), .val (.int p4), .val (.int (p0 &&& (3 : Int32))), .val (.int ((((p0.toUInt32 >>> ((2 : Int32) &&& 31).toUInt32).toInt32) &&& (255 : Int32)) % (3 : Int32))), .val (.int c0), .val (.int c1), .val (.ref b54), .val (.ref b56), .val (.ref x60), .val (.ref (own_sel a_IDENTIFIER a_INTEGER a_KEYWORD a_LITERAL a_STRING a_SYMBOL a_END_OF_TEXT a_FAULT (p4 &&& 7))), .val (.ref b81), .val (.ref b86), .val .null]) (n := 174) at_172 rfl rfl rfl ?_
            refine OwnW.iload X96 (n := 176) at_174 rfl rfl ?_
            refine OwnW.if_eq X96  (n1 := 185) (n2 := 179) at_176 (by decide) rfl rfl (fun q => absurd q (hc110 : ¬ (p0 &&& (3 : Int32)) = 0)) (fun _ => ?_)
            refine OwnW.iload X96 (n := 181) at_179 rfl rfl ?_
            refine OwnW.iconst X96 (z := (1 : Int32)) (n := 182) at_181 rfl rfl ?_
            refine OwnW.ic_ne X96  (n1 := 196) (n2 := 185) at_182 (by decide) rfl rfl (fun q => absurd (hc122 : (p0 &&& (3 : Int32)) = (1 : Int32)) q) (fun _ => ?_)
            refine OwnW.aload X96 (n := 187) at_185 rfl rfl rfl ?_
            refine OwnW.ifnonnull_n X96 (n2 := 190) at_187 rfl ?_
            refine OwnW.iconst X96 (z := (1 : Int32)) (n := 191) at_190 rfl rfl ?_
            refine OwnW.goto X96 (n := 195) at_191 (by decide) rfl ?_
            exact OwnW.ireturn X96 rfl (Or.inr (Or.inl rfl)) rfl at_195 rfl (by decide) (by decide)
        · refine OwnW.anull X61 (n := 114) at_113 rfl ?_
          refine OwnW.astore X61 (l' := #[.val (.int p0), .val (.int p1), .val (.int p2), .val (.int p3), .val (.int p4), .val (.int (p0 &&& (3 : Int32))), .val (.int ((((p0.toUInt32 >>> ((2 : Int32) &&& 31).toUInt32).toInt32) &&& (255 : Int32)) % (3 : Int32))), .val (.int c0), .val (.int c1), .val (.ref b54), .val (.ref b56), .val (.ref x60), .val (.ref (own_sel a_IDENTIFIER a_INTEGER a_KEYWORD a_LITERAL a_STRING a_SYMBOL a_END_OF_TEXT a_FAULT (p4 &&& 7))), .val .null, .unset, .unset]) (n := 116) at_114 rfl rfl rfl ?_
          refine OwnW.goto X61 (n := 151) at_116 (by decide) rfl ?_
          refine OwnW.new X61 (C := "com/example/formal_model_translator/formalmodeltranslator/classicalb/Token") (k := 7) (n := 154) at_151 (hw _ (List.mem_of_getElem? (i := 44) rfl)) (hw _ (List.mem_of_getElem? (i := 45) rfl)) (hw _ (List.mem_of_getElem? (i := 46) rfl)) (by decide) (by decide) rfl ?_
          intro T98 h98 b98 gb98 X98 E98 A98 D98 U98
          have f99 := (f59.keep K60 nin0)
          have ne_b54_b98 : b54 ≠ b98 := by rw [gb98]; exact Nat.ne_of_lt f99.lt
          have f100 := (se58.keep K60)
          have ne_b56_b98 : b56 ≠ b98 := by rw [gb98]; exact Nat.ne_of_lt f100.lt
          have f101 := (sa58.keep K60 nin0)
          have ne_t58_b98 : t58 ≠ b98 := by rw [gb98]; exact Nat.ne_of_lt f101.lt
          have ne_x60_b98 : x60 ≠ b98 := by rw [gb98]; exact Nat.ne_of_lt se60.lt
          have ne_t60_b98 : t60 ≠ b98 := by rw [gb98]; exact Nat.ne_of_lt sa60.lt
          have ge_b98 : n0 ≤ b98 := by rw [gb98]; exact OwnW.oldLe O60
          have K98 := (OwnW.kExt E98)
          have O98 := O60.keep K98 all0
          have Z98 : Keep h0 h98 [] := Z60.trans K98 (fun x hx => nomatch hx)
          have sz_b98 : h0.size ≤ b98 := by rw [gb98]; exact Z60.1
          have F98_kind : Fld Z h98 b98 "com/example/formal_model_translator/formalmodeltranslator/classicalb/Token" "kind" "Lcom/example/formal_model_translator/formalmodeltranslator/classicalb/Token$Kind;" .null := D98 (Or.inr (hw _ (List.mem_of_getElem? (i := 55) rfl))) (ty := (.object "com/example/formal_model_translator/formalmodeltranslator/classicalb/Token$Kind")) (by decide)
          have F98_text : Fld Z h98 b98 "com/example/formal_model_translator/formalmodeltranslator/classicalb/Token" "text" "Ljava/lang/String;" .null := D98 (Or.inr (hw _ (List.mem_of_getElem? (i := 57) rfl))) (ty := (.object "java/lang/String")) (by decide)
          have F98_written : Fld Z h98 b98 "com/example/formal_model_translator/formalmodeltranslator/classicalb/Token" "written" "Ljava/lang/String;" .null := D98 (Or.inr (hw _ (List.mem_of_getElem? (i := 59) rfl))) (ty := (.object "java/lang/String")) (by decide)
          have F98_position : Fld Z h98 b98 "com/example/formal_model_translator/formalmodeltranslator/classicalb/Token" "position" "Lcom/example/formal_model_translator/formalmodeltranslator/model/SourcePosition;" .null := D98 (Or.inr (hw _ (List.mem_of_getElem? (i := 61) rfl))) (ty := (.object "com/example/formal_model_translator/formalmodeltranslator/model/SourcePosition")) (by decide)
          have F98_pragma : Fld Z h98 b98 "com/example/formal_model_translator/formalmodeltranslator/classicalb/Token" "pragma" "Lcom/example/formal_model_translator/formalmodeltranslator/classicalb/LabelPragma;" .null := D98 (Or.inr (hw _ (List.mem_of_getElem? (i := 63) rfl))) (ty := (.object "com/example/formal_model_translator/formalmodeltranslator/classicalb/LabelPragma")) (by decide)
          have F98_opensBody : Fld Z h98 b98 "com/example/formal_model_translator/formalmodeltranslator/classicalb/Token" "opensBody" "Z" (.int (0 : Int32)) := D98 (Or.inr (hw _ (List.mem_of_getElem? (i := 65) rfl))) (ty := .boolean) (by decide)
          have F98_fault : Fld Z h98 b98 "com/example/formal_model_translator/formalmodeltranslator/classicalb/Token" "fault" "Ljava/lang/String;" .null := D98 (Or.inr (hw _ (List.mem_of_getElem? (i := 67) rfl))) (ty := (.object "java/lang/String")) (by decide)
          refine OwnW.dup X98 (n := 155) at_154 rfl rfl ?_
          refine OwnW.aload X98 (n := 157) at_155 rfl rfl rfl ?_
          refine OwnW.aload X98 (n := 159) at_157 rfl rfl rfl ?_
          refine OwnW.anull X98 (n := 160) at_159 rfl ?_
          refine OwnW.aload X98 (n := 162) at_160 rfl rfl rfl ?_
          refine OwnW.call_special_n X98 (z := (⟨"com/example/formal_model_translator/formalmodeltranslator/classicalb/Token", "<init>", "(Lcom/example/formal_model_translator/formalmodeltranslator/classicalb/Token$Kind;Ljava/lang/String;Lcom/example/formal_model_translator/formalmodeltranslator/model/SourcePosition;Lcom/example/formal_model_translator/formalmodeltranslator/classicalb/LabelPragma;)V"⟩ : MethodName)) (a := b98) (n := 165) at_162 (hw _ (List.mem_of_getElem? (i := 47) rfl)) (hw _ (List.mem_of_getElem? (i := 48) rfl)) (hw _ (List.mem_of_getElem? (i := 49) rfl)) (hw _ (List.mem_of_getElem? (i := 46) rfl)) rfl rfl (by decide) (rmT40 l Z a0 hw hE [] b98 (own_sel a_IDENTIFIER a_INTEGER a_KEYWORD a_LITERAL a_STRING a_SYMBOL a_END_OF_TEXT a_FAULT (p4 &&& 7)) x60 h98 n0 O98 ge_b98 A98 _ F98_kind _ F98_text _ F98_written _ F98_position _ F98_pragma _ F98_opensBody _ F98_fault) (OwnW.sfS (List.mem_cons_self ..) OwnW.sf0) (argsL := [(.ref (own_sel a_IDENTIFIER a_INTEGER a_KEYWORD a_LITERAL a_STRING a_SYMBOL a_END_OF_TEXT a_FAULT (p4 &&& 7))), (.ref x60), .null, .null]) (rest := [(.ref b98)]) rfl rfl (OwnW.lenA pd__Lcom_example_formal_model_translator_formalmodeltranslator_classicalb_Token_Kind_Ljava_lang_String_Lcom_example_formal_model_translator_formalmodeltranslator_model_SourcePosition_Lcom_example_formal_model_translator_formalmodeltranslator_classicalb_LabelPragma__V rfl) (W := 1) (Nat.le_of_eq rfl) (by decide) (by decide) (by decide) (by decide) rfl ?_
          intro T102 h102 g102 hle102 X102 ⟨k102, f102⟩
          have K102 := k102
          have O102 := O98.keep K102 (allS ge_b98 all0)
          have Z102 : Keep h0 h102 [] := Z98.trans K102 (allS (P := fun x => x ∈ [] ∨ h0.size ≤ x) (Or.inr sz_b98) all0)
          refine OwnW.astore X102 (l' := #[.val (.int p0), .val (.int p1), .val (.int p2), .val (.int p3), .val (.int p4), .val (.int (p0 &&& (3 : Int32))), .val (.int ((((p0.toUInt32 >>> ((2 : Int32) &&& 31).toUInt32).toInt32) &&& (255 : Int32)) % (3 : Int32))), .val (.int c0), .val (.int c1), .val (.ref b54), .val (.ref b56), .val (.ref x60), .val (.ref (own_sel a_IDENTIFIER a_INTEGER a_KEYWORD a_LITERAL a_STRING a_SYMBOL a_END_OF_TEXT a_FAULT (p4 &&& 7))), .val .null, .val (.ref b98), .unset]) (n := 167) at_165 rfl rfl rfl ?_
          refine OwnW.aload X102 (n := 169) at_167 rfl rfl rfl ?_
          have f104 := (A98.keep K102)
          refine OwnW.call_virtual_v X102 (z := (⟨"com/example/formal_model_translator/formalmodeltranslator/classicalb/Token", "getLabel", "()Ljava/lang/String;"⟩ : MethodName)) (yv := (⟨"com/example/formal_model_translator/formalmodeltranslator/classicalb/Token", "getLabel", "()Ljava/lang/String;"⟩ : MethodName)) (a := b98) (C := "com/example/formal_model_translator/formalmodeltranslator/classicalb/Token") (n := 172) at_169 (hw _ (List.mem_of_getElem? (i := 68) rfl)) (hw _ (List.mem_of_getElem? (i := 69) rfl)) (hw _ (List.mem_of_getElem? (i := 70) rfl)) (hw _ (List.mem_of_getElem? (i := 71) rfl)) (fun hz => notFace_of_selects (args := #[]) (mvT hz (hw _ (List.mem_of_getElem? (i := 71) rfl)))) (hw _ (List.mem_of_getElem? (i := 72) rfl)) (hw _ (List.mem_of_getElem? (i := 46) rfl)) (by decide) f104 (rmH0 l Z a0 hw hE [] b98 h102 n0 f102) OwnW.sf0 (argsL := []) (rest := []) rfl rfl (OwnW.lenA pd___Ljava_lang_String_ rfl) (W := 0) (Nat.le_of_eq rfl) (by decide) (by decide) (by decide) (by decide) rfl ?_
          intro T103 h103 w103 g103 hle103 X103 ⟨q1, q2⟩
          subst q1 q2
          refine OwnW.astore X103 (l' := #[.val (.int p0), .val (.int p1), .val (.int p2), .val (.int p3), .val (.int p4), .val (.int (p0 &&& (3 : Int32))), .val (.int ((((p0.toUInt32 >>> ((2 : Int32) &&& 31).toUInt32).toInt32) &&& (255 : Int32)) % (3 : Int32))), .val (.int c0), .val (.int c1), .val (.ref b54), .val (.ref b56), .val (.ref x60), .val (.ref (own_sel a_IDENTIFIER a_INTEGER a_KEYWORD a_LITERAL a_STRING a_SYMBOL a_END_OF_TEXT a_FAULT (p4 &&& 7))), .val .null, .val (.ref b98), .val .null]) (n := 174) at_172 rfl rfl rfl ?_
          refine OwnW.iload X103 (n := 176) at_174 rfl rfl ?_
          refine OwnW.if_eq X103  (n1 := 185) (n2 := 179) at_176 (by decide) rfl rfl (fun _ => ?_) (fun q => absurd (hc110 : (p0 &&& (3 : Int32)) = 0) q)
          refine OwnW.aload X103 (n := 187) at_185 rfl rfl rfl ?_
          refine OwnW.ifnonnull_n X103 (n2 := 190) at_187 rfl ?_
          refine OwnW.iconst X103 (z := (1 : Int32)) (n := 191) at_190 rfl rfl ?_
          refine OwnW.goto X103 (n := 195) at_191 (by decide) rfl ?_
          exact OwnW.ireturn X103 rfl (Or.inr (Or.inl rfl)) rfl at_195 rfl (by decide) (by decide)
    · refine OwnW.iconst X1 (z := (0 : Int32)) (n := 38) at_37 rfl rfl ?_
      refine OwnW.newarray X1 (len := 0) (cap := 0) (n := 40) at_38 (hw _ (List.mem_of_getElem? (i := 0) rfl)) rfl (by decide) (by decide) (by decide) (by decide) rfl ?_
      intro T105 h105 b105 gb105 X105 E105 A105
      have ge_b105 : n0 ≤ b105 := by rw [gb105]; exact OwnW.oldLe O0
      have K105 := (OwnW.kExt E105)
      have O105 := O0.keep K105 all0
      have Z105 : Keep h0 h105 [] := Z0.trans K105 (fun x hx => nomatch hx)
      have sz_b105 : h0.size ≤ b105 := by rw [gb105]; exact Z0.1
      replace A105 : Ark Z h105 b105 .char [] := A105
      refine OwnW.astore X105 (l' := #[.val (.int p0), .val (.int p1), .val (.int p2), .val (.int p3), .val (.int p4), .val (.int (p0 &&& (3 : Int32))), .val (.int ((((p0.toUInt32 >>> ((2 : Int32) &&& 31).toUInt32).toInt32) &&& (255 : Int32)) % (3 : Int32))), .val (.int c0), .val (.int c1), .val (.ref b105), .unset, .unset, .unset, .unset, .unset, .unset]) (n := 42) at_40 rfl rfl rfl ?_
      refine OwnW.goto X105 (n := 79) at_42 (by decide) rfl ?_
      refine OwnW.new X105 (C := "java/lang/String") (k := 4) (n := 82) at_79 (hw _ (List.mem_of_getElem? (i := 1) rfl)) (hw _ (List.mem_of_getElem? (i := 2) rfl)) (hw _ (List.mem_of_getElem? (i := 3) rfl)) (by decide) (by decide) rfl ?_
      intro T106 h106 b106 gb106 X106 E106 A106 D106 U106
      have ne_b105_b106 : b105 ≠ b106 := by rw [gb106]; exact Nat.ne_of_lt A105.lt
      have ge_b106 : n0 ≤ b106 := by rw [gb106]; exact OwnW.oldLe O105
      have K106 := (OwnW.kExt E106)
      have O106 := O105.keep K106 all0
      have Z106 : Keep h0 h106 [] := Z105.trans K106 (fun x hx => nomatch hx)
      have sz_b106 : h0.size ≤ b106 := by rw [gb106]; exact Z105.1
      have F106_value : Fld Z h106 b106 "java/lang/String" "value" "[B" .null := D106 (Or.inr (hw _ (List.mem_of_getElem? (i := 16) rfl))) (ty := (.array .byte)) (by decide)
      have F106_coder : Fld Z h106 b106 "java/lang/String" "coder" "B" (.int (0 : Int32)) := D106 (Or.inr (hw _ (List.mem_of_getElem? (i := 17) rfl))) (ty := .byte) (by decide)
      refine OwnW.dup X106 (n := 83) at_82 rfl rfl ?_
      refine OwnW.aload X106 (n := 85) at_83 rfl rfl rfl ?_
      have f107 := (A105.keep K106 nin0)
      refine OwnW.call_special_n X106 (z := (⟨"java/lang/String", "<init>", "([C)V"⟩ : MethodName)) (a := b106) (n := 88) at_85 (hw _ (List.mem_of_getElem? (i := 4) rfl)) (hw _ (List.mem_of_getElem? (i := 5) rfl)) (hw _ (List.mem_of_getElem? (i := 6) rfl)) (hw _ (List.mem_of_getElem? (i := 3) rfl)) rfl rfl (by decide) (rm1e l Z a0 hw hE [] b106 b105 h106 n0 O106 [] ge_b106 A106 _ _ F106_value F106_coder f107) (OwnW.sfS (List.mem_cons_self ..) OwnW.sf0) (argsL := [(.ref b105)]) (rest := [(.ref b106)]) rfl rfl (OwnW.lenA pd___C_V rfl) (W := 1) (Nat.le_of_eq rfl) (by decide) (by decide) (by decide) (by decide) rfl ?_
      intro T108 h108 g108 hle108 X108 ⟨k108, t108, nx108, S108⟩
      obtain ⟨se108, sc108, sv108, sa108⟩ := S108
      have K108 := k108
      have O108 := O106.keep K108 (allS ge_b106 all0)
      have Z108 : Keep h0 h108 [] := Z106.trans K108 (allS (P := fun x => x ∈ [] ∨ h0.size ≤ x) (Or.inr sz_b106) all0)
      refine OwnW.astore X108 (l' := #[.val (.int p0), .val (.int p1), .val (.int p2), .val (.int p3), .val (.int p4), .val (.int (p0 &&& (3 : Int32))), .val (.int ((((p0.toUInt32 >>> ((2 : Int32) &&& 31).toUInt32).toInt32) &&& (255 : Int32)) % (3 : Int32))), .val (.int c0), .val (.int c1), .val (.ref b105), .val (.ref b106), .unset, .unset, .unset, .unset, .unset]) (n := 90) at_88 rfl rfl rfl ?_
      refine OwnW.iloadN X108 (n := 91) at_90 rfl rfl ?_
      refine OwnW.sipush X108 (z := (255 : Int32)) (n := 94) at_91 rfl rfl ?_
      refine OwnW.iand X108 (n := 95) at_94 rfl ?_
      refine OwnW.i2c X108 (n := 96) at_95 rfl ?_
      have f109 := (f107.keep K108 (ninS ne_b105_b106 nin0))
      refine OwnW.call_static_v X108 (z := (⟨"java/lang/String", "valueOf", "(C)Ljava/lang/String;"⟩ : MethodName)) (n := 99) at_96 (hw _ (List.mem_of_getElem? (i := 22) rfl)) (hw _ (List.mem_of_getElem? (i := 23) rfl)) (hw _ (List.mem_of_getElem? (i := 24) rfl)) (hw _ (List.mem_of_getElem? (i := 3) rfl)) (by decide) (rm4 l Z a0 hw hE [] ((p3 &&& (255 : Int32)).toUInt32.toUInt16.toUInt32.toInt32) h108 n0 O108 (own_255 p3).2 zc hzc S_compact) OwnW.sf0 (argsL := [(.int ((p3 &&& (255 : Int32)).toUInt32.toUInt16.toUInt32.toInt32))]) (rest := []) rfl rfl (OwnW.lenA pd__C_Ljava_lang_String_ rfl) (W := 0) (Nat.le_of_eq rfl) (by decide) (by decide) (by decide) (by decide) rfl ?_
      intro T110 h110 w110 g110 hle110 X110 ⟨x110, t110, q1, k110, y110, z110, S110⟩
      subst q1
      obtain ⟨se110, sc110, sv110, sa110⟩ := S110
      have ne_b105_x110 : b105 ≠ x110 := Nat.ne_of_lt (Nat.lt_of_lt_of_le f109.lt y110)
      have ne_b105_t110 : b105 ≠ t110 := Nat.ne_of_lt (Nat.lt_of_lt_of_le f109.lt z110)
      have ne_b106_x110 : b106 ≠ x110 := Nat.ne_of_lt (Nat.lt_of_lt_of_le se108.lt y110)
      have ne_b106_t110 : b106 ≠ t110 := Nat.ne_of_lt (Nat.lt_of_lt_of_le se108.lt z110)
      have ne_t108_x110 : t108 ≠ x110 := Nat.ne_of_lt (Nat.lt_of_lt_of_le sa108.lt y110)
      have ne_t108_t110 : t108 ≠ t110 := Nat.ne_of_lt (Nat.lt_of_lt_of_le sa108.lt z110)
      have K110 := k110
      have O110 := O108.keep K110 all0
      have Z110 : Keep h0 h110 [] := Z108.trans K110 (fun x hx => nomatch hx)
      refine OwnW.astore X110 (l' := #[.val (.int p0), .val (.int p1), .val (.int p2), .val (.int p3), .val (.int p4), .val (.int (p0 &&& (3 : Int32))), .val (.int ((((p0.toUInt32 >>> ((2 : Int32) &&& 31).toUInt32).toInt32) &&& (255 : Int32)) % (3 : Int32))), .val (.int c0), .val (.int c1), .val (.ref b105), .val (.ref b106), .val (.ref x110), .unset, .unset, .unset, .unset]) (n := 101) at_99 rfl rfl rfl ?_
      refine OwnW.iload X110 (n := 103) at_101 rfl rfl ?_
      refine OwnW.call_static_v X110 (z := (⟨"com/example/formal_model_translator/formalmodeltranslator/classicalb/TokenGetLabelPinLaw", "kindOf", "(I)Lcom/example/formal_model_translator/formalmodeltranslator/classicalb/Token$Kind;"⟩ : MethodName)) (n := 106) at_103 (hw _ (List.mem_of_getElem? (i := 37) rfl)) (hw _ (List.mem_of_getElem? (i := 38) rfl)) (hw _ (List.mem_of_getElem? (i := 40) rfl)) (hw _ (List.mem_of_getElem? (i := 39) rfl)) (by decide) (rm8 l Z a0 hw hE [] p4 h110 n0 O110 a_IDENTIFIER S_IDENTIFIER E_IDENTIFIER a_FAULT S_FAULT E_FAULT a_INTEGER S_INTEGER E_INTEGER a_LITERAL S_LITERAL E_LITERAL a_SYMBOL S_SYMBOL E_SYMBOL a_STRING S_STRING E_STRING a_END_OF_TEXT S_END_OF_TEXT E_END_OF_TEXT a_KEYWORD S_KEYWORD E_KEYWORD) OwnW.sf0 (argsL := [(.int p4)]) (rest := []) rfl rfl (OwnW.lenA pd__I_Lcom_example_formal_model_translator_formalmodeltranslator_classicalb_Token_Kind_ rfl) (W := 0) (Nat.le_of_eq rfl) (by decide) (by decide) (by decide) (by decide) rfl ?_
      intro T111 h111 w111 g111 hle111 X111 ⟨q1, q2⟩
      subst q1 q2
      refine OwnW.astore X111 (l' := #[.val (.int p0), .val (.int p1), .val (.int p2), .val (.int p3), .val (.int p4), .val (.int (p0 &&& (3 : Int32))), .val (.int ((((p0.toUInt32 >>> ((2 : Int32) &&& 31).toUInt32).toInt32) &&& (255 : Int32)) % (3 : Int32))), .val (.int c0), .val (.int c1), .val (.ref b105), .val (.ref b106), .val (.ref x110), .val (.ref (own_sel a_IDENTIFIER a_INTEGER a_KEYWORD a_LITERAL a_STRING a_SYMBOL a_END_OF_TEXT a_FAULT (p4 &&& 7))), .unset, .unset, .unset]) (n := 108) at_106 rfl rfl rfl ?_
      refine OwnW.iload X111 (n := 110) at_108 rfl rfl ?_
      refine OwnW.if_ne X111  (n1 := 119) (n2 := 113) at_110 (by decide) rfl rfl (fun hc110 => ?_) (fun hc110 => ?_)
      · refine OwnW.iload X111 (n := 121) at_119 rfl rfl ?_
        refine OwnW.iconst X111 (z := (1 : Int32)) (n := 122) at_121 rfl rfl ?_
        refine OwnW.ic_ne X111  (n1 := 139) (n2 := 125) at_122 (by decide) rfl rfl (fun hc122 => ?_) (fun hc122 => ?_)
        · refine OwnW.new X111 (C := "com/example/formal_model_translator/formalmodeltranslator/classicalb/LabelPragma") (k := 2) (n := 142) at_139 (hw _ (List.mem_of_getElem? (i := 75) rfl)) (hw _ (List.mem_of_getElem? (i := 76) rfl)) (hw _ (List.mem_of_getElem? (i := 77) rfl)) (by decide) (by decide) rfl ?_
          intro T112 h112 b112 gb112 X112 E112 A112 D112 U112
          have f113 := (f109.keep K110 nin0)
          have ne_b105_b112 : b105 ≠ b112 := by rw [gb112]; exact Nat.ne_of_lt f113.lt
          have f114 := (se108.keep K110)
          have ne_b106_b112 : b106 ≠ b112 := by rw [gb112]; exact Nat.ne_of_lt f114.lt
          have f115 := (sa108.keep K110 nin0)
          have ne_t108_b112 : t108 ≠ b112 := by rw [gb112]; exact Nat.ne_of_lt f115.lt
          have ne_x110_b112 : x110 ≠ b112 := by rw [gb112]; exact Nat.ne_of_lt se110.lt
          have ne_t110_b112 : t110 ≠ b112 := by rw [gb112]; exact Nat.ne_of_lt sa110.lt
          have ge_b112 : n0 ≤ b112 := by rw [gb112]; exact OwnW.oldLe O110
          have K112 := (OwnW.kExt E112)
          have O112 := O110.keep K112 all0
          have Z112 : Keep h0 h112 [] := Z110.trans K112 (fun x hx => nomatch hx)
          have sz_b112 : h0.size ≤ b112 := by rw [gb112]; exact Z110.1
          have F112_label : Fld Z h112 b112 "com/example/formal_model_translator/formalmodeltranslator/classicalb/LabelPragma" "label" "Ljava/lang/String;" .null := D112 (Or.inr (hw _ (List.mem_of_getElem? (i := 83) rfl))) (ty := (.object "java/lang/String")) (by decide)
          have F112_position : Fld Z h112 b112 "com/example/formal_model_translator/formalmodeltranslator/classicalb/LabelPragma" "position" "Lcom/example/formal_model_translator/formalmodeltranslator/model/SourcePosition;" .null := D112 (Or.inr (hw _ (List.mem_of_getElem? (i := 85) rfl))) (ty := (.object "com/example/formal_model_translator/formalmodeltranslator/model/SourcePosition")) (by decide)
          refine OwnW.dup X112 (n := 143) at_142 rfl rfl ?_
          refine OwnW.aload X112 (n := 145) at_143 rfl rfl rfl ?_
          refine OwnW.anull X112 (n := 146) at_145 rfl ?_
          refine OwnW.call_special_n X112 (z := (⟨"com/example/formal_model_translator/formalmodeltranslator/classicalb/LabelPragma", "<init>", "(Ljava/lang/String;Lcom/example/formal_model_translator/formalmodeltranslator/model/SourcePosition;)V"⟩ : MethodName)) (a := b112) (n := 149) at_146 (hw _ (List.mem_of_getElem? (i := 78) rfl)) (hw _ (List.mem_of_getElem? (i := 79) rfl)) (hw _ (List.mem_of_getElem? (i := 80) rfl)) (hw _ (List.mem_of_getElem? (i := 77) rfl)) rfl rfl (by decide) (rmL1 l Z a0 hw hE [] b112 b106 h112 n0 O112 ge_b112 A112 _ F112_label _ F112_position) (OwnW.sfS (List.mem_cons_self ..) OwnW.sf0) (argsL := [(.ref b106), .null]) (rest := [(.ref b112)]) rfl rfl (OwnW.lenA pd__Ljava_lang_String_Lcom_example_formal_model_translator_formalmodeltranslator_model_SourcePosition__V rfl) (W := 1) (Nat.le_of_eq rfl) (by decide) (by decide) (by decide) (by decide) rfl ?_
          intro T116 h116 g116 hle116 X116 ⟨k116, f116⟩
          have K116 := k116
          have O116 := O112.keep K116 (allS ge_b112 all0)
          have Z116 : Keep h0 h116 [] := Z112.trans K116 (allS (P := fun x => x ∈ [] ∨ h0.size ≤ x) (Or.inr sz_b112) all0)
          refine OwnW.astore X116 (l' := #[.val (.int p0), .val (.int p1), .val (.int p2), .val (.int p3), .val (.int p4), .val (.int (p0 &&& (3 : Int32))), .val (.int ((((p0.toUInt32 >>> ((2 : Int32) &&& 31).toUInt32).toInt32) &&& (255 : Int32)) % (3 : Int32))), .val (.int c0), .val (.int c1), .val (.ref b105), .val (.ref b106), .val (.ref x110), .val (.ref (own_sel a_IDENTIFIER a_INTEGER a_KEYWORD a_LITERAL a_STRING a_SYMBOL a_END_OF_TEXT a_FAULT (p4 &&& 7))), .val (.ref b112), .unset, .unset]) (n := 151) at_149 rfl rfl rfl ?_
          refine OwnW.new X116 (C := "com/example/formal_model_translator/formalmodeltranslator/classicalb/Token") (k := 7) (n := 154) at_151 (hw _ (List.mem_of_getElem? (i := 44) rfl)) (hw _ (List.mem_of_getElem? (i := 45) rfl)) (hw _ (List.mem_of_getElem? (i := 46) rfl)) (by decide) (by decide) rfl ?_
          intro T117 h117 b117 gb117 X117 E117 A117 D117 U117
          have f118 := ((f113.keep K112 nin0).keep K116 (ninS ne_b105_b112 nin0))
          have ne_b105_b117 : b105 ≠ b117 := by rw [gb117]; exact Nat.ne_of_lt f118.lt
          have f119 := ((f114.keep K112).keep K116)
          have ne_b106_b117 : b106 ≠ b117 := by rw [gb117]; exact Nat.ne_of_lt f119.lt
          have f120 := ((f115.keep K112 nin0).keep K116 (ninS ne_t108_b112 nin0))
          have ne_t108_b117 : t108 ≠ b117 := by rw [gb117]; exact Nat.ne_of_lt f120.lt
          have f121 := ((se110.keep K112).keep K116)
          have ne_x110_b117 : x110 ≠ b117 := by rw [gb117]; exact Nat.ne_of_lt f121.lt
          have f122 := ((sa110.keep K112 nin0).keep K116 (ninS ne_t110_b112 nin0))
          have ne_t110_b117 : t110 ≠ b117 := by rw [gb117]; exact Nat.ne_of_lt f122.lt
          have f123 := (A112.keep K116)
          have ne_b112_b117 : b112 ≠ b117 := by rw [gb117]; exact Nat.ne_of_lt f123.lt
          have ge_b117 : n0 ≤ b117 := by rw [gb117]; exact OwnW.oldLe O116
          have K117 := (OwnW.kExt E117)
          have O117 := O116.keep K117 all0
          have Z117 : Keep h0 h117 [] := Z116.trans K117 (fun x hx => nomatch hx)
          have sz_b117 : h0.size ≤ b117 := by rw [gb117]; exact Z116.1
          have F117_kind : Fld Z h117 b117 "com/example/formal_model_translator/formalmodeltranslator/classicalb/Token" "kind" "Lcom/example/formal_model_translator/formalmodeltranslator/classicalb/Token$Kind;" .null := D117 (Or.inr (hw _ (List.mem_of_getElem? (i := 55) rfl))) (ty := (.object "com/example/formal_model_translator/formalmodeltranslator/classicalb/Token$Kind")) (by decide)
          have F117_text : Fld Z h117 b117 "com/example/formal_model_translator/formalmodeltranslator/classicalb/Token" "text" "Ljava/lang/String;" .null := D117 (Or.inr (hw _ (List.mem_of_getElem? (i := 57) rfl))) (ty := (.object "java/lang/String")) (by decide)
          have F117_written : Fld Z h117 b117 "com/example/formal_model_translator/formalmodeltranslator/classicalb/Token" "written" "Ljava/lang/String;" .null := D117 (Or.inr (hw _ (List.mem_of_getElem? (i := 59) rfl))) (ty := (.object "java/lang/String")) (by decide)
          have F117_position : Fld Z h117 b117 "com/example/formal_model_translator/formalmodeltranslator/classicalb/Token" "position" "Lcom/example/formal_model_translator/formalmodeltranslator/model/SourcePosition;" .null := D117 (Or.inr (hw _ (List.mem_of_getElem? (i := 61) rfl))) (ty := (.object "com/example/formal_model_translator/formalmodeltranslator/model/SourcePosition")) (by decide)
          have F117_pragma : Fld Z h117 b117 "com/example/formal_model_translator/formalmodeltranslator/classicalb/Token" "pragma" "Lcom/example/formal_model_translator/formalmodeltranslator/classicalb/LabelPragma;" .null := D117 (Or.inr (hw _ (List.mem_of_getElem? (i := 63) rfl))) (ty := (.object "com/example/formal_model_translator/formalmodeltranslator/classicalb/LabelPragma")) (by decide)
          have F117_opensBody : Fld Z h117 b117 "com/example/formal_model_translator/formalmodeltranslator/classicalb/Token" "opensBody" "Z" (.int (0 : Int32)) := D117 (Or.inr (hw _ (List.mem_of_getElem? (i := 65) rfl))) (ty := .boolean) (by decide)
          have F117_fault : Fld Z h117 b117 "com/example/formal_model_translator/formalmodeltranslator/classicalb/Token" "fault" "Ljava/lang/String;" .null := D117 (Or.inr (hw _ (List.mem_of_getElem? (i := 67) rfl))) (ty := (.object "java/lang/String")) (by decide)
          refine OwnW.dup X117 (n := 155) at_154 rfl rfl ?_
          refine OwnW.aload X117 (n := 157) at_155 rfl rfl rfl ?_
          refine OwnW.aload X117 (n := 159) at_157 rfl rfl rfl ?_
          refine OwnW.anull X117 (n := 160) at_159 rfl ?_
          refine OwnW.aload X117 (n := 162) at_160 rfl rfl rfl ?_
          refine OwnW.call_special_n X117 (z := (⟨"com/example/formal_model_translator/formalmodeltranslator/classicalb/Token", "<init>", "(Lcom/example/formal_model_translator/formalmodeltranslator/classicalb/Token$Kind;Ljava/lang/String;Lcom/example/formal_model_translator/formalmodeltranslator/model/SourcePosition;Lcom/example/formal_model_translator/formalmodeltranslator/classicalb/LabelPragma;)V"⟩ : MethodName)) (a := b117) (n := 165) at_162 (hw _ (List.mem_of_getElem? (i := 47) rfl)) (hw _ (List.mem_of_getElem? (i := 48) rfl)) (hw _ (List.mem_of_getElem? (i := 49) rfl)) (hw _ (List.mem_of_getElem? (i := 46) rfl)) rfl rfl (by decide) (rmT41 l Z a0 hw hE [] b117 (own_sel a_IDENTIFIER a_INTEGER a_KEYWORD a_LITERAL a_STRING a_SYMBOL a_END_OF_TEXT a_FAULT (p4 &&& 7)) x110 b112 h117 n0 O117 ge_b117 A117 _ F117_kind _ F117_text _ F117_written _ F117_position _ F117_pragma _ F117_opensBody _ F117_fault) (OwnW.sfS (List.mem_cons_self ..) OwnW.sf0) (argsL := [(.ref (own_sel a_IDENTIFIER a_INTEGER a_KEYWORD a_LITERAL a_STRING a_SYMBOL a_END_OF_TEXT a_FAULT (p4 &&& 7))), (.ref x110), .null, (.ref b112)]) (rest := [(.ref b117)]) rfl rfl (OwnW.lenA pd__Lcom_example_formal_model_translator_formalmodeltranslator_classicalb_Token_Kind_Ljava_lang_String_Lcom_example_formal_model_translator_formalmodeltranslator_model_SourcePosition_Lcom_example_formal_model_translator_formalmodeltranslator_classicalb_LabelPragma__V rfl) (W := 1) (Nat.le_of_eq rfl) (by decide) (by decide) (by decide) (by decide) rfl ?_
          intro T124 h124 g124 hle124 X124 ⟨k124, f124⟩
          have K124 := k124
          have O124 := O117.keep K124 (allS ge_b117 all0)
          have Z124 : Keep h0 h124 [] := Z117.trans K124 (allS (P := fun x => x ∈ [] ∨ h0.size ≤ x) (Or.inr sz_b117) all0)
          refine OwnW.astore X124 (l' := #[.val (.int p0), .val (.int p1), .val (.int p2), .val (.int p3), .val (.int p4), .val (.int (p0 &&& (3 : Int32))), .val (.int ((((p0.toUInt32 >>> ((2 : Int32) &&& 31).toUInt32).toInt32) &&& (255 : Int32)) % (3 : Int32))), .val (.int c0), .val (.int c1), .val (.ref b105), .val (.ref b106), .val (.ref x110), .val (.ref (own_sel a_IDENTIFIER a_INTEGER a_KEYWORD a_LITERAL a_STRING a_SYMBOL a_END_OF_TEXT a_FAULT (p4 &&& 7))), .val (.ref b112), .val (.ref b117), .unset]) (n := 167) at_165 rfl rfl rfl ?_
          refine OwnW.aload X124 (n := 169) at_167 rfl rfl rfl ?_
          have f125 := ((f123.keep K117).keep K124)
          have f126 := ((f116.keep K117 nin0).keep K124 (ninS ne_b112_b117 nin0))
          have f128 := (A117.keep K124)
          refine OwnW.call_virtual_v X124 (z := (⟨"com/example/formal_model_translator/formalmodeltranslator/classicalb/Token", "getLabel", "()Ljava/lang/String;"⟩ : MethodName)) (yv := (⟨"com/example/formal_model_translator/formalmodeltranslator/classicalb/Token", "getLabel", "()Ljava/lang/String;"⟩ : MethodName)) (a := b117) (C := "com/example/formal_model_translator/formalmodeltranslator/classicalb/Token") (n := 172) at_169 (hw _ (List.mem_of_getElem? (i := 68) rfl)) (hw _ (List.mem_of_getElem? (i := 69) rfl)) (hw _ (List.mem_of_getElem? (i := 70) rfl)) (hw _ (List.mem_of_getElem? (i := 71) rfl)) (fun hz => notFace_of_selects (args := #[]) (mvT hz (hw _ (List.mem_of_getElem? (i := 71) rfl)))) (hw _ (List.mem_of_getElem? (i := 72) rfl)) (hw _ (List.mem_of_getElem? (i := 46) rfl)) (by decide) f128 (rmH2 l Z a0 hw hE [] b117 h124 n0 b112 f124 f125 _ f126) OwnW.sf0 (argsL := []) (rest := []) rfl rfl (OwnW.lenA pd___Ljava_lang_String_ rfl) (W := 0) (Nat.le_of_eq rfl) (by decide) (by decide) (by decide) (by decide) rfl ?_
          intro T127 h127 w127 g127 hle127 X127 ⟨q1, q2⟩
          subst q1 q2
          refine OwnW.astore X127 (l' := #[.val (.int p0), .val (.int p1), .val (.int p2), .val (.int p3), .val (.int p4), .val (.int (p0 &&& (3 : Int32))), .val (.int ((((p0.toUInt32 >>> ((2 : Int32) &&& 31).toUInt32).toInt32) &&& (255 : Int32)) % (3 : Int32))), .val (.int c0), .val (.int c1), .val (.ref b105), .val (.ref b106), .val (.ref x110), .val (.ref (own_sel a_IDENTIFIER a_INTEGER a_KEYWORD a_LITERAL a_STRING a_SYMBOL a_END_OF_TEXT a_FAULT (p4 &&& 7))), .val (.ref b112), .val (.ref b117), .val (.ref b106)]) (n := 174) at_172 rfl rfl rfl ?_
          refine OwnW.iload X127 (n := 176) at_174 rfl rfl ?_
          refine OwnW.if_eq X127  (n1 := 185) (n2 := 179) at_176 (by decide) rfl rfl (fun q => absurd q (hc110 : ¬ (p0 &&& (3 : Int32)) = 0)) (fun _ => ?_)
          refine OwnW.iload X127 (n := 181) at_179 rfl rfl ?_
          refine OwnW.iconst X127 (z := (1 : Int32)) (n := 182) at_181 rfl rfl ?_
          refine OwnW.ic_ne X127  (n1 := 196) (n2 := 185) at_182 (by decide) rfl rfl (fun _ => ?_) (fun q => absurd q (hc122 : ¬ (p0 &&& (3 : Int32)) = (1 : Int32)))
          refine OwnW.aload X127 (n := 198) at_196 rfl rfl rfl ?_
          refine OwnW.ifnull_n X127 (n2 := 201) at_198 rfl ?_
          refine OwnW.aload X127 (n := 203) at_201 rfl rfl rfl ?_
          refine OwnW.aload X127 (n := 205) at_203 rfl rfl rfl ?_
          have f130 := ((f119.keep K117).keep K124)
          refine OwnW.call_virtual_v X127 (z := (⟨"java/lang/String", "equals", "(Ljava/lang/Object;)Z"⟩ : MethodName)) (yv := (⟨"java/lang/String", "equals", "(Ljava/lang/Object;)Z"⟩ : MethodName)) (a := b106) (C := "java/lang/String") (n := 208) at_205 (hw _ (List.mem_of_getElem? (i := 91) rfl)) (hw _ (List.mem_of_getElem? (i := 92) rfl)) (hw _ (List.mem_of_getElem? (i := 93) rfl)) (hw _ (List.mem_of_getElem? (i := 94) rfl)) (fun hz => notFace_of_selects (args := #[]) (mvT hz (hw _ (List.mem_of_getElem? (i := 94) rfl)))) (hw _ (List.mem_of_getElem? (i := 95) rfl)) (hw _ (List.mem_of_getElem? (i := 3) rfl)) (by decide) f130 (rmS l Z a0 hw hE [] b106 h124 n0) OwnW.sf0 (argsL := [(.ref b106)]) (rest := []) rfl rfl (OwnW.lenA pd__Ljava_lang_Object__Z rfl) (W := 0) (Nat.le_of_eq rfl) (by decide) (by decide) (by decide) (by decide) rfl ?_
          intro T129 h129 w129 g129 hle129 X129 ⟨q1, q2⟩
          subst q1 q2
          refine OwnW.if_eq X129  (n1 := 215) (n2 := 211) at_208 (by decide) rfl rfl (fun q => absurd q ((by decide) : ¬ (1 : Int32) = 0)) (fun _ => ?_)
          refine OwnW.iconst X129 (z := (1 : Int32)) (n := 212) at_211 rfl rfl ?_
          refine OwnW.goto X129 (n := 216) at_212 (by decide) rfl ?_
          exact OwnW.ireturn X129 rfl (Or.inr (Or.inl rfl)) rfl at_216 rfl (by decide) (by decide)
        · refine OwnW.new X111 (C := "com/example/formal_model_translator/formalmodeltranslator/classicalb/LabelPragma") (k := 2) (n := 128) at_125 (hw _ (List.mem_of_getElem? (i := 75) rfl)) (hw _ (List.mem_of_getElem? (i := 76) rfl)) (hw _ (List.mem_of_getElem? (i := 77) rfl)) (by decide) (by decide) rfl ?_
          intro T131 h131 b131 gb131 X131 E131 A131 D131 U131
          have f132 := (f109.keep K110 nin0)
          have ne_b105_b131 : b105 ≠ b131 := by rw [gb131]; exact Nat.ne_of_lt f132.lt
          have f133 := (se108.keep K110)
          have ne_b106_b131 : b106 ≠ b131 := by rw [gb131]; exact Nat.ne_of_lt f133.lt
          have f134 := (sa108.keep K110 nin0)
          have ne_t108_b131 : t108 ≠ b131 := by rw [gb131]; exact Nat.ne_of_lt f134.lt
          have ne_x110_b131 : x110 ≠ b131 := by rw [gb131]; exact Nat.ne_of_lt se110.lt
          have ne_t110_b131 : t110 ≠ b131 := by rw [gb131]; exact Nat.ne_of_lt sa110.lt
          have ge_b131 : n0 ≤ b131 := by rw [gb131]; exact OwnW.oldLe O110
          have K131 := (OwnW.kExt E131)
          have O131 := O110.keep K131 all0
          have Z131 : Keep h0 h131 [] := Z110.trans K131 (fun x hx => nomatch hx)
          have sz_b131 : h0.size ≤ b131 := by rw [gb131]; exact Z110.1
          have F131_label : Fld Z h131 b131 "com/example/formal_model_translator/formalmodeltranslator/classicalb/LabelPragma" "label" "Ljava/lang/String;" .null := D131 (Or.inr (hw _ (List.mem_of_getElem? (i := 83) rfl))) (ty := (.object "java/lang/String")) (by decide)
          have F131_position : Fld Z h131 b131 "com/example/formal_model_translator/formalmodeltranslator/classicalb/LabelPragma" "position" "Lcom/example/formal_model_translator/formalmodeltranslator/model/SourcePosition;" .null := D131 (Or.inr (hw _ (List.mem_of_getElem? (i := 85) rfl))) (ty := (.object "com/example/formal_model_translator/formalmodeltranslator/model/SourcePosition")) (by decide)
          refine OwnW.dup X131 (n := 129) at_128 rfl rfl ?_
          refine OwnW.anull X131 (n := 130) at_129 rfl ?_
          refine OwnW.anull X131 (n := 131) at_130 rfl ?_
          refine OwnW.call_special_n X131 (z := (⟨"com/example/formal_model_translator/formalmodeltranslator/classicalb/LabelPragma", "<init>", "(Ljava/lang/String;Lcom/example/formal_model_translator/formalmodeltranslator/model/SourcePosition;)V"⟩ : MethodName)) (a := b131) (n := 134) at_131 (hw _ (List.mem_of_getElem? (i := 78) rfl)) (hw _ (List.mem_of_getElem? (i := 79) rfl)) (hw _ (List.mem_of_getElem? (i := 80) rfl)) (hw _ (List.mem_of_getElem? (i := 77) rfl)) rfl rfl (by decide) (rmL0 l Z a0 hw hE [] b131  h131 n0 O131 ge_b131 A131 _ F131_label _ F131_position) (OwnW.sfS (List.mem_cons_self ..) OwnW.sf0) (argsL := [.null, .null]) (rest := [(.ref b131)]) rfl rfl (OwnW.lenA pd__Ljava_lang_String_Lcom_example_formal_model_translator_formalmodeltranslator_model_SourcePosition__V rfl) (W := 1) (Nat.le_of_eq rfl) (by decide) (by decide) (by decide) (by decide) rfl ?_
          intro T135 h135 g135 hle135 X135 ⟨k135, f135⟩
          have K135 := k135
          have O135 := O131.keep K135 (allS ge_b131 all0)
          have Z135 : Keep h0 h135 [] := Z131.trans K135 (allS (P := fun x => x ∈ [] ∨ h0.size ≤ x) (Or.inr sz_b131) all0)
          refine OwnW.astore X135 (l' := #[.val (.int p0), .val (.int p1), .val (.int p2), .val (.int p3), .val (.int p4), .val (.int (p0 &&& (3 : Int32))), .val (.int ((((p0.toUInt32 >>> ((2 : Int32) &&& 31).toUInt32).toInt32) &&& (255 : Int32)) % (3 : Int32))), .val (.int c0), .val (.int c1), .val (.ref b105), .val (.ref b106), .val (.ref x110), .val (.ref (own_sel a_IDENTIFIER a_INTEGER a_KEYWORD a_LITERAL a_STRING a_SYMBOL a_END_OF_TEXT a_FAULT (p4 &&& 7))), .val (.ref b131), .unset, .unset]) (n := 136) at_134 rfl rfl rfl ?_
          refine OwnW.goto X135 (n := 151) at_136 (by decide) rfl ?_
          refine OwnW.new X135 (C := "com/example/formal_model_translator/formalmodeltranslator/classicalb/Token") (k := 7) (n := 154) at_151 (hw _ (List.mem_of_getElem? (i := 44) rfl)) (hw _ (List.mem_of_getElem? (i := 45) rfl)) (hw _ (List.mem_of_getElem? (i := 46) rfl)) (by decide) (by decide) rfl ?_
          intro T136 h136 b136 gb136 X136 E136 A136 D136 U136
          have f137 := ((f132.keep K131 nin0).keep K135 (ninS ne_b105_b131 nin0))
          have ne_b105_b136 : b105 ≠ b136 := by rw [gb136]; exact Nat.ne_of_lt f137.lt
          have f138 := ((f133.keep K131).keep K135)
          have ne_b106_b136 : b106 ≠ b136 := by rw [gb136]; exact Nat.ne_of_lt f138.lt
          have f139 := ((f134.keep K131 nin0).keep K135 (ninS ne_t108_b131 nin0))
          have ne_t108_b136 : t108 ≠ b136 := by rw [gb136]; exact Nat.ne_of_lt f139.lt
          have f140 := ((se110.keep K131).keep K135)
          have ne_x110_b136 : x110 ≠ b136 := by rw [gb136]; exact Nat.ne_of_lt f140.lt
          have f141 := ((sa110.keep K131 nin0).keep K135 (ninS ne_t110_b131 nin0))
          have ne_t110_b136 : t110 ≠ b136 := by rw [gb136]; exact Nat.ne_of_lt f141.lt
          have f142 := (A131.keep K135)
          have ne_b131_b136 : b131 ≠ b136 := by rw [gb136]; exact Nat.ne_of_lt f142.lt
          have ge_b136 : n0 ≤ b136 := by rw [gb136]; exact OwnW.oldLe O135
          have K136 := (OwnW.kExt E136)
          have O136 := O135.keep K136 all0
          have Z136 : Keep h0 h136 [] := Z135.trans K136 (fun x hx => nomatch hx)
          have sz_b136 : h0.size ≤ b136 := by rw [gb136]; exact Z135.1
          have F136_kind : Fld Z h136 b136 "com/example/formal_model_translator/formalmodeltranslator/classicalb/Token" "kind" "Lcom/example/formal_model_translator/formalmodeltranslator/classicalb/Token$Kind;" .null := D136 (Or.inr (hw _ (List.mem_of_getElem? (i := 55) rfl))) (ty := (.object "com/example/formal_model_translator/formalmodeltranslator/classicalb/Token$Kind")) (by decide)
          have F136_text : Fld Z h136 b136 "com/example/formal_model_translator/formalmodeltranslator/classicalb/Token" "text" "Ljava/lang/String;" .null := D136 (Or.inr (hw _ (List.mem_of_getElem? (i := 57) rfl))) (ty := (.object "java/lang/String")) (by decide)
          have F136_written : Fld Z h136 b136 "com/example/formal_model_translator/formalmodeltranslator/classicalb/Token" "written" "Ljava/lang/String;" .null := D136 (Or.inr (hw _ (List.mem_of_getElem? (i := 59) rfl))) (ty := (.object "java/lang/String")) (by decide)
          have F136_position : Fld Z h136 b136 "com/example/formal_model_translator/formalmodeltranslator/classicalb/Token" "position" "Lcom/example/formal_model_translator/formalmodeltranslator/model/SourcePosition;" .null := D136 (Or.inr (hw _ (List.mem_of_getElem? (i := 61) rfl))) (ty := (.object "com/example/formal_model_translator/formalmodeltranslator/model/SourcePosition")) (by decide)
          have F136_pragma : Fld Z h136 b136 "com/example/formal_model_translator/formalmodeltranslator/classicalb/Token" "pragma" "Lcom/example/formal_model_translator/formalmodeltranslator/classicalb/LabelPragma;" .null := D136 (Or.inr (hw _ (List.mem_of_getElem? (i := 63) rfl))) (ty := (.object "com/example/formal_model_translator/formalmodeltranslator/classicalb/LabelPragma")) (by decide)
          have F136_opensBody : Fld Z h136 b136 "com/example/formal_model_translator/formalmodeltranslator/classicalb/Token" "opensBody" "Z" (.int (0 : Int32)) := D136 (Or.inr (hw _ (List.mem_of_getElem? (i := 65) rfl))) (ty := .boolean) (by decide)
          have F136_fault : Fld Z h136 b136 "com/example/formal_model_translator/formalmodeltranslator/classicalb/Token" "fault" "Ljava/lang/String;" .null := D136 (Or.inr (hw _ (List.mem_of_getElem? (i := 67) rfl))) (ty := (.object "java/lang/String")) (by decide)
          refine OwnW.dup X136 (n := 155) at_154 rfl rfl ?_
          refine OwnW.aload X136 (n := 157) at_155 rfl rfl rfl ?_
          refine OwnW.aload X136 (n := 159) at_157 rfl rfl rfl ?_
          refine OwnW.anull X136 (n := 160) at_159 rfl ?_
          refine OwnW.aload X136 (n := 162) at_160 rfl rfl rfl ?_
          refine OwnW.call_special_n X136 (z := (⟨"com/example/formal_model_translator/formalmodeltranslator/classicalb/Token", "<init>", "(Lcom/example/formal_model_translator/formalmodeltranslator/classicalb/Token$Kind;Ljava/lang/String;Lcom/example/formal_model_translator/formalmodeltranslator/model/SourcePosition;Lcom/example/formal_model_translator/formalmodeltranslator/classicalb/LabelPragma;)V"⟩ : MethodName)) (a := b136) (n := 165) at_162 (hw _ (List.mem_of_getElem? (i := 47) rfl)) (hw _ (List.mem_of_getElem? (i := 48) rfl)) (hw _ (List.mem_of_getElem? (i := 49) rfl)) (hw _ (List.mem_of_getElem? (i := 46) rfl)) rfl rfl (by decide) (rmT41 l Z a0 hw hE [] b136 (own_sel a_IDENTIFIER a_INTEGER a_KEYWORD a_LITERAL a_STRING a_SYMBOL a_END_OF_TEXT a_FAULT (p4 &&& 7)) x110 b131 h136 n0 O136 ge_b136 A136 _ F136_kind _ F136_text _ F136_written _ F136_position _ F136_pragma _ F136_opensBody _ F136_fault) (OwnW.sfS (List.mem_cons_self ..) OwnW.sf0) (argsL := [(.ref (own_sel a_IDENTIFIER a_INTEGER a_KEYWORD a_LITERAL a_STRING a_SYMBOL a_END_OF_TEXT a_FAULT (p4 &&& 7))), (.ref x110), .null, (.ref b131)]) (rest := [(.ref b136)]) rfl rfl (OwnW.lenA pd__Lcom_example_formal_model_translator_formalmodeltranslator_classicalb_Token_Kind_Ljava_lang_String_Lcom_example_formal_model_translator_formalmodeltranslator_model_SourcePosition_Lcom_example_formal_model_translator_formalmodeltranslator_classicalb_LabelPragma__V rfl) (W := 1) (Nat.le_of_eq rfl) (by decide) (by decide) (by decide) (by decide) rfl ?_
          intro T143 h143 g143 hle143 X143 ⟨k143, f143⟩
          have K143 := k143
          have O143 := O136.keep K143 (allS ge_b136 all0)
          have Z143 : Keep h0 h143 [] := Z136.trans K143 (allS (P := fun x => x ∈ [] ∨ h0.size ≤ x) (Or.inr sz_b136) all0)
          refine OwnW.astore X143 (l' := #[.val (.int p0), .val (.int p1), .val (.int p2), .val (.int p3), .val (.int p4), .val (.int (p0 &&& (3 : Int32))), .val (.int ((((p0.toUInt32 >>> ((2 : Int32) &&& 31).toUInt32).toInt32) &&& (255 : Int32)) % (3 : Int32))), .val (.int c0), .val (.int c1), .val (.ref b105), .val (.ref b106), .val (.ref x110), .val (.ref (own_sel a_IDENTIFIER a_INTEGER a_KEYWORD a_LITERAL a_STRING a_SYMBOL a_END_OF_TEXT a_FAULT (p4 &&& 7))), .val (.ref b131), .val (.ref b136), .unset]) (n := 167) at_165 rfl rfl rfl ?_
          refine OwnW.aload X143 (n := 169) at_167 rfl rfl rfl ?_
          have f144 := ((f142.keep K136).keep K143)
          have f145 := ((f135.keep K136 nin0).keep K143 (ninS ne_b131_b136 nin0))
          have f147 := (A136.keep K143)
          refine OwnW.call_virtual_v X143 (z := (⟨"com/example/formal_model_translator/formalmodeltranslator/classicalb/Token", "getLabel", "()Ljava/lang/String;"⟩ : MethodName)) (yv := (⟨"com/example/formal_model_translator/formalmodeltranslator/classicalb/Token", "getLabel", "()Ljava/lang/String;"⟩ : MethodName)) (a := b136) (C := "com/example/formal_model_translator/formalmodeltranslator/classicalb/Token") (n := 172) at_169 (hw _ (List.mem_of_getElem? (i := 68) rfl)) (hw _ (List.mem_of_getElem? (i := 69) rfl)) (hw _ (List.mem_of_getElem? (i := 70) rfl)) (hw _ (List.mem_of_getElem? (i := 71) rfl)) (fun hz => notFace_of_selects (args := #[]) (mvT hz (hw _ (List.mem_of_getElem? (i := 71) rfl)))) (hw _ (List.mem_of_getElem? (i := 72) rfl)) (hw _ (List.mem_of_getElem? (i := 46) rfl)) (by decide) f147 (rmH1 l Z a0 hw hE [] b136 h143 n0 b131 f143 f144 f145) OwnW.sf0 (argsL := []) (rest := []) rfl rfl (OwnW.lenA pd___Ljava_lang_String_ rfl) (W := 0) (Nat.le_of_eq rfl) (by decide) (by decide) (by decide) (by decide) rfl ?_
          intro T146 h146 w146 g146 hle146 X146 ⟨q1, q2⟩
          subst q1 q2
          refine OwnW.astore X146 (l' := #[.val (.int p0), .val (.int p1), .val (.int p2), .val (.int p3), .val (.int p4), .val (.int (p0 &&& (3 : Int32))), .val (.int ((((p0.toUInt32 >>> ((2 : Int32) &&& 31).toUInt32).toInt32) &&& (255 : Int32)) % (3 : Int32))), .val (.int c0), .val (.int c1), .val (.ref b105), .val (.ref b106), .val (.ref x110), .val (.ref (own_sel a_IDENTIFIER a_INTEGER a_KEYWORD a_LITERAL a_STRING a_SYMBOL a_END_OF_TEXT a_FAULT (p4 &&& 7))), .val (.ref b131), .val (.ref b136), .val .null]) (n := 174) at_172 rfl rfl rfl ?_
          refine OwnW.iload X146 (n := 176) at_174 rfl rfl ?_
          refine OwnW.if_eq X146  (n1 := 185) (n2 := 179) at_176 (by decide) rfl rfl (fun q => absurd q (hc110 : ¬ (p0 &&& (3 : Int32)) = 0)) (fun _ => ?_)
          refine OwnW.iload X146 (n := 181) at_179 rfl rfl ?_
          refine OwnW.iconst X146 (z := (1 : Int32)) (n := 182) at_181 rfl rfl ?_
          refine OwnW.ic_ne X146  (n1 := 196) (n2 := 185) at_182 (by decide) rfl rfl (fun q => absurd (hc122 : (p0 &&& (3 : Int32)) = (1 : Int32)) q) (fun _ => ?_)
          refine OwnW.aload X146 (n := 187) at_185 rfl rfl rfl ?_
          refine OwnW.ifnonnull_n X146 (n2 := 190) at_187 rfl ?_
          refine OwnW.iconst X146 (z := (1 : Int32)) (n := 191) at_190 rfl rfl ?_
          refine OwnW.goto X146 (n := 195) at_191 (by decide) rfl ?_
          exact OwnW.ireturn X146 rfl (Or.inr (Or.inl rfl)) rfl at_195 rfl (by decide) (by decide)
      · refine OwnW.anull X111 (n := 114) at_113 rfl ?_
        refine OwnW.astore X111 (l' := #[.val (.int p0), .val (.int p1), .val (.int p2), .val (.int p3), .val (.int p4), .val (.int (p0 &&& (3 : Int32))), .val (.int ((((p0.toUInt32 >>> ((2 : Int32) &&& 31).toUInt32).toInt32) &&& (255 : Int32)) % (3 : Int32))), .val (.int c0), .val (.int c1), .val (.ref b105), .val (.ref b106), .val (.ref x110), .val (.ref (own_sel a_IDENTIFIER a_INTEGER a_KEYWORD a_LITERAL a_STRING a_SYMBOL a_END_OF_TEXT a_FAULT (p4 &&& 7))), .val .null, .unset, .unset]) (n := 116) at_114 rfl rfl rfl ?_
        refine OwnW.goto X111 (n := 151) at_116 (by decide) rfl ?_
        refine OwnW.new X111 (C := "com/example/formal_model_translator/formalmodeltranslator/classicalb/Token") (k := 7) (n := 154) at_151 (hw _ (List.mem_of_getElem? (i := 44) rfl)) (hw _ (List.mem_of_getElem? (i := 45) rfl)) (hw _ (List.mem_of_getElem? (i := 46) rfl)) (by decide) (by decide) rfl ?_
        intro T148 h148 b148 gb148 X148 E148 A148 D148 U148
        have f149 := (f109.keep K110 nin0)
        have ne_b105_b148 : b105 ≠ b148 := by rw [gb148]; exact Nat.ne_of_lt f149.lt
        have f150 := (se108.keep K110)
        have ne_b106_b148 : b106 ≠ b148 := by rw [gb148]; exact Nat.ne_of_lt f150.lt
        have f151 := (sa108.keep K110 nin0)
        have ne_t108_b148 : t108 ≠ b148 := by rw [gb148]; exact Nat.ne_of_lt f151.lt
        have ne_x110_b148 : x110 ≠ b148 := by rw [gb148]; exact Nat.ne_of_lt se110.lt
        have ne_t110_b148 : t110 ≠ b148 := by rw [gb148]; exact Nat.ne_of_lt sa110.lt
        have ge_b148 : n0 ≤ b148 := by rw [gb148]; exact OwnW.oldLe O110
        have K148 := (OwnW.kExt E148)
        have O148 := O110.keep K148 all0
        have Z148 : Keep h0 h148 [] := Z110.trans K148 (fun x hx => nomatch hx)
        have sz_b148 : h0.size ≤ b148 := by rw [gb148]; exact Z110.1
        have F148_kind : Fld Z h148 b148 "com/example/formal_model_translator/formalmodeltranslator/classicalb/Token" "kind" "Lcom/example/formal_model_translator/formalmodeltranslator/classicalb/Token$Kind;" .null := D148 (Or.inr (hw _ (List.mem_of_getElem? (i := 55) rfl))) (ty := (.object "com/example/formal_model_translator/formalmodeltranslator/classicalb/Token$Kind")) (by decide)
        have F148_text : Fld Z h148 b148 "com/example/formal_model_translator/formalmodeltranslator/classicalb/Token" "text" "Ljava/lang/String;" .null := D148 (Or.inr (hw _ (List.mem_of_getElem? (i := 57) rfl))) (ty := (.object "java/lang/String")) (by decide)
        have F148_written : Fld Z h148 b148 "com/example/formal_model_translator/formalmodeltranslator/classicalb/Token" "written" "Ljava/lang/String;" .null := D148 (Or.inr (hw _ (List.mem_of_getElem? (i := 59) rfl))) (ty := (.object "java/lang/String")) (by decide)
        have F148_position : Fld Z h148 b148 "com/example/formal_model_translator/formalmodeltranslator/classicalb/Token" "position" "Lcom/example/formal_model_translator/formalmodeltranslator/model/SourcePosition;" .null := D148 (Or.inr (hw _ (List.mem_of_getElem? (i := 61) rfl))) (ty := (.object "com/example/formal_model_translator/formalmodeltranslator/model/SourcePosition")) (by decide)
        have F148_pragma : Fld Z h148 b148 "com/example/formal_model_translator/formalmodeltranslator/classicalb/Token" "pragma" "Lcom/example/formal_model_translator/formalmodeltranslator/classicalb/LabelPragma;" .null := D148 (Or.inr (hw _ (List.mem_of_getElem? (i := 63) rfl))) (ty := (.object "com/example/formal_model_translator/formalmodeltranslator/classicalb/LabelPragma")) (by decide)
        have F148_opensBody : Fld Z h148 b148 "com/example/formal_model_translator/formalmodeltranslator/classicalb/Token" "opensBody" "Z" (.int (0 : Int32)) := D148 (Or.inr (hw _ (List.mem_of_getElem? (i := 65) rfl))) (ty := .boolean) (by decide)
        have F148_fault : Fld Z h148 b148 "com/example/formal_model_translator/formalmodeltranslator/classicalb/Token" "fault" "Ljava/lang/String;" .null := D148 (Or.inr (hw _ (List.mem_of_getElem? (i := 67) rfl))) (ty := (.object "java/lang/String")) (by decide)
        refine OwnW.dup X148 (n := 155) at_154 rfl rfl ?_
        refine OwnW.aload X148 (n := 157) at_155 rfl rfl rfl ?_
        refine OwnW.aload X148 (n := 159) at_157 rfl rfl rfl ?_
        refine OwnW.anull X148 (n := 160) at_159 rfl ?_
        refine OwnW.aload X148 (n := 162) at_160 rfl rfl rfl ?_
        refine OwnW.call_special_n X148 (z := (⟨"com/example/formal_model_translator/formalmodeltranslator/classicalb/Token", "<init>", "(Lcom/example/formal_model_translator/formalmodeltranslator/classicalb/Token$Kind;Ljava/lang/String;Lcom/example/formal_model_translator/formalmodeltranslator/model/SourcePosition;Lcom/example/formal_model_translator/formalmodeltranslator/classicalb/LabelPragma;)V"⟩ : MethodName)) (a := b148) (n := 165) at_162 (hw _ (List.mem_of_getElem? (i := 47) rfl)) (hw _ (List.mem_of_getElem? (i := 48) rfl)) (hw _ (List.mem_of_getElem? (i := 49) rfl)) (hw _ (List.mem_of_getElem? (i := 46) rfl)) rfl rfl (by decide) (rmT40 l Z a0 hw hE [] b148 (own_sel a_IDENTIFIER a_INTEGER a_KEYWORD a_LITERAL a_STRING a_SYMBOL a_END_OF_TEXT a_FAULT (p4 &&& 7)) x110 h148 n0 O148 ge_b148 A148 _ F148_kind _ F148_text _ F148_written _ F148_position _ F148_pragma _ F148_opensBody _ F148_fault) (OwnW.sfS (List.mem_cons_self ..) OwnW.sf0) (argsL := [(.ref (own_sel a_IDENTIFIER a_INTEGER a_KEYWORD a_LITERAL a_STRING a_SYMBOL a_END_OF_TEXT a_FAULT (p4 &&& 7))), (.ref x110), .null, .null]) (rest := [(.ref b148)]) rfl rfl (OwnW.lenA pd__Lcom_example_formal_model_translator_formalmodeltranslator_classicalb_Token_Kind_Ljava_lang_String_Lcom_example_formal_model_translator_formalmodeltranslator_model_SourcePosition_Lcom_example_formal_model_translator_formalmodeltranslator_classicalb_LabelPragma__V rfl) (W := 1) (Nat.le_of_eq rfl) (by decide) (by decide) (by decide) (by decide) rfl ?_
        intro T152 h152 g152 hle152 X152 ⟨k152, f152⟩
        have K152 := k152
        have O152 := O148.keep K152 (allS ge_b148 all0)
        have Z152 : Keep h0 h152 [] := Z148.trans K152 (allS (P := fun x => x ∈ [] ∨ h0.size ≤ x) (Or.inr sz_b148) all0)
        refine OwnW.astore X152 (l' := #[.val (.int p0), .val (.int p1), .val (.int p2), .val (.int p3), .val (.int p4), .val (.int (p0 &&& (3 : Int32))), .val (.int ((((p0.toUInt32 >>> ((2 : Int32) &&& 31).toUInt32).toInt32) &&& (255 : Int32)) % (3 : Int32))), .val (.int c0), .val (.int c1), .val (.ref b105), .val (.ref b106), .val (.ref x110), .val (.ref (own_sel a_IDENTIFIER a_INTEGER a_KEYWORD a_LITERAL a_STRING a_SYMBOL a_END_OF_TEXT a_FAULT (p4 &&& 7))), .val .null, .val (.ref b148), .unset]) (n := 167) at_165 rfl rfl rfl ?_
        refine OwnW.aload X152 (n := 169) at_167 rfl rfl rfl ?_
        have f154 := (A148.keep K152)
        refine OwnW.call_virtual_v X152 (z := (⟨"com/example/formal_model_translator/formalmodeltranslator/classicalb/Token", "getLabel", "()Ljava/lang/String;"⟩ : MethodName)) (yv := (⟨"com/example/formal_model_translator/formalmodeltranslator/classicalb/Token", "getLabel", "()Ljava/lang/String;"⟩ : MethodName)) (a := b148) (C := "com/example/formal_model_translator/formalmodeltranslator/classicalb/Token") (n := 172) at_169 (hw _ (List.mem_of_getElem? (i := 68) rfl)) (hw _ (List.mem_of_getElem? (i := 69) rfl)) (hw _ (List.mem_of_getElem? (i := 70) rfl)) (hw _ (List.mem_of_getElem? (i := 71) rfl)) (fun hz => notFace_of_selects (args := #[]) (mvT hz (hw _ (List.mem_of_getElem? (i := 71) rfl)))) (hw _ (List.mem_of_getElem? (i := 72) rfl)) (hw _ (List.mem_of_getElem? (i := 46) rfl)) (by decide) f154 (rmH0 l Z a0 hw hE [] b148 h152 n0 f152) OwnW.sf0 (argsL := []) (rest := []) rfl rfl (OwnW.lenA pd___Ljava_lang_String_ rfl) (W := 0) (Nat.le_of_eq rfl) (by decide) (by decide) (by decide) (by decide) rfl ?_
        intro T153 h153 w153 g153 hle153 X153 ⟨q1, q2⟩
        subst q1 q2
        refine OwnW.astore X153 (l' := #[.val (.int p0), .val (.int p1), .val (.int p2), .val (.int p3), .val (.int p4), .val (.int (p0 &&& (3 : Int32))), .val (.int ((((p0.toUInt32 >>> ((2 : Int32) &&& 31).toUInt32).toInt32) &&& (255 : Int32)) % (3 : Int32))), .val (.int c0), .val (.int c1), .val (.ref b105), .val (.ref b106), .val (.ref x110), .val (.ref (own_sel a_IDENTIFIER a_INTEGER a_KEYWORD a_LITERAL a_STRING a_SYMBOL a_END_OF_TEXT a_FAULT (p4 &&& 7))), .val .null, .val (.ref b148), .val .null]) (n := 174) at_172 rfl rfl rfl ?_
        refine OwnW.iload X153 (n := 176) at_174 rfl rfl ?_
        refine OwnW.if_eq X153  (n1 := 185) (n2 := 179) at_176 (by decide) rfl rfl (fun _ => ?_) (fun q => absurd (hc110 : (p0 &&& (3 : Int32)) = 0) q)
        refine OwnW.aload X153 (n := 187) at_185 rfl rfl rfl ?_
        refine OwnW.ifnonnull_n X153 (n2 := 190) at_187 rfl ?_
        refine OwnW.iconst X153 (z := (1 : Int32)) (n := 191) at_190 rfl rfl ?_
        refine OwnW.goto X153 (n := 195) at_191 (by decide) rfl ?_
        exact OwnW.ireturn X153 rfl (Or.inr (Or.inl rfl)) rfl at_195 rfl (by decide) (by decide)
  · intro J1
    exact J1 _ (((p1 &&& (255 : Int32)).toUInt32.toUInt16.toUInt32.toInt32), ((p2 &&& (255 : Int32)).toUInt32.toUInt16.toUInt32.toInt32)) X0 ⟨own_255 _, own_255 _⟩
set_option maxRecDepth 65536 in
set_option maxHeartbeats 40000000 in
theorem comes_1 {Post : Tables → Env → Array Value → State → Outcome → State → Prop} (hpost : ∀ tb e args s v u, (limb_1_1.after args s (.returned v) u = true ∧ limb_1_2.after args s (.returned v) u = true ∧ True) → ReturnedEndW s (.returned v) u (Jvm.fieldLocs frame_1_writes args s ++ Jvm.arrayLocs frame_1_arrays args s ++ Jvm.staticLocs frame_1_statics s) 24 1152 → Post tb e args s (.returned v) u) :
    ArmFor flags0 classFile x code maxLocals ret World_1 tables_1 room_1 Calls_1 rest_1 Pre_1 Post := by
  intro l hfl _ _ p e ha hc hk s m args below hf hA hF happ hP
  obtain ⟨hcalls, hrest, hpre⟩ := hP
  obtain ⟨-, -, -, hnamed, -, -, -, hat⟩ := (Spec.applies_iff hf).mp happ
  obtain ⟨hg, hn⟩ := and_e (Cond.before_iff.mp (show (Jvm.Cond.and given_1 narrow_1).before args s = true from hpre))
  obtain ⟨g0, q1⟩ := and_e hg
  obtain ⟨g1, q2⟩ := and_e q1
  obtain ⟨g2, q3⟩ := and_e q2
  obtain ⟨g3, q4⟩ := and_e q3
  obtain ⟨g4, g5⟩ := and_e q4
  obtain ⟨w0, w1, w2, w3, w4, rfl⟩ : ∃ w0 w1 w2 w3 w4 : Value, args = #[w0, w1, w2, w3, w4] := by
    have hs : args.size = 5 := by simpa [Cond.value, given_1] using g0
    obtain ⟨L⟩ := args
    match L, hs with
    | [w0, w1, w2, w3, w4], _ => exact ⟨w0, w1, w2, w3, w4, rfl⟩
  have hw := fun d (hd : d ∈ tables_1) => atoms_spec (ws := Jvm.Cond.code x code maxLocals ret :: tables_1) hat d (List.mem_cons_of_mem _ hd)
  have hfit : Fit s := fun {y c} hc i hi => by
    obtain ⟨ha, rfl⟩ := Array.getElem?_eq_some_iff.mp hc
    have q := List.all_eq_true.mp ((Array.all_eq_true_iff_forall_mem.mp hF) _ (Array.getElem_mem ha)) i (List.mem_range.mpr hi)
    simpa [Array.getElem?_eq_getElem hi] using q
  obtain ⟨hsets, hown0⟩ := atoms_of _ (rest_1_c_eq ▸ (show rest_1_c.before _ s = true from hrest))
  have wS : ∀ a ∈ Bundle.stringAtoms, a.before _ s = true := fun d hd => hw d ((by decide +kernel : ∀ d ∈ Bundle.stringAtoms, d ∈ tables_1) d hd)
  have hE : EW s _ own_EL := own_EW hw
  have hCH : CHv s own_EL s.vm s.heap := CHv.start hE (own_held hcalls) (hsets _ (List.mem_of_getElem? (i := 2) rfl)) (wS _ (by simp [Bundle.stringAtoms])) (wS _ (by simp [Bundle.stringAtoms, Bundle.sN]))
  obtain ⟨i0, e0⟩ := is_v g1
  obtain rfl : w0 = (.int i0) := Option.some.inj e0
  obtain ⟨i1, e1⟩ := is_v g2
  obtain rfl : w1 = (.int i1) := Option.some.inj e1
  obtain ⟨i2, e2⟩ := is_v g3
  obtain rfl : w2 = (.int i2) := Option.some.inj e2
  obtain ⟨i3, e3⟩ := is_v g4
  obtain rfl : w3 = (.int i3) := Option.some.inj e3
  obtain ⟨i4, e4⟩ := is_v g5
  obtain rfl : w4 = (.int i4) := Option.some.inj e4
  obtain ⟨c0, cc0⟩ := and_e hn
  obtain ⟨c1, cc1⟩ := and_e cc0
  obtain ⟨c2, cc2⟩ := and_e cc1
  obtain ⟨c3, cc3⟩ := and_e cc2
  obtain ⟨c4, cc4⟩ := and_e cc3
  obtain ⟨c5, cc5⟩ := and_e cc4
  obtain ⟨c6, c7⟩ := and_e cc5
  obtain ⟨a_IDENTIFIER, ev_IDENTIFIER⟩ := exa_v c0
  have S_IDENTIFIER := Sta.start ev_IDENTIFIER (Or.inr ⟨(hw _ (List.mem_of_getElem? (i := 42) rfl)), (hw _ (List.mem_of_getElem? (i := 43) rfl))⟩)
  have E_IDENTIFIER := Exa.start ev_IDENTIFIER c0
  obtain ⟨a_FAULT, ev_FAULT⟩ := exa_v c1
  have S_FAULT := Sta.start ev_FAULT (Or.inr ⟨(hw _ (List.mem_of_getElem? (i := 42) rfl)), (hw _ (List.mem_of_getElem? (i := 74) rfl))⟩)
  have E_FAULT := Exa.start ev_FAULT c1
  obtain ⟨a_INTEGER, ev_INTEGER⟩ := exa_v c2
  have S_INTEGER := Sta.start ev_INTEGER (Or.inr ⟨(hw _ (List.mem_of_getElem? (i := 42) rfl)), (hw _ (List.mem_of_getElem? (i := 107) rfl))⟩)
  have E_INTEGER := Exa.start ev_INTEGER c2
  obtain ⟨a_LITERAL, ev_LITERAL⟩ := exa_v c3
  have S_LITERAL := Sta.start ev_LITERAL (Or.inr ⟨(hw _ (List.mem_of_getElem? (i := 42) rfl)), (hw _ (List.mem_of_getElem? (i := 109) rfl))⟩)
  have E_LITERAL := Exa.start ev_LITERAL c3
  obtain ⟨a_SYMBOL, ev_SYMBOL⟩ := exa_v c4
  have S_SYMBOL := Sta.start ev_SYMBOL (Or.inr ⟨(hw _ (List.mem_of_getElem? (i := 42) rfl)), (hw _ (List.mem_of_getElem? (i := 111) rfl))⟩)
  have E_SYMBOL := Exa.start ev_SYMBOL c4
  obtain ⟨a_STRING, ev_STRING⟩ := exa_v c5
  have S_STRING := Sta.start ev_STRING (Or.inr ⟨(hw _ (List.mem_of_getElem? (i := 42) rfl)), (hw _ (List.mem_of_getElem? (i := 113) rfl))⟩)
  have E_STRING := Exa.start ev_STRING c5
  obtain ⟨a_END_OF_TEXT, ev_END_OF_TEXT⟩ := exa_v c6
  have S_END_OF_TEXT := Sta.start ev_END_OF_TEXT (Or.inr ⟨(hw _ (List.mem_of_getElem? (i := 42) rfl)), (hw _ (List.mem_of_getElem? (i := 115) rfl))⟩)
  have E_END_OF_TEXT := Exa.start ev_END_OF_TEXT c6
  obtain ⟨a_KEYWORD, ev_KEYWORD⟩ := exa_v c7
  have S_KEYWORD := Sta.start ev_KEYWORD (Or.inr ⟨(hw _ (List.mem_of_getElem? (i := 42) rfl)), (hw _ (List.mem_of_getElem? (i := 117) rfl))⟩)
  have E_KEYWORD := Exa.start ev_KEYWORD c7
  obtain ⟨zc, ezc⟩ := is_v (Cond.before_iff.mp (hsets _ (List.mem_of_getElem? (i := 1) rfl)))
  have S_compact : Sta s s.heap "java/lang/String" "COMPACT_STRINGS" "Z" (.int zc) := Sta.start ezc (Or.inl (hsets _ (List.mem_of_getElem? (i := 0) rfl)))
  have hzc : ¬ (zc = (0 : Int32)) := gotF (Cond.eq_ints ezc (Term.int_eval (0))) (not_v (Cond.before_iff.mp (hsets _ (List.mem_of_getElem? (i := 2) rfl))))
  obtain ⟨n, o, h1, h2, h3, v, L, rfl, ⟨sfn, ⟨w, rfl, rfl⟩, hsn, N⟩, hcr, hq⟩ := rm0 l s _ hw hE tables_1 i0 i1 i2 i3 i4 s.heap s.heap.size (Old.start s) a_IDENTIFIER S_IDENTIFIER E_IDENTIFIER a_FAULT S_FAULT E_FAULT a_INTEGER S_INTEGER E_INTEGER a_LITERAL S_LITERAL E_LITERAL a_SYMBOL S_SYMBOL E_SYMBOL a_STRING S_STRING E_STRING a_END_OF_TEXT S_END_OF_TEXT E_END_OF_TEXT a_KEYWORD S_KEYWORD E_KEYWORD zc hzc S_compact p e ha hc hk s m _ below hf ((Spec.applies_iff_loose hf).mp happ).1 ⟨rfl, State.Warmed39.refl s, rfl, hCH, fun x hx => nomatch hx⟩ (fun z => z.elim)
  refine ⟨n, _, h1, h2, h3, hpost _ _ _ _ _ _ ⟨Cond.after_iff.mpr rfl, Cond.after_iff.mpr (eq_i res_at (Term.int_eval (1)) rfl), trivial⟩ ⟨hq.1, hq.2.1, hq.2.2.1, (hq.2.2.2.sift fun y hy => Or.inr (N y hy)).mono (by decide) (by decide)⟩⟩
theorem main_1_1 : Claimed_1_1 := comes_1 fun _ _ _ _ _ _ h hF => ⟨h.1, hF⟩
theorem main_1_2 : Claimed_1_2 := comes_1 fun _ _ _ _ _ _ h hF => ⟨h.2.1, hF⟩
end Jvm.Pilot.@@N@@
namespace Jvm.Pilot.@@N@@
open Jvm Jvm.ClassFile Sem Op Lib Jvm.Free Jvm.Stand Jvm.Pilot.@@N@@.Jvm.D
/-! MADE BY PROGRAM (witnessworld.py) out of the Statement's table words and the real class files: 23 classes; the members and pool entries that the words name. The judged class is class 1, her method 2. -/
namespace start1
open Jvm.ClassFile
def u (s : String) : CpInfo := .utf8 (stringToUtf16 s)
/-- a pool by its gaps: so many unusable entries, then the entry; so many at the end -/
def gap : Nat → List CpInfo → List CpInfo
  | 0, r => r
  | n + 1, r => .unusable :: gap n r
def poolList (es : List (Nat × CpInfo)) (last : Nat) : List CpInfo := es.foldr (fun e r => gap e.1 (e.2 :: r)) (gap last [])
def pool (es : List (Nat × CpInfo)) (last : Nat) : Array CpInfo := ⟨poolList es last⟩
def fileOf (pool : Array CpInfo) (this : Nat) (attrs : Array Attribute := #[]) (ms : Array MethodInfo := #[]) (fl : Nat := 33) (sup : Nat := 0) (ifs : Array Nat := #[]) (fds : Array FieldInfo := #[]) : ClassFile where
  minorVersion := 0
  majorVersion := 65
  constantPool := pool
  accessFlags := fl
  thisClass := this
  superClass := sup
  interfaces := ifs
  fields := fds
  methods := ms
  attributes := attrs
def plain (name : String) (sup : Option ClassId) : Class where
  name := name
  kind := .ordinary
  loader := none
  accessFlags := 33
  super := sup
  interfaces := #[]
  cf := none
  fields := #[]
  methods := #[]
  instanceTypes := #[]
  staticTypes := #[]
  resolved := #[]
  callSites := []
  init := .initialized
  statics := none
  mirror := none

def pool0 : Array CpInfo := pool [(5, u "<init>"), (0, u "()V"), (1, .class_ 10), (1, u "java/lang/Object")] 113

def k0c0 : Code := { maxStack := 0, maxLocals := 1, code := object_method_1_code, exceptionTable := #[], attributes := #[] }
def k0m0 : Method := { name := "<init>", desc := "()V", sig := { parameters := [], returnType := none }, accessFlags := 1, code := some k0c0 }
/-- java/lang/Object -/
def k0 : Class := { plain "java/lang/Object" none with
  accessFlags := 33
  interfaces := #[]
  cf := some (fileOf pool0 8 #[] #[{ accessFlags := 1, nameIndex := 5, descriptorIndex := 6, attributes := #[] }] 33 0 #[] #[])
  fields := #[]
  methods := #[k0m0]
  instanceTypes := #[]
  staticTypes := #[]
  resolved := Array.replicate 124 none
  statics := none }

def pool1 : Array CpInfo := pool [(2, .class_ 4), (1, u "java/lang/Object"), (0, u "<init>"), (0, u "()V"), (0, .fieldref 8 9), (0, .class_ 10), (0, .nameAndType 11 12), (0, u "com/example/formal_model_translator/formalmodeltranslator/classicalb/Token$Kind"), (0, u "IDENTIFIER"), (0, u "Lcom/example/formal_model_translator/formalmodeltranslator/classicalb/Token$Kind;"), (0, .fieldref 8 14), (0, .nameAndType 15 12), (0, u "INTEGER"), (0, .fieldref 8 17), (0, .nameAndType 18 12), (0, u "KEYWORD"), (0, .fieldref 8 20), (0, .nameAndType 21 12), (0, u "LITERAL"), (0, .fieldref 8 23), (0, .nameAndType 24 12), (0, u "STRING"), (0, .fieldref 8 26), (0, .nameAndType 27 12), (0, u "SYMBOL"), (0, .fieldref 8 29), (0, .nameAndType 30 12), (0, u "END_OF_TEXT"), (0, .fieldref 8 32), (0, .nameAndType 33 12), (0, u "FAULT"), (0, .class_ 35), (0, u "java/lang/String"), (0, .methodref 34 37), (0, .nameAndType 5 38), (0, u "([C)V"), (0, .methodref 34 40), (0, .nameAndType 41 42), (0, u "valueOf"), (0, u "(C)Ljava/lang/String;"), (0, .methodref 44 45), (0, .class_ 46), (0, .nameAndType 47 48), (0, u "com/example/formal_model_translator/formalmodeltranslator/classicalb/TokenGetLabelPinLaw"), (0, u "kindOf"), (0, u "(I)Lcom/example/formal_model_translator/formalmodeltranslator/classicalb/Token$Kind;"), (0, .class_ 50), (0, u "com/example/formal_model_translator/formalmodeltranslator/classicalb/LabelPragma"), (0, .methodref 49 52), (0, .nameAndType 5 53), (0, u "(Ljava/lang/String;Lcom/example/formal_model_translator/formalmodeltranslator/model/SourcePosition;)V"), (0, .class_ 55), (0, u "com/example/formal_model_translator/formalmodeltranslator/classicalb/Token"), (0, .methodref 54 57), (0, .nameAndType 5 58), (0, u "(Lcom/example/formal_model_translator/formalmodeltranslator/classicalb/Token$Kind;Ljava/lang/String;Lcom/example/formal_model_translator/formalmodeltranslator/model/SourcePosition;Lcom/example/formal_model_translator/formalmodeltranslator/classicalb/LabelPragma;)V"), (0, .methodref 54 60), (0, .nameAndType 61 62), (0, u "getLabel"), (0, u "()Ljava/lang/String;"), (0, .methodref 34 64), (0, .nameAndType 65 66), (0, u "equals"), (0, u "(Ljava/lang/Object;)Z"), (3, u "law"), (0, u "(IIIII)Z")] 6

def k1m0 : Method := { name := "<init>", desc := "()V", sig := { parameters := [], returnType := none }, accessFlags := 1, code := none }
def k1c1 : Code := { maxStack := 2, maxLocals := 2, code := method_2_code, exceptionTable := #[], attributes := #[] }
def k1m1 : Method := { name := "kindOf", desc := "(I)Lcom/example/formal_model_translator/formalmodeltranslator/classicalb/Token$Kind;", sig := { parameters := [.int], returnType := some (.object "com/example/formal_model_translator/formalmodeltranslator/classicalb/Token$Kind") }, accessFlags := 10, code := some k1c1 }
def k1c2 : Code := { maxStack := 6, maxLocals := 16, code := code, exceptionTable := #[], attributes := #[] }
def k1m2 : Method := { name := "law", desc := "(IIIII)Z", sig := { parameters := [.int, .int, .int, .int, .int], returnType := some .boolean }, accessFlags := 9, code := some k1c2 }
/-- com/example/formal_model_translator/formalmodeltranslator/classicalb/TokenGetLabelPinLaw -/
def k1 : Class := { plain "com/example/formal_model_translator/formalmodeltranslator/classicalb/TokenGetLabelPinLaw" (some 0) with
  accessFlags := 49
  interfaces := #[]
  cf := some (fileOf pool1 44 #[] #[{ accessFlags := 1, nameIndex := 5, descriptorIndex := 6, attributes := #[] }, { accessFlags := 10, nameIndex := 47, descriptorIndex := 48, attributes := #[] }, { accessFlags := 9, nameIndex := 70, descriptorIndex := 71, attributes := #[] }] 49 2 #[] #[])
  fields := #[]
  methods := #[k1m0, k1m1, k1m2]
  instanceTypes := #[]
  staticTypes := #[]
  resolved := Array.replicate 78 none
  statics := none }

def pool2 : Array CpInfo := pool [(1, .class_ 2), (0, u "java/io/Serializable"), (0, .class_ 4), (0, u "java/lang/Object")] 2

/-- java/io/Serializable -/
def k2 : Class := { plain "java/io/Serializable" (some 0) with
  accessFlags := 1537
  interfaces := #[]
  cf := some (fileOf pool2 1 #[] #[] 1537 3 #[] #[])
  fields := #[]
  methods := #[]
  instanceTypes := #[]
  staticTypes := #[]
  resolved := Array.replicate 7 none
  statics := none }

def pool3 : Array CpInfo := pool [(1, .class_ 2), (0, u "java/lang/Comparable"), (0, .class_ 4), (0, u "java/lang/Object")] 7

/-- java/lang/Comparable -/
def k3 : Class := { plain "java/lang/Comparable" (some 0) with
  accessFlags := 1537
  interfaces := #[]
  cf := some (fileOf pool3 1 #[] #[] 1537 3 #[] #[])
  fields := #[]
  methods := #[]
  instanceTypes := #[]
  staticTypes := #[]
  resolved := Array.replicate 12 none
  statics := none }

def pool4 : Array CpInfo := pool [(2, .class_ 4), (1, u "java/lang/CharSequence"), (42, .class_ 48), (0, u "java/lang/CharSequence$1CodePointIterator"), (10, .class_ 60), (0, u "java/lang/CharSequence$1CharIterator"), (5, .class_ 67), (0, u "java/lang/Object")] 63

/-- java/lang/CharSequence -/
def k4 : Class := { plain "java/lang/CharSequence" (some 0) with
  accessFlags := 1537
  interfaces := #[]
  cf := some (fileOf pool4 2 #[.nestMembers #[47, 59]] #[] 1537 66 #[] #[])
  fields := #[]
  methods := #[]
  instanceTypes := #[]
  staticTypes := #[]
  resolved := Array.replicate 131 none
  statics := none }

def pool5 : Array CpInfo := pool [(1, .class_ 2), (0, u "java/lang/constant/Constable"), (0, .class_ 4), (0, u "java/lang/Object")] 6

/-- java/lang/constant/Constable -/
def k5 : Class := { plain "java/lang/constant/Constable" (some 0) with
  accessFlags := 1537
  interfaces := #[]
  cf := some (fileOf pool5 1 #[] #[] 1537 3 #[] #[])
  fields := #[]
  methods := #[]
  instanceTypes := #[]
  staticTypes := #[]
  resolved := Array.replicate 11 none
  statics := none }

def pool6 : Array CpInfo := pool [(1, .class_ 2), (0, u "java/lang/constant/ConstantDesc"), (0, .class_ 4), (0, u "java/lang/Object")] 32

/-- java/lang/constant/ConstantDesc -/
def k6 : Class := { plain "java/lang/constant/ConstantDesc" (some 0) with
  accessFlags := 1537
  interfaces := #[]
  cf := some (fileOf pool6 1 #[] #[] 1537 3 #[] #[])
  fields := #[]
  methods := #[]
  instanceTypes := #[]
  staticTypes := #[]
  resolved := Array.replicate 37 none
  statics := none }

def pool7 : Array CpInfo := pool [(1, .methodref 2 3), (0, .class_ 4), (0, .nameAndType 5 6), (0, u "java/lang/Object"), (0, u "<init>"), (0, u "()V"), (0, .string 8), (0, u ""), (0, .fieldref 10 11), (0, .class_ 12), (0, .nameAndType 13 14), (0, u "java/lang/String"), (0, u "value"), (0, u "[B"), (0, .fieldref 10 16), (0, .nameAndType 17 18), (0, u "coder"), (0, u "B"), (2, u "hash"), (0, u "I"), (2, u "hashIsZero"), (0, u "Z"), (0, .methodref 10 28), (0, .nameAndType 5 29), (0, u "([CIILjava/lang/Void;)V"), (8, .fieldref 10 39), (0, .nameAndType 40 26), (0, u "COMPACT_STRINGS"), (1, .class_ 44), (1, u "java/lang/StringUTF16"), (0, u "compress"), (1, .methodref 42 48), (0, .nameAndType 49 50), (0, u "coderFromArrayLen"), (0, u "([BI)B"), (2, u "toBytes"), (53, .class_ 109), (1, u "java/lang/StringLatin1"), (67, .methodref 42 178), (0, .nameAndType 45 179), (0, u "([CII)[B"), (29, .methodref 10 210), (0, .nameAndType 5 211), (0, u "([BB)V"), (157, u "(C)Z"), (173, u "equals"), (29, u "(Ljava/lang/Object;)Z"), (1, .class_ 576), (0, u "java/lang/CharSequence"), (22, u "CASE_INSENSITIVE_ORDER"), (0, u "Ljava/util/Comparator;"), (181, u "valueOf"), (0, u "(C)Ljava/lang/String;"), (226, u "([C)V"), (4, .methodref 107 1016), (0, .nameAndType 1017 369), (0, u "canEncode"), (0, .methodref 107 1019), (0, .nameAndType 53 1020), (0, u "(C)[B"), (80, u "serialPersistentFields"), (0, u "[Ljava/io/ObjectStreamField;"), (0, .class_ 1104), (0, u "java/lang/String$CaseInsensitiveComparator"), (1, .class_ 1107), (0, u "java/io/Serializable"), (0, .class_ 1109), (0, u "java/lang/Comparable"), (0, .class_ 1111), (0, u "java/lang/constant/Constable"), (0, .class_ 1113), (0, u "java/lang/constant/ConstantDesc"), (2, u "serialVersionUID"), (0, u "J"), (3, u "REPL"), (0, u "C"), (2, u "LATIN1"), (1, u "UTF16")] 323

def k7m0 : Method := { name := "<init>", desc := "()V", sig := { parameters := [], returnType := none }, accessFlags := 1, code := none }
def k7c1 : Code := { maxStack := 5, maxLocals := 2, code := jdk_42_method_3_code, exceptionTable := #[], attributes := #[] }
def k7m1 : Method := { name := "<init>", desc := "([C)V", sig := { parameters := [(.array .char)], returnType := none }, accessFlags := 1, code := some k7c1 }
def k7c2 : Code := { maxStack := 2, maxLocals := 3, code := jdk_42_method_66_code, exceptionTable := #[], attributes := #[] }
def k7m2 : Method := { name := "equals", desc := "(Ljava/lang/Object;)Z", sig := { parameters := [(.object "java/lang/Object")], returnType := some .boolean }, accessFlags := 1, code := some k7c2 }
def k7c3 : Code := { maxStack := 4, maxLocals := 1, code := jdk_42_method_139_code, exceptionTable := #[], attributes := #[] }
def k7m3 : Method := { name := "valueOf", desc := "(C)Ljava/lang/String;", sig := { parameters := [.char], returnType := some (.object "java/lang/String") }, accessFlags := 9, code := some k7c3 }
def k7c4 : Code := { maxStack := 4, maxLocals := 6, code := jdk_42_method_149_code, exceptionTable := #[], attributes := #[] }
def k7m4 : Method := { name := "<init>", desc := "([CIILjava/lang/Void;)V", sig := { parameters := [(.array .char), .int, .int, (.object "java/lang/Void")], returnType := none }, accessFlags := 2, code := some k7c4 }
def k7c5 : Code := { maxStack := 2, maxLocals := 3, code := jdk_42_method_151_code, exceptionTable := #[], attributes := #[] }
def k7m5 : Method := { name := "<init>", desc := "([BB)V", sig := { parameters := [(.array .byte), .byte], returnType := none }, accessFlags := 0, code := some k7c5 }
/-- java/lang/String -/
def k7 : Class := { plain "java/lang/String" (some 0) with
  accessFlags := 49
  interfaces := #[2, 3, 4, 5, 6]
  cf := some (fileOf pool7 10 #[.nestMembers #[1103]] #[{ accessFlags := 1, nameIndex := 5, descriptorIndex := 6, attributes := #[] }, { accessFlags := 1, nameIndex := 5, descriptorIndex := 1010, attributes := #[] }, { accessFlags := 1, nameIndex := 543, descriptorIndex := 573, attributes := #[] }, { accessFlags := 9, nameIndex := 782, descriptorIndex := 783, attributes := #[] }, { accessFlags := 2, nameIndex := 5, descriptorIndex := 29, attributes := #[] }, { accessFlags := 0, nameIndex := 5, descriptorIndex := 211, attributes := #[] }] 49 2 #[1106, 1108, 575, 1110, 1112] #[{ accessFlags := 18, nameIndex := 13, descriptorIndex := 14, attributes := #[] }, { accessFlags := 18, nameIndex := 17, descriptorIndex := 18, attributes := #[] }, { accessFlags := 2, nameIndex := 21, descriptorIndex := 22, attributes := #[] }, { accessFlags := 2, nameIndex := 25, descriptorIndex := 26, attributes := #[] }, { accessFlags := 26, nameIndex := 1116, descriptorIndex := 1117, attributes := #[] }, { accessFlags := 24, nameIndex := 40, descriptorIndex := 26, attributes := #[] }, { accessFlags := 26, nameIndex := 1101, descriptorIndex := 1102, attributes := #[] }, { accessFlags := 26, nameIndex := 1121, descriptorIndex := 1122, attributes := #[] }, { accessFlags := 25, nameIndex := 599, descriptorIndex := 600, attributes := #[] }, { accessFlags := 24, nameIndex := 1125, descriptorIndex := 18, attributes := #[] }, { accessFlags := 24, nameIndex := 1127, descriptorIndex := 18, attributes := #[] }])
  fields := #[{ name := "value", type := (.array .byte), accessFlags := 18, slot := 0, constantValue := 0 }, { name := "coder", type := .byte, accessFlags := 18, slot := 1, constantValue := 0 }, { name := "hash", type := .int, accessFlags := 2, slot := 2, constantValue := 0 }, { name := "hashIsZero", type := .boolean, accessFlags := 2, slot := 3, constantValue := 0 }, { name := "serialVersionUID", type := .long, accessFlags := 26, slot := 0, constantValue := 0 }, { name := "COMPACT_STRINGS", type := .boolean, accessFlags := 24, slot := 1, constantValue := 0 }, { name := "serialPersistentFields", type := (.array (.object "java/io/ObjectStreamField")), accessFlags := 26, slot := 2, constantValue := 0 }, { name := "REPL", type := .char, accessFlags := 26, slot := 3, constantValue := 0 }, { name := "CASE_INSENSITIVE_ORDER", type := (.object "java/util/Comparator"), accessFlags := 25, slot := 4, constantValue := 0 }, { name := "LATIN1", type := .byte, accessFlags := 24, slot := 5, constantValue := 0 }, { name := "UTF16", type := .byte, accessFlags := 24, slot := 6, constantValue := 0 }]
  methods := #[k7m0, k7m1, k7m2, k7m3, k7m4, k7m5]
  instanceTypes := #[(.array .byte), .byte, .int, .boolean]
  staticTypes := #[.long, .boolean, (.array (.object "java/io/ObjectStreamField")), .char, (.object "java/util/Comparator"), .byte, .byte]
  resolved := Array.replicate 1451 none
  statics := some 0 }

def pool8 : Array CpInfo := pool [(4, .class_ 6), (1, u "java/lang/Object"), (0, u "<init>"), (0, u "()V"), (5, .class_ 16), (1, u "java/lang/StringLatin1"), (73, u "canEncode"), (14, u "(C)Z"), (15, u "$assertionsDisabled"), (0, u "Z"), (98, .class_ 223), (1, u "java/lang/StringLatin1$LinesSpliterator"), (156, u "toBytes"), (1, u "(C)[B"), (7, .class_ 391), (0, u "java/lang/StringLatin1$CharsSpliterator")] 3

def k8m0 : Method := { name := "<init>", desc := "()V", sig := { parameters := [], returnType := none }, accessFlags := 0, code := none }
def k8c1 : Code := { maxStack := 2, maxLocals := 1, code := jdk_43_method_3_code, exceptionTable := #[], attributes := #[] }
def k8m1 : Method := { name := "canEncode", desc := "(C)Z", sig := { parameters := [.char], returnType := some .boolean }, accessFlags := 9, code := some k8c1 }
def k8c2 : Code := { maxStack := 4, maxLocals := 1, code := jdk_43_method_46_code, exceptionTable := #[], attributes := #[] }
def k8m2 : Method := { name := "toBytes", desc := "(C)[B", sig := { parameters := [.char], returnType := some (.array .byte) }, accessFlags := 9, code := some k8c2 }
/-- java/lang/StringLatin1 -/
def k8 : Class := { plain "java/lang/StringLatin1" (some 0) with
  accessFlags := 48
  interfaces := #[]
  cf := some (fileOf pool8 14 #[.nestMembers #[390, 221]] #[{ accessFlags := 0, nameIndex := 7, descriptorIndex := 8, attributes := #[] }, { accessFlags := 9, nameIndex := 90, descriptorIndex := 105, attributes := #[] }, { accessFlags := 9, nameIndex := 380, descriptorIndex := 382, attributes := #[] }] 48 4 #[] #[{ accessFlags := 4120, nameIndex := 121, descriptorIndex := 122, attributes := #[] }])
  fields := #[{ name := "$assertionsDisabled", type := .boolean, accessFlags := 4120, slot := 0, constantValue := 0 }]
  methods := #[k8m0, k8m1, k8m2]
  instanceTypes := #[]
  staticTypes := #[.boolean]
  resolved := Array.replicate 395 none
  statics := none }

def pool9 : Array CpInfo := pool [(2, .class_ 4), (1, u "java/lang/Enum"), (0, u "name"), (0, u "Ljava/lang/String;"), (2, u "ordinal"), (0, u "I"), (1, .class_ 14), (1, u "java/lang/Object"), (4, u "hash"), (86, .class_ 108), (1, u "java/lang/Enum$EnumDesc"), (2, .class_ 112), (0, u "java/lang/constant/Constable"), (0, .class_ 114), (0, u "java/lang/Comparable"), (0, .class_ 116), (0, u "java/io/Serializable")] 87

/-- java/lang/Enum -/
def k9 : Class := { plain "java/lang/Enum" (some 0) with
  accessFlags := 1057
  interfaces := #[5, 3, 2]
  cf := some (fileOf pool9 2 #[.nestMembers #[106]] #[] 1057 12 #[111, 113, 115] #[{ accessFlags := 18, nameIndex := 5, descriptorIndex := 6, attributes := #[] }, { accessFlags := 18, nameIndex := 9, descriptorIndex := 10, attributes := #[] }, { accessFlags := 2, nameIndex := 19, descriptorIndex := 10, attributes := #[] }])
  fields := #[{ name := "name", type := (.object "java/lang/String"), accessFlags := 18, slot := 0, constantValue := 0 }, { name := "ordinal", type := .int, accessFlags := 18, slot := 1, constantValue := 0 }, { name := "hash", type := .int, accessFlags := 2, slot := 2, constantValue := 0 }]
  methods := #[]
  instanceTypes := #[(.object "java/lang/String"), .int, .int]
  staticTypes := #[]
  resolved := Array.replicate 204 none
  statics := none }

def pool10 : Array CpInfo := pool [(1, .class_ 2), (0, u "com/example/formal_model_translator/formalmodeltranslator/classicalb/Token$Kind"), (2, u "IDENTIFIER"), (0, u "Lcom/example/formal_model_translator/formalmodeltranslator/classicalb/Token$Kind;"), (2, u "INTEGER"), (2, u "KEYWORD"), (2, u "LITERAL"), (2, u "STRING"), (2, u "SYMBOL"), (2, u "END_OF_TEXT"), (2, u "FAULT"), (2, u "$VALUES"), (0, u "[Lcom/example/formal_model_translator/formalmodeltranslator/classicalb/Token$Kind;"), (6, .class_ 40), (1, u "java/lang/Enum"), (31, .class_ 73), (0, u "com/example/formal_model_translator/formalmodeltranslator/classicalb/Token")] 2

/-- com/example/formal_model_translator/formalmodeltranslator/classicalb/Token$Kind -/
def k10 : Class := { plain "com/example/formal_model_translator/formalmodeltranslator/classicalb/Token$Kind" (some 9) with
  accessFlags := 16432
  interfaces := #[]
  cf := some (fileOf pool10 1 #[.nestHost 72] #[] 16432 38 #[] #[{ accessFlags := 16409, nameIndex := 5, descriptorIndex := 6, attributes := #[] }, { accessFlags := 16409, nameIndex := 9, descriptorIndex := 6, attributes := #[] }, { accessFlags := 16409, nameIndex := 12, descriptorIndex := 6, attributes := #[] }, { accessFlags := 16409, nameIndex := 15, descriptorIndex := 6, attributes := #[] }, { accessFlags := 16409, nameIndex := 18, descriptorIndex := 6, attributes := #[] }, { accessFlags := 16409, nameIndex := 21, descriptorIndex := 6, attributes := #[] }, { accessFlags := 16409, nameIndex := 24, descriptorIndex := 6, attributes := #[] }, { accessFlags := 16409, nameIndex := 27, descriptorIndex := 6, attributes := #[] }, { accessFlags := 4122, nameIndex := 30, descriptorIndex := 31, attributes := #[] }])
  fields := #[{ name := "IDENTIFIER", type := (.object "com/example/formal_model_translator/formalmodeltranslator/classicalb/Token$Kind"), accessFlags := 16409, slot := 0, constantValue := 0 }, { name := "INTEGER", type := (.object "com/example/formal_model_translator/formalmodeltranslator/classicalb/Token$Kind"), accessFlags := 16409, slot := 1, constantValue := 0 }, { name := "KEYWORD", type := (.object "com/example/formal_model_translator/formalmodeltranslator/classicalb/Token$Kind"), accessFlags := 16409, slot := 2, constantValue := 0 }, { name := "LITERAL", type := (.object "com/example/formal_model_translator/formalmodeltranslator/classicalb/Token$Kind"), accessFlags := 16409, slot := 3, constantValue := 0 }, { name := "STRING", type := (.object "com/example/formal_model_translator/formalmodeltranslator/classicalb/Token$Kind"), accessFlags := 16409, slot := 4, constantValue := 0 }, { name := "SYMBOL", type := (.object "com/example/formal_model_translator/formalmodeltranslator/classicalb/Token$Kind"), accessFlags := 16409, slot := 5, constantValue := 0 }, { name := "END_OF_TEXT", type := (.object "com/example/formal_model_translator/formalmodeltranslator/classicalb/Token$Kind"), accessFlags := 16409, slot := 6, constantValue := 0 }, { name := "FAULT", type := (.object "com/example/formal_model_translator/formalmodeltranslator/classicalb/Token$Kind"), accessFlags := 16409, slot := 7, constantValue := 0 }, { name := "$VALUES", type := (.array (.object "com/example/formal_model_translator/formalmodeltranslator/classicalb/Token$Kind")), accessFlags := 4122, slot := 8, constantValue := 0 }]
  methods := #[]
  instanceTypes := #[(.object "java/lang/String"), .int, .int]
  staticTypes := #[(.object "com/example/formal_model_translator/formalmodeltranslator/classicalb/Token$Kind"), (.object "com/example/formal_model_translator/formalmodeltranslator/classicalb/Token$Kind"), (.object "com/example/formal_model_translator/formalmodeltranslator/classicalb/Token$Kind"), (.object "com/example/formal_model_translator/formalmodeltranslator/classicalb/Token$Kind"), (.object "com/example/formal_model_translator/formalmodeltranslator/classicalb/Token$Kind"), (.object "com/example/formal_model_translator/formalmodeltranslator/classicalb/Token$Kind"), (.object "com/example/formal_model_translator/formalmodeltranslator/classicalb/Token$Kind"), (.object "com/example/formal_model_translator/formalmodeltranslator/classicalb/Token$Kind"), (.array (.object "com/example/formal_model_translator/formalmodeltranslator/classicalb/Token$Kind"))]
  resolved := Array.replicate 76 none
  statics := some 1 }

def pool11 : Array CpInfo := pool [(1, .methodref 2 3), (0, .class_ 4), (0, .nameAndType 5 6), (0, u "com/example/formal_model_translator/formalmodeltranslator/classicalb/Token"), (0, u "<init>"), (0, u "(Lcom/example/formal_model_translator/formalmodeltranslator/classicalb/Token$Kind;Ljava/lang/String;Ljava/lang/String;Lcom/example/formal_model_translator/formalmodeltranslator/model/SourcePosition;Lcom/example/formal_model_translator/formalmodeltranslator/classicalb/LabelPragma;ZLjava/lang/String;)V"), (0, .methodref 8 9), (0, .class_ 10), (0, .nameAndType 5 11), (0, u "java/lang/Object"), (0, u "()V"), (0, .fieldref 2 13), (0, .nameAndType 14 15), (0, u "kind"), (0, u "Lcom/example/formal_model_translator/formalmodeltranslator/classicalb/Token$Kind;"), (0, .fieldref 2 17), (0, .nameAndType 18 19), (0, u "text"), (0, u "Ljava/lang/String;"), (0, .fieldref 2 21), (0, .nameAndType 22 19), (0, u "written"), (0, .fieldref 2 24), (0, .nameAndType 25 26), (0, u "position"), (0, u "Lcom/example/formal_model_translator/formalmodeltranslator/model/SourcePosition;"), (0, .fieldref 2 28), (0, .nameAndType 29 30), (0, u "pragma"), (0, u "Lcom/example/formal_model_translator/formalmodeltranslator/classicalb/LabelPragma;"), (0, .fieldref 2 32), (0, .nameAndType 33 34), (0, u "opensBody"), (0, u "Z"), (0, .fieldref 2 36), (0, .nameAndType 37 19), (0, u "fault"), (1, .class_ 41), (1, u "com/example/formal_model_translator/formalmodeltranslator/classicalb/Token$Kind"), (17, u "()Ljava/lang/String;"), (3, .methodref 64 65), (0, .class_ 66), (0, .nameAndType 67 59), (0, u "com/example/formal_model_translator/formalmodeltranslator/classicalb/LabelPragma"), (0, u "getLabel"), (49, u "END_OF_FILE"), (1, u "BEFORE_VALUE"), (0, u "(Lcom/example/formal_model_translator/formalmodeltranslator/classicalb/Token$Kind;Ljava/lang/String;Lcom/example/formal_model_translator/formalmodeltranslator/model/SourcePosition;Lcom/example/formal_model_translator/formalmodeltranslator/classicalb/LabelPragma;)V")] 42

def k11c0 : Code := { maxStack := 8, maxLocals := 5, code := prog_33_method_1_code, exceptionTable := #[], attributes := #[] }
def k11m0 : Method := { name := "<init>", desc := "(Lcom/example/formal_model_translator/formalmodeltranslator/classicalb/Token$Kind;Ljava/lang/String;Lcom/example/formal_model_translator/formalmodeltranslator/model/SourcePosition;Lcom/example/formal_model_translator/formalmodeltranslator/classicalb/LabelPragma;)V", sig := { parameters := [(.object "com/example/formal_model_translator/formalmodeltranslator/classicalb/Token$Kind"), (.object "java/lang/String"), (.object "com/example/formal_model_translator/formalmodeltranslator/model/SourcePosition"), (.object "com/example/formal_model_translator/formalmodeltranslator/classicalb/LabelPragma")], returnType := none }, accessFlags := 0, code := some k11c0 }
def k11c1 : Code := { maxStack := 2, maxLocals := 8, code := prog_33_method_3_code, exceptionTable := #[], attributes := #[] }
def k11m1 : Method := { name := "<init>", desc := "(Lcom/example/formal_model_translator/formalmodeltranslator/classicalb/Token$Kind;Ljava/lang/String;Ljava/lang/String;Lcom/example/formal_model_translator/formalmodeltranslator/model/SourcePosition;Lcom/example/formal_model_translator/formalmodeltranslator/classicalb/LabelPragma;ZLjava/lang/String;)V", sig := { parameters := [(.object "com/example/formal_model_translator/formalmodeltranslator/classicalb/Token$Kind"), (.object "java/lang/String"), (.object "java/lang/String"), (.object "com/example/formal_model_translator/formalmodeltranslator/model/SourcePosition"), (.object "com/example/formal_model_translator/formalmodeltranslator/classicalb/LabelPragma"), .boolean, (.object "java/lang/String")], returnType := none }, accessFlags := 2, code := some k11c1 }
def k11c2 : Code := { maxStack := 1, maxLocals := 1, code := prog_33_method_11_code, exceptionTable := #[], attributes := #[] }
def k11m2 : Method := { name := "getLabel", desc := "()Ljava/lang/String;", sig := { parameters := [], returnType := some (.object "java/lang/String") }, accessFlags := 0, code := some k11c2 }
/-- com/example/formal_model_translator/formalmodeltranslator/classicalb/Token -/
def k11 : Class := { plain "com/example/formal_model_translator/formalmodeltranslator/classicalb/Token" (some 0) with
  accessFlags := 48
  interfaces := #[]
  cf := some (fileOf pool11 2 #[.nestMembers #[39]] #[{ accessFlags := 0, nameIndex := 5, descriptorIndex := 120, attributes := #[] }, { accessFlags := 2, nameIndex := 5, descriptorIndex := 6, attributes := #[] }, { accessFlags := 0, nameIndex := 67, descriptorIndex := 59, attributes := #[] }] 48 8 #[] #[{ accessFlags := 24, nameIndex := 117, descriptorIndex := 19, attributes := #[] }, { accessFlags := 24, nameIndex := 119, descriptorIndex := 19, attributes := #[] }, { accessFlags := 18, nameIndex := 14, descriptorIndex := 15, attributes := #[] }, { accessFlags := 18, nameIndex := 18, descriptorIndex := 19, attributes := #[] }, { accessFlags := 18, nameIndex := 22, descriptorIndex := 19, attributes := #[] }, { accessFlags := 18, nameIndex := 25, descriptorIndex := 26, attributes := #[] }, { accessFlags := 18, nameIndex := 29, descriptorIndex := 30, attributes := #[] }, { accessFlags := 18, nameIndex := 33, descriptorIndex := 34, attributes := #[] }, { accessFlags := 18, nameIndex := 37, descriptorIndex := 19, attributes := #[] }])
  fields := #[{ name := "END_OF_FILE", type := (.object "java/lang/String"), accessFlags := 24, slot := 0, constantValue := 0 }, { name := "BEFORE_VALUE", type := (.object "java/lang/String"), accessFlags := 24, slot := 1, constantValue := 0 }, { name := "kind", type := (.object "com/example/formal_model_translator/formalmodeltranslator/classicalb/Token$Kind"), accessFlags := 18, slot := 0, constantValue := 0 }, { name := "text", type := (.object "java/lang/String"), accessFlags := 18, slot := 1, constantValue := 0 }, { name := "written", type := (.object "java/lang/String"), accessFlags := 18, slot := 2, constantValue := 0 }, { name := "position", type := (.object "com/example/formal_model_translator/formalmodeltranslator/model/SourcePosition"), accessFlags := 18, slot := 3, constantValue := 0 }, { name := "pragma", type := (.object "com/example/formal_model_translator/formalmodeltranslator/classicalb/LabelPragma"), accessFlags := 18, slot := 4, constantValue := 0 }, { name := "opensBody", type := .boolean, accessFlags := 18, slot := 5, constantValue := 0 }, { name := "fault", type := (.object "java/lang/String"), accessFlags := 18, slot := 6, constantValue := 0 }]
  methods := #[k11m0, k11m1, k11m2]
  instanceTypes := #[(.object "com/example/formal_model_translator/formalmodeltranslator/classicalb/Token$Kind"), (.object "java/lang/String"), (.object "java/lang/String"), (.object "com/example/formal_model_translator/formalmodeltranslator/model/SourcePosition"), (.object "com/example/formal_model_translator/formalmodeltranslator/classicalb/LabelPragma"), .boolean, (.object "java/lang/String")]
  staticTypes := #[(.object "java/lang/String"), (.object "java/lang/String")]
  resolved := Array.replicate 163 none
  statics := none }

def pool12 : Array CpInfo := pool [(1, .methodref 2 3), (0, .class_ 4), (0, .nameAndType 5 6), (0, u "java/lang/Object"), (0, u "<init>"), (0, u "()V"), (0, .fieldref 8 9), (0, .class_ 10), (0, .nameAndType 11 12), (0, u "com/example/formal_model_translator/formalmodeltranslator/classicalb/LabelPragma"), (0, u "label"), (0, u "Ljava/lang/String;"), (0, .fieldref 8 14), (0, .nameAndType 15 16), (0, u "position"), (0, u "Lcom/example/formal_model_translator/formalmodeltranslator/model/SourcePosition;"), (9, u "(Ljava/lang/String;Lcom/example/formal_model_translator/formalmodeltranslator/model/SourcePosition;)V"), (2, u "getLabel"), (0, u "()Ljava/lang/String;")] 21

def k12c0 : Code := { maxStack := 2, maxLocals := 3, code := prog_9_method_1_code, exceptionTable := #[], attributes := #[] }
def k12m0 : Method := { name := "<init>", desc := "(Ljava/lang/String;Lcom/example/formal_model_translator/formalmodeltranslator/model/SourcePosition;)V", sig := { parameters := [(.object "java/lang/String"), (.object "com/example/formal_model_translator/formalmodeltranslator/model/SourcePosition")], returnType := none }, accessFlags := 0, code := some k12c0 }
def k12c1 : Code := { maxStack := 1, maxLocals := 1, code := prog_9_method_2_code, exceptionTable := #[], attributes := #[] }
def k12m1 : Method := { name := "getLabel", desc := "()Ljava/lang/String;", sig := { parameters := [], returnType := some (.object "java/lang/String") }, accessFlags := 0, code := some k12c1 }
/-- com/example/formal_model_translator/formalmodeltranslator/classicalb/LabelPragma -/
def k12 : Class := { plain "com/example/formal_model_translator/formalmodeltranslator/classicalb/LabelPragma" (some 0) with
  accessFlags := 48
  interfaces := #[]
  cf := some (fileOf pool12 8 #[] #[{ accessFlags := 0, nameIndex := 5, descriptorIndex := 26, attributes := #[] }, { accessFlags := 0, nameIndex := 29, descriptorIndex := 30, attributes := #[] }] 48 2 #[] #[{ accessFlags := 18, nameIndex := 11, descriptorIndex := 12, attributes := #[] }, { accessFlags := 18, nameIndex := 15, descriptorIndex := 16, attributes := #[] }])
  fields := #[{ name := "label", type := (.object "java/lang/String"), accessFlags := 18, slot := 0, constantValue := 0 }, { name := "position", type := (.object "com/example/formal_model_translator/formalmodeltranslator/model/SourcePosition"), accessFlags := 18, slot := 1, constantValue := 0 }]
  methods := #[k12m0, k12m1]
  instanceTypes := #[(.object "java/lang/String"), (.object "com/example/formal_model_translator/formalmodeltranslator/model/SourcePosition")]
  staticTypes := #[]
  resolved := Array.replicate 52 none
  statics := none }

def pool13 : Array CpInfo := pool [(6, .class_ 8), (1, u "java/lang/Object"), (0, u "<init>"), (0, u "()V"), (1, .class_ 14), (1, u "java/lang/StringUTF16"), (31, u "$assertionsDisabled"), (0, u "Z"), (13, u "HI_BYTE_SHIFT"), (0, u "I"), (2, u "LO_BYTE_SHIFT"), (49, .methodref 12 116), (0, .nameAndType 117 118), (0, u "compress"), (0, u "([CI[BII)I"), (3, u "([CII)[B"), (138, u "coderFromArrayLen"), (0, u "([BI)B"), (106, .class_ 371), (1, u "java/lang/StringUTF16$LinesSpliterator"), (58, u "MAX_LENGTH"), (196, .class_ 628), (0, u "java/lang/StringUTF16$CodePointsSpliterator"), (0, .class_ 630), (0, u "java/lang/StringUTF16$CharsSpliterator")] 4

def k13m0 : Method := { name := "<init>", desc := "()V", sig := { parameters := [], returnType := none }, accessFlags := 0, code := none }
def k13c1 : Code := { maxStack := 2, maxLocals := 2, code := jdk_52_method_15_code, exceptionTable := #[], attributes := #[] }
def k13m1 : Method := { name := "coderFromArrayLen", desc := "([BI)B", sig := { parameters := [(.array .byte), .int], returnType := some .byte }, accessFlags := 8, code := some k13c1 }
def k13c2 : Code := { maxStack := 5, maxLocals := 6, code := jdk_52_method_16_code, exceptionTable := #[], attributes := #[] }
def k13m2 : Method := { name := "compress", desc := "([CII)[B", sig := { parameters := [(.array .char), .int, .int], returnType := some (.array .byte) }, accessFlags := 9, code := some k13c2 }
def k13c3 : Code := { maxStack := 3, maxLocals := 7, code := jdk_52_method_21_code, exceptionTable := #[], attributes := #[] }
def k13m3 : Method := { name := "compress", desc := "([CI[BII)I", sig := { parameters := [(.array .char), .int, (.array .byte), .int, .int], returnType := some .int }, accessFlags := 9, code := some k13c3 }
/-- java/lang/StringUTF16 -/
def k13 : Class := { plain "java/lang/StringUTF16" (some 0) with
  accessFlags := 48
  interfaces := #[]
  cf := some (fileOf pool13 12 #[.nestMembers #[627, 629, 369]] #[{ accessFlags := 0, nameIndex := 9, descriptorIndex := 10, attributes := #[] }, { accessFlags := 8, nameIndex := 261, descriptorIndex := 262, attributes := #[] }, { accessFlags := 9, nameIndex := 117, descriptorIndex := 122, attributes := #[] }, { accessFlags := 9, nameIndex := 117, descriptorIndex := 118, attributes := #[] }] 48 6 #[] #[{ accessFlags := 26, nameIndex := 61, descriptorIndex := 62, attributes := #[] }, { accessFlags := 26, nameIndex := 65, descriptorIndex := 62, attributes := #[] }, { accessFlags := 24, nameIndex := 430, descriptorIndex := 62, attributes := #[] }, { accessFlags := 4120, nameIndex := 46, descriptorIndex := 47, attributes := #[] }])
  fields := #[{ name := "HI_BYTE_SHIFT", type := .int, accessFlags := 26, slot := 0, constantValue := 0 }, { name := "LO_BYTE_SHIFT", type := .int, accessFlags := 26, slot := 1, constantValue := 0 }, { name := "MAX_LENGTH", type := .int, accessFlags := 24, slot := 2, constantValue := 0 }, { name := "$assertionsDisabled", type := .boolean, accessFlags := 4120, slot := 3, constantValue := 0 }]
  methods := #[k13m0, k13m1, k13m2, k13m3]
  instanceTypes := #[]
  staticTypes := #[.int, .int, .int, .boolean]
  resolved := Array.replicate 635 none
  statics := none }

def pool14 : Array CpInfo := pool [(2, .class_ 4), (1, u "java/lang/Object"), (0, u "<init>"), (0, u "()V"), (17, .class_ 26), (1, u "jdk/internal/util/Preconditions"), (28, .class_ 56), (0, u "jdk/internal/util/Preconditions$4"), (57, .class_ 115), (0, u "jdk/internal/util/Preconditions$1"), (7, u "SIOOBE_FORMATTER"), (0, u "Ljava/util/function/BiFunction;"), (0, .class_ 126), (0, u "jdk/internal/util/Preconditions$2"), (3, u "AIOOBE_FORMATTER"), (0, .class_ 132), (0, u "jdk/internal/util/Preconditions$3"), (3, u "IOOBE_FORMATTER")] 57

def k14m0 : Method := { name := "<init>", desc := "()V", sig := { parameters := [], returnType := none }, accessFlags := 1, code := none }
/-- jdk/internal/util/Preconditions -/
def k14 : Class := { plain "jdk/internal/util/Preconditions" (some 0) with
  accessFlags := 33
  interfaces := #[]
  cf := some (fileOf pool14 24 #[.nestMembers #[55, 131, 125, 114]] #[{ accessFlags := 1, nameIndex := 5, descriptorIndex := 6, attributes := #[] }] 33 2 #[] #[{ accessFlags := 25, nameIndex := 123, descriptorIndex := 124, attributes := #[] }, { accessFlags := 25, nameIndex := 130, descriptorIndex := 124, attributes := #[] }, { accessFlags := 25, nameIndex := 136, descriptorIndex := 124, attributes := #[] }])
  fields := #[{ name := "SIOOBE_FORMATTER", type := (.object "java/util/function/BiFunction"), accessFlags := 25, slot := 0, constantValue := 0 }, { name := "AIOOBE_FORMATTER", type := (.object "java/util/function/BiFunction"), accessFlags := 25, slot := 1, constantValue := 0 }, { name := "IOOBE_FORMATTER", type := (.object "java/util/function/BiFunction"), accessFlags := 25, slot := 2, constantValue := 0 }]
  methods := #[k14m0]
  instanceTypes := #[]
  staticTypes := #[(.object "java/util/function/BiFunction"), (.object "java/util/function/BiFunction"), (.object "java/util/function/BiFunction")]
  resolved := Array.replicate 194 none
  statics := some 2 }

def pool15 : Array CpInfo := pool [(9, u "<init>"), (6, .class_ 18), (1, u "java/lang/Object"), (0, u "()V"), (1, .class_ 23), (1, u "jdk/internal/util/ArraysSupport"), (0, u "LOG2_ARRAY_LONG_INDEX_SCALE"), (0, u "I"), (2, u "U"), (0, u "Ljdk/internal/misc/Unsafe;"), (8, u "BIG_ENDIAN"), (0, u "Z"), (8, u "LOG2_BYTE_BIT_SIZE"), (4, u "LOG2_ARRAY_INT_INDEX_SCALE"), (54, u "JLA"), (0, u "Ljdk/internal/access/JavaLangAccess;"), (11, u "LOG2_ARRAY_BOOLEAN_INDEX_SCALE"), (9, u "LOG2_ARRAY_BYTE_INDEX_SCALE"), (5, u "LOG2_ARRAY_CHAR_INDEX_SCALE"), (5, u "LOG2_ARRAY_SHORT_INDEX_SCALE"), (18, u "LOG2_ARRAY_FLOAT_INDEX_SCALE"), (24, u "LOG2_ARRAY_DOUBLE_INDEX_SCALE"), (89, u "T_BOOLEAN"), (2, u "T_CHAR"), (1, u "T_FLOAT"), (1, u "T_DOUBLE"), (1, u "T_BYTE"), (1, u "T_SHORT"), (1, u "T_INT"), (1, u "T_LONG"), (1, u "SOFT_MAX_ARRAY_LENGTH")] 83

def k15m0 : Method := { name := "<init>", desc := "()V", sig := { parameters := [], returnType := none }, accessFlags := 2, code := none }
/-- jdk/internal/util/ArraysSupport -/
def k15 : Class := { plain "jdk/internal/util/ArraysSupport" (some 0) with
  accessFlags := 33
  interfaces := #[]
  cf := some (fileOf pool15 21 #[] #[{ accessFlags := 2, nameIndex := 9, descriptorIndex := 19, attributes := #[] }] 33 16 #[] #[{ accessFlags := 24, nameIndex := 28, descriptorIndex := 29, attributes := #[] }, { accessFlags := 26, nameIndex := 38, descriptorIndex := 39, attributes := #[] }, { accessFlags := 25, nameIndex := 121, descriptorIndex := 25, attributes := #[] }, { accessFlags := 25, nameIndex := 131, descriptorIndex := 25, attributes := #[] }, { accessFlags := 25, nameIndex := 137, descriptorIndex := 25, attributes := #[] }, { accessFlags := 25, nameIndex := 143, descriptorIndex := 25, attributes := #[] }, { accessFlags := 25, nameIndex := 53, descriptorIndex := 25, attributes := #[] }, { accessFlags := 25, nameIndex := 24, descriptorIndex := 25, attributes := #[] }, { accessFlags := 25, nameIndex := 162, descriptorIndex := 25, attributes := #[] }, { accessFlags := 25, nameIndex := 187, descriptorIndex := 25, attributes := #[] }, { accessFlags := 26, nameIndex := 48, descriptorIndex := 25, attributes := #[] }, { accessFlags := 25, nameIndex := 277, descriptorIndex := 25, attributes := #[] }, { accessFlags := 25, nameIndex := 280, descriptorIndex := 25, attributes := #[] }, { accessFlags := 25, nameIndex := 282, descriptorIndex := 25, attributes := #[] }, { accessFlags := 25, nameIndex := 284, descriptorIndex := 25, attributes := #[] }, { accessFlags := 25, nameIndex := 286, descriptorIndex := 25, attributes := #[] }, { accessFlags := 25, nameIndex := 288, descriptorIndex := 25, attributes := #[] }, { accessFlags := 25, nameIndex := 290, descriptorIndex := 25, attributes := #[] }, { accessFlags := 25, nameIndex := 292, descriptorIndex := 25, attributes := #[] }, { accessFlags := 26, nameIndex := 108, descriptorIndex := 109, attributes := #[] }, { accessFlags := 25, nameIndex := 294, descriptorIndex := 25, attributes := #[] }])
  fields := #[{ name := "U", type := (.object "jdk/internal/misc/Unsafe"), accessFlags := 24, slot := 0, constantValue := 0 }, { name := "BIG_ENDIAN", type := .boolean, accessFlags := 26, slot := 1, constantValue := 0 }, { name := "LOG2_ARRAY_BOOLEAN_INDEX_SCALE", type := .int, accessFlags := 25, slot := 2, constantValue := 0 }, { name := "LOG2_ARRAY_BYTE_INDEX_SCALE", type := .int, accessFlags := 25, slot := 3, constantValue := 0 }, { name := "LOG2_ARRAY_CHAR_INDEX_SCALE", type := .int, accessFlags := 25, slot := 4, constantValue := 0 }, { name := "LOG2_ARRAY_SHORT_INDEX_SCALE", type := .int, accessFlags := 25, slot := 5, constantValue := 0 }, { name := "LOG2_ARRAY_INT_INDEX_SCALE", type := .int, accessFlags := 25, slot := 6, constantValue := 0 }, { name := "LOG2_ARRAY_LONG_INDEX_SCALE", type := .int, accessFlags := 25, slot := 7, constantValue := 0 }, { name := "LOG2_ARRAY_FLOAT_INDEX_SCALE", type := .int, accessFlags := 25, slot := 8, constantValue := 0 }, { name := "LOG2_ARRAY_DOUBLE_INDEX_SCALE", type := .int, accessFlags := 25, slot := 9, constantValue := 0 }, { name := "LOG2_BYTE_BIT_SIZE", type := .int, accessFlags := 26, slot := 10, constantValue := 0 }, { name := "T_BOOLEAN", type := .int, accessFlags := 25, slot := 11, constantValue := 0 }, { name := "T_CHAR", type := .int, accessFlags := 25, slot := 12, constantValue := 0 }, { name := "T_FLOAT", type := .int, accessFlags := 25, slot := 13, constantValue := 0 }, { name := "T_DOUBLE", type := .int, accessFlags := 25, slot := 14, constantValue := 0 }, { name := "T_BYTE", type := .int, accessFlags := 25, slot := 15, constantValue := 0 }, { name := "T_SHORT", type := .int, accessFlags := 25, slot := 16, constantValue := 0 }, { name := "T_INT", type := .int, accessFlags := 25, slot := 17, constantValue := 0 }, { name := "T_LONG", type := .int, accessFlags := 25, slot := 18, constantValue := 0 }, { name := "JLA", type := (.object "jdk/internal/access/JavaLangAccess"), accessFlags := 26, slot := 19, constantValue := 0 }, { name := "SOFT_MAX_ARRAY_LENGTH", type := .int, accessFlags := 25, slot := 20, constantValue := 0 }]
  methods := #[k15m0]
  instanceTypes := #[]
  staticTypes := #[(.object "jdk/internal/misc/Unsafe"), .boolean, .int, .int, .int, .int, .int, .int, .int, .int, .int, .int, .int, .int, .int, .int, .int, .int, .int, (.object "jdk/internal/access/JavaLangAccess"), .int]
  resolved := Array.replicate 378 none
  statics := none }

def pool16 : Array CpInfo := pool [(1, u "java/lang/Cloneable"), (0, .class_ 1), (0, u "java/lang/Object"), (0, .class_ 3)] 3

/-- java/lang/Cloneable -/
def k16 : Class := { plain "java/lang/Cloneable" (some 0) with
  accessFlags := 1537
  interfaces := #[]
  cf := some (fileOf pool16 2 #[] #[] 1537 4 #[] #[])
  fields := #[]
  methods := #[]
  instanceTypes := #[]
  staticTypes := #[]
  resolved := Array.replicate 8 none
  statics := none }

/-- the primitive byte -/
def k17 : Class := { plain "byte" none with kind := .primitive 'B', accessFlags := 0x411 }
/-- [B -/
def k18 : Class := { plain "[B" (some 0) with kind := .array 17 .byte, interfaces := #[16, 2], accessFlags := 1041 }

/-- the primitive char -/
def k19 : Class := { plain "char" none with kind := .primitive 'C', accessFlags := 0x411 }
/-- [C -/
def k20 : Class := { plain "[C" (some 0) with kind := .array 19 .char, interfaces := #[16, 2], accessFlags := 1041 }

/-- the primitive int -/
def k21 : Class := { plain "int" none with kind := .primitive 'I', accessFlags := 0x411 }
/-- [I -/
def k22 : Class := { plain "[I" (some 0) with kind := .array 21 .int, interfaces := #[16, 2], accessFlags := 1041 }

def heap : Heap := #[{ cls := 7, slots := #[.long 0, .int 1, .null, .int 0, .null, .int 0, .int 0], vm := .statics 7 },
  { cls := 10, slots := #[.ref 3, .ref 5, .ref 10, .ref 6, .ref 8, .ref 7, .ref 9, .ref 4, .null], vm := .statics 10 },
  { cls := 14, slots := #[.null, .null, .null], vm := .statics 14 },
  { cls := 10, slots := #[.null, .int 0, .int 0], vm := .none },
  { cls := 10, slots := #[.null, .int 0, .int 0], vm := .none },
  { cls := 10, slots := #[.null, .int 0, .int 0], vm := .none },
  { cls := 10, slots := #[.null, .int 0, .int 0], vm := .none },
  { cls := 10, slots := #[.null, .int 0, .int 0], vm := .none },
  { cls := 10, slots := #[.null, .int 0, .int 0], vm := .none },
  { cls := 10, slots := #[.null, .int 0, .int 0], vm := .none },
  { cls := 10, slots := #[.null, .int 0, .int 0], vm := .none }]
def classes : Array Class := #[k0, k1, k2, k3, k4, k5, k6, k7, k8, k9, k10, k11, k12, k13, k14, k15, k16, k17, k18, k19, k20, k21, k22]
def interned : List (Array UInt16 × Addr) := []
def slotsUsed : Nat := 43
def theMethod : MethodId := ⟨1, 2⟩
def args0 : Array Value := #[.int 5, .int 1, .int 2, .int 3, .int 4]
def aboutOver (below : List Frame) : State where
  vm := { classes := classes, interned := interned.toArray }
  heap := heap
  slotsUsed := slotsUsed
  threads := #[{ frames := .invoking theMethod args0 :: below }]
def below0 : List Frame := [.native { method := ⟨0, 0⟩, args := #[] }]
def about1 : State := aboutOver below0
def p0 : Program := .bare "" "" ""
def e0 : Env := launch0.env 0 0 0
theorem w_frames : about1.frames = Frame.invoking theMethod args0 :: below0 := rfl
set_option maxRecDepth 65536 in
theorem w_args : argsFit about1.vm theMethod args0 = true := by decide +kernel
set_option maxRecDepth 65536 in
theorem w_heap : heapFits about1 = true := by decide +kernel
set_option maxRecDepth 65536 in
theorem w_runnable : about1.curStatus? = some .runnable := by decide +kernel
set_option maxRecDepth 65536 in
theorem w_alone : about1.alone = true := by decide +kernel
set_option maxRecDepth 65536 in
theorem w_named : about1.methodNamed? x = some theMethod := by decide +kernel
set_option maxRecDepth 65536 in
theorem w_hears : about1.hears theMethod below0 = true := by decide +kernel
set_option maxRecDepth 65536 in
theorem w_ripe : about1.ripe theMethod args0 below0 = true := by decide +kernel
theorem w_running : about1.status = .running := rfl
set_option maxRecDepth 65536 in
theorem w_room : about1.hasRoom e0.platform room_1 = true :=
  launch0.hasRoom_least _ room_1 (by decide +kernel) (by decide +kernel) (by decide +kernel) (by decide +kernel) (by decide +kernel) (by decide +kernel)
theorem allAtoms_all (ts : List Jvm.Cond) (a : Array Jvm.Value) (st : Jvm.State) : (allAtoms ts).before a st = ts.all (fun c => c.before a st) := by
  induction ts with
  | nil => rfl
  | cons c t ih =>
    show (Jvm.Cond.and c (allAtoms t)).before a st = _
    rw [Jvm.Cond.before_and, ih, List.all_cons]
def words1 : List Jvm.Cond := Jvm.Cond.code x code maxLocals ret :: tables_1
/-- a 'code' word, met by the world's own term for the bytes: nothing is compared byte by byte -/
theorem code_word {y : MethodName} {bytes : ByteArray} {mx : Nat} {rt : Option FieldType} {a : Array Value} {s : State} {m : MethodId} {meth : Method} {c : Code} (h1 : s.methodNamed? y = some m) (h2 : s.vm.method? m = some meth) (h3 : meth.code = some c) (h4 : c.code = bytes)
    (h5 : (c.maxLocals == mx && c.exceptionTable.isEmpty && decide (c.maxStack ≤ mostOperands) && decide (meth.sig.returnType = rt) && !meth.locks && decide (parseMethodDescriptor y.desc = some meth.sig)) = true) : (Jvm.Cond.code y bytes mx rt).before a s = true := by
  simp only [Bool.and_eq_true, beq_iff_eq, Bool.not_eq_true', decide_eq_true_eq] at h5
  obtain ⟨⟨⟨⟨⟨g1, g2⟩, g3⟩, g4⟩, g5⟩, g6⟩ := h5
  simp [Cond.before, Cond.holds, Cond.value, h1, h2, h3, h4, g1, g2, g3, g4, g5, g6]
def isCode : Jvm.Cond → Bool
  | .code _ _ _ _ => true
  | _ => false
theorem all_split {L : List Jvm.Cond} {P : Jvm.Cond → Bool} (h1 : L.all (fun c => isCode c || P c) = true) (h2 : ∀ c ∈ L.filter isCode, P c = true) : L.all P = true := by
  refine List.all_eq_true.mpr fun c hc => ?_
  have h := List.all_eq_true.mp h1 c hc
  rcases Bool.eq_false_or_eq_true (isCode c) with hi | hi
  · exact h2 c (List.mem_filter.mpr ⟨hc, hi⟩)
  · simpa [hi] using h
set_option maxRecDepth 65536 in
theorem w_c0 : (Jvm.Cond.code x code maxLocals ret).before args0 about1 = true := code_word (m := ⟨1, 2⟩) (meth := k1m2) (c := k1c2) (by decide +kernel) rfl rfl rfl (by decide +kernel)
set_option maxRecDepth 65536 in
theorem w_c1 : (Jvm.Cond.code ({ cls := "java/lang/String", name := "<init>", desc := "([C)V" } : Jvm.MethodName) jdk_42_method_3_code (2 : Nat) (Option.none : Option Jvm.ClassFile.FieldType)).before args0 about1 = true := code_word (m := ⟨7, 1⟩) (meth := k7m1) (c := k7c1) (by decide +kernel) rfl rfl rfl (by decide +kernel)
set_option maxRecDepth 65536 in
theorem w_c2 : (Jvm.Cond.code ({ cls := "java/lang/String", name := "<init>", desc := "([CIILjava/lang/Void;)V" } : Jvm.MethodName) jdk_42_method_149_code (6 : Nat) (Option.none : Option Jvm.ClassFile.FieldType)).before args0 about1 = true := code_word (m := ⟨7, 4⟩) (meth := k7m4) (c := k7c4) (by decide +kernel) rfl rfl rfl (by decide +kernel)
set_option maxRecDepth 65536 in
theorem w_c3 : (Jvm.Cond.code ({ cls := "java/lang/Object", name := "<init>", desc := "()V" } : Jvm.MethodName) object_method_1_code (1 : Nat) (Option.none : Option Jvm.ClassFile.FieldType)).before args0 about1 = true := code_word (m := ⟨0, 0⟩) (meth := k0m0) (c := k0c0) (by decide +kernel) rfl rfl rfl (by decide +kernel)
set_option maxRecDepth 65536 in
theorem w_c4 : (Jvm.Cond.code ({ cls := "java/lang/String", name := "valueOf", desc := "(C)Ljava/lang/String;" } : Jvm.MethodName) jdk_42_method_139_code (1 : Nat) (Option.some (Jvm.ClassFile.FieldType.object "java/lang/String"))).before args0 about1 = true := code_word (m := ⟨7, 3⟩) (meth := k7m3) (c := k7c3) (by decide +kernel) rfl rfl rfl (by decide +kernel)
set_option maxRecDepth 65536 in
theorem w_c5 : (Jvm.Cond.code ({ cls := "java/lang/StringLatin1", name := "canEncode", desc := "(C)Z" } : Jvm.MethodName) jdk_43_method_3_code (1 : Nat) (Option.some Jvm.ClassFile.FieldType.boolean)).before args0 about1 = true := code_word (m := ⟨8, 1⟩) (meth := k8m1) (c := k8c1) (by decide +kernel) rfl rfl rfl (by decide +kernel)
set_option maxRecDepth 65536 in
theorem w_c6 : (Jvm.Cond.code ({ cls := "java/lang/StringLatin1", name := "toBytes", desc := "(C)[B" } : Jvm.MethodName) jdk_43_method_46_code (1 : Nat) (Option.some (Jvm.ClassFile.FieldType.array Jvm.ClassFile.FieldType.byte))).before args0 about1 = true := code_word (m := ⟨8, 2⟩) (meth := k8m2) (c := k8c2) (by decide +kernel) rfl rfl rfl (by decide +kernel)
set_option maxRecDepth 65536 in
theorem w_c7 : (Jvm.Cond.code ({ cls := "java/lang/String", name := "<init>", desc := "([BB)V" } : Jvm.MethodName) jdk_42_method_151_code (3 : Nat) (Option.none : Option Jvm.ClassFile.FieldType)).before args0 about1 = true := code_word (m := ⟨7, 5⟩) (meth := k7m5) (c := k7c5) (by decide +kernel) rfl rfl rfl (by decide +kernel)
set_option maxRecDepth 65536 in
theorem w_c8 : (Jvm.Cond.code ({ cls := "com/example/formal_model_translator/formalmodeltranslator/classicalb/TokenGetLabelPinLaw", name := "kindOf", desc := "(I)Lcom/example/formal_model_translator/formalmodeltranslator/classicalb/Token$Kind;" } : Jvm.MethodName) method_2_code (2 : Nat) (Option.some (Jvm.ClassFile.FieldType.object "com/example/formal_model_translator/formalmodeltranslator/classicalb/Token$Kind"))).before args0 about1 = true := code_word (m := ⟨1, 1⟩) (meth := k1m1) (c := k1c1) (by decide +kernel) rfl rfl rfl (by decide +kernel)
set_option maxRecDepth 65536 in
theorem w_c9 : (Jvm.Cond.code ({ cls := "com/example/formal_model_translator/formalmodeltranslator/classicalb/Token", name := "<init>", desc := "(Lcom/example/formal_model_translator/formalmodeltranslator/classicalb/Token$Kind;Ljava/lang/String;Lcom/example/formal_model_translator/formalmodeltranslator/model/SourcePosition;Lcom/example/formal_model_translator/formalmodeltranslator/classicalb/LabelPragma;)V" } : Jvm.MethodName) prog_33_method_1_code (5 : Nat) (Option.none : Option Jvm.ClassFile.FieldType)).before args0 about1 = true := code_word (m := ⟨11, 0⟩) (meth := k11m0) (c := k11c0) (by decide +kernel) rfl rfl rfl (by decide +kernel)
set_option maxRecDepth 65536 in
theorem w_c10 : (Jvm.Cond.code ({ cls := "com/example/formal_model_translator/formalmodeltranslator/classicalb/Token", name := "<init>", desc := "(Lcom/example/formal_model_translator/formalmodeltranslator/classicalb/Token$Kind;Ljava/lang/String;Ljava/lang/String;Lcom/example/formal_model_translator/formalmodeltranslator/model/SourcePosition;Lcom/example/formal_model_translator/formalmodeltranslator/classicalb/LabelPragma;ZLjava/lang/String;)V" } : Jvm.MethodName) prog_33_method_3_code (8 : Nat) (Option.none : Option Jvm.ClassFile.FieldType)).before args0 about1 = true := code_word (m := ⟨11, 1⟩) (meth := k11m1) (c := k11c1) (by decide +kernel) rfl rfl rfl (by decide +kernel)
set_option maxRecDepth 65536 in
theorem w_c11 : (Jvm.Cond.code ({ cls := "com/example/formal_model_translator/formalmodeltranslator/classicalb/Token", name := "getLabel", desc := "()Ljava/lang/String;" } : Jvm.MethodName) prog_33_method_11_code (1 : Nat) (Option.some (Jvm.ClassFile.FieldType.object "java/lang/String"))).before args0 about1 = true := code_word (m := ⟨11, 2⟩) (meth := k11m2) (c := k11c2) (by decide +kernel) rfl rfl rfl (by decide +kernel)
set_option maxRecDepth 65536 in
theorem w_c12 : (Jvm.Cond.code ({ cls := "com/example/formal_model_translator/formalmodeltranslator/classicalb/LabelPragma", name := "<init>", desc := "(Ljava/lang/String;Lcom/example/formal_model_translator/formalmodeltranslator/model/SourcePosition;)V" } : Jvm.MethodName) prog_9_method_1_code (3 : Nat) (Option.none : Option Jvm.ClassFile.FieldType)).before args0 about1 = true := code_word (m := ⟨12, 0⟩) (meth := k12m0) (c := k12c0) (by decide +kernel) rfl rfl rfl (by decide +kernel)
set_option maxRecDepth 65536 in
theorem w_c13 : (Jvm.Cond.code ({ cls := "com/example/formal_model_translator/formalmodeltranslator/classicalb/LabelPragma", name := "getLabel", desc := "()Ljava/lang/String;" } : Jvm.MethodName) prog_9_method_2_code (1 : Nat) (Option.some (Jvm.ClassFile.FieldType.object "java/lang/String"))).before args0 about1 = true := code_word (m := ⟨12, 1⟩) (meth := k12m1) (c := k12c1) (by decide +kernel) rfl rfl rfl (by decide +kernel)
set_option maxRecDepth 65536 in
theorem w_c14 : (Jvm.Cond.code ({ cls := "java/lang/String", name := "equals", desc := "(Ljava/lang/Object;)Z" } : Jvm.MethodName) jdk_42_method_66_code (3 : Nat) (Option.some Jvm.ClassFile.FieldType.boolean)).before args0 about1 = true := code_word (m := ⟨7, 2⟩) (meth := k7m2) (c := k7c2) (by decide +kernel) rfl rfl rfl (by decide +kernel)
set_option maxRecDepth 65536 in
theorem w_c15 : (Jvm.Cond.code ({ cls := "java/lang/StringUTF16", name := "compress", desc := "([CII)[B" } : Jvm.MethodName) jdk_52_method_16_code (6 : Nat) (Option.some (Jvm.ClassFile.FieldType.array Jvm.ClassFile.FieldType.byte))).before args0 about1 = true := code_word (m := ⟨13, 2⟩) (meth := k13m2) (c := k13c2) (by decide +kernel) rfl rfl rfl (by decide +kernel)
set_option maxRecDepth 65536 in
theorem w_c16 : (Jvm.Cond.code ({ cls := "java/lang/StringUTF16", name := "compress", desc := "([CI[BII)I" } : Jvm.MethodName) jdk_52_method_21_code (7 : Nat) (Option.some Jvm.ClassFile.FieldType.int)).before args0 about1 = true := code_word (m := ⟨13, 3⟩) (meth := k13m3) (c := k13c3) (by decide +kernel) rfl rfl rfl (by decide +kernel)
set_option maxRecDepth 65536 in
theorem w_c17 : (Jvm.Cond.code ({ cls := "java/lang/StringUTF16", name := "coderFromArrayLen", desc := "([BI)B" } : Jvm.MethodName) jdk_52_method_15_code (2 : Nat) (Option.some Jvm.ClassFile.FieldType.byte)).before args0 about1 = true := code_word (m := ⟨13, 1⟩) (meth := k13m1) (c := k13c1) (by decide +kernel) rfl rfl rfl (by decide +kernel)
def codes1 : List Jvm.Cond := [Jvm.Cond.code x code maxLocals ret, Jvm.Cond.code ({ cls := "java/lang/String", name := "<init>", desc := "([C)V" } : Jvm.MethodName) jdk_42_method_3_code (2 : Nat) (Option.none : Option Jvm.ClassFile.FieldType), Jvm.Cond.code ({ cls := "java/lang/String", name := "<init>", desc := "([CIILjava/lang/Void;)V" } : Jvm.MethodName) jdk_42_method_149_code (6 : Nat) (Option.none : Option Jvm.ClassFile.FieldType), Jvm.Cond.code ({ cls := "java/lang/Object", name := "<init>", desc := "()V" } : Jvm.MethodName) object_method_1_code (1 : Nat) (Option.none : Option Jvm.ClassFile.FieldType), Jvm.Cond.code ({ cls := "java/lang/String", name := "valueOf", desc := "(C)Ljava/lang/String;" } : Jvm.MethodName) jdk_42_method_139_code (1 : Nat) (Option.some (Jvm.ClassFile.FieldType.object "java/lang/String")), Jvm.Cond.code ({ cls := "java/lang/StringLatin1", name := "canEncode", desc := "(C)Z" } : Jvm.MethodName) jdk_43_method_3_code (1 : Nat) (Option.some Jvm.ClassFile.FieldType.boolean), Jvm.Cond.code ({ cls := "java/lang/StringLatin1", name := "toBytes", desc := "(C)[B" } : Jvm.MethodName) jdk_43_method_46_code (1 : Nat) (Option.some (Jvm.ClassFile.FieldType.array Jvm.ClassFile.FieldType.byte)), Jvm.Cond.code ({ cls := "java/lang/String", name := "<init>", desc := "([BB)V" } : Jvm.MethodName) jdk_42_method_151_code (3 : Nat) (Option.none : Option Jvm.ClassFile.FieldType), Jvm.Cond.code ({ cls := "com/example/formal_model_translator/formalmodeltranslator/classicalb/TokenGetLabelPinLaw", name := "kindOf", desc := "(I)Lcom/example/formal_model_translator/formalmodeltranslator/classicalb/Token$Kind;" } : Jvm.MethodName) method_2_code (2 : Nat) (Option.some (Jvm.ClassFile.FieldType.object "com/example/formal_model_translator/formalmodeltranslator/classicalb/Token$Kind")), Jvm.Cond.code ({ cls := "com/example/formal_model_translator/formalmodeltranslator/classicalb/Token", name := "<init>", desc := "(Lcom/example/formal_model_translator/formalmodeltranslator/classicalb/Token$Kind;Ljava/lang/String;Lcom/example/formal_model_translator/formalmodeltranslator/model/SourcePosition;Lcom/example/formal_model_translator/formalmodeltranslator/classicalb/LabelPragma;)V" } : Jvm.MethodName) prog_33_method_1_code (5 : Nat) (Option.none : Option Jvm.ClassFile.FieldType), Jvm.Cond.code ({ cls := "com/example/formal_model_translator/formalmodeltranslator/classicalb/Token", name := "<init>", desc := "(Lcom/example/formal_model_translator/formalmodeltranslator/classicalb/Token$Kind;Ljava/lang/String;Ljava/lang/String;Lcom/example/formal_model_translator/formalmodeltranslator/model/SourcePosition;Lcom/example/formal_model_translator/formalmodeltranslator/classicalb/LabelPragma;ZLjava/lang/String;)V" } : Jvm.MethodName) prog_33_method_3_code (8 : Nat) (Option.none : Option Jvm.ClassFile.FieldType), Jvm.Cond.code ({ cls := "com/example/formal_model_translator/formalmodeltranslator/classicalb/Token", name := "getLabel", desc := "()Ljava/lang/String;" } : Jvm.MethodName) prog_33_method_11_code (1 : Nat) (Option.some (Jvm.ClassFile.FieldType.object "java/lang/String")), Jvm.Cond.code ({ cls := "com/example/formal_model_translator/formalmodeltranslator/classicalb/LabelPragma", name := "<init>", desc := "(Ljava/lang/String;Lcom/example/formal_model_translator/formalmodeltranslator/model/SourcePosition;)V" } : Jvm.MethodName) prog_9_method_1_code (3 : Nat) (Option.none : Option Jvm.ClassFile.FieldType), Jvm.Cond.code ({ cls := "com/example/formal_model_translator/formalmodeltranslator/classicalb/LabelPragma", name := "getLabel", desc := "()Ljava/lang/String;" } : Jvm.MethodName) prog_9_method_2_code (1 : Nat) (Option.some (Jvm.ClassFile.FieldType.object "java/lang/String")), Jvm.Cond.code ({ cls := "java/lang/String", name := "equals", desc := "(Ljava/lang/Object;)Z" } : Jvm.MethodName) jdk_42_method_66_code (3 : Nat) (Option.some Jvm.ClassFile.FieldType.boolean), Jvm.Cond.code ({ cls := "java/lang/StringUTF16", name := "compress", desc := "([CII)[B" } : Jvm.MethodName) jdk_52_method_16_code (6 : Nat) (Option.some (Jvm.ClassFile.FieldType.array Jvm.ClassFile.FieldType.byte)), Jvm.Cond.code ({ cls := "java/lang/StringUTF16", name := "compress", desc := "([CI[BII)I" } : Jvm.MethodName) jdk_52_method_21_code (7 : Nat) (Option.some Jvm.ClassFile.FieldType.int), Jvm.Cond.code ({ cls := "java/lang/StringUTF16", name := "coderFromArrayLen", desc := "([BI)B" } : Jvm.MethodName) jdk_52_method_15_code (2 : Nat) (Option.some Jvm.ClassFile.FieldType.byte)]
set_option maxRecDepth 65536 in
theorem codes_eq : words1.filter isCode = codes1 := rfl
theorem w_codes : ∀ c ∈ words1.filter isCode, c.before args0 about1 = true := by
  rw [codes_eq]
  intro c hc
  simp only [codes1, List.mem_cons, List.not_mem_nil, or_false] at hc
  rcases hc with rfl | rfl | rfl | rfl | rfl | rfl | rfl | rfl | rfl | rfl | rfl | rfl | rfl | rfl | rfl | rfl | rfl | rfl
  · exact w_c0
  · exact w_c1
  · exact w_c2
  · exact w_c3
  · exact w_c4
  · exact w_c5
  · exact w_c6
  · exact w_c7
  · exact w_c8
  · exact w_c9
  · exact w_c10
  · exact w_c11
  · exact w_c12
  · exact w_c13
  · exact w_c14
  · exact w_c15
  · exact w_c16
  · exact w_c17
set_option maxRecDepth 65536 in
theorem w_t1 : (words1.take 24).all (fun c => isCode c || c.before args0 about1) = true := by decide +kernel
set_option maxRecDepth 65536 in
theorem w_t2 : ((words1.drop 24).take 24).all (fun c => isCode c || c.before args0 about1) = true := by decide +kernel
set_option maxRecDepth 65536 in
theorem w_t3 : (((words1.drop 24).drop 24).take 24).all (fun c => isCode c || c.before args0 about1) = true := by decide +kernel
set_option maxRecDepth 65536 in
theorem w_t4 : ((((words1.drop 24).drop 24).drop 24).take 24).all (fun c => isCode c || c.before args0 about1) = true := by decide +kernel
set_option maxRecDepth 65536 in
theorem w_t5 : ((((words1.drop 24).drop 24).drop 24).drop 24).all (fun c => isCode c || c.before args0 about1) = true := by decide +kernel
theorem w_tables : (allAtoms (Jvm.Cond.code x code maxLocals ret :: tables_1)).before args0 about1 = true := by
  rw [allAtoms_all]
  show words1.all (fun c => c.before args0 about1) = true
  refine all_split ?_ w_codes
  rw [← List.take_append_drop 24 words1, List.all_append, w_t1, ← List.take_append_drop 24 (words1.drop 24), List.all_append, w_t2, ← List.take_append_drop 24 ((words1.drop 24).drop 24), List.all_append, w_t3, ← List.take_append_drop 24 (((words1.drop 24).drop 24).drop 24), List.all_append, w_t4, w_t5]
  rfl
set_option maxRecDepth 65536 in
theorem w_rest : rest_1_c.before args0 about1 = true := by decide +kernel
set_option maxRecDepth 65536 in
theorem w_case : (Jvm.Cond.and given_1 narrow_1).before args0 about1 = true := by decide +kernel
set_option maxRecDepth 65536 in
theorem w_consts : constsHeld consts_1 about1 := Jvm.Lit.constsHeldB_iff.mp (by decide +kernel)
theorem w_applies : (headSpec (Jvm.Cond.code x code maxLocals ret :: tables_1) room_1).applies x e0.platform about1 = true :=
  (Spec.applies_iff w_frames).mpr ⟨w_running, w_runnable, w_alone, w_named, w_hears, w_ripe, w_room, w_tables⟩
theorem atStart : AtStart classFile x code maxLocals ret World_1 tables_1 room_1 Calls_1 rest_1 Pre_1 launch0 p0 e0 about1 theMethod args0 below0 :=
  ⟨lists_1, trivial, launch0.admits_env _ _ _, launch0.least_env, fairChoices_fair.cas, fairChoices_fair.clock, w_frames, w_args, w_heap, w_applies, ⟨w_consts, trivial⟩, w_rest, w_case⟩
end start1
theorem witness_1 : WitnessClaimed_1 := ⟨start1.p0, start1.e0, start1.about1, start1.theMethod, start1.args0, start1.below0, start1.atStart⟩
end Jvm.Pilot.@@N@@
