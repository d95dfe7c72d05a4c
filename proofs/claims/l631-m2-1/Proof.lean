import JvmDerived
import JvmDerived.Pilot.@@N@@Statement
import JvmDerived.Pilot.@@N@@Code
set_option linter.unusedVariables false
set_option linter.unusedSimpArgs false
namespace Jvm.OwnW
open Sem ClassFile Op Lib Jvm.Stand Jvm.Free Jvm.LawKit Jvm.RoadKit
section A
variable {kn : Prop} {p : Program} {l : Launch} {e : Env} {R : Room} {s : State} {m : MethodId} {args : Array Value} {below : List Frame} {meth : Method} {c : Code} {T : State} {Z : State} {a0 : Array Value} {EL : List (String × Nat)} {h h' : Heap} {n0 kc ks fc fs : Nat} {sf : List Addr} {Q : Option Value → Heap → List Addr → Prop} {y : MethodName} {bytes : ByteArray} {maxL : Nat} {ret : Option FieldType} {a b : Addr} {ty : FieldType} {vs : List Value} {sl : Nat} {v w : Value} {C f d : String} {wl : List Addr}
def Sd (kn : Prop) (Z : State) (a0 : Array Value) (EL : List (String × Nat)) (y : MethodName) (bytes : ByteArray) (maxL : Nat) (ret : Option FieldType) (p : Program) (l : Launch) (e : Env) (R : Room) (s : State) (m : MethodId) (args : Array Value) (below : List Frame) (meth : Method) (c : Code) (n0 : Nat) (sf : List Addr) (h : Heap) (kc ks : Nat) (T : State) : Prop :=
  ∃ (vm0 : Vm) (k0 : Nat), (p.tables.exec = Jvm.exec ∧ Z.Warmed39 vm0 ∧ c.code = bytes ∧ c.maxLocals = maxL ∧ meth.sig.returnType = ret ∧ meth.locks = false ∧ vm0.findClass y.cls = some m.cls ∧ meth.name = y.name) ∧
  (s.Since vm0 k0 ∧ k0 ≤ h.size ∧ EW Z a0 EL ∧ CHr Z EL s.vm s.heap vm0 h ∧ (∀ x ∈ sf, Safe Z EL vm0 h x ∧ x < h.size) ∧ (kn → vm0.MethodsKnown ∧ vm0.FramesKnown below)) ∧
  ∃ locs cells slots, Stand p l e R (s.setVm vm0) m args below meth c T locs cells slots ∧ T.heap = h ∧ Fr n0 locs ∧ cells ≤ kc ∧ slots ≤ ks
def Run (Z : State) (EL : List (String × Nat)) (p : Program) (e : Env) (below : List Frame) (s : State) (n0 fc fs : Nat) (Q : Option Value → Heap → List Addr → Prop) (t : State) : Prop :=
  ∃ s₂ o, Steps p.tables e below t s₂ ∧ s₂.status = .running ∧ Ended s₂ below o ∧ ∃ v L sfn, o = .returned v ∧ Q v s₂.heap sfn ∧ (∀ x ∈ sfn, Safe Z EL s₂.vm s₂.heap x ∧ x < s₂.heap.size) ∧ Fr n0 L ∧ CHr Z EL s.vm s.heap s₂.vm s₂.heap ∧ ReturnedEndW s o s₂ L fc fs
def Ctr (kn : Prop) (l : Launch) (Z : State) (EL : List (String × Nat)) (y : MethodName) (bytes : ByteArray) (maxL : Nat) (ret : Option FieldType) (ws : List Cond) (rm : Room) (n0 : Nat) (sf : List Addr) (as : Array Value) (h : Heap) (Q : Option Value → Heap → List Addr → Prop) : Prop :=
  MetFree l y (head1 (Cond.code y bytes maxL ret :: ws) rm) (fun a' U => a' = as ∧ Z.Warmed39 U.vm ∧ U.heap = h ∧ CHv Z EL U.vm h ∧ ∀ x ∈ sf, Safe Z EL U.vm h x ∧ x < h.size) (fun _ _ bl U _ => kn → U.vm.MethodsKnown ∧ U.vm.FramesKnown bl) (fun _ U o U' => ∃ v L, o = .returned v ∧ (∃ sfn, Q v U'.heap sfn ∧ (∀ x ∈ sfn, Safe Z EL U'.vm U'.heap x ∧ x < U'.heap.size) ∧ Fr n0 L) ∧ CHr Z EL U.vm U.heap U'.vm U'.heap ∧ ReturnedEndW U o U' L rm.cells rm.slots)
def Rt (Qv : Value → Heap → List Addr → Prop) : Option Value → Heap → List Addr → Prop := fun v h g => ∃ w, v = some w ∧ Qv w h g
def Rn (Qn : Heap → List Addr → Prop) : Option Value → Heap → List Addr → Prop := fun v h g => v = none ∧ Qn h g
theorem Run.st {t t' : State} (k : Run Z EL p e below s n0 fc fs Q t') (f : ∀ z, Steps p.tables e below t' z → Steps p.tables e below t z) : Run Z EL p e below s n0 fc fs Q t := by
  obtain ⟨s2, o, h1, r⟩ := k; exact ⟨s2, o, f _ h1, r⟩
theorem FKalike {vm vm' : Vm} {fr : List Frame} (hal : vm.Alike vm') (h : vm.FramesKnown fr) : vm'.FramesKnown fr := Vm.FramesKnown.alikeC hal h
theorem Sd.x (X : Sd kn Z a0 EL y bytes maxL ret p l e R s m args below meth c n0 sf h kc ks T) : p.tables.exec = Jvm.exec := by obtain ⟨_, _, q, -⟩ := X; exact q.1
theorem Sd.hr (X : Sd kn Z a0 EL y bytes maxL ret p l e R s m args below meth c n0 sf h kc ks T) : At T m c below := by obtain ⟨_, _, -, -, _, _, _, Y, -⟩ := X; exact Y.here
theorem Sd.dc (X : Sd kn Z a0 EL y bytes maxL ret p l e R s m args below meth c n0 sf h kc ks T) {pc : Nat} {r : Except DecodeError (Instr × Nat)} (q : decode bytes pc = r) : decode c.code pc = r := by obtain ⟨_, _, g, -⟩ := X; exact g.2.2.1 ▸ q
theorem Sd.rt (X : Sd kn Z a0 EL y bytes maxL ret p l e R s m args below meth c n0 sf h kc ks T) : meth.sig.returnType = ret := by obtain ⟨_, _, q, -⟩ := X; exact q.2.2.2.2.1
theorem Sd.op (X : Sd kn Z a0 EL y bytes maxL ret p l e R s m args below meth c n0 sf h kc ks T) : ∃ (s' : State) (L : List Loc) (i j : Nat), Stand p l e R s' m args below meth c T L i j ∧ T.heap = h ∧ Z.Warmed39 s'.vm ∧ s'.vm.findClass y.cls = some m.cls ∧ c.maxLocals = maxL ∧ meth.name = y.name ∧ i ≤ kc ∧ j ≤ ks ∧ p.tables.exec = Jvm.exec ∧ (∀ T', Stand p l e R s' m args below meth c T' L i j → T'.heap = h → Sd kn Z a0 EL y bytes maxL ret p l e R s m args below meth c n0 sf h kc ks T') ∧ (∀ T' h' dc ds, Stand p l e R s' m args below meth c T' L (i + dc) (j + ds) → T'.heap = h' → Ext h h' → h.size < h'.size → Sd kn Z a0 EL y bytes maxL ret p l e R s m args below meth c n0 (h.size :: sf) h' (kc + dc) (ks + ds) T') ∧ (∀ T' h' a sl v, a ∈ sf → n0 ≤ a → Stand p l e R s' m args below meth c T' (L ++ [⟨a, sl⟩]) i j → T'.heap = h' → Wr h h' a sl v → Sd kn Z a0 EL y bytes maxL ret p l e R s m args below meth c n0 sf h' kc ks T') := by
  obtain ⟨vm0, k0, q, ⟨hS, hk, hE, hC, hs, hkn⟩, L, i, j, Y, r1, r2, r3, r4⟩ := X
  refine ⟨s.setVm vm0, L, i, j, Y, r1, q.2.1, q.2.2.2.2.2.2.1, q.2.2.2.1, q.2.2.2.2.2.2.2, r3, r4, q.1, ?_, ?_, ?_⟩
  · intro T' Y' e'
    exact ⟨vm0, k0, q, ⟨hS, hk, hE, hC, hs, hkn⟩, L, i, j, Y', e', r2, r3, r4⟩
  · intro T' h' dc ds Y' e' E hlt
    refine ⟨vm0, k0, q, ⟨hS, Nat.le_trans hk E.1, hE, hC.trans (CHr.ext E hC.1), ?_, hkn⟩, L, _, _, Y', e', r2, by omega, by omega⟩
    intro x hx
    rcases List.mem_cons.mp hx with rfl | hx
    · exact ⟨(Safe.new (Nat.le_refl _)).ext E hC.1, hlt⟩
    · exact ⟨(hs x hx).1.ext E hC.1, Nat.lt_of_lt_of_le (hs x hx).2 E.1⟩
  · intro T' h' a sl v ha hn Y' e' W
    refine ⟨vm0, k0, q, ⟨hS, by rw [W.size]; exact hk, hE, hC.trans (CHr.wr W (hs a ha).1 hC.1), ?_, hkn⟩, _, _, _, Y', e', Fr.snoc Y' r2 hn, r3, r4⟩
    intro x hx
    exact ⟨Safe.wr W (hs a ha).1 hC.1 (hs x hx).1, by rw [W.size]; exact (hs x hx).2⟩
theorem Sd.lt (X : Sd kn Z a0 EL y bytes maxL ret p l e R s m args below meth c n0 sf h kc ks T) : ∀ x ∈ sf, x < h.size := by obtain ⟨_, _, -, ⟨-, -, -, -, hs, -⟩, -⟩ := X; exact fun x hx => (hs x hx).2
theorem sf0 : ∀ x ∈ ([] : List Addr), x ∈ sf := fun _ q => nomatch q
theorem sfS (q : a ∈ sf) (r : ∀ x ∈ wl, x ∈ sf) : ∀ x ∈ a :: wl, x ∈ sf := fun x z => (List.mem_cons.mp z).elim (fun u => u ▸ q) (r x)
theorem Sd.more (X : Sd kn Z a0 EL y bytes maxL ret p l e R s m args below meth c n0 sf h kc ks T) {kc' ks' : Nat} (h1 : kc ≤ kc') (h2 : ks ≤ ks') : Sd kn Z a0 EL y bytes maxL ret p l e R s m args below meth c n0 sf h kc' ks' T := by
  obtain ⟨vm0, k0, q, g, L, i, j, Y, r1, r2, r3, r4⟩ := X; exact ⟨vm0, k0, q, g, L, i, j, Y, r1, r2, Nat.le_trans r3 h1, Nat.le_trans r4 h2⟩
theorem Sd.less (X : Sd kn Z a0 EL y bytes maxL ret p l e R s m args below meth c n0 sf h kc ks T) {sf' : List Addr} (hh : ∀ x ∈ sf', x ∈ sf) : Sd kn Z a0 EL y bytes maxL ret p l e R s m args below meth c n0 sf' h kc ks T := by
  obtain ⟨vm0, k0, q, ⟨hS, hk, hE, hC, hs, hkn⟩, g⟩ := X; exact ⟨vm0, k0, q, ⟨hS, hk, hE, hC, fun x hx => hs x (hh x hx), hkn⟩, g⟩
theorem Ctr.of {rm : Room} {ws : List Cond} {as : Array Value} {ls0 : Array Slot} (hn : plainFor y = true) (hE : EW Z a0 EL) (hf : ∀ m, entryFrame m as maxL = mkF m 0 ls0 [])
    (body : ∀ (p : Program) (e : Env) (s : State) (m : MethodId) (below : List Frame) (meth : Method) (c : Code) (T : State), Sd kn Z a0 EL y bytes maxL ret p l e rm s m as below meth c n0 sf h 0 0 T → Run Z EL p e below s n0 rm.cells rm.slots Q (T.setTop (mkF m 0 ls0 []))) : Ctr kn l Z EL y bytes maxL ret ws rm n0 sf as h Q := by
  refine MetFree.of_bodySF hn hisR ?_
  intro p e s m args below meth c s₁ Bd hml0 hP hK
  obtain ⟨rfl, hZ, hh, hC, hs⟩ := hP
  have X0 : Stand p l e rm s m args below meth c s₁ [] 0 0 := Stand.of_body Bd
  have e0 : s₁.heap = h := by rw [← hh, Bd.state]; rfl
  obtain ⟨s2, o, h1, h2, h3, v, L, sfn, h4, h5, h6, h7, h8, h9⟩ := body p e s m below meth c s₁ ⟨s.vm, h.size, ⟨Bd.exec, hZ, Bd.bytes, hml0, Bd.returns, Bd.notSynchronized, findClass_of_methodNamed Bd.named, (name_of_methodNamed Bd.named Bd.method).1⟩, ⟨(State.WarmedH.refl s).since _, Nat.le_refl _, hE, by rw [hh]; exact CHr.refl hC, hs, hK⟩, [], 0, 0, X0, e0, Fr.nil _, Nat.le_refl _, Nat.le_refl _⟩
  exact ⟨s2, o, castTop (hf m) h1, h2, h3, v, L, h4, ⟨sfn, h5, h6, h7⟩, h8, h9⟩
theorem leaveQ (X : Sd kn Z a0 EL y bytes maxL ret p l e R s m args below meth c n0 sf h kc ks T) {v : Option Value} (hv : ret = none → v = none) (hq : Q v h sf) (h1 : kc ≤ fc) (h2 : ks ≤ fs) {t : State}
    (st : ∀ {s' : State} {locs cells slots}, Stand p l e R s' m args below meth c T locs cells slots → ∀ {ff : List Frame}, (∀ (f : JFrame) (acts : List Action), f.method = m → f.locked = none → f.entered = [] → (doReturn e (T.setTop f) acts v).1 = T.setFrames ff) → Steps p.tables e below t (T.setFrames ff)) : Run Z EL p e below s n0 fc fs Q t := by
  obtain ⟨vm0, k0, q, ⟨hS, hk, hE, hC, hs, hkn⟩, L, i, j, Y, r1, r2, r3, r4⟩ := X
  obtain ⟨ff, g1, hrun, hended, w1, w2, w3, w4⟩ := Y.leaveW hS (by rw [r1]; exact hk) (v := v) (fun z => hv (q.2.2.2.2.1 ▸ z)) q.2.2.2.2.2.1
  have hA := CHv.at Y q.2.1 hE hC.1
  refine ⟨_, _, st Y g1, hrun, hended, v, L, sf, rfl, by show Q v T.heap sf; rw [r1]; exact hq, ?_, r2, ?_, w1, w2, w3, w4.mono (Nat.le_trans r3 h1) (Nat.le_trans r4 h2)⟩
  · intro x hx
    show Safe Z EL T.vm T.heap x ∧ x < T.heap.size
    rw [r1]
    exact ⟨hA.safe (hs x hx).2 (hs x hx).1, (hs x hx).2⟩
  · show CHr Z EL s.vm s.heap T.vm T.heap
    rw [r1]
    exact hC.trans hA
theorem areturn (X : Sd kn Z a0 EL y bytes maxL ret p l e R s m args below meth c n0 sf h kc ks T) {t : FieldType} (hr : ret = some t) (ht : t.isReference = true) {pc : Nat} {ls : Array Slot} {w : Value} {st : List Value} (hw : w.isRef = true) (hd : decode bytes pc = .ok (.areturn, 1)) {Qv : Value → Heap → List Addr → Prop} (hq : Qv w h sf) (h1 : kc ≤ fc) (h2 : ks ≤ fs) : Run Z EL p e below s n0 fc fs (Rt Qv) (T.setTop (mkF m pc ls (w :: st))) := by
  subst hr
  have hn : narrow t w = w := by cases w <;> cases t <;> first | rfl | exact absurd hw Bool.noConfusion | exact absurd ht Bool.noConfusion
  exact leaveQ X (v := some w) (fun q => by cases q) ⟨w, rfl, hq⟩ h1 h2 fun Y _ g => retOut Y X.x X.rt hn (Or.inr (Or.inr (Or.inr (Or.inr ⟨rfl, ht, hw⟩)))) (X.dc hd) g
theorem ireturn (X : Sd kn Z a0 EL y bytes maxL ret p l e R s m args below meth c n0 sf h kc ks T) {t : FieldType} (hr : ret = some t) (ht : t = .int ∨ t = .boolean ∨ t = .byte ∨ t = .char ∨ t = .short) {pc : Nat} {ls : Array Slot} {z : Int32} {st : List Value} (hn : narrow t (.int z) = .int z) (hd : decode bytes pc = .ok (.ireturn, 1)) {Qv : Value → Heap → List Addr → Prop} (hq : Qv (.int z) h sf) (h1 : kc ≤ fc) (h2 : ks ≤ fs) : Run Z EL p e below s n0 fc fs (Rt Qv) (T.setTop (mkF m pc ls (.int z :: st))) := by
  subst hr
  exact leaveQ X (v := some (.int z)) (fun q => by cases q) ⟨_, rfl, hq⟩ h1 h2 fun Y _ g => retOut Y X.x X.rt hn (Or.inl ⟨rfl, ht, z, rfl⟩) (X.dc hd) g
theorem ireturnN (X : Sd kn Z a0 EL y bytes maxL ret p l e R s m args below meth c n0 sf h kc ks T) {t : FieldType} (hr : ret = some t) (ht : t = .boolean ∨ t = .byte ∨ t = .char ∨ t = .short) {pc : Nat} {ls : Array Slot} {z z' : Int32} {st : List Value} (hn : nar t z = z') (hd : decode bytes pc = .ok (.ireturn, 1)) {Qv : Value → Heap → List Addr → Prop} (hq : Qv (.int z') h sf) (h1 : kc ≤ fc) (h2 : ks ≤ fs) : Run Z EL p e below s n0 fc fs (Rt Qv) (T.setTop (mkF m pc ls (.int z :: st))) := by
  subst hr hn
  exact leaveQ X (v := some (.int (nar t z))) (fun q => by cases q) ⟨_, rfl, hq⟩ h1 h2 fun Y _ g => retN Y X.x X.rt ht (X.dc hd) g
theorem vreturn (X : Sd kn Z a0 EL y bytes maxL ret p l e R s m args below meth c n0 sf h kc ks T) (hr : ret = none) {pc : Nat} {ls : Array Slot} (hd : decode bytes pc = .ok (.return_, 1)) {Qn : Heap → List Addr → Prop} (hq : Qn h sf) (h1 : kc ≤ fc) (h2 : ks ≤ fs) : Run Z EL p e below s n0 fc fs (Rn Qn) (T.setTop (mkF m pc ls [])) := by
  subst hr
  exact leaveQ X (v := none) (fun _ => rfl) ⟨rfl, hq⟩ h1 h2 fun Y _ g => Y.returnOut X.x X.rt (X.dc hd) g
theorem iloadN (X : Sd kn Z a0 EL y bytes maxL ret p l e R s m args below meth c n0 sf h kc ks T) {pc n : Nat} {ls : Array Slot} {st : List Value} {k : Fin 4} {v : Int32} (hd : decode bytes pc = .ok (.iload_n k, 1)) (hl : ls[k.val]? = some (.val (.int v))) (hn : pc + 1 = n) (K : Run Z EL p e below s n0 fc fs Q (T.setTop (mkF m n ls (.int v :: st)))) : Run Z EL p e below s n0 fc fs Q (T.setTop (mkF m pc ls st)) := by
  subst hn; exact K.st fun _ k => XS.iloadN X.hr X.x rfl (X.dc hd) hl k
theorem iload (X : Sd kn Z a0 EL y bytes maxL ret p l e R s m args below meth c n0 sf h kc ks T) {pc n : Nat} {ls : Array Slot} {st : List Value} {j : Nat} {v : Int32} (hd : decode bytes pc = .ok (.iload j, 2)) (hl : ls[j]? = some (.val (.int v))) (hn : pc + 2 = n) (K : Run Z EL p e below s n0 fc fs Q (T.setTop (mkF m n ls (.int v :: st)))) : Run Z EL p e below s n0 fc fs Q (T.setTop (mkF m pc ls st)) := by
  subst hn; exact K.st fun _ k => XS.iload X.hr X.x rfl (X.dc hd) hl k
theorem istoreN (X : Sd kn Z a0 EL y bytes maxL ret p l e R s m args below meth c n0 sf h kc ks T) {pc n : Nat} {ls : Array Slot} {st : List Value} {k : Fin 4} {v : Int32} {l' : Array Slot} (hd : decode bytes pc = .ok (.istore_n k, 1)) (hl : storeLocals ls k.val (.int v) = some l') (hn : pc + 1 = n) (K : Run Z EL p e below s n0 fc fs Q (T.setTop (mkF m n l' st))) : Run Z EL p e below s n0 fc fs Q (T.setTop (mkF m pc ls (.int v :: st))) := by
  subst hn; exact K.st fun _ k => XS.istoreN X.hr X.x rfl (X.dc hd) rfl hl k
theorem istore (X : Sd kn Z a0 EL y bytes maxL ret p l e R s m args below meth c n0 sf h kc ks T) {pc n : Nat} {ls : Array Slot} {st : List Value} {j : Nat} {v : Int32} {l' : Array Slot} (hd : decode bytes pc = .ok (.istore j, 2)) (hl : storeLocals ls j (.int v) = some l') (hn : pc + 2 = n) (K : Run Z EL p e below s n0 fc fs Q (T.setTop (mkF m n l' st))) : Run Z EL p e below s n0 fc fs Q (T.setTop (mkF m pc ls (.int v :: st))) := by
  subst hn; exact K.st fun _ k => XS.istore X.hr X.x rfl (X.dc hd) rfl hl k
theorem lloadN (X : Sd kn Z a0 EL y bytes maxL ret p l e R s m args below meth c n0 sf h kc ks T) {pc n : Nat} {ls : Array Slot} {st : List Value} {k : Fin 4} {v : Int64} (hd : decode bytes pc = .ok (.lload_n k, 1)) (hl : ls[k.val]? = some (.val (.long v))) (hn : pc + 1 = n) (K : Run Z EL p e below s n0 fc fs Q (T.setTop (mkF m n ls (.long v :: st)))) : Run Z EL p e below s n0 fc fs Q (T.setTop (mkF m pc ls st)) := by
  subst hn; exact K.st fun _ k => XS.lloadN X.hr X.x rfl (X.dc hd) hl k
theorem lload (X : Sd kn Z a0 EL y bytes maxL ret p l e R s m args below meth c n0 sf h kc ks T) {pc n : Nat} {ls : Array Slot} {st : List Value} {j : Nat} {v : Int64} (hd : decode bytes pc = .ok (.lload j, 2)) (hl : ls[j]? = some (.val (.long v))) (hn : pc + 2 = n) (K : Run Z EL p e below s n0 fc fs Q (T.setTop (mkF m n ls (.long v :: st)))) : Run Z EL p e below s n0 fc fs Q (T.setTop (mkF m pc ls st)) := by
  subst hn; exact K.st fun _ k => XS.lload X.hr X.x rfl (X.dc hd) hl k
theorem lstoreN (X : Sd kn Z a0 EL y bytes maxL ret p l e R s m args below meth c n0 sf h kc ks T) {pc n : Nat} {ls : Array Slot} {st : List Value} {k : Fin 4} {v : Int64} {l' : Array Slot} (hd : decode bytes pc = .ok (.lstore_n k, 1)) (hl : storeLocals ls k.val (.long v) = some l') (hn : pc + 1 = n) (K : Run Z EL p e below s n0 fc fs Q (T.setTop (mkF m n l' st))) : Run Z EL p e below s n0 fc fs Q (T.setTop (mkF m pc ls (.long v :: st))) := by
  subst hn; exact K.st fun _ k => XS.lstoreN X.hr X.x rfl (X.dc hd) rfl hl k
theorem lstore (X : Sd kn Z a0 EL y bytes maxL ret p l e R s m args below meth c n0 sf h kc ks T) {pc n : Nat} {ls : Array Slot} {st : List Value} {j : Nat} {v : Int64} {l' : Array Slot} (hd : decode bytes pc = .ok (.lstore j, 2)) (hl : storeLocals ls j (.long v) = some l') (hn : pc + 2 = n) (K : Run Z EL p e below s n0 fc fs Q (T.setTop (mkF m n l' st))) : Run Z EL p e below s n0 fc fs Q (T.setTop (mkF m pc ls (.long v :: st))) := by
  subst hn; exact K.st fun _ k => XS.lstore X.hr X.x rfl (X.dc hd) rfl hl k
theorem aloadN (X : Sd kn Z a0 EL y bytes maxL ret p l e R s m args below meth c n0 sf h kc ks T) {pc n : Nat} {ls : Array Slot} {st : List Value} {k : Fin 4} {v : Value} (hd : decode bytes pc = .ok (.aload_n k, 1)) (hl : ls[k.val]? = some (.val v)) (hv : v.isRef = true) (hn : pc + 1 = n) (K : Run Z EL p e below s n0 fc fs Q (T.setTop (mkF m n ls (v :: st)))) : Run Z EL p e below s n0 fc fs Q (T.setTop (mkF m pc ls st)) := by
  subst hn; exact K.st fun _ k => XS.aloadN X.hr X.x rfl (X.dc hd) hl hv k
theorem aload (X : Sd kn Z a0 EL y bytes maxL ret p l e R s m args below meth c n0 sf h kc ks T) {pc n : Nat} {ls : Array Slot} {st : List Value} {j : Nat} {v : Value} (hd : decode bytes pc = .ok (.aload j, 2)) (hl : ls[j]? = some (.val v)) (hv : v.isRef = true) (hn : pc + 2 = n) (K : Run Z EL p e below s n0 fc fs Q (T.setTop (mkF m n ls (v :: st)))) : Run Z EL p e below s n0 fc fs Q (T.setTop (mkF m pc ls st)) := by
  subst hn; exact K.st fun _ k => XS.aload X.hr X.x rfl (X.dc hd) hl hv k
theorem astoreN (X : Sd kn Z a0 EL y bytes maxL ret p l e R s m args below meth c n0 sf h kc ks T) {pc n : Nat} {ls : Array Slot} {st : List Value} {k : Fin 4} {v : Value} {l' : Array Slot} (hd : decode bytes pc = .ok (.astore_n k, 1)) (hv : v.isRef = true) (hl : storeLocals ls k.val v = some l') (hn : pc + 1 = n) (K : Run Z EL p e below s n0 fc fs Q (T.setTop (mkF m n l' st))) : Run Z EL p e below s n0 fc fs Q (T.setTop (mkF m pc ls (v :: st))) := by
  subst hn; exact K.st fun _ k => XS.astoreN X.hr X.x rfl (X.dc hd) rfl hv hl k
theorem astore (X : Sd kn Z a0 EL y bytes maxL ret p l e R s m args below meth c n0 sf h kc ks T) {pc n : Nat} {ls : Array Slot} {st : List Value} {j : Nat} {v : Value} {l' : Array Slot} (hd : decode bytes pc = .ok (.astore j, 2)) (hv : v.isRef = true) (hl : storeLocals ls j v = some l') (hn : pc + 2 = n) (K : Run Z EL p e below s n0 fc fs Q (T.setTop (mkF m n l' st))) : Run Z EL p e below s n0 fc fs Q (T.setTop (mkF m pc ls (v :: st))) := by
  subst hn; exact K.st fun _ k => XS.astore X.hr X.x rfl (X.dc hd) rfl hv hl k
theorem iconst (X : Sd kn Z a0 EL y bytes maxL ret p l e R s m args below meth c n0 sf h kc ks T) {pc n : Nat} {ls : Array Slot} {st : List Value} {i : Int} {z : Int32} (hd : decode bytes pc = .ok (.iconst i, 1)) (hz : Int32.ofInt i = z) (hn : pc + 1 = n) (K : Run Z EL p e below s n0 fc fs Q (T.setTop (mkF m n ls (.int z :: st)))) : Run Z EL p e below s n0 fc fs Q (T.setTop (mkF m pc ls st)) := by
  subst hn hz; exact K.st fun _ k => XS.iconst X.hr X.x rfl (X.dc hd) k
theorem bipush (X : Sd kn Z a0 EL y bytes maxL ret p l e R s m args below meth c n0 sf h kc ks T) {pc n : Nat} {ls : Array Slot} {st : List Value} {i : Int} {z : Int32} (hd : decode bytes pc = .ok (.bipush i, 2)) (hz : (Int8.ofInt i).toInt32 = z) (hn : pc + 2 = n) (K : Run Z EL p e below s n0 fc fs Q (T.setTop (mkF m n ls (.int z :: st)))) : Run Z EL p e below s n0 fc fs Q (T.setTop (mkF m pc ls st)) := by
  subst hn hz; exact K.st fun _ k => XS.bipush X.hr X.x rfl (X.dc hd) k
theorem sipush (X : Sd kn Z a0 EL y bytes maxL ret p l e R s m args below meth c n0 sf h kc ks T) {pc n : Nat} {ls : Array Slot} {st : List Value} {i : Int} {z : Int32} (hd : decode bytes pc = .ok (.sipush i, 3)) (hz : (Int16.ofInt i).toInt32 = z) (hn : pc + 3 = n) (K : Run Z EL p e below s n0 fc fs Q (T.setTop (mkF m n ls (.int z :: st)))) : Run Z EL p e below s n0 fc fs Q (T.setTop (mkF m pc ls st)) := by
  subst hn hz; exact K.st fun _ k => XS.sipush X.hr X.x rfl (X.dc hd) k
theorem anull (X : Sd kn Z a0 EL y bytes maxL ret p l e R s m args below meth c n0 sf h kc ks T) {pc n : Nat} {ls : Array Slot} {st : List Value}  (hd : decode bytes pc = .ok (.aconst_null, 1)) (hn : pc + 1 = n) (K : Run Z EL p e below s n0 fc fs Q (T.setTop (mkF m n ls (.null :: st)))) : Run Z EL p e below s n0 fc fs Q (T.setTop (mkF m pc ls st)) := by
  subst hn; exact K.st fun _ k => XS.aconstNull X.hr X.x rfl (X.dc hd) k
theorem iadd (X : Sd kn Z a0 EL y bytes maxL ret p l e R s m args below meth c n0 sf h kc ks T) {pc n : Nat} {ls : Array Slot} {st : List Value} {u v : Int32} (hd : decode bytes pc = .ok (.iadd, 1)) (hn : pc + 1 = n) (K : Run Z EL p e below s n0 fc fs Q (T.setTop (mkF m n ls (.int (u + v) :: st)))) : Run Z EL p e below s n0 fc fs Q (T.setTop (mkF m pc ls (.int v :: .int u :: st))) := by
  subst hn; exact K.st fun _ k => XS.iadd X.hr X.x rfl (X.dc hd) rfl k
theorem ladd (X : Sd kn Z a0 EL y bytes maxL ret p l e R s m args below meth c n0 sf h kc ks T) {pc n : Nat} {ls : Array Slot} {st : List Value} {u v : Int64} (hd : decode bytes pc = .ok (.ladd, 1)) (hn : pc + 1 = n) (K : Run Z EL p e below s n0 fc fs Q (T.setTop (mkF m n ls (.long (u + v) :: st)))) : Run Z EL p e below s n0 fc fs Q (T.setTop (mkF m pc ls (.long v :: .long u :: st))) := by
  subst hn; exact K.st fun _ k => XS.ladd X.hr X.x rfl (X.dc hd) rfl k
theorem isub (X : Sd kn Z a0 EL y bytes maxL ret p l e R s m args below meth c n0 sf h kc ks T) {pc n : Nat} {ls : Array Slot} {st : List Value} {u v : Int32} (hd : decode bytes pc = .ok (.isub, 1)) (hn : pc + 1 = n) (K : Run Z EL p e below s n0 fc fs Q (T.setTop (mkF m n ls (.int (u - v) :: st)))) : Run Z EL p e below s n0 fc fs Q (T.setTop (mkF m pc ls (.int v :: .int u :: st))) := by
  subst hn; exact K.st fun _ k => XS.isub X.hr X.x rfl (X.dc hd) rfl k
theorem lsub (X : Sd kn Z a0 EL y bytes maxL ret p l e R s m args below meth c n0 sf h kc ks T) {pc n : Nat} {ls : Array Slot} {st : List Value} {u v : Int64} (hd : decode bytes pc = .ok (.lsub, 1)) (hn : pc + 1 = n) (K : Run Z EL p e below s n0 fc fs Q (T.setTop (mkF m n ls (.long (u - v) :: st)))) : Run Z EL p e below s n0 fc fs Q (T.setTop (mkF m pc ls (.long v :: .long u :: st))) := by
  subst hn; exact K.st fun _ k => XS.lsub X.hr X.x rfl (X.dc hd) rfl k
theorem imul (X : Sd kn Z a0 EL y bytes maxL ret p l e R s m args below meth c n0 sf h kc ks T) {pc n : Nat} {ls : Array Slot} {st : List Value} {u v : Int32} (hd : decode bytes pc = .ok (.imul, 1)) (hn : pc + 1 = n) (K : Run Z EL p e below s n0 fc fs Q (T.setTop (mkF m n ls (.int (u * v) :: st)))) : Run Z EL p e below s n0 fc fs Q (T.setTop (mkF m pc ls (.int v :: .int u :: st))) := by
  subst hn; exact K.st fun _ k => XS.imul X.hr X.x rfl (X.dc hd) rfl k
theorem lmul (X : Sd kn Z a0 EL y bytes maxL ret p l e R s m args below meth c n0 sf h kc ks T) {pc n : Nat} {ls : Array Slot} {st : List Value} {u v : Int64} (hd : decode bytes pc = .ok (.lmul, 1)) (hn : pc + 1 = n) (K : Run Z EL p e below s n0 fc fs Q (T.setTop (mkF m n ls (.long (u * v) :: st)))) : Run Z EL p e below s n0 fc fs Q (T.setTop (mkF m pc ls (.long v :: .long u :: st))) := by
  subst hn; exact K.st fun _ k => XS.lmul X.hr X.x rfl (X.dc hd) rfl k
theorem iand (X : Sd kn Z a0 EL y bytes maxL ret p l e R s m args below meth c n0 sf h kc ks T) {pc n : Nat} {ls : Array Slot} {st : List Value} {u v : Int32} (hd : decode bytes pc = .ok (.iand, 1)) (hn : pc + 1 = n) (K : Run Z EL p e below s n0 fc fs Q (T.setTop (mkF m n ls (.int (u &&& v) :: st)))) : Run Z EL p e below s n0 fc fs Q (T.setTop (mkF m pc ls (.int v :: .int u :: st))) := by
  subst hn; exact K.st fun _ k => XS.iand X.hr X.x rfl (X.dc hd) rfl k
theorem land (X : Sd kn Z a0 EL y bytes maxL ret p l e R s m args below meth c n0 sf h kc ks T) {pc n : Nat} {ls : Array Slot} {st : List Value} {u v : Int64} (hd : decode bytes pc = .ok (.land, 1)) (hn : pc + 1 = n) (K : Run Z EL p e below s n0 fc fs Q (T.setTop (mkF m n ls (.long (u &&& v) :: st)))) : Run Z EL p e below s n0 fc fs Q (T.setTop (mkF m pc ls (.long v :: .long u :: st))) := by
  subst hn; exact K.st fun _ k => XS.land X.hr X.x rfl (X.dc hd) rfl k
theorem ior (X : Sd kn Z a0 EL y bytes maxL ret p l e R s m args below meth c n0 sf h kc ks T) {pc n : Nat} {ls : Array Slot} {st : List Value} {u v : Int32} (hd : decode bytes pc = .ok (.ior, 1)) (hn : pc + 1 = n) (K : Run Z EL p e below s n0 fc fs Q (T.setTop (mkF m n ls (.int (u ||| v) :: st)))) : Run Z EL p e below s n0 fc fs Q (T.setTop (mkF m pc ls (.int v :: .int u :: st))) := by
  subst hn; exact K.st fun _ k => XS.ior X.hr X.x rfl (X.dc hd) rfl k
theorem lor (X : Sd kn Z a0 EL y bytes maxL ret p l e R s m args below meth c n0 sf h kc ks T) {pc n : Nat} {ls : Array Slot} {st : List Value} {u v : Int64} (hd : decode bytes pc = .ok (.lor, 1)) (hn : pc + 1 = n) (K : Run Z EL p e below s n0 fc fs Q (T.setTop (mkF m n ls (.long (u ||| v) :: st)))) : Run Z EL p e below s n0 fc fs Q (T.setTop (mkF m pc ls (.long v :: .long u :: st))) := by
  subst hn; exact K.st fun _ k => XS.lor X.hr X.x rfl (X.dc hd) rfl k
theorem ixor (X : Sd kn Z a0 EL y bytes maxL ret p l e R s m args below meth c n0 sf h kc ks T) {pc n : Nat} {ls : Array Slot} {st : List Value} {u v : Int32} (hd : decode bytes pc = .ok (.ixor, 1)) (hn : pc + 1 = n) (K : Run Z EL p e below s n0 fc fs Q (T.setTop (mkF m n ls (.int (u ^^^ v) :: st)))) : Run Z EL p e below s n0 fc fs Q (T.setTop (mkF m pc ls (.int v :: .int u :: st))) := by
  subst hn; exact K.st fun _ k => XS.ixor X.hr X.x rfl (X.dc hd) rfl k
theorem lxor (X : Sd kn Z a0 EL y bytes maxL ret p l e R s m args below meth c n0 sf h kc ks T) {pc n : Nat} {ls : Array Slot} {st : List Value} {u v : Int64} (hd : decode bytes pc = .ok (.lxor, 1)) (hn : pc + 1 = n) (K : Run Z EL p e below s n0 fc fs Q (T.setTop (mkF m n ls (.long (u ^^^ v) :: st)))) : Run Z EL p e below s n0 fc fs Q (T.setTop (mkF m pc ls (.long v :: .long u :: st))) := by
  subst hn; exact K.st fun _ k => XS.lxor X.hr X.x rfl (X.dc hd) rfl k
theorem ishl (X : Sd kn Z a0 EL y bytes maxL ret p l e R s m args below meth c n0 sf h kc ks T) {pc n : Nat} {ls : Array Slot} {st : List Value} {u v : Int32} (hd : decode bytes pc = .ok (.ishl, 1)) (hn : pc + 1 = n) (K : Run Z EL p e below s n0 fc fs Q (T.setTop (mkF m n ls (.int (u <<< (v &&& 31)) :: st)))) : Run Z EL p e below s n0 fc fs Q (T.setTop (mkF m pc ls (.int v :: .int u :: st))) := by
  subst hn; exact K.st fun _ k => XS.ishl X.hr X.x rfl (X.dc hd) rfl k
theorem ishr (X : Sd kn Z a0 EL y bytes maxL ret p l e R s m args below meth c n0 sf h kc ks T) {pc n : Nat} {ls : Array Slot} {st : List Value} {u v : Int32} (hd : decode bytes pc = .ok (.ishr, 1)) (hn : pc + 1 = n) (K : Run Z EL p e below s n0 fc fs Q (T.setTop (mkF m n ls (.int (u >>> (v &&& 31)) :: st)))) : Run Z EL p e below s n0 fc fs Q (T.setTop (mkF m pc ls (.int v :: .int u :: st))) := by
  subst hn; exact K.st fun _ k => XS.ishr X.hr X.x rfl (X.dc hd) rfl k
theorem iushr (X : Sd kn Z a0 EL y bytes maxL ret p l e R s m args below meth c n0 sf h kc ks T) {pc n : Nat} {ls : Array Slot} {st : List Value} {u v : Int32} (hd : decode bytes pc = .ok (.iushr, 1)) (hn : pc + 1 = n) (K : Run Z EL p e below s n0 fc fs Q (T.setTop (mkF m n ls (.int ((u.toUInt32 >>> (v &&& 31).toUInt32).toInt32) :: st)))) : Run Z EL p e below s n0 fc fs Q (T.setTop (mkF m pc ls (.int v :: .int u :: st))) := by
  subst hn; exact K.st fun _ k => XS.iushr X.hr X.x rfl (X.dc hd) rfl k
theorem lshl (X : Sd kn Z a0 EL y bytes maxL ret p l e R s m args below meth c n0 sf h kc ks T) {pc n : Nat} {ls : Array Slot} {st : List Value} {u : Int64} {v : Int32} (hd : decode bytes pc = .ok (.lshl, 1)) (hn : pc + 1 = n) (K : Run Z EL p e below s n0 fc fs Q (T.setTop (mkF m n ls (.long (u <<< (v &&& 0x3f).toInt64) :: st)))) : Run Z EL p e below s n0 fc fs Q (T.setTop (mkF m pc ls (.int v :: .long u :: st))) := by
  subst hn; exact K.st fun _ k => XS.lshl X.hr X.x rfl (X.dc hd) rfl k
theorem lshr (X : Sd kn Z a0 EL y bytes maxL ret p l e R s m args below meth c n0 sf h kc ks T) {pc n : Nat} {ls : Array Slot} {st : List Value} {u : Int64} {v : Int32} (hd : decode bytes pc = .ok (.lshr, 1)) (hn : pc + 1 = n) (K : Run Z EL p e below s n0 fc fs Q (T.setTop (mkF m n ls (.long (u >>> (v &&& 0x3f).toInt64) :: st)))) : Run Z EL p e below s n0 fc fs Q (T.setTop (mkF m pc ls (.int v :: .long u :: st))) := by
  subst hn; exact K.st fun _ k => XS.lshr X.hr X.x rfl (X.dc hd) rfl k
theorem lushr (X : Sd kn Z a0 EL y bytes maxL ret p l e R s m args below meth c n0 sf h kc ks T) {pc n : Nat} {ls : Array Slot} {st : List Value} {u : Int64} {v : Int32} (hd : decode bytes pc = .ok (.lushr, 1)) (hn : pc + 1 = n) (K : Run Z EL p e below s n0 fc fs Q (T.setTop (mkF m n ls (.long ((u.toUInt64 >>> (v &&& 0x3f).toInt64.toUInt64).toInt64) :: st)))) : Run Z EL p e below s n0 fc fs Q (T.setTop (mkF m pc ls (.int v :: .long u :: st))) := by
  subst hn; exact K.st fun _ k => XS.lushr X.hr X.x rfl (X.dc hd) rfl k
theorem ineg (X : Sd kn Z a0 EL y bytes maxL ret p l e R s m args below meth c n0 sf h kc ks T) {pc n : Nat} {ls : Array Slot} {st : List Value} {u : Int32} (hd : decode bytes pc = .ok (.ineg, 1)) (hn : pc + 1 = n) (K : Run Z EL p e below s n0 fc fs Q (T.setTop (mkF m n ls (.int (-u) :: st)))) : Run Z EL p e below s n0 fc fs Q (T.setTop (mkF m pc ls (.int u :: st))) := by
  subst hn; exact K.st fun _ k => XS.ineg X.hr X.x rfl (X.dc hd) rfl k
theorem i2l (X : Sd kn Z a0 EL y bytes maxL ret p l e R s m args below meth c n0 sf h kc ks T) {pc n : Nat} {ls : Array Slot} {st : List Value} {u : Int32} (hd : decode bytes pc = .ok (.i2l, 1)) (hn : pc + 1 = n) (K : Run Z EL p e below s n0 fc fs Q (T.setTop (mkF m n ls (.long u.toInt64 :: st)))) : Run Z EL p e below s n0 fc fs Q (T.setTop (mkF m pc ls (.int u :: st))) := by
  subst hn; exact K.st fun _ k => XS.i2l X.hr X.x rfl (X.dc hd) rfl k
theorem l2i (X : Sd kn Z a0 EL y bytes maxL ret p l e R s m args below meth c n0 sf h kc ks T) {pc n : Nat} {ls : Array Slot} {st : List Value} {u : Int64} (hd : decode bytes pc = .ok (.l2i, 1)) (hn : pc + 1 = n) (K : Run Z EL p e below s n0 fc fs Q (T.setTop (mkF m n ls (.int u.toInt32 :: st)))) : Run Z EL p e below s n0 fc fs Q (T.setTop (mkF m pc ls (.long u :: st))) := by
  subst hn; exact K.st fun _ k => XS.l2i X.hr X.x rfl (X.dc hd) rfl k
theorem i2b (X : Sd kn Z a0 EL y bytes maxL ret p l e R s m args below meth c n0 sf h kc ks T) {pc n : Nat} {ls : Array Slot} {st : List Value} {u : Int32} (hd : decode bytes pc = .ok (.i2b, 1)) (hn : pc + 1 = n) (K : Run Z EL p e below s n0 fc fs Q (T.setTop (mkF m n ls (.int u.toInt8.toInt32 :: st)))) : Run Z EL p e below s n0 fc fs Q (T.setTop (mkF m pc ls (.int u :: st))) := by
  subst hn; exact K.st fun _ k => XS.i2b X.hr X.x rfl (X.dc hd) rfl k
theorem i2s (X : Sd kn Z a0 EL y bytes maxL ret p l e R s m args below meth c n0 sf h kc ks T) {pc n : Nat} {ls : Array Slot} {st : List Value} {u : Int32} (hd : decode bytes pc = .ok (.i2s, 1)) (hn : pc + 1 = n) (K : Run Z EL p e below s n0 fc fs Q (T.setTop (mkF m n ls (.int u.toInt16.toInt32 :: st)))) : Run Z EL p e below s n0 fc fs Q (T.setTop (mkF m pc ls (.int u :: st))) := by
  subst hn; exact K.st fun _ k => XS.i2s X.hr X.x rfl (X.dc hd) rfl k
theorem i2c (X : Sd kn Z a0 EL y bytes maxL ret p l e R s m args below meth c n0 sf h kc ks T) {pc n : Nat} {ls : Array Slot} {st : List Value} {u : Int32} (hd : decode bytes pc = .ok (.i2c, 1)) (hn : pc + 1 = n) (K : Run Z EL p e below s n0 fc fs Q (T.setTop (mkF m n ls (.int u.toUInt32.toUInt16.toUInt32.toInt32 :: st)))) : Run Z EL p e below s n0 fc fs Q (T.setTop (mkF m pc ls (.int u :: st))) := by
  subst hn; exact K.st fun _ k => XS.i2c X.hr X.x rfl (X.dc hd) rfl k
theorem lcmp (X : Sd kn Z a0 EL y bytes maxL ret p l e R s m args below meth c n0 sf h kc ks T) {pc n : Nat} {ls : Array Slot} {st : List Value} {u v : Int64} (hd : decode bytes pc = .ok (.lcmp, 1)) (hn : pc + 1 = n) (K : Run Z EL p e below s n0 fc fs Q (T.setTop (mkF m n ls (.int (lcmpW u v) :: st)))) : Run Z EL p e below s n0 fc fs Q (T.setTop (mkF m pc ls (.long v :: .long u :: st))) := by
  subst hn; exact K.st fun _ k => XS.lcmp X.hr X.x rfl (X.dc hd) rfl k
theorem irem (X : Sd kn Z a0 EL y bytes maxL ret p l e R s m args below meth c n0 sf h kc ks T) {pc n : Nat} {ls : Array Slot} {st : List Value} {u v : Int32} (hd : decode bytes pc = .ok (.irem, 1)) (hv : v ≠ 0) (hn : pc + 1 = n) (K : Run Z EL p e below s n0 fc fs Q (T.setTop (mkF m n ls (.int (u % v) :: st)))) : Run Z EL p e below s n0 fc fs Q (T.setTop (mkF m pc ls (.int v :: .int u :: st))) := by
  subst hn; obtain ⟨s', L, i, j, Y, -⟩ := X.op; exact K.st fun _ k => iremM Y X.x rfl (X.dc hd) rfl hv k
theorem idiv (X : Sd kn Z a0 EL y bytes maxL ret p l e R s m args below meth c n0 sf h kc ks T) {pc n : Nat} {ls : Array Slot} {st : List Value} {u v : Int32} (hd : decode bytes pc = .ok (.idiv, 1)) (hv : v ≠ 0) (hn : pc + 1 = n) (K : Run Z EL p e below s n0 fc fs Q (T.setTop (mkF m n ls (.int (u / v) :: st)))) : Run Z EL p e below s n0 fc fs Q (T.setTop (mkF m pc ls (.int v :: .int u :: st))) := by
  subst hn; exact K.st fun _ k => XS.idiv X.hr X.x rfl (X.dc hd) rfl hv k
theorem dup (X : Sd kn Z a0 EL y bytes maxL ret p l e R s m args below meth c n0 sf h kc ks T) {pc n : Nat} {ls : Array Slot} {st : List Value} {v : Value} (hd : decode bytes pc = .ok (.dup, 1)) (hc : v.category = 1) (hn : pc + 1 = n) (K : Run Z EL p e below s n0 fc fs Q (T.setTop (mkF m n ls (v :: v :: st)))) : Run Z EL p e below s n0 fc fs Q (T.setTop (mkF m pc ls (v :: st))) := by
  subst hn; exact K.st fun _ k => XS.dup X.hr X.x rfl (X.dc hd) rfl hc k
theorem pop (X : Sd kn Z a0 EL y bytes maxL ret p l e R s m args below meth c n0 sf h kc ks T) {pc n : Nat} {ls : Array Slot} {st : List Value} {v : Value} (hd : decode bytes pc = .ok (.pop, 1)) (hc : v.category = 1) (hn : pc + 1 = n) (K : Run Z EL p e below s n0 fc fs Q (T.setTop (mkF m n ls st))) : Run Z EL p e below s n0 fc fs Q (T.setTop (mkF m pc ls (v :: st))) := by
  subst hn; exact K.st fun _ k => XS.pop X.hr X.x rfl (X.dc hd) rfl hc k
theorem dupX1 (X : Sd kn Z a0 EL y bytes maxL ret p l e R s m args below meth c n0 sf h kc ks T) {pc n : Nat} {ls : Array Slot} {st : List Value} {u v : Value} (hd : decode bytes pc = .ok (.dup_x1, 1)) (hc : u.category = 1) (hc' : v.category = 1) (hn : pc + 1 = n) (K : Run Z EL p e below s n0 fc fs Q (T.setTop (mkF m n ls (u :: v :: u :: st)))) : Run Z EL p e below s n0 fc fs Q (T.setTop (mkF m pc ls (u :: v :: st))) := by
  subst hn; exact K.st fun _ k => XS.dupX1 X.hr X.x rfl (X.dc hd) rfl hc hc' k
theorem iinc (X : Sd kn Z a0 EL y bytes maxL ret p l e R s m args below meth c n0 sf h kc ks T) {pc n j : Nat} {ls l' : Array Slot} {st : List Value} {i : Int} {z v u : Int32} (hd : decode bytes pc = .ok (.iinc j i, 3)) (hz : Int32.ofInt i = z) (hl : ls[j]? = some (.val (.int v))) (hu : v + z = u) (hl' : storeLocals ls j (.int u) = some l') (hn : pc + 3 = n) (K : Run Z EL p e below s n0 fc fs Q (T.setTop (mkF m n l' st))) : Run Z EL p e below s n0 fc fs Q (T.setTop (mkF m pc ls st)) := by
  subst hn hz hu; exact K.st fun _ k => XS.iinc X.hr X.x rfl (X.dc hd) hl hl' k
theorem ldc (X : Sd kn Z a0 EL y bytes maxL ret p l e R s m args below meth c n0 sf h kc ks T) {pc n index : Nat} {ls : Array Slot} {st : List Value} {v : Int32} (hd : decode bytes pc = .ok (.ldc index, 2)) (w : (Cond.constant y.cls index v).before a0 Z = true) (hn : pc + 2 = n) (K : Run Z EL p e below s n0 fc fs Q (T.setTop (mkF m n ls (.int v :: st)))) : Run Z EL p e below s n0 fc fs Q (T.setTop (mkF m pc ls st)) := by
  subst hn; obtain ⟨s', L, i, j, Y, r1, hZ, hown, -⟩ := X.op; exact K.st fun _ k => Y.ldcInt X.x hown (mvT hZ w) (g := mkF m pc ls st) rfl (X.dc hd) _ k
theorem ldc2 (X : Sd kn Z a0 EL y bytes maxL ret p l e R s m args below meth c n0 sf h kc ks T) {pc n index : Nat} {ls : Array Slot} {st : List Value} {v : Int64} (hd : decode bytes pc = .ok (.ldc2_w index, 3)) (w : (Cond.constantLong y.cls index v).before a0 Z = true) (hn : pc + 3 = n) (K : Run Z EL p e below s n0 fc fs Q (T.setTop (mkF m n ls (.long v :: st)))) : Run Z EL p e below s n0 fc fs Q (T.setTop (mkF m pc ls st)) := by
  subst hn; obtain ⟨s', L, i, j, Y, r1, hZ, hown, -⟩ := X.op; exact K.st fun _ k => Y.ldc2Long X.x hown (mvT hZ w) (g := mkF m pc ls st) rfl (X.dc hd) _ k
theorem goto (X : Sd kn Z a0 EL y bytes maxL ret p l e R s m args below meth c n0 sf h kc ks T) {pc n : Nat} {ls : Array Slot} {st : List Value} {o : Int} (hd : decode bytes pc = .ok (.goto o, 3)) (ho : 0 ≤ (pc : Int) + o) (hn : ((pc : Int) + o).toNat = n) (K : Run Z EL p e below s n0 fc fs Q (T.setTop (mkF m n ls st))) : Run Z EL p e below s n0 fc fs Q (T.setTop (mkF m pc ls st)) := K.st fun _ k => XS.goto X.hr X.x rfl rfl (X.dc hd) ho hn k
theorem ifc (X : Sd kn Z a0 EL y bytes maxL ret p l e R s m args below meth c n0 sf h kc ks T) {pc n1 n2 : Nat} {ls : Array Slot} {st : List Value} {cd : ClassFile.Cond} {x : Int32} {o : Int} (hd : decode bytes pc = .ok (.ifCond cd o, 3)) (ho : 0 ≤ (pc : Int) + o) (h1 : ((pc : Int) + o).toNat = n1) (h2 : pc + 3 = n2) (K1 : ifCond.holds cd x = true → Run Z EL p e below s n0 fc fs Q (T.setTop (mkF m n1 ls st))) (K2 : ifCond.holds cd x = false → Run Z EL p e below s n0 fc fs Q (T.setTop (mkF m n2 ls st))) : Run Z EL p e below s n0 fc fs Q (T.setTop (mkF m pc ls (.int x :: st))) := by
  cases hq : ifCond.holds cd x with
  | true => exact (K1 hq).st fun _ k => XS.ifYes X.hr X.x rfl rfl (X.dc hd) rfl hq ho h1 k
  | false => subst h2; exact (K2 hq).st fun _ k => XS.ifNo X.hr X.x rfl (X.dc hd) rfl hq k
theorem icc (X : Sd kn Z a0 EL y bytes maxL ret p l e R s m args below meth c n0 sf h kc ks T) {pc n1 n2 : Nat} {ls : Array Slot} {st : List Value} {cd : ClassFile.Cond} {x v : Int32} {o : Int} (hd : decode bytes pc = .ok (.if_icmp cd o, 3)) (ho : 0 ≤ (pc : Int) + o) (h1 : ((pc : Int) + o).toNat = n1) (h2 : pc + 3 = n2) (K1 : if_icmp.holds cd x v = true → Run Z EL p e below s n0 fc fs Q (T.setTop (mkF m n1 ls st))) (K2 : if_icmp.holds cd x v = false → Run Z EL p e below s n0 fc fs Q (T.setTop (mkF m n2 ls st))) : Run Z EL p e below s n0 fc fs Q (T.setTop (mkF m pc ls (.int v :: .int x :: st))) := by
  cases hq : if_icmp.holds cd x v with
  | true => exact (K1 hq).st fun _ k => XS.icmpYes X.hr X.x rfl rfl (X.dc hd) rfl hq ho h1 k
  | false => subst h2; exact (K2 hq).st fun _ k => XS.icmpNo X.hr X.x rfl (X.dc hd) rfl hq k
theorem ic_eq (X : Sd kn Z a0 EL y bytes maxL ret p l e R s m args below meth c n0 sf h kc ks T) {pc n1 n2 : Nat} {ls : Array Slot} {st : List Value} {x v : Int32} {o : Int} (hd : decode bytes pc = .ok (.if_icmp .eq o, 3)) (ho : 0 ≤ (pc : Int) + o) (h1 : ((pc : Int) + o).toNat = n1) (h2 : pc + 3 = n2) (K1 : x = v → Run Z EL p e below s n0 fc fs Q (T.setTop (mkF m n1 ls st))) (K2 : ¬ x = v → Run Z EL p e below s n0 fc fs Q (T.setTop (mkF m n2 ls st))) : Run Z EL p e below s n0 fc fs Q (T.setTop (mkF m pc ls (.int v :: .int x :: st))) := by
  exact icc X hd ho h1 h2 (fun hq => K1 (Classical.byContradiction fun w => by rw [(feq w).1] at hq; cases hq)) (fun hq => K2 (fun w => by rw [(teq w).1] at hq; cases hq))
theorem if_eq (X : Sd kn Z a0 EL y bytes maxL ret p l e R s m args below meth c n0 sf h kc ks T) {pc n1 n2 : Nat} {ls : Array Slot} {st : List Value} {x : Int32} {o : Int} (hd : decode bytes pc = .ok (.ifCond .eq o, 3)) (ho : 0 ≤ (pc : Int) + o) (h1 : ((pc : Int) + o).toNat = n1) (h2 : pc + 3 = n2) (K1 : x = 0 → Run Z EL p e below s n0 fc fs Q (T.setTop (mkF m n1 ls st))) (K2 : ¬ x = 0 → Run Z EL p e below s n0 fc fs Q (T.setTop (mkF m n2 ls st))) : Run Z EL p e below s n0 fc fs Q (T.setTop (mkF m pc ls (.int x :: st))) := by
  exact ifc X hd ho h1 h2 (fun hq => by rw [if0] at hq; exact K1 (Classical.byContradiction fun w => by rw [(feq w).1] at hq; cases hq)) (fun hq => by rw [if0] at hq; exact K2 (fun w => by rw [(teq w).1] at hq; cases hq))
theorem ic_ne (X : Sd kn Z a0 EL y bytes maxL ret p l e R s m args below meth c n0 sf h kc ks T) {pc n1 n2 : Nat} {ls : Array Slot} {st : List Value} {x v : Int32} {o : Int} (hd : decode bytes pc = .ok (.if_icmp .ne o, 3)) (ho : 0 ≤ (pc : Int) + o) (h1 : ((pc : Int) + o).toNat = n1) (h2 : pc + 3 = n2) (K1 : ¬ x = v → Run Z EL p e below s n0 fc fs Q (T.setTop (mkF m n1 ls st))) (K2 : x = v → Run Z EL p e below s n0 fc fs Q (T.setTop (mkF m n2 ls st))) : Run Z EL p e below s n0 fc fs Q (T.setTop (mkF m pc ls (.int v :: .int x :: st))) := by
  exact icc X hd ho h1 h2 (fun hq => K1 (fun w => by rw [(teq w).2] at hq; cases hq)) (fun hq => K2 (Classical.byContradiction fun w => by rw [(feq w).2] at hq; cases hq))
theorem if_ne (X : Sd kn Z a0 EL y bytes maxL ret p l e R s m args below meth c n0 sf h kc ks T) {pc n1 n2 : Nat} {ls : Array Slot} {st : List Value} {x : Int32} {o : Int} (hd : decode bytes pc = .ok (.ifCond .ne o, 3)) (ho : 0 ≤ (pc : Int) + o) (h1 : ((pc : Int) + o).toNat = n1) (h2 : pc + 3 = n2) (K1 : ¬ x = 0 → Run Z EL p e below s n0 fc fs Q (T.setTop (mkF m n1 ls st))) (K2 : x = 0 → Run Z EL p e below s n0 fc fs Q (T.setTop (mkF m n2 ls st))) : Run Z EL p e below s n0 fc fs Q (T.setTop (mkF m pc ls (.int x :: st))) := by
  exact ifc X hd ho h1 h2 (fun hq => by rw [if0] at hq; exact K1 (fun w => by rw [(teq w).2] at hq; cases hq)) (fun hq => by rw [if0] at hq; exact K2 (Classical.byContradiction fun w => by rw [(feq w).2] at hq; cases hq))
theorem ic_lt (X : Sd kn Z a0 EL y bytes maxL ret p l e R s m args below meth c n0 sf h kc ks T) {pc n1 n2 : Nat} {ls : Array Slot} {st : List Value} {x v : Int32} {o : Int} (hd : decode bytes pc = .ok (.if_icmp .lt o, 3)) (ho : 0 ≤ (pc : Int) + o) (h1 : ((pc : Int) + o).toNat = n1) (h2 : pc + 3 = n2) (K1 : x < v → Run Z EL p e below s n0 fc fs Q (T.setTop (mkF m n1 ls st))) (K2 : ¬ x < v → Run Z EL p e below s n0 fc fs Q (T.setTop (mkF m n2 ls st))) : Run Z EL p e below s n0 fc fs Q (T.setTop (mkF m pc ls (.int v :: .int x :: st))) := by
  exact icc X hd ho h1 h2 (fun hq => K1 (Classical.byContradiction fun w => by rw [(flt w).1] at hq; cases hq)) (fun hq => K2 (fun w => by rw [(tlt w).1] at hq; cases hq))
theorem if_lt (X : Sd kn Z a0 EL y bytes maxL ret p l e R s m args below meth c n0 sf h kc ks T) {pc n1 n2 : Nat} {ls : Array Slot} {st : List Value} {x : Int32} {o : Int} (hd : decode bytes pc = .ok (.ifCond .lt o, 3)) (ho : 0 ≤ (pc : Int) + o) (h1 : ((pc : Int) + o).toNat = n1) (h2 : pc + 3 = n2) (K1 : x < 0 → Run Z EL p e below s n0 fc fs Q (T.setTop (mkF m n1 ls st))) (K2 : ¬ x < 0 → Run Z EL p e below s n0 fc fs Q (T.setTop (mkF m n2 ls st))) : Run Z EL p e below s n0 fc fs Q (T.setTop (mkF m pc ls (.int x :: st))) := by
  exact ifc X hd ho h1 h2 (fun hq => by rw [if0] at hq; exact K1 (Classical.byContradiction fun w => by rw [(flt w).1] at hq; cases hq)) (fun hq => by rw [if0] at hq; exact K2 (fun w => by rw [(tlt w).1] at hq; cases hq))
theorem ic_ge (X : Sd kn Z a0 EL y bytes maxL ret p l e R s m args below meth c n0 sf h kc ks T) {pc n1 n2 : Nat} {ls : Array Slot} {st : List Value} {x v : Int32} {o : Int} (hd : decode bytes pc = .ok (.if_icmp .ge o, 3)) (ho : 0 ≤ (pc : Int) + o) (h1 : ((pc : Int) + o).toNat = n1) (h2 : pc + 3 = n2) (K1 : ¬ x < v → Run Z EL p e below s n0 fc fs Q (T.setTop (mkF m n1 ls st))) (K2 : x < v → Run Z EL p e below s n0 fc fs Q (T.setTop (mkF m n2 ls st))) : Run Z EL p e below s n0 fc fs Q (T.setTop (mkF m pc ls (.int v :: .int x :: st))) := by
  exact icc X hd ho h1 h2 (fun hq => K1 (fun w => by rw [(tlt w).2.1] at hq; cases hq)) (fun hq => K2 (Classical.byContradiction fun w => by rw [(flt w).2.1] at hq; cases hq))
theorem if_ge (X : Sd kn Z a0 EL y bytes maxL ret p l e R s m args below meth c n0 sf h kc ks T) {pc n1 n2 : Nat} {ls : Array Slot} {st : List Value} {x : Int32} {o : Int} (hd : decode bytes pc = .ok (.ifCond .ge o, 3)) (ho : 0 ≤ (pc : Int) + o) (h1 : ((pc : Int) + o).toNat = n1) (h2 : pc + 3 = n2) (K1 : ¬ x < 0 → Run Z EL p e below s n0 fc fs Q (T.setTop (mkF m n1 ls st))) (K2 : x < 0 → Run Z EL p e below s n0 fc fs Q (T.setTop (mkF m n2 ls st))) : Run Z EL p e below s n0 fc fs Q (T.setTop (mkF m pc ls (.int x :: st))) := by
  exact ifc X hd ho h1 h2 (fun hq => by rw [if0] at hq; exact K1 (fun w => by rw [(tlt w).2.1] at hq; cases hq)) (fun hq => by rw [if0] at hq; exact K2 (Classical.byContradiction fun w => by rw [(flt w).2.1] at hq; cases hq))
theorem ic_gt (X : Sd kn Z a0 EL y bytes maxL ret p l e R s m args below meth c n0 sf h kc ks T) {pc n1 n2 : Nat} {ls : Array Slot} {st : List Value} {x v : Int32} {o : Int} (hd : decode bytes pc = .ok (.if_icmp .gt o, 3)) (ho : 0 ≤ (pc : Int) + o) (h1 : ((pc : Int) + o).toNat = n1) (h2 : pc + 3 = n2) (K1 : v < x → Run Z EL p e below s n0 fc fs Q (T.setTop (mkF m n1 ls st))) (K2 : ¬ v < x → Run Z EL p e below s n0 fc fs Q (T.setTop (mkF m n2 ls st))) : Run Z EL p e below s n0 fc fs Q (T.setTop (mkF m pc ls (.int v :: .int x :: st))) := by
  exact icc X hd ho h1 h2 (fun hq => K1 (Classical.byContradiction fun w => by rw [(flt w).2.2.1] at hq; cases hq)) (fun hq => K2 (fun w => by rw [(tlt w).2.2.1] at hq; cases hq))
theorem if_gt (X : Sd kn Z a0 EL y bytes maxL ret p l e R s m args below meth c n0 sf h kc ks T) {pc n1 n2 : Nat} {ls : Array Slot} {st : List Value} {x : Int32} {o : Int} (hd : decode bytes pc = .ok (.ifCond .gt o, 3)) (ho : 0 ≤ (pc : Int) + o) (h1 : ((pc : Int) + o).toNat = n1) (h2 : pc + 3 = n2) (K1 : 0 < x → Run Z EL p e below s n0 fc fs Q (T.setTop (mkF m n1 ls st))) (K2 : ¬ 0 < x → Run Z EL p e below s n0 fc fs Q (T.setTop (mkF m n2 ls st))) : Run Z EL p e below s n0 fc fs Q (T.setTop (mkF m pc ls (.int x :: st))) := by
  exact ifc X hd ho h1 h2 (fun hq => by rw [if0] at hq; exact K1 (Classical.byContradiction fun w => by rw [(flt w).2.2.1] at hq; cases hq)) (fun hq => by rw [if0] at hq; exact K2 (fun w => by rw [(tlt w).2.2.1] at hq; cases hq))
theorem ic_le (X : Sd kn Z a0 EL y bytes maxL ret p l e R s m args below meth c n0 sf h kc ks T) {pc n1 n2 : Nat} {ls : Array Slot} {st : List Value} {x v : Int32} {o : Int} (hd : decode bytes pc = .ok (.if_icmp .le o, 3)) (ho : 0 ≤ (pc : Int) + o) (h1 : ((pc : Int) + o).toNat = n1) (h2 : pc + 3 = n2) (K1 : ¬ v < x → Run Z EL p e below s n0 fc fs Q (T.setTop (mkF m n1 ls st))) (K2 : v < x → Run Z EL p e below s n0 fc fs Q (T.setTop (mkF m n2 ls st))) : Run Z EL p e below s n0 fc fs Q (T.setTop (mkF m pc ls (.int v :: .int x :: st))) := by
  exact icc X hd ho h1 h2 (fun hq => K1 (fun w => by rw [(tlt w).2.2.2] at hq; cases hq)) (fun hq => K2 (Classical.byContradiction fun w => by rw [(flt w).2.2.2] at hq; cases hq))
theorem if_le (X : Sd kn Z a0 EL y bytes maxL ret p l e R s m args below meth c n0 sf h kc ks T) {pc n1 n2 : Nat} {ls : Array Slot} {st : List Value} {x : Int32} {o : Int} (hd : decode bytes pc = .ok (.ifCond .le o, 3)) (ho : 0 ≤ (pc : Int) + o) (h1 : ((pc : Int) + o).toNat = n1) (h2 : pc + 3 = n2) (K1 : ¬ 0 < x → Run Z EL p e below s n0 fc fs Q (T.setTop (mkF m n1 ls st))) (K2 : 0 < x → Run Z EL p e below s n0 fc fs Q (T.setTop (mkF m n2 ls st))) : Run Z EL p e below s n0 fc fs Q (T.setTop (mkF m pc ls (.int x :: st))) := by
  exact ifc X hd ho h1 h2 (fun hq => by rw [if0] at hq; exact K1 (fun w => by rw [(tlt w).2.2.2] at hq; cases hq)) (fun hq => by rw [if0] at hq; exact K2 (Classical.byContradiction fun w => by rw [(flt w).2.2.2] at hq; cases hq))
theorem ifnull_y (X : Sd kn Z a0 EL y bytes maxL ret p l e R s m args below meth c n0 sf h kc ks T) {pc n1 : Nat} {ls : Array Slot} {st : List Value} {o : Int} (hd : decode bytes pc = .ok (.ifnull o, 3)) (ho : 0 ≤ (pc : Int) + o) (h1 : ((pc : Int) + o).toNat = n1) (K : Run Z EL p e below s n0 fc fs Q (T.setTop (mkF m n1 ls st))) : Run Z EL p e below s n0 fc fs Q (T.setTop (mkF m pc ls (.null :: st))) := K.st fun _ k => XS.ifnullYes X.hr X.x rfl rfl (X.dc hd) rfl ho h1 k
theorem ifnull_n (X : Sd kn Z a0 EL y bytes maxL ret p l e R s m args below meth c n0 sf h kc ks T) {pc n2 : Nat} {ls : Array Slot} {st : List Value} {o : Int} {a : Addr} (hd : decode bytes pc = .ok (.ifnull o, 3)) (h2 : pc + 3 = n2) (K : Run Z EL p e below s n0 fc fs Q (T.setTop (mkF m n2 ls st))) : Run Z EL p e below s n0 fc fs Q (T.setTop (mkF m pc ls (.ref a :: st))) := by
  subst h2; exact K.st fun _ k => XS.ifnullNo X.hr X.x rfl (X.dc hd) rfl k
theorem ifnonnull_y (X : Sd kn Z a0 EL y bytes maxL ret p l e R s m args below meth c n0 sf h kc ks T) {pc n1 : Nat} {ls : Array Slot} {st : List Value} {o : Int} {a : Addr} (hd : decode bytes pc = .ok (.ifnonnull o, 3)) (ho : 0 ≤ (pc : Int) + o) (h1 : ((pc : Int) + o).toNat = n1) (K : Run Z EL p e below s n0 fc fs Q (T.setTop (mkF m n1 ls st))) : Run Z EL p e below s n0 fc fs Q (T.setTop (mkF m pc ls (.ref a :: st))) := K.st fun _ k => XS.ifnonnullYes X.hr X.x rfl rfl (X.dc hd) rfl ho h1 k
theorem ifnonnull_n (X : Sd kn Z a0 EL y bytes maxL ret p l e R s m args below meth c n0 sf h kc ks T) {pc n2 : Nat} {ls : Array Slot} {st : List Value} {o : Int} (hd : decode bytes pc = .ok (.ifnonnull o, 3)) (h2 : pc + 3 = n2) (K : Run Z EL p e below s n0 fc fs Q (T.setTop (mkF m n2 ls st))) : Run Z EL p e below s n0 fc fs Q (T.setTop (mkF m pc ls (.null :: st))) := by
  subst h2; exact K.st fun _ k => XS.ifnonnullNo X.hr X.x rfl (X.dc hd) rfl k
theorem ac_eq (X : Sd kn Z a0 EL y bytes maxL ret p l e R s m args below meth c n0 sf h kc ks T) {pc n1 n2 : Nat} {ls : Array Slot} {st : List Value} {x v : Value} {o : Int} (hd : decode bytes pc = .ok (.if_acmp .eq o, 3)) (hx : x.isRef = true) (hv : v.isRef = true) (ho : 0 ≤ (pc : Int) + o) (h1 : ((pc : Int) + o).toNat = n1) (h2 : pc + 3 = n2) (K1 : x = v → Run Z EL p e below s n0 fc fs Q (T.setTop (mkF m n1 ls st))) (K2 : ¬ x = v → Run Z EL p e below s n0 fc fs Q (T.setTop (mkF m n2 ls st))) : Run Z EL p e below s n0 fc fs Q (T.setTop (mkF m pc ls (v :: x :: st))) := by
  obtain ⟨s', L, i, j, Y, -⟩ := X.op
  by_cases hq : x = v
  · exact (K1 hq).st fun _ k => acmp Y X.x rfl hx hv rfl (X.dc hd) rfl (decide_eq_true hq) ho (by simp [acV, ← h1, ← h2]) k
  · exact (K2 hq).st fun _ k => acmp Y X.x rfl hx hv rfl (X.dc hd) rfl (decide_eq_false hq) ho (by simp [acV, ← h1, ← h2]) k
theorem ac_ne (X : Sd kn Z a0 EL y bytes maxL ret p l e R s m args below meth c n0 sf h kc ks T) {pc n1 n2 : Nat} {ls : Array Slot} {st : List Value} {x v : Value} {o : Int} (hd : decode bytes pc = .ok (.if_acmp .ne o, 3)) (hx : x.isRef = true) (hv : v.isRef = true) (ho : 0 ≤ (pc : Int) + o) (h1 : ((pc : Int) + o).toNat = n1) (h2 : pc + 3 = n2) (K1 : ¬ x = v → Run Z EL p e below s n0 fc fs Q (T.setTop (mkF m n1 ls st))) (K2 : x = v → Run Z EL p e below s n0 fc fs Q (T.setTop (mkF m n2 ls st))) : Run Z EL p e below s n0 fc fs Q (T.setTop (mkF m pc ls (v :: x :: st))) := by
  obtain ⟨s', L, i, j, Y, -⟩ := X.op
  by_cases hq : x = v
  · exact (K2 hq).st fun _ k => acmp Y X.x rfl hx hv rfl (X.dc hd) rfl (decide_eq_true hq) ho (by simp [acV, ← h1, ← h2]) k
  · exact (K1 hq).st fun _ k => acmp Y X.x rfl hx hv rfl (X.dc hd) rfl (decide_eq_false hq) ho (by simp [acV, ← h1, ← h2]) k
theorem getstatic (X : Sd kn Z a0 EL y bytes maxL ret p l e R s m args below meth c n0 sf h kc ks T) {pc n index : Nat} {ls : Array Slot} {st : List Value} {R0 O : String} (hd : decode bytes pc = .ok (.getstatic index, 3)) (w : (Cond.fieldLink y.cls index R0 f d).before a0 Z = true) (via : Via Z R0 O f d) (F : Sta Z h O f d v) (hn : pc + 3 = n) (K : ∀ T', Sd kn Z a0 EL y bytes maxL ret p l e R s m args below meth c n0 sf h kc ks T' → Run Z EL p e below s n0 fc fs Q (T'.setTop (mkF m n ls (v :: st)))) : Run Z EL p e below s n0 fc fs Q (T.setTop (mkF m pc ls st)) := by
  subst hn; obtain ⟨s', L', i', j', Y, r1, hZ, hown, hml, hnm, r3, r4, hx, kN, kE, kW⟩ := X.op
  obtain ⟨T', Y', e', stp⟩ := getS (host := "") Y hx hZ hown w via r1 F (g := mkF m pc ls st) rfl (X.dc hd)
  exact (K T' (kN T' Y' e')).st stp
theorem getfield (X : Sd kn Z a0 EL y bytes maxL ret p l e R s m args below meth c n0 sf h kc ks T) {pc n index : Nat} {ls : Array Slot} {st : List Value} {R0 O : String} (hd : decode bytes pc = .ok (.getfield index, 3)) (w : (Cond.fieldLink y.cls index R0 f d).before a0 Z = true) (via : Via Z R0 O f d) (F : Fld Z h a O f d v) (hn : pc + 3 = n) (K : ∀ T', Sd kn Z a0 EL y bytes maxL ret p l e R s m args below meth c n0 sf h kc ks T' → Run Z EL p e below s n0 fc fs Q (T'.setTop (mkF m n ls (v :: st)))) : Run Z EL p e below s n0 fc fs Q (T.setTop (mkF m pc ls (.ref a :: st))) := by
  subst hn; obtain ⟨s', L', i', j', Y, r1, hZ, hown, hml, hnm, r3, r4, hx, kN, kE, kW⟩ := X.op
  obtain ⟨T', Y', e', stp⟩ := getF (host := "") Y hx hZ hown (Or.inl w) via r1 F (g := mkF m pc ls (.ref a :: st)) rfl rfl (X.dc hd)
  exact (K T' (kN T' Y' e')).st stp
theorem checkcast (X : Sd kn Z a0 EL y bytes maxL ret p l e R s m args below meth c n0 sf h kc ks T) {pc n index : Nat} {ls : Array Slot} {st : List Value} (hd : decode bytes pc = .ok (.checkcast index, 3)) (w : (Cond.classLink y.cls index C).before a0 Z = true) (F : Ins Z h a C true) (hn : pc + 3 = n) (K : ∀ T', Sd kn Z a0 EL y bytes maxL ret p l e R s m args below meth c n0 sf h kc ks T' → Run Z EL p e below s n0 fc fs Q (T'.setTop (mkF m n ls (.ref a :: st)))) : Run Z EL p e below s n0 fc fs Q (T.setTop (mkF m pc ls (.ref a :: st))) := by
  subst hn; obtain ⟨s', L', i', j', Y, r1, hZ, hown, hml, hnm, r3, r4, hx, kN, kE, kW⟩ := X.op
  obtain ⟨T', Y', e', stp⟩ := castY Y hx hZ hown w r1 F (g := mkF m pc ls (.ref a :: st)) rfl rfl (X.dc hd)
  exact (K T' (kN T' Y' e')).st stp
theorem checkcastNull (X : Sd kn Z a0 EL y bytes maxL ret p l e R s m args below meth c n0 sf h kc ks T) {pc n index : Nat} {ls : Array Slot} {st : List Value} (hd : decode bytes pc = .ok (.checkcast index, 3)) (hn : pc + 3 = n) (K : Run Z EL p e below s n0 fc fs Q (T.setTop (mkF m n ls (.null :: st)))) : Run Z EL p e below s n0 fc fs Q (T.setTop (mkF m pc ls (.null :: st))) := by
  subst hn; obtain ⟨s', L', i', j', Y, r1, hZ, hown, hml, hnm, r3, r4, hx, kN, kE, kW⟩ := X.op
  exact K.st fun _ k => Y.checkcastNull hx (g := mkF m pc ls (.null :: st)) rfl rfl (X.dc hd) _ k
theorem instanceofY (X : Sd kn Z a0 EL y bytes maxL ret p l e R s m args below meth c n0 sf h kc ks T) {pc n index : Nat} {ls : Array Slot} {st : List Value} (hd : decode bytes pc = .ok (.instanceof index, 3)) (w : (Cond.classLink y.cls index C).before a0 Z = true) (F : Ins Z h a C true) (hn : pc + 3 = n) (K : ∀ T', Sd kn Z a0 EL y bytes maxL ret p l e R s m args below meth c n0 sf h kc ks T' → Run Z EL p e below s n0 fc fs Q (T'.setTop (mkF m n ls (.int 1 :: st)))) : Run Z EL p e below s n0 fc fs Q (T.setTop (mkF m pc ls (.ref a :: st))) := by
  subst hn; obtain ⟨s', L', i', j', Y, r1, hZ, hown, hml, hnm, r3, r4, hx, kN, kE, kW⟩ := X.op
  obtain ⟨T', Y', e', stp⟩ := instY Y hx hZ hown w r1 F (g := mkF m pc ls (.ref a :: st)) rfl rfl (X.dc hd)
  exact (K T' (kN T' Y' e')).st stp
theorem instanceofNull (X : Sd kn Z a0 EL y bytes maxL ret p l e R s m args below meth c n0 sf h kc ks T) {pc n index : Nat} {ls : Array Slot} {st : List Value} (hd : decode bytes pc = .ok (.instanceof index, 3)) (hn : pc + 3 = n) (K : Run Z EL p e below s n0 fc fs Q (T.setTop (mkF m n ls (.int 0 :: st)))) : Run Z EL p e below s n0 fc fs Q (T.setTop (mkF m pc ls (.null :: st))) := by
  subst hn; obtain ⟨s', L', i', j', Y, r1, hZ, hown, hml, hnm, r3, r4, hx, kN, kE, kW⟩ := X.op
  exact K.st fun _ k => Y.instanceofNull hx (g := mkF m pc ls (.null :: st)) rfl rfl (X.dc hd) _ k
theorem initObj (X : Sd kn Z a0 EL y bytes maxL ret p l e R s m args below meth c n0 sf h kc ks T) {pc n index W : Nat} {ls : Array Slot} {st : List Value} (hd : decode bytes pc = .ok (.invokespecial index, 3)) (w1 : (Cond.methodLink y.cls index Lib.objectInit).before a0 Z = true) (w2 : (Cond.instanceMethod Lib.objectInit).before a0 Z = true) (w3 : (Cond.code Lib.objectInit ⟨#[0xb1]⟩ 1 none).before a0 Z = true) (hsize : ls.size = maxL) (hf : 1 ≤ R.frames) (hW : (st.map fun v => v.category).sum ≤ W) (hl : W + 12 ≤ R.locals) (hn : pc + 3 = n) (K : ∀ T', Sd kn Z a0 EL y bytes maxL ret p l e R s m args below meth c n0 sf h kc ks T' → Run Z EL p e below s n0 fc fs Q (T'.setTop (mkF m n ls st))) : Run Z EL p e below s n0 fc fs Q (T.setTop (mkF m pc ls (.ref a :: st))) := by
  subst hn; obtain ⟨s', L', i', j', Y, r1, hZ, hown, hml, hnm, r3, r4, hx, kN, kE, kW⟩ := X.op
  obtain ⟨T', Y', e', stp⟩ := initO Y hx hZ hown w1 w2 w3 r1 (g := mkF m pc ls (.ref a :: st)) rfl (by rw [hml]; exact hsize) rfl (X.dc hd) hf (W := W) (by simpa using hW) hl
  exact (K T' (kN T' Y' e')).st stp
def Ark (Z : State) (h : Heap) (a : Addr) (ty : FieldType) (vs : List Value) : Prop := ∃ c : Cell, Arr Z h a c ty ∧ c.slots = vs.toArray ∧ vs.length < 2147483648 ∧ ∀ v ∈ vs, fits ty v = true
theorem Ark.lt (A : Ark Z h a ty vs) : a < h.size := by obtain ⟨c, A, -⟩ := A; exact A.lt
theorem Ark.ext (A : Ark Z h a ty vs) (E : Ext h h') : Ark Z h' a ty vs := by obtain ⟨c, A, r⟩ := A; exact ⟨c, A.ext E, r⟩
theorem Ark.keep (A : Ark Z h a ty vs) (K : Keep h h' wl) (q : a ∉ wl) : Ark Z h' a ty vs := by obtain ⟨c, A, r⟩ := A; exact ⟨c, ⟨K.2.1 a c A.1 q, A.2⟩, r⟩
theorem Ark.len (A : Ark Z h a ty vs) : vs.length < 2147483648 := by obtain ⟨c, A, r1, r2, -⟩ := A; exact r2
theorem Ark.fit (A : Ark Z h a ty vs) : ∀ v ∈ vs, fits ty v = true := by obtain ⟨c, A, r1, r2, r3⟩ := A; exact r3
theorem Ark.ofArv {k : ClassId} {z : Int32} {dv : Value} (A : Arv Z h a k ty z vs dv) (hl : z.toNatClampNeg = vs.length) : Ark Z h a ty vs := by
  obtain ⟨c, A, q1, S, q3, H, G⟩ := A
  have hb : vs.length < 2147483648 := by rw [← hl]; exact (back32 q3).2
  have e1 : c.slots = vs.toArray := by
    apply Array.ext
    · simp [S, hl]
    · intro i h1 h2
      have q := H i h1
      rw [Array.getElem?_eq_getElem h1] at q
      have h3 : i < vs.length := by simpa using h2
      simpa [List.getD, List.getElem?_eq_getElem h3] using Option.some.inj q
  refine ⟨c, A, e1, hb, fun v hv => ?_⟩
  obtain ⟨i, hi, rfl⟩ := List.getElem_of_mem hv
  have q := G i (by rw [S, hl]; exact hi)
  simpa [List.getD, List.getElem?_eq_getElem hi] using q
theorem kExt (E : Ext h h') : Keep h h' [] := (Keep.refl h []).ext E
theorem nin1 (q : a ≠ b) : a ∉ [b] := fun z => q (List.mem_singleton.mp z)
theorem oldLe (O : Old Z n0 h) : n0 ≤ h.size := by rw [← O.1]; exact O.2.1
theorem toNatC {j : Int32} {i : Nat} (hj : j.toInt = i) : j.toNatClampNeg = i ∧ ¬ j < 0 := by
  refine ⟨by simp [Int32.toNatClampNeg, hj], fun q => ?_⟩
  have q2 := Int32.lt_iff_toInt_lt.mp q
  rw [hj] at q2
  have : (0 : Int32).toInt = 0 := rfl
  omega
theorem arkIn {c : Cell} (r1 : c.slots = vs.toArray) {j : Int32} {i : Nat} (hj : j.toInt = i) (hv : vs[i]? = some v) : ¬ (j < 0 ∨ c.slots.size ≤ j.toNatClampNeg) ∧ c.slots[j.toNatClampNeg]? = some v := by
  obtain ⟨g1, g2⟩ := toNatC hj
  obtain ⟨hi, -⟩ := List.getElem?_eq_some_iff.mp hv
  refine ⟨fun q => ?_, by rw [g1, r1]; simpa using hv⟩
  rcases q with q | q
  · exact g2 q
  · rw [g1, r1] at q; simp at q; omega
theorem iaload (X : Sd kn Z a0 EL y bytes maxL ret p l e R s m args below meth c n0 sf h kc ks T) {pc n i : Nat} {ls : Array Slot} {st : List Value} {j : Int32} (hd : decode bytes pc = .ok (.iaload, 1)) (A : Ark Z h a .int vs) (hj : j.toInt = i) (hv : vs[i]? = some v) (hn : pc + 1 = n) (K : Run Z EL p e below s n0 fc fs Q (T.setTop (mkF m n ls (v :: st)))) : Run Z EL p e below s n0 fc fs Q (T.setTop (mkF m pc ls (.int j :: .ref a :: st))) := by
  subst hn; obtain ⟨s', L', i', j', Y, r1, hZ, hown, hml, hnm, r3, r4, hx, kN, kE, kW⟩ := X.op
  obtain ⟨c', A, s1, -⟩ := A
  obtain ⟨g1, g2⟩ := arkIn s1 hj hv
  exact K.st fun _ k => Y.iaload hx (j := j) (v := v) (by rw [r1]; exact A.1) (State.isArrayOf_alike hZ.alike A.2.1) A.2.2 g1 g2 (g := mkF m pc ls (.int j :: .ref a :: st)) rfl rfl (X.dc hd) _ k
theorem caload (X : Sd kn Z a0 EL y bytes maxL ret p l e R s m args below meth c n0 sf h kc ks T) {pc n i : Nat} {ls : Array Slot} {st : List Value} {j : Int32} (hd : decode bytes pc = .ok (.caload, 1)) (A : Ark Z h a .char vs) (hj : j.toInt = i) (hv : vs[i]? = some v) (hn : pc + 1 = n) (K : Run Z EL p e below s n0 fc fs Q (T.setTop (mkF m n ls (v :: st)))) : Run Z EL p e below s n0 fc fs Q (T.setTop (mkF m pc ls (.int j :: .ref a :: st))) := by
  subst hn; obtain ⟨s', L', i', j', Y, r1, hZ, hown, hml, hnm, r3, r4, hx, kN, kE, kW⟩ := X.op
  obtain ⟨c', A, s1, -⟩ := A
  obtain ⟨g1, g2⟩ := arkIn s1 hj hv
  exact K.st fun _ k => Y.caload hx (j := j) (v := v) (by rw [r1]; exact A.1) (State.isArrayOf_alike hZ.alike A.2.1) A.2.2 g1 g2 (g := mkF m pc ls (.int j :: .ref a :: st)) rfl rfl (X.dc hd) _ k
theorem baload (X : Sd kn Z a0 EL y bytes maxL ret p l e R s m args below meth c n0 sf h kc ks T) {pc n i : Nat} {ls : Array Slot} {st : List Value} {j : Int32} (hd : decode bytes pc = .ok (.baload, 1)) (A : Ark Z h a .byte vs) (hj : j.toInt = i) (hv : vs[i]? = some v) (hn : pc + 1 = n) (K : Run Z EL p e below s n0 fc fs Q (T.setTop (mkF m n ls (v :: st)))) : Run Z EL p e below s n0 fc fs Q (T.setTop (mkF m pc ls (.int j :: .ref a :: st))) := by
  subst hn; obtain ⟨s', L', i', j', Y, r1, hZ, hown, hml, hnm, r3, r4, hx, kN, kE, kW⟩ := X.op
  obtain ⟨c', A, s1, -⟩ := A
  obtain ⟨g1, g2⟩ := arkIn s1 hj hv
  exact K.st fun _ k => Y.baloadBytes hx (j := j) (v := v) (by rw [r1]; exact A.1) (State.isArrayOf_alike hZ.alike A.2.1) A.2.2 g1 g2 (g := mkF m pc ls (.int j :: .ref a :: st)) rfl rfl (X.dc hd) _ k
theorem aaload (X : Sd kn Z a0 EL y bytes maxL ret p l e R s m args below meth c n0 sf h kc ks T) {pc n i : Nat} {ls : Array Slot} {st : List Value} {j : Int32} (hd : decode bytes pc = .ok (.aaload, 1)) (A : Ark Z h a ty vs) (ht : ty.isReference = true) (hj : j.toInt = i) (hv : vs[i]? = some v) (hn : pc + 1 = n) (K : Run Z EL p e below s n0 fc fs Q (T.setTop (mkF m n ls (v :: st)))) : Run Z EL p e below s n0 fc fs Q (T.setTop (mkF m pc ls (.int j :: .ref a :: st))) := by
  subst hn; obtain ⟨s', L', i', j', Y, r1, hZ, hown, hml, hnm, r3, r4, hx, kN, kE, kW⟩ := X.op
  obtain ⟨c', A, s1, -⟩ := A
  obtain ⟨g1, g2⟩ := arkIn s1 hj hv
  exact K.st fun _ k => Y.aaload hx (j := j) (v := v) (by rw [r1]; exact A.1) (State.isArrayOf_alike hZ.alike A.2.1) ht A.2.2 g1 g2 (g := mkF m pc ls (.int j :: .ref a :: st)) rfl rfl (X.dc hd) _ k
theorem arraylength (X : Sd kn Z a0 EL y bytes maxL ret p l e R s m args below meth c n0 sf h kc ks T) {pc n : Nat} {ls : Array Slot} {st : List Value} {z : Int32} (hd : decode bytes pc = .ok (.arraylength, 1)) (A : Ark Z h a ty vs) (hz : vs.length.toInt32 = z) (hn : pc + 1 = n) (K : Run Z EL p e below s n0 fc fs Q (T.setTop (mkF m n ls (.int z :: st)))) : Run Z EL p e below s n0 fc fs Q (T.setTop (mkF m pc ls (.ref a :: st))) := by
  subst hn hz; obtain ⟨s', L', i', j', Y, r1, hZ, hown, hml, hnm, r3, r4, hx, kN, kE, kW⟩ := X.op
  obtain ⟨c', A, s1, -⟩ := A
  have e1 : c'.slots.size = vs.length := by rw [s1]; simp
  exact K.st fun _ k => Y.arraylength hx (by rw [r1]; exact A.1) (State.isArrayOf_alike hZ.alike A.2.1) (g := mkF m pc ls (.ref a :: st)) rfl rfl (X.dc hd) _ (by rw [e1]; exact k)
theorem Ark.set {c' : Cell} (A : Arr Z h a c' ty) (s1 : c'.slots = vs.toArray) (s2 : vs.length < 2147483648) (s3 : ∀ v ∈ vs, fits ty v = true) {i : Nat} (hv : fits ty v = true) (W : Wr h h' a i v) : Ark Z h' a ty (vs.set i v) := by
  refine ⟨_, A.same W, by simp [Cell.setSlot, s1], by simpa using s2, fun u hu => ?_⟩
  rcases List.mem_or_eq_of_mem_set hu with q | q
  · exact s3 u q
  · exact q ▸ hv
theorem iastore (X : Sd kn Z a0 EL y bytes maxL ret p l e R s m args below meth c n0 sf h kc ks T) {pc n i : Nat} {ls : Array Slot} {st : List Value} {j x z : Int32} (hd : decode bytes pc = .ok (.iastore, 1)) (A : Ark Z h a .int vs) (hj : j.toInt = i) (hi : i < vs.length) (hz : x = z) (hfr : n0 ≤ a) (hs : a ∈ sf) (hn : pc + 1 = n) (K : ∀ T' h', Sd kn Z a0 EL y bytes maxL ret p l e R s m args below meth c n0 sf h' kc ks T' → Wr h h' a i (.int z) → Ark Z h' a .int (vs.set i (.int z)) → Run Z EL p e below s n0 fc fs Q (T'.setTop (mkF m n ls st))) : Run Z EL p e below s n0 fc fs Q (T.setTop (mkF m pc ls (.int x :: .int j :: .ref a :: st))) := by
  subst hn hz; obtain ⟨s', L', i', j', Y, r1, hZ, hown, hml, hnm, r3, r4, hx, kN, kE, kW⟩ := X.op
  obtain ⟨c', A, s1, s2, s3⟩ := A
  obtain ⟨g1, -⟩ := arkIn s1 hj (List.getElem?_eq_getElem hi)
  obtain ⟨T', h', Y', e', W, stp⟩ := stI Y hx hZ r1 A g1 (g := mkF m pc ls (.int x :: .int j :: .ref a :: st)) rfl rfl (X.dc hd)
  rw [(toNatC hj).1] at W Y'
  exact (K T' h' (kW T' h' a i _ hs hfr Y' e' W) W (Ark.set A s1 s2 s3 rfl W)).st stp
theorem castore (X : Sd kn Z a0 EL y bytes maxL ret p l e R s m args below meth c n0 sf h kc ks T) {pc n i : Nat} {ls : Array Slot} {st : List Value} {j x z : Int32} (hd : decode bytes pc = .ok (.castore, 1)) (A : Ark Z h a .char vs) (hj : j.toInt = i) (hi : i < vs.length) (hz : (nar .char x) = z) (hfr : n0 ≤ a) (hs : a ∈ sf) (hn : pc + 1 = n) (K : ∀ T' h', Sd kn Z a0 EL y bytes maxL ret p l e R s m args below meth c n0 sf h' kc ks T' → Wr h h' a i (.int z) → Ark Z h' a .char (vs.set i (.int z)) → Run Z EL p e below s n0 fc fs Q (T'.setTop (mkF m n ls st))) : Run Z EL p e below s n0 fc fs Q (T.setTop (mkF m pc ls (.int x :: .int j :: .ref a :: st))) := by
  subst hn hz; obtain ⟨s', L', i', j', Y, r1, hZ, hown, hml, hnm, r3, r4, hx, kN, kE, kW⟩ := X.op
  obtain ⟨c', A, s1, s2, s3⟩ := A
  obtain ⟨g1, -⟩ := arkIn s1 hj (List.getElem?_eq_getElem hi)
  obtain ⟨T', h', Y', e', W, stp⟩ := stC Y hx hZ r1 A g1 (g := mkF m pc ls (.int x :: .int j :: .ref a :: st)) rfl rfl (X.dc hd)
  rw [(toNatC hj).1] at W Y'
  exact (K T' h' (kW T' h' a i _ hs hfr Y' e' W) W (Ark.set A s1 s2 s3 (fits_nar_char _) W)).st stp
theorem bastore (X : Sd kn Z a0 EL y bytes maxL ret p l e R s m args below meth c n0 sf h kc ks T) {pc n i : Nat} {ls : Array Slot} {st : List Value} {j x z : Int32} (hd : decode bytes pc = .ok (.bastore, 1)) (A : Ark Z h a .byte vs) (hj : j.toInt = i) (hi : i < vs.length) (hz : (nar .byte x) = z) (hfr : n0 ≤ a) (hs : a ∈ sf) (hn : pc + 1 = n) (K : ∀ T' h', Sd kn Z a0 EL y bytes maxL ret p l e R s m args below meth c n0 sf h' kc ks T' → Wr h h' a i (.int z) → Ark Z h' a .byte (vs.set i (.int z)) → Run Z EL p e below s n0 fc fs Q (T'.setTop (mkF m n ls st))) : Run Z EL p e below s n0 fc fs Q (T.setTop (mkF m pc ls (.int x :: .int j :: .ref a :: st))) := by
  subst hn hz; obtain ⟨s', L', i', j', Y, r1, hZ, hown, hml, hnm, r3, r4, hx, kN, kE, kW⟩ := X.op
  obtain ⟨c', A, s1, s2, s3⟩ := A
  obtain ⟨g1, -⟩ := arkIn s1 hj (List.getElem?_eq_getElem hi)
  obtain ⟨T', h', Y', e', W, stp⟩ := stB Y hx hZ r1 A g1 (g := mkF m pc ls (.int x :: .int j :: .ref a :: st)) rfl rfl (X.dc hd)
  rw [(toNatC hj).1] at W Y'
  exact (K T' h' (kW T' h' a i _ hs hfr Y' e' W) W (Ark.set A s1 s2 s3 (fits_nar_byte _) W)).st stp
theorem newarray (X : Sd kn Z a0 EL y bytes maxL ret p l e R s m args below meth c n0 sf h kc ks T) {pc n len cap : Nat} {ls : Array Slot} {st : List Value} {k : Int32} {aty : ArrayType} (hd : decode bytes pc = .ok (.newarray aty, 2)) (w : (Cond.arrayClass (newarray.typeOf aty)).before a0 Z = true) (hk : k.toInt = len) (hcap : len ≤ cap) (hb : cap * 8 ≤ 536870912) (hc : kc + 1 ≤ R.cells) (hl : ks + cap ≤ R.slots) (hn : pc + 2 = n) (K : ∀ T' h' a, a = h.size → Sd kn Z a0 EL y bytes maxL ret p l e R s m args below meth c n0 (a :: sf) h' (kc + 1) (ks + cap) T' → Ext h h' → Ark Z h' a (newarray.typeOf aty) (List.replicate len (defaultValue (newarray.typeOf aty))) → Run Z EL p e below s n0 fc fs Q (T'.setTop (mkF m n ls (.ref a :: st)))) : Run Z EL p e below s n0 fc fs Q (T.setTop (mkF m pc ls (.int k :: st))) := by
  subst hn; obtain ⟨s', L', i', j', Y, r1, hZ, hown, hml, hnm, r3, r4, hx, kN, kE, kW⟩ := X.op
  obtain ⟨g1, g2⟩ := toNatC hk
  obtain ⟨T', h', cA, Y', e', E, A, stp⟩ := newP Y hx hZ w r1 (g := mkF m pc ls (.int k :: st)) rfl (X.dc hd) rfl g2 (cap := cap) (by omega) hb (by omega) (by omega)
  have hA : Ark Z h' h.size (newarray.typeOf aty) (List.replicate len (defaultValue (newarray.typeOf aty))) := by
    refine ⟨_, A, by simp [newA, g1], by simp; omega, fun v hv => ?_⟩
    rw [List.eq_of_mem_replicate hv]; cases aty <;> rfl
  exact (K T' h' _ rfl (kE T' h' 1 cap Y' e' E hA.lt) E hA).st stp
theorem new (X : Sd kn Z a0 EL y bytes maxL ret p l e R s m args below meth c n0 sf h kc ks T) {pc n index k : Nat} {ls : Array Slot} {st : List Value} (hd : decode bytes pc = .ok (.new index, 3)) (w : (Cond.classLink y.cls index C).before a0 Z = true) (wi : (Cond.instantiable C k).before a0 Z = true) (wz : (Cond.initialized C).before a0 Z = true) (hc : kc + 1 ≤ R.cells) (hl : ks + k ≤ R.slots) (hn : pc + 3 = n) (K : ∀ T' h' a, a = h.size → Sd kn Z a0 EL y bytes maxL ret p l e R s m args below meth c n0 (a :: sf) h' (kc + 1) (ks + k) T' → Ext h h' → Exa Z h' a C → (∀ {O nm d : String} {ty : FieldType}, Laid Z a0 C O nm d → parseFieldDescriptor d = some ty → Fld Z h' a O nm d (defaultValue ty)) → Unt h' a → Run Z EL p e below s n0 fc fs Q (T'.setTop (mkF m n ls (.ref a :: st)))) : Run Z EL p e below s n0 fc fs Q (T.setTop (mkF m pc ls st)) := by
  subst hn; obtain ⟨s', L', i', j', Y, r1, hZ, hown, hml, hnm, r3, r4, hx, kN, kE, kW⟩ := X.op
  obtain ⟨T', h', Y', e', E, A, D, U, stp⟩ := newO Y hx hZ hown w wi wz r1 (g := mkF m pc ls st) rfl (X.dc hd) (by omega) (by omega)
  exact (K T' h' _ rfl (kE T' h' 1 k Y' e' E A.lt) E A D U).st stp
theorem putfield (X : Sd kn Z a0 EL y bytes maxL ret p l e R s m args below meth c n0 sf h kc ks T) {pc n index k : Nat} {ls : Array Slot} {st : List Value} {R0 O : String} {v' old : Value} (hd : decode bytes pc = .ok (.putfield index, 3)) (w : (Cond.fieldLink y.cls index R0 f d).before a0 Z = true) (via : Via Z R0 O f d) (F : Fld Z h a O f d old) (E : Exa Z h a C) (L : (Cond.lays C O f d).before a0 Z = true ∨ ((Cond.laysFinal C O f d).before a0 Z = true ∧ y.cls = O ∧ y.name = "<init>")) (wi : (Cond.instantiable C k).before a0 Z = true) (hty : parseFieldDescriptor d = some ty) (hv : narrow ty v = v') (hf : fits ty v' = true) (hfr : n0 ≤ a) (hs : a ∈ sf) (hn : pc + 3 = n) (K : ∀ T' h', Sd kn Z a0 EL y bytes maxL ret p l e R s m args below meth c n0 sf h' kc ks T' → Wr h h' a (RoadKit.slotOf Z O f d) v' → Fld Z h' a O f d v' → Run Z EL p e below s n0 fc fs Q (T'.setTop (mkF m n ls st))) : Run Z EL p e below s n0 fc fs Q (T.setTop (mkF m pc ls (v :: .ref a :: st))) := by
  subst hn; obtain ⟨s', L', i', j', Y, r1, hZ, hown, hml, hnm, r3, r4, hx, kN, kE, kW⟩ := X.op
  obtain ⟨T', h', Y', e', W, stp⟩ := putFN Y hx hZ hown w via r1 F E (L.imp id fun z => ⟨z.1, z.2.1, hnm.trans z.2.2⟩) wi hty hv hf (g := mkF m pc ls (v :: .ref a :: st)) rfl rfl (X.dc hd)
  exact (K T' h' (kW T' h' a _ _ hs hfr Y' e' W) W (F.same W)).st stp
theorem clone (X : Sd kn Z a0 EL y bytes maxL ret p l e R s m args below meth c n0 sf h kc ks T) {pc n index W cap : Nat} {ls : Array Slot} {st : List Value} {ad : String} (hd : decode bytes pc = .ok (.invokevirtual index, 3)) (w1 : (Cond.methodLink y.cls index ⟨ad, "clone", "()Ljava/lang/Object;"⟩).before a0 Z = true) (w2 : (Cond.sameMethod ad "java/lang/Object" "clone" "()Ljava/lang/Object;").before a0 Z = true) (w3 : (Cond.native ⟨"java/lang/Object", "clone", "()Ljava/lang/Object;"⟩).before a0 Z = true) (w4 : (Cond.instanceMethod ⟨"java/lang/Object", "clone", "()Ljava/lang/Object;"⟩).before a0 Z = true) (w5 : (Cond.selects ad ⟨ad, "clone", "()Ljava/lang/Object;"⟩ ⟨"java/lang/Object", "clone", "()Ljava/lang/Object;"⟩).before a0 Z = true) (w6 : (Cond.castable ad "java/lang/Cloneable").before a0 Z = true) (A : Ark Z h a ty vs) (E : Exa Z h a ad) (hsize : ls.size = maxL) (hf : 1 ≤ R.frames) (hW : (st.map fun v => v.category).sum ≤ W) (hl : W + 14 ≤ R.locals) (hcap : vs.length ≤ cap) (hc : kc + 1 ≤ R.cells) (hsl : ks + cap ≤ R.slots) (hn : pc + 3 = n) (K : ∀ T' h' b, b = h.size → Sd kn Z a0 EL y bytes maxL ret p l e R s m args below meth c n0 (b :: sf) h' (kc + 1) (ks + cap) T' → Ext h h' → Ark Z h' b ty vs → Exa Z h' b ad → Run Z EL p e below s n0 fc fs Q (T'.setTop (mkF m n ls (.ref b :: st)))) : Run Z EL p e below s n0 fc fs Q (T.setTop (mkF m pc ls (.ref a :: st))) := by
  subst hn; obtain ⟨s', L', i', j', Y, r1, hZ, hown, hml, hnm, r3, r4, hx, kN, kE, kW⟩ := X.op
  obtain ⟨c', A, s1, s2, s3⟩ := A
  have e1 : c'.slots.size = vs.length := by rw [s1]; simp
  have FC : FitC Z c' := fitC_of A fun i hi v hv => by
    rw [s1] at hv
    exact s3 v (List.mem_of_getElem? (i := i) (by simpa using hv))
  obtain ⟨T', h', Y', e', ex, A', E', stp⟩ := cloneA Y hx hZ hown w1 w2 w3 w4 w5 w6 r1 A E FC (g := mkF m pc ls (.ref a :: st)) rfl (by rw [hml]; exact hsize) rfl (X.dc hd) hf (W := W) (cap := cap) (by simpa using hW) hl (by rw [e1]; exact hcap) (by omega) (by omega)
  exact (K T' h' _ rfl (kE T' h' 1 cap Y' e' ex A'.lt) ex ⟨_, A', s1, s2, s3⟩ E').st stp
theorem ldcS (X : Sd kn Z a0 EL y bytes maxL ret p l e R s m args below meth c n0 sf h kc ks T) {pc n index nn : Nat} {ls : Array Slot} {st : List Value} {text : String} {bs : List Int32} (hd : decode bytes pc = .ok (.ldc index, 2)) (w : (Cond.stringLink y.cls index text).before a0 Z = true) (wS : ∀ a ∈ Bundle.stringAtoms, a.before a0 Z = true) (hmem : (y.cls, index) ∈ EL) (ht : (∀ c ∈ text.toList, c.toNat < 256) ∧ text.toList.map (fun c => Value.int (Jvm.Lit.byteI c.toNat.toUInt16)) = bs.map Value.int) (hlt : bs.length < 2147483648) (hn4 : 4 * text.toList.length ≤ nn) (hbig : nn ≤ 536870912) (hc : kc + 2 ≤ R.cells) (hl : ks + (nn + 4) ≤ R.slots) (hn : pc + 2 = n) (K : ∀ T' h' a b, Sd kn Z a0 EL y bytes maxL ret p l e R s m args below meth c n0 sf h' (kc + 2) (ks + (nn + 4)) T' → Ext h h' → Exa Z h' a "java/lang/String" → Fld Z h' a "java/lang/String" "coder" "B" (.int 0) → Fld Z h' a "java/lang/String" "value" "[B" (.ref b) → Ark Z h' b .byte (bs.map Value.int) → (∀ x ∈ sf, x ≠ a ∧ x ≠ b) → Run Z EL p e below s n0 fc fs Q (T'.setTop (mkF m n ls (.ref a :: st)))) : Run Z EL p e below s n0 fc fs Q (T.setTop (mkF m pc ls st)) := by
  subst hn
  have hdc := X.dc hd
  obtain ⟨vm0, k0, q, ⟨hS, hk, hE, hC, hs, hkn⟩, L, i, j, Y, r1, r2, r3, r4⟩ := X
  have hz : (bs.length.toInt32).toInt = bs.length := Int32.toInt_ofNat_small hlt
  obtain ⟨a, T', h', k1, b, k, Y', e', E, hS', hk', hZ', hown', g1, g2, g3, g4, g5, g6, hC', hL, hne, stp⟩ := ldcCH Y q.1 q.2.1 q.2.2.2.2.2.2.1 w wS r1 hS hk hE hmem hC.1 ht (z := bs.length.toInt32) (toNatC hz).2 (by rw [(toNatC hz).1]; simp) (g := mkF m pc ls st) rfl hdc hn4 hbig (by omega) (by omega)
  have hal : vm0.Alike T'.vm := by have z := hS.1.alike; have z' := hS'.1.alike; exact z.symm.trans z'
  refine (K T' h' a b ⟨T'.vm, k1, ⟨q.1, hZ', q.2.2.1, q.2.2.2.1, q.2.2.2.2.1, q.2.2.2.2.2.1, hown', q.2.2.2.2.2.2.2⟩, ⟨hS', hk', hE, hC.trans hC', fun x hx => ⟨hC'.safe (hs x hx).2 (hs x hx).1, Nat.lt_of_lt_of_le (hs x hx).2 E.1⟩, fun hh => ?_⟩, _, _, _, Y', e', r2, by omega, by omega⟩ E g1 g2 g3 (Ark.ofArv g4 (by rw [(toNatC hz).1]; simp)) (fun x hx => hne x (hC'.safe (hs x hx).2 (hs x hx).1))).st stp
  exact ⟨Vm.MethodsKnown.alikeC hal (hkn hh).1, FKalike hal (hkn hh).2⟩
theorem lenA {d : String} {ps : List FieldType} {r : Option FieldType} (hd : parseMethodDescriptor d = some ⟨ps, r⟩) {L : List Value} (hl : L.length = ps.length) : ∀ sig, parseMethodDescriptor d = some sig → L.length = sig.parameters.length := lenOf hd hl
theorem ctrBack {z : MethodName} {ybytes : ByteArray} {yL : Nat} {yret : Option FieldType} {rm : Room} {sfc : List Addr} {as : Array Value} {Qc : Option Value → Heap → List Addr → Prop} {len W : Nat} {vm0 : Vm} (hC : Ctr kn l Z EL z ybytes yL yret [] rm n0 sfc as h Qc) (hZ : Z.Warmed39 vm0) (wc : (Cond.code z ybytes yL yret).before a0 Z = true) (wz : (Cond.initialized z.cls).before a0 Z = true) (hf : rm.frames + 1 ≤ R.frames) (hl : W + (yL + 11) + rm.locals ≤ R.locals) (hEL : EW Z a0 EL) (H : CHv Z EL vm0 h) (hs : ∀ x ∈ sfc, Safe Z EL vm0 h x ∧ x < h.size) (hkn : kn → vm0.MethodsKnown ∧ vm0.FramesKnown below) :
    BackS l R p e below (s.setVm vm0) args z len W (fun A a => a = as ∧ A.U.heap = h ∧ A.cells + rm.cells ≤ R.cells ∧ A.slots + rm.slots ≤ R.slots) (fun A _ v B => ∃ L, (∃ sfn, Qc v B.U.heap sfn ∧ (∀ x ∈ sfn, Safe Z EL B.U.vm B.U.heap x ∧ x < B.U.heap.size) ∧ Fr n0 L) ∧ B.locs = A.locs ++ L ∧ B.cells = A.cells + rm.cells ∧ B.slots = A.slots + rm.slots ∧ CHr Z EL vm0 h B.U.vm B.U.heap) :=
  BackS.of_freeWG (bytes := ybytes) (maxL := yL) (ret := yret) (E := fun _ first o t L k n => k = rm.cells ∧ n = rm.slots ∧ (∃ v, o = .returned v ∧ ∃ sfn, Qc v t.heap sfn ∧ (∀ x ∈ sfn, Safe Z EL t.vm t.heap x ∧ x < t.heap.size) ∧ Fr n0 L) ∧ CHr Z EL first.vm first.heap t.vm t.heap) hC hf hl
    (fun m meth c A a Y hp => have hU : Z.Warmed39 A.U.vm := wtrans (s := s.setVm vm0) hZ Y.warmed
      ⟨by show (Cond.and _ .tt).before a A.U = true; rw [Cond.before_and, mv hU wc]; rfl, mv hU wc, mv hU wz, hp.2.2.1, hp.2.2.2⟩)
    (fun m meth c A a g mk Y hp => have hA := CHv.at Y hZ hEL H
      ⟨hp.1, wtrans (s := s.setVm vm0) hZ Y.warmed, hp.2.1, hA.1, fun x hx => ⟨hA.safe (hs x hx).2 (hs x hx).1, (hs x hx).2⟩⟩)
    (fun m meth c A a g mk Y _ hg hh => known_frames Y hg (hkn hh).1 (hkn hh).2)
    (fun _ _ _ _ ⟨v, L, h1, h2, h3, h4⟩ => ⟨L, _, _, h4, rfl, rfl, ⟨v, h1, h2⟩, h3⟩)
    (fun m meth c A a g mk v t L k n Y hp _ _ ⟨e1, e2, ⟨v', e3, e4⟩, e5⟩ => by
      cases e3; subst e1 e2
      refine ⟨L, e4, rfl, rfl, rfl, (CHv.at Y hZ hEL H).trans ?_⟩
      rw [← hp.2.1]; exact e5)
theorem call_static (X : Sd kn Z a0 EL y bytes maxL ret p l e R s m args below meth c n0 sf h kc ks T) {rm : Room} {ybytes : ByteArray} {yL : Nat} {yret : Option FieldType} {z : MethodName} {sfc : List Addr} {Qc : Option Value → Heap → List Addr → Prop} {pc n index W : Nat} {ls : Array Slot} {st rest argsL : List Value} (hd : decode bytes pc = .ok (.invokestatic index, 3)) (w1 : (Cond.methodLink y.cls index z).before a0 Z = true) (w2 : (Cond.static z).before a0 Z = true) (wc : (Cond.code z ybytes yL yret).before a0 Z = true) (wi : (Cond.initialized z.cls).before a0 Z = true) (hy : z.cls ≠ "java/lang/invoke/MethodHandle" ∧ z.cls ≠ "java/lang/invoke/VarHandle") (hC : Ctr kn l Z EL z ybytes yL yret [] rm n0 sfc argsL.toArray h Qc) (hsf : ∀ x ∈ sfc, x ∈ sf) (hst : st = argsL.reverse ++ rest) (hsize : ls.size = maxL) (hlen : ∀ sig, parseMethodDescriptor z.desc = some sig → argsL.length = sig.parameters.length) (hW : (rest.map fun v => v.category).sum ≤ W) (hfr : rm.frames + 1 ≤ R.frames) (hlo : W + (yL + 11) + rm.locals ≤ R.locals) (hce : kc + rm.cells ≤ R.cells) (hsl : ks + rm.slots ≤ R.slots) (hn : pc + 3 = n) (K : ∀ T' h' v sfn, h.size ≤ h'.size → Sd kn Z a0 EL y bytes maxL ret p l e R s m args below meth c n0 (sf ++ sfn) h' (kc + rm.cells) (ks + rm.slots) T' → Qc v h' sfn → Run Z EL p e below s n0 fc fs Q (T'.setTop (mkF m n ls (v.toList ++ rest)))) : Run Z EL p e below s n0 fc fs Q (T.setTop (mkF m pc ls st)) := by
  subst hn hst
  have hdc := X.dc hd
  obtain ⟨vm0, k0, q, ⟨hS, hk, hE, hCr, hs, hkn⟩, L, i, j, Y, r1, r2, r3, r4⟩ := X
  have hB := ctrBack (W := W) (R := R) (p := p) (e := e) (s := s) (below := below) (args := args) (len := 3) (vm0 := vm0) hC q.2.1 wc wi hfr hlo hE hCr.1 (fun x hx => hs x (hsf x hx)) hkn
  have hZ : Z.Warmed39 (s.setVm vm0).vm := q.2.1
  have hown : (s.setVm vm0).vm.findClass y.cls = some m.cls := q.2.2.2.2.2.2.1
  obtain ⟨v, vm₁, ⟨T', L', k', n'⟩, -, Y', S', g', ⟨Lc, hQ, l', y', z', C'⟩, stp⟩ := callSS Y q.1 (y := z) hown (mvT hZ w1) (mvT hZ w2) (mvT hZ wi) (mvT hZ wc) hy hB (g := mkF m pc ls (argsL.reverse ++ rest)) rfl (by rw [q.2.2.2.1]; exact hsize) (argsL := argsL) (rest := rest) hlen rfl (by simpa using hW) hdc (fun _ _ => ⟨rfl, r1, by dsimp only [Pt.cells]; omega, by dsimp only [Pt.slots]; omega⟩)
  dsimp only [Pt.U, Pt.locs, Pt.cells, Pt.slots] at Y' l' y' z' stp hQ S' g' C'
  obtain ⟨sfn, hQ1, hQs, hQ2⟩ := hQ
  subst l' y' z'
  obtain ⟨Y2, S2, Z2, O2⟩ := rebS hS hk Y' S' (by rw [← r1]; exact g') hZ hown
  have hal : vm0.Alike T'.vm := S'.1.alike
  refine (K T' T'.heap v sfn (by rw [← r1]; exact g') ⟨T'.vm, T'.heap.size, ⟨q.1, Z2, q.2.2.1, q.2.2.2.1, q.2.2.2.2.1, q.2.2.2.2.2.1, O2, q.2.2.2.2.2.2.2⟩, ⟨S2, Nat.le_refl _, hE, hCr.trans C', ?_, fun hh => ⟨Vm.MethodsKnown.alikeC hal (hkn hh).1, FKalike hal (hkn hh).2⟩⟩, _, _, _, Y2, rfl, Fr.app r2 hQ2, by omega, by omega⟩ hQ1).st fun t k => stp.trans k
  intro x hx
  rcases List.mem_append.mp hx with hx | hx
  · exact ⟨C'.safe (hs x hx).2 (hs x hx).1, Nat.lt_of_lt_of_le (hs x hx).2 (by rw [← r1]; exact g')⟩
  · exact hQs x hx
theorem call_static_v (X : Sd kn Z a0 EL y bytes maxL ret p l e R s m args below meth c n0 sf h kc ks T) {rm : Room} {ybytes : ByteArray} {yL : Nat} {yret : Option FieldType} {z : MethodName} {sfc : List Addr} {Qv : Value → Heap → List Addr → Prop} {pc n index W : Nat} {ls : Array Slot} {st rest argsL : List Value} (hd : decode bytes pc = .ok (.invokestatic index, 3)) (w1 : (Cond.methodLink y.cls index z).before a0 Z = true) (w2 : (Cond.static z).before a0 Z = true) (wc : (Cond.code z ybytes yL yret).before a0 Z = true) (wi : (Cond.initialized z.cls).before a0 Z = true) (hy : z.cls ≠ "java/lang/invoke/MethodHandle" ∧ z.cls ≠ "java/lang/invoke/VarHandle") (hC : Ctr kn l Z EL z ybytes yL yret [] rm n0 sfc argsL.toArray h (Rt Qv)) (hsf : ∀ x ∈ sfc, x ∈ sf) (hst : st = argsL.reverse ++ rest) (hsize : ls.size = maxL) (hlen : ∀ sig, parseMethodDescriptor z.desc = some sig → argsL.length = sig.parameters.length) (hW : (rest.map fun v => v.category).sum ≤ W) (hfr : rm.frames + 1 ≤ R.frames) (hlo : W + (yL + 11) + rm.locals ≤ R.locals) (hce : kc + rm.cells ≤ R.cells) (hsl : ks + rm.slots ≤ R.slots) (hn : pc + 3 = n) (K : ∀ T' h' w sfn, h.size ≤ h'.size → Sd kn Z a0 EL y bytes maxL ret p l e R s m args below meth c n0 (sf ++ sfn) h' (kc + rm.cells) (ks + rm.slots) T' → Qv w h' sfn → Run Z EL p e below s n0 fc fs Q (T'.setTop (mkF m n ls (w :: rest)))) : Run Z EL p e below s n0 fc fs Q (T.setTop (mkF m pc ls st)) :=
  call_static X hd w1 w2 wc wi hy hC hsf hst hsize hlen hW hfr hlo hce hsl hn fun T' h' v g hh X' q => by obtain ⟨w, rfl, q⟩ := q; exact K T' h' w g hh X' q
theorem call_static_n (X : Sd kn Z a0 EL y bytes maxL ret p l e R s m args below meth c n0 sf h kc ks T) {rm : Room} {ybytes : ByteArray} {yL : Nat} {yret : Option FieldType} {z : MethodName} {sfc : List Addr} {Qn : Heap → List Addr → Prop} {pc n index W : Nat} {ls : Array Slot} {st rest argsL : List Value} (hd : decode bytes pc = .ok (.invokestatic index, 3)) (w1 : (Cond.methodLink y.cls index z).before a0 Z = true) (w2 : (Cond.static z).before a0 Z = true) (wc : (Cond.code z ybytes yL yret).before a0 Z = true) (wi : (Cond.initialized z.cls).before a0 Z = true) (hy : z.cls ≠ "java/lang/invoke/MethodHandle" ∧ z.cls ≠ "java/lang/invoke/VarHandle") (hC : Ctr kn l Z EL z ybytes yL yret [] rm n0 sfc argsL.toArray h (Rn Qn)) (hsf : ∀ x ∈ sfc, x ∈ sf) (hst : st = argsL.reverse ++ rest) (hsize : ls.size = maxL) (hlen : ∀ sig, parseMethodDescriptor z.desc = some sig → argsL.length = sig.parameters.length) (hW : (rest.map fun v => v.category).sum ≤ W) (hfr : rm.frames + 1 ≤ R.frames) (hlo : W + (yL + 11) + rm.locals ≤ R.locals) (hce : kc + rm.cells ≤ R.cells) (hsl : ks + rm.slots ≤ R.slots) (hn : pc + 3 = n) (K : ∀ T' h' sfn, h.size ≤ h'.size → Sd kn Z a0 EL y bytes maxL ret p l e R s m args below meth c n0 (sf ++ sfn) h' (kc + rm.cells) (ks + rm.slots) T' → Qn h' sfn → Run Z EL p e below s n0 fc fs Q (T'.setTop (mkF m n ls rest))) : Run Z EL p e below s n0 fc fs Q (T.setTop (mkF m pc ls st)) :=
  call_static X hd w1 w2 wc wi hy hC hsf hst hsize hlen hW hfr hlo hce hsl hn fun T' h' v g hh X' q => by obtain ⟨rfl, q⟩ := q; exact K T' h' g hh X' q
theorem call_virtual (X : Sd kn Z a0 EL y bytes maxL ret p l e R s m args below meth c n0 sf h kc ks T) {rm : Room} {ybytes : ByteArray} {yL : Nat} {yret : Option FieldType} {z : MethodName} {sfc : List Addr} {Qc : Option Value → Heap → List Addr → Prop} {pc n index W : Nat} {ls : Array Slot} {st rest argsL : List Value} {a : Addr} {C : String} {yv : MethodName} (hd : decode bytes pc = .ok (.invokevirtual index, 3)) (w1 : (Cond.methodLink y.cls index yv).before a0 Z = true) (w2 : (Cond.declares yv).before a0 Z = true) (w3 : (Cond.instanceMethod z).before a0 Z = true) (w4 : (Cond.selects C yv z).before a0 Z = true) (hnf : ∀ {s' : State}, Z.Warmed39 s'.vm → NotFace s' yv) (wc : (Cond.code z ybytes yL yret).before a0 Z = true) (wi : (Cond.initialized z.cls).before a0 Z = true) (hy : yv.cls ≠ "java/lang/invoke/MethodHandle" ∧ yv.cls ≠ "java/lang/invoke/VarHandle") (E : Exa Z h a C) (hC : Ctr kn l Z EL z ybytes yL yret [] rm n0 sfc (.ref a :: argsL).toArray h Qc) (hsf : ∀ x ∈ sfc, x ∈ sf) (hst : st = argsL.reverse ++ .ref a :: rest) (hsize : ls.size = maxL) (hlen : ∀ sig, parseMethodDescriptor yv.desc = some sig → argsL.length = sig.parameters.length) (hW : (rest.map fun v => v.category).sum ≤ W) (hfr : rm.frames + 1 ≤ R.frames) (hlo : W + (yL + 11) + rm.locals ≤ R.locals) (hce : kc + rm.cells ≤ R.cells) (hsl : ks + rm.slots ≤ R.slots) (hn : pc + 3 = n) (K : ∀ T' h' v sfn, h.size ≤ h'.size → Sd kn Z a0 EL y bytes maxL ret p l e R s m args below meth c n0 (sf ++ sfn) h' (kc + rm.cells) (ks + rm.slots) T' → Qc v h' sfn → Run Z EL p e below s n0 fc fs Q (T'.setTop (mkF m n ls (v.toList ++ rest)))) : Run Z EL p e below s n0 fc fs Q (T.setTop (mkF m pc ls st)) := by
  subst hn hst
  have hdc := X.dc hd
  obtain ⟨vm0, k0, q, ⟨hS, hk, hE, hCr, hs, hkn⟩, L, i, j, Y, r1, r2, r3, r4⟩ := X
  have hB := ctrBack (W := W) (R := R) (p := p) (e := e) (s := s) (below := below) (args := args) (len := 3) (vm0 := vm0) hC q.2.1 wc wi hfr hlo hE hCr.1 (fun x hx => hs x (hsf x hx)) hkn
  have hZ : Z.Warmed39 (s.setVm vm0).vm := q.2.1
  have hown : (s.setVm vm0).vm.findClass y.cls = some m.cls := q.2.2.2.2.2.2.1
  obtain ⟨cq, kq, qa, qb, qc⟩ := isOf (T := T) hZ r1 E
  obtain ⟨v, vm₁, ⟨T', L', k', n'⟩, -, Y', S', g', ⟨Lc, hQ, l', y', z', C'⟩, stp⟩ := Y.virtualBackS q.1 (y := yv) (z := z) hown (mvT hZ w1) (mvT hZ w2) (hnf hZ) (mvT hZ w4) (mvT hZ w3) hy hB qa qc (g := mkF m pc ls (argsL.reverse ++ .ref a :: rest)) rfl (by rw [q.2.2.2.1]; exact hsize) (Steps.refl _) (argsL := argsL) (rest := rest) hlen rfl (by simpa using hW) hdc (fun _ _ => ⟨rfl, r1, by dsimp only [Pt.cells]; omega, by dsimp only [Pt.slots]; omega⟩)
  dsimp only [Pt.U, Pt.locs, Pt.cells, Pt.slots] at Y' l' y' z' stp hQ S' g' C'
  obtain ⟨sfn, hQ1, hQs, hQ2⟩ := hQ
  subst l' y' z'
  obtain ⟨Y2, S2, Z2, O2⟩ := rebS hS hk Y' S' (by rw [← r1]; exact g') hZ hown
  have hal : vm0.Alike T'.vm := S'.1.alike
  refine (K T' T'.heap v sfn (by rw [← r1]; exact g') ⟨T'.vm, T'.heap.size, ⟨q.1, Z2, q.2.2.1, q.2.2.2.1, q.2.2.2.2.1, q.2.2.2.2.2.1, O2, q.2.2.2.2.2.2.2⟩, ⟨S2, Nat.le_refl _, hE, hCr.trans C', ?_, fun hh => ⟨Vm.MethodsKnown.alikeC hal (hkn hh).1, FKalike hal (hkn hh).2⟩⟩, _, _, _, Y2, rfl, Fr.app r2 hQ2, by omega, by omega⟩ hQ1).st fun t k => stp.trans k
  intro x hx
  rcases List.mem_append.mp hx with hx | hx
  · exact ⟨C'.safe (hs x hx).2 (hs x hx).1, Nat.lt_of_lt_of_le (hs x hx).2 (by rw [← r1]; exact g')⟩
  · exact hQs x hx
theorem call_virtual_v (X : Sd kn Z a0 EL y bytes maxL ret p l e R s m args below meth c n0 sf h kc ks T) {rm : Room} {ybytes : ByteArray} {yL : Nat} {yret : Option FieldType} {z : MethodName} {sfc : List Addr} {Qv : Value → Heap → List Addr → Prop} {pc n index W : Nat} {ls : Array Slot} {st rest argsL : List Value} {a : Addr} {C : String} {yv : MethodName} (hd : decode bytes pc = .ok (.invokevirtual index, 3)) (w1 : (Cond.methodLink y.cls index yv).before a0 Z = true) (w2 : (Cond.declares yv).before a0 Z = true) (w3 : (Cond.instanceMethod z).before a0 Z = true) (w4 : (Cond.selects C yv z).before a0 Z = true) (hnf : ∀ {s' : State}, Z.Warmed39 s'.vm → NotFace s' yv) (wc : (Cond.code z ybytes yL yret).before a0 Z = true) (wi : (Cond.initialized z.cls).before a0 Z = true) (hy : yv.cls ≠ "java/lang/invoke/MethodHandle" ∧ yv.cls ≠ "java/lang/invoke/VarHandle") (E : Exa Z h a C) (hC : Ctr kn l Z EL z ybytes yL yret [] rm n0 sfc (.ref a :: argsL).toArray h (Rt Qv)) (hsf : ∀ x ∈ sfc, x ∈ sf) (hst : st = argsL.reverse ++ .ref a :: rest) (hsize : ls.size = maxL) (hlen : ∀ sig, parseMethodDescriptor yv.desc = some sig → argsL.length = sig.parameters.length) (hW : (rest.map fun v => v.category).sum ≤ W) (hfr : rm.frames + 1 ≤ R.frames) (hlo : W + (yL + 11) + rm.locals ≤ R.locals) (hce : kc + rm.cells ≤ R.cells) (hsl : ks + rm.slots ≤ R.slots) (hn : pc + 3 = n) (K : ∀ T' h' w sfn, h.size ≤ h'.size → Sd kn Z a0 EL y bytes maxL ret p l e R s m args below meth c n0 (sf ++ sfn) h' (kc + rm.cells) (ks + rm.slots) T' → Qv w h' sfn → Run Z EL p e below s n0 fc fs Q (T'.setTop (mkF m n ls (w :: rest)))) : Run Z EL p e below s n0 fc fs Q (T.setTop (mkF m pc ls st)) :=
  call_virtual X hd w1 w2 w3 w4 hnf wc wi hy E hC hsf hst hsize hlen hW hfr hlo hce hsl hn fun T' h' v g hh X' q => by obtain ⟨w, rfl, q⟩ := q; exact K T' h' w g hh X' q
theorem call_virtual_n (X : Sd kn Z a0 EL y bytes maxL ret p l e R s m args below meth c n0 sf h kc ks T) {rm : Room} {ybytes : ByteArray} {yL : Nat} {yret : Option FieldType} {z : MethodName} {sfc : List Addr} {Qn : Heap → List Addr → Prop} {pc n index W : Nat} {ls : Array Slot} {st rest argsL : List Value} {a : Addr} {C : String} {yv : MethodName} (hd : decode bytes pc = .ok (.invokevirtual index, 3)) (w1 : (Cond.methodLink y.cls index yv).before a0 Z = true) (w2 : (Cond.declares yv).before a0 Z = true) (w3 : (Cond.instanceMethod z).before a0 Z = true) (w4 : (Cond.selects C yv z).before a0 Z = true) (hnf : ∀ {s' : State}, Z.Warmed39 s'.vm → NotFace s' yv) (wc : (Cond.code z ybytes yL yret).before a0 Z = true) (wi : (Cond.initialized z.cls).before a0 Z = true) (hy : yv.cls ≠ "java/lang/invoke/MethodHandle" ∧ yv.cls ≠ "java/lang/invoke/VarHandle") (E : Exa Z h a C) (hC : Ctr kn l Z EL z ybytes yL yret [] rm n0 sfc (.ref a :: argsL).toArray h (Rn Qn)) (hsf : ∀ x ∈ sfc, x ∈ sf) (hst : st = argsL.reverse ++ .ref a :: rest) (hsize : ls.size = maxL) (hlen : ∀ sig, parseMethodDescriptor yv.desc = some sig → argsL.length = sig.parameters.length) (hW : (rest.map fun v => v.category).sum ≤ W) (hfr : rm.frames + 1 ≤ R.frames) (hlo : W + (yL + 11) + rm.locals ≤ R.locals) (hce : kc + rm.cells ≤ R.cells) (hsl : ks + rm.slots ≤ R.slots) (hn : pc + 3 = n) (K : ∀ T' h' sfn, h.size ≤ h'.size → Sd kn Z a0 EL y bytes maxL ret p l e R s m args below meth c n0 (sf ++ sfn) h' (kc + rm.cells) (ks + rm.slots) T' → Qn h' sfn → Run Z EL p e below s n0 fc fs Q (T'.setTop (mkF m n ls rest))) : Run Z EL p e below s n0 fc fs Q (T.setTop (mkF m pc ls st)) :=
  call_virtual X hd w1 w2 w3 w4 hnf wc wi hy E hC hsf hst hsize hlen hW hfr hlo hce hsl hn fun T' h' v g hh X' q => by obtain ⟨rfl, q⟩ := q; exact K T' h' g hh X' q
theorem call_special (X : Sd kn Z a0 EL y bytes maxL ret p l e R s m args below meth c n0 sf h kc ks T) {rm : Room} {ybytes : ByteArray} {yL : Nat} {yret : Option FieldType} {z : MethodName} {sfc : List Addr} {Qc : Option Value → Heap → List Addr → Prop} {pc n index W : Nat} {ls : Array Slot} {st rest argsL : List Value} {a : Addr} (hd : decode bytes pc = .ok (.invokespecial index, 3)) (w1 : (Cond.methodLink y.cls index z).before a0 Z = true) (w2 : (Cond.instanceMethod z).before a0 Z = true) (wc : (Cond.code z ybytes yL yret).before a0 Z = true) (wi : (Cond.initialized z.cls).before a0 Z = true) (hz : z.name = "<init>") (hr : yret = none) (hy : z.cls ≠ "java/lang/invoke/MethodHandle" ∧ z.cls ≠ "java/lang/invoke/VarHandle") (hC : Ctr kn l Z EL z ybytes yL yret [] rm n0 sfc (.ref a :: argsL).toArray h Qc) (hsf : ∀ x ∈ sfc, x ∈ sf) (hst : st = argsL.reverse ++ .ref a :: rest) (hsize : ls.size = maxL) (hlen : ∀ sig, parseMethodDescriptor z.desc = some sig → argsL.length = sig.parameters.length) (hW : (rest.map fun v => v.category).sum ≤ W) (hfr : rm.frames + 1 ≤ R.frames) (hlo : W + (yL + 11) + rm.locals ≤ R.locals) (hce : kc + rm.cells ≤ R.cells) (hsl : ks + rm.slots ≤ R.slots) (hn : pc + 3 = n) (K : ∀ T' h' v sfn, h.size ≤ h'.size → Sd kn Z a0 EL y bytes maxL ret p l e R s m args below meth c n0 (sf ++ sfn) h' (kc + rm.cells) (ks + rm.slots) T' → Qc v h' sfn → Run Z EL p e below s n0 fc fs Q (T'.setTop (mkF m n ls (v.toList ++ rest)))) : Run Z EL p e below s n0 fc fs Q (T.setTop (mkF m pc ls st)) := by
  subst hn hst
  have hdc := X.dc hd
  obtain ⟨vm0, k0, q, ⟨hS, hk, hE, hCr, hs, hkn⟩, L, i, j, Y, r1, r2, r3, r4⟩ := X
  have hB := ctrBack (W := W) (R := R) (p := p) (e := e) (s := s) (below := below) (args := args) (len := 3) (vm0 := vm0) hC q.2.1 wc wi hfr hlo hE hCr.1 (fun x hx => hs x (hsf x hx)) hkn
  have hZ : Z.Warmed39 (s.setVm vm0).vm := q.2.1
  have hown : (s.setVm vm0).vm.findClass y.cls = some m.cls := q.2.2.2.2.2.2.1
  obtain ⟨v, vm₁, ⟨T', L', k', n'⟩, -, Y', S', g', ⟨Lc, hQ, l', y', z', C'⟩, stp⟩ := Y.specialBackS q.1 (y := z) hz hown (mvT hZ w1) (mvT hZ w2) (mvT hZ (hr ▸ wc)) hy hB (g := mkF m pc ls (argsL.reverse ++ .ref a :: rest)) rfl (by rw [q.2.2.2.1]; exact hsize) (Steps.refl _) (a := a) (argsL := argsL) (rest := rest) hlen rfl (by simpa using hW) hdc (fun _ _ => ⟨rfl, r1, by dsimp only [Pt.cells]; omega, by dsimp only [Pt.slots]; omega⟩)
  dsimp only [Pt.U, Pt.locs, Pt.cells, Pt.slots] at Y' l' y' z' stp hQ S' g' C'
  obtain ⟨sfn, hQ1, hQs, hQ2⟩ := hQ
  subst l' y' z'
  obtain ⟨Y2, S2, Z2, O2⟩ := rebS hS hk Y' S' (by rw [← r1]; exact g') hZ hown
  have hal : vm0.Alike T'.vm := S'.1.alike
  refine (K T' T'.heap v sfn (by rw [← r1]; exact g') ⟨T'.vm, T'.heap.size, ⟨q.1, Z2, q.2.2.1, q.2.2.2.1, q.2.2.2.2.1, q.2.2.2.2.2.1, O2, q.2.2.2.2.2.2.2⟩, ⟨S2, Nat.le_refl _, hE, hCr.trans C', ?_, fun hh => ⟨Vm.MethodsKnown.alikeC hal (hkn hh).1, FKalike hal (hkn hh).2⟩⟩, _, _, _, Y2, rfl, Fr.app r2 hQ2, by omega, by omega⟩ hQ1).st fun t k => stp.trans k
  intro x hx
  rcases List.mem_append.mp hx with hx | hx
  · exact ⟨C'.safe (hs x hx).2 (hs x hx).1, Nat.lt_of_lt_of_le (hs x hx).2 (by rw [← r1]; exact g')⟩
  · exact hQs x hx
theorem call_special_v (X : Sd kn Z a0 EL y bytes maxL ret p l e R s m args below meth c n0 sf h kc ks T) {rm : Room} {ybytes : ByteArray} {yL : Nat} {yret : Option FieldType} {z : MethodName} {sfc : List Addr} {Qv : Value → Heap → List Addr → Prop} {pc n index W : Nat} {ls : Array Slot} {st rest argsL : List Value} {a : Addr} (hd : decode bytes pc = .ok (.invokespecial index, 3)) (w1 : (Cond.methodLink y.cls index z).before a0 Z = true) (w2 : (Cond.instanceMethod z).before a0 Z = true) (wc : (Cond.code z ybytes yL yret).before a0 Z = true) (wi : (Cond.initialized z.cls).before a0 Z = true) (hz : z.name = "<init>") (hr : yret = none) (hy : z.cls ≠ "java/lang/invoke/MethodHandle" ∧ z.cls ≠ "java/lang/invoke/VarHandle") (hC : Ctr kn l Z EL z ybytes yL yret [] rm n0 sfc (.ref a :: argsL).toArray h (Rt Qv)) (hsf : ∀ x ∈ sfc, x ∈ sf) (hst : st = argsL.reverse ++ .ref a :: rest) (hsize : ls.size = maxL) (hlen : ∀ sig, parseMethodDescriptor z.desc = some sig → argsL.length = sig.parameters.length) (hW : (rest.map fun v => v.category).sum ≤ W) (hfr : rm.frames + 1 ≤ R.frames) (hlo : W + (yL + 11) + rm.locals ≤ R.locals) (hce : kc + rm.cells ≤ R.cells) (hsl : ks + rm.slots ≤ R.slots) (hn : pc + 3 = n) (K : ∀ T' h' w sfn, h.size ≤ h'.size → Sd kn Z a0 EL y bytes maxL ret p l e R s m args below meth c n0 (sf ++ sfn) h' (kc + rm.cells) (ks + rm.slots) T' → Qv w h' sfn → Run Z EL p e below s n0 fc fs Q (T'.setTop (mkF m n ls (w :: rest)))) : Run Z EL p e below s n0 fc fs Q (T.setTop (mkF m pc ls st)) :=
  call_special X hd w1 w2 wc wi hz hr hy hC hsf hst hsize hlen hW hfr hlo hce hsl hn fun T' h' v g hh X' q => by obtain ⟨w, rfl, q⟩ := q; exact K T' h' w g hh X' q
theorem call_special_n (X : Sd kn Z a0 EL y bytes maxL ret p l e R s m args below meth c n0 sf h kc ks T) {rm : Room} {ybytes : ByteArray} {yL : Nat} {yret : Option FieldType} {z : MethodName} {sfc : List Addr} {Qn : Heap → List Addr → Prop} {pc n index W : Nat} {ls : Array Slot} {st rest argsL : List Value} {a : Addr} (hd : decode bytes pc = .ok (.invokespecial index, 3)) (w1 : (Cond.methodLink y.cls index z).before a0 Z = true) (w2 : (Cond.instanceMethod z).before a0 Z = true) (wc : (Cond.code z ybytes yL yret).before a0 Z = true) (wi : (Cond.initialized z.cls).before a0 Z = true) (hz : z.name = "<init>") (hr : yret = none) (hy : z.cls ≠ "java/lang/invoke/MethodHandle" ∧ z.cls ≠ "java/lang/invoke/VarHandle") (hC : Ctr kn l Z EL z ybytes yL yret [] rm n0 sfc (.ref a :: argsL).toArray h (Rn Qn)) (hsf : ∀ x ∈ sfc, x ∈ sf) (hst : st = argsL.reverse ++ .ref a :: rest) (hsize : ls.size = maxL) (hlen : ∀ sig, parseMethodDescriptor z.desc = some sig → argsL.length = sig.parameters.length) (hW : (rest.map fun v => v.category).sum ≤ W) (hfr : rm.frames + 1 ≤ R.frames) (hlo : W + (yL + 11) + rm.locals ≤ R.locals) (hce : kc + rm.cells ≤ R.cells) (hsl : ks + rm.slots ≤ R.slots) (hn : pc + 3 = n) (K : ∀ T' h' sfn, h.size ≤ h'.size → Sd kn Z a0 EL y bytes maxL ret p l e R s m args below meth c n0 (sf ++ sfn) h' (kc + rm.cells) (ks + rm.slots) T' → Qn h' sfn → Run Z EL p e below s n0 fc fs Q (T'.setTop (mkF m n ls rest))) : Run Z EL p e below s n0 fc fs Q (T.setTop (mkF m pc ls st)) :=
  call_special X hd w1 w2 wc wi hz hr hy hC hsf hst hsize hlen hW hfr hlo hce hsl hn fun T' h' v g hh X' q => by obtain ⟨rfl, q⟩ := q; exact K T' h' g hh X' q
theorem joinT (X : Sd kn Z a0 EL y bytes maxL ret p l e R s m args below meth c n0 sf h kc ks T) {α : Type} (P : α → Prop) (f : α → JFrame) {t : State} (J : ∀ T' v, Sd kn Z a0 EL y bytes maxL ret p l e R s m args below meth c n0 sf h kc ks T' → P v → Run Z EL p e below s n0 fc fs Q (T'.setTop (f v))) (K : (∀ T' v, Sd kn Z a0 EL y bytes maxL ret p l e R s m args below meth c n0 sf h kc ks T' → P v → Run Z EL p e below s n0 fc fs Q (T'.setTop (f v))) → Run Z EL p e below s n0 fc fs Q t) : Run Z EL p e below s n0 fc fs Q t := K J
theorem joinH (X : Sd kn Z a0 EL y bytes maxL ret p l e R s m args below meth c n0 sf h kc ks T) (kc' ks' : Nat) {α : Type} (P : α → Heap → List Addr → Prop) (f : α → JFrame) {t : State} (J : ∀ T' h' sf' v, Sd kn Z a0 EL y bytes maxL ret p l e R s m args below meth c n0 sf' h' kc' ks' T' → P v h' sf' → Run Z EL p e below s n0 fc fs Q (T'.setTop (f v))) (K : (∀ T' h' sf' v, Sd kn Z a0 EL y bytes maxL ret p l e R s m args below meth c n0 sf' h' kc' ks' T' → P v h' sf' → Run Z EL p e below s n0 fc fs Q (T'.setTop (f v))) → Run Z EL p e below s n0 fc fs Q t) : Run Z EL p e below s n0 fc fs Q t := K J
theorem loopT (X : Sd kn Z a0 EL y bytes maxL ret p l e R s m args below meth c n0 sf h kc ks T) {α : Type} (P : α → Heap → Prop) (mu : α → Nat) (f : α → JFrame) (J : ∀ T' h' v, Sd kn Z a0 EL y bytes maxL ret p l e R s m args below meth c n0 sf h' kc ks T' → P v h' → (∀ T'' h'' v', mu v' < mu v → Sd kn Z a0 EL y bytes maxL ret p l e R s m args below meth c n0 sf h'' kc ks T'' → P v' h'' → Run Z EL p e below s n0 fc fs Q (T''.setTop (f v'))) → Run Z EL p e below s n0 fc fs Q (T'.setTop (f v))) : ∀ T' h' v, Sd kn Z a0 EL y bytes maxL ret p l e R s m args below meth c n0 sf h' kc ks T' → P v h' → Run Z EL p e below s n0 fc fs Q (T'.setTop (f v)) := by
  have key : ∀ n T' h' v, mu v = n → Sd kn Z a0 EL y bytes maxL ret p l e R s m args below meth c n0 sf h' kc ks T' → P v h' → Run Z EL p e below s n0 fc fs Q (T'.setTop (f v)) := by
    intro n
    induction n using Nat.strongRecOn with
    | ind n ih =>
      intro T' h' v hm X' hP
      exact J T' h' v X' hP fun T'' h'' v' hlt X'' hP'' => ih (mu v') (hm ▸ hlt) T'' h'' v' rfl X'' hP''
  intro T' h' v X' hP
  exact key _ T' h' v rfl X' hP
theorem eqI_v {args : Array Value} {first s : State} {o : Option Outcome} {idx : List Nat} {t : Term} {z : Int32} (h : (Jvm.Cond.eq t (Term.int z)).value args first o s idx = some true) : t.eval args first o idx s = some (.int z) := by
  simp only [Jvm.Cond.value, Term.eval] at h
  cases ht : t.eval args first o idx s with
  | none => simp [ht] at h
  | some x => cases x <;> simp [ht] at h ⊢; exact h
theorem lenOfTerm {args : Array Value} {first s : State} {o : Option Outcome} {idx : List Nat} {t : Term} {k : Int32} {a : Addr} {cl : Cell} {n : Nat} (hh : (Term.length t).eval args first o idx s = some (.int k)) (ht : t.eval args first o idx s = some (.ref a)) (hc : s.heap[a]? = some cl) (hk : k.toInt = n) : cl.slots.size = n := by
  simp only [Term.eval, ht, Option.bind_eq_bind, Option.bind_some] at hh
  obtain ⟨c2, h1, h2⟩ := Option.bind_eq_some_iff.mp hh
  have h3 := (State.arrayAt?_spec h1).1
  cases hc.symm.trans h3
  by_cases q : cl.slots.size < 2 ^ 31
  · simp only [q, if_true, Option.pure_def, Option.some.injEq, Value.int.injEq] at h2
    have h4 : (cl.slots.size.toInt32).toInt = cl.slots.size := Int32.toInt_ofNat_small q
    rw [h2, hk] at h4
    omega
  · simp [q] at h2
theorem eqR_v {args : Array Value} {first s : State} {o : Option Outcome} {idx : List Nat} {t u : Term} {a : Addr} (hh : (Jvm.Cond.eq t u).value args first o s idx = some true) (hu : u.eval args first o idx s = some (.ref a)) : t.eval args first o idx s = some (.ref a) := by
  simp only [Jvm.Cond.value, hu] at hh
  cases ht : t.eval args first o idx s with
  | none => simp [ht] at hh
  | some x => cases x <;> simp [ht] at hh ⊢; exact hh
theorem Ark.start (hf : Fit Z) {cl : Cell} (A : Arr Z Z.heap a cl ty) (hl : cl.slots.size = vs.length) (hb : vs.length < 2147483648) (H : ∀ i, i < vs.length → cl.slots[i]? = vs[i]?) : Ark Z Z.heap a ty vs := by
  have e1 : cl.slots = vs.toArray := by
    apply Array.ext
    · simpa using hl
    · intro i h1 h2
      have q := H i (by omega)
      rw [Array.getElem?_eq_getElem h1, List.getElem?_eq_getElem (by omega)] at q
      simpa using Option.some.inj q
  refine ⟨cl, A, e1, hb, fun v hv => ?_⟩
  obtain ⟨i, hi, rfl⟩ := List.getElem_of_mem hv
  have q := elem_fits hf A (j := Int32.ofNat i) (v := vs[i]) ?_ ?_
  · exact q
  · intro q
    have e2 : (Int32.ofNat i).toInt = i := Int32.toInt_ofNat_small (by omega)
    obtain ⟨g1, g2⟩ := toNatC e2
    rcases q with q | q
    · exact g2 q
    · rw [g1] at q; omega
  · have e2 : (Int32.ofNat i).toInt = i := Int32.toInt_ofNat_small (by omega)
    rw [(toNatC e2).1, e1]; simp
end A
end Jvm.OwnW
namespace Jvm.Pilot.@@N@@
open Jvm Jvm.ClassFile Sem Op Lib Jvm.Free Jvm.Stand Jvm.LawKit Jvm.RoadKit Jvm.OwnW Bundle Jvm.Pilot.@@N@@.Jvm.D

def lo8 (x : Int32) : Int32 := x.toInt8.toInt32
theorem own_nat {i : Nat} (h : i < 2147483648) : (Int32.ofNat i).toInt = i := Int32.toInt_ofNat_small h
theorem own_lt {i n : Nat} (hi : i < 2147483648) (hn : n < 2147483648) : Int32.ofNat i < Int32.ofNat n ↔ i < n := by
  rw [Int32.lt_iff_toInt_lt, own_nat hi, own_nat hn]; omega
theorem own_eqn {i n : Nat} (hi : i < 2147483648) (hn : n < 2147483648) : Int32.ofNat i = Int32.ofNat n ↔ i = n := by
  rw [← Int32.toInt_inj, own_nat hi, own_nat hn]; omega
theorem own_up (i : Nat) : Int32.ofNat i + 1 = Int32.ofNat (i + 1) := by
  apply Int32.toInt_inj.mp; rw [Int32.toInt_add]; simp [Int32.toInt_ofNat]
def own_dst (cs : List Int32) (i : Nat) : List Value := ((cs.take i).map lo8 ++ List.replicate (cs.length - i) 0).map Value.int
theorem own_dst_len (cs : List Int32) {i : Nat} (h : i ≤ cs.length) : (own_dst cs i).length = cs.length := by simp [own_dst]; omega
theorem own_dst0 (cs : List Int32) : own_dst cs 0 = List.replicate cs.length (Value.int 0) := by simp [own_dst]
theorem own_dstN (cs : List Int32) : own_dst cs cs.length = (cs.map lo8).map Value.int := by simp [own_dst]
theorem own_dst_set (cs : List Int32) {i : Nat} (h : i < cs.length) : (own_dst cs i).set i (Value.int (lo8 (cs.getD i 0))) = own_dst cs (i + 1) := by
  have e : cs.length - i = (cs.length - (i + 1)) + 1 := by omega
  have hd : cs.getD i 0 = cs[i] := by simp [List.getD, h]
  have ht : (cs.take i).length = i := by simp; omega
  simp only [own_dst, hd, e, List.replicate_succ, List.map_append, List.map_cons]
  rw [List.set_append_right _ _ (by simp; omega)]
  have e2 : i - (List.map Value.int (List.map lo8 (List.take i cs))).length = 0 := by simp; omega
  rw [e2, List.set_cons_zero, List.take_succ_eq_append_getElem h]
  simp only [List.map_append, List.map_cons, List.map_nil, List.append_assoc, List.cons_append, List.nil_append]
theorem own_get (cs : List Int32) {i : Nat} (h : i < cs.length) : (cs.map Value.int)[i]? = some (Value.int (cs.getD i 0)) := by
  simp [List.getElem?_eq_getElem, h, List.getD]
theorem own_mem (cs : List Int32) {i : Nat} (h : i < cs.length) : cs.getD i 0 ∈ cs := by
  have hd : cs.getD i 0 = cs[i] := by simp [List.getD, h]
  rw [hd]; exact List.getElem_mem h
theorem own_narB (x : Int32) : nar .byte (lo8 x) = lo8 x := by
  show (x.toInt8.toInt32).toInt8.toInt32 = x.toInt8.toInt32
  simp
theorem own_narC {c : Int32} (h0 : ¬ c < 0) (h1 : ¬ 255 < c) : nar .char c = c := by
  have e : (255 : Int32).toInt = 255 := rfl
  have e0 : (0 : Int32).toInt = 0 := rfl
  rw [Int32.lt_iff_toInt_lt] at h0 h1
  rw [e] at h1
  rw [e0] at h0
  apply Int32.toInt_inj.mp
  have h2 := c_i2c c
  show (c.toUInt32.toUInt16.toUInt32.toInt32).toInt = c.toInt
  omega
theorem own_c0 (n : Int32) : ((n - n).toUInt32 >>> ((31 : Int32) &&& 31).toUInt32).toInt32.toInt8.toInt32 = 0 := by
  have : n - n = 0 := by simp
  rw [this]; decide
theorem own_a0 {P : Int32 → Prop} : ∀ c ∈ ([] : List Int32), P c := fun _ q => nomatch q
theorem own_aS {P : Int32 → Prop} {x : Int32} {L : List Int32} (q : P x) (r : ∀ c ∈ L, P c) : ∀ c ∈ x :: L, P c := fun c z => (List.mem_cons.mp z).elim (fun u => u ▸ q) (r c)
/-- a String of Latin-1 chars -/
def StrL (Z : State) (h : Heap) (x : Addr) (t : Addr) (cs : List Int32) : Prop := Exa Z h x "java/lang/String" ∧ Fld Z h x "java/lang/String" "coder" "B" (.int 0) ∧ Fld Z h x "java/lang/String" "value" "[B" (.ref t) ∧ Ark Z h t .byte ((cs.map lo8).map Value.int)
theorem StrL.keep {Z : State} {h h' : Heap} {x t : Addr} {cs : List Int32} {ws : List Addr} (S : StrL Z h x t cs) (K : Keep h h' ws) (q1 : x ∉ ws) (q2 : t ∉ ws) : StrL Z h' x t cs := ⟨S.1.keep K, S.2.1.keep K q1, S.2.2.1.keep K q1, S.2.2.2.keep K q2⟩
theorem StrL.ext {Z : State} {h h' : Heap} {x t : Addr} {cs : List Int32} (S : StrL Z h x t cs) (E : Ext h h') : StrL Z h' x t cs := ⟨S.1.ext E, S.2.1.ext E, S.2.2.1.ext E, S.2.2.2.ext E⟩

def own_EL : List (String × Nat) := [("java/lang/String", 7)]
theorem own_EW {Z : State} {a0 : Array Value} (hw : ∀ d ∈ tables_1, d.before a0 Z = true) : EW Z a0 own_EL := (EW.cons (text := "") (hw _ (List.mem_of_getElem? (i := 71) rfl)) (by decide) EW.nil)
theorem own_held {tb : Tables} {e : Env} {args : Array Value} {s : State} (hc : Calls_1 tb e args s) : ∀ p ∈ own_EL, Jvm.Lit.constHeld s p.1 p.2 := fun p hp => hc.1 p ((by decide +kernel : ∀ p ∈ own_EL, p ∈ consts_1) p hp)
theorem own_255 (x : Int32) : ¬ (x &&& 255).toUInt32.toUInt16.toUInt32.toInt32 < 0 ∧ ¬ 255 < (x &&& 255).toUInt32.toUInt16.toUInt32.toInt32 := by
  rw [i2c_mask]
  have h := c_and x 255 (by decide)
  have e : (255 : Int32).toInt = 255 := rfl
  have e0 : (0 : Int32).toInt = 0 := rfl
  rw [Int32.lt_iff_toInt_lt, Int32.lt_iff_toInt_lt, e, e0]
  rw [e] at h
  omega

theorem own_lo8_inj {x y : Int32} (a0 : ¬ x < 0) (a1 : ¬ 255 < x) (b0 : ¬ y < 0) (b1 : ¬ 255 < y) (h : lo8 x = lo8 y) : x = y := by
  have e : (255 : Int32).toInt = 255 := rfl
  have e0 : (0 : Int32).toInt = 0 := rfl
  rw [Int32.lt_iff_toInt_lt] at a0 a1 b0 b1
  rw [e] at a1 b1
  rw [e0] at a0 b0
  have h1 := c_i2b x
  have h2 := c_i2b y
  have h3 : x.toInt8.toInt32.toInt = y.toInt8.toInt32.toInt := congrArg Int32.toInt h
  apply Int32.toInt_inj.mp
  omega
def Lat (cs : List Int32) : Prop := ∀ c ∈ cs, ¬ c < 0 ∧ ¬ 255 < c
theorem own_map_inj : ∀ {cs ds : List Int32}, Lat cs → Lat ds → cs.map lo8 = ds.map lo8 → cs = ds
  | [], [], _, _, _ => rfl
  | [], _ :: _, _, _, h => by simp at h
  | _ :: _, [], _, _, h => by simp at h
  | a :: cs, b :: ds, ha, hb, h => by
    simp only [List.map_cons, List.cons.injEq] at h
    have h1 := ha a (List.mem_cons_self ..)
    have h2 := hb b (List.mem_cons_self ..)
    rw [own_lo8_inj h1.1 h1.2 h2.1 h2.2 h.1, own_map_inj (fun c hc => ha c (List.mem_cons_of_mem _ hc)) (fun c hc => hb c (List.mem_cons_of_mem _ hc)) h.2]
theorem own_map_iff {cs ds : List Int32} (hc : Lat cs) (hd : Lat ds) : cs.map lo8 = ds.map lo8 ↔ cs = ds := ⟨own_map_inj hc hd, fun h => by rw [h]⟩
theorem own_ext {as bs : List Int32} (hl : as.length = bs.length) (h : ∀ j, j < as.length → as.getD j 0 = bs.getD j 0) : as = bs := by
  apply List.ext_getElem hl
  intro i h1 h2
  have q := h i h1
  simpa [List.getD, h1, h2] using q
theorem ark_inj {Z : State} {h : Heap} {t : Addr} {ty : FieldType} {as bs : List Int32} (A : Ark Z h t ty (as.map Value.int)) (B : Ark Z h t ty (bs.map Value.int)) : as = bs := by
  obtain ⟨c1, A1, a2, -⟩ := A
  obtain ⟨c2, B1, b2, -⟩ := B
  cases A1.1.symm.trans B1.1
  have e : as.map Value.int = bs.map Value.int := by simpa using congrArg Array.toList (a2.symm.trans b2)
  exact List.map_inj_right (f := Value.int) (fun _ _ q => Value.int.inj q) |>.mp e
theorem fld_fun {Z : State} {h : Heap} {a : Addr} {C n d : String} {v w : Value} (F : Fld Z h a C n d v) (G : Fld Z h a C n d w) : v = w := Classical.byContradiction fun q => Fld.ne F G q rfl
theorem StrL.eq {Z : State} {h : Heap} {x t u : Addr} {cs ds : List Int32} (S : StrL Z h x t cs) (S' : StrL Z h x u ds) : cs.map lo8 = ds.map lo8 := by
  have e := fld_fun S.2.2.1 S'.2.2.1
  cases e
  exact ark_inj S.2.2.2 S'.2.2.2

theorem pn_java_lang_StringLatin1 : plainName "java/lang/StringLatin1" = true := by first | (simp [plainName, overriddenIn]; done) | decide +kernel
theorem d12_0 : decode jdk_43_method_13_code 0 = .ok (.aload_n 0, 1) := by decide +kernel
theorem d12_1 : decode jdk_43_method_13_code 1 = .ok (.arraylength, 1) := by decide +kernel
theorem d12_2 : decode jdk_43_method_13_code 2 = .ok (.aload_n 1, 1) := by decide +kernel
theorem d12_3 : decode jdk_43_method_13_code 3 = .ok (.arraylength, 1) := by decide +kernel
theorem d12_4 : decode jdk_43_method_13_code 4 = .ok (.if_icmp .ne 30, 3) := by decide +kernel
theorem d12_7 : decode jdk_43_method_13_code 7 = .ok (.iconst 0, 1) := by decide +kernel
theorem d12_8 : decode jdk_43_method_13_code 8 = .ok (.istore_n 2, 1) := by decide +kernel
theorem d12_9 : decode jdk_43_method_13_code 9 = .ok (.iload_n 2, 1) := by decide +kernel
theorem d12_10 : decode jdk_43_method_13_code 10 = .ok (.aload_n 0, 1) := by decide +kernel
theorem d12_11 : decode jdk_43_method_13_code 11 = .ok (.arraylength, 1) := by decide +kernel
theorem d12_12 : decode jdk_43_method_13_code 12 = .ok (.if_icmp .ge 20, 3) := by decide +kernel
theorem d12_15 : decode jdk_43_method_13_code 15 = .ok (.aload_n 0, 1) := by decide +kernel
theorem d12_16 : decode jdk_43_method_13_code 16 = .ok (.iload_n 2, 1) := by decide +kernel
theorem d12_17 : decode jdk_43_method_13_code 17 = .ok (.baload, 1) := by decide +kernel
theorem d12_18 : decode jdk_43_method_13_code 18 = .ok (.aload_n 1, 1) := by decide +kernel
theorem d12_19 : decode jdk_43_method_13_code 19 = .ok (.iload_n 2, 1) := by decide +kernel
theorem d12_20 : decode jdk_43_method_13_code 20 = .ok (.baload, 1) := by decide +kernel
theorem d12_21 : decode jdk_43_method_13_code 21 = .ok (.if_icmp .eq 5, 3) := by decide +kernel
theorem d12_24 : decode jdk_43_method_13_code 24 = .ok (.iconst 0, 1) := by decide +kernel
theorem d12_25 : decode jdk_43_method_13_code 25 = .ok (.ireturn, 1) := by decide +kernel
theorem d12_26 : decode jdk_43_method_13_code 26 = .ok (.iinc 2 1, 3) := by decide +kernel
theorem d12_29 : decode jdk_43_method_13_code 29 = .ok (.goto (-20), 3) := by decide +kernel
theorem d12_32 : decode jdk_43_method_13_code 32 = .ok (.iconst 1, 1) := by decide +kernel
theorem d12_33 : decode jdk_43_method_13_code 33 = .ok (.ireturn, 1) := by decide +kernel
theorem d12_34 : decode jdk_43_method_13_code 34 = .ok (.iconst 0, 1) := by decide +kernel
theorem d12_35 : decode jdk_43_method_13_code 35 = .ok (.ireturn, 1) := by decide +kernel
theorem ef_rm12 (m : MethodId) (x0 : Addr) (x1 : Addr) : entryFrame m #[(.ref x0), (.ref x1)] 3 = mkF m 0 #[.val (.ref x0), .val (.ref x1), .unset] [] := by first | (simp [entryFrame, mkF, argsToLocals, Value.category]; done) | rfl
set_option maxRecDepth 65536 in
set_option maxHeartbeats 40000000 in
theorem rm12 (l : Launch) (Z : State) (a0 : Array Value) (hw : ∀ d ∈ tables_1, d.before a0 Z = true) (hE : EW Z a0 own_EL) (ws : List Jvm.Cond) (r0 : Addr) (r1 : Addr) (h0 : Heap) (n0 : Nat) (as bs : List Int32) (A0 : Ark Z h0 r0 .byte (as.map Value.int)) (A1 : Ark Z h0 r1 .byte (bs.map Value.int)) :
    Ctr False l Z own_EL (⟨"java/lang/StringLatin1", "equals", "([B[B)Z"⟩ : MethodName) jdk_43_method_13_code 3 (some .boolean) ws ({ frames := 0, cells := 0, slots := 0, locals := 0 } : Room) n0 ([]) #[(.ref r0), (.ref r1)] h0 (Rt (fun w h g => w = .int (if as = bs then 1 else 0) ∧ h0 = h)) := by
  refine Ctr.of (plainFor_of_name pn_java_lang_StringLatin1) hE (fun m => ef_rm12 m r0 r1) ?_
  intro p e s m below meth c T0 X0
  refine OwnW.aloadN X0 (n := 1) d12_0 rfl rfl rfl ?_
  refine OwnW.arraylength X0 (z := Int32.ofNat as.length) (n := 2) d12_1 A0 (by simp) rfl ?_
  refine OwnW.aloadN X0 (n := 3) d12_2 rfl rfl rfl ?_
  refine OwnW.arraylength X0 (z := Int32.ofNat bs.length) (n := 4) d12_3 A1 (by simp) rfl ?_
  refine OwnW.ic_ne X0  (n1 := 34) (n2 := 7) d12_4 (by decide) rfl rfl (fun hc4 => ?_) (fun hc4 => ?_)
  · refine OwnW.iconst X0 (z := (0 : Int32)) (n := 35) d12_34 rfl rfl ?_
    exact OwnW.ireturn X0 rfl (Or.inr (Or.inl rfl)) rfl d12_35 ⟨by rw [if_neg (fun q => hc4 (by rw [q]))], rfl⟩ (by decide) (by decide)
  · refine OwnW.iconst X0 (z := (0 : Int32)) (n := 8) d12_7 rfl rfl ?_
    refine OwnW.istoreN X0 (l' := #[.val (.ref r0), .val (.ref r1), .val (.int (0 : Int32))]) (n := 9) d12_8 rfl rfl ?_
    have hla : as.length < 2147483648 := by simpa using A0.len
    have hlb : bs.length < 2147483648 := by simpa using A1.len
    have hl : as.length = bs.length := (own_eqn hla hlb).mp hc4
    refine OwnW.loopT X0 (fun (v : Nat) h' => v ≤ as.length ∧ h0 = h' ∧ ∀ j, j < v → as.getD j 0 = bs.getD j 0) (fun v => as.length - v) (fun v => mkF m 9 #[.val (.ref r0), .val (.ref r1), .val (.int (Int32.ofNat v))] []) ?_ _ _ 0 X0 ⟨Nat.zero_le _, rfl, fun j hj => absurd hj (Nat.not_lt_zero _)⟩
    intro T1 h1 i X1 ⟨hi, hh, hj⟩ IH
    subst hh
    have hii : i < 2147483648 := by omega
    refine OwnW.iloadN X1 (n := 10) d12_9 rfl rfl ?_
    refine OwnW.aloadN X1 (n := 11) d12_10 rfl rfl rfl ?_
    refine OwnW.arraylength X1 (z := Int32.ofNat as.length) (n := 12) d12_11 A0 (by simp) rfl ?_
    refine OwnW.ic_ge X1  (n1 := 32) (n2 := 15) d12_12 (by decide) rfl rfl (fun hc12 => ?_) (fun hc12 => ?_)
    · refine OwnW.iconst X1 (z := (1 : Int32)) (n := 33) d12_32 rfl rfl ?_
      exact OwnW.ireturn X1 rfl (Or.inr (Or.inl rfl)) rfl d12_33 ⟨by rw [if_pos (own_ext hl (fun j q => hj j (by have := mt (own_lt hii hla).mpr hc12; omega)))], rfl⟩ (by decide) (by decide)
    · refine OwnW.aloadN X1 (n := 16) d12_15 rfl rfl rfl ?_
      refine OwnW.iloadN X1 (n := 17) d12_16 rfl rfl ?_
      have hlt : i < as.length := (own_lt hii hla).mp hc12
      have hlt2 : i < bs.length := by omega
      refine OwnW.baload X1 (i := i) (v := (.int (as.getD i 0))) (n := 18) d12_17 A0 (own_nat hii) (own_get as hlt) rfl ?_
      refine OwnW.aloadN X1 (n := 19) d12_18 rfl rfl rfl ?_
      refine OwnW.iloadN X1 (n := 20) d12_19 rfl rfl ?_
      refine OwnW.baload X1 (i := i) (v := (.int (bs.getD i 0))) (n := 21) d12_20 A1 (own_nat hii) (own_get bs hlt2) rfl ?_
      refine OwnW.ic_eq X1  (n1 := 26) (n2 := 24) d12_21 (by decide) rfl rfl (fun hc21 => ?_) (fun hc21 => ?_)
      · refine OwnW.iinc X1 (z := (1 : Int32)) (u := (Int32.ofNat (i + 1))) (l' := #[.val (.ref r0), .val (.ref r1), .val (.int (Int32.ofNat (i + 1)))]) (n := 29) d12_26 rfl rfl (own_up i) rfl rfl ?_
        refine OwnW.goto X1 (n := 9) d12_29 (by decide) rfl ?_
        exact IH _ _ (i + 1) (by omega) X1 ⟨hlt, rfl, fun j q => (Nat.lt_succ_iff_lt_or_eq.mp q).elim (hj j) (fun z => z ▸ hc21)⟩
      · refine OwnW.iconst X1 (z := (0 : Int32)) (n := 25) d12_24 rfl rfl ?_
        exact OwnW.ireturn X1 rfl (Or.inr (Or.inl rfl)) rfl d12_25 ⟨by rw [if_neg (fun q => hc21 (by rw [q]))], rfl⟩ (by decide) (by decide)
theorem pd___B_B_Z : parseMethodDescriptor "([B[B)Z" = some ⟨[(.array .byte), (.array .byte)], some .boolean⟩ := by decide +kernel
theorem pn_java_lang_String : plainName "java/lang/String" = true := by first | (simp [plainName, overriddenIn]; done) | decide +kernel
theorem d11_0 : decode jdk_42_method_66_code 0 = .ok (.aload_n 0, 1) := by decide +kernel
theorem d11_1 : decode jdk_42_method_66_code 1 = .ok (.aload_n 1, 1) := by decide +kernel
theorem d11_2 : decode jdk_42_method_66_code 2 = .ok (.if_acmp .ne 5, 3) := by decide +kernel
theorem d11_5 : decode jdk_42_method_66_code 5 = .ok (.iconst 1, 1) := by decide +kernel
theorem d11_6 : decode jdk_42_method_66_code 6 = .ok (.ireturn, 1) := by decide +kernel
theorem d11_7 : decode jdk_42_method_66_code 7 = .ok (.aload_n 1, 1) := by decide +kernel
theorem d11_8 : decode jdk_42_method_66_code 8 = .ok (.instanceof 10, 3) := by decide +kernel
theorem d11_11 : decode jdk_42_method_66_code 11 = .ok (.ifCond .eq 43, 3) := by decide +kernel
theorem d11_14 : decode jdk_42_method_66_code 14 = .ok (.aload_n 1, 1) := by decide +kernel
theorem d11_15 : decode jdk_42_method_66_code 15 = .ok (.checkcast 10, 3) := by decide +kernel
theorem d11_18 : decode jdk_42_method_66_code 18 = .ok (.astore_n 2, 1) := by decide +kernel
theorem d11_19 : decode jdk_42_method_66_code 19 = .ok (.getstatic 38, 3) := by decide +kernel
theorem d11_22 : decode jdk_42_method_66_code 22 = .ok (.ifCond .eq 14, 3) := by decide +kernel
theorem d11_25 : decode jdk_42_method_66_code 25 = .ok (.aload_n 0, 1) := by decide +kernel
theorem d11_26 : decode jdk_42_method_66_code 26 = .ok (.getfield 15, 3) := by decide +kernel
theorem d11_29 : decode jdk_42_method_66_code 29 = .ok (.aload_n 2, 1) := by decide +kernel
theorem d11_30 : decode jdk_42_method_66_code 30 = .ok (.getfield 15, 3) := by decide +kernel
theorem d11_33 : decode jdk_42_method_66_code 33 = .ok (.if_icmp .ne 21, 3) := by decide +kernel
theorem d11_36 : decode jdk_42_method_66_code 36 = .ok (.aload_n 0, 1) := by decide +kernel
theorem d11_37 : decode jdk_42_method_66_code 37 = .ok (.getfield 9, 3) := by decide +kernel
theorem d11_40 : decode jdk_42_method_66_code 40 = .ok (.aload_n 2, 1) := by decide +kernel
theorem d11_41 : decode jdk_42_method_66_code 41 = .ok (.getfield 9, 3) := by decide +kernel
theorem d11_44 : decode jdk_42_method_66_code 44 = .ok (.invokestatic 541, 3) := by decide +kernel
theorem d11_47 : decode jdk_42_method_66_code 47 = .ok (.ifCond .eq 7, 3) := by decide +kernel
theorem d11_50 : decode jdk_42_method_66_code 50 = .ok (.iconst 1, 1) := by decide +kernel
theorem d11_51 : decode jdk_42_method_66_code 51 = .ok (.goto 4, 3) := by decide +kernel
theorem d11_54 : decode jdk_42_method_66_code 54 = .ok (.iconst 0, 1) := by decide +kernel
theorem d11_55 : decode jdk_42_method_66_code 55 = .ok (.ireturn, 1) := by decide +kernel
theorem ef_rm11 (m : MethodId) (x0 : Addr) (x1 : Addr) : entryFrame m #[(.ref x0), (.ref x1)] 3 = mkF m 0 #[.val (.ref x0), .val (.ref x1), .unset] [] := by first | (simp [entryFrame, mkF, argsToLocals, Value.category]; done) | rfl
set_option maxRecDepth 65536 in
set_option maxHeartbeats 40000000 in
theorem rm11 (l : Launch) (Z : State) (a0 : Array Value) (hw : ∀ d ∈ tables_1, d.before a0 Z = true) (hE : EW Z a0 own_EL) (ws : List Jvm.Cond) (r0 : Addr) (r1 : Addr) (h0 : Heap) (n0 : Nat) (O0 : Old Z n0 h0) (t u : Addr) (cs ds : List Int32) (hc : Lat cs) (hd : Lat ds) (S0 : StrL Z h0 r0 t cs) (S1 : StrL Z h0 r1 u ds) (zc : Int32) (hzc : ¬ zc = 0) (S_compact : Sta Z Z.heap "java/lang/String" "COMPACT_STRINGS" "Z" (.int zc)) :
    Ctr False l Z own_EL (⟨"java/lang/String", "equals", "(Ljava/lang/Object;)Z"⟩ : MethodName) jdk_42_method_66_code 3 (some .boolean) ws ({ frames := 1, cells := 0, slots := 0, locals := 14 } : Room) n0 ([]) #[(.ref r0), (.ref r1)] h0 (Rt (fun w h g => w = .int (if cs = ds then 1 else 0) ∧ h0 = h)) := by
  refine Ctr.of (plainFor_of_name pn_java_lang_String) hE (fun m => ef_rm11 m r0 r1) ?_
  intro p e s m below meth c T0 X0
  have Z0 : Keep h0 h0 [] := Keep.refl _ _
  refine OwnW.aloadN X0 (n := 1) d11_0 rfl rfl rfl ?_
  refine OwnW.aloadN X0 (n := 2) d11_1 rfl rfl rfl ?_
  refine OwnW.ac_ne X0 (n1 := 7) (n2 := 5) d11_2 rfl rfl (by decide) rfl rfl (fun hc2 => ?_) (fun hc2 => ?_)
  · refine OwnW.aloadN X0 (n := 8) d11_7 rfl rfl rfl ?_
    refine OwnW.instanceofY X0 (n := 11) d11_8 (hw _ (List.mem_of_getElem? (i := 66) rfl)) (Ins.self S1.1) rfl ?_
    intro T1 X1
    refine OwnW.if_eq X1  (n1 := 54) (n2 := 14) d11_11 (by decide) rfl rfl (fun q => absurd q ((by decide) : ¬ (1 : Int32) = 0)) (fun _ => ?_)
    refine OwnW.aloadN X1 (n := 15) d11_14 rfl rfl rfl ?_
    refine OwnW.checkcast X1 (n := 18) d11_15 (hw _ (List.mem_of_getElem? (i := 66) rfl)) (Ins.self S1.1) rfl ?_
    intro T2 X2
    refine OwnW.astoreN X2 (l' := #[.val (.ref r0), .val (.ref r1), .val (.ref r1)]) (n := 19) d11_18 rfl rfl rfl ?_
    refine OwnW.getstatic X2 (n := 22) d11_19 (hw _ (List.mem_of_getElem? (i := 22) rfl)) Via.refl (S_compact.ext O0.2) rfl ?_
    intro T3 X3
    refine OwnW.if_eq X3  (n1 := 36) (n2 := 25) d11_22 (by decide) rfl rfl (fun q => absurd q (hzc : ¬ zc = 0)) (fun _ => ?_)
    refine OwnW.aloadN X3 (n := 26) d11_25 rfl rfl rfl ?_
    refine OwnW.getfield X3 (n := 29) d11_26 (hw _ (List.mem_of_getElem? (i := 34) rfl)) Via.refl S0.2.1 rfl ?_
    intro T4 X4
    refine OwnW.aloadN X4 (n := 30) d11_29 rfl rfl rfl ?_
    refine OwnW.getfield X4 (n := 33) d11_30 (hw _ (List.mem_of_getElem? (i := 34) rfl)) Via.refl S1.2.1 rfl ?_
    intro T5 X5
    refine OwnW.ic_ne X5  (n1 := 54) (n2 := 36) d11_33 (by decide) rfl rfl (fun q => absurd ((by decide) : (0 : Int32) = (0 : Int32)) q) (fun _ => ?_)
    refine OwnW.aloadN X5 (n := 37) d11_36 rfl rfl rfl ?_
    refine OwnW.getfield X5 (n := 40) d11_37 (hw _ (List.mem_of_getElem? (i := 36) rfl)) Via.refl S0.2.2.1 rfl ?_
    intro T6 X6
    refine OwnW.aloadN X6 (n := 41) d11_40 rfl rfl rfl ?_
    refine OwnW.getfield X6 (n := 44) d11_41 (hw _ (List.mem_of_getElem? (i := 36) rfl)) Via.refl S1.2.2.1 rfl ?_
    intro T7 X7
    refine OwnW.call_static_v X7 (z := (⟨"java/lang/StringLatin1", "equals", "([B[B)Z"⟩ : MethodName)) (n := 47) d11_44 (hw _ (List.mem_of_getElem? (i := 67) rfl)) (hw _ (List.mem_of_getElem? (i := 68) rfl)) (hw _ (List.mem_of_getElem? (i := 70) rfl)) (hw _ (List.mem_of_getElem? (i := 69) rfl)) (by decide) (rm12 l Z a0 hw hE [] t u h0 n0 (cs.map lo8) (ds.map lo8) S0.2.2.2 S1.2.2.2) OwnW.sf0 (argsL := [(.ref t), (.ref u)]) (rest := []) rfl rfl (OwnW.lenA pd___B_B_Z rfl) (W := 0) (Nat.le_of_eq rfl) (by decide) (by decide) (by decide) (by decide) rfl ?_
    intro T8 h8 w8 g8 hle8 X8 ⟨q1, q2⟩
    subst q1 q2
    refine OwnW.if_eq X8  (n1 := 54) (n2 := 50) d11_47 (by decide) rfl rfl (fun hc47 => ?_) (fun hc47 => ?_)
    · refine OwnW.iconst X8 (z := (0 : Int32)) (n := 55) d11_54 rfl rfl ?_
      exact OwnW.ireturn X8 rfl (Or.inr (Or.inl rfl)) rfl d11_55 ⟨by simp only [own_map_iff hc hd] at hc47; split <;> simp_all, rfl⟩ (by decide) (by decide)
    · refine OwnW.iconst X8 (z := (1 : Int32)) (n := 51) d11_50 rfl rfl ?_
      refine OwnW.goto X8 (n := 55) d11_51 (by decide) rfl ?_
      exact OwnW.ireturn X8 rfl (Or.inr (Or.inl rfl)) rfl d11_55 ⟨by simp only [own_map_iff hc hd] at hc47; split <;> simp_all, rfl⟩ (by decide) (by decide)
  · refine OwnW.iconst X0 (z := (1 : Int32)) (n := 6) d11_5 rfl rfl ?_
    exact OwnW.ireturn X0 rfl (Or.inr (Or.inl rfl)) rfl d11_6 ⟨by cases hc2; rw [if_pos (own_map_inj hc hd (S0.eq S1))], rfl⟩ (by decide) (by decide)
theorem ef_rm11n (m : MethodId) (x0 : Addr) : entryFrame m #[(.ref x0), .null] 3 = mkF m 0 #[.val (.ref x0), .val .null, .unset] [] := by first | (simp [entryFrame, mkF, argsToLocals, Value.category]; done) | rfl
set_option maxRecDepth 65536 in
set_option maxHeartbeats 40000000 in
theorem rm11n (l : Launch) (Z : State) (a0 : Array Value) (hw : ∀ d ∈ tables_1, d.before a0 Z = true) (hE : EW Z a0 own_EL) (ws : List Jvm.Cond) (r0 : Addr) (h0 : Heap) (n0 : Nat)  :
    Ctr False l Z own_EL (⟨"java/lang/String", "equals", "(Ljava/lang/Object;)Z"⟩ : MethodName) jdk_42_method_66_code 3 (some .boolean) ws ({ frames := 0, cells := 0, slots := 0, locals := 0 } : Room) n0 ([]) #[(.ref r0), .null] h0 (Rt (fun w h g => w = .int 0 ∧ h0 = h)) := by
  refine Ctr.of (plainFor_of_name pn_java_lang_String) hE (fun m => ef_rm11n m r0) ?_
  intro p e s m below meth c T0 X0
  refine OwnW.aloadN X0 (n := 1) d11_0 rfl rfl rfl ?_
  refine OwnW.aloadN X0 (n := 2) d11_1 rfl rfl rfl ?_
  refine OwnW.ac_ne X0 (n1 := 7) (n2 := 5) d11_2 rfl rfl (by decide) rfl rfl (fun _ => ?_) (fun q => absurd q ((fun q => by cases q) : ¬ ((.ref r0) : Value) = .null))
  refine OwnW.aloadN X0 (n := 8) d11_7 rfl rfl rfl ?_
  refine OwnW.instanceofNull X0 (n := 11) d11_8 rfl ?_
  refine OwnW.if_eq X0  (n1 := 54) (n2 := 14) d11_11 (by decide) rfl rfl (fun _ => ?_) (fun q => absurd ((by decide) : (0 : Int32) = 0) q)
  refine OwnW.iconst X0 (z := (0 : Int32)) (n := 55) d11_54 rfl rfl ?_
  exact OwnW.ireturn X0 rfl (Or.inr (Or.inl rfl)) rfl d11_55 ⟨rfl, rfl⟩ (by decide) (by decide)
theorem d4_0 : decode jdk_42_method_149_code 0 = .ok (.aload_n 0, 1) := by decide +kernel
theorem d4_1 : decode jdk_42_method_149_code 1 = .ok (.invokespecial 1, 3) := by decide +kernel
theorem d4_4 : decode jdk_42_method_149_code 4 = .ok (.iload_n 3, 1) := by decide +kernel
theorem d4_5 : decode jdk_42_method_149_code 5 = .ok (.ifCond .ne 22, 3) := by decide +kernel
theorem d4_8 : decode jdk_42_method_149_code 8 = .ok (.aload_n 0, 1) := by decide +kernel
theorem d4_9 : decode jdk_42_method_149_code 9 = .ok (.ldc 7, 2) := by decide +kernel
theorem d4_11 : decode jdk_42_method_149_code 11 = .ok (.getfield 9, 3) := by decide +kernel
theorem d4_14 : decode jdk_42_method_149_code 14 = .ok (.putfield 9, 3) := by decide +kernel
theorem d4_17 : decode jdk_42_method_149_code 17 = .ok (.aload_n 0, 1) := by decide +kernel
theorem d4_18 : decode jdk_42_method_149_code 18 = .ok (.ldc 7, 2) := by decide +kernel
theorem d4_20 : decode jdk_42_method_149_code 20 = .ok (.getfield 15, 3) := by decide +kernel
theorem d4_23 : decode jdk_42_method_149_code 23 = .ok (.putfield 15, 3) := by decide +kernel
theorem d4_26 : decode jdk_42_method_149_code 26 = .ok (.return_, 1) := by decide +kernel
theorem ef_rm4e (m : MethodId) (x0 : Addr) (x1 : Addr) : entryFrame m #[(.ref x0), (.ref x1), (.int (0 : Int32)), (.int (0 : Int32)), .null] 6 = mkF m 0 #[.val (.ref x0), .val (.ref x1), .val (.int (0 : Int32)), .val (.int (0 : Int32)), .val .null, .unset] [] := by first | (simp [entryFrame, mkF, argsToLocals, Value.category]; done) | rfl
set_option maxRecDepth 65536 in
set_option maxHeartbeats 40000000 in
theorem rm4e (l : Launch) (Z : State) (a0 : Array Value) (hw : ∀ d ∈ tables_1, d.before a0 Z = true) (hE : EW Z a0 own_EL) (ws : List Jvm.Cond) (r0 : Addr) (r1 : Addr) (h0 : Heap) (n0 : Nat) (O0 : Old Z n0 h0) (sfx : List Addr) (ge_r0 : n0 ≤ r0) (E0 : Exa Z h0 r0 "java/lang/String") (v1 v2 : Value) (F1 : Fld Z h0 r0 "java/lang/String" "value" "[B" v1) (F2 : Fld Z h0 r0 "java/lang/String" "coder" "B" v2) :
    Ctr False l Z own_EL (⟨"java/lang/String", "<init>", "([CIILjava/lang/Void;)V"⟩ : MethodName) jdk_42_method_149_code 6 none ws ({ frames := 1, cells := 4, slots := 8, locals := 12 } : Room) n0 (r0 :: sfx) #[(.ref r0), (.ref r1), (.int (0 : Int32)), (.int (0 : Int32)), .null] h0 (Rn (fun h g => Keep h0 h [r0] ∧ ∃ t, (∀ y ∈ sfx, y ≠ t) ∧ StrL Z h r0 t [])) := by
  refine Ctr.of (plainFor_of_name pn_java_lang_String) hE (fun m => ef_rm4e m r0 r1) ?_
  intro p e s m below meth c T0 X0
  have Z0 : Keep h0 h0 [r0] := Keep.refl _ _
  refine OwnW.aloadN X0 (n := 1) d4_0 rfl rfl rfl ?_
  refine OwnW.initObj X0 (W := 0) (n := 4) d4_1 (hw _ (List.mem_of_getElem? (i := 19) rfl)) (hw _ (List.mem_of_getElem? (i := 20) rfl)) (hw _ (List.mem_of_getElem? (i := 21) rfl)) rfl (by decide) (by decide) (by decide) rfl ?_
  intro T1 X1
  refine OwnW.iloadN X1 (n := 5) d4_4 rfl rfl ?_
  refine OwnW.if_ne X1  (n1 := 27) (n2 := 8) d4_5 (by decide) rfl rfl (fun q => absurd ((by decide) : (0 : Int32) = 0) q) (fun _ => ?_)
  refine OwnW.aloadN X1 (n := 9) d4_8 rfl rfl rfl ?_
  refine OwnW.ldcS X1 (bs := []) (nn := 0) (text := "") (n := 11) d4_9 (hw _ (List.mem_of_getElem? (i := 71) rfl)) (fun d hd => hw d ((by decide +kernel : ∀ d ∈ Bundle.stringAtoms, d ∈ tables_1) d hd)) (by decide) ⟨by decide, rfl⟩ (by decide) (by decide) (by decide) (by decide) (by decide) rfl ?_
  intro T2 h2 l2 t2 X2 E2 e2 c2 v2 a2 n2
  have K2 := (OwnW.kExt E2)
  have O2 := O0.keep K2 all0
  have Z2 : Keep h0 h2 [r0] := Z0.trans K2 (fun x hx => nomatch hx)
  obtain ⟨nl2, nt2⟩ := n2 r0 (List.mem_cons_self ..)
  have nx2 : ∀ y ∈ sfx, y ≠ t2 := fun y hx => (n2 y (List.mem_cons_of_mem _ hx)).2
  refine OwnW.getfield X2 (n := 14) d4_11 (hw _ (List.mem_of_getElem? (i := 36) rfl)) Via.refl v2 rfl ?_
  intro T3 X3
  have fk4 := (F1.keep K2 nin0)
  have fk5 := (E0.keep K2)
  refine OwnW.putfield X3 (ty := (.array .byte)) (v' := (.ref t2)) (n := 17) d4_14 (hw _ (List.mem_of_getElem? (i := 36) rfl)) Via.refl fk4 fk5 (Or.inr ⟨(hw _ (List.mem_of_getElem? (i := 37) rfl)), rfl, rfl⟩) (hw _ (List.mem_of_getElem? (i := 10) rfl)) (by decide) rfl rfl ge_r0 (List.mem_cons_self ..) rfl ?_
  intro T6 h6 X6 W6 Fw6
  have fk7 := (F2.keep K2 nin0)
  have fk8 := fk7.other W6 (Or.inr (slot_ne (Or.inr (hw _ (List.mem_of_getElem? (i := 35) rfl))) (Or.inr (hw _ (List.mem_of_getElem? (i := 37) rfl))) (by decide) (t := .byte) (t' := (.array .byte)) (by decide) (by decide)))
  have K6 := (Keep.of_wr W6)
  have O6 := O2.keep K6 (allS ge_r0 all0)
  have Z6 : Keep h0 h6 [r0] := Z2.trans K6 (allS (P := fun x => x ∈ [r0] ∨ h0.size ≤ x) (Or.inl (List.mem_of_getElem? (i := 0) rfl)) all0)
  refine OwnW.aloadN X6 (n := 18) d4_17 rfl rfl rfl ?_
  refine OwnW.ldcS X6 (bs := []) (nn := 0) (text := "") (n := 20) d4_18 (hw _ (List.mem_of_getElem? (i := 71) rfl)) (fun d hd => hw d ((by decide +kernel : ∀ d ∈ Bundle.stringAtoms, d ∈ tables_1) d hd)) (by decide) ⟨by decide, rfl⟩ (by decide) (by decide) (by decide) (by decide) (by decide) rfl ?_
  intro T9 h9 l9 t9 X9 E9 e9 c9 v9 a9 n9
  have K9 := (OwnW.kExt E9)
  have O9 := O6.keep K9 all0
  have Z9 : Keep h0 h9 [r0] := Z6.trans K9 (fun x hx => nomatch hx)
  obtain ⟨nl9, nt9⟩ := n9 r0 (List.mem_cons_self ..)
  have nx9 : ∀ y ∈ sfx, y ≠ t9 := fun y hx => (n9 y (List.mem_cons_of_mem _ hx)).2
  refine OwnW.getfield X9 (n := 23) d4_20 (hw _ (List.mem_of_getElem? (i := 34) rfl)) Via.refl c9 rfl ?_
  intro T10 X10
  have fk11 := (fk8.keep K9 nin0)
  have fk12 := ((fk5.keep K6).keep K9)
  refine OwnW.putfield X10 (ty := .byte) (v' := (.int (0 : Int32))) (n := 26) d4_23 (hw _ (List.mem_of_getElem? (i := 34) rfl)) Via.refl fk11 fk12 (Or.inr ⟨(hw _ (List.mem_of_getElem? (i := 35) rfl)), rfl, rfl⟩) (hw _ (List.mem_of_getElem? (i := 10) rfl)) (by decide) rfl rfl ge_r0 (List.mem_cons_self ..) rfl ?_
  intro T13 h13 X13 W13 Fw13
  have fk14 := (Fw6.keep K9 nin0)
  have fk15 := fk14.other W13 (Or.inr (slot_ne (Or.inr (hw _ (List.mem_of_getElem? (i := 37) rfl))) (Or.inr (hw _ (List.mem_of_getElem? (i := 35) rfl))) (by decide) (t := (.array .byte)) (t' := .byte) (by decide) (by decide)))
  have K13 := (Keep.of_wr W13)
  have O13 := O9.keep K13 (allS ge_r0 all0)
  have Z13 : Keep h0 h13 [r0] := Z9.trans K13 (allS (P := fun x => x ∈ [r0] ∨ h0.size ≤ x) (Or.inl (List.mem_of_getElem? (i := 0) rfl)) all0)
  have fk16 := (fk12.keep K13)
  have fk17 := (((a2.keep K6 (ninS (Ne.symm nt2) nin0)).keep K9 nin0).keep K13 (ninS (Ne.symm nt2) nin0))
  exact OwnW.vreturn X13 rfl d4_26 ⟨Z13, _, nx2, fk16, Fw13, fk15, fk17⟩ (by decide) (by decide)
theorem pd___CIILjava_lang_Void__V : parseMethodDescriptor "([CIILjava/lang/Void;)V" = some ⟨[(.array .char), .int, .int, (.object "java/lang/Void")], none⟩ := by decide +kernel
theorem d3_0 : decode jdk_42_method_3_code 0 = .ok (.aload_n 0, 1) := by decide +kernel
theorem d3_1 : decode jdk_42_method_3_code 1 = .ok (.aload_n 1, 1) := by decide +kernel
theorem d3_2 : decode jdk_42_method_3_code 2 = .ok (.iconst 0, 1) := by decide +kernel
theorem d3_3 : decode jdk_42_method_3_code 3 = .ok (.aload_n 1, 1) := by decide +kernel
theorem d3_4 : decode jdk_42_method_3_code 4 = .ok (.arraylength, 1) := by decide +kernel
theorem d3_5 : decode jdk_42_method_3_code 5 = .ok (.aconst_null, 1) := by decide +kernel
theorem d3_6 : decode jdk_42_method_3_code 6 = .ok (.invokespecial 27, 3) := by decide +kernel
theorem d3_9 : decode jdk_42_method_3_code 9 = .ok (.return_, 1) := by decide +kernel
theorem ef_rm3e (m : MethodId) (x0 : Addr) (x1 : Addr) : entryFrame m #[(.ref x0), (.ref x1)] 2 = mkF m 0 #[.val (.ref x0), .val (.ref x1)] [] := by first | (simp [entryFrame, mkF, argsToLocals, Value.category]; done) | rfl
set_option maxRecDepth 65536 in
set_option maxHeartbeats 40000000 in
theorem rm3e (l : Launch) (Z : State) (a0 : Array Value) (hw : ∀ d ∈ tables_1, d.before a0 Z = true) (hE : EW Z a0 own_EL) (ws : List Jvm.Cond) (r0 : Addr) (r1 : Addr) (h0 : Heap) (n0 : Nat) (O0 : Old Z n0 h0) (sfx : List Addr) (ge_r0 : n0 ≤ r0) (E0 : Exa Z h0 r0 "java/lang/String") (v1 v2 : Value) (F1 : Fld Z h0 r0 "java/lang/String" "value" "[B" v1) (F2 : Fld Z h0 r0 "java/lang/String" "coder" "B" v2) (A1 : Ark Z h0 r1 .char []) :
    Ctr False l Z own_EL (⟨"java/lang/String", "<init>", "([C)V"⟩ : MethodName) jdk_42_method_3_code 2 none ws ({ frames := 2, cells := 4, slots := 8, locals := 29 } : Room) n0 (r0 :: sfx) #[(.ref r0), (.ref r1)] h0 (Rn (fun h g => Keep h0 h [r0] ∧ ∃ t, (∀ y ∈ sfx, y ≠ t) ∧ StrL Z h r0 t [])) := by
  refine Ctr.of (plainFor_of_name pn_java_lang_String) hE (fun m => ef_rm3e m r0 r1) ?_
  intro p e s m below meth c T0 X0
  have Z0 : Keep h0 h0 [r0] := Keep.refl _ _
  refine OwnW.aloadN X0 (n := 1) d3_0 rfl rfl rfl ?_
  refine OwnW.aloadN X0 (n := 2) d3_1 rfl rfl rfl ?_
  refine OwnW.iconst X0 (z := (0 : Int32)) (n := 3) d3_2 rfl rfl ?_
  refine OwnW.aloadN X0 (n := 4) d3_3 rfl rfl rfl ?_
  refine OwnW.arraylength X0 (z := (0 : Int32)) (n := 5) d3_4 A1 rfl rfl ?_
  refine OwnW.anull X0 (n := 6) d3_5 rfl ?_
  refine OwnW.call_special_n X0 (z := (⟨"java/lang/String", "<init>", "([CIILjava/lang/Void;)V"⟩ : MethodName)) (a := r0) (n := 9) d3_6 (hw _ (List.mem_of_getElem? (i := 15) rfl)) (hw _ (List.mem_of_getElem? (i := 16) rfl)) (hw _ (List.mem_of_getElem? (i := 18) rfl)) (hw _ (List.mem_of_getElem? (i := 11) rfl)) rfl rfl (by decide) (rm4e l Z a0 hw hE [] r0 r1 h0 n0 O0 sfx ge_r0 E0 v1 v2 F1 F2) (OwnW.sfS (List.mem_cons_self ..) (fun x hx => (List.mem_cons_of_mem _ hx))) (argsL := [(.ref r1), (.int (0 : Int32)), (.int (0 : Int32)), .null]) (rest := []) rfl rfl (OwnW.lenA pd___CIILjava_lang_Void__V rfl) (W := 0) (Nat.le_of_eq rfl) (by decide) (by decide) (by decide) (by decide) rfl ?_
  intro T1 h1 g1 hle1 X1 qq1
  exact OwnW.vreturn X1 rfl d3_9 qq1 (by decide) (by decide)
theorem pn_java_lang_StringUTF16 : plainName "java/lang/StringUTF16" = true := by first | (simp [plainName, overriddenIn]; done) | decide +kernel
theorem d7_0 : decode jdk_52_method_21_code 0 = .ok (.iconst 0, 1) := by decide +kernel
theorem d7_1 : decode jdk_52_method_21_code 1 = .ok (.istore 5, 2) := by decide +kernel
theorem d7_3 : decode jdk_52_method_21_code 3 = .ok (.iload 5, 2) := by decide +kernel
theorem d7_5 : decode jdk_52_method_21_code 5 = .ok (.iload 4, 2) := by decide +kernel
theorem d7_7 : decode jdk_52_method_21_code 7 = .ok (.if_icmp .ge 37, 3) := by decide +kernel
theorem d7_10 : decode jdk_52_method_21_code 10 = .ok (.aload_n 0, 1) := by decide +kernel
theorem d7_11 : decode jdk_52_method_21_code 11 = .ok (.iload_n 1, 1) := by decide +kernel
theorem d7_12 : decode jdk_52_method_21_code 12 = .ok (.caload, 1) := by decide +kernel
theorem d7_13 : decode jdk_52_method_21_code 13 = .ok (.istore 6, 2) := by decide +kernel
theorem d7_15 : decode jdk_52_method_21_code 15 = .ok (.iload 6, 2) := by decide +kernel
theorem d7_17 : decode jdk_52_method_21_code 17 = .ok (.sipush 255, 3) := by decide +kernel
theorem d7_20 : decode jdk_52_method_21_code 20 = .ok (.if_icmp .le 6, 3) := by decide +kernel
theorem d7_26 : decode jdk_52_method_21_code 26 = .ok (.aload_n 2, 1) := by decide +kernel
theorem d7_27 : decode jdk_52_method_21_code 27 = .ok (.iload_n 3, 1) := by decide +kernel
theorem d7_28 : decode jdk_52_method_21_code 28 = .ok (.iload 6, 2) := by decide +kernel
theorem d7_30 : decode jdk_52_method_21_code 30 = .ok (.i2b, 1) := by decide +kernel
theorem d7_31 : decode jdk_52_method_21_code 31 = .ok (.bastore, 1) := by decide +kernel
theorem d7_32 : decode jdk_52_method_21_code 32 = .ok (.iinc 1 1, 3) := by decide +kernel
theorem d7_35 : decode jdk_52_method_21_code 35 = .ok (.iinc 3 1, 3) := by decide +kernel
theorem d7_38 : decode jdk_52_method_21_code 38 = .ok (.iinc 5 1, 3) := by decide +kernel
theorem d7_41 : decode jdk_52_method_21_code 41 = .ok (.goto (-38), 3) := by decide +kernel
theorem d7_44 : decode jdk_52_method_21_code 44 = .ok (.iload 4, 2) := by decide +kernel
theorem d7_46 : decode jdk_52_method_21_code 46 = .ok (.ireturn, 1) := by decide +kernel
theorem ef_rm7 (m : MethodId) (x0 : Addr) (x2 : Addr) (x4 : Int32) : entryFrame m #[(.ref x0), (.int (0 : Int32)), (.ref x2), (.int (0 : Int32)), (.int x4)] 7 = mkF m 0 #[.val (.ref x0), .val (.int (0 : Int32)), .val (.ref x2), .val (.int (0 : Int32)), .val (.int x4), .unset, .unset] [] := by first | (simp [entryFrame, mkF, argsToLocals, Value.category]; done) | rfl
set_option maxRecDepth 65536 in
set_option maxHeartbeats 40000000 in
theorem rm7 (l : Launch) (Z : State) (a0 : Array Value) (hw : ∀ d ∈ tables_1, d.before a0 Z = true) (hE : EW Z a0 own_EL) (ws : List Jvm.Cond) (r0 : Addr) (r2 : Addr) (h0 : Heap) (n0 : Nat) (O0 : Old Z n0 h0) (cs : List Int32) (hp : ∀ c ∈ cs, ¬ 255 < c) (A0 : Ark Z h0 r0 .char (cs.map Value.int)) (A2 : Ark Z h0 r2 .byte (List.replicate cs.length (.int 0))) (ge_r2 : n0 ≤ r2) (ne02 : r0 ≠ r2) :
    Ctr False l Z own_EL (⟨"java/lang/StringUTF16", "compress", "([CI[BII)I"⟩ : MethodName) jdk_52_method_21_code 7 (some .int) ws ({ frames := 0, cells := 0, slots := 0, locals := 0 } : Room) n0 (r2 :: []) #[(.ref r0), (.int (0 : Int32)), (.ref r2), (.int (0 : Int32)), (.int (Int32.ofNat cs.length))] h0 (Rt (fun w h g => w = .int (Int32.ofNat cs.length) ∧ Keep h0 h [r2] ∧ Ark Z h r2 .byte ((cs.map lo8).map Value.int))) := by
  refine Ctr.of (plainFor_of_name pn_java_lang_StringUTF16) hE (fun m => ef_rm7 m r0 r2 (Int32.ofNat cs.length)) ?_
  intro p e s m below meth c T0 X0
  have Z0 : Keep h0 h0 [r2] := Keep.refl _ _
  refine OwnW.iconst X0 (z := (0 : Int32)) (n := 1) d7_0 rfl rfl ?_
  refine OwnW.istore X0 (l' := #[.val (.ref r0), .val (.int (0 : Int32)), .val (.ref r2), .val (.int (0 : Int32)), .val (.int (Int32.ofNat cs.length)), .val (.int (0 : Int32)), .unset]) (n := 3) d7_1 rfl rfl ?_
  have hl : cs.length < 2147483648 := by simpa using A0.len
  refine OwnW.loopT X0 (fun (v : Nat × Slot) h' => v.1 ≤ cs.length ∧ One v.2 ∧ Keep h0 h' [r2] ∧ Ark Z h' r2 .byte (own_dst cs v.1)) (fun v => cs.length - v.1) (fun v => mkF m 3 #[.val (.ref r0), .val (.int (Int32.ofNat v.1)), .val (.ref r2), .val (.int (Int32.ofNat v.1)), .val (.int (Int32.ofNat cs.length)), .val (.int (Int32.ofNat v.1)), v.2] []) ?_ _ _ (0, .unset) X0 ⟨Nat.zero_le _, One.u, Keep.refl _ _, by rw [own_dst0]; exact A2⟩
  intro T1 h1 ⟨i, sl⟩ X1 ⟨hi, hsl, K1, A1⟩ IH
  dsimp only at hi hsl K1 A1 IH ⊢
  have hii : i < 2147483648 := by omega
  refine OwnW.iload X1 (n := 5) d7_3 rfl rfl ?_
  refine OwnW.iload X1 (n := 7) d7_5 rfl rfl ?_
  refine OwnW.ic_ge X1  (n1 := 44) (n2 := 10) d7_7 (by decide) rfl rfl (fun hc7 => ?_) (fun hc7 => ?_)
  · have hin : i = cs.length := by have := mt (own_lt hii hl).mpr hc7; omega
    subst hin
    refine OwnW.iload X1 (n := 46) d7_44 rfl rfl ?_
    exact OwnW.ireturn X1 rfl (Or.inl rfl) rfl d7_46 ⟨rfl, K1, by rw [← own_dstN]; exact A1⟩ (by decide) (by decide)
  · refine OwnW.aloadN X1 (n := 11) d7_10 rfl rfl rfl ?_
    refine OwnW.iloadN X1 (n := 12) d7_11 rfl rfl ?_
    have hlt : i < cs.length := (own_lt hii hl).mp hc7
    obtain ⟨cc, ecc⟩ : ∃ z, z = cs.getD i 0 := ⟨_, rfl⟩
    have hcc := own_get cs hlt
    rw [← ecc] at hcc
    have hp1 := hp _ (own_mem cs hlt)
    rw [← ecc] at hp1
    refine OwnW.caload X1 (i := i) (v := (.int cc)) (n := 13) d7_12 (A0.keep K1 (OwnW.nin1 ne02)) (own_nat hii) hcc rfl ?_
    refine OwnW.istore X1 (l' := #[.val (.ref r0), .val (.int (Int32.ofNat i)), .val (.ref r2), .val (.int (Int32.ofNat i)), .val (.int (Int32.ofNat cs.length)), .val (.int (Int32.ofNat i)), .val (.int cc)]) (n := 15) d7_13 (by rw [XS.store1 rfl hsl rfl]; rfl) rfl ?_
    refine OwnW.iload X1 (n := 17) d7_15 rfl rfl ?_
    refine OwnW.sipush X1 (z := (255 : Int32)) (n := 20) d7_17 rfl rfl ?_
    refine OwnW.ic_le X1  (n1 := 26) (n2 := 23) d7_20 (by decide) rfl rfl (fun _ => ?_) (fun q => absurd q (hp1 : ¬ (255 : Int32) < cc))
    refine OwnW.aloadN X1 (n := 27) d7_26 rfl rfl rfl ?_
    refine OwnW.iloadN X1 (n := 28) d7_27 rfl rfl ?_
    refine OwnW.iload X1 (n := 30) d7_28 rfl rfl ?_
    refine OwnW.i2b X1 (n := 31) d7_30 rfl ?_
    refine OwnW.bastore X1 (i := i) (z := lo8 cc) (n := 32) d7_31 A1 (own_nat hii) (by rw [own_dst_len cs hi]; exact hlt) (own_narB cc) ge_r2 (List.mem_cons_self ..) rfl ?_
    intro T2 h2 X2 W2 A2'
    rw [ecc, own_dst_set cs hlt] at A2'
    refine OwnW.iinc X2 (z := (1 : Int32)) (u := (Int32.ofNat (i + 1))) (l' := #[.val (.ref r0), .val (.int (Int32.ofNat (i + 1))), .val (.ref r2), .val (.int (Int32.ofNat i)), .val (.int (Int32.ofNat cs.length)), .val (.int (Int32.ofNat i)), .val (.int cc)]) (n := 35) d7_32 rfl rfl (own_up i) rfl rfl ?_
    refine OwnW.iinc X2 (z := (1 : Int32)) (u := (Int32.ofNat (i + 1))) (l' := #[.val (.ref r0), .val (.int (Int32.ofNat (i + 1))), .val (.ref r2), .val (.int (Int32.ofNat (i + 1))), .val (.int (Int32.ofNat cs.length)), .val (.int (Int32.ofNat i)), .val (.int cc)]) (n := 38) d7_35 rfl rfl (own_up i) rfl rfl ?_
    refine OwnW.iinc X2 (z := (1 : Int32)) (u := (Int32.ofNat (i + 1))) (l' := #[.val (.ref r0), .val (.int (Int32.ofNat (i + 1))), .val (.ref r2), .val (.int (Int32.ofNat (i + 1))), .val (.int (Int32.ofNat cs.length)), .val (.int (Int32.ofNat (i + 1))), .val (.int cc)]) (n := 41) d7_38 rfl rfl (own_up i) rfl rfl ?_
    refine OwnW.goto X2 (n := 3) d7_41 (by decide) rfl ?_
    exact IH _ _ (i + 1, .val (.int cc)) (by dsimp only; omega) X2 ⟨hlt, One.val rfl, K1.wr W2 (Or.inl (List.mem_cons_self ..)), A2'⟩
theorem pd___CI_BII_I : parseMethodDescriptor "([CI[BII)I" = some ⟨[(.array .char), .int, (.array .byte), .int, .int], some .int⟩ := by decide +kernel
theorem d6_0 : decode jdk_52_method_16_code 0 = .ok (.iload_n 2, 1) := by decide +kernel
theorem d6_1 : decode jdk_52_method_16_code 1 = .ok (.newarray .byte, 2) := by decide +kernel
theorem d6_3 : decode jdk_52_method_16_code 3 = .ok (.astore_n 3, 1) := by decide +kernel
theorem d6_4 : decode jdk_52_method_16_code 4 = .ok (.aload_n 0, 1) := by decide +kernel
theorem d6_5 : decode jdk_52_method_16_code 5 = .ok (.iload_n 1, 1) := by decide +kernel
theorem d6_6 : decode jdk_52_method_16_code 6 = .ok (.aload_n 3, 1) := by decide +kernel
theorem d6_7 : decode jdk_52_method_16_code 7 = .ok (.iconst 0, 1) := by decide +kernel
theorem d6_8 : decode jdk_52_method_16_code 8 = .ok (.iload_n 2, 1) := by decide +kernel
theorem d6_9 : decode jdk_52_method_16_code 9 = .ok (.invokestatic 115, 3) := by decide +kernel
theorem d6_12 : decode jdk_52_method_16_code 12 = .ok (.istore 4, 2) := by decide +kernel
theorem d6_14 : decode jdk_52_method_16_code 14 = .ok (.iload 4, 2) := by decide +kernel
theorem d6_16 : decode jdk_52_method_16_code 16 = .ok (.iload_n 2, 1) := by decide +kernel
theorem d6_17 : decode jdk_52_method_16_code 17 = .ok (.if_icmp .eq 40, 3) := by decide +kernel
theorem d6_57 : decode jdk_52_method_16_code 57 = .ok (.aload_n 3, 1) := by decide +kernel
theorem d6_58 : decode jdk_52_method_16_code 58 = .ok (.areturn, 1) := by decide +kernel
theorem ef_rm6 (m : MethodId) (x0 : Addr) (x2 : Int32) : entryFrame m #[(.ref x0), (.int (0 : Int32)), (.int x2)] 6 = mkF m 0 #[.val (.ref x0), .val (.int (0 : Int32)), .val (.int x2), .unset, .unset, .unset] [] := by first | (simp [entryFrame, mkF, argsToLocals, Value.category]; done) | rfl
set_option maxRecDepth 65536 in
set_option maxHeartbeats 40000000 in
theorem rm6 (l : Launch) (Z : State) (a0 : Array Value) (hw : ∀ d ∈ tables_1, d.before a0 Z = true) (hE : EW Z a0 own_EL) (ws : List Jvm.Cond) (r0 : Addr) (h0 : Heap) (n0 : Nat) (O0 : Old Z n0 h0) (cs : List Int32) (hp : ∀ c ∈ cs, ¬ 255 < c) (hcap : cs.length ≤ 6) (A0 : Ark Z h0 r0 .char (cs.map Value.int)) :
    Ctr False l Z own_EL (⟨"java/lang/StringUTF16", "compress", "([CII)[B"⟩ : MethodName) jdk_52_method_16_code 6 (some (.array .byte)) ws ({ frames := 1, cells := 1, slots := 6, locals := 18 } : Room) n0 ([]) #[(.ref r0), (.int (0 : Int32)), (.int (Int32.ofNat cs.length))] h0 (Rt (fun w h g => ∃ t, w = .ref t ∧ Keep h0 h [] ∧ h0.size ≤ t ∧ Ark Z h t .byte ((cs.map lo8).map Value.int) ∧ t ∈ g)) := by
  refine Ctr.of (plainFor_of_name pn_java_lang_StringUTF16) hE (fun m => ef_rm6 m r0 (Int32.ofNat cs.length)) ?_
  intro p e s m below meth c T0 X0
  have Z0 : Keep h0 h0 [] := Keep.refl _ _
  refine OwnW.iloadN X0 (n := 1) d6_0 rfl rfl ?_
  refine OwnW.newarray X0 (len := cs.length) (cap := 6) (n := 3) d6_1 (hw _ (List.mem_of_getElem? (i := 27) rfl)) (own_nat (by omega)) hcap (by decide) (by decide) (by decide) rfl ?_
  intro T1 h1 b1 gb1 X1 E1 A1
  have ne_r0_b1 : r0 ≠ b1 := by rw [gb1]; exact Nat.ne_of_lt A0.lt
  have ge_b1 : n0 ≤ b1 := by rw [gb1]; exact OwnW.oldLe O0
  have K1 := (OwnW.kExt E1)
  have O1 := O0.keep K1 all0
  have Z1 : Keep h0 h1 [] := Z0.trans K1 (fun x hx => nomatch hx)
  have sz_b1 : h0.size ≤ b1 := by rw [gb1]; exact Z0.1
  refine OwnW.astoreN X1 (l' := #[.val (.ref r0), .val (.int (0 : Int32)), .val (.int (Int32.ofNat cs.length)), .val (.ref b1), .unset, .unset]) (n := 4) d6_3 rfl rfl rfl ?_
  refine OwnW.aloadN X1 (n := 5) d6_4 rfl rfl rfl ?_
  refine OwnW.iloadN X1 (n := 6) d6_5 rfl rfl ?_
  refine OwnW.aloadN X1 (n := 7) d6_6 rfl rfl rfl ?_
  refine OwnW.iconst X1 (z := (0 : Int32)) (n := 8) d6_7 rfl rfl ?_
  refine OwnW.iloadN X1 (n := 9) d6_8 rfl rfl ?_
  have fk2 := (A0.keep K1 nin0)
  refine OwnW.call_static_v X1 (z := (⟨"java/lang/StringUTF16", "compress", "([CI[BII)I"⟩ : MethodName)) (n := 12) d6_9 (hw _ (List.mem_of_getElem? (i := 28) rfl)) (hw _ (List.mem_of_getElem? (i := 29) rfl)) (hw _ (List.mem_of_getElem? (i := 30) rfl)) (hw _ (List.mem_of_getElem? (i := 25) rfl)) (by decide) (rm7 l Z a0 hw hE [] r0 b1 h1 n0 O1 cs hp fk2 A1 ge_b1 ne_r0_b1) (OwnW.sfS (List.mem_cons_self ..) OwnW.sf0) (argsL := [(.ref r0), (.int (0 : Int32)), (.ref b1), (.int (0 : Int32)), (.int (Int32.ofNat cs.length))]) (rest := []) rfl rfl (OwnW.lenA pd___CI_BII_I rfl) (W := 0) (Nat.le_of_eq rfl) (by decide) (by decide) (by decide) (by decide) rfl ?_
  intro T3 h3 w3 g3 hle3 X3 ⟨q1, k3, a3⟩
  subst q1
  have K3 := k3
  have O3 := O1.keep K3 (allS ge_b1 all0)
  have Z3 : Keep h0 h3 [] := Z1.trans K3 (allS (P := fun x => x ∈ [] ∨ h0.size ≤ x) (Or.inr sz_b1) all0)
  refine OwnW.istore X3 (l' := #[.val (.ref r0), .val (.int (0 : Int32)), .val (.int (Int32.ofNat cs.length)), .val (.ref b1), .val (.int (Int32.ofNat cs.length)), .unset]) (n := 14) d6_12 rfl rfl ?_
  refine OwnW.iload X3 (n := 16) d6_14 rfl rfl ?_
  refine OwnW.iloadN X3 (n := 17) d6_16 rfl rfl ?_
  refine OwnW.ic_eq X3  (n1 := 57) (n2 := 20) d6_17 (by decide) rfl rfl (fun _ => ?_) (fun q => absurd (rfl : (Int32.ofNat cs.length) = (Int32.ofNat cs.length)) q)
  refine OwnW.aloadN X3 (n := 58) d6_57 rfl rfl rfl ?_
  exact OwnW.areturn X3 rfl rfl rfl d6_58 ⟨_, rfl, Z3, sz_b1, a3, (List.mem_append_left _ (List.mem_cons_self ..))⟩ (by decide) (by decide)
theorem d8_0 : decode jdk_52_method_15_code 0 = .ok (.iload_n 1, 1) := by decide +kernel
theorem d8_1 : decode jdk_52_method_15_code 1 = .ok (.aload_n 0, 1) := by decide +kernel
theorem d8_2 : decode jdk_52_method_15_code 2 = .ok (.arraylength, 1) := by decide +kernel
theorem d8_3 : decode jdk_52_method_15_code 3 = .ok (.isub, 1) := by decide +kernel
theorem d8_4 : decode jdk_52_method_15_code 4 = .ok (.bipush 31, 2) := by decide +kernel
theorem d8_6 : decode jdk_52_method_15_code 6 = .ok (.iushr, 1) := by decide +kernel
theorem d8_7 : decode jdk_52_method_15_code 7 = .ok (.i2b, 1) := by decide +kernel
theorem d8_8 : decode jdk_52_method_15_code 8 = .ok (.ireturn, 1) := by decide +kernel
theorem ef_rm8 (m : MethodId) (x0 : Addr) (x1 : Int32) : entryFrame m #[(.ref x0), (.int x1)] 2 = mkF m 0 #[.val (.ref x0), .val (.int x1)] [] := by first | (simp [entryFrame, mkF, argsToLocals, Value.category]; done) | rfl
set_option maxRecDepth 65536 in
set_option maxHeartbeats 40000000 in
theorem rm8 (l : Launch) (Z : State) (a0 : Array Value) (hw : ∀ d ∈ tables_1, d.before a0 Z = true) (hE : EW Z a0 own_EL) (ws : List Jvm.Cond) (r0 : Addr) (h0 : Heap) (n0 : Nat) (cs : List Int32) (A0 : Ark Z h0 r0 .byte ((cs.map lo8).map Value.int)) :
    Ctr False l Z own_EL (⟨"java/lang/StringUTF16", "coderFromArrayLen", "([BI)B"⟩ : MethodName) jdk_52_method_15_code 2 (some .byte) ws ({ frames := 0, cells := 0, slots := 0, locals := 0 } : Room) n0 ([]) #[(.ref r0), (.int (Int32.ofNat cs.length))] h0 (Rt (fun w h g => w = .int 0 ∧ h0 = h)) := by
  refine Ctr.of (plainFor_of_name pn_java_lang_StringUTF16) hE (fun m => ef_rm8 m r0 (Int32.ofNat cs.length)) ?_
  intro p e s m below meth c T0 X0
  refine OwnW.iloadN X0 (n := 1) d8_0 rfl rfl ?_
  refine OwnW.aloadN X0 (n := 2) d8_1 rfl rfl rfl ?_
  refine OwnW.arraylength X0 (z := Int32.ofNat cs.length) (n := 3) d8_2 A0 (by simp) rfl ?_
  refine OwnW.isub X0 (n := 4) d8_3 rfl ?_
  refine OwnW.bipush X0 (z := (31 : Int32)) (n := 6) d8_4 rfl rfl ?_
  refine OwnW.iushr X0 (n := 7) d8_6 rfl ?_
  refine OwnW.i2b X0 (n := 8) d8_7 rfl ?_
  rw [own_c0]
  exact OwnW.ireturn X0 rfl (Or.inr (Or.inr (Or.inl rfl))) rfl d8_8 ⟨rfl, rfl⟩ (by decide) (by decide)
theorem pd___CII__B : parseMethodDescriptor "([CII)[B" = some ⟨[(.array .char), .int, .int], some (.array .byte)⟩ := by decide +kernel
theorem pd___BI_B : parseMethodDescriptor "([BI)B" = some ⟨[(.array .byte), .int], some .byte⟩ := by decide +kernel
theorem d4_27 : decode jdk_42_method_149_code 27 = .ok (.getstatic 38, 3) := by decide +kernel
theorem d4_30 : decode jdk_42_method_149_code 30 = .ok (.ifCond .eq 28, 3) := by decide +kernel
theorem d4_33 : decode jdk_42_method_149_code 33 = .ok (.aload_n 1, 1) := by decide +kernel
theorem d4_34 : decode jdk_42_method_149_code 34 = .ok (.iload_n 2, 1) := by decide +kernel
theorem d4_35 : decode jdk_42_method_149_code 35 = .ok (.iload_n 3, 1) := by decide +kernel
theorem d4_36 : decode jdk_42_method_149_code 36 = .ok (.invokestatic 177, 3) := by decide +kernel
theorem d4_39 : decode jdk_42_method_149_code 39 = .ok (.astore 5, 2) := by decide +kernel
theorem d4_41 : decode jdk_42_method_149_code 41 = .ok (.aload_n 0, 1) := by decide +kernel
theorem d4_42 : decode jdk_42_method_149_code 42 = .ok (.aload 5, 2) := by decide +kernel
theorem d4_44 : decode jdk_42_method_149_code 44 = .ok (.iload_n 3, 1) := by decide +kernel
theorem d4_45 : decode jdk_42_method_149_code 45 = .ok (.invokestatic 47, 3) := by decide +kernel
theorem d4_48 : decode jdk_42_method_149_code 48 = .ok (.putfield 15, 3) := by decide +kernel
theorem d4_51 : decode jdk_42_method_149_code 51 = .ok (.aload_n 0, 1) := by decide +kernel
theorem d4_52 : decode jdk_42_method_149_code 52 = .ok (.aload 5, 2) := by decide +kernel
theorem d4_54 : decode jdk_42_method_149_code 54 = .ok (.putfield 9, 3) := by decide +kernel
theorem d4_57 : decode jdk_42_method_149_code 57 = .ok (.return_, 1) := by decide +kernel
theorem ef_rm4 (m : MethodId) (x0 : Addr) (x1 : Addr) (x3 : Int32) : entryFrame m #[(.ref x0), (.ref x1), (.int (0 : Int32)), (.int x3), .null] 6 = mkF m 0 #[.val (.ref x0), .val (.ref x1), .val (.int (0 : Int32)), .val (.int x3), .val .null, .unset] [] := by first | (simp [entryFrame, mkF, argsToLocals, Value.category]; done) | rfl
set_option maxRecDepth 65536 in
set_option maxHeartbeats 40000000 in
theorem rm4 (l : Launch) (Z : State) (a0 : Array Value) (hw : ∀ d ∈ tables_1, d.before a0 Z = true) (hE : EW Z a0 own_EL) (ws : List Jvm.Cond) (r0 : Addr) (r1 : Addr) (h0 : Heap) (n0 : Nat) (O0 : Old Z n0 h0) (ge_r0 : n0 ≤ r0) (E0 : Exa Z h0 r0 "java/lang/String") (v1 v2 : Value) (F1 : Fld Z h0 r0 "java/lang/String" "value" "[B" v1) (F2 : Fld Z h0 r0 "java/lang/String" "coder" "B" v2) (cs : List Int32) (hp : ∀ c ∈ cs, ¬ 255 < c) (hpos : 0 < cs.length) (hcap : cs.length ≤ 6) (A1 : Ark Z h0 r1 .char (cs.map Value.int)) (ne01 : r0 ≠ r1) (zc : Int32) (hzc : ¬ zc = 0) (S_compact : Sta Z Z.heap "java/lang/String" "COMPACT_STRINGS" "Z" (.int zc)) :
    Ctr False l Z own_EL (⟨"java/lang/String", "<init>", "([CIILjava/lang/Void;)V"⟩ : MethodName) jdk_42_method_149_code 6 none ws ({ frames := 2, cells := 1, slots := 6, locals := 35 } : Room) n0 (r0 :: []) #[(.ref r0), (.ref r1), (.int (0 : Int32)), (.int (Int32.ofNat cs.length)), .null] h0 (Rn (fun h g => Keep h0 h [r0] ∧ ∃ t, h0.size ≤ t ∧ StrL Z h r0 t cs)) := by
  refine Ctr.of (plainFor_of_name pn_java_lang_String) hE (fun m => ef_rm4 m r0 r1 (Int32.ofNat cs.length)) ?_
  intro p e s m below meth c T0 X0
  have Z0 : Keep h0 h0 [r0] := Keep.refl _ _
  refine OwnW.aloadN X0 (n := 1) d4_0 rfl rfl rfl ?_
  refine OwnW.initObj X0 (W := 0) (n := 4) d4_1 (hw _ (List.mem_of_getElem? (i := 19) rfl)) (hw _ (List.mem_of_getElem? (i := 20) rfl)) (hw _ (List.mem_of_getElem? (i := 21) rfl)) rfl (by decide) (by decide) (by decide) rfl ?_
  intro T1 X1
  refine OwnW.iloadN X1 (n := 5) d4_4 rfl rfl ?_
  refine OwnW.if_ne X1  (n1 := 27) (n2 := 8) d4_5 (by decide) rfl rfl (fun _ => ?_) (fun q => absurd q ((fun q => by have z := (own_eqn (i := cs.length) (n := 0) (by omega) (by decide)).mp q; omega) : ¬ (Int32.ofNat cs.length) = 0))
  refine OwnW.getstatic X1 (n := 30) d4_27 (hw _ (List.mem_of_getElem? (i := 22) rfl)) Via.refl (S_compact.ext O0.2) rfl ?_
  intro T2 X2
  refine OwnW.if_eq X2  (n1 := 58) (n2 := 33) d4_30 (by decide) rfl rfl (fun q => absurd q (hzc : ¬ zc = 0)) (fun _ => ?_)
  refine OwnW.aloadN X2 (n := 34) d4_33 rfl rfl rfl ?_
  refine OwnW.iloadN X2 (n := 35) d4_34 rfl rfl ?_
  refine OwnW.iloadN X2 (n := 36) d4_35 rfl rfl ?_
  refine OwnW.call_static_v X2 (z := (⟨"java/lang/StringUTF16", "compress", "([CII)[B"⟩ : MethodName)) (n := 39) d4_36 (hw _ (List.mem_of_getElem? (i := 23) rfl)) (hw _ (List.mem_of_getElem? (i := 24) rfl)) (hw _ (List.mem_of_getElem? (i := 26) rfl)) (hw _ (List.mem_of_getElem? (i := 25) rfl)) (by decide) (rm6 l Z a0 hw hE [] r1 h0 n0 O0 cs hp hcap A1) OwnW.sf0 (argsL := [(.ref r1), (.int (0 : Int32)), (.int (Int32.ofNat cs.length))]) (rest := []) rfl rfl (OwnW.lenA pd___CII__B rfl) (W := 0) (Nat.le_of_eq rfl) (by decide) (by decide) (by decide) (by decide) rfl ?_
  intro T3 h3 w3 g3 hle3 X3 ⟨t3, q1, k3, z3, a3, m3⟩
  subst q1
  have ne_r0_t3 : r0 ≠ t3 := Nat.ne_of_lt (Nat.lt_of_lt_of_le E0.lt z3)
  have ne_r1_t3 : r1 ≠ t3 := Nat.ne_of_lt (Nat.lt_of_lt_of_le A1.lt z3)
  have K3 := k3
  have O3 := O0.keep K3 all0
  have Z3 : Keep h0 h3 [r0] := Z0.trans K3 (fun x hx => nomatch hx)
  have szt : h0.size ≤ t3 := Nat.le_trans Z0.1 z3
  refine OwnW.astore X3 (l' := #[.val (.ref r0), .val (.ref r1), .val (.int (0 : Int32)), .val (.int (Int32.ofNat cs.length)), .val .null, .val (.ref t3)]) (n := 41) d4_39 rfl rfl rfl ?_
  refine OwnW.aloadN X3 (n := 42) d4_41 rfl rfl rfl ?_
  refine OwnW.aload X3 (n := 44) d4_42 rfl rfl rfl ?_
  refine OwnW.iloadN X3 (n := 45) d4_44 rfl rfl ?_
  refine OwnW.call_static_v X3 (z := (⟨"java/lang/StringUTF16", "coderFromArrayLen", "([BI)B"⟩ : MethodName)) (n := 48) d4_45 (hw _ (List.mem_of_getElem? (i := 31) rfl)) (hw _ (List.mem_of_getElem? (i := 32) rfl)) (hw _ (List.mem_of_getElem? (i := 33) rfl)) (hw _ (List.mem_of_getElem? (i := 25) rfl)) (by decide) (rm8 l Z a0 hw hE [] t3 h3 n0 cs a3) OwnW.sf0 (argsL := [(.ref t3), (.int (Int32.ofNat cs.length))]) (rest := [(.ref r0)]) rfl rfl (OwnW.lenA pd___BI_B rfl) (W := 1) (Nat.le_of_eq rfl) (by decide) (by decide) (by decide) (by decide) rfl ?_
  intro T4 h4 w4 g4 hle4 X4 ⟨q1, q2⟩
  subst q1 q2
  have fk5 := (F2.keep K3 nin0)
  have fk6 := (E0.keep K3)
  refine OwnW.putfield X4 (ty := .byte) (v' := (.int (0 : Int32))) (n := 51) d4_48 (hw _ (List.mem_of_getElem? (i := 34) rfl)) Via.refl fk5 fk6 (Or.inr ⟨(hw _ (List.mem_of_getElem? (i := 35) rfl)), rfl, rfl⟩) (hw _ (List.mem_of_getElem? (i := 10) rfl)) (by decide) rfl rfl ge_r0 (List.mem_append_left _ (List.mem_append_left _ (List.mem_cons_self ..))) rfl ?_
  intro T7 h7 X7 W7 Fw7
  have fk8 := (F1.keep K3 nin0)
  have fk9 := fk8.other W7 (Or.inr (slot_ne (Or.inr (hw _ (List.mem_of_getElem? (i := 37) rfl))) (Or.inr (hw _ (List.mem_of_getElem? (i := 35) rfl))) (by decide) (t := (.array .byte)) (t' := .byte) (by decide) (by decide)))
  have K7 := (Keep.of_wr W7)
  have O7 := O3.keep K7 (allS ge_r0 all0)
  have Z7 : Keep h0 h7 [r0] := Z3.trans K7 (allS (P := fun x => x ∈ [r0] ∨ h0.size ≤ x) (Or.inl (List.mem_of_getElem? (i := 0) rfl)) all0)
  refine OwnW.aloadN X7 (n := 52) d4_51 rfl rfl rfl ?_
  refine OwnW.aload X7 (n := 54) d4_52 rfl rfl rfl ?_
  have fk10 := (fk6.keep K7)
  refine OwnW.putfield X7 (ty := (.array .byte)) (v' := (.ref t3)) (n := 57) d4_54 (hw _ (List.mem_of_getElem? (i := 36) rfl)) Via.refl fk9 fk10 (Or.inr ⟨(hw _ (List.mem_of_getElem? (i := 37) rfl)), rfl, rfl⟩) (hw _ (List.mem_of_getElem? (i := 10) rfl)) (by decide) rfl rfl ge_r0 (List.mem_append_left _ (List.mem_append_left _ (List.mem_cons_self ..))) rfl ?_
  intro T11 h11 X11 W11 Fw11
  have fk12 := Fw7.other W11 (Or.inr (slot_ne (Or.inr (hw _ (List.mem_of_getElem? (i := 35) rfl))) (Or.inr (hw _ (List.mem_of_getElem? (i := 37) rfl))) (by decide) (t := .byte) (t' := (.array .byte)) (by decide) (by decide)))
  have K11 := (Keep.of_wr W11)
  have O11 := O7.keep K11 (allS ge_r0 all0)
  have Z11 : Keep h0 h11 [r0] := Z7.trans K11 (allS (P := fun x => x ∈ [r0] ∨ h0.size ≤ x) (Or.inl (List.mem_of_getElem? (i := 0) rfl)) all0)
  have fk13 := (fk10.keep K11)
  have fk14 := ((a3.keep K7 (ninS (Ne.symm ne_r0_t3) nin0)).keep K11 (ninS (Ne.symm ne_r0_t3) nin0))
  exact OwnW.vreturn X11 rfl d4_57 ⟨Z11, _, szt, fk13, fk12, Fw11, fk14⟩ (by decide) (by decide)
theorem ef_rm3 (m : MethodId) (x0 : Addr) (x1 : Addr) : entryFrame m #[(.ref x0), (.ref x1)] 2 = mkF m 0 #[.val (.ref x0), .val (.ref x1)] [] := by first | (simp [entryFrame, mkF, argsToLocals, Value.category]; done) | rfl
set_option maxRecDepth 65536 in
set_option maxHeartbeats 40000000 in
theorem rm3 (l : Launch) (Z : State) (a0 : Array Value) (hw : ∀ d ∈ tables_1, d.before a0 Z = true) (hE : EW Z a0 own_EL) (ws : List Jvm.Cond) (r0 : Addr) (r1 : Addr) (h0 : Heap) (n0 : Nat) (O0 : Old Z n0 h0) (ge_r0 : n0 ≤ r0) (E0 : Exa Z h0 r0 "java/lang/String") (v1 v2 : Value) (F1 : Fld Z h0 r0 "java/lang/String" "value" "[B" v1) (F2 : Fld Z h0 r0 "java/lang/String" "coder" "B" v2) (cs : List Int32) (hp : ∀ c ∈ cs, ¬ 255 < c) (hpos : 0 < cs.length) (hcap : cs.length ≤ 6) (A1 : Ark Z h0 r1 .char (cs.map Value.int)) (ne01 : r0 ≠ r1) (zc : Int32) (hzc : ¬ zc = 0) (S_compact : Sta Z Z.heap "java/lang/String" "COMPACT_STRINGS" "Z" (.int zc)) :
    Ctr False l Z own_EL (⟨"java/lang/String", "<init>", "([C)V"⟩ : MethodName) jdk_42_method_3_code 2 none ws ({ frames := 3, cells := 1, slots := 6, locals := 52 } : Room) n0 (r0 :: []) #[(.ref r0), (.ref r1)] h0 (Rn (fun h g => Keep h0 h [r0] ∧ ∃ t, h0.size ≤ t ∧ StrL Z h r0 t cs)) := by
  refine Ctr.of (plainFor_of_name pn_java_lang_String) hE (fun m => ef_rm3 m r0 r1) ?_
  intro p e s m below meth c T0 X0
  have Z0 : Keep h0 h0 [r0] := Keep.refl _ _
  refine OwnW.aloadN X0 (n := 1) d3_0 rfl rfl rfl ?_
  refine OwnW.aloadN X0 (n := 2) d3_1 rfl rfl rfl ?_
  refine OwnW.iconst X0 (z := (0 : Int32)) (n := 3) d3_2 rfl rfl ?_
  refine OwnW.aloadN X0 (n := 4) d3_3 rfl rfl rfl ?_
  refine OwnW.arraylength X0 (z := (Int32.ofNat cs.length)) (n := 5) d3_4 A1 (by simp) rfl ?_
  refine OwnW.anull X0 (n := 6) d3_5 rfl ?_
  refine OwnW.call_special_n X0 (z := (⟨"java/lang/String", "<init>", "([CIILjava/lang/Void;)V"⟩ : MethodName)) (a := r0) (n := 9) d3_6 (hw _ (List.mem_of_getElem? (i := 15) rfl)) (hw _ (List.mem_of_getElem? (i := 16) rfl)) (hw _ (List.mem_of_getElem? (i := 18) rfl)) (hw _ (List.mem_of_getElem? (i := 11) rfl)) rfl rfl (by decide) (rm4 l Z a0 hw hE [] r0 r1 h0 n0 O0 ge_r0 E0 v1 v2 F1 F2 cs hp hpos hcap A1 ne01 zc hzc S_compact) (OwnW.sfS (List.mem_cons_self ..) OwnW.sf0) (argsL := [(.ref r1), (.int (0 : Int32)), (.int (Int32.ofNat cs.length)), .null]) (rest := []) rfl rfl (OwnW.lenA pd___CIILjava_lang_Void__V rfl) (W := 0) (Nat.le_of_eq rfl) (by decide) (by decide) (by decide) (by decide) rfl ?_
  intro T1 h1 g1 hle1 X1 qq1
  exact OwnW.vreturn X1 rfl d3_9 qq1 (by decide) (by decide)
theorem pn_com_example_beholden_beholden_policy_Sort : plainName "com/example/beholden/beholden/policy/Sort" = true := by first | (simp [plainName, overriddenIn]; done) | decide +kernel
theorem d10_0 : decode prog_74_method_1_code 0 = .ok (.getstatic 10, 3) := by decide +kernel
theorem d10_3 : decode prog_74_method_1_code 3 = .ok (.invokevirtual 14, 3) := by decide +kernel
theorem d10_6 : decode prog_74_method_1_code 6 = .ok (.checkcast 15, 3) := by decide +kernel
theorem d10_9 : decode prog_74_method_1_code 9 = .ok (.areturn, 1) := by decide +kernel
theorem ef_rm10 (m : MethodId)  : entryFrame m #[] 0 = mkF m 0 #[] [] := by first | (simp [entryFrame, mkF, argsToLocals, Value.category]; done) | rfl
set_option maxRecDepth 65536 in
set_option maxHeartbeats 40000000 in
theorem rm10 (l : Launch) (Z : State) (a0 : Array Value) (hw : ∀ d ∈ tables_1, d.before a0 Z = true) (hE : EW Z a0 own_EL) (ws : List Jvm.Cond)  (h0 : Heap) (n0 : Nat) (O0 : Old Z n0 h0) (a__VALUES : Addr) (S__VALUES : Sta Z Z.heap "com/example/beholden/beholden/policy/Sort" "$VALUES" "[Lcom/example/beholden/beholden/policy/Sort;" (.ref a__VALUES)) (E__VALUES : Exa Z Z.heap a__VALUES "[Lcom/example/beholden/beholden/policy/Sort;") (a_AGENT : Addr) (S_AGENT : Sta Z Z.heap "com/example/beholden/beholden/policy/Sort" "AGENT" "Lcom/example/beholden/beholden/policy/Sort;" (.ref a_AGENT)) (E_AGENT : Exa Z Z.heap a_AGENT "com/example/beholden/beholden/policy/Sort") (a_DATA : Addr) (S_DATA : Sta Z Z.heap "com/example/beholden/beholden/policy/Sort" "DATA" "Lcom/example/beholden/beholden/policy/Sort;" (.ref a_DATA)) (E_DATA : Exa Z Z.heap a_DATA "com/example/beholden/beholden/policy/Sort") (a_AGENT_keyword : Addr) (F_AGENT_keyword : Fld Z Z.heap a_AGENT "com/example/beholden/beholden/policy/Sort" "keyword" "Ljava/lang/String;" (.ref a_AGENT_keyword)) (E_AGENT_keyword : Exa Z Z.heap a_AGENT_keyword "java/lang/String") (F_AGENT_keyword_coder : Fld Z Z.heap a_AGENT_keyword "java/lang/String" "coder" "B" (.int (0 : Int32))) (a_AGENT_keyword_value : Addr) (F_AGENT_keyword_value : Fld Z Z.heap a_AGENT_keyword "java/lang/String" "value" "[B" (.ref a_AGENT_keyword_value)) (a_DATA_keyword : Addr) (F_DATA_keyword : Fld Z Z.heap a_DATA "com/example/beholden/beholden/policy/Sort" "keyword" "Ljava/lang/String;" (.ref a_DATA_keyword)) (E_DATA_keyword : Exa Z Z.heap a_DATA_keyword "java/lang/String") (F_DATA_keyword_coder : Fld Z Z.heap a_DATA_keyword "java/lang/String" "coder" "B" (.int (0 : Int32))) (a_DATA_keyword_value : Addr) (F_DATA_keyword_value : Fld Z Z.heap a_DATA_keyword "java/lang/String" "value" "[B" (.ref a_DATA_keyword_value)) (A__VALUES : Ark Z Z.heap a__VALUES (.object "com/example/beholden/beholden/policy/Sort") [(.ref a_AGENT), (.ref a_DATA)]) (A_AGENT_keyword_value : Ark Z Z.heap a_AGENT_keyword_value .byte [(.int (97 : Int32)), (.int (103 : Int32)), (.int (101 : Int32)), (.int (110 : Int32)), (.int (116 : Int32))]) (A_DATA_keyword_value : Ark Z Z.heap a_DATA_keyword_value .byte [(.int (100 : Int32)), (.int (97 : Int32)), (.int (116 : Int32)), (.int (97 : Int32))]) :
    Ctr False l Z own_EL (⟨"com/example/beholden/beholden/policy/Sort", "values", "()[Lcom/example/beholden/beholden/policy/Sort;"⟩ : MethodName) prog_74_method_1_code 0 (some (.array (.object "com/example/beholden/beholden/policy/Sort"))) ws ({ frames := 1, cells := 1, slots := 2, locals := 14 } : Room) n0 ([]) #[] h0 (Rt (fun w h g => ∃ b, w = .ref b ∧ Keep h0 h [] ∧ h0.size ≤ b ∧ Ark Z h b (.object "com/example/beholden/beholden/policy/Sort") [(.ref a_AGENT), (.ref a_DATA)])) := by
  refine Ctr.of (plainFor_of_name pn_com_example_beholden_beholden_policy_Sort) hE (fun m => ef_rm10 m ) ?_
  intro p e s m below meth c T0 X0
  have Z0 : Keep h0 h0 [] := Keep.refl _ _
  refine OwnW.getstatic X0 (n := 3) d10_0 (hw _ (List.mem_of_getElem? (i := 45) rfl)) Via.refl (S__VALUES.ext O0.2) rfl ?_
  intro T1 X1
  refine OwnW.clone X1 (n := 6) (W := 0) (cap := 2) (ad := "[Lcom/example/beholden/beholden/policy/Sort;") d10_3 (hw _ (List.mem_of_getElem? (i := 47) rfl)) (hw _ (List.mem_of_getElem? (i := 48) rfl)) (hw _ (List.mem_of_getElem? (i := 52) rfl)) (hw _ (List.mem_of_getElem? (i := 50) rfl)) (hw _ (List.mem_of_getElem? (i := 51) rfl)) (hw _ (List.mem_of_getElem? (i := 53) rfl)) (A__VALUES.ext O0.2) (E__VALUES.ext O0.2) rfl (by decide) (Nat.le_of_eq rfl) (by decide) (Nat.le_of_ble_eq_true rfl) (by decide) (by decide) rfl ?_
  intro T2 h2 b2 gb2 X2 E2 A2 Eb2
  have ge_b2 : n0 ≤ b2 := by rw [gb2]; exact OwnW.oldLe O0
  have K2 := (OwnW.kExt E2)
  have O2 := O0.keep K2 all0
  have Z2 : Keep h0 h2 [] := Z0.trans K2 (fun x hx => nomatch hx)
  have sz_b2 : h0.size ≤ b2 := by rw [gb2]; exact Z0.1
  refine OwnW.checkcast X2 (n := 9) d10_6 (hw _ (List.mem_of_getElem? (i := 57) rfl)) (Ins.self Eb2) rfl ?_
  intro T3 X3
  exact OwnW.areturn X3 rfl rfl rfl d10_9 ⟨_, rfl, Z2, sz_b2, A2⟩ (by decide) (by decide)
def own_agent : List Int32 := [97, 103, 101, 110, 116]
def own_data : List Int32 := [100, 97, 116, 97]
theorem own_agL : Lat own_agent := by intro c hc; simp only [own_agent, List.mem_cons, List.not_mem_nil, or_false] at hc; rcases hc with rfl | rfl | rfl | rfl | rfl <;> decide
theorem own_daL : Lat own_data := by intro c hc; simp only [own_data, List.mem_cons, List.not_mem_nil, or_false] at hc; rcases hc with rfl | rfl | rfl | rfl <;> decide
def own_take (n f0 f1 f2 f3 f4 f5 : Int32) : List Int32 := if n = 0 then [] else if n = 1 then [f0] else if n = 2 then [f0, f1] else if n = 3 then [f0, f1, f2] else if n = 4 then [f0, f1, f2, f3] else if n = 5 then [f0, f1, f2, f3, f4] else [f0, f1, f2, f3, f4, f5]
theorem own_iteN {a b : List Int32} (h : ¬ (if a = b then (1 : Int32) else 0) = 0) : b = a := by
  by_cases z : a = b
  · exact z.symm
  · exact absurd (if_neg z) h
theorem own_iteZ {a b : List Int32} (h : (if a = b then (1 : Int32) else 0) = 0) : ¬ b = a := fun z => absurd h (by rw [if_pos z.symm]; decide)
theorem own_take_lat {n f0 f1 f2 f3 f4 f5 : Int32} (h : Lat [f0, f1, f2, f3, f4, f5]) : Lat (own_take n f0 f1 f2 f3 f4 f5) := by
  have q : ∀ i, Lat (([f0, f1, f2, f3, f4, f5] : List Int32).take i) := fun i c hc => h c (List.mem_of_mem_take hc)
  unfold own_take
  split
  · exact q 0
  · split
    · exact q 1
    · split
      · exact q 2
      · split
        · exact q 3
        · split
          · exact q 4
          · split
            · exact q 5
            · exact h
theorem own_ag {n f0 f1 f2 f3 f4 f5 : Int32} (hn : n = 0 ∨ n = 1 ∨ n = 2 ∨ n = 3 ∨ n = 4 ∨ n = 5 ∨ n = 6) : own_take n f0 f1 f2 f3 f4 f5 = own_agent ↔ n = 5 ∧ f0 = 97 ∧ f1 = 103 ∧ f2 = 101 ∧ f3 = 110 ∧ f4 = 116 := by
  rcases hn with rfl | rfl | rfl | rfl | rfl | rfl | rfl <;> simp [own_take, own_agent]
theorem own_da {n f0 f1 f2 f3 f4 f5 : Int32} (hn : n = 0 ∨ n = 1 ∨ n = 2 ∨ n = 3 ∨ n = 4 ∨ n = 5 ∨ n = 6) : own_take n f0 f1 f2 f3 f4 f5 = own_data ↔ n = 4 ∧ f0 = 100 ∧ f1 = 97 ∧ f2 = 116 ∧ f3 = 97 := by
  rcases hn with rfl | rfl | rfl | rfl | rfl | rfl | rfl <;> simp [own_take, own_data]
theorem own_six {L : List Int32} (h : L.length = 6) : L = [L.getD 0 0, L.getD 1 0, L.getD 2 0, L.getD 3 0, L.getD 4 0, L.getD 5 0] := by
  match L, h with
  | [a, b, c, d, e, f], _ => rfl
theorem own_set_lat {L : List Int32} {i : Nat} {c : Int32} (h : Lat L) (hc : ¬ c < 0 ∧ ¬ 255 < c) : Lat (L.set i c) := fun x hx => by
  rcases List.mem_or_eq_of_mem_set hx with q | q
  · exact h x q
  · exact q ▸ hc
theorem own_idx (p n : Int32) (h : 0 < n) : ∃ i : Nat, ((p &&& 7) % n).toInt = i ∧ (i : Int) < n.toInt := by
  have h1 := c_and p 7 (by decide)
  have h2 : (0 : Int) < n.toInt := Int32.lt_iff_toInt_lt.mp h
  have h3 := (c_iremV (p &&& 7) n).1 h1.1 h2
  exact ⟨((p &&& 7) % n).toInt.toNat, by omega, by omega⟩
theorem own_c7 (x : Int32) : (x &&& 2147483647) % 7 = 0 ∨ (x &&& 2147483647) % 7 = 1 ∨ (x &&& 2147483647) % 7 = 2 ∨ (x &&& 2147483647) % 7 = 3 ∨ (x &&& 2147483647) % 7 = 4 ∨ (x &&& 2147483647) % 7 = 5 ∨ (x &&& 2147483647) % 7 = 6 := by
  have h1 := c_mask x 2147483647 31 (by decide) (by decide)
  have h2 := (c_irem (x &&& 2147483647) 7 7 (by decide)).1 (by rw [h1]; omega)
  have h3 : ((x &&& 2147483647) % 7).toInt = 0 ∨ ((x &&& 2147483647) % 7).toInt = 1 ∨ ((x &&& 2147483647) % 7).toInt = 2 ∨ ((x &&& 2147483647) % 7).toInt = 3 ∨ ((x &&& 2147483647) % 7).toInt = 4 ∨ ((x &&& 2147483647) % 7).toInt = 5 ∨ ((x &&& 2147483647) % 7).toInt = 6 := by omega
  rcases h3 with h | h | h | h | h | h | h
  · exact Or.inl (Int32.toInt_inj.mp h)
  · exact Or.inr (Or.inl (Int32.toInt_inj.mp h))
  · exact Or.inr (Or.inr (Or.inl (Int32.toInt_inj.mp h)))
  · exact Or.inr (Or.inr (Or.inr (Or.inl (Int32.toInt_inj.mp h))))
  · exact Or.inr (Or.inr (Or.inr (Or.inr (Or.inl (Int32.toInt_inj.mp h)))))
  · exact Or.inr (Or.inr (Or.inr (Or.inr (Or.inr (Or.inl (Int32.toInt_inj.mp h))))))
  · exact Or.inr (Or.inr (Or.inr (Or.inr (Or.inr (Or.inr ((Int32.toInt_inj.mp h)))))))
theorem pn_com_example_beholden_beholden_policy_SortOfKeywordPinLaw : plainName "com/example/beholden/beholden/policy/SortOfKeywordPinLaw" = true := by first | (simp [plainName, overriddenIn]; done) | decide +kernel
theorem d1_0 : decode method_3_code 0 = .ok (.iload_n 0, 1) := by decide +kernel
theorem d1_1 : decode method_3_code 1 = .ok (.bipush 8, 2) := by decide +kernel
theorem d1_3 : decode method_3_code 3 = .ok (.iload_n 1, 1) := by decide +kernel
theorem d1_4 : decode method_3_code 4 = .ok (.imul, 1) := by decide +kernel
theorem d1_5 : decode method_3_code 5 = .ok (.iushr, 1) := by decide +kernel
theorem d1_6 : decode method_3_code 6 = .ok (.sipush 255, 3) := by decide +kernel
theorem d1_9 : decode method_3_code 9 = .ok (.iand, 1) := by decide +kernel
theorem d1_10 : decode method_3_code 10 = .ok (.i2c, 1) := by decide +kernel
theorem d1_11 : decode method_3_code 11 = .ok (.ireturn, 1) := by decide +kernel
theorem ef_rm1 (m : MethodId) (x0 : Int32) (x1 : Int32) : entryFrame m #[(.int x0), (.int x1)] 2 = mkF m 0 #[.val (.int x0), .val (.int x1)] [] := by first | (simp [entryFrame, mkF, argsToLocals, Value.category]; done) | rfl
set_option maxRecDepth 65536 in
set_option maxHeartbeats 40000000 in
theorem rm1 (l : Launch) (Z : State) (a0 : Array Value) (hw : ∀ d ∈ tables_1, d.before a0 Z = true) (hE : EW Z a0 own_EL) (ws : List Jvm.Cond) (p0 : Int32) (p1 : Int32) (h0 : Heap) (n0 : Nat)  :
    Ctr False l Z own_EL (⟨"com/example/beholden/beholden/policy/SortOfKeywordPinLaw", "drawn", "(II)C"⟩ : MethodName) method_3_code 2 (some .char) ws ({ frames := 0, cells := 0, slots := 0, locals := 0 } : Room) n0 ([]) #[(.int p0), (.int p1)] h0 (Rt (fun w h g => ∃ z, w = .int z ∧ (¬ z < 0 ∧ ¬ 255 < z) ∧ h0 = h)) := by
  refine Ctr.of (plainFor_of_name pn_com_example_beholden_beholden_policy_SortOfKeywordPinLaw) hE (fun m => ef_rm1 m p0 p1) ?_
  intro p e s m below meth c T0 X0
  refine OwnW.iloadN X0 (n := 1) d1_0 rfl rfl ?_
  refine OwnW.bipush X0 (z := (8 : Int32)) (n := 3) d1_1 rfl rfl ?_
  refine OwnW.iloadN X0 (n := 4) d1_3 rfl rfl ?_
  refine OwnW.imul X0 (n := 5) d1_4 rfl ?_
  refine OwnW.iushr X0 (n := 6) d1_5 rfl ?_
  refine OwnW.sipush X0 (z := (255 : Int32)) (n := 9) d1_6 rfl rfl ?_
  refine OwnW.iand X0 (n := 10) d1_9 rfl ?_
  refine OwnW.i2c X0 (n := 11) d1_10 rfl ?_
  exact OwnW.ireturnN X0 rfl (Or.inr (Or.inr (Or.inl rfl))) (own_narC (own_255 _).1 (own_255 _).2) d1_11 ⟨_, rfl, own_255 _, rfl⟩ (by decide) (by decide)
theorem pd___C_V : parseMethodDescriptor "([C)V" = some ⟨[(.array .char)], none⟩ := by decide +kernel
theorem d2_0 : decode method_4_code 0 = .ok (.iload_n 1, 1) := by decide +kernel
theorem d2_1 : decode method_4_code 1 = .ok (.ifCond .ne 14, 3) := by decide +kernel
theorem d2_4 : decode method_4_code 4 = .ok (.new 31, 3) := by decide +kernel
theorem d2_7 : decode method_4_code 7 = .ok (.dup, 1) := by decide +kernel
theorem d2_8 : decode method_4_code 8 = .ok (.iconst 0, 1) := by decide +kernel
theorem d2_9 : decode method_4_code 9 = .ok (.newarray .char, 2) := by decide +kernel
theorem d2_11 : decode method_4_code 11 = .ok (.invokespecial 33, 3) := by decide +kernel
theorem d2_14 : decode method_4_code 14 = .ok (.areturn, 1) := by decide +kernel
theorem d2_15 : decode method_4_code 15 = .ok (.iload_n 1, 1) := by decide +kernel
theorem d2_16 : decode method_4_code 16 = .ok (.iconst 1, 1) := by decide +kernel
theorem d2_17 : decode method_4_code 17 = .ok (.if_icmp .ne 20, 3) := by decide +kernel
theorem d2_20 : decode method_4_code 20 = .ok (.new 31, 3) := by decide +kernel
theorem d2_23 : decode method_4_code 23 = .ok (.dup, 1) := by decide +kernel
theorem d2_24 : decode method_4_code 24 = .ok (.iconst 1, 1) := by decide +kernel
theorem d2_25 : decode method_4_code 25 = .ok (.newarray .char, 2) := by decide +kernel
theorem d2_27 : decode method_4_code 27 = .ok (.dup, 1) := by decide +kernel
theorem d2_28 : decode method_4_code 28 = .ok (.iconst 0, 1) := by decide +kernel
theorem d2_29 : decode method_4_code 29 = .ok (.aload_n 0, 1) := by decide +kernel
theorem d2_30 : decode method_4_code 30 = .ok (.iconst 0, 1) := by decide +kernel
theorem d2_31 : decode method_4_code 31 = .ok (.caload, 1) := by decide +kernel
theorem d2_32 : decode method_4_code 32 = .ok (.castore, 1) := by decide +kernel
theorem d2_33 : decode method_4_code 33 = .ok (.invokespecial 33, 3) := by decide +kernel
theorem d2_36 : decode method_4_code 36 = .ok (.areturn, 1) := by decide +kernel
theorem d2_37 : decode method_4_code 37 = .ok (.iload_n 1, 1) := by decide +kernel
theorem d2_38 : decode method_4_code 38 = .ok (.iconst 2, 1) := by decide +kernel
theorem d2_39 : decode method_4_code 39 = .ok (.if_icmp .ne 26, 3) := by decide +kernel
theorem d2_42 : decode method_4_code 42 = .ok (.new 31, 3) := by decide +kernel
theorem d2_45 : decode method_4_code 45 = .ok (.dup, 1) := by decide +kernel
theorem d2_46 : decode method_4_code 46 = .ok (.iconst 2, 1) := by decide +kernel
theorem d2_47 : decode method_4_code 47 = .ok (.newarray .char, 2) := by decide +kernel
theorem d2_49 : decode method_4_code 49 = .ok (.dup, 1) := by decide +kernel
theorem d2_50 : decode method_4_code 50 = .ok (.iconst 0, 1) := by decide +kernel
theorem d2_51 : decode method_4_code 51 = .ok (.aload_n 0, 1) := by decide +kernel
theorem d2_52 : decode method_4_code 52 = .ok (.iconst 0, 1) := by decide +kernel
theorem d2_53 : decode method_4_code 53 = .ok (.caload, 1) := by decide +kernel
theorem d2_54 : decode method_4_code 54 = .ok (.castore, 1) := by decide +kernel
theorem d2_55 : decode method_4_code 55 = .ok (.dup, 1) := by decide +kernel
theorem d2_56 : decode method_4_code 56 = .ok (.iconst 1, 1) := by decide +kernel
theorem d2_57 : decode method_4_code 57 = .ok (.aload_n 0, 1) := by decide +kernel
theorem d2_58 : decode method_4_code 58 = .ok (.iconst 1, 1) := by decide +kernel
theorem d2_59 : decode method_4_code 59 = .ok (.caload, 1) := by decide +kernel
theorem d2_60 : decode method_4_code 60 = .ok (.castore, 1) := by decide +kernel
theorem d2_61 : decode method_4_code 61 = .ok (.invokespecial 33, 3) := by decide +kernel
theorem d2_64 : decode method_4_code 64 = .ok (.areturn, 1) := by decide +kernel
theorem d2_65 : decode method_4_code 65 = .ok (.iload_n 1, 1) := by decide +kernel
theorem d2_66 : decode method_4_code 66 = .ok (.iconst 3, 1) := by decide +kernel
theorem d2_67 : decode method_4_code 67 = .ok (.if_icmp .ne 32, 3) := by decide +kernel
theorem d2_70 : decode method_4_code 70 = .ok (.new 31, 3) := by decide +kernel
theorem d2_73 : decode method_4_code 73 = .ok (.dup, 1) := by decide +kernel
theorem d2_74 : decode method_4_code 74 = .ok (.iconst 3, 1) := by decide +kernel
theorem d2_75 : decode method_4_code 75 = .ok (.newarray .char, 2) := by decide +kernel
theorem d2_77 : decode method_4_code 77 = .ok (.dup, 1) := by decide +kernel
theorem d2_78 : decode method_4_code 78 = .ok (.iconst 0, 1) := by decide +kernel
theorem d2_79 : decode method_4_code 79 = .ok (.aload_n 0, 1) := by decide +kernel
theorem d2_80 : decode method_4_code 80 = .ok (.iconst 0, 1) := by decide +kernel
theorem d2_81 : decode method_4_code 81 = .ok (.caload, 1) := by decide +kernel
theorem d2_82 : decode method_4_code 82 = .ok (.castore, 1) := by decide +kernel
theorem d2_83 : decode method_4_code 83 = .ok (.dup, 1) := by decide +kernel
theorem d2_84 : decode method_4_code 84 = .ok (.iconst 1, 1) := by decide +kernel
theorem d2_85 : decode method_4_code 85 = .ok (.aload_n 0, 1) := by decide +kernel
theorem d2_86 : decode method_4_code 86 = .ok (.iconst 1, 1) := by decide +kernel
theorem d2_87 : decode method_4_code 87 = .ok (.caload, 1) := by decide +kernel
theorem d2_88 : decode method_4_code 88 = .ok (.castore, 1) := by decide +kernel
theorem d2_89 : decode method_4_code 89 = .ok (.dup, 1) := by decide +kernel
theorem d2_90 : decode method_4_code 90 = .ok (.iconst 2, 1) := by decide +kernel
theorem d2_91 : decode method_4_code 91 = .ok (.aload_n 0, 1) := by decide +kernel
theorem d2_92 : decode method_4_code 92 = .ok (.iconst 2, 1) := by decide +kernel
theorem d2_93 : decode method_4_code 93 = .ok (.caload, 1) := by decide +kernel
theorem d2_94 : decode method_4_code 94 = .ok (.castore, 1) := by decide +kernel
theorem d2_95 : decode method_4_code 95 = .ok (.invokespecial 33, 3) := by decide +kernel
theorem d2_98 : decode method_4_code 98 = .ok (.areturn, 1) := by decide +kernel
theorem d2_99 : decode method_4_code 99 = .ok (.iload_n 1, 1) := by decide +kernel
theorem d2_100 : decode method_4_code 100 = .ok (.iconst 4, 1) := by decide +kernel
theorem d2_101 : decode method_4_code 101 = .ok (.if_icmp .ne 38, 3) := by decide +kernel
theorem d2_104 : decode method_4_code 104 = .ok (.new 31, 3) := by decide +kernel
theorem d2_107 : decode method_4_code 107 = .ok (.dup, 1) := by decide +kernel
theorem d2_108 : decode method_4_code 108 = .ok (.iconst 4, 1) := by decide +kernel
theorem d2_109 : decode method_4_code 109 = .ok (.newarray .char, 2) := by decide +kernel
theorem d2_111 : decode method_4_code 111 = .ok (.dup, 1) := by decide +kernel
theorem d2_112 : decode method_4_code 112 = .ok (.iconst 0, 1) := by decide +kernel
theorem d2_113 : decode method_4_code 113 = .ok (.aload_n 0, 1) := by decide +kernel
theorem d2_114 : decode method_4_code 114 = .ok (.iconst 0, 1) := by decide +kernel
theorem d2_115 : decode method_4_code 115 = .ok (.caload, 1) := by decide +kernel
theorem d2_116 : decode method_4_code 116 = .ok (.castore, 1) := by decide +kernel
theorem d2_117 : decode method_4_code 117 = .ok (.dup, 1) := by decide +kernel
theorem d2_118 : decode method_4_code 118 = .ok (.iconst 1, 1) := by decide +kernel
theorem d2_119 : decode method_4_code 119 = .ok (.aload_n 0, 1) := by decide +kernel
theorem d2_120 : decode method_4_code 120 = .ok (.iconst 1, 1) := by decide +kernel
theorem d2_121 : decode method_4_code 121 = .ok (.caload, 1) := by decide +kernel
theorem d2_122 : decode method_4_code 122 = .ok (.castore, 1) := by decide +kernel
theorem d2_123 : decode method_4_code 123 = .ok (.dup, 1) := by decide +kernel
theorem d2_124 : decode method_4_code 124 = .ok (.iconst 2, 1) := by decide +kernel
theorem d2_125 : decode method_4_code 125 = .ok (.aload_n 0, 1) := by decide +kernel
theorem d2_126 : decode method_4_code 126 = .ok (.iconst 2, 1) := by decide +kernel
theorem d2_127 : decode method_4_code 127 = .ok (.caload, 1) := by decide +kernel
theorem d2_128 : decode method_4_code 128 = .ok (.castore, 1) := by decide +kernel
theorem d2_129 : decode method_4_code 129 = .ok (.dup, 1) := by decide +kernel
theorem d2_130 : decode method_4_code 130 = .ok (.iconst 3, 1) := by decide +kernel
theorem d2_131 : decode method_4_code 131 = .ok (.aload_n 0, 1) := by decide +kernel
theorem d2_132 : decode method_4_code 132 = .ok (.iconst 3, 1) := by decide +kernel
theorem d2_133 : decode method_4_code 133 = .ok (.caload, 1) := by decide +kernel
theorem d2_134 : decode method_4_code 134 = .ok (.castore, 1) := by decide +kernel
theorem d2_135 : decode method_4_code 135 = .ok (.invokespecial 33, 3) := by decide +kernel
theorem d2_138 : decode method_4_code 138 = .ok (.areturn, 1) := by decide +kernel
theorem d2_139 : decode method_4_code 139 = .ok (.iload_n 1, 1) := by decide +kernel
theorem d2_140 : decode method_4_code 140 = .ok (.iconst 5, 1) := by decide +kernel
theorem d2_141 : decode method_4_code 141 = .ok (.if_icmp .ne 44, 3) := by decide +kernel
theorem d2_144 : decode method_4_code 144 = .ok (.new 31, 3) := by decide +kernel
theorem d2_147 : decode method_4_code 147 = .ok (.dup, 1) := by decide +kernel
theorem d2_148 : decode method_4_code 148 = .ok (.iconst 5, 1) := by decide +kernel
theorem d2_149 : decode method_4_code 149 = .ok (.newarray .char, 2) := by decide +kernel
theorem d2_151 : decode method_4_code 151 = .ok (.dup, 1) := by decide +kernel
theorem d2_152 : decode method_4_code 152 = .ok (.iconst 0, 1) := by decide +kernel
theorem d2_153 : decode method_4_code 153 = .ok (.aload_n 0, 1) := by decide +kernel
theorem d2_154 : decode method_4_code 154 = .ok (.iconst 0, 1) := by decide +kernel
theorem d2_155 : decode method_4_code 155 = .ok (.caload, 1) := by decide +kernel
theorem d2_156 : decode method_4_code 156 = .ok (.castore, 1) := by decide +kernel
theorem d2_157 : decode method_4_code 157 = .ok (.dup, 1) := by decide +kernel
theorem d2_158 : decode method_4_code 158 = .ok (.iconst 1, 1) := by decide +kernel
theorem d2_159 : decode method_4_code 159 = .ok (.aload_n 0, 1) := by decide +kernel
theorem d2_160 : decode method_4_code 160 = .ok (.iconst 1, 1) := by decide +kernel
theorem d2_161 : decode method_4_code 161 = .ok (.caload, 1) := by decide +kernel
theorem d2_162 : decode method_4_code 162 = .ok (.castore, 1) := by decide +kernel
theorem d2_163 : decode method_4_code 163 = .ok (.dup, 1) := by decide +kernel
theorem d2_164 : decode method_4_code 164 = .ok (.iconst 2, 1) := by decide +kernel
theorem d2_165 : decode method_4_code 165 = .ok (.aload_n 0, 1) := by decide +kernel
theorem d2_166 : decode method_4_code 166 = .ok (.iconst 2, 1) := by decide +kernel
theorem d2_167 : decode method_4_code 167 = .ok (.caload, 1) := by decide +kernel
theorem d2_168 : decode method_4_code 168 = .ok (.castore, 1) := by decide +kernel
theorem d2_169 : decode method_4_code 169 = .ok (.dup, 1) := by decide +kernel
theorem d2_170 : decode method_4_code 170 = .ok (.iconst 3, 1) := by decide +kernel
theorem d2_171 : decode method_4_code 171 = .ok (.aload_n 0, 1) := by decide +kernel
theorem d2_172 : decode method_4_code 172 = .ok (.iconst 3, 1) := by decide +kernel
theorem d2_173 : decode method_4_code 173 = .ok (.caload, 1) := by decide +kernel
theorem d2_174 : decode method_4_code 174 = .ok (.castore, 1) := by decide +kernel
theorem d2_175 : decode method_4_code 175 = .ok (.dup, 1) := by decide +kernel
theorem d2_176 : decode method_4_code 176 = .ok (.iconst 4, 1) := by decide +kernel
theorem d2_177 : decode method_4_code 177 = .ok (.aload_n 0, 1) := by decide +kernel
theorem d2_178 : decode method_4_code 178 = .ok (.iconst 4, 1) := by decide +kernel
theorem d2_179 : decode method_4_code 179 = .ok (.caload, 1) := by decide +kernel
theorem d2_180 : decode method_4_code 180 = .ok (.castore, 1) := by decide +kernel
theorem d2_181 : decode method_4_code 181 = .ok (.invokespecial 33, 3) := by decide +kernel
theorem d2_184 : decode method_4_code 184 = .ok (.areturn, 1) := by decide +kernel
theorem d2_185 : decode method_4_code 185 = .ok (.new 31, 3) := by decide +kernel
theorem d2_188 : decode method_4_code 188 = .ok (.dup, 1) := by decide +kernel
theorem d2_189 : decode method_4_code 189 = .ok (.bipush 6, 2) := by decide +kernel
theorem d2_191 : decode method_4_code 191 = .ok (.newarray .char, 2) := by decide +kernel
theorem d2_193 : decode method_4_code 193 = .ok (.dup, 1) := by decide +kernel
theorem d2_194 : decode method_4_code 194 = .ok (.iconst 0, 1) := by decide +kernel
theorem d2_195 : decode method_4_code 195 = .ok (.aload_n 0, 1) := by decide +kernel
theorem d2_196 : decode method_4_code 196 = .ok (.iconst 0, 1) := by decide +kernel
theorem d2_197 : decode method_4_code 197 = .ok (.caload, 1) := by decide +kernel
theorem d2_198 : decode method_4_code 198 = .ok (.castore, 1) := by decide +kernel
theorem d2_199 : decode method_4_code 199 = .ok (.dup, 1) := by decide +kernel
theorem d2_200 : decode method_4_code 200 = .ok (.iconst 1, 1) := by decide +kernel
theorem d2_201 : decode method_4_code 201 = .ok (.aload_n 0, 1) := by decide +kernel
theorem d2_202 : decode method_4_code 202 = .ok (.iconst 1, 1) := by decide +kernel
theorem d2_203 : decode method_4_code 203 = .ok (.caload, 1) := by decide +kernel
theorem d2_204 : decode method_4_code 204 = .ok (.castore, 1) := by decide +kernel
theorem d2_205 : decode method_4_code 205 = .ok (.dup, 1) := by decide +kernel
theorem d2_206 : decode method_4_code 206 = .ok (.iconst 2, 1) := by decide +kernel
theorem d2_207 : decode method_4_code 207 = .ok (.aload_n 0, 1) := by decide +kernel
theorem d2_208 : decode method_4_code 208 = .ok (.iconst 2, 1) := by decide +kernel
theorem d2_209 : decode method_4_code 209 = .ok (.caload, 1) := by decide +kernel
theorem d2_210 : decode method_4_code 210 = .ok (.castore, 1) := by decide +kernel
theorem d2_211 : decode method_4_code 211 = .ok (.dup, 1) := by decide +kernel
theorem d2_212 : decode method_4_code 212 = .ok (.iconst 3, 1) := by decide +kernel
theorem d2_213 : decode method_4_code 213 = .ok (.aload_n 0, 1) := by decide +kernel
theorem d2_214 : decode method_4_code 214 = .ok (.iconst 3, 1) := by decide +kernel
theorem d2_215 : decode method_4_code 215 = .ok (.caload, 1) := by decide +kernel
theorem d2_216 : decode method_4_code 216 = .ok (.castore, 1) := by decide +kernel
theorem d2_217 : decode method_4_code 217 = .ok (.dup, 1) := by decide +kernel
theorem d2_218 : decode method_4_code 218 = .ok (.iconst 4, 1) := by decide +kernel
theorem d2_219 : decode method_4_code 219 = .ok (.aload_n 0, 1) := by decide +kernel
theorem d2_220 : decode method_4_code 220 = .ok (.iconst 4, 1) := by decide +kernel
theorem d2_221 : decode method_4_code 221 = .ok (.caload, 1) := by decide +kernel
theorem d2_222 : decode method_4_code 222 = .ok (.castore, 1) := by decide +kernel
theorem d2_223 : decode method_4_code 223 = .ok (.dup, 1) := by decide +kernel
theorem d2_224 : decode method_4_code 224 = .ok (.iconst 5, 1) := by decide +kernel
theorem d2_225 : decode method_4_code 225 = .ok (.aload_n 0, 1) := by decide +kernel
theorem d2_226 : decode method_4_code 226 = .ok (.iconst 5, 1) := by decide +kernel
theorem d2_227 : decode method_4_code 227 = .ok (.caload, 1) := by decide +kernel
theorem d2_228 : decode method_4_code 228 = .ok (.castore, 1) := by decide +kernel
theorem d2_229 : decode method_4_code 229 = .ok (.invokespecial 33, 3) := by decide +kernel
theorem d2_232 : decode method_4_code 232 = .ok (.areturn, 1) := by decide +kernel
theorem ef_rm2 (m : MethodId) (x0 : Addr) (x1 : Int32) : entryFrame m #[(.ref x0), (.int x1)] 2 = mkF m 0 #[.val (.ref x0), .val (.int x1)] [] := by first | (simp [entryFrame, mkF, argsToLocals, Value.category]; done) | rfl
set_option maxRecDepth 65536 in
set_option maxHeartbeats 40000000 in
theorem rm2 (l : Launch) (Z : State) (a0 : Array Value) (hw : ∀ d ∈ tables_1, d.before a0 Z = true) (hE : EW Z a0 own_EL) (ws : List Jvm.Cond) (r0 : Addr) (p1 : Int32) (h0 : Heap) (n0 : Nat) (O0 : Old Z n0 h0) (f0 f1 f2 f3 f4 f5 : Int32) (hf : Lat [f0, f1, f2, f3, f4, f5]) (A0 : Ark Z h0 r0 .char [(.int f0), (.int f1), (.int f2), (.int f3), (.int f4), (.int f5)]) (zc : Int32) (hzc : ¬ zc = 0) (S_compact : Sta Z Z.heap "java/lang/String" "COMPACT_STRINGS" "Z" (.int zc)) :
    Ctr False l Z own_EL (⟨"com/example/beholden/beholden/policy/SortOfKeywordPinLaw", "take", "([CI)Ljava/lang/String;"⟩ : MethodName) method_4_code 2 (some (.object "java/lang/String")) ws ({ frames := 4, cells := 6, slots := 18, locals := 66 } : Room) n0 ([]) #[(.ref r0), (.int p1)] h0 (Rt (fun w h g => ∃ x t, w = .ref x ∧ Keep h0 h [] ∧ h0.size ≤ x ∧ StrL Z h x t (own_take p1 f0 f1 f2 f3 f4 f5))) := by
  refine Ctr.of (plainFor_of_name pn_com_example_beholden_beholden_policy_SortOfKeywordPinLaw) hE (fun m => ef_rm2 m r0 p1) ?_
  intro p e s m below meth c T0 X0
  have Z0 : Keep h0 h0 [] := Keep.refl _ _
  have hb0 := hf f0 (List.mem_cons_self ..)
  have hb1 := hf f1 (List.mem_cons_of_mem _ (List.mem_cons_self ..))
  have hb2 := hf f2 (List.mem_cons_of_mem _ (List.mem_cons_of_mem _ (List.mem_cons_self ..)))
  have hb3 := hf f3 (List.mem_cons_of_mem _ (List.mem_cons_of_mem _ (List.mem_cons_of_mem _ (List.mem_cons_self ..))))
  have hb4 := hf f4 (List.mem_cons_of_mem _ (List.mem_cons_of_mem _ (List.mem_cons_of_mem _ (List.mem_cons_of_mem _ (List.mem_cons_self ..)))))
  have hb5 := hf f5 (List.mem_cons_of_mem _ (List.mem_cons_of_mem _ (List.mem_cons_of_mem _ (List.mem_cons_of_mem _ (List.mem_cons_of_mem _ (List.mem_cons_self ..))))))
  refine OwnW.iloadN X0 (n := 1) d2_0 rfl rfl ?_
  refine OwnW.if_ne X0  (n1 := 15) (n2 := 4) d2_1 (by decide) rfl rfl (fun hc1 => ?_) (fun hc1 => ?_)
  · refine OwnW.iloadN X0 (n := 16) d2_15 rfl rfl ?_
    refine OwnW.iconst X0 (z := (1 : Int32)) (n := 17) d2_16 rfl rfl ?_
    refine OwnW.ic_ne X0  (n1 := 37) (n2 := 20) d2_17 (by decide) rfl rfl (fun hc17 => ?_) (fun hc17 => ?_)
    · refine OwnW.iloadN X0 (n := 38) d2_37 rfl rfl ?_
      refine OwnW.iconst X0 (z := (2 : Int32)) (n := 39) d2_38 rfl rfl ?_
      refine OwnW.ic_ne X0  (n1 := 65) (n2 := 42) d2_39 (by decide) rfl rfl (fun hc39 => ?_) (fun hc39 => ?_)
      · refine OwnW.iloadN X0 (n := 66) d2_65 rfl rfl ?_
        refine OwnW.iconst X0 (z := (3 : Int32)) (n := 67) d2_66 rfl rfl ?_
        refine OwnW.ic_ne X0  (n1 := 99) (n2 := 70) d2_67 (by decide) rfl rfl (fun hc67 => ?_) (fun hc67 => ?_)
        · refine OwnW.iloadN X0 (n := 100) d2_99 rfl rfl ?_
          refine OwnW.iconst X0 (z := (4 : Int32)) (n := 101) d2_100 rfl rfl ?_
          refine OwnW.ic_ne X0  (n1 := 139) (n2 := 104) d2_101 (by decide) rfl rfl (fun hc101 => ?_) (fun hc101 => ?_)
          · refine OwnW.iloadN X0 (n := 140) d2_139 rfl rfl ?_
            refine OwnW.iconst X0 (z := (5 : Int32)) (n := 141) d2_140 rfl rfl ?_
            refine OwnW.ic_ne X0  (n1 := 185) (n2 := 144) d2_141 (by decide) rfl rfl (fun hc141 => ?_) (fun hc141 => ?_)
            · refine OwnW.new X0 (C := "java/lang/String") (k := 4) (n := 188) d2_185 (hw _ (List.mem_of_getElem? (i := 9) rfl)) (hw _ (List.mem_of_getElem? (i := 10) rfl)) (hw _ (List.mem_of_getElem? (i := 11) rfl)) (by decide) (by decide) rfl ?_
              intro T1 h1 b1 gb1 X1 E1 A1 D1 U1
              have ne_r0_b1 : r0 ≠ b1 := by rw [gb1]; exact Nat.ne_of_lt A0.lt
              have ge_b1 : n0 ≤ b1 := by rw [gb1]; exact OwnW.oldLe O0
              have K1 := (OwnW.kExt E1)
              have O1 := O0.keep K1 all0
              have Z1 : Keep h0 h1 [] := Z0.trans K1 (fun x hx => nomatch hx)
              have sz_b1 : h0.size ≤ b1 := by rw [gb1]; exact Z0.1
              have F1_coder : Fld Z h1 b1 "java/lang/String" "coder" "B" (.int (0 : Int32)) := D1 (Or.inr (hw _ (List.mem_of_getElem? (i := 35) rfl))) (ty := .byte) (by decide)
              have F1_value : Fld Z h1 b1 "java/lang/String" "value" "[B" .null := D1 (Or.inr (hw _ (List.mem_of_getElem? (i := 37) rfl))) (ty := (.array .byte)) (by decide)
              refine OwnW.dup X1 (n := 189) d2_188 rfl rfl ?_
              refine OwnW.bipush X1 (z := (6 : Int32)) (n := 191) d2_189 rfl rfl ?_
              refine OwnW.newarray X1 (len := 6) (cap := 6) (n := 193) d2_191 (hw _ (List.mem_of_getElem? (i := 1) rfl)) rfl (by decide) (by decide) (by decide) (by decide) rfl ?_
              intro T2 h2 b2 gb2 X2 E2 A2
              have fk3 := (A0.keep K1 nin0)
              have ne_r0_b2 : r0 ≠ b2 := by rw [gb2]; exact Nat.ne_of_lt fk3.lt
              have ne_b1_b2 : b1 ≠ b2 := by rw [gb2]; exact Nat.ne_of_lt A1.lt
              have ge_b2 : n0 ≤ b2 := by rw [gb2]; exact OwnW.oldLe O1
              have K2 := (OwnW.kExt E2)
              have O2 := O1.keep K2 all0
              have Z2 : Keep h0 h2 [] := Z1.trans K2 (fun x hx => nomatch hx)
              have sz_b2 : h0.size ≤ b2 := by rw [gb2]; exact Z1.1
              replace A2 : Ark Z h2 b2 .char [(.int (0 : Int32)), (.int (0 : Int32)), (.int (0 : Int32)), (.int (0 : Int32)), (.int (0 : Int32)), (.int (0 : Int32))] := A2
              refine OwnW.dup X2 (n := 194) d2_193 rfl rfl ?_
              refine OwnW.iconst X2 (z := (0 : Int32)) (n := 195) d2_194 rfl rfl ?_
              refine OwnW.aloadN X2 (n := 196) d2_195 rfl rfl rfl ?_
              refine OwnW.iconst X2 (z := (0 : Int32)) (n := 197) d2_196 rfl rfl ?_
              have fk4 := (fk3.keep K2 nin0)
              refine OwnW.caload X2 (i := 0) (v := (.int f0)) (n := 198) d2_197 fk4 rfl rfl rfl ?_
              refine OwnW.castore X2 (i := 0) (z := f0) (n := 199) d2_198 A2 rfl (Nat.le_of_ble_eq_true rfl) (own_narC hb0.1 hb0.2) ge_b2 (List.mem_cons_self ..) rfl ?_
              intro T5 h5 X5 W5 A5
              have K5 := (Keep.of_wr W5)
              have O5 := O2.keep K5 (allS ge_b2 all0)
              have Z5 : Keep h0 h5 [] := Z2.trans K5 (allS (P := fun x => x ∈ [] ∨ h0.size ≤ x) (Or.inr sz_b2) all0)
              replace A5 : Ark Z h5 b2 .char [(.int f0), (.int (0 : Int32)), (.int (0 : Int32)), (.int (0 : Int32)), (.int (0 : Int32)), (.int (0 : Int32))] := A5
              refine OwnW.dup X5 (n := 200) d2_199 rfl rfl ?_
              refine OwnW.iconst X5 (z := (1 : Int32)) (n := 201) d2_200 rfl rfl ?_
              refine OwnW.aloadN X5 (n := 202) d2_201 rfl rfl rfl ?_
              refine OwnW.iconst X5 (z := (1 : Int32)) (n := 203) d2_202 rfl rfl ?_
              have fk6 := (fk4.keep K5 (ninS ne_r0_b2 nin0))
              refine OwnW.caload X5 (i := 1) (v := (.int f1)) (n := 204) d2_203 fk6 rfl rfl rfl ?_
              refine OwnW.castore X5 (i := 1) (z := f1) (n := 205) d2_204 A5 rfl (Nat.le_of_ble_eq_true rfl) (own_narC hb1.1 hb1.2) ge_b2 (List.mem_cons_self ..) rfl ?_
              intro T7 h7 X7 W7 A7
              have K7 := (Keep.of_wr W7)
              have O7 := O5.keep K7 (allS ge_b2 all0)
              have Z7 : Keep h0 h7 [] := Z5.trans K7 (allS (P := fun x => x ∈ [] ∨ h0.size ≤ x) (Or.inr sz_b2) all0)
              replace A7 : Ark Z h7 b2 .char [(.int f0), (.int f1), (.int (0 : Int32)), (.int (0 : Int32)), (.int (0 : Int32)), (.int (0 : Int32))] := A7
              refine OwnW.dup X7 (n := 206) d2_205 rfl rfl ?_
              refine OwnW.iconst X7 (z := (2 : Int32)) (n := 207) d2_206 rfl rfl ?_
              refine OwnW.aloadN X7 (n := 208) d2_207 rfl rfl rfl ?_
              refine OwnW.iconst X7 (z := (2 : Int32)) (n := 209) d2_208 rfl rfl ?_
              have fk8 := (fk6.keep K7 (ninS ne_r0_b2 nin0))
              refine OwnW.caload X7 (i := 2) (v := (.int f2)) (n := 210) d2_209 fk8 rfl rfl rfl ?_
              refine OwnW.castore X7 (i := 2) (z := f2) (n := 211) d2_210 A7 rfl (Nat.le_of_ble_eq_true rfl) (own_narC hb2.1 hb2.2) ge_b2 (List.mem_cons_self ..) rfl ?_
              intro T9 h9 X9 W9 A9
              have K9 := (Keep.of_wr W9)
              have O9 := O7.keep K9 (allS ge_b2 all0)
              have Z9 : Keep h0 h9 [] := Z7.trans K9 (allS (P := fun x => x ∈ [] ∨ h0.size ≤ x) (Or.inr sz_b2) all0)
              replace A9 : Ark Z h9 b2 .char [(.int f0), (.int f1), (.int f2), (.int (0 : Int32)), (.int (0 : Int32)), (.int (0 : Int32))] := A9
              refine OwnW.dup X9 (n := 212) d2_211 rfl rfl ?_
              refine OwnW.iconst X9 (z := (3 : Int32)) (n := 213) d2_212 rfl rfl ?_
              refine OwnW.aloadN X9 (n := 214) d2_213 rfl rfl rfl ?_
              refine OwnW.iconst X9 (z := (3 : Int32)) (n := 215) d2_214 rfl rfl ?_
              have fk10 := (fk8.keep K9 (ninS ne_r0_b2 nin0))
              refine OwnW.caload X9 (i := 3) (v := (.int f3)) (n := 216) d2_215 fk10 rfl rfl rfl ?_
              refine OwnW.castore X9 (i := 3) (z := f3) (n := 217) d2_216 A9 rfl (Nat.le_of_ble_eq_true rfl) (own_narC hb3.1 hb3.2) ge_b2 (List.mem_cons_self ..) rfl ?_
              intro T11 h11 X11 W11 A11
              have K11 := (Keep.of_wr W11)
              have O11 := O9.keep K11 (allS ge_b2 all0)
              have Z11 : Keep h0 h11 [] := Z9.trans K11 (allS (P := fun x => x ∈ [] ∨ h0.size ≤ x) (Or.inr sz_b2) all0)
              replace A11 : Ark Z h11 b2 .char [(.int f0), (.int f1), (.int f2), (.int f3), (.int (0 : Int32)), (.int (0 : Int32))] := A11
              refine OwnW.dup X11 (n := 218) d2_217 rfl rfl ?_
              refine OwnW.iconst X11 (z := (4 : Int32)) (n := 219) d2_218 rfl rfl ?_
              refine OwnW.aloadN X11 (n := 220) d2_219 rfl rfl rfl ?_
              refine OwnW.iconst X11 (z := (4 : Int32)) (n := 221) d2_220 rfl rfl ?_
              have fk12 := (fk10.keep K11 (ninS ne_r0_b2 nin0))
              refine OwnW.caload X11 (i := 4) (v := (.int f4)) (n := 222) d2_221 fk12 rfl rfl rfl ?_
              refine OwnW.castore X11 (i := 4) (z := f4) (n := 223) d2_222 A11 rfl (Nat.le_of_ble_eq_true rfl) (own_narC hb4.1 hb4.2) ge_b2 (List.mem_cons_self ..) rfl ?_
              intro T13 h13 X13 W13 A13
              have K13 := (Keep.of_wr W13)
              have O13 := O11.keep K13 (allS ge_b2 all0)
              have Z13 : Keep h0 h13 [] := Z11.trans K13 (allS (P := fun x => x ∈ [] ∨ h0.size ≤ x) (Or.inr sz_b2) all0)
              replace A13 : Ark Z h13 b2 .char [(.int f0), (.int f1), (.int f2), (.int f3), (.int f4), (.int (0 : Int32))] := A13
              refine OwnW.dup X13 (n := 224) d2_223 rfl rfl ?_
              refine OwnW.iconst X13 (z := (5 : Int32)) (n := 225) d2_224 rfl rfl ?_
              refine OwnW.aloadN X13 (n := 226) d2_225 rfl rfl rfl ?_
              refine OwnW.iconst X13 (z := (5 : Int32)) (n := 227) d2_226 rfl rfl ?_
              have fk14 := (fk12.keep K13 (ninS ne_r0_b2 nin0))
              refine OwnW.caload X13 (i := 5) (v := (.int f5)) (n := 228) d2_227 fk14 rfl rfl rfl ?_
              refine OwnW.castore X13 (i := 5) (z := f5) (n := 229) d2_228 A13 rfl (Nat.le_of_ble_eq_true rfl) (own_narC hb5.1 hb5.2) ge_b2 (List.mem_cons_self ..) rfl ?_
              intro T15 h15 X15 W15 A15
              have K15 := (Keep.of_wr W15)
              have O15 := O13.keep K15 (allS ge_b2 all0)
              have Z15 : Keep h0 h15 [] := Z13.trans K15 (allS (P := fun x => x ∈ [] ∨ h0.size ≤ x) (Or.inr sz_b2) all0)
              replace A15 : Ark Z h15 b2 .char [(.int f0), (.int f1), (.int f2), (.int f3), (.int f4), (.int f5)] := A15
              have fk16 := (((((((A1.keep K2).keep K5).keep K7).keep K9).keep K11).keep K13).keep K15)
              have fk17 := (((((((F1_value.keep K2 nin0).keep K5 (ninS ne_b1_b2 nin0)).keep K7 (ninS ne_b1_b2 nin0)).keep K9 (ninS ne_b1_b2 nin0)).keep K11 (ninS ne_b1_b2 nin0)).keep K13 (ninS ne_b1_b2 nin0)).keep K15 (ninS ne_b1_b2 nin0))
              have fk18 := (((((((F1_coder.keep K2 nin0).keep K5 (ninS ne_b1_b2 nin0)).keep K7 (ninS ne_b1_b2 nin0)).keep K9 (ninS ne_b1_b2 nin0)).keep K11 (ninS ne_b1_b2 nin0)).keep K13 (ninS ne_b1_b2 nin0)).keep K15 (ninS ne_b1_b2 nin0))
              have fk19 := (fk14.keep K15 (ninS ne_r0_b2 nin0))
              refine OwnW.call_special_n X15 (z := (⟨"java/lang/String", "<init>", "([C)V"⟩ : MethodName)) (a := b1) (n := 232) d2_229 (hw _ (List.mem_of_getElem? (i := 12) rfl)) (hw _ (List.mem_of_getElem? (i := 13) rfl)) (hw _ (List.mem_of_getElem? (i := 14) rfl)) (hw _ (List.mem_of_getElem? (i := 11) rfl)) rfl rfl (by decide) (rm3 l Z a0 hw hE [] b1 b2 h15 n0 O15 ge_b1 fk16 _ _ fk17 fk18 ([f0, f1, f2, f3, f4, f5] : List Int32) (own_aS hb0.2 (own_aS hb1.2 (own_aS hb2.2 (own_aS hb3.2 (own_aS hb4.2 (own_aS hb5.2 own_a0)))))) (by simp) (by simp) A15 ne_b1_b2 zc hzc S_compact) (OwnW.sfS (List.mem_cons_of_mem _ (List.mem_cons_self ..)) OwnW.sf0) (argsL := [(.ref b2)]) (rest := [(.ref b1)]) rfl rfl (OwnW.lenA pd___C_V rfl) (W := 1) (Nat.le_of_eq rfl) (by decide) (by decide) (by decide) (by decide) rfl ?_
              intro T20 h20 g20 hle20 X20 ⟨k20, t20, z20, S20⟩
              obtain ⟨se20, sc20, sv20, sa20⟩ := S20
              have K20 := k20
              have O20 := O15.keep K20 (allS ge_b1 all0)
              have Z20 : Keep h0 h20 [] := Z15.trans K20 (allS (P := fun x => x ∈ [] ∨ h0.size ≤ x) (Or.inr sz_b1) all0)
              have ne_r0_t20 : r0 ≠ t20 := Nat.ne_of_lt (Nat.lt_of_lt_of_le fk19.lt z20)
              have ne_b1_t20 : b1 ≠ t20 := Nat.ne_of_lt (Nat.lt_of_lt_of_le fk16.lt z20)
              have ne_b2_t20 : b2 ≠ t20 := Nat.ne_of_lt (Nat.lt_of_lt_of_le A15.lt z20)
              have zz20 : h0.size ≤ t20 := Nat.le_trans Z15.1 z20
              exact OwnW.areturn X20 rfl rfl rfl d2_232 ⟨b1, t20, rfl, Z20, sz_b1, by simp only [own_take, hc1, hc17, hc39, hc67, hc101, hc141, if_true, if_false, reduceIte]; exact ⟨se20, sc20, sv20, sa20⟩⟩ (by decide) (by decide)
            · refine OwnW.new X0 (C := "java/lang/String") (k := 4) (n := 147) d2_144 (hw _ (List.mem_of_getElem? (i := 9) rfl)) (hw _ (List.mem_of_getElem? (i := 10) rfl)) (hw _ (List.mem_of_getElem? (i := 11) rfl)) (by decide) (by decide) rfl ?_
              intro T21 h21 b21 gb21 X21 E21 A21 D21 U21
              have ne_r0_b21 : r0 ≠ b21 := by rw [gb21]; exact Nat.ne_of_lt A0.lt
              have ge_b21 : n0 ≤ b21 := by rw [gb21]; exact OwnW.oldLe O0
              have K21 := (OwnW.kExt E21)
              have O21 := O0.keep K21 all0
              have Z21 : Keep h0 h21 [] := Z0.trans K21 (fun x hx => nomatch hx)
              have sz_b21 : h0.size ≤ b21 := by rw [gb21]; exact Z0.1
              have F21_coder : Fld Z h21 b21 "java/lang/String" "coder" "B" (.int (0 : Int32)) := D21 (Or.inr (hw _ (List.mem_of_getElem? (i := 35) rfl))) (ty := .byte) (by decide)
              have F21_value : Fld Z h21 b21 "java/lang/String" "value" "[B" .null := D21 (Or.inr (hw _ (List.mem_of_getElem? (i := 37) rfl))) (ty := (.array .byte)) (by decide)
              refine OwnW.dup X21 (n := 148) d2_147 rfl rfl ?_
              refine OwnW.iconst X21 (z := (5 : Int32)) (n := 149) d2_148 rfl rfl ?_
              refine OwnW.newarray X21 (len := 5) (cap := 5) (n := 151) d2_149 (hw _ (List.mem_of_getElem? (i := 1) rfl)) rfl (by decide) (by decide) (by decide) (by decide) rfl ?_
              intro T22 h22 b22 gb22 X22 E22 A22
              have fk23 := (A0.keep K21 nin0)
              have ne_r0_b22 : r0 ≠ b22 := by rw [gb22]; exact Nat.ne_of_lt fk23.lt
              have ne_b21_b22 : b21 ≠ b22 := by rw [gb22]; exact Nat.ne_of_lt A21.lt
              have ge_b22 : n0 ≤ b22 := by rw [gb22]; exact OwnW.oldLe O21
              have K22 := (OwnW.kExt E22)
              have O22 := O21.keep K22 all0
              have Z22 : Keep h0 h22 [] := Z21.trans K22 (fun x hx => nomatch hx)
              have sz_b22 : h0.size ≤ b22 := by rw [gb22]; exact Z21.1
              replace A22 : Ark Z h22 b22 .char [(.int (0 : Int32)), (.int (0 : Int32)), (.int (0 : Int32)), (.int (0 : Int32)), (.int (0 : Int32))] := A22
              refine OwnW.dup X22 (n := 152) d2_151 rfl rfl ?_
              refine OwnW.iconst X22 (z := (0 : Int32)) (n := 153) d2_152 rfl rfl ?_
              refine OwnW.aloadN X22 (n := 154) d2_153 rfl rfl rfl ?_
              refine OwnW.iconst X22 (z := (0 : Int32)) (n := 155) d2_154 rfl rfl ?_
              have fk24 := (fk23.keep K22 nin0)
              refine OwnW.caload X22 (i := 0) (v := (.int f0)) (n := 156) d2_155 fk24 rfl rfl rfl ?_
              refine OwnW.castore X22 (i := 0) (z := f0) (n := 157) d2_156 A22 rfl (Nat.le_of_ble_eq_true rfl) (own_narC hb0.1 hb0.2) ge_b22 (List.mem_cons_self ..) rfl ?_
              intro T25 h25 X25 W25 A25
              have K25 := (Keep.of_wr W25)
              have O25 := O22.keep K25 (allS ge_b22 all0)
              have Z25 : Keep h0 h25 [] := Z22.trans K25 (allS (P := fun x => x ∈ [] ∨ h0.size ≤ x) (Or.inr sz_b22) all0)
              replace A25 : Ark Z h25 b22 .char [(.int f0), (.int (0 : Int32)), (.int (0 : Int32)), (.int (0 : Int32)), (.int (0 : Int32))] := A25
              refine OwnW.dup X25 (n := 158) d2_157 rfl rfl ?_
              refine OwnW.iconst X25 (z := (1 : Int32)) (n := 159) d2_158 rfl rfl ?_
              refine OwnW.aloadN X25 (n := 160) d2_159 rfl rfl rfl ?_
              refine OwnW.iconst X25 (z := (1 : Int32)) (n := 161) d2_160 rfl rfl ?_
              have fk26 := (fk24.keep K25 (ninS ne_r0_b22 nin0))
              refine OwnW.caload X25 (i := 1) (v := (.int f1)) (n := 162) d2_161 fk26 rfl rfl rfl ?_
              refine OwnW.castore X25 (i := 1) (z := f1) (n := 163) d2_162 A25 rfl (Nat.le_of_ble_eq_true rfl) (own_narC hb1.1 hb1.2) ge_b22 (List.mem_cons_self ..) rfl ?_
              intro T27 h27 X27 W27 A27
              have K27 := (Keep.of_wr W27)
              have O27 := O25.keep K27 (allS ge_b22 all0)
              have Z27 : Keep h0 h27 [] := Z25.trans K27 (allS (P := fun x => x ∈ [] ∨ h0.size ≤ x) (Or.inr sz_b22) all0)
              replace A27 : Ark Z h27 b22 .char [(.int f0), (.int f1), (.int (0 : Int32)), (.int (0 : Int32)), (.int (0 : Int32))] := A27
              refine OwnW.dup X27 (n := 164) d2_163 rfl rfl ?_
              refine OwnW.iconst X27 (z := (2 : Int32)) (n := 165) d2_164 rfl rfl ?_
              refine OwnW.aloadN X27 (n := 166) d2_165 rfl rfl rfl ?_
              refine OwnW.iconst X27 (z := (2 : Int32)) (n := 167) d2_166 rfl rfl ?_
              have fk28 := (fk26.keep K27 (ninS ne_r0_b22 nin0))
              refine OwnW.caload X27 (i := 2) (v := (.int f2)) (n := 168) d2_167 fk28 rfl rfl rfl ?_
              refine OwnW.castore X27 (i := 2) (z := f2) (n := 169) d2_168 A27 rfl (Nat.le_of_ble_eq_true rfl) (own_narC hb2.1 hb2.2) ge_b22 (List.mem_cons_self ..) rfl ?_
              intro T29 h29 X29 W29 A29
              have K29 := (Keep.of_wr W29)
              have O29 := O27.keep K29 (allS ge_b22 all0)
              have Z29 : Keep h0 h29 [] := Z27.trans K29 (allS (P := fun x => x ∈ [] ∨ h0.size ≤ x) (Or.inr sz_b22) all0)
              replace A29 : Ark Z h29 b22 .char [(.int f0), (.int f1), (.int f2), (.int (0 : Int32)), (.int (0 : Int32))] := A29
              refine OwnW.dup X29 (n := 170) d2_169 rfl rfl ?_
              refine OwnW.iconst X29 (z := (3 : Int32)) (n := 171) d2_170 rfl rfl ?_
              refine OwnW.aloadN X29 (n := 172) d2_171 rfl rfl rfl ?_
              refine OwnW.iconst X29 (z := (3 : Int32)) (n := 173) d2_172 rfl rfl ?_
              have fk30 := (fk28.keep K29 (ninS ne_r0_b22 nin0))
              refine OwnW.caload X29 (i := 3) (v := (.int f3)) (n := 174) d2_173 fk30 rfl rfl rfl ?_
              refine OwnW.castore X29 (i := 3) (z := f3) (n := 175) d2_174 A29 rfl (Nat.le_of_ble_eq_true rfl) (own_narC hb3.1 hb3.2) ge_b22 (List.mem_cons_self ..) rfl ?_
              intro T31 h31 X31 W31 A31
              have K31 := (Keep.of_wr W31)
              have O31 := O29.keep K31 (allS ge_b22 all0)
              have Z31 : Keep h0 h31 [] := Z29.trans K31 (allS (P := fun x => x ∈ [] ∨ h0.size ≤ x) (Or.inr sz_b22) all0)
              replace A31 : Ark Z h31 b22 .char [(.int f0), (.int f1), (.int f2), (.int f3), (.int (0 : Int32))] := A31
              refine OwnW.dup X31 (n := 176) d2_175 rfl rfl ?_
              refine OwnW.iconst X31 (z := (4 : Int32)) (n := 177) d2_176 rfl rfl ?_
              refine OwnW.aloadN X31 (n := 178) d2_177 rfl rfl rfl ?_
              refine OwnW.iconst X31 (z := (4 : Int32)) (n := 179) d2_178 rfl rfl ?_
              have fk32 := (fk30.keep K31 (ninS ne_r0_b22 nin0))
              refine OwnW.caload X31 (i := 4) (v := (.int f4)) (n := 180) d2_179 fk32 rfl rfl rfl ?_
              refine OwnW.castore X31 (i := 4) (z := f4) (n := 181) d2_180 A31 rfl (Nat.le_of_ble_eq_true rfl) (own_narC hb4.1 hb4.2) ge_b22 (List.mem_cons_self ..) rfl ?_
              intro T33 h33 X33 W33 A33
              have K33 := (Keep.of_wr W33)
              have O33 := O31.keep K33 (allS ge_b22 all0)
              have Z33 : Keep h0 h33 [] := Z31.trans K33 (allS (P := fun x => x ∈ [] ∨ h0.size ≤ x) (Or.inr sz_b22) all0)
              replace A33 : Ark Z h33 b22 .char [(.int f0), (.int f1), (.int f2), (.int f3), (.int f4)] := A33
              have fk34 := ((((((A21.keep K22).keep K25).keep K27).keep K29).keep K31).keep K33)
              have fk35 := ((((((F21_value.keep K22 nin0).keep K25 (ninS ne_b21_b22 nin0)).keep K27 (ninS ne_b21_b22 nin0)).keep K29 (ninS ne_b21_b22 nin0)).keep K31 (ninS ne_b21_b22 nin0)).keep K33 (ninS ne_b21_b22 nin0))
              have fk36 := ((((((F21_coder.keep K22 nin0).keep K25 (ninS ne_b21_b22 nin0)).keep K27 (ninS ne_b21_b22 nin0)).keep K29 (ninS ne_b21_b22 nin0)).keep K31 (ninS ne_b21_b22 nin0)).keep K33 (ninS ne_b21_b22 nin0))
              have fk37 := (fk32.keep K33 (ninS ne_r0_b22 nin0))
              refine OwnW.call_special_n X33 (z := (⟨"java/lang/String", "<init>", "([C)V"⟩ : MethodName)) (a := b21) (n := 184) d2_181 (hw _ (List.mem_of_getElem? (i := 12) rfl)) (hw _ (List.mem_of_getElem? (i := 13) rfl)) (hw _ (List.mem_of_getElem? (i := 14) rfl)) (hw _ (List.mem_of_getElem? (i := 11) rfl)) rfl rfl (by decide) (rm3 l Z a0 hw hE [] b21 b22 h33 n0 O33 ge_b21 fk34 _ _ fk35 fk36 ([f0, f1, f2, f3, f4] : List Int32) (own_aS hb0.2 (own_aS hb1.2 (own_aS hb2.2 (own_aS hb3.2 (own_aS hb4.2 own_a0))))) (by simp) (by simp) A33 ne_b21_b22 zc hzc S_compact) (OwnW.sfS (List.mem_cons_of_mem _ (List.mem_cons_self ..)) OwnW.sf0) (argsL := [(.ref b22)]) (rest := [(.ref b21)]) rfl rfl (OwnW.lenA pd___C_V rfl) (W := 1) (Nat.le_of_eq rfl) (by decide) (by decide) (by decide) (by decide) rfl ?_
              intro T38 h38 g38 hle38 X38 ⟨k38, t38, z38, S38⟩
              obtain ⟨se38, sc38, sv38, sa38⟩ := S38
              have K38 := k38
              have O38 := O33.keep K38 (allS ge_b21 all0)
              have Z38 : Keep h0 h38 [] := Z33.trans K38 (allS (P := fun x => x ∈ [] ∨ h0.size ≤ x) (Or.inr sz_b21) all0)
              have ne_r0_t38 : r0 ≠ t38 := Nat.ne_of_lt (Nat.lt_of_lt_of_le fk37.lt z38)
              have ne_b21_t38 : b21 ≠ t38 := Nat.ne_of_lt (Nat.lt_of_lt_of_le fk34.lt z38)
              have ne_b22_t38 : b22 ≠ t38 := Nat.ne_of_lt (Nat.lt_of_lt_of_le A33.lt z38)
              have zz38 : h0.size ≤ t38 := Nat.le_trans Z33.1 z38
              exact OwnW.areturn X38 rfl rfl rfl d2_184 ⟨b21, t38, rfl, Z38, sz_b21, by simp only [own_take, hc1, hc17, hc39, hc67, hc101, hc141, if_true, if_false, reduceIte]; exact ⟨se38, sc38, sv38, sa38⟩⟩ (by decide) (by decide)
          · refine OwnW.new X0 (C := "java/lang/String") (k := 4) (n := 107) d2_104 (hw _ (List.mem_of_getElem? (i := 9) rfl)) (hw _ (List.mem_of_getElem? (i := 10) rfl)) (hw _ (List.mem_of_getElem? (i := 11) rfl)) (by decide) (by decide) rfl ?_
            intro T39 h39 b39 gb39 X39 E39 A39 D39 U39
            have ne_r0_b39 : r0 ≠ b39 := by rw [gb39]; exact Nat.ne_of_lt A0.lt
            have ge_b39 : n0 ≤ b39 := by rw [gb39]; exact OwnW.oldLe O0
            have K39 := (OwnW.kExt E39)
            have O39 := O0.keep K39 all0
            have Z39 : Keep h0 h39 [] := Z0.trans K39 (fun x hx => nomatch hx)
            have sz_b39 : h0.size ≤ b39 := by rw [gb39]; exact Z0.1
            have F39_coder : Fld Z h39 b39 "java/lang/String" "coder" "B" (.int (0 : Int32)) := D39 (Or.inr (hw _ (List.mem_of_getElem? (i := 35) rfl))) (ty := .byte) (by decide)
            have F39_value : Fld Z h39 b39 "java/lang/String" "value" "[B" .null := D39 (Or.inr (hw _ (List.mem_of_getElem? (i := 37) rfl))) (ty := (.array .byte)) (by decide)
            refine OwnW.dup X39 (n := 108) d2_107 rfl rfl ?_
            refine OwnW.iconst X39 (z := (4 : Int32)) (n := 109) d2_108 rfl rfl ?_
            refine OwnW.newarray X39 (len := 4) (cap := 4) (n := 111) d2_109 (hw _ (List.mem_of_getElem? (i := 1) rfl)) rfl (by decide) (by decide) (by decide) (by decide) rfl ?_
            intro T40 h40 b40 gb40 X40 E40 A40
            have fk41 := (A0.keep K39 nin0)
            have ne_r0_b40 : r0 ≠ b40 := by rw [gb40]; exact Nat.ne_of_lt fk41.lt
            have ne_b39_b40 : b39 ≠ b40 := by rw [gb40]; exact Nat.ne_of_lt A39.lt
            have ge_b40 : n0 ≤ b40 := by rw [gb40]; exact OwnW.oldLe O39
            have K40 := (OwnW.kExt E40)
            have O40 := O39.keep K40 all0
            have Z40 : Keep h0 h40 [] := Z39.trans K40 (fun x hx => nomatch hx)
            have sz_b40 : h0.size ≤ b40 := by rw [gb40]; exact Z39.1
            replace A40 : Ark Z h40 b40 .char [(.int (0 : Int32)), (.int (0 : Int32)), (.int (0 : Int32)), (.int (0 : Int32))] := A40
            refine OwnW.dup X40 (n := 112) d2_111 rfl rfl ?_
            refine OwnW.iconst X40 (z := (0 : Int32)) (n := 113) d2_112 rfl rfl ?_
            refine OwnW.aloadN X40 (n := 114) d2_113 rfl rfl rfl ?_
            refine OwnW.iconst X40 (z := (0 : Int32)) (n := 115) d2_114 rfl rfl ?_
            have fk42 := (fk41.keep K40 nin0)
            refine OwnW.caload X40 (i := 0) (v := (.int f0)) (n := 116) d2_115 fk42 rfl rfl rfl ?_
            refine OwnW.castore X40 (i := 0) (z := f0) (n := 117) d2_116 A40 rfl (Nat.le_of_ble_eq_true rfl) (own_narC hb0.1 hb0.2) ge_b40 (List.mem_cons_self ..) rfl ?_
            intro T43 h43 X43 W43 A43
            have K43 := (Keep.of_wr W43)
            have O43 := O40.keep K43 (allS ge_b40 all0)
            have Z43 : Keep h0 h43 [] := Z40.trans K43 (allS (P := fun x => x ∈ [] ∨ h0.size ≤ x) (Or.inr sz_b40) all0)
            replace A43 : Ark Z h43 b40 .char [(.int f0), (.int (0 : Int32)), (.int (0 : Int32)), (.int (0 : Int32))] := A43
            refine OwnW.dup X43 (n := 118) d2_117 rfl rfl ?_
            refine OwnW.iconst X43 (z := (1 : Int32)) (n := 119) d2_118 rfl rfl ?_
            refine OwnW.aloadN X43 (n := 120) d2_119 rfl rfl rfl ?_
            refine OwnW.iconst X43 (z := (1 : Int32)) (n := 121) d2_120 rfl rfl ?_
            have fk44 := (fk42.keep K43 (ninS ne_r0_b40 nin0))
            refine OwnW.caload X43 (i := 1) (v := (.int f1)) (n := 122) d2_121 fk44 rfl rfl rfl ?_
            refine OwnW.castore X43 (i := 1) (z := f1) (n := 123) d2_122 A43 rfl (Nat.le_of_ble_eq_true rfl) (own_narC hb1.1 hb1.2) ge_b40 (List.mem_cons_self ..) rfl ?_
            intro T45 h45 X45 W45 A45
            have K45 := (Keep.of_wr W45)
            have O45 := O43.keep K45 (allS ge_b40 all0)
            have Z45 : Keep h0 h45 [] := Z43.trans K45 (allS (P := fun x => x ∈ [] ∨ h0.size ≤ x) (Or.inr sz_b40) all0)
            replace A45 : Ark Z h45 b40 .char [(.int f0), (.int f1), (.int (0 : Int32)), (.int (0 : Int32))] := A45
            refine OwnW.dup X45 (n := 124) d2_123 rfl rfl ?_
            refine OwnW.iconst X45 (z := (2 : Int32)) (n := 125) d2_124 rfl rfl ?_
            refine OwnW.aloadN X45 (n := 126) d2_125 rfl rfl rfl ?_
            refine OwnW.iconst X45 (z := (2 : Int32)) (n := 127) d2_126 rfl rfl ?_
            have fk46 := (fk44.keep K45 (ninS ne_r0_b40 nin0))
            refine OwnW.caload X45 (i := 2) (v := (.int f2)) (n := 128) d2_127 fk46 rfl rfl rfl ?_
            refine OwnW.castore X45 (i := 2) (z := f2) (n := 129) d2_128 A45 rfl (Nat.le_of_ble_eq_true rfl) (own_narC hb2.1 hb2.2) ge_b40 (List.mem_cons_self ..) rfl ?_
            intro T47 h47 X47 W47 A47
            have K47 := (Keep.of_wr W47)
            have O47 := O45.keep K47 (allS ge_b40 all0)
            have Z47 : Keep h0 h47 [] := Z45.trans K47 (allS (P := fun x => x ∈ [] ∨ h0.size ≤ x) (Or.inr sz_b40) all0)
            replace A47 : Ark Z h47 b40 .char [(.int f0), (.int f1), (.int f2), (.int (0 : Int32))] := A47
            refine OwnW.dup X47 (n := 130) d2_129 rfl rfl ?_
            refine OwnW.iconst X47 (z := (3 : Int32)) (n := 131) d2_130 rfl rfl ?_
            refine OwnW.aloadN X47 (n := 132) d2_131 rfl rfl rfl ?_
            refine OwnW.iconst X47 (z := (3 : Int32)) (n := 133) d2_132 rfl rfl ?_
            have fk48 := (fk46.keep K47 (ninS ne_r0_b40 nin0))
            refine OwnW.caload X47 (i := 3) (v := (.int f3)) (n := 134) d2_133 fk48 rfl rfl rfl ?_
            refine OwnW.castore X47 (i := 3) (z := f3) (n := 135) d2_134 A47 rfl (Nat.le_of_ble_eq_true rfl) (own_narC hb3.1 hb3.2) ge_b40 (List.mem_cons_self ..) rfl ?_
            intro T49 h49 X49 W49 A49
            have K49 := (Keep.of_wr W49)
            have O49 := O47.keep K49 (allS ge_b40 all0)
            have Z49 : Keep h0 h49 [] := Z47.trans K49 (allS (P := fun x => x ∈ [] ∨ h0.size ≤ x) (Or.inr sz_b40) all0)
            replace A49 : Ark Z h49 b40 .char [(.int f0), (.int f1), (.int f2), (.int f3)] := A49
            have fk50 := (((((A39.keep K40).keep K43).keep K45).keep K47).keep K49)
            have fk51 := (((((F39_value.keep K40 nin0).keep K43 (ninS ne_b39_b40 nin0)).keep K45 (ninS ne_b39_b40 nin0)).keep K47 (ninS ne_b39_b40 nin0)).keep K49 (ninS ne_b39_b40 nin0))
            have fk52 := (((((F39_coder.keep K40 nin0).keep K43 (ninS ne_b39_b40 nin0)).keep K45 (ninS ne_b39_b40 nin0)).keep K47 (ninS ne_b39_b40 nin0)).keep K49 (ninS ne_b39_b40 nin0))
            have fk53 := (fk48.keep K49 (ninS ne_r0_b40 nin0))
            refine OwnW.call_special_n X49 (z := (⟨"java/lang/String", "<init>", "([C)V"⟩ : MethodName)) (a := b39) (n := 138) d2_135 (hw _ (List.mem_of_getElem? (i := 12) rfl)) (hw _ (List.mem_of_getElem? (i := 13) rfl)) (hw _ (List.mem_of_getElem? (i := 14) rfl)) (hw _ (List.mem_of_getElem? (i := 11) rfl)) rfl rfl (by decide) (rm3 l Z a0 hw hE [] b39 b40 h49 n0 O49 ge_b39 fk50 _ _ fk51 fk52 ([f0, f1, f2, f3] : List Int32) (own_aS hb0.2 (own_aS hb1.2 (own_aS hb2.2 (own_aS hb3.2 own_a0)))) (by simp) (by simp) A49 ne_b39_b40 zc hzc S_compact) (OwnW.sfS (List.mem_cons_of_mem _ (List.mem_cons_self ..)) OwnW.sf0) (argsL := [(.ref b40)]) (rest := [(.ref b39)]) rfl rfl (OwnW.lenA pd___C_V rfl) (W := 1) (Nat.le_of_eq rfl) (by decide) (by decide) (by decide) (by decide) rfl ?_
            intro T54 h54 g54 hle54 X54 ⟨k54, t54, z54, S54⟩
            obtain ⟨se54, sc54, sv54, sa54⟩ := S54
            have K54 := k54
            have O54 := O49.keep K54 (allS ge_b39 all0)
            have Z54 : Keep h0 h54 [] := Z49.trans K54 (allS (P := fun x => x ∈ [] ∨ h0.size ≤ x) (Or.inr sz_b39) all0)
            have ne_r0_t54 : r0 ≠ t54 := Nat.ne_of_lt (Nat.lt_of_lt_of_le fk53.lt z54)
            have ne_b39_t54 : b39 ≠ t54 := Nat.ne_of_lt (Nat.lt_of_lt_of_le fk50.lt z54)
            have ne_b40_t54 : b40 ≠ t54 := Nat.ne_of_lt (Nat.lt_of_lt_of_le A49.lt z54)
            have zz54 : h0.size ≤ t54 := Nat.le_trans Z49.1 z54
            exact OwnW.areturn X54 rfl rfl rfl d2_138 ⟨b39, t54, rfl, Z54, sz_b39, by simp only [own_take, hc1, hc17, hc39, hc67, hc101, if_true, if_false, reduceIte]; exact ⟨se54, sc54, sv54, sa54⟩⟩ (by decide) (by decide)
        · refine OwnW.new X0 (C := "java/lang/String") (k := 4) (n := 73) d2_70 (hw _ (List.mem_of_getElem? (i := 9) rfl)) (hw _ (List.mem_of_getElem? (i := 10) rfl)) (hw _ (List.mem_of_getElem? (i := 11) rfl)) (by decide) (by decide) rfl ?_
          intro T55 h55 b55 gb55 X55 E55 A55 D55 U55
          have ne_r0_b55 : r0 ≠ b55 := by rw [gb55]; exact Nat.ne_of_lt A0.lt
          have ge_b55 : n0 ≤ b55 := by rw [gb55]; exact OwnW.oldLe O0
          have K55 := (OwnW.kExt E55)
          have O55 := O0.keep K55 all0
          have Z55 : Keep h0 h55 [] := Z0.trans K55 (fun x hx => nomatch hx)
          have sz_b55 : h0.size ≤ b55 := by rw [gb55]; exact Z0.1
          have F55_coder : Fld Z h55 b55 "java/lang/String" "coder" "B" (.int (0 : Int32)) := D55 (Or.inr (hw _ (List.mem_of_getElem? (i := 35) rfl))) (ty := .byte) (by decide)
          have F55_value : Fld Z h55 b55 "java/lang/String" "value" "[B" .null := D55 (Or.inr (hw _ (List.mem_of_getElem? (i := 37) rfl))) (ty := (.array .byte)) (by decide)
          refine OwnW.dup X55 (n := 74) d2_73 rfl rfl ?_
          refine OwnW.iconst X55 (z := (3 : Int32)) (n := 75) d2_74 rfl rfl ?_
          refine OwnW.newarray X55 (len := 3) (cap := 3) (n := 77) d2_75 (hw _ (List.mem_of_getElem? (i := 1) rfl)) rfl (by decide) (by decide) (by decide) (by decide) rfl ?_
          intro T56 h56 b56 gb56 X56 E56 A56
          have fk57 := (A0.keep K55 nin0)
          have ne_r0_b56 : r0 ≠ b56 := by rw [gb56]; exact Nat.ne_of_lt fk57.lt
          have ne_b55_b56 : b55 ≠ b56 := by rw [gb56]; exact Nat.ne_of_lt A55.lt
          have ge_b56 : n0 ≤ b56 := by rw [gb56]; exact OwnW.oldLe O55
          have K56 := (OwnW.kExt E56)
          have O56 := O55.keep K56 all0
          have Z56 : Keep h0 h56 [] := Z55.trans K56 (fun x hx => nomatch hx)
          have sz_b56 : h0.size ≤ b56 := by rw [gb56]; exact Z55.1
          replace A56 : Ark Z h56 b56 .char [(.int (0 : Int32)), (.int (0 : Int32)), (.int (0 : Int32))] := A56
          refine OwnW.dup X56 (n := 78) d2_77 rfl rfl ?_
          refine OwnW.iconst X56 (z := (0 : Int32)) (n := 79) d2_78 rfl rfl ?_
          refine OwnW.aloadN X56 (n := 80) d2_79 rfl rfl rfl ?_
          refine OwnW.iconst X56 (z := (0 : Int32)) (n := 81) d2_80 rfl rfl ?_
          have fk58 := (fk57.keep K56 nin0)
          refine OwnW.caload X56 (i := 0) (v := (.int f0)) (n := 82) d2_81 fk58 rfl rfl rfl ?_
          refine OwnW.castore X56 (i := 0) (z := f0) (n := 83) d2_82 A56 rfl (Nat.le_of_ble_eq_true rfl) (own_narC hb0.1 hb0.2) ge_b56 (List.mem_cons_self ..) rfl ?_
          intro T59 h59 X59 W59 A59
          have K59 := (Keep.of_wr W59)
          have O59 := O56.keep K59 (allS ge_b56 all0)
          have Z59 : Keep h0 h59 [] := Z56.trans K59 (allS (P := fun x => x ∈ [] ∨ h0.size ≤ x) (Or.inr sz_b56) all0)
          replace A59 : Ark Z h59 b56 .char [(.int f0), (.int (0 : Int32)), (.int (0 : Int32))] := A59
          refine OwnW.dup X59 (n := 84) d2_83 rfl rfl ?_
          refine OwnW.iconst X59 (z := (1 : Int32)) (n := 85) d2_84 rfl rfl ?_
          refine OwnW.aloadN X59 (n := 86) d2_85 rfl rfl rfl ?_
          refine OwnW.iconst X59 (z := (1 : Int32)) (n := 87) d2_86 rfl rfl ?_
          have fk60 := (fk58.keep K59 (ninS ne_r0_b56 nin0))
          refine OwnW.caload X59 (i := 1) (v := (.int f1)) (n := 88) d2_87 fk60 rfl rfl rfl ?_
          refine OwnW.castore X59 (i := 1) (z := f1) (n := 89) d2_88 A59 rfl (Nat.le_of_ble_eq_true rfl) (own_narC hb1.1 hb1.2) ge_b56 (List.mem_cons_self ..) rfl ?_
          intro T61 h61 X61 W61 A61
          have K61 := (Keep.of_wr W61)
          have O61 := O59.keep K61 (allS ge_b56 all0)
          have Z61 : Keep h0 h61 [] := Z59.trans K61 (allS (P := fun x => x ∈ [] ∨ h0.size ≤ x) (Or.inr sz_b56) all0)
          replace A61 : Ark Z h61 b56 .char [(.int f0), (.int f1), (.int (0 : Int32))] := A61
          refine OwnW.dup X61 (n := 90) d2_89 rfl rfl ?_
          refine OwnW.iconst X61 (z := (2 : Int32)) (n := 91) d2_90 rfl rfl ?_
          refine OwnW.aloadN X61 (n := 92) d2_91 rfl rfl rfl ?_
          refine OwnW.iconst X61 (z := (2 : Int32)) (n := 93) d2_92 rfl rfl ?_
          have fk62 := (fk60.keep K61 (ninS ne_r0_b56 nin0))
          refine OwnW.caload X61 (i := 2) (v := (.int f2)) (n := 94) d2_93 fk62 rfl rfl rfl ?_
          refine OwnW.castore X61 (i := 2) (z := f2) (n := 95) d2_94 A61 rfl (Nat.le_of_ble_eq_true rfl) (own_narC hb2.1 hb2.2) ge_b56 (List.mem_cons_self ..) rfl ?_
          intro T63 h63 X63 W63 A63
          have K63 := (Keep.of_wr W63)
          have O63 := O61.keep K63 (allS ge_b56 all0)
          have Z63 : Keep h0 h63 [] := Z61.trans K63 (allS (P := fun x => x ∈ [] ∨ h0.size ≤ x) (Or.inr sz_b56) all0)
          replace A63 : Ark Z h63 b56 .char [(.int f0), (.int f1), (.int f2)] := A63
          have fk64 := ((((A55.keep K56).keep K59).keep K61).keep K63)
          have fk65 := ((((F55_value.keep K56 nin0).keep K59 (ninS ne_b55_b56 nin0)).keep K61 (ninS ne_b55_b56 nin0)).keep K63 (ninS ne_b55_b56 nin0))
          have fk66 := ((((F55_coder.keep K56 nin0).keep K59 (ninS ne_b55_b56 nin0)).keep K61 (ninS ne_b55_b56 nin0)).keep K63 (ninS ne_b55_b56 nin0))
          have fk67 := (fk62.keep K63 (ninS ne_r0_b56 nin0))
          refine OwnW.call_special_n X63 (z := (⟨"java/lang/String", "<init>", "([C)V"⟩ : MethodName)) (a := b55) (n := 98) d2_95 (hw _ (List.mem_of_getElem? (i := 12) rfl)) (hw _ (List.mem_of_getElem? (i := 13) rfl)) (hw _ (List.mem_of_getElem? (i := 14) rfl)) (hw _ (List.mem_of_getElem? (i := 11) rfl)) rfl rfl (by decide) (rm3 l Z a0 hw hE [] b55 b56 h63 n0 O63 ge_b55 fk64 _ _ fk65 fk66 ([f0, f1, f2] : List Int32) (own_aS hb0.2 (own_aS hb1.2 (own_aS hb2.2 own_a0))) (by simp) (by simp) A63 ne_b55_b56 zc hzc S_compact) (OwnW.sfS (List.mem_cons_of_mem _ (List.mem_cons_self ..)) OwnW.sf0) (argsL := [(.ref b56)]) (rest := [(.ref b55)]) rfl rfl (OwnW.lenA pd___C_V rfl) (W := 1) (Nat.le_of_eq rfl) (by decide) (by decide) (by decide) (by decide) rfl ?_
          intro T68 h68 g68 hle68 X68 ⟨k68, t68, z68, S68⟩
          obtain ⟨se68, sc68, sv68, sa68⟩ := S68
          have K68 := k68
          have O68 := O63.keep K68 (allS ge_b55 all0)
          have Z68 : Keep h0 h68 [] := Z63.trans K68 (allS (P := fun x => x ∈ [] ∨ h0.size ≤ x) (Or.inr sz_b55) all0)
          have ne_r0_t68 : r0 ≠ t68 := Nat.ne_of_lt (Nat.lt_of_lt_of_le fk67.lt z68)
          have ne_b55_t68 : b55 ≠ t68 := Nat.ne_of_lt (Nat.lt_of_lt_of_le fk64.lt z68)
          have ne_b56_t68 : b56 ≠ t68 := Nat.ne_of_lt (Nat.lt_of_lt_of_le A63.lt z68)
          have zz68 : h0.size ≤ t68 := Nat.le_trans Z63.1 z68
          exact OwnW.areturn X68 rfl rfl rfl d2_98 ⟨b55, t68, rfl, Z68, sz_b55, by simp only [own_take, hc1, hc17, hc39, hc67, if_true, if_false, reduceIte]; exact ⟨se68, sc68, sv68, sa68⟩⟩ (by decide) (by decide)
      · refine OwnW.new X0 (C := "java/lang/String") (k := 4) (n := 45) d2_42 (hw _ (List.mem_of_getElem? (i := 9) rfl)) (hw _ (List.mem_of_getElem? (i := 10) rfl)) (hw _ (List.mem_of_getElem? (i := 11) rfl)) (by decide) (by decide) rfl ?_
        intro T69 h69 b69 gb69 X69 E69 A69 D69 U69
        have ne_r0_b69 : r0 ≠ b69 := by rw [gb69]; exact Nat.ne_of_lt A0.lt
        have ge_b69 : n0 ≤ b69 := by rw [gb69]; exact OwnW.oldLe O0
        have K69 := (OwnW.kExt E69)
        have O69 := O0.keep K69 all0
        have Z69 : Keep h0 h69 [] := Z0.trans K69 (fun x hx => nomatch hx)
        have sz_b69 : h0.size ≤ b69 := by rw [gb69]; exact Z0.1
        have F69_coder : Fld Z h69 b69 "java/lang/String" "coder" "B" (.int (0 : Int32)) := D69 (Or.inr (hw _ (List.mem_of_getElem? (i := 35) rfl))) (ty := .byte) (by decide)
        have F69_value : Fld Z h69 b69 "java/lang/String" "value" "[B" .null := D69 (Or.inr (hw _ (List.mem_of_getElem? (i := 37) rfl))) (ty := (.array .byte)) (by decide)
        refine OwnW.dup X69 (n := 46) d2_45 rfl rfl ?_
        refine OwnW.iconst X69 (z := (2 : Int32)) (n := 47) d2_46 rfl rfl ?_
        refine OwnW.newarray X69 (len := 2) (cap := 2) (n := 49) d2_47 (hw _ (List.mem_of_getElem? (i := 1) rfl)) rfl (by decide) (by decide) (by decide) (by decide) rfl ?_
        intro T70 h70 b70 gb70 X70 E70 A70
        have fk71 := (A0.keep K69 nin0)
        have ne_r0_b70 : r0 ≠ b70 := by rw [gb70]; exact Nat.ne_of_lt fk71.lt
        have ne_b69_b70 : b69 ≠ b70 := by rw [gb70]; exact Nat.ne_of_lt A69.lt
        have ge_b70 : n0 ≤ b70 := by rw [gb70]; exact OwnW.oldLe O69
        have K70 := (OwnW.kExt E70)
        have O70 := O69.keep K70 all0
        have Z70 : Keep h0 h70 [] := Z69.trans K70 (fun x hx => nomatch hx)
        have sz_b70 : h0.size ≤ b70 := by rw [gb70]; exact Z69.1
        replace A70 : Ark Z h70 b70 .char [(.int (0 : Int32)), (.int (0 : Int32))] := A70
        refine OwnW.dup X70 (n := 50) d2_49 rfl rfl ?_
        refine OwnW.iconst X70 (z := (0 : Int32)) (n := 51) d2_50 rfl rfl ?_
        refine OwnW.aloadN X70 (n := 52) d2_51 rfl rfl rfl ?_
        refine OwnW.iconst X70 (z := (0 : Int32)) (n := 53) d2_52 rfl rfl ?_
        have fk72 := (fk71.keep K70 nin0)
        refine OwnW.caload X70 (i := 0) (v := (.int f0)) (n := 54) d2_53 fk72 rfl rfl rfl ?_
        refine OwnW.castore X70 (i := 0) (z := f0) (n := 55) d2_54 A70 rfl (Nat.le_of_ble_eq_true rfl) (own_narC hb0.1 hb0.2) ge_b70 (List.mem_cons_self ..) rfl ?_
        intro T73 h73 X73 W73 A73
        have K73 := (Keep.of_wr W73)
        have O73 := O70.keep K73 (allS ge_b70 all0)
        have Z73 : Keep h0 h73 [] := Z70.trans K73 (allS (P := fun x => x ∈ [] ∨ h0.size ≤ x) (Or.inr sz_b70) all0)
        replace A73 : Ark Z h73 b70 .char [(.int f0), (.int (0 : Int32))] := A73
        refine OwnW.dup X73 (n := 56) d2_55 rfl rfl ?_
        refine OwnW.iconst X73 (z := (1 : Int32)) (n := 57) d2_56 rfl rfl ?_
        refine OwnW.aloadN X73 (n := 58) d2_57 rfl rfl rfl ?_
        refine OwnW.iconst X73 (z := (1 : Int32)) (n := 59) d2_58 rfl rfl ?_
        have fk74 := (fk72.keep K73 (ninS ne_r0_b70 nin0))
        refine OwnW.caload X73 (i := 1) (v := (.int f1)) (n := 60) d2_59 fk74 rfl rfl rfl ?_
        refine OwnW.castore X73 (i := 1) (z := f1) (n := 61) d2_60 A73 rfl (Nat.le_of_ble_eq_true rfl) (own_narC hb1.1 hb1.2) ge_b70 (List.mem_cons_self ..) rfl ?_
        intro T75 h75 X75 W75 A75
        have K75 := (Keep.of_wr W75)
        have O75 := O73.keep K75 (allS ge_b70 all0)
        have Z75 : Keep h0 h75 [] := Z73.trans K75 (allS (P := fun x => x ∈ [] ∨ h0.size ≤ x) (Or.inr sz_b70) all0)
        replace A75 : Ark Z h75 b70 .char [(.int f0), (.int f1)] := A75
        have fk76 := (((A69.keep K70).keep K73).keep K75)
        have fk77 := (((F69_value.keep K70 nin0).keep K73 (ninS ne_b69_b70 nin0)).keep K75 (ninS ne_b69_b70 nin0))
        have fk78 := (((F69_coder.keep K70 nin0).keep K73 (ninS ne_b69_b70 nin0)).keep K75 (ninS ne_b69_b70 nin0))
        have fk79 := (fk74.keep K75 (ninS ne_r0_b70 nin0))
        refine OwnW.call_special_n X75 (z := (⟨"java/lang/String", "<init>", "([C)V"⟩ : MethodName)) (a := b69) (n := 64) d2_61 (hw _ (List.mem_of_getElem? (i := 12) rfl)) (hw _ (List.mem_of_getElem? (i := 13) rfl)) (hw _ (List.mem_of_getElem? (i := 14) rfl)) (hw _ (List.mem_of_getElem? (i := 11) rfl)) rfl rfl (by decide) (rm3 l Z a0 hw hE [] b69 b70 h75 n0 O75 ge_b69 fk76 _ _ fk77 fk78 ([f0, f1] : List Int32) (own_aS hb0.2 (own_aS hb1.2 own_a0)) (by simp) (by simp) A75 ne_b69_b70 zc hzc S_compact) (OwnW.sfS (List.mem_cons_of_mem _ (List.mem_cons_self ..)) OwnW.sf0) (argsL := [(.ref b70)]) (rest := [(.ref b69)]) rfl rfl (OwnW.lenA pd___C_V rfl) (W := 1) (Nat.le_of_eq rfl) (by decide) (by decide) (by decide) (by decide) rfl ?_
        intro T80 h80 g80 hle80 X80 ⟨k80, t80, z80, S80⟩
        obtain ⟨se80, sc80, sv80, sa80⟩ := S80
        have K80 := k80
        have O80 := O75.keep K80 (allS ge_b69 all0)
        have Z80 : Keep h0 h80 [] := Z75.trans K80 (allS (P := fun x => x ∈ [] ∨ h0.size ≤ x) (Or.inr sz_b69) all0)
        have ne_r0_t80 : r0 ≠ t80 := Nat.ne_of_lt (Nat.lt_of_lt_of_le fk79.lt z80)
        have ne_b69_t80 : b69 ≠ t80 := Nat.ne_of_lt (Nat.lt_of_lt_of_le fk76.lt z80)
        have ne_b70_t80 : b70 ≠ t80 := Nat.ne_of_lt (Nat.lt_of_lt_of_le A75.lt z80)
        have zz80 : h0.size ≤ t80 := Nat.le_trans Z75.1 z80
        exact OwnW.areturn X80 rfl rfl rfl d2_64 ⟨b69, t80, rfl, Z80, sz_b69, by simp only [own_take, hc1, hc17, hc39, if_true, if_false, reduceIte]; exact ⟨se80, sc80, sv80, sa80⟩⟩ (by decide) (by decide)
    · refine OwnW.new X0 (C := "java/lang/String") (k := 4) (n := 23) d2_20 (hw _ (List.mem_of_getElem? (i := 9) rfl)) (hw _ (List.mem_of_getElem? (i := 10) rfl)) (hw _ (List.mem_of_getElem? (i := 11) rfl)) (by decide) (by decide) rfl ?_
      intro T81 h81 b81 gb81 X81 E81 A81 D81 U81
      have ne_r0_b81 : r0 ≠ b81 := by rw [gb81]; exact Nat.ne_of_lt A0.lt
      have ge_b81 : n0 ≤ b81 := by rw [gb81]; exact OwnW.oldLe O0
      have K81 := (OwnW.kExt E81)
      have O81 := O0.keep K81 all0
      have Z81 : Keep h0 h81 [] := Z0.trans K81 (fun x hx => nomatch hx)
      have sz_b81 : h0.size ≤ b81 := by rw [gb81]; exact Z0.1
      have F81_coder : Fld Z h81 b81 "java/lang/String" "coder" "B" (.int (0 : Int32)) := D81 (Or.inr (hw _ (List.mem_of_getElem? (i := 35) rfl))) (ty := .byte) (by decide)
      have F81_value : Fld Z h81 b81 "java/lang/String" "value" "[B" .null := D81 (Or.inr (hw _ (List.mem_of_getElem? (i := 37) rfl))) (ty := (.array .byte)) (by decide)
      refine OwnW.dup X81 (n := 24) d2_23 rfl rfl ?_
      refine OwnW.iconst X81 (z := (1 : Int32)) (n := 25) d2_24 rfl rfl ?_
      refine OwnW.newarray X81 (len := 1) (cap := 1) (n := 27) d2_25 (hw _ (List.mem_of_getElem? (i := 1) rfl)) rfl (by decide) (by decide) (by decide) (by decide) rfl ?_
      intro T82 h82 b82 gb82 X82 E82 A82
      have fk83 := (A0.keep K81 nin0)
      have ne_r0_b82 : r0 ≠ b82 := by rw [gb82]; exact Nat.ne_of_lt fk83.lt
      have ne_b81_b82 : b81 ≠ b82 := by rw [gb82]; exact Nat.ne_of_lt A81.lt
      have ge_b82 : n0 ≤ b82 := by rw [gb82]; exact OwnW.oldLe O81
      have K82 := (OwnW.kExt E82)
      have O82 := O81.keep K82 all0
      have Z82 : Keep h0 h82 [] := Z81.trans K82 (fun x hx => nomatch hx)
      have sz_b82 : h0.size ≤ b82 := by rw [gb82]; exact Z81.1
      replace A82 : Ark Z h82 b82 .char [(.int (0 : Int32))] := A82
      refine OwnW.dup X82 (n := 28) d2_27 rfl rfl ?_
      refine OwnW.iconst X82 (z := (0 : Int32)) (n := 29) d2_28 rfl rfl ?_
      refine OwnW.aloadN X82 (n := 30) d2_29 rfl rfl rfl ?_
      refine OwnW.iconst X82 (z := (0 : Int32)) (n := 31) d2_30 rfl rfl ?_
      have fk84 := (fk83.keep K82 nin0)
      refine OwnW.caload X82 (i := 0) (v := (.int f0)) (n := 32) d2_31 fk84 rfl rfl rfl ?_
      refine OwnW.castore X82 (i := 0) (z := f0) (n := 33) d2_32 A82 rfl (Nat.le_of_ble_eq_true rfl) (own_narC hb0.1 hb0.2) ge_b82 (List.mem_cons_self ..) rfl ?_
      intro T85 h85 X85 W85 A85
      have K85 := (Keep.of_wr W85)
      have O85 := O82.keep K85 (allS ge_b82 all0)
      have Z85 : Keep h0 h85 [] := Z82.trans K85 (allS (P := fun x => x ∈ [] ∨ h0.size ≤ x) (Or.inr sz_b82) all0)
      replace A85 : Ark Z h85 b82 .char [(.int f0)] := A85
      have fk86 := ((A81.keep K82).keep K85)
      have fk87 := ((F81_value.keep K82 nin0).keep K85 (ninS ne_b81_b82 nin0))
      have fk88 := ((F81_coder.keep K82 nin0).keep K85 (ninS ne_b81_b82 nin0))
      have fk89 := (fk84.keep K85 (ninS ne_r0_b82 nin0))
      refine OwnW.call_special_n X85 (z := (⟨"java/lang/String", "<init>", "([C)V"⟩ : MethodName)) (a := b81) (n := 36) d2_33 (hw _ (List.mem_of_getElem? (i := 12) rfl)) (hw _ (List.mem_of_getElem? (i := 13) rfl)) (hw _ (List.mem_of_getElem? (i := 14) rfl)) (hw _ (List.mem_of_getElem? (i := 11) rfl)) rfl rfl (by decide) (rm3 l Z a0 hw hE [] b81 b82 h85 n0 O85 ge_b81 fk86 _ _ fk87 fk88 ([f0] : List Int32) (own_aS hb0.2 own_a0) (by simp) (by simp) A85 ne_b81_b82 zc hzc S_compact) (OwnW.sfS (List.mem_cons_of_mem _ (List.mem_cons_self ..)) OwnW.sf0) (argsL := [(.ref b82)]) (rest := [(.ref b81)]) rfl rfl (OwnW.lenA pd___C_V rfl) (W := 1) (Nat.le_of_eq rfl) (by decide) (by decide) (by decide) (by decide) rfl ?_
      intro T90 h90 g90 hle90 X90 ⟨k90, t90, z90, S90⟩
      obtain ⟨se90, sc90, sv90, sa90⟩ := S90
      have K90 := k90
      have O90 := O85.keep K90 (allS ge_b81 all0)
      have Z90 : Keep h0 h90 [] := Z85.trans K90 (allS (P := fun x => x ∈ [] ∨ h0.size ≤ x) (Or.inr sz_b81) all0)
      have ne_r0_t90 : r0 ≠ t90 := Nat.ne_of_lt (Nat.lt_of_lt_of_le fk89.lt z90)
      have ne_b81_t90 : b81 ≠ t90 := Nat.ne_of_lt (Nat.lt_of_lt_of_le fk86.lt z90)
      have ne_b82_t90 : b82 ≠ t90 := Nat.ne_of_lt (Nat.lt_of_lt_of_le A85.lt z90)
      have zz90 : h0.size ≤ t90 := Nat.le_trans Z85.1 z90
      exact OwnW.areturn X90 rfl rfl rfl d2_36 ⟨b81, t90, rfl, Z90, sz_b81, by simp only [own_take, hc1, hc17, if_true, if_false, reduceIte]; exact ⟨se90, sc90, sv90, sa90⟩⟩ (by decide) (by decide)
  · refine OwnW.new X0 (C := "java/lang/String") (k := 4) (n := 7) d2_4 (hw _ (List.mem_of_getElem? (i := 9) rfl)) (hw _ (List.mem_of_getElem? (i := 10) rfl)) (hw _ (List.mem_of_getElem? (i := 11) rfl)) (by decide) (by decide) rfl ?_
    intro T91 h91 b91 gb91 X91 E91 A91 D91 U91
    have ne_r0_b91 : r0 ≠ b91 := by rw [gb91]; exact Nat.ne_of_lt A0.lt
    have ge_b91 : n0 ≤ b91 := by rw [gb91]; exact OwnW.oldLe O0
    have K91 := (OwnW.kExt E91)
    have O91 := O0.keep K91 all0
    have Z91 : Keep h0 h91 [] := Z0.trans K91 (fun x hx => nomatch hx)
    have sz_b91 : h0.size ≤ b91 := by rw [gb91]; exact Z0.1
    have F91_coder : Fld Z h91 b91 "java/lang/String" "coder" "B" (.int (0 : Int32)) := D91 (Or.inr (hw _ (List.mem_of_getElem? (i := 35) rfl))) (ty := .byte) (by decide)
    have F91_value : Fld Z h91 b91 "java/lang/String" "value" "[B" .null := D91 (Or.inr (hw _ (List.mem_of_getElem? (i := 37) rfl))) (ty := (.array .byte)) (by decide)
    refine OwnW.dup X91 (n := 8) d2_7 rfl rfl ?_
    refine OwnW.iconst X91 (z := (0 : Int32)) (n := 9) d2_8 rfl rfl ?_
    refine OwnW.newarray X91 (len := 0) (cap := 0) (n := 11) d2_9 (hw _ (List.mem_of_getElem? (i := 1) rfl)) rfl (by decide) (by decide) (by decide) (by decide) rfl ?_
    intro T92 h92 b92 gb92 X92 E92 A92
    have fk93 := (A0.keep K91 nin0)
    have ne_r0_b92 : r0 ≠ b92 := by rw [gb92]; exact Nat.ne_of_lt fk93.lt
    have ne_b91_b92 : b91 ≠ b92 := by rw [gb92]; exact Nat.ne_of_lt A91.lt
    have ge_b92 : n0 ≤ b92 := by rw [gb92]; exact OwnW.oldLe O91
    have K92 := (OwnW.kExt E92)
    have O92 := O91.keep K92 all0
    have Z92 : Keep h0 h92 [] := Z91.trans K92 (fun x hx => nomatch hx)
    have sz_b92 : h0.size ≤ b92 := by rw [gb92]; exact Z91.1
    replace A92 : Ark Z h92 b92 .char [] := A92
    have fk94 := (A91.keep K92)
    have fk95 := (F91_value.keep K92 nin0)
    have fk96 := (F91_coder.keep K92 nin0)
    have fk97 := (fk93.keep K92 nin0)
    refine OwnW.call_special_n X92 (z := (⟨"java/lang/String", "<init>", "([C)V"⟩ : MethodName)) (a := b91) (n := 14) d2_11 (hw _ (List.mem_of_getElem? (i := 12) rfl)) (hw _ (List.mem_of_getElem? (i := 13) rfl)) (hw _ (List.mem_of_getElem? (i := 14) rfl)) (hw _ (List.mem_of_getElem? (i := 11) rfl)) rfl rfl (by decide) (rm3e l Z a0 hw hE [] b91 b92 h92 n0 O92 [] ge_b91 fk94 _ _ fk95 fk96 A92) (OwnW.sfS (List.mem_cons_of_mem _ (List.mem_cons_self ..)) OwnW.sf0) (argsL := [(.ref b92)]) (rest := [(.ref b91)]) rfl rfl (OwnW.lenA pd___C_V rfl) (W := 1) (Nat.le_of_eq rfl) (by decide) (by decide) (by decide) (by decide) rfl ?_
    intro T98 h98 g98 hle98 X98 ⟨k98, t98, nx98, S98⟩
    obtain ⟨se98, sc98, sv98, sa98⟩ := S98
    have K98 := k98
    have O98 := O92.keep K98 (allS ge_b91 all0)
    have Z98 : Keep h0 h98 [] := Z92.trans K98 (allS (P := fun x => x ∈ [] ∨ h0.size ≤ x) (Or.inr sz_b91) all0)
    exact OwnW.areturn X98 rfl rfl rfl d2_14 ⟨b91, t98, rfl, Z98, sz_b91, by simp only [own_take, hc1, if_true, if_false, reduceIte]; exact ⟨se98, sc98, sv98, sa98⟩⟩ (by decide) (by decide)
theorem pd____Lcom_example_beholden_beholden_policy_Sort_ : parseMethodDescriptor "()[Lcom/example/beholden/beholden/policy/Sort;" = some ⟨[], some (.array (.object "com/example/beholden/beholden/policy/Sort"))⟩ := by decide +kernel
theorem pd__Ljava_lang_Object__Z : parseMethodDescriptor "(Ljava/lang/Object;)Z" = some ⟨[(.object "java/lang/Object")], some .boolean⟩ := by decide +kernel
theorem d9_0 : decode prog_74_method_4_code 0 = .ok (.aconst_null, 1) := by decide +kernel
theorem d9_1 : decode prog_74_method_4_code 1 = .ok (.astore_n 1, 1) := by decide +kernel
theorem d9_2 : decode prog_74_method_4_code 2 = .ok (.invokestatic 36, 3) := by decide +kernel
theorem d9_5 : decode prog_74_method_4_code 5 = .ok (.astore_n 2, 1) := by decide +kernel
theorem d9_6 : decode prog_74_method_4_code 6 = .ok (.aload_n 2, 1) := by decide +kernel
theorem d9_7 : decode prog_74_method_4_code 7 = .ok (.arraylength, 1) := by decide +kernel
theorem d9_8 : decode prog_74_method_4_code 8 = .ok (.istore_n 3, 1) := by decide +kernel
theorem d9_9 : decode prog_74_method_4_code 9 = .ok (.iconst 0, 1) := by decide +kernel
theorem d9_10 : decode prog_74_method_4_code 10 = .ok (.istore 4, 2) := by decide +kernel
theorem d9_12 : decode prog_74_method_4_code 12 = .ok (.iload 4, 2) := by decide +kernel
theorem d9_14 : decode prog_74_method_4_code 14 = .ok (.iload_n 3, 1) := by decide +kernel
theorem d9_15 : decode prog_74_method_4_code 15 = .ok (.if_icmp .ge 30, 3) := by decide +kernel
theorem d9_18 : decode prog_74_method_4_code 18 = .ok (.aload_n 2, 1) := by decide +kernel
theorem d9_19 : decode prog_74_method_4_code 19 = .ok (.iload 4, 2) := by decide +kernel
theorem d9_21 : decode prog_74_method_4_code 21 = .ok (.aaload, 1) := by decide +kernel
theorem d9_22 : decode prog_74_method_4_code 22 = .ok (.astore 5, 2) := by decide +kernel
theorem d9_24 : decode prog_74_method_4_code 24 = .ok (.aload 5, 2) := by decide +kernel
theorem d9_26 : decode prog_74_method_4_code 26 = .ok (.getfield 29, 3) := by decide +kernel
theorem d9_29 : decode prog_74_method_4_code 29 = .ok (.aload_n 0, 1) := by decide +kernel
theorem d9_30 : decode prog_74_method_4_code 30 = .ok (.invokevirtual 40, 3) := by decide +kernel
theorem d9_33 : decode prog_74_method_4_code 33 = .ok (.ifCond .eq 6, 3) := by decide +kernel
theorem d9_36 : decode prog_74_method_4_code 36 = .ok (.aload 5, 2) := by decide +kernel
theorem d9_38 : decode prog_74_method_4_code 38 = .ok (.astore_n 1, 1) := by decide +kernel
theorem d9_39 : decode prog_74_method_4_code 39 = .ok (.iinc 4 1, 3) := by decide +kernel
theorem d9_42 : decode prog_74_method_4_code 42 = .ok (.goto (-30), 3) := by decide +kernel
theorem d9_45 : decode prog_74_method_4_code 45 = .ok (.aload_n 1, 1) := by decide +kernel
theorem d9_46 : decode prog_74_method_4_code 46 = .ok (.areturn, 1) := by decide +kernel
theorem ef_rmK (m : MethodId) (x0 : Addr) : entryFrame m #[(.ref x0)] 6 = mkF m 0 #[.val (.ref x0), .unset, .unset, .unset, .unset, .unset] [] := by first | (simp [entryFrame, mkF, argsToLocals, Value.category]; done) | rfl
set_option maxRecDepth 65536 in
set_option maxHeartbeats 40000000 in
theorem rmK (l : Launch) (Z : State) (a0 : Array Value) (hw : ∀ d ∈ tables_1, d.before a0 Z = true) (hE : EW Z a0 own_EL) (ws : List Jvm.Cond) (r0 : Addr) (h0 : Heap) (n0 : Nat) (O0 : Old Z n0 h0) (a__VALUES : Addr) (S__VALUES : Sta Z Z.heap "com/example/beholden/beholden/policy/Sort" "$VALUES" "[Lcom/example/beholden/beholden/policy/Sort;" (.ref a__VALUES)) (E__VALUES : Exa Z Z.heap a__VALUES "[Lcom/example/beholden/beholden/policy/Sort;") (a_AGENT : Addr) (S_AGENT : Sta Z Z.heap "com/example/beholden/beholden/policy/Sort" "AGENT" "Lcom/example/beholden/beholden/policy/Sort;" (.ref a_AGENT)) (E_AGENT : Exa Z Z.heap a_AGENT "com/example/beholden/beholden/policy/Sort") (a_DATA : Addr) (S_DATA : Sta Z Z.heap "com/example/beholden/beholden/policy/Sort" "DATA" "Lcom/example/beholden/beholden/policy/Sort;" (.ref a_DATA)) (E_DATA : Exa Z Z.heap a_DATA "com/example/beholden/beholden/policy/Sort") (a_AGENT_keyword : Addr) (F_AGENT_keyword : Fld Z Z.heap a_AGENT "com/example/beholden/beholden/policy/Sort" "keyword" "Ljava/lang/String;" (.ref a_AGENT_keyword)) (E_AGENT_keyword : Exa Z Z.heap a_AGENT_keyword "java/lang/String") (F_AGENT_keyword_coder : Fld Z Z.heap a_AGENT_keyword "java/lang/String" "coder" "B" (.int (0 : Int32))) (a_AGENT_keyword_value : Addr) (F_AGENT_keyword_value : Fld Z Z.heap a_AGENT_keyword "java/lang/String" "value" "[B" (.ref a_AGENT_keyword_value)) (a_DATA_keyword : Addr) (F_DATA_keyword : Fld Z Z.heap a_DATA "com/example/beholden/beholden/policy/Sort" "keyword" "Ljava/lang/String;" (.ref a_DATA_keyword)) (E_DATA_keyword : Exa Z Z.heap a_DATA_keyword "java/lang/String") (F_DATA_keyword_coder : Fld Z Z.heap a_DATA_keyword "java/lang/String" "coder" "B" (.int (0 : Int32))) (a_DATA_keyword_value : Addr) (F_DATA_keyword_value : Fld Z Z.heap a_DATA_keyword "java/lang/String" "value" "[B" (.ref a_DATA_keyword_value)) (A__VALUES : Ark Z Z.heap a__VALUES (.object "com/example/beholden/beholden/policy/Sort") [(.ref a_AGENT), (.ref a_DATA)]) (A_AGENT_keyword_value : Ark Z Z.heap a_AGENT_keyword_value .byte [(.int (97 : Int32)), (.int (103 : Int32)), (.int (101 : Int32)), (.int (110 : Int32)), (.int (116 : Int32))]) (A_DATA_keyword_value : Ark Z Z.heap a_DATA_keyword_value .byte [(.int (100 : Int32)), (.int (97 : Int32)), (.int (116 : Int32)), (.int (97 : Int32))]) (t : Addr) (ds : List Int32) (hds : Lat ds) (S1 : StrL Z h0 r0 t ds) (zc : Int32) (hzc : ¬ zc = 0) (S_compact : Sta Z Z.heap "java/lang/String" "COMPACT_STRINGS" "Z" (.int zc)) :
    Ctr False l Z own_EL (⟨"com/example/beholden/beholden/policy/Sort", "ofKeyword", "(Ljava/lang/String;)Lcom/example/beholden/beholden/policy/Sort;"⟩ : MethodName) prog_74_method_4_code 6 (some (.object "com/example/beholden/beholden/policy/Sort")) ws ({ frames := 3, cells := 1, slots := 2, locals := 39 } : Room) n0 ([]) #[(.ref r0)] h0 (Rt (fun w h g => ((ds = own_agent ∧ w = .ref a_AGENT) ∨ (¬ ds = own_agent ∧ ds = own_data ∧ w = .ref a_DATA) ∨ (¬ ds = own_agent ∧ ¬ ds = own_data ∧ w = .null)) ∧ Keep h0 h [])) := by
  refine Ctr.of (plainFor_of_name pn_com_example_beholden_beholden_policy_Sort) hE (fun m => ef_rmK m r0) ?_
  intro p e s m below meth c T0 X0
  have Z0 : Keep h0 h0 [] := Keep.refl _ _
  refine OwnW.anull X0 (n := 1) d9_0 rfl ?_
  refine OwnW.astoreN X0 (l' := #[.val (.ref r0), .val .null, .unset, .unset, .unset, .unset]) (n := 2) d9_1 rfl rfl rfl ?_
  refine OwnW.call_static_v X0 (z := (⟨"com/example/beholden/beholden/policy/Sort", "values", "()[Lcom/example/beholden/beholden/policy/Sort;"⟩ : MethodName)) (n := 5) d9_2 (hw _ (List.mem_of_getElem? (i := 42) rfl)) (hw _ (List.mem_of_getElem? (i := 43) rfl)) (hw _ (List.mem_of_getElem? (i := 44) rfl)) (hw _ (List.mem_of_getElem? (i := 40) rfl)) (by decide) (rm10 l Z a0 hw hE [] h0 n0 O0 a__VALUES S__VALUES E__VALUES a_AGENT S_AGENT E_AGENT a_DATA S_DATA E_DATA a_AGENT_keyword F_AGENT_keyword E_AGENT_keyword F_AGENT_keyword_coder a_AGENT_keyword_value F_AGENT_keyword_value a_DATA_keyword F_DATA_keyword E_DATA_keyword F_DATA_keyword_coder a_DATA_keyword_value F_DATA_keyword_value A__VALUES A_AGENT_keyword_value A_DATA_keyword_value) OwnW.sf0 (argsL := []) (rest := []) rfl rfl (OwnW.lenA pd____Lcom_example_beholden_beholden_policy_Sort_ rfl) (W := 0) (Nat.le_of_eq rfl) (by decide) (by decide) (by decide) (by decide) rfl ?_
  intro T1 h1 w1 g1 hle1 X1 ⟨bb, q1, k1, z1, A1⟩
  subst q1
  have K1 := k1
  have O1 := O0.keep K1 all0
  have Z1 : Keep h0 h1 [] := Z0.trans K1 (fun x hx => nomatch hx)
  have S2 := S1.keep k1 nin0 nin0
  refine OwnW.astoreN X1 (l' := #[.val (.ref r0), .val .null, .val (.ref bb), .unset, .unset, .unset]) (n := 6) d9_5 rfl rfl rfl ?_
  refine OwnW.aloadN X1 (n := 7) d9_6 rfl rfl rfl ?_
  refine OwnW.arraylength X1 (z := (2 : Int32)) (n := 8) d9_7 A1 rfl rfl ?_
  refine OwnW.istoreN X1 (l' := #[.val (.ref r0), .val .null, .val (.ref bb), .val (.int (2 : Int32)), .unset, .unset]) (n := 9) d9_8 rfl rfl ?_
  refine OwnW.iconst X1 (z := (0 : Int32)) (n := 10) d9_9 rfl rfl ?_
  refine OwnW.istore X1 (l' := #[.val (.ref r0), .val .null, .val (.ref bb), .val (.int (2 : Int32)), .val (.int (0 : Int32)), .unset]) (n := 12) d9_10 rfl rfl ?_
  refine OwnW.iload X1 (n := 14) d9_12 rfl rfl ?_
  refine OwnW.iloadN X1 (n := 15) d9_14 rfl rfl ?_
  refine OwnW.ic_ge X1  (n1 := 45) (n2 := 18) d9_15 (by decide) rfl rfl (fun q => absurd ((by decide) : (0 : Int32) < (2 : Int32)) q) (fun _ => ?_)
  refine OwnW.aloadN X1 (n := 19) d9_18 rfl rfl rfl ?_
  refine OwnW.iload X1 (n := 21) d9_19 rfl rfl ?_
  refine OwnW.aaload X1 (i := 0) (v := (.ref a_AGENT)) (n := 22) d9_21 A1 rfl rfl rfl rfl ?_
  refine OwnW.astore X1 (l' := #[.val (.ref r0), .val .null, .val (.ref bb), .val (.int (2 : Int32)), .val (.int (0 : Int32)), .val (.ref a_AGENT)]) (n := 24) d9_22 rfl rfl rfl ?_
  refine OwnW.aload X1 (n := 26) d9_24 rfl rfl rfl ?_
  refine OwnW.getfield X1 (n := 29) d9_26 (hw _ (List.mem_of_getElem? (i := 59) rfl)) Via.refl (F_AGENT_keyword.ext O1.2) rfl ?_
  intro T2 X2
  refine OwnW.aloadN X2 (n := 30) d9_29 rfl rfl rfl ?_
  refine OwnW.call_virtual_v X2 (z := (⟨"java/lang/String", "equals", "(Ljava/lang/Object;)Z"⟩ : MethodName)) (yv := (⟨"java/lang/String", "equals", "(Ljava/lang/Object;)Z"⟩ : MethodName)) (a := a_AGENT_keyword) (C := "java/lang/String") (n := 33) d9_30 (hw _ (List.mem_of_getElem? (i := 61) rfl)) (hw _ (List.mem_of_getElem? (i := 62) rfl)) (hw _ (List.mem_of_getElem? (i := 63) rfl)) (hw _ (List.mem_of_getElem? (i := 64) rfl)) (fun hz => notFace_of_selects (args := #[]) (mvT hz (hw _ (List.mem_of_getElem? (i := 64) rfl)))) (hw _ (List.mem_of_getElem? (i := 65) rfl)) (hw _ (List.mem_of_getElem? (i := 11) rfl)) (by decide) (E_AGENT_keyword.ext O1.2) (rm11 l Z a0 hw hE [] a_AGENT_keyword r0 h1 n0 O1 _ _ own_agent ds own_agL hds (StrL.ext (cs := own_agent) ⟨E_AGENT_keyword, F_AGENT_keyword_coder, F_AGENT_keyword_value, A_AGENT_keyword_value⟩ O1.2) S2 zc hzc S_compact) OwnW.sf0 (argsL := [(.ref r0)]) (rest := []) rfl rfl (OwnW.lenA pd__Ljava_lang_Object__Z rfl) (W := 0) (Nat.le_of_eq rfl) (by decide) (by decide) (by decide) (by decide) rfl ?_
  intro T3 h3 w3 g3 hle3 X3 ⟨q1, q2⟩
  subst q1 q2
  refine OwnW.if_eq X3  (n1 := 39) (n2 := 36) d9_33 (by decide) rfl rfl (fun hc33 => ?_) (fun hc33 => ?_)
  · refine OwnW.iinc X3 (z := (1 : Int32)) (u := (1 : Int32)) (l' := #[.val (.ref r0), .val .null, .val (.ref bb), .val (.int (2 : Int32)), .val (.int (1 : Int32)), .val (.ref a_AGENT)]) (n := 42) d9_39 rfl rfl rfl rfl rfl ?_
    refine OwnW.goto X3 (n := 12) d9_42 (by decide) rfl ?_
    refine OwnW.iload X3 (n := 14) d9_12 rfl rfl ?_
    refine OwnW.iloadN X3 (n := 15) d9_14 rfl rfl ?_
    refine OwnW.ic_ge X3  (n1 := 45) (n2 := 18) d9_15 (by decide) rfl rfl (fun q => absurd ((by decide) : (1 : Int32) < (2 : Int32)) q) (fun _ => ?_)
    refine OwnW.aloadN X3 (n := 19) d9_18 rfl rfl rfl ?_
    refine OwnW.iload X3 (n := 21) d9_19 rfl rfl ?_
    refine OwnW.aaload X3 (i := 1) (v := (.ref a_DATA)) (n := 22) d9_21 A1 rfl rfl rfl rfl ?_
    refine OwnW.astore X3 (l' := #[.val (.ref r0), .val .null, .val (.ref bb), .val (.int (2 : Int32)), .val (.int (1 : Int32)), .val (.ref a_DATA)]) (n := 24) d9_22 rfl rfl rfl ?_
    refine OwnW.aload X3 (n := 26) d9_24 rfl rfl rfl ?_
    refine OwnW.getfield X3 (n := 29) d9_26 (hw _ (List.mem_of_getElem? (i := 59) rfl)) Via.refl (F_DATA_keyword.ext O1.2) rfl ?_
    intro T4 X4
    refine OwnW.aloadN X4 (n := 30) d9_29 rfl rfl rfl ?_
    refine OwnW.call_virtual_v X4 (z := (⟨"java/lang/String", "equals", "(Ljava/lang/Object;)Z"⟩ : MethodName)) (yv := (⟨"java/lang/String", "equals", "(Ljava/lang/Object;)Z"⟩ : MethodName)) (a := a_DATA_keyword) (C := "java/lang/String") (n := 33) d9_30 (hw _ (List.mem_of_getElem? (i := 61) rfl)) (hw _ (List.mem_of_getElem? (i := 62) rfl)) (hw _ (List.mem_of_getElem? (i := 63) rfl)) (hw _ (List.mem_of_getElem? (i := 64) rfl)) (fun hz => notFace_of_selects (args := #[]) (mvT hz (hw _ (List.mem_of_getElem? (i := 64) rfl)))) (hw _ (List.mem_of_getElem? (i := 65) rfl)) (hw _ (List.mem_of_getElem? (i := 11) rfl)) (by decide) (E_DATA_keyword.ext O1.2) (rm11 l Z a0 hw hE [] a_DATA_keyword r0 h1 n0 O1 _ _ own_data ds own_daL hds (StrL.ext (cs := own_data) ⟨E_DATA_keyword, F_DATA_keyword_coder, F_DATA_keyword_value, A_DATA_keyword_value⟩ O1.2) S2 zc hzc S_compact) OwnW.sf0 (argsL := [(.ref r0)]) (rest := []) rfl rfl (OwnW.lenA pd__Ljava_lang_Object__Z rfl) (W := 0) (Nat.le_of_eq rfl) (by decide) (by decide) (by decide) (by decide) rfl ?_
    intro T5 h5 w5 g5 hle5 X5 ⟨q1, q2⟩
    subst q1 q2
    refine OwnW.if_eq X5  (n1 := 39) (n2 := 36) d9_33 (by decide) rfl rfl (fun hc33_6 => ?_) (fun hc33_6 => ?_)
    · refine OwnW.iinc X5 (z := (1 : Int32)) (u := (2 : Int32)) (l' := #[.val (.ref r0), .val .null, .val (.ref bb), .val (.int (2 : Int32)), .val (.int (2 : Int32)), .val (.ref a_DATA)]) (n := 42) d9_39 rfl rfl rfl rfl rfl ?_
      refine OwnW.goto X5 (n := 12) d9_42 (by decide) rfl ?_
      refine OwnW.iload X5 (n := 14) d9_12 rfl rfl ?_
      refine OwnW.iloadN X5 (n := 15) d9_14 rfl rfl ?_
      refine OwnW.ic_ge X5  (n1 := 45) (n2 := 18) d9_15 (by decide) rfl rfl (fun _ => ?_) (fun q => absurd q ((by decide) : ¬ (2 : Int32) < (2 : Int32)))
      refine OwnW.aloadN X5 (n := 46) d9_45 rfl rfl rfl ?_
      exact OwnW.areturn X5 rfl rfl rfl d9_46 ⟨by have e0 : ¬ ds = own_agent := (own_iteZ hc33); have e1 : ¬ ds = own_data := (own_iteZ hc33_6); exact Or.inr (Or.inr ⟨e0, e1, rfl⟩), Z1⟩ (by decide) (by decide)
    · refine OwnW.aload X5 (n := 38) d9_36 rfl rfl rfl ?_
      refine OwnW.astoreN X5 (l' := #[.val (.ref r0), .val (.ref a_DATA), .val (.ref bb), .val (.int (2 : Int32)), .val (.int (1 : Int32)), .val (.ref a_DATA)]) (n := 39) d9_38 rfl rfl rfl ?_
      refine OwnW.iinc X5 (z := (1 : Int32)) (u := (2 : Int32)) (l' := #[.val (.ref r0), .val (.ref a_DATA), .val (.ref bb), .val (.int (2 : Int32)), .val (.int (2 : Int32)), .val (.ref a_DATA)]) (n := 42) d9_39 rfl rfl rfl rfl rfl ?_
      refine OwnW.goto X5 (n := 12) d9_42 (by decide) rfl ?_
      refine OwnW.iload X5 (n := 14) d9_12 rfl rfl ?_
      refine OwnW.iloadN X5 (n := 15) d9_14 rfl rfl ?_
      refine OwnW.ic_ge X5  (n1 := 45) (n2 := 18) d9_15 (by decide) rfl rfl (fun _ => ?_) (fun q => absurd q ((by decide) : ¬ (2 : Int32) < (2 : Int32)))
      refine OwnW.aloadN X5 (n := 46) d9_45 rfl rfl rfl ?_
      exact OwnW.areturn X5 rfl rfl rfl d9_46 ⟨by have e0 : ¬ ds = own_agent := (own_iteZ hc33); have e1 : ds = own_data := (own_iteN hc33_6); exact Or.inr (Or.inl ⟨e0, e1, rfl⟩), Z1⟩ (by decide) (by decide)
  · refine OwnW.aload X3 (n := 38) d9_36 rfl rfl rfl ?_
    refine OwnW.astoreN X3 (l' := #[.val (.ref r0), .val (.ref a_AGENT), .val (.ref bb), .val (.int (2 : Int32)), .val (.int (0 : Int32)), .val (.ref a_AGENT)]) (n := 39) d9_38 rfl rfl rfl ?_
    refine OwnW.iinc X3 (z := (1 : Int32)) (u := (1 : Int32)) (l' := #[.val (.ref r0), .val (.ref a_AGENT), .val (.ref bb), .val (.int (2 : Int32)), .val (.int (1 : Int32)), .val (.ref a_AGENT)]) (n := 42) d9_39 rfl rfl rfl rfl rfl ?_
    refine OwnW.goto X3 (n := 12) d9_42 (by decide) rfl ?_
    refine OwnW.iload X3 (n := 14) d9_12 rfl rfl ?_
    refine OwnW.iloadN X3 (n := 15) d9_14 rfl rfl ?_
    refine OwnW.ic_ge X3  (n1 := 45) (n2 := 18) d9_15 (by decide) rfl rfl (fun q => absurd ((by decide) : (1 : Int32) < (2 : Int32)) q) (fun _ => ?_)
    refine OwnW.aloadN X3 (n := 19) d9_18 rfl rfl rfl ?_
    refine OwnW.iload X3 (n := 21) d9_19 rfl rfl ?_
    refine OwnW.aaload X3 (i := 1) (v := (.ref a_DATA)) (n := 22) d9_21 A1 rfl rfl rfl rfl ?_
    refine OwnW.astore X3 (l' := #[.val (.ref r0), .val (.ref a_AGENT), .val (.ref bb), .val (.int (2 : Int32)), .val (.int (1 : Int32)), .val (.ref a_DATA)]) (n := 24) d9_22 rfl rfl rfl ?_
    refine OwnW.aload X3 (n := 26) d9_24 rfl rfl rfl ?_
    refine OwnW.getfield X3 (n := 29) d9_26 (hw _ (List.mem_of_getElem? (i := 59) rfl)) Via.refl (F_DATA_keyword.ext O1.2) rfl ?_
    intro T7 X7
    refine OwnW.aloadN X7 (n := 30) d9_29 rfl rfl rfl ?_
    refine OwnW.call_virtual_v X7 (z := (⟨"java/lang/String", "equals", "(Ljava/lang/Object;)Z"⟩ : MethodName)) (yv := (⟨"java/lang/String", "equals", "(Ljava/lang/Object;)Z"⟩ : MethodName)) (a := a_DATA_keyword) (C := "java/lang/String") (n := 33) d9_30 (hw _ (List.mem_of_getElem? (i := 61) rfl)) (hw _ (List.mem_of_getElem? (i := 62) rfl)) (hw _ (List.mem_of_getElem? (i := 63) rfl)) (hw _ (List.mem_of_getElem? (i := 64) rfl)) (fun hz => notFace_of_selects (args := #[]) (mvT hz (hw _ (List.mem_of_getElem? (i := 64) rfl)))) (hw _ (List.mem_of_getElem? (i := 65) rfl)) (hw _ (List.mem_of_getElem? (i := 11) rfl)) (by decide) (E_DATA_keyword.ext O1.2) (rm11 l Z a0 hw hE [] a_DATA_keyword r0 h1 n0 O1 _ _ own_data ds own_daL hds (StrL.ext (cs := own_data) ⟨E_DATA_keyword, F_DATA_keyword_coder, F_DATA_keyword_value, A_DATA_keyword_value⟩ O1.2) S2 zc hzc S_compact) OwnW.sf0 (argsL := [(.ref r0)]) (rest := []) rfl rfl (OwnW.lenA pd__Ljava_lang_Object__Z rfl) (W := 0) (Nat.le_of_eq rfl) (by decide) (by decide) (by decide) (by decide) rfl ?_
    intro T8 h8 w8 g8 hle8 X8 ⟨q1, q2⟩
    subst q1 q2
    refine OwnW.if_eq X8  (n1 := 39) (n2 := 36) d9_33 (by decide) rfl rfl (fun hc33_9 => ?_) (fun hc33_9 => ?_)
    · refine OwnW.iinc X8 (z := (1 : Int32)) (u := (2 : Int32)) (l' := #[.val (.ref r0), .val (.ref a_AGENT), .val (.ref bb), .val (.int (2 : Int32)), .val (.int (2 : Int32)), .val (.ref a_DATA)]) (n := 42) d9_39 rfl rfl rfl rfl rfl ?_
      refine OwnW.goto X8 (n := 12) d9_42 (by decide) rfl ?_
      refine OwnW.iload X8 (n := 14) d9_12 rfl rfl ?_
      refine OwnW.iloadN X8 (n := 15) d9_14 rfl rfl ?_
      refine OwnW.ic_ge X8  (n1 := 45) (n2 := 18) d9_15 (by decide) rfl rfl (fun _ => ?_) (fun q => absurd q ((by decide) : ¬ (2 : Int32) < (2 : Int32)))
      refine OwnW.aloadN X8 (n := 46) d9_45 rfl rfl rfl ?_
      exact OwnW.areturn X8 rfl rfl rfl d9_46 ⟨by have e0 : ds = own_agent := (own_iteN hc33); have e1 : ¬ ds = own_data := (own_iteZ hc33_9); exact Or.inl ⟨e0, rfl⟩, Z1⟩ (by decide) (by decide)
    · refine OwnW.aload X8 (n := 38) d9_36 rfl rfl rfl ?_
      refine OwnW.astoreN X8 (l' := #[.val (.ref r0), .val (.ref a_DATA), .val (.ref bb), .val (.int (2 : Int32)), .val (.int (1 : Int32)), .val (.ref a_DATA)]) (n := 39) d9_38 rfl rfl rfl ?_
      refine OwnW.iinc X8 (z := (1 : Int32)) (u := (2 : Int32)) (l' := #[.val (.ref r0), .val (.ref a_DATA), .val (.ref bb), .val (.int (2 : Int32)), .val (.int (2 : Int32)), .val (.ref a_DATA)]) (n := 42) d9_39 rfl rfl rfl rfl rfl ?_
      refine OwnW.goto X8 (n := 12) d9_42 (by decide) rfl ?_
      refine OwnW.iload X8 (n := 14) d9_12 rfl rfl ?_
      refine OwnW.iloadN X8 (n := 15) d9_14 rfl rfl ?_
      refine OwnW.ic_ge X8  (n1 := 45) (n2 := 18) d9_15 (by decide) rfl rfl (fun _ => ?_) (fun q => absurd q ((by decide) : ¬ (2 : Int32) < (2 : Int32)))
      refine OwnW.aloadN X8 (n := 46) d9_45 rfl rfl rfl ?_
      exact OwnW.areturn X8 rfl rfl rfl d9_46 ⟨by have e0 : ds = own_agent := (own_iteN hc33); have e1 : ds = own_data := (own_iteN hc33_9); exact absurd (e0.symm.trans e1) (by decide), Z1⟩ (by decide) (by decide)
theorem ef_rmKn (m : MethodId)  : entryFrame m #[.null] 6 = mkF m 0 #[.val .null, .unset, .unset, .unset, .unset, .unset] [] := by first | (simp [entryFrame, mkF, argsToLocals, Value.category]; done) | rfl
set_option maxRecDepth 65536 in
set_option maxHeartbeats 40000000 in
theorem rmKn (l : Launch) (Z : State) (a0 : Array Value) (hw : ∀ d ∈ tables_1, d.before a0 Z = true) (hE : EW Z a0 own_EL) (ws : List Jvm.Cond)  (h0 : Heap) (n0 : Nat) (O0 : Old Z n0 h0) (a__VALUES : Addr) (S__VALUES : Sta Z Z.heap "com/example/beholden/beholden/policy/Sort" "$VALUES" "[Lcom/example/beholden/beholden/policy/Sort;" (.ref a__VALUES)) (E__VALUES : Exa Z Z.heap a__VALUES "[Lcom/example/beholden/beholden/policy/Sort;") (a_AGENT : Addr) (S_AGENT : Sta Z Z.heap "com/example/beholden/beholden/policy/Sort" "AGENT" "Lcom/example/beholden/beholden/policy/Sort;" (.ref a_AGENT)) (E_AGENT : Exa Z Z.heap a_AGENT "com/example/beholden/beholden/policy/Sort") (a_DATA : Addr) (S_DATA : Sta Z Z.heap "com/example/beholden/beholden/policy/Sort" "DATA" "Lcom/example/beholden/beholden/policy/Sort;" (.ref a_DATA)) (E_DATA : Exa Z Z.heap a_DATA "com/example/beholden/beholden/policy/Sort") (a_AGENT_keyword : Addr) (F_AGENT_keyword : Fld Z Z.heap a_AGENT "com/example/beholden/beholden/policy/Sort" "keyword" "Ljava/lang/String;" (.ref a_AGENT_keyword)) (E_AGENT_keyword : Exa Z Z.heap a_AGENT_keyword "java/lang/String") (F_AGENT_keyword_coder : Fld Z Z.heap a_AGENT_keyword "java/lang/String" "coder" "B" (.int (0 : Int32))) (a_AGENT_keyword_value : Addr) (F_AGENT_keyword_value : Fld Z Z.heap a_AGENT_keyword "java/lang/String" "value" "[B" (.ref a_AGENT_keyword_value)) (a_DATA_keyword : Addr) (F_DATA_keyword : Fld Z Z.heap a_DATA "com/example/beholden/beholden/policy/Sort" "keyword" "Ljava/lang/String;" (.ref a_DATA_keyword)) (E_DATA_keyword : Exa Z Z.heap a_DATA_keyword "java/lang/String") (F_DATA_keyword_coder : Fld Z Z.heap a_DATA_keyword "java/lang/String" "coder" "B" (.int (0 : Int32))) (a_DATA_keyword_value : Addr) (F_DATA_keyword_value : Fld Z Z.heap a_DATA_keyword "java/lang/String" "value" "[B" (.ref a_DATA_keyword_value)) (A__VALUES : Ark Z Z.heap a__VALUES (.object "com/example/beholden/beholden/policy/Sort") [(.ref a_AGENT), (.ref a_DATA)]) (A_AGENT_keyword_value : Ark Z Z.heap a_AGENT_keyword_value .byte [(.int (97 : Int32)), (.int (103 : Int32)), (.int (101 : Int32)), (.int (110 : Int32)), (.int (116 : Int32))]) (A_DATA_keyword_value : Ark Z Z.heap a_DATA_keyword_value .byte [(.int (100 : Int32)), (.int (97 : Int32)), (.int (116 : Int32)), (.int (97 : Int32))]) (zc : Int32) (hzc : ¬ zc = 0) (S_compact : Sta Z Z.heap "java/lang/String" "COMPACT_STRINGS" "Z" (.int zc)) :
    Ctr False l Z own_EL (⟨"com/example/beholden/beholden/policy/Sort", "ofKeyword", "(Ljava/lang/String;)Lcom/example/beholden/beholden/policy/Sort;"⟩ : MethodName) prog_74_method_4_code 6 (some (.object "com/example/beholden/beholden/policy/Sort")) ws ({ frames := 3, cells := 1, slots := 2, locals := 39 } : Room) n0 ([]) #[.null] h0 (Rt (fun w h g => w = .null ∧ Keep h0 h [])) := by
  refine Ctr.of (plainFor_of_name pn_com_example_beholden_beholden_policy_Sort) hE (fun m => ef_rmKn m ) ?_
  intro p e s m below meth c T0 X0
  have Z0 : Keep h0 h0 [] := Keep.refl _ _
  refine OwnW.anull X0 (n := 1) d9_0 rfl ?_
  refine OwnW.astoreN X0 (l' := #[.val .null, .val .null, .unset, .unset, .unset, .unset]) (n := 2) d9_1 rfl rfl rfl ?_
  refine OwnW.call_static_v X0 (z := (⟨"com/example/beholden/beholden/policy/Sort", "values", "()[Lcom/example/beholden/beholden/policy/Sort;"⟩ : MethodName)) (n := 5) d9_2 (hw _ (List.mem_of_getElem? (i := 42) rfl)) (hw _ (List.mem_of_getElem? (i := 43) rfl)) (hw _ (List.mem_of_getElem? (i := 44) rfl)) (hw _ (List.mem_of_getElem? (i := 40) rfl)) (by decide) (rm10 l Z a0 hw hE [] h0 n0 O0 a__VALUES S__VALUES E__VALUES a_AGENT S_AGENT E_AGENT a_DATA S_DATA E_DATA a_AGENT_keyword F_AGENT_keyword E_AGENT_keyword F_AGENT_keyword_coder a_AGENT_keyword_value F_AGENT_keyword_value a_DATA_keyword F_DATA_keyword E_DATA_keyword F_DATA_keyword_coder a_DATA_keyword_value F_DATA_keyword_value A__VALUES A_AGENT_keyword_value A_DATA_keyword_value) OwnW.sf0 (argsL := []) (rest := []) rfl rfl (OwnW.lenA pd____Lcom_example_beholden_beholden_policy_Sort_ rfl) (W := 0) (Nat.le_of_eq rfl) (by decide) (by decide) (by decide) (by decide) rfl ?_
  intro T1 h1 w1 g1 hle1 X1 ⟨bb, q1, k1, z1, A1⟩
  subst q1
  have K1 := k1
  have O1 := O0.keep K1 all0
  have Z1 : Keep h0 h1 [] := Z0.trans K1 (fun x hx => nomatch hx)
  refine OwnW.astoreN X1 (l' := #[.val .null, .val .null, .val (.ref bb), .unset, .unset, .unset]) (n := 6) d9_5 rfl rfl rfl ?_
  refine OwnW.aloadN X1 (n := 7) d9_6 rfl rfl rfl ?_
  refine OwnW.arraylength X1 (z := (2 : Int32)) (n := 8) d9_7 A1 rfl rfl ?_
  refine OwnW.istoreN X1 (l' := #[.val .null, .val .null, .val (.ref bb), .val (.int (2 : Int32)), .unset, .unset]) (n := 9) d9_8 rfl rfl ?_
  refine OwnW.iconst X1 (z := (0 : Int32)) (n := 10) d9_9 rfl rfl ?_
  refine OwnW.istore X1 (l' := #[.val .null, .val .null, .val (.ref bb), .val (.int (2 : Int32)), .val (.int (0 : Int32)), .unset]) (n := 12) d9_10 rfl rfl ?_
  refine OwnW.iload X1 (n := 14) d9_12 rfl rfl ?_
  refine OwnW.iloadN X1 (n := 15) d9_14 rfl rfl ?_
  refine OwnW.ic_ge X1  (n1 := 45) (n2 := 18) d9_15 (by decide) rfl rfl (fun q => absurd ((by decide) : (0 : Int32) < (2 : Int32)) q) (fun _ => ?_)
  refine OwnW.aloadN X1 (n := 19) d9_18 rfl rfl rfl ?_
  refine OwnW.iload X1 (n := 21) d9_19 rfl rfl ?_
  refine OwnW.aaload X1 (i := 0) (v := (.ref a_AGENT)) (n := 22) d9_21 A1 rfl rfl rfl rfl ?_
  refine OwnW.astore X1 (l' := #[.val .null, .val .null, .val (.ref bb), .val (.int (2 : Int32)), .val (.int (0 : Int32)), .val (.ref a_AGENT)]) (n := 24) d9_22 rfl rfl rfl ?_
  refine OwnW.aload X1 (n := 26) d9_24 rfl rfl rfl ?_
  refine OwnW.getfield X1 (n := 29) d9_26 (hw _ (List.mem_of_getElem? (i := 59) rfl)) Via.refl (F_AGENT_keyword.ext O1.2) rfl ?_
  intro T2 X2
  refine OwnW.aloadN X2 (n := 30) d9_29 rfl rfl rfl ?_
  refine OwnW.call_virtual_v X2 (z := (⟨"java/lang/String", "equals", "(Ljava/lang/Object;)Z"⟩ : MethodName)) (yv := (⟨"java/lang/String", "equals", "(Ljava/lang/Object;)Z"⟩ : MethodName)) (a := a_AGENT_keyword) (C := "java/lang/String") (n := 33) d9_30 (hw _ (List.mem_of_getElem? (i := 61) rfl)) (hw _ (List.mem_of_getElem? (i := 62) rfl)) (hw _ (List.mem_of_getElem? (i := 63) rfl)) (hw _ (List.mem_of_getElem? (i := 64) rfl)) (fun hz => notFace_of_selects (args := #[]) (mvT hz (hw _ (List.mem_of_getElem? (i := 64) rfl)))) (hw _ (List.mem_of_getElem? (i := 65) rfl)) (hw _ (List.mem_of_getElem? (i := 11) rfl)) (by decide) (E_AGENT_keyword.ext O1.2) (rm11n l Z a0 hw hE [] a_AGENT_keyword h1 n0) OwnW.sf0 (argsL := [.null]) (rest := []) rfl rfl (OwnW.lenA pd__Ljava_lang_Object__Z rfl) (W := 0) (Nat.le_of_eq rfl) (by decide) (by decide) (by decide) (by decide) rfl ?_
  intro T3 h3 w3 g3 hle3 X3 ⟨q1, q2⟩
  subst q1 q2
  refine OwnW.if_eq X3  (n1 := 39) (n2 := 36) d9_33 (by decide) rfl rfl (fun _ => ?_) (fun q => absurd ((by decide) : (0 : Int32) = 0) q)
  refine OwnW.iinc X3 (z := (1 : Int32)) (u := (1 : Int32)) (l' := #[.val .null, .val .null, .val (.ref bb), .val (.int (2 : Int32)), .val (.int (1 : Int32)), .val (.ref a_AGENT)]) (n := 42) d9_39 rfl rfl rfl rfl rfl ?_
  refine OwnW.goto X3 (n := 12) d9_42 (by decide) rfl ?_
  refine OwnW.iload X3 (n := 14) d9_12 rfl rfl ?_
  refine OwnW.iloadN X3 (n := 15) d9_14 rfl rfl ?_
  refine OwnW.ic_ge X3  (n1 := 45) (n2 := 18) d9_15 (by decide) rfl rfl (fun q => absurd ((by decide) : (1 : Int32) < (2 : Int32)) q) (fun _ => ?_)
  refine OwnW.aloadN X3 (n := 19) d9_18 rfl rfl rfl ?_
  refine OwnW.iload X3 (n := 21) d9_19 rfl rfl ?_
  refine OwnW.aaload X3 (i := 1) (v := (.ref a_DATA)) (n := 22) d9_21 A1 rfl rfl rfl rfl ?_
  refine OwnW.astore X3 (l' := #[.val .null, .val .null, .val (.ref bb), .val (.int (2 : Int32)), .val (.int (1 : Int32)), .val (.ref a_DATA)]) (n := 24) d9_22 rfl rfl rfl ?_
  refine OwnW.aload X3 (n := 26) d9_24 rfl rfl rfl ?_
  refine OwnW.getfield X3 (n := 29) d9_26 (hw _ (List.mem_of_getElem? (i := 59) rfl)) Via.refl (F_DATA_keyword.ext O1.2) rfl ?_
  intro T4 X4
  refine OwnW.aloadN X4 (n := 30) d9_29 rfl rfl rfl ?_
  refine OwnW.call_virtual_v X4 (z := (⟨"java/lang/String", "equals", "(Ljava/lang/Object;)Z"⟩ : MethodName)) (yv := (⟨"java/lang/String", "equals", "(Ljava/lang/Object;)Z"⟩ : MethodName)) (a := a_DATA_keyword) (C := "java/lang/String") (n := 33) d9_30 (hw _ (List.mem_of_getElem? (i := 61) rfl)) (hw _ (List.mem_of_getElem? (i := 62) rfl)) (hw _ (List.mem_of_getElem? (i := 63) rfl)) (hw _ (List.mem_of_getElem? (i := 64) rfl)) (fun hz => notFace_of_selects (args := #[]) (mvT hz (hw _ (List.mem_of_getElem? (i := 64) rfl)))) (hw _ (List.mem_of_getElem? (i := 65) rfl)) (hw _ (List.mem_of_getElem? (i := 11) rfl)) (by decide) (E_DATA_keyword.ext O1.2) (rm11n l Z a0 hw hE [] a_DATA_keyword h1 n0) OwnW.sf0 (argsL := [.null]) (rest := []) rfl rfl (OwnW.lenA pd__Ljava_lang_Object__Z rfl) (W := 0) (Nat.le_of_eq rfl) (by decide) (by decide) (by decide) (by decide) rfl ?_
  intro T5 h5 w5 g5 hle5 X5 ⟨q1, q2⟩
  subst q1 q2
  refine OwnW.if_eq X5  (n1 := 39) (n2 := 36) d9_33 (by decide) rfl rfl (fun _ => ?_) (fun q => absurd ((by decide) : (0 : Int32) = 0) q)
  refine OwnW.iinc X5 (z := (1 : Int32)) (u := (2 : Int32)) (l' := #[.val .null, .val .null, .val (.ref bb), .val (.int (2 : Int32)), .val (.int (2 : Int32)), .val (.ref a_DATA)]) (n := 42) d9_39 rfl rfl rfl rfl rfl ?_
  refine OwnW.goto X5 (n := 12) d9_42 (by decide) rfl ?_
  refine OwnW.iload X5 (n := 14) d9_12 rfl rfl ?_
  refine OwnW.iloadN X5 (n := 15) d9_14 rfl rfl ?_
  refine OwnW.ic_ge X5  (n1 := 45) (n2 := 18) d9_15 (by decide) rfl rfl (fun _ => ?_) (fun q => absurd q ((by decide) : ¬ (2 : Int32) < (2 : Int32)))
  refine OwnW.aloadN X5 (n := 46) d9_45 rfl rfl rfl ?_
  exact OwnW.areturn X5 rfl rfl rfl d9_46 ⟨rfl, Z1⟩ (by decide) (by decide)
theorem own_mapset (L : List Int32) (i : Nat) (c : Int32) : (L.map Value.int).set i (.int c) = (L.set i c).map Value.int := by simp [List.map_set]
theorem pd__II_C : parseMethodDescriptor "(II)C" = some ⟨[.int, .int], some .char⟩ := by decide +kernel
theorem pd___CI_Ljava_lang_String_ : parseMethodDescriptor "([CI)Ljava/lang/String;" = some ⟨[(.array .char), .int], some (.object "java/lang/String")⟩ := by decide +kernel
theorem pd__Ljava_lang_String__Lcom_example_beholden_beholden_policy_Sort_ : parseMethodDescriptor "(Ljava/lang/String;)Lcom/example/beholden/beholden/policy/Sort;" = some ⟨[(.object "java/lang/String")], some (.object "com/example/beholden/beholden/policy/Sort")⟩ := by decide +kernel
theorem ef_rm0 (m : MethodId) (x0 : Int32) (x1 : Int32) (x2 : Int32) (x3 : Int32) (x4 : Int32) (x5 : Int32) : entryFrame m #[(.int x0), (.int x1), (.int x2), (.int x3), (.int x4), (.int x5)] maxLocals = mkF m 0 #[.val (.int x0), .val (.int x1), .val (.int x2), .val (.int x3), .val (.int x4), .val (.int x5), .unset, .unset, .unset, .unset, .unset, .unset, .unset, .unset] [] := by first | (simp [entryFrame, mkF, argsToLocals, Value.category, maxLocals]; done) | rfl
set_option maxRecDepth 65536 in
set_option maxHeartbeats 40000000 in
theorem rm0 (l : Launch) (Z : State) (a0 : Array Value) (hw : ∀ d ∈ tables_1, d.before a0 Z = true) (hE : EW Z a0 own_EL) (ws : List Jvm.Cond) (p0 : Int32) (p1 : Int32) (p2 : Int32) (p3 : Int32) (p4 : Int32) (p5 : Int32) (h0 : Heap) (n0 : Nat) (O0 : Old Z n0 h0) (a__VALUES : Addr) (S__VALUES : Sta Z Z.heap "com/example/beholden/beholden/policy/Sort" "$VALUES" "[Lcom/example/beholden/beholden/policy/Sort;" (.ref a__VALUES)) (E__VALUES : Exa Z Z.heap a__VALUES "[Lcom/example/beholden/beholden/policy/Sort;") (a_AGENT : Addr) (S_AGENT : Sta Z Z.heap "com/example/beholden/beholden/policy/Sort" "AGENT" "Lcom/example/beholden/beholden/policy/Sort;" (.ref a_AGENT)) (E_AGENT : Exa Z Z.heap a_AGENT "com/example/beholden/beholden/policy/Sort") (a_DATA : Addr) (S_DATA : Sta Z Z.heap "com/example/beholden/beholden/policy/Sort" "DATA" "Lcom/example/beholden/beholden/policy/Sort;" (.ref a_DATA)) (E_DATA : Exa Z Z.heap a_DATA "com/example/beholden/beholden/policy/Sort") (a_AGENT_keyword : Addr) (F_AGENT_keyword : Fld Z Z.heap a_AGENT "com/example/beholden/beholden/policy/Sort" "keyword" "Ljava/lang/String;" (.ref a_AGENT_keyword)) (E_AGENT_keyword : Exa Z Z.heap a_AGENT_keyword "java/lang/String") (F_AGENT_keyword_coder : Fld Z Z.heap a_AGENT_keyword "java/lang/String" "coder" "B" (.int (0 : Int32))) (a_AGENT_keyword_value : Addr) (F_AGENT_keyword_value : Fld Z Z.heap a_AGENT_keyword "java/lang/String" "value" "[B" (.ref a_AGENT_keyword_value)) (a_DATA_keyword : Addr) (F_DATA_keyword : Fld Z Z.heap a_DATA "com/example/beholden/beholden/policy/Sort" "keyword" "Ljava/lang/String;" (.ref a_DATA_keyword)) (E_DATA_keyword : Exa Z Z.heap a_DATA_keyword "java/lang/String") (F_DATA_keyword_coder : Fld Z Z.heap a_DATA_keyword "java/lang/String" "coder" "B" (.int (0 : Int32))) (a_DATA_keyword_value : Addr) (F_DATA_keyword_value : Fld Z Z.heap a_DATA_keyword "java/lang/String" "value" "[B" (.ref a_DATA_keyword_value)) (A__VALUES : Ark Z Z.heap a__VALUES (.object "com/example/beholden/beholden/policy/Sort") [(.ref a_AGENT), (.ref a_DATA)]) (A_AGENT_keyword_value : Ark Z Z.heap a_AGENT_keyword_value .byte [(.int (97 : Int32)), (.int (103 : Int32)), (.int (101 : Int32)), (.int (110 : Int32)), (.int (116 : Int32))]) (A_DATA_keyword_value : Ark Z Z.heap a_DATA_keyword_value .byte [(.int (100 : Int32)), (.int (97 : Int32)), (.int (116 : Int32)), (.int (97 : Int32))]) (zc : Int32) (hzc : ¬ zc = 0) (S_compact : Sta Z Z.heap "java/lang/String" "COMPACT_STRINGS" "Z" (.int zc)) :
    Ctr False l Z own_EL x code maxLocals ret ws room_1 n0 ([]) #[(.int p0), (.int p1), (.int p2), (.int p3), (.int p4), (.int p5)] h0 (Rt (fun w h g => w = .int 1)) := by
  refine Ctr.of (plainFor_of_name pn_com_example_beholden_beholden_policy_SortOfKeywordPinLaw) hE (fun m => ef_rm0 m p0 p1 p2 p3 p4 p5) ?_
  intro p e s m below meth c T0 X0
  have Z0 : Keep h0 h0 [] := Keep.refl _ _
  refine OwnW.iloadN X0 (n := 1) at_0 rfl rfl ?_
  refine OwnW.iconst X0 (z := (3 : Int32)) (n := 2) at_1 rfl rfl ?_
  refine OwnW.iand X0 (n := 3) at_2 rfl ?_
  refine OwnW.istore X0 (l' := #[.val (.int p0), .val (.int p1), .val (.int p2), .val (.int p3), .val (.int p4), .val (.int p5), .val (.int (p0 &&& (3 : Int32))), .unset, .unset, .unset, .unset, .unset, .unset, .unset]) (n := 5) at_3 rfl rfl ?_
  refine OwnW.iloadN X0 (n := 6) at_5 rfl rfl ?_
  refine OwnW.ldc X0 (n := 8) at_6 (hw _ (List.mem_of_getElem? (i := 0) rfl)) rfl ?_
  refine OwnW.iand X0 (n := 9) at_8 rfl ?_
  refine OwnW.bipush X0 (z := (7 : Int32)) (n := 11) at_9 rfl rfl ?_
  refine OwnW.irem X0 (n := 12) at_11 (by decide) rfl ?_
  refine OwnW.istore X0 (l' := #[.val (.int p0), .val (.int p1), .val (.int p2), .val (.int p3), .val (.int p4), .val (.int p5), .val (.int (p0 &&& (3 : Int32))), .val (.int ((p1 &&& (2147483647 : Int32)) % (7 : Int32))), .unset, .unset, .unset, .unset, .unset, .unset]) (n := 14) at_12 rfl rfl ?_
  refine OwnW.joinT X0 (fun (x : Int32 × Int32) => match x with | (kk, n) => n = 0 ∨ n = 1 ∨ n = 2 ∨ n = 3 ∨ n = 4 ∨ n = 5 ∨ n = 6) (fun (x : Int32 × Int32) => match x with | (kk, n) => mkF m 14 #[.val (.int p0), .val (.int p1), .val (.int p2), .val (.int p3), .val (.int p4), .val (.int p5), .val (.int kk), .val (.int n), .unset, .unset, .unset, .unset, .unset, .unset] []) ?_ ?_
  · intro T1 ⟨kk, n⟩ X1 hj14
    refine OwnW.bipush X1 (z := (6 : Int32)) (n := 16) at_14 rfl rfl ?_
    refine OwnW.newarray X1 (len := 6) (cap := 6) (n := 18) at_16 (hw _ (List.mem_of_getElem? (i := 1) rfl)) rfl (by decide) (by decide) (by decide) (by decide) rfl ?_
    intro T2 h2 b2 gb2 X2 E2 A2
    have ge_b2 : n0 ≤ b2 := by rw [gb2]; exact OwnW.oldLe O0
    have K2 := (OwnW.kExt E2)
    have O2 := O0.keep K2 all0
    have Z2 : Keep h0 h2 [] := Z0.trans K2 (fun x hx => nomatch hx)
    have sz_b2 : h0.size ≤ b2 := by rw [gb2]; exact Z0.1
    replace A2 : Ark Z h2 b2 .char [(.int (0 : Int32)), (.int (0 : Int32)), (.int (0 : Int32)), (.int (0 : Int32)), (.int (0 : Int32)), (.int (0 : Int32))] := A2
    refine OwnW.astore X2 (l' := #[.val (.int p0), .val (.int p1), .val (.int p2), .val (.int p3), .val (.int p4), .val (.int p5), .val (.int kk), .val (.int n), .val (.ref b2), .unset, .unset, .unset, .unset, .unset]) (n := 20) at_18 rfl rfl rfl ?_
    refine OwnW.aload X2 (n := 22) at_20 rfl rfl rfl ?_
    refine OwnW.iconst X2 (z := (0 : Int32)) (n := 23) at_22 rfl rfl ?_
    refine OwnW.iloadN X2 (n := 24) at_23 rfl rfl ?_
    refine OwnW.iconst X2 (z := (0 : Int32)) (n := 25) at_24 rfl rfl ?_
    refine OwnW.call_static_v X2 (z := (⟨"com/example/beholden/beholden/policy/SortOfKeywordPinLaw", "drawn", "(II)C"⟩ : MethodName)) (n := 28) at_25 (hw _ (List.mem_of_getElem? (i := 2) rfl)) (hw _ (List.mem_of_getElem? (i := 3) rfl)) (hw _ (List.mem_of_getElem? (i := 5) rfl)) (hw _ (List.mem_of_getElem? (i := 4) rfl)) (by decide) (rm1 l Z a0 hw hE [] p2 (0 : Int32) h2 n0) OwnW.sf0 (argsL := [(.int p2), (.int (0 : Int32))]) (rest := [(.int (0 : Int32)), (.ref b2)]) rfl rfl (OwnW.lenA pd__II_C rfl) (W := 2) (Nat.le_of_eq rfl) (by decide) (by decide) (by decide) (by decide) rfl ?_
    intro T3 h3 w3 g3 hle3 X3 ⟨d3, q1, hb_d3, q2⟩
    subst q1 q2
    refine OwnW.castore X3 (i := 0) (z := d3) (n := 29) at_28 A2 rfl (Nat.le_of_ble_eq_true rfl) (own_narC hb_d3.1 hb_d3.2) ge_b2 (List.mem_append_left _ (List.mem_cons_self ..)) rfl ?_
    intro T4 h4 X4 W4 A4
    have K4 := (Keep.of_wr W4)
    have O4 := O2.keep K4 (allS ge_b2 all0)
    have Z4 : Keep h0 h4 [] := Z2.trans K4 (allS (P := fun x => x ∈ [] ∨ h0.size ≤ x) (Or.inr sz_b2) all0)
    replace A4 : Ark Z h4 b2 .char [(.int d3), (.int (0 : Int32)), (.int (0 : Int32)), (.int (0 : Int32)), (.int (0 : Int32)), (.int (0 : Int32))] := A4
    refine OwnW.aload X4 (n := 31) at_29 rfl rfl rfl ?_
    refine OwnW.iconst X4 (z := (1 : Int32)) (n := 32) at_31 rfl rfl ?_
    refine OwnW.iloadN X4 (n := 33) at_32 rfl rfl ?_
    refine OwnW.iconst X4 (z := (1 : Int32)) (n := 34) at_33 rfl rfl ?_
    refine OwnW.call_static_v X4 (z := (⟨"com/example/beholden/beholden/policy/SortOfKeywordPinLaw", "drawn", "(II)C"⟩ : MethodName)) (n := 37) at_34 (hw _ (List.mem_of_getElem? (i := 2) rfl)) (hw _ (List.mem_of_getElem? (i := 3) rfl)) (hw _ (List.mem_of_getElem? (i := 5) rfl)) (hw _ (List.mem_of_getElem? (i := 4) rfl)) (by decide) (rm1 l Z a0 hw hE [] p2 (1 : Int32) h4 n0) OwnW.sf0 (argsL := [(.int p2), (.int (1 : Int32))]) (rest := [(.int (1 : Int32)), (.ref b2)]) rfl rfl (OwnW.lenA pd__II_C rfl) (W := 2) (Nat.le_of_eq rfl) (by decide) (by decide) (by decide) (by decide) rfl ?_
    intro T5 h5 w5 g5 hle5 X5 ⟨d5, q1, hb_d5, q2⟩
    subst q1 q2
    refine OwnW.castore X5 (i := 1) (z := d5) (n := 38) at_37 A4 rfl (Nat.le_of_ble_eq_true rfl) (own_narC hb_d5.1 hb_d5.2) ge_b2 (List.mem_append_left _ (List.mem_append_left _ (List.mem_cons_self ..))) rfl ?_
    intro T6 h6 X6 W6 A6
    have K6 := (Keep.of_wr W6)
    have O6 := O4.keep K6 (allS ge_b2 all0)
    have Z6 : Keep h0 h6 [] := Z4.trans K6 (allS (P := fun x => x ∈ [] ∨ h0.size ≤ x) (Or.inr sz_b2) all0)
    replace A6 : Ark Z h6 b2 .char [(.int d3), (.int d5), (.int (0 : Int32)), (.int (0 : Int32)), (.int (0 : Int32)), (.int (0 : Int32))] := A6
    refine OwnW.aload X6 (n := 40) at_38 rfl rfl rfl ?_
    refine OwnW.iconst X6 (z := (2 : Int32)) (n := 41) at_40 rfl rfl ?_
    refine OwnW.iloadN X6 (n := 42) at_41 rfl rfl ?_
    refine OwnW.iconst X6 (z := (2 : Int32)) (n := 43) at_42 rfl rfl ?_
    refine OwnW.call_static_v X6 (z := (⟨"com/example/beholden/beholden/policy/SortOfKeywordPinLaw", "drawn", "(II)C"⟩ : MethodName)) (n := 46) at_43 (hw _ (List.mem_of_getElem? (i := 2) rfl)) (hw _ (List.mem_of_getElem? (i := 3) rfl)) (hw _ (List.mem_of_getElem? (i := 5) rfl)) (hw _ (List.mem_of_getElem? (i := 4) rfl)) (by decide) (rm1 l Z a0 hw hE [] p2 (2 : Int32) h6 n0) OwnW.sf0 (argsL := [(.int p2), (.int (2 : Int32))]) (rest := [(.int (2 : Int32)), (.ref b2)]) rfl rfl (OwnW.lenA pd__II_C rfl) (W := 2) (Nat.le_of_eq rfl) (by decide) (by decide) (by decide) (by decide) rfl ?_
    intro T7 h7 w7 g7 hle7 X7 ⟨d7, q1, hb_d7, q2⟩
    subst q1 q2
    refine OwnW.castore X7 (i := 2) (z := d7) (n := 47) at_46 A6 rfl (Nat.le_of_ble_eq_true rfl) (own_narC hb_d7.1 hb_d7.2) ge_b2 (List.mem_append_left _ (List.mem_append_left _ (List.mem_append_left _ (List.mem_cons_self ..)))) rfl ?_
    intro T8 h8 X8 W8 A8
    have K8 := (Keep.of_wr W8)
    have O8 := O6.keep K8 (allS ge_b2 all0)
    have Z8 : Keep h0 h8 [] := Z6.trans K8 (allS (P := fun x => x ∈ [] ∨ h0.size ≤ x) (Or.inr sz_b2) all0)
    replace A8 : Ark Z h8 b2 .char [(.int d3), (.int d5), (.int d7), (.int (0 : Int32)), (.int (0 : Int32)), (.int (0 : Int32))] := A8
    refine OwnW.aload X8 (n := 49) at_47 rfl rfl rfl ?_
    refine OwnW.iconst X8 (z := (3 : Int32)) (n := 50) at_49 rfl rfl ?_
    refine OwnW.iloadN X8 (n := 51) at_50 rfl rfl ?_
    refine OwnW.iconst X8 (z := (3 : Int32)) (n := 52) at_51 rfl rfl ?_
    refine OwnW.call_static_v X8 (z := (⟨"com/example/beholden/beholden/policy/SortOfKeywordPinLaw", "drawn", "(II)C"⟩ : MethodName)) (n := 55) at_52 (hw _ (List.mem_of_getElem? (i := 2) rfl)) (hw _ (List.mem_of_getElem? (i := 3) rfl)) (hw _ (List.mem_of_getElem? (i := 5) rfl)) (hw _ (List.mem_of_getElem? (i := 4) rfl)) (by decide) (rm1 l Z a0 hw hE [] p2 (3 : Int32) h8 n0) OwnW.sf0 (argsL := [(.int p2), (.int (3 : Int32))]) (rest := [(.int (3 : Int32)), (.ref b2)]) rfl rfl (OwnW.lenA pd__II_C rfl) (W := 2) (Nat.le_of_eq rfl) (by decide) (by decide) (by decide) (by decide) rfl ?_
    intro T9 h9 w9 g9 hle9 X9 ⟨d9, q1, hb_d9, q2⟩
    subst q1 q2
    refine OwnW.castore X9 (i := 3) (z := d9) (n := 56) at_55 A8 rfl (Nat.le_of_ble_eq_true rfl) (own_narC hb_d9.1 hb_d9.2) ge_b2 (List.mem_append_left _ (List.mem_append_left _ (List.mem_append_left _ (List.mem_append_left _ (List.mem_cons_self ..))))) rfl ?_
    intro T10 h10 X10 W10 A10
    have K10 := (Keep.of_wr W10)
    have O10 := O8.keep K10 (allS ge_b2 all0)
    have Z10 : Keep h0 h10 [] := Z8.trans K10 (allS (P := fun x => x ∈ [] ∨ h0.size ≤ x) (Or.inr sz_b2) all0)
    replace A10 : Ark Z h10 b2 .char [(.int d3), (.int d5), (.int d7), (.int d9), (.int (0 : Int32)), (.int (0 : Int32))] := A10
    refine OwnW.aload X10 (n := 58) at_56 rfl rfl rfl ?_
    refine OwnW.iconst X10 (z := (4 : Int32)) (n := 59) at_58 rfl rfl ?_
    refine OwnW.iloadN X10 (n := 60) at_59 rfl rfl ?_
    refine OwnW.iconst X10 (z := (0 : Int32)) (n := 61) at_60 rfl rfl ?_
    refine OwnW.call_static_v X10 (z := (⟨"com/example/beholden/beholden/policy/SortOfKeywordPinLaw", "drawn", "(II)C"⟩ : MethodName)) (n := 64) at_61 (hw _ (List.mem_of_getElem? (i := 2) rfl)) (hw _ (List.mem_of_getElem? (i := 3) rfl)) (hw _ (List.mem_of_getElem? (i := 5) rfl)) (hw _ (List.mem_of_getElem? (i := 4) rfl)) (by decide) (rm1 l Z a0 hw hE [] p3 (0 : Int32) h10 n0) OwnW.sf0 (argsL := [(.int p3), (.int (0 : Int32))]) (rest := [(.int (4 : Int32)), (.ref b2)]) rfl rfl (OwnW.lenA pd__II_C rfl) (W := 2) (Nat.le_of_eq rfl) (by decide) (by decide) (by decide) (by decide) rfl ?_
    intro T11 h11 w11 g11 hle11 X11 ⟨d11, q1, hb_d11, q2⟩
    subst q1 q2
    refine OwnW.castore X11 (i := 4) (z := d11) (n := 65) at_64 A10 rfl (Nat.le_of_ble_eq_true rfl) (own_narC hb_d11.1 hb_d11.2) ge_b2 (List.mem_append_left _ (List.mem_append_left _ (List.mem_append_left _ (List.mem_append_left _ (List.mem_append_left _ (List.mem_cons_self ..)))))) rfl ?_
    intro T12 h12 X12 W12 A12
    have K12 := (Keep.of_wr W12)
    have O12 := O10.keep K12 (allS ge_b2 all0)
    have Z12 : Keep h0 h12 [] := Z10.trans K12 (allS (P := fun x => x ∈ [] ∨ h0.size ≤ x) (Or.inr sz_b2) all0)
    replace A12 : Ark Z h12 b2 .char [(.int d3), (.int d5), (.int d7), (.int d9), (.int d11), (.int (0 : Int32))] := A12
    refine OwnW.aload X12 (n := 67) at_65 rfl rfl rfl ?_
    refine OwnW.iconst X12 (z := (5 : Int32)) (n := 68) at_67 rfl rfl ?_
    refine OwnW.iloadN X12 (n := 69) at_68 rfl rfl ?_
    refine OwnW.iconst X12 (z := (1 : Int32)) (n := 70) at_69 rfl rfl ?_
    refine OwnW.call_static_v X12 (z := (⟨"com/example/beholden/beholden/policy/SortOfKeywordPinLaw", "drawn", "(II)C"⟩ : MethodName)) (n := 73) at_70 (hw _ (List.mem_of_getElem? (i := 2) rfl)) (hw _ (List.mem_of_getElem? (i := 3) rfl)) (hw _ (List.mem_of_getElem? (i := 5) rfl)) (hw _ (List.mem_of_getElem? (i := 4) rfl)) (by decide) (rm1 l Z a0 hw hE [] p3 (1 : Int32) h12 n0) OwnW.sf0 (argsL := [(.int p3), (.int (1 : Int32))]) (rest := [(.int (5 : Int32)), (.ref b2)]) rfl rfl (OwnW.lenA pd__II_C rfl) (W := 2) (Nat.le_of_eq rfl) (by decide) (by decide) (by decide) (by decide) rfl ?_
    intro T13 h13 w13 g13 hle13 X13 ⟨d13, q1, hb_d13, q2⟩
    subst q1 q2
    refine OwnW.castore X13 (i := 5) (z := d13) (n := 74) at_73 A12 rfl (Nat.le_of_ble_eq_true rfl) (own_narC hb_d13.1 hb_d13.2) ge_b2 (List.mem_append_left _ (List.mem_append_left _ (List.mem_append_left _ (List.mem_append_left _ (List.mem_append_left _ (List.mem_append_left _ (List.mem_cons_self ..))))))) rfl ?_
    intro T14 h14 X14 W14 A14
    have K14 := (Keep.of_wr W14)
    have O14 := O12.keep K14 (allS ge_b2 all0)
    have Z14 : Keep h0 h14 [] := Z12.trans K14 (allS (P := fun x => x ∈ [] ∨ h0.size ≤ x) (Or.inr sz_b2) all0)
    replace A14 : Ark Z h14 b2 .char [(.int d3), (.int d5), (.int d7), (.int d9), (.int d11), (.int d13)] := A14
    refine OwnW.joinH X14 1 6 (fun (x : Int32 × Int32 × Int32 × Int32 × Int32 × Int32) h' sf' => match x with | (f0, f1, f2, f3, f4, f5) => Lat [f0, f1, f2, f3, f4, f5] ∧ Keep h0 h' [] ∧ Ark Z h' b2 .char [(.int f0), (.int f1), (.int f2), (.int f3), (.int f4), (.int f5)]) (fun (x : Int32 × Int32 × Int32 × Int32 × Int32 × Int32) => match x with | (f0, f1, f2, f3, f4, f5) => mkF m 173 #[.val (.int p0), .val (.int p1), .val (.int p2), .val (.int p3), .val (.int p4), .val (.int p5), .val (.int kk), .val (.int n), .val (.ref b2), .unset, .unset, .unset, .unset, .unset] []) ?_ ?_
    · intro T15 h15 sf15 ⟨f0, f1, f2, f3, f4, f5⟩ X15 hj173
      obtain ⟨hf, K15, A15⟩ := hj173
      have O15 := O0.keep K15 all0
      refine OwnW.iloadN X15 (n := 174) at_173 rfl rfl ?_
      refine OwnW.bipush X15 (z := (28 : Int32)) (n := 176) at_174 rfl rfl ?_
      refine OwnW.iand X15 (n := 177) at_176 rfl ?_
      refine OwnW.bipush X15 (z := (28 : Int32)) (n := 179) at_177 rfl rfl ?_
      refine OwnW.ic_ne X15  (n1 := 186) (n2 := 182) at_179 (by decide) rfl rfl (fun hc179 => ?_) (fun hc179 => ?_)
      · refine OwnW.iconst X15 (z := (0 : Int32)) (n := 187) at_186 rfl rfl ?_
        refine OwnW.istore X15 (l' := #[.val (.int p0), .val (.int p1), .val (.int p2), .val (.int p3), .val (.int p4), .val (.int p5), .val (.int kk), .val (.int n), .val (.ref b2), .val (.int (0 : Int32)), .unset, .unset, .unset, .unset]) (n := 189) at_187 rfl rfl ?_
        refine OwnW.iload X15 (n := 191) at_189 rfl rfl ?_
        refine OwnW.if_eq X15  (n1 := 198) (n2 := 194) at_191 (by decide) rfl rfl (fun _ => ?_) (fun q => absurd ((by decide) : (0 : Int32) = 0) q)
        refine OwnW.aload X15 (n := 200) at_198 rfl rfl rfl ?_
        refine OwnW.iload X15 (n := 202) at_200 rfl rfl ?_
        refine OwnW.call_static_v X15 (z := (⟨"com/example/beholden/beholden/policy/SortOfKeywordPinLaw", "take", "([CI)Ljava/lang/String;"⟩ : MethodName)) (n := 205) at_202 (hw _ (List.mem_of_getElem? (i := 6) rfl)) (hw _ (List.mem_of_getElem? (i := 7) rfl)) (hw _ (List.mem_of_getElem? (i := 8) rfl)) (hw _ (List.mem_of_getElem? (i := 4) rfl)) (by decide) (rm2 l Z a0 hw hE [] b2 n h15 n0 O15 f0 f1 f2 f3 f4 f5 hf A15 zc hzc S_compact) OwnW.sf0 (argsL := [(.ref b2), (.int n)]) (rest := []) rfl rfl (OwnW.lenA pd___CI_Ljava_lang_String_ rfl) (W := 0) (Nat.le_of_eq rfl) (by decide) (by decide) (by decide) (by decide) rfl ?_
        intro T16 h16 w16 g16 hle16 X16 ⟨x16, t16, q1, k16, y16, S16⟩
        subst q1
        have K16 := k16
        have O16 := O15.keep K16 all0
        have Z16 : Keep h0 h16 [] := K15.trans K16 (fun x hx => nomatch hx)
        refine OwnW.astore X16 (l' := #[.val (.int p0), .val (.int p1), .val (.int p2), .val (.int p3), .val (.int p4), .val (.int p5), .val (.int kk), .val (.int n), .val (.ref b2), .val (.int (0 : Int32)), .val (.ref x16), .unset, .unset, .unset]) (n := 207) at_205 rfl rfl rfl ?_
        refine OwnW.aload X16 (n := 209) at_207 rfl rfl rfl ?_
        refine OwnW.call_static_v X16 (z := (⟨"com/example/beholden/beholden/policy/Sort", "ofKeyword", "(Ljava/lang/String;)Lcom/example/beholden/beholden/policy/Sort;"⟩ : MethodName)) (n := 212) at_209 (hw _ (List.mem_of_getElem? (i := 38) rfl)) (hw _ (List.mem_of_getElem? (i := 39) rfl)) (hw _ (List.mem_of_getElem? (i := 41) rfl)) (hw _ (List.mem_of_getElem? (i := 40) rfl)) (by decide) (rmK l Z a0 hw hE [] x16 h16 n0 O16 a__VALUES S__VALUES E__VALUES a_AGENT S_AGENT E_AGENT a_DATA S_DATA E_DATA a_AGENT_keyword F_AGENT_keyword E_AGENT_keyword F_AGENT_keyword_coder a_AGENT_keyword_value F_AGENT_keyword_value a_DATA_keyword F_DATA_keyword E_DATA_keyword F_DATA_keyword_coder a_DATA_keyword_value F_DATA_keyword_value A__VALUES A_AGENT_keyword_value A_DATA_keyword_value t16 (own_take n f0 f1 f2 f3 f4 f5) (own_take_lat hf) S16 zc hzc S_compact) OwnW.sf0 (argsL := [(.ref x16)]) (rest := []) rfl rfl (OwnW.lenA pd__Ljava_lang_String__Lcom_example_beholden_beholden_policy_Sort_ rfl) (W := 0) (Nat.le_of_eq rfl) (by decide) (by decide) (by decide) (by decide) rfl ?_
        intro T17 h17 w17 g17 hle17 X17 ⟨hq, k17⟩
        have K17 := k17
        have O17 := O16.keep K17 all0
        have Z17 : Keep h0 h17 [] := Z16.trans K17 (fun x hx => nomatch hx)
        rcases hq with ⟨hA, q1⟩ | ⟨hA, hD, q1⟩ | ⟨hA, hD, q1⟩
        · subst q1
          refine OwnW.astore X17 (l' := #[.val (.int p0), .val (.int p1), .val (.int p2), .val (.int p3), .val (.int p4), .val (.int p5), .val (.int kk), .val (.int n), .val (.ref b2), .val (.int (0 : Int32)), .val (.ref x16), .val (.ref a_AGENT), .unset, .unset]) (n := 214) at_212 rfl rfl rfl ?_
          refine OwnW.joinT X17 (fun (v277 : Int32) => v277 = (if (own_take n f0 f1 f2 f3 f4 f5) = own_agent then 1 else 0)) (fun (v277 : Int32) => mkF m 277 #[.val (.int p0), .val (.int p1), .val (.int p2), .val (.int p3), .val (.int p4), .val (.int p5), .val (.int kk), .val (.int n), .val (.ref b2), .val (.int (0 : Int32)), .val (.ref x16), .val (.ref a_AGENT), .val (.int v277), .unset] []) ?_ ?_
          · intro T18 v277 X18 hj277
            refine OwnW.joinT X18 (fun (v331 : Int32) => v331 = (if (own_take n f0 f1 f2 f3 f4 f5) = own_data then 1 else 0)) (fun (v331 : Int32) => mkF m 331 #[.val (.int p0), .val (.int p1), .val (.int p2), .val (.int p3), .val (.int p4), .val (.int p5), .val (.int kk), .val (.int n), .val (.ref b2), .val (.int (0 : Int32)), .val (.ref x16), .val (.ref a_AGENT), .val (.int v277), .val (.int v331)] []) ?_ ?_
            · intro T19 v331 X19 hj331
              refine OwnW.iload X19 (n := 333) at_331 rfl rfl ?_
              refine OwnW.if_eq X19  (n1 := 350) (n2 := 336) at_333 (by decide) rfl rfl (fun q => absurd q ((by rw [hj277, if_pos hA]; decide) : ¬ v277 = 0)) (fun _ => ?_)
              refine OwnW.aload X19 (n := 338) at_336 rfl rfl rfl ?_
              refine OwnW.getstatic X19 (n := 341) at_338 (hw _ (List.mem_of_getElem? (i := 75) rfl)) Via.refl (S_AGENT.ext O17.2) rfl ?_
              intro T20 X20
              refine OwnW.ac_ne X20 (n1 := 348) (n2 := 344) at_341 rfl rfl (by decide) rfl rfl (fun q => absurd (rfl : ((.ref a_AGENT) : Value) = (.ref a_AGENT)) q) (fun _ => ?_)
              refine OwnW.iconst X20 (z := (1 : Int32)) (n := 345) at_344 rfl rfl ?_
              refine OwnW.goto X20 (n := 349) at_345 (by decide) rfl ?_
              exact OwnW.ireturn X20 rfl (Or.inr (Or.inl rfl)) rfl at_349 rfl (by decide) (by decide)
            · intro J19
              refine OwnW.iload X18 (n := 279) at_277 rfl rfl ?_
              refine OwnW.if_ne X18  (n1 := 328) (n2 := 282) at_279 (by decide) rfl rfl (fun q => absurd ((by decide) : (0 : Int32) = 0) q) (fun _ => ?_)
              refine OwnW.iload X18 (n := 284) at_282 rfl rfl ?_
              refine OwnW.iconst X18 (z := (4 : Int32)) (n := 285) at_284 rfl rfl ?_
              refine OwnW.ic_ne X18  (n1 := 328) (n2 := 288) at_285 (by decide) rfl rfl (fun hc285 => ?_) (fun hc285 => ?_)
              · refine OwnW.iconst X18 (z := (0 : Int32)) (n := 329) at_328 rfl rfl ?_
                refine OwnW.istore X18 (l' := #[.val (.int p0), .val (.int p1), .val (.int p2), .val (.int p3), .val (.int p4), .val (.int p5), .val (.int kk), .val (.int n), .val (.ref b2), .val (.int (0 : Int32)), .val (.ref x16), .val (.ref a_AGENT), .val (.int v277), .val (.int (0 : Int32))]) (n := 331) at_329 rfl rfl ?_
                exact J19 _ (0 : Int32) X18 (by simp only [own_da hj14, eq_false hc285, true_and, and_true, false_and, and_false, if_true, if_false, reduceIte])
              · refine OwnW.aload X18 (n := 290) at_288 rfl rfl rfl ?_
                refine OwnW.iconst X18 (z := (0 : Int32)) (n := 291) at_290 rfl rfl ?_
                have fk21 := ((A15.keep K16 nin0).keep K17 nin0)
                refine OwnW.caload X18 (i := 0) (v := (.int f0)) (n := 292) at_291 fk21 rfl rfl rfl ?_
                refine OwnW.bipush X18 (z := (100 : Int32)) (n := 294) at_292 rfl rfl ?_
                refine OwnW.ic_ne X18  (n1 := 328) (n2 := 297) at_294 (by decide) rfl rfl (fun hc294 => ?_) (fun hc294 => ?_)
                · refine OwnW.iconst X18 (z := (0 : Int32)) (n := 329) at_328 rfl rfl ?_
                  refine OwnW.istore X18 (l' := #[.val (.int p0), .val (.int p1), .val (.int p2), .val (.int p3), .val (.int p4), .val (.int p5), .val (.int kk), .val (.int n), .val (.ref b2), .val (.int (0 : Int32)), .val (.ref x16), .val (.ref a_AGENT), .val (.int v277), .val (.int (0 : Int32))]) (n := 331) at_329 rfl rfl ?_
                  exact J19 _ (0 : Int32) X18 (by simp only [own_da hj14, eq_true hc285, eq_false hc294, true_and, and_true, false_and, and_false, if_true, if_false, reduceIte])
                · refine OwnW.aload X18 (n := 299) at_297 rfl rfl rfl ?_
                  refine OwnW.iconst X18 (z := (1 : Int32)) (n := 300) at_299 rfl rfl ?_
                  refine OwnW.caload X18 (i := 1) (v := (.int f1)) (n := 301) at_300 fk21 rfl rfl rfl ?_
                  refine OwnW.bipush X18 (z := (97 : Int32)) (n := 303) at_301 rfl rfl ?_
                  refine OwnW.ic_ne X18  (n1 := 328) (n2 := 306) at_303 (by decide) rfl rfl (fun hc303 => ?_) (fun hc303 => ?_)
                  · refine OwnW.iconst X18 (z := (0 : Int32)) (n := 329) at_328 rfl rfl ?_
                    refine OwnW.istore X18 (l' := #[.val (.int p0), .val (.int p1), .val (.int p2), .val (.int p3), .val (.int p4), .val (.int p5), .val (.int kk), .val (.int n), .val (.ref b2), .val (.int (0 : Int32)), .val (.ref x16), .val (.ref a_AGENT), .val (.int v277), .val (.int (0 : Int32))]) (n := 331) at_329 rfl rfl ?_
                    exact J19 _ (0 : Int32) X18 (by simp only [own_da hj14, eq_true hc285, eq_true hc294, eq_false hc303, true_and, and_true, false_and, and_false, if_true, if_false, reduceIte])
                  · refine OwnW.aload X18 (n := 308) at_306 rfl rfl rfl ?_
                    refine OwnW.iconst X18 (z := (2 : Int32)) (n := 309) at_308 rfl rfl ?_
                    refine OwnW.caload X18 (i := 2) (v := (.int f2)) (n := 310) at_309 fk21 rfl rfl rfl ?_
                    refine OwnW.bipush X18 (z := (116 : Int32)) (n := 312) at_310 rfl rfl ?_
                    refine OwnW.ic_ne X18  (n1 := 328) (n2 := 315) at_312 (by decide) rfl rfl (fun hc312 => ?_) (fun hc312 => ?_)
                    · refine OwnW.iconst X18 (z := (0 : Int32)) (n := 329) at_328 rfl rfl ?_
                      refine OwnW.istore X18 (l' := #[.val (.int p0), .val (.int p1), .val (.int p2), .val (.int p3), .val (.int p4), .val (.int p5), .val (.int kk), .val (.int n), .val (.ref b2), .val (.int (0 : Int32)), .val (.ref x16), .val (.ref a_AGENT), .val (.int v277), .val (.int (0 : Int32))]) (n := 331) at_329 rfl rfl ?_
                      exact J19 _ (0 : Int32) X18 (by simp only [own_da hj14, eq_true hc285, eq_true hc294, eq_true hc303, eq_false hc312, true_and, and_true, false_and, and_false, if_true, if_false, reduceIte])
                    · refine OwnW.aload X18 (n := 317) at_315 rfl rfl rfl ?_
                      refine OwnW.iconst X18 (z := (3 : Int32)) (n := 318) at_317 rfl rfl ?_
                      refine OwnW.caload X18 (i := 3) (v := (.int f3)) (n := 319) at_318 fk21 rfl rfl rfl ?_
                      refine OwnW.bipush X18 (z := (97 : Int32)) (n := 321) at_319 rfl rfl ?_
                      refine OwnW.ic_ne X18  (n1 := 328) (n2 := 324) at_321 (by decide) rfl rfl (fun hc321 => ?_) (fun hc321 => ?_)
                      · refine OwnW.iconst X18 (z := (0 : Int32)) (n := 329) at_328 rfl rfl ?_
                        refine OwnW.istore X18 (l' := #[.val (.int p0), .val (.int p1), .val (.int p2), .val (.int p3), .val (.int p4), .val (.int p5), .val (.int kk), .val (.int n), .val (.ref b2), .val (.int (0 : Int32)), .val (.ref x16), .val (.ref a_AGENT), .val (.int v277), .val (.int (0 : Int32))]) (n := 331) at_329 rfl rfl ?_
                        exact J19 _ (0 : Int32) X18 (by simp only [own_da hj14, eq_true hc285, eq_true hc294, eq_true hc303, eq_true hc312, eq_false hc321, true_and, and_true, false_and, and_false, if_true, if_false, reduceIte])
                      · refine OwnW.iconst X18 (z := (1 : Int32)) (n := 325) at_324 rfl rfl ?_
                        refine OwnW.goto X18 (n := 329) at_325 (by decide) rfl ?_
                        refine OwnW.istore X18 (l' := #[.val (.int p0), .val (.int p1), .val (.int p2), .val (.int p3), .val (.int p4), .val (.int p5), .val (.int kk), .val (.int n), .val (.ref b2), .val (.int (0 : Int32)), .val (.ref x16), .val (.ref a_AGENT), .val (.int v277), .val (.int (1 : Int32))]) (n := 331) at_329 rfl rfl ?_
                        exact J19 _ (1 : Int32) X18 (by simp only [own_da hj14, eq_true hc285, eq_true hc294, eq_true hc303, eq_true hc312, eq_true hc321, true_and, and_true, false_and, and_false, if_true, if_false, reduceIte])
          · intro J18
            refine OwnW.iload X17 (n := 216) at_214 rfl rfl ?_
            refine OwnW.if_ne X17  (n1 := 274) (n2 := 219) at_216 (by decide) rfl rfl (fun q => absurd ((by decide) : (0 : Int32) = 0) q) (fun _ => ?_)
            refine OwnW.iload X17 (n := 221) at_219 rfl rfl ?_
            refine OwnW.iconst X17 (z := (5 : Int32)) (n := 222) at_221 rfl rfl ?_
            refine OwnW.ic_ne X17  (n1 := 274) (n2 := 225) at_222 (by decide) rfl rfl (fun hc222 => ?_) (fun hc222 => ?_)
            · refine OwnW.iconst X17 (z := (0 : Int32)) (n := 275) at_274 rfl rfl ?_
              refine OwnW.istore X17 (l' := #[.val (.int p0), .val (.int p1), .val (.int p2), .val (.int p3), .val (.int p4), .val (.int p5), .val (.int kk), .val (.int n), .val (.ref b2), .val (.int (0 : Int32)), .val (.ref x16), .val (.ref a_AGENT), .val (.int (0 : Int32)), .unset]) (n := 277) at_275 rfl rfl ?_
              exact J18 _ (0 : Int32) X17 (by simp only [own_ag hj14, eq_false hc222, true_and, and_true, false_and, and_false, if_true, if_false, reduceIte])
            · refine OwnW.aload X17 (n := 227) at_225 rfl rfl rfl ?_
              refine OwnW.iconst X17 (z := (0 : Int32)) (n := 228) at_227 rfl rfl ?_
              have fk22 := ((A15.keep K16 nin0).keep K17 nin0)
              refine OwnW.caload X17 (i := 0) (v := (.int f0)) (n := 229) at_228 fk22 rfl rfl rfl ?_
              refine OwnW.bipush X17 (z := (97 : Int32)) (n := 231) at_229 rfl rfl ?_
              refine OwnW.ic_ne X17  (n1 := 274) (n2 := 234) at_231 (by decide) rfl rfl (fun hc231 => ?_) (fun hc231 => ?_)
              · refine OwnW.iconst X17 (z := (0 : Int32)) (n := 275) at_274 rfl rfl ?_
                refine OwnW.istore X17 (l' := #[.val (.int p0), .val (.int p1), .val (.int p2), .val (.int p3), .val (.int p4), .val (.int p5), .val (.int kk), .val (.int n), .val (.ref b2), .val (.int (0 : Int32)), .val (.ref x16), .val (.ref a_AGENT), .val (.int (0 : Int32)), .unset]) (n := 277) at_275 rfl rfl ?_
                exact J18 _ (0 : Int32) X17 (by simp only [own_ag hj14, eq_true hc222, eq_false hc231, true_and, and_true, false_and, and_false, if_true, if_false, reduceIte])
              · refine OwnW.aload X17 (n := 236) at_234 rfl rfl rfl ?_
                refine OwnW.iconst X17 (z := (1 : Int32)) (n := 237) at_236 rfl rfl ?_
                refine OwnW.caload X17 (i := 1) (v := (.int f1)) (n := 238) at_237 fk22 rfl rfl rfl ?_
                refine OwnW.bipush X17 (z := (103 : Int32)) (n := 240) at_238 rfl rfl ?_
                refine OwnW.ic_ne X17  (n1 := 274) (n2 := 243) at_240 (by decide) rfl rfl (fun hc240 => ?_) (fun hc240 => ?_)
                · refine OwnW.iconst X17 (z := (0 : Int32)) (n := 275) at_274 rfl rfl ?_
                  refine OwnW.istore X17 (l' := #[.val (.int p0), .val (.int p1), .val (.int p2), .val (.int p3), .val (.int p4), .val (.int p5), .val (.int kk), .val (.int n), .val (.ref b2), .val (.int (0 : Int32)), .val (.ref x16), .val (.ref a_AGENT), .val (.int (0 : Int32)), .unset]) (n := 277) at_275 rfl rfl ?_
                  exact J18 _ (0 : Int32) X17 (by simp only [own_ag hj14, eq_true hc222, eq_true hc231, eq_false hc240, true_and, and_true, false_and, and_false, if_true, if_false, reduceIte])
                · refine OwnW.aload X17 (n := 245) at_243 rfl rfl rfl ?_
                  refine OwnW.iconst X17 (z := (2 : Int32)) (n := 246) at_245 rfl rfl ?_
                  refine OwnW.caload X17 (i := 2) (v := (.int f2)) (n := 247) at_246 fk22 rfl rfl rfl ?_
                  refine OwnW.bipush X17 (z := (101 : Int32)) (n := 249) at_247 rfl rfl ?_
                  refine OwnW.ic_ne X17  (n1 := 274) (n2 := 252) at_249 (by decide) rfl rfl (fun hc249 => ?_) (fun hc249 => ?_)
                  · refine OwnW.iconst X17 (z := (0 : Int32)) (n := 275) at_274 rfl rfl ?_
                    refine OwnW.istore X17 (l' := #[.val (.int p0), .val (.int p1), .val (.int p2), .val (.int p3), .val (.int p4), .val (.int p5), .val (.int kk), .val (.int n), .val (.ref b2), .val (.int (0 : Int32)), .val (.ref x16), .val (.ref a_AGENT), .val (.int (0 : Int32)), .unset]) (n := 277) at_275 rfl rfl ?_
                    exact J18 _ (0 : Int32) X17 (by simp only [own_ag hj14, eq_true hc222, eq_true hc231, eq_true hc240, eq_false hc249, true_and, and_true, false_and, and_false, if_true, if_false, reduceIte])
                  · refine OwnW.aload X17 (n := 254) at_252 rfl rfl rfl ?_
                    refine OwnW.iconst X17 (z := (3 : Int32)) (n := 255) at_254 rfl rfl ?_
                    refine OwnW.caload X17 (i := 3) (v := (.int f3)) (n := 256) at_255 fk22 rfl rfl rfl ?_
                    refine OwnW.bipush X17 (z := (110 : Int32)) (n := 258) at_256 rfl rfl ?_
                    refine OwnW.ic_ne X17  (n1 := 274) (n2 := 261) at_258 (by decide) rfl rfl (fun hc258 => ?_) (fun hc258 => ?_)
                    · refine OwnW.iconst X17 (z := (0 : Int32)) (n := 275) at_274 rfl rfl ?_
                      refine OwnW.istore X17 (l' := #[.val (.int p0), .val (.int p1), .val (.int p2), .val (.int p3), .val (.int p4), .val (.int p5), .val (.int kk), .val (.int n), .val (.ref b2), .val (.int (0 : Int32)), .val (.ref x16), .val (.ref a_AGENT), .val (.int (0 : Int32)), .unset]) (n := 277) at_275 rfl rfl ?_
                      exact J18 _ (0 : Int32) X17 (by simp only [own_ag hj14, eq_true hc222, eq_true hc231, eq_true hc240, eq_true hc249, eq_false hc258, true_and, and_true, false_and, and_false, if_true, if_false, reduceIte])
                    · refine OwnW.aload X17 (n := 263) at_261 rfl rfl rfl ?_
                      refine OwnW.iconst X17 (z := (4 : Int32)) (n := 264) at_263 rfl rfl ?_
                      refine OwnW.caload X17 (i := 4) (v := (.int f4)) (n := 265) at_264 fk22 rfl rfl rfl ?_
                      refine OwnW.bipush X17 (z := (116 : Int32)) (n := 267) at_265 rfl rfl ?_
                      refine OwnW.ic_ne X17  (n1 := 274) (n2 := 270) at_267 (by decide) rfl rfl (fun hc267 => ?_) (fun hc267 => ?_)
                      · refine OwnW.iconst X17 (z := (0 : Int32)) (n := 275) at_274 rfl rfl ?_
                        refine OwnW.istore X17 (l' := #[.val (.int p0), .val (.int p1), .val (.int p2), .val (.int p3), .val (.int p4), .val (.int p5), .val (.int kk), .val (.int n), .val (.ref b2), .val (.int (0 : Int32)), .val (.ref x16), .val (.ref a_AGENT), .val (.int (0 : Int32)), .unset]) (n := 277) at_275 rfl rfl ?_
                        exact J18 _ (0 : Int32) X17 (by simp only [own_ag hj14, eq_true hc222, eq_true hc231, eq_true hc240, eq_true hc249, eq_true hc258, eq_false hc267, true_and, and_true, false_and, and_false, if_true, if_false, reduceIte])
                      · refine OwnW.iconst X17 (z := (1 : Int32)) (n := 271) at_270 rfl rfl ?_
                        refine OwnW.goto X17 (n := 275) at_271 (by decide) rfl ?_
                        refine OwnW.istore X17 (l' := #[.val (.int p0), .val (.int p1), .val (.int p2), .val (.int p3), .val (.int p4), .val (.int p5), .val (.int kk), .val (.int n), .val (.ref b2), .val (.int (0 : Int32)), .val (.ref x16), .val (.ref a_AGENT), .val (.int (1 : Int32)), .unset]) (n := 277) at_275 rfl rfl ?_
                        exact J18 _ (1 : Int32) X17 (by simp only [own_ag hj14, eq_true hc222, eq_true hc231, eq_true hc240, eq_true hc249, eq_true hc258, eq_true hc267, true_and, and_true, false_and, and_false, if_true, if_false, reduceIte])
        · subst q1
          refine OwnW.astore X17 (l' := #[.val (.int p0), .val (.int p1), .val (.int p2), .val (.int p3), .val (.int p4), .val (.int p5), .val (.int kk), .val (.int n), .val (.ref b2), .val (.int (0 : Int32)), .val (.ref x16), .val (.ref a_DATA), .unset, .unset]) (n := 214) at_212 rfl rfl rfl ?_
          refine OwnW.joinT X17 (fun (v277 : Int32) => v277 = (if (own_take n f0 f1 f2 f3 f4 f5) = own_agent then 1 else 0)) (fun (v277 : Int32) => mkF m 277 #[.val (.int p0), .val (.int p1), .val (.int p2), .val (.int p3), .val (.int p4), .val (.int p5), .val (.int kk), .val (.int n), .val (.ref b2), .val (.int (0 : Int32)), .val (.ref x16), .val (.ref a_DATA), .val (.int v277), .unset] []) ?_ ?_
          · intro T23 v277 X23 hj277
            refine OwnW.joinT X23 (fun (v331 : Int32) => v331 = (if (own_take n f0 f1 f2 f3 f4 f5) = own_data then 1 else 0)) (fun (v331 : Int32) => mkF m 331 #[.val (.int p0), .val (.int p1), .val (.int p2), .val (.int p3), .val (.int p4), .val (.int p5), .val (.int kk), .val (.int n), .val (.ref b2), .val (.int (0 : Int32)), .val (.ref x16), .val (.ref a_DATA), .val (.int v277), .val (.int v331)] []) ?_ ?_
            · intro T24 v331 X24 hj331
              refine OwnW.iload X24 (n := 333) at_331 rfl rfl ?_
              refine OwnW.if_eq X24  (n1 := 350) (n2 := 336) at_333 (by decide) rfl rfl (fun _ => ?_) (fun q => absurd ((by rw [hj277, if_neg hA]) : v277 = 0) q)
              refine OwnW.iload X24 (n := 352) at_350 rfl rfl ?_
              refine OwnW.if_eq X24  (n1 := 369) (n2 := 355) at_352 (by decide) rfl rfl (fun q => absurd q ((by rw [hj331, if_pos hD]; decide) : ¬ v331 = 0)) (fun _ => ?_)
              refine OwnW.aload X24 (n := 357) at_355 rfl rfl rfl ?_
              refine OwnW.getstatic X24 (n := 360) at_357 (hw _ (List.mem_of_getElem? (i := 74) rfl)) Via.refl (S_DATA.ext O17.2) rfl ?_
              intro T25 X25
              refine OwnW.ac_ne X25 (n1 := 367) (n2 := 363) at_360 rfl rfl (by decide) rfl rfl (fun q => absurd (rfl : ((.ref a_DATA) : Value) = (.ref a_DATA)) q) (fun _ => ?_)
              refine OwnW.iconst X25 (z := (1 : Int32)) (n := 364) at_363 rfl rfl ?_
              refine OwnW.goto X25 (n := 368) at_364 (by decide) rfl ?_
              exact OwnW.ireturn X25 rfl (Or.inr (Or.inl rfl)) rfl at_368 rfl (by decide) (by decide)
            · intro J24
              refine OwnW.iload X23 (n := 279) at_277 rfl rfl ?_
              refine OwnW.if_ne X23  (n1 := 328) (n2 := 282) at_279 (by decide) rfl rfl (fun q => absurd ((by decide) : (0 : Int32) = 0) q) (fun _ => ?_)
              refine OwnW.iload X23 (n := 284) at_282 rfl rfl ?_
              refine OwnW.iconst X23 (z := (4 : Int32)) (n := 285) at_284 rfl rfl ?_
              refine OwnW.ic_ne X23  (n1 := 328) (n2 := 288) at_285 (by decide) rfl rfl (fun hc285 => ?_) (fun hc285 => ?_)
              · refine OwnW.iconst X23 (z := (0 : Int32)) (n := 329) at_328 rfl rfl ?_
                refine OwnW.istore X23 (l' := #[.val (.int p0), .val (.int p1), .val (.int p2), .val (.int p3), .val (.int p4), .val (.int p5), .val (.int kk), .val (.int n), .val (.ref b2), .val (.int (0 : Int32)), .val (.ref x16), .val (.ref a_DATA), .val (.int v277), .val (.int (0 : Int32))]) (n := 331) at_329 rfl rfl ?_
                exact J24 _ (0 : Int32) X23 (by simp only [own_da hj14, eq_false hc285, true_and, and_true, false_and, and_false, if_true, if_false, reduceIte])
              · refine OwnW.aload X23 (n := 290) at_288 rfl rfl rfl ?_
                refine OwnW.iconst X23 (z := (0 : Int32)) (n := 291) at_290 rfl rfl ?_
                have fk26 := ((A15.keep K16 nin0).keep K17 nin0)
                refine OwnW.caload X23 (i := 0) (v := (.int f0)) (n := 292) at_291 fk26 rfl rfl rfl ?_
                refine OwnW.bipush X23 (z := (100 : Int32)) (n := 294) at_292 rfl rfl ?_
                refine OwnW.ic_ne X23  (n1 := 328) (n2 := 297) at_294 (by decide) rfl rfl (fun hc294 => ?_) (fun hc294 => ?_)
                · refine OwnW.iconst X23 (z := (0 : Int32)) (n := 329) at_328 rfl rfl ?_
                  refine OwnW.istore X23 (l' := #[.val (.int p0), .val (.int p1), .val (.int p2), .val (.int p3), .val (.int p4), .val (.int p5), .val (.int kk), .val (.int n), .val (.ref b2), .val (.int (0 : Int32)), .val (.ref x16), .val (.ref a_DATA), .val (.int v277), .val (.int (0 : Int32))]) (n := 331) at_329 rfl rfl ?_
                  exact J24 _ (0 : Int32) X23 (by simp only [own_da hj14, eq_true hc285, eq_false hc294, true_and, and_true, false_and, and_false, if_true, if_false, reduceIte])
                · refine OwnW.aload X23 (n := 299) at_297 rfl rfl rfl ?_
                  refine OwnW.iconst X23 (z := (1 : Int32)) (n := 300) at_299 rfl rfl ?_
                  refine OwnW.caload X23 (i := 1) (v := (.int f1)) (n := 301) at_300 fk26 rfl rfl rfl ?_
                  refine OwnW.bipush X23 (z := (97 : Int32)) (n := 303) at_301 rfl rfl ?_
                  refine OwnW.ic_ne X23  (n1 := 328) (n2 := 306) at_303 (by decide) rfl rfl (fun hc303 => ?_) (fun hc303 => ?_)
                  · refine OwnW.iconst X23 (z := (0 : Int32)) (n := 329) at_328 rfl rfl ?_
                    refine OwnW.istore X23 (l' := #[.val (.int p0), .val (.int p1), .val (.int p2), .val (.int p3), .val (.int p4), .val (.int p5), .val (.int kk), .val (.int n), .val (.ref b2), .val (.int (0 : Int32)), .val (.ref x16), .val (.ref a_DATA), .val (.int v277), .val (.int (0 : Int32))]) (n := 331) at_329 rfl rfl ?_
                    exact J24 _ (0 : Int32) X23 (by simp only [own_da hj14, eq_true hc285, eq_true hc294, eq_false hc303, true_and, and_true, false_and, and_false, if_true, if_false, reduceIte])
                  · refine OwnW.aload X23 (n := 308) at_306 rfl rfl rfl ?_
                    refine OwnW.iconst X23 (z := (2 : Int32)) (n := 309) at_308 rfl rfl ?_
                    refine OwnW.caload X23 (i := 2) (v := (.int f2)) (n := 310) at_309 fk26 rfl rfl rfl ?_
                    refine OwnW.bipush X23 (z := (116 : Int32)) (n := 312) at_310 rfl rfl ?_
                    refine OwnW.ic_ne X23  (n1 := 328) (n2 := 315) at_312 (by decide) rfl rfl (fun hc312 => ?_) (fun hc312 => ?_)
                    · refine OwnW.iconst X23 (z := (0 : Int32)) (n := 329) at_328 rfl rfl ?_
                      refine OwnW.istore X23 (l' := #[.val (.int p0), .val (.int p1), .val (.int p2), .val (.int p3), .val (.int p4), .val (.int p5), .val (.int kk), .val (.int n), .val (.ref b2), .val (.int (0 : Int32)), .val (.ref x16), .val (.ref a_DATA), .val (.int v277), .val (.int (0 : Int32))]) (n := 331) at_329 rfl rfl ?_
                      exact J24 _ (0 : Int32) X23 (by simp only [own_da hj14, eq_true hc285, eq_true hc294, eq_true hc303, eq_false hc312, true_and, and_true, false_and, and_false, if_true, if_false, reduceIte])
                    · refine OwnW.aload X23 (n := 317) at_315 rfl rfl rfl ?_
                      refine OwnW.iconst X23 (z := (3 : Int32)) (n := 318) at_317 rfl rfl ?_
                      refine OwnW.caload X23 (i := 3) (v := (.int f3)) (n := 319) at_318 fk26 rfl rfl rfl ?_
                      refine OwnW.bipush X23 (z := (97 : Int32)) (n := 321) at_319 rfl rfl ?_
                      refine OwnW.ic_ne X23  (n1 := 328) (n2 := 324) at_321 (by decide) rfl rfl (fun hc321 => ?_) (fun hc321 => ?_)
                      · refine OwnW.iconst X23 (z := (0 : Int32)) (n := 329) at_328 rfl rfl ?_
                        refine OwnW.istore X23 (l' := #[.val (.int p0), .val (.int p1), .val (.int p2), .val (.int p3), .val (.int p4), .val (.int p5), .val (.int kk), .val (.int n), .val (.ref b2), .val (.int (0 : Int32)), .val (.ref x16), .val (.ref a_DATA), .val (.int v277), .val (.int (0 : Int32))]) (n := 331) at_329 rfl rfl ?_
                        exact J24 _ (0 : Int32) X23 (by simp only [own_da hj14, eq_true hc285, eq_true hc294, eq_true hc303, eq_true hc312, eq_false hc321, true_and, and_true, false_and, and_false, if_true, if_false, reduceIte])
                      · refine OwnW.iconst X23 (z := (1 : Int32)) (n := 325) at_324 rfl rfl ?_
                        refine OwnW.goto X23 (n := 329) at_325 (by decide) rfl ?_
                        refine OwnW.istore X23 (l' := #[.val (.int p0), .val (.int p1), .val (.int p2), .val (.int p3), .val (.int p4), .val (.int p5), .val (.int kk), .val (.int n), .val (.ref b2), .val (.int (0 : Int32)), .val (.ref x16), .val (.ref a_DATA), .val (.int v277), .val (.int (1 : Int32))]) (n := 331) at_329 rfl rfl ?_
                        exact J24 _ (1 : Int32) X23 (by simp only [own_da hj14, eq_true hc285, eq_true hc294, eq_true hc303, eq_true hc312, eq_true hc321, true_and, and_true, false_and, and_false, if_true, if_false, reduceIte])
          · intro J23
            refine OwnW.iload X17 (n := 216) at_214 rfl rfl ?_
            refine OwnW.if_ne X17  (n1 := 274) (n2 := 219) at_216 (by decide) rfl rfl (fun q => absurd ((by decide) : (0 : Int32) = 0) q) (fun _ => ?_)
            refine OwnW.iload X17 (n := 221) at_219 rfl rfl ?_
            refine OwnW.iconst X17 (z := (5 : Int32)) (n := 222) at_221 rfl rfl ?_
            refine OwnW.ic_ne X17  (n1 := 274) (n2 := 225) at_222 (by decide) rfl rfl (fun hc222 => ?_) (fun hc222 => ?_)
            · refine OwnW.iconst X17 (z := (0 : Int32)) (n := 275) at_274 rfl rfl ?_
              refine OwnW.istore X17 (l' := #[.val (.int p0), .val (.int p1), .val (.int p2), .val (.int p3), .val (.int p4), .val (.int p5), .val (.int kk), .val (.int n), .val (.ref b2), .val (.int (0 : Int32)), .val (.ref x16), .val (.ref a_DATA), .val (.int (0 : Int32)), .unset]) (n := 277) at_275 rfl rfl ?_
              exact J23 _ (0 : Int32) X17 (by simp only [own_ag hj14, eq_false hc222, true_and, and_true, false_and, and_false, if_true, if_false, reduceIte])
            · refine OwnW.aload X17 (n := 227) at_225 rfl rfl rfl ?_
              refine OwnW.iconst X17 (z := (0 : Int32)) (n := 228) at_227 rfl rfl ?_
              have fk27 := ((A15.keep K16 nin0).keep K17 nin0)
              refine OwnW.caload X17 (i := 0) (v := (.int f0)) (n := 229) at_228 fk27 rfl rfl rfl ?_
              refine OwnW.bipush X17 (z := (97 : Int32)) (n := 231) at_229 rfl rfl ?_
              refine OwnW.ic_ne X17  (n1 := 274) (n2 := 234) at_231 (by decide) rfl rfl (fun hc231 => ?_) (fun hc231 => ?_)
              · refine OwnW.iconst X17 (z := (0 : Int32)) (n := 275) at_274 rfl rfl ?_
                refine OwnW.istore X17 (l' := #[.val (.int p0), .val (.int p1), .val (.int p2), .val (.int p3), .val (.int p4), .val (.int p5), .val (.int kk), .val (.int n), .val (.ref b2), .val (.int (0 : Int32)), .val (.ref x16), .val (.ref a_DATA), .val (.int (0 : Int32)), .unset]) (n := 277) at_275 rfl rfl ?_
                exact J23 _ (0 : Int32) X17 (by simp only [own_ag hj14, eq_true hc222, eq_false hc231, true_and, and_true, false_and, and_false, if_true, if_false, reduceIte])
              · refine OwnW.aload X17 (n := 236) at_234 rfl rfl rfl ?_
                refine OwnW.iconst X17 (z := (1 : Int32)) (n := 237) at_236 rfl rfl ?_
                refine OwnW.caload X17 (i := 1) (v := (.int f1)) (n := 238) at_237 fk27 rfl rfl rfl ?_
                refine OwnW.bipush X17 (z := (103 : Int32)) (n := 240) at_238 rfl rfl ?_
                refine OwnW.ic_ne X17  (n1 := 274) (n2 := 243) at_240 (by decide) rfl rfl (fun hc240 => ?_) (fun hc240 => ?_)
                · refine OwnW.iconst X17 (z := (0 : Int32)) (n := 275) at_274 rfl rfl ?_
                  refine OwnW.istore X17 (l' := #[.val (.int p0), .val (.int p1), .val (.int p2), .val (.int p3), .val (.int p4), .val (.int p5), .val (.int kk), .val (.int n), .val (.ref b2), .val (.int (0 : Int32)), .val (.ref x16), .val (.ref a_DATA), .val (.int (0 : Int32)), .unset]) (n := 277) at_275 rfl rfl ?_
                  exact J23 _ (0 : Int32) X17 (by simp only [own_ag hj14, eq_true hc222, eq_true hc231, eq_false hc240, true_and, and_true, false_and, and_false, if_true, if_false, reduceIte])
                · refine OwnW.aload X17 (n := 245) at_243 rfl rfl rfl ?_
                  refine OwnW.iconst X17 (z := (2 : Int32)) (n := 246) at_245 rfl rfl ?_
                  refine OwnW.caload X17 (i := 2) (v := (.int f2)) (n := 247) at_246 fk27 rfl rfl rfl ?_
                  refine OwnW.bipush X17 (z := (101 : Int32)) (n := 249) at_247 rfl rfl ?_
                  refine OwnW.ic_ne X17  (n1 := 274) (n2 := 252) at_249 (by decide) rfl rfl (fun hc249 => ?_) (fun hc249 => ?_)
                  · refine OwnW.iconst X17 (z := (0 : Int32)) (n := 275) at_274 rfl rfl ?_
                    refine OwnW.istore X17 (l' := #[.val (.int p0), .val (.int p1), .val (.int p2), .val (.int p3), .val (.int p4), .val (.int p5), .val (.int kk), .val (.int n), .val (.ref b2), .val (.int (0 : Int32)), .val (.ref x16), .val (.ref a_DATA), .val (.int (0 : Int32)), .unset]) (n := 277) at_275 rfl rfl ?_
                    exact J23 _ (0 : Int32) X17 (by simp only [own_ag hj14, eq_true hc222, eq_true hc231, eq_true hc240, eq_false hc249, true_and, and_true, false_and, and_false, if_true, if_false, reduceIte])
                  · refine OwnW.aload X17 (n := 254) at_252 rfl rfl rfl ?_
                    refine OwnW.iconst X17 (z := (3 : Int32)) (n := 255) at_254 rfl rfl ?_
                    refine OwnW.caload X17 (i := 3) (v := (.int f3)) (n := 256) at_255 fk27 rfl rfl rfl ?_
                    refine OwnW.bipush X17 (z := (110 : Int32)) (n := 258) at_256 rfl rfl ?_
                    refine OwnW.ic_ne X17  (n1 := 274) (n2 := 261) at_258 (by decide) rfl rfl (fun hc258 => ?_) (fun hc258 => ?_)
                    · refine OwnW.iconst X17 (z := (0 : Int32)) (n := 275) at_274 rfl rfl ?_
                      refine OwnW.istore X17 (l' := #[.val (.int p0), .val (.int p1), .val (.int p2), .val (.int p3), .val (.int p4), .val (.int p5), .val (.int kk), .val (.int n), .val (.ref b2), .val (.int (0 : Int32)), .val (.ref x16), .val (.ref a_DATA), .val (.int (0 : Int32)), .unset]) (n := 277) at_275 rfl rfl ?_
                      exact J23 _ (0 : Int32) X17 (by simp only [own_ag hj14, eq_true hc222, eq_true hc231, eq_true hc240, eq_true hc249, eq_false hc258, true_and, and_true, false_and, and_false, if_true, if_false, reduceIte])
                    · refine OwnW.aload X17 (n := 263) at_261 rfl rfl rfl ?_
                      refine OwnW.iconst X17 (z := (4 : Int32)) (n := 264) at_263 rfl rfl ?_
                      refine OwnW.caload X17 (i := 4) (v := (.int f4)) (n := 265) at_264 fk27 rfl rfl rfl ?_
                      refine OwnW.bipush X17 (z := (116 : Int32)) (n := 267) at_265 rfl rfl ?_
                      refine OwnW.ic_ne X17  (n1 := 274) (n2 := 270) at_267 (by decide) rfl rfl (fun hc267 => ?_) (fun hc267 => ?_)
                      · refine OwnW.iconst X17 (z := (0 : Int32)) (n := 275) at_274 rfl rfl ?_
                        refine OwnW.istore X17 (l' := #[.val (.int p0), .val (.int p1), .val (.int p2), .val (.int p3), .val (.int p4), .val (.int p5), .val (.int kk), .val (.int n), .val (.ref b2), .val (.int (0 : Int32)), .val (.ref x16), .val (.ref a_DATA), .val (.int (0 : Int32)), .unset]) (n := 277) at_275 rfl rfl ?_
                        exact J23 _ (0 : Int32) X17 (by simp only [own_ag hj14, eq_true hc222, eq_true hc231, eq_true hc240, eq_true hc249, eq_true hc258, eq_false hc267, true_and, and_true, false_and, and_false, if_true, if_false, reduceIte])
                      · refine OwnW.iconst X17 (z := (1 : Int32)) (n := 271) at_270 rfl rfl ?_
                        refine OwnW.goto X17 (n := 275) at_271 (by decide) rfl ?_
                        refine OwnW.istore X17 (l' := #[.val (.int p0), .val (.int p1), .val (.int p2), .val (.int p3), .val (.int p4), .val (.int p5), .val (.int kk), .val (.int n), .val (.ref b2), .val (.int (0 : Int32)), .val (.ref x16), .val (.ref a_DATA), .val (.int (1 : Int32)), .unset]) (n := 277) at_275 rfl rfl ?_
                        exact J23 _ (1 : Int32) X17 (by simp only [own_ag hj14, eq_true hc222, eq_true hc231, eq_true hc240, eq_true hc249, eq_true hc258, eq_true hc267, true_and, and_true, false_and, and_false, if_true, if_false, reduceIte])
        · subst q1
          refine OwnW.astore X17 (l' := #[.val (.int p0), .val (.int p1), .val (.int p2), .val (.int p3), .val (.int p4), .val (.int p5), .val (.int kk), .val (.int n), .val (.ref b2), .val (.int (0 : Int32)), .val (.ref x16), .val .null, .unset, .unset]) (n := 214) at_212 rfl rfl rfl ?_
          refine OwnW.joinT X17 (fun (v277 : Int32) => v277 = (if (own_take n f0 f1 f2 f3 f4 f5) = own_agent then 1 else 0)) (fun (v277 : Int32) => mkF m 277 #[.val (.int p0), .val (.int p1), .val (.int p2), .val (.int p3), .val (.int p4), .val (.int p5), .val (.int kk), .val (.int n), .val (.ref b2), .val (.int (0 : Int32)), .val (.ref x16), .val .null, .val (.int v277), .unset] []) ?_ ?_
          · intro T28 v277 X28 hj277
            refine OwnW.joinT X28 (fun (v331 : Int32) => v331 = (if (own_take n f0 f1 f2 f3 f4 f5) = own_data then 1 else 0)) (fun (v331 : Int32) => mkF m 331 #[.val (.int p0), .val (.int p1), .val (.int p2), .val (.int p3), .val (.int p4), .val (.int p5), .val (.int kk), .val (.int n), .val (.ref b2), .val (.int (0 : Int32)), .val (.ref x16), .val .null, .val (.int v277), .val (.int v331)] []) ?_ ?_
            · intro T29 v331 X29 hj331
              refine OwnW.iload X29 (n := 333) at_331 rfl rfl ?_
              refine OwnW.if_eq X29  (n1 := 350) (n2 := 336) at_333 (by decide) rfl rfl (fun _ => ?_) (fun q => absurd ((by rw [hj277, if_neg hA]) : v277 = 0) q)
              refine OwnW.iload X29 (n := 352) at_350 rfl rfl ?_
              refine OwnW.if_eq X29  (n1 := 369) (n2 := 355) at_352 (by decide) rfl rfl (fun _ => ?_) (fun q => absurd ((by rw [hj331, if_neg hD]) : v331 = 0) q)
              refine OwnW.aload X29 (n := 371) at_369 rfl rfl rfl ?_
              refine OwnW.ifnonnull_n X29 (n2 := 374) at_371 rfl ?_
              refine OwnW.iconst X29 (z := (1 : Int32)) (n := 375) at_374 rfl rfl ?_
              refine OwnW.goto X29 (n := 379) at_375 (by decide) rfl ?_
              exact OwnW.ireturn X29 rfl (Or.inr (Or.inl rfl)) rfl at_379 rfl (by decide) (by decide)
            · intro J29
              refine OwnW.iload X28 (n := 279) at_277 rfl rfl ?_
              refine OwnW.if_ne X28  (n1 := 328) (n2 := 282) at_279 (by decide) rfl rfl (fun q => absurd ((by decide) : (0 : Int32) = 0) q) (fun _ => ?_)
              refine OwnW.iload X28 (n := 284) at_282 rfl rfl ?_
              refine OwnW.iconst X28 (z := (4 : Int32)) (n := 285) at_284 rfl rfl ?_
              refine OwnW.ic_ne X28  (n1 := 328) (n2 := 288) at_285 (by decide) rfl rfl (fun hc285 => ?_) (fun hc285 => ?_)
              · refine OwnW.iconst X28 (z := (0 : Int32)) (n := 329) at_328 rfl rfl ?_
                refine OwnW.istore X28 (l' := #[.val (.int p0), .val (.int p1), .val (.int p2), .val (.int p3), .val (.int p4), .val (.int p5), .val (.int kk), .val (.int n), .val (.ref b2), .val (.int (0 : Int32)), .val (.ref x16), .val .null, .val (.int v277), .val (.int (0 : Int32))]) (n := 331) at_329 rfl rfl ?_
                exact J29 _ (0 : Int32) X28 (by simp only [own_da hj14, eq_false hc285, true_and, and_true, false_and, and_false, if_true, if_false, reduceIte])
              · refine OwnW.aload X28 (n := 290) at_288 rfl rfl rfl ?_
                refine OwnW.iconst X28 (z := (0 : Int32)) (n := 291) at_290 rfl rfl ?_
                have fk30 := ((A15.keep K16 nin0).keep K17 nin0)
                refine OwnW.caload X28 (i := 0) (v := (.int f0)) (n := 292) at_291 fk30 rfl rfl rfl ?_
                refine OwnW.bipush X28 (z := (100 : Int32)) (n := 294) at_292 rfl rfl ?_
                refine OwnW.ic_ne X28  (n1 := 328) (n2 := 297) at_294 (by decide) rfl rfl (fun hc294 => ?_) (fun hc294 => ?_)
                · refine OwnW.iconst X28 (z := (0 : Int32)) (n := 329) at_328 rfl rfl ?_
                  refine OwnW.istore X28 (l' := #[.val (.int p0), .val (.int p1), .val (.int p2), .val (.int p3), .val (.int p4), .val (.int p5), .val (.int kk), .val (.int n), .val (.ref b2), .val (.int (0 : Int32)), .val (.ref x16), .val .null, .val (.int v277), .val (.int (0 : Int32))]) (n := 331) at_329 rfl rfl ?_
                  exact J29 _ (0 : Int32) X28 (by simp only [own_da hj14, eq_true hc285, eq_false hc294, true_and, and_true, false_and, and_false, if_true, if_false, reduceIte])
                · refine OwnW.aload X28 (n := 299) at_297 rfl rfl rfl ?_
                  refine OwnW.iconst X28 (z := (1 : Int32)) (n := 300) at_299 rfl rfl ?_
                  refine OwnW.caload X28 (i := 1) (v := (.int f1)) (n := 301) at_300 fk30 rfl rfl rfl ?_
                  refine OwnW.bipush X28 (z := (97 : Int32)) (n := 303) at_301 rfl rfl ?_
                  refine OwnW.ic_ne X28  (n1 := 328) (n2 := 306) at_303 (by decide) rfl rfl (fun hc303 => ?_) (fun hc303 => ?_)
                  · refine OwnW.iconst X28 (z := (0 : Int32)) (n := 329) at_328 rfl rfl ?_
                    refine OwnW.istore X28 (l' := #[.val (.int p0), .val (.int p1), .val (.int p2), .val (.int p3), .val (.int p4), .val (.int p5), .val (.int kk), .val (.int n), .val (.ref b2), .val (.int (0 : Int32)), .val (.ref x16), .val .null, .val (.int v277), .val (.int (0 : Int32))]) (n := 331) at_329 rfl rfl ?_
                    exact J29 _ (0 : Int32) X28 (by simp only [own_da hj14, eq_true hc285, eq_true hc294, eq_false hc303, true_and, and_true, false_and, and_false, if_true, if_false, reduceIte])
                  · refine OwnW.aload X28 (n := 308) at_306 rfl rfl rfl ?_
                    refine OwnW.iconst X28 (z := (2 : Int32)) (n := 309) at_308 rfl rfl ?_
                    refine OwnW.caload X28 (i := 2) (v := (.int f2)) (n := 310) at_309 fk30 rfl rfl rfl ?_
                    refine OwnW.bipush X28 (z := (116 : Int32)) (n := 312) at_310 rfl rfl ?_
                    refine OwnW.ic_ne X28  (n1 := 328) (n2 := 315) at_312 (by decide) rfl rfl (fun hc312 => ?_) (fun hc312 => ?_)
                    · refine OwnW.iconst X28 (z := (0 : Int32)) (n := 329) at_328 rfl rfl ?_
                      refine OwnW.istore X28 (l' := #[.val (.int p0), .val (.int p1), .val (.int p2), .val (.int p3), .val (.int p4), .val (.int p5), .val (.int kk), .val (.int n), .val (.ref b2), .val (.int (0 : Int32)), .val (.ref x16), .val .null, .val (.int v277), .val (.int (0 : Int32))]) (n := 331) at_329 rfl rfl ?_
                      exact J29 _ (0 : Int32) X28 (by simp only [own_da hj14, eq_true hc285, eq_true hc294, eq_true hc303, eq_false hc312, true_and, and_true, false_and, and_false, if_true, if_false, reduceIte])
                    · refine OwnW.aload X28 (n := 317) at_315 rfl rfl rfl ?_
                      refine OwnW.iconst X28 (z := (3 : Int32)) (n := 318) at_317 rfl rfl ?_
                      refine OwnW.caload X28 (i := 3) (v := (.int f3)) (n := 319) at_318 fk30 rfl rfl rfl ?_
                      refine OwnW.bipush X28 (z := (97 : Int32)) (n := 321) at_319 rfl rfl ?_
                      refine OwnW.ic_ne X28  (n1 := 328) (n2 := 324) at_321 (by decide) rfl rfl (fun hc321 => ?_) (fun hc321 => ?_)
                      · refine OwnW.iconst X28 (z := (0 : Int32)) (n := 329) at_328 rfl rfl ?_
                        refine OwnW.istore X28 (l' := #[.val (.int p0), .val (.int p1), .val (.int p2), .val (.int p3), .val (.int p4), .val (.int p5), .val (.int kk), .val (.int n), .val (.ref b2), .val (.int (0 : Int32)), .val (.ref x16), .val .null, .val (.int v277), .val (.int (0 : Int32))]) (n := 331) at_329 rfl rfl ?_
                        exact J29 _ (0 : Int32) X28 (by simp only [own_da hj14, eq_true hc285, eq_true hc294, eq_true hc303, eq_true hc312, eq_false hc321, true_and, and_true, false_and, and_false, if_true, if_false, reduceIte])
                      · refine OwnW.iconst X28 (z := (1 : Int32)) (n := 325) at_324 rfl rfl ?_
                        refine OwnW.goto X28 (n := 329) at_325 (by decide) rfl ?_
                        refine OwnW.istore X28 (l' := #[.val (.int p0), .val (.int p1), .val (.int p2), .val (.int p3), .val (.int p4), .val (.int p5), .val (.int kk), .val (.int n), .val (.ref b2), .val (.int (0 : Int32)), .val (.ref x16), .val .null, .val (.int v277), .val (.int (1 : Int32))]) (n := 331) at_329 rfl rfl ?_
                        exact J29 _ (1 : Int32) X28 (by simp only [own_da hj14, eq_true hc285, eq_true hc294, eq_true hc303, eq_true hc312, eq_true hc321, true_and, and_true, false_and, and_false, if_true, if_false, reduceIte])
          · intro J28
            refine OwnW.iload X17 (n := 216) at_214 rfl rfl ?_
            refine OwnW.if_ne X17  (n1 := 274) (n2 := 219) at_216 (by decide) rfl rfl (fun q => absurd ((by decide) : (0 : Int32) = 0) q) (fun _ => ?_)
            refine OwnW.iload X17 (n := 221) at_219 rfl rfl ?_
            refine OwnW.iconst X17 (z := (5 : Int32)) (n := 222) at_221 rfl rfl ?_
            refine OwnW.ic_ne X17  (n1 := 274) (n2 := 225) at_222 (by decide) rfl rfl (fun hc222 => ?_) (fun hc222 => ?_)
            · refine OwnW.iconst X17 (z := (0 : Int32)) (n := 275) at_274 rfl rfl ?_
              refine OwnW.istore X17 (l' := #[.val (.int p0), .val (.int p1), .val (.int p2), .val (.int p3), .val (.int p4), .val (.int p5), .val (.int kk), .val (.int n), .val (.ref b2), .val (.int (0 : Int32)), .val (.ref x16), .val .null, .val (.int (0 : Int32)), .unset]) (n := 277) at_275 rfl rfl ?_
              exact J28 _ (0 : Int32) X17 (by simp only [own_ag hj14, eq_false hc222, true_and, and_true, false_and, and_false, if_true, if_false, reduceIte])
            · refine OwnW.aload X17 (n := 227) at_225 rfl rfl rfl ?_
              refine OwnW.iconst X17 (z := (0 : Int32)) (n := 228) at_227 rfl rfl ?_
              have fk31 := ((A15.keep K16 nin0).keep K17 nin0)
              refine OwnW.caload X17 (i := 0) (v := (.int f0)) (n := 229) at_228 fk31 rfl rfl rfl ?_
              refine OwnW.bipush X17 (z := (97 : Int32)) (n := 231) at_229 rfl rfl ?_
              refine OwnW.ic_ne X17  (n1 := 274) (n2 := 234) at_231 (by decide) rfl rfl (fun hc231 => ?_) (fun hc231 => ?_)
              · refine OwnW.iconst X17 (z := (0 : Int32)) (n := 275) at_274 rfl rfl ?_
                refine OwnW.istore X17 (l' := #[.val (.int p0), .val (.int p1), .val (.int p2), .val (.int p3), .val (.int p4), .val (.int p5), .val (.int kk), .val (.int n), .val (.ref b2), .val (.int (0 : Int32)), .val (.ref x16), .val .null, .val (.int (0 : Int32)), .unset]) (n := 277) at_275 rfl rfl ?_
                exact J28 _ (0 : Int32) X17 (by simp only [own_ag hj14, eq_true hc222, eq_false hc231, true_and, and_true, false_and, and_false, if_true, if_false, reduceIte])
              · refine OwnW.aload X17 (n := 236) at_234 rfl rfl rfl ?_
                refine OwnW.iconst X17 (z := (1 : Int32)) (n := 237) at_236 rfl rfl ?_
                refine OwnW.caload X17 (i := 1) (v := (.int f1)) (n := 238) at_237 fk31 rfl rfl rfl ?_
                refine OwnW.bipush X17 (z := (103 : Int32)) (n := 240) at_238 rfl rfl ?_
                refine OwnW.ic_ne X17  (n1 := 274) (n2 := 243) at_240 (by decide) rfl rfl (fun hc240 => ?_) (fun hc240 => ?_)
                · refine OwnW.iconst X17 (z := (0 : Int32)) (n := 275) at_274 rfl rfl ?_
                  refine OwnW.istore X17 (l' := #[.val (.int p0), .val (.int p1), .val (.int p2), .val (.int p3), .val (.int p4), .val (.int p5), .val (.int kk), .val (.int n), .val (.ref b2), .val (.int (0 : Int32)), .val (.ref x16), .val .null, .val (.int (0 : Int32)), .unset]) (n := 277) at_275 rfl rfl ?_
                  exact J28 _ (0 : Int32) X17 (by simp only [own_ag hj14, eq_true hc222, eq_true hc231, eq_false hc240, true_and, and_true, false_and, and_false, if_true, if_false, reduceIte])
                · refine OwnW.aload X17 (n := 245) at_243 rfl rfl rfl ?_
                  refine OwnW.iconst X17 (z := (2 : Int32)) (n := 246) at_245 rfl rfl ?_
                  refine OwnW.caload X17 (i := 2) (v := (.int f2)) (n := 247) at_246 fk31 rfl rfl rfl ?_
                  refine OwnW.bipush X17 (z := (101 : Int32)) (n := 249) at_247 rfl rfl ?_
                  refine OwnW.ic_ne X17  (n1 := 274) (n2 := 252) at_249 (by decide) rfl rfl (fun hc249 => ?_) (fun hc249 => ?_)
                  · refine OwnW.iconst X17 (z := (0 : Int32)) (n := 275) at_274 rfl rfl ?_
                    refine OwnW.istore X17 (l' := #[.val (.int p0), .val (.int p1), .val (.int p2), .val (.int p3), .val (.int p4), .val (.int p5), .val (.int kk), .val (.int n), .val (.ref b2), .val (.int (0 : Int32)), .val (.ref x16), .val .null, .val (.int (0 : Int32)), .unset]) (n := 277) at_275 rfl rfl ?_
                    exact J28 _ (0 : Int32) X17 (by simp only [own_ag hj14, eq_true hc222, eq_true hc231, eq_true hc240, eq_false hc249, true_and, and_true, false_and, and_false, if_true, if_false, reduceIte])
                  · refine OwnW.aload X17 (n := 254) at_252 rfl rfl rfl ?_
                    refine OwnW.iconst X17 (z := (3 : Int32)) (n := 255) at_254 rfl rfl ?_
                    refine OwnW.caload X17 (i := 3) (v := (.int f3)) (n := 256) at_255 fk31 rfl rfl rfl ?_
                    refine OwnW.bipush X17 (z := (110 : Int32)) (n := 258) at_256 rfl rfl ?_
                    refine OwnW.ic_ne X17  (n1 := 274) (n2 := 261) at_258 (by decide) rfl rfl (fun hc258 => ?_) (fun hc258 => ?_)
                    · refine OwnW.iconst X17 (z := (0 : Int32)) (n := 275) at_274 rfl rfl ?_
                      refine OwnW.istore X17 (l' := #[.val (.int p0), .val (.int p1), .val (.int p2), .val (.int p3), .val (.int p4), .val (.int p5), .val (.int kk), .val (.int n), .val (.ref b2), .val (.int (0 : Int32)), .val (.ref x16), .val .null, .val (.int (0 : Int32)), .unset]) (n := 277) at_275 rfl rfl ?_
                      exact J28 _ (0 : Int32) X17 (by simp only [own_ag hj14, eq_true hc222, eq_true hc231, eq_true hc240, eq_true hc249, eq_false hc258, true_and, and_true, false_and, and_false, if_true, if_false, reduceIte])
                    · refine OwnW.aload X17 (n := 263) at_261 rfl rfl rfl ?_
                      refine OwnW.iconst X17 (z := (4 : Int32)) (n := 264) at_263 rfl rfl ?_
                      refine OwnW.caload X17 (i := 4) (v := (.int f4)) (n := 265) at_264 fk31 rfl rfl rfl ?_
                      refine OwnW.bipush X17 (z := (116 : Int32)) (n := 267) at_265 rfl rfl ?_
                      refine OwnW.ic_ne X17  (n1 := 274) (n2 := 270) at_267 (by decide) rfl rfl (fun hc267 => ?_) (fun hc267 => ?_)
                      · refine OwnW.iconst X17 (z := (0 : Int32)) (n := 275) at_274 rfl rfl ?_
                        refine OwnW.istore X17 (l' := #[.val (.int p0), .val (.int p1), .val (.int p2), .val (.int p3), .val (.int p4), .val (.int p5), .val (.int kk), .val (.int n), .val (.ref b2), .val (.int (0 : Int32)), .val (.ref x16), .val .null, .val (.int (0 : Int32)), .unset]) (n := 277) at_275 rfl rfl ?_
                        exact J28 _ (0 : Int32) X17 (by simp only [own_ag hj14, eq_true hc222, eq_true hc231, eq_true hc240, eq_true hc249, eq_true hc258, eq_false hc267, true_and, and_true, false_and, and_false, if_true, if_false, reduceIte])
                      · refine OwnW.iconst X17 (z := (1 : Int32)) (n := 271) at_270 rfl rfl ?_
                        refine OwnW.goto X17 (n := 275) at_271 (by decide) rfl ?_
                        refine OwnW.istore X17 (l' := #[.val (.int p0), .val (.int p1), .val (.int p2), .val (.int p3), .val (.int p4), .val (.int p5), .val (.int kk), .val (.int n), .val (.ref b2), .val (.int (0 : Int32)), .val (.ref x16), .val .null, .val (.int (1 : Int32)), .unset]) (n := 277) at_275 rfl rfl ?_
                        exact J28 _ (1 : Int32) X17 (by simp only [own_ag hj14, eq_true hc222, eq_true hc231, eq_true hc240, eq_true hc249, eq_true hc258, eq_true hc267, true_and, and_true, false_and, and_false, if_true, if_false, reduceIte])
      · refine OwnW.iconst X15 (z := (1 : Int32)) (n := 183) at_182 rfl rfl ?_
        refine OwnW.goto X15 (n := 187) at_183 (by decide) rfl ?_
        refine OwnW.istore X15 (l' := #[.val (.int p0), .val (.int p1), .val (.int p2), .val (.int p3), .val (.int p4), .val (.int p5), .val (.int kk), .val (.int n), .val (.ref b2), .val (.int (1 : Int32)), .unset, .unset, .unset, .unset]) (n := 189) at_187 rfl rfl ?_
        refine OwnW.iload X15 (n := 191) at_189 rfl rfl ?_
        refine OwnW.if_eq X15  (n1 := 198) (n2 := 194) at_191 (by decide) rfl rfl (fun q => absurd q ((by decide) : ¬ (1 : Int32) = 0)) (fun _ => ?_)
        refine OwnW.anull X15 (n := 195) at_194 rfl ?_
        refine OwnW.goto X15 (n := 205) at_195 (by decide) rfl ?_
        refine OwnW.astore X15 (l' := #[.val (.int p0), .val (.int p1), .val (.int p2), .val (.int p3), .val (.int p4), .val (.int p5), .val (.int kk), .val (.int n), .val (.ref b2), .val (.int (1 : Int32)), .val .null, .unset, .unset, .unset]) (n := 207) at_205 rfl rfl rfl ?_
        refine OwnW.aload X15 (n := 209) at_207 rfl rfl rfl ?_
        refine OwnW.call_static_v X15 (z := (⟨"com/example/beholden/beholden/policy/Sort", "ofKeyword", "(Ljava/lang/String;)Lcom/example/beholden/beholden/policy/Sort;"⟩ : MethodName)) (n := 212) at_209 (hw _ (List.mem_of_getElem? (i := 38) rfl)) (hw _ (List.mem_of_getElem? (i := 39) rfl)) (hw _ (List.mem_of_getElem? (i := 41) rfl)) (hw _ (List.mem_of_getElem? (i := 40) rfl)) (by decide) (rmKn l Z a0 hw hE [] h15 n0 O15 a__VALUES S__VALUES E__VALUES a_AGENT S_AGENT E_AGENT a_DATA S_DATA E_DATA a_AGENT_keyword F_AGENT_keyword E_AGENT_keyword F_AGENT_keyword_coder a_AGENT_keyword_value F_AGENT_keyword_value a_DATA_keyword F_DATA_keyword E_DATA_keyword F_DATA_keyword_coder a_DATA_keyword_value F_DATA_keyword_value A__VALUES A_AGENT_keyword_value A_DATA_keyword_value zc hzc S_compact) OwnW.sf0 (argsL := [.null]) (rest := []) rfl rfl (OwnW.lenA pd__Ljava_lang_String__Lcom_example_beholden_beholden_policy_Sort_ rfl) (W := 0) (Nat.le_of_eq rfl) (by decide) (by decide) (by decide) (by decide) rfl ?_
        intro T32 h32 w32 g32 hle32 X32 ⟨q1, k32⟩
        subst q1
        have K32 := k32
        have O32 := O15.keep K32 all0
        have Z32 : Keep h0 h32 [] := K15.trans K32 (fun x hx => nomatch hx)
        refine OwnW.astore X32 (l' := #[.val (.int p0), .val (.int p1), .val (.int p2), .val (.int p3), .val (.int p4), .val (.int p5), .val (.int kk), .val (.int n), .val (.ref b2), .val (.int (1 : Int32)), .val .null, .val .null, .unset, .unset]) (n := 214) at_212 rfl rfl rfl ?_
        refine OwnW.joinT X32 (fun (v277 : Int32) => v277 = (if False then 1 else 0)) (fun (v277 : Int32) => mkF m 277 #[.val (.int p0), .val (.int p1), .val (.int p2), .val (.int p3), .val (.int p4), .val (.int p5), .val (.int kk), .val (.int n), .val (.ref b2), .val (.int (1 : Int32)), .val .null, .val .null, .val (.int v277), .unset] []) ?_ ?_
        · intro T33 v277 X33 hj277
          refine OwnW.joinT X33 (fun (v331 : Int32) => v331 = (if False then 1 else 0)) (fun (v331 : Int32) => mkF m 331 #[.val (.int p0), .val (.int p1), .val (.int p2), .val (.int p3), .val (.int p4), .val (.int p5), .val (.int kk), .val (.int n), .val (.ref b2), .val (.int (1 : Int32)), .val .null, .val .null, .val (.int v277), .val (.int v331)] []) ?_ ?_
          · intro T34 v331 X34 hj331
            refine OwnW.iload X34 (n := 333) at_331 rfl rfl ?_
            refine OwnW.if_eq X34  (n1 := 350) (n2 := 336) at_333 (by decide) rfl rfl (fun _ => ?_) (fun q => absurd ((by rw [hj277]; rfl) : v277 = 0) q)
            refine OwnW.iload X34 (n := 352) at_350 rfl rfl ?_
            refine OwnW.if_eq X34  (n1 := 369) (n2 := 355) at_352 (by decide) rfl rfl (fun _ => ?_) (fun q => absurd ((by rw [hj331]; rfl) : v331 = 0) q)
            refine OwnW.aload X34 (n := 371) at_369 rfl rfl rfl ?_
            refine OwnW.ifnonnull_n X34 (n2 := 374) at_371 rfl ?_
            refine OwnW.iconst X34 (z := (1 : Int32)) (n := 375) at_374 rfl rfl ?_
            refine OwnW.goto X34 (n := 379) at_375 (by decide) rfl ?_
            exact OwnW.ireturn X34 rfl (Or.inr (Or.inl rfl)) rfl at_379 rfl (by decide) (by decide)
          · intro J34
            refine OwnW.iload X33 (n := 279) at_277 rfl rfl ?_
            refine OwnW.if_ne X33  (n1 := 328) (n2 := 282) at_279 (by decide) rfl rfl (fun _ => ?_) (fun q => absurd q ((by decide) : ¬ (1 : Int32) = 0))
            refine OwnW.iconst X33 (z := (0 : Int32)) (n := 329) at_328 rfl rfl ?_
            refine OwnW.istore X33 (l' := #[.val (.int p0), .val (.int p1), .val (.int p2), .val (.int p3), .val (.int p4), .val (.int p5), .val (.int kk), .val (.int n), .val (.ref b2), .val (.int (1 : Int32)), .val .null, .val .null, .val (.int v277), .val (.int (0 : Int32))]) (n := 331) at_329 rfl rfl ?_
            exact J34 _ (0 : Int32) X33 (by simp only [true_and, and_true, false_and, and_false, if_true, if_false, reduceIte])
        · intro J33
          refine OwnW.iload X32 (n := 216) at_214 rfl rfl ?_
          refine OwnW.if_ne X32  (n1 := 274) (n2 := 219) at_216 (by decide) rfl rfl (fun _ => ?_) (fun q => absurd q ((by decide) : ¬ (1 : Int32) = 0))
          refine OwnW.iconst X32 (z := (0 : Int32)) (n := 275) at_274 rfl rfl ?_
          refine OwnW.istore X32 (l' := #[.val (.int p0), .val (.int p1), .val (.int p2), .val (.int p3), .val (.int p4), .val (.int p5), .val (.int kk), .val (.int n), .val (.ref b2), .val (.int (1 : Int32)), .val .null, .val .null, .val (.int (0 : Int32)), .unset]) (n := 277) at_275 rfl rfl ?_
          exact J33 _ (0 : Int32) X32 (by simp only [true_and, and_true, false_and, and_false, if_true, if_false, reduceIte])
    · intro J15
      refine OwnW.iload X14 (n := 76) at_74 rfl rfl ?_
      refine OwnW.if_ne X14  (n1 := 112) (n2 := 79) at_76 (by decide) rfl rfl (fun hc76 => ?_) (fun hc76 => ?_)
      · refine OwnW.iload X14 (n := 114) at_112 rfl rfl ?_
        refine OwnW.iconst X14 (z := (1 : Int32)) (n := 115) at_114 rfl rfl ?_
        refine OwnW.ic_ne X14  (n1 := 142) (n2 := 118) at_115 (by decide) rfl rfl (fun hc115 => ?_) (fun hc115 => ?_)
        · refine OwnW.iload X14 (n := 144) at_142 rfl rfl ?_
          refine OwnW.bipush X14 (z := (8 : Int32)) (n := 146) at_144 rfl rfl ?_
          refine OwnW.iand X14 (n := 147) at_146 rfl ?_
          refine OwnW.if_eq X14  (n1 := 173) (n2 := 150) at_147 (by decide) rfl rfl (fun hc147 => ?_) (fun hc147 => ?_)
          · exact J15 _ _ _ (d3, d5, d7, d9, d11, d13) X14 ⟨(own_aS hb_d3 (own_aS hb_d5 (own_aS hb_d7 (own_aS hb_d9 (own_aS hb_d11 (own_aS hb_d13 own_a0)))))), Z14, A14⟩
          · refine OwnW.iload X14 (n := 152) at_150 rfl rfl ?_
            refine OwnW.if_le X14  (n1 := 173) (n2 := 155) at_152 (by decide) rfl rfl (fun hc152 => ?_) (fun hc152 => ?_)
            · exact J15 _ _ _ (d3, d5, d7, d9, d11, d13) X14 ⟨(own_aS hb_d3 (own_aS hb_d5 (own_aS hb_d7 (own_aS hb_d9 (own_aS hb_d11 (own_aS hb_d13 own_a0)))))), Z14, A14⟩
            · refine OwnW.aload X14 (n := 157) at_155 rfl rfl rfl ?_
              refine OwnW.iload X14 (n := 159) at_157 rfl rfl ?_
              refine OwnW.bipush X14 (z := (7 : Int32)) (n := 161) at_159 rfl rfl ?_
              refine OwnW.iand X14 (n := 162) at_161 rfl ?_
              refine OwnW.iload X14 (n := 164) at_162 rfl rfl ?_
              refine OwnW.irem X14 (n := 165) at_164 (fun q => by rw [q] at hc152; exact absurd hc152 (by decide)) rfl ?_
              refine OwnW.iload X14 (n := 167) at_165 rfl rfl ?_
              refine OwnW.sipush X14 (z := (255 : Int32)) (n := 170) at_167 rfl rfl ?_
              refine OwnW.iand X14 (n := 171) at_170 rfl ?_
              refine OwnW.i2c X14 (n := 172) at_171 rfl ?_
              obtain ⟨i, hi1, hi2⟩ := own_idx p4 n hc152
              have hi3 : i < 6 := by have z : n.toInt ≤ 6 := (by rcases hj14 with rfl | rfl | rfl | rfl | rfl | rfl | rfl <;> decide); omega
              refine OwnW.castore X14 (i := i) (z := (p5 &&& 255).toUInt32.toUInt16.toUInt32.toInt32) (vs := ([d3, d5, d7, d9, d11, d13] : List Int32).map Value.int) (n := 173) at_172 A14 hi1 (by simpa using hi3) (own_narC (own_255 _).1 (own_255 _).2) ge_b2 (List.mem_append_left _ (List.mem_append_left _ (List.mem_append_left _ (List.mem_append_left _ (List.mem_append_left _ (List.mem_append_left _ (List.mem_cons_self ..))))))) rfl ?_
              intro T35 h35 X35 W35 A_sym
              have K35 := (Keep.of_wr W35)
              have O35 := O14.keep K35 (allS ge_b2 all0)
              have Z35 : Keep h0 h35 [] := Z14.trans K35 (allS (P := fun x => x ∈ [] ∨ h0.size ≤ x) (Or.inr sz_b2) all0)
              exact J15 _ _ _ ((([d3, d5, d7, d9, d11, d13] : List Int32).set i (p5 &&& 255).toUInt32.toUInt16.toUInt32.toInt32).getD 0 0, (([d3, d5, d7, d9, d11, d13] : List Int32).set i (p5 &&& 255).toUInt32.toUInt16.toUInt32.toInt32).getD 1 0, (([d3, d5, d7, d9, d11, d13] : List Int32).set i (p5 &&& 255).toUInt32.toUInt16.toUInt32.toInt32).getD 2 0, (([d3, d5, d7, d9, d11, d13] : List Int32).set i (p5 &&& 255).toUInt32.toUInt16.toUInt32.toInt32).getD 3 0, (([d3, d5, d7, d9, d11, d13] : List Int32).set i (p5 &&& 255).toUInt32.toUInt16.toUInt32.toInt32).getD 4 0, (([d3, d5, d7, d9, d11, d13] : List Int32).set i (p5 &&& 255).toUInt32.toUInt16.toUInt32.toInt32).getD 5 0) X35 ⟨(own_six (L := (([d3, d5, d7, d9, d11, d13] : List Int32).set i (p5 &&& 255).toUInt32.toUInt16.toUInt32.toInt32)) (by simp)) ▸ own_set_lat (own_aS hb_d3 (own_aS hb_d5 (own_aS hb_d7 (own_aS hb_d9 (own_aS hb_d11 (own_aS hb_d13 own_a0)))))) (own_255 _), Z35, by rw [own_mapset] at A_sym; have z := own_six (L := (([d3, d5, d7, d9, d11, d13] : List Int32).set i (p5 &&& 255).toUInt32.toUInt16.toUInt32.toInt32)) (by simp); rw [z] at A_sym; exact A_sym⟩
        · refine OwnW.aload X14 (n := 120) at_118 rfl rfl rfl ?_
          refine OwnW.iconst X14 (z := (0 : Int32)) (n := 121) at_120 rfl rfl ?_
          refine OwnW.bipush X14 (z := (100 : Int32)) (n := 123) at_121 rfl rfl ?_
          refine OwnW.castore X14 (i := 0) (z := (100 : Int32)) (n := 124) at_123 A14 rfl (Nat.le_of_ble_eq_true rfl) rfl ge_b2 (List.mem_append_left _ (List.mem_append_left _ (List.mem_append_left _ (List.mem_append_left _ (List.mem_append_left _ (List.mem_append_left _ (List.mem_cons_self ..))))))) rfl ?_
          intro T36 h36 X36 W36 A36
          have K36 := (Keep.of_wr W36)
          have O36 := O14.keep K36 (allS ge_b2 all0)
          have Z36 : Keep h0 h36 [] := Z14.trans K36 (allS (P := fun x => x ∈ [] ∨ h0.size ≤ x) (Or.inr sz_b2) all0)
          replace A36 : Ark Z h36 b2 .char [(.int (100 : Int32)), (.int d5), (.int d7), (.int d9), (.int d11), (.int d13)] := A36
          refine OwnW.aload X36 (n := 126) at_124 rfl rfl rfl ?_
          refine OwnW.iconst X36 (z := (1 : Int32)) (n := 127) at_126 rfl rfl ?_
          refine OwnW.bipush X36 (z := (97 : Int32)) (n := 129) at_127 rfl rfl ?_
          refine OwnW.castore X36 (i := 1) (z := (97 : Int32)) (n := 130) at_129 A36 rfl (Nat.le_of_ble_eq_true rfl) rfl ge_b2 (List.mem_append_left _ (List.mem_append_left _ (List.mem_append_left _ (List.mem_append_left _ (List.mem_append_left _ (List.mem_append_left _ (List.mem_cons_self ..))))))) rfl ?_
          intro T37 h37 X37 W37 A37
          have K37 := (Keep.of_wr W37)
          have O37 := O36.keep K37 (allS ge_b2 all0)
          have Z37 : Keep h0 h37 [] := Z36.trans K37 (allS (P := fun x => x ∈ [] ∨ h0.size ≤ x) (Or.inr sz_b2) all0)
          replace A37 : Ark Z h37 b2 .char [(.int (100 : Int32)), (.int (97 : Int32)), (.int d7), (.int d9), (.int d11), (.int d13)] := A37
          refine OwnW.aload X37 (n := 132) at_130 rfl rfl rfl ?_
          refine OwnW.iconst X37 (z := (2 : Int32)) (n := 133) at_132 rfl rfl ?_
          refine OwnW.bipush X37 (z := (116 : Int32)) (n := 135) at_133 rfl rfl ?_
          refine OwnW.castore X37 (i := 2) (z := (116 : Int32)) (n := 136) at_135 A37 rfl (Nat.le_of_ble_eq_true rfl) rfl ge_b2 (List.mem_append_left _ (List.mem_append_left _ (List.mem_append_left _ (List.mem_append_left _ (List.mem_append_left _ (List.mem_append_left _ (List.mem_cons_self ..))))))) rfl ?_
          intro T38 h38 X38 W38 A38
          have K38 := (Keep.of_wr W38)
          have O38 := O37.keep K38 (allS ge_b2 all0)
          have Z38 : Keep h0 h38 [] := Z37.trans K38 (allS (P := fun x => x ∈ [] ∨ h0.size ≤ x) (Or.inr sz_b2) all0)
          replace A38 : Ark Z h38 b2 .char [(.int (100 : Int32)), (.int (97 : Int32)), (.int (116 : Int32)), (.int d9), (.int d11), (.int d13)] := A38
          refine OwnW.aload X38 (n := 138) at_136 rfl rfl rfl ?_
          refine OwnW.iconst X38 (z := (3 : Int32)) (n := 139) at_138 rfl rfl ?_
          refine OwnW.bipush X38 (z := (97 : Int32)) (n := 141) at_139 rfl rfl ?_
          refine OwnW.castore X38 (i := 3) (z := (97 : Int32)) (n := 142) at_141 A38 rfl (Nat.le_of_ble_eq_true rfl) rfl ge_b2 (List.mem_append_left _ (List.mem_append_left _ (List.mem_append_left _ (List.mem_append_left _ (List.mem_append_left _ (List.mem_append_left _ (List.mem_cons_self ..))))))) rfl ?_
          intro T39 h39 X39 W39 A39
          have K39 := (Keep.of_wr W39)
          have O39 := O38.keep K39 (allS ge_b2 all0)
          have Z39 : Keep h0 h39 [] := Z38.trans K39 (allS (P := fun x => x ∈ [] ∨ h0.size ≤ x) (Or.inr sz_b2) all0)
          replace A39 : Ark Z h39 b2 .char [(.int (100 : Int32)), (.int (97 : Int32)), (.int (116 : Int32)), (.int (97 : Int32)), (.int d11), (.int d13)] := A39
          refine OwnW.iload X39 (n := 144) at_142 rfl rfl ?_
          refine OwnW.bipush X39 (z := (8 : Int32)) (n := 146) at_144 rfl rfl ?_
          refine OwnW.iand X39 (n := 147) at_146 rfl ?_
          refine OwnW.if_eq X39  (n1 := 173) (n2 := 150) at_147 (by decide) rfl rfl (fun hc147 => ?_) (fun hc147 => ?_)
          · exact J15 _ _ _ ((100 : Int32), (97 : Int32), (116 : Int32), (97 : Int32), d11, d13) X39 ⟨(own_aS ⟨by decide, by decide⟩ (own_aS ⟨by decide, by decide⟩ (own_aS ⟨by decide, by decide⟩ (own_aS ⟨by decide, by decide⟩ (own_aS hb_d11 (own_aS hb_d13 own_a0)))))), Z39, A39⟩
          · refine OwnW.iload X39 (n := 152) at_150 rfl rfl ?_
            refine OwnW.if_le X39  (n1 := 173) (n2 := 155) at_152 (by decide) rfl rfl (fun hc152 => ?_) (fun hc152 => ?_)
            · exact J15 _ _ _ ((100 : Int32), (97 : Int32), (116 : Int32), (97 : Int32), d11, d13) X39 ⟨(own_aS ⟨by decide, by decide⟩ (own_aS ⟨by decide, by decide⟩ (own_aS ⟨by decide, by decide⟩ (own_aS ⟨by decide, by decide⟩ (own_aS hb_d11 (own_aS hb_d13 own_a0)))))), Z39, A39⟩
            · refine OwnW.aload X39 (n := 157) at_155 rfl rfl rfl ?_
              refine OwnW.iload X39 (n := 159) at_157 rfl rfl ?_
              refine OwnW.bipush X39 (z := (7 : Int32)) (n := 161) at_159 rfl rfl ?_
              refine OwnW.iand X39 (n := 162) at_161 rfl ?_
              refine OwnW.iload X39 (n := 164) at_162 rfl rfl ?_
              refine OwnW.irem X39 (n := 165) at_164 (fun q => by rw [q] at hc152; exact absurd hc152 (by decide)) rfl ?_
              refine OwnW.iload X39 (n := 167) at_165 rfl rfl ?_
              refine OwnW.sipush X39 (z := (255 : Int32)) (n := 170) at_167 rfl rfl ?_
              refine OwnW.iand X39 (n := 171) at_170 rfl ?_
              refine OwnW.i2c X39 (n := 172) at_171 rfl ?_
              obtain ⟨i, hi1, hi2⟩ := own_idx p4 n hc152
              have hi3 : i < 6 := by have z : n.toInt ≤ 6 := (by rcases hj14 with rfl | rfl | rfl | rfl | rfl | rfl | rfl <;> decide); omega
              refine OwnW.castore X39 (i := i) (z := (p5 &&& 255).toUInt32.toUInt16.toUInt32.toInt32) (vs := ([(100 : Int32), (97 : Int32), (116 : Int32), (97 : Int32), d11, d13] : List Int32).map Value.int) (n := 173) at_172 A39 hi1 (by simpa using hi3) (own_narC (own_255 _).1 (own_255 _).2) ge_b2 (List.mem_append_left _ (List.mem_append_left _ (List.mem_append_left _ (List.mem_append_left _ (List.mem_append_left _ (List.mem_append_left _ (List.mem_cons_self ..))))))) rfl ?_
              intro T40 h40 X40 W40 A_sym
              have K40 := (Keep.of_wr W40)
              have O40 := O39.keep K40 (allS ge_b2 all0)
              have Z40 : Keep h0 h40 [] := Z39.trans K40 (allS (P := fun x => x ∈ [] ∨ h0.size ≤ x) (Or.inr sz_b2) all0)
              exact J15 _ _ _ ((([(100 : Int32), (97 : Int32), (116 : Int32), (97 : Int32), d11, d13] : List Int32).set i (p5 &&& 255).toUInt32.toUInt16.toUInt32.toInt32).getD 0 0, (([(100 : Int32), (97 : Int32), (116 : Int32), (97 : Int32), d11, d13] : List Int32).set i (p5 &&& 255).toUInt32.toUInt16.toUInt32.toInt32).getD 1 0, (([(100 : Int32), (97 : Int32), (116 : Int32), (97 : Int32), d11, d13] : List Int32).set i (p5 &&& 255).toUInt32.toUInt16.toUInt32.toInt32).getD 2 0, (([(100 : Int32), (97 : Int32), (116 : Int32), (97 : Int32), d11, d13] : List Int32).set i (p5 &&& 255).toUInt32.toUInt16.toUInt32.toInt32).getD 3 0, (([(100 : Int32), (97 : Int32), (116 : Int32), (97 : Int32), d11, d13] : List Int32).set i (p5 &&& 255).toUInt32.toUInt16.toUInt32.toInt32).getD 4 0, (([(100 : Int32), (97 : Int32), (116 : Int32), (97 : Int32), d11, d13] : List Int32).set i (p5 &&& 255).toUInt32.toUInt16.toUInt32.toInt32).getD 5 0) X40 ⟨(own_six (L := (([(100 : Int32), (97 : Int32), (116 : Int32), (97 : Int32), d11, d13] : List Int32).set i (p5 &&& 255).toUInt32.toUInt16.toUInt32.toInt32)) (by simp)) ▸ own_set_lat (own_aS ⟨by decide, by decide⟩ (own_aS ⟨by decide, by decide⟩ (own_aS ⟨by decide, by decide⟩ (own_aS ⟨by decide, by decide⟩ (own_aS hb_d11 (own_aS hb_d13 own_a0)))))) (own_255 _), Z40, by rw [own_mapset] at A_sym; have z := own_six (L := (([(100 : Int32), (97 : Int32), (116 : Int32), (97 : Int32), d11, d13] : List Int32).set i (p5 &&& 255).toUInt32.toUInt16.toUInt32.toInt32)) (by simp); rw [z] at A_sym; exact A_sym⟩
      · refine OwnW.aload X14 (n := 81) at_79 rfl rfl rfl ?_
        refine OwnW.iconst X14 (z := (0 : Int32)) (n := 82) at_81 rfl rfl ?_
        refine OwnW.bipush X14 (z := (97 : Int32)) (n := 84) at_82 rfl rfl ?_
        refine OwnW.castore X14 (i := 0) (z := (97 : Int32)) (n := 85) at_84 A14 rfl (Nat.le_of_ble_eq_true rfl) rfl ge_b2 (List.mem_append_left _ (List.mem_append_left _ (List.mem_append_left _ (List.mem_append_left _ (List.mem_append_left _ (List.mem_append_left _ (List.mem_cons_self ..))))))) rfl ?_
        intro T41 h41 X41 W41 A41
        have K41 := (Keep.of_wr W41)
        have O41 := O14.keep K41 (allS ge_b2 all0)
        have Z41 : Keep h0 h41 [] := Z14.trans K41 (allS (P := fun x => x ∈ [] ∨ h0.size ≤ x) (Or.inr sz_b2) all0)
        replace A41 : Ark Z h41 b2 .char [(.int (97 : Int32)), (.int d5), (.int d7), (.int d9), (.int d11), (.int d13)] := A41
        refine OwnW.aload X41 (n := 87) at_85 rfl rfl rfl ?_
        refine OwnW.iconst X41 (z := (1 : Int32)) (n := 88) at_87 rfl rfl ?_
        refine OwnW.bipush X41 (z := (103 : Int32)) (n := 90) at_88 rfl rfl ?_
        refine OwnW.castore X41 (i := 1) (z := (103 : Int32)) (n := 91) at_90 A41 rfl (Nat.le_of_ble_eq_true rfl) rfl ge_b2 (List.mem_append_left _ (List.mem_append_left _ (List.mem_append_left _ (List.mem_append_left _ (List.mem_append_left _ (List.mem_append_left _ (List.mem_cons_self ..))))))) rfl ?_
        intro T42 h42 X42 W42 A42
        have K42 := (Keep.of_wr W42)
        have O42 := O41.keep K42 (allS ge_b2 all0)
        have Z42 : Keep h0 h42 [] := Z41.trans K42 (allS (P := fun x => x ∈ [] ∨ h0.size ≤ x) (Or.inr sz_b2) all0)
        replace A42 : Ark Z h42 b2 .char [(.int (97 : Int32)), (.int (103 : Int32)), (.int d7), (.int d9), (.int d11), (.int d13)] := A42
        refine OwnW.aload X42 (n := 93) at_91 rfl rfl rfl ?_
        refine OwnW.iconst X42 (z := (2 : Int32)) (n := 94) at_93 rfl rfl ?_
        refine OwnW.bipush X42 (z := (101 : Int32)) (n := 96) at_94 rfl rfl ?_
        refine OwnW.castore X42 (i := 2) (z := (101 : Int32)) (n := 97) at_96 A42 rfl (Nat.le_of_ble_eq_true rfl) rfl ge_b2 (List.mem_append_left _ (List.mem_append_left _ (List.mem_append_left _ (List.mem_append_left _ (List.mem_append_left _ (List.mem_append_left _ (List.mem_cons_self ..))))))) rfl ?_
        intro T43 h43 X43 W43 A43
        have K43 := (Keep.of_wr W43)
        have O43 := O42.keep K43 (allS ge_b2 all0)
        have Z43 : Keep h0 h43 [] := Z42.trans K43 (allS (P := fun x => x ∈ [] ∨ h0.size ≤ x) (Or.inr sz_b2) all0)
        replace A43 : Ark Z h43 b2 .char [(.int (97 : Int32)), (.int (103 : Int32)), (.int (101 : Int32)), (.int d9), (.int d11), (.int d13)] := A43
        refine OwnW.aload X43 (n := 99) at_97 rfl rfl rfl ?_
        refine OwnW.iconst X43 (z := (3 : Int32)) (n := 100) at_99 rfl rfl ?_
        refine OwnW.bipush X43 (z := (110 : Int32)) (n := 102) at_100 rfl rfl ?_
        refine OwnW.castore X43 (i := 3) (z := (110 : Int32)) (n := 103) at_102 A43 rfl (Nat.le_of_ble_eq_true rfl) rfl ge_b2 (List.mem_append_left _ (List.mem_append_left _ (List.mem_append_left _ (List.mem_append_left _ (List.mem_append_left _ (List.mem_append_left _ (List.mem_cons_self ..))))))) rfl ?_
        intro T44 h44 X44 W44 A44
        have K44 := (Keep.of_wr W44)
        have O44 := O43.keep K44 (allS ge_b2 all0)
        have Z44 : Keep h0 h44 [] := Z43.trans K44 (allS (P := fun x => x ∈ [] ∨ h0.size ≤ x) (Or.inr sz_b2) all0)
        replace A44 : Ark Z h44 b2 .char [(.int (97 : Int32)), (.int (103 : Int32)), (.int (101 : Int32)), (.int (110 : Int32)), (.int d11), (.int d13)] := A44
        refine OwnW.aload X44 (n := 105) at_103 rfl rfl rfl ?_
        refine OwnW.iconst X44 (z := (4 : Int32)) (n := 106) at_105 rfl rfl ?_
        refine OwnW.bipush X44 (z := (116 : Int32)) (n := 108) at_106 rfl rfl ?_
        refine OwnW.castore X44 (i := 4) (z := (116 : Int32)) (n := 109) at_108 A44 rfl (Nat.le_of_ble_eq_true rfl) rfl ge_b2 (List.mem_append_left _ (List.mem_append_left _ (List.mem_append_left _ (List.mem_append_left _ (List.mem_append_left _ (List.mem_append_left _ (List.mem_cons_self ..))))))) rfl ?_
        intro T45 h45 X45 W45 A45
        have K45 := (Keep.of_wr W45)
        have O45 := O44.keep K45 (allS ge_b2 all0)
        have Z45 : Keep h0 h45 [] := Z44.trans K45 (allS (P := fun x => x ∈ [] ∨ h0.size ≤ x) (Or.inr sz_b2) all0)
        replace A45 : Ark Z h45 b2 .char [(.int (97 : Int32)), (.int (103 : Int32)), (.int (101 : Int32)), (.int (110 : Int32)), (.int (116 : Int32)), (.int d13)] := A45
        refine OwnW.goto X45 (n := 142) at_109 (by decide) rfl ?_
        refine OwnW.iload X45 (n := 144) at_142 rfl rfl ?_
        refine OwnW.bipush X45 (z := (8 : Int32)) (n := 146) at_144 rfl rfl ?_
        refine OwnW.iand X45 (n := 147) at_146 rfl ?_
        refine OwnW.if_eq X45  (n1 := 173) (n2 := 150) at_147 (by decide) rfl rfl (fun hc147 => ?_) (fun hc147 => ?_)
        · exact J15 _ _ _ ((97 : Int32), (103 : Int32), (101 : Int32), (110 : Int32), (116 : Int32), d13) X45 ⟨(own_aS ⟨by decide, by decide⟩ (own_aS ⟨by decide, by decide⟩ (own_aS ⟨by decide, by decide⟩ (own_aS ⟨by decide, by decide⟩ (own_aS ⟨by decide, by decide⟩ (own_aS hb_d13 own_a0)))))), Z45, A45⟩
        · refine OwnW.iload X45 (n := 152) at_150 rfl rfl ?_
          refine OwnW.if_le X45  (n1 := 173) (n2 := 155) at_152 (by decide) rfl rfl (fun hc152 => ?_) (fun hc152 => ?_)
          · exact J15 _ _ _ ((97 : Int32), (103 : Int32), (101 : Int32), (110 : Int32), (116 : Int32), d13) X45 ⟨(own_aS ⟨by decide, by decide⟩ (own_aS ⟨by decide, by decide⟩ (own_aS ⟨by decide, by decide⟩ (own_aS ⟨by decide, by decide⟩ (own_aS ⟨by decide, by decide⟩ (own_aS hb_d13 own_a0)))))), Z45, A45⟩
          · refine OwnW.aload X45 (n := 157) at_155 rfl rfl rfl ?_
            refine OwnW.iload X45 (n := 159) at_157 rfl rfl ?_
            refine OwnW.bipush X45 (z := (7 : Int32)) (n := 161) at_159 rfl rfl ?_
            refine OwnW.iand X45 (n := 162) at_161 rfl ?_
            refine OwnW.iload X45 (n := 164) at_162 rfl rfl ?_
            refine OwnW.irem X45 (n := 165) at_164 (fun q => by rw [q] at hc152; exact absurd hc152 (by decide)) rfl ?_
            refine OwnW.iload X45 (n := 167) at_165 rfl rfl ?_
            refine OwnW.sipush X45 (z := (255 : Int32)) (n := 170) at_167 rfl rfl ?_
            refine OwnW.iand X45 (n := 171) at_170 rfl ?_
            refine OwnW.i2c X45 (n := 172) at_171 rfl ?_
            obtain ⟨i, hi1, hi2⟩ := own_idx p4 n hc152
            have hi3 : i < 6 := by have z : n.toInt ≤ 6 := (by rcases hj14 with rfl | rfl | rfl | rfl | rfl | rfl | rfl <;> decide); omega
            refine OwnW.castore X45 (i := i) (z := (p5 &&& 255).toUInt32.toUInt16.toUInt32.toInt32) (vs := ([(97 : Int32), (103 : Int32), (101 : Int32), (110 : Int32), (116 : Int32), d13] : List Int32).map Value.int) (n := 173) at_172 A45 hi1 (by simpa using hi3) (own_narC (own_255 _).1 (own_255 _).2) ge_b2 (List.mem_append_left _ (List.mem_append_left _ (List.mem_append_left _ (List.mem_append_left _ (List.mem_append_left _ (List.mem_append_left _ (List.mem_cons_self ..))))))) rfl ?_
            intro T46 h46 X46 W46 A_sym
            have K46 := (Keep.of_wr W46)
            have O46 := O45.keep K46 (allS ge_b2 all0)
            have Z46 : Keep h0 h46 [] := Z45.trans K46 (allS (P := fun x => x ∈ [] ∨ h0.size ≤ x) (Or.inr sz_b2) all0)
            exact J15 _ _ _ ((([(97 : Int32), (103 : Int32), (101 : Int32), (110 : Int32), (116 : Int32), d13] : List Int32).set i (p5 &&& 255).toUInt32.toUInt16.toUInt32.toInt32).getD 0 0, (([(97 : Int32), (103 : Int32), (101 : Int32), (110 : Int32), (116 : Int32), d13] : List Int32).set i (p5 &&& 255).toUInt32.toUInt16.toUInt32.toInt32).getD 1 0, (([(97 : Int32), (103 : Int32), (101 : Int32), (110 : Int32), (116 : Int32), d13] : List Int32).set i (p5 &&& 255).toUInt32.toUInt16.toUInt32.toInt32).getD 2 0, (([(97 : Int32), (103 : Int32), (101 : Int32), (110 : Int32), (116 : Int32), d13] : List Int32).set i (p5 &&& 255).toUInt32.toUInt16.toUInt32.toInt32).getD 3 0, (([(97 : Int32), (103 : Int32), (101 : Int32), (110 : Int32), (116 : Int32), d13] : List Int32).set i (p5 &&& 255).toUInt32.toUInt16.toUInt32.toInt32).getD 4 0, (([(97 : Int32), (103 : Int32), (101 : Int32), (110 : Int32), (116 : Int32), d13] : List Int32).set i (p5 &&& 255).toUInt32.toUInt16.toUInt32.toInt32).getD 5 0) X46 ⟨(own_six (L := (([(97 : Int32), (103 : Int32), (101 : Int32), (110 : Int32), (116 : Int32), d13] : List Int32).set i (p5 &&& 255).toUInt32.toUInt16.toUInt32.toInt32)) (by simp)) ▸ own_set_lat (own_aS ⟨by decide, by decide⟩ (own_aS ⟨by decide, by decide⟩ (own_aS ⟨by decide, by decide⟩ (own_aS ⟨by decide, by decide⟩ (own_aS ⟨by decide, by decide⟩ (own_aS hb_d13 own_a0)))))) (own_255 _), Z46, by rw [own_mapset] at A_sym; have z := own_six (L := (([(97 : Int32), (103 : Int32), (101 : Int32), (110 : Int32), (116 : Int32), d13] : List Int32).set i (p5 &&& 255).toUInt32.toUInt16.toUInt32.toInt32)) (by simp); rw [z] at A_sym; exact A_sym⟩
  · intro J1
    exact J1 _ ((p0 &&& (3 : Int32)), ((p1 &&& (2147483647 : Int32)) % (7 : Int32))) X0 (own_c7 _)
set_option maxRecDepth 65536 in
set_option maxHeartbeats 40000000 in
theorem comes_1 {Post : Tables → Env → Array Value → State → Outcome → State → Prop} (hpost : ∀ tb e args s v u, (limb_1_1.after args s (.returned v) u = true ∧ limb_1_2.after args s (.returned v) u = true ∧ True) → ReturnedEndW s (.returned v) u (Jvm.fieldLocs frame_1_writes args s ++ Jvm.arrayLocs frame_1_arrays args s ++ Jvm.staticLocs frame_1_statics s) 24 1152 → Post tb e args s (.returned v) u) :
    ArmFor flags0 classFile x code maxLocals ret World_1 tables_1 room_1 Calls_1 rest_1 Pre_1 Post := by
  intro l hfl _ _ p e ha hc hk s m args below hf hA hF happ hP
  obtain ⟨hcalls, hrest, hpre⟩ := hP
  obtain ⟨-, -, -, hnamed, -, -, -, hat⟩ := (Spec.applies_iff hf).mp happ
  obtain ⟨hg, hn⟩ := and_e (Cond.before_iff.mp (show (Jvm.Cond.and given_1 narrow_1).before args s = true from hpre))
  obtain ⟨g0, q1⟩ := and_e hg
  obtain ⟨g1, q2⟩ := and_e q1
  obtain ⟨g2, q3⟩ := and_e q2
  obtain ⟨g3, q4⟩ := and_e q3
  obtain ⟨g4, q5⟩ := and_e q4
  obtain ⟨g5, g6⟩ := and_e q5
  obtain ⟨w0, w1, w2, w3, w4, w5, rfl⟩ : ∃ w0 w1 w2 w3 w4 w5 : Value, args = #[w0, w1, w2, w3, w4, w5] := by
    have hs : args.size = 6 := by simpa [Cond.value, given_1] using g0
    obtain ⟨L⟩ := args
    match L, hs with
    | [w0, w1, w2, w3, w4, w5], _ => exact ⟨w0, w1, w2, w3, w4, w5, rfl⟩
  have hw := fun d (hd : d ∈ tables_1) => atoms_spec (ws := Jvm.Cond.code x code maxLocals ret :: tables_1) hat d (List.mem_cons_of_mem _ hd)
  have hfit : Fit s := fun {y c} hc i hi => by
    obtain ⟨ha, rfl⟩ := Array.getElem?_eq_some_iff.mp hc
    have q := List.all_eq_true.mp ((Array.all_eq_true_iff_forall_mem.mp hF) _ (Array.getElem_mem ha)) i (List.mem_range.mpr hi)
    simpa [Array.getElem?_eq_getElem hi] using q
  obtain ⟨hsets, hown0⟩ := atoms_of _ (rest_1_c_eq ▸ (show rest_1_c.before _ s = true from hrest))
  have wS : ∀ a ∈ Bundle.stringAtoms, a.before _ s = true := fun d hd => hw d ((by decide +kernel : ∀ d ∈ Bundle.stringAtoms, d ∈ tables_1) d hd)
  have hE : EW s _ own_EL := own_EW hw
  have hCH : CHv s own_EL s.vm s.heap := CHv.start hE (own_held hcalls) (hsets _ (List.mem_of_getElem? (i := 2) rfl)) (wS _ (by simp [Bundle.stringAtoms])) (wS _ (by simp [Bundle.stringAtoms, Bundle.sN]))
  obtain ⟨i0, e0⟩ := is_v g1
  obtain rfl : w0 = (.int i0) := Option.some.inj e0
  obtain ⟨i1, e1⟩ := is_v g2
  obtain rfl : w1 = (.int i1) := Option.some.inj e1
  obtain ⟨i2, e2⟩ := is_v g3
  obtain rfl : w2 = (.int i2) := Option.some.inj e2
  obtain ⟨i3, e3⟩ := is_v g4
  obtain rfl : w3 = (.int i3) := Option.some.inj e3
  obtain ⟨i4, e4⟩ := is_v g5
  obtain rfl : w4 = (.int i4) := Option.some.inj e4
  obtain ⟨i5, e5⟩ := is_v g6
  obtain rfl : w5 = (.int i5) := Option.some.inj e5
  obtain ⟨c0, cc0⟩ := and_e hn
  obtain ⟨c1, cc1⟩ := and_e cc0
  obtain ⟨c2, cc2⟩ := and_e cc1
  obtain ⟨c3, cc3⟩ := and_e cc2
  obtain ⟨c4, cc4⟩ := and_e cc3
  obtain ⟨c5, cc5⟩ := and_e cc4
  obtain ⟨c6, cc6⟩ := and_e cc5
  obtain ⟨c7, cc7⟩ := and_e cc6
  obtain ⟨c8, cc8⟩ := and_e cc7
  obtain ⟨c9, cc9⟩ := and_e cc8
  obtain ⟨c10, cc10⟩ := and_e cc9
  obtain ⟨c11, cc11⟩ := and_e cc10
  obtain ⟨c12, cc12⟩ := and_e cc11
  obtain ⟨c13, cc13⟩ := and_e cc12
  obtain ⟨c14, cc14⟩ := and_e cc13
  obtain ⟨c15, cc15⟩ := and_e cc14
  obtain ⟨c16, cc16⟩ := and_e cc15
  obtain ⟨c17, cc17⟩ := and_e cc16
  obtain ⟨c18, cc18⟩ := and_e cc17
  obtain ⟨c19, cc19⟩ := and_e cc18
  obtain ⟨c20, cc20⟩ := and_e cc19
  obtain ⟨c21, cc21⟩ := and_e cc20
  obtain ⟨c22, c23⟩ := and_e cc21
  obtain ⟨a__VALUES, ev__VALUES⟩ := arr_v c0
  have S__VALUES := Sta.start ev__VALUES (Or.inr ⟨(hw _ (List.mem_of_getElem? (i := 40) rfl)), (hw _ (List.mem_of_getElem? (i := 46) rfl))⟩)
  have E__VALUES := Exa.start ev__VALUES c1
  obtain ⟨a_AGENT, ev_AGENT⟩ := exa_v c3
  have S_AGENT := Sta.start ev_AGENT (Or.inr ⟨(hw _ (List.mem_of_getElem? (i := 40) rfl)), (hw _ (List.mem_of_getElem? (i := 54) rfl))⟩)
  have E_AGENT := Exa.start ev_AGENT c3
  obtain ⟨a_DATA, ev_DATA⟩ := exa_v c5
  have S_DATA := Sta.start ev_DATA (Or.inr ⟨(hw _ (List.mem_of_getElem? (i := 40) rfl)), (hw _ (List.mem_of_getElem? (i := 55) rfl))⟩)
  have E_DATA := Exa.start ev_DATA c5
  obtain ⟨a_AGENT_keyword, ev_AGENT_keyword⟩ := exa_v c7
  have F_AGENT_keyword := Fld.start (by rw [← fld_at ev_AGENT]; exact ev_AGENT_keyword)
  have E_AGENT_keyword := Exa.start ev_AGENT_keyword c7
  have ev_AGENT_keyword_coder := OwnW.eqI_v c8
  have F_AGENT_keyword_coder := Fld.start (by rw [← fld_at ev_AGENT_keyword]; exact ev_AGENT_keyword_coder)
  obtain ⟨a_AGENT_keyword_value, ev_AGENT_keyword_value⟩ := arr_v c9
  have F_AGENT_keyword_value := Fld.start (by rw [← fld_at ev_AGENT_keyword]; exact ev_AGENT_keyword_value)
  obtain ⟨a_DATA_keyword, ev_DATA_keyword⟩ := exa_v c11
  have F_DATA_keyword := Fld.start (by rw [← fld_at ev_DATA]; exact ev_DATA_keyword)
  have E_DATA_keyword := Exa.start ev_DATA_keyword c11
  have ev_DATA_keyword_coder := OwnW.eqI_v c12
  have F_DATA_keyword_coder := Fld.start (by rw [← fld_at ev_DATA_keyword]; exact ev_DATA_keyword_coder)
  obtain ⟨a_DATA_keyword_value, ev_DATA_keyword_value⟩ := arr_v c13
  have F_DATA_keyword_value := Fld.start (by rw [← fld_at ev_DATA_keyword]; exact ev_DATA_keyword_value)
  obtain ⟨cl__VALUES, Ar__VALUES⟩ := Arr.start ev__VALUES c0
  have ln__VALUES := OwnW.lenOfTerm (n := 2) (OwnW.eqI_v c2) ev__VALUES Ar__VALUES.1 rfl
  have el__VALUES_0 : cl__VALUES.slots[0]? = some (.ref a_AGENT) := (elem_in (OwnW.eqR_v c4 ev_AGENT) ev__VALUES (Term.int_eval 0) Ar__VALUES.1).2
  have el__VALUES_1 : cl__VALUES.slots[1]? = some (.ref a_DATA) := (elem_in (OwnW.eqR_v c6 ev_DATA) ev__VALUES (Term.int_eval 1) Ar__VALUES.1).2
  have A__VALUES : OwnW.Ark s s.heap a__VALUES (.object "com/example/beholden/beholden/policy/Sort") [(.ref a_AGENT), (.ref a_DATA)] := OwnW.Ark.start hfit Ar__VALUES ln__VALUES (Nat.le_of_ble_eq_true rfl) (fun i hi => match i, hi with | 0, _ => el__VALUES_0 | 1, _ => el__VALUES_1 | k + 2, hi => absurd hi (by simp))
  obtain ⟨cl_AGENT_keyword_value, Ar_AGENT_keyword_value⟩ := Arr.start ev_AGENT_keyword_value c9
  have ln_AGENT_keyword_value := OwnW.lenOfTerm (n := 5) (OwnW.eqI_v c10) ev_AGENT_keyword_value Ar_AGENT_keyword_value.1 rfl
  have el_AGENT_keyword_value_0 : cl_AGENT_keyword_value.slots[0]? = some (.int (97 : Int32)) := (elem_in (OwnW.eqI_v c19) ev_AGENT_keyword_value (Term.int_eval 0) Ar_AGENT_keyword_value.1).2
  have el_AGENT_keyword_value_1 : cl_AGENT_keyword_value.slots[1]? = some (.int (103 : Int32)) := (elem_in (OwnW.eqI_v c20) ev_AGENT_keyword_value (Term.int_eval 1) Ar_AGENT_keyword_value.1).2
  have el_AGENT_keyword_value_2 : cl_AGENT_keyword_value.slots[2]? = some (.int (101 : Int32)) := (elem_in (OwnW.eqI_v c21) ev_AGENT_keyword_value (Term.int_eval 2) Ar_AGENT_keyword_value.1).2
  have el_AGENT_keyword_value_3 : cl_AGENT_keyword_value.slots[3]? = some (.int (110 : Int32)) := (elem_in (OwnW.eqI_v c22) ev_AGENT_keyword_value (Term.int_eval 3) Ar_AGENT_keyword_value.1).2
  have el_AGENT_keyword_value_4 : cl_AGENT_keyword_value.slots[4]? = some (.int (116 : Int32)) := (elem_in (OwnW.eqI_v c23) ev_AGENT_keyword_value (Term.int_eval 4) Ar_AGENT_keyword_value.1).2
  have A_AGENT_keyword_value : OwnW.Ark s s.heap a_AGENT_keyword_value .byte [(.int (97 : Int32)), (.int (103 : Int32)), (.int (101 : Int32)), (.int (110 : Int32)), (.int (116 : Int32))] := OwnW.Ark.start hfit Ar_AGENT_keyword_value ln_AGENT_keyword_value (Nat.le_of_ble_eq_true rfl) (fun i hi => match i, hi with | 0, _ => el_AGENT_keyword_value_0 | 1, _ => el_AGENT_keyword_value_1 | 2, _ => el_AGENT_keyword_value_2 | 3, _ => el_AGENT_keyword_value_3 | 4, _ => el_AGENT_keyword_value_4 | k + 5, hi => absurd hi (by simp))
  obtain ⟨cl_DATA_keyword_value, Ar_DATA_keyword_value⟩ := Arr.start ev_DATA_keyword_value c13
  have ln_DATA_keyword_value := OwnW.lenOfTerm (n := 4) (OwnW.eqI_v c14) ev_DATA_keyword_value Ar_DATA_keyword_value.1 rfl
  have el_DATA_keyword_value_0 : cl_DATA_keyword_value.slots[0]? = some (.int (100 : Int32)) := (elem_in (OwnW.eqI_v c15) ev_DATA_keyword_value (Term.int_eval 0) Ar_DATA_keyword_value.1).2
  have el_DATA_keyword_value_1 : cl_DATA_keyword_value.slots[1]? = some (.int (97 : Int32)) := (elem_in (OwnW.eqI_v c16) ev_DATA_keyword_value (Term.int_eval 1) Ar_DATA_keyword_value.1).2
  have el_DATA_keyword_value_2 : cl_DATA_keyword_value.slots[2]? = some (.int (116 : Int32)) := (elem_in (OwnW.eqI_v c17) ev_DATA_keyword_value (Term.int_eval 2) Ar_DATA_keyword_value.1).2
  have el_DATA_keyword_value_3 : cl_DATA_keyword_value.slots[3]? = some (.int (97 : Int32)) := (elem_in (OwnW.eqI_v c18) ev_DATA_keyword_value (Term.int_eval 3) Ar_DATA_keyword_value.1).2
  have A_DATA_keyword_value : OwnW.Ark s s.heap a_DATA_keyword_value .byte [(.int (100 : Int32)), (.int (97 : Int32)), (.int (116 : Int32)), (.int (97 : Int32))] := OwnW.Ark.start hfit Ar_DATA_keyword_value ln_DATA_keyword_value (Nat.le_of_ble_eq_true rfl) (fun i hi => match i, hi with | 0, _ => el_DATA_keyword_value_0 | 1, _ => el_DATA_keyword_value_1 | 2, _ => el_DATA_keyword_value_2 | 3, _ => el_DATA_keyword_value_3 | k + 4, hi => absurd hi (by simp))
  obtain ⟨zc, ezc⟩ := is_v (Cond.before_iff.mp (hsets _ (List.mem_of_getElem? (i := 1) rfl)))
  have S_compact : Sta s s.heap "java/lang/String" "COMPACT_STRINGS" "Z" (.int zc) := Sta.start ezc (Or.inl (hsets _ (List.mem_of_getElem? (i := 0) rfl)))
  have hzc : ¬ (zc = (0 : Int32)) := gotF (Cond.eq_ints ezc (Term.int_eval (0))) (not_v (Cond.before_iff.mp (hsets _ (List.mem_of_getElem? (i := 2) rfl))))
  obtain ⟨n, o, h1, h2, h3, v, L, rfl, ⟨sfn, ⟨w, rfl, rfl⟩, hsn, N⟩, hcr, hq⟩ := rm0 l s _ hw hE tables_1 i0 i1 i2 i3 i4 i5 s.heap s.heap.size (Old.start s) a__VALUES S__VALUES E__VALUES a_AGENT S_AGENT E_AGENT a_DATA S_DATA E_DATA a_AGENT_keyword F_AGENT_keyword E_AGENT_keyword F_AGENT_keyword_coder a_AGENT_keyword_value F_AGENT_keyword_value a_DATA_keyword F_DATA_keyword E_DATA_keyword F_DATA_keyword_coder a_DATA_keyword_value F_DATA_keyword_value A__VALUES A_AGENT_keyword_value A_DATA_keyword_value zc hzc S_compact p e ha hc hk s m _ below hf ((Spec.applies_iff_loose hf).mp happ).1 ⟨rfl, State.Warmed39.refl s, rfl, hCH, fun x hx => nomatch hx⟩ (fun z => z.elim)
  refine ⟨n, _, h1, h2, h3, hpost _ _ _ _ _ _ ⟨Cond.after_iff.mpr rfl, Cond.after_iff.mpr (eq_i res_at (Term.int_eval (1)) rfl), trivial⟩ ⟨hq.1, hq.2.1, hq.2.2.1, (hq.2.2.2.sift fun y hy => Or.inr (N y hy)).mono (by decide) (by decide)⟩⟩
theorem main_1_1 : Claimed_1_1 := comes_1 fun _ _ _ _ _ _ h hF => ⟨h.1, hF⟩
theorem main_1_2 : Claimed_1_2 := comes_1 fun _ _ _ _ _ _ h hF => ⟨h.2.1, hF⟩
end Jvm.Pilot.@@N@@
namespace Jvm.Pilot.@@N@@
open Jvm Jvm.ClassFile Sem Op Lib Jvm.Free Jvm.Stand Jvm.Pilot.@@N@@.Jvm.D
/-! MADE BY PROGRAM (witnessworld.py) out of the Statement's table words and the real class files: 22 classes; the members and pool entries that the words name. The judged class is class 1, her method 1. -/
namespace start1
open Jvm.ClassFile
def u (s : String) : CpInfo := .utf8 (stringToUtf16 s)
/-- a pool by its gaps: so many unusable entries, then the entry; so many at the end -/
def gap : Nat → List CpInfo → List CpInfo
  | 0, r => r
  | n + 1, r => .unusable :: gap n r
def poolList (es : List (Nat × CpInfo)) (last : Nat) : List CpInfo := es.foldr (fun e r => gap e.1 (e.2 :: r)) (gap last [])
def pool (es : List (Nat × CpInfo)) (last : Nat) : Array CpInfo := ⟨poolList es last⟩
def fileOf (pool : Array CpInfo) (this : Nat) (attrs : Array Attribute := #[]) (ms : Array MethodInfo := #[]) (fl : Nat := 33) (sup : Nat := 0) (ifs : Array Nat := #[]) (fds : Array FieldInfo := #[]) : ClassFile where
  minorVersion := 0
  majorVersion := 65
  constantPool := pool
  accessFlags := fl
  thisClass := this
  superClass := sup
  interfaces := ifs
  fields := fds
  methods := ms
  attributes := attrs
def plain (name : String) (sup : Option ClassId) : Class where
  name := name
  kind := .ordinary
  loader := none
  accessFlags := 33
  super := sup
  interfaces := #[]
  cf := none
  fields := #[]
  methods := #[]
  instanceTypes := #[]
  staticTypes := #[]
  resolved := #[]
  callSites := []
  init := .initialized
  statics := none
  mirror := none

def pool0 : Array CpInfo := pool [(5, u "<init>"), (0, u "()V"), (1, .class_ 10), (1, u "java/lang/Object"), (85, u "clone"), (0, u "()Ljava/lang/Object;")] 26

def k0c0 : Code := { maxStack := 0, maxLocals := 1, code := object_method_1_code, exceptionTable := #[], attributes := #[] }
def k0m0 : Method := { name := "<init>", desc := "()V", sig := { parameters := [], returnType := none }, accessFlags := 1, code := some k0c0 }
def k0m1 : Method := { name := "clone", desc := "()Ljava/lang/Object;", sig := { parameters := [], returnType := some (.object "java/lang/Object") }, accessFlags := 260, code := none }
/-- java/lang/Object -/
def k0 : Class := { plain "java/lang/Object" none with
  accessFlags := 33
  interfaces := #[]
  cf := some (fileOf pool0 8 #[] #[{ accessFlags := 1, nameIndex := 5, descriptorIndex := 6, attributes := #[] }, { accessFlags := 260, nameIndex := 96, descriptorIndex := 97, attributes := #[] }] 33 0 #[] #[])
  fields := #[]
  methods := #[k0m0, k0m1]
  instanceTypes := #[]
  staticTypes := #[]
  resolved := Array.replicate 124 none
  statics := none }

def pool1 : Array CpInfo := pool [(2, .class_ 4), (1, u "java/lang/Object"), (0, u "<init>"), (0, u "()V"), (0, .integer 2147483647), (0, .methodref 9 10), (0, .class_ 11), (0, .nameAndType 12 13), (0, u "com/example/beholden/beholden/policy/SortOfKeywordPinLaw"), (0, u "drawn"), (0, u "(II)C"), (0, .methodref 9 15), (0, .nameAndType 16 17), (0, u "take"), (0, u "([CI)Ljava/lang/String;"), (0, .methodref 19 20), (0, .class_ 21), (0, .nameAndType 22 23), (0, u "com/example/beholden/beholden/policy/Sort"), (0, u "ofKeyword"), (0, u "(Ljava/lang/String;)Lcom/example/beholden/beholden/policy/Sort;"), (0, .fieldref 19 25), (0, .nameAndType 26 27), (0, u "AGENT"), (0, u "Lcom/example/beholden/beholden/policy/Sort;"), (0, .fieldref 19 29), (0, .nameAndType 30 27), (0, u "DATA"), (0, .class_ 32), (0, u "java/lang/String"), (0, .methodref 31 34), (0, .nameAndType 5 35), (0, u "([C)V"), (2, u "law"), (0, u "(IIIIII)Z")] 5

def k1m0 : Method := { name := "<init>", desc := "()V", sig := { parameters := [], returnType := none }, accessFlags := 1, code := none }
def k1c1 : Code := { maxStack := 4, maxLocals := 14, code := code, exceptionTable := #[], attributes := #[] }
def k1m1 : Method := { name := "law", desc := "(IIIIII)Z", sig := { parameters := [.int, .int, .int, .int, .int, .int], returnType := some .boolean }, accessFlags := 9, code := some k1c1 }
def k1c2 : Code := { maxStack := 3, maxLocals := 2, code := method_3_code, exceptionTable := #[], attributes := #[] }
def k1m2 : Method := { name := "drawn", desc := "(II)C", sig := { parameters := [.int, .int], returnType := some .char }, accessFlags := 10, code := some k1c2 }
def k1c3 : Code := { maxStack := 7, maxLocals := 2, code := method_4_code, exceptionTable := #[], attributes := #[] }
def k1m3 : Method := { name := "take", desc := "([CI)Ljava/lang/String;", sig := { parameters := [(.array .char), .int], returnType := some (.object "java/lang/String") }, accessFlags := 10, code := some k1c3 }
/-- com/example/beholden/beholden/policy/SortOfKeywordPinLaw -/
def k1 : Class := { plain "com/example/beholden/beholden/policy/SortOfKeywordPinLaw" (some 0) with
  accessFlags := 49
  interfaces := #[]
  cf := some (fileOf pool1 9 #[] #[{ accessFlags := 1, nameIndex := 5, descriptorIndex := 6, attributes := #[] }, { accessFlags := 9, nameIndex := 38, descriptorIndex := 39, attributes := #[] }, { accessFlags := 10, nameIndex := 12, descriptorIndex := 13, attributes := #[] }, { accessFlags := 10, nameIndex := 16, descriptorIndex := 17, attributes := #[] }] 49 2 #[] #[])
  fields := #[]
  methods := #[k1m0, k1m1, k1m2, k1m3]
  instanceTypes := #[]
  staticTypes := #[]
  resolved := Array.replicate 45 none
  statics := none }

def pool2 : Array CpInfo := pool [(1, .class_ 2), (0, u "java/io/Serializable"), (0, .class_ 4), (0, u "java/lang/Object")] 2

/-- java/io/Serializable -/
def k2 : Class := { plain "java/io/Serializable" (some 0) with
  accessFlags := 1537
  interfaces := #[]
  cf := some (fileOf pool2 1 #[] #[] 1537 3 #[] #[])
  fields := #[]
  methods := #[]
  instanceTypes := #[]
  staticTypes := #[]
  resolved := Array.replicate 7 none
  statics := none }

def pool3 : Array CpInfo := pool [(1, .class_ 2), (0, u "java/lang/Comparable"), (0, .class_ 4), (0, u "java/lang/Object")] 7

/-- java/lang/Comparable -/
def k3 : Class := { plain "java/lang/Comparable" (some 0) with
  accessFlags := 1537
  interfaces := #[]
  cf := some (fileOf pool3 1 #[] #[] 1537 3 #[] #[])
  fields := #[]
  methods := #[]
  instanceTypes := #[]
  staticTypes := #[]
  resolved := Array.replicate 12 none
  statics := none }

def pool4 : Array CpInfo := pool [(2, .class_ 4), (1, u "java/lang/CharSequence"), (42, .class_ 48), (0, u "java/lang/CharSequence$1CodePointIterator"), (10, .class_ 60), (0, u "java/lang/CharSequence$1CharIterator"), (5, .class_ 67), (0, u "java/lang/Object")] 63

/-- java/lang/CharSequence -/
def k4 : Class := { plain "java/lang/CharSequence" (some 0) with
  accessFlags := 1537
  interfaces := #[]
  cf := some (fileOf pool4 2 #[.nestMembers #[47, 59]] #[] 1537 66 #[] #[])
  fields := #[]
  methods := #[]
  instanceTypes := #[]
  staticTypes := #[]
  resolved := Array.replicate 131 none
  statics := none }

def pool5 : Array CpInfo := pool [(1, .class_ 2), (0, u "java/lang/constant/Constable"), (0, .class_ 4), (0, u "java/lang/Object")] 6

/-- java/lang/constant/Constable -/
def k5 : Class := { plain "java/lang/constant/Constable" (some 0) with
  accessFlags := 1537
  interfaces := #[]
  cf := some (fileOf pool5 1 #[] #[] 1537 3 #[] #[])
  fields := #[]
  methods := #[]
  instanceTypes := #[]
  staticTypes := #[]
  resolved := Array.replicate 11 none
  statics := none }

def pool6 : Array CpInfo := pool [(1, .class_ 2), (0, u "java/lang/constant/ConstantDesc"), (0, .class_ 4), (0, u "java/lang/Object")] 32

/-- java/lang/constant/ConstantDesc -/
def k6 : Class := { plain "java/lang/constant/ConstantDesc" (some 0) with
  accessFlags := 1537
  interfaces := #[]
  cf := some (fileOf pool6 1 #[] #[] 1537 3 #[] #[])
  fields := #[]
  methods := #[]
  instanceTypes := #[]
  staticTypes := #[]
  resolved := Array.replicate 37 none
  statics := none }

def pool7 : Array CpInfo := pool [(1, .methodref 2 3), (0, .class_ 4), (0, .nameAndType 5 6), (0, u "java/lang/Object"), (0, u "<init>"), (0, u "()V"), (0, .string 8), (0, u ""), (0, .fieldref 10 11), (0, .class_ 12), (0, .nameAndType 13 14), (0, u "java/lang/String"), (0, u "value"), (0, u "[B"), (0, .fieldref 10 16), (0, .nameAndType 17 18), (0, u "coder"), (0, u "B"), (2, u "hash"), (0, u "I"), (2, u "hashIsZero"), (0, u "Z"), (0, .methodref 10 28), (0, .nameAndType 5 29), (0, u "([CIILjava/lang/Void;)V"), (8, .fieldref 10 39), (0, .nameAndType 40 26), (0, u "COMPACT_STRINGS"), (1, .class_ 44), (1, u "java/lang/StringUTF16"), (0, u "compress"), (1, .methodref 42 48), (0, .nameAndType 49 50), (0, u "coderFromArrayLen"), (0, u "([BI)B"), (56, .class_ 109), (1, u "java/lang/StringLatin1"), (67, .methodref 42 178), (0, .nameAndType 45 179), (0, u "([CII)[B"), (361, .methodref 107 542), (0, .nameAndType 543 544), (0, u "equals"), (0, u "([B[B)Z"), (28, u "(Ljava/lang/Object;)Z"), (1, .class_ 576), (0, u "java/lang/CharSequence"), (22, u "CASE_INSENSITIVE_ORDER"), (0, u "Ljava/util/Comparator;"), (409, u "([C)V"), (90, u "serialPersistentFields"), (0, u "[Ljava/io/ObjectStreamField;"), (0, .class_ 1104), (0, u "java/lang/String$CaseInsensitiveComparator"), (1, .class_ 1107), (0, u "java/io/Serializable"), (0, .class_ 1109), (0, u "java/lang/Comparable"), (0, .class_ 1111), (0, u "java/lang/constant/Constable"), (0, .class_ 1113), (0, u "java/lang/constant/ConstantDesc"), (2, u "serialVersionUID"), (0, u "J"), (3, u "REPL"), (0, u "C"), (2, u "LATIN1"), (1, u "UTF16")] 323

def k7m0 : Method := { name := "<init>", desc := "()V", sig := { parameters := [], returnType := none }, accessFlags := 1, code := none }
def k7c1 : Code := { maxStack := 5, maxLocals := 2, code := jdk_42_method_3_code, exceptionTable := #[], attributes := #[] }
def k7m1 : Method := { name := "<init>", desc := "([C)V", sig := { parameters := [(.array .char)], returnType := none }, accessFlags := 1, code := some k7c1 }
def k7c2 : Code := { maxStack := 2, maxLocals := 3, code := jdk_42_method_66_code, exceptionTable := #[], attributes := #[] }
def k7m2 : Method := { name := "equals", desc := "(Ljava/lang/Object;)Z", sig := { parameters := [(.object "java/lang/Object")], returnType := some .boolean }, accessFlags := 1, code := some k7c2 }
def k7c3 : Code := { maxStack := 4, maxLocals := 6, code := jdk_42_method_149_code, exceptionTable := #[], attributes := #[] }
def k7m3 : Method := { name := "<init>", desc := "([CIILjava/lang/Void;)V", sig := { parameters := [(.array .char), .int, .int, (.object "java/lang/Void")], returnType := none }, accessFlags := 2, code := some k7c3 }
/-- java/lang/String -/
def k7 : Class := { plain "java/lang/String" (some 0) with
  accessFlags := 49
  interfaces := #[2, 3, 4, 5, 6]
  cf := some (fileOf pool7 10 #[.nestMembers #[1103]] #[{ accessFlags := 1, nameIndex := 5, descriptorIndex := 6, attributes := #[] }, { accessFlags := 1, nameIndex := 5, descriptorIndex := 1010, attributes := #[] }, { accessFlags := 1, nameIndex := 543, descriptorIndex := 573, attributes := #[] }, { accessFlags := 2, nameIndex := 5, descriptorIndex := 29, attributes := #[] }] 49 2 #[1106, 1108, 575, 1110, 1112] #[{ accessFlags := 18, nameIndex := 13, descriptorIndex := 14, attributes := #[] }, { accessFlags := 18, nameIndex := 17, descriptorIndex := 18, attributes := #[] }, { accessFlags := 2, nameIndex := 21, descriptorIndex := 22, attributes := #[] }, { accessFlags := 2, nameIndex := 25, descriptorIndex := 26, attributes := #[] }, { accessFlags := 26, nameIndex := 1116, descriptorIndex := 1117, attributes := #[] }, { accessFlags := 24, nameIndex := 40, descriptorIndex := 26, attributes := #[] }, { accessFlags := 26, nameIndex := 1101, descriptorIndex := 1102, attributes := #[] }, { accessFlags := 26, nameIndex := 1121, descriptorIndex := 1122, attributes := #[] }, { accessFlags := 25, nameIndex := 599, descriptorIndex := 600, attributes := #[] }, { accessFlags := 24, nameIndex := 1125, descriptorIndex := 18, attributes := #[] }, { accessFlags := 24, nameIndex := 1127, descriptorIndex := 18, attributes := #[] }])
  fields := #[{ name := "value", type := (.array .byte), accessFlags := 18, slot := 0, constantValue := 0 }, { name := "coder", type := .byte, accessFlags := 18, slot := 1, constantValue := 0 }, { name := "hash", type := .int, accessFlags := 2, slot := 2, constantValue := 0 }, { name := "hashIsZero", type := .boolean, accessFlags := 2, slot := 3, constantValue := 0 }, { name := "serialVersionUID", type := .long, accessFlags := 26, slot := 0, constantValue := 0 }, { name := "COMPACT_STRINGS", type := .boolean, accessFlags := 24, slot := 1, constantValue := 0 }, { name := "serialPersistentFields", type := (.array (.object "java/io/ObjectStreamField")), accessFlags := 26, slot := 2, constantValue := 0 }, { name := "REPL", type := .char, accessFlags := 26, slot := 3, constantValue := 0 }, { name := "CASE_INSENSITIVE_ORDER", type := (.object "java/util/Comparator"), accessFlags := 25, slot := 4, constantValue := 0 }, { name := "LATIN1", type := .byte, accessFlags := 24, slot := 5, constantValue := 0 }, { name := "UTF16", type := .byte, accessFlags := 24, slot := 6, constantValue := 0 }]
  methods := #[k7m0, k7m1, k7m2, k7m3]
  instanceTypes := #[(.array .byte), .byte, .int, .boolean]
  staticTypes := #[.long, .boolean, (.array (.object "java/io/ObjectStreamField")), .char, (.object "java/util/Comparator"), .byte, .byte]
  resolved := Array.replicate 1451 none
  statics := some 0 }

def pool8 : Array CpInfo := pool [(6, .class_ 8), (1, u "java/lang/Object"), (0, u "<init>"), (0, u "()V"), (1, .class_ 14), (1, u "java/lang/StringUTF16"), (31, u "$assertionsDisabled"), (0, u "Z"), (13, u "HI_BYTE_SHIFT"), (0, u "I"), (2, u "LO_BYTE_SHIFT"), (49, .methodref 12 116), (0, .nameAndType 117 118), (0, u "compress"), (0, u "([CI[BII)I"), (3, u "([CII)[B"), (138, u "coderFromArrayLen"), (0, u "([BI)B"), (106, .class_ 371), (1, u "java/lang/StringUTF16$LinesSpliterator"), (58, u "MAX_LENGTH"), (196, .class_ 628), (0, u "java/lang/StringUTF16$CodePointsSpliterator"), (0, .class_ 630), (0, u "java/lang/StringUTF16$CharsSpliterator")] 4

def k8m0 : Method := { name := "<init>", desc := "()V", sig := { parameters := [], returnType := none }, accessFlags := 0, code := none }
def k8c1 : Code := { maxStack := 2, maxLocals := 2, code := jdk_52_method_15_code, exceptionTable := #[], attributes := #[] }
def k8m1 : Method := { name := "coderFromArrayLen", desc := "([BI)B", sig := { parameters := [(.array .byte), .int], returnType := some .byte }, accessFlags := 8, code := some k8c1 }
def k8c2 : Code := { maxStack := 5, maxLocals := 6, code := jdk_52_method_16_code, exceptionTable := #[], attributes := #[] }
def k8m2 : Method := { name := "compress", desc := "([CII)[B", sig := { parameters := [(.array .char), .int, .int], returnType := some (.array .byte) }, accessFlags := 9, code := some k8c2 }
def k8c3 : Code := { maxStack := 3, maxLocals := 7, code := jdk_52_method_21_code, exceptionTable := #[], attributes := #[] }
def k8m3 : Method := { name := "compress", desc := "([CI[BII)I", sig := { parameters := [(.array .char), .int, (.array .byte), .int, .int], returnType := some .int }, accessFlags := 9, code := some k8c3 }
/-- java/lang/StringUTF16 -/
def k8 : Class := { plain "java/lang/StringUTF16" (some 0) with
  accessFlags := 48
  interfaces := #[]
  cf := some (fileOf pool8 12 #[.nestMembers #[627, 629, 369]] #[{ accessFlags := 0, nameIndex := 9, descriptorIndex := 10, attributes := #[] }, { accessFlags := 8, nameIndex := 261, descriptorIndex := 262, attributes := #[] }, { accessFlags := 9, nameIndex := 117, descriptorIndex := 122, attributes := #[] }, { accessFlags := 9, nameIndex := 117, descriptorIndex := 118, attributes := #[] }] 48 6 #[] #[{ accessFlags := 26, nameIndex := 61, descriptorIndex := 62, attributes := #[] }, { accessFlags := 26, nameIndex := 65, descriptorIndex := 62, attributes := #[] }, { accessFlags := 24, nameIndex := 430, descriptorIndex := 62, attributes := #[] }, { accessFlags := 4120, nameIndex := 46, descriptorIndex := 47, attributes := #[] }])
  fields := #[{ name := "HI_BYTE_SHIFT", type := .int, accessFlags := 26, slot := 0, constantValue := 0 }, { name := "LO_BYTE_SHIFT", type := .int, accessFlags := 26, slot := 1, constantValue := 0 }, { name := "MAX_LENGTH", type := .int, accessFlags := 24, slot := 2, constantValue := 0 }, { name := "$assertionsDisabled", type := .boolean, accessFlags := 4120, slot := 3, constantValue := 0 }]
  methods := #[k8m0, k8m1, k8m2, k8m3]
  instanceTypes := #[]
  staticTypes := #[.int, .int, .int, .boolean]
  resolved := Array.replicate 635 none
  statics := none }

def pool9 : Array CpInfo := pool [(2, .class_ 4), (1, u "java/lang/Enum"), (0, u "name"), (0, u "Ljava/lang/String;"), (2, u "ordinal"), (0, u "I"), (1, .class_ 14), (1, u "java/lang/Object"), (4, u "hash"), (86, .class_ 108), (1, u "java/lang/Enum$EnumDesc"), (2, .class_ 112), (0, u "java/lang/constant/Constable"), (0, .class_ 114), (0, u "java/lang/Comparable"), (0, .class_ 116), (0, u "java/io/Serializable")] 87

/-- java/lang/Enum -/
def k9 : Class := { plain "java/lang/Enum" (some 0) with
  accessFlags := 1057
  interfaces := #[5, 3, 2]
  cf := some (fileOf pool9 2 #[.nestMembers #[106]] #[] 1057 12 #[111, 113, 115] #[{ accessFlags := 18, nameIndex := 5, descriptorIndex := 6, attributes := #[] }, { accessFlags := 18, nameIndex := 9, descriptorIndex := 10, attributes := #[] }, { accessFlags := 2, nameIndex := 19, descriptorIndex := 10, attributes := #[] }])
  fields := #[{ name := "name", type := (.object "java/lang/String"), accessFlags := 18, slot := 0, constantValue := 0 }, { name := "ordinal", type := .int, accessFlags := 18, slot := 1, constantValue := 0 }, { name := "hash", type := .int, accessFlags := 2, slot := 2, constantValue := 0 }]
  methods := #[]
  instanceTypes := #[(.object "java/lang/String"), .int, .int]
  staticTypes := #[]
  resolved := Array.replicate 204 none
  statics := none }

def pool10 : Array CpInfo := pool [(1, .class_ 2), (0, u "com/example/beholden/beholden/policy/Sort"), (2, u "AGENT"), (0, u "Lcom/example/beholden/beholden/policy/Sort;"), (2, u "DATA"), (0, .fieldref 1 11), (0, .nameAndType 12 13), (0, u "$VALUES"), (0, u "[Lcom/example/beholden/beholden/policy/Sort;"), (0, .methodref 15 16), (0, .class_ 13), (0, .nameAndType 17 18), (0, u "clone"), (0, u "()Ljava/lang/Object;"), (1, .class_ 22), (1, u "java/lang/Enum"), (6, .fieldref 1 30), (0, .nameAndType 31 32), (0, u "keyword"), (0, u "Ljava/lang/String;"), (2, u "noun"), (0, .methodref 1 37), (0, .nameAndType 38 39), (0, u "values"), (0, u "()[Lcom/example/beholden/beholden/policy/Sort;"), (0, .methodref 41 42), (0, .class_ 43), (0, .nameAndType 44 45), (0, u "java/lang/String"), (0, u "equals"), (0, u "(Ljava/lang/Object;)Z"), (16, u "(Ljava/lang/String;)Lcom/example/beholden/beholden/policy/Sort;"), (3, u "ofKeyword")] 7

def k10c0 : Code := { maxStack := 1, maxLocals := 0, code := prog_74_method_1_code, exceptionTable := #[], attributes := #[] }
def k10m0 : Method := { name := "values", desc := "()[Lcom/example/beholden/beholden/policy/Sort;", sig := { parameters := [], returnType := some (.array (.object "com/example/beholden/beholden/policy/Sort")) }, accessFlags := 9, code := some k10c0 }
def k10c1 : Code := { maxStack := 2, maxLocals := 6, code := prog_74_method_4_code, exceptionTable := #[], attributes := #[] }
def k10m1 : Method := { name := "ofKeyword", desc := "(Ljava/lang/String;)Lcom/example/beholden/beholden/policy/Sort;", sig := { parameters := [(.object "java/lang/String")], returnType := some (.object "com/example/beholden/beholden/policy/Sort") }, accessFlags := 9, code := some k10c1 }
/-- com/example/beholden/beholden/policy/Sort -/
def k10 : Class := { plain "com/example/beholden/beholden/policy/Sort" (some 9) with
  accessFlags := 16433
  interfaces := #[]
  cf := some (fileOf pool10 1 #[] #[{ accessFlags := 9, nameIndex := 38, descriptorIndex := 39, attributes := #[] }, { accessFlags := 9, nameIndex := 66, descriptorIndex := 62, attributes := #[] }] 16433 20 #[] #[{ accessFlags := 16409, nameIndex := 5, descriptorIndex := 6, attributes := #[] }, { accessFlags := 16409, nameIndex := 9, descriptorIndex := 6, attributes := #[] }, { accessFlags := 18, nameIndex := 31, descriptorIndex := 32, attributes := #[] }, { accessFlags := 18, nameIndex := 35, descriptorIndex := 32, attributes := #[] }, { accessFlags := 4122, nameIndex := 12, descriptorIndex := 13, attributes := #[] }])
  fields := #[{ name := "AGENT", type := (.object "com/example/beholden/beholden/policy/Sort"), accessFlags := 16409, slot := 0, constantValue := 0 }, { name := "DATA", type := (.object "com/example/beholden/beholden/policy/Sort"), accessFlags := 16409, slot := 1, constantValue := 0 }, { name := "keyword", type := (.object "java/lang/String"), accessFlags := 18, slot := 3, constantValue := 0 }, { name := "noun", type := (.object "java/lang/String"), accessFlags := 18, slot := 4, constantValue := 0 }, { name := "$VALUES", type := (.array (.object "com/example/beholden/beholden/policy/Sort")), accessFlags := 4122, slot := 2, constantValue := 0 }]
  methods := #[k10m0, k10m1]
  instanceTypes := #[(.object "java/lang/String"), .int, .int, (.object "java/lang/String"), (.object "java/lang/String")]
  staticTypes := #[(.object "com/example/beholden/beholden/policy/Sort"), (.object "com/example/beholden/beholden/policy/Sort"), (.array (.object "com/example/beholden/beholden/policy/Sort"))]
  resolved := Array.replicate 74 none
  statics := some 1 }

def pool11 : Array CpInfo := pool [(1, .class_ 2), (0, u "java/lang/Cloneable"), (0, .class_ 4), (0, u "java/lang/Object")] 2

/-- java/lang/Cloneable -/
def k11 : Class := { plain "java/lang/Cloneable" (some 0) with
  accessFlags := 1537
  interfaces := #[]
  cf := some (fileOf pool11 1 #[] #[] 1537 3 #[] #[])
  fields := #[]
  methods := #[]
  instanceTypes := #[]
  staticTypes := #[]
  resolved := Array.replicate 7 none
  statics := none }

def pool12 : Array CpInfo := pool [(4, .class_ 6), (1, u "java/lang/Object"), (0, u "<init>"), (0, u "()V"), (5, .class_ 16), (1, u "java/lang/StringLatin1"), (104, u "$assertionsDisabled"), (0, u "Z"), (98, .class_ 223), (1, u "java/lang/StringLatin1$LinesSpliterator"), (57, u "equals"), (0, u "([B[B)Z"), (107, .class_ 391), (0, u "java/lang/StringLatin1$CharsSpliterator")] 3

def k12m0 : Method := { name := "<init>", desc := "()V", sig := { parameters := [], returnType := none }, accessFlags := 0, code := none }
def k12c1 : Code := { maxStack := 3, maxLocals := 3, code := jdk_43_method_13_code, exceptionTable := #[], attributes := #[] }
def k12m1 : Method := { name := "equals", desc := "([B[B)Z", sig := { parameters := [(.array .byte), (.array .byte)], returnType := some .boolean }, accessFlags := 9, code := some k12c1 }
/-- java/lang/StringLatin1 -/
def k12 : Class := { plain "java/lang/StringLatin1" (some 0) with
  accessFlags := 48
  interfaces := #[]
  cf := some (fileOf pool12 14 #[.nestMembers #[390, 221]] #[{ accessFlags := 0, nameIndex := 7, descriptorIndex := 8, attributes := #[] }, { accessFlags := 9, nameIndex := 281, descriptorIndex := 282, attributes := #[] }] 48 4 #[] #[{ accessFlags := 4120, nameIndex := 121, descriptorIndex := 122, attributes := #[] }])
  fields := #[{ name := "$assertionsDisabled", type := .boolean, accessFlags := 4120, slot := 0, constantValue := 0 }]
  methods := #[k12m0, k12m1]
  instanceTypes := #[]
  staticTypes := #[.boolean]
  resolved := Array.replicate 395 none
  statics := none }

def pool13 : Array CpInfo := pool [(2, .class_ 4), (1, u "java/lang/Object"), (0, u "<init>"), (0, u "()V"), (17, .class_ 26), (1, u "jdk/internal/util/Preconditions"), (28, .class_ 56), (0, u "jdk/internal/util/Preconditions$4"), (57, .class_ 115), (0, u "jdk/internal/util/Preconditions$1"), (7, u "SIOOBE_FORMATTER"), (0, u "Ljava/util/function/BiFunction;"), (0, .class_ 126), (0, u "jdk/internal/util/Preconditions$2"), (3, u "AIOOBE_FORMATTER"), (0, .class_ 132), (0, u "jdk/internal/util/Preconditions$3"), (3, u "IOOBE_FORMATTER")] 57

def k13m0 : Method := { name := "<init>", desc := "()V", sig := { parameters := [], returnType := none }, accessFlags := 1, code := none }
/-- jdk/internal/util/Preconditions -/
def k13 : Class := { plain "jdk/internal/util/Preconditions" (some 0) with
  accessFlags := 33
  interfaces := #[]
  cf := some (fileOf pool13 24 #[.nestMembers #[55, 131, 125, 114]] #[{ accessFlags := 1, nameIndex := 5, descriptorIndex := 6, attributes := #[] }] 33 2 #[] #[{ accessFlags := 25, nameIndex := 123, descriptorIndex := 124, attributes := #[] }, { accessFlags := 25, nameIndex := 130, descriptorIndex := 124, attributes := #[] }, { accessFlags := 25, nameIndex := 136, descriptorIndex := 124, attributes := #[] }])
  fields := #[{ name := "SIOOBE_FORMATTER", type := (.object "java/util/function/BiFunction"), accessFlags := 25, slot := 0, constantValue := 0 }, { name := "AIOOBE_FORMATTER", type := (.object "java/util/function/BiFunction"), accessFlags := 25, slot := 1, constantValue := 0 }, { name := "IOOBE_FORMATTER", type := (.object "java/util/function/BiFunction"), accessFlags := 25, slot := 2, constantValue := 0 }]
  methods := #[k13m0]
  instanceTypes := #[]
  staticTypes := #[(.object "java/util/function/BiFunction"), (.object "java/util/function/BiFunction"), (.object "java/util/function/BiFunction")]
  resolved := Array.replicate 194 none
  statics := some 2 }

def pool14 : Array CpInfo := pool [(9, u "<init>"), (6, .class_ 18), (1, u "java/lang/Object"), (0, u "()V"), (1, .class_ 23), (1, u "jdk/internal/util/ArraysSupport"), (0, u "LOG2_ARRAY_LONG_INDEX_SCALE"), (0, u "I"), (2, u "U"), (0, u "Ljdk/internal/misc/Unsafe;"), (8, u "BIG_ENDIAN"), (0, u "Z"), (8, u "LOG2_BYTE_BIT_SIZE"), (4, u "LOG2_ARRAY_INT_INDEX_SCALE"), (54, u "JLA"), (0, u "Ljdk/internal/access/JavaLangAccess;"), (11, u "LOG2_ARRAY_BOOLEAN_INDEX_SCALE"), (9, u "LOG2_ARRAY_BYTE_INDEX_SCALE"), (5, u "LOG2_ARRAY_CHAR_INDEX_SCALE"), (5, u "LOG2_ARRAY_SHORT_INDEX_SCALE"), (18, u "LOG2_ARRAY_FLOAT_INDEX_SCALE"), (24, u "LOG2_ARRAY_DOUBLE_INDEX_SCALE"), (89, u "T_BOOLEAN"), (2, u "T_CHAR"), (1, u "T_FLOAT"), (1, u "T_DOUBLE"), (1, u "T_BYTE"), (1, u "T_SHORT"), (1, u "T_INT"), (1, u "T_LONG"), (1, u "SOFT_MAX_ARRAY_LENGTH")] 83

def k14m0 : Method := { name := "<init>", desc := "()V", sig := { parameters := [], returnType := none }, accessFlags := 2, code := none }
/-- jdk/internal/util/ArraysSupport -/
def k14 : Class := { plain "jdk/internal/util/ArraysSupport" (some 0) with
  accessFlags := 33
  interfaces := #[]
  cf := some (fileOf pool14 21 #[] #[{ accessFlags := 2, nameIndex := 9, descriptorIndex := 19, attributes := #[] }] 33 16 #[] #[{ accessFlags := 24, nameIndex := 28, descriptorIndex := 29, attributes := #[] }, { accessFlags := 26, nameIndex := 38, descriptorIndex := 39, attributes := #[] }, { accessFlags := 25, nameIndex := 121, descriptorIndex := 25, attributes := #[] }, { accessFlags := 25, nameIndex := 131, descriptorIndex := 25, attributes := #[] }, { accessFlags := 25, nameIndex := 137, descriptorIndex := 25, attributes := #[] }, { accessFlags := 25, nameIndex := 143, descriptorIndex := 25, attributes := #[] }, { accessFlags := 25, nameIndex := 53, descriptorIndex := 25, attributes := #[] }, { accessFlags := 25, nameIndex := 24, descriptorIndex := 25, attributes := #[] }, { accessFlags := 25, nameIndex := 162, descriptorIndex := 25, attributes := #[] }, { accessFlags := 25, nameIndex := 187, descriptorIndex := 25, attributes := #[] }, { accessFlags := 26, nameIndex := 48, descriptorIndex := 25, attributes := #[] }, { accessFlags := 25, nameIndex := 277, descriptorIndex := 25, attributes := #[] }, { accessFlags := 25, nameIndex := 280, descriptorIndex := 25, attributes := #[] }, { accessFlags := 25, nameIndex := 282, descriptorIndex := 25, attributes := #[] }, { accessFlags := 25, nameIndex := 284, descriptorIndex := 25, attributes := #[] }, { accessFlags := 25, nameIndex := 286, descriptorIndex := 25, attributes := #[] }, { accessFlags := 25, nameIndex := 288, descriptorIndex := 25, attributes := #[] }, { accessFlags := 25, nameIndex := 290, descriptorIndex := 25, attributes := #[] }, { accessFlags := 25, nameIndex := 292, descriptorIndex := 25, attributes := #[] }, { accessFlags := 26, nameIndex := 108, descriptorIndex := 109, attributes := #[] }, { accessFlags := 25, nameIndex := 294, descriptorIndex := 25, attributes := #[] }])
  fields := #[{ name := "U", type := (.object "jdk/internal/misc/Unsafe"), accessFlags := 24, slot := 0, constantValue := 0 }, { name := "BIG_ENDIAN", type := .boolean, accessFlags := 26, slot := 1, constantValue := 0 }, { name := "LOG2_ARRAY_BOOLEAN_INDEX_SCALE", type := .int, accessFlags := 25, slot := 2, constantValue := 0 }, { name := "LOG2_ARRAY_BYTE_INDEX_SCALE", type := .int, accessFlags := 25, slot := 3, constantValue := 0 }, { name := "LOG2_ARRAY_CHAR_INDEX_SCALE", type := .int, accessFlags := 25, slot := 4, constantValue := 0 }, { name := "LOG2_ARRAY_SHORT_INDEX_SCALE", type := .int, accessFlags := 25, slot := 5, constantValue := 0 }, { name := "LOG2_ARRAY_INT_INDEX_SCALE", type := .int, accessFlags := 25, slot := 6, constantValue := 0 }, { name := "LOG2_ARRAY_LONG_INDEX_SCALE", type := .int, accessFlags := 25, slot := 7, constantValue := 0 }, { name := "LOG2_ARRAY_FLOAT_INDEX_SCALE", type := .int, accessFlags := 25, slot := 8, constantValue := 0 }, { name := "LOG2_ARRAY_DOUBLE_INDEX_SCALE", type := .int, accessFlags := 25, slot := 9, constantValue := 0 }, { name := "LOG2_BYTE_BIT_SIZE", type := .int, accessFlags := 26, slot := 10, constantValue := 0 }, { name := "T_BOOLEAN", type := .int, accessFlags := 25, slot := 11, constantValue := 0 }, { name := "T_CHAR", type := .int, accessFlags := 25, slot := 12, constantValue := 0 }, { name := "T_FLOAT", type := .int, accessFlags := 25, slot := 13, constantValue := 0 }, { name := "T_DOUBLE", type := .int, accessFlags := 25, slot := 14, constantValue := 0 }, { name := "T_BYTE", type := .int, accessFlags := 25, slot := 15, constantValue := 0 }, { name := "T_SHORT", type := .int, accessFlags := 25, slot := 16, constantValue := 0 }, { name := "T_INT", type := .int, accessFlags := 25, slot := 17, constantValue := 0 }, { name := "T_LONG", type := .int, accessFlags := 25, slot := 18, constantValue := 0 }, { name := "JLA", type := (.object "jdk/internal/access/JavaLangAccess"), accessFlags := 26, slot := 19, constantValue := 0 }, { name := "SOFT_MAX_ARRAY_LENGTH", type := .int, accessFlags := 25, slot := 20, constantValue := 0 }]
  methods := #[k14m0]
  instanceTypes := #[]
  staticTypes := #[(.object "jdk/internal/misc/Unsafe"), .boolean, .int, .int, .int, .int, .int, .int, .int, .int, .int, .int, .int, .int, .int, .int, .int, .int, .int, (.object "jdk/internal/access/JavaLangAccess"), .int]
  resolved := Array.replicate 378 none
  statics := none }

/-- the primitive byte -/
def k15 : Class := { plain "byte" none with kind := .primitive 'B', accessFlags := 0x411 }
/-- [B -/
def k16 : Class := { plain "[B" (some 0) with kind := .array 15 .byte, interfaces := #[11, 2], accessFlags := 1041 }

/-- the primitive char -/
def k17 : Class := { plain "char" none with kind := .primitive 'C', accessFlags := 0x411 }
/-- [C -/
def k18 : Class := { plain "[C" (some 0) with kind := .array 17 .char, interfaces := #[11, 2], accessFlags := 1041 }

/-- the primitive int -/
def k19 : Class := { plain "int" none with kind := .primitive 'I', accessFlags := 0x411 }
/-- [I -/
def k20 : Class := { plain "[I" (some 0) with kind := .array 19 .int, interfaces := #[11, 2], accessFlags := 1041 }

/-- [Lcom/example/beholden/beholden/policy/Sort; -/
def k21 : Class := { plain "[Lcom/example/beholden/beholden/policy/Sort;" (some 0) with kind := .array 10 (.object "com/example/beholden/beholden/policy/Sort"), interfaces := #[11, 2], accessFlags := 1041 }

def heap : Heap := #[{ cls := 7, slots := #[.long 0, .int 1, .null, .int 0, .null, .int 0, .int 0], vm := .statics 7 },
  { cls := 10, slots := #[.ref 4, .ref 5, .ref 3], vm := .statics 10 },
  { cls := 13, slots := #[.null, .null, .null], vm := .statics 13 },
  { cls := 21, slots := #[.ref 4, .ref 5], vm := .none },
  { cls := 10, slots := #[.null, .int 0, .int 0, .ref 6, .null], vm := .none },
  { cls := 10, slots := #[.null, .int 0, .int 0, .ref 7, .null], vm := .none },
  { cls := 7, slots := #[.ref 8, .int 0, .int 0, .int 0], vm := .none },
  { cls := 7, slots := #[.ref 9, .int 0, .int 0, .int 0], vm := .none },
  { cls := 16, slots := #[.int 97, .int 103, .int 101, .int 110, .int 116], vm := .none },
  { cls := 16, slots := #[.int 100, .int 97, .int 116, .int 97], vm := .none }]
def classes : Array Class := #[k0, k1, k2, k3, k4, k5, k6, k7, k8, k9, k10, k11, k12, k13, k14, k15, k16, k17, k18, k19, k20, k21]
def interned : List (Array UInt16 × Addr) := []
def slotsUsed : Nat := 42
def theMethod : MethodId := ⟨1, 1⟩
def args0 : Array Value := #[.int 5, .int 1, .int 2, .int 3, .int 4, .int 7]
def aboutOver (below : List Frame) : State where
  vm := { classes := classes, interned := interned.toArray }
  heap := heap
  slotsUsed := slotsUsed
  threads := #[{ frames := .invoking theMethod args0 :: below }]
def below0 : List Frame := [.native { method := ⟨0, 0⟩, args := #[] }]
def about1 : State := aboutOver below0
def p0 : Program := .bare "" "" ""
def e0 : Env := launch0.env 0 0 0
theorem w_frames : about1.frames = Frame.invoking theMethod args0 :: below0 := rfl
set_option maxRecDepth 65536 in
theorem w_args : argsFit about1.vm theMethod args0 = true := by decide +kernel
set_option maxRecDepth 65536 in
theorem w_heap : heapFits about1 = true := by decide +kernel
set_option maxRecDepth 65536 in
theorem w_runnable : about1.curStatus? = some .runnable := by decide +kernel
set_option maxRecDepth 65536 in
theorem w_alone : about1.alone = true := by decide +kernel
set_option maxRecDepth 65536 in
theorem w_named : about1.methodNamed? x = some theMethod := by decide +kernel
set_option maxRecDepth 65536 in
theorem w_hears : about1.hears theMethod below0 = true := by decide +kernel
set_option maxRecDepth 65536 in
theorem w_ripe : about1.ripe theMethod args0 below0 = true := by decide +kernel
theorem w_running : about1.status = .running := rfl
set_option maxRecDepth 65536 in
theorem w_room : about1.hasRoom e0.platform room_1 = true :=
  launch0.hasRoom_least _ room_1 (by decide +kernel) (by decide +kernel) (by decide +kernel) (by decide +kernel) (by decide +kernel) (by decide +kernel)
theorem allAtoms_all (ts : List Jvm.Cond) (a : Array Jvm.Value) (st : Jvm.State) : (allAtoms ts).before a st = ts.all (fun c => c.before a st) := by
  induction ts with
  | nil => rfl
  | cons c t ih =>
    show (Jvm.Cond.and c (allAtoms t)).before a st = _
    rw [Jvm.Cond.before_and, ih, List.all_cons]
def words1 : List Jvm.Cond := Jvm.Cond.code x code maxLocals ret :: tables_1
/-- a 'code' word, met by the world's own term for the bytes: nothing is compared byte by byte -/
theorem code_word {y : MethodName} {bytes : ByteArray} {mx : Nat} {rt : Option FieldType} {a : Array Value} {s : State} {m : MethodId} {meth : Method} {c : Code} (h1 : s.methodNamed? y = some m) (h2 : s.vm.method? m = some meth) (h3 : meth.code = some c) (h4 : c.code = bytes)
    (h5 : (c.maxLocals == mx && c.exceptionTable.isEmpty && decide (c.maxStack ≤ mostOperands) && decide (meth.sig.returnType = rt) && !meth.locks && decide (parseMethodDescriptor y.desc = some meth.sig)) = true) : (Jvm.Cond.code y bytes mx rt).before a s = true := by
  simp only [Bool.and_eq_true, beq_iff_eq, Bool.not_eq_true', decide_eq_true_eq] at h5
  obtain ⟨⟨⟨⟨⟨g1, g2⟩, g3⟩, g4⟩, g5⟩, g6⟩ := h5
  simp [Cond.before, Cond.holds, Cond.value, h1, h2, h3, h4, g1, g2, g3, g4, g5, g6]
def isCode : Jvm.Cond → Bool
  | .code _ _ _ _ => true
  | _ => false
theorem all_split {L : List Jvm.Cond} {P : Jvm.Cond → Bool} (h1 : L.all (fun c => isCode c || P c) = true) (h2 : ∀ c ∈ L.filter isCode, P c = true) : L.all P = true := by
  refine List.all_eq_true.mpr fun c hc => ?_
  have h := List.all_eq_true.mp h1 c hc
  rcases Bool.eq_false_or_eq_true (isCode c) with hi | hi
  · exact h2 c (List.mem_filter.mpr ⟨hc, hi⟩)
  · simpa [hi] using h
set_option maxRecDepth 65536 in
theorem w_c0 : (Jvm.Cond.code x code maxLocals ret).before args0 about1 = true := code_word (m := ⟨1, 1⟩) (meth := k1m1) (c := k1c1) (by decide +kernel) rfl rfl rfl (by decide +kernel)
set_option maxRecDepth 65536 in
theorem w_c1 : (Jvm.Cond.code ({ cls := "com/example/beholden/beholden/policy/SortOfKeywordPinLaw", name := "drawn", desc := "(II)C" } : Jvm.MethodName) method_3_code (2 : Nat) (Option.some Jvm.ClassFile.FieldType.char)).before args0 about1 = true := code_word (m := ⟨1, 2⟩) (meth := k1m2) (c := k1c2) (by decide +kernel) rfl rfl rfl (by decide +kernel)
set_option maxRecDepth 65536 in
theorem w_c2 : (Jvm.Cond.code ({ cls := "com/example/beholden/beholden/policy/SortOfKeywordPinLaw", name := "take", desc := "([CI)Ljava/lang/String;" } : Jvm.MethodName) method_4_code (2 : Nat) (Option.some (Jvm.ClassFile.FieldType.object "java/lang/String"))).before args0 about1 = true := code_word (m := ⟨1, 3⟩) (meth := k1m3) (c := k1c3) (by decide +kernel) rfl rfl rfl (by decide +kernel)
set_option maxRecDepth 65536 in
theorem w_c3 : (Jvm.Cond.code ({ cls := "java/lang/String", name := "<init>", desc := "([C)V" } : Jvm.MethodName) jdk_42_method_3_code (2 : Nat) (Option.none : Option Jvm.ClassFile.FieldType)).before args0 about1 = true := code_word (m := ⟨7, 1⟩) (meth := k7m1) (c := k7c1) (by decide +kernel) rfl rfl rfl (by decide +kernel)
set_option maxRecDepth 65536 in
theorem w_c4 : (Jvm.Cond.code ({ cls := "java/lang/String", name := "<init>", desc := "([CIILjava/lang/Void;)V" } : Jvm.MethodName) jdk_42_method_149_code (6 : Nat) (Option.none : Option Jvm.ClassFile.FieldType)).before args0 about1 = true := code_word (m := ⟨7, 3⟩) (meth := k7m3) (c := k7c3) (by decide +kernel) rfl rfl rfl (by decide +kernel)
set_option maxRecDepth 65536 in
theorem w_c5 : (Jvm.Cond.code ({ cls := "java/lang/Object", name := "<init>", desc := "()V" } : Jvm.MethodName) object_method_1_code (1 : Nat) (Option.none : Option Jvm.ClassFile.FieldType)).before args0 about1 = true := code_word (m := ⟨0, 0⟩) (meth := k0m0) (c := k0c0) (by decide +kernel) rfl rfl rfl (by decide +kernel)
set_option maxRecDepth 65536 in
theorem w_c6 : (Jvm.Cond.code ({ cls := "java/lang/StringUTF16", name := "compress", desc := "([CII)[B" } : Jvm.MethodName) jdk_52_method_16_code (6 : Nat) (Option.some (Jvm.ClassFile.FieldType.array Jvm.ClassFile.FieldType.byte))).before args0 about1 = true := code_word (m := ⟨8, 2⟩) (meth := k8m2) (c := k8c2) (by decide +kernel) rfl rfl rfl (by decide +kernel)
set_option maxRecDepth 65536 in
theorem w_c7 : (Jvm.Cond.code ({ cls := "java/lang/StringUTF16", name := "compress", desc := "([CI[BII)I" } : Jvm.MethodName) jdk_52_method_21_code (7 : Nat) (Option.some Jvm.ClassFile.FieldType.int)).before args0 about1 = true := code_word (m := ⟨8, 3⟩) (meth := k8m3) (c := k8c3) (by decide +kernel) rfl rfl rfl (by decide +kernel)
set_option maxRecDepth 65536 in
theorem w_c8 : (Jvm.Cond.code ({ cls := "java/lang/StringUTF16", name := "coderFromArrayLen", desc := "([BI)B" } : Jvm.MethodName) jdk_52_method_15_code (2 : Nat) (Option.some Jvm.ClassFile.FieldType.byte)).before args0 about1 = true := code_word (m := ⟨8, 1⟩) (meth := k8m1) (c := k8c1) (by decide +kernel) rfl rfl rfl (by decide +kernel)
set_option maxRecDepth 65536 in
theorem w_c9 : (Jvm.Cond.code ({ cls := "com/example/beholden/beholden/policy/Sort", name := "ofKeyword", desc := "(Ljava/lang/String;)Lcom/example/beholden/beholden/policy/Sort;" } : Jvm.MethodName) prog_74_method_4_code (6 : Nat) (Option.some (Jvm.ClassFile.FieldType.object "com/example/beholden/beholden/policy/Sort"))).before args0 about1 = true := code_word (m := ⟨10, 1⟩) (meth := k10m1) (c := k10c1) (by decide +kernel) rfl rfl rfl (by decide +kernel)
set_option maxRecDepth 65536 in
theorem w_c10 : (Jvm.Cond.code ({ cls := "com/example/beholden/beholden/policy/Sort", name := "values", desc := "()[Lcom/example/beholden/beholden/policy/Sort;" } : Jvm.MethodName) prog_74_method_1_code (0 : Nat) (Option.some (Jvm.ClassFile.FieldType.array (Jvm.ClassFile.FieldType.object "com/example/beholden/beholden/policy/Sort")))).before args0 about1 = true := code_word (m := ⟨10, 0⟩) (meth := k10m0) (c := k10c0) (by decide +kernel) rfl rfl rfl (by decide +kernel)
set_option maxRecDepth 65536 in
theorem w_c11 : (Jvm.Cond.code ({ cls := "java/lang/String", name := "equals", desc := "(Ljava/lang/Object;)Z" } : Jvm.MethodName) jdk_42_method_66_code (3 : Nat) (Option.some Jvm.ClassFile.FieldType.boolean)).before args0 about1 = true := code_word (m := ⟨7, 2⟩) (meth := k7m2) (c := k7c2) (by decide +kernel) rfl rfl rfl (by decide +kernel)
set_option maxRecDepth 65536 in
theorem w_c12 : (Jvm.Cond.code ({ cls := "java/lang/StringLatin1", name := "equals", desc := "([B[B)Z" } : Jvm.MethodName) jdk_43_method_13_code (3 : Nat) (Option.some Jvm.ClassFile.FieldType.boolean)).before args0 about1 = true := code_word (m := ⟨12, 1⟩) (meth := k12m1) (c := k12c1) (by decide +kernel) rfl rfl rfl (by decide +kernel)
def codes1 : List Jvm.Cond := [Jvm.Cond.code x code maxLocals ret, Jvm.Cond.code ({ cls := "com/example/beholden/beholden/policy/SortOfKeywordPinLaw", name := "drawn", desc := "(II)C" } : Jvm.MethodName) method_3_code (2 : Nat) (Option.some Jvm.ClassFile.FieldType.char), Jvm.Cond.code ({ cls := "com/example/beholden/beholden/policy/SortOfKeywordPinLaw", name := "take", desc := "([CI)Ljava/lang/String;" } : Jvm.MethodName) method_4_code (2 : Nat) (Option.some (Jvm.ClassFile.FieldType.object "java/lang/String")), Jvm.Cond.code ({ cls := "java/lang/String", name := "<init>", desc := "([C)V" } : Jvm.MethodName) jdk_42_method_3_code (2 : Nat) (Option.none : Option Jvm.ClassFile.FieldType), Jvm.Cond.code ({ cls := "java/lang/String", name := "<init>", desc := "([CIILjava/lang/Void;)V" } : Jvm.MethodName) jdk_42_method_149_code (6 : Nat) (Option.none : Option Jvm.ClassFile.FieldType), Jvm.Cond.code ({ cls := "java/lang/Object", name := "<init>", desc := "()V" } : Jvm.MethodName) object_method_1_code (1 : Nat) (Option.none : Option Jvm.ClassFile.FieldType), Jvm.Cond.code ({ cls := "java/lang/StringUTF16", name := "compress", desc := "([CII)[B" } : Jvm.MethodName) jdk_52_method_16_code (6 : Nat) (Option.some (Jvm.ClassFile.FieldType.array Jvm.ClassFile.FieldType.byte)), Jvm.Cond.code ({ cls := "java/lang/StringUTF16", name := "compress", desc := "([CI[BII)I" } : Jvm.MethodName) jdk_52_method_21_code (7 : Nat) (Option.some Jvm.ClassFile.FieldType.int), Jvm.Cond.code ({ cls := "java/lang/StringUTF16", name := "coderFromArrayLen", desc := "([BI)B" } : Jvm.MethodName) jdk_52_method_15_code (2 : Nat) (Option.some Jvm.ClassFile.FieldType.byte), Jvm.Cond.code ({ cls := "com/example/beholden/beholden/policy/Sort", name := "ofKeyword", desc := "(Ljava/lang/String;)Lcom/example/beholden/beholden/policy/Sort;" } : Jvm.MethodName) prog_74_method_4_code (6 : Nat) (Option.some (Jvm.ClassFile.FieldType.object "com/example/beholden/beholden/policy/Sort")), Jvm.Cond.code ({ cls := "com/example/beholden/beholden/policy/Sort", name := "values", desc := "()[Lcom/example/beholden/beholden/policy/Sort;" } : Jvm.MethodName) prog_74_method_1_code (0 : Nat) (Option.some (Jvm.ClassFile.FieldType.array (Jvm.ClassFile.FieldType.object "com/example/beholden/beholden/policy/Sort"))), Jvm.Cond.code ({ cls := "java/lang/String", name := "equals", desc := "(Ljava/lang/Object;)Z" } : Jvm.MethodName) jdk_42_method_66_code (3 : Nat) (Option.some Jvm.ClassFile.FieldType.boolean), Jvm.Cond.code ({ cls := "java/lang/StringLatin1", name := "equals", desc := "([B[B)Z" } : Jvm.MethodName) jdk_43_method_13_code (3 : Nat) (Option.some Jvm.ClassFile.FieldType.boolean)]
set_option maxRecDepth 65536 in
theorem codes_eq : words1.filter isCode = codes1 := rfl
theorem w_codes : ∀ c ∈ words1.filter isCode, c.before args0 about1 = true := by
  rw [codes_eq]
  intro c hc
  simp only [codes1, List.mem_cons, List.not_mem_nil, or_false] at hc
  rcases hc with rfl | rfl | rfl | rfl | rfl | rfl | rfl | rfl | rfl | rfl | rfl | rfl | rfl
  · exact w_c0
  · exact w_c1
  · exact w_c2
  · exact w_c3
  · exact w_c4
  · exact w_c5
  · exact w_c6
  · exact w_c7
  · exact w_c8
  · exact w_c9
  · exact w_c10
  · exact w_c11
  · exact w_c12
set_option maxRecDepth 65536 in
theorem w_t1 : (words1.take 24).all (fun c => isCode c || c.before args0 about1) = true := by decide +kernel
set_option maxRecDepth 65536 in
theorem w_t2 : ((words1.drop 24).take 24).all (fun c => isCode c || c.before args0 about1) = true := by decide +kernel
set_option maxRecDepth 65536 in
theorem w_t3 : (((words1.drop 24).drop 24).take 24).all (fun c => isCode c || c.before args0 about1) = true := by decide +kernel
set_option maxRecDepth 65536 in
theorem w_t4 : (((words1.drop 24).drop 24).drop 24).all (fun c => isCode c || c.before args0 about1) = true := by decide +kernel
theorem w_tables : (allAtoms (Jvm.Cond.code x code maxLocals ret :: tables_1)).before args0 about1 = true := by
  rw [allAtoms_all]
  show words1.all (fun c => c.before args0 about1) = true
  refine all_split ?_ w_codes
  rw [← List.take_append_drop 24 words1, List.all_append, w_t1, ← List.take_append_drop 24 (words1.drop 24), List.all_append, w_t2, ← List.take_append_drop 24 ((words1.drop 24).drop 24), List.all_append, w_t3, w_t4]
  rfl
set_option maxRecDepth 65536 in
theorem w_rest : rest_1_c.before args0 about1 = true := by decide +kernel
set_option maxRecDepth 65536 in
theorem w_case : (Jvm.Cond.and given_1 narrow_1).before args0 about1 = true := by decide +kernel
set_option maxRecDepth 65536 in
theorem w_consts : constsHeld consts_1 about1 := Jvm.Lit.constsHeldB_iff.mp (by decide +kernel)
theorem w_applies : (headSpec (Jvm.Cond.code x code maxLocals ret :: tables_1) room_1).applies x e0.platform about1 = true :=
  (Spec.applies_iff w_frames).mpr ⟨w_running, w_runnable, w_alone, w_named, w_hears, w_ripe, w_room, w_tables⟩
theorem atStart : AtStart classFile x code maxLocals ret World_1 tables_1 room_1 Calls_1 rest_1 Pre_1 launch0 p0 e0 about1 theMethod args0 below0 :=
  ⟨lists_1, trivial, launch0.admits_env _ _ _, launch0.least_env, fairChoices_fair.cas, fairChoices_fair.clock, w_frames, w_args, w_heap, w_applies, ⟨w_consts, trivial⟩, w_rest, w_case⟩
end start1
theorem witness_1 : WitnessClaimed_1 := ⟨start1.p0, start1.e0, start1.about1, start1.theMethod, start1.args0, start1.below0, start1.atStart⟩
end Jvm.Pilot.@@N@@
