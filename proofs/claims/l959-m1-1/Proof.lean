import JvmDerived
import JvmDerived.Pilot.@@N@@Statement
import JvmDerived.Pilot.@@N@@Code
set_option linter.unusedVariables false
set_option linter.unusedSimpArgs false
namespace Jvm.OwnW
open Sem ClassFile Op Lib Jvm.Stand Jvm.Free Jvm.LawKit Jvm.RoadKit
section A
variable {kn : Prop} {p : Program} {l : Launch} {e : Env} {R : Room} {s : State} {m : MethodId} {args : Array Value} {below : List Frame} {meth : Method} {c : Code} {T : State} {Z : State} {a0 : Array Value} {EL : List (String × Nat)} {h h' : Heap} {n0 kc ks fc fs : Nat} {sf : List Addr} {Q : Option Value → Heap → List Addr → Prop} {y : MethodName} {bytes : ByteArray} {maxL : Nat} {ret : Option FieldType} {a b : Addr} {ty : FieldType} {vs : List Value} {sl : Nat} {v w : Value} {C f d : String} {wl : List Addr}
def Sd (kn : Prop) (Z : State) (a0 : Array Value) (EL : List (String × Nat)) (y : MethodName) (bytes : ByteArray) (maxL : Nat) (ret : Option FieldType) (p : Program) (l : Launch) (e : Env) (R : Room) (s : State) (m : MethodId) (args : Array Value) (below : List Frame) (meth : Method) (c : Code) (n0 : Nat) (sf : List Addr) (h : Heap) (kc ks : Nat) (T : State) : Prop :=
  ∃ (vm0 : Vm) (k0 : Nat), (p.tables.exec = Jvm.exec ∧ Z.Warmed39 vm0 ∧ c.code = bytes ∧ c.maxLocals = maxL ∧ meth.sig.returnType = ret ∧ meth.locks = false ∧ vm0.findClass y.cls = some m.cls ∧ meth.name = y.name) ∧
  (s.Since vm0 k0 ∧ k0 ≤ h.size ∧ EW Z a0 EL ∧ CHr Z EL s.vm s.heap vm0 h ∧ (∀ x ∈ sf, Safe Z EL vm0 h x ∧ x < h.size) ∧ (kn → vm0.MethodsKnown ∧ vm0.FramesKnown below)) ∧
  ∃ locs cells slots, Stand p l e R (s.setVm vm0) m args below meth c T locs cells slots ∧ T.heap = h ∧ Fr n0 locs ∧ cells ≤ kc ∧ slots ≤ ks
def Run (Z : State) (EL : List (String × Nat)) (p : Program) (e : Env) (below : List Frame) (s : State) (n0 fc fs : Nat) (Q : Option Value → Heap → List Addr → Prop) (t : State) : Prop :=
  ∃ s₂ o, Steps p.tables e below t s₂ ∧ s₂.status = .running ∧ Ended s₂ below o ∧ ∃ v L sfn, o = .returned v ∧ Q v s₂.heap sfn ∧ (∀ x ∈ sfn, Safe Z EL s₂.vm s₂.heap x ∧ x < s₂.heap.size) ∧ Fr n0 L ∧ CHr Z EL s.vm s.heap s₂.vm s₂.heap ∧ ReturnedEndW s o s₂ L fc fs
def Ctr (kn : Prop) (l : Launch) (Z : State) (EL : List (String × Nat)) (y : MethodName) (bytes : ByteArray) (maxL : Nat) (ret : Option FieldType) (ws : List Cond) (rm : Room) (n0 : Nat) (sf : List Addr) (as : Array Value) (h : Heap) (Q : Option Value → Heap → List Addr → Prop) : Prop :=
  MetFree l y (head1 (Cond.code y bytes maxL ret :: ws) rm) (fun a' U => a' = as ∧ Z.Warmed39 U.vm ∧ U.heap = h ∧ CHv Z EL U.vm h ∧ ∀ x ∈ sf, Safe Z EL U.vm h x ∧ x < h.size) (fun _ _ bl U _ => kn → U.vm.MethodsKnown ∧ U.vm.FramesKnown bl) (fun _ U o U' => ∃ v L, o = .returned v ∧ (∃ sfn, Q v U'.heap sfn ∧ (∀ x ∈ sfn, Safe Z EL U'.vm U'.heap x ∧ x < U'.heap.size) ∧ Fr n0 L) ∧ CHr Z EL U.vm U.heap U'.vm U'.heap ∧ ReturnedEndW U o U' L rm.cells rm.slots)
def Rt (Qv : Value → Heap → List Addr → Prop) : Option Value → Heap → List Addr → Prop := fun v h g => ∃ w, v = some w ∧ Qv w h g
def Rn (Qn : Heap → List Addr → Prop) : Option Value → Heap → List Addr → Prop := fun v h g => v = none ∧ Qn h g
theorem Run.st {t t' : State} (k : Run Z EL p e below s n0 fc fs Q t') (f : ∀ z, Steps p.tables e below t' z → Steps p.tables e below t z) : Run Z EL p e below s n0 fc fs Q t := by
  obtain ⟨s2, o, h1, r⟩ := k; exact ⟨s2, o, f _ h1, r⟩
theorem FKalike {vm vm' : Vm} {fr : List Frame} (hal : vm.Alike vm') (h : vm.FramesKnown fr) : vm'.FramesKnown fr := Vm.FramesKnown.alikeC hal h
theorem Sd.x (X : Sd kn Z a0 EL y bytes maxL ret p l e R s m args below meth c n0 sf h kc ks T) : p.tables.exec = Jvm.exec := by obtain ⟨_, _, q, -⟩ := X; exact q.1
theorem Sd.hr (X : Sd kn Z a0 EL y bytes maxL ret p l e R s m args below meth c n0 sf h kc ks T) : At T m c below := by obtain ⟨_, _, -, -, _, _, _, Y, -⟩ := X; exact Y.here
theorem Sd.dc (X : Sd kn Z a0 EL y bytes maxL ret p l e R s m args below meth c n0 sf h kc ks T) {pc : Nat} {r : Except DecodeError (Instr × Nat)} (q : decode bytes pc = r) : decode c.code pc = r := by obtain ⟨_, _, g, -⟩ := X; exact g.2.2.1 ▸ q
theorem Sd.rt (X : Sd kn Z a0 EL y bytes maxL ret p l e R s m args below meth c n0 sf h kc ks T) : meth.sig.returnType = ret := by obtain ⟨_, _, q, -⟩ := X; exact q.2.2.2.2.1
theorem Sd.op (X : Sd kn Z a0 EL y bytes maxL ret p l e R s m args below meth c n0 sf h kc ks T) : ∃ (s' : State) (L : List Loc) (i j : Nat), Stand p l e R s' m args below meth c T L i j ∧ T.heap = h ∧ Z.Warmed39 s'.vm ∧ s'.vm.findClass y.cls = some m.cls ∧ c.maxLocals = maxL ∧ meth.name = y.name ∧ i ≤ kc ∧ j ≤ ks ∧ p.tables.exec = Jvm.exec ∧ (∀ T', Stand p l e R s' m args below meth c T' L i j → T'.heap = h → Sd kn Z a0 EL y bytes maxL ret p l e R s m args below meth c n0 sf h kc ks T') ∧ (∀ T' h' dc ds, Stand p l e R s' m args below meth c T' L (i + dc) (j + ds) → T'.heap = h' → Ext h h' → h.size < h'.size → Sd kn Z a0 EL y bytes maxL ret p l e R s m args below meth c n0 (h.size :: sf) h' (kc + dc) (ks + ds) T') ∧ (∀ T' h' a sl v, a ∈ sf → n0 ≤ a → Stand p l e R s' m args below meth c T' (L ++ [⟨a, sl⟩]) i j → T'.heap = h' → Wr h h' a sl v → Sd kn Z a0 EL y bytes maxL ret p l e R s m args below meth c n0 sf h' kc ks T') := by
  obtain ⟨vm0, k0, q, ⟨hS, hk, hE, hC, hs, hkn⟩, L, i, j, Y, r1, r2, r3, r4⟩ := X
  refine ⟨s.setVm vm0, L, i, j, Y, r1, q.2.1, q.2.2.2.2.2.2.1, q.2.2.2.1, q.2.2.2.2.2.2.2, r3, r4, q.1, ?_, ?_, ?_⟩
  · intro T' Y' e'
    exact ⟨vm0, k0, q, ⟨hS, hk, hE, hC, hs, hkn⟩, L, i, j, Y', e', r2, r3, r4⟩
  · intro T' h' dc ds Y' e' E hlt
    refine ⟨vm0, k0, q, ⟨hS, Nat.le_trans hk E.1, hE, hC.trans (CHr.ext E hC.1), ?_, hkn⟩, L, _, _, Y', e', r2, by omega, by omega⟩
    intro x hx
    rcases List.mem_cons.mp hx with rfl | hx
    · exact ⟨(Safe.new (Nat.le_refl _)).ext E hC.1, hlt⟩
    · exact ⟨(hs x hx).1.ext E hC.1, Nat.lt_of_lt_of_le (hs x hx).2 E.1⟩
  · intro T' h' a sl v ha hn Y' e' W
    refine ⟨vm0, k0, q, ⟨hS, by rw [W.size]; exact hk, hE, hC.trans (CHr.wr W (hs a ha).1 hC.1), ?_, hkn⟩, _, _, _, Y', e', Fr.snoc Y' r2 hn, r3, r4⟩
    intro x hx
    exact ⟨Safe.wr W (hs a ha).1 hC.1 (hs x hx).1, by rw [W.size]; exact (hs x hx).2⟩
theorem Sd.lt (X : Sd kn Z a0 EL y bytes maxL ret p l e R s m args below meth c n0 sf h kc ks T) : ∀ x ∈ sf, x < h.size := by obtain ⟨_, _, -, ⟨-, -, -, -, hs, -⟩, -⟩ := X; exact fun x hx => (hs x hx).2
theorem sf0 : ∀ x ∈ ([] : List Addr), x ∈ sf := fun _ q => nomatch q
theorem sfS (q : a ∈ sf) (r : ∀ x ∈ wl, x ∈ sf) : ∀ x ∈ a :: wl, x ∈ sf := fun x z => (List.mem_cons.mp z).elim (fun u => u ▸ q) (r x)
theorem Sd.more (X : Sd kn Z a0 EL y bytes maxL ret p l e R s m args below meth c n0 sf h kc ks T) {kc' ks' : Nat} (h1 : kc ≤ kc') (h2 : ks ≤ ks') : Sd kn Z a0 EL y bytes maxL ret p l e R s m args below meth c n0 sf h kc' ks' T := by
  obtain ⟨vm0, k0, q, g, L, i, j, Y, r1, r2, r3, r4⟩ := X; exact ⟨vm0, k0, q, g, L, i, j, Y, r1, r2, Nat.le_trans r3 h1, Nat.le_trans r4 h2⟩
theorem Sd.less (X : Sd kn Z a0 EL y bytes maxL ret p l e R s m args below meth c n0 sf h kc ks T) {sf' : List Addr} (hh : ∀ x ∈ sf', x ∈ sf) : Sd kn Z a0 EL y bytes maxL ret p l e R s m args below meth c n0 sf' h kc ks T := by
  obtain ⟨vm0, k0, q, ⟨hS, hk, hE, hC, hs, hkn⟩, g⟩ := X; exact ⟨vm0, k0, q, ⟨hS, hk, hE, hC, fun x hx => hs x (hh x hx), hkn⟩, g⟩
theorem Ctr.of {rm : Room} {ws : List Cond} {as : Array Value} {ls0 : Array Slot} (hn : plainFor y = true) (hE : EW Z a0 EL) (hf : ∀ m, entryFrame m as maxL = mkF m 0 ls0 [])
    (body : ∀ (p : Program) (e : Env) (s : State) (m : MethodId) (below : List Frame) (meth : Method) (c : Code) (T : State), Sd kn Z a0 EL y bytes maxL ret p l e rm s m as below meth c n0 sf h 0 0 T → Run Z EL p e below s n0 rm.cells rm.slots Q (T.setTop (mkF m 0 ls0 []))) : Ctr kn l Z EL y bytes maxL ret ws rm n0 sf as h Q := by
  refine MetFree.of_bodySF hn hisR ?_
  intro p e s m args below meth c s₁ Bd hml0 hP hK
  obtain ⟨rfl, hZ, hh, hC, hs⟩ := hP
  have X0 : Stand p l e rm s m args below meth c s₁ [] 0 0 := Stand.of_body Bd
  have e0 : s₁.heap = h := by rw [← hh, Bd.state]; rfl
  obtain ⟨s2, o, h1, h2, h3, v, L, sfn, h4, h5, h6, h7, h8, h9⟩ := body p e s m below meth c s₁ ⟨s.vm, h.size, ⟨Bd.exec, hZ, Bd.bytes, hml0, Bd.returns, Bd.notSynchronized, findClass_of_methodNamed Bd.named, (name_of_methodNamed Bd.named Bd.method).1⟩, ⟨(State.WarmedH.refl s).since _, Nat.le_refl _, hE, by rw [hh]; exact CHr.refl hC, hs, hK⟩, [], 0, 0, X0, e0, Fr.nil _, Nat.le_refl _, Nat.le_refl _⟩
  exact ⟨s2, o, castTop (hf m) h1, h2, h3, v, L, h4, ⟨sfn, h5, h6, h7⟩, h8, h9⟩
theorem leaveQ (X : Sd kn Z a0 EL y bytes maxL ret p l e R s m args below meth c n0 sf h kc ks T) {v : Option Value} (hv : ret = none → v = none) (hq : Q v h sf) (h1 : kc ≤ fc) (h2 : ks ≤ fs) {t : State}
    (st : ∀ {s' : State} {locs cells slots}, Stand p l e R s' m args below meth c T locs cells slots → ∀ {ff : List Frame}, (∀ (f : JFrame) (acts : List Action), f.method = m → f.locked = none → f.entered = [] → (doReturn e (T.setTop f) acts v).1 = T.setFrames ff) → Steps p.tables e below t (T.setFrames ff)) : Run Z EL p e below s n0 fc fs Q t := by
  obtain ⟨vm0, k0, q, ⟨hS, hk, hE, hC, hs, hkn⟩, L, i, j, Y, r1, r2, r3, r4⟩ := X
  obtain ⟨ff, g1, hrun, hended, w1, w2, w3, w4⟩ := Y.leaveW hS (by rw [r1]; exact hk) (v := v) (fun z => hv (q.2.2.2.2.1 ▸ z)) q.2.2.2.2.2.1
  have hA := CHv.at Y q.2.1 hE hC.1
  refine ⟨_, _, st Y g1, hrun, hended, v, L, sf, rfl, by show Q v T.heap sf; rw [r1]; exact hq, ?_, r2, ?_, w1, w2, w3, w4.mono (Nat.le_trans r3 h1) (Nat.le_trans r4 h2)⟩
  · intro x hx
    show Safe Z EL T.vm T.heap x ∧ x < T.heap.size
    rw [r1]
    exact ⟨hA.safe (hs x hx).2 (hs x hx).1, (hs x hx).2⟩
  · show CHr Z EL s.vm s.heap T.vm T.heap
    rw [r1]
    exact hC.trans hA
theorem areturn (X : Sd kn Z a0 EL y bytes maxL ret p l e R s m args below meth c n0 sf h kc ks T) {t : FieldType} (hr : ret = some t) (ht : t.isReference = true) {pc : Nat} {ls : Array Slot} {w : Value} {st : List Value} (hw : w.isRef = true) (hd : decode bytes pc = .ok (.areturn, 1)) {Qv : Value → Heap → List Addr → Prop} (hq : Qv w h sf) (h1 : kc ≤ fc) (h2 : ks ≤ fs) : Run Z EL p e below s n0 fc fs (Rt Qv) (T.setTop (mkF m pc ls (w :: st))) := by
  subst hr
  have hn : narrow t w = w := by cases w <;> cases t <;> first | rfl | exact absurd hw Bool.noConfusion | exact absurd ht Bool.noConfusion
  exact leaveQ X (v := some w) (fun q => by cases q) ⟨w, rfl, hq⟩ h1 h2 fun Y _ g => retOut Y X.x X.rt hn (Or.inr (Or.inr (Or.inr (Or.inr ⟨rfl, ht, hw⟩)))) (X.dc hd) g
theorem ireturn (X : Sd kn Z a0 EL y bytes maxL ret p l e R s m args below meth c n0 sf h kc ks T) {t : FieldType} (hr : ret = some t) (ht : t = .int ∨ t = .boolean ∨ t = .byte ∨ t = .char ∨ t = .short) {pc : Nat} {ls : Array Slot} {z : Int32} {st : List Value} (hn : narrow t (.int z) = .int z) (hd : decode bytes pc = .ok (.ireturn, 1)) {Qv : Value → Heap → List Addr → Prop} (hq : Qv (.int z) h sf) (h1 : kc ≤ fc) (h2 : ks ≤ fs) : Run Z EL p e below s n0 fc fs (Rt Qv) (T.setTop (mkF m pc ls (.int z :: st))) := by
  subst hr
  exact leaveQ X (v := some (.int z)) (fun q => by cases q) ⟨_, rfl, hq⟩ h1 h2 fun Y _ g => retOut Y X.x X.rt hn (Or.inl ⟨rfl, ht, z, rfl⟩) (X.dc hd) g
theorem ireturnN (X : Sd kn Z a0 EL y bytes maxL ret p l e R s m args below meth c n0 sf h kc ks T) {t : FieldType} (hr : ret = some t) (ht : t = .boolean ∨ t = .byte ∨ t = .char ∨ t = .short) {pc : Nat} {ls : Array Slot} {z z' : Int32} {st : List Value} (hn : nar t z = z') (hd : decode bytes pc = .ok (.ireturn, 1)) {Qv : Value → Heap → List Addr → Prop} (hq : Qv (.int z') h sf) (h1 : kc ≤ fc) (h2 : ks ≤ fs) : Run Z EL p e below s n0 fc fs (Rt Qv) (T.setTop (mkF m pc ls (.int z :: st))) := by
  subst hr hn
  exact leaveQ X (v := some (.int (nar t z))) (fun q => by cases q) ⟨_, rfl, hq⟩ h1 h2 fun Y _ g => retN Y X.x X.rt ht (X.dc hd) g
theorem vreturn (X : Sd kn Z a0 EL y bytes maxL ret p l e R s m args below meth c n0 sf h kc ks T) (hr : ret = none) {pc : Nat} {ls : Array Slot} (hd : decode bytes pc = .ok (.return_, 1)) {Qn : Heap → List Addr → Prop} (hq : Qn h sf) (h1 : kc ≤ fc) (h2 : ks ≤ fs) : Run Z EL p e below s n0 fc fs (Rn Qn) (T.setTop (mkF m pc ls [])) := by
  subst hr
  exact leaveQ X (v := none) (fun _ => rfl) ⟨rfl, hq⟩ h1 h2 fun Y _ g => Y.returnOut X.x X.rt (X.dc hd) g
theorem iloadN (X : Sd kn Z a0 EL y bytes maxL ret p l e R s m args below meth c n0 sf h kc ks T) {pc n : Nat} {ls : Array Slot} {st : List Value} {k : Fin 4} {v : Int32} (hd : decode bytes pc = .ok (.iload_n k, 1)) (hl : ls[k.val]? = some (.val (.int v))) (hn : pc + 1 = n) (K : Run Z EL p e below s n0 fc fs Q (T.setTop (mkF m n ls (.int v :: st)))) : Run Z EL p e below s n0 fc fs Q (T.setTop (mkF m pc ls st)) := by
  subst hn; exact K.st fun _ k => XS.iloadN X.hr X.x rfl (X.dc hd) hl k
theorem iload (X : Sd kn Z a0 EL y bytes maxL ret p l e R s m args below meth c n0 sf h kc ks T) {pc n : Nat} {ls : Array Slot} {st : List Value} {j : Nat} {v : Int32} (hd : decode bytes pc = .ok (.iload j, 2)) (hl : ls[j]? = some (.val (.int v))) (hn : pc + 2 = n) (K : Run Z EL p e below s n0 fc fs Q (T.setTop (mkF m n ls (.int v :: st)))) : Run Z EL p e below s n0 fc fs Q (T.setTop (mkF m pc ls st)) := by
  subst hn; exact K.st fun _ k => XS.iload X.hr X.x rfl (X.dc hd) hl k
theorem istoreN (X : Sd kn Z a0 EL y bytes maxL ret p l e R s m args below meth c n0 sf h kc ks T) {pc n : Nat} {ls : Array Slot} {st : List Value} {k : Fin 4} {v : Int32} {l' : Array Slot} (hd : decode bytes pc = .ok (.istore_n k, 1)) (hl : storeLocals ls k.val (.int v) = some l') (hn : pc + 1 = n) (K : Run Z EL p e below s n0 fc fs Q (T.setTop (mkF m n l' st))) : Run Z EL p e below s n0 fc fs Q (T.setTop (mkF m pc ls (.int v :: st))) := by
  subst hn; exact K.st fun _ k => XS.istoreN X.hr X.x rfl (X.dc hd) rfl hl k
theorem istore (X : Sd kn Z a0 EL y bytes maxL ret p l e R s m args below meth c n0 sf h kc ks T) {pc n : Nat} {ls : Array Slot} {st : List Value} {j : Nat} {v : Int32} {l' : Array Slot} (hd : decode bytes pc = .ok (.istore j, 2)) (hl : storeLocals ls j (.int v) = some l') (hn : pc + 2 = n) (K : Run Z EL p e below s n0 fc fs Q (T.setTop (mkF m n l' st))) : Run Z EL p e below s n0 fc fs Q (T.setTop (mkF m pc ls (.int v :: st))) := by
  subst hn; exact K.st fun _ k => XS.istore X.hr X.x rfl (X.dc hd) rfl hl k
theorem lloadN (X : Sd kn Z a0 EL y bytes maxL ret p l e R s m args below meth c n0 sf h kc ks T) {pc n : Nat} {ls : Array Slot} {st : List Value} {k : Fin 4} {v : Int64} (hd : decode bytes pc = .ok (.lload_n k, 1)) (hl : ls[k.val]? = some (.val (.long v))) (hn : pc + 1 = n) (K : Run Z EL p e below s n0 fc fs Q (T.setTop (mkF m n ls (.long v :: st)))) : Run Z EL p e below s n0 fc fs Q (T.setTop (mkF m pc ls st)) := by
  subst hn; exact K.st fun _ k => XS.lloadN X.hr X.x rfl (X.dc hd) hl k
theorem lload (X : Sd kn Z a0 EL y bytes maxL ret p l e R s m args below meth c n0 sf h kc ks T) {pc n : Nat} {ls : Array Slot} {st : List Value} {j : Nat} {v : Int64} (hd : decode bytes pc = .ok (.lload j, 2)) (hl : ls[j]? = some (.val (.long v))) (hn : pc + 2 = n) (K : Run Z EL p e below s n0 fc fs Q (T.setTop (mkF m n ls (.long v :: st)))) : Run Z EL p e below s n0 fc fs Q (T.setTop (mkF m pc ls st)) := by
  subst hn; exact K.st fun _ k => XS.lload X.hr X.x rfl (X.dc hd) hl k
theorem lstoreN (X : Sd kn Z a0 EL y bytes maxL ret p l e R s m args below meth c n0 sf h kc ks T) {pc n : Nat} {ls : Array Slot} {st : List Value} {k : Fin 4} {v : Int64} {l' : Array Slot} (hd : decode bytes pc = .ok (.lstore_n k, 1)) (hl : storeLocals ls k.val (.long v) = some l') (hn : pc + 1 = n) (K : Run Z EL p e below s n0 fc fs Q (T.setTop (mkF m n l' st))) : Run Z EL p e below s n0 fc fs Q (T.setTop (mkF m pc ls (.long v :: st))) := by
  subst hn; exact K.st fun _ k => XS.lstoreN X.hr X.x rfl (X.dc hd) rfl hl k
theorem lstore (X : Sd kn Z a0 EL y bytes maxL ret p l e R s m args below meth c n0 sf h kc ks T) {pc n : Nat} {ls : Array Slot} {st : List Value} {j : Nat} {v : Int64} {l' : Array Slot} (hd : decode bytes pc = .ok (.lstore j, 2)) (hl : storeLocals ls j (.long v) = some l') (hn : pc + 2 = n) (K : Run Z EL p e below s n0 fc fs Q (T.setTop (mkF m n l' st))) : Run Z EL p e below s n0 fc fs Q (T.setTop (mkF m pc ls (.long v :: st))) := by
  subst hn; exact K.st fun _ k => XS.lstore X.hr X.x rfl (X.dc hd) rfl hl k
theorem aloadN (X : Sd kn Z a0 EL y bytes maxL ret p l e R s m args below meth c n0 sf h kc ks T) {pc n : Nat} {ls : Array Slot} {st : List Value} {k : Fin 4} {v : Value} (hd : decode bytes pc = .ok (.aload_n k, 1)) (hl : ls[k.val]? = some (.val v)) (hv : v.isRef = true) (hn : pc + 1 = n) (K : Run Z EL p e below s n0 fc fs Q (T.setTop (mkF m n ls (v :: st)))) : Run Z EL p e below s n0 fc fs Q (T.setTop (mkF m pc ls st)) := by
  subst hn; exact K.st fun _ k => XS.aloadN X.hr X.x rfl (X.dc hd) hl hv k
theorem aload (X : Sd kn Z a0 EL y bytes maxL ret p l e R s m args below meth c n0 sf h kc ks T) {pc n : Nat} {ls : Array Slot} {st : List Value} {j : Nat} {v : Value} (hd : decode bytes pc = .ok (.aload j, 2)) (hl : ls[j]? = some (.val v)) (hv : v.isRef = true) (hn : pc + 2 = n) (K : Run Z EL p e below s n0 fc fs Q (T.setTop (mkF m n ls (v :: st)))) : Run Z EL p e below s n0 fc fs Q (T.setTop (mkF m pc ls st)) := by
  subst hn; exact K.st fun _ k => XS.aload X.hr X.x rfl (X.dc hd) hl hv k
theorem astoreN (X : Sd kn Z a0 EL y bytes maxL ret p l e R s m args below meth c n0 sf h kc ks T) {pc n : Nat} {ls : Array Slot} {st : List Value} {k : Fin 4} {v : Value} {l' : Array Slot} (hd : decode bytes pc = .ok (.astore_n k, 1)) (hv : v.isRef = true) (hl : storeLocals ls k.val v = some l') (hn : pc + 1 = n) (K : Run Z EL p e below s n0 fc fs Q (T.setTop (mkF m n l' st))) : Run Z EL p e below s n0 fc fs Q (T.setTop (mkF m pc ls (v :: st))) := by
  subst hn; exact K.st fun _ k => XS.astoreN X.hr X.x rfl (X.dc hd) rfl hv hl k
theorem astore (X : Sd kn Z a0 EL y bytes maxL ret p l e R s m args below meth c n0 sf h kc ks T) {pc n : Nat} {ls : Array Slot} {st : List Value} {j : Nat} {v : Value} {l' : Array Slot} (hd : decode bytes pc = .ok (.astore j, 2)) (hv : v.isRef = true) (hl : storeLocals ls j v = some l') (hn : pc + 2 = n) (K : Run Z EL p e below s n0 fc fs Q (T.setTop (mkF m n l' st))) : Run Z EL p e below s n0 fc fs Q (T.setTop (mkF m pc ls (v :: st))) := by
  subst hn; exact K.st fun _ k => XS.astore X.hr X.x rfl (X.dc hd) rfl hv hl k
theorem iconst (X : Sd kn Z a0 EL y bytes maxL ret p l e R s m args below meth c n0 sf h kc ks T) {pc n : Nat} {ls : Array Slot} {st : List Value} {i : Int} {z : Int32} (hd : decode bytes pc = .ok (.iconst i, 1)) (hz : Int32.ofInt i = z) (hn : pc + 1 = n) (K : Run Z EL p e below s n0 fc fs Q (T.setTop (mkF m n ls (.int z :: st)))) : Run Z EL p e below s n0 fc fs Q (T.setTop (mkF m pc ls st)) := by
  subst hn hz; exact K.st fun _ k => XS.iconst X.hr X.x rfl (X.dc hd) k
theorem bipush (X : Sd kn Z a0 EL y bytes maxL ret p l e R s m args below meth c n0 sf h kc ks T) {pc n : Nat} {ls : Array Slot} {st : List Value} {i : Int} {z : Int32} (hd : decode bytes pc = .ok (.bipush i, 2)) (hz : (Int8.ofInt i).toInt32 = z) (hn : pc + 2 = n) (K : Run Z EL p e below s n0 fc fs Q (T.setTop (mkF m n ls (.int z :: st)))) : Run Z EL p e below s n0 fc fs Q (T.setTop (mkF m pc ls st)) := by
  subst hn hz; exact K.st fun _ k => XS.bipush X.hr X.x rfl (X.dc hd) k
theorem sipush (X : Sd kn Z a0 EL y bytes maxL ret p l e R s m args below meth c n0 sf h kc ks T) {pc n : Nat} {ls : Array Slot} {st : List Value} {i : Int} {z : Int32} (hd : decode bytes pc = .ok (.sipush i, 3)) (hz : (Int16.ofInt i).toInt32 = z) (hn : pc + 3 = n) (K : Run Z EL p e below s n0 fc fs Q (T.setTop (mkF m n ls (.int z :: st)))) : Run Z EL p e below s n0 fc fs Q (T.setTop (mkF m pc ls st)) := by
  subst hn hz; exact K.st fun _ k => XS.sipush X.hr X.x rfl (X.dc hd) k
theorem anull (X : Sd kn Z a0 EL y bytes maxL ret p l e R s m args below meth c n0 sf h kc ks T) {pc n : Nat} {ls : Array Slot} {st : List Value}  (hd : decode bytes pc = .ok (.aconst_null, 1)) (hn : pc + 1 = n) (K : Run Z EL p e below s n0 fc fs Q (T.setTop (mkF m n ls (.null :: st)))) : Run Z EL p e below s n0 fc fs Q (T.setTop (mkF m pc ls st)) := by
  subst hn; exact K.st fun _ k => XS.aconstNull X.hr X.x rfl (X.dc hd) k
theorem iadd (X : Sd kn Z a0 EL y bytes maxL ret p l e R s m args below meth c n0 sf h kc ks T) {pc n : Nat} {ls : Array Slot} {st : List Value} {u v : Int32} (hd : decode bytes pc = .ok (.iadd, 1)) (hn : pc + 1 = n) (K : Run Z EL p e below s n0 fc fs Q (T.setTop (mkF m n ls (.int (u + v) :: st)))) : Run Z EL p e below s n0 fc fs Q (T.setTop (mkF m pc ls (.int v :: .int u :: st))) := by
  subst hn; exact K.st fun _ k => XS.iadd X.hr X.x rfl (X.dc hd) rfl k
theorem ladd (X : Sd kn Z a0 EL y bytes maxL ret p l e R s m args below meth c n0 sf h kc ks T) {pc n : Nat} {ls : Array Slot} {st : List Value} {u v : Int64} (hd : decode bytes pc = .ok (.ladd, 1)) (hn : pc + 1 = n) (K : Run Z EL p e below s n0 fc fs Q (T.setTop (mkF m n ls (.long (u + v) :: st)))) : Run Z EL p e below s n0 fc fs Q (T.setTop (mkF m pc ls (.long v :: .long u :: st))) := by
  subst hn; exact K.st fun _ k => XS.ladd X.hr X.x rfl (X.dc hd) rfl k
theorem isub (X : Sd kn Z a0 EL y bytes maxL ret p l e R s m args below meth c n0 sf h kc ks T) {pc n : Nat} {ls : Array Slot} {st : List Value} {u v : Int32} (hd : decode bytes pc = .ok (.isub, 1)) (hn : pc + 1 = n) (K : Run Z EL p e below s n0 fc fs Q (T.setTop (mkF m n ls (.int (u - v) :: st)))) : Run Z EL p e below s n0 fc fs Q (T.setTop (mkF m pc ls (.int v :: .int u :: st))) := by
  subst hn; exact K.st fun _ k => XS.isub X.hr X.x rfl (X.dc hd) rfl k
theorem lsub (X : Sd kn Z a0 EL y bytes maxL ret p l e R s m args below meth c n0 sf h kc ks T) {pc n : Nat} {ls : Array Slot} {st : List Value} {u v : Int64} (hd : decode bytes pc = .ok (.lsub, 1)) (hn : pc + 1 = n) (K : Run Z EL p e below s n0 fc fs Q (T.setTop (mkF m n ls (.long (u - v) :: st)))) : Run Z EL p e below s n0 fc fs Q (T.setTop (mkF m pc ls (.long v :: .long u :: st))) := by
  subst hn; exact K.st fun _ k => XS.lsub X.hr X.x rfl (X.dc hd) rfl k
theorem imul (X : Sd kn Z a0 EL y bytes maxL ret p l e R s m args below meth c n0 sf h kc ks T) {pc n : Nat} {ls : Array Slot} {st : List Value} {u v : Int32} (hd : decode bytes pc = .ok (.imul, 1)) (hn : pc + 1 = n) (K : Run Z EL p e below s n0 fc fs Q (T.setTop (mkF m n ls (.int (u * v) :: st)))) : Run Z EL p e below s n0 fc fs Q (T.setTop (mkF m pc ls (.int v :: .int u :: st))) := by
  subst hn; exact K.st fun _ k => XS.imul X.hr X.x rfl (X.dc hd) rfl k
theorem lmul (X : Sd kn Z a0 EL y bytes maxL ret p l e R s m args below meth c n0 sf h kc ks T) {pc n : Nat} {ls : Array Slot} {st : List Value} {u v : Int64} (hd : decode bytes pc = .ok (.lmul, 1)) (hn : pc + 1 = n) (K : Run Z EL p e below s n0 fc fs Q (T.setTop (mkF m n ls (.long (u * v) :: st)))) : Run Z EL p e below s n0 fc fs Q (T.setTop (mkF m pc ls (.long v :: .long u :: st))) := by
  subst hn; exact K.st fun _ k => XS.lmul X.hr X.x rfl (X.dc hd) rfl k
theorem iand (X : Sd kn Z a0 EL y bytes maxL ret p l e R s m args below meth c n0 sf h kc ks T) {pc n : Nat} {ls : Array Slot} {st : List Value} {u v : Int32} (hd : decode bytes pc = .ok (.iand, 1)) (hn : pc + 1 = n) (K : Run Z EL p e below s n0 fc fs Q (T.setTop (mkF m n ls (.int (u &&& v) :: st)))) : Run Z EL p e below s n0 fc fs Q (T.setTop (mkF m pc ls (.int v :: .int u :: st))) := by
  subst hn; exact K.st fun _ k => XS.iand X.hr X.x rfl (X.dc hd) rfl k
theorem land (X : Sd kn Z a0 EL y bytes maxL ret p l e R s m args below meth c n0 sf h kc ks T) {pc n : Nat} {ls : Array Slot} {st : List Value} {u v : Int64} (hd : decode bytes pc = .ok (.land, 1)) (hn : pc + 1 = n) (K : Run Z EL p e below s n0 fc fs Q (T.setTop (mkF m n ls (.long (u &&& v) :: st)))) : Run Z EL p e below s n0 fc fs Q (T.setTop (mkF m pc ls (.long v :: .long u :: st))) := by
  subst hn; exact K.st fun _ k => XS.land X.hr X.x rfl (X.dc hd) rfl k
theorem ior (X : Sd kn Z a0 EL y bytes maxL ret p l e R s m args below meth c n0 sf h kc ks T) {pc n : Nat} {ls : Array Slot} {st : List Value} {u v : Int32} (hd : decode bytes pc = .ok (.ior, 1)) (hn : pc + 1 = n) (K : Run Z EL p e below s n0 fc fs Q (T.setTop (mkF m n ls (.int (u ||| v) :: st)))) : Run Z EL p e below s n0 fc fs Q (T.setTop (mkF m pc ls (.int v :: .int u :: st))) := by
  subst hn; exact K.st fun _ k => XS.ior X.hr X.x rfl (X.dc hd) rfl k
theorem lor (X : Sd kn Z a0 EL y bytes maxL ret p l e R s m args below meth c n0 sf h kc ks T) {pc n : Nat} {ls : Array Slot} {st : List Value} {u v : Int64} (hd : decode bytes pc = .ok (.lor, 1)) (hn : pc + 1 = n) (K : Run Z EL p e below s n0 fc fs Q (T.setTop (mkF m n ls (.long (u ||| v) :: st)))) : Run Z EL p e below s n0 fc fs Q (T.setTop (mkF m pc ls (.long v :: .long u :: st))) := by
  subst hn; exact K.st fun _ k => XS.lor X.hr X.x rfl (X.dc hd) rfl k
theorem ixor (X : Sd kn Z a0 EL y bytes maxL ret p l e R s m args below meth c n0 sf h kc ks T) {pc n : Nat} {ls : Array Slot} {st : List Value} {u v : Int32} (hd : decode bytes pc = .ok (.ixor, 1)) (hn : pc + 1 = n) (K : Run Z EL p e below s n0 fc fs Q (T.setTop (mkF m n ls (.int (u ^^^ v) :: st)))) : Run Z EL p e below s n0 fc fs Q (T.setTop (mkF m pc ls (.int v :: .int u :: st))) := by
  subst hn; exact K.st fun _ k => XS.ixor X.hr X.x rfl (X.dc hd) rfl k
theorem lxor (X : Sd kn Z a0 EL y bytes maxL ret p l e R s m args below meth c n0 sf h kc ks T) {pc n : Nat} {ls : Array Slot} {st : List Value} {u v : Int64} (hd : decode bytes pc = .ok (.lxor, 1)) (hn : pc + 1 = n) (K : Run Z EL p e below s n0 fc fs Q (T.setTop (mkF m n ls (.long (u ^^^ v) :: st)))) : Run Z EL p e below s n0 fc fs Q (T.setTop (mkF m pc ls (.long v :: .long u :: st))) := by
  subst hn; exact K.st fun _ k => XS.lxor X.hr X.x rfl (X.dc hd) rfl k
theorem ishl (X : Sd kn Z a0 EL y bytes maxL ret p l e R s m args below meth c n0 sf h kc ks T) {pc n : Nat} {ls : Array Slot} {st : List Value} {u v : Int32} (hd : decode bytes pc = .ok (.ishl, 1)) (hn : pc + 1 = n) (K : Run Z EL p e below s n0 fc fs Q (T.setTop (mkF m n ls (.int (u <<< (v &&& 31)) :: st)))) : Run Z EL p e below s n0 fc fs Q (T.setTop (mkF m pc ls (.int v :: .int u :: st))) := by
  subst hn; exact K.st fun _ k => XS.ishl X.hr X.x rfl (X.dc hd) rfl k
theorem ishr (X : Sd kn Z a0 EL y bytes maxL ret p l e R s m args below meth c n0 sf h kc ks T) {pc n : Nat} {ls : Array Slot} {st : List Value} {u v : Int32} (hd : decode bytes pc = .ok (.ishr, 1)) (hn : pc + 1 = n) (K : Run Z EL p e below s n0 fc fs Q (T.setTop (mkF m n ls (.int (u >>> (v &&& 31)) :: st)))) : Run Z EL p e below s n0 fc fs Q (T.setTop (mkF m pc ls (.int v :: .int u :: st))) := by
  subst hn; exact K.st fun _ k => XS.ishr X.hr X.x rfl (X.dc hd) rfl k
theorem iushr (X : Sd kn Z a0 EL y bytes maxL ret p l e R s m args below meth c n0 sf h kc ks T) {pc n : Nat} {ls : Array Slot} {st : List Value} {u v : Int32} (hd : decode bytes pc = .ok (.iushr, 1)) (hn : pc + 1 = n) (K : Run Z EL p e below s n0 fc fs Q (T.setTop (mkF m n ls (.int ((u.toUInt32 >>> (v &&& 31).toUInt32).toInt32) :: st)))) : Run Z EL p e below s n0 fc fs Q (T.setTop (mkF m pc ls (.int v :: .int u :: st))) := by
  subst hn; exact K.st fun _ k => XS.iushr X.hr X.x rfl (X.dc hd) rfl k
theorem lshl (X : Sd kn Z a0 EL y bytes maxL ret p l e R s m args below meth c n0 sf h kc ks T) {pc n : Nat} {ls : Array Slot} {st : List Value} {u : Int64} {v : Int32} (hd : decode bytes pc = .ok (.lshl, 1)) (hn : pc + 1 = n) (K : Run Z EL p e below s n0 fc fs Q (T.setTop (mkF m n ls (.long (u <<< (v &&& 0x3f).toInt64) :: st)))) : Run Z EL p e below s n0 fc fs Q (T.setTop (mkF m pc ls (.int v :: .long u :: st))) := by
  subst hn; exact K.st fun _ k => XS.lshl X.hr X.x rfl (X.dc hd) rfl k
theorem lshr (X : Sd kn Z a0 EL y bytes maxL ret p l e R s m args below meth c n0 sf h kc ks T) {pc n : Nat} {ls : Array Slot} {st : List Value} {u : Int64} {v : Int32} (hd : decode bytes pc = .ok (.lshr, 1)) (hn : pc + 1 = n) (K : Run Z EL p e below s n0 fc fs Q (T.setTop (mkF m n ls (.long (u >>> (v &&& 0x3f).toInt64) :: st)))) : Run Z EL p e below s n0 fc fs Q (T.setTop (mkF m pc ls (.int v :: .long u :: st))) := by
  subst hn; exact K.st fun _ k => XS.lshr X.hr X.x rfl (X.dc hd) rfl k
theorem lushr (X : Sd kn Z a0 EL y bytes maxL ret p l e R s m args below meth c n0 sf h kc ks T) {pc n : Nat} {ls : Array Slot} {st : List Value} {u : Int64} {v : Int32} (hd : decode bytes pc = .ok (.lushr, 1)) (hn : pc + 1 = n) (K : Run Z EL p e below s n0 fc fs Q (T.setTop (mkF m n ls (.long ((u.toUInt64 >>> (v &&& 0x3f).toInt64.toUInt64).toInt64) :: st)))) : Run Z EL p e below s n0 fc fs Q (T.setTop (mkF m pc ls (.int v :: .long u :: st))) := by
  subst hn; exact K.st fun _ k => XS.lushr X.hr X.x rfl (X.dc hd) rfl k
theorem ineg (X : Sd kn Z a0 EL y bytes maxL ret p l e R s m args below meth c n0 sf h kc ks T) {pc n : Nat} {ls : Array Slot} {st : List Value} {u : Int32} (hd : decode bytes pc = .ok (.ineg, 1)) (hn : pc + 1 = n) (K : Run Z EL p e below s n0 fc fs Q (T.setTop (mkF m n ls (.int (-u) :: st)))) : Run Z EL p e below s n0 fc fs Q (T.setTop (mkF m pc ls (.int u :: st))) := by
  subst hn; exact K.st fun _ k => XS.ineg X.hr X.x rfl (X.dc hd) rfl k
theorem i2l (X : Sd kn Z a0 EL y bytes maxL ret p l e R s m args below meth c n0 sf h kc ks T) {pc n : Nat} {ls : Array Slot} {st : List Value} {u : Int32} (hd : decode bytes pc = .ok (.i2l, 1)) (hn : pc + 1 = n) (K : Run Z EL p e below s n0 fc fs Q (T.setTop (mkF m n ls (.long u.toInt64 :: st)))) : Run Z EL p e below s n0 fc fs Q (T.setTop (mkF m pc ls (.int u :: st))) := by
  subst hn; exact K.st fun _ k => XS.i2l X.hr X.x rfl (X.dc hd) rfl k
theorem l2i (X : Sd kn Z a0 EL y bytes maxL ret p l e R s m args below meth c n0 sf h kc ks T) {pc n : Nat} {ls : Array Slot} {st : List Value} {u : Int64} (hd : decode bytes pc = .ok (.l2i, 1)) (hn : pc + 1 = n) (K : Run Z EL p e below s n0 fc fs Q (T.setTop (mkF m n ls (.int u.toInt32 :: st)))) : Run Z EL p e below s n0 fc fs Q (T.setTop (mkF m pc ls (.long u :: st))) := by
  subst hn; exact K.st fun _ k => XS.l2i X.hr X.x rfl (X.dc hd) rfl k
theorem i2b (X : Sd kn Z a0 EL y bytes maxL ret p l e R s m args below meth c n0 sf h kc ks T) {pc n : Nat} {ls : Array Slot} {st : List Value} {u : Int32} (hd : decode bytes pc = .ok (.i2b, 1)) (hn : pc + 1 = n) (K : Run Z EL p e below s n0 fc fs Q (T.setTop (mkF m n ls (.int u.toInt8.toInt32 :: st)))) : Run Z EL p e below s n0 fc fs Q (T.setTop (mkF m pc ls (.int u :: st))) := by
  subst hn; exact K.st fun _ k => XS.i2b X.hr X.x rfl (X.dc hd) rfl k
theorem i2s (X : Sd kn Z a0 EL y bytes maxL ret p l e R s m args below meth c n0 sf h kc ks T) {pc n : Nat} {ls : Array Slot} {st : List Value} {u : Int32} (hd : decode bytes pc = .ok (.i2s, 1)) (hn : pc + 1 = n) (K : Run Z EL p e below s n0 fc fs Q (T.setTop (mkF m n ls (.int u.toInt16.toInt32 :: st)))) : Run Z EL p e below s n0 fc fs Q (T.setTop (mkF m pc ls (.int u :: st))) := by
  subst hn; exact K.st fun _ k => XS.i2s X.hr X.x rfl (X.dc hd) rfl k
theorem i2c (X : Sd kn Z a0 EL y bytes maxL ret p l e R s m args below meth c n0 sf h kc ks T) {pc n : Nat} {ls : Array Slot} {st : List Value} {u : Int32} (hd : decode bytes pc = .ok (.i2c, 1)) (hn : pc + 1 = n) (K : Run Z EL p e below s n0 fc fs Q (T.setTop (mkF m n ls (.int u.toUInt32.toUInt16.toUInt32.toInt32 :: st)))) : Run Z EL p e below s n0 fc fs Q (T.setTop (mkF m pc ls (.int u :: st))) := by
  subst hn; exact K.st fun _ k => XS.i2c X.hr X.x rfl (X.dc hd) rfl k
theorem lcmp (X : Sd kn Z a0 EL y bytes maxL ret p l e R s m args below meth c n0 sf h kc ks T) {pc n : Nat} {ls : Array Slot} {st : List Value} {u v : Int64} (hd : decode bytes pc = .ok (.lcmp, 1)) (hn : pc + 1 = n) (K : Run Z EL p e below s n0 fc fs Q (T.setTop (mkF m n ls (.int (lcmpW u v) :: st)))) : Run Z EL p e below s n0 fc fs Q (T.setTop (mkF m pc ls (.long v :: .long u :: st))) := by
  subst hn; exact K.st fun _ k => XS.lcmp X.hr X.x rfl (X.dc hd) rfl k
theorem irem (X : Sd kn Z a0 EL y bytes maxL ret p l e R s m args below meth c n0 sf h kc ks T) {pc n : Nat} {ls : Array Slot} {st : List Value} {u v : Int32} (hd : decode bytes pc = .ok (.irem, 1)) (hv : v ≠ 0) (hn : pc + 1 = n) (K : Run Z EL p e below s n0 fc fs Q (T.setTop (mkF m n ls (.int (u % v) :: st)))) : Run Z EL p e below s n0 fc fs Q (T.setTop (mkF m pc ls (.int v :: .int u :: st))) := by
  subst hn; obtain ⟨s', L, i, j, Y, -⟩ := X.op; exact K.st fun _ k => iremM Y X.x rfl (X.dc hd) rfl hv k
theorem idiv (X : Sd kn Z a0 EL y bytes maxL ret p l e R s m args below meth c n0 sf h kc ks T) {pc n : Nat} {ls : Array Slot} {st : List Value} {u v : Int32} (hd : decode bytes pc = .ok (.idiv, 1)) (hv : v ≠ 0) (hn : pc + 1 = n) (K : Run Z EL p e below s n0 fc fs Q (T.setTop (mkF m n ls (.int (u / v) :: st)))) : Run Z EL p e below s n0 fc fs Q (T.setTop (mkF m pc ls (.int v :: .int u :: st))) := by
  subst hn; exact K.st fun _ k => XS.idiv X.hr X.x rfl (X.dc hd) rfl hv k
theorem dup (X : Sd kn Z a0 EL y bytes maxL ret p l e R s m args below meth c n0 sf h kc ks T) {pc n : Nat} {ls : Array Slot} {st : List Value} {v : Value} (hd : decode bytes pc = .ok (.dup, 1)) (hc : v.category = 1) (hn : pc + 1 = n) (K : Run Z EL p e below s n0 fc fs Q (T.setTop (mkF m n ls (v :: v :: st)))) : Run Z EL p e below s n0 fc fs Q (T.setTop (mkF m pc ls (v :: st))) := by
  subst hn; exact K.st fun _ k => XS.dup X.hr X.x rfl (X.dc hd) rfl hc k
theorem pop (X : Sd kn Z a0 EL y bytes maxL ret p l e R s m args below meth c n0 sf h kc ks T) {pc n : Nat} {ls : Array Slot} {st : List Value} {v : Value} (hd : decode bytes pc = .ok (.pop, 1)) (hc : v.category = 1) (hn : pc + 1 = n) (K : Run Z EL p e below s n0 fc fs Q (T.setTop (mkF m n ls st))) : Run Z EL p e below s n0 fc fs Q (T.setTop (mkF m pc ls (v :: st))) := by
  subst hn; exact K.st fun _ k => XS.pop X.hr X.x rfl (X.dc hd) rfl hc k
theorem dupX1 (X : Sd kn Z a0 EL y bytes maxL ret p l e R s m args below meth c n0 sf h kc ks T) {pc n : Nat} {ls : Array Slot} {st : List Value} {u v : Value} (hd : decode bytes pc = .ok (.dup_x1, 1)) (hc : u.category = 1) (hc' : v.category = 1) (hn : pc + 1 = n) (K : Run Z EL p e below s n0 fc fs Q (T.setTop (mkF m n ls (u :: v :: u :: st)))) : Run Z EL p e below s n0 fc fs Q (T.setTop (mkF m pc ls (u :: v :: st))) := by
  subst hn; exact K.st fun _ k => XS.dupX1 X.hr X.x rfl (X.dc hd) rfl hc hc' k
theorem iinc (X : Sd kn Z a0 EL y bytes maxL ret p l e R s m args below meth c n0 sf h kc ks T) {pc n j : Nat} {ls l' : Array Slot} {st : List Value} {i : Int} {z v u : Int32} (hd : decode bytes pc = .ok (.iinc j i, 3)) (hz : Int32.ofInt i = z) (hl : ls[j]? = some (.val (.int v))) (hu : v + z = u) (hl' : storeLocals ls j (.int u) = some l') (hn : pc + 3 = n) (K : Run Z EL p e below s n0 fc fs Q (T.setTop (mkF m n l' st))) : Run Z EL p e below s n0 fc fs Q (T.setTop (mkF m pc ls st)) := by
  subst hn hz hu; exact K.st fun _ k => XS.iinc X.hr X.x rfl (X.dc hd) hl hl' k
theorem ldc (X : Sd kn Z a0 EL y bytes maxL ret p l e R s m args below meth c n0 sf h kc ks T) {pc n index : Nat} {ls : Array Slot} {st : List Value} {v : Int32} (hd : decode bytes pc = .ok (.ldc index, 2)) (w : (Cond.constant y.cls index v).before a0 Z = true) (hn : pc + 2 = n) (K : Run Z EL p e below s n0 fc fs Q (T.setTop (mkF m n ls (.int v :: st)))) : Run Z EL p e below s n0 fc fs Q (T.setTop (mkF m pc ls st)) := by
  subst hn; obtain ⟨s', L, i, j, Y, r1, hZ, hown, -⟩ := X.op; exact K.st fun _ k => Y.ldcInt X.x hown (mvT hZ w) (g := mkF m pc ls st) rfl (X.dc hd) _ k
theorem ldc2 (X : Sd kn Z a0 EL y bytes maxL ret p l e R s m args below meth c n0 sf h kc ks T) {pc n index : Nat} {ls : Array Slot} {st : List Value} {v : Int64} (hd : decode bytes pc = .ok (.ldc2_w index, 3)) (w : (Cond.constantLong y.cls index v).before a0 Z = true) (hn : pc + 3 = n) (K : Run Z EL p e below s n0 fc fs Q (T.setTop (mkF m n ls (.long v :: st)))) : Run Z EL p e below s n0 fc fs Q (T.setTop (mkF m pc ls st)) := by
  subst hn; obtain ⟨s', L, i, j, Y, r1, hZ, hown, -⟩ := X.op; exact K.st fun _ k => Y.ldc2Long X.x hown (mvT hZ w) (g := mkF m pc ls st) rfl (X.dc hd) _ k
theorem goto (X : Sd kn Z a0 EL y bytes maxL ret p l e R s m args below meth c n0 sf h kc ks T) {pc n : Nat} {ls : Array Slot} {st : List Value} {o : Int} (hd : decode bytes pc = .ok (.goto o, 3)) (ho : 0 ≤ (pc : Int) + o) (hn : ((pc : Int) + o).toNat = n) (K : Run Z EL p e below s n0 fc fs Q (T.setTop (mkF m n ls st))) : Run Z EL p e below s n0 fc fs Q (T.setTop (mkF m pc ls st)) := K.st fun _ k => XS.goto X.hr X.x rfl rfl (X.dc hd) ho hn k
theorem ifc (X : Sd kn Z a0 EL y bytes maxL ret p l e R s m args below meth c n0 sf h kc ks T) {pc n1 n2 : Nat} {ls : Array Slot} {st : List Value} {cd : ClassFile.Cond} {x : Int32} {o : Int} (hd : decode bytes pc = .ok (.ifCond cd o, 3)) (ho : 0 ≤ (pc : Int) + o) (h1 : ((pc : Int) + o).toNat = n1) (h2 : pc + 3 = n2) (K1 : ifCond.holds cd x = true → Run Z EL p e below s n0 fc fs Q (T.setTop (mkF m n1 ls st))) (K2 : ifCond.holds cd x = false → Run Z EL p e below s n0 fc fs Q (T.setTop (mkF m n2 ls st))) : Run Z EL p e below s n0 fc fs Q (T.setTop (mkF m pc ls (.int x :: st))) := by
  cases hq : ifCond.holds cd x with
  | true => exact (K1 hq).st fun _ k => XS.ifYes X.hr X.x rfl rfl (X.dc hd) rfl hq ho h1 k
  | false => subst h2; exact (K2 hq).st fun _ k => XS.ifNo X.hr X.x rfl (X.dc hd) rfl hq k
theorem icc (X : Sd kn Z a0 EL y bytes maxL ret p l e R s m args below meth c n0 sf h kc ks T) {pc n1 n2 : Nat} {ls : Array Slot} {st : List Value} {cd : ClassFile.Cond} {x v : Int32} {o : Int} (hd : decode bytes pc = .ok (.if_icmp cd o, 3)) (ho : 0 ≤ (pc : Int) + o) (h1 : ((pc : Int) + o).toNat = n1) (h2 : pc + 3 = n2) (K1 : if_icmp.holds cd x v = true → Run Z EL p e below s n0 fc fs Q (T.setTop (mkF m n1 ls st))) (K2 : if_icmp.holds cd x v = false → Run Z EL p e below s n0 fc fs Q (T.setTop (mkF m n2 ls st))) : Run Z EL p e below s n0 fc fs Q (T.setTop (mkF m pc ls (.int v :: .int x :: st))) := by
  cases hq : if_icmp.holds cd x v with
  | true => exact (K1 hq).st fun _ k => XS.icmpYes X.hr X.x rfl rfl (X.dc hd) rfl hq ho h1 k
  | false => subst h2; exact (K2 hq).st fun _ k => XS.icmpNo X.hr X.x rfl (X.dc hd) rfl hq k
theorem ic_eq (X : Sd kn Z a0 EL y bytes maxL ret p l e R s m args below meth c n0 sf h kc ks T) {pc n1 n2 : Nat} {ls : Array Slot} {st : List Value} {x v : Int32} {o : Int} (hd : decode bytes pc = .ok (.if_icmp .eq o, 3)) (ho : 0 ≤ (pc : Int) + o) (h1 : ((pc : Int) + o).toNat = n1) (h2 : pc + 3 = n2) (K1 : x = v → Run Z EL p e below s n0 fc fs Q (T.setTop (mkF m n1 ls st))) (K2 : ¬ x = v → Run Z EL p e below s n0 fc fs Q (T.setTop (mkF m n2 ls st))) : Run Z EL p e below s n0 fc fs Q (T.setTop (mkF m pc ls (.int v :: .int x :: st))) := by
  exact icc X hd ho h1 h2 (fun hq => K1 (Classical.byContradiction fun w => by rw [(feq w).1] at hq; cases hq)) (fun hq => K2 (fun w => by rw [(teq w).1] at hq; cases hq))
theorem if_eq (X : Sd kn Z a0 EL y bytes maxL ret p l e R s m args below meth c n0 sf h kc ks T) {pc n1 n2 : Nat} {ls : Array Slot} {st : List Value} {x : Int32} {o : Int} (hd : decode bytes pc = .ok (.ifCond .eq o, 3)) (ho : 0 ≤ (pc : Int) + o) (h1 : ((pc : Int) + o).toNat = n1) (h2 : pc + 3 = n2) (K1 : x = 0 → Run Z EL p e below s n0 fc fs Q (T.setTop (mkF m n1 ls st))) (K2 : ¬ x = 0 → Run Z EL p e below s n0 fc fs Q (T.setTop (mkF m n2 ls st))) : Run Z EL p e below s n0 fc fs Q (T.setTop (mkF m pc ls (.int x :: st))) := by
  exact ifc X hd ho h1 h2 (fun hq => by rw [if0] at hq; exact K1 (Classical.byContradiction fun w => by rw [(feq w).1] at hq; cases hq)) (fun hq => by rw [if0] at hq; exact K2 (fun w => by rw [(teq w).1] at hq; cases hq))
theorem ic_ne (X : Sd kn Z a0 EL y bytes maxL ret p l e R s m args below meth c n0 sf h kc ks T) {pc n1 n2 : Nat} {ls : Array Slot} {st : List Value} {x v : Int32} {o : Int} (hd : decode bytes pc = .ok (.if_icmp .ne o, 3)) (ho : 0 ≤ (pc : Int) + o) (h1 : ((pc : Int) + o).toNat = n1) (h2 : pc + 3 = n2) (K1 : ¬ x = v → Run Z EL p e below s n0 fc fs Q (T.setTop (mkF m n1 ls st))) (K2 : x = v → Run Z EL p e below s n0 fc fs Q (T.setTop (mkF m n2 ls st))) : Run Z EL p e below s n0 fc fs Q (T.setTop (mkF m pc ls (.int v :: .int x :: st))) := by
  exact icc X hd ho h1 h2 (fun hq => K1 (fun w => by rw [(teq w).2] at hq; cases hq)) (fun hq => K2 (Classical.byContradiction fun w => by rw [(feq w).2] at hq; cases hq))
theorem if_ne (X : Sd kn Z a0 EL y bytes maxL ret p l e R s m args below meth c n0 sf h kc ks T) {pc n1 n2 : Nat} {ls : Array Slot} {st : List Value} {x : Int32} {o : Int} (hd : decode bytes pc = .ok (.ifCond .ne o, 3)) (ho : 0 ≤ (pc : Int) + o) (h1 : ((pc : Int) + o).toNat = n1) (h2 : pc + 3 = n2) (K1 : ¬ x = 0 → Run Z EL p e below s n0 fc fs Q (T.setTop (mkF m n1 ls st))) (K2 : x = 0 → Run Z EL p e below s n0 fc fs Q (T.setTop (mkF m n2 ls st))) : Run Z EL p e below s n0 fc fs Q (T.setTop (mkF m pc ls (.int x :: st))) := by
  exact ifc X hd ho h1 h2 (fun hq => by rw [if0] at hq; exact K1 (fun w => by rw [(teq w).2] at hq; cases hq)) (fun hq => by rw [if0] at hq; exact K2 (Classical.byContradiction fun w => by rw [(feq w).2] at hq; cases hq))
theorem ic_lt (X : Sd kn Z a0 EL y bytes maxL ret p l e R s m args below meth c n0 sf h kc ks T) {pc n1 n2 : Nat} {ls : Array Slot} {st : List Value} {x v : Int32} {o : Int} (hd : decode bytes pc = .ok (.if_icmp .lt o, 3)) (ho : 0 ≤ (pc : Int) + o) (h1 : ((pc : Int) + o).toNat = n1) (h2 : pc + 3 = n2) (K1 : x < v → Run Z EL p e below s n0 fc fs Q (T.setTop (mkF m n1 ls st))) (K2 : ¬ x < v → Run Z EL p e below s n0 fc fs Q (T.setTop (mkF m n2 ls st))) : Run Z EL p e below s n0 fc fs Q (T.setTop (mkF m pc ls (.int v :: .int x :: st))) := by
  exact icc X hd ho h1 h2 (fun hq => K1 (Classical.byContradiction fun w => by rw [(flt w).1] at hq; cases hq)) (fun hq => K2 (fun w => by rw [(tlt w).1] at hq; cases hq))
theorem if_lt (X : Sd kn Z a0 EL y bytes maxL ret p l e R s m args below meth c n0 sf h kc ks T) {pc n1 n2 : Nat} {ls : Array Slot} {st : List Value} {x : Int32} {o : Int} (hd : decode bytes pc = .ok (.ifCond .lt o, 3)) (ho : 0 ≤ (pc : Int) + o) (h1 : ((pc : Int) + o).toNat = n1) (h2 : pc + 3 = n2) (K1 : x < 0 → Run Z EL p e below s n0 fc fs Q (T.setTop (mkF m n1 ls st))) (K2 : ¬ x < 0 → Run Z EL p e below s n0 fc fs Q (T.setTop (mkF m n2 ls st))) : Run Z EL p e below s n0 fc fs Q (T.setTop (mkF m pc ls (.int x :: st))) := by
  exact ifc X hd ho h1 h2 (fun hq => by rw [if0] at hq; exact K1 (Classical.byContradiction fun w => by rw [(flt w).1] at hq; cases hq)) (fun hq => by rw [if0] at hq; exact K2 (fun w => by rw [(tlt w).1] at hq; cases hq))
theorem ic_ge (X : Sd kn Z a0 EL y bytes maxL ret p l e R s m args below meth c n0 sf h kc ks T) {pc n1 n2 : Nat} {ls : Array Slot} {st : List Value} {x v : Int32} {o : Int} (hd : decode bytes pc = .ok (.if_icmp .ge o, 3)) (ho : 0 ≤ (pc : Int) + o) (h1 : ((pc : Int) + o).toNat = n1) (h2 : pc + 3 = n2) (K1 : ¬ x < v → Run Z EL p e below s n0 fc fs Q (T.setTop (mkF m n1 ls st))) (K2 : x < v → Run Z EL p e below s n0 fc fs Q (T.setTop (mkF m n2 ls st))) : Run Z EL p e below s n0 fc fs Q (T.setTop (mkF m pc ls (.int v :: .int x :: st))) := by
  exact icc X hd ho h1 h2 (fun hq => K1 (fun w => by rw [(tlt w).2.1] at hq; cases hq)) (fun hq => K2 (Classical.byContradiction fun w => by rw [(flt w).2.1] at hq; cases hq))
theorem if_ge (X : Sd kn Z a0 EL y bytes maxL ret p l e R s m args below meth c n0 sf h kc ks T) {pc n1 n2 : Nat} {ls : Array Slot} {st : List Value} {x : Int32} {o : Int} (hd : decode bytes pc = .ok (.ifCond .ge o, 3)) (ho : 0 ≤ (pc : Int) + o) (h1 : ((pc : Int) + o).toNat = n1) (h2 : pc + 3 = n2) (K1 : ¬ x < 0 → Run Z EL p e below s n0 fc fs Q (T.setTop (mkF m n1 ls st))) (K2 : x < 0 → Run Z EL p e below s n0 fc fs Q (T.setTop (mkF m n2 ls st))) : Run Z EL p e below s n0 fc fs Q (T.setTop (mkF m pc ls (.int x :: st))) := by
  exact ifc X hd ho h1 h2 (fun hq => by rw [if0] at hq; exact K1 (fun w => by rw [(tlt w).2.1] at hq; cases hq)) (fun hq => by rw [if0] at hq; exact K2 (Classical.byContradiction fun w => by rw [(flt w).2.1] at hq; cases hq))
theorem ic_gt (X : Sd kn Z a0 EL y bytes maxL ret p l e R s m args below meth c n0 sf h kc ks T) {pc n1 n2 : Nat} {ls : Array Slot} {st : List Value} {x v : Int32} {o : Int} (hd : decode bytes pc = .ok (.if_icmp .gt o, 3)) (ho : 0 ≤ (pc : Int) + o) (h1 : ((pc : Int) + o).toNat = n1) (h2 : pc + 3 = n2) (K1 : v < x → Run Z EL p e below s n0 fc fs Q (T.setTop (mkF m n1 ls st))) (K2 : ¬ v < x → Run Z EL p e below s n0 fc fs Q (T.setTop (mkF m n2 ls st))) : Run Z EL p e below s n0 fc fs Q (T.setTop (mkF m pc ls (.int v :: .int x :: st))) := by
  exact icc X hd ho h1 h2 (fun hq => K1 (Classical.byContradiction fun w => by rw [(flt w).2.2.1] at hq; cases hq)) (fun hq => K2 (fun w => by rw [(tlt w).2.2.1] at hq; cases hq))
theorem if_gt (X : Sd kn Z a0 EL y bytes maxL ret p l e R s m args below meth c n0 sf h kc ks T) {pc n1 n2 : Nat} {ls : Array Slot} {st : List Value} {x : Int32} {o : Int} (hd : decode bytes pc = .ok (.ifCond .gt o, 3)) (ho : 0 ≤ (pc : Int) + o) (h1 : ((pc : Int) + o).toNat = n1) (h2 : pc + 3 = n2) (K1 : 0 < x → Run Z EL p e below s n0 fc fs Q (T.setTop (mkF m n1 ls st))) (K2 : ¬ 0 < x → Run Z EL p e below s n0 fc fs Q (T.setTop (mkF m n2 ls st))) : Run Z EL p e below s n0 fc fs Q (T.setTop (mkF m pc ls (.int x :: st))) := by
  exact ifc X hd ho h1 h2 (fun hq => by rw [if0] at hq; exact K1 (Classical.byContradiction fun w => by rw [(flt w).2.2.1] at hq; cases hq)) (fun hq => by rw [if0] at hq; exact K2 (fun w => by rw [(tlt w).2.2.1] at hq; cases hq))
theorem ic_le (X : Sd kn Z a0 EL y bytes maxL ret p l e R s m args below meth c n0 sf h kc ks T) {pc n1 n2 : Nat} {ls : Array Slot} {st : List Value} {x v : Int32} {o : Int} (hd : decode bytes pc = .ok (.if_icmp .le o, 3)) (ho : 0 ≤ (pc : Int) + o) (h1 : ((pc : Int) + o).toNat = n1) (h2 : pc + 3 = n2) (K1 : ¬ v < x → Run Z EL p e below s n0 fc fs Q (T.setTop (mkF m n1 ls st))) (K2 : v < x → Run Z EL p e below s n0 fc fs Q (T.setTop (mkF m n2 ls st))) : Run Z EL p e below s n0 fc fs Q (T.setTop (mkF m pc ls (.int v :: .int x :: st))) := by
  exact icc X hd ho h1 h2 (fun hq => K1 (fun w => by rw [(tlt w).2.2.2] at hq; cases hq)) (fun hq => K2 (Classical.byContradiction fun w => by rw [(flt w).2.2.2] at hq; cases hq))
theorem if_le (X : Sd kn Z a0 EL y bytes maxL ret p l e R s m args below meth c n0 sf h kc ks T) {pc n1 n2 : Nat} {ls : Array Slot} {st : List Value} {x : Int32} {o : Int} (hd : decode bytes pc = .ok (.ifCond .le o, 3)) (ho : 0 ≤ (pc : Int) + o) (h1 : ((pc : Int) + o).toNat = n1) (h2 : pc + 3 = n2) (K1 : ¬ 0 < x → Run Z EL p e below s n0 fc fs Q (T.setTop (mkF m n1 ls st))) (K2 : 0 < x → Run Z EL p e below s n0 fc fs Q (T.setTop (mkF m n2 ls st))) : Run Z EL p e below s n0 fc fs Q (T.setTop (mkF m pc ls (.int x :: st))) := by
  exact ifc X hd ho h1 h2 (fun hq => by rw [if0] at hq; exact K1 (fun w => by rw [(tlt w).2.2.2] at hq; cases hq)) (fun hq => by rw [if0] at hq; exact K2 (Classical.byContradiction fun w => by rw [(flt w).2.2.2] at hq; cases hq))
theorem ifnull_y (X : Sd kn Z a0 EL y bytes maxL ret p l e R s m args below meth c n0 sf h kc ks T) {pc n1 : Nat} {ls : Array Slot} {st : List Value} {o : Int} (hd : decode bytes pc = .ok (.ifnull o, 3)) (ho : 0 ≤ (pc : Int) + o) (h1 : ((pc : Int) + o).toNat = n1) (K : Run Z EL p e below s n0 fc fs Q (T.setTop (mkF m n1 ls st))) : Run Z EL p e below s n0 fc fs Q (T.setTop (mkF m pc ls (.null :: st))) := K.st fun _ k => XS.ifnullYes X.hr X.x rfl rfl (X.dc hd) rfl ho h1 k
theorem ifnull_n (X : Sd kn Z a0 EL y bytes maxL ret p l e R s m args below meth c n0 sf h kc ks T) {pc n2 : Nat} {ls : Array Slot} {st : List Value} {o : Int} {a : Addr} (hd : decode bytes pc = .ok (.ifnull o, 3)) (h2 : pc + 3 = n2) (K : Run Z EL p e below s n0 fc fs Q (T.setTop (mkF m n2 ls st))) : Run Z EL p e below s n0 fc fs Q (T.setTop (mkF m pc ls (.ref a :: st))) := by
  subst h2; exact K.st fun _ k => XS.ifnullNo X.hr X.x rfl (X.dc hd) rfl k
theorem ifnonnull_y (X : Sd kn Z a0 EL y bytes maxL ret p l e R s m args below meth c n0 sf h kc ks T) {pc n1 : Nat} {ls : Array Slot} {st : List Value} {o : Int} {a : Addr} (hd : decode bytes pc = .ok (.ifnonnull o, 3)) (ho : 0 ≤ (pc : Int) + o) (h1 : ((pc : Int) + o).toNat = n1) (K : Run Z EL p e below s n0 fc fs Q (T.setTop (mkF m n1 ls st))) : Run Z EL p e below s n0 fc fs Q (T.setTop (mkF m pc ls (.ref a :: st))) := K.st fun _ k => XS.ifnonnullYes X.hr X.x rfl rfl (X.dc hd) rfl ho h1 k
theorem ifnonnull_n (X : Sd kn Z a0 EL y bytes maxL ret p l e R s m args below meth c n0 sf h kc ks T) {pc n2 : Nat} {ls : Array Slot} {st : List Value} {o : Int} (hd : decode bytes pc = .ok (.ifnonnull o, 3)) (h2 : pc + 3 = n2) (K : Run Z EL p e below s n0 fc fs Q (T.setTop (mkF m n2 ls st))) : Run Z EL p e below s n0 fc fs Q (T.setTop (mkF m pc ls (.null :: st))) := by
  subst h2; exact K.st fun _ k => XS.ifnonnullNo X.hr X.x rfl (X.dc hd) rfl k
theorem ac_eq (X : Sd kn Z a0 EL y bytes maxL ret p l e R s m args below meth c n0 sf h kc ks T) {pc n1 n2 : Nat} {ls : Array Slot} {st : List Value} {x v : Value} {o : Int} (hd : decode bytes pc = .ok (.if_acmp .eq o, 3)) (hx : x.isRef = true) (hv : v.isRef = true) (ho : 0 ≤ (pc : Int) + o) (h1 : ((pc : Int) + o).toNat = n1) (h2 : pc + 3 = n2) (K1 : x = v → Run Z EL p e below s n0 fc fs Q (T.setTop (mkF m n1 ls st))) (K2 : ¬ x = v → Run Z EL p e below s n0 fc fs Q (T.setTop (mkF m n2 ls st))) : Run Z EL p e below s n0 fc fs Q (T.setTop (mkF m pc ls (v :: x :: st))) := by
  obtain ⟨s', L, i, j, Y, -⟩ := X.op
  by_cases hq : x = v
  · exact (K1 hq).st fun _ k => acmp Y X.x rfl hx hv rfl (X.dc hd) rfl (decide_eq_true hq) ho (by simp [acV, ← h1, ← h2]) k
  · exact (K2 hq).st fun _ k => acmp Y X.x rfl hx hv rfl (X.dc hd) rfl (decide_eq_false hq) ho (by simp [acV, ← h1, ← h2]) k
theorem ac_ne (X : Sd kn Z a0 EL y bytes maxL ret p l e R s m args below meth c n0 sf h kc ks T) {pc n1 n2 : Nat} {ls : Array Slot} {st : List Value} {x v : Value} {o : Int} (hd : decode bytes pc = .ok (.if_acmp .ne o, 3)) (hx : x.isRef = true) (hv : v.isRef = true) (ho : 0 ≤ (pc : Int) + o) (h1 : ((pc : Int) + o).toNat = n1) (h2 : pc + 3 = n2) (K1 : ¬ x = v → Run Z EL p e below s n0 fc fs Q (T.setTop (mkF m n1 ls st))) (K2 : x = v → Run Z EL p e below s n0 fc fs Q (T.setTop (mkF m n2 ls st))) : Run Z EL p e below s n0 fc fs Q (T.setTop (mkF m pc ls (v :: x :: st))) := by
  obtain ⟨s', L, i, j, Y, -⟩ := X.op
  by_cases hq : x = v
  · exact (K2 hq).st fun _ k => acmp Y X.x rfl hx hv rfl (X.dc hd) rfl (decide_eq_true hq) ho (by simp [acV, ← h1, ← h2]) k
  · exact (K1 hq).st fun _ k => acmp Y X.x rfl hx hv rfl (X.dc hd) rfl (decide_eq_false hq) ho (by simp [acV, ← h1, ← h2]) k
theorem getstatic (X : Sd kn Z a0 EL y bytes maxL ret p l e R s m args below meth c n0 sf h kc ks T) {pc n index : Nat} {ls : Array Slot} {st : List Value} {R0 O : String} (hd : decode bytes pc = .ok (.getstatic index, 3)) (w : (Cond.fieldLink y.cls index R0 f d).before a0 Z = true) (via : Via Z R0 O f d) (F : Sta Z h O f d v) (hn : pc + 3 = n) (K : ∀ T', Sd kn Z a0 EL y bytes maxL ret p l e R s m args below meth c n0 sf h kc ks T' → Run Z EL p e below s n0 fc fs Q (T'.setTop (mkF m n ls (v :: st)))) : Run Z EL p e below s n0 fc fs Q (T.setTop (mkF m pc ls st)) := by
  subst hn; obtain ⟨s', L', i', j', Y, r1, hZ, hown, hml, hnm, r3, r4, hx, kN, kE, kW⟩ := X.op
  obtain ⟨T', Y', e', stp⟩ := getS (host := "") Y hx hZ hown w via r1 F (g := mkF m pc ls st) rfl (X.dc hd)
  exact (K T' (kN T' Y' e')).st stp
theorem getfield (X : Sd kn Z a0 EL y bytes maxL ret p l e R s m args below meth c n0 sf h kc ks T) {pc n index : Nat} {ls : Array Slot} {st : List Value} {R0 O : String} (hd : decode bytes pc = .ok (.getfield index, 3)) (w : (Cond.fieldLink y.cls index R0 f d).before a0 Z = true) (via : Via Z R0 O f d) (F : Fld Z h a O f d v) (hn : pc + 3 = n) (K : ∀ T', Sd kn Z a0 EL y bytes maxL ret p l e R s m args below meth c n0 sf h kc ks T' → Run Z EL p e below s n0 fc fs Q (T'.setTop (mkF m n ls (v :: st)))) : Run Z EL p e below s n0 fc fs Q (T.setTop (mkF m pc ls (.ref a :: st))) := by
  subst hn; obtain ⟨s', L', i', j', Y, r1, hZ, hown, hml, hnm, r3, r4, hx, kN, kE, kW⟩ := X.op
  obtain ⟨T', Y', e', stp⟩ := getF (host := "") Y hx hZ hown (Or.inl w) via r1 F (g := mkF m pc ls (.ref a :: st)) rfl rfl (X.dc hd)
  exact (K T' (kN T' Y' e')).st stp
theorem checkcast (X : Sd kn Z a0 EL y bytes maxL ret p l e R s m args below meth c n0 sf h kc ks T) {pc n index : Nat} {ls : Array Slot} {st : List Value} (hd : decode bytes pc = .ok (.checkcast index, 3)) (w : (Cond.classLink y.cls index C).before a0 Z = true) (F : Ins Z h a C true) (hn : pc + 3 = n) (K : ∀ T', Sd kn Z a0 EL y bytes maxL ret p l e R s m args below meth c n0 sf h kc ks T' → Run Z EL p e below s n0 fc fs Q (T'.setTop (mkF m n ls (.ref a :: st)))) : Run Z EL p e below s n0 fc fs Q (T.setTop (mkF m pc ls (.ref a :: st))) := by
  subst hn; obtain ⟨s', L', i', j', Y, r1, hZ, hown, hml, hnm, r3, r4, hx, kN, kE, kW⟩ := X.op
  obtain ⟨T', Y', e', stp⟩ := castY Y hx hZ hown w r1 F (g := mkF m pc ls (.ref a :: st)) rfl rfl (X.dc hd)
  exact (K T' (kN T' Y' e')).st stp
theorem checkcastNull (X : Sd kn Z a0 EL y bytes maxL ret p l e R s m args below meth c n0 sf h kc ks T) {pc n index : Nat} {ls : Array Slot} {st : List Value} (hd : decode bytes pc = .ok (.checkcast index, 3)) (hn : pc + 3 = n) (K : Run Z EL p e below s n0 fc fs Q (T.setTop (mkF m n ls (.null :: st)))) : Run Z EL p e below s n0 fc fs Q (T.setTop (mkF m pc ls (.null :: st))) := by
  subst hn; obtain ⟨s', L', i', j', Y, r1, hZ, hown, hml, hnm, r3, r4, hx, kN, kE, kW⟩ := X.op
  exact K.st fun _ k => Y.checkcastNull hx (g := mkF m pc ls (.null :: st)) rfl rfl (X.dc hd) _ k
theorem instanceofY (X : Sd kn Z a0 EL y bytes maxL ret p l e R s m args below meth c n0 sf h kc ks T) {pc n index : Nat} {ls : Array Slot} {st : List Value} (hd : decode bytes pc = .ok (.instanceof index, 3)) (w : (Cond.classLink y.cls index C).before a0 Z = true) (F : Ins Z h a C true) (hn : pc + 3 = n) (K : ∀ T', Sd kn Z a0 EL y bytes maxL ret p l e R s m args below meth c n0 sf h kc ks T' → Run Z EL p e below s n0 fc fs Q (T'.setTop (mkF m n ls (.int 1 :: st)))) : Run Z EL p e below s n0 fc fs Q (T.setTop (mkF m pc ls (.ref a :: st))) := by
  subst hn; obtain ⟨s', L', i', j', Y, r1, hZ, hown, hml, hnm, r3, r4, hx, kN, kE, kW⟩ := X.op
  obtain ⟨T', Y', e', stp⟩ := instY Y hx hZ hown w r1 F (g := mkF m pc ls (.ref a :: st)) rfl rfl (X.dc hd)
  exact (K T' (kN T' Y' e')).st stp
theorem instanceofNull (X : Sd kn Z a0 EL y bytes maxL ret p l e R s m args below meth c n0 sf h kc ks T) {pc n index : Nat} {ls : Array Slot} {st : List Value} (hd : decode bytes pc = .ok (.instanceof index, 3)) (hn : pc + 3 = n) (K : Run Z EL p e below s n0 fc fs Q (T.setTop (mkF m n ls (.int 0 :: st)))) : Run Z EL p e below s n0 fc fs Q (T.setTop (mkF m pc ls (.null :: st))) := by
  subst hn; obtain ⟨s', L', i', j', Y, r1, hZ, hown, hml, hnm, r3, r4, hx, kN, kE, kW⟩ := X.op
  exact K.st fun _ k => Y.instanceofNull hx (g := mkF m pc ls (.null :: st)) rfl rfl (X.dc hd) _ k
theorem initObj (X : Sd kn Z a0 EL y bytes maxL ret p l e R s m args below meth c n0 sf h kc ks T) {pc n index W : Nat} {ls : Array Slot} {st : List Value} (hd : decode bytes pc = .ok (.invokespecial index, 3)) (w1 : (Cond.methodLink y.cls index Lib.objectInit).before a0 Z = true) (w2 : (Cond.instanceMethod Lib.objectInit).before a0 Z = true) (w3 : (Cond.code Lib.objectInit ⟨#[0xb1]⟩ 1 none).before a0 Z = true) (hsize : ls.size = maxL) (hf : 1 ≤ R.frames) (hW : (st.map fun v => v.category).sum ≤ W) (hl : W + 12 ≤ R.locals) (hn : pc + 3 = n) (K : ∀ T', Sd kn Z a0 EL y bytes maxL ret p l e R s m args below meth c n0 sf h kc ks T' → Run Z EL p e below s n0 fc fs Q (T'.setTop (mkF m n ls st))) : Run Z EL p e below s n0 fc fs Q (T.setTop (mkF m pc ls (.ref a :: st))) := by
  subst hn; obtain ⟨s', L', i', j', Y, r1, hZ, hown, hml, hnm, r3, r4, hx, kN, kE, kW⟩ := X.op
  obtain ⟨T', Y', e', stp⟩ := initO Y hx hZ hown w1 w2 w3 r1 (g := mkF m pc ls (.ref a :: st)) rfl (by rw [hml]; exact hsize) rfl (X.dc hd) hf (W := W) (by simpa using hW) hl
  exact (K T' (kN T' Y' e')).st stp
def Ark (Z : State) (h : Heap) (a : Addr) (ty : FieldType) (vs : List Value) : Prop := ∃ c : Cell, Arr Z h a c ty ∧ c.slots = vs.toArray ∧ vs.length < 2147483648 ∧ ∀ v ∈ vs, fits ty v = true
theorem Ark.lt (A : Ark Z h a ty vs) : a < h.size := by obtain ⟨c, A, -⟩ := A; exact A.lt
theorem Ark.ext (A : Ark Z h a ty vs) (E : Ext h h') : Ark Z h' a ty vs := by obtain ⟨c, A, r⟩ := A; exact ⟨c, A.ext E, r⟩
theorem Ark.keep (A : Ark Z h a ty vs) (K : Keep h h' wl) (q : a ∉ wl) : Ark Z h' a ty vs := by obtain ⟨c, A, r⟩ := A; exact ⟨c, ⟨K.2.1 a c A.1 q, A.2⟩, r⟩
theorem Ark.len (A : Ark Z h a ty vs) : vs.length < 2147483648 := by obtain ⟨c, A, r1, r2, -⟩ := A; exact r2
theorem Ark.fit (A : Ark Z h a ty vs) : ∀ v ∈ vs, fits ty v = true := by obtain ⟨c, A, r1, r2, r3⟩ := A; exact r3
theorem Ark.ofArv {k : ClassId} {z : Int32} {dv : Value} (A : Arv Z h a k ty z vs dv) (hl : z.toNatClampNeg = vs.length) : Ark Z h a ty vs := by
  obtain ⟨c, A, q1, S, q3, H, G⟩ := A
  have hb : vs.length < 2147483648 := by rw [← hl]; exact (back32 q3).2
  have e1 : c.slots = vs.toArray := by
    apply Array.ext
    · simp [S, hl]
    · intro i h1 h2
      have q := H i h1
      rw [Array.getElem?_eq_getElem h1] at q
      have h3 : i < vs.length := by simpa using h2
      simpa [List.getD, List.getElem?_eq_getElem h3] using Option.some.inj q
  refine ⟨c, A, e1, hb, fun v hv => ?_⟩
  obtain ⟨i, hi, rfl⟩ := List.getElem_of_mem hv
  have q := G i (by rw [S, hl]; exact hi)
  simpa [List.getD, List.getElem?_eq_getElem hi] using q
theorem kExt (E : Ext h h') : Keep h h' [] := (Keep.refl h []).ext E
theorem nin1 (q : a ≠ b) : a ∉ [b] := fun z => q (List.mem_singleton.mp z)
theorem oldLe (O : Old Z n0 h) : n0 ≤ h.size := by rw [← O.1]; exact O.2.1
theorem toNatC {j : Int32} {i : Nat} (hj : j.toInt = i) : j.toNatClampNeg = i ∧ ¬ j < 0 := by
  refine ⟨by simp [Int32.toNatClampNeg, hj], fun q => ?_⟩
  have q2 := Int32.lt_iff_toInt_lt.mp q
  rw [hj] at q2
  have : (0 : Int32).toInt = 0 := rfl
  omega
theorem arkIn {c : Cell} (r1 : c.slots = vs.toArray) {j : Int32} {i : Nat} (hj : j.toInt = i) (hv : vs[i]? = some v) : ¬ (j < 0 ∨ c.slots.size ≤ j.toNatClampNeg) ∧ c.slots[j.toNatClampNeg]? = some v := by
  obtain ⟨g1, g2⟩ := toNatC hj
  obtain ⟨hi, -⟩ := List.getElem?_eq_some_iff.mp hv
  refine ⟨fun q => ?_, by rw [g1, r1]; simpa using hv⟩
  rcases q with q | q
  · exact g2 q
  · rw [g1, r1] at q; simp at q; omega
theorem iaload (X : Sd kn Z a0 EL y bytes maxL ret p l e R s m args below meth c n0 sf h kc ks T) {pc n i : Nat} {ls : Array Slot} {st : List Value} {j : Int32} (hd : decode bytes pc = .ok (.iaload, 1)) (A : Ark Z h a .int vs) (hj : j.toInt = i) (hv : vs[i]? = some v) (hn : pc + 1 = n) (K : Run Z EL p e below s n0 fc fs Q (T.setTop (mkF m n ls (v :: st)))) : Run Z EL p e below s n0 fc fs Q (T.setTop (mkF m pc ls (.int j :: .ref a :: st))) := by
  subst hn; obtain ⟨s', L', i', j', Y, r1, hZ, hown, hml, hnm, r3, r4, hx, kN, kE, kW⟩ := X.op
  obtain ⟨c', A, s1, -⟩ := A
  obtain ⟨g1, g2⟩ := arkIn s1 hj hv
  exact K.st fun _ k => Y.iaload hx (j := j) (v := v) (by rw [r1]; exact A.1) (State.isArrayOf_alike hZ.alike A.2.1) A.2.2 g1 g2 (g := mkF m pc ls (.int j :: .ref a :: st)) rfl rfl (X.dc hd) _ k
theorem caload (X : Sd kn Z a0 EL y bytes maxL ret p l e R s m args below meth c n0 sf h kc ks T) {pc n i : Nat} {ls : Array Slot} {st : List Value} {j : Int32} (hd : decode bytes pc = .ok (.caload, 1)) (A : Ark Z h a .char vs) (hj : j.toInt = i) (hv : vs[i]? = some v) (hn : pc + 1 = n) (K : Run Z EL p e below s n0 fc fs Q (T.setTop (mkF m n ls (v :: st)))) : Run Z EL p e below s n0 fc fs Q (T.setTop (mkF m pc ls (.int j :: .ref a :: st))) := by
  subst hn; obtain ⟨s', L', i', j', Y, r1, hZ, hown, hml, hnm, r3, r4, hx, kN, kE, kW⟩ := X.op
  obtain ⟨c', A, s1, -⟩ := A
  obtain ⟨g1, g2⟩ := arkIn s1 hj hv
  exact K.st fun _ k => Y.caload hx (j := j) (v := v) (by rw [r1]; exact A.1) (State.isArrayOf_alike hZ.alike A.2.1) A.2.2 g1 g2 (g := mkF m pc ls (.int j :: .ref a :: st)) rfl rfl (X.dc hd) _ k
theorem baload (X : Sd kn Z a0 EL y bytes maxL ret p l e R s m args below meth c n0 sf h kc ks T) {pc n i : Nat} {ls : Array Slot} {st : List Value} {j : Int32} (hd : decode bytes pc = .ok (.baload, 1)) (A : Ark Z h a .byte vs) (hj : j.toInt = i) (hv : vs[i]? = some v) (hn : pc + 1 = n) (K : Run Z EL p e below s n0 fc fs Q (T.setTop (mkF m n ls (v :: st)))) : Run Z EL p e below s n0 fc fs Q (T.setTop (mkF m pc ls (.int j :: .ref a :: st))) := by
  subst hn; obtain ⟨s', L', i', j', Y, r1, hZ, hown, hml, hnm, r3, r4, hx, kN, kE, kW⟩ := X.op
  obtain ⟨c', A, s1, -⟩ := A
  obtain ⟨g1, g2⟩ := arkIn s1 hj hv
  exact K.st fun _ k => Y.baloadBytes hx (j := j) (v := v) (by rw [r1]; exact A.1) (State.isArrayOf_alike hZ.alike A.2.1) A.2.2 g1 g2 (g := mkF m pc ls (.int j :: .ref a :: st)) rfl rfl (X.dc hd) _ k
theorem aaload (X : Sd kn Z a0 EL y bytes maxL ret p l e R s m args below meth c n0 sf h kc ks T) {pc n i : Nat} {ls : Array Slot} {st : List Value} {j : Int32} (hd : decode bytes pc = .ok (.aaload, 1)) (A : Ark Z h a ty vs) (ht : ty.isReference = true) (hj : j.toInt = i) (hv : vs[i]? = some v) (hn : pc + 1 = n) (K : Run Z EL p e below s n0 fc fs Q (T.setTop (mkF m n ls (v :: st)))) : Run Z EL p e below s n0 fc fs Q (T.setTop (mkF m pc ls (.int j :: .ref a :: st))) := by
  subst hn; obtain ⟨s', L', i', j', Y, r1, hZ, hown, hml, hnm, r3, r4, hx, kN, kE, kW⟩ := X.op
  obtain ⟨c', A, s1, -⟩ := A
  obtain ⟨g1, g2⟩ := arkIn s1 hj hv
  exact K.st fun _ k => Y.aaload hx (j := j) (v := v) (by rw [r1]; exact A.1) (State.isArrayOf_alike hZ.alike A.2.1) ht A.2.2 g1 g2 (g := mkF m pc ls (.int j :: .ref a :: st)) rfl rfl (X.dc hd) _ k
theorem arraylength (X : Sd kn Z a0 EL y bytes maxL ret p l e R s m args below meth c n0 sf h kc ks T) {pc n : Nat} {ls : Array Slot} {st : List Value} {z : Int32} (hd : decode bytes pc = .ok (.arraylength, 1)) (A : Ark Z h a ty vs) (hz : vs.length.toInt32 = z) (hn : pc + 1 = n) (K : Run Z EL p e below s n0 fc fs Q (T.setTop (mkF m n ls (.int z :: st)))) : Run Z EL p e below s n0 fc fs Q (T.setTop (mkF m pc ls (.ref a :: st))) := by
  subst hn hz; obtain ⟨s', L', i', j', Y, r1, hZ, hown, hml, hnm, r3, r4, hx, kN, kE, kW⟩ := X.op
  obtain ⟨c', A, s1, -⟩ := A
  have e1 : c'.slots.size = vs.length := by rw [s1]; simp
  exact K.st fun _ k => Y.arraylength hx (by rw [r1]; exact A.1) (State.isArrayOf_alike hZ.alike A.2.1) (g := mkF m pc ls (.ref a :: st)) rfl rfl (X.dc hd) _ (by rw [e1]; exact k)
theorem Ark.set {c' : Cell} (A : Arr Z h a c' ty) (s1 : c'.slots = vs.toArray) (s2 : vs.length < 2147483648) (s3 : ∀ v ∈ vs, fits ty v = true) {i : Nat} (hv : fits ty v = true) (W : Wr h h' a i v) : Ark Z h' a ty (vs.set i v) := by
  refine ⟨_, A.same W, by simp [Cell.setSlot, s1], by simpa using s2, fun u hu => ?_⟩
  rcases List.mem_or_eq_of_mem_set hu with q | q
  · exact s3 u q
  · exact q ▸ hv
theorem iastore (X : Sd kn Z a0 EL y bytes maxL ret p l e R s m args below meth c n0 sf h kc ks T) {pc n i : Nat} {ls : Array Slot} {st : List Value} {j x z : Int32} (hd : decode bytes pc = .ok (.iastore, 1)) (A : Ark Z h a .int vs) (hj : j.toInt = i) (hi : i < vs.length) (hz : x = z) (hfr : n0 ≤ a) (hs : a ∈ sf) (hn : pc + 1 = n) (K : ∀ T' h', Sd kn Z a0 EL y bytes maxL ret p l e R s m args below meth c n0 sf h' kc ks T' → Wr h h' a i (.int z) → Ark Z h' a .int (vs.set i (.int z)) → Run Z EL p e below s n0 fc fs Q (T'.setTop (mkF m n ls st))) : Run Z EL p e below s n0 fc fs Q (T.setTop (mkF m pc ls (.int x :: .int j :: .ref a :: st))) := by
  subst hn hz; obtain ⟨s', L', i', j', Y, r1, hZ, hown, hml, hnm, r3, r4, hx, kN, kE, kW⟩ := X.op
  obtain ⟨c', A, s1, s2, s3⟩ := A
  obtain ⟨g1, -⟩ := arkIn s1 hj (List.getElem?_eq_getElem hi)
  obtain ⟨T', h', Y', e', W, stp⟩ := stI Y hx hZ r1 A g1 (g := mkF m pc ls (.int x :: .int j :: .ref a :: st)) rfl rfl (X.dc hd)
  rw [(toNatC hj).1] at W Y'
  exact (K T' h' (kW T' h' a i _ hs hfr Y' e' W) W (Ark.set A s1 s2 s3 rfl W)).st stp
theorem castore (X : Sd kn Z a0 EL y bytes maxL ret p l e R s m args below meth c n0 sf h kc ks T) {pc n i : Nat} {ls : Array Slot} {st : List Value} {j x z : Int32} (hd : decode bytes pc = .ok (.castore, 1)) (A : Ark Z h a .char vs) (hj : j.toInt = i) (hi : i < vs.length) (hz : (nar .char x) = z) (hfr : n0 ≤ a) (hs : a ∈ sf) (hn : pc + 1 = n) (K : ∀ T' h', Sd kn Z a0 EL y bytes maxL ret p l e R s m args below meth c n0 sf h' kc ks T' → Wr h h' a i (.int z) → Ark Z h' a .char (vs.set i (.int z)) → Run Z EL p e below s n0 fc fs Q (T'.setTop (mkF m n ls st))) : Run Z EL p e below s n0 fc fs Q (T.setTop (mkF m pc ls (.int x :: .int j :: .ref a :: st))) := by
  subst hn hz; obtain ⟨s', L', i', j', Y, r1, hZ, hown, hml, hnm, r3, r4, hx, kN, kE, kW⟩ := X.op
  obtain ⟨c', A, s1, s2, s3⟩ := A
  obtain ⟨g1, -⟩ := arkIn s1 hj (List.getElem?_eq_getElem hi)
  obtain ⟨T', h', Y', e', W, stp⟩ := stC Y hx hZ r1 A g1 (g := mkF m pc ls (.int x :: .int j :: .ref a :: st)) rfl rfl (X.dc hd)
  rw [(toNatC hj).1] at W Y'
  exact (K T' h' (kW T' h' a i _ hs hfr Y' e' W) W (Ark.set A s1 s2 s3 (fits_nar_char _) W)).st stp
theorem bastore (X : Sd kn Z a0 EL y bytes maxL ret p l e R s m args below meth c n0 sf h kc ks T) {pc n i : Nat} {ls : Array Slot} {st : List Value} {j x z : Int32} (hd : decode bytes pc = .ok (.bastore, 1)) (A : Ark Z h a .byte vs) (hj : j.toInt = i) (hi : i < vs.length) (hz : (nar .byte x) = z) (hfr : n0 ≤ a) (hs : a ∈ sf) (hn : pc + 1 = n) (K : ∀ T' h', Sd kn Z a0 EL y bytes maxL ret p l e R s m args below meth c n0 sf h' kc ks T' → Wr h h' a i (.int z) → Ark Z h' a .byte (vs.set i (.int z)) → Run Z EL p e below s n0 fc fs Q (T'.setTop (mkF m n ls st))) : Run Z EL p e below s n0 fc fs Q (T.setTop (mkF m pc ls (.int x :: .int j :: .ref a :: st))) := by
  subst hn hz; obtain ⟨s', L', i', j', Y, r1, hZ, hown, hml, hnm, r3, r4, hx, kN, kE, kW⟩ := X.op
  obtain ⟨c', A, s1, s2, s3⟩ := A
  obtain ⟨g1, -⟩ := arkIn s1 hj (List.getElem?_eq_getElem hi)
  obtain ⟨T', h', Y', e', W, stp⟩ := stB Y hx hZ r1 A g1 (g := mkF m pc ls (.int x :: .int j :: .ref a :: st)) rfl rfl (X.dc hd)
  rw [(toNatC hj).1] at W Y'
  exact (K T' h' (kW T' h' a i _ hs hfr Y' e' W) W (Ark.set A s1 s2 s3 (fits_nar_byte _) W)).st stp
theorem newarray (X : Sd kn Z a0 EL y bytes maxL ret p l e R s m args below meth c n0 sf h kc ks T) {pc n len cap : Nat} {ls : Array Slot} {st : List Value} {k : Int32} {aty : ArrayType} (hd : decode bytes pc = .ok (.newarray aty, 2)) (w : (Cond.arrayClass (newarray.typeOf aty)).before a0 Z = true) (hk : k.toInt = len) (hcap : len ≤ cap) (hb : cap * 8 ≤ 536870912) (hc : kc + 1 ≤ R.cells) (hl : ks + cap ≤ R.slots) (hn : pc + 2 = n) (K : ∀ T' h' a, a = h.size → Sd kn Z a0 EL y bytes maxL ret p l e R s m args below meth c n0 (a :: sf) h' (kc + 1) (ks + cap) T' → Ext h h' → Ark Z h' a (newarray.typeOf aty) (List.replicate len (defaultValue (newarray.typeOf aty))) → Run Z EL p e below s n0 fc fs Q (T'.setTop (mkF m n ls (.ref a :: st)))) : Run Z EL p e below s n0 fc fs Q (T.setTop (mkF m pc ls (.int k :: st))) := by
  subst hn; obtain ⟨s', L', i', j', Y, r1, hZ, hown, hml, hnm, r3, r4, hx, kN, kE, kW⟩ := X.op
  obtain ⟨g1, g2⟩ := toNatC hk
  obtain ⟨T', h', cA, Y', e', E, A, stp⟩ := newP Y hx hZ w r1 (g := mkF m pc ls (.int k :: st)) rfl (X.dc hd) rfl g2 (cap := cap) (by omega) hb (by omega) (by omega)
  have hA : Ark Z h' h.size (newarray.typeOf aty) (List.replicate len (defaultValue (newarray.typeOf aty))) := by
    refine ⟨_, A, by simp [newA, g1], by simp; omega, fun v hv => ?_⟩
    rw [List.eq_of_mem_replicate hv]; cases aty <;> rfl
  exact (K T' h' _ rfl (kE T' h' 1 cap Y' e' E hA.lt) E hA).st stp
theorem new (X : Sd kn Z a0 EL y bytes maxL ret p l e R s m args below meth c n0 sf h kc ks T) {pc n index k : Nat} {ls : Array Slot} {st : List Value} (hd : decode bytes pc = .ok (.new index, 3)) (w : (Cond.classLink y.cls index C).before a0 Z = true) (wi : (Cond.instantiable C k).before a0 Z = true) (wz : (Cond.initialized C).before a0 Z = true) (hc : kc + 1 ≤ R.cells) (hl : ks + k ≤ R.slots) (hn : pc + 3 = n) (K : ∀ T' h' a, a = h.size → Sd kn Z a0 EL y bytes maxL ret p l e R s m args below meth c n0 (a :: sf) h' (kc + 1) (ks + k) T' → Ext h h' → Exa Z h' a C → (∀ {O nm d : String} {ty : FieldType}, Laid Z a0 C O nm d → parseFieldDescriptor d = some ty → Fld Z h' a O nm d (defaultValue ty)) → Unt h' a → Run Z EL p e below s n0 fc fs Q (T'.setTop (mkF m n ls (.ref a :: st)))) : Run Z EL p e below s n0 fc fs Q (T.setTop (mkF m pc ls st)) := by
  subst hn; obtain ⟨s', L', i', j', Y, r1, hZ, hown, hml, hnm, r3, r4, hx, kN, kE, kW⟩ := X.op
  obtain ⟨T', h', Y', e', E, A, D, U, stp⟩ := newO Y hx hZ hown w wi wz r1 (g := mkF m pc ls st) rfl (X.dc hd) (by omega) (by omega)
  exact (K T' h' _ rfl (kE T' h' 1 k Y' e' E A.lt) E A D U).st stp
theorem putfield (X : Sd kn Z a0 EL y bytes maxL ret p l e R s m args below meth c n0 sf h kc ks T) {pc n index k : Nat} {ls : Array Slot} {st : List Value} {R0 O : String} {v' old : Value} (hd : decode bytes pc = .ok (.putfield index, 3)) (w : (Cond.fieldLink y.cls index R0 f d).before a0 Z = true) (via : Via Z R0 O f d) (F : Fld Z h a O f d old) (E : Exa Z h a C) (L : (Cond.lays C O f d).before a0 Z = true ∨ ((Cond.laysFinal C O f d).before a0 Z = true ∧ y.cls = O ∧ y.name = "<init>")) (wi : (Cond.instantiable C k).before a0 Z = true) (hty : parseFieldDescriptor d = some ty) (hv : narrow ty v = v') (hf : fits ty v' = true) (hfr : n0 ≤ a) (hs : a ∈ sf) (hn : pc + 3 = n) (K : ∀ T' h', Sd kn Z a0 EL y bytes maxL ret p l e R s m args below meth c n0 sf h' kc ks T' → Wr h h' a (RoadKit.slotOf Z O f d) v' → Fld Z h' a O f d v' → Run Z EL p e below s n0 fc fs Q (T'.setTop (mkF m n ls st))) : Run Z EL p e below s n0 fc fs Q (T.setTop (mkF m pc ls (v :: .ref a :: st))) := by
  subst hn; obtain ⟨s', L', i', j', Y, r1, hZ, hown, hml, hnm, r3, r4, hx, kN, kE, kW⟩ := X.op
  obtain ⟨T', h', Y', e', W, stp⟩ := putFN Y hx hZ hown w via r1 F E (L.imp id fun z => ⟨z.1, z.2.1, hnm.trans z.2.2⟩) wi hty hv hf (g := mkF m pc ls (v :: .ref a :: st)) rfl rfl (X.dc hd)
  exact (K T' h' (kW T' h' a _ _ hs hfr Y' e' W) W (F.same W)).st stp
theorem clone (X : Sd kn Z a0 EL y bytes maxL ret p l e R s m args below meth c n0 sf h kc ks T) {pc n index W cap : Nat} {ls : Array Slot} {st : List Value} {ad : String} (hd : decode bytes pc = .ok (.invokevirtual index, 3)) (w1 : (Cond.methodLink y.cls index ⟨ad, "clone", "()Ljava/lang/Object;"⟩).before a0 Z = true) (w2 : (Cond.sameMethod ad "java/lang/Object" "clone" "()Ljava/lang/Object;").before a0 Z = true) (w3 : (Cond.native ⟨"java/lang/Object", "clone", "()Ljava/lang/Object;"⟩).before a0 Z = true) (w4 : (Cond.instanceMethod ⟨"java/lang/Object", "clone", "()Ljava/lang/Object;"⟩).before a0 Z = true) (w5 : (Cond.selects ad ⟨ad, "clone", "()Ljava/lang/Object;"⟩ ⟨"java/lang/Object", "clone", "()Ljava/lang/Object;"⟩).before a0 Z = true) (w6 : (Cond.castable ad "java/lang/Cloneable").before a0 Z = true) (A : Ark Z h a ty vs) (E : Exa Z h a ad) (hsize : ls.size = maxL) (hf : 1 ≤ R.frames) (hW : (st.map fun v => v.category).sum ≤ W) (hl : W + 14 ≤ R.locals) (hcap : vs.length ≤ cap) (hc : kc + 1 ≤ R.cells) (hsl : ks + cap ≤ R.slots) (hn : pc + 3 = n) (K : ∀ T' h' b, b = h.size → Sd kn Z a0 EL y bytes maxL ret p l e R s m args below meth c n0 (b :: sf) h' (kc + 1) (ks + cap) T' → Ext h h' → Ark Z h' b ty vs → Exa Z h' b ad → Run Z EL p e below s n0 fc fs Q (T'.setTop (mkF m n ls (.ref b :: st)))) : Run Z EL p e below s n0 fc fs Q (T.setTop (mkF m pc ls (.ref a :: st))) := by
  subst hn; obtain ⟨s', L', i', j', Y, r1, hZ, hown, hml, hnm, r3, r4, hx, kN, kE, kW⟩ := X.op
  obtain ⟨c', A, s1, s2, s3⟩ := A
  have e1 : c'.slots.size = vs.length := by rw [s1]; simp
  have FC : FitC Z c' := fitC_of A fun i hi v hv => by
    rw [s1] at hv
    exact s3 v (List.mem_of_getElem? (i := i) (by simpa using hv))
  obtain ⟨T', h', Y', e', ex, A', E', stp⟩ := cloneA Y hx hZ hown w1 w2 w3 w4 w5 w6 r1 A E FC (g := mkF m pc ls (.ref a :: st)) rfl (by rw [hml]; exact hsize) rfl (X.dc hd) hf (W := W) (cap := cap) (by simpa using hW) hl (by rw [e1]; exact hcap) (by omega) (by omega)
  exact (K T' h' _ rfl (kE T' h' 1 cap Y' e' ex A'.lt) ex ⟨_, A', s1, s2, s3⟩ E').st stp
theorem ldcS (X : Sd kn Z a0 EL y bytes maxL ret p l e R s m args below meth c n0 sf h kc ks T) {pc n index nn : Nat} {ls : Array Slot} {st : List Value} {text : String} {bs : List Int32} (hd : decode bytes pc = .ok (.ldc index, 2)) (w : (Cond.stringLink y.cls index text).before a0 Z = true) (wS : ∀ a ∈ Bundle.stringAtoms, a.before a0 Z = true) (hmem : (y.cls, index) ∈ EL) (ht : (∀ c ∈ text.toList, c.toNat < 256) ∧ text.toList.map (fun c => Value.int (Jvm.Lit.byteI c.toNat.toUInt16)) = bs.map Value.int) (hlt : bs.length < 2147483648) (hn4 : 4 * text.toList.length ≤ nn) (hbig : nn ≤ 536870912) (hc : kc + 2 ≤ R.cells) (hl : ks + (nn + 4) ≤ R.slots) (hn : pc + 2 = n) (K : ∀ T' h' a b, Sd kn Z a0 EL y bytes maxL ret p l e R s m args below meth c n0 sf h' (kc + 2) (ks + (nn + 4)) T' → Ext h h' → Exa Z h' a "java/lang/String" → Fld Z h' a "java/lang/String" "coder" "B" (.int 0) → Fld Z h' a "java/lang/String" "value" "[B" (.ref b) → Ark Z h' b .byte (bs.map Value.int) → (∀ x ∈ sf, x ≠ a ∧ x ≠ b) → Run Z EL p e below s n0 fc fs Q (T'.setTop (mkF m n ls (.ref a :: st)))) : Run Z EL p e below s n0 fc fs Q (T.setTop (mkF m pc ls st)) := by
  subst hn
  have hdc := X.dc hd
  obtain ⟨vm0, k0, q, ⟨hS, hk, hE, hC, hs, hkn⟩, L, i, j, Y, r1, r2, r3, r4⟩ := X
  have hz : (bs.length.toInt32).toInt = bs.length := Int32.toInt_ofNat_small hlt
  obtain ⟨a, T', h', k1, b, k, Y', e', E, hS', hk', hZ', hown', g1, g2, g3, g4, g5, g6, hC', hL, hne, stp⟩ := ldcCH Y q.1 q.2.1 q.2.2.2.2.2.2.1 w wS r1 hS hk hE hmem hC.1 ht (z := bs.length.toInt32) (toNatC hz).2 (by rw [(toNatC hz).1]; simp) (g := mkF m pc ls st) rfl hdc hn4 hbig (by omega) (by omega)
  have hal : vm0.Alike T'.vm := by have z := hS.1.alike; have z' := hS'.1.alike; exact z.symm.trans z'
  refine (K T' h' a b ⟨T'.vm, k1, ⟨q.1, hZ', q.2.2.1, q.2.2.2.1, q.2.2.2.2.1, q.2.2.2.2.2.1, hown', q.2.2.2.2.2.2.2⟩, ⟨hS', hk', hE, hC.trans hC', fun x hx => ⟨hC'.safe (hs x hx).2 (hs x hx).1, Nat.lt_of_lt_of_le (hs x hx).2 E.1⟩, fun hh => ?_⟩, _, _, _, Y', e', r2, by omega, by omega⟩ E g1 g2 g3 (Ark.ofArv g4 (by rw [(toNatC hz).1]; simp)) (fun x hx => hne x (hC'.safe (hs x hx).2 (hs x hx).1))).st stp
  exact ⟨Vm.MethodsKnown.alikeC hal (hkn hh).1, FKalike hal (hkn hh).2⟩
theorem lenA {d : String} {ps : List FieldType} {r : Option FieldType} (hd : parseMethodDescriptor d = some ⟨ps, r⟩) {L : List Value} (hl : L.length = ps.length) : ∀ sig, parseMethodDescriptor d = some sig → L.length = sig.parameters.length := lenOf hd hl
theorem ctrBack {z : MethodName} {ybytes : ByteArray} {yL : Nat} {yret : Option FieldType} {rm : Room} {sfc : List Addr} {as : Array Value} {Qc : Option Value → Heap → List Addr → Prop} {len W : Nat} {vm0 : Vm} (hC : Ctr kn l Z EL z ybytes yL yret [] rm n0 sfc as h Qc) (hZ : Z.Warmed39 vm0) (wc : (Cond.code z ybytes yL yret).before a0 Z = true) (wz : (Cond.initialized z.cls).before a0 Z = true) (hf : rm.frames + 1 ≤ R.frames) (hl : W + (yL + 11) + rm.locals ≤ R.locals) (hEL : EW Z a0 EL) (H : CHv Z EL vm0 h) (hs : ∀ x ∈ sfc, Safe Z EL vm0 h x ∧ x < h.size) (hkn : kn → vm0.MethodsKnown ∧ vm0.FramesKnown below) :
    BackS l R p e below (s.setVm vm0) args z len W (fun A a => a = as ∧ A.U.heap = h ∧ A.cells + rm.cells ≤ R.cells ∧ A.slots + rm.slots ≤ R.slots) (fun A _ v B => ∃ L, (∃ sfn, Qc v B.U.heap sfn ∧ (∀ x ∈ sfn, Safe Z EL B.U.vm B.U.heap x ∧ x < B.U.heap.size) ∧ Fr n0 L) ∧ B.locs = A.locs ++ L ∧ B.cells = A.cells + rm.cells ∧ B.slots = A.slots + rm.slots ∧ CHr Z EL vm0 h B.U.vm B.U.heap) :=
  BackS.of_freeWG (bytes := ybytes) (maxL := yL) (ret := yret) (E := fun _ first o t L k n => k = rm.cells ∧ n = rm.slots ∧ (∃ v, o = .returned v ∧ ∃ sfn, Qc v t.heap sfn ∧ (∀ x ∈ sfn, Safe Z EL t.vm t.heap x ∧ x < t.heap.size) ∧ Fr n0 L) ∧ CHr Z EL first.vm first.heap t.vm t.heap) hC hf hl
    (fun m meth c A a Y hp => have hU : Z.Warmed39 A.U.vm := wtrans (s := s.setVm vm0) hZ Y.warmed
      ⟨by show (Cond.and _ .tt).before a A.U = true; rw [Cond.before_and, mv hU wc]; rfl, mv hU wc, mv hU wz, hp.2.2.1, hp.2.2.2⟩)
    (fun m meth c A a g mk Y hp => have hA := CHv.at Y hZ hEL H
      ⟨hp.1, wtrans (s := s.setVm vm0) hZ Y.warmed, hp.2.1, hA.1, fun x hx => ⟨hA.safe (hs x hx).2 (hs x hx).1, (hs x hx).2⟩⟩)
    (fun m meth c A a g mk Y _ hg hh => known_frames Y hg (hkn hh).1 (hkn hh).2)
    (fun _ _ _ _ ⟨v, L, h1, h2, h3, h4⟩ => ⟨L, _, _, h4, rfl, rfl, ⟨v, h1, h2⟩, h3⟩)
    (fun m meth c A a g mk v t L k n Y hp _ _ ⟨e1, e2, ⟨v', e3, e4⟩, e5⟩ => by
      cases e3; subst e1 e2
      refine ⟨L, e4, rfl, rfl, rfl, (CHv.at Y hZ hEL H).trans ?_⟩
      rw [← hp.2.1]; exact e5)
theorem call_static (X : Sd kn Z a0 EL y bytes maxL ret p l e R s m args below meth c n0 sf h kc ks T) {rm : Room} {ybytes : ByteArray} {yL : Nat} {yret : Option FieldType} {z : MethodName} {sfc : List Addr} {Qc : Option Value → Heap → List Addr → Prop} {pc n index W : Nat} {ls : Array Slot} {st rest argsL : List Value} (hd : decode bytes pc = .ok (.invokestatic index, 3)) (w1 : (Cond.methodLink y.cls index z).before a0 Z = true) (w2 : (Cond.static z).before a0 Z = true) (wc : (Cond.code z ybytes yL yret).before a0 Z = true) (wi : (Cond.initialized z.cls).before a0 Z = true) (hy : z.cls ≠ "java/lang/invoke/MethodHandle" ∧ z.cls ≠ "java/lang/invoke/VarHandle") (hC : Ctr kn l Z EL z ybytes yL yret [] rm n0 sfc argsL.toArray h Qc) (hsf : ∀ x ∈ sfc, x ∈ sf) (hst : st = argsL.reverse ++ rest) (hsize : ls.size = maxL) (hlen : ∀ sig, parseMethodDescriptor z.desc = some sig → argsL.length = sig.parameters.length) (hW : (rest.map fun v => v.category).sum ≤ W) (hfr : rm.frames + 1 ≤ R.frames) (hlo : W + (yL + 11) + rm.locals ≤ R.locals) (hce : kc + rm.cells ≤ R.cells) (hsl : ks + rm.slots ≤ R.slots) (hn : pc + 3 = n) (K : ∀ T' h' v sfn, h.size ≤ h'.size → Sd kn Z a0 EL y bytes maxL ret p l e R s m args below meth c n0 (sf ++ sfn) h' (kc + rm.cells) (ks + rm.slots) T' → Qc v h' sfn → Run Z EL p e below s n0 fc fs Q (T'.setTop (mkF m n ls (v.toList ++ rest)))) : Run Z EL p e below s n0 fc fs Q (T.setTop (mkF m pc ls st)) := by
  subst hn hst
  have hdc := X.dc hd
  obtain ⟨vm0, k0, q, ⟨hS, hk, hE, hCr, hs, hkn⟩, L, i, j, Y, r1, r2, r3, r4⟩ := X
  have hB := ctrBack (W := W) (R := R) (p := p) (e := e) (s := s) (below := below) (args := args) (len := 3) (vm0 := vm0) hC q.2.1 wc wi hfr hlo hE hCr.1 (fun x hx => hs x (hsf x hx)) hkn
  have hZ : Z.Warmed39 (s.setVm vm0).vm := q.2.1
  have hown : (s.setVm vm0).vm.findClass y.cls = some m.cls := q.2.2.2.2.2.2.1
  obtain ⟨v, vm₁, ⟨T', L', k', n'⟩, -, Y', S', g', ⟨Lc, hQ, l', y', z', C'⟩, stp⟩ := callSS Y q.1 (y := z) hown (mvT hZ w1) (mvT hZ w2) (mvT hZ wi) (mvT hZ wc) hy hB (g := mkF m pc ls (argsL.reverse ++ rest)) rfl (by rw [q.2.2.2.1]; exact hsize) (argsL := argsL) (rest := rest) hlen rfl (by simpa using hW) hdc (fun _ _ => ⟨rfl, r1, by dsimp only [Pt.cells]; omega, by dsimp only [Pt.slots]; omega⟩)
  dsimp only [Pt.U, Pt.locs, Pt.cells, Pt.slots] at Y' l' y' z' stp hQ S' g' C'
  obtain ⟨sfn, hQ1, hQs, hQ2⟩ := hQ
  subst l' y' z'
  obtain ⟨Y2, S2, Z2, O2⟩ := rebS hS hk Y' S' (by rw [← r1]; exact g') hZ hown
  have hal : vm0.Alike T'.vm := S'.1.alike
  refine (K T' T'.heap v sfn (by rw [← r1]; exact g') ⟨T'.vm, T'.heap.size, ⟨q.1, Z2, q.2.2.1, q.2.2.2.1, q.2.2.2.2.1, q.2.2.2.2.2.1, O2, q.2.2.2.2.2.2.2⟩, ⟨S2, Nat.le_refl _, hE, hCr.trans C', ?_, fun hh => ⟨Vm.MethodsKnown.alikeC hal (hkn hh).1, FKalike hal (hkn hh).2⟩⟩, _, _, _, Y2, rfl, Fr.app r2 hQ2, by omega, by omega⟩ hQ1).st fun t k => stp.trans k
  intro x hx
  rcases List.mem_append.mp hx with hx | hx
  · exact ⟨C'.safe (hs x hx).2 (hs x hx).1, Nat.lt_of_lt_of_le (hs x hx).2 (by rw [← r1]; exact g')⟩
  · exact hQs x hx
theorem call_static_v (X : Sd kn Z a0 EL y bytes maxL ret p l e R s m args below meth c n0 sf h kc ks T) {rm : Room} {ybytes : ByteArray} {yL : Nat} {yret : Option FieldType} {z : MethodName} {sfc : List Addr} {Qv : Value → Heap → List Addr → Prop} {pc n index W : Nat} {ls : Array Slot} {st rest argsL : List Value} (hd : decode bytes pc = .ok (.invokestatic index, 3)) (w1 : (Cond.methodLink y.cls index z).before a0 Z = true) (w2 : (Cond.static z).before a0 Z = true) (wc : (Cond.code z ybytes yL yret).before a0 Z = true) (wi : (Cond.initialized z.cls).before a0 Z = true) (hy : z.cls ≠ "java/lang/invoke/MethodHandle" ∧ z.cls ≠ "java/lang/invoke/VarHandle") (hC : Ctr kn l Z EL z ybytes yL yret [] rm n0 sfc argsL.toArray h (Rt Qv)) (hsf : ∀ x ∈ sfc, x ∈ sf) (hst : st = argsL.reverse ++ rest) (hsize : ls.size = maxL) (hlen : ∀ sig, parseMethodDescriptor z.desc = some sig → argsL.length = sig.parameters.length) (hW : (rest.map fun v => v.category).sum ≤ W) (hfr : rm.frames + 1 ≤ R.frames) (hlo : W + (yL + 11) + rm.locals ≤ R.locals) (hce : kc + rm.cells ≤ R.cells) (hsl : ks + rm.slots ≤ R.slots) (hn : pc + 3 = n) (K : ∀ T' h' w sfn, h.size ≤ h'.size → Sd kn Z a0 EL y bytes maxL ret p l e R s m args below meth c n0 (sf ++ sfn) h' (kc + rm.cells) (ks + rm.slots) T' → Qv w h' sfn → Run Z EL p e below s n0 fc fs Q (T'.setTop (mkF m n ls (w :: rest)))) : Run Z EL p e below s n0 fc fs Q (T.setTop (mkF m pc ls st)) :=
  call_static X hd w1 w2 wc wi hy hC hsf hst hsize hlen hW hfr hlo hce hsl hn fun T' h' v g hh X' q => by obtain ⟨w, rfl, q⟩ := q; exact K T' h' w g hh X' q
theorem call_static_n (X : Sd kn Z a0 EL y bytes maxL ret p l e R s m args below meth c n0 sf h kc ks T) {rm : Room} {ybytes : ByteArray} {yL : Nat} {yret : Option FieldType} {z : MethodName} {sfc : List Addr} {Qn : Heap → List Addr → Prop} {pc n index W : Nat} {ls : Array Slot} {st rest argsL : List Value} (hd : decode bytes pc = .ok (.invokestatic index, 3)) (w1 : (Cond.methodLink y.cls index z).before a0 Z = true) (w2 : (Cond.static z).before a0 Z = true) (wc : (Cond.code z ybytes yL yret).before a0 Z = true) (wi : (Cond.initialized z.cls).before a0 Z = true) (hy : z.cls ≠ "java/lang/invoke/MethodHandle" ∧ z.cls ≠ "java/lang/invoke/VarHandle") (hC : Ctr kn l Z EL z ybytes yL yret [] rm n0 sfc argsL.toArray h (Rn Qn)) (hsf : ∀ x ∈ sfc, x ∈ sf) (hst : st = argsL.reverse ++ rest) (hsize : ls.size = maxL) (hlen : ∀ sig, parseMethodDescriptor z.desc = some sig → argsL.length = sig.parameters.length) (hW : (rest.map fun v => v.category).sum ≤ W) (hfr : rm.frames + 1 ≤ R.frames) (hlo : W + (yL + 11) + rm.locals ≤ R.locals) (hce : kc + rm.cells ≤ R.cells) (hsl : ks + rm.slots ≤ R.slots) (hn : pc + 3 = n) (K : ∀ T' h' sfn, h.size ≤ h'.size → Sd kn Z a0 EL y bytes maxL ret p l e R s m args below meth c n0 (sf ++ sfn) h' (kc + rm.cells) (ks + rm.slots) T' → Qn h' sfn → Run Z EL p e below s n0 fc fs Q (T'.setTop (mkF m n ls rest))) : Run Z EL p e below s n0 fc fs Q (T.setTop (mkF m pc ls st)) :=
  call_static X hd w1 w2 wc wi hy hC hsf hst hsize hlen hW hfr hlo hce hsl hn fun T' h' v g hh X' q => by obtain ⟨rfl, q⟩ := q; exact K T' h' g hh X' q
theorem call_virtual (X : Sd kn Z a0 EL y bytes maxL ret p l e R s m args below meth c n0 sf h kc ks T) {rm : Room} {ybytes : ByteArray} {yL : Nat} {yret : Option FieldType} {z : MethodName} {sfc : List Addr} {Qc : Option Value → Heap → List Addr → Prop} {pc n index W : Nat} {ls : Array Slot} {st rest argsL : List Value} {a : Addr} {C : String} {yv : MethodName} (hd : decode bytes pc = .ok (.invokevirtual index, 3)) (w1 : (Cond.methodLink y.cls index yv).before a0 Z = true) (w2 : (Cond.declares yv).before a0 Z = true) (w3 : (Cond.instanceMethod z).before a0 Z = true) (w4 : (Cond.selects C yv z).before a0 Z = true) (hnf : ∀ {s' : State}, Z.Warmed39 s'.vm → NotFace s' yv) (wc : (Cond.code z ybytes yL yret).before a0 Z = true) (wi : (Cond.initialized z.cls).before a0 Z = true) (hy : yv.cls ≠ "java/lang/invoke/MethodHandle" ∧ yv.cls ≠ "java/lang/invoke/VarHandle") (E : Exa Z h a C) (hC : Ctr kn l Z EL z ybytes yL yret [] rm n0 sfc (.ref a :: argsL).toArray h Qc) (hsf : ∀ x ∈ sfc, x ∈ sf) (hst : st = argsL.reverse ++ .ref a :: rest) (hsize : ls.size = maxL) (hlen : ∀ sig, parseMethodDescriptor yv.desc = some sig → argsL.length = sig.parameters.length) (hW : (rest.map fun v => v.category).sum ≤ W) (hfr : rm.frames + 1 ≤ R.frames) (hlo : W + (yL + 11) + rm.locals ≤ R.locals) (hce : kc + rm.cells ≤ R.cells) (hsl : ks + rm.slots ≤ R.slots) (hn : pc + 3 = n) (K : ∀ T' h' v sfn, h.size ≤ h'.size → Sd kn Z a0 EL y bytes maxL ret p l e R s m args below meth c n0 (sf ++ sfn) h' (kc + rm.cells) (ks + rm.slots) T' → Qc v h' sfn → Run Z EL p e below s n0 fc fs Q (T'.setTop (mkF m n ls (v.toList ++ rest)))) : Run Z EL p e below s n0 fc fs Q (T.setTop (mkF m pc ls st)) := by
  subst hn hst
  have hdc := X.dc hd
  obtain ⟨vm0, k0, q, ⟨hS, hk, hE, hCr, hs, hkn⟩, L, i, j, Y, r1, r2, r3, r4⟩ := X
  have hB := ctrBack (W := W) (R := R) (p := p) (e := e) (s := s) (below := below) (args := args) (len := 3) (vm0 := vm0) hC q.2.1 wc wi hfr hlo hE hCr.1 (fun x hx => hs x (hsf x hx)) hkn
  have hZ : Z.Warmed39 (s.setVm vm0).vm := q.2.1
  have hown : (s.setVm vm0).vm.findClass y.cls = some m.cls := q.2.2.2.2.2.2.1
  obtain ⟨cq, kq, qa, qb, qc⟩ := isOf (T := T) hZ r1 E
  obtain ⟨v, vm₁, ⟨T', L', k', n'⟩, -, Y', S', g', ⟨Lc, hQ, l', y', z', C'⟩, stp⟩ := Y.virtualBackS q.1 (y := yv) (z := z) hown (mvT hZ w1) (mvT hZ w2) (hnf hZ) (mvT hZ w4) (mvT hZ w3) hy hB qa qc (g := mkF m pc ls (argsL.reverse ++ .ref a :: rest)) rfl (by rw [q.2.2.2.1]; exact hsize) (Steps.refl _) (argsL := argsL) (rest := rest) hlen rfl (by simpa using hW) hdc (fun _ _ => ⟨rfl, r1, by dsimp only [Pt.cells]; omega, by dsimp only [Pt.slots]; omega⟩)
  dsimp only [Pt.U, Pt.locs, Pt.cells, Pt.slots] at Y' l' y' z' stp hQ S' g' C'
  obtain ⟨sfn, hQ1, hQs, hQ2⟩ := hQ
  subst l' y' z'
  obtain ⟨Y2, S2, Z2, O2⟩ := rebS hS hk Y' S' (by rw [← r1]; exact g') hZ hown
  have hal : vm0.Alike T'.vm := S'.1.alike
  refine (K T' T'.heap v sfn (by rw [← r1]; exact g') ⟨T'.vm, T'.heap.size, ⟨q.1, Z2, q.2.2.1, q.2.2.2.1, q.2.2.2.2.1, q.2.2.2.2.2.1, O2, q.2.2.2.2.2.2.2⟩, ⟨S2, Nat.le_refl _, hE, hCr.trans C', ?_, fun hh => ⟨Vm.MethodsKnown.alikeC hal (hkn hh).1, FKalike hal (hkn hh).2⟩⟩, _, _, _, Y2, rfl, Fr.app r2 hQ2, by omega, by omega⟩ hQ1).st fun t k => stp.trans k
  intro x hx
  rcases List.mem_append.mp hx with hx | hx
  · exact ⟨C'.safe (hs x hx).2 (hs x hx).1, Nat.lt_of_lt_of_le (hs x hx).2 (by rw [← r1]; exact g')⟩
  · exact hQs x hx
theorem call_virtual_v (X : Sd kn Z a0 EL y bytes maxL ret p l e R s m args below meth c n0 sf h kc ks T) {rm : Room} {ybytes : ByteArray} {yL : Nat} {yret : Option FieldType} {z : MethodName} {sfc : List Addr} {Qv : Value → Heap → List Addr → Prop} {pc n index W : Nat} {ls : Array Slot} {st rest argsL : List Value} {a : Addr} {C : String} {yv : MethodName} (hd : decode bytes pc = .ok (.invokevirtual index, 3)) (w1 : (Cond.methodLink y.cls index yv).before a0 Z = true) (w2 : (Cond.declares yv).before a0 Z = true) (w3 : (Cond.instanceMethod z).before a0 Z = true) (w4 : (Cond.selects C yv z).before a0 Z = true) (hnf : ∀ {s' : State}, Z.Warmed39 s'.vm → NotFace s' yv) (wc : (Cond.code z ybytes yL yret).before a0 Z = true) (wi : (Cond.initialized z.cls).before a0 Z = true) (hy : yv.cls ≠ "java/lang/invoke/MethodHandle" ∧ yv.cls ≠ "java/lang/invoke/VarHandle") (E : Exa Z h a C) (hC : Ctr kn l Z EL z ybytes yL yret [] rm n0 sfc (.ref a :: argsL).toArray h (Rt Qv)) (hsf : ∀ x ∈ sfc, x ∈ sf) (hst : st = argsL.reverse ++ .ref a :: rest) (hsize : ls.size = maxL) (hlen : ∀ sig, parseMethodDescriptor yv.desc = some sig → argsL.length = sig.parameters.length) (hW : (rest.map fun v => v.category).sum ≤ W) (hfr : rm.frames + 1 ≤ R.frames) (hlo : W + (yL + 11) + rm.locals ≤ R.locals) (hce : kc + rm.cells ≤ R.cells) (hsl : ks + rm.slots ≤ R.slots) (hn : pc + 3 = n) (K : ∀ T' h' w sfn, h.size ≤ h'.size → Sd kn Z a0 EL y bytes maxL ret p l e R s m args below meth c n0 (sf ++ sfn) h' (kc + rm.cells) (ks + rm.slots) T' → Qv w h' sfn → Run Z EL p e below s n0 fc fs Q (T'.setTop (mkF m n ls (w :: rest)))) : Run Z EL p e below s n0 fc fs Q (T.setTop (mkF m pc ls st)) :=
  call_virtual X hd w1 w2 w3 w4 hnf wc wi hy E hC hsf hst hsize hlen hW hfr hlo hce hsl hn fun T' h' v g hh X' q => by obtain ⟨w, rfl, q⟩ := q; exact K T' h' w g hh X' q
theorem call_virtual_n (X : Sd kn Z a0 EL y bytes maxL ret p l e R s m args below meth c n0 sf h kc ks T) {rm : Room} {ybytes : ByteArray} {yL : Nat} {yret : Option FieldType} {z : MethodName} {sfc : List Addr} {Qn : Heap → List Addr → Prop} {pc n index W : Nat} {ls : Array Slot} {st rest argsL : List Value} {a : Addr} {C : String} {yv : MethodName} (hd : decode bytes pc = .ok (.invokevirtual index, 3)) (w1 : (Cond.methodLink y.cls index yv).before a0 Z = true) (w2 : (Cond.declares yv).before a0 Z = true) (w3 : (Cond.instanceMethod z).before a0 Z = true) (w4 : (Cond.selects C yv z).before a0 Z = true) (hnf : ∀ {s' : State}, Z.Warmed39 s'.vm → NotFace s' yv) (wc : (Cond.code z ybytes yL yret).before a0 Z = true) (wi : (Cond.initialized z.cls).before a0 Z = true) (hy : yv.cls ≠ "java/lang/invoke/MethodHandle" ∧ yv.cls ≠ "java/lang/invoke/VarHandle") (E : Exa Z h a C) (hC : Ctr kn l Z EL z ybytes yL yret [] rm n0 sfc (.ref a :: argsL).toArray h (Rn Qn)) (hsf : ∀ x ∈ sfc, x ∈ sf) (hst : st = argsL.reverse ++ .ref a :: rest) (hsize : ls.size = maxL) (hlen : ∀ sig, parseMethodDescriptor yv.desc = some sig → argsL.length = sig.parameters.length) (hW : (rest.map fun v => v.category).sum ≤ W) (hfr : rm.frames + 1 ≤ R.frames) (hlo : W + (yL + 11) + rm.locals ≤ R.locals) (hce : kc + rm.cells ≤ R.cells) (hsl : ks + rm.slots ≤ R.slots) (hn : pc + 3 = n) (K : ∀ T' h' sfn, h.size ≤ h'.size → Sd kn Z a0 EL y bytes maxL ret p l e R s m args below meth c n0 (sf ++ sfn) h' (kc + rm.cells) (ks + rm.slots) T' → Qn h' sfn → Run Z EL p e below s n0 fc fs Q (T'.setTop (mkF m n ls rest))) : Run Z EL p e below s n0 fc fs Q (T.setTop (mkF m pc ls st)) :=
  call_virtual X hd w1 w2 w3 w4 hnf wc wi hy E hC hsf hst hsize hlen hW hfr hlo hce hsl hn fun T' h' v g hh X' q => by obtain ⟨rfl, q⟩ := q; exact K T' h' g hh X' q
theorem call_special (X : Sd kn Z a0 EL y bytes maxL ret p l e R s m args below meth c n0 sf h kc ks T) {rm : Room} {ybytes : ByteArray} {yL : Nat} {yret : Option FieldType} {z : MethodName} {sfc : List Addr} {Qc : Option Value → Heap → List Addr → Prop} {pc n index W : Nat} {ls : Array Slot} {st rest argsL : List Value} {a : Addr} (hd : decode bytes pc = .ok (.invokespecial index, 3)) (w1 : (Cond.methodLink y.cls index z).before a0 Z = true) (w2 : (Cond.instanceMethod z).before a0 Z = true) (wc : (Cond.code z ybytes yL yret).before a0 Z = true) (wi : (Cond.initialized z.cls).before a0 Z = true) (hz : z.name = "<init>") (hr : yret = none) (hy : z.cls ≠ "java/lang/invoke/MethodHandle" ∧ z.cls ≠ "java/lang/invoke/VarHandle") (hC : Ctr kn l Z EL z ybytes yL yret [] rm n0 sfc (.ref a :: argsL).toArray h Qc) (hsf : ∀ x ∈ sfc, x ∈ sf) (hst : st = argsL.reverse ++ .ref a :: rest) (hsize : ls.size = maxL) (hlen : ∀ sig, parseMethodDescriptor z.desc = some sig → argsL.length = sig.parameters.length) (hW : (rest.map fun v => v.category).sum ≤ W) (hfr : rm.frames + 1 ≤ R.frames) (hlo : W + (yL + 11) + rm.locals ≤ R.locals) (hce : kc + rm.cells ≤ R.cells) (hsl : ks + rm.slots ≤ R.slots) (hn : pc + 3 = n) (K : ∀ T' h' v sfn, h.size ≤ h'.size → Sd kn Z a0 EL y bytes maxL ret p l e R s m args below meth c n0 (sf ++ sfn) h' (kc + rm.cells) (ks + rm.slots) T' → Qc v h' sfn → Run Z EL p e below s n0 fc fs Q (T'.setTop (mkF m n ls (v.toList ++ rest)))) : Run Z EL p e below s n0 fc fs Q (T.setTop (mkF m pc ls st)) := by
  subst hn hst
  have hdc := X.dc hd
  obtain ⟨vm0, k0, q, ⟨hS, hk, hE, hCr, hs, hkn⟩, L, i, j, Y, r1, r2, r3, r4⟩ := X
  have hB := ctrBack (W := W) (R := R) (p := p) (e := e) (s := s) (below := below) (args := args) (len := 3) (vm0 := vm0) hC q.2.1 wc wi hfr hlo hE hCr.1 (fun x hx => hs x (hsf x hx)) hkn
  have hZ : Z.Warmed39 (s.setVm vm0).vm := q.2.1
  have hown : (s.setVm vm0).vm.findClass y.cls = some m.cls := q.2.2.2.2.2.2.1
  obtain ⟨v, vm₁, ⟨T', L', k', n'⟩, -, Y', S', g', ⟨Lc, hQ, l', y', z', C'⟩, stp⟩ := Y.specialBackS q.1 (y := z) hz hown (mvT hZ w1) (mvT hZ w2) (mvT hZ (hr ▸ wc)) hy hB (g := mkF m pc ls (argsL.reverse ++ .ref a :: rest)) rfl (by rw [q.2.2.2.1]; exact hsize) (Steps.refl _) (a := a) (argsL := argsL) (rest := rest) hlen rfl (by simpa using hW) hdc (fun _ _ => ⟨rfl, r1, by dsimp only [Pt.cells]; omega, by dsimp only [Pt.slots]; omega⟩)
  dsimp only [Pt.U, Pt.locs, Pt.cells, Pt.slots] at Y' l' y' z' stp hQ S' g' C'
  obtain ⟨sfn, hQ1, hQs, hQ2⟩ := hQ
  subst l' y' z'
  obtain ⟨Y2, S2, Z2, O2⟩ := rebS hS hk Y' S' (by rw [← r1]; exact g') hZ hown
  have hal : vm0.Alike T'.vm := S'.1.alike
  refine (K T' T'.heap v sfn (by rw [← r1]; exact g') ⟨T'.vm, T'.heap.size, ⟨q.1, Z2, q.2.2.1, q.2.2.2.1, q.2.2.2.2.1, q.2.2.2.2.2.1, O2, q.2.2.2.2.2.2.2⟩, ⟨S2, Nat.le_refl _, hE, hCr.trans C', ?_, fun hh => ⟨Vm.MethodsKnown.alikeC hal (hkn hh).1, FKalike hal (hkn hh).2⟩⟩, _, _, _, Y2, rfl, Fr.app r2 hQ2, by omega, by omega⟩ hQ1).st fun t k => stp.trans k
  intro x hx
  rcases List.mem_append.mp hx with hx | hx
  · exact ⟨C'.safe (hs x hx).2 (hs x hx).1, Nat.lt_of_lt_of_le (hs x hx).2 (by rw [← r1]; exact g')⟩
  · exact hQs x hx
theorem call_special_v (X : Sd kn Z a0 EL y bytes maxL ret p l e R s m args below meth c n0 sf h kc ks T) {rm : Room} {ybytes : ByteArray} {yL : Nat} {yret : Option FieldType} {z : MethodName} {sfc : List Addr} {Qv : Value → Heap → List Addr → Prop} {pc n index W : Nat} {ls : Array Slot} {st rest argsL : List Value} {a : Addr} (hd : decode bytes pc = .ok (.invokespecial index, 3)) (w1 : (Cond.methodLink y.cls index z).before a0 Z = true) (w2 : (Cond.instanceMethod z).before a0 Z = true) (wc : (Cond.code z ybytes yL yret).before a0 Z = true) (wi : (Cond.initialized z.cls).before a0 Z = true) (hz : z.name = "<init>") (hr : yret = none) (hy : z.cls ≠ "java/lang/invoke/MethodHandle" ∧ z.cls ≠ "java/lang/invoke/VarHandle") (hC : Ctr kn l Z EL z ybytes yL yret [] rm n0 sfc (.ref a :: argsL).toArray h (Rt Qv)) (hsf : ∀ x ∈ sfc, x ∈ sf) (hst : st = argsL.reverse ++ .ref a :: rest) (hsize : ls.size = maxL) (hlen : ∀ sig, parseMethodDescriptor z.desc = some sig → argsL.length = sig.parameters.length) (hW : (rest.map fun v => v.category).sum ≤ W) (hfr : rm.frames + 1 ≤ R.frames) (hlo : W + (yL + 11) + rm.locals ≤ R.locals) (hce : kc + rm.cells ≤ R.cells) (hsl : ks + rm.slots ≤ R.slots) (hn : pc + 3 = n) (K : ∀ T' h' w sfn, h.size ≤ h'.size → Sd kn Z a0 EL y bytes maxL ret p l e R s m args below meth c n0 (sf ++ sfn) h' (kc + rm.cells) (ks + rm.slots) T' → Qv w h' sfn → Run Z EL p e below s n0 fc fs Q (T'.setTop (mkF m n ls (w :: rest)))) : Run Z EL p e below s n0 fc fs Q (T.setTop (mkF m pc ls st)) :=
  call_special X hd w1 w2 wc wi hz hr hy hC hsf hst hsize hlen hW hfr hlo hce hsl hn fun T' h' v g hh X' q => by obtain ⟨w, rfl, q⟩ := q; exact K T' h' w g hh X' q
theorem call_special_n (X : Sd kn Z a0 EL y bytes maxL ret p l e R s m args below meth c n0 sf h kc ks T) {rm : Room} {ybytes : ByteArray} {yL : Nat} {yret : Option FieldType} {z : MethodName} {sfc : List Addr} {Qn : Heap → List Addr → Prop} {pc n index W : Nat} {ls : Array Slot} {st rest argsL : List Value} {a : Addr} (hd : decode bytes pc = .ok (.invokespecial index, 3)) (w1 : (Cond.methodLink y.cls index z).before a0 Z = true) (w2 : (Cond.instanceMethod z).before a0 Z = true) (wc : (Cond.code z ybytes yL yret).before a0 Z = true) (wi : (Cond.initialized z.cls).before a0 Z = true) (hz : z.name = "<init>") (hr : yret = none) (hy : z.cls ≠ "java/lang/invoke/MethodHandle" ∧ z.cls ≠ "java/lang/invoke/VarHandle") (hC : Ctr kn l Z EL z ybytes yL yret [] rm n0 sfc (.ref a :: argsL).toArray h (Rn Qn)) (hsf : ∀ x ∈ sfc, x ∈ sf) (hst : st = argsL.reverse ++ .ref a :: rest) (hsize : ls.size = maxL) (hlen : ∀ sig, parseMethodDescriptor z.desc = some sig → argsL.length = sig.parameters.length) (hW : (rest.map fun v => v.category).sum ≤ W) (hfr : rm.frames + 1 ≤ R.frames) (hlo : W + (yL + 11) + rm.locals ≤ R.locals) (hce : kc + rm.cells ≤ R.cells) (hsl : ks + rm.slots ≤ R.slots) (hn : pc + 3 = n) (K : ∀ T' h' sfn, h.size ≤ h'.size → Sd kn Z a0 EL y bytes maxL ret p l e R s m args below meth c n0 (sf ++ sfn) h' (kc + rm.cells) (ks + rm.slots) T' → Qn h' sfn → Run Z EL p e below s n0 fc fs Q (T'.setTop (mkF m n ls rest))) : Run Z EL p e below s n0 fc fs Q (T.setTop (mkF m pc ls st)) :=
  call_special X hd w1 w2 wc wi hz hr hy hC hsf hst hsize hlen hW hfr hlo hce hsl hn fun T' h' v g hh X' q => by obtain ⟨rfl, q⟩ := q; exact K T' h' g hh X' q
theorem joinT (X : Sd kn Z a0 EL y bytes maxL ret p l e R s m args below meth c n0 sf h kc ks T) {α : Type} (P : α → Prop) (f : α → JFrame) {t : State} (J : ∀ T' v, Sd kn Z a0 EL y bytes maxL ret p l e R s m args below meth c n0 sf h kc ks T' → P v → Run Z EL p e below s n0 fc fs Q (T'.setTop (f v))) (K : (∀ T' v, Sd kn Z a0 EL y bytes maxL ret p l e R s m args below meth c n0 sf h kc ks T' → P v → Run Z EL p e below s n0 fc fs Q (T'.setTop (f v))) → Run Z EL p e below s n0 fc fs Q t) : Run Z EL p e below s n0 fc fs Q t := K J
theorem joinH (X : Sd kn Z a0 EL y bytes maxL ret p l e R s m args below meth c n0 sf h kc ks T) (kc' ks' : Nat) {α : Type} (P : α → Heap → List Addr → Prop) (f : α → JFrame) {t : State} (J : ∀ T' h' sf' v, Sd kn Z a0 EL y bytes maxL ret p l e R s m args below meth c n0 sf' h' kc' ks' T' → P v h' sf' → Run Z EL p e below s n0 fc fs Q (T'.setTop (f v))) (K : (∀ T' h' sf' v, Sd kn Z a0 EL y bytes maxL ret p l e R s m args below meth c n0 sf' h' kc' ks' T' → P v h' sf' → Run Z EL p e below s n0 fc fs Q (T'.setTop (f v))) → Run Z EL p e below s n0 fc fs Q t) : Run Z EL p e below s n0 fc fs Q t := K J
theorem loopT (X : Sd kn Z a0 EL y bytes maxL ret p l e R s m args below meth c n0 sf h kc ks T) {α : Type} (P : α → Heap → Prop) (mu : α → Nat) (f : α → JFrame) (J : ∀ T' h' v, Sd kn Z a0 EL y bytes maxL ret p l e R s m args below meth c n0 sf h' kc ks T' → P v h' → (∀ T'' h'' v', mu v' < mu v → Sd kn Z a0 EL y bytes maxL ret p l e R s m args below meth c n0 sf h'' kc ks T'' → P v' h'' → Run Z EL p e below s n0 fc fs Q (T''.setTop (f v'))) → Run Z EL p e below s n0 fc fs Q (T'.setTop (f v))) : ∀ T' h' v, Sd kn Z a0 EL y bytes maxL ret p l e R s m args below meth c n0 sf h' kc ks T' → P v h' → Run Z EL p e below s n0 fc fs Q (T'.setTop (f v)) := by
  have key : ∀ n T' h' v, mu v = n → Sd kn Z a0 EL y bytes maxL ret p l e R s m args below meth c n0 sf h' kc ks T' → P v h' → Run Z EL p e below s n0 fc fs Q (T'.setTop (f v)) := by
    intro n
    induction n using Nat.strongRecOn with
    | ind n ih =>
      intro T' h' v hm X' hP
      exact J T' h' v X' hP fun T'' h'' v' hlt X'' hP'' => ih (mu v') (hm ▸ hlt) T'' h'' v' rfl X'' hP''
  intro T' h' v X' hP
  exact key _ T' h' v rfl X' hP
theorem eqI_v {args : Array Value} {first s : State} {o : Option Outcome} {idx : List Nat} {t : Term} {z : Int32} (h : (Jvm.Cond.eq t (Term.int z)).value args first o s idx = some true) : t.eval args first o idx s = some (.int z) := by
  simp only [Jvm.Cond.value, Term.eval] at h
  cases ht : t.eval args first o idx s with
  | none => simp [ht] at h
  | some x => cases x <;> simp [ht] at h ⊢; exact h
theorem lenOfTerm {args : Array Value} {first s : State} {o : Option Outcome} {idx : List Nat} {t : Term} {k : Int32} {a : Addr} {cl : Cell} {n : Nat} (hh : (Term.length t).eval args first o idx s = some (.int k)) (ht : t.eval args first o idx s = some (.ref a)) (hc : s.heap[a]? = some cl) (hk : k.toInt = n) : cl.slots.size = n := by
  simp only [Term.eval, ht, Option.bind_eq_bind, Option.bind_some] at hh
  obtain ⟨c2, h1, h2⟩ := Option.bind_eq_some_iff.mp hh
  have h3 := (State.arrayAt?_spec h1).1
  cases hc.symm.trans h3
  by_cases q : cl.slots.size < 2 ^ 31
  · simp only [q, if_true, Option.pure_def, Option.some.injEq, Value.int.injEq] at h2
    have h4 : (cl.slots.size.toInt32).toInt = cl.slots.size := Int32.toInt_ofNat_small q
    rw [h2, hk] at h4
    omega
  · simp [q] at h2
theorem eqR_v {args : Array Value} {first s : State} {o : Option Outcome} {idx : List Nat} {t u : Term} {a : Addr} (hh : (Jvm.Cond.eq t u).value args first o s idx = some true) (hu : u.eval args first o idx s = some (.ref a)) : t.eval args first o idx s = some (.ref a) := by
  simp only [Jvm.Cond.value, hu] at hh
  cases ht : t.eval args first o idx s with
  | none => simp [ht] at hh
  | some x => cases x <;> simp [ht] at hh ⊢; exact hh
theorem Ark.start (hf : Fit Z) {cl : Cell} (A : Arr Z Z.heap a cl ty) (hl : cl.slots.size = vs.length) (hb : vs.length < 2147483648) (H : ∀ i, i < vs.length → cl.slots[i]? = vs[i]?) : Ark Z Z.heap a ty vs := by
  have e1 : cl.slots = vs.toArray := by
    apply Array.ext
    · simpa using hl
    · intro i h1 h2
      have q := H i (by omega)
      rw [Array.getElem?_eq_getElem h1, List.getElem?_eq_getElem (by omega)] at q
      simpa using Option.some.inj q
  refine ⟨cl, A, e1, hb, fun v hv => ?_⟩
  obtain ⟨i, hi, rfl⟩ := List.getElem_of_mem hv
  have q := elem_fits hf A (j := Int32.ofNat i) (v := vs[i]) ?_ ?_
  · exact q
  · intro q
    have e2 : (Int32.ofNat i).toInt = i := Int32.toInt_ofNat_small (by omega)
    obtain ⟨g1, g2⟩ := toNatC e2
    rcases q with q | q
    · exact g2 q
    · rw [g1] at q; omega
  · have e2 : (Int32.ofNat i).toInt = i := Int32.toInt_ofNat_small (by omega)
    rw [(toNatC e2).1, e1]; simp
end A
end Jvm.OwnW
namespace Jvm.Pilot.@@N@@
open Jvm Jvm.ClassFile Sem Op Lib Jvm.Free Jvm.Stand Jvm.LawKit Jvm.RoadKit Jvm.OwnW Bundle Jvm.Pilot.@@N@@.Jvm.D

def lo8 (x : Int32) : Int32 := x.toInt8.toInt32
theorem own_nat {i : Nat} (h : i < 2147483648) : (Int32.ofNat i).toInt = i := Int32.toInt_ofNat_small h
theorem own_lt {i n : Nat} (hi : i < 2147483648) (hn : n < 2147483648) : Int32.ofNat i < Int32.ofNat n ↔ i < n := by
  rw [Int32.lt_iff_toInt_lt, own_nat hi, own_nat hn]; omega
theorem own_eqn {i n : Nat} (hi : i < 2147483648) (hn : n < 2147483648) : Int32.ofNat i = Int32.ofNat n ↔ i = n := by
  rw [← Int32.toInt_inj, own_nat hi, own_nat hn]; omega
theorem own_up (i : Nat) : Int32.ofNat i + 1 = Int32.ofNat (i + 1) := by
  apply Int32.toInt_inj.mp; rw [Int32.toInt_add]; simp [Int32.toInt_ofNat]
def own_dst (cs : List Int32) (i : Nat) : List Value := ((cs.take i).map lo8 ++ List.replicate (cs.length - i) 0).map Value.int
theorem own_dst_len (cs : List Int32) {i : Nat} (h : i ≤ cs.length) : (own_dst cs i).length = cs.length := by simp [own_dst]; omega
theorem own_dst0 (cs : List Int32) : own_dst cs 0 = List.replicate cs.length (Value.int 0) := by simp [own_dst]
theorem own_dstN (cs : List Int32) : own_dst cs cs.length = (cs.map lo8).map Value.int := by simp [own_dst]
theorem own_dst_set (cs : List Int32) {i : Nat} (h : i < cs.length) : (own_dst cs i).set i (Value.int (lo8 (cs.getD i 0))) = own_dst cs (i + 1) := by
  have e : cs.length - i = (cs.length - (i + 1)) + 1 := by omega
  have hd : cs.getD i 0 = cs[i] := by simp [List.getD, h]
  have ht : (cs.take i).length = i := by simp; omega
  simp only [own_dst, hd, e, List.replicate_succ, List.map_append, List.map_cons]
  rw [List.set_append_right _ _ (by simp; omega)]
  have e2 : i - (List.map Value.int (List.map lo8 (List.take i cs))).length = 0 := by simp; omega
  rw [e2, List.set_cons_zero, List.take_succ_eq_append_getElem h]
  simp only [List.map_append, List.map_cons, List.map_nil, List.append_assoc, List.cons_append, List.nil_append]
theorem own_get (cs : List Int32) {i : Nat} (h : i < cs.length) : (cs.map Value.int)[i]? = some (Value.int (cs.getD i 0)) := by
  simp [List.getElem?_eq_getElem, h, List.getD]
theorem own_mem (cs : List Int32) {i : Nat} (h : i < cs.length) : cs.getD i 0 ∈ cs := by
  have hd : cs.getD i 0 = cs[i] := by simp [List.getD, h]
  rw [hd]; exact List.getElem_mem h
theorem own_narB (x : Int32) : nar .byte (lo8 x) = lo8 x := by
  show (x.toInt8.toInt32).toInt8.toInt32 = x.toInt8.toInt32
  simp
theorem own_narC {c : Int32} (h0 : ¬ c < 0) (h1 : ¬ 255 < c) : nar .char c = c := by
  have e : (255 : Int32).toInt = 255 := rfl
  have e0 : (0 : Int32).toInt = 0 := rfl
  rw [Int32.lt_iff_toInt_lt] at h0 h1
  rw [e] at h1
  rw [e0] at h0
  apply Int32.toInt_inj.mp
  have h2 := c_i2c c
  show (c.toUInt32.toUInt16.toUInt32.toInt32).toInt = c.toInt
  omega
theorem own_c0 (n : Int32) : ((n - n).toUInt32 >>> ((31 : Int32) &&& 31).toUInt32).toInt32.toInt8.toInt32 = 0 := by
  have : n - n = 0 := by simp
  rw [this]; decide
theorem own_a0 {P : Int32 → Prop} : ∀ c ∈ ([] : List Int32), P c := fun _ q => nomatch q
theorem own_aS {P : Int32 → Prop} {x : Int32} {L : List Int32} (q : P x) (r : ∀ c ∈ L, P c) : ∀ c ∈ x :: L, P c := fun c z => (List.mem_cons.mp z).elim (fun u => u ▸ q) (r c)
/-- a String of Latin-1 chars -/
def StrL (Z : State) (h : Heap) (x : Addr) (t : Addr) (cs : List Int32) : Prop := Exa Z h x "java/lang/String" ∧ Fld Z h x "java/lang/String" "coder" "B" (.int 0) ∧ Fld Z h x "java/lang/String" "value" "[B" (.ref t) ∧ Ark Z h t .byte ((cs.map lo8).map Value.int)
theorem StrL.keep {Z : State} {h h' : Heap} {x t : Addr} {cs : List Int32} {ws : List Addr} (S : StrL Z h x t cs) (K : Keep h h' ws) (q1 : x ∉ ws) (q2 : t ∉ ws) : StrL Z h' x t cs := ⟨S.1.keep K, S.2.1.keep K q1, S.2.2.1.keep K q1, S.2.2.2.keep K q2⟩
theorem StrL.ext {Z : State} {h h' : Heap} {x t : Addr} {cs : List Int32} (S : StrL Z h x t cs) (E : Ext h h') : StrL Z h' x t cs := ⟨S.1.ext E, S.2.1.ext E, S.2.2.1.ext E, S.2.2.2.ext E⟩

def own_EL : List (String × Nat) := [("java/lang/String", 7)]
theorem own_EW {Z : State} {a0 : Array Value} (hw : ∀ d ∈ tables_1, d.before a0 Z = true) : EW Z a0 own_EL := (EW.cons (text := "") (hw _ (List.mem_of_getElem? (i := 51) rfl)) (by decide) EW.nil)
theorem own_held {tb : Tables} {e : Env} {args : Array Value} {s : State} (hc : Calls_1 tb e args s) : ∀ p ∈ own_EL, Jvm.Lit.constHeld s p.1 p.2 := fun p hp => hc.1 p ((by decide +kernel : ∀ p ∈ own_EL, p ∈ consts_1) p hp)
theorem pn_java_lang_Record : plainName "java/lang/Record" = true := by first | (simp [plainName, overriddenIn]; done) | decide +kernel
theorem d8_0 : decode jdk_30_method_1_code 0 = .ok (.aload_n 0, 1) := by decide +kernel
theorem d8_1 : decode jdk_30_method_1_code 1 = .ok (.invokespecial 1, 3) := by decide +kernel
theorem d8_4 : decode jdk_30_method_1_code 4 = .ok (.return_, 1) := by decide +kernel
theorem ef_rm8 (m : MethodId) (x0 : Addr) : entryFrame m #[(.ref x0)] 1 = mkF m 0 #[.val (.ref x0)] [] := by first | (simp [entryFrame, mkF, argsToLocals, Value.category]; done) | rfl
set_option maxRecDepth 65536 in
set_option maxHeartbeats 40000000 in
theorem rm8 (l : Launch) (Z : State) (a0 : Array Value) (hw : ∀ d ∈ tables_1, d.before a0 Z = true) (hE : EW Z a0 own_EL) (ws : List Jvm.Cond) (r0 : Addr) (h0 : Heap) (n0 : Nat)  :
    Ctr False l Z own_EL (⟨"java/lang/Record", "<init>", "()V"⟩ : MethodName) jdk_30_method_1_code 1 none ws ({ frames := 1, cells := 0, slots := 0, locals := 12 } : Room) n0 ([]) #[(.ref r0)] h0 (Rn (fun h g => h0 = h)) := by
  refine Ctr.of (plainFor_of_name pn_java_lang_Record) hE (fun m => ef_rm8 m r0) ?_
  intro p e s m below meth c T0 X0
  refine OwnW.aloadN X0 (n := 1) d8_0 rfl rfl rfl ?_
  refine OwnW.initObj X0 (W := 0) (n := 4) d8_1 (hw _ (List.mem_of_getElem? (i := 41) rfl)) (hw _ (List.mem_of_getElem? (i := 12) rfl)) (hw _ (List.mem_of_getElem? (i := 13) rfl)) rfl (by decide) (by decide) (by decide) rfl ?_
  intro T1 X1
  exact OwnW.vreturn X1 rfl d8_4 rfl (by decide) (by decide)
theorem pd___V : parseMethodDescriptor "()V" = some ⟨[], none⟩ := by decide +kernel
theorem pn_com_example_brygga_brygga_Caller : plainName "com/example/brygga/brygga/Caller" = true := by first | (simp [plainName, overriddenIn]; done) | decide +kernel
theorem d7_0 : decode prog_10_method_1_code 0 = .ok (.aload_n 0, 1) := by decide +kernel
theorem d7_1 : decode prog_10_method_1_code 1 = .ok (.invokespecial 1, 3) := by decide +kernel
theorem d7_4 : decode prog_10_method_1_code 4 = .ok (.aload_n 0, 1) := by decide +kernel
theorem d7_5 : decode prog_10_method_1_code 5 = .ok (.aload_n 1, 1) := by decide +kernel
theorem d7_6 : decode prog_10_method_1_code 6 = .ok (.putfield 7, 3) := by decide +kernel
theorem d7_9 : decode prog_10_method_1_code 9 = .ok (.aload_n 0, 1) := by decide +kernel
theorem d7_10 : decode prog_10_method_1_code 10 = .ok (.aload_n 2, 1) := by decide +kernel
theorem d7_11 : decode prog_10_method_1_code 11 = .ok (.putfield 13, 3) := by decide +kernel
theorem d7_14 : decode prog_10_method_1_code 14 = .ok (.return_, 1) := by decide +kernel
theorem ef_rmC00 (m : MethodId) (x0 : Addr) : entryFrame m #[(.ref x0), .null, .null] 3 = mkF m 0 #[.val (.ref x0), .val .null, .val .null] [] := by first | (simp [entryFrame, mkF, argsToLocals, Value.category]; done) | rfl
set_option maxRecDepth 65536 in
set_option maxHeartbeats 40000000 in
theorem rmC00 (l : Launch) (Z : State) (a0 : Array Value) (hw : ∀ d ∈ tables_1, d.before a0 Z = true) (hE : EW Z a0 own_EL) (ws : List Jvm.Cond) (r0 : Addr) (h0 : Heap) (n0 : Nat) (O0 : Old Z n0 h0) (ge_r0 : n0 ≤ r0) (E0 : Exa Z h0 r0 "com/example/brygga/brygga/Caller") (u1 u2 : Value) (F1 : Fld Z h0 r0 "com/example/brygga/brygga/Caller" "subject" "Ljava/lang/String;" u1) (F2 : Fld Z h0 r0 "com/example/brygga/brygga/Caller" "hsaId" "Ljava/lang/String;" u2) :
    Ctr False l Z own_EL (⟨"com/example/brygga/brygga/Caller", "<init>", "(Ljava/lang/String;Ljava/lang/String;)V"⟩ : MethodName) prog_10_method_1_code 3 none ws ({ frames := 2, cells := 0, slots := 0, locals := 24 } : Room) n0 (r0 :: []) #[(.ref r0), .null, .null] h0 (Rn (fun h g => Keep h0 h [r0] ∧ Fld Z h r0 "com/example/brygga/brygga/Caller" "hsaId" "Ljava/lang/String;" .null)) := by
  refine Ctr.of (plainFor_of_name pn_com_example_brygga_brygga_Caller) hE (fun m => ef_rmC00 m r0) ?_
  intro p e s m below meth c T0 X0
  have Z0 : Keep h0 h0 [r0] := Keep.refl _ _
  refine OwnW.aloadN X0 (n := 1) d7_0 rfl rfl rfl ?_
  refine OwnW.call_special_n X0 (z := (⟨"java/lang/Record", "<init>", "()V"⟩ : MethodName)) (a := r0) (n := 4) d7_1 (hw _ (List.mem_of_getElem? (i := 36) rfl)) (hw _ (List.mem_of_getElem? (i := 37) rfl)) (hw _ (List.mem_of_getElem? (i := 40) rfl)) (hw _ (List.mem_of_getElem? (i := 39) rfl)) rfl rfl (by decide) (rm8 l Z a0 hw hE [] r0 h0 n0) OwnW.sf0 (argsL := []) (rest := []) rfl rfl (OwnW.lenA pd___V rfl) (W := 0) (Nat.le_of_eq rfl) (by decide) (by decide) (by decide) (by decide) rfl ?_
  intro T1 h1 g1 hle1 X1 q1
  subst q1
  refine OwnW.aloadN X1 (n := 5) d7_4 rfl rfl rfl ?_
  refine OwnW.aloadN X1 (n := 6) d7_5 rfl rfl rfl ?_
  refine OwnW.putfield X1 (ty := (.object "java/lang/String")) (v' := .null) (n := 9) d7_6 (hw _ (List.mem_of_getElem? (i := 42) rfl)) Via.refl F1 E0 (Or.inr ⟨(hw _ (List.mem_of_getElem? (i := 43) rfl)), rfl, rfl⟩) (hw _ (List.mem_of_getElem? (i := 31) rfl)) (by decide) rfl rfl ge_r0 (List.mem_append_left _ (List.mem_cons_self ..)) rfl ?_
  intro T2 h2 X2 W2 Fw2
  have f3 := F2.other W2 (Or.inr (slot_ne (Or.inr (hw _ (List.mem_of_getElem? (i := 45) rfl))) (Or.inr (hw _ (List.mem_of_getElem? (i := 43) rfl))) (by decide) (t := (.object "java/lang/String")) (t' := (.object "java/lang/String")) (by decide) (by decide)))
  have K2 := (Keep.of_wr W2)
  have O2 := O0.keep K2 (allS ge_r0 all0)
  have Z2 : Keep h0 h2 [r0] := Z0.trans K2 (allS (P := fun x => x ∈ [r0] ∨ h0.size ≤ x) (Or.inl (List.mem_of_getElem? (i := 0) rfl)) all0)
  refine OwnW.aloadN X2 (n := 10) d7_9 rfl rfl rfl ?_
  refine OwnW.aloadN X2 (n := 11) d7_10 rfl rfl rfl ?_
  have f4 := (E0.keep K2)
  refine OwnW.putfield X2 (ty := (.object "java/lang/String")) (v' := .null) (n := 14) d7_11 (hw _ (List.mem_of_getElem? (i := 44) rfl)) Via.refl f3 f4 (Or.inr ⟨(hw _ (List.mem_of_getElem? (i := 45) rfl)), rfl, rfl⟩) (hw _ (List.mem_of_getElem? (i := 31) rfl)) (by decide) rfl rfl ge_r0 (List.mem_append_left _ (List.mem_cons_self ..)) rfl ?_
  intro T5 h5 X5 W5 Fw5
  have f6 := Fw2.other W5 (Or.inr (slot_ne (Or.inr (hw _ (List.mem_of_getElem? (i := 43) rfl))) (Or.inr (hw _ (List.mem_of_getElem? (i := 45) rfl))) (by decide) (t := (.object "java/lang/String")) (t' := (.object "java/lang/String")) (by decide) (by decide)))
  have K5 := (Keep.of_wr W5)
  have O5 := O2.keep K5 (allS ge_r0 all0)
  have Z5 : Keep h0 h5 [r0] := Z2.trans K5 (allS (P := fun x => x ∈ [r0] ∨ h0.size ≤ x) (Or.inl (List.mem_of_getElem? (i := 0) rfl)) all0)
  exact OwnW.vreturn X5 rfl d7_14 ⟨Z5, Fw5⟩ (by decide) (by decide)
theorem ef_rmC01 (m : MethodId) (x0 : Addr) (x2 : Addr) : entryFrame m #[(.ref x0), .null, (.ref x2)] 3 = mkF m 0 #[.val (.ref x0), .val .null, .val (.ref x2)] [] := by first | (simp [entryFrame, mkF, argsToLocals, Value.category]; done) | rfl
set_option maxRecDepth 65536 in
set_option maxHeartbeats 40000000 in
theorem rmC01 (l : Launch) (Z : State) (a0 : Array Value) (hw : ∀ d ∈ tables_1, d.before a0 Z = true) (hE : EW Z a0 own_EL) (ws : List Jvm.Cond) (r0 : Addr) (r2 : Addr) (h0 : Heap) (n0 : Nat) (O0 : Old Z n0 h0) (ge_r0 : n0 ≤ r0) (E0 : Exa Z h0 r0 "com/example/brygga/brygga/Caller") (u1 u2 : Value) (F1 : Fld Z h0 r0 "com/example/brygga/brygga/Caller" "subject" "Ljava/lang/String;" u1) (F2 : Fld Z h0 r0 "com/example/brygga/brygga/Caller" "hsaId" "Ljava/lang/String;" u2) :
    Ctr False l Z own_EL (⟨"com/example/brygga/brygga/Caller", "<init>", "(Ljava/lang/String;Ljava/lang/String;)V"⟩ : MethodName) prog_10_method_1_code 3 none ws ({ frames := 2, cells := 0, slots := 0, locals := 24 } : Room) n0 (r0 :: []) #[(.ref r0), .null, (.ref r2)] h0 (Rn (fun h g => Keep h0 h [r0] ∧ Fld Z h r0 "com/example/brygga/brygga/Caller" "hsaId" "Ljava/lang/String;" (.ref r2))) := by
  refine Ctr.of (plainFor_of_name pn_com_example_brygga_brygga_Caller) hE (fun m => ef_rmC01 m r0 r2) ?_
  intro p e s m below meth c T0 X0
  have Z0 : Keep h0 h0 [r0] := Keep.refl _ _
  refine OwnW.aloadN X0 (n := 1) d7_0 rfl rfl rfl ?_
  refine OwnW.call_special_n X0 (z := (⟨"java/lang/Record", "<init>", "()V"⟩ : MethodName)) (a := r0) (n := 4) d7_1 (hw _ (List.mem_of_getElem? (i := 36) rfl)) (hw _ (List.mem_of_getElem? (i := 37) rfl)) (hw _ (List.mem_of_getElem? (i := 40) rfl)) (hw _ (List.mem_of_getElem? (i := 39) rfl)) rfl rfl (by decide) (rm8 l Z a0 hw hE [] r0 h0 n0) OwnW.sf0 (argsL := []) (rest := []) rfl rfl (OwnW.lenA pd___V rfl) (W := 0) (Nat.le_of_eq rfl) (by decide) (by decide) (by decide) (by decide) rfl ?_
  intro T1 h1 g1 hle1 X1 q1
  subst q1
  refine OwnW.aloadN X1 (n := 5) d7_4 rfl rfl rfl ?_
  refine OwnW.aloadN X1 (n := 6) d7_5 rfl rfl rfl ?_
  refine OwnW.putfield X1 (ty := (.object "java/lang/String")) (v' := .null) (n := 9) d7_6 (hw _ (List.mem_of_getElem? (i := 42) rfl)) Via.refl F1 E0 (Or.inr ⟨(hw _ (List.mem_of_getElem? (i := 43) rfl)), rfl, rfl⟩) (hw _ (List.mem_of_getElem? (i := 31) rfl)) (by decide) rfl rfl ge_r0 (List.mem_append_left _ (List.mem_cons_self ..)) rfl ?_
  intro T2 h2 X2 W2 Fw2
  have f3 := F2.other W2 (Or.inr (slot_ne (Or.inr (hw _ (List.mem_of_getElem? (i := 45) rfl))) (Or.inr (hw _ (List.mem_of_getElem? (i := 43) rfl))) (by decide) (t := (.object "java/lang/String")) (t' := (.object "java/lang/String")) (by decide) (by decide)))
  have K2 := (Keep.of_wr W2)
  have O2 := O0.keep K2 (allS ge_r0 all0)
  have Z2 : Keep h0 h2 [r0] := Z0.trans K2 (allS (P := fun x => x ∈ [r0] ∨ h0.size ≤ x) (Or.inl (List.mem_of_getElem? (i := 0) rfl)) all0)
  refine OwnW.aloadN X2 (n := 10) d7_9 rfl rfl rfl ?_
  refine OwnW.aloadN X2 (n := 11) d7_10 rfl rfl rfl ?_
  have f4 := (E0.keep K2)
  refine OwnW.putfield X2 (ty := (.object "java/lang/String")) (v' := (.ref r2)) (n := 14) d7_11 (hw _ (List.mem_of_getElem? (i := 44) rfl)) Via.refl f3 f4 (Or.inr ⟨(hw _ (List.mem_of_getElem? (i := 45) rfl)), rfl, rfl⟩) (hw _ (List.mem_of_getElem? (i := 31) rfl)) (by decide) rfl rfl ge_r0 (List.mem_append_left _ (List.mem_cons_self ..)) rfl ?_
  intro T5 h5 X5 W5 Fw5
  have f6 := Fw2.other W5 (Or.inr (slot_ne (Or.inr (hw _ (List.mem_of_getElem? (i := 43) rfl))) (Or.inr (hw _ (List.mem_of_getElem? (i := 45) rfl))) (by decide) (t := (.object "java/lang/String")) (t' := (.object "java/lang/String")) (by decide) (by decide)))
  have K5 := (Keep.of_wr W5)
  have O5 := O2.keep K5 (allS ge_r0 all0)
  have Z5 : Keep h0 h5 [r0] := Z2.trans K5 (allS (P := fun x => x ∈ [r0] ∨ h0.size ≤ x) (Or.inl (List.mem_of_getElem? (i := 0) rfl)) all0)
  exact OwnW.vreturn X5 rfl d7_14 ⟨Z5, Fw5⟩ (by decide) (by decide)
theorem ef_rmC10 (m : MethodId) (x0 : Addr) (x1 : Addr) : entryFrame m #[(.ref x0), (.ref x1), .null] 3 = mkF m 0 #[.val (.ref x0), .val (.ref x1), .val .null] [] := by first | (simp [entryFrame, mkF, argsToLocals, Value.category]; done) | rfl
set_option maxRecDepth 65536 in
set_option maxHeartbeats 40000000 in
theorem rmC10 (l : Launch) (Z : State) (a0 : Array Value) (hw : ∀ d ∈ tables_1, d.before a0 Z = true) (hE : EW Z a0 own_EL) (ws : List Jvm.Cond) (r0 : Addr) (r1 : Addr) (h0 : Heap) (n0 : Nat) (O0 : Old Z n0 h0) (ge_r0 : n0 ≤ r0) (E0 : Exa Z h0 r0 "com/example/brygga/brygga/Caller") (u1 u2 : Value) (F1 : Fld Z h0 r0 "com/example/brygga/brygga/Caller" "subject" "Ljava/lang/String;" u1) (F2 : Fld Z h0 r0 "com/example/brygga/brygga/Caller" "hsaId" "Ljava/lang/String;" u2) :
    Ctr False l Z own_EL (⟨"com/example/brygga/brygga/Caller", "<init>", "(Ljava/lang/String;Ljava/lang/String;)V"⟩ : MethodName) prog_10_method_1_code 3 none ws ({ frames := 2, cells := 0, slots := 0, locals := 24 } : Room) n0 (r0 :: []) #[(.ref r0), (.ref r1), .null] h0 (Rn (fun h g => Keep h0 h [r0] ∧ Fld Z h r0 "com/example/brygga/brygga/Caller" "hsaId" "Ljava/lang/String;" .null)) := by
  refine Ctr.of (plainFor_of_name pn_com_example_brygga_brygga_Caller) hE (fun m => ef_rmC10 m r0 r1) ?_
  intro p e s m below meth c T0 X0
  have Z0 : Keep h0 h0 [r0] := Keep.refl _ _
  refine OwnW.aloadN X0 (n := 1) d7_0 rfl rfl rfl ?_
  refine OwnW.call_special_n X0 (z := (⟨"java/lang/Record", "<init>", "()V"⟩ : MethodName)) (a := r0) (n := 4) d7_1 (hw _ (List.mem_of_getElem? (i := 36) rfl)) (hw _ (List.mem_of_getElem? (i := 37) rfl)) (hw _ (List.mem_of_getElem? (i := 40) rfl)) (hw _ (List.mem_of_getElem? (i := 39) rfl)) rfl rfl (by decide) (rm8 l Z a0 hw hE [] r0 h0 n0) OwnW.sf0 (argsL := []) (rest := []) rfl rfl (OwnW.lenA pd___V rfl) (W := 0) (Nat.le_of_eq rfl) (by decide) (by decide) (by decide) (by decide) rfl ?_
  intro T1 h1 g1 hle1 X1 q1
  subst q1
  refine OwnW.aloadN X1 (n := 5) d7_4 rfl rfl rfl ?_
  refine OwnW.aloadN X1 (n := 6) d7_5 rfl rfl rfl ?_
  refine OwnW.putfield X1 (ty := (.object "java/lang/String")) (v' := (.ref r1)) (n := 9) d7_6 (hw _ (List.mem_of_getElem? (i := 42) rfl)) Via.refl F1 E0 (Or.inr ⟨(hw _ (List.mem_of_getElem? (i := 43) rfl)), rfl, rfl⟩) (hw _ (List.mem_of_getElem? (i := 31) rfl)) (by decide) rfl rfl ge_r0 (List.mem_append_left _ (List.mem_cons_self ..)) rfl ?_
  intro T2 h2 X2 W2 Fw2
  have f3 := F2.other W2 (Or.inr (slot_ne (Or.inr (hw _ (List.mem_of_getElem? (i := 45) rfl))) (Or.inr (hw _ (List.mem_of_getElem? (i := 43) rfl))) (by decide) (t := (.object "java/lang/String")) (t' := (.object "java/lang/String")) (by decide) (by decide)))
  have K2 := (Keep.of_wr W2)
  have O2 := O0.keep K2 (allS ge_r0 all0)
  have Z2 : Keep h0 h2 [r0] := Z0.trans K2 (allS (P := fun x => x ∈ [r0] ∨ h0.size ≤ x) (Or.inl (List.mem_of_getElem? (i := 0) rfl)) all0)
  refine OwnW.aloadN X2 (n := 10) d7_9 rfl rfl rfl ?_
  refine OwnW.aloadN X2 (n := 11) d7_10 rfl rfl rfl ?_
  have f4 := (E0.keep K2)
  refine OwnW.putfield X2 (ty := (.object "java/lang/String")) (v' := .null) (n := 14) d7_11 (hw _ (List.mem_of_getElem? (i := 44) rfl)) Via.refl f3 f4 (Or.inr ⟨(hw _ (List.mem_of_getElem? (i := 45) rfl)), rfl, rfl⟩) (hw _ (List.mem_of_getElem? (i := 31) rfl)) (by decide) rfl rfl ge_r0 (List.mem_append_left _ (List.mem_cons_self ..)) rfl ?_
  intro T5 h5 X5 W5 Fw5
  have f6 := Fw2.other W5 (Or.inr (slot_ne (Or.inr (hw _ (List.mem_of_getElem? (i := 43) rfl))) (Or.inr (hw _ (List.mem_of_getElem? (i := 45) rfl))) (by decide) (t := (.object "java/lang/String")) (t' := (.object "java/lang/String")) (by decide) (by decide)))
  have K5 := (Keep.of_wr W5)
  have O5 := O2.keep K5 (allS ge_r0 all0)
  have Z5 : Keep h0 h5 [r0] := Z2.trans K5 (allS (P := fun x => x ∈ [r0] ∨ h0.size ≤ x) (Or.inl (List.mem_of_getElem? (i := 0) rfl)) all0)
  exact OwnW.vreturn X5 rfl d7_14 ⟨Z5, Fw5⟩ (by decide) (by decide)
theorem ef_rmC11 (m : MethodId) (x0 : Addr) (x1 : Addr) (x2 : Addr) : entryFrame m #[(.ref x0), (.ref x1), (.ref x2)] 3 = mkF m 0 #[.val (.ref x0), .val (.ref x1), .val (.ref x2)] [] := by first | (simp [entryFrame, mkF, argsToLocals, Value.category]; done) | rfl
set_option maxRecDepth 65536 in
set_option maxHeartbeats 40000000 in
theorem rmC11 (l : Launch) (Z : State) (a0 : Array Value) (hw : ∀ d ∈ tables_1, d.before a0 Z = true) (hE : EW Z a0 own_EL) (ws : List Jvm.Cond) (r0 : Addr) (r1 : Addr) (r2 : Addr) (h0 : Heap) (n0 : Nat) (O0 : Old Z n0 h0) (ge_r0 : n0 ≤ r0) (E0 : Exa Z h0 r0 "com/example/brygga/brygga/Caller") (u1 u2 : Value) (F1 : Fld Z h0 r0 "com/example/brygga/brygga/Caller" "subject" "Ljava/lang/String;" u1) (F2 : Fld Z h0 r0 "com/example/brygga/brygga/Caller" "hsaId" "Ljava/lang/String;" u2) :
    Ctr False l Z own_EL (⟨"com/example/brygga/brygga/Caller", "<init>", "(Ljava/lang/String;Ljava/lang/String;)V"⟩ : MethodName) prog_10_method_1_code 3 none ws ({ frames := 2, cells := 0, slots := 0, locals := 24 } : Room) n0 (r0 :: []) #[(.ref r0), (.ref r1), (.ref r2)] h0 (Rn (fun h g => Keep h0 h [r0] ∧ Fld Z h r0 "com/example/brygga/brygga/Caller" "hsaId" "Ljava/lang/String;" (.ref r2))) := by
  refine Ctr.of (plainFor_of_name pn_com_example_brygga_brygga_Caller) hE (fun m => ef_rmC11 m r0 r1 r2) ?_
  intro p e s m below meth c T0 X0
  have Z0 : Keep h0 h0 [r0] := Keep.refl _ _
  refine OwnW.aloadN X0 (n := 1) d7_0 rfl rfl rfl ?_
  refine OwnW.call_special_n X0 (z := (⟨"java/lang/Record", "<init>", "()V"⟩ : MethodName)) (a := r0) (n := 4) d7_1 (hw _ (List.mem_of_getElem? (i := 36) rfl)) (hw _ (List.mem_of_getElem? (i := 37) rfl)) (hw _ (List.mem_of_getElem? (i := 40) rfl)) (hw _ (List.mem_of_getElem? (i := 39) rfl)) rfl rfl (by decide) (rm8 l Z a0 hw hE [] r0 h0 n0) OwnW.sf0 (argsL := []) (rest := []) rfl rfl (OwnW.lenA pd___V rfl) (W := 0) (Nat.le_of_eq rfl) (by decide) (by decide) (by decide) (by decide) rfl ?_
  intro T1 h1 g1 hle1 X1 q1
  subst q1
  refine OwnW.aloadN X1 (n := 5) d7_4 rfl rfl rfl ?_
  refine OwnW.aloadN X1 (n := 6) d7_5 rfl rfl rfl ?_
  refine OwnW.putfield X1 (ty := (.object "java/lang/String")) (v' := (.ref r1)) (n := 9) d7_6 (hw _ (List.mem_of_getElem? (i := 42) rfl)) Via.refl F1 E0 (Or.inr ⟨(hw _ (List.mem_of_getElem? (i := 43) rfl)), rfl, rfl⟩) (hw _ (List.mem_of_getElem? (i := 31) rfl)) (by decide) rfl rfl ge_r0 (List.mem_append_left _ (List.mem_cons_self ..)) rfl ?_
  intro T2 h2 X2 W2 Fw2
  have f3 := F2.other W2 (Or.inr (slot_ne (Or.inr (hw _ (List.mem_of_getElem? (i := 45) rfl))) (Or.inr (hw _ (List.mem_of_getElem? (i := 43) rfl))) (by decide) (t := (.object "java/lang/String")) (t' := (.object "java/lang/String")) (by decide) (by decide)))
  have K2 := (Keep.of_wr W2)
  have O2 := O0.keep K2 (allS ge_r0 all0)
  have Z2 : Keep h0 h2 [r0] := Z0.trans K2 (allS (P := fun x => x ∈ [r0] ∨ h0.size ≤ x) (Or.inl (List.mem_of_getElem? (i := 0) rfl)) all0)
  refine OwnW.aloadN X2 (n := 10) d7_9 rfl rfl rfl ?_
  refine OwnW.aloadN X2 (n := 11) d7_10 rfl rfl rfl ?_
  have f4 := (E0.keep K2)
  refine OwnW.putfield X2 (ty := (.object "java/lang/String")) (v' := (.ref r2)) (n := 14) d7_11 (hw _ (List.mem_of_getElem? (i := 44) rfl)) Via.refl f3 f4 (Or.inr ⟨(hw _ (List.mem_of_getElem? (i := 45) rfl)), rfl, rfl⟩) (hw _ (List.mem_of_getElem? (i := 31) rfl)) (by decide) rfl rfl ge_r0 (List.mem_append_left _ (List.mem_cons_self ..)) rfl ?_
  intro T5 h5 X5 W5 Fw5
  have f6 := Fw2.other W5 (Or.inr (slot_ne (Or.inr (hw _ (List.mem_of_getElem? (i := 43) rfl))) (Or.inr (hw _ (List.mem_of_getElem? (i := 45) rfl))) (by decide) (t := (.object "java/lang/String")) (t' := (.object "java/lang/String")) (by decide) (by decide)))
  have K5 := (Keep.of_wr W5)
  have O5 := O2.keep K5 (allS ge_r0 all0)
  have Z5 : Keep h0 h5 [r0] := Z2.trans K5 (allS (P := fun x => x ∈ [r0] ∨ h0.size ≤ x) (Or.inl (List.mem_of_getElem? (i := 0) rfl)) all0)
  exact OwnW.vreturn X5 rfl d7_14 ⟨Z5, Fw5⟩ (by decide) (by decide)
theorem d9_0 : decode prog_10_method_3_code 0 = .ok (.aload_n 0, 1) := by decide +kernel
theorem d9_1 : decode prog_10_method_3_code 1 = .ok (.getfield 13, 3) := by decide +kernel
theorem d9_4 : decode prog_10_method_3_code 4 = .ok (.ifnull 7, 3) := by decide +kernel
theorem d9_11 : decode prog_10_method_3_code 11 = .ok (.iconst 0, 1) := by decide +kernel
theorem d9_12 : decode prog_10_method_3_code 12 = .ok (.ireturn, 1) := by decide +kernel
theorem ef_rmIn (m : MethodId) (x0 : Addr) : entryFrame m #[(.ref x0)] 1 = mkF m 0 #[.val (.ref x0)] [] := by first | (simp [entryFrame, mkF, argsToLocals, Value.category]; done) | rfl
set_option maxRecDepth 65536 in
set_option maxHeartbeats 40000000 in
theorem rmIn (l : Launch) (Z : State) (a0 : Array Value) (hw : ∀ d ∈ tables_1, d.before a0 Z = true) (hE : EW Z a0 own_EL) (ws : List Jvm.Cond) (r0 : Addr) (h0 : Heap) (n0 : Nat) (F1 : Fld Z h0 r0 "com/example/brygga/brygga/Caller" "hsaId" "Ljava/lang/String;" .null) :
    Ctr False l Z own_EL (⟨"com/example/brygga/brygga/Caller", "identified", "()Z"⟩ : MethodName) prog_10_method_3_code 1 (some .boolean) ws ({ frames := 0, cells := 0, slots := 0, locals := 0 } : Room) n0 ([]) #[(.ref r0)] h0 (Rt (fun w h g => w = .int 0 ∧ h0 = h)) := by
  refine Ctr.of (plainFor_of_name pn_com_example_brygga_brygga_Caller) hE (fun m => ef_rmIn m r0) ?_
  intro p e s m below meth c T0 X0
  refine OwnW.aloadN X0 (n := 1) d9_0 rfl rfl rfl ?_
  refine OwnW.getfield X0 (n := 4) d9_1 (hw _ (List.mem_of_getElem? (i := 44) rfl)) Via.refl F1 rfl ?_
  intro T1 X1
  refine OwnW.ifnull_y X1 (n1 := 11) d9_4 (by decide) rfl ?_
  refine OwnW.iconst X1 (z := (0 : Int32)) (n := 12) d9_11 rfl rfl ?_
  exact OwnW.ireturn X1 rfl (Or.inr (Or.inl rfl)) rfl d9_12 ⟨rfl, rfl⟩ (by decide) (by decide)
theorem d9_7 : decode prog_10_method_3_code 7 = .ok (.iconst 1, 1) := by decide +kernel
theorem d9_8 : decode prog_10_method_3_code 8 = .ok (.goto 4, 3) := by decide +kernel
theorem ef_rmIr (m : MethodId) (x0 : Addr) : entryFrame m #[(.ref x0)] 1 = mkF m 0 #[.val (.ref x0)] [] := by first | (simp [entryFrame, mkF, argsToLocals, Value.category]; done) | rfl
set_option maxRecDepth 65536 in
set_option maxHeartbeats 40000000 in
theorem rmIr (l : Launch) (Z : State) (a0 : Array Value) (hw : ∀ d ∈ tables_1, d.before a0 Z = true) (hE : EW Z a0 own_EL) (ws : List Jvm.Cond) (r0 : Addr) (h0 : Heap) (n0 : Nat) (o : Addr) (F1 : Fld Z h0 r0 "com/example/brygga/brygga/Caller" "hsaId" "Ljava/lang/String;" (.ref o)) :
    Ctr False l Z own_EL (⟨"com/example/brygga/brygga/Caller", "identified", "()Z"⟩ : MethodName) prog_10_method_3_code 1 (some .boolean) ws ({ frames := 0, cells := 0, slots := 0, locals := 0 } : Room) n0 ([]) #[(.ref r0)] h0 (Rt (fun w h g => w = .int 1 ∧ h0 = h)) := by
  refine Ctr.of (plainFor_of_name pn_com_example_brygga_brygga_Caller) hE (fun m => ef_rmIr m r0) ?_
  intro p e s m below meth c T0 X0
  refine OwnW.aloadN X0 (n := 1) d9_0 rfl rfl rfl ?_
  refine OwnW.getfield X0 (n := 4) d9_1 (hw _ (List.mem_of_getElem? (i := 44) rfl)) Via.refl F1 rfl ?_
  intro T1 X1
  refine OwnW.ifnull_n X1 (n2 := 7) d9_4 rfl ?_
  refine OwnW.iconst X1 (z := (1 : Int32)) (n := 8) d9_7 rfl rfl ?_
  refine OwnW.goto X1 (n := 12) d9_8 (by decide) rfl ?_
  exact OwnW.ireturn X1 rfl (Or.inr (Or.inl rfl)) rfl d9_12 ⟨rfl, rfl⟩ (by decide) (by decide)
theorem pn_java_lang_String : plainName "java/lang/String" = true := by first | (simp [plainName, overriddenIn]; done) | decide +kernel
theorem d2_0 : decode jdk_42_method_149_code 0 = .ok (.aload_n 0, 1) := by decide +kernel
theorem d2_1 : decode jdk_42_method_149_code 1 = .ok (.invokespecial 1, 3) := by decide +kernel
theorem d2_4 : decode jdk_42_method_149_code 4 = .ok (.iload_n 3, 1) := by decide +kernel
theorem d2_5 : decode jdk_42_method_149_code 5 = .ok (.ifCond .ne 22, 3) := by decide +kernel
theorem d2_8 : decode jdk_42_method_149_code 8 = .ok (.aload_n 0, 1) := by decide +kernel
theorem d2_9 : decode jdk_42_method_149_code 9 = .ok (.ldc 7, 2) := by decide +kernel
theorem d2_11 : decode jdk_42_method_149_code 11 = .ok (.getfield 9, 3) := by decide +kernel
theorem d2_14 : decode jdk_42_method_149_code 14 = .ok (.putfield 9, 3) := by decide +kernel
theorem d2_17 : decode jdk_42_method_149_code 17 = .ok (.aload_n 0, 1) := by decide +kernel
theorem d2_18 : decode jdk_42_method_149_code 18 = .ok (.ldc 7, 2) := by decide +kernel
theorem d2_20 : decode jdk_42_method_149_code 20 = .ok (.getfield 15, 3) := by decide +kernel
theorem d2_23 : decode jdk_42_method_149_code 23 = .ok (.putfield 15, 3) := by decide +kernel
theorem d2_26 : decode jdk_42_method_149_code 26 = .ok (.return_, 1) := by decide +kernel
theorem ef_rm2e (m : MethodId) (x0 : Addr) (x1 : Addr) : entryFrame m #[(.ref x0), (.ref x1), (.int (0 : Int32)), (.int (0 : Int32)), .null] 6 = mkF m 0 #[.val (.ref x0), .val (.ref x1), .val (.int (0 : Int32)), .val (.int (0 : Int32)), .val .null, .unset] [] := by first | (simp [entryFrame, mkF, argsToLocals, Value.category]; done) | rfl
set_option maxRecDepth 65536 in
set_option maxHeartbeats 40000000 in
theorem rm2e (l : Launch) (Z : State) (a0 : Array Value) (hw : ∀ d ∈ tables_1, d.before a0 Z = true) (hE : EW Z a0 own_EL) (ws : List Jvm.Cond) (r0 : Addr) (r1 : Addr) (h0 : Heap) (n0 : Nat) (O0 : Old Z n0 h0) (sfx : List Addr) (ge_r0 : n0 ≤ r0) (E0 : Exa Z h0 r0 "java/lang/String") (v1 v2 : Value) (F1 : Fld Z h0 r0 "java/lang/String" "value" "[B" v1) (F2 : Fld Z h0 r0 "java/lang/String" "coder" "B" v2) :
    Ctr False l Z own_EL (⟨"java/lang/String", "<init>", "([CIILjava/lang/Void;)V"⟩ : MethodName) jdk_42_method_149_code 6 none ws ({ frames := 1, cells := 4, slots := 8, locals := 12 } : Room) n0 (r0 :: sfx) #[(.ref r0), (.ref r1), (.int (0 : Int32)), (.int (0 : Int32)), .null] h0 (Rn (fun h g => Keep h0 h [r0] ∧ ∃ t, (∀ y ∈ sfx, y ≠ t) ∧ StrL Z h r0 t [])) := by
  refine Ctr.of (plainFor_of_name pn_java_lang_String) hE (fun m => ef_rm2e m r0 r1) ?_
  intro p e s m below meth c T0 X0
  have Z0 : Keep h0 h0 [r0] := Keep.refl _ _
  refine OwnW.aloadN X0 (n := 1) d2_0 rfl rfl rfl ?_
  refine OwnW.initObj X0 (W := 0) (n := 4) d2_1 (hw _ (List.mem_of_getElem? (i := 11) rfl)) (hw _ (List.mem_of_getElem? (i := 12) rfl)) (hw _ (List.mem_of_getElem? (i := 13) rfl)) rfl (by decide) (by decide) (by decide) rfl ?_
  intro T1 X1
  refine OwnW.iloadN X1 (n := 5) d2_4 rfl rfl ?_
  refine OwnW.if_ne X1  (n1 := 27) (n2 := 8) d2_5 (by decide) rfl rfl (fun q => absurd ((by decide) : (0 : Int32) = 0) q) (fun _ => ?_)
  refine OwnW.aloadN X1 (n := 9) d2_8 rfl rfl rfl ?_
  refine OwnW.ldcS X1 (bs := []) (nn := 0) (text := "") (n := 11) d2_9 (hw _ (List.mem_of_getElem? (i := 51) rfl)) (fun d hd => hw d ((by decide +kernel : ∀ d ∈ Bundle.stringAtoms, d ∈ tables_1) d hd)) (by decide) ⟨by decide, rfl⟩ (by decide) (by decide) (by decide) (by decide) (by decide) rfl ?_
  intro T2 h2 l2 t2 X2 E2 e2 c2 v2 a2 n2
  have K2 := (OwnW.kExt E2)
  have O2 := O0.keep K2 all0
  have Z2 : Keep h0 h2 [r0] := Z0.trans K2 (fun x hx => nomatch hx)
  obtain ⟨nl2, nt2⟩ := n2 r0 (List.mem_cons_self ..)
  have nx2 : ∀ y ∈ sfx, y ≠ t2 := fun y hx => (n2 y (List.mem_cons_of_mem _ hx)).2
  refine OwnW.getfield X2 (n := 14) d2_11 (hw _ (List.mem_of_getElem? (i := 28) rfl)) Via.refl v2 rfl ?_
  intro T3 X3
  have f4 := (F1.keep K2 nin0)
  have f5 := (E0.keep K2)
  refine OwnW.putfield X3 (ty := (.array .byte)) (v' := (.ref t2)) (n := 17) d2_14 (hw _ (List.mem_of_getElem? (i := 28) rfl)) Via.refl f4 f5 (Or.inr ⟨(hw _ (List.mem_of_getElem? (i := 29) rfl)), rfl, rfl⟩) (hw _ (List.mem_of_getElem? (i := 1) rfl)) (by decide) rfl rfl ge_r0 (List.mem_cons_self ..) rfl ?_
  intro T6 h6 X6 W6 Fw6
  have f7 := (F2.keep K2 nin0)
  have f8 := f7.other W6 (Or.inr (slot_ne (Or.inr (hw _ (List.mem_of_getElem? (i := 27) rfl))) (Or.inr (hw _ (List.mem_of_getElem? (i := 29) rfl))) (by decide) (t := .byte) (t' := (.array .byte)) (by decide) (by decide)))
  have K6 := (Keep.of_wr W6)
  have O6 := O2.keep K6 (allS ge_r0 all0)
  have Z6 : Keep h0 h6 [r0] := Z2.trans K6 (allS (P := fun x => x ∈ [r0] ∨ h0.size ≤ x) (Or.inl (List.mem_of_getElem? (i := 0) rfl)) all0)
  refine OwnW.aloadN X6 (n := 18) d2_17 rfl rfl rfl ?_
  refine OwnW.ldcS X6 (bs := []) (nn := 0) (text := "") (n := 20) d2_18 (hw _ (List.mem_of_getElem? (i := 51) rfl)) (fun d hd => hw d ((by decide +kernel : ∀ d ∈ Bundle.stringAtoms, d ∈ tables_1) d hd)) (by decide) ⟨by decide, rfl⟩ (by decide) (by decide) (by decide) (by decide) (by decide) rfl ?_
  intro T9 h9 l9 t9 X9 E9 e9 c9 v9 a9 n9
  have K9 := (OwnW.kExt E9)
  have O9 := O6.keep K9 all0
  have Z9 : Keep h0 h9 [r0] := Z6.trans K9 (fun x hx => nomatch hx)
  obtain ⟨nl9, nt9⟩ := n9 r0 (List.mem_cons_self ..)
  have nx9 : ∀ y ∈ sfx, y ≠ t9 := fun y hx => (n9 y (List.mem_cons_of_mem _ hx)).2
  refine OwnW.getfield X9 (n := 23) d2_20 (hw _ (List.mem_of_getElem? (i := 26) rfl)) Via.refl c9 rfl ?_
  intro T10 X10
  have f11 := (f8.keep K9 nin0)
  have f12 := ((f5.keep K6).keep K9)
  refine OwnW.putfield X10 (ty := .byte) (v' := (.int (0 : Int32))) (n := 26) d2_23 (hw _ (List.mem_of_getElem? (i := 26) rfl)) Via.refl f11 f12 (Or.inr ⟨(hw _ (List.mem_of_getElem? (i := 27) rfl)), rfl, rfl⟩) (hw _ (List.mem_of_getElem? (i := 1) rfl)) (by decide) rfl rfl ge_r0 (List.mem_cons_self ..) rfl ?_
  intro T13 h13 X13 W13 Fw13
  have f14 := (Fw6.keep K9 nin0)
  have f15 := f14.other W13 (Or.inr (slot_ne (Or.inr (hw _ (List.mem_of_getElem? (i := 29) rfl))) (Or.inr (hw _ (List.mem_of_getElem? (i := 27) rfl))) (by decide) (t := (.array .byte)) (t' := .byte) (by decide) (by decide)))
  have K13 := (Keep.of_wr W13)
  have O13 := O9.keep K13 (allS ge_r0 all0)
  have Z13 : Keep h0 h13 [r0] := Z9.trans K13 (allS (P := fun x => x ∈ [r0] ∨ h0.size ≤ x) (Or.inl (List.mem_of_getElem? (i := 0) rfl)) all0)
  have f16 := (f12.keep K13)
  have f17 := (((a2.keep K6 (ninS (Ne.symm nt2) nin0)).keep K9 nin0).keep K13 (ninS (Ne.symm nt2) nin0))
  exact OwnW.vreturn X13 rfl d2_26 ⟨Z13, _, nx2, f16, Fw13, f15, f17⟩ (by decide) (by decide)
theorem pd___CIILjava_lang_Void__V : parseMethodDescriptor "([CIILjava/lang/Void;)V" = some ⟨[(.array .char), .int, .int, (.object "java/lang/Void")], none⟩ := by decide +kernel
theorem d1_0 : decode jdk_42_method_3_code 0 = .ok (.aload_n 0, 1) := by decide +kernel
theorem d1_1 : decode jdk_42_method_3_code 1 = .ok (.aload_n 1, 1) := by decide +kernel
theorem d1_2 : decode jdk_42_method_3_code 2 = .ok (.iconst 0, 1) := by decide +kernel
theorem d1_3 : decode jdk_42_method_3_code 3 = .ok (.aload_n 1, 1) := by decide +kernel
theorem d1_4 : decode jdk_42_method_3_code 4 = .ok (.arraylength, 1) := by decide +kernel
theorem d1_5 : decode jdk_42_method_3_code 5 = .ok (.aconst_null, 1) := by decide +kernel
theorem d1_6 : decode jdk_42_method_3_code 6 = .ok (.invokespecial 27, 3) := by decide +kernel
theorem d1_9 : decode jdk_42_method_3_code 9 = .ok (.return_, 1) := by decide +kernel
theorem ef_rm1e (m : MethodId) (x0 : Addr) (x1 : Addr) : entryFrame m #[(.ref x0), (.ref x1)] 2 = mkF m 0 #[.val (.ref x0), .val (.ref x1)] [] := by first | (simp [entryFrame, mkF, argsToLocals, Value.category]; done) | rfl
set_option maxRecDepth 65536 in
set_option maxHeartbeats 40000000 in
theorem rm1e (l : Launch) (Z : State) (a0 : Array Value) (hw : ∀ d ∈ tables_1, d.before a0 Z = true) (hE : EW Z a0 own_EL) (ws : List Jvm.Cond) (r0 : Addr) (r1 : Addr) (h0 : Heap) (n0 : Nat) (O0 : Old Z n0 h0) (sfx : List Addr) (ge_r0 : n0 ≤ r0) (E0 : Exa Z h0 r0 "java/lang/String") (v1 v2 : Value) (F1 : Fld Z h0 r0 "java/lang/String" "value" "[B" v1) (F2 : Fld Z h0 r0 "java/lang/String" "coder" "B" v2) (A1 : Ark Z h0 r1 .char []) :
    Ctr False l Z own_EL (⟨"java/lang/String", "<init>", "([C)V"⟩ : MethodName) jdk_42_method_3_code 2 none ws ({ frames := 2, cells := 4, slots := 8, locals := 29 } : Room) n0 (r0 :: sfx) #[(.ref r0), (.ref r1)] h0 (Rn (fun h g => Keep h0 h [r0] ∧ ∃ t, (∀ y ∈ sfx, y ≠ t) ∧ StrL Z h r0 t [])) := by
  refine Ctr.of (plainFor_of_name pn_java_lang_String) hE (fun m => ef_rm1e m r0 r1) ?_
  intro p e s m below meth c T0 X0
  have Z0 : Keep h0 h0 [r0] := Keep.refl _ _
  refine OwnW.aloadN X0 (n := 1) d1_0 rfl rfl rfl ?_
  refine OwnW.aloadN X0 (n := 2) d1_1 rfl rfl rfl ?_
  refine OwnW.iconst X0 (z := (0 : Int32)) (n := 3) d1_2 rfl rfl ?_
  refine OwnW.aloadN X0 (n := 4) d1_3 rfl rfl rfl ?_
  refine OwnW.arraylength X0 (z := (0 : Int32)) (n := 5) d1_4 A1 rfl rfl ?_
  refine OwnW.anull X0 (n := 6) d1_5 rfl ?_
  refine OwnW.call_special_n X0 (z := (⟨"java/lang/String", "<init>", "([CIILjava/lang/Void;)V"⟩ : MethodName)) (a := r0) (n := 9) d1_6 (hw _ (List.mem_of_getElem? (i := 7) rfl)) (hw _ (List.mem_of_getElem? (i := 8) rfl)) (hw _ (List.mem_of_getElem? (i := 10) rfl)) (hw _ (List.mem_of_getElem? (i := 2) rfl)) rfl rfl (by decide) (rm2e l Z a0 hw hE [] r0 r1 h0 n0 O0 sfx ge_r0 E0 v1 v2 F1 F2) (OwnW.sfS (List.mem_cons_self ..) (fun x hx => (List.mem_cons_of_mem _ hx))) (argsL := [(.ref r1), (.int (0 : Int32)), (.int (0 : Int32)), .null]) (rest := []) rfl rfl (OwnW.lenA pd___CIILjava_lang_Void__V rfl) (W := 0) (Nat.le_of_eq rfl) (by decide) (by decide) (by decide) (by decide) rfl ?_
  intro T1 h1 g1 hle1 X1 qq1
  exact OwnW.vreturn X1 rfl d1_9 qq1 (by decide) (by decide)
theorem pn_java_lang_StringUTF16 : plainName "java/lang/StringUTF16" = true := by first | (simp [plainName, overriddenIn]; done) | decide +kernel
theorem d5_0 : decode jdk_52_method_21_code 0 = .ok (.iconst 0, 1) := by decide +kernel
theorem d5_1 : decode jdk_52_method_21_code 1 = .ok (.istore 5, 2) := by decide +kernel
theorem d5_3 : decode jdk_52_method_21_code 3 = .ok (.iload 5, 2) := by decide +kernel
theorem d5_5 : decode jdk_52_method_21_code 5 = .ok (.iload 4, 2) := by decide +kernel
theorem d5_7 : decode jdk_52_method_21_code 7 = .ok (.if_icmp .ge 37, 3) := by decide +kernel
theorem d5_10 : decode jdk_52_method_21_code 10 = .ok (.aload_n 0, 1) := by decide +kernel
theorem d5_11 : decode jdk_52_method_21_code 11 = .ok (.iload_n 1, 1) := by decide +kernel
theorem d5_12 : decode jdk_52_method_21_code 12 = .ok (.caload, 1) := by decide +kernel
theorem d5_13 : decode jdk_52_method_21_code 13 = .ok (.istore 6, 2) := by decide +kernel
theorem d5_15 : decode jdk_52_method_21_code 15 = .ok (.iload 6, 2) := by decide +kernel
theorem d5_17 : decode jdk_52_method_21_code 17 = .ok (.sipush 255, 3) := by decide +kernel
theorem d5_20 : decode jdk_52_method_21_code 20 = .ok (.if_icmp .le 6, 3) := by decide +kernel
theorem d5_26 : decode jdk_52_method_21_code 26 = .ok (.aload_n 2, 1) := by decide +kernel
theorem d5_27 : decode jdk_52_method_21_code 27 = .ok (.iload_n 3, 1) := by decide +kernel
theorem d5_28 : decode jdk_52_method_21_code 28 = .ok (.iload 6, 2) := by decide +kernel
theorem d5_30 : decode jdk_52_method_21_code 30 = .ok (.i2b, 1) := by decide +kernel
theorem d5_31 : decode jdk_52_method_21_code 31 = .ok (.bastore, 1) := by decide +kernel
theorem d5_32 : decode jdk_52_method_21_code 32 = .ok (.iinc 1 1, 3) := by decide +kernel
theorem d5_35 : decode jdk_52_method_21_code 35 = .ok (.iinc 3 1, 3) := by decide +kernel
theorem d5_38 : decode jdk_52_method_21_code 38 = .ok (.iinc 5 1, 3) := by decide +kernel
theorem d5_41 : decode jdk_52_method_21_code 41 = .ok (.goto (-38), 3) := by decide +kernel
theorem d5_44 : decode jdk_52_method_21_code 44 = .ok (.iload 4, 2) := by decide +kernel
theorem d5_46 : decode jdk_52_method_21_code 46 = .ok (.ireturn, 1) := by decide +kernel
theorem ef_rm5 (m : MethodId) (x0 : Addr) (x2 : Addr) (x4 : Int32) : entryFrame m #[(.ref x0), (.int (0 : Int32)), (.ref x2), (.int (0 : Int32)), (.int x4)] 7 = mkF m 0 #[.val (.ref x0), .val (.int (0 : Int32)), .val (.ref x2), .val (.int (0 : Int32)), .val (.int x4), .unset, .unset] [] := by first | (simp [entryFrame, mkF, argsToLocals, Value.category]; done) | rfl
set_option maxRecDepth 65536 in
set_option maxHeartbeats 40000000 in
theorem rm5 (l : Launch) (Z : State) (a0 : Array Value) (hw : ∀ d ∈ tables_1, d.before a0 Z = true) (hE : EW Z a0 own_EL) (ws : List Jvm.Cond) (r0 : Addr) (r2 : Addr) (h0 : Heap) (n0 : Nat) (O0 : Old Z n0 h0) (cs : List Int32) (hp : ∀ c ∈ cs, ¬ 255 < c) (A0 : Ark Z h0 r0 .char (cs.map Value.int)) (A2 : Ark Z h0 r2 .byte (List.replicate cs.length (.int 0))) (ge_r2 : n0 ≤ r2) (ne02 : r0 ≠ r2) :
    Ctr False l Z own_EL (⟨"java/lang/StringUTF16", "compress", "([CI[BII)I"⟩ : MethodName) jdk_52_method_21_code 7 (some .int) ws ({ frames := 0, cells := 0, slots := 0, locals := 0 } : Room) n0 (r2 :: []) #[(.ref r0), (.int (0 : Int32)), (.ref r2), (.int (0 : Int32)), (.int (Int32.ofNat cs.length))] h0 (Rt (fun w h g => w = .int (Int32.ofNat cs.length) ∧ Keep h0 h [r2] ∧ Ark Z h r2 .byte ((cs.map lo8).map Value.int))) := by
  refine Ctr.of (plainFor_of_name pn_java_lang_StringUTF16) hE (fun m => ef_rm5 m r0 r2 (Int32.ofNat cs.length)) ?_
  intro p e s m below meth c T0 X0
  have Z0 : Keep h0 h0 [r2] := Keep.refl _ _
  refine OwnW.iconst X0 (z := (0 : Int32)) (n := 1) d5_0 rfl rfl ?_
  refine OwnW.istore X0 (l' := #[.val (.ref r0), .val (.int (0 : Int32)), .val (.ref r2), .val (.int (0 : Int32)), .val (.int (Int32.ofNat cs.length)), .val (.int (0 : Int32)), .unset]) (n := 3) d5_1 rfl rfl ?_
  have hl : cs.length < 2147483648 := by simpa using A0.len
  refine OwnW.loopT X0 (fun (v : Nat × Slot) h' => v.1 ≤ cs.length ∧ One v.2 ∧ Keep h0 h' [r2] ∧ Ark Z h' r2 .byte (own_dst cs v.1)) (fun v => cs.length - v.1) (fun v => mkF m 3 #[.val (.ref r0), .val (.int (Int32.ofNat v.1)), .val (.ref r2), .val (.int (Int32.ofNat v.1)), .val (.int (Int32.ofNat cs.length)), .val (.int (Int32.ofNat v.1)), v.2] []) ?_ _ _ (0, .unset) X0 ⟨Nat.zero_le _, One.u, Keep.refl _ _, by rw [own_dst0]; exact A2⟩
  intro T1 h1 ⟨i, sl⟩ X1 ⟨hi, hsl, K1, A1⟩ IH
  dsimp only at hi hsl K1 A1 IH ⊢
  have hii : i < 2147483648 := by omega
  refine OwnW.iload X1 (n := 5) d5_3 rfl rfl ?_
  refine OwnW.iload X1 (n := 7) d5_5 rfl rfl ?_
  refine OwnW.ic_ge X1  (n1 := 44) (n2 := 10) d5_7 (by decide) rfl rfl (fun hc7 => ?_) (fun hc7 => ?_)
  · have hin : i = cs.length := by have := mt (own_lt hii hl).mpr hc7; omega
    subst hin
    refine OwnW.iload X1 (n := 46) d5_44 rfl rfl ?_
    exact OwnW.ireturn X1 rfl (Or.inl rfl) rfl d5_46 ⟨rfl, K1, by rw [← own_dstN]; exact A1⟩ (by decide) (by decide)
  · refine OwnW.aloadN X1 (n := 11) d5_10 rfl rfl rfl ?_
    refine OwnW.iloadN X1 (n := 12) d5_11 rfl rfl ?_
    have hlt : i < cs.length := (own_lt hii hl).mp hc7
    obtain ⟨cc, ecc⟩ : ∃ z, z = cs.getD i 0 := ⟨_, rfl⟩
    have hcc := own_get cs hlt
    rw [← ecc] at hcc
    have hp1 := hp _ (own_mem cs hlt)
    rw [← ecc] at hp1
    refine OwnW.caload X1 (i := i) (v := (.int cc)) (n := 13) d5_12 (A0.keep K1 (OwnW.nin1 ne02)) (own_nat hii) hcc rfl ?_
    refine OwnW.istore X1 (l' := #[.val (.ref r0), .val (.int (Int32.ofNat i)), .val (.ref r2), .val (.int (Int32.ofNat i)), .val (.int (Int32.ofNat cs.length)), .val (.int (Int32.ofNat i)), .val (.int cc)]) (n := 15) d5_13 (by rw [XS.store1 rfl hsl rfl]; rfl) rfl ?_
    refine OwnW.iload X1 (n := 17) d5_15 rfl rfl ?_
    refine OwnW.sipush X1 (z := (255 : Int32)) (n := 20) d5_17 rfl rfl ?_
    refine OwnW.ic_le X1  (n1 := 26) (n2 := 23) d5_20 (by decide) rfl rfl (fun _ => ?_) (fun q => absurd q (hp1 : ¬ (255 : Int32) < cc))
    refine OwnW.aloadN X1 (n := 27) d5_26 rfl rfl rfl ?_
    refine OwnW.iloadN X1 (n := 28) d5_27 rfl rfl ?_
    refine OwnW.iload X1 (n := 30) d5_28 rfl rfl ?_
    refine OwnW.i2b X1 (n := 31) d5_30 rfl ?_
    refine OwnW.bastore X1 (i := i) (z := lo8 cc) (n := 32) d5_31 A1 (own_nat hii) (by rw [own_dst_len cs hi]; exact hlt) (own_narB cc) ge_r2 (List.mem_cons_self ..) rfl ?_
    intro T2 h2 X2 W2 A2'
    rw [ecc, own_dst_set cs hlt] at A2'
    refine OwnW.iinc X2 (z := (1 : Int32)) (u := (Int32.ofNat (i + 1))) (l' := #[.val (.ref r0), .val (.int (Int32.ofNat (i + 1))), .val (.ref r2), .val (.int (Int32.ofNat i)), .val (.int (Int32.ofNat cs.length)), .val (.int (Int32.ofNat i)), .val (.int cc)]) (n := 35) d5_32 rfl rfl (own_up i) rfl rfl ?_
    refine OwnW.iinc X2 (z := (1 : Int32)) (u := (Int32.ofNat (i + 1))) (l' := #[.val (.ref r0), .val (.int (Int32.ofNat (i + 1))), .val (.ref r2), .val (.int (Int32.ofNat (i + 1))), .val (.int (Int32.ofNat cs.length)), .val (.int (Int32.ofNat i)), .val (.int cc)]) (n := 38) d5_35 rfl rfl (own_up i) rfl rfl ?_
    refine OwnW.iinc X2 (z := (1 : Int32)) (u := (Int32.ofNat (i + 1))) (l' := #[.val (.ref r0), .val (.int (Int32.ofNat (i + 1))), .val (.ref r2), .val (.int (Int32.ofNat (i + 1))), .val (.int (Int32.ofNat cs.length)), .val (.int (Int32.ofNat (i + 1))), .val (.int cc)]) (n := 41) d5_38 rfl rfl (own_up i) rfl rfl ?_
    refine OwnW.goto X2 (n := 3) d5_41 (by decide) rfl ?_
    exact IH _ _ (i + 1, .val (.int cc)) (by dsimp only; omega) X2 ⟨hlt, One.val rfl, K1.wr W2 (Or.inl (List.mem_cons_self ..)), A2'⟩
theorem pd___CI_BII_I : parseMethodDescriptor "([CI[BII)I" = some ⟨[(.array .char), .int, (.array .byte), .int, .int], some .int⟩ := by decide +kernel
theorem d4_0 : decode jdk_52_method_16_code 0 = .ok (.iload_n 2, 1) := by decide +kernel
theorem d4_1 : decode jdk_52_method_16_code 1 = .ok (.newarray .byte, 2) := by decide +kernel
theorem d4_3 : decode jdk_52_method_16_code 3 = .ok (.astore_n 3, 1) := by decide +kernel
theorem d4_4 : decode jdk_52_method_16_code 4 = .ok (.aload_n 0, 1) := by decide +kernel
theorem d4_5 : decode jdk_52_method_16_code 5 = .ok (.iload_n 1, 1) := by decide +kernel
theorem d4_6 : decode jdk_52_method_16_code 6 = .ok (.aload_n 3, 1) := by decide +kernel
theorem d4_7 : decode jdk_52_method_16_code 7 = .ok (.iconst 0, 1) := by decide +kernel
theorem d4_8 : decode jdk_52_method_16_code 8 = .ok (.iload_n 2, 1) := by decide +kernel
theorem d4_9 : decode jdk_52_method_16_code 9 = .ok (.invokestatic 115, 3) := by decide +kernel
theorem d4_12 : decode jdk_52_method_16_code 12 = .ok (.istore 4, 2) := by decide +kernel
theorem d4_14 : decode jdk_52_method_16_code 14 = .ok (.iload 4, 2) := by decide +kernel
theorem d4_16 : decode jdk_52_method_16_code 16 = .ok (.iload_n 2, 1) := by decide +kernel
theorem d4_17 : decode jdk_52_method_16_code 17 = .ok (.if_icmp .eq 40, 3) := by decide +kernel
theorem d4_57 : decode jdk_52_method_16_code 57 = .ok (.aload_n 3, 1) := by decide +kernel
theorem d4_58 : decode jdk_52_method_16_code 58 = .ok (.areturn, 1) := by decide +kernel
theorem ef_rm4 (m : MethodId) (x0 : Addr) (x2 : Int32) : entryFrame m #[(.ref x0), (.int (0 : Int32)), (.int x2)] 6 = mkF m 0 #[.val (.ref x0), .val (.int (0 : Int32)), .val (.int x2), .unset, .unset, .unset] [] := by first | (simp [entryFrame, mkF, argsToLocals, Value.category]; done) | rfl
set_option maxRecDepth 65536 in
set_option maxHeartbeats 40000000 in
theorem rm4 (l : Launch) (Z : State) (a0 : Array Value) (hw : ∀ d ∈ tables_1, d.before a0 Z = true) (hE : EW Z a0 own_EL) (ws : List Jvm.Cond) (r0 : Addr) (h0 : Heap) (n0 : Nat) (O0 : Old Z n0 h0) (cs : List Int32) (hp : ∀ c ∈ cs, ¬ 255 < c) (hcap : cs.length ≤ 2) (A0 : Ark Z h0 r0 .char (cs.map Value.int)) :
    Ctr False l Z own_EL (⟨"java/lang/StringUTF16", "compress", "([CII)[B"⟩ : MethodName) jdk_52_method_16_code 6 (some (.array .byte)) ws ({ frames := 1, cells := 1, slots := 2, locals := 18 } : Room) n0 ([]) #[(.ref r0), (.int (0 : Int32)), (.int (Int32.ofNat cs.length))] h0 (Rt (fun w h g => ∃ t, w = .ref t ∧ Keep h0 h [] ∧ h0.size ≤ t ∧ Ark Z h t .byte ((cs.map lo8).map Value.int) ∧ t ∈ g)) := by
  refine Ctr.of (plainFor_of_name pn_java_lang_StringUTF16) hE (fun m => ef_rm4 m r0 (Int32.ofNat cs.length)) ?_
  intro p e s m below meth c T0 X0
  have Z0 : Keep h0 h0 [] := Keep.refl _ _
  refine OwnW.iloadN X0 (n := 1) d4_0 rfl rfl ?_
  refine OwnW.newarray X0 (len := cs.length) (cap := 2) (n := 3) d4_1 (hw _ (List.mem_of_getElem? (i := 19) rfl)) (own_nat (by omega)) hcap (by decide) (by decide) (by decide) rfl ?_
  intro T1 h1 b1 gb1 X1 E1 A1
  have ne_r0_b1 : r0 ≠ b1 := by rw [gb1]; exact Nat.ne_of_lt A0.lt
  have ge_b1 : n0 ≤ b1 := by rw [gb1]; exact OwnW.oldLe O0
  have K1 := (OwnW.kExt E1)
  have O1 := O0.keep K1 all0
  have Z1 : Keep h0 h1 [] := Z0.trans K1 (fun x hx => nomatch hx)
  have sz_b1 : h0.size ≤ b1 := by rw [gb1]; exact Z0.1
  refine OwnW.astoreN X1 (l' := #[.val (.ref r0), .val (.int (0 : Int32)), .val (.int (Int32.ofNat cs.length)), .val (.ref b1), .unset, .unset]) (n := 4) d4_3 rfl rfl rfl ?_
  refine OwnW.aloadN X1 (n := 5) d4_4 rfl rfl rfl ?_
  refine OwnW.iloadN X1 (n := 6) d4_5 rfl rfl ?_
  refine OwnW.aloadN X1 (n := 7) d4_6 rfl rfl rfl ?_
  refine OwnW.iconst X1 (z := (0 : Int32)) (n := 8) d4_7 rfl rfl ?_
  refine OwnW.iloadN X1 (n := 9) d4_8 rfl rfl ?_
  have f2 := (A0.keep K1 nin0)
  refine OwnW.call_static_v X1 (z := (⟨"java/lang/StringUTF16", "compress", "([CI[BII)I"⟩ : MethodName)) (n := 12) d4_9 (hw _ (List.mem_of_getElem? (i := 20) rfl)) (hw _ (List.mem_of_getElem? (i := 21) rfl)) (hw _ (List.mem_of_getElem? (i := 22) rfl)) (hw _ (List.mem_of_getElem? (i := 17) rfl)) (by decide) (rm5 l Z a0 hw hE [] r0 b1 h1 n0 O1 cs hp f2 A1 ge_b1 ne_r0_b1) (OwnW.sfS (List.mem_cons_self ..) OwnW.sf0) (argsL := [(.ref r0), (.int (0 : Int32)), (.ref b1), (.int (0 : Int32)), (.int (Int32.ofNat cs.length))]) (rest := []) rfl rfl (OwnW.lenA pd___CI_BII_I rfl) (W := 0) (Nat.le_of_eq rfl) (by decide) (by decide) (by decide) (by decide) rfl ?_
  intro T3 h3 w3 g3 hle3 X3 ⟨q1, k3, a3⟩
  subst q1
  have K3 := k3
  have O3 := O1.keep K3 (allS ge_b1 all0)
  have Z3 : Keep h0 h3 [] := Z1.trans K3 (allS (P := fun x => x ∈ [] ∨ h0.size ≤ x) (Or.inr sz_b1) all0)
  refine OwnW.istore X3 (l' := #[.val (.ref r0), .val (.int (0 : Int32)), .val (.int (Int32.ofNat cs.length)), .val (.ref b1), .val (.int (Int32.ofNat cs.length)), .unset]) (n := 14) d4_12 rfl rfl ?_
  refine OwnW.iload X3 (n := 16) d4_14 rfl rfl ?_
  refine OwnW.iloadN X3 (n := 17) d4_16 rfl rfl ?_
  refine OwnW.ic_eq X3  (n1 := 57) (n2 := 20) d4_17 (by decide) rfl rfl (fun _ => ?_) (fun q => absurd (rfl : (Int32.ofNat cs.length) = (Int32.ofNat cs.length)) q)
  refine OwnW.aloadN X3 (n := 58) d4_57 rfl rfl rfl ?_
  exact OwnW.areturn X3 rfl rfl rfl d4_58 ⟨_, rfl, Z3, sz_b1, a3, (List.mem_append_left _ (List.mem_cons_self ..))⟩ (by decide) (by decide)
theorem d6_0 : decode jdk_52_method_15_code 0 = .ok (.iload_n 1, 1) := by decide +kernel
theorem d6_1 : decode jdk_52_method_15_code 1 = .ok (.aload_n 0, 1) := by decide +kernel
theorem d6_2 : decode jdk_52_method_15_code 2 = .ok (.arraylength, 1) := by decide +kernel
theorem d6_3 : decode jdk_52_method_15_code 3 = .ok (.isub, 1) := by decide +kernel
theorem d6_4 : decode jdk_52_method_15_code 4 = .ok (.bipush 31, 2) := by decide +kernel
theorem d6_6 : decode jdk_52_method_15_code 6 = .ok (.iushr, 1) := by decide +kernel
theorem d6_7 : decode jdk_52_method_15_code 7 = .ok (.i2b, 1) := by decide +kernel
theorem d6_8 : decode jdk_52_method_15_code 8 = .ok (.ireturn, 1) := by decide +kernel
theorem ef_rm6 (m : MethodId) (x0 : Addr) (x1 : Int32) : entryFrame m #[(.ref x0), (.int x1)] 2 = mkF m 0 #[.val (.ref x0), .val (.int x1)] [] := by first | (simp [entryFrame, mkF, argsToLocals, Value.category]; done) | rfl
set_option maxRecDepth 65536 in
set_option maxHeartbeats 40000000 in
theorem rm6 (l : Launch) (Z : State) (a0 : Array Value) (hw : ∀ d ∈ tables_1, d.before a0 Z = true) (hE : EW Z a0 own_EL) (ws : List Jvm.Cond) (r0 : Addr) (h0 : Heap) (n0 : Nat) (cs : List Int32) (A0 : Ark Z h0 r0 .byte ((cs.map lo8).map Value.int)) :
    Ctr False l Z own_EL (⟨"java/lang/StringUTF16", "coderFromArrayLen", "([BI)B"⟩ : MethodName) jdk_52_method_15_code 2 (some .byte) ws ({ frames := 0, cells := 0, slots := 0, locals := 0 } : Room) n0 ([]) #[(.ref r0), (.int (Int32.ofNat cs.length))] h0 (Rt (fun w h g => w = .int 0 ∧ h0 = h)) := by
  refine Ctr.of (plainFor_of_name pn_java_lang_StringUTF16) hE (fun m => ef_rm6 m r0 (Int32.ofNat cs.length)) ?_
  intro p e s m below meth c T0 X0
  refine OwnW.iloadN X0 (n := 1) d6_0 rfl rfl ?_
  refine OwnW.aloadN X0 (n := 2) d6_1 rfl rfl rfl ?_
  refine OwnW.arraylength X0 (z := Int32.ofNat cs.length) (n := 3) d6_2 A0 (by simp) rfl ?_
  refine OwnW.isub X0 (n := 4) d6_3 rfl ?_
  refine OwnW.bipush X0 (z := (31 : Int32)) (n := 6) d6_4 rfl rfl ?_
  refine OwnW.iushr X0 (n := 7) d6_6 rfl ?_
  refine OwnW.i2b X0 (n := 8) d6_7 rfl ?_
  rw [own_c0]
  exact OwnW.ireturn X0 rfl (Or.inr (Or.inr (Or.inl rfl))) rfl d6_8 ⟨rfl, rfl⟩ (by decide) (by decide)
theorem pd___CII__B : parseMethodDescriptor "([CII)[B" = some ⟨[(.array .char), .int, .int], some (.array .byte)⟩ := by decide +kernel
theorem pd___BI_B : parseMethodDescriptor "([BI)B" = some ⟨[(.array .byte), .int], some .byte⟩ := by decide +kernel
theorem d2_27 : decode jdk_42_method_149_code 27 = .ok (.getstatic 38, 3) := by decide +kernel
theorem d2_30 : decode jdk_42_method_149_code 30 = .ok (.ifCond .eq 28, 3) := by decide +kernel
theorem d2_33 : decode jdk_42_method_149_code 33 = .ok (.aload_n 1, 1) := by decide +kernel
theorem d2_34 : decode jdk_42_method_149_code 34 = .ok (.iload_n 2, 1) := by decide +kernel
theorem d2_35 : decode jdk_42_method_149_code 35 = .ok (.iload_n 3, 1) := by decide +kernel
theorem d2_36 : decode jdk_42_method_149_code 36 = .ok (.invokestatic 177, 3) := by decide +kernel
theorem d2_39 : decode jdk_42_method_149_code 39 = .ok (.astore 5, 2) := by decide +kernel
theorem d2_41 : decode jdk_42_method_149_code 41 = .ok (.aload_n 0, 1) := by decide +kernel
theorem d2_42 : decode jdk_42_method_149_code 42 = .ok (.aload 5, 2) := by decide +kernel
theorem d2_44 : decode jdk_42_method_149_code 44 = .ok (.iload_n 3, 1) := by decide +kernel
theorem d2_45 : decode jdk_42_method_149_code 45 = .ok (.invokestatic 47, 3) := by decide +kernel
theorem d2_48 : decode jdk_42_method_149_code 48 = .ok (.putfield 15, 3) := by decide +kernel
theorem d2_51 : decode jdk_42_method_149_code 51 = .ok (.aload_n 0, 1) := by decide +kernel
theorem d2_52 : decode jdk_42_method_149_code 52 = .ok (.aload 5, 2) := by decide +kernel
theorem d2_54 : decode jdk_42_method_149_code 54 = .ok (.putfield 9, 3) := by decide +kernel
theorem d2_57 : decode jdk_42_method_149_code 57 = .ok (.return_, 1) := by decide +kernel
theorem ef_rm2 (m : MethodId) (x0 : Addr) (x1 : Addr) (x3 : Int32) : entryFrame m #[(.ref x0), (.ref x1), (.int (0 : Int32)), (.int x3), .null] 6 = mkF m 0 #[.val (.ref x0), .val (.ref x1), .val (.int (0 : Int32)), .val (.int x3), .val .null, .unset] [] := by first | (simp [entryFrame, mkF, argsToLocals, Value.category]; done) | rfl
set_option maxRecDepth 65536 in
set_option maxHeartbeats 40000000 in
theorem rm2 (l : Launch) (Z : State) (a0 : Array Value) (hw : ∀ d ∈ tables_1, d.before a0 Z = true) (hE : EW Z a0 own_EL) (ws : List Jvm.Cond) (r0 : Addr) (r1 : Addr) (h0 : Heap) (n0 : Nat) (O0 : Old Z n0 h0) (ge_r0 : n0 ≤ r0) (E0 : Exa Z h0 r0 "java/lang/String") (v1 v2 : Value) (F1 : Fld Z h0 r0 "java/lang/String" "value" "[B" v1) (F2 : Fld Z h0 r0 "java/lang/String" "coder" "B" v2) (cs : List Int32) (hp : ∀ c ∈ cs, ¬ 255 < c) (hpos : 0 < cs.length) (hcap : cs.length ≤ 2) (A1 : Ark Z h0 r1 .char (cs.map Value.int)) (ne01 : r0 ≠ r1) (zc : Int32) (hzc : ¬ zc = 0) (S_compact : Sta Z Z.heap "java/lang/String" "COMPACT_STRINGS" "Z" (.int zc)) :
    Ctr False l Z own_EL (⟨"java/lang/String", "<init>", "([CIILjava/lang/Void;)V"⟩ : MethodName) jdk_42_method_149_code 6 none ws ({ frames := 2, cells := 1, slots := 2, locals := 35 } : Room) n0 (r0 :: []) #[(.ref r0), (.ref r1), (.int (0 : Int32)), (.int (Int32.ofNat cs.length)), .null] h0 (Rn (fun h g => Keep h0 h [r0] ∧ ∃ t, h0.size ≤ t ∧ StrL Z h r0 t cs)) := by
  refine Ctr.of (plainFor_of_name pn_java_lang_String) hE (fun m => ef_rm2 m r0 r1 (Int32.ofNat cs.length)) ?_
  intro p e s m below meth c T0 X0
  have Z0 : Keep h0 h0 [r0] := Keep.refl _ _
  refine OwnW.aloadN X0 (n := 1) d2_0 rfl rfl rfl ?_
  refine OwnW.initObj X0 (W := 0) (n := 4) d2_1 (hw _ (List.mem_of_getElem? (i := 11) rfl)) (hw _ (List.mem_of_getElem? (i := 12) rfl)) (hw _ (List.mem_of_getElem? (i := 13) rfl)) rfl (by decide) (by decide) (by decide) rfl ?_
  intro T1 X1
  refine OwnW.iloadN X1 (n := 5) d2_4 rfl rfl ?_
  refine OwnW.if_ne X1  (n1 := 27) (n2 := 8) d2_5 (by decide) rfl rfl (fun _ => ?_) (fun q => absurd q ((fun q => by have z := (own_eqn (i := cs.length) (n := 0) (by omega) (by decide)).mp q; omega) : ¬ (Int32.ofNat cs.length) = 0))
  refine OwnW.getstatic X1 (n := 30) d2_27 (hw _ (List.mem_of_getElem? (i := 14) rfl)) Via.refl (S_compact.ext O0.2) rfl ?_
  intro T2 X2
  refine OwnW.if_eq X2  (n1 := 58) (n2 := 33) d2_30 (by decide) rfl rfl (fun q => absurd q (hzc : ¬ zc = 0)) (fun _ => ?_)
  refine OwnW.aloadN X2 (n := 34) d2_33 rfl rfl rfl ?_
  refine OwnW.iloadN X2 (n := 35) d2_34 rfl rfl ?_
  refine OwnW.iloadN X2 (n := 36) d2_35 rfl rfl ?_
  refine OwnW.call_static_v X2 (z := (⟨"java/lang/StringUTF16", "compress", "([CII)[B"⟩ : MethodName)) (n := 39) d2_36 (hw _ (List.mem_of_getElem? (i := 15) rfl)) (hw _ (List.mem_of_getElem? (i := 16) rfl)) (hw _ (List.mem_of_getElem? (i := 18) rfl)) (hw _ (List.mem_of_getElem? (i := 17) rfl)) (by decide) (rm4 l Z a0 hw hE [] r1 h0 n0 O0 cs hp hcap A1) OwnW.sf0 (argsL := [(.ref r1), (.int (0 : Int32)), (.int (Int32.ofNat cs.length))]) (rest := []) rfl rfl (OwnW.lenA pd___CII__B rfl) (W := 0) (Nat.le_of_eq rfl) (by decide) (by decide) (by decide) (by decide) rfl ?_
  intro T3 h3 w3 g3 hle3 X3 ⟨t3, q1, k3, z3, a3, m3⟩
  subst q1
  have ne_r0_t3 : r0 ≠ t3 := Nat.ne_of_lt (Nat.lt_of_lt_of_le E0.lt z3)
  have ne_r1_t3 : r1 ≠ t3 := Nat.ne_of_lt (Nat.lt_of_lt_of_le A1.lt z3)
  have K3 := k3
  have O3 := O0.keep K3 all0
  have Z3 : Keep h0 h3 [r0] := Z0.trans K3 (fun x hx => nomatch hx)
  have szt : h0.size ≤ t3 := Nat.le_trans Z0.1 z3
  refine OwnW.astore X3 (l' := #[.val (.ref r0), .val (.ref r1), .val (.int (0 : Int32)), .val (.int (Int32.ofNat cs.length)), .val .null, .val (.ref t3)]) (n := 41) d2_39 rfl rfl rfl ?_
  refine OwnW.aloadN X3 (n := 42) d2_41 rfl rfl rfl ?_
  refine OwnW.aload X3 (n := 44) d2_42 rfl rfl rfl ?_
  refine OwnW.iloadN X3 (n := 45) d2_44 rfl rfl ?_
  refine OwnW.call_static_v X3 (z := (⟨"java/lang/StringUTF16", "coderFromArrayLen", "([BI)B"⟩ : MethodName)) (n := 48) d2_45 (hw _ (List.mem_of_getElem? (i := 23) rfl)) (hw _ (List.mem_of_getElem? (i := 24) rfl)) (hw _ (List.mem_of_getElem? (i := 25) rfl)) (hw _ (List.mem_of_getElem? (i := 17) rfl)) (by decide) (rm6 l Z a0 hw hE [] t3 h3 n0 cs a3) OwnW.sf0 (argsL := [(.ref t3), (.int (Int32.ofNat cs.length))]) (rest := [(.ref r0)]) rfl rfl (OwnW.lenA pd___BI_B rfl) (W := 1) (Nat.le_of_eq rfl) (by decide) (by decide) (by decide) (by decide) rfl ?_
  intro T4 h4 w4 g4 hle4 X4 ⟨q1, q2⟩
  subst q1 q2
  have f5 := (F2.keep K3 nin0)
  have f6 := (E0.keep K3)
  refine OwnW.putfield X4 (ty := .byte) (v' := (.int (0 : Int32))) (n := 51) d2_48 (hw _ (List.mem_of_getElem? (i := 26) rfl)) Via.refl f5 f6 (Or.inr ⟨(hw _ (List.mem_of_getElem? (i := 27) rfl)), rfl, rfl⟩) (hw _ (List.mem_of_getElem? (i := 1) rfl)) (by decide) rfl rfl ge_r0 (List.mem_append_left _ (List.mem_append_left _ (List.mem_cons_self ..))) rfl ?_
  intro T7 h7 X7 W7 Fw7
  have f8 := (F1.keep K3 nin0)
  have f9 := f8.other W7 (Or.inr (slot_ne (Or.inr (hw _ (List.mem_of_getElem? (i := 29) rfl))) (Or.inr (hw _ (List.mem_of_getElem? (i := 27) rfl))) (by decide) (t := (.array .byte)) (t' := .byte) (by decide) (by decide)))
  have K7 := (Keep.of_wr W7)
  have O7 := O3.keep K7 (allS ge_r0 all0)
  have Z7 : Keep h0 h7 [r0] := Z3.trans K7 (allS (P := fun x => x ∈ [r0] ∨ h0.size ≤ x) (Or.inl (List.mem_of_getElem? (i := 0) rfl)) all0)
  refine OwnW.aloadN X7 (n := 52) d2_51 rfl rfl rfl ?_
  refine OwnW.aload X7 (n := 54) d2_52 rfl rfl rfl ?_
  have f10 := (f6.keep K7)
  refine OwnW.putfield X7 (ty := (.array .byte)) (v' := (.ref t3)) (n := 57) d2_54 (hw _ (List.mem_of_getElem? (i := 28) rfl)) Via.refl f9 f10 (Or.inr ⟨(hw _ (List.mem_of_getElem? (i := 29) rfl)), rfl, rfl⟩) (hw _ (List.mem_of_getElem? (i := 1) rfl)) (by decide) rfl rfl ge_r0 (List.mem_append_left _ (List.mem_append_left _ (List.mem_cons_self ..))) rfl ?_
  intro T11 h11 X11 W11 Fw11
  have f12 := Fw7.other W11 (Or.inr (slot_ne (Or.inr (hw _ (List.mem_of_getElem? (i := 27) rfl))) (Or.inr (hw _ (List.mem_of_getElem? (i := 29) rfl))) (by decide) (t := .byte) (t' := (.array .byte)) (by decide) (by decide)))
  have K11 := (Keep.of_wr W11)
  have O11 := O7.keep K11 (allS ge_r0 all0)
  have Z11 : Keep h0 h11 [r0] := Z7.trans K11 (allS (P := fun x => x ∈ [r0] ∨ h0.size ≤ x) (Or.inl (List.mem_of_getElem? (i := 0) rfl)) all0)
  have f13 := (f10.keep K11)
  have f14 := ((a3.keep K7 (ninS (Ne.symm ne_r0_t3) nin0)).keep K11 (ninS (Ne.symm ne_r0_t3) nin0))
  exact OwnW.vreturn X11 rfl d2_57 ⟨Z11, _, szt, f13, f12, Fw11, f14⟩ (by decide) (by decide)
theorem ef_rm1 (m : MethodId) (x0 : Addr) (x1 : Addr) : entryFrame m #[(.ref x0), (.ref x1)] 2 = mkF m 0 #[.val (.ref x0), .val (.ref x1)] [] := by first | (simp [entryFrame, mkF, argsToLocals, Value.category]; done) | rfl
set_option maxRecDepth 65536 in
set_option maxHeartbeats 40000000 in
theorem rm1 (l : Launch) (Z : State) (a0 : Array Value) (hw : ∀ d ∈ tables_1, d.before a0 Z = true) (hE : EW Z a0 own_EL) (ws : List Jvm.Cond) (r0 : Addr) (r1 : Addr) (h0 : Heap) (n0 : Nat) (O0 : Old Z n0 h0) (ge_r0 : n0 ≤ r0) (E0 : Exa Z h0 r0 "java/lang/String") (v1 v2 : Value) (F1 : Fld Z h0 r0 "java/lang/String" "value" "[B" v1) (F2 : Fld Z h0 r0 "java/lang/String" "coder" "B" v2) (cs : List Int32) (hp : ∀ c ∈ cs, ¬ 255 < c) (hpos : 0 < cs.length) (hcap : cs.length ≤ 2) (A1 : Ark Z h0 r1 .char (cs.map Value.int)) (ne01 : r0 ≠ r1) (zc : Int32) (hzc : ¬ zc = 0) (S_compact : Sta Z Z.heap "java/lang/String" "COMPACT_STRINGS" "Z" (.int zc)) :
    Ctr False l Z own_EL (⟨"java/lang/String", "<init>", "([C)V"⟩ : MethodName) jdk_42_method_3_code 2 none ws ({ frames := 3, cells := 1, slots := 2, locals := 52 } : Room) n0 (r0 :: []) #[(.ref r0), (.ref r1)] h0 (Rn (fun h g => Keep h0 h [r0] ∧ ∃ t, h0.size ≤ t ∧ StrL Z h r0 t cs)) := by
  refine Ctr.of (plainFor_of_name pn_java_lang_String) hE (fun m => ef_rm1 m r0 r1) ?_
  intro p e s m below meth c T0 X0
  have Z0 : Keep h0 h0 [r0] := Keep.refl _ _
  refine OwnW.aloadN X0 (n := 1) d1_0 rfl rfl rfl ?_
  refine OwnW.aloadN X0 (n := 2) d1_1 rfl rfl rfl ?_
  refine OwnW.iconst X0 (z := (0 : Int32)) (n := 3) d1_2 rfl rfl ?_
  refine OwnW.aloadN X0 (n := 4) d1_3 rfl rfl rfl ?_
  refine OwnW.arraylength X0 (z := (Int32.ofNat cs.length)) (n := 5) d1_4 A1 (by simp) rfl ?_
  refine OwnW.anull X0 (n := 6) d1_5 rfl ?_
  refine OwnW.call_special_n X0 (z := (⟨"java/lang/String", "<init>", "([CIILjava/lang/Void;)V"⟩ : MethodName)) (a := r0) (n := 9) d1_6 (hw _ (List.mem_of_getElem? (i := 7) rfl)) (hw _ (List.mem_of_getElem? (i := 8) rfl)) (hw _ (List.mem_of_getElem? (i := 10) rfl)) (hw _ (List.mem_of_getElem? (i := 2) rfl)) rfl rfl (by decide) (rm2 l Z a0 hw hE [] r0 r1 h0 n0 O0 ge_r0 E0 v1 v2 F1 F2 cs hp hpos hcap A1 ne01 zc hzc S_compact) (OwnW.sfS (List.mem_cons_self ..) OwnW.sf0) (argsL := [(.ref r1), (.int (0 : Int32)), (.int (Int32.ofNat cs.length)), .null]) (rest := []) rfl rfl (OwnW.lenA pd___CIILjava_lang_Void__V rfl) (W := 0) (Nat.le_of_eq rfl) (by decide) (by decide) (by decide) (by decide) rfl ?_
  intro T1 h1 g1 hle1 X1 qq1
  exact OwnW.vreturn X1 rfl d1_9 qq1 (by decide) (by decide)
theorem pn_java_lang_StringLatin1 : plainName "java/lang/StringLatin1" = true := by first | (simp [plainName, overriddenIn]; done) | decide +kernel
theorem d11_0 : decode jdk_43_method_3_code 0 = .ok (.iload_n 0, 1) := by decide +kernel
theorem d11_1 : decode jdk_43_method_3_code 1 = .ok (.sipush 255, 3) := by decide +kernel
theorem d11_4 : decode jdk_43_method_3_code 4 = .ok (.if_icmp .gt 7, 3) := by decide +kernel
theorem d11_7 : decode jdk_43_method_3_code 7 = .ok (.iconst 1, 1) := by decide +kernel
theorem d11_8 : decode jdk_43_method_3_code 8 = .ok (.goto 4, 3) := by decide +kernel
theorem d11_12 : decode jdk_43_method_3_code 12 = .ok (.ireturn, 1) := by decide +kernel
theorem ef_rm11 (m : MethodId) (x0 : Int32) : entryFrame m #[(.int x0)] 1 = mkF m 0 #[.val (.int x0)] [] := by first | (simp [entryFrame, mkF, argsToLocals, Value.category]; done) | rfl
set_option maxRecDepth 65536 in
set_option maxHeartbeats 40000000 in
theorem rm11 (l : Launch) (Z : State) (a0 : Array Value) (hw : ∀ d ∈ tables_1, d.before a0 Z = true) (hE : EW Z a0 own_EL) (ws : List Jvm.Cond) (p0 : Int32) (h0 : Heap) (n0 : Nat) (hp : ¬ 255 < p0) :
    Ctr False l Z own_EL (⟨"java/lang/StringLatin1", "canEncode", "(C)Z"⟩ : MethodName) jdk_43_method_3_code 1 (some .boolean) ws ({ frames := 0, cells := 0, slots := 0, locals := 0 } : Room) n0 ([]) #[(.int p0)] h0 (Rt (fun w h g => w = .int 1 ∧ h0 = h)) := by
  refine Ctr.of (plainFor_of_name pn_java_lang_StringLatin1) hE (fun m => ef_rm11 m p0) ?_
  intro p e s m below meth c T0 X0
  refine OwnW.iloadN X0 (n := 1) d11_0 rfl rfl ?_
  refine OwnW.sipush X0 (z := (255 : Int32)) (n := 4) d11_1 rfl rfl ?_
  refine OwnW.ic_gt X0  (n1 := 11) (n2 := 7) d11_4 (by decide) rfl rfl (fun q => absurd q (hp : ¬ (255 : Int32) < p0)) (fun _ => ?_)
  refine OwnW.iconst X0 (z := (1 : Int32)) (n := 8) d11_7 rfl rfl ?_
  refine OwnW.goto X0 (n := 12) d11_8 (by decide) rfl ?_
  exact OwnW.ireturn X0 rfl (Or.inr (Or.inl rfl)) rfl d11_12 ⟨rfl, rfl⟩ (by decide) (by decide)
theorem d12_0 : decode jdk_43_method_46_code 0 = .ok (.iconst 1, 1) := by decide +kernel
theorem d12_1 : decode jdk_43_method_46_code 1 = .ok (.newarray .byte, 2) := by decide +kernel
theorem d12_3 : decode jdk_43_method_46_code 3 = .ok (.dup, 1) := by decide +kernel
theorem d12_4 : decode jdk_43_method_46_code 4 = .ok (.iconst 0, 1) := by decide +kernel
theorem d12_5 : decode jdk_43_method_46_code 5 = .ok (.iload_n 0, 1) := by decide +kernel
theorem d12_6 : decode jdk_43_method_46_code 6 = .ok (.i2b, 1) := by decide +kernel
theorem d12_7 : decode jdk_43_method_46_code 7 = .ok (.bastore, 1) := by decide +kernel
theorem d12_8 : decode jdk_43_method_46_code 8 = .ok (.areturn, 1) := by decide +kernel
theorem ef_rm12 (m : MethodId) (x0 : Int32) : entryFrame m #[(.int x0)] 1 = mkF m 0 #[.val (.int x0)] [] := by first | (simp [entryFrame, mkF, argsToLocals, Value.category]; done) | rfl
set_option maxRecDepth 65536 in
set_option maxHeartbeats 40000000 in
theorem rm12 (l : Launch) (Z : State) (a0 : Array Value) (hw : ∀ d ∈ tables_1, d.before a0 Z = true) (hE : EW Z a0 own_EL) (ws : List Jvm.Cond) (p0 : Int32) (h0 : Heap) (n0 : Nat) (O0 : Old Z n0 h0)  :
    Ctr False l Z own_EL (⟨"java/lang/StringLatin1", "toBytes", "(C)[B"⟩ : MethodName) jdk_43_method_46_code 1 (some (.array .byte)) ws ({ frames := 0, cells := 1, slots := 1, locals := 0 } : Room) n0 ([]) #[(.int p0)] h0 (Rt (fun w h g => ∃ t, w = .ref t ∧ Keep h0 h [] ∧ h0.size ≤ t ∧ Ark Z h t .byte (([p0].map lo8).map Value.int) ∧ t ∈ g)) := by
  refine Ctr.of (plainFor_of_name pn_java_lang_StringLatin1) hE (fun m => ef_rm12 m p0) ?_
  intro p e s m below meth c T0 X0
  have Z0 : Keep h0 h0 [] := Keep.refl _ _
  refine OwnW.iconst X0 (z := (1 : Int32)) (n := 1) d12_0 rfl rfl ?_
  refine OwnW.newarray X0 (len := 1) (cap := 1) (n := 3) d12_1 (hw _ (List.mem_of_getElem? (i := 19) rfl)) rfl (by decide) (by decide) (by decide) (by decide) rfl ?_
  intro T1 h1 b1 gb1 X1 E1 A1
  have ge_b1 : n0 ≤ b1 := by rw [gb1]; exact OwnW.oldLe O0
  have K1 := (OwnW.kExt E1)
  have O1 := O0.keep K1 all0
  have Z1 : Keep h0 h1 [] := Z0.trans K1 (fun x hx => nomatch hx)
  have sz_b1 : h0.size ≤ b1 := by rw [gb1]; exact Z0.1
  replace A1 : Ark Z h1 b1 .byte [(.int (0 : Int32))] := A1
  refine OwnW.dup X1 (n := 4) d12_3 rfl rfl ?_
  refine OwnW.iconst X1 (z := (0 : Int32)) (n := 5) d12_4 rfl rfl ?_
  refine OwnW.iloadN X1 (n := 6) d12_5 rfl rfl ?_
  refine OwnW.i2b X1 (n := 7) d12_6 rfl ?_
  refine OwnW.bastore X1 (i := 0) (z := (lo8 p0)) (n := 8) d12_7 A1 rfl (Nat.le_of_ble_eq_true rfl) (own_narB p0) ge_b1 (List.mem_cons_self ..) rfl ?_
  intro T2 h2 X2 W2 A2
  have K2 := (Keep.of_wr W2)
  have O2 := O1.keep K2 (allS ge_b1 all0)
  have Z2 : Keep h0 h2 [] := Z1.trans K2 (allS (P := fun x => x ∈ [] ∨ h0.size ≤ x) (Or.inr sz_b1) all0)
  replace A2 : Ark Z h2 b1 .byte [(.int (lo8 p0))] := A2
  exact OwnW.areturn X2 rfl rfl rfl d12_8 ⟨_, rfl, Z2, sz_b1, A2, (List.mem_cons_self ..)⟩ (by decide) (by decide)
theorem d13_0 : decode jdk_42_method_151_code 0 = .ok (.aload_n 0, 1) := by decide +kernel
theorem d13_1 : decode jdk_42_method_151_code 1 = .ok (.invokespecial 1, 3) := by decide +kernel
theorem d13_4 : decode jdk_42_method_151_code 4 = .ok (.aload_n 0, 1) := by decide +kernel
theorem d13_5 : decode jdk_42_method_151_code 5 = .ok (.aload_n 1, 1) := by decide +kernel
theorem d13_6 : decode jdk_42_method_151_code 6 = .ok (.putfield 9, 3) := by decide +kernel
theorem d13_9 : decode jdk_42_method_151_code 9 = .ok (.aload_n 0, 1) := by decide +kernel
theorem d13_10 : decode jdk_42_method_151_code 10 = .ok (.iload_n 2, 1) := by decide +kernel
theorem d13_11 : decode jdk_42_method_151_code 11 = .ok (.putfield 15, 3) := by decide +kernel
theorem d13_14 : decode jdk_42_method_151_code 14 = .ok (.return_, 1) := by decide +kernel
theorem ef_rm13 (m : MethodId) (x0 : Addr) (x1 : Addr) : entryFrame m #[(.ref x0), (.ref x1), (.int (0 : Int32))] 3 = mkF m 0 #[.val (.ref x0), .val (.ref x1), .val (.int (0 : Int32))] [] := by first | (simp [entryFrame, mkF, argsToLocals, Value.category]; done) | rfl
set_option maxRecDepth 65536 in
set_option maxHeartbeats 40000000 in
theorem rm13 (l : Launch) (Z : State) (a0 : Array Value) (hw : ∀ d ∈ tables_1, d.before a0 Z = true) (hE : EW Z a0 own_EL) (ws : List Jvm.Cond) (r0 : Addr) (r1 : Addr) (h0 : Heap) (n0 : Nat) (O0 : Old Z n0 h0) (ge_r0 : n0 ≤ r0) (E0 : Exa Z h0 r0 "java/lang/String") (v1 v2 : Value) (F1 : Fld Z h0 r0 "java/lang/String" "value" "[B" v1) (F2 : Fld Z h0 r0 "java/lang/String" "coder" "B" v2) :
    Ctr False l Z own_EL (⟨"java/lang/String", "<init>", "([BB)V"⟩ : MethodName) jdk_42_method_151_code 3 none ws ({ frames := 1, cells := 0, slots := 0, locals := 12 } : Room) n0 (r0 :: []) #[(.ref r0), (.ref r1), (.int (0 : Int32))] h0 (Rn (fun h g => Keep h0 h [r0] ∧ Fld Z h r0 "java/lang/String" "coder" "B" (.int 0) ∧ Fld Z h r0 "java/lang/String" "value" "[B" (.ref r1))) := by
  refine Ctr.of (plainFor_of_name pn_java_lang_String) hE (fun m => ef_rm13 m r0 r1) ?_
  intro p e s m below meth c T0 X0
  have Z0 : Keep h0 h0 [r0] := Keep.refl _ _
  refine OwnW.aloadN X0 (n := 1) d13_0 rfl rfl rfl ?_
  refine OwnW.initObj X0 (W := 0) (n := 4) d13_1 (hw _ (List.mem_of_getElem? (i := 11) rfl)) (hw _ (List.mem_of_getElem? (i := 12) rfl)) (hw _ (List.mem_of_getElem? (i := 13) rfl)) rfl (by decide) (by decide) (by decide) rfl ?_
  intro T1 X1
  refine OwnW.aloadN X1 (n := 5) d13_4 rfl rfl rfl ?_
  refine OwnW.aloadN X1 (n := 6) d13_5 rfl rfl rfl ?_
  refine OwnW.putfield X1 (ty := (.array .byte)) (v' := (.ref r1)) (n := 9) d13_6 (hw _ (List.mem_of_getElem? (i := 28) rfl)) Via.refl F1 E0 (Or.inr ⟨(hw _ (List.mem_of_getElem? (i := 29) rfl)), rfl, rfl⟩) (hw _ (List.mem_of_getElem? (i := 1) rfl)) (by decide) rfl rfl ge_r0 (List.mem_cons_self ..) rfl ?_
  intro T2 h2 X2 W2 Fw2
  have f3 := F2.other W2 (Or.inr (slot_ne (Or.inr (hw _ (List.mem_of_getElem? (i := 27) rfl))) (Or.inr (hw _ (List.mem_of_getElem? (i := 29) rfl))) (by decide) (t := .byte) (t' := (.array .byte)) (by decide) (by decide)))
  have K2 := (Keep.of_wr W2)
  have O2 := O0.keep K2 (allS ge_r0 all0)
  have Z2 : Keep h0 h2 [r0] := Z0.trans K2 (allS (P := fun x => x ∈ [r0] ∨ h0.size ≤ x) (Or.inl (List.mem_of_getElem? (i := 0) rfl)) all0)
  refine OwnW.aloadN X2 (n := 10) d13_9 rfl rfl rfl ?_
  refine OwnW.iloadN X2 (n := 11) d13_10 rfl rfl ?_
  have f4 := (E0.keep K2)
  refine OwnW.putfield X2 (ty := .byte) (v' := (.int (0 : Int32))) (n := 14) d13_11 (hw _ (List.mem_of_getElem? (i := 26) rfl)) Via.refl f3 f4 (Or.inr ⟨(hw _ (List.mem_of_getElem? (i := 27) rfl)), rfl, rfl⟩) (hw _ (List.mem_of_getElem? (i := 1) rfl)) (by decide) rfl rfl ge_r0 (List.mem_cons_self ..) rfl ?_
  intro T5 h5 X5 W5 Fw5
  have f6 := Fw2.other W5 (Or.inr (slot_ne (Or.inr (hw _ (List.mem_of_getElem? (i := 29) rfl))) (Or.inr (hw _ (List.mem_of_getElem? (i := 27) rfl))) (by decide) (t := (.array .byte)) (t' := .byte) (by decide) (by decide)))
  have K5 := (Keep.of_wr W5)
  have O5 := O2.keep K5 (allS ge_r0 all0)
  have Z5 : Keep h0 h5 [r0] := Z2.trans K5 (allS (P := fun x => x ∈ [r0] ∨ h0.size ≤ x) (Or.inl (List.mem_of_getElem? (i := 0) rfl)) all0)
  exact OwnW.vreturn X5 rfl d13_14 ⟨Z5, Fw5, f6⟩ (by decide) (by decide)
theorem pd__C_Z : parseMethodDescriptor "(C)Z" = some ⟨[.char], some .boolean⟩ := by decide +kernel
theorem pd__C__B : parseMethodDescriptor "(C)[B" = some ⟨[.char], some (.array .byte)⟩ := by decide +kernel
theorem pd___BB_V : parseMethodDescriptor "([BB)V" = some ⟨[(.array .byte), .byte], none⟩ := by decide +kernel
theorem d10_0 : decode jdk_42_method_139_code 0 = .ok (.getstatic 38, 3) := by decide +kernel
theorem d10_3 : decode jdk_42_method_139_code 3 = .ok (.ifCond .eq 23, 3) := by decide +kernel
theorem d10_6 : decode jdk_42_method_139_code 6 = .ok (.iload_n 0, 1) := by decide +kernel
theorem d10_7 : decode jdk_42_method_139_code 7 = .ok (.invokestatic 1015, 3) := by decide +kernel
theorem d10_10 : decode jdk_42_method_139_code 10 = .ok (.ifCond .eq 16, 3) := by decide +kernel
theorem d10_13 : decode jdk_42_method_139_code 13 = .ok (.new 10, 3) := by decide +kernel
theorem d10_16 : decode jdk_42_method_139_code 16 = .ok (.dup, 1) := by decide +kernel
theorem d10_17 : decode jdk_42_method_139_code 17 = .ok (.iload_n 0, 1) := by decide +kernel
theorem d10_18 : decode jdk_42_method_139_code 18 = .ok (.invokestatic 1018, 3) := by decide +kernel
theorem d10_21 : decode jdk_42_method_139_code 21 = .ok (.iconst 0, 1) := by decide +kernel
theorem d10_22 : decode jdk_42_method_139_code 22 = .ok (.invokespecial 209, 3) := by decide +kernel
theorem d10_25 : decode jdk_42_method_139_code 25 = .ok (.areturn, 1) := by decide +kernel
theorem ef_rm10 (m : MethodId) (x0 : Int32) : entryFrame m #[(.int x0)] 1 = mkF m 0 #[.val (.int x0)] [] := by first | (simp [entryFrame, mkF, argsToLocals, Value.category]; done) | rfl
set_option maxRecDepth 65536 in
set_option maxHeartbeats 40000000 in
theorem rm10 (l : Launch) (Z : State) (a0 : Array Value) (hw : ∀ d ∈ tables_1, d.before a0 Z = true) (hE : EW Z a0 own_EL) (ws : List Jvm.Cond) (p0 : Int32) (h0 : Heap) (n0 : Nat) (O0 : Old Z n0 h0) (hp : ¬ 255 < p0) (zc : Int32) (hzc : ¬ zc = 0) (S_compact : Sta Z Z.heap "java/lang/String" "COMPACT_STRINGS" "Z" (.int zc)) :
    Ctr False l Z own_EL (⟨"java/lang/String", "valueOf", "(C)Ljava/lang/String;"⟩ : MethodName) jdk_42_method_139_code 1 (some (.object "java/lang/String")) ws ({ frames := 2, cells := 2, slots := 5, locals := 28 } : Room) n0 ([]) #[(.int p0)] h0 (Rt (fun w h g => ∃ x t, w = .ref x ∧ Keep h0 h [] ∧ h0.size ≤ x ∧ h0.size ≤ t ∧ StrL Z h x t [p0])) := by
  refine Ctr.of (plainFor_of_name pn_java_lang_String) hE (fun m => ef_rm10 m p0) ?_
  intro p e s m below meth c T0 X0
  have Z0 : Keep h0 h0 [] := Keep.refl _ _
  refine OwnW.getstatic X0 (n := 3) d10_0 (hw _ (List.mem_of_getElem? (i := 14) rfl)) Via.refl (S_compact.ext O0.2) rfl ?_
  intro T1 X1
  refine OwnW.if_eq X1  (n1 := 26) (n2 := 6) d10_3 (by decide) rfl rfl (fun q => absurd q (hzc : ¬ zc = 0)) (fun _ => ?_)
  refine OwnW.iloadN X1 (n := 7) d10_6 rfl rfl ?_
  refine OwnW.call_static_v X1 (z := (⟨"java/lang/StringLatin1", "canEncode", "(C)Z"⟩ : MethodName)) (n := 10) d10_7 (hw _ (List.mem_of_getElem? (i := 57) rfl)) (hw _ (List.mem_of_getElem? (i := 58) rfl)) (hw _ (List.mem_of_getElem? (i := 60) rfl)) (hw _ (List.mem_of_getElem? (i := 59) rfl)) (by decide) (rm11 l Z a0 hw hE [] p0 h0 n0 hp) OwnW.sf0 (argsL := [(.int p0)]) (rest := []) rfl rfl (OwnW.lenA pd__C_Z rfl) (W := 0) (Nat.le_of_eq rfl) (by decide) (by decide) (by decide) (by decide) rfl ?_
  intro T2 h2 w2 g2 hle2 X2 ⟨q1, q2⟩
  subst q1 q2
  refine OwnW.if_eq X2  (n1 := 26) (n2 := 13) d10_10 (by decide) rfl rfl (fun q => absurd q ((by decide) : ¬ (1 : Int32) = 0)) (fun _ => ?_)
  refine OwnW.new X2 (C := "java/lang/String") (k := 4) (n := 16) d10_13 (hw _ (List.mem_of_getElem? (i := 61) rfl)) (hw _ (List.mem_of_getElem? (i := 1) rfl)) (hw _ (List.mem_of_getElem? (i := 2) rfl)) (by decide) (by decide) rfl ?_
  intro T3 h3 b3 gb3 X3 E3 A3 D3 U3
  have ge_b3 : n0 ≤ b3 := by rw [gb3]; exact OwnW.oldLe O0
  have K3 := (OwnW.kExt E3)
  have O3 := O0.keep K3 all0
  have Z3 : Keep h0 h3 [] := Z0.trans K3 (fun x hx => nomatch hx)
  have sz_b3 : h0.size ≤ b3 := by rw [gb3]; exact Z0.1
  have F3_coder : Fld Z h3 b3 "java/lang/String" "coder" "B" (.int (0 : Int32)) := D3 (Or.inr (hw _ (List.mem_of_getElem? (i := 27) rfl))) (ty := .byte) (by decide)
  have F3_value : Fld Z h3 b3 "java/lang/String" "value" "[B" .null := D3 (Or.inr (hw _ (List.mem_of_getElem? (i := 29) rfl))) (ty := (.array .byte)) (by decide)
  refine OwnW.dup X3 (n := 17) d10_16 rfl rfl ?_
  refine OwnW.iloadN X3 (n := 18) d10_17 rfl rfl ?_
  refine OwnW.call_static_v X3 (z := (⟨"java/lang/StringLatin1", "toBytes", "(C)[B"⟩ : MethodName)) (n := 21) d10_18 (hw _ (List.mem_of_getElem? (i := 62) rfl)) (hw _ (List.mem_of_getElem? (i := 63) rfl)) (hw _ (List.mem_of_getElem? (i := 64) rfl)) (hw _ (List.mem_of_getElem? (i := 59) rfl)) (by decide) (rm12 l Z a0 hw hE [] p0 h3 n0 O3) OwnW.sf0 (argsL := [(.int p0)]) (rest := [(.ref b3), (.ref b3)]) rfl rfl (OwnW.lenA pd__C__B rfl) (W := 2) (Nat.le_of_eq rfl) (by decide) (by decide) (by decide) (by decide) rfl ?_
  intro T4 h4 w4 g4 hle4 X4 ⟨t4, q1, k4, z4, a4, m4⟩
  subst q1
  have ne_b3_t4 : b3 ≠ t4 := Nat.ne_of_lt (Nat.lt_of_lt_of_le A3.lt z4)
  have K4 := k4
  have O4 := O3.keep K4 all0
  have Z4 : Keep h0 h4 [] := Z3.trans K4 (fun x hx => nomatch hx)
  have szt : h0.size ≤ t4 := Nat.le_trans Z3.1 z4
  refine OwnW.iconst X4 (z := (0 : Int32)) (n := 22) d10_21 rfl rfl ?_
  have f5 := (A3.keep K4)
  have f6 := (F3_value.keep K4 nin0)
  have f7 := (F3_coder.keep K4 nin0)
  refine OwnW.call_special_n X4 (z := (⟨"java/lang/String", "<init>", "([BB)V"⟩ : MethodName)) (a := b3) (n := 25) d10_22 (hw _ (List.mem_of_getElem? (i := 65) rfl)) (hw _ (List.mem_of_getElem? (i := 66) rfl)) (hw _ (List.mem_of_getElem? (i := 67) rfl)) (hw _ (List.mem_of_getElem? (i := 2) rfl)) rfl rfl (by decide) (rm13 l Z a0 hw hE [] b3 t4 h4 n0 O4 ge_b3 f5 _ _ f6 f7) (OwnW.sfS (List.mem_append_left _ (List.mem_cons_self ..)) OwnW.sf0) (argsL := [(.ref t4), (.int (0 : Int32))]) (rest := [(.ref b3)]) rfl rfl (OwnW.lenA pd___BB_V rfl) (W := 1) (Nat.le_of_eq rfl) (by decide) (by decide) (by decide) (by decide) rfl ?_
  intro T8 h8 g8 hle8 X8 ⟨k8, c8, v8⟩
  have K8 := k8
  have O8 := O4.keep K8 (allS ge_b3 all0)
  have Z8 : Keep h0 h8 [] := Z4.trans K8 (allS (P := fun x => x ∈ [] ∨ h0.size ≤ x) (Or.inr sz_b3) all0)
  have f9 := (f5.keep K8)
  have f10 := (a4.keep K8 (ninS (Ne.symm ne_b3_t4) nin0))
  exact OwnW.areturn X8 rfl rfl rfl d10_25 ⟨_, _, rfl, Z8, sz_b3, szt, f9, c8, v8, f10⟩ (by decide) (by decide)
theorem own_255 (x : Int32) : ¬ (x &&& 255).toUInt32.toUInt16.toUInt32.toInt32 < 0 ∧ ¬ 255 < (x &&& 255).toUInt32.toUInt16.toUInt32.toInt32 := by
  rw [i2c_mask]
  have h := c_and x 255 (by decide)
  have e : (255 : Int32).toInt = 255 := rfl
  have e0 : (0 : Int32).toInt = 0 := rfl
  rw [Int32.lt_iff_toInt_lt, Int32.lt_iff_toInt_lt, e, e0]
  rw [e] at h
  omega
theorem pd___C_V : parseMethodDescriptor "([C)V" = some ⟨[(.array .char)], none⟩ := by decide +kernel
theorem pd__Ljava_lang_String_Ljava_lang_String__V : parseMethodDescriptor "(Ljava/lang/String;Ljava/lang/String;)V" = some ⟨[(.object "java/lang/String"), (.object "java/lang/String")], none⟩ := by decide +kernel
theorem pd___Z : parseMethodDescriptor "()Z" = some ⟨[], some .boolean⟩ := by decide +kernel
theorem pd__C_Ljava_lang_String_ : parseMethodDescriptor "(C)Ljava/lang/String;" = some ⟨[.char], some (.object "java/lang/String")⟩ := by decide +kernel
theorem pn_com_example_brygga_brygga_CallerIdentifiedPinLaw : plainName "com/example/brygga/brygga/CallerIdentifiedPinLaw" = true := by first | (simp [plainName, overriddenIn]; done) | decide +kernel
theorem ef_rm0 (m : MethodId) (x0 : Int32) (x1 : Int32) (x2 : Int32) : entryFrame m #[(.int x0), (.int x1), (.int x2)] maxLocals = mkF m 0 #[.val (.int x0), .val (.int x1), .val (.int x2), .unset, .unset, .unset, .unset, .unset, .unset, .unset, .unset, .unset] [] := by first | (simp [entryFrame, mkF, argsToLocals, Value.category, maxLocals]; done) | rfl
set_option maxRecDepth 65536 in
set_option maxHeartbeats 40000000 in
theorem rm0 (l : Launch) (Z : State) (a0 : Array Value) (hw : ∀ d ∈ tables_1, d.before a0 Z = true) (hE : EW Z a0 own_EL) (ws : List Jvm.Cond) (p0 : Int32) (p1 : Int32) (p2 : Int32) (h0 : Heap) (n0 : Nat) (O0 : Old Z n0 h0) (zc : Int32) (hzc : ¬ zc = 0) (S_compact : Sta Z Z.heap "java/lang/String" "COMPACT_STRINGS" "Z" (.int zc)) :
    Ctr False l Z own_EL x code maxLocals ret ws room_1 n0 ([]) #[(.int p0), (.int p1), (.int p2)] h0 (Rt (fun w h g => w = .int 1)) := by
  refine Ctr.of (plainFor_of_name pn_com_example_brygga_brygga_CallerIdentifiedPinLaw) hE (fun m => ef_rm0 m p0 p1 p2) ?_
  intro p e s m below meth c T0 X0
  have Z0 : Keep h0 h0 [] := Keep.refl _ _
  refine OwnW.iloadN X0 (n := 1) at_0 rfl rfl ?_
  refine OwnW.sipush X0 (z := (255 : Int32)) (n := 4) at_1 rfl rfl ?_
  refine OwnW.iand X0 (n := 5) at_4 rfl ?_
  refine OwnW.i2c X0 (n := 6) at_5 rfl ?_
  refine OwnW.istoreN X0 (l' := #[.val (.int p0), .val (.int p1), .val (.int p2), .val (.int ((p1 &&& (255 : Int32)).toUInt32.toUInt16.toUInt32.toInt32)), .unset, .unset, .unset, .unset, .unset, .unset, .unset, .unset]) (n := 7) at_6 rfl rfl ?_
  refine OwnW.iloadN X0 (n := 8) at_7 rfl rfl ?_
  refine OwnW.bipush X0 (z := (8 : Int32)) (n := 10) at_8 rfl rfl ?_
  refine OwnW.iushr X0 (n := 11) at_10 rfl ?_
  refine OwnW.sipush X0 (z := (255 : Int32)) (n := 14) at_11 rfl rfl ?_
  refine OwnW.iand X0 (n := 15) at_14 rfl ?_
  refine OwnW.i2c X0 (n := 16) at_15 rfl ?_
  refine OwnW.istore X0 (l' := #[.val (.int p0), .val (.int p1), .val (.int p2), .val (.int ((p1 &&& (255 : Int32)).toUInt32.toUInt16.toUInt32.toInt32)), .val (.int ((((p1.toUInt32 >>> ((8 : Int32) &&& 31).toUInt32).toInt32) &&& (255 : Int32)).toUInt32.toUInt16.toUInt32.toInt32)), .unset, .unset, .unset, .unset, .unset, .unset, .unset]) (n := 18) at_16 rfl rfl ?_
  refine OwnW.iloadN X0 (n := 19) at_18 rfl rfl ?_
  refine OwnW.sipush X0 (z := (255 : Int32)) (n := 22) at_19 rfl rfl ?_
  refine OwnW.iand X0 (n := 23) at_22 rfl ?_
  refine OwnW.i2c X0 (n := 24) at_23 rfl ?_
  refine OwnW.istore X0 (l' := #[.val (.int p0), .val (.int p1), .val (.int p2), .val (.int ((p1 &&& (255 : Int32)).toUInt32.toUInt16.toUInt32.toInt32)), .val (.int ((((p1.toUInt32 >>> ((8 : Int32) &&& 31).toUInt32).toInt32) &&& (255 : Int32)).toUInt32.toUInt16.toUInt32.toInt32)), .val (.int ((p2 &&& (255 : Int32)).toUInt32.toUInt16.toUInt32.toInt32)), .unset, .unset, .unset, .unset, .unset, .unset]) (n := 26) at_24 rfl rfl ?_
  refine OwnW.iloadN X0 (n := 27) at_26 rfl rfl ?_
  refine OwnW.bipush X0 (z := (8 : Int32)) (n := 29) at_27 rfl rfl ?_
  refine OwnW.iushr X0 (n := 30) at_29 rfl ?_
  refine OwnW.sipush X0 (z := (255 : Int32)) (n := 33) at_30 rfl rfl ?_
  refine OwnW.iand X0 (n := 34) at_33 rfl ?_
  refine OwnW.i2c X0 (n := 35) at_34 rfl ?_
  refine OwnW.istore X0 (l' := #[.val (.int p0), .val (.int p1), .val (.int p2), .val (.int ((p1 &&& (255 : Int32)).toUInt32.toUInt16.toUInt32.toInt32)), .val (.int ((((p1.toUInt32 >>> ((8 : Int32) &&& 31).toUInt32).toInt32) &&& (255 : Int32)).toUInt32.toUInt16.toUInt32.toInt32)), .val (.int ((p2 &&& (255 : Int32)).toUInt32.toUInt16.toUInt32.toInt32)), .val (.int ((((p2.toUInt32 >>> ((8 : Int32) &&& 31).toUInt32).toInt32) &&& (255 : Int32)).toUInt32.toUInt16.toUInt32.toInt32)), .unset, .unset, .unset, .unset, .unset]) (n := 37) at_35 rfl rfl ?_
  refine OwnW.joinT X0 (fun (x : Int32 × Int32 × Int32 × Int32) => match x with | (c0, c1, c2, c3) => (¬ c0 < 0 ∧ ¬ 255 < c0) ∧ (¬ c1 < 0 ∧ ¬ 255 < c1) ∧ (¬ c2 < 0 ∧ ¬ 255 < c2) ∧ (¬ c3 < 0 ∧ ¬ 255 < c3)) (fun (x : Int32 × Int32 × Int32 × Int32) => match x with | (c0, c1, c2, c3) => mkF m 37 #[.val (.int p0), .val (.int p1), .val (.int p2), .val (.int c0), .val (.int c1), .val (.int c2), .val (.int c3), .unset, .unset, .unset, .unset, .unset] []) ?_ ?_
  · intro T1 ⟨c0, c1, c2, c3⟩ X1 hj37
    obtain ⟨hb0, hb1, hb2, hb3⟩ := hj37
    refine OwnW.iloadN X1 (n := 38) at_37 rfl rfl ?_
    refine OwnW.iconst X1 (z := (2 : Int32)) (n := 39) at_38 rfl rfl ?_
    refine OwnW.iushr X1 (n := 40) at_39 rfl ?_
    refine OwnW.iconst X1 (z := (1 : Int32)) (n := 41) at_40 rfl rfl ?_
    refine OwnW.iand X1 (n := 42) at_41 rfl ?_
    refine OwnW.if_eq X1  (n1 := 51) (n2 := 45) at_42 (by decide) rfl rfl (fun hc42 => ?_) (fun hc42 => ?_)
    · refine OwnW.new X1 (C := "java/lang/String") (k := 4) (n := 54) at_51 (hw _ (List.mem_of_getElem? (i := 0) rfl)) (hw _ (List.mem_of_getElem? (i := 1) rfl)) (hw _ (List.mem_of_getElem? (i := 2) rfl)) (by decide) (by decide) rfl ?_
      intro T2 h2 b2 gb2 X2 E2 A2 D2 U2
      have ge_b2 : n0 ≤ b2 := by rw [gb2]; exact OwnW.oldLe O0
      have K2 := (OwnW.kExt E2)
      have O2 := O0.keep K2 all0
      have Z2 : Keep h0 h2 [] := Z0.trans K2 (fun x hx => nomatch hx)
      have sz_b2 : h0.size ≤ b2 := by rw [gb2]; exact Z0.1
      have F2_coder : Fld Z h2 b2 "java/lang/String" "coder" "B" (.int (0 : Int32)) := D2 (Or.inr (hw _ (List.mem_of_getElem? (i := 27) rfl))) (ty := .byte) (by decide)
      have F2_value : Fld Z h2 b2 "java/lang/String" "value" "[B" .null := D2 (Or.inr (hw _ (List.mem_of_getElem? (i := 29) rfl))) (ty := (.array .byte)) (by decide)
      refine OwnW.dup X2 (n := 55) at_54 rfl rfl ?_
      refine OwnW.iconst X2 (z := (2 : Int32)) (n := 56) at_55 rfl rfl ?_
      refine OwnW.newarray X2 (len := 2) (cap := 2) (n := 58) at_56 (hw _ (List.mem_of_getElem? (i := 3) rfl)) rfl (by decide) (by decide) (by decide) (by decide) rfl ?_
      intro T3 h3 b3 gb3 X3 E3 A3
      have ne_b2_b3 : b2 ≠ b3 := by rw [gb3]; exact Nat.ne_of_lt A2.lt
      have ge_b3 : n0 ≤ b3 := by rw [gb3]; exact OwnW.oldLe O2
      have K3 := (OwnW.kExt E3)
      have O3 := O2.keep K3 all0
      have Z3 : Keep h0 h3 [] := Z2.trans K3 (fun x hx => nomatch hx)
      have sz_b3 : h0.size ≤ b3 := by rw [gb3]; exact Z2.1
      replace A3 : Ark Z h3 b3 .char [(.int (0 : Int32)), (.int (0 : Int32))] := A3
      refine OwnW.dup X3 (n := 59) at_58 rfl rfl ?_
      refine OwnW.iconst X3 (z := (0 : Int32)) (n := 60) at_59 rfl rfl ?_
      refine OwnW.iloadN X3 (n := 61) at_60 rfl rfl ?_
      refine OwnW.castore X3 (i := 0) (z := c0) (n := 62) at_61 A3 rfl (Nat.le_of_ble_eq_true rfl) (own_narC hb0.1 hb0.2) ge_b3 (List.mem_cons_self ..) rfl ?_
      intro T4 h4 X4 W4 A4
      have K4 := (Keep.of_wr W4)
      have O4 := O3.keep K4 (allS ge_b3 all0)
      have Z4 : Keep h0 h4 [] := Z3.trans K4 (allS (P := fun x => x ∈ [] ∨ h0.size ≤ x) (Or.inr sz_b3) all0)
      replace A4 : Ark Z h4 b3 .char [(.int c0), (.int (0 : Int32))] := A4
      refine OwnW.dup X4 (n := 63) at_62 rfl rfl ?_
      refine OwnW.iconst X4 (z := (1 : Int32)) (n := 64) at_63 rfl rfl ?_
      refine OwnW.iload X4 (n := 66) at_64 rfl rfl ?_
      refine OwnW.castore X4 (i := 1) (z := c1) (n := 67) at_66 A4 rfl (Nat.le_of_ble_eq_true rfl) (own_narC hb1.1 hb1.2) ge_b3 (List.mem_cons_self ..) rfl ?_
      intro T5 h5 X5 W5 A5
      have K5 := (Keep.of_wr W5)
      have O5 := O4.keep K5 (allS ge_b3 all0)
      have Z5 : Keep h0 h5 [] := Z4.trans K5 (allS (P := fun x => x ∈ [] ∨ h0.size ≤ x) (Or.inr sz_b3) all0)
      replace A5 : Ark Z h5 b3 .char [(.int c0), (.int c1)] := A5
      have f6 := (((A2.keep K3).keep K4).keep K5)
      have f7 := (((F2_value.keep K3 nin0).keep K4 (ninS ne_b2_b3 nin0)).keep K5 (ninS ne_b2_b3 nin0))
      have f8 := (((F2_coder.keep K3 nin0).keep K4 (ninS ne_b2_b3 nin0)).keep K5 (ninS ne_b2_b3 nin0))
      refine OwnW.call_special_n X5 (z := (⟨"java/lang/String", "<init>", "([C)V"⟩ : MethodName)) (a := b2) (n := 70) at_67 (hw _ (List.mem_of_getElem? (i := 4) rfl)) (hw _ (List.mem_of_getElem? (i := 5) rfl)) (hw _ (List.mem_of_getElem? (i := 6) rfl)) (hw _ (List.mem_of_getElem? (i := 2) rfl)) rfl rfl (by decide) (rm1 l Z a0 hw hE [] b2 b3 h5 n0 O5 ge_b2 f6 _ _ f7 f8 ([c0, c1] : List Int32) (own_aS hb0.2 (own_aS hb1.2 own_a0)) (by simp) (by simp) A5 ne_b2_b3 zc hzc S_compact) (OwnW.sfS (List.mem_cons_of_mem _ (List.mem_cons_self ..)) OwnW.sf0) (argsL := [(.ref b3)]) (rest := [(.ref b2)]) rfl rfl (OwnW.lenA pd___C_V rfl) (W := 1) (Nat.le_of_eq rfl) (by decide) (by decide) (by decide) (by decide) rfl ?_
      intro T9 h9 g9 hle9 X9 ⟨k9, t9, z9, S9⟩
      obtain ⟨se9, sc9, sv9, sa9⟩ := S9
      have K9 := k9
      have O9 := O5.keep K9 (allS ge_b2 all0)
      have Z9 : Keep h0 h9 [] := Z5.trans K9 (allS (P := fun x => x ∈ [] ∨ h0.size ≤ x) (Or.inr sz_b2) all0)
      have ne_b2_t9 : b2 ≠ t9 := Nat.ne_of_lt (Nat.lt_of_lt_of_le f6.lt z9)
      have ne_b3_t9 : b3 ≠ t9 := Nat.ne_of_lt (Nat.lt_of_lt_of_le A5.lt z9)
      refine OwnW.astore X9 (l' := #[.val (.int p0), .val (.int p1), .val (.int p2), .val (.int c0), .val (.int c1), .val (.int c2), .val (.int c3), .val (.ref b2), .unset, .unset, .unset, .unset]) (n := 72) at_70 rfl rfl rfl ?_
      refine OwnW.iloadN X9 (n := 73) at_72 rfl rfl ?_
      refine OwnW.iconst X9 (z := (3 : Int32)) (n := 74) at_73 rfl rfl ?_
      refine OwnW.iand X9 (n := 75) at_74 rfl ?_
      refine OwnW.istore X9 (l' := #[.val (.int p0), .val (.int p1), .val (.int p2), .val (.int c0), .val (.int c1), .val (.int c2), .val (.int c3), .val (.ref b2), .val (.int (p0 &&& (3 : Int32))), .unset, .unset, .unset]) (n := 77) at_75 rfl rfl ?_
      refine OwnW.iload X9 (n := 79) at_77 rfl rfl ?_
      refine OwnW.if_ne X9  (n1 := 88) (n2 := 82) at_79 (by decide) rfl rfl (fun hc79 => ?_) (fun hc79 => ?_)
      · refine OwnW.iload X9 (n := 90) at_88 rfl rfl ?_
        refine OwnW.iconst X9 (z := (1 : Int32)) (n := 91) at_90 rfl rfl ?_
        refine OwnW.ic_ne X9  (n1 := 109) (n2 := 94) at_91 (by decide) rfl rfl (fun hc91 => ?_) (fun hc91 => ?_)
        · refine OwnW.iload X9 (n := 111) at_109 rfl rfl ?_
          refine OwnW.iconst X9 (z := (2 : Int32)) (n := 112) at_111 rfl rfl ?_
          refine OwnW.ic_ne X9  (n1 := 125) (n2 := 115) at_112 (by decide) rfl rfl (fun hc112 => ?_) (fun hc112 => ?_)
          · refine OwnW.new X9 (C := "java/lang/String") (k := 4) (n := 128) at_125 (hw _ (List.mem_of_getElem? (i := 0) rfl)) (hw _ (List.mem_of_getElem? (i := 1) rfl)) (hw _ (List.mem_of_getElem? (i := 2) rfl)) (by decide) (by decide) rfl ?_
            intro T10 h10 b10 gb10 X10 E10 A10 D10 U10
            have ne_b2_b10 : b2 ≠ b10 := by rw [gb10]; exact Nat.ne_of_lt se9.lt
            have f11 := (A5.keep K9 (ninS (Ne.symm ne_b2_b3) nin0))
            have ne_b3_b10 : b3 ≠ b10 := by rw [gb10]; exact Nat.ne_of_lt f11.lt
            have ne_t9_b10 : t9 ≠ b10 := by rw [gb10]; exact Nat.ne_of_lt sa9.lt
            have ge_b10 : n0 ≤ b10 := by rw [gb10]; exact OwnW.oldLe O9
            have K10 := (OwnW.kExt E10)
            have O10 := O9.keep K10 all0
            have Z10 : Keep h0 h10 [] := Z9.trans K10 (fun x hx => nomatch hx)
            have sz_b10 : h0.size ≤ b10 := by rw [gb10]; exact Z9.1
            have F10_coder : Fld Z h10 b10 "java/lang/String" "coder" "B" (.int (0 : Int32)) := D10 (Or.inr (hw _ (List.mem_of_getElem? (i := 27) rfl))) (ty := .byte) (by decide)
            have F10_value : Fld Z h10 b10 "java/lang/String" "value" "[B" .null := D10 (Or.inr (hw _ (List.mem_of_getElem? (i := 29) rfl))) (ty := (.array .byte)) (by decide)
            refine OwnW.dup X10 (n := 129) at_128 rfl rfl ?_
            refine OwnW.iconst X10 (z := (2 : Int32)) (n := 130) at_129 rfl rfl ?_
            refine OwnW.newarray X10 (len := 2) (cap := 2) (n := 132) at_130 (hw _ (List.mem_of_getElem? (i := 3) rfl)) rfl (by decide) (by decide) (by decide) (by decide) rfl ?_
            intro T12 h12 b12 gb12 X12 E12 A12
            have f13 := (se9.keep K10)
            have ne_b2_b12 : b2 ≠ b12 := by rw [gb12]; exact Nat.ne_of_lt f13.lt
            have f14 := (f11.keep K10 nin0)
            have ne_b3_b12 : b3 ≠ b12 := by rw [gb12]; exact Nat.ne_of_lt f14.lt
            have f15 := (sa9.keep K10 nin0)
            have ne_t9_b12 : t9 ≠ b12 := by rw [gb12]; exact Nat.ne_of_lt f15.lt
            have ne_b10_b12 : b10 ≠ b12 := by rw [gb12]; exact Nat.ne_of_lt A10.lt
            have ge_b12 : n0 ≤ b12 := by rw [gb12]; exact OwnW.oldLe O10
            have K12 := (OwnW.kExt E12)
            have O12 := O10.keep K12 all0
            have Z12 : Keep h0 h12 [] := Z10.trans K12 (fun x hx => nomatch hx)
            have sz_b12 : h0.size ≤ b12 := by rw [gb12]; exact Z10.1
            replace A12 : Ark Z h12 b12 .char [(.int (0 : Int32)), (.int (0 : Int32))] := A12
            refine OwnW.dup X12 (n := 133) at_132 rfl rfl ?_
            refine OwnW.iconst X12 (z := (0 : Int32)) (n := 134) at_133 rfl rfl ?_
            refine OwnW.iload X12 (n := 136) at_134 rfl rfl ?_
            refine OwnW.castore X12 (i := 0) (z := c2) (n := 137) at_136 A12 rfl (Nat.le_of_ble_eq_true rfl) (own_narC hb2.1 hb2.2) ge_b12 (List.mem_cons_self ..) rfl ?_
            intro T16 h16 X16 W16 A16
            have K16 := (Keep.of_wr W16)
            have O16 := O12.keep K16 (allS ge_b12 all0)
            have Z16 : Keep h0 h16 [] := Z12.trans K16 (allS (P := fun x => x ∈ [] ∨ h0.size ≤ x) (Or.inr sz_b12) all0)
            replace A16 : Ark Z h16 b12 .char [(.int c2), (.int (0 : Int32))] := A16
            refine OwnW.dup X16 (n := 138) at_137 rfl rfl ?_
            refine OwnW.iconst X16 (z := (1 : Int32)) (n := 139) at_138 rfl rfl ?_
            refine OwnW.iload X16 (n := 141) at_139 rfl rfl ?_
            refine OwnW.castore X16 (i := 1) (z := c3) (n := 142) at_141 A16 rfl (Nat.le_of_ble_eq_true rfl) (own_narC hb3.1 hb3.2) ge_b12 (List.mem_cons_self ..) rfl ?_
            intro T17 h17 X17 W17 A17
            have K17 := (Keep.of_wr W17)
            have O17 := O16.keep K17 (allS ge_b12 all0)
            have Z17 : Keep h0 h17 [] := Z16.trans K17 (allS (P := fun x => x ∈ [] ∨ h0.size ≤ x) (Or.inr sz_b12) all0)
            replace A17 : Ark Z h17 b12 .char [(.int c2), (.int c3)] := A17
            have f18 := (((A10.keep K12).keep K16).keep K17)
            have f19 := (((F10_value.keep K12 nin0).keep K16 (ninS ne_b10_b12 nin0)).keep K17 (ninS ne_b10_b12 nin0))
            have f20 := (((F10_coder.keep K12 nin0).keep K16 (ninS ne_b10_b12 nin0)).keep K17 (ninS ne_b10_b12 nin0))
            have f21 := (((f13.keep K12).keep K16).keep K17)
            have f22 := ((((sc9.keep K10 nin0).keep K12 nin0).keep K16 (ninS ne_b2_b12 nin0)).keep K17 (ninS ne_b2_b12 nin0))
            have f23 := ((((sv9.keep K10 nin0).keep K12 nin0).keep K16 (ninS ne_b2_b12 nin0)).keep K17 (ninS ne_b2_b12 nin0))
            have f24 := (((f14.keep K12 nin0).keep K16 (ninS ne_b3_b12 nin0)).keep K17 (ninS ne_b3_b12 nin0))
            have f25 := (((f15.keep K12 nin0).keep K16 (ninS ne_t9_b12 nin0)).keep K17 (ninS ne_t9_b12 nin0))
            refine OwnW.call_special_n X17 (z := (⟨"java/lang/String", "<init>", "([C)V"⟩ : MethodName)) (a := b10) (n := 145) at_142 (hw _ (List.mem_of_getElem? (i := 4) rfl)) (hw _ (List.mem_of_getElem? (i := 5) rfl)) (hw _ (List.mem_of_getElem? (i := 6) rfl)) (hw _ (List.mem_of_getElem? (i := 2) rfl)) rfl rfl (by decide) (rm1 l Z a0 hw hE [] b10 b12 h17 n0 O17 ge_b10 f18 _ _ f19 f20 ([c2, c3] : List Int32) (own_aS hb2.2 (own_aS hb3.2 own_a0)) (by simp) (by simp) A17 ne_b10_b12 zc hzc S_compact) (OwnW.sfS (List.mem_cons_of_mem _ (List.mem_cons_self ..)) OwnW.sf0) (argsL := [(.ref b12)]) (rest := [(.ref b10)]) rfl rfl (OwnW.lenA pd___C_V rfl) (W := 1) (Nat.le_of_eq rfl) (by decide) (by decide) (by decide) (by decide) rfl ?_
            intro T26 h26 g26 hle26 X26 ⟨k26, t26, z26, S26⟩
            obtain ⟨se26, sc26, sv26, sa26⟩ := S26
            have K26 := k26
            have O26 := O17.keep K26 (allS ge_b10 all0)
            have Z26 : Keep h0 h26 [] := Z17.trans K26 (allS (P := fun x => x ∈ [] ∨ h0.size ≤ x) (Or.inr sz_b10) all0)
            have ne_b2_t26 : b2 ≠ t26 := Nat.ne_of_lt (Nat.lt_of_lt_of_le f21.lt z26)
            have ne_b3_t26 : b3 ≠ t26 := Nat.ne_of_lt (Nat.lt_of_lt_of_le f24.lt z26)
            have ne_t9_t26 : t9 ≠ t26 := Nat.ne_of_lt (Nat.lt_of_lt_of_le f25.lt z26)
            have ne_b10_t26 : b10 ≠ t26 := Nat.ne_of_lt (Nat.lt_of_lt_of_le f18.lt z26)
            have ne_b12_t26 : b12 ≠ t26 := Nat.ne_of_lt (Nat.lt_of_lt_of_le A17.lt z26)
            refine OwnW.astore X26 (l' := #[.val (.int p0), .val (.int p1), .val (.int p2), .val (.int c0), .val (.int c1), .val (.int c2), .val (.int c3), .val (.ref b2), .val (.int (p0 &&& (3 : Int32))), .val (.ref b10), .unset, .unset]) (n := 147) at_145 rfl rfl rfl ?_
            refine OwnW.new X26 (C := "com/example/brygga/brygga/Caller") (k := 2) (n := 150) at_147 (hw _ (List.mem_of_getElem? (i := 30) rfl)) (hw _ (List.mem_of_getElem? (i := 31) rfl)) (hw _ (List.mem_of_getElem? (i := 32) rfl)) (by decide) (by decide) rfl ?_
            intro T27 h27 b27 gb27 X27 E27 A27 D27 U27
            have f28 := (f21.keep K26)
            have ne_b2_b27 : b2 ≠ b27 := by rw [gb27]; exact Nat.ne_of_lt f28.lt
            have f29 := (f24.keep K26 (ninS ne_b3_b10 nin0))
            have ne_b3_b27 : b3 ≠ b27 := by rw [gb27]; exact Nat.ne_of_lt f29.lt
            have f30 := (f25.keep K26 (ninS ne_t9_b10 nin0))
            have ne_t9_b27 : t9 ≠ b27 := by rw [gb27]; exact Nat.ne_of_lt f30.lt
            have ne_b10_b27 : b10 ≠ b27 := by rw [gb27]; exact Nat.ne_of_lt se26.lt
            have f31 := (A17.keep K26 (ninS (Ne.symm ne_b10_b12) nin0))
            have ne_b12_b27 : b12 ≠ b27 := by rw [gb27]; exact Nat.ne_of_lt f31.lt
            have ne_t26_b27 : t26 ≠ b27 := by rw [gb27]; exact Nat.ne_of_lt sa26.lt
            have ge_b27 : n0 ≤ b27 := by rw [gb27]; exact OwnW.oldLe O26
            have K27 := (OwnW.kExt E27)
            have O27 := O26.keep K27 all0
            have Z27 : Keep h0 h27 [] := Z26.trans K27 (fun x hx => nomatch hx)
            have sz_b27 : h0.size ≤ b27 := by rw [gb27]; exact Z26.1
            have F27_subject : Fld Z h27 b27 "com/example/brygga/brygga/Caller" "subject" "Ljava/lang/String;" .null := D27 (Or.inr (hw _ (List.mem_of_getElem? (i := 43) rfl))) (ty := (.object "java/lang/String")) (by decide)
            have F27_hsaId : Fld Z h27 b27 "com/example/brygga/brygga/Caller" "hsaId" "Ljava/lang/String;" .null := D27 (Or.inr (hw _ (List.mem_of_getElem? (i := 45) rfl))) (ty := (.object "java/lang/String")) (by decide)
            refine OwnW.dup X27 (n := 151) at_150 rfl rfl ?_
            refine OwnW.aload X27 (n := 153) at_151 rfl rfl rfl ?_
            refine OwnW.aload X27 (n := 155) at_153 rfl rfl rfl ?_
            refine OwnW.call_special_n X27 (z := (⟨"com/example/brygga/brygga/Caller", "<init>", "(Ljava/lang/String;Ljava/lang/String;)V"⟩ : MethodName)) (a := b27) (n := 158) at_155 (hw _ (List.mem_of_getElem? (i := 33) rfl)) (hw _ (List.mem_of_getElem? (i := 34) rfl)) (hw _ (List.mem_of_getElem? (i := 35) rfl)) (hw _ (List.mem_of_getElem? (i := 32) rfl)) rfl rfl (by decide) (rmC11 l Z a0 hw hE [] b27 b2 b10 h27 n0 O27 ge_b27 A27 _ _ F27_subject F27_hsaId) (OwnW.sfS (List.mem_cons_self ..) OwnW.sf0) (argsL := [(.ref b2), (.ref b10)]) (rest := [(.ref b27)]) rfl rfl (OwnW.lenA pd__Ljava_lang_String_Ljava_lang_String__V rfl) (W := 1) (Nat.le_of_eq rfl) (by decide) (by decide) (by decide) (by decide) rfl ?_
            intro T32 h32 g32 hle32 X32 ⟨k32, f32⟩
            have K32 := k32
            have O32 := O27.keep K32 (allS ge_b27 all0)
            have Z32 : Keep h0 h32 [] := Z27.trans K32 (allS (P := fun x => x ∈ [] ∨ h0.size ≤ x) (Or.inr sz_b27) all0)
            refine OwnW.astore X32 (l' := #[.val (.int p0), .val (.int p1), .val (.int p2), .val (.int c0), .val (.int c1), .val (.int c2), .val (.int c3), .val (.ref b2), .val (.int (p0 &&& (3 : Int32))), .val (.ref b10), .val (.ref b27), .unset]) (n := 160) at_158 rfl rfl rfl ?_
            refine OwnW.iload X32 (n := 162) at_160 rfl rfl ?_
            refine OwnW.if_eq X32  (n1 := 169) (n2 := 165) at_162 (by decide) rfl rfl (fun q => absurd q (hc79 : ¬ (p0 &&& (3 : Int32)) = 0)) (fun _ => ?_)
            refine OwnW.iconst X32 (z := (1 : Int32)) (n := 166) at_165 rfl rfl ?_
            refine OwnW.goto X32 (n := 170) at_166 (by decide) rfl ?_
            refine OwnW.istore X32 (l' := #[.val (.int p0), .val (.int p1), .val (.int p2), .val (.int c0), .val (.int c1), .val (.int c2), .val (.int c3), .val (.ref b2), .val (.int (p0 &&& (3 : Int32))), .val (.ref b10), .val (.ref b27), .val (.int (1 : Int32))]) (n := 172) at_170 rfl rfl ?_
            refine OwnW.aload X32 (n := 174) at_172 rfl rfl rfl ?_
            have f34 := (A27.keep K32)
            refine OwnW.call_virtual_v X32 (z := (⟨"com/example/brygga/brygga/Caller", "identified", "()Z"⟩ : MethodName)) (yv := (⟨"com/example/brygga/brygga/Caller", "identified", "()Z"⟩ : MethodName)) (a := b27) (C := "com/example/brygga/brygga/Caller") (n := 177) at_174 (hw _ (List.mem_of_getElem? (i := 46) rfl)) (hw _ (List.mem_of_getElem? (i := 47) rfl)) (hw _ (List.mem_of_getElem? (i := 48) rfl)) (hw _ (List.mem_of_getElem? (i := 49) rfl)) (fun hz => notFace_of_selects (args := #[]) (mvT hz (hw _ (List.mem_of_getElem? (i := 49) rfl)))) (hw _ (List.mem_of_getElem? (i := 50) rfl)) (hw _ (List.mem_of_getElem? (i := 32) rfl)) (by decide) f34 (rmIr l Z a0 hw hE [] b27 h32 n0 _ f32) OwnW.sf0 (argsL := []) (rest := []) rfl rfl (OwnW.lenA pd___Z rfl) (W := 0) (Nat.le_of_eq rfl) (by decide) (by decide) (by decide) (by decide) rfl ?_
            intro T33 h33 w33 g33 hle33 X33 ⟨q1, q2⟩
            subst q1 q2
            refine OwnW.iload X33 (n := 179) at_177 rfl rfl ?_
            refine OwnW.ic_ne X33  (n1 := 186) (n2 := 182) at_179 (by decide) rfl rfl (fun q => absurd ((by decide) : (1 : Int32) = (1 : Int32)) q) (fun _ => ?_)
            refine OwnW.iconst X33 (z := (1 : Int32)) (n := 183) at_182 rfl rfl ?_
            refine OwnW.goto X33 (n := 187) at_183 (by decide) rfl ?_
            exact OwnW.ireturn X33 rfl (Or.inr (Or.inl rfl)) rfl at_187 rfl (by decide) (by decide)
          · refine OwnW.iload X9 (n := 117) at_115 rfl rfl ?_
            have f35 := (A5.keep K9 (ninS (Ne.symm ne_b2_b3) nin0))
            refine OwnW.call_static_v X9 (z := (⟨"java/lang/String", "valueOf", "(C)Ljava/lang/String;"⟩ : MethodName)) (n := 120) at_117 (hw _ (List.mem_of_getElem? (i := 54) rfl)) (hw _ (List.mem_of_getElem? (i := 55) rfl)) (hw _ (List.mem_of_getElem? (i := 56) rfl)) (hw _ (List.mem_of_getElem? (i := 2) rfl)) (by decide) (rm10 l Z a0 hw hE [] c2 h9 n0 O9 hb2.2 zc hzc S_compact) OwnW.sf0 (argsL := [(.int c2)]) (rest := []) rfl rfl (OwnW.lenA pd__C_Ljava_lang_String_ rfl) (W := 0) (Nat.le_of_eq rfl) (by decide) (by decide) (by decide) (by decide) rfl ?_
            intro T36 h36 w36 g36 hle36 X36 ⟨x36, t36, q1, k36, y36, z36, S36⟩
            subst q1
            obtain ⟨se36, sc36, sv36, sa36⟩ := S36
            have ne_b2_x36 : b2 ≠ x36 := Nat.ne_of_lt (Nat.lt_of_lt_of_le se9.lt y36)
            have ne_b2_t36 : b2 ≠ t36 := Nat.ne_of_lt (Nat.lt_of_lt_of_le se9.lt z36)
            have ne_b3_x36 : b3 ≠ x36 := Nat.ne_of_lt (Nat.lt_of_lt_of_le f35.lt y36)
            have ne_b3_t36 : b3 ≠ t36 := Nat.ne_of_lt (Nat.lt_of_lt_of_le f35.lt z36)
            have ne_t9_x36 : t9 ≠ x36 := Nat.ne_of_lt (Nat.lt_of_lt_of_le sa9.lt y36)
            have ne_t9_t36 : t9 ≠ t36 := Nat.ne_of_lt (Nat.lt_of_lt_of_le sa9.lt z36)
            have K36 := k36
            have O36 := O9.keep K36 all0
            have Z36 : Keep h0 h36 [] := Z9.trans K36 (fun x hx => nomatch hx)
            refine OwnW.astore X36 (l' := #[.val (.int p0), .val (.int p1), .val (.int p2), .val (.int c0), .val (.int c1), .val (.int c2), .val (.int c3), .val (.ref b2), .val (.int (p0 &&& (3 : Int32))), .val (.ref x36), .unset, .unset]) (n := 122) at_120 rfl rfl rfl ?_
            refine OwnW.goto X36 (n := 147) at_122 (by decide) rfl ?_
            refine OwnW.new X36 (C := "com/example/brygga/brygga/Caller") (k := 2) (n := 150) at_147 (hw _ (List.mem_of_getElem? (i := 30) rfl)) (hw _ (List.mem_of_getElem? (i := 31) rfl)) (hw _ (List.mem_of_getElem? (i := 32) rfl)) (by decide) (by decide) rfl ?_
            intro T37 h37 b37 gb37 X37 E37 A37 D37 U37
            have f38 := (se9.keep K36)
            have ne_b2_b37 : b2 ≠ b37 := by rw [gb37]; exact Nat.ne_of_lt f38.lt
            have f39 := (f35.keep K36 nin0)
            have ne_b3_b37 : b3 ≠ b37 := by rw [gb37]; exact Nat.ne_of_lt f39.lt
            have f40 := (sa9.keep K36 nin0)
            have ne_t9_b37 : t9 ≠ b37 := by rw [gb37]; exact Nat.ne_of_lt f40.lt
            have ne_x36_b37 : x36 ≠ b37 := by rw [gb37]; exact Nat.ne_of_lt se36.lt
            have ne_t36_b37 : t36 ≠ b37 := by rw [gb37]; exact Nat.ne_of_lt sa36.lt
            have ge_b37 : n0 ≤ b37 := by rw [gb37]; exact OwnW.oldLe O36
            have K37 := (OwnW.kExt E37)
            have O37 := O36.keep K37 all0
            have Z37 : Keep h0 h37 [] := Z36.trans K37 (fun x hx => nomatch hx)
            have sz_b37 : h0.size ≤ b37 := by rw [gb37]; exact Z36.1
            have F37_subject : Fld Z h37 b37 "com/example/brygga/brygga/Caller" "subject" "Ljava/lang/String;" .null := D37 (Or.inr (hw _ (List.mem_of_getElem? (i := 43) rfl))) (ty := (.object "java/lang/String")) (by decide)
            have F37_hsaId : Fld Z h37 b37 "com/example/brygga/brygga/Caller" "hsaId" "Ljava/lang/String;" .null := D37 (Or.inr (hw _ (List.mem_of_getElem? (i := 45) rfl))) (ty := (.object "java/lang/String")) (by decide)
            refine OwnW.dup X37 (n := 151) at_150 rfl rfl ?_
            refine OwnW.aload X37 (n := 153) at_151 rfl rfl rfl ?_
            refine OwnW.aload X37 (n := 155) at_153 rfl rfl rfl ?_
            refine OwnW.call_special_n X37 (z := (⟨"com/example/brygga/brygga/Caller", "<init>", "(Ljava/lang/String;Ljava/lang/String;)V"⟩ : MethodName)) (a := b37) (n := 158) at_155 (hw _ (List.mem_of_getElem? (i := 33) rfl)) (hw _ (List.mem_of_getElem? (i := 34) rfl)) (hw _ (List.mem_of_getElem? (i := 35) rfl)) (hw _ (List.mem_of_getElem? (i := 32) rfl)) rfl rfl (by decide) (rmC11 l Z a0 hw hE [] b37 b2 x36 h37 n0 O37 ge_b37 A37 _ _ F37_subject F37_hsaId) (OwnW.sfS (List.mem_cons_self ..) OwnW.sf0) (argsL := [(.ref b2), (.ref x36)]) (rest := [(.ref b37)]) rfl rfl (OwnW.lenA pd__Ljava_lang_String_Ljava_lang_String__V rfl) (W := 1) (Nat.le_of_eq rfl) (by decide) (by decide) (by decide) (by decide) rfl ?_
            intro T41 h41 g41 hle41 X41 ⟨k41, f41⟩
            have K41 := k41
            have O41 := O37.keep K41 (allS ge_b37 all0)
            have Z41 : Keep h0 h41 [] := Z37.trans K41 (allS (P := fun x => x ∈ [] ∨ h0.size ≤ x) (Or.inr sz_b37) all0)
            refine OwnW.astore X41 (l' := #[.val (.int p0), .val (.int p1), .val (.int p2), .val (.int c0), .val (.int c1), .val (.int c2), .val (.int c3), .val (.ref b2), .val (.int (p0 &&& (3 : Int32))), .val (.ref x36), .val (.ref b37), .unset]) (n := 160) at_158 rfl rfl rfl ?_
            refine OwnW.iload X41 (n := 162) at_160 rfl rfl ?_
            refine OwnW.if_eq X41  (n1 := 169) (n2 := 165) at_162 (by decide) rfl rfl (fun q => absurd q (hc79 : ¬ (p0 &&& (3 : Int32)) = 0)) (fun _ => ?_)
            refine OwnW.iconst X41 (z := (1 : Int32)) (n := 166) at_165 rfl rfl ?_
            refine OwnW.goto X41 (n := 170) at_166 (by decide) rfl ?_
            refine OwnW.istore X41 (l' := #[.val (.int p0), .val (.int p1), .val (.int p2), .val (.int c0), .val (.int c1), .val (.int c2), .val (.int c3), .val (.ref b2), .val (.int (p0 &&& (3 : Int32))), .val (.ref x36), .val (.ref b37), .val (.int (1 : Int32))]) (n := 172) at_170 rfl rfl ?_
            refine OwnW.aload X41 (n := 174) at_172 rfl rfl rfl ?_
            have f43 := (A37.keep K41)
            refine OwnW.call_virtual_v X41 (z := (⟨"com/example/brygga/brygga/Caller", "identified", "()Z"⟩ : MethodName)) (yv := (⟨"com/example/brygga/brygga/Caller", "identified", "()Z"⟩ : MethodName)) (a := b37) (C := "com/example/brygga/brygga/Caller") (n := 177) at_174 (hw _ (List.mem_of_getElem? (i := 46) rfl)) (hw _ (List.mem_of_getElem? (i := 47) rfl)) (hw _ (List.mem_of_getElem? (i := 48) rfl)) (hw _ (List.mem_of_getElem? (i := 49) rfl)) (fun hz => notFace_of_selects (args := #[]) (mvT hz (hw _ (List.mem_of_getElem? (i := 49) rfl)))) (hw _ (List.mem_of_getElem? (i := 50) rfl)) (hw _ (List.mem_of_getElem? (i := 32) rfl)) (by decide) f43 (rmIr l Z a0 hw hE [] b37 h41 n0 _ f41) OwnW.sf0 (argsL := []) (rest := []) rfl rfl (OwnW.lenA pd___Z rfl) (W := 0) (Nat.le_of_eq rfl) (by decide) (by decide) (by decide) (by decide) rfl ?_
            intro T42 h42 w42 g42 hle42 X42 ⟨q1, q2⟩
            subst q1 q2
            refine OwnW.iload X42 (n := 179) at_177 rfl rfl ?_
            refine OwnW.ic_ne X42  (n1 := 186) (n2 := 182) at_179 (by decide) rfl rfl (fun q => absurd ((by decide) : (1 : Int32) = (1 : Int32)) q) (fun _ => ?_)
            refine OwnW.iconst X42 (z := (1 : Int32)) (n := 183) at_182 rfl rfl ?_
            refine OwnW.goto X42 (n := 187) at_183 (by decide) rfl ?_
            exact OwnW.ireturn X42 rfl (Or.inr (Or.inl rfl)) rfl at_187 rfl (by decide) (by decide)
        · refine OwnW.new X9 (C := "java/lang/String") (k := 4) (n := 97) at_94 (hw _ (List.mem_of_getElem? (i := 0) rfl)) (hw _ (List.mem_of_getElem? (i := 1) rfl)) (hw _ (List.mem_of_getElem? (i := 2) rfl)) (by decide) (by decide) rfl ?_
          intro T44 h44 b44 gb44 X44 E44 A44 D44 U44
          have ne_b2_b44 : b2 ≠ b44 := by rw [gb44]; exact Nat.ne_of_lt se9.lt
          have f45 := (A5.keep K9 (ninS (Ne.symm ne_b2_b3) nin0))
          have ne_b3_b44 : b3 ≠ b44 := by rw [gb44]; exact Nat.ne_of_lt f45.lt
          have ne_t9_b44 : t9 ≠ b44 := by rw [gb44]; exact Nat.ne_of_lt sa9.lt
          have ge_b44 : n0 ≤ b44 := by rw [gb44]; exact OwnW.oldLe O9
          have K44 := (OwnW.kExt E44)
          have O44 := O9.keep K44 all0
          have Z44 : Keep h0 h44 [] := Z9.trans K44 (fun x hx => nomatch hx)
          have sz_b44 : h0.size ≤ b44 := by rw [gb44]; exact Z9.1
          have F44_coder : Fld Z h44 b44 "java/lang/String" "coder" "B" (.int (0 : Int32)) := D44 (Or.inr (hw _ (List.mem_of_getElem? (i := 27) rfl))) (ty := .byte) (by decide)
          have F44_value : Fld Z h44 b44 "java/lang/String" "value" "[B" .null := D44 (Or.inr (hw _ (List.mem_of_getElem? (i := 29) rfl))) (ty := (.array .byte)) (by decide)
          refine OwnW.dup X44 (n := 98) at_97 rfl rfl ?_
          refine OwnW.iconst X44 (z := (0 : Int32)) (n := 99) at_98 rfl rfl ?_
          refine OwnW.newarray X44 (len := 0) (cap := 0) (n := 101) at_99 (hw _ (List.mem_of_getElem? (i := 3) rfl)) rfl (by decide) (by decide) (by decide) (by decide) rfl ?_
          intro T46 h46 b46 gb46 X46 E46 A46
          have f47 := (se9.keep K44)
          have ne_b2_b46 : b2 ≠ b46 := by rw [gb46]; exact Nat.ne_of_lt f47.lt
          have f48 := (f45.keep K44 nin0)
          have ne_b3_b46 : b3 ≠ b46 := by rw [gb46]; exact Nat.ne_of_lt f48.lt
          have f49 := (sa9.keep K44 nin0)
          have ne_t9_b46 : t9 ≠ b46 := by rw [gb46]; exact Nat.ne_of_lt f49.lt
          have ne_b44_b46 : b44 ≠ b46 := by rw [gb46]; exact Nat.ne_of_lt A44.lt
          have ge_b46 : n0 ≤ b46 := by rw [gb46]; exact OwnW.oldLe O44
          have K46 := (OwnW.kExt E46)
          have O46 := O44.keep K46 all0
          have Z46 : Keep h0 h46 [] := Z44.trans K46 (fun x hx => nomatch hx)
          have sz_b46 : h0.size ≤ b46 := by rw [gb46]; exact Z44.1
          replace A46 : Ark Z h46 b46 .char [] := A46
          have f50 := (A44.keep K46)
          have f51 := (F44_value.keep K46 nin0)
          have f52 := (F44_coder.keep K46 nin0)
          have f53 := (f47.keep K46)
          have f54 := ((sc9.keep K44 nin0).keep K46 nin0)
          have f55 := ((sv9.keep K44 nin0).keep K46 nin0)
          have f56 := (f48.keep K46 nin0)
          have f57 := (f49.keep K46 nin0)
          refine OwnW.call_special_n X46 (z := (⟨"java/lang/String", "<init>", "([C)V"⟩ : MethodName)) (a := b44) (n := 104) at_101 (hw _ (List.mem_of_getElem? (i := 4) rfl)) (hw _ (List.mem_of_getElem? (i := 5) rfl)) (hw _ (List.mem_of_getElem? (i := 6) rfl)) (hw _ (List.mem_of_getElem? (i := 2) rfl)) rfl rfl (by decide) (rm1e l Z a0 hw hE [] b44 b46 h46 n0 O46 [] ge_b44 f50 _ _ f51 f52 A46) (OwnW.sfS (List.mem_cons_of_mem _ (List.mem_cons_self ..)) OwnW.sf0) (argsL := [(.ref b46)]) (rest := [(.ref b44)]) rfl rfl (OwnW.lenA pd___C_V rfl) (W := 1) (Nat.le_of_eq rfl) (by decide) (by decide) (by decide) (by decide) rfl ?_
          intro T58 h58 g58 hle58 X58 ⟨k58, t58, nx58, S58⟩
          obtain ⟨se58, sc58, sv58, sa58⟩ := S58
          have K58 := k58
          have O58 := O46.keep K58 (allS ge_b44 all0)
          have Z58 : Keep h0 h58 [] := Z46.trans K58 (allS (P := fun x => x ∈ [] ∨ h0.size ≤ x) (Or.inr sz_b44) all0)
          refine OwnW.astore X58 (l' := #[.val (.int p0), .val (.int p1), .val (.int p2), .val (.int c0), .val (.int c1), .val (.int c2), .val (.int c3), .val (.ref b2), .val (.int (p0 &&& (3 : Int32))), .val (.ref b44), .unset, .unset]) (n := 106) at_104 rfl rfl rfl ?_
          refine OwnW.goto X58 (n := 147) at_106 (by decide) rfl ?_
          refine OwnW.new X58 (C := "com/example/brygga/brygga/Caller") (k := 2) (n := 150) at_147 (hw _ (List.mem_of_getElem? (i := 30) rfl)) (hw _ (List.mem_of_getElem? (i := 31) rfl)) (hw _ (List.mem_of_getElem? (i := 32) rfl)) (by decide) (by decide) rfl ?_
          intro T59 h59 b59 gb59 X59 E59 A59 D59 U59
          have f60 := (f53.keep K58)
          have ne_b2_b59 : b2 ≠ b59 := by rw [gb59]; exact Nat.ne_of_lt f60.lt
          have f61 := (f56.keep K58 (ninS ne_b3_b44 nin0))
          have ne_b3_b59 : b3 ≠ b59 := by rw [gb59]; exact Nat.ne_of_lt f61.lt
          have f62 := (f57.keep K58 (ninS ne_t9_b44 nin0))
          have ne_t9_b59 : t9 ≠ b59 := by rw [gb59]; exact Nat.ne_of_lt f62.lt
          have ne_b44_b59 : b44 ≠ b59 := by rw [gb59]; exact Nat.ne_of_lt se58.lt
          have f63 := (A46.keep K58 (ninS (Ne.symm ne_b44_b46) nin0))
          have ne_b46_b59 : b46 ≠ b59 := by rw [gb59]; exact Nat.ne_of_lt f63.lt
          have ne_t58_b59 : t58 ≠ b59 := by rw [gb59]; exact Nat.ne_of_lt sa58.lt
          have ge_b59 : n0 ≤ b59 := by rw [gb59]; exact OwnW.oldLe O58
          have K59 := (OwnW.kExt E59)
          have O59 := O58.keep K59 all0
          have Z59 : Keep h0 h59 [] := Z58.trans K59 (fun x hx => nomatch hx)
          have sz_b59 : h0.size ≤ b59 := by rw [gb59]; exact Z58.1
          have F59_subject : Fld Z h59 b59 "com/example/brygga/brygga/Caller" "subject" "Ljava/lang/String;" .null := D59 (Or.inr (hw _ (List.mem_of_getElem? (i := 43) rfl))) (ty := (.object "java/lang/String")) (by decide)
          have F59_hsaId : Fld Z h59 b59 "com/example/brygga/brygga/Caller" "hsaId" "Ljava/lang/String;" .null := D59 (Or.inr (hw _ (List.mem_of_getElem? (i := 45) rfl))) (ty := (.object "java/lang/String")) (by decide)
          refine OwnW.dup X59 (n := 151) at_150 rfl rfl ?_
          refine OwnW.aload X59 (n := 153) at_151 rfl rfl rfl ?_
          refine OwnW.aload X59 (n := 155) at_153 rfl rfl rfl ?_
          refine OwnW.call_special_n X59 (z := (⟨"com/example/brygga/brygga/Caller", "<init>", "(Ljava/lang/String;Ljava/lang/String;)V"⟩ : MethodName)) (a := b59) (n := 158) at_155 (hw _ (List.mem_of_getElem? (i := 33) rfl)) (hw _ (List.mem_of_getElem? (i := 34) rfl)) (hw _ (List.mem_of_getElem? (i := 35) rfl)) (hw _ (List.mem_of_getElem? (i := 32) rfl)) rfl rfl (by decide) (rmC11 l Z a0 hw hE [] b59 b2 b44 h59 n0 O59 ge_b59 A59 _ _ F59_subject F59_hsaId) (OwnW.sfS (List.mem_cons_self ..) OwnW.sf0) (argsL := [(.ref b2), (.ref b44)]) (rest := [(.ref b59)]) rfl rfl (OwnW.lenA pd__Ljava_lang_String_Ljava_lang_String__V rfl) (W := 1) (Nat.le_of_eq rfl) (by decide) (by decide) (by decide) (by decide) rfl ?_
          intro T64 h64 g64 hle64 X64 ⟨k64, f64⟩
          have K64 := k64
          have O64 := O59.keep K64 (allS ge_b59 all0)
          have Z64 : Keep h0 h64 [] := Z59.trans K64 (allS (P := fun x => x ∈ [] ∨ h0.size ≤ x) (Or.inr sz_b59) all0)
          refine OwnW.astore X64 (l' := #[.val (.int p0), .val (.int p1), .val (.int p2), .val (.int c0), .val (.int c1), .val (.int c2), .val (.int c3), .val (.ref b2), .val (.int (p0 &&& (3 : Int32))), .val (.ref b44), .val (.ref b59), .unset]) (n := 160) at_158 rfl rfl rfl ?_
          refine OwnW.iload X64 (n := 162) at_160 rfl rfl ?_
          refine OwnW.if_eq X64  (n1 := 169) (n2 := 165) at_162 (by decide) rfl rfl (fun q => absurd q (hc79 : ¬ (p0 &&& (3 : Int32)) = 0)) (fun _ => ?_)
          refine OwnW.iconst X64 (z := (1 : Int32)) (n := 166) at_165 rfl rfl ?_
          refine OwnW.goto X64 (n := 170) at_166 (by decide) rfl ?_
          refine OwnW.istore X64 (l' := #[.val (.int p0), .val (.int p1), .val (.int p2), .val (.int c0), .val (.int c1), .val (.int c2), .val (.int c3), .val (.ref b2), .val (.int (p0 &&& (3 : Int32))), .val (.ref b44), .val (.ref b59), .val (.int (1 : Int32))]) (n := 172) at_170 rfl rfl ?_
          refine OwnW.aload X64 (n := 174) at_172 rfl rfl rfl ?_
          have f66 := (A59.keep K64)
          refine OwnW.call_virtual_v X64 (z := (⟨"com/example/brygga/brygga/Caller", "identified", "()Z"⟩ : MethodName)) (yv := (⟨"com/example/brygga/brygga/Caller", "identified", "()Z"⟩ : MethodName)) (a := b59) (C := "com/example/brygga/brygga/Caller") (n := 177) at_174 (hw _ (List.mem_of_getElem? (i := 46) rfl)) (hw _ (List.mem_of_getElem? (i := 47) rfl)) (hw _ (List.mem_of_getElem? (i := 48) rfl)) (hw _ (List.mem_of_getElem? (i := 49) rfl)) (fun hz => notFace_of_selects (args := #[]) (mvT hz (hw _ (List.mem_of_getElem? (i := 49) rfl)))) (hw _ (List.mem_of_getElem? (i := 50) rfl)) (hw _ (List.mem_of_getElem? (i := 32) rfl)) (by decide) f66 (rmIr l Z a0 hw hE [] b59 h64 n0 _ f64) OwnW.sf0 (argsL := []) (rest := []) rfl rfl (OwnW.lenA pd___Z rfl) (W := 0) (Nat.le_of_eq rfl) (by decide) (by decide) (by decide) (by decide) rfl ?_
          intro T65 h65 w65 g65 hle65 X65 ⟨q1, q2⟩
          subst q1 q2
          refine OwnW.iload X65 (n := 179) at_177 rfl rfl ?_
          refine OwnW.ic_ne X65  (n1 := 186) (n2 := 182) at_179 (by decide) rfl rfl (fun q => absurd ((by decide) : (1 : Int32) = (1 : Int32)) q) (fun _ => ?_)
          refine OwnW.iconst X65 (z := (1 : Int32)) (n := 183) at_182 rfl rfl ?_
          refine OwnW.goto X65 (n := 187) at_183 (by decide) rfl ?_
          exact OwnW.ireturn X65 rfl (Or.inr (Or.inl rfl)) rfl at_187 rfl (by decide) (by decide)
      · refine OwnW.anull X9 (n := 83) at_82 rfl ?_
        refine OwnW.astore X9 (l' := #[.val (.int p0), .val (.int p1), .val (.int p2), .val (.int c0), .val (.int c1), .val (.int c2), .val (.int c3), .val (.ref b2), .val (.int (p0 &&& (3 : Int32))), .val .null, .unset, .unset]) (n := 85) at_83 rfl rfl rfl ?_
        refine OwnW.goto X9 (n := 147) at_85 (by decide) rfl ?_
        refine OwnW.new X9 (C := "com/example/brygga/brygga/Caller") (k := 2) (n := 150) at_147 (hw _ (List.mem_of_getElem? (i := 30) rfl)) (hw _ (List.mem_of_getElem? (i := 31) rfl)) (hw _ (List.mem_of_getElem? (i := 32) rfl)) (by decide) (by decide) rfl ?_
        intro T67 h67 b67 gb67 X67 E67 A67 D67 U67
        have ne_b2_b67 : b2 ≠ b67 := by rw [gb67]; exact Nat.ne_of_lt se9.lt
        have f68 := (A5.keep K9 (ninS (Ne.symm ne_b2_b3) nin0))
        have ne_b3_b67 : b3 ≠ b67 := by rw [gb67]; exact Nat.ne_of_lt f68.lt
        have ne_t9_b67 : t9 ≠ b67 := by rw [gb67]; exact Nat.ne_of_lt sa9.lt
        have ge_b67 : n0 ≤ b67 := by rw [gb67]; exact OwnW.oldLe O9
        have K67 := (OwnW.kExt E67)
        have O67 := O9.keep K67 all0
        have Z67 : Keep h0 h67 [] := Z9.trans K67 (fun x hx => nomatch hx)
        have sz_b67 : h0.size ≤ b67 := by rw [gb67]; exact Z9.1
        have F67_subject : Fld Z h67 b67 "com/example/brygga/brygga/Caller" "subject" "Ljava/lang/String;" .null := D67 (Or.inr (hw _ (List.mem_of_getElem? (i := 43) rfl))) (ty := (.object "java/lang/String")) (by decide)
        have F67_hsaId : Fld Z h67 b67 "com/example/brygga/brygga/Caller" "hsaId" "Ljava/lang/String;" .null := D67 (Or.inr (hw _ (List.mem_of_getElem? (i := 45) rfl))) (ty := (.object "java/lang/String")) (by decide)
        refine OwnW.dup X67 (n := 151) at_150 rfl rfl ?_
        refine OwnW.aload X67 (n := 153) at_151 rfl rfl rfl ?_
        refine OwnW.aload X67 (n := 155) at_153 rfl rfl rfl ?_
        refine OwnW.call_special_n X67 (z := (⟨"com/example/brygga/brygga/Caller", "<init>", "(Ljava/lang/String;Ljava/lang/String;)V"⟩ : MethodName)) (a := b67) (n := 158) at_155 (hw _ (List.mem_of_getElem? (i := 33) rfl)) (hw _ (List.mem_of_getElem? (i := 34) rfl)) (hw _ (List.mem_of_getElem? (i := 35) rfl)) (hw _ (List.mem_of_getElem? (i := 32) rfl)) rfl rfl (by decide) (rmC10 l Z a0 hw hE [] b67 b2 h67 n0 O67 ge_b67 A67 _ _ F67_subject F67_hsaId) (OwnW.sfS (List.mem_cons_self ..) OwnW.sf0) (argsL := [(.ref b2), .null]) (rest := [(.ref b67)]) rfl rfl (OwnW.lenA pd__Ljava_lang_String_Ljava_lang_String__V rfl) (W := 1) (Nat.le_of_eq rfl) (by decide) (by decide) (by decide) (by decide) rfl ?_
        intro T69 h69 g69 hle69 X69 ⟨k69, f69⟩
        have K69 := k69
        have O69 := O67.keep K69 (allS ge_b67 all0)
        have Z69 : Keep h0 h69 [] := Z67.trans K69 (allS (P := fun x => x ∈ [] ∨ h0.size ≤ x) (Or.inr sz_b67) all0)
        refine OwnW.astore X69 (l' := #[.val (.int p0), .val (.int p1), .val (.int p2), .val (.int c0), .val (.int c1), .val (.int c2), .val (.int c3), .val (.ref b2), .val (.int (p0 &&& (3 : Int32))), .val .null, .val (.ref b67), .unset]) (n := 160) at_158 rfl rfl rfl ?_
        refine OwnW.iload X69 (n := 162) at_160 rfl rfl ?_
        refine OwnW.if_eq X69  (n1 := 169) (n2 := 165) at_162 (by decide) rfl rfl (fun _ => ?_) (fun q => absurd (hc79 : (p0 &&& (3 : Int32)) = 0) q)
        refine OwnW.iconst X69 (z := (0 : Int32)) (n := 170) at_169 rfl rfl ?_
        refine OwnW.istore X69 (l' := #[.val (.int p0), .val (.int p1), .val (.int p2), .val (.int c0), .val (.int c1), .val (.int c2), .val (.int c3), .val (.ref b2), .val (.int (p0 &&& (3 : Int32))), .val .null, .val (.ref b67), .val (.int (0 : Int32))]) (n := 172) at_170 rfl rfl ?_
        refine OwnW.aload X69 (n := 174) at_172 rfl rfl rfl ?_
        have f71 := (A67.keep K69)
        refine OwnW.call_virtual_v X69 (z := (⟨"com/example/brygga/brygga/Caller", "identified", "()Z"⟩ : MethodName)) (yv := (⟨"com/example/brygga/brygga/Caller", "identified", "()Z"⟩ : MethodName)) (a := b67) (C := "com/example/brygga/brygga/Caller") (n := 177) at_174 (hw _ (List.mem_of_getElem? (i := 46) rfl)) (hw _ (List.mem_of_getElem? (i := 47) rfl)) (hw _ (List.mem_of_getElem? (i := 48) rfl)) (hw _ (List.mem_of_getElem? (i := 49) rfl)) (fun hz => notFace_of_selects (args := #[]) (mvT hz (hw _ (List.mem_of_getElem? (i := 49) rfl)))) (hw _ (List.mem_of_getElem? (i := 50) rfl)) (hw _ (List.mem_of_getElem? (i := 32) rfl)) (by decide) f71 (rmIn l Z a0 hw hE [] b67 h69 n0 f69) OwnW.sf0 (argsL := []) (rest := []) rfl rfl (OwnW.lenA pd___Z rfl) (W := 0) (Nat.le_of_eq rfl) (by decide) (by decide) (by decide) (by decide) rfl ?_
        intro T70 h70 w70 g70 hle70 X70 ⟨q1, q2⟩
        subst q1 q2
        refine OwnW.iload X70 (n := 179) at_177 rfl rfl ?_
        refine OwnW.ic_ne X70  (n1 := 186) (n2 := 182) at_179 (by decide) rfl rfl (fun q => absurd ((by decide) : (0 : Int32) = (0 : Int32)) q) (fun _ => ?_)
        refine OwnW.iconst X70 (z := (1 : Int32)) (n := 183) at_182 rfl rfl ?_
        refine OwnW.goto X70 (n := 187) at_183 (by decide) rfl ?_
        exact OwnW.ireturn X70 rfl (Or.inr (Or.inl rfl)) rfl at_187 rfl (by decide) (by decide)
    · refine OwnW.anull X1 (n := 46) at_45 rfl ?_
      refine OwnW.astore X1 (l' := #[.val (.int p0), .val (.int p1), .val (.int p2), .val (.int c0), .val (.int c1), .val (.int c2), .val (.int c3), .val .null, .unset, .unset, .unset, .unset]) (n := 48) at_46 rfl rfl rfl ?_
      refine OwnW.goto X1 (n := 72) at_48 (by decide) rfl ?_
      refine OwnW.iloadN X1 (n := 73) at_72 rfl rfl ?_
      refine OwnW.iconst X1 (z := (3 : Int32)) (n := 74) at_73 rfl rfl ?_
      refine OwnW.iand X1 (n := 75) at_74 rfl ?_
      refine OwnW.istore X1 (l' := #[.val (.int p0), .val (.int p1), .val (.int p2), .val (.int c0), .val (.int c1), .val (.int c2), .val (.int c3), .val .null, .val (.int (p0 &&& (3 : Int32))), .unset, .unset, .unset]) (n := 77) at_75 rfl rfl ?_
      refine OwnW.iload X1 (n := 79) at_77 rfl rfl ?_
      refine OwnW.if_ne X1  (n1 := 88) (n2 := 82) at_79 (by decide) rfl rfl (fun hc79 => ?_) (fun hc79 => ?_)
      · refine OwnW.iload X1 (n := 90) at_88 rfl rfl ?_
        refine OwnW.iconst X1 (z := (1 : Int32)) (n := 91) at_90 rfl rfl ?_
        refine OwnW.ic_ne X1  (n1 := 109) (n2 := 94) at_91 (by decide) rfl rfl (fun hc91 => ?_) (fun hc91 => ?_)
        · refine OwnW.iload X1 (n := 111) at_109 rfl rfl ?_
          refine OwnW.iconst X1 (z := (2 : Int32)) (n := 112) at_111 rfl rfl ?_
          refine OwnW.ic_ne X1  (n1 := 125) (n2 := 115) at_112 (by decide) rfl rfl (fun hc112 => ?_) (fun hc112 => ?_)
          · refine OwnW.new X1 (C := "java/lang/String") (k := 4) (n := 128) at_125 (hw _ (List.mem_of_getElem? (i := 0) rfl)) (hw _ (List.mem_of_getElem? (i := 1) rfl)) (hw _ (List.mem_of_getElem? (i := 2) rfl)) (by decide) (by decide) rfl ?_
            intro T72 h72 b72 gb72 X72 E72 A72 D72 U72
            have ge_b72 : n0 ≤ b72 := by rw [gb72]; exact OwnW.oldLe O0
            have K72 := (OwnW.kExt E72)
            have O72 := O0.keep K72 all0
            have Z72 : Keep h0 h72 [] := Z0.trans K72 (fun x hx => nomatch hx)
            have sz_b72 : h0.size ≤ b72 := by rw [gb72]; exact Z0.1
            have F72_coder : Fld Z h72 b72 "java/lang/String" "coder" "B" (.int (0 : Int32)) := D72 (Or.inr (hw _ (List.mem_of_getElem? (i := 27) rfl))) (ty := .byte) (by decide)
            have F72_value : Fld Z h72 b72 "java/lang/String" "value" "[B" .null := D72 (Or.inr (hw _ (List.mem_of_getElem? (i := 29) rfl))) (ty := (.array .byte)) (by decide)
            refine OwnW.dup X72 (n := 129) at_128 rfl rfl ?_
            refine OwnW.iconst X72 (z := (2 : Int32)) (n := 130) at_129 rfl rfl ?_
            refine OwnW.newarray X72 (len := 2) (cap := 2) (n := 132) at_130 (hw _ (List.mem_of_getElem? (i := 3) rfl)) rfl (by decide) (by decide) (by decide) (by decide) rfl ?_
            intro T73 h73 b73 gb73 X73 E73 A73
            have ne_b72_b73 : b72 ≠ b73 := by rw [gb73]; exact Nat.ne_of_lt A72.lt
            have ge_b73 : n0 ≤ b73 := by rw [gb73]; exact OwnW.oldLe O72
            have K73 := (OwnW.kExt E73)
            have O73 := O72.keep K73 all0
            have Z73 : Keep h0 h73 [] := Z72.trans K73 (fun x hx => nomatch hx)
            have sz_b73 : h0.size ≤ b73 := by rw [gb73]; exact Z72.1
            replace A73 : Ark Z h73 b73 .char [(.int (0 : Int32)), (.int (0 : Int32))] := A73
            refine OwnW.dup X73 (n := 133) at_132 rfl rfl ?_
            refine OwnW.iconst X73 (z := (0 : Int32)) (n := 134) at_133 rfl rfl ?_
            refine OwnW.iload X73 (n := 136) at_134 rfl rfl ?_
            refine OwnW.castore X73 (i := 0) (z := c2) (n := 137) at_136 A73 rfl (Nat.le_of_ble_eq_true rfl) (own_narC hb2.1 hb2.2) ge_b73 (List.mem_cons_self ..) rfl ?_
            intro T74 h74 X74 W74 A74
            have K74 := (Keep.of_wr W74)
            have O74 := O73.keep K74 (allS ge_b73 all0)
            have Z74 : Keep h0 h74 [] := Z73.trans K74 (allS (P := fun x => x ∈ [] ∨ h0.size ≤ x) (Or.inr sz_b73) all0)
            replace A74 : Ark Z h74 b73 .char [(.int c2), (.int (0 : Int32))] := A74
            refine OwnW.dup X74 (n := 138) at_137 rfl rfl ?_
            refine OwnW.iconst X74 (z := (1 : Int32)) (n := 139) at_138 rfl rfl ?_
            refine OwnW.iload X74 (n := 141) at_139 rfl rfl ?_
            refine OwnW.castore X74 (i := 1) (z := c3) (n := 142) at_141 A74 rfl (Nat.le_of_ble_eq_true rfl) (own_narC hb3.1 hb3.2) ge_b73 (List.mem_cons_self ..) rfl ?_
            intro T75 h75 X75 W75 A75
            have K75 := (Keep.of_wr W75)
            have O75 := O74.keep K75 (allS ge_b73 all0)
            have Z75 : Keep h0 h75 [] := Z74.trans K75 (allS (P := fun x => x ∈ [] ∨ h0.size ≤ x) (Or.inr sz_b73) all0)
            replace A75 : Ark Z h75 b73 .char [(.int c2), (.int c3)] := A75
            have f76 := (((A72.keep K73).keep K74).keep K75)
            have f77 := (((F72_value.keep K73 nin0).keep K74 (ninS ne_b72_b73 nin0)).keep K75 (ninS ne_b72_b73 nin0))
            have f78 := (((F72_coder.keep K73 nin0).keep K74 (ninS ne_b72_b73 nin0)).keep K75 (ninS ne_b72_b73 nin0))
            refine OwnW.call_special_n X75 (z := (⟨"java/lang/String", "<init>", "([C)V"⟩ : MethodName)) (a := b72) (n := 145) at_142 (hw _ (List.mem_of_getElem? (i := 4) rfl)) (hw _ (List.mem_of_getElem? (i := 5) rfl)) (hw _ (List.mem_of_getElem? (i := 6) rfl)) (hw _ (List.mem_of_getElem? (i := 2) rfl)) rfl rfl (by decide) (rm1 l Z a0 hw hE [] b72 b73 h75 n0 O75 ge_b72 f76 _ _ f77 f78 ([c2, c3] : List Int32) (own_aS hb2.2 (own_aS hb3.2 own_a0)) (by simp) (by simp) A75 ne_b72_b73 zc hzc S_compact) (OwnW.sfS (List.mem_cons_of_mem _ (List.mem_cons_self ..)) OwnW.sf0) (argsL := [(.ref b73)]) (rest := [(.ref b72)]) rfl rfl (OwnW.lenA pd___C_V rfl) (W := 1) (Nat.le_of_eq rfl) (by decide) (by decide) (by decide) (by decide) rfl ?_
            intro T79 h79 g79 hle79 X79 ⟨k79, t79, z79, S79⟩
            obtain ⟨se79, sc79, sv79, sa79⟩ := S79
            have K79 := k79
            have O79 := O75.keep K79 (allS ge_b72 all0)
            have Z79 : Keep h0 h79 [] := Z75.trans K79 (allS (P := fun x => x ∈ [] ∨ h0.size ≤ x) (Or.inr sz_b72) all0)
            have ne_b72_t79 : b72 ≠ t79 := Nat.ne_of_lt (Nat.lt_of_lt_of_le f76.lt z79)
            have ne_b73_t79 : b73 ≠ t79 := Nat.ne_of_lt (Nat.lt_of_lt_of_le A75.lt z79)
            refine OwnW.astore X79 (l' := #[.val (.int p0), .val (.int p1), .val (.int p2), .val (.int c0), .val (.int c1), .val (.int c2), .val (.int c3), .val .null, .val (.int (p0 &&& (3 : Int32))), .val (.ref b72), .unset, .unset]) (n := 147) at_145 rfl rfl rfl ?_
            refine OwnW.new X79 (C := "com/example/brygga/brygga/Caller") (k := 2) (n := 150) at_147 (hw _ (List.mem_of_getElem? (i := 30) rfl)) (hw _ (List.mem_of_getElem? (i := 31) rfl)) (hw _ (List.mem_of_getElem? (i := 32) rfl)) (by decide) (by decide) rfl ?_
            intro T80 h80 b80 gb80 X80 E80 A80 D80 U80
            have ne_b72_b80 : b72 ≠ b80 := by rw [gb80]; exact Nat.ne_of_lt se79.lt
            have f81 := (A75.keep K79 (ninS (Ne.symm ne_b72_b73) nin0))
            have ne_b73_b80 : b73 ≠ b80 := by rw [gb80]; exact Nat.ne_of_lt f81.lt
            have ne_t79_b80 : t79 ≠ b80 := by rw [gb80]; exact Nat.ne_of_lt sa79.lt
            have ge_b80 : n0 ≤ b80 := by rw [gb80]; exact OwnW.oldLe O79
            have K80 := (OwnW.kExt E80)
            have O80 := O79.keep K80 all0
            have Z80 : Keep h0 h80 [] := Z79.trans K80 (fun x hx => nomatch hx)
            have sz_b80 : h0.size ≤ b80 := by rw [gb80]; exact Z79.1
            have F80_subject : Fld Z h80 b80 "com/example/brygga/brygga/Caller" "subject" "Ljava/lang/String;" .null := D80 (Or.inr (hw _ (List.mem_of_getElem? (i := 43) rfl))) (ty := (.object "java/lang/String")) (by decide)
            have F80_hsaId : Fld Z h80 b80 "com/example/brygga/brygga/Caller" "hsaId" "Ljava/lang/String;" .null := D80 (Or.inr (hw _ (List.mem_of_getElem? (i := 45) rfl))) (ty := (.object "java/lang/String")) (by decide)
            refine OwnW.dup X80 (n := 151) at_150 rfl rfl ?_
            refine OwnW.aload X80 (n := 153) at_151 rfl rfl rfl ?_
            refine OwnW.aload X80 (n := 155) at_153 rfl rfl rfl ?_
            refine OwnW.call_special_n X80 (z := (⟨"com/example/brygga/brygga/Caller", "<init>", "(Ljava/lang/String;Ljava/lang/String;)V"⟩ : MethodName)) (a := b80) (n := 158) at_155 (hw _ (List.mem_of_getElem? (i := 33) rfl)) (hw _ (List.mem_of_getElem? (i := 34) rfl)) (hw _ (List.mem_of_getElem? (i := 35) rfl)) (hw _ (List.mem_of_getElem? (i := 32) rfl)) rfl rfl (by decide) (rmC01 l Z a0 hw hE [] b80 b72 h80 n0 O80 ge_b80 A80 _ _ F80_subject F80_hsaId) (OwnW.sfS (List.mem_cons_self ..) OwnW.sf0) (argsL := [.null, (.ref b72)]) (rest := [(.ref b80)]) rfl rfl (OwnW.lenA pd__Ljava_lang_String_Ljava_lang_String__V rfl) (W := 1) (Nat.le_of_eq rfl) (by decide) (by decide) (by decide) (by decide) rfl ?_
            intro T82 h82 g82 hle82 X82 ⟨k82, f82⟩
            have K82 := k82
            have O82 := O80.keep K82 (allS ge_b80 all0)
            have Z82 : Keep h0 h82 [] := Z80.trans K82 (allS (P := fun x => x ∈ [] ∨ h0.size ≤ x) (Or.inr sz_b80) all0)
            refine OwnW.astore X82 (l' := #[.val (.int p0), .val (.int p1), .val (.int p2), .val (.int c0), .val (.int c1), .val (.int c2), .val (.int c3), .val .null, .val (.int (p0 &&& (3 : Int32))), .val (.ref b72), .val (.ref b80), .unset]) (n := 160) at_158 rfl rfl rfl ?_
            refine OwnW.iload X82 (n := 162) at_160 rfl rfl ?_
            refine OwnW.if_eq X82  (n1 := 169) (n2 := 165) at_162 (by decide) rfl rfl (fun q => absurd q (hc79 : ¬ (p0 &&& (3 : Int32)) = 0)) (fun _ => ?_)
            refine OwnW.iconst X82 (z := (1 : Int32)) (n := 166) at_165 rfl rfl ?_
            refine OwnW.goto X82 (n := 170) at_166 (by decide) rfl ?_
            refine OwnW.istore X82 (l' := #[.val (.int p0), .val (.int p1), .val (.int p2), .val (.int c0), .val (.int c1), .val (.int c2), .val (.int c3), .val .null, .val (.int (p0 &&& (3 : Int32))), .val (.ref b72), .val (.ref b80), .val (.int (1 : Int32))]) (n := 172) at_170 rfl rfl ?_
            refine OwnW.aload X82 (n := 174) at_172 rfl rfl rfl ?_
            have f84 := (A80.keep K82)
            refine OwnW.call_virtual_v X82 (z := (⟨"com/example/brygga/brygga/Caller", "identified", "()Z"⟩ : MethodName)) (yv := (⟨"com/example/brygga/brygga/Caller", "identified", "()Z"⟩ : MethodName)) (a := b80) (C := "com/example/brygga/brygga/Caller") (n := 177) at_174 (hw _ (List.mem_of_getElem? (i := 46) rfl)) (hw _ (List.mem_of_getElem? (i := 47) rfl)) (hw _ (List.mem_of_getElem? (i := 48) rfl)) (hw _ (List.mem_of_getElem? (i := 49) rfl)) (fun hz => notFace_of_selects (args := #[]) (mvT hz (hw _ (List.mem_of_getElem? (i := 49) rfl)))) (hw _ (List.mem_of_getElem? (i := 50) rfl)) (hw _ (List.mem_of_getElem? (i := 32) rfl)) (by decide) f84 (rmIr l Z a0 hw hE [] b80 h82 n0 _ f82) OwnW.sf0 (argsL := []) (rest := []) rfl rfl (OwnW.lenA pd___Z rfl) (W := 0) (Nat.le_of_eq rfl) (by decide) (by decide) (by decide) (by decide) rfl ?_
            intro T83 h83 w83 g83 hle83 X83 ⟨q1, q2⟩
            subst q1 q2
            refine OwnW.iload X83 (n := 179) at_177 rfl rfl ?_
            refine OwnW.ic_ne X83  (n1 := 186) (n2 := 182) at_179 (by decide) rfl rfl (fun q => absurd ((by decide) : (1 : Int32) = (1 : Int32)) q) (fun _ => ?_)
            refine OwnW.iconst X83 (z := (1 : Int32)) (n := 183) at_182 rfl rfl ?_
            refine OwnW.goto X83 (n := 187) at_183 (by decide) rfl ?_
            exact OwnW.ireturn X83 rfl (Or.inr (Or.inl rfl)) rfl at_187 rfl (by decide) (by decide)
          · refine OwnW.iload X1 (n := 117) at_115 rfl rfl ?_
            refine OwnW.call_static_v X1 (z := (⟨"java/lang/String", "valueOf", "(C)Ljava/lang/String;"⟩ : MethodName)) (n := 120) at_117 (hw _ (List.mem_of_getElem? (i := 54) rfl)) (hw _ (List.mem_of_getElem? (i := 55) rfl)) (hw _ (List.mem_of_getElem? (i := 56) rfl)) (hw _ (List.mem_of_getElem? (i := 2) rfl)) (by decide) (rm10 l Z a0 hw hE [] c2 h0 n0 O0 hb2.2 zc hzc S_compact) OwnW.sf0 (argsL := [(.int c2)]) (rest := []) rfl rfl (OwnW.lenA pd__C_Ljava_lang_String_ rfl) (W := 0) (Nat.le_of_eq rfl) (by decide) (by decide) (by decide) (by decide) rfl ?_
            intro T85 h85 w85 g85 hle85 X85 ⟨x85, t85, q1, k85, y85, z85, S85⟩
            subst q1
            obtain ⟨se85, sc85, sv85, sa85⟩ := S85
            have K85 := k85
            have O85 := O0.keep K85 all0
            have Z85 : Keep h0 h85 [] := Z0.trans K85 (fun x hx => nomatch hx)
            refine OwnW.astore X85 (l' := #[.val (.int p0), .val (.int p1), .val (.int p2), .val (.int c0), .val (.int c1), .val (.int c2), .val (.int c3), .val .null, .val (.int (p0 &&& (3 : Int32))), .val (.ref x85), .unset, .unset]) (n := 122) at_120 rfl rfl rfl ?_
            refine OwnW.goto X85 (n := 147) at_122 (by decide) rfl ?_
            refine OwnW.new X85 (C := "com/example/brygga/brygga/Caller") (k := 2) (n := 150) at_147 (hw _ (List.mem_of_getElem? (i := 30) rfl)) (hw _ (List.mem_of_getElem? (i := 31) rfl)) (hw _ (List.mem_of_getElem? (i := 32) rfl)) (by decide) (by decide) rfl ?_
            intro T86 h86 b86 gb86 X86 E86 A86 D86 U86
            have ne_x85_b86 : x85 ≠ b86 := by rw [gb86]; exact Nat.ne_of_lt se85.lt
            have ne_t85_b86 : t85 ≠ b86 := by rw [gb86]; exact Nat.ne_of_lt sa85.lt
            have ge_b86 : n0 ≤ b86 := by rw [gb86]; exact OwnW.oldLe O85
            have K86 := (OwnW.kExt E86)
            have O86 := O85.keep K86 all0
            have Z86 : Keep h0 h86 [] := Z85.trans K86 (fun x hx => nomatch hx)
            have sz_b86 : h0.size ≤ b86 := by rw [gb86]; exact Z85.1
            have F86_subject : Fld Z h86 b86 "com/example/brygga/brygga/Caller" "subject" "Ljava/lang/String;" .null := D86 (Or.inr (hw _ (List.mem_of_getElem? (i := 43) rfl))) (ty := (.object "java/lang/String")) (by decide)
            have F86_hsaId : Fld Z h86 b86 "com/example/brygga/brygga/Caller" "hsaId" "Ljava/lang/String;" .null := D86 (Or.inr (hw _ (List.mem_of_getElem? (i := 45) rfl))) (ty := (.object "java/lang/String")) (by decide)
            refine OwnW.dup X86 (n := 151) at_150 rfl rfl ?_
            refine OwnW.aload X86 (n := 153) at_151 rfl rfl rfl ?_
            refine OwnW.aload X86 (n := 155) at_153 rfl rfl rfl ?_
            refine OwnW.call_special_n X86 (z := (⟨"com/example/brygga/brygga/Caller", "<init>", "(Ljava/lang/String;Ljava/lang/String;)V"⟩ : MethodName)) (a := b86) (n := 158) at_155 (hw _ (List.mem_of_getElem? (i := 33) rfl)) (hw _ (List.mem_of_getElem? (i := 34) rfl)) (hw _ (List.mem_of_getElem? (i := 35) rfl)) (hw _ (List.mem_of_getElem? (i := 32) rfl)) rfl rfl (by decide) (rmC01 l Z a0 hw hE [] b86 x85 h86 n0 O86 ge_b86 A86 _ _ F86_subject F86_hsaId) (OwnW.sfS (List.mem_cons_self ..) OwnW.sf0) (argsL := [.null, (.ref x85)]) (rest := [(.ref b86)]) rfl rfl (OwnW.lenA pd__Ljava_lang_String_Ljava_lang_String__V rfl) (W := 1) (Nat.le_of_eq rfl) (by decide) (by decide) (by decide) (by decide) rfl ?_
            intro T87 h87 g87 hle87 X87 ⟨k87, f87⟩
            have K87 := k87
            have O87 := O86.keep K87 (allS ge_b86 all0)
            have Z87 : Keep h0 h87 [] := Z86.trans K87 (allS (P := fun x => x ∈ [] ∨ h0.size ≤ x) (Or.inr sz_b86) all0)
            refine OwnW.astore X87 (l' := #[.val (.int p0), .val (.int p1), .val (.int p2), .val (.int c0), .val (.int c1), .val (.int c2), .val (.int c3), .val .null, .val (.int (p0 &&& (3 : Int32))), .val (.ref x85), .val (.ref b86), .unset]) (n := 160) at_158 rfl rfl rfl ?_
            refine OwnW.iload X87 (n := 162) at_160 rfl rfl ?_
            refine OwnW.if_eq X87  (n1 := 169) (n2 := 165) at_162 (by decide) rfl rfl (fun q => absurd q (hc79 : ¬ (p0 &&& (3 : Int32)) = 0)) (fun _ => ?_)
            refine OwnW.iconst X87 (z := (1 : Int32)) (n := 166) at_165 rfl rfl ?_
            refine OwnW.goto X87 (n := 170) at_166 (by decide) rfl ?_
            refine OwnW.istore X87 (l' := #[.val (.int p0), .val (.int p1), .val (.int p2), .val (.int c0), .val (.int c1), .val (.int c2), .val (.int c3), .val .null, .val (.int (p0 &&& (3 : Int32))), .val (.ref x85), .val (.ref b86), .val (.int (1 : Int32))]) (n := 172) at_170 rfl rfl ?_
            refine OwnW.aload X87 (n := 174) at_172 rfl rfl rfl ?_
            have f89 := (A86.keep K87)
            refine OwnW.call_virtual_v X87 (z := (⟨"com/example/brygga/brygga/Caller", "identified", "()Z"⟩ : MethodName)) (yv := (⟨"com/example/brygga/brygga/Caller", "identified", "()Z"⟩ : MethodName)) (a := b86) (C := "com/example/brygga/brygga/Caller") (n := 177) at_174 (hw _ (List.mem_of_getElem? (i := 46) rfl)) (hw _ (List.mem_of_getElem? (i := 47) rfl)) (hw _ (List.mem_of_getElem? (i := 48) rfl)) (hw _ (List.mem_of_getElem? (i := 49) rfl)) (fun hz => notFace_of_selects (args := #[]) (mvT hz (hw _ (List.mem_of_getElem? (i := 49) rfl)))) (hw _ (List.mem_of_getElem? (i := 50) rfl)) (hw _ (List.mem_of_getElem? (i := 32) rfl)) (by decide) f89 (rmIr l Z a0 hw hE [] b86 h87 n0 _ f87) OwnW.sf0 (argsL := []) (rest := []) rfl rfl (OwnW.lenA pd___Z rfl) (W := 0) (Nat.le_of_eq rfl) (by decide) (by decide) (by decide) (by decide) rfl ?_
            intro T88 h88 w88 g88 hle88 X88 ⟨q1, q2⟩
            subst q1 q2
            refine OwnW.iload X88 (n := 179) at_177 rfl rfl ?_
            refine OwnW.ic_ne X88  (n1 := 186) (n2 := 182) at_179 (by decide) rfl rfl (fun q => absurd ((by decide) : (1 : Int32) = (1 : Int32)) q) (fun _ => ?_)
            refine OwnW.iconst X88 (z := (1 : Int32)) (n := 183) at_182 rfl rfl ?_
            refine OwnW.goto X88 (n := 187) at_183 (by decide) rfl ?_
            exact OwnW.ireturn X88 rfl (Or.inr (Or.inl rfl)) rfl at_187 rfl (by decide) (by decide)
        · refine OwnW.new X1 (C := "java/lang/String") (k := 4) (n := 97) at_94 (hw _ (List.mem_of_getElem? (i := 0) rfl)) (hw _ (List.mem_of_getElem? (i := 1) rfl)) (hw _ (List.mem_of_getElem? (i := 2) rfl)) (by decide) (by decide) rfl ?_
          intro T90 h90 b90 gb90 X90 E90 A90 D90 U90
          have ge_b90 : n0 ≤ b90 := by rw [gb90]; exact OwnW.oldLe O0
          have K90 := (OwnW.kExt E90)
          have O90 := O0.keep K90 all0
          have Z90 : Keep h0 h90 [] := Z0.trans K90 (fun x hx => nomatch hx)
          have sz_b90 : h0.size ≤ b90 := by rw [gb90]; exact Z0.1
          have F90_coder : Fld Z h90 b90 "java/lang/String" "coder" "B" (.int (0 : Int32)) := D90 (Or.inr (hw _ (List.mem_of_getElem? (i := 27) rfl))) (ty := .byte) (by decide)
          have F90_value : Fld Z h90 b90 "java/lang/String" "value" "[B" .null := D90 (Or.inr (hw _ (List.mem_of_getElem? (i := 29) rfl))) (ty := (.array .byte)) (by decide)
          refine OwnW.dup X90 (n := 98) at_97 rfl rfl ?_
          refine OwnW.iconst X90 (z := (0 : Int32)) (n := 99) at_98 rfl rfl ?_
          refine OwnW.newarray X90 (len := 0) (cap := 0) (n := 101) at_99 (hw _ (List.mem_of_getElem? (i := 3) rfl)) rfl (by decide) (by decide) (by decide) (by decide) rfl ?_
          intro T91 h91 b91 gb91 X91 E91 A91
          have ne_b90_b91 : b90 ≠ b91 := by rw [gb91]; exact Nat.ne_of_lt A90.lt
          have ge_b91 : n0 ≤ b91 := by rw [gb91]; exact OwnW.oldLe O90
          have K91 := (OwnW.kExt E91)
          have O91 := O90.keep K91 all0
          have Z91 : Keep h0 h91 [] := Z90.trans K91 (fun x hx => nomatch hx)
          have sz_b91 : h0.size ≤ b91 := by rw [gb91]; exact Z90.1
          replace A91 : Ark Z h91 b91 .char [] := A91
          have f92 := (A90.keep K91)
          have f93 := (F90_value.keep K91 nin0)
          have f94 := (F90_coder.keep K91 nin0)
          refine OwnW.call_special_n X91 (z := (⟨"java/lang/String", "<init>", "([C)V"⟩ : MethodName)) (a := b90) (n := 104) at_101 (hw _ (List.mem_of_getElem? (i := 4) rfl)) (hw _ (List.mem_of_getElem? (i := 5) rfl)) (hw _ (List.mem_of_getElem? (i := 6) rfl)) (hw _ (List.mem_of_getElem? (i := 2) rfl)) rfl rfl (by decide) (rm1e l Z a0 hw hE [] b90 b91 h91 n0 O91 [] ge_b90 f92 _ _ f93 f94 A91) (OwnW.sfS (List.mem_cons_of_mem _ (List.mem_cons_self ..)) OwnW.sf0) (argsL := [(.ref b91)]) (rest := [(.ref b90)]) rfl rfl (OwnW.lenA pd___C_V rfl) (W := 1) (Nat.le_of_eq rfl) (by decide) (by decide) (by decide) (by decide) rfl ?_
          intro T95 h95 g95 hle95 X95 ⟨k95, t95, nx95, S95⟩
          obtain ⟨se95, sc95, sv95, sa95⟩ := S95
          have K95 := k95
          have O95 := O91.keep K95 (allS ge_b90 all0)
          have Z95 : Keep h0 h95 [] := Z91.trans K95 (allS (P := fun x => x ∈ [] ∨ h0.size ≤ x) (Or.inr sz_b90) all0)
          refine OwnW.astore X95 (l' := #[.val (.int p0), .val (.int p1), .val (.int p2), .val (.int c0), .val (.int c1), .val (.int c2), .val (.int c3), .val .null, .val (.int (p0 &&& (3 : Int32))), .val (.ref b90), .unset, .unset]) (n := 106) at_104 rfl rfl rfl ?_
          refine OwnW.goto X95 (n := 147) at_106 (by decide) rfl ?_
          refine OwnW.new X95 (C := "com/example/brygga/brygga/Caller") (k := 2) (n := 150) at_147 (hw _ (List.mem_of_getElem? (i := 30) rfl)) (hw _ (List.mem_of_getElem? (i := 31) rfl)) (hw _ (List.mem_of_getElem? (i := 32) rfl)) (by decide) (by decide) rfl ?_
          intro T96 h96 b96 gb96 X96 E96 A96 D96 U96
          have ne_b90_b96 : b90 ≠ b96 := by rw [gb96]; exact Nat.ne_of_lt se95.lt
          have f97 := (A91.keep K95 (ninS (Ne.symm ne_b90_b91) nin0))
          have ne_b91_b96 : b91 ≠ b96 := by rw [gb96]; exact Nat.ne_of_lt f97.lt
          have ne_t95_b96 : t95 ≠ b96 := by rw [gb96]; exact Nat.ne_of_lt sa95.lt
          have ge_b96 : n0 ≤ b96 := by rw [gb96]; exact OwnW.oldLe O95
          have K96 := (OwnW.kExt E96)
          have O96 := O95.keep K96 all0
          have Z96 : Keep h0 h96 [] := Z95.trans K96 (fun x hx => nomatch hx)
          have sz_b96 : h0.size ≤ b96 := by rw [gb96]; exact Z95.1
          have F96_subject : Fld Z h96 b96 "com/example/brygga/brygga/Caller" "subject" "Ljava/lang/String;" .null := D96 (Or.inr (hw _ (List.mem_of_getElem? (i := 43) rfl))) (ty := (.object "java/lang/String")) (by decide)
          have F96_hsaId : Fld Z h96 b96 "com/example/brygga/brygga/Caller" "hsaId" "Ljava/lang/String;" .null := D96 (Or.inr (hw _ (List.mem_of_getElem? (i := 45) rfl))) (ty := (.object "java/lang/String")) (by decide)
          refine OwnW.dup X96 (n := 151) at_150 rfl rfl ?_
          refine OwnW.aload X96 (n := 153) at_151 rfl rfl rfl ?_
          refine OwnW.aload X96 (n := 155) at_153 rfl rfl rfl ?_
          refine OwnW.call_special_n X96 (z := (⟨"com/example/brygga/brygga/Caller", "<init>", "(Ljava/lang/String;Ljava/lang/String;)V"⟩ : MethodName)) (a := b96) (n := 158) at_155 (hw _ (List.mem_of_getElem? (i := 33) rfl)) (hw _ (List.mem_of_getElem? (i := 34) rfl)) (hw _ (List.mem_of_getElem? (i := 35) rfl)) (hw _ (List.mem_of_getElem? (i := 32) rfl)) rfl rfl (by decide) (rmC01 l Z a0 hw hE [] b96 b90 h96 n0 O96 ge_b96 A96 _ _ F96_subject F96_hsaId) (OwnW.sfS (List.mem_cons_self ..) OwnW.sf0) (argsL := [.null, (.ref b90)]) (rest := [(.ref b96)]) rfl rfl (OwnW.lenA pd__Ljava_lang_String_Ljava_lang_String__V rfl) (W := 1) (Nat.le_of_eq rfl) (by decide) (by decide) (by decide) (by decide) rfl ?_
          intro T98 h98 g98 hle98 X98 ⟨k98, f98⟩
          have K98 := k98
          have O98 := O96.keep K98 (allS ge_b96 all0)
          have Z98 : Keep h0 h98 [] := Z96.trans K98 (allS (P := fun x => x ∈ [] ∨ h0.size ≤ x) (Or.inr sz_b96) all0)
          refine OwnW.astore X98 (l' := #[.val (.int p0), .val (.int p1), .val (.int p2), .val (.int c0), .val (.int c1), .val (.int c2), .val (.int c3), .val .null, .val (.int (p0 &&& (3 : Int32))), .val (.ref b90), .val (.ref b96), .unset]) (n := 160) at_158 rfl rfl rfl ?_
          refine OwnW.iload X98 (n := 162) at_160 rfl rfl ?_
          refine OwnW.if_eq X98  (n1 := 169) (n2 := 165) at_162 (by decide) rfl rfl (fun q => absurd q (hc79 : ¬ (p0 &&& (3 : Int32)) = 0)) (fun _ => ?_)
          refine OwnW.iconst X98 (z := (1 : Int32)) (n := 166) at_165 rfl rfl ?_
          refine OwnW.goto X98 (n := 170) at_166 (by decide) rfl ?_
          refine OwnW.istore X98 (l' := #[.val (.int p0), .val (.int p1), .val (.int p2), .val (.int c0), .val (.int c1), .val (.int c2), .val (.int c3), .val .null, .val (.int (p0 &&& (3 : Int32))), .val (.ref b90), .val (.ref b96), .val (.int (1 : Int32))]) (n := 172) at_170 rfl rfl ?_
          refine OwnW.aload X98 (n := 174) at_172 rfl rfl rfl ?_
          have f100 := (A96.keep K98)
          refine OwnW.call_virtual_v X98 (z := (⟨"com/example/brygga/brygga/Caller", "identified", "()Z"⟩ : MethodName)) (yv := (⟨"com/example/brygga/brygga/Caller", "identified", "()Z"⟩ : MethodName)) (a := b96) (C := "com/example/brygga/brygga/Caller") (n := 177) at_174 (hw _ (List.mem_of_getElem? (i := 46) rfl)) (hw _ (List.mem_of_getElem? (i := 47) rfl)) (hw _ (List.mem_of_getElem? (i := 48) rfl)) (hw _ (List.mem_of_getElem? (i := 49) rfl)) (fun hz => notFace_of_selects (args := #[]) (mvT hz (hw _ (List.mem_of_getElem? (i := 49) rfl)))) (hw _ (List.mem_of_getElem? (i := 50) rfl)) (hw _ (List.mem_of_getElem? (i := 32) rfl)) (by decide) f100 (rmIr l Z a0 hw hE [] b96 h98 n0 _ f98) OwnW.sf0 (argsL := []) (rest := []) rfl rfl (OwnW.lenA pd___Z rfl) (W := 0) (Nat.le_of_eq rfl) (by decide) (by decide) (by decide) (by decide) rfl ?_
          intro T99 h99 w99 g99 hle99 X99 ⟨q1, q2⟩
          subst q1 q2
          refine OwnW.iload X99 (n := 179) at_177 rfl rfl ?_
          refine OwnW.ic_ne X99  (n1 := 186) (n2 := 182) at_179 (by decide) rfl rfl (fun q => absurd ((by decide) : (1 : Int32) = (1 : Int32)) q) (fun _ => ?_)
          refine OwnW.iconst X99 (z := (1 : Int32)) (n := 183) at_182 rfl rfl ?_
          refine OwnW.goto X99 (n := 187) at_183 (by decide) rfl ?_
          exact OwnW.ireturn X99 rfl (Or.inr (Or.inl rfl)) rfl at_187 rfl (by decide) (by decide)
      · refine OwnW.anull X1 (n := 83) at_82 rfl ?_
        refine OwnW.astore X1 (l' := #[.val (.int p0), .val (.int p1), .val (.int p2), .val (.int c0), .val (.int c1), .val (.int c2), .val (.int c3), .val .null, .val (.int (p0 &&& (3 : Int32))), .val .null, .unset, .unset]) (n := 85) at_83 rfl rfl rfl ?_
        refine OwnW.goto X1 (n := 147) at_85 (by decide) rfl ?_
        refine OwnW.new X1 (C := "com/example/brygga/brygga/Caller") (k := 2) (n := 150) at_147 (hw _ (List.mem_of_getElem? (i := 30) rfl)) (hw _ (List.mem_of_getElem? (i := 31) rfl)) (hw _ (List.mem_of_getElem? (i := 32) rfl)) (by decide) (by decide) rfl ?_
        intro T101 h101 b101 gb101 X101 E101 A101 D101 U101
        have ge_b101 : n0 ≤ b101 := by rw [gb101]; exact OwnW.oldLe O0
        have K101 := (OwnW.kExt E101)
        have O101 := O0.keep K101 all0
        have Z101 : Keep h0 h101 [] := Z0.trans K101 (fun x hx => nomatch hx)
        have sz_b101 : h0.size ≤ b101 := by rw [gb101]; exact Z0.1
        have F101_subject : Fld Z h101 b101 "com/example/brygga/brygga/Caller" "subject" "Ljava/lang/String;" .null := D101 (Or.inr (hw _ (List.mem_of_getElem? (i := 43) rfl))) (ty := (.object "java/lang/String")) (by decide)
        have F101_hsaId : Fld Z h101 b101 "com/example/brygga/brygga/Caller" "hsaId" "Ljava/lang/String;" .null := D101 (Or.inr (hw _ (List.mem_of_getElem? (i := 45) rfl))) (ty := (.object "java/lang/String")) (by decide)
        refine OwnW.dup X101 (n := 151) at_150 rfl rfl ?_
        refine OwnW.aload X101 (n := 153) at_151 rfl rfl rfl ?_
        refine OwnW.aload X101 (n := 155) at_153 rfl rfl rfl ?_
        refine OwnW.call_special_n X101 (z := (⟨"com/example/brygga/brygga/Caller", "<init>", "(Ljava/lang/String;Ljava/lang/String;)V"⟩ : MethodName)) (a := b101) (n := 158) at_155 (hw _ (List.mem_of_getElem? (i := 33) rfl)) (hw _ (List.mem_of_getElem? (i := 34) rfl)) (hw _ (List.mem_of_getElem? (i := 35) rfl)) (hw _ (List.mem_of_getElem? (i := 32) rfl)) rfl rfl (by decide) (rmC00 l Z a0 hw hE [] b101  h101 n0 O101 ge_b101 A101 _ _ F101_subject F101_hsaId) (OwnW.sfS (List.mem_cons_self ..) OwnW.sf0) (argsL := [.null, .null]) (rest := [(.ref b101)]) rfl rfl (OwnW.lenA pd__Ljava_lang_String_Ljava_lang_String__V rfl) (W := 1) (Nat.le_of_eq rfl) (by decide) (by decide) (by decide) (by decide) rfl ?_
        intro T102 h102 g102 hle102 X102 ⟨k102, f102⟩
        have K102 := k102
        have O102 := O101.keep K102 (allS ge_b101 all0)
        have Z102 : Keep h0 h102 [] := Z101.trans K102 (allS (P := fun x => x ∈ [] ∨ h0.size ≤ x) (Or.inr sz_b101) all0)
        refine OwnW.astore X102 (l' := #[.val (.int p0), .val (.int p1), .val (.int p2), .val (.int c0), .val (.int c1), .val (.int c2), .val (.int c3), .val .null, .val (.int (p0 &&& (3 : Int32))), .val .null, .val (.ref b101), .unset]) (n := 160) at_158 rfl rfl rfl ?_
        refine OwnW.iload X102 (n := 162) at_160 rfl rfl ?_
        refine OwnW.if_eq X102  (n1 := 169) (n2 := 165) at_162 (by decide) rfl rfl (fun _ => ?_) (fun q => absurd (hc79 : (p0 &&& (3 : Int32)) = 0) q)
        refine OwnW.iconst X102 (z := (0 : Int32)) (n := 170) at_169 rfl rfl ?_
        refine OwnW.istore X102 (l' := #[.val (.int p0), .val (.int p1), .val (.int p2), .val (.int c0), .val (.int c1), .val (.int c2), .val (.int c3), .val .null, .val (.int (p0 &&& (3 : Int32))), .val .null, .val (.ref b101), .val (.int (0 : Int32))]) (n := 172) at_170 rfl rfl ?_
        refine OwnW.aload X102 (n := 174) at_172 rfl rfl rfl ?_
        have f104 := (A101.keep K102)
        refine OwnW.call_virtual_v X102 (z := (⟨"com/example/brygga/brygga/Caller", "identified", "()Z"⟩ : MethodName)) (yv := (⟨"com/example/brygga/brygga/Caller", "identified", "()Z"⟩ : MethodName)) (a := b101) (C := "com/example/brygga/brygga/Caller") (n := 177) at_174 (hw _ (List.mem_of_getElem? (i := 46) rfl)) (hw _ (List.mem_of_getElem? (i := 47) rfl)) (hw _ (List.mem_of_getElem? (i := 48) rfl)) (hw _ (List.mem_of_getElem? (i := 49) rfl)) (fun hz => notFace_of_selects (args := #[]) (mvT hz (hw _ (List.mem_of_getElem? (i := 49) rfl)))) (hw _ (List.mem_of_getElem? (i := 50) rfl)) (hw _ (List.mem_of_getElem? (i := 32) rfl)) (by decide) f104 (rmIn l Z a0 hw hE [] b101 h102 n0 f102) OwnW.sf0 (argsL := []) (rest := []) rfl rfl (OwnW.lenA pd___Z rfl) (W := 0) (Nat.le_of_eq rfl) (by decide) (by decide) (by decide) (by decide) rfl ?_
        intro T103 h103 w103 g103 hle103 X103 ⟨q1, q2⟩
        subst q1 q2
        refine OwnW.iload X103 (n := 179) at_177 rfl rfl ?_
        refine OwnW.ic_ne X103  (n1 := 186) (n2 := 182) at_179 (by decide) rfl rfl (fun q => absurd ((by decide) : (0 : Int32) = (0 : Int32)) q) (fun _ => ?_)
        refine OwnW.iconst X103 (z := (1 : Int32)) (n := 183) at_182 rfl rfl ?_
        refine OwnW.goto X103 (n := 187) at_183 (by decide) rfl ?_
        exact OwnW.ireturn X103 rfl (Or.inr (Or.inl rfl)) rfl at_187 rfl (by decide) (by decide)
  · intro J1
    exact J1 _ (((p1 &&& (255 : Int32)).toUInt32.toUInt16.toUInt32.toInt32), ((((p1.toUInt32 >>> ((8 : Int32) &&& 31).toUInt32).toInt32) &&& (255 : Int32)).toUInt32.toUInt16.toUInt32.toInt32), ((p2 &&& (255 : Int32)).toUInt32.toUInt16.toUInt32.toInt32), ((((p2.toUInt32 >>> ((8 : Int32) &&& 31).toUInt32).toInt32) &&& (255 : Int32)).toUInt32.toUInt16.toUInt32.toInt32)) X0 ⟨own_255 _, own_255 _, own_255 _, own_255 _⟩
set_option maxRecDepth 65536 in
set_option maxHeartbeats 40000000 in
theorem comes_1 {Post : Tables → Env → Array Value → State → Outcome → State → Prop} (hpost : ∀ tb e args s v u, (limb_1_1.after args s (.returned v) u = true ∧ limb_1_2.after args s (.returned v) u = true ∧ True) → ReturnedEndW s (.returned v) u (Jvm.fieldLocs frame_1_writes args s ++ Jvm.arrayLocs frame_1_arrays args s ++ Jvm.staticLocs frame_1_statics s) 24 1152 → Post tb e args s (.returned v) u) :
    ArmFor flags0 classFile x code maxLocals ret World_1 tables_1 room_1 Calls_1 rest_1 Pre_1 Post := by
  intro l hfl _ _ p e ha hc hk s m args below hf hA hF happ hP
  obtain ⟨hcalls, hrest, hpre⟩ := hP
  obtain ⟨-, -, -, hnamed, -, -, -, hat⟩ := (Spec.applies_iff hf).mp happ
  obtain ⟨hg, hn⟩ := and_e (Cond.before_iff.mp (show (Jvm.Cond.and given_1 narrow_1).before args s = true from hpre))
  obtain ⟨g0, q1⟩ := and_e hg
  obtain ⟨g1, q2⟩ := and_e q1
  obtain ⟨g2, g3⟩ := and_e q2
  obtain ⟨w0, w1, w2, rfl⟩ : ∃ w0 w1 w2 : Value, args = #[w0, w1, w2] := by
    have hs : args.size = 3 := by simpa [Cond.value, given_1] using g0
    obtain ⟨L⟩ := args
    match L, hs with
    | [w0, w1, w2], _ => exact ⟨w0, w1, w2, rfl⟩
  have hw := fun d (hd : d ∈ tables_1) => atoms_spec (ws := Jvm.Cond.code x code maxLocals ret :: tables_1) hat d (List.mem_cons_of_mem _ hd)
  have hfit : Fit s := fun {y c} hc i hi => by
    obtain ⟨ha, rfl⟩ := Array.getElem?_eq_some_iff.mp hc
    have q := List.all_eq_true.mp ((Array.all_eq_true_iff_forall_mem.mp hF) _ (Array.getElem_mem ha)) i (List.mem_range.mpr hi)
    simpa [Array.getElem?_eq_getElem hi] using q
  obtain ⟨hsets, hown0⟩ := atoms_of _ (rest_1_c_eq ▸ (show rest_1_c.before _ s = true from hrest))
  have wS : ∀ a ∈ Bundle.stringAtoms, a.before _ s = true := fun d hd => hw d ((by decide +kernel : ∀ d ∈ Bundle.stringAtoms, d ∈ tables_1) d hd)
  have hE : EW s _ own_EL := own_EW hw
  have hCH : CHv s own_EL s.vm s.heap := CHv.start hE (own_held hcalls) (hsets _ (List.mem_of_getElem? (i := 2) rfl)) (wS _ (by simp [Bundle.stringAtoms])) (wS _ (by simp [Bundle.stringAtoms, Bundle.sN]))
  obtain ⟨i0, e0⟩ := is_v g1
  obtain rfl : w0 = (.int i0) := Option.some.inj e0
  obtain ⟨i1, e1⟩ := is_v g2
  obtain rfl : w1 = (.int i1) := Option.some.inj e1
  obtain ⟨i2, e2⟩ := is_v g3
  obtain rfl : w2 = (.int i2) := Option.some.inj e2
  obtain ⟨zc, ezc⟩ := is_v (Cond.before_iff.mp (hsets _ (List.mem_of_getElem? (i := 1) rfl)))
  have S_compact : Sta s s.heap "java/lang/String" "COMPACT_STRINGS" "Z" (.int zc) := Sta.start ezc (Or.inl (hsets _ (List.mem_of_getElem? (i := 0) rfl)))
  have hzc : ¬ (zc = (0 : Int32)) := gotF (Cond.eq_ints ezc (Term.int_eval (0))) (not_v (Cond.before_iff.mp (hsets _ (List.mem_of_getElem? (i := 2) rfl))))
  obtain ⟨n, o, h1, h2, h3, v, L, rfl, ⟨sfn, ⟨w, rfl, rfl⟩, hsn, N⟩, hcr, hq⟩ := rm0 l s _ hw hE tables_1 i0 i1 i2 s.heap s.heap.size (Old.start s) zc hzc S_compact p e ha hc hk s m _ below hf ((Spec.applies_iff_loose hf).mp happ).1 ⟨rfl, State.Warmed39.refl s, rfl, hCH, fun x hx => nomatch hx⟩ (fun z => z.elim)
  refine ⟨n, _, h1, h2, h3, hpost _ _ _ _ _ _ ⟨Cond.after_iff.mpr rfl, Cond.after_iff.mpr (eq_i res_at (Term.int_eval (1)) rfl), trivial⟩ ⟨hq.1, hq.2.1, hq.2.2.1, (hq.2.2.2.sift fun y hy => Or.inr (N y hy)).mono (by decide) (by decide)⟩⟩
theorem main_1_1 : Claimed_1_1 := comes_1 fun _ _ _ _ _ _ h hF => ⟨h.1, hF⟩
theorem main_1_2 : Claimed_1_2 := comes_1 fun _ _ _ _ _ _ h hF => ⟨h.2.1, hF⟩
end Jvm.Pilot.@@N@@
namespace Jvm.Pilot.@@N@@
open Jvm Jvm.ClassFile Sem Op Lib Jvm.Free Jvm.Stand Jvm.Pilot.@@N@@.Jvm.D
/-! MADE BY PROGRAM (witnessworld.py) out of the Statement's table words and the real class files: 21 classes; the members and pool entries that the words name. The judged class is class 1, her method 1. -/
namespace start1
open Jvm.ClassFile
def u (s : String) : CpInfo := .utf8 (stringToUtf16 s)
/-- a pool by its gaps: so many unusable entries, then the entry; so many at the end -/
def gap : Nat → List CpInfo → List CpInfo
  | 0, r => r
  | n + 1, r => .unusable :: gap n r
def poolList (es : List (Nat × CpInfo)) (last : Nat) : List CpInfo := es.foldr (fun e r => gap e.1 (e.2 :: r)) (gap last [])
def pool (es : List (Nat × CpInfo)) (last : Nat) : Array CpInfo := ⟨poolList es last⟩
def fileOf (pool : Array CpInfo) (this : Nat) (attrs : Array Attribute := #[]) (ms : Array MethodInfo := #[]) (fl : Nat := 33) (sup : Nat := 0) (ifs : Array Nat := #[]) (fds : Array FieldInfo := #[]) : ClassFile where
  minorVersion := 0
  majorVersion := 65
  constantPool := pool
  accessFlags := fl
  thisClass := this
  superClass := sup
  interfaces := ifs
  fields := fds
  methods := ms
  attributes := attrs
def plain (name : String) (sup : Option ClassId) : Class where
  name := name
  kind := .ordinary
  loader := none
  accessFlags := 33
  super := sup
  interfaces := #[]
  cf := none
  fields := #[]
  methods := #[]
  instanceTypes := #[]
  staticTypes := #[]
  resolved := #[]
  callSites := []
  init := .initialized
  statics := none
  mirror := none

def pool0 : Array CpInfo := pool [(5, u "<init>"), (0, u "()V"), (1, .class_ 10), (1, u "java/lang/Object")] 113

def k0c0 : Code := { maxStack := 0, maxLocals := 1, code := object_method_1_code, exceptionTable := #[], attributes := #[] }
def k0m0 : Method := { name := "<init>", desc := "()V", sig := { parameters := [], returnType := none }, accessFlags := 1, code := some k0c0 }
/-- java/lang/Object -/
def k0 : Class := { plain "java/lang/Object" none with
  accessFlags := 33
  interfaces := #[]
  cf := some (fileOf pool0 8 #[] #[{ accessFlags := 1, nameIndex := 5, descriptorIndex := 6, attributes := #[] }] 33 0 #[] #[])
  fields := #[]
  methods := #[k0m0]
  instanceTypes := #[]
  staticTypes := #[]
  resolved := Array.replicate 124 none
  statics := none }

def pool1 : Array CpInfo := pool [(2, .class_ 4), (1, u "java/lang/Object"), (0, u "<init>"), (0, u "()V"), (0, .class_ 8), (0, u "java/lang/String"), (0, .methodref 7 10), (0, .nameAndType 5 11), (0, u "([C)V"), (0, .methodref 7 13), (0, .nameAndType 14 15), (0, u "valueOf"), (0, u "(C)Ljava/lang/String;"), (0, .class_ 17), (0, u "com/example/brygga/brygga/Caller"), (0, .methodref 16 19), (0, .nameAndType 5 20), (0, u "(Ljava/lang/String;Ljava/lang/String;)V"), (0, .methodref 16 22), (0, .nameAndType 23 24), (0, u "identified"), (0, u "()Z"), (0, .class_ 26), (0, u "com/example/brygga/brygga/CallerIdentifiedPinLaw"), (2, u "law"), (0, u "(III)Z")] 3

def k1m0 : Method := { name := "<init>", desc := "()V", sig := { parameters := [], returnType := none }, accessFlags := 1, code := none }
def k1c1 : Code := { maxStack := 6, maxLocals := 12, code := code, exceptionTable := #[], attributes := #[] }
def k1m1 : Method := { name := "law", desc := "(III)Z", sig := { parameters := [.int, .int, .int], returnType := some .boolean }, accessFlags := 9, code := some k1c1 }
/-- com/example/brygga/brygga/CallerIdentifiedPinLaw -/
def k1 : Class := { plain "com/example/brygga/brygga/CallerIdentifiedPinLaw" (some 0) with
  accessFlags := 49
  interfaces := #[]
  cf := some (fileOf pool1 25 #[] #[{ accessFlags := 1, nameIndex := 5, descriptorIndex := 6, attributes := #[] }, { accessFlags := 9, nameIndex := 29, descriptorIndex := 30, attributes := #[] }] 49 2 #[] #[])
  fields := #[]
  methods := #[k1m0, k1m1]
  instanceTypes := #[]
  staticTypes := #[]
  resolved := Array.replicate 34 none
  statics := none }

def pool2 : Array CpInfo := pool [(1, .class_ 2), (0, u "java/io/Serializable"), (0, .class_ 4), (0, u "java/lang/Object")] 2

/-- java/io/Serializable -/
def k2 : Class := { plain "java/io/Serializable" (some 0) with
  accessFlags := 1537
  interfaces := #[]
  cf := some (fileOf pool2 1 #[] #[] 1537 3 #[] #[])
  fields := #[]
  methods := #[]
  instanceTypes := #[]
  staticTypes := #[]
  resolved := Array.replicate 7 none
  statics := none }

def pool3 : Array CpInfo := pool [(1, .class_ 2), (0, u "java/lang/Comparable"), (0, .class_ 4), (0, u "java/lang/Object")] 7

/-- java/lang/Comparable -/
def k3 : Class := { plain "java/lang/Comparable" (some 0) with
  accessFlags := 1537
  interfaces := #[]
  cf := some (fileOf pool3 1 #[] #[] 1537 3 #[] #[])
  fields := #[]
  methods := #[]
  instanceTypes := #[]
  staticTypes := #[]
  resolved := Array.replicate 12 none
  statics := none }

def pool4 : Array CpInfo := pool [(2, .class_ 4), (1, u "java/lang/CharSequence"), (42, .class_ 48), (0, u "java/lang/CharSequence$1CodePointIterator"), (10, .class_ 60), (0, u "java/lang/CharSequence$1CharIterator"), (5, .class_ 67), (0, u "java/lang/Object")] 63

/-- java/lang/CharSequence -/
def k4 : Class := { plain "java/lang/CharSequence" (some 0) with
  accessFlags := 1537
  interfaces := #[]
  cf := some (fileOf pool4 2 #[.nestMembers #[47, 59]] #[] 1537 66 #[] #[])
  fields := #[]
  methods := #[]
  instanceTypes := #[]
  staticTypes := #[]
  resolved := Array.replicate 131 none
  statics := none }

def pool5 : Array CpInfo := pool [(1, .class_ 2), (0, u "java/lang/constant/Constable"), (0, .class_ 4), (0, u "java/lang/Object")] 6

/-- java/lang/constant/Constable -/
def k5 : Class := { plain "java/lang/constant/Constable" (some 0) with
  accessFlags := 1537
  interfaces := #[]
  cf := some (fileOf pool5 1 #[] #[] 1537 3 #[] #[])
  fields := #[]
  methods := #[]
  instanceTypes := #[]
  staticTypes := #[]
  resolved := Array.replicate 11 none
  statics := none }

def pool6 : Array CpInfo := pool [(1, .class_ 2), (0, u "java/lang/constant/ConstantDesc"), (0, .class_ 4), (0, u "java/lang/Object")] 32

/-- java/lang/constant/ConstantDesc -/
def k6 : Class := { plain "java/lang/constant/ConstantDesc" (some 0) with
  accessFlags := 1537
  interfaces := #[]
  cf := some (fileOf pool6 1 #[] #[] 1537 3 #[] #[])
  fields := #[]
  methods := #[]
  instanceTypes := #[]
  staticTypes := #[]
  resolved := Array.replicate 37 none
  statics := none }

def pool7 : Array CpInfo := pool [(1, .methodref 2 3), (0, .class_ 4), (0, .nameAndType 5 6), (0, u "java/lang/Object"), (0, u "<init>"), (0, u "()V"), (0, .string 8), (0, u ""), (0, .fieldref 10 11), (0, .class_ 12), (0, .nameAndType 13 14), (0, u "java/lang/String"), (0, u "value"), (0, u "[B"), (0, .fieldref 10 16), (0, .nameAndType 17 18), (0, u "coder"), (0, u "B"), (2, u "hash"), (0, u "I"), (2, u "hashIsZero"), (0, u "Z"), (0, .methodref 10 28), (0, .nameAndType 5 29), (0, u "([CIILjava/lang/Void;)V"), (8, .fieldref 10 39), (0, .nameAndType 40 26), (0, u "COMPACT_STRINGS"), (1, .class_ 44), (1, u "java/lang/StringUTF16"), (0, u "compress"), (1, .methodref 42 48), (0, .nameAndType 49 50), (0, u "coderFromArrayLen"), (0, u "([BI)B"), (2, u "toBytes"), (53, .class_ 109), (1, u "java/lang/StringLatin1"), (67, .methodref 42 178), (0, .nameAndType 45 179), (0, u "([CII)[B"), (29, .methodref 10 210), (0, .nameAndType 5 211), (0, u "([BB)V"), (157, u "(C)Z"), (205, .class_ 576), (0, u "java/lang/CharSequence"), (22, u "CASE_INSENSITIVE_ORDER"), (0, u "Ljava/util/Comparator;"), (181, u "valueOf"), (0, u "(C)Ljava/lang/String;"), (226, u "([C)V"), (4, .methodref 107 1016), (0, .nameAndType 1017 369), (0, u "canEncode"), (0, .methodref 107 1019), (0, .nameAndType 53 1020), (0, u "(C)[B"), (80, u "serialPersistentFields"), (0, u "[Ljava/io/ObjectStreamField;"), (0, .class_ 1104), (0, u "java/lang/String$CaseInsensitiveComparator"), (1, .class_ 1107), (0, u "java/io/Serializable"), (0, .class_ 1109), (0, u "java/lang/Comparable"), (0, .class_ 1111), (0, u "java/lang/constant/Constable"), (0, .class_ 1113), (0, u "java/lang/constant/ConstantDesc"), (2, u "serialVersionUID"), (0, u "J"), (3, u "REPL"), (0, u "C"), (2, u "LATIN1"), (1, u "UTF16")] 323

def k7m0 : Method := { name := "<init>", desc := "()V", sig := { parameters := [], returnType := none }, accessFlags := 1, code := none }
def k7c1 : Code := { maxStack := 5, maxLocals := 2, code := jdk_42_method_3_code, exceptionTable := #[], attributes := #[] }
def k7m1 : Method := { name := "<init>", desc := "([C)V", sig := { parameters := [(.array .char)], returnType := none }, accessFlags := 1, code := some k7c1 }
def k7c2 : Code := { maxStack := 4, maxLocals := 1, code := jdk_42_method_139_code, exceptionTable := #[], attributes := #[] }
def k7m2 : Method := { name := "valueOf", desc := "(C)Ljava/lang/String;", sig := { parameters := [.char], returnType := some (.object "java/lang/String") }, accessFlags := 9, code := some k7c2 }
def k7c3 : Code := { maxStack := 4, maxLocals := 6, code := jdk_42_method_149_code, exceptionTable := #[], attributes := #[] }
def k7m3 : Method := { name := "<init>", desc := "([CIILjava/lang/Void;)V", sig := { parameters := [(.array .char), .int, .int, (.object "java/lang/Void")], returnType := none }, accessFlags := 2, code := some k7c3 }
def k7c4 : Code := { maxStack := 2, maxLocals := 3, code := jdk_42_method_151_code, exceptionTable := #[], attributes := #[] }
def k7m4 : Method := { name := "<init>", desc := "([BB)V", sig := { parameters := [(.array .byte), .byte], returnType := none }, accessFlags := 0, code := some k7c4 }
/-- java/lang/String -/
def k7 : Class := { plain "java/lang/String" (some 0) with
  accessFlags := 49
  interfaces := #[2, 3, 4, 5, 6]
  cf := some (fileOf pool7 10 #[.nestMembers #[1103]] #[{ accessFlags := 1, nameIndex := 5, descriptorIndex := 6, attributes := #[] }, { accessFlags := 1, nameIndex := 5, descriptorIndex := 1010, attributes := #[] }, { accessFlags := 9, nameIndex := 782, descriptorIndex := 783, attributes := #[] }, { accessFlags := 2, nameIndex := 5, descriptorIndex := 29, attributes := #[] }, { accessFlags := 0, nameIndex := 5, descriptorIndex := 211, attributes := #[] }] 49 2 #[1106, 1108, 575, 1110, 1112] #[{ accessFlags := 18, nameIndex := 13, descriptorIndex := 14, attributes := #[] }, { accessFlags := 18, nameIndex := 17, descriptorIndex := 18, attributes := #[] }, { accessFlags := 2, nameIndex := 21, descriptorIndex := 22, attributes := #[] }, { accessFlags := 2, nameIndex := 25, descriptorIndex := 26, attributes := #[] }, { accessFlags := 26, nameIndex := 1116, descriptorIndex := 1117, attributes := #[] }, { accessFlags := 24, nameIndex := 40, descriptorIndex := 26, attributes := #[] }, { accessFlags := 26, nameIndex := 1101, descriptorIndex := 1102, attributes := #[] }, { accessFlags := 26, nameIndex := 1121, descriptorIndex := 1122, attributes := #[] }, { accessFlags := 25, nameIndex := 599, descriptorIndex := 600, attributes := #[] }, { accessFlags := 24, nameIndex := 1125, descriptorIndex := 18, attributes := #[] }, { accessFlags := 24, nameIndex := 1127, descriptorIndex := 18, attributes := #[] }])
  fields := #[{ name := "value", type := (.array .byte), accessFlags := 18, slot := 0, constantValue := 0 }, { name := "coder", type := .byte, accessFlags := 18, slot := 1, constantValue := 0 }, { name := "hash", type := .int, accessFlags := 2, slot := 2, constantValue := 0 }, { name := "hashIsZero", type := .boolean, accessFlags := 2, slot := 3, constantValue := 0 }, { name := "serialVersionUID", type := .long, accessFlags := 26, slot := 0, constantValue := 0 }, { name := "COMPACT_STRINGS", type := .boolean, accessFlags := 24, slot := 1, constantValue := 0 }, { name := "serialPersistentFields", type := (.array (.object "java/io/ObjectStreamField")), accessFlags := 26, slot := 2, constantValue := 0 }, { name := "REPL", type := .char, accessFlags := 26, slot := 3, constantValue := 0 }, { name := "CASE_INSENSITIVE_ORDER", type := (.object "java/util/Comparator"), accessFlags := 25, slot := 4, constantValue := 0 }, { name := "LATIN1", type := .byte, accessFlags := 24, slot := 5, constantValue := 0 }, { name := "UTF16", type := .byte, accessFlags := 24, slot := 6, constantValue := 0 }]
  methods := #[k7m0, k7m1, k7m2, k7m3, k7m4]
  instanceTypes := #[(.array .byte), .byte, .int, .boolean]
  staticTypes := #[.long, .boolean, (.array (.object "java/io/ObjectStreamField")), .char, (.object "java/util/Comparator"), .byte, .byte]
  resolved := Array.replicate 1451 none
  statics := some 0 }

def pool8 : Array CpInfo := pool [(6, .class_ 8), (1, u "java/lang/Object"), (0, u "<init>"), (0, u "()V"), (1, .class_ 14), (1, u "java/lang/StringUTF16"), (31, u "$assertionsDisabled"), (0, u "Z"), (13, u "HI_BYTE_SHIFT"), (0, u "I"), (2, u "LO_BYTE_SHIFT"), (49, .methodref 12 116), (0, .nameAndType 117 118), (0, u "compress"), (0, u "([CI[BII)I"), (3, u "([CII)[B"), (138, u "coderFromArrayLen"), (0, u "([BI)B"), (106, .class_ 371), (1, u "java/lang/StringUTF16$LinesSpliterator"), (58, u "MAX_LENGTH"), (196, .class_ 628), (0, u "java/lang/StringUTF16$CodePointsSpliterator"), (0, .class_ 630), (0, u "java/lang/StringUTF16$CharsSpliterator")] 4

def k8m0 : Method := { name := "<init>", desc := "()V", sig := { parameters := [], returnType := none }, accessFlags := 0, code := none }
def k8c1 : Code := { maxStack := 2, maxLocals := 2, code := jdk_52_method_15_code, exceptionTable := #[], attributes := #[] }
def k8m1 : Method := { name := "coderFromArrayLen", desc := "([BI)B", sig := { parameters := [(.array .byte), .int], returnType := some .byte }, accessFlags := 8, code := some k8c1 }
def k8c2 : Code := { maxStack := 5, maxLocals := 6, code := jdk_52_method_16_code, exceptionTable := #[], attributes := #[] }
def k8m2 : Method := { name := "compress", desc := "([CII)[B", sig := { parameters := [(.array .char), .int, .int], returnType := some (.array .byte) }, accessFlags := 9, code := some k8c2 }
def k8c3 : Code := { maxStack := 3, maxLocals := 7, code := jdk_52_method_21_code, exceptionTable := #[], attributes := #[] }
def k8m3 : Method := { name := "compress", desc := "([CI[BII)I", sig := { parameters := [(.array .char), .int, (.array .byte), .int, .int], returnType := some .int }, accessFlags := 9, code := some k8c3 }
/-- java/lang/StringUTF16 -/
def k8 : Class := { plain "java/lang/StringUTF16" (some 0) with
  accessFlags := 48
  interfaces := #[]
  cf := some (fileOf pool8 12 #[.nestMembers #[627, 629, 369]] #[{ accessFlags := 0, nameIndex := 9, descriptorIndex := 10, attributes := #[] }, { accessFlags := 8, nameIndex := 261, descriptorIndex := 262, attributes := #[] }, { accessFlags := 9, nameIndex := 117, descriptorIndex := 122, attributes := #[] }, { accessFlags := 9, nameIndex := 117, descriptorIndex := 118, attributes := #[] }] 48 6 #[] #[{ accessFlags := 26, nameIndex := 61, descriptorIndex := 62, attributes := #[] }, { accessFlags := 26, nameIndex := 65, descriptorIndex := 62, attributes := #[] }, { accessFlags := 24, nameIndex := 430, descriptorIndex := 62, attributes := #[] }, { accessFlags := 4120, nameIndex := 46, descriptorIndex := 47, attributes := #[] }])
  fields := #[{ name := "HI_BYTE_SHIFT", type := .int, accessFlags := 26, slot := 0, constantValue := 0 }, { name := "LO_BYTE_SHIFT", type := .int, accessFlags := 26, slot := 1, constantValue := 0 }, { name := "MAX_LENGTH", type := .int, accessFlags := 24, slot := 2, constantValue := 0 }, { name := "$assertionsDisabled", type := .boolean, accessFlags := 4120, slot := 3, constantValue := 0 }]
  methods := #[k8m0, k8m1, k8m2, k8m3]
  instanceTypes := #[]
  staticTypes := #[.int, .int, .int, .boolean]
  resolved := Array.replicate 635 none
  statics := none }

def pool9 : Array CpInfo := pool [(1, .methodref 2 3), (0, .class_ 4), (0, .nameAndType 5 6), (0, u "java/lang/Object"), (0, u "<init>"), (0, u "()V"), (0, .class_ 8), (0, u "java/lang/Record")] 13

def k9c0 : Code := { maxStack := 1, maxLocals := 1, code := jdk_30_method_1_code, exceptionTable := #[], attributes := #[] }
def k9m0 : Method := { name := "<init>", desc := "()V", sig := { parameters := [], returnType := none }, accessFlags := 4, code := some k9c0 }
/-- java/lang/Record -/
def k9 : Class := { plain "java/lang/Record" (some 0) with
  accessFlags := 1057
  interfaces := #[]
  cf := some (fileOf pool9 7 #[] #[{ accessFlags := 4, nameIndex := 5, descriptorIndex := 6, attributes := #[] }] 1057 2 #[] #[])
  fields := #[]
  methods := #[k9m0]
  instanceTypes := #[]
  staticTypes := #[]
  resolved := Array.replicate 22 none
  statics := none }

def pool10 : Array CpInfo := pool [(1, .methodref 2 3), (0, .class_ 4), (0, .nameAndType 5 6), (0, u "java/lang/Record"), (0, u "<init>"), (0, u "()V"), (0, .fieldref 8 9), (0, .class_ 10), (0, .nameAndType 11 12), (0, u "com/example/brygga/brygga/Caller"), (0, u "subject"), (0, u "Ljava/lang/String;"), (0, .fieldref 8 14), (0, .nameAndType 15 12), (0, u "hsaId"), (23, u "(Ljava/lang/String;Ljava/lang/String;)V"), (2, u "identified"), (0, u "()Z"), (72, u "SERIAL_NUMBER_OID"), (1, u "SERIAL_NUMBER")] 37

def k10c0 : Code := { maxStack := 2, maxLocals := 3, code := prog_10_method_1_code, exceptionTable := #[], attributes := #[] }
def k10m0 : Method := { name := "<init>", desc := "(Ljava/lang/String;Ljava/lang/String;)V", sig := { parameters := [(.object "java/lang/String"), (.object "java/lang/String")], returnType := none }, accessFlags := 0, code := some k10c0 }
def k10c1 : Code := { maxStack := 1, maxLocals := 1, code := prog_10_method_3_code, exceptionTable := #[], attributes := #[] }
def k10m1 : Method := { name := "identified", desc := "()Z", sig := { parameters := [], returnType := some .boolean }, accessFlags := 0, code := some k10c1 }
/-- com/example/brygga/brygga/Caller -/
def k10 : Class := { plain "com/example/brygga/brygga/Caller" (some 9) with
  accessFlags := 48
  interfaces := #[]
  cf := some (fileOf pool10 8 #[] #[{ accessFlags := 0, nameIndex := 5, descriptorIndex := 39, attributes := #[] }, { accessFlags := 0, nameIndex := 42, descriptorIndex := 43, attributes := #[] }] 48 2 #[] #[{ accessFlags := 18, nameIndex := 11, descriptorIndex := 12, attributes := #[] }, { accessFlags := 18, nameIndex := 15, descriptorIndex := 12, attributes := #[] }, { accessFlags := 26, nameIndex := 116, descriptorIndex := 12, attributes := #[] }, { accessFlags := 26, nameIndex := 118, descriptorIndex := 12, attributes := #[] }])
  fields := #[{ name := "subject", type := (.object "java/lang/String"), accessFlags := 18, slot := 0, constantValue := 0 }, { name := "hsaId", type := (.object "java/lang/String"), accessFlags := 18, slot := 1, constantValue := 0 }, { name := "SERIAL_NUMBER_OID", type := (.object "java/lang/String"), accessFlags := 26, slot := 0, constantValue := 0 }, { name := "SERIAL_NUMBER", type := (.object "java/lang/String"), accessFlags := 26, slot := 1, constantValue := 0 }]
  methods := #[k10m0, k10m1]
  instanceTypes := #[(.object "java/lang/String"), (.object "java/lang/String")]
  staticTypes := #[(.object "java/lang/String"), (.object "java/lang/String")]
  resolved := Array.replicate 156 none
  statics := none }

def pool11 : Array CpInfo := pool [(4, .class_ 6), (1, u "java/lang/Object"), (0, u "<init>"), (0, u "()V"), (5, .class_ 16), (1, u "java/lang/StringLatin1"), (73, u "canEncode"), (14, u "(C)Z"), (15, u "$assertionsDisabled"), (0, u "Z"), (98, .class_ 223), (1, u "java/lang/StringLatin1$LinesSpliterator"), (156, u "toBytes"), (1, u "(C)[B"), (7, .class_ 391), (0, u "java/lang/StringLatin1$CharsSpliterator")] 3

def k11m0 : Method := { name := "<init>", desc := "()V", sig := { parameters := [], returnType := none }, accessFlags := 0, code := none }
def k11c1 : Code := { maxStack := 2, maxLocals := 1, code := jdk_43_method_3_code, exceptionTable := #[], attributes := #[] }
def k11m1 : Method := { name := "canEncode", desc := "(C)Z", sig := { parameters := [.char], returnType := some .boolean }, accessFlags := 9, code := some k11c1 }
def k11c2 : Code := { maxStack := 4, maxLocals := 1, code := jdk_43_method_46_code, exceptionTable := #[], attributes := #[] }
def k11m2 : Method := { name := "toBytes", desc := "(C)[B", sig := { parameters := [.char], returnType := some (.array .byte) }, accessFlags := 9, code := some k11c2 }
/-- java/lang/StringLatin1 -/
def k11 : Class := { plain "java/lang/StringLatin1" (some 0) with
  accessFlags := 48
  interfaces := #[]
  cf := some (fileOf pool11 14 #[.nestMembers #[390, 221]] #[{ accessFlags := 0, nameIndex := 7, descriptorIndex := 8, attributes := #[] }, { accessFlags := 9, nameIndex := 90, descriptorIndex := 105, attributes := #[] }, { accessFlags := 9, nameIndex := 380, descriptorIndex := 382, attributes := #[] }] 48 4 #[] #[{ accessFlags := 4120, nameIndex := 121, descriptorIndex := 122, attributes := #[] }])
  fields := #[{ name := "$assertionsDisabled", type := .boolean, accessFlags := 4120, slot := 0, constantValue := 0 }]
  methods := #[k11m0, k11m1, k11m2]
  instanceTypes := #[]
  staticTypes := #[.boolean]
  resolved := Array.replicate 395 none
  statics := none }

def pool12 : Array CpInfo := pool [(2, .class_ 4), (1, u "java/lang/Object"), (0, u "<init>"), (0, u "()V"), (17, .class_ 26), (1, u "jdk/internal/util/Preconditions"), (28, .class_ 56), (0, u "jdk/internal/util/Preconditions$4"), (57, .class_ 115), (0, u "jdk/internal/util/Preconditions$1"), (7, u "SIOOBE_FORMATTER"), (0, u "Ljava/util/function/BiFunction;"), (0, .class_ 126), (0, u "jdk/internal/util/Preconditions$2"), (3, u "AIOOBE_FORMATTER"), (0, .class_ 132), (0, u "jdk/internal/util/Preconditions$3"), (3, u "IOOBE_FORMATTER")] 57

def k12m0 : Method := { name := "<init>", desc := "()V", sig := { parameters := [], returnType := none }, accessFlags := 1, code := none }
/-- jdk/internal/util/Preconditions -/
def k12 : Class := { plain "jdk/internal/util/Preconditions" (some 0) with
  accessFlags := 33
  interfaces := #[]
  cf := some (fileOf pool12 24 #[.nestMembers #[55, 131, 125, 114]] #[{ accessFlags := 1, nameIndex := 5, descriptorIndex := 6, attributes := #[] }] 33 2 #[] #[{ accessFlags := 25, nameIndex := 123, descriptorIndex := 124, attributes := #[] }, { accessFlags := 25, nameIndex := 130, descriptorIndex := 124, attributes := #[] }, { accessFlags := 25, nameIndex := 136, descriptorIndex := 124, attributes := #[] }])
  fields := #[{ name := "SIOOBE_FORMATTER", type := (.object "java/util/function/BiFunction"), accessFlags := 25, slot := 0, constantValue := 0 }, { name := "AIOOBE_FORMATTER", type := (.object "java/util/function/BiFunction"), accessFlags := 25, slot := 1, constantValue := 0 }, { name := "IOOBE_FORMATTER", type := (.object "java/util/function/BiFunction"), accessFlags := 25, slot := 2, constantValue := 0 }]
  methods := #[k12m0]
  instanceTypes := #[]
  staticTypes := #[(.object "java/util/function/BiFunction"), (.object "java/util/function/BiFunction"), (.object "java/util/function/BiFunction")]
  resolved := Array.replicate 194 none
  statics := some 1 }

def pool13 : Array CpInfo := pool [(9, u "<init>"), (6, .class_ 18), (1, u "java/lang/Object"), (0, u "()V"), (1, .class_ 23), (1, u "jdk/internal/util/ArraysSupport"), (0, u "LOG2_ARRAY_LONG_INDEX_SCALE"), (0, u "I"), (2, u "U"), (0, u "Ljdk/internal/misc/Unsafe;"), (8, u "BIG_ENDIAN"), (0, u "Z"), (8, u "LOG2_BYTE_BIT_SIZE"), (4, u "LOG2_ARRAY_INT_INDEX_SCALE"), (54, u "JLA"), (0, u "Ljdk/internal/access/JavaLangAccess;"), (11, u "LOG2_ARRAY_BOOLEAN_INDEX_SCALE"), (9, u "LOG2_ARRAY_BYTE_INDEX_SCALE"), (5, u "LOG2_ARRAY_CHAR_INDEX_SCALE"), (5, u "LOG2_ARRAY_SHORT_INDEX_SCALE"), (18, u "LOG2_ARRAY_FLOAT_INDEX_SCALE"), (24, u "LOG2_ARRAY_DOUBLE_INDEX_SCALE"), (89, u "T_BOOLEAN"), (2, u "T_CHAR"), (1, u "T_FLOAT"), (1, u "T_DOUBLE"), (1, u "T_BYTE"), (1, u "T_SHORT"), (1, u "T_INT"), (1, u "T_LONG"), (1, u "SOFT_MAX_ARRAY_LENGTH")] 83

def k13m0 : Method := { name := "<init>", desc := "()V", sig := { parameters := [], returnType := none }, accessFlags := 2, code := none }
/-- jdk/internal/util/ArraysSupport -/
def k13 : Class := { plain "jdk/internal/util/ArraysSupport" (some 0) with
  accessFlags := 33
  interfaces := #[]
  cf := some (fileOf pool13 21 #[] #[{ accessFlags := 2, nameIndex := 9, descriptorIndex := 19, attributes := #[] }] 33 16 #[] #[{ accessFlags := 24, nameIndex := 28, descriptorIndex := 29, attributes := #[] }, { accessFlags := 26, nameIndex := 38, descriptorIndex := 39, attributes := #[] }, { accessFlags := 25, nameIndex := 121, descriptorIndex := 25, attributes := #[] }, { accessFlags := 25, nameIndex := 131, descriptorIndex := 25, attributes := #[] }, { accessFlags := 25, nameIndex := 137, descriptorIndex := 25, attributes := #[] }, { accessFlags := 25, nameIndex := 143, descriptorIndex := 25, attributes := #[] }, { accessFlags := 25, nameIndex := 53, descriptorIndex := 25, attributes := #[] }, { accessFlags := 25, nameIndex := 24, descriptorIndex := 25, attributes := #[] }, { accessFlags := 25, nameIndex := 162, descriptorIndex := 25, attributes := #[] }, { accessFlags := 25, nameIndex := 187, descriptorIndex := 25, attributes := #[] }, { accessFlags := 26, nameIndex := 48, descriptorIndex := 25, attributes := #[] }, { accessFlags := 25, nameIndex := 277, descriptorIndex := 25, attributes := #[] }, { accessFlags := 25, nameIndex := 280, descriptorIndex := 25, attributes := #[] }, { accessFlags := 25, nameIndex := 282, descriptorIndex := 25, attributes := #[] }, { accessFlags := 25, nameIndex := 284, descriptorIndex := 25, attributes := #[] }, { accessFlags := 25, nameIndex := 286, descriptorIndex := 25, attributes := #[] }, { accessFlags := 25, nameIndex := 288, descriptorIndex := 25, attributes := #[] }, { accessFlags := 25, nameIndex := 290, descriptorIndex := 25, attributes := #[] }, { accessFlags := 25, nameIndex := 292, descriptorIndex := 25, attributes := #[] }, { accessFlags := 26, nameIndex := 108, descriptorIndex := 109, attributes := #[] }, { accessFlags := 25, nameIndex := 294, descriptorIndex := 25, attributes := #[] }])
  fields := #[{ name := "U", type := (.object "jdk/internal/misc/Unsafe"), accessFlags := 24, slot := 0, constantValue := 0 }, { name := "BIG_ENDIAN", type := .boolean, accessFlags := 26, slot := 1, constantValue := 0 }, { name := "LOG2_ARRAY_BOOLEAN_INDEX_SCALE", type := .int, accessFlags := 25, slot := 2, constantValue := 0 }, { name := "LOG2_ARRAY_BYTE_INDEX_SCALE", type := .int, accessFlags := 25, slot := 3, constantValue := 0 }, { name := "LOG2_ARRAY_CHAR_INDEX_SCALE", type := .int, accessFlags := 25, slot := 4, constantValue := 0 }, { name := "LOG2_ARRAY_SHORT_INDEX_SCALE", type := .int, accessFlags := 25, slot := 5, constantValue := 0 }, { name := "LOG2_ARRAY_INT_INDEX_SCALE", type := .int, accessFlags := 25, slot := 6, constantValue := 0 }, { name := "LOG2_ARRAY_LONG_INDEX_SCALE", type := .int, accessFlags := 25, slot := 7, constantValue := 0 }, { name := "LOG2_ARRAY_FLOAT_INDEX_SCALE", type := .int, accessFlags := 25, slot := 8, constantValue := 0 }, { name := "LOG2_ARRAY_DOUBLE_INDEX_SCALE", type := .int, accessFlags := 25, slot := 9, constantValue := 0 }, { name := "LOG2_BYTE_BIT_SIZE", type := .int, accessFlags := 26, slot := 10, constantValue := 0 }, { name := "T_BOOLEAN", type := .int, accessFlags := 25, slot := 11, constantValue := 0 }, { name := "T_CHAR", type := .int, accessFlags := 25, slot := 12, constantValue := 0 }, { name := "T_FLOAT", type := .int, accessFlags := 25, slot := 13, constantValue := 0 }, { name := "T_DOUBLE", type := .int, accessFlags := 25, slot := 14, constantValue := 0 }, { name := "T_BYTE", type := .int, accessFlags := 25, slot := 15, constantValue := 0 }, { name := "T_SHORT", type := .int, accessFlags := 25, slot := 16, constantValue := 0 }, { name := "T_INT", type := .int, accessFlags := 25, slot := 17, constantValue := 0 }, { name := "T_LONG", type := .int, accessFlags := 25, slot := 18, constantValue := 0 }, { name := "JLA", type := (.object "jdk/internal/access/JavaLangAccess"), accessFlags := 26, slot := 19, constantValue := 0 }, { name := "SOFT_MAX_ARRAY_LENGTH", type := .int, accessFlags := 25, slot := 20, constantValue := 0 }]
  methods := #[k13m0]
  instanceTypes := #[]
  staticTypes := #[(.object "jdk/internal/misc/Unsafe"), .boolean, .int, .int, .int, .int, .int, .int, .int, .int, .int, .int, .int, .int, .int, .int, .int, .int, .int, (.object "jdk/internal/access/JavaLangAccess"), .int]
  resolved := Array.replicate 378 none
  statics := none }

def pool14 : Array CpInfo := pool [(1, u "java/lang/Cloneable"), (0, .class_ 1), (0, u "java/lang/Object"), (0, .class_ 3)] 3

/-- java/lang/Cloneable -/
def k14 : Class := { plain "java/lang/Cloneable" (some 0) with
  accessFlags := 1537
  interfaces := #[]
  cf := some (fileOf pool14 2 #[] #[] 1537 4 #[] #[])
  fields := #[]
  methods := #[]
  instanceTypes := #[]
  staticTypes := #[]
  resolved := Array.replicate 8 none
  statics := none }

/-- the primitive byte -/
def k15 : Class := { plain "byte" none with kind := .primitive 'B', accessFlags := 0x411 }
/-- [B -/
def k16 : Class := { plain "[B" (some 0) with kind := .array 15 .byte, interfaces := #[14, 2], accessFlags := 1041 }

/-- the primitive char -/
def k17 : Class := { plain "char" none with kind := .primitive 'C', accessFlags := 0x411 }
/-- [C -/
def k18 : Class := { plain "[C" (some 0) with kind := .array 17 .char, interfaces := #[14, 2], accessFlags := 1041 }

/-- the primitive int -/
def k19 : Class := { plain "int" none with kind := .primitive 'I', accessFlags := 0x411 }
/-- [I -/
def k20 : Class := { plain "[I" (some 0) with kind := .array 19 .int, interfaces := #[14, 2], accessFlags := 1041 }

def heap : Heap := #[{ cls := 7, slots := #[.long 0, .int 1, .null, .int 0, .null, .int 0, .int 0], vm := .statics 7 },
  { cls := 12, slots := #[.null, .null, .null], vm := .statics 12 }]
def classes : Array Class := #[k0, k1, k2, k3, k4, k5, k6, k7, k8, k9, k10, k11, k12, k13, k14, k15, k16, k17, k18, k19, k20]
def interned : List (Array UInt16 × Addr) := []
def slotsUsed : Nat := 10
def theMethod : MethodId := ⟨1, 1⟩
def args0 : Array Value := #[.int 5, .int 1, .int 2]
def aboutOver (below : List Frame) : State where
  vm := { classes := classes, interned := interned.toArray }
  heap := heap
  slotsUsed := slotsUsed
  threads := #[{ frames := .invoking theMethod args0 :: below }]
def below0 : List Frame := [.native { method := ⟨0, 0⟩, args := #[] }]
def about1 : State := aboutOver below0
def p0 : Program := .bare "" "" ""
def e0 : Env := launch0.env 0 0 0
theorem w_frames : about1.frames = Frame.invoking theMethod args0 :: below0 := rfl
set_option maxRecDepth 65536 in
theorem w_args : argsFit about1.vm theMethod args0 = true := by decide +kernel
set_option maxRecDepth 65536 in
theorem w_heap : heapFits about1 = true := by decide +kernel
set_option maxRecDepth 65536 in
theorem w_runnable : about1.curStatus? = some .runnable := by decide +kernel
set_option maxRecDepth 65536 in
theorem w_alone : about1.alone = true := by decide +kernel
set_option maxRecDepth 65536 in
theorem w_named : about1.methodNamed? x = some theMethod := by decide +kernel
set_option maxRecDepth 65536 in
theorem w_hears : about1.hears theMethod below0 = true := by decide +kernel
set_option maxRecDepth 65536 in
theorem w_ripe : about1.ripe theMethod args0 below0 = true := by decide +kernel
theorem w_running : about1.status = .running := rfl
set_option maxRecDepth 65536 in
theorem w_room : about1.hasRoom e0.platform room_1 = true :=
  launch0.hasRoom_least _ room_1 (by decide +kernel) (by decide +kernel) (by decide +kernel) (by decide +kernel) (by decide +kernel) (by decide +kernel)
theorem allAtoms_all (ts : List Jvm.Cond) (a : Array Jvm.Value) (st : Jvm.State) : (allAtoms ts).before a st = ts.all (fun c => c.before a st) := by
  induction ts with
  | nil => rfl
  | cons c t ih =>
    show (Jvm.Cond.and c (allAtoms t)).before a st = _
    rw [Jvm.Cond.before_and, ih, List.all_cons]
def words1 : List Jvm.Cond := Jvm.Cond.code x code maxLocals ret :: tables_1
/-- a 'code' word, met by the world's own term for the bytes: nothing is compared byte by byte -/
theorem code_word {y : MethodName} {bytes : ByteArray} {mx : Nat} {rt : Option FieldType} {a : Array Value} {s : State} {m : MethodId} {meth : Method} {c : Code} (h1 : s.methodNamed? y = some m) (h2 : s.vm.method? m = some meth) (h3 : meth.code = some c) (h4 : c.code = bytes)
    (h5 : (c.maxLocals == mx && c.exceptionTable.isEmpty && decide (c.maxStack ≤ mostOperands) && decide (meth.sig.returnType = rt) && !meth.locks && decide (parseMethodDescriptor y.desc = some meth.sig)) = true) : (Jvm.Cond.code y bytes mx rt).before a s = true := by
  simp only [Bool.and_eq_true, beq_iff_eq, Bool.not_eq_true', decide_eq_true_eq] at h5
  obtain ⟨⟨⟨⟨⟨g1, g2⟩, g3⟩, g4⟩, g5⟩, g6⟩ := h5
  simp [Cond.before, Cond.holds, Cond.value, h1, h2, h3, h4, g1, g2, g3, g4, g5, g6]
def isCode : Jvm.Cond → Bool
  | .code _ _ _ _ => true
  | _ => false
theorem all_split {L : List Jvm.Cond} {P : Jvm.Cond → Bool} (h1 : L.all (fun c => isCode c || P c) = true) (h2 : ∀ c ∈ L.filter isCode, P c = true) : L.all P = true := by
  refine List.all_eq_true.mpr fun c hc => ?_
  have h := List.all_eq_true.mp h1 c hc
  rcases Bool.eq_false_or_eq_true (isCode c) with hi | hi
  · exact h2 c (List.mem_filter.mpr ⟨hc, hi⟩)
  · simpa [hi] using h
set_option maxRecDepth 65536 in
theorem w_c0 : (Jvm.Cond.code x code maxLocals ret).before args0 about1 = true := code_word (m := ⟨1, 1⟩) (meth := k1m1) (c := k1c1) (by decide +kernel) rfl rfl rfl (by decide +kernel)
set_option maxRecDepth 65536 in
theorem w_c1 : (Jvm.Cond.code ({ cls := "java/lang/String", name := "<init>", desc := "([C)V" } : Jvm.MethodName) jdk_42_method_3_code (2 : Nat) (Option.none : Option Jvm.ClassFile.FieldType)).before args0 about1 = true := code_word (m := ⟨7, 1⟩) (meth := k7m1) (c := k7c1) (by decide +kernel) rfl rfl rfl (by decide +kernel)
set_option maxRecDepth 65536 in
theorem w_c2 : (Jvm.Cond.code ({ cls := "java/lang/String", name := "<init>", desc := "([CIILjava/lang/Void;)V" } : Jvm.MethodName) jdk_42_method_149_code (6 : Nat) (Option.none : Option Jvm.ClassFile.FieldType)).before args0 about1 = true := code_word (m := ⟨7, 3⟩) (meth := k7m3) (c := k7c3) (by decide +kernel) rfl rfl rfl (by decide +kernel)
set_option maxRecDepth 65536 in
theorem w_c3 : (Jvm.Cond.code ({ cls := "java/lang/Object", name := "<init>", desc := "()V" } : Jvm.MethodName) object_method_1_code (1 : Nat) (Option.none : Option Jvm.ClassFile.FieldType)).before args0 about1 = true := code_word (m := ⟨0, 0⟩) (meth := k0m0) (c := k0c0) (by decide +kernel) rfl rfl rfl (by decide +kernel)
set_option maxRecDepth 65536 in
theorem w_c4 : (Jvm.Cond.code ({ cls := "java/lang/StringUTF16", name := "compress", desc := "([CII)[B" } : Jvm.MethodName) jdk_52_method_16_code (6 : Nat) (Option.some (Jvm.ClassFile.FieldType.array Jvm.ClassFile.FieldType.byte))).before args0 about1 = true := code_word (m := ⟨8, 2⟩) (meth := k8m2) (c := k8c2) (by decide +kernel) rfl rfl rfl (by decide +kernel)
set_option maxRecDepth 65536 in
theorem w_c5 : (Jvm.Cond.code ({ cls := "java/lang/StringUTF16", name := "compress", desc := "([CI[BII)I" } : Jvm.MethodName) jdk_52_method_21_code (7 : Nat) (Option.some Jvm.ClassFile.FieldType.int)).before args0 about1 = true := code_word (m := ⟨8, 3⟩) (meth := k8m3) (c := k8c3) (by decide +kernel) rfl rfl rfl (by decide +kernel)
set_option maxRecDepth 65536 in
theorem w_c6 : (Jvm.Cond.code ({ cls := "java/lang/StringUTF16", name := "coderFromArrayLen", desc := "([BI)B" } : Jvm.MethodName) jdk_52_method_15_code (2 : Nat) (Option.some Jvm.ClassFile.FieldType.byte)).before args0 about1 = true := code_word (m := ⟨8, 1⟩) (meth := k8m1) (c := k8c1) (by decide +kernel) rfl rfl rfl (by decide +kernel)
set_option maxRecDepth 65536 in
theorem w_c7 : (Jvm.Cond.code ({ cls := "com/example/brygga/brygga/Caller", name := "<init>", desc := "(Ljava/lang/String;Ljava/lang/String;)V" } : Jvm.MethodName) prog_10_method_1_code (3 : Nat) (Option.none : Option Jvm.ClassFile.FieldType)).before args0 about1 = true := code_word (m := ⟨10, 0⟩) (meth := k10m0) (c := k10c0) (by decide +kernel) rfl rfl rfl (by decide +kernel)
set_option maxRecDepth 65536 in
theorem w_c8 : (Jvm.Cond.code ({ cls := "java/lang/Record", name := "<init>", desc := "()V" } : Jvm.MethodName) jdk_30_method_1_code (1 : Nat) (Option.none : Option Jvm.ClassFile.FieldType)).before args0 about1 = true := code_word (m := ⟨9, 0⟩) (meth := k9m0) (c := k9c0) (by decide +kernel) rfl rfl rfl (by decide +kernel)
set_option maxRecDepth 65536 in
theorem w_c9 : (Jvm.Cond.code ({ cls := "com/example/brygga/brygga/Caller", name := "identified", desc := "()Z" } : Jvm.MethodName) prog_10_method_3_code (1 : Nat) (Option.some Jvm.ClassFile.FieldType.boolean)).before args0 about1 = true := code_word (m := ⟨10, 1⟩) (meth := k10m1) (c := k10c1) (by decide +kernel) rfl rfl rfl (by decide +kernel)
set_option maxRecDepth 65536 in
theorem w_c10 : (Jvm.Cond.code ({ cls := "java/lang/String", name := "valueOf", desc := "(C)Ljava/lang/String;" } : Jvm.MethodName) jdk_42_method_139_code (1 : Nat) (Option.some (Jvm.ClassFile.FieldType.object "java/lang/String"))).before args0 about1 = true := code_word (m := ⟨7, 2⟩) (meth := k7m2) (c := k7c2) (by decide +kernel) rfl rfl rfl (by decide +kernel)
set_option maxRecDepth 65536 in
theorem w_c11 : (Jvm.Cond.code ({ cls := "java/lang/StringLatin1", name := "canEncode", desc := "(C)Z" } : Jvm.MethodName) jdk_43_method_3_code (1 : Nat) (Option.some Jvm.ClassFile.FieldType.boolean)).before args0 about1 = true := code_word (m := ⟨11, 1⟩) (meth := k11m1) (c := k11c1) (by decide +kernel) rfl rfl rfl (by decide +kernel)
set_option maxRecDepth 65536 in
theorem w_c12 : (Jvm.Cond.code ({ cls := "java/lang/StringLatin1", name := "toBytes", desc := "(C)[B" } : Jvm.MethodName) jdk_43_method_46_code (1 : Nat) (Option.some (Jvm.ClassFile.FieldType.array Jvm.ClassFile.FieldType.byte))).before args0 about1 = true := code_word (m := ⟨11, 2⟩) (meth := k11m2) (c := k11c2) (by decide +kernel) rfl rfl rfl (by decide +kernel)
set_option maxRecDepth 65536 in
theorem w_c13 : (Jvm.Cond.code ({ cls := "java/lang/String", name := "<init>", desc := "([BB)V" } : Jvm.MethodName) jdk_42_method_151_code (3 : Nat) (Option.none : Option Jvm.ClassFile.FieldType)).before args0 about1 = true := code_word (m := ⟨7, 4⟩) (meth := k7m4) (c := k7c4) (by decide +kernel) rfl rfl rfl (by decide +kernel)
def codes1 : List Jvm.Cond := [Jvm.Cond.code x code maxLocals ret, Jvm.Cond.code ({ cls := "java/lang/String", name := "<init>", desc := "([C)V" } : Jvm.MethodName) jdk_42_method_3_code (2 : Nat) (Option.none : Option Jvm.ClassFile.FieldType), Jvm.Cond.code ({ cls := "java/lang/String", name := "<init>", desc := "([CIILjava/lang/Void;)V" } : Jvm.MethodName) jdk_42_method_149_code (6 : Nat) (Option.none : Option Jvm.ClassFile.FieldType), Jvm.Cond.code ({ cls := "java/lang/Object", name := "<init>", desc := "()V" } : Jvm.MethodName) object_method_1_code (1 : Nat) (Option.none : Option Jvm.ClassFile.FieldType), Jvm.Cond.code ({ cls := "java/lang/StringUTF16", name := "compress", desc := "([CII)[B" } : Jvm.MethodName) jdk_52_method_16_code (6 : Nat) (Option.some (Jvm.ClassFile.FieldType.array Jvm.ClassFile.FieldType.byte)), Jvm.Cond.code ({ cls := "java/lang/StringUTF16", name := "compress", desc := "([CI[BII)I" } : Jvm.MethodName) jdk_52_method_21_code (7 : Nat) (Option.some Jvm.ClassFile.FieldType.int), Jvm.Cond.code ({ cls := "java/lang/StringUTF16", name := "coderFromArrayLen", desc := "([BI)B" } : Jvm.MethodName) jdk_52_method_15_code (2 : Nat) (Option.some Jvm.ClassFile.FieldType.byte), Jvm.Cond.code ({ cls := "com/example/brygga/brygga/Caller", name := "<init>", desc := "(Ljava/lang/String;Ljava/lang/String;)V" } : Jvm.MethodName) prog_10_method_1_code (3 : Nat) (Option.none : Option Jvm.ClassFile.FieldType), Jvm.Cond.code ({ cls := "java/lang/Record", name := "<init>", desc := "()V" } : Jvm.MethodName) jdk_30_method_1_code (1 : Nat) (Option.none : Option Jvm.ClassFile.FieldType), Jvm.Cond.code ({ cls := "com/example/brygga/brygga/Caller", name := "identified", desc := "()Z" } : Jvm.MethodName) prog_10_method_3_code (1 : Nat) (Option.some Jvm.ClassFile.FieldType.boolean), Jvm.Cond.code ({ cls := "java/lang/String", name := "valueOf", desc := "(C)Ljava/lang/String;" } : Jvm.MethodName) jdk_42_method_139_code (1 : Nat) (Option.some (Jvm.ClassFile.FieldType.object "java/lang/String")), Jvm.Cond.code ({ cls := "java/lang/StringLatin1", name := "canEncode", desc := "(C)Z" } : Jvm.MethodName) jdk_43_method_3_code (1 : Nat) (Option.some Jvm.ClassFile.FieldType.boolean), Jvm.Cond.code ({ cls := "java/lang/StringLatin1", name := "toBytes", desc := "(C)[B" } : Jvm.MethodName) jdk_43_method_46_code (1 : Nat) (Option.some (Jvm.ClassFile.FieldType.array Jvm.ClassFile.FieldType.byte)), Jvm.Cond.code ({ cls := "java/lang/String", name := "<init>", desc := "([BB)V" } : Jvm.MethodName) jdk_42_method_151_code (3 : Nat) (Option.none : Option Jvm.ClassFile.FieldType)]
set_option maxRecDepth 65536 in
theorem codes_eq : words1.filter isCode = codes1 := rfl
theorem w_codes : ∀ c ∈ words1.filter isCode, c.before args0 about1 = true := by
  rw [codes_eq]
  intro c hc
  simp only [codes1, List.mem_cons, List.not_mem_nil, or_false] at hc
  rcases hc with rfl | rfl | rfl | rfl | rfl | rfl | rfl | rfl | rfl | rfl | rfl | rfl | rfl | rfl
  · exact w_c0
  · exact w_c1
  · exact w_c2
  · exact w_c3
  · exact w_c4
  · exact w_c5
  · exact w_c6
  · exact w_c7
  · exact w_c8
  · exact w_c9
  · exact w_c10
  · exact w_c11
  · exact w_c12
  · exact w_c13
set_option maxRecDepth 65536 in
theorem w_t1 : (words1.take 24).all (fun c => isCode c || c.before args0 about1) = true := by decide +kernel
set_option maxRecDepth 65536 in
theorem w_t2 : ((words1.drop 24).take 24).all (fun c => isCode c || c.before args0 about1) = true := by decide +kernel
set_option maxRecDepth 65536 in
theorem w_t3 : ((words1.drop 24).drop 24).all (fun c => isCode c || c.before args0 about1) = true := by decide +kernel
theorem w_tables : (allAtoms (Jvm.Cond.code x code maxLocals ret :: tables_1)).before args0 about1 = true := by
  rw [allAtoms_all]
  show words1.all (fun c => c.before args0 about1) = true
  refine all_split ?_ w_codes
  rw [← List.take_append_drop 24 words1, List.all_append, w_t1, ← List.take_append_drop 24 (words1.drop 24), List.all_append, w_t2, w_t3]
  rfl
set_option maxRecDepth 65536 in
theorem w_rest : rest_1_c.before args0 about1 = true := by decide +kernel
set_option maxRecDepth 65536 in
theorem w_case : (Jvm.Cond.and given_1 narrow_1).before args0 about1 = true := by decide +kernel
set_option maxRecDepth 65536 in
theorem w_consts : constsHeld consts_1 about1 := Jvm.Lit.constsHeldB_iff.mp (by decide +kernel)
theorem w_applies : (headSpec (Jvm.Cond.code x code maxLocals ret :: tables_1) room_1).applies x e0.platform about1 = true :=
  (Spec.applies_iff w_frames).mpr ⟨w_running, w_runnable, w_alone, w_named, w_hears, w_ripe, w_room, w_tables⟩
theorem atStart : AtStart classFile x code maxLocals ret World_1 tables_1 room_1 Calls_1 rest_1 Pre_1 launch0 p0 e0 about1 theMethod args0 below0 :=
  ⟨lists_1, trivial, launch0.admits_env _ _ _, launch0.least_env, fairChoices_fair.cas, fairChoices_fair.clock, w_frames, w_args, w_heap, w_applies, ⟨w_consts, trivial⟩, w_rest, w_case⟩
end start1
theorem witness_1 : WitnessClaimed_1 := ⟨start1.p0, start1.e0, start1.about1, start1.theMethod, start1.args0, start1.below0, start1.atStart⟩
end Jvm.Pilot.@@N@@
