import JvmDerived
import JvmDerived.Pilot.@@N@@Statement
import JvmDerived.Pilot.@@N@@Code
set_option linter.unusedVariables false
set_option linter.unusedSimpArgs false
namespace Jvm.OwnW
open Sem ClassFile Op Lib Jvm.Stand Jvm.Free Jvm.LawKit Jvm.RoadKit
section A
variable {kn : Prop} {p : Program} {l : Launch} {e : Env} {R : Room} {s : State} {m : MethodId} {args : Array Value} {below : List Frame} {meth : Method} {c : Code} {T : State} {Z : State} {a0 : Array Value} {EL : List (String × Nat)} {h h' : Heap} {n0 kc ks fc fs : Nat} {sf : List Addr} {Q : Option Value → Heap → List Addr → Prop} {y : MethodName} {bytes : ByteArray} {maxL : Nat} {ret : Option FieldType} {a b : Addr} {ty : FieldType} {vs : List Value} {sl : Nat} {v w : Value} {C f d : String} {wl : List Addr}
def Sd (kn : Prop) (Z : State) (a0 : Array Value) (EL : List (String × Nat)) (y : MethodName) (bytes : ByteArray) (maxL : Nat) (ret : Option FieldType) (p : Program) (l : Launch) (e : Env) (R : Room) (s : State) (m : MethodId) (args : Array Value) (below : List Frame) (meth : Method) (c : Code) (n0 : Nat) (sf : List Addr) (h : Heap) (kc ks : Nat) (T : State) : Prop :=
  ∃ (vm0 : Vm) (k0 : Nat), (p.tables.exec = Jvm.exec ∧ Z.Warmed39 vm0 ∧ c.code = bytes ∧ c.maxLocals = maxL ∧ meth.sig.returnType = ret ∧ meth.locks = false ∧ vm0.findClass y.cls = some m.cls ∧ meth.name = y.name) ∧
  (s.Since vm0 k0 ∧ k0 ≤ h.size ∧ EW Z a0 EL ∧ CHr Z EL s.vm s.heap vm0 h ∧ (∀ x ∈ sf, Safe Z EL vm0 h x ∧ x < h.size) ∧ (kn → vm0.MethodsKnown ∧ vm0.FramesKnown below)) ∧
  ∃ locs cells slots, Stand p l e R (s.setVm vm0) m args below meth c T locs cells slots ∧ T.heap = h ∧ Fr n0 locs ∧ cells ≤ kc ∧ slots ≤ ks
def Run (Z : State) (EL : List (String × Nat)) (p : Program) (e : Env) (below : List Frame) (s : State) (n0 fc fs : Nat) (Q : Option Value → Heap → List Addr → Prop) (t : State) : Prop :=
  ∃ s₂ o, Steps p.tables e below t s₂ ∧ s₂.status = .running ∧ Ended s₂ below o ∧ ∃ v L sfn, o = .returned v ∧ Q v s₂.heap sfn ∧ (∀ x ∈ sfn, Safe Z EL s₂.vm s₂.heap x ∧ x < s₂.heap.size) ∧ Fr n0 L ∧ CHr Z EL s.vm s.heap s₂.vm s₂.heap ∧ ReturnedEndW s o s₂ L fc fs
def Ctr (kn : Prop) (l : Launch) (Z : State) (EL : List (String × Nat)) (y : MethodName) (bytes : ByteArray) (maxL : Nat) (ret : Option FieldType) (ws : List Cond) (rm : Room) (n0 : Nat) (sf : List Addr) (as : Array Value) (h : Heap) (Q : Option Value → Heap → List Addr → Prop) : Prop :=
  MetFree l y (head1 (Cond.code y bytes maxL ret :: ws) rm) (fun a' U => a' = as ∧ Z.Warmed39 U.vm ∧ U.heap = h ∧ CHv Z EL U.vm h ∧ ∀ x ∈ sf, Safe Z EL U.vm h x ∧ x < h.size) (fun _ _ bl U _ => kn → U.vm.MethodsKnown ∧ U.vm.FramesKnown bl) (fun _ U o U' => ∃ v L, o = .returned v ∧ (∃ sfn, Q v U'.heap sfn ∧ (∀ x ∈ sfn, Safe Z EL U'.vm U'.heap x ∧ x < U'.heap.size) ∧ Fr n0 L) ∧ CHr Z EL U.vm U.heap U'.vm U'.heap ∧ ReturnedEndW U o U' L rm.cells rm.slots)
def Rt (Qv : Value → Heap → List Addr → Prop) : Option Value → Heap → List Addr → Prop := fun v h g => ∃ w, v = some w ∧ Qv w h g
def Rn (Qn : Heap → List Addr → Prop) : Option Value → Heap → List Addr → Prop := fun v h g => v = none ∧ Qn h g
theorem Run.st {t t' : State} (k : Run Z EL p e below s n0 fc fs Q t') (f : ∀ z, Steps p.tables e below t' z → Steps p.tables e below t z) : Run Z EL p e below s n0 fc fs Q t := by
  obtain ⟨s2, o, h1, r⟩ := k; exact ⟨s2, o, f _ h1, r⟩
theorem FKalike {vm vm' : Vm} {fr : List Frame} (hal : vm.Alike vm') (h : vm.FramesKnown fr) : vm'.FramesKnown fr := Vm.FramesKnown.alikeC hal h
theorem Sd.x (X : Sd kn Z a0 EL y bytes maxL ret p l e R s m args below meth c n0 sf h kc ks T) : p.tables.exec = Jvm.exec := by obtain ⟨_, _, q, -⟩ := X; exact q.1
theorem Sd.hr (X : Sd kn Z a0 EL y bytes maxL ret p l e R s m args below meth c n0 sf h kc ks T) : At T m c below := by obtain ⟨_, _, -, -, _, _, _, Y, -⟩ := X; exact Y.here
theorem Sd.dc (X : Sd kn Z a0 EL y bytes maxL ret p l e R s m args below meth c n0 sf h kc ks T) {pc : Nat} {r : Except DecodeError (Instr × Nat)} (q : decode bytes pc = r) : decode c.code pc = r := by obtain ⟨_, _, g, -⟩ := X; exact g.2.2.1 ▸ q
theorem Sd.rt (X : Sd kn Z a0 EL y bytes maxL ret p l e R s m args below meth c n0 sf h kc ks T) : meth.sig.returnType = ret := by obtain ⟨_, _, q, -⟩ := X; exact q.2.2.2.2.1
theorem Sd.op (X : Sd kn Z a0 EL y bytes maxL ret p l e R s m args below meth c n0 sf h kc ks T) : ∃ (s' : State) (L : List Loc) (i j : Nat), Stand p l e R s' m args below meth c T L i j ∧ T.heap = h ∧ Z.Warmed39 s'.vm ∧ s'.vm.findClass y.cls = some m.cls ∧ c.maxLocals = maxL ∧ meth.name = y.name ∧ i ≤ kc ∧ j ≤ ks ∧ p.tables.exec = Jvm.exec ∧ (∀ T', Stand p l e R s' m args below meth c T' L i j → T'.heap = h → Sd kn Z a0 EL y bytes maxL ret p l e R s m args below meth c n0 sf h kc ks T') ∧ (∀ T' h' dc ds, Stand p l e R s' m args below meth c T' L (i + dc) (j + ds) → T'.heap = h' → Ext h h' → h.size < h'.size → Sd kn Z a0 EL y bytes maxL ret p l e R s m args below meth c n0 (h.size :: sf) h' (kc + dc) (ks + ds) T') ∧ (∀ T' h' a sl v, a ∈ sf → n0 ≤ a → Stand p l e R s' m args below meth c T' (L ++ [⟨a, sl⟩]) i j → T'.heap = h' → Wr h h' a sl v → Sd kn Z a0 EL y bytes maxL ret p l e R s m args below meth c n0 sf h' kc ks T') := by
  obtain ⟨vm0, k0, q, ⟨hS, hk, hE, hC, hs, hkn⟩, L, i, j, Y, r1, r2, r3, r4⟩ := X
  refine ⟨s.setVm vm0, L, i, j, Y, r1, q.2.1, q.2.2.2.2.2.2.1, q.2.2.2.1, q.2.2.2.2.2.2.2, r3, r4, q.1, ?_, ?_, ?_⟩
  · intro T' Y' e'
    exact ⟨vm0, k0, q, ⟨hS, hk, hE, hC, hs, hkn⟩, L, i, j, Y', e', r2, r3, r4⟩
  · intro T' h' dc ds Y' e' E hlt
    refine ⟨vm0, k0, q, ⟨hS, Nat.le_trans hk E.1, hE, hC.trans (CHr.ext E hC.1), ?_, hkn⟩, L, _, _, Y', e', r2, by omega, by omega⟩
    intro x hx
    rcases List.mem_cons.mp hx with rfl | hx
    · exact ⟨(Safe.new (Nat.le_refl _)).ext E hC.1, hlt⟩
    · exact ⟨(hs x hx).1.ext E hC.1, Nat.lt_of_lt_of_le (hs x hx).2 E.1⟩
  · intro T' h' a sl v ha hn Y' e' W
    refine ⟨vm0, k0, q, ⟨hS, by rw [W.size]; exact hk, hE, hC.trans (CHr.wr W (hs a ha).1 hC.1), ?_, hkn⟩, _, _, _, Y', e', Fr.snoc Y' r2 hn, r3, r4⟩
    intro x hx
    exact ⟨Safe.wr W (hs a ha).1 hC.1 (hs x hx).1, by rw [W.size]; exact (hs x hx).2⟩
theorem Sd.lt (X : Sd kn Z a0 EL y bytes maxL ret p l e R s m args below meth c n0 sf h kc ks T) : ∀ x ∈ sf, x < h.size := by obtain ⟨_, _, -, ⟨-, -, -, -, hs, -⟩, -⟩ := X; exact fun x hx => (hs x hx).2
theorem sf0 : ∀ x ∈ ([] : List Addr), x ∈ sf := fun _ q => nomatch q
theorem sfS (q : a ∈ sf) (r : ∀ x ∈ wl, x ∈ sf) : ∀ x ∈ a :: wl, x ∈ sf := fun x z => (List.mem_cons.mp z).elim (fun u => u ▸ q) (r x)
theorem Sd.more (X : Sd kn Z a0 EL y bytes maxL ret p l e R s m args below meth c n0 sf h kc ks T) {kc' ks' : Nat} (h1 : kc ≤ kc') (h2 : ks ≤ ks') : Sd kn Z a0 EL y bytes maxL ret p l e R s m args below meth c n0 sf h kc' ks' T := by
  obtain ⟨vm0, k0, q, g, L, i, j, Y, r1, r2, r3, r4⟩ := X; exact ⟨vm0, k0, q, g, L, i, j, Y, r1, r2, Nat.le_trans r3 h1, Nat.le_trans r4 h2⟩
theorem Sd.less (X : Sd kn Z a0 EL y bytes maxL ret p l e R s m args below meth c n0 sf h kc ks T) {sf' : List Addr} (hh : ∀ x ∈ sf', x ∈ sf) : Sd kn Z a0 EL y bytes maxL ret p l e R s m args below meth c n0 sf' h kc ks T := by
  obtain ⟨vm0, k0, q, ⟨hS, hk, hE, hC, hs, hkn⟩, g⟩ := X; exact ⟨vm0, k0, q, ⟨hS, hk, hE, hC, fun x hx => hs x (hh x hx), hkn⟩, g⟩
theorem Ctr.of {rm : Room} {ws : List Cond} {as : Array Value} {ls0 : Array Slot} (hn : plainFor y = true) (hE : EW Z a0 EL) (hf : ∀ m, entryFrame m as maxL = mkF m 0 ls0 [])
    (body : ∀ (p : Program) (e : Env) (s : State) (m : MethodId) (below : List Frame) (meth : Method) (c : Code) (T : State), Sd kn Z a0 EL y bytes maxL ret p l e rm s m as below meth c n0 sf h 0 0 T → Run Z EL p e below s n0 rm.cells rm.slots Q (T.setTop (mkF m 0 ls0 []))) : Ctr kn l Z EL y bytes maxL ret ws rm n0 sf as h Q := by
  refine MetFree.of_bodySF hn hisR ?_
  intro p e s m args below meth c s₁ Bd hml0 hP hK
  obtain ⟨rfl, hZ, hh, hC, hs⟩ := hP
  have X0 : Stand p l e rm s m args below meth c s₁ [] 0 0 := Stand.of_body Bd
  have e0 : s₁.heap = h := by rw [← hh, Bd.state]; rfl
  obtain ⟨s2, o, h1, h2, h3, v, L, sfn, h4, h5, h6, h7, h8, h9⟩ := body p e s m below meth c s₁ ⟨s.vm, h.size, ⟨Bd.exec, hZ, Bd.bytes, hml0, Bd.returns, Bd.notSynchronized, findClass_of_methodNamed Bd.named, (name_of_methodNamed Bd.named Bd.method).1⟩, ⟨(State.WarmedH.refl s).since _, Nat.le_refl _, hE, by rw [hh]; exact CHr.refl hC, hs, hK⟩, [], 0, 0, X0, e0, Fr.nil _, Nat.le_refl _, Nat.le_refl _⟩
  exact ⟨s2, o, castTop (hf m) h1, h2, h3, v, L, h4, ⟨sfn, h5, h6, h7⟩, h8, h9⟩
theorem leaveQ (X : Sd kn Z a0 EL y bytes maxL ret p l e R s m args below meth c n0 sf h kc ks T) {v : Option Value} (hv : ret = none → v = none) (hq : Q v h sf) (h1 : kc ≤ fc) (h2 : ks ≤ fs) {t : State}
    (st : ∀ {s' : State} {locs cells slots}, Stand p l e R s' m args below meth c T locs cells slots → ∀ {ff : List Frame}, (∀ (f : JFrame) (acts : List Action), f.method = m → f.locked = none → f.entered = [] → (doReturn e (T.setTop f) acts v).1 = T.setFrames ff) → Steps p.tables e below t (T.setFrames ff)) : Run Z EL p e below s n0 fc fs Q t := by
  obtain ⟨vm0, k0, q, ⟨hS, hk, hE, hC, hs, hkn⟩, L, i, j, Y, r1, r2, r3, r4⟩ := X
  obtain ⟨ff, g1, hrun, hended, w1, w2, w3, w4⟩ := Y.leaveW hS (by rw [r1]; exact hk) (v := v) (fun z => hv (q.2.2.2.2.1 ▸ z)) q.2.2.2.2.2.1
  have hA := CHv.at Y q.2.1 hE hC.1
  refine ⟨_, _, st Y g1, hrun, hended, v, L, sf, rfl, by show Q v T.heap sf; rw [r1]; exact hq, ?_, r2, ?_, w1, w2, w3, w4.mono (Nat.le_trans r3 h1) (Nat.le_trans r4 h2)⟩
  · intro x hx
    show Safe Z EL T.vm T.heap x ∧ x < T.heap.size
    rw [r1]
    exact ⟨hA.safe (hs x hx).2 (hs x hx).1, (hs x hx).2⟩
  · show CHr Z EL s.vm s.heap T.vm T.heap
    rw [r1]
    exact hC.trans hA
theorem areturn (X : Sd kn Z a0 EL y bytes maxL ret p l e R s m args below meth c n0 sf h kc ks T) {t : FieldType} (hr : ret = some t) (ht : t.isReference = true) {pc : Nat} {ls : Array Slot} {w : Value} {st : List Value} (hw : w.isRef = true) (hd : decode bytes pc = .ok (.areturn, 1)) {Qv : Value → Heap → List Addr → Prop} (hq : Qv w h sf) (h1 : kc ≤ fc) (h2 : ks ≤ fs) : Run Z EL p e below s n0 fc fs (Rt Qv) (T.setTop (mkF m pc ls (w :: st))) := by
  subst hr
  have hn : narrow t w = w := by cases w <;> cases t <;> first | rfl | exact absurd hw Bool.noConfusion | exact absurd ht Bool.noConfusion
  exact leaveQ X (v := some w) (fun q => by cases q) ⟨w, rfl, hq⟩ h1 h2 fun Y _ g => retOut Y X.x X.rt hn (Or.inr (Or.inr (Or.inr (Or.inr ⟨rfl, ht, hw⟩)))) (X.dc hd) g
theorem ireturn (X : Sd kn Z a0 EL y bytes maxL ret p l e R s m args below meth c n0 sf h kc ks T) {t : FieldType} (hr : ret = some t) (ht : t = .int ∨ t = .boolean ∨ t = .byte ∨ t = .char ∨ t = .short) {pc : Nat} {ls : Array Slot} {z : Int32} {st : List Value} (hn : narrow t (.int z) = .int z) (hd : decode bytes pc = .ok (.ireturn, 1)) {Qv : Value → Heap → List Addr → Prop} (hq : Qv (.int z) h sf) (h1 : kc ≤ fc) (h2 : ks ≤ fs) : Run Z EL p e below s n0 fc fs (Rt Qv) (T.setTop (mkF m pc ls (.int z :: st))) := by
  subst hr
  exact leaveQ X (v := some (.int z)) (fun q => by cases q) ⟨_, rfl, hq⟩ h1 h2 fun Y _ g => retOut Y X.x X.rt hn (Or.inl ⟨rfl, ht, z, rfl⟩) (X.dc hd) g
theorem ireturnN (X : Sd kn Z a0 EL y bytes maxL ret p l e R s m args below meth c n0 sf h kc ks T) {t : FieldType} (hr : ret = some t) (ht : t = .boolean ∨ t = .byte ∨ t = .char ∨ t = .short) {pc : Nat} {ls : Array Slot} {z z' : Int32} {st : List Value} (hn : nar t z = z') (hd : decode bytes pc = .ok (.ireturn, 1)) {Qv : Value → Heap → List Addr → Prop} (hq : Qv (.int z') h sf) (h1 : kc ≤ fc) (h2 : ks ≤ fs) : Run Z EL p e below s n0 fc fs (Rt Qv) (T.setTop (mkF m pc ls (.int z :: st))) := by
  subst hr hn
  exact leaveQ X (v := some (.int (nar t z))) (fun q => by cases q) ⟨_, rfl, hq⟩ h1 h2 fun Y _ g => retN Y X.x X.rt ht (X.dc hd) g
theorem vreturn (X : Sd kn Z a0 EL y bytes maxL ret p l e R s m args below meth c n0 sf h kc ks T) (hr : ret = none) {pc : Nat} {ls : Array Slot} (hd : decode bytes pc = .ok (.return_, 1)) {Qn : Heap → List Addr → Prop} (hq : Qn h sf) (h1 : kc ≤ fc) (h2 : ks ≤ fs) : Run Z EL p e below s n0 fc fs (Rn Qn) (T.setTop (mkF m pc ls [])) := by
  subst hr
  exact leaveQ X (v := none) (fun _ => rfl) ⟨rfl, hq⟩ h1 h2 fun Y _ g => Y.returnOut X.x X.rt (X.dc hd) g
theorem iloadN (X : Sd kn Z a0 EL y bytes maxL ret p l e R s m args below meth c n0 sf h kc ks T) {pc n : Nat} {ls : Array Slot} {st : List Value} {k : Fin 4} {v : Int32} (hd : decode bytes pc = .ok (.iload_n k, 1)) (hl : ls[k.val]? = some (.val (.int v))) (hn : pc + 1 = n) (K : Run Z EL p e below s n0 fc fs Q (T.setTop (mkF m n ls (.int v :: st)))) : Run Z EL p e below s n0 fc fs Q (T.setTop (mkF m pc ls st)) := by
  subst hn; exact K.st fun _ k => XS.iloadN X.hr X.x rfl (X.dc hd) hl k
theorem iload (X : Sd kn Z a0 EL y bytes maxL ret p l e R s m args below meth c n0 sf h kc ks T) {pc n : Nat} {ls : Array Slot} {st : List Value} {j : Nat} {v : Int32} (hd : decode bytes pc = .ok (.iload j, 2)) (hl : ls[j]? = some (.val (.int v))) (hn : pc + 2 = n) (K : Run Z EL p e below s n0 fc fs Q (T.setTop (mkF m n ls (.int v :: st)))) : Run Z EL p e below s n0 fc fs Q (T.setTop (mkF m pc ls st)) := by
  subst hn; exact K.st fun _ k => XS.iload X.hr X.x rfl (X.dc hd) hl k
theorem istoreN (X : Sd kn Z a0 EL y bytes maxL ret p l e R s m args below meth c n0 sf h kc ks T) {pc n : Nat} {ls : Array Slot} {st : List Value} {k : Fin 4} {v : Int32} {l' : Array Slot} (hd : decode bytes pc = .ok (.istore_n k, 1)) (hl : storeLocals ls k.val (.int v) = some l') (hn : pc + 1 = n) (K : Run Z EL p e below s n0 fc fs Q (T.setTop (mkF m n l' st))) : Run Z EL p e below s n0 fc fs Q (T.setTop (mkF m pc ls (.int v :: st))) := by
  subst hn; exact K.st fun _ k => XS.istoreN X.hr X.x rfl (X.dc hd) rfl hl k
theorem istore (X : Sd kn Z a0 EL y bytes maxL ret p l e R s m args below meth c n0 sf h kc ks T) {pc n : Nat} {ls : Array Slot} {st : List Value} {j : Nat} {v : Int32} {l' : Array Slot} (hd : decode bytes pc = .ok (.istore j, 2)) (hl : storeLocals ls j (.int v) = some l') (hn : pc + 2 = n) (K : Run Z EL p e below s n0 fc fs Q (T.setTop (mkF m n l' st))) : Run Z EL p e below s n0 fc fs Q (T.setTop (mkF m pc ls (.int v :: st))) := by
  subst hn; exact K.st fun _ k => XS.istore X.hr X.x rfl (X.dc hd) rfl hl k
theorem lloadN (X : Sd kn Z a0 EL y bytes maxL ret p l e R s m args below meth c n0 sf h kc ks T) {pc n : Nat} {ls : Array Slot} {st : List Value} {k : Fin 4} {v : Int64} (hd : decode bytes pc = .ok (.lload_n k, 1)) (hl : ls[k.val]? = some (.val (.long v))) (hn : pc + 1 = n) (K : Run Z EL p e below s n0 fc fs Q (T.setTop (mkF m n ls (.long v :: st)))) : Run Z EL p e below s n0 fc fs Q (T.setTop (mkF m pc ls st)) := by
  subst hn; exact K.st fun _ k => XS.lloadN X.hr X.x rfl (X.dc hd) hl k
theorem lload (X : Sd kn Z a0 EL y bytes maxL ret p l e R s m args below meth c n0 sf h kc ks T) {pc n : Nat} {ls : Array Slot} {st : List Value} {j : Nat} {v : Int64} (hd : decode bytes pc = .ok (.lload j, 2)) (hl : ls[j]? = some (.val (.long v))) (hn : pc + 2 = n) (K : Run Z EL p e below s n0 fc fs Q (T.setTop (mkF m n ls (.long v :: st)))) : Run Z EL p e below s n0 fc fs Q (T.setTop (mkF m pc ls st)) := by
  subst hn; exact K.st fun _ k => XS.lload X.hr X.x rfl (X.dc hd) hl k
theorem lstoreN (X : Sd kn Z a0 EL y bytes maxL ret p l e R s m args below meth c n0 sf h kc ks T) {pc n : Nat} {ls : Array Slot} {st : List Value} {k : Fin 4} {v : Int64} {l' : Array Slot} (hd : decode bytes pc = .ok (.lstore_n k, 1)) (hl : storeLocals ls k.val (.long v) = some l') (hn : pc + 1 = n) (K : Run Z EL p e below s n0 fc fs Q (T.setTop (mkF m n l' st))) : Run Z EL p e below s n0 fc fs Q (T.setTop (mkF m pc ls (.long v :: st))) := by
  subst hn; exact K.st fun _ k => XS.lstoreN X.hr X.x rfl (X.dc hd) rfl hl k
theorem lstore (X : Sd kn Z a0 EL y bytes maxL ret p l e R s m args below meth c n0 sf h kc ks T) {pc n : Nat} {ls : Array Slot} {st : List Value} {j : Nat} {v : Int64} {l' : Array Slot} (hd : decode bytes pc = .ok (.lstore j, 2)) (hl : storeLocals ls j (.long v) = some l') (hn : pc + 2 = n) (K : Run Z EL p e below s n0 fc fs Q (T.setTop (mkF m n l' st))) : Run Z EL p e below s n0 fc fs Q (T.setTop (mkF m pc ls (.long v :: st))) := by
  subst hn; exact K.st fun _ k => XS.lstore X.hr X.x rfl (X.dc hd) rfl hl k
theorem aloadN (X : Sd kn Z a0 EL y bytes maxL ret p l e R s m args below meth c n0 sf h kc ks T) {pc n : Nat} {ls : Array Slot} {st : List Value} {k : Fin 4} {v : Value} (hd : decode bytes pc = .ok (.aload_n k, 1)) (hl : ls[k.val]? = some (.val v)) (hv : v.isRef = true) (hn : pc + 1 = n) (K : Run Z EL p e below s n0 fc fs Q (T.setTop (mkF m n ls (v :: st)))) : Run Z EL p e below s n0 fc fs Q (T.setTop (mkF m pc ls st)) := by
  subst hn; exact K.st fun _ k => XS.aloadN X.hr X.x rfl (X.dc hd) hl hv k
theorem aload (X : Sd kn Z a0 EL y bytes maxL ret p l e R s m args below meth c n0 sf h kc ks T) {pc n : Nat} {ls : Array Slot} {st : List Value} {j : Nat} {v : Value} (hd : decode bytes pc = .ok (.aload j, 2)) (hl : ls[j]? = some (.val v)) (hv : v.isRef = true) (hn : pc + 2 = n) (K : Run Z EL p e below s n0 fc fs Q (T.setTop (mkF m n ls (v :: st)))) : Run Z EL p e below s n0 fc fs Q (T.setTop (mkF m pc ls st)) := by
  subst hn; exact K.st fun _ k => XS.aload X.hr X.x rfl (X.dc hd) hl hv k
theorem astoreN (X : Sd kn Z a0 EL y bytes maxL ret p l e R s m args below meth c n0 sf h kc ks T) {pc n : Nat} {ls : Array Slot} {st : List Value} {k : Fin 4} {v : Value} {l' : Array Slot} (hd : decode bytes pc = .ok (.astore_n k, 1)) (hv : v.isRef = true) (hl : storeLocals ls k.val v = some l') (hn : pc + 1 = n) (K : Run Z EL p e below s n0 fc fs Q (T.setTop (mkF m n l' st))) : Run Z EL p e below s n0 fc fs Q (T.setTop (mkF m pc ls (v :: st))) := by
  subst hn; exact K.st fun _ k => XS.astoreN X.hr X.x rfl (X.dc hd) rfl hv hl k
theorem astore (X : Sd kn Z a0 EL y bytes maxL ret p l e R s m args below meth c n0 sf h kc ks T) {pc n : Nat} {ls : Array Slot} {st : List Value} {j : Nat} {v : Value} {l' : Array Slot} (hd : decode bytes pc = .ok (.astore j, 2)) (hv : v.isRef = true) (hl : storeLocals ls j v = some l') (hn : pc + 2 = n) (K : Run Z EL p e below s n0 fc fs Q (T.setTop (mkF m n l' st))) : Run Z EL p e below s n0 fc fs Q (T.setTop (mkF m pc ls (v :: st))) := by
  subst hn; exact K.st fun _ k => XS.astore X.hr X.x rfl (X.dc hd) rfl hv hl k
theorem iconst (X : Sd kn Z a0 EL y bytes maxL ret p l e R s m args below meth c n0 sf h kc ks T) {pc n : Nat} {ls : Array Slot} {st : List Value} {i : Int} {z : Int32} (hd : decode bytes pc = .ok (.iconst i, 1)) (hz : Int32.ofInt i = z) (hn : pc + 1 = n) (K : Run Z EL p e below s n0 fc fs Q (T.setTop (mkF m n ls (.int z :: st)))) : Run Z EL p e below s n0 fc fs Q (T.setTop (mkF m pc ls st)) := by
  subst hn hz; exact K.st fun _ k => XS.iconst X.hr X.x rfl (X.dc hd) k
theorem bipush (X : Sd kn Z a0 EL y bytes maxL ret p l e R s m args below meth c n0 sf h kc ks T) {pc n : Nat} {ls : Array Slot} {st : List Value} {i : Int} {z : Int32} (hd : decode bytes pc = .ok (.bipush i, 2)) (hz : (Int8.ofInt i).toInt32 = z) (hn : pc + 2 = n) (K : Run Z EL p e below s n0 fc fs Q (T.setTop (mkF m n ls (.int z :: st)))) : Run Z EL p e below s n0 fc fs Q (T.setTop (mkF m pc ls st)) := by
  subst hn hz; exact K.st fun _ k => XS.bipush X.hr X.x rfl (X.dc hd) k
theorem sipush (X : Sd kn Z a0 EL y bytes maxL ret p l e R s m args below meth c n0 sf h kc ks T) {pc n : Nat} {ls : Array Slot} {st : List Value} {i : Int} {z : Int32} (hd : decode bytes pc = .ok (.sipush i, 3)) (hz : (Int16.ofInt i).toInt32 = z) (hn : pc + 3 = n) (K : Run Z EL p e below s n0 fc fs Q (T.setTop (mkF m n ls (.int z :: st)))) : Run Z EL p e below s n0 fc fs Q (T.setTop (mkF m pc ls st)) := by
  subst hn hz; exact K.st fun _ k => XS.sipush X.hr X.x rfl (X.dc hd) k
theorem anull (X : Sd kn Z a0 EL y bytes maxL ret p l e R s m args below meth c n0 sf h kc ks T) {pc n : Nat} {ls : Array Slot} {st : List Value}  (hd : decode bytes pc = .ok (.aconst_null, 1)) (hn : pc + 1 = n) (K : Run Z EL p e below s n0 fc fs Q (T.setTop (mkF m n ls (.null :: st)))) : Run Z EL p e below s n0 fc fs Q (T.setTop (mkF m pc ls st)) := by
  subst hn; exact K.st fun _ k => XS.aconstNull X.hr X.x rfl (X.dc hd) k
theorem iadd (X : Sd kn Z a0 EL y bytes maxL ret p l e R s m args below meth c n0 sf h kc ks T) {pc n : Nat} {ls : Array Slot} {st : List Value} {u v : Int32} (hd : decode bytes pc = .ok (.iadd, 1)) (hn : pc + 1 = n) (K : Run Z EL p e below s n0 fc fs Q (T.setTop (mkF m n ls (.int (u + v) :: st)))) : Run Z EL p e below s n0 fc fs Q (T.setTop (mkF m pc ls (.int v :: .int u :: st))) := by
  subst hn; exact K.st fun _ k => XS.iadd X.hr X.x rfl (X.dc hd) rfl k
theorem ladd (X : Sd kn Z a0 EL y bytes maxL ret p l e R s m args below meth c n0 sf h kc ks T) {pc n : Nat} {ls : Array Slot} {st : List Value} {u v : Int64} (hd : decode bytes pc = .ok (.ladd, 1)) (hn : pc + 1 = n) (K : Run Z EL p e below s n0 fc fs Q (T.setTop (mkF m n ls (.long (u + v) :: st)))) : Run Z EL p e below s n0 fc fs Q (T.setTop (mkF m pc ls (.long v :: .long u :: st))) := by
  subst hn; exact K.st fun _ k => XS.ladd X.hr X.x rfl (X.dc hd) rfl k
theorem isub (X : Sd kn Z a0 EL y bytes maxL ret p l e R s m args below meth c n0 sf h kc ks T) {pc n : Nat} {ls : Array Slot} {st : List Value} {u v : Int32} (hd : decode bytes pc = .ok (.isub, 1)) (hn : pc + 1 = n) (K : Run Z EL p e below s n0 fc fs Q (T.setTop (mkF m n ls (.int (u - v) :: st)))) : Run Z EL p e below s n0 fc fs Q (T.setTop (mkF m pc ls (.int v :: .int u :: st))) := by
  subst hn; exact K.st fun _ k => XS.isub X.hr X.x rfl (X.dc hd) rfl k
theorem lsub (X : Sd kn Z a0 EL y bytes maxL ret p l e R s m args below meth c n0 sf h kc ks T) {pc n : Nat} {ls : Array Slot} {st : List Value} {u v : Int64} (hd : decode bytes pc = .ok (.lsub, 1)) (hn : pc + 1 = n) (K : Run Z EL p e below s n0 fc fs Q (T.setTop (mkF m n ls (.long (u - v) :: st)))) : Run Z EL p e below s n0 fc fs Q (T.setTop (mkF m pc ls (.long v :: .long u :: st))) := by
  subst hn; exact K.st fun _ k => XS.lsub X.hr X.x rfl (X.dc hd) rfl k
theorem imul (X : Sd kn Z a0 EL y bytes maxL ret p l e R s m args below meth c n0 sf h kc ks T) {pc n : Nat} {ls : Array Slot} {st : List Value} {u v : Int32} (hd : decode bytes pc = .ok (.imul, 1)) (hn : pc + 1 = n) (K : Run Z EL p e below s n0 fc fs Q (T.setTop (mkF m n ls (.int (u * v) :: st)))) : Run Z EL p e below s n0 fc fs Q (T.setTop (mkF m pc ls (.int v :: .int u :: st))) := by
  subst hn; exact K.st fun _ k => XS.imul X.hr X.x rfl (X.dc hd) rfl k
theorem lmul (X : Sd kn Z a0 EL y bytes maxL ret p l e R s m args below meth c n0 sf h kc ks T) {pc n : Nat} {ls : Array Slot} {st : List Value} {u v : Int64} (hd : decode bytes pc = .ok (.lmul, 1)) (hn : pc + 1 = n) (K : Run Z EL p e below s n0 fc fs Q (T.setTop (mkF m n ls (.long (u * v) :: st)))) : Run Z EL p e below s n0 fc fs Q (T.setTop (mkF m pc ls (.long v :: .long u :: st))) := by
  subst hn; exact K.st fun _ k => XS.lmul X.hr X.x rfl (X.dc hd) rfl k
theorem iand (X : Sd kn Z a0 EL y bytes maxL ret p l e R s m args below meth c n0 sf h kc ks T) {pc n : Nat} {ls : Array Slot} {st : List Value} {u v : Int32} (hd : decode bytes pc = .ok (.iand, 1)) (hn : pc + 1 = n) (K : Run Z EL p e below s n0 fc fs Q (T.setTop (mkF m n ls (.int (u &&& v) :: st)))) : Run Z EL p e below s n0 fc fs Q (T.setTop (mkF m pc ls (.int v :: .int u :: st))) := by
  subst hn; exact K.st fun _ k => XS.iand X.hr X.x rfl (X.dc hd) rfl k
theorem land (X : Sd kn Z a0 EL y bytes maxL ret p l e R s m args below meth c n0 sf h kc ks T) {pc n : Nat} {ls : Array Slot} {st : List Value} {u v : Int64} (hd : decode bytes pc = .ok (.land, 1)) (hn : pc + 1 = n) (K : Run Z EL p e below s n0 fc fs Q (T.setTop (mkF m n ls (.long (u &&& v) :: st)))) : Run Z EL p e below s n0 fc fs Q (T.setTop (mkF m pc ls (.long v :: .long u :: st))) := by
  subst hn; exact K.st fun _ k => XS.land X.hr X.x rfl (X.dc hd) rfl k
theorem ior (X : Sd kn Z a0 EL y bytes maxL ret p l e R s m args below meth c n0 sf h kc ks T) {pc n : Nat} {ls : Array Slot} {st : List Value} {u v : Int32} (hd : decode bytes pc = .ok (.ior, 1)) (hn : pc + 1 = n) (K : Run Z EL p e below s n0 fc fs Q (T.setTop (mkF m n ls (.int (u ||| v) :: st)))) : Run Z EL p e below s n0 fc fs Q (T.setTop (mkF m pc ls (.int v :: .int u :: st))) := by
  subst hn; exact K.st fun _ k => XS.ior X.hr X.x rfl (X.dc hd) rfl k
theorem lor (X : Sd kn Z a0 EL y bytes maxL ret p l e R s m args below meth c n0 sf h kc ks T) {pc n : Nat} {ls : Array Slot} {st : List Value} {u v : Int64} (hd : decode bytes pc = .ok (.lor, 1)) (hn : pc + 1 = n) (K : Run Z EL p e below s n0 fc fs Q (T.setTop (mkF m n ls (.long (u ||| v) :: st)))) : Run Z EL p e below s n0 fc fs Q (T.setTop (mkF m pc ls (.long v :: .long u :: st))) := by
  subst hn; exact K.st fun _ k => XS.lor X.hr X.x rfl (X.dc hd) rfl k
theorem ixor (X : Sd kn Z a0 EL y bytes maxL ret p l e R s m args below meth c n0 sf h kc ks T) {pc n : Nat} {ls : Array Slot} {st : List Value} {u v : Int32} (hd : decode bytes pc = .ok (.ixor, 1)) (hn : pc + 1 = n) (K : Run Z EL p e below s n0 fc fs Q (T.setTop (mkF m n ls (.int (u ^^^ v) :: st)))) : Run Z EL p e below s n0 fc fs Q (T.setTop (mkF m pc ls (.int v :: .int u :: st))) := by
  subst hn; exact K.st fun _ k => XS.ixor X.hr X.x rfl (X.dc hd) rfl k
theorem lxor (X : Sd kn Z a0 EL y bytes maxL ret p l e R s m args below meth c n0 sf h kc ks T) {pc n : Nat} {ls : Array Slot} {st : List Value} {u v : Int64} (hd : decode bytes pc = .ok (.lxor, 1)) (hn : pc + 1 = n) (K : Run Z EL p e below s n0 fc fs Q (T.setTop (mkF m n ls (.long (u ^^^ v) :: st)))) : Run Z EL p e below s n0 fc fs Q (T.setTop (mkF m pc ls (.long v :: .long u :: st))) := by
  subst hn; exact K.st fun _ k => XS.lxor X.hr X.x rfl (X.dc hd) rfl k
theorem ishl (X : Sd kn Z a0 EL y bytes maxL ret p l e R s m args below meth c n0 sf h kc ks T) {pc n : Nat} {ls : Array Slot} {st : List Value} {u v : Int32} (hd : decode bytes pc = .ok (.ishl, 1)) (hn : pc + 1 = n) (K : Run Z EL p e below s n0 fc fs Q (T.setTop (mkF m n ls (.int (u <<< (v &&& 31)) :: st)))) : Run Z EL p e below s n0 fc fs Q (T.setTop (mkF m pc ls (.int v :: .int u :: st))) := by
  subst hn; exact K.st fun _ k => XS.ishl X.hr X.x rfl (X.dc hd) rfl k
theorem ishr (X : Sd kn Z a0 EL y bytes maxL ret p l e R s m args below meth c n0 sf h kc ks T) {pc n : Nat} {ls : Array Slot} {st : List Value} {u v : Int32} (hd : decode bytes pc = .ok (.ishr, 1)) (hn : pc + 1 = n) (K : Run Z EL p e below s n0 fc fs Q (T.setTop (mkF m n ls (.int (u >>> (v &&& 31)) :: st)))) : Run Z EL p e below s n0 fc fs Q (T.setTop (mkF m pc ls (.int v :: .int u :: st))) := by
  subst hn; exact K.st fun _ k => XS.ishr X.hr X.x rfl (X.dc hd) rfl k
theorem iushr (X : Sd kn Z a0 EL y bytes maxL ret p l e R s m args below meth c n0 sf h kc ks T) {pc n : Nat} {ls : Array Slot} {st : List Value} {u v : Int32} (hd : decode bytes pc = .ok (.iushr, 1)) (hn : pc + 1 = n) (K : Run Z EL p e below s n0 fc fs Q (T.setTop (mkF m n ls (.int ((u.toUInt32 >>> (v &&& 31).toUInt32).toInt32) :: st)))) : Run Z EL p e below s n0 fc fs Q (T.setTop (mkF m pc ls (.int v :: .int u :: st))) := by
  subst hn; exact K.st fun _ k => XS.iushr X.hr X.x rfl (X.dc hd) rfl k
theorem lshl (X : Sd kn Z a0 EL y bytes maxL ret p l e R s m args below meth c n0 sf h kc ks T) {pc n : Nat} {ls : Array Slot} {st : List Value} {u : Int64} {v : Int32} (hd : decode bytes pc = .ok (.lshl, 1)) (hn : pc + 1 = n) (K : Run Z EL p e below s n0 fc fs Q (T.setTop (mkF m n ls (.long (u <<< (v &&& 0x3f).toInt64) :: st)))) : Run Z EL p e below s n0 fc fs Q (T.setTop (mkF m pc ls (.int v :: .long u :: st))) := by
  subst hn; exact K.st fun _ k => XS.lshl X.hr X.x rfl (X.dc hd) rfl k
theorem lshr (X : Sd kn Z a0 EL y bytes maxL ret p l e R s m args below meth c n0 sf h kc ks T) {pc n : Nat} {ls : Array Slot} {st : List Value} {u : Int64} {v : Int32} (hd : decode bytes pc = .ok (.lshr, 1)) (hn : pc + 1 = n) (K : Run Z EL p e below s n0 fc fs Q (T.setTop (mkF m n ls (.long (u >>> (v &&& 0x3f).toInt64) :: st)))) : Run Z EL p e below s n0 fc fs Q (T.setTop (mkF m pc ls (.int v :: .long u :: st))) := by
  subst hn; exact K.st fun _ k => XS.lshr X.hr X.x rfl (X.dc hd) rfl k
theorem lushr (X : Sd kn Z a0 EL y bytes maxL ret p l e R s m args below meth c n0 sf h kc ks T) {pc n : Nat} {ls : Array Slot} {st : List Value} {u : Int64} {v : Int32} (hd : decode bytes pc = .ok (.lushr, 1)) (hn : pc + 1 = n) (K : Run Z EL p e below s n0 fc fs Q (T.setTop (mkF m n ls (.long ((u.toUInt64 >>> (v &&& 0x3f).toInt64.toUInt64).toInt64) :: st)))) : Run Z EL p e below s n0 fc fs Q (T.setTop (mkF m pc ls (.int v :: .long u :: st))) := by
  subst hn; exact K.st fun _ k => XS.lushr X.hr X.x rfl (X.dc hd) rfl k
theorem ineg (X : Sd kn Z a0 EL y bytes maxL ret p l e R s m args below meth c n0 sf h kc ks T) {pc n : Nat} {ls : Array Slot} {st : List Value} {u : Int32} (hd : decode bytes pc = .ok (.ineg, 1)) (hn : pc + 1 = n) (K : Run Z EL p e below s n0 fc fs Q (T.setTop (mkF m n ls (.int (-u) :: st)))) : Run Z EL p e below s n0 fc fs Q (T.setTop (mkF m pc ls (.int u :: st))) := by
  subst hn; exact K.st fun _ k => XS.ineg X.hr X.x rfl (X.dc hd) rfl k
theorem i2l (X : Sd kn Z a0 EL y bytes maxL ret p l e R s m args below meth c n0 sf h kc ks T) {pc n : Nat} {ls : Array Slot} {st : List Value} {u : Int32} (hd : decode bytes pc = .ok (.i2l, 1)) (hn : pc + 1 = n) (K : Run Z EL p e below s n0 fc fs Q (T.setTop (mkF m n ls (.long u.toInt64 :: st)))) : Run Z EL p e below s n0 fc fs Q (T.setTop (mkF m pc ls (.int u :: st))) := by
  subst hn; exact K.st fun _ k => XS.i2l X.hr X.x rfl (X.dc hd) rfl k
theorem l2i (X : Sd kn Z a0 EL y bytes maxL ret p l e R s m args below meth c n0 sf h kc ks T) {pc n : Nat} {ls : Array Slot} {st : List Value} {u : Int64} (hd : decode bytes pc = .ok (.l2i, 1)) (hn : pc + 1 = n) (K : Run Z EL p e below s n0 fc fs Q (T.setTop (mkF m n ls (.int u.toInt32 :: st)))) : Run Z EL p e below s n0 fc fs Q (T.setTop (mkF m pc ls (.long u :: st))) := by
  subst hn; exact K.st fun _ k => XS.l2i X.hr X.x rfl (X.dc hd) rfl k
theorem i2b (X : Sd kn Z a0 EL y bytes maxL ret p l e R s m args below meth c n0 sf h kc ks T) {pc n : Nat} {ls : Array Slot} {st : List Value} {u : Int32} (hd : decode bytes pc = .ok (.i2b, 1)) (hn : pc + 1 = n) (K : Run Z EL p e below s n0 fc fs Q (T.setTop (mkF m n ls (.int u.toInt8.toInt32 :: st)))) : Run Z EL p e below s n0 fc fs Q (T.setTop (mkF m pc ls (.int u :: st))) := by
  subst hn; exact K.st fun _ k => XS.i2b X.hr X.x rfl (X.dc hd) rfl k
theorem i2s (X : Sd kn Z a0 EL y bytes maxL ret p l e R s m args below meth c n0 sf h kc ks T) {pc n : Nat} {ls : Array Slot} {st : List Value} {u : Int32} (hd : decode bytes pc = .ok (.i2s, 1)) (hn : pc + 1 = n) (K : Run Z EL p e below s n0 fc fs Q (T.setTop (mkF m n ls (.int u.toInt16.toInt32 :: st)))) : Run Z EL p e below s n0 fc fs Q (T.setTop (mkF m pc ls (.int u :: st))) := by
  subst hn; exact K.st fun _ k => XS.i2s X.hr X.x rfl (X.dc hd) rfl k
theorem i2c (X : Sd kn Z a0 EL y bytes maxL ret p l e R s m args below meth c n0 sf h kc ks T) {pc n : Nat} {ls : Array Slot} {st : List Value} {u : Int32} (hd : decode bytes pc = .ok (.i2c, 1)) (hn : pc + 1 = n) (K : Run Z EL p e below s n0 fc fs Q (T.setTop (mkF m n ls (.int u.toUInt32.toUInt16.toUInt32.toInt32 :: st)))) : Run Z EL p e below s n0 fc fs Q (T.setTop (mkF m pc ls (.int u :: st))) := by
  subst hn; exact K.st fun _ k => XS.i2c X.hr X.x rfl (X.dc hd) rfl k
theorem lcmp (X : Sd kn Z a0 EL y bytes maxL ret p l e R s m args below meth c n0 sf h kc ks T) {pc n : Nat} {ls : Array Slot} {st : List Value} {u v : Int64} (hd : decode bytes pc = .ok (.lcmp, 1)) (hn : pc + 1 = n) (K : Run Z EL p e below s n0 fc fs Q (T.setTop (mkF m n ls (.int (lcmpW u v) :: st)))) : Run Z EL p e below s n0 fc fs Q (T.setTop (mkF m pc ls (.long v :: .long u :: st))) := by
  subst hn; exact K.st fun _ k => XS.lcmp X.hr X.x rfl (X.dc hd) rfl k
theorem irem (X : Sd kn Z a0 EL y bytes maxL ret p l e R s m args below meth c n0 sf h kc ks T) {pc n : Nat} {ls : Array Slot} {st : List Value} {u v : Int32} (hd : decode bytes pc = .ok (.irem, 1)) (hv : v ≠ 0) (hn : pc + 1 = n) (K : Run Z EL p e below s n0 fc fs Q (T.setTop (mkF m n ls (.int (u % v) :: st)))) : Run Z EL p e below s n0 fc fs Q (T.setTop (mkF m pc ls (.int v :: .int u :: st))) := by
  subst hn; obtain ⟨s', L, i, j, Y, -⟩ := X.op; exact K.st fun _ k => iremM Y X.x rfl (X.dc hd) rfl hv k
theorem idiv (X : Sd kn Z a0 EL y bytes maxL ret p l e R s m args below meth c n0 sf h kc ks T) {pc n : Nat} {ls : Array Slot} {st : List Value} {u v : Int32} (hd : decode bytes pc = .ok (.idiv, 1)) (hv : v ≠ 0) (hn : pc + 1 = n) (K : Run Z EL p e below s n0 fc fs Q (T.setTop (mkF m n ls (.int (u / v) :: st)))) : Run Z EL p e below s n0 fc fs Q (T.setTop (mkF m pc ls (.int v :: .int u :: st))) := by
  subst hn; exact K.st fun _ k => XS.idiv X.hr X.x rfl (X.dc hd) rfl hv k
theorem dup (X : Sd kn Z a0 EL y bytes maxL ret p l e R s m args below meth c n0 sf h kc ks T) {pc n : Nat} {ls : Array Slot} {st : List Value} {v : Value} (hd : decode bytes pc = .ok (.dup, 1)) (hc : v.category = 1) (hn : pc + 1 = n) (K : Run Z EL p e below s n0 fc fs Q (T.setTop (mkF m n ls (v :: v :: st)))) : Run Z EL p e below s n0 fc fs Q (T.setTop (mkF m pc ls (v :: st))) := by
  subst hn; exact K.st fun _ k => XS.dup X.hr X.x rfl (X.dc hd) rfl hc k
theorem pop (X : Sd kn Z a0 EL y bytes maxL ret p l e R s m args below meth c n0 sf h kc ks T) {pc n : Nat} {ls : Array Slot} {st : List Value} {v : Value} (hd : decode bytes pc = .ok (.pop, 1)) (hc : v.category = 1) (hn : pc + 1 = n) (K : Run Z EL p e below s n0 fc fs Q (T.setTop (mkF m n ls st))) : Run Z EL p e below s n0 fc fs Q (T.setTop (mkF m pc ls (v :: st))) := by
  subst hn; exact K.st fun _ k => XS.pop X.hr X.x rfl (X.dc hd) rfl hc k
theorem dupX1 (X : Sd kn Z a0 EL y bytes maxL ret p l e R s m args below meth c n0 sf h kc ks T) {pc n : Nat} {ls : Array Slot} {st : List Value} {u v : Value} (hd : decode bytes pc = .ok (.dup_x1, 1)) (hc : u.category = 1) (hc' : v.category = 1) (hn : pc + 1 = n) (K : Run Z EL p e below s n0 fc fs Q (T.setTop (mkF m n ls (u :: v :: u :: st)))) : Run Z EL p e below s n0 fc fs Q (T.setTop (mkF m pc ls (u :: v :: st))) := by
  subst hn; exact K.st fun _ k => XS.dupX1 X.hr X.x rfl (X.dc hd) rfl hc hc' k
theorem iinc (X : Sd kn Z a0 EL y bytes maxL ret p l e R s m args below meth c n0 sf h kc ks T) {pc n j : Nat} {ls l' : Array Slot} {st : List Value} {i : Int} {z v u : Int32} (hd : decode bytes pc = .ok (.iinc j i, 3)) (hz : Int32.ofInt i = z) (hl : ls[j]? = some (.val (.int v))) (hu : v + z = u) (hl' : storeLocals ls j (.int u) = some l') (hn : pc + 3 = n) (K : Run Z EL p e below s n0 fc fs Q (T.setTop (mkF m n l' st))) : Run Z EL p e below s n0 fc fs Q (T.setTop (mkF m pc ls st)) := by
  subst hn hz hu; exact K.st fun _ k => XS.iinc X.hr X.x rfl (X.dc hd) hl hl' k
theorem ldc (X : Sd kn Z a0 EL y bytes maxL ret p l e R s m args below meth c n0 sf h kc ks T) {pc n index : Nat} {ls : Array Slot} {st : List Value} {v : Int32} (hd : decode bytes pc = .ok (.ldc index, 2)) (w : (Cond.constant y.cls index v).before a0 Z = true) (hn : pc + 2 = n) (K : Run Z EL p e below s n0 fc fs Q (T.setTop (mkF m n ls (.int v :: st)))) : Run Z EL p e below s n0 fc fs Q (T.setTop (mkF m pc ls st)) := by
  subst hn; obtain ⟨s', L, i, j, Y, r1, hZ, hown, -⟩ := X.op; exact K.st fun _ k => Y.ldcInt X.x hown (mvT hZ w) (g := mkF m pc ls st) rfl (X.dc hd) _ k
theorem ldc2 (X : Sd kn Z a0 EL y bytes maxL ret p l e R s m args below meth c n0 sf h kc ks T) {pc n index : Nat} {ls : Array Slot} {st : List Value} {v : Int64} (hd : decode bytes pc = .ok (.ldc2_w index, 3)) (w : (Cond.constantLong y.cls index v).before a0 Z = true) (hn : pc + 3 = n) (K : Run Z EL p e below s n0 fc fs Q (T.setTop (mkF m n ls (.long v :: st)))) : Run Z EL p e below s n0 fc fs Q (T.setTop (mkF m pc ls st)) := by
  subst hn; obtain ⟨s', L, i, j, Y, r1, hZ, hown, -⟩ := X.op; exact K.st fun _ k => Y.ldc2Long X.x hown (mvT hZ w) (g := mkF m pc ls st) rfl (X.dc hd) _ k
theorem goto (X : Sd kn Z a0 EL y bytes maxL ret p l e R s m args below meth c n0 sf h kc ks T) {pc n : Nat} {ls : Array Slot} {st : List Value} {o : Int} (hd : decode bytes pc = .ok (.goto o, 3)) (ho : 0 ≤ (pc : Int) + o) (hn : ((pc : Int) + o).toNat = n) (K : Run Z EL p e below s n0 fc fs Q (T.setTop (mkF m n ls st))) : Run Z EL p e below s n0 fc fs Q (T.setTop (mkF m pc ls st)) := K.st fun _ k => XS.goto X.hr X.x rfl rfl (X.dc hd) ho hn k
theorem ifc (X : Sd kn Z a0 EL y bytes maxL ret p l e R s m args below meth c n0 sf h kc ks T) {pc n1 n2 : Nat} {ls : Array Slot} {st : List Value} {cd : ClassFile.Cond} {x : Int32} {o : Int} (hd : decode bytes pc = .ok (.ifCond cd o, 3)) (ho : 0 ≤ (pc : Int) + o) (h1 : ((pc : Int) + o).toNat = n1) (h2 : pc + 3 = n2) (K1 : ifCond.holds cd x = true → Run Z EL p e below s n0 fc fs Q (T.setTop (mkF m n1 ls st))) (K2 : ifCond.holds cd x = false → Run Z EL p e below s n0 fc fs Q (T.setTop (mkF m n2 ls st))) : Run Z EL p e below s n0 fc fs Q (T.setTop (mkF m pc ls (.int x :: st))) := by
  cases hq : ifCond.holds cd x with
  | true => exact (K1 hq).st fun _ k => XS.ifYes X.hr X.x rfl rfl (X.dc hd) rfl hq ho h1 k
  | false => subst h2; exact (K2 hq).st fun _ k => XS.ifNo X.hr X.x rfl (X.dc hd) rfl hq k
theorem icc (X : Sd kn Z a0 EL y bytes maxL ret p l e R s m args below meth c n0 sf h kc ks T) {pc n1 n2 : Nat} {ls : Array Slot} {st : List Value} {cd : ClassFile.Cond} {x v : Int32} {o : Int} (hd : decode bytes pc = .ok (.if_icmp cd o, 3)) (ho : 0 ≤ (pc : Int) + o) (h1 : ((pc : Int) + o).toNat = n1) (h2 : pc + 3 = n2) (K1 : if_icmp.holds cd x v = true → Run Z EL p e below s n0 fc fs Q (T.setTop (mkF m n1 ls st))) (K2 : if_icmp.holds cd x v = false → Run Z EL p e below s n0 fc fs Q (T.setTop (mkF m n2 ls st))) : Run Z EL p e below s n0 fc fs Q (T.setTop (mkF m pc ls (.int v :: .int x :: st))) := by
  cases hq : if_icmp.holds cd x v with
  | true => exact (K1 hq).st fun _ k => XS.icmpYes X.hr X.x rfl rfl (X.dc hd) rfl hq ho h1 k
  | false => subst h2; exact (K2 hq).st fun _ k => XS.icmpNo X.hr X.x rfl (X.dc hd) rfl hq k
theorem ic_eq (X : Sd kn Z a0 EL y bytes maxL ret p l e R s m args below meth c n0 sf h kc ks T) {pc n1 n2 : Nat} {ls : Array Slot} {st : List Value} {x v : Int32} {o : Int} (hd : decode bytes pc = .ok (.if_icmp .eq o, 3)) (ho : 0 ≤ (pc : Int) + o) (h1 : ((pc : Int) + o).toNat = n1) (h2 : pc + 3 = n2) (K1 : x = v → Run Z EL p e below s n0 fc fs Q (T.setTop (mkF m n1 ls st))) (K2 : ¬ x = v → Run Z EL p e below s n0 fc fs Q (T.setTop (mkF m n2 ls st))) : Run Z EL p e below s n0 fc fs Q (T.setTop (mkF m pc ls (.int v :: .int x :: st))) := by
  exact icc X hd ho h1 h2 (fun hq => K1 (Classical.byContradiction fun w => by rw [(feq w).1] at hq; cases hq)) (fun hq => K2 (fun w => by rw [(teq w).1] at hq; cases hq))
theorem if_eq (X : Sd kn Z a0 EL y bytes maxL ret p l e R s m args below meth c n0 sf h kc ks T) {pc n1 n2 : Nat} {ls : Array Slot} {st : List Value} {x : Int32} {o : Int} (hd : decode bytes pc = .ok (.ifCond .eq o, 3)) (ho : 0 ≤ (pc : Int) + o) (h1 : ((pc : Int) + o).toNat = n1) (h2 : pc + 3 = n2) (K1 : x = 0 → Run Z EL p e below s n0 fc fs Q (T.setTop (mkF m n1 ls st))) (K2 : ¬ x = 0 → Run Z EL p e below s n0 fc fs Q (T.setTop (mkF m n2 ls st))) : Run Z EL p e below s n0 fc fs Q (T.setTop (mkF m pc ls (.int x :: st))) := by
  exact ifc X hd ho h1 h2 (fun hq => by rw [if0] at hq; exact K1 (Classical.byContradiction fun w => by rw [(feq w).1] at hq; cases hq)) (fun hq => by rw [if0] at hq; exact K2 (fun w => by rw [(teq w).1] at hq; cases hq))
theorem ic_ne (X : Sd kn Z a0 EL y bytes maxL ret p l e R s m args below meth c n0 sf h kc ks T) {pc n1 n2 : Nat} {ls : Array Slot} {st : List Value} {x v : Int32} {o : Int} (hd : decode bytes pc = .ok (.if_icmp .ne o, 3)) (ho : 0 ≤ (pc : Int) + o) (h1 : ((pc : Int) + o).toNat = n1) (h2 : pc + 3 = n2) (K1 : ¬ x = v → Run Z EL p e below s n0 fc fs Q (T.setTop (mkF m n1 ls st))) (K2 : x = v → Run Z EL p e below s n0 fc fs Q (T.setTop (mkF m n2 ls st))) : Run Z EL p e below s n0 fc fs Q (T.setTop (mkF m pc ls (.int v :: .int x :: st))) := by
  exact icc X hd ho h1 h2 (fun hq => K1 (fun w => by rw [(teq w).2] at hq; cases hq)) (fun hq => K2 (Classical.byContradiction fun w => by rw [(feq w).2] at hq; cases hq))
theorem if_ne (X : Sd kn Z a0 EL y bytes maxL ret p l e R s m args below meth c n0 sf h kc ks T) {pc n1 n2 : Nat} {ls : Array Slot} {st : List Value} {x : Int32} {o : Int} (hd : decode bytes pc = .ok (.ifCond .ne o, 3)) (ho : 0 ≤ (pc : Int) + o) (h1 : ((pc : Int) + o).toNat = n1) (h2 : pc + 3 = n2) (K1 : ¬ x = 0 → Run Z EL p e below s n0 fc fs Q (T.setTop (mkF m n1 ls st))) (K2 : x = 0 → Run Z EL p e below s n0 fc fs Q (T.setTop (mkF m n2 ls st))) : Run Z EL p e below s n0 fc fs Q (T.setTop (mkF m pc ls (.int x :: st))) := by
  exact ifc X hd ho h1 h2 (fun hq => by rw [if0] at hq; exact K1 (fun w => by rw [(teq w).2] at hq; cases hq)) (fun hq => by rw [if0] at hq; exact K2 (Classical.byContradiction fun w => by rw [(feq w).2] at hq; cases hq))
theorem ic_lt (X : Sd kn Z a0 EL y bytes maxL ret p l e R s m args below meth c n0 sf h kc ks T) {pc n1 n2 : Nat} {ls : Array Slot} {st : List Value} {x v : Int32} {o : Int} (hd : decode bytes pc = .ok (.if_icmp .lt o, 3)) (ho : 0 ≤ (pc : Int) + o) (h1 : ((pc : Int) + o).toNat = n1) (h2 : pc + 3 = n2) (K1 : x < v → Run Z EL p e below s n0 fc fs Q (T.setTop (mkF m n1 ls st))) (K2 : ¬ x < v → Run Z EL p e below s n0 fc fs Q (T.setTop (mkF m n2 ls st))) : Run Z EL p e below s n0 fc fs Q (T.setTop (mkF m pc ls (.int v :: .int x :: st))) := by
  exact icc X hd ho h1 h2 (fun hq => K1 (Classical.byContradiction fun w => by rw [(flt w).1] at hq; cases hq)) (fun hq => K2 (fun w => by rw [(tlt w).1] at hq; cases hq))
theorem if_lt (X : Sd kn Z a0 EL y bytes maxL ret p l e R s m args below meth c n0 sf h kc ks T) {pc n1 n2 : Nat} {ls : Array Slot} {st : List Value} {x : Int32} {o : Int} (hd : decode bytes pc = .ok (.ifCond .lt o, 3)) (ho : 0 ≤ (pc : Int) + o) (h1 : ((pc : Int) + o).toNat = n1) (h2 : pc + 3 = n2) (K1 : x < 0 → Run Z EL p e below s n0 fc fs Q (T.setTop (mkF m n1 ls st))) (K2 : ¬ x < 0 → Run Z EL p e below s n0 fc fs Q (T.setTop (mkF m n2 ls st))) : Run Z EL p e below s n0 fc fs Q (T.setTop (mkF m pc ls (.int x :: st))) := by
  exact ifc X hd ho h1 h2 (fun hq => by rw [if0] at hq; exact K1 (Classical.byContradiction fun w => by rw [(flt w).1] at hq; cases hq)) (fun hq => by rw [if0] at hq; exact K2 (fun w => by rw [(tlt w).1] at hq; cases hq))
theorem ic_ge (X : Sd kn Z a0 EL y bytes maxL ret p l e R s m args below meth c n0 sf h kc ks T) {pc n1 n2 : Nat} {ls : Array Slot} {st : List Value} {x v : Int32} {o : Int} (hd : decode bytes pc = .ok (.if_icmp .ge o, 3)) (ho : 0 ≤ (pc : Int) + o) (h1 : ((pc : Int) + o).toNat = n1) (h2 : pc + 3 = n2) (K1 : ¬ x < v → Run Z EL p e below s n0 fc fs Q (T.setTop (mkF m n1 ls st))) (K2 : x < v → Run Z EL p e below s n0 fc fs Q (T.setTop (mkF m n2 ls st))) : Run Z EL p e below s n0 fc fs Q (T.setTop (mkF m pc ls (.int v :: .int x :: st))) := by
  exact icc X hd ho h1 h2 (fun hq => K1 (fun w => by rw [(tlt w).2.1] at hq; cases hq)) (fun hq => K2 (Classical.byContradiction fun w => by rw [(flt w).2.1] at hq; cases hq))
theorem if_ge (X : Sd kn Z a0 EL y bytes maxL ret p l e R s m args below meth c n0 sf h kc ks T) {pc n1 n2 : Nat} {ls : Array Slot} {st : List Value} {x : Int32} {o : Int} (hd : decode bytes pc = .ok (.ifCond .ge o, 3)) (ho : 0 ≤ (pc : Int) + o) (h1 : ((pc : Int) + o).toNat = n1) (h2 : pc + 3 = n2) (K1 : ¬ x < 0 → Run Z EL p e below s n0 fc fs Q (T.setTop (mkF m n1 ls st))) (K2 : x < 0 → Run Z EL p e below s n0 fc fs Q (T.setTop (mkF m n2 ls st))) : Run Z EL p e below s n0 fc fs Q (T.setTop (mkF m pc ls (.int x :: st))) := by
  exact ifc X hd ho h1 h2 (fun hq => by rw [if0] at hq; exact K1 (fun w => by rw [(tlt w).2.1] at hq; cases hq)) (fun hq => by rw [if0] at hq; exact K2 (Classical.byContradiction fun w => by rw [(flt w).2.1] at hq; cases hq))
theorem ic_gt (X : Sd kn Z a0 EL y bytes maxL ret p l e R s m args below meth c n0 sf h kc ks T) {pc n1 n2 : Nat} {ls : Array Slot} {st : List Value} {x v : Int32} {o : Int} (hd : decode bytes pc = .ok (.if_icmp .gt o, 3)) (ho : 0 ≤ (pc : Int) + o) (h1 : ((pc : Int) + o).toNat = n1) (h2 : pc + 3 = n2) (K1 : v < x → Run Z EL p e below s n0 fc fs Q (T.setTop (mkF m n1 ls st))) (K2 : ¬ v < x → Run Z EL p e below s n0 fc fs Q (T.setTop (mkF m n2 ls st))) : Run Z EL p e below s n0 fc fs Q (T.setTop (mkF m pc ls (.int v :: .int x :: st))) := by
  exact icc X hd ho h1 h2 (fun hq => K1 (Classical.byContradiction fun w => by rw [(flt w).2.2.1] at hq; cases hq)) (fun hq => K2 (fun w => by rw [(tlt w).2.2.1] at hq; cases hq))
theorem if_gt (X : Sd kn Z a0 EL y bytes maxL ret p l e R s m args below meth c n0 sf h kc ks T) {pc n1 n2 : Nat} {ls : Array Slot} {st : List Value} {x : Int32} {o : Int} (hd : decode bytes pc = .ok (.ifCond .gt o, 3)) (ho : 0 ≤ (pc : Int) + o) (h1 : ((pc : Int) + o).toNat = n1) (h2 : pc + 3 = n2) (K1 : 0 < x → Run Z EL p e below s n0 fc fs Q (T.setTop (mkF m n1 ls st))) (K2 : ¬ 0 < x → Run Z EL p e below s n0 fc fs Q (T.setTop (mkF m n2 ls st))) : Run Z EL p e below s n0 fc fs Q (T.setTop (mkF m pc ls (.int x :: st))) := by
  exact ifc X hd ho h1 h2 (fun hq => by rw [if0] at hq; exact K1 (Classical.byContradiction fun w => by rw [(flt w).2.2.1] at hq; cases hq)) (fun hq => by rw [if0] at hq; exact K2 (fun w => by rw [(tlt w).2.2.1] at hq; cases hq))
theorem ic_le (X : Sd kn Z a0 EL y bytes maxL ret p l e R s m args below meth c n0 sf h kc ks T) {pc n1 n2 : Nat} {ls : Array Slot} {st : List Value} {x v : Int32} {o : Int} (hd : decode bytes pc = .ok (.if_icmp .le o, 3)) (ho : 0 ≤ (pc : Int) + o) (h1 : ((pc : Int) + o).toNat = n1) (h2 : pc + 3 = n2) (K1 : ¬ v < x → Run Z EL p e below s n0 fc fs Q (T.setTop (mkF m n1 ls st))) (K2 : v < x → Run Z EL p e below s n0 fc fs Q (T.setTop (mkF m n2 ls st))) : Run Z EL p e below s n0 fc fs Q (T.setTop (mkF m pc ls (.int v :: .int x :: st))) := by
  exact icc X hd ho h1 h2 (fun hq => K1 (fun w => by rw [(tlt w).2.2.2] at hq; cases hq)) (fun hq => K2 (Classical.byContradiction fun w => by rw [(flt w).2.2.2] at hq; cases hq))
theorem if_le (X : Sd kn Z a0 EL y bytes maxL ret p l e R s m args below meth c n0 sf h kc ks T) {pc n1 n2 : Nat} {ls : Array Slot} {st : List Value} {x : Int32} {o : Int} (hd : decode bytes pc = .ok (.ifCond .le o, 3)) (ho : 0 ≤ (pc : Int) + o) (h1 : ((pc : Int) + o).toNat = n1) (h2 : pc + 3 = n2) (K1 : ¬ 0 < x → Run Z EL p e below s n0 fc fs Q (T.setTop (mkF m n1 ls st))) (K2 : 0 < x → Run Z EL p e below s n0 fc fs Q (T.setTop (mkF m n2 ls st))) : Run Z EL p e below s n0 fc fs Q (T.setTop (mkF m pc ls (.int x :: st))) := by
  exact ifc X hd ho h1 h2 (fun hq => by rw [if0] at hq; exact K1 (fun w => by rw [(tlt w).2.2.2] at hq; cases hq)) (fun hq => by rw [if0] at hq; exact K2 (Classical.byContradiction fun w => by rw [(flt w).2.2.2] at hq; cases hq))
theorem ifnull_y (X : Sd kn Z a0 EL y bytes maxL ret p l e R s m args below meth c n0 sf h kc ks T) {pc n1 : Nat} {ls : Array Slot} {st : List Value} {o : Int} (hd : decode bytes pc = .ok (.ifnull o, 3)) (ho : 0 ≤ (pc : Int) + o) (h1 : ((pc : Int) + o).toNat = n1) (K : Run Z EL p e below s n0 fc fs Q (T.setTop (mkF m n1 ls st))) : Run Z EL p e below s n0 fc fs Q (T.setTop (mkF m pc ls (.null :: st))) := K.st fun _ k => XS.ifnullYes X.hr X.x rfl rfl (X.dc hd) rfl ho h1 k
theorem ifnull_n (X : Sd kn Z a0 EL y bytes maxL ret p l e R s m args below meth c n0 sf h kc ks T) {pc n2 : Nat} {ls : Array Slot} {st : List Value} {o : Int} {a : Addr} (hd : decode bytes pc = .ok (.ifnull o, 3)) (h2 : pc + 3 = n2) (K : Run Z EL p e below s n0 fc fs Q (T.setTop (mkF m n2 ls st))) : Run Z EL p e below s n0 fc fs Q (T.setTop (mkF m pc ls (.ref a :: st))) := by
  subst h2; exact K.st fun _ k => XS.ifnullNo X.hr X.x rfl (X.dc hd) rfl k
theorem ifnonnull_y (X : Sd kn Z a0 EL y bytes maxL ret p l e R s m args below meth c n0 sf h kc ks T) {pc n1 : Nat} {ls : Array Slot} {st : List Value} {o : Int} {a : Addr} (hd : decode bytes pc = .ok (.ifnonnull o, 3)) (ho : 0 ≤ (pc : Int) + o) (h1 : ((pc : Int) + o).toNat = n1) (K : Run Z EL p e below s n0 fc fs Q (T.setTop (mkF m n1 ls st))) : Run Z EL p e below s n0 fc fs Q (T.setTop (mkF m pc ls (.ref a :: st))) := K.st fun _ k => XS.ifnonnullYes X.hr X.x rfl rfl (X.dc hd) rfl ho h1 k
theorem ifnonnull_n (X : Sd kn Z a0 EL y bytes maxL ret p l e R s m args below meth c n0 sf h kc ks T) {pc n2 : Nat} {ls : Array Slot} {st : List Value} {o : Int} (hd : decode bytes pc = .ok (.ifnonnull o, 3)) (h2 : pc + 3 = n2) (K : Run Z EL p e below s n0 fc fs Q (T.setTop (mkF m n2 ls st))) : Run Z EL p e below s n0 fc fs Q (T.setTop (mkF m pc ls (.null :: st))) := by
  subst h2; exact K.st fun _ k => XS.ifnonnullNo X.hr X.x rfl (X.dc hd) rfl k
theorem ac_eq (X : Sd kn Z a0 EL y bytes maxL ret p l e R s m args below meth c n0 sf h kc ks T) {pc n1 n2 : Nat} {ls : Array Slot} {st : List Value} {x v : Value} {o : Int} (hd : decode bytes pc = .ok (.if_acmp .eq o, 3)) (hx : x.isRef = true) (hv : v.isRef = true) (ho : 0 ≤ (pc : Int) + o) (h1 : ((pc : Int) + o).toNat = n1) (h2 : pc + 3 = n2) (K1 : x = v → Run Z EL p e below s n0 fc fs Q (T.setTop (mkF m n1 ls st))) (K2 : ¬ x = v → Run Z EL p e below s n0 fc fs Q (T.setTop (mkF m n2 ls st))) : Run Z EL p e below s n0 fc fs Q (T.setTop (mkF m pc ls (v :: x :: st))) := by
  obtain ⟨s', L, i, j, Y, -⟩ := X.op
  by_cases hq : x = v
  · exact (K1 hq).st fun _ k => acmp Y X.x rfl hx hv rfl (X.dc hd) rfl (decide_eq_true hq) ho (by simp [acV, ← h1, ← h2]) k
  · exact (K2 hq).st fun _ k => acmp Y X.x rfl hx hv rfl (X.dc hd) rfl (decide_eq_false hq) ho (by simp [acV, ← h1, ← h2]) k
theorem ac_ne (X : Sd kn Z a0 EL y bytes maxL ret p l e R s m args below meth c n0 sf h kc ks T) {pc n1 n2 : Nat} {ls : Array Slot} {st : List Value} {x v : Value} {o : Int} (hd : decode bytes pc = .ok (.if_acmp .ne o, 3)) (hx : x.isRef = true) (hv : v.isRef = true) (ho : 0 ≤ (pc : Int) + o) (h1 : ((pc : Int) + o).toNat = n1) (h2 : pc + 3 = n2) (K1 : ¬ x = v → Run Z EL p e below s n0 fc fs Q (T.setTop (mkF m n1 ls st))) (K2 : x = v → Run Z EL p e below s n0 fc fs Q (T.setTop (mkF m n2 ls st))) : Run Z EL p e below s n0 fc fs Q (T.setTop (mkF m pc ls (v :: x :: st))) := by
  obtain ⟨s', L, i, j, Y, -⟩ := X.op
  by_cases hq : x = v
  · exact (K2 hq).st fun _ k => acmp Y X.x rfl hx hv rfl (X.dc hd) rfl (decide_eq_true hq) ho (by simp [acV, ← h1, ← h2]) k
  · exact (K1 hq).st fun _ k => acmp Y X.x rfl hx hv rfl (X.dc hd) rfl (decide_eq_false hq) ho (by simp [acV, ← h1, ← h2]) k
theorem getstatic (X : Sd kn Z a0 EL y bytes maxL ret p l e R s m args below meth c n0 sf h kc ks T) {pc n index : Nat} {ls : Array Slot} {st : List Value} {R0 O : String} (hd : decode bytes pc = .ok (.getstatic index, 3)) (w : (Cond.fieldLink y.cls index R0 f d).before a0 Z = true) (via : Via Z R0 O f d) (F : Sta Z h O f d v) (hn : pc + 3 = n) (K : ∀ T', Sd kn Z a0 EL y bytes maxL ret p l e R s m args below meth c n0 sf h kc ks T' → Run Z EL p e below s n0 fc fs Q (T'.setTop (mkF m n ls (v :: st)))) : Run Z EL p e below s n0 fc fs Q (T.setTop (mkF m pc ls st)) := by
  subst hn; obtain ⟨s', L', i', j', Y, r1, hZ, hown, hml, hnm, r3, r4, hx, kN, kE, kW⟩ := X.op
  obtain ⟨T', Y', e', stp⟩ := getS (host := "") Y hx hZ hown w via r1 F (g := mkF m pc ls st) rfl (X.dc hd)
  exact (K T' (kN T' Y' e')).st stp
theorem getfield (X : Sd kn Z a0 EL y bytes maxL ret p l e R s m args below meth c n0 sf h kc ks T) {pc n index : Nat} {ls : Array Slot} {st : List Value} {R0 O : String} (hd : decode bytes pc = .ok (.getfield index, 3)) (w : (Cond.fieldLink y.cls index R0 f d).before a0 Z = true) (via : Via Z R0 O f d) (F : Fld Z h a O f d v) (hn : pc + 3 = n) (K : ∀ T', Sd kn Z a0 EL y bytes maxL ret p l e R s m args below meth c n0 sf h kc ks T' → Run Z EL p e below s n0 fc fs Q (T'.setTop (mkF m n ls (v :: st)))) : Run Z EL p e below s n0 fc fs Q (T.setTop (mkF m pc ls (.ref a :: st))) := by
  subst hn; obtain ⟨s', L', i', j', Y, r1, hZ, hown, hml, hnm, r3, r4, hx, kN, kE, kW⟩ := X.op
  obtain ⟨T', Y', e', stp⟩ := getF (host := "") Y hx hZ hown (Or.inl w) via r1 F (g := mkF m pc ls (.ref a :: st)) rfl rfl (X.dc hd)
  exact (K T' (kN T' Y' e')).st stp
theorem checkcast (X : Sd kn Z a0 EL y bytes maxL ret p l e R s m args below meth c n0 sf h kc ks T) {pc n index : Nat} {ls : Array Slot} {st : List Value} (hd : decode bytes pc = .ok (.checkcast index, 3)) (w : (Cond.classLink y.cls index C).before a0 Z = true) (F : Ins Z h a C true) (hn : pc + 3 = n) (K : ∀ T', Sd kn Z a0 EL y bytes maxL ret p l e R s m args below meth c n0 sf h kc ks T' → Run Z EL p e below s n0 fc fs Q (T'.setTop (mkF m n ls (.ref a :: st)))) : Run Z EL p e below s n0 fc fs Q (T.setTop (mkF m pc ls (.ref a :: st))) := by
  subst hn; obtain ⟨s', L', i', j', Y, r1, hZ, hown, hml, hnm, r3, r4, hx, kN, kE, kW⟩ := X.op
  obtain ⟨T', Y', e', stp⟩ := castY Y hx hZ hown w r1 F (g := mkF m pc ls (.ref a :: st)) rfl rfl (X.dc hd)
  exact (K T' (kN T' Y' e')).st stp
theorem checkcastNull (X : Sd kn Z a0 EL y bytes maxL ret p l e R s m args below meth c n0 sf h kc ks T) {pc n index : Nat} {ls : Array Slot} {st : List Value} (hd : decode bytes pc = .ok (.checkcast index, 3)) (hn : pc + 3 = n) (K : Run Z EL p e below s n0 fc fs Q (T.setTop (mkF m n ls (.null :: st)))) : Run Z EL p e below s n0 fc fs Q (T.setTop (mkF m pc ls (.null :: st))) := by
  subst hn; obtain ⟨s', L', i', j', Y, r1, hZ, hown, hml, hnm, r3, r4, hx, kN, kE, kW⟩ := X.op
  exact K.st fun _ k => Y.checkcastNull hx (g := mkF m pc ls (.null :: st)) rfl rfl (X.dc hd) _ k
theorem instanceofY (X : Sd kn Z a0 EL y bytes maxL ret p l e R s m args below meth c n0 sf h kc ks T) {pc n index : Nat} {ls : Array Slot} {st : List Value} (hd : decode bytes pc = .ok (.instanceof index, 3)) (w : (Cond.classLink y.cls index C).before a0 Z = true) (F : Ins Z h a C true) (hn : pc + 3 = n) (K : ∀ T', Sd kn Z a0 EL y bytes maxL ret p l e R s m args below meth c n0 sf h kc ks T' → Run Z EL p e below s n0 fc fs Q (T'.setTop (mkF m n ls (.int 1 :: st)))) : Run Z EL p e below s n0 fc fs Q (T.setTop (mkF m pc ls (.ref a :: st))) := by
  subst hn; obtain ⟨s', L', i', j', Y, r1, hZ, hown, hml, hnm, r3, r4, hx, kN, kE, kW⟩ := X.op
  obtain ⟨T', Y', e', stp⟩ := instY Y hx hZ hown w r1 F (g := mkF m pc ls (.ref a :: st)) rfl rfl (X.dc hd)
  exact (K T' (kN T' Y' e')).st stp
theorem instanceofNull (X : Sd kn Z a0 EL y bytes maxL ret p l e R s m args below meth c n0 sf h kc ks T) {pc n index : Nat} {ls : Array Slot} {st : List Value} (hd : decode bytes pc = .ok (.instanceof index, 3)) (hn : pc + 3 = n) (K : Run Z EL p e below s n0 fc fs Q (T.setTop (mkF m n ls (.int 0 :: st)))) : Run Z EL p e below s n0 fc fs Q (T.setTop (mkF m pc ls (.null :: st))) := by
  subst hn; obtain ⟨s', L', i', j', Y, r1, hZ, hown, hml, hnm, r3, r4, hx, kN, kE, kW⟩ := X.op
  exact K.st fun _ k => Y.instanceofNull hx (g := mkF m pc ls (.null :: st)) rfl rfl (X.dc hd) _ k
theorem initObj (X : Sd kn Z a0 EL y bytes maxL ret p l e R s m args below meth c n0 sf h kc ks T) {pc n index W : Nat} {ls : Array Slot} {st : List Value} (hd : decode bytes pc = .ok (.invokespecial index, 3)) (w1 : (Cond.methodLink y.cls index Lib.objectInit).before a0 Z = true) (w2 : (Cond.instanceMethod Lib.objectInit).before a0 Z = true) (w3 : (Cond.code Lib.objectInit ⟨#[0xb1]⟩ 1 none).before a0 Z = true) (hsize : ls.size = maxL) (hf : 1 ≤ R.frames) (hW : (st.map fun v => v.category).sum ≤ W) (hl : W + 12 ≤ R.locals) (hn : pc + 3 = n) (K : ∀ T', Sd kn Z a0 EL y bytes maxL ret p l e R s m args below meth c n0 sf h kc ks T' → Run Z EL p e below s n0 fc fs Q (T'.setTop (mkF m n ls st))) : Run Z EL p e below s n0 fc fs Q (T.setTop (mkF m pc ls (.ref a :: st))) := by
  subst hn; obtain ⟨s', L', i', j', Y, r1, hZ, hown, hml, hnm, r3, r4, hx, kN, kE, kW⟩ := X.op
  obtain ⟨T', Y', e', stp⟩ := initO Y hx hZ hown w1 w2 w3 r1 (g := mkF m pc ls (.ref a :: st)) rfl (by rw [hml]; exact hsize) rfl (X.dc hd) hf (W := W) (by simpa using hW) hl
  exact (K T' (kN T' Y' e')).st stp
def Ark (Z : State) (h : Heap) (a : Addr) (ty : FieldType) (vs : List Value) : Prop := ∃ c : Cell, Arr Z h a c ty ∧ c.slots = vs.toArray ∧ vs.length < 2147483648 ∧ ∀ v ∈ vs, fits ty v = true
theorem Ark.lt (A : Ark Z h a ty vs) : a < h.size := by obtain ⟨c, A, -⟩ := A; exact A.lt
theorem Ark.ext (A : Ark Z h a ty vs) (E : Ext h h') : Ark Z h' a ty vs := by obtain ⟨c, A, r⟩ := A; exact ⟨c, A.ext E, r⟩
theorem Ark.keep (A : Ark Z h a ty vs) (K : Keep h h' wl) (q : a ∉ wl) : Ark Z h' a ty vs := by obtain ⟨c, A, r⟩ := A; exact ⟨c, ⟨K.2.1 a c A.1 q, A.2⟩, r⟩
theorem Ark.len (A : Ark Z h a ty vs) : vs.length < 2147483648 := by obtain ⟨c, A, r1, r2, -⟩ := A; exact r2
theorem Ark.fit (A : Ark Z h a ty vs) : ∀ v ∈ vs, fits ty v = true := by obtain ⟨c, A, r1, r2, r3⟩ := A; exact r3
theorem Ark.ofArv {k : ClassId} {z : Int32} {dv : Value} (A : Arv Z h a k ty z vs dv) (hl : z.toNatClampNeg = vs.length) : Ark Z h a ty vs := by
  obtain ⟨c, A, q1, S, q3, H, G⟩ := A
  have hb : vs.length < 2147483648 := by rw [← hl]; exact (back32 q3).2
  have e1 : c.slots = vs.toArray := by
    apply Array.ext
    · simp [S, hl]
    · intro i h1 h2
      have q := H i h1
      rw [Array.getElem?_eq_getElem h1] at q
      have h3 : i < vs.length := by simpa using h2
      simpa [List.getD, List.getElem?_eq_getElem h3] using Option.some.inj q
  refine ⟨c, A, e1, hb, fun v hv => ?_⟩
  obtain ⟨i, hi, rfl⟩ := List.getElem_of_mem hv
  have q := G i (by rw [S, hl]; exact hi)
  simpa [List.getD, List.getElem?_eq_getElem hi] using q
theorem kExt (E : Ext h h') : Keep h h' [] := (Keep.refl h []).ext E
theorem nin1 (q : a ≠ b) : a ∉ [b] := fun z => q (List.mem_singleton.mp z)
theorem oldLe (O : Old Z n0 h) : n0 ≤ h.size := by rw [← O.1]; exact O.2.1
theorem toNatC {j : Int32} {i : Nat} (hj : j.toInt = i) : j.toNatClampNeg = i ∧ ¬ j < 0 := by
  refine ⟨by simp [Int32.toNatClampNeg, hj], fun q => ?_⟩
  have q2 := Int32.lt_iff_toInt_lt.mp q
  rw [hj] at q2
  have : (0 : Int32).toInt = 0 := rfl
  omega
theorem arkIn {c : Cell} (r1 : c.slots = vs.toArray) {j : Int32} {i : Nat} (hj : j.toInt = i) (hv : vs[i]? = some v) : ¬ (j < 0 ∨ c.slots.size ≤ j.toNatClampNeg) ∧ c.slots[j.toNatClampNeg]? = some v := by
  obtain ⟨g1, g2⟩ := toNatC hj
  obtain ⟨hi, -⟩ := List.getElem?_eq_some_iff.mp hv
  refine ⟨fun q => ?_, by rw [g1, r1]; simpa using hv⟩
  rcases q with q | q
  · exact g2 q
  · rw [g1, r1] at q; simp at q; omega
theorem iaload (X : Sd kn Z a0 EL y bytes maxL ret p l e R s m args below meth c n0 sf h kc ks T) {pc n i : Nat} {ls : Array Slot} {st : List Value} {j : Int32} (hd : decode bytes pc = .ok (.iaload, 1)) (A : Ark Z h a .int vs) (hj : j.toInt = i) (hv : vs[i]? = some v) (hn : pc + 1 = n) (K : Run Z EL p e below s n0 fc fs Q (T.setTop (mkF m n ls (v :: st)))) : Run Z EL p e below s n0 fc fs Q (T.setTop (mkF m pc ls (.int j :: .ref a :: st))) := by
  subst hn; obtain ⟨s', L', i', j', Y, r1, hZ, hown, hml, hnm, r3, r4, hx, kN, kE, kW⟩ := X.op
  obtain ⟨c', A, s1, -⟩ := A
  obtain ⟨g1, g2⟩ := arkIn s1 hj hv
  exact K.st fun _ k => Y.iaload hx (j := j) (v := v) (by rw [r1]; exact A.1) (State.isArrayOf_alike hZ.alike A.2.1) A.2.2 g1 g2 (g := mkF m pc ls (.int j :: .ref a :: st)) rfl rfl (X.dc hd) _ k
theorem caload (X : Sd kn Z a0 EL y bytes maxL ret p l e R s m args below meth c n0 sf h kc ks T) {pc n i : Nat} {ls : Array Slot} {st : List Value} {j : Int32} (hd : decode bytes pc = .ok (.caload, 1)) (A : Ark Z h a .char vs) (hj : j.toInt = i) (hv : vs[i]? = some v) (hn : pc + 1 = n) (K : Run Z EL p e below s n0 fc fs Q (T.setTop (mkF m n ls (v :: st)))) : Run Z EL p e below s n0 fc fs Q (T.setTop (mkF m pc ls (.int j :: .ref a :: st))) := by
  subst hn; obtain ⟨s', L', i', j', Y, r1, hZ, hown, hml, hnm, r3, r4, hx, kN, kE, kW⟩ := X.op
  obtain ⟨c', A, s1, -⟩ := A
  obtain ⟨g1, g2⟩ := arkIn s1 hj hv
  exact K.st fun _ k => Y.caload hx (j := j) (v := v) (by rw [r1]; exact A.1) (State.isArrayOf_alike hZ.alike A.2.1) A.2.2 g1 g2 (g := mkF m pc ls (.int j :: .ref a :: st)) rfl rfl (X.dc hd) _ k
theorem baload (X : Sd kn Z a0 EL y bytes maxL ret p l e R s m args below meth c n0 sf h kc ks T) {pc n i : Nat} {ls : Array Slot} {st : List Value} {j : Int32} (hd : decode bytes pc = .ok (.baload, 1)) (A : Ark Z h a .byte vs) (hj : j.toInt = i) (hv : vs[i]? = some v) (hn : pc + 1 = n) (K : Run Z EL p e below s n0 fc fs Q (T.setTop (mkF m n ls (v :: st)))) : Run Z EL p e below s n0 fc fs Q (T.setTop (mkF m pc ls (.int j :: .ref a :: st))) := by
  subst hn; obtain ⟨s', L', i', j', Y, r1, hZ, hown, hml, hnm, r3, r4, hx, kN, kE, kW⟩ := X.op
  obtain ⟨c', A, s1, -⟩ := A
  obtain ⟨g1, g2⟩ := arkIn s1 hj hv
  exact K.st fun _ k => Y.baloadBytes hx (j := j) (v := v) (by rw [r1]; exact A.1) (State.isArrayOf_alike hZ.alike A.2.1) A.2.2 g1 g2 (g := mkF m pc ls (.int j :: .ref a :: st)) rfl rfl (X.dc hd) _ k
theorem aaload (X : Sd kn Z a0 EL y bytes maxL ret p l e R s m args below meth c n0 sf h kc ks T) {pc n i : Nat} {ls : Array Slot} {st : List Value} {j : Int32} (hd : decode bytes pc = .ok (.aaload, 1)) (A : Ark Z h a ty vs) (ht : ty.isReference = true) (hj : j.toInt = i) (hv : vs[i]? = some v) (hn : pc + 1 = n) (K : Run Z EL p e below s n0 fc fs Q (T.setTop (mkF m n ls (v :: st)))) : Run Z EL p e below s n0 fc fs Q (T.setTop (mkF m pc ls (.int j :: .ref a :: st))) := by
  subst hn; obtain ⟨s', L', i', j', Y, r1, hZ, hown, hml, hnm, r3, r4, hx, kN, kE, kW⟩ := X.op
  obtain ⟨c', A, s1, -⟩ := A
  obtain ⟨g1, g2⟩ := arkIn s1 hj hv
  exact K.st fun _ k => Y.aaload hx (j := j) (v := v) (by rw [r1]; exact A.1) (State.isArrayOf_alike hZ.alike A.2.1) ht A.2.2 g1 g2 (g := mkF m pc ls (.int j :: .ref a :: st)) rfl rfl (X.dc hd) _ k
theorem arraylength (X : Sd kn Z a0 EL y bytes maxL ret p l e R s m args below meth c n0 sf h kc ks T) {pc n : Nat} {ls : Array Slot} {st : List Value} {z : Int32} (hd : decode bytes pc = .ok (.arraylength, 1)) (A : Ark Z h a ty vs) (hz : vs.length.toInt32 = z) (hn : pc + 1 = n) (K : Run Z EL p e below s n0 fc fs Q (T.setTop (mkF m n ls (.int z :: st)))) : Run Z EL p e below s n0 fc fs Q (T.setTop (mkF m pc ls (.ref a :: st))) := by
  subst hn hz; obtain ⟨s', L', i', j', Y, r1, hZ, hown, hml, hnm, r3, r4, hx, kN, kE, kW⟩ := X.op
  obtain ⟨c', A, s1, -⟩ := A
  have e1 : c'.slots.size = vs.length := by rw [s1]; simp
  exact K.st fun _ k => Y.arraylength hx (by rw [r1]; exact A.1) (State.isArrayOf_alike hZ.alike A.2.1) (g := mkF m pc ls (.ref a :: st)) rfl rfl (X.dc hd) _ (by rw [e1]; exact k)
theorem Ark.set {c' : Cell} (A : Arr Z h a c' ty) (s1 : c'.slots = vs.toArray) (s2 : vs.length < 2147483648) (s3 : ∀ v ∈ vs, fits ty v = true) {i : Nat} (hv : fits ty v = true) (W : Wr h h' a i v) : Ark Z h' a ty (vs.set i v) := by
  refine ⟨_, A.same W, by simp [Cell.setSlot, s1], by simpa using s2, fun u hu => ?_⟩
  rcases List.mem_or_eq_of_mem_set hu with q | q
  · exact s3 u q
  · exact q ▸ hv
theorem iastore (X : Sd kn Z a0 EL y bytes maxL ret p l e R s m args below meth c n0 sf h kc ks T) {pc n i : Nat} {ls : Array Slot} {st : List Value} {j x z : Int32} (hd : decode bytes pc = .ok (.iastore, 1)) (A : Ark Z h a .int vs) (hj : j.toInt = i) (hi : i < vs.length) (hz : x = z) (hfr : n0 ≤ a) (hs : a ∈ sf) (hn : pc + 1 = n) (K : ∀ T' h', Sd kn Z a0 EL y bytes maxL ret p l e R s m args below meth c n0 sf h' kc ks T' → Wr h h' a i (.int z) → Ark Z h' a .int (vs.set i (.int z)) → Run Z EL p e below s n0 fc fs Q (T'.setTop (mkF m n ls st))) : Run Z EL p e below s n0 fc fs Q (T.setTop (mkF m pc ls (.int x :: .int j :: .ref a :: st))) := by
  subst hn hz; obtain ⟨s', L', i', j', Y, r1, hZ, hown, hml, hnm, r3, r4, hx, kN, kE, kW⟩ := X.op
  obtain ⟨c', A, s1, s2, s3⟩ := A
  obtain ⟨g1, -⟩ := arkIn s1 hj (List.getElem?_eq_getElem hi)
  obtain ⟨T', h', Y', e', W, stp⟩ := stI Y hx hZ r1 A g1 (g := mkF m pc ls (.int x :: .int j :: .ref a :: st)) rfl rfl (X.dc hd)
  rw [(toNatC hj).1] at W Y'
  exact (K T' h' (kW T' h' a i _ hs hfr Y' e' W) W (Ark.set A s1 s2 s3 rfl W)).st stp
theorem castore (X : Sd kn Z a0 EL y bytes maxL ret p l e R s m args below meth c n0 sf h kc ks T) {pc n i : Nat} {ls : Array Slot} {st : List Value} {j x z : Int32} (hd : decode bytes pc = .ok (.castore, 1)) (A : Ark Z h a .char vs) (hj : j.toInt = i) (hi : i < vs.length) (hz : (nar .char x) = z) (hfr : n0 ≤ a) (hs : a ∈ sf) (hn : pc + 1 = n) (K : ∀ T' h', Sd kn Z a0 EL y bytes maxL ret p l e R s m args below meth c n0 sf h' kc ks T' → Wr h h' a i (.int z) → Ark Z h' a .char (vs.set i (.int z)) → Run Z EL p e below s n0 fc fs Q (T'.setTop (mkF m n ls st))) : Run Z EL p e below s n0 fc fs Q (T.setTop (mkF m pc ls (.int x :: .int j :: .ref a :: st))) := by
  subst hn hz; obtain ⟨s', L', i', j', Y, r1, hZ, hown, hml, hnm, r3, r4, hx, kN, kE, kW⟩ := X.op
  obtain ⟨c', A, s1, s2, s3⟩ := A
  obtain ⟨g1, -⟩ := arkIn s1 hj (List.getElem?_eq_getElem hi)
  obtain ⟨T', h', Y', e', W, stp⟩ := stC Y hx hZ r1 A g1 (g := mkF m pc ls (.int x :: .int j :: .ref a :: st)) rfl rfl (X.dc hd)
  rw [(toNatC hj).1] at W Y'
  exact (K T' h' (kW T' h' a i _ hs hfr Y' e' W) W (Ark.set A s1 s2 s3 (fits_nar_char _) W)).st stp
theorem bastore (X : Sd kn Z a0 EL y bytes maxL ret p l e R s m args below meth c n0 sf h kc ks T) {pc n i : Nat} {ls : Array Slot} {st : List Value} {j x z : Int32} (hd : decode bytes pc = .ok (.bastore, 1)) (A : Ark Z h a .byte vs) (hj : j.toInt = i) (hi : i < vs.length) (hz : (nar .byte x) = z) (hfr : n0 ≤ a) (hs : a ∈ sf) (hn : pc + 1 = n) (K : ∀ T' h', Sd kn Z a0 EL y bytes maxL ret p l e R s m args below meth c n0 sf h' kc ks T' → Wr h h' a i (.int z) → Ark Z h' a .byte (vs.set i (.int z)) → Run Z EL p e below s n0 fc fs Q (T'.setTop (mkF m n ls st))) : Run Z EL p e below s n0 fc fs Q (T.setTop (mkF m pc ls (.int x :: .int j :: .ref a :: st))) := by
  subst hn hz; obtain ⟨s', L', i', j', Y, r1, hZ, hown, hml, hnm, r3, r4, hx, kN, kE, kW⟩ := X.op
  obtain ⟨c', A, s1, s2, s3⟩ := A
  obtain ⟨g1, -⟩ := arkIn s1 hj (List.getElem?_eq_getElem hi)
  obtain ⟨T', h', Y', e', W, stp⟩ := stB Y hx hZ r1 A g1 (g := mkF m pc ls (.int x :: .int j :: .ref a :: st)) rfl rfl (X.dc hd)
  rw [(toNatC hj).1] at W Y'
  exact (K T' h' (kW T' h' a i _ hs hfr Y' e' W) W (Ark.set A s1 s2 s3 (fits_nar_byte _) W)).st stp
theorem newarray (X : Sd kn Z a0 EL y bytes maxL ret p l e R s m args below meth c n0 sf h kc ks T) {pc n len cap : Nat} {ls : Array Slot} {st : List Value} {k : Int32} {aty : ArrayType} (hd : decode bytes pc = .ok (.newarray aty, 2)) (w : (Cond.arrayClass (newarray.typeOf aty)).before a0 Z = true) (hk : k.toInt = len) (hcap : len ≤ cap) (hb : cap * 8 ≤ 536870912) (hc : kc + 1 ≤ R.cells) (hl : ks + cap ≤ R.slots) (hn : pc + 2 = n) (K : ∀ T' h' a, a = h.size → Sd kn Z a0 EL y bytes maxL ret p l e R s m args below meth c n0 (a :: sf) h' (kc + 1) (ks + cap) T' → Ext h h' → Ark Z h' a (newarray.typeOf aty) (List.replicate len (defaultValue (newarray.typeOf aty))) → Run Z EL p e below s n0 fc fs Q (T'.setTop (mkF m n ls (.ref a :: st)))) : Run Z EL p e below s n0 fc fs Q (T.setTop (mkF m pc ls (.int k :: st))) := by
  subst hn; obtain ⟨s', L', i', j', Y, r1, hZ, hown, hml, hnm, r3, r4, hx, kN, kE, kW⟩ := X.op
  obtain ⟨g1, g2⟩ := toNatC hk
  obtain ⟨T', h', cA, Y', e', E, A, stp⟩ := newP Y hx hZ w r1 (g := mkF m pc ls (.int k :: st)) rfl (X.dc hd) rfl g2 (cap := cap) (by omega) hb (by omega) (by omega)
  have hA : Ark Z h' h.size (newarray.typeOf aty) (List.replicate len (defaultValue (newarray.typeOf aty))) := by
    refine ⟨_, A, by simp [newA, g1], by simp; omega, fun v hv => ?_⟩
    rw [List.eq_of_mem_replicate hv]; cases aty <;> rfl
  exact (K T' h' _ rfl (kE T' h' 1 cap Y' e' E hA.lt) E hA).st stp
theorem new (X : Sd kn Z a0 EL y bytes maxL ret p l e R s m args below meth c n0 sf h kc ks T) {pc n index k : Nat} {ls : Array Slot} {st : List Value} (hd : decode bytes pc = .ok (.new index, 3)) (w : (Cond.classLink y.cls index C).before a0 Z = true) (wi : (Cond.instantiable C k).before a0 Z = true) (wz : (Cond.initialized C).before a0 Z = true) (hc : kc + 1 ≤ R.cells) (hl : ks + k ≤ R.slots) (hn : pc + 3 = n) (K : ∀ T' h' a, a = h.size → Sd kn Z a0 EL y bytes maxL ret p l e R s m args below meth c n0 (a :: sf) h' (kc + 1) (ks + k) T' → Ext h h' → Exa Z h' a C → (∀ {O nm d : String} {ty : FieldType}, Laid Z a0 C O nm d → parseFieldDescriptor d = some ty → Fld Z h' a O nm d (defaultValue ty)) → Unt h' a → Run Z EL p e below s n0 fc fs Q (T'.setTop (mkF m n ls (.ref a :: st)))) : Run Z EL p e below s n0 fc fs Q (T.setTop (mkF m pc ls st)) := by
  subst hn; obtain ⟨s', L', i', j', Y, r1, hZ, hown, hml, hnm, r3, r4, hx, kN, kE, kW⟩ := X.op
  obtain ⟨T', h', Y', e', E, A, D, U, stp⟩ := newO Y hx hZ hown w wi wz r1 (g := mkF m pc ls st) rfl (X.dc hd) (by omega) (by omega)
  exact (K T' h' _ rfl (kE T' h' 1 k Y' e' E A.lt) E A D U).st stp
theorem putfield (X : Sd kn Z a0 EL y bytes maxL ret p l e R s m args below meth c n0 sf h kc ks T) {pc n index k : Nat} {ls : Array Slot} {st : List Value} {R0 O : String} {v' old : Value} (hd : decode bytes pc = .ok (.putfield index, 3)) (w : (Cond.fieldLink y.cls index R0 f d).before a0 Z = true) (via : Via Z R0 O f d) (F : Fld Z h a O f d old) (E : Exa Z h a C) (L : (Cond.lays C O f d).before a0 Z = true ∨ ((Cond.laysFinal C O f d).before a0 Z = true ∧ y.cls = O ∧ y.name = "<init>")) (wi : (Cond.instantiable C k).before a0 Z = true) (hty : parseFieldDescriptor d = some ty) (hv : narrow ty v = v') (hf : fits ty v' = true) (hfr : n0 ≤ a) (hs : a ∈ sf) (hn : pc + 3 = n) (K : ∀ T' h', Sd kn Z a0 EL y bytes maxL ret p l e R s m args below meth c n0 sf h' kc ks T' → Wr h h' a (RoadKit.slotOf Z O f d) v' → Fld Z h' a O f d v' → Run Z EL p e below s n0 fc fs Q (T'.setTop (mkF m n ls st))) : Run Z EL p e below s n0 fc fs Q (T.setTop (mkF m pc ls (v :: .ref a :: st))) := by
  subst hn; obtain ⟨s', L', i', j', Y, r1, hZ, hown, hml, hnm, r3, r4, hx, kN, kE, kW⟩ := X.op
  obtain ⟨T', h', Y', e', W, stp⟩ := putFN Y hx hZ hown w via r1 F E (L.imp id fun z => ⟨z.1, z.2.1, hnm.trans z.2.2⟩) wi hty hv hf (g := mkF m pc ls (v :: .ref a :: st)) rfl rfl (X.dc hd)
  exact (K T' h' (kW T' h' a _ _ hs hfr Y' e' W) W (F.same W)).st stp
theorem clone (X : Sd kn Z a0 EL y bytes maxL ret p l e R s m args below meth c n0 sf h kc ks T) {pc n index W cap : Nat} {ls : Array Slot} {st : List Value} {ad : String} (hd : decode bytes pc = .ok (.invokevirtual index, 3)) (w1 : (Cond.methodLink y.cls index ⟨ad, "clone", "()Ljava/lang/Object;"⟩).before a0 Z = true) (w2 : (Cond.sameMethod ad "java/lang/Object" "clone" "()Ljava/lang/Object;").before a0 Z = true) (w3 : (Cond.native ⟨"java/lang/Object", "clone", "()Ljava/lang/Object;"⟩).before a0 Z = true) (w4 : (Cond.instanceMethod ⟨"java/lang/Object", "clone", "()Ljava/lang/Object;"⟩).before a0 Z = true) (w5 : (Cond.selects ad ⟨ad, "clone", "()Ljava/lang/Object;"⟩ ⟨"java/lang/Object", "clone", "()Ljava/lang/Object;"⟩).before a0 Z = true) (w6 : (Cond.castable ad "java/lang/Cloneable").before a0 Z = true) (A : Ark Z h a ty vs) (E : Exa Z h a ad) (hsize : ls.size = maxL) (hf : 1 ≤ R.frames) (hW : (st.map fun v => v.category).sum ≤ W) (hl : W + 14 ≤ R.locals) (hcap : vs.length ≤ cap) (hc : kc + 1 ≤ R.cells) (hsl : ks + cap ≤ R.slots) (hn : pc + 3 = n) (K : ∀ T' h' b, b = h.size → Sd kn Z a0 EL y bytes maxL ret p l e R s m args below meth c n0 (b :: sf) h' (kc + 1) (ks + cap) T' → Ext h h' → Ark Z h' b ty vs → Exa Z h' b ad → Run Z EL p e below s n0 fc fs Q (T'.setTop (mkF m n ls (.ref b :: st)))) : Run Z EL p e below s n0 fc fs Q (T.setTop (mkF m pc ls (.ref a :: st))) := by
  subst hn; obtain ⟨s', L', i', j', Y, r1, hZ, hown, hml, hnm, r3, r4, hx, kN, kE, kW⟩ := X.op
  obtain ⟨c', A, s1, s2, s3⟩ := A
  have e1 : c'.slots.size = vs.length := by rw [s1]; simp
  have FC : FitC Z c' := fitC_of A fun i hi v hv => by
    rw [s1] at hv
    exact s3 v (List.mem_of_getElem? (i := i) (by simpa using hv))
  obtain ⟨T', h', Y', e', ex, A', E', stp⟩ := cloneA Y hx hZ hown w1 w2 w3 w4 w5 w6 r1 A E FC (g := mkF m pc ls (.ref a :: st)) rfl (by rw [hml]; exact hsize) rfl (X.dc hd) hf (W := W) (cap := cap) (by simpa using hW) hl (by rw [e1]; exact hcap) (by omega) (by omega)
  exact (K T' h' _ rfl (kE T' h' 1 cap Y' e' ex A'.lt) ex ⟨_, A', s1, s2, s3⟩ E').st stp
theorem ldcS (X : Sd kn Z a0 EL y bytes maxL ret p l e R s m args below meth c n0 sf h kc ks T) {pc n index nn : Nat} {ls : Array Slot} {st : List Value} {text : String} {bs : List Int32} (hd : decode bytes pc = .ok (.ldc index, 2)) (w : (Cond.stringLink y.cls index text).before a0 Z = true) (wS : ∀ a ∈ Bundle.stringAtoms, a.before a0 Z = true) (hmem : (y.cls, index) ∈ EL) (ht : (∀ c ∈ text.toList, c.toNat < 256) ∧ text.toList.map (fun c => Value.int (Jvm.Lit.byteI c.toNat.toUInt16)) = bs.map Value.int) (hlt : bs.length < 2147483648) (hn4 : 4 * text.toList.length ≤ nn) (hbig : nn ≤ 536870912) (hc : kc + 2 ≤ R.cells) (hl : ks + (nn + 4) ≤ R.slots) (hn : pc + 2 = n) (K : ∀ T' h' a b, Sd kn Z a0 EL y bytes maxL ret p l e R s m args below meth c n0 sf h' (kc + 2) (ks + (nn + 4)) T' → Ext h h' → Exa Z h' a "java/lang/String" → Fld Z h' a "java/lang/String" "coder" "B" (.int 0) → Fld Z h' a "java/lang/String" "value" "[B" (.ref b) → Ark Z h' b .byte (bs.map Value.int) → (∀ x ∈ sf, x ≠ a ∧ x ≠ b) → Run Z EL p e below s n0 fc fs Q (T'.setTop (mkF m n ls (.ref a :: st)))) : Run Z EL p e below s n0 fc fs Q (T.setTop (mkF m pc ls st)) := by
  subst hn
  have hdc := X.dc hd
  obtain ⟨vm0, k0, q, ⟨hS, hk, hE, hC, hs, hkn⟩, L, i, j, Y, r1, r2, r3, r4⟩ := X
  have hz : (bs.length.toInt32).toInt = bs.length := Int32.toInt_ofNat_small hlt
  obtain ⟨a, T', h', k1, b, k, Y', e', E, hS', hk', hZ', hown', g1, g2, g3, g4, g5, g6, hC', hL, hne, stp⟩ := ldcCH Y q.1 q.2.1 q.2.2.2.2.2.2.1 w wS r1 hS hk hE hmem hC.1 ht (z := bs.length.toInt32) (toNatC hz).2 (by rw [(toNatC hz).1]; simp) (g := mkF m pc ls st) rfl hdc hn4 hbig (by omega) (by omega)
  have hal : vm0.Alike T'.vm := by have z := hS.1.alike; have z' := hS'.1.alike; exact z.symm.trans z'
  refine (K T' h' a b ⟨T'.vm, k1, ⟨q.1, hZ', q.2.2.1, q.2.2.2.1, q.2.2.2.2.1, q.2.2.2.2.2.1, hown', q.2.2.2.2.2.2.2⟩, ⟨hS', hk', hE, hC.trans hC', fun x hx => ⟨hC'.safe (hs x hx).2 (hs x hx).1, Nat.lt_of_lt_of_le (hs x hx).2 E.1⟩, fun hh => ?_⟩, _, _, _, Y', e', r2, by omega, by omega⟩ E g1 g2 g3 (Ark.ofArv g4 (by rw [(toNatC hz).1]; simp)) (fun x hx => hne x (hC'.safe (hs x hx).2 (hs x hx).1))).st stp
  exact ⟨Vm.MethodsKnown.alikeC hal (hkn hh).1, FKalike hal (hkn hh).2⟩
theorem lenA {d : String} {ps : List FieldType} {r : Option FieldType} (hd : parseMethodDescriptor d = some ⟨ps, r⟩) {L : List Value} (hl : L.length = ps.length) : ∀ sig, parseMethodDescriptor d = some sig → L.length = sig.parameters.length := lenOf hd hl
theorem ctrBack {z : MethodName} {ybytes : ByteArray} {yL : Nat} {yret : Option FieldType} {rm : Room} {sfc : List Addr} {as : Array Value} {Qc : Option Value → Heap → List Addr → Prop} {len W : Nat} {vm0 : Vm} (hC : Ctr kn l Z EL z ybytes yL yret [] rm n0 sfc as h Qc) (hZ : Z.Warmed39 vm0) (wc : (Cond.code z ybytes yL yret).before a0 Z = true) (wz : (Cond.initialized z.cls).before a0 Z = true) (hf : rm.frames + 1 ≤ R.frames) (hl : W + (yL + 11) + rm.locals ≤ R.locals) (hEL : EW Z a0 EL) (H : CHv Z EL vm0 h) (hs : ∀ x ∈ sfc, Safe Z EL vm0 h x ∧ x < h.size) (hkn : kn → vm0.MethodsKnown ∧ vm0.FramesKnown below) :
    BackS l R p e below (s.setVm vm0) args z len W (fun A a => a = as ∧ A.U.heap = h ∧ A.cells + rm.cells ≤ R.cells ∧ A.slots + rm.slots ≤ R.slots) (fun A _ v B => ∃ L, (∃ sfn, Qc v B.U.heap sfn ∧ (∀ x ∈ sfn, Safe Z EL B.U.vm B.U.heap x ∧ x < B.U.heap.size) ∧ Fr n0 L) ∧ B.locs = A.locs ++ L ∧ B.cells = A.cells + rm.cells ∧ B.slots = A.slots + rm.slots ∧ CHr Z EL vm0 h B.U.vm B.U.heap) :=
  BackS.of_freeWG (bytes := ybytes) (maxL := yL) (ret := yret) (E := fun _ first o t L k n => k = rm.cells ∧ n = rm.slots ∧ (∃ v, o = .returned v ∧ ∃ sfn, Qc v t.heap sfn ∧ (∀ x ∈ sfn, Safe Z EL t.vm t.heap x ∧ x < t.heap.size) ∧ Fr n0 L) ∧ CHr Z EL first.vm first.heap t.vm t.heap) hC hf hl
    (fun m meth c A a Y hp => have hU : Z.Warmed39 A.U.vm := wtrans (s := s.setVm vm0) hZ Y.warmed
      ⟨by show (Cond.and _ .tt).before a A.U = true; rw [Cond.before_and, mv hU wc]; rfl, mv hU wc, mv hU wz, hp.2.2.1, hp.2.2.2⟩)
    (fun m meth c A a g mk Y hp => have hA := CHv.at Y hZ hEL H
      ⟨hp.1, wtrans (s := s.setVm vm0) hZ Y.warmed, hp.2.1, hA.1, fun x hx => ⟨hA.safe (hs x hx).2 (hs x hx).1, (hs x hx).2⟩⟩)
    (fun m meth c A a g mk Y _ hg hh => known_frames Y hg (hkn hh).1 (hkn hh).2)
    (fun _ _ _ _ ⟨v, L, h1, h2, h3, h4⟩ => ⟨L, _, _, h4, rfl, rfl, ⟨v, h1, h2⟩, h3⟩)
    (fun m meth c A a g mk v t L k n Y hp _ _ ⟨e1, e2, ⟨v', e3, e4⟩, e5⟩ => by
      cases e3; subst e1 e2
      refine ⟨L, e4, rfl, rfl, rfl, (CHv.at Y hZ hEL H).trans ?_⟩
      rw [← hp.2.1]; exact e5)
theorem call_static (X : Sd kn Z a0 EL y bytes maxL ret p l e R s m args below meth c n0 sf h kc ks T) {rm : Room} {ybytes : ByteArray} {yL : Nat} {yret : Option FieldType} {z : MethodName} {sfc : List Addr} {Qc : Option Value → Heap → List Addr → Prop} {pc n index W : Nat} {ls : Array Slot} {st rest argsL : List Value} (hd : decode bytes pc = .ok (.invokestatic index, 3)) (w1 : (Cond.methodLink y.cls index z).before a0 Z = true) (w2 : (Cond.static z).before a0 Z = true) (wc : (Cond.code z ybytes yL yret).before a0 Z = true) (wi : (Cond.initialized z.cls).before a0 Z = true) (hy : z.cls ≠ "java/lang/invoke/MethodHandle" ∧ z.cls ≠ "java/lang/invoke/VarHandle") (hC : Ctr kn l Z EL z ybytes yL yret [] rm n0 sfc argsL.toArray h Qc) (hsf : ∀ x ∈ sfc, x ∈ sf) (hst : st = argsL.reverse ++ rest) (hsize : ls.size = maxL) (hlen : ∀ sig, parseMethodDescriptor z.desc = some sig → argsL.length = sig.parameters.length) (hW : (rest.map fun v => v.category).sum ≤ W) (hfr : rm.frames + 1 ≤ R.frames) (hlo : W + (yL + 11) + rm.locals ≤ R.locals) (hce : kc + rm.cells ≤ R.cells) (hsl : ks + rm.slots ≤ R.slots) (hn : pc + 3 = n) (K : ∀ T' h' v sfn, h.size ≤ h'.size → Sd kn Z a0 EL y bytes maxL ret p l e R s m args below meth c n0 (sf ++ sfn) h' (kc + rm.cells) (ks + rm.slots) T' → Qc v h' sfn → Run Z EL p e below s n0 fc fs Q (T'.setTop (mkF m n ls (v.toList ++ rest)))) : Run Z EL p e below s n0 fc fs Q (T.setTop (mkF m pc ls st)) := by
  subst hn hst
  have hdc := X.dc hd
  obtain ⟨vm0, k0, q, ⟨hS, hk, hE, hCr, hs, hkn⟩, L, i, j, Y, r1, r2, r3, r4⟩ := X
  have hB := ctrBack (W := W) (R := R) (p := p) (e := e) (s := s) (below := below) (args := args) (len := 3) (vm0 := vm0) hC q.2.1 wc wi hfr hlo hE hCr.1 (fun x hx => hs x (hsf x hx)) hkn
  have hZ : Z.Warmed39 (s.setVm vm0).vm := q.2.1
  have hown : (s.setVm vm0).vm.findClass y.cls = some m.cls := q.2.2.2.2.2.2.1
  obtain ⟨v, vm₁, ⟨T', L', k', n'⟩, -, Y', S', g', ⟨Lc, hQ, l', y', z', C'⟩, stp⟩ := callSS Y q.1 (y := z) hown (mvT hZ w1) (mvT hZ w2) (mvT hZ wi) (mvT hZ wc) hy hB (g := mkF m pc ls (argsL.reverse ++ rest)) rfl (by rw [q.2.2.2.1]; exact hsize) (argsL := argsL) (rest := rest) hlen rfl (by simpa using hW) hdc (fun _ _ => ⟨rfl, r1, by dsimp only [Pt.cells]; omega, by dsimp only [Pt.slots]; omega⟩)
  dsimp only [Pt.U, Pt.locs, Pt.cells, Pt.slots] at Y' l' y' z' stp hQ S' g' C'
  obtain ⟨sfn, hQ1, hQs, hQ2⟩ := hQ
  subst l' y' z'
  obtain ⟨Y2, S2, Z2, O2⟩ := rebS hS hk Y' S' (by rw [← r1]; exact g') hZ hown
  have hal : vm0.Alike T'.vm := S'.1.alike
  refine (K T' T'.heap v sfn (by rw [← r1]; exact g') ⟨T'.vm, T'.heap.size, ⟨q.1, Z2, q.2.2.1, q.2.2.2.1, q.2.2.2.2.1, q.2.2.2.2.2.1, O2, q.2.2.2.2.2.2.2⟩, ⟨S2, Nat.le_refl _, hE, hCr.trans C', ?_, fun hh => ⟨Vm.MethodsKnown.alikeC hal (hkn hh).1, FKalike hal (hkn hh).2⟩⟩, _, _, _, Y2, rfl, Fr.app r2 hQ2, by omega, by omega⟩ hQ1).st fun t k => stp.trans k
  intro x hx
  rcases List.mem_append.mp hx with hx | hx
  · exact ⟨C'.safe (hs x hx).2 (hs x hx).1, Nat.lt_of_lt_of_le (hs x hx).2 (by rw [← r1]; exact g')⟩
  · exact hQs x hx
theorem call_static_v (X : Sd kn Z a0 EL y bytes maxL ret p l e R s m args below meth c n0 sf h kc ks T) {rm : Room} {ybytes : ByteArray} {yL : Nat} {yret : Option FieldType} {z : MethodName} {sfc : List Addr} {Qv : Value → Heap → List Addr → Prop} {pc n index W : Nat} {ls : Array Slot} {st rest argsL : List Value} (hd : decode bytes pc = .ok (.invokestatic index, 3)) (w1 : (Cond.methodLink y.cls index z).before a0 Z = true) (w2 : (Cond.static z).before a0 Z = true) (wc : (Cond.code z ybytes yL yret).before a0 Z = true) (wi : (Cond.initialized z.cls).before a0 Z = true) (hy : z.cls ≠ "java/lang/invoke/MethodHandle" ∧ z.cls ≠ "java/lang/invoke/VarHandle") (hC : Ctr kn l Z EL z ybytes yL yret [] rm n0 sfc argsL.toArray h (Rt Qv)) (hsf : ∀ x ∈ sfc, x ∈ sf) (hst : st = argsL.reverse ++ rest) (hsize : ls.size = maxL) (hlen : ∀ sig, parseMethodDescriptor z.desc = some sig → argsL.length = sig.parameters.length) (hW : (rest.map fun v => v.category).sum ≤ W) (hfr : rm.frames + 1 ≤ R.frames) (hlo : W + (yL + 11) + rm.locals ≤ R.locals) (hce : kc + rm.cells ≤ R.cells) (hsl : ks + rm.slots ≤ R.slots) (hn : pc + 3 = n) (K : ∀ T' h' w sfn, h.size ≤ h'.size → Sd kn Z a0 EL y bytes maxL ret p l e R s m args below meth c n0 (sf ++ sfn) h' (kc + rm.cells) (ks + rm.slots) T' → Qv w h' sfn → Run Z EL p e below s n0 fc fs Q (T'.setTop (mkF m n ls (w :: rest)))) : Run Z EL p e below s n0 fc fs Q (T.setTop (mkF m pc ls st)) :=
  call_static X hd w1 w2 wc wi hy hC hsf hst hsize hlen hW hfr hlo hce hsl hn fun T' h' v g hh X' q => by obtain ⟨w, rfl, q⟩ := q; exact K T' h' w g hh X' q
theorem call_static_n (X : Sd kn Z a0 EL y bytes maxL ret p l e R s m args below meth c n0 sf h kc ks T) {rm : Room} {ybytes : ByteArray} {yL : Nat} {yret : Option FieldType} {z : MethodName} {sfc : List Addr} {Qn : Heap → List Addr → Prop} {pc n index W : Nat} {ls : Array Slot} {st rest argsL : List Value} (hd : decode bytes pc = .ok (.invokestatic index, 3)) (w1 : (Cond.methodLink y.cls index z).before a0 Z = true) (w2 : (Cond.static z).before a0 Z = true) (wc : (Cond.code z ybytes yL yret).before a0 Z = true) (wi : (Cond.initialized z.cls).before a0 Z = true) (hy : z.cls ≠ "java/lang/invoke/MethodHandle" ∧ z.cls ≠ "java/lang/invoke/VarHandle") (hC : Ctr kn l Z EL z ybytes yL yret [] rm n0 sfc argsL.toArray h (Rn Qn)) (hsf : ∀ x ∈ sfc, x ∈ sf) (hst : st = argsL.reverse ++ rest) (hsize : ls.size = maxL) (hlen : ∀ sig, parseMethodDescriptor z.desc = some sig → argsL.length = sig.parameters.length) (hW : (rest.map fun v => v.category).sum ≤ W) (hfr : rm.frames + 1 ≤ R.frames) (hlo : W + (yL + 11) + rm.locals ≤ R.locals) (hce : kc + rm.cells ≤ R.cells) (hsl : ks + rm.slots ≤ R.slots) (hn : pc + 3 = n) (K : ∀ T' h' sfn, h.size ≤ h'.size → Sd kn Z a0 EL y bytes maxL ret p l e R s m args below meth c n0 (sf ++ sfn) h' (kc + rm.cells) (ks + rm.slots) T' → Qn h' sfn → Run Z EL p e below s n0 fc fs Q (T'.setTop (mkF m n ls rest))) : Run Z EL p e below s n0 fc fs Q (T.setTop (mkF m pc ls st)) :=
  call_static X hd w1 w2 wc wi hy hC hsf hst hsize hlen hW hfr hlo hce hsl hn fun T' h' v g hh X' q => by obtain ⟨rfl, q⟩ := q; exact K T' h' g hh X' q
theorem call_virtual (X : Sd kn Z a0 EL y bytes maxL ret p l e R s m args below meth c n0 sf h kc ks T) {rm : Room} {ybytes : ByteArray} {yL : Nat} {yret : Option FieldType} {z : MethodName} {sfc : List Addr} {Qc : Option Value → Heap → List Addr → Prop} {pc n index W : Nat} {ls : Array Slot} {st rest argsL : List Value} {a : Addr} {C : String} {yv : MethodName} (hd : decode bytes pc = .ok (.invokevirtual index, 3)) (w1 : (Cond.methodLink y.cls index yv).before a0 Z = true) (w2 : (Cond.declares yv).before a0 Z = true) (w3 : (Cond.instanceMethod z).before a0 Z = true) (w4 : (Cond.selects C yv z).before a0 Z = true) (hnf : ∀ {s' : State}, Z.Warmed39 s'.vm → NotFace s' yv) (wc : (Cond.code z ybytes yL yret).before a0 Z = true) (wi : (Cond.initialized z.cls).before a0 Z = true) (hy : yv.cls ≠ "java/lang/invoke/MethodHandle" ∧ yv.cls ≠ "java/lang/invoke/VarHandle") (E : Exa Z h a C) (hC : Ctr kn l Z EL z ybytes yL yret [] rm n0 sfc (.ref a :: argsL).toArray h Qc) (hsf : ∀ x ∈ sfc, x ∈ sf) (hst : st = argsL.reverse ++ .ref a :: rest) (hsize : ls.size = maxL) (hlen : ∀ sig, parseMethodDescriptor yv.desc = some sig → argsL.length = sig.parameters.length) (hW : (rest.map fun v => v.category).sum ≤ W) (hfr : rm.frames + 1 ≤ R.frames) (hlo : W + (yL + 11) + rm.locals ≤ R.locals) (hce : kc + rm.cells ≤ R.cells) (hsl : ks + rm.slots ≤ R.slots) (hn : pc + 3 = n) (K : ∀ T' h' v sfn, h.size ≤ h'.size → Sd kn Z a0 EL y bytes maxL ret p l e R s m args below meth c n0 (sf ++ sfn) h' (kc + rm.cells) (ks + rm.slots) T' → Qc v h' sfn → Run Z EL p e below s n0 fc fs Q (T'.setTop (mkF m n ls (v.toList ++ rest)))) : Run Z EL p e below s n0 fc fs Q (T.setTop (mkF m pc ls st)) := by
  subst hn hst
  have hdc := X.dc hd
  obtain ⟨vm0, k0, q, ⟨hS, hk, hE, hCr, hs, hkn⟩, L, i, j, Y, r1, r2, r3, r4⟩ := X
  have hB := ctrBack (W := W) (R := R) (p := p) (e := e) (s := s) (below := below) (args := args) (len := 3) (vm0 := vm0) hC q.2.1 wc wi hfr hlo hE hCr.1 (fun x hx => hs x (hsf x hx)) hkn
  have hZ : Z.Warmed39 (s.setVm vm0).vm := q.2.1
  have hown : (s.setVm vm0).vm.findClass y.cls = some m.cls := q.2.2.2.2.2.2.1
  obtain ⟨cq, kq, qa, qb, qc⟩ := isOf (T := T) hZ r1 E
  obtain ⟨v, vm₁, ⟨T', L', k', n'⟩, -, Y', S', g', ⟨Lc, hQ, l', y', z', C'⟩, stp⟩ := Y.virtualBackS q.1 (y := yv) (z := z) hown (mvT hZ w1) (mvT hZ w2) (hnf hZ) (mvT hZ w4) (mvT hZ w3) hy hB qa qc (g := mkF m pc ls (argsL.reverse ++ .ref a :: rest)) rfl (by rw [q.2.2.2.1]; exact hsize) (Steps.refl _) (argsL := argsL) (rest := rest) hlen rfl (by simpa using hW) hdc (fun _ _ => ⟨rfl, r1, by dsimp only [Pt.cells]; omega, by dsimp only [Pt.slots]; omega⟩)
  dsimp only [Pt.U, Pt.locs, Pt.cells, Pt.slots] at Y' l' y' z' stp hQ S' g' C'
  obtain ⟨sfn, hQ1, hQs, hQ2⟩ := hQ
  subst l' y' z'
  obtain ⟨Y2, S2, Z2, O2⟩ := rebS hS hk Y' S' (by rw [← r1]; exact g') hZ hown
  have hal : vm0.Alike T'.vm := S'.1.alike
  refine (K T' T'.heap v sfn (by rw [← r1]; exact g') ⟨T'.vm, T'.heap.size, ⟨q.1, Z2, q.2.2.1, q.2.2.2.1, q.2.2.2.2.1, q.2.2.2.2.2.1, O2, q.2.2.2.2.2.2.2⟩, ⟨S2, Nat.le_refl _, hE, hCr.trans C', ?_, fun hh => ⟨Vm.MethodsKnown.alikeC hal (hkn hh).1, FKalike hal (hkn hh).2⟩⟩, _, _, _, Y2, rfl, Fr.app r2 hQ2, by omega, by omega⟩ hQ1).st fun t k => stp.trans k
  intro x hx
  rcases List.mem_append.mp hx with hx | hx
  · exact ⟨C'.safe (hs x hx).2 (hs x hx).1, Nat.lt_of_lt_of_le (hs x hx).2 (by rw [← r1]; exact g')⟩
  · exact hQs x hx
theorem call_virtual_v (X : Sd kn Z a0 EL y bytes maxL ret p l e R s m args below meth c n0 sf h kc ks T) {rm : Room} {ybytes : ByteArray} {yL : Nat} {yret : Option FieldType} {z : MethodName} {sfc : List Addr} {Qv : Value → Heap → List Addr → Prop} {pc n index W : Nat} {ls : Array Slot} {st rest argsL : List Value} {a : Addr} {C : String} {yv : MethodName} (hd : decode bytes pc = .ok (.invokevirtual index, 3)) (w1 : (Cond.methodLink y.cls index yv).before a0 Z = true) (w2 : (Cond.declares yv).before a0 Z = true) (w3 : (Cond.instanceMethod z).before a0 Z = true) (w4 : (Cond.selects C yv z).before a0 Z = true) (hnf : ∀ {s' : State}, Z.Warmed39 s'.vm → NotFace s' yv) (wc : (Cond.code z ybytes yL yret).before a0 Z = true) (wi : (Cond.initialized z.cls).before a0 Z = true) (hy : yv.cls ≠ "java/lang/invoke/MethodHandle" ∧ yv.cls ≠ "java/lang/invoke/VarHandle") (E : Exa Z h a C) (hC : Ctr kn l Z EL z ybytes yL yret [] rm n0 sfc (.ref a :: argsL).toArray h (Rt Qv)) (hsf : ∀ x ∈ sfc, x ∈ sf) (hst : st = argsL.reverse ++ .ref a :: rest) (hsize : ls.size = maxL) (hlen : ∀ sig, parseMethodDescriptor yv.desc = some sig → argsL.length = sig.parameters.length) (hW : (rest.map fun v => v.category).sum ≤ W) (hfr : rm.frames + 1 ≤ R.frames) (hlo : W + (yL + 11) + rm.locals ≤ R.locals) (hce : kc + rm.cells ≤ R.cells) (hsl : ks + rm.slots ≤ R.slots) (hn : pc + 3 = n) (K : ∀ T' h' w sfn, h.size ≤ h'.size → Sd kn Z a0 EL y bytes maxL ret p l e R s m args below meth c n0 (sf ++ sfn) h' (kc + rm.cells) (ks + rm.slots) T' → Qv w h' sfn → Run Z EL p e below s n0 fc fs Q (T'.setTop (mkF m n ls (w :: rest)))) : Run Z EL p e below s n0 fc fs Q (T.setTop (mkF m pc ls st)) :=
  call_virtual X hd w1 w2 w3 w4 hnf wc wi hy E hC hsf hst hsize hlen hW hfr hlo hce hsl hn fun T' h' v g hh X' q => by obtain ⟨w, rfl, q⟩ := q; exact K T' h' w g hh X' q
theorem call_virtual_n (X : Sd kn Z a0 EL y bytes maxL ret p l e R s m args below meth c n0 sf h kc ks T) {rm : Room} {ybytes : ByteArray} {yL : Nat} {yret : Option FieldType} {z : MethodName} {sfc : List Addr} {Qn : Heap → List Addr → Prop} {pc n index W : Nat} {ls : Array Slot} {st rest argsL : List Value} {a : Addr} {C : String} {yv : MethodName} (hd : decode bytes pc = .ok (.invokevirtual index, 3)) (w1 : (Cond.methodLink y.cls index yv).before a0 Z = true) (w2 : (Cond.declares yv).before a0 Z = true) (w3 : (Cond.instanceMethod z).before a0 Z = true) (w4 : (Cond.selects C yv z).before a0 Z = true) (hnf : ∀ {s' : State}, Z.Warmed39 s'.vm → NotFace s' yv) (wc : (Cond.code z ybytes yL yret).before a0 Z = true) (wi : (Cond.initialized z.cls).before a0 Z = true) (hy : yv.cls ≠ "java/lang/invoke/MethodHandle" ∧ yv.cls ≠ "java/lang/invoke/VarHandle") (E : Exa Z h a C) (hC : Ctr kn l Z EL z ybytes yL yret [] rm n0 sfc (.ref a :: argsL).toArray h (Rn Qn)) (hsf : ∀ x ∈ sfc, x ∈ sf) (hst : st = argsL.reverse ++ .ref a :: rest) (hsize : ls.size = maxL) (hlen : ∀ sig, parseMethodDescriptor yv.desc = some sig → argsL.length = sig.parameters.length) (hW : (rest.map fun v => v.category).sum ≤ W) (hfr : rm.frames + 1 ≤ R.frames) (hlo : W + (yL + 11) + rm.locals ≤ R.locals) (hce : kc + rm.cells ≤ R.cells) (hsl : ks + rm.slots ≤ R.slots) (hn : pc + 3 = n) (K : ∀ T' h' sfn, h.size ≤ h'.size → Sd kn Z a0 EL y bytes maxL ret p l e R s m args below meth c n0 (sf ++ sfn) h' (kc + rm.cells) (ks + rm.slots) T' → Qn h' sfn → Run Z EL p e below s n0 fc fs Q (T'.setTop (mkF m n ls rest))) : Run Z EL p e below s n0 fc fs Q (T.setTop (mkF m pc ls st)) :=
  call_virtual X hd w1 w2 w3 w4 hnf wc wi hy E hC hsf hst hsize hlen hW hfr hlo hce hsl hn fun T' h' v g hh X' q => by obtain ⟨rfl, q⟩ := q; exact K T' h' g hh X' q
theorem call_special (X : Sd kn Z a0 EL y bytes maxL ret p l e R s m args below meth c n0 sf h kc ks T) {rm : Room} {ybytes : ByteArray} {yL : Nat} {yret : Option FieldType} {z : MethodName} {sfc : List Addr} {Qc : Option Value → Heap → List Addr → Prop} {pc n index W : Nat} {ls : Array Slot} {st rest argsL : List Value} {a : Addr} (hd : decode bytes pc = .ok (.invokespecial index, 3)) (w1 : (Cond.methodLink y.cls index z).before a0 Z = true) (w2 : (Cond.instanceMethod z).before a0 Z = true) (wc : (Cond.code z ybytes yL yret).before a0 Z = true) (wi : (Cond.initialized z.cls).before a0 Z = true) (hz : z.name = "<init>") (hr : yret = none) (hy : z.cls ≠ "java/lang/invoke/MethodHandle" ∧ z.cls ≠ "java/lang/invoke/VarHandle") (hC : Ctr kn l Z EL z ybytes yL yret [] rm n0 sfc (.ref a :: argsL).toArray h Qc) (hsf : ∀ x ∈ sfc, x ∈ sf) (hst : st = argsL.reverse ++ .ref a :: rest) (hsize : ls.size = maxL) (hlen : ∀ sig, parseMethodDescriptor z.desc = some sig → argsL.length = sig.parameters.length) (hW : (rest.map fun v => v.category).sum ≤ W) (hfr : rm.frames + 1 ≤ R.frames) (hlo : W + (yL + 11) + rm.locals ≤ R.locals) (hce : kc + rm.cells ≤ R.cells) (hsl : ks + rm.slots ≤ R.slots) (hn : pc + 3 = n) (K : ∀ T' h' v sfn, h.size ≤ h'.size → Sd kn Z a0 EL y bytes maxL ret p l e R s m args below meth c n0 (sf ++ sfn) h' (kc + rm.cells) (ks + rm.slots) T' → Qc v h' sfn → Run Z EL p e below s n0 fc fs Q (T'.setTop (mkF m n ls (v.toList ++ rest)))) : Run Z EL p e below s n0 fc fs Q (T.setTop (mkF m pc ls st)) := by
  subst hn hst
  have hdc := X.dc hd
  obtain ⟨vm0, k0, q, ⟨hS, hk, hE, hCr, hs, hkn⟩, L, i, j, Y, r1, r2, r3, r4⟩ := X
  have hB := ctrBack (W := W) (R := R) (p := p) (e := e) (s := s) (below := below) (args := args) (len := 3) (vm0 := vm0) hC q.2.1 wc wi hfr hlo hE hCr.1 (fun x hx => hs x (hsf x hx)) hkn
  have hZ : Z.Warmed39 (s.setVm vm0).vm := q.2.1
  have hown : (s.setVm vm0).vm.findClass y.cls = some m.cls := q.2.2.2.2.2.2.1
  obtain ⟨v, vm₁, ⟨T', L', k', n'⟩, -, Y', S', g', ⟨Lc, hQ, l', y', z', C'⟩, stp⟩ := Y.specialBackS q.1 (y := z) hz hown (mvT hZ w1) (mvT hZ w2) (mvT hZ (hr ▸ wc)) hy hB (g := mkF m pc ls (argsL.reverse ++ .ref a :: rest)) rfl (by rw [q.2.2.2.1]; exact hsize) (Steps.refl _) (a := a) (argsL := argsL) (rest := rest) hlen rfl (by simpa using hW) hdc (fun _ _ => ⟨rfl, r1, by dsimp only [Pt.cells]; omega, by dsimp only [Pt.slots]; omega⟩)
  dsimp only [Pt.U, Pt.locs, Pt.cells, Pt.slots] at Y' l' y' z' stp hQ S' g' C'
  obtain ⟨sfn, hQ1, hQs, hQ2⟩ := hQ
  subst l' y' z'
  obtain ⟨Y2, S2, Z2, O2⟩ := rebS hS hk Y' S' (by rw [← r1]; exact g') hZ hown
  have hal : vm0.Alike T'.vm := S'.1.alike
  refine (K T' T'.heap v sfn (by rw [← r1]; exact g') ⟨T'.vm, T'.heap.size, ⟨q.1, Z2, q.2.2.1, q.2.2.2.1, q.2.2.2.2.1, q.2.2.2.2.2.1, O2, q.2.2.2.2.2.2.2⟩, ⟨S2, Nat.le_refl _, hE, hCr.trans C', ?_, fun hh => ⟨Vm.MethodsKnown.alikeC hal (hkn hh).1, FKalike hal (hkn hh).2⟩⟩, _, _, _, Y2, rfl, Fr.app r2 hQ2, by omega, by omega⟩ hQ1).st fun t k => stp.trans k
  intro x hx
  rcases List.mem_append.mp hx with hx | hx
  · exact ⟨C'.safe (hs x hx).2 (hs x hx).1, Nat.lt_of_lt_of_le (hs x hx).2 (by rw [← r1]; exact g')⟩
  · exact hQs x hx
theorem call_special_v (X : Sd kn Z a0 EL y bytes maxL ret p l e R s m args below meth c n0 sf h kc ks T) {rm : Room} {ybytes : ByteArray} {yL : Nat} {yret : Option FieldType} {z : MethodName} {sfc : List Addr} {Qv : Value → Heap → List Addr → Prop} {pc n index W : Nat} {ls : Array Slot} {st rest argsL : List Value} {a : Addr} (hd : decode bytes pc = .ok (.invokespecial index, 3)) (w1 : (Cond.methodLink y.cls index z).before a0 Z = true) (w2 : (Cond.instanceMethod z).before a0 Z = true) (wc : (Cond.code z ybytes yL yret).before a0 Z = true) (wi : (Cond.initialized z.cls).before a0 Z = true) (hz : z.name = "<init>") (hr : yret = none) (hy : z.cls ≠ "java/lang/invoke/MethodHandle" ∧ z.cls ≠ "java/lang/invoke/VarHandle") (hC : Ctr kn l Z EL z ybytes yL yret [] rm n0 sfc (.ref a :: argsL).toArray h (Rt Qv)) (hsf : ∀ x ∈ sfc, x ∈ sf) (hst : st = argsL.reverse ++ .ref a :: rest) (hsize : ls.size = maxL) (hlen : ∀ sig, parseMethodDescriptor z.desc = some sig → argsL.length = sig.parameters.length) (hW : (rest.map fun v => v.category).sum ≤ W) (hfr : rm.frames + 1 ≤ R.frames) (hlo : W + (yL + 11) + rm.locals ≤ R.locals) (hce : kc + rm.cells ≤ R.cells) (hsl : ks + rm.slots ≤ R.slots) (hn : pc + 3 = n) (K : ∀ T' h' w sfn, h.size ≤ h'.size → Sd kn Z a0 EL y bytes maxL ret p l e R s m args below meth c n0 (sf ++ sfn) h' (kc + rm.cells) (ks + rm.slots) T' → Qv w h' sfn → Run Z EL p e below s n0 fc fs Q (T'.setTop (mkF m n ls (w :: rest)))) : Run Z EL p e below s n0 fc fs Q (T.setTop (mkF m pc ls st)) :=
  call_special X hd w1 w2 wc wi hz hr hy hC hsf hst hsize hlen hW hfr hlo hce hsl hn fun T' h' v g hh X' q => by obtain ⟨w, rfl, q⟩ := q; exact K T' h' w g hh X' q
theorem call_special_n (X : Sd kn Z a0 EL y bytes maxL ret p l e R s m args below meth c n0 sf h kc ks T) {rm : Room} {ybytes : ByteArray} {yL : Nat} {yret : Option FieldType} {z : MethodName} {sfc : List Addr} {Qn : Heap → List Addr → Prop} {pc n index W : Nat} {ls : Array Slot} {st rest argsL : List Value} {a : Addr} (hd : decode bytes pc = .ok (.invokespecial index, 3)) (w1 : (Cond.methodLink y.cls index z).before a0 Z = true) (w2 : (Cond.instanceMethod z).before a0 Z = true) (wc : (Cond.code z ybytes yL yret).before a0 Z = true) (wi : (Cond.initialized z.cls).before a0 Z = true) (hz : z.name = "<init>") (hr : yret = none) (hy : z.cls ≠ "java/lang/invoke/MethodHandle" ∧ z.cls ≠ "java/lang/invoke/VarHandle") (hC : Ctr kn l Z EL z ybytes yL yret [] rm n0 sfc (.ref a :: argsL).toArray h (Rn Qn)) (hsf : ∀ x ∈ sfc, x ∈ sf) (hst : st = argsL.reverse ++ .ref a :: rest) (hsize : ls.size = maxL) (hlen : ∀ sig, parseMethodDescriptor z.desc = some sig → argsL.length = sig.parameters.length) (hW : (rest.map fun v => v.category).sum ≤ W) (hfr : rm.frames + 1 ≤ R.frames) (hlo : W + (yL + 11) + rm.locals ≤ R.locals) (hce : kc + rm.cells ≤ R.cells) (hsl : ks + rm.slots ≤ R.slots) (hn : pc + 3 = n) (K : ∀ T' h' sfn, h.size ≤ h'.size → Sd kn Z a0 EL y bytes maxL ret p l e R s m args below meth c n0 (sf ++ sfn) h' (kc + rm.cells) (ks + rm.slots) T' → Qn h' sfn → Run Z EL p e below s n0 fc fs Q (T'.setTop (mkF m n ls rest))) : Run Z EL p e below s n0 fc fs Q (T.setTop (mkF m pc ls st)) :=
  call_special X hd w1 w2 wc wi hz hr hy hC hsf hst hsize hlen hW hfr hlo hce hsl hn fun T' h' v g hh X' q => by obtain ⟨rfl, q⟩ := q; exact K T' h' g hh X' q
theorem joinT (X : Sd kn Z a0 EL y bytes maxL ret p l e R s m args below meth c n0 sf h kc ks T) {α : Type} (P : α → Prop) (f : α → JFrame) {t : State} (J : ∀ T' v, Sd kn Z a0 EL y bytes maxL ret p l e R s m args below meth c n0 sf h kc ks T' → P v → Run Z EL p e below s n0 fc fs Q (T'.setTop (f v))) (K : (∀ T' v, Sd kn Z a0 EL y bytes maxL ret p l e R s m args below meth c n0 sf h kc ks T' → P v → Run Z EL p e below s n0 fc fs Q (T'.setTop (f v))) → Run Z EL p e below s n0 fc fs Q t) : Run Z EL p e below s n0 fc fs Q t := K J
theorem joinH (X : Sd kn Z a0 EL y bytes maxL ret p l e R s m args below meth c n0 sf h kc ks T) (kc' ks' : Nat) {α : Type} (P : α → Heap → List Addr → Prop) (f : α → JFrame) {t : State} (J : ∀ T' h' sf' v, Sd kn Z a0 EL y bytes maxL ret p l e R s m args below meth c n0 sf' h' kc' ks' T' → P v h' sf' → Run Z EL p e below s n0 fc fs Q (T'.setTop (f v))) (K : (∀ T' h' sf' v, Sd kn Z a0 EL y bytes maxL ret p l e R s m args below meth c n0 sf' h' kc' ks' T' → P v h' sf' → Run Z EL p e below s n0 fc fs Q (T'.setTop (f v))) → Run Z EL p e below s n0 fc fs Q t) : Run Z EL p e below s n0 fc fs Q t := K J
theorem loopT (X : Sd kn Z a0 EL y bytes maxL ret p l e R s m args below meth c n0 sf h kc ks T) {α : Type} (P : α → Heap → Prop) (mu : α → Nat) (f : α → JFrame) (J : ∀ T' h' v, Sd kn Z a0 EL y bytes maxL ret p l e R s m args below meth c n0 sf h' kc ks T' → P v h' → (∀ T'' h'' v', mu v' < mu v → Sd kn Z a0 EL y bytes maxL ret p l e R s m args below meth c n0 sf h'' kc ks T'' → P v' h'' → Run Z EL p e below s n0 fc fs Q (T''.setTop (f v'))) → Run Z EL p e below s n0 fc fs Q (T'.setTop (f v))) : ∀ T' h' v, Sd kn Z a0 EL y bytes maxL ret p l e R s m args below meth c n0 sf h' kc ks T' → P v h' → Run Z EL p e below s n0 fc fs Q (T'.setTop (f v)) := by
  have key : ∀ n T' h' v, mu v = n → Sd kn Z a0 EL y bytes maxL ret p l e R s m args below meth c n0 sf h' kc ks T' → P v h' → Run Z EL p e below s n0 fc fs Q (T'.setTop (f v)) := by
    intro n
    induction n using Nat.strongRecOn with
    | ind n ih =>
      intro T' h' v hm X' hP
      exact J T' h' v X' hP fun T'' h'' v' hlt X'' hP'' => ih (mu v') (hm ▸ hlt) T'' h'' v' rfl X'' hP''
  intro T' h' v X' hP
  exact key _ T' h' v rfl X' hP
theorem loopK (X : Sd kn Z a0 EL y bytes maxL ret p l e R s m args below meth c n0 sf h kc ks T) {α : Type} (P : α → Heap → Prop) (mu kf lf : α → Nat) (f : α → JFrame) (J : ∀ T' h' sf' v, Sd kn Z a0 EL y bytes maxL ret p l e R s m args below meth c n0 sf' h' (kf v) (lf v) T' → P v h' → (∀ T'' h'' sf'' v', mu v' < mu v → Sd kn Z a0 EL y bytes maxL ret p l e R s m args below meth c n0 sf'' h'' (kf v') (lf v') T'' → P v' h'' → Run Z EL p e below s n0 fc fs Q (T''.setTop (f v'))) → Run Z EL p e below s n0 fc fs Q (T'.setTop (f v))) : ∀ T' h' sf' v, Sd kn Z a0 EL y bytes maxL ret p l e R s m args below meth c n0 sf' h' (kf v) (lf v) T' → P v h' → Run Z EL p e below s n0 fc fs Q (T'.setTop (f v)) := by
  have key : ∀ n T' h' sf' v, mu v = n → Sd kn Z a0 EL y bytes maxL ret p l e R s m args below meth c n0 sf' h' (kf v) (lf v) T' → P v h' → Run Z EL p e below s n0 fc fs Q (T'.setTop (f v)) := by
    intro n
    induction n using Nat.strongRecOn with
    | ind n ih =>
      intro T' h' sf' v hm X' hP
      exact J T' h' sf' v X' hP fun T'' h'' sf'' v' hlt X'' hP'' => ih (mu v') (hm ▸ hlt) T'' h'' sf'' v' rfl X'' hP''
  intro T' h' sf' v X' hP
  exact key _ T' h' sf' v rfl X' hP
theorem eqI_v {args : Array Value} {first s : State} {o : Option Outcome} {idx : List Nat} {t : Term} {z : Int32} (h : (Jvm.Cond.eq t (Term.int z)).value args first o s idx = some true) : t.eval args first o idx s = some (.int z) := by
  simp only [Jvm.Cond.value, Term.eval] at h
  cases ht : t.eval args first o idx s with
  | none => simp [ht] at h
  | some x => cases x <;> simp [ht] at h ⊢; exact h
theorem lenOfTerm {args : Array Value} {first s : State} {o : Option Outcome} {idx : List Nat} {t : Term} {k : Int32} {a : Addr} {cl : Cell} {n : Nat} (hh : (Term.length t).eval args first o idx s = some (.int k)) (ht : t.eval args first o idx s = some (.ref a)) (hc : s.heap[a]? = some cl) (hk : k.toInt = n) : cl.slots.size = n := by
  simp only [Term.eval, ht, Option.bind_eq_bind, Option.bind_some] at hh
  obtain ⟨c2, h1, h2⟩ := Option.bind_eq_some_iff.mp hh
  have h3 := (State.arrayAt?_spec h1).1
  cases hc.symm.trans h3
  by_cases q : cl.slots.size < 2 ^ 31
  · simp only [q, if_true, Option.pure_def, Option.some.injEq, Value.int.injEq] at h2
    have h4 : (cl.slots.size.toInt32).toInt = cl.slots.size := Int32.toInt_ofNat_small q
    rw [h2, hk] at h4
    omega
  · simp [q] at h2
theorem eqR_v {args : Array Value} {first s : State} {o : Option Outcome} {idx : List Nat} {t u : Term} {a : Addr} (hh : (Jvm.Cond.eq t u).value args first o s idx = some true) (hu : u.eval args first o idx s = some (.ref a)) : t.eval args first o idx s = some (.ref a) := by
  simp only [Jvm.Cond.value, hu] at hh
  cases ht : t.eval args first o idx s with
  | none => simp [ht] at hh
  | some x => cases x <;> simp [ht] at hh ⊢; exact hh
theorem Ark.start (hf : Fit Z) {cl : Cell} (A : Arr Z Z.heap a cl ty) (hl : cl.slots.size = vs.length) (hb : vs.length < 2147483648) (H : ∀ i, i < vs.length → cl.slots[i]? = vs[i]?) : Ark Z Z.heap a ty vs := by
  have e1 : cl.slots = vs.toArray := by
    apply Array.ext
    · simpa using hl
    · intro i h1 h2
      have q := H i (by omega)
      rw [Array.getElem?_eq_getElem h1, List.getElem?_eq_getElem (by omega)] at q
      simpa using Option.some.inj q
  refine ⟨cl, A, e1, hb, fun v hv => ?_⟩
  obtain ⟨i, hi, rfl⟩ := List.getElem_of_mem hv
  have q := elem_fits hf A (j := Int32.ofNat i) (v := vs[i]) ?_ ?_
  · exact q
  · intro q
    have e2 : (Int32.ofNat i).toInt = i := Int32.toInt_ofNat_small (by omega)
    obtain ⟨g1, g2⟩ := toNatC e2
    rcases q with q | q
    · exact g2 q
    · rw [g1] at q; omega
  · have e2 : (Int32.ofNat i).toInt = i := Int32.toInt_ofNat_small (by omega)
    rw [(toNatC e2).1, e1]; simp
end A
end Jvm.OwnW
namespace Jvm.Pilot.@@N@@
open Jvm Jvm.ClassFile Sem Op Lib Jvm.Free Jvm.Stand Jvm.LawKit Jvm.RoadKit Jvm.OwnW Bundle Jvm.Pilot.@@N@@.Jvm.D

def lo8 (x : Int32) : Int32 := x.toInt8.toInt32
theorem own_nat {i : Nat} (h : i < 2147483648) : (Int32.ofNat i).toInt = i := Int32.toInt_ofNat_small h
theorem own_lt {i n : Nat} (hi : i < 2147483648) (hn : n < 2147483648) : Int32.ofNat i < Int32.ofNat n ↔ i < n := by
  rw [Int32.lt_iff_toInt_lt, own_nat hi, own_nat hn]; omega
theorem own_eqn {i n : Nat} (hi : i < 2147483648) (hn : n < 2147483648) : Int32.ofNat i = Int32.ofNat n ↔ i = n := by
  rw [← Int32.toInt_inj, own_nat hi, own_nat hn]; omega
theorem own_up (i : Nat) : Int32.ofNat i + 1 = Int32.ofNat (i + 1) := by
  apply Int32.toInt_inj.mp; rw [Int32.toInt_add]; simp [Int32.toInt_ofNat]
def own_dst (cs : List Int32) (i : Nat) : List Value := ((cs.take i).map lo8 ++ List.replicate (cs.length - i) 0).map Value.int
theorem own_dst_len (cs : List Int32) {i : Nat} (h : i ≤ cs.length) : (own_dst cs i).length = cs.length := by simp [own_dst]; omega
theorem own_dst0 (cs : List Int32) : own_dst cs 0 = List.replicate cs.length (Value.int 0) := by simp [own_dst]
theorem own_dstN (cs : List Int32) : own_dst cs cs.length = (cs.map lo8).map Value.int := by simp [own_dst]
theorem own_dst_set (cs : List Int32) {i : Nat} (h : i < cs.length) : (own_dst cs i).set i (Value.int (lo8 (cs.getD i 0))) = own_dst cs (i + 1) := by
  have e : cs.length - i = (cs.length - (i + 1)) + 1 := by omega
  have hd : cs.getD i 0 = cs[i] := by simp [List.getD, h]
  have ht : (cs.take i).length = i := by simp; omega
  simp only [own_dst, hd, e, List.replicate_succ, List.map_append, List.map_cons]
  rw [List.set_append_right _ _ (by simp; omega)]
  have e2 : i - (List.map Value.int (List.map lo8 (List.take i cs))).length = 0 := by simp; omega
  rw [e2, List.set_cons_zero, List.take_succ_eq_append_getElem h]
  simp only [List.map_append, List.map_cons, List.map_nil, List.append_assoc, List.cons_append, List.nil_append]
theorem own_get (cs : List Int32) {i : Nat} (h : i < cs.length) : (cs.map Value.int)[i]? = some (Value.int (cs.getD i 0)) := by
  simp [List.getElem?_eq_getElem, h, List.getD]
theorem own_mem (cs : List Int32) {i : Nat} (h : i < cs.length) : cs.getD i 0 ∈ cs := by
  have hd : cs.getD i 0 = cs[i] := by simp [List.getD, h]
  rw [hd]; exact List.getElem_mem h
theorem own_narB (x : Int32) : nar .byte (lo8 x) = lo8 x := by
  show (x.toInt8.toInt32).toInt8.toInt32 = x.toInt8.toInt32
  simp
theorem own_narC {c : Int32} (h0 : ¬ c < 0) (h1 : ¬ 255 < c) : nar .char c = c := by
  have e : (255 : Int32).toInt = 255 := rfl
  have e0 : (0 : Int32).toInt = 0 := rfl
  rw [Int32.lt_iff_toInt_lt] at h0 h1
  rw [e] at h1
  rw [e0] at h0
  apply Int32.toInt_inj.mp
  have h2 := c_i2c c
  show (c.toUInt32.toUInt16.toUInt32.toInt32).toInt = c.toInt
  omega
theorem own_c0 (n : Int32) : ((n - n).toUInt32 >>> ((31 : Int32) &&& 31).toUInt32).toInt32.toInt8.toInt32 = 0 := by
  have : n - n = 0 := by simp
  rw [this]; decide
theorem own_a0 {P : Int32 → Prop} : ∀ c ∈ ([] : List Int32), P c := fun _ q => nomatch q
theorem own_aS {P : Int32 → Prop} {x : Int32} {L : List Int32} (q : P x) (r : ∀ c ∈ L, P c) : ∀ c ∈ x :: L, P c := fun c z => (List.mem_cons.mp z).elim (fun u => u ▸ q) (r c)
/-- a String of Latin-1 chars -/
def StrL (Z : State) (h : Heap) (x : Addr) (t : Addr) (cs : List Int32) : Prop := Exa Z h x "java/lang/String" ∧ Fld Z h x "java/lang/String" "coder" "B" (.int 0) ∧ Fld Z h x "java/lang/String" "value" "[B" (.ref t) ∧ Ark Z h t .byte ((cs.map lo8).map Value.int)
theorem StrL.keep {Z : State} {h h' : Heap} {x t : Addr} {cs : List Int32} {ws : List Addr} (S : StrL Z h x t cs) (K : Keep h h' ws) (q1 : x ∉ ws) (q2 : t ∉ ws) : StrL Z h' x t cs := ⟨S.1.keep K, S.2.1.keep K q1, S.2.2.1.keep K q1, S.2.2.2.keep K q2⟩
theorem StrL.ext {Z : State} {h h' : Heap} {x t : Addr} {cs : List Int32} (S : StrL Z h x t cs) (E : Ext h h') : StrL Z h' x t cs := ⟨S.1.ext E, S.2.1.ext E, S.2.2.1.ext E, S.2.2.2.ext E⟩

def own_EL : List (String × Nat) := [("com/example/brygga/brygga/HttpHead", 140)]
theorem own_EW {Z : State} {a0 : Array Value} (hw : ∀ d ∈ tables_1, d.before a0 Z = true) : EW Z a0 own_EL := (EW.cons (text := "!#$%&'*+-.^_`|~") (hw _ (List.mem_of_getElem? (i := 92) rfl)) (by decide) EW.nil)
theorem own_held {tb : Tables} {e : Env} {args : Array Value} {s : State} (hc : Calls_1 tb e args s) : ∀ p ∈ own_EL, Jvm.Lit.constHeld s p.1 p.2 := fun p hp => hc.1 p ((by decide +kernel : ∀ p ∈ own_EL, p ∈ consts_1) p hp)
theorem own_255 (x : Int32) : ¬ (x &&& 255).toUInt32.toUInt16.toUInt32.toInt32 < 0 ∧ ¬ 255 < (x &&& 255).toUInt32.toUInt16.toUInt32.toInt32 := by
  rw [i2c_mask]
  have h := c_and x 255 (by decide)
  have e : (255 : Int32).toInt = 255 := rfl
  have e0 : (0 : Int32).toInt = 0 := rfl
  rw [Int32.lt_iff_toInt_lt, Int32.lt_iff_toInt_lt, e, e0]
  rw [e] at h
  omega
theorem own_add (a b : Nat) : Int32.ofNat a + Int32.ofNat b = Int32.ofNat (a + b) := by
  apply Int32.toInt_inj.mp; rw [Int32.toInt_add]; simp [Int32.toInt_ofNat]
theorem own_sub (a b : Nat) (h : b ≤ a) (ha : a < 2147483648) : Int32.ofNat a - Int32.ofNat b = Int32.ofNat (a - b) := by
  apply Int32.toInt_inj.mp
  have h1 := c_isub (Int32.ofNat a) (Int32.ofNat b)
  have h2 := rng32 (Int32.ofNat a - Int32.ofNat b)
  rw [own_nat ha, own_nat (by omega)] at h1
  rw [own_nat (by omega)]
  omega
theorem own_ofInt (x : Int32) (k : Nat) (h0 : 0 ≤ x.toInt) (h : x.toInt ≤ k) (hk : k < 2147483648) : ∃ n : Nat, x = Int32.ofNat n ∧ n ≤ k := ⟨x.toInt.toNat, Int32.toInt_inj.mp (by rw [own_nat (by omega)]; omega), by omega⟩
theorem own_i2c16 (x : Int32) : ∃ n : Nat, x.toUInt32.toUInt16.toUInt32.toInt32 = Int32.ofNat n ∧ n ≤ 65535 := by
  have h := c_i2c x
  exact own_ofInt _ 65535 h.2.1 (by omega) (by decide)
theorem own_nar16 {n : Nat} (h : n ≤ 65535) : nar .char (Int32.ofNat n) = Int32.ofNat n := by
  apply Int32.toInt_inj.mp
  have h2 := c_i2c (Int32.ofNat n)
  rw [own_nat (by omega)] at h2
  show ((Int32.ofNat n).toUInt32.toUInt16.toUInt32.toInt32).toInt = _
  rw [own_nat (by omega)]
  omega
theorem own_shl1 {i : Nat} (h : i < 1000000000) : (Int32.ofNat i) <<< ((1 : Int32) &&& 31) = Int32.ofNat (2 * i) := by
  have h1 := c_ishl (Int32.ofNat i) 1 1 (by decide)
  have h2 := rng32 ((Int32.ofNat i) <<< ((1 : Int32) &&& 31))
  rw [own_nat (by omega)] at h1
  apply Int32.toInt_inj.mp
  rw [own_nat (by omega)]
  omega
theorem own_join16 {k : Nat} (h : k ≤ 65535) : ((((lo8 (Int32.ofNat k >>> ((0 : Int32) &&& 31)) &&& 255) <<< ((0 : Int32) &&& 31)) ||| ((lo8 (Int32.ofNat k >>> ((8 : Int32) &&& 31)) &&& 255) <<< ((8 : Int32) &&& 31))).toUInt32.toUInt16.toUInt32.toInt32) = Int32.ofNat k := by
  have e := own_nat (i := k) (by omega)
  have s0 := c_ishr (Int32.ofNat k) 0 0 (by decide)
  have s8 := c_ishr (Int32.ofNat k) 8 8 (by decide)
  rw [e] at s0 s8
  generalize Int32.ofNat k >>> ((0 : Int32) &&& 31) = a0 at *
  generalize Int32.ofNat k >>> ((8 : Int32) &&& 31) = a8 at *
  have b0 := c_i2b a0
  have b8 := c_i2b a8
  have m0 := c_mask (lo8 a0) 255 8 (by decide) (by decide)
  have m8 := c_mask (lo8 a8) 255 8 (by decide) (by decide)
  have l0 : (lo8 a0).toInt = a0.toInt8.toInt32.toInt := rfl
  have l8 : (lo8 a8).toInt = a8.toInt8.toInt32.toInt := rfl
  rw [l0] at m0
  rw [l8] at m8
  generalize lo8 a0 &&& 255 = x0 at *
  generalize lo8 a8 &&& 255 = x8 at *
  have t0 := c_ishl x0 0 0 (by decide)
  have t8 := c_ishl x8 8 8 (by decide)
  have r0 := rng32 (x0 <<< ((0 : Int32) &&& 31))
  have r8 := rng32 (x8 <<< ((8 : Int32) &&& 31))
  generalize x0 <<< ((0 : Int32) &&& 31) = y0 at *
  generalize x8 <<< ((8 : Int32) &&& 31) = y8 at *
  have o := c_or' y0 y8 8 (by decide) 256 (by decide) (by omega) (by omega) (by omega)
  have ro := rng32 (y0 ||| y8)
  have c := c_i2c (y0 ||| y8)
  apply Int32.toInt_inj.mp
  rw [e]
  omega
theorem own_lat16 {k : Nat} (h : k ≤ 255) : (lo8 (Int32.ofNat k) &&& 255).toUInt32.toUInt16.toUInt32.toInt32 = Int32.ofNat k := by
  have e := own_nat (i := k) (by omega)
  have b := c_i2b (Int32.ofNat k)
  have m := c_mask (lo8 (Int32.ofNat k)) 255 8 (by decide) (by decide)
  have l0 : (lo8 (Int32.ofNat k)).toInt = (Int32.ofNat k).toInt8.toInt32.toInt := rfl
  rw [l0] at m
  rw [e] at b
  have c := c_i2c (lo8 (Int32.ofNat k) &&& 255)
  apply Int32.toInt_inj.mp
  rw [e]
  omega
def own_toks : List Nat := [33, 35, 36, 37, 38, 39, 42, 43, 45, 46, 94, 95, 96, 124, 126]
def own_tok : List Int32 := [33, 35, 36, 37, 38, 39, 42, 43, 45, 46, 94, 95, 96, 124, 126]
def own_an (c : Nat) : Prop := (97 ≤ c ∧ c ≤ 122) ∨ (65 ≤ c ∧ c ≤ 90) ∨ (48 ≤ c ∧ c ≤ 57)
def own_t (c : Nat) : Prop := own_an c ∨ c ∈ own_toks
def own_tch (c : Nat) : Prop := 32 < c ∧ c < 127 ∧ ¬ c = 34 ∧ ¬ c = 40 ∧ ¬ c = 41 ∧ ¬ c = 44 ∧ ¬ c = 47 ∧ ¬ c = 58 ∧ ¬ c = 59 ∧ ¬ c = 60 ∧ ¬ c = 61 ∧ ¬ c = 62 ∧ ¬ c = 63 ∧ ¬ c = 64 ∧ ¬ c = 91 ∧ ¬ c = 92 ∧ ¬ c = 93 ∧ ¬ c = 123 ∧ ¬ c = 125
instance (c : Nat) : Decidable (own_an c) := by unfold own_an; infer_instance
instance (c : Nat) : Decidable (own_t c) := by unfold own_t; infer_instance
instance (c : Nat) : Decidable (own_tch c) := by unfold own_tch; infer_instance
theorem own_same (c : Nat) : own_t c ↔ own_tch c := by
  by_cases h : c < 128
  · have q : ∀ d : Fin 128, own_t d.val ↔ own_tch d.val := by decide +kernel
    exact q ⟨c, h⟩
  · constructor
    · intro z
      rcases z with z | z
      · unfold own_an at z; omega
      · have q : ∀ d ∈ own_toks, d < 128 := by decide
        exact absurd (q c z) h
    · intro z; unfold own_tch at z; omega
theorem own_memT {c : Nat} (hc : c ≤ 65535) : Int32.ofNat c ∈ own_tok ↔ c ∈ own_toks := by
  have e : own_tok = own_toks.map Int32.ofNat := rfl
  have q : ∀ d ∈ own_toks, d < 128 := by decide
  rw [e, List.mem_map]
  constructor
  · rintro ⟨d, hd, h⟩
    have h1 := congrArg Int32.toInt h
    rw [own_nat (by have := q d hd; omega), own_nat (by omega)] at h1
    have : d = c := by omega
    exact this ▸ hd
  · intro h; exact ⟨c, h, rfl⟩

def own_S (Z : State) (h : Heap) (x t : Addr) (ua ub uc ud : Nat) : Prop := ((ua ≤ 255 ∧ ub ≤ 255 ∧ uc ≤ 255 ∧ ud ≤ 255) ∧ StrL Z h x t [Int32.ofNat ua, Int32.ofNat ub, Int32.ofNat uc, Int32.ofNat ud]) ∨ (Exa Z h x "java/lang/String" ∧ Fld Z h x "java/lang/String" "coder" "B" (.int 1) ∧ Fld Z h x "java/lang/String" "value" "[B" (.ref t) ∧ Ark Z h t .byte [(.int (lo8 (Int32.ofNat ua >>> ((0 : Int32) &&& 31)))), (.int (lo8 (Int32.ofNat ua >>> ((8 : Int32) &&& 31)))), (.int (lo8 (Int32.ofNat ub >>> ((0 : Int32) &&& 31)))), (.int (lo8 (Int32.ofNat ub >>> ((8 : Int32) &&& 31)))), (.int (lo8 (Int32.ofNat uc >>> ((0 : Int32) &&& 31)))), (.int (lo8 (Int32.ofNat uc >>> ((8 : Int32) &&& 31)))), (.int (lo8 (Int32.ofNat ud >>> ((0 : Int32) &&& 31)))), (.int (lo8 (Int32.ofNat ud >>> ((8 : Int32) &&& 31))))])
theorem own_S.keep {Z : State} {h h' : Heap} {x t : Addr} {ua ub uc ud : Nat} {ws : List Addr} (S : own_S Z h x t ua ub uc ud) (K : Keep h h' ws) (q1 : x ∉ ws) (q2 : t ∉ ws) : own_S Z h' x t ua ub uc ud := by
  rcases S with ⟨a, S⟩ | ⟨a, b, c, d⟩
  · exact Or.inl ⟨a, S.keep K q1 q2⟩
  · exact Or.inr ⟨a.keep K, b.keep K q1, c.keep K q1, d.keep K q2⟩
theorem own_S.exa {Z : State} {h : Heap} {x t : Addr} {ua ub uc ud : Nat} (S : own_S Z h x t ua ub uc ud) : Exa Z h x "java/lang/String" := by
  rcases S with ⟨_, S⟩ | ⟨a, _⟩
  · exact S.1
  · exact a
theorem own_byte22 {C : Nat} (h : C ≤ 255) (k : Nat) (hk : k < 128) : lo8 (Int32.ofNat C) = Int32.ofNat k ↔ C = k := by
  have h2 := c_i2b (Int32.ofNat C)
  rw [own_nat (by omega)] at h2
  rw [← Int32.toInt_inj, own_nat (i := k) (by omega)]
  unfold lo8
  omega
theorem pn_com_example_brygga_brygga_HttpHeadIsTokenPinLaw : plainName "com/example/brygga/brygga/HttpHeadIsTokenPinLaw" = true := by first | (simp [plainName, overriddenIn]; done) | decide +kernel
theorem d1_0 : decode method_3_code 0 = .ok (.iload_n 0, 1) := by decide +kernel
theorem d1_1 : decode method_3_code 1 = .ok (.ldc 28, 2) := by decide +kernel
theorem d1_3 : decode method_3_code 3 = .ok (.iand, 1) := by decide +kernel
theorem d1_4 : decode method_3_code 4 = .ok (.ifCond .eq 9, 3) := by decide +kernel
theorem d1_7 : decode method_3_code 7 = .ok (.iload_n 0, 1) := by decide +kernel
theorem d1_8 : decode method_3_code 8 = .ok (.bipush 127, 2) := by decide +kernel
theorem d1_10 : decode method_3_code 10 = .ok (.iand, 1) := by decide +kernel
theorem d1_11 : decode method_3_code 11 = .ok (.i2c, 1) := by decide +kernel
theorem d1_12 : decode method_3_code 12 = .ok (.ireturn, 1) := by decide +kernel
theorem d1_13 : decode method_3_code 13 = .ok (.iload_n 0, 1) := by decide +kernel
theorem d1_14 : decode method_3_code 14 = .ok (.ldc 29, 2) := by decide +kernel
theorem d1_16 : decode method_3_code 16 = .ok (.iand, 1) := by decide +kernel
theorem d1_17 : decode method_3_code 17 = .ok (.i2c, 1) := by decide +kernel
theorem d1_18 : decode method_3_code 18 = .ok (.ireturn, 1) := by decide +kernel
theorem ef_rm1 (m : MethodId) (x0 : Int32) : entryFrame m #[(.int x0)] 1 = mkF m 0 #[.val (.int x0)] [] := by first | (simp [entryFrame, mkF, argsToLocals, Value.category]; done) | rfl
set_option maxRecDepth 65536 in
set_option maxHeartbeats 40000000 in
theorem rm1 (l : Launch) (Z : State) (a0 : Array Value) (hw : ∀ d ∈ tables_1, d.before a0 Z = true) (hE : EW Z a0 own_EL) (ws : List Jvm.Cond) (p0 : Int32) (h0 : Heap) (n0 : Nat)  :
    Ctr False l Z own_EL (⟨"com/example/brygga/brygga/HttpHeadIsTokenPinLaw", "ch", "(I)C"⟩ : MethodName) method_3_code 1 (some .char) ws ({ frames := 0, cells := 0, slots := 0, locals := 0 } : Room) n0 ([]) #[(.int p0)] h0 (Rt (fun w h g => ∃ n : Nat, w = .int (Int32.ofNat n) ∧ n ≤ 65535 ∧ h0 = h)) := by
  refine Ctr.of (plainFor_of_name pn_com_example_brygga_brygga_HttpHeadIsTokenPinLaw) hE (fun m => ef_rm1 m p0) ?_
  intro p e s m below meth c T0 X0
  refine OwnW.iloadN X0 (n := 1) d1_0 rfl rfl ?_
  refine OwnW.ldc X0 (n := 3) d1_1 (hw _ (List.mem_of_getElem? (i := 4) rfl)) rfl ?_
  refine OwnW.iand X0 (n := 4) d1_3 rfl ?_
  refine OwnW.if_eq X0  (n1 := 13) (n2 := 7) d1_4 (by decide) rfl rfl (fun hc4 => ?_) (fun hc4 => ?_)
  · refine OwnW.iloadN X0 (n := 14) d1_13 rfl rfl ?_
    refine OwnW.ldc X0 (n := 16) d1_14 (hw _ (List.mem_of_getElem? (i := 5) rfl)) rfl ?_
    refine OwnW.iand X0 (n := 17) d1_16 rfl ?_
    refine OwnW.i2c X0 (n := 18) d1_17 rfl ?_
    obtain ⟨kz, ek, hk⟩ := own_i2c16 (p0 &&& (65535 : Int32))
    rw [ek]
    exact OwnW.ireturnN X0 rfl (Or.inr (Or.inr (Or.inl rfl))) (own_nar16 hk) d1_18 ⟨kz, rfl, hk, rfl⟩ (by decide) (by decide)
  · refine OwnW.iloadN X0 (n := 8) d1_7 rfl rfl ?_
    refine OwnW.bipush X0 (z := (127 : Int32)) (n := 10) d1_8 rfl rfl ?_
    refine OwnW.iand X0 (n := 11) d1_10 rfl ?_
    refine OwnW.i2c X0 (n := 12) d1_11 rfl ?_
    obtain ⟨kz, ek, hk⟩ := own_i2c16 (p0 &&& (127 : Int32))
    rw [ek]
    exact OwnW.ireturnN X0 rfl (Or.inr (Or.inr (Or.inl rfl))) (own_nar16 hk) d1_12 ⟨kz, rfl, hk, rfl⟩ (by decide) (by decide)
theorem pn_java_lang_StringUTF16 : plainName "java/lang/StringUTF16" = true := by first | (simp [plainName, overriddenIn]; done) | decide +kernel
theorem d11_0 : decode jdk_52_method_3_code 0 = .ok (.iload_n 0, 1) := by decide +kernel
theorem d11_1 : decode jdk_52_method_3_code 1 = .ok (.ifCond .ge 11, 3) := by decide +kernel
theorem d11_12 : decode jdk_52_method_3_code 12 = .ok (.iload_n 0, 1) := by decide +kernel
theorem d11_13 : decode jdk_52_method_3_code 13 = .ok (.ldc 20, 2) := by decide +kernel
theorem d11_15 : decode jdk_52_method_3_code 15 = .ok (.if_icmp .lt 40, 3) := by decide +kernel
theorem d11_55 : decode jdk_52_method_3_code 55 = .ok (.iload_n 0, 1) := by decide +kernel
theorem d11_56 : decode jdk_52_method_3_code 56 = .ok (.iconst 1, 1) := by decide +kernel
theorem d11_57 : decode jdk_52_method_3_code 57 = .ok (.ishl, 1) := by decide +kernel
theorem d11_58 : decode jdk_52_method_3_code 58 = .ok (.ireturn, 1) := by decide +kernel
theorem ef_rm11 (m : MethodId)  : entryFrame m #[(.int (4 : Int32))] 1 = mkF m 0 #[.val (.int (4 : Int32))] [] := by first | (simp [entryFrame, mkF, argsToLocals, Value.category]; done) | rfl
set_option maxRecDepth 65536 in
set_option maxHeartbeats 40000000 in
theorem rm11 (l : Launch) (Z : State) (a0 : Array Value) (hw : ∀ d ∈ tables_1, d.before a0 Z = true) (hE : EW Z a0 own_EL) (ws : List Jvm.Cond)  (h0 : Heap) (n0 : Nat)  :
    Ctr False l Z own_EL (⟨"java/lang/StringUTF16", "newBytesLength", "(I)I"⟩ : MethodName) jdk_52_method_3_code 1 (some .int) ws ({ frames := 0, cells := 0, slots := 0, locals := 0 } : Room) n0 ([]) #[(.int (4 : Int32))] h0 (Rt (fun w h g => w = .int 8 ∧ h0 = h)) := by
  refine Ctr.of (plainFor_of_name pn_java_lang_StringUTF16) hE (fun m => ef_rm11 m ) ?_
  intro p e s m below meth c T0 X0
  refine OwnW.iloadN X0 (n := 1) d11_0 rfl rfl ?_
  refine OwnW.if_ge X0  (n1 := 12) (n2 := 4) d11_1 (by decide) rfl rfl (fun _ => ?_) (fun q => absurd q ((by decide) : ¬ (4 : Int32) < 0))
  refine OwnW.iloadN X0 (n := 13) d11_12 rfl rfl ?_
  refine OwnW.ldc X0 (n := 15) d11_13 (hw _ (List.mem_of_getElem? (i := 49) rfl)) rfl ?_
  refine OwnW.ic_lt X0  (n1 := 55) (n2 := 18) d11_15 (by decide) rfl rfl (fun _ => ?_) (fun q => absurd ((by decide) : (4 : Int32) < (1073741823 : Int32)) q)
  refine OwnW.iloadN X0 (n := 56) d11_55 rfl rfl ?_
  refine OwnW.iconst X0 (z := (1 : Int32)) (n := 57) d11_56 rfl rfl ?_
  refine OwnW.ishl X0 (n := 58) d11_57 rfl ?_
  rw [show (((4 : Int32) <<< ((1 : Int32) &&& 31)) : Int32) = (8 : Int32) from by decide]
  exact OwnW.ireturn X0 rfl (Or.inl rfl) rfl d11_58 ⟨rfl, rfl⟩ (by decide) (by decide)
theorem pd__I_I : parseMethodDescriptor "(I)I" = some ⟨[.int], some .int⟩ := by decide +kernel
theorem d10_0 : decode jdk_52_method_2_code 0 = .ok (.iload_n 0, 1) := by decide +kernel
theorem d10_1 : decode jdk_52_method_2_code 1 = .ok (.invokestatic 11, 3) := by decide +kernel
theorem d10_4 : decode jdk_52_method_2_code 4 = .ok (.newarray .byte, 2) := by decide +kernel
theorem d10_6 : decode jdk_52_method_2_code 6 = .ok (.areturn, 1) := by decide +kernel
theorem ef_rm10 (m : MethodId)  : entryFrame m #[(.int (4 : Int32))] 1 = mkF m 0 #[.val (.int (4 : Int32))] [] := by first | (simp [entryFrame, mkF, argsToLocals, Value.category]; done) | rfl
set_option maxRecDepth 65536 in
set_option maxHeartbeats 40000000 in
theorem rm10 (l : Launch) (Z : State) (a0 : Array Value) (hw : ∀ d ∈ tables_1, d.before a0 Z = true) (hE : EW Z a0 own_EL) (ws : List Jvm.Cond)  (h0 : Heap) (n0 : Nat) (O0 : Old Z n0 h0)  :
    Ctr False l Z own_EL (⟨"java/lang/StringUTF16", "newBytesFor", "(I)[B"⟩ : MethodName) jdk_52_method_2_code 1 (some (.array .byte)) ws ({ frames := 1, cells := 1, slots := 8, locals := 12 } : Room) n0 ([]) #[(.int (4 : Int32))] h0 (Rt (fun w h g => ∃ t, w = .ref t ∧ Keep h0 h [] ∧ h0.size ≤ t ∧ Ark Z h t .byte [(.int (0 : Int32)), (.int (0 : Int32)), (.int (0 : Int32)), (.int (0 : Int32)), (.int (0 : Int32)), (.int (0 : Int32)), (.int (0 : Int32)), (.int (0 : Int32))] ∧ t ∈ g)) := by
  refine Ctr.of (plainFor_of_name pn_java_lang_StringUTF16) hE (fun m => ef_rm10 m ) ?_
  intro p e s m below meth c T0 X0
  have Z0 : Keep h0 h0 [] := Keep.refl _ _
  refine OwnW.iloadN X0 (n := 1) d10_0 rfl rfl ?_
  refine OwnW.call_static_v X0 (z := (⟨"java/lang/StringUTF16", "newBytesLength", "(I)I"⟩ : MethodName)) (n := 4) d10_1 (hw _ (List.mem_of_getElem? (i := 46) rfl)) (hw _ (List.mem_of_getElem? (i := 47) rfl)) (hw _ (List.mem_of_getElem? (i := 48) rfl)) (hw _ (List.mem_of_getElem? (i := 23) rfl)) (by decide) (rm11 l Z a0 hw hE [] h0 n0) OwnW.sf0 (argsL := [(.int (4 : Int32))]) (rest := []) rfl rfl (OwnW.lenA pd__I_I rfl) (W := 0) (Nat.le_of_eq rfl) (by decide) (by decide) (by decide) (by decide) rfl ?_
  intro T1 h1 w1 g1 hle1 X1 ⟨q1, q2⟩
  subst q1 q2
  refine OwnW.newarray X1 (len := 8) (cap := 8) (n := 6) d10_4 (hw _ (List.mem_of_getElem? (i := 25) rfl)) rfl (by decide) (by decide) (by decide) (by decide) rfl ?_
  intro T2 h2 b2 gb2 X2 E2 A2
  have ge_b2 : n0 ≤ b2 := by rw [gb2]; exact OwnW.oldLe O0
  have K2 := (OwnW.kExt E2)
  have O2 := O0.keep K2 all0
  have Z2 : Keep h0 h2 [] := Z0.trans K2 (fun x hx => nomatch hx)
  have sz_b2 : h0.size ≤ b2 := by rw [gb2]; exact Z0.1
  replace A2 : Ark Z h2 b2 .byte [(.int (0 : Int32)), (.int (0 : Int32)), (.int (0 : Int32)), (.int (0 : Int32)), (.int (0 : Int32)), (.int (0 : Int32)), (.int (0 : Int32)), (.int (0 : Int32))] := A2
  exact OwnW.areturn X2 rfl rfl rfl d10_6 ⟨_, rfl, Z2, sz_b2, A2, (List.mem_cons_self ..)⟩ (by decide) (by decide)
theorem d12_0 : decode jdk_52_method_4_code 0 = .ok (.getstatic 44, 3) := by decide +kernel
theorem d12_3 : decode jdk_52_method_4_code 3 = .ok (.ifCond .ne 25, 3) := by decide +kernel
theorem d12_28 : decode jdk_52_method_4_code 28 = .ok (.iload_n 1, 1) := by decide +kernel
theorem d12_29 : decode jdk_52_method_4_code 29 = .ok (.iconst 1, 1) := by decide +kernel
theorem d12_30 : decode jdk_52_method_4_code 30 = .ok (.ishl, 1) := by decide +kernel
theorem d12_31 : decode jdk_52_method_4_code 31 = .ok (.istore_n 1, 1) := by decide +kernel
theorem d12_32 : decode jdk_52_method_4_code 32 = .ok (.aload_n 0, 1) := by decide +kernel
theorem d12_33 : decode jdk_52_method_4_code 33 = .ok (.iload_n 1, 1) := by decide +kernel
theorem d12_34 : decode jdk_52_method_4_code 34 = .ok (.iinc 1 1, 3) := by decide +kernel
theorem d12_37 : decode jdk_52_method_4_code 37 = .ok (.iload_n 2, 1) := by decide +kernel
theorem d12_38 : decode jdk_52_method_4_code 38 = .ok (.getstatic 59, 3) := by decide +kernel
theorem d12_41 : decode jdk_52_method_4_code 41 = .ok (.ishr, 1) := by decide +kernel
theorem d12_42 : decode jdk_52_method_4_code 42 = .ok (.i2b, 1) := by decide +kernel
theorem d12_43 : decode jdk_52_method_4_code 43 = .ok (.bastore, 1) := by decide +kernel
theorem d12_44 : decode jdk_52_method_4_code 44 = .ok (.aload_n 0, 1) := by decide +kernel
theorem d12_45 : decode jdk_52_method_4_code 45 = .ok (.iload_n 1, 1) := by decide +kernel
theorem d12_46 : decode jdk_52_method_4_code 46 = .ok (.iload_n 2, 1) := by decide +kernel
theorem d12_47 : decode jdk_52_method_4_code 47 = .ok (.getstatic 63, 3) := by decide +kernel
theorem d12_50 : decode jdk_52_method_4_code 50 = .ok (.ishr, 1) := by decide +kernel
theorem d12_51 : decode jdk_52_method_4_code 51 = .ok (.i2b, 1) := by decide +kernel
theorem d12_52 : decode jdk_52_method_4_code 52 = .ok (.bastore, 1) := by decide +kernel
theorem d12_53 : decode jdk_52_method_4_code 53 = .ok (.return_, 1) := by decide +kernel
theorem ef_rm12 (m : MethodId) (x0 : Addr) (x1 : Int32) (x2 : Int32) : entryFrame m #[(.ref x0), (.int x1), (.int x2)] 3 = mkF m 0 #[.val (.ref x0), .val (.int x1), .val (.int x2)] [] := by first | (simp [entryFrame, mkF, argsToLocals, Value.category]; done) | rfl
set_option maxRecDepth 65536 in
set_option maxHeartbeats 40000000 in
theorem rm12 (l : Launch) (Z : State) (a0 : Array Value) (hw : ∀ d ∈ tables_1, d.before a0 Z = true) (hE : EW Z a0 own_EL) (ws : List Jvm.Cond) (r0 : Addr) (h0 : Heap) (n0 : Nat) (O0 : Old Z n0 h0) (i k : Nat) (hi : i < 1000000000) (vs : List Value) (hl : 2 * i + 1 < vs.length) (ge_r0 : n0 ≤ r0) (A0 : Ark Z h0 r0 .byte vs) (S_ad : Sta Z Z.heap "java/lang/StringUTF16" "$assertionsDisabled" "Z" (.int 1)) (S_hi : Sta Z Z.heap "java/lang/StringUTF16" "HI_BYTE_SHIFT" "I" (.int 0)) (S_lo : Sta Z Z.heap "java/lang/StringUTF16" "LO_BYTE_SHIFT" "I" (.int 8)) :
    Ctr False l Z own_EL (⟨"java/lang/StringUTF16", "putChar", "([BII)V"⟩ : MethodName) jdk_52_method_4_code 3 none ws ({ frames := 0, cells := 0, slots := 0, locals := 0 } : Room) n0 (r0 :: []) #[(.ref r0), (.int (Int32.ofNat i)), (.int (Int32.ofNat k))] h0 (Rn (fun h g => Keep h0 h [r0] ∧ Ark Z h r0 .byte ((vs.set (2 * i) (.int (lo8 (Int32.ofNat k >>> ((0 : Int32) &&& 31))))).set (2 * i + 1) (.int (lo8 (Int32.ofNat k >>> ((8 : Int32) &&& 31))))))) := by
  refine Ctr.of (plainFor_of_name pn_java_lang_StringUTF16) hE (fun m => ef_rm12 m r0 (Int32.ofNat i) (Int32.ofNat k)) ?_
  intro p e s m below meth c T0 X0
  have Z0 : Keep h0 h0 [r0] := Keep.refl _ _
  refine OwnW.getstatic X0 (n := 3) d12_0 (hw _ (List.mem_of_getElem? (i := 53) rfl)) Via.refl (S_ad.ext O0.2) rfl ?_
  intro T1 X1
  refine OwnW.if_ne X1  (n1 := 28) (n2 := 6) d12_3 (by decide) rfl rfl (fun _ => ?_) (fun q => absurd q ((by decide) : ¬ (1 : Int32) = 0))
  refine OwnW.iloadN X1 (n := 29) d12_28 rfl rfl ?_
  refine OwnW.iconst X1 (z := (1 : Int32)) (n := 30) d12_29 rfl rfl ?_
  refine OwnW.ishl X1 (n := 31) d12_30 rfl ?_
  rw [own_shl1 (i := i) (by omega)]
  refine OwnW.istoreN X1 (l' := #[.val (.ref r0), .val (.int (Int32.ofNat (2 * i))), .val (.int (Int32.ofNat k))]) (n := 32) d12_31 rfl rfl ?_
  refine OwnW.aloadN X1 (n := 33) d12_32 rfl rfl rfl ?_
  refine OwnW.iloadN X1 (n := 34) d12_33 rfl rfl ?_
  refine OwnW.iinc X1 (z := (1 : Int32)) (u := ((Int32.ofNat (2 * i)) + (1 : Int32))) (l' := #[.val (.ref r0), .val (.int ((Int32.ofNat (2 * i)) + (1 : Int32))), .val (.int (Int32.ofNat k))]) (n := 37) d12_34 rfl rfl rfl rfl rfl ?_
  rw [show (((Int32.ofNat (2 * i)) + (1 : Int32)) : Int32) = (Int32.ofNat ((2 * i) + 1)) from own_add (2 * i) 1]
  refine OwnW.iloadN X1 (n := 38) d12_37 rfl rfl ?_
  refine OwnW.getstatic X1 (n := 41) d12_38 (hw _ (List.mem_of_getElem? (i := 54) rfl)) Via.refl (S_hi.ext O0.2) rfl ?_
  intro T2 X2
  refine OwnW.ishr X2 (n := 42) d12_41 rfl ?_
  refine OwnW.i2b X2 (n := 43) d12_42 rfl ?_
  refine OwnW.bastore X2 (i := 2 * i) (z := (lo8 (Int32.ofNat k >>> ((0 : Int32) &&& 31)))) (n := 44) d12_43 A0 (own_nat (i := 2 * i) (by omega)) (by omega) (own_narB _) ge_r0 (List.mem_cons_self ..) rfl ?_
  intro T3 h3 X3 W3 A3
  have K3 := (Keep.of_wr W3)
  have O3 := O0.keep K3 (allS ge_r0 all0)
  have Z3 : Keep h0 h3 [r0] := Z0.trans K3 (allS (P := fun x => x ∈ [r0] ∨ h0.size ≤ x) (Or.inl (List.mem_of_getElem? (i := 0) rfl)) all0)
  refine OwnW.aloadN X3 (n := 45) d12_44 rfl rfl rfl ?_
  refine OwnW.iloadN X3 (n := 46) d12_45 rfl rfl ?_
  refine OwnW.iloadN X3 (n := 47) d12_46 rfl rfl ?_
  refine OwnW.getstatic X3 (n := 50) d12_47 (hw _ (List.mem_of_getElem? (i := 55) rfl)) Via.refl (S_lo.ext O3.2) rfl ?_
  intro T4 X4
  refine OwnW.ishr X4 (n := 51) d12_50 rfl ?_
  refine OwnW.i2b X4 (n := 52) d12_51 rfl ?_
  refine OwnW.bastore X4 (i := 2 * i + 1) (z := (lo8 (Int32.ofNat k >>> ((8 : Int32) &&& 31)))) (n := 53) d12_52 A3 (own_nat (i := 2 * i + 1) (by omega)) (by simpa using hl) (own_narB _) ge_r0 (List.mem_cons_self ..) rfl ?_
  intro T5 h5 X5 W5 A5
  have K5 := (Keep.of_wr W5)
  have O5 := O3.keep K5 (allS ge_r0 all0)
  have Z5 : Keep h0 h5 [r0] := Z3.trans K5 (allS (P := fun x => x ∈ [r0] ∨ h0.size ≤ x) (Or.inl (List.mem_of_getElem? (i := 0) rfl)) all0)
  exact OwnW.vreturn X5 rfl d12_53 ⟨Z5, A5⟩ (by decide) (by decide)
theorem pd__I__B : parseMethodDescriptor "(I)[B" = some ⟨[.int], some (.array .byte)⟩ := by decide +kernel
theorem pd___BII_V : parseMethodDescriptor "([BII)V" = some ⟨[(.array .byte), .int, .int], none⟩ := by decide +kernel
theorem d9_0 : decode jdk_52_method_14_code 0 = .ok (.iload_n 2, 1) := by decide +kernel
theorem d9_1 : decode jdk_52_method_14_code 1 = .ok (.invokestatic 107, 3) := by decide +kernel
theorem d9_4 : decode jdk_52_method_14_code 4 = .ok (.astore_n 3, 1) := by decide +kernel
theorem d9_5 : decode jdk_52_method_14_code 5 = .ok (.iconst 0, 1) := by decide +kernel
theorem d9_6 : decode jdk_52_method_14_code 6 = .ok (.istore 4, 2) := by decide +kernel
theorem d9_8 : decode jdk_52_method_14_code 8 = .ok (.iload 4, 2) := by decide +kernel
theorem d9_10 : decode jdk_52_method_14_code 10 = .ok (.iload_n 2, 1) := by decide +kernel
theorem d9_11 : decode jdk_52_method_14_code 11 = .ok (.if_icmp .ge 21, 3) := by decide +kernel
theorem d9_14 : decode jdk_52_method_14_code 14 = .ok (.aload_n 3, 1) := by decide +kernel
theorem d9_15 : decode jdk_52_method_14_code 15 = .ok (.iload 4, 2) := by decide +kernel
theorem d9_17 : decode jdk_52_method_14_code 17 = .ok (.aload_n 0, 1) := by decide +kernel
theorem d9_18 : decode jdk_52_method_14_code 18 = .ok (.iload_n 1, 1) := by decide +kernel
theorem d9_19 : decode jdk_52_method_14_code 19 = .ok (.caload, 1) := by decide +kernel
theorem d9_20 : decode jdk_52_method_14_code 20 = .ok (.invokestatic 111, 3) := by decide +kernel
theorem d9_23 : decode jdk_52_method_14_code 23 = .ok (.iinc 1 1, 3) := by decide +kernel
theorem d9_26 : decode jdk_52_method_14_code 26 = .ok (.iinc 4 1, 3) := by decide +kernel
theorem d9_29 : decode jdk_52_method_14_code 29 = .ok (.goto (-21), 3) := by decide +kernel
theorem d9_32 : decode jdk_52_method_14_code 32 = .ok (.aload_n 3, 1) := by decide +kernel
theorem d9_33 : decode jdk_52_method_14_code 33 = .ok (.areturn, 1) := by decide +kernel
theorem ef_rm9 (m : MethodId) (x0 : Addr) : entryFrame m #[(.ref x0), (.int (0 : Int32)), (.int (4 : Int32))] 5 = mkF m 0 #[.val (.ref x0), .val (.int (0 : Int32)), .val (.int (4 : Int32)), .unset, .unset] [] := by first | (simp [entryFrame, mkF, argsToLocals, Value.category]; done) | rfl
set_option maxRecDepth 65536 in
set_option maxHeartbeats 40000000 in
theorem rm9 (l : Launch) (Z : State) (a0 : Array Value) (hw : ∀ d ∈ tables_1, d.before a0 Z = true) (hE : EW Z a0 own_EL) (ws : List Jvm.Cond) (r0 : Addr) (h0 : Heap) (n0 : Nat) (O0 : Old Z n0 h0) (ua ub uc ud : Nat) (hua : ua ≤ 65535) (hub : ub ≤ 65535) (huc : uc ≤ 65535) (hud : ud ≤ 65535) (A0 : Ark Z h0 r0 .char [(.int (Int32.ofNat ua)), (.int (Int32.ofNat ub)), (.int (Int32.ofNat uc)), (.int (Int32.ofNat ud))]) (S_ad : Sta Z Z.heap "java/lang/StringUTF16" "$assertionsDisabled" "Z" (.int 1)) (S_hi : Sta Z Z.heap "java/lang/StringUTF16" "HI_BYTE_SHIFT" "I" (.int 0)) (S_lo : Sta Z Z.heap "java/lang/StringUTF16" "LO_BYTE_SHIFT" "I" (.int 8)) :
    Ctr False l Z own_EL (⟨"java/lang/StringUTF16", "toBytes", "([CII)[B"⟩ : MethodName) jdk_52_method_14_code 5 (some (.array .byte)) ws ({ frames := 2, cells := 1, slots := 8, locals := 24 } : Room) n0 ([]) #[(.ref r0), (.int (0 : Int32)), (.int (4 : Int32))] h0 (Rt (fun w h g => ∃ t, w = .ref t ∧ Keep h0 h [] ∧ h0.size ≤ t ∧ Ark Z h t .byte [(.int (lo8 (Int32.ofNat ua >>> ((0 : Int32) &&& 31)))), (.int (lo8 (Int32.ofNat ua >>> ((8 : Int32) &&& 31)))), (.int (lo8 (Int32.ofNat ub >>> ((0 : Int32) &&& 31)))), (.int (lo8 (Int32.ofNat ub >>> ((8 : Int32) &&& 31)))), (.int (lo8 (Int32.ofNat uc >>> ((0 : Int32) &&& 31)))), (.int (lo8 (Int32.ofNat uc >>> ((8 : Int32) &&& 31)))), (.int (lo8 (Int32.ofNat ud >>> ((0 : Int32) &&& 31)))), (.int (lo8 (Int32.ofNat ud >>> ((8 : Int32) &&& 31))))])) := by
  refine Ctr.of (plainFor_of_name pn_java_lang_StringUTF16) hE (fun m => ef_rm9 m r0) ?_
  intro p e s m below meth c T0 X0
  have Z0 : Keep h0 h0 [] := Keep.refl _ _
  refine OwnW.iloadN X0 (n := 1) d9_0 rfl rfl ?_
  refine OwnW.call_static_v X0 (z := (⟨"java/lang/StringUTF16", "newBytesFor", "(I)[B"⟩ : MethodName)) (n := 4) d9_1 (hw _ (List.mem_of_getElem? (i := 43) rfl)) (hw _ (List.mem_of_getElem? (i := 44) rfl)) (hw _ (List.mem_of_getElem? (i := 45) rfl)) (hw _ (List.mem_of_getElem? (i := 23) rfl)) (by decide) (rm10 l Z a0 hw hE [] h0 n0 O0) OwnW.sf0 (argsL := [(.int (4 : Int32))]) (rest := []) rfl rfl (OwnW.lenA pd__I__B rfl) (W := 0) (Nat.le_of_eq rfl) (by decide) (by decide) (by decide) (by decide) rfl ?_
  intro T1 h1 w1 g1 hle1 X1 ⟨t1, q1, k1, z1, a1, m1⟩
  subst q1
  have ne_r0_t1 : r0 ≠ t1 := Nat.ne_of_lt (Nat.lt_of_lt_of_le A0.lt z1)
  have ge_t1 : n0 ≤ t1 := Nat.le_trans (OwnW.oldLe O0) z1
  have K1 := k1
  have O1 := O0.keep K1 all0
  have Z1 : Keep h0 h1 [] := Z0.trans K1 (fun x hx => nomatch hx)
  have sz_t1 : h0.size ≤ t1 := Nat.le_trans Z0.1 z1
  refine OwnW.astoreN X1 (l' := #[.val (.ref r0), .val (.int (0 : Int32)), .val (.int (4 : Int32)), .val (.ref t1), .unset]) (n := 5) d9_4 rfl rfl rfl ?_
  refine OwnW.iconst X1 (z := (0 : Int32)) (n := 6) d9_5 rfl rfl ?_
  refine OwnW.istore X1 (l' := #[.val (.ref r0), .val (.int (0 : Int32)), .val (.int (4 : Int32)), .val (.ref t1), .val (.int (0 : Int32))]) (n := 8) d9_6 rfl rfl ?_
  refine OwnW.iload X1 (n := 10) d9_8 rfl rfl ?_
  refine OwnW.iloadN X1 (n := 11) d9_10 rfl rfl ?_
  refine OwnW.ic_ge X1  (n1 := 32) (n2 := 14) d9_11 (by decide) rfl rfl (fun q => absurd ((by decide) : (0 : Int32) < (4 : Int32)) q) (fun _ => ?_)
  refine OwnW.aloadN X1 (n := 15) d9_14 rfl rfl rfl ?_
  refine OwnW.iload X1 (n := 17) d9_15 rfl rfl ?_
  refine OwnW.aloadN X1 (n := 18) d9_17 rfl rfl rfl ?_
  refine OwnW.iloadN X1 (n := 19) d9_18 rfl rfl ?_
  have fk2 := (A0.keep K1 nin0)
  refine OwnW.caload X1 (i := 0) (v := (.int (Int32.ofNat ua))) (n := 20) d9_19 fk2 rfl rfl rfl ?_
  refine OwnW.call_static_n X1 (z := (⟨"java/lang/StringUTF16", "putChar", "([BII)V"⟩ : MethodName)) (n := 23) d9_20 (hw _ (List.mem_of_getElem? (i := 50) rfl)) (hw _ (List.mem_of_getElem? (i := 51) rfl)) (hw _ (List.mem_of_getElem? (i := 52) rfl)) (hw _ (List.mem_of_getElem? (i := 23) rfl)) (by decide) (rm12 l Z a0 hw hE [] t1 h1 n0 O1 0 ua (by decide) [(.int (0 : Int32)), (.int (0 : Int32)), (.int (0 : Int32)), (.int (0 : Int32)), (.int (0 : Int32)), (.int (0 : Int32)), (.int (0 : Int32)), (.int (0 : Int32))] (Nat.le_of_ble_eq_true rfl) ge_t1 a1 S_ad S_hi S_lo) (OwnW.sfS (List.mem_append_right _ m1) OwnW.sf0) (argsL := [(.ref t1), (.int (0 : Int32)), (.int (Int32.ofNat ua))]) (rest := []) rfl rfl (OwnW.lenA pd___BII_V rfl) (W := 0) (Nat.le_of_eq rfl) (by decide) (by decide) (by decide) (by decide) rfl ?_
  intro T3 h3 g3 hle3 X3 ⟨k3, a3⟩
  have K3 := k3
  have O3 := O1.keep K3 (allS ge_t1 all0)
  have Z3 : Keep h0 h3 [] := Z1.trans K3 (allS (P := fun x => x ∈ [] ∨ h0.size ≤ x) (Or.inr sz_t1) all0)
  replace a3 : Ark Z h3 t1 .byte [(.int (lo8 (Int32.ofNat ua >>> ((0 : Int32) &&& 31)))), (.int (lo8 (Int32.ofNat ua >>> ((8 : Int32) &&& 31)))), (.int (0 : Int32)), (.int (0 : Int32)), (.int (0 : Int32)), (.int (0 : Int32)), (.int (0 : Int32)), (.int (0 : Int32))] := a3
  refine OwnW.iinc X3 (z := (1 : Int32)) (u := (1 : Int32)) (l' := #[.val (.ref r0), .val (.int (1 : Int32)), .val (.int (4 : Int32)), .val (.ref t1), .val (.int (0 : Int32))]) (n := 26) d9_23 rfl rfl rfl rfl rfl ?_
  refine OwnW.iinc X3 (z := (1 : Int32)) (u := (1 : Int32)) (l' := #[.val (.ref r0), .val (.int (1 : Int32)), .val (.int (4 : Int32)), .val (.ref t1), .val (.int (1 : Int32))]) (n := 29) d9_26 rfl rfl rfl rfl rfl ?_
  refine OwnW.goto X3 (n := 8) d9_29 (by decide) rfl ?_
  refine OwnW.iload X3 (n := 10) d9_8 rfl rfl ?_
  refine OwnW.iloadN X3 (n := 11) d9_10 rfl rfl ?_
  refine OwnW.ic_ge X3  (n1 := 32) (n2 := 14) d9_11 (by decide) rfl rfl (fun q => absurd ((by decide) : (1 : Int32) < (4 : Int32)) q) (fun _ => ?_)
  refine OwnW.aloadN X3 (n := 15) d9_14 rfl rfl rfl ?_
  refine OwnW.iload X3 (n := 17) d9_15 rfl rfl ?_
  refine OwnW.aloadN X3 (n := 18) d9_17 rfl rfl rfl ?_
  refine OwnW.iloadN X3 (n := 19) d9_18 rfl rfl ?_
  have fk4 := (fk2.keep K3 (ninS ne_r0_t1 nin0))
  refine OwnW.caload X3 (i := 1) (v := (.int (Int32.ofNat ub))) (n := 20) d9_19 fk4 rfl rfl rfl ?_
  refine OwnW.call_static_n X3 (z := (⟨"java/lang/StringUTF16", "putChar", "([BII)V"⟩ : MethodName)) (n := 23) d9_20 (hw _ (List.mem_of_getElem? (i := 50) rfl)) (hw _ (List.mem_of_getElem? (i := 51) rfl)) (hw _ (List.mem_of_getElem? (i := 52) rfl)) (hw _ (List.mem_of_getElem? (i := 23) rfl)) (by decide) (rm12 l Z a0 hw hE [] t1 h3 n0 O3 1 ub (by decide) [(.int (lo8 (Int32.ofNat ua >>> ((0 : Int32) &&& 31)))), (.int (lo8 (Int32.ofNat ua >>> ((8 : Int32) &&& 31)))), (.int (0 : Int32)), (.int (0 : Int32)), (.int (0 : Int32)), (.int (0 : Int32)), (.int (0 : Int32)), (.int (0 : Int32))] (Nat.le_of_ble_eq_true rfl) ge_t1 a3 S_ad S_hi S_lo) (OwnW.sfS (List.mem_append_left _ (List.mem_append_right _ m1)) OwnW.sf0) (argsL := [(.ref t1), (.int (1 : Int32)), (.int (Int32.ofNat ub))]) (rest := []) rfl rfl (OwnW.lenA pd___BII_V rfl) (W := 0) (Nat.le_of_eq rfl) (by decide) (by decide) (by decide) (by decide) rfl ?_
  intro T5 h5 g5 hle5 X5 ⟨k5, a5⟩
  have K5 := k5
  have O5 := O3.keep K5 (allS ge_t1 all0)
  have Z5 : Keep h0 h5 [] := Z3.trans K5 (allS (P := fun x => x ∈ [] ∨ h0.size ≤ x) (Or.inr sz_t1) all0)
  replace a5 : Ark Z h5 t1 .byte [(.int (lo8 (Int32.ofNat ua >>> ((0 : Int32) &&& 31)))), (.int (lo8 (Int32.ofNat ua >>> ((8 : Int32) &&& 31)))), (.int (lo8 (Int32.ofNat ub >>> ((0 : Int32) &&& 31)))), (.int (lo8 (Int32.ofNat ub >>> ((8 : Int32) &&& 31)))), (.int (0 : Int32)), (.int (0 : Int32)), (.int (0 : Int32)), (.int (0 : Int32))] := a5
  refine OwnW.iinc X5 (z := (1 : Int32)) (u := (2 : Int32)) (l' := #[.val (.ref r0), .val (.int (2 : Int32)), .val (.int (4 : Int32)), .val (.ref t1), .val (.int (1 : Int32))]) (n := 26) d9_23 rfl rfl rfl rfl rfl ?_
  refine OwnW.iinc X5 (z := (1 : Int32)) (u := (2 : Int32)) (l' := #[.val (.ref r0), .val (.int (2 : Int32)), .val (.int (4 : Int32)), .val (.ref t1), .val (.int (2 : Int32))]) (n := 29) d9_26 rfl rfl rfl rfl rfl ?_
  refine OwnW.goto X5 (n := 8) d9_29 (by decide) rfl ?_
  refine OwnW.iload X5 (n := 10) d9_8 rfl rfl ?_
  refine OwnW.iloadN X5 (n := 11) d9_10 rfl rfl ?_
  refine OwnW.ic_ge X5  (n1 := 32) (n2 := 14) d9_11 (by decide) rfl rfl (fun q => absurd ((by decide) : (2 : Int32) < (4 : Int32)) q) (fun _ => ?_)
  refine OwnW.aloadN X5 (n := 15) d9_14 rfl rfl rfl ?_
  refine OwnW.iload X5 (n := 17) d9_15 rfl rfl ?_
  refine OwnW.aloadN X5 (n := 18) d9_17 rfl rfl rfl ?_
  refine OwnW.iloadN X5 (n := 19) d9_18 rfl rfl ?_
  have fk6 := (fk4.keep K5 (ninS ne_r0_t1 nin0))
  refine OwnW.caload X5 (i := 2) (v := (.int (Int32.ofNat uc))) (n := 20) d9_19 fk6 rfl rfl rfl ?_
  refine OwnW.call_static_n X5 (z := (⟨"java/lang/StringUTF16", "putChar", "([BII)V"⟩ : MethodName)) (n := 23) d9_20 (hw _ (List.mem_of_getElem? (i := 50) rfl)) (hw _ (List.mem_of_getElem? (i := 51) rfl)) (hw _ (List.mem_of_getElem? (i := 52) rfl)) (hw _ (List.mem_of_getElem? (i := 23) rfl)) (by decide) (rm12 l Z a0 hw hE [] t1 h5 n0 O5 2 uc (by decide) [(.int (lo8 (Int32.ofNat ua >>> ((0 : Int32) &&& 31)))), (.int (lo8 (Int32.ofNat ua >>> ((8 : Int32) &&& 31)))), (.int (lo8 (Int32.ofNat ub >>> ((0 : Int32) &&& 31)))), (.int (lo8 (Int32.ofNat ub >>> ((8 : Int32) &&& 31)))), (.int (0 : Int32)), (.int (0 : Int32)), (.int (0 : Int32)), (.int (0 : Int32))] (Nat.le_of_ble_eq_true rfl) ge_t1 a5 S_ad S_hi S_lo) (OwnW.sfS (List.mem_append_left _ (List.mem_append_left _ (List.mem_append_right _ m1))) OwnW.sf0) (argsL := [(.ref t1), (.int (2 : Int32)), (.int (Int32.ofNat uc))]) (rest := []) rfl rfl (OwnW.lenA pd___BII_V rfl) (W := 0) (Nat.le_of_eq rfl) (by decide) (by decide) (by decide) (by decide) rfl ?_
  intro T7 h7 g7 hle7 X7 ⟨k7, a7⟩
  have K7 := k7
  have O7 := O5.keep K7 (allS ge_t1 all0)
  have Z7 : Keep h0 h7 [] := Z5.trans K7 (allS (P := fun x => x ∈ [] ∨ h0.size ≤ x) (Or.inr sz_t1) all0)
  replace a7 : Ark Z h7 t1 .byte [(.int (lo8 (Int32.ofNat ua >>> ((0 : Int32) &&& 31)))), (.int (lo8 (Int32.ofNat ua >>> ((8 : Int32) &&& 31)))), (.int (lo8 (Int32.ofNat ub >>> ((0 : Int32) &&& 31)))), (.int (lo8 (Int32.ofNat ub >>> ((8 : Int32) &&& 31)))), (.int (lo8 (Int32.ofNat uc >>> ((0 : Int32) &&& 31)))), (.int (lo8 (Int32.ofNat uc >>> ((8 : Int32) &&& 31)))), (.int (0 : Int32)), (.int (0 : Int32))] := a7
  refine OwnW.iinc X7 (z := (1 : Int32)) (u := (3 : Int32)) (l' := #[.val (.ref r0), .val (.int (3 : Int32)), .val (.int (4 : Int32)), .val (.ref t1), .val (.int (2 : Int32))]) (n := 26) d9_23 rfl rfl rfl rfl rfl ?_
  refine OwnW.iinc X7 (z := (1 : Int32)) (u := (3 : Int32)) (l' := #[.val (.ref r0), .val (.int (3 : Int32)), .val (.int (4 : Int32)), .val (.ref t1), .val (.int (3 : Int32))]) (n := 29) d9_26 rfl rfl rfl rfl rfl ?_
  refine OwnW.goto X7 (n := 8) d9_29 (by decide) rfl ?_
  refine OwnW.iload X7 (n := 10) d9_8 rfl rfl ?_
  refine OwnW.iloadN X7 (n := 11) d9_10 rfl rfl ?_
  refine OwnW.ic_ge X7  (n1 := 32) (n2 := 14) d9_11 (by decide) rfl rfl (fun q => absurd ((by decide) : (3 : Int32) < (4 : Int32)) q) (fun _ => ?_)
  refine OwnW.aloadN X7 (n := 15) d9_14 rfl rfl rfl ?_
  refine OwnW.iload X7 (n := 17) d9_15 rfl rfl ?_
  refine OwnW.aloadN X7 (n := 18) d9_17 rfl rfl rfl ?_
  refine OwnW.iloadN X7 (n := 19) d9_18 rfl rfl ?_
  have fk8 := (fk6.keep K7 (ninS ne_r0_t1 nin0))
  refine OwnW.caload X7 (i := 3) (v := (.int (Int32.ofNat ud))) (n := 20) d9_19 fk8 rfl rfl rfl ?_
  refine OwnW.call_static_n X7 (z := (⟨"java/lang/StringUTF16", "putChar", "([BII)V"⟩ : MethodName)) (n := 23) d9_20 (hw _ (List.mem_of_getElem? (i := 50) rfl)) (hw _ (List.mem_of_getElem? (i := 51) rfl)) (hw _ (List.mem_of_getElem? (i := 52) rfl)) (hw _ (List.mem_of_getElem? (i := 23) rfl)) (by decide) (rm12 l Z a0 hw hE [] t1 h7 n0 O7 3 ud (by decide) [(.int (lo8 (Int32.ofNat ua >>> ((0 : Int32) &&& 31)))), (.int (lo8 (Int32.ofNat ua >>> ((8 : Int32) &&& 31)))), (.int (lo8 (Int32.ofNat ub >>> ((0 : Int32) &&& 31)))), (.int (lo8 (Int32.ofNat ub >>> ((8 : Int32) &&& 31)))), (.int (lo8 (Int32.ofNat uc >>> ((0 : Int32) &&& 31)))), (.int (lo8 (Int32.ofNat uc >>> ((8 : Int32) &&& 31)))), (.int (0 : Int32)), (.int (0 : Int32))] (Nat.le_of_ble_eq_true rfl) ge_t1 a7 S_ad S_hi S_lo) (OwnW.sfS (List.mem_append_left _ (List.mem_append_left _ (List.mem_append_left _ (List.mem_append_right _ m1)))) OwnW.sf0) (argsL := [(.ref t1), (.int (3 : Int32)), (.int (Int32.ofNat ud))]) (rest := []) rfl rfl (OwnW.lenA pd___BII_V rfl) (W := 0) (Nat.le_of_eq rfl) (by decide) (by decide) (by decide) (by decide) rfl ?_
  intro T9 h9 g9 hle9 X9 ⟨k9, a9⟩
  have K9 := k9
  have O9 := O7.keep K9 (allS ge_t1 all0)
  have Z9 : Keep h0 h9 [] := Z7.trans K9 (allS (P := fun x => x ∈ [] ∨ h0.size ≤ x) (Or.inr sz_t1) all0)
  replace a9 : Ark Z h9 t1 .byte [(.int (lo8 (Int32.ofNat ua >>> ((0 : Int32) &&& 31)))), (.int (lo8 (Int32.ofNat ua >>> ((8 : Int32) &&& 31)))), (.int (lo8 (Int32.ofNat ub >>> ((0 : Int32) &&& 31)))), (.int (lo8 (Int32.ofNat ub >>> ((8 : Int32) &&& 31)))), (.int (lo8 (Int32.ofNat uc >>> ((0 : Int32) &&& 31)))), (.int (lo8 (Int32.ofNat uc >>> ((8 : Int32) &&& 31)))), (.int (lo8 (Int32.ofNat ud >>> ((0 : Int32) &&& 31)))), (.int (lo8 (Int32.ofNat ud >>> ((8 : Int32) &&& 31))))] := a9
  refine OwnW.iinc X9 (z := (1 : Int32)) (u := (4 : Int32)) (l' := #[.val (.ref r0), .val (.int (4 : Int32)), .val (.int (4 : Int32)), .val (.ref t1), .val (.int (3 : Int32))]) (n := 26) d9_23 rfl rfl rfl rfl rfl ?_
  refine OwnW.iinc X9 (z := (1 : Int32)) (u := (4 : Int32)) (l' := #[.val (.ref r0), .val (.int (4 : Int32)), .val (.int (4 : Int32)), .val (.ref t1), .val (.int (4 : Int32))]) (n := 29) d9_26 rfl rfl rfl rfl rfl ?_
  refine OwnW.goto X9 (n := 8) d9_29 (by decide) rfl ?_
  refine OwnW.iload X9 (n := 10) d9_8 rfl rfl ?_
  refine OwnW.iloadN X9 (n := 11) d9_10 rfl rfl ?_
  refine OwnW.ic_ge X9  (n1 := 32) (n2 := 14) d9_11 (by decide) rfl rfl (fun _ => ?_) (fun q => absurd q ((by decide) : ¬ (4 : Int32) < (4 : Int32)))
  refine OwnW.aloadN X9 (n := 33) d9_32 rfl rfl rfl ?_
  exact OwnW.areturn X9 rfl rfl rfl d9_33 ⟨_, rfl, Z9, sz_t1, a9⟩ (by decide) (by decide)
theorem d13_0 : decode jdk_52_method_5_code 0 = .ok (.getstatic 44, 3) := by decide +kernel
theorem d13_3 : decode jdk_52_method_5_code 3 = .ok (.ifCond .ne 25, 3) := by decide +kernel
theorem d13_28 : decode jdk_52_method_5_code 28 = .ok (.iload_n 1, 1) := by decide +kernel
theorem d13_29 : decode jdk_52_method_5_code 29 = .ok (.iconst 1, 1) := by decide +kernel
theorem d13_30 : decode jdk_52_method_5_code 30 = .ok (.ishl, 1) := by decide +kernel
theorem d13_31 : decode jdk_52_method_5_code 31 = .ok (.istore_n 1, 1) := by decide +kernel
theorem d13_32 : decode jdk_52_method_5_code 32 = .ok (.aload_n 0, 1) := by decide +kernel
theorem d13_33 : decode jdk_52_method_5_code 33 = .ok (.iload_n 1, 1) := by decide +kernel
theorem d13_34 : decode jdk_52_method_5_code 34 = .ok (.iinc 1 1, 3) := by decide +kernel
theorem d13_37 : decode jdk_52_method_5_code 37 = .ok (.baload, 1) := by decide +kernel
theorem d13_38 : decode jdk_52_method_5_code 38 = .ok (.sipush 255, 3) := by decide +kernel
theorem d13_41 : decode jdk_52_method_5_code 41 = .ok (.iand, 1) := by decide +kernel
theorem d13_42 : decode jdk_52_method_5_code 42 = .ok (.getstatic 59, 3) := by decide +kernel
theorem d13_45 : decode jdk_52_method_5_code 45 = .ok (.ishl, 1) := by decide +kernel
theorem d13_46 : decode jdk_52_method_5_code 46 = .ok (.aload_n 0, 1) := by decide +kernel
theorem d13_47 : decode jdk_52_method_5_code 47 = .ok (.iload_n 1, 1) := by decide +kernel
theorem d13_48 : decode jdk_52_method_5_code 48 = .ok (.baload, 1) := by decide +kernel
theorem d13_49 : decode jdk_52_method_5_code 49 = .ok (.sipush 255, 3) := by decide +kernel
theorem d13_52 : decode jdk_52_method_5_code 52 = .ok (.iand, 1) := by decide +kernel
theorem d13_53 : decode jdk_52_method_5_code 53 = .ok (.getstatic 63, 3) := by decide +kernel
theorem d13_56 : decode jdk_52_method_5_code 56 = .ok (.ishl, 1) := by decide +kernel
theorem d13_57 : decode jdk_52_method_5_code 57 = .ok (.ior, 1) := by decide +kernel
theorem d13_58 : decode jdk_52_method_5_code 58 = .ok (.i2c, 1) := by decide +kernel
theorem d13_59 : decode jdk_52_method_5_code 59 = .ok (.ireturn, 1) := by decide +kernel
theorem ef_rm13 (m : MethodId) (x0 : Addr) (x1 : Int32) : entryFrame m #[(.ref x0), (.int x1)] 2 = mkF m 0 #[.val (.ref x0), .val (.int x1)] [] := by first | (simp [entryFrame, mkF, argsToLocals, Value.category]; done) | rfl
set_option maxRecDepth 65536 in
set_option maxHeartbeats 40000000 in
theorem rm13 (l : Launch) (Z : State) (a0 : Array Value) (hw : ∀ d ∈ tables_1, d.before a0 Z = true) (hE : EW Z a0 own_EL) (ws : List Jvm.Cond) (r0 : Addr) (h0 : Heap) (n0 : Nat) (O0 : Old Z n0 h0) (i k : Nat) (hi : i < 1000000000) (hk : k ≤ 65535) (vs : List Value) (h1 : vs[2 * i]? = some (.int (lo8 (Int32.ofNat k >>> ((0 : Int32) &&& 31))))) (h2 : vs[2 * i + 1]? = some (.int (lo8 (Int32.ofNat k >>> ((8 : Int32) &&& 31))))) (A0 : Ark Z h0 r0 .byte vs) (S_ad : Sta Z Z.heap "java/lang/StringUTF16" "$assertionsDisabled" "Z" (.int 1)) (S_hi : Sta Z Z.heap "java/lang/StringUTF16" "HI_BYTE_SHIFT" "I" (.int 0)) (S_lo : Sta Z Z.heap "java/lang/StringUTF16" "LO_BYTE_SHIFT" "I" (.int 8)) :
    Ctr False l Z own_EL (⟨"java/lang/StringUTF16", "getChar", "([BI)C"⟩ : MethodName) jdk_52_method_5_code 2 (some .char) ws ({ frames := 0, cells := 0, slots := 0, locals := 0 } : Room) n0 ([]) #[(.ref r0), (.int (Int32.ofNat i))] h0 (Rt (fun w h g => w = .int (Int32.ofNat k) ∧ h0 = h)) := by
  refine Ctr.of (plainFor_of_name pn_java_lang_StringUTF16) hE (fun m => ef_rm13 m r0 (Int32.ofNat i)) ?_
  intro p e s m below meth c T0 X0
  have Z0 : Keep h0 h0 [] := Keep.refl _ _
  refine OwnW.getstatic X0 (n := 3) d13_0 (hw _ (List.mem_of_getElem? (i := 53) rfl)) Via.refl (S_ad.ext O0.2) rfl ?_
  intro T1 X1
  refine OwnW.if_ne X1  (n1 := 28) (n2 := 6) d13_3 (by decide) rfl rfl (fun _ => ?_) (fun q => absurd q ((by decide) : ¬ (1 : Int32) = 0))
  refine OwnW.iloadN X1 (n := 29) d13_28 rfl rfl ?_
  refine OwnW.iconst X1 (z := (1 : Int32)) (n := 30) d13_29 rfl rfl ?_
  refine OwnW.ishl X1 (n := 31) d13_30 rfl ?_
  rw [own_shl1 (i := i) (by omega)]
  refine OwnW.istoreN X1 (l' := #[.val (.ref r0), .val (.int (Int32.ofNat (2 * i)))]) (n := 32) d13_31 rfl rfl ?_
  refine OwnW.aloadN X1 (n := 33) d13_32 rfl rfl rfl ?_
  refine OwnW.iloadN X1 (n := 34) d13_33 rfl rfl ?_
  refine OwnW.iinc X1 (z := (1 : Int32)) (u := ((Int32.ofNat (2 * i)) + (1 : Int32))) (l' := #[.val (.ref r0), .val (.int ((Int32.ofNat (2 * i)) + (1 : Int32)))]) (n := 37) d13_34 rfl rfl rfl rfl rfl ?_
  rw [show (((Int32.ofNat (2 * i)) + (1 : Int32)) : Int32) = (Int32.ofNat ((2 * i) + 1)) from own_add (2 * i) 1]
  refine OwnW.baload X1 (i := 2 * i) (v := (.int (lo8 (Int32.ofNat k >>> ((0 : Int32) &&& 31))))) (n := 38) d13_37 A0 (own_nat (i := 2 * i) (by omega)) h1 rfl ?_
  refine OwnW.sipush X1 (z := (255 : Int32)) (n := 41) d13_38 rfl rfl ?_
  refine OwnW.iand X1 (n := 42) d13_41 rfl ?_
  refine OwnW.getstatic X1 (n := 45) d13_42 (hw _ (List.mem_of_getElem? (i := 54) rfl)) Via.refl (S_hi.ext O0.2) rfl ?_
  intro T2 X2
  refine OwnW.ishl X2 (n := 46) d13_45 rfl ?_
  refine OwnW.aloadN X2 (n := 47) d13_46 rfl rfl rfl ?_
  refine OwnW.iloadN X2 (n := 48) d13_47 rfl rfl ?_
  refine OwnW.baload X2 (i := 2 * i + 1) (v := (.int (lo8 (Int32.ofNat k >>> ((8 : Int32) &&& 31))))) (n := 49) d13_48 A0 (own_nat (i := 2 * i + 1) (by omega)) h2 rfl ?_
  refine OwnW.sipush X2 (z := (255 : Int32)) (n := 52) d13_49 rfl rfl ?_
  refine OwnW.iand X2 (n := 53) d13_52 rfl ?_
  refine OwnW.getstatic X2 (n := 56) d13_53 (hw _ (List.mem_of_getElem? (i := 55) rfl)) Via.refl (S_lo.ext O0.2) rfl ?_
  intro T3 X3
  refine OwnW.ishl X3 (n := 57) d13_56 rfl ?_
  refine OwnW.ior X3 (n := 58) d13_57 rfl ?_
  refine OwnW.i2c X3 (n := 59) d13_58 rfl ?_
  rw [own_join16 hk]
  exact OwnW.ireturnN X3 rfl (Or.inr (Or.inr (Or.inl rfl))) (own_nar16 hk) d13_59 ⟨rfl, rfl⟩ (by decide) (by decide)
theorem d6_0 : decode jdk_52_method_21_code 0 = .ok (.iconst 0, 1) := by decide +kernel
theorem d6_1 : decode jdk_52_method_21_code 1 = .ok (.istore 5, 2) := by decide +kernel
theorem d6_3 : decode jdk_52_method_21_code 3 = .ok (.iload 5, 2) := by decide +kernel
theorem d6_5 : decode jdk_52_method_21_code 5 = .ok (.iload 4, 2) := by decide +kernel
theorem d6_7 : decode jdk_52_method_21_code 7 = .ok (.if_icmp .ge 37, 3) := by decide +kernel
theorem d6_10 : decode jdk_52_method_21_code 10 = .ok (.aload_n 0, 1) := by decide +kernel
theorem d6_11 : decode jdk_52_method_21_code 11 = .ok (.iload_n 1, 1) := by decide +kernel
theorem d6_12 : decode jdk_52_method_21_code 12 = .ok (.caload, 1) := by decide +kernel
theorem d6_13 : decode jdk_52_method_21_code 13 = .ok (.istore 6, 2) := by decide +kernel
theorem d6_15 : decode jdk_52_method_21_code 15 = .ok (.iload 6, 2) := by decide +kernel
theorem d6_17 : decode jdk_52_method_21_code 17 = .ok (.sipush 255, 3) := by decide +kernel
theorem d6_20 : decode jdk_52_method_21_code 20 = .ok (.if_icmp .le 6, 3) := by decide +kernel
theorem d6_23 : decode jdk_52_method_21_code 23 = .ok (.iload 5, 2) := by decide +kernel
theorem d6_25 : decode jdk_52_method_21_code 25 = .ok (.ireturn, 1) := by decide +kernel
theorem d6_26 : decode jdk_52_method_21_code 26 = .ok (.aload_n 2, 1) := by decide +kernel
theorem d6_27 : decode jdk_52_method_21_code 27 = .ok (.iload_n 3, 1) := by decide +kernel
theorem d6_28 : decode jdk_52_method_21_code 28 = .ok (.iload 6, 2) := by decide +kernel
theorem d6_30 : decode jdk_52_method_21_code 30 = .ok (.i2b, 1) := by decide +kernel
theorem d6_31 : decode jdk_52_method_21_code 31 = .ok (.bastore, 1) := by decide +kernel
theorem d6_32 : decode jdk_52_method_21_code 32 = .ok (.iinc 1 1, 3) := by decide +kernel
theorem d6_35 : decode jdk_52_method_21_code 35 = .ok (.iinc 3 1, 3) := by decide +kernel
theorem d6_38 : decode jdk_52_method_21_code 38 = .ok (.iinc 5 1, 3) := by decide +kernel
theorem d6_41 : decode jdk_52_method_21_code 41 = .ok (.goto (-38), 3) := by decide +kernel
theorem d6_44 : decode jdk_52_method_21_code 44 = .ok (.iload 4, 2) := by decide +kernel
theorem d6_46 : decode jdk_52_method_21_code 46 = .ok (.ireturn, 1) := by decide +kernel
theorem ef_rm6 (m : MethodId) (x0 : Addr) (x2 : Addr) : entryFrame m #[(.ref x0), (.int (0 : Int32)), (.ref x2), (.int (0 : Int32)), (.int (4 : Int32))] 7 = mkF m 0 #[.val (.ref x0), .val (.int (0 : Int32)), .val (.ref x2), .val (.int (0 : Int32)), .val (.int (4 : Int32)), .unset, .unset] [] := by first | (simp [entryFrame, mkF, argsToLocals, Value.category]; done) | rfl
set_option maxRecDepth 65536 in
set_option maxHeartbeats 40000000 in
theorem rm6 (l : Launch) (Z : State) (a0 : Array Value) (hw : ∀ d ∈ tables_1, d.before a0 Z = true) (hE : EW Z a0 own_EL) (ws : List Jvm.Cond) (r0 : Addr) (r2 : Addr) (h0 : Heap) (n0 : Nat) (O0 : Old Z n0 h0) (ua ub uc ud : Nat) (hua : ua ≤ 65535) (hub : ub ≤ 65535) (huc : uc ≤ 65535) (hud : ud ≤ 65535) (A0 : Ark Z h0 r0 .char [(.int (Int32.ofNat ua)), (.int (Int32.ofNat ub)), (.int (Int32.ofNat uc)), (.int (Int32.ofNat ud))]) (A2 : Ark Z h0 r2 .byte [(.int (0 : Int32)), (.int (0 : Int32)), (.int (0 : Int32)), (.int (0 : Int32))]) (ge_r2 : n0 ≤ r2) (ne02 : r0 ≠ r2) :
    Ctr False l Z own_EL (⟨"java/lang/StringUTF16", "compress", "([CI[BII)I"⟩ : MethodName) jdk_52_method_21_code 7 (some .int) ws ({ frames := 0, cells := 0, slots := 0, locals := 0 } : Room) n0 (r2 :: []) #[(.ref r0), (.int (0 : Int32)), (.ref r2), (.int (0 : Int32)), (.int (4 : Int32))] h0 (Rt (fun w h g => Keep h0 h [r2] ∧ ((w = .int 4 ∧ (ua ≤ 255 ∧ ub ≤ 255 ∧ uc ≤ 255 ∧ ud ≤ 255) ∧ Ark Z h r2 .byte [(.int (lo8 (Int32.ofNat ua))), (.int (lo8 (Int32.ofNat ub))), (.int (lo8 (Int32.ofNat uc))), (.int (lo8 (Int32.ofNat ud)))]) ∨ (w = .int 0 ∧ 255 < ua) ∨ (w = .int 1 ∧ 255 < ub) ∨ (w = .int 2 ∧ 255 < uc) ∨ (w = .int 3 ∧ 255 < ud)))) := by
  refine Ctr.of (plainFor_of_name pn_java_lang_StringUTF16) hE (fun m => ef_rm6 m r0 r2) ?_
  intro p e s m below meth c T0 X0
  have Z0 : Keep h0 h0 [r2] := Keep.refl _ _
  refine OwnW.iconst X0 (z := (0 : Int32)) (n := 1) d6_0 rfl rfl ?_
  refine OwnW.istore X0 (l' := #[.val (.ref r0), .val (.int (0 : Int32)), .val (.ref r2), .val (.int (0 : Int32)), .val (.int (4 : Int32)), .val (.int (0 : Int32)), .unset]) (n := 3) d6_1 rfl rfl ?_
  refine OwnW.iload X0 (n := 5) d6_3 rfl rfl ?_
  refine OwnW.iload X0 (n := 7) d6_5 rfl rfl ?_
  refine OwnW.ic_ge X0  (n1 := 44) (n2 := 10) d6_7 (by decide) rfl rfl (fun q => absurd ((by decide) : (0 : Int32) < (4 : Int32)) q) (fun _ => ?_)
  refine OwnW.aloadN X0 (n := 11) d6_10 rfl rfl rfl ?_
  refine OwnW.iloadN X0 (n := 12) d6_11 rfl rfl ?_
  refine OwnW.caload X0 (i := 0) (v := (.int (Int32.ofNat ua))) (n := 13) d6_12 A0 rfl rfl rfl ?_
  refine OwnW.istore X0 (l' := #[.val (.ref r0), .val (.int (0 : Int32)), .val (.ref r2), .val (.int (0 : Int32)), .val (.int (4 : Int32)), .val (.int (0 : Int32)), .val (.int (Int32.ofNat ua))]) (n := 15) d6_13 rfl rfl ?_
  refine OwnW.iload X0 (n := 17) d6_15 rfl rfl ?_
  refine OwnW.sipush X0 (z := (255 : Int32)) (n := 20) d6_17 rfl rfl ?_
  refine OwnW.ic_le X0  (n1 := 26) (n2 := 23) d6_20 (by decide) rfl rfl (fun hc20 => ?_) (fun hc20 => ?_)
  · have kk1 : ¬ 255 < ua := fun q => hc20 ((own_lt (i := 255) (n := ua) (by omega) (by omega)).mpr q)
    refine OwnW.aloadN X0 (n := 27) d6_26 rfl rfl rfl ?_
    refine OwnW.iloadN X0 (n := 28) d6_27 rfl rfl ?_
    refine OwnW.iload X0 (n := 30) d6_28 rfl rfl ?_
    refine OwnW.i2b X0 (n := 31) d6_30 rfl ?_
    refine OwnW.bastore X0 (i := 0) (z := (lo8 (Int32.ofNat ua))) (n := 32) d6_31 A2 rfl (Nat.le_of_ble_eq_true rfl) (own_narB _) ge_r2 (List.mem_cons_self ..) rfl ?_
    intro T2 h2 X2 W2 A2
    have K2 := (Keep.of_wr W2)
    have O2 := O0.keep K2 (allS ge_r2 all0)
    have Z2 : Keep h0 h2 [r2] := Z0.trans K2 (allS (P := fun x => x ∈ [r2] ∨ h0.size ≤ x) (Or.inl (List.mem_of_getElem? (i := 0) rfl)) all0)
    replace A2 : Ark Z h2 r2 .byte [(.int (lo8 (Int32.ofNat ua))), (.int (0 : Int32)), (.int (0 : Int32)), (.int (0 : Int32))] := A2
    refine OwnW.iinc X2 (z := (1 : Int32)) (u := (1 : Int32)) (l' := #[.val (.ref r0), .val (.int (1 : Int32)), .val (.ref r2), .val (.int (0 : Int32)), .val (.int (4 : Int32)), .val (.int (0 : Int32)), .val (.int (Int32.ofNat ua))]) (n := 35) d6_32 rfl rfl rfl rfl rfl ?_
    refine OwnW.iinc X2 (z := (1 : Int32)) (u := (1 : Int32)) (l' := #[.val (.ref r0), .val (.int (1 : Int32)), .val (.ref r2), .val (.int (1 : Int32)), .val (.int (4 : Int32)), .val (.int (0 : Int32)), .val (.int (Int32.ofNat ua))]) (n := 38) d6_35 rfl rfl rfl rfl rfl ?_
    refine OwnW.iinc X2 (z := (1 : Int32)) (u := (1 : Int32)) (l' := #[.val (.ref r0), .val (.int (1 : Int32)), .val (.ref r2), .val (.int (1 : Int32)), .val (.int (4 : Int32)), .val (.int (1 : Int32)), .val (.int (Int32.ofNat ua))]) (n := 41) d6_38 rfl rfl rfl rfl rfl ?_
    refine OwnW.goto X2 (n := 3) d6_41 (by decide) rfl ?_
    refine OwnW.iload X2 (n := 5) d6_3 rfl rfl ?_
    refine OwnW.iload X2 (n := 7) d6_5 rfl rfl ?_
    refine OwnW.ic_ge X2  (n1 := 44) (n2 := 10) d6_7 (by decide) rfl rfl (fun q => absurd ((by decide) : (1 : Int32) < (4 : Int32)) q) (fun _ => ?_)
    refine OwnW.aloadN X2 (n := 11) d6_10 rfl rfl rfl ?_
    refine OwnW.iloadN X2 (n := 12) d6_11 rfl rfl ?_
    have fk3 := (A0.keep K2 (ninS ne02 nin0))
    refine OwnW.caload X2 (i := 1) (v := (.int (Int32.ofNat ub))) (n := 13) d6_12 fk3 rfl rfl rfl ?_
    refine OwnW.istore X2 (l' := #[.val (.ref r0), .val (.int (1 : Int32)), .val (.ref r2), .val (.int (1 : Int32)), .val (.int (4 : Int32)), .val (.int (1 : Int32)), .val (.int (Int32.ofNat ub))]) (n := 15) d6_13 rfl rfl ?_
    refine OwnW.iload X2 (n := 17) d6_15 rfl rfl ?_
    refine OwnW.sipush X2 (z := (255 : Int32)) (n := 20) d6_17 rfl rfl ?_
    refine OwnW.ic_le X2  (n1 := 26) (n2 := 23) d6_20 (by decide) rfl rfl (fun hc20_4 => ?_) (fun hc20_4 => ?_)
    · have kk5 : ¬ 255 < ub := fun q => hc20_4 ((own_lt (i := 255) (n := ub) (by omega) (by omega)).mpr q)
      refine OwnW.aloadN X2 (n := 27) d6_26 rfl rfl rfl ?_
      refine OwnW.iloadN X2 (n := 28) d6_27 rfl rfl ?_
      refine OwnW.iload X2 (n := 30) d6_28 rfl rfl ?_
      refine OwnW.i2b X2 (n := 31) d6_30 rfl ?_
      refine OwnW.bastore X2 (i := 1) (z := (lo8 (Int32.ofNat ub))) (n := 32) d6_31 A2 rfl (Nat.le_of_ble_eq_true rfl) (own_narB _) ge_r2 (List.mem_cons_self ..) rfl ?_
      intro T6 h6 X6 W6 A6
      have K6 := (Keep.of_wr W6)
      have O6 := O2.keep K6 (allS ge_r2 all0)
      have Z6 : Keep h0 h6 [r2] := Z2.trans K6 (allS (P := fun x => x ∈ [r2] ∨ h0.size ≤ x) (Or.inl (List.mem_of_getElem? (i := 0) rfl)) all0)
      replace A6 : Ark Z h6 r2 .byte [(.int (lo8 (Int32.ofNat ua))), (.int (lo8 (Int32.ofNat ub))), (.int (0 : Int32)), (.int (0 : Int32))] := A6
      refine OwnW.iinc X6 (z := (1 : Int32)) (u := (2 : Int32)) (l' := #[.val (.ref r0), .val (.int (2 : Int32)), .val (.ref r2), .val (.int (1 : Int32)), .val (.int (4 : Int32)), .val (.int (1 : Int32)), .val (.int (Int32.ofNat ub))]) (n := 35) d6_32 rfl rfl rfl rfl rfl ?_
      refine OwnW.iinc X6 (z := (1 : Int32)) (u := (2 : Int32)) (l' := #[.val (.ref r0), .val (.int (2 : Int32)), .val (.ref r2), .val (.int (2 : Int32)), .val (.int (4 : Int32)), .val (.int (1 : Int32)), .val (.int (Int32.ofNat ub))]) (n := 38) d6_35 rfl rfl rfl rfl rfl ?_
      refine OwnW.iinc X6 (z := (1 : Int32)) (u := (2 : Int32)) (l' := #[.val (.ref r0), .val (.int (2 : Int32)), .val (.ref r2), .val (.int (2 : Int32)), .val (.int (4 : Int32)), .val (.int (2 : Int32)), .val (.int (Int32.ofNat ub))]) (n := 41) d6_38 rfl rfl rfl rfl rfl ?_
      refine OwnW.goto X6 (n := 3) d6_41 (by decide) rfl ?_
      refine OwnW.iload X6 (n := 5) d6_3 rfl rfl ?_
      refine OwnW.iload X6 (n := 7) d6_5 rfl rfl ?_
      refine OwnW.ic_ge X6  (n1 := 44) (n2 := 10) d6_7 (by decide) rfl rfl (fun q => absurd ((by decide) : (2 : Int32) < (4 : Int32)) q) (fun _ => ?_)
      refine OwnW.aloadN X6 (n := 11) d6_10 rfl rfl rfl ?_
      refine OwnW.iloadN X6 (n := 12) d6_11 rfl rfl ?_
      have fk7 := (fk3.keep K6 (ninS ne02 nin0))
      refine OwnW.caload X6 (i := 2) (v := (.int (Int32.ofNat uc))) (n := 13) d6_12 fk7 rfl rfl rfl ?_
      refine OwnW.istore X6 (l' := #[.val (.ref r0), .val (.int (2 : Int32)), .val (.ref r2), .val (.int (2 : Int32)), .val (.int (4 : Int32)), .val (.int (2 : Int32)), .val (.int (Int32.ofNat uc))]) (n := 15) d6_13 rfl rfl ?_
      refine OwnW.iload X6 (n := 17) d6_15 rfl rfl ?_
      refine OwnW.sipush X6 (z := (255 : Int32)) (n := 20) d6_17 rfl rfl ?_
      refine OwnW.ic_le X6  (n1 := 26) (n2 := 23) d6_20 (by decide) rfl rfl (fun hc20_8 => ?_) (fun hc20_8 => ?_)
      · have kk9 : ¬ 255 < uc := fun q => hc20_8 ((own_lt (i := 255) (n := uc) (by omega) (by omega)).mpr q)
        refine OwnW.aloadN X6 (n := 27) d6_26 rfl rfl rfl ?_
        refine OwnW.iloadN X6 (n := 28) d6_27 rfl rfl ?_
        refine OwnW.iload X6 (n := 30) d6_28 rfl rfl ?_
        refine OwnW.i2b X6 (n := 31) d6_30 rfl ?_
        refine OwnW.bastore X6 (i := 2) (z := (lo8 (Int32.ofNat uc))) (n := 32) d6_31 A6 rfl (Nat.le_of_ble_eq_true rfl) (own_narB _) ge_r2 (List.mem_cons_self ..) rfl ?_
        intro T10 h10 X10 W10 A10
        have K10 := (Keep.of_wr W10)
        have O10 := O6.keep K10 (allS ge_r2 all0)
        have Z10 : Keep h0 h10 [r2] := Z6.trans K10 (allS (P := fun x => x ∈ [r2] ∨ h0.size ≤ x) (Or.inl (List.mem_of_getElem? (i := 0) rfl)) all0)
        replace A10 : Ark Z h10 r2 .byte [(.int (lo8 (Int32.ofNat ua))), (.int (lo8 (Int32.ofNat ub))), (.int (lo8 (Int32.ofNat uc))), (.int (0 : Int32))] := A10
        refine OwnW.iinc X10 (z := (1 : Int32)) (u := (3 : Int32)) (l' := #[.val (.ref r0), .val (.int (3 : Int32)), .val (.ref r2), .val (.int (2 : Int32)), .val (.int (4 : Int32)), .val (.int (2 : Int32)), .val (.int (Int32.ofNat uc))]) (n := 35) d6_32 rfl rfl rfl rfl rfl ?_
        refine OwnW.iinc X10 (z := (1 : Int32)) (u := (3 : Int32)) (l' := #[.val (.ref r0), .val (.int (3 : Int32)), .val (.ref r2), .val (.int (3 : Int32)), .val (.int (4 : Int32)), .val (.int (2 : Int32)), .val (.int (Int32.ofNat uc))]) (n := 38) d6_35 rfl rfl rfl rfl rfl ?_
        refine OwnW.iinc X10 (z := (1 : Int32)) (u := (3 : Int32)) (l' := #[.val (.ref r0), .val (.int (3 : Int32)), .val (.ref r2), .val (.int (3 : Int32)), .val (.int (4 : Int32)), .val (.int (3 : Int32)), .val (.int (Int32.ofNat uc))]) (n := 41) d6_38 rfl rfl rfl rfl rfl ?_
        refine OwnW.goto X10 (n := 3) d6_41 (by decide) rfl ?_
        refine OwnW.iload X10 (n := 5) d6_3 rfl rfl ?_
        refine OwnW.iload X10 (n := 7) d6_5 rfl rfl ?_
        refine OwnW.ic_ge X10  (n1 := 44) (n2 := 10) d6_7 (by decide) rfl rfl (fun q => absurd ((by decide) : (3 : Int32) < (4 : Int32)) q) (fun _ => ?_)
        refine OwnW.aloadN X10 (n := 11) d6_10 rfl rfl rfl ?_
        refine OwnW.iloadN X10 (n := 12) d6_11 rfl rfl ?_
        have fk11 := (fk7.keep K10 (ninS ne02 nin0))
        refine OwnW.caload X10 (i := 3) (v := (.int (Int32.ofNat ud))) (n := 13) d6_12 fk11 rfl rfl rfl ?_
        refine OwnW.istore X10 (l' := #[.val (.ref r0), .val (.int (3 : Int32)), .val (.ref r2), .val (.int (3 : Int32)), .val (.int (4 : Int32)), .val (.int (3 : Int32)), .val (.int (Int32.ofNat ud))]) (n := 15) d6_13 rfl rfl ?_
        refine OwnW.iload X10 (n := 17) d6_15 rfl rfl ?_
        refine OwnW.sipush X10 (z := (255 : Int32)) (n := 20) d6_17 rfl rfl ?_
        refine OwnW.ic_le X10  (n1 := 26) (n2 := 23) d6_20 (by decide) rfl rfl (fun hc20_12 => ?_) (fun hc20_12 => ?_)
        · have kk13 : ¬ 255 < ud := fun q => hc20_12 ((own_lt (i := 255) (n := ud) (by omega) (by omega)).mpr q)
          refine OwnW.aloadN X10 (n := 27) d6_26 rfl rfl rfl ?_
          refine OwnW.iloadN X10 (n := 28) d6_27 rfl rfl ?_
          refine OwnW.iload X10 (n := 30) d6_28 rfl rfl ?_
          refine OwnW.i2b X10 (n := 31) d6_30 rfl ?_
          refine OwnW.bastore X10 (i := 3) (z := (lo8 (Int32.ofNat ud))) (n := 32) d6_31 A10 rfl (Nat.le_of_ble_eq_true rfl) (own_narB _) ge_r2 (List.mem_cons_self ..) rfl ?_
          intro T14 h14 X14 W14 A14
          have K14 := (Keep.of_wr W14)
          have O14 := O10.keep K14 (allS ge_r2 all0)
          have Z14 : Keep h0 h14 [r2] := Z10.trans K14 (allS (P := fun x => x ∈ [r2] ∨ h0.size ≤ x) (Or.inl (List.mem_of_getElem? (i := 0) rfl)) all0)
          replace A14 : Ark Z h14 r2 .byte [(.int (lo8 (Int32.ofNat ua))), (.int (lo8 (Int32.ofNat ub))), (.int (lo8 (Int32.ofNat uc))), (.int (lo8 (Int32.ofNat ud)))] := A14
          refine OwnW.iinc X14 (z := (1 : Int32)) (u := (4 : Int32)) (l' := #[.val (.ref r0), .val (.int (4 : Int32)), .val (.ref r2), .val (.int (3 : Int32)), .val (.int (4 : Int32)), .val (.int (3 : Int32)), .val (.int (Int32.ofNat ud))]) (n := 35) d6_32 rfl rfl rfl rfl rfl ?_
          refine OwnW.iinc X14 (z := (1 : Int32)) (u := (4 : Int32)) (l' := #[.val (.ref r0), .val (.int (4 : Int32)), .val (.ref r2), .val (.int (4 : Int32)), .val (.int (4 : Int32)), .val (.int (3 : Int32)), .val (.int (Int32.ofNat ud))]) (n := 38) d6_35 rfl rfl rfl rfl rfl ?_
          refine OwnW.iinc X14 (z := (1 : Int32)) (u := (4 : Int32)) (l' := #[.val (.ref r0), .val (.int (4 : Int32)), .val (.ref r2), .val (.int (4 : Int32)), .val (.int (4 : Int32)), .val (.int (4 : Int32)), .val (.int (Int32.ofNat ud))]) (n := 41) d6_38 rfl rfl rfl rfl rfl ?_
          refine OwnW.goto X14 (n := 3) d6_41 (by decide) rfl ?_
          refine OwnW.iload X14 (n := 5) d6_3 rfl rfl ?_
          refine OwnW.iload X14 (n := 7) d6_5 rfl rfl ?_
          refine OwnW.ic_ge X14  (n1 := 44) (n2 := 10) d6_7 (by decide) rfl rfl (fun _ => ?_) (fun q => absurd q ((by decide) : ¬ (4 : Int32) < (4 : Int32)))
          refine OwnW.iload X14 (n := 46) d6_44 rfl rfl ?_
          exact OwnW.ireturn X14 rfl (Or.inl rfl) rfl d6_46 ⟨Z14, Or.inl ⟨rfl, ⟨by omega, by omega, by omega, by omega⟩, A14⟩⟩ (by decide) (by decide)
        · have kk15 : 255 < ud := (own_lt (i := 255) (n := ud) (by omega) (by omega)).mp hc20_12
          refine OwnW.iload X10 (n := 25) d6_23 rfl rfl ?_
          exact OwnW.ireturn X10 rfl (Or.inl rfl) rfl d6_25 ⟨Z10, Or.inr (Or.inr (Or.inr (Or.inr (⟨rfl, by omega⟩))))⟩ (by decide) (by decide)
      · have kk16 : 255 < uc := (own_lt (i := 255) (n := uc) (by omega) (by omega)).mp hc20_8
        refine OwnW.iload X6 (n := 25) d6_23 rfl rfl ?_
        exact OwnW.ireturn X6 rfl (Or.inl rfl) rfl d6_25 ⟨Z6, Or.inr (Or.inr (Or.inr (Or.inl ⟨rfl, by omega⟩)))⟩ (by decide) (by decide)
    · have kk17 : 255 < ub := (own_lt (i := 255) (n := ub) (by omega) (by omega)).mp hc20_4
      refine OwnW.iload X2 (n := 25) d6_23 rfl rfl ?_
      exact OwnW.ireturn X2 rfl (Or.inl rfl) rfl d6_25 ⟨Z2, Or.inr (Or.inr (Or.inl ⟨rfl, by omega⟩))⟩ (by decide) (by decide)
  · have kk18 : 255 < ua := (own_lt (i := 255) (n := ua) (by omega) (by omega)).mp hc20
    refine OwnW.iload X0 (n := 25) d6_23 rfl rfl ?_
    exact OwnW.ireturn X0 rfl (Or.inl rfl) rfl d6_25 ⟨Z0, Or.inr (Or.inl ⟨rfl, by omega⟩)⟩ (by decide) (by decide)
theorem pd___CI_BII_I : parseMethodDescriptor "([CI[BII)I" = some ⟨[(.array .char), .int, (.array .byte), .int, .int], some .int⟩ := by decide +kernel
theorem pd___CII__B : parseMethodDescriptor "([CII)[B" = some ⟨[(.array .char), .int, .int], some (.array .byte)⟩ := by decide +kernel
theorem pd___BI_C : parseMethodDescriptor "([BI)C" = some ⟨[(.array .byte), .int], some .char⟩ := by decide +kernel
theorem d5_0 : decode jdk_52_method_16_code 0 = .ok (.iload_n 2, 1) := by decide +kernel
theorem d5_1 : decode jdk_52_method_16_code 1 = .ok (.newarray .byte, 2) := by decide +kernel
theorem d5_3 : decode jdk_52_method_16_code 3 = .ok (.astore_n 3, 1) := by decide +kernel
theorem d5_4 : decode jdk_52_method_16_code 4 = .ok (.aload_n 0, 1) := by decide +kernel
theorem d5_5 : decode jdk_52_method_16_code 5 = .ok (.iload_n 1, 1) := by decide +kernel
theorem d5_6 : decode jdk_52_method_16_code 6 = .ok (.aload_n 3, 1) := by decide +kernel
theorem d5_7 : decode jdk_52_method_16_code 7 = .ok (.iconst 0, 1) := by decide +kernel
theorem d5_8 : decode jdk_52_method_16_code 8 = .ok (.iload_n 2, 1) := by decide +kernel
theorem d5_9 : decode jdk_52_method_16_code 9 = .ok (.invokestatic 115, 3) := by decide +kernel
theorem d5_12 : decode jdk_52_method_16_code 12 = .ok (.istore 4, 2) := by decide +kernel
theorem d5_14 : decode jdk_52_method_16_code 14 = .ok (.iload 4, 2) := by decide +kernel
theorem d5_16 : decode jdk_52_method_16_code 16 = .ok (.iload_n 2, 1) := by decide +kernel
theorem d5_17 : decode jdk_52_method_16_code 17 = .ok (.if_icmp .eq 40, 3) := by decide +kernel
theorem d5_20 : decode jdk_52_method_16_code 20 = .ok (.aload_n 0, 1) := by decide +kernel
theorem d5_21 : decode jdk_52_method_16_code 21 = .ok (.iload_n 1, 1) := by decide +kernel
theorem d5_22 : decode jdk_52_method_16_code 22 = .ok (.iload_n 2, 1) := by decide +kernel
theorem d5_23 : decode jdk_52_method_16_code 23 = .ok (.invokestatic 119, 3) := by decide +kernel
theorem d5_26 : decode jdk_52_method_16_code 26 = .ok (.astore 5, 2) := by decide +kernel
theorem d5_28 : decode jdk_52_method_16_code 28 = .ok (.aload 5, 2) := by decide +kernel
theorem d5_30 : decode jdk_52_method_16_code 30 = .ok (.iload 4, 2) := by decide +kernel
theorem d5_32 : decode jdk_52_method_16_code 32 = .ok (.invokestatic 71, 3) := by decide +kernel
theorem d5_35 : decode jdk_52_method_16_code 35 = .ok (.sipush 255, 3) := by decide +kernel
theorem d5_38 : decode jdk_52_method_16_code 38 = .ok (.if_icmp .gt 16, 3) := by decide +kernel
theorem d5_54 : decode jdk_52_method_16_code 54 = .ok (.aload 5, 2) := by decide +kernel
theorem d5_56 : decode jdk_52_method_16_code 56 = .ok (.areturn, 1) := by decide +kernel
theorem d5_57 : decode jdk_52_method_16_code 57 = .ok (.aload_n 3, 1) := by decide +kernel
theorem d5_58 : decode jdk_52_method_16_code 58 = .ok (.areturn, 1) := by decide +kernel
theorem ef_rm5 (m : MethodId) (x0 : Addr) : entryFrame m #[(.ref x0), (.int (0 : Int32)), (.int (4 : Int32))] 6 = mkF m 0 #[.val (.ref x0), .val (.int (0 : Int32)), .val (.int (4 : Int32)), .unset, .unset, .unset] [] := by first | (simp [entryFrame, mkF, argsToLocals, Value.category]; done) | rfl
set_option maxRecDepth 65536 in
set_option maxHeartbeats 40000000 in
theorem rm5 (l : Launch) (Z : State) (a0 : Array Value) (hw : ∀ d ∈ tables_1, d.before a0 Z = true) (hE : EW Z a0 own_EL) (ws : List Jvm.Cond) (r0 : Addr) (h0 : Heap) (n0 : Nat) (O0 : Old Z n0 h0) (ua ub uc ud : Nat) (hua : ua ≤ 65535) (hub : ub ≤ 65535) (huc : uc ≤ 65535) (hud : ud ≤ 65535) (A0 : Ark Z h0 r0 .char [(.int (Int32.ofNat ua)), (.int (Int32.ofNat ub)), (.int (Int32.ofNat uc)), (.int (Int32.ofNat ud))]) (S_ad : Sta Z Z.heap "java/lang/StringUTF16" "$assertionsDisabled" "Z" (.int 1)) (S_hi : Sta Z Z.heap "java/lang/StringUTF16" "HI_BYTE_SHIFT" "I" (.int 0)) (S_lo : Sta Z Z.heap "java/lang/StringUTF16" "LO_BYTE_SHIFT" "I" (.int 8)) :
    Ctr False l Z own_EL (⟨"java/lang/StringUTF16", "compress", "([CII)[B"⟩ : MethodName) jdk_52_method_16_code 6 (some (.array .byte)) ws ({ frames := 3, cells := 2, slots := 12, locals := 40 } : Room) n0 ([]) #[(.ref r0), (.int (0 : Int32)), (.int (4 : Int32))] h0 (Rt (fun w h g => ∃ t, w = .ref t ∧ Keep h0 h [] ∧ h0.size ≤ t ∧ (((ua ≤ 255 ∧ ub ≤ 255 ∧ uc ≤ 255 ∧ ud ≤ 255) ∧ Ark Z h t .byte [(.int (lo8 (Int32.ofNat ua))), (.int (lo8 (Int32.ofNat ub))), (.int (lo8 (Int32.ofNat uc))), (.int (lo8 (Int32.ofNat ud)))]) ∨ Ark Z h t .byte [(.int (lo8 (Int32.ofNat ua >>> ((0 : Int32) &&& 31)))), (.int (lo8 (Int32.ofNat ua >>> ((8 : Int32) &&& 31)))), (.int (lo8 (Int32.ofNat ub >>> ((0 : Int32) &&& 31)))), (.int (lo8 (Int32.ofNat ub >>> ((8 : Int32) &&& 31)))), (.int (lo8 (Int32.ofNat uc >>> ((0 : Int32) &&& 31)))), (.int (lo8 (Int32.ofNat uc >>> ((8 : Int32) &&& 31)))), (.int (lo8 (Int32.ofNat ud >>> ((0 : Int32) &&& 31)))), (.int (lo8 (Int32.ofNat ud >>> ((8 : Int32) &&& 31))))]))) := by
  refine Ctr.of (plainFor_of_name pn_java_lang_StringUTF16) hE (fun m => ef_rm5 m r0) ?_
  intro p e s m below meth c T0 X0
  have Z0 : Keep h0 h0 [] := Keep.refl _ _
  refine OwnW.iloadN X0 (n := 1) d5_0 rfl rfl ?_
  refine OwnW.newarray X0 (len := 4) (cap := 4) (n := 3) d5_1 (hw _ (List.mem_of_getElem? (i := 25) rfl)) rfl (by decide) (by decide) (by decide) (by decide) rfl ?_
  intro T1 h1 b1 gb1 X1 E1 A1
  have ne_r0_b1 : r0 ≠ b1 := by rw [gb1]; exact Nat.ne_of_lt A0.lt
  have ge_b1 : n0 ≤ b1 := by rw [gb1]; exact OwnW.oldLe O0
  have K1 := (OwnW.kExt E1)
  have O1 := O0.keep K1 all0
  have Z1 : Keep h0 h1 [] := Z0.trans K1 (fun x hx => nomatch hx)
  have sz_b1 : h0.size ≤ b1 := by rw [gb1]; exact Z0.1
  replace A1 : Ark Z h1 b1 .byte [(.int (0 : Int32)), (.int (0 : Int32)), (.int (0 : Int32)), (.int (0 : Int32))] := A1
  refine OwnW.astoreN X1 (l' := #[.val (.ref r0), .val (.int (0 : Int32)), .val (.int (4 : Int32)), .val (.ref b1), .unset, .unset]) (n := 4) d5_3 rfl rfl rfl ?_
  refine OwnW.aloadN X1 (n := 5) d5_4 rfl rfl rfl ?_
  refine OwnW.iloadN X1 (n := 6) d5_5 rfl rfl ?_
  refine OwnW.aloadN X1 (n := 7) d5_6 rfl rfl rfl ?_
  refine OwnW.iconst X1 (z := (0 : Int32)) (n := 8) d5_7 rfl rfl ?_
  refine OwnW.iloadN X1 (n := 9) d5_8 rfl rfl ?_
  have fk2 := (A0.keep K1 nin0)
  refine OwnW.call_static_v X1 (z := (⟨"java/lang/StringUTF16", "compress", "([CI[BII)I"⟩ : MethodName)) (n := 12) d5_9 (hw _ (List.mem_of_getElem? (i := 26) rfl)) (hw _ (List.mem_of_getElem? (i := 27) rfl)) (hw _ (List.mem_of_getElem? (i := 28) rfl)) (hw _ (List.mem_of_getElem? (i := 23) rfl)) (by decide) (rm6 l Z a0 hw hE [] r0 b1 h1 n0 O1 ua ub uc ud hua hub huc hud fk2 A1 ge_b1 ne_r0_b1) (OwnW.sfS (List.mem_cons_self ..) OwnW.sf0) (argsL := [(.ref r0), (.int (0 : Int32)), (.ref b1), (.int (0 : Int32)), (.int (4 : Int32))]) (rest := []) rfl rfl (OwnW.lenA pd___CI_BII_I rfl) (W := 0) (Nat.le_of_eq rfl) (by decide) (by decide) (by decide) (by decide) rfl ?_
  intro T3 h3 w3 g3 hle3 X3 ⟨k3, hq⟩
  have K3 := k3
  have O3 := O1.keep K3 (allS ge_b1 all0)
  have Z3 : Keep h0 h3 [] := Z1.trans K3 (allS (P := fun x => x ∈ [] ∨ h0.size ≤ x) (Or.inr sz_b1) all0)
  rcases hq with ⟨q1, hall, aA⟩ | ⟨q1, hb⟩ | ⟨q1, hb⟩ | ⟨q1, hb⟩ | ⟨q1, hb⟩
  · subst q1
    refine OwnW.istore X3 (l' := #[.val (.ref r0), .val (.int (0 : Int32)), .val (.int (4 : Int32)), .val (.ref b1), .val (.int (4 : Int32)), .unset]) (n := 14) d5_12 rfl rfl ?_
    refine OwnW.iload X3 (n := 16) d5_14 rfl rfl ?_
    refine OwnW.iloadN X3 (n := 17) d5_16 rfl rfl ?_
    refine OwnW.ic_eq X3  (n1 := 57) (n2 := 20) d5_17 (by decide) rfl rfl (fun _ => ?_) (fun q => absurd ((by decide) : (4 : Int32) = (4 : Int32)) q)
    refine OwnW.aloadN X3 (n := 58) d5_57 rfl rfl rfl ?_
    exact OwnW.areturn X3 rfl rfl rfl d5_58 ⟨_, rfl, Z3, sz_b1, Or.inl ⟨hall, aA⟩⟩ (by decide) (by decide)
  · subst q1
    refine OwnW.istore X3 (l' := #[.val (.ref r0), .val (.int (0 : Int32)), .val (.int (4 : Int32)), .val (.ref b1), .val (.int (0 : Int32)), .unset]) (n := 14) d5_12 rfl rfl ?_
    refine OwnW.iload X3 (n := 16) d5_14 rfl rfl ?_
    refine OwnW.iloadN X3 (n := 17) d5_16 rfl rfl ?_
    refine OwnW.ic_eq X3  (n1 := 57) (n2 := 20) d5_17 (by decide) rfl rfl (fun q => absurd q ((by decide) : ¬ (0 : Int32) = (4 : Int32))) (fun _ => ?_)
    refine OwnW.aloadN X3 (n := 21) d5_20 rfl rfl rfl ?_
    refine OwnW.iloadN X3 (n := 22) d5_21 rfl rfl ?_
    refine OwnW.iloadN X3 (n := 23) d5_22 rfl rfl ?_
    have fk4 := (fk2.keep K3 (ninS ne_r0_b1 nin0))
    refine OwnW.call_static_v X3 (z := (⟨"java/lang/StringUTF16", "toBytes", "([CII)[B"⟩ : MethodName)) (n := 26) d5_23 (hw _ (List.mem_of_getElem? (i := 40) rfl)) (hw _ (List.mem_of_getElem? (i := 41) rfl)) (hw _ (List.mem_of_getElem? (i := 42) rfl)) (hw _ (List.mem_of_getElem? (i := 23) rfl)) (by decide) (rm9 l Z a0 hw hE [] r0 h3 n0 O3 ua ub uc ud hua hub huc hud fk4 S_ad S_hi S_lo) OwnW.sf0 (argsL := [(.ref r0), (.int (0 : Int32)), (.int (4 : Int32))]) (rest := []) rfl rfl (OwnW.lenA pd___CII__B rfl) (W := 0) (Nat.le_of_eq rfl) (by decide) (by decide) (by decide) (by decide) rfl ?_
    intro T5 h5 w5 g5 hle5 X5 ⟨t5, q1, k5, z5, a5⟩
    subst q1
    have K5 := k5
    have O5 := O3.keep K5 all0
    have Z5 : Keep h0 h5 [] := Z3.trans K5 (fun x hx => nomatch hx)
    have sz_t5 : h0.size ≤ t5 := Nat.le_trans Z3.1 z5
    refine OwnW.astore X5 (l' := #[.val (.ref r0), .val (.int (0 : Int32)), .val (.int (4 : Int32)), .val (.ref b1), .val (.int (0 : Int32)), .val (.ref t5)]) (n := 28) d5_26 rfl rfl rfl ?_
    refine OwnW.aload X5 (n := 30) d5_28 rfl rfl rfl ?_
    refine OwnW.iload X5 (n := 32) d5_30 rfl rfl ?_
    refine OwnW.call_static_v X5 (z := (⟨"java/lang/StringUTF16", "getChar", "([BI)C"⟩ : MethodName)) (n := 35) d5_32 (hw _ (List.mem_of_getElem? (i := 56) rfl)) (hw _ (List.mem_of_getElem? (i := 57) rfl)) (hw _ (List.mem_of_getElem? (i := 58) rfl)) (hw _ (List.mem_of_getElem? (i := 23) rfl)) (by decide) (rm13 l Z a0 hw hE [] t5 h5 n0 O5 0 ua (by decide) hua [(.int (lo8 (Int32.ofNat ua >>> ((0 : Int32) &&& 31)))), (.int (lo8 (Int32.ofNat ua >>> ((8 : Int32) &&& 31)))), (.int (lo8 (Int32.ofNat ub >>> ((0 : Int32) &&& 31)))), (.int (lo8 (Int32.ofNat ub >>> ((8 : Int32) &&& 31)))), (.int (lo8 (Int32.ofNat uc >>> ((0 : Int32) &&& 31)))), (.int (lo8 (Int32.ofNat uc >>> ((8 : Int32) &&& 31)))), (.int (lo8 (Int32.ofNat ud >>> ((0 : Int32) &&& 31)))), (.int (lo8 (Int32.ofNat ud >>> ((8 : Int32) &&& 31))))] rfl rfl a5 S_ad S_hi S_lo) OwnW.sf0 (argsL := [(.ref t5), (.int (0 : Int32))]) (rest := []) rfl rfl (OwnW.lenA pd___BI_C rfl) (W := 0) (Nat.le_of_eq rfl) (by decide) (by decide) (by decide) (by decide) rfl ?_
    intro T6 h6 w6 g6 hle6 X6 ⟨q1, q2⟩
    subst q1 q2
    refine OwnW.sipush X6 (z := (255 : Int32)) (n := 38) d5_35 rfl rfl ?_
    refine OwnW.ic_gt X6  (n1 := 54) (n2 := 41) d5_38 (by decide) rfl rfl (fun _ => ?_) (fun q => absurd (((own_lt (i := 255) (n := ua) (by omega) (by omega)).mpr (by omega)) : (255 : Int32) < (Int32.ofNat ua)) q)
    refine OwnW.aload X6 (n := 56) d5_54 rfl rfl rfl ?_
    exact OwnW.areturn X6 rfl rfl rfl d5_56 ⟨_, rfl, Z5, sz_t5, Or.inr a5⟩ (by decide) (by decide)
  · subst q1
    refine OwnW.istore X3 (l' := #[.val (.ref r0), .val (.int (0 : Int32)), .val (.int (4 : Int32)), .val (.ref b1), .val (.int (1 : Int32)), .unset]) (n := 14) d5_12 rfl rfl ?_
    refine OwnW.iload X3 (n := 16) d5_14 rfl rfl ?_
    refine OwnW.iloadN X3 (n := 17) d5_16 rfl rfl ?_
    refine OwnW.ic_eq X3  (n1 := 57) (n2 := 20) d5_17 (by decide) rfl rfl (fun q => absurd q ((by decide) : ¬ (1 : Int32) = (4 : Int32))) (fun _ => ?_)
    refine OwnW.aloadN X3 (n := 21) d5_20 rfl rfl rfl ?_
    refine OwnW.iloadN X3 (n := 22) d5_21 rfl rfl ?_
    refine OwnW.iloadN X3 (n := 23) d5_22 rfl rfl ?_
    have fk7 := (fk2.keep K3 (ninS ne_r0_b1 nin0))
    refine OwnW.call_static_v X3 (z := (⟨"java/lang/StringUTF16", "toBytes", "([CII)[B"⟩ : MethodName)) (n := 26) d5_23 (hw _ (List.mem_of_getElem? (i := 40) rfl)) (hw _ (List.mem_of_getElem? (i := 41) rfl)) (hw _ (List.mem_of_getElem? (i := 42) rfl)) (hw _ (List.mem_of_getElem? (i := 23) rfl)) (by decide) (rm9 l Z a0 hw hE [] r0 h3 n0 O3 ua ub uc ud hua hub huc hud fk7 S_ad S_hi S_lo) OwnW.sf0 (argsL := [(.ref r0), (.int (0 : Int32)), (.int (4 : Int32))]) (rest := []) rfl rfl (OwnW.lenA pd___CII__B rfl) (W := 0) (Nat.le_of_eq rfl) (by decide) (by decide) (by decide) (by decide) rfl ?_
    intro T8 h8 w8 g8 hle8 X8 ⟨t8, q1, k8, z8, a8⟩
    subst q1
    have K8 := k8
    have O8 := O3.keep K8 all0
    have Z8 : Keep h0 h8 [] := Z3.trans K8 (fun x hx => nomatch hx)
    have sz_t8 : h0.size ≤ t8 := Nat.le_trans Z3.1 z8
    refine OwnW.astore X8 (l' := #[.val (.ref r0), .val (.int (0 : Int32)), .val (.int (4 : Int32)), .val (.ref b1), .val (.int (1 : Int32)), .val (.ref t8)]) (n := 28) d5_26 rfl rfl rfl ?_
    refine OwnW.aload X8 (n := 30) d5_28 rfl rfl rfl ?_
    refine OwnW.iload X8 (n := 32) d5_30 rfl rfl ?_
    refine OwnW.call_static_v X8 (z := (⟨"java/lang/StringUTF16", "getChar", "([BI)C"⟩ : MethodName)) (n := 35) d5_32 (hw _ (List.mem_of_getElem? (i := 56) rfl)) (hw _ (List.mem_of_getElem? (i := 57) rfl)) (hw _ (List.mem_of_getElem? (i := 58) rfl)) (hw _ (List.mem_of_getElem? (i := 23) rfl)) (by decide) (rm13 l Z a0 hw hE [] t8 h8 n0 O8 1 ub (by decide) hub [(.int (lo8 (Int32.ofNat ua >>> ((0 : Int32) &&& 31)))), (.int (lo8 (Int32.ofNat ua >>> ((8 : Int32) &&& 31)))), (.int (lo8 (Int32.ofNat ub >>> ((0 : Int32) &&& 31)))), (.int (lo8 (Int32.ofNat ub >>> ((8 : Int32) &&& 31)))), (.int (lo8 (Int32.ofNat uc >>> ((0 : Int32) &&& 31)))), (.int (lo8 (Int32.ofNat uc >>> ((8 : Int32) &&& 31)))), (.int (lo8 (Int32.ofNat ud >>> ((0 : Int32) &&& 31)))), (.int (lo8 (Int32.ofNat ud >>> ((8 : Int32) &&& 31))))] rfl rfl a8 S_ad S_hi S_lo) OwnW.sf0 (argsL := [(.ref t8), (.int (1 : Int32))]) (rest := []) rfl rfl (OwnW.lenA pd___BI_C rfl) (W := 0) (Nat.le_of_eq rfl) (by decide) (by decide) (by decide) (by decide) rfl ?_
    intro T9 h9 w9 g9 hle9 X9 ⟨q1, q2⟩
    subst q1 q2
    refine OwnW.sipush X9 (z := (255 : Int32)) (n := 38) d5_35 rfl rfl ?_
    refine OwnW.ic_gt X9  (n1 := 54) (n2 := 41) d5_38 (by decide) rfl rfl (fun _ => ?_) (fun q => absurd (((own_lt (i := 255) (n := ub) (by omega) (by omega)).mpr (by omega)) : (255 : Int32) < (Int32.ofNat ub)) q)
    refine OwnW.aload X9 (n := 56) d5_54 rfl rfl rfl ?_
    exact OwnW.areturn X9 rfl rfl rfl d5_56 ⟨_, rfl, Z8, sz_t8, Or.inr a8⟩ (by decide) (by decide)
  · subst q1
    refine OwnW.istore X3 (l' := #[.val (.ref r0), .val (.int (0 : Int32)), .val (.int (4 : Int32)), .val (.ref b1), .val (.int (2 : Int32)), .unset]) (n := 14) d5_12 rfl rfl ?_
    refine OwnW.iload X3 (n := 16) d5_14 rfl rfl ?_
    refine OwnW.iloadN X3 (n := 17) d5_16 rfl rfl ?_
    refine OwnW.ic_eq X3  (n1 := 57) (n2 := 20) d5_17 (by decide) rfl rfl (fun q => absurd q ((by decide) : ¬ (2 : Int32) = (4 : Int32))) (fun _ => ?_)
    refine OwnW.aloadN X3 (n := 21) d5_20 rfl rfl rfl ?_
    refine OwnW.iloadN X3 (n := 22) d5_21 rfl rfl ?_
    refine OwnW.iloadN X3 (n := 23) d5_22 rfl rfl ?_
    have fk10 := (fk2.keep K3 (ninS ne_r0_b1 nin0))
    refine OwnW.call_static_v X3 (z := (⟨"java/lang/StringUTF16", "toBytes", "([CII)[B"⟩ : MethodName)) (n := 26) d5_23 (hw _ (List.mem_of_getElem? (i := 40) rfl)) (hw _ (List.mem_of_getElem? (i := 41) rfl)) (hw _ (List.mem_of_getElem? (i := 42) rfl)) (hw _ (List.mem_of_getElem? (i := 23) rfl)) (by decide) (rm9 l Z a0 hw hE [] r0 h3 n0 O3 ua ub uc ud hua hub huc hud fk10 S_ad S_hi S_lo) OwnW.sf0 (argsL := [(.ref r0), (.int (0 : Int32)), (.int (4 : Int32))]) (rest := []) rfl rfl (OwnW.lenA pd___CII__B rfl) (W := 0) (Nat.le_of_eq rfl) (by decide) (by decide) (by decide) (by decide) rfl ?_
    intro T11 h11 w11 g11 hle11 X11 ⟨t11, q1, k11, z11, a11⟩
    subst q1
    have K11 := k11
    have O11 := O3.keep K11 all0
    have Z11 : Keep h0 h11 [] := Z3.trans K11 (fun x hx => nomatch hx)
    have sz_t11 : h0.size ≤ t11 := Nat.le_trans Z3.1 z11
    refine OwnW.astore X11 (l' := #[.val (.ref r0), .val (.int (0 : Int32)), .val (.int (4 : Int32)), .val (.ref b1), .val (.int (2 : Int32)), .val (.ref t11)]) (n := 28) d5_26 rfl rfl rfl ?_
    refine OwnW.aload X11 (n := 30) d5_28 rfl rfl rfl ?_
    refine OwnW.iload X11 (n := 32) d5_30 rfl rfl ?_
    refine OwnW.call_static_v X11 (z := (⟨"java/lang/StringUTF16", "getChar", "([BI)C"⟩ : MethodName)) (n := 35) d5_32 (hw _ (List.mem_of_getElem? (i := 56) rfl)) (hw _ (List.mem_of_getElem? (i := 57) rfl)) (hw _ (List.mem_of_getElem? (i := 58) rfl)) (hw _ (List.mem_of_getElem? (i := 23) rfl)) (by decide) (rm13 l Z a0 hw hE [] t11 h11 n0 O11 2 uc (by decide) huc [(.int (lo8 (Int32.ofNat ua >>> ((0 : Int32) &&& 31)))), (.int (lo8 (Int32.ofNat ua >>> ((8 : Int32) &&& 31)))), (.int (lo8 (Int32.ofNat ub >>> ((0 : Int32) &&& 31)))), (.int (lo8 (Int32.ofNat ub >>> ((8 : Int32) &&& 31)))), (.int (lo8 (Int32.ofNat uc >>> ((0 : Int32) &&& 31)))), (.int (lo8 (Int32.ofNat uc >>> ((8 : Int32) &&& 31)))), (.int (lo8 (Int32.ofNat ud >>> ((0 : Int32) &&& 31)))), (.int (lo8 (Int32.ofNat ud >>> ((8 : Int32) &&& 31))))] rfl rfl a11 S_ad S_hi S_lo) OwnW.sf0 (argsL := [(.ref t11), (.int (2 : Int32))]) (rest := []) rfl rfl (OwnW.lenA pd___BI_C rfl) (W := 0) (Nat.le_of_eq rfl) (by decide) (by decide) (by decide) (by decide) rfl ?_
    intro T12 h12 w12 g12 hle12 X12 ⟨q1, q2⟩
    subst q1 q2
    refine OwnW.sipush X12 (z := (255 : Int32)) (n := 38) d5_35 rfl rfl ?_
    refine OwnW.ic_gt X12  (n1 := 54) (n2 := 41) d5_38 (by decide) rfl rfl (fun _ => ?_) (fun q => absurd (((own_lt (i := 255) (n := uc) (by omega) (by omega)).mpr (by omega)) : (255 : Int32) < (Int32.ofNat uc)) q)
    refine OwnW.aload X12 (n := 56) d5_54 rfl rfl rfl ?_
    exact OwnW.areturn X12 rfl rfl rfl d5_56 ⟨_, rfl, Z11, sz_t11, Or.inr a11⟩ (by decide) (by decide)
  · subst q1
    refine OwnW.istore X3 (l' := #[.val (.ref r0), .val (.int (0 : Int32)), .val (.int (4 : Int32)), .val (.ref b1), .val (.int (3 : Int32)), .unset]) (n := 14) d5_12 rfl rfl ?_
    refine OwnW.iload X3 (n := 16) d5_14 rfl rfl ?_
    refine OwnW.iloadN X3 (n := 17) d5_16 rfl rfl ?_
    refine OwnW.ic_eq X3  (n1 := 57) (n2 := 20) d5_17 (by decide) rfl rfl (fun q => absurd q ((by decide) : ¬ (3 : Int32) = (4 : Int32))) (fun _ => ?_)
    refine OwnW.aloadN X3 (n := 21) d5_20 rfl rfl rfl ?_
    refine OwnW.iloadN X3 (n := 22) d5_21 rfl rfl ?_
    refine OwnW.iloadN X3 (n := 23) d5_22 rfl rfl ?_
    have fk13 := (fk2.keep K3 (ninS ne_r0_b1 nin0))
    refine OwnW.call_static_v X3 (z := (⟨"java/lang/StringUTF16", "toBytes", "([CII)[B"⟩ : MethodName)) (n := 26) d5_23 (hw _ (List.mem_of_getElem? (i := 40) rfl)) (hw _ (List.mem_of_getElem? (i := 41) rfl)) (hw _ (List.mem_of_getElem? (i := 42) rfl)) (hw _ (List.mem_of_getElem? (i := 23) rfl)) (by decide) (rm9 l Z a0 hw hE [] r0 h3 n0 O3 ua ub uc ud hua hub huc hud fk13 S_ad S_hi S_lo) OwnW.sf0 (argsL := [(.ref r0), (.int (0 : Int32)), (.int (4 : Int32))]) (rest := []) rfl rfl (OwnW.lenA pd___CII__B rfl) (W := 0) (Nat.le_of_eq rfl) (by decide) (by decide) (by decide) (by decide) rfl ?_
    intro T14 h14 w14 g14 hle14 X14 ⟨t14, q1, k14, z14, a14⟩
    subst q1
    have K14 := k14
    have O14 := O3.keep K14 all0
    have Z14 : Keep h0 h14 [] := Z3.trans K14 (fun x hx => nomatch hx)
    have sz_t14 : h0.size ≤ t14 := Nat.le_trans Z3.1 z14
    refine OwnW.astore X14 (l' := #[.val (.ref r0), .val (.int (0 : Int32)), .val (.int (4 : Int32)), .val (.ref b1), .val (.int (3 : Int32)), .val (.ref t14)]) (n := 28) d5_26 rfl rfl rfl ?_
    refine OwnW.aload X14 (n := 30) d5_28 rfl rfl rfl ?_
    refine OwnW.iload X14 (n := 32) d5_30 rfl rfl ?_
    refine OwnW.call_static_v X14 (z := (⟨"java/lang/StringUTF16", "getChar", "([BI)C"⟩ : MethodName)) (n := 35) d5_32 (hw _ (List.mem_of_getElem? (i := 56) rfl)) (hw _ (List.mem_of_getElem? (i := 57) rfl)) (hw _ (List.mem_of_getElem? (i := 58) rfl)) (hw _ (List.mem_of_getElem? (i := 23) rfl)) (by decide) (rm13 l Z a0 hw hE [] t14 h14 n0 O14 3 ud (by decide) hud [(.int (lo8 (Int32.ofNat ua >>> ((0 : Int32) &&& 31)))), (.int (lo8 (Int32.ofNat ua >>> ((8 : Int32) &&& 31)))), (.int (lo8 (Int32.ofNat ub >>> ((0 : Int32) &&& 31)))), (.int (lo8 (Int32.ofNat ub >>> ((8 : Int32) &&& 31)))), (.int (lo8 (Int32.ofNat uc >>> ((0 : Int32) &&& 31)))), (.int (lo8 (Int32.ofNat uc >>> ((8 : Int32) &&& 31)))), (.int (lo8 (Int32.ofNat ud >>> ((0 : Int32) &&& 31)))), (.int (lo8 (Int32.ofNat ud >>> ((8 : Int32) &&& 31))))] rfl rfl a14 S_ad S_hi S_lo) OwnW.sf0 (argsL := [(.ref t14), (.int (3 : Int32))]) (rest := []) rfl rfl (OwnW.lenA pd___BI_C rfl) (W := 0) (Nat.le_of_eq rfl) (by decide) (by decide) (by decide) (by decide) rfl ?_
    intro T15 h15 w15 g15 hle15 X15 ⟨q1, q2⟩
    subst q1 q2
    refine OwnW.sipush X15 (z := (255 : Int32)) (n := 38) d5_35 rfl rfl ?_
    refine OwnW.ic_gt X15  (n1 := 54) (n2 := 41) d5_38 (by decide) rfl rfl (fun _ => ?_) (fun q => absurd (((own_lt (i := 255) (n := ud) (by omega) (by omega)).mpr (by omega)) : (255 : Int32) < (Int32.ofNat ud)) q)
    refine OwnW.aload X15 (n := 56) d5_54 rfl rfl rfl ?_
    exact OwnW.areturn X15 rfl rfl rfl d5_56 ⟨_, rfl, Z14, sz_t14, Or.inr a14⟩ (by decide) (by decide)
theorem d7_0 : decode jdk_52_method_15_code 0 = .ok (.iload_n 1, 1) := by decide +kernel
theorem d7_1 : decode jdk_52_method_15_code 1 = .ok (.aload_n 0, 1) := by decide +kernel
theorem d7_2 : decode jdk_52_method_15_code 2 = .ok (.arraylength, 1) := by decide +kernel
theorem d7_3 : decode jdk_52_method_15_code 3 = .ok (.isub, 1) := by decide +kernel
theorem d7_4 : decode jdk_52_method_15_code 4 = .ok (.bipush 31, 2) := by decide +kernel
theorem d7_6 : decode jdk_52_method_15_code 6 = .ok (.iushr, 1) := by decide +kernel
theorem d7_7 : decode jdk_52_method_15_code 7 = .ok (.i2b, 1) := by decide +kernel
theorem d7_8 : decode jdk_52_method_15_code 8 = .ok (.ireturn, 1) := by decide +kernel
theorem ef_rmCL0 (m : MethodId) (x0 : Addr) : entryFrame m #[(.ref x0), (.int (4 : Int32))] 2 = mkF m 0 #[.val (.ref x0), .val (.int (4 : Int32))] [] := by first | (simp [entryFrame, mkF, argsToLocals, Value.category]; done) | rfl
set_option maxRecDepth 65536 in
set_option maxHeartbeats 40000000 in
theorem rmCL0 (l : Launch) (Z : State) (a0 : Array Value) (hw : ∀ d ∈ tables_1, d.before a0 Z = true) (hE : EW Z a0 own_EL) (ws : List Jvm.Cond) (r0 : Addr) (h0 : Heap) (n0 : Nat) (ua ub uc ud : Nat) (A0 : Ark Z h0 r0 .byte [(.int (lo8 (Int32.ofNat ua))), (.int (lo8 (Int32.ofNat ub))), (.int (lo8 (Int32.ofNat uc))), (.int (lo8 (Int32.ofNat ud)))]) :
    Ctr False l Z own_EL (⟨"java/lang/StringUTF16", "coderFromArrayLen", "([BI)B"⟩ : MethodName) jdk_52_method_15_code 2 (some .byte) ws ({ frames := 0, cells := 0, slots := 0, locals := 0 } : Room) n0 ([]) #[(.ref r0), (.int (4 : Int32))] h0 (Rt (fun w h g => w = .int 0 ∧ h0 = h)) := by
  refine Ctr.of (plainFor_of_name pn_java_lang_StringUTF16) hE (fun m => ef_rmCL0 m r0) ?_
  intro p e s m below meth c T0 X0
  refine OwnW.iloadN X0 (n := 1) d7_0 rfl rfl ?_
  refine OwnW.aloadN X0 (n := 2) d7_1 rfl rfl rfl ?_
  refine OwnW.arraylength X0 (z := (4 : Int32)) (n := 3) d7_2 A0 rfl rfl ?_
  refine OwnW.isub X0 (n := 4) d7_3 rfl ?_
  rw [show (((4 : Int32) - (4 : Int32)) : Int32) = (0 : Int32) from by decide]
  refine OwnW.bipush X0 (z := (31 : Int32)) (n := 6) d7_4 rfl rfl ?_
  refine OwnW.iushr X0 (n := 7) d7_6 rfl ?_
  rw [show ((((0 : Int32).toUInt32 >>> ((31 : Int32) &&& 31).toUInt32).toInt32) : Int32) = (0 : Int32) from by decide]
  refine OwnW.i2b X0 (n := 8) d7_7 rfl ?_
  rw [show (((0 : Int32).toInt8.toInt32) : Int32) = (0 : Int32) from by decide]
  exact OwnW.ireturn X0 rfl (Or.inr (Or.inr (Or.inl rfl))) rfl d7_8 ⟨rfl, rfl⟩ (by decide) (by decide)
theorem ef_rmCL1 (m : MethodId) (x0 : Addr) : entryFrame m #[(.ref x0), (.int (4 : Int32))] 2 = mkF m 0 #[.val (.ref x0), .val (.int (4 : Int32))] [] := by first | (simp [entryFrame, mkF, argsToLocals, Value.category]; done) | rfl
set_option maxRecDepth 65536 in
set_option maxHeartbeats 40000000 in
theorem rmCL1 (l : Launch) (Z : State) (a0 : Array Value) (hw : ∀ d ∈ tables_1, d.before a0 Z = true) (hE : EW Z a0 own_EL) (ws : List Jvm.Cond) (r0 : Addr) (h0 : Heap) (n0 : Nat) (ua ub uc ud : Nat) (A0 : Ark Z h0 r0 .byte [(.int (lo8 (Int32.ofNat ua >>> ((0 : Int32) &&& 31)))), (.int (lo8 (Int32.ofNat ua >>> ((8 : Int32) &&& 31)))), (.int (lo8 (Int32.ofNat ub >>> ((0 : Int32) &&& 31)))), (.int (lo8 (Int32.ofNat ub >>> ((8 : Int32) &&& 31)))), (.int (lo8 (Int32.ofNat uc >>> ((0 : Int32) &&& 31)))), (.int (lo8 (Int32.ofNat uc >>> ((8 : Int32) &&& 31)))), (.int (lo8 (Int32.ofNat ud >>> ((0 : Int32) &&& 31)))), (.int (lo8 (Int32.ofNat ud >>> ((8 : Int32) &&& 31))))]) :
    Ctr False l Z own_EL (⟨"java/lang/StringUTF16", "coderFromArrayLen", "([BI)B"⟩ : MethodName) jdk_52_method_15_code 2 (some .byte) ws ({ frames := 0, cells := 0, slots := 0, locals := 0 } : Room) n0 ([]) #[(.ref r0), (.int (4 : Int32))] h0 (Rt (fun w h g => w = .int 1 ∧ h0 = h)) := by
  refine Ctr.of (plainFor_of_name pn_java_lang_StringUTF16) hE (fun m => ef_rmCL1 m r0) ?_
  intro p e s m below meth c T0 X0
  refine OwnW.iloadN X0 (n := 1) d7_0 rfl rfl ?_
  refine OwnW.aloadN X0 (n := 2) d7_1 rfl rfl rfl ?_
  refine OwnW.arraylength X0 (z := (8 : Int32)) (n := 3) d7_2 A0 rfl rfl ?_
  refine OwnW.isub X0 (n := 4) d7_3 rfl ?_
  rw [show (((4 : Int32) - (8 : Int32)) : Int32) = (-4 : Int32) from by decide]
  refine OwnW.bipush X0 (z := (31 : Int32)) (n := 6) d7_4 rfl rfl ?_
  refine OwnW.iushr X0 (n := 7) d7_6 rfl ?_
  rw [show ((((-4 : Int32).toUInt32 >>> ((31 : Int32) &&& 31).toUInt32).toInt32) : Int32) = (1 : Int32) from by decide]
  refine OwnW.i2b X0 (n := 8) d7_7 rfl ?_
  rw [show (((1 : Int32).toInt8.toInt32) : Int32) = (1 : Int32) from by decide]
  exact OwnW.ireturn X0 rfl (Or.inr (Or.inr (Or.inl rfl))) rfl d7_8 ⟨rfl, rfl⟩ (by decide) (by decide)
theorem pd___BI_B : parseMethodDescriptor "([BI)B" = some ⟨[(.array .byte), .int], some .byte⟩ := by decide +kernel
theorem pn_java_lang_String : plainName "java/lang/String" = true := by first | (simp [plainName, overriddenIn]; done) | decide +kernel
theorem d3_0 : decode jdk_42_method_149_code 0 = .ok (.aload_n 0, 1) := by decide +kernel
theorem d3_1 : decode jdk_42_method_149_code 1 = .ok (.invokespecial 1, 3) := by decide +kernel
theorem d3_4 : decode jdk_42_method_149_code 4 = .ok (.iload_n 3, 1) := by decide +kernel
theorem d3_5 : decode jdk_42_method_149_code 5 = .ok (.ifCond .ne 22, 3) := by decide +kernel
theorem d3_27 : decode jdk_42_method_149_code 27 = .ok (.getstatic 38, 3) := by decide +kernel
theorem d3_30 : decode jdk_42_method_149_code 30 = .ok (.ifCond .eq 28, 3) := by decide +kernel
theorem d3_33 : decode jdk_42_method_149_code 33 = .ok (.aload_n 1, 1) := by decide +kernel
theorem d3_34 : decode jdk_42_method_149_code 34 = .ok (.iload_n 2, 1) := by decide +kernel
theorem d3_35 : decode jdk_42_method_149_code 35 = .ok (.iload_n 3, 1) := by decide +kernel
theorem d3_36 : decode jdk_42_method_149_code 36 = .ok (.invokestatic 177, 3) := by decide +kernel
theorem d3_39 : decode jdk_42_method_149_code 39 = .ok (.astore 5, 2) := by decide +kernel
theorem d3_41 : decode jdk_42_method_149_code 41 = .ok (.aload_n 0, 1) := by decide +kernel
theorem d3_42 : decode jdk_42_method_149_code 42 = .ok (.aload 5, 2) := by decide +kernel
theorem d3_44 : decode jdk_42_method_149_code 44 = .ok (.iload_n 3, 1) := by decide +kernel
theorem d3_45 : decode jdk_42_method_149_code 45 = .ok (.invokestatic 47, 3) := by decide +kernel
theorem d3_48 : decode jdk_42_method_149_code 48 = .ok (.putfield 15, 3) := by decide +kernel
theorem d3_51 : decode jdk_42_method_149_code 51 = .ok (.aload_n 0, 1) := by decide +kernel
theorem d3_52 : decode jdk_42_method_149_code 52 = .ok (.aload 5, 2) := by decide +kernel
theorem d3_54 : decode jdk_42_method_149_code 54 = .ok (.putfield 9, 3) := by decide +kernel
theorem d3_57 : decode jdk_42_method_149_code 57 = .ok (.return_, 1) := by decide +kernel
theorem ef_rm3 (m : MethodId) (x0 : Addr) (x1 : Addr) : entryFrame m #[(.ref x0), (.ref x1), (.int (0 : Int32)), (.int (4 : Int32)), .null] 6 = mkF m 0 #[.val (.ref x0), .val (.ref x1), .val (.int (0 : Int32)), .val (.int (4 : Int32)), .val .null, .unset] [] := by first | (simp [entryFrame, mkF, argsToLocals, Value.category]; done) | rfl
set_option maxRecDepth 65536 in
set_option maxHeartbeats 40000000 in
theorem rm3 (l : Launch) (Z : State) (a0 : Array Value) (hw : ∀ d ∈ tables_1, d.before a0 Z = true) (hE : EW Z a0 own_EL) (ws : List Jvm.Cond) (r0 : Addr) (r1 : Addr) (h0 : Heap) (n0 : Nat) (O0 : Old Z n0 h0) (ge_r0 : n0 ≤ r0) (E0 : Exa Z h0 r0 "java/lang/String") (v1 v2 : Value) (F1 : Fld Z h0 r0 "java/lang/String" "value" "[B" v1) (F2 : Fld Z h0 r0 "java/lang/String" "coder" "B" v2) (ua ub uc ud : Nat) (hua : ua ≤ 65535) (hub : ub ≤ 65535) (huc : uc ≤ 65535) (hud : ud ≤ 65535) (A1 : Ark Z h0 r1 .char [(.int (Int32.ofNat ua)), (.int (Int32.ofNat ub)), (.int (Int32.ofNat uc)), (.int (Int32.ofNat ud))]) (ne01 : r0 ≠ r1) (zc : Int32) (hzc : ¬ zc = 0) (S_compact : Sta Z Z.heap "java/lang/String" "COMPACT_STRINGS" "Z" (.int zc)) (S_ad : Sta Z Z.heap "java/lang/StringUTF16" "$assertionsDisabled" "Z" (.int 1)) (S_hi : Sta Z Z.heap "java/lang/StringUTF16" "HI_BYTE_SHIFT" "I" (.int 0)) (S_lo : Sta Z Z.heap "java/lang/StringUTF16" "LO_BYTE_SHIFT" "I" (.int 8)) :
    Ctr False l Z own_EL (⟨"java/lang/String", "<init>", "([CIILjava/lang/Void;)V"⟩ : MethodName) jdk_42_method_149_code 6 none ws ({ frames := 4, cells := 2, slots := 12, locals := 57 } : Room) n0 (r0 :: []) #[(.ref r0), (.ref r1), (.int (0 : Int32)), (.int (4 : Int32)), .null] h0 (Rn (fun h g => Keep h0 h [r0] ∧ ∃ t, h0.size ≤ t ∧ own_S Z h r0 t ua ub uc ud)) := by
  refine Ctr.of (plainFor_of_name pn_java_lang_String) hE (fun m => ef_rm3 m r0 r1) ?_
  intro p e s m below meth c T0 X0
  have Z0 : Keep h0 h0 [r0] := Keep.refl _ _
  refine OwnW.aloadN X0 (n := 1) d3_0 rfl rfl rfl ?_
  refine OwnW.initObj X0 (W := 0) (n := 4) d3_1 (hw _ (List.mem_of_getElem? (i := 17) rfl)) (hw _ (List.mem_of_getElem? (i := 18) rfl)) (hw _ (List.mem_of_getElem? (i := 19) rfl)) rfl (by decide) (by decide) (by decide) rfl ?_
  intro T1 X1
  refine OwnW.iloadN X1 (n := 5) d3_4 rfl rfl ?_
  refine OwnW.if_ne X1  (n1 := 27) (n2 := 8) d3_5 (by decide) rfl rfl (fun _ => ?_) (fun q => absurd q ((by decide) : ¬ (4 : Int32) = 0))
  refine OwnW.getstatic X1 (n := 30) d3_27 (hw _ (List.mem_of_getElem? (i := 20) rfl)) Via.refl (S_compact.ext O0.2) rfl ?_
  intro T2 X2
  refine OwnW.if_eq X2  (n1 := 58) (n2 := 33) d3_30 (by decide) rfl rfl (fun q => absurd q (hzc : ¬ zc = 0)) (fun _ => ?_)
  refine OwnW.aloadN X2 (n := 34) d3_33 rfl rfl rfl ?_
  refine OwnW.iloadN X2 (n := 35) d3_34 rfl rfl ?_
  refine OwnW.iloadN X2 (n := 36) d3_35 rfl rfl ?_
  refine OwnW.call_static_v X2 (z := (⟨"java/lang/StringUTF16", "compress", "([CII)[B"⟩ : MethodName)) (n := 39) d3_36 (hw _ (List.mem_of_getElem? (i := 21) rfl)) (hw _ (List.mem_of_getElem? (i := 22) rfl)) (hw _ (List.mem_of_getElem? (i := 24) rfl)) (hw _ (List.mem_of_getElem? (i := 23) rfl)) (by decide) (rm5 l Z a0 hw hE [] r1 h0 n0 O0 ua ub uc ud hua hub huc hud A1 S_ad S_hi S_lo) OwnW.sf0 (argsL := [(.ref r1), (.int (0 : Int32)), (.int (4 : Int32))]) (rest := []) rfl rfl (OwnW.lenA pd___CII__B rfl) (W := 0) (Nat.le_of_eq rfl) (by decide) (by decide) (by decide) (by decide) rfl ?_
  intro T3 h3 w3 g3 hle3 X3 ⟨t3, q1, k3, z3, hq⟩
  subst q1
  have ne_r0_t3 : r0 ≠ t3 := Nat.ne_of_lt (Nat.lt_of_lt_of_le E0.lt z3)
  have ne_r1_t3 : r1 ≠ t3 := Nat.ne_of_lt (Nat.lt_of_lt_of_le A1.lt z3)
  have K3 := k3
  have O3 := O0.keep K3 all0
  have Z3 : Keep h0 h3 [r0] := Z0.trans K3 (fun x hx => nomatch hx)
  have szt : h0.size ≤ t3 := Nat.le_trans Z0.1 z3
  rcases hq with ⟨hall, aA⟩ | aA
  · have _u := aA
    refine OwnW.astore X3 (l' := #[.val (.ref r0), .val (.ref r1), .val (.int (0 : Int32)), .val (.int (4 : Int32)), .val .null, .val (.ref t3)]) (n := 41) d3_39 rfl rfl rfl ?_
    refine OwnW.aloadN X3 (n := 42) d3_41 rfl rfl rfl ?_
    refine OwnW.aload X3 (n := 44) d3_42 rfl rfl rfl ?_
    refine OwnW.iloadN X3 (n := 45) d3_44 rfl rfl ?_
    refine OwnW.call_static_v X3 (z := (⟨"java/lang/StringUTF16", "coderFromArrayLen", "([BI)B"⟩ : MethodName)) (n := 48) d3_45 (hw _ (List.mem_of_getElem? (i := 29) rfl)) (hw _ (List.mem_of_getElem? (i := 30) rfl)) (hw _ (List.mem_of_getElem? (i := 31) rfl)) (hw _ (List.mem_of_getElem? (i := 23) rfl)) (by decide) (rmCL0 l Z a0 hw hE [] t3 h3 n0 ua ub uc ud aA) OwnW.sf0 (argsL := [(.ref t3), (.int (4 : Int32))]) (rest := [(.ref r0)]) rfl rfl (OwnW.lenA pd___BI_B rfl) (W := 1) (Nat.le_of_eq rfl) (by decide) (by decide) (by decide) (by decide) rfl ?_
    intro T4 h4 w4 g4 hle4 X4 ⟨q1, q2⟩
    subst q1 q2
    have fk5 := (F2.keep K3 nin0)
    have fk6 := (E0.keep K3)
    refine OwnW.putfield X4 (ty := .byte) (v' := (.int (0 : Int32))) (n := 51) d3_48 (hw _ (List.mem_of_getElem? (i := 32) rfl)) Via.refl fk5 fk6 (Or.inr ⟨(hw _ (List.mem_of_getElem? (i := 33) rfl)), rfl, rfl⟩) (hw _ (List.mem_of_getElem? (i := 8) rfl)) (by decide) rfl rfl ge_r0 (List.mem_append_left _ (List.mem_append_left _ (List.mem_cons_self ..))) rfl ?_
    intro T7 h7 X7 W7 Fw7
    have fk8 := (F1.keep K3 nin0)
    have fk9 := fk8.other W7 (Or.inr (slot_ne (Or.inr (hw _ (List.mem_of_getElem? (i := 35) rfl))) (Or.inr (hw _ (List.mem_of_getElem? (i := 33) rfl))) (by decide) (t := (.array .byte)) (t' := .byte) (by decide) (by decide)))
    have K7 := (Keep.of_wr W7)
    have O7 := O3.keep K7 (allS ge_r0 all0)
    have Z7 : Keep h0 h7 [r0] := Z3.trans K7 (allS (P := fun x => x ∈ [r0] ∨ h0.size ≤ x) (Or.inl (List.mem_of_getElem? (i := 0) rfl)) all0)
    refine OwnW.aloadN X7 (n := 52) d3_51 rfl rfl rfl ?_
    refine OwnW.aload X7 (n := 54) d3_52 rfl rfl rfl ?_
    have fk10 := (fk6.keep K7)
    refine OwnW.putfield X7 (ty := (.array .byte)) (v' := (.ref t3)) (n := 57) d3_54 (hw _ (List.mem_of_getElem? (i := 34) rfl)) Via.refl fk9 fk10 (Or.inr ⟨(hw _ (List.mem_of_getElem? (i := 35) rfl)), rfl, rfl⟩) (hw _ (List.mem_of_getElem? (i := 8) rfl)) (by decide) rfl rfl ge_r0 (List.mem_append_left _ (List.mem_append_left _ (List.mem_cons_self ..))) rfl ?_
    intro T11 h11 X11 W11 Fw11
    have fk12 := Fw7.other W11 (Or.inr (slot_ne (Or.inr (hw _ (List.mem_of_getElem? (i := 33) rfl))) (Or.inr (hw _ (List.mem_of_getElem? (i := 35) rfl))) (by decide) (t := .byte) (t' := (.array .byte)) (by decide) (by decide)))
    have K11 := (Keep.of_wr W11)
    have O11 := O7.keep K11 (allS ge_r0 all0)
    have Z11 : Keep h0 h11 [r0] := Z7.trans K11 (allS (P := fun x => x ∈ [r0] ∨ h0.size ≤ x) (Or.inl (List.mem_of_getElem? (i := 0) rfl)) all0)
    have fk13 := (fk10.keep K11)
    have fk14 := ((aA.keep K7 (ninS (Ne.symm ne_r0_t3) nin0)).keep K11 (ninS (Ne.symm ne_r0_t3) nin0))
    exact OwnW.vreturn X11 rfl d3_57 ⟨Z11, _, szt, Or.inl ⟨hall, fk13, fk12, Fw11, fk14⟩⟩ (by decide) (by decide)
  · have _u := aA
    refine OwnW.astore X3 (l' := #[.val (.ref r0), .val (.ref r1), .val (.int (0 : Int32)), .val (.int (4 : Int32)), .val .null, .val (.ref t3)]) (n := 41) d3_39 rfl rfl rfl ?_
    refine OwnW.aloadN X3 (n := 42) d3_41 rfl rfl rfl ?_
    refine OwnW.aload X3 (n := 44) d3_42 rfl rfl rfl ?_
    refine OwnW.iloadN X3 (n := 45) d3_44 rfl rfl ?_
    refine OwnW.call_static_v X3 (z := (⟨"java/lang/StringUTF16", "coderFromArrayLen", "([BI)B"⟩ : MethodName)) (n := 48) d3_45 (hw _ (List.mem_of_getElem? (i := 29) rfl)) (hw _ (List.mem_of_getElem? (i := 30) rfl)) (hw _ (List.mem_of_getElem? (i := 31) rfl)) (hw _ (List.mem_of_getElem? (i := 23) rfl)) (by decide) (rmCL1 l Z a0 hw hE [] t3 h3 n0 ua ub uc ud aA) OwnW.sf0 (argsL := [(.ref t3), (.int (4 : Int32))]) (rest := [(.ref r0)]) rfl rfl (OwnW.lenA pd___BI_B rfl) (W := 1) (Nat.le_of_eq rfl) (by decide) (by decide) (by decide) (by decide) rfl ?_
    intro T15 h15 w15 g15 hle15 X15 ⟨q1, q2⟩
    subst q1 q2
    have fk16 := (F2.keep K3 nin0)
    have fk17 := (E0.keep K3)
    refine OwnW.putfield X15 (ty := .byte) (v' := (.int (1 : Int32))) (n := 51) d3_48 (hw _ (List.mem_of_getElem? (i := 32) rfl)) Via.refl fk16 fk17 (Or.inr ⟨(hw _ (List.mem_of_getElem? (i := 33) rfl)), rfl, rfl⟩) (hw _ (List.mem_of_getElem? (i := 8) rfl)) (by decide) rfl rfl ge_r0 (List.mem_append_left _ (List.mem_append_left _ (List.mem_cons_self ..))) rfl ?_
    intro T18 h18 X18 W18 Fw18
    have fk19 := (F1.keep K3 nin0)
    have fk20 := fk19.other W18 (Or.inr (slot_ne (Or.inr (hw _ (List.mem_of_getElem? (i := 35) rfl))) (Or.inr (hw _ (List.mem_of_getElem? (i := 33) rfl))) (by decide) (t := (.array .byte)) (t' := .byte) (by decide) (by decide)))
    have K18 := (Keep.of_wr W18)
    have O18 := O3.keep K18 (allS ge_r0 all0)
    have Z18 : Keep h0 h18 [r0] := Z3.trans K18 (allS (P := fun x => x ∈ [r0] ∨ h0.size ≤ x) (Or.inl (List.mem_of_getElem? (i := 0) rfl)) all0)
    refine OwnW.aloadN X18 (n := 52) d3_51 rfl rfl rfl ?_
    refine OwnW.aload X18 (n := 54) d3_52 rfl rfl rfl ?_
    have fk21 := (fk17.keep K18)
    refine OwnW.putfield X18 (ty := (.array .byte)) (v' := (.ref t3)) (n := 57) d3_54 (hw _ (List.mem_of_getElem? (i := 34) rfl)) Via.refl fk20 fk21 (Or.inr ⟨(hw _ (List.mem_of_getElem? (i := 35) rfl)), rfl, rfl⟩) (hw _ (List.mem_of_getElem? (i := 8) rfl)) (by decide) rfl rfl ge_r0 (List.mem_append_left _ (List.mem_append_left _ (List.mem_cons_self ..))) rfl ?_
    intro T22 h22 X22 W22 Fw22
    have fk23 := Fw18.other W22 (Or.inr (slot_ne (Or.inr (hw _ (List.mem_of_getElem? (i := 33) rfl))) (Or.inr (hw _ (List.mem_of_getElem? (i := 35) rfl))) (by decide) (t := .byte) (t' := (.array .byte)) (by decide) (by decide)))
    have K22 := (Keep.of_wr W22)
    have O22 := O18.keep K22 (allS ge_r0 all0)
    have Z22 : Keep h0 h22 [r0] := Z18.trans K22 (allS (P := fun x => x ∈ [r0] ∨ h0.size ≤ x) (Or.inl (List.mem_of_getElem? (i := 0) rfl)) all0)
    have fk24 := (fk21.keep K22)
    have fk25 := ((aA.keep K18 (ninS (Ne.symm ne_r0_t3) nin0)).keep K22 (ninS (Ne.symm ne_r0_t3) nin0))
    exact OwnW.vreturn X22 rfl d3_57 ⟨Z22, _, szt, Or.inr ⟨fk24, fk23, Fw22, fk25⟩⟩ (by decide) (by decide)
theorem pd___CIILjava_lang_Void__V : parseMethodDescriptor "([CIILjava/lang/Void;)V" = some ⟨[(.array .char), .int, .int, (.object "java/lang/Void")], none⟩ := by decide +kernel
theorem d2_0 : decode jdk_42_method_3_code 0 = .ok (.aload_n 0, 1) := by decide +kernel
theorem d2_1 : decode jdk_42_method_3_code 1 = .ok (.aload_n 1, 1) := by decide +kernel
theorem d2_2 : decode jdk_42_method_3_code 2 = .ok (.iconst 0, 1) := by decide +kernel
theorem d2_3 : decode jdk_42_method_3_code 3 = .ok (.aload_n 1, 1) := by decide +kernel
theorem d2_4 : decode jdk_42_method_3_code 4 = .ok (.arraylength, 1) := by decide +kernel
theorem d2_5 : decode jdk_42_method_3_code 5 = .ok (.aconst_null, 1) := by decide +kernel
theorem d2_6 : decode jdk_42_method_3_code 6 = .ok (.invokespecial 27, 3) := by decide +kernel
theorem d2_9 : decode jdk_42_method_3_code 9 = .ok (.return_, 1) := by decide +kernel
theorem ef_rm2 (m : MethodId) (x0 : Addr) (x1 : Addr) : entryFrame m #[(.ref x0), (.ref x1)] 2 = mkF m 0 #[.val (.ref x0), .val (.ref x1)] [] := by first | (simp [entryFrame, mkF, argsToLocals, Value.category]; done) | rfl
set_option maxRecDepth 65536 in
set_option maxHeartbeats 40000000 in
theorem rm2 (l : Launch) (Z : State) (a0 : Array Value) (hw : ∀ d ∈ tables_1, d.before a0 Z = true) (hE : EW Z a0 own_EL) (ws : List Jvm.Cond) (r0 : Addr) (r1 : Addr) (h0 : Heap) (n0 : Nat) (O0 : Old Z n0 h0) (ge_r0 : n0 ≤ r0) (E0 : Exa Z h0 r0 "java/lang/String") (v1 v2 : Value) (F1 : Fld Z h0 r0 "java/lang/String" "value" "[B" v1) (F2 : Fld Z h0 r0 "java/lang/String" "coder" "B" v2) (ua ub uc ud : Nat) (hua : ua ≤ 65535) (hub : ub ≤ 65535) (huc : uc ≤ 65535) (hud : ud ≤ 65535) (A1 : Ark Z h0 r1 .char [(.int (Int32.ofNat ua)), (.int (Int32.ofNat ub)), (.int (Int32.ofNat uc)), (.int (Int32.ofNat ud))]) (ne01 : r0 ≠ r1) (zc : Int32) (hzc : ¬ zc = 0) (S_compact : Sta Z Z.heap "java/lang/String" "COMPACT_STRINGS" "Z" (.int zc)) (S_ad : Sta Z Z.heap "java/lang/StringUTF16" "$assertionsDisabled" "Z" (.int 1)) (S_hi : Sta Z Z.heap "java/lang/StringUTF16" "HI_BYTE_SHIFT" "I" (.int 0)) (S_lo : Sta Z Z.heap "java/lang/StringUTF16" "LO_BYTE_SHIFT" "I" (.int 8)) :
    Ctr False l Z own_EL (⟨"java/lang/String", "<init>", "([C)V"⟩ : MethodName) jdk_42_method_3_code 2 none ws ({ frames := 5, cells := 2, slots := 12, locals := 74 } : Room) n0 (r0 :: []) #[(.ref r0), (.ref r1)] h0 (Rn (fun h g => Keep h0 h [r0] ∧ ∃ t, h0.size ≤ t ∧ own_S Z h r0 t ua ub uc ud)) := by
  refine Ctr.of (plainFor_of_name pn_java_lang_String) hE (fun m => ef_rm2 m r0 r1) ?_
  intro p e s m below meth c T0 X0
  have Z0 : Keep h0 h0 [r0] := Keep.refl _ _
  refine OwnW.aloadN X0 (n := 1) d2_0 rfl rfl rfl ?_
  refine OwnW.aloadN X0 (n := 2) d2_1 rfl rfl rfl ?_
  refine OwnW.iconst X0 (z := (0 : Int32)) (n := 3) d2_2 rfl rfl ?_
  refine OwnW.aloadN X0 (n := 4) d2_3 rfl rfl rfl ?_
  refine OwnW.arraylength X0 (z := (4 : Int32)) (n := 5) d2_4 A1 rfl rfl ?_
  refine OwnW.anull X0 (n := 6) d2_5 rfl ?_
  refine OwnW.call_special_n X0 (z := (⟨"java/lang/String", "<init>", "([CIILjava/lang/Void;)V"⟩ : MethodName)) (a := r0) (n := 9) d2_6 (hw _ (List.mem_of_getElem? (i := 13) rfl)) (hw _ (List.mem_of_getElem? (i := 14) rfl)) (hw _ (List.mem_of_getElem? (i := 16) rfl)) (hw _ (List.mem_of_getElem? (i := 9) rfl)) rfl rfl (by decide) (rm3 l Z a0 hw hE [] r0 r1 h0 n0 O0 ge_r0 E0 v1 v2 F1 F2 ua ub uc ud hua hub huc hud A1 ne01 zc hzc S_compact S_ad S_hi S_lo) (OwnW.sfS (List.mem_cons_self ..) OwnW.sf0) (argsL := [(.ref r1), (.int (0 : Int32)), (.int (4 : Int32)), .null]) (rest := []) rfl rfl (OwnW.lenA pd___CIILjava_lang_Void__V rfl) (W := 0) (Nat.le_of_eq rfl) (by decide) (by decide) (by decide) (by decide) rfl ?_
  intro T1 h1 g1 hle1 X1 qq
  exact OwnW.vreturn X1 rfl d2_9 qq (by decide) (by decide)

theorem own_shr0 (x : Int32) : x >>> ((0:Int32) &&& 31) = x := by
  have e : (0:Int32) &&& 31 = 0 := by decide
  rw [e]; simp
theorem own_isref {args : Array Value} {s : State} {t : Term} (h : (Cond.isRef t).before args s = true) : ∃ v, Term.eval args s none [] s t = some v ∧ (v = .null ∨ ∃ r, v = .ref r) := by
  have q := Cond.before_iff.mp h
  simp [Cond.value] at q
  obtain ⟨a, e, q⟩ := q
  refine ⟨a, e, ?_⟩
  cases a <;> simp_all

theorem d26_0 : decode jdk_42_method_152_code 0 = .ok (.getstatic 38, 3) := by decide +kernel
theorem d26_3 : decode jdk_42_method_152_code 3 = .ok (.ifCond .eq 10, 3) := by decide +kernel
theorem d26_6 : decode jdk_42_method_152_code 6 = .ok (.aload_n 0, 1) := by decide +kernel
theorem d26_7 : decode jdk_42_method_152_code 7 = .ok (.getfield 15, 3) := by decide +kernel
theorem d26_10 : decode jdk_42_method_152_code 10 = .ok (.goto 4, 3) := by decide +kernel
theorem d26_14 : decode jdk_42_method_152_code 14 = .ok (.ireturn, 1) := by decide +kernel
theorem ef_rm26 (m : MethodId) (x0 : Addr) : entryFrame m #[(.ref x0)] 1 = mkF m 0 #[.val (.ref x0)] [] := by first | (simp [entryFrame, mkF, argsToLocals, Value.category]; done) | rfl
set_option maxRecDepth 65536 in
set_option maxHeartbeats 40000000 in
theorem rm26 (l : Launch) (Z : State) (a0 : Array Value) (hw : ∀ d ∈ tables_1, d.before a0 Z = true) (hE : EW Z a0 own_EL) (ws : List Jvm.Cond) (r0 : Addr) (h0 : Heap) (n0 : Nat) (O0 : Old Z n0 h0) (F0 : Fld Z h0 r0 "java/lang/String" "coder" "B" (.int 0)) (zc : Int32) (hzc : ¬ zc = 0) (S_compact : Sta Z Z.heap "java/lang/String" "COMPACT_STRINGS" "Z" (.int zc)) :
    Ctr False l Z own_EL (⟨"java/lang/String", "coder", "()B"⟩ : MethodName) jdk_42_method_152_code 1 (some .byte) ws ({ frames := 0, cells := 0, slots := 0, locals := 0 } : Room) n0 ([]) #[(.ref r0)] h0 (Rt (fun w h g => w = .int 0 ∧ h0 = h)) := by
  refine Ctr.of (plainFor_of_name pn_java_lang_String) hE (fun m => ef_rm26 m r0) ?_
  intro p e s m below meth c T0 X0
  have Z0 : Keep h0 h0 [] := Keep.refl _ _
  refine OwnW.getstatic X0 (n := 3) d26_0 (hw _ (List.mem_of_getElem? (i := 20) rfl)) Via.refl (S_compact.ext O0.2) rfl ?_
  intro T1 X1
  refine OwnW.if_eq X1  (n1 := 13) (n2 := 6) d26_3 (by decide) rfl rfl (fun q => absurd q (hzc : ¬ zc = 0)) (fun _ => ?_)
  refine OwnW.aloadN X1 (n := 7) d26_6 rfl rfl rfl ?_
  refine OwnW.getfield X1 (n := 10) d26_7 (hw _ (List.mem_of_getElem? (i := 32) rfl)) Via.refl F0 rfl ?_
  intro T2 X2
  refine OwnW.goto X2 (n := 14) d26_10 (by decide) rfl ?_
  exact OwnW.ireturn X2 rfl (Or.inr (Or.inr (Or.inl rfl))) rfl d26_14 ⟨rfl, rfl⟩ (by decide) (by decide)
theorem pd___B : parseMethodDescriptor "()B" = some ⟨[], some .byte⟩ := by decide +kernel
theorem d25_0 : decode jdk_42_method_54_code 0 = .ok (.aload_n 0, 1) := by decide +kernel
theorem d25_1 : decode jdk_42_method_54_code 1 = .ok (.getfield 9, 3) := by decide +kernel
theorem d25_4 : decode jdk_42_method_54_code 4 = .ok (.arraylength, 1) := by decide +kernel
theorem d25_5 : decode jdk_42_method_54_code 5 = .ok (.aload_n 0, 1) := by decide +kernel
theorem d25_6 : decode jdk_42_method_54_code 6 = .ok (.invokevirtual 335, 3) := by decide +kernel
theorem d25_9 : decode jdk_42_method_54_code 9 = .ok (.ishr, 1) := by decide +kernel
theorem d25_10 : decode jdk_42_method_54_code 10 = .ok (.ireturn, 1) := by decide +kernel
theorem ef_rm25 (m : MethodId) (x0 : Addr) : entryFrame m #[(.ref x0)] 1 = mkF m 0 #[.val (.ref x0)] [] := by first | (simp [entryFrame, mkF, argsToLocals, Value.category]; done) | rfl
set_option maxRecDepth 65536 in
set_option maxHeartbeats 40000000 in
theorem rm25 (l : Launch) (Z : State) (a0 : Array Value) (hw : ∀ d ∈ tables_1, d.before a0 Z = true) (hE : EW Z a0 own_EL) (ws : List Jvm.Cond) (r0 : Addr) (h0 : Heap) (n0 : Nat) (O0 : Old Z n0 h0) (t : Addr) (cs : List Int32) (S0 : StrL Z h0 r0 t cs) (zc : Int32) (hzc : ¬ zc = 0) (S_compact : Sta Z Z.heap "java/lang/String" "COMPACT_STRINGS" "Z" (.int zc)) :
    Ctr False l Z own_EL (⟨"java/lang/String", "length", "()I"⟩ : MethodName) jdk_42_method_54_code 1 (some .int) ws ({ frames := 1, cells := 0, slots := 0, locals := 13 } : Room) n0 ([]) #[(.ref r0)] h0 (Rt (fun w h g => w = .int (Int32.ofNat cs.length) ∧ h0 = h)) := by
  refine Ctr.of (plainFor_of_name pn_java_lang_String) hE (fun m => ef_rm25 m r0) ?_
  intro p e s m below meth c T0 X0
  have Z0 : Keep h0 h0 [] := Keep.refl _ _
  refine OwnW.aloadN X0 (n := 1) d25_0 rfl rfl rfl ?_
  refine OwnW.getfield X0 (n := 4) d25_1 (hw _ (List.mem_of_getElem? (i := 34) rfl)) Via.refl S0.2.2.1 rfl ?_
  intro T1 X1
  refine OwnW.arraylength X1 (z := Int32.ofNat cs.length) (n := 5) d25_4 S0.2.2.2 (by simp) rfl ?_
  refine OwnW.aloadN X1 (n := 6) d25_5 rfl rfl rfl ?_
  refine OwnW.call_virtual_v X1 (z := (⟨"java/lang/String", "coder", "()B"⟩ : MethodName)) (yv := (⟨"java/lang/String", "coder", "()B"⟩ : MethodName)) (a := r0) (C := "java/lang/String") (n := 9) d25_6 (hw _ (List.mem_of_getElem? (i := 110) rfl)) (hw _ (List.mem_of_getElem? (i := 111) rfl)) (hw _ (List.mem_of_getElem? (i := 112) rfl)) (hw _ (List.mem_of_getElem? (i := 113) rfl)) (fun hz => notFace_of_selects (args := #[]) (mvT hz (hw _ (List.mem_of_getElem? (i := 113) rfl)))) (hw _ (List.mem_of_getElem? (i := 114) rfl)) (hw _ (List.mem_of_getElem? (i := 9) rfl)) (by decide) S0.1 (rm26 l Z a0 hw hE [] r0 h0 n0 O0 S0.2.1 zc hzc S_compact) OwnW.sf0 (argsL := []) (rest := [(.int (Int32.ofNat cs.length))]) rfl rfl (OwnW.lenA pd___B rfl) (W := 1) (Nat.le_of_eq rfl) (by decide) (by decide) (by decide) (by decide) rfl ?_
  intro T2 h2 w2 g2 hle2 X2 ⟨q1, q2⟩
  subst q1 q2
  refine OwnW.ishr X2 (n := 10) d25_9 rfl ?_
  exact OwnW.ireturn X2 rfl (Or.inl rfl) rfl d25_10 ⟨by rw [own_shr0], rfl⟩ (by decide) (by decide)
theorem pn_jdk_internal_util_Preconditions : plainName "jdk/internal/util/Preconditions" = true := by first | (simp [plainName, overriddenIn]; done) | decide +kernel
theorem d22_0 : decode jdk_41_method_11_code 0 = .ok (.iload_n 0, 1) := by decide +kernel
theorem d22_1 : decode jdk_41_method_11_code 1 = .ok (.ifCond .lt 8, 3) := by decide +kernel
theorem d22_4 : decode jdk_41_method_11_code 4 = .ok (.iload_n 0, 1) := by decide +kernel
theorem d22_5 : decode jdk_41_method_11_code 5 = .ok (.iload_n 1, 1) := by decide +kernel
theorem d22_6 : decode jdk_41_method_11_code 6 = .ok (.if_icmp .lt 10, 3) := by decide +kernel
theorem d22_16 : decode jdk_41_method_11_code 16 = .ok (.iload_n 0, 1) := by decide +kernel
theorem d22_17 : decode jdk_41_method_11_code 17 = .ok (.ireturn, 1) := by decide +kernel
theorem ef_rmPn (m : MethodId) (x0 : Int32) (x1 : Int32) : entryFrame m #[(.int x0), (.int x1), .null] 3 = mkF m 0 #[.val (.int x0), .val (.int x1), .val .null] [] := by first | (simp [entryFrame, mkF, argsToLocals, Value.category]; done) | rfl
set_option maxRecDepth 65536 in
set_option maxHeartbeats 40000000 in
theorem rmPn (l : Launch) (Z : State) (a0 : Array Value) (hw : ∀ d ∈ tables_1, d.before a0 Z = true) (hE : EW Z a0 own_EL) (ws : List Jvm.Cond) (p0 : Int32) (p1 : Int32) (h0 : Heap) (n0 : Nat) (h1 : ¬ p0 < 0) (h2 : p0 < p1) :
    Ctr False l Z own_EL (⟨"jdk/internal/util/Preconditions", "checkIndex", "(IILjava/util/function/BiFunction;)I"⟩ : MethodName) jdk_41_method_11_code 3 (some .int) ws ({ frames := 0, cells := 0, slots := 0, locals := 0 } : Room) n0 ([]) #[(.int p0), (.int p1), .null] h0 (Rt (fun w h g => w = .int p0 ∧ h0 = h)) := by
  refine Ctr.of (plainFor_of_name pn_jdk_internal_util_Preconditions) hE (fun m => ef_rmPn m p0 p1) ?_
  intro p e s m below meth c T0 X0
  refine OwnW.iloadN X0 (n := 1) d22_0 rfl rfl ?_
  refine OwnW.if_lt X0  (n1 := 9) (n2 := 4) d22_1 (by decide) rfl rfl (fun q => absurd q (h1 : ¬ p0 < 0)) (fun _ => ?_)
  refine OwnW.iloadN X0 (n := 5) d22_4 rfl rfl ?_
  refine OwnW.iloadN X0 (n := 6) d22_5 rfl rfl ?_
  refine OwnW.ic_lt X0  (n1 := 16) (n2 := 9) d22_6 (by decide) rfl rfl (fun _ => ?_) (fun q => absurd (h2 : p0 < p1) q)
  refine OwnW.iloadN X0 (n := 17) d22_16 rfl rfl ?_
  exact OwnW.ireturn X0 rfl (Or.inl rfl) rfl d22_17 ⟨rfl, rfl⟩ (by decide) (by decide)
theorem ef_rmPr (m : MethodId) (x0 : Int32) (x1 : Int32) (x2 : Addr) : entryFrame m #[(.int x0), (.int x1), (.ref x2)] 3 = mkF m 0 #[.val (.int x0), .val (.int x1), .val (.ref x2)] [] := by first | (simp [entryFrame, mkF, argsToLocals, Value.category]; done) | rfl
set_option maxRecDepth 65536 in
set_option maxHeartbeats 40000000 in
theorem rmPr (l : Launch) (Z : State) (a0 : Array Value) (hw : ∀ d ∈ tables_1, d.before a0 Z = true) (hE : EW Z a0 own_EL) (ws : List Jvm.Cond) (p0 : Int32) (p1 : Int32) (r2 : Addr) (h0 : Heap) (n0 : Nat) (h1 : ¬ p0 < 0) (h2 : p0 < p1) :
    Ctr False l Z own_EL (⟨"jdk/internal/util/Preconditions", "checkIndex", "(IILjava/util/function/BiFunction;)I"⟩ : MethodName) jdk_41_method_11_code 3 (some .int) ws ({ frames := 0, cells := 0, slots := 0, locals := 0 } : Room) n0 ([]) #[(.int p0), (.int p1), (.ref r2)] h0 (Rt (fun w h g => w = .int p0 ∧ h0 = h)) := by
  refine Ctr.of (plainFor_of_name pn_jdk_internal_util_Preconditions) hE (fun m => ef_rmPr m p0 p1 r2) ?_
  intro p e s m below meth c T0 X0
  refine OwnW.iloadN X0 (n := 1) d22_0 rfl rfl ?_
  refine OwnW.if_lt X0  (n1 := 9) (n2 := 4) d22_1 (by decide) rfl rfl (fun q => absurd q (h1 : ¬ p0 < 0)) (fun _ => ?_)
  refine OwnW.iloadN X0 (n := 5) d22_4 rfl rfl ?_
  refine OwnW.iloadN X0 (n := 6) d22_5 rfl rfl ?_
  refine OwnW.ic_lt X0  (n1 := 16) (n2 := 9) d22_6 (by decide) rfl rfl (fun _ => ?_) (fun q => absurd (h2 : p0 < p1) q)
  refine OwnW.iloadN X0 (n := 17) d22_16 rfl rfl ?_
  exact OwnW.ireturn X0 rfl (Or.inl rfl) rfl d22_17 ⟨rfl, rfl⟩ (by decide) (by decide)
theorem pd__IILjava_util_function_BiFunction__I : parseMethodDescriptor "(IILjava/util/function/BiFunction;)I" = some ⟨[.int, .int, (.object "java/util/function/BiFunction")], some .int⟩ := by decide +kernel
theorem d21_0 : decode jdk_42_method_155_code 0 = .ok (.iload_n 0, 1) := by decide +kernel
theorem d21_1 : decode jdk_42_method_155_code 1 = .ok (.iload_n 1, 1) := by decide +kernel
theorem d21_2 : decode jdk_42_method_155_code 2 = .ok (.getstatic 1053, 3) := by decide +kernel
theorem d21_5 : decode jdk_42_method_155_code 5 = .ok (.invokestatic 1059, 3) := by decide +kernel
theorem d21_8 : decode jdk_42_method_155_code 8 = .ok (.pop, 1) := by decide +kernel
theorem d21_9 : decode jdk_42_method_155_code 9 = .ok (.return_, 1) := by decide +kernel
theorem ef_rmCn (m : MethodId) (x0 : Int32) (x1 : Int32) : entryFrame m #[(.int x0), (.int x1)] 2 = mkF m 0 #[.val (.int x0), .val (.int x1)] [] := by first | (simp [entryFrame, mkF, argsToLocals, Value.category]; done) | rfl
set_option maxRecDepth 65536 in
set_option maxHeartbeats 40000000 in
theorem rmCn (l : Launch) (Z : State) (a0 : Array Value) (hw : ∀ d ∈ tables_1, d.before a0 Z = true) (hE : EW Z a0 own_EL) (ws : List Jvm.Cond) (p0 : Int32) (p1 : Int32) (h0 : Heap) (n0 : Nat) (O0 : Old Z n0 h0) (h1 : ¬ p0 < 0) (h2 : p0 < p1) (S_fm : Sta Z Z.heap "jdk/internal/util/Preconditions" "SIOOBE_FORMATTER" "Ljava/util/function/BiFunction;" .null) :
    Ctr False l Z own_EL (⟨"java/lang/String", "checkIndex", "(II)V"⟩ : MethodName) jdk_42_method_155_code 2 none ws ({ frames := 1, cells := 0, slots := 0, locals := 14 } : Room) n0 ([]) #[(.int p0), (.int p1)] h0 (Rn (fun h g => h0 = h)) := by
  refine Ctr.of (plainFor_of_name pn_java_lang_String) hE (fun m => ef_rmCn m p0 p1) ?_
  intro p e s m below meth c T0 X0
  have Z0 : Keep h0 h0 [] := Keep.refl _ _
  refine OwnW.iloadN X0 (n := 1) d21_0 rfl rfl ?_
  refine OwnW.iloadN X0 (n := 2) d21_1 rfl rfl ?_
  refine OwnW.getstatic X0 (n := 5) d21_2 (hw _ (List.mem_of_getElem? (i := 87) rfl)) Via.refl (S_fm.ext O0.2) rfl ?_
  intro T1 X1
  refine OwnW.call_static_v X1 (z := (⟨"jdk/internal/util/Preconditions", "checkIndex", "(IILjava/util/function/BiFunction;)I"⟩ : MethodName)) (n := 8) d21_5 (hw _ (List.mem_of_getElem? (i := 89) rfl)) (hw _ (List.mem_of_getElem? (i := 90) rfl)) (hw _ (List.mem_of_getElem? (i := 91) rfl)) (hw _ (List.mem_of_getElem? (i := 88) rfl)) (by decide) (rmPn l Z a0 hw hE [] p0 p1 h0 n0 h1 h2) OwnW.sf0 (argsL := [(.int p0), (.int p1), .null]) (rest := []) rfl rfl (OwnW.lenA pd__IILjava_util_function_BiFunction__I rfl) (W := 0) (Nat.le_of_eq rfl) (by decide) (by decide) (by decide) (by decide) rfl ?_
  intro T2 h2 w2 g2 hle2 X2 ⟨q1, q2⟩
  subst q1 q2
  refine OwnW.pop X2 (n := 9) d21_8 rfl rfl ?_
  exact OwnW.vreturn X2 rfl d21_9 rfl (by decide) (by decide)
theorem ef_rmCr (m : MethodId) (x0 : Int32) (x1 : Int32) : entryFrame m #[(.int x0), (.int x1)] 2 = mkF m 0 #[.val (.int x0), .val (.int x1)] [] := by first | (simp [entryFrame, mkF, argsToLocals, Value.category]; done) | rfl
set_option maxRecDepth 65536 in
set_option maxHeartbeats 40000000 in
theorem rmCr (l : Launch) (Z : State) (a0 : Array Value) (hw : ∀ d ∈ tables_1, d.before a0 Z = true) (hE : EW Z a0 own_EL) (ws : List Jvm.Cond) (p0 : Int32) (p1 : Int32) (h0 : Heap) (n0 : Nat) (O0 : Old Z n0 h0) (f : Addr) (h1 : ¬ p0 < 0) (h2 : p0 < p1) (S_fm : Sta Z Z.heap "jdk/internal/util/Preconditions" "SIOOBE_FORMATTER" "Ljava/util/function/BiFunction;" (.ref f)) :
    Ctr False l Z own_EL (⟨"java/lang/String", "checkIndex", "(II)V"⟩ : MethodName) jdk_42_method_155_code 2 none ws ({ frames := 1, cells := 0, slots := 0, locals := 14 } : Room) n0 ([]) #[(.int p0), (.int p1)] h0 (Rn (fun h g => h0 = h)) := by
  refine Ctr.of (plainFor_of_name pn_java_lang_String) hE (fun m => ef_rmCr m p0 p1) ?_
  intro p e s m below meth c T0 X0
  have Z0 : Keep h0 h0 [] := Keep.refl _ _
  refine OwnW.iloadN X0 (n := 1) d21_0 rfl rfl ?_
  refine OwnW.iloadN X0 (n := 2) d21_1 rfl rfl ?_
  refine OwnW.getstatic X0 (n := 5) d21_2 (hw _ (List.mem_of_getElem? (i := 87) rfl)) Via.refl (S_fm.ext O0.2) rfl ?_
  intro T1 X1
  refine OwnW.call_static_v X1 (z := (⟨"jdk/internal/util/Preconditions", "checkIndex", "(IILjava/util/function/BiFunction;)I"⟩ : MethodName)) (n := 8) d21_5 (hw _ (List.mem_of_getElem? (i := 89) rfl)) (hw _ (List.mem_of_getElem? (i := 90) rfl)) (hw _ (List.mem_of_getElem? (i := 91) rfl)) (hw _ (List.mem_of_getElem? (i := 88) rfl)) (by decide) (rmPr l Z a0 hw hE [] p0 p1 f h0 n0 h1 h2) OwnW.sf0 (argsL := [(.int p0), (.int p1), (.ref f)]) (rest := []) rfl rfl (OwnW.lenA pd__IILjava_util_function_BiFunction__I rfl) (W := 0) (Nat.le_of_eq rfl) (by decide) (by decide) (by decide) (by decide) rfl ?_
  intro T2 h2 w2 g2 hle2 X2 ⟨q1, q2⟩
  subst q1 q2
  refine OwnW.pop X2 (n := 9) d21_8 rfl rfl ?_
  exact OwnW.vreturn X2 rfl d21_9 rfl (by decide) (by decide)
theorem rmCI (l : Launch) (Z : State) (a0 : Array Value) (hw : ∀ d ∈ tables_1, d.before a0 Z = true) (hE : EW Z a0 own_EL) (ws : List Jvm.Cond) (p0 p1 : Int32) (h0 : Heap) (n0 : Nat) (O0 : Old Z n0 h0) (h1 : ¬ p0 < 0) (h2 : p0 < p1) (fm : Value) (hfm : fm = .null ∨ ∃ r, fm = .ref r) (S_fm : Sta Z Z.heap "jdk/internal/util/Preconditions" "SIOOBE_FORMATTER" "Ljava/util/function/BiFunction;" fm) : Ctr False l Z own_EL (⟨"java/lang/String", "checkIndex", "(II)V"⟩ : MethodName) jdk_42_method_155_code 2 none ws ({ frames := 1, cells := 0, slots := 0, locals := 14 } : Room) n0 [] #[(.int p0), (.int p1)] h0 (Rn (fun h g => h0 = h)) := by
  rcases hfm with rfl | ⟨f, rfl⟩
  · exact rmCn l Z a0 hw hE ws p0 p1 h0 n0 O0 h1 h2 S_fm
  · exact rmCr l Z a0 hw hE ws p0 p1 h0 n0 O0 f h1 h2 S_fm
theorem pd__II_V : parseMethodDescriptor "(II)V" = some ⟨[.int, .int], none⟩ := by decide +kernel
theorem pn_java_lang_StringLatin1 : plainName "java/lang/StringLatin1" = true := by first | (simp [plainName, overriddenIn]; done) | decide +kernel
theorem d32_0 : decode jdk_43_method_2_code 0 = .ok (.iload_n 1, 1) := by decide +kernel
theorem d32_1 : decode jdk_43_method_2_code 1 = .ok (.aload_n 0, 1) := by decide +kernel
theorem d32_2 : decode jdk_43_method_2_code 2 = .ok (.arraylength, 1) := by decide +kernel
theorem d32_3 : decode jdk_43_method_2_code 3 = .ok (.invokestatic 9, 3) := by decide +kernel
theorem d32_6 : decode jdk_43_method_2_code 6 = .ok (.aload_n 0, 1) := by decide +kernel
theorem d32_7 : decode jdk_43_method_2_code 7 = .ok (.iload_n 1, 1) := by decide +kernel
theorem d32_8 : decode jdk_43_method_2_code 8 = .ok (.baload, 1) := by decide +kernel
theorem d32_9 : decode jdk_43_method_2_code 9 = .ok (.sipush 255, 3) := by decide +kernel
theorem d32_12 : decode jdk_43_method_2_code 12 = .ok (.iand, 1) := by decide +kernel
theorem d32_13 : decode jdk_43_method_2_code 13 = .ok (.i2c, 1) := by decide +kernel
theorem d32_14 : decode jdk_43_method_2_code 14 = .ok (.ireturn, 1) := by decide +kernel
theorem ef_rm32 (m : MethodId) (x0 : Addr) (x1 : Int32) : entryFrame m #[(.ref x0), (.int x1)] 2 = mkF m 0 #[.val (.ref x0), .val (.int x1)] [] := by first | (simp [entryFrame, mkF, argsToLocals, Value.category]; done) | rfl
set_option maxRecDepth 65536 in
set_option maxHeartbeats 40000000 in
theorem rm32 (l : Launch) (Z : State) (a0 : Array Value) (hw : ∀ d ∈ tables_1, d.before a0 Z = true) (hE : EW Z a0 own_EL) (ws : List Jvm.Cond) (r0 : Addr) (h0 : Heap) (n0 : Nat) (O0 : Old Z n0 h0) (as : List Int32) (i : Nat) (hi : i < as.length) (A0 : Ark Z h0 r0 .byte (as.map Value.int)) (fm : Value) (hfm : fm = .null ∨ ∃ r, fm = .ref r) (S_fm : Sta Z Z.heap "jdk/internal/util/Preconditions" "SIOOBE_FORMATTER" "Ljava/util/function/BiFunction;" fm) :
    Ctr False l Z own_EL (⟨"java/lang/StringLatin1", "charAt", "([BI)C"⟩ : MethodName) jdk_43_method_2_code 2 (some .char) ws ({ frames := 2, cells := 0, slots := 0, locals := 27 } : Room) n0 ([]) #[(.ref r0), (.int (Int32.ofNat i))] h0 (Rt (fun w h g => w = .int (as.getD i 0 &&& 255).toUInt32.toUInt16.toUInt32.toInt32 ∧ h0 = h)) := by
  refine Ctr.of (plainFor_of_name pn_java_lang_StringLatin1) hE (fun m => ef_rm32 m r0 (Int32.ofNat i)) ?_
  intro p e s m below meth c T0 X0
  have Z0 : Keep h0 h0 [] := Keep.refl _ _
  refine OwnW.iloadN X0 (n := 1) d32_0 rfl rfl ?_
  refine OwnW.aloadN X0 (n := 2) d32_1 rfl rfl rfl ?_
  have hla : as.length < 2147483648 := by simpa using A0.len
  have hii : i < 2147483648 := by omega
  refine OwnW.arraylength X0 (z := Int32.ofNat as.length) (n := 3) d32_2 A0 (by simp) rfl ?_
  refine OwnW.call_static_n X0 (z := (⟨"java/lang/String", "checkIndex", "(II)V"⟩ : MethodName)) (n := 6) d32_3 (hw _ (List.mem_of_getElem? (i := 135) rfl)) (hw _ (List.mem_of_getElem? (i := 85) rfl)) (hw _ (List.mem_of_getElem? (i := 86) rfl)) (hw _ (List.mem_of_getElem? (i := 9) rfl)) (by decide) (rmCI l Z a0 hw hE [] (Int32.ofNat i) (Int32.ofNat as.length) h0 n0 O0 (fun q => by have z := (own_lt hii (n := 0) (by decide)).mp q; omega) ((own_lt hii hla).mpr hi) fm hfm S_fm) OwnW.sf0 (argsL := [(.int (Int32.ofNat i)), (.int (Int32.ofNat as.length))]) (rest := []) rfl rfl (OwnW.lenA pd__II_V rfl) (W := 0) (Nat.le_of_eq rfl) (by decide) (by decide) (by decide) (by decide) rfl ?_
  intro T1 h1 g1 hle1 X1 q2
  subst q2
  refine OwnW.aloadN X1 (n := 7) d32_6 rfl rfl rfl ?_
  refine OwnW.iloadN X1 (n := 8) d32_7 rfl rfl ?_
  refine OwnW.baload X1 (i := i) (v := (.int (as.getD i 0))) (n := 9) d32_8 A0 (own_nat hii) (own_get as hi) rfl ?_
  refine OwnW.sipush X1 (z := (255 : Int32)) (n := 12) d32_9 rfl rfl ?_
  refine OwnW.iand X1 (n := 13) d32_12 rfl ?_
  refine OwnW.i2c X1 (n := 14) d32_13 rfl ?_
  exact OwnW.ireturnN X1 rfl (Or.inr (Or.inr (Or.inl rfl))) (own_narC (own_255 _).1 (own_255 _).2) d32_14 ⟨rfl, rfl⟩ (by decide) (by decide)
theorem d17_0 : decode jdk_42_method_154_code 0 = .ok (.getstatic 38, 3) := by decide +kernel
theorem d17_3 : decode jdk_42_method_154_code 3 = .ok (.ifCond .eq 14, 3) := by decide +kernel
theorem d17_6 : decode jdk_42_method_154_code 6 = .ok (.aload_n 0, 1) := by decide +kernel
theorem d17_7 : decode jdk_42_method_154_code 7 = .ok (.getfield 15, 3) := by decide +kernel
theorem d17_10 : decode jdk_42_method_154_code 10 = .ok (.ifCond .ne 7, 3) := by decide +kernel
theorem d17_13 : decode jdk_42_method_154_code 13 = .ok (.iconst 1, 1) := by decide +kernel
theorem d17_14 : decode jdk_42_method_154_code 14 = .ok (.goto 4, 3) := by decide +kernel
theorem d17_18 : decode jdk_42_method_154_code 18 = .ok (.ireturn, 1) := by decide +kernel
theorem ef_rm17 (m : MethodId) (x0 : Addr) : entryFrame m #[(.ref x0)] 1 = mkF m 0 #[.val (.ref x0)] [] := by first | (simp [entryFrame, mkF, argsToLocals, Value.category]; done) | rfl
set_option maxRecDepth 65536 in
set_option maxHeartbeats 40000000 in
theorem rm17 (l : Launch) (Z : State) (a0 : Array Value) (hw : ∀ d ∈ tables_1, d.before a0 Z = true) (hE : EW Z a0 own_EL) (ws : List Jvm.Cond) (r0 : Addr) (h0 : Heap) (n0 : Nat) (O0 : Old Z n0 h0) (F0 : Fld Z h0 r0 "java/lang/String" "coder" "B" (.int 0)) (zc : Int32) (hzc : ¬ zc = 0) (S_compact : Sta Z Z.heap "java/lang/String" "COMPACT_STRINGS" "Z" (.int zc)) :
    Ctr False l Z own_EL (⟨"java/lang/String", "isLatin1", "()Z"⟩ : MethodName) jdk_42_method_154_code 1 (some .boolean) ws ({ frames := 0, cells := 0, slots := 0, locals := 0 } : Room) n0 ([]) #[(.ref r0)] h0 (Rt (fun w h g => w = .int 1 ∧ h0 = h)) := by
  refine Ctr.of (plainFor_of_name pn_java_lang_String) hE (fun m => ef_rm17 m r0) ?_
  intro p e s m below meth c T0 X0
  have Z0 : Keep h0 h0 [] := Keep.refl _ _
  refine OwnW.getstatic X0 (n := 3) d17_0 (hw _ (List.mem_of_getElem? (i := 20) rfl)) Via.refl (S_compact.ext O0.2) rfl ?_
  intro T1 X1
  refine OwnW.if_eq X1  (n1 := 17) (n2 := 6) d17_3 (by decide) rfl rfl (fun q => absurd q (hzc : ¬ zc = 0)) (fun _ => ?_)
  refine OwnW.aloadN X1 (n := 7) d17_6 rfl rfl rfl ?_
  refine OwnW.getfield X1 (n := 10) d17_7 (hw _ (List.mem_of_getElem? (i := 32) rfl)) Via.refl F0 rfl ?_
  intro T2 X2
  refine OwnW.if_ne X2  (n1 := 17) (n2 := 13) d17_10 (by decide) rfl rfl (fun q => absurd ((by decide) : (0 : Int32) = 0) q) (fun _ => ?_)
  refine OwnW.iconst X2 (z := (1 : Int32)) (n := 14) d17_13 rfl rfl ?_
  refine OwnW.goto X2 (n := 18) d17_14 (by decide) rfl ?_
  exact OwnW.ireturn X2 rfl (Or.inr (Or.inl rfl)) rfl d17_18 ⟨rfl, rfl⟩ (by decide) (by decide)
theorem pd___Z : parseMethodDescriptor "()Z" = some ⟨[], some .boolean⟩ := by decide +kernel
theorem d16_0 : decode jdk_42_method_56_code 0 = .ok (.aload_n 0, 1) := by decide +kernel
theorem d16_1 : decode jdk_42_method_56_code 1 = .ok (.invokevirtual 492, 3) := by decide +kernel
theorem d16_4 : decode jdk_42_method_56_code 4 = .ok (.ifCond .eq 12, 3) := by decide +kernel
theorem d16_7 : decode jdk_42_method_56_code 7 = .ok (.aload_n 0, 1) := by decide +kernel
theorem d16_8 : decode jdk_42_method_56_code 8 = .ok (.getfield 9, 3) := by decide +kernel
theorem d16_11 : decode jdk_42_method_56_code 11 = .ok (.iload_n 1, 1) := by decide +kernel
theorem d16_12 : decode jdk_42_method_56_code 12 = .ok (.invokestatic 495, 3) := by decide +kernel
theorem d16_15 : decode jdk_42_method_56_code 15 = .ok (.ireturn, 1) := by decide +kernel
theorem ef_rm16 (m : MethodId) (x0 : Addr) (x1 : Int32) : entryFrame m #[(.ref x0), (.int x1)] 2 = mkF m 0 #[.val (.ref x0), .val (.int x1)] [] := by first | (simp [entryFrame, mkF, argsToLocals, Value.category]; done) | rfl
set_option maxRecDepth 65536 in
set_option maxHeartbeats 40000000 in
theorem rm16 (l : Launch) (Z : State) (a0 : Array Value) (hw : ∀ d ∈ tables_1, d.before a0 Z = true) (hE : EW Z a0 own_EL) (ws : List Jvm.Cond) (r0 : Addr) (h0 : Heap) (n0 : Nat) (O0 : Old Z n0 h0) (t : Addr) (cs : List Int32) (i : Nat) (hi : i < cs.length) (S0 : StrL Z h0 r0 t cs) (zc : Int32) (hzc : ¬ zc = 0) (S_compact : Sta Z Z.heap "java/lang/String" "COMPACT_STRINGS" "Z" (.int zc)) (fm : Value) (hfm : fm = .null ∨ ∃ r, fm = .ref r) (S_fm : Sta Z Z.heap "jdk/internal/util/Preconditions" "SIOOBE_FORMATTER" "Ljava/util/function/BiFunction;" fm) :
    Ctr False l Z own_EL (⟨"java/lang/String", "charAt", "(I)C"⟩ : MethodName) jdk_42_method_56_code 2 (some .char) ws ({ frames := 4, cells := 0, slots := 0, locals := 53 } : Room) n0 ([]) #[(.ref r0), (.int (Int32.ofNat i))] h0 (Rt (fun w h g => w = .int ((cs.map lo8).getD i 0 &&& 255).toUInt32.toUInt16.toUInt32.toInt32 ∧ h0 = h)) := by
  refine Ctr.of (plainFor_of_name pn_java_lang_String) hE (fun m => ef_rm16 m r0 (Int32.ofNat i)) ?_
  intro p e s m below meth c T0 X0
  have Z0 : Keep h0 h0 [] := Keep.refl _ _
  refine OwnW.aloadN X0 (n := 1) d16_0 rfl rfl rfl ?_
  refine OwnW.call_virtual_v X0 (z := (⟨"java/lang/String", "isLatin1", "()Z"⟩ : MethodName)) (yv := (⟨"java/lang/String", "isLatin1", "()Z"⟩ : MethodName)) (a := r0) (C := "java/lang/String") (n := 4) d16_1 (hw _ (List.mem_of_getElem? (i := 70) rfl)) (hw _ (List.mem_of_getElem? (i := 71) rfl)) (hw _ (List.mem_of_getElem? (i := 72) rfl)) (hw _ (List.mem_of_getElem? (i := 73) rfl)) (fun hz => notFace_of_selects (args := #[]) (mvT hz (hw _ (List.mem_of_getElem? (i := 73) rfl)))) (hw _ (List.mem_of_getElem? (i := 74) rfl)) (hw _ (List.mem_of_getElem? (i := 9) rfl)) (by decide) S0.1 (rm17 l Z a0 hw hE [] r0 h0 n0 O0 S0.2.1 zc hzc S_compact) OwnW.sf0 (argsL := []) (rest := []) rfl rfl (OwnW.lenA pd___Z rfl) (W := 0) (Nat.le_of_eq rfl) (by decide) (by decide) (by decide) (by decide) rfl ?_
  intro T1 h1 w1 g1 hle1 X1 ⟨q1, q2⟩
  subst q1 q2
  refine OwnW.if_eq X1  (n1 := 16) (n2 := 7) d16_4 (by decide) rfl rfl (fun q => absurd q ((by decide) : ¬ (1 : Int32) = 0)) (fun _ => ?_)
  refine OwnW.aloadN X1 (n := 8) d16_7 rfl rfl rfl ?_
  refine OwnW.getfield X1 (n := 11) d16_8 (hw _ (List.mem_of_getElem? (i := 34) rfl)) Via.refl S0.2.2.1 rfl ?_
  intro T2 X2
  refine OwnW.iloadN X2 (n := 12) d16_11 rfl rfl ?_
  refine OwnW.call_static_v X2 (z := (⟨"java/lang/StringLatin1", "charAt", "([BI)C"⟩ : MethodName)) (n := 15) d16_12 (hw _ (List.mem_of_getElem? (i := 132) rfl)) (hw _ (List.mem_of_getElem? (i := 133) rfl)) (hw _ (List.mem_of_getElem? (i := 134) rfl)) (hw _ (List.mem_of_getElem? (i := 117) rfl)) (by decide) (rm32 l Z a0 hw hE [] t h0 n0 O0 (cs.map lo8) i (by simpa using hi) S0.2.2.2 fm hfm S_fm) OwnW.sf0 (argsL := [(.ref t), (.int (Int32.ofNat i))]) (rest := []) rfl rfl (OwnW.lenA pd___BI_C rfl) (W := 0) (Nat.le_of_eq rfl) (by decide) (by decide) (by decide) (by decide) rfl ?_
  intro T3 h3 w3 g3 hle3 X3 ⟨q1, q2⟩
  subst q1 q2
  exact OwnW.ireturnN X3 rfl (Or.inr (Or.inr (Or.inl rfl))) (own_narC (own_255 _).1 (own_255 _).2) d16_15 ⟨rfl, rfl⟩ (by decide) (by decide)
def own_k (ua ub uc ud i : Nat) : Nat := if i = 0 then ua else if i = 1 then ub else if i = 2 then uc else ud
theorem own_k_le {ua ub uc ud : Nat} (hua : ua ≤ 65535) (hub : ub ≤ 65535) (huc : uc ≤ 65535) (hud : ud ≤ 65535) (i : Nat) : own_k ua ub uc ud i ≤ 65535 := by unfold own_k; split; exact hua; split; exact hub; split; exact huc; exact hud
theorem d17_17 : decode jdk_42_method_154_code 17 = .ok (.iconst 0, 1) := by decide +kernel
theorem ef_rmIL1 (m : MethodId) (x0 : Addr) : entryFrame m #[(.ref x0)] 1 = mkF m 0 #[.val (.ref x0)] [] := by first | (simp [entryFrame, mkF, argsToLocals, Value.category]; done) | rfl
set_option maxRecDepth 65536 in
set_option maxHeartbeats 40000000 in
theorem rmIL1 (l : Launch) (Z : State) (a0 : Array Value) (hw : ∀ d ∈ tables_1, d.before a0 Z = true) (hE : EW Z a0 own_EL) (ws : List Jvm.Cond) (r0 : Addr) (h0 : Heap) (n0 : Nat) (O0 : Old Z n0 h0) (F0 : Fld Z h0 r0 "java/lang/String" "coder" "B" (.int 1)) (zc : Int32) (hzc : ¬ zc = 0) (S_compact : Sta Z Z.heap "java/lang/String" "COMPACT_STRINGS" "Z" (.int zc)) :
    Ctr False l Z own_EL (⟨"java/lang/String", "isLatin1", "()Z"⟩ : MethodName) jdk_42_method_154_code 1 (some .boolean) ws ({ frames := 0, cells := 0, slots := 0, locals := 0 } : Room) n0 ([]) #[(.ref r0)] h0 (Rt (fun w h g => w = .int 0 ∧ h0 = h)) := by
  refine Ctr.of (plainFor_of_name pn_java_lang_String) hE (fun m => ef_rmIL1 m r0) ?_
  intro p e s m below meth c T0 X0
  have Z0 : Keep h0 h0 [] := Keep.refl _ _
  refine OwnW.getstatic X0 (n := 3) d17_0 (hw _ (List.mem_of_getElem? (i := 20) rfl)) Via.refl (S_compact.ext O0.2) rfl ?_
  intro T1 X1
  refine OwnW.if_eq X1  (n1 := 17) (n2 := 6) d17_3 (by decide) rfl rfl (fun q => absurd q (hzc : ¬ zc = 0)) (fun _ => ?_)
  refine OwnW.aloadN X1 (n := 7) d17_6 rfl rfl rfl ?_
  refine OwnW.getfield X1 (n := 10) d17_7 (hw _ (List.mem_of_getElem? (i := 32) rfl)) Via.refl F0 rfl ?_
  intro T2 X2
  refine OwnW.if_ne X2  (n1 := 17) (n2 := 13) d17_10 (by decide) rfl rfl (fun _ => ?_) (fun q => absurd q ((by decide) : ¬ (1 : Int32) = 0))
  refine OwnW.iconst X2 (z := (0 : Int32)) (n := 18) d17_17 rfl rfl ?_
  exact OwnW.ireturn X2 rfl (Or.inr (Or.inl rfl)) rfl d17_18 ⟨rfl, rfl⟩ (by decide) (by decide)
theorem d20_0 : decode jdk_52_method_6_code 0 = .ok (.aload_n 0, 1) := by decide +kernel
theorem d20_1 : decode jdk_52_method_6_code 1 = .ok (.arraylength, 1) := by decide +kernel
theorem d20_2 : decode jdk_52_method_6_code 2 = .ok (.iconst 1, 1) := by decide +kernel
theorem d20_3 : decode jdk_52_method_6_code 3 = .ok (.ishr, 1) := by decide +kernel
theorem d20_4 : decode jdk_52_method_6_code 4 = .ok (.ireturn, 1) := by decide +kernel
theorem ef_rm20 (m : MethodId) (x0 : Addr) : entryFrame m #[(.ref x0)] 1 = mkF m 0 #[.val (.ref x0)] [] := by first | (simp [entryFrame, mkF, argsToLocals, Value.category]; done) | rfl
set_option maxRecDepth 65536 in
set_option maxHeartbeats 40000000 in
theorem rm20 (l : Launch) (Z : State) (a0 : Array Value) (hw : ∀ d ∈ tables_1, d.before a0 Z = true) (hE : EW Z a0 own_EL) (ws : List Jvm.Cond) (r0 : Addr) (h0 : Heap) (n0 : Nat) (ua ub uc ud : Nat) (A0 : Ark Z h0 r0 .byte [(.int (lo8 (Int32.ofNat ua >>> ((0 : Int32) &&& 31)))), (.int (lo8 (Int32.ofNat ua >>> ((8 : Int32) &&& 31)))), (.int (lo8 (Int32.ofNat ub >>> ((0 : Int32) &&& 31)))), (.int (lo8 (Int32.ofNat ub >>> ((8 : Int32) &&& 31)))), (.int (lo8 (Int32.ofNat uc >>> ((0 : Int32) &&& 31)))), (.int (lo8 (Int32.ofNat uc >>> ((8 : Int32) &&& 31)))), (.int (lo8 (Int32.ofNat ud >>> ((0 : Int32) &&& 31)))), (.int (lo8 (Int32.ofNat ud >>> ((8 : Int32) &&& 31))))]) :
    Ctr False l Z own_EL (⟨"java/lang/StringUTF16", "length", "([B)I"⟩ : MethodName) jdk_52_method_6_code 1 (some .int) ws ({ frames := 0, cells := 0, slots := 0, locals := 0 } : Room) n0 ([]) #[(.ref r0)] h0 (Rt (fun w h g => w = .int 4 ∧ h0 = h)) := by
  refine Ctr.of (plainFor_of_name pn_java_lang_StringUTF16) hE (fun m => ef_rm20 m r0) ?_
  intro p e s m below meth c T0 X0
  refine OwnW.aloadN X0 (n := 1) d20_0 rfl rfl rfl ?_
  refine OwnW.arraylength X0 (z := (8 : Int32)) (n := 2) d20_1 A0 rfl rfl ?_
  refine OwnW.iconst X0 (z := (1 : Int32)) (n := 3) d20_2 rfl rfl ?_
  refine OwnW.ishr X0 (n := 4) d20_3 rfl ?_
  rw [show (((8 : Int32) >>> ((1 : Int32) &&& 31)) : Int32) = (4 : Int32) from by decide]
  exact OwnW.ireturn X0 rfl (Or.inl rfl) rfl d20_4 ⟨rfl, rfl⟩ (by decide) (by decide)
theorem pd___B_I : parseMethodDescriptor "([B)I" = some ⟨[(.array .byte)], some .int⟩ := by decide +kernel
theorem d19_0 : decode jdk_52_method_91_code 0 = .ok (.iload_n 0, 1) := by decide +kernel
theorem d19_1 : decode jdk_52_method_91_code 1 = .ok (.aload_n 1, 1) := by decide +kernel
theorem d19_2 : decode jdk_52_method_91_code 2 = .ok (.invokestatic 48, 3) := by decide +kernel
theorem d19_5 : decode jdk_52_method_91_code 5 = .ok (.invokestatic 414, 3) := by decide +kernel
theorem d19_8 : decode jdk_52_method_91_code 8 = .ok (.return_, 1) := by decide +kernel
theorem ef_rm19 (m : MethodId) (x0 : Int32) (x1 : Addr) : entryFrame m #[(.int x0), (.ref x1)] 2 = mkF m 0 #[.val (.int x0), .val (.ref x1)] [] := by first | (simp [entryFrame, mkF, argsToLocals, Value.category]; done) | rfl
set_option maxRecDepth 65536 in
set_option maxHeartbeats 40000000 in
theorem rm19 (l : Launch) (Z : State) (a0 : Array Value) (hw : ∀ d ∈ tables_1, d.before a0 Z = true) (hE : EW Z a0 own_EL) (ws : List Jvm.Cond) (r1 : Addr) (h0 : Heap) (n0 : Nat) (O0 : Old Z n0 h0) (i : Nat) (hi : i < 4) (ua ub uc ud : Nat) (A0 : Ark Z h0 r1 .byte [(.int (lo8 (Int32.ofNat ua >>> ((0 : Int32) &&& 31)))), (.int (lo8 (Int32.ofNat ua >>> ((8 : Int32) &&& 31)))), (.int (lo8 (Int32.ofNat ub >>> ((0 : Int32) &&& 31)))), (.int (lo8 (Int32.ofNat ub >>> ((8 : Int32) &&& 31)))), (.int (lo8 (Int32.ofNat uc >>> ((0 : Int32) &&& 31)))), (.int (lo8 (Int32.ofNat uc >>> ((8 : Int32) &&& 31)))), (.int (lo8 (Int32.ofNat ud >>> ((0 : Int32) &&& 31)))), (.int (lo8 (Int32.ofNat ud >>> ((8 : Int32) &&& 31))))]) (fm : Value) (hfm : fm = .null ∨ ∃ r, fm = .ref r) (S_fm : Sta Z Z.heap "jdk/internal/util/Preconditions" "SIOOBE_FORMATTER" "Ljava/util/function/BiFunction;" fm) :
    Ctr False l Z own_EL (⟨"java/lang/StringUTF16", "checkIndex", "(I[B)V"⟩ : MethodName) jdk_52_method_91_code 2 none ws ({ frames := 2, cells := 0, slots := 0, locals := 27 } : Room) n0 ([]) #[(.int (Int32.ofNat i)), (.ref r1)] h0 (Rn (fun h g => h0 = h)) := by
  refine Ctr.of (plainFor_of_name pn_java_lang_StringUTF16) hE (fun m => ef_rm19 m (Int32.ofNat i) r1) ?_
  intro p e s m below meth c T0 X0
  have Z0 : Keep h0 h0 [] := Keep.refl _ _
  refine OwnW.iloadN X0 (n := 1) d19_0 rfl rfl ?_
  refine OwnW.aloadN X0 (n := 2) d19_1 rfl rfl rfl ?_
  refine OwnW.call_static_v X0 (z := (⟨"java/lang/StringUTF16", "length", "([B)I"⟩ : MethodName)) (n := 5) d19_2 (hw _ (List.mem_of_getElem? (i := 81) rfl)) (hw _ (List.mem_of_getElem? (i := 82) rfl)) (hw _ (List.mem_of_getElem? (i := 83) rfl)) (hw _ (List.mem_of_getElem? (i := 23) rfl)) (by decide) (rm20 l Z a0 hw hE [] r1 h0 n0 ua ub uc ud A0) OwnW.sf0 (argsL := [(.ref r1)]) (rest := [(.int (Int32.ofNat i))]) rfl rfl (OwnW.lenA pd___B_I rfl) (W := 1) (Nat.le_of_eq rfl) (by decide) (by decide) (by decide) (by decide) rfl ?_
  intro T1 h1 w1 g1 hle1 X1 ⟨q1, q2⟩
  subst q1 q2
  refine OwnW.call_static_n X1 (z := (⟨"java/lang/String", "checkIndex", "(II)V"⟩ : MethodName)) (n := 8) d19_5 (hw _ (List.mem_of_getElem? (i := 84) rfl)) (hw _ (List.mem_of_getElem? (i := 85) rfl)) (hw _ (List.mem_of_getElem? (i := 86) rfl)) (hw _ (List.mem_of_getElem? (i := 9) rfl)) (by decide) (rmCI l Z a0 hw hE [] (Int32.ofNat i) 4 h0 n0 O0 (fun q => by have z := (own_lt (i := i) (n := 0) (by omega) (by omega)).mp q; omega) ((own_lt (i := i) (n := 4) (by omega) (by omega)).mpr (by omega)) fm hfm S_fm) OwnW.sf0 (argsL := [(.int (Int32.ofNat i)), (.int (4 : Int32))]) (rest := []) rfl rfl (OwnW.lenA pd__II_V rfl) (W := 0) (Nat.le_of_eq rfl) (by decide) (by decide) (by decide) (by decide) rfl ?_
  intro T2 h2 g2 hle2 X2 q2
  subst q2
  exact OwnW.vreturn X2 rfl d19_8 rfl (by decide) (by decide)
theorem pd__I_B_V : parseMethodDescriptor "(I[B)V" = some ⟨[.int, (.array .byte)], none⟩ := by decide +kernel
theorem d18_0 : decode jdk_52_method_83_code 0 = .ok (.iload_n 1, 1) := by decide +kernel
theorem d18_1 : decode jdk_52_method_83_code 1 = .ok (.aload_n 0, 1) := by decide +kernel
theorem d18_2 : decode jdk_52_method_83_code 2 = .ok (.invokestatic 67, 3) := by decide +kernel
theorem d18_5 : decode jdk_52_method_83_code 5 = .ok (.aload_n 0, 1) := by decide +kernel
theorem d18_6 : decode jdk_52_method_83_code 6 = .ok (.iload_n 1, 1) := by decide +kernel
theorem d18_7 : decode jdk_52_method_83_code 7 = .ok (.invokestatic 71, 3) := by decide +kernel
theorem d18_10 : decode jdk_52_method_83_code 10 = .ok (.ireturn, 1) := by decide +kernel
theorem ef_rm18 (m : MethodId) (x0 : Addr) (x1 : Int32) : entryFrame m #[(.ref x0), (.int x1)] 2 = mkF m 0 #[.val (.ref x0), .val (.int x1)] [] := by first | (simp [entryFrame, mkF, argsToLocals, Value.category]; done) | rfl
set_option maxRecDepth 65536 in
set_option maxHeartbeats 40000000 in
theorem rm18 (l : Launch) (Z : State) (a0 : Array Value) (hw : ∀ d ∈ tables_1, d.before a0 Z = true) (hE : EW Z a0 own_EL) (ws : List Jvm.Cond) (r0 : Addr) (h0 : Heap) (n0 : Nat) (O0 : Old Z n0 h0) (i : Nat) (hi : i < 4) (ua ub uc ud : Nat) (hua : ua ≤ 65535) (hub : ub ≤ 65535) (huc : uc ≤ 65535) (hud : ud ≤ 65535) (A0 : Ark Z h0 r0 .byte [(.int (lo8 (Int32.ofNat ua >>> ((0 : Int32) &&& 31)))), (.int (lo8 (Int32.ofNat ua >>> ((8 : Int32) &&& 31)))), (.int (lo8 (Int32.ofNat ub >>> ((0 : Int32) &&& 31)))), (.int (lo8 (Int32.ofNat ub >>> ((8 : Int32) &&& 31)))), (.int (lo8 (Int32.ofNat uc >>> ((0 : Int32) &&& 31)))), (.int (lo8 (Int32.ofNat uc >>> ((8 : Int32) &&& 31)))), (.int (lo8 (Int32.ofNat ud >>> ((0 : Int32) &&& 31)))), (.int (lo8 (Int32.ofNat ud >>> ((8 : Int32) &&& 31))))]) (fm : Value) (hfm : fm = .null ∨ ∃ r, fm = .ref r) (S_fm : Sta Z Z.heap "jdk/internal/util/Preconditions" "SIOOBE_FORMATTER" "Ljava/util/function/BiFunction;" fm) (S_ad : Sta Z Z.heap "java/lang/StringUTF16" "$assertionsDisabled" "Z" (.int 1)) (S_hi : Sta Z Z.heap "java/lang/StringUTF16" "HI_BYTE_SHIFT" "I" (.int 0)) (S_lo : Sta Z Z.heap "java/lang/StringUTF16" "LO_BYTE_SHIFT" "I" (.int 8)) :
    Ctr False l Z own_EL (⟨"java/lang/StringUTF16", "charAt", "([BI)C"⟩ : MethodName) jdk_52_method_83_code 2 (some .char) ws ({ frames := 3, cells := 0, slots := 0, locals := 40 } : Room) n0 ([]) #[(.ref r0), (.int (Int32.ofNat i))] h0 (Rt (fun w h g => w = .int (Int32.ofNat (own_k ua ub uc ud i)) ∧ h0 = h)) := by
  refine Ctr.of (plainFor_of_name pn_java_lang_StringUTF16) hE (fun m => ef_rm18 m r0 (Int32.ofNat i)) ?_
  intro p e s m below meth c T0 X0
  have Z0 : Keep h0 h0 [] := Keep.refl _ _
  refine OwnW.iloadN X0 (n := 1) d18_0 rfl rfl ?_
  refine OwnW.aloadN X0 (n := 2) d18_1 rfl rfl rfl ?_
  refine OwnW.call_static_n X0 (z := (⟨"java/lang/StringUTF16", "checkIndex", "(I[B)V"⟩ : MethodName)) (n := 5) d18_2 (hw _ (List.mem_of_getElem? (i := 78) rfl)) (hw _ (List.mem_of_getElem? (i := 79) rfl)) (hw _ (List.mem_of_getElem? (i := 80) rfl)) (hw _ (List.mem_of_getElem? (i := 23) rfl)) (by decide) (rm19 l Z a0 hw hE [] r0 h0 n0 O0 i hi ua ub uc ud A0 fm hfm S_fm) OwnW.sf0 (argsL := [(.int (Int32.ofNat i)), (.ref r0)]) (rest := []) rfl rfl (OwnW.lenA pd__I_B_V rfl) (W := 0) (Nat.le_of_eq rfl) (by decide) (by decide) (by decide) (by decide) rfl ?_
  intro T1 h1 g1 hle1 X1 q2
  subst q2
  refine OwnW.aloadN X1 (n := 6) d18_5 rfl rfl rfl ?_
  refine OwnW.iloadN X1 (n := 7) d18_6 rfl rfl ?_
  refine OwnW.call_static_v X1 (z := (⟨"java/lang/StringUTF16", "getChar", "([BI)C"⟩ : MethodName)) (n := 10) d18_7 (hw _ (List.mem_of_getElem? (i := 56) rfl)) (hw _ (List.mem_of_getElem? (i := 57) rfl)) (hw _ (List.mem_of_getElem? (i := 58) rfl)) (hw _ (List.mem_of_getElem? (i := 23) rfl)) (by decide) (rm13 l Z a0 hw hE [] r0 h0 n0 O0 i (own_k ua ub uc ud i) (by omega) (own_k_le hua hub huc hud i) [(.int (lo8 (Int32.ofNat ua >>> ((0 : Int32) &&& 31)))), (.int (lo8 (Int32.ofNat ua >>> ((8 : Int32) &&& 31)))), (.int (lo8 (Int32.ofNat ub >>> ((0 : Int32) &&& 31)))), (.int (lo8 (Int32.ofNat ub >>> ((8 : Int32) &&& 31)))), (.int (lo8 (Int32.ofNat uc >>> ((0 : Int32) &&& 31)))), (.int (lo8 (Int32.ofNat uc >>> ((8 : Int32) &&& 31)))), (.int (lo8 (Int32.ofNat ud >>> ((0 : Int32) &&& 31)))), (.int (lo8 (Int32.ofNat ud >>> ((8 : Int32) &&& 31))))] (by rcases (by omega : i = 0 ∨ i = 1 ∨ i = 2 ∨ i = 3) with q | q | q | q <;> subst q <;> rfl) (by rcases (by omega : i = 0 ∨ i = 1 ∨ i = 2 ∨ i = 3) with q | q | q | q <;> subst q <;> rfl) A0 S_ad S_hi S_lo) OwnW.sf0 (argsL := [(.ref r0), (.int (Int32.ofNat i))]) (rest := []) rfl rfl (OwnW.lenA pd___BI_C rfl) (W := 0) (Nat.le_of_eq rfl) (by decide) (by decide) (by decide) (by decide) rfl ?_
  intro T2 h2 w2 g2 hle2 X2 ⟨q1, q2⟩
  subst q1 q2
  exact OwnW.ireturnN X2 rfl (Or.inr (Or.inr (Or.inl rfl))) (own_nar16 (own_k_le hua hub huc hud i)) d18_10 ⟨rfl, rfl⟩ (by decide) (by decide)
theorem d16_16 : decode jdk_42_method_56_code 16 = .ok (.aload_n 0, 1) := by decide +kernel
theorem d16_17 : decode jdk_42_method_56_code 17 = .ok (.getfield 9, 3) := by decide +kernel
theorem d16_20 : decode jdk_42_method_56_code 20 = .ok (.iload_n 1, 1) := by decide +kernel
theorem d16_21 : decode jdk_42_method_56_code 21 = .ok (.invokestatic 498, 3) := by decide +kernel
theorem d16_24 : decode jdk_42_method_56_code 24 = .ok (.ireturn, 1) := by decide +kernel
theorem ef_rmCAu (m : MethodId) (x0 : Addr) (x1 : Int32) : entryFrame m #[(.ref x0), (.int x1)] 2 = mkF m 0 #[.val (.ref x0), .val (.int x1)] [] := by first | (simp [entryFrame, mkF, argsToLocals, Value.category]; done) | rfl
set_option maxRecDepth 65536 in
set_option maxHeartbeats 40000000 in
theorem rmCAu (l : Launch) (Z : State) (a0 : Array Value) (hw : ∀ d ∈ tables_1, d.before a0 Z = true) (hE : EW Z a0 own_EL) (ws : List Jvm.Cond) (r0 : Addr) (h0 : Heap) (n0 : Nat) (O0 : Old Z n0 h0) (t : Addr) (ua ub uc ud : Nat) (hua : ua ≤ 65535) (hub : ub ≤ 65535) (huc : uc ≤ 65535) (hud : ud ≤ 65535) (i : Nat) (hi : i < 4) (E0 : Exa Z h0 r0 "java/lang/String") (F2 : Fld Z h0 r0 "java/lang/String" "coder" "B" (.int 1)) (F1 : Fld Z h0 r0 "java/lang/String" "value" "[B" (.ref t)) (A0 : Ark Z h0 t .byte [(.int (lo8 (Int32.ofNat ua >>> ((0 : Int32) &&& 31)))), (.int (lo8 (Int32.ofNat ua >>> ((8 : Int32) &&& 31)))), (.int (lo8 (Int32.ofNat ub >>> ((0 : Int32) &&& 31)))), (.int (lo8 (Int32.ofNat ub >>> ((8 : Int32) &&& 31)))), (.int (lo8 (Int32.ofNat uc >>> ((0 : Int32) &&& 31)))), (.int (lo8 (Int32.ofNat uc >>> ((8 : Int32) &&& 31)))), (.int (lo8 (Int32.ofNat ud >>> ((0 : Int32) &&& 31)))), (.int (lo8 (Int32.ofNat ud >>> ((8 : Int32) &&& 31))))]) (zc : Int32) (hzc : ¬ zc = 0) (S_compact : Sta Z Z.heap "java/lang/String" "COMPACT_STRINGS" "Z" (.int zc)) (fm : Value) (hfm : fm = .null ∨ ∃ r, fm = .ref r) (S_fm : Sta Z Z.heap "jdk/internal/util/Preconditions" "SIOOBE_FORMATTER" "Ljava/util/function/BiFunction;" fm) (S_ad : Sta Z Z.heap "java/lang/StringUTF16" "$assertionsDisabled" "Z" (.int 1)) (S_hi : Sta Z Z.heap "java/lang/StringUTF16" "HI_BYTE_SHIFT" "I" (.int 0)) (S_lo : Sta Z Z.heap "java/lang/StringUTF16" "LO_BYTE_SHIFT" "I" (.int 8)) :
    Ctr False l Z own_EL (⟨"java/lang/String", "charAt", "(I)C"⟩ : MethodName) jdk_42_method_56_code 2 (some .char) ws ({ frames := 4, cells := 0, slots := 0, locals := 53 } : Room) n0 ([]) #[(.ref r0), (.int (Int32.ofNat i))] h0 (Rt (fun w h g => w = .int (Int32.ofNat (own_k ua ub uc ud i)) ∧ h0 = h)) := by
  refine Ctr.of (plainFor_of_name pn_java_lang_String) hE (fun m => ef_rmCAu m r0 (Int32.ofNat i)) ?_
  intro p e s m below meth c T0 X0
  have Z0 : Keep h0 h0 [] := Keep.refl _ _
  refine OwnW.aloadN X0 (n := 1) d16_0 rfl rfl rfl ?_
  refine OwnW.call_virtual_v X0 (z := (⟨"java/lang/String", "isLatin1", "()Z"⟩ : MethodName)) (yv := (⟨"java/lang/String", "isLatin1", "()Z"⟩ : MethodName)) (a := r0) (C := "java/lang/String") (n := 4) d16_1 (hw _ (List.mem_of_getElem? (i := 70) rfl)) (hw _ (List.mem_of_getElem? (i := 71) rfl)) (hw _ (List.mem_of_getElem? (i := 72) rfl)) (hw _ (List.mem_of_getElem? (i := 73) rfl)) (fun hz => notFace_of_selects (args := #[]) (mvT hz (hw _ (List.mem_of_getElem? (i := 73) rfl)))) (hw _ (List.mem_of_getElem? (i := 74) rfl)) (hw _ (List.mem_of_getElem? (i := 9) rfl)) (by decide) E0 (rmIL1 l Z a0 hw hE [] r0 h0 n0 O0 F2 zc hzc S_compact) OwnW.sf0 (argsL := []) (rest := []) rfl rfl (OwnW.lenA pd___Z rfl) (W := 0) (Nat.le_of_eq rfl) (by decide) (by decide) (by decide) (by decide) rfl ?_
  intro T1 h1 w1 g1 hle1 X1 ⟨q1, q2⟩
  subst q1 q2
  refine OwnW.if_eq X1  (n1 := 16) (n2 := 7) d16_4 (by decide) rfl rfl (fun _ => ?_) (fun q => absurd ((by decide) : (0 : Int32) = 0) q)
  refine OwnW.aloadN X1 (n := 17) d16_16 rfl rfl rfl ?_
  refine OwnW.getfield X1 (n := 20) d16_17 (hw _ (List.mem_of_getElem? (i := 34) rfl)) Via.refl F1 rfl ?_
  intro T2 X2
  refine OwnW.iloadN X2 (n := 21) d16_20 rfl rfl ?_
  refine OwnW.call_static_v X2 (z := (⟨"java/lang/StringUTF16", "charAt", "([BI)C"⟩ : MethodName)) (n := 24) d16_21 (hw _ (List.mem_of_getElem? (i := 75) rfl)) (hw _ (List.mem_of_getElem? (i := 76) rfl)) (hw _ (List.mem_of_getElem? (i := 77) rfl)) (hw _ (List.mem_of_getElem? (i := 23) rfl)) (by decide) (rm18 l Z a0 hw hE [] t h0 n0 O0 i hi ua ub uc ud hua hub huc hud A0 fm hfm S_fm S_ad S_hi S_lo) OwnW.sf0 (argsL := [(.ref t), (.int (Int32.ofNat i))]) (rest := []) rfl rfl (OwnW.lenA pd___BI_C rfl) (W := 0) (Nat.le_of_eq rfl) (by decide) (by decide) (by decide) (by decide) rfl ?_
  intro T3 h3 w3 g3 hle3 X3 ⟨q1, q2⟩
  subst q1 q2
  exact OwnW.ireturnN X3 rfl (Or.inr (Or.inr (Or.inl rfl))) (own_nar16 (own_k_le hua hub huc hud i)) d16_24 ⟨rfl, rfl⟩ (by decide) (by decide)
theorem rmCA (l : Launch) (Z : State) (a0 : Array Value) (hw : ∀ d ∈ tables_1, d.before a0 Z = true) (hE : EW Z a0 own_EL) (ws : List Jvm.Cond) (r0 : Addr) (h0 : Heap) (n0 : Nat) (O0 : Old Z n0 h0) (t : Addr) (ua ub uc ud : Nat) (hua : ua ≤ 65535) (hub : ub ≤ 65535) (huc : uc ≤ 65535) (hud : ud ≤ 65535) (i : Nat) (hi : i < 4) (S0 : own_S Z h0 r0 t ua ub uc ud) (zc : Int32) (hzc : ¬ zc = 0) (S_compact : Sta Z Z.heap "java/lang/String" "COMPACT_STRINGS" "Z" (.int zc)) (fm : Value) (hfm : fm = .null ∨ ∃ r, fm = .ref r) (S_fm : Sta Z Z.heap "jdk/internal/util/Preconditions" "SIOOBE_FORMATTER" "Ljava/util/function/BiFunction;" fm) (S_ad : Sta Z Z.heap "java/lang/StringUTF16" "$assertionsDisabled" "Z" (.int 1)) (S_hi : Sta Z Z.heap "java/lang/StringUTF16" "HI_BYTE_SHIFT" "I" (.int 0)) (S_lo : Sta Z Z.heap "java/lang/StringUTF16" "LO_BYTE_SHIFT" "I" (.int 8)) : Ctr False l Z own_EL (⟨"java/lang/String", "charAt", "(I)C"⟩ : MethodName) jdk_42_method_56_code 2 (some .char) ws ({ frames := 4, cells := 0, slots := 0, locals := 53 } : Room) n0 [] #[(.ref r0), (.int (Int32.ofNat i))] h0 (Rt (fun w h g => w = .int (Int32.ofNat (own_k ua ub uc ud i)) ∧ h0 = h)) := by
  rcases S0 with ⟨⟨qa, qb, qc, qd⟩, S⟩ | ⟨E, F2, F1, A⟩
  · have z := rm16 l Z a0 hw hE ws r0 h0 n0 O0 t [Int32.ofNat ua, Int32.ofNat ub, Int32.ofNat uc, Int32.ofNat ud] i (by simpa using hi) S zc hzc S_compact fm hfm S_fm
    have e : (([Int32.ofNat ua, Int32.ofNat ub, Int32.ofNat uc, Int32.ofNat ud].map lo8).getD i 0 &&& 255).toUInt32.toUInt16.toUInt32.toInt32 = Int32.ofNat (own_k ua ub uc ud i) := by
      rcases (by omega : i = 0 ∨ i = 1 ∨ i = 2 ∨ i = 3) with q | q | q | q <;> subst q
      · exact own_lat16 qa
      · exact own_lat16 qb
      · exact own_lat16 qc
      · exact own_lat16 qd
    rw [e] at z
    exact z
  · exact rmCAu l Z a0 hw hE ws r0 h0 n0 O0 t ua ub uc ud hua hub huc hud i hi E F2 F1 A zc hzc S_compact fm hfm S_fm S_ad S_hi S_lo
theorem own_tokA : (own_tok.map lo8).map Value.int = [(.int (33 : Int32)), (.int (35 : Int32)), (.int (36 : Int32)), (.int (37 : Int32)), (.int (38 : Int32)), (.int (39 : Int32)), (.int (42 : Int32)), (.int (43 : Int32)), (.int (45 : Int32)), (.int (46 : Int32)), (.int (94 : Int32)), (.int (95 : Int32)), (.int (96 : Int32)), (.int (124 : Int32)), (.int (126 : Int32))] := by decide +kernel
theorem d28_0 : decode jdk_43_method_4_code 0 = .ok (.iload_n 0, 1) := by decide +kernel
theorem d28_1 : decode jdk_43_method_4_code 1 = .ok (.ifCond .lt 14, 3) := by decide +kernel
theorem d28_4 : decode jdk_43_method_4_code 4 = .ok (.iload_n 0, 1) := by decide +kernel
theorem d28_5 : decode jdk_43_method_4_code 5 = .ok (.sipush 255, 3) := by decide +kernel
theorem d28_8 : decode jdk_43_method_4_code 8 = .ok (.if_icmp .gt 7, 3) := by decide +kernel
theorem d28_11 : decode jdk_43_method_4_code 11 = .ok (.iconst 1, 1) := by decide +kernel
theorem d28_12 : decode jdk_43_method_4_code 12 = .ok (.goto 4, 3) := by decide +kernel
theorem d28_15 : decode jdk_43_method_4_code 15 = .ok (.iconst 0, 1) := by decide +kernel
theorem d28_16 : decode jdk_43_method_4_code 16 = .ok (.ireturn, 1) := by decide +kernel
theorem ef_rm28 (m : MethodId) (x0 : Int32) : entryFrame m #[(.int x0)] 1 = mkF m 0 #[.val (.int x0)] [] := by first | (simp [entryFrame, mkF, argsToLocals, Value.category]; done) | rfl
set_option maxRecDepth 65536 in
set_option maxHeartbeats 40000000 in
theorem rm28 (l : Launch) (Z : State) (a0 : Array Value) (hw : ∀ d ∈ tables_1, d.before a0 Z = true) (hE : EW Z a0 own_EL) (ws : List Jvm.Cond)  (h0 : Heap) (n0 : Nat) (cn : Nat) (hcn : cn ≤ 65535) :
    Ctr False l Z own_EL (⟨"java/lang/StringLatin1", "canEncode", "(I)Z"⟩ : MethodName) jdk_43_method_4_code 1 (some .boolean) ws ({ frames := 0, cells := 0, slots := 0, locals := 0 } : Room) n0 ([]) #[(.int (Int32.ofNat cn))] h0 (Rt (fun w h g => ((cn ≤ 255 ∧ w = .int 1) ∨ (255 < cn ∧ w = .int 0)) ∧ h0 = h)) := by
  refine Ctr.of (plainFor_of_name pn_java_lang_StringLatin1) hE (fun m => ef_rm28 m (Int32.ofNat cn)) ?_
  intro p e s m below meth c T0 X0
  refine OwnW.iloadN X0 (n := 1) d28_0 rfl rfl ?_
  refine OwnW.if_lt X0  (n1 := 15) (n2 := 4) d28_1 (by decide) rfl rfl (fun hc1 => ?_) (fun hc1 => ?_)
  · have kk1 : cn < 0 := (own_lt (i := cn) (n := 0) (by omega) (by omega)).mp hc1
    refine OwnW.iconst X0 (z := (0 : Int32)) (n := 16) d28_15 rfl rfl ?_
    exact OwnW.ireturn X0 rfl (Or.inr (Or.inl rfl)) rfl d28_16 ⟨Or.inr ⟨by omega, rfl⟩, rfl⟩ (by decide) (by decide)
  · have kk2 : ¬ cn < 0 := fun q => hc1 ((own_lt (i := cn) (n := 0) (by omega) (by omega)).mpr q)
    refine OwnW.iloadN X0 (n := 5) d28_4 rfl rfl ?_
    refine OwnW.sipush X0 (z := (255 : Int32)) (n := 8) d28_5 rfl rfl ?_
    refine OwnW.ic_gt X0  (n1 := 15) (n2 := 11) d28_8 (by decide) rfl rfl (fun hc8 => ?_) (fun hc8 => ?_)
    · have kk3 : 255 < cn := (own_lt (i := 255) (n := cn) (by omega) (by omega)).mp hc8
      refine OwnW.iconst X0 (z := (0 : Int32)) (n := 16) d28_15 rfl rfl ?_
      exact OwnW.ireturn X0 rfl (Or.inr (Or.inl rfl)) rfl d28_16 ⟨Or.inr ⟨by omega, rfl⟩, rfl⟩ (by decide) (by decide)
    · have kk4 : ¬ 255 < cn := fun q => hc8 ((own_lt (i := 255) (n := cn) (by omega) (by omega)).mpr q)
      refine OwnW.iconst X0 (z := (1 : Int32)) (n := 12) d28_11 rfl rfl ?_
      refine OwnW.goto X0 (n := 16) d28_12 (by decide) rfl ?_
      exact OwnW.ireturn X0 rfl (Or.inr (Or.inl rfl)) rfl d28_16 ⟨Or.inl ⟨by omega, rfl⟩, rfl⟩ (by decide) (by decide)
theorem pf_java_lang_Math_max__II_I : plainFor (⟨"java/lang/Math", "max", "(II)I"⟩ : MethodName) = true := by decide +kernel
theorem d29_0 : decode jdk_29_method_65_code 0 = .ok (.iload_n 0, 1) := by decide +kernel
theorem d29_1 : decode jdk_29_method_65_code 1 = .ok (.iload_n 1, 1) := by decide +kernel
theorem d29_2 : decode jdk_29_method_65_code 2 = .ok (.if_icmp .lt 7, 3) := by decide +kernel
theorem d29_5 : decode jdk_29_method_65_code 5 = .ok (.iload_n 0, 1) := by decide +kernel
theorem d29_6 : decode jdk_29_method_65_code 6 = .ok (.goto 4, 3) := by decide +kernel
theorem d29_10 : decode jdk_29_method_65_code 10 = .ok (.ireturn, 1) := by decide +kernel
theorem ef_rm29 (m : MethodId)  : entryFrame m #[(.int (0 : Int32)), (.int (0 : Int32))] 2 = mkF m 0 #[.val (.int (0 : Int32)), .val (.int (0 : Int32))] [] := by first | (simp [entryFrame, mkF, argsToLocals, Value.category]; done) | rfl
set_option maxRecDepth 65536 in
set_option maxHeartbeats 40000000 in
theorem rm29 (l : Launch) (Z : State) (a0 : Array Value) (hw : ∀ d ∈ tables_1, d.before a0 Z = true) (hE : EW Z a0 own_EL) (ws : List Jvm.Cond)  (h0 : Heap) (n0 : Nat)  :
    Ctr False l Z own_EL (⟨"java/lang/Math", "max", "(II)I"⟩ : MethodName) jdk_29_method_65_code 2 (some .int) ws ({ frames := 0, cells := 0, slots := 0, locals := 0 } : Room) n0 ([]) #[(.int (0 : Int32)), (.int (0 : Int32))] h0 (Rt (fun w h g => w = .int 0 ∧ h0 = h)) := by
  refine Ctr.of pf_java_lang_Math_max__II_I hE (fun m => ef_rm29 m ) ?_
  intro p e s m below meth c T0 X0
  refine OwnW.iloadN X0 (n := 1) d29_0 rfl rfl ?_
  refine OwnW.iloadN X0 (n := 2) d29_1 rfl rfl ?_
  refine OwnW.ic_lt X0  (n1 := 9) (n2 := 5) d29_2 (by decide) rfl rfl (fun q => absurd q ((by decide) : ¬ (0 : Int32) < (0 : Int32))) (fun _ => ?_)
  refine OwnW.iloadN X0 (n := 6) d29_5 rfl rfl ?_
  refine OwnW.goto X0 (n := 10) d29_6 (by decide) rfl ?_
  exact OwnW.ireturn X0 rfl (Or.inl rfl) rfl d29_10 ⟨rfl, rfl⟩ (by decide) (by decide)
theorem pf_java_lang_Math_min__II_I : plainFor (⟨"java/lang/Math", "min", "(II)I"⟩ : MethodName) = true := by decide +kernel
theorem d30_0 : decode jdk_29_method_69_code 0 = .ok (.iload_n 0, 1) := by decide +kernel
theorem d30_1 : decode jdk_29_method_69_code 1 = .ok (.iload_n 1, 1) := by decide +kernel
theorem d30_2 : decode jdk_29_method_69_code 2 = .ok (.if_icmp .gt 7, 3) := by decide +kernel
theorem d30_5 : decode jdk_29_method_69_code 5 = .ok (.iload_n 0, 1) := by decide +kernel
theorem d30_6 : decode jdk_29_method_69_code 6 = .ok (.goto 4, 3) := by decide +kernel
theorem d30_10 : decode jdk_29_method_69_code 10 = .ok (.ireturn, 1) := by decide +kernel
theorem ef_rm30 (m : MethodId)  : entryFrame m #[(.int (15 : Int32)), (.int (15 : Int32))] 2 = mkF m 0 #[.val (.int (15 : Int32)), .val (.int (15 : Int32))] [] := by first | (simp [entryFrame, mkF, argsToLocals, Value.category]; done) | rfl
set_option maxRecDepth 65536 in
set_option maxHeartbeats 40000000 in
theorem rm30 (l : Launch) (Z : State) (a0 : Array Value) (hw : ∀ d ∈ tables_1, d.before a0 Z = true) (hE : EW Z a0 own_EL) (ws : List Jvm.Cond)  (h0 : Heap) (n0 : Nat)  :
    Ctr False l Z own_EL (⟨"java/lang/Math", "min", "(II)I"⟩ : MethodName) jdk_29_method_69_code 2 (some .int) ws ({ frames := 0, cells := 0, slots := 0, locals := 0 } : Room) n0 ([]) #[(.int (15 : Int32)), (.int (15 : Int32))] h0 (Rt (fun w h g => w = .int 15 ∧ h0 = h)) := by
  refine Ctr.of pf_java_lang_Math_min__II_I hE (fun m => ef_rm30 m ) ?_
  intro p e s m below meth c T0 X0
  refine OwnW.iloadN X0 (n := 1) d30_0 rfl rfl ?_
  refine OwnW.iloadN X0 (n := 2) d30_1 rfl rfl ?_
  refine OwnW.ic_gt X0  (n1 := 9) (n2 := 5) d30_2 (by decide) rfl rfl (fun q => absurd q ((by decide) : ¬ (15 : Int32) < (15 : Int32))) (fun _ => ?_)
  refine OwnW.iloadN X0 (n := 6) d30_5 rfl rfl ?_
  refine OwnW.goto X0 (n := 10) d30_6 (by decide) rfl ?_
  exact OwnW.ireturn X0 rfl (Or.inl rfl) rfl d30_10 ⟨rfl, rfl⟩ (by decide) (by decide)
theorem d31_0 : decode jdk_43_method_23_code 0 = .ok (.iload_n 1, 1) := by decide +kernel
theorem d31_1 : decode jdk_43_method_23_code 1 = .ok (.i2b, 1) := by decide +kernel
theorem d31_2 : decode jdk_43_method_23_code 2 = .ok (.istore 4, 2) := by decide +kernel
theorem d31_4 : decode jdk_43_method_23_code 4 = .ok (.iload_n 2, 1) := by decide +kernel
theorem d31_5 : decode jdk_43_method_23_code 5 = .ok (.istore 5, 2) := by decide +kernel
theorem d31_7 : decode jdk_43_method_23_code 7 = .ok (.iload 5, 2) := by decide +kernel
theorem d31_9 : decode jdk_43_method_23_code 9 = .ok (.iload_n 3, 1) := by decide +kernel
theorem d31_10 : decode jdk_43_method_23_code 10 = .ok (.if_icmp .ge 21, 3) := by decide +kernel
theorem d31_13 : decode jdk_43_method_23_code 13 = .ok (.aload_n 0, 1) := by decide +kernel
theorem d31_14 : decode jdk_43_method_23_code 14 = .ok (.iload 5, 2) := by decide +kernel
theorem d31_16 : decode jdk_43_method_23_code 16 = .ok (.baload, 1) := by decide +kernel
theorem d31_17 : decode jdk_43_method_23_code 17 = .ok (.iload 4, 2) := by decide +kernel
theorem d31_19 : decode jdk_43_method_23_code 19 = .ok (.if_icmp .ne 6, 3) := by decide +kernel
theorem d31_22 : decode jdk_43_method_23_code 22 = .ok (.iload 5, 2) := by decide +kernel
theorem d31_24 : decode jdk_43_method_23_code 24 = .ok (.ireturn, 1) := by decide +kernel
theorem d31_25 : decode jdk_43_method_23_code 25 = .ok (.iinc 5 1, 3) := by decide +kernel
theorem d31_28 : decode jdk_43_method_23_code 28 = .ok (.goto (-21), 3) := by decide +kernel
theorem d31_31 : decode jdk_43_method_23_code 31 = .ok (.iconst (-1), 1) := by decide +kernel
theorem d31_32 : decode jdk_43_method_23_code 32 = .ok (.ireturn, 1) := by decide +kernel
theorem ef_rm31 (m : MethodId) (x0 : Addr) (x1 : Int32) : entryFrame m #[(.ref x0), (.int x1), (.int (0 : Int32)), (.int (15 : Int32))] 6 = mkF m 0 #[.val (.ref x0), .val (.int x1), .val (.int (0 : Int32)), .val (.int (15 : Int32)), .unset, .unset] [] := by first | (simp [entryFrame, mkF, argsToLocals, Value.category]; done) | rfl
set_option maxRecDepth 65536 in
set_option maxHeartbeats 40000000 in
theorem rm31 (l : Launch) (Z : State) (a0 : Array Value) (hw : ∀ d ∈ tables_1, d.before a0 Z = true) (hE : EW Z a0 own_EL) (ws : List Jvm.Cond) (r0 : Addr) (h0 : Heap) (n0 : Nat) (cn : Nat) (hcn : cn ≤ 255) (A0 : Ark Z h0 r0 .byte [(.int (33 : Int32)), (.int (35 : Int32)), (.int (36 : Int32)), (.int (37 : Int32)), (.int (38 : Int32)), (.int (39 : Int32)), (.int (42 : Int32)), (.int (43 : Int32)), (.int (45 : Int32)), (.int (46 : Int32)), (.int (94 : Int32)), (.int (95 : Int32)), (.int (96 : Int32)), (.int (124 : Int32)), (.int (126 : Int32))]) :
    Ctr False l Z own_EL (⟨"java/lang/StringLatin1", "indexOfChar", "([BIII)I"⟩ : MethodName) jdk_43_method_23_code 6 (some .int) ws ({ frames := 0, cells := 0, slots := 0, locals := 0 } : Room) n0 ([]) #[(.ref r0), (.int (Int32.ofNat cn)), (.int (0 : Int32)), (.int (15 : Int32))] h0 (Rt (fun w h g => ((cn ∈ own_toks ∧ ∃ z, w = .int z ∧ ¬ z < 0) ∨ (¬ cn ∈ own_toks ∧ ∃ z, w = .int z ∧ z < 0)) ∧ h0 = h)) := by
  refine Ctr.of (plainFor_of_name pn_java_lang_StringLatin1) hE (fun m => ef_rm31 m r0 (Int32.ofNat cn)) ?_
  intro p e s m below meth c T0 X0
  refine OwnW.iloadN X0 (n := 1) d31_0 rfl rfl ?_
  refine OwnW.i2b X0 (n := 2) d31_1 rfl ?_
  refine OwnW.istore X0 (l' := #[.val (.ref r0), .val (.int (Int32.ofNat cn)), .val (.int (0 : Int32)), .val (.int (15 : Int32)), .val (.int ((Int32.ofNat cn).toInt8.toInt32)), .unset]) (n := 4) d31_2 rfl rfl ?_
  refine OwnW.iloadN X0 (n := 5) d31_4 rfl rfl ?_
  refine OwnW.istore X0 (l' := #[.val (.ref r0), .val (.int (Int32.ofNat cn)), .val (.int (0 : Int32)), .val (.int (15 : Int32)), .val (.int ((Int32.ofNat cn).toInt8.toInt32)), .val (.int (0 : Int32))]) (n := 7) d31_5 rfl rfl ?_
  refine OwnW.iload X0 (n := 9) d31_7 rfl rfl ?_
  refine OwnW.iloadN X0 (n := 10) d31_9 rfl rfl ?_
  refine OwnW.ic_ge X0  (n1 := 31) (n2 := 13) d31_10 (by decide) rfl rfl (fun q => absurd ((by decide) : (0 : Int32) < (15 : Int32)) q) (fun _ => ?_)
  refine OwnW.aloadN X0 (n := 14) d31_13 rfl rfl rfl ?_
  refine OwnW.iload X0 (n := 16) d31_14 rfl rfl ?_
  refine OwnW.baload X0 (i := 0) (v := (.int (33 : Int32))) (n := 17) d31_16 A0 rfl rfl rfl ?_
  refine OwnW.iload X0 (n := 19) d31_17 rfl rfl ?_
  refine OwnW.ic_ne X0  (n1 := 25) (n2 := 22) d31_19 (by decide) rfl rfl (fun hc19 => ?_) (fun hc19 => ?_)
  · have kk1 : ¬ cn = 33 := fun q => hc19 ((own_byte22 hcn 33 (by decide)).mpr q).symm
    refine OwnW.iinc X0 (z := (1 : Int32)) (u := (1 : Int32)) (l' := #[.val (.ref r0), .val (.int (Int32.ofNat cn)), .val (.int (0 : Int32)), .val (.int (15 : Int32)), .val (.int ((Int32.ofNat cn).toInt8.toInt32)), .val (.int (1 : Int32))]) (n := 28) d31_25 rfl rfl rfl rfl rfl ?_
    refine OwnW.goto X0 (n := 7) d31_28 (by decide) rfl ?_
    refine OwnW.iload X0 (n := 9) d31_7 rfl rfl ?_
    refine OwnW.iloadN X0 (n := 10) d31_9 rfl rfl ?_
    refine OwnW.ic_ge X0  (n1 := 31) (n2 := 13) d31_10 (by decide) rfl rfl (fun q => absurd ((by decide) : (1 : Int32) < (15 : Int32)) q) (fun _ => ?_)
    refine OwnW.aloadN X0 (n := 14) d31_13 rfl rfl rfl ?_
    refine OwnW.iload X0 (n := 16) d31_14 rfl rfl ?_
    refine OwnW.baload X0 (i := 1) (v := (.int (35 : Int32))) (n := 17) d31_16 A0 rfl rfl rfl ?_
    refine OwnW.iload X0 (n := 19) d31_17 rfl rfl ?_
    refine OwnW.ic_ne X0  (n1 := 25) (n2 := 22) d31_19 (by decide) rfl rfl (fun hc19_2 => ?_) (fun hc19_2 => ?_)
    · have kk3 : ¬ cn = 35 := fun q => hc19_2 ((own_byte22 hcn 35 (by decide)).mpr q).symm
      refine OwnW.iinc X0 (z := (1 : Int32)) (u := (2 : Int32)) (l' := #[.val (.ref r0), .val (.int (Int32.ofNat cn)), .val (.int (0 : Int32)), .val (.int (15 : Int32)), .val (.int ((Int32.ofNat cn).toInt8.toInt32)), .val (.int (2 : Int32))]) (n := 28) d31_25 rfl rfl rfl rfl rfl ?_
      refine OwnW.goto X0 (n := 7) d31_28 (by decide) rfl ?_
      refine OwnW.iload X0 (n := 9) d31_7 rfl rfl ?_
      refine OwnW.iloadN X0 (n := 10) d31_9 rfl rfl ?_
      refine OwnW.ic_ge X0  (n1 := 31) (n2 := 13) d31_10 (by decide) rfl rfl (fun q => absurd ((by decide) : (2 : Int32) < (15 : Int32)) q) (fun _ => ?_)
      refine OwnW.aloadN X0 (n := 14) d31_13 rfl rfl rfl ?_
      refine OwnW.iload X0 (n := 16) d31_14 rfl rfl ?_
      refine OwnW.baload X0 (i := 2) (v := (.int (36 : Int32))) (n := 17) d31_16 A0 rfl rfl rfl ?_
      refine OwnW.iload X0 (n := 19) d31_17 rfl rfl ?_
      refine OwnW.ic_ne X0  (n1 := 25) (n2 := 22) d31_19 (by decide) rfl rfl (fun hc19_4 => ?_) (fun hc19_4 => ?_)
      · have kk5 : ¬ cn = 36 := fun q => hc19_4 ((own_byte22 hcn 36 (by decide)).mpr q).symm
        refine OwnW.iinc X0 (z := (1 : Int32)) (u := (3 : Int32)) (l' := #[.val (.ref r0), .val (.int (Int32.ofNat cn)), .val (.int (0 : Int32)), .val (.int (15 : Int32)), .val (.int ((Int32.ofNat cn).toInt8.toInt32)), .val (.int (3 : Int32))]) (n := 28) d31_25 rfl rfl rfl rfl rfl ?_
        refine OwnW.goto X0 (n := 7) d31_28 (by decide) rfl ?_
        refine OwnW.iload X0 (n := 9) d31_7 rfl rfl ?_
        refine OwnW.iloadN X0 (n := 10) d31_9 rfl rfl ?_
        refine OwnW.ic_ge X0  (n1 := 31) (n2 := 13) d31_10 (by decide) rfl rfl (fun q => absurd ((by decide) : (3 : Int32) < (15 : Int32)) q) (fun _ => ?_)
        refine OwnW.aloadN X0 (n := 14) d31_13 rfl rfl rfl ?_
        refine OwnW.iload X0 (n := 16) d31_14 rfl rfl ?_
        refine OwnW.baload X0 (i := 3) (v := (.int (37 : Int32))) (n := 17) d31_16 A0 rfl rfl rfl ?_
        refine OwnW.iload X0 (n := 19) d31_17 rfl rfl ?_
        refine OwnW.ic_ne X0  (n1 := 25) (n2 := 22) d31_19 (by decide) rfl rfl (fun hc19_6 => ?_) (fun hc19_6 => ?_)
        · have kk7 : ¬ cn = 37 := fun q => hc19_6 ((own_byte22 hcn 37 (by decide)).mpr q).symm
          refine OwnW.iinc X0 (z := (1 : Int32)) (u := (4 : Int32)) (l' := #[.val (.ref r0), .val (.int (Int32.ofNat cn)), .val (.int (0 : Int32)), .val (.int (15 : Int32)), .val (.int ((Int32.ofNat cn).toInt8.toInt32)), .val (.int (4 : Int32))]) (n := 28) d31_25 rfl rfl rfl rfl rfl ?_
          refine OwnW.goto X0 (n := 7) d31_28 (by decide) rfl ?_
          refine OwnW.iload X0 (n := 9) d31_7 rfl rfl ?_
          refine OwnW.iloadN X0 (n := 10) d31_9 rfl rfl ?_
          refine OwnW.ic_ge X0  (n1 := 31) (n2 := 13) d31_10 (by decide) rfl rfl (fun q => absurd ((by decide) : (4 : Int32) < (15 : Int32)) q) (fun _ => ?_)
          refine OwnW.aloadN X0 (n := 14) d31_13 rfl rfl rfl ?_
          refine OwnW.iload X0 (n := 16) d31_14 rfl rfl ?_
          refine OwnW.baload X0 (i := 4) (v := (.int (38 : Int32))) (n := 17) d31_16 A0 rfl rfl rfl ?_
          refine OwnW.iload X0 (n := 19) d31_17 rfl rfl ?_
          refine OwnW.ic_ne X0  (n1 := 25) (n2 := 22) d31_19 (by decide) rfl rfl (fun hc19_8 => ?_) (fun hc19_8 => ?_)
          · have kk9 : ¬ cn = 38 := fun q => hc19_8 ((own_byte22 hcn 38 (by decide)).mpr q).symm
            refine OwnW.iinc X0 (z := (1 : Int32)) (u := (5 : Int32)) (l' := #[.val (.ref r0), .val (.int (Int32.ofNat cn)), .val (.int (0 : Int32)), .val (.int (15 : Int32)), .val (.int ((Int32.ofNat cn).toInt8.toInt32)), .val (.int (5 : Int32))]) (n := 28) d31_25 rfl rfl rfl rfl rfl ?_
            refine OwnW.goto X0 (n := 7) d31_28 (by decide) rfl ?_
            refine OwnW.iload X0 (n := 9) d31_7 rfl rfl ?_
            refine OwnW.iloadN X0 (n := 10) d31_9 rfl rfl ?_
            refine OwnW.ic_ge X0  (n1 := 31) (n2 := 13) d31_10 (by decide) rfl rfl (fun q => absurd ((by decide) : (5 : Int32) < (15 : Int32)) q) (fun _ => ?_)
            refine OwnW.aloadN X0 (n := 14) d31_13 rfl rfl rfl ?_
            refine OwnW.iload X0 (n := 16) d31_14 rfl rfl ?_
            refine OwnW.baload X0 (i := 5) (v := (.int (39 : Int32))) (n := 17) d31_16 A0 rfl rfl rfl ?_
            refine OwnW.iload X0 (n := 19) d31_17 rfl rfl ?_
            refine OwnW.ic_ne X0  (n1 := 25) (n2 := 22) d31_19 (by decide) rfl rfl (fun hc19_10 => ?_) (fun hc19_10 => ?_)
            · have kk11 : ¬ cn = 39 := fun q => hc19_10 ((own_byte22 hcn 39 (by decide)).mpr q).symm
              refine OwnW.iinc X0 (z := (1 : Int32)) (u := (6 : Int32)) (l' := #[.val (.ref r0), .val (.int (Int32.ofNat cn)), .val (.int (0 : Int32)), .val (.int (15 : Int32)), .val (.int ((Int32.ofNat cn).toInt8.toInt32)), .val (.int (6 : Int32))]) (n := 28) d31_25 rfl rfl rfl rfl rfl ?_
              refine OwnW.goto X0 (n := 7) d31_28 (by decide) rfl ?_
              refine OwnW.iload X0 (n := 9) d31_7 rfl rfl ?_
              refine OwnW.iloadN X0 (n := 10) d31_9 rfl rfl ?_
              refine OwnW.ic_ge X0  (n1 := 31) (n2 := 13) d31_10 (by decide) rfl rfl (fun q => absurd ((by decide) : (6 : Int32) < (15 : Int32)) q) (fun _ => ?_)
              refine OwnW.aloadN X0 (n := 14) d31_13 rfl rfl rfl ?_
              refine OwnW.iload X0 (n := 16) d31_14 rfl rfl ?_
              refine OwnW.baload X0 (i := 6) (v := (.int (42 : Int32))) (n := 17) d31_16 A0 rfl rfl rfl ?_
              refine OwnW.iload X0 (n := 19) d31_17 rfl rfl ?_
              refine OwnW.ic_ne X0  (n1 := 25) (n2 := 22) d31_19 (by decide) rfl rfl (fun hc19_12 => ?_) (fun hc19_12 => ?_)
              · have kk13 : ¬ cn = 42 := fun q => hc19_12 ((own_byte22 hcn 42 (by decide)).mpr q).symm
                refine OwnW.iinc X0 (z := (1 : Int32)) (u := (7 : Int32)) (l' := #[.val (.ref r0), .val (.int (Int32.ofNat cn)), .val (.int (0 : Int32)), .val (.int (15 : Int32)), .val (.int ((Int32.ofNat cn).toInt8.toInt32)), .val (.int (7 : Int32))]) (n := 28) d31_25 rfl rfl rfl rfl rfl ?_
                refine OwnW.goto X0 (n := 7) d31_28 (by decide) rfl ?_
                refine OwnW.iload X0 (n := 9) d31_7 rfl rfl ?_
                refine OwnW.iloadN X0 (n := 10) d31_9 rfl rfl ?_
                refine OwnW.ic_ge X0  (n1 := 31) (n2 := 13) d31_10 (by decide) rfl rfl (fun q => absurd ((by decide) : (7 : Int32) < (15 : Int32)) q) (fun _ => ?_)
                refine OwnW.aloadN X0 (n := 14) d31_13 rfl rfl rfl ?_
                refine OwnW.iload X0 (n := 16) d31_14 rfl rfl ?_
                refine OwnW.baload X0 (i := 7) (v := (.int (43 : Int32))) (n := 17) d31_16 A0 rfl rfl rfl ?_
                refine OwnW.iload X0 (n := 19) d31_17 rfl rfl ?_
                refine OwnW.ic_ne X0  (n1 := 25) (n2 := 22) d31_19 (by decide) rfl rfl (fun hc19_14 => ?_) (fun hc19_14 => ?_)
                · have kk15 : ¬ cn = 43 := fun q => hc19_14 ((own_byte22 hcn 43 (by decide)).mpr q).symm
                  refine OwnW.iinc X0 (z := (1 : Int32)) (u := (8 : Int32)) (l' := #[.val (.ref r0), .val (.int (Int32.ofNat cn)), .val (.int (0 : Int32)), .val (.int (15 : Int32)), .val (.int ((Int32.ofNat cn).toInt8.toInt32)), .val (.int (8 : Int32))]) (n := 28) d31_25 rfl rfl rfl rfl rfl ?_
                  refine OwnW.goto X0 (n := 7) d31_28 (by decide) rfl ?_
                  refine OwnW.iload X0 (n := 9) d31_7 rfl rfl ?_
                  refine OwnW.iloadN X0 (n := 10) d31_9 rfl rfl ?_
                  refine OwnW.ic_ge X0  (n1 := 31) (n2 := 13) d31_10 (by decide) rfl rfl (fun q => absurd ((by decide) : (8 : Int32) < (15 : Int32)) q) (fun _ => ?_)
                  refine OwnW.aloadN X0 (n := 14) d31_13 rfl rfl rfl ?_
                  refine OwnW.iload X0 (n := 16) d31_14 rfl rfl ?_
                  refine OwnW.baload X0 (i := 8) (v := (.int (45 : Int32))) (n := 17) d31_16 A0 rfl rfl rfl ?_
                  refine OwnW.iload X0 (n := 19) d31_17 rfl rfl ?_
                  refine OwnW.ic_ne X0  (n1 := 25) (n2 := 22) d31_19 (by decide) rfl rfl (fun hc19_16 => ?_) (fun hc19_16 => ?_)
                  · have kk17 : ¬ cn = 45 := fun q => hc19_16 ((own_byte22 hcn 45 (by decide)).mpr q).symm
                    refine OwnW.iinc X0 (z := (1 : Int32)) (u := (9 : Int32)) (l' := #[.val (.ref r0), .val (.int (Int32.ofNat cn)), .val (.int (0 : Int32)), .val (.int (15 : Int32)), .val (.int ((Int32.ofNat cn).toInt8.toInt32)), .val (.int (9 : Int32))]) (n := 28) d31_25 rfl rfl rfl rfl rfl ?_
                    refine OwnW.goto X0 (n := 7) d31_28 (by decide) rfl ?_
                    refine OwnW.iload X0 (n := 9) d31_7 rfl rfl ?_
                    refine OwnW.iloadN X0 (n := 10) d31_9 rfl rfl ?_
                    refine OwnW.ic_ge X0  (n1 := 31) (n2 := 13) d31_10 (by decide) rfl rfl (fun q => absurd ((by decide) : (9 : Int32) < (15 : Int32)) q) (fun _ => ?_)
                    refine OwnW.aloadN X0 (n := 14) d31_13 rfl rfl rfl ?_
                    refine OwnW.iload X0 (n := 16) d31_14 rfl rfl ?_
                    refine OwnW.baload X0 (i := 9) (v := (.int (46 : Int32))) (n := 17) d31_16 A0 rfl rfl rfl ?_
                    refine OwnW.iload X0 (n := 19) d31_17 rfl rfl ?_
                    refine OwnW.ic_ne X0  (n1 := 25) (n2 := 22) d31_19 (by decide) rfl rfl (fun hc19_18 => ?_) (fun hc19_18 => ?_)
                    · have kk19 : ¬ cn = 46 := fun q => hc19_18 ((own_byte22 hcn 46 (by decide)).mpr q).symm
                      refine OwnW.iinc X0 (z := (1 : Int32)) (u := (10 : Int32)) (l' := #[.val (.ref r0), .val (.int (Int32.ofNat cn)), .val (.int (0 : Int32)), .val (.int (15 : Int32)), .val (.int ((Int32.ofNat cn).toInt8.toInt32)), .val (.int (10 : Int32))]) (n := 28) d31_25 rfl rfl rfl rfl rfl ?_
                      refine OwnW.goto X0 (n := 7) d31_28 (by decide) rfl ?_
                      refine OwnW.iload X0 (n := 9) d31_7 rfl rfl ?_
                      refine OwnW.iloadN X0 (n := 10) d31_9 rfl rfl ?_
                      refine OwnW.ic_ge X0  (n1 := 31) (n2 := 13) d31_10 (by decide) rfl rfl (fun q => absurd ((by decide) : (10 : Int32) < (15 : Int32)) q) (fun _ => ?_)
                      refine OwnW.aloadN X0 (n := 14) d31_13 rfl rfl rfl ?_
                      refine OwnW.iload X0 (n := 16) d31_14 rfl rfl ?_
                      refine OwnW.baload X0 (i := 10) (v := (.int (94 : Int32))) (n := 17) d31_16 A0 rfl rfl rfl ?_
                      refine OwnW.iload X0 (n := 19) d31_17 rfl rfl ?_
                      refine OwnW.ic_ne X0  (n1 := 25) (n2 := 22) d31_19 (by decide) rfl rfl (fun hc19_20 => ?_) (fun hc19_20 => ?_)
                      · have kk21 : ¬ cn = 94 := fun q => hc19_20 ((own_byte22 hcn 94 (by decide)).mpr q).symm
                        refine OwnW.iinc X0 (z := (1 : Int32)) (u := (11 : Int32)) (l' := #[.val (.ref r0), .val (.int (Int32.ofNat cn)), .val (.int (0 : Int32)), .val (.int (15 : Int32)), .val (.int ((Int32.ofNat cn).toInt8.toInt32)), .val (.int (11 : Int32))]) (n := 28) d31_25 rfl rfl rfl rfl rfl ?_
                        refine OwnW.goto X0 (n := 7) d31_28 (by decide) rfl ?_
                        refine OwnW.iload X0 (n := 9) d31_7 rfl rfl ?_
                        refine OwnW.iloadN X0 (n := 10) d31_9 rfl rfl ?_
                        refine OwnW.ic_ge X0  (n1 := 31) (n2 := 13) d31_10 (by decide) rfl rfl (fun q => absurd ((by decide) : (11 : Int32) < (15 : Int32)) q) (fun _ => ?_)
                        refine OwnW.aloadN X0 (n := 14) d31_13 rfl rfl rfl ?_
                        refine OwnW.iload X0 (n := 16) d31_14 rfl rfl ?_
                        refine OwnW.baload X0 (i := 11) (v := (.int (95 : Int32))) (n := 17) d31_16 A0 rfl rfl rfl ?_
                        refine OwnW.iload X0 (n := 19) d31_17 rfl rfl ?_
                        refine OwnW.ic_ne X0  (n1 := 25) (n2 := 22) d31_19 (by decide) rfl rfl (fun hc19_22 => ?_) (fun hc19_22 => ?_)
                        · have kk23 : ¬ cn = 95 := fun q => hc19_22 ((own_byte22 hcn 95 (by decide)).mpr q).symm
                          refine OwnW.iinc X0 (z := (1 : Int32)) (u := (12 : Int32)) (l' := #[.val (.ref r0), .val (.int (Int32.ofNat cn)), .val (.int (0 : Int32)), .val (.int (15 : Int32)), .val (.int ((Int32.ofNat cn).toInt8.toInt32)), .val (.int (12 : Int32))]) (n := 28) d31_25 rfl rfl rfl rfl rfl ?_
                          refine OwnW.goto X0 (n := 7) d31_28 (by decide) rfl ?_
                          refine OwnW.iload X0 (n := 9) d31_7 rfl rfl ?_
                          refine OwnW.iloadN X0 (n := 10) d31_9 rfl rfl ?_
                          refine OwnW.ic_ge X0  (n1 := 31) (n2 := 13) d31_10 (by decide) rfl rfl (fun q => absurd ((by decide) : (12 : Int32) < (15 : Int32)) q) (fun _ => ?_)
                          refine OwnW.aloadN X0 (n := 14) d31_13 rfl rfl rfl ?_
                          refine OwnW.iload X0 (n := 16) d31_14 rfl rfl ?_
                          refine OwnW.baload X0 (i := 12) (v := (.int (96 : Int32))) (n := 17) d31_16 A0 rfl rfl rfl ?_
                          refine OwnW.iload X0 (n := 19) d31_17 rfl rfl ?_
                          refine OwnW.ic_ne X0  (n1 := 25) (n2 := 22) d31_19 (by decide) rfl rfl (fun hc19_24 => ?_) (fun hc19_24 => ?_)
                          · have kk25 : ¬ cn = 96 := fun q => hc19_24 ((own_byte22 hcn 96 (by decide)).mpr q).symm
                            refine OwnW.iinc X0 (z := (1 : Int32)) (u := (13 : Int32)) (l' := #[.val (.ref r0), .val (.int (Int32.ofNat cn)), .val (.int (0 : Int32)), .val (.int (15 : Int32)), .val (.int ((Int32.ofNat cn).toInt8.toInt32)), .val (.int (13 : Int32))]) (n := 28) d31_25 rfl rfl rfl rfl rfl ?_
                            refine OwnW.goto X0 (n := 7) d31_28 (by decide) rfl ?_
                            refine OwnW.iload X0 (n := 9) d31_7 rfl rfl ?_
                            refine OwnW.iloadN X0 (n := 10) d31_9 rfl rfl ?_
                            refine OwnW.ic_ge X0  (n1 := 31) (n2 := 13) d31_10 (by decide) rfl rfl (fun q => absurd ((by decide) : (13 : Int32) < (15 : Int32)) q) (fun _ => ?_)
                            refine OwnW.aloadN X0 (n := 14) d31_13 rfl rfl rfl ?_
                            refine OwnW.iload X0 (n := 16) d31_14 rfl rfl ?_
                            refine OwnW.baload X0 (i := 13) (v := (.int (124 : Int32))) (n := 17) d31_16 A0 rfl rfl rfl ?_
                            refine OwnW.iload X0 (n := 19) d31_17 rfl rfl ?_
                            refine OwnW.ic_ne X0  (n1 := 25) (n2 := 22) d31_19 (by decide) rfl rfl (fun hc19_26 => ?_) (fun hc19_26 => ?_)
                            · have kk27 : ¬ cn = 124 := fun q => hc19_26 ((own_byte22 hcn 124 (by decide)).mpr q).symm
                              refine OwnW.iinc X0 (z := (1 : Int32)) (u := (14 : Int32)) (l' := #[.val (.ref r0), .val (.int (Int32.ofNat cn)), .val (.int (0 : Int32)), .val (.int (15 : Int32)), .val (.int ((Int32.ofNat cn).toInt8.toInt32)), .val (.int (14 : Int32))]) (n := 28) d31_25 rfl rfl rfl rfl rfl ?_
                              refine OwnW.goto X0 (n := 7) d31_28 (by decide) rfl ?_
                              refine OwnW.iload X0 (n := 9) d31_7 rfl rfl ?_
                              refine OwnW.iloadN X0 (n := 10) d31_9 rfl rfl ?_
                              refine OwnW.ic_ge X0  (n1 := 31) (n2 := 13) d31_10 (by decide) rfl rfl (fun q => absurd ((by decide) : (14 : Int32) < (15 : Int32)) q) (fun _ => ?_)
                              refine OwnW.aloadN X0 (n := 14) d31_13 rfl rfl rfl ?_
                              refine OwnW.iload X0 (n := 16) d31_14 rfl rfl ?_
                              refine OwnW.baload X0 (i := 14) (v := (.int (126 : Int32))) (n := 17) d31_16 A0 rfl rfl rfl ?_
                              refine OwnW.iload X0 (n := 19) d31_17 rfl rfl ?_
                              refine OwnW.ic_ne X0  (n1 := 25) (n2 := 22) d31_19 (by decide) rfl rfl (fun hc19_28 => ?_) (fun hc19_28 => ?_)
                              · have kk29 : ¬ cn = 126 := fun q => hc19_28 ((own_byte22 hcn 126 (by decide)).mpr q).symm
                                refine OwnW.iinc X0 (z := (1 : Int32)) (u := (15 : Int32)) (l' := #[.val (.ref r0), .val (.int (Int32.ofNat cn)), .val (.int (0 : Int32)), .val (.int (15 : Int32)), .val (.int ((Int32.ofNat cn).toInt8.toInt32)), .val (.int (15 : Int32))]) (n := 28) d31_25 rfl rfl rfl rfl rfl ?_
                                refine OwnW.goto X0 (n := 7) d31_28 (by decide) rfl ?_
                                refine OwnW.iload X0 (n := 9) d31_7 rfl rfl ?_
                                refine OwnW.iloadN X0 (n := 10) d31_9 rfl rfl ?_
                                refine OwnW.ic_ge X0  (n1 := 31) (n2 := 13) d31_10 (by decide) rfl rfl (fun _ => ?_) (fun q => absurd q ((by decide) : ¬ (15 : Int32) < (15 : Int32)))
                                refine OwnW.iconst X0 (z := (-1 : Int32)) (n := 32) d31_31 rfl rfl ?_
                                exact OwnW.ireturn X0 rfl (Or.inl rfl) rfl d31_32 ⟨Or.inr ⟨fun q => by simp only [own_toks, List.mem_cons, List.not_mem_nil, or_false] at q; omega, _, rfl, by decide⟩, rfl⟩ (by decide) (by decide)
                              · have kk30 : cn = 126 := (own_byte22 hcn 126 (by decide)).mp hc19_28.symm
                                refine OwnW.iload X0 (n := 24) d31_22 rfl rfl ?_
                                exact OwnW.ireturn X0 rfl (Or.inl rfl) rfl d31_24 ⟨Or.inl ⟨by rw [kk30]; decide, _, rfl, by decide⟩, rfl⟩ (by decide) (by decide)
                            · have kk31 : cn = 124 := (own_byte22 hcn 124 (by decide)).mp hc19_26.symm
                              refine OwnW.iload X0 (n := 24) d31_22 rfl rfl ?_
                              exact OwnW.ireturn X0 rfl (Or.inl rfl) rfl d31_24 ⟨Or.inl ⟨by rw [kk31]; decide, _, rfl, by decide⟩, rfl⟩ (by decide) (by decide)
                          · have kk32 : cn = 96 := (own_byte22 hcn 96 (by decide)).mp hc19_24.symm
                            refine OwnW.iload X0 (n := 24) d31_22 rfl rfl ?_
                            exact OwnW.ireturn X0 rfl (Or.inl rfl) rfl d31_24 ⟨Or.inl ⟨by rw [kk32]; decide, _, rfl, by decide⟩, rfl⟩ (by decide) (by decide)
                        · have kk33 : cn = 95 := (own_byte22 hcn 95 (by decide)).mp hc19_22.symm
                          refine OwnW.iload X0 (n := 24) d31_22 rfl rfl ?_
                          exact OwnW.ireturn X0 rfl (Or.inl rfl) rfl d31_24 ⟨Or.inl ⟨by rw [kk33]; decide, _, rfl, by decide⟩, rfl⟩ (by decide) (by decide)
                      · have kk34 : cn = 94 := (own_byte22 hcn 94 (by decide)).mp hc19_20.symm
                        refine OwnW.iload X0 (n := 24) d31_22 rfl rfl ?_
                        exact OwnW.ireturn X0 rfl (Or.inl rfl) rfl d31_24 ⟨Or.inl ⟨by rw [kk34]; decide, _, rfl, by decide⟩, rfl⟩ (by decide) (by decide)
                    · have kk35 : cn = 46 := (own_byte22 hcn 46 (by decide)).mp hc19_18.symm
                      refine OwnW.iload X0 (n := 24) d31_22 rfl rfl ?_
                      exact OwnW.ireturn X0 rfl (Or.inl rfl) rfl d31_24 ⟨Or.inl ⟨by rw [kk35]; decide, _, rfl, by decide⟩, rfl⟩ (by decide) (by decide)
                  · have kk36 : cn = 45 := (own_byte22 hcn 45 (by decide)).mp hc19_16.symm
                    refine OwnW.iload X0 (n := 24) d31_22 rfl rfl ?_
                    exact OwnW.ireturn X0 rfl (Or.inl rfl) rfl d31_24 ⟨Or.inl ⟨by rw [kk36]; decide, _, rfl, by decide⟩, rfl⟩ (by decide) (by decide)
                · have kk37 : cn = 43 := (own_byte22 hcn 43 (by decide)).mp hc19_14.symm
                  refine OwnW.iload X0 (n := 24) d31_22 rfl rfl ?_
                  exact OwnW.ireturn X0 rfl (Or.inl rfl) rfl d31_24 ⟨Or.inl ⟨by rw [kk37]; decide, _, rfl, by decide⟩, rfl⟩ (by decide) (by decide)
              · have kk38 : cn = 42 := (own_byte22 hcn 42 (by decide)).mp hc19_12.symm
                refine OwnW.iload X0 (n := 24) d31_22 rfl rfl ?_
                exact OwnW.ireturn X0 rfl (Or.inl rfl) rfl d31_24 ⟨Or.inl ⟨by rw [kk38]; decide, _, rfl, by decide⟩, rfl⟩ (by decide) (by decide)
            · have kk39 : cn = 39 := (own_byte22 hcn 39 (by decide)).mp hc19_10.symm
              refine OwnW.iload X0 (n := 24) d31_22 rfl rfl ?_
              exact OwnW.ireturn X0 rfl (Or.inl rfl) rfl d31_24 ⟨Or.inl ⟨by rw [kk39]; decide, _, rfl, by decide⟩, rfl⟩ (by decide) (by decide)
          · have kk40 : cn = 38 := (own_byte22 hcn 38 (by decide)).mp hc19_8.symm
            refine OwnW.iload X0 (n := 24) d31_22 rfl rfl ?_
            exact OwnW.ireturn X0 rfl (Or.inl rfl) rfl d31_24 ⟨Or.inl ⟨by rw [kk40]; decide, _, rfl, by decide⟩, rfl⟩ (by decide) (by decide)
        · have kk41 : cn = 37 := (own_byte22 hcn 37 (by decide)).mp hc19_6.symm
          refine OwnW.iload X0 (n := 24) d31_22 rfl rfl ?_
          exact OwnW.ireturn X0 rfl (Or.inl rfl) rfl d31_24 ⟨Or.inl ⟨by rw [kk41]; decide, _, rfl, by decide⟩, rfl⟩ (by decide) (by decide)
      · have kk42 : cn = 36 := (own_byte22 hcn 36 (by decide)).mp hc19_4.symm
        refine OwnW.iload X0 (n := 24) d31_22 rfl rfl ?_
        exact OwnW.ireturn X0 rfl (Or.inl rfl) rfl d31_24 ⟨Or.inl ⟨by rw [kk42]; decide, _, rfl, by decide⟩, rfl⟩ (by decide) (by decide)
    · have kk43 : cn = 35 := (own_byte22 hcn 35 (by decide)).mp hc19_2.symm
      refine OwnW.iload X0 (n := 24) d31_22 rfl rfl ?_
      exact OwnW.ireturn X0 rfl (Or.inl rfl) rfl d31_24 ⟨Or.inl ⟨by rw [kk43]; decide, _, rfl, by decide⟩, rfl⟩ (by decide) (by decide)
  · have kk44 : cn = 33 := (own_byte22 hcn 33 (by decide)).mp hc19.symm
    refine OwnW.iload X0 (n := 24) d31_22 rfl rfl ?_
    exact OwnW.ireturn X0 rfl (Or.inl rfl) rfl d31_24 ⟨Or.inl ⟨by rw [kk44]; decide, _, rfl, by decide⟩, rfl⟩ (by decide) (by decide)
theorem pd__I_Z : parseMethodDescriptor "(I)Z" = some ⟨[.int], some .boolean⟩ := by decide +kernel
theorem pd__II_I : parseMethodDescriptor "(II)I" = some ⟨[.int, .int], some .int⟩ := by decide +kernel
theorem pd___BIII_I : parseMethodDescriptor "([BIII)I" = some ⟨[(.array .byte), .int, .int, .int], some .int⟩ := by decide +kernel
theorem d27_0 : decode jdk_43_method_22_code 0 = .ok (.iload_n 1, 1) := by decide +kernel
theorem d27_1 : decode jdk_43_method_22_code 1 = .ok (.invokestatic 88, 3) := by decide +kernel
theorem d27_4 : decode jdk_43_method_22_code 4 = .ok (.ifCond .ne 5, 3) := by decide +kernel
theorem d27_7 : decode jdk_43_method_22_code 7 = .ok (.iconst (-1), 1) := by decide +kernel
theorem d27_8 : decode jdk_43_method_22_code 8 = .ok (.ireturn, 1) := by decide +kernel
theorem d27_9 : decode jdk_43_method_22_code 9 = .ok (.iload_n 2, 1) := by decide +kernel
theorem d27_10 : decode jdk_43_method_22_code 10 = .ok (.iconst 0, 1) := by decide +kernel
theorem d27_11 : decode jdk_43_method_22_code 11 = .ok (.invokestatic 92, 3) := by decide +kernel
theorem d27_14 : decode jdk_43_method_22_code 14 = .ok (.istore_n 2, 1) := by decide +kernel
theorem d27_15 : decode jdk_43_method_22_code 15 = .ok (.iload_n 3, 1) := by decide +kernel
theorem d27_16 : decode jdk_43_method_22_code 16 = .ok (.aload_n 0, 1) := by decide +kernel
theorem d27_17 : decode jdk_43_method_22_code 17 = .ok (.arraylength, 1) := by decide +kernel
theorem d27_18 : decode jdk_43_method_22_code 18 = .ok (.invokestatic 38, 3) := by decide +kernel
theorem d27_21 : decode jdk_43_method_22_code 21 = .ok (.istore_n 3, 1) := by decide +kernel
theorem d27_22 : decode jdk_43_method_22_code 22 = .ok (.iload_n 2, 1) := by decide +kernel
theorem d27_23 : decode jdk_43_method_22_code 23 = .ok (.iload_n 3, 1) := by decide +kernel
theorem d27_24 : decode jdk_43_method_22_code 24 = .ok (.if_icmp .lt 5, 3) := by decide +kernel
theorem d27_29 : decode jdk_43_method_22_code 29 = .ok (.aload_n 0, 1) := by decide +kernel
theorem d27_30 : decode jdk_43_method_22_code 30 = .ok (.iload_n 1, 1) := by decide +kernel
theorem d27_31 : decode jdk_43_method_22_code 31 = .ok (.iload_n 2, 1) := by decide +kernel
theorem d27_32 : decode jdk_43_method_22_code 32 = .ok (.iload_n 3, 1) := by decide +kernel
theorem d27_33 : decode jdk_43_method_22_code 33 = .ok (.invokestatic 95, 3) := by decide +kernel
theorem d27_36 : decode jdk_43_method_22_code 36 = .ok (.ireturn, 1) := by decide +kernel
theorem ef_rm27 (m : MethodId) (x0 : Addr) (x1 : Int32) : entryFrame m #[(.ref x0), (.int x1), (.int (0 : Int32)), (.int (15 : Int32))] 4 = mkF m 0 #[.val (.ref x0), .val (.int x1), .val (.int (0 : Int32)), .val (.int (15 : Int32))] [] := by first | (simp [entryFrame, mkF, argsToLocals, Value.category]; done) | rfl
set_option maxRecDepth 65536 in
set_option maxHeartbeats 40000000 in
theorem rm27 (l : Launch) (Z : State) (a0 : Array Value) (hw : ∀ d ∈ tables_1, d.before a0 Z = true) (hE : EW Z a0 own_EL) (ws : List Jvm.Cond) (r0 : Addr) (h0 : Heap) (n0 : Nat) (cn : Nat) (hcn : cn ≤ 65535) (A0 : Ark Z h0 r0 .byte [(.int (33 : Int32)), (.int (35 : Int32)), (.int (36 : Int32)), (.int (37 : Int32)), (.int (38 : Int32)), (.int (39 : Int32)), (.int (42 : Int32)), (.int (43 : Int32)), (.int (45 : Int32)), (.int (46 : Int32)), (.int (94 : Int32)), (.int (95 : Int32)), (.int (96 : Int32)), (.int (124 : Int32)), (.int (126 : Int32))]) :
    Ctr False l Z own_EL (⟨"java/lang/StringLatin1", "indexOf", "([BIII)I"⟩ : MethodName) jdk_43_method_22_code 4 (some .int) ws ({ frames := 1, cells := 0, slots := 0, locals := 17 } : Room) n0 ([]) #[(.ref r0), (.int (Int32.ofNat cn)), (.int (0 : Int32)), (.int (15 : Int32))] h0 (Rt (fun w h g => ((cn ∈ own_toks ∧ ∃ z, w = .int z ∧ ¬ z < 0) ∨ (¬ cn ∈ own_toks ∧ ∃ z, w = .int z ∧ z < 0)) ∧ h0 = h)) := by
  refine Ctr.of (plainFor_of_name pn_java_lang_StringLatin1) hE (fun m => ef_rm27 m r0 (Int32.ofNat cn)) ?_
  intro p e s m below meth c T0 X0
  refine OwnW.iloadN X0 (n := 1) d27_0 rfl rfl ?_
  refine OwnW.call_static_v X0 (z := (⟨"java/lang/StringLatin1", "canEncode", "(I)Z"⟩ : MethodName)) (n := 4) d27_1 (hw _ (List.mem_of_getElem? (i := 119) rfl)) (hw _ (List.mem_of_getElem? (i := 120) rfl)) (hw _ (List.mem_of_getElem? (i := 121) rfl)) (hw _ (List.mem_of_getElem? (i := 117) rfl)) (by decide) (rm28 l Z a0 hw hE [] h0 n0 cn hcn) OwnW.sf0 (argsL := [(.int (Int32.ofNat cn))]) (rest := []) rfl rfl (OwnW.lenA pd__I_Z rfl) (W := 0) (Nat.le_of_eq rfl) (by decide) (by decide) (by decide) (by decide) rfl ?_
  intro T1 h1 w1 g1 hle1 X1 ⟨hq, q2⟩
  subst q2
  rcases hq with ⟨hle, q1⟩ | ⟨hgt, q1⟩
  · subst q1
    refine OwnW.if_ne X1  (n1 := 9) (n2 := 7) d27_4 (by decide) rfl rfl (fun _ => ?_) (fun q => absurd q ((by decide) : ¬ (1 : Int32) = 0))
    refine OwnW.iloadN X1 (n := 10) d27_9 rfl rfl ?_
    refine OwnW.iconst X1 (z := (0 : Int32)) (n := 11) d27_10 rfl rfl ?_
    refine OwnW.call_static_v X1 (z := (⟨"java/lang/Math", "max", "(II)I"⟩ : MethodName)) (n := 14) d27_11 (hw _ (List.mem_of_getElem? (i := 122) rfl)) (hw _ (List.mem_of_getElem? (i := 123) rfl)) (hw _ (List.mem_of_getElem? (i := 125) rfl)) (hw _ (List.mem_of_getElem? (i := 124) rfl)) (by decide) (rm29 l Z a0 hw hE [] h0 n0) OwnW.sf0 (argsL := [(.int (0 : Int32)), (.int (0 : Int32))]) (rest := []) rfl rfl (OwnW.lenA pd__II_I rfl) (W := 0) (Nat.le_of_eq rfl) (by decide) (by decide) (by decide) (by decide) rfl ?_
    intro T2 h2 w2 g2 hle2 X2 ⟨q1, q2⟩
    subst q1 q2
    refine OwnW.istoreN X2 (l' := #[.val (.ref r0), .val (.int (Int32.ofNat cn)), .val (.int (0 : Int32)), .val (.int (15 : Int32))]) (n := 15) d27_14 rfl rfl ?_
    refine OwnW.iloadN X2 (n := 16) d27_15 rfl rfl ?_
    refine OwnW.aloadN X2 (n := 17) d27_16 rfl rfl rfl ?_
    refine OwnW.arraylength X2 (z := (15 : Int32)) (n := 18) d27_17 A0 rfl rfl ?_
    refine OwnW.call_static_v X2 (z := (⟨"java/lang/Math", "min", "(II)I"⟩ : MethodName)) (n := 21) d27_18 (hw _ (List.mem_of_getElem? (i := 126) rfl)) (hw _ (List.mem_of_getElem? (i := 127) rfl)) (hw _ (List.mem_of_getElem? (i := 128) rfl)) (hw _ (List.mem_of_getElem? (i := 124) rfl)) (by decide) (rm30 l Z a0 hw hE [] h0 n0) OwnW.sf0 (argsL := [(.int (15 : Int32)), (.int (15 : Int32))]) (rest := []) rfl rfl (OwnW.lenA pd__II_I rfl) (W := 0) (Nat.le_of_eq rfl) (by decide) (by decide) (by decide) (by decide) rfl ?_
    intro T3 h3 w3 g3 hle3 X3 ⟨q1, q2⟩
    subst q1 q2
    refine OwnW.istoreN X3 (l' := #[.val (.ref r0), .val (.int (Int32.ofNat cn)), .val (.int (0 : Int32)), .val (.int (15 : Int32))]) (n := 22) d27_21 rfl rfl ?_
    refine OwnW.iloadN X3 (n := 23) d27_22 rfl rfl ?_
    refine OwnW.iloadN X3 (n := 24) d27_23 rfl rfl ?_
    refine OwnW.ic_lt X3  (n1 := 29) (n2 := 27) d27_24 (by decide) rfl rfl (fun _ => ?_) (fun q => absurd ((by decide) : (0 : Int32) < (15 : Int32)) q)
    refine OwnW.aloadN X3 (n := 30) d27_29 rfl rfl rfl ?_
    refine OwnW.iloadN X3 (n := 31) d27_30 rfl rfl ?_
    refine OwnW.iloadN X3 (n := 32) d27_31 rfl rfl ?_
    refine OwnW.iloadN X3 (n := 33) d27_32 rfl rfl ?_
    refine OwnW.call_static_v X3 (z := (⟨"java/lang/StringLatin1", "indexOfChar", "([BIII)I"⟩ : MethodName)) (n := 36) d27_33 (hw _ (List.mem_of_getElem? (i := 129) rfl)) (hw _ (List.mem_of_getElem? (i := 130) rfl)) (hw _ (List.mem_of_getElem? (i := 131) rfl)) (hw _ (List.mem_of_getElem? (i := 117) rfl)) (by decide) (rm31 l Z a0 hw hE [] r0 h0 n0 cn hle A0) OwnW.sf0 (argsL := [(.ref r0), (.int (Int32.ofNat cn)), (.int (0 : Int32)), (.int (15 : Int32))]) (rest := []) rfl rfl (OwnW.lenA pd___BIII_I rfl) (W := 0) (Nat.le_of_eq rfl) (by decide) (by decide) (by decide) (by decide) rfl ?_
    intro T4 h4 w4 g4 hle4 X4 ⟨hq, q2⟩
    subst q2
    rcases hq with ⟨hm, zz, q1, hz⟩ | ⟨hm, zz, q1, hz⟩
    · subst q1
      exact OwnW.ireturn X4 rfl (Or.inl rfl) rfl d27_36 ⟨Or.inl ⟨hm, zz, rfl, hz⟩, rfl⟩ (by decide) (by decide)
    · subst q1
      exact OwnW.ireturn X4 rfl (Or.inl rfl) rfl d27_36 ⟨Or.inr ⟨hm, zz, rfl, hz⟩, rfl⟩ (by decide) (by decide)
  · subst q1
    refine OwnW.if_ne X1  (n1 := 9) (n2 := 7) d27_4 (by decide) rfl rfl (fun q => absurd ((by decide) : (0 : Int32) = 0) q) (fun _ => ?_)
    refine OwnW.iconst X1 (z := (-1 : Int32)) (n := 8) d27_7 rfl rfl ?_
    exact OwnW.ireturn X1 rfl (Or.inl rfl) rfl d27_8 ⟨Or.inr ⟨fun q => by have z : ∀ d ∈ own_toks, d < 128 := (by decide); have y := z cn q; omega, _, rfl, by decide⟩, rfl⟩ (by decide) (by decide)
theorem pd___I : parseMethodDescriptor "()I" = some ⟨[], some .int⟩ := by decide +kernel
theorem d24_0 : decode jdk_42_method_80_code 0 = .ok (.aload_n 0, 1) := by decide +kernel
theorem d24_1 : decode jdk_42_method_80_code 1 = .ok (.invokevirtual 492, 3) := by decide +kernel
theorem d24_4 : decode jdk_42_method_80_code 4 = .ok (.ifCond .eq 19, 3) := by decide +kernel
theorem d24_7 : decode jdk_42_method_80_code 7 = .ok (.aload_n 0, 1) := by decide +kernel
theorem d24_8 : decode jdk_42_method_80_code 8 = .ok (.getfield 9, 3) := by decide +kernel
theorem d24_11 : decode jdk_42_method_80_code 11 = .ok (.iload_n 1, 1) := by decide +kernel
theorem d24_12 : decode jdk_42_method_80_code 12 = .ok (.iload_n 2, 1) := by decide +kernel
theorem d24_13 : decode jdk_42_method_80_code 13 = .ok (.aload_n 0, 1) := by decide +kernel
theorem d24_14 : decode jdk_42_method_80_code 14 = .ok (.invokevirtual 505, 3) := by decide +kernel
theorem d24_17 : decode jdk_42_method_80_code 17 = .ok (.invokestatic 637, 3) := by decide +kernel
theorem d24_20 : decode jdk_42_method_80_code 20 = .ok (.goto 16, 3) := by decide +kernel
theorem d24_36 : decode jdk_42_method_80_code 36 = .ok (.ireturn, 1) := by decide +kernel
theorem ef_rm24 (m : MethodId) (x0 : Addr) (x1 : Int32) : entryFrame m #[(.ref x0), (.int x1), (.int (0 : Int32))] 3 = mkF m 0 #[.val (.ref x0), .val (.int x1), .val (.int (0 : Int32))] [] := by first | (simp [entryFrame, mkF, argsToLocals, Value.category]; done) | rfl
set_option maxRecDepth 65536 in
set_option maxHeartbeats 40000000 in
theorem rm24 (l : Launch) (Z : State) (a0 : Array Value) (hw : ∀ d ∈ tables_1, d.before a0 Z = true) (hE : EW Z a0 own_EL) (ws : List Jvm.Cond) (r0 : Addr) (h0 : Heap) (n0 : Nat) (O0 : Old Z n0 h0) (cn : Nat) (hcn : cn ≤ 65535) (t : Addr) (S0 : StrL Z h0 r0 t own_tok) (zc : Int32) (hzc : ¬ zc = 0) (S_compact : Sta Z Z.heap "java/lang/String" "COMPACT_STRINGS" "Z" (.int zc)) :
    Ctr False l Z own_EL (⟨"java/lang/String", "indexOf", "(II)I"⟩ : MethodName) jdk_42_method_80_code 3 (some .int) ws ({ frames := 2, cells := 0, slots := 0, locals := 32 } : Room) n0 ([]) #[(.ref r0), (.int (Int32.ofNat cn)), (.int (0 : Int32))] h0 (Rt (fun w h g => ((cn ∈ own_toks ∧ ∃ z, w = .int z ∧ ¬ z < 0) ∨ (¬ cn ∈ own_toks ∧ ∃ z, w = .int z ∧ z < 0)) ∧ h0 = h)) := by
  refine Ctr.of (plainFor_of_name pn_java_lang_String) hE (fun m => ef_rm24 m r0 (Int32.ofNat cn)) ?_
  intro p e s m below meth c T0 X0
  have Z0 : Keep h0 h0 [] := Keep.refl _ _
  refine OwnW.aloadN X0 (n := 1) d24_0 rfl rfl rfl ?_
  refine OwnW.call_virtual_v X0 (z := (⟨"java/lang/String", "isLatin1", "()Z"⟩ : MethodName)) (yv := (⟨"java/lang/String", "isLatin1", "()Z"⟩ : MethodName)) (a := r0) (C := "java/lang/String") (n := 4) d24_1 (hw _ (List.mem_of_getElem? (i := 70) rfl)) (hw _ (List.mem_of_getElem? (i := 71) rfl)) (hw _ (List.mem_of_getElem? (i := 72) rfl)) (hw _ (List.mem_of_getElem? (i := 73) rfl)) (fun hz => notFace_of_selects (args := #[]) (mvT hz (hw _ (List.mem_of_getElem? (i := 73) rfl)))) (hw _ (List.mem_of_getElem? (i := 74) rfl)) (hw _ (List.mem_of_getElem? (i := 9) rfl)) (by decide) S0.1 (rm17 l Z a0 hw hE [] r0 h0 n0 O0 S0.2.1 zc hzc S_compact) OwnW.sf0 (argsL := []) (rest := []) rfl rfl (OwnW.lenA pd___Z rfl) (W := 0) (Nat.le_of_eq rfl) (by decide) (by decide) (by decide) (by decide) rfl ?_
  intro T1 h1 w1 g1 hle1 X1 ⟨q1, q2⟩
  subst q1 q2
  refine OwnW.if_eq X1  (n1 := 23) (n2 := 7) d24_4 (by decide) rfl rfl (fun q => absurd q ((by decide) : ¬ (1 : Int32) = 0)) (fun _ => ?_)
  refine OwnW.aloadN X1 (n := 8) d24_7 rfl rfl rfl ?_
  refine OwnW.getfield X1 (n := 11) d24_8 (hw _ (List.mem_of_getElem? (i := 34) rfl)) Via.refl S0.2.2.1 rfl ?_
  intro T2 X2
  refine OwnW.iloadN X2 (n := 12) d24_11 rfl rfl ?_
  refine OwnW.iloadN X2 (n := 13) d24_12 rfl rfl ?_
  refine OwnW.aloadN X2 (n := 14) d24_13 rfl rfl rfl ?_
  refine OwnW.call_virtual_v X2 (z := (⟨"java/lang/String", "length", "()I"⟩ : MethodName)) (yv := (⟨"java/lang/String", "length", "()I"⟩ : MethodName)) (a := r0) (C := "java/lang/String") (n := 17) d24_14 (hw _ (List.mem_of_getElem? (i := 105) rfl)) (hw _ (List.mem_of_getElem? (i := 106) rfl)) (hw _ (List.mem_of_getElem? (i := 107) rfl)) (hw _ (List.mem_of_getElem? (i := 108) rfl)) (fun hz => notFace_of_selects (args := #[]) (mvT hz (hw _ (List.mem_of_getElem? (i := 108) rfl)))) (hw _ (List.mem_of_getElem? (i := 109) rfl)) (hw _ (List.mem_of_getElem? (i := 9) rfl)) (by decide) S0.1 (rm25 l Z a0 hw hE [] r0 h0 n0 O0 t own_tok S0 zc hzc S_compact) OwnW.sf0 (argsL := []) (rest := [(.int (0 : Int32)), (.int (Int32.ofNat cn)), (.ref t)]) rfl rfl (OwnW.lenA pd___I rfl) (W := 3) (Nat.le_of_eq rfl) (by decide) (by decide) (by decide) (by decide) rfl ?_
  intro T3 h3 w3 g3 hle3 X3 ⟨q1, q2⟩
  subst q1 q2
  rw [show Int32.ofNat own_tok.length = (15 : Int32) from rfl]
  refine OwnW.call_static_v X3 (z := (⟨"java/lang/StringLatin1", "indexOf", "([BIII)I"⟩ : MethodName)) (n := 20) d24_17 (hw _ (List.mem_of_getElem? (i := 115) rfl)) (hw _ (List.mem_of_getElem? (i := 116) rfl)) (hw _ (List.mem_of_getElem? (i := 118) rfl)) (hw _ (List.mem_of_getElem? (i := 117) rfl)) (by decide) (rm27 l Z a0 hw hE [] t h0 n0 cn hcn (own_tokA ▸ S0.2.2.2)) OwnW.sf0 (argsL := [(.ref t), (.int (Int32.ofNat cn)), (.int (0 : Int32)), (.int (15 : Int32))]) (rest := []) rfl rfl (OwnW.lenA pd___BIII_I rfl) (W := 0) (Nat.le_of_eq rfl) (by decide) (by decide) (by decide) (by decide) rfl ?_
  intro T4 h4 w4 g4 hle4 X4 ⟨hq, q2⟩
  subst q2
  rcases hq with ⟨hm, zz, q1, hz⟩ | ⟨hm, zz, q1, hz⟩
  · subst q1
    refine OwnW.goto X4 (n := 36) d24_20 (by decide) rfl ?_
    exact OwnW.ireturn X4 rfl (Or.inl rfl) rfl d24_36 ⟨Or.inl ⟨hm, zz, rfl, hz⟩, rfl⟩ (by decide) (by decide)
  · subst q1
    refine OwnW.goto X4 (n := 36) d24_20 (by decide) rfl ?_
    exact OwnW.ireturn X4 rfl (Or.inl rfl) rfl d24_36 ⟨Or.inr ⟨hm, zz, rfl, hz⟩, rfl⟩ (by decide) (by decide)
theorem d23_0 : decode jdk_42_method_79_code 0 = .ok (.aload_n 0, 1) := by decide +kernel
theorem d23_1 : decode jdk_42_method_79_code 1 = .ok (.iload_n 1, 1) := by decide +kernel
theorem d23_2 : decode jdk_42_method_79_code 2 = .ok (.iconst 0, 1) := by decide +kernel
theorem d23_3 : decode jdk_42_method_79_code 3 = .ok (.invokevirtual 633, 3) := by decide +kernel
theorem d23_6 : decode jdk_42_method_79_code 6 = .ok (.ireturn, 1) := by decide +kernel
theorem ef_rm23 (m : MethodId) (x0 : Addr) (x1 : Int32) : entryFrame m #[(.ref x0), (.int x1)] 2 = mkF m 0 #[.val (.ref x0), .val (.int x1)] [] := by first | (simp [entryFrame, mkF, argsToLocals, Value.category]; done) | rfl
set_option maxRecDepth 65536 in
set_option maxHeartbeats 40000000 in
theorem rm23 (l : Launch) (Z : State) (a0 : Array Value) (hw : ∀ d ∈ tables_1, d.before a0 Z = true) (hE : EW Z a0 own_EL) (ws : List Jvm.Cond) (r0 : Addr) (h0 : Heap) (n0 : Nat) (O0 : Old Z n0 h0) (cn : Nat) (hcn : cn ≤ 65535) (t : Addr) (S0 : StrL Z h0 r0 t own_tok) (zc : Int32) (hzc : ¬ zc = 0) (S_compact : Sta Z Z.heap "java/lang/String" "COMPACT_STRINGS" "Z" (.int zc)) :
    Ctr False l Z own_EL (⟨"java/lang/String", "indexOf", "(I)I"⟩ : MethodName) jdk_42_method_79_code 2 (some .int) ws ({ frames := 3, cells := 0, slots := 0, locals := 46 } : Room) n0 ([]) #[(.ref r0), (.int (Int32.ofNat cn))] h0 (Rt (fun w h g => ((cn ∈ own_toks ∧ ∃ z, w = .int z ∧ ¬ z < 0) ∨ (¬ cn ∈ own_toks ∧ ∃ z, w = .int z ∧ z < 0)) ∧ h0 = h)) := by
  refine Ctr.of (plainFor_of_name pn_java_lang_String) hE (fun m => ef_rm23 m r0 (Int32.ofNat cn)) ?_
  intro p e s m below meth c T0 X0
  have Z0 : Keep h0 h0 [] := Keep.refl _ _
  refine OwnW.aloadN X0 (n := 1) d23_0 rfl rfl rfl ?_
  refine OwnW.iloadN X0 (n := 2) d23_1 rfl rfl ?_
  refine OwnW.iconst X0 (z := (0 : Int32)) (n := 3) d23_2 rfl rfl ?_
  refine OwnW.call_virtual_v X0 (z := (⟨"java/lang/String", "indexOf", "(II)I"⟩ : MethodName)) (yv := (⟨"java/lang/String", "indexOf", "(II)I"⟩ : MethodName)) (a := r0) (C := "java/lang/String") (n := 6) d23_3 (hw _ (List.mem_of_getElem? (i := 100) rfl)) (hw _ (List.mem_of_getElem? (i := 101) rfl)) (hw _ (List.mem_of_getElem? (i := 102) rfl)) (hw _ (List.mem_of_getElem? (i := 103) rfl)) (fun hz => notFace_of_selects (args := #[]) (mvT hz (hw _ (List.mem_of_getElem? (i := 103) rfl)))) (hw _ (List.mem_of_getElem? (i := 104) rfl)) (hw _ (List.mem_of_getElem? (i := 9) rfl)) (by decide) S0.1 (rm24 l Z a0 hw hE [] r0 h0 n0 O0 cn hcn t S0 zc hzc S_compact) OwnW.sf0 (argsL := [(.int (Int32.ofNat cn)), (.int (0 : Int32))]) (rest := []) rfl rfl (OwnW.lenA pd__II_I rfl) (W := 0) (Nat.le_of_eq rfl) (by decide) (by decide) (by decide) (by decide) rfl ?_
  intro T1 h1 w1 g1 hle1 X1 ⟨hq, q2⟩
  subst q2
  rcases hq with ⟨hm, zz, q1, hz⟩ | ⟨hm, zz, q1, hz⟩
  · subst q1
    exact OwnW.ireturn X1 rfl (Or.inl rfl) rfl d23_6 ⟨Or.inl ⟨hm, zz, rfl, hz⟩, rfl⟩ (by decide) (by decide)
  · subst q1
    exact OwnW.ireturn X1 rfl (Or.inl rfl) rfl d23_6 ⟨Or.inr ⟨hm, zz, rfl, hz⟩, rfl⟩ (by decide) (by decide)
theorem pd__I_C : parseMethodDescriptor "(I)C" = some ⟨[.int], some .char⟩ := by decide +kernel
theorem pn_com_example_brygga_brygga_HttpHead : plainName "com/example/brygga/brygga/HttpHead" = true := by first | (simp [plainName, overriddenIn]; done) | decide +kernel
theorem d8_0 : decode prog_53_method_10_code 0 = .ok (.iload_n 1, 1) := by decide +kernel
theorem d8_1 : decode prog_53_method_10_code 1 = .ok (.iload_n 2, 1) := by decide +kernel
theorem d8_2 : decode prog_53_method_10_code 2 = .ok (.if_icmp .lt 5, 3) := by decide +kernel
theorem d8_5 : decode prog_53_method_10_code 5 = .ok (.iconst 0, 1) := by decide +kernel
theorem d8_6 : decode prog_53_method_10_code 6 = .ok (.ireturn, 1) := by decide +kernel
theorem d8_7 : decode prog_53_method_10_code 7 = .ok (.iload_n 1, 1) := by decide +kernel
theorem d8_8 : decode prog_53_method_10_code 8 = .ok (.istore_n 3, 1) := by decide +kernel
theorem d8_9 : decode prog_53_method_10_code 9 = .ok (.iload_n 3, 1) := by decide +kernel
theorem d8_10 : decode prog_53_method_10_code 10 = .ok (.iload_n 2, 1) := by decide +kernel
theorem d8_11 : decode prog_53_method_10_code 11 = .ok (.if_icmp .ge 82, 3) := by decide +kernel
theorem d8_14 : decode prog_53_method_10_code 14 = .ok (.aload_n 0, 1) := by decide +kernel
theorem d8_15 : decode prog_53_method_10_code 15 = .ok (.iload_n 3, 1) := by decide +kernel
theorem d8_16 : decode prog_53_method_10_code 16 = .ok (.invokevirtual 72, 3) := by decide +kernel
theorem d8_19 : decode prog_53_method_10_code 19 = .ok (.istore 4, 2) := by decide +kernel
theorem d8_21 : decode prog_53_method_10_code 21 = .ok (.iload 4, 2) := by decide +kernel
theorem d8_23 : decode prog_53_method_10_code 23 = .ok (.bipush 97, 2) := by decide +kernel
theorem d8_25 : decode prog_53_method_10_code 25 = .ok (.if_icmp .lt 10, 3) := by decide +kernel
theorem d8_28 : decode prog_53_method_10_code 28 = .ok (.iload 4, 2) := by decide +kernel
theorem d8_30 : decode prog_53_method_10_code 30 = .ok (.bipush 122, 2) := by decide +kernel
theorem d8_32 : decode prog_53_method_10_code 32 = .ok (.if_icmp .le 31, 3) := by decide +kernel
theorem d8_35 : decode prog_53_method_10_code 35 = .ok (.iload 4, 2) := by decide +kernel
theorem d8_37 : decode prog_53_method_10_code 37 = .ok (.bipush 65, 2) := by decide +kernel
theorem d8_39 : decode prog_53_method_10_code 39 = .ok (.if_icmp .lt 10, 3) := by decide +kernel
theorem d8_42 : decode prog_53_method_10_code 42 = .ok (.iload 4, 2) := by decide +kernel
theorem d8_44 : decode prog_53_method_10_code 44 = .ok (.bipush 90, 2) := by decide +kernel
theorem d8_46 : decode prog_53_method_10_code 46 = .ok (.if_icmp .le 17, 3) := by decide +kernel
theorem d8_49 : decode prog_53_method_10_code 49 = .ok (.iload 4, 2) := by decide +kernel
theorem d8_51 : decode prog_53_method_10_code 51 = .ok (.bipush 48, 2) := by decide +kernel
theorem d8_53 : decode prog_53_method_10_code 53 = .ok (.if_icmp .lt 14, 3) := by decide +kernel
theorem d8_56 : decode prog_53_method_10_code 56 = .ok (.iload 4, 2) := by decide +kernel
theorem d8_58 : decode prog_53_method_10_code 58 = .ok (.bipush 57, 2) := by decide +kernel
theorem d8_60 : decode prog_53_method_10_code 60 = .ok (.if_icmp .gt 7, 3) := by decide +kernel
theorem d8_63 : decode prog_53_method_10_code 63 = .ok (.iconst 1, 1) := by decide +kernel
theorem d8_64 : decode prog_53_method_10_code 64 = .ok (.goto 4, 3) := by decide +kernel
theorem d8_67 : decode prog_53_method_10_code 67 = .ok (.iconst 0, 1) := by decide +kernel
theorem d8_68 : decode prog_53_method_10_code 68 = .ok (.istore 5, 2) := by decide +kernel
theorem d8_70 : decode prog_53_method_10_code 70 = .ok (.iload 5, 2) := by decide +kernel
theorem d8_72 : decode prog_53_method_10_code 72 = .ok (.ifCond .ne 15, 3) := by decide +kernel
theorem d8_75 : decode prog_53_method_10_code 75 = .ok (.ldc 140, 2) := by decide +kernel
theorem d8_77 : decode prog_53_method_10_code 77 = .ok (.iload 4, 2) := by decide +kernel
theorem d8_79 : decode prog_53_method_10_code 79 = .ok (.invokevirtual 58, 3) := by decide +kernel
theorem d8_82 : decode prog_53_method_10_code 82 = .ok (.ifCond .ge 5, 3) := by decide +kernel
theorem d8_85 : decode prog_53_method_10_code 85 = .ok (.iconst 0, 1) := by decide +kernel
theorem d8_86 : decode prog_53_method_10_code 86 = .ok (.ireturn, 1) := by decide +kernel
theorem d8_87 : decode prog_53_method_10_code 87 = .ok (.iinc 3 1, 3) := by decide +kernel
theorem d8_90 : decode prog_53_method_10_code 90 = .ok (.goto (-81), 3) := by decide +kernel
theorem d8_93 : decode prog_53_method_10_code 93 = .ok (.iconst 1, 1) := by decide +kernel
theorem d8_94 : decode prog_53_method_10_code 94 = .ok (.ireturn, 1) := by decide +kernel
theorem ef_rm8 (m : MethodId) (x0 : Addr) (x1 : Int32) (x2 : Int32) : entryFrame m #[(.ref x0), (.int x1), (.int x2)] 6 = mkF m 0 #[.val (.ref x0), .val (.int x1), .val (.int x2), .unset, .unset, .unset] [] := by first | (simp [entryFrame, mkF, argsToLocals, Value.category]; done) | rfl
set_option maxRecDepth 65536 in
set_option maxHeartbeats 40000000 in
theorem rm8 (l : Launch) (Z : State) (a0 : Array Value) (hw : ∀ d ∈ tables_1, d.before a0 Z = true) (hE : EW Z a0 own_EL) (ws : List Jvm.Cond) (r0 : Addr) (h0 : Heap) (n0 : Nat) (O0 : Old Z n0 h0) (t : Addr) (ua ub uc ud : Nat) (hua : ua ≤ 65535) (hub : ub ≤ 65535) (huc : uc ≤ 65535) (hud : ud ≤ 65535) (S E : Nat) (hS4 : S ≤ 4) (hE4 : E ≤ 4) (S0 : own_S Z h0 r0 t ua ub uc ud) (zc : Int32) (hzc : ¬ zc = 0) (S_compact : Sta Z Z.heap "java/lang/String" "COMPACT_STRINGS" "Z" (.int zc)) (fm : Value) (hfm : fm = .null ∨ ∃ r, fm = .ref r) (S_fm : Sta Z Z.heap "jdk/internal/util/Preconditions" "SIOOBE_FORMATTER" "Ljava/util/function/BiFunction;" fm) (S_ad : Sta Z Z.heap "java/lang/StringUTF16" "$assertionsDisabled" "Z" (.int 1)) (S_hi : Sta Z Z.heap "java/lang/StringUTF16" "HI_BYTE_SHIFT" "I" (.int 0)) (S_lo : Sta Z Z.heap "java/lang/StringUTF16" "LO_BYTE_SHIFT" "I" (.int 8)) :
    Ctr False l Z own_EL (⟨"com/example/brygga/brygga/HttpHead", "isToken", "(Ljava/lang/String;II)Z"⟩ : MethodName) prog_53_method_10_code 6 (some .boolean) ws ({ frames := 5, cells := 8, slots := 256, locals := 66 } : Room) n0 ([]) #[(.ref r0), (.int (Int32.ofNat S)), (.int (Int32.ofNat E))] h0 (Rt (fun w h g => ((S < E ∧ ∀ j, S ≤ j → j < E → own_t (own_k ua ub uc ud j)) ∧ w = .int 1) ∨ (¬ (S < E ∧ ∀ j, S ≤ j → j < E → own_t (own_k ua ub uc ud j)) ∧ w = .int 0))) := by
  refine Ctr.of (plainFor_of_name pn_com_example_brygga_brygga_HttpHead) hE (fun m => ef_rm8 m r0 (Int32.ofNat S) (Int32.ofNat E)) ?_
  intro p e s m below meth c T0 X0
  have Z0 : Keep h0 h0 [] := Keep.refl _ _
  refine OwnW.iloadN X0 (n := 1) d8_0 rfl rfl ?_
  refine OwnW.iloadN X0 (n := 2) d8_1 rfl rfl ?_
  refine OwnW.ic_lt X0  (n1 := 7) (n2 := 5) d8_2 (by decide) rfl rfl (fun hc2 => ?_) (fun hc2 => ?_)
  · have kk1 : S < E := (own_lt (i := S) (n := E) (by omega) (by omega)).mp hc2
    refine OwnW.iloadN X0 (n := 8) d8_7 rfl rfl ?_
    refine OwnW.istoreN X0 (l' := #[.val (.ref r0), .val (.int (Int32.ofNat S)), .val (.int (Int32.ofNat E)), .val (.int (Int32.ofNat S)), .unset, .unset]) (n := 9) d8_8 rfl rfl ?_
    refine OwnW.loopK X0 (fun (v : Nat × Slot × Slot) h' => S ≤ v.1 ∧ v.1 ≤ E ∧ One v.2.1 ∧ One v.2.2 ∧ Keep h0 h' [] ∧ (∀ j, S ≤ j → j < v.1 → own_t (own_k ua ub uc ud j))) (fun v => E - v.1) (fun v => 2 * (v.1 - S)) (fun v => 64 * (v.1 - S)) (fun v => mkF m 9 #[.val (.ref r0), .val (.int (Int32.ofNat S)), .val (.int (Int32.ofNat E)), .val (.int (Int32.ofNat v.1)), v.2.1, v.2.2] []) ?_ _ _ _ (S, .unset, .unset) (X0.more (Nat.zero_le _) (Nat.zero_le _)) ⟨Nat.le_refl _, by omega, One.u, One.u, Keep.refl _ _, fun j q1 q2 => absurd q2 (by dsimp only; omega)⟩
    intro T1 h1 sf1 ⟨I, s4, s5⟩ X1 ⟨hI0, hI1, o4, o5, K1, hall⟩ IH
    dsimp only at hI0 hI1 o4 o5 K1 hall X1 IH ⊢
    have O1 := O0.keep K1 all0
    have S1 := S0.keep K1 nin0 nin0
    have E1 := S1.exa
    refine OwnW.iloadN X1 (n := 10) d8_9 rfl rfl ?_
    refine OwnW.iloadN X1 (n := 11) d8_10 rfl rfl ?_
    refine OwnW.ic_ge X1  (n1 := 93) (n2 := 14) d8_11 (by decide) rfl rfl (fun hc11 => ?_) (fun hc11 => ?_)
    · have kk11 : ¬ I < E := fun q => hc11 ((own_lt (i := I) (n := E) (by omega) (by omega)).mpr q)
      refine OwnW.iconst X1 (z := (1 : Int32)) (n := 94) d8_93 rfl rfl ?_
      exact OwnW.ireturn X1 rfl (Or.inr (Or.inl rfl)) rfl d8_94 (Or.inl ⟨⟨by omega, fun j q1 q2 => hall j q1 (by omega)⟩, rfl⟩) (by first | decide | omega | (dsimp only; omega)) (by first | decide | omega | (dsimp only; omega))
    · have kk12 : I < E := (own_lt (i := I) (n := E) (by omega) (by omega)).mp hc11
      refine OwnW.aloadN X1 (n := 15) d8_14 rfl rfl rfl ?_
      refine OwnW.iloadN X1 (n := 16) d8_15 rfl rfl ?_
      refine OwnW.call_virtual_v X1 (z := (⟨"java/lang/String", "charAt", "(I)C"⟩ : MethodName)) (yv := (⟨"java/lang/String", "charAt", "(I)C"⟩ : MethodName)) (a := r0) (C := "java/lang/String") (n := 19) d8_16 (hw _ (List.mem_of_getElem? (i := 65) rfl)) (hw _ (List.mem_of_getElem? (i := 66) rfl)) (hw _ (List.mem_of_getElem? (i := 67) rfl)) (hw _ (List.mem_of_getElem? (i := 68) rfl)) (fun hz => notFace_of_selects (args := #[]) (mvT hz (hw _ (List.mem_of_getElem? (i := 68) rfl)))) (hw _ (List.mem_of_getElem? (i := 69) rfl)) (hw _ (List.mem_of_getElem? (i := 9) rfl)) (by decide) E1 (rmCA l Z a0 hw hE [] r0 h1 n0 O1 t ua ub uc ud hua hub huc hud I (by omega) S1 zc hzc S_compact fm hfm S_fm S_ad S_hi S_lo) OwnW.sf0 (argsL := [(.int (Int32.ofNat I))]) (rest := []) rfl rfl (OwnW.lenA pd__I_C rfl) (W := 0) (Nat.le_of_eq rfl) (by first | decide | omega | (dsimp only; omega)) (by first | decide | omega | (dsimp only; omega)) (by first | decide | omega | (dsimp only; omega)) (by first | decide | omega | (dsimp only; omega)) rfl ?_
      intro T13 h13 w13 g13 hle13 X13 ⟨q1, q2⟩
      subst q1 q2
      obtain ⟨kv, hkv⟩ : ∃ z, z = own_k ua ub uc ud I := ⟨_, rfl⟩
      rw [← hkv]
      have hkl : kv ≤ 65535 := hkv ▸ own_k_le hua hub huc hud I
      refine OwnW.istore X13 (l' := #[.val (.ref r0), .val (.int (Int32.ofNat S)), .val (.int (Int32.ofNat E)), .val (.int (Int32.ofNat I)), .val (.int (Int32.ofNat kv)), s5]) (n := 21) d8_19 (by rw [XS.store1 rfl o4 rfl]; rfl) rfl ?_
      refine OwnW.joinT X13 (fun (b5 : Int32) => (b5 = 1 ∧ own_an kv) ∨ (b5 = 0 ∧ ¬ own_an kv)) (fun (b5 : Int32) => mkF m 68 #[.val (.ref r0), .val (.int (Int32.ofNat S)), .val (.int (Int32.ofNat E)), .val (.int (Int32.ofNat I)), .val (.int (Int32.ofNat kv)), s5] [(.int b5)]) ?_ ?_
      · intro T14 b5 X14 hj68
        rcases hj68 with ⟨q5, han⟩ | ⟨q5, han⟩
        · subst q5
          refine OwnW.istore X14 (l' := #[.val (.ref r0), .val (.int (Int32.ofNat S)), .val (.int (Int32.ofNat E)), .val (.int (Int32.ofNat I)), .val (.int (Int32.ofNat kv)), .val (.int (1 : Int32))]) (n := 70) d8_68 (by rw [XS.store1 rfl o5 rfl]; rfl) rfl ?_
          refine OwnW.iload X14 (n := 72) d8_70 rfl rfl ?_
          refine OwnW.if_ne X14  (n1 := 87) (n2 := 75) d8_72 (by decide) rfl rfl (fun _ => ?_) (fun q => absurd q ((by decide) : ¬ (1 : Int32) = 0))
          refine OwnW.iinc X14 (z := (1 : Int32)) (u := ((Int32.ofNat I) + (1 : Int32))) (l' := #[.val (.ref r0), .val (.int (Int32.ofNat S)), .val (.int (Int32.ofNat E)), .val (.int ((Int32.ofNat I) + (1 : Int32))), .val (.int (Int32.ofNat kv)), .val (.int (1 : Int32))]) (n := 90) d8_87 rfl rfl rfl rfl rfl ?_
          rw [show (((Int32.ofNat I) + (1 : Int32)) : Int32) = (Int32.ofNat (I + 1)) from own_add I 1]
          refine OwnW.goto X14 (n := 9) d8_90 (by decide) rfl ?_
          exact IH _ _ _ (I + 1, .val (.int (Int32.ofNat kv)), .val (.int (1 : Int32))) (by dsimp only; omega) (X14.more (by dsimp only; omega) (by dsimp only; omega)) ⟨by dsimp only; omega, by dsimp only; omega, One.val rfl, One.val rfl, K1, fun j q1 q2 => by rcases (by dsimp only at q2; omega : j < I ∨ j = I) with q | q; exact hall j q1 q; subst q; rw [← hkv]; exact Or.inl han⟩
        · subst q5
          refine OwnW.istore X14 (l' := #[.val (.ref r0), .val (.int (Int32.ofNat S)), .val (.int (Int32.ofNat E)), .val (.int (Int32.ofNat I)), .val (.int (Int32.ofNat kv)), .val (.int (0 : Int32))]) (n := 70) d8_68 (by rw [XS.store1 rfl o5 rfl]; rfl) rfl ?_
          refine OwnW.iload X14 (n := 72) d8_70 rfl rfl ?_
          refine OwnW.if_ne X14  (n1 := 87) (n2 := 75) d8_72 (by decide) rfl rfl (fun q => absurd ((by decide) : (0 : Int32) = 0) q) (fun _ => ?_)
          refine OwnW.ldcS X14 (bs := (own_tok).map lo8) (nn := 60) (text := "!#$%&'*+-.^_`|~") (n := 77) d8_75 (hw _ (List.mem_of_getElem? (i := 92) rfl)) (fun d hd => hw d ((by decide +kernel : ∀ d ∈ Bundle.stringAtoms, d ∈ tables_1) d hd)) (by decide) ⟨by decide, rfl⟩ (by decide) (by decide) (by decide) (by first | decide | omega | (dsimp only; omega)) (by first | decide | omega | (dsimp only; omega)) rfl ?_
          intro T15 h15 l15 t15 X15 E15 e15 c15 v15 a15 n15
          have K15 := (OwnW.kExt E15)
          have O15 := O1.keep K15 all0
          have Z15 : Keep h0 h15 [] := K1.trans K15 (fun x hx => nomatch hx)
          refine OwnW.iload X15 (n := 79) d8_77 rfl rfl ?_
          refine OwnW.call_virtual_v X15 (z := (⟨"java/lang/String", "indexOf", "(I)I"⟩ : MethodName)) (yv := (⟨"java/lang/String", "indexOf", "(I)I"⟩ : MethodName)) (a := l15) (C := "java/lang/String") (n := 82) d8_79 (hw _ (List.mem_of_getElem? (i := 95) rfl)) (hw _ (List.mem_of_getElem? (i := 96) rfl)) (hw _ (List.mem_of_getElem? (i := 97) rfl)) (hw _ (List.mem_of_getElem? (i := 98) rfl)) (fun hz => notFace_of_selects (args := #[]) (mvT hz (hw _ (List.mem_of_getElem? (i := 98) rfl)))) (hw _ (List.mem_of_getElem? (i := 99) rfl)) (hw _ (List.mem_of_getElem? (i := 9) rfl)) (by decide) e15 (rm23 l Z a0 hw hE [] l15 h15 n0 O15 kv hkl t15 ⟨e15, c15, v15, a15⟩ zc hzc S_compact) OwnW.sf0 (argsL := [(.int (Int32.ofNat kv))]) (rest := []) rfl rfl (OwnW.lenA pd__I_I rfl) (W := 0) (Nat.le_of_eq rfl) (by first | decide | omega | (dsimp only; omega)) (by first | decide | omega | (dsimp only; omega)) (by first | decide | omega | (dsimp only; omega)) (by first | decide | omega | (dsimp only; omega)) rfl ?_
          intro T16 h16 w16 g16 hle16 X16 ⟨hq, q2⟩
          subst q2
          rcases hq with ⟨hm, zz, q1, hz⟩ | ⟨hm, zz, q1, hz⟩
          · subst q1
            refine OwnW.if_ge X16  (n1 := 87) (n2 := 85) d8_82 (by decide) rfl rfl (fun _ => ?_) (fun q => absurd q (hz : ¬ zz < 0))
            refine OwnW.iinc X16 (z := (1 : Int32)) (u := ((Int32.ofNat I) + (1 : Int32))) (l' := #[.val (.ref r0), .val (.int (Int32.ofNat S)), .val (.int (Int32.ofNat E)), .val (.int ((Int32.ofNat I) + (1 : Int32))), .val (.int (Int32.ofNat kv)), .val (.int (0 : Int32))]) (n := 90) d8_87 rfl rfl rfl rfl rfl ?_
            rw [show (((Int32.ofNat I) + (1 : Int32)) : Int32) = (Int32.ofNat (I + 1)) from own_add I 1]
            refine OwnW.goto X16 (n := 9) d8_90 (by decide) rfl ?_
            exact IH _ _ _ (I + 1, .val (.int (Int32.ofNat kv)), .val (.int (0 : Int32))) (by dsimp only; omega) (X16.more (by dsimp only; omega) (by dsimp only; omega)) ⟨by dsimp only; omega, by dsimp only; omega, One.val rfl, One.val rfl, Z15, fun j q1 q2 => by rcases (by dsimp only at q2; omega : j < I ∨ j = I) with q | q; exact hall j q1 q; subst q; rw [← hkv]; exact Or.inr hm⟩
          · subst q1
            refine OwnW.if_ge X16  (n1 := 87) (n2 := 85) d8_82 (by decide) rfl rfl (fun q => absurd (hz : zz < 0) q) (fun _ => ?_)
            refine OwnW.iconst X16 (z := (0 : Int32)) (n := 86) d8_85 rfl rfl ?_
            exact OwnW.ireturn X16 rfl (Or.inr (Or.inl rfl)) rfl d8_86 (Or.inr ⟨fun q => by have z := q.2 I hI0 (by omega); rw [← hkv] at z; exact z.elim han hm, rfl⟩) (by first | decide | omega | (dsimp only; omega)) (by first | decide | omega | (dsimp only; omega))
      · intro J14
        refine OwnW.iload X13 (n := 23) d8_21 rfl rfl ?_
        refine OwnW.bipush X13 (z := (97 : Int32)) (n := 25) d8_23 rfl rfl ?_
        refine OwnW.ic_lt X13  (n1 := 35) (n2 := 28) d8_25 (by decide) rfl rfl (fun hc25 => ?_) (fun hc25 => ?_)
        · have kk17 : kv < 97 := (own_lt (i := kv) (n := 97) (by omega) (by omega)).mp hc25
          refine OwnW.iload X13 (n := 37) d8_35 rfl rfl ?_
          refine OwnW.bipush X13 (z := (65 : Int32)) (n := 39) d8_37 rfl rfl ?_
          refine OwnW.ic_lt X13  (n1 := 49) (n2 := 42) d8_39 (by decide) rfl rfl (fun hc39 => ?_) (fun hc39 => ?_)
          · have kk18 : kv < 65 := (own_lt (i := kv) (n := 65) (by omega) (by omega)).mp hc39
            refine OwnW.iload X13 (n := 51) d8_49 rfl rfl ?_
            refine OwnW.bipush X13 (z := (48 : Int32)) (n := 53) d8_51 rfl rfl ?_
            refine OwnW.ic_lt X13  (n1 := 67) (n2 := 56) d8_53 (by decide) rfl rfl (fun hc53 => ?_) (fun hc53 => ?_)
            · have kk19 : kv < 48 := (own_lt (i := kv) (n := 48) (by omega) (by omega)).mp hc53
              refine OwnW.iconst X13 (z := (0 : Int32)) (n := 68) d8_67 rfl rfl ?_
              exact J14 _ (0 : Int32) X13 (Or.inr ⟨rfl, by unfold own_an; omega⟩)
            · have kk20 : ¬ kv < 48 := fun q => hc53 ((own_lt (i := kv) (n := 48) (by omega) (by omega)).mpr q)
              refine OwnW.iload X13 (n := 58) d8_56 rfl rfl ?_
              refine OwnW.bipush X13 (z := (57 : Int32)) (n := 60) d8_58 rfl rfl ?_
              refine OwnW.ic_gt X13  (n1 := 67) (n2 := 63) d8_60 (by decide) rfl rfl (fun hc60 => ?_) (fun hc60 => ?_)
              · have kk21 : 57 < kv := (own_lt (i := 57) (n := kv) (by omega) (by omega)).mp hc60
                refine OwnW.iconst X13 (z := (0 : Int32)) (n := 68) d8_67 rfl rfl ?_
                exact J14 _ (0 : Int32) X13 (Or.inr ⟨rfl, by unfold own_an; omega⟩)
              · have kk22 : ¬ 57 < kv := fun q => hc60 ((own_lt (i := 57) (n := kv) (by omega) (by omega)).mpr q)
                refine OwnW.iconst X13 (z := (1 : Int32)) (n := 64) d8_63 rfl rfl ?_
                refine OwnW.goto X13 (n := 68) d8_64 (by decide) rfl ?_
                exact J14 _ (1 : Int32) X13 (Or.inl ⟨rfl, by unfold own_an; omega⟩)
          · have kk23 : ¬ kv < 65 := fun q => hc39 ((own_lt (i := kv) (n := 65) (by omega) (by omega)).mpr q)
            refine OwnW.iload X13 (n := 44) d8_42 rfl rfl ?_
            refine OwnW.bipush X13 (z := (90 : Int32)) (n := 46) d8_44 rfl rfl ?_
            refine OwnW.ic_le X13  (n1 := 63) (n2 := 49) d8_46 (by decide) rfl rfl (fun hc46 => ?_) (fun hc46 => ?_)
            · have kk24 : ¬ 90 < kv := fun q => hc46 ((own_lt (i := 90) (n := kv) (by omega) (by omega)).mpr q)
              refine OwnW.iconst X13 (z := (1 : Int32)) (n := 64) d8_63 rfl rfl ?_
              refine OwnW.goto X13 (n := 68) d8_64 (by decide) rfl ?_
              exact J14 _ (1 : Int32) X13 (Or.inl ⟨rfl, by unfold own_an; omega⟩)
            · have kk25 : 90 < kv := (own_lt (i := 90) (n := kv) (by omega) (by omega)).mp hc46
              refine OwnW.iload X13 (n := 51) d8_49 rfl rfl ?_
              refine OwnW.bipush X13 (z := (48 : Int32)) (n := 53) d8_51 rfl rfl ?_
              refine OwnW.ic_lt X13  (n1 := 67) (n2 := 56) d8_53 (by decide) rfl rfl (fun hc53 => ?_) (fun hc53 => ?_)
              · have kk26 : kv < 48 := (own_lt (i := kv) (n := 48) (by omega) (by omega)).mp hc53
                refine OwnW.iconst X13 (z := (0 : Int32)) (n := 68) d8_67 rfl rfl ?_
                exact J14 _ (0 : Int32) X13 (Or.inr ⟨rfl, by unfold own_an; omega⟩)
              · have kk27 : ¬ kv < 48 := fun q => hc53 ((own_lt (i := kv) (n := 48) (by omega) (by omega)).mpr q)
                refine OwnW.iload X13 (n := 58) d8_56 rfl rfl ?_
                refine OwnW.bipush X13 (z := (57 : Int32)) (n := 60) d8_58 rfl rfl ?_
                refine OwnW.ic_gt X13  (n1 := 67) (n2 := 63) d8_60 (by decide) rfl rfl (fun hc60 => ?_) (fun hc60 => ?_)
                · have kk28 : 57 < kv := (own_lt (i := 57) (n := kv) (by omega) (by omega)).mp hc60
                  refine OwnW.iconst X13 (z := (0 : Int32)) (n := 68) d8_67 rfl rfl ?_
                  exact J14 _ (0 : Int32) X13 (Or.inr ⟨rfl, by unfold own_an; omega⟩)
                · have kk29 : ¬ 57 < kv := fun q => hc60 ((own_lt (i := 57) (n := kv) (by omega) (by omega)).mpr q)
                  refine OwnW.iconst X13 (z := (1 : Int32)) (n := 64) d8_63 rfl rfl ?_
                  refine OwnW.goto X13 (n := 68) d8_64 (by decide) rfl ?_
                  exact J14 _ (1 : Int32) X13 (Or.inl ⟨rfl, by unfold own_an; omega⟩)
        · have kk30 : ¬ kv < 97 := fun q => hc25 ((own_lt (i := kv) (n := 97) (by omega) (by omega)).mpr q)
          refine OwnW.iload X13 (n := 30) d8_28 rfl rfl ?_
          refine OwnW.bipush X13 (z := (122 : Int32)) (n := 32) d8_30 rfl rfl ?_
          refine OwnW.ic_le X13  (n1 := 63) (n2 := 35) d8_32 (by decide) rfl rfl (fun hc32 => ?_) (fun hc32 => ?_)
          · have kk31 : ¬ 122 < kv := fun q => hc32 ((own_lt (i := 122) (n := kv) (by omega) (by omega)).mpr q)
            refine OwnW.iconst X13 (z := (1 : Int32)) (n := 64) d8_63 rfl rfl ?_
            refine OwnW.goto X13 (n := 68) d8_64 (by decide) rfl ?_
            exact J14 _ (1 : Int32) X13 (Or.inl ⟨rfl, by unfold own_an; omega⟩)
          · have kk32 : 122 < kv := (own_lt (i := 122) (n := kv) (by omega) (by omega)).mp hc32
            refine OwnW.iload X13 (n := 37) d8_35 rfl rfl ?_
            refine OwnW.bipush X13 (z := (65 : Int32)) (n := 39) d8_37 rfl rfl ?_
            refine OwnW.ic_lt X13  (n1 := 49) (n2 := 42) d8_39 (by decide) rfl rfl (fun hc39 => ?_) (fun hc39 => ?_)
            · have kk33 : kv < 65 := (own_lt (i := kv) (n := 65) (by omega) (by omega)).mp hc39
              refine OwnW.iload X13 (n := 51) d8_49 rfl rfl ?_
              refine OwnW.bipush X13 (z := (48 : Int32)) (n := 53) d8_51 rfl rfl ?_
              refine OwnW.ic_lt X13  (n1 := 67) (n2 := 56) d8_53 (by decide) rfl rfl (fun hc53 => ?_) (fun hc53 => ?_)
              · have kk34 : kv < 48 := (own_lt (i := kv) (n := 48) (by omega) (by omega)).mp hc53
                refine OwnW.iconst X13 (z := (0 : Int32)) (n := 68) d8_67 rfl rfl ?_
                exact J14 _ (0 : Int32) X13 (Or.inr ⟨rfl, by unfold own_an; omega⟩)
              · have kk35 : ¬ kv < 48 := fun q => hc53 ((own_lt (i := kv) (n := 48) (by omega) (by omega)).mpr q)
                refine OwnW.iload X13 (n := 58) d8_56 rfl rfl ?_
                refine OwnW.bipush X13 (z := (57 : Int32)) (n := 60) d8_58 rfl rfl ?_
                refine OwnW.ic_gt X13  (n1 := 67) (n2 := 63) d8_60 (by decide) rfl rfl (fun hc60 => ?_) (fun hc60 => ?_)
                · have kk36 : 57 < kv := (own_lt (i := 57) (n := kv) (by omega) (by omega)).mp hc60
                  refine OwnW.iconst X13 (z := (0 : Int32)) (n := 68) d8_67 rfl rfl ?_
                  exact J14 _ (0 : Int32) X13 (Or.inr ⟨rfl, by unfold own_an; omega⟩)
                · have kk37 : ¬ 57 < kv := fun q => hc60 ((own_lt (i := 57) (n := kv) (by omega) (by omega)).mpr q)
                  refine OwnW.iconst X13 (z := (1 : Int32)) (n := 64) d8_63 rfl rfl ?_
                  refine OwnW.goto X13 (n := 68) d8_64 (by decide) rfl ?_
                  exact J14 _ (1 : Int32) X13 (Or.inl ⟨rfl, by unfold own_an; omega⟩)
            · have kk38 : ¬ kv < 65 := fun q => hc39 ((own_lt (i := kv) (n := 65) (by omega) (by omega)).mpr q)
              refine OwnW.iload X13 (n := 44) d8_42 rfl rfl ?_
              refine OwnW.bipush X13 (z := (90 : Int32)) (n := 46) d8_44 rfl rfl ?_
              refine OwnW.ic_le X13  (n1 := 63) (n2 := 49) d8_46 (by decide) rfl rfl (fun hc46 => ?_) (fun hc46 => ?_)
              · have kk39 : ¬ 90 < kv := fun q => hc46 ((own_lt (i := 90) (n := kv) (by omega) (by omega)).mpr q)
                refine OwnW.iconst X13 (z := (1 : Int32)) (n := 64) d8_63 rfl rfl ?_
                refine OwnW.goto X13 (n := 68) d8_64 (by decide) rfl ?_
                exact J14 _ (1 : Int32) X13 (Or.inl ⟨rfl, by unfold own_an; omega⟩)
              · have kk40 : 90 < kv := (own_lt (i := 90) (n := kv) (by omega) (by omega)).mp hc46
                refine OwnW.iload X13 (n := 51) d8_49 rfl rfl ?_
                refine OwnW.bipush X13 (z := (48 : Int32)) (n := 53) d8_51 rfl rfl ?_
                refine OwnW.ic_lt X13  (n1 := 67) (n2 := 56) d8_53 (by decide) rfl rfl (fun hc53 => ?_) (fun hc53 => ?_)
                · have kk41 : kv < 48 := (own_lt (i := kv) (n := 48) (by omega) (by omega)).mp hc53
                  refine OwnW.iconst X13 (z := (0 : Int32)) (n := 68) d8_67 rfl rfl ?_
                  exact J14 _ (0 : Int32) X13 (Or.inr ⟨rfl, by unfold own_an; omega⟩)
                · have kk42 : ¬ kv < 48 := fun q => hc53 ((own_lt (i := kv) (n := 48) (by omega) (by omega)).mpr q)
                  refine OwnW.iload X13 (n := 58) d8_56 rfl rfl ?_
                  refine OwnW.bipush X13 (z := (57 : Int32)) (n := 60) d8_58 rfl rfl ?_
                  refine OwnW.ic_gt X13  (n1 := 67) (n2 := 63) d8_60 (by decide) rfl rfl (fun hc60 => ?_) (fun hc60 => ?_)
                  · have kk43 : 57 < kv := (own_lt (i := 57) (n := kv) (by omega) (by omega)).mp hc60
                    refine OwnW.iconst X13 (z := (0 : Int32)) (n := 68) d8_67 rfl rfl ?_
                    exact J14 _ (0 : Int32) X13 (Or.inr ⟨rfl, by unfold own_an; omega⟩)
                  · have kk44 : ¬ 57 < kv := fun q => hc60 ((own_lt (i := 57) (n := kv) (by omega) (by omega)).mpr q)
                    refine OwnW.iconst X13 (z := (1 : Int32)) (n := 64) d8_63 rfl rfl ?_
                    refine OwnW.goto X13 (n := 68) d8_64 (by decide) rfl ?_
                    exact J14 _ (1 : Int32) X13 (Or.inl ⟨rfl, by unfold own_an; omega⟩)
  · have kk45 : ¬ S < E := fun q => hc2 ((own_lt (i := S) (n := E) (by omega) (by omega)).mpr q)
    refine OwnW.iconst X0 (z := (0 : Int32)) (n := 6) d8_5 rfl rfl ?_
    exact OwnW.ireturn X0 rfl (Or.inr (Or.inl rfl)) rfl d8_6 (Or.inr ⟨fun q => absurd q.1 (by omega), rfl⟩) (by first | decide | omega | (dsimp only; omega)) (by first | decide | omega | (dsimp only; omega))
theorem d15_0 : decode method_5_code 0 = .ok (.iload_n 0, 1) := by decide +kernel
theorem d15_1 : decode method_5_code 1 = .ok (.bipush 32, 2) := by decide +kernel
theorem d15_3 : decode method_5_code 3 = .ok (.if_icmp .le 9, 3) := by decide +kernel
theorem d15_6 : decode method_5_code 6 = .ok (.iload_n 0, 1) := by decide +kernel
theorem d15_7 : decode method_5_code 7 = .ok (.bipush 127, 2) := by decide +kernel
theorem d15_9 : decode method_5_code 9 = .ok (.if_icmp .lt 5, 3) := by decide +kernel
theorem d15_12 : decode method_5_code 12 = .ok (.iconst 0, 1) := by decide +kernel
theorem d15_13 : decode method_5_code 13 = .ok (.ireturn, 1) := by decide +kernel
theorem d15_14 : decode method_5_code 14 = .ok (.iload_n 0, 1) := by decide +kernel
theorem d15_15 : decode method_5_code 15 = .ok (.bipush 34, 2) := by decide +kernel
theorem d15_17 : decode method_5_code 17 = .ok (.if_icmp .eq 27, 3) := by decide +kernel
theorem d15_20 : decode method_5_code 20 = .ok (.iload_n 0, 1) := by decide +kernel
theorem d15_21 : decode method_5_code 21 = .ok (.bipush 40, 2) := by decide +kernel
theorem d15_23 : decode method_5_code 23 = .ok (.if_icmp .eq 21, 3) := by decide +kernel
theorem d15_26 : decode method_5_code 26 = .ok (.iload_n 0, 1) := by decide +kernel
theorem d15_27 : decode method_5_code 27 = .ok (.bipush 41, 2) := by decide +kernel
theorem d15_29 : decode method_5_code 29 = .ok (.if_icmp .eq 15, 3) := by decide +kernel
theorem d15_32 : decode method_5_code 32 = .ok (.iload_n 0, 1) := by decide +kernel
theorem d15_33 : decode method_5_code 33 = .ok (.bipush 44, 2) := by decide +kernel
theorem d15_35 : decode method_5_code 35 = .ok (.if_icmp .eq 9, 3) := by decide +kernel
theorem d15_38 : decode method_5_code 38 = .ok (.iload_n 0, 1) := by decide +kernel
theorem d15_39 : decode method_5_code 39 = .ok (.bipush 47, 2) := by decide +kernel
theorem d15_41 : decode method_5_code 41 = .ok (.if_icmp .ne 5, 3) := by decide +kernel
theorem d15_44 : decode method_5_code 44 = .ok (.iconst 0, 1) := by decide +kernel
theorem d15_45 : decode method_5_code 45 = .ok (.ireturn, 1) := by decide +kernel
theorem d15_46 : decode method_5_code 46 = .ok (.iload_n 0, 1) := by decide +kernel
theorem d15_47 : decode method_5_code 47 = .ok (.bipush 58, 2) := by decide +kernel
theorem d15_49 : decode method_5_code 49 = .ok (.if_icmp .eq 27, 3) := by decide +kernel
theorem d15_52 : decode method_5_code 52 = .ok (.iload_n 0, 1) := by decide +kernel
theorem d15_53 : decode method_5_code 53 = .ok (.bipush 59, 2) := by decide +kernel
theorem d15_55 : decode method_5_code 55 = .ok (.if_icmp .eq 21, 3) := by decide +kernel
theorem d15_58 : decode method_5_code 58 = .ok (.iload_n 0, 1) := by decide +kernel
theorem d15_59 : decode method_5_code 59 = .ok (.bipush 60, 2) := by decide +kernel
theorem d15_61 : decode method_5_code 61 = .ok (.if_icmp .eq 15, 3) := by decide +kernel
theorem d15_64 : decode method_5_code 64 = .ok (.iload_n 0, 1) := by decide +kernel
theorem d15_65 : decode method_5_code 65 = .ok (.bipush 61, 2) := by decide +kernel
theorem d15_67 : decode method_5_code 67 = .ok (.if_icmp .eq 9, 3) := by decide +kernel
theorem d15_70 : decode method_5_code 70 = .ok (.iload_n 0, 1) := by decide +kernel
theorem d15_71 : decode method_5_code 71 = .ok (.bipush 62, 2) := by decide +kernel
theorem d15_73 : decode method_5_code 73 = .ok (.if_icmp .ne 5, 3) := by decide +kernel
theorem d15_76 : decode method_5_code 76 = .ok (.iconst 0, 1) := by decide +kernel
theorem d15_77 : decode method_5_code 77 = .ok (.ireturn, 1) := by decide +kernel
theorem d15_78 : decode method_5_code 78 = .ok (.iload_n 0, 1) := by decide +kernel
theorem d15_79 : decode method_5_code 79 = .ok (.bipush 63, 2) := by decide +kernel
theorem d15_81 : decode method_5_code 81 = .ok (.if_icmp .eq 27, 3) := by decide +kernel
theorem d15_84 : decode method_5_code 84 = .ok (.iload_n 0, 1) := by decide +kernel
theorem d15_85 : decode method_5_code 85 = .ok (.bipush 64, 2) := by decide +kernel
theorem d15_87 : decode method_5_code 87 = .ok (.if_icmp .eq 21, 3) := by decide +kernel
theorem d15_90 : decode method_5_code 90 = .ok (.iload_n 0, 1) := by decide +kernel
theorem d15_91 : decode method_5_code 91 = .ok (.bipush 91, 2) := by decide +kernel
theorem d15_93 : decode method_5_code 93 = .ok (.if_icmp .eq 15, 3) := by decide +kernel
theorem d15_96 : decode method_5_code 96 = .ok (.iload_n 0, 1) := by decide +kernel
theorem d15_97 : decode method_5_code 97 = .ok (.bipush 92, 2) := by decide +kernel
theorem d15_99 : decode method_5_code 99 = .ok (.if_icmp .eq 9, 3) := by decide +kernel
theorem d15_102 : decode method_5_code 102 = .ok (.iload_n 0, 1) := by decide +kernel
theorem d15_103 : decode method_5_code 103 = .ok (.bipush 93, 2) := by decide +kernel
theorem d15_105 : decode method_5_code 105 = .ok (.if_icmp .ne 5, 3) := by decide +kernel
theorem d15_108 : decode method_5_code 108 = .ok (.iconst 0, 1) := by decide +kernel
theorem d15_109 : decode method_5_code 109 = .ok (.ireturn, 1) := by decide +kernel
theorem d15_110 : decode method_5_code 110 = .ok (.iload_n 0, 1) := by decide +kernel
theorem d15_111 : decode method_5_code 111 = .ok (.bipush 123, 2) := by decide +kernel
theorem d15_113 : decode method_5_code 113 = .ok (.if_icmp .eq 9, 3) := by decide +kernel
theorem d15_116 : decode method_5_code 116 = .ok (.iload_n 0, 1) := by decide +kernel
theorem d15_117 : decode method_5_code 117 = .ok (.bipush 125, 2) := by decide +kernel
theorem d15_119 : decode method_5_code 119 = .ok (.if_icmp .ne 5, 3) := by decide +kernel
theorem d15_122 : decode method_5_code 122 = .ok (.iconst 0, 1) := by decide +kernel
theorem d15_123 : decode method_5_code 123 = .ok (.ireturn, 1) := by decide +kernel
theorem d15_124 : decode method_5_code 124 = .ok (.iconst 1, 1) := by decide +kernel
theorem d15_125 : decode method_5_code 125 = .ok (.ireturn, 1) := by decide +kernel
theorem ef_rm15 (m : MethodId) (x0 : Int32) : entryFrame m #[(.int x0)] 1 = mkF m 0 #[.val (.int x0)] [] := by first | (simp [entryFrame, mkF, argsToLocals, Value.category]; done) | rfl
set_option maxRecDepth 65536 in
set_option maxHeartbeats 40000000 in
theorem rm15 (l : Launch) (Z : State) (a0 : Array Value) (hw : ∀ d ∈ tables_1, d.before a0 Z = true) (hE : EW Z a0 own_EL) (ws : List Jvm.Cond)  (h0 : Heap) (n0 : Nat) (cn : Nat) (hcn : cn ≤ 65535) :
    Ctr False l Z own_EL (⟨"com/example/brygga/brygga/HttpHeadIsTokenPinLaw", "tchar", "(C)Z"⟩ : MethodName) method_5_code 1 (some .boolean) ws ({ frames := 0, cells := 0, slots := 0, locals := 0 } : Room) n0 ([]) #[(.int (Int32.ofNat cn))] h0 (Rt (fun w h g => ((own_tch cn ∧ w = .int 1) ∨ (¬ own_tch cn ∧ w = .int 0)) ∧ h0 = h)) := by
  refine Ctr.of (plainFor_of_name pn_com_example_brygga_brygga_HttpHeadIsTokenPinLaw) hE (fun m => ef_rm15 m (Int32.ofNat cn)) ?_
  intro p e s m below meth c T0 X0
  refine OwnW.iloadN X0 (n := 1) d15_0 rfl rfl ?_
  refine OwnW.bipush X0 (z := (32 : Int32)) (n := 3) d15_1 rfl rfl ?_
  refine OwnW.ic_le X0  (n1 := 12) (n2 := 6) d15_3 (by decide) rfl rfl (fun hc3 => ?_) (fun hc3 => ?_)
  · have kk1 : ¬ 32 < cn := fun q => hc3 ((own_lt (i := 32) (n := cn) (by omega) (by omega)).mpr q)
    refine OwnW.iconst X0 (z := (0 : Int32)) (n := 13) d15_12 rfl rfl ?_
    exact OwnW.ireturn X0 rfl (Or.inr (Or.inl rfl)) rfl d15_13 ⟨Or.inr ⟨fun q => by unfold own_tch at q; omega, rfl⟩, rfl⟩ (by decide) (by decide)
  · have kk2 : 32 < cn := (own_lt (i := 32) (n := cn) (by omega) (by omega)).mp hc3
    refine OwnW.iloadN X0 (n := 7) d15_6 rfl rfl ?_
    refine OwnW.bipush X0 (z := (127 : Int32)) (n := 9) d15_7 rfl rfl ?_
    refine OwnW.ic_lt X0  (n1 := 14) (n2 := 12) d15_9 (by decide) rfl rfl (fun hc9 => ?_) (fun hc9 => ?_)
    · have kk3 : cn < 127 := (own_lt (i := cn) (n := 127) (by omega) (by omega)).mp hc9
      refine OwnW.iloadN X0 (n := 15) d15_14 rfl rfl ?_
      refine OwnW.bipush X0 (z := (34 : Int32)) (n := 17) d15_15 rfl rfl ?_
      refine OwnW.ic_eq X0  (n1 := 44) (n2 := 20) d15_17 (by decide) rfl rfl (fun hc17 => ?_) (fun hc17 => ?_)
      · have kk4 : cn = 34 := (own_eqn (i := cn) (n := 34) (by omega) (by omega)).mp hc17
        refine OwnW.iconst X0 (z := (0 : Int32)) (n := 45) d15_44 rfl rfl ?_
        exact OwnW.ireturn X0 rfl (Or.inr (Or.inl rfl)) rfl d15_45 ⟨Or.inr ⟨fun q => by unfold own_tch at q; omega, rfl⟩, rfl⟩ (by decide) (by decide)
      · have kk5 : ¬ cn = 34 := fun q => hc17 ((own_eqn (i := cn) (n := 34) (by omega) (by omega)).mpr q)
        refine OwnW.iloadN X0 (n := 21) d15_20 rfl rfl ?_
        refine OwnW.bipush X0 (z := (40 : Int32)) (n := 23) d15_21 rfl rfl ?_
        refine OwnW.ic_eq X0  (n1 := 44) (n2 := 26) d15_23 (by decide) rfl rfl (fun hc23 => ?_) (fun hc23 => ?_)
        · have kk6 : cn = 40 := (own_eqn (i := cn) (n := 40) (by omega) (by omega)).mp hc23
          refine OwnW.iconst X0 (z := (0 : Int32)) (n := 45) d15_44 rfl rfl ?_
          exact OwnW.ireturn X0 rfl (Or.inr (Or.inl rfl)) rfl d15_45 ⟨Or.inr ⟨fun q => by unfold own_tch at q; omega, rfl⟩, rfl⟩ (by decide) (by decide)
        · have kk7 : ¬ cn = 40 := fun q => hc23 ((own_eqn (i := cn) (n := 40) (by omega) (by omega)).mpr q)
          refine OwnW.iloadN X0 (n := 27) d15_26 rfl rfl ?_
          refine OwnW.bipush X0 (z := (41 : Int32)) (n := 29) d15_27 rfl rfl ?_
          refine OwnW.ic_eq X0  (n1 := 44) (n2 := 32) d15_29 (by decide) rfl rfl (fun hc29 => ?_) (fun hc29 => ?_)
          · have kk8 : cn = 41 := (own_eqn (i := cn) (n := 41) (by omega) (by omega)).mp hc29
            refine OwnW.iconst X0 (z := (0 : Int32)) (n := 45) d15_44 rfl rfl ?_
            exact OwnW.ireturn X0 rfl (Or.inr (Or.inl rfl)) rfl d15_45 ⟨Or.inr ⟨fun q => by unfold own_tch at q; omega, rfl⟩, rfl⟩ (by decide) (by decide)
          · have kk9 : ¬ cn = 41 := fun q => hc29 ((own_eqn (i := cn) (n := 41) (by omega) (by omega)).mpr q)
            refine OwnW.iloadN X0 (n := 33) d15_32 rfl rfl ?_
            refine OwnW.bipush X0 (z := (44 : Int32)) (n := 35) d15_33 rfl rfl ?_
            refine OwnW.ic_eq X0  (n1 := 44) (n2 := 38) d15_35 (by decide) rfl rfl (fun hc35 => ?_) (fun hc35 => ?_)
            · have kk10 : cn = 44 := (own_eqn (i := cn) (n := 44) (by omega) (by omega)).mp hc35
              refine OwnW.iconst X0 (z := (0 : Int32)) (n := 45) d15_44 rfl rfl ?_
              exact OwnW.ireturn X0 rfl (Or.inr (Or.inl rfl)) rfl d15_45 ⟨Or.inr ⟨fun q => by unfold own_tch at q; omega, rfl⟩, rfl⟩ (by decide) (by decide)
            · have kk11 : ¬ cn = 44 := fun q => hc35 ((own_eqn (i := cn) (n := 44) (by omega) (by omega)).mpr q)
              refine OwnW.iloadN X0 (n := 39) d15_38 rfl rfl ?_
              refine OwnW.bipush X0 (z := (47 : Int32)) (n := 41) d15_39 rfl rfl ?_
              refine OwnW.ic_ne X0  (n1 := 46) (n2 := 44) d15_41 (by decide) rfl rfl (fun hc41 => ?_) (fun hc41 => ?_)
              · have kk12 : ¬ cn = 47 := fun q => hc41 ((own_eqn (i := cn) (n := 47) (by omega) (by omega)).mpr q)
                refine OwnW.iloadN X0 (n := 47) d15_46 rfl rfl ?_
                refine OwnW.bipush X0 (z := (58 : Int32)) (n := 49) d15_47 rfl rfl ?_
                refine OwnW.ic_eq X0  (n1 := 76) (n2 := 52) d15_49 (by decide) rfl rfl (fun hc49 => ?_) (fun hc49 => ?_)
                · have kk13 : cn = 58 := (own_eqn (i := cn) (n := 58) (by omega) (by omega)).mp hc49
                  refine OwnW.iconst X0 (z := (0 : Int32)) (n := 77) d15_76 rfl rfl ?_
                  exact OwnW.ireturn X0 rfl (Or.inr (Or.inl rfl)) rfl d15_77 ⟨Or.inr ⟨fun q => by unfold own_tch at q; omega, rfl⟩, rfl⟩ (by decide) (by decide)
                · have kk14 : ¬ cn = 58 := fun q => hc49 ((own_eqn (i := cn) (n := 58) (by omega) (by omega)).mpr q)
                  refine OwnW.iloadN X0 (n := 53) d15_52 rfl rfl ?_
                  refine OwnW.bipush X0 (z := (59 : Int32)) (n := 55) d15_53 rfl rfl ?_
                  refine OwnW.ic_eq X0  (n1 := 76) (n2 := 58) d15_55 (by decide) rfl rfl (fun hc55 => ?_) (fun hc55 => ?_)
                  · have kk15 : cn = 59 := (own_eqn (i := cn) (n := 59) (by omega) (by omega)).mp hc55
                    refine OwnW.iconst X0 (z := (0 : Int32)) (n := 77) d15_76 rfl rfl ?_
                    exact OwnW.ireturn X0 rfl (Or.inr (Or.inl rfl)) rfl d15_77 ⟨Or.inr ⟨fun q => by unfold own_tch at q; omega, rfl⟩, rfl⟩ (by decide) (by decide)
                  · have kk16 : ¬ cn = 59 := fun q => hc55 ((own_eqn (i := cn) (n := 59) (by omega) (by omega)).mpr q)
                    refine OwnW.iloadN X0 (n := 59) d15_58 rfl rfl ?_
                    refine OwnW.bipush X0 (z := (60 : Int32)) (n := 61) d15_59 rfl rfl ?_
                    refine OwnW.ic_eq X0  (n1 := 76) (n2 := 64) d15_61 (by decide) rfl rfl (fun hc61 => ?_) (fun hc61 => ?_)
                    · have kk17 : cn = 60 := (own_eqn (i := cn) (n := 60) (by omega) (by omega)).mp hc61
                      refine OwnW.iconst X0 (z := (0 : Int32)) (n := 77) d15_76 rfl rfl ?_
                      exact OwnW.ireturn X0 rfl (Or.inr (Or.inl rfl)) rfl d15_77 ⟨Or.inr ⟨fun q => by unfold own_tch at q; omega, rfl⟩, rfl⟩ (by decide) (by decide)
                    · have kk18 : ¬ cn = 60 := fun q => hc61 ((own_eqn (i := cn) (n := 60) (by omega) (by omega)).mpr q)
                      refine OwnW.iloadN X0 (n := 65) d15_64 rfl rfl ?_
                      refine OwnW.bipush X0 (z := (61 : Int32)) (n := 67) d15_65 rfl rfl ?_
                      refine OwnW.ic_eq X0  (n1 := 76) (n2 := 70) d15_67 (by decide) rfl rfl (fun hc67 => ?_) (fun hc67 => ?_)
                      · have kk19 : cn = 61 := (own_eqn (i := cn) (n := 61) (by omega) (by omega)).mp hc67
                        refine OwnW.iconst X0 (z := (0 : Int32)) (n := 77) d15_76 rfl rfl ?_
                        exact OwnW.ireturn X0 rfl (Or.inr (Or.inl rfl)) rfl d15_77 ⟨Or.inr ⟨fun q => by unfold own_tch at q; omega, rfl⟩, rfl⟩ (by decide) (by decide)
                      · have kk20 : ¬ cn = 61 := fun q => hc67 ((own_eqn (i := cn) (n := 61) (by omega) (by omega)).mpr q)
                        refine OwnW.iloadN X0 (n := 71) d15_70 rfl rfl ?_
                        refine OwnW.bipush X0 (z := (62 : Int32)) (n := 73) d15_71 rfl rfl ?_
                        refine OwnW.ic_ne X0  (n1 := 78) (n2 := 76) d15_73 (by decide) rfl rfl (fun hc73 => ?_) (fun hc73 => ?_)
                        · have kk21 : ¬ cn = 62 := fun q => hc73 ((own_eqn (i := cn) (n := 62) (by omega) (by omega)).mpr q)
                          refine OwnW.iloadN X0 (n := 79) d15_78 rfl rfl ?_
                          refine OwnW.bipush X0 (z := (63 : Int32)) (n := 81) d15_79 rfl rfl ?_
                          refine OwnW.ic_eq X0  (n1 := 108) (n2 := 84) d15_81 (by decide) rfl rfl (fun hc81 => ?_) (fun hc81 => ?_)
                          · have kk22 : cn = 63 := (own_eqn (i := cn) (n := 63) (by omega) (by omega)).mp hc81
                            refine OwnW.iconst X0 (z := (0 : Int32)) (n := 109) d15_108 rfl rfl ?_
                            exact OwnW.ireturn X0 rfl (Or.inr (Or.inl rfl)) rfl d15_109 ⟨Or.inr ⟨fun q => by unfold own_tch at q; omega, rfl⟩, rfl⟩ (by decide) (by decide)
                          · have kk23 : ¬ cn = 63 := fun q => hc81 ((own_eqn (i := cn) (n := 63) (by omega) (by omega)).mpr q)
                            refine OwnW.iloadN X0 (n := 85) d15_84 rfl rfl ?_
                            refine OwnW.bipush X0 (z := (64 : Int32)) (n := 87) d15_85 rfl rfl ?_
                            refine OwnW.ic_eq X0  (n1 := 108) (n2 := 90) d15_87 (by decide) rfl rfl (fun hc87 => ?_) (fun hc87 => ?_)
                            · have kk24 : cn = 64 := (own_eqn (i := cn) (n := 64) (by omega) (by omega)).mp hc87
                              refine OwnW.iconst X0 (z := (0 : Int32)) (n := 109) d15_108 rfl rfl ?_
                              exact OwnW.ireturn X0 rfl (Or.inr (Or.inl rfl)) rfl d15_109 ⟨Or.inr ⟨fun q => by unfold own_tch at q; omega, rfl⟩, rfl⟩ (by decide) (by decide)
                            · have kk25 : ¬ cn = 64 := fun q => hc87 ((own_eqn (i := cn) (n := 64) (by omega) (by omega)).mpr q)
                              refine OwnW.iloadN X0 (n := 91) d15_90 rfl rfl ?_
                              refine OwnW.bipush X0 (z := (91 : Int32)) (n := 93) d15_91 rfl rfl ?_
                              refine OwnW.ic_eq X0  (n1 := 108) (n2 := 96) d15_93 (by decide) rfl rfl (fun hc93 => ?_) (fun hc93 => ?_)
                              · have kk26 : cn = 91 := (own_eqn (i := cn) (n := 91) (by omega) (by omega)).mp hc93
                                refine OwnW.iconst X0 (z := (0 : Int32)) (n := 109) d15_108 rfl rfl ?_
                                exact OwnW.ireturn X0 rfl (Or.inr (Or.inl rfl)) rfl d15_109 ⟨Or.inr ⟨fun q => by unfold own_tch at q; omega, rfl⟩, rfl⟩ (by decide) (by decide)
                              · have kk27 : ¬ cn = 91 := fun q => hc93 ((own_eqn (i := cn) (n := 91) (by omega) (by omega)).mpr q)
                                refine OwnW.iloadN X0 (n := 97) d15_96 rfl rfl ?_
                                refine OwnW.bipush X0 (z := (92 : Int32)) (n := 99) d15_97 rfl rfl ?_
                                refine OwnW.ic_eq X0  (n1 := 108) (n2 := 102) d15_99 (by decide) rfl rfl (fun hc99 => ?_) (fun hc99 => ?_)
                                · have kk28 : cn = 92 := (own_eqn (i := cn) (n := 92) (by omega) (by omega)).mp hc99
                                  refine OwnW.iconst X0 (z := (0 : Int32)) (n := 109) d15_108 rfl rfl ?_
                                  exact OwnW.ireturn X0 rfl (Or.inr (Or.inl rfl)) rfl d15_109 ⟨Or.inr ⟨fun q => by unfold own_tch at q; omega, rfl⟩, rfl⟩ (by decide) (by decide)
                                · have kk29 : ¬ cn = 92 := fun q => hc99 ((own_eqn (i := cn) (n := 92) (by omega) (by omega)).mpr q)
                                  refine OwnW.iloadN X0 (n := 103) d15_102 rfl rfl ?_
                                  refine OwnW.bipush X0 (z := (93 : Int32)) (n := 105) d15_103 rfl rfl ?_
                                  refine OwnW.ic_ne X0  (n1 := 110) (n2 := 108) d15_105 (by decide) rfl rfl (fun hc105 => ?_) (fun hc105 => ?_)
                                  · have kk30 : ¬ cn = 93 := fun q => hc105 ((own_eqn (i := cn) (n := 93) (by omega) (by omega)).mpr q)
                                    refine OwnW.iloadN X0 (n := 111) d15_110 rfl rfl ?_
                                    refine OwnW.bipush X0 (z := (123 : Int32)) (n := 113) d15_111 rfl rfl ?_
                                    refine OwnW.ic_eq X0  (n1 := 122) (n2 := 116) d15_113 (by decide) rfl rfl (fun hc113 => ?_) (fun hc113 => ?_)
                                    · have kk31 : cn = 123 := (own_eqn (i := cn) (n := 123) (by omega) (by omega)).mp hc113
                                      refine OwnW.iconst X0 (z := (0 : Int32)) (n := 123) d15_122 rfl rfl ?_
                                      exact OwnW.ireturn X0 rfl (Or.inr (Or.inl rfl)) rfl d15_123 ⟨Or.inr ⟨fun q => by unfold own_tch at q; omega, rfl⟩, rfl⟩ (by decide) (by decide)
                                    · have kk32 : ¬ cn = 123 := fun q => hc113 ((own_eqn (i := cn) (n := 123) (by omega) (by omega)).mpr q)
                                      refine OwnW.iloadN X0 (n := 117) d15_116 rfl rfl ?_
                                      refine OwnW.bipush X0 (z := (125 : Int32)) (n := 119) d15_117 rfl rfl ?_
                                      refine OwnW.ic_ne X0  (n1 := 124) (n2 := 122) d15_119 (by decide) rfl rfl (fun hc119 => ?_) (fun hc119 => ?_)
                                      · have kk33 : ¬ cn = 125 := fun q => hc119 ((own_eqn (i := cn) (n := 125) (by omega) (by omega)).mpr q)
                                        refine OwnW.iconst X0 (z := (1 : Int32)) (n := 125) d15_124 rfl rfl ?_
                                        exact OwnW.ireturn X0 rfl (Or.inr (Or.inl rfl)) rfl d15_125 ⟨Or.inl ⟨⟨by omega, by omega, by omega, by omega, by omega, by omega, by omega, by omega, by omega, by omega, by omega, by omega, by omega, by omega, by omega, by omega, by omega, by omega, by omega⟩, rfl⟩, rfl⟩ (by decide) (by decide)
                                      · have kk34 : cn = 125 := (own_eqn (i := cn) (n := 125) (by omega) (by omega)).mp hc119
                                        refine OwnW.iconst X0 (z := (0 : Int32)) (n := 123) d15_122 rfl rfl ?_
                                        exact OwnW.ireturn X0 rfl (Or.inr (Or.inl rfl)) rfl d15_123 ⟨Or.inr ⟨fun q => by unfold own_tch at q; omega, rfl⟩, rfl⟩ (by decide) (by decide)
                                  · have kk35 : cn = 93 := (own_eqn (i := cn) (n := 93) (by omega) (by omega)).mp hc105
                                    refine OwnW.iconst X0 (z := (0 : Int32)) (n := 109) d15_108 rfl rfl ?_
                                    exact OwnW.ireturn X0 rfl (Or.inr (Or.inl rfl)) rfl d15_109 ⟨Or.inr ⟨fun q => by unfold own_tch at q; omega, rfl⟩, rfl⟩ (by decide) (by decide)
                        · have kk36 : cn = 62 := (own_eqn (i := cn) (n := 62) (by omega) (by omega)).mp hc73
                          refine OwnW.iconst X0 (z := (0 : Int32)) (n := 77) d15_76 rfl rfl ?_
                          exact OwnW.ireturn X0 rfl (Or.inr (Or.inl rfl)) rfl d15_77 ⟨Or.inr ⟨fun q => by unfold own_tch at q; omega, rfl⟩, rfl⟩ (by decide) (by decide)
              · have kk37 : cn = 47 := (own_eqn (i := cn) (n := 47) (by omega) (by omega)).mp hc41
                refine OwnW.iconst X0 (z := (0 : Int32)) (n := 45) d15_44 rfl rfl ?_
                exact OwnW.ireturn X0 rfl (Or.inr (Or.inl rfl)) rfl d15_45 ⟨Or.inr ⟨fun q => by unfold own_tch at q; omega, rfl⟩, rfl⟩ (by decide) (by decide)
    · have kk38 : ¬ cn < 127 := fun q => hc9 ((own_lt (i := cn) (n := 127) (by omega) (by omega)).mpr q)
      refine OwnW.iconst X0 (z := (0 : Int32)) (n := 13) d15_12 rfl rfl ?_
      exact OwnW.ireturn X0 rfl (Or.inr (Or.inl rfl)) rfl d15_13 ⟨Or.inr ⟨fun q => by unfold own_tch at q; omega, rfl⟩, rfl⟩ (by decide) (by decide)
theorem pd__C_Z : parseMethodDescriptor "(C)Z" = some ⟨[.char], some .boolean⟩ := by decide +kernel
theorem d14_0 : decode method_4_code 0 = .ok (.iload_n 1, 1) := by decide +kernel
theorem d14_1 : decode method_4_code 1 = .ok (.iload_n 2, 1) := by decide +kernel
theorem d14_2 : decode method_4_code 2 = .ok (.if_icmp .lt 8, 3) := by decide +kernel
theorem d14_5 : decode method_4_code 5 = .ok (.iload_n 1, 1) := by decide +kernel
theorem d14_6 : decode method_4_code 6 = .ok (.iload_n 3, 1) := by decide +kernel
theorem d14_7 : decode method_4_code 7 = .ok (.if_icmp .lt 5, 3) := by decide +kernel
theorem d14_10 : decode method_4_code 10 = .ok (.iconst 1, 1) := by decide +kernel
theorem d14_11 : decode method_4_code 11 = .ok (.ireturn, 1) := by decide +kernel
theorem d14_12 : decode method_4_code 12 = .ok (.iload_n 0, 1) := by decide +kernel
theorem d14_13 : decode method_4_code 13 = .ok (.invokestatic 30, 3) := by decide +kernel
theorem d14_16 : decode method_4_code 16 = .ok (.ireturn, 1) := by decide +kernel
theorem ef_rm14 (m : MethodId) (x0 : Int32) (x1 : Int32) (x2 : Int32) (x3 : Int32) : entryFrame m #[(.int x0), (.int x1), (.int x2), (.int x3)] 4 = mkF m 0 #[.val (.int x0), .val (.int x1), .val (.int x2), .val (.int x3)] [] := by first | (simp [entryFrame, mkF, argsToLocals, Value.category]; done) | rfl
set_option maxRecDepth 65536 in
set_option maxHeartbeats 40000000 in
theorem rm14 (l : Launch) (Z : State) (a0 : Array Value) (hw : ∀ d ∈ tables_1, d.before a0 Z = true) (hE : EW Z a0 own_EL) (ws : List Jvm.Cond)  (h0 : Heap) (n0 : Nat) (cn : Nat) (hcn : cn ≤ 65535) (i S E : Nat) (hi4 : i ≤ 4) (hS4 : S ≤ 4) (hE4 : E ≤ 4) :
    Ctr False l Z own_EL (⟨"com/example/brygga/brygga/HttpHeadIsTokenPinLaw", "ok", "(CIII)Z"⟩ : MethodName) method_4_code 4 (some .boolean) ws ({ frames := 1, cells := 0, slots := 0, locals := 12 } : Room) n0 ([]) #[(.int (Int32.ofNat cn)), (.int (Int32.ofNat i)), (.int (Int32.ofNat S)), (.int (Int32.ofNat E))] h0 (Rt (fun w h g => (((S ≤ i → i < E → own_tch cn) ∧ w = .int 1) ∨ (¬ (S ≤ i → i < E → own_tch cn) ∧ w = .int 0)) ∧ h0 = h)) := by
  refine Ctr.of (plainFor_of_name pn_com_example_brygga_brygga_HttpHeadIsTokenPinLaw) hE (fun m => ef_rm14 m (Int32.ofNat cn) (Int32.ofNat i) (Int32.ofNat S) (Int32.ofNat E)) ?_
  intro p e s m below meth c T0 X0
  refine OwnW.iloadN X0 (n := 1) d14_0 rfl rfl ?_
  refine OwnW.iloadN X0 (n := 2) d14_1 rfl rfl ?_
  refine OwnW.ic_lt X0  (n1 := 10) (n2 := 5) d14_2 (by decide) rfl rfl (fun hc2 => ?_) (fun hc2 => ?_)
  · have kk1 : i < S := (own_lt (i := i) (n := S) (by omega) (by omega)).mp hc2
    refine OwnW.iconst X0 (z := (1 : Int32)) (n := 11) d14_10 rfl rfl ?_
    exact OwnW.ireturn X0 rfl (Or.inr (Or.inl rfl)) rfl d14_11 ⟨Or.inl ⟨fun q1 q2 => absurd q1 (by omega), rfl⟩, rfl⟩ (by decide) (by decide)
  · have kk2 : ¬ i < S := fun q => hc2 ((own_lt (i := i) (n := S) (by omega) (by omega)).mpr q)
    refine OwnW.iloadN X0 (n := 6) d14_5 rfl rfl ?_
    refine OwnW.iloadN X0 (n := 7) d14_6 rfl rfl ?_
    refine OwnW.ic_lt X0  (n1 := 12) (n2 := 10) d14_7 (by decide) rfl rfl (fun hc7 => ?_) (fun hc7 => ?_)
    · have kk3 : i < E := (own_lt (i := i) (n := E) (by omega) (by omega)).mp hc7
      refine OwnW.iloadN X0 (n := 13) d14_12 rfl rfl ?_
      refine OwnW.call_static_v X0 (z := (⟨"com/example/brygga/brygga/HttpHeadIsTokenPinLaw", "tchar", "(C)Z"⟩ : MethodName)) (n := 16) d14_13 (hw _ (List.mem_of_getElem? (i := 62) rfl)) (hw _ (List.mem_of_getElem? (i := 63) rfl)) (hw _ (List.mem_of_getElem? (i := 64) rfl)) (hw _ (List.mem_of_getElem? (i := 2) rfl)) (by decide) (rm15 l Z a0 hw hE [] h0 n0 cn hcn) OwnW.sf0 (argsL := [(.int (Int32.ofNat cn))]) (rest := []) rfl rfl (OwnW.lenA pd__C_Z rfl) (W := 0) (Nat.le_of_eq rfl) (by decide) (by decide) (by decide) (by decide) rfl ?_
      intro T4 h4 w4 g4 hle4 X4 ⟨hq, q2⟩
      subst q2
      rcases hq with ⟨ho5, q1⟩ | ⟨ho5, q1⟩
      · subst q1
        exact OwnW.ireturn X4 rfl (Or.inr (Or.inl rfl)) rfl d14_16 ⟨Or.inl ⟨fun _ _ => ho5, rfl⟩, rfl⟩ (by decide) (by decide)
      · subst q1
        exact OwnW.ireturn X4 rfl (Or.inr (Or.inl rfl)) rfl d14_16 ⟨Or.inr ⟨fun q => ho5 (q (by omega) (by omega)), rfl⟩, rfl⟩ (by decide) (by decide)
    · have kk6 : ¬ i < E := fun q => hc7 ((own_lt (i := i) (n := E) (by omega) (by omega)).mpr q)
      refine OwnW.iconst X0 (z := (1 : Int32)) (n := 11) d14_10 rfl rfl ?_
      exact OwnW.ireturn X0 rfl (Or.inr (Or.inl rfl)) rfl d14_11 ⟨Or.inl ⟨fun q1 q2 => absurd q1 (by omega), rfl⟩, rfl⟩ (by decide) (by decide)
theorem own_5n (x : Int32) : ∃ n : Nat, ((x &&& 255) % 5) = Int32.ofNat n ∧ n ≤ 4 := by
  have h1 := c_and x 255 (by decide)
  have h2 := (c_irem (x &&& 255) 5 5 (by decide)).1 h1.1
  exact own_ofInt _ 4 (by omega) (by omega) (by decide)
theorem own_good (ua ub uc ud S E : Nat) (hE : E ≤ 4) : (S < E ∧ ∀ j, S ≤ j → j < E → own_t (own_k ua ub uc ud j)) ↔ (S < E ∧ (S ≤ 0 → 0 < E → own_tch ua) ∧ (S ≤ 1 → 1 < E → own_tch ub) ∧ (S ≤ 2 → 2 < E → own_tch uc) ∧ (S ≤ 3 → 3 < E → own_tch ud)) := by
  constructor
  · rintro ⟨h, q⟩
    refine ⟨h, fun a c => ?_, fun a c => ?_, fun a c => ?_, fun a c => ?_⟩
    · exact (own_same _).mp (q 0 a c)
    · exact (own_same _).mp (q 1 a c)
    · exact (own_same _).mp (q 2 a c)
    · exact (own_same _).mp (q 3 a c)
  · rintro ⟨h, qa, qb, qc, qd⟩
    refine ⟨h, fun j a c => ?_⟩
    rcases (by omega : j = 0 ∨ j = 1 ∨ j = 2 ∨ j = 3) with z | z | z | z <;> subst z
    · exact (own_same _).mpr (qa a c)
    · exact (own_same _).mpr (qb a c)
    · exact (own_same _).mpr (qc a c)
    · exact (own_same _).mpr (qd a c)
theorem pd___C_V : parseMethodDescriptor "([C)V" = some ⟨[(.array .char)], none⟩ := by decide +kernel
theorem pd__Ljava_lang_String_II_Z : parseMethodDescriptor "(Ljava/lang/String;II)Z" = some ⟨[(.object "java/lang/String"), .int, .int], some .boolean⟩ := by decide +kernel
theorem pd__CIII_Z : parseMethodDescriptor "(CIII)Z" = some ⟨[.char, .int, .int, .int], some .boolean⟩ := by decide +kernel
theorem ef_rm0 (m : MethodId) (x0 : Int32) (x1 : Int32) (x2 : Int32) (x3 : Int32) (x4 : Int32) : entryFrame m #[(.int x0), (.int x1), (.int x2), (.int x3), (.int x4)] maxLocals = mkF m 0 #[.val (.int x0), .val (.int x1), .val (.int x2), .val (.int x3), .val (.int x4), .unset, .unset, .unset, .unset, .unset, .unset, .unset, .unset, .unset] [] := by first | (simp [entryFrame, mkF, argsToLocals, Value.category, maxLocals]; done) | rfl
set_option maxRecDepth 65536 in
set_option maxHeartbeats 40000000 in
theorem rm0 (l : Launch) (Z : State) (a0 : Array Value) (hw : ∀ d ∈ tables_1, d.before a0 Z = true) (hE : EW Z a0 own_EL) (ws : List Jvm.Cond) (p0 : Int32) (p1 : Int32) (p2 : Int32) (p3 : Int32) (p4 : Int32) (h0 : Heap) (n0 : Nat) (O0 : Old Z n0 h0) (zc : Int32) (hzc : ¬ zc = 0) (S_compact : Sta Z Z.heap "java/lang/String" "COMPACT_STRINGS" "Z" (.int zc)) (fm : Value) (hfm : fm = .null ∨ ∃ r, fm = .ref r) (S_fm : Sta Z Z.heap "jdk/internal/util/Preconditions" "SIOOBE_FORMATTER" "Ljava/util/function/BiFunction;" fm) (S_ad : Sta Z Z.heap "java/lang/StringUTF16" "$assertionsDisabled" "Z" (.int 1)) (S_hi : Sta Z Z.heap "java/lang/StringUTF16" "HI_BYTE_SHIFT" "I" (.int 0)) (S_lo : Sta Z Z.heap "java/lang/StringUTF16" "LO_BYTE_SHIFT" "I" (.int 8)) :
    Ctr False l Z own_EL x code maxLocals ret ws room_1 n0 ([]) #[(.int p0), (.int p1), (.int p2), (.int p3), (.int p4)] h0 (Rt (fun w h g => w = .int 1)) := by
  refine Ctr.of (plainFor_of_name pn_com_example_brygga_brygga_HttpHeadIsTokenPinLaw) hE (fun m => ef_rm0 m p0 p1 p2 p3 p4) ?_
  intro p e s m below meth c T0 X0
  have Z0 : Keep h0 h0 [] := Keep.refl _ _
  refine OwnW.iloadN X0 (n := 1) at_0 rfl rfl ?_
  refine OwnW.call_static_v X0 (z := (⟨"com/example/brygga/brygga/HttpHeadIsTokenPinLaw", "ch", "(I)C"⟩ : MethodName)) (n := 4) at_1 (hw _ (List.mem_of_getElem? (i := 0) rfl)) (hw _ (List.mem_of_getElem? (i := 1) rfl)) (hw _ (List.mem_of_getElem? (i := 3) rfl)) (hw _ (List.mem_of_getElem? (i := 2) rfl)) (by decide) (rm1 l Z a0 hw hE [] p0 h0 n0) OwnW.sf0 (argsL := [(.int p0)]) (rest := []) rfl rfl (OwnW.lenA pd__I_C rfl) (W := 0) (Nat.le_of_eq rfl) (by decide) (by decide) (by decide) (by decide) rfl ?_
  intro T1 h1 w1 g1 hle1 X1 ⟨ua, q1, hua, q2⟩
  subst q1 q2
  refine OwnW.istore X1 (l' := #[.val (.int p0), .val (.int p1), .val (.int p2), .val (.int p3), .val (.int p4), .val (.int (Int32.ofNat ua)), .unset, .unset, .unset, .unset, .unset, .unset, .unset, .unset]) (n := 6) at_4 rfl rfl ?_
  refine OwnW.iloadN X1 (n := 7) at_6 rfl rfl ?_
  refine OwnW.call_static_v X1 (z := (⟨"com/example/brygga/brygga/HttpHeadIsTokenPinLaw", "ch", "(I)C"⟩ : MethodName)) (n := 10) at_7 (hw _ (List.mem_of_getElem? (i := 0) rfl)) (hw _ (List.mem_of_getElem? (i := 1) rfl)) (hw _ (List.mem_of_getElem? (i := 3) rfl)) (hw _ (List.mem_of_getElem? (i := 2) rfl)) (by decide) (rm1 l Z a0 hw hE [] p1 h0 n0) OwnW.sf0 (argsL := [(.int p1)]) (rest := []) rfl rfl (OwnW.lenA pd__I_C rfl) (W := 0) (Nat.le_of_eq rfl) (by decide) (by decide) (by decide) (by decide) rfl ?_
  intro T2 h2 w2 g2 hle2 X2 ⟨ub, q1, hub, q2⟩
  subst q1 q2
  refine OwnW.istore X2 (l' := #[.val (.int p0), .val (.int p1), .val (.int p2), .val (.int p3), .val (.int p4), .val (.int (Int32.ofNat ua)), .val (.int (Int32.ofNat ub)), .unset, .unset, .unset, .unset, .unset, .unset, .unset]) (n := 12) at_10 rfl rfl ?_
  refine OwnW.iloadN X2 (n := 13) at_12 rfl rfl ?_
  refine OwnW.call_static_v X2 (z := (⟨"com/example/brygga/brygga/HttpHeadIsTokenPinLaw", "ch", "(I)C"⟩ : MethodName)) (n := 16) at_13 (hw _ (List.mem_of_getElem? (i := 0) rfl)) (hw _ (List.mem_of_getElem? (i := 1) rfl)) (hw _ (List.mem_of_getElem? (i := 3) rfl)) (hw _ (List.mem_of_getElem? (i := 2) rfl)) (by decide) (rm1 l Z a0 hw hE [] p2 h0 n0) OwnW.sf0 (argsL := [(.int p2)]) (rest := []) rfl rfl (OwnW.lenA pd__I_C rfl) (W := 0) (Nat.le_of_eq rfl) (by decide) (by decide) (by decide) (by decide) rfl ?_
  intro T3 h3 w3 g3 hle3 X3 ⟨uc, q1, huc, q2⟩
  subst q1 q2
  refine OwnW.istore X3 (l' := #[.val (.int p0), .val (.int p1), .val (.int p2), .val (.int p3), .val (.int p4), .val (.int (Int32.ofNat ua)), .val (.int (Int32.ofNat ub)), .val (.int (Int32.ofNat uc)), .unset, .unset, .unset, .unset, .unset, .unset]) (n := 18) at_16 rfl rfl ?_
  refine OwnW.iloadN X3 (n := 19) at_18 rfl rfl ?_
  refine OwnW.call_static_v X3 (z := (⟨"com/example/brygga/brygga/HttpHeadIsTokenPinLaw", "ch", "(I)C"⟩ : MethodName)) (n := 22) at_19 (hw _ (List.mem_of_getElem? (i := 0) rfl)) (hw _ (List.mem_of_getElem? (i := 1) rfl)) (hw _ (List.mem_of_getElem? (i := 3) rfl)) (hw _ (List.mem_of_getElem? (i := 2) rfl)) (by decide) (rm1 l Z a0 hw hE [] p3 h0 n0) OwnW.sf0 (argsL := [(.int p3)]) (rest := []) rfl rfl (OwnW.lenA pd__I_C rfl) (W := 0) (Nat.le_of_eq rfl) (by decide) (by decide) (by decide) (by decide) rfl ?_
  intro T4 h4 w4 g4 hle4 X4 ⟨ud, q1, hud, q2⟩
  subst q1 q2
  refine OwnW.istore X4 (l' := #[.val (.int p0), .val (.int p1), .val (.int p2), .val (.int p3), .val (.int p4), .val (.int (Int32.ofNat ua)), .val (.int (Int32.ofNat ub)), .val (.int (Int32.ofNat uc)), .val (.int (Int32.ofNat ud)), .unset, .unset, .unset, .unset, .unset]) (n := 24) at_22 rfl rfl ?_
  refine OwnW.iconst X4 (z := (4 : Int32)) (n := 25) at_24 rfl rfl ?_
  refine OwnW.newarray X4 (len := 4) (cap := 4) (n := 27) at_25 (hw _ (List.mem_of_getElem? (i := 6) rfl)) rfl (by decide) (by decide) (by decide) (by decide) rfl ?_
  intro T5 h5 b5 gb5 X5 E5 A5
  have ge_b5 : n0 ≤ b5 := by rw [gb5]; exact OwnW.oldLe O0
  have K5 := (OwnW.kExt E5)
  have O5 := O0.keep K5 all0
  have Z5 : Keep h0 h5 [] := Z0.trans K5 (fun x hx => nomatch hx)
  have sz_b5 : h0.size ≤ b5 := by rw [gb5]; exact Z0.1
  replace A5 : Ark Z h5 b5 .char [(.int (0 : Int32)), (.int (0 : Int32)), (.int (0 : Int32)), (.int (0 : Int32))] := A5
  refine OwnW.astore X5 (l' := #[.val (.int p0), .val (.int p1), .val (.int p2), .val (.int p3), .val (.int p4), .val (.int (Int32.ofNat ua)), .val (.int (Int32.ofNat ub)), .val (.int (Int32.ofNat uc)), .val (.int (Int32.ofNat ud)), .val (.ref b5), .unset, .unset, .unset, .unset]) (n := 29) at_27 rfl rfl rfl ?_
  refine OwnW.aload X5 (n := 31) at_29 rfl rfl rfl ?_
  refine OwnW.iconst X5 (z := (0 : Int32)) (n := 32) at_31 rfl rfl ?_
  refine OwnW.iload X5 (n := 34) at_32 rfl rfl ?_
  refine OwnW.castore X5 (i := 0) (z := (Int32.ofNat ua)) (n := 35) at_34 A5 rfl (Nat.le_of_ble_eq_true rfl) (own_nar16 hua) ge_b5 (List.mem_cons_self ..) rfl ?_
  intro T6 h6 X6 W6 A6
  have K6 := (Keep.of_wr W6)
  have O6 := O5.keep K6 (allS ge_b5 all0)
  have Z6 : Keep h0 h6 [] := Z5.trans K6 (allS (P := fun x => x ∈ [] ∨ h0.size ≤ x) (Or.inr sz_b5) all0)
  replace A6 : Ark Z h6 b5 .char [(.int (Int32.ofNat ua)), (.int (0 : Int32)), (.int (0 : Int32)), (.int (0 : Int32))] := A6
  refine OwnW.aload X6 (n := 37) at_35 rfl rfl rfl ?_
  refine OwnW.iconst X6 (z := (1 : Int32)) (n := 38) at_37 rfl rfl ?_
  refine OwnW.iload X6 (n := 40) at_38 rfl rfl ?_
  refine OwnW.castore X6 (i := 1) (z := (Int32.ofNat ub)) (n := 41) at_40 A6 rfl (Nat.le_of_ble_eq_true rfl) (own_nar16 hub) ge_b5 (List.mem_cons_self ..) rfl ?_
  intro T7 h7 X7 W7 A7
  have K7 := (Keep.of_wr W7)
  have O7 := O6.keep K7 (allS ge_b5 all0)
  have Z7 : Keep h0 h7 [] := Z6.trans K7 (allS (P := fun x => x ∈ [] ∨ h0.size ≤ x) (Or.inr sz_b5) all0)
  replace A7 : Ark Z h7 b5 .char [(.int (Int32.ofNat ua)), (.int (Int32.ofNat ub)), (.int (0 : Int32)), (.int (0 : Int32))] := A7
  refine OwnW.aload X7 (n := 43) at_41 rfl rfl rfl ?_
  refine OwnW.iconst X7 (z := (2 : Int32)) (n := 44) at_43 rfl rfl ?_
  refine OwnW.iload X7 (n := 46) at_44 rfl rfl ?_
  refine OwnW.castore X7 (i := 2) (z := (Int32.ofNat uc)) (n := 47) at_46 A7 rfl (Nat.le_of_ble_eq_true rfl) (own_nar16 huc) ge_b5 (List.mem_cons_self ..) rfl ?_
  intro T8 h8 X8 W8 A8
  have K8 := (Keep.of_wr W8)
  have O8 := O7.keep K8 (allS ge_b5 all0)
  have Z8 : Keep h0 h8 [] := Z7.trans K8 (allS (P := fun x => x ∈ [] ∨ h0.size ≤ x) (Or.inr sz_b5) all0)
  replace A8 : Ark Z h8 b5 .char [(.int (Int32.ofNat ua)), (.int (Int32.ofNat ub)), (.int (Int32.ofNat uc)), (.int (0 : Int32))] := A8
  refine OwnW.aload X8 (n := 49) at_47 rfl rfl rfl ?_
  refine OwnW.iconst X8 (z := (3 : Int32)) (n := 50) at_49 rfl rfl ?_
  refine OwnW.iload X8 (n := 52) at_50 rfl rfl ?_
  refine OwnW.castore X8 (i := 3) (z := (Int32.ofNat ud)) (n := 53) at_52 A8 rfl (Nat.le_of_ble_eq_true rfl) (own_nar16 hud) ge_b5 (List.mem_cons_self ..) rfl ?_
  intro T9 h9 X9 W9 A9
  have K9 := (Keep.of_wr W9)
  have O9 := O8.keep K9 (allS ge_b5 all0)
  have Z9 : Keep h0 h9 [] := Z8.trans K9 (allS (P := fun x => x ∈ [] ∨ h0.size ≤ x) (Or.inr sz_b5) all0)
  replace A9 : Ark Z h9 b5 .char [(.int (Int32.ofNat ua)), (.int (Int32.ofNat ub)), (.int (Int32.ofNat uc)), (.int (Int32.ofNat ud))] := A9
  refine OwnW.new X9 (C := "java/lang/String") (k := 4) (n := 56) at_53 (hw _ (List.mem_of_getElem? (i := 7) rfl)) (hw _ (List.mem_of_getElem? (i := 8) rfl)) (hw _ (List.mem_of_getElem? (i := 9) rfl)) (by decide) (by decide) rfl ?_
  intro T10 h10 b10 gb10 X10 E10 A10 D10 U10
  have ne_b5_b10 : b5 ≠ b10 := by rw [gb10]; exact Nat.ne_of_lt A9.lt
  have ge_b10 : n0 ≤ b10 := by rw [gb10]; exact OwnW.oldLe O9
  have K10 := (OwnW.kExt E10)
  have O10 := O9.keep K10 all0
  have Z10 : Keep h0 h10 [] := Z9.trans K10 (fun x hx => nomatch hx)
  have sz_b10 : h0.size ≤ b10 := by rw [gb10]; exact Z9.1
  have F10_coder : Fld Z h10 b10 "java/lang/String" "coder" "B" (.int (0 : Int32)) := D10 (Or.inr (hw _ (List.mem_of_getElem? (i := 33) rfl))) (ty := .byte) (by decide)
  have F10_value : Fld Z h10 b10 "java/lang/String" "value" "[B" .null := D10 (Or.inr (hw _ (List.mem_of_getElem? (i := 35) rfl))) (ty := (.array .byte)) (by decide)
  refine OwnW.dup X10 (n := 57) at_56 rfl rfl ?_
  refine OwnW.aload X10 (n := 59) at_57 rfl rfl rfl ?_
  have fk11 := (A9.keep K10 nin0)
  refine OwnW.call_special_n X10 (z := (⟨"java/lang/String", "<init>", "([C)V"⟩ : MethodName)) (a := b10) (n := 62) at_59 (hw _ (List.mem_of_getElem? (i := 10) rfl)) (hw _ (List.mem_of_getElem? (i := 11) rfl)) (hw _ (List.mem_of_getElem? (i := 12) rfl)) (hw _ (List.mem_of_getElem? (i := 9) rfl)) rfl rfl (by decide) (rm2 l Z a0 hw hE [] b10 b5 h10 n0 O10 ge_b10 A10 _ _ F10_value F10_coder ua ub uc ud hua hub huc hud fk11 (Ne.symm ne_b5_b10) zc hzc S_compact S_ad S_hi S_lo) (OwnW.sfS (List.mem_cons_self ..) OwnW.sf0) (argsL := [(.ref b5)]) (rest := [(.ref b10)]) rfl rfl (OwnW.lenA pd___C_V rfl) (W := 1) (Nat.le_of_eq rfl) (by decide) (by decide) (by decide) (by decide) rfl ?_
  intro T12 h12 g12 hle12 X12 ⟨k12, st, zt, SS⟩
  have K12 := k12
  have O12 := O10.keep K12 (allS ge_b10 all0)
  have Z12 : Keep h0 h12 [] := Z10.trans K12 (allS (P := fun x => x ∈ [] ∨ h0.size ≤ x) (Or.inr sz_b10) all0)
  refine OwnW.astore X12 (l' := #[.val (.int p0), .val (.int p1), .val (.int p2), .val (.int p3), .val (.int p4), .val (.int (Int32.ofNat ua)), .val (.int (Int32.ofNat ub)), .val (.int (Int32.ofNat uc)), .val (.int (Int32.ofNat ud)), .val (.ref b5), .val (.ref b10), .unset, .unset, .unset]) (n := 64) at_62 rfl rfl rfl ?_
  refine OwnW.iload X12 (n := 66) at_64 rfl rfl ?_
  refine OwnW.sipush X12 (z := (255 : Int32)) (n := 69) at_66 rfl rfl ?_
  refine OwnW.iand X12 (n := 70) at_69 rfl ?_
  refine OwnW.iconst X12 (z := (5 : Int32)) (n := 71) at_70 rfl rfl ?_
  refine OwnW.irem X12 (n := 72) at_71 (by decide) rfl ?_
  obtain ⟨S, eS, hS4⟩ := own_5n p4
  rw [eS]
  refine OwnW.istore X12 (l' := #[.val (.int p0), .val (.int p1), .val (.int p2), .val (.int p3), .val (.int p4), .val (.int (Int32.ofNat ua)), .val (.int (Int32.ofNat ub)), .val (.int (Int32.ofNat uc)), .val (.int (Int32.ofNat ud)), .val (.ref b5), .val (.ref b10), .val (.int (Int32.ofNat S)), .unset, .unset]) (n := 74) at_72 rfl rfl ?_
  refine OwnW.iload X12 (n := 76) at_74 rfl rfl ?_
  refine OwnW.bipush X12 (z := (8 : Int32)) (n := 78) at_76 rfl rfl ?_
  refine OwnW.iushr X12 (n := 79) at_78 rfl ?_
  refine OwnW.sipush X12 (z := (255 : Int32)) (n := 82) at_79 rfl rfl ?_
  refine OwnW.iand X12 (n := 83) at_82 rfl ?_
  refine OwnW.iconst X12 (z := (5 : Int32)) (n := 84) at_83 rfl rfl ?_
  refine OwnW.irem X12 (n := 85) at_84 (by decide) rfl ?_
  obtain ⟨E, eE, hE4⟩ := own_5n ((p4.toUInt32 >>> ((8 : Int32) &&& 31).toUInt32).toInt32)
  rw [eE]
  refine OwnW.istore X12 (l' := #[.val (.int p0), .val (.int p1), .val (.int p2), .val (.int p3), .val (.int p4), .val (.int (Int32.ofNat ua)), .val (.int (Int32.ofNat ub)), .val (.int (Int32.ofNat uc)), .val (.int (Int32.ofNat ud)), .val (.ref b5), .val (.ref b10), .val (.int (Int32.ofNat S)), .val (.int (Int32.ofNat E)), .unset]) (n := 87) at_85 rfl rfl ?_
  refine OwnW.joinH X12 4 20 (fun (ex : Int32) h' sf' => h12 = h' ∧ (((S < E ∧ (S ≤ 0 → 0 < E → own_tch ua) ∧ (S ≤ 1 → 1 < E → own_tch ub) ∧ (S ≤ 2 → 2 < E → own_tch uc) ∧ (S ≤ 3 → 3 < E → own_tch ud)) ∧ ex = 1) ∨ (¬ (S < E ∧ (S ≤ 0 → 0 < E → own_tch ua) ∧ (S ≤ 1 → 1 < E → own_tch ub) ∧ (S ≤ 2 → 2 < E → own_tch uc) ∧ (S ≤ 3 → 3 < E → own_tch ud)) ∧ ex = 0))) (fun (ex : Int32) => mkF m 151 #[.val (.int p0), .val (.int p1), .val (.int p2), .val (.int p3), .val (.int p4), .val (.int (Int32.ofNat ua)), .val (.int (Int32.ofNat ub)), .val (.int (Int32.ofNat uc)), .val (.int (Int32.ofNat ud)), .val (.ref b5), .val (.ref b10), .val (.int (Int32.ofNat S)), .val (.int (Int32.ofNat E)), .unset] [(.int ex)]) ?_ ?_
  · intro T13 h13 sf13 ex X13 hj151
    obtain ⟨hh', hj⟩ := hj151
    subst hh'
    refine OwnW.istore X13 (l' := #[.val (.int p0), .val (.int p1), .val (.int p2), .val (.int p3), .val (.int p4), .val (.int (Int32.ofNat ua)), .val (.int (Int32.ofNat ub)), .val (.int (Int32.ofNat uc)), .val (.int (Int32.ofNat ud)), .val (.ref b5), .val (.ref b10), .val (.int (Int32.ofNat S)), .val (.int (Int32.ofNat E)), .val (.int ex)]) (n := 153) at_151 rfl rfl ?_
    refine OwnW.aload X13 (n := 155) at_153 rfl rfl rfl ?_
    refine OwnW.iload X13 (n := 157) at_155 rfl rfl ?_
    refine OwnW.iload X13 (n := 159) at_157 rfl rfl ?_
    refine OwnW.call_static_v X13 (z := (⟨"com/example/brygga/brygga/HttpHead", "isToken", "(Ljava/lang/String;II)Z"⟩ : MethodName)) (n := 162) at_159 (hw _ (List.mem_of_getElem? (i := 36) rfl)) (hw _ (List.mem_of_getElem? (i := 37) rfl)) (hw _ (List.mem_of_getElem? (i := 39) rfl)) (hw _ (List.mem_of_getElem? (i := 38) rfl)) (by decide) (rm8 l Z a0 hw hE [] b10 h12 n0 O12 st ua ub uc ud hua hub huc hud S E hS4 hE4 SS zc hzc S_compact fm hfm S_fm S_ad S_hi S_lo) OwnW.sf0 (argsL := [(.ref b10), (.int (Int32.ofNat S)), (.int (Int32.ofNat E))]) (rest := []) rfl rfl (OwnW.lenA pd__Ljava_lang_String_II_Z rfl) (W := 0) (Nat.le_of_eq rfl) (by decide) (by decide) (by decide) (by decide) rfl ?_
    intro T14 h14 w14 g14 hle14 X14 hq
    have hsame : (S < E ∧ ∀ j, S ≤ j → j < E → own_t (own_k ua ub uc ud j)) ↔ (S < E ∧ (S ≤ 0 → 0 < E → own_tch ua) ∧ (S ≤ 1 → 1 < E → own_tch ub) ∧ (S ≤ 2 → 2 < E → own_tch uc) ∧ (S ≤ 3 → 3 < E → own_tch ud)) := own_good ua ub uc ud S E hE4
    have hv : w14 = .int ex := by rcases hq with ⟨z1, z2⟩ | ⟨z1, z2⟩ <;> rcases hj with ⟨y1, y2⟩ | ⟨y1, y2⟩ <;> first | (rw [z2, y2]; done) | exact absurd (hsame.mp z1) y1 | exact absurd (hsame.mpr y1) z1
    subst hv
    refine OwnW.iload X14 (n := 164) at_162 rfl rfl ?_
    refine OwnW.ic_ne X14  (n1 := 171) (n2 := 167) at_164 (by decide) rfl rfl (fun q => absurd (rfl : ex = ex) q) (fun _ => ?_)
    refine OwnW.iconst X14 (z := (1 : Int32)) (n := 168) at_167 rfl rfl ?_
    refine OwnW.goto X14 (n := 172) at_168 (by decide) rfl ?_
    exact OwnW.ireturn X14 rfl (Or.inr (Or.inl rfl)) rfl at_172 rfl (by decide) (by decide)
  · intro J13
    refine OwnW.iload X12 (n := 89) at_87 rfl rfl ?_
    refine OwnW.iload X12 (n := 91) at_89 rfl rfl ?_
    refine OwnW.ic_ge X12  (n1 := 150) (n2 := 94) at_91 (by decide) rfl rfl (fun hc91 => ?_) (fun hc91 => ?_)
    · have kk15 : ¬ S < E := fun q => hc91 ((own_lt (i := S) (n := E) (by omega) (by omega)).mpr q)
      refine OwnW.iconst X12 (z := (0 : Int32)) (n := 151) at_150 rfl rfl ?_
      exact J13 _ _ _ 0 X12 ⟨rfl, Or.inr ⟨fun q => absurd q.1 (by omega), rfl⟩⟩
    · have kk16 : S < E := (own_lt (i := S) (n := E) (by omega) (by omega)).mp hc91
      refine OwnW.iload X12 (n := 96) at_94 rfl rfl ?_
      refine OwnW.iconst X12 (z := (0 : Int32)) (n := 97) at_96 rfl rfl ?_
      refine OwnW.iload X12 (n := 99) at_97 rfl rfl ?_
      refine OwnW.iload X12 (n := 101) at_99 rfl rfl ?_
      refine OwnW.call_static_v X12 (z := (⟨"com/example/brygga/brygga/HttpHeadIsTokenPinLaw", "ok", "(CIII)Z"⟩ : MethodName)) (n := 104) at_101 (hw _ (List.mem_of_getElem? (i := 59) rfl)) (hw _ (List.mem_of_getElem? (i := 60) rfl)) (hw _ (List.mem_of_getElem? (i := 61) rfl)) (hw _ (List.mem_of_getElem? (i := 2) rfl)) (by decide) (rm14 l Z a0 hw hE [] h12 n0 ua hua 0 S E (by decide) hS4 hE4) OwnW.sf0 (argsL := [(.int (Int32.ofNat ua)), (.int (0 : Int32)), (.int (Int32.ofNat S)), (.int (Int32.ofNat E))]) (rest := []) rfl rfl (OwnW.lenA pd__CIII_Z rfl) (W := 0) (Nat.le_of_eq rfl) (by decide) (by decide) (by decide) (by decide) rfl ?_
      intro T17 h17 w17 g17 hle17 X17 ⟨hq, q2⟩
      subst q2
      rcases hq with ⟨ho18, q1⟩ | ⟨ho18, q1⟩
      · subst q1
        refine OwnW.if_eq X17  (n1 := 150) (n2 := 107) at_104 (by decide) rfl rfl (fun q => absurd q ((by decide) : ¬ (1 : Int32) = 0)) (fun _ => ?_)
        refine OwnW.iload X17 (n := 109) at_107 rfl rfl ?_
        refine OwnW.iconst X17 (z := (1 : Int32)) (n := 110) at_109 rfl rfl ?_
        refine OwnW.iload X17 (n := 112) at_110 rfl rfl ?_
        refine OwnW.iload X17 (n := 114) at_112 rfl rfl ?_
        refine OwnW.call_static_v X17 (z := (⟨"com/example/brygga/brygga/HttpHeadIsTokenPinLaw", "ok", "(CIII)Z"⟩ : MethodName)) (n := 117) at_114 (hw _ (List.mem_of_getElem? (i := 59) rfl)) (hw _ (List.mem_of_getElem? (i := 60) rfl)) (hw _ (List.mem_of_getElem? (i := 61) rfl)) (hw _ (List.mem_of_getElem? (i := 2) rfl)) (by decide) (rm14 l Z a0 hw hE [] h12 n0 ub hub 1 S E (by decide) hS4 hE4) OwnW.sf0 (argsL := [(.int (Int32.ofNat ub)), (.int (1 : Int32)), (.int (Int32.ofNat S)), (.int (Int32.ofNat E))]) (rest := []) rfl rfl (OwnW.lenA pd__CIII_Z rfl) (W := 0) (Nat.le_of_eq rfl) (by decide) (by decide) (by decide) (by decide) rfl ?_
        intro T19 h19 w19 g19 hle19 X19 ⟨hq, q2⟩
        subst q2
        rcases hq with ⟨ho20, q1⟩ | ⟨ho20, q1⟩
        · subst q1
          refine OwnW.if_eq X19  (n1 := 150) (n2 := 120) at_117 (by decide) rfl rfl (fun q => absurd q ((by decide) : ¬ (1 : Int32) = 0)) (fun _ => ?_)
          refine OwnW.iload X19 (n := 122) at_120 rfl rfl ?_
          refine OwnW.iconst X19 (z := (2 : Int32)) (n := 123) at_122 rfl rfl ?_
          refine OwnW.iload X19 (n := 125) at_123 rfl rfl ?_
          refine OwnW.iload X19 (n := 127) at_125 rfl rfl ?_
          refine OwnW.call_static_v X19 (z := (⟨"com/example/brygga/brygga/HttpHeadIsTokenPinLaw", "ok", "(CIII)Z"⟩ : MethodName)) (n := 130) at_127 (hw _ (List.mem_of_getElem? (i := 59) rfl)) (hw _ (List.mem_of_getElem? (i := 60) rfl)) (hw _ (List.mem_of_getElem? (i := 61) rfl)) (hw _ (List.mem_of_getElem? (i := 2) rfl)) (by decide) (rm14 l Z a0 hw hE [] h12 n0 uc huc 2 S E (by decide) hS4 hE4) OwnW.sf0 (argsL := [(.int (Int32.ofNat uc)), (.int (2 : Int32)), (.int (Int32.ofNat S)), (.int (Int32.ofNat E))]) (rest := []) rfl rfl (OwnW.lenA pd__CIII_Z rfl) (W := 0) (Nat.le_of_eq rfl) (by decide) (by decide) (by decide) (by decide) rfl ?_
          intro T21 h21 w21 g21 hle21 X21 ⟨hq, q2⟩
          subst q2
          rcases hq with ⟨ho22, q1⟩ | ⟨ho22, q1⟩
          · subst q1
            refine OwnW.if_eq X21  (n1 := 150) (n2 := 133) at_130 (by decide) rfl rfl (fun q => absurd q ((by decide) : ¬ (1 : Int32) = 0)) (fun _ => ?_)
            refine OwnW.iload X21 (n := 135) at_133 rfl rfl ?_
            refine OwnW.iconst X21 (z := (3 : Int32)) (n := 136) at_135 rfl rfl ?_
            refine OwnW.iload X21 (n := 138) at_136 rfl rfl ?_
            refine OwnW.iload X21 (n := 140) at_138 rfl rfl ?_
            refine OwnW.call_static_v X21 (z := (⟨"com/example/brygga/brygga/HttpHeadIsTokenPinLaw", "ok", "(CIII)Z"⟩ : MethodName)) (n := 143) at_140 (hw _ (List.mem_of_getElem? (i := 59) rfl)) (hw _ (List.mem_of_getElem? (i := 60) rfl)) (hw _ (List.mem_of_getElem? (i := 61) rfl)) (hw _ (List.mem_of_getElem? (i := 2) rfl)) (by decide) (rm14 l Z a0 hw hE [] h12 n0 ud hud 3 S E (by decide) hS4 hE4) OwnW.sf0 (argsL := [(.int (Int32.ofNat ud)), (.int (3 : Int32)), (.int (Int32.ofNat S)), (.int (Int32.ofNat E))]) (rest := []) rfl rfl (OwnW.lenA pd__CIII_Z rfl) (W := 0) (Nat.le_of_eq rfl) (by decide) (by decide) (by decide) (by decide) rfl ?_
            intro T23 h23 w23 g23 hle23 X23 ⟨hq, q2⟩
            subst q2
            rcases hq with ⟨ho24, q1⟩ | ⟨ho24, q1⟩
            · subst q1
              refine OwnW.if_eq X23  (n1 := 150) (n2 := 146) at_143 (by decide) rfl rfl (fun q => absurd q ((by decide) : ¬ (1 : Int32) = 0)) (fun _ => ?_)
              refine OwnW.iconst X23 (z := (1 : Int32)) (n := 147) at_146 rfl rfl ?_
              refine OwnW.goto X23 (n := 151) at_147 (by decide) rfl ?_
              exact J13 _ _ _ 1 X23 ⟨rfl, Or.inl ⟨⟨by omega, ho18, ho20, ho22, ho24⟩, rfl⟩⟩
            · subst q1
              refine OwnW.if_eq X23  (n1 := 150) (n2 := 146) at_143 (by decide) rfl rfl (fun _ => ?_) (fun q => absurd ((by decide) : (0 : Int32) = 0) q)
              refine OwnW.iconst X23 (z := (0 : Int32)) (n := 151) at_150 rfl rfl ?_
              exact J13 _ _ _ 0 X23 ⟨rfl, Or.inr ⟨fun q => ho24 q.2.2.2.2, rfl⟩⟩
          · subst q1
            refine OwnW.if_eq X21  (n1 := 150) (n2 := 133) at_130 (by decide) rfl rfl (fun _ => ?_) (fun q => absurd ((by decide) : (0 : Int32) = 0) q)
            refine OwnW.iconst X21 (z := (0 : Int32)) (n := 151) at_150 rfl rfl ?_
            exact J13 _ _ _ 0 X21 ⟨rfl, Or.inr ⟨fun q => ho22 q.2.2.2.1, rfl⟩⟩
        · subst q1
          refine OwnW.if_eq X19  (n1 := 150) (n2 := 120) at_117 (by decide) rfl rfl (fun _ => ?_) (fun q => absurd ((by decide) : (0 : Int32) = 0) q)
          refine OwnW.iconst X19 (z := (0 : Int32)) (n := 151) at_150 rfl rfl ?_
          exact J13 _ _ _ 0 X19 ⟨rfl, Or.inr ⟨fun q => ho20 q.2.2.1, rfl⟩⟩
      · subst q1
        refine OwnW.if_eq X17  (n1 := 150) (n2 := 107) at_104 (by decide) rfl rfl (fun _ => ?_) (fun q => absurd ((by decide) : (0 : Int32) = 0) q)
        refine OwnW.iconst X17 (z := (0 : Int32)) (n := 151) at_150 rfl rfl ?_
        exact J13 _ _ _ 0 X17 ⟨rfl, Or.inr ⟨fun q => ho18 q.2.1, rfl⟩⟩
set_option maxRecDepth 65536 in
set_option maxHeartbeats 40000000 in
theorem comes_1 {Post : Tables → Env → Array Value → State → Outcome → State → Prop} (hpost : ∀ tb e args s v u, (limb_1_1.after args s (.returned v) u = true ∧ limb_1_2.after args s (.returned v) u = true ∧ True) → ReturnedEndW s (.returned v) u (Jvm.fieldLocs frame_1_writes args s ++ Jvm.arrayLocs frame_1_arrays args s ++ Jvm.staticLocs frame_1_statics s) 24 1152 → Post tb e args s (.returned v) u) :
    ArmFor flags0 classFile x code maxLocals ret World_1 tables_1 room_1 Calls_1 rest_1 Pre_1 Post := by
  intro l hfl _ _ p e ha hc hk s m args below hf hA hF happ hP
  obtain ⟨hcalls, hrest, hpre⟩ := hP
  obtain ⟨-, -, -, hnamed, -, -, -, hat⟩ := (Spec.applies_iff hf).mp happ
  obtain ⟨hg, hn⟩ := and_e (Cond.before_iff.mp (show (Jvm.Cond.and given_1 narrow_1).before args s = true from hpre))
  obtain ⟨g0, q1⟩ := and_e hg
  obtain ⟨g1, q2⟩ := and_e q1
  obtain ⟨g2, q3⟩ := and_e q2
  obtain ⟨g3, q4⟩ := and_e q3
  obtain ⟨g4, g5⟩ := and_e q4
  obtain ⟨w0, w1, w2, w3, w4, rfl⟩ : ∃ w0 w1 w2 w3 w4 : Value, args = #[w0, w1, w2, w3, w4] := by
    have hs : args.size = 5 := by simpa [Cond.value, given_1] using g0
    obtain ⟨L⟩ := args
    match L, hs with
    | [w0, w1, w2, w3, w4], _ => exact ⟨w0, w1, w2, w3, w4, rfl⟩
  have hw := fun d (hd : d ∈ tables_1) => atoms_spec (ws := Jvm.Cond.code x code maxLocals ret :: tables_1) hat d (List.mem_cons_of_mem _ hd)
  have hfit : Fit s := fun {y c} hc i hi => by
    obtain ⟨ha, rfl⟩ := Array.getElem?_eq_some_iff.mp hc
    have q := List.all_eq_true.mp ((Array.all_eq_true_iff_forall_mem.mp hF) _ (Array.getElem_mem ha)) i (List.mem_range.mpr hi)
    simpa [Array.getElem?_eq_getElem hi] using q
  obtain ⟨hsets, hown0⟩ := atoms_of _ (rest_1_c_eq ▸ (show rest_1_c.before _ s = true from hrest))
  have wS : ∀ a ∈ Bundle.stringAtoms, a.before _ s = true := fun d hd => hw d ((by decide +kernel : ∀ d ∈ Bundle.stringAtoms, d ∈ tables_1) d hd)
  have hE : EW s _ own_EL := own_EW hw
  have hCH : CHv s own_EL s.vm s.heap := CHv.start hE (own_held hcalls) (hsets _ (List.mem_of_getElem? (i := 2) rfl)) (wS _ (by simp [Bundle.stringAtoms])) (wS _ (by simp [Bundle.stringAtoms, Bundle.sN]))
  obtain ⟨i0, e0⟩ := is_v g1
  obtain rfl : w0 = (.int i0) := Option.some.inj e0
  obtain ⟨i1, e1⟩ := is_v g2
  obtain rfl : w1 = (.int i1) := Option.some.inj e1
  obtain ⟨i2, e2⟩ := is_v g3
  obtain rfl : w2 = (.int i2) := Option.some.inj e2
  obtain ⟨i3, e3⟩ := is_v g4
  obtain rfl : w3 = (.int i3) := Option.some.inj e3
  obtain ⟨i4, e4⟩ := is_v g5
  obtain rfl : w4 = (.int i4) := Option.some.inj e4
  obtain ⟨zc, ezc⟩ := is_v (Cond.before_iff.mp (hsets _ (List.mem_of_getElem? (i := 1) rfl)))
  have S_compact : Sta s s.heap "java/lang/String" "COMPACT_STRINGS" "Z" (.int zc) := Sta.start ezc (Or.inl (hsets _ (List.mem_of_getElem? (i := 0) rfl)))
  have hzc : ¬ (zc = (0 : Int32)) := gotF (Cond.eq_ints ezc (Term.int_eval (0))) (not_v (Cond.before_iff.mp (hsets _ (List.mem_of_getElem? (i := 2) rfl))))
  obtain ⟨fm, efm, hfm⟩ := own_isref (hsets _ (List.mem_of_getElem? (i := 8) rfl))
  have S_fm : Sta s s.heap "jdk/internal/util/Preconditions" "SIOOBE_FORMATTER" "Ljava/util/function/BiFunction;" fm := Sta.start efm (Or.inl (hsets _ (List.mem_of_getElem? (i := 7) rfl)))
  have S_ad := Sta.start (OwnW.eqI_v (Cond.before_iff.mp (hsets _ (List.mem_of_getElem? (i := 12) rfl)))) (Or.inl (hsets _ (List.mem_of_getElem? (i := 11) rfl)))
  have S_hi := Sta.start (OwnW.eqI_v (Cond.before_iff.mp (hsets _ (List.mem_of_getElem? (i := 15) rfl)))) (Or.inl (hsets _ (List.mem_of_getElem? (i := 14) rfl)))
  have S_lo := Sta.start (OwnW.eqI_v (Cond.before_iff.mp (hsets _ (List.mem_of_getElem? (i := 18) rfl)))) (Or.inl (hsets _ (List.mem_of_getElem? (i := 17) rfl)))
  obtain ⟨n, o, h1, h2, h3, v, L, rfl, ⟨sfn, ⟨w, rfl, rfl⟩, hsn, N⟩, hcr, hq⟩ := rm0 l s _ hw hE tables_1 i0 i1 i2 i3 i4 s.heap s.heap.size (Old.start s) zc hzc S_compact fm hfm S_fm S_ad S_hi S_lo p e ha hc hk s m _ below hf ((Spec.applies_iff_loose hf).mp happ).1 ⟨rfl, State.Warmed39.refl s, rfl, hCH, fun x hx => nomatch hx⟩ (fun z => z.elim)
  refine ⟨n, _, h1, h2, h3, hpost _ _ _ _ _ _ ⟨Cond.after_iff.mpr rfl, Cond.after_iff.mpr (eq_i res_at (Term.int_eval (1)) rfl), trivial⟩ ⟨hq.1, hq.2.1, hq.2.2.1, (hq.2.2.2.sift fun y hy => Or.inr (N y hy)).mono (by decide) (by decide)⟩⟩
theorem main_1_1 : Claimed_1_1 := comes_1 fun _ _ _ _ _ _ h hF => ⟨h.1, hF⟩
theorem main_1_2 : Claimed_1_2 := comes_1 fun _ _ _ _ _ _ h hF => ⟨h.2.1, hF⟩
end Jvm.Pilot.@@N@@
namespace Jvm.Pilot.@@N@@
open Jvm Jvm.ClassFile Sem Op Lib Jvm.Free Jvm.Stand Jvm.Pilot.@@N@@.Jvm.D
/-! MADE BY PROGRAM (witnessworld.py) out of the Statement's table words and the real class files: 21 classes; the members and pool entries that the words name. The judged class is class 1, her method 1. -/
namespace start1
open Jvm.ClassFile
def u (s : String) : CpInfo := .utf8 (stringToUtf16 s)
/-- a pool by its gaps: so many unusable entries, then the entry; so many at the end -/
def gap : Nat → List CpInfo → List CpInfo
  | 0, r => r
  | n + 1, r => .unusable :: gap n r
def poolList (es : List (Nat × CpInfo)) (last : Nat) : List CpInfo := es.foldr (fun e r => gap e.1 (e.2 :: r)) (gap last [])
def pool (es : List (Nat × CpInfo)) (last : Nat) : Array CpInfo := ⟨poolList es last⟩
def fileOf (pool : Array CpInfo) (this : Nat) (attrs : Array Attribute := #[]) (ms : Array MethodInfo := #[]) (fl : Nat := 33) (sup : Nat := 0) (ifs : Array Nat := #[]) (fds : Array FieldInfo := #[]) : ClassFile where
  minorVersion := 0
  majorVersion := 65
  constantPool := pool
  accessFlags := fl
  thisClass := this
  superClass := sup
  interfaces := ifs
  fields := fds
  methods := ms
  attributes := attrs
def plain (name : String) (sup : Option ClassId) : Class where
  name := name
  kind := .ordinary
  loader := none
  accessFlags := 33
  super := sup
  interfaces := #[]
  cf := none
  fields := #[]
  methods := #[]
  instanceTypes := #[]
  staticTypes := #[]
  resolved := #[]
  callSites := []
  init := .initialized
  statics := none
  mirror := none

def pool0 : Array CpInfo := pool [(5, u "<init>"), (0, u "()V"), (1, .class_ 10), (1, u "java/lang/Object")] 113

def k0c0 : Code := { maxStack := 0, maxLocals := 1, code := object_method_1_code, exceptionTable := #[], attributes := #[] }
def k0m0 : Method := { name := "<init>", desc := "()V", sig := { parameters := [], returnType := none }, accessFlags := 1, code := some k0c0 }
/-- java/lang/Object -/
def k0 : Class := { plain "java/lang/Object" none with
  accessFlags := 33
  interfaces := #[]
  cf := some (fileOf pool0 8 #[] #[{ accessFlags := 1, nameIndex := 5, descriptorIndex := 6, attributes := #[] }] 33 0 #[] #[])
  fields := #[]
  methods := #[k0m0]
  instanceTypes := #[]
  staticTypes := #[]
  resolved := Array.replicate 124 none
  statics := none }

def pool1 : Array CpInfo := pool [(2, .class_ 4), (1, u "java/lang/Object"), (0, u "<init>"), (0, u "()V"), (0, .methodref 8 9), (0, .class_ 10), (0, .nameAndType 11 12), (0, u "com/example/brygga/brygga/HttpHeadIsTokenPinLaw"), (0, u "ch"), (0, u "(I)C"), (0, .class_ 14), (0, u "java/lang/String"), (0, .methodref 13 16), (0, .nameAndType 5 17), (0, u "([C)V"), (0, .methodref 8 19), (0, .nameAndType 20 21), (0, u "ok"), (0, u "(CIII)Z"), (0, .methodref 23 24), (0, .class_ 25), (0, .nameAndType 26 27), (0, u "com/example/brygga/brygga/HttpHead"), (0, u "isToken"), (0, u "(Ljava/lang/String;II)Z"), (0, .integer 65536), (0, .integer 65535), (0, .methodref 8 31), (0, .nameAndType 32 33), (0, u "tchar"), (0, u "(C)Z"), (2, u "law"), (0, u "(IIIII)Z")] 5

def k1m0 : Method := { name := "<init>", desc := "()V", sig := { parameters := [], returnType := none }, accessFlags := 1, code := none }
def k1c1 : Code := { maxStack := 4, maxLocals := 14, code := code, exceptionTable := #[], attributes := #[] }
def k1m1 : Method := { name := "law", desc := "(IIIII)Z", sig := { parameters := [.int, .int, .int, .int, .int], returnType := some .boolean }, accessFlags := 9, code := some k1c1 }
def k1c2 : Code := { maxStack := 2, maxLocals := 1, code := method_3_code, exceptionTable := #[], attributes := #[] }
def k1m2 : Method := { name := "ch", desc := "(I)C", sig := { parameters := [.int], returnType := some .char }, accessFlags := 10, code := some k1c2 }
def k1c3 : Code := { maxStack := 2, maxLocals := 4, code := method_4_code, exceptionTable := #[], attributes := #[] }
def k1m3 : Method := { name := "ok", desc := "(CIII)Z", sig := { parameters := [.char, .int, .int, .int], returnType := some .boolean }, accessFlags := 10, code := some k1c3 }
def k1c4 : Code := { maxStack := 2, maxLocals := 1, code := method_5_code, exceptionTable := #[], attributes := #[] }
def k1m4 : Method := { name := "tchar", desc := "(C)Z", sig := { parameters := [.char], returnType := some .boolean }, accessFlags := 10, code := some k1c4 }
/-- com/example/brygga/brygga/HttpHeadIsTokenPinLaw -/
def k1 : Class := { plain "com/example/brygga/brygga/HttpHeadIsTokenPinLaw" (some 0) with
  accessFlags := 49
  interfaces := #[]
  cf := some (fileOf pool1 8 #[] #[{ accessFlags := 1, nameIndex := 5, descriptorIndex := 6, attributes := #[] }, { accessFlags := 9, nameIndex := 36, descriptorIndex := 37, attributes := #[] }, { accessFlags := 10, nameIndex := 11, descriptorIndex := 12, attributes := #[] }, { accessFlags := 10, nameIndex := 20, descriptorIndex := 21, attributes := #[] }, { accessFlags := 10, nameIndex := 32, descriptorIndex := 33, attributes := #[] }] 49 2 #[] #[])
  fields := #[]
  methods := #[k1m0, k1m1, k1m2, k1m3, k1m4]
  instanceTypes := #[]
  staticTypes := #[]
  resolved := Array.replicate 43 none
  statics := none }

def pool2 : Array CpInfo := pool [(1, .class_ 2), (0, u "java/io/Serializable"), (0, .class_ 4), (0, u "java/lang/Object")] 2

/-- java/io/Serializable -/
def k2 : Class := { plain "java/io/Serializable" (some 0) with
  accessFlags := 1537
  interfaces := #[]
  cf := some (fileOf pool2 1 #[] #[] 1537 3 #[] #[])
  fields := #[]
  methods := #[]
  instanceTypes := #[]
  staticTypes := #[]
  resolved := Array.replicate 7 none
  statics := none }

def pool3 : Array CpInfo := pool [(1, .class_ 2), (0, u "java/lang/Comparable"), (0, .class_ 4), (0, u "java/lang/Object")] 7

/-- java/lang/Comparable -/
def k3 : Class := { plain "java/lang/Comparable" (some 0) with
  accessFlags := 1537
  interfaces := #[]
  cf := some (fileOf pool3 1 #[] #[] 1537 3 #[] #[])
  fields := #[]
  methods := #[]
  instanceTypes := #[]
  staticTypes := #[]
  resolved := Array.replicate 12 none
  statics := none }

def pool4 : Array CpInfo := pool [(2, .class_ 4), (1, u "java/lang/CharSequence"), (42, .class_ 48), (0, u "java/lang/CharSequence$1CodePointIterator"), (10, .class_ 60), (0, u "java/lang/CharSequence$1CharIterator"), (5, .class_ 67), (0, u "java/lang/Object")] 63

/-- java/lang/CharSequence -/
def k4 : Class := { plain "java/lang/CharSequence" (some 0) with
  accessFlags := 1537
  interfaces := #[]
  cf := some (fileOf pool4 2 #[.nestMembers #[47, 59]] #[] 1537 66 #[] #[])
  fields := #[]
  methods := #[]
  instanceTypes := #[]
  staticTypes := #[]
  resolved := Array.replicate 131 none
  statics := none }

def pool5 : Array CpInfo := pool [(1, .class_ 2), (0, u "java/lang/constant/Constable"), (0, .class_ 4), (0, u "java/lang/Object")] 6

/-- java/lang/constant/Constable -/
def k5 : Class := { plain "java/lang/constant/Constable" (some 0) with
  accessFlags := 1537
  interfaces := #[]
  cf := some (fileOf pool5 1 #[] #[] 1537 3 #[] #[])
  fields := #[]
  methods := #[]
  instanceTypes := #[]
  staticTypes := #[]
  resolved := Array.replicate 11 none
  statics := none }

def pool6 : Array CpInfo := pool [(1, .class_ 2), (0, u "java/lang/constant/ConstantDesc"), (0, .class_ 4), (0, u "java/lang/Object")] 32

/-- java/lang/constant/ConstantDesc -/
def k6 : Class := { plain "java/lang/constant/ConstantDesc" (some 0) with
  accessFlags := 1537
  interfaces := #[]
  cf := some (fileOf pool6 1 #[] #[] 1537 3 #[] #[])
  fields := #[]
  methods := #[]
  instanceTypes := #[]
  staticTypes := #[]
  resolved := Array.replicate 37 none
  statics := none }

def pool7 : Array CpInfo := pool [(1, .methodref 2 3), (0, .class_ 4), (0, .nameAndType 5 6), (0, u "java/lang/Object"), (0, u "<init>"), (0, u "()V"), (2, .fieldref 10 11), (0, .class_ 12), (0, .nameAndType 13 14), (0, u "java/lang/String"), (0, u "value"), (0, u "[B"), (0, .fieldref 10 16), (0, .nameAndType 17 18), (0, u "coder"), (0, u "B"), (2, u "hash"), (0, u "I"), (2, u "hashIsZero"), (0, u "Z"), (0, .methodref 10 28), (0, .nameAndType 5 29), (0, u "([CIILjava/lang/Void;)V"), (8, .fieldref 10 39), (0, .nameAndType 40 26), (0, u "COMPACT_STRINGS"), (1, .class_ 44), (1, u "java/lang/StringUTF16"), (0, u "compress"), (1, .methodref 42 48), (0, .nameAndType 49 50), (0, u "coderFromArrayLen"), (0, u "([BI)B"), (56, .class_ 109), (1, u "java/lang/StringLatin1"), (32, u "()Z"), (34, .methodref 42 178), (0, .nameAndType 45 179), (0, u "([CII)[B"), (154, u "()I"), (0, .methodref 10 336), (0, .nameAndType 17 337), (0, u "()B"), (25, u "([BI)C"), (27, u "(II)V"), (35, u "(I)C"), (64, .methodref 10 493), (0, .nameAndType 494 142), (0, u "isLatin1"), (0, .methodref 107 496), (0, .nameAndType 497 363), (0, u "charAt"), (0, .methodref 42 496), (2, u "checkIndex"), (3, .methodref 10 506), (0, .nameAndType 507 334), (0, u "length"), (67, .class_ 576), (0, u "java/lang/CharSequence"), (22, u "CASE_INSENSITIVE_ORDER"), (0, u "Ljava/util/Comparator;"), (32, .methodref 10 634), (0, .nameAndType 635 636), (0, u "indexOf"), (0, u "(II)I"), (0, .methodref 107 638), (0, .nameAndType 635 639), (0, u "([BIII)I"), (125, u "(I)I"), (244, u "([C)V"), (42, .fieldref 1054 1055), (0, .class_ 1056), (0, .nameAndType 1057 1058), (0, u "jdk/internal/util/Preconditions"), (0, u "SIOOBE_FORMATTER"), (0, u "Ljava/util/function/BiFunction;"), (0, .methodref 1054 1060), (0, .nameAndType 501 1061), (0, u "(IILjava/util/function/BiFunction;)I"), (39, u "serialPersistentFields"), (0, u "[Ljava/io/ObjectStreamField;"), (0, .class_ 1104), (0, u "java/lang/String$CaseInsensitiveComparator"), (1, .class_ 1107), (0, u "java/io/Serializable"), (0, .class_ 1109), (0, u "java/lang/Comparable"), (0, .class_ 1111), (0, u "java/lang/constant/Constable"), (0, .class_ 1113), (0, u "java/lang/constant/ConstantDesc"), (2, u "serialVersionUID"), (0, u "J"), (3, u "REPL"), (0, u "C"), (2, u "LATIN1"), (1, u "UTF16")] 323

def k7m0 : Method := { name := "<init>", desc := "()V", sig := { parameters := [], returnType := none }, accessFlags := 1, code := none }
def k7c1 : Code := { maxStack := 5, maxLocals := 2, code := jdk_42_method_3_code, exceptionTable := #[], attributes := #[] }
def k7m1 : Method := { name := "<init>", desc := "([C)V", sig := { parameters := [(.array .char)], returnType := none }, accessFlags := 1, code := some k7c1 }
def k7c2 : Code := { maxStack := 2, maxLocals := 1, code := jdk_42_method_54_code, exceptionTable := #[], attributes := #[] }
def k7m2 : Method := { name := "length", desc := "()I", sig := { parameters := [], returnType := some .int }, accessFlags := 1, code := some k7c2 }
def k7c3 : Code := { maxStack := 2, maxLocals := 2, code := jdk_42_method_56_code, exceptionTable := #[], attributes := #[] }
def k7m3 : Method := { name := "charAt", desc := "(I)C", sig := { parameters := [.int], returnType := some .char }, accessFlags := 1, code := some k7c3 }
def k7c4 : Code := { maxStack := 3, maxLocals := 2, code := jdk_42_method_79_code, exceptionTable := #[], attributes := #[] }
def k7m4 : Method := { name := "indexOf", desc := "(I)I", sig := { parameters := [.int], returnType := some .int }, accessFlags := 1, code := some k7c4 }
def k7c5 : Code := { maxStack := 4, maxLocals := 3, code := jdk_42_method_80_code, exceptionTable := #[], attributes := #[] }
def k7m5 : Method := { name := "indexOf", desc := "(II)I", sig := { parameters := [.int, .int], returnType := some .int }, accessFlags := 1, code := some k7c5 }
def k7c6 : Code := { maxStack := 4, maxLocals := 6, code := jdk_42_method_149_code, exceptionTable := #[], attributes := #[] }
def k7m6 : Method := { name := "<init>", desc := "([CIILjava/lang/Void;)V", sig := { parameters := [(.array .char), .int, .int, (.object "java/lang/Void")], returnType := none }, accessFlags := 2, code := some k7c6 }
def k7c7 : Code := { maxStack := 1, maxLocals := 1, code := jdk_42_method_152_code, exceptionTable := #[], attributes := #[] }
def k7m7 : Method := { name := "coder", desc := "()B", sig := { parameters := [], returnType := some .byte }, accessFlags := 0, code := some k7c7 }
def k7c8 : Code := { maxStack := 1, maxLocals := 1, code := jdk_42_method_154_code, exceptionTable := #[], attributes := #[] }
def k7m8 : Method := { name := "isLatin1", desc := "()Z", sig := { parameters := [], returnType := some .boolean }, accessFlags := 0, code := some k7c8 }
def k7c9 : Code := { maxStack := 3, maxLocals := 2, code := jdk_42_method_155_code, exceptionTable := #[], attributes := #[] }
def k7m9 : Method := { name := "checkIndex", desc := "(II)V", sig := { parameters := [.int, .int], returnType := none }, accessFlags := 8, code := some k7c9 }
/-- java/lang/String -/
def k7 : Class := { plain "java/lang/String" (some 0) with
  accessFlags := 49
  interfaces := #[2, 3, 4, 5, 6]
  cf := some (fileOf pool7 10 #[.nestMembers #[1103]] #[{ accessFlags := 1, nameIndex := 5, descriptorIndex := 6, attributes := #[] }, { accessFlags := 1, nameIndex := 5, descriptorIndex := 1010, attributes := #[] }, { accessFlags := 1, nameIndex := 507, descriptorIndex := 334, attributes := #[] }, { accessFlags := 1, nameIndex := 497, descriptorIndex := 427, attributes := #[] }, { accessFlags := 1, nameIndex := 635, descriptorIndex := 765, attributes := #[] }, { accessFlags := 1, nameIndex := 635, descriptorIndex := 636, attributes := #[] }, { accessFlags := 2, nameIndex := 5, descriptorIndex := 29, attributes := #[] }, { accessFlags := 0, nameIndex := 17, descriptorIndex := 337, attributes := #[] }, { accessFlags := 0, nameIndex := 494, descriptorIndex := 142, attributes := #[] }, { accessFlags := 8, nameIndex := 501, descriptorIndex := 391, attributes := #[] }] 49 2 #[1106, 1108, 575, 1110, 1112] #[{ accessFlags := 18, nameIndex := 13, descriptorIndex := 14, attributes := #[] }, { accessFlags := 18, nameIndex := 17, descriptorIndex := 18, attributes := #[] }, { accessFlags := 2, nameIndex := 21, descriptorIndex := 22, attributes := #[] }, { accessFlags := 2, nameIndex := 25, descriptorIndex := 26, attributes := #[] }, { accessFlags := 26, nameIndex := 1116, descriptorIndex := 1117, attributes := #[] }, { accessFlags := 24, nameIndex := 40, descriptorIndex := 26, attributes := #[] }, { accessFlags := 26, nameIndex := 1101, descriptorIndex := 1102, attributes := #[] }, { accessFlags := 26, nameIndex := 1121, descriptorIndex := 1122, attributes := #[] }, { accessFlags := 25, nameIndex := 599, descriptorIndex := 600, attributes := #[] }, { accessFlags := 24, nameIndex := 1125, descriptorIndex := 18, attributes := #[] }, { accessFlags := 24, nameIndex := 1127, descriptorIndex := 18, attributes := #[] }])
  fields := #[{ name := "value", type := (.array .byte), accessFlags := 18, slot := 0, constantValue := 0 }, { name := "coder", type := .byte, accessFlags := 18, slot := 1, constantValue := 0 }, { name := "hash", type := .int, accessFlags := 2, slot := 2, constantValue := 0 }, { name := "hashIsZero", type := .boolean, accessFlags := 2, slot := 3, constantValue := 0 }, { name := "serialVersionUID", type := .long, accessFlags := 26, slot := 0, constantValue := 0 }, { name := "COMPACT_STRINGS", type := .boolean, accessFlags := 24, slot := 1, constantValue := 0 }, { name := "serialPersistentFields", type := (.array (.object "java/io/ObjectStreamField")), accessFlags := 26, slot := 2, constantValue := 0 }, { name := "REPL", type := .char, accessFlags := 26, slot := 3, constantValue := 0 }, { name := "CASE_INSENSITIVE_ORDER", type := (.object "java/util/Comparator"), accessFlags := 25, slot := 4, constantValue := 0 }, { name := "LATIN1", type := .byte, accessFlags := 24, slot := 5, constantValue := 0 }, { name := "UTF16", type := .byte, accessFlags := 24, slot := 6, constantValue := 0 }]
  methods := #[k7m0, k7m1, k7m2, k7m3, k7m4, k7m5, k7m6, k7m7, k7m8, k7m9]
  instanceTypes := #[(.array .byte), .byte, .int, .boolean]
  staticTypes := #[.long, .boolean, (.array (.object "java/io/ObjectStreamField")), .char, (.object "java/util/Comparator"), .byte, .byte]
  resolved := Array.replicate 1451 none
  statics := some 0 }

def pool8 : Array CpInfo := pool [(3, .class_ 4), (0, u "java/lang/String"), (1, .class_ 8), (1, u "java/lang/Object"), (0, u "<init>"), (0, u "()V"), (0, .methodref 12 13), (0, .class_ 14), (0, .nameAndType 15 16), (0, u "java/lang/StringUTF16"), (0, u "newBytesLength"), (0, u "(I)I"), (3, .integer 1073741823), (23, .fieldref 12 45), (0, .nameAndType 46 47), (0, u "$assertionsDisabled"), (0, u "Z"), (0, .methodref 12 49), (0, .nameAndType 50 51), (0, u "length"), (0, u "([B)I"), (7, .fieldref 12 60), (0, .nameAndType 61 62), (0, u "HI_BYTE_SHIFT"), (0, u "I"), (0, .fieldref 12 64), (0, .nameAndType 65 62), (0, u "LO_BYTE_SHIFT"), (1, .methodref 12 68), (0, .nameAndType 69 70), (0, u "checkIndex"), (0, u "(I[B)V"), (0, .methodref 12 72), (0, .nameAndType 73 74), (0, u "getChar"), (0, u "([BI)C"), (32, .methodref 12 108), (0, .nameAndType 109 110), (0, u "newBytesFor"), (0, u "(I)[B"), (0, .methodref 12 112), (0, .nameAndType 113 114), (0, u "putChar"), (0, u "([BII)V"), (0, .methodref 12 116), (0, .nameAndType 117 118), (0, u "compress"), (0, u "([CI[BII)I"), (0, .methodref 12 120), (0, .nameAndType 121 122), (0, u "toBytes"), (0, u "([CII)[B"), (138, u "coderFromArrayLen"), (0, u "([BI)B"), (106, .class_ 371), (1, u "java/lang/StringUTF16$LinesSpliterator"), (20, u "charAt"), (21, .methodref 3 415), (0, .nameAndType 69 416), (0, u "(II)V"), (13, u "MAX_LENGTH"), (196, .class_ 628), (0, u "java/lang/StringUTF16$CodePointsSpliterator"), (0, .class_ 630), (0, u "java/lang/StringUTF16$CharsSpliterator")] 4

def k8m0 : Method := { name := "<init>", desc := "()V", sig := { parameters := [], returnType := none }, accessFlags := 0, code := none }
def k8c1 : Code := { maxStack := 1, maxLocals := 1, code := jdk_52_method_2_code, exceptionTable := #[], attributes := #[] }
def k8m1 : Method := { name := "newBytesFor", desc := "(I)[B", sig := { parameters := [.int], returnType := some (.array .byte) }, accessFlags := 9, code := some k8c1 }
def k8c2 : Code := { maxStack := 4, maxLocals := 1, code := jdk_52_method_3_code, exceptionTable := #[], attributes := #[] }
def k8m2 : Method := { name := "newBytesLength", desc := "(I)I", sig := { parameters := [.int], returnType := some .int }, accessFlags := 9, code := some k8c2 }
def k8c3 : Code := { maxStack := 4, maxLocals := 3, code := jdk_52_method_4_code, exceptionTable := #[], attributes := #[] }
def k8m3 : Method := { name := "putChar", desc := "([BII)V", sig := { parameters := [(.array .byte), .int, .int], returnType := none }, accessFlags := 8, code := some k8c3 }
def k8c4 : Code := { maxStack := 3, maxLocals := 2, code := jdk_52_method_5_code, exceptionTable := #[], attributes := #[] }
def k8m4 : Method := { name := "getChar", desc := "([BI)C", sig := { parameters := [(.array .byte), .int], returnType := some .char }, accessFlags := 8, code := some k8c4 }
def k8c5 : Code := { maxStack := 2, maxLocals := 1, code := jdk_52_method_6_code, exceptionTable := #[], attributes := #[] }
def k8m5 : Method := { name := "length", desc := "([B)I", sig := { parameters := [(.array .byte)], returnType := some .int }, accessFlags := 9, code := some k8c5 }
def k8c6 : Code := { maxStack := 4, maxLocals := 5, code := jdk_52_method_14_code, exceptionTable := #[], attributes := #[] }
def k8m6 : Method := { name := "toBytes", desc := "([CII)[B", sig := { parameters := [(.array .char), .int, .int], returnType := some (.array .byte) }, accessFlags := 9, code := some k8c6 }
def k8c7 : Code := { maxStack := 2, maxLocals := 2, code := jdk_52_method_15_code, exceptionTable := #[], attributes := #[] }
def k8m7 : Method := { name := "coderFromArrayLen", desc := "([BI)B", sig := { parameters := [(.array .byte), .int], returnType := some .byte }, accessFlags := 8, code := some k8c7 }
def k8c8 : Code := { maxStack := 5, maxLocals := 6, code := jdk_52_method_16_code, exceptionTable := #[], attributes := #[] }
def k8m8 : Method := { name := "compress", desc := "([CII)[B", sig := { parameters := [(.array .char), .int, .int], returnType := some (.array .byte) }, accessFlags := 9, code := some k8c8 }
def k8c9 : Code := { maxStack := 3, maxLocals := 7, code := jdk_52_method_21_code, exceptionTable := #[], attributes := #[] }
def k8m9 : Method := { name := "compress", desc := "([CI[BII)I", sig := { parameters := [(.array .char), .int, (.array .byte), .int, .int], returnType := some .int }, accessFlags := 9, code := some k8c9 }
def k8c10 : Code := { maxStack := 2, maxLocals := 2, code := jdk_52_method_83_code, exceptionTable := #[], attributes := #[] }
def k8m10 : Method := { name := "charAt", desc := "([BI)C", sig := { parameters := [(.array .byte), .int], returnType := some .char }, accessFlags := 9, code := some k8c10 }
def k8c11 : Code := { maxStack := 2, maxLocals := 2, code := jdk_52_method_91_code, exceptionTable := #[], attributes := #[] }
def k8m11 : Method := { name := "checkIndex", desc := "(I[B)V", sig := { parameters := [.int, (.array .byte)], returnType := none }, accessFlags := 9, code := some k8c11 }
/-- java/lang/StringUTF16 -/
def k8 : Class := { plain "java/lang/StringUTF16" (some 0) with
  accessFlags := 48
  interfaces := #[]
  cf := some (fileOf pool8 12 #[.nestMembers #[627, 629, 369]] #[{ accessFlags := 0, nameIndex := 9, descriptorIndex := 10, attributes := #[] }, { accessFlags := 9, nameIndex := 109, descriptorIndex := 110, attributes := #[] }, { accessFlags := 9, nameIndex := 15, descriptorIndex := 16, attributes := #[] }, { accessFlags := 8, nameIndex := 113, descriptorIndex := 114, attributes := #[] }, { accessFlags := 8, nameIndex := 73, descriptorIndex := 74, attributes := #[] }, { accessFlags := 9, nameIndex := 50, descriptorIndex := 51, attributes := #[] }, { accessFlags := 9, nameIndex := 121, descriptorIndex := 122, attributes := #[] }, { accessFlags := 8, nameIndex := 261, descriptorIndex := 262, attributes := #[] }, { accessFlags := 9, nameIndex := 117, descriptorIndex := 122, attributes := #[] }, { accessFlags := 9, nameIndex := 117, descriptorIndex := 118, attributes := #[] }, { accessFlags := 9, nameIndex := 392, descriptorIndex := 74, attributes := #[] }, { accessFlags := 9, nameIndex := 69, descriptorIndex := 70, attributes := #[] }] 48 6 #[] #[{ accessFlags := 26, nameIndex := 61, descriptorIndex := 62, attributes := #[] }, { accessFlags := 26, nameIndex := 65, descriptorIndex := 62, attributes := #[] }, { accessFlags := 24, nameIndex := 430, descriptorIndex := 62, attributes := #[] }, { accessFlags := 4120, nameIndex := 46, descriptorIndex := 47, attributes := #[] }])
  fields := #[{ name := "HI_BYTE_SHIFT", type := .int, accessFlags := 26, slot := 0, constantValue := 0 }, { name := "LO_BYTE_SHIFT", type := .int, accessFlags := 26, slot := 1, constantValue := 0 }, { name := "MAX_LENGTH", type := .int, accessFlags := 24, slot := 2, constantValue := 0 }, { name := "$assertionsDisabled", type := .boolean, accessFlags := 4120, slot := 3, constantValue := 0 }]
  methods := #[k8m0, k8m1, k8m2, k8m3, k8m4, k8m5, k8m6, k8m7, k8m8, k8m9, k8m10, k8m11]
  instanceTypes := #[]
  staticTypes := #[.int, .int, .int, .boolean]
  resolved := Array.replicate 635 none
  statics := some 1 }

def pool9 : Array CpInfo := pool [(2, .class_ 4), (1, u "java/lang/Object"), (3, .class_ 10), (1, u "com/example/brygga/brygga/HttpHead"), (0, u "startLine"), (0, u "Ljava/lang/String;"), (2, u "names"), (0, u "Ljava/util/List;"), (2, u "values"), (4, .class_ 26), (1, u "java/lang/String"), (31, .methodref 24 59), (0, .nameAndType 60 61), (0, u "indexOf"), (0, u "(I)I"), (2, u "isToken"), (0, u "(Ljava/lang/String;II)Z"), (6, .methodref 24 73), (0, .nameAndType 74 75), (0, u "charAt"), (0, u "(I)C"), (64, .string 141), (0, u "!#$%&'*+-.^_`|~"), (0, u "LIMIT"), (0, u "I"), (1, u "TOKEN_SYMBOLS")] 35

def k9c0 : Code := { maxStack := 2, maxLocals := 6, code := prog_53_method_10_code, exceptionTable := #[], attributes := #[] }
def k9m0 : Method := { name := "isToken", desc := "(Ljava/lang/String;II)Z", sig := { parameters := [(.object "java/lang/String"), .int, .int], returnType := some .boolean }, accessFlags := 8, code := some k9c0 }
/-- com/example/brygga/brygga/HttpHead -/
def k9 : Class := { plain "com/example/brygga/brygga/HttpHead" (some 0) with
  accessFlags := 48
  interfaces := #[]
  cf := some (fileOf pool9 8 #[] #[{ accessFlags := 8, nameIndex := 64, descriptorIndex := 65, attributes := #[] }] 48 2 #[] #[{ accessFlags := 24, nameIndex := 142, descriptorIndex := 143, attributes := #[] }, { accessFlags := 26, nameIndex := 145, descriptorIndex := 12, attributes := #[] }, { accessFlags := 18, nameIndex := 11, descriptorIndex := 12, attributes := #[] }, { accessFlags := 18, nameIndex := 15, descriptorIndex := 16, attributes := #[] }, { accessFlags := 18, nameIndex := 19, descriptorIndex := 16, attributes := #[] }])
  fields := #[{ name := "LIMIT", type := .int, accessFlags := 24, slot := 0, constantValue := 0 }, { name := "TOKEN_SYMBOLS", type := (.object "java/lang/String"), accessFlags := 26, slot := 1, constantValue := 0 }, { name := "startLine", type := (.object "java/lang/String"), accessFlags := 18, slot := 0, constantValue := 0 }, { name := "names", type := (.object "java/util/List"), accessFlags := 18, slot := 1, constantValue := 0 }, { name := "values", type := (.object "java/util/List"), accessFlags := 18, slot := 2, constantValue := 0 }]
  methods := #[k9m0]
  instanceTypes := #[(.object "java/lang/String"), (.object "java/util/List"), (.object "java/util/List")]
  staticTypes := #[.int, (.object "java/lang/String")]
  resolved := Array.replicate 181 none
  statics := none }

def pool10 : Array CpInfo := pool [(2, .class_ 4), (1, u "java/lang/Object"), (0, u "<init>"), (0, u "()V"), (17, .class_ 26), (1, u "jdk/internal/util/Preconditions"), (6, u "checkIndex"), (21, .class_ 56), (0, u "jdk/internal/util/Preconditions$4"), (57, .class_ 115), (0, u "jdk/internal/util/Preconditions$1"), (7, u "SIOOBE_FORMATTER"), (0, u "Ljava/util/function/BiFunction;"), (0, .class_ 126), (0, u "jdk/internal/util/Preconditions$2"), (3, u "AIOOBE_FORMATTER"), (0, .class_ 132), (0, u "jdk/internal/util/Preconditions$3"), (3, u "IOOBE_FORMATTER"), (41, u "(IILjava/util/function/BiFunction;)I")] 15

def k10m0 : Method := { name := "<init>", desc := "()V", sig := { parameters := [], returnType := none }, accessFlags := 1, code := none }
def k10c1 : Code := { maxStack := 3, maxLocals := 3, code := jdk_41_method_11_code, exceptionTable := #[], attributes := #[] }
def k10m1 : Method := { name := "checkIndex", desc := "(IILjava/util/function/BiFunction;)I", sig := { parameters := [.int, .int, (.object "java/util/function/BiFunction")], returnType := some .int }, accessFlags := 9, code := some k10c1 }
/-- jdk/internal/util/Preconditions -/
def k10 : Class := { plain "jdk/internal/util/Preconditions" (some 0) with
  accessFlags := 33
  interfaces := #[]
  cf := some (fileOf pool10 24 #[.nestMembers #[55, 131, 125, 114]] #[{ accessFlags := 1, nameIndex := 5, descriptorIndex := 6, attributes := #[] }, { accessFlags := 9, nameIndex := 33, descriptorIndex := 178, attributes := #[] }] 33 2 #[] #[{ accessFlags := 25, nameIndex := 123, descriptorIndex := 124, attributes := #[] }, { accessFlags := 25, nameIndex := 130, descriptorIndex := 124, attributes := #[] }, { accessFlags := 25, nameIndex := 136, descriptorIndex := 124, attributes := #[] }])
  fields := #[{ name := "SIOOBE_FORMATTER", type := (.object "java/util/function/BiFunction"), accessFlags := 25, slot := 0, constantValue := 0 }, { name := "AIOOBE_FORMATTER", type := (.object "java/util/function/BiFunction"), accessFlags := 25, slot := 1, constantValue := 0 }, { name := "IOOBE_FORMATTER", type := (.object "java/util/function/BiFunction"), accessFlags := 25, slot := 2, constantValue := 0 }]
  methods := #[k10m0, k10m1]
  instanceTypes := #[]
  staticTypes := #[(.object "java/util/function/BiFunction"), (.object "java/util/function/BiFunction"), (.object "java/util/function/BiFunction")]
  resolved := Array.replicate 194 none
  statics := some 2 }

def pool11 : Array CpInfo := pool [(1, .class_ 2), (0, u "java/lang/String"), (1, .class_ 6), (1, u "java/lang/Object"), (0, u "<init>"), (0, u "()V"), (0, .methodref 1 10), (0, .nameAndType 11 12), (0, u "checkIndex"), (0, u "(II)V"), (1, .class_ 16), (1, u "java/lang/StringLatin1"), (21, .methodref 39 40), (0, .class_ 41), (0, .nameAndType 42 43), (0, u "java/lang/Math"), (0, u "min"), (0, u "(II)I"), (9, u "([BI)C"), (34, .methodref 14 89), (0, .nameAndType 90 91), (0, u "canEncode"), (0, u "(I)Z"), (0, .methodref 39 93), (0, .nameAndType 94 43), (0, u "max"), (0, .methodref 14 96), (0, .nameAndType 97 98), (0, u "indexOfChar"), (0, u "([BIII)I"), (2, u "indexOf"), (19, u "$assertionsDisabled"), (0, u "Z"), (98, .class_ 223), (1, u "java/lang/StringLatin1$LinesSpliterator"), (28, u "charAt"), (137, .class_ 391), (0, u "java/lang/StringLatin1$CharsSpliterator")] 3

def k11m0 : Method := { name := "<init>", desc := "()V", sig := { parameters := [], returnType := none }, accessFlags := 0, code := none }
def k11c1 : Code := { maxStack := 2, maxLocals := 2, code := jdk_43_method_2_code, exceptionTable := #[], attributes := #[] }
def k11m1 : Method := { name := "charAt", desc := "([BI)C", sig := { parameters := [(.array .byte), .int], returnType := some .char }, accessFlags := 9, code := some k11c1 }
def k11c2 : Code := { maxStack := 2, maxLocals := 1, code := jdk_43_method_4_code, exceptionTable := #[], attributes := #[] }
def k11m2 : Method := { name := "canEncode", desc := "(I)Z", sig := { parameters := [.int], returnType := some .boolean }, accessFlags := 9, code := some k11c2 }
def k11c3 : Code := { maxStack := 4, maxLocals := 4, code := jdk_43_method_22_code, exceptionTable := #[], attributes := #[] }
def k11m3 : Method := { name := "indexOf", desc := "([BIII)I", sig := { parameters := [(.array .byte), .int, .int, .int], returnType := some .int }, accessFlags := 9, code := some k11c3 }
def k11c4 : Code := { maxStack := 2, maxLocals := 6, code := jdk_43_method_23_code, exceptionTable := #[], attributes := #[] }
def k11m4 : Method := { name := "indexOfChar", desc := "([BIII)I", sig := { parameters := [(.array .byte), .int, .int, .int], returnType := some .int }, accessFlags := 10, code := some k11c4 }
/-- java/lang/StringLatin1 -/
def k11 : Class := { plain "java/lang/StringLatin1" (some 0) with
  accessFlags := 48
  interfaces := #[]
  cf := some (fileOf pool11 14 #[.nestMembers #[390, 221]] #[{ accessFlags := 0, nameIndex := 7, descriptorIndex := 8, attributes := #[] }, { accessFlags := 9, nameIndex := 252, descriptorIndex := 53, attributes := #[] }, { accessFlags := 9, nameIndex := 90, descriptorIndex := 91, attributes := #[] }, { accessFlags := 9, nameIndex := 101, descriptorIndex := 98, attributes := #[] }, { accessFlags := 10, nameIndex := 97, descriptorIndex := 98, attributes := #[] }] 48 4 #[] #[{ accessFlags := 4120, nameIndex := 121, descriptorIndex := 122, attributes := #[] }])
  fields := #[{ name := "$assertionsDisabled", type := .boolean, accessFlags := 4120, slot := 0, constantValue := 0 }]
  methods := #[k11m0, k11m1, k11m2, k11m3, k11m4]
  instanceTypes := #[]
  staticTypes := #[.boolean]
  resolved := Array.replicate 395 none
  statics := none }

def pool12 : Array CpInfo := pool [(1, .class_ 2), (0, u "java/lang/Math"), (1, .class_ 6), (1, u "java/lang/Object"), (0, u "<init>"), (0, u "()V"), (89, .class_ 100), (1, u "java/lang/Math$RandomNumberGeneratorHolder"), (71, u "negativeZeroFloatBits"), (0, u "J"), (2, u "negativeZeroDoubleBits"), (21, u "max"), (2, u "min"), (43, u "$assertionsDisabled"), (0, u "Z"), (88, u "(II)I"), (2, u "twoToTheDoubleScaleDown"), (0, u "D"), (4, u "twoToTheDoubleScaleUp"), (9, u "E"), (3, u "PI"), (2, u "TAU"), (2, u "DEGREES_TO_RADIANS"), (0, u "RADIANS_TO_DEGREES")] 94

def k12m0 : Method := { name := "<init>", desc := "()V", sig := { parameters := [], returnType := none }, accessFlags := 2, code := none }
def k12c1 : Code := { maxStack := 2, maxLocals := 2, code := jdk_29_method_65_code, exceptionTable := #[], attributes := #[] }
def k12m1 : Method := { name := "max", desc := "(II)I", sig := { parameters := [.int, .int], returnType := some .int }, accessFlags := 9, code := some k12c1 }
def k12c2 : Code := { maxStack := 2, maxLocals := 2, code := jdk_29_method_69_code, exceptionTable := #[], attributes := #[] }
def k12m2 : Method := { name := "min", desc := "(II)I", sig := { parameters := [.int, .int], returnType := some .int }, accessFlags := 9, code := some k12c2 }
/-- java/lang/Math -/
def k12 : Class := { plain "java/lang/Math" (some 0) with
  accessFlags := 49
  interfaces := #[]
  cf := some (fileOf pool12 1 #[.nestMembers #[98]] #[{ accessFlags := 2, nameIndex := 7, descriptorIndex := 8, attributes := #[] }, { accessFlags := 9, nameIndex := 198, descriptorIndex := 335, attributes := #[] }, { accessFlags := 9, nameIndex := 201, descriptorIndex := 335, attributes := #[] }] 49 4 #[] #[{ accessFlags := 25, nameIndex := 354, descriptorIndex := 339, attributes := #[] }, { accessFlags := 25, nameIndex := 358, descriptorIndex := 339, attributes := #[] }, { accessFlags := 25, nameIndex := 361, descriptorIndex := 339, attributes := #[] }, { accessFlags := 26, nameIndex := 364, descriptorIndex := 339, attributes := #[] }, { accessFlags := 26, nameIndex := 365, descriptorIndex := 339, attributes := #[] }, { accessFlags := 26, nameIndex := 172, descriptorIndex := 173, attributes := #[] }, { accessFlags := 26, nameIndex := 176, descriptorIndex := 173, attributes := #[] }, { accessFlags := 8, nameIndex := 344, descriptorIndex := 339, attributes := #[] }, { accessFlags := 8, nameIndex := 338, descriptorIndex := 339, attributes := #[] }, { accessFlags := 4120, nameIndex := 245, descriptorIndex := 246, attributes := #[] }])
  fields := #[{ name := "E", type := .double, accessFlags := 25, slot := 0, constantValue := 0 }, { name := "PI", type := .double, accessFlags := 25, slot := 1, constantValue := 0 }, { name := "TAU", type := .double, accessFlags := 25, slot := 2, constantValue := 0 }, { name := "DEGREES_TO_RADIANS", type := .double, accessFlags := 26, slot := 3, constantValue := 0 }, { name := "RADIANS_TO_DEGREES", type := .double, accessFlags := 26, slot := 4, constantValue := 0 }, { name := "negativeZeroFloatBits", type := .long, accessFlags := 26, slot := 5, constantValue := 0 }, { name := "negativeZeroDoubleBits", type := .long, accessFlags := 26, slot := 6, constantValue := 0 }, { name := "twoToTheDoubleScaleUp", type := .double, accessFlags := 8, slot := 7, constantValue := 0 }, { name := "twoToTheDoubleScaleDown", type := .double, accessFlags := 8, slot := 8, constantValue := 0 }, { name := "$assertionsDisabled", type := .boolean, accessFlags := 4120, slot := 9, constantValue := 0 }]
  methods := #[k12m0, k12m1, k12m2]
  instanceTypes := #[]
  staticTypes := #[.double, .double, .double, .double, .double, .long, .long, .double, .double, .boolean]
  resolved := Array.replicate 460 none
  statics := none }

def pool13 : Array CpInfo := pool [(9, u "<init>"), (6, .class_ 18), (1, u "java/lang/Object"), (0, u "()V"), (1, .class_ 23), (1, u "jdk/internal/util/ArraysSupport"), (0, u "LOG2_ARRAY_LONG_INDEX_SCALE"), (0, u "I"), (2, u "U"), (0, u "Ljdk/internal/misc/Unsafe;"), (8, u "BIG_ENDIAN"), (0, u "Z"), (8, u "LOG2_BYTE_BIT_SIZE"), (4, u "LOG2_ARRAY_INT_INDEX_SCALE"), (54, u "JLA"), (0, u "Ljdk/internal/access/JavaLangAccess;"), (11, u "LOG2_ARRAY_BOOLEAN_INDEX_SCALE"), (9, u "LOG2_ARRAY_BYTE_INDEX_SCALE"), (5, u "LOG2_ARRAY_CHAR_INDEX_SCALE"), (5, u "LOG2_ARRAY_SHORT_INDEX_SCALE"), (18, u "LOG2_ARRAY_FLOAT_INDEX_SCALE"), (24, u "LOG2_ARRAY_DOUBLE_INDEX_SCALE"), (89, u "T_BOOLEAN"), (2, u "T_CHAR"), (1, u "T_FLOAT"), (1, u "T_DOUBLE"), (1, u "T_BYTE"), (1, u "T_SHORT"), (1, u "T_INT"), (1, u "T_LONG"), (1, u "SOFT_MAX_ARRAY_LENGTH")] 83

def k13m0 : Method := { name := "<init>", desc := "()V", sig := { parameters := [], returnType := none }, accessFlags := 2, code := none }
/-- jdk/internal/util/ArraysSupport -/
def k13 : Class := { plain "jdk/internal/util/ArraysSupport" (some 0) with
  accessFlags := 33
  interfaces := #[]
  cf := some (fileOf pool13 21 #[] #[{ accessFlags := 2, nameIndex := 9, descriptorIndex := 19, attributes := #[] }] 33 16 #[] #[{ accessFlags := 24, nameIndex := 28, descriptorIndex := 29, attributes := #[] }, { accessFlags := 26, nameIndex := 38, descriptorIndex := 39, attributes := #[] }, { accessFlags := 25, nameIndex := 121, descriptorIndex := 25, attributes := #[] }, { accessFlags := 25, nameIndex := 131, descriptorIndex := 25, attributes := #[] }, { accessFlags := 25, nameIndex := 137, descriptorIndex := 25, attributes := #[] }, { accessFlags := 25, nameIndex := 143, descriptorIndex := 25, attributes := #[] }, { accessFlags := 25, nameIndex := 53, descriptorIndex := 25, attributes := #[] }, { accessFlags := 25, nameIndex := 24, descriptorIndex := 25, attributes := #[] }, { accessFlags := 25, nameIndex := 162, descriptorIndex := 25, attributes := #[] }, { accessFlags := 25, nameIndex := 187, descriptorIndex := 25, attributes := #[] }, { accessFlags := 26, nameIndex := 48, descriptorIndex := 25, attributes := #[] }, { accessFlags := 25, nameIndex := 277, descriptorIndex := 25, attributes := #[] }, { accessFlags := 25, nameIndex := 280, descriptorIndex := 25, attributes := #[] }, { accessFlags := 25, nameIndex := 282, descriptorIndex := 25, attributes := #[] }, { accessFlags := 25, nameIndex := 284, descriptorIndex := 25, attributes := #[] }, { accessFlags := 25, nameIndex := 286, descriptorIndex := 25, attributes := #[] }, { accessFlags := 25, nameIndex := 288, descriptorIndex := 25, attributes := #[] }, { accessFlags := 25, nameIndex := 290, descriptorIndex := 25, attributes := #[] }, { accessFlags := 25, nameIndex := 292, descriptorIndex := 25, attributes := #[] }, { accessFlags := 26, nameIndex := 108, descriptorIndex := 109, attributes := #[] }, { accessFlags := 25, nameIndex := 294, descriptorIndex := 25, attributes := #[] }])
  fields := #[{ name := "U", type := (.object "jdk/internal/misc/Unsafe"), accessFlags := 24, slot := 0, constantValue := 0 }, { name := "BIG_ENDIAN", type := .boolean, accessFlags := 26, slot := 1, constantValue := 0 }, { name := "LOG2_ARRAY_BOOLEAN_INDEX_SCALE", type := .int, accessFlags := 25, slot := 2, constantValue := 0 }, { name := "LOG2_ARRAY_BYTE_INDEX_SCALE", type := .int, accessFlags := 25, slot := 3, constantValue := 0 }, { name := "LOG2_ARRAY_CHAR_INDEX_SCALE", type := .int, accessFlags := 25, slot := 4, constantValue := 0 }, { name := "LOG2_ARRAY_SHORT_INDEX_SCALE", type := .int, accessFlags := 25, slot := 5, constantValue := 0 }, { name := "LOG2_ARRAY_INT_INDEX_SCALE", type := .int, accessFlags := 25, slot := 6, constantValue := 0 }, { name := "LOG2_ARRAY_LONG_INDEX_SCALE", type := .int, accessFlags := 25, slot := 7, constantValue := 0 }, { name := "LOG2_ARRAY_FLOAT_INDEX_SCALE", type := .int, accessFlags := 25, slot := 8, constantValue := 0 }, { name := "LOG2_ARRAY_DOUBLE_INDEX_SCALE", type := .int, accessFlags := 25, slot := 9, constantValue := 0 }, { name := "LOG2_BYTE_BIT_SIZE", type := .int, accessFlags := 26, slot := 10, constantValue := 0 }, { name := "T_BOOLEAN", type := .int, accessFlags := 25, slot := 11, constantValue := 0 }, { name := "T_CHAR", type := .int, accessFlags := 25, slot := 12, constantValue := 0 }, { name := "T_FLOAT", type := .int, accessFlags := 25, slot := 13, constantValue := 0 }, { name := "T_DOUBLE", type := .int, accessFlags := 25, slot := 14, constantValue := 0 }, { name := "T_BYTE", type := .int, accessFlags := 25, slot := 15, constantValue := 0 }, { name := "T_SHORT", type := .int, accessFlags := 25, slot := 16, constantValue := 0 }, { name := "T_INT", type := .int, accessFlags := 25, slot := 17, constantValue := 0 }, { name := "T_LONG", type := .int, accessFlags := 25, slot := 18, constantValue := 0 }, { name := "JLA", type := (.object "jdk/internal/access/JavaLangAccess"), accessFlags := 26, slot := 19, constantValue := 0 }, { name := "SOFT_MAX_ARRAY_LENGTH", type := .int, accessFlags := 25, slot := 20, constantValue := 0 }]
  methods := #[k13m0]
  instanceTypes := #[]
  staticTypes := #[(.object "jdk/internal/misc/Unsafe"), .boolean, .int, .int, .int, .int, .int, .int, .int, .int, .int, .int, .int, .int, .int, .int, .int, .int, .int, (.object "jdk/internal/access/JavaLangAccess"), .int]
  resolved := Array.replicate 378 none
  statics := none }

def pool14 : Array CpInfo := pool [(1, u "java/lang/Cloneable"), (0, .class_ 1), (0, u "java/lang/Object"), (0, .class_ 3)] 3

/-- java/lang/Cloneable -/
def k14 : Class := { plain "java/lang/Cloneable" (some 0) with
  accessFlags := 1537
  interfaces := #[]
  cf := some (fileOf pool14 2 #[] #[] 1537 4 #[] #[])
  fields := #[]
  methods := #[]
  instanceTypes := #[]
  staticTypes := #[]
  resolved := Array.replicate 8 none
  statics := none }

/-- the primitive byte -/
def k15 : Class := { plain "byte" none with kind := .primitive 'B', accessFlags := 0x411 }
/-- [B -/
def k16 : Class := { plain "[B" (some 0) with kind := .array 15 .byte, interfaces := #[14, 2], accessFlags := 1041 }

/-- the primitive char -/
def k17 : Class := { plain "char" none with kind := .primitive 'C', accessFlags := 0x411 }
/-- [C -/
def k18 : Class := { plain "[C" (some 0) with kind := .array 17 .char, interfaces := #[14, 2], accessFlags := 1041 }

/-- the primitive int -/
def k19 : Class := { plain "int" none with kind := .primitive 'I', accessFlags := 0x411 }
/-- [I -/
def k20 : Class := { plain "[I" (some 0) with kind := .array 19 .int, interfaces := #[14, 2], accessFlags := 1041 }

def heap : Heap := #[{ cls := 7, slots := #[.long 0, .int 1, .null, .int 0, .null, .int 0, .int 0], vm := .statics 7 },
  { cls := 8, slots := #[.int 0, .int 8, .int 0, .int 1], vm := .statics 8 },
  { cls := 10, slots := #[.null, .null, .null], vm := .statics 10 }]
def classes : Array Class := #[k0, k1, k2, k3, k4, k5, k6, k7, k8, k9, k10, k11, k12, k13, k14, k15, k16, k17, k18, k19, k20]
def interned : List (Array UInt16 × Addr) := []
def slotsUsed : Nat := 14
def theMethod : MethodId := ⟨1, 1⟩
def args0 : Array Value := #[.int 5, .int 1, .int 2, .int 3, .int 4]
def aboutOver (below : List Frame) : State where
  vm := { classes := classes, interned := interned.toArray }
  heap := heap
  slotsUsed := slotsUsed
  threads := #[{ frames := .invoking theMethod args0 :: below }]
def below0 : List Frame := [.native { method := ⟨0, 0⟩, args := #[] }]
def about1 : State := aboutOver below0
def p0 : Program := .bare "" "" ""
def e0 : Env := launch0.env 0 0 0
theorem w_frames : about1.frames = Frame.invoking theMethod args0 :: below0 := rfl
set_option maxRecDepth 65536 in
theorem w_args : argsFit about1.vm theMethod args0 = true := by decide +kernel
set_option maxRecDepth 65536 in
theorem w_heap : heapFits about1 = true := by decide +kernel
set_option maxRecDepth 65536 in
theorem w_runnable : about1.curStatus? = some .runnable := by decide +kernel
set_option maxRecDepth 65536 in
theorem w_alone : about1.alone = true := by decide +kernel
set_option maxRecDepth 65536 in
theorem w_named : about1.methodNamed? x = some theMethod := by decide +kernel
set_option maxRecDepth 65536 in
theorem w_hears : about1.hears theMethod below0 = true := by decide +kernel
set_option maxRecDepth 65536 in
theorem w_ripe : about1.ripe theMethod args0 below0 = true := by decide +kernel
theorem w_running : about1.status = .running := rfl
set_option maxRecDepth 65536 in
theorem w_room : about1.hasRoom e0.platform room_1 = true :=
  launch0.hasRoom_least _ room_1 (by decide +kernel) (by decide +kernel) (by decide +kernel) (by decide +kernel) (by decide +kernel) (by decide +kernel)
theorem allAtoms_all (ts : List Jvm.Cond) (a : Array Jvm.Value) (st : Jvm.State) : (allAtoms ts).before a st = ts.all (fun c => c.before a st) := by
  induction ts with
  | nil => rfl
  | cons c t ih =>
    show (Jvm.Cond.and c (allAtoms t)).before a st = _
    rw [Jvm.Cond.before_and, ih, List.all_cons]
def words1 : List Jvm.Cond := Jvm.Cond.code x code maxLocals ret :: tables_1
/-- a 'code' word, met by the world's own term for the bytes: nothing is compared byte by byte -/
theorem code_word {y : MethodName} {bytes : ByteArray} {mx : Nat} {rt : Option FieldType} {a : Array Value} {s : State} {m : MethodId} {meth : Method} {c : Code} (h1 : s.methodNamed? y = some m) (h2 : s.vm.method? m = some meth) (h3 : meth.code = some c) (h4 : c.code = bytes)
    (h5 : (c.maxLocals == mx && c.exceptionTable.isEmpty && decide (c.maxStack ≤ mostOperands) && decide (meth.sig.returnType = rt) && !meth.locks && decide (parseMethodDescriptor y.desc = some meth.sig)) = true) : (Jvm.Cond.code y bytes mx rt).before a s = true := by
  simp only [Bool.and_eq_true, beq_iff_eq, Bool.not_eq_true', decide_eq_true_eq] at h5
  obtain ⟨⟨⟨⟨⟨g1, g2⟩, g3⟩, g4⟩, g5⟩, g6⟩ := h5
  simp [Cond.before, Cond.holds, Cond.value, h1, h2, h3, h4, g1, g2, g3, g4, g5, g6]
def isCode : Jvm.Cond → Bool
  | .code _ _ _ _ => true
  | _ => false
theorem all_split {L : List Jvm.Cond} {P : Jvm.Cond → Bool} (h1 : L.all (fun c => isCode c || P c) = true) (h2 : ∀ c ∈ L.filter isCode, P c = true) : L.all P = true := by
  refine List.all_eq_true.mpr fun c hc => ?_
  have h := List.all_eq_true.mp h1 c hc
  rcases Bool.eq_false_or_eq_true (isCode c) with hi | hi
  · exact h2 c (List.mem_filter.mpr ⟨hc, hi⟩)
  · simpa [hi] using h
set_option maxRecDepth 65536 in
theorem w_c0 : (Jvm.Cond.code x code maxLocals ret).before args0 about1 = true := code_word (m := ⟨1, 1⟩) (meth := k1m1) (c := k1c1) (by decide +kernel) rfl rfl rfl (by decide +kernel)
set_option maxRecDepth 65536 in
theorem w_c1 : (Jvm.Cond.code ({ cls := "com/example/brygga/brygga/HttpHeadIsTokenPinLaw", name := "ch", desc := "(I)C" } : Jvm.MethodName) method_3_code (1 : Nat) (Option.some Jvm.ClassFile.FieldType.char)).before args0 about1 = true := code_word (m := ⟨1, 2⟩) (meth := k1m2) (c := k1c2) (by decide +kernel) rfl rfl rfl (by decide +kernel)
set_option maxRecDepth 65536 in
theorem w_c2 : (Jvm.Cond.code ({ cls := "java/lang/String", name := "<init>", desc := "([C)V" } : Jvm.MethodName) jdk_42_method_3_code (2 : Nat) (Option.none : Option Jvm.ClassFile.FieldType)).before args0 about1 = true := code_word (m := ⟨7, 1⟩) (meth := k7m1) (c := k7c1) (by decide +kernel) rfl rfl rfl (by decide +kernel)
set_option maxRecDepth 65536 in
theorem w_c3 : (Jvm.Cond.code ({ cls := "java/lang/String", name := "<init>", desc := "([CIILjava/lang/Void;)V" } : Jvm.MethodName) jdk_42_method_149_code (6 : Nat) (Option.none : Option Jvm.ClassFile.FieldType)).before args0 about1 = true := code_word (m := ⟨7, 6⟩) (meth := k7m6) (c := k7c6) (by decide +kernel) rfl rfl rfl (by decide +kernel)
set_option maxRecDepth 65536 in
theorem w_c4 : (Jvm.Cond.code ({ cls := "java/lang/Object", name := "<init>", desc := "()V" } : Jvm.MethodName) object_method_1_code (1 : Nat) (Option.none : Option Jvm.ClassFile.FieldType)).before args0 about1 = true := code_word (m := ⟨0, 0⟩) (meth := k0m0) (c := k0c0) (by decide +kernel) rfl rfl rfl (by decide +kernel)
set_option maxRecDepth 65536 in
theorem w_c5 : (Jvm.Cond.code ({ cls := "java/lang/StringUTF16", name := "compress", desc := "([CII)[B" } : Jvm.MethodName) jdk_52_method_16_code (6 : Nat) (Option.some (Jvm.ClassFile.FieldType.array Jvm.ClassFile.FieldType.byte))).before args0 about1 = true := code_word (m := ⟨8, 8⟩) (meth := k8m8) (c := k8c8) (by decide +kernel) rfl rfl rfl (by decide +kernel)
set_option maxRecDepth 65536 in
theorem w_c6 : (Jvm.Cond.code ({ cls := "java/lang/StringUTF16", name := "compress", desc := "([CI[BII)I" } : Jvm.MethodName) jdk_52_method_21_code (7 : Nat) (Option.some Jvm.ClassFile.FieldType.int)).before args0 about1 = true := code_word (m := ⟨8, 9⟩) (meth := k8m9) (c := k8c9) (by decide +kernel) rfl rfl rfl (by decide +kernel)
set_option maxRecDepth 65536 in
theorem w_c7 : (Jvm.Cond.code ({ cls := "java/lang/StringUTF16", name := "coderFromArrayLen", desc := "([BI)B" } : Jvm.MethodName) jdk_52_method_15_code (2 : Nat) (Option.some Jvm.ClassFile.FieldType.byte)).before args0 about1 = true := code_word (m := ⟨8, 7⟩) (meth := k8m7) (c := k8c7) (by decide +kernel) rfl rfl rfl (by decide +kernel)
set_option maxRecDepth 65536 in
theorem w_c8 : (Jvm.Cond.code ({ cls := "com/example/brygga/brygga/HttpHead", name := "isToken", desc := "(Ljava/lang/String;II)Z" } : Jvm.MethodName) prog_53_method_10_code (6 : Nat) (Option.some Jvm.ClassFile.FieldType.boolean)).before args0 about1 = true := code_word (m := ⟨9, 0⟩) (meth := k9m0) (c := k9c0) (by decide +kernel) rfl rfl rfl (by decide +kernel)
set_option maxRecDepth 65536 in
theorem w_c9 : (Jvm.Cond.code ({ cls := "java/lang/StringUTF16", name := "toBytes", desc := "([CII)[B" } : Jvm.MethodName) jdk_52_method_14_code (5 : Nat) (Option.some (Jvm.ClassFile.FieldType.array Jvm.ClassFile.FieldType.byte))).before args0 about1 = true := code_word (m := ⟨8, 6⟩) (meth := k8m6) (c := k8c6) (by decide +kernel) rfl rfl rfl (by decide +kernel)
set_option maxRecDepth 65536 in
theorem w_c10 : (Jvm.Cond.code ({ cls := "java/lang/StringUTF16", name := "newBytesFor", desc := "(I)[B" } : Jvm.MethodName) jdk_52_method_2_code (1 : Nat) (Option.some (Jvm.ClassFile.FieldType.array Jvm.ClassFile.FieldType.byte))).before args0 about1 = true := code_word (m := ⟨8, 1⟩) (meth := k8m1) (c := k8c1) (by decide +kernel) rfl rfl rfl (by decide +kernel)
set_option maxRecDepth 65536 in
theorem w_c11 : (Jvm.Cond.code ({ cls := "java/lang/StringUTF16", name := "newBytesLength", desc := "(I)I" } : Jvm.MethodName) jdk_52_method_3_code (1 : Nat) (Option.some Jvm.ClassFile.FieldType.int)).before args0 about1 = true := code_word (m := ⟨8, 2⟩) (meth := k8m2) (c := k8c2) (by decide +kernel) rfl rfl rfl (by decide +kernel)
set_option maxRecDepth 65536 in
theorem w_c12 : (Jvm.Cond.code ({ cls := "java/lang/StringUTF16", name := "putChar", desc := "([BII)V" } : Jvm.MethodName) jdk_52_method_4_code (3 : Nat) (Option.none : Option Jvm.ClassFile.FieldType)).before args0 about1 = true := code_word (m := ⟨8, 3⟩) (meth := k8m3) (c := k8c3) (by decide +kernel) rfl rfl rfl (by decide +kernel)
set_option maxRecDepth 65536 in
theorem w_c13 : (Jvm.Cond.code ({ cls := "java/lang/StringUTF16", name := "getChar", desc := "([BI)C" } : Jvm.MethodName) jdk_52_method_5_code (2 : Nat) (Option.some Jvm.ClassFile.FieldType.char)).before args0 about1 = true := code_word (m := ⟨8, 4⟩) (meth := k8m4) (c := k8c4) (by decide +kernel) rfl rfl rfl (by decide +kernel)
set_option maxRecDepth 65536 in
theorem w_c14 : (Jvm.Cond.code ({ cls := "com/example/brygga/brygga/HttpHeadIsTokenPinLaw", name := "ok", desc := "(CIII)Z" } : Jvm.MethodName) method_4_code (4 : Nat) (Option.some Jvm.ClassFile.FieldType.boolean)).before args0 about1 = true := code_word (m := ⟨1, 3⟩) (meth := k1m3) (c := k1c3) (by decide +kernel) rfl rfl rfl (by decide +kernel)
set_option maxRecDepth 65536 in
theorem w_c15 : (Jvm.Cond.code ({ cls := "com/example/brygga/brygga/HttpHeadIsTokenPinLaw", name := "tchar", desc := "(C)Z" } : Jvm.MethodName) method_5_code (1 : Nat) (Option.some Jvm.ClassFile.FieldType.boolean)).before args0 about1 = true := code_word (m := ⟨1, 4⟩) (meth := k1m4) (c := k1c4) (by decide +kernel) rfl rfl rfl (by decide +kernel)
set_option maxRecDepth 65536 in
theorem w_c16 : (Jvm.Cond.code ({ cls := "java/lang/String", name := "charAt", desc := "(I)C" } : Jvm.MethodName) jdk_42_method_56_code (2 : Nat) (Option.some Jvm.ClassFile.FieldType.char)).before args0 about1 = true := code_word (m := ⟨7, 3⟩) (meth := k7m3) (c := k7c3) (by decide +kernel) rfl rfl rfl (by decide +kernel)
set_option maxRecDepth 65536 in
theorem w_c17 : (Jvm.Cond.code ({ cls := "java/lang/String", name := "isLatin1", desc := "()Z" } : Jvm.MethodName) jdk_42_method_154_code (1 : Nat) (Option.some Jvm.ClassFile.FieldType.boolean)).before args0 about1 = true := code_word (m := ⟨7, 8⟩) (meth := k7m8) (c := k7c8) (by decide +kernel) rfl rfl rfl (by decide +kernel)
set_option maxRecDepth 65536 in
theorem w_c18 : (Jvm.Cond.code ({ cls := "java/lang/StringUTF16", name := "charAt", desc := "([BI)C" } : Jvm.MethodName) jdk_52_method_83_code (2 : Nat) (Option.some Jvm.ClassFile.FieldType.char)).before args0 about1 = true := code_word (m := ⟨8, 10⟩) (meth := k8m10) (c := k8c10) (by decide +kernel) rfl rfl rfl (by decide +kernel)
set_option maxRecDepth 65536 in
theorem w_c19 : (Jvm.Cond.code ({ cls := "java/lang/StringUTF16", name := "checkIndex", desc := "(I[B)V" } : Jvm.MethodName) jdk_52_method_91_code (2 : Nat) (Option.none : Option Jvm.ClassFile.FieldType)).before args0 about1 = true := code_word (m := ⟨8, 11⟩) (meth := k8m11) (c := k8c11) (by decide +kernel) rfl rfl rfl (by decide +kernel)
set_option maxRecDepth 65536 in
theorem w_c20 : (Jvm.Cond.code ({ cls := "java/lang/StringUTF16", name := "length", desc := "([B)I" } : Jvm.MethodName) jdk_52_method_6_code (1 : Nat) (Option.some Jvm.ClassFile.FieldType.int)).before args0 about1 = true := code_word (m := ⟨8, 5⟩) (meth := k8m5) (c := k8c5) (by decide +kernel) rfl rfl rfl (by decide +kernel)
set_option maxRecDepth 65536 in
theorem w_c21 : (Jvm.Cond.code ({ cls := "java/lang/String", name := "checkIndex", desc := "(II)V" } : Jvm.MethodName) jdk_42_method_155_code (2 : Nat) (Option.none : Option Jvm.ClassFile.FieldType)).before args0 about1 = true := code_word (m := ⟨7, 9⟩) (meth := k7m9) (c := k7c9) (by decide +kernel) rfl rfl rfl (by decide +kernel)
set_option maxRecDepth 65536 in
theorem w_c22 : (Jvm.Cond.code ({ cls := "jdk/internal/util/Preconditions", name := "checkIndex", desc := "(IILjava/util/function/BiFunction;)I" } : Jvm.MethodName) jdk_41_method_11_code (3 : Nat) (Option.some Jvm.ClassFile.FieldType.int)).before args0 about1 = true := code_word (m := ⟨10, 1⟩) (meth := k10m1) (c := k10c1) (by decide +kernel) rfl rfl rfl (by decide +kernel)
set_option maxRecDepth 65536 in
theorem w_c23 : (Jvm.Cond.code ({ cls := "java/lang/String", name := "indexOf", desc := "(I)I" } : Jvm.MethodName) jdk_42_method_79_code (2 : Nat) (Option.some Jvm.ClassFile.FieldType.int)).before args0 about1 = true := code_word (m := ⟨7, 4⟩) (meth := k7m4) (c := k7c4) (by decide +kernel) rfl rfl rfl (by decide +kernel)
set_option maxRecDepth 65536 in
theorem w_c24 : (Jvm.Cond.code ({ cls := "java/lang/String", name := "indexOf", desc := "(II)I" } : Jvm.MethodName) jdk_42_method_80_code (3 : Nat) (Option.some Jvm.ClassFile.FieldType.int)).before args0 about1 = true := code_word (m := ⟨7, 5⟩) (meth := k7m5) (c := k7c5) (by decide +kernel) rfl rfl rfl (by decide +kernel)
set_option maxRecDepth 65536 in
theorem w_c25 : (Jvm.Cond.code ({ cls := "java/lang/String", name := "length", desc := "()I" } : Jvm.MethodName) jdk_42_method_54_code (1 : Nat) (Option.some Jvm.ClassFile.FieldType.int)).before args0 about1 = true := code_word (m := ⟨7, 2⟩) (meth := k7m2) (c := k7c2) (by decide +kernel) rfl rfl rfl (by decide +kernel)
set_option maxRecDepth 65536 in
theorem w_c26 : (Jvm.Cond.code ({ cls := "java/lang/String", name := "coder", desc := "()B" } : Jvm.MethodName) jdk_42_method_152_code (1 : Nat) (Option.some Jvm.ClassFile.FieldType.byte)).before args0 about1 = true := code_word (m := ⟨7, 7⟩) (meth := k7m7) (c := k7c7) (by decide +kernel) rfl rfl rfl (by decide +kernel)
set_option maxRecDepth 65536 in
theorem w_c27 : (Jvm.Cond.code ({ cls := "java/lang/StringLatin1", name := "indexOf", desc := "([BIII)I" } : Jvm.MethodName) jdk_43_method_22_code (4 : Nat) (Option.some Jvm.ClassFile.FieldType.int)).before args0 about1 = true := code_word (m := ⟨11, 3⟩) (meth := k11m3) (c := k11c3) (by decide +kernel) rfl rfl rfl (by decide +kernel)
set_option maxRecDepth 65536 in
theorem w_c28 : (Jvm.Cond.code ({ cls := "java/lang/StringLatin1", name := "canEncode", desc := "(I)Z" } : Jvm.MethodName) jdk_43_method_4_code (1 : Nat) (Option.some Jvm.ClassFile.FieldType.boolean)).before args0 about1 = true := code_word (m := ⟨11, 2⟩) (meth := k11m2) (c := k11c2) (by decide +kernel) rfl rfl rfl (by decide +kernel)
set_option maxRecDepth 65536 in
theorem w_c29 : (Jvm.Cond.code ({ cls := "java/lang/Math", name := "max", desc := "(II)I" } : Jvm.MethodName) jdk_29_method_65_code (2 : Nat) (Option.some Jvm.ClassFile.FieldType.int)).before args0 about1 = true := code_word (m := ⟨12, 1⟩) (meth := k12m1) (c := k12c1) (by decide +kernel) rfl rfl rfl (by decide +kernel)
set_option maxRecDepth 65536 in
theorem w_c30 : (Jvm.Cond.code ({ cls := "java/lang/Math", name := "min", desc := "(II)I" } : Jvm.MethodName) jdk_29_method_69_code (2 : Nat) (Option.some Jvm.ClassFile.FieldType.int)).before args0 about1 = true := code_word (m := ⟨12, 2⟩) (meth := k12m2) (c := k12c2) (by decide +kernel) rfl rfl rfl (by decide +kernel)
set_option maxRecDepth 65536 in
theorem w_c31 : (Jvm.Cond.code ({ cls := "java/lang/StringLatin1", name := "indexOfChar", desc := "([BIII)I" } : Jvm.MethodName) jdk_43_method_23_code (6 : Nat) (Option.some Jvm.ClassFile.FieldType.int)).before args0 about1 = true := code_word (m := ⟨11, 4⟩) (meth := k11m4) (c := k11c4) (by decide +kernel) rfl rfl rfl (by decide +kernel)
set_option maxRecDepth 65536 in
theorem w_c32 : (Jvm.Cond.code ({ cls := "java/lang/StringLatin1", name := "charAt", desc := "([BI)C" } : Jvm.MethodName) jdk_43_method_2_code (2 : Nat) (Option.some Jvm.ClassFile.FieldType.char)).before args0 about1 = true := code_word (m := ⟨11, 1⟩) (meth := k11m1) (c := k11c1) (by decide +kernel) rfl rfl rfl (by decide +kernel)
def codes1 : List Jvm.Cond := [Jvm.Cond.code x code maxLocals ret, Jvm.Cond.code ({ cls := "com/example/brygga/brygga/HttpHeadIsTokenPinLaw", name := "ch", desc := "(I)C" } : Jvm.MethodName) method_3_code (1 : Nat) (Option.some Jvm.ClassFile.FieldType.char), Jvm.Cond.code ({ cls := "java/lang/String", name := "<init>", desc := "([C)V" } : Jvm.MethodName) jdk_42_method_3_code (2 : Nat) (Option.none : Option Jvm.ClassFile.FieldType), Jvm.Cond.code ({ cls := "java/lang/String", name := "<init>", desc := "([CIILjava/lang/Void;)V" } : Jvm.MethodName) jdk_42_method_149_code (6 : Nat) (Option.none : Option Jvm.ClassFile.FieldType), Jvm.Cond.code ({ cls := "java/lang/Object", name := "<init>", desc := "()V" } : Jvm.MethodName) object_method_1_code (1 : Nat) (Option.none : Option Jvm.ClassFile.FieldType), Jvm.Cond.code ({ cls := "java/lang/StringUTF16", name := "compress", desc := "([CII)[B" } : Jvm.MethodName) jdk_52_method_16_code (6 : Nat) (Option.some (Jvm.ClassFile.FieldType.array Jvm.ClassFile.FieldType.byte)), Jvm.Cond.code ({ cls := "java/lang/StringUTF16", name := "compress", desc := "([CI[BII)I" } : Jvm.MethodName) jdk_52_method_21_code (7 : Nat) (Option.some Jvm.ClassFile.FieldType.int), Jvm.Cond.code ({ cls := "java/lang/StringUTF16", name := "coderFromArrayLen", desc := "([BI)B" } : Jvm.MethodName) jdk_52_method_15_code (2 : Nat) (Option.some Jvm.ClassFile.FieldType.byte), Jvm.Cond.code ({ cls := "com/example/brygga/brygga/HttpHead", name := "isToken", desc := "(Ljava/lang/String;II)Z" } : Jvm.MethodName) prog_53_method_10_code (6 : Nat) (Option.some Jvm.ClassFile.FieldType.boolean), Jvm.Cond.code ({ cls := "java/lang/StringUTF16", name := "toBytes", desc := "([CII)[B" } : Jvm.MethodName) jdk_52_method_14_code (5 : Nat) (Option.some (Jvm.ClassFile.FieldType.array Jvm.ClassFile.FieldType.byte)), Jvm.Cond.code ({ cls := "java/lang/StringUTF16", name := "newBytesFor", desc := "(I)[B" } : Jvm.MethodName) jdk_52_method_2_code (1 : Nat) (Option.some (Jvm.ClassFile.FieldType.array Jvm.ClassFile.FieldType.byte)), Jvm.Cond.code ({ cls := "java/lang/StringUTF16", name := "newBytesLength", desc := "(I)I" } : Jvm.MethodName) jdk_52_method_3_code (1 : Nat) (Option.some Jvm.ClassFile.FieldType.int), Jvm.Cond.code ({ cls := "java/lang/StringUTF16", name := "putChar", desc := "([BII)V" } : Jvm.MethodName) jdk_52_method_4_code (3 : Nat) (Option.none : Option Jvm.ClassFile.FieldType), Jvm.Cond.code ({ cls := "java/lang/StringUTF16", name := "getChar", desc := "([BI)C" } : Jvm.MethodName) jdk_52_method_5_code (2 : Nat) (Option.some Jvm.ClassFile.FieldType.char), Jvm.Cond.code ({ cls := "com/example/brygga/brygga/HttpHeadIsTokenPinLaw", name := "ok", desc := "(CIII)Z" } : Jvm.MethodName) method_4_code (4 : Nat) (Option.some Jvm.ClassFile.FieldType.boolean), Jvm.Cond.code ({ cls := "com/example/brygga/brygga/HttpHeadIsTokenPinLaw", name := "tchar", desc := "(C)Z" } : Jvm.MethodName) method_5_code (1 : Nat) (Option.some Jvm.ClassFile.FieldType.boolean), Jvm.Cond.code ({ cls := "java/lang/String", name := "charAt", desc := "(I)C" } : Jvm.MethodName) jdk_42_method_56_code (2 : Nat) (Option.some Jvm.ClassFile.FieldType.char), Jvm.Cond.code ({ cls := "java/lang/String", name := "isLatin1", desc := "()Z" } : Jvm.MethodName) jdk_42_method_154_code (1 : Nat) (Option.some Jvm.ClassFile.FieldType.boolean), Jvm.Cond.code ({ cls := "java/lang/StringUTF16", name := "charAt", desc := "([BI)C" } : Jvm.MethodName) jdk_52_method_83_code (2 : Nat) (Option.some Jvm.ClassFile.FieldType.char), Jvm.Cond.code ({ cls := "java/lang/StringUTF16", name := "checkIndex", desc := "(I[B)V" } : Jvm.MethodName) jdk_52_method_91_code (2 : Nat) (Option.none : Option Jvm.ClassFile.FieldType), Jvm.Cond.code ({ cls := "java/lang/StringUTF16", name := "length", desc := "([B)I" } : Jvm.MethodName) jdk_52_method_6_code (1 : Nat) (Option.some Jvm.ClassFile.FieldType.int), Jvm.Cond.code ({ cls := "java/lang/String", name := "checkIndex", desc := "(II)V" } : Jvm.MethodName) jdk_42_method_155_code (2 : Nat) (Option.none : Option Jvm.ClassFile.FieldType), Jvm.Cond.code ({ cls := "jdk/internal/util/Preconditions", name := "checkIndex", desc := "(IILjava/util/function/BiFunction;)I" } : Jvm.MethodName) jdk_41_method_11_code (3 : Nat) (Option.some Jvm.ClassFile.FieldType.int), Jvm.Cond.code ({ cls := "java/lang/String", name := "indexOf", desc := "(I)I" } : Jvm.MethodName) jdk_42_method_79_code (2 : Nat) (Option.some Jvm.ClassFile.FieldType.int), Jvm.Cond.code ({ cls := "java/lang/String", name := "indexOf", desc := "(II)I" } : Jvm.MethodName) jdk_42_method_80_code (3 : Nat) (Option.some Jvm.ClassFile.FieldType.int), Jvm.Cond.code ({ cls := "java/lang/String", name := "length", desc := "()I" } : Jvm.MethodName) jdk_42_method_54_code (1 : Nat) (Option.some Jvm.ClassFile.FieldType.int), Jvm.Cond.code ({ cls := "java/lang/String", name := "coder", desc := "()B" } : Jvm.MethodName) jdk_42_method_152_code (1 : Nat) (Option.some Jvm.ClassFile.FieldType.byte), Jvm.Cond.code ({ cls := "java/lang/StringLatin1", name := "indexOf", desc := "([BIII)I" } : Jvm.MethodName) jdk_43_method_22_code (4 : Nat) (Option.some Jvm.ClassFile.FieldType.int), Jvm.Cond.code ({ cls := "java/lang/StringLatin1", name := "canEncode", desc := "(I)Z" } : Jvm.MethodName) jdk_43_method_4_code (1 : Nat) (Option.some Jvm.ClassFile.FieldType.boolean), Jvm.Cond.code ({ cls := "java/lang/Math", name := "max", desc := "(II)I" } : Jvm.MethodName) jdk_29_method_65_code (2 : Nat) (Option.some Jvm.ClassFile.FieldType.int), Jvm.Cond.code ({ cls := "java/lang/Math", name := "min", desc := "(II)I" } : Jvm.MethodName) jdk_29_method_69_code (2 : Nat) (Option.some Jvm.ClassFile.FieldType.int), Jvm.Cond.code ({ cls := "java/lang/StringLatin1", name := "indexOfChar", desc := "([BIII)I" } : Jvm.MethodName) jdk_43_method_23_code (6 : Nat) (Option.some Jvm.ClassFile.FieldType.int), Jvm.Cond.code ({ cls := "java/lang/StringLatin1", name := "charAt", desc := "([BI)C" } : Jvm.MethodName) jdk_43_method_2_code (2 : Nat) (Option.some Jvm.ClassFile.FieldType.char)]
set_option maxRecDepth 65536 in
theorem codes_eq : words1.filter isCode = codes1 := rfl
theorem w_codes : ∀ c ∈ words1.filter isCode, c.before args0 about1 = true := by
  rw [codes_eq]
  intro c hc
  simp only [codes1, List.mem_cons, List.not_mem_nil, or_false] at hc
  rcases hc with rfl | rfl | rfl | rfl | rfl | rfl | rfl | rfl | rfl | rfl | rfl | rfl | rfl | rfl | rfl | rfl | rfl | rfl | rfl | rfl | rfl | rfl | rfl | rfl | rfl | rfl | rfl | rfl | rfl | rfl | rfl | rfl | rfl
  · exact w_c0
  · exact w_c1
  · exact w_c2
  · exact w_c3
  · exact w_c4
  · exact w_c5
  · exact w_c6
  · exact w_c7
  · exact w_c8
  · exact w_c9
  · exact w_c10
  · exact w_c11
  · exact w_c12
  · exact w_c13
  · exact w_c14
  · exact w_c15
  · exact w_c16
  · exact w_c17
  · exact w_c18
  · exact w_c19
  · exact w_c20
  · exact w_c21
  · exact w_c22
  · exact w_c23
  · exact w_c24
  · exact w_c25
  · exact w_c26
  · exact w_c27
  · exact w_c28
  · exact w_c29
  · exact w_c30
  · exact w_c31
  · exact w_c32
set_option maxRecDepth 65536 in
theorem w_t1 : (words1.take 24).all (fun c => isCode c || c.before args0 about1) = true := by decide +kernel
set_option maxRecDepth 65536 in
theorem w_t2 : ((words1.drop 24).take 24).all (fun c => isCode c || c.before args0 about1) = true := by decide +kernel
set_option maxRecDepth 65536 in
theorem w_t3 : (((words1.drop 24).drop 24).take 24).all (fun c => isCode c || c.before args0 about1) = true := by decide +kernel
set_option maxRecDepth 65536 in
theorem w_t4 : ((((words1.drop 24).drop 24).drop 24).take 24).all (fun c => isCode c || c.before args0 about1) = true := by decide +kernel
set_option maxRecDepth 65536 in
theorem w_t5 : (((((words1.drop 24).drop 24).drop 24).drop 24).take 24).all (fun c => isCode c || c.before args0 about1) = true := by decide +kernel
set_option maxRecDepth 65536 in
theorem w_t6 : (((((words1.drop 24).drop 24).drop 24).drop 24).drop 24).all (fun c => isCode c || c.before args0 about1) = true := by decide +kernel
theorem w_tables : (allAtoms (Jvm.Cond.code x code maxLocals ret :: tables_1)).before args0 about1 = true := by
  rw [allAtoms_all]
  show words1.all (fun c => c.before args0 about1) = true
  refine all_split ?_ w_codes
  rw [← List.take_append_drop 24 words1, List.all_append, w_t1, ← List.take_append_drop 24 (words1.drop 24), List.all_append, w_t2, ← List.take_append_drop 24 ((words1.drop 24).drop 24), List.all_append, w_t3, ← List.take_append_drop 24 (((words1.drop 24).drop 24).drop 24), List.all_append, w_t4, ← List.take_append_drop 24 ((((words1.drop 24).drop 24).drop 24).drop 24), List.all_append, w_t5, w_t6]
  rfl
set_option maxRecDepth 65536 in
theorem w_rest : rest_1_c.before args0 about1 = true := by decide +kernel
set_option maxRecDepth 65536 in
theorem w_case : (Jvm.Cond.and given_1 narrow_1).before args0 about1 = true := by decide +kernel
set_option maxRecDepth 65536 in
theorem w_consts : constsHeld consts_1 about1 := Jvm.Lit.constsHeldB_iff.mp (by decide +kernel)
theorem w_applies : (headSpec (Jvm.Cond.code x code maxLocals ret :: tables_1) room_1).applies x e0.platform about1 = true :=
  (Spec.applies_iff w_frames).mpr ⟨w_running, w_runnable, w_alone, w_named, w_hears, w_ripe, w_room, w_tables⟩
theorem atStart : AtStart classFile x code maxLocals ret World_1 tables_1 room_1 Calls_1 rest_1 Pre_1 launch0 p0 e0 about1 theMethod args0 below0 :=
  ⟨lists_1, trivial, launch0.admits_env _ _ _, launch0.least_env, fairChoices_fair.cas, fairChoices_fair.clock, w_frames, w_args, w_heap, w_applies, ⟨w_consts, trivial⟩, w_rest, w_case⟩
end start1
theorem witness_1 : WitnessClaimed_1 := ⟨start1.p0, start1.e0, start1.about1, start1.theMethod, start1.args0, start1.below0, start1.atStart⟩
end Jvm.Pilot.@@N@@
