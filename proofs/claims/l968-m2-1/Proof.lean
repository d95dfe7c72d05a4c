import JvmDerived
import JvmDerived.Pilot.@@N@@Statement
import JvmDerived.Pilot.@@N@@Code
set_option linter.unusedVariables false
set_option linter.unusedSimpArgs false
namespace Jvm.OwnW
open Sem ClassFile Op Lib Jvm.Stand Jvm.Free Jvm.LawKit Jvm.RoadKit
section A
variable {kn : Prop} {p : Program} {l : Launch} {e : Env} {R : Room} {s : State} {m : MethodId} {args : Array Value} {below : List Frame} {meth : Method} {c : Code} {T : State} {Z : State} {a0 : Array Value} {EL : List (String × Nat)} {h h' : Heap} {n0 kc ks fc fs : Nat} {sf : List Addr} {Q : Option Value → Heap → List Addr → Prop} {y : MethodName} {bytes : ByteArray} {maxL : Nat} {ret : Option FieldType} {a b : Addr} {ty : FieldType} {vs : List Value} {sl : Nat} {v w : Value} {C f d : String} {wl : List Addr}
def Sd (kn : Prop) (Z : State) (a0 : Array Value) (EL : List (String × Nat)) (y : MethodName) (bytes : ByteArray) (maxL : Nat) (ret : Option FieldType) (p : Program) (l : Launch) (e : Env) (R : Room) (s : State) (m : MethodId) (args : Array Value) (below : List Frame) (meth : Method) (c : Code) (n0 : Nat) (sf : List Addr) (h : Heap) (kc ks : Nat) (T : State) : Prop :=
  ∃ (vm0 : Vm) (k0 : Nat), (p.tables.exec = Jvm.exec ∧ Z.Warmed39 vm0 ∧ c.code = bytes ∧ c.maxLocals = maxL ∧ meth.sig.returnType = ret ∧ meth.locks = false ∧ vm0.findClass y.cls = some m.cls ∧ meth.name = y.name) ∧
  (s.Since vm0 k0 ∧ k0 ≤ h.size ∧ EW Z a0 EL ∧ CHr Z EL s.vm s.heap vm0 h ∧ (∀ x ∈ sf, Safe Z EL vm0 h x ∧ x < h.size) ∧ (kn → vm0.MethodsKnown ∧ vm0.FramesKnown below)) ∧
  ∃ locs cells slots, Stand p l e R (s.setVm vm0) m args below meth c T locs cells slots ∧ T.heap = h ∧ Fr n0 locs ∧ cells ≤ kc ∧ slots ≤ ks
def Run (Z : State) (EL : List (String × Nat)) (p : Program) (e : Env) (below : List Frame) (s : State) (n0 fc fs : Nat) (Q : Option Value → Heap → List Addr → Prop) (t : State) : Prop :=
  ∃ s₂ o, Steps p.tables e below t s₂ ∧ s₂.status = .running ∧ Ended s₂ below o ∧ ∃ v L sfn, o = .returned v ∧ Q v s₂.heap sfn ∧ (∀ x ∈ sfn, Safe Z EL s₂.vm s₂.heap x ∧ x < s₂.heap.size) ∧ Fr n0 L ∧ CHr Z EL s.vm s.heap s₂.vm s₂.heap ∧ ReturnedEndW s o s₂ L fc fs
def Ctr (kn : Prop) (l : Launch) (Z : State) (EL : List (String × Nat)) (y : MethodName) (bytes : ByteArray) (maxL : Nat) (ret : Option FieldType) (ws : List Cond) (rm : Room) (n0 : Nat) (sf : List Addr) (as : Array Value) (h : Heap) (Q : Option Value → Heap → List Addr → Prop) : Prop :=
  MetFree l y (head1 (Cond.code y bytes maxL ret :: ws) rm) (fun a' U => a' = as ∧ Z.Warmed39 U.vm ∧ U.heap = h ∧ CHv Z EL U.vm h ∧ ∀ x ∈ sf, Safe Z EL U.vm h x ∧ x < h.size) (fun _ _ bl U _ => kn → U.vm.MethodsKnown ∧ U.vm.FramesKnown bl) (fun _ U o U' => ∃ v L, o = .returned v ∧ (∃ sfn, Q v U'.heap sfn ∧ (∀ x ∈ sfn, Safe Z EL U'.vm U'.heap x ∧ x < U'.heap.size) ∧ Fr n0 L) ∧ CHr Z EL U.vm U.heap U'.vm U'.heap ∧ ReturnedEndW U o U' L rm.cells rm.slots)
def Rt (Qv : Value → Heap → List Addr → Prop) : Option Value → Heap → List Addr → Prop := fun v h g => ∃ w, v = some w ∧ Qv w h g
def Rn (Qn : Heap → List Addr → Prop) : Option Value → Heap → List Addr → Prop := fun v h g => v = none ∧ Qn h g
theorem Run.st {t t' : State} (k : Run Z EL p e below s n0 fc fs Q t') (f : ∀ z, Steps p.tables e below t' z → Steps p.tables e below t z) : Run Z EL p e below s n0 fc fs Q t := by
  obtain ⟨s2, o, h1, r⟩ := k; exact ⟨s2, o, f _ h1, r⟩
theorem FKalike {vm vm' : Vm} {fr : List Frame} (hal : vm.Alike vm') (h : vm.FramesKnown fr) : vm'.FramesKnown fr := Vm.FramesKnown.alikeC hal h
theorem Sd.x (X : Sd kn Z a0 EL y bytes maxL ret p l e R s m args below meth c n0 sf h kc ks T) : p.tables.exec = Jvm.exec := by obtain ⟨_, _, q, -⟩ := X; exact q.1
theorem Sd.hr (X : Sd kn Z a0 EL y bytes maxL ret p l e R s m args below meth c n0 sf h kc ks T) : At T m c below := by obtain ⟨_, _, -, -, _, _, _, Y, -⟩ := X; exact Y.here
theorem Sd.dc (X : Sd kn Z a0 EL y bytes maxL ret p l e R s m args below meth c n0 sf h kc ks T) {pc : Nat} {r : Except DecodeError (Instr × Nat)} (q : decode bytes pc = r) : decode c.code pc = r := by obtain ⟨_, _, g, -⟩ := X; exact g.2.2.1 ▸ q
theorem Sd.rt (X : Sd kn Z a0 EL y bytes maxL ret p l e R s m args below meth c n0 sf h kc ks T) : meth.sig.returnType = ret := by obtain ⟨_, _, q, -⟩ := X; exact q.2.2.2.2.1
theorem Sd.op (X : Sd kn Z a0 EL y bytes maxL ret p l e R s m args below meth c n0 sf h kc ks T) : ∃ (s' : State) (L : List Loc) (i j : Nat), Stand p l e R s' m args below meth c T L i j ∧ T.heap = h ∧ Z.Warmed39 s'.vm ∧ s'.vm.findClass y.cls = some m.cls ∧ c.maxLocals = maxL ∧ meth.name = y.name ∧ i ≤ kc ∧ j ≤ ks ∧ p.tables.exec = Jvm.exec ∧ (∀ T', Stand p l e R s' m args below meth c T' L i j → T'.heap = h → Sd kn Z a0 EL y bytes maxL ret p l e R s m args below meth c n0 sf h kc ks T') ∧ (∀ T' h' dc ds, Stand p l e R s' m args below meth c T' L (i + dc) (j + ds) → T'.heap = h' → Ext h h' → h.size < h'.size → Sd kn Z a0 EL y bytes maxL ret p l e R s m args below meth c n0 (h.size :: sf) h' (kc + dc) (ks + ds) T') ∧ (∀ T' h' a sl v, a ∈ sf → n0 ≤ a → Stand p l e R s' m args below meth c T' (L ++ [⟨a, sl⟩]) i j → T'.heap = h' → Wr h h' a sl v → Sd kn Z a0 EL y bytes maxL ret p l e R s m args below meth c n0 sf h' kc ks T') := by
  obtain ⟨vm0, k0, q, ⟨hS, hk, hE, hC, hs, hkn⟩, L, i, j, Y, r1, r2, r3, r4⟩ := X
  refine ⟨s.setVm vm0, L, i, j, Y, r1, q.2.1, q.2.2.2.2.2.2.1, q.2.2.2.1, q.2.2.2.2.2.2.2, r3, r4, q.1, ?_, ?_, ?_⟩
  · intro T' Y' e'
    exact ⟨vm0, k0, q, ⟨hS, hk, hE, hC, hs, hkn⟩, L, i, j, Y', e', r2, r3, r4⟩
  · intro T' h' dc ds Y' e' E hlt
    refine ⟨vm0, k0, q, ⟨hS, Nat.le_trans hk E.1, hE, hC.trans (CHr.ext E hC.1), ?_, hkn⟩, L, _, _, Y', e', r2, by omega, by omega⟩
    intro x hx
    rcases List.mem_cons.mp hx with rfl | hx
    · exact ⟨(Safe.new (Nat.le_refl _)).ext E hC.1, hlt⟩
    · exact ⟨(hs x hx).1.ext E hC.1, Nat.lt_of_lt_of_le (hs x hx).2 E.1⟩
  · intro T' h' a sl v ha hn Y' e' W
    refine ⟨vm0, k0, q, ⟨hS, by rw [W.size]; exact hk, hE, hC.trans (CHr.wr W (hs a ha).1 hC.1), ?_, hkn⟩, _, _, _, Y', e', Fr.snoc Y' r2 hn, r3, r4⟩
    intro x hx
    exact ⟨Safe.wr W (hs a ha).1 hC.1 (hs x hx).1, by rw [W.size]; exact (hs x hx).2⟩
theorem Sd.lt (X : Sd kn Z a0 EL y bytes maxL ret p l e R s m args below meth c n0 sf h kc ks T) : ∀ x ∈ sf, x < h.size := by obtain ⟨_, _, -, ⟨-, -, -, -, hs, -⟩, -⟩ := X; exact fun x hx => (hs x hx).2
theorem sf0 : ∀ x ∈ ([] : List Addr), x ∈ sf := fun _ q => nomatch q
theorem sfS (q : a ∈ sf) (r : ∀ x ∈ wl, x ∈ sf) : ∀ x ∈ a :: wl, x ∈ sf := fun x z => (List.mem_cons.mp z).elim (fun u => u ▸ q) (r x)
theorem Sd.more (X : Sd kn Z a0 EL y bytes maxL ret p l e R s m args below meth c n0 sf h kc ks T) {kc' ks' : Nat} (h1 : kc ≤ kc') (h2 : ks ≤ ks') : Sd kn Z a0 EL y bytes maxL ret p l e R s m args below meth c n0 sf h kc' ks' T := by
  obtain ⟨vm0, k0, q, g, L, i, j, Y, r1, r2, r3, r4⟩ := X; exact ⟨vm0, k0, q, g, L, i, j, Y, r1, r2, Nat.le_trans r3 h1, Nat.le_trans r4 h2⟩
theorem Sd.less (X : Sd kn Z a0 EL y bytes maxL ret p l e R s m args below meth c n0 sf h kc ks T) {sf' : List Addr} (hh : ∀ x ∈ sf', x ∈ sf) : Sd kn Z a0 EL y bytes maxL ret p l e R s m args below meth c n0 sf' h kc ks T := by
  obtain ⟨vm0, k0, q, ⟨hS, hk, hE, hC, hs, hkn⟩, g⟩ := X; exact ⟨vm0, k0, q, ⟨hS, hk, hE, hC, fun x hx => hs x (hh x hx), hkn⟩, g⟩
theorem Ctr.of {rm : Room} {ws : List Cond} {as : Array Value} {ls0 : Array Slot} (hn : plainFor y = true) (hE : EW Z a0 EL) (hf : ∀ m, entryFrame m as maxL = mkF m 0 ls0 [])
    (body : ∀ (p : Program) (e : Env) (s : State) (m : MethodId) (below : List Frame) (meth : Method) (c : Code) (T : State), Sd kn Z a0 EL y bytes maxL ret p l e rm s m as below meth c n0 sf h 0 0 T → Run Z EL p e below s n0 rm.cells rm.slots Q (T.setTop (mkF m 0 ls0 []))) : Ctr kn l Z EL y bytes maxL ret ws rm n0 sf as h Q := by
  refine MetFree.of_bodySF hn hisR ?_
  intro p e s m args below meth c s₁ Bd hml0 hP hK
  obtain ⟨rfl, hZ, hh, hC, hs⟩ := hP
  have X0 : Stand p l e rm s m args below meth c s₁ [] 0 0 := Stand.of_body Bd
  have e0 : s₁.heap = h := by rw [← hh, Bd.state]; rfl
  obtain ⟨s2, o, h1, h2, h3, v, L, sfn, h4, h5, h6, h7, h8, h9⟩ := body p e s m below meth c s₁ ⟨s.vm, h.size, ⟨Bd.exec, hZ, Bd.bytes, hml0, Bd.returns, Bd.notSynchronized, findClass_of_methodNamed Bd.named, (name_of_methodNamed Bd.named Bd.method).1⟩, ⟨(State.WarmedH.refl s).since _, Nat.le_refl _, hE, by rw [hh]; exact CHr.refl hC, hs, hK⟩, [], 0, 0, X0, e0, Fr.nil _, Nat.le_refl _, Nat.le_refl _⟩
  exact ⟨s2, o, castTop (hf m) h1, h2, h3, v, L, h4, ⟨sfn, h5, h6, h7⟩, h8, h9⟩
theorem leaveQ (X : Sd kn Z a0 EL y bytes maxL ret p l e R s m args below meth c n0 sf h kc ks T) {v : Option Value} (hv : ret = none → v = none) (hq : Q v h sf) (h1 : kc ≤ fc) (h2 : ks ≤ fs) {t : State}
    (st : ∀ {s' : State} {locs cells slots}, Stand p l e R s' m args below meth c T locs cells slots → ∀ {ff : List Frame}, (∀ (f : JFrame) (acts : List Action), f.method = m → f.locked = none → f.entered = [] → (doReturn e (T.setTop f) acts v).1 = T.setFrames ff) → Steps p.tables e below t (T.setFrames ff)) : Run Z EL p e below s n0 fc fs Q t := by
  obtain ⟨vm0, k0, q, ⟨hS, hk, hE, hC, hs, hkn⟩, L, i, j, Y, r1, r2, r3, r4⟩ := X
  obtain ⟨ff, g1, hrun, hended, w1, w2, w3, w4⟩ := Y.leaveW hS (by rw [r1]; exact hk) (v := v) (fun z => hv (q.2.2.2.2.1 ▸ z)) q.2.2.2.2.2.1
  have hA := CHv.at Y q.2.1 hE hC.1
  refine ⟨_, _, st Y g1, hrun, hended, v, L, sf, rfl, by show Q v T.heap sf; rw [r1]; exact hq, ?_, r2, ?_, w1, w2, w3, w4.mono (Nat.le_trans r3 h1) (Nat.le_trans r4 h2)⟩
  · intro x hx
    show Safe Z EL T.vm T.heap x ∧ x < T.heap.size
    rw [r1]
    exact ⟨hA.safe (hs x hx).2 (hs x hx).1, (hs x hx).2⟩
  · show CHr Z EL s.vm s.heap T.vm T.heap
    rw [r1]
    exact hC.trans hA
theorem areturn (X : Sd kn Z a0 EL y bytes maxL ret p l e R s m args below meth c n0 sf h kc ks T) {t : FieldType} (hr : ret = some t) (ht : t.isReference = true) {pc : Nat} {ls : Array Slot} {w : Value} {st : List Value} (hw : w.isRef = true) (hd : decode bytes pc = .ok (.areturn, 1)) {Qv : Value → Heap → List Addr → Prop} (hq : Qv w h sf) (h1 : kc ≤ fc) (h2 : ks ≤ fs) : Run Z EL p e below s n0 fc fs (Rt Qv) (T.setTop (mkF m pc ls (w :: st))) := by
  subst hr
  have hn : narrow t w = w := by cases w <;> cases t <;> first | rfl | exact absurd hw Bool.noConfusion | exact absurd ht Bool.noConfusion
  exact leaveQ X (v := some w) (fun q => by cases q) ⟨w, rfl, hq⟩ h1 h2 fun Y _ g => retOut Y X.x X.rt hn (Or.inr (Or.inr (Or.inr (Or.inr ⟨rfl, ht, hw⟩)))) (X.dc hd) g
theorem ireturn (X : Sd kn Z a0 EL y bytes maxL ret p l e R s m args below meth c n0 sf h kc ks T) {t : FieldType} (hr : ret = some t) (ht : t = .int ∨ t = .boolean ∨ t = .byte ∨ t = .char ∨ t = .short) {pc : Nat} {ls : Array Slot} {z : Int32} {st : List Value} (hn : narrow t (.int z) = .int z) (hd : decode bytes pc = .ok (.ireturn, 1)) {Qv : Value → Heap → List Addr → Prop} (hq : Qv (.int z) h sf) (h1 : kc ≤ fc) (h2 : ks ≤ fs) : Run Z EL p e below s n0 fc fs (Rt Qv) (T.setTop (mkF m pc ls (.int z :: st))) := by
  subst hr
  exact leaveQ X (v := some (.int z)) (fun q => by cases q) ⟨_, rfl, hq⟩ h1 h2 fun Y _ g => retOut Y X.x X.rt hn (Or.inl ⟨rfl, ht, z, rfl⟩) (X.dc hd) g
theorem ireturnN (X : Sd kn Z a0 EL y bytes maxL ret p l e R s m args below meth c n0 sf h kc ks T) {t : FieldType} (hr : ret = some t) (ht : t = .boolean ∨ t = .byte ∨ t = .char ∨ t = .short) {pc : Nat} {ls : Array Slot} {z z' : Int32} {st : List Value} (hn : nar t z = z') (hd : decode bytes pc = .ok (.ireturn, 1)) {Qv : Value → Heap → List Addr → Prop} (hq : Qv (.int z') h sf) (h1 : kc ≤ fc) (h2 : ks ≤ fs) : Run Z EL p e below s n0 fc fs (Rt Qv) (T.setTop (mkF m pc ls (.int z :: st))) := by
  subst hr hn
  exact leaveQ X (v := some (.int (nar t z))) (fun q => by cases q) ⟨_, rfl, hq⟩ h1 h2 fun Y _ g => retN Y X.x X.rt ht (X.dc hd) g
theorem vreturn (X : Sd kn Z a0 EL y bytes maxL ret p l e R s m args below meth c n0 sf h kc ks T) (hr : ret = none) {pc : Nat} {ls : Array Slot} (hd : decode bytes pc = .ok (.return_, 1)) {Qn : Heap → List Addr → Prop} (hq : Qn h sf) (h1 : kc ≤ fc) (h2 : ks ≤ fs) : Run Z EL p e below s n0 fc fs (Rn Qn) (T.setTop (mkF m pc ls [])) := by
  subst hr
  exact leaveQ X (v := none) (fun _ => rfl) ⟨rfl, hq⟩ h1 h2 fun Y _ g => Y.returnOut X.x X.rt (X.dc hd) g
theorem iloadN (X : Sd kn Z a0 EL y bytes maxL ret p l e R s m args below meth c n0 sf h kc ks T) {pc n : Nat} {ls : Array Slot} {st : List Value} {k : Fin 4} {v : Int32} (hd : decode bytes pc = .ok (.iload_n k, 1)) (hl : ls[k.val]? = some (.val (.int v))) (hn : pc + 1 = n) (K : Run Z EL p e below s n0 fc fs Q (T.setTop (mkF m n ls (.int v :: st)))) : Run Z EL p e below s n0 fc fs Q (T.setTop (mkF m pc ls st)) := by
  subst hn; exact K.st fun _ k => XS.iloadN X.hr X.x rfl (X.dc hd) hl k
theorem iload (X : Sd kn Z a0 EL y bytes maxL ret p l e R s m args below meth c n0 sf h kc ks T) {pc n : Nat} {ls : Array Slot} {st : List Value} {j : Nat} {v : Int32} (hd : decode bytes pc = .ok (.iload j, 2)) (hl : ls[j]? = some (.val (.int v))) (hn : pc + 2 = n) (K : Run Z EL p e below s n0 fc fs Q (T.setTop (mkF m n ls (.int v :: st)))) : Run Z EL p e below s n0 fc fs Q (T.setTop (mkF m pc ls st)) := by
  subst hn; exact K.st fun _ k => XS.iload X.hr X.x rfl (X.dc hd) hl k
theorem istoreN (X : Sd kn Z a0 EL y bytes maxL ret p l e R s m args below meth c n0 sf h kc ks T) {pc n : Nat} {ls : Array Slot} {st : List Value} {k : Fin 4} {v : Int32} {l' : Array Slot} (hd : decode bytes pc = .ok (.istore_n k, 1)) (hl : storeLocals ls k.val (.int v) = some l') (hn : pc + 1 = n) (K : Run Z EL p e below s n0 fc fs Q (T.setTop (mkF m n l' st))) : Run Z EL p e below s n0 fc fs Q (T.setTop (mkF m pc ls (.int v :: st))) := by
  subst hn; exact K.st fun _ k => XS.istoreN X.hr X.x rfl (X.dc hd) rfl hl k
theorem istore (X : Sd kn Z a0 EL y bytes maxL ret p l e R s m args below meth c n0 sf h kc ks T) {pc n : Nat} {ls : Array Slot} {st : List Value} {j : Nat} {v : Int32} {l' : Array Slot} (hd : decode bytes pc = .ok (.istore j, 2)) (hl : storeLocals ls j (.int v) = some l') (hn : pc + 2 = n) (K : Run Z EL p e below s n0 fc fs Q (T.setTop (mkF m n l' st))) : Run Z EL p e below s n0 fc fs Q (T.setTop (mkF m pc ls (.int v :: st))) := by
  subst hn; exact K.st fun _ k => XS.istore X.hr X.x rfl (X.dc hd) rfl hl k
theorem lloadN (X : Sd kn Z a0 EL y bytes maxL ret p l e R s m args below meth c n0 sf h kc ks T) {pc n : Nat} {ls : Array Slot} {st : List Value} {k : Fin 4} {v : Int64} (hd : decode bytes pc = .ok (.lload_n k, 1)) (hl : ls[k.val]? = some (.val (.long v))) (hn : pc + 1 = n) (K : Run Z EL p e below s n0 fc fs Q (T.setTop (mkF m n ls (.long v :: st)))) : Run Z EL p e below s n0 fc fs Q (T.setTop (mkF m pc ls st)) := by
  subst hn; exact K.st fun _ k => XS.lloadN X.hr X.x rfl (X.dc hd) hl k
theorem lload (X : Sd kn Z a0 EL y bytes maxL ret p l e R s m args below meth c n0 sf h kc ks T) {pc n : Nat} {ls : Array Slot} {st : List Value} {j : Nat} {v : Int64} (hd : decode bytes pc = .ok (.lload j, 2)) (hl : ls[j]? = some (.val (.long v))) (hn : pc + 2 = n) (K : Run Z EL p e below s n0 fc fs Q (T.setTop (mkF m n ls (.long v :: st)))) : Run Z EL p e below s n0 fc fs Q (T.setTop (mkF m pc ls st)) := by
  subst hn; exact K.st fun _ k => XS.lload X.hr X.x rfl (X.dc hd) hl k
theorem lstoreN (X : Sd kn Z a0 EL y bytes maxL ret p l e R s m args below meth c n0 sf h kc ks T) {pc n : Nat} {ls : Array Slot} {st : List Value} {k : Fin 4} {v : Int64} {l' : Array Slot} (hd : decode bytes pc = .ok (.lstore_n k, 1)) (hl : storeLocals ls k.val (.long v) = some l') (hn : pc + 1 = n) (K : Run Z EL p e below s n0 fc fs Q (T.setTop (mkF m n l' st))) : Run Z EL p e below s n0 fc fs Q (T.setTop (mkF m pc ls (.long v :: st))) := by
  subst hn; exact K.st fun _ k => XS.lstoreN X.hr X.x rfl (X.dc hd) rfl hl k
theorem lstore (X : Sd kn Z a0 EL y bytes maxL ret p l e R s m args below meth c n0 sf h kc ks T) {pc n : Nat} {ls : Array Slot} {st : List Value} {j : Nat} {v : Int64} {l' : Array Slot} (hd : decode bytes pc = .ok (.lstore j, 2)) (hl : storeLocals ls j (.long v) = some l') (hn : pc + 2 = n) (K : Run Z EL p e below s n0 fc fs Q (T.setTop (mkF m n l' st))) : Run Z EL p e below s n0 fc fs Q (T.setTop (mkF m pc ls (.long v :: st))) := by
  subst hn; exact K.st fun _ k => XS.lstore X.hr X.x rfl (X.dc hd) rfl hl k
theorem aloadN (X : Sd kn Z a0 EL y bytes maxL ret p l e R s m args below meth c n0 sf h kc ks T) {pc n : Nat} {ls : Array Slot} {st : List Value} {k : Fin 4} {v : Value} (hd : decode bytes pc = .ok (.aload_n k, 1)) (hl : ls[k.val]? = some (.val v)) (hv : v.isRef = true) (hn : pc + 1 = n) (K : Run Z EL p e below s n0 fc fs Q (T.setTop (mkF m n ls (v :: st)))) : Run Z EL p e below s n0 fc fs Q (T.setTop (mkF m pc ls st)) := by
  subst hn; exact K.st fun _ k => XS.aloadN X.hr X.x rfl (X.dc hd) hl hv k
theorem aload (X : Sd kn Z a0 EL y bytes maxL ret p l e R s m args below meth c n0 sf h kc ks T) {pc n : Nat} {ls : Array Slot} {st : List Value} {j : Nat} {v : Value} (hd : decode bytes pc = .ok (.aload j, 2)) (hl : ls[j]? = some (.val v)) (hv : v.isRef = true) (hn : pc + 2 = n) (K : Run Z EL p e below s n0 fc fs Q (T.setTop (mkF m n ls (v :: st)))) : Run Z EL p e below s n0 fc fs Q (T.setTop (mkF m pc ls st)) := by
  subst hn; exact K.st fun _ k => XS.aload X.hr X.x rfl (X.dc hd) hl hv k
theorem astoreN (X : Sd kn Z a0 EL y bytes maxL ret p l e R s m args below meth c n0 sf h kc ks T) {pc n : Nat} {ls : Array Slot} {st : List Value} {k : Fin 4} {v : Value} {l' : Array Slot} (hd : decode bytes pc = .ok (.astore_n k, 1)) (hv : v.isRef = true) (hl : storeLocals ls k.val v = some l') (hn : pc + 1 = n) (K : Run Z EL p e below s n0 fc fs Q (T.setTop (mkF m n l' st))) : Run Z EL p e below s n0 fc fs Q (T.setTop (mkF m pc ls (v :: st))) := by
  subst hn; exact K.st fun _ k => XS.astoreN X.hr X.x rfl (X.dc hd) rfl hv hl k
theorem astore (X : Sd kn Z a0 EL y bytes maxL ret p l e R s m args below meth c n0 sf h kc ks T) {pc n : Nat} {ls : Array Slot} {st : List Value} {j : Nat} {v : Value} {l' : Array Slot} (hd : decode bytes pc = .ok (.astore j, 2)) (hv : v.isRef = true) (hl : storeLocals ls j v = some l') (hn : pc + 2 = n) (K : Run Z EL p e below s n0 fc fs Q (T.setTop (mkF m n l' st))) : Run Z EL p e below s n0 fc fs Q (T.setTop (mkF m pc ls (v :: st))) := by
  subst hn; exact K.st fun _ k => XS.astore X.hr X.x rfl (X.dc hd) rfl hv hl k
theorem iconst (X : Sd kn Z a0 EL y bytes maxL ret p l e R s m args below meth c n0 sf h kc ks T) {pc n : Nat} {ls : Array Slot} {st : List Value} {i : Int} {z : Int32} (hd : decode bytes pc = .ok (.iconst i, 1)) (hz : Int32.ofInt i = z) (hn : pc + 1 = n) (K : Run Z EL p e below s n0 fc fs Q (T.setTop (mkF m n ls (.int z :: st)))) : Run Z EL p e below s n0 fc fs Q (T.setTop (mkF m pc ls st)) := by
  subst hn hz; exact K.st fun _ k => XS.iconst X.hr X.x rfl (X.dc hd) k
theorem bipush (X : Sd kn Z a0 EL y bytes maxL ret p l e R s m args below meth c n0 sf h kc ks T) {pc n : Nat} {ls : Array Slot} {st : List Value} {i : Int} {z : Int32} (hd : decode bytes pc = .ok (.bipush i, 2)) (hz : (Int8.ofInt i).toInt32 = z) (hn : pc + 2 = n) (K : Run Z EL p e below s n0 fc fs Q (T.setTop (mkF m n ls (.int z :: st)))) : Run Z EL p e below s n0 fc fs Q (T.setTop (mkF m pc ls st)) := by
  subst hn hz; exact K.st fun _ k => XS.bipush X.hr X.x rfl (X.dc hd) k
theorem sipush (X : Sd kn Z a0 EL y bytes maxL ret p l e R s m args below meth c n0 sf h kc ks T) {pc n : Nat} {ls : Array Slot} {st : List Value} {i : Int} {z : Int32} (hd : decode bytes pc = .ok (.sipush i, 3)) (hz : (Int16.ofInt i).toInt32 = z) (hn : pc + 3 = n) (K : Run Z EL p e below s n0 fc fs Q (T.setTop (mkF m n ls (.int z :: st)))) : Run Z EL p e below s n0 fc fs Q (T.setTop (mkF m pc ls st)) := by
  subst hn hz; exact K.st fun _ k => XS.sipush X.hr X.x rfl (X.dc hd) k
theorem anull (X : Sd kn Z a0 EL y bytes maxL ret p l e R s m args below meth c n0 sf h kc ks T) {pc n : Nat} {ls : Array Slot} {st : List Value}  (hd : decode bytes pc = .ok (.aconst_null, 1)) (hn : pc + 1 = n) (K : Run Z EL p e below s n0 fc fs Q (T.setTop (mkF m n ls (.null :: st)))) : Run Z EL p e below s n0 fc fs Q (T.setTop (mkF m pc ls st)) := by
  subst hn; exact K.st fun _ k => XS.aconstNull X.hr X.x rfl (X.dc hd) k
theorem iadd (X : Sd kn Z a0 EL y bytes maxL ret p l e R s m args below meth c n0 sf h kc ks T) {pc n : Nat} {ls : Array Slot} {st : List Value} {u v : Int32} (hd : decode bytes pc = .ok (.iadd, 1)) (hn : pc + 1 = n) (K : Run Z EL p e below s n0 fc fs Q (T.setTop (mkF m n ls (.int (u + v) :: st)))) : Run Z EL p e below s n0 fc fs Q (T.setTop (mkF m pc ls (.int v :: .int u :: st))) := by
  subst hn; exact K.st fun _ k => XS.iadd X.hr X.x rfl (X.dc hd) rfl k
theorem ladd (X : Sd kn Z a0 EL y bytes maxL ret p l e R s m args below meth c n0 sf h kc ks T) {pc n : Nat} {ls : Array Slot} {st : List Value} {u v : Int64} (hd : decode bytes pc = .ok (.ladd, 1)) (hn : pc + 1 = n) (K : Run Z EL p e below s n0 fc fs Q (T.setTop (mkF m n ls (.long (u + v) :: st)))) : Run Z EL p e below s n0 fc fs Q (T.setTop (mkF m pc ls (.long v :: .long u :: st))) := by
  subst hn; exact K.st fun _ k => XS.ladd X.hr X.x rfl (X.dc hd) rfl k
theorem isub (X : Sd kn Z a0 EL y bytes maxL ret p l e R s m args below meth c n0 sf h kc ks T) {pc n : Nat} {ls : Array Slot} {st : List Value} {u v : Int32} (hd : decode bytes pc = .ok (.isub, 1)) (hn : pc + 1 = n) (K : Run Z EL p e below s n0 fc fs Q (T.setTop (mkF m n ls (.int (u - v) :: st)))) : Run Z EL p e below s n0 fc fs Q (T.setTop (mkF m pc ls (.int v :: .int u :: st))) := by
  subst hn; exact K.st fun _ k => XS.isub X.hr X.x rfl (X.dc hd) rfl k
theorem lsub (X : Sd kn Z a0 EL y bytes maxL ret p l e R s m args below meth c n0 sf h kc ks T) {pc n : Nat} {ls : Array Slot} {st : List Value} {u v : Int64} (hd : decode bytes pc = .ok (.lsub, 1)) (hn : pc + 1 = n) (K : Run Z EL p e below s n0 fc fs Q (T.setTop (mkF m n ls (.long (u - v) :: st)))) : Run Z EL p e below s n0 fc fs Q (T.setTop (mkF m pc ls (.long v :: .long u :: st))) := by
  subst hn; exact K.st fun _ k => XS.lsub X.hr X.x rfl (X.dc hd) rfl k
theorem imul (X : Sd kn Z a0 EL y bytes maxL ret p l e R s m args below meth c n0 sf h kc ks T) {pc n : Nat} {ls : Array Slot} {st : List Value} {u v : Int32} (hd : decode bytes pc = .ok (.imul, 1)) (hn : pc + 1 = n) (K : Run Z EL p e below s n0 fc fs Q (T.setTop (mkF m n ls (.int (u * v) :: st)))) : Run Z EL p e below s n0 fc fs Q (T.setTop (mkF m pc ls (.int v :: .int u :: st))) := by
  subst hn; exact K.st fun _ k => XS.imul X.hr X.x rfl (X.dc hd) rfl k
theorem lmul (X : Sd kn Z a0 EL y bytes maxL ret p l e R s m args below meth c n0 sf h kc ks T) {pc n : Nat} {ls : Array Slot} {st : List Value} {u v : Int64} (hd : decode bytes pc = .ok (.lmul, 1)) (hn : pc + 1 = n) (K : Run Z EL p e below s n0 fc fs Q (T.setTop (mkF m n ls (.long (u * v) :: st)))) : Run Z EL p e below s n0 fc fs Q (T.setTop (mkF m pc ls (.long v :: .long u :: st))) := by
  subst hn; exact K.st fun _ k => XS.lmul X.hr X.x rfl (X.dc hd) rfl k
theorem iand (X : Sd kn Z a0 EL y bytes maxL ret p l e R s m args below meth c n0 sf h kc ks T) {pc n : Nat} {ls : Array Slot} {st : List Value} {u v : Int32} (hd : decode bytes pc = .ok (.iand, 1)) (hn : pc + 1 = n) (K : Run Z EL p e below s n0 fc fs Q (T.setTop (mkF m n ls (.int (u &&& v) :: st)))) : Run Z EL p e below s n0 fc fs Q (T.setTop (mkF m pc ls (.int v :: .int u :: st))) := by
  subst hn; exact K.st fun _ k => XS.iand X.hr X.x rfl (X.dc hd) rfl k
theorem land (X : Sd kn Z a0 EL y bytes maxL ret p l e R s m args below meth c n0 sf h kc ks T) {pc n : Nat} {ls : Array Slot} {st : List Value} {u v : Int64} (hd : decode bytes pc = .ok (.land, 1)) (hn : pc + 1 = n) (K : Run Z EL p e below s n0 fc fs Q (T.setTop (mkF m n ls (.long (u &&& v) :: st)))) : Run Z EL p e below s n0 fc fs Q (T.setTop (mkF m pc ls (.long v :: .long u :: st))) := by
  subst hn; exact K.st fun _ k => XS.land X.hr X.x rfl (X.dc hd) rfl k
theorem ior (X : Sd kn Z a0 EL y bytes maxL ret p l e R s m args below meth c n0 sf h kc ks T) {pc n : Nat} {ls : Array Slot} {st : List Value} {u v : Int32} (hd : decode bytes pc = .ok (.ior, 1)) (hn : pc + 1 = n) (K : Run Z EL p e below s n0 fc fs Q (T.setTop (mkF m n ls (.int (u ||| v) :: st)))) : Run Z EL p e below s n0 fc fs Q (T.setTop (mkF m pc ls (.int v :: .int u :: st))) := by
  subst hn; exact K.st fun _ k => XS.ior X.hr X.x rfl (X.dc hd) rfl k
theorem lor (X : Sd kn Z a0 EL y bytes maxL ret p l e R s m args below meth c n0 sf h kc ks T) {pc n : Nat} {ls : Array Slot} {st : List Value} {u v : Int64} (hd : decode bytes pc = .ok (.lor, 1)) (hn : pc + 1 = n) (K : Run Z EL p e below s n0 fc fs Q (T.setTop (mkF m n ls (.long (u ||| v) :: st)))) : Run Z EL p e below s n0 fc fs Q (T.setTop (mkF m pc ls (.long v :: .long u :: st))) := by
  subst hn; exact K.st fun _ k => XS.lor X.hr X.x rfl (X.dc hd) rfl k
theorem ixor (X : Sd kn Z a0 EL y bytes maxL ret p l e R s m args below meth c n0 sf h kc ks T) {pc n : Nat} {ls : Array Slot} {st : List Value} {u v : Int32} (hd : decode bytes pc = .ok (.ixor, 1)) (hn : pc + 1 = n) (K : Run Z EL p e below s n0 fc fs Q (T.setTop (mkF m n ls (.int (u ^^^ v) :: st)))) : Run Z EL p e below s n0 fc fs Q (T.setTop (mkF m pc ls (.int v :: .int u :: st))) := by
  subst hn; exact K.st fun _ k => XS.ixor X.hr X.x rfl (X.dc hd) rfl k
theorem lxor (X : Sd kn Z a0 EL y bytes maxL ret p l e R s m args below meth c n0 sf h kc ks T) {pc n : Nat} {ls : Array Slot} {st : List Value} {u v : Int64} (hd : decode bytes pc = .ok (.lxor, 1)) (hn : pc + 1 = n) (K : Run Z EL p e below s n0 fc fs Q (T.setTop (mkF m n ls (.long (u ^^^ v) :: st)))) : Run Z EL p e below s n0 fc fs Q (T.setTop (mkF m pc ls (.long v :: .long u :: st))) := by
  subst hn; exact K.st fun _ k => XS.lxor X.hr X.x rfl (X.dc hd) rfl k
theorem ishl (X : Sd kn Z a0 EL y bytes maxL ret p l e R s m args below meth c n0 sf h kc ks T) {pc n : Nat} {ls : Array Slot} {st : List Value} {u v : Int32} (hd : decode bytes pc = .ok (.ishl, 1)) (hn : pc + 1 = n) (K : Run Z EL p e below s n0 fc fs Q (T.setTop (mkF m n ls (.int (u <<< (v &&& 31)) :: st)))) : Run Z EL p e below s n0 fc fs Q (T.setTop (mkF m pc ls (.int v :: .int u :: st))) := by
  subst hn; exact K.st fun _ k => XS.ishl X.hr X.x rfl (X.dc hd) rfl k
theorem ishr (X : Sd kn Z a0 EL y bytes maxL ret p l e R s m args below meth c n0 sf h kc ks T) {pc n : Nat} {ls : Array Slot} {st : List Value} {u v : Int32} (hd : decode bytes pc = .ok (.ishr, 1)) (hn : pc + 1 = n) (K : Run Z EL p e below s n0 fc fs Q (T.setTop (mkF m n ls (.int (u >>> (v &&& 31)) :: st)))) : Run Z EL p e below s n0 fc fs Q (T.setTop (mkF m pc ls (.int v :: .int u :: st))) := by
  subst hn; exact K.st fun _ k => XS.ishr X.hr X.x rfl (X.dc hd) rfl k
theorem iushr (X : Sd kn Z a0 EL y bytes maxL ret p l e R s m args below meth c n0 sf h kc ks T) {pc n : Nat} {ls : Array Slot} {st : List Value} {u v : Int32} (hd : decode bytes pc = .ok (.iushr, 1)) (hn : pc + 1 = n) (K : Run Z EL p e below s n0 fc fs Q (T.setTop (mkF m n ls (.int ((u.toUInt32 >>> (v &&& 31).toUInt32).toInt32) :: st)))) : Run Z EL p e below s n0 fc fs Q (T.setTop (mkF m pc ls (.int v :: .int u :: st))) := by
  subst hn; exact K.st fun _ k => XS.iushr X.hr X.x rfl (X.dc hd) rfl k
theorem lshl (X : Sd kn Z a0 EL y bytes maxL ret p l e R s m args below meth c n0 sf h kc ks T) {pc n : Nat} {ls : Array Slot} {st : List Value} {u : Int64} {v : Int32} (hd : decode bytes pc = .ok (.lshl, 1)) (hn : pc + 1 = n) (K : Run Z EL p e below s n0 fc fs Q (T.setTop (mkF m n ls (.long (u <<< (v &&& 0x3f).toInt64) :: st)))) : Run Z EL p e below s n0 fc fs Q (T.setTop (mkF m pc ls (.int v :: .long u :: st))) := by
  subst hn; exact K.st fun _ k => XS.lshl X.hr X.x rfl (X.dc hd) rfl k
theorem lshr (X : Sd kn Z a0 EL y bytes maxL ret p l e R s m args below meth c n0 sf h kc ks T) {pc n : Nat} {ls : Array Slot} {st : List Value} {u : Int64} {v : Int32} (hd : decode bytes pc = .ok (.lshr, 1)) (hn : pc + 1 = n) (K : Run Z EL p e below s n0 fc fs Q (T.setTop (mkF m n ls (.long (u >>> (v &&& 0x3f).toInt64) :: st)))) : Run Z EL p e below s n0 fc fs Q (T.setTop (mkF m pc ls (.int v :: .long u :: st))) := by
  subst hn; exact K.st fun _ k => XS.lshr X.hr X.x rfl (X.dc hd) rfl k
theorem lushr (X : Sd kn Z a0 EL y bytes maxL ret p l e R s m args below meth c n0 sf h kc ks T) {pc n : Nat} {ls : Array Slot} {st : List Value} {u : Int64} {v : Int32} (hd : decode bytes pc = .ok (.lushr, 1)) (hn : pc + 1 = n) (K : Run Z EL p e below s n0 fc fs Q (T.setTop (mkF m n ls (.long ((u.toUInt64 >>> (v &&& 0x3f).toInt64.toUInt64).toInt64) :: st)))) : Run Z EL p e below s n0 fc fs Q (T.setTop (mkF m pc ls (.int v :: .long u :: st))) := by
  subst hn; exact K.st fun _ k => XS.lushr X.hr X.x rfl (X.dc hd) rfl k
theorem ineg (X : Sd kn Z a0 EL y bytes maxL ret p l e R s m args below meth c n0 sf h kc ks T) {pc n : Nat} {ls : Array Slot} {st : List Value} {u : Int32} (hd : decode bytes pc = .ok (.ineg, 1)) (hn : pc + 1 = n) (K : Run Z EL p e below s n0 fc fs Q (T.setTop (mkF m n ls (.int (-u) :: st)))) : Run Z EL p e below s n0 fc fs Q (T.setTop (mkF m pc ls (.int u :: st))) := by
  subst hn; exact K.st fun _ k => XS.ineg X.hr X.x rfl (X.dc hd) rfl k
theorem i2l (X : Sd kn Z a0 EL y bytes maxL ret p l e R s m args below meth c n0 sf h kc ks T) {pc n : Nat} {ls : Array Slot} {st : List Value} {u : Int32} (hd : decode bytes pc = .ok (.i2l, 1)) (hn : pc + 1 = n) (K : Run Z EL p e below s n0 fc fs Q (T.setTop (mkF m n ls (.long u.toInt64 :: st)))) : Run Z EL p e below s n0 fc fs Q (T.setTop (mkF m pc ls (.int u :: st))) := by
  subst hn; exact K.st fun _ k => XS.i2l X.hr X.x rfl (X.dc hd) rfl k
theorem l2i (X : Sd kn Z a0 EL y bytes maxL ret p l e R s m args below meth c n0 sf h kc ks T) {pc n : Nat} {ls : Array Slot} {st : List Value} {u : Int64} (hd : decode bytes pc = .ok (.l2i, 1)) (hn : pc + 1 = n) (K : Run Z EL p e below s n0 fc fs Q (T.setTop (mkF m n ls (.int u.toInt32 :: st)))) : Run Z EL p e below s n0 fc fs Q (T.setTop (mkF m pc ls (.long u :: st))) := by
  subst hn; exact K.st fun _ k => XS.l2i X.hr X.x rfl (X.dc hd) rfl k
theorem i2b (X : Sd kn Z a0 EL y bytes maxL ret p l e R s m args below meth c n0 sf h kc ks T) {pc n : Nat} {ls : Array Slot} {st : List Value} {u : Int32} (hd : decode bytes pc = .ok (.i2b, 1)) (hn : pc + 1 = n) (K : Run Z EL p e below s n0 fc fs Q (T.setTop (mkF m n ls (.int u.toInt8.toInt32 :: st)))) : Run Z EL p e below s n0 fc fs Q (T.setTop (mkF m pc ls (.int u :: st))) := by
  subst hn; exact K.st fun _ k => XS.i2b X.hr X.x rfl (X.dc hd) rfl k
theorem i2s (X : Sd kn Z a0 EL y bytes maxL ret p l e R s m args below meth c n0 sf h kc ks T) {pc n : Nat} {ls : Array Slot} {st : List Value} {u : Int32} (hd : decode bytes pc = .ok (.i2s, 1)) (hn : pc + 1 = n) (K : Run Z EL p e below s n0 fc fs Q (T.setTop (mkF m n ls (.int u.toInt16.toInt32 :: st)))) : Run Z EL p e below s n0 fc fs Q (T.setTop (mkF m pc ls (.int u :: st))) := by
  subst hn; exact K.st fun _ k => XS.i2s X.hr X.x rfl (X.dc hd) rfl k
theorem i2c (X : Sd kn Z a0 EL y bytes maxL ret p l e R s m args below meth c n0 sf h kc ks T) {pc n : Nat} {ls : Array Slot} {st : List Value} {u : Int32} (hd : decode bytes pc = .ok (.i2c, 1)) (hn : pc + 1 = n) (K : Run Z EL p e below s n0 fc fs Q (T.setTop (mkF m n ls (.int u.toUInt32.toUInt16.toUInt32.toInt32 :: st)))) : Run Z EL p e below s n0 fc fs Q (T.setTop (mkF m pc ls (.int u :: st))) := by
  subst hn; exact K.st fun _ k => XS.i2c X.hr X.x rfl (X.dc hd) rfl k
theorem lcmp (X : Sd kn Z a0 EL y bytes maxL ret p l e R s m args below meth c n0 sf h kc ks T) {pc n : Nat} {ls : Array Slot} {st : List Value} {u v : Int64} (hd : decode bytes pc = .ok (.lcmp, 1)) (hn : pc + 1 = n) (K : Run Z EL p e below s n0 fc fs Q (T.setTop (mkF m n ls (.int (lcmpW u v) :: st)))) : Run Z EL p e below s n0 fc fs Q (T.setTop (mkF m pc ls (.long v :: .long u :: st))) := by
  subst hn; exact K.st fun _ k => XS.lcmp X.hr X.x rfl (X.dc hd) rfl k
theorem irem (X : Sd kn Z a0 EL y bytes maxL ret p l e R s m args below meth c n0 sf h kc ks T) {pc n : Nat} {ls : Array Slot} {st : List Value} {u v : Int32} (hd : decode bytes pc = .ok (.irem, 1)) (hv : v ≠ 0) (hn : pc + 1 = n) (K : Run Z EL p e below s n0 fc fs Q (T.setTop (mkF m n ls (.int (u % v) :: st)))) : Run Z EL p e below s n0 fc fs Q (T.setTop (mkF m pc ls (.int v :: .int u :: st))) := by
  subst hn; obtain ⟨s', L, i, j, Y, -⟩ := X.op; exact K.st fun _ k => iremM Y X.x rfl (X.dc hd) rfl hv k
theorem idiv (X : Sd kn Z a0 EL y bytes maxL ret p l e R s m args below meth c n0 sf h kc ks T) {pc n : Nat} {ls : Array Slot} {st : List Value} {u v : Int32} (hd : decode bytes pc = .ok (.idiv, 1)) (hv : v ≠ 0) (hn : pc + 1 = n) (K : Run Z EL p e below s n0 fc fs Q (T.setTop (mkF m n ls (.int (u / v) :: st)))) : Run Z EL p e below s n0 fc fs Q (T.setTop (mkF m pc ls (.int v :: .int u :: st))) := by
  subst hn; exact K.st fun _ k => XS.idiv X.hr X.x rfl (X.dc hd) rfl hv k
theorem dup (X : Sd kn Z a0 EL y bytes maxL ret p l e R s m args below meth c n0 sf h kc ks T) {pc n : Nat} {ls : Array Slot} {st : List Value} {v : Value} (hd : decode bytes pc = .ok (.dup, 1)) (hc : v.category = 1) (hn : pc + 1 = n) (K : Run Z EL p e below s n0 fc fs Q (T.setTop (mkF m n ls (v :: v :: st)))) : Run Z EL p e below s n0 fc fs Q (T.setTop (mkF m pc ls (v :: st))) := by
  subst hn; exact K.st fun _ k => XS.dup X.hr X.x rfl (X.dc hd) rfl hc k
theorem pop (X : Sd kn Z a0 EL y bytes maxL ret p l e R s m args below meth c n0 sf h kc ks T) {pc n : Nat} {ls : Array Slot} {st : List Value} {v : Value} (hd : decode bytes pc = .ok (.pop, 1)) (hc : v.category = 1) (hn : pc + 1 = n) (K : Run Z EL p e below s n0 fc fs Q (T.setTop (mkF m n ls st))) : Run Z EL p e below s n0 fc fs Q (T.setTop (mkF m pc ls (v :: st))) := by
  subst hn; exact K.st fun _ k => XS.pop X.hr X.x rfl (X.dc hd) rfl hc k
theorem dupX1 (X : Sd kn Z a0 EL y bytes maxL ret p l e R s m args below meth c n0 sf h kc ks T) {pc n : Nat} {ls : Array Slot} {st : List Value} {u v : Value} (hd : decode bytes pc = .ok (.dup_x1, 1)) (hc : u.category = 1) (hc' : v.category = 1) (hn : pc + 1 = n) (K : Run Z EL p e below s n0 fc fs Q (T.setTop (mkF m n ls (u :: v :: u :: st)))) : Run Z EL p e below s n0 fc fs Q (T.setTop (mkF m pc ls (u :: v :: st))) := by
  subst hn; exact K.st fun _ k => XS.dupX1 X.hr X.x rfl (X.dc hd) rfl hc hc' k
theorem iinc (X : Sd kn Z a0 EL y bytes maxL ret p l e R s m args below meth c n0 sf h kc ks T) {pc n j : Nat} {ls l' : Array Slot} {st : List Value} {i : Int} {z v u : Int32} (hd : decode bytes pc = .ok (.iinc j i, 3)) (hz : Int32.ofInt i = z) (hl : ls[j]? = some (.val (.int v))) (hu : v + z = u) (hl' : storeLocals ls j (.int u) = some l') (hn : pc + 3 = n) (K : Run Z EL p e below s n0 fc fs Q (T.setTop (mkF m n l' st))) : Run Z EL p e below s n0 fc fs Q (T.setTop (mkF m pc ls st)) := by
  subst hn hz hu; exact K.st fun _ k => XS.iinc X.hr X.x rfl (X.dc hd) hl hl' k
theorem ldc (X : Sd kn Z a0 EL y bytes maxL ret p l e R s m args below meth c n0 sf h kc ks T) {pc n index : Nat} {ls : Array Slot} {st : List Value} {v : Int32} (hd : decode bytes pc = .ok (.ldc index, 2)) (w : (Cond.constant y.cls index v).before a0 Z = true) (hn : pc + 2 = n) (K : Run Z EL p e below s n0 fc fs Q (T.setTop (mkF m n ls (.int v :: st)))) : Run Z EL p e below s n0 fc fs Q (T.setTop (mkF m pc ls st)) := by
  subst hn; obtain ⟨s', L, i, j, Y, r1, hZ, hown, -⟩ := X.op; exact K.st fun _ k => Y.ldcInt X.x hown (mvT hZ w) (g := mkF m pc ls st) rfl (X.dc hd) _ k
theorem ldc2 (X : Sd kn Z a0 EL y bytes maxL ret p l e R s m args below meth c n0 sf h kc ks T) {pc n index : Nat} {ls : Array Slot} {st : List Value} {v : Int64} (hd : decode bytes pc = .ok (.ldc2_w index, 3)) (w : (Cond.constantLong y.cls index v).before a0 Z = true) (hn : pc + 3 = n) (K : Run Z EL p e below s n0 fc fs Q (T.setTop (mkF m n ls (.long v :: st)))) : Run Z EL p e below s n0 fc fs Q (T.setTop (mkF m pc ls st)) := by
  subst hn; obtain ⟨s', L, i, j, Y, r1, hZ, hown, -⟩ := X.op; exact K.st fun _ k => Y.ldc2Long X.x hown (mvT hZ w) (g := mkF m pc ls st) rfl (X.dc hd) _ k
theorem goto (X : Sd kn Z a0 EL y bytes maxL ret p l e R s m args below meth c n0 sf h kc ks T) {pc n : Nat} {ls : Array Slot} {st : List Value} {o : Int} (hd : decode bytes pc = .ok (.goto o, 3)) (ho : 0 ≤ (pc : Int) + o) (hn : ((pc : Int) + o).toNat = n) (K : Run Z EL p e below s n0 fc fs Q (T.setTop (mkF m n ls st))) : Run Z EL p e below s n0 fc fs Q (T.setTop (mkF m pc ls st)) := K.st fun _ k => XS.goto X.hr X.x rfl rfl (X.dc hd) ho hn k
theorem ifc (X : Sd kn Z a0 EL y bytes maxL ret p l e R s m args below meth c n0 sf h kc ks T) {pc n1 n2 : Nat} {ls : Array Slot} {st : List Value} {cd : ClassFile.Cond} {x : Int32} {o : Int} (hd : decode bytes pc = .ok (.ifCond cd o, 3)) (ho : 0 ≤ (pc : Int) + o) (h1 : ((pc : Int) + o).toNat = n1) (h2 : pc + 3 = n2) (K1 : ifCond.holds cd x = true → Run Z EL p e below s n0 fc fs Q (T.setTop (mkF m n1 ls st))) (K2 : ifCond.holds cd x = false → Run Z EL p e below s n0 fc fs Q (T.setTop (mkF m n2 ls st))) : Run Z EL p e below s n0 fc fs Q (T.setTop (mkF m pc ls (.int x :: st))) := by
  cases hq : ifCond.holds cd x with
  | true => exact (K1 hq).st fun _ k => XS.ifYes X.hr X.x rfl rfl (X.dc hd) rfl hq ho h1 k
  | false => subst h2; exact (K2 hq).st fun _ k => XS.ifNo X.hr X.x rfl (X.dc hd) rfl hq k
theorem icc (X : Sd kn Z a0 EL y bytes maxL ret p l e R s m args below meth c n0 sf h kc ks T) {pc n1 n2 : Nat} {ls : Array Slot} {st : List Value} {cd : ClassFile.Cond} {x v : Int32} {o : Int} (hd : decode bytes pc = .ok (.if_icmp cd o, 3)) (ho : 0 ≤ (pc : Int) + o) (h1 : ((pc : Int) + o).toNat = n1) (h2 : pc + 3 = n2) (K1 : if_icmp.holds cd x v = true → Run Z EL p e below s n0 fc fs Q (T.setTop (mkF m n1 ls st))) (K2 : if_icmp.holds cd x v = false → Run Z EL p e below s n0 fc fs Q (T.setTop (mkF m n2 ls st))) : Run Z EL p e below s n0 fc fs Q (T.setTop (mkF m pc ls (.int v :: .int x :: st))) := by
  cases hq : if_icmp.holds cd x v with
  | true => exact (K1 hq).st fun _ k => XS.icmpYes X.hr X.x rfl rfl (X.dc hd) rfl hq ho h1 k
  | false => subst h2; exact (K2 hq).st fun _ k => XS.icmpNo X.hr X.x rfl (X.dc hd) rfl hq k
theorem ic_eq (X : Sd kn Z a0 EL y bytes maxL ret p l e R s m args below meth c n0 sf h kc ks T) {pc n1 n2 : Nat} {ls : Array Slot} {st : List Value} {x v : Int32} {o : Int} (hd : decode bytes pc = .ok (.if_icmp .eq o, 3)) (ho : 0 ≤ (pc : Int) + o) (h1 : ((pc : Int) + o).toNat = n1) (h2 : pc + 3 = n2) (K1 : x = v → Run Z EL p e below s n0 fc fs Q (T.setTop (mkF m n1 ls st))) (K2 : ¬ x = v → Run Z EL p e below s n0 fc fs Q (T.setTop (mkF m n2 ls st))) : Run Z EL p e below s n0 fc fs Q (T.setTop (mkF m pc ls (.int v :: .int x :: st))) := by
  exact icc X hd ho h1 h2 (fun hq => K1 (Classical.byContradiction fun w => by rw [(feq w).1] at hq; cases hq)) (fun hq => K2 (fun w => by rw [(teq w).1] at hq; cases hq))
theorem if_eq (X : Sd kn Z a0 EL y bytes maxL ret p l e R s m args below meth c n0 sf h kc ks T) {pc n1 n2 : Nat} {ls : Array Slot} {st : List Value} {x : Int32} {o : Int} (hd : decode bytes pc = .ok (.ifCond .eq o, 3)) (ho : 0 ≤ (pc : Int) + o) (h1 : ((pc : Int) + o).toNat = n1) (h2 : pc + 3 = n2) (K1 : x = 0 → Run Z EL p e below s n0 fc fs Q (T.setTop (mkF m n1 ls st))) (K2 : ¬ x = 0 → Run Z EL p e below s n0 fc fs Q (T.setTop (mkF m n2 ls st))) : Run Z EL p e below s n0 fc fs Q (T.setTop (mkF m pc ls (.int x :: st))) := by
  exact ifc X hd ho h1 h2 (fun hq => by rw [if0] at hq; exact K1 (Classical.byContradiction fun w => by rw [(feq w).1] at hq; cases hq)) (fun hq => by rw [if0] at hq; exact K2 (fun w => by rw [(teq w).1] at hq; cases hq))
theorem ic_ne (X : Sd kn Z a0 EL y bytes maxL ret p l e R s m args below meth c n0 sf h kc ks T) {pc n1 n2 : Nat} {ls : Array Slot} {st : List Value} {x v : Int32} {o : Int} (hd : decode bytes pc = .ok (.if_icmp .ne o, 3)) (ho : 0 ≤ (pc : Int) + o) (h1 : ((pc : Int) + o).toNat = n1) (h2 : pc + 3 = n2) (K1 : ¬ x = v → Run Z EL p e below s n0 fc fs Q (T.setTop (mkF m n1 ls st))) (K2 : x = v → Run Z EL p e below s n0 fc fs Q (T.setTop (mkF m n2 ls st))) : Run Z EL p e below s n0 fc fs Q (T.setTop (mkF m pc ls (.int v :: .int x :: st))) := by
  exact icc X hd ho h1 h2 (fun hq => K1 (fun w => by rw [(teq w).2] at hq; cases hq)) (fun hq => K2 (Classical.byContradiction fun w => by rw [(feq w).2] at hq; cases hq))
theorem if_ne (X : Sd kn Z a0 EL y bytes maxL ret p l e R s m args below meth c n0 sf h kc ks T) {pc n1 n2 : Nat} {ls : Array Slot} {st : List Value} {x : Int32} {o : Int} (hd : decode bytes pc = .ok (.ifCond .ne o, 3)) (ho : 0 ≤ (pc : Int) + o) (h1 : ((pc : Int) + o).toNat = n1) (h2 : pc + 3 = n2) (K1 : ¬ x = 0 → Run Z EL p e below s n0 fc fs Q (T.setTop (mkF m n1 ls st))) (K2 : x = 0 → Run Z EL p e below s n0 fc fs Q (T.setTop (mkF m n2 ls st))) : Run Z EL p e below s n0 fc fs Q (T.setTop (mkF m pc ls (.int x :: st))) := by
  exact ifc X hd ho h1 h2 (fun hq => by rw [if0] at hq; exact K1 (fun w => by rw [(teq w).2] at hq; cases hq)) (fun hq => by rw [if0] at hq; exact K2 (Classical.byContradiction fun w => by rw [(feq w).2] at hq; cases hq))
theorem ic_lt (X : Sd kn Z a0 EL y bytes maxL ret p l e R s m args below meth c n0 sf h kc ks T) {pc n1 n2 : Nat} {ls : Array Slot} {st : List Value} {x v : Int32} {o : Int} (hd : decode bytes pc = .ok (.if_icmp .lt o, 3)) (ho : 0 ≤ (pc : Int) + o) (h1 : ((pc : Int) + o).toNat = n1) (h2 : pc + 3 = n2) (K1 : x < v → Run Z EL p e below s n0 fc fs Q (T.setTop (mkF m n1 ls st))) (K2 : ¬ x < v → Run Z EL p e below s n0 fc fs Q (T.setTop (mkF m n2 ls st))) : Run Z EL p e below s n0 fc fs Q (T.setTop (mkF m pc ls (.int v :: .int x :: st))) := by
  exact icc X hd ho h1 h2 (fun hq => K1 (Classical.byContradiction fun w => by rw [(flt w).1] at hq; cases hq)) (fun hq => K2 (fun w => by rw [(tlt w).1] at hq; cases hq))
theorem if_lt (X : Sd kn Z a0 EL y bytes maxL ret p l e R s m args below meth c n0 sf h kc ks T) {pc n1 n2 : Nat} {ls : Array Slot} {st : List Value} {x : Int32} {o : Int} (hd : decode bytes pc = .ok (.ifCond .lt o, 3)) (ho : 0 ≤ (pc : Int) + o) (h1 : ((pc : Int) + o).toNat = n1) (h2 : pc + 3 = n2) (K1 : x < 0 → Run Z EL p e below s n0 fc fs Q (T.setTop (mkF m n1 ls st))) (K2 : ¬ x < 0 → Run Z EL p e below s n0 fc fs Q (T.setTop (mkF m n2 ls st))) : Run Z EL p e below s n0 fc fs Q (T.setTop (mkF m pc ls (.int x :: st))) := by
  exact ifc X hd ho h1 h2 (fun hq => by rw [if0] at hq; exact K1 (Classical.byContradiction fun w => by rw [(flt w).1] at hq; cases hq)) (fun hq => by rw [if0] at hq; exact K2 (fun w => by rw [(tlt w).1] at hq; cases hq))
theorem ic_ge (X : Sd kn Z a0 EL y bytes maxL ret p l e R s m args below meth c n0 sf h kc ks T) {pc n1 n2 : Nat} {ls : Array Slot} {st : List Value} {x v : Int32} {o : Int} (hd : decode bytes pc = .ok (.if_icmp .ge o, 3)) (ho : 0 ≤ (pc : Int) + o) (h1 : ((pc : Int) + o).toNat = n1) (h2 : pc + 3 = n2) (K1 : ¬ x < v → Run Z EL p e below s n0 fc fs Q (T.setTop (mkF m n1 ls st))) (K2 : x < v → Run Z EL p e below s n0 fc fs Q (T.setTop (mkF m n2 ls st))) : Run Z EL p e below s n0 fc fs Q (T.setTop (mkF m pc ls (.int v :: .int x :: st))) := by
  exact icc X hd ho h1 h2 (fun hq => K1 (fun w => by rw [(tlt w).2.1] at hq; cases hq)) (fun hq => K2 (Classical.byContradiction fun w => by rw [(flt w).2.1] at hq; cases hq))
theorem if_ge (X : Sd kn Z a0 EL y bytes maxL ret p l e R s m args below meth c n0 sf h kc ks T) {pc n1 n2 : Nat} {ls : Array Slot} {st : List Value} {x : Int32} {o : Int} (hd : decode bytes pc = .ok (.ifCond .ge o, 3)) (ho : 0 ≤ (pc : Int) + o) (h1 : ((pc : Int) + o).toNat = n1) (h2 : pc + 3 = n2) (K1 : ¬ x < 0 → Run Z EL p e below s n0 fc fs Q (T.setTop (mkF m n1 ls st))) (K2 : x < 0 → Run Z EL p e below s n0 fc fs Q (T.setTop (mkF m n2 ls st))) : Run Z EL p e below s n0 fc fs Q (T.setTop (mkF m pc ls (.int x :: st))) := by
  exact ifc X hd ho h1 h2 (fun hq => by rw [if0] at hq; exact K1 (fun w => by rw [(tlt w).2.1] at hq; cases hq)) (fun hq => by rw [if0] at hq; exact K2 (Classical.byContradiction fun w => by rw [(flt w).2.1] at hq; cases hq))
theorem ic_gt (X : Sd kn Z a0 EL y bytes maxL ret p l e R s m args below meth c n0 sf h kc ks T) {pc n1 n2 : Nat} {ls : Array Slot} {st : List Value} {x v : Int32} {o : Int} (hd : decode bytes pc = .ok (.if_icmp .gt o, 3)) (ho : 0 ≤ (pc : Int) + o) (h1 : ((pc : Int) + o).toNat = n1) (h2 : pc + 3 = n2) (K1 : v < x → Run Z EL p e below s n0 fc fs Q (T.setTop (mkF m n1 ls st))) (K2 : ¬ v < x → Run Z EL p e below s n0 fc fs Q (T.setTop (mkF m n2 ls st))) : Run Z EL p e below s n0 fc fs Q (T.setTop (mkF m pc ls (.int v :: .int x :: st))) := by
  exact icc X hd ho h1 h2 (fun hq => K1 (Classical.byContradiction fun w => by rw [(flt w).2.2.1] at hq; cases hq)) (fun hq => K2 (fun w => by rw [(tlt w).2.2.1] at hq; cases hq))
theorem if_gt (X : Sd kn Z a0 EL y bytes maxL ret p l e R s m args below meth c n0 sf h kc ks T) {pc n1 n2 : Nat} {ls : Array Slot} {st : List Value} {x : Int32} {o : Int} (hd : decode bytes pc = .ok (.ifCond .gt o, 3)) (ho : 0 ≤ (pc : Int) + o) (h1 : ((pc : Int) + o).toNat = n1) (h2 : pc + 3 = n2) (K1 : 0 < x → Run Z EL p e below s n0 fc fs Q (T.setTop (mkF m n1 ls st))) (K2 : ¬ 0 < x → Run Z EL p e below s n0 fc fs Q (T.setTop (mkF m n2 ls st))) : Run Z EL p e below s n0 fc fs Q (T.setTop (mkF m pc ls (.int x :: st))) := by
  exact ifc X hd ho h1 h2 (fun hq => by rw [if0] at hq; exact K1 (Classical.byContradiction fun w => by rw [(flt w).2.2.1] at hq; cases hq)) (fun hq => by rw [if0] at hq; exact K2 (fun w => by rw [(tlt w).2.2.1] at hq; cases hq))
theorem ic_le (X : Sd kn Z a0 EL y bytes maxL ret p l e R s m args below meth c n0 sf h kc ks T) {pc n1 n2 : Nat} {ls : Array Slot} {st : List Value} {x v : Int32} {o : Int} (hd : decode bytes pc = .ok (.if_icmp .le o, 3)) (ho : 0 ≤ (pc : Int) + o) (h1 : ((pc : Int) + o).toNat = n1) (h2 : pc + 3 = n2) (K1 : ¬ v < x → Run Z EL p e below s n0 fc fs Q (T.setTop (mkF m n1 ls st))) (K2 : v < x → Run Z EL p e below s n0 fc fs Q (T.setTop (mkF m n2 ls st))) : Run Z EL p e below s n0 fc fs Q (T.setTop (mkF m pc ls (.int v :: .int x :: st))) := by
  exact icc X hd ho h1 h2 (fun hq => K1 (fun w => by rw [(tlt w).2.2.2] at hq; cases hq)) (fun hq => K2 (Classical.byContradiction fun w => by rw [(flt w).2.2.2] at hq; cases hq))
theorem if_le (X : Sd kn Z a0 EL y bytes maxL ret p l e R s m args below meth c n0 sf h kc ks T) {pc n1 n2 : Nat} {ls : Array Slot} {st : List Value} {x : Int32} {o : Int} (hd : decode bytes pc = .ok (.ifCond .le o, 3)) (ho : 0 ≤ (pc : Int) + o) (h1 : ((pc : Int) + o).toNat = n1) (h2 : pc + 3 = n2) (K1 : ¬ 0 < x → Run Z EL p e below s n0 fc fs Q (T.setTop (mkF m n1 ls st))) (K2 : 0 < x → Run Z EL p e below s n0 fc fs Q (T.setTop (mkF m n2 ls st))) : Run Z EL p e below s n0 fc fs Q (T.setTop (mkF m pc ls (.int x :: st))) := by
  exact ifc X hd ho h1 h2 (fun hq => by rw [if0] at hq; exact K1 (fun w => by rw [(tlt w).2.2.2] at hq; cases hq)) (fun hq => by rw [if0] at hq; exact K2 (Classical.byContradiction fun w => by rw [(flt w).2.2.2] at hq; cases hq))
theorem ifnull_y (X : Sd kn Z a0 EL y bytes maxL ret p l e R s m args below meth c n0 sf h kc ks T) {pc n1 : Nat} {ls : Array Slot} {st : List Value} {o : Int} (hd : decode bytes pc = .ok (.ifnull o, 3)) (ho : 0 ≤ (pc : Int) + o) (h1 : ((pc : Int) + o).toNat = n1) (K : Run Z EL p e below s n0 fc fs Q (T.setTop (mkF m n1 ls st))) : Run Z EL p e below s n0 fc fs Q (T.setTop (mkF m pc ls (.null :: st))) := K.st fun _ k => XS.ifnullYes X.hr X.x rfl rfl (X.dc hd) rfl ho h1 k
theorem ifnull_n (X : Sd kn Z a0 EL y bytes maxL ret p l e R s m args below meth c n0 sf h kc ks T) {pc n2 : Nat} {ls : Array Slot} {st : List Value} {o : Int} {a : Addr} (hd : decode bytes pc = .ok (.ifnull o, 3)) (h2 : pc + 3 = n2) (K : Run Z EL p e below s n0 fc fs Q (T.setTop (mkF m n2 ls st))) : Run Z EL p e below s n0 fc fs Q (T.setTop (mkF m pc ls (.ref a :: st))) := by
  subst h2; exact K.st fun _ k => XS.ifnullNo X.hr X.x rfl (X.dc hd) rfl k
theorem ifnonnull_y (X : Sd kn Z a0 EL y bytes maxL ret p l e R s m args below meth c n0 sf h kc ks T) {pc n1 : Nat} {ls : Array Slot} {st : List Value} {o : Int} {a : Addr} (hd : decode bytes pc = .ok (.ifnonnull o, 3)) (ho : 0 ≤ (pc : Int) + o) (h1 : ((pc : Int) + o).toNat = n1) (K : Run Z EL p e below s n0 fc fs Q (T.setTop (mkF m n1 ls st))) : Run Z EL p e below s n0 fc fs Q (T.setTop (mkF m pc ls (.ref a :: st))) := K.st fun _ k => XS.ifnonnullYes X.hr X.x rfl rfl (X.dc hd) rfl ho h1 k
theorem ifnonnull_n (X : Sd kn Z a0 EL y bytes maxL ret p l e R s m args below meth c n0 sf h kc ks T) {pc n2 : Nat} {ls : Array Slot} {st : List Value} {o : Int} (hd : decode bytes pc = .ok (.ifnonnull o, 3)) (h2 : pc + 3 = n2) (K : Run Z EL p e below s n0 fc fs Q (T.setTop (mkF m n2 ls st))) : Run Z EL p e below s n0 fc fs Q (T.setTop (mkF m pc ls (.null :: st))) := by
  subst h2; exact K.st fun _ k => XS.ifnonnullNo X.hr X.x rfl (X.dc hd) rfl k
theorem ac_eq (X : Sd kn Z a0 EL y bytes maxL ret p l e R s m args below meth c n0 sf h kc ks T) {pc n1 n2 : Nat} {ls : Array Slot} {st : List Value} {x v : Value} {o : Int} (hd : decode bytes pc = .ok (.if_acmp .eq o, 3)) (hx : x.isRef = true) (hv : v.isRef = true) (ho : 0 ≤ (pc : Int) + o) (h1 : ((pc : Int) + o).toNat = n1) (h2 : pc + 3 = n2) (K1 : x = v → Run Z EL p e below s n0 fc fs Q (T.setTop (mkF m n1 ls st))) (K2 : ¬ x = v → Run Z EL p e below s n0 fc fs Q (T.setTop (mkF m n2 ls st))) : Run Z EL p e below s n0 fc fs Q (T.setTop (mkF m pc ls (v :: x :: st))) := by
  obtain ⟨s', L, i, j, Y, -⟩ := X.op
  by_cases hq : x = v
  · exact (K1 hq).st fun _ k => acmp Y X.x rfl hx hv rfl (X.dc hd) rfl (decide_eq_true hq) ho (by simp [acV, ← h1, ← h2]) k
  · exact (K2 hq).st fun _ k => acmp Y X.x rfl hx hv rfl (X.dc hd) rfl (decide_eq_false hq) ho (by simp [acV, ← h1, ← h2]) k
theorem ac_ne (X : Sd kn Z a0 EL y bytes maxL ret p l e R s m args below meth c n0 sf h kc ks T) {pc n1 n2 : Nat} {ls : Array Slot} {st : List Value} {x v : Value} {o : Int} (hd : decode bytes pc = .ok (.if_acmp .ne o, 3)) (hx : x.isRef = true) (hv : v.isRef = true) (ho : 0 ≤ (pc : Int) + o) (h1 : ((pc : Int) + o).toNat = n1) (h2 : pc + 3 = n2) (K1 : ¬ x = v → Run Z EL p e below s n0 fc fs Q (T.setTop (mkF m n1 ls st))) (K2 : x = v → Run Z EL p e below s n0 fc fs Q (T.setTop (mkF m n2 ls st))) : Run Z EL p e below s n0 fc fs Q (T.setTop (mkF m pc ls (v :: x :: st))) := by
  obtain ⟨s', L, i, j, Y, -⟩ := X.op
  by_cases hq : x = v
  · exact (K2 hq).st fun _ k => acmp Y X.x rfl hx hv rfl (X.dc hd) rfl (decide_eq_true hq) ho (by simp [acV, ← h1, ← h2]) k
  · exact (K1 hq).st fun _ k => acmp Y X.x rfl hx hv rfl (X.dc hd) rfl (decide_eq_false hq) ho (by simp [acV, ← h1, ← h2]) k
theorem getstatic (X : Sd kn Z a0 EL y bytes maxL ret p l e R s m args below meth c n0 sf h kc ks T) {pc n index : Nat} {ls : Array Slot} {st : List Value} {R0 O : String} (hd : decode bytes pc = .ok (.getstatic index, 3)) (w : (Cond.fieldLink y.cls index R0 f d).before a0 Z = true) (via : Via Z R0 O f d) (F : Sta Z h O f d v) (hn : pc + 3 = n) (K : ∀ T', Sd kn Z a0 EL y bytes maxL ret p l e R s m args below meth c n0 sf h kc ks T' → Run Z EL p e below s n0 fc fs Q (T'.setTop (mkF m n ls (v :: st)))) : Run Z EL p e below s n0 fc fs Q (T.setTop (mkF m pc ls st)) := by
  subst hn; obtain ⟨s', L', i', j', Y, r1, hZ, hown, hml, hnm, r3, r4, hx, kN, kE, kW⟩ := X.op
  obtain ⟨T', Y', e', stp⟩ := getS (host := "") Y hx hZ hown w via r1 F (g := mkF m pc ls st) rfl (X.dc hd)
  exact (K T' (kN T' Y' e')).st stp
theorem getfield (X : Sd kn Z a0 EL y bytes maxL ret p l e R s m args below meth c n0 sf h kc ks T) {pc n index : Nat} {ls : Array Slot} {st : List Value} {R0 O : String} (hd : decode bytes pc = .ok (.getfield index, 3)) (w : (Cond.fieldLink y.cls index R0 f d).before a0 Z = true) (via : Via Z R0 O f d) (F : Fld Z h a O f d v) (hn : pc + 3 = n) (K : ∀ T', Sd kn Z a0 EL y bytes maxL ret p l e R s m args below meth c n0 sf h kc ks T' → Run Z EL p e below s n0 fc fs Q (T'.setTop (mkF m n ls (v :: st)))) : Run Z EL p e below s n0 fc fs Q (T.setTop (mkF m pc ls (.ref a :: st))) := by
  subst hn; obtain ⟨s', L', i', j', Y, r1, hZ, hown, hml, hnm, r3, r4, hx, kN, kE, kW⟩ := X.op
  obtain ⟨T', Y', e', stp⟩ := getF (host := "") Y hx hZ hown (Or.inl w) via r1 F (g := mkF m pc ls (.ref a :: st)) rfl rfl (X.dc hd)
  exact (K T' (kN T' Y' e')).st stp
theorem checkcast (X : Sd kn Z a0 EL y bytes maxL ret p l e R s m args below meth c n0 sf h kc ks T) {pc n index : Nat} {ls : Array Slot} {st : List Value} (hd : decode bytes pc = .ok (.checkcast index, 3)) (w : (Cond.classLink y.cls index C).before a0 Z = true) (F : Ins Z h a C true) (hn : pc + 3 = n) (K : ∀ T', Sd kn Z a0 EL y bytes maxL ret p l e R s m args below meth c n0 sf h kc ks T' → Run Z EL p e below s n0 fc fs Q (T'.setTop (mkF m n ls (.ref a :: st)))) : Run Z EL p e below s n0 fc fs Q (T.setTop (mkF m pc ls (.ref a :: st))) := by
  subst hn; obtain ⟨s', L', i', j', Y, r1, hZ, hown, hml, hnm, r3, r4, hx, kN, kE, kW⟩ := X.op
  obtain ⟨T', Y', e', stp⟩ := castY Y hx hZ hown w r1 F (g := mkF m pc ls (.ref a :: st)) rfl rfl (X.dc hd)
  exact (K T' (kN T' Y' e')).st stp
theorem checkcastNull (X : Sd kn Z a0 EL y bytes maxL ret p l e R s m args below meth c n0 sf h kc ks T) {pc n index : Nat} {ls : Array Slot} {st : List Value} (hd : decode bytes pc = .ok (.checkcast index, 3)) (hn : pc + 3 = n) (K : Run Z EL p e below s n0 fc fs Q (T.setTop (mkF m n ls (.null :: st)))) : Run Z EL p e below s n0 fc fs Q (T.setTop (mkF m pc ls (.null :: st))) := by
  subst hn; obtain ⟨s', L', i', j', Y, r1, hZ, hown, hml, hnm, r3, r4, hx, kN, kE, kW⟩ := X.op
  exact K.st fun _ k => Y.checkcastNull hx (g := mkF m pc ls (.null :: st)) rfl rfl (X.dc hd) _ k
theorem instanceofY (X : Sd kn Z a0 EL y bytes maxL ret p l e R s m args below meth c n0 sf h kc ks T) {pc n index : Nat} {ls : Array Slot} {st : List Value} (hd : decode bytes pc = .ok (.instanceof index, 3)) (w : (Cond.classLink y.cls index C).before a0 Z = true) (F : Ins Z h a C true) (hn : pc + 3 = n) (K : ∀ T', Sd kn Z a0 EL y bytes maxL ret p l e R s m args below meth c n0 sf h kc ks T' → Run Z EL p e below s n0 fc fs Q (T'.setTop (mkF m n ls (.int 1 :: st)))) : Run Z EL p e below s n0 fc fs Q (T.setTop (mkF m pc ls (.ref a :: st))) := by
  subst hn; obtain ⟨s', L', i', j', Y, r1, hZ, hown, hml, hnm, r3, r4, hx, kN, kE, kW⟩ := X.op
  obtain ⟨T', Y', e', stp⟩ := instY Y hx hZ hown w r1 F (g := mkF m pc ls (.ref a :: st)) rfl rfl (X.dc hd)
  exact (K T' (kN T' Y' e')).st stp
theorem instanceofNull (X : Sd kn Z a0 EL y bytes maxL ret p l e R s m args below meth c n0 sf h kc ks T) {pc n index : Nat} {ls : Array Slot} {st : List Value} (hd : decode bytes pc = .ok (.instanceof index, 3)) (hn : pc + 3 = n) (K : Run Z EL p e below s n0 fc fs Q (T.setTop (mkF m n ls (.int 0 :: st)))) : Run Z EL p e below s n0 fc fs Q (T.setTop (mkF m pc ls (.null :: st))) := by
  subst hn; obtain ⟨s', L', i', j', Y, r1, hZ, hown, hml, hnm, r3, r4, hx, kN, kE, kW⟩ := X.op
  exact K.st fun _ k => Y.instanceofNull hx (g := mkF m pc ls (.null :: st)) rfl rfl (X.dc hd) _ k
theorem initObj (X : Sd kn Z a0 EL y bytes maxL ret p l e R s m args below meth c n0 sf h kc ks T) {pc n index W : Nat} {ls : Array Slot} {st : List Value} (hd : decode bytes pc = .ok (.invokespecial index, 3)) (w1 : (Cond.methodLink y.cls index Lib.objectInit).before a0 Z = true) (w2 : (Cond.instanceMethod Lib.objectInit).before a0 Z = true) (w3 : (Cond.code Lib.objectInit ⟨#[0xb1]⟩ 1 none).before a0 Z = true) (hsize : ls.size = maxL) (hf : 1 ≤ R.frames) (hW : (st.map fun v => v.category).sum ≤ W) (hl : W + 12 ≤ R.locals) (hn : pc + 3 = n) (K : ∀ T', Sd kn Z a0 EL y bytes maxL ret p l e R s m args below meth c n0 sf h kc ks T' → Run Z EL p e below s n0 fc fs Q (T'.setTop (mkF m n ls st))) : Run Z EL p e below s n0 fc fs Q (T.setTop (mkF m pc ls (.ref a :: st))) := by
  subst hn; obtain ⟨s', L', i', j', Y, r1, hZ, hown, hml, hnm, r3, r4, hx, kN, kE, kW⟩ := X.op
  obtain ⟨T', Y', e', stp⟩ := initO Y hx hZ hown w1 w2 w3 r1 (g := mkF m pc ls (.ref a :: st)) rfl (by rw [hml]; exact hsize) rfl (X.dc hd) hf (W := W) (by simpa using hW) hl
  exact (K T' (kN T' Y' e')).st stp
def Ark (Z : State) (h : Heap) (a : Addr) (ty : FieldType) (vs : List Value) : Prop := ∃ c : Cell, Arr Z h a c ty ∧ c.slots = vs.toArray ∧ vs.length < 2147483648 ∧ ∀ v ∈ vs, fits ty v = true
theorem Ark.lt (A : Ark Z h a ty vs) : a < h.size := by obtain ⟨c, A, -⟩ := A; exact A.lt
theorem Ark.ext (A : Ark Z h a ty vs) (E : Ext h h') : Ark Z h' a ty vs := by obtain ⟨c, A, r⟩ := A; exact ⟨c, A.ext E, r⟩
theorem Ark.keep (A : Ark Z h a ty vs) (K : Keep h h' wl) (q : a ∉ wl) : Ark Z h' a ty vs := by obtain ⟨c, A, r⟩ := A; exact ⟨c, ⟨K.2.1 a c A.1 q, A.2⟩, r⟩
theorem Ark.len (A : Ark Z h a ty vs) : vs.length < 2147483648 := by obtain ⟨c, A, r1, r2, -⟩ := A; exact r2
theorem Ark.fit (A : Ark Z h a ty vs) : ∀ v ∈ vs, fits ty v = true := by obtain ⟨c, A, r1, r2, r3⟩ := A; exact r3
theorem Ark.ofArv {k : ClassId} {z : Int32} {dv : Value} (A : Arv Z h a k ty z vs dv) (hl : z.toNatClampNeg = vs.length) : Ark Z h a ty vs := by
  obtain ⟨c, A, q1, S, q3, H, G⟩ := A
  have hb : vs.length < 2147483648 := by rw [← hl]; exact (back32 q3).2
  have e1 : c.slots = vs.toArray := by
    apply Array.ext
    · simp [S, hl]
    · intro i h1 h2
      have q := H i h1
      rw [Array.getElem?_eq_getElem h1] at q
      have h3 : i < vs.length := by simpa using h2
      simpa [List.getD, List.getElem?_eq_getElem h3] using Option.some.inj q
  refine ⟨c, A, e1, hb, fun v hv => ?_⟩
  obtain ⟨i, hi, rfl⟩ := List.getElem_of_mem hv
  have q := G i (by rw [S, hl]; exact hi)
  simpa [List.getD, List.getElem?_eq_getElem hi] using q
theorem kExt (E : Ext h h') : Keep h h' [] := (Keep.refl h []).ext E
theorem nin1 (q : a ≠ b) : a ∉ [b] := fun z => q (List.mem_singleton.mp z)
theorem oldLe (O : Old Z n0 h) : n0 ≤ h.size := by rw [← O.1]; exact O.2.1
theorem toNatC {j : Int32} {i : Nat} (hj : j.toInt = i) : j.toNatClampNeg = i ∧ ¬ j < 0 := by
  refine ⟨by simp [Int32.toNatClampNeg, hj], fun q => ?_⟩
  have q2 := Int32.lt_iff_toInt_lt.mp q
  rw [hj] at q2
  have : (0 : Int32).toInt = 0 := rfl
  omega
theorem arkIn {c : Cell} (r1 : c.slots = vs.toArray) {j : Int32} {i : Nat} (hj : j.toInt = i) (hv : vs[i]? = some v) : ¬ (j < 0 ∨ c.slots.size ≤ j.toNatClampNeg) ∧ c.slots[j.toNatClampNeg]? = some v := by
  obtain ⟨g1, g2⟩ := toNatC hj
  obtain ⟨hi, -⟩ := List.getElem?_eq_some_iff.mp hv
  refine ⟨fun q => ?_, by rw [g1, r1]; simpa using hv⟩
  rcases q with q | q
  · exact g2 q
  · rw [g1, r1] at q; simp at q; omega
theorem iaload (X : Sd kn Z a0 EL y bytes maxL ret p l e R s m args below meth c n0 sf h kc ks T) {pc n i : Nat} {ls : Array Slot} {st : List Value} {j : Int32} (hd : decode bytes pc = .ok (.iaload, 1)) (A : Ark Z h a .int vs) (hj : j.toInt = i) (hv : vs[i]? = some v) (hn : pc + 1 = n) (K : Run Z EL p e below s n0 fc fs Q (T.setTop (mkF m n ls (v :: st)))) : Run Z EL p e below s n0 fc fs Q (T.setTop (mkF m pc ls (.int j :: .ref a :: st))) := by
  subst hn; obtain ⟨s', L', i', j', Y, r1, hZ, hown, hml, hnm, r3, r4, hx, kN, kE, kW⟩ := X.op
  obtain ⟨c', A, s1, -⟩ := A
  obtain ⟨g1, g2⟩ := arkIn s1 hj hv
  exact K.st fun _ k => Y.iaload hx (j := j) (v := v) (by rw [r1]; exact A.1) (State.isArrayOf_alike hZ.alike A.2.1) A.2.2 g1 g2 (g := mkF m pc ls (.int j :: .ref a :: st)) rfl rfl (X.dc hd) _ k
theorem caload (X : Sd kn Z a0 EL y bytes maxL ret p l e R s m args below meth c n0 sf h kc ks T) {pc n i : Nat} {ls : Array Slot} {st : List Value} {j : Int32} (hd : decode bytes pc = .ok (.caload, 1)) (A : Ark Z h a .char vs) (hj : j.toInt = i) (hv : vs[i]? = some v) (hn : pc + 1 = n) (K : Run Z EL p e below s n0 fc fs Q (T.setTop (mkF m n ls (v :: st)))) : Run Z EL p e below s n0 fc fs Q (T.setTop (mkF m pc ls (.int j :: .ref a :: st))) := by
  subst hn; obtain ⟨s', L', i', j', Y, r1, hZ, hown, hml, hnm, r3, r4, hx, kN, kE, kW⟩ := X.op
  obtain ⟨c', A, s1, -⟩ := A
  obtain ⟨g1, g2⟩ := arkIn s1 hj hv
  exact K.st fun _ k => Y.caload hx (j := j) (v := v) (by rw [r1]; exact A.1) (State.isArrayOf_alike hZ.alike A.2.1) A.2.2 g1 g2 (g := mkF m pc ls (.int j :: .ref a :: st)) rfl rfl (X.dc hd) _ k
theorem baload (X : Sd kn Z a0 EL y bytes maxL ret p l e R s m args below meth c n0 sf h kc ks T) {pc n i : Nat} {ls : Array Slot} {st : List Value} {j : Int32} (hd : decode bytes pc = .ok (.baload, 1)) (A : Ark Z h a .byte vs) (hj : j.toInt = i) (hv : vs[i]? = some v) (hn : pc + 1 = n) (K : Run Z EL p e below s n0 fc fs Q (T.setTop (mkF m n ls (v :: st)))) : Run Z EL p e below s n0 fc fs Q (T.setTop (mkF m pc ls (.int j :: .ref a :: st))) := by
  subst hn; obtain ⟨s', L', i', j', Y, r1, hZ, hown, hml, hnm, r3, r4, hx, kN, kE, kW⟩ := X.op
  obtain ⟨c', A, s1, -⟩ := A
  obtain ⟨g1, g2⟩ := arkIn s1 hj hv
  exact K.st fun _ k => Y.baloadBytes hx (j := j) (v := v) (by rw [r1]; exact A.1) (State.isArrayOf_alike hZ.alike A.2.1) A.2.2 g1 g2 (g := mkF m pc ls (.int j :: .ref a :: st)) rfl rfl (X.dc hd) _ k
theorem aaload (X : Sd kn Z a0 EL y bytes maxL ret p l e R s m args below meth c n0 sf h kc ks T) {pc n i : Nat} {ls : Array Slot} {st : List Value} {j : Int32} (hd : decode bytes pc = .ok (.aaload, 1)) (A : Ark Z h a ty vs) (ht : ty.isReference = true) (hj : j.toInt = i) (hv : vs[i]? = some v) (hn : pc + 1 = n) (K : Run Z EL p e below s n0 fc fs Q (T.setTop (mkF m n ls (v :: st)))) : Run Z EL p e below s n0 fc fs Q (T.setTop (mkF m pc ls (.int j :: .ref a :: st))) := by
  subst hn; obtain ⟨s', L', i', j', Y, r1, hZ, hown, hml, hnm, r3, r4, hx, kN, kE, kW⟩ := X.op
  obtain ⟨c', A, s1, -⟩ := A
  obtain ⟨g1, g2⟩ := arkIn s1 hj hv
  exact K.st fun _ k => Y.aaload hx (j := j) (v := v) (by rw [r1]; exact A.1) (State.isArrayOf_alike hZ.alike A.2.1) ht A.2.2 g1 g2 (g := mkF m pc ls (.int j :: .ref a :: st)) rfl rfl (X.dc hd) _ k
theorem arraylength (X : Sd kn Z a0 EL y bytes maxL ret p l e R s m args below meth c n0 sf h kc ks T) {pc n : Nat} {ls : Array Slot} {st : List Value} {z : Int32} (hd : decode bytes pc = .ok (.arraylength, 1)) (A : Ark Z h a ty vs) (hz : vs.length.toInt32 = z) (hn : pc + 1 = n) (K : Run Z EL p e below s n0 fc fs Q (T.setTop (mkF m n ls (.int z :: st)))) : Run Z EL p e below s n0 fc fs Q (T.setTop (mkF m pc ls (.ref a :: st))) := by
  subst hn hz; obtain ⟨s', L', i', j', Y, r1, hZ, hown, hml, hnm, r3, r4, hx, kN, kE, kW⟩ := X.op
  obtain ⟨c', A, s1, -⟩ := A
  have e1 : c'.slots.size = vs.length := by rw [s1]; simp
  exact K.st fun _ k => Y.arraylength hx (by rw [r1]; exact A.1) (State.isArrayOf_alike hZ.alike A.2.1) (g := mkF m pc ls (.ref a :: st)) rfl rfl (X.dc hd) _ (by rw [e1]; exact k)
theorem Ark.set {c' : Cell} (A : Arr Z h a c' ty) (s1 : c'.slots = vs.toArray) (s2 : vs.length < 2147483648) (s3 : ∀ v ∈ vs, fits ty v = true) {i : Nat} (hv : fits ty v = true) (W : Wr h h' a i v) : Ark Z h' a ty (vs.set i v) := by
  refine ⟨_, A.same W, by simp [Cell.setSlot, s1], by simpa using s2, fun u hu => ?_⟩
  rcases List.mem_or_eq_of_mem_set hu with q | q
  · exact s3 u q
  · exact q ▸ hv
theorem iastore (X : Sd kn Z a0 EL y bytes maxL ret p l e R s m args below meth c n0 sf h kc ks T) {pc n i : Nat} {ls : Array Slot} {st : List Value} {j x z : Int32} (hd : decode bytes pc = .ok (.iastore, 1)) (A : Ark Z h a .int vs) (hj : j.toInt = i) (hi : i < vs.length) (hz : x = z) (hfr : n0 ≤ a) (hs : a ∈ sf) (hn : pc + 1 = n) (K : ∀ T' h', Sd kn Z a0 EL y bytes maxL ret p l e R s m args below meth c n0 sf h' kc ks T' → Wr h h' a i (.int z) → Ark Z h' a .int (vs.set i (.int z)) → Run Z EL p e below s n0 fc fs Q (T'.setTop (mkF m n ls st))) : Run Z EL p e below s n0 fc fs Q (T.setTop (mkF m pc ls (.int x :: .int j :: .ref a :: st))) := by
  subst hn hz; obtain ⟨s', L', i', j', Y, r1, hZ, hown, hml, hnm, r3, r4, hx, kN, kE, kW⟩ := X.op
  obtain ⟨c', A, s1, s2, s3⟩ := A
  obtain ⟨g1, -⟩ := arkIn s1 hj (List.getElem?_eq_getElem hi)
  obtain ⟨T', h', Y', e', W, stp⟩ := stI Y hx hZ r1 A g1 (g := mkF m pc ls (.int x :: .int j :: .ref a :: st)) rfl rfl (X.dc hd)
  rw [(toNatC hj).1] at W Y'
  exact (K T' h' (kW T' h' a i _ hs hfr Y' e' W) W (Ark.set A s1 s2 s3 rfl W)).st stp
theorem castore (X : Sd kn Z a0 EL y bytes maxL ret p l e R s m args below meth c n0 sf h kc ks T) {pc n i : Nat} {ls : Array Slot} {st : List Value} {j x z : Int32} (hd : decode bytes pc = .ok (.castore, 1)) (A : Ark Z h a .char vs) (hj : j.toInt = i) (hi : i < vs.length) (hz : (nar .char x) = z) (hfr : n0 ≤ a) (hs : a ∈ sf) (hn : pc + 1 = n) (K : ∀ T' h', Sd kn Z a0 EL y bytes maxL ret p l e R s m args below meth c n0 sf h' kc ks T' → Wr h h' a i (.int z) → Ark Z h' a .char (vs.set i (.int z)) → Run Z EL p e below s n0 fc fs Q (T'.setTop (mkF m n ls st))) : Run Z EL p e below s n0 fc fs Q (T.setTop (mkF m pc ls (.int x :: .int j :: .ref a :: st))) := by
  subst hn hz; obtain ⟨s', L', i', j', Y, r1, hZ, hown, hml, hnm, r3, r4, hx, kN, kE, kW⟩ := X.op
  obtain ⟨c', A, s1, s2, s3⟩ := A
  obtain ⟨g1, -⟩ := arkIn s1 hj (List.getElem?_eq_getElem hi)
  obtain ⟨T', h', Y', e', W, stp⟩ := stC Y hx hZ r1 A g1 (g := mkF m pc ls (.int x :: .int j :: .ref a :: st)) rfl rfl (X.dc hd)
  rw [(toNatC hj).1] at W Y'
  exact (K T' h' (kW T' h' a i _ hs hfr Y' e' W) W (Ark.set A s1 s2 s3 (fits_nar_char _) W)).st stp
theorem bastore (X : Sd kn Z a0 EL y bytes maxL ret p l e R s m args below meth c n0 sf h kc ks T) {pc n i : Nat} {ls : Array Slot} {st : List Value} {j x z : Int32} (hd : decode bytes pc = .ok (.bastore, 1)) (A : Ark Z h a .byte vs) (hj : j.toInt = i) (hi : i < vs.length) (hz : (nar .byte x) = z) (hfr : n0 ≤ a) (hs : a ∈ sf) (hn : pc + 1 = n) (K : ∀ T' h', Sd kn Z a0 EL y bytes maxL ret p l e R s m args below meth c n0 sf h' kc ks T' → Wr h h' a i (.int z) → Ark Z h' a .byte (vs.set i (.int z)) → Run Z EL p e below s n0 fc fs Q (T'.setTop (mkF m n ls st))) : Run Z EL p e below s n0 fc fs Q (T.setTop (mkF m pc ls (.int x :: .int j :: .ref a :: st))) := by
  subst hn hz; obtain ⟨s', L', i', j', Y, r1, hZ, hown, hml, hnm, r3, r4, hx, kN, kE, kW⟩ := X.op
  obtain ⟨c', A, s1, s2, s3⟩ := A
  obtain ⟨g1, -⟩ := arkIn s1 hj (List.getElem?_eq_getElem hi)
  obtain ⟨T', h', Y', e', W, stp⟩ := stB Y hx hZ r1 A g1 (g := mkF m pc ls (.int x :: .int j :: .ref a :: st)) rfl rfl (X.dc hd)
  rw [(toNatC hj).1] at W Y'
  exact (K T' h' (kW T' h' a i _ hs hfr Y' e' W) W (Ark.set A s1 s2 s3 (fits_nar_byte _) W)).st stp
theorem newarray (X : Sd kn Z a0 EL y bytes maxL ret p l e R s m args below meth c n0 sf h kc ks T) {pc n len cap : Nat} {ls : Array Slot} {st : List Value} {k : Int32} {aty : ArrayType} (hd : decode bytes pc = .ok (.newarray aty, 2)) (w : (Cond.arrayClass (newarray.typeOf aty)).before a0 Z = true) (hk : k.toInt = len) (hcap : len ≤ cap) (hb : cap * 8 ≤ 536870912) (hc : kc + 1 ≤ R.cells) (hl : ks + cap ≤ R.slots) (hn : pc + 2 = n) (K : ∀ T' h' a, a = h.size → Sd kn Z a0 EL y bytes maxL ret p l e R s m args below meth c n0 (a :: sf) h' (kc + 1) (ks + cap) T' → Ext h h' → Ark Z h' a (newarray.typeOf aty) (List.replicate len (defaultValue (newarray.typeOf aty))) → Run Z EL p e below s n0 fc fs Q (T'.setTop (mkF m n ls (.ref a :: st)))) : Run Z EL p e below s n0 fc fs Q (T.setTop (mkF m pc ls (.int k :: st))) := by
  subst hn; obtain ⟨s', L', i', j', Y, r1, hZ, hown, hml, hnm, r3, r4, hx, kN, kE, kW⟩ := X.op
  obtain ⟨g1, g2⟩ := toNatC hk
  obtain ⟨T', h', cA, Y', e', E, A, stp⟩ := newP Y hx hZ w r1 (g := mkF m pc ls (.int k :: st)) rfl (X.dc hd) rfl g2 (cap := cap) (by omega) hb (by omega) (by omega)
  have hA : Ark Z h' h.size (newarray.typeOf aty) (List.replicate len (defaultValue (newarray.typeOf aty))) := by
    refine ⟨_, A, by simp [newA, g1], by simp; omega, fun v hv => ?_⟩
    rw [List.eq_of_mem_replicate hv]; cases aty <;> rfl
  exact (K T' h' _ rfl (kE T' h' 1 cap Y' e' E hA.lt) E hA).st stp
theorem new (X : Sd kn Z a0 EL y bytes maxL ret p l e R s m args below meth c n0 sf h kc ks T) {pc n index k : Nat} {ls : Array Slot} {st : List Value} (hd : decode bytes pc = .ok (.new index, 3)) (w : (Cond.classLink y.cls index C).before a0 Z = true) (wi : (Cond.instantiable C k).before a0 Z = true) (wz : (Cond.initialized C).before a0 Z = true) (hc : kc + 1 ≤ R.cells) (hl : ks + k ≤ R.slots) (hn : pc + 3 = n) (K : ∀ T' h' a, a = h.size → Sd kn Z a0 EL y bytes maxL ret p l e R s m args below meth c n0 (a :: sf) h' (kc + 1) (ks + k) T' → Ext h h' → Exa Z h' a C → (∀ {O nm d : String} {ty : FieldType}, Laid Z a0 C O nm d → parseFieldDescriptor d = some ty → Fld Z h' a O nm d (defaultValue ty)) → Unt h' a → Run Z EL p e below s n0 fc fs Q (T'.setTop (mkF m n ls (.ref a :: st)))) : Run Z EL p e below s n0 fc fs Q (T.setTop (mkF m pc ls st)) := by
  subst hn; obtain ⟨s', L', i', j', Y, r1, hZ, hown, hml, hnm, r3, r4, hx, kN, kE, kW⟩ := X.op
  obtain ⟨T', h', Y', e', E, A, D, U, stp⟩ := newO Y hx hZ hown w wi wz r1 (g := mkF m pc ls st) rfl (X.dc hd) (by omega) (by omega)
  exact (K T' h' _ rfl (kE T' h' 1 k Y' e' E A.lt) E A D U).st stp
theorem putfield (X : Sd kn Z a0 EL y bytes maxL ret p l e R s m args below meth c n0 sf h kc ks T) {pc n index k : Nat} {ls : Array Slot} {st : List Value} {R0 O : String} {v' old : Value} (hd : decode bytes pc = .ok (.putfield index, 3)) (w : (Cond.fieldLink y.cls index R0 f d).before a0 Z = true) (via : Via Z R0 O f d) (F : Fld Z h a O f d old) (E : Exa Z h a C) (L : (Cond.lays C O f d).before a0 Z = true ∨ ((Cond.laysFinal C O f d).before a0 Z = true ∧ y.cls = O ∧ y.name = "<init>")) (wi : (Cond.instantiable C k).before a0 Z = true) (hty : parseFieldDescriptor d = some ty) (hv : narrow ty v = v') (hf : fits ty v' = true) (hfr : n0 ≤ a) (hs : a ∈ sf) (hn : pc + 3 = n) (K : ∀ T' h', Sd kn Z a0 EL y bytes maxL ret p l e R s m args below meth c n0 sf h' kc ks T' → Wr h h' a (RoadKit.slotOf Z O f d) v' → Fld Z h' a O f d v' → Run Z EL p e below s n0 fc fs Q (T'.setTop (mkF m n ls st))) : Run Z EL p e below s n0 fc fs Q (T.setTop (mkF m pc ls (v :: .ref a :: st))) := by
  subst hn; obtain ⟨s', L', i', j', Y, r1, hZ, hown, hml, hnm, r3, r4, hx, kN, kE, kW⟩ := X.op
  obtain ⟨T', h', Y', e', W, stp⟩ := putFN Y hx hZ hown w via r1 F E (L.imp id fun z => ⟨z.1, z.2.1, hnm.trans z.2.2⟩) wi hty hv hf (g := mkF m pc ls (v :: .ref a :: st)) rfl rfl (X.dc hd)
  exact (K T' h' (kW T' h' a _ _ hs hfr Y' e' W) W (F.same W)).st stp
theorem clone (X : Sd kn Z a0 EL y bytes maxL ret p l e R s m args below meth c n0 sf h kc ks T) {pc n index W cap : Nat} {ls : Array Slot} {st : List Value} {ad : String} (hd : decode bytes pc = .ok (.invokevirtual index, 3)) (w1 : (Cond.methodLink y.cls index ⟨ad, "clone", "()Ljava/lang/Object;"⟩).before a0 Z = true) (w2 : (Cond.sameMethod ad "java/lang/Object" "clone" "()Ljava/lang/Object;").before a0 Z = true) (w3 : (Cond.native ⟨"java/lang/Object", "clone", "()Ljava/lang/Object;"⟩).before a0 Z = true) (w4 : (Cond.instanceMethod ⟨"java/lang/Object", "clone", "()Ljava/lang/Object;"⟩).before a0 Z = true) (w5 : (Cond.selects ad ⟨ad, "clone", "()Ljava/lang/Object;"⟩ ⟨"java/lang/Object", "clone", "()Ljava/lang/Object;"⟩).before a0 Z = true) (w6 : (Cond.castable ad "java/lang/Cloneable").before a0 Z = true) (A : Ark Z h a ty vs) (E : Exa Z h a ad) (hsize : ls.size = maxL) (hf : 1 ≤ R.frames) (hW : (st.map fun v => v.category).sum ≤ W) (hl : W + 14 ≤ R.locals) (hcap : vs.length ≤ cap) (hc : kc + 1 ≤ R.cells) (hsl : ks + cap ≤ R.slots) (hn : pc + 3 = n) (K : ∀ T' h' b, b = h.size → Sd kn Z a0 EL y bytes maxL ret p l e R s m args below meth c n0 (b :: sf) h' (kc + 1) (ks + cap) T' → Ext h h' → Ark Z h' b ty vs → Exa Z h' b ad → Run Z EL p e below s n0 fc fs Q (T'.setTop (mkF m n ls (.ref b :: st)))) : Run Z EL p e below s n0 fc fs Q (T.setTop (mkF m pc ls (.ref a :: st))) := by
  subst hn; obtain ⟨s', L', i', j', Y, r1, hZ, hown, hml, hnm, r3, r4, hx, kN, kE, kW⟩ := X.op
  obtain ⟨c', A, s1, s2, s3⟩ := A
  have e1 : c'.slots.size = vs.length := by rw [s1]; simp
  have FC : FitC Z c' := fitC_of A fun i hi v hv => by
    rw [s1] at hv
    exact s3 v (List.mem_of_getElem? (i := i) (by simpa using hv))
  obtain ⟨T', h', Y', e', ex, A', E', stp⟩ := cloneA Y hx hZ hown w1 w2 w3 w4 w5 w6 r1 A E FC (g := mkF m pc ls (.ref a :: st)) rfl (by rw [hml]; exact hsize) rfl (X.dc hd) hf (W := W) (cap := cap) (by simpa using hW) hl (by rw [e1]; exact hcap) (by omega) (by omega)
  exact (K T' h' _ rfl (kE T' h' 1 cap Y' e' ex A'.lt) ex ⟨_, A', s1, s2, s3⟩ E').st stp
theorem ldcS (X : Sd kn Z a0 EL y bytes maxL ret p l e R s m args below meth c n0 sf h kc ks T) {pc n index nn : Nat} {ls : Array Slot} {st : List Value} {text : String} {bs : List Int32} (hd : decode bytes pc = .ok (.ldc index, 2)) (w : (Cond.stringLink y.cls index text).before a0 Z = true) (wS : ∀ a ∈ Bundle.stringAtoms, a.before a0 Z = true) (hmem : (y.cls, index) ∈ EL) (ht : (∀ c ∈ text.toList, c.toNat < 256) ∧ text.toList.map (fun c => Value.int (Jvm.Lit.byteI c.toNat.toUInt16)) = bs.map Value.int) (hlt : bs.length < 2147483648) (hn4 : 4 * text.toList.length ≤ nn) (hbig : nn ≤ 536870912) (hc : kc + 2 ≤ R.cells) (hl : ks + (nn + 4) ≤ R.slots) (hn : pc + 2 = n) (K : ∀ T' h' a b, Sd kn Z a0 EL y bytes maxL ret p l e R s m args below meth c n0 sf h' (kc + 2) (ks + (nn + 4)) T' → Ext h h' → Exa Z h' a "java/lang/String" → Fld Z h' a "java/lang/String" "coder" "B" (.int 0) → Fld Z h' a "java/lang/String" "value" "[B" (.ref b) → Ark Z h' b .byte (bs.map Value.int) → (∀ x ∈ sf, x ≠ a ∧ x ≠ b) → Run Z EL p e below s n0 fc fs Q (T'.setTop (mkF m n ls (.ref a :: st)))) : Run Z EL p e below s n0 fc fs Q (T.setTop (mkF m pc ls st)) := by
  subst hn
  have hdc := X.dc hd
  obtain ⟨vm0, k0, q, ⟨hS, hk, hE, hC, hs, hkn⟩, L, i, j, Y, r1, r2, r3, r4⟩ := X
  have hz : (bs.length.toInt32).toInt = bs.length := Int32.toInt_ofNat_small hlt
  obtain ⟨a, T', h', k1, b, k, Y', e', E, hS', hk', hZ', hown', g1, g2, g3, g4, g5, g6, hC', hL, hne, stp⟩ := ldcCH Y q.1 q.2.1 q.2.2.2.2.2.2.1 w wS r1 hS hk hE hmem hC.1 ht (z := bs.length.toInt32) (toNatC hz).2 (by rw [(toNatC hz).1]; simp) (g := mkF m pc ls st) rfl hdc hn4 hbig (by omega) (by omega)
  have hal : vm0.Alike T'.vm := by have z := hS.1.alike; have z' := hS'.1.alike; exact z.symm.trans z'
  refine (K T' h' a b ⟨T'.vm, k1, ⟨q.1, hZ', q.2.2.1, q.2.2.2.1, q.2.2.2.2.1, q.2.2.2.2.2.1, hown', q.2.2.2.2.2.2.2⟩, ⟨hS', hk', hE, hC.trans hC', fun x hx => ⟨hC'.safe (hs x hx).2 (hs x hx).1, Nat.lt_of_lt_of_le (hs x hx).2 E.1⟩, fun hh => ?_⟩, _, _, _, Y', e', r2, by omega, by omega⟩ E g1 g2 g3 (Ark.ofArv g4 (by rw [(toNatC hz).1]; simp)) (fun x hx => hne x (hC'.safe (hs x hx).2 (hs x hx).1))).st stp
  exact ⟨Vm.MethodsKnown.alikeC hal (hkn hh).1, FKalike hal (hkn hh).2⟩
theorem lenA {d : String} {ps : List FieldType} {r : Option FieldType} (hd : parseMethodDescriptor d = some ⟨ps, r⟩) {L : List Value} (hl : L.length = ps.length) : ∀ sig, parseMethodDescriptor d = some sig → L.length = sig.parameters.length := lenOf hd hl
theorem ctrBack {z : MethodName} {ybytes : ByteArray} {yL : Nat} {yret : Option FieldType} {rm : Room} {sfc : List Addr} {as : Array Value} {Qc : Option Value → Heap → List Addr → Prop} {len W : Nat} {vm0 : Vm} (hC : Ctr kn l Z EL z ybytes yL yret [] rm n0 sfc as h Qc) (hZ : Z.Warmed39 vm0) (wc : (Cond.code z ybytes yL yret).before a0 Z = true) (wz : (Cond.initialized z.cls).before a0 Z = true) (hf : rm.frames + 1 ≤ R.frames) (hl : W + (yL + 11) + rm.locals ≤ R.locals) (hEL : EW Z a0 EL) (H : CHv Z EL vm0 h) (hs : ∀ x ∈ sfc, Safe Z EL vm0 h x ∧ x < h.size) (hkn : kn → vm0.MethodsKnown ∧ vm0.FramesKnown below) :
    BackS l R p e below (s.setVm vm0) args z len W (fun A a => a = as ∧ A.U.heap = h ∧ A.cells + rm.cells ≤ R.cells ∧ A.slots + rm.slots ≤ R.slots) (fun A _ v B => ∃ L, (∃ sfn, Qc v B.U.heap sfn ∧ (∀ x ∈ sfn, Safe Z EL B.U.vm B.U.heap x ∧ x < B.U.heap.size) ∧ Fr n0 L) ∧ B.locs = A.locs ++ L ∧ B.cells = A.cells + rm.cells ∧ B.slots = A.slots + rm.slots ∧ CHr Z EL vm0 h B.U.vm B.U.heap) :=
  BackS.of_freeWG (bytes := ybytes) (maxL := yL) (ret := yret) (E := fun _ first o t L k n => k = rm.cells ∧ n = rm.slots ∧ (∃ v, o = .returned v ∧ ∃ sfn, Qc v t.heap sfn ∧ (∀ x ∈ sfn, Safe Z EL t.vm t.heap x ∧ x < t.heap.size) ∧ Fr n0 L) ∧ CHr Z EL first.vm first.heap t.vm t.heap) hC hf hl
    (fun m meth c A a Y hp => have hU : Z.Warmed39 A.U.vm := wtrans (s := s.setVm vm0) hZ Y.warmed
      ⟨by show (Cond.and _ .tt).before a A.U = true; rw [Cond.before_and, mv hU wc]; rfl, mv hU wc, mv hU wz, hp.2.2.1, hp.2.2.2⟩)
    (fun m meth c A a g mk Y hp => have hA := CHv.at Y hZ hEL H
      ⟨hp.1, wtrans (s := s.setVm vm0) hZ Y.warmed, hp.2.1, hA.1, fun x hx => ⟨hA.safe (hs x hx).2 (hs x hx).1, (hs x hx).2⟩⟩)
    (fun m meth c A a g mk Y _ hg hh => known_frames Y hg (hkn hh).1 (hkn hh).2)
    (fun _ _ _ _ ⟨v, L, h1, h2, h3, h4⟩ => ⟨L, _, _, h4, rfl, rfl, ⟨v, h1, h2⟩, h3⟩)
    (fun m meth c A a g mk v t L k n Y hp _ _ ⟨e1, e2, ⟨v', e3, e4⟩, e5⟩ => by
      cases e3; subst e1 e2
      refine ⟨L, e4, rfl, rfl, rfl, (CHv.at Y hZ hEL H).trans ?_⟩
      rw [← hp.2.1]; exact e5)
theorem call_static (X : Sd kn Z a0 EL y bytes maxL ret p l e R s m args below meth c n0 sf h kc ks T) {rm : Room} {ybytes : ByteArray} {yL : Nat} {yret : Option FieldType} {z : MethodName} {sfc : List Addr} {Qc : Option Value → Heap → List Addr → Prop} {pc n index W : Nat} {ls : Array Slot} {st rest argsL : List Value} (hd : decode bytes pc = .ok (.invokestatic index, 3)) (w1 : (Cond.methodLink y.cls index z).before a0 Z = true) (w2 : (Cond.static z).before a0 Z = true) (wc : (Cond.code z ybytes yL yret).before a0 Z = true) (wi : (Cond.initialized z.cls).before a0 Z = true) (hy : z.cls ≠ "java/lang/invoke/MethodHandle" ∧ z.cls ≠ "java/lang/invoke/VarHandle") (hC : Ctr kn l Z EL z ybytes yL yret [] rm n0 sfc argsL.toArray h Qc) (hsf : ∀ x ∈ sfc, x ∈ sf) (hst : st = argsL.reverse ++ rest) (hsize : ls.size = maxL) (hlen : ∀ sig, parseMethodDescriptor z.desc = some sig → argsL.length = sig.parameters.length) (hW : (rest.map fun v => v.category).sum ≤ W) (hfr : rm.frames + 1 ≤ R.frames) (hlo : W + (yL + 11) + rm.locals ≤ R.locals) (hce : kc + rm.cells ≤ R.cells) (hsl : ks + rm.slots ≤ R.slots) (hn : pc + 3 = n) (K : ∀ T' h' v sfn, h.size ≤ h'.size → Sd kn Z a0 EL y bytes maxL ret p l e R s m args below meth c n0 (sf ++ sfn) h' (kc + rm.cells) (ks + rm.slots) T' → Qc v h' sfn → Run Z EL p e below s n0 fc fs Q (T'.setTop (mkF m n ls (v.toList ++ rest)))) : Run Z EL p e below s n0 fc fs Q (T.setTop (mkF m pc ls st)) := by
  subst hn hst
  have hdc := X.dc hd
  obtain ⟨vm0, k0, q, ⟨hS, hk, hE, hCr, hs, hkn⟩, L, i, j, Y, r1, r2, r3, r4⟩ := X
  have hB := ctrBack (W := W) (R := R) (p := p) (e := e) (s := s) (below := below) (args := args) (len := 3) (vm0 := vm0) hC q.2.1 wc wi hfr hlo hE hCr.1 (fun x hx => hs x (hsf x hx)) hkn
  have hZ : Z.Warmed39 (s.setVm vm0).vm := q.2.1
  have hown : (s.setVm vm0).vm.findClass y.cls = some m.cls := q.2.2.2.2.2.2.1
  obtain ⟨v, vm₁, ⟨T', L', k', n'⟩, -, Y', S', g', ⟨Lc, hQ, l', y', z', C'⟩, stp⟩ := callSS Y q.1 (y := z) hown (mvT hZ w1) (mvT hZ w2) (mvT hZ wi) (mvT hZ wc) hy hB (g := mkF m pc ls (argsL.reverse ++ rest)) rfl (by rw [q.2.2.2.1]; exact hsize) (argsL := argsL) (rest := rest) hlen rfl (by simpa using hW) hdc (fun _ _ => ⟨rfl, r1, by dsimp only [Pt.cells]; omega, by dsimp only [Pt.slots]; omega⟩)
  dsimp only [Pt.U, Pt.locs, Pt.cells, Pt.slots] at Y' l' y' z' stp hQ S' g' C'
  obtain ⟨sfn, hQ1, hQs, hQ2⟩ := hQ
  subst l' y' z'
  obtain ⟨Y2, S2, Z2, O2⟩ := rebS hS hk Y' S' (by rw [← r1]; exact g') hZ hown
  have hal : vm0.Alike T'.vm := S'.1.alike
  refine (K T' T'.heap v sfn (by rw [← r1]; exact g') ⟨T'.vm, T'.heap.size, ⟨q.1, Z2, q.2.2.1, q.2.2.2.1, q.2.2.2.2.1, q.2.2.2.2.2.1, O2, q.2.2.2.2.2.2.2⟩, ⟨S2, Nat.le_refl _, hE, hCr.trans C', ?_, fun hh => ⟨Vm.MethodsKnown.alikeC hal (hkn hh).1, FKalike hal (hkn hh).2⟩⟩, _, _, _, Y2, rfl, Fr.app r2 hQ2, by omega, by omega⟩ hQ1).st fun t k => stp.trans k
  intro x hx
  rcases List.mem_append.mp hx with hx | hx
  · exact ⟨C'.safe (hs x hx).2 (hs x hx).1, Nat.lt_of_lt_of_le (hs x hx).2 (by rw [← r1]; exact g')⟩
  · exact hQs x hx
theorem call_static_v (X : Sd kn Z a0 EL y bytes maxL ret p l e R s m args below meth c n0 sf h kc ks T) {rm : Room} {ybytes : ByteArray} {yL : Nat} {yret : Option FieldType} {z : MethodName} {sfc : List Addr} {Qv : Value → Heap → List Addr → Prop} {pc n index W : Nat} {ls : Array Slot} {st rest argsL : List Value} (hd : decode bytes pc = .ok (.invokestatic index, 3)) (w1 : (Cond.methodLink y.cls index z).before a0 Z = true) (w2 : (Cond.static z).before a0 Z = true) (wc : (Cond.code z ybytes yL yret).before a0 Z = true) (wi : (Cond.initialized z.cls).before a0 Z = true) (hy : z.cls ≠ "java/lang/invoke/MethodHandle" ∧ z.cls ≠ "java/lang/invoke/VarHandle") (hC : Ctr kn l Z EL z ybytes yL yret [] rm n0 sfc argsL.toArray h (Rt Qv)) (hsf : ∀ x ∈ sfc, x ∈ sf) (hst : st = argsL.reverse ++ rest) (hsize : ls.size = maxL) (hlen : ∀ sig, parseMethodDescriptor z.desc = some sig → argsL.length = sig.parameters.length) (hW : (rest.map fun v => v.category).sum ≤ W) (hfr : rm.frames + 1 ≤ R.frames) (hlo : W + (yL + 11) + rm.locals ≤ R.locals) (hce : kc + rm.cells ≤ R.cells) (hsl : ks + rm.slots ≤ R.slots) (hn : pc + 3 = n) (K : ∀ T' h' w sfn, h.size ≤ h'.size → Sd kn Z a0 EL y bytes maxL ret p l e R s m args below meth c n0 (sf ++ sfn) h' (kc + rm.cells) (ks + rm.slots) T' → Qv w h' sfn → Run Z EL p e below s n0 fc fs Q (T'.setTop (mkF m n ls (w :: rest)))) : Run Z EL p e below s n0 fc fs Q (T.setTop (mkF m pc ls st)) :=
  call_static X hd w1 w2 wc wi hy hC hsf hst hsize hlen hW hfr hlo hce hsl hn fun T' h' v g hh X' q => by obtain ⟨w, rfl, q⟩ := q; exact K T' h' w g hh X' q
theorem call_static_n (X : Sd kn Z a0 EL y bytes maxL ret p l e R s m args below meth c n0 sf h kc ks T) {rm : Room} {ybytes : ByteArray} {yL : Nat} {yret : Option FieldType} {z : MethodName} {sfc : List Addr} {Qn : Heap → List Addr → Prop} {pc n index W : Nat} {ls : Array Slot} {st rest argsL : List Value} (hd : decode bytes pc = .ok (.invokestatic index, 3)) (w1 : (Cond.methodLink y.cls index z).before a0 Z = true) (w2 : (Cond.static z).before a0 Z = true) (wc : (Cond.code z ybytes yL yret).before a0 Z = true) (wi : (Cond.initialized z.cls).before a0 Z = true) (hy : z.cls ≠ "java/lang/invoke/MethodHandle" ∧ z.cls ≠ "java/lang/invoke/VarHandle") (hC : Ctr kn l Z EL z ybytes yL yret [] rm n0 sfc argsL.toArray h (Rn Qn)) (hsf : ∀ x ∈ sfc, x ∈ sf) (hst : st = argsL.reverse ++ rest) (hsize : ls.size = maxL) (hlen : ∀ sig, parseMethodDescriptor z.desc = some sig → argsL.length = sig.parameters.length) (hW : (rest.map fun v => v.category).sum ≤ W) (hfr : rm.frames + 1 ≤ R.frames) (hlo : W + (yL + 11) + rm.locals ≤ R.locals) (hce : kc + rm.cells ≤ R.cells) (hsl : ks + rm.slots ≤ R.slots) (hn : pc + 3 = n) (K : ∀ T' h' sfn, h.size ≤ h'.size → Sd kn Z a0 EL y bytes maxL ret p l e R s m args below meth c n0 (sf ++ sfn) h' (kc + rm.cells) (ks + rm.slots) T' → Qn h' sfn → Run Z EL p e below s n0 fc fs Q (T'.setTop (mkF m n ls rest))) : Run Z EL p e below s n0 fc fs Q (T.setTop (mkF m pc ls st)) :=
  call_static X hd w1 w2 wc wi hy hC hsf hst hsize hlen hW hfr hlo hce hsl hn fun T' h' v g hh X' q => by obtain ⟨rfl, q⟩ := q; exact K T' h' g hh X' q
theorem call_virtual (X : Sd kn Z a0 EL y bytes maxL ret p l e R s m args below meth c n0 sf h kc ks T) {rm : Room} {ybytes : ByteArray} {yL : Nat} {yret : Option FieldType} {z : MethodName} {sfc : List Addr} {Qc : Option Value → Heap → List Addr → Prop} {pc n index W : Nat} {ls : Array Slot} {st rest argsL : List Value} {a : Addr} {C : String} {yv : MethodName} (hd : decode bytes pc = .ok (.invokevirtual index, 3)) (w1 : (Cond.methodLink y.cls index yv).before a0 Z = true) (w2 : (Cond.declares yv).before a0 Z = true) (w3 : (Cond.instanceMethod z).before a0 Z = true) (w4 : (Cond.selects C yv z).before a0 Z = true) (hnf : ∀ {s' : State}, Z.Warmed39 s'.vm → NotFace s' yv) (wc : (Cond.code z ybytes yL yret).before a0 Z = true) (wi : (Cond.initialized z.cls).before a0 Z = true) (hy : yv.cls ≠ "java/lang/invoke/MethodHandle" ∧ yv.cls ≠ "java/lang/invoke/VarHandle") (E : Exa Z h a C) (hC : Ctr kn l Z EL z ybytes yL yret [] rm n0 sfc (.ref a :: argsL).toArray h Qc) (hsf : ∀ x ∈ sfc, x ∈ sf) (hst : st = argsL.reverse ++ .ref a :: rest) (hsize : ls.size = maxL) (hlen : ∀ sig, parseMethodDescriptor yv.desc = some sig → argsL.length = sig.parameters.length) (hW : (rest.map fun v => v.category).sum ≤ W) (hfr : rm.frames + 1 ≤ R.frames) (hlo : W + (yL + 11) + rm.locals ≤ R.locals) (hce : kc + rm.cells ≤ R.cells) (hsl : ks + rm.slots ≤ R.slots) (hn : pc + 3 = n) (K : ∀ T' h' v sfn, h.size ≤ h'.size → Sd kn Z a0 EL y bytes maxL ret p l e R s m args below meth c n0 (sf ++ sfn) h' (kc + rm.cells) (ks + rm.slots) T' → Qc v h' sfn → Run Z EL p e below s n0 fc fs Q (T'.setTop (mkF m n ls (v.toList ++ rest)))) : Run Z EL p e below s n0 fc fs Q (T.setTop (mkF m pc ls st)) := by
  subst hn hst
  have hdc := X.dc hd
  obtain ⟨vm0, k0, q, ⟨hS, hk, hE, hCr, hs, hkn⟩, L, i, j, Y, r1, r2, r3, r4⟩ := X
  have hB := ctrBack (W := W) (R := R) (p := p) (e := e) (s := s) (below := below) (args := args) (len := 3) (vm0 := vm0) hC q.2.1 wc wi hfr hlo hE hCr.1 (fun x hx => hs x (hsf x hx)) hkn
  have hZ : Z.Warmed39 (s.setVm vm0).vm := q.2.1
  have hown : (s.setVm vm0).vm.findClass y.cls = some m.cls := q.2.2.2.2.2.2.1
  obtain ⟨cq, kq, qa, qb, qc⟩ := isOf (T := T) hZ r1 E
  obtain ⟨v, vm₁, ⟨T', L', k', n'⟩, -, Y', S', g', ⟨Lc, hQ, l', y', z', C'⟩, stp⟩ := Y.virtualBackS q.1 (y := yv) (z := z) hown (mvT hZ w1) (mvT hZ w2) (hnf hZ) (mvT hZ w4) (mvT hZ w3) hy hB qa qc (g := mkF m pc ls (argsL.reverse ++ .ref a :: rest)) rfl (by rw [q.2.2.2.1]; exact hsize) (Steps.refl _) (argsL := argsL) (rest := rest) hlen rfl (by simpa using hW) hdc (fun _ _ => ⟨rfl, r1, by dsimp only [Pt.cells]; omega, by dsimp only [Pt.slots]; omega⟩)
  dsimp only [Pt.U, Pt.locs, Pt.cells, Pt.slots] at Y' l' y' z' stp hQ S' g' C'
  obtain ⟨sfn, hQ1, hQs, hQ2⟩ := hQ
  subst l' y' z'
  obtain ⟨Y2, S2, Z2, O2⟩ := rebS hS hk Y' S' (by rw [← r1]; exact g') hZ hown
  have hal : vm0.Alike T'.vm := S'.1.alike
  refine (K T' T'.heap v sfn (by rw [← r1]; exact g') ⟨T'.vm, T'.heap.size, ⟨q.1, Z2, q.2.2.1, q.2.2.2.1, q.2.2.2.2.1, q.2.2.2.2.2.1, O2, q.2.2.2.2.2.2.2⟩, ⟨S2, Nat.le_refl _, hE, hCr.trans C', ?_, fun hh => ⟨Vm.MethodsKnown.alikeC hal (hkn hh).1, FKalike hal (hkn hh).2⟩⟩, _, _, _, Y2, rfl, Fr.app r2 hQ2, by omega, by omega⟩ hQ1).st fun t k => stp.trans k
  intro x hx
  rcases List.mem_append.mp hx with hx | hx
  · exact ⟨C'.safe (hs x hx).2 (hs x hx).1, Nat.lt_of_lt_of_le (hs x hx).2 (by rw [← r1]; exact g')⟩
  · exact hQs x hx
theorem call_virtual_v (X : Sd kn Z a0 EL y bytes maxL ret p l e R s m args below meth c n0 sf h kc ks T) {rm : Room} {ybytes : ByteArray} {yL : Nat} {yret : Option FieldType} {z : MethodName} {sfc : List Addr} {Qv : Value → Heap → List Addr → Prop} {pc n index W : Nat} {ls : Array Slot} {st rest argsL : List Value} {a : Addr} {C : String} {yv : MethodName} (hd : decode bytes pc = .ok (.invokevirtual index, 3)) (w1 : (Cond.methodLink y.cls index yv).before a0 Z = true) (w2 : (Cond.declares yv).before a0 Z = true) (w3 : (Cond.instanceMethod z).before a0 Z = true) (w4 : (Cond.selects C yv z).before a0 Z = true) (hnf : ∀ {s' : State}, Z.Warmed39 s'.vm → NotFace s' yv) (wc : (Cond.code z ybytes yL yret).before a0 Z = true) (wi : (Cond.initialized z.cls).before a0 Z = true) (hy : yv.cls ≠ "java/lang/invoke/MethodHandle" ∧ yv.cls ≠ "java/lang/invoke/VarHandle") (E : Exa Z h a C) (hC : Ctr kn l Z EL z ybytes yL yret [] rm n0 sfc (.ref a :: argsL).toArray h (Rt Qv)) (hsf : ∀ x ∈ sfc, x ∈ sf) (hst : st = argsL.reverse ++ .ref a :: rest) (hsize : ls.size = maxL) (hlen : ∀ sig, parseMethodDescriptor yv.desc = some sig → argsL.length = sig.parameters.length) (hW : (rest.map fun v => v.category).sum ≤ W) (hfr : rm.frames + 1 ≤ R.frames) (hlo : W + (yL + 11) + rm.locals ≤ R.locals) (hce : kc + rm.cells ≤ R.cells) (hsl : ks + rm.slots ≤ R.slots) (hn : pc + 3 = n) (K : ∀ T' h' w sfn, h.size ≤ h'.size → Sd kn Z a0 EL y bytes maxL ret p l e R s m args below meth c n0 (sf ++ sfn) h' (kc + rm.cells) (ks + rm.slots) T' → Qv w h' sfn → Run Z EL p e below s n0 fc fs Q (T'.setTop (mkF m n ls (w :: rest)))) : Run Z EL p e below s n0 fc fs Q (T.setTop (mkF m pc ls st)) :=
  call_virtual X hd w1 w2 w3 w4 hnf wc wi hy E hC hsf hst hsize hlen hW hfr hlo hce hsl hn fun T' h' v g hh X' q => by obtain ⟨w, rfl, q⟩ := q; exact K T' h' w g hh X' q
theorem call_virtual_n (X : Sd kn Z a0 EL y bytes maxL ret p l e R s m args below meth c n0 sf h kc ks T) {rm : Room} {ybytes : ByteArray} {yL : Nat} {yret : Option FieldType} {z : MethodName} {sfc : List Addr} {Qn : Heap → List Addr → Prop} {pc n index W : Nat} {ls : Array Slot} {st rest argsL : List Value} {a : Addr} {C : String} {yv : MethodName} (hd : decode bytes pc = .ok (.invokevirtual index, 3)) (w1 : (Cond.methodLink y.cls index yv).before a0 Z = true) (w2 : (Cond.declares yv).before a0 Z = true) (w3 : (Cond.instanceMethod z).before a0 Z = true) (w4 : (Cond.selects C yv z).before a0 Z = true) (hnf : ∀ {s' : State}, Z.Warmed39 s'.vm → NotFace s' yv) (wc : (Cond.code z ybytes yL yret).before a0 Z = true) (wi : (Cond.initialized z.cls).before a0 Z = true) (hy : yv.cls ≠ "java/lang/invoke/MethodHandle" ∧ yv.cls ≠ "java/lang/invoke/VarHandle") (E : Exa Z h a C) (hC : Ctr kn l Z EL z ybytes yL yret [] rm n0 sfc (.ref a :: argsL).toArray h (Rn Qn)) (hsf : ∀ x ∈ sfc, x ∈ sf) (hst : st = argsL.reverse ++ .ref a :: rest) (hsize : ls.size = maxL) (hlen : ∀ sig, parseMethodDescriptor yv.desc = some sig → argsL.length = sig.parameters.length) (hW : (rest.map fun v => v.category).sum ≤ W) (hfr : rm.frames + 1 ≤ R.frames) (hlo : W + (yL + 11) + rm.locals ≤ R.locals) (hce : kc + rm.cells ≤ R.cells) (hsl : ks + rm.slots ≤ R.slots) (hn : pc + 3 = n) (K : ∀ T' h' sfn, h.size ≤ h'.size → Sd kn Z a0 EL y bytes maxL ret p l e R s m args below meth c n0 (sf ++ sfn) h' (kc + rm.cells) (ks + rm.slots) T' → Qn h' sfn → Run Z EL p e below s n0 fc fs Q (T'.setTop (mkF m n ls rest))) : Run Z EL p e below s n0 fc fs Q (T.setTop (mkF m pc ls st)) :=
  call_virtual X hd w1 w2 w3 w4 hnf wc wi hy E hC hsf hst hsize hlen hW hfr hlo hce hsl hn fun T' h' v g hh X' q => by obtain ⟨rfl, q⟩ := q; exact K T' h' g hh X' q
theorem call_special (X : Sd kn Z a0 EL y bytes maxL ret p l e R s m args below meth c n0 sf h kc ks T) {rm : Room} {ybytes : ByteArray} {yL : Nat} {yret : Option FieldType} {z : MethodName} {sfc : List Addr} {Qc : Option Value → Heap → List Addr → Prop} {pc n index W : Nat} {ls : Array Slot} {st rest argsL : List Value} {a : Addr} (hd : decode bytes pc = .ok (.invokespecial index, 3)) (w1 : (Cond.methodLink y.cls index z).before a0 Z = true) (w2 : (Cond.instanceMethod z).before a0 Z = true) (wc : (Cond.code z ybytes yL yret).before a0 Z = true) (wi : (Cond.initialized z.cls).before a0 Z = true) (hz : z.name = "<init>") (hr : yret = none) (hy : z.cls ≠ "java/lang/invoke/MethodHandle" ∧ z.cls ≠ "java/lang/invoke/VarHandle") (hC : Ctr kn l Z EL z ybytes yL yret [] rm n0 sfc (.ref a :: argsL).toArray h Qc) (hsf : ∀ x ∈ sfc, x ∈ sf) (hst : st = argsL.reverse ++ .ref a :: rest) (hsize : ls.size = maxL) (hlen : ∀ sig, parseMethodDescriptor z.desc = some sig → argsL.length = sig.parameters.length) (hW : (rest.map fun v => v.category).sum ≤ W) (hfr : rm.frames + 1 ≤ R.frames) (hlo : W + (yL + 11) + rm.locals ≤ R.locals) (hce : kc + rm.cells ≤ R.cells) (hsl : ks + rm.slots ≤ R.slots) (hn : pc + 3 = n) (K : ∀ T' h' v sfn, h.size ≤ h'.size → Sd kn Z a0 EL y bytes maxL ret p l e R s m args below meth c n0 (sf ++ sfn) h' (kc + rm.cells) (ks + rm.slots) T' → Qc v h' sfn → Run Z EL p e below s n0 fc fs Q (T'.setTop (mkF m n ls (v.toList ++ rest)))) : Run Z EL p e below s n0 fc fs Q (T.setTop (mkF m pc ls st)) := by
  subst hn hst
  have hdc := X.dc hd
  obtain ⟨vm0, k0, q, ⟨hS, hk, hE, hCr, hs, hkn⟩, L, i, j, Y, r1, r2, r3, r4⟩ := X
  have hB := ctrBack (W := W) (R := R) (p := p) (e := e) (s := s) (below := below) (args := args) (len := 3) (vm0 := vm0) hC q.2.1 wc wi hfr hlo hE hCr.1 (fun x hx => hs x (hsf x hx)) hkn
  have hZ : Z.Warmed39 (s.setVm vm0).vm := q.2.1
  have hown : (s.setVm vm0).vm.findClass y.cls = some m.cls := q.2.2.2.2.2.2.1
  obtain ⟨v, vm₁, ⟨T', L', k', n'⟩, -, Y', S', g', ⟨Lc, hQ, l', y', z', C'⟩, stp⟩ := Y.specialBackS q.1 (y := z) hz hown (mvT hZ w1) (mvT hZ w2) (mvT hZ (hr ▸ wc)) hy hB (g := mkF m pc ls (argsL.reverse ++ .ref a :: rest)) rfl (by rw [q.2.2.2.1]; exact hsize) (Steps.refl _) (a := a) (argsL := argsL) (rest := rest) hlen rfl (by simpa using hW) hdc (fun _ _ => ⟨rfl, r1, by dsimp only [Pt.cells]; omega, by dsimp only [Pt.slots]; omega⟩)
  dsimp only [Pt.U, Pt.locs, Pt.cells, Pt.slots] at Y' l' y' z' stp hQ S' g' C'
  obtain ⟨sfn, hQ1, hQs, hQ2⟩ := hQ
  subst l' y' z'
  obtain ⟨Y2, S2, Z2, O2⟩ := rebS hS hk Y' S' (by rw [← r1]; exact g') hZ hown
  have hal : vm0.Alike T'.vm := S'.1.alike
  refine (K T' T'.heap v sfn (by rw [← r1]; exact g') ⟨T'.vm, T'.heap.size, ⟨q.1, Z2, q.2.2.1, q.2.2.2.1, q.2.2.2.2.1, q.2.2.2.2.2.1, O2, q.2.2.2.2.2.2.2⟩, ⟨S2, Nat.le_refl _, hE, hCr.trans C', ?_, fun hh => ⟨Vm.MethodsKnown.alikeC hal (hkn hh).1, FKalike hal (hkn hh).2⟩⟩, _, _, _, Y2, rfl, Fr.app r2 hQ2, by omega, by omega⟩ hQ1).st fun t k => stp.trans k
  intro x hx
  rcases List.mem_append.mp hx with hx | hx
  · exact ⟨C'.safe (hs x hx).2 (hs x hx).1, Nat.lt_of_lt_of_le (hs x hx).2 (by rw [← r1]; exact g')⟩
  · exact hQs x hx
theorem call_special_v (X : Sd kn Z a0 EL y bytes maxL ret p l e R s m args below meth c n0 sf h kc ks T) {rm : Room} {ybytes : ByteArray} {yL : Nat} {yret : Option FieldType} {z : MethodName} {sfc : List Addr} {Qv : Value → Heap → List Addr → Prop} {pc n index W : Nat} {ls : Array Slot} {st rest argsL : List Value} {a : Addr} (hd : decode bytes pc = .ok (.invokespecial index, 3)) (w1 : (Cond.methodLink y.cls index z).before a0 Z = true) (w2 : (Cond.instanceMethod z).before a0 Z = true) (wc : (Cond.code z ybytes yL yret).before a0 Z = true) (wi : (Cond.initialized z.cls).before a0 Z = true) (hz : z.name = "<init>") (hr : yret = none) (hy : z.cls ≠ "java/lang/invoke/MethodHandle" ∧ z.cls ≠ "java/lang/invoke/VarHandle") (hC : Ctr kn l Z EL z ybytes yL yret [] rm n0 sfc (.ref a :: argsL).toArray h (Rt Qv)) (hsf : ∀ x ∈ sfc, x ∈ sf) (hst : st = argsL.reverse ++ .ref a :: rest) (hsize : ls.size = maxL) (hlen : ∀ sig, parseMethodDescriptor z.desc = some sig → argsL.length = sig.parameters.length) (hW : (rest.map fun v => v.category).sum ≤ W) (hfr : rm.frames + 1 ≤ R.frames) (hlo : W + (yL + 11) + rm.locals ≤ R.locals) (hce : kc + rm.cells ≤ R.cells) (hsl : ks + rm.slots ≤ R.slots) (hn : pc + 3 = n) (K : ∀ T' h' w sfn, h.size ≤ h'.size → Sd kn Z a0 EL y bytes maxL ret p l e R s m args below meth c n0 (sf ++ sfn) h' (kc + rm.cells) (ks + rm.slots) T' → Qv w h' sfn → Run Z EL p e below s n0 fc fs Q (T'.setTop (mkF m n ls (w :: rest)))) : Run Z EL p e below s n0 fc fs Q (T.setTop (mkF m pc ls st)) :=
  call_special X hd w1 w2 wc wi hz hr hy hC hsf hst hsize hlen hW hfr hlo hce hsl hn fun T' h' v g hh X' q => by obtain ⟨w, rfl, q⟩ := q; exact K T' h' w g hh X' q
theorem call_special_n (X : Sd kn Z a0 EL y bytes maxL ret p l e R s m args below meth c n0 sf h kc ks T) {rm : Room} {ybytes : ByteArray} {yL : Nat} {yret : Option FieldType} {z : MethodName} {sfc : List Addr} {Qn : Heap → List Addr → Prop} {pc n index W : Nat} {ls : Array Slot} {st rest argsL : List Value} {a : Addr} (hd : decode bytes pc = .ok (.invokespecial index, 3)) (w1 : (Cond.methodLink y.cls index z).before a0 Z = true) (w2 : (Cond.instanceMethod z).before a0 Z = true) (wc : (Cond.code z ybytes yL yret).before a0 Z = true) (wi : (Cond.initialized z.cls).before a0 Z = true) (hz : z.name = "<init>") (hr : yret = none) (hy : z.cls ≠ "java/lang/invoke/MethodHandle" ∧ z.cls ≠ "java/lang/invoke/VarHandle") (hC : Ctr kn l Z EL z ybytes yL yret [] rm n0 sfc (.ref a :: argsL).toArray h (Rn Qn)) (hsf : ∀ x ∈ sfc, x ∈ sf) (hst : st = argsL.reverse ++ .ref a :: rest) (hsize : ls.size = maxL) (hlen : ∀ sig, parseMethodDescriptor z.desc = some sig → argsL.length = sig.parameters.length) (hW : (rest.map fun v => v.category).sum ≤ W) (hfr : rm.frames + 1 ≤ R.frames) (hlo : W + (yL + 11) + rm.locals ≤ R.locals) (hce : kc + rm.cells ≤ R.cells) (hsl : ks + rm.slots ≤ R.slots) (hn : pc + 3 = n) (K : ∀ T' h' sfn, h.size ≤ h'.size → Sd kn Z a0 EL y bytes maxL ret p l e R s m args below meth c n0 (sf ++ sfn) h' (kc + rm.cells) (ks + rm.slots) T' → Qn h' sfn → Run Z EL p e below s n0 fc fs Q (T'.setTop (mkF m n ls rest))) : Run Z EL p e below s n0 fc fs Q (T.setTop (mkF m pc ls st)) :=
  call_special X hd w1 w2 wc wi hz hr hy hC hsf hst hsize hlen hW hfr hlo hce hsl hn fun T' h' v g hh X' q => by obtain ⟨rfl, q⟩ := q; exact K T' h' g hh X' q
theorem joinT (X : Sd kn Z a0 EL y bytes maxL ret p l e R s m args below meth c n0 sf h kc ks T) {α : Type} (P : α → Prop) (f : α → JFrame) {t : State} (J : ∀ T' v, Sd kn Z a0 EL y bytes maxL ret p l e R s m args below meth c n0 sf h kc ks T' → P v → Run Z EL p e below s n0 fc fs Q (T'.setTop (f v))) (K : (∀ T' v, Sd kn Z a0 EL y bytes maxL ret p l e R s m args below meth c n0 sf h kc ks T' → P v → Run Z EL p e below s n0 fc fs Q (T'.setTop (f v))) → Run Z EL p e below s n0 fc fs Q t) : Run Z EL p e below s n0 fc fs Q t := K J
theorem joinH (X : Sd kn Z a0 EL y bytes maxL ret p l e R s m args below meth c n0 sf h kc ks T) (kc' ks' : Nat) {α : Type} (P : α → Heap → List Addr → Prop) (f : α → JFrame) {t : State} (J : ∀ T' h' sf' v, Sd kn Z a0 EL y bytes maxL ret p l e R s m args below meth c n0 sf' h' kc' ks' T' → P v h' sf' → Run Z EL p e below s n0 fc fs Q (T'.setTop (f v))) (K : (∀ T' h' sf' v, Sd kn Z a0 EL y bytes maxL ret p l e R s m args below meth c n0 sf' h' kc' ks' T' → P v h' sf' → Run Z EL p e below s n0 fc fs Q (T'.setTop (f v))) → Run Z EL p e below s n0 fc fs Q t) : Run Z EL p e below s n0 fc fs Q t := K J
theorem loopT (X : Sd kn Z a0 EL y bytes maxL ret p l e R s m args below meth c n0 sf h kc ks T) {α : Type} (P : α → Heap → Prop) (mu : α → Nat) (f : α → JFrame) (J : ∀ T' h' v, Sd kn Z a0 EL y bytes maxL ret p l e R s m args below meth c n0 sf h' kc ks T' → P v h' → (∀ T'' h'' v', mu v' < mu v → Sd kn Z a0 EL y bytes maxL ret p l e R s m args below meth c n0 sf h'' kc ks T'' → P v' h'' → Run Z EL p e below s n0 fc fs Q (T''.setTop (f v'))) → Run Z EL p e below s n0 fc fs Q (T'.setTop (f v))) : ∀ T' h' v, Sd kn Z a0 EL y bytes maxL ret p l e R s m args below meth c n0 sf h' kc ks T' → P v h' → Run Z EL p e below s n0 fc fs Q (T'.setTop (f v)) := by
  have key : ∀ n T' h' v, mu v = n → Sd kn Z a0 EL y bytes maxL ret p l e R s m args below meth c n0 sf h' kc ks T' → P v h' → Run Z EL p e below s n0 fc fs Q (T'.setTop (f v)) := by
    intro n
    induction n using Nat.strongRecOn with
    | ind n ih =>
      intro T' h' v hm X' hP
      exact J T' h' v X' hP fun T'' h'' v' hlt X'' hP'' => ih (mu v') (hm ▸ hlt) T'' h'' v' rfl X'' hP''
  intro T' h' v X' hP
  exact key _ T' h' v rfl X' hP
theorem eqI_v {args : Array Value} {first s : State} {o : Option Outcome} {idx : List Nat} {t : Term} {z : Int32} (h : (Jvm.Cond.eq t (Term.int z)).value args first o s idx = some true) : t.eval args first o idx s = some (.int z) := by
  simp only [Jvm.Cond.value, Term.eval] at h
  cases ht : t.eval args first o idx s with
  | none => simp [ht] at h
  | some x => cases x <;> simp [ht] at h ⊢; exact h
theorem lenOfTerm {args : Array Value} {first s : State} {o : Option Outcome} {idx : List Nat} {t : Term} {k : Int32} {a : Addr} {cl : Cell} {n : Nat} (hh : (Term.length t).eval args first o idx s = some (.int k)) (ht : t.eval args first o idx s = some (.ref a)) (hc : s.heap[a]? = some cl) (hk : k.toInt = n) : cl.slots.size = n := by
  simp only [Term.eval, ht, Option.bind_eq_bind, Option.bind_some] at hh
  obtain ⟨c2, h1, h2⟩ := Option.bind_eq_some_iff.mp hh
  have h3 := (State.arrayAt?_spec h1).1
  cases hc.symm.trans h3
  by_cases q : cl.slots.size < 2 ^ 31
  · simp only [q, if_true, Option.pure_def, Option.some.injEq, Value.int.injEq] at h2
    have h4 : (cl.slots.size.toInt32).toInt = cl.slots.size := Int32.toInt_ofNat_small q
    rw [h2, hk] at h4
    omega
  · simp [q] at h2
theorem eqR_v {args : Array Value} {first s : State} {o : Option Outcome} {idx : List Nat} {t u : Term} {a : Addr} (hh : (Jvm.Cond.eq t u).value args first o s idx = some true) (hu : u.eval args first o idx s = some (.ref a)) : t.eval args first o idx s = some (.ref a) := by
  simp only [Jvm.Cond.value, hu] at hh
  cases ht : t.eval args first o idx s with
  | none => simp [ht] at hh
  | some x => cases x <;> simp [ht] at hh ⊢; exact hh
theorem Ark.start (hf : Fit Z) {cl : Cell} (A : Arr Z Z.heap a cl ty) (hl : cl.slots.size = vs.length) (hb : vs.length < 2147483648) (H : ∀ i, i < vs.length → cl.slots[i]? = vs[i]?) : Ark Z Z.heap a ty vs := by
  have e1 : cl.slots = vs.toArray := by
    apply Array.ext
    · simpa using hl
    · intro i h1 h2
      have q := H i (by omega)
      rw [Array.getElem?_eq_getElem h1, List.getElem?_eq_getElem (by omega)] at q
      simpa using Option.some.inj q
  refine ⟨cl, A, e1, hb, fun v hv => ?_⟩
  obtain ⟨i, hi, rfl⟩ := List.getElem_of_mem hv
  have q := elem_fits hf A (j := Int32.ofNat i) (v := vs[i]) ?_ ?_
  · exact q
  · intro q
    have e2 : (Int32.ofNat i).toInt = i := Int32.toInt_ofNat_small (by omega)
    obtain ⟨g1, g2⟩ := toNatC e2
    rcases q with q | q
    · exact g2 q
    · rw [g1] at q; omega
  · have e2 : (Int32.ofNat i).toInt = i := Int32.toInt_ofNat_small (by omega)
    rw [(toNatC e2).1, e1]; simp
end A
end Jvm.OwnW
namespace Jvm.Pilot.@@N@@
open Jvm Jvm.ClassFile Sem Op Lib Jvm.Free Jvm.Stand Jvm.LawKit Jvm.RoadKit Jvm.OwnW Bundle Jvm.Pilot.@@N@@.Jvm.D

def lo8 (x : Int32) : Int32 := x.toInt8.toInt32
theorem own_nat {i : Nat} (h : i < 2147483648) : (Int32.ofNat i).toInt = i := Int32.toInt_ofNat_small h
theorem own_lt {i n : Nat} (hi : i < 2147483648) (hn : n < 2147483648) : Int32.ofNat i < Int32.ofNat n ↔ i < n := by
  rw [Int32.lt_iff_toInt_lt, own_nat hi, own_nat hn]; omega
theorem own_eqn {i n : Nat} (hi : i < 2147483648) (hn : n < 2147483648) : Int32.ofNat i = Int32.ofNat n ↔ i = n := by
  rw [← Int32.toInt_inj, own_nat hi, own_nat hn]; omega
theorem own_up (i : Nat) : Int32.ofNat i + 1 = Int32.ofNat (i + 1) := by
  apply Int32.toInt_inj.mp; rw [Int32.toInt_add]; simp [Int32.toInt_ofNat]
def own_dst (cs : List Int32) (i : Nat) : List Value := ((cs.take i).map lo8 ++ List.replicate (cs.length - i) 0).map Value.int
theorem own_dst_len (cs : List Int32) {i : Nat} (h : i ≤ cs.length) : (own_dst cs i).length = cs.length := by simp [own_dst]; omega
theorem own_dst0 (cs : List Int32) : own_dst cs 0 = List.replicate cs.length (Value.int 0) := by simp [own_dst]
theorem own_dstN (cs : List Int32) : own_dst cs cs.length = (cs.map lo8).map Value.int := by simp [own_dst]
theorem own_dst_set (cs : List Int32) {i : Nat} (h : i < cs.length) : (own_dst cs i).set i (Value.int (lo8 (cs.getD i 0))) = own_dst cs (i + 1) := by
  have e : cs.length - i = (cs.length - (i + 1)) + 1 := by omega
  have hd : cs.getD i 0 = cs[i] := by simp [List.getD, h]
  have ht : (cs.take i).length = i := by simp; omega
  simp only [own_dst, hd, e, List.replicate_succ, List.map_append, List.map_cons]
  rw [List.set_append_right _ _ (by simp; omega)]
  have e2 : i - (List.map Value.int (List.map lo8 (List.take i cs))).length = 0 := by simp; omega
  rw [e2, List.set_cons_zero, List.take_succ_eq_append_getElem h]
  simp only [List.map_append, List.map_cons, List.map_nil, List.append_assoc, List.cons_append, List.nil_append]
theorem own_get (cs : List Int32) {i : Nat} (h : i < cs.length) : (cs.map Value.int)[i]? = some (Value.int (cs.getD i 0)) := by
  simp [List.getElem?_eq_getElem, h, List.getD]
theorem own_mem (cs : List Int32) {i : Nat} (h : i < cs.length) : cs.getD i 0 ∈ cs := by
  have hd : cs.getD i 0 = cs[i] := by simp [List.getD, h]
  rw [hd]; exact List.getElem_mem h
theorem own_narB (x : Int32) : nar .byte (lo8 x) = lo8 x := by
  show (x.toInt8.toInt32).toInt8.toInt32 = x.toInt8.toInt32
  simp
theorem own_narC {c : Int32} (h0 : ¬ c < 0) (h1 : ¬ 255 < c) : nar .char c = c := by
  have e : (255 : Int32).toInt = 255 := rfl
  have e0 : (0 : Int32).toInt = 0 := rfl
  rw [Int32.lt_iff_toInt_lt] at h0 h1
  rw [e] at h1
  rw [e0] at h0
  apply Int32.toInt_inj.mp
  have h2 := c_i2c c
  show (c.toUInt32.toUInt16.toUInt32.toInt32).toInt = c.toInt
  omega
theorem own_c0 (n : Int32) : ((n - n).toUInt32 >>> ((31 : Int32) &&& 31).toUInt32).toInt32.toInt8.toInt32 = 0 := by
  have : n - n = 0 := by simp
  rw [this]; decide
theorem own_a0 {P : Int32 → Prop} : ∀ c ∈ ([] : List Int32), P c := fun _ q => nomatch q
theorem own_aS {P : Int32 → Prop} {x : Int32} {L : List Int32} (q : P x) (r : ∀ c ∈ L, P c) : ∀ c ∈ x :: L, P c := fun c z => (List.mem_cons.mp z).elim (fun u => u ▸ q) (r c)
/-- a String of Latin-1 chars -/
def StrL (Z : State) (h : Heap) (x : Addr) (t : Addr) (cs : List Int32) : Prop := Exa Z h x "java/lang/String" ∧ Fld Z h x "java/lang/String" "coder" "B" (.int 0) ∧ Fld Z h x "java/lang/String" "value" "[B" (.ref t) ∧ Ark Z h t .byte ((cs.map lo8).map Value.int)
theorem StrL.keep {Z : State} {h h' : Heap} {x t : Addr} {cs : List Int32} {ws : List Addr} (S : StrL Z h x t cs) (K : Keep h h' ws) (q1 : x ∉ ws) (q2 : t ∉ ws) : StrL Z h' x t cs := ⟨S.1.keep K, S.2.1.keep K q1, S.2.2.1.keep K q1, S.2.2.2.keep K q2⟩
theorem StrL.ext {Z : State} {h h' : Heap} {x t : Addr} {cs : List Int32} (S : StrL Z h x t cs) (E : Ext h h') : StrL Z h' x t cs := ⟨S.1.ext E, S.2.1.ext E, S.2.2.1.ext E, S.2.2.2.ext E⟩

def own_EL : List (String × Nat) := [("java/lang/String", 7)]
theorem own_EW {Z : State} {a0 : Array Value} (hw : ∀ d ∈ tables_1, d.before a0 Z = true) : EW Z a0 own_EL := (EW.cons (text := "") (hw _ (List.mem_of_getElem? (i := 28) rfl)) (by decide) EW.nil)
theorem own_held {tb : Tables} {e : Env} {args : Array Value} {s : State} (hc : Calls_1 tb e args s) : ∀ p ∈ own_EL, Jvm.Lit.constHeld s p.1 p.2 := fun p hp => hc.1 p ((by decide +kernel : ∀ p ∈ own_EL, p ∈ consts_1) p hp)
def own_sel (x0 x1 x2 x3 x4 x5 x6 x7 x8 x9 x10 x11 x12 : Addr) (p : Int32) : Addr := if p = 0 then x0 else if p = 1 then x1 else if p = 2 then x2 else if p = 3 then x3 else if p = 4 then x4 else if p = 5 then x5 else if p = 6 then x6 else if p = 7 then x7 else if p = 8 then x8 else if p = 9 then x9 else if p = 10 then x10 else if p = 11 then x11 else x12
theorem own_cases (x : Int32) : (x &&& 2147483647) % 13 = 0 ∨ (x &&& 2147483647) % 13 = 1 ∨ (x &&& 2147483647) % 13 = 2 ∨ (x &&& 2147483647) % 13 = 3 ∨ (x &&& 2147483647) % 13 = 4 ∨ (x &&& 2147483647) % 13 = 5 ∨ (x &&& 2147483647) % 13 = 6 ∨ (x &&& 2147483647) % 13 = 7 ∨ (x &&& 2147483647) % 13 = 8 ∨ (x &&& 2147483647) % 13 = 9 ∨ (x &&& 2147483647) % 13 = 10 ∨ (x &&& 2147483647) % 13 = 11 ∨ (x &&& 2147483647) % 13 = 12 := by
  have h1 := c_mask x 2147483647 31 (by decide) (by decide)
  have h2 := (c_irem (x &&& 2147483647) 13 13 (by decide)).1 (by rw [h1]; omega)
  have h3 : ((x &&& 2147483647) % 13).toInt = 0 ∨ ((x &&& 2147483647) % 13).toInt = 1 ∨ ((x &&& 2147483647) % 13).toInt = 2 ∨ ((x &&& 2147483647) % 13).toInt = 3 ∨ ((x &&& 2147483647) % 13).toInt = 4 ∨ ((x &&& 2147483647) % 13).toInt = 5 ∨ ((x &&& 2147483647) % 13).toInt = 6 ∨ ((x &&& 2147483647) % 13).toInt = 7 ∨ ((x &&& 2147483647) % 13).toInt = 8 ∨ ((x &&& 2147483647) % 13).toInt = 9 ∨ ((x &&& 2147483647) % 13).toInt = 10 ∨ ((x &&& 2147483647) % 13).toInt = 11 ∨ ((x &&& 2147483647) % 13).toInt = 12 := by omega
  rcases h3 with h | h | h | h | h | h | h | h | h | h | h | h | h
  · exact Or.inl (Int32.toInt_inj.mp h)
  · exact Or.inr (Or.inl (Int32.toInt_inj.mp h))
  · exact Or.inr (Or.inr (Or.inl (Int32.toInt_inj.mp h)))
  · exact Or.inr (Or.inr (Or.inr (Or.inl (Int32.toInt_inj.mp h))))
  · exact Or.inr (Or.inr (Or.inr (Or.inr (Or.inl (Int32.toInt_inj.mp h)))))
  · exact Or.inr (Or.inr (Or.inr (Or.inr (Or.inr (Or.inl (Int32.toInt_inj.mp h))))))
  · exact Or.inr (Or.inr (Or.inr (Or.inr (Or.inr (Or.inr (Or.inl (Int32.toInt_inj.mp h)))))))
  · exact Or.inr (Or.inr (Or.inr (Or.inr (Or.inr (Or.inr (Or.inr (Or.inl (Int32.toInt_inj.mp h))))))))
  · exact Or.inr (Or.inr (Or.inr (Or.inr (Or.inr (Or.inr (Or.inr (Or.inr (Or.inl (Int32.toInt_inj.mp h)))))))))
  · exact Or.inr (Or.inr (Or.inr (Or.inr (Or.inr (Or.inr (Or.inr (Or.inr (Or.inr (Or.inl (Int32.toInt_inj.mp h))))))))))
  · exact Or.inr (Or.inr (Or.inr (Or.inr (Or.inr (Or.inr (Or.inr (Or.inr (Or.inr (Or.inr (Or.inl (Int32.toInt_inj.mp h)))))))))))
  · exact Or.inr (Or.inr (Or.inr (Or.inr (Or.inr (Or.inr (Or.inr (Or.inr (Or.inr (Or.inr (Or.inr (Or.inl (Int32.toInt_inj.mp h))))))))))))
  · exact Or.inr (Or.inr (Or.inr (Or.inr (Or.inr (Or.inr (Or.inr (Or.inr (Or.inr (Or.inr (Or.inr (Or.inr ((Int32.toInt_inj.mp h)))))))))))))
theorem own_c4 (x : Int32) : x &&& 3 = 0 ∨ x &&& 3 = 1 ∨ x &&& 3 = 2 ∨ x &&& 3 = 3 := by
  have h1 := c_mask x 3 2 (by decide) (by decide)
  have h3 : (x &&& 3).toInt = 0 ∨ (x &&& 3).toInt = 1 ∨ (x &&& 3).toInt = 2 ∨ (x &&& 3).toInt = 3 := by omega
  rcases h3 with h | h | h | h
  · exact Or.inl (Int32.toInt_inj.mp h)
  · exact Or.inr (Or.inl (Int32.toInt_inj.mp h))
  · exact Or.inr (Or.inr (Or.inl (Int32.toInt_inj.mp h)))
  · exact Or.inr (Or.inr (Or.inr ((Int32.toInt_inj.mp h))))
def own_cs (n a b c : Int32) : List Int32 := if n = 0 then [] else if n = 1 then [a] else if n = 2 then [a, b] else [a, b, c]
theorem own_cs_lat {n a b c : Int32} (ha : ¬ a < 0 ∧ ¬ 255 < a) (hb : ¬ b < 0 ∧ ¬ 255 < b) (hc : ¬ c < 0 ∧ ¬ 255 < c) : ∀ x ∈ own_cs n a b c, ¬ x < 0 ∧ ¬ 255 < x := by
  unfold own_cs
  split
  · exact own_a0
  · split
    · exact own_aS ha own_a0
    · split
      · exact own_aS ha (own_aS hb own_a0)
      · exact own_aS ha (own_aS hb (own_aS hc own_a0))
theorem own_cs_iff {n k a b c a' b' c' : Int32} (hn : n = 0 ∨ n = 1 ∨ n = 2 ∨ n = 3) (hk : k = 0 ∨ k = 1 ∨ k = 2 ∨ k = 3) : own_cs n a b c = own_cs k a' b' c' ↔ n = k ∧ (n < 1 ∨ a = a') ∧ (n < 2 ∨ b = b') ∧ (n < 3 ∨ c = c') := by
  rcases hn with rfl | rfl | rfl | rfl <;> rcases hk with rfl | rfl | rfl | rfl <;> simp [own_cs]
theorem own_255 (x : Int32) : ¬ (x &&& 255).toUInt32.toUInt16.toUInt32.toInt32 < 0 ∧ ¬ 255 < (x &&& 255).toUInt32.toUInt16.toUInt32.toInt32 := by
  rw [i2c_mask]
  have h := c_and x 255 (by decide)
  have e : (255 : Int32).toInt = 255 := rfl
  have e0 : (0 : Int32).toInt = 0 := rfl
  rw [Int32.lt_iff_toInt_lt, Int32.lt_iff_toInt_lt, e, e0]
  rw [e] at h
  omega
theorem pn_com_example_selectivity_selectivity_TokenIsPinLaw : plainName "com/example/selectivity/selectivity/TokenIsPinLaw" = true := by first | (simp [plainName, overriddenIn]; done) | decide +kernel
theorem d1_0 : decode method_2_code 0 = .ok (.iload_n 0, 1) := by decide +kernel
theorem d1_1 : decode method_2_code 1 = .ok (.ifCond .ne 7, 3) := by decide +kernel
theorem d1_4 : decode method_2_code 4 = .ok (.getstatic 7, 3) := by decide +kernel
theorem d1_7 : decode method_2_code 7 = .ok (.areturn, 1) := by decide +kernel
theorem d1_8 : decode method_2_code 8 = .ok (.iload_n 0, 1) := by decide +kernel
theorem d1_9 : decode method_2_code 9 = .ok (.iconst 1, 1) := by decide +kernel
theorem d1_10 : decode method_2_code 10 = .ok (.if_icmp .ne 7, 3) := by decide +kernel
theorem d1_13 : decode method_2_code 13 = .ok (.getstatic 13, 3) := by decide +kernel
theorem d1_16 : decode method_2_code 16 = .ok (.areturn, 1) := by decide +kernel
theorem d1_17 : decode method_2_code 17 = .ok (.iload_n 0, 1) := by decide +kernel
theorem d1_18 : decode method_2_code 18 = .ok (.iconst 2, 1) := by decide +kernel
theorem d1_19 : decode method_2_code 19 = .ok (.if_icmp .ne 7, 3) := by decide +kernel
theorem d1_22 : decode method_2_code 22 = .ok (.getstatic 16, 3) := by decide +kernel
theorem d1_25 : decode method_2_code 25 = .ok (.areturn, 1) := by decide +kernel
theorem d1_26 : decode method_2_code 26 = .ok (.iload_n 0, 1) := by decide +kernel
theorem d1_27 : decode method_2_code 27 = .ok (.iconst 3, 1) := by decide +kernel
theorem d1_28 : decode method_2_code 28 = .ok (.if_icmp .ne 7, 3) := by decide +kernel
theorem d1_31 : decode method_2_code 31 = .ok (.getstatic 19, 3) := by decide +kernel
theorem d1_34 : decode method_2_code 34 = .ok (.areturn, 1) := by decide +kernel
theorem d1_35 : decode method_2_code 35 = .ok (.iload_n 0, 1) := by decide +kernel
theorem d1_36 : decode method_2_code 36 = .ok (.iconst 4, 1) := by decide +kernel
theorem d1_37 : decode method_2_code 37 = .ok (.if_icmp .ne 7, 3) := by decide +kernel
theorem d1_40 : decode method_2_code 40 = .ok (.getstatic 22, 3) := by decide +kernel
theorem d1_43 : decode method_2_code 43 = .ok (.areturn, 1) := by decide +kernel
theorem d1_44 : decode method_2_code 44 = .ok (.iload_n 0, 1) := by decide +kernel
theorem d1_45 : decode method_2_code 45 = .ok (.iconst 5, 1) := by decide +kernel
theorem d1_46 : decode method_2_code 46 = .ok (.if_icmp .ne 7, 3) := by decide +kernel
theorem d1_49 : decode method_2_code 49 = .ok (.getstatic 25, 3) := by decide +kernel
theorem d1_52 : decode method_2_code 52 = .ok (.areturn, 1) := by decide +kernel
theorem d1_53 : decode method_2_code 53 = .ok (.iload_n 0, 1) := by decide +kernel
theorem d1_54 : decode method_2_code 54 = .ok (.bipush 6, 2) := by decide +kernel
theorem d1_56 : decode method_2_code 56 = .ok (.if_icmp .ne 7, 3) := by decide +kernel
theorem d1_59 : decode method_2_code 59 = .ok (.getstatic 28, 3) := by decide +kernel
theorem d1_62 : decode method_2_code 62 = .ok (.areturn, 1) := by decide +kernel
theorem d1_63 : decode method_2_code 63 = .ok (.iload_n 0, 1) := by decide +kernel
theorem d1_64 : decode method_2_code 64 = .ok (.bipush 7, 2) := by decide +kernel
theorem d1_66 : decode method_2_code 66 = .ok (.if_icmp .ne 7, 3) := by decide +kernel
theorem d1_69 : decode method_2_code 69 = .ok (.getstatic 31, 3) := by decide +kernel
theorem d1_72 : decode method_2_code 72 = .ok (.areturn, 1) := by decide +kernel
theorem d1_73 : decode method_2_code 73 = .ok (.iload_n 0, 1) := by decide +kernel
theorem d1_74 : decode method_2_code 74 = .ok (.bipush 8, 2) := by decide +kernel
theorem d1_76 : decode method_2_code 76 = .ok (.if_icmp .ne 7, 3) := by decide +kernel
theorem d1_79 : decode method_2_code 79 = .ok (.getstatic 34, 3) := by decide +kernel
theorem d1_82 : decode method_2_code 82 = .ok (.areturn, 1) := by decide +kernel
theorem d1_83 : decode method_2_code 83 = .ok (.iload_n 0, 1) := by decide +kernel
theorem d1_84 : decode method_2_code 84 = .ok (.bipush 9, 2) := by decide +kernel
theorem d1_86 : decode method_2_code 86 = .ok (.if_icmp .ne 7, 3) := by decide +kernel
theorem d1_89 : decode method_2_code 89 = .ok (.getstatic 37, 3) := by decide +kernel
theorem d1_92 : decode method_2_code 92 = .ok (.areturn, 1) := by decide +kernel
theorem d1_93 : decode method_2_code 93 = .ok (.iload_n 0, 1) := by decide +kernel
theorem d1_94 : decode method_2_code 94 = .ok (.bipush 10, 2) := by decide +kernel
theorem d1_96 : decode method_2_code 96 = .ok (.if_icmp .ne 7, 3) := by decide +kernel
theorem d1_99 : decode method_2_code 99 = .ok (.getstatic 40, 3) := by decide +kernel
theorem d1_102 : decode method_2_code 102 = .ok (.areturn, 1) := by decide +kernel
theorem d1_103 : decode method_2_code 103 = .ok (.iload_n 0, 1) := by decide +kernel
theorem d1_104 : decode method_2_code 104 = .ok (.bipush 11, 2) := by decide +kernel
theorem d1_106 : decode method_2_code 106 = .ok (.if_icmp .ne 7, 3) := by decide +kernel
theorem d1_109 : decode method_2_code 109 = .ok (.getstatic 43, 3) := by decide +kernel
theorem d1_112 : decode method_2_code 112 = .ok (.areturn, 1) := by decide +kernel
theorem d1_113 : decode method_2_code 113 = .ok (.getstatic 46, 3) := by decide +kernel
theorem d1_116 : decode method_2_code 116 = .ok (.areturn, 1) := by decide +kernel
theorem ef_rm1 (m : MethodId) (x0 : Int32) : entryFrame m #[(.int x0)] 1 = mkF m 0 #[.val (.int x0)] [] := by first | (simp [entryFrame, mkF, argsToLocals, Value.category]; done) | rfl
set_option maxRecDepth 65536 in
set_option maxHeartbeats 40000000 in
theorem rm1 (l : Launch) (Z : State) (a0 : Array Value) (hw : ∀ d ∈ tables_1, d.before a0 Z = true) (hE : EW Z a0 own_EL) (ws : List Jvm.Cond) (p0 : Int32) (h0 : Heap) (n0 : Nat) (O0 : Old Z n0 h0) (a_LEFT_PAREN : Addr) (S_LEFT_PAREN : Sta Z Z.heap "com/example/selectivity/selectivity/Token$Type" "LEFT_PAREN" "Lcom/example/selectivity/selectivity/Token$Type;" (.ref a_LEFT_PAREN)) (E_LEFT_PAREN : Exa Z Z.heap a_LEFT_PAREN "com/example/selectivity/selectivity/Token$Type") (a_FLOAT : Addr) (S_FLOAT : Sta Z Z.heap "com/example/selectivity/selectivity/Token$Type" "FLOAT" "Lcom/example/selectivity/selectivity/Token$Type;" (.ref a_FLOAT)) (E_FLOAT : Exa Z Z.heap a_FLOAT "com/example/selectivity/selectivity/Token$Type") (a_SYMBOL : Addr) (S_SYMBOL : Sta Z Z.heap "com/example/selectivity/selectivity/Token$Type" "SYMBOL" "Lcom/example/selectivity/selectivity/Token$Type;" (.ref a_SYMBOL)) (E_SYMBOL : Exa Z Z.heap a_SYMBOL "com/example/selectivity/selectivity/Token$Type") (a_WILDCARD : Addr) (S_WILDCARD : Sta Z Z.heap "com/example/selectivity/selectivity/Token$Type" "WILDCARD" "Lcom/example/selectivity/selectivity/Token$Type;" (.ref a_WILDCARD)) (E_WILDCARD : Exa Z Z.heap a_WILDCARD "com/example/selectivity/selectivity/Token$Type") (F_SYMBOL_ordinal : Fld Z Z.heap a_SYMBOL "java/lang/Enum" "ordinal" "I" (.int (2 : Int32))) (F_WILDCARD_ordinal : Fld Z Z.heap a_WILDCARD "java/lang/Enum" "ordinal" "I" (.int (7 : Int32))) (a_END : Addr) (S_END : Sta Z Z.heap "com/example/selectivity/selectivity/Token$Type" "END" "Lcom/example/selectivity/selectivity/Token$Type;" (.ref a_END)) (E_END : Exa Z Z.heap a_END "com/example/selectivity/selectivity/Token$Type") (a_AND : Addr) (S_AND : Sta Z Z.heap "com/example/selectivity/selectivity/Token$Type" "AND" "Lcom/example/selectivity/selectivity/Token$Type;" (.ref a_AND)) (E_AND : Exa Z Z.heap a_AND "com/example/selectivity/selectivity/Token$Type") (F_END_ordinal : Fld Z Z.heap a_END "java/lang/Enum" "ordinal" "I" (.int (12 : Int32))) (F_AND_ordinal : Fld Z Z.heap a_AND "java/lang/Enum" "ordinal" "I" (.int (9 : Int32))) (a_MULTIFIELD : Addr) (S_MULTIFIELD : Sta Z Z.heap "com/example/selectivity/selectivity/Token$Type" "MULTIFIELD" "Lcom/example/selectivity/selectivity/Token$Type;" (.ref a_MULTIFIELD)) (E_MULTIFIELD : Exa Z Z.heap a_MULTIFIELD "com/example/selectivity/selectivity/Token$Type") (F_MULTIFIELD_ordinal : Fld Z Z.heap a_MULTIFIELD "java/lang/Enum" "ordinal" "I" (.int (8 : Int32))) (F_LEFT_PAREN_ordinal : Fld Z Z.heap a_LEFT_PAREN "java/lang/Enum" "ordinal" "I" (.int (0 : Int32))) (a_VARIABLE : Addr) (S_VARIABLE : Sta Z Z.heap "com/example/selectivity/selectivity/Token$Type" "VARIABLE" "Lcom/example/selectivity/selectivity/Token$Type;" (.ref a_VARIABLE)) (E_VARIABLE : Exa Z Z.heap a_VARIABLE "com/example/selectivity/selectivity/Token$Type") (a_NOT : Addr) (S_NOT : Sta Z Z.heap "com/example/selectivity/selectivity/Token$Type" "NOT" "Lcom/example/selectivity/selectivity/Token$Type;" (.ref a_NOT)) (E_NOT : Exa Z Z.heap a_NOT "com/example/selectivity/selectivity/Token$Type") (F_NOT_ordinal : Fld Z Z.heap a_NOT "java/lang/Enum" "ordinal" "I" (.int (11 : Int32))) (a_OR : Addr) (S_OR : Sta Z Z.heap "com/example/selectivity/selectivity/Token$Type" "OR" "Lcom/example/selectivity/selectivity/Token$Type;" (.ref a_OR)) (E_OR : Exa Z Z.heap a_OR "com/example/selectivity/selectivity/Token$Type") (a_RIGHT_PAREN : Addr) (S_RIGHT_PAREN : Sta Z Z.heap "com/example/selectivity/selectivity/Token$Type" "RIGHT_PAREN" "Lcom/example/selectivity/selectivity/Token$Type;" (.ref a_RIGHT_PAREN)) (E_RIGHT_PAREN : Exa Z Z.heap a_RIGHT_PAREN "com/example/selectivity/selectivity/Token$Type") (F_OR_ordinal : Fld Z Z.heap a_OR "java/lang/Enum" "ordinal" "I" (.int (10 : Int32))) (F_RIGHT_PAREN_ordinal : Fld Z Z.heap a_RIGHT_PAREN "java/lang/Enum" "ordinal" "I" (.int (1 : Int32))) (a_STRING : Addr) (S_STRING : Sta Z Z.heap "com/example/selectivity/selectivity/Token$Type" "STRING" "Lcom/example/selectivity/selectivity/Token$Type;" (.ref a_STRING)) (E_STRING : Exa Z Z.heap a_STRING "com/example/selectivity/selectivity/Token$Type") (F_STRING_ordinal : Fld Z Z.heap a_STRING "java/lang/Enum" "ordinal" "I" (.int (5 : Int32))) (a_INTEGER : Addr) (S_INTEGER : Sta Z Z.heap "com/example/selectivity/selectivity/Token$Type" "INTEGER" "Lcom/example/selectivity/selectivity/Token$Type;" (.ref a_INTEGER)) (E_INTEGER : Exa Z Z.heap a_INTEGER "com/example/selectivity/selectivity/Token$Type") (F_INTEGER_ordinal : Fld Z Z.heap a_INTEGER "java/lang/Enum" "ordinal" "I" (.int (3 : Int32))) (F_FLOAT_ordinal : Fld Z Z.heap a_FLOAT "java/lang/Enum" "ordinal" "I" (.int (4 : Int32))) (F_VARIABLE_ordinal : Fld Z Z.heap a_VARIABLE "java/lang/Enum" "ordinal" "I" (.int (6 : Int32))) :
    Ctr False l Z own_EL (⟨"com/example/selectivity/selectivity/TokenIsPinLaw", "type", "(I)Lcom/example/selectivity/selectivity/Token$Type;"⟩ : MethodName) method_2_code 1 (some (.object "com/example/selectivity/selectivity/Token$Type")) ws ({ frames := 0, cells := 0, slots := 0, locals := 0 } : Room) n0 ([]) #[(.int p0)] h0 (Rt (fun w h g => w = .ref (own_sel a_LEFT_PAREN a_RIGHT_PAREN a_SYMBOL a_INTEGER a_FLOAT a_STRING a_VARIABLE a_WILDCARD a_MULTIFIELD a_AND a_OR a_NOT a_END p0) ∧ h0 = h)) := by
  refine Ctr.of (plainFor_of_name pn_com_example_selectivity_selectivity_TokenIsPinLaw) hE (fun m => ef_rm1 m p0) ?_
  intro p e s m below meth c T0 X0
  have Z0 : Keep h0 h0 [] := Keep.refl _ _
  refine OwnW.iloadN X0 (n := 1) d1_0 rfl rfl ?_
  refine OwnW.if_ne X0  (n1 := 8) (n2 := 4) d1_1 (by decide) rfl rfl (fun hc1 => ?_) (fun hc1 => ?_)
  · refine OwnW.iloadN X0 (n := 9) d1_8 rfl rfl ?_
    refine OwnW.iconst X0 (z := (1 : Int32)) (n := 10) d1_9 rfl rfl ?_
    refine OwnW.ic_ne X0  (n1 := 17) (n2 := 13) d1_10 (by decide) rfl rfl (fun hc10 => ?_) (fun hc10 => ?_)
    · refine OwnW.iloadN X0 (n := 18) d1_17 rfl rfl ?_
      refine OwnW.iconst X0 (z := (2 : Int32)) (n := 19) d1_18 rfl rfl ?_
      refine OwnW.ic_ne X0  (n1 := 26) (n2 := 22) d1_19 (by decide) rfl rfl (fun hc19 => ?_) (fun hc19 => ?_)
      · refine OwnW.iloadN X0 (n := 27) d1_26 rfl rfl ?_
        refine OwnW.iconst X0 (z := (3 : Int32)) (n := 28) d1_27 rfl rfl ?_
        refine OwnW.ic_ne X0  (n1 := 35) (n2 := 31) d1_28 (by decide) rfl rfl (fun hc28 => ?_) (fun hc28 => ?_)
        · refine OwnW.iloadN X0 (n := 36) d1_35 rfl rfl ?_
          refine OwnW.iconst X0 (z := (4 : Int32)) (n := 37) d1_36 rfl rfl ?_
          refine OwnW.ic_ne X0  (n1 := 44) (n2 := 40) d1_37 (by decide) rfl rfl (fun hc37 => ?_) (fun hc37 => ?_)
          · refine OwnW.iloadN X0 (n := 45) d1_44 rfl rfl ?_
            refine OwnW.iconst X0 (z := (5 : Int32)) (n := 46) d1_45 rfl rfl ?_
            refine OwnW.ic_ne X0  (n1 := 53) (n2 := 49) d1_46 (by decide) rfl rfl (fun hc46 => ?_) (fun hc46 => ?_)
            · refine OwnW.iloadN X0 (n := 54) d1_53 rfl rfl ?_
              refine OwnW.bipush X0 (z := (6 : Int32)) (n := 56) d1_54 rfl rfl ?_
              refine OwnW.ic_ne X0  (n1 := 63) (n2 := 59) d1_56 (by decide) rfl rfl (fun hc56 => ?_) (fun hc56 => ?_)
              · refine OwnW.iloadN X0 (n := 64) d1_63 rfl rfl ?_
                refine OwnW.bipush X0 (z := (7 : Int32)) (n := 66) d1_64 rfl rfl ?_
                refine OwnW.ic_ne X0  (n1 := 73) (n2 := 69) d1_66 (by decide) rfl rfl (fun hc66 => ?_) (fun hc66 => ?_)
                · refine OwnW.iloadN X0 (n := 74) d1_73 rfl rfl ?_
                  refine OwnW.bipush X0 (z := (8 : Int32)) (n := 76) d1_74 rfl rfl ?_
                  refine OwnW.ic_ne X0  (n1 := 83) (n2 := 79) d1_76 (by decide) rfl rfl (fun hc76 => ?_) (fun hc76 => ?_)
                  · refine OwnW.iloadN X0 (n := 84) d1_83 rfl rfl ?_
                    refine OwnW.bipush X0 (z := (9 : Int32)) (n := 86) d1_84 rfl rfl ?_
                    refine OwnW.ic_ne X0  (n1 := 93) (n2 := 89) d1_86 (by decide) rfl rfl (fun hc86 => ?_) (fun hc86 => ?_)
                    · refine OwnW.iloadN X0 (n := 94) d1_93 rfl rfl ?_
                      refine OwnW.bipush X0 (z := (10 : Int32)) (n := 96) d1_94 rfl rfl ?_
                      refine OwnW.ic_ne X0  (n1 := 103) (n2 := 99) d1_96 (by decide) rfl rfl (fun hc96 => ?_) (fun hc96 => ?_)
                      · refine OwnW.iloadN X0 (n := 104) d1_103 rfl rfl ?_
                        refine OwnW.bipush X0 (z := (11 : Int32)) (n := 106) d1_104 rfl rfl ?_
                        refine OwnW.ic_ne X0  (n1 := 113) (n2 := 109) d1_106 (by decide) rfl rfl (fun hc106 => ?_) (fun hc106 => ?_)
                        · refine OwnW.getstatic X0 (n := 116) d1_113 (hw _ (List.mem_of_getElem? (i := 78) rfl)) Via.refl (S_END.ext O0.2) rfl ?_
                          intro T1 X1
                          exact OwnW.areturn X1 rfl rfl rfl d1_116 ⟨by simp [own_sel, hc1, hc10, hc19, hc28, hc37, hc46, hc56, hc66, hc76, hc86, hc96, hc106], rfl⟩ (by decide) (by decide)
                        · refine OwnW.getstatic X0 (n := 112) d1_109 (hw _ (List.mem_of_getElem? (i := 86) rfl)) Via.refl (S_NOT.ext O0.2) rfl ?_
                          intro T2 X2
                          exact OwnW.areturn X2 rfl rfl rfl d1_112 ⟨by simp [own_sel, hc1, hc10, hc19, hc28, hc37, hc46, hc56, hc66, hc76, hc86, hc96, hc106], rfl⟩ (by decide) (by decide)
                      · refine OwnW.getstatic X0 (n := 102) d1_99 (hw _ (List.mem_of_getElem? (i := 88) rfl)) Via.refl (S_OR.ext O0.2) rfl ?_
                        intro T3 X3
                        exact OwnW.areturn X3 rfl rfl rfl d1_102 ⟨by simp [own_sel, hc1, hc10, hc19, hc28, hc37, hc46, hc56, hc66, hc76, hc86, hc96], rfl⟩ (by decide) (by decide)
                    · refine OwnW.getstatic X0 (n := 92) d1_89 (hw _ (List.mem_of_getElem? (i := 80) rfl)) Via.refl (S_AND.ext O0.2) rfl ?_
                      intro T4 X4
                      exact OwnW.areturn X4 rfl rfl rfl d1_92 ⟨by simp [own_sel, hc1, hc10, hc19, hc28, hc37, hc46, hc56, hc66, hc76, hc86], rfl⟩ (by decide) (by decide)
                  · refine OwnW.getstatic X0 (n := 82) d1_79 (hw _ (List.mem_of_getElem? (i := 82) rfl)) Via.refl (S_MULTIFIELD.ext O0.2) rfl ?_
                    intro T5 X5
                    exact OwnW.areturn X5 rfl rfl rfl d1_82 ⟨by simp [own_sel, hc1, hc10, hc19, hc28, hc37, hc46, hc56, hc66, hc76], rfl⟩ (by decide) (by decide)
                · refine OwnW.getstatic X0 (n := 72) d1_69 (hw _ (List.mem_of_getElem? (i := 76) rfl)) Via.refl (S_WILDCARD.ext O0.2) rfl ?_
                  intro T6 X6
                  exact OwnW.areturn X6 rfl rfl rfl d1_72 ⟨by simp [own_sel, hc1, hc10, hc19, hc28, hc37, hc46, hc56, hc66], rfl⟩ (by decide) (by decide)
              · refine OwnW.getstatic X0 (n := 62) d1_59 (hw _ (List.mem_of_getElem? (i := 84) rfl)) Via.refl (S_VARIABLE.ext O0.2) rfl ?_
                intro T7 X7
                exact OwnW.areturn X7 rfl rfl rfl d1_62 ⟨by simp [own_sel, hc1, hc10, hc19, hc28, hc37, hc46, hc56], rfl⟩ (by decide) (by decide)
            · refine OwnW.getstatic X0 (n := 52) d1_49 (hw _ (List.mem_of_getElem? (i := 92) rfl)) Via.refl (S_STRING.ext O0.2) rfl ?_
              intro T8 X8
              exact OwnW.areturn X8 rfl rfl rfl d1_52 ⟨by simp [own_sel, hc1, hc10, hc19, hc28, hc37, hc46], rfl⟩ (by decide) (by decide)
          · refine OwnW.getstatic X0 (n := 43) d1_40 (hw _ (List.mem_of_getElem? (i := 62) rfl)) Via.refl (S_FLOAT.ext O0.2) rfl ?_
            intro T9 X9
            exact OwnW.areturn X9 rfl rfl rfl d1_43 ⟨by simp [own_sel, hc1, hc10, hc19, hc28, hc37], rfl⟩ (by decide) (by decide)
        · refine OwnW.getstatic X0 (n := 34) d1_31 (hw _ (List.mem_of_getElem? (i := 94) rfl)) Via.refl (S_INTEGER.ext O0.2) rfl ?_
          intro T10 X10
          exact OwnW.areturn X10 rfl rfl rfl d1_34 ⟨by simp [own_sel, hc1, hc10, hc19, hc28], rfl⟩ (by decide) (by decide)
      · refine OwnW.getstatic X0 (n := 25) d1_22 (hw _ (List.mem_of_getElem? (i := 64) rfl)) Via.refl (S_SYMBOL.ext O0.2) rfl ?_
        intro T11 X11
        exact OwnW.areturn X11 rfl rfl rfl d1_25 ⟨by simp [own_sel, hc1, hc10, hc19], rfl⟩ (by decide) (by decide)
    · refine OwnW.getstatic X0 (n := 16) d1_13 (hw _ (List.mem_of_getElem? (i := 90) rfl)) Via.refl (S_RIGHT_PAREN.ext O0.2) rfl ?_
      intro T12 X12
      exact OwnW.areturn X12 rfl rfl rfl d1_16 ⟨by simp [own_sel, hc1, hc10], rfl⟩ (by decide) (by decide)
  · refine OwnW.getstatic X0 (n := 7) d1_4 (hw _ (List.mem_of_getElem? (i := 8) rfl)) Via.refl (S_LEFT_PAREN.ext O0.2) rfl ?_
    intro T13 X13
    exact OwnW.areturn X13 rfl rfl rfl d1_7 ⟨by simp [own_sel, hc1], rfl⟩ (by decide) (by decide)

theorem own_lo8_inj {x y : Int32} (a0 : ¬ x < 0) (a1 : ¬ 255 < x) (b0 : ¬ y < 0) (b1 : ¬ 255 < y) (h : lo8 x = lo8 y) : x = y := by
  have e : (255 : Int32).toInt = 255 := rfl
  have e0 : (0 : Int32).toInt = 0 := rfl
  rw [Int32.lt_iff_toInt_lt] at a0 a1 b0 b1
  rw [e] at a1 b1
  rw [e0] at a0 b0
  have h1 := c_i2b x
  have h2 := c_i2b y
  have h3 : x.toInt8.toInt32.toInt = y.toInt8.toInt32.toInt := congrArg Int32.toInt h
  apply Int32.toInt_inj.mp
  omega
def Lat (cs : List Int32) : Prop := ∀ c ∈ cs, ¬ c < 0 ∧ ¬ 255 < c
theorem own_map_inj : ∀ {cs ds : List Int32}, Lat cs → Lat ds → cs.map lo8 = ds.map lo8 → cs = ds
  | [], [], _, _, _ => rfl
  | [], _ :: _, _, _, h => by simp at h
  | _ :: _, [], _, _, h => by simp at h
  | a :: cs, b :: ds, ha, hb, h => by
    simp only [List.map_cons, List.cons.injEq] at h
    have h1 := ha a (List.mem_cons_self ..)
    have h2 := hb b (List.mem_cons_self ..)
    rw [own_lo8_inj h1.1 h1.2 h2.1 h2.2 h.1, own_map_inj (fun c hc => ha c (List.mem_cons_of_mem _ hc)) (fun c hc => hb c (List.mem_cons_of_mem _ hc)) h.2]
theorem own_map_iff {cs ds : List Int32} (hc : Lat cs) (hd : Lat ds) : cs.map lo8 = ds.map lo8 ↔ cs = ds := ⟨own_map_inj hc hd, fun h => by rw [h]⟩
theorem own_ext {as bs : List Int32} (hl : as.length = bs.length) (h : ∀ j, j < as.length → as.getD j 0 = bs.getD j 0) : as = bs := by
  apply List.ext_getElem hl
  intro i h1 h2
  have q := h i h1
  simpa [List.getD, h1, h2] using q
theorem ark_inj {Z : State} {h : Heap} {t : Addr} {ty : FieldType} {as bs : List Int32} (A : Ark Z h t ty (as.map Value.int)) (B : Ark Z h t ty (bs.map Value.int)) : as = bs := by
  obtain ⟨c1, A1, a2, -⟩ := A
  obtain ⟨c2, B1, b2, -⟩ := B
  cases A1.1.symm.trans B1.1
  have e : as.map Value.int = bs.map Value.int := by simpa using congrArg Array.toList (a2.symm.trans b2)
  exact List.map_inj_right (f := Value.int) (fun _ _ q => Value.int.inj q) |>.mp e
theorem fld_fun {Z : State} {h : Heap} {a : Addr} {C n d : String} {v w : Value} (F : Fld Z h a C n d v) (G : Fld Z h a C n d w) : v = w := Classical.byContradiction fun q => Fld.ne F G q rfl
theorem StrL.eq {Z : State} {h : Heap} {x t u : Addr} {cs ds : List Int32} (S : StrL Z h x t cs) (S' : StrL Z h x u ds) : cs.map lo8 = ds.map lo8 := by
  have e := fld_fun S.2.2.1 S'.2.2.1
  cases e
  exact ark_inj S.2.2.2 S'.2.2.2

theorem pn_java_lang_StringLatin1 : plainName "java/lang/StringLatin1" = true := by first | (simp [plainName, overriddenIn]; done) | decide +kernel
theorem d9_0 : decode jdk_43_method_13_code 0 = .ok (.aload_n 0, 1) := by decide +kernel
theorem d9_1 : decode jdk_43_method_13_code 1 = .ok (.arraylength, 1) := by decide +kernel
theorem d9_2 : decode jdk_43_method_13_code 2 = .ok (.aload_n 1, 1) := by decide +kernel
theorem d9_3 : decode jdk_43_method_13_code 3 = .ok (.arraylength, 1) := by decide +kernel
theorem d9_4 : decode jdk_43_method_13_code 4 = .ok (.if_icmp .ne 30, 3) := by decide +kernel
theorem d9_7 : decode jdk_43_method_13_code 7 = .ok (.iconst 0, 1) := by decide +kernel
theorem d9_8 : decode jdk_43_method_13_code 8 = .ok (.istore_n 2, 1) := by decide +kernel
theorem d9_9 : decode jdk_43_method_13_code 9 = .ok (.iload_n 2, 1) := by decide +kernel
theorem d9_10 : decode jdk_43_method_13_code 10 = .ok (.aload_n 0, 1) := by decide +kernel
theorem d9_11 : decode jdk_43_method_13_code 11 = .ok (.arraylength, 1) := by decide +kernel
theorem d9_12 : decode jdk_43_method_13_code 12 = .ok (.if_icmp .ge 20, 3) := by decide +kernel
theorem d9_15 : decode jdk_43_method_13_code 15 = .ok (.aload_n 0, 1) := by decide +kernel
theorem d9_16 : decode jdk_43_method_13_code 16 = .ok (.iload_n 2, 1) := by decide +kernel
theorem d9_17 : decode jdk_43_method_13_code 17 = .ok (.baload, 1) := by decide +kernel
theorem d9_18 : decode jdk_43_method_13_code 18 = .ok (.aload_n 1, 1) := by decide +kernel
theorem d9_19 : decode jdk_43_method_13_code 19 = .ok (.iload_n 2, 1) := by decide +kernel
theorem d9_20 : decode jdk_43_method_13_code 20 = .ok (.baload, 1) := by decide +kernel
theorem d9_21 : decode jdk_43_method_13_code 21 = .ok (.if_icmp .eq 5, 3) := by decide +kernel
theorem d9_24 : decode jdk_43_method_13_code 24 = .ok (.iconst 0, 1) := by decide +kernel
theorem d9_25 : decode jdk_43_method_13_code 25 = .ok (.ireturn, 1) := by decide +kernel
theorem d9_26 : decode jdk_43_method_13_code 26 = .ok (.iinc 2 1, 3) := by decide +kernel
theorem d9_29 : decode jdk_43_method_13_code 29 = .ok (.goto (-20), 3) := by decide +kernel
theorem d9_32 : decode jdk_43_method_13_code 32 = .ok (.iconst 1, 1) := by decide +kernel
theorem d9_33 : decode jdk_43_method_13_code 33 = .ok (.ireturn, 1) := by decide +kernel
theorem d9_34 : decode jdk_43_method_13_code 34 = .ok (.iconst 0, 1) := by decide +kernel
theorem d9_35 : decode jdk_43_method_13_code 35 = .ok (.ireturn, 1) := by decide +kernel
theorem ef_rm9 (m : MethodId) (x0 : Addr) (x1 : Addr) : entryFrame m #[(.ref x0), (.ref x1)] 3 = mkF m 0 #[.val (.ref x0), .val (.ref x1), .unset] [] := by first | (simp [entryFrame, mkF, argsToLocals, Value.category]; done) | rfl
set_option maxRecDepth 65536 in
set_option maxHeartbeats 40000000 in
theorem rm9 (l : Launch) (Z : State) (a0 : Array Value) (hw : ∀ d ∈ tables_1, d.before a0 Z = true) (hE : EW Z a0 own_EL) (ws : List Jvm.Cond) (r0 : Addr) (r1 : Addr) (h0 : Heap) (n0 : Nat) (as bs : List Int32) (A0 : Ark Z h0 r0 .byte (as.map Value.int)) (A1 : Ark Z h0 r1 .byte (bs.map Value.int)) :
    Ctr False l Z own_EL (⟨"java/lang/StringLatin1", "equals", "([B[B)Z"⟩ : MethodName) jdk_43_method_13_code 3 (some .boolean) ws ({ frames := 0, cells := 0, slots := 0, locals := 0 } : Room) n0 ([]) #[(.ref r0), (.ref r1)] h0 (Rt (fun w h g => w = .int (if as = bs then 1 else 0) ∧ h0 = h)) := by
  refine Ctr.of (plainFor_of_name pn_java_lang_StringLatin1) hE (fun m => ef_rm9 m r0 r1) ?_
  intro p e s m below meth c T0 X0
  refine OwnW.aloadN X0 (n := 1) d9_0 rfl rfl rfl ?_
  refine OwnW.arraylength X0 (z := Int32.ofNat as.length) (n := 2) d9_1 A0 (by simp) rfl ?_
  refine OwnW.aloadN X0 (n := 3) d9_2 rfl rfl rfl ?_
  refine OwnW.arraylength X0 (z := Int32.ofNat bs.length) (n := 4) d9_3 A1 (by simp) rfl ?_
  refine OwnW.ic_ne X0  (n1 := 34) (n2 := 7) d9_4 (by decide) rfl rfl (fun hc4 => ?_) (fun hc4 => ?_)
  · refine OwnW.iconst X0 (z := (0 : Int32)) (n := 35) d9_34 rfl rfl ?_
    exact OwnW.ireturn X0 rfl (Or.inr (Or.inl rfl)) rfl d9_35 ⟨by rw [if_neg (fun q => hc4 (by rw [q]))], rfl⟩ (by decide) (by decide)
  · refine OwnW.iconst X0 (z := (0 : Int32)) (n := 8) d9_7 rfl rfl ?_
    refine OwnW.istoreN X0 (l' := #[.val (.ref r0), .val (.ref r1), .val (.int (0 : Int32))]) (n := 9) d9_8 rfl rfl ?_
    have hla : as.length < 2147483648 := by simpa using A0.len
    have hlb : bs.length < 2147483648 := by simpa using A1.len
    have hl : as.length = bs.length := (own_eqn hla hlb).mp hc4
    refine OwnW.loopT X0 (fun (v : Nat) h' => v ≤ as.length ∧ h0 = h' ∧ ∀ j, j < v → as.getD j 0 = bs.getD j 0) (fun v => as.length - v) (fun v => mkF m 9 #[.val (.ref r0), .val (.ref r1), .val (.int (Int32.ofNat v))] []) ?_ _ _ 0 X0 ⟨Nat.zero_le _, rfl, fun j hj => absurd hj (Nat.not_lt_zero _)⟩
    intro T1 h1 i X1 ⟨hi, hh, hj⟩ IH
    subst hh
    have hii : i < 2147483648 := by omega
    refine OwnW.iloadN X1 (n := 10) d9_9 rfl rfl ?_
    refine OwnW.aloadN X1 (n := 11) d9_10 rfl rfl rfl ?_
    refine OwnW.arraylength X1 (z := Int32.ofNat as.length) (n := 12) d9_11 A0 (by simp) rfl ?_
    refine OwnW.ic_ge X1  (n1 := 32) (n2 := 15) d9_12 (by decide) rfl rfl (fun hc12 => ?_) (fun hc12 => ?_)
    · refine OwnW.iconst X1 (z := (1 : Int32)) (n := 33) d9_32 rfl rfl ?_
      exact OwnW.ireturn X1 rfl (Or.inr (Or.inl rfl)) rfl d9_33 ⟨by rw [if_pos (own_ext hl (fun j q => hj j (by have := mt (own_lt hii hla).mpr hc12; omega)))], rfl⟩ (by decide) (by decide)
    · refine OwnW.aloadN X1 (n := 16) d9_15 rfl rfl rfl ?_
      refine OwnW.iloadN X1 (n := 17) d9_16 rfl rfl ?_
      have hlt : i < as.length := (own_lt hii hla).mp hc12
      have hlt2 : i < bs.length := by omega
      refine OwnW.baload X1 (i := i) (v := (.int (as.getD i 0))) (n := 18) d9_17 A0 (own_nat hii) (own_get as hlt) rfl ?_
      refine OwnW.aloadN X1 (n := 19) d9_18 rfl rfl rfl ?_
      refine OwnW.iloadN X1 (n := 20) d9_19 rfl rfl ?_
      refine OwnW.baload X1 (i := i) (v := (.int (bs.getD i 0))) (n := 21) d9_20 A1 (own_nat hii) (own_get bs hlt2) rfl ?_
      refine OwnW.ic_eq X1  (n1 := 26) (n2 := 24) d9_21 (by decide) rfl rfl (fun hc21 => ?_) (fun hc21 => ?_)
      · refine OwnW.iinc X1 (z := (1 : Int32)) (u := (Int32.ofNat (i + 1))) (l' := #[.val (.ref r0), .val (.ref r1), .val (.int (Int32.ofNat (i + 1)))]) (n := 29) d9_26 rfl rfl (own_up i) rfl rfl ?_
        refine OwnW.goto X1 (n := 9) d9_29 (by decide) rfl ?_
        exact IH _ _ (i + 1) (by omega) X1 ⟨hlt, rfl, fun j q => (Nat.lt_succ_iff_lt_or_eq.mp q).elim (hj j) (fun z => z ▸ hc21)⟩
      · refine OwnW.iconst X1 (z := (0 : Int32)) (n := 25) d9_24 rfl rfl ?_
        exact OwnW.ireturn X1 rfl (Or.inr (Or.inl rfl)) rfl d9_25 ⟨by rw [if_neg (fun q => hc21 (by rw [q]))], rfl⟩ (by decide) (by decide)
theorem pd___B_B_Z : parseMethodDescriptor "([B[B)Z" = some ⟨[(.array .byte), (.array .byte)], some .boolean⟩ := by decide +kernel
theorem pn_java_lang_String : plainName "java/lang/String" = true := by first | (simp [plainName, overriddenIn]; done) | decide +kernel
theorem d8_0 : decode jdk_42_method_66_code 0 = .ok (.aload_n 0, 1) := by decide +kernel
theorem d8_1 : decode jdk_42_method_66_code 1 = .ok (.aload_n 1, 1) := by decide +kernel
theorem d8_2 : decode jdk_42_method_66_code 2 = .ok (.if_acmp .ne 5, 3) := by decide +kernel
theorem d8_5 : decode jdk_42_method_66_code 5 = .ok (.iconst 1, 1) := by decide +kernel
theorem d8_6 : decode jdk_42_method_66_code 6 = .ok (.ireturn, 1) := by decide +kernel
theorem d8_7 : decode jdk_42_method_66_code 7 = .ok (.aload_n 1, 1) := by decide +kernel
theorem d8_8 : decode jdk_42_method_66_code 8 = .ok (.instanceof 10, 3) := by decide +kernel
theorem d8_11 : decode jdk_42_method_66_code 11 = .ok (.ifCond .eq 43, 3) := by decide +kernel
theorem d8_14 : decode jdk_42_method_66_code 14 = .ok (.aload_n 1, 1) := by decide +kernel
theorem d8_15 : decode jdk_42_method_66_code 15 = .ok (.checkcast 10, 3) := by decide +kernel
theorem d8_18 : decode jdk_42_method_66_code 18 = .ok (.astore_n 2, 1) := by decide +kernel
theorem d8_19 : decode jdk_42_method_66_code 19 = .ok (.getstatic 38, 3) := by decide +kernel
theorem d8_22 : decode jdk_42_method_66_code 22 = .ok (.ifCond .eq 14, 3) := by decide +kernel
theorem d8_25 : decode jdk_42_method_66_code 25 = .ok (.aload_n 0, 1) := by decide +kernel
theorem d8_26 : decode jdk_42_method_66_code 26 = .ok (.getfield 15, 3) := by decide +kernel
theorem d8_29 : decode jdk_42_method_66_code 29 = .ok (.aload_n 2, 1) := by decide +kernel
theorem d8_30 : decode jdk_42_method_66_code 30 = .ok (.getfield 15, 3) := by decide +kernel
theorem d8_33 : decode jdk_42_method_66_code 33 = .ok (.if_icmp .ne 21, 3) := by decide +kernel
theorem d8_36 : decode jdk_42_method_66_code 36 = .ok (.aload_n 0, 1) := by decide +kernel
theorem d8_37 : decode jdk_42_method_66_code 37 = .ok (.getfield 9, 3) := by decide +kernel
theorem d8_40 : decode jdk_42_method_66_code 40 = .ok (.aload_n 2, 1) := by decide +kernel
theorem d8_41 : decode jdk_42_method_66_code 41 = .ok (.getfield 9, 3) := by decide +kernel
theorem d8_44 : decode jdk_42_method_66_code 44 = .ok (.invokestatic 541, 3) := by decide +kernel
theorem d8_47 : decode jdk_42_method_66_code 47 = .ok (.ifCond .eq 7, 3) := by decide +kernel
theorem d8_50 : decode jdk_42_method_66_code 50 = .ok (.iconst 1, 1) := by decide +kernel
theorem d8_51 : decode jdk_42_method_66_code 51 = .ok (.goto 4, 3) := by decide +kernel
theorem d8_54 : decode jdk_42_method_66_code 54 = .ok (.iconst 0, 1) := by decide +kernel
theorem d8_55 : decode jdk_42_method_66_code 55 = .ok (.ireturn, 1) := by decide +kernel
theorem ef_rm8 (m : MethodId) (x0 : Addr) (x1 : Addr) : entryFrame m #[(.ref x0), (.ref x1)] 3 = mkF m 0 #[.val (.ref x0), .val (.ref x1), .unset] [] := by first | (simp [entryFrame, mkF, argsToLocals, Value.category]; done) | rfl
set_option maxRecDepth 65536 in
set_option maxHeartbeats 40000000 in
theorem rm8 (l : Launch) (Z : State) (a0 : Array Value) (hw : ∀ d ∈ tables_1, d.before a0 Z = true) (hE : EW Z a0 own_EL) (ws : List Jvm.Cond) (r0 : Addr) (r1 : Addr) (h0 : Heap) (n0 : Nat) (O0 : Old Z n0 h0) (t u : Addr) (cs ds : List Int32) (hc : Lat cs) (hd : Lat ds) (S0 : StrL Z h0 r0 t cs) (S1 : StrL Z h0 r1 u ds) (zc : Int32) (hzc : ¬ zc = 0) (S_compact : Sta Z Z.heap "java/lang/String" "COMPACT_STRINGS" "Z" (.int zc)) :
    Ctr False l Z own_EL (⟨"java/lang/String", "equals", "(Ljava/lang/Object;)Z"⟩ : MethodName) jdk_42_method_66_code 3 (some .boolean) ws ({ frames := 1, cells := 0, slots := 0, locals := 14 } : Room) n0 ([]) #[(.ref r0), (.ref r1)] h0 (Rt (fun w h g => w = .int (if cs = ds then 1 else 0) ∧ h0 = h)) := by
  refine Ctr.of (plainFor_of_name pn_java_lang_String) hE (fun m => ef_rm8 m r0 r1) ?_
  intro p e s m below meth c T0 X0
  have Z0 : Keep h0 h0 [] := Keep.refl _ _
  refine OwnW.aloadN X0 (n := 1) d8_0 rfl rfl rfl ?_
  refine OwnW.aloadN X0 (n := 2) d8_1 rfl rfl rfl ?_
  refine OwnW.ac_ne X0 (n1 := 7) (n2 := 5) d8_2 rfl rfl (by decide) rfl rfl (fun hc2 => ?_) (fun hc2 => ?_)
  · refine OwnW.aloadN X0 (n := 8) d8_7 rfl rfl rfl ?_
    refine OwnW.instanceofY X0 (n := 11) d8_8 (hw _ (List.mem_of_getElem? (i := 56) rfl)) (Ins.self S1.1) rfl ?_
    intro T1 X1
    refine OwnW.if_eq X1  (n1 := 54) (n2 := 14) d8_11 (by decide) rfl rfl (fun q => absurd q ((by decide) : ¬ (1 : Int32) = 0)) (fun _ => ?_)
    refine OwnW.aloadN X1 (n := 15) d8_14 rfl rfl rfl ?_
    refine OwnW.checkcast X1 (n := 18) d8_15 (hw _ (List.mem_of_getElem? (i := 56) rfl)) (Ins.self S1.1) rfl ?_
    intro T2 X2
    refine OwnW.astoreN X2 (l' := #[.val (.ref r0), .val (.ref r1), .val (.ref r1)]) (n := 19) d8_18 rfl rfl rfl ?_
    refine OwnW.getstatic X2 (n := 22) d8_19 (hw _ (List.mem_of_getElem? (i := 57) rfl)) Via.refl (S_compact.ext O0.2) rfl ?_
    intro T3 X3
    refine OwnW.if_eq X3  (n1 := 36) (n2 := 25) d8_22 (by decide) rfl rfl (fun q => absurd q (hzc : ¬ zc = 0)) (fun _ => ?_)
    refine OwnW.aloadN X3 (n := 26) d8_25 rfl rfl rfl ?_
    refine OwnW.getfield X3 (n := 29) d8_26 (hw _ (List.mem_of_getElem? (i := 35) rfl)) Via.refl S0.2.1 rfl ?_
    intro T4 X4
    refine OwnW.aloadN X4 (n := 30) d8_29 rfl rfl rfl ?_
    refine OwnW.getfield X4 (n := 33) d8_30 (hw _ (List.mem_of_getElem? (i := 35) rfl)) Via.refl S1.2.1 rfl ?_
    intro T5 X5
    refine OwnW.ic_ne X5  (n1 := 54) (n2 := 36) d8_33 (by decide) rfl rfl (fun q => absurd ((by decide) : (0 : Int32) = (0 : Int32)) q) (fun _ => ?_)
    refine OwnW.aloadN X5 (n := 37) d8_36 rfl rfl rfl ?_
    refine OwnW.getfield X5 (n := 40) d8_37 (hw _ (List.mem_of_getElem? (i := 34) rfl)) Via.refl S0.2.2.1 rfl ?_
    intro T6 X6
    refine OwnW.aloadN X6 (n := 41) d8_40 rfl rfl rfl ?_
    refine OwnW.getfield X6 (n := 44) d8_41 (hw _ (List.mem_of_getElem? (i := 34) rfl)) Via.refl S1.2.2.1 rfl ?_
    intro T7 X7
    refine OwnW.call_static_v X7 (z := (⟨"java/lang/StringLatin1", "equals", "([B[B)Z"⟩ : MethodName)) (n := 47) d8_44 (hw _ (List.mem_of_getElem? (i := 58) rfl)) (hw _ (List.mem_of_getElem? (i := 59) rfl)) (hw _ (List.mem_of_getElem? (i := 61) rfl)) (hw _ (List.mem_of_getElem? (i := 60) rfl)) (by decide) (rm9 l Z a0 hw hE [] t u h0 n0 (cs.map lo8) (ds.map lo8) S0.2.2.2 S1.2.2.2) OwnW.sf0 (argsL := [(.ref t), (.ref u)]) (rest := []) rfl rfl (OwnW.lenA pd___B_B_Z rfl) (W := 0) (Nat.le_of_eq rfl) (by decide) (by decide) (by decide) (by decide) rfl ?_
    intro T8 h8 w8 g8 hle8 X8 ⟨q1, q2⟩
    subst q1 q2
    refine OwnW.if_eq X8  (n1 := 54) (n2 := 50) d8_47 (by decide) rfl rfl (fun hc47 => ?_) (fun hc47 => ?_)
    · refine OwnW.iconst X8 (z := (0 : Int32)) (n := 55) d8_54 rfl rfl ?_
      exact OwnW.ireturn X8 rfl (Or.inr (Or.inl rfl)) rfl d8_55 ⟨by simp only [own_map_iff hc hd] at hc47; split <;> simp_all, rfl⟩ (by decide) (by decide)
    · refine OwnW.iconst X8 (z := (1 : Int32)) (n := 51) d8_50 rfl rfl ?_
      refine OwnW.goto X8 (n := 55) d8_51 (by decide) rfl ?_
      exact OwnW.ireturn X8 rfl (Or.inr (Or.inl rfl)) rfl d8_55 ⟨by simp only [own_map_iff hc hd] at hc47; split <;> simp_all, rfl⟩ (by decide) (by decide)
  · refine OwnW.iconst X0 (z := (1 : Int32)) (n := 6) d8_5 rfl rfl ?_
    exact OwnW.ireturn X0 rfl (Or.inr (Or.inl rfl)) rfl d8_6 ⟨by cases hc2; rw [if_pos (own_map_inj hc hd (S0.eq S1))], rfl⟩ (by decide) (by decide)
theorem d4_0 : decode jdk_42_method_149_code 0 = .ok (.aload_n 0, 1) := by decide +kernel
theorem d4_1 : decode jdk_42_method_149_code 1 = .ok (.invokespecial 1, 3) := by decide +kernel
theorem d4_4 : decode jdk_42_method_149_code 4 = .ok (.iload_n 3, 1) := by decide +kernel
theorem d4_5 : decode jdk_42_method_149_code 5 = .ok (.ifCond .ne 22, 3) := by decide +kernel
theorem d4_8 : decode jdk_42_method_149_code 8 = .ok (.aload_n 0, 1) := by decide +kernel
theorem d4_9 : decode jdk_42_method_149_code 9 = .ok (.ldc 7, 2) := by decide +kernel
theorem d4_11 : decode jdk_42_method_149_code 11 = .ok (.getfield 9, 3) := by decide +kernel
theorem d4_14 : decode jdk_42_method_149_code 14 = .ok (.putfield 9, 3) := by decide +kernel
theorem d4_17 : decode jdk_42_method_149_code 17 = .ok (.aload_n 0, 1) := by decide +kernel
theorem d4_18 : decode jdk_42_method_149_code 18 = .ok (.ldc 7, 2) := by decide +kernel
theorem d4_20 : decode jdk_42_method_149_code 20 = .ok (.getfield 15, 3) := by decide +kernel
theorem d4_23 : decode jdk_42_method_149_code 23 = .ok (.putfield 15, 3) := by decide +kernel
theorem d4_26 : decode jdk_42_method_149_code 26 = .ok (.return_, 1) := by decide +kernel
theorem ef_rm4e (m : MethodId) (x0 : Addr) (x1 : Addr) : entryFrame m #[(.ref x0), (.ref x1), (.int (0 : Int32)), (.int (0 : Int32)), .null] 6 = mkF m 0 #[.val (.ref x0), .val (.ref x1), .val (.int (0 : Int32)), .val (.int (0 : Int32)), .val .null, .unset] [] := by first | (simp [entryFrame, mkF, argsToLocals, Value.category]; done) | rfl
set_option maxRecDepth 65536 in
set_option maxHeartbeats 40000000 in
theorem rm4e (l : Launch) (Z : State) (a0 : Array Value) (hw : ∀ d ∈ tables_1, d.before a0 Z = true) (hE : EW Z a0 own_EL) (ws : List Jvm.Cond) (r0 : Addr) (r1 : Addr) (h0 : Heap) (n0 : Nat) (O0 : Old Z n0 h0) (sfx : List Addr) (ge_r0 : n0 ≤ r0) (E0 : Exa Z h0 r0 "java/lang/String") (v1 v2 : Value) (F1 : Fld Z h0 r0 "java/lang/String" "value" "[B" v1) (F2 : Fld Z h0 r0 "java/lang/String" "coder" "B" v2) :
    Ctr False l Z own_EL (⟨"java/lang/String", "<init>", "([CIILjava/lang/Void;)V"⟩ : MethodName) jdk_42_method_149_code 6 none ws ({ frames := 1, cells := 4, slots := 8, locals := 12 } : Room) n0 (r0 :: sfx) #[(.ref r0), (.ref r1), (.int (0 : Int32)), (.int (0 : Int32)), .null] h0 (Rn (fun h g => Keep h0 h [r0] ∧ ∃ t, (∀ y ∈ sfx, y ≠ t) ∧ StrL Z h r0 t [])) := by
  refine Ctr.of (plainFor_of_name pn_java_lang_String) hE (fun m => ef_rm4e m r0 r1) ?_
  intro p e s m below meth c T0 X0
  have Z0 : Keep h0 h0 [r0] := Keep.refl _ _
  refine OwnW.aloadN X0 (n := 1) d4_0 rfl rfl rfl ?_
  refine OwnW.initObj X0 (W := 0) (n := 4) d4_1 (hw _ (List.mem_of_getElem? (i := 25) rfl)) (hw _ (List.mem_of_getElem? (i := 26) rfl)) (hw _ (List.mem_of_getElem? (i := 27) rfl)) rfl (by decide) (by decide) (by decide) rfl ?_
  intro T1 X1
  refine OwnW.iloadN X1 (n := 5) d4_4 rfl rfl ?_
  refine OwnW.if_ne X1  (n1 := 27) (n2 := 8) d4_5 (by decide) rfl rfl (fun q => absurd ((by decide) : (0 : Int32) = 0) q) (fun _ => ?_)
  refine OwnW.aloadN X1 (n := 9) d4_8 rfl rfl rfl ?_
  refine OwnW.ldcS X1 (bs := []) (nn := 0) (text := "") (n := 11) d4_9 (hw _ (List.mem_of_getElem? (i := 28) rfl)) (fun d hd => hw d ((by decide +kernel : ∀ d ∈ Bundle.stringAtoms, d ∈ tables_1) d hd)) (by decide) ⟨by decide, rfl⟩ (by decide) (by decide) (by decide) (by decide) (by decide) rfl ?_
  intro T2 h2 l2 t2 X2 E2 e2 c2 v2 a2 n2
  have K2 := (OwnW.kExt E2)
  have O2 := O0.keep K2 all0
  have Z2 : Keep h0 h2 [r0] := Z0.trans K2 (fun x hx => nomatch hx)
  obtain ⟨nl2, nt2⟩ := n2 r0 (List.mem_cons_self ..)
  have nx2 : ∀ y ∈ sfx, y ≠ t2 := fun y hx => (n2 y (List.mem_cons_of_mem _ hx)).2
  refine OwnW.getfield X2 (n := 14) d4_11 (hw _ (List.mem_of_getElem? (i := 34) rfl)) Via.refl v2 rfl ?_
  intro T3 X3
  have f4 := (F1.keep K2 nin0)
  have f5 := (E0.keep K2)
  refine OwnW.putfield X3 (ty := (.array .byte)) (v' := (.ref t2)) (n := 17) d4_14 (hw _ (List.mem_of_getElem? (i := 34) rfl)) Via.refl f4 f5 (Or.inr ⟨(hw _ (List.mem_of_getElem? (i := 30) rfl)), rfl, rfl⟩) (hw _ (List.mem_of_getElem? (i := 15) rfl)) (by decide) rfl rfl ge_r0 (List.mem_cons_self ..) rfl ?_
  intro T6 h6 X6 W6 Fw6
  have f7 := (F2.keep K2 nin0)
  have f8 := f7.other W6 (Or.inr (slot_ne (Or.inr (hw _ (List.mem_of_getElem? (i := 31) rfl))) (Or.inr (hw _ (List.mem_of_getElem? (i := 30) rfl))) (by decide) (t := .byte) (t' := (.array .byte)) (by decide) (by decide)))
  have K6 := (Keep.of_wr W6)
  have O6 := O2.keep K6 (allS ge_r0 all0)
  have Z6 : Keep h0 h6 [r0] := Z2.trans K6 (allS (P := fun x => x ∈ [r0] ∨ h0.size ≤ x) (Or.inl (List.mem_of_getElem? (i := 0) rfl)) all0)
  refine OwnW.aloadN X6 (n := 18) d4_17 rfl rfl rfl ?_
  refine OwnW.ldcS X6 (bs := []) (nn := 0) (text := "") (n := 20) d4_18 (hw _ (List.mem_of_getElem? (i := 28) rfl)) (fun d hd => hw d ((by decide +kernel : ∀ d ∈ Bundle.stringAtoms, d ∈ tables_1) d hd)) (by decide) ⟨by decide, rfl⟩ (by decide) (by decide) (by decide) (by decide) (by decide) rfl ?_
  intro T9 h9 l9 t9 X9 E9 e9 c9 v9 a9 n9
  have K9 := (OwnW.kExt E9)
  have O9 := O6.keep K9 all0
  have Z9 : Keep h0 h9 [r0] := Z6.trans K9 (fun x hx => nomatch hx)
  obtain ⟨nl9, nt9⟩ := n9 r0 (List.mem_cons_self ..)
  have nx9 : ∀ y ∈ sfx, y ≠ t9 := fun y hx => (n9 y (List.mem_cons_of_mem _ hx)).2
  refine OwnW.getfield X9 (n := 23) d4_20 (hw _ (List.mem_of_getElem? (i := 35) rfl)) Via.refl c9 rfl ?_
  intro T10 X10
  have f11 := (f8.keep K9 nin0)
  have f12 := ((f5.keep K6).keep K9)
  refine OwnW.putfield X10 (ty := .byte) (v' := (.int (0 : Int32))) (n := 26) d4_23 (hw _ (List.mem_of_getElem? (i := 35) rfl)) Via.refl f11 f12 (Or.inr ⟨(hw _ (List.mem_of_getElem? (i := 31) rfl)), rfl, rfl⟩) (hw _ (List.mem_of_getElem? (i := 15) rfl)) (by decide) rfl rfl ge_r0 (List.mem_cons_self ..) rfl ?_
  intro T13 h13 X13 W13 Fw13
  have f14 := (Fw6.keep K9 nin0)
  have f15 := f14.other W13 (Or.inr (slot_ne (Or.inr (hw _ (List.mem_of_getElem? (i := 30) rfl))) (Or.inr (hw _ (List.mem_of_getElem? (i := 31) rfl))) (by decide) (t := (.array .byte)) (t' := .byte) (by decide) (by decide)))
  have K13 := (Keep.of_wr W13)
  have O13 := O9.keep K13 (allS ge_r0 all0)
  have Z13 : Keep h0 h13 [r0] := Z9.trans K13 (allS (P := fun x => x ∈ [r0] ∨ h0.size ≤ x) (Or.inl (List.mem_of_getElem? (i := 0) rfl)) all0)
  have f16 := (f12.keep K13)
  have f17 := (((a2.keep K6 (ninS (Ne.symm nt2) nin0)).keep K9 nin0).keep K13 (ninS (Ne.symm nt2) nin0))
  exact OwnW.vreturn X13 rfl d4_26 ⟨Z13, _, nx2, f16, Fw13, f15, f17⟩ (by decide) (by decide)
theorem pd___CIILjava_lang_Void__V : parseMethodDescriptor "([CIILjava/lang/Void;)V" = some ⟨[(.array .char), .int, .int, (.object "java/lang/Void")], none⟩ := by decide +kernel
theorem d3_0 : decode jdk_42_method_3_code 0 = .ok (.aload_n 0, 1) := by decide +kernel
theorem d3_1 : decode jdk_42_method_3_code 1 = .ok (.aload_n 1, 1) := by decide +kernel
theorem d3_2 : decode jdk_42_method_3_code 2 = .ok (.iconst 0, 1) := by decide +kernel
theorem d3_3 : decode jdk_42_method_3_code 3 = .ok (.aload_n 1, 1) := by decide +kernel
theorem d3_4 : decode jdk_42_method_3_code 4 = .ok (.arraylength, 1) := by decide +kernel
theorem d3_5 : decode jdk_42_method_3_code 5 = .ok (.aconst_null, 1) := by decide +kernel
theorem d3_6 : decode jdk_42_method_3_code 6 = .ok (.invokespecial 27, 3) := by decide +kernel
theorem d3_9 : decode jdk_42_method_3_code 9 = .ok (.return_, 1) := by decide +kernel
theorem ef_rm3e (m : MethodId) (x0 : Addr) (x1 : Addr) : entryFrame m #[(.ref x0), (.ref x1)] 2 = mkF m 0 #[.val (.ref x0), .val (.ref x1)] [] := by first | (simp [entryFrame, mkF, argsToLocals, Value.category]; done) | rfl
set_option maxRecDepth 65536 in
set_option maxHeartbeats 40000000 in
theorem rm3e (l : Launch) (Z : State) (a0 : Array Value) (hw : ∀ d ∈ tables_1, d.before a0 Z = true) (hE : EW Z a0 own_EL) (ws : List Jvm.Cond) (r0 : Addr) (r1 : Addr) (h0 : Heap) (n0 : Nat) (O0 : Old Z n0 h0) (sfx : List Addr) (ge_r0 : n0 ≤ r0) (E0 : Exa Z h0 r0 "java/lang/String") (v1 v2 : Value) (F1 : Fld Z h0 r0 "java/lang/String" "value" "[B" v1) (F2 : Fld Z h0 r0 "java/lang/String" "coder" "B" v2) (A1 : Ark Z h0 r1 .char []) :
    Ctr False l Z own_EL (⟨"java/lang/String", "<init>", "([C)V"⟩ : MethodName) jdk_42_method_3_code 2 none ws ({ frames := 2, cells := 4, slots := 8, locals := 29 } : Room) n0 (r0 :: sfx) #[(.ref r0), (.ref r1)] h0 (Rn (fun h g => Keep h0 h [r0] ∧ ∃ t, (∀ y ∈ sfx, y ≠ t) ∧ StrL Z h r0 t [])) := by
  refine Ctr.of (plainFor_of_name pn_java_lang_String) hE (fun m => ef_rm3e m r0 r1) ?_
  intro p e s m below meth c T0 X0
  have Z0 : Keep h0 h0 [r0] := Keep.refl _ _
  refine OwnW.aloadN X0 (n := 1) d3_0 rfl rfl rfl ?_
  refine OwnW.aloadN X0 (n := 2) d3_1 rfl rfl rfl ?_
  refine OwnW.iconst X0 (z := (0 : Int32)) (n := 3) d3_2 rfl rfl ?_
  refine OwnW.aloadN X0 (n := 4) d3_3 rfl rfl rfl ?_
  refine OwnW.arraylength X0 (z := (0 : Int32)) (n := 5) d3_4 A1 rfl rfl ?_
  refine OwnW.anull X0 (n := 6) d3_5 rfl ?_
  refine OwnW.call_special_n X0 (z := (⟨"java/lang/String", "<init>", "([CIILjava/lang/Void;)V"⟩ : MethodName)) (a := r0) (n := 9) d3_6 (hw _ (List.mem_of_getElem? (i := 21) rfl)) (hw _ (List.mem_of_getElem? (i := 22) rfl)) (hw _ (List.mem_of_getElem? (i := 24) rfl)) (hw _ (List.mem_of_getElem? (i := 16) rfl)) rfl rfl (by decide) (rm4e l Z a0 hw hE [] r0 r1 h0 n0 O0 sfx ge_r0 E0 v1 v2 F1 F2) (OwnW.sfS (List.mem_cons_self ..) (fun x hx => (List.mem_cons_of_mem _ hx))) (argsL := [(.ref r1), (.int (0 : Int32)), (.int (0 : Int32)), .null]) (rest := []) rfl rfl (OwnW.lenA pd___CIILjava_lang_Void__V rfl) (W := 0) (Nat.le_of_eq rfl) (by decide) (by decide) (by decide) (by decide) rfl ?_
  intro T1 h1 g1 hle1 X1 qq1
  exact OwnW.vreturn X1 rfl d3_9 qq1 (by decide) (by decide)
theorem pn_java_lang_StringUTF16 : plainName "java/lang/StringUTF16" = true := by first | (simp [plainName, overriddenIn]; done) | decide +kernel
theorem d11_0 : decode jdk_52_method_21_code 0 = .ok (.iconst 0, 1) := by decide +kernel
theorem d11_1 : decode jdk_52_method_21_code 1 = .ok (.istore 5, 2) := by decide +kernel
theorem d11_3 : decode jdk_52_method_21_code 3 = .ok (.iload 5, 2) := by decide +kernel
theorem d11_5 : decode jdk_52_method_21_code 5 = .ok (.iload 4, 2) := by decide +kernel
theorem d11_7 : decode jdk_52_method_21_code 7 = .ok (.if_icmp .ge 37, 3) := by decide +kernel
theorem d11_10 : decode jdk_52_method_21_code 10 = .ok (.aload_n 0, 1) := by decide +kernel
theorem d11_11 : decode jdk_52_method_21_code 11 = .ok (.iload_n 1, 1) := by decide +kernel
theorem d11_12 : decode jdk_52_method_21_code 12 = .ok (.caload, 1) := by decide +kernel
theorem d11_13 : decode jdk_52_method_21_code 13 = .ok (.istore 6, 2) := by decide +kernel
theorem d11_15 : decode jdk_52_method_21_code 15 = .ok (.iload 6, 2) := by decide +kernel
theorem d11_17 : decode jdk_52_method_21_code 17 = .ok (.sipush 255, 3) := by decide +kernel
theorem d11_20 : decode jdk_52_method_21_code 20 = .ok (.if_icmp .le 6, 3) := by decide +kernel
theorem d11_26 : decode jdk_52_method_21_code 26 = .ok (.aload_n 2, 1) := by decide +kernel
theorem d11_27 : decode jdk_52_method_21_code 27 = .ok (.iload_n 3, 1) := by decide +kernel
theorem d11_28 : decode jdk_52_method_21_code 28 = .ok (.iload 6, 2) := by decide +kernel
theorem d11_30 : decode jdk_52_method_21_code 30 = .ok (.i2b, 1) := by decide +kernel
theorem d11_31 : decode jdk_52_method_21_code 31 = .ok (.bastore, 1) := by decide +kernel
theorem d11_32 : decode jdk_52_method_21_code 32 = .ok (.iinc 1 1, 3) := by decide +kernel
theorem d11_35 : decode jdk_52_method_21_code 35 = .ok (.iinc 3 1, 3) := by decide +kernel
theorem d11_38 : decode jdk_52_method_21_code 38 = .ok (.iinc 5 1, 3) := by decide +kernel
theorem d11_41 : decode jdk_52_method_21_code 41 = .ok (.goto (-38), 3) := by decide +kernel
theorem d11_44 : decode jdk_52_method_21_code 44 = .ok (.iload 4, 2) := by decide +kernel
theorem d11_46 : decode jdk_52_method_21_code 46 = .ok (.ireturn, 1) := by decide +kernel
theorem ef_rm11 (m : MethodId) (x0 : Addr) (x2 : Addr) (x4 : Int32) : entryFrame m #[(.ref x0), (.int (0 : Int32)), (.ref x2), (.int (0 : Int32)), (.int x4)] 7 = mkF m 0 #[.val (.ref x0), .val (.int (0 : Int32)), .val (.ref x2), .val (.int (0 : Int32)), .val (.int x4), .unset, .unset] [] := by first | (simp [entryFrame, mkF, argsToLocals, Value.category]; done) | rfl
set_option maxRecDepth 65536 in
set_option maxHeartbeats 40000000 in
theorem rm11 (l : Launch) (Z : State) (a0 : Array Value) (hw : ∀ d ∈ tables_1, d.before a0 Z = true) (hE : EW Z a0 own_EL) (ws : List Jvm.Cond) (r0 : Addr) (r2 : Addr) (h0 : Heap) (n0 : Nat) (O0 : Old Z n0 h0) (cs : List Int32) (hp : ∀ c ∈ cs, ¬ 255 < c) (A0 : Ark Z h0 r0 .char (cs.map Value.int)) (A2 : Ark Z h0 r2 .byte (List.replicate cs.length (.int 0))) (ge_r2 : n0 ≤ r2) (ne02 : r0 ≠ r2) :
    Ctr False l Z own_EL (⟨"java/lang/StringUTF16", "compress", "([CI[BII)I"⟩ : MethodName) jdk_52_method_21_code 7 (some .int) ws ({ frames := 0, cells := 0, slots := 0, locals := 0 } : Room) n0 (r2 :: []) #[(.ref r0), (.int (0 : Int32)), (.ref r2), (.int (0 : Int32)), (.int (Int32.ofNat cs.length))] h0 (Rt (fun w h g => w = .int (Int32.ofNat cs.length) ∧ Keep h0 h [r2] ∧ Ark Z h r2 .byte ((cs.map lo8).map Value.int))) := by
  refine Ctr.of (plainFor_of_name pn_java_lang_StringUTF16) hE (fun m => ef_rm11 m r0 r2 (Int32.ofNat cs.length)) ?_
  intro p e s m below meth c T0 X0
  have Z0 : Keep h0 h0 [r2] := Keep.refl _ _
  refine OwnW.iconst X0 (z := (0 : Int32)) (n := 1) d11_0 rfl rfl ?_
  refine OwnW.istore X0 (l' := #[.val (.ref r0), .val (.int (0 : Int32)), .val (.ref r2), .val (.int (0 : Int32)), .val (.int (Int32.ofNat cs.length)), .val (.int (0 : Int32)), .unset]) (n := 3) d11_1 rfl rfl ?_
  have hl : cs.length < 2147483648 := by simpa using A0.len
  refine OwnW.loopT X0 (fun (v : Nat × Slot) h' => v.1 ≤ cs.length ∧ One v.2 ∧ Keep h0 h' [r2] ∧ Ark Z h' r2 .byte (own_dst cs v.1)) (fun v => cs.length - v.1) (fun v => mkF m 3 #[.val (.ref r0), .val (.int (Int32.ofNat v.1)), .val (.ref r2), .val (.int (Int32.ofNat v.1)), .val (.int (Int32.ofNat cs.length)), .val (.int (Int32.ofNat v.1)), v.2] []) ?_ _ _ (0, .unset) X0 ⟨Nat.zero_le _, One.u, Keep.refl _ _, by rw [own_dst0]; exact A2⟩
  intro T1 h1 ⟨i, sl⟩ X1 ⟨hi, hsl, K1, A1⟩ IH
  dsimp only at hi hsl K1 A1 IH ⊢
  have hii : i < 2147483648 := by omega
  refine OwnW.iload X1 (n := 5) d11_3 rfl rfl ?_
  refine OwnW.iload X1 (n := 7) d11_5 rfl rfl ?_
  refine OwnW.ic_ge X1  (n1 := 44) (n2 := 10) d11_7 (by decide) rfl rfl (fun hc7 => ?_) (fun hc7 => ?_)
  · have hin : i = cs.length := by have := mt (own_lt hii hl).mpr hc7; omega
    subst hin
    refine OwnW.iload X1 (n := 46) d11_44 rfl rfl ?_
    exact OwnW.ireturn X1 rfl (Or.inl rfl) rfl d11_46 ⟨rfl, K1, by rw [← own_dstN]; exact A1⟩ (by decide) (by decide)
  · refine OwnW.aloadN X1 (n := 11) d11_10 rfl rfl rfl ?_
    refine OwnW.iloadN X1 (n := 12) d11_11 rfl rfl ?_
    have hlt : i < cs.length := (own_lt hii hl).mp hc7
    obtain ⟨cc, ecc⟩ : ∃ z, z = cs.getD i 0 := ⟨_, rfl⟩
    have hcc := own_get cs hlt
    rw [← ecc] at hcc
    have hp1 := hp _ (own_mem cs hlt)
    rw [← ecc] at hp1
    refine OwnW.caload X1 (i := i) (v := (.int cc)) (n := 13) d11_12 (A0.keep K1 (OwnW.nin1 ne02)) (own_nat hii) hcc rfl ?_
    refine OwnW.istore X1 (l' := #[.val (.ref r0), .val (.int (Int32.ofNat i)), .val (.ref r2), .val (.int (Int32.ofNat i)), .val (.int (Int32.ofNat cs.length)), .val (.int (Int32.ofNat i)), .val (.int cc)]) (n := 15) d11_13 (by rw [XS.store1 rfl hsl rfl]; rfl) rfl ?_
    refine OwnW.iload X1 (n := 17) d11_15 rfl rfl ?_
    refine OwnW.sipush X1 (z := (255 : Int32)) (n := 20) d11_17 rfl rfl ?_
    refine OwnW.ic_le X1  (n1 := 26) (n2 := 23) d11_20 (by decide) rfl rfl (fun _ => ?_) (fun q => absurd q (hp1 : ¬ (255 : Int32) < cc))
    refine OwnW.aloadN X1 (n := 27) d11_26 rfl rfl rfl ?_
    refine OwnW.iloadN X1 (n := 28) d11_27 rfl rfl ?_
    refine OwnW.iload X1 (n := 30) d11_28 rfl rfl ?_
    refine OwnW.i2b X1 (n := 31) d11_30 rfl ?_
    refine OwnW.bastore X1 (i := i) (z := lo8 cc) (n := 32) d11_31 A1 (own_nat hii) (by rw [own_dst_len cs hi]; exact hlt) (own_narB cc) ge_r2 (List.mem_cons_self ..) rfl ?_
    intro T2 h2 X2 W2 A2'
    rw [ecc, own_dst_set cs hlt] at A2'
    refine OwnW.iinc X2 (z := (1 : Int32)) (u := (Int32.ofNat (i + 1))) (l' := #[.val (.ref r0), .val (.int (Int32.ofNat (i + 1))), .val (.ref r2), .val (.int (Int32.ofNat i)), .val (.int (Int32.ofNat cs.length)), .val (.int (Int32.ofNat i)), .val (.int cc)]) (n := 35) d11_32 rfl rfl (own_up i) rfl rfl ?_
    refine OwnW.iinc X2 (z := (1 : Int32)) (u := (Int32.ofNat (i + 1))) (l' := #[.val (.ref r0), .val (.int (Int32.ofNat (i + 1))), .val (.ref r2), .val (.int (Int32.ofNat (i + 1))), .val (.int (Int32.ofNat cs.length)), .val (.int (Int32.ofNat i)), .val (.int cc)]) (n := 38) d11_35 rfl rfl (own_up i) rfl rfl ?_
    refine OwnW.iinc X2 (z := (1 : Int32)) (u := (Int32.ofNat (i + 1))) (l' := #[.val (.ref r0), .val (.int (Int32.ofNat (i + 1))), .val (.ref r2), .val (.int (Int32.ofNat (i + 1))), .val (.int (Int32.ofNat cs.length)), .val (.int (Int32.ofNat (i + 1))), .val (.int cc)]) (n := 41) d11_38 rfl rfl (own_up i) rfl rfl ?_
    refine OwnW.goto X2 (n := 3) d11_41 (by decide) rfl ?_
    exact IH _ _ (i + 1, .val (.int cc)) (by dsimp only; omega) X2 ⟨hlt, One.val rfl, K1.wr W2 (Or.inl (List.mem_cons_self ..)), A2'⟩
theorem pd___CI_BII_I : parseMethodDescriptor "([CI[BII)I" = some ⟨[(.array .char), .int, (.array .byte), .int, .int], some .int⟩ := by decide +kernel
theorem d10_0 : decode jdk_52_method_16_code 0 = .ok (.iload_n 2, 1) := by decide +kernel
theorem d10_1 : decode jdk_52_method_16_code 1 = .ok (.newarray .byte, 2) := by decide +kernel
theorem d10_3 : decode jdk_52_method_16_code 3 = .ok (.astore_n 3, 1) := by decide +kernel
theorem d10_4 : decode jdk_52_method_16_code 4 = .ok (.aload_n 0, 1) := by decide +kernel
theorem d10_5 : decode jdk_52_method_16_code 5 = .ok (.iload_n 1, 1) := by decide +kernel
theorem d10_6 : decode jdk_52_method_16_code 6 = .ok (.aload_n 3, 1) := by decide +kernel
theorem d10_7 : decode jdk_52_method_16_code 7 = .ok (.iconst 0, 1) := by decide +kernel
theorem d10_8 : decode jdk_52_method_16_code 8 = .ok (.iload_n 2, 1) := by decide +kernel
theorem d10_9 : decode jdk_52_method_16_code 9 = .ok (.invokestatic 115, 3) := by decide +kernel
theorem d10_12 : decode jdk_52_method_16_code 12 = .ok (.istore 4, 2) := by decide +kernel
theorem d10_14 : decode jdk_52_method_16_code 14 = .ok (.iload 4, 2) := by decide +kernel
theorem d10_16 : decode jdk_52_method_16_code 16 = .ok (.iload_n 2, 1) := by decide +kernel
theorem d10_17 : decode jdk_52_method_16_code 17 = .ok (.if_icmp .eq 40, 3) := by decide +kernel
theorem d10_57 : decode jdk_52_method_16_code 57 = .ok (.aload_n 3, 1) := by decide +kernel
theorem d10_58 : decode jdk_52_method_16_code 58 = .ok (.areturn, 1) := by decide +kernel
theorem ef_rm10 (m : MethodId) (x0 : Addr) (x2 : Int32) : entryFrame m #[(.ref x0), (.int (0 : Int32)), (.int x2)] 6 = mkF m 0 #[.val (.ref x0), .val (.int (0 : Int32)), .val (.int x2), .unset, .unset, .unset] [] := by first | (simp [entryFrame, mkF, argsToLocals, Value.category]; done) | rfl
set_option maxRecDepth 65536 in
set_option maxHeartbeats 40000000 in
theorem rm10 (l : Launch) (Z : State) (a0 : Array Value) (hw : ∀ d ∈ tables_1, d.before a0 Z = true) (hE : EW Z a0 own_EL) (ws : List Jvm.Cond) (r0 : Addr) (h0 : Heap) (n0 : Nat) (O0 : Old Z n0 h0) (cs : List Int32) (hp : ∀ c ∈ cs, ¬ 255 < c) (hcap : cs.length ≤ 3) (A0 : Ark Z h0 r0 .char (cs.map Value.int)) :
    Ctr False l Z own_EL (⟨"java/lang/StringUTF16", "compress", "([CII)[B"⟩ : MethodName) jdk_52_method_16_code 6 (some (.array .byte)) ws ({ frames := 1, cells := 1, slots := 3, locals := 18 } : Room) n0 ([]) #[(.ref r0), (.int (0 : Int32)), (.int (Int32.ofNat cs.length))] h0 (Rt (fun w h g => ∃ t, w = .ref t ∧ Keep h0 h [] ∧ h0.size ≤ t ∧ Ark Z h t .byte ((cs.map lo8).map Value.int) ∧ t ∈ g)) := by
  refine Ctr.of (plainFor_of_name pn_java_lang_StringUTF16) hE (fun m => ef_rm10 m r0 (Int32.ofNat cs.length)) ?_
  intro p e s m below meth c T0 X0
  have Z0 : Keep h0 h0 [] := Keep.refl _ _
  refine OwnW.iloadN X0 (n := 1) d10_0 rfl rfl ?_
  refine OwnW.newarray X0 (len := cs.length) (cap := 3) (n := 3) d10_1 (hw _ (List.mem_of_getElem? (i := 29) rfl)) (own_nat (by omega)) hcap (by decide) (by decide) (by decide) rfl ?_
  intro T1 h1 b1 gb1 X1 E1 A1
  have ne_r0_b1 : r0 ≠ b1 := by rw [gb1]; exact Nat.ne_of_lt A0.lt
  have ge_b1 : n0 ≤ b1 := by rw [gb1]; exact OwnW.oldLe O0
  have K1 := (OwnW.kExt E1)
  have O1 := O0.keep K1 all0
  have Z1 : Keep h0 h1 [] := Z0.trans K1 (fun x hx => nomatch hx)
  have sz_b1 : h0.size ≤ b1 := by rw [gb1]; exact Z0.1
  refine OwnW.astoreN X1 (l' := #[.val (.ref r0), .val (.int (0 : Int32)), .val (.int (Int32.ofNat cs.length)), .val (.ref b1), .unset, .unset]) (n := 4) d10_3 rfl rfl rfl ?_
  refine OwnW.aloadN X1 (n := 5) d10_4 rfl rfl rfl ?_
  refine OwnW.iloadN X1 (n := 6) d10_5 rfl rfl ?_
  refine OwnW.aloadN X1 (n := 7) d10_6 rfl rfl rfl ?_
  refine OwnW.iconst X1 (z := (0 : Int32)) (n := 8) d10_7 rfl rfl ?_
  refine OwnW.iloadN X1 (n := 9) d10_8 rfl rfl ?_
  have f2 := (A0.keep K1 nin0)
  refine OwnW.call_static_v X1 (z := (⟨"java/lang/StringUTF16", "compress", "([CI[BII)I"⟩ : MethodName)) (n := 12) d10_9 (hw _ (List.mem_of_getElem? (i := 70) rfl)) (hw _ (List.mem_of_getElem? (i := 71) rfl)) (hw _ (List.mem_of_getElem? (i := 72) rfl)) (hw _ (List.mem_of_getElem? (i := 68) rfl)) (by decide) (rm11 l Z a0 hw hE [] r0 b1 h1 n0 O1 cs hp f2 A1 ge_b1 ne_r0_b1) (OwnW.sfS (List.mem_cons_self ..) OwnW.sf0) (argsL := [(.ref r0), (.int (0 : Int32)), (.ref b1), (.int (0 : Int32)), (.int (Int32.ofNat cs.length))]) (rest := []) rfl rfl (OwnW.lenA pd___CI_BII_I rfl) (W := 0) (Nat.le_of_eq rfl) (by decide) (by decide) (by decide) (by decide) rfl ?_
  intro T3 h3 w3 g3 hle3 X3 ⟨q1, k3, a3⟩
  subst q1
  have K3 := k3
  have O3 := O1.keep K3 (allS ge_b1 all0)
  have Z3 : Keep h0 h3 [] := Z1.trans K3 (allS (P := fun x => x ∈ [] ∨ h0.size ≤ x) (Or.inr sz_b1) all0)
  refine OwnW.istore X3 (l' := #[.val (.ref r0), .val (.int (0 : Int32)), .val (.int (Int32.ofNat cs.length)), .val (.ref b1), .val (.int (Int32.ofNat cs.length)), .unset]) (n := 14) d10_12 rfl rfl ?_
  refine OwnW.iload X3 (n := 16) d10_14 rfl rfl ?_
  refine OwnW.iloadN X3 (n := 17) d10_16 rfl rfl ?_
  refine OwnW.ic_eq X3  (n1 := 57) (n2 := 20) d10_17 (by decide) rfl rfl (fun _ => ?_) (fun q => absurd (rfl : (Int32.ofNat cs.length) = (Int32.ofNat cs.length)) q)
  refine OwnW.aloadN X3 (n := 58) d10_57 rfl rfl rfl ?_
  exact OwnW.areturn X3 rfl rfl rfl d10_58 ⟨_, rfl, Z3, sz_b1, a3, (List.mem_append_left _ (List.mem_cons_self ..))⟩ (by decide) (by decide)
theorem d12_0 : decode jdk_52_method_15_code 0 = .ok (.iload_n 1, 1) := by decide +kernel
theorem d12_1 : decode jdk_52_method_15_code 1 = .ok (.aload_n 0, 1) := by decide +kernel
theorem d12_2 : decode jdk_52_method_15_code 2 = .ok (.arraylength, 1) := by decide +kernel
theorem d12_3 : decode jdk_52_method_15_code 3 = .ok (.isub, 1) := by decide +kernel
theorem d12_4 : decode jdk_52_method_15_code 4 = .ok (.bipush 31, 2) := by decide +kernel
theorem d12_6 : decode jdk_52_method_15_code 6 = .ok (.iushr, 1) := by decide +kernel
theorem d12_7 : decode jdk_52_method_15_code 7 = .ok (.i2b, 1) := by decide +kernel
theorem d12_8 : decode jdk_52_method_15_code 8 = .ok (.ireturn, 1) := by decide +kernel
theorem ef_rm12 (m : MethodId) (x0 : Addr) (x1 : Int32) : entryFrame m #[(.ref x0), (.int x1)] 2 = mkF m 0 #[.val (.ref x0), .val (.int x1)] [] := by first | (simp [entryFrame, mkF, argsToLocals, Value.category]; done) | rfl
set_option maxRecDepth 65536 in
set_option maxHeartbeats 40000000 in
theorem rm12 (l : Launch) (Z : State) (a0 : Array Value) (hw : ∀ d ∈ tables_1, d.before a0 Z = true) (hE : EW Z a0 own_EL) (ws : List Jvm.Cond) (r0 : Addr) (h0 : Heap) (n0 : Nat) (cs : List Int32) (A0 : Ark Z h0 r0 .byte ((cs.map lo8).map Value.int)) :
    Ctr False l Z own_EL (⟨"java/lang/StringUTF16", "coderFromArrayLen", "([BI)B"⟩ : MethodName) jdk_52_method_15_code 2 (some .byte) ws ({ frames := 0, cells := 0, slots := 0, locals := 0 } : Room) n0 ([]) #[(.ref r0), (.int (Int32.ofNat cs.length))] h0 (Rt (fun w h g => w = .int 0 ∧ h0 = h)) := by
  refine Ctr.of (plainFor_of_name pn_java_lang_StringUTF16) hE (fun m => ef_rm12 m r0 (Int32.ofNat cs.length)) ?_
  intro p e s m below meth c T0 X0
  refine OwnW.iloadN X0 (n := 1) d12_0 rfl rfl ?_
  refine OwnW.aloadN X0 (n := 2) d12_1 rfl rfl rfl ?_
  refine OwnW.arraylength X0 (z := Int32.ofNat cs.length) (n := 3) d12_2 A0 (by simp) rfl ?_
  refine OwnW.isub X0 (n := 4) d12_3 rfl ?_
  refine OwnW.bipush X0 (z := (31 : Int32)) (n := 6) d12_4 rfl rfl ?_
  refine OwnW.iushr X0 (n := 7) d12_6 rfl ?_
  refine OwnW.i2b X0 (n := 8) d12_7 rfl ?_
  rw [own_c0]
  exact OwnW.ireturn X0 rfl (Or.inr (Or.inr (Or.inl rfl))) rfl d12_8 ⟨rfl, rfl⟩ (by decide) (by decide)
theorem pd___CII__B : parseMethodDescriptor "([CII)[B" = some ⟨[(.array .char), .int, .int], some (.array .byte)⟩ := by decide +kernel
theorem pd___BI_B : parseMethodDescriptor "([BI)B" = some ⟨[(.array .byte), .int], some .byte⟩ := by decide +kernel
theorem d4_27 : decode jdk_42_method_149_code 27 = .ok (.getstatic 38, 3) := by decide +kernel
theorem d4_30 : decode jdk_42_method_149_code 30 = .ok (.ifCond .eq 28, 3) := by decide +kernel
theorem d4_33 : decode jdk_42_method_149_code 33 = .ok (.aload_n 1, 1) := by decide +kernel
theorem d4_34 : decode jdk_42_method_149_code 34 = .ok (.iload_n 2, 1) := by decide +kernel
theorem d4_35 : decode jdk_42_method_149_code 35 = .ok (.iload_n 3, 1) := by decide +kernel
theorem d4_36 : decode jdk_42_method_149_code 36 = .ok (.invokestatic 177, 3) := by decide +kernel
theorem d4_39 : decode jdk_42_method_149_code 39 = .ok (.astore 5, 2) := by decide +kernel
theorem d4_41 : decode jdk_42_method_149_code 41 = .ok (.aload_n 0, 1) := by decide +kernel
theorem d4_42 : decode jdk_42_method_149_code 42 = .ok (.aload 5, 2) := by decide +kernel
theorem d4_44 : decode jdk_42_method_149_code 44 = .ok (.iload_n 3, 1) := by decide +kernel
theorem d4_45 : decode jdk_42_method_149_code 45 = .ok (.invokestatic 47, 3) := by decide +kernel
theorem d4_48 : decode jdk_42_method_149_code 48 = .ok (.putfield 15, 3) := by decide +kernel
theorem d4_51 : decode jdk_42_method_149_code 51 = .ok (.aload_n 0, 1) := by decide +kernel
theorem d4_52 : decode jdk_42_method_149_code 52 = .ok (.aload 5, 2) := by decide +kernel
theorem d4_54 : decode jdk_42_method_149_code 54 = .ok (.putfield 9, 3) := by decide +kernel
theorem d4_57 : decode jdk_42_method_149_code 57 = .ok (.return_, 1) := by decide +kernel
theorem ef_rm4 (m : MethodId) (x0 : Addr) (x1 : Addr) (x3 : Int32) : entryFrame m #[(.ref x0), (.ref x1), (.int (0 : Int32)), (.int x3), .null] 6 = mkF m 0 #[.val (.ref x0), .val (.ref x1), .val (.int (0 : Int32)), .val (.int x3), .val .null, .unset] [] := by first | (simp [entryFrame, mkF, argsToLocals, Value.category]; done) | rfl
set_option maxRecDepth 65536 in
set_option maxHeartbeats 40000000 in
theorem rm4 (l : Launch) (Z : State) (a0 : Array Value) (hw : ∀ d ∈ tables_1, d.before a0 Z = true) (hE : EW Z a0 own_EL) (ws : List Jvm.Cond) (r0 : Addr) (r1 : Addr) (h0 : Heap) (n0 : Nat) (O0 : Old Z n0 h0) (ge_r0 : n0 ≤ r0) (E0 : Exa Z h0 r0 "java/lang/String") (v1 v2 : Value) (F1 : Fld Z h0 r0 "java/lang/String" "value" "[B" v1) (F2 : Fld Z h0 r0 "java/lang/String" "coder" "B" v2) (cs : List Int32) (hp : ∀ c ∈ cs, ¬ 255 < c) (hpos : 0 < cs.length) (hcap : cs.length ≤ 3) (A1 : Ark Z h0 r1 .char (cs.map Value.int)) (ne01 : r0 ≠ r1) (zc : Int32) (hzc : ¬ zc = 0) (S_compact : Sta Z Z.heap "java/lang/String" "COMPACT_STRINGS" "Z" (.int zc)) :
    Ctr False l Z own_EL (⟨"java/lang/String", "<init>", "([CIILjava/lang/Void;)V"⟩ : MethodName) jdk_42_method_149_code 6 none ws ({ frames := 2, cells := 1, slots := 3, locals := 35 } : Room) n0 (r0 :: []) #[(.ref r0), (.ref r1), (.int (0 : Int32)), (.int (Int32.ofNat cs.length)), .null] h0 (Rn (fun h g => Keep h0 h [r0] ∧ ∃ t, h0.size ≤ t ∧ StrL Z h r0 t cs)) := by
  refine Ctr.of (plainFor_of_name pn_java_lang_String) hE (fun m => ef_rm4 m r0 r1 (Int32.ofNat cs.length)) ?_
  intro p e s m below meth c T0 X0
  have Z0 : Keep h0 h0 [r0] := Keep.refl _ _
  refine OwnW.aloadN X0 (n := 1) d4_0 rfl rfl rfl ?_
  refine OwnW.initObj X0 (W := 0) (n := 4) d4_1 (hw _ (List.mem_of_getElem? (i := 25) rfl)) (hw _ (List.mem_of_getElem? (i := 26) rfl)) (hw _ (List.mem_of_getElem? (i := 27) rfl)) rfl (by decide) (by decide) (by decide) rfl ?_
  intro T1 X1
  refine OwnW.iloadN X1 (n := 5) d4_4 rfl rfl ?_
  refine OwnW.if_ne X1  (n1 := 27) (n2 := 8) d4_5 (by decide) rfl rfl (fun _ => ?_) (fun q => absurd q ((fun q => by have z := (own_eqn (i := cs.length) (n := 0) (by omega) (by decide)).mp q; omega) : ¬ (Int32.ofNat cs.length) = 0))
  refine OwnW.getstatic X1 (n := 30) d4_27 (hw _ (List.mem_of_getElem? (i := 57) rfl)) Via.refl (S_compact.ext O0.2) rfl ?_
  intro T2 X2
  refine OwnW.if_eq X2  (n1 := 58) (n2 := 33) d4_30 (by decide) rfl rfl (fun q => absurd q (hzc : ¬ zc = 0)) (fun _ => ?_)
  refine OwnW.aloadN X2 (n := 34) d4_33 rfl rfl rfl ?_
  refine OwnW.iloadN X2 (n := 35) d4_34 rfl rfl ?_
  refine OwnW.iloadN X2 (n := 36) d4_35 rfl rfl ?_
  refine OwnW.call_static_v X2 (z := (⟨"java/lang/StringUTF16", "compress", "([CII)[B"⟩ : MethodName)) (n := 39) d4_36 (hw _ (List.mem_of_getElem? (i := 66) rfl)) (hw _ (List.mem_of_getElem? (i := 67) rfl)) (hw _ (List.mem_of_getElem? (i := 69) rfl)) (hw _ (List.mem_of_getElem? (i := 68) rfl)) (by decide) (rm10 l Z a0 hw hE [] r1 h0 n0 O0 cs hp hcap A1) OwnW.sf0 (argsL := [(.ref r1), (.int (0 : Int32)), (.int (Int32.ofNat cs.length))]) (rest := []) rfl rfl (OwnW.lenA pd___CII__B rfl) (W := 0) (Nat.le_of_eq rfl) (by decide) (by decide) (by decide) (by decide) rfl ?_
  intro T3 h3 w3 g3 hle3 X3 ⟨t3, q1, k3, z3, a3, m3⟩
  subst q1
  have ne_r0_t3 : r0 ≠ t3 := Nat.ne_of_lt (Nat.lt_of_lt_of_le E0.lt z3)
  have ne_r1_t3 : r1 ≠ t3 := Nat.ne_of_lt (Nat.lt_of_lt_of_le A1.lt z3)
  have K3 := k3
  have O3 := O0.keep K3 all0
  have Z3 : Keep h0 h3 [r0] := Z0.trans K3 (fun x hx => nomatch hx)
  have szt : h0.size ≤ t3 := Nat.le_trans Z0.1 z3
  refine OwnW.astore X3 (l' := #[.val (.ref r0), .val (.ref r1), .val (.int (0 : Int32)), .val (.int (Int32.ofNat cs.length)), .val .null, .val (.ref t3)]) (n := 41) d4_39 rfl rfl rfl ?_
  refine OwnW.aloadN X3 (n := 42) d4_41 rfl rfl rfl ?_
  refine OwnW.aload X3 (n := 44) d4_42 rfl rfl rfl ?_
  refine OwnW.iloadN X3 (n := 45) d4_44 rfl rfl ?_
  refine OwnW.call_static_v X3 (z := (⟨"java/lang/StringUTF16", "coderFromArrayLen", "([BI)B"⟩ : MethodName)) (n := 48) d4_45 (hw _ (List.mem_of_getElem? (i := 73) rfl)) (hw _ (List.mem_of_getElem? (i := 74) rfl)) (hw _ (List.mem_of_getElem? (i := 75) rfl)) (hw _ (List.mem_of_getElem? (i := 68) rfl)) (by decide) (rm12 l Z a0 hw hE [] t3 h3 n0 cs a3) OwnW.sf0 (argsL := [(.ref t3), (.int (Int32.ofNat cs.length))]) (rest := [(.ref r0)]) rfl rfl (OwnW.lenA pd___BI_B rfl) (W := 1) (Nat.le_of_eq rfl) (by decide) (by decide) (by decide) (by decide) rfl ?_
  intro T4 h4 w4 g4 hle4 X4 ⟨q1, q2⟩
  subst q1 q2
  have f5 := (F2.keep K3 nin0)
  have f6 := (E0.keep K3)
  refine OwnW.putfield X4 (ty := .byte) (v' := (.int (0 : Int32))) (n := 51) d4_48 (hw _ (List.mem_of_getElem? (i := 35) rfl)) Via.refl f5 f6 (Or.inr ⟨(hw _ (List.mem_of_getElem? (i := 31) rfl)), rfl, rfl⟩) (hw _ (List.mem_of_getElem? (i := 15) rfl)) (by decide) rfl rfl ge_r0 (List.mem_append_left _ (List.mem_append_left _ (List.mem_cons_self ..))) rfl ?_
  intro T7 h7 X7 W7 Fw7
  have f8 := (F1.keep K3 nin0)
  have f9 := f8.other W7 (Or.inr (slot_ne (Or.inr (hw _ (List.mem_of_getElem? (i := 30) rfl))) (Or.inr (hw _ (List.mem_of_getElem? (i := 31) rfl))) (by decide) (t := (.array .byte)) (t' := .byte) (by decide) (by decide)))
  have K7 := (Keep.of_wr W7)
  have O7 := O3.keep K7 (allS ge_r0 all0)
  have Z7 : Keep h0 h7 [r0] := Z3.trans K7 (allS (P := fun x => x ∈ [r0] ∨ h0.size ≤ x) (Or.inl (List.mem_of_getElem? (i := 0) rfl)) all0)
  refine OwnW.aloadN X7 (n := 52) d4_51 rfl rfl rfl ?_
  refine OwnW.aload X7 (n := 54) d4_52 rfl rfl rfl ?_
  have f10 := (f6.keep K7)
  refine OwnW.putfield X7 (ty := (.array .byte)) (v' := (.ref t3)) (n := 57) d4_54 (hw _ (List.mem_of_getElem? (i := 34) rfl)) Via.refl f9 f10 (Or.inr ⟨(hw _ (List.mem_of_getElem? (i := 30) rfl)), rfl, rfl⟩) (hw _ (List.mem_of_getElem? (i := 15) rfl)) (by decide) rfl rfl ge_r0 (List.mem_append_left _ (List.mem_append_left _ (List.mem_cons_self ..))) rfl ?_
  intro T11 h11 X11 W11 Fw11
  have f12 := Fw7.other W11 (Or.inr (slot_ne (Or.inr (hw _ (List.mem_of_getElem? (i := 31) rfl))) (Or.inr (hw _ (List.mem_of_getElem? (i := 30) rfl))) (by decide) (t := .byte) (t' := (.array .byte)) (by decide) (by decide)))
  have K11 := (Keep.of_wr W11)
  have O11 := O7.keep K11 (allS ge_r0 all0)
  have Z11 : Keep h0 h11 [r0] := Z7.trans K11 (allS (P := fun x => x ∈ [r0] ∨ h0.size ≤ x) (Or.inl (List.mem_of_getElem? (i := 0) rfl)) all0)
  have f13 := (f10.keep K11)
  have f14 := ((a3.keep K7 (ninS (Ne.symm ne_r0_t3) nin0)).keep K11 (ninS (Ne.symm ne_r0_t3) nin0))
  exact OwnW.vreturn X11 rfl d4_57 ⟨Z11, _, szt, f13, f12, Fw11, f14⟩ (by decide) (by decide)
theorem ef_rm3 (m : MethodId) (x0 : Addr) (x1 : Addr) : entryFrame m #[(.ref x0), (.ref x1)] 2 = mkF m 0 #[.val (.ref x0), .val (.ref x1)] [] := by first | (simp [entryFrame, mkF, argsToLocals, Value.category]; done) | rfl
set_option maxRecDepth 65536 in
set_option maxHeartbeats 40000000 in
theorem rm3 (l : Launch) (Z : State) (a0 : Array Value) (hw : ∀ d ∈ tables_1, d.before a0 Z = true) (hE : EW Z a0 own_EL) (ws : List Jvm.Cond) (r0 : Addr) (r1 : Addr) (h0 : Heap) (n0 : Nat) (O0 : Old Z n0 h0) (ge_r0 : n0 ≤ r0) (E0 : Exa Z h0 r0 "java/lang/String") (v1 v2 : Value) (F1 : Fld Z h0 r0 "java/lang/String" "value" "[B" v1) (F2 : Fld Z h0 r0 "java/lang/String" "coder" "B" v2) (cs : List Int32) (hp : ∀ c ∈ cs, ¬ 255 < c) (hpos : 0 < cs.length) (hcap : cs.length ≤ 3) (A1 : Ark Z h0 r1 .char (cs.map Value.int)) (ne01 : r0 ≠ r1) (zc : Int32) (hzc : ¬ zc = 0) (S_compact : Sta Z Z.heap "java/lang/String" "COMPACT_STRINGS" "Z" (.int zc)) :
    Ctr False l Z own_EL (⟨"java/lang/String", "<init>", "([C)V"⟩ : MethodName) jdk_42_method_3_code 2 none ws ({ frames := 3, cells := 1, slots := 3, locals := 52 } : Room) n0 (r0 :: []) #[(.ref r0), (.ref r1)] h0 (Rn (fun h g => Keep h0 h [r0] ∧ ∃ t, h0.size ≤ t ∧ StrL Z h r0 t cs)) := by
  refine Ctr.of (plainFor_of_name pn_java_lang_String) hE (fun m => ef_rm3 m r0 r1) ?_
  intro p e s m below meth c T0 X0
  have Z0 : Keep h0 h0 [r0] := Keep.refl _ _
  refine OwnW.aloadN X0 (n := 1) d3_0 rfl rfl rfl ?_
  refine OwnW.aloadN X0 (n := 2) d3_1 rfl rfl rfl ?_
  refine OwnW.iconst X0 (z := (0 : Int32)) (n := 3) d3_2 rfl rfl ?_
  refine OwnW.aloadN X0 (n := 4) d3_3 rfl rfl rfl ?_
  refine OwnW.arraylength X0 (z := (Int32.ofNat cs.length)) (n := 5) d3_4 A1 (by simp) rfl ?_
  refine OwnW.anull X0 (n := 6) d3_5 rfl ?_
  refine OwnW.call_special_n X0 (z := (⟨"java/lang/String", "<init>", "([CIILjava/lang/Void;)V"⟩ : MethodName)) (a := r0) (n := 9) d3_6 (hw _ (List.mem_of_getElem? (i := 21) rfl)) (hw _ (List.mem_of_getElem? (i := 22) rfl)) (hw _ (List.mem_of_getElem? (i := 24) rfl)) (hw _ (List.mem_of_getElem? (i := 16) rfl)) rfl rfl (by decide) (rm4 l Z a0 hw hE [] r0 r1 h0 n0 O0 ge_r0 E0 v1 v2 F1 F2 cs hp hpos hcap A1 ne01 zc hzc S_compact) (OwnW.sfS (List.mem_cons_self ..) OwnW.sf0) (argsL := [(.ref r1), (.int (0 : Int32)), (.int (Int32.ofNat cs.length)), .null]) (rest := []) rfl rfl (OwnW.lenA pd___CIILjava_lang_Void__V rfl) (W := 0) (Nat.le_of_eq rfl) (by decide) (by decide) (by decide) (by decide) rfl ?_
  intro T1 h1 g1 hle1 X1 qq1
  exact OwnW.vreturn X1 rfl d3_9 qq1 (by decide) (by decide)
theorem pd___C_V : parseMethodDescriptor "([C)V" = some ⟨[(.array .char)], none⟩ := by decide +kernel
theorem d2_0 : decode method_3_code 0 = .ok (.iload_n 0, 1) := by decide +kernel
theorem d2_1 : decode method_3_code 1 = .ok (.ifCond .ne 14, 3) := by decide +kernel
theorem d2_4 : decode method_3_code 4 = .ok (.new 49, 3) := by decide +kernel
theorem d2_7 : decode method_3_code 7 = .ok (.dup, 1) := by decide +kernel
theorem d2_8 : decode method_3_code 8 = .ok (.iconst 0, 1) := by decide +kernel
theorem d2_9 : decode method_3_code 9 = .ok (.newarray .char, 2) := by decide +kernel
theorem d2_11 : decode method_3_code 11 = .ok (.invokespecial 51, 3) := by decide +kernel
theorem d2_14 : decode method_3_code 14 = .ok (.areturn, 1) := by decide +kernel
theorem d2_15 : decode method_3_code 15 = .ok (.iload_n 0, 1) := by decide +kernel
theorem d2_16 : decode method_3_code 16 = .ok (.iconst 1, 1) := by decide +kernel
theorem d2_17 : decode method_3_code 17 = .ok (.if_icmp .ne 18, 3) := by decide +kernel
theorem d2_20 : decode method_3_code 20 = .ok (.new 49, 3) := by decide +kernel
theorem d2_23 : decode method_3_code 23 = .ok (.dup, 1) := by decide +kernel
theorem d2_24 : decode method_3_code 24 = .ok (.iconst 1, 1) := by decide +kernel
theorem d2_25 : decode method_3_code 25 = .ok (.newarray .char, 2) := by decide +kernel
theorem d2_27 : decode method_3_code 27 = .ok (.dup, 1) := by decide +kernel
theorem d2_28 : decode method_3_code 28 = .ok (.iconst 0, 1) := by decide +kernel
theorem d2_29 : decode method_3_code 29 = .ok (.iload_n 1, 1) := by decide +kernel
theorem d2_30 : decode method_3_code 30 = .ok (.castore, 1) := by decide +kernel
theorem d2_31 : decode method_3_code 31 = .ok (.invokespecial 51, 3) := by decide +kernel
theorem d2_34 : decode method_3_code 34 = .ok (.areturn, 1) := by decide +kernel
theorem d2_35 : decode method_3_code 35 = .ok (.iload_n 0, 1) := by decide +kernel
theorem d2_36 : decode method_3_code 36 = .ok (.iconst 2, 1) := by decide +kernel
theorem d2_37 : decode method_3_code 37 = .ok (.if_icmp .ne 22, 3) := by decide +kernel
theorem d2_40 : decode method_3_code 40 = .ok (.new 49, 3) := by decide +kernel
theorem d2_43 : decode method_3_code 43 = .ok (.dup, 1) := by decide +kernel
theorem d2_44 : decode method_3_code 44 = .ok (.iconst 2, 1) := by decide +kernel
theorem d2_45 : decode method_3_code 45 = .ok (.newarray .char, 2) := by decide +kernel
theorem d2_47 : decode method_3_code 47 = .ok (.dup, 1) := by decide +kernel
theorem d2_48 : decode method_3_code 48 = .ok (.iconst 0, 1) := by decide +kernel
theorem d2_49 : decode method_3_code 49 = .ok (.iload_n 1, 1) := by decide +kernel
theorem d2_50 : decode method_3_code 50 = .ok (.castore, 1) := by decide +kernel
theorem d2_51 : decode method_3_code 51 = .ok (.dup, 1) := by decide +kernel
theorem d2_52 : decode method_3_code 52 = .ok (.iconst 1, 1) := by decide +kernel
theorem d2_53 : decode method_3_code 53 = .ok (.iload_n 2, 1) := by decide +kernel
theorem d2_54 : decode method_3_code 54 = .ok (.castore, 1) := by decide +kernel
theorem d2_55 : decode method_3_code 55 = .ok (.invokespecial 51, 3) := by decide +kernel
theorem d2_58 : decode method_3_code 58 = .ok (.areturn, 1) := by decide +kernel
theorem d2_59 : decode method_3_code 59 = .ok (.new 49, 3) := by decide +kernel
theorem d2_62 : decode method_3_code 62 = .ok (.dup, 1) := by decide +kernel
theorem d2_63 : decode method_3_code 63 = .ok (.iconst 3, 1) := by decide +kernel
theorem d2_64 : decode method_3_code 64 = .ok (.newarray .char, 2) := by decide +kernel
theorem d2_66 : decode method_3_code 66 = .ok (.dup, 1) := by decide +kernel
theorem d2_67 : decode method_3_code 67 = .ok (.iconst 0, 1) := by decide +kernel
theorem d2_68 : decode method_3_code 68 = .ok (.iload_n 1, 1) := by decide +kernel
theorem d2_69 : decode method_3_code 69 = .ok (.castore, 1) := by decide +kernel
theorem d2_70 : decode method_3_code 70 = .ok (.dup, 1) := by decide +kernel
theorem d2_71 : decode method_3_code 71 = .ok (.iconst 1, 1) := by decide +kernel
theorem d2_72 : decode method_3_code 72 = .ok (.iload_n 2, 1) := by decide +kernel
theorem d2_73 : decode method_3_code 73 = .ok (.castore, 1) := by decide +kernel
theorem d2_74 : decode method_3_code 74 = .ok (.dup, 1) := by decide +kernel
theorem d2_75 : decode method_3_code 75 = .ok (.iconst 2, 1) := by decide +kernel
theorem d2_76 : decode method_3_code 76 = .ok (.iload_n 3, 1) := by decide +kernel
theorem d2_77 : decode method_3_code 77 = .ok (.castore, 1) := by decide +kernel
theorem d2_78 : decode method_3_code 78 = .ok (.invokespecial 51, 3) := by decide +kernel
theorem d2_81 : decode method_3_code 81 = .ok (.areturn, 1) := by decide +kernel
theorem ef_rm2 (m : MethodId) (x0 : Int32) (x1 : Int32) (x2 : Int32) (x3 : Int32) : entryFrame m #[(.int x0), (.int x1), (.int x2), (.int x3)] 4 = mkF m 0 #[.val (.int x0), .val (.int x1), .val (.int x2), .val (.int x3)] [] := by first | (simp [entryFrame, mkF, argsToLocals, Value.category]; done) | rfl
set_option maxRecDepth 65536 in
set_option maxHeartbeats 40000000 in
theorem rm2 (l : Launch) (Z : State) (a0 : Array Value) (hw : ∀ d ∈ tables_1, d.before a0 Z = true) (hE : EW Z a0 own_EL) (ws : List Jvm.Cond) (p0 : Int32) (p1 : Int32) (p2 : Int32) (p3 : Int32) (h0 : Heap) (n0 : Nat) (O0 : Old Z n0 h0) (sfx : List Addr) (hb1 : ¬ p1 < 0 ∧ ¬ 255 < p1) (hb2 : ¬ p2 < 0 ∧ ¬ 255 < p2) (hb3 : ¬ p3 < 0 ∧ ¬ 255 < p3) (zc : Int32) (hzc : ¬ zc = 0) (S_compact : Sta Z Z.heap "java/lang/String" "COMPACT_STRINGS" "Z" (.int zc)) :
    Ctr False l Z own_EL (⟨"com/example/selectivity/selectivity/TokenIsPinLaw", "str", "(ICCC)Ljava/lang/String;"⟩ : MethodName) method_3_code 4 (some (.object "java/lang/String")) ws ({ frames := 4, cells := 6, slots := 15, locals := 66 } : Room) n0 (sfx) #[(.int p0), (.int p1), (.int p2), (.int p3)] h0 (Rt (fun w h g => ∃ x t, w = .ref x ∧ Keep h0 h [] ∧ h0.size ≤ x ∧ (∀ y ∈ sfx, y ≠ t) ∧ StrL Z h x t (own_cs p0 p1 p2 p3))) := by
  refine Ctr.of (plainFor_of_name pn_com_example_selectivity_selectivity_TokenIsPinLaw) hE (fun m => ef_rm2 m p0 p1 p2 p3) ?_
  intro p e s m below meth c T0 X0
  have Z0 : Keep h0 h0 [] := Keep.refl _ _
  have lts := fun y hy => X0.lt y (show y ∈ sfx from hy)
  refine OwnW.iloadN X0 (n := 1) d2_0 rfl rfl ?_
  refine OwnW.if_ne X0  (n1 := 15) (n2 := 4) d2_1 (by decide) rfl rfl (fun hc1 => ?_) (fun hc1 => ?_)
  · refine OwnW.iloadN X0 (n := 16) d2_15 rfl rfl ?_
    refine OwnW.iconst X0 (z := (1 : Int32)) (n := 17) d2_16 rfl rfl ?_
    refine OwnW.ic_ne X0  (n1 := 35) (n2 := 20) d2_17 (by decide) rfl rfl (fun hc17 => ?_) (fun hc17 => ?_)
    · refine OwnW.iloadN X0 (n := 36) d2_35 rfl rfl ?_
      refine OwnW.iconst X0 (z := (2 : Int32)) (n := 37) d2_36 rfl rfl ?_
      refine OwnW.ic_ne X0  (n1 := 59) (n2 := 40) d2_37 (by decide) rfl rfl (fun hc37 => ?_) (fun hc37 => ?_)
      · refine OwnW.new X0 (C := "java/lang/String") (k := 4) (n := 62) d2_59 (hw _ (List.mem_of_getElem? (i := 14) rfl)) (hw _ (List.mem_of_getElem? (i := 15) rfl)) (hw _ (List.mem_of_getElem? (i := 16) rfl)) (by decide) (by decide) rfl ?_
        intro T1 h1 b1 gb1 X1 E1 A1 D1 U1
        have ge_b1 : n0 ≤ b1 := by rw [gb1]; exact OwnW.oldLe O0
        have K1 := (OwnW.kExt E1)
        have O1 := O0.keep K1 all0
        have Z1 : Keep h0 h1 [] := Z0.trans K1 (fun x hx => nomatch hx)
        have sz_b1 : h0.size ≤ b1 := by rw [gb1]; exact Z0.1
        have F1_value : Fld Z h1 b1 "java/lang/String" "value" "[B" .null := D1 (Or.inr (hw _ (List.mem_of_getElem? (i := 30) rfl))) (ty := (.array .byte)) (by decide)
        have F1_coder : Fld Z h1 b1 "java/lang/String" "coder" "B" (.int (0 : Int32)) := D1 (Or.inr (hw _ (List.mem_of_getElem? (i := 31) rfl))) (ty := .byte) (by decide)
        refine OwnW.dup X1 (n := 63) d2_62 rfl rfl ?_
        refine OwnW.iconst X1 (z := (3 : Int32)) (n := 64) d2_63 rfl rfl ?_
        refine OwnW.newarray X1 (len := 3) (cap := 3) (n := 66) d2_64 (hw _ (List.mem_of_getElem? (i := 17) rfl)) rfl (by decide) (by decide) (by decide) (by decide) rfl ?_
        intro T2 h2 b2 gb2 X2 E2 A2
        have ne_b1_b2 : b1 ≠ b2 := by rw [gb2]; exact Nat.ne_of_lt A1.lt
        have ge_b2 : n0 ≤ b2 := by rw [gb2]; exact OwnW.oldLe O1
        have K2 := (OwnW.kExt E2)
        have O2 := O1.keep K2 all0
        have Z2 : Keep h0 h2 [] := Z1.trans K2 (fun x hx => nomatch hx)
        have sz_b2 : h0.size ≤ b2 := by rw [gb2]; exact Z1.1
        replace A2 : Ark Z h2 b2 .char [(.int (0 : Int32)), (.int (0 : Int32)), (.int (0 : Int32))] := A2
        refine OwnW.dup X2 (n := 67) d2_66 rfl rfl ?_
        refine OwnW.iconst X2 (z := (0 : Int32)) (n := 68) d2_67 rfl rfl ?_
        refine OwnW.iloadN X2 (n := 69) d2_68 rfl rfl ?_
        refine OwnW.castore X2 (i := 0) (z := p1) (n := 70) d2_69 A2 rfl (Nat.le_of_ble_eq_true rfl) (own_narC hb1.1 hb1.2) ge_b2 (List.mem_cons_self ..) rfl ?_
        intro T3 h3 X3 W3 A3
        have K3 := (Keep.of_wr W3)
        have O3 := O2.keep K3 (allS ge_b2 all0)
        have Z3 : Keep h0 h3 [] := Z2.trans K3 (allS (P := fun x => x ∈ [] ∨ h0.size ≤ x) (Or.inr sz_b2) all0)
        replace A3 : Ark Z h3 b2 .char [(.int p1), (.int (0 : Int32)), (.int (0 : Int32))] := A3
        refine OwnW.dup X3 (n := 71) d2_70 rfl rfl ?_
        refine OwnW.iconst X3 (z := (1 : Int32)) (n := 72) d2_71 rfl rfl ?_
        refine OwnW.iloadN X3 (n := 73) d2_72 rfl rfl ?_
        refine OwnW.castore X3 (i := 1) (z := p2) (n := 74) d2_73 A3 rfl (Nat.le_of_ble_eq_true rfl) (own_narC hb2.1 hb2.2) ge_b2 (List.mem_cons_self ..) rfl ?_
        intro T4 h4 X4 W4 A4
        have K4 := (Keep.of_wr W4)
        have O4 := O3.keep K4 (allS ge_b2 all0)
        have Z4 : Keep h0 h4 [] := Z3.trans K4 (allS (P := fun x => x ∈ [] ∨ h0.size ≤ x) (Or.inr sz_b2) all0)
        replace A4 : Ark Z h4 b2 .char [(.int p1), (.int p2), (.int (0 : Int32))] := A4
        refine OwnW.dup X4 (n := 75) d2_74 rfl rfl ?_
        refine OwnW.iconst X4 (z := (2 : Int32)) (n := 76) d2_75 rfl rfl ?_
        refine OwnW.iloadN X4 (n := 77) d2_76 rfl rfl ?_
        refine OwnW.castore X4 (i := 2) (z := p3) (n := 78) d2_77 A4 rfl (Nat.le_of_ble_eq_true rfl) (own_narC hb3.1 hb3.2) ge_b2 (List.mem_cons_self ..) rfl ?_
        intro T5 h5 X5 W5 A5
        have K5 := (Keep.of_wr W5)
        have O5 := O4.keep K5 (allS ge_b2 all0)
        have Z5 : Keep h0 h5 [] := Z4.trans K5 (allS (P := fun x => x ∈ [] ∨ h0.size ≤ x) (Or.inr sz_b2) all0)
        replace A5 : Ark Z h5 b2 .char [(.int p1), (.int p2), (.int p3)] := A5
        have f6 := ((((A1.keep K2).keep K3).keep K4).keep K5)
        have f7 := ((((F1_value.keep K2 nin0).keep K3 (ninS ne_b1_b2 nin0)).keep K4 (ninS ne_b1_b2 nin0)).keep K5 (ninS ne_b1_b2 nin0))
        have f8 := ((((F1_coder.keep K2 nin0).keep K3 (ninS ne_b1_b2 nin0)).keep K4 (ninS ne_b1_b2 nin0)).keep K5 (ninS ne_b1_b2 nin0))
        refine OwnW.call_special_n X5 (z := (⟨"java/lang/String", "<init>", "([C)V"⟩ : MethodName)) (a := b1) (n := 81) d2_78 (hw _ (List.mem_of_getElem? (i := 18) rfl)) (hw _ (List.mem_of_getElem? (i := 19) rfl)) (hw _ (List.mem_of_getElem? (i := 20) rfl)) (hw _ (List.mem_of_getElem? (i := 16) rfl)) rfl rfl (by decide) (rm3 l Z a0 hw hE [] b1 b2 h5 n0 O5 ge_b1 f6 _ _ f7 f8 ([p1, p2, p3] : List Int32) (own_aS hb1.2 (own_aS hb2.2 (own_aS hb3.2 own_a0))) (by simp) (by simp) A5 ne_b1_b2 zc hzc S_compact) (OwnW.sfS (List.mem_cons_of_mem _ (List.mem_cons_self ..)) OwnW.sf0) (argsL := [(.ref b2)]) (rest := [(.ref b1)]) rfl rfl (OwnW.lenA pd___C_V rfl) (W := 1) (Nat.le_of_eq rfl) (by decide) (by decide) (by decide) (by decide) rfl ?_
        intro T9 h9 g9 hle9 X9 ⟨k9, t9, z9, S9⟩
        obtain ⟨se9, sc9, sv9, sa9⟩ := S9
        have K9 := k9
        have O9 := O5.keep K9 (allS ge_b1 all0)
        have Z9 : Keep h0 h9 [] := Z5.trans K9 (allS (P := fun x => x ∈ [] ∨ h0.size ≤ x) (Or.inr sz_b1) all0)
        have ne_b1_t9 : b1 ≠ t9 := Nat.ne_of_lt (Nat.lt_of_lt_of_le f6.lt z9)
        have ne_b2_t9 : b2 ≠ t9 := Nat.ne_of_lt (Nat.lt_of_lt_of_le A5.lt z9)
        have zz9 : h0.size ≤ t9 := Nat.le_trans Z5.1 z9
        exact OwnW.areturn X9 rfl rfl rfl d2_81 ⟨b1, t9, rfl, Z9, sz_b1, (fun y hy => Nat.ne_of_lt (Nat.lt_of_lt_of_le (lts y hy) zz9)), by simp only [own_cs, hc1, hc17, hc37, if_true, if_false, reduceIte]; exact ⟨se9, sc9, sv9, sa9⟩⟩ (by decide) (by decide)
      · refine OwnW.new X0 (C := "java/lang/String") (k := 4) (n := 43) d2_40 (hw _ (List.mem_of_getElem? (i := 14) rfl)) (hw _ (List.mem_of_getElem? (i := 15) rfl)) (hw _ (List.mem_of_getElem? (i := 16) rfl)) (by decide) (by decide) rfl ?_
        intro T10 h10 b10 gb10 X10 E10 A10 D10 U10
        have ge_b10 : n0 ≤ b10 := by rw [gb10]; exact OwnW.oldLe O0
        have K10 := (OwnW.kExt E10)
        have O10 := O0.keep K10 all0
        have Z10 : Keep h0 h10 [] := Z0.trans K10 (fun x hx => nomatch hx)
        have sz_b10 : h0.size ≤ b10 := by rw [gb10]; exact Z0.1
        have F10_value : Fld Z h10 b10 "java/lang/String" "value" "[B" .null := D10 (Or.inr (hw _ (List.mem_of_getElem? (i := 30) rfl))) (ty := (.array .byte)) (by decide)
        have F10_coder : Fld Z h10 b10 "java/lang/String" "coder" "B" (.int (0 : Int32)) := D10 (Or.inr (hw _ (List.mem_of_getElem? (i := 31) rfl))) (ty := .byte) (by decide)
        refine OwnW.dup X10 (n := 44) d2_43 rfl rfl ?_
        refine OwnW.iconst X10 (z := (2 : Int32)) (n := 45) d2_44 rfl rfl ?_
        refine OwnW.newarray X10 (len := 2) (cap := 2) (n := 47) d2_45 (hw _ (List.mem_of_getElem? (i := 17) rfl)) rfl (by decide) (by decide) (by decide) (by decide) rfl ?_
        intro T11 h11 b11 gb11 X11 E11 A11
        have ne_b10_b11 : b10 ≠ b11 := by rw [gb11]; exact Nat.ne_of_lt A10.lt
        have ge_b11 : n0 ≤ b11 := by rw [gb11]; exact OwnW.oldLe O10
        have K11 := (OwnW.kExt E11)
        have O11 := O10.keep K11 all0
        have Z11 : Keep h0 h11 [] := Z10.trans K11 (fun x hx => nomatch hx)
        have sz_b11 : h0.size ≤ b11 := by rw [gb11]; exact Z10.1
        replace A11 : Ark Z h11 b11 .char [(.int (0 : Int32)), (.int (0 : Int32))] := A11
        refine OwnW.dup X11 (n := 48) d2_47 rfl rfl ?_
        refine OwnW.iconst X11 (z := (0 : Int32)) (n := 49) d2_48 rfl rfl ?_
        refine OwnW.iloadN X11 (n := 50) d2_49 rfl rfl ?_
        refine OwnW.castore X11 (i := 0) (z := p1) (n := 51) d2_50 A11 rfl (Nat.le_of_ble_eq_true rfl) (own_narC hb1.1 hb1.2) ge_b11 (List.mem_cons_self ..) rfl ?_
        intro T12 h12 X12 W12 A12
        have K12 := (Keep.of_wr W12)
        have O12 := O11.keep K12 (allS ge_b11 all0)
        have Z12 : Keep h0 h12 [] := Z11.trans K12 (allS (P := fun x => x ∈ [] ∨ h0.size ≤ x) (Or.inr sz_b11) all0)
        replace A12 : Ark Z h12 b11 .char [(.int p1), (.int (0 : Int32))] := A12
        refine OwnW.dup X12 (n := 52) d2_51 rfl rfl ?_
        refine OwnW.iconst X12 (z := (1 : Int32)) (n := 53) d2_52 rfl rfl ?_
        refine OwnW.iloadN X12 (n := 54) d2_53 rfl rfl ?_
        refine OwnW.castore X12 (i := 1) (z := p2) (n := 55) d2_54 A12 rfl (Nat.le_of_ble_eq_true rfl) (own_narC hb2.1 hb2.2) ge_b11 (List.mem_cons_self ..) rfl ?_
        intro T13 h13 X13 W13 A13
        have K13 := (Keep.of_wr W13)
        have O13 := O12.keep K13 (allS ge_b11 all0)
        have Z13 : Keep h0 h13 [] := Z12.trans K13 (allS (P := fun x => x ∈ [] ∨ h0.size ≤ x) (Or.inr sz_b11) all0)
        replace A13 : Ark Z h13 b11 .char [(.int p1), (.int p2)] := A13
        have f14 := (((A10.keep K11).keep K12).keep K13)
        have f15 := (((F10_value.keep K11 nin0).keep K12 (ninS ne_b10_b11 nin0)).keep K13 (ninS ne_b10_b11 nin0))
        have f16 := (((F10_coder.keep K11 nin0).keep K12 (ninS ne_b10_b11 nin0)).keep K13 (ninS ne_b10_b11 nin0))
        refine OwnW.call_special_n X13 (z := (⟨"java/lang/String", "<init>", "([C)V"⟩ : MethodName)) (a := b10) (n := 58) d2_55 (hw _ (List.mem_of_getElem? (i := 18) rfl)) (hw _ (List.mem_of_getElem? (i := 19) rfl)) (hw _ (List.mem_of_getElem? (i := 20) rfl)) (hw _ (List.mem_of_getElem? (i := 16) rfl)) rfl rfl (by decide) (rm3 l Z a0 hw hE [] b10 b11 h13 n0 O13 ge_b10 f14 _ _ f15 f16 ([p1, p2] : List Int32) (own_aS hb1.2 (own_aS hb2.2 own_a0)) (by simp) (by simp) A13 ne_b10_b11 zc hzc S_compact) (OwnW.sfS (List.mem_cons_of_mem _ (List.mem_cons_self ..)) OwnW.sf0) (argsL := [(.ref b11)]) (rest := [(.ref b10)]) rfl rfl (OwnW.lenA pd___C_V rfl) (W := 1) (Nat.le_of_eq rfl) (by decide) (by decide) (by decide) (by decide) rfl ?_
        intro T17 h17 g17 hle17 X17 ⟨k17, t17, z17, S17⟩
        obtain ⟨se17, sc17, sv17, sa17⟩ := S17
        have K17 := k17
        have O17 := O13.keep K17 (allS ge_b10 all0)
        have Z17 : Keep h0 h17 [] := Z13.trans K17 (allS (P := fun x => x ∈ [] ∨ h0.size ≤ x) (Or.inr sz_b10) all0)
        have ne_b10_t17 : b10 ≠ t17 := Nat.ne_of_lt (Nat.lt_of_lt_of_le f14.lt z17)
        have ne_b11_t17 : b11 ≠ t17 := Nat.ne_of_lt (Nat.lt_of_lt_of_le A13.lt z17)
        have zz17 : h0.size ≤ t17 := Nat.le_trans Z13.1 z17
        exact OwnW.areturn X17 rfl rfl rfl d2_58 ⟨b10, t17, rfl, Z17, sz_b10, (fun y hy => Nat.ne_of_lt (Nat.lt_of_lt_of_le (lts y hy) zz17)), by simp only [own_cs, hc1, hc17, hc37, if_true, if_false, reduceIte]; exact ⟨se17, sc17, sv17, sa17⟩⟩ (by decide) (by decide)
    · refine OwnW.new X0 (C := "java/lang/String") (k := 4) (n := 23) d2_20 (hw _ (List.mem_of_getElem? (i := 14) rfl)) (hw _ (List.mem_of_getElem? (i := 15) rfl)) (hw _ (List.mem_of_getElem? (i := 16) rfl)) (by decide) (by decide) rfl ?_
      intro T18 h18 b18 gb18 X18 E18 A18 D18 U18
      have ge_b18 : n0 ≤ b18 := by rw [gb18]; exact OwnW.oldLe O0
      have K18 := (OwnW.kExt E18)
      have O18 := O0.keep K18 all0
      have Z18 : Keep h0 h18 [] := Z0.trans K18 (fun x hx => nomatch hx)
      have sz_b18 : h0.size ≤ b18 := by rw [gb18]; exact Z0.1
      have F18_value : Fld Z h18 b18 "java/lang/String" "value" "[B" .null := D18 (Or.inr (hw _ (List.mem_of_getElem? (i := 30) rfl))) (ty := (.array .byte)) (by decide)
      have F18_coder : Fld Z h18 b18 "java/lang/String" "coder" "B" (.int (0 : Int32)) := D18 (Or.inr (hw _ (List.mem_of_getElem? (i := 31) rfl))) (ty := .byte) (by decide)
      refine OwnW.dup X18 (n := 24) d2_23 rfl rfl ?_
      refine OwnW.iconst X18 (z := (1 : Int32)) (n := 25) d2_24 rfl rfl ?_
      refine OwnW.newarray X18 (len := 1) (cap := 1) (n := 27) d2_25 (hw _ (List.mem_of_getElem? (i := 17) rfl)) rfl (by decide) (by decide) (by decide) (by decide) rfl ?_
      intro T19 h19 b19 gb19 X19 E19 A19
      have ne_b18_b19 : b18 ≠ b19 := by rw [gb19]; exact Nat.ne_of_lt A18.lt
      have ge_b19 : n0 ≤ b19 := by rw [gb19]; exact OwnW.oldLe O18
      have K19 := (OwnW.kExt E19)
      have O19 := O18.keep K19 all0
      have Z19 : Keep h0 h19 [] := Z18.trans K19 (fun x hx => nomatch hx)
      have sz_b19 : h0.size ≤ b19 := by rw [gb19]; exact Z18.1
      replace A19 : Ark Z h19 b19 .char [(.int (0 : Int32))] := A19
      refine OwnW.dup X19 (n := 28) d2_27 rfl rfl ?_
      refine OwnW.iconst X19 (z := (0 : Int32)) (n := 29) d2_28 rfl rfl ?_
      refine OwnW.iloadN X19 (n := 30) d2_29 rfl rfl ?_
      refine OwnW.castore X19 (i := 0) (z := p1) (n := 31) d2_30 A19 rfl (Nat.le_of_ble_eq_true rfl) (own_narC hb1.1 hb1.2) ge_b19 (List.mem_cons_self ..) rfl ?_
      intro T20 h20 X20 W20 A20
      have K20 := (Keep.of_wr W20)
      have O20 := O19.keep K20 (allS ge_b19 all0)
      have Z20 : Keep h0 h20 [] := Z19.trans K20 (allS (P := fun x => x ∈ [] ∨ h0.size ≤ x) (Or.inr sz_b19) all0)
      replace A20 : Ark Z h20 b19 .char [(.int p1)] := A20
      have f21 := ((A18.keep K19).keep K20)
      have f22 := ((F18_value.keep K19 nin0).keep K20 (ninS ne_b18_b19 nin0))
      have f23 := ((F18_coder.keep K19 nin0).keep K20 (ninS ne_b18_b19 nin0))
      refine OwnW.call_special_n X20 (z := (⟨"java/lang/String", "<init>", "([C)V"⟩ : MethodName)) (a := b18) (n := 34) d2_31 (hw _ (List.mem_of_getElem? (i := 18) rfl)) (hw _ (List.mem_of_getElem? (i := 19) rfl)) (hw _ (List.mem_of_getElem? (i := 20) rfl)) (hw _ (List.mem_of_getElem? (i := 16) rfl)) rfl rfl (by decide) (rm3 l Z a0 hw hE [] b18 b19 h20 n0 O20 ge_b18 f21 _ _ f22 f23 ([p1] : List Int32) (own_aS hb1.2 own_a0) (by simp) (by simp) A20 ne_b18_b19 zc hzc S_compact) (OwnW.sfS (List.mem_cons_of_mem _ (List.mem_cons_self ..)) OwnW.sf0) (argsL := [(.ref b19)]) (rest := [(.ref b18)]) rfl rfl (OwnW.lenA pd___C_V rfl) (W := 1) (Nat.le_of_eq rfl) (by decide) (by decide) (by decide) (by decide) rfl ?_
      intro T24 h24 g24 hle24 X24 ⟨k24, t24, z24, S24⟩
      obtain ⟨se24, sc24, sv24, sa24⟩ := S24
      have K24 := k24
      have O24 := O20.keep K24 (allS ge_b18 all0)
      have Z24 : Keep h0 h24 [] := Z20.trans K24 (allS (P := fun x => x ∈ [] ∨ h0.size ≤ x) (Or.inr sz_b18) all0)
      have ne_b18_t24 : b18 ≠ t24 := Nat.ne_of_lt (Nat.lt_of_lt_of_le f21.lt z24)
      have ne_b19_t24 : b19 ≠ t24 := Nat.ne_of_lt (Nat.lt_of_lt_of_le A20.lt z24)
      have zz24 : h0.size ≤ t24 := Nat.le_trans Z20.1 z24
      exact OwnW.areturn X24 rfl rfl rfl d2_34 ⟨b18, t24, rfl, Z24, sz_b18, (fun y hy => Nat.ne_of_lt (Nat.lt_of_lt_of_le (lts y hy) zz24)), by simp only [own_cs, hc1, hc17, if_true, if_false, reduceIte]; exact ⟨se24, sc24, sv24, sa24⟩⟩ (by decide) (by decide)
  · refine OwnW.new X0 (C := "java/lang/String") (k := 4) (n := 7) d2_4 (hw _ (List.mem_of_getElem? (i := 14) rfl)) (hw _ (List.mem_of_getElem? (i := 15) rfl)) (hw _ (List.mem_of_getElem? (i := 16) rfl)) (by decide) (by decide) rfl ?_
    intro T25 h25 b25 gb25 X25 E25 A25 D25 U25
    have ge_b25 : n0 ≤ b25 := by rw [gb25]; exact OwnW.oldLe O0
    have K25 := (OwnW.kExt E25)
    have O25 := O0.keep K25 all0
    have Z25 : Keep h0 h25 [] := Z0.trans K25 (fun x hx => nomatch hx)
    have sz_b25 : h0.size ≤ b25 := by rw [gb25]; exact Z0.1
    have F25_value : Fld Z h25 b25 "java/lang/String" "value" "[B" .null := D25 (Or.inr (hw _ (List.mem_of_getElem? (i := 30) rfl))) (ty := (.array .byte)) (by decide)
    have F25_coder : Fld Z h25 b25 "java/lang/String" "coder" "B" (.int (0 : Int32)) := D25 (Or.inr (hw _ (List.mem_of_getElem? (i := 31) rfl))) (ty := .byte) (by decide)
    refine OwnW.dup X25 (n := 8) d2_7 rfl rfl ?_
    refine OwnW.iconst X25 (z := (0 : Int32)) (n := 9) d2_8 rfl rfl ?_
    refine OwnW.newarray X25 (len := 0) (cap := 0) (n := 11) d2_9 (hw _ (List.mem_of_getElem? (i := 17) rfl)) rfl (by decide) (by decide) (by decide) (by decide) rfl ?_
    intro T26 h26 b26 gb26 X26 E26 A26
    have ne_b25_b26 : b25 ≠ b26 := by rw [gb26]; exact Nat.ne_of_lt A25.lt
    have ge_b26 : n0 ≤ b26 := by rw [gb26]; exact OwnW.oldLe O25
    have K26 := (OwnW.kExt E26)
    have O26 := O25.keep K26 all0
    have Z26 : Keep h0 h26 [] := Z25.trans K26 (fun x hx => nomatch hx)
    have sz_b26 : h0.size ≤ b26 := by rw [gb26]; exact Z25.1
    replace A26 : Ark Z h26 b26 .char [] := A26
    have f27 := (A25.keep K26)
    have f28 := (F25_value.keep K26 nin0)
    have f29 := (F25_coder.keep K26 nin0)
    refine OwnW.call_special_n X26 (z := (⟨"java/lang/String", "<init>", "([C)V"⟩ : MethodName)) (a := b25) (n := 14) d2_11 (hw _ (List.mem_of_getElem? (i := 18) rfl)) (hw _ (List.mem_of_getElem? (i := 19) rfl)) (hw _ (List.mem_of_getElem? (i := 20) rfl)) (hw _ (List.mem_of_getElem? (i := 16) rfl)) rfl rfl (by decide) (rm3e l Z a0 hw hE [] b25 b26 h26 n0 O26 sfx ge_b25 f27 _ _ f28 f29 A26) (OwnW.sfS (List.mem_cons_of_mem _ (List.mem_cons_self ..)) (fun x hx => (List.mem_cons_of_mem _ (List.mem_cons_of_mem _ hx)))) (argsL := [(.ref b26)]) (rest := [(.ref b25)]) rfl rfl (OwnW.lenA pd___C_V rfl) (W := 1) (Nat.le_of_eq rfl) (by decide) (by decide) (by decide) (by decide) rfl ?_
    intro T30 h30 g30 hle30 X30 ⟨k30, t30, nx30, S30⟩
    obtain ⟨se30, sc30, sv30, sa30⟩ := S30
    have K30 := k30
    have O30 := O26.keep K30 (allS ge_b25 all0)
    have Z30 : Keep h0 h30 [] := Z26.trans K30 (allS (P := fun x => x ∈ [] ∨ h0.size ≤ x) (Or.inr sz_b25) all0)
    exact OwnW.areturn X30 rfl rfl rfl d2_14 ⟨b25, t30, rfl, Z30, sz_b25, nx30, by simp only [own_cs, hc1, if_true, if_false, reduceIte]; exact ⟨se30, sc30, sv30, sa30⟩⟩ (by decide) (by decide)
theorem pn_com_example_selectivity_selectivity_Token : plainName "com/example/selectivity/selectivity/Token" = true := by first | (simp [plainName, overriddenIn]; done) | decide +kernel
theorem d6_0 : decode prog_32_method_1_code 0 = .ok (.aload_n 0, 1) := by decide +kernel
theorem d6_1 : decode prog_32_method_1_code 1 = .ok (.invokespecial 1, 3) := by decide +kernel
theorem d6_4 : decode prog_32_method_1_code 4 = .ok (.aload_n 0, 1) := by decide +kernel
theorem d6_5 : decode prog_32_method_1_code 5 = .ok (.aload_n 1, 1) := by decide +kernel
theorem d6_6 : decode prog_32_method_1_code 6 = .ok (.putfield 7, 3) := by decide +kernel
theorem d6_9 : decode prog_32_method_1_code 9 = .ok (.aload_n 0, 1) := by decide +kernel
theorem d6_10 : decode prog_32_method_1_code 10 = .ok (.aload_n 2, 1) := by decide +kernel
theorem d6_11 : decode prog_32_method_1_code 11 = .ok (.putfield 13, 3) := by decide +kernel
theorem d6_14 : decode prog_32_method_1_code 14 = .ok (.aload_n 0, 1) := by decide +kernel
theorem d6_15 : decode prog_32_method_1_code 15 = .ok (.iload_n 3, 1) := by decide +kernel
theorem d6_16 : decode prog_32_method_1_code 16 = .ok (.putfield 17, 3) := by decide +kernel
theorem d6_19 : decode prog_32_method_1_code 19 = .ok (.return_, 1) := by decide +kernel
theorem ef_rm6 (m : MethodId) (x0 : Addr) (x1 : Addr) (x2 : Addr) (x3 : Int32) : entryFrame m #[(.ref x0), (.ref x1), (.ref x2), (.int x3)] 4 = mkF m 0 #[.val (.ref x0), .val (.ref x1), .val (.ref x2), .val (.int x3)] [] := by first | (simp [entryFrame, mkF, argsToLocals, Value.category]; done) | rfl
set_option maxRecDepth 65536 in
set_option maxHeartbeats 40000000 in
theorem rm6 (l : Launch) (Z : State) (a0 : Array Value) (hw : ∀ d ∈ tables_1, d.before a0 Z = true) (hE : EW Z a0 own_EL) (ws : List Jvm.Cond) (r0 : Addr) (r1 : Addr) (r2 : Addr) (p3 : Int32) (h0 : Heap) (n0 : Nat) (O0 : Old Z n0 h0) (ge_r0 : n0 ≤ r0) (E0 : Exa Z h0 r0 "com/example/selectivity/selectivity/Token") (u0 u1 u2 : Value) (Ftype : Fld Z h0 r0 "com/example/selectivity/selectivity/Token" "type" "Lcom/example/selectivity/selectivity/Token$Type;" u0) (Ftext : Fld Z h0 r0 "com/example/selectivity/selectivity/Token" "text" "Ljava/lang/String;" u1) (Fline : Fld Z h0 r0 "com/example/selectivity/selectivity/Token" "line" "I" u2) :
    Ctr False l Z own_EL (⟨"com/example/selectivity/selectivity/Token", "<init>", "(Lcom/example/selectivity/selectivity/Token$Type;Ljava/lang/String;I)V"⟩ : MethodName) prog_32_method_1_code 4 none ws ({ frames := 1, cells := 0, slots := 0, locals := 12 } : Room) n0 (r0 :: []) #[(.ref r0), (.ref r1), (.ref r2), (.int p3)] h0 (Rn (fun h g => Keep h0 h [r0] ∧ Fld Z h r0 "com/example/selectivity/selectivity/Token" "type" "Lcom/example/selectivity/selectivity/Token$Type;" (.ref r1) ∧ Fld Z h r0 "com/example/selectivity/selectivity/Token" "text" "Ljava/lang/String;" (.ref r2))) := by
  refine Ctr.of (plainFor_of_name pn_com_example_selectivity_selectivity_Token) hE (fun m => ef_rm6 m r0 r1 r2 p3) ?_
  intro p e s m below meth c T0 X0
  have Z0 : Keep h0 h0 [r0] := Keep.refl _ _
  refine OwnW.aloadN X0 (n := 1) d6_0 rfl rfl rfl ?_
  refine OwnW.initObj X0 (W := 0) (n := 4) d6_1 (hw _ (List.mem_of_getElem? (i := 39) rfl)) (hw _ (List.mem_of_getElem? (i := 26) rfl)) (hw _ (List.mem_of_getElem? (i := 27) rfl)) rfl (by decide) (by decide) (by decide) rfl ?_
  intro T1 X1
  refine OwnW.aloadN X1 (n := 5) d6_4 rfl rfl rfl ?_
  refine OwnW.aloadN X1 (n := 6) d6_5 rfl rfl rfl ?_
  refine OwnW.putfield X1 (ty := (.object "com/example/selectivity/selectivity/Token$Type")) (v' := (.ref r1)) (n := 9) d6_6 (hw _ (List.mem_of_getElem? (i := 40) rfl)) Via.refl Ftype E0 (Or.inr ⟨(hw _ (List.mem_of_getElem? (i := 41) rfl)), rfl, rfl⟩) (hw _ (List.mem_of_getElem? (i := 2) rfl)) (by decide) rfl rfl ge_r0 (List.mem_cons_self ..) rfl ?_
  intro T2 h2 X2 W2 Fw2
  have f3 := Ftext.other W2 (Or.inr (slot_ne (Or.inr (hw _ (List.mem_of_getElem? (i := 43) rfl))) (Or.inr (hw _ (List.mem_of_getElem? (i := 41) rfl))) (by decide) (t := (.object "java/lang/String")) (t' := (.object "com/example/selectivity/selectivity/Token$Type")) (by decide) (by decide)))
  have f4 := Fline.other W2 (Or.inr (slot_ne (Or.inr (hw _ (List.mem_of_getElem? (i := 45) rfl))) (Or.inr (hw _ (List.mem_of_getElem? (i := 41) rfl))) (by decide) (t := .int) (t' := (.object "com/example/selectivity/selectivity/Token$Type")) (by decide) (by decide)))
  have K2 := (Keep.of_wr W2)
  have O2 := O0.keep K2 (allS ge_r0 all0)
  have Z2 : Keep h0 h2 [r0] := Z0.trans K2 (allS (P := fun x => x ∈ [r0] ∨ h0.size ≤ x) (Or.inl (List.mem_of_getElem? (i := 0) rfl)) all0)
  refine OwnW.aloadN X2 (n := 10) d6_9 rfl rfl rfl ?_
  refine OwnW.aloadN X2 (n := 11) d6_10 rfl rfl rfl ?_
  have f5 := (E0.keep K2)
  refine OwnW.putfield X2 (ty := (.object "java/lang/String")) (v' := (.ref r2)) (n := 14) d6_11 (hw _ (List.mem_of_getElem? (i := 42) rfl)) Via.refl f3 f5 (Or.inr ⟨(hw _ (List.mem_of_getElem? (i := 43) rfl)), rfl, rfl⟩) (hw _ (List.mem_of_getElem? (i := 2) rfl)) (by decide) rfl rfl ge_r0 (List.mem_cons_self ..) rfl ?_
  intro T6 h6 X6 W6 Fw6
  have f7 := Fw2.other W6 (Or.inr (slot_ne (Or.inr (hw _ (List.mem_of_getElem? (i := 41) rfl))) (Or.inr (hw _ (List.mem_of_getElem? (i := 43) rfl))) (by decide) (t := (.object "com/example/selectivity/selectivity/Token$Type")) (t' := (.object "java/lang/String")) (by decide) (by decide)))
  have f8 := f4.other W6 (Or.inr (slot_ne (Or.inr (hw _ (List.mem_of_getElem? (i := 45) rfl))) (Or.inr (hw _ (List.mem_of_getElem? (i := 43) rfl))) (by decide) (t := .int) (t' := (.object "java/lang/String")) (by decide) (by decide)))
  have K6 := (Keep.of_wr W6)
  have O6 := O2.keep K6 (allS ge_r0 all0)
  have Z6 : Keep h0 h6 [r0] := Z2.trans K6 (allS (P := fun x => x ∈ [r0] ∨ h0.size ≤ x) (Or.inl (List.mem_of_getElem? (i := 0) rfl)) all0)
  refine OwnW.aloadN X6 (n := 15) d6_14 rfl rfl rfl ?_
  refine OwnW.iloadN X6 (n := 16) d6_15 rfl rfl ?_
  have f9 := (f5.keep K6)
  refine OwnW.putfield X6 (ty := .int) (v' := (.int p3)) (n := 19) d6_16 (hw _ (List.mem_of_getElem? (i := 44) rfl)) Via.refl f8 f9 (Or.inr ⟨(hw _ (List.mem_of_getElem? (i := 45) rfl)), rfl, rfl⟩) (hw _ (List.mem_of_getElem? (i := 2) rfl)) (by decide) rfl rfl ge_r0 (List.mem_cons_self ..) rfl ?_
  intro T10 h10 X10 W10 Fw10
  have f11 := f7.other W10 (Or.inr (slot_ne (Or.inr (hw _ (List.mem_of_getElem? (i := 41) rfl))) (Or.inr (hw _ (List.mem_of_getElem? (i := 45) rfl))) (by decide) (t := (.object "com/example/selectivity/selectivity/Token$Type")) (t' := .int) (by decide) (by decide)))
  have f12 := Fw6.other W10 (Or.inr (slot_ne (Or.inr (hw _ (List.mem_of_getElem? (i := 43) rfl))) (Or.inr (hw _ (List.mem_of_getElem? (i := 45) rfl))) (by decide) (t := (.object "java/lang/String")) (t' := .int) (by decide) (by decide)))
  have K10 := (Keep.of_wr W10)
  have O10 := O6.keep K10 (allS ge_r0 all0)
  have Z10 : Keep h0 h10 [r0] := Z6.trans K10 (allS (P := fun x => x ∈ [r0] ∨ h0.size ≤ x) (Or.inl (List.mem_of_getElem? (i := 0) rfl)) all0)
  exact OwnW.vreturn X10 rfl d6_19 ⟨Z10, f11, f12⟩ (by decide) (by decide)
theorem pd__Ljava_lang_Object__Z : parseMethodDescriptor "(Ljava/lang/Object;)Z" = some ⟨[(.object "java/lang/Object")], some .boolean⟩ := by decide +kernel
theorem d7_0 : decode prog_32_method_6_code 0 = .ok (.aload_n 0, 1) := by decide +kernel
theorem d7_1 : decode prog_32_method_6_code 1 = .ok (.getfield 7, 3) := by decide +kernel
theorem d7_4 : decode prog_32_method_6_code 4 = .ok (.aload_n 1, 1) := by decide +kernel
theorem d7_5 : decode prog_32_method_6_code 5 = .ok (.if_acmp .ne 18, 3) := by decide +kernel
theorem d7_8 : decode prog_32_method_6_code 8 = .ok (.aload_n 0, 1) := by decide +kernel
theorem d7_9 : decode prog_32_method_6_code 9 = .ok (.getfield 13, 3) := by decide +kernel
theorem d7_12 : decode prog_32_method_6_code 12 = .ok (.aload_n 2, 1) := by decide +kernel
theorem d7_13 : decode prog_32_method_6_code 13 = .ok (.invokevirtual 35, 3) := by decide +kernel
theorem d7_16 : decode prog_32_method_6_code 16 = .ok (.ifCond .eq 7, 3) := by decide +kernel
theorem d7_19 : decode prog_32_method_6_code 19 = .ok (.iconst 1, 1) := by decide +kernel
theorem d7_20 : decode prog_32_method_6_code 20 = .ok (.goto 4, 3) := by decide +kernel
theorem d7_23 : decode prog_32_method_6_code 23 = .ok (.iconst 0, 1) := by decide +kernel
theorem d7_24 : decode prog_32_method_6_code 24 = .ok (.ireturn, 1) := by decide +kernel
theorem ef_rm7 (m : MethodId) (x0 : Addr) (x1 : Addr) (x2 : Addr) : entryFrame m #[(.ref x0), (.ref x1), (.ref x2)] 3 = mkF m 0 #[.val (.ref x0), .val (.ref x1), .val (.ref x2)] [] := by first | (simp [entryFrame, mkF, argsToLocals, Value.category]; done) | rfl
set_option maxRecDepth 65536 in
set_option maxHeartbeats 40000000 in
theorem rm7 (l : Launch) (Z : State) (a0 : Array Value) (hw : ∀ d ∈ tables_1, d.before a0 Z = true) (hE : EW Z a0 own_EL) (ws : List Jvm.Cond) (r0 : Addr) (r1 : Addr) (r2 : Addr) (h0 : Heap) (n0 : Nat) (O0 : Old Z n0 h0) (e' x' t u : Addr) (cs ds : List Int32) (hcs : Lat cs) (hds : Lat ds) (F1 : Fld Z h0 r0 "com/example/selectivity/selectivity/Token" "type" "Lcom/example/selectivity/selectivity/Token$Type;" (.ref e')) (F2 : Fld Z h0 r0 "com/example/selectivity/selectivity/Token" "text" "Ljava/lang/String;" (.ref x')) (S0 : StrL Z h0 x' t cs) (S1 : StrL Z h0 r2 u ds) (zc : Int32) (hzc : ¬ zc = 0) (S_compact : Sta Z Z.heap "java/lang/String" "COMPACT_STRINGS" "Z" (.int zc)) :
    Ctr False l Z own_EL (⟨"com/example/selectivity/selectivity/Token", "is", "(Lcom/example/selectivity/selectivity/Token$Type;Ljava/lang/String;)Z"⟩ : MethodName) prog_32_method_6_code 3 (some .boolean) ws ({ frames := 2, cells := 0, slots := 0, locals := 28 } : Room) n0 ([]) #[(.ref r0), (.ref r1), (.ref r2)] h0 (Rt (fun w h g => w = .int (if e' = r1 ∧ cs = ds then 1 else 0) ∧ h0 = h)) := by
  refine Ctr.of (plainFor_of_name pn_com_example_selectivity_selectivity_Token) hE (fun m => ef_rm7 m r0 r1 r2) ?_
  intro p e s m below meth c T0 X0
  have Z0 : Keep h0 h0 [] := Keep.refl _ _
  refine OwnW.aloadN X0 (n := 1) d7_0 rfl rfl rfl ?_
  refine OwnW.getfield X0 (n := 4) d7_1 (hw _ (List.mem_of_getElem? (i := 40) rfl)) Via.refl F1 rfl ?_
  intro T1 X1
  refine OwnW.aloadN X1 (n := 5) d7_4 rfl rfl rfl ?_
  refine OwnW.ac_ne X1 (n1 := 23) (n2 := 8) d7_5 rfl rfl (by decide) rfl rfl (fun hc5 => ?_) (fun hc5 => ?_)
  · refine OwnW.iconst X1 (z := (0 : Int32)) (n := 24) d7_23 rfl rfl ?_
    exact OwnW.ireturn X1 rfl (Or.inr (Or.inl rfl)) rfl d7_24 ⟨by simp only [Value.ref.injEq] at hc5; simp_all, rfl⟩ (by decide) (by decide)
  · refine OwnW.aloadN X1 (n := 9) d7_8 rfl rfl rfl ?_
    refine OwnW.getfield X1 (n := 12) d7_9 (hw _ (List.mem_of_getElem? (i := 42) rfl)) Via.refl F2 rfl ?_
    intro T2 X2
    refine OwnW.aloadN X2 (n := 13) d7_12 rfl rfl rfl ?_
    refine OwnW.call_virtual_v X2 (z := (⟨"java/lang/String", "equals", "(Ljava/lang/Object;)Z"⟩ : MethodName)) (yv := (⟨"java/lang/String", "equals", "(Ljava/lang/Object;)Z"⟩ : MethodName)) (a := x') (C := "java/lang/String") (n := 16) d7_13 (hw _ (List.mem_of_getElem? (i := 51) rfl)) (hw _ (List.mem_of_getElem? (i := 52) rfl)) (hw _ (List.mem_of_getElem? (i := 53) rfl)) (hw _ (List.mem_of_getElem? (i := 54) rfl)) (fun hz => notFace_of_selects (args := #[]) (mvT hz (hw _ (List.mem_of_getElem? (i := 54) rfl)))) (hw _ (List.mem_of_getElem? (i := 55) rfl)) (hw _ (List.mem_of_getElem? (i := 16) rfl)) (by decide) S0.1 (rm8 l Z a0 hw hE [] x' r2 h0 n0 O0 t u cs ds hcs hds S0 S1 zc hzc S_compact) OwnW.sf0 (argsL := [(.ref r2)]) (rest := []) rfl rfl (OwnW.lenA pd__Ljava_lang_Object__Z rfl) (W := 0) (Nat.le_of_eq rfl) (by decide) (by decide) (by decide) (by decide) rfl ?_
    intro T3 h3 w3 g3 hle3 X3 ⟨q1, q2⟩
    subst q1 q2
    refine OwnW.if_eq X3  (n1 := 23) (n2 := 19) d7_16 (by decide) rfl rfl (fun hc16 => ?_) (fun hc16 => ?_)
    · refine OwnW.iconst X3 (z := (0 : Int32)) (n := 24) d7_23 rfl rfl ?_
      exact OwnW.ireturn X3 rfl (Or.inr (Or.inl rfl)) rfl d7_24 ⟨by simp only [Value.ref.injEq] at hc5; split at hc16 <;> simp_all, rfl⟩ (by decide) (by decide)
    · refine OwnW.iconst X3 (z := (1 : Int32)) (n := 20) d7_19 rfl rfl ?_
      refine OwnW.goto X3 (n := 24) d7_20 (by decide) rfl ?_
      exact OwnW.ireturn X3 rfl (Or.inr (Or.inl rfl)) rfl d7_24 ⟨by simp only [Value.ref.injEq] at hc5; split at hc16 <;> simp_all, rfl⟩ (by decide) (by decide)
theorem pd__I_Lcom_example_selectivity_selectivity_Token_Type_ : parseMethodDescriptor "(I)Lcom/example/selectivity/selectivity/Token$Type;" = some ⟨[.int], some (.object "com/example/selectivity/selectivity/Token$Type")⟩ := by decide +kernel
theorem pd__ICCC_Ljava_lang_String_ : parseMethodDescriptor "(ICCC)Ljava/lang/String;" = some ⟨[.int, .char, .char, .char], some (.object "java/lang/String")⟩ := by decide +kernel
theorem pd__Lcom_example_selectivity_selectivity_Token_Type_Ljava_lang_String_I_V : parseMethodDescriptor "(Lcom/example/selectivity/selectivity/Token$Type;Ljava/lang/String;I)V" = some ⟨[(.object "com/example/selectivity/selectivity/Token$Type"), (.object "java/lang/String"), .int], none⟩ := by decide +kernel
theorem pd__Lcom_example_selectivity_selectivity_Token_Type_Ljava_lang_String__Z : parseMethodDescriptor "(Lcom/example/selectivity/selectivity/Token$Type;Ljava/lang/String;)Z" = some ⟨[(.object "com/example/selectivity/selectivity/Token$Type"), (.object "java/lang/String")], some .boolean⟩ := by decide +kernel
theorem ef_rm0 (m : MethodId) (x0 : Int32) (x1 : Int32) (x2 : Int32) (x3 : Int32) (x4 : Int32) (x5 : Int32) : entryFrame m #[(.int x0), (.int x1), (.int x2), (.int x3), (.int x4), (.int x5)] maxLocals = mkF m 0 #[.val (.int x0), .val (.int x1), .val (.int x2), .val (.int x3), .val (.int x4), .val (.int x5), .unset, .unset, .unset, .unset, .unset, .unset, .unset, .unset, .unset, .unset, .unset, .unset, .unset, .unset, .unset] [] := by first | (simp [entryFrame, mkF, argsToLocals, Value.category, maxLocals]; done) | rfl
set_option maxRecDepth 65536 in
set_option maxHeartbeats 40000000 in
theorem rm0 (l : Launch) (Z : State) (a0 : Array Value) (hw : ∀ d ∈ tables_1, d.before a0 Z = true) (hE : EW Z a0 own_EL) (ws : List Jvm.Cond) (p0 : Int32) (p1 : Int32) (p2 : Int32) (p3 : Int32) (p4 : Int32) (p5 : Int32) (h0 : Heap) (n0 : Nat) (O0 : Old Z n0 h0) (a_LEFT_PAREN : Addr) (S_LEFT_PAREN : Sta Z Z.heap "com/example/selectivity/selectivity/Token$Type" "LEFT_PAREN" "Lcom/example/selectivity/selectivity/Token$Type;" (.ref a_LEFT_PAREN)) (E_LEFT_PAREN : Exa Z Z.heap a_LEFT_PAREN "com/example/selectivity/selectivity/Token$Type") (a_FLOAT : Addr) (S_FLOAT : Sta Z Z.heap "com/example/selectivity/selectivity/Token$Type" "FLOAT" "Lcom/example/selectivity/selectivity/Token$Type;" (.ref a_FLOAT)) (E_FLOAT : Exa Z Z.heap a_FLOAT "com/example/selectivity/selectivity/Token$Type") (a_SYMBOL : Addr) (S_SYMBOL : Sta Z Z.heap "com/example/selectivity/selectivity/Token$Type" "SYMBOL" "Lcom/example/selectivity/selectivity/Token$Type;" (.ref a_SYMBOL)) (E_SYMBOL : Exa Z Z.heap a_SYMBOL "com/example/selectivity/selectivity/Token$Type") (a_WILDCARD : Addr) (S_WILDCARD : Sta Z Z.heap "com/example/selectivity/selectivity/Token$Type" "WILDCARD" "Lcom/example/selectivity/selectivity/Token$Type;" (.ref a_WILDCARD)) (E_WILDCARD : Exa Z Z.heap a_WILDCARD "com/example/selectivity/selectivity/Token$Type") (F_SYMBOL_ordinal : Fld Z Z.heap a_SYMBOL "java/lang/Enum" "ordinal" "I" (.int (2 : Int32))) (F_WILDCARD_ordinal : Fld Z Z.heap a_WILDCARD "java/lang/Enum" "ordinal" "I" (.int (7 : Int32))) (a_END : Addr) (S_END : Sta Z Z.heap "com/example/selectivity/selectivity/Token$Type" "END" "Lcom/example/selectivity/selectivity/Token$Type;" (.ref a_END)) (E_END : Exa Z Z.heap a_END "com/example/selectivity/selectivity/Token$Type") (a_AND : Addr) (S_AND : Sta Z Z.heap "com/example/selectivity/selectivity/Token$Type" "AND" "Lcom/example/selectivity/selectivity/Token$Type;" (.ref a_AND)) (E_AND : Exa Z Z.heap a_AND "com/example/selectivity/selectivity/Token$Type") (F_END_ordinal : Fld Z Z.heap a_END "java/lang/Enum" "ordinal" "I" (.int (12 : Int32))) (F_AND_ordinal : Fld Z Z.heap a_AND "java/lang/Enum" "ordinal" "I" (.int (9 : Int32))) (a_MULTIFIELD : Addr) (S_MULTIFIELD : Sta Z Z.heap "com/example/selectivity/selectivity/Token$Type" "MULTIFIELD" "Lcom/example/selectivity/selectivity/Token$Type;" (.ref a_MULTIFIELD)) (E_MULTIFIELD : Exa Z Z.heap a_MULTIFIELD "com/example/selectivity/selectivity/Token$Type") (F_MULTIFIELD_ordinal : Fld Z Z.heap a_MULTIFIELD "java/lang/Enum" "ordinal" "I" (.int (8 : Int32))) (F_LEFT_PAREN_ordinal : Fld Z Z.heap a_LEFT_PAREN "java/lang/Enum" "ordinal" "I" (.int (0 : Int32))) (a_VARIABLE : Addr) (S_VARIABLE : Sta Z Z.heap "com/example/selectivity/selectivity/Token$Type" "VARIABLE" "Lcom/example/selectivity/selectivity/Token$Type;" (.ref a_VARIABLE)) (E_VARIABLE : Exa Z Z.heap a_VARIABLE "com/example/selectivity/selectivity/Token$Type") (a_NOT : Addr) (S_NOT : Sta Z Z.heap "com/example/selectivity/selectivity/Token$Type" "NOT" "Lcom/example/selectivity/selectivity/Token$Type;" (.ref a_NOT)) (E_NOT : Exa Z Z.heap a_NOT "com/example/selectivity/selectivity/Token$Type") (F_NOT_ordinal : Fld Z Z.heap a_NOT "java/lang/Enum" "ordinal" "I" (.int (11 : Int32))) (a_OR : Addr) (S_OR : Sta Z Z.heap "com/example/selectivity/selectivity/Token$Type" "OR" "Lcom/example/selectivity/selectivity/Token$Type;" (.ref a_OR)) (E_OR : Exa Z Z.heap a_OR "com/example/selectivity/selectivity/Token$Type") (a_RIGHT_PAREN : Addr) (S_RIGHT_PAREN : Sta Z Z.heap "com/example/selectivity/selectivity/Token$Type" "RIGHT_PAREN" "Lcom/example/selectivity/selectivity/Token$Type;" (.ref a_RIGHT_PAREN)) (E_RIGHT_PAREN : Exa Z Z.heap a_RIGHT_PAREN "com/example/selectivity/selectivity/Token$Type") (F_OR_ordinal : Fld Z Z.heap a_OR "java/lang/Enum" "ordinal" "I" (.int (10 : Int32))) (F_RIGHT_PAREN_ordinal : Fld Z Z.heap a_RIGHT_PAREN "java/lang/Enum" "ordinal" "I" (.int (1 : Int32))) (a_STRING : Addr) (S_STRING : Sta Z Z.heap "com/example/selectivity/selectivity/Token$Type" "STRING" "Lcom/example/selectivity/selectivity/Token$Type;" (.ref a_STRING)) (E_STRING : Exa Z Z.heap a_STRING "com/example/selectivity/selectivity/Token$Type") (F_STRING_ordinal : Fld Z Z.heap a_STRING "java/lang/Enum" "ordinal" "I" (.int (5 : Int32))) (a_INTEGER : Addr) (S_INTEGER : Sta Z Z.heap "com/example/selectivity/selectivity/Token$Type" "INTEGER" "Lcom/example/selectivity/selectivity/Token$Type;" (.ref a_INTEGER)) (E_INTEGER : Exa Z Z.heap a_INTEGER "com/example/selectivity/selectivity/Token$Type") (F_INTEGER_ordinal : Fld Z Z.heap a_INTEGER "java/lang/Enum" "ordinal" "I" (.int (3 : Int32))) (F_FLOAT_ordinal : Fld Z Z.heap a_FLOAT "java/lang/Enum" "ordinal" "I" (.int (4 : Int32))) (F_VARIABLE_ordinal : Fld Z Z.heap a_VARIABLE "java/lang/Enum" "ordinal" "I" (.int (6 : Int32))) (zc : Int32) (hzc : ¬ zc = 0) (S_compact : Sta Z Z.heap "java/lang/String" "COMPACT_STRINGS" "Z" (.int zc)) :
    Ctr False l Z own_EL x code maxLocals ret ws room_1 n0 ([]) #[(.int p0), (.int p1), (.int p2), (.int p3), (.int p4), (.int p5)] h0 (Rt (fun w h g => w = .int 1)) := by
  refine Ctr.of (plainFor_of_name pn_com_example_selectivity_selectivity_TokenIsPinLaw) hE (fun m => ef_rm0 m p0 p1 p2 p3 p4 p5) ?_
  intro p e s m below meth c T0 X0
  have Z0 : Keep h0 h0 [] := Keep.refl _ _
  refine OwnW.joinT X0 (fun (x : Int32 × Int32 × Int32 × Int32 × Int32 × Int32 × Int32 × Int32 × Int32 × Int32 × Int32 × Int32) => match x with | (ti, qi, lT, lQ, c0, c1, c2, q0, q1, q2, mm, qq) => (ti = 0 ∨ ti = 1 ∨ ti = 2 ∨ ti = 3 ∨ ti = 4 ∨ ti = 5 ∨ ti = 6 ∨ ti = 7 ∨ ti = 8 ∨ ti = 9 ∨ ti = 10 ∨ ti = 11 ∨ ti = 12) ∧ (qi = 0 ∨ qi = 1 ∨ qi = 2 ∨ qi = 3 ∨ qi = 4 ∨ qi = 5 ∨ qi = 6 ∨ qi = 7 ∨ qi = 8 ∨ qi = 9 ∨ qi = 10 ∨ qi = 11 ∨ qi = 12) ∧ (lT = 0 ∨ lT = 1 ∨ lT = 2 ∨ lT = 3) ∧ (lQ = 0 ∨ lQ = 1 ∨ lQ = 2 ∨ lQ = 3) ∧ (¬ c0 < 0 ∧ ¬ 255 < c0) ∧ (¬ c1 < 0 ∧ ¬ 255 < c1) ∧ (¬ c2 < 0 ∧ ¬ 255 < c2) ∧ (¬ q0 < 0 ∧ ¬ 255 < q0) ∧ (¬ q1 < 0 ∧ ¬ 255 < q1) ∧ (¬ q2 < 0 ∧ ¬ 255 < q2)) (fun (x : Int32 × Int32 × Int32 × Int32 × Int32 × Int32 × Int32 × Int32 × Int32 × Int32 × Int32 × Int32) => match x with | (ti, qi, lT, lQ, c0, c1, c2, q0, q1, q2, mm, qq) => mkF m 142 #[.val (.int p0), .val (.int p1), .val (.int p2), .val (.int p3), .val (.int p4), .val (.int p5), .val (.int ti), .val (.int qi), .val (.int lT), .val (.int lQ), .val (.int c0), .val (.int c1), .val (.int c2), .val (.int mm), .val (.int qq), .val (.int q0), .val (.int q1), .val (.int q2), .unset, .unset, .unset] []) ?_ ?_
  · intro T1 ⟨ti, qi, lT, lQ, c0, c1, c2, q0, q1, q2, mm, qq⟩ X1 hj142
    obtain ⟨hti, hqi, hlT, hlQ, hb_c0, hb_c1, hb_c2, hb_q0, hb_q1, hb_q2⟩ := hj142
    refine OwnW.new X1 (C := "com/example/selectivity/selectivity/Token") (k := 3) (n := 145) at_142 (hw _ (List.mem_of_getElem? (i := 1) rfl)) (hw _ (List.mem_of_getElem? (i := 2) rfl)) (hw _ (List.mem_of_getElem? (i := 3) rfl)) (by decide) (by decide) rfl ?_
    intro T2 h2 b2 gb2 X2 E2 A2 D2 U2
    have ge_b2 : n0 ≤ b2 := by rw [gb2]; exact OwnW.oldLe O0
    have K2 := (OwnW.kExt E2)
    have O2 := O0.keep K2 all0
    have Z2 : Keep h0 h2 [] := Z0.trans K2 (fun x hx => nomatch hx)
    have sz_b2 : h0.size ≤ b2 := by rw [gb2]; exact Z0.1
    have F2_type : Fld Z h2 b2 "com/example/selectivity/selectivity/Token" "type" "Lcom/example/selectivity/selectivity/Token$Type;" .null := D2 (Or.inr (hw _ (List.mem_of_getElem? (i := 41) rfl))) (ty := (.object "com/example/selectivity/selectivity/Token$Type")) (by decide)
    have F2_text : Fld Z h2 b2 "com/example/selectivity/selectivity/Token" "text" "Ljava/lang/String;" .null := D2 (Or.inr (hw _ (List.mem_of_getElem? (i := 43) rfl))) (ty := (.object "java/lang/String")) (by decide)
    have F2_line : Fld Z h2 b2 "com/example/selectivity/selectivity/Token" "line" "I" (.int (0 : Int32)) := D2 (Or.inr (hw _ (List.mem_of_getElem? (i := 45) rfl))) (ty := .int) (by decide)
    refine OwnW.dup X2 (n := 146) at_145 rfl rfl ?_
    refine OwnW.iload X2 (n := 148) at_146 rfl rfl ?_
    refine OwnW.call_static_v X2 (z := (⟨"com/example/selectivity/selectivity/TokenIsPinLaw", "type", "(I)Lcom/example/selectivity/selectivity/Token$Type;"⟩ : MethodName)) (n := 151) at_148 (hw _ (List.mem_of_getElem? (i := 4) rfl)) (hw _ (List.mem_of_getElem? (i := 5) rfl)) (hw _ (List.mem_of_getElem? (i := 7) rfl)) (hw _ (List.mem_of_getElem? (i := 6) rfl)) (by decide) (rm1 l Z a0 hw hE [] ti h2 n0 O2 a_LEFT_PAREN S_LEFT_PAREN E_LEFT_PAREN a_FLOAT S_FLOAT E_FLOAT a_SYMBOL S_SYMBOL E_SYMBOL a_WILDCARD S_WILDCARD E_WILDCARD F_SYMBOL_ordinal F_WILDCARD_ordinal a_END S_END E_END a_AND S_AND E_AND F_END_ordinal F_AND_ordinal a_MULTIFIELD S_MULTIFIELD E_MULTIFIELD F_MULTIFIELD_ordinal F_LEFT_PAREN_ordinal a_VARIABLE S_VARIABLE E_VARIABLE a_NOT S_NOT E_NOT F_NOT_ordinal a_OR S_OR E_OR a_RIGHT_PAREN S_RIGHT_PAREN E_RIGHT_PAREN F_OR_ordinal F_RIGHT_PAREN_ordinal a_STRING S_STRING E_STRING F_STRING_ordinal a_INTEGER S_INTEGER E_INTEGER F_INTEGER_ordinal F_FLOAT_ordinal F_VARIABLE_ordinal) OwnW.sf0 (argsL := [(.int ti)]) (rest := [(.ref b2), (.ref b2)]) rfl rfl (OwnW.lenA pd__I_Lcom_example_selectivity_selectivity_Token_Type_ rfl) (W := 2) (Nat.le_of_eq rfl) (by decide) (by decide) (by decide) (by decide) rfl ?_
    intro T3 h3 w3 g3 hle3 X3 ⟨q1, q2⟩
    subst q1 q2
    refine OwnW.iload X3 (n := 153) at_151 rfl rfl ?_
    refine OwnW.iload X3 (n := 155) at_153 rfl rfl ?_
    refine OwnW.iload X3 (n := 157) at_155 rfl rfl ?_
    refine OwnW.iload X3 (n := 159) at_157 rfl rfl ?_
    refine OwnW.call_static_v X3 (z := (⟨"com/example/selectivity/selectivity/TokenIsPinLaw", "str", "(ICCC)Ljava/lang/String;"⟩ : MethodName)) (n := 162) at_159 (hw _ (List.mem_of_getElem? (i := 11) rfl)) (hw _ (List.mem_of_getElem? (i := 12) rfl)) (hw _ (List.mem_of_getElem? (i := 13) rfl)) (hw _ (List.mem_of_getElem? (i := 6) rfl)) (by decide) (rm2 l Z a0 hw hE [] lT c0 c1 c2 h2 n0 O2 [b2] hb_c0 hb_c1 hb_c2 zc hzc S_compact) (OwnW.sfS (List.mem_append_left _ (List.mem_cons_self ..)) OwnW.sf0) (argsL := [(.int lT), (.int c0), (.int c1), (.int c2)]) (rest := [(.ref (own_sel a_LEFT_PAREN a_RIGHT_PAREN a_SYMBOL a_INTEGER a_FLOAT a_STRING a_VARIABLE a_WILDCARD a_MULTIFIELD a_AND a_OR a_NOT a_END ti)), (.ref b2), (.ref b2)]) rfl rfl (OwnW.lenA pd__ICCC_Ljava_lang_String_ rfl) (W := 3) (Nat.le_of_eq rfl) (by decide) (by decide) (by decide) (by decide) rfl ?_
    intro T4 h4 w4 g4 hle4 X4 ⟨x4, t4, q1, k4, y4, nx4, S4⟩
    subst q1
    obtain ⟨se4, sc4, sv4, sa4⟩ := S4
    have ne_b2_x4 : b2 ≠ x4 := Nat.ne_of_lt (Nat.lt_of_lt_of_le A2.lt y4)
    have K4 := k4
    have O4 := O2.keep K4 all0
    have Z4 : Keep h0 h4 [] := Z2.trans K4 (fun x hx => nomatch hx)
    refine OwnW.iload X4 (n := 164) at_162 rfl rfl ?_
    have f5 := (A2.keep K4)
    have f6 := (F2_type.keep K4 nin0)
    have f7 := (F2_text.keep K4 nin0)
    have f8 := (F2_line.keep K4 nin0)
    refine OwnW.call_special_n X4 (z := (⟨"com/example/selectivity/selectivity/Token", "<init>", "(Lcom/example/selectivity/selectivity/Token$Type;Ljava/lang/String;I)V"⟩ : MethodName)) (a := b2) (n := 167) at_164 (hw _ (List.mem_of_getElem? (i := 36) rfl)) (hw _ (List.mem_of_getElem? (i := 37) rfl)) (hw _ (List.mem_of_getElem? (i := 38) rfl)) (hw _ (List.mem_of_getElem? (i := 3) rfl)) rfl rfl (by decide) (rm6 l Z a0 hw hE [] b2 (own_sel a_LEFT_PAREN a_RIGHT_PAREN a_SYMBOL a_INTEGER a_FLOAT a_STRING a_VARIABLE a_WILDCARD a_MULTIFIELD a_AND a_OR a_NOT a_END ti) x4 p5 h4 n0 O4 ge_b2 f5 _ _ _ f6 f7 f8) (OwnW.sfS (List.mem_append_left _ (List.mem_append_left _ (List.mem_cons_self ..))) OwnW.sf0) (argsL := [(.ref (own_sel a_LEFT_PAREN a_RIGHT_PAREN a_SYMBOL a_INTEGER a_FLOAT a_STRING a_VARIABLE a_WILDCARD a_MULTIFIELD a_AND a_OR a_NOT a_END ti)), (.ref x4), (.int p5)]) (rest := [(.ref b2)]) rfl rfl (OwnW.lenA pd__Lcom_example_selectivity_selectivity_Token_Type_Ljava_lang_String_I_V rfl) (W := 1) (Nat.le_of_eq rfl) (by decide) (by decide) (by decide) (by decide) rfl ?_
    intro T9 h9 g9 hle9 X9 ⟨k9, f9, e9⟩
    have K9 := k9
    have O9 := O4.keep K9 (allS ge_b2 all0)
    have Z9 : Keep h0 h9 [] := Z4.trans K9 (allS (P := fun x => x ∈ [] ∨ h0.size ≤ x) (Or.inr sz_b2) all0)
    refine OwnW.astore X9 (l' := #[.val (.int p0), .val (.int p1), .val (.int p2), .val (.int p3), .val (.int p4), .val (.int p5), .val (.int ti), .val (.int qi), .val (.int lT), .val (.int lQ), .val (.int c0), .val (.int c1), .val (.int c2), .val (.int mm), .val (.int qq), .val (.int q0), .val (.int q1), .val (.int q2), .val (.ref b2), .unset, .unset]) (n := 169) at_167 rfl rfl rfl ?_
    refine OwnW.aload X9 (n := 171) at_169 rfl rfl rfl ?_
    refine OwnW.iload X9 (n := 173) at_171 rfl rfl ?_
    refine OwnW.call_static_v X9 (z := (⟨"com/example/selectivity/selectivity/TokenIsPinLaw", "type", "(I)Lcom/example/selectivity/selectivity/Token$Type;"⟩ : MethodName)) (n := 176) at_173 (hw _ (List.mem_of_getElem? (i := 4) rfl)) (hw _ (List.mem_of_getElem? (i := 5) rfl)) (hw _ (List.mem_of_getElem? (i := 7) rfl)) (hw _ (List.mem_of_getElem? (i := 6) rfl)) (by decide) (rm1 l Z a0 hw hE [] qi h9 n0 O9 a_LEFT_PAREN S_LEFT_PAREN E_LEFT_PAREN a_FLOAT S_FLOAT E_FLOAT a_SYMBOL S_SYMBOL E_SYMBOL a_WILDCARD S_WILDCARD E_WILDCARD F_SYMBOL_ordinal F_WILDCARD_ordinal a_END S_END E_END a_AND S_AND E_AND F_END_ordinal F_AND_ordinal a_MULTIFIELD S_MULTIFIELD E_MULTIFIELD F_MULTIFIELD_ordinal F_LEFT_PAREN_ordinal a_VARIABLE S_VARIABLE E_VARIABLE a_NOT S_NOT E_NOT F_NOT_ordinal a_OR S_OR E_OR a_RIGHT_PAREN S_RIGHT_PAREN E_RIGHT_PAREN F_OR_ordinal F_RIGHT_PAREN_ordinal a_STRING S_STRING E_STRING F_STRING_ordinal a_INTEGER S_INTEGER E_INTEGER F_INTEGER_ordinal F_FLOAT_ordinal F_VARIABLE_ordinal) OwnW.sf0 (argsL := [(.int qi)]) (rest := [(.ref b2)]) rfl rfl (OwnW.lenA pd__I_Lcom_example_selectivity_selectivity_Token_Type_ rfl) (W := 1) (Nat.le_of_eq rfl) (by decide) (by decide) (by decide) (by decide) rfl ?_
    intro T10 h10 w10 g10 hle10 X10 ⟨q1, q2⟩
    subst q1 q2
    refine OwnW.iload X10 (n := 178) at_176 rfl rfl ?_
    refine OwnW.iload X10 (n := 180) at_178 rfl rfl ?_
    refine OwnW.iload X10 (n := 182) at_180 rfl rfl ?_
    refine OwnW.iload X10 (n := 184) at_182 rfl rfl ?_
    have f11 := (f5.keep K9)
    have f12 := (se4.keep K9)
    have f13 := (sc4.keep K9 (ninS (Ne.symm ne_b2_x4) nin0))
    have f14 := (sv4.keep K9 (ninS (Ne.symm ne_b2_x4) nin0))
    have f15 := (sa4.keep K9 (ninS (Ne.symm (nx4 b2 (List.mem_of_getElem? (i := 0) rfl))) nin0))
    refine OwnW.call_static_v X10 (z := (⟨"com/example/selectivity/selectivity/TokenIsPinLaw", "str", "(ICCC)Ljava/lang/String;"⟩ : MethodName)) (n := 187) at_184 (hw _ (List.mem_of_getElem? (i := 11) rfl)) (hw _ (List.mem_of_getElem? (i := 12) rfl)) (hw _ (List.mem_of_getElem? (i := 13) rfl)) (hw _ (List.mem_of_getElem? (i := 6) rfl)) (by decide) (rm2 l Z a0 hw hE [] lQ q0 q1 q2 h9 n0 O9 [] hb_q0 hb_q1 hb_q2 zc hzc S_compact) OwnW.sf0 (argsL := [(.int lQ), (.int q0), (.int q1), (.int q2)]) (rest := [(.ref (own_sel a_LEFT_PAREN a_RIGHT_PAREN a_SYMBOL a_INTEGER a_FLOAT a_STRING a_VARIABLE a_WILDCARD a_MULTIFIELD a_AND a_OR a_NOT a_END qi)), (.ref b2)]) rfl rfl (OwnW.lenA pd__ICCC_Ljava_lang_String_ rfl) (W := 2) (Nat.le_of_eq rfl) (by decide) (by decide) (by decide) (by decide) rfl ?_
    intro T16 h16 w16 g16 hle16 X16 ⟨x16, t16, q1, k16, y16, nx16, S16⟩
    subst q1
    obtain ⟨se16, sc16, sv16, sa16⟩ := S16
    have ne_b2_x16 : b2 ≠ x16 := Nat.ne_of_lt (Nat.lt_of_lt_of_le f11.lt y16)
    have ne_x4_x16 : x4 ≠ x16 := Nat.ne_of_lt (Nat.lt_of_lt_of_le f12.lt y16)
    have ne_t4_x16 : t4 ≠ x16 := Nat.ne_of_lt (Nat.lt_of_lt_of_le f15.lt y16)
    have K16 := k16
    have O16 := O9.keep K16 all0
    have Z16 : Keep h0 h16 [] := Z9.trans K16 (fun x hx => nomatch hx)
    have f17 := (f9.keep K16 nin0)
    have f18 := (e9.keep K16 nin0)
    have f19 := (f12.keep K16)
    have f20 := (f13.keep K16 nin0)
    have f21 := (f14.keep K16 nin0)
    have f22 := (f15.keep K16 nin0)
    have f24 := (f11.keep K16)
    refine OwnW.call_virtual_v X16 (z := (⟨"com/example/selectivity/selectivity/Token", "is", "(Lcom/example/selectivity/selectivity/Token$Type;Ljava/lang/String;)Z"⟩ : MethodName)) (yv := (⟨"com/example/selectivity/selectivity/Token", "is", "(Lcom/example/selectivity/selectivity/Token$Type;Ljava/lang/String;)Z"⟩ : MethodName)) (a := b2) (C := "com/example/selectivity/selectivity/Token") (n := 190) at_187 (hw _ (List.mem_of_getElem? (i := 46) rfl)) (hw _ (List.mem_of_getElem? (i := 47) rfl)) (hw _ (List.mem_of_getElem? (i := 48) rfl)) (hw _ (List.mem_of_getElem? (i := 49) rfl)) (fun hz => notFace_of_selects (args := #[]) (mvT hz (hw _ (List.mem_of_getElem? (i := 49) rfl)))) (hw _ (List.mem_of_getElem? (i := 50) rfl)) (hw _ (List.mem_of_getElem? (i := 3) rfl)) (by decide) f24 (rm7 l Z a0 hw hE [] b2 (own_sel a_LEFT_PAREN a_RIGHT_PAREN a_SYMBOL a_INTEGER a_FLOAT a_STRING a_VARIABLE a_WILDCARD a_MULTIFIELD a_AND a_OR a_NOT a_END qi) x16 h16 n0 O16 (own_sel a_LEFT_PAREN a_RIGHT_PAREN a_SYMBOL a_INTEGER a_FLOAT a_STRING a_VARIABLE a_WILDCARD a_MULTIFIELD a_AND a_OR a_NOT a_END ti) x4 t4 t16 (own_cs lT c0 c1 c2) (own_cs lQ q0 q1 q2) (own_cs_lat hb_c0 hb_c1 hb_c2) (own_cs_lat hb_q0 hb_q1 hb_q2) f17 f18 ⟨f19, f20, f21, f22⟩ ⟨se16, sc16, sv16, sa16⟩ zc hzc S_compact) OwnW.sf0 (argsL := [(.ref (own_sel a_LEFT_PAREN a_RIGHT_PAREN a_SYMBOL a_INTEGER a_FLOAT a_STRING a_VARIABLE a_WILDCARD a_MULTIFIELD a_AND a_OR a_NOT a_END qi)), (.ref x16)]) (rest := []) rfl rfl (OwnW.lenA pd__Lcom_example_selectivity_selectivity_Token_Type_Ljava_lang_String__Z rfl) (W := 0) (Nat.le_of_eq rfl) (by decide) (by decide) (by decide) (by decide) rfl ?_
    intro T23 h23 w23 g23 hle23 X23 ⟨q1, q2⟩
    subst q1 q2
    refine OwnW.istore X23 (l' := #[.val (.int p0), .val (.int p1), .val (.int p2), .val (.int p3), .val (.int p4), .val (.int p5), .val (.int ti), .val (.int qi), .val (.int lT), .val (.int lQ), .val (.int c0), .val (.int c1), .val (.int c2), .val (.int mm), .val (.int qq), .val (.int q0), .val (.int q1), .val (.int q2), .val (.ref b2), .val (.int (if (own_sel a_LEFT_PAREN a_RIGHT_PAREN a_SYMBOL a_INTEGER a_FLOAT a_STRING a_VARIABLE a_WILDCARD a_MULTIFIELD a_AND a_OR a_NOT a_END ti) = (own_sel a_LEFT_PAREN a_RIGHT_PAREN a_SYMBOL a_INTEGER a_FLOAT a_STRING a_VARIABLE a_WILDCARD a_MULTIFIELD a_AND a_OR a_NOT a_END qi) ∧ (own_cs lT c0 c1 c2) = (own_cs lQ q0 q1 q2) then 1 else 0)), .unset]) (n := 192) at_190 rfl rfl ?_
    have hord : ∀ i : Int32, (i = 0 ∨ i = 1 ∨ i = 2 ∨ i = 3 ∨ i = 4 ∨ i = 5 ∨ i = 6 ∨ i = 7 ∨ i = 8 ∨ i = 9 ∨ i = 10 ∨ i = 11 ∨ i = 12) → Fld Z Z.heap (own_sel a_LEFT_PAREN a_RIGHT_PAREN a_SYMBOL a_INTEGER a_FLOAT a_STRING a_VARIABLE a_WILDCARD a_MULTIFIELD a_AND a_OR a_NOT a_END i) "java/lang/Enum" "ordinal" "I" (.int i) := by intro i hi; rcases hi with rfl | rfl | rfl | rfl | rfl | rfl | rfl | rfl | rfl | rfl | rfl | rfl | rfl <;> simp only [own_sel] <;> first | exact F_LEFT_PAREN_ordinal | exact F_RIGHT_PAREN_ordinal | exact F_SYMBOL_ordinal | exact F_INTEGER_ordinal | exact F_FLOAT_ordinal | exact F_STRING_ordinal | exact F_VARIABLE_ordinal | exact F_WILDCARD_ordinal | exact F_MULTIFIELD_ordinal | exact F_AND_ordinal | exact F_OR_ordinal | exact F_NOT_ordinal | exact F_END_ordinal
    have hsel : (own_sel a_LEFT_PAREN a_RIGHT_PAREN a_SYMBOL a_INTEGER a_FLOAT a_STRING a_VARIABLE a_WILDCARD a_MULTIFIELD a_AND a_OR a_NOT a_END ti = own_sel a_LEFT_PAREN a_RIGHT_PAREN a_SYMBOL a_INTEGER a_FLOAT a_STRING a_VARIABLE a_WILDCARD a_MULTIFIELD a_AND a_OR a_NOT a_END qi) ↔ ti = qi := ⟨fun q => by have z := hord ti hti; rw [q] at z; exact Value.int.inj (fld_fun z (hord qi hqi)), fun q => by rw [q]⟩
    have hgot : ((if (own_sel a_LEFT_PAREN a_RIGHT_PAREN a_SYMBOL a_INTEGER a_FLOAT a_STRING a_VARIABLE a_WILDCARD a_MULTIFIELD a_AND a_OR a_NOT a_END ti) = (own_sel a_LEFT_PAREN a_RIGHT_PAREN a_SYMBOL a_INTEGER a_FLOAT a_STRING a_VARIABLE a_WILDCARD a_MULTIFIELD a_AND a_OR a_NOT a_END qi) ∧ (own_cs lT c0 c1 c2) = (own_cs lQ q0 q1 q2) then 1 else 0) : Int32) = (if ti = qi ∧ lT = lQ ∧ (lT < 1 ∨ c0 = q0) ∧ (lT < 2 ∨ c1 = q1) ∧ (lT < 3 ∨ c2 = q2) then 1 else 0) := by simp only [hsel, own_cs_iff hlT hlQ]
    refine OwnW.joinT X23 (fun (wa : Int32) => wa = (if ti = qi ∧ lT = lQ ∧ (lT < 1 ∨ c0 = q0) ∧ (lT < 2 ∨ c1 = q1) ∧ (lT < 3 ∨ c2 = q2) then 1 else 0)) (fun (wa : Int32) => mkF m 252 #[.val (.int p0), .val (.int p1), .val (.int p2), .val (.int p3), .val (.int p4), .val (.int p5), .val (.int ti), .val (.int qi), .val (.int lT), .val (.int lQ), .val (.int c0), .val (.int c1), .val (.int c2), .val (.int mm), .val (.int qq), .val (.int q0), .val (.int q1), .val (.int q2), .val (.ref b2), .val (.int (if (own_sel a_LEFT_PAREN a_RIGHT_PAREN a_SYMBOL a_INTEGER a_FLOAT a_STRING a_VARIABLE a_WILDCARD a_MULTIFIELD a_AND a_OR a_NOT a_END ti) = (own_sel a_LEFT_PAREN a_RIGHT_PAREN a_SYMBOL a_INTEGER a_FLOAT a_STRING a_VARIABLE a_WILDCARD a_MULTIFIELD a_AND a_OR a_NOT a_END qi) ∧ (own_cs lT c0 c1 c2) = (own_cs lQ q0 q1 q2) then 1 else 0)), .val (.int wa)] []) ?_ ?_
    · intro T25 wa X25 hj252
      refine OwnW.iload X25 (n := 254) at_252 rfl rfl ?_
      refine OwnW.iload X25 (n := 256) at_254 rfl rfl ?_
      refine OwnW.ic_ne X25  (n1 := 263) (n2 := 259) at_256 (by decide) rfl rfl (fun q => absurd ((hgot.trans hj252.symm) : (if (own_sel a_LEFT_PAREN a_RIGHT_PAREN a_SYMBOL a_INTEGER a_FLOAT a_STRING a_VARIABLE a_WILDCARD a_MULTIFIELD a_AND a_OR a_NOT a_END ti) = (own_sel a_LEFT_PAREN a_RIGHT_PAREN a_SYMBOL a_INTEGER a_FLOAT a_STRING a_VARIABLE a_WILDCARD a_MULTIFIELD a_AND a_OR a_NOT a_END qi) ∧ (own_cs lT c0 c1 c2) = (own_cs lQ q0 q1 q2) then 1 else 0) = wa) q) (fun _ => ?_)
      refine OwnW.iconst X25 (z := (1 : Int32)) (n := 260) at_259 rfl rfl ?_
      refine OwnW.goto X25 (n := 264) at_260 (by decide) rfl ?_
      exact OwnW.ireturn X25 rfl (Or.inr (Or.inl rfl)) rfl at_264 rfl (by decide) (by decide)
    · intro J25
      refine OwnW.iload X23 (n := 194) at_192 rfl rfl ?_
      refine OwnW.iload X23 (n := 196) at_194 rfl rfl ?_
      refine OwnW.ic_ne X23  (n1 := 249) (n2 := 199) at_196 (by decide) rfl rfl (fun hc196 => ?_) (fun hc196 => ?_)
      · refine OwnW.iconst X23 (z := (0 : Int32)) (n := 250) at_249 rfl rfl ?_
        refine OwnW.istore X23 (l' := #[.val (.int p0), .val (.int p1), .val (.int p2), .val (.int p3), .val (.int p4), .val (.int p5), .val (.int ti), .val (.int qi), .val (.int lT), .val (.int lQ), .val (.int c0), .val (.int c1), .val (.int c2), .val (.int mm), .val (.int qq), .val (.int q0), .val (.int q1), .val (.int q2), .val (.ref b2), .val (.int (if (own_sel a_LEFT_PAREN a_RIGHT_PAREN a_SYMBOL a_INTEGER a_FLOAT a_STRING a_VARIABLE a_WILDCARD a_MULTIFIELD a_AND a_OR a_NOT a_END ti) = (own_sel a_LEFT_PAREN a_RIGHT_PAREN a_SYMBOL a_INTEGER a_FLOAT a_STRING a_VARIABLE a_WILDCARD a_MULTIFIELD a_AND a_OR a_NOT a_END qi) ∧ (own_cs lT c0 c1 c2) = (own_cs lQ q0 q1 q2) then 1 else 0)), .val (.int (0 : Int32))]) (n := 252) at_250 rfl rfl ?_
        exact J25 _ (0 : Int32) X23 (by simp only [eq_false hc196, true_and, and_true, false_and, and_false, true_or, or_true, if_true, if_false, or_false, false_or, reduceIte])
      · refine OwnW.iload X23 (n := 201) at_199 rfl rfl ?_
        refine OwnW.iload X23 (n := 203) at_201 rfl rfl ?_
        refine OwnW.ic_ne X23  (n1 := 249) (n2 := 206) at_203 (by decide) rfl rfl (fun hc203 => ?_) (fun hc203 => ?_)
        · refine OwnW.iconst X23 (z := (0 : Int32)) (n := 250) at_249 rfl rfl ?_
          refine OwnW.istore X23 (l' := #[.val (.int p0), .val (.int p1), .val (.int p2), .val (.int p3), .val (.int p4), .val (.int p5), .val (.int ti), .val (.int qi), .val (.int lT), .val (.int lQ), .val (.int c0), .val (.int c1), .val (.int c2), .val (.int mm), .val (.int qq), .val (.int q0), .val (.int q1), .val (.int q2), .val (.ref b2), .val (.int (if (own_sel a_LEFT_PAREN a_RIGHT_PAREN a_SYMBOL a_INTEGER a_FLOAT a_STRING a_VARIABLE a_WILDCARD a_MULTIFIELD a_AND a_OR a_NOT a_END ti) = (own_sel a_LEFT_PAREN a_RIGHT_PAREN a_SYMBOL a_INTEGER a_FLOAT a_STRING a_VARIABLE a_WILDCARD a_MULTIFIELD a_AND a_OR a_NOT a_END qi) ∧ (own_cs lT c0 c1 c2) = (own_cs lQ q0 q1 q2) then 1 else 0)), .val (.int (0 : Int32))]) (n := 252) at_250 rfl rfl ?_
          exact J25 _ (0 : Int32) X23 (by simp only [eq_true hc196, eq_false hc203, true_and, and_true, false_and, and_false, true_or, or_true, if_true, if_false, or_false, false_or, reduceIte])
        · refine OwnW.iload X23 (n := 208) at_206 rfl rfl ?_
          refine OwnW.iconst X23 (z := (1 : Int32)) (n := 209) at_208 rfl rfl ?_
          refine OwnW.ic_lt X23  (n1 := 219) (n2 := 212) at_209 (by decide) rfl rfl (fun hc209 => ?_) (fun hc209 => ?_)
          · refine OwnW.iload X23 (n := 221) at_219 rfl rfl ?_
            refine OwnW.iconst X23 (z := (2 : Int32)) (n := 222) at_221 rfl rfl ?_
            refine OwnW.ic_lt X23  (n1 := 232) (n2 := 225) at_222 (by decide) rfl rfl (fun hc222 => ?_) (fun hc222 => ?_)
            · refine OwnW.iload X23 (n := 234) at_232 rfl rfl ?_
              refine OwnW.iconst X23 (z := (3 : Int32)) (n := 235) at_234 rfl rfl ?_
              refine OwnW.ic_lt X23  (n1 := 245) (n2 := 238) at_235 (by decide) rfl rfl (fun hc235 => ?_) (fun hc235 => ?_)
              · refine OwnW.iconst X23 (z := (1 : Int32)) (n := 246) at_245 rfl rfl ?_
                refine OwnW.goto X23 (n := 250) at_246 (by decide) rfl ?_
                refine OwnW.istore X23 (l' := #[.val (.int p0), .val (.int p1), .val (.int p2), .val (.int p3), .val (.int p4), .val (.int p5), .val (.int ti), .val (.int qi), .val (.int lT), .val (.int lQ), .val (.int c0), .val (.int c1), .val (.int c2), .val (.int mm), .val (.int qq), .val (.int q0), .val (.int q1), .val (.int q2), .val (.ref b2), .val (.int (if (own_sel a_LEFT_PAREN a_RIGHT_PAREN a_SYMBOL a_INTEGER a_FLOAT a_STRING a_VARIABLE a_WILDCARD a_MULTIFIELD a_AND a_OR a_NOT a_END ti) = (own_sel a_LEFT_PAREN a_RIGHT_PAREN a_SYMBOL a_INTEGER a_FLOAT a_STRING a_VARIABLE a_WILDCARD a_MULTIFIELD a_AND a_OR a_NOT a_END qi) ∧ (own_cs lT c0 c1 c2) = (own_cs lQ q0 q1 q2) then 1 else 0)), .val (.int (1 : Int32))]) (n := 252) at_250 rfl rfl ?_
                exact J25 _ (1 : Int32) X23 (by simp only [eq_true hc196, eq_true hc203, eq_true hc209, eq_true hc222, eq_true hc235, true_and, and_true, false_and, and_false, true_or, or_true, if_true, if_false, or_false, false_or, reduceIte])
              · refine OwnW.iload X23 (n := 240) at_238 rfl rfl ?_
                refine OwnW.iload X23 (n := 242) at_240 rfl rfl ?_
                refine OwnW.ic_ne X23  (n1 := 249) (n2 := 245) at_242 (by decide) rfl rfl (fun hc242 => ?_) (fun hc242 => ?_)
                · refine OwnW.iconst X23 (z := (0 : Int32)) (n := 250) at_249 rfl rfl ?_
                  refine OwnW.istore X23 (l' := #[.val (.int p0), .val (.int p1), .val (.int p2), .val (.int p3), .val (.int p4), .val (.int p5), .val (.int ti), .val (.int qi), .val (.int lT), .val (.int lQ), .val (.int c0), .val (.int c1), .val (.int c2), .val (.int mm), .val (.int qq), .val (.int q0), .val (.int q1), .val (.int q2), .val (.ref b2), .val (.int (if (own_sel a_LEFT_PAREN a_RIGHT_PAREN a_SYMBOL a_INTEGER a_FLOAT a_STRING a_VARIABLE a_WILDCARD a_MULTIFIELD a_AND a_OR a_NOT a_END ti) = (own_sel a_LEFT_PAREN a_RIGHT_PAREN a_SYMBOL a_INTEGER a_FLOAT a_STRING a_VARIABLE a_WILDCARD a_MULTIFIELD a_AND a_OR a_NOT a_END qi) ∧ (own_cs lT c0 c1 c2) = (own_cs lQ q0 q1 q2) then 1 else 0)), .val (.int (0 : Int32))]) (n := 252) at_250 rfl rfl ?_
                  exact J25 _ (0 : Int32) X23 (by simp only [eq_true hc196, eq_true hc203, eq_true hc209, eq_true hc222, eq_false hc235, eq_false hc242, true_and, and_true, false_and, and_false, true_or, or_true, if_true, if_false, or_false, false_or, reduceIte])
                · refine OwnW.iconst X23 (z := (1 : Int32)) (n := 246) at_245 rfl rfl ?_
                  refine OwnW.goto X23 (n := 250) at_246 (by decide) rfl ?_
                  refine OwnW.istore X23 (l' := #[.val (.int p0), .val (.int p1), .val (.int p2), .val (.int p3), .val (.int p4), .val (.int p5), .val (.int ti), .val (.int qi), .val (.int lT), .val (.int lQ), .val (.int c0), .val (.int c1), .val (.int c2), .val (.int mm), .val (.int qq), .val (.int q0), .val (.int q1), .val (.int q2), .val (.ref b2), .val (.int (if (own_sel a_LEFT_PAREN a_RIGHT_PAREN a_SYMBOL a_INTEGER a_FLOAT a_STRING a_VARIABLE a_WILDCARD a_MULTIFIELD a_AND a_OR a_NOT a_END ti) = (own_sel a_LEFT_PAREN a_RIGHT_PAREN a_SYMBOL a_INTEGER a_FLOAT a_STRING a_VARIABLE a_WILDCARD a_MULTIFIELD a_AND a_OR a_NOT a_END qi) ∧ (own_cs lT c0 c1 c2) = (own_cs lQ q0 q1 q2) then 1 else 0)), .val (.int (1 : Int32))]) (n := 252) at_250 rfl rfl ?_
                  exact J25 _ (1 : Int32) X23 (by simp only [eq_true hc196, eq_true hc203, eq_true hc209, eq_true hc222, eq_false hc235, eq_true hc242, true_and, and_true, false_and, and_false, true_or, or_true, if_true, if_false, or_false, false_or, reduceIte])
            · refine OwnW.iload X23 (n := 227) at_225 rfl rfl ?_
              refine OwnW.iload X23 (n := 229) at_227 rfl rfl ?_
              refine OwnW.ic_ne X23  (n1 := 249) (n2 := 232) at_229 (by decide) rfl rfl (fun hc229 => ?_) (fun hc229 => ?_)
              · refine OwnW.iconst X23 (z := (0 : Int32)) (n := 250) at_249 rfl rfl ?_
                refine OwnW.istore X23 (l' := #[.val (.int p0), .val (.int p1), .val (.int p2), .val (.int p3), .val (.int p4), .val (.int p5), .val (.int ti), .val (.int qi), .val (.int lT), .val (.int lQ), .val (.int c0), .val (.int c1), .val (.int c2), .val (.int mm), .val (.int qq), .val (.int q0), .val (.int q1), .val (.int q2), .val (.ref b2), .val (.int (if (own_sel a_LEFT_PAREN a_RIGHT_PAREN a_SYMBOL a_INTEGER a_FLOAT a_STRING a_VARIABLE a_WILDCARD a_MULTIFIELD a_AND a_OR a_NOT a_END ti) = (own_sel a_LEFT_PAREN a_RIGHT_PAREN a_SYMBOL a_INTEGER a_FLOAT a_STRING a_VARIABLE a_WILDCARD a_MULTIFIELD a_AND a_OR a_NOT a_END qi) ∧ (own_cs lT c0 c1 c2) = (own_cs lQ q0 q1 q2) then 1 else 0)), .val (.int (0 : Int32))]) (n := 252) at_250 rfl rfl ?_
                exact J25 _ (0 : Int32) X23 (by simp only [eq_true hc196, eq_true hc203, eq_true hc209, eq_false hc222, eq_false hc229, true_and, and_true, false_and, and_false, true_or, or_true, if_true, if_false, or_false, false_or, reduceIte])
              · refine OwnW.iload X23 (n := 234) at_232 rfl rfl ?_
                refine OwnW.iconst X23 (z := (3 : Int32)) (n := 235) at_234 rfl rfl ?_
                refine OwnW.ic_lt X23  (n1 := 245) (n2 := 238) at_235 (by decide) rfl rfl (fun hc235 => ?_) (fun hc235 => ?_)
                · refine OwnW.iconst X23 (z := (1 : Int32)) (n := 246) at_245 rfl rfl ?_
                  refine OwnW.goto X23 (n := 250) at_246 (by decide) rfl ?_
                  refine OwnW.istore X23 (l' := #[.val (.int p0), .val (.int p1), .val (.int p2), .val (.int p3), .val (.int p4), .val (.int p5), .val (.int ti), .val (.int qi), .val (.int lT), .val (.int lQ), .val (.int c0), .val (.int c1), .val (.int c2), .val (.int mm), .val (.int qq), .val (.int q0), .val (.int q1), .val (.int q2), .val (.ref b2), .val (.int (if (own_sel a_LEFT_PAREN a_RIGHT_PAREN a_SYMBOL a_INTEGER a_FLOAT a_STRING a_VARIABLE a_WILDCARD a_MULTIFIELD a_AND a_OR a_NOT a_END ti) = (own_sel a_LEFT_PAREN a_RIGHT_PAREN a_SYMBOL a_INTEGER a_FLOAT a_STRING a_VARIABLE a_WILDCARD a_MULTIFIELD a_AND a_OR a_NOT a_END qi) ∧ (own_cs lT c0 c1 c2) = (own_cs lQ q0 q1 q2) then 1 else 0)), .val (.int (1 : Int32))]) (n := 252) at_250 rfl rfl ?_
                  exact J25 _ (1 : Int32) X23 (by simp only [eq_true hc196, eq_true hc203, eq_true hc209, eq_false hc222, eq_true hc229, eq_true hc235, true_and, and_true, false_and, and_false, true_or, or_true, if_true, if_false, or_false, false_or, reduceIte])
                · refine OwnW.iload X23 (n := 240) at_238 rfl rfl ?_
                  refine OwnW.iload X23 (n := 242) at_240 rfl rfl ?_
                  refine OwnW.ic_ne X23  (n1 := 249) (n2 := 245) at_242 (by decide) rfl rfl (fun hc242 => ?_) (fun hc242 => ?_)
                  · refine OwnW.iconst X23 (z := (0 : Int32)) (n := 250) at_249 rfl rfl ?_
                    refine OwnW.istore X23 (l' := #[.val (.int p0), .val (.int p1), .val (.int p2), .val (.int p3), .val (.int p4), .val (.int p5), .val (.int ti), .val (.int qi), .val (.int lT), .val (.int lQ), .val (.int c0), .val (.int c1), .val (.int c2), .val (.int mm), .val (.int qq), .val (.int q0), .val (.int q1), .val (.int q2), .val (.ref b2), .val (.int (if (own_sel a_LEFT_PAREN a_RIGHT_PAREN a_SYMBOL a_INTEGER a_FLOAT a_STRING a_VARIABLE a_WILDCARD a_MULTIFIELD a_AND a_OR a_NOT a_END ti) = (own_sel a_LEFT_PAREN a_RIGHT_PAREN a_SYMBOL a_INTEGER a_FLOAT a_STRING a_VARIABLE a_WILDCARD a_MULTIFIELD a_AND a_OR a_NOT a_END qi) ∧ (own_cs lT c0 c1 c2) = (own_cs lQ q0 q1 q2) then 1 else 0)), .val (.int (0 : Int32))]) (n := 252) at_250 rfl rfl ?_
                    exact J25 _ (0 : Int32) X23 (by simp only [eq_true hc196, eq_true hc203, eq_true hc209, eq_false hc222, eq_true hc229, eq_false hc235, eq_false hc242, true_and, and_true, false_and, and_false, true_or, or_true, if_true, if_false, or_false, false_or, reduceIte])
                  · refine OwnW.iconst X23 (z := (1 : Int32)) (n := 246) at_245 rfl rfl ?_
                    refine OwnW.goto X23 (n := 250) at_246 (by decide) rfl ?_
                    refine OwnW.istore X23 (l' := #[.val (.int p0), .val (.int p1), .val (.int p2), .val (.int p3), .val (.int p4), .val (.int p5), .val (.int ti), .val (.int qi), .val (.int lT), .val (.int lQ), .val (.int c0), .val (.int c1), .val (.int c2), .val (.int mm), .val (.int qq), .val (.int q0), .val (.int q1), .val (.int q2), .val (.ref b2), .val (.int (if (own_sel a_LEFT_PAREN a_RIGHT_PAREN a_SYMBOL a_INTEGER a_FLOAT a_STRING a_VARIABLE a_WILDCARD a_MULTIFIELD a_AND a_OR a_NOT a_END ti) = (own_sel a_LEFT_PAREN a_RIGHT_PAREN a_SYMBOL a_INTEGER a_FLOAT a_STRING a_VARIABLE a_WILDCARD a_MULTIFIELD a_AND a_OR a_NOT a_END qi) ∧ (own_cs lT c0 c1 c2) = (own_cs lQ q0 q1 q2) then 1 else 0)), .val (.int (1 : Int32))]) (n := 252) at_250 rfl rfl ?_
                    exact J25 _ (1 : Int32) X23 (by simp only [eq_true hc196, eq_true hc203, eq_true hc209, eq_false hc222, eq_true hc229, eq_false hc235, eq_true hc242, true_and, and_true, false_and, and_false, true_or, or_true, if_true, if_false, or_false, false_or, reduceIte])
          · refine OwnW.iload X23 (n := 214) at_212 rfl rfl ?_
            refine OwnW.iload X23 (n := 216) at_214 rfl rfl ?_
            refine OwnW.ic_ne X23  (n1 := 249) (n2 := 219) at_216 (by decide) rfl rfl (fun hc216 => ?_) (fun hc216 => ?_)
            · refine OwnW.iconst X23 (z := (0 : Int32)) (n := 250) at_249 rfl rfl ?_
              refine OwnW.istore X23 (l' := #[.val (.int p0), .val (.int p1), .val (.int p2), .val (.int p3), .val (.int p4), .val (.int p5), .val (.int ti), .val (.int qi), .val (.int lT), .val (.int lQ), .val (.int c0), .val (.int c1), .val (.int c2), .val (.int mm), .val (.int qq), .val (.int q0), .val (.int q1), .val (.int q2), .val (.ref b2), .val (.int (if (own_sel a_LEFT_PAREN a_RIGHT_PAREN a_SYMBOL a_INTEGER a_FLOAT a_STRING a_VARIABLE a_WILDCARD a_MULTIFIELD a_AND a_OR a_NOT a_END ti) = (own_sel a_LEFT_PAREN a_RIGHT_PAREN a_SYMBOL a_INTEGER a_FLOAT a_STRING a_VARIABLE a_WILDCARD a_MULTIFIELD a_AND a_OR a_NOT a_END qi) ∧ (own_cs lT c0 c1 c2) = (own_cs lQ q0 q1 q2) then 1 else 0)), .val (.int (0 : Int32))]) (n := 252) at_250 rfl rfl ?_
              exact J25 _ (0 : Int32) X23 (by simp only [eq_true hc196, eq_true hc203, eq_false hc209, eq_false hc216, true_and, and_true, false_and, and_false, true_or, or_true, if_true, if_false, or_false, false_or, reduceIte])
            · refine OwnW.iload X23 (n := 221) at_219 rfl rfl ?_
              refine OwnW.iconst X23 (z := (2 : Int32)) (n := 222) at_221 rfl rfl ?_
              refine OwnW.ic_lt X23  (n1 := 232) (n2 := 225) at_222 (by decide) rfl rfl (fun hc222 => ?_) (fun hc222 => ?_)
              · refine OwnW.iload X23 (n := 234) at_232 rfl rfl ?_
                refine OwnW.iconst X23 (z := (3 : Int32)) (n := 235) at_234 rfl rfl ?_
                refine OwnW.ic_lt X23  (n1 := 245) (n2 := 238) at_235 (by decide) rfl rfl (fun hc235 => ?_) (fun hc235 => ?_)
                · refine OwnW.iconst X23 (z := (1 : Int32)) (n := 246) at_245 rfl rfl ?_
                  refine OwnW.goto X23 (n := 250) at_246 (by decide) rfl ?_
                  refine OwnW.istore X23 (l' := #[.val (.int p0), .val (.int p1), .val (.int p2), .val (.int p3), .val (.int p4), .val (.int p5), .val (.int ti), .val (.int qi), .val (.int lT), .val (.int lQ), .val (.int c0), .val (.int c1), .val (.int c2), .val (.int mm), .val (.int qq), .val (.int q0), .val (.int q1), .val (.int q2), .val (.ref b2), .val (.int (if (own_sel a_LEFT_PAREN a_RIGHT_PAREN a_SYMBOL a_INTEGER a_FLOAT a_STRING a_VARIABLE a_WILDCARD a_MULTIFIELD a_AND a_OR a_NOT a_END ti) = (own_sel a_LEFT_PAREN a_RIGHT_PAREN a_SYMBOL a_INTEGER a_FLOAT a_STRING a_VARIABLE a_WILDCARD a_MULTIFIELD a_AND a_OR a_NOT a_END qi) ∧ (own_cs lT c0 c1 c2) = (own_cs lQ q0 q1 q2) then 1 else 0)), .val (.int (1 : Int32))]) (n := 252) at_250 rfl rfl ?_
                  exact J25 _ (1 : Int32) X23 (by simp only [eq_true hc196, eq_true hc203, eq_false hc209, eq_true hc216, eq_true hc222, eq_true hc235, true_and, and_true, false_and, and_false, true_or, or_true, if_true, if_false, or_false, false_or, reduceIte])
                · refine OwnW.iload X23 (n := 240) at_238 rfl rfl ?_
                  refine OwnW.iload X23 (n := 242) at_240 rfl rfl ?_
                  refine OwnW.ic_ne X23  (n1 := 249) (n2 := 245) at_242 (by decide) rfl rfl (fun hc242 => ?_) (fun hc242 => ?_)
                  · refine OwnW.iconst X23 (z := (0 : Int32)) (n := 250) at_249 rfl rfl ?_
                    refine OwnW.istore X23 (l' := #[.val (.int p0), .val (.int p1), .val (.int p2), .val (.int p3), .val (.int p4), .val (.int p5), .val (.int ti), .val (.int qi), .val (.int lT), .val (.int lQ), .val (.int c0), .val (.int c1), .val (.int c2), .val (.int mm), .val (.int qq), .val (.int q0), .val (.int q1), .val (.int q2), .val (.ref b2), .val (.int (if (own_sel a_LEFT_PAREN a_RIGHT_PAREN a_SYMBOL a_INTEGER a_FLOAT a_STRING a_VARIABLE a_WILDCARD a_MULTIFIELD a_AND a_OR a_NOT a_END ti) = (own_sel a_LEFT_PAREN a_RIGHT_PAREN a_SYMBOL a_INTEGER a_FLOAT a_STRING a_VARIABLE a_WILDCARD a_MULTIFIELD a_AND a_OR a_NOT a_END qi) ∧ (own_cs lT c0 c1 c2) = (own_cs lQ q0 q1 q2) then 1 else 0)), .val (.int (0 : Int32))]) (n := 252) at_250 rfl rfl ?_
                    exact J25 _ (0 : Int32) X23 (by simp only [eq_true hc196, eq_true hc203, eq_false hc209, eq_true hc216, eq_true hc222, eq_false hc235, eq_false hc242, true_and, and_true, false_and, and_false, true_or, or_true, if_true, if_false, or_false, false_or, reduceIte])
                  · refine OwnW.iconst X23 (z := (1 : Int32)) (n := 246) at_245 rfl rfl ?_
                    refine OwnW.goto X23 (n := 250) at_246 (by decide) rfl ?_
                    refine OwnW.istore X23 (l' := #[.val (.int p0), .val (.int p1), .val (.int p2), .val (.int p3), .val (.int p4), .val (.int p5), .val (.int ti), .val (.int qi), .val (.int lT), .val (.int lQ), .val (.int c0), .val (.int c1), .val (.int c2), .val (.int mm), .val (.int qq), .val (.int q0), .val (.int q1), .val (.int q2), .val (.ref b2), .val (.int (if (own_sel a_LEFT_PAREN a_RIGHT_PAREN a_SYMBOL a_INTEGER a_FLOAT a_STRING a_VARIABLE a_WILDCARD a_MULTIFIELD a_AND a_OR a_NOT a_END ti) = (own_sel a_LEFT_PAREN a_RIGHT_PAREN a_SYMBOL a_INTEGER a_FLOAT a_STRING a_VARIABLE a_WILDCARD a_MULTIFIELD a_AND a_OR a_NOT a_END qi) ∧ (own_cs lT c0 c1 c2) = (own_cs lQ q0 q1 q2) then 1 else 0)), .val (.int (1 : Int32))]) (n := 252) at_250 rfl rfl ?_
                    exact J25 _ (1 : Int32) X23 (by simp only [eq_true hc196, eq_true hc203, eq_false hc209, eq_true hc216, eq_true hc222, eq_false hc235, eq_true hc242, true_and, and_true, false_and, and_false, true_or, or_true, if_true, if_false, or_false, false_or, reduceIte])
              · refine OwnW.iload X23 (n := 227) at_225 rfl rfl ?_
                refine OwnW.iload X23 (n := 229) at_227 rfl rfl ?_
                refine OwnW.ic_ne X23  (n1 := 249) (n2 := 232) at_229 (by decide) rfl rfl (fun hc229 => ?_) (fun hc229 => ?_)
                · refine OwnW.iconst X23 (z := (0 : Int32)) (n := 250) at_249 rfl rfl ?_
                  refine OwnW.istore X23 (l' := #[.val (.int p0), .val (.int p1), .val (.int p2), .val (.int p3), .val (.int p4), .val (.int p5), .val (.int ti), .val (.int qi), .val (.int lT), .val (.int lQ), .val (.int c0), .val (.int c1), .val (.int c2), .val (.int mm), .val (.int qq), .val (.int q0), .val (.int q1), .val (.int q2), .val (.ref b2), .val (.int (if (own_sel a_LEFT_PAREN a_RIGHT_PAREN a_SYMBOL a_INTEGER a_FLOAT a_STRING a_VARIABLE a_WILDCARD a_MULTIFIELD a_AND a_OR a_NOT a_END ti) = (own_sel a_LEFT_PAREN a_RIGHT_PAREN a_SYMBOL a_INTEGER a_FLOAT a_STRING a_VARIABLE a_WILDCARD a_MULTIFIELD a_AND a_OR a_NOT a_END qi) ∧ (own_cs lT c0 c1 c2) = (own_cs lQ q0 q1 q2) then 1 else 0)), .val (.int (0 : Int32))]) (n := 252) at_250 rfl rfl ?_
                  exact J25 _ (0 : Int32) X23 (by simp only [eq_true hc196, eq_true hc203, eq_false hc209, eq_true hc216, eq_false hc222, eq_false hc229, true_and, and_true, false_and, and_false, true_or, or_true, if_true, if_false, or_false, false_or, reduceIte])
                · refine OwnW.iload X23 (n := 234) at_232 rfl rfl ?_
                  refine OwnW.iconst X23 (z := (3 : Int32)) (n := 235) at_234 rfl rfl ?_
                  refine OwnW.ic_lt X23  (n1 := 245) (n2 := 238) at_235 (by decide) rfl rfl (fun hc235 => ?_) (fun hc235 => ?_)
                  · refine OwnW.iconst X23 (z := (1 : Int32)) (n := 246) at_245 rfl rfl ?_
                    refine OwnW.goto X23 (n := 250) at_246 (by decide) rfl ?_
                    refine OwnW.istore X23 (l' := #[.val (.int p0), .val (.int p1), .val (.int p2), .val (.int p3), .val (.int p4), .val (.int p5), .val (.int ti), .val (.int qi), .val (.int lT), .val (.int lQ), .val (.int c0), .val (.int c1), .val (.int c2), .val (.int mm), .val (.int qq), .val (.int q0), .val (.int q1), .val (.int q2), .val (.ref b2), .val (.int (if (own_sel a_LEFT_PAREN a_RIGHT_PAREN a_SYMBOL a_INTEGER a_FLOAT a_STRING a_VARIABLE a_WILDCARD a_MULTIFIELD a_AND a_OR a_NOT a_END ti) = (own_sel a_LEFT_PAREN a_RIGHT_PAREN a_SYMBOL a_INTEGER a_FLOAT a_STRING a_VARIABLE a_WILDCARD a_MULTIFIELD a_AND a_OR a_NOT a_END qi) ∧ (own_cs lT c0 c1 c2) = (own_cs lQ q0 q1 q2) then 1 else 0)), .val (.int (1 : Int32))]) (n := 252) at_250 rfl rfl ?_
                    exact J25 _ (1 : Int32) X23 (by simp only [eq_true hc196, eq_true hc203, eq_false hc209, eq_true hc216, eq_false hc222, eq_true hc229, eq_true hc235, true_and, and_true, false_and, and_false, true_or, or_true, if_true, if_false, or_false, false_or, reduceIte])
                  · refine OwnW.iload X23 (n := 240) at_238 rfl rfl ?_
                    refine OwnW.iload X23 (n := 242) at_240 rfl rfl ?_
                    refine OwnW.ic_ne X23  (n1 := 249) (n2 := 245) at_242 (by decide) rfl rfl (fun hc242 => ?_) (fun hc242 => ?_)
                    · refine OwnW.iconst X23 (z := (0 : Int32)) (n := 250) at_249 rfl rfl ?_
                      refine OwnW.istore X23 (l' := #[.val (.int p0), .val (.int p1), .val (.int p2), .val (.int p3), .val (.int p4), .val (.int p5), .val (.int ti), .val (.int qi), .val (.int lT), .val (.int lQ), .val (.int c0), .val (.int c1), .val (.int c2), .val (.int mm), .val (.int qq), .val (.int q0), .val (.int q1), .val (.int q2), .val (.ref b2), .val (.int (if (own_sel a_LEFT_PAREN a_RIGHT_PAREN a_SYMBOL a_INTEGER a_FLOAT a_STRING a_VARIABLE a_WILDCARD a_MULTIFIELD a_AND a_OR a_NOT a_END ti) = (own_sel a_LEFT_PAREN a_RIGHT_PAREN a_SYMBOL a_INTEGER a_FLOAT a_STRING a_VARIABLE a_WILDCARD a_MULTIFIELD a_AND a_OR a_NOT a_END qi) ∧ (own_cs lT c0 c1 c2) = (own_cs lQ q0 q1 q2) then 1 else 0)), .val (.int (0 : Int32))]) (n := 252) at_250 rfl rfl ?_
                      exact J25 _ (0 : Int32) X23 (by simp only [eq_true hc196, eq_true hc203, eq_false hc209, eq_true hc216, eq_false hc222, eq_true hc229, eq_false hc235, eq_false hc242, true_and, and_true, false_and, and_false, true_or, or_true, if_true, if_false, or_false, false_or, reduceIte])
                    · refine OwnW.iconst X23 (z := (1 : Int32)) (n := 246) at_245 rfl rfl ?_
                      refine OwnW.goto X23 (n := 250) at_246 (by decide) rfl ?_
                      refine OwnW.istore X23 (l' := #[.val (.int p0), .val (.int p1), .val (.int p2), .val (.int p3), .val (.int p4), .val (.int p5), .val (.int ti), .val (.int qi), .val (.int lT), .val (.int lQ), .val (.int c0), .val (.int c1), .val (.int c2), .val (.int mm), .val (.int qq), .val (.int q0), .val (.int q1), .val (.int q2), .val (.ref b2), .val (.int (if (own_sel a_LEFT_PAREN a_RIGHT_PAREN a_SYMBOL a_INTEGER a_FLOAT a_STRING a_VARIABLE a_WILDCARD a_MULTIFIELD a_AND a_OR a_NOT a_END ti) = (own_sel a_LEFT_PAREN a_RIGHT_PAREN a_SYMBOL a_INTEGER a_FLOAT a_STRING a_VARIABLE a_WILDCARD a_MULTIFIELD a_AND a_OR a_NOT a_END qi) ∧ (own_cs lT c0 c1 c2) = (own_cs lQ q0 q1 q2) then 1 else 0)), .val (.int (1 : Int32))]) (n := 252) at_250 rfl rfl ?_
                      exact J25 _ (1 : Int32) X23 (by simp only [eq_true hc196, eq_true hc203, eq_false hc209, eq_true hc216, eq_false hc222, eq_true hc229, eq_false hc235, eq_true hc242, true_and, and_true, false_and, and_false, true_or, or_true, if_true, if_false, or_false, false_or, reduceIte])
  · intro J1
    refine OwnW.iloadN X0 (n := 1) at_0 rfl rfl ?_
    refine OwnW.ldc X0 (n := 3) at_1 (hw _ (List.mem_of_getElem? (i := 0) rfl)) rfl ?_
    refine OwnW.iand X0 (n := 4) at_3 rfl ?_
    refine OwnW.bipush X0 (z := (13 : Int32)) (n := 6) at_4 rfl rfl ?_
    refine OwnW.irem X0 (n := 7) at_6 (by decide) rfl ?_
    refine OwnW.istore X0 (l' := #[.val (.int p0), .val (.int p1), .val (.int p2), .val (.int p3), .val (.int p4), .val (.int p5), .val (.int ((p0 &&& (2147483647 : Int32)) % (13 : Int32))), .unset, .unset, .unset, .unset, .unset, .unset, .unset, .unset, .unset, .unset, .unset, .unset, .unset, .unset]) (n := 9) at_7 rfl rfl ?_
    refine OwnW.iload X0 (n := 11) at_9 rfl rfl ?_
    refine OwnW.bipush X0 (z := (64 : Int32)) (n := 13) at_11 rfl rfl ?_
    refine OwnW.iand X0 (n := 14) at_13 rfl ?_
    refine OwnW.if_eq X0  (n1 := 27) (n2 := 17) at_14 (by decide) rfl rfl (fun hc14 => ?_) (fun hc14 => ?_)
    · refine OwnW.iload X0 (n := 29) at_27 rfl rfl ?_
      refine OwnW.istore X0 (l' := #[.val (.int p0), .val (.int p1), .val (.int p2), .val (.int p3), .val (.int p4), .val (.int p5), .val (.int ((p0 &&& (2147483647 : Int32)) % (13 : Int32))), .val (.int ((p0 &&& (2147483647 : Int32)) % (13 : Int32))), .unset, .unset, .unset, .unset, .unset, .unset, .unset, .unset, .unset, .unset, .unset, .unset, .unset]) (n := 31) at_29 rfl rfl ?_
      refine OwnW.iload X0 (n := 33) at_31 rfl rfl ?_
      refine OwnW.iconst X0 (z := (3 : Int32)) (n := 34) at_33 rfl rfl ?_
      refine OwnW.iand X0 (n := 35) at_34 rfl ?_
      refine OwnW.istore X0 (l' := #[.val (.int p0), .val (.int p1), .val (.int p2), .val (.int p3), .val (.int p4), .val (.int p5), .val (.int ((p0 &&& (2147483647 : Int32)) % (13 : Int32))), .val (.int ((p0 &&& (2147483647 : Int32)) % (13 : Int32))), .val (.int (p4 &&& (3 : Int32))), .unset, .unset, .unset, .unset, .unset, .unset, .unset, .unset, .unset, .unset, .unset, .unset]) (n := 37) at_35 rfl rfl ?_
      refine OwnW.iload X0 (n := 39) at_37 rfl rfl ?_
      refine OwnW.bipush X0 (z := (16 : Int32)) (n := 41) at_39 rfl rfl ?_
      refine OwnW.iand X0 (n := 42) at_41 rfl ?_
      refine OwnW.if_eq X0  (n1 := 54) (n2 := 45) at_42 (by decide) rfl rfl (fun hc42 => ?_) (fun hc42 => ?_)
      · refine OwnW.iload X0 (n := 56) at_54 rfl rfl ?_
        refine OwnW.istore X0 (l' := #[.val (.int p0), .val (.int p1), .val (.int p2), .val (.int p3), .val (.int p4), .val (.int p5), .val (.int ((p0 &&& (2147483647 : Int32)) % (13 : Int32))), .val (.int ((p0 &&& (2147483647 : Int32)) % (13 : Int32))), .val (.int (p4 &&& (3 : Int32))), .val (.int (p4 &&& (3 : Int32))), .unset, .unset, .unset, .unset, .unset, .unset, .unset, .unset, .unset, .unset, .unset]) (n := 58) at_56 rfl rfl ?_
        refine OwnW.iloadN X0 (n := 59) at_58 rfl rfl ?_
        refine OwnW.sipush X0 (z := (255 : Int32)) (n := 62) at_59 rfl rfl ?_
        refine OwnW.iand X0 (n := 63) at_62 rfl ?_
        refine OwnW.i2c X0 (n := 64) at_63 rfl ?_
        refine OwnW.istore X0 (l' := #[.val (.int p0), .val (.int p1), .val (.int p2), .val (.int p3), .val (.int p4), .val (.int p5), .val (.int ((p0 &&& (2147483647 : Int32)) % (13 : Int32))), .val (.int ((p0 &&& (2147483647 : Int32)) % (13 : Int32))), .val (.int (p4 &&& (3 : Int32))), .val (.int (p4 &&& (3 : Int32))), .val (.int ((p2 &&& (255 : Int32)).toUInt32.toUInt16.toUInt32.toInt32)), .unset, .unset, .unset, .unset, .unset, .unset, .unset, .unset, .unset, .unset]) (n := 66) at_64 rfl rfl ?_
        refine OwnW.iloadN X0 (n := 67) at_66 rfl rfl ?_
        refine OwnW.bipush X0 (z := (8 : Int32)) (n := 69) at_67 rfl rfl ?_
        refine OwnW.iushr X0 (n := 70) at_69 rfl ?_
        refine OwnW.sipush X0 (z := (255 : Int32)) (n := 73) at_70 rfl rfl ?_
        refine OwnW.iand X0 (n := 74) at_73 rfl ?_
        refine OwnW.i2c X0 (n := 75) at_74 rfl ?_
        refine OwnW.istore X0 (l' := #[.val (.int p0), .val (.int p1), .val (.int p2), .val (.int p3), .val (.int p4), .val (.int p5), .val (.int ((p0 &&& (2147483647 : Int32)) % (13 : Int32))), .val (.int ((p0 &&& (2147483647 : Int32)) % (13 : Int32))), .val (.int (p4 &&& (3 : Int32))), .val (.int (p4 &&& (3 : Int32))), .val (.int ((p2 &&& (255 : Int32)).toUInt32.toUInt16.toUInt32.toInt32)), .val (.int ((((p2.toUInt32 >>> ((8 : Int32) &&& 31).toUInt32).toInt32) &&& (255 : Int32)).toUInt32.toUInt16.toUInt32.toInt32)), .unset, .unset, .unset, .unset, .unset, .unset, .unset, .unset, .unset]) (n := 77) at_75 rfl rfl ?_
        refine OwnW.iloadN X0 (n := 78) at_77 rfl rfl ?_
        refine OwnW.bipush X0 (z := (16 : Int32)) (n := 80) at_78 rfl rfl ?_
        refine OwnW.iushr X0 (n := 81) at_80 rfl ?_
        refine OwnW.sipush X0 (z := (255 : Int32)) (n := 84) at_81 rfl rfl ?_
        refine OwnW.iand X0 (n := 85) at_84 rfl ?_
        refine OwnW.i2c X0 (n := 86) at_85 rfl ?_
        refine OwnW.istore X0 (l' := #[.val (.int p0), .val (.int p1), .val (.int p2), .val (.int p3), .val (.int p4), .val (.int p5), .val (.int ((p0 &&& (2147483647 : Int32)) % (13 : Int32))), .val (.int ((p0 &&& (2147483647 : Int32)) % (13 : Int32))), .val (.int (p4 &&& (3 : Int32))), .val (.int (p4 &&& (3 : Int32))), .val (.int ((p2 &&& (255 : Int32)).toUInt32.toUInt16.toUInt32.toInt32)), .val (.int ((((p2.toUInt32 >>> ((8 : Int32) &&& 31).toUInt32).toInt32) &&& (255 : Int32)).toUInt32.toUInt16.toUInt32.toInt32)), .val (.int ((((p2.toUInt32 >>> ((16 : Int32) &&& 31).toUInt32).toInt32) &&& (255 : Int32)).toUInt32.toUInt16.toUInt32.toInt32)), .unset, .unset, .unset, .unset, .unset, .unset, .unset, .unset]) (n := 88) at_86 rfl rfl ?_
        refine OwnW.iload X0 (n := 90) at_88 rfl rfl ?_
        refine OwnW.bipush X0 (z := (32 : Int32)) (n := 92) at_90 rfl rfl ?_
        refine OwnW.iand X0 (n := 93) at_92 rfl ?_
        refine OwnW.if_eq X0  (n1 := 100) (n2 := 96) at_93 (by decide) rfl rfl (fun hc93 => ?_) (fun hc93 => ?_)
        · refine OwnW.iconst X0 (z := (0 : Int32)) (n := 101) at_100 rfl rfl ?_
          refine OwnW.istore X0 (l' := #[.val (.int p0), .val (.int p1), .val (.int p2), .val (.int p3), .val (.int p4), .val (.int p5), .val (.int ((p0 &&& (2147483647 : Int32)) % (13 : Int32))), .val (.int ((p0 &&& (2147483647 : Int32)) % (13 : Int32))), .val (.int (p4 &&& (3 : Int32))), .val (.int (p4 &&& (3 : Int32))), .val (.int ((p2 &&& (255 : Int32)).toUInt32.toUInt16.toUInt32.toInt32)), .val (.int ((((p2.toUInt32 >>> ((8 : Int32) &&& 31).toUInt32).toInt32) &&& (255 : Int32)).toUInt32.toUInt16.toUInt32.toInt32)), .val (.int ((((p2.toUInt32 >>> ((16 : Int32) &&& 31).toUInt32).toInt32) &&& (255 : Int32)).toUInt32.toUInt16.toUInt32.toInt32)), .val (.int (0 : Int32)), .unset, .unset, .unset, .unset, .unset, .unset, .unset]) (n := 103) at_101 rfl rfl ?_
          refine OwnW.iloadN X0 (n := 104) at_103 rfl rfl ?_
          refine OwnW.iload X0 (n := 106) at_104 rfl rfl ?_
          refine OwnW.ixor X0 (n := 107) at_106 rfl ?_
          refine OwnW.istore X0 (l' := #[.val (.int p0), .val (.int p1), .val (.int p2), .val (.int p3), .val (.int p4), .val (.int p5), .val (.int ((p0 &&& (2147483647 : Int32)) % (13 : Int32))), .val (.int ((p0 &&& (2147483647 : Int32)) % (13 : Int32))), .val (.int (p4 &&& (3 : Int32))), .val (.int (p4 &&& (3 : Int32))), .val (.int ((p2 &&& (255 : Int32)).toUInt32.toUInt16.toUInt32.toInt32)), .val (.int ((((p2.toUInt32 >>> ((8 : Int32) &&& 31).toUInt32).toInt32) &&& (255 : Int32)).toUInt32.toUInt16.toUInt32.toInt32)), .val (.int ((((p2.toUInt32 >>> ((16 : Int32) &&& 31).toUInt32).toInt32) &&& (255 : Int32)).toUInt32.toUInt16.toUInt32.toInt32)), .val (.int (0 : Int32)), .val (.int (p2 ^^^ (0 : Int32))), .unset, .unset, .unset, .unset, .unset, .unset]) (n := 109) at_107 rfl rfl ?_
          refine OwnW.iload X0 (n := 111) at_109 rfl rfl ?_
          refine OwnW.sipush X0 (z := (255 : Int32)) (n := 114) at_111 rfl rfl ?_
          refine OwnW.iand X0 (n := 115) at_114 rfl ?_
          refine OwnW.i2c X0 (n := 116) at_115 rfl ?_
          refine OwnW.istore X0 (l' := #[.val (.int p0), .val (.int p1), .val (.int p2), .val (.int p3), .val (.int p4), .val (.int p5), .val (.int ((p0 &&& (2147483647 : Int32)) % (13 : Int32))), .val (.int ((p0 &&& (2147483647 : Int32)) % (13 : Int32))), .val (.int (p4 &&& (3 : Int32))), .val (.int (p4 &&& (3 : Int32))), .val (.int ((p2 &&& (255 : Int32)).toUInt32.toUInt16.toUInt32.toInt32)), .val (.int ((((p2.toUInt32 >>> ((8 : Int32) &&& 31).toUInt32).toInt32) &&& (255 : Int32)).toUInt32.toUInt16.toUInt32.toInt32)), .val (.int ((((p2.toUInt32 >>> ((16 : Int32) &&& 31).toUInt32).toInt32) &&& (255 : Int32)).toUInt32.toUInt16.toUInt32.toInt32)), .val (.int (0 : Int32)), .val (.int (p2 ^^^ (0 : Int32))), .val (.int (((p2 ^^^ (0 : Int32)) &&& (255 : Int32)).toUInt32.toUInt16.toUInt32.toInt32)), .unset, .unset, .unset, .unset, .unset]) (n := 118) at_116 rfl rfl ?_
          refine OwnW.iload X0 (n := 120) at_118 rfl rfl ?_
          refine OwnW.bipush X0 (z := (8 : Int32)) (n := 122) at_120 rfl rfl ?_
          refine OwnW.iushr X0 (n := 123) at_122 rfl ?_
          refine OwnW.sipush X0 (z := (255 : Int32)) (n := 126) at_123 rfl rfl ?_
          refine OwnW.iand X0 (n := 127) at_126 rfl ?_
          refine OwnW.i2c X0 (n := 128) at_127 rfl ?_
          refine OwnW.istore X0 (l' := #[.val (.int p0), .val (.int p1), .val (.int p2), .val (.int p3), .val (.int p4), .val (.int p5), .val (.int ((p0 &&& (2147483647 : Int32)) % (13 : Int32))), .val (.int ((p0 &&& (2147483647 : Int32)) % (13 : Int32))), .val (.int (p4 &&& (3 : Int32))), .val (.int (p4 &&& (3 : Int32))), .val (.int ((p2 &&& (255 : Int32)).toUInt32.toUInt16.toUInt32.toInt32)), .val (.int ((((p2.toUInt32 >>> ((8 : Int32) &&& 31).toUInt32).toInt32) &&& (255 : Int32)).toUInt32.toUInt16.toUInt32.toInt32)), .val (.int ((((p2.toUInt32 >>> ((16 : Int32) &&& 31).toUInt32).toInt32) &&& (255 : Int32)).toUInt32.toUInt16.toUInt32.toInt32)), .val (.int (0 : Int32)), .val (.int (p2 ^^^ (0 : Int32))), .val (.int (((p2 ^^^ (0 : Int32)) &&& (255 : Int32)).toUInt32.toUInt16.toUInt32.toInt32)), .val (.int (((((p2 ^^^ (0 : Int32)).toUInt32 >>> ((8 : Int32) &&& 31).toUInt32).toInt32) &&& (255 : Int32)).toUInt32.toUInt16.toUInt32.toInt32)), .unset, .unset, .unset, .unset]) (n := 130) at_128 rfl rfl ?_
          refine OwnW.iload X0 (n := 132) at_130 rfl rfl ?_
          refine OwnW.bipush X0 (z := (16 : Int32)) (n := 134) at_132 rfl rfl ?_
          refine OwnW.iushr X0 (n := 135) at_134 rfl ?_
          refine OwnW.sipush X0 (z := (255 : Int32)) (n := 138) at_135 rfl rfl ?_
          refine OwnW.iand X0 (n := 139) at_138 rfl ?_
          refine OwnW.i2c X0 (n := 140) at_139 rfl ?_
          refine OwnW.istore X0 (l' := #[.val (.int p0), .val (.int p1), .val (.int p2), .val (.int p3), .val (.int p4), .val (.int p5), .val (.int ((p0 &&& (2147483647 : Int32)) % (13 : Int32))), .val (.int ((p0 &&& (2147483647 : Int32)) % (13 : Int32))), .val (.int (p4 &&& (3 : Int32))), .val (.int (p4 &&& (3 : Int32))), .val (.int ((p2 &&& (255 : Int32)).toUInt32.toUInt16.toUInt32.toInt32)), .val (.int ((((p2.toUInt32 >>> ((8 : Int32) &&& 31).toUInt32).toInt32) &&& (255 : Int32)).toUInt32.toUInt16.toUInt32.toInt32)), .val (.int ((((p2.toUInt32 >>> ((16 : Int32) &&& 31).toUInt32).toInt32) &&& (255 : Int32)).toUInt32.toUInt16.toUInt32.toInt32)), .val (.int (0 : Int32)), .val (.int (p2 ^^^ (0 : Int32))), .val (.int (((p2 ^^^ (0 : Int32)) &&& (255 : Int32)).toUInt32.toUInt16.toUInt32.toInt32)), .val (.int (((((p2 ^^^ (0 : Int32)).toUInt32 >>> ((8 : Int32) &&& 31).toUInt32).toInt32) &&& (255 : Int32)).toUInt32.toUInt16.toUInt32.toInt32)), .val (.int (((((p2 ^^^ (0 : Int32)).toUInt32 >>> ((16 : Int32) &&& 31).toUInt32).toInt32) &&& (255 : Int32)).toUInt32.toUInt16.toUInt32.toInt32)), .unset, .unset, .unset]) (n := 142) at_140 rfl rfl ?_
          exact J1 _ (((p0 &&& (2147483647 : Int32)) % (13 : Int32)), ((p0 &&& (2147483647 : Int32)) % (13 : Int32)), (p4 &&& (3 : Int32)), (p4 &&& (3 : Int32)), ((p2 &&& (255 : Int32)).toUInt32.toUInt16.toUInt32.toInt32), ((((p2.toUInt32 >>> ((8 : Int32) &&& 31).toUInt32).toInt32) &&& (255 : Int32)).toUInt32.toUInt16.toUInt32.toInt32), ((((p2.toUInt32 >>> ((16 : Int32) &&& 31).toUInt32).toInt32) &&& (255 : Int32)).toUInt32.toUInt16.toUInt32.toInt32), (((p2 ^^^ (0 : Int32)) &&& (255 : Int32)).toUInt32.toUInt16.toUInt32.toInt32), (((((p2 ^^^ (0 : Int32)).toUInt32 >>> ((8 : Int32) &&& 31).toUInt32).toInt32) &&& (255 : Int32)).toUInt32.toUInt16.toUInt32.toInt32), (((((p2 ^^^ (0 : Int32)).toUInt32 >>> ((16 : Int32) &&& 31).toUInt32).toInt32) &&& (255 : Int32)).toUInt32.toUInt16.toUInt32.toInt32), (0 : Int32), (p2 ^^^ (0 : Int32))) X0 ⟨own_cases _, own_cases _, own_c4 _, own_c4 _, own_255 _, own_255 _, own_255 _, own_255 _, own_255 _, own_255 _⟩
        · refine OwnW.iloadN X0 (n := 97) at_96 rfl rfl ?_
          refine OwnW.goto X0 (n := 101) at_97 (by decide) rfl ?_
          refine OwnW.istore X0 (l' := #[.val (.int p0), .val (.int p1), .val (.int p2), .val (.int p3), .val (.int p4), .val (.int p5), .val (.int ((p0 &&& (2147483647 : Int32)) % (13 : Int32))), .val (.int ((p0 &&& (2147483647 : Int32)) % (13 : Int32))), .val (.int (p4 &&& (3 : Int32))), .val (.int (p4 &&& (3 : Int32))), .val (.int ((p2 &&& (255 : Int32)).toUInt32.toUInt16.toUInt32.toInt32)), .val (.int ((((p2.toUInt32 >>> ((8 : Int32) &&& 31).toUInt32).toInt32) &&& (255 : Int32)).toUInt32.toUInt16.toUInt32.toInt32)), .val (.int ((((p2.toUInt32 >>> ((16 : Int32) &&& 31).toUInt32).toInt32) &&& (255 : Int32)).toUInt32.toUInt16.toUInt32.toInt32)), .val (.int p3), .unset, .unset, .unset, .unset, .unset, .unset, .unset]) (n := 103) at_101 rfl rfl ?_
          refine OwnW.iloadN X0 (n := 104) at_103 rfl rfl ?_
          refine OwnW.iload X0 (n := 106) at_104 rfl rfl ?_
          refine OwnW.ixor X0 (n := 107) at_106 rfl ?_
          refine OwnW.istore X0 (l' := #[.val (.int p0), .val (.int p1), .val (.int p2), .val (.int p3), .val (.int p4), .val (.int p5), .val (.int ((p0 &&& (2147483647 : Int32)) % (13 : Int32))), .val (.int ((p0 &&& (2147483647 : Int32)) % (13 : Int32))), .val (.int (p4 &&& (3 : Int32))), .val (.int (p4 &&& (3 : Int32))), .val (.int ((p2 &&& (255 : Int32)).toUInt32.toUInt16.toUInt32.toInt32)), .val (.int ((((p2.toUInt32 >>> ((8 : Int32) &&& 31).toUInt32).toInt32) &&& (255 : Int32)).toUInt32.toUInt16.toUInt32.toInt32)), .val (.int ((((p2.toUInt32 >>> ((16 : Int32) &&& 31).toUInt32).toInt32) &&& (255 : Int32)).toUInt32.toUInt16.toUInt32.toInt32)), .val (.int p3), .val (.int (p2 ^^^ p3)), .unset, .unset, .unset, .unset, .unset, .unset]) (n := 109) at_107 rfl rfl ?_
          refine OwnW.iload X0 (n := 111) at_109 rfl rfl ?_
          refine OwnW.sipush X0 (z := (255 : Int32)) (n := 114) at_111 rfl rfl ?_
          refine OwnW.iand X0 (n := 115) at_114 rfl ?_
          refine OwnW.i2c X0 (n := 116) at_115 rfl ?_
          refine OwnW.istore X0 (l' := #[.val (.int p0), .val (.int p1), .val (.int p2), .val (.int p3), .val (.int p4), .val (.int p5), .val (.int ((p0 &&& (2147483647 : Int32)) % (13 : Int32))), .val (.int ((p0 &&& (2147483647 : Int32)) % (13 : Int32))), .val (.int (p4 &&& (3 : Int32))), .val (.int (p4 &&& (3 : Int32))), .val (.int ((p2 &&& (255 : Int32)).toUInt32.toUInt16.toUInt32.toInt32)), .val (.int ((((p2.toUInt32 >>> ((8 : Int32) &&& 31).toUInt32).toInt32) &&& (255 : Int32)).toUInt32.toUInt16.toUInt32.toInt32)), .val (.int ((((p2.toUInt32 >>> ((16 : Int32) &&& 31).toUInt32).toInt32) &&& (255 : Int32)).toUInt32.toUInt16.toUInt32.toInt32)), .val (.int p3), .val (.int (p2 ^^^ p3)), .val (.int (((p2 ^^^ p3) &&& (255 : Int32)).toUInt32.toUInt16.toUInt32.toInt32)), .unset, .unset, .unset, .unset, .unset]) (n := 118) at_116 rfl rfl ?_
          refine OwnW.iload X0 (n := 120) at_118 rfl rfl ?_
          refine OwnW.bipush X0 (z := (8 : Int32)) (n := 122) at_120 rfl rfl ?_
          refine OwnW.iushr X0 (n := 123) at_122 rfl ?_
          refine OwnW.sipush X0 (z := (255 : Int32)) (n := 126) at_123 rfl rfl ?_
          refine OwnW.iand X0 (n := 127) at_126 rfl ?_
          refine OwnW.i2c X0 (n := 128) at_127 rfl ?_
          refine OwnW.istore X0 (l' := #[.val (.int p0), .val (.int p1), .val (.int p2), .val (.int p3), .val (.int p4), .val (.int p5), .val (.int ((p0 &&& (2147483647 : Int32)) % (13 : Int32))), .val (.int ((p0 &&& (2147483647 : Int32)) % (13 : Int32))), .val (.int (p4 &&& (3 : Int32))), .val (.int (p4 &&& (3 : Int32))), .val (.int ((p2 &&& (255 : Int32)).toUInt32.toUInt16.toUInt32.toInt32)), .val (.int ((((p2.toUInt32 >>> ((8 : Int32) &&& 31).toUInt32).toInt32) &&& (255 : Int32)).toUInt32.toUInt16.toUInt32.toInt32)), .val (.int ((((p2.toUInt32 >>> ((16 : Int32) &&& 31).toUInt32).toInt32) &&& (255 : Int32)).toUInt32.toUInt16.toUInt32.toInt32)), .val (.int p3), .val (.int (p2 ^^^ p3)), .val (.int (((p2 ^^^ p3) &&& (255 : Int32)).toUInt32.toUInt16.toUInt32.toInt32)), .val (.int (((((p2 ^^^ p3).toUInt32 >>> ((8 : Int32) &&& 31).toUInt32).toInt32) &&& (255 : Int32)).toUInt32.toUInt16.toUInt32.toInt32)), .unset, .unset, .unset, .unset]) (n := 130) at_128 rfl rfl ?_
          refine OwnW.iload X0 (n := 132) at_130 rfl rfl ?_
          refine OwnW.bipush X0 (z := (16 : Int32)) (n := 134) at_132 rfl rfl ?_
          refine OwnW.iushr X0 (n := 135) at_134 rfl ?_
          refine OwnW.sipush X0 (z := (255 : Int32)) (n := 138) at_135 rfl rfl ?_
          refine OwnW.iand X0 (n := 139) at_138 rfl ?_
          refine OwnW.i2c X0 (n := 140) at_139 rfl ?_
          refine OwnW.istore X0 (l' := #[.val (.int p0), .val (.int p1), .val (.int p2), .val (.int p3), .val (.int p4), .val (.int p5), .val (.int ((p0 &&& (2147483647 : Int32)) % (13 : Int32))), .val (.int ((p0 &&& (2147483647 : Int32)) % (13 : Int32))), .val (.int (p4 &&& (3 : Int32))), .val (.int (p4 &&& (3 : Int32))), .val (.int ((p2 &&& (255 : Int32)).toUInt32.toUInt16.toUInt32.toInt32)), .val (.int ((((p2.toUInt32 >>> ((8 : Int32) &&& 31).toUInt32).toInt32) &&& (255 : Int32)).toUInt32.toUInt16.toUInt32.toInt32)), .val (.int ((((p2.toUInt32 >>> ((16 : Int32) &&& 31).toUInt32).toInt32) &&& (255 : Int32)).toUInt32.toUInt16.toUInt32.toInt32)), .val (.int p3), .val (.int (p2 ^^^ p3)), .val (.int (((p2 ^^^ p3) &&& (255 : Int32)).toUInt32.toUInt16.toUInt32.toInt32)), .val (.int (((((p2 ^^^ p3).toUInt32 >>> ((8 : Int32) &&& 31).toUInt32).toInt32) &&& (255 : Int32)).toUInt32.toUInt16.toUInt32.toInt32)), .val (.int (((((p2 ^^^ p3).toUInt32 >>> ((16 : Int32) &&& 31).toUInt32).toInt32) &&& (255 : Int32)).toUInt32.toUInt16.toUInt32.toInt32)), .unset, .unset, .unset]) (n := 142) at_140 rfl rfl ?_
          exact J1 _ (((p0 &&& (2147483647 : Int32)) % (13 : Int32)), ((p0 &&& (2147483647 : Int32)) % (13 : Int32)), (p4 &&& (3 : Int32)), (p4 &&& (3 : Int32)), ((p2 &&& (255 : Int32)).toUInt32.toUInt16.toUInt32.toInt32), ((((p2.toUInt32 >>> ((8 : Int32) &&& 31).toUInt32).toInt32) &&& (255 : Int32)).toUInt32.toUInt16.toUInt32.toInt32), ((((p2.toUInt32 >>> ((16 : Int32) &&& 31).toUInt32).toInt32) &&& (255 : Int32)).toUInt32.toUInt16.toUInt32.toInt32), (((p2 ^^^ p3) &&& (255 : Int32)).toUInt32.toUInt16.toUInt32.toInt32), (((((p2 ^^^ p3).toUInt32 >>> ((8 : Int32) &&& 31).toUInt32).toInt32) &&& (255 : Int32)).toUInt32.toUInt16.toUInt32.toInt32), (((((p2 ^^^ p3).toUInt32 >>> ((16 : Int32) &&& 31).toUInt32).toInt32) &&& (255 : Int32)).toUInt32.toUInt16.toUInt32.toInt32), p3, (p2 ^^^ p3)) X0 ⟨own_cases _, own_cases _, own_c4 _, own_c4 _, own_255 _, own_255 _, own_255 _, own_255 _, own_255 _, own_255 _⟩
      · refine OwnW.iload X0 (n := 47) at_45 rfl rfl ?_
        refine OwnW.iconst X0 (z := (2 : Int32)) (n := 48) at_47 rfl rfl ?_
        refine OwnW.iushr X0 (n := 49) at_48 rfl ?_
        refine OwnW.iconst X0 (z := (3 : Int32)) (n := 50) at_49 rfl rfl ?_
        refine OwnW.iand X0 (n := 51) at_50 rfl ?_
        refine OwnW.goto X0 (n := 56) at_51 (by decide) rfl ?_
        refine OwnW.istore X0 (l' := #[.val (.int p0), .val (.int p1), .val (.int p2), .val (.int p3), .val (.int p4), .val (.int p5), .val (.int ((p0 &&& (2147483647 : Int32)) % (13 : Int32))), .val (.int ((p0 &&& (2147483647 : Int32)) % (13 : Int32))), .val (.int (p4 &&& (3 : Int32))), .val (.int (((p4.toUInt32 >>> ((2 : Int32) &&& 31).toUInt32).toInt32) &&& (3 : Int32))), .unset, .unset, .unset, .unset, .unset, .unset, .unset, .unset, .unset, .unset, .unset]) (n := 58) at_56 rfl rfl ?_
        refine OwnW.iloadN X0 (n := 59) at_58 rfl rfl ?_
        refine OwnW.sipush X0 (z := (255 : Int32)) (n := 62) at_59 rfl rfl ?_
        refine OwnW.iand X0 (n := 63) at_62 rfl ?_
        refine OwnW.i2c X0 (n := 64) at_63 rfl ?_
        refine OwnW.istore X0 (l' := #[.val (.int p0), .val (.int p1), .val (.int p2), .val (.int p3), .val (.int p4), .val (.int p5), .val (.int ((p0 &&& (2147483647 : Int32)) % (13 : Int32))), .val (.int ((p0 &&& (2147483647 : Int32)) % (13 : Int32))), .val (.int (p4 &&& (3 : Int32))), .val (.int (((p4.toUInt32 >>> ((2 : Int32) &&& 31).toUInt32).toInt32) &&& (3 : Int32))), .val (.int ((p2 &&& (255 : Int32)).toUInt32.toUInt16.toUInt32.toInt32)), .unset, .unset, .unset, .unset, .unset, .unset, .unset, .unset, .unset, .unset]) (n := 66) at_64 rfl rfl ?_
        refine OwnW.iloadN X0 (n := 67) at_66 rfl rfl ?_
        refine OwnW.bipush X0 (z := (8 : Int32)) (n := 69) at_67 rfl rfl ?_
        refine OwnW.iushr X0 (n := 70) at_69 rfl ?_
        refine OwnW.sipush X0 (z := (255 : Int32)) (n := 73) at_70 rfl rfl ?_
        refine OwnW.iand X0 (n := 74) at_73 rfl ?_
        refine OwnW.i2c X0 (n := 75) at_74 rfl ?_
        refine OwnW.istore X0 (l' := #[.val (.int p0), .val (.int p1), .val (.int p2), .val (.int p3), .val (.int p4), .val (.int p5), .val (.int ((p0 &&& (2147483647 : Int32)) % (13 : Int32))), .val (.int ((p0 &&& (2147483647 : Int32)) % (13 : Int32))), .val (.int (p4 &&& (3 : Int32))), .val (.int (((p4.toUInt32 >>> ((2 : Int32) &&& 31).toUInt32).toInt32) &&& (3 : Int32))), .val (.int ((p2 &&& (255 : Int32)).toUInt32.toUInt16.toUInt32.toInt32)), .val (.int ((((p2.toUInt32 >>> ((8 : Int32) &&& 31).toUInt32).toInt32) &&& (255 : Int32)).toUInt32.toUInt16.toUInt32.toInt32)), .unset, .unset, .unset, .unset, .unset, .unset, .unset, .unset, .unset]) (n := 77) at_75 rfl rfl ?_
        refine OwnW.iloadN X0 (n := 78) at_77 rfl rfl ?_
        refine OwnW.bipush X0 (z := (16 : Int32)) (n := 80) at_78 rfl rfl ?_
        refine OwnW.iushr X0 (n := 81) at_80 rfl ?_
        refine OwnW.sipush X0 (z := (255 : Int32)) (n := 84) at_81 rfl rfl ?_
        refine OwnW.iand X0 (n := 85) at_84 rfl ?_
        refine OwnW.i2c X0 (n := 86) at_85 rfl ?_
        refine OwnW.istore X0 (l' := #[.val (.int p0), .val (.int p1), .val (.int p2), .val (.int p3), .val (.int p4), .val (.int p5), .val (.int ((p0 &&& (2147483647 : Int32)) % (13 : Int32))), .val (.int ((p0 &&& (2147483647 : Int32)) % (13 : Int32))), .val (.int (p4 &&& (3 : Int32))), .val (.int (((p4.toUInt32 >>> ((2 : Int32) &&& 31).toUInt32).toInt32) &&& (3 : Int32))), .val (.int ((p2 &&& (255 : Int32)).toUInt32.toUInt16.toUInt32.toInt32)), .val (.int ((((p2.toUInt32 >>> ((8 : Int32) &&& 31).toUInt32).toInt32) &&& (255 : Int32)).toUInt32.toUInt16.toUInt32.toInt32)), .val (.int ((((p2.toUInt32 >>> ((16 : Int32) &&& 31).toUInt32).toInt32) &&& (255 : Int32)).toUInt32.toUInt16.toUInt32.toInt32)), .unset, .unset, .unset, .unset, .unset, .unset, .unset, .unset]) (n := 88) at_86 rfl rfl ?_
        refine OwnW.iload X0 (n := 90) at_88 rfl rfl ?_
        refine OwnW.bipush X0 (z := (32 : Int32)) (n := 92) at_90 rfl rfl ?_
        refine OwnW.iand X0 (n := 93) at_92 rfl ?_
        refine OwnW.if_eq X0  (n1 := 100) (n2 := 96) at_93 (by decide) rfl rfl (fun hc93 => ?_) (fun hc93 => ?_)
        · refine OwnW.iconst X0 (z := (0 : Int32)) (n := 101) at_100 rfl rfl ?_
          refine OwnW.istore X0 (l' := #[.val (.int p0), .val (.int p1), .val (.int p2), .val (.int p3), .val (.int p4), .val (.int p5), .val (.int ((p0 &&& (2147483647 : Int32)) % (13 : Int32))), .val (.int ((p0 &&& (2147483647 : Int32)) % (13 : Int32))), .val (.int (p4 &&& (3 : Int32))), .val (.int (((p4.toUInt32 >>> ((2 : Int32) &&& 31).toUInt32).toInt32) &&& (3 : Int32))), .val (.int ((p2 &&& (255 : Int32)).toUInt32.toUInt16.toUInt32.toInt32)), .val (.int ((((p2.toUInt32 >>> ((8 : Int32) &&& 31).toUInt32).toInt32) &&& (255 : Int32)).toUInt32.toUInt16.toUInt32.toInt32)), .val (.int ((((p2.toUInt32 >>> ((16 : Int32) &&& 31).toUInt32).toInt32) &&& (255 : Int32)).toUInt32.toUInt16.toUInt32.toInt32)), .val (.int (0 : Int32)), .unset, .unset, .unset, .unset, .unset, .unset, .unset]) (n := 103) at_101 rfl rfl ?_
          refine OwnW.iloadN X0 (n := 104) at_103 rfl rfl ?_
          refine OwnW.iload X0 (n := 106) at_104 rfl rfl ?_
          refine OwnW.ixor X0 (n := 107) at_106 rfl ?_
          refine OwnW.istore X0 (l' := #[.val (.int p0), .val (.int p1), .val (.int p2), .val (.int p3), .val (.int p4), .val (.int p5), .val (.int ((p0 &&& (2147483647 : Int32)) % (13 : Int32))), .val (.int ((p0 &&& (2147483647 : Int32)) % (13 : Int32))), .val (.int (p4 &&& (3 : Int32))), .val (.int (((p4.toUInt32 >>> ((2 : Int32) &&& 31).toUInt32).toInt32) &&& (3 : Int32))), .val (.int ((p2 &&& (255 : Int32)).toUInt32.toUInt16.toUInt32.toInt32)), .val (.int ((((p2.toUInt32 >>> ((8 : Int32) &&& 31).toUInt32).toInt32) &&& (255 : Int32)).toUInt32.toUInt16.toUInt32.toInt32)), .val (.int ((((p2.toUInt32 >>> ((16 : Int32) &&& 31).toUInt32).toInt32) &&& (255 : Int32)).toUInt32.toUInt16.toUInt32.toInt32)), .val (.int (0 : Int32)), .val (.int (p2 ^^^ (0 : Int32))), .unset, .unset, .unset, .unset, .unset, .unset]) (n := 109) at_107 rfl rfl ?_
          refine OwnW.iload X0 (n := 111) at_109 rfl rfl ?_
          refine OwnW.sipush X0 (z := (255 : Int32)) (n := 114) at_111 rfl rfl ?_
          refine OwnW.iand X0 (n := 115) at_114 rfl ?_
          refine OwnW.i2c X0 (n := 116) at_115 rfl ?_
          refine OwnW.istore X0 (l' := #[.val (.int p0), .val (.int p1), .val (.int p2), .val (.int p3), .val (.int p4), .val (.int p5), .val (.int ((p0 &&& (2147483647 : Int32)) % (13 : Int32))), .val (.int ((p0 &&& (2147483647 : Int32)) % (13 : Int32))), .val (.int (p4 &&& (3 : Int32))), .val (.int (((p4.toUInt32 >>> ((2 : Int32) &&& 31).toUInt32).toInt32) &&& (3 : Int32))), .val (.int ((p2 &&& (255 : Int32)).toUInt32.toUInt16.toUInt32.toInt32)), .val (.int ((((p2.toUInt32 >>> ((8 : Int32) &&& 31).toUInt32).toInt32) &&& (255 : Int32)).toUInt32.toUInt16.toUInt32.toInt32)), .val (.int ((((p2.toUInt32 >>> ((16 : Int32) &&& 31).toUInt32).toInt32) &&& (255 : Int32)).toUInt32.toUInt16.toUInt32.toInt32)), .val (.int (0 : Int32)), .val (.int (p2 ^^^ (0 : Int32))), .val (.int (((p2 ^^^ (0 : Int32)) &&& (255 : Int32)).toUInt32.toUInt16.toUInt32.toInt32)), .unset, .unset, .unset, .unset, .unset]) (n := 118) at_116 rfl rfl ?_
          refine OwnW.iload X0 (n := 120) at_118 rfl rfl ?_
          refine OwnW.bipush X0 (z := (8 : Int32)) (n := 122) at_120 rfl rfl ?_
          refine OwnW.iushr X0 (n := 123) at_122 rfl ?_
          refine OwnW.sipush X0 (z := (255 : Int32)) (n := 126) at_123 rfl rfl ?_
          refine OwnW.iand X0 (n := 127) at_126 rfl ?_
          refine OwnW.i2c X0 (n := 128) at_127 rfl ?_
          refine OwnW.istore X0 (l' := #[.val (.int p0), .val (.int p1), .val (.int p2), .val (.int p3), .val (.int p4), .val (.int p5), .val (.int ((p0 &&& (2147483647 : Int32)) % (13 : Int32))), .val (.int ((p0 &&& (2147483647 : Int32)) % (13 : Int32))), .val (.int (p4 &&& (3 : Int32))), .val (.int (((p4.toUInt32 >>> ((2 : Int32) &&& 31).toUInt32).toInt32) &&& (3 : Int32))), .val (.int ((p2 &&& (255 : Int32)).toUInt32.toUInt16.toUInt32.toInt32)), .val (.int ((((p2.toUInt32 >>> ((8 : Int32) &&& 31).toUInt32).toInt32) &&& (255 : Int32)).toUInt32.toUInt16.toUInt32.toInt32)), .val (.int ((((p2.toUInt32 >>> ((16 : Int32) &&& 31).toUInt32).toInt32) &&& (255 : Int32)).toUInt32.toUInt16.toUInt32.toInt32)), .val (.int (0 : Int32)), .val (.int (p2 ^^^ (0 : Int32))), .val (.int (((p2 ^^^ (0 : Int32)) &&& (255 : Int32)).toUInt32.toUInt16.toUInt32.toInt32)), .val (.int (((((p2 ^^^ (0 : Int32)).toUInt32 >>> ((8 : Int32) &&& 31).toUInt32).toInt32) &&& (255 : Int32)).toUInt32.toUInt16.toUInt32.toInt32)), .unset, .unset, .unset, .unset]) (n := 130) at_128 rfl rfl ?_
          refine OwnW.iload X0 (n := 132) at_130 rfl rfl ?_
          refine OwnW.bipush X0 (z := (16 : Int32)) (n := 134) at_132 rfl rfl ?_
          refine OwnW.iushr X0 (n := 135) at_134 rfl ?_
          refine OwnW.sipush X0 (z := (255 : Int32)) (n := 138) at_135 rfl rfl ?_
          refine OwnW.iand X0 (n := 139) at_138 rfl ?_
          refine OwnW.i2c X0 (n := 140) at_139 rfl ?_
          refine OwnW.istore X0 (l' := #[.val (.int p0), .val (.int p1), .val (.int p2), .val (.int p3), .val (.int p4), .val (.int p5), .val (.int ((p0 &&& (2147483647 : Int32)) % (13 : Int32))), .val (.int ((p0 &&& (2147483647 : Int32)) % (13 : Int32))), .val (.int (p4 &&& (3 : Int32))), .val (.int (((p4.toUInt32 >>> ((2 : Int32) &&& 31).toUInt32).toInt32) &&& (3 : Int32))), .val (.int ((p2 &&& (255 : Int32)).toUInt32.toUInt16.toUInt32.toInt32)), .val (.int ((((p2.toUInt32 >>> ((8 : Int32) &&& 31).toUInt32).toInt32) &&& (255 : Int32)).toUInt32.toUInt16.toUInt32.toInt32)), .val (.int ((((p2.toUInt32 >>> ((16 : Int32) &&& 31).toUInt32).toInt32) &&& (255 : Int32)).toUInt32.toUInt16.toUInt32.toInt32)), .val (.int (0 : Int32)), .val (.int (p2 ^^^ (0 : Int32))), .val (.int (((p2 ^^^ (0 : Int32)) &&& (255 : Int32)).toUInt32.toUInt16.toUInt32.toInt32)), .val (.int (((((p2 ^^^ (0 : Int32)).toUInt32 >>> ((8 : Int32) &&& 31).toUInt32).toInt32) &&& (255 : Int32)).toUInt32.toUInt16.toUInt32.toInt32)), .val (.int (((((p2 ^^^ (0 : Int32)).toUInt32 >>> ((16 : Int32) &&& 31).toUInt32).toInt32) &&& (255 : Int32)).toUInt32.toUInt16.toUInt32.toInt32)), .unset, .unset, .unset]) (n := 142) at_140 rfl rfl ?_
          exact J1 _ (((p0 &&& (2147483647 : Int32)) % (13 : Int32)), ((p0 &&& (2147483647 : Int32)) % (13 : Int32)), (p4 &&& (3 : Int32)), (((p4.toUInt32 >>> ((2 : Int32) &&& 31).toUInt32).toInt32) &&& (3 : Int32)), ((p2 &&& (255 : Int32)).toUInt32.toUInt16.toUInt32.toInt32), ((((p2.toUInt32 >>> ((8 : Int32) &&& 31).toUInt32).toInt32) &&& (255 : Int32)).toUInt32.toUInt16.toUInt32.toInt32), ((((p2.toUInt32 >>> ((16 : Int32) &&& 31).toUInt32).toInt32) &&& (255 : Int32)).toUInt32.toUInt16.toUInt32.toInt32), (((p2 ^^^ (0 : Int32)) &&& (255 : Int32)).toUInt32.toUInt16.toUInt32.toInt32), (((((p2 ^^^ (0 : Int32)).toUInt32 >>> ((8 : Int32) &&& 31).toUInt32).toInt32) &&& (255 : Int32)).toUInt32.toUInt16.toUInt32.toInt32), (((((p2 ^^^ (0 : Int32)).toUInt32 >>> ((16 : Int32) &&& 31).toUInt32).toInt32) &&& (255 : Int32)).toUInt32.toUInt16.toUInt32.toInt32), (0 : Int32), (p2 ^^^ (0 : Int32))) X0 ⟨own_cases _, own_cases _, own_c4 _, own_c4 _, own_255 _, own_255 _, own_255 _, own_255 _, own_255 _, own_255 _⟩
        · refine OwnW.iloadN X0 (n := 97) at_96 rfl rfl ?_
          refine OwnW.goto X0 (n := 101) at_97 (by decide) rfl ?_
          refine OwnW.istore X0 (l' := #[.val (.int p0), .val (.int p1), .val (.int p2), .val (.int p3), .val (.int p4), .val (.int p5), .val (.int ((p0 &&& (2147483647 : Int32)) % (13 : Int32))), .val (.int ((p0 &&& (2147483647 : Int32)) % (13 : Int32))), .val (.int (p4 &&& (3 : Int32))), .val (.int (((p4.toUInt32 >>> ((2 : Int32) &&& 31).toUInt32).toInt32) &&& (3 : Int32))), .val (.int ((p2 &&& (255 : Int32)).toUInt32.toUInt16.toUInt32.toInt32)), .val (.int ((((p2.toUInt32 >>> ((8 : Int32) &&& 31).toUInt32).toInt32) &&& (255 : Int32)).toUInt32.toUInt16.toUInt32.toInt32)), .val (.int ((((p2.toUInt32 >>> ((16 : Int32) &&& 31).toUInt32).toInt32) &&& (255 : Int32)).toUInt32.toUInt16.toUInt32.toInt32)), .val (.int p3), .unset, .unset, .unset, .unset, .unset, .unset, .unset]) (n := 103) at_101 rfl rfl ?_
          refine OwnW.iloadN X0 (n := 104) at_103 rfl rfl ?_
          refine OwnW.iload X0 (n := 106) at_104 rfl rfl ?_
          refine OwnW.ixor X0 (n := 107) at_106 rfl ?_
          refine OwnW.istore X0 (l' := #[.val (.int p0), .val (.int p1), .val (.int p2), .val (.int p3), .val (.int p4), .val (.int p5), .val (.int ((p0 &&& (2147483647 : Int32)) % (13 : Int32))), .val (.int ((p0 &&& (2147483647 : Int32)) % (13 : Int32))), .val (.int (p4 &&& (3 : Int32))), .val (.int (((p4.toUInt32 >>> ((2 : Int32) &&& 31).toUInt32).toInt32) &&& (3 : Int32))), .val (.int ((p2 &&& (255 : Int32)).toUInt32.toUInt16.toUInt32.toInt32)), .val (.int ((((p2.toUInt32 >>> ((8 : Int32) &&& 31).toUInt32).toInt32) &&& (255 : Int32)).toUInt32.toUInt16.toUInt32.toInt32)), .val (.int ((((p2.toUInt32 >>> ((16 : Int32) &&& 31).toUInt32).toInt32) &&& (255 : Int32)).toUInt32.toUInt16.toUInt32.toInt32)), .val (.int p3), .val (.int (p2 ^^^ p3)), .unset, .unset, .unset, .unset, .unset, .unset]) (n := 109) at_107 rfl rfl ?_
          refine OwnW.iload X0 (n := 111) at_109 rfl rfl ?_
          refine OwnW.sipush X0 (z := (255 : Int32)) (n := 114) at_111 rfl rfl ?_
          refine OwnW.iand X0 (n := 115) at_114 rfl ?_
          refine OwnW.i2c X0 (n := 116) at_115 rfl ?_
          refine OwnW.istore X0 (l' := #[.val (.int p0), .val (.int p1), .val (.int p2), .val (.int p3), .val (.int p4), .val (.int p5), .val (.int ((p0 &&& (2147483647 : Int32)) % (13 : Int32))), .val (.int ((p0 &&& (2147483647 : Int32)) % (13 : Int32))), .val (.int (p4 &&& (3 : Int32))), .val (.int (((p4.toUInt32 >>> ((2 : Int32) &&& 31).toUInt32).toInt32) &&& (3 : Int32))), .val (.int ((p2 &&& (255 : Int32)).toUInt32.toUInt16.toUInt32.toInt32)), .val (.int ((((p2.toUInt32 >>> ((8 : Int32) &&& 31).toUInt32).toInt32) &&& (255 : Int32)).toUInt32.toUInt16.toUInt32.toInt32)), .val (.int ((((p2.toUInt32 >>> ((16 : Int32) &&& 31).toUInt32).toInt32) &&& (255 : Int32)).toUInt32.toUInt16.toUInt32.toInt32)), .val (.int p3), .val (.int (p2 ^^^ p3)), .val (.int (((p2 ^^^ p3) &&& (255 : Int32)).toUInt32.toUInt16.toUInt32.toInt32)), .unset, .unset, .unset, .unset, .unset]) (n := 118) at_116 rfl rfl ?_
          refine OwnW.iload X0 (n := 120) at_118 rfl rfl ?_
          refine OwnW.bipush X0 (z := (8 : Int32)) (n := 122) at_120 rfl rfl ?_
          refine OwnW.iushr X0 (n := 123) at_122 rfl ?_
          refine OwnW.sipush X0 (z := (255 : Int32)) (n := 126) at_123 rfl rfl ?_
          refine OwnW.iand X0 (n := 127) at_126 rfl ?_
          refine OwnW.i2c X0 (n := 128) at_127 rfl ?_
          refine OwnW.istore X0 (l' := #[.val (.int p0), .val (.int p1), .val (.int p2), .val (.int p3), .val (.int p4), .val (.int p5), .val (.int ((p0 &&& (2147483647 : Int32)) % (13 : Int32))), .val (.int ((p0 &&& (2147483647 : Int32)) % (13 : Int32))), .val (.int (p4 &&& (3 : Int32))), .val (.int (((p4.toUInt32 >>> ((2 : Int32) &&& 31).toUInt32).toInt32) &&& (3 : Int32))), .val (.int ((p2 &&& (255 : Int32)).toUInt32.toUInt16.toUInt32.toInt32)), .val (.int ((((p2.toUInt32 >>> ((8 : Int32) &&& 31).toUInt32).toInt32) &&& (255 : Int32)).toUInt32.toUInt16.toUInt32.toInt32)), .val (.int ((((p2.toUInt32 >>> ((16 : Int32) &&& 31).toUInt32).toInt32) &&& (255 : Int32)).toUInt32.toUInt16.toUInt32.toInt32)), .val (.int p3), .val (.int (p2 ^^^ p3)), .val (.int (((p2 ^^^ p3) &&& (255 : Int32)).toUInt32.toUInt16.toUInt32.toInt32)), .val (.int (((((p2 ^^^ p3).toUInt32 >>> ((8 : Int32) &&& 31).toUInt32).toInt32) &&& (255 : Int32)).toUInt32.toUInt16.toUInt32.toInt32)), .unset, .unset, .unset, .unset]) (n := 130) at_128 rfl rfl ?_
          refine OwnW.iload X0 (n := 132) at_130 rfl rfl ?_
          refine OwnW.bipush X0 (z := (16 : Int32)) (n := 134) at_132 rfl rfl ?_
          refine OwnW.iushr X0 (n := 135) at_134 rfl ?_
          refine OwnW.sipush X0 (z := (255 : Int32)) (n := 138) at_135 rfl rfl ?_
          refine OwnW.iand X0 (n := 139) at_138 rfl ?_
          refine OwnW.i2c X0 (n := 140) at_139 rfl ?_
          refine OwnW.istore X0 (l' := #[.val (.int p0), .val (.int p1), .val (.int p2), .val (.int p3), .val (.int p4), .val (.int p5), .val (.int ((p0 &&& (2147483647 : Int32)) % (13 : Int32))), .val (.int ((p0 &&& (2147483647 : Int32)) % (13 : Int32))), .val (.int (p4 &&& (3 : Int32))), .val (.int (((p4.toUInt32 >>> ((2 : Int32) &&& 31).toUInt32).toInt32) &&& (3 : Int32))), .val (.int ((p2 &&& (255 : Int32)).toUInt32.toUInt16.toUInt32.toInt32)), .val (.int ((((p2.toUInt32 >>> ((8 : Int32) &&& 31).toUInt32).toInt32) &&& (255 : Int32)).toUInt32.toUInt16.toUInt32.toInt32)), .val (.int ((((p2.toUInt32 >>> ((16 : Int32) &&& 31).toUInt32).toInt32) &&& (255 : Int32)).toUInt32.toUInt16.toUInt32.toInt32)), .val (.int p3), .val (.int (p2 ^^^ p3)), .val (.int (((p2 ^^^ p3) &&& (255 : Int32)).toUInt32.toUInt16.toUInt32.toInt32)), .val (.int (((((p2 ^^^ p3).toUInt32 >>> ((8 : Int32) &&& 31).toUInt32).toInt32) &&& (255 : Int32)).toUInt32.toUInt16.toUInt32.toInt32)), .val (.int (((((p2 ^^^ p3).toUInt32 >>> ((16 : Int32) &&& 31).toUInt32).toInt32) &&& (255 : Int32)).toUInt32.toUInt16.toUInt32.toInt32)), .unset, .unset, .unset]) (n := 142) at_140 rfl rfl ?_
          exact J1 _ (((p0 &&& (2147483647 : Int32)) % (13 : Int32)), ((p0 &&& (2147483647 : Int32)) % (13 : Int32)), (p4 &&& (3 : Int32)), (((p4.toUInt32 >>> ((2 : Int32) &&& 31).toUInt32).toInt32) &&& (3 : Int32)), ((p2 &&& (255 : Int32)).toUInt32.toUInt16.toUInt32.toInt32), ((((p2.toUInt32 >>> ((8 : Int32) &&& 31).toUInt32).toInt32) &&& (255 : Int32)).toUInt32.toUInt16.toUInt32.toInt32), ((((p2.toUInt32 >>> ((16 : Int32) &&& 31).toUInt32).toInt32) &&& (255 : Int32)).toUInt32.toUInt16.toUInt32.toInt32), (((p2 ^^^ p3) &&& (255 : Int32)).toUInt32.toUInt16.toUInt32.toInt32), (((((p2 ^^^ p3).toUInt32 >>> ((8 : Int32) &&& 31).toUInt32).toInt32) &&& (255 : Int32)).toUInt32.toUInt16.toUInt32.toInt32), (((((p2 ^^^ p3).toUInt32 >>> ((16 : Int32) &&& 31).toUInt32).toInt32) &&& (255 : Int32)).toUInt32.toUInt16.toUInt32.toInt32), p3, (p2 ^^^ p3)) X0 ⟨own_cases _, own_cases _, own_c4 _, own_c4 _, own_255 _, own_255 _, own_255 _, own_255 _, own_255 _, own_255 _⟩
    · refine OwnW.iloadN X0 (n := 18) at_17 rfl rfl ?_
      refine OwnW.ldc X0 (n := 20) at_18 (hw _ (List.mem_of_getElem? (i := 0) rfl)) rfl ?_
      refine OwnW.iand X0 (n := 21) at_20 rfl ?_
      refine OwnW.bipush X0 (z := (13 : Int32)) (n := 23) at_21 rfl rfl ?_
      refine OwnW.irem X0 (n := 24) at_23 (by decide) rfl ?_
      refine OwnW.goto X0 (n := 29) at_24 (by decide) rfl ?_
      refine OwnW.istore X0 (l' := #[.val (.int p0), .val (.int p1), .val (.int p2), .val (.int p3), .val (.int p4), .val (.int p5), .val (.int ((p0 &&& (2147483647 : Int32)) % (13 : Int32))), .val (.int ((p1 &&& (2147483647 : Int32)) % (13 : Int32))), .unset, .unset, .unset, .unset, .unset, .unset, .unset, .unset, .unset, .unset, .unset, .unset, .unset]) (n := 31) at_29 rfl rfl ?_
      refine OwnW.iload X0 (n := 33) at_31 rfl rfl ?_
      refine OwnW.iconst X0 (z := (3 : Int32)) (n := 34) at_33 rfl rfl ?_
      refine OwnW.iand X0 (n := 35) at_34 rfl ?_
      refine OwnW.istore X0 (l' := #[.val (.int p0), .val (.int p1), .val (.int p2), .val (.int p3), .val (.int p4), .val (.int p5), .val (.int ((p0 &&& (2147483647 : Int32)) % (13 : Int32))), .val (.int ((p1 &&& (2147483647 : Int32)) % (13 : Int32))), .val (.int (p4 &&& (3 : Int32))), .unset, .unset, .unset, .unset, .unset, .unset, .unset, .unset, .unset, .unset, .unset, .unset]) (n := 37) at_35 rfl rfl ?_
      refine OwnW.iload X0 (n := 39) at_37 rfl rfl ?_
      refine OwnW.bipush X0 (z := (16 : Int32)) (n := 41) at_39 rfl rfl ?_
      refine OwnW.iand X0 (n := 42) at_41 rfl ?_
      refine OwnW.if_eq X0  (n1 := 54) (n2 := 45) at_42 (by decide) rfl rfl (fun hc42 => ?_) (fun hc42 => ?_)
      · refine OwnW.iload X0 (n := 56) at_54 rfl rfl ?_
        refine OwnW.istore X0 (l' := #[.val (.int p0), .val (.int p1), .val (.int p2), .val (.int p3), .val (.int p4), .val (.int p5), .val (.int ((p0 &&& (2147483647 : Int32)) % (13 : Int32))), .val (.int ((p1 &&& (2147483647 : Int32)) % (13 : Int32))), .val (.int (p4 &&& (3 : Int32))), .val (.int (p4 &&& (3 : Int32))), .unset, .unset, .unset, .unset, .unset, .unset, .unset, .unset, .unset, .unset, .unset]) (n := 58) at_56 rfl rfl ?_
        refine OwnW.iloadN X0 (n := 59) at_58 rfl rfl ?_
        refine OwnW.sipush X0 (z := (255 : Int32)) (n := 62) at_59 rfl rfl ?_
        refine OwnW.iand X0 (n := 63) at_62 rfl ?_
        refine OwnW.i2c X0 (n := 64) at_63 rfl ?_
        refine OwnW.istore X0 (l' := #[.val (.int p0), .val (.int p1), .val (.int p2), .val (.int p3), .val (.int p4), .val (.int p5), .val (.int ((p0 &&& (2147483647 : Int32)) % (13 : Int32))), .val (.int ((p1 &&& (2147483647 : Int32)) % (13 : Int32))), .val (.int (p4 &&& (3 : Int32))), .val (.int (p4 &&& (3 : Int32))), .val (.int ((p2 &&& (255 : Int32)).toUInt32.toUInt16.toUInt32.toInt32)), .unset, .unset, .unset, .unset, .unset, .unset, .unset, .unset, .unset, .unset]) (n := 66) at_64 rfl rfl ?_
        refine OwnW.iloadN X0 (n := 67) at_66 rfl rfl ?_
        refine OwnW.bipush X0 (z := (8 : Int32)) (n := 69) at_67 rfl rfl ?_
        refine OwnW.iushr X0 (n := 70) at_69 rfl ?_
        refine OwnW.sipush X0 (z := (255 : Int32)) (n := 73) at_70 rfl rfl ?_
        refine OwnW.iand X0 (n := 74) at_73 rfl ?_
        refine OwnW.i2c X0 (n := 75) at_74 rfl ?_
        refine OwnW.istore X0 (l' := #[.val (.int p0), .val (.int p1), .val (.int p2), .val (.int p3), .val (.int p4), .val (.int p5), .val (.int ((p0 &&& (2147483647 : Int32)) % (13 : Int32))), .val (.int ((p1 &&& (2147483647 : Int32)) % (13 : Int32))), .val (.int (p4 &&& (3 : Int32))), .val (.int (p4 &&& (3 : Int32))), .val (.int ((p2 &&& (255 : Int32)).toUInt32.toUInt16.toUInt32.toInt32)), .val (.int ((((p2.toUInt32 >>> ((8 : Int32) &&& 31).toUInt32).toInt32) &&& (255 : Int32)).toUInt32.toUInt16.toUInt32.toInt32)), .unset, .unset, .unset, .unset, .unset, .unset, .unset, .unset, .unset]) (n := 77) at_75 rfl rfl ?_
        refine OwnW.iloadN X0 (n := 78) at_77 rfl rfl ?_
        refine OwnW.bipush X0 (z := (16 : Int32)) (n := 80) at_78 rfl rfl ?_
        refine OwnW.iushr X0 (n := 81) at_80 rfl ?_
        refine OwnW.sipush X0 (z := (255 : Int32)) (n := 84) at_81 rfl rfl ?_
        refine OwnW.iand X0 (n := 85) at_84 rfl ?_
        refine OwnW.i2c X0 (n := 86) at_85 rfl ?_
        refine OwnW.istore X0 (l' := #[.val (.int p0), .val (.int p1), .val (.int p2), .val (.int p3), .val (.int p4), .val (.int p5), .val (.int ((p0 &&& (2147483647 : Int32)) % (13 : Int32))), .val (.int ((p1 &&& (2147483647 : Int32)) % (13 : Int32))), .val (.int (p4 &&& (3 : Int32))), .val (.int (p4 &&& (3 : Int32))), .val (.int ((p2 &&& (255 : Int32)).toUInt32.toUInt16.toUInt32.toInt32)), .val (.int ((((p2.toUInt32 >>> ((8 : Int32) &&& 31).toUInt32).toInt32) &&& (255 : Int32)).toUInt32.toUInt16.toUInt32.toInt32)), .val (.int ((((p2.toUInt32 >>> ((16 : Int32) &&& 31).toUInt32).toInt32) &&& (255 : Int32)).toUInt32.toUInt16.toUInt32.toInt32)), .unset, .unset, .unset, .unset, .unset, .unset, .unset, .unset]) (n := 88) at_86 rfl rfl ?_
        refine OwnW.iload X0 (n := 90) at_88 rfl rfl ?_
        refine OwnW.bipush X0 (z := (32 : Int32)) (n := 92) at_90 rfl rfl ?_
        refine OwnW.iand X0 (n := 93) at_92 rfl ?_
        refine OwnW.if_eq X0  (n1 := 100) (n2 := 96) at_93 (by decide) rfl rfl (fun hc93 => ?_) (fun hc93 => ?_)
        · refine OwnW.iconst X0 (z := (0 : Int32)) (n := 101) at_100 rfl rfl ?_
          refine OwnW.istore X0 (l' := #[.val (.int p0), .val (.int p1), .val (.int p2), .val (.int p3), .val (.int p4), .val (.int p5), .val (.int ((p0 &&& (2147483647 : Int32)) % (13 : Int32))), .val (.int ((p1 &&& (2147483647 : Int32)) % (13 : Int32))), .val (.int (p4 &&& (3 : Int32))), .val (.int (p4 &&& (3 : Int32))), .val (.int ((p2 &&& (255 : Int32)).toUInt32.toUInt16.toUInt32.toInt32)), .val (.int ((((p2.toUInt32 >>> ((8 : Int32) &&& 31).toUInt32).toInt32) &&& (255 : Int32)).toUInt32.toUInt16.toUInt32.toInt32)), .val (.int ((((p2.toUInt32 >>> ((16 : Int32) &&& 31).toUInt32).toInt32) &&& (255 : Int32)).toUInt32.toUInt16.toUInt32.toInt32)), .val (.int (0 : Int32)), .unset, .unset, .unset, .unset, .unset, .unset, .unset]) (n := 103) at_101 rfl rfl ?_
          refine OwnW.iloadN X0 (n := 104) at_103 rfl rfl ?_
          refine OwnW.iload X0 (n := 106) at_104 rfl rfl ?_
          refine OwnW.ixor X0 (n := 107) at_106 rfl ?_
          refine OwnW.istore X0 (l' := #[.val (.int p0), .val (.int p1), .val (.int p2), .val (.int p3), .val (.int p4), .val (.int p5), .val (.int ((p0 &&& (2147483647 : Int32)) % (13 : Int32))), .val (.int ((p1 &&& (2147483647 : Int32)) % (13 : Int32))), .val (.int (p4 &&& (3 : Int32))), .val (.int (p4 &&& (3 : Int32))), .val (.int ((p2 &&& (255 : Int32)).toUInt32.toUInt16.toUInt32.toInt32)), .val (.int ((((p2.toUInt32 >>> ((8 : Int32) &&& 31).toUInt32).toInt32) &&& (255 : Int32)).toUInt32.toUInt16.toUInt32.toInt32)), .val (.int ((((p2.toUInt32 >>> ((16 : Int32) &&& 31).toUInt32).toInt32) &&& (255 : Int32)).toUInt32.toUInt16.toUInt32.toInt32)), .val (.int (0 : Int32)), .val (.int (p2 ^^^ (0 : Int32))), .unset, .unset, .unset, .unset, .unset, .unset]) (n := 109) at_107 rfl rfl ?_
          refine OwnW.iload X0 (n := 111) at_109 rfl rfl ?_
          refine OwnW.sipush X0 (z := (255 : Int32)) (n := 114) at_111 rfl rfl ?_
          refine OwnW.iand X0 (n := 115) at_114 rfl ?_
          refine OwnW.i2c X0 (n := 116) at_115 rfl ?_
          refine OwnW.istore X0 (l' := #[.val (.int p0), .val (.int p1), .val (.int p2), .val (.int p3), .val (.int p4), .val (.int p5), .val (.int ((p0 &&& (2147483647 : Int32)) % (13 : Int32))), .val (.int ((p1 &&& (2147483647 : Int32)) % (13 : Int32))), .val (.int (p4 &&& (3 : Int32))), .val (.int (p4 &&& (3 : Int32))), .val (.int ((p2 &&& (255 : Int32)).toUInt32.toUInt16.toUInt32.toInt32)), .val (.int ((((p2.toUInt32 >>> ((8 : Int32) &&& 31).toUInt32).toInt32) &&& (255 : Int32)).toUInt32.toUInt16.toUInt32.toInt32)), .val (.int ((((p2.toUInt32 >>> ((16 : Int32) &&& 31).toUInt32).toInt32) &&& (255 : Int32)).toUInt32.toUInt16.toUInt32.toInt32)), .val (.int (0 : Int32)), .val (.int (p2 ^^^ (0 : Int32))), .val (.int (((p2 ^^^ (0 : Int32)) &&& (255 : Int32)).toUInt32.toUInt16.toUInt32.toInt32)), .unset, .unset, .unset, .unset, .unset]) (n := 118) at_116 rfl rfl ?_
          refine OwnW.iload X0 (n := 120) at_118 rfl rfl ?_
          refine OwnW.bipush X0 (z := (8 : Int32)) (n := 122) at_120 rfl rfl ?_
          refine OwnW.iushr X0 (n := 123) at_122 rfl ?_
          refine OwnW.sipush X0 (z := (255 : Int32)) (n := 126) at_123 rfl rfl ?_
          refine OwnW.iand X0 (n := 127) at_126 rfl ?_
          refine OwnW.i2c X0 (n := 128) at_127 rfl ?_
          refine OwnW.istore X0 (l' := #[.val (.int p0), .val (.int p1), .val (.int p2), .val (.int p3), .val (.int p4), .val (.int p5), .val (.int ((p0 &&& (2147483647 : Int32)) % (13 : Int32))), .val (.int ((p1 &&& (2147483647 : Int32)) % (13 : Int32))), .val (.int (p4 &&& (3 : Int32))), .val (.int (p4 &&& (3 : Int32))), .val (.int ((p2 &&& (255 : Int32)).toUInt32.toUInt16.toUInt32.toInt32)), .val (.int ((((p2.toUInt32 >>> ((8 : Int32) &&& 31).toUInt32).toInt32) &&& (255 : Int32)).toUInt32.toUInt16.toUInt32.toInt32)), .val (.int ((((p2.toUInt32 >>> ((16 : Int32) &&& 31).toUInt32).toInt32) &&& (255 : Int32)).toUInt32.toUInt16.toUInt32.toInt32)), .val (.int (0 : Int32)), .val (.int (p2 ^^^ (0 : Int32))), .val (.int (((p2 ^^^ (0 : Int32)) &&& (255 : Int32)).toUInt32.toUInt16.toUInt32.toInt32)), .val (.int (((((p2 ^^^ (0 : Int32)).toUInt32 >>> ((8 : Int32) &&& 31).toUInt32).toInt32) &&& (255 : Int32)).toUInt32.toUInt16.toUInt32.toInt32)), .unset, .unset, .unset, .unset]) (n := 130) at_128 rfl rfl ?_
          refine OwnW.iload X0 (n := 132) at_130 rfl rfl ?_
          refine OwnW.bipush X0 (z := (16 : Int32)) (n := 134) at_132 rfl rfl ?_
          refine OwnW.iushr X0 (n := 135) at_134 rfl ?_
          refine OwnW.sipush X0 (z := (255 : Int32)) (n := 138) at_135 rfl rfl ?_
          refine OwnW.iand X0 (n := 139) at_138 rfl ?_
          refine OwnW.i2c X0 (n := 140) at_139 rfl ?_
          refine OwnW.istore X0 (l' := #[.val (.int p0), .val (.int p1), .val (.int p2), .val (.int p3), .val (.int p4), .val (.int p5), .val (.int ((p0 &&& (2147483647 : Int32)) % (13 : Int32))), .val (.int ((p1 &&& (2147483647 : Int32)) % (13 : Int32))), .val (.int (p4 &&& (3 : Int32))), .val (.int (p4 &&& (3 : Int32))), .val (.int ((p2 &&& (255 : Int32)).toUInt32.toUInt16.toUInt32.toInt32)), .val (.int ((((p2.toUInt32 >>> ((8 : Int32) &&& 31).toUInt32).toInt32) &&& (255 : Int32)).toUInt32.toUInt16.toUInt32.toInt32)), .val (.int ((((p2.toUInt32 >>> ((16 : Int32) &&& 31).toUInt32).toInt32) &&& (255 : Int32)).toUInt32.toUInt16.toUInt32.toInt32)), .val (.int (0 : Int32)), .val (.int (p2 ^^^ (0 : Int32))), .val (.int (((p2 ^^^ (0 : Int32)) &&& (255 : Int32)).toUInt32.toUInt16.toUInt32.toInt32)), .val (.int (((((p2 ^^^ (0 : Int32)).toUInt32 >>> ((8 : Int32) &&& 31).toUInt32).toInt32) &&& (255 : Int32)).toUInt32.toUInt16.toUInt32.toInt32)), .val (.int (((((p2 ^^^ (0 : Int32)).toUInt32 >>> ((16 : Int32) &&& 31).toUInt32).toInt32) &&& (255 : Int32)).toUInt32.toUInt16.toUInt32.toInt32)), .unset, .unset, .unset]) (n := 142) at_140 rfl rfl ?_
          exact J1 _ (((p0 &&& (2147483647 : Int32)) % (13 : Int32)), ((p1 &&& (2147483647 : Int32)) % (13 : Int32)), (p4 &&& (3 : Int32)), (p4 &&& (3 : Int32)), ((p2 &&& (255 : Int32)).toUInt32.toUInt16.toUInt32.toInt32), ((((p2.toUInt32 >>> ((8 : Int32) &&& 31).toUInt32).toInt32) &&& (255 : Int32)).toUInt32.toUInt16.toUInt32.toInt32), ((((p2.toUInt32 >>> ((16 : Int32) &&& 31).toUInt32).toInt32) &&& (255 : Int32)).toUInt32.toUInt16.toUInt32.toInt32), (((p2 ^^^ (0 : Int32)) &&& (255 : Int32)).toUInt32.toUInt16.toUInt32.toInt32), (((((p2 ^^^ (0 : Int32)).toUInt32 >>> ((8 : Int32) &&& 31).toUInt32).toInt32) &&& (255 : Int32)).toUInt32.toUInt16.toUInt32.toInt32), (((((p2 ^^^ (0 : Int32)).toUInt32 >>> ((16 : Int32) &&& 31).toUInt32).toInt32) &&& (255 : Int32)).toUInt32.toUInt16.toUInt32.toInt32), (0 : Int32), (p2 ^^^ (0 : Int32))) X0 ⟨own_cases _, own_cases _, own_c4 _, own_c4 _, own_255 _, own_255 _, own_255 _, own_255 _, own_255 _, own_255 _⟩
        · refine OwnW.iloadN X0 (n := 97) at_96 rfl rfl ?_
          refine OwnW.goto X0 (n := 101) at_97 (by decide) rfl ?_
          refine OwnW.istore X0 (l' := #[.val (.int p0), .val (.int p1), .val (.int p2), .val (.int p3), .val (.int p4), .val (.int p5), .val (.int ((p0 &&& (2147483647 : Int32)) % (13 : Int32))), .val (.int ((p1 &&& (2147483647 : Int32)) % (13 : Int32))), .val (.int (p4 &&& (3 : Int32))), .val (.int (p4 &&& (3 : Int32))), .val (.int ((p2 &&& (255 : Int32)).toUInt32.toUInt16.toUInt32.toInt32)), .val (.int ((((p2.toUInt32 >>> ((8 : Int32) &&& 31).toUInt32).toInt32) &&& (255 : Int32)).toUInt32.toUInt16.toUInt32.toInt32)), .val (.int ((((p2.toUInt32 >>> ((16 : Int32) &&& 31).toUInt32).toInt32) &&& (255 : Int32)).toUInt32.toUInt16.toUInt32.toInt32)), .val (.int p3), .unset, .unset, .unset, .unset, .unset, .unset, .unset]) (n := 103) at_101 rfl rfl ?_
          refine OwnW.iloadN X0 (n := 104) at_103 rfl rfl ?_
          refine OwnW.iload X0 (n := 106) at_104 rfl rfl ?_
          refine OwnW.ixor X0 (n := 107) at_106 rfl ?_
          refine OwnW.istore X0 (l' := #[.val (.int p0), .val (.int p1), .val (.int p2), .val (.int p3), .val (.int p4), .val (.int p5), .val (.int ((p0 &&& (2147483647 : Int32)) % (13 : Int32))), .val (.int ((p1 &&& (2147483647 : Int32)) % (13 : Int32))), .val (.int (p4 &&& (3 : Int32))), .val (.int (p4 &&& (3 : Int32))), .val (.int ((p2 &&& (255 : Int32)).toUInt32.toUInt16.toUInt32.toInt32)), .val (.int ((((p2.toUInt32 >>> ((8 : Int32) &&& 31).toUInt32).toInt32) &&& (255 : Int32)).toUInt32.toUInt16.toUInt32.toInt32)), .val (.int ((((p2.toUInt32 >>> ((16 : Int32) &&& 31).toUInt32).toInt32) &&& (255 : Int32)).toUInt32.toUInt16.toUInt32.toInt32)), .val (.int p3), .val (.int (p2 ^^^ p3)), .unset, .unset, .unset, .unset, .unset, .unset]) (n := 109) at_107 rfl rfl ?_
          refine OwnW.iload X0 (n := 111) at_109 rfl rfl ?_
          refine OwnW.sipush X0 (z := (255 : Int32)) (n := 114) at_111 rfl rfl ?_
          refine OwnW.iand X0 (n := 115) at_114 rfl ?_
          refine OwnW.i2c X0 (n := 116) at_115 rfl ?_
          refine OwnW.istore X0 (l' := #[.val (.int p0), .val (.int p1), .val (.int p2), .val (.int p3), .val (.int p4), .val (.int p5), .val (.int ((p0 &&& (2147483647 : Int32)) % (13 : Int32))), .val (.int ((p1 &&& (2147483647 : Int32)) % (13 : Int32))), .val (.int (p4 &&& (3 : Int32))), .val (.int (p4 &&& (3 : Int32))), .val (.int ((p2 &&& (255 : Int32)).toUInt32.toUInt16.toUInt32.toInt32)), .val (.int ((((p2.toUInt32 >>> ((8 : Int32) &&& 31).toUInt32).toInt32) &&& (255 : Int32)).toUInt32.toUInt16.toUInt32.toInt32)), .val (.int ((((p2.toUInt32 >>> ((16 : Int32) &&& 31).toUInt32).toInt32) &&& (255 : Int32)).toUInt32.toUInt16.toUInt32.toInt32)), .val (.int p3), .val (.int (p2 ^^^ p3)), .val (.int (((p2 ^^^ p3) &&& (255 : Int32)).toUInt32.toUInt16.toUInt32.toInt32)), .unset, .unset, .unset, .unset, .unset]) (n := 118) at_116 rfl rfl ?_
          refine OwnW.iload X0 (n := 120) at_118 rfl rfl ?_
          refine OwnW.bipush X0 (z := (8 : Int32)) (n := 122) at_120 rfl rfl ?_
          refine OwnW.iushr X0 (n := 123) at_122 rfl ?_
          refine OwnW.sipush X0 (z := (255 : Int32)) (n := 126) at_123 rfl rfl ?_
          refine OwnW.iand X0 (n := 127) at_126 rfl ?_
          refine OwnW.i2c X0 (n := 128) at_127 rfl ?_
          refine OwnW.istore X0 (l' := #[.val (.int p0), .val (.int p1), .val (.int p2), .val (.int p3), .val (.int p4), .val (.int p5), .val (.int ((p0 &&& (2147483647 : Int32)) % (13 : Int32))), .val (.int ((p1 &&& (2147483647 : Int32)) % (13 : Int32))), .val (.int (p4 &&& (3 : Int32))), .val (.int (p4 &&& (3 : Int32))), .val (.int ((p2 &&& (255 : Int32)).toUInt32.toUInt16.toUInt32.toInt32)), .val (.int ((((p2.toUInt32 >>> ((8 : Int32) &&& 31).toUInt32).toInt32) &&& (255 : Int32)).toUInt32.toUInt16.toUInt32.toInt32)), .val (.int ((((p2.toUInt32 >>> ((16 : Int32) &&& 31).toUInt32).toInt32) &&& (255 : Int32)).toUInt32.toUInt16.toUInt32.toInt32)), .val (.int p3), .val (.int (p2 ^^^ p3)), .val (.int (((p2 ^^^ p3) &&& (255 : Int32)).toUInt32.toUInt16.toUInt32.toInt32)), .val (.int (((((p2 ^^^ p3).toUInt32 >>> ((8 : Int32) &&& 31).toUInt32).toInt32) &&& (255 : Int32)).toUInt32.toUInt16.toUInt32.toInt32)), .unset, .unset, .unset, .unset]) (n := 130) at_128 rfl rfl ?_
          refine OwnW.iload X0 (n := 132) at_130 rfl rfl ?_
          refine OwnW.bipush X0 (z := (16 : Int32)) (n := 134) at_132 rfl rfl ?_
          refine OwnW.iushr X0 (n := 135) at_134 rfl ?_
          refine OwnW.sipush X0 (z := (255 : Int32)) (n := 138) at_135 rfl rfl ?_
          refine OwnW.iand X0 (n := 139) at_138 rfl ?_
          refine OwnW.i2c X0 (n := 140) at_139 rfl ?_
          refine OwnW.istore X0 (l' := #[.val (.int p0), .val (.int p1), .val (.int p2), .val (.int p3), .val (.int p4), .val (.int p5), .val (.int ((p0 &&& (2147483647 : Int32)) % (13 : Int32))), .val (.int ((p1 &&& (2147483647 : Int32)) % (13 : Int32))), .val (.int (p4 &&& (3 : Int32))), .val (.int (p4 &&& (3 : Int32))), .val (.int ((p2 &&& (255 : Int32)).toUInt32.toUInt16.toUInt32.toInt32)), .val (.int ((((p2.toUInt32 >>> ((8 : Int32) &&& 31).toUInt32).toInt32) &&& (255 : Int32)).toUInt32.toUInt16.toUInt32.toInt32)), .val (.int ((((p2.toUInt32 >>> ((16 : Int32) &&& 31).toUInt32).toInt32) &&& (255 : Int32)).toUInt32.toUInt16.toUInt32.toInt32)), .val (.int p3), .val (.int (p2 ^^^ p3)), .val (.int (((p2 ^^^ p3) &&& (255 : Int32)).toUInt32.toUInt16.toUInt32.toInt32)), .val (.int (((((p2 ^^^ p3).toUInt32 >>> ((8 : Int32) &&& 31).toUInt32).toInt32) &&& (255 : Int32)).toUInt32.toUInt16.toUInt32.toInt32)), .val (.int (((((p2 ^^^ p3).toUInt32 >>> ((16 : Int32) &&& 31).toUInt32).toInt32) &&& (255 : Int32)).toUInt32.toUInt16.toUInt32.toInt32)), .unset, .unset, .unset]) (n := 142) at_140 rfl rfl ?_
          exact J1 _ (((p0 &&& (2147483647 : Int32)) % (13 : Int32)), ((p1 &&& (2147483647 : Int32)) % (13 : Int32)), (p4 &&& (3 : Int32)), (p4 &&& (3 : Int32)), ((p2 &&& (255 : Int32)).toUInt32.toUInt16.toUInt32.toInt32), ((((p2.toUInt32 >>> ((8 : Int32) &&& 31).toUInt32).toInt32) &&& (255 : Int32)).toUInt32.toUInt16.toUInt32.toInt32), ((((p2.toUInt32 >>> ((16 : Int32) &&& 31).toUInt32).toInt32) &&& (255 : Int32)).toUInt32.toUInt16.toUInt32.toInt32), (((p2 ^^^ p3) &&& (255 : Int32)).toUInt32.toUInt16.toUInt32.toInt32), (((((p2 ^^^ p3).toUInt32 >>> ((8 : Int32) &&& 31).toUInt32).toInt32) &&& (255 : Int32)).toUInt32.toUInt16.toUInt32.toInt32), (((((p2 ^^^ p3).toUInt32 >>> ((16 : Int32) &&& 31).toUInt32).toInt32) &&& (255 : Int32)).toUInt32.toUInt16.toUInt32.toInt32), p3, (p2 ^^^ p3)) X0 ⟨own_cases _, own_cases _, own_c4 _, own_c4 _, own_255 _, own_255 _, own_255 _, own_255 _, own_255 _, own_255 _⟩
      · refine OwnW.iload X0 (n := 47) at_45 rfl rfl ?_
        refine OwnW.iconst X0 (z := (2 : Int32)) (n := 48) at_47 rfl rfl ?_
        refine OwnW.iushr X0 (n := 49) at_48 rfl ?_
        refine OwnW.iconst X0 (z := (3 : Int32)) (n := 50) at_49 rfl rfl ?_
        refine OwnW.iand X0 (n := 51) at_50 rfl ?_
        refine OwnW.goto X0 (n := 56) at_51 (by decide) rfl ?_
        refine OwnW.istore X0 (l' := #[.val (.int p0), .val (.int p1), .val (.int p2), .val (.int p3), .val (.int p4), .val (.int p5), .val (.int ((p0 &&& (2147483647 : Int32)) % (13 : Int32))), .val (.int ((p1 &&& (2147483647 : Int32)) % (13 : Int32))), .val (.int (p4 &&& (3 : Int32))), .val (.int (((p4.toUInt32 >>> ((2 : Int32) &&& 31).toUInt32).toInt32) &&& (3 : Int32))), .unset, .unset, .unset, .unset, .unset, .unset, .unset, .unset, .unset, .unset, .unset]) (n := 58) at_56 rfl rfl ?_
        refine OwnW.iloadN X0 (n := 59) at_58 rfl rfl ?_
        refine OwnW.sipush X0 (z := (255 : Int32)) (n := 62) at_59 rfl rfl ?_
        refine OwnW.iand X0 (n := 63) at_62 rfl ?_
        refine OwnW.i2c X0 (n := 64) at_63 rfl ?_
        refine OwnW.istore X0 (l' := #[.val (.int p0), .val (.int p1), .val (.int p2), .val (.int p3), .val (.int p4), .val (.int p5), .val (.int ((p0 &&& (2147483647 : Int32)) % (13 : Int32))), .val (.int ((p1 &&& (2147483647 : Int32)) % (13 : Int32))), .val (.int (p4 &&& (3 : Int32))), .val (.int (((p4.toUInt32 >>> ((2 : Int32) &&& 31).toUInt32).toInt32) &&& (3 : Int32))), .val (.int ((p2 &&& (255 : Int32)).toUInt32.toUInt16.toUInt32.toInt32)), .unset, .unset, .unset, .unset, .unset, .unset, .unset, .unset, .unset, .unset]) (n := 66) at_64 rfl rfl ?_
        refine OwnW.iloadN X0 (n := 67) at_66 rfl rfl ?_
        refine OwnW.bipush X0 (z := (8 : Int32)) (n := 69) at_67 rfl rfl ?_
        refine OwnW.iushr X0 (n := 70) at_69 rfl ?_
        refine OwnW.sipush X0 (z := (255 : Int32)) (n := 73) at_70 rfl rfl ?_
        refine OwnW.iand X0 (n := 74) at_73 rfl ?_
        refine OwnW.i2c X0 (n := 75) at_74 rfl ?_
        refine OwnW.istore X0 (l' := #[.val (.int p0), .val (.int p1), .val (.int p2), .val (.int p3), .val (.int p4), .val (.int p5), .val (.int ((p0 &&& (2147483647 : Int32)) % (13 : Int32))), .val (.int ((p1 &&& (2147483647 : Int32)) % (13 : Int32))), .val (.int (p4 &&& (3 : Int32))), .val (.int (((p4.toUInt32 >>> ((2 : Int32) &&& 31).toUInt32).toInt32) &&& (3 : Int32))), .val (.int ((p2 &&& (255 : Int32)).toUInt32.toUInt16.toUInt32.toInt32)), .val (.int ((((p2.toUInt32 >>> ((8 : Int32) &&& 31).toUInt32).toInt32) &&& (255 : Int32)).toUInt32.toUInt16.toUInt32.toInt32)), .unset, .unset, .unset, .unset, .unset, .unset, .unset, .unset, .unset]) (n := 77) at_75 rfl rfl ?_
        refine OwnW.iloadN X0 (n := 78) at_77 rfl rfl ?_
        refine OwnW.bipush X0 (z := (16 : Int32)) (n := 80) at_78 rfl rfl ?_
        refine OwnW.iushr X0 (n := 81) at_80 rfl ?_
        refine OwnW.sipush X0 (z := (255 : Int32)) (n := 84) at_81 rfl rfl ?_
        refine OwnW.iand X0 (n := 85) at_84 rfl ?_
        refine OwnW.i2c X0 (n := 86) at_85 rfl ?_
        refine OwnW.istore X0 (l' := #[.val (.int p0), .val (.int p1), .val (.int p2), .val (.int p3), .val (.int p4), .val (.int p5), .val (.int ((p0 &&& (2147483647 : Int32)) % (13 : Int32))), .val (.int ((p1 &&& (2147483647 : Int32)) % (13 : Int32))), .val (.int (p4 &&& (3 : Int32))), .val (.int (((p4.toUInt32 >>> ((2 : Int32) &&& 31).toUInt32).toInt32) &&& (3 : Int32))), .val (.int ((p2 &&& (255 : Int32)).toUInt32.toUInt16.toUInt32.toInt32)), .val (.int ((((p2.toUInt32 >>> ((8 : Int32) &&& 31).toUInt32).toInt32) &&& (255 : Int32)).toUInt32.toUInt16.toUInt32.toInt32)), .val (.int ((((p2.toUInt32 >>> ((16 : Int32) &&& 31).toUInt32).toInt32) &&& (255 : Int32)).toUInt32.toUInt16.toUInt32.toInt32)), .unset, .unset, .unset, .unset, .unset, .unset, .unset, .unset]) (n := 88) at_86 rfl rfl ?_
        refine OwnW.iload X0 (n := 90) at_88 rfl rfl ?_
        refine OwnW.bipush X0 (z := (32 : Int32)) (n := 92) at_90 rfl rfl ?_
        refine OwnW.iand X0 (n := 93) at_92 rfl ?_
        refine OwnW.if_eq X0  (n1 := 100) (n2 := 96) at_93 (by decide) rfl rfl (fun hc93 => ?_) (fun hc93 => ?_)
        · refine OwnW.iconst X0 (z := (0 : Int32)) (n := 101) at_100 rfl rfl ?_
          refine OwnW.istore X0 (l' := #[.val (.int p0), .val (.int p1), .val (.int p2), .val (.int p3), .val (.int p4), .val (.int p5), .val (.int ((p0 &&& (2147483647 : Int32)) % (13 : Int32))), .val (.int ((p1 &&& (2147483647 : Int32)) % (13 : Int32))), .val (.int (p4 &&& (3 : Int32))), .val (.int (((p4.toUInt32 >>> ((2 : Int32) &&& 31).toUInt32).toInt32) &&& (3 : Int32))), .val (.int ((p2 &&& (255 : Int32)).toUInt32.toUInt16.toUInt32.toInt32)), .val (.int ((((p2.toUInt32 >>> ((8 : Int32) &&& 31).toUInt32).toInt32) &&& (255 : Int32)).toUInt32.toUInt16.toUInt32.toInt32)), .val (.int ((((p2.toUInt32 >>> ((16 : Int32) &&& 31).toUInt32).toInt32) &&& (255 : Int32)).toUInt32.toUInt16.toUInt32.toInt32)), .val (.int (0 : Int32)), .unset, .unset, .unset, .unset, .unset, .unset, .unset]) (n := 103) at_101 rfl rfl ?_
          refine OwnW.iloadN X0 (n := 104) at_103 rfl rfl ?_
          refine OwnW.iload X0 (n := 106) at_104 rfl rfl ?_
          refine OwnW.ixor X0 (n := 107) at_106 rfl ?_
          refine OwnW.istore X0 (l' := #[.val (.int p0), .val (.int p1), .val (.int p2), .val (.int p3), .val (.int p4), .val (.int p5), .val (.int ((p0 &&& (2147483647 : Int32)) % (13 : Int32))), .val (.int ((p1 &&& (2147483647 : Int32)) % (13 : Int32))), .val (.int (p4 &&& (3 : Int32))), .val (.int (((p4.toUInt32 >>> ((2 : Int32) &&& 31).toUInt32).toInt32) &&& (3 : Int32))), .val (.int ((p2 &&& (255 : Int32)).toUInt32.toUInt16.toUInt32.toInt32)), .val (.int ((((p2.toUInt32 >>> ((8 : Int32) &&& 31).toUInt32).toInt32) &&& (255 : Int32)).toUInt32.toUInt16.toUInt32.toInt32)), .val (.int ((((p2.toUInt32 >>> ((16 : Int32) &&& 31).toUInt32).toInt32) &&& (255 : Int32)).toUInt32.toUInt16.toUInt32.toInt32)), .val (.int (0 : Int32)), .val (.int (p2 ^^^ (0 : Int32))), .unset, .unset, .unset, .unset, .unset, .unset]) (n := 109) at_107 rfl rfl ?_
          refine OwnW.iload X0 (n := 111) at_109 rfl rfl ?_
          refine OwnW.sipush X0 (z := (255 : Int32)) (n := 114) at_111 rfl rfl ?_
          refine OwnW.iand X0 (n := 115) at_114 rfl ?_
          refine OwnW.i2c X0 (n := 116) at_115 rfl ?_
          refine OwnW.istore X0 (l' := #[.val (.int p0), .val (.int p1), .val (.int p2), .val (.int p3), .val (.int p4), .val (.int p5), .val (.int ((p0 &&& (2147483647 : Int32)) % (13 : Int32))), .val (.int ((p1 &&& (2147483647 : Int32)) % (13 : Int32))), .val (.int (p4 &&& (3 : Int32))), .val (.int (((p4.toUInt32 >>> ((2 : Int32) &&& 31).toUInt32).toInt32) &&& (3 : Int32))), .val (.int ((p2 &&& (255 : Int32)).toUInt32.toUInt16.toUInt32.toInt32)), .val (.int ((((p2.toUInt32 >>> ((8 : Int32) &&& 31).toUInt32).toInt32) &&& (255 : Int32)).toUInt32.toUInt16.toUInt32.toInt32)), .val (.int ((((p2.toUInt32 >>> ((16 : Int32) &&& 31).toUInt32).toInt32) &&& (255 : Int32)).toUInt32.toUInt16.toUInt32.toInt32)), .val (.int (0 : Int32)), .val (.int (p2 ^^^ (0 : Int32))), .val (.int (((p2 ^^^ (0 : Int32)) &&& (255 : Int32)).toUInt32.toUInt16.toUInt32.toInt32)), .unset, .unset, .unset, .unset, .unset]) (n := 118) at_116 rfl rfl ?_
          refine OwnW.iload X0 (n := 120) at_118 rfl rfl ?_
          refine OwnW.bipush X0 (z := (8 : Int32)) (n := 122) at_120 rfl rfl ?_
          refine OwnW.iushr X0 (n := 123) at_122 rfl ?_
          refine OwnW.sipush X0 (z := (255 : Int32)) (n := 126) at_123 rfl rfl ?_
          refine OwnW.iand X0 (n := 127) at_126 rfl ?_
          refine OwnW.i2c X0 (n := 128) at_127 rfl ?_
          refine OwnW.istore X0 (l' := #[.val (.int p0), .val (.int p1), .val (.int p2), .val (.int p3), .val (.int p4), .val (.int p5), .val (.int ((p0 &&& (2147483647 : Int32)) % (13 : Int32))), .val (.int ((p1 &&& (2147483647 : Int32)) % (13 : Int32))), .val (.int (p4 &&& (3 : Int32))), .val (.int (((p4.toUInt32 >>> ((2 : Int32) &&& 31).toUInt32).toInt32) &&& (3 : Int32))), .val (.int ((p2 &&& (255 : Int32)).toUInt32.toUInt16.toUInt32.toInt32)), .val (.int ((((p2.toUInt32 >>> ((8 : Int32) &&& 31).toUInt32).toInt32) &&& (255 : Int32)).toUInt32.toUInt16.toUInt32.toInt32)), .val (.int ((((p2.toUInt32 >>> ((16 : Int32) &&& 31).toUInt32).toInt32) &&& (255 : Int32)).toUInt32.toUInt16.toUInt32.toInt32)), .val (.int (0 : Int32)), .val (.int (p2 ^^^ (0 : Int32))), .val (.int (((p2 ^^^ (0 : Int32)) &&& (255 : Int32)).toUInt32.toUInt16.toUInt32.toInt32)), .val (.int (((((p2 ^^^ (0 : Int32)).toUInt32 >>> ((8 : Int32) &&& 31).toUInt32).toInt32) &&& (255 : Int32)).toUInt32.toUInt16.toUInt32.toInt32)), .unset, .unset, .unset, .unset]) (n := 130) at_128 rfl rfl ?_
          refine OwnW.iload X0 (n := 132) at_130 rfl rfl ?_
          refine OwnW.bipush X0 (z := (16 : Int32)) (n := 134) at_132 rfl rfl ?_
          refine OwnW.iushr X0 (n := 135) at_134 rfl ?_
          refine OwnW.sipush X0 (z := (255 : Int32)) (n := 138) at_135 rfl rfl ?_
          refine OwnW.iand X0 (n := 139) at_138 rfl ?_
          refine OwnW.i2c X0 (n := 140) at_139 rfl ?_
          refine OwnW.istore X0 (l' := #[.val (.int p0), .val (.int p1), .val (.int p2), .val (.int p3), .val (.int p4), .val (.int p5), .val (.int ((p0 &&& (2147483647 : Int32)) % (13 : Int32))), .val (.int ((p1 &&& (2147483647 : Int32)) % (13 : Int32))), .val (.int (p4 &&& (3 : Int32))), .val (.int (((p4.toUInt32 >>> ((2 : Int32) &&& 31).toUInt32).toInt32) &&& (3 : Int32))), .val (.int ((p2 &&& (255 : Int32)).toUInt32.toUInt16.toUInt32.toInt32)), .val (.int ((((p2.toUInt32 >>> ((8 : Int32) &&& 31).toUInt32).toInt32) &&& (255 : Int32)).toUInt32.toUInt16.toUInt32.toInt32)), .val (.int ((((p2.toUInt32 >>> ((16 : Int32) &&& 31).toUInt32).toInt32) &&& (255 : Int32)).toUInt32.toUInt16.toUInt32.toInt32)), .val (.int (0 : Int32)), .val (.int (p2 ^^^ (0 : Int32))), .val (.int (((p2 ^^^ (0 : Int32)) &&& (255 : Int32)).toUInt32.toUInt16.toUInt32.toInt32)), .val (.int (((((p2 ^^^ (0 : Int32)).toUInt32 >>> ((8 : Int32) &&& 31).toUInt32).toInt32) &&& (255 : Int32)).toUInt32.toUInt16.toUInt32.toInt32)), .val (.int (((((p2 ^^^ (0 : Int32)).toUInt32 >>> ((16 : Int32) &&& 31).toUInt32).toInt32) &&& (255 : Int32)).toUInt32.toUInt16.toUInt32.toInt32)), .unset, .unset, .unset]) (n := 142) at_140 rfl rfl ?_
          exact J1 _ (((p0 &&& (2147483647 : Int32)) % (13 : Int32)), ((p1 &&& (2147483647 : Int32)) % (13 : Int32)), (p4 &&& (3 : Int32)), (((p4.toUInt32 >>> ((2 : Int32) &&& 31).toUInt32).toInt32) &&& (3 : Int32)), ((p2 &&& (255 : Int32)).toUInt32.toUInt16.toUInt32.toInt32), ((((p2.toUInt32 >>> ((8 : Int32) &&& 31).toUInt32).toInt32) &&& (255 : Int32)).toUInt32.toUInt16.toUInt32.toInt32), ((((p2.toUInt32 >>> ((16 : Int32) &&& 31).toUInt32).toInt32) &&& (255 : Int32)).toUInt32.toUInt16.toUInt32.toInt32), (((p2 ^^^ (0 : Int32)) &&& (255 : Int32)).toUInt32.toUInt16.toUInt32.toInt32), (((((p2 ^^^ (0 : Int32)).toUInt32 >>> ((8 : Int32) &&& 31).toUInt32).toInt32) &&& (255 : Int32)).toUInt32.toUInt16.toUInt32.toInt32), (((((p2 ^^^ (0 : Int32)).toUInt32 >>> ((16 : Int32) &&& 31).toUInt32).toInt32) &&& (255 : Int32)).toUInt32.toUInt16.toUInt32.toInt32), (0 : Int32), (p2 ^^^ (0 : Int32))) X0 ⟨own_cases _, own_cases _, own_c4 _, own_c4 _, own_255 _, own_255 _, own_255 _, own_255 _, own_255 _, own_255 _⟩
        · refine OwnW.iloadN X0 (n := 97) at_96 rfl rfl ?_
          refine OwnW.goto X0 (n := 101) at_97 (by decide) rfl ?_
          refine OwnW.istore X0 (l' := #[.val (.int p0), .val (.int p1), .val (.int p2), .val (.int p3), .val (.int p4), .val (.int p5), .val (.int ((p0 &&& (2147483647 : Int32)) % (13 : Int32))), .val (.int ((p1 &&& (2147483647 : Int32)) % (13 : Int32))), .val (.int (p4 &&& (3 : Int32))), .val (.int (((p4.toUInt32 >>> ((2 : Int32) &&& 31).toUInt32).toInt32) &&& (3 : Int32))), .val (.int ((p2 &&& (255 : Int32)).toUInt32.toUInt16.toUInt32.toInt32)), .val (.int ((((p2.toUInt32 >>> ((8 : Int32) &&& 31).toUInt32).toInt32) &&& (255 : Int32)).toUInt32.toUInt16.toUInt32.toInt32)), .val (.int ((((p2.toUInt32 >>> ((16 : Int32) &&& 31).toUInt32).toInt32) &&& (255 : Int32)).toUInt32.toUInt16.toUInt32.toInt32)), .val (.int p3), .unset, .unset, .unset, .unset, .unset, .unset, .unset]) (n := 103) at_101 rfl rfl ?_
          refine OwnW.iloadN X0 (n := 104) at_103 rfl rfl ?_
          refine OwnW.iload X0 (n := 106) at_104 rfl rfl ?_
          refine OwnW.ixor X0 (n := 107) at_106 rfl ?_
          refine OwnW.istore X0 (l' := #[.val (.int p0), .val (.int p1), .val (.int p2), .val (.int p3), .val (.int p4), .val (.int p5), .val (.int ((p0 &&& (2147483647 : Int32)) % (13 : Int32))), .val (.int ((p1 &&& (2147483647 : Int32)) % (13 : Int32))), .val (.int (p4 &&& (3 : Int32))), .val (.int (((p4.toUInt32 >>> ((2 : Int32) &&& 31).toUInt32).toInt32) &&& (3 : Int32))), .val (.int ((p2 &&& (255 : Int32)).toUInt32.toUInt16.toUInt32.toInt32)), .val (.int ((((p2.toUInt32 >>> ((8 : Int32) &&& 31).toUInt32).toInt32) &&& (255 : Int32)).toUInt32.toUInt16.toUInt32.toInt32)), .val (.int ((((p2.toUInt32 >>> ((16 : Int32) &&& 31).toUInt32).toInt32) &&& (255 : Int32)).toUInt32.toUInt16.toUInt32.toInt32)), .val (.int p3), .val (.int (p2 ^^^ p3)), .unset, .unset, .unset, .unset, .unset, .unset]) (n := 109) at_107 rfl rfl ?_
          refine OwnW.iload X0 (n := 111) at_109 rfl rfl ?_
          refine OwnW.sipush X0 (z := (255 : Int32)) (n := 114) at_111 rfl rfl ?_
          refine OwnW.iand X0 (n := 115) at_114 rfl ?_
          refine OwnW.i2c X0 (n := 116) at_115 rfl ?_
          refine OwnW.istore X0 (l' := #[.val (.int p0), .val (.int p1), .val (.int p2), .val (.int p3), .val (.int p4), .val (.int p5), .val (.int ((p0 &&& (2147483647 : Int32)) % (13 : Int32))), .val (.int ((p1 &&& (2147483647 : Int32)) % (13 : Int32))), .val (.int (p4 &&& (3 : Int32))), .val (.int (((p4.toUInt32 >>> ((2 : Int32) &&& 31).toUInt32).toInt32) &&& (3 : Int32))), .val (.int ((p2 &&& (255 : Int32)).toUInt32.toUInt16.toUInt32.toInt32)), .val (.int ((((p2.toUInt32 >>> ((8 : Int32) &&& 31).toUInt32).toInt32) &&& (255 : Int32)).toUInt32.toUInt16.toUInt32.toInt32)), .val (.int ((((p2.toUInt32 >>> ((16 : Int32) &&& 31).toUInt32).toInt32) &&& (255 : Int32)).toUInt32.toUInt16.toUInt32.toInt32)), .val (.int p3), .val (.int (p2 ^^^ p3)), .val (.int (((p2 ^^^ p3) &&& (255 : Int32)).toUInt32.toUInt16.toUInt32.toInt32)), .unset, .unset, .unset, .unset, .unset]) (n := 118) at_116 rfl rfl ?_
          refine OwnW.iload X0 (n := 120) at_118 rfl rfl ?_
          refine OwnW.bipush X0 (z := (8 : Int32)) (n := 122) at_120 rfl rfl ?_
          refine OwnW.iushr X0 (n := 123) at_122 rfl ?_
          refine OwnW.sipush X0 (z := (255 : Int32)) (n := 126) at_123 rfl rfl ?_
          refine OwnW.iand X0 (n := 127) at_126 rfl ?_
          refine OwnW.i2c X0 (n := 128) at_127 rfl ?_
          refine OwnW.istore X0 (l' := #[.val (.int p0), .val (.int p1), .val (.int p2), .val (.int p3), .val (.int p4), .val (.int p5), .val (.int ((p0 &&& (2147483647 : Int32)) % (13 : Int32))), .val (.int ((p1 &&& (2147483647 : Int32)) % (13 : Int32))), .val (.int (p4 &&& (3 : Int32))), .val (.int (((p4.toUInt32 >>> ((2 : Int32) &&& 31).toUInt32).toInt32) &&& (3 : Int32))), .val (.int ((p2 &&& (255 : Int32)).toUInt32.toUInt16.toUInt32.toInt32)), .val (.int ((((p2.toUInt32 >>> ((8 : Int32) &&& 31).toUInt32).toInt32) &&& (255 : Int32)).toUInt32.toUInt16.toUInt32.toInt32)), .val (.int ((((p2.toUInt32 >>> ((16 : Int32) &&& 31).toUInt32).toInt32) &&& (255 : Int32)).toUInt32.toUInt16.toUInt32.toInt32)), .val (.int p3), .val (.int (p2 ^^^ p3)), .val (.int (((p2 ^^^ p3) &&& (255 : Int32)).toUInt32.toUInt16.toUInt32.toInt32)), .val (.int (((((p2 ^^^ p3).toUInt32 >>> ((8 : Int32) &&& 31).toUInt32).toInt32) &&& (255 : Int32)).toUInt32.toUInt16.toUInt32.toInt32)), .unset, .unset, .unset, .unset]) (n := 130) at_128 rfl rfl ?_
          refine OwnW.iload X0 (n := 132) at_130 rfl rfl ?_
          refine OwnW.bipush X0 (z := (16 : Int32)) (n := 134) at_132 rfl rfl ?_
          refine OwnW.iushr X0 (n := 135) at_134 rfl ?_
          refine OwnW.sipush X0 (z := (255 : Int32)) (n := 138) at_135 rfl rfl ?_
          refine OwnW.iand X0 (n := 139) at_138 rfl ?_
          refine OwnW.i2c X0 (n := 140) at_139 rfl ?_
          refine OwnW.istore X0 (l' := #[.val (.int p0), .val (.int p1), .val (.int p2), .val (.int p3), .val (.int p4), .val (.int p5), .val (.int ((p0 &&& (2147483647 : Int32)) % (13 : Int32))), .val (.int ((p1 &&& (2147483647 : Int32)) % (13 : Int32))), .val (.int (p4 &&& (3 : Int32))), .val (.int (((p4.toUInt32 >>> ((2 : Int32) &&& 31).toUInt32).toInt32) &&& (3 : Int32))), .val (.int ((p2 &&& (255 : Int32)).toUInt32.toUInt16.toUInt32.toInt32)), .val (.int ((((p2.toUInt32 >>> ((8 : Int32) &&& 31).toUInt32).toInt32) &&& (255 : Int32)).toUInt32.toUInt16.toUInt32.toInt32)), .val (.int ((((p2.toUInt32 >>> ((16 : Int32) &&& 31).toUInt32).toInt32) &&& (255 : Int32)).toUInt32.toUInt16.toUInt32.toInt32)), .val (.int p3), .val (.int (p2 ^^^ p3)), .val (.int (((p2 ^^^ p3) &&& (255 : Int32)).toUInt32.toUInt16.toUInt32.toInt32)), .val (.int (((((p2 ^^^ p3).toUInt32 >>> ((8 : Int32) &&& 31).toUInt32).toInt32) &&& (255 : Int32)).toUInt32.toUInt16.toUInt32.toInt32)), .val (.int (((((p2 ^^^ p3).toUInt32 >>> ((16 : Int32) &&& 31).toUInt32).toInt32) &&& (255 : Int32)).toUInt32.toUInt16.toUInt32.toInt32)), .unset, .unset, .unset]) (n := 142) at_140 rfl rfl ?_
          exact J1 _ (((p0 &&& (2147483647 : Int32)) % (13 : Int32)), ((p1 &&& (2147483647 : Int32)) % (13 : Int32)), (p4 &&& (3 : Int32)), (((p4.toUInt32 >>> ((2 : Int32) &&& 31).toUInt32).toInt32) &&& (3 : Int32)), ((p2 &&& (255 : Int32)).toUInt32.toUInt16.toUInt32.toInt32), ((((p2.toUInt32 >>> ((8 : Int32) &&& 31).toUInt32).toInt32) &&& (255 : Int32)).toUInt32.toUInt16.toUInt32.toInt32), ((((p2.toUInt32 >>> ((16 : Int32) &&& 31).toUInt32).toInt32) &&& (255 : Int32)).toUInt32.toUInt16.toUInt32.toInt32), (((p2 ^^^ p3) &&& (255 : Int32)).toUInt32.toUInt16.toUInt32.toInt32), (((((p2 ^^^ p3).toUInt32 >>> ((8 : Int32) &&& 31).toUInt32).toInt32) &&& (255 : Int32)).toUInt32.toUInt16.toUInt32.toInt32), (((((p2 ^^^ p3).toUInt32 >>> ((16 : Int32) &&& 31).toUInt32).toInt32) &&& (255 : Int32)).toUInt32.toUInt16.toUInt32.toInt32), p3, (p2 ^^^ p3)) X0 ⟨own_cases _, own_cases _, own_c4 _, own_c4 _, own_255 _, own_255 _, own_255 _, own_255 _, own_255 _, own_255 _⟩
set_option maxRecDepth 65536 in
set_option maxHeartbeats 40000000 in
theorem comes_1 {Post : Tables → Env → Array Value → State → Outcome → State → Prop} (hpost : ∀ tb e args s v u, (limb_1_1.after args s (.returned v) u = true ∧ limb_1_2.after args s (.returned v) u = true ∧ True) → ReturnedEndW s (.returned v) u (Jvm.fieldLocs frame_1_writes args s ++ Jvm.arrayLocs frame_1_arrays args s ++ Jvm.staticLocs frame_1_statics s) 24 1152 → Post tb e args s (.returned v) u) :
    ArmFor flags0 classFile x code maxLocals ret World_1 tables_1 room_1 Calls_1 rest_1 Pre_1 Post := by
  intro l hfl _ _ p e ha hc hk s m args below hf hA hF happ hP
  obtain ⟨hcalls, hrest, hpre⟩ := hP
  obtain ⟨-, -, -, hnamed, -, -, -, hat⟩ := (Spec.applies_iff hf).mp happ
  obtain ⟨hg, hn⟩ := and_e (Cond.before_iff.mp (show (Jvm.Cond.and given_1 narrow_1).before args s = true from hpre))
  obtain ⟨g0, q1⟩ := and_e hg
  obtain ⟨g1, q2⟩ := and_e q1
  obtain ⟨g2, q3⟩ := and_e q2
  obtain ⟨g3, q4⟩ := and_e q3
  obtain ⟨g4, q5⟩ := and_e q4
  obtain ⟨g5, g6⟩ := and_e q5
  obtain ⟨w0, w1, w2, w3, w4, w5, rfl⟩ : ∃ w0 w1 w2 w3 w4 w5 : Value, args = #[w0, w1, w2, w3, w4, w5] := by
    have hs : args.size = 6 := by simpa [Cond.value, given_1] using g0
    obtain ⟨L⟩ := args
    match L, hs with
    | [w0, w1, w2, w3, w4, w5], _ => exact ⟨w0, w1, w2, w3, w4, w5, rfl⟩
  have hw := fun d (hd : d ∈ tables_1) => atoms_spec (ws := Jvm.Cond.code x code maxLocals ret :: tables_1) hat d (List.mem_cons_of_mem _ hd)
  have hfit : Fit s := fun {y c} hc i hi => by
    obtain ⟨ha, rfl⟩ := Array.getElem?_eq_some_iff.mp hc
    have q := List.all_eq_true.mp ((Array.all_eq_true_iff_forall_mem.mp hF) _ (Array.getElem_mem ha)) i (List.mem_range.mpr hi)
    simpa [Array.getElem?_eq_getElem hi] using q
  obtain ⟨hsets, hown0⟩ := atoms_of _ (rest_1_c_eq ▸ (show rest_1_c.before _ s = true from hrest))
  have wS : ∀ a ∈ Bundle.stringAtoms, a.before _ s = true := fun d hd => hw d ((by decide +kernel : ∀ d ∈ Bundle.stringAtoms, d ∈ tables_1) d hd)
  have hE : EW s _ own_EL := own_EW hw
  have hCH : CHv s own_EL s.vm s.heap := CHv.start hE (own_held hcalls) (hsets _ (List.mem_of_getElem? (i := 2) rfl)) (wS _ (by simp [Bundle.stringAtoms])) (wS _ (by simp [Bundle.stringAtoms, Bundle.sN]))
  obtain ⟨i0, e0⟩ := is_v g1
  obtain rfl : w0 = (.int i0) := Option.some.inj e0
  obtain ⟨i1, e1⟩ := is_v g2
  obtain rfl : w1 = (.int i1) := Option.some.inj e1
  obtain ⟨i2, e2⟩ := is_v g3
  obtain rfl : w2 = (.int i2) := Option.some.inj e2
  obtain ⟨i3, e3⟩ := is_v g4
  obtain rfl : w3 = (.int i3) := Option.some.inj e3
  obtain ⟨i4, e4⟩ := is_v g5
  obtain rfl : w4 = (.int i4) := Option.some.inj e4
  obtain ⟨i5, e5⟩ := is_v g6
  obtain rfl : w5 = (.int i5) := Option.some.inj e5
  obtain ⟨c0, cc0⟩ := and_e hn
  obtain ⟨c1, cc1⟩ := and_e cc0
  obtain ⟨c2, cc2⟩ := and_e cc1
  obtain ⟨c3, cc3⟩ := and_e cc2
  obtain ⟨c4, cc4⟩ := and_e cc3
  obtain ⟨c5, cc5⟩ := and_e cc4
  obtain ⟨c6, cc6⟩ := and_e cc5
  obtain ⟨c7, cc7⟩ := and_e cc6
  obtain ⟨c8, cc8⟩ := and_e cc7
  obtain ⟨c9, cc9⟩ := and_e cc8
  obtain ⟨c10, cc10⟩ := and_e cc9
  obtain ⟨c11, cc11⟩ := and_e cc10
  obtain ⟨c12, cc12⟩ := and_e cc11
  obtain ⟨c13, cc13⟩ := and_e cc12
  obtain ⟨c14, cc14⟩ := and_e cc13
  obtain ⟨c15, cc15⟩ := and_e cc14
  obtain ⟨c16, cc16⟩ := and_e cc15
  obtain ⟨c17, cc17⟩ := and_e cc16
  obtain ⟨c18, cc18⟩ := and_e cc17
  obtain ⟨c19, cc19⟩ := and_e cc18
  obtain ⟨c20, cc20⟩ := and_e cc19
  obtain ⟨c21, cc21⟩ := and_e cc20
  obtain ⟨c22, cc22⟩ := and_e cc21
  obtain ⟨c23, cc23⟩ := and_e cc22
  obtain ⟨c24, c25⟩ := and_e cc23
  obtain ⟨a_LEFT_PAREN, ev_LEFT_PAREN⟩ := exa_v c0
  have S_LEFT_PAREN := Sta.start ev_LEFT_PAREN (Or.inr ⟨(hw _ (List.mem_of_getElem? (i := 9) rfl)), (hw _ (List.mem_of_getElem? (i := 10) rfl))⟩)
  have E_LEFT_PAREN := Exa.start ev_LEFT_PAREN c0
  obtain ⟨a_FLOAT, ev_FLOAT⟩ := exa_v c1
  have S_FLOAT := Sta.start ev_FLOAT (Or.inr ⟨(hw _ (List.mem_of_getElem? (i := 9) rfl)), (hw _ (List.mem_of_getElem? (i := 63) rfl))⟩)
  have E_FLOAT := Exa.start ev_FLOAT c1
  obtain ⟨a_SYMBOL, ev_SYMBOL⟩ := exa_v c2
  have S_SYMBOL := Sta.start ev_SYMBOL (Or.inr ⟨(hw _ (List.mem_of_getElem? (i := 9) rfl)), (hw _ (List.mem_of_getElem? (i := 65) rfl))⟩)
  have E_SYMBOL := Exa.start ev_SYMBOL c2
  obtain ⟨a_WILDCARD, ev_WILDCARD⟩ := exa_v c3
  have S_WILDCARD := Sta.start ev_WILDCARD (Or.inr ⟨(hw _ (List.mem_of_getElem? (i := 9) rfl)), (hw _ (List.mem_of_getElem? (i := 77) rfl))⟩)
  have E_WILDCARD := Exa.start ev_WILDCARD c3
  have ev_SYMBOL_ordinal := OwnW.eqI_v c4
  have F_SYMBOL_ordinal := Fld.start (by rw [← fld_at ev_SYMBOL]; exact ev_SYMBOL_ordinal)
  have ev_WILDCARD_ordinal := OwnW.eqI_v c5
  have F_WILDCARD_ordinal := Fld.start (by rw [← fld_at ev_WILDCARD]; exact ev_WILDCARD_ordinal)
  obtain ⟨a_END, ev_END⟩ := exa_v c6
  have S_END := Sta.start ev_END (Or.inr ⟨(hw _ (List.mem_of_getElem? (i := 9) rfl)), (hw _ (List.mem_of_getElem? (i := 79) rfl))⟩)
  have E_END := Exa.start ev_END c6
  obtain ⟨a_AND, ev_AND⟩ := exa_v c7
  have S_AND := Sta.start ev_AND (Or.inr ⟨(hw _ (List.mem_of_getElem? (i := 9) rfl)), (hw _ (List.mem_of_getElem? (i := 81) rfl))⟩)
  have E_AND := Exa.start ev_AND c7
  have ev_END_ordinal := OwnW.eqI_v c8
  have F_END_ordinal := Fld.start (by rw [← fld_at ev_END]; exact ev_END_ordinal)
  have ev_AND_ordinal := OwnW.eqI_v c9
  have F_AND_ordinal := Fld.start (by rw [← fld_at ev_AND]; exact ev_AND_ordinal)
  obtain ⟨a_MULTIFIELD, ev_MULTIFIELD⟩ := exa_v c10
  have S_MULTIFIELD := Sta.start ev_MULTIFIELD (Or.inr ⟨(hw _ (List.mem_of_getElem? (i := 9) rfl)), (hw _ (List.mem_of_getElem? (i := 83) rfl))⟩)
  have E_MULTIFIELD := Exa.start ev_MULTIFIELD c10
  have ev_MULTIFIELD_ordinal := OwnW.eqI_v c11
  have F_MULTIFIELD_ordinal := Fld.start (by rw [← fld_at ev_MULTIFIELD]; exact ev_MULTIFIELD_ordinal)
  have ev_LEFT_PAREN_ordinal := OwnW.eqI_v c12
  have F_LEFT_PAREN_ordinal := Fld.start (by rw [← fld_at ev_LEFT_PAREN]; exact ev_LEFT_PAREN_ordinal)
  obtain ⟨a_VARIABLE, ev_VARIABLE⟩ := exa_v c13
  have S_VARIABLE := Sta.start ev_VARIABLE (Or.inr ⟨(hw _ (List.mem_of_getElem? (i := 9) rfl)), (hw _ (List.mem_of_getElem? (i := 85) rfl))⟩)
  have E_VARIABLE := Exa.start ev_VARIABLE c13
  obtain ⟨a_NOT, ev_NOT⟩ := exa_v c14
  have S_NOT := Sta.start ev_NOT (Or.inr ⟨(hw _ (List.mem_of_getElem? (i := 9) rfl)), (hw _ (List.mem_of_getElem? (i := 87) rfl))⟩)
  have E_NOT := Exa.start ev_NOT c14
  have ev_NOT_ordinal := OwnW.eqI_v c15
  have F_NOT_ordinal := Fld.start (by rw [← fld_at ev_NOT]; exact ev_NOT_ordinal)
  obtain ⟨a_OR, ev_OR⟩ := exa_v c16
  have S_OR := Sta.start ev_OR (Or.inr ⟨(hw _ (List.mem_of_getElem? (i := 9) rfl)), (hw _ (List.mem_of_getElem? (i := 89) rfl))⟩)
  have E_OR := Exa.start ev_OR c16
  obtain ⟨a_RIGHT_PAREN, ev_RIGHT_PAREN⟩ := exa_v c17
  have S_RIGHT_PAREN := Sta.start ev_RIGHT_PAREN (Or.inr ⟨(hw _ (List.mem_of_getElem? (i := 9) rfl)), (hw _ (List.mem_of_getElem? (i := 91) rfl))⟩)
  have E_RIGHT_PAREN := Exa.start ev_RIGHT_PAREN c17
  have ev_OR_ordinal := OwnW.eqI_v c18
  have F_OR_ordinal := Fld.start (by rw [← fld_at ev_OR]; exact ev_OR_ordinal)
  have ev_RIGHT_PAREN_ordinal := OwnW.eqI_v c19
  have F_RIGHT_PAREN_ordinal := Fld.start (by rw [← fld_at ev_RIGHT_PAREN]; exact ev_RIGHT_PAREN_ordinal)
  obtain ⟨a_STRING, ev_STRING⟩ := exa_v c20
  have S_STRING := Sta.start ev_STRING (Or.inr ⟨(hw _ (List.mem_of_getElem? (i := 9) rfl)), (hw _ (List.mem_of_getElem? (i := 93) rfl))⟩)
  have E_STRING := Exa.start ev_STRING c20
  have ev_STRING_ordinal := OwnW.eqI_v c21
  have F_STRING_ordinal := Fld.start (by rw [← fld_at ev_STRING]; exact ev_STRING_ordinal)
  obtain ⟨a_INTEGER, ev_INTEGER⟩ := exa_v c22
  have S_INTEGER := Sta.start ev_INTEGER (Or.inr ⟨(hw _ (List.mem_of_getElem? (i := 9) rfl)), (hw _ (List.mem_of_getElem? (i := 95) rfl))⟩)
  have E_INTEGER := Exa.start ev_INTEGER c22
  have ev_INTEGER_ordinal := OwnW.eqI_v c23
  have F_INTEGER_ordinal := Fld.start (by rw [← fld_at ev_INTEGER]; exact ev_INTEGER_ordinal)
  have ev_FLOAT_ordinal := OwnW.eqI_v c24
  have F_FLOAT_ordinal := Fld.start (by rw [← fld_at ev_FLOAT]; exact ev_FLOAT_ordinal)
  have ev_VARIABLE_ordinal := OwnW.eqI_v c25
  have F_VARIABLE_ordinal := Fld.start (by rw [← fld_at ev_VARIABLE]; exact ev_VARIABLE_ordinal)
  obtain ⟨zc, ezc⟩ := is_v (Cond.before_iff.mp (hsets _ (List.mem_of_getElem? (i := 1) rfl)))
  have S_compact : Sta s s.heap "java/lang/String" "COMPACT_STRINGS" "Z" (.int zc) := Sta.start ezc (Or.inl (hsets _ (List.mem_of_getElem? (i := 0) rfl)))
  have hzc : ¬ (zc = (0 : Int32)) := gotF (Cond.eq_ints ezc (Term.int_eval (0))) (not_v (Cond.before_iff.mp (hsets _ (List.mem_of_getElem? (i := 2) rfl))))
  obtain ⟨n, o, h1, h2, h3, v, L, rfl, ⟨sfn, ⟨w, rfl, rfl⟩, hsn, N⟩, hcr, hq⟩ := rm0 l s _ hw hE tables_1 i0 i1 i2 i3 i4 i5 s.heap s.heap.size (Old.start s) a_LEFT_PAREN S_LEFT_PAREN E_LEFT_PAREN a_FLOAT S_FLOAT E_FLOAT a_SYMBOL S_SYMBOL E_SYMBOL a_WILDCARD S_WILDCARD E_WILDCARD F_SYMBOL_ordinal F_WILDCARD_ordinal a_END S_END E_END a_AND S_AND E_AND F_END_ordinal F_AND_ordinal a_MULTIFIELD S_MULTIFIELD E_MULTIFIELD F_MULTIFIELD_ordinal F_LEFT_PAREN_ordinal a_VARIABLE S_VARIABLE E_VARIABLE a_NOT S_NOT E_NOT F_NOT_ordinal a_OR S_OR E_OR a_RIGHT_PAREN S_RIGHT_PAREN E_RIGHT_PAREN F_OR_ordinal F_RIGHT_PAREN_ordinal a_STRING S_STRING E_STRING F_STRING_ordinal a_INTEGER S_INTEGER E_INTEGER F_INTEGER_ordinal F_FLOAT_ordinal F_VARIABLE_ordinal zc hzc S_compact p e ha hc hk s m _ below hf ((Spec.applies_iff_loose hf).mp happ).1 ⟨rfl, State.Warmed39.refl s, rfl, hCH, fun x hx => nomatch hx⟩ (fun z => z.elim)
  refine ⟨n, _, h1, h2, h3, hpost _ _ _ _ _ _ ⟨Cond.after_iff.mpr rfl, Cond.after_iff.mpr (eq_i res_at (Term.int_eval (1)) rfl), trivial⟩ ⟨hq.1, hq.2.1, hq.2.2.1, (hq.2.2.2.sift fun y hy => Or.inr (N y hy)).mono (by decide) (by decide)⟩⟩
theorem main_1_1 : Claimed_1_1 := comes_1 fun _ _ _ _ _ _ h hF => ⟨h.1, hF⟩
theorem main_1_2 : Claimed_1_2 := comes_1 fun _ _ _ _ _ _ h hF => ⟨h.2.1, hF⟩
end Jvm.Pilot.@@N@@
namespace Jvm.Pilot.@@N@@
open Jvm Jvm.ClassFile Sem Op Lib Jvm.Free Jvm.Stand Jvm.Pilot.@@N@@.Jvm.D
/-! MADE BY PROGRAM (witnessworld.py) out of the Statement's table words and the real class files: 22 classes; the members and pool entries that the words name. The judged class is class 1, her method 3. -/
namespace start1
open Jvm.ClassFile
def u (s : String) : CpInfo := .utf8 (stringToUtf16 s)
/-- a pool by its gaps: so many unusable entries, then the entry; so many at the end -/
def gap : Nat → List CpInfo → List CpInfo
  | 0, r => r
  | n + 1, r => .unusable :: gap n r
def poolList (es : List (Nat × CpInfo)) (last : Nat) : List CpInfo := es.foldr (fun e r => gap e.1 (e.2 :: r)) (gap last [])
def pool (es : List (Nat × CpInfo)) (last : Nat) : Array CpInfo := ⟨poolList es last⟩
def fileOf (pool : Array CpInfo) (this : Nat) (attrs : Array Attribute := #[]) (ms : Array MethodInfo := #[]) (fl : Nat := 33) (sup : Nat := 0) (ifs : Array Nat := #[]) (fds : Array FieldInfo := #[]) : ClassFile where
  minorVersion := 0
  majorVersion := 65
  constantPool := pool
  accessFlags := fl
  thisClass := this
  superClass := sup
  interfaces := ifs
  fields := fds
  methods := ms
  attributes := attrs
def plain (name : String) (sup : Option ClassId) : Class where
  name := name
  kind := .ordinary
  loader := none
  accessFlags := 33
  super := sup
  interfaces := #[]
  cf := none
  fields := #[]
  methods := #[]
  instanceTypes := #[]
  staticTypes := #[]
  resolved := #[]
  callSites := []
  init := .initialized
  statics := none
  mirror := none

def pool0 : Array CpInfo := pool [(5, u "<init>"), (0, u "()V"), (1, .class_ 10), (1, u "java/lang/Object")] 113

def k0c0 : Code := { maxStack := 0, maxLocals := 1, code := object_method_1_code, exceptionTable := #[], attributes := #[] }
def k0m0 : Method := { name := "<init>", desc := "()V", sig := { parameters := [], returnType := none }, accessFlags := 1, code := some k0c0 }
/-- java/lang/Object -/
def k0 : Class := { plain "java/lang/Object" none with
  accessFlags := 33
  interfaces := #[]
  cf := some (fileOf pool0 8 #[] #[{ accessFlags := 1, nameIndex := 5, descriptorIndex := 6, attributes := #[] }] 33 0 #[] #[])
  fields := #[]
  methods := #[k0m0]
  instanceTypes := #[]
  staticTypes := #[]
  resolved := Array.replicate 124 none
  statics := none }

def pool1 : Array CpInfo := pool [(2, .class_ 4), (1, u "java/lang/Object"), (0, u "<init>"), (0, u "()V"), (0, .fieldref 8 9), (0, .class_ 10), (0, .nameAndType 11 12), (0, u "com/example/selectivity/selectivity/Token$Type"), (0, u "LEFT_PAREN"), (0, u "Lcom/example/selectivity/selectivity/Token$Type;"), (0, .fieldref 8 14), (0, .nameAndType 15 12), (0, u "RIGHT_PAREN"), (0, .fieldref 8 17), (0, .nameAndType 18 12), (0, u "SYMBOL"), (0, .fieldref 8 20), (0, .nameAndType 21 12), (0, u "INTEGER"), (0, .fieldref 8 23), (0, .nameAndType 24 12), (0, u "FLOAT"), (0, .fieldref 8 26), (0, .nameAndType 27 12), (0, u "STRING"), (0, .fieldref 8 29), (0, .nameAndType 30 12), (0, u "VARIABLE"), (0, .fieldref 8 32), (0, .nameAndType 33 12), (0, u "WILDCARD"), (0, .fieldref 8 35), (0, .nameAndType 36 12), (0, u "MULTIFIELD"), (0, .fieldref 8 38), (0, .nameAndType 39 12), (0, u "AND"), (0, .fieldref 8 41), (0, .nameAndType 42 12), (0, u "OR"), (0, .fieldref 8 44), (0, .nameAndType 45 12), (0, u "NOT"), (0, .fieldref 8 47), (0, .nameAndType 48 12), (0, u "END"), (0, .class_ 50), (0, u "java/lang/String"), (0, .methodref 49 52), (0, .nameAndType 5 53), (0, u "([C)V"), (0, .integer 2147483647), (0, .class_ 56), (0, u "com/example/selectivity/selectivity/Token"), (0, .methodref 58 59), (0, .class_ 60), (0, .nameAndType 61 62), (0, u "com/example/selectivity/selectivity/TokenIsPinLaw"), (0, u "type"), (0, u "(I)Lcom/example/selectivity/selectivity/Token$Type;"), (0, .methodref 58 64), (0, .nameAndType 65 66), (0, u "str"), (0, u "(ICCC)Ljava/lang/String;"), (0, .methodref 55 68), (0, .nameAndType 5 69), (0, u "(Lcom/example/selectivity/selectivity/Token$Type;Ljava/lang/String;I)V"), (0, .methodref 55 71), (0, .nameAndType 72 73), (0, u "is"), (0, u "(Lcom/example/selectivity/selectivity/Token$Type;Ljava/lang/String;)Z"), (3, u "law"), (0, u "(IIIIII)Z")] 4

def k1m0 : Method := { name := "<init>", desc := "()V", sig := { parameters := [], returnType := none }, accessFlags := 1, code := none }
def k1c1 : Code := { maxStack := 2, maxLocals := 1, code := method_2_code, exceptionTable := #[], attributes := #[] }
def k1m1 : Method := { name := "type", desc := "(I)Lcom/example/selectivity/selectivity/Token$Type;", sig := { parameters := [.int], returnType := some (.object "com/example/selectivity/selectivity/Token$Type") }, accessFlags := 10, code := some k1c1 }
def k1c2 : Code := { maxStack := 6, maxLocals := 4, code := method_3_code, exceptionTable := #[], attributes := #[] }
def k1m2 : Method := { name := "str", desc := "(ICCC)Ljava/lang/String;", sig := { parameters := [.int, .char, .char, .char], returnType := some (.object "java/lang/String") }, accessFlags := 10, code := some k1c2 }
def k1c3 : Code := { maxStack := 7, maxLocals := 21, code := code, exceptionTable := #[], attributes := #[] }
def k1m3 : Method := { name := "law", desc := "(IIIIII)Z", sig := { parameters := [.int, .int, .int, .int, .int, .int], returnType := some .boolean }, accessFlags := 9, code := some k1c3 }
/-- com/example/selectivity/selectivity/TokenIsPinLaw -/
def k1 : Class := { plain "com/example/selectivity/selectivity/TokenIsPinLaw" (some 0) with
  accessFlags := 49
  interfaces := #[]
  cf := some (fileOf pool1 58 #[] #[{ accessFlags := 1, nameIndex := 5, descriptorIndex := 6, attributes := #[] }, { accessFlags := 10, nameIndex := 61, descriptorIndex := 62, attributes := #[] }, { accessFlags := 10, nameIndex := 65, descriptorIndex := 66, attributes := #[] }, { accessFlags := 9, nameIndex := 77, descriptorIndex := 78, attributes := #[] }] 49 2 #[] #[])
  fields := #[]
  methods := #[k1m0, k1m1, k1m2, k1m3]
  instanceTypes := #[]
  staticTypes := #[]
  resolved := Array.replicate 83 none
  statics := none }

def pool2 : Array CpInfo := pool [(1, .methodref 2 3), (0, .class_ 4), (0, .nameAndType 5 6), (0, u "java/lang/Object"), (0, u "<init>"), (0, u "()V"), (0, .fieldref 8 9), (0, .class_ 10), (0, .nameAndType 11 12), (0, u "com/example/selectivity/selectivity/Token"), (0, u "type"), (0, u "Lcom/example/selectivity/selectivity/Token$Type;"), (0, .fieldref 8 14), (0, .nameAndType 15 16), (0, u "text"), (0, u "Ljava/lang/String;"), (0, .fieldref 8 18), (0, .nameAndType 19 20), (0, u "line"), (0, u "I"), (1, .class_ 24), (1, u "com/example/selectivity/selectivity/Token$Type"), (10, .methodref 36 37), (0, .class_ 38), (0, .nameAndType 39 40), (0, u "java/lang/String"), (0, u "equals"), (0, u "(Ljava/lang/Object;)Z"), (9, u "(Lcom/example/selectivity/selectivity/Token$Type;Ljava/lang/String;I)V"), (8, u "is"), (0, u "(Lcom/example/selectivity/selectivity/Token$Type;Ljava/lang/String;)Z")] 20

def k2c0 : Code := { maxStack := 2, maxLocals := 4, code := prog_32_method_1_code, exceptionTable := #[], attributes := #[] }
def k2m0 : Method := { name := "<init>", desc := "(Lcom/example/selectivity/selectivity/Token$Type;Ljava/lang/String;I)V", sig := { parameters := [(.object "com/example/selectivity/selectivity/Token$Type"), (.object "java/lang/String"), .int], returnType := none }, accessFlags := 0, code := some k2c0 }
def k2c1 : Code := { maxStack := 2, maxLocals := 3, code := prog_32_method_6_code, exceptionTable := #[], attributes := #[] }
def k2m1 : Method := { name := "is", desc := "(Lcom/example/selectivity/selectivity/Token$Type;Ljava/lang/String;)Z", sig := { parameters := [(.object "com/example/selectivity/selectivity/Token$Type"), (.object "java/lang/String")], returnType := some .boolean }, accessFlags := 0, code := some k2c1 }
/-- com/example/selectivity/selectivity/Token -/
def k2 : Class := { plain "com/example/selectivity/selectivity/Token" (some 0) with
  accessFlags := 48
  interfaces := #[]
  cf := some (fileOf pool2 8 #[.nestMembers #[22]] #[{ accessFlags := 0, nameIndex := 5, descriptorIndex := 50, attributes := #[] }, { accessFlags := 0, nameIndex := 59, descriptorIndex := 60, attributes := #[] }] 48 2 #[] #[{ accessFlags := 18, nameIndex := 11, descriptorIndex := 12, attributes := #[] }, { accessFlags := 18, nameIndex := 15, descriptorIndex := 16, attributes := #[] }, { accessFlags := 18, nameIndex := 19, descriptorIndex := 20, attributes := #[] }])
  fields := #[{ name := "type", type := (.object "com/example/selectivity/selectivity/Token$Type"), accessFlags := 18, slot := 0, constantValue := 0 }, { name := "text", type := (.object "java/lang/String"), accessFlags := 18, slot := 1, constantValue := 0 }, { name := "line", type := .int, accessFlags := 18, slot := 2, constantValue := 0 }]
  methods := #[k2m0, k2m1]
  instanceTypes := #[(.object "com/example/selectivity/selectivity/Token$Type"), (.object "java/lang/String"), .int]
  staticTypes := #[]
  resolved := Array.replicate 81 none
  statics := none }

def pool3 : Array CpInfo := pool [(1, .class_ 2), (0, u "java/lang/constant/Constable"), (0, .class_ 4), (0, u "java/lang/Object")] 6

/-- java/lang/constant/Constable -/
def k3 : Class := { plain "java/lang/constant/Constable" (some 0) with
  accessFlags := 1537
  interfaces := #[]
  cf := some (fileOf pool3 1 #[] #[] 1537 3 #[] #[])
  fields := #[]
  methods := #[]
  instanceTypes := #[]
  staticTypes := #[]
  resolved := Array.replicate 11 none
  statics := none }

def pool4 : Array CpInfo := pool [(1, .class_ 2), (0, u "java/lang/Comparable"), (0, .class_ 4), (0, u "java/lang/Object")] 7

/-- java/lang/Comparable -/
def k4 : Class := { plain "java/lang/Comparable" (some 0) with
  accessFlags := 1537
  interfaces := #[]
  cf := some (fileOf pool4 1 #[] #[] 1537 3 #[] #[])
  fields := #[]
  methods := #[]
  instanceTypes := #[]
  staticTypes := #[]
  resolved := Array.replicate 12 none
  statics := none }

def pool5 : Array CpInfo := pool [(1, .class_ 2), (0, u "java/io/Serializable"), (0, .class_ 4), (0, u "java/lang/Object")] 2

/-- java/io/Serializable -/
def k5 : Class := { plain "java/io/Serializable" (some 0) with
  accessFlags := 1537
  interfaces := #[]
  cf := some (fileOf pool5 1 #[] #[] 1537 3 #[] #[])
  fields := #[]
  methods := #[]
  instanceTypes := #[]
  staticTypes := #[]
  resolved := Array.replicate 7 none
  statics := none }

def pool6 : Array CpInfo := pool [(2, .class_ 4), (1, u "java/lang/Enum"), (0, u "name"), (0, u "Ljava/lang/String;"), (2, u "ordinal"), (0, u "I"), (1, .class_ 14), (1, u "java/lang/Object"), (4, u "hash"), (86, .class_ 108), (1, u "java/lang/Enum$EnumDesc"), (2, .class_ 112), (0, u "java/lang/constant/Constable"), (0, .class_ 114), (0, u "java/lang/Comparable"), (0, .class_ 116), (0, u "java/io/Serializable")] 87

/-- java/lang/Enum -/
def k6 : Class := { plain "java/lang/Enum" (some 0) with
  accessFlags := 1057
  interfaces := #[3, 4, 5]
  cf := some (fileOf pool6 2 #[.nestMembers #[106]] #[] 1057 12 #[111, 113, 115] #[{ accessFlags := 18, nameIndex := 5, descriptorIndex := 6, attributes := #[] }, { accessFlags := 18, nameIndex := 9, descriptorIndex := 10, attributes := #[] }, { accessFlags := 2, nameIndex := 19, descriptorIndex := 10, attributes := #[] }])
  fields := #[{ name := "name", type := (.object "java/lang/String"), accessFlags := 18, slot := 0, constantValue := 0 }, { name := "ordinal", type := .int, accessFlags := 18, slot := 1, constantValue := 0 }, { name := "hash", type := .int, accessFlags := 2, slot := 2, constantValue := 0 }]
  methods := #[]
  instanceTypes := #[(.object "java/lang/String"), .int, .int]
  staticTypes := #[]
  resolved := Array.replicate 204 none
  statics := none }

def pool7 : Array CpInfo := pool [(1, .class_ 2), (0, u "com/example/selectivity/selectivity/Token$Type"), (2, u "LEFT_PAREN"), (0, u "Lcom/example/selectivity/selectivity/Token$Type;"), (2, u "RIGHT_PAREN"), (2, u "SYMBOL"), (2, u "INTEGER"), (2, u "FLOAT"), (2, u "STRING"), (2, u "VARIABLE"), (2, u "WILDCARD"), (2, u "MULTIFIELD"), (2, u "AND"), (2, u "OR"), (2, u "NOT"), (2, u "END"), (2, u "$VALUES"), (0, u "[Lcom/example/selectivity/selectivity/Token$Type;"), (6, .class_ 55), (1, u "java/lang/Enum"), (36, .class_ 93), (0, u "com/example/selectivity/selectivity/Token")] 2

/-- com/example/selectivity/selectivity/Token$Type -/
def k7 : Class := { plain "com/example/selectivity/selectivity/Token$Type" (some 6) with
  accessFlags := 16432
  interfaces := #[]
  cf := some (fileOf pool7 1 #[.nestHost 92] #[] 16432 53 #[] #[{ accessFlags := 16409, nameIndex := 5, descriptorIndex := 6, attributes := #[] }, { accessFlags := 16409, nameIndex := 9, descriptorIndex := 6, attributes := #[] }, { accessFlags := 16409, nameIndex := 12, descriptorIndex := 6, attributes := #[] }, { accessFlags := 16409, nameIndex := 15, descriptorIndex := 6, attributes := #[] }, { accessFlags := 16409, nameIndex := 18, descriptorIndex := 6, attributes := #[] }, { accessFlags := 16409, nameIndex := 21, descriptorIndex := 6, attributes := #[] }, { accessFlags := 16409, nameIndex := 24, descriptorIndex := 6, attributes := #[] }, { accessFlags := 16409, nameIndex := 27, descriptorIndex := 6, attributes := #[] }, { accessFlags := 16409, nameIndex := 30, descriptorIndex := 6, attributes := #[] }, { accessFlags := 16409, nameIndex := 33, descriptorIndex := 6, attributes := #[] }, { accessFlags := 16409, nameIndex := 36, descriptorIndex := 6, attributes := #[] }, { accessFlags := 16409, nameIndex := 39, descriptorIndex := 6, attributes := #[] }, { accessFlags := 16409, nameIndex := 42, descriptorIndex := 6, attributes := #[] }, { accessFlags := 4122, nameIndex := 45, descriptorIndex := 46, attributes := #[] }])
  fields := #[{ name := "LEFT_PAREN", type := (.object "com/example/selectivity/selectivity/Token$Type"), accessFlags := 16409, slot := 0, constantValue := 0 }, { name := "RIGHT_PAREN", type := (.object "com/example/selectivity/selectivity/Token$Type"), accessFlags := 16409, slot := 1, constantValue := 0 }, { name := "SYMBOL", type := (.object "com/example/selectivity/selectivity/Token$Type"), accessFlags := 16409, slot := 2, constantValue := 0 }, { name := "INTEGER", type := (.object "com/example/selectivity/selectivity/Token$Type"), accessFlags := 16409, slot := 3, constantValue := 0 }, { name := "FLOAT", type := (.object "com/example/selectivity/selectivity/Token$Type"), accessFlags := 16409, slot := 4, constantValue := 0 }, { name := "STRING", type := (.object "com/example/selectivity/selectivity/Token$Type"), accessFlags := 16409, slot := 5, constantValue := 0 }, { name := "VARIABLE", type := (.object "com/example/selectivity/selectivity/Token$Type"), accessFlags := 16409, slot := 6, constantValue := 0 }, { name := "WILDCARD", type := (.object "com/example/selectivity/selectivity/Token$Type"), accessFlags := 16409, slot := 7, constantValue := 0 }, { name := "MULTIFIELD", type := (.object "com/example/selectivity/selectivity/Token$Type"), accessFlags := 16409, slot := 8, constantValue := 0 }, { name := "AND", type := (.object "com/example/selectivity/selectivity/Token$Type"), accessFlags := 16409, slot := 9, constantValue := 0 }, { name := "OR", type := (.object "com/example/selectivity/selectivity/Token$Type"), accessFlags := 16409, slot := 10, constantValue := 0 }, { name := "NOT", type := (.object "com/example/selectivity/selectivity/Token$Type"), accessFlags := 16409, slot := 11, constantValue := 0 }, { name := "END", type := (.object "com/example/selectivity/selectivity/Token$Type"), accessFlags := 16409, slot := 12, constantValue := 0 }, { name := "$VALUES", type := (.array (.object "com/example/selectivity/selectivity/Token$Type")), accessFlags := 4122, slot := 13, constantValue := 0 }]
  methods := #[]
  instanceTypes := #[(.object "java/lang/String"), .int, .int]
  staticTypes := #[(.object "com/example/selectivity/selectivity/Token$Type"), (.object "com/example/selectivity/selectivity/Token$Type"), (.object "com/example/selectivity/selectivity/Token$Type"), (.object "com/example/selectivity/selectivity/Token$Type"), (.object "com/example/selectivity/selectivity/Token$Type"), (.object "com/example/selectivity/selectivity/Token$Type"), (.object "com/example/selectivity/selectivity/Token$Type"), (.object "com/example/selectivity/selectivity/Token$Type"), (.object "com/example/selectivity/selectivity/Token$Type"), (.object "com/example/selectivity/selectivity/Token$Type"), (.object "com/example/selectivity/selectivity/Token$Type"), (.object "com/example/selectivity/selectivity/Token$Type"), (.object "com/example/selectivity/selectivity/Token$Type"), (.array (.object "com/example/selectivity/selectivity/Token$Type"))]
  resolved := Array.replicate 96 none
  statics := some 0 }

def pool8 : Array CpInfo := pool [(2, .class_ 4), (1, u "java/lang/CharSequence"), (42, .class_ 48), (0, u "java/lang/CharSequence$1CodePointIterator"), (10, .class_ 60), (0, u "java/lang/CharSequence$1CharIterator"), (5, .class_ 67), (0, u "java/lang/Object")] 63

/-- java/lang/CharSequence -/
def k8 : Class := { plain "java/lang/CharSequence" (some 0) with
  accessFlags := 1537
  interfaces := #[]
  cf := some (fileOf pool8 2 #[.nestMembers #[47, 59]] #[] 1537 66 #[] #[])
  fields := #[]
  methods := #[]
  instanceTypes := #[]
  staticTypes := #[]
  resolved := Array.replicate 131 none
  statics := none }

def pool9 : Array CpInfo := pool [(1, .class_ 2), (0, u "java/lang/constant/ConstantDesc"), (0, .class_ 4), (0, u "java/lang/Object")] 32

/-- java/lang/constant/ConstantDesc -/
def k9 : Class := { plain "java/lang/constant/ConstantDesc" (some 0) with
  accessFlags := 1537
  interfaces := #[]
  cf := some (fileOf pool9 1 #[] #[] 1537 3 #[] #[])
  fields := #[]
  methods := #[]
  instanceTypes := #[]
  staticTypes := #[]
  resolved := Array.replicate 37 none
  statics := none }

def pool10 : Array CpInfo := pool [(1, .methodref 2 3), (0, .class_ 4), (0, .nameAndType 5 6), (0, u "java/lang/Object"), (0, u "<init>"), (0, u "()V"), (0, .string 8), (0, u ""), (0, .fieldref 10 11), (0, .class_ 12), (0, .nameAndType 13 14), (0, u "java/lang/String"), (0, u "value"), (0, u "[B"), (0, .fieldref 10 16), (0, .nameAndType 17 18), (0, u "coder"), (0, u "B"), (2, u "hash"), (0, u "I"), (2, u "hashIsZero"), (0, u "Z"), (0, .methodref 10 28), (0, .nameAndType 5 29), (0, u "([CIILjava/lang/Void;)V"), (8, .fieldref 10 39), (0, .nameAndType 40 26), (0, u "COMPACT_STRINGS"), (1, .class_ 44), (1, u "java/lang/StringUTF16"), (0, u "compress"), (1, .methodref 42 48), (0, .nameAndType 49 50), (0, u "coderFromArrayLen"), (0, u "([BI)B"), (56, .class_ 109), (1, u "java/lang/StringLatin1"), (67, .methodref 42 178), (0, .nameAndType 45 179), (0, u "([CII)[B"), (361, .methodref 107 542), (0, .nameAndType 543 544), (0, u "equals"), (0, u "([B[B)Z"), (28, u "(Ljava/lang/Object;)Z"), (1, .class_ 576), (0, u "java/lang/CharSequence"), (22, u "CASE_INSENSITIVE_ORDER"), (0, u "Ljava/util/Comparator;"), (409, u "([C)V"), (90, u "serialPersistentFields"), (0, u "[Ljava/io/ObjectStreamField;"), (0, .class_ 1104), (0, u "java/lang/String$CaseInsensitiveComparator"), (1, .class_ 1107), (0, u "java/io/Serializable"), (0, .class_ 1109), (0, u "java/lang/Comparable"), (0, .class_ 1111), (0, u "java/lang/constant/Constable"), (0, .class_ 1113), (0, u "java/lang/constant/ConstantDesc"), (2, u "serialVersionUID"), (0, u "J"), (3, u "REPL"), (0, u "C"), (2, u "LATIN1"), (1, u "UTF16")] 323

def k10m0 : Method := { name := "<init>", desc := "()V", sig := { parameters := [], returnType := none }, accessFlags := 1, code := none }
def k10c1 : Code := { maxStack := 5, maxLocals := 2, code := jdk_42_method_3_code, exceptionTable := #[], attributes := #[] }
def k10m1 : Method := { name := "<init>", desc := "([C)V", sig := { parameters := [(.array .char)], returnType := none }, accessFlags := 1, code := some k10c1 }
def k10c2 : Code := { maxStack := 2, maxLocals := 3, code := jdk_42_method_66_code, exceptionTable := #[], attributes := #[] }
def k10m2 : Method := { name := "equals", desc := "(Ljava/lang/Object;)Z", sig := { parameters := [(.object "java/lang/Object")], returnType := some .boolean }, accessFlags := 1, code := some k10c2 }
def k10c3 : Code := { maxStack := 4, maxLocals := 6, code := jdk_42_method_149_code, exceptionTable := #[], attributes := #[] }
def k10m3 : Method := { name := "<init>", desc := "([CIILjava/lang/Void;)V", sig := { parameters := [(.array .char), .int, .int, (.object "java/lang/Void")], returnType := none }, accessFlags := 2, code := some k10c3 }
/-- java/lang/String -/
def k10 : Class := { plain "java/lang/String" (some 0) with
  accessFlags := 49
  interfaces := #[5, 4, 8, 3, 9]
  cf := some (fileOf pool10 10 #[.nestMembers #[1103]] #[{ accessFlags := 1, nameIndex := 5, descriptorIndex := 6, attributes := #[] }, { accessFlags := 1, nameIndex := 5, descriptorIndex := 1010, attributes := #[] }, { accessFlags := 1, nameIndex := 543, descriptorIndex := 573, attributes := #[] }, { accessFlags := 2, nameIndex := 5, descriptorIndex := 29, attributes := #[] }] 49 2 #[1106, 1108, 575, 1110, 1112] #[{ accessFlags := 18, nameIndex := 13, descriptorIndex := 14, attributes := #[] }, { accessFlags := 18, nameIndex := 17, descriptorIndex := 18, attributes := #[] }, { accessFlags := 2, nameIndex := 21, descriptorIndex := 22, attributes := #[] }, { accessFlags := 2, nameIndex := 25, descriptorIndex := 26, attributes := #[] }, { accessFlags := 26, nameIndex := 1116, descriptorIndex := 1117, attributes := #[] }, { accessFlags := 24, nameIndex := 40, descriptorIndex := 26, attributes := #[] }, { accessFlags := 26, nameIndex := 1101, descriptorIndex := 1102, attributes := #[] }, { accessFlags := 26, nameIndex := 1121, descriptorIndex := 1122, attributes := #[] }, { accessFlags := 25, nameIndex := 599, descriptorIndex := 600, attributes := #[] }, { accessFlags := 24, nameIndex := 1125, descriptorIndex := 18, attributes := #[] }, { accessFlags := 24, nameIndex := 1127, descriptorIndex := 18, attributes := #[] }])
  fields := #[{ name := "value", type := (.array .byte), accessFlags := 18, slot := 0, constantValue := 0 }, { name := "coder", type := .byte, accessFlags := 18, slot := 1, constantValue := 0 }, { name := "hash", type := .int, accessFlags := 2, slot := 2, constantValue := 0 }, { name := "hashIsZero", type := .boolean, accessFlags := 2, slot := 3, constantValue := 0 }, { name := "serialVersionUID", type := .long, accessFlags := 26, slot := 0, constantValue := 0 }, { name := "COMPACT_STRINGS", type := .boolean, accessFlags := 24, slot := 1, constantValue := 0 }, { name := "serialPersistentFields", type := (.array (.object "java/io/ObjectStreamField")), accessFlags := 26, slot := 2, constantValue := 0 }, { name := "REPL", type := .char, accessFlags := 26, slot := 3, constantValue := 0 }, { name := "CASE_INSENSITIVE_ORDER", type := (.object "java/util/Comparator"), accessFlags := 25, slot := 4, constantValue := 0 }, { name := "LATIN1", type := .byte, accessFlags := 24, slot := 5, constantValue := 0 }, { name := "UTF16", type := .byte, accessFlags := 24, slot := 6, constantValue := 0 }]
  methods := #[k10m0, k10m1, k10m2, k10m3]
  instanceTypes := #[(.array .byte), .byte, .int, .boolean]
  staticTypes := #[.long, .boolean, (.array (.object "java/io/ObjectStreamField")), .char, (.object "java/util/Comparator"), .byte, .byte]
  resolved := Array.replicate 1451 none
  statics := some 1 }

def pool11 : Array CpInfo := pool [(4, .class_ 6), (1, u "java/lang/Object"), (0, u "<init>"), (0, u "()V"), (5, .class_ 16), (1, u "java/lang/StringLatin1"), (104, u "$assertionsDisabled"), (0, u "Z"), (98, .class_ 223), (1, u "java/lang/StringLatin1$LinesSpliterator"), (57, u "equals"), (0, u "([B[B)Z"), (107, .class_ 391), (0, u "java/lang/StringLatin1$CharsSpliterator")] 3

def k11m0 : Method := { name := "<init>", desc := "()V", sig := { parameters := [], returnType := none }, accessFlags := 0, code := none }
def k11c1 : Code := { maxStack := 3, maxLocals := 3, code := jdk_43_method_13_code, exceptionTable := #[], attributes := #[] }
def k11m1 : Method := { name := "equals", desc := "([B[B)Z", sig := { parameters := [(.array .byte), (.array .byte)], returnType := some .boolean }, accessFlags := 9, code := some k11c1 }
/-- java/lang/StringLatin1 -/
def k11 : Class := { plain "java/lang/StringLatin1" (some 0) with
  accessFlags := 48
  interfaces := #[]
  cf := some (fileOf pool11 14 #[.nestMembers #[390, 221]] #[{ accessFlags := 0, nameIndex := 7, descriptorIndex := 8, attributes := #[] }, { accessFlags := 9, nameIndex := 281, descriptorIndex := 282, attributes := #[] }] 48 4 #[] #[{ accessFlags := 4120, nameIndex := 121, descriptorIndex := 122, attributes := #[] }])
  fields := #[{ name := "$assertionsDisabled", type := .boolean, accessFlags := 4120, slot := 0, constantValue := 0 }]
  methods := #[k11m0, k11m1]
  instanceTypes := #[]
  staticTypes := #[.boolean]
  resolved := Array.replicate 395 none
  statics := none }

def pool12 : Array CpInfo := pool [(6, .class_ 8), (1, u "java/lang/Object"), (0, u "<init>"), (0, u "()V"), (1, .class_ 14), (1, u "java/lang/StringUTF16"), (31, u "$assertionsDisabled"), (0, u "Z"), (13, u "HI_BYTE_SHIFT"), (0, u "I"), (2, u "LO_BYTE_SHIFT"), (49, .methodref 12 116), (0, .nameAndType 117 118), (0, u "compress"), (0, u "([CI[BII)I"), (3, u "([CII)[B"), (138, u "coderFromArrayLen"), (0, u "([BI)B"), (106, .class_ 371), (1, u "java/lang/StringUTF16$LinesSpliterator"), (58, u "MAX_LENGTH"), (196, .class_ 628), (0, u "java/lang/StringUTF16$CodePointsSpliterator"), (0, .class_ 630), (0, u "java/lang/StringUTF16$CharsSpliterator")] 4

def k12m0 : Method := { name := "<init>", desc := "()V", sig := { parameters := [], returnType := none }, accessFlags := 0, code := none }
def k12c1 : Code := { maxStack := 2, maxLocals := 2, code := jdk_52_method_15_code, exceptionTable := #[], attributes := #[] }
def k12m1 : Method := { name := "coderFromArrayLen", desc := "([BI)B", sig := { parameters := [(.array .byte), .int], returnType := some .byte }, accessFlags := 8, code := some k12c1 }
def k12c2 : Code := { maxStack := 5, maxLocals := 6, code := jdk_52_method_16_code, exceptionTable := #[], attributes := #[] }
def k12m2 : Method := { name := "compress", desc := "([CII)[B", sig := { parameters := [(.array .char), .int, .int], returnType := some (.array .byte) }, accessFlags := 9, code := some k12c2 }
def k12c3 : Code := { maxStack := 3, maxLocals := 7, code := jdk_52_method_21_code, exceptionTable := #[], attributes := #[] }
def k12m3 : Method := { name := "compress", desc := "([CI[BII)I", sig := { parameters := [(.array .char), .int, (.array .byte), .int, .int], returnType := some .int }, accessFlags := 9, code := some k12c3 }
/-- java/lang/StringUTF16 -/
def k12 : Class := { plain "java/lang/StringUTF16" (some 0) with
  accessFlags := 48
  interfaces := #[]
  cf := some (fileOf pool12 12 #[.nestMembers #[627, 629, 369]] #[{ accessFlags := 0, nameIndex := 9, descriptorIndex := 10, attributes := #[] }, { accessFlags := 8, nameIndex := 261, descriptorIndex := 262, attributes := #[] }, { accessFlags := 9, nameIndex := 117, descriptorIndex := 122, attributes := #[] }, { accessFlags := 9, nameIndex := 117, descriptorIndex := 118, attributes := #[] }] 48 6 #[] #[{ accessFlags := 26, nameIndex := 61, descriptorIndex := 62, attributes := #[] }, { accessFlags := 26, nameIndex := 65, descriptorIndex := 62, attributes := #[] }, { accessFlags := 24, nameIndex := 430, descriptorIndex := 62, attributes := #[] }, { accessFlags := 4120, nameIndex := 46, descriptorIndex := 47, attributes := #[] }])
  fields := #[{ name := "HI_BYTE_SHIFT", type := .int, accessFlags := 26, slot := 0, constantValue := 0 }, { name := "LO_BYTE_SHIFT", type := .int, accessFlags := 26, slot := 1, constantValue := 0 }, { name := "MAX_LENGTH", type := .int, accessFlags := 24, slot := 2, constantValue := 0 }, { name := "$assertionsDisabled", type := .boolean, accessFlags := 4120, slot := 3, constantValue := 0 }]
  methods := #[k12m0, k12m1, k12m2, k12m3]
  instanceTypes := #[]
  staticTypes := #[.int, .int, .int, .boolean]
  resolved := Array.replicate 635 none
  statics := none }

def pool13 : Array CpInfo := pool [(2, .class_ 4), (1, u "java/lang/Object"), (0, u "<init>"), (0, u "()V"), (17, .class_ 26), (1, u "jdk/internal/util/Preconditions"), (28, .class_ 56), (0, u "jdk/internal/util/Preconditions$4"), (57, .class_ 115), (0, u "jdk/internal/util/Preconditions$1"), (7, u "SIOOBE_FORMATTER"), (0, u "Ljava/util/function/BiFunction;"), (0, .class_ 126), (0, u "jdk/internal/util/Preconditions$2"), (3, u "AIOOBE_FORMATTER"), (0, .class_ 132), (0, u "jdk/internal/util/Preconditions$3"), (3, u "IOOBE_FORMATTER")] 57

def k13m0 : Method := { name := "<init>", desc := "()V", sig := { parameters := [], returnType := none }, accessFlags := 1, code := none }
/-- jdk/internal/util/Preconditions -/
def k13 : Class := { plain "jdk/internal/util/Preconditions" (some 0) with
  accessFlags := 33
  interfaces := #[]
  cf := some (fileOf pool13 24 #[.nestMembers #[55, 131, 125, 114]] #[{ accessFlags := 1, nameIndex := 5, descriptorIndex := 6, attributes := #[] }] 33 2 #[] #[{ accessFlags := 25, nameIndex := 123, descriptorIndex := 124, attributes := #[] }, { accessFlags := 25, nameIndex := 130, descriptorIndex := 124, attributes := #[] }, { accessFlags := 25, nameIndex := 136, descriptorIndex := 124, attributes := #[] }])
  fields := #[{ name := "SIOOBE_FORMATTER", type := (.object "java/util/function/BiFunction"), accessFlags := 25, slot := 0, constantValue := 0 }, { name := "AIOOBE_FORMATTER", type := (.object "java/util/function/BiFunction"), accessFlags := 25, slot := 1, constantValue := 0 }, { name := "IOOBE_FORMATTER", type := (.object "java/util/function/BiFunction"), accessFlags := 25, slot := 2, constantValue := 0 }]
  methods := #[k13m0]
  instanceTypes := #[]
  staticTypes := #[(.object "java/util/function/BiFunction"), (.object "java/util/function/BiFunction"), (.object "java/util/function/BiFunction")]
  resolved := Array.replicate 194 none
  statics := some 2 }

def pool14 : Array CpInfo := pool [(9, u "<init>"), (6, .class_ 18), (1, u "java/lang/Object"), (0, u "()V"), (1, .class_ 23), (1, u "jdk/internal/util/ArraysSupport"), (0, u "LOG2_ARRAY_LONG_INDEX_SCALE"), (0, u "I"), (2, u "U"), (0, u "Ljdk/internal/misc/Unsafe;"), (8, u "BIG_ENDIAN"), (0, u "Z"), (8, u "LOG2_BYTE_BIT_SIZE"), (4, u "LOG2_ARRAY_INT_INDEX_SCALE"), (54, u "JLA"), (0, u "Ljdk/internal/access/JavaLangAccess;"), (11, u "LOG2_ARRAY_BOOLEAN_INDEX_SCALE"), (9, u "LOG2_ARRAY_BYTE_INDEX_SCALE"), (5, u "LOG2_ARRAY_CHAR_INDEX_SCALE"), (5, u "LOG2_ARRAY_SHORT_INDEX_SCALE"), (18, u "LOG2_ARRAY_FLOAT_INDEX_SCALE"), (24, u "LOG2_ARRAY_DOUBLE_INDEX_SCALE"), (89, u "T_BOOLEAN"), (2, u "T_CHAR"), (1, u "T_FLOAT"), (1, u "T_DOUBLE"), (1, u "T_BYTE"), (1, u "T_SHORT"), (1, u "T_INT"), (1, u "T_LONG"), (1, u "SOFT_MAX_ARRAY_LENGTH")] 83

def k14m0 : Method := { name := "<init>", desc := "()V", sig := { parameters := [], returnType := none }, accessFlags := 2, code := none }
/-- jdk/internal/util/ArraysSupport -/
def k14 : Class := { plain "jdk/internal/util/ArraysSupport" (some 0) with
  accessFlags := 33
  interfaces := #[]
  cf := some (fileOf pool14 21 #[] #[{ accessFlags := 2, nameIndex := 9, descriptorIndex := 19, attributes := #[] }] 33 16 #[] #[{ accessFlags := 24, nameIndex := 28, descriptorIndex := 29, attributes := #[] }, { accessFlags := 26, nameIndex := 38, descriptorIndex := 39, attributes := #[] }, { accessFlags := 25, nameIndex := 121, descriptorIndex := 25, attributes := #[] }, { accessFlags := 25, nameIndex := 131, descriptorIndex := 25, attributes := #[] }, { accessFlags := 25, nameIndex := 137, descriptorIndex := 25, attributes := #[] }, { accessFlags := 25, nameIndex := 143, descriptorIndex := 25, attributes := #[] }, { accessFlags := 25, nameIndex := 53, descriptorIndex := 25, attributes := #[] }, { accessFlags := 25, nameIndex := 24, descriptorIndex := 25, attributes := #[] }, { accessFlags := 25, nameIndex := 162, descriptorIndex := 25, attributes := #[] }, { accessFlags := 25, nameIndex := 187, descriptorIndex := 25, attributes := #[] }, { accessFlags := 26, nameIndex := 48, descriptorIndex := 25, attributes := #[] }, { accessFlags := 25, nameIndex := 277, descriptorIndex := 25, attributes := #[] }, { accessFlags := 25, nameIndex := 280, descriptorIndex := 25, attributes := #[] }, { accessFlags := 25, nameIndex := 282, descriptorIndex := 25, attributes := #[] }, { accessFlags := 25, nameIndex := 284, descriptorIndex := 25, attributes := #[] }, { accessFlags := 25, nameIndex := 286, descriptorIndex := 25, attributes := #[] }, { accessFlags := 25, nameIndex := 288, descriptorIndex := 25, attributes := #[] }, { accessFlags := 25, nameIndex := 290, descriptorIndex := 25, attributes := #[] }, { accessFlags := 25, nameIndex := 292, descriptorIndex := 25, attributes := #[] }, { accessFlags := 26, nameIndex := 108, descriptorIndex := 109, attributes := #[] }, { accessFlags := 25, nameIndex := 294, descriptorIndex := 25, attributes := #[] }])
  fields := #[{ name := "U", type := (.object "jdk/internal/misc/Unsafe"), accessFlags := 24, slot := 0, constantValue := 0 }, { name := "BIG_ENDIAN", type := .boolean, accessFlags := 26, slot := 1, constantValue := 0 }, { name := "LOG2_ARRAY_BOOLEAN_INDEX_SCALE", type := .int, accessFlags := 25, slot := 2, constantValue := 0 }, { name := "LOG2_ARRAY_BYTE_INDEX_SCALE", type := .int, accessFlags := 25, slot := 3, constantValue := 0 }, { name := "LOG2_ARRAY_CHAR_INDEX_SCALE", type := .int, accessFlags := 25, slot := 4, constantValue := 0 }, { name := "LOG2_ARRAY_SHORT_INDEX_SCALE", type := .int, accessFlags := 25, slot := 5, constantValue := 0 }, { name := "LOG2_ARRAY_INT_INDEX_SCALE", type := .int, accessFlags := 25, slot := 6, constantValue := 0 }, { name := "LOG2_ARRAY_LONG_INDEX_SCALE", type := .int, accessFlags := 25, slot := 7, constantValue := 0 }, { name := "LOG2_ARRAY_FLOAT_INDEX_SCALE", type := .int, accessFlags := 25, slot := 8, constantValue := 0 }, { name := "LOG2_ARRAY_DOUBLE_INDEX_SCALE", type := .int, accessFlags := 25, slot := 9, constantValue := 0 }, { name := "LOG2_BYTE_BIT_SIZE", type := .int, accessFlags := 26, slot := 10, constantValue := 0 }, { name := "T_BOOLEAN", type := .int, accessFlags := 25, slot := 11, constantValue := 0 }, { name := "T_CHAR", type := .int, accessFlags := 25, slot := 12, constantValue := 0 }, { name := "T_FLOAT", type := .int, accessFlags := 25, slot := 13, constantValue := 0 }, { name := "T_DOUBLE", type := .int, accessFlags := 25, slot := 14, constantValue := 0 }, { name := "T_BYTE", type := .int, accessFlags := 25, slot := 15, constantValue := 0 }, { name := "T_SHORT", type := .int, accessFlags := 25, slot := 16, constantValue := 0 }, { name := "T_INT", type := .int, accessFlags := 25, slot := 17, constantValue := 0 }, { name := "T_LONG", type := .int, accessFlags := 25, slot := 18, constantValue := 0 }, { name := "JLA", type := (.object "jdk/internal/access/JavaLangAccess"), accessFlags := 26, slot := 19, constantValue := 0 }, { name := "SOFT_MAX_ARRAY_LENGTH", type := .int, accessFlags := 25, slot := 20, constantValue := 0 }]
  methods := #[k14m0]
  instanceTypes := #[]
  staticTypes := #[(.object "jdk/internal/misc/Unsafe"), .boolean, .int, .int, .int, .int, .int, .int, .int, .int, .int, .int, .int, .int, .int, .int, .int, .int, .int, (.object "jdk/internal/access/JavaLangAccess"), .int]
  resolved := Array.replicate 378 none
  statics := none }

def pool15 : Array CpInfo := pool [(1, u "java/lang/Cloneable"), (0, .class_ 1), (0, u "java/lang/Object"), (0, .class_ 3)] 3

/-- java/lang/Cloneable -/
def k15 : Class := { plain "java/lang/Cloneable" (some 0) with
  accessFlags := 1537
  interfaces := #[]
  cf := some (fileOf pool15 2 #[] #[] 1537 4 #[] #[])
  fields := #[]
  methods := #[]
  instanceTypes := #[]
  staticTypes := #[]
  resolved := Array.replicate 8 none
  statics := none }

/-- the primitive byte -/
def k16 : Class := { plain "byte" none with kind := .primitive 'B', accessFlags := 0x411 }
/-- [B -/
def k17 : Class := { plain "[B" (some 0) with kind := .array 16 .byte, interfaces := #[15, 5], accessFlags := 1041 }

/-- the primitive char -/
def k18 : Class := { plain "char" none with kind := .primitive 'C', accessFlags := 0x411 }
/-- [C -/
def k19 : Class := { plain "[C" (some 0) with kind := .array 18 .char, interfaces := #[15, 5], accessFlags := 1041 }

/-- the primitive int -/
def k20 : Class := { plain "int" none with kind := .primitive 'I', accessFlags := 0x411 }
/-- [I -/
def k21 : Class := { plain "[I" (some 0) with kind := .array 20 .int, interfaces := #[15, 5], accessFlags := 1041 }

def heap : Heap := #[{ cls := 7, slots := #[.ref 3, .ref 13, .ref 5, .ref 15, .ref 4, .ref 14, .ref 10, .ref 6, .ref 9, .ref 8, .ref 12, .ref 11, .ref 7, .null], vm := .statics 7 },
  { cls := 10, slots := #[.long 0, .int 1, .null, .int 0, .null, .int 0, .int 0], vm := .statics 10 },
  { cls := 13, slots := #[.null, .null, .null], vm := .statics 13 },
  { cls := 7, slots := #[.null, .int 0, .int 0], vm := .none },
  { cls := 7, slots := #[.null, .int 4, .int 0], vm := .none },
  { cls := 7, slots := #[.null, .int 2, .int 0], vm := .none },
  { cls := 7, slots := #[.null, .int 7, .int 0], vm := .none },
  { cls := 7, slots := #[.null, .int 12, .int 0], vm := .none },
  { cls := 7, slots := #[.null, .int 9, .int 0], vm := .none },
  { cls := 7, slots := #[.null, .int 8, .int 0], vm := .none },
  { cls := 7, slots := #[.null, .int 6, .int 0], vm := .none },
  { cls := 7, slots := #[.null, .int 11, .int 0], vm := .none },
  { cls := 7, slots := #[.null, .int 10, .int 0], vm := .none },
  { cls := 7, slots := #[.null, .int 1, .int 0], vm := .none },
  { cls := 7, slots := #[.null, .int 5, .int 0], vm := .none },
  { cls := 7, slots := #[.null, .int 3, .int 0], vm := .none }]
def classes : Array Class := #[k0, k1, k2, k3, k4, k5, k6, k7, k8, k9, k10, k11, k12, k13, k14, k15, k16, k17, k18, k19, k20, k21]
def interned : List (Array UInt16 × Addr) := []
def slotsUsed : Nat := 63
def theMethod : MethodId := ⟨1, 3⟩
def args0 : Array Value := #[.int 5, .int 1, .int 2, .int 3, .int 4, .int 7]
def aboutOver (below : List Frame) : State where
  vm := { classes := classes, interned := interned.toArray }
  heap := heap
  slotsUsed := slotsUsed
  threads := #[{ frames := .invoking theMethod args0 :: below }]
def below0 : List Frame := [.native { method := ⟨0, 0⟩, args := #[] }]
def about1 : State := aboutOver below0
def p0 : Program := .bare "" "" ""
def e0 : Env := launch0.env 0 0 0
theorem w_frames : about1.frames = Frame.invoking theMethod args0 :: below0 := rfl
set_option maxRecDepth 65536 in
theorem w_args : argsFit about1.vm theMethod args0 = true := by decide +kernel
set_option maxRecDepth 65536 in
theorem w_heap : heapFits about1 = true := by decide +kernel
set_option maxRecDepth 65536 in
theorem w_runnable : about1.curStatus? = some .runnable := by decide +kernel
set_option maxRecDepth 65536 in
theorem w_alone : about1.alone = true := by decide +kernel
set_option maxRecDepth 65536 in
theorem w_named : about1.methodNamed? x = some theMethod := by decide +kernel
set_option maxRecDepth 65536 in
theorem w_hears : about1.hears theMethod below0 = true := by decide +kernel
set_option maxRecDepth 65536 in
theorem w_ripe : about1.ripe theMethod args0 below0 = true := by decide +kernel
theorem w_running : about1.status = .running := rfl
set_option maxRecDepth 65536 in
theorem w_room : about1.hasRoom e0.platform room_1 = true :=
  launch0.hasRoom_least _ room_1 (by decide +kernel) (by decide +kernel) (by decide +kernel) (by decide +kernel) (by decide +kernel) (by decide +kernel)
theorem allAtoms_all (ts : List Jvm.Cond) (a : Array Jvm.Value) (st : Jvm.State) : (allAtoms ts).before a st = ts.all (fun c => c.before a st) := by
  induction ts with
  | nil => rfl
  | cons c t ih =>
    show (Jvm.Cond.and c (allAtoms t)).before a st = _
    rw [Jvm.Cond.before_and, ih, List.all_cons]
def words1 : List Jvm.Cond := Jvm.Cond.code x code maxLocals ret :: tables_1
/-- a 'code' word, met by the world's own term for the bytes: nothing is compared byte by byte -/
theorem code_word {y : MethodName} {bytes : ByteArray} {mx : Nat} {rt : Option FieldType} {a : Array Value} {s : State} {m : MethodId} {meth : Method} {c : Code} (h1 : s.methodNamed? y = some m) (h2 : s.vm.method? m = some meth) (h3 : meth.code = some c) (h4 : c.code = bytes)
    (h5 : (c.maxLocals == mx && c.exceptionTable.isEmpty && decide (c.maxStack ≤ mostOperands) && decide (meth.sig.returnType = rt) && !meth.locks && decide (parseMethodDescriptor y.desc = some meth.sig)) = true) : (Jvm.Cond.code y bytes mx rt).before a s = true := by
  simp only [Bool.and_eq_true, beq_iff_eq, Bool.not_eq_true', decide_eq_true_eq] at h5
  obtain ⟨⟨⟨⟨⟨g1, g2⟩, g3⟩, g4⟩, g5⟩, g6⟩ := h5
  simp [Cond.before, Cond.holds, Cond.value, h1, h2, h3, h4, g1, g2, g3, g4, g5, g6]
def isCode : Jvm.Cond → Bool
  | .code _ _ _ _ => true
  | _ => false
theorem all_split {L : List Jvm.Cond} {P : Jvm.Cond → Bool} (h1 : L.all (fun c => isCode c || P c) = true) (h2 : ∀ c ∈ L.filter isCode, P c = true) : L.all P = true := by
  refine List.all_eq_true.mpr fun c hc => ?_
  have h := List.all_eq_true.mp h1 c hc
  rcases Bool.eq_false_or_eq_true (isCode c) with hi | hi
  · exact h2 c (List.mem_filter.mpr ⟨hc, hi⟩)
  · simpa [hi] using h
set_option maxRecDepth 65536 in
theorem w_c0 : (Jvm.Cond.code x code maxLocals ret).before args0 about1 = true := code_word (m := ⟨1, 3⟩) (meth := k1m3) (c := k1c3) (by decide +kernel) rfl rfl rfl (by decide +kernel)
set_option maxRecDepth 65536 in
theorem w_c1 : (Jvm.Cond.code ({ cls := "com/example/selectivity/selectivity/TokenIsPinLaw", name := "type", desc := "(I)Lcom/example/selectivity/selectivity/Token$Type;" } : Jvm.MethodName) method_2_code (1 : Nat) (Option.some (Jvm.ClassFile.FieldType.object "com/example/selectivity/selectivity/Token$Type"))).before args0 about1 = true := code_word (m := ⟨1, 1⟩) (meth := k1m1) (c := k1c1) (by decide +kernel) rfl rfl rfl (by decide +kernel)
set_option maxRecDepth 65536 in
theorem w_c2 : (Jvm.Cond.code ({ cls := "com/example/selectivity/selectivity/TokenIsPinLaw", name := "str", desc := "(ICCC)Ljava/lang/String;" } : Jvm.MethodName) method_3_code (4 : Nat) (Option.some (Jvm.ClassFile.FieldType.object "java/lang/String"))).before args0 about1 = true := code_word (m := ⟨1, 2⟩) (meth := k1m2) (c := k1c2) (by decide +kernel) rfl rfl rfl (by decide +kernel)
set_option maxRecDepth 65536 in
theorem w_c3 : (Jvm.Cond.code ({ cls := "java/lang/String", name := "<init>", desc := "([C)V" } : Jvm.MethodName) jdk_42_method_3_code (2 : Nat) (Option.none : Option Jvm.ClassFile.FieldType)).before args0 about1 = true := code_word (m := ⟨10, 1⟩) (meth := k10m1) (c := k10c1) (by decide +kernel) rfl rfl rfl (by decide +kernel)
set_option maxRecDepth 65536 in
theorem w_c4 : (Jvm.Cond.code ({ cls := "java/lang/String", name := "<init>", desc := "([CIILjava/lang/Void;)V" } : Jvm.MethodName) jdk_42_method_149_code (6 : Nat) (Option.none : Option Jvm.ClassFile.FieldType)).before args0 about1 = true := code_word (m := ⟨10, 3⟩) (meth := k10m3) (c := k10c3) (by decide +kernel) rfl rfl rfl (by decide +kernel)
set_option maxRecDepth 65536 in
theorem w_c5 : (Jvm.Cond.code ({ cls := "java/lang/Object", name := "<init>", desc := "()V" } : Jvm.MethodName) object_method_1_code (1 : Nat) (Option.none : Option Jvm.ClassFile.FieldType)).before args0 about1 = true := code_word (m := ⟨0, 0⟩) (meth := k0m0) (c := k0c0) (by decide +kernel) rfl rfl rfl (by decide +kernel)
set_option maxRecDepth 65536 in
theorem w_c6 : (Jvm.Cond.code ({ cls := "com/example/selectivity/selectivity/Token", name := "<init>", desc := "(Lcom/example/selectivity/selectivity/Token$Type;Ljava/lang/String;I)V" } : Jvm.MethodName) prog_32_method_1_code (4 : Nat) (Option.none : Option Jvm.ClassFile.FieldType)).before args0 about1 = true := code_word (m := ⟨2, 0⟩) (meth := k2m0) (c := k2c0) (by decide +kernel) rfl rfl rfl (by decide +kernel)
set_option maxRecDepth 65536 in
theorem w_c7 : (Jvm.Cond.code ({ cls := "com/example/selectivity/selectivity/Token", name := "is", desc := "(Lcom/example/selectivity/selectivity/Token$Type;Ljava/lang/String;)Z" } : Jvm.MethodName) prog_32_method_6_code (3 : Nat) (Option.some Jvm.ClassFile.FieldType.boolean)).before args0 about1 = true := code_word (m := ⟨2, 1⟩) (meth := k2m1) (c := k2c1) (by decide +kernel) rfl rfl rfl (by decide +kernel)
set_option maxRecDepth 65536 in
theorem w_c8 : (Jvm.Cond.code ({ cls := "java/lang/String", name := "equals", desc := "(Ljava/lang/Object;)Z" } : Jvm.MethodName) jdk_42_method_66_code (3 : Nat) (Option.some Jvm.ClassFile.FieldType.boolean)).before args0 about1 = true := code_word (m := ⟨10, 2⟩) (meth := k10m2) (c := k10c2) (by decide +kernel) rfl rfl rfl (by decide +kernel)
set_option maxRecDepth 65536 in
theorem w_c9 : (Jvm.Cond.code ({ cls := "java/lang/StringLatin1", name := "equals", desc := "([B[B)Z" } : Jvm.MethodName) jdk_43_method_13_code (3 : Nat) (Option.some Jvm.ClassFile.FieldType.boolean)).before args0 about1 = true := code_word (m := ⟨11, 1⟩) (meth := k11m1) (c := k11c1) (by decide +kernel) rfl rfl rfl (by decide +kernel)
set_option maxRecDepth 65536 in
theorem w_c10 : (Jvm.Cond.code ({ cls := "java/lang/StringUTF16", name := "compress", desc := "([CII)[B" } : Jvm.MethodName) jdk_52_method_16_code (6 : Nat) (Option.some (Jvm.ClassFile.FieldType.array Jvm.ClassFile.FieldType.byte))).before args0 about1 = true := code_word (m := ⟨12, 2⟩) (meth := k12m2) (c := k12c2) (by decide +kernel) rfl rfl rfl (by decide +kernel)
set_option maxRecDepth 65536 in
theorem w_c11 : (Jvm.Cond.code ({ cls := "java/lang/StringUTF16", name := "compress", desc := "([CI[BII)I" } : Jvm.MethodName) jdk_52_method_21_code (7 : Nat) (Option.some Jvm.ClassFile.FieldType.int)).before args0 about1 = true := code_word (m := ⟨12, 3⟩) (meth := k12m3) (c := k12c3) (by decide +kernel) rfl rfl rfl (by decide +kernel)
set_option maxRecDepth 65536 in
theorem w_c12 : (Jvm.Cond.code ({ cls := "java/lang/StringUTF16", name := "coderFromArrayLen", desc := "([BI)B" } : Jvm.MethodName) jdk_52_method_15_code (2 : Nat) (Option.some Jvm.ClassFile.FieldType.byte)).before args0 about1 = true := code_word (m := ⟨12, 1⟩) (meth := k12m1) (c := k12c1) (by decide +kernel) rfl rfl rfl (by decide +kernel)
def codes1 : List Jvm.Cond := [Jvm.Cond.code x code maxLocals ret, Jvm.Cond.code ({ cls := "com/example/selectivity/selectivity/TokenIsPinLaw", name := "type", desc := "(I)Lcom/example/selectivity/selectivity/Token$Type;" } : Jvm.MethodName) method_2_code (1 : Nat) (Option.some (Jvm.ClassFile.FieldType.object "com/example/selectivity/selectivity/Token$Type")), Jvm.Cond.code ({ cls := "com/example/selectivity/selectivity/TokenIsPinLaw", name := "str", desc := "(ICCC)Ljava/lang/String;" } : Jvm.MethodName) method_3_code (4 : Nat) (Option.some (Jvm.ClassFile.FieldType.object "java/lang/String")), Jvm.Cond.code ({ cls := "java/lang/String", name := "<init>", desc := "([C)V" } : Jvm.MethodName) jdk_42_method_3_code (2 : Nat) (Option.none : Option Jvm.ClassFile.FieldType), Jvm.Cond.code ({ cls := "java/lang/String", name := "<init>", desc := "([CIILjava/lang/Void;)V" } : Jvm.MethodName) jdk_42_method_149_code (6 : Nat) (Option.none : Option Jvm.ClassFile.FieldType), Jvm.Cond.code ({ cls := "java/lang/Object", name := "<init>", desc := "()V" } : Jvm.MethodName) object_method_1_code (1 : Nat) (Option.none : Option Jvm.ClassFile.FieldType), Jvm.Cond.code ({ cls := "com/example/selectivity/selectivity/Token", name := "<init>", desc := "(Lcom/example/selectivity/selectivity/Token$Type;Ljava/lang/String;I)V" } : Jvm.MethodName) prog_32_method_1_code (4 : Nat) (Option.none : Option Jvm.ClassFile.FieldType), Jvm.Cond.code ({ cls := "com/example/selectivity/selectivity/Token", name := "is", desc := "(Lcom/example/selectivity/selectivity/Token$Type;Ljava/lang/String;)Z" } : Jvm.MethodName) prog_32_method_6_code (3 : Nat) (Option.some Jvm.ClassFile.FieldType.boolean), Jvm.Cond.code ({ cls := "java/lang/String", name := "equals", desc := "(Ljava/lang/Object;)Z" } : Jvm.MethodName) jdk_42_method_66_code (3 : Nat) (Option.some Jvm.ClassFile.FieldType.boolean), Jvm.Cond.code ({ cls := "java/lang/StringLatin1", name := "equals", desc := "([B[B)Z" } : Jvm.MethodName) jdk_43_method_13_code (3 : Nat) (Option.some Jvm.ClassFile.FieldType.boolean), Jvm.Cond.code ({ cls := "java/lang/StringUTF16", name := "compress", desc := "([CII)[B" } : Jvm.MethodName) jdk_52_method_16_code (6 : Nat) (Option.some (Jvm.ClassFile.FieldType.array Jvm.ClassFile.FieldType.byte)), Jvm.Cond.code ({ cls := "java/lang/StringUTF16", name := "compress", desc := "([CI[BII)I" } : Jvm.MethodName) jdk_52_method_21_code (7 : Nat) (Option.some Jvm.ClassFile.FieldType.int), Jvm.Cond.code ({ cls := "java/lang/StringUTF16", name := "coderFromArrayLen", desc := "([BI)B" } : Jvm.MethodName) jdk_52_method_15_code (2 : Nat) (Option.some Jvm.ClassFile.FieldType.byte)]
set_option maxRecDepth 65536 in
theorem codes_eq : words1.filter isCode = codes1 := rfl
theorem w_codes : ∀ c ∈ words1.filter isCode, c.before args0 about1 = true := by
  rw [codes_eq]
  intro c hc
  simp only [codes1, List.mem_cons, List.not_mem_nil, or_false] at hc
  rcases hc with rfl | rfl | rfl | rfl | rfl | rfl | rfl | rfl | rfl | rfl | rfl | rfl | rfl
  · exact w_c0
  · exact w_c1
  · exact w_c2
  · exact w_c3
  · exact w_c4
  · exact w_c5
  · exact w_c6
  · exact w_c7
  · exact w_c8
  · exact w_c9
  · exact w_c10
  · exact w_c11
  · exact w_c12
set_option maxRecDepth 65536 in
theorem w_t1 : (words1.take 24).all (fun c => isCode c || c.before args0 about1) = true := by decide +kernel
set_option maxRecDepth 65536 in
theorem w_t2 : ((words1.drop 24).take 24).all (fun c => isCode c || c.before args0 about1) = true := by decide +kernel
set_option maxRecDepth 65536 in
theorem w_t3 : (((words1.drop 24).drop 24).take 24).all (fun c => isCode c || c.before args0 about1) = true := by decide +kernel
set_option maxRecDepth 65536 in
theorem w_t4 : ((((words1.drop 24).drop 24).drop 24).take 24).all (fun c => isCode c || c.before args0 about1) = true := by decide +kernel
set_option maxRecDepth 65536 in
theorem w_t5 : ((((words1.drop 24).drop 24).drop 24).drop 24).all (fun c => isCode c || c.before args0 about1) = true := by decide +kernel
theorem w_tables : (allAtoms (Jvm.Cond.code x code maxLocals ret :: tables_1)).before args0 about1 = true := by
  rw [allAtoms_all]
  show words1.all (fun c => c.before args0 about1) = true
  refine all_split ?_ w_codes
  rw [← List.take_append_drop 24 words1, List.all_append, w_t1, ← List.take_append_drop 24 (words1.drop 24), List.all_append, w_t2, ← List.take_append_drop 24 ((words1.drop 24).drop 24), List.all_append, w_t3, ← List.take_append_drop 24 (((words1.drop 24).drop 24).drop 24), List.all_append, w_t4, w_t5]
  rfl
set_option maxRecDepth 65536 in
theorem w_rest : rest_1_c.before args0 about1 = true := by decide +kernel
set_option maxRecDepth 65536 in
theorem w_case : (Jvm.Cond.and given_1 narrow_1).before args0 about1 = true := by decide +kernel
set_option maxRecDepth 65536 in
theorem w_consts : constsHeld consts_1 about1 := Jvm.Lit.constsHeldB_iff.mp (by decide +kernel)
theorem w_applies : (headSpec (Jvm.Cond.code x code maxLocals ret :: tables_1) room_1).applies x e0.platform about1 = true :=
  (Spec.applies_iff w_frames).mpr ⟨w_running, w_runnable, w_alone, w_named, w_hears, w_ripe, w_room, w_tables⟩
theorem atStart : AtStart classFile x code maxLocals ret World_1 tables_1 room_1 Calls_1 rest_1 Pre_1 launch0 p0 e0 about1 theMethod args0 below0 :=
  ⟨lists_1, trivial, launch0.admits_env _ _ _, launch0.least_env, fairChoices_fair.cas, fairChoices_fair.clock, w_frames, w_args, w_heap, w_applies, ⟨w_consts, trivial⟩, w_rest, w_case⟩
end start1
theorem witness_1 : WitnessClaimed_1 := ⟨start1.p0, start1.e0, start1.about1, start1.theMethod, start1.args0, start1.below0, start1.atStart⟩
end Jvm.Pilot.@@N@@
